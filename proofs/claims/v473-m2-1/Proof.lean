import JvmDerived
import JvmDerived.Pilot.@@N@@Statement
import JvmDerived.Pilot.@@N@@Code
set_option linter.unusedVariables false
set_option linter.unusedSimpArgs false
@@BLOCK:NumsL.lean.txt@@
namespace Jvm.RoadKit
open Sem ClassFile Op Lib Jvm.Stand Jvm.Free Jvm.LawKit
section New
variable {p : Program} {l : Launch} {e : Env} {R : Room} {s : State} {m : MethodId} {args : Array Value} {below : List Frame} {meth : Method} {c : Code} {T : State} {locs : List Loc} {cells slots : Nat}
theorem retI (X : Stand p l e R s m args below meth c T locs cells slots) (hx : p.tables.exec = Jvm.exec) {pc : Nat} {Ls : Array Slot} {z : Int32} {rest : List Value} (hret : meth.sig.returnType = some .int) (hd : decode c.code pc = .ok (.ireturn, 1)) {fs : List Frame}
    (hl : ∀ (f : JFrame) (acts : List Action), f.method = m → f.locked = none → f.entered = [] → (doReturn e (T.setTop f) acts (some (.int z))).1 = T.setFrames fs) : Steps p.tables e below (T.setTop (mkF m pc Ls (.int z :: rest))) (T.setFrames fs) := by
  have hm' : T.vm.method? m = some meth := X.method'
  have hn : narrow .int (.int z) = .int z := rfl
  show Steps p.tables e below (T.setTop { method := m, pc := pc, locals := Ls, stack := _ :: rest, locked := none }) _
  jvm_step X.here [X.here.top, hx, hd, hm', hret, hn]
  first | (intro acts; rw [hl _ acts rfl rfl rfl]) | rw [hl _ _ rfl rfl rfl]
  exact Steps.refl _
end New
end Jvm.RoadKit
namespace Jvm.Pilot.@@N@@
open Jvm Jvm.ClassFile Sem Op Lib Jvm.Free Jvm.Stand Jvm.LawKit Jvm.RoadKit Bundle Jvm.Pilot.@@N@@.Jvm.D
/-! own_Goes: from S the run comes to some state of which G holds: such a goal may be split in the middle of a walk -/
def own_Goes (p : Program) (e : Env) (below : List Frame) (S : State) (G : State → Prop) : Prop := ∃ t, Steps p.tables e below S t ∧ G t
theorem own_via {p : Program} {e : Env} {below : List Frame} {S S' : State} {G : State → Prop} (f : ∀ t, Steps p.tables e below S' t → Steps p.tables e below S t) (h : own_Goes p e below S' G) : own_Goes p e below S G := by
  obtain ⟨t, h1, h2⟩ := h
  exact ⟨t, f t h1, h2⟩
theorem own_end {p : Program} {e : Env} {below : List Frame} {S t : State} {G : State → Prop} (h : Steps p.tables e below S t) (g : G t) : own_Goes p e below S G := ⟨t, h, g⟩
theorem own_out {p : Program} {e : Env} {below : List Frame} {S : State} {P : State → Outcome → Prop} (h : own_Goes p e below S (fun t => ∃ o, t.status = .running ∧ Ended t below o ∧ P t o)) : ∃ t o, Steps p.tables e below S t ∧ t.status = .running ∧ Ended t below o ∧ P t o := by
  obtain ⟨t, h1, o, h2, h3, h4⟩ := h
  exact ⟨t, o, h1, h2, h3, h4⟩
theorem wd {a0 : Array Value} {Z : State} (hw : ∀ d ∈ tables_1, d.before a0 Z = true) (i : Nat) {d : Jvm.Cond} (h : tables_1[i]? = some d) : d.before a0 Z = true := hw _ (List.mem_of_getElem? h)
theorem own_old {Z : State} {n0 : Nat} {h : Heap} (O : Old Z n0 h) : n0 ≤ h.size := by rw [← O.1]; exact O.2.1
def own_Q0 (n0 : Nat) (v : Option Value) (L : List Loc) : Prop := v = some (.int (1 : Int32)) ∧ Fr n0 L
def own_G (s : State) (below : List Frame) (n0 : Nat) (t : State) : Prop := ∃ o, t.status = .running ∧ Ended t below o ∧ ∃ v L, o = .returned v ∧ own_Q0 n0 v L ∧ FrameEnd s o t L room_1.cells room_1.slots
def own_Len (Z : State) (h : Heap) (a : Addr) (ty : FieldType) (n : Int32) : Prop := ∃ k vs d, Arv Z h a k ty n vs d
theorem own_len_ext {Z : State} {h h' : Heap} {a : Addr} {ty : FieldType} {n : Int32} (F : own_Len Z h a ty n) (E : Ext h h') : own_Len Z h' a ty n := by
  obtain ⟨k, vs, d, V⟩ := F
  exact ⟨k, vs, d, V.ext E⟩
theorem own_len_other {Z : State} {h h' : Heap} {a b : Addr} {sl : Nat} {v : Value} {ty : FieldType} {n : Int32} (F : own_Len Z h b ty n) (W : Wr h h' a sl v) (q : b ≠ a) : own_Len Z h' b ty n := by
  obtain ⟨k, vs, d, V⟩ := F
  exact ⟨k, vs, d, V.other W q⟩
theorem own_len_keep {Z : State} {h h' : Heap} {a : Addr} {ws : List Addr} {ty : FieldType} {n : Int32} (F : own_Len Z h a ty n) (K : Keep h h' ws) (q : a ∉ ws) : own_Len Z h' a ty n := by
  obtain ⟨k, vs, d, V⟩ := F
  exact ⟨k, vs, d, V.keep K q⟩
theorem own_len_lt {Z : State} {h : Heap} {a : Addr} {ty : FieldType} {n : Int32} (F : own_Len Z h a ty n) : a < h.size := by
  obtain ⟨k, vs, d, V⟩ := F
  exact V.lt
theorem own_c2 (x : Int32) : x.toUInt32.toUInt16.toUInt32.toInt32.toUInt32.toUInt16.toUInt32.toInt32 = x.toUInt32.toUInt16.toUInt32.toInt32 := by rw [UInt32.toUInt32_toInt32, UInt16.toUInt16_toUInt32]
theorem own_b2 (x : Int32) : x.toInt8.toInt32.toInt8.toInt32 = x.toInt8.toInt32 := by rw [Int8.toInt8_toInt32]
section Calls
variable {p : Program} {l : Launch} {e : Env} {R : Room} {s : State} {m : MethodId} {args : Array Value} {below : List Frame} {meth : Method} {c : Code} {T : State} {locs : List Loc} {cells slots : Nat} {Z : State} {a0 : Array Value} {h : Heap} {own C : String} {index : Nat} {y : MethodName} {bytes : ByteArray} {maxL : Nat} {rm : Room} {Q : Option Value → Heap → List Loc → Prop} {a : Addr} {argsL : List Value} {g : JFrame}
/-! a call by its contract, in one step: virtual (the class's own method), a constructor, static -/
theorem own_cv {ret : Option FieldType} (X : Stand p l e R s m args below meth c T locs cells slots) (hx : p.tables.exec = Jvm.exec) (hZ : Z.Warmed39 s.vm) (hown : s.vm.findClass own = some m.cls) (w1 : (Jvm.Cond.methodLink own index y).before a0 Z = true) (w2 : (Jvm.Cond.declares y).before a0 Z = true) (w3 : (Jvm.Cond.selects C y y).before a0 Z = true) (w4 : (Jvm.Cond.instanceMethod y).before a0 Z = true) (wc : (Jvm.Cond.code y bytes maxL ret).before a0 Z = true) (wz : (Jvm.Cond.initialized y.cls).before a0 Z = true) (hy : y.cls ≠ "java/lang/invoke/MethodHandle" ∧ y.cls ≠ "java/lang/invoke/VarHandle")
    (hM : MetFree l y (head1 [Jvm.Cond.code y bytes maxL ret] rm) (fun A U => A = (.ref a :: argsL).toArray ∧ Z.Warmed39 U.vm ∧ U.heap = h) (fun _ _ _ _ _ => True) (fun _ U o U' => ∃ v L, o = .returned v ∧ Q v U'.heap L ∧ FrameEnd U o U' L rm.cells rm.slots)) (eT : T.heap = h) (E : Exa Z h a C) (hg : g.method = m) (hsize : g.locals.size = c.maxLocals) {rest : List Value} {W : Nat}
    (hlen : ∀ sig, parseMethodDescriptor y.desc = some sig → argsL.length = sig.parameters.length) (hstack : g.stack = argsL.reverse ++ .ref a :: rest) (hW : 2 * g.monitorRoom + (rest.map fun v => v.category).sum ≤ W) (hdg : decode c.code g.pc = .ok (.invokevirtual index, 3)) (r1 : rm.frames + 1 ≤ R.frames) (r2 : W + (maxL + 11) + rm.locals ≤ R.locals) (r3 : cells + rm.cells ≤ R.cells) (r4 : slots + rm.slots ≤ R.slots) :
    ∃ (v : Option Value) (T' : State) (L : List Loc), Stand p l e R s m args below meth c T' (locs ++ L) (cells + rm.cells) (slots + rm.slots) ∧ Q v T'.heap L ∧ ∀ t, Steps p.tables e below (T'.setTop { g with pc := g.pc + 3, stack := v.toList ++ rest }) t → Steps p.tables e below (T.setTop g) t := by
  obtain ⟨cq, kq, qa, -, qc⟩ := isOf hZ eT E
  obtain ⟨v, _, ⟨T', L', c', n'⟩, -, X', ⟨Lc, hQ, l1, y1, z1⟩, st⟩ := X.virtualBack hx (y := y) (z := y) hown (mvT hZ w1) (mvT hZ w2) (notFace_of_selects (args := #[]) (mvT hZ w3)) (mvT hZ w3) (mvT hZ w4) hy (backOf (W := W) hM hZ wc wz r1 r2) qa qc (g := g) hg hsize (Steps.refl _) (argsL := argsL) (rest := rest) hlen hstack hW hdg (fun _ _ => ⟨rfl, eT, r3, r4⟩)
  dsimp only [Pt.U, Pt.locs, Pt.cells, Pt.slots] at X' l1 y1 z1 st hQ
  subst l1 y1 z1
  exact ⟨v, T', Lc, X', hQ, fun t k => st.trans k⟩
theorem own_ci (X : Stand p l e R s m args below meth c T locs cells slots) (hx : p.tables.exec = Jvm.exec) (hZ : Z.Warmed39 s.vm) (hown : s.vm.findClass own = some m.cls) (w1 : (Jvm.Cond.methodLink own index y).before a0 Z = true) (w4 : (Jvm.Cond.instanceMethod y).before a0 Z = true) (wc : (Jvm.Cond.code y bytes maxL none).before a0 Z = true) (wz : (Jvm.Cond.initialized y.cls).before a0 Z = true) (hi : y.name = "<init>") (hy : y.cls ≠ "java/lang/invoke/MethodHandle" ∧ y.cls ≠ "java/lang/invoke/VarHandle")
    (hM : MetFree l y (head1 [Jvm.Cond.code y bytes maxL none] rm) (fun A U => A = (.ref a :: argsL).toArray ∧ Z.Warmed39 U.vm ∧ U.heap = h) (fun _ _ _ _ _ => True) (fun _ U o U' => ∃ v L, o = .returned v ∧ Q v U'.heap L ∧ FrameEnd U o U' L rm.cells rm.slots)) (eT : T.heap = h) (hg : g.method = m) (hsize : g.locals.size = c.maxLocals) {rest : List Value} {W : Nat}
    (hlen : ∀ sig, parseMethodDescriptor y.desc = some sig → argsL.length = sig.parameters.length) (hstack : g.stack = argsL.reverse ++ .ref a :: rest) (hW : 2 * g.monitorRoom + (rest.map fun v => v.category).sum ≤ W) (hdg : decode c.code g.pc = .ok (.invokespecial index, 3)) (r1 : rm.frames + 1 ≤ R.frames) (r2 : W + (maxL + 11) + rm.locals ≤ R.locals) (r3 : cells + rm.cells ≤ R.cells) (r4 : slots + rm.slots ≤ R.slots) :
    ∃ (v : Option Value) (T' : State) (L : List Loc), Stand p l e R s m args below meth c T' (locs ++ L) (cells + rm.cells) (slots + rm.slots) ∧ Q v T'.heap L ∧ ∀ t, Steps p.tables e below (T'.setTop { g with pc := g.pc + 3, stack := v.toList ++ rest }) t → Steps p.tables e below (T.setTop g) t := by
  obtain ⟨v, _, ⟨T', L', c', n'⟩, -, X', ⟨Lc, hQ, l1, y1, z1⟩, st⟩ := X.specialBack hx (y := y) hi hown (mvT hZ w1) (mvT hZ w4) (mvT hZ wc) hy (backOf (W := W) hM hZ wc wz r1 r2) (g := g) hg hsize (Steps.refl _) (a := a) (argsL := argsL) (rest := rest) hlen hstack hW hdg (fun _ _ => ⟨rfl, eT, r3, r4⟩)
  dsimp only [Pt.U, Pt.locs, Pt.cells, Pt.slots] at X' l1 y1 z1 st hQ
  subst l1 y1 z1
  exact ⟨v, T', Lc, X', hQ, fun t k => st.trans k⟩
theorem own_cs {ret : Option FieldType} (X : Stand p l e R s m args below meth c T locs cells slots) (hx : p.tables.exec = Jvm.exec) (hZ : Z.Warmed39 s.vm) (hown : s.vm.findClass own = some m.cls) (w1 : (Jvm.Cond.methodLink own index y).before a0 Z = true) (w4 : (Jvm.Cond.static y).before a0 Z = true) (wc : (Jvm.Cond.code y bytes maxL ret).before a0 Z = true) (wz : (Jvm.Cond.initialized y.cls).before a0 Z = true) (hy : y.cls ≠ "java/lang/invoke/MethodHandle" ∧ y.cls ≠ "java/lang/invoke/VarHandle")
    (hM : MetFree l y (head1 [Jvm.Cond.code y bytes maxL ret] rm) (fun A U => A = argsL.toArray ∧ Z.Warmed39 U.vm ∧ U.heap = h) (fun _ _ _ _ _ => True) (fun _ U o U' => ∃ v L, o = .returned v ∧ Q v U'.heap L ∧ FrameEnd U o U' L rm.cells rm.slots)) (eT : T.heap = h) (hg : g.method = m) (hsize : g.locals.size = c.maxLocals) {rest : List Value} {W : Nat}
    (hlen : ∀ sig, parseMethodDescriptor y.desc = some sig → argsL.length = sig.parameters.length) (hstack : g.stack = argsL.reverse ++ rest) (hW : 2 * g.monitorRoom + (rest.map fun v => v.category).sum ≤ W) (hdg : decode c.code g.pc = .ok (.invokestatic index, 3)) (r1 : rm.frames + 1 ≤ R.frames) (r2 : W + (maxL + 11) + rm.locals ≤ R.locals) (r3 : cells + rm.cells ≤ R.cells) (r4 : slots + rm.slots ≤ R.slots) :
    ∃ (v : Option Value) (T' : State) (L : List Loc), Stand p l e R s m args below meth c T' (locs ++ L) (cells + rm.cells) (slots + rm.slots) ∧ Q v T'.heap L ∧ ∀ t, Steps p.tables e below (T'.setTop { g with pc := g.pc + 3, stack := v.toList ++ rest }) t → Steps p.tables e below (T.setTop g) t := by
  obtain ⟨v, _, ⟨T', L', c', n'⟩, -, X', ⟨Lc, hQ, l1, y1, z1⟩, st⟩ := Jvm.LawKit.callS X hx (y := y) hown (mvT hZ w1) (mvT hZ w4) (mvT hZ wz) (mvT hZ wc) hy (backOf (W := W) hM hZ wc wz r1 r2) (g := g) hg hsize (argsL := argsL) (rest := rest) hlen hstack hW hdg (fun _ _ => ⟨rfl, eT, r3, r4⟩)
  dsimp only [Pt.U, Pt.locs, Pt.cells, Pt.slots] at X' l1 y1 z1 st hQ
  subst l1 y1 z1
  exact ⟨v, T', Lc, X', hQ, st⟩
end Calls
theorem own_eq_ref {args : Array Value} {s : State} {a b : Term} {w : Addr} (h : (Jvm.Cond.eq a b).value args s none s [] = some true) (hb : b.eval args s none [] s = some (.ref w)) : a.eval args s none [] s = some (.ref w) := by
  obtain ⟨x, y, e1, e2, k1, k2⟩ := cmp_v (Or.inl h)
  rw [hb] at e2
  cases e2
  have hx : x.isRef = true := by cases x <;> simp_all [Kin, Value.isRef]
  have q := gotT (eq_R e1 hb hx rfl) h
  rw [e1, q]
theorem own_ne_ref {args : Array Value} {s : State} {a b : Term} {u w : Addr} (h : (Jvm.Cond.not (Jvm.Cond.eq a b)).value args s none s [] = some true) (ha : a.eval args s none [] s = some (.ref u)) (hb : b.eval args s none [] s = some (.ref w)) : u ≠ w := fun q => gotF (eq_R ha hb rfl rfl) (not_v h) (by rw [q])
theorem own_nn_mask (x m : Int32) (k : Nat) (hk : k < 32) (hm : m.toBitVec.toNat = 2 ^ k - 1) : ¬ ((x &&& m) < (0 : Int32)) := by
  rw [Int32.lt_iff_toInt_lt, Jvm.Kit.i32_mask x m hk hm]
  have h := Int.emod_nonneg x.toInt (show ((2 : Int) ^ k) ≠ 0 from Int.ne_of_gt (Int.pow_pos (by decide)))
  rw [Int32.toInt_zero]
  omega
theorem own_lt_mask (x m : Int32) (k : Nat) (hk : k < 32) (hm : m.toBitVec.toNat = 2 ^ k - 1) {n : Int32} (hn : n.toInt = 2 ^ k) : (x &&& m) < n := by
  rw [Int32.lt_iff_toInt_lt, Jvm.Kit.i32_mask x m hk hm, hn]
  exact Int.emod_lt_of_pos _ (Int.pow_pos (by decide))
theorem own_nn_rem {x : Int32} (n : Int32) (h : ¬ (x < (0 : Int32))) : ¬ (x % n < (0 : Int32)) := by
  rw [Int32.lt_iff_toInt_lt, Int32.toInt_zero] at h ⊢
  rw [Int32.toInt_mod]
  have := Int.tmod_nonneg n.toInt (show 0 ≤ x.toInt by omega)
  omega
theorem own_pos {n : Int32} (h : (0 : Int32) < n) : 0 < n.toInt := by
  rw [Int32.lt_iff_toInt_lt, Int32.toInt_zero] at h
  exact h
theorem own_ne0 {n : Int32} (h : (0 : Int32) < n) : n ≠ 0 := fun q => by
  rw [q] at h
  exact absurd h (by decide)
theorem own_lt_rem {x : Int32} (n : Int32) (h : ¬ (x < (0 : Int32))) (hn : 0 < n.toInt) : x % n < n := by
  rw [Int32.lt_iff_toInt_lt] at h ⊢
  rw [Int32.toInt_zero] at h
  rw [Jvm.Kit.i32_rem_nonneg (by omega)]
  exact Int.emod_lt_of_pos _ hn
theorem own_modlo (x n : Int32) (hn : 0 < n.toInt) : 0 ≤ ((x &&& (2147483647 : Int32)) % n).toInt := by
  have a := Jvm.Kit.i32_mask x 2147483647 (k := 31) (by decide) (by decide)
  rw [Jvm.Kit.i32_rem_nonneg (by omega)]
  exact Int.emod_nonneg _ (by omega)
theorem own_modhi (x n : Int32) (hn : 0 < n.toInt) : ((x &&& (2147483647 : Int32)) % n).toInt < n.toInt := by
  have a := Jvm.Kit.i32_mask x 2147483647 (k := 31) (by decide) (by decide)
  rw [Jvm.Kit.i32_rem_nonneg (by omega)]
  exact Int.emod_lt_of_pos _ hn
theorem own_cases_3 (y : Int32) (h0 : 0 ≤ y.toInt) (h1 : y.toInt < 3) : y = (0 : Int32) ∨ y = (1 : Int32) ∨ y = (2 : Int32) := by
  have e : ∀ k : Int32, y.toInt = k.toInt → y = k := fun k q => Int32.toInt_inj.mp q
  rcases (by omega : y.toInt = 0 ∨ y.toInt = 1 ∨ y.toInt = 2) with q | q | q
  · exact Or.inl (e 0 (q.trans rfl))
  · exact Or.inr <| Or.inl (e 1 (q.trans rfl))
  · exact Or.inr <| Or.inr <| (e 2 (q.trans rfl))
theorem own_cases_2 (y : Int32) (h0 : 0 ≤ y.toInt) (h1 : y.toInt < 2) : y = (0 : Int32) ∨ y = (1 : Int32) := by
  have e : ∀ k : Int32, y.toInt = k.toInt → y = k := fun k q => Int32.toInt_inj.mp q
  rcases (by omega : y.toInt = 0 ∨ y.toInt = 1) with q | q
  · exact Or.inl (e 0 (q.trans rfl))
  · exact Or.inr <| (e 1 (q.trans rfl))
abbrev zs1 : String := "com/example/kempt_envelope/kemptenvelope/JsonTape"
abbrev zs2 : String := "com/example/kempt_envelope/kemptenvelope/JsonTapeNextPinLaw"
abbrev zs3 : String := "com/example/kempt_envelope/kemptenvelope/JsonTape$Decoded"
abbrev zs4 : String := "[Lcom/example/kempt_envelope/kemptenvelope/JsonTape$Decoded;"
theorem d1_0 : decode prog_17_method_1_code 0 = .ok (.aload_n 0, 1) := by decide +kernel
theorem d1_1 : decode prog_17_method_1_code 1 = .ok (.invokespecial 3, 3) := by decide +kernel
theorem d1_4 : decode prog_17_method_1_code 4 = .ok (.aload_n 0, 1) := by decide +kernel
theorem d1_5 : decode prog_17_method_1_code 5 = .ok (.bipush 64, 2) := by decide +kernel
theorem d1_7 : decode prog_17_method_1_code 7 = .ok (.anewarray 9, 3) := by decide +kernel
theorem d1_10 : decode prog_17_method_1_code 10 = .ok (.putfield 11, 3) := by decide +kernel
theorem d1_13 : decode prog_17_method_1_code 13 = .ok (.aload_n 0, 1) := by decide +kernel
theorem d1_14 : decode prog_17_method_1_code 14 = .ok (.iconst 1, 1) := by decide +kernel
theorem d1_15 : decode prog_17_method_1_code 15 = .ok (.anewarray 15, 3) := by decide +kernel
theorem d1_18 : decode prog_17_method_1_code 18 = .ok (.putfield 17, 3) := by decide +kernel
theorem d1_21 : decode prog_17_method_1_code 21 = .ok (.aload_n 0, 1) := by decide +kernel
theorem d1_22 : decode prog_17_method_1_code 22 = .ok (.aload_n 1, 1) := by decide +kernel
theorem d1_23 : decode prog_17_method_1_code 23 = .ok (.putfield 21, 3) := by decide +kernel
theorem d1_26 : decode prog_17_method_1_code 26 = .ok (.aload_n 0, 1) := by decide +kernel
theorem d1_27 : decode prog_17_method_1_code 27 = .ok (.sipush 16384, 3) := by decide +kernel
theorem d1_30 : decode prog_17_method_1_code 30 = .ok (.aload_n 1, 1) := by decide +kernel
theorem d1_31 : decode prog_17_method_1_code 31 = .ok (.arraylength, 1) := by decide +kernel
theorem d1_32 : decode prog_17_method_1_code 32 = .ok (.bipush 8, 2) := by decide +kernel
theorem d1_34 : decode prog_17_method_1_code 34 = .ok (.idiv, 1) := by decide +kernel
theorem d1_35 : decode prog_17_method_1_code 35 = .ok (.bipush 16, 2) := by decide +kernel
theorem d1_37 : decode prog_17_method_1_code 37 = .ok (.iadd, 1) := by decide +kernel
theorem d1_38 : decode prog_17_method_1_code 38 = .ok (.invokestatic 25, 3) := by decide +kernel
theorem d3_0 : decode jdk_29_method_69_code 0 = .ok (.iload_n 0, 1) := by decide +kernel
theorem d3_1 : decode jdk_29_method_69_code 1 = .ok (.iload_n 1, 1) := by decide +kernel
theorem d3_2 : decode jdk_29_method_69_code 2 = .ok (.if_icmp .gt 7, 3) := by decide +kernel
theorem d3_9 : decode jdk_29_method_69_code 9 = .ok (.iload_n 1, 1) := by decide +kernel
theorem d3_10 : decode jdk_29_method_69_code 10 = .ok (.ireturn, 1) := by decide +kernel
theorem ef_1 (m : MethodId) (x0 : Int32) (x1 : Int32) : entryFrame m #[(.int x0), (.int x1)] 2 = mkF m 0 #[iv x0, iv x1] [] := by first | (simp [entryFrame, mkF, argsToLocals, Value.category]; done) | rfl
def Q1 (Z : State)  (h0 : Heap) (n0 : Nat) (v : Option Value) (h : Heap) (L : List Loc) : Prop := v = some (.int (16 : Int32)) ∧ Fr n0 L ∧ h = h0
set_option maxRecDepth 65536 in
set_option maxHeartbeats 40000000 in
theorem rm1 (l : Launch) (Z : State) (a0 : Array Value) (hw : ∀ d ∈ tables_1, d.before a0 Z = true) (ws : List Jvm.Cond)  (h0 : Heap) (n0 : Nat) (O0 : Old Z n0 h0) :
    MetFree l (⟨"java/lang/Math", "min", "(II)I"⟩ : MethodName) (head1 (Jvm.Cond.code (⟨"java/lang/Math", "min", "(II)I"⟩ : MethodName) jdk_29_method_69_code 2 (some .int) :: ws) ({ frames := 0, cells := 0, slots := 0, locals := 0 } : Room)) (fun a U => a = #[(.int (16384 : Int32)), (.int (16 : Int32))] ∧ Z.Warmed39 U.vm ∧ U.heap = h0) (fun _ _ _ _ _ => True) (fun _ U o U' => ∃ v L, o = .returned v ∧ Q1 Z  h0 n0 v U'.heap L ∧ FrameEnd U o U' L ({ frames := 0, cells := 0, slots := 0, locals := 0 } : Room).cells ({ frames := 0, cells := 0, slots := 0, locals := 0 } : Room).slots) := by
  refine MetFree.of_bodySF (Jvm.Free.JP.mathPlain rfl (by decide +kernel)) hisR ?_
  intro p e s m args below meth c s₁ Bd hml0 hP hK
  obtain ⟨rfl, hZ, hh⟩ := hP
  have hx := Bd.exec
  have hby := Bd.bytes
  have hml : c.maxLocals = 2 := hml0
  have hown : s.vm.findClass "java/lang/Math" = some m.cls := findClass_of_methodNamed Bd.named
  have hnm := (name_of_methodNamed Bd.named Bd.method).1
  have X0 : Stand p l e ({ frames := 0, cells := 0, slots := 0, locals := 0 } : Room) s m #[(.int (16384 : Int32)), (.int (16 : Int32))] below meth c s₁ [] 0 0 := Stand.of_body Bd
  have e0 : s₁.heap = h0 := by rw [← hh, Bd.state]; rfl
  have N0 := Fr.nil n0
  refine own_out ?_
  refine own_via (fun t k => castTop (ef_1 m (16384 : Int32) (16 : Int32)) (XS.iloadN X0.here hx rfl (hb hby d3_0) rfl (XS.iloadN X0.here hx rfl (hb hby d3_1) rfl (XS.icmpYes X0.here hx rfl (pc0 := 2) (pc' := 9) rfl (hb hby d3_2) rfl (tlt (by decide : (16 : Int32) < (16384 : Int32))).2.2.1 (by decide) (by decide) (XS.iloadN X0.here hx rfl (hb hby d3_9) rfl k))))) ?_
  show own_Goes p e below (s₁.setTop (mkF m 10 #[iv (16384 : Int32), iv (16 : Int32)] [(.int (16 : Int32))])) _
  obtain ⟨fs, hr, hrun, hended, hW, hsame⟩ := X0.leave (v := some (.int (16 : Int32))) (fun h => by rw [Bd.returns] at h; cases h)
  refine own_end (t := s₁.setFrames fs) ?_ ⟨_, hrun, hended, _, _, rfl, ?_, ⟨_, rfl⟩, hW, hsame.mono (by decide) (by decide)⟩
  · exact retI X0 hx Bd.returns (hb hby d3_10) hr
  · show Q1 Z  h0 n0 _ s₁.heap _
    rw [e0]
    exact ⟨rfl, N0, rfl⟩
theorem pd_1 : parseMethodDescriptor "(II)I" = some ⟨[.int, .int], some .int⟩ := by decide +kernel
theorem d1_41 : decode prog_17_method_1_code 41 = .ok (.newarray .int, 2) := by decide +kernel
theorem d1_43 : decode prog_17_method_1_code 43 = .ok (.putfield 31, 3) := by decide +kernel
theorem d1_46 : decode prog_17_method_1_code 46 = .ok (.aload_n 0, 1) := by decide +kernel
theorem d1_47 : decode prog_17_method_1_code 47 = .ok (.getfield 17, 3) := by decide +kernel
theorem d1_50 : decode prog_17_method_1_code 50 = .ok (.iconst 0, 1) := by decide +kernel
theorem d1_51 : decode prog_17_method_1_code 51 = .ok (.aload_n 0, 1) := by decide +kernel
theorem d1_52 : decode prog_17_method_1_code 52 = .ok (.getfield 31, 3) := by decide +kernel
theorem d1_55 : decode prog_17_method_1_code 55 = .ok (.aastore, 1) := by decide +kernel
theorem d1_56 : decode prog_17_method_1_code 56 = .ok (.return_, 1) := by decide +kernel
theorem ef_2 (m : MethodId) (x0 : Addr) (x1 : Addr) : entryFrame m #[(.ref x0), (.ref x1)] 2 = mkF m 0 #[rv x0, rv x1] [] := by first | (simp [entryFrame, mkF, argsToLocals, Value.category]; done) | rfl
theorem pn_1 : plainName "com/example/kempt_envelope/kemptenvelope/JsonTape" = true := by first | (simp [plainName, overriddenIn]; done) | decide +kernel
def Q2 (Z : State) (a27 : Addr) (a28 : Addr) (p32 : Int32) (h0 : Heap) (n0 : Nat) (v : Option Value) (h : Heap) (L : List Loc) : Prop := (∃ (b91 : Addr) (k90 : ClassId), v = none ∧ Fr n0 L ∧ Keep h0 h [a27] ∧ Exa Z h a27 zs1 ∧ Fld Z h a27 zs1 "text" "[B" (.ref a28) ∧ Fld Z h a27 zs1 "first" "[I" (.ref b91) ∧ Fld Z h a27 zs1 "length" "I" (.int p32) ∧ h0.size ≤ b91 ∧ Arv Z h b91 k90 .int (16 : Int32) [(.int (0 : Int32)), (.int (0 : Int32)), (.int (0 : Int32)), (.int (0 : Int32)), (.int (0 : Int32)), (.int (0 : Int32)), (.int (0 : Int32)), (.int (0 : Int32)), (.int (0 : Int32))] (.int (0 : Int32)) ∧ Exa Z h b91 "[I")
set_option maxRecDepth 65536 in
set_option maxHeartbeats 40000000 in
theorem rm2 (l : Launch) (Z : State) (a0 : Array Value) (hw : ∀ d ∈ tables_1, d.before a0 Z = true) (ws : List Jvm.Cond) (a27 : Addr) (a28 : Addr) (p32 : Int32) (h0 : Heap) (n0 : Nat) (O0 : Old Z n0 h0) (pF_a27_kept : Fld Z h0 a27 zs1 "kept" zs4 .null) (pE_a27 : Exa Z h0 a27 zs1) (pG_a27 : n0 ≤ a27) (pF_a27_chunks : Fld Z h0 a27 zs1 "chunks" "[[I" .null) (pF_a27_text : Fld Z h0 a27 zs1 "text" "[B" .null) (pL_a28 : own_Len Z h0 a28 .byte (2 : Int32)) (pN_a28_a27 : a28 ≠ a27) (pF_a27_first : Fld Z h0 a27 zs1 "first" "[I" .null) (pF_a27_length : Fld Z h0 a27 zs1 "length" "I" (.int p32)) :
    MetFree l (⟨zs1, "<init>", "([B)V"⟩ : MethodName) (head1 (Jvm.Cond.code (⟨zs1, "<init>", "([B)V"⟩ : MethodName) prog_17_method_1_code 2 none :: ws) ({ frames := 1, cells := 3, slots := 81, locals := 14 } : Room)) (fun a U => a = #[(.ref a27), (.ref a28)] ∧ Z.Warmed39 U.vm ∧ U.heap = h0) (fun _ _ _ _ _ => True) (fun _ U o U' => ∃ v L, o = .returned v ∧ Q2 Z a27 a28 p32 h0 n0 v U'.heap L ∧ FrameEnd U o U' L ({ frames := 1, cells := 3, slots := 81, locals := 14 } : Room).cells ({ frames := 1, cells := 3, slots := 81, locals := 14 } : Room).slots) := by
  refine MetFree.of_bodySF (plainFor_of_name pn_1) hisR ?_
  intro p e s m args below meth c s₁ Bd hml0 hP hK
  obtain ⟨rfl, hZ, hh⟩ := hP
  have hx := Bd.exec
  have hby := Bd.bytes
  have hml : c.maxLocals = 2 := hml0
  have hown : s.vm.findClass zs1 = some m.cls := findClass_of_methodNamed Bd.named
  have hnm := (name_of_methodNamed Bd.named Bd.method).1
  have X0 : Stand p l e ({ frames := 1, cells := 3, slots := 81, locals := 14 } : Room) s m #[(.ref a27), (.ref a28)] below meth c s₁ [] 0 0 := Stand.of_body Bd
  have e0 : s₁.heap = h0 := by rw [← hh, Bd.state]; rfl
  have N0 := Fr.nil n0
  refine own_out ?_
  refine own_via (fun t k => castTop (ef_2 m a27 a28) (XS.aloadN X0.here hx rfl (hb hby d1_0) rfl rfl k)) ?_
  obtain ⟨T42, X42, e42, st42⟩ := initO X0 hx hZ hown (wd hw 8 rfl) (wd hw 9 rfl) (wd hw 10 rfl) e0 (g := (mkF m 1 #[rv a27, rv a28] [(.ref a27)])) rfl (by rw [hml]; rfl) rfl (hb hby d1_1) (by decide) (W := 0) (by show 2 * 0 + _ ≤ _; exact Nat.le_of_eq rfl) (by decide)
  refine own_via (fun t k => st42 t (XS.aloadN X42.here hx rfl (hb hby d1_4) rfl rfl (XS.bipush X42.here hx rfl (hb hby d1_5) k))) ?_
  show own_Goes p e below (T42.setTop (mkF m 7 #[rv a27, rv a28] [(.int (64 : Int32)), (.ref a27)])) _
  obtain ⟨T43, h43, k43, X43, e43, E43, A43, O43, st43⟩ := newR X42 hx hZ hown (wd hw 11 rfl) (wd hw 12 rfl) e42 (g := (mkF m 7 #[rv a27, rv a28] [(.int (64 : Int32)), (.ref a27)])) rfl (hb hby d1_7) rfl (by decide) (cap := 64) (by decide) (by decide) (by decide) (by decide)
  obtain ⟨b44, q43⟩ : ∃ z, z = h0.size := ⟨_, rfl⟩
  rw [← q43] at A43 st43
  refine own_via (fun t k => st43 t k) ?_
  have g45 : n0 ≤ b44 := Nat.le_trans (own_old O0) (Nat.le_of_eq q43.symm)
  have B46 : h0.size ≤ b44 := Nat.le_trans (Nat.le_refl _) (Nat.le_of_eq q43.symm)
  have V47 : Arv Z h43 b44 k43 (.object zs3) (64 : Int32) [] .null := Arv.new A43 (by decide)
  show own_Goes p e below (T43.setTop (mkF m 10 #[rv a27, rv a28] [(.ref b44), (.ref a27)])) _
  have F48 : Fld Z h43 a27 zs1 "kept" zs4 .null := (pF_a27_kept.ext E43)
  have E49 : Exa Z h43 a27 zs1 := (pE_a27.ext E43)
  obtain ⟨T50, h50, X50, e50, W50, st50⟩ := putF X43 hx hZ hown (host := "") (Or.inl (wd hw 13 rfl)) Via.refl e43 F48 E49 (Or.inr ⟨(wd hw 14 rfl), rfl, hnm⟩) (wd hw 3 rfl) (ty := (.array (.object zs3))) (by decide) rfl rfl (g := (mkF m 10 #[rv a27, rv a28] [(.ref b44), (.ref a27)])) rfl rfl (hb hby d1_10)
  refine own_via (fun t k => st50 t k) ?_
  have Fw50 : Fld Z h50 a27 zs1 "kept" zs4 (.ref b44) := F48.same W50
  have N50 := Fr.snoc X50 N0 pG_a27
  show own_Goes p e below (T50.setTop (mkF m 13 #[rv a27, rv a28] [])) _
  refine own_via (fun t k => XS.aloadN X50.here hx rfl (hb hby d1_13) rfl rfl (XS.iconst X50.here hx rfl (hb hby d1_14) k)) ?_
  obtain ⟨T51, h51, k51, X51, e51, E51, A51, -, O51, st51⟩ := newRA X50 hx hZ hown (C := "[I") (ty := .int) (by decide) (wd hw 15 rfl) (wd hw 16 rfl) e50 (g := (mkF m 15 #[rv a27, rv a28] [(.int (1 : Int32)), (.ref a27)])) rfl (hb hby d1_15) rfl (by decide) (cap := 1) (by decide) (by decide) (by decide) (by decide) (ad := "[[I") (by decide)
  obtain ⟨b52, q51⟩ : ∃ z, z = h50.size := ⟨_, rfl⟩
  rw [← q51] at A51 st51
  refine own_via (fun t k => st51 t k) ?_
  have V54 : Arv Z h50 b44 k43 (.object zs3) (64 : Int32) [] .null := (V47.other W50 (Ne.symm (Nat.ne_of_lt (Nat.lt_of_lt_of_le pE_a27.lt B46))))
  have N53 : b44 ≠ b52 := Nat.ne_of_lt (Nat.lt_of_lt_of_le V54.lt (Nat.le_of_eq q51.symm))
  have O56 : Old Z n0 h50 := ((O0.ext E43).wr W50 pG_a27)
  have g55 : n0 ≤ b52 := Nat.le_trans (own_old O56) (Nat.le_of_eq q51.symm)
  have Z58 : h0.size ≤ h50.size := (Nat.le_trans (Nat.le_trans (Nat.le_refl _) E43.1) (Nat.le_of_eq W50.size.symm))
  have B57 : h0.size ≤ b52 := Nat.le_trans Z58 (Nat.le_of_eq q51.symm)
  have V59 : Arv Z h51 b52 k51 (.array .int) (1 : Int32) [] .null := Arv.new A51 (by decide)
  show own_Goes p e below (T51.setTop (mkF m 18 #[rv a27, rv a28] [(.ref b52), (.ref a27)])) _
  have F60 : Fld Z h51 a27 zs1 "chunks" "[[I" .null := (((pF_a27_chunks.ext E43).other W50 (Or.inr (slot_ne (Or.inl (wd hw 18 rfl)) (Or.inr (wd hw 14 rfl)) (by decide) (t := (.array (.array .int))) (t' := (.array (.object zs3))) (by decide) (by decide)))).ext E51)
  have E61 : Exa Z h51 a27 zs1 := ((E49.wr W50).ext E51)
  obtain ⟨T62, h62, X62, e62, W62, st62⟩ := putF X51 hx hZ hown (host := "") (Or.inl (wd hw 17 rfl)) Via.refl e51 F60 E61 (Or.inl (wd hw 18 rfl)) (wd hw 3 rfl) (ty := (.array (.array .int))) (by decide) rfl rfl (g := (mkF m 18 #[rv a27, rv a28] [(.ref b52), (.ref a27)])) rfl rfl (hb hby d1_18)
  refine own_via (fun t k => st62 t k) ?_
  have Fw62 : Fld Z h62 a27 zs1 "chunks" "[[I" (.ref b52) := F60.same W62
  have N62 := Fr.snoc X62 N50 pG_a27
  show own_Goes p e below (T62.setTop (mkF m 21 #[rv a27, rv a28] [])) _
  refine own_via (fun t k => XS.aloadN X62.here hx rfl (hb hby d1_21) rfl rfl (XS.aloadN X62.here hx rfl (hb hby d1_22) rfl rfl k)) ?_
  have F63 : Fld Z h62 a27 zs1 "text" "[B" .null := ((((pF_a27_text.ext E43).other W50 (Or.inr (slot_ne (Or.inr (wd hw 20 rfl)) (Or.inr (wd hw 14 rfl)) (by decide) (t := (.array .byte)) (t' := (.array (.object zs3))) (by decide) (by decide)))).ext E51).other W62 (Or.inr (slot_ne (Or.inr (wd hw 20 rfl)) (Or.inl (wd hw 18 rfl)) (by decide) (t := (.array .byte)) (t' := (.array (.array .int))) (by decide) (by decide))))
  have E64 : Exa Z h62 a27 zs1 := (E61.wr W62)
  obtain ⟨T65, h65, X65, e65, W65, st65⟩ := putF X62 hx hZ hown (host := "") (Or.inl (wd hw 19 rfl)) Via.refl e62 F63 E64 (Or.inr ⟨(wd hw 20 rfl), rfl, hnm⟩) (wd hw 3 rfl) (ty := (.array .byte)) (by decide) rfl rfl (g := (mkF m 23 #[rv a27, rv a28] [(.ref a28), (.ref a27)])) rfl rfl (hb hby d1_23)
  refine own_via (fun t k => st65 t k) ?_
  have Fw65 : Fld Z h65 a27 zs1 "text" "[B" (.ref a28) := F63.same W65
  have N65 := Fr.snoc X65 N62 pG_a27
  show own_Goes p e below (T65.setTop (mkF m 26 #[rv a27, rv a28] [])) _
  refine own_via (fun t k => XS.aloadN X65.here hx rfl (hb hby d1_26) rfl rfl (XS.sipush X65.here hx rfl (hb hby d1_27) (XS.aloadN X65.here hx rfl (hb hby d1_30) rfl rfl k))) ?_
  show own_Goes p e below (T65.setTop (mkF m 31 #[rv a27, rv a28] [(.ref a28), (.int (16384 : Int32)), (.ref a27)])) _
  have L66 : own_Len Z h65 a28 .byte (2 : Int32) := (own_len_other (own_len_other (own_len_ext (own_len_other (own_len_ext pL_a28 E43) W50 pN_a28_a27) E51) W62 pN_a28_a27) W65 pN_a28_a27)
  obtain ⟨_, _, _, V67⟩ := id (L66)
  obtain ⟨cl67, Ar67, -, S67, M67, -, -⟩ := id (V67)
  refine own_via (fun t k => X65.arraylength hx (by rw [e65]; exact Ar67.1) (State.isArrayOf_alike hZ.alike Ar67.2.1) (g := (mkF m 31 #[rv a27, rv a28] [(.ref a28), (.int (16384 : Int32)), (.ref a27)])) rfl rfl (hb hby d1_31) t k) ?_
  rw [len_of S67 M67]
  show own_Goes p e below (T65.setTop (mkF m 32 #[rv a27, rv a28] [(.int (2 : Int32)), (.int (16384 : Int32)), (.ref a27)])) _
  refine own_via (fun t k => XS.bipush X65.here hx rfl (hb hby d1_32) (XS.idiv X65.here hx rfl (hb hby d1_34) rfl (by decide) (XS.bipush X65.here hx rfl (hb hby d1_35) (XS.iadd X65.here hx rfl (hb hby d1_37) rfl k)))) ?_
  show own_Goes p e below (T65.setTop (mkF m 38 #[rv a27, rv a28] [(.int (16 : Int32)), (.int (16384 : Int32)), (.ref a27)])) _
  have O88 : Old Z n0 h65 := (((O56.ext E51).wr W62 pG_a27).wr W65 pG_a27)
  obtain ⟨_, T68, _, X68, hQ68, st68⟩ := own_cs X65 hx hZ hown (wd hw 21 rfl) (wd hw 22 rfl) (wd hw 24 rfl) (wd hw 23 rfl) (by decide) (rm1 l Z a0 hw []  h65 n0 O88 ) e65 (g := (mkF m 38 #[rv a27, rv a28] [(.int (16 : Int32)), (.int (16384 : Int32)), (.ref a27)])) rfl (by rw [hml]; rfl) (rest := [(.ref a27)]) (W := 1) (lenOf pd_1 rfl) rfl (by show 2 * 0 + _ ≤ _; exact Nat.le_of_eq rfl) (hb hby d1_38) (by decide) (by decide) (by decide) (by decide)
  obtain ⟨rfl, Nq68, hh89⟩ := hQ68
  have N68 := Fr.app N65 Nq68
  refine own_via (fun t k => st68 t k) ?_
  obtain ⟨T90, h90, k90, X90, e90, E90, A90, a90x, st90⟩ := newPE X68 hx hZ (wd hw 25 rfl) hh89 (g := (mkF m 41 #[rv a27, rv a28] [(.int (16 : Int32)), (.ref a27)])) rfl (hb hby d1_41) rfl (by decide) (cap := 16) (by decide) (by decide) (by decide) (by decide) (ad := "[I") (by decide)
  obtain ⟨b91, q90⟩ : ∃ z, z = h65.size := ⟨_, rfl⟩
  rw [← q90] at A90 st90 a90x
  refine own_via (fun t k => st90 t k) ?_
  have V93 : Arv Z h65 b44 k43 (.object zs3) (64 : Int32) [] .null := (((V54.ext E51).other W62 (Ne.symm (Nat.ne_of_lt (Nat.lt_of_lt_of_le pE_a27.lt B46)))).other W65 (Ne.symm (Nat.ne_of_lt (Nat.lt_of_lt_of_le pE_a27.lt B46))))
  have N92 : b44 ≠ b91 := Nat.ne_of_lt (Nat.lt_of_lt_of_le V93.lt (Nat.le_of_eq q90.symm))
  have V95 : Arv Z h65 b52 k51 (.array .int) (1 : Int32) [] .null := ((V59.other W62 (Ne.symm (Nat.ne_of_lt (Nat.lt_of_lt_of_le pE_a27.lt B57)))).other W65 (Ne.symm (Nat.ne_of_lt (Nat.lt_of_lt_of_le pE_a27.lt B57))))
  have N94 : b52 ≠ b91 := Nat.ne_of_lt (Nat.lt_of_lt_of_le V95.lt (Nat.le_of_eq q90.symm))
  have g96 : n0 ≤ b91 := Nat.le_trans (own_old O88) (Nat.le_of_eq q90.symm)
  have Z98 : h0.size ≤ h65.size := (Nat.le_trans (Nat.le_trans (Nat.le_trans Z58 E51.1) (Nat.le_of_eq W62.size.symm)) (Nat.le_of_eq W65.size.symm))
  have B97 : h0.size ≤ b91 := Nat.le_trans Z98 (Nat.le_of_eq q90.symm)
  have V99 : Arv Z h90 b91 k90 .int (16 : Int32) [(.int (0 : Int32)), (.int (0 : Int32)), (.int (0 : Int32)), (.int (0 : Int32)), (.int (0 : Int32)), (.int (0 : Int32)), (.int (0 : Int32)), (.int (0 : Int32)), (.int (0 : Int32))] (.int (0 : Int32)) := (Arv.new A90 (by decide)).pad (pad_rep [] (.int (0 : Int32)) 9)
  show own_Goes p e below (T90.setTop (mkF m 43 #[rv a27, rv a28] [(.ref b91), (.ref a27)])) _
  have F100 : Fld Z h90 a27 zs1 "first" "[I" .null := ((((((pF_a27_first.ext E43).other W50 (Or.inr (slot_ne (Or.inl (wd hw 27 rfl)) (Or.inr (wd hw 14 rfl)) (by decide) (t := (.array .int)) (t' := (.array (.object zs3))) (by decide) (by decide)))).ext E51).other W62 (Or.inr (slot_ne (Or.inl (wd hw 27 rfl)) (Or.inl (wd hw 18 rfl)) (by decide) (t := (.array .int)) (t' := (.array (.array .int))) (by decide) (by decide)))).other W65 (Or.inr (slot_ne (Or.inl (wd hw 27 rfl)) (Or.inr (wd hw 20 rfl)) (by decide) (t := (.array .int)) (t' := (.array .byte)) (by decide) (by decide)))).ext E90)
  have E101 : Exa Z h90 a27 zs1 := ((E64.wr W65).ext E90)
  obtain ⟨T102, h102, X102, e102, W102, st102⟩ := putF X90 hx hZ hown (host := "") (Or.inl (wd hw 26 rfl)) Via.refl e90 F100 E101 (Or.inl (wd hw 27 rfl)) (wd hw 3 rfl) (ty := (.array .int)) (by decide) rfl rfl (g := (mkF m 43 #[rv a27, rv a28] [(.ref b91), (.ref a27)])) rfl rfl (hb hby d1_43)
  refine own_via (fun t k => st102 t k) ?_
  have Fw102 : Fld Z h102 a27 zs1 "first" "[I" (.ref b91) := F100.same W102
  have N102 := Fr.snoc X102 N68 pG_a27
  show own_Goes p e below (T102.setTop (mkF m 46 #[rv a27, rv a28] [])) _
  refine own_via (fun t k => XS.aloadN X102.here hx rfl (hb hby d1_46) rfl rfl k) ?_
  have F103 : Fld Z h102 a27 zs1 "chunks" "[[I" (.ref b52) := (((Fw62.other W65 (Or.inr (slot_ne (Or.inl (wd hw 18 rfl)) (Or.inr (wd hw 20 rfl)) (by decide) (t := (.array (.array .int))) (t' := (.array .byte)) (by decide) (by decide)))).ext E90).other W102 (Or.inr (slot_ne (Or.inl (wd hw 18 rfl)) (Or.inl (wd hw 27 rfl)) (by decide) (t := (.array (.array .int))) (t' := (.array .int)) (by decide) (by decide))))
  obtain ⟨T104, X104, e104, st104⟩ := getF X102 hx hZ hown (host := "") (Or.inl (wd hw 17 rfl)) Via.refl e102 F103 (g := (mkF m 47 #[rv a27, rv a28] [(.ref a27)])) rfl rfl (hb hby d1_47)
  refine own_via (fun t k => st104 t (XS.iconst X104.here hx rfl (hb hby d1_50) (XS.aloadN X104.here hx rfl (hb hby d1_51) rfl rfl k))) ?_
  show own_Goes p e below (T104.setTop (mkF m 52 #[rv a27, rv a28] [(.ref a27), (.int (0 : Int32)), (.ref b52)])) _
  obtain ⟨T105, X105, e105, st105⟩ := getF X104 hx hZ hown (host := "") (Or.inl (wd hw 26 rfl)) Via.refl e104 Fw102 (g := (mkF m 52 #[rv a27, rv a28] [(.ref a27), (.int (0 : Int32)), (.ref b52)])) rfl rfl (hb hby d1_52)
  refine own_via (fun t k => st105 t k) ?_
  have V106 : Arv Z h102 b52 k51 (.array .int) (1 : Int32) [] .null := ((V95.ext E90).other W102 (Ne.symm (Nat.ne_of_lt (Nat.lt_of_lt_of_le pE_a27.lt B57))))
  have V107 : Arv Z h102 b52 k51 (.array .int) (1 : Int32) [.null] .null := V106.pad (pad_rep [] .null 1)
  obtain ⟨cl108, Ar108, qq108, S108, M108, H108, G108⟩ := id (V107)
  have hin108 : ¬ ((0 : Int32) < 0 ∨ cl108.slots.size ≤ ((0 : Int32)).toNatClampNeg) := inb_of S108 ⟨by decide, by decide⟩
  have E109 : Exa Z h102 b91 "[I" := (a90x.wr W102)
  obtain ⟨T108, h108, X108, e108, W108, st108⟩ := stR X105 hx hZ e105 Ar108 (j := (0 : Int32)) hin108 rfl (Sto.ofVA Ar108 qq108 O51 (Ins.self E109)) (g := (mkF m 55 #[rv a27, rv a28] [(.ref b91), (.int (0 : Int32)), (.ref b52)])) rfl rfl (hb hby d1_55)
  refine own_via (fun t k => st108 t k) ?_
  have V110 : Arv Z h108 b52 k51 (.array .int) (1 : Int32) [(.ref b91)] .null := Arv.set Ar108 qq108 S108 M108 H108 G108 rfl W108 0 rfl (Nat.le_of_ble_eq_true rfl)
  have N108 := Fr.snoc X108 N102 g55
  show own_Goes p e below (T108.setTop (mkF m 56 #[rv a27, rv a28] [])) _
  obtain ⟨fs, hr, hrun, hended, hW, hsame⟩ := X108.leave (v := none) (fun _ => rfl)
  refine own_end (t := T108.setFrames fs) ?_ ⟨_, hrun, hended, _, _, rfl, ?_, ⟨_, rfl⟩, hW, hsame.mono (by decide) (by decide)⟩
  · exact X108.returnOut hx Bd.returns (hb hby d1_56) hr
  have E111 : Exa Z h108 a27 zs1 := ((E101.wr W102).wr W108)
  have F112 : Fld Z h108 a27 zs1 "text" "[B" (.ref a28) := (((Fw65.ext E90).other W102 (Or.inr (slot_ne (Or.inr (wd hw 20 rfl)) (Or.inl (wd hw 27 rfl)) (by decide) (t := (.array .byte)) (t' := (.array .int)) (by decide) (by decide)))).other W108 (Or.inl (Nat.ne_of_lt (Nat.lt_of_lt_of_le pE_a27.lt B57))))
  have F113 : Fld Z h108 a27 zs1 "first" "[I" (.ref b91) := (Fw102.other W108 (Or.inl (Nat.ne_of_lt (Nat.lt_of_lt_of_le pE_a27.lt B57))))
  have F114 : Fld Z h108 a27 zs1 "length" "I" (.int p32) := ((((((((pF_a27_length.ext E43).other W50 (Or.inr (slot_ne (Or.inl (wd hw 40 rfl)) (Or.inr (wd hw 14 rfl)) (by decide) (t := .int) (t' := (.array (.object zs3))) (by decide) (by decide)))).ext E51).other W62 (Or.inr (slot_ne (Or.inl (wd hw 40 rfl)) (Or.inl (wd hw 18 rfl)) (by decide) (t := .int) (t' := (.array (.array .int))) (by decide) (by decide)))).other W65 (Or.inr (slot_ne (Or.inl (wd hw 40 rfl)) (Or.inr (wd hw 20 rfl)) (by decide) (t := .int) (t' := (.array .byte)) (by decide) (by decide)))).ext E90).other W102 (Or.inr (slot_ne (Or.inl (wd hw 40 rfl)) (Or.inl (wd hw 27 rfl)) (by decide) (t := .int) (t' := (.array .int)) (by decide) (by decide)))).other W108 (Or.inl (Nat.ne_of_lt (Nat.lt_of_lt_of_le pE_a27.lt B57))))
  have V115 : Arv Z h108 b91 k90 .int (16 : Int32) [(.int (0 : Int32)), (.int (0 : Int32)), (.int (0 : Int32)), (.int (0 : Int32)), (.int (0 : Int32)), (.int (0 : Int32)), (.int (0 : Int32)), (.int (0 : Int32)), (.int (0 : Int32))] (.int (0 : Int32)) := ((V99.other W102 (Ne.symm (Nat.ne_of_lt (Nat.lt_of_lt_of_le pE_a27.lt B97)))).other W108 (Ne.symm N94))
  have E116 : Exa Z h108 b91 "[I" := (E109.wr W108)
  · show Q2 Z a27 a28 p32 h0 n0 _ T108.heap _
    rw [e108]
    exact ⟨b91, k90, rfl, N108, (((((((((Keep.refl h0 [a27]).ext E43).wr W50 (Or.inl (List.mem_of_getElem? (i := 0) rfl))).ext E51).wr W62 (Or.inl (List.mem_of_getElem? (i := 0) rfl))).wr W65 (Or.inl (List.mem_of_getElem? (i := 0) rfl))).ext E90).wr W102 (Or.inl (List.mem_of_getElem? (i := 0) rfl))).wr W108 (Or.inr B57)), E111, F112, F113, F114, B97, V115, E116⟩
theorem pd_2 : parseMethodDescriptor "([B)V" = some ⟨[(.array .byte)], none⟩ := by decide +kernel
theorem d4_0 : decode prog_17_method_5_code 0 = .ok (.aload_n 0, 1) := by decide +kernel
theorem d4_1 : decode prog_17_method_5_code 1 = .ok (.iload_n 1, 1) := by decide +kernel
theorem d4_2 : decode prog_17_method_5_code 2 = .ok (.invokevirtual 52, 3) := by decide +kernel
theorem d5_0 : decode prog_17_method_2_code 0 = .ok (.aload_n 0, 1) := by decide +kernel
theorem d5_1 : decode prog_17_method_2_code 1 = .ok (.getfield 34, 3) := by decide +kernel
theorem d5_4 : decode prog_17_method_2_code 4 = .ok (.aload_n 0, 1) := by decide +kernel
theorem d5_5 : decode prog_17_method_2_code 5 = .ok (.getfield 31, 3) := by decide +kernel
theorem d5_8 : decode prog_17_method_2_code 8 = .ok (.arraylength, 1) := by decide +kernel
theorem d5_9 : decode prog_17_method_2_code 9 = .ok (.if_icmp .ge 25, 3) := by decide +kernel
theorem d5_12 : decode prog_17_method_2_code 12 = .ok (.aload_n 0, 1) := by decide +kernel
theorem d5_13 : decode prog_17_method_2_code 13 = .ok (.getfield 31, 3) := by decide +kernel
theorem d5_16 : decode prog_17_method_2_code 16 = .ok (.aload_n 0, 1) := by decide +kernel
theorem d5_17 : decode prog_17_method_2_code 17 = .ok (.getfield 34, 3) := by decide +kernel
theorem d5_20 : decode prog_17_method_2_code 20 = .ok (.iload_n 1, 1) := by decide +kernel
theorem d5_21 : decode prog_17_method_2_code 21 = .ok (.iastore, 1) := by decide +kernel
theorem d5_22 : decode prog_17_method_2_code 22 = .ok (.aload_n 0, 1) := by decide +kernel
theorem d5_23 : decode prog_17_method_2_code 23 = .ok (.dup, 1) := by decide +kernel
theorem d5_24 : decode prog_17_method_2_code 24 = .ok (.getfield 34, 3) := by decide +kernel
theorem d5_27 : decode prog_17_method_2_code 27 = .ok (.dup_x1, 1) := by decide +kernel
theorem d5_28 : decode prog_17_method_2_code 28 = .ok (.iconst 1, 1) := by decide +kernel
theorem d5_29 : decode prog_17_method_2_code 29 = .ok (.iadd, 1) := by decide +kernel
theorem d5_30 : decode prog_17_method_2_code 30 = .ok (.putfield 34, 3) := by decide +kernel
theorem d5_33 : decode prog_17_method_2_code 33 = .ok (.ireturn, 1) := by decide +kernel
theorem ef_3 (m : MethodId) (x0 : Addr) (x1 : Int32) : entryFrame m #[(.ref x0), (.int x1)] 2 = mkF m 0 #[rv x0, iv x1] [] := by first | (simp [entryFrame, mkF, argsToLocals, Value.category]; done) | rfl
def Q3 (Z : State) (a162 : Addr) (a167 : Addr) (k177 : ClassId) (p168 : Int32) (p169 : Int32) (p170 : Int32) (p171 : Int32) (p172 : Int32) (p173 : Int32) (p174 : Int32) (p175 : Int32) (p176 : Int32) (a163 : Addr) (h0 : Heap) (n0 : Nat) (v : Option Value) (h : Heap) (L : List Loc) : Prop := v = some (.int (0 : Int32)) ∧ Fr n0 L ∧ Keep h0 h [a167, a162] ∧ Arv Z h a167 k177 .int (16 : Int32) [(.int (0 : Int32)), (.int p169), (.int p170), (.int p171), (.int p172), (.int p173), (.int p174), (.int p175), (.int p176)] (.int (0 : Int32)) ∧ Exa Z h a167 "[I" ∧ Exa Z h a162 zs1 ∧ Fld Z h a162 zs1 "text" "[B" (.ref a163) ∧ Fld Z h a162 zs1 "first" "[I" (.ref a167) ∧ Fld Z h a162 zs1 "length" "I" (.int (1 : Int32))
set_option maxRecDepth 65536 in
set_option maxHeartbeats 40000000 in
theorem rm3 (l : Launch) (Z : State) (a0 : Array Value) (hw : ∀ d ∈ tables_1, d.before a0 Z = true) (ws : List Jvm.Cond) (a162 : Addr) (a167 : Addr) (k177 : ClassId) (p168 : Int32) (p169 : Int32) (p170 : Int32) (p171 : Int32) (p172 : Int32) (p173 : Int32) (p174 : Int32) (p175 : Int32) (p176 : Int32) (a163 : Addr) (h0 : Heap) (n0 : Nat) (O0 : Old Z n0 h0) (pF_a162_length : Fld Z h0 a162 zs1 "length" "I" (.int (0 : Int32))) (pF_a162_first : Fld Z h0 a162 zs1 "first" "[I" (.ref a167)) (pL_a167 : own_Len Z h0 a167 .int (16 : Int32)) (pV_a167 : Arv Z h0 a167 k177 .int (16 : Int32) [(.int p168), (.int p169), (.int p170), (.int p171), (.int p172), (.int p173), (.int p174), (.int p175), (.int p176)] (.int (0 : Int32))) (pG_a167 : n0 ≤ a167) (pN_a162_a167 : a162 ≠ a167) (pE_a162 : Exa Z h0 a162 zs1) (pG_a162 : n0 ≤ a162) (pE_a167 : Exa Z h0 a167 "[I") (pF_a162_text : Fld Z h0 a162 zs1 "text" "[B" (.ref a163)) :
    MetFree l (⟨zs1, "add", "(I)I"⟩ : MethodName) (head1 (Jvm.Cond.code (⟨zs1, "add", "(I)I"⟩ : MethodName) prog_17_method_2_code 2 (some .int) :: ws) ({ frames := 0, cells := 0, slots := 0, locals := 0 } : Room)) (fun a U => a = #[(.ref a162), (.int (0 : Int32))] ∧ Z.Warmed39 U.vm ∧ U.heap = h0) (fun _ _ _ _ _ => True) (fun _ U o U' => ∃ v L, o = .returned v ∧ Q3 Z a162 a167 k177 p168 p169 p170 p171 p172 p173 p174 p175 p176 a163 h0 n0 v U'.heap L ∧ FrameEnd U o U' L ({ frames := 0, cells := 0, slots := 0, locals := 0 } : Room).cells ({ frames := 0, cells := 0, slots := 0, locals := 0 } : Room).slots) := by
  refine MetFree.of_bodySF (plainFor_of_name pn_1) hisR ?_
  intro p e s m args below meth c s₁ Bd hml0 hP hK
  obtain ⟨rfl, hZ, hh⟩ := hP
  have hx := Bd.exec
  have hby := Bd.bytes
  have hml : c.maxLocals = 2 := hml0
  have hown : s.vm.findClass zs1 = some m.cls := findClass_of_methodNamed Bd.named
  have hnm := (name_of_methodNamed Bd.named Bd.method).1
  have X0 : Stand p l e ({ frames := 0, cells := 0, slots := 0, locals := 0 } : Room) s m #[(.ref a162), (.int (0 : Int32))] below meth c s₁ [] 0 0 := Stand.of_body Bd
  have e0 : s₁.heap = h0 := by rw [← hh, Bd.state]; rfl
  have N0 := Fr.nil n0
  refine own_out ?_
  refine own_via (fun t k => castTop (ef_3 m a162 (0 : Int32)) (XS.aloadN X0.here hx rfl (hb hby d5_0) rfl rfl k)) ?_
  obtain ⟨T187, X187, e187, st187⟩ := getF X0 hx hZ hown (host := "") (Or.inl (wd hw 39 rfl)) Via.refl e0 pF_a162_length (g := (mkF m 1 #[rv a162, iv (0 : Int32)] [(.ref a162)])) rfl rfl (hb hby d5_1)
  refine own_via (fun t k => st187 t (XS.aloadN X187.here hx rfl (hb hby d5_4) rfl rfl k)) ?_
  obtain ⟨T188, X188, e188, st188⟩ := getF X187 hx hZ hown (host := "") (Or.inl (wd hw 26 rfl)) Via.refl e187 pF_a162_first (g := (mkF m 5 #[rv a162, iv (0 : Int32)] [(.ref a162), (.int (0 : Int32))])) rfl rfl (hb hby d5_5)
  refine own_via (fun t k => st188 t k) ?_
  obtain ⟨_, _, _, V189⟩ := id (pL_a167)
  obtain ⟨cl189, Ar189, -, S189, M189, -, -⟩ := id (V189)
  refine own_via (fun t k => X188.arraylength hx (by rw [e188]; exact Ar189.1) (State.isArrayOf_alike hZ.alike Ar189.2.1) (g := (mkF m 8 #[rv a162, iv (0 : Int32)] [(.ref a167), (.int (0 : Int32))])) rfl rfl (hb hby d5_8) t k) ?_
  rw [len_of S189 M189]
  show own_Goes p e below (T188.setTop (mkF m 9 #[rv a162, iv (0 : Int32)] [(.int (16 : Int32)), (.int (0 : Int32))])) _
  refine own_via (fun t k => XS.icmpNo X188.here hx rfl (hb hby d5_9) rfl (tlt (by decide : (0 : Int32) < (16 : Int32))).2.1 (XS.aloadN X188.here hx rfl (hb hby d5_12) rfl rfl k)) ?_
  obtain ⟨T190, X190, e190, st190⟩ := getF X188 hx hZ hown (host := "") (Or.inl (wd hw 26 rfl)) Via.refl e188 pF_a162_first (g := (mkF m 13 #[rv a162, iv (0 : Int32)] [(.ref a162)])) rfl rfl (hb hby d5_13)
  refine own_via (fun t k => st190 t (XS.aloadN X190.here hx rfl (hb hby d5_16) rfl rfl k)) ?_
  obtain ⟨T191, X191, e191, st191⟩ := getF X190 hx hZ hown (host := "") (Or.inl (wd hw 39 rfl)) Via.refl e190 pF_a162_length (g := (mkF m 17 #[rv a162, iv (0 : Int32)] [(.ref a162), (.ref a167)])) rfl rfl (hb hby d5_17)
  refine own_via (fun t k => st191 t (XS.iloadN X191.here hx rfl (hb hby d5_20) rfl k)) ?_
  obtain ⟨cl192, Ar192, qq192, S192, M192, H192, G192⟩ := id (pV_a167)
  have hin192 : ¬ ((0 : Int32) < 0 ∨ cl192.slots.size ≤ ((0 : Int32)).toNatClampNeg) := inb_of S192 ⟨by decide, by decide⟩
  obtain ⟨T192, h192, X192, e192, W192, st192⟩ := stI X191 hx hZ e191 Ar192 (j := (0 : Int32)) hin192 (g := (mkF m 21 #[rv a162, iv (0 : Int32)] [(.int (0 : Int32)), (.int (0 : Int32)), (.ref a167)])) rfl rfl (hb hby d5_21)
  refine own_via (fun t k => st192 t k) ?_
  have V193 : Arv Z h192 a167 k177 .int (16 : Int32) [(.int (0 : Int32)), (.int p169), (.int p170), (.int p171), (.int p172), (.int p173), (.int p174), (.int p175), (.int p176)] (.int (0 : Int32)) := Arv.set Ar192 qq192 S192 M192 H192 G192 rfl W192 0 rfl (Nat.le_of_ble_eq_true rfl)
  have N192 := Fr.snoc X192 N0 pG_a167
  show own_Goes p e below (T192.setTop (mkF m 22 #[rv a162, iv (0 : Int32)] [])) _
  refine own_via (fun t k => XS.aloadN X192.here hx rfl (hb hby d5_22) rfl rfl (XS.dup X192.here hx rfl (hb hby d5_23) rfl rfl k)) ?_
  have F194 : Fld Z h192 a162 zs1 "length" "I" (.int (0 : Int32)) := (pF_a162_length.other W192 (Or.inl pN_a162_a167))
  obtain ⟨T195, X195, e195, st195⟩ := getF X192 hx hZ hown (host := "") (Or.inl (wd hw 39 rfl)) Via.refl e192 F194 (g := (mkF m 24 #[rv a162, iv (0 : Int32)] [(.ref a162), (.ref a162)])) rfl rfl (hb hby d5_24)
  refine own_via (fun t k => st195 t (XS.dupX1 X195.here hx rfl (hb hby d5_27) rfl rfl rfl (XS.iconst X195.here hx rfl (hb hby d5_28) (XS.iadd X195.here hx rfl (hb hby d5_29) rfl k)))) ?_
  show own_Goes p e below (T195.setTop (mkF m 30 #[rv a162, iv (0 : Int32)] [(.int (1 : Int32)), (.ref a162), (.int (0 : Int32))])) _
  have E196 : Exa Z h192 a162 zs1 := (pE_a162.wr W192)
  obtain ⟨T197, h197, X197, e197, W197, st197⟩ := putF X195 hx hZ hown (host := "") (Or.inl (wd hw 39 rfl)) Via.refl e195 F194 E196 (Or.inl (wd hw 40 rfl)) (wd hw 3 rfl) (ty := .int) (by decide) rfl rfl (g := (mkF m 30 #[rv a162, iv (0 : Int32)] [(.int (1 : Int32)), (.ref a162), (.int (0 : Int32))])) rfl rfl (hb hby d5_30)
  refine own_via (fun t k => st197 t k) ?_
  have Fw197 : Fld Z h197 a162 zs1 "length" "I" (.int (1 : Int32)) := F194.same W197
  have N197 := Fr.snoc X197 N192 pG_a162
  show own_Goes p e below (T197.setTop (mkF m 33 #[rv a162, iv (0 : Int32)] [(.int (0 : Int32))])) _
  obtain ⟨fs, hr, hrun, hended, hW, hsame⟩ := X197.leave (v := some (.int (0 : Int32))) (fun h => by rw [Bd.returns] at h; cases h)
  refine own_end (t := T197.setFrames fs) ?_ ⟨_, hrun, hended, _, _, rfl, ?_, ⟨_, rfl⟩, hW, hsame.mono (by decide) (by decide)⟩
  · exact retI X197 hx Bd.returns (hb hby d5_33) hr
  have V198 : Arv Z h197 a167 k177 .int (16 : Int32) [(.int (0 : Int32)), (.int p169), (.int p170), (.int p171), (.int p172), (.int p173), (.int p174), (.int p175), (.int p176)] (.int (0 : Int32)) := (V193.other W197 (Ne.symm pN_a162_a167))
  have E199 : Exa Z h197 a167 "[I" := ((pE_a167.wr W192).wr W197)
  have E200 : Exa Z h197 a162 zs1 := (E196.wr W197)
  have F201 : Fld Z h197 a162 zs1 "text" "[B" (.ref a163) := ((pF_a162_text.other W192 (Or.inl pN_a162_a167)).other W197 (Or.inr (slot_ne (Or.inr (wd hw 20 rfl)) (Or.inl (wd hw 40 rfl)) (by decide) (t := (.array .byte)) (t' := .int) (by decide) (by decide))))
  have F202 : Fld Z h197 a162 zs1 "first" "[I" (.ref a167) := ((pF_a162_first.other W192 (Or.inl pN_a162_a167)).other W197 (Or.inr (slot_ne (Or.inl (wd hw 27 rfl)) (Or.inl (wd hw 40 rfl)) (by decide) (t := (.array .int)) (t' := .int) (by decide) (by decide))))
  · show Q3 Z a162 a167 k177 p168 p169 p170 p171 p172 p173 p174 p175 p176 a163 h0 n0 _ T197.heap _
    rw [e197]
    exact ⟨rfl, N197, (((Keep.refl h0 [a167, a162]).wr W192 (Or.inl (List.mem_of_getElem? (i := 0) rfl))).wr W197 (Or.inl (List.mem_of_getElem? (i := 1) rfl))), V198, E199, E200, F201, F202, Fw197⟩
theorem pd_3 : parseMethodDescriptor "(I)I" = some ⟨[.int], some .int⟩ := by decide +kernel
theorem d4_5 : decode prog_17_method_5_code 5 = .ok (.istore_n 2, 1) := by decide +kernel
theorem d4_6 : decode prog_17_method_5_code 6 = .ok (.aload_n 0, 1) := by decide +kernel
theorem d4_7 : decode prog_17_method_5_code 7 = .ok (.iconst 0, 1) := by decide +kernel
theorem d4_8 : decode prog_17_method_5_code 8 = .ok (.invokevirtual 52, 3) := by decide +kernel
def Q4 (Z : State) (a210 : Addr) (a215 : Addr) (k225 : ClassId) (p216 : Int32) (p217 : Int32) (p218 : Int32) (p219 : Int32) (p220 : Int32) (p221 : Int32) (p222 : Int32) (p223 : Int32) (p224 : Int32) (a211 : Addr) (h0 : Heap) (n0 : Nat) (v : Option Value) (h : Heap) (L : List Loc) : Prop := v = some (.int (1 : Int32)) ∧ Fr n0 L ∧ Keep h0 h [a215, a210] ∧ Exa Z h a215 "[I" ∧ Arv Z h a215 k225 .int (16 : Int32) [(.int p216), (.int (0 : Int32)), (.int p218), (.int p219), (.int p220), (.int p221), (.int p222), (.int p223), (.int p224)] (.int (0 : Int32)) ∧ Exa Z h a210 zs1 ∧ Fld Z h a210 zs1 "text" "[B" (.ref a211) ∧ Fld Z h a210 zs1 "first" "[I" (.ref a215) ∧ Fld Z h a210 zs1 "length" "I" (.int (2 : Int32))
set_option maxRecDepth 65536 in
set_option maxHeartbeats 40000000 in
theorem rm4 (l : Launch) (Z : State) (a0 : Array Value) (hw : ∀ d ∈ tables_1, d.before a0 Z = true) (ws : List Jvm.Cond) (a210 : Addr) (a215 : Addr) (k225 : ClassId) (p216 : Int32) (p217 : Int32) (p218 : Int32) (p219 : Int32) (p220 : Int32) (p221 : Int32) (p222 : Int32) (p223 : Int32) (p224 : Int32) (a211 : Addr) (h0 : Heap) (n0 : Nat) (O0 : Old Z n0 h0) (pF_a210_length : Fld Z h0 a210 zs1 "length" "I" (.int (1 : Int32))) (pF_a210_first : Fld Z h0 a210 zs1 "first" "[I" (.ref a215)) (pL_a215 : own_Len Z h0 a215 .int (16 : Int32)) (pV_a215 : Arv Z h0 a215 k225 .int (16 : Int32) [(.int p216), (.int p217), (.int p218), (.int p219), (.int p220), (.int p221), (.int p222), (.int p223), (.int p224)] (.int (0 : Int32))) (pG_a215 : n0 ≤ a215) (pN_a210_a215 : a210 ≠ a215) (pE_a210 : Exa Z h0 a210 zs1) (pG_a210 : n0 ≤ a210) (pE_a215 : Exa Z h0 a215 "[I") (pF_a210_text : Fld Z h0 a210 zs1 "text" "[B" (.ref a211)) :
    MetFree l (⟨zs1, "add", "(I)I"⟩ : MethodName) (head1 (Jvm.Cond.code (⟨zs1, "add", "(I)I"⟩ : MethodName) prog_17_method_2_code 2 (some .int) :: ws) ({ frames := 0, cells := 0, slots := 0, locals := 0 } : Room)) (fun a U => a = #[(.ref a210), (.int (0 : Int32))] ∧ Z.Warmed39 U.vm ∧ U.heap = h0) (fun _ _ _ _ _ => True) (fun _ U o U' => ∃ v L, o = .returned v ∧ Q4 Z a210 a215 k225 p216 p217 p218 p219 p220 p221 p222 p223 p224 a211 h0 n0 v U'.heap L ∧ FrameEnd U o U' L ({ frames := 0, cells := 0, slots := 0, locals := 0 } : Room).cells ({ frames := 0, cells := 0, slots := 0, locals := 0 } : Room).slots) := by
  refine MetFree.of_bodySF (plainFor_of_name pn_1) hisR ?_
  intro p e s m args below meth c s₁ Bd hml0 hP hK
  obtain ⟨rfl, hZ, hh⟩ := hP
  have hx := Bd.exec
  have hby := Bd.bytes
  have hml : c.maxLocals = 2 := hml0
  have hown : s.vm.findClass zs1 = some m.cls := findClass_of_methodNamed Bd.named
  have hnm := (name_of_methodNamed Bd.named Bd.method).1
  have X0 : Stand p l e ({ frames := 0, cells := 0, slots := 0, locals := 0 } : Room) s m #[(.ref a210), (.int (0 : Int32))] below meth c s₁ [] 0 0 := Stand.of_body Bd
  have e0 : s₁.heap = h0 := by rw [← hh, Bd.state]; rfl
  have N0 := Fr.nil n0
  refine own_out ?_
  refine own_via (fun t k => castTop (ef_3 m a210 (0 : Int32)) (XS.aloadN X0.here hx rfl (hb hby d5_0) rfl rfl k)) ?_
  obtain ⟨T235, X235, e235, st235⟩ := getF X0 hx hZ hown (host := "") (Or.inl (wd hw 39 rfl)) Via.refl e0 pF_a210_length (g := (mkF m 1 #[rv a210, iv (0 : Int32)] [(.ref a210)])) rfl rfl (hb hby d5_1)
  refine own_via (fun t k => st235 t (XS.aloadN X235.here hx rfl (hb hby d5_4) rfl rfl k)) ?_
  obtain ⟨T236, X236, e236, st236⟩ := getF X235 hx hZ hown (host := "") (Or.inl (wd hw 26 rfl)) Via.refl e235 pF_a210_first (g := (mkF m 5 #[rv a210, iv (0 : Int32)] [(.ref a210), (.int (1 : Int32))])) rfl rfl (hb hby d5_5)
  refine own_via (fun t k => st236 t k) ?_
  obtain ⟨_, _, _, V237⟩ := id (pL_a215)
  obtain ⟨cl237, Ar237, -, S237, M237, -, -⟩ := id (V237)
  refine own_via (fun t k => X236.arraylength hx (by rw [e236]; exact Ar237.1) (State.isArrayOf_alike hZ.alike Ar237.2.1) (g := (mkF m 8 #[rv a210, iv (0 : Int32)] [(.ref a215), (.int (1 : Int32))])) rfl rfl (hb hby d5_8) t k) ?_
  rw [len_of S237 M237]
  show own_Goes p e below (T236.setTop (mkF m 9 #[rv a210, iv (0 : Int32)] [(.int (16 : Int32)), (.int (1 : Int32))])) _
  refine own_via (fun t k => XS.icmpNo X236.here hx rfl (hb hby d5_9) rfl (tlt (by decide : (1 : Int32) < (16 : Int32))).2.1 (XS.aloadN X236.here hx rfl (hb hby d5_12) rfl rfl k)) ?_
  obtain ⟨T238, X238, e238, st238⟩ := getF X236 hx hZ hown (host := "") (Or.inl (wd hw 26 rfl)) Via.refl e236 pF_a210_first (g := (mkF m 13 #[rv a210, iv (0 : Int32)] [(.ref a210)])) rfl rfl (hb hby d5_13)
  refine own_via (fun t k => st238 t (XS.aloadN X238.here hx rfl (hb hby d5_16) rfl rfl k)) ?_
  obtain ⟨T239, X239, e239, st239⟩ := getF X238 hx hZ hown (host := "") (Or.inl (wd hw 39 rfl)) Via.refl e238 pF_a210_length (g := (mkF m 17 #[rv a210, iv (0 : Int32)] [(.ref a210), (.ref a215)])) rfl rfl (hb hby d5_17)
  refine own_via (fun t k => st239 t (XS.iloadN X239.here hx rfl (hb hby d5_20) rfl k)) ?_
  obtain ⟨cl240, Ar240, qq240, S240, M240, H240, G240⟩ := id (pV_a215)
  have hin240 : ¬ ((1 : Int32) < 0 ∨ cl240.slots.size ≤ ((1 : Int32)).toNatClampNeg) := inb_of S240 ⟨by decide, by decide⟩
  obtain ⟨T240, h240, X240, e240, W240, st240⟩ := stI X239 hx hZ e239 Ar240 (j := (1 : Int32)) hin240 (g := (mkF m 21 #[rv a210, iv (0 : Int32)] [(.int (0 : Int32)), (.int (1 : Int32)), (.ref a215)])) rfl rfl (hb hby d5_21)
  refine own_via (fun t k => st240 t k) ?_
  have V241 : Arv Z h240 a215 k225 .int (16 : Int32) [(.int p216), (.int (0 : Int32)), (.int p218), (.int p219), (.int p220), (.int p221), (.int p222), (.int p223), (.int p224)] (.int (0 : Int32)) := Arv.set Ar240 qq240 S240 M240 H240 G240 rfl W240 1 rfl (Nat.le_of_ble_eq_true rfl)
  have N240 := Fr.snoc X240 N0 pG_a215
  show own_Goes p e below (T240.setTop (mkF m 22 #[rv a210, iv (0 : Int32)] [])) _
  refine own_via (fun t k => XS.aloadN X240.here hx rfl (hb hby d5_22) rfl rfl (XS.dup X240.here hx rfl (hb hby d5_23) rfl rfl k)) ?_
  have F242 : Fld Z h240 a210 zs1 "length" "I" (.int (1 : Int32)) := (pF_a210_length.other W240 (Or.inl pN_a210_a215))
  obtain ⟨T243, X243, e243, st243⟩ := getF X240 hx hZ hown (host := "") (Or.inl (wd hw 39 rfl)) Via.refl e240 F242 (g := (mkF m 24 #[rv a210, iv (0 : Int32)] [(.ref a210), (.ref a210)])) rfl rfl (hb hby d5_24)
  refine own_via (fun t k => st243 t (XS.dupX1 X243.here hx rfl (hb hby d5_27) rfl rfl rfl (XS.iconst X243.here hx rfl (hb hby d5_28) (XS.iadd X243.here hx rfl (hb hby d5_29) rfl k)))) ?_
  show own_Goes p e below (T243.setTop (mkF m 30 #[rv a210, iv (0 : Int32)] [(.int (2 : Int32)), (.ref a210), (.int (1 : Int32))])) _
  have E244 : Exa Z h240 a210 zs1 := (pE_a210.wr W240)
  obtain ⟨T245, h245, X245, e245, W245, st245⟩ := putF X243 hx hZ hown (host := "") (Or.inl (wd hw 39 rfl)) Via.refl e243 F242 E244 (Or.inl (wd hw 40 rfl)) (wd hw 3 rfl) (ty := .int) (by decide) rfl rfl (g := (mkF m 30 #[rv a210, iv (0 : Int32)] [(.int (2 : Int32)), (.ref a210), (.int (1 : Int32))])) rfl rfl (hb hby d5_30)
  refine own_via (fun t k => st245 t k) ?_
  have Fw245 : Fld Z h245 a210 zs1 "length" "I" (.int (2 : Int32)) := F242.same W245
  have N245 := Fr.snoc X245 N240 pG_a210
  show own_Goes p e below (T245.setTop (mkF m 33 #[rv a210, iv (0 : Int32)] [(.int (1 : Int32))])) _
  obtain ⟨fs, hr, hrun, hended, hW, hsame⟩ := X245.leave (v := some (.int (1 : Int32))) (fun h => by rw [Bd.returns] at h; cases h)
  refine own_end (t := T245.setFrames fs) ?_ ⟨_, hrun, hended, _, _, rfl, ?_, ⟨_, rfl⟩, hW, hsame.mono (by decide) (by decide)⟩
  · exact retI X245 hx Bd.returns (hb hby d5_33) hr
  have E246 : Exa Z h245 a215 "[I" := ((pE_a215.wr W240).wr W245)
  have V247 : Arv Z h245 a215 k225 .int (16 : Int32) [(.int p216), (.int (0 : Int32)), (.int p218), (.int p219), (.int p220), (.int p221), (.int p222), (.int p223), (.int p224)] (.int (0 : Int32)) := (V241.other W245 (Ne.symm pN_a210_a215))
  have E248 : Exa Z h245 a210 zs1 := (E244.wr W245)
  have F249 : Fld Z h245 a210 zs1 "text" "[B" (.ref a211) := ((pF_a210_text.other W240 (Or.inl pN_a210_a215)).other W245 (Or.inr (slot_ne (Or.inr (wd hw 20 rfl)) (Or.inl (wd hw 40 rfl)) (by decide) (t := (.array .byte)) (t' := .int) (by decide) (by decide))))
  have F250 : Fld Z h245 a210 zs1 "first" "[I" (.ref a215) := ((pF_a210_first.other W240 (Or.inl pN_a210_a215)).other W245 (Or.inr (slot_ne (Or.inl (wd hw 27 rfl)) (Or.inl (wd hw 40 rfl)) (by decide) (t := (.array .int)) (t' := .int) (by decide) (by decide))))
  · show Q4 Z a210 a215 k225 p216 p217 p218 p219 p220 p221 p222 p223 p224 a211 h0 n0 _ T245.heap _
    rw [e245]
    exact ⟨rfl, N245, (((Keep.refl h0 [a215, a210]).wr W240 (Or.inl (List.mem_of_getElem? (i := 0) rfl))).wr W245 (Or.inl (List.mem_of_getElem? (i := 1) rfl))), E246, V247, E248, F249, F250, Fw245⟩
theorem d4_11 : decode prog_17_method_5_code 11 = .ok (.pop, 1) := by decide +kernel
theorem d4_12 : decode prog_17_method_5_code 12 = .ok (.aload_n 0, 1) := by decide +kernel
theorem d4_13 : decode prog_17_method_5_code 13 = .ok (.iconst 0, 1) := by decide +kernel
theorem d4_14 : decode prog_17_method_5_code 14 = .ok (.invokevirtual 52, 3) := by decide +kernel
def Q5 (Z : State) (a260 : Addr) (a265 : Addr) (k275 : ClassId) (p266 : Int32) (p267 : Int32) (p268 : Int32) (p269 : Int32) (p270 : Int32) (p271 : Int32) (p272 : Int32) (p273 : Int32) (p274 : Int32) (a261 : Addr) (h0 : Heap) (n0 : Nat) (v : Option Value) (h : Heap) (L : List Loc) : Prop := v = some (.int (2 : Int32)) ∧ Fr n0 L ∧ Keep h0 h [a265, a260] ∧ Exa Z h a265 "[I" ∧ Arv Z h a265 k275 .int (16 : Int32) [(.int p266), (.int p267), (.int (0 : Int32)), (.int p269), (.int p270), (.int p271), (.int p272), (.int p273), (.int p274)] (.int (0 : Int32)) ∧ Exa Z h a260 zs1 ∧ Fld Z h a260 zs1 "text" "[B" (.ref a261) ∧ Fld Z h a260 zs1 "first" "[I" (.ref a265) ∧ Fld Z h a260 zs1 "length" "I" (.int (3 : Int32))
set_option maxRecDepth 65536 in
set_option maxHeartbeats 40000000 in
theorem rm5 (l : Launch) (Z : State) (a0 : Array Value) (hw : ∀ d ∈ tables_1, d.before a0 Z = true) (ws : List Jvm.Cond) (a260 : Addr) (a265 : Addr) (k275 : ClassId) (p266 : Int32) (p267 : Int32) (p268 : Int32) (p269 : Int32) (p270 : Int32) (p271 : Int32) (p272 : Int32) (p273 : Int32) (p274 : Int32) (a261 : Addr) (h0 : Heap) (n0 : Nat) (O0 : Old Z n0 h0) (pF_a260_length : Fld Z h0 a260 zs1 "length" "I" (.int (2 : Int32))) (pF_a260_first : Fld Z h0 a260 zs1 "first" "[I" (.ref a265)) (pL_a265 : own_Len Z h0 a265 .int (16 : Int32)) (pV_a265 : Arv Z h0 a265 k275 .int (16 : Int32) [(.int p266), (.int p267), (.int p268), (.int p269), (.int p270), (.int p271), (.int p272), (.int p273), (.int p274)] (.int (0 : Int32))) (pG_a265 : n0 ≤ a265) (pN_a260_a265 : a260 ≠ a265) (pE_a260 : Exa Z h0 a260 zs1) (pG_a260 : n0 ≤ a260) (pE_a265 : Exa Z h0 a265 "[I") (pF_a260_text : Fld Z h0 a260 zs1 "text" "[B" (.ref a261)) :
    MetFree l (⟨zs1, "add", "(I)I"⟩ : MethodName) (head1 (Jvm.Cond.code (⟨zs1, "add", "(I)I"⟩ : MethodName) prog_17_method_2_code 2 (some .int) :: ws) ({ frames := 0, cells := 0, slots := 0, locals := 0 } : Room)) (fun a U => a = #[(.ref a260), (.int (0 : Int32))] ∧ Z.Warmed39 U.vm ∧ U.heap = h0) (fun _ _ _ _ _ => True) (fun _ U o U' => ∃ v L, o = .returned v ∧ Q5 Z a260 a265 k275 p266 p267 p268 p269 p270 p271 p272 p273 p274 a261 h0 n0 v U'.heap L ∧ FrameEnd U o U' L ({ frames := 0, cells := 0, slots := 0, locals := 0 } : Room).cells ({ frames := 0, cells := 0, slots := 0, locals := 0 } : Room).slots) := by
  refine MetFree.of_bodySF (plainFor_of_name pn_1) hisR ?_
  intro p e s m args below meth c s₁ Bd hml0 hP hK
  obtain ⟨rfl, hZ, hh⟩ := hP
  have hx := Bd.exec
  have hby := Bd.bytes
  have hml : c.maxLocals = 2 := hml0
  have hown : s.vm.findClass zs1 = some m.cls := findClass_of_methodNamed Bd.named
  have hnm := (name_of_methodNamed Bd.named Bd.method).1
  have X0 : Stand p l e ({ frames := 0, cells := 0, slots := 0, locals := 0 } : Room) s m #[(.ref a260), (.int (0 : Int32))] below meth c s₁ [] 0 0 := Stand.of_body Bd
  have e0 : s₁.heap = h0 := by rw [← hh, Bd.state]; rfl
  have N0 := Fr.nil n0
  refine own_out ?_
  refine own_via (fun t k => castTop (ef_3 m a260 (0 : Int32)) (XS.aloadN X0.here hx rfl (hb hby d5_0) rfl rfl k)) ?_
  obtain ⟨T285, X285, e285, st285⟩ := getF X0 hx hZ hown (host := "") (Or.inl (wd hw 39 rfl)) Via.refl e0 pF_a260_length (g := (mkF m 1 #[rv a260, iv (0 : Int32)] [(.ref a260)])) rfl rfl (hb hby d5_1)
  refine own_via (fun t k => st285 t (XS.aloadN X285.here hx rfl (hb hby d5_4) rfl rfl k)) ?_
  obtain ⟨T286, X286, e286, st286⟩ := getF X285 hx hZ hown (host := "") (Or.inl (wd hw 26 rfl)) Via.refl e285 pF_a260_first (g := (mkF m 5 #[rv a260, iv (0 : Int32)] [(.ref a260), (.int (2 : Int32))])) rfl rfl (hb hby d5_5)
  refine own_via (fun t k => st286 t k) ?_
  obtain ⟨_, _, _, V287⟩ := id (pL_a265)
  obtain ⟨cl287, Ar287, -, S287, M287, -, -⟩ := id (V287)
  refine own_via (fun t k => X286.arraylength hx (by rw [e286]; exact Ar287.1) (State.isArrayOf_alike hZ.alike Ar287.2.1) (g := (mkF m 8 #[rv a260, iv (0 : Int32)] [(.ref a265), (.int (2 : Int32))])) rfl rfl (hb hby d5_8) t k) ?_
  rw [len_of S287 M287]
  show own_Goes p e below (T286.setTop (mkF m 9 #[rv a260, iv (0 : Int32)] [(.int (16 : Int32)), (.int (2 : Int32))])) _
  refine own_via (fun t k => XS.icmpNo X286.here hx rfl (hb hby d5_9) rfl (tlt (by decide : (2 : Int32) < (16 : Int32))).2.1 (XS.aloadN X286.here hx rfl (hb hby d5_12) rfl rfl k)) ?_
  obtain ⟨T288, X288, e288, st288⟩ := getF X286 hx hZ hown (host := "") (Or.inl (wd hw 26 rfl)) Via.refl e286 pF_a260_first (g := (mkF m 13 #[rv a260, iv (0 : Int32)] [(.ref a260)])) rfl rfl (hb hby d5_13)
  refine own_via (fun t k => st288 t (XS.aloadN X288.here hx rfl (hb hby d5_16) rfl rfl k)) ?_
  obtain ⟨T289, X289, e289, st289⟩ := getF X288 hx hZ hown (host := "") (Or.inl (wd hw 39 rfl)) Via.refl e288 pF_a260_length (g := (mkF m 17 #[rv a260, iv (0 : Int32)] [(.ref a260), (.ref a265)])) rfl rfl (hb hby d5_17)
  refine own_via (fun t k => st289 t (XS.iloadN X289.here hx rfl (hb hby d5_20) rfl k)) ?_
  obtain ⟨cl290, Ar290, qq290, S290, M290, H290, G290⟩ := id (pV_a265)
  have hin290 : ¬ ((2 : Int32) < 0 ∨ cl290.slots.size ≤ ((2 : Int32)).toNatClampNeg) := inb_of S290 ⟨by decide, by decide⟩
  obtain ⟨T290, h290, X290, e290, W290, st290⟩ := stI X289 hx hZ e289 Ar290 (j := (2 : Int32)) hin290 (g := (mkF m 21 #[rv a260, iv (0 : Int32)] [(.int (0 : Int32)), (.int (2 : Int32)), (.ref a265)])) rfl rfl (hb hby d5_21)
  refine own_via (fun t k => st290 t k) ?_
  have V291 : Arv Z h290 a265 k275 .int (16 : Int32) [(.int p266), (.int p267), (.int (0 : Int32)), (.int p269), (.int p270), (.int p271), (.int p272), (.int p273), (.int p274)] (.int (0 : Int32)) := Arv.set Ar290 qq290 S290 M290 H290 G290 rfl W290 2 rfl (Nat.le_of_ble_eq_true rfl)
  have N290 := Fr.snoc X290 N0 pG_a265
  show own_Goes p e below (T290.setTop (mkF m 22 #[rv a260, iv (0 : Int32)] [])) _
  refine own_via (fun t k => XS.aloadN X290.here hx rfl (hb hby d5_22) rfl rfl (XS.dup X290.here hx rfl (hb hby d5_23) rfl rfl k)) ?_
  have F292 : Fld Z h290 a260 zs1 "length" "I" (.int (2 : Int32)) := (pF_a260_length.other W290 (Or.inl pN_a260_a265))
  obtain ⟨T293, X293, e293, st293⟩ := getF X290 hx hZ hown (host := "") (Or.inl (wd hw 39 rfl)) Via.refl e290 F292 (g := (mkF m 24 #[rv a260, iv (0 : Int32)] [(.ref a260), (.ref a260)])) rfl rfl (hb hby d5_24)
  refine own_via (fun t k => st293 t (XS.dupX1 X293.here hx rfl (hb hby d5_27) rfl rfl rfl (XS.iconst X293.here hx rfl (hb hby d5_28) (XS.iadd X293.here hx rfl (hb hby d5_29) rfl k)))) ?_
  show own_Goes p e below (T293.setTop (mkF m 30 #[rv a260, iv (0 : Int32)] [(.int (3 : Int32)), (.ref a260), (.int (2 : Int32))])) _
  have E294 : Exa Z h290 a260 zs1 := (pE_a260.wr W290)
  obtain ⟨T295, h295, X295, e295, W295, st295⟩ := putF X293 hx hZ hown (host := "") (Or.inl (wd hw 39 rfl)) Via.refl e293 F292 E294 (Or.inl (wd hw 40 rfl)) (wd hw 3 rfl) (ty := .int) (by decide) rfl rfl (g := (mkF m 30 #[rv a260, iv (0 : Int32)] [(.int (3 : Int32)), (.ref a260), (.int (2 : Int32))])) rfl rfl (hb hby d5_30)
  refine own_via (fun t k => st295 t k) ?_
  have Fw295 : Fld Z h295 a260 zs1 "length" "I" (.int (3 : Int32)) := F292.same W295
  have N295 := Fr.snoc X295 N290 pG_a260
  show own_Goes p e below (T295.setTop (mkF m 33 #[rv a260, iv (0 : Int32)] [(.int (2 : Int32))])) _
  obtain ⟨fs, hr, hrun, hended, hW, hsame⟩ := X295.leave (v := some (.int (2 : Int32))) (fun h => by rw [Bd.returns] at h; cases h)
  refine own_end (t := T295.setFrames fs) ?_ ⟨_, hrun, hended, _, _, rfl, ?_, ⟨_, rfl⟩, hW, hsame.mono (by decide) (by decide)⟩
  · exact retI X295 hx Bd.returns (hb hby d5_33) hr
  have E296 : Exa Z h295 a265 "[I" := ((pE_a265.wr W290).wr W295)
  have V297 : Arv Z h295 a265 k275 .int (16 : Int32) [(.int p266), (.int p267), (.int (0 : Int32)), (.int p269), (.int p270), (.int p271), (.int p272), (.int p273), (.int p274)] (.int (0 : Int32)) := (V291.other W295 (Ne.symm pN_a260_a265))
  have E298 : Exa Z h295 a260 zs1 := (E294.wr W295)
  have F299 : Fld Z h295 a260 zs1 "text" "[B" (.ref a261) := ((pF_a260_text.other W290 (Or.inl pN_a260_a265)).other W295 (Or.inr (slot_ne (Or.inr (wd hw 20 rfl)) (Or.inl (wd hw 40 rfl)) (by decide) (t := (.array .byte)) (t' := .int) (by decide) (by decide))))
  have F300 : Fld Z h295 a260 zs1 "first" "[I" (.ref a265) := ((pF_a260_first.other W290 (Or.inl pN_a260_a265)).other W295 (Or.inr (slot_ne (Or.inl (wd hw 27 rfl)) (Or.inl (wd hw 40 rfl)) (by decide) (t := (.array .int)) (t' := .int) (by decide) (by decide))))
  · show Q5 Z a260 a265 k275 p266 p267 p268 p269 p270 p271 p272 p273 p274 a261 h0 n0 _ T295.heap _
    rw [e295]
    exact ⟨rfl, N295, (((Keep.refl h0 [a265, a260]).wr W290 (Or.inl (List.mem_of_getElem? (i := 0) rfl))).wr W295 (Or.inl (List.mem_of_getElem? (i := 1) rfl))), E296, V297, E298, F299, F300, Fw295⟩
theorem d4_17 : decode prog_17_method_5_code 17 = .ok (.pop, 1) := by decide +kernel
theorem d4_18 : decode prog_17_method_5_code 18 = .ok (.iload_n 2, 1) := by decide +kernel
theorem d4_19 : decode prog_17_method_5_code 19 = .ok (.ireturn, 1) := by decide +kernel
theorem ef_4 (m : MethodId) (x0 : Addr) (x1 : Int32) : entryFrame m #[(.ref x0), (.int x1)] 3 = mkF m 0 #[rv x0, iv x1, .unset] [] := by first | (simp [entryFrame, mkF, argsToLocals, Value.category]; done) | rfl
def Q6 (Z : State) (a136 : Addr) (a141 : Addr) (k151 : ClassId) (p142 : Int32) (p143 : Int32) (p144 : Int32) (p145 : Int32) (p146 : Int32) (p147 : Int32) (p148 : Int32) (p149 : Int32) (p150 : Int32) (a137 : Addr) (h0 : Heap) (n0 : Nat) (v : Option Value) (h : Heap) (L : List Loc) : Prop := v = some (.int (0 : Int32)) ∧ Fr n0 L ∧ Keep h0 h [a141, a136] ∧ Exa Z h a141 "[I" ∧ Arv Z h a141 k151 .int (16 : Int32) [(.int (0 : Int32)), (.int (0 : Int32)), (.int (0 : Int32)), (.int p145), (.int p146), (.int p147), (.int p148), (.int p149), (.int p150)] (.int (0 : Int32)) ∧ Exa Z h a136 zs1 ∧ Fld Z h a136 zs1 "text" "[B" (.ref a137) ∧ Fld Z h a136 zs1 "first" "[I" (.ref a141) ∧ Fld Z h a136 zs1 "length" "I" (.int (3 : Int32))
set_option maxRecDepth 65536 in
set_option maxHeartbeats 40000000 in
theorem rm6 (l : Launch) (Z : State) (a0 : Array Value) (hw : ∀ d ∈ tables_1, d.before a0 Z = true) (ws : List Jvm.Cond) (a136 : Addr) (a141 : Addr) (k151 : ClassId) (p142 : Int32) (p143 : Int32) (p144 : Int32) (p145 : Int32) (p146 : Int32) (p147 : Int32) (p148 : Int32) (p149 : Int32) (p150 : Int32) (a137 : Addr) (h0 : Heap) (n0 : Nat) (O0 : Old Z n0 h0) (pF_a136_length : Fld Z h0 a136 zs1 "length" "I" (.int (0 : Int32))) (pF_a136_first : Fld Z h0 a136 zs1 "first" "[I" (.ref a141)) (pL_a141 : own_Len Z h0 a141 .int (16 : Int32)) (pV_a141 : Arv Z h0 a141 k151 .int (16 : Int32) [(.int p142), (.int p143), (.int p144), (.int p145), (.int p146), (.int p147), (.int p148), (.int p149), (.int p150)] (.int (0 : Int32))) (pG_a141 : n0 ≤ a141) (pN_a136_a141 : a136 ≠ a141) (pE_a136 : Exa Z h0 a136 zs1) (pG_a136 : n0 ≤ a136) (pE_a141 : Exa Z h0 a141 "[I") (pF_a136_text : Fld Z h0 a136 zs1 "text" "[B" (.ref a137)) :
    MetFree l (⟨zs1, "open", "(I)I"⟩ : MethodName) (head1 (Jvm.Cond.code (⟨zs1, "open", "(I)I"⟩ : MethodName) prog_17_method_5_code 3 (some .int) :: ws) ({ frames := 1, cells := 0, slots := 0, locals := 13 } : Room)) (fun a U => a = #[(.ref a136), (.int (0 : Int32))] ∧ Z.Warmed39 U.vm ∧ U.heap = h0) (fun _ _ _ _ _ => True) (fun _ U o U' => ∃ v L, o = .returned v ∧ Q6 Z a136 a141 k151 p142 p143 p144 p145 p146 p147 p148 p149 p150 a137 h0 n0 v U'.heap L ∧ FrameEnd U o U' L ({ frames := 1, cells := 0, slots := 0, locals := 13 } : Room).cells ({ frames := 1, cells := 0, slots := 0, locals := 13 } : Room).slots) := by
  refine MetFree.of_bodySF (plainFor_of_name pn_1) hisR ?_
  intro p e s m args below meth c s₁ Bd hml0 hP hK
  obtain ⟨rfl, hZ, hh⟩ := hP
  have hx := Bd.exec
  have hby := Bd.bytes
  have hml : c.maxLocals = 3 := hml0
  have hown : s.vm.findClass zs1 = some m.cls := findClass_of_methodNamed Bd.named
  have hnm := (name_of_methodNamed Bd.named Bd.method).1
  have X0 : Stand p l e ({ frames := 1, cells := 0, slots := 0, locals := 13 } : Room) s m #[(.ref a136), (.int (0 : Int32))] below meth c s₁ [] 0 0 := Stand.of_body Bd
  have e0 : s₁.heap = h0 := by rw [← hh, Bd.state]; rfl
  have N0 := Fr.nil n0
  refine own_out ?_
  refine own_via (fun t k => castTop (ef_4 m a136 (0 : Int32)) (XS.aloadN X0.here hx rfl (hb hby d4_0) rfl rfl (XS.iloadN X0.here hx rfl (hb hby d4_1) rfl k))) ?_
  show own_Goes p e below (s₁.setTop (mkF m 2 #[rv a136, iv (0 : Int32), .unset] [(.int (0 : Int32)), (.ref a136)])) _
  obtain ⟨_, T161, _, X161, hQ161, st161⟩ := own_cv X0 hx hZ hown (wd hw 34 rfl) (wd hw 35 rfl) (wd hw 37 rfl) (wd hw 36 rfl) (wd hw 38 rfl) (wd hw 4 rfl) (by decide) (rm3 l Z a0 hw [] a136 a141 k151 p142 p143 p144 p145 p146 p147 p148 p149 p150 a137 h0 n0 O0 pF_a136_length pF_a136_first pL_a141 pV_a141 pG_a141 pN_a136_a141 pE_a136 pG_a136 pE_a141 pF_a136_text) e0 pE_a136 (g := (mkF m 2 #[rv a136, iv (0 : Int32), .unset] [(.int (0 : Int32)), (.ref a136)])) rfl (by rw [hml]; rfl) (rest := []) (W := 0) (lenOf pd_3 rfl) rfl (by show 2 * 0 + _ ≤ _; exact Nat.le_of_eq rfl) (hb hby d4_2) (by decide) (by decide) (by decide) (by decide)
  obtain ⟨h161, e161⟩ : ∃ z, T161.heap = z := ⟨_, rfl⟩
  rw [e161] at hQ161
  obtain ⟨rfl, Nq161, K161, vx203, ex204, ex205, fx206, fx207, fx208⟩ := hQ161
  have N161 := Fr.app N0 Nq161
  refine own_via (fun t k => st161 t (XS.istoreN X161.here hx rfl (hb hby d4_5) rfl (l' := #[rv a136, iv (0 : Int32), iv (0 : Int32)]) rfl (XS.aloadN X161.here hx rfl (hb hby d4_6) rfl rfl (XS.iconst X161.here hx rfl (hb hby d4_7) k)))) ?_
  show own_Goes p e below (T161.setTop (mkF m 8 #[rv a136, iv (0 : Int32), iv (0 : Int32)] [(.int (0 : Int32)), (.ref a136)])) _
  have l251 : own_Len Z h161 a141 .int (16 : Int32) := ⟨_, _, _, vx203⟩
  have O252 : Old Z n0 h161 := (O0.keep K161 (allS pG_a141 (allS pG_a136 all0)))
  obtain ⟨_, T209, _, X209, hQ209, st209⟩ := own_cv X161 hx hZ hown (wd hw 34 rfl) (wd hw 35 rfl) (wd hw 37 rfl) (wd hw 36 rfl) (wd hw 38 rfl) (wd hw 4 rfl) (by decide) (rm4 l Z a0 hw [] a136 a141 k151 (0 : Int32) p143 p144 p145 p146 p147 p148 p149 p150 a137 h161 n0 O252 fx208 fx207 l251 vx203 pG_a141 pN_a136_a141 ex205 pG_a136 ex204 fx206) e161 ex205 (g := (mkF m 8 #[rv a136, iv (0 : Int32), iv (0 : Int32)] [(.int (0 : Int32)), (.ref a136)])) rfl (by rw [hml]; rfl) (rest := []) (W := 0) (lenOf pd_3 rfl) rfl (by show 2 * 0 + _ ≤ _; exact Nat.le_of_eq rfl) (hb hby d4_8) (by decide) (by decide) (by decide) (by decide)
  obtain ⟨h209, e209⟩ : ∃ z, T209.heap = z := ⟨_, rfl⟩
  rw [e209] at hQ209
  obtain ⟨rfl, Nq209, K209, ex253, vx254, ex255, fx256, fx257, fx258⟩ := hQ209
  have N209 := Fr.app N161 Nq209
  refine own_via (fun t k => st209 t (XS.pop X209.here hx rfl (hb hby d4_11) rfl rfl (XS.aloadN X209.here hx rfl (hb hby d4_12) rfl rfl (XS.iconst X209.here hx rfl (hb hby d4_13) k)))) ?_
  show own_Goes p e below (T209.setTop (mkF m 14 #[rv a136, iv (0 : Int32), iv (0 : Int32)] [(.int (0 : Int32)), (.ref a136)])) _
  have l301 : own_Len Z h209 a141 .int (16 : Int32) := ⟨_, _, _, vx254⟩
  have O302 : Old Z n0 h209 := (O252.keep K209 (allS pG_a141 (allS pG_a136 all0)))
  obtain ⟨_, T259, _, X259, hQ259, st259⟩ := own_cv X209 hx hZ hown (wd hw 34 rfl) (wd hw 35 rfl) (wd hw 37 rfl) (wd hw 36 rfl) (wd hw 38 rfl) (wd hw 4 rfl) (by decide) (rm5 l Z a0 hw [] a136 a141 k151 (0 : Int32) (0 : Int32) p144 p145 p146 p147 p148 p149 p150 a137 h209 n0 O302 fx258 fx257 l301 vx254 pG_a141 pN_a136_a141 ex255 pG_a136 ex253 fx256) e209 ex255 (g := (mkF m 14 #[rv a136, iv (0 : Int32), iv (0 : Int32)] [(.int (0 : Int32)), (.ref a136)])) rfl (by rw [hml]; rfl) (rest := []) (W := 0) (lenOf pd_3 rfl) rfl (by show 2 * 0 + _ ≤ _; exact Nat.le_of_eq rfl) (hb hby d4_14) (by decide) (by decide) (by decide) (by decide)
  obtain ⟨h259, e259⟩ : ∃ z, T259.heap = z := ⟨_, rfl⟩
  rw [e259] at hQ259
  obtain ⟨rfl, Nq259, K259, ex303, vx304, ex305, fx306, fx307, fx308⟩ := hQ259
  have N259 := Fr.app N209 Nq259
  refine own_via (fun t k => st259 t (XS.pop X259.here hx rfl (hb hby d4_17) rfl rfl (XS.iloadN X259.here hx rfl (hb hby d4_18) rfl k))) ?_
  show own_Goes p e below (T259.setTop (mkF m 19 #[rv a136, iv (0 : Int32), iv (0 : Int32)] [(.int (0 : Int32))])) _
  obtain ⟨fs, hr, hrun, hended, hW, hsame⟩ := X259.leave (v := some (.int (0 : Int32))) (fun h => by rw [Bd.returns] at h; cases h)
  refine own_end (t := T259.setFrames fs) ?_ ⟨_, hrun, hended, _, _, rfl, ?_, ⟨_, rfl⟩, hW, hsame.mono (by decide) (by decide)⟩
  · exact retI X259 hx Bd.returns (hb hby d4_19) hr
  · show Q6 Z a136 a141 k151 p142 p143 p144 p145 p146 p147 p148 p149 p150 a137 h0 n0 _ T259.heap _
    rw [e259]
    exact ⟨rfl, N259, ((((Keep.refl h0 [a141, a136]).trans K161 (allS (Or.inl (List.mem_of_getElem? (i := 0) rfl)) (allS (Or.inl (List.mem_of_getElem? (i := 1) rfl)) all0))).trans K209 (allS (Or.inl (List.mem_of_getElem? (i := 0) rfl)) (allS (Or.inl (List.mem_of_getElem? (i := 1) rfl)) all0))).trans K259 (allS (Or.inl (List.mem_of_getElem? (i := 0) rfl)) (allS (Or.inl (List.mem_of_getElem? (i := 1) rfl)) all0))), ex303, vx304, ex305, fx306, fx307, fx308⟩
def Q7 (Z : State) (a344 : Addr) (a349 : Addr) (k359 : ClassId) (p350 : Int32) (p351 : Int32) (p352 : Int32) (p353 : Int32) (p354 : Int32) (p355 : Int32) (p356 : Int32) (p357 : Int32) (p358 : Int32) (a345 : Addr) (h0 : Heap) (n0 : Nat) (v : Option Value) (h : Heap) (L : List Loc) : Prop := v = some (.int (3 : Int32)) ∧ Fr n0 L ∧ Keep h0 h [a349, a344] ∧ Exa Z h a349 "[I" ∧ Arv Z h a349 k359 .int (16 : Int32) [(.int p350), (.int p351), (.int p352), (.int (1 : Int32)), (.int p354), (.int p355), (.int p356), (.int p357), (.int p358)] (.int (0 : Int32)) ∧ Exa Z h a344 zs1 ∧ Fld Z h a344 zs1 "text" "[B" (.ref a345) ∧ Fld Z h a344 zs1 "first" "[I" (.ref a349) ∧ Fld Z h a344 zs1 "length" "I" (.int (4 : Int32))
set_option maxRecDepth 65536 in
set_option maxHeartbeats 40000000 in
theorem rm7 (l : Launch) (Z : State) (a0 : Array Value) (hw : ∀ d ∈ tables_1, d.before a0 Z = true) (ws : List Jvm.Cond) (a344 : Addr) (a349 : Addr) (k359 : ClassId) (p350 : Int32) (p351 : Int32) (p352 : Int32) (p353 : Int32) (p354 : Int32) (p355 : Int32) (p356 : Int32) (p357 : Int32) (p358 : Int32) (a345 : Addr) (h0 : Heap) (n0 : Nat) (O0 : Old Z n0 h0) (pF_a344_length : Fld Z h0 a344 zs1 "length" "I" (.int (3 : Int32))) (pF_a344_first : Fld Z h0 a344 zs1 "first" "[I" (.ref a349)) (pL_a349 : own_Len Z h0 a349 .int (16 : Int32)) (pV_a349 : Arv Z h0 a349 k359 .int (16 : Int32) [(.int p350), (.int p351), (.int p352), (.int p353), (.int p354), (.int p355), (.int p356), (.int p357), (.int p358)] (.int (0 : Int32))) (pG_a349 : n0 ≤ a349) (pN_a344_a349 : a344 ≠ a349) (pE_a344 : Exa Z h0 a344 zs1) (pG_a344 : n0 ≤ a344) (pE_a349 : Exa Z h0 a349 "[I") (pF_a344_text : Fld Z h0 a344 zs1 "text" "[B" (.ref a345)) :
    MetFree l (⟨zs1, "add", "(I)I"⟩ : MethodName) (head1 (Jvm.Cond.code (⟨zs1, "add", "(I)I"⟩ : MethodName) prog_17_method_2_code 2 (some .int) :: ws) ({ frames := 0, cells := 0, slots := 0, locals := 0 } : Room)) (fun a U => a = #[(.ref a344), (.int (1 : Int32))] ∧ Z.Warmed39 U.vm ∧ U.heap = h0) (fun _ _ _ _ _ => True) (fun _ U o U' => ∃ v L, o = .returned v ∧ Q7 Z a344 a349 k359 p350 p351 p352 p353 p354 p355 p356 p357 p358 a345 h0 n0 v U'.heap L ∧ FrameEnd U o U' L ({ frames := 0, cells := 0, slots := 0, locals := 0 } : Room).cells ({ frames := 0, cells := 0, slots := 0, locals := 0 } : Room).slots) := by
  refine MetFree.of_bodySF (plainFor_of_name pn_1) hisR ?_
  intro p e s m args below meth c s₁ Bd hml0 hP hK
  obtain ⟨rfl, hZ, hh⟩ := hP
  have hx := Bd.exec
  have hby := Bd.bytes
  have hml : c.maxLocals = 2 := hml0
  have hown : s.vm.findClass zs1 = some m.cls := findClass_of_methodNamed Bd.named
  have hnm := (name_of_methodNamed Bd.named Bd.method).1
  have X0 : Stand p l e ({ frames := 0, cells := 0, slots := 0, locals := 0 } : Room) s m #[(.ref a344), (.int (1 : Int32))] below meth c s₁ [] 0 0 := Stand.of_body Bd
  have e0 : s₁.heap = h0 := by rw [← hh, Bd.state]; rfl
  have N0 := Fr.nil n0
  refine own_out ?_
  refine own_via (fun t k => castTop (ef_3 m a344 (1 : Int32)) (XS.aloadN X0.here hx rfl (hb hby d5_0) rfl rfl k)) ?_
  obtain ⟨T369, X369, e369, st369⟩ := getF X0 hx hZ hown (host := "") (Or.inl (wd hw 39 rfl)) Via.refl e0 pF_a344_length (g := (mkF m 1 #[rv a344, iv (1 : Int32)] [(.ref a344)])) rfl rfl (hb hby d5_1)
  refine own_via (fun t k => st369 t (XS.aloadN X369.here hx rfl (hb hby d5_4) rfl rfl k)) ?_
  obtain ⟨T370, X370, e370, st370⟩ := getF X369 hx hZ hown (host := "") (Or.inl (wd hw 26 rfl)) Via.refl e369 pF_a344_first (g := (mkF m 5 #[rv a344, iv (1 : Int32)] [(.ref a344), (.int (3 : Int32))])) rfl rfl (hb hby d5_5)
  refine own_via (fun t k => st370 t k) ?_
  obtain ⟨_, _, _, V371⟩ := id (pL_a349)
  obtain ⟨cl371, Ar371, -, S371, M371, -, -⟩ := id (V371)
  refine own_via (fun t k => X370.arraylength hx (by rw [e370]; exact Ar371.1) (State.isArrayOf_alike hZ.alike Ar371.2.1) (g := (mkF m 8 #[rv a344, iv (1 : Int32)] [(.ref a349), (.int (3 : Int32))])) rfl rfl (hb hby d5_8) t k) ?_
  rw [len_of S371 M371]
  show own_Goes p e below (T370.setTop (mkF m 9 #[rv a344, iv (1 : Int32)] [(.int (16 : Int32)), (.int (3 : Int32))])) _
  refine own_via (fun t k => XS.icmpNo X370.here hx rfl (hb hby d5_9) rfl (tlt (by decide : (3 : Int32) < (16 : Int32))).2.1 (XS.aloadN X370.here hx rfl (hb hby d5_12) rfl rfl k)) ?_
  obtain ⟨T372, X372, e372, st372⟩ := getF X370 hx hZ hown (host := "") (Or.inl (wd hw 26 rfl)) Via.refl e370 pF_a344_first (g := (mkF m 13 #[rv a344, iv (1 : Int32)] [(.ref a344)])) rfl rfl (hb hby d5_13)
  refine own_via (fun t k => st372 t (XS.aloadN X372.here hx rfl (hb hby d5_16) rfl rfl k)) ?_
  obtain ⟨T373, X373, e373, st373⟩ := getF X372 hx hZ hown (host := "") (Or.inl (wd hw 39 rfl)) Via.refl e372 pF_a344_length (g := (mkF m 17 #[rv a344, iv (1 : Int32)] [(.ref a344), (.ref a349)])) rfl rfl (hb hby d5_17)
  refine own_via (fun t k => st373 t (XS.iloadN X373.here hx rfl (hb hby d5_20) rfl k)) ?_
  obtain ⟨cl374, Ar374, qq374, S374, M374, H374, G374⟩ := id (pV_a349)
  have hin374 : ¬ ((3 : Int32) < 0 ∨ cl374.slots.size ≤ ((3 : Int32)).toNatClampNeg) := inb_of S374 ⟨by decide, by decide⟩
  obtain ⟨T374, h374, X374, e374, W374, st374⟩ := stI X373 hx hZ e373 Ar374 (j := (3 : Int32)) hin374 (g := (mkF m 21 #[rv a344, iv (1 : Int32)] [(.int (1 : Int32)), (.int (3 : Int32)), (.ref a349)])) rfl rfl (hb hby d5_21)
  refine own_via (fun t k => st374 t k) ?_
  have V375 : Arv Z h374 a349 k359 .int (16 : Int32) [(.int p350), (.int p351), (.int p352), (.int (1 : Int32)), (.int p354), (.int p355), (.int p356), (.int p357), (.int p358)] (.int (0 : Int32)) := Arv.set Ar374 qq374 S374 M374 H374 G374 rfl W374 3 rfl (Nat.le_of_ble_eq_true rfl)
  have N374 := Fr.snoc X374 N0 pG_a349
  show own_Goes p e below (T374.setTop (mkF m 22 #[rv a344, iv (1 : Int32)] [])) _
  refine own_via (fun t k => XS.aloadN X374.here hx rfl (hb hby d5_22) rfl rfl (XS.dup X374.here hx rfl (hb hby d5_23) rfl rfl k)) ?_
  have F376 : Fld Z h374 a344 zs1 "length" "I" (.int (3 : Int32)) := (pF_a344_length.other W374 (Or.inl pN_a344_a349))
  obtain ⟨T377, X377, e377, st377⟩ := getF X374 hx hZ hown (host := "") (Or.inl (wd hw 39 rfl)) Via.refl e374 F376 (g := (mkF m 24 #[rv a344, iv (1 : Int32)] [(.ref a344), (.ref a344)])) rfl rfl (hb hby d5_24)
  refine own_via (fun t k => st377 t (XS.dupX1 X377.here hx rfl (hb hby d5_27) rfl rfl rfl (XS.iconst X377.here hx rfl (hb hby d5_28) (XS.iadd X377.here hx rfl (hb hby d5_29) rfl k)))) ?_
  show own_Goes p e below (T377.setTop (mkF m 30 #[rv a344, iv (1 : Int32)] [(.int (4 : Int32)), (.ref a344), (.int (3 : Int32))])) _
  have E378 : Exa Z h374 a344 zs1 := (pE_a344.wr W374)
  obtain ⟨T379, h379, X379, e379, W379, st379⟩ := putF X377 hx hZ hown (host := "") (Or.inl (wd hw 39 rfl)) Via.refl e377 F376 E378 (Or.inl (wd hw 40 rfl)) (wd hw 3 rfl) (ty := .int) (by decide) rfl rfl (g := (mkF m 30 #[rv a344, iv (1 : Int32)] [(.int (4 : Int32)), (.ref a344), (.int (3 : Int32))])) rfl rfl (hb hby d5_30)
  refine own_via (fun t k => st379 t k) ?_
  have Fw379 : Fld Z h379 a344 zs1 "length" "I" (.int (4 : Int32)) := F376.same W379
  have N379 := Fr.snoc X379 N374 pG_a344
  show own_Goes p e below (T379.setTop (mkF m 33 #[rv a344, iv (1 : Int32)] [(.int (3 : Int32))])) _
  obtain ⟨fs, hr, hrun, hended, hW, hsame⟩ := X379.leave (v := some (.int (3 : Int32))) (fun h => by rw [Bd.returns] at h; cases h)
  refine own_end (t := T379.setFrames fs) ?_ ⟨_, hrun, hended, _, _, rfl, ?_, ⟨_, rfl⟩, hW, hsame.mono (by decide) (by decide)⟩
  · exact retI X379 hx Bd.returns (hb hby d5_33) hr
  have E380 : Exa Z h379 a349 "[I" := ((pE_a349.wr W374).wr W379)
  have V381 : Arv Z h379 a349 k359 .int (16 : Int32) [(.int p350), (.int p351), (.int p352), (.int (1 : Int32)), (.int p354), (.int p355), (.int p356), (.int p357), (.int p358)] (.int (0 : Int32)) := (V375.other W379 (Ne.symm pN_a344_a349))
  have E382 : Exa Z h379 a344 zs1 := (E378.wr W379)
  have F383 : Fld Z h379 a344 zs1 "text" "[B" (.ref a345) := ((pF_a344_text.other W374 (Or.inl pN_a344_a349)).other W379 (Or.inr (slot_ne (Or.inr (wd hw 20 rfl)) (Or.inl (wd hw 40 rfl)) (by decide) (t := (.array .byte)) (t' := .int) (by decide) (by decide))))
  have F384 : Fld Z h379 a344 zs1 "first" "[I" (.ref a349) := ((pF_a344_first.other W374 (Or.inl pN_a344_a349)).other W379 (Or.inr (slot_ne (Or.inl (wd hw 27 rfl)) (Or.inl (wd hw 40 rfl)) (by decide) (t := (.array .int)) (t' := .int) (by decide) (by decide))))
  · show Q7 Z a344 a349 k359 p350 p351 p352 p353 p354 p355 p356 p357 p358 a345 h0 n0 _ T379.heap _
    rw [e379]
    exact ⟨rfl, N379, (((Keep.refl h0 [a349, a344]).wr W374 (Or.inl (List.mem_of_getElem? (i := 0) rfl))).wr W379 (Or.inl (List.mem_of_getElem? (i := 1) rfl))), E380, V381, E382, F383, F384, Fw379⟩
def Q8 (Z : State) (a392 : Addr) (a397 : Addr) (k407 : ClassId) (p398 : Int32) (p399 : Int32) (p400 : Int32) (p401 : Int32) (p402 : Int32) (p403 : Int32) (p404 : Int32) (p405 : Int32) (p406 : Int32) (a393 : Addr) (h0 : Heap) (n0 : Nat) (v : Option Value) (h : Heap) (L : List Loc) : Prop := v = some (.int (4 : Int32)) ∧ Fr n0 L ∧ Keep h0 h [a397, a392] ∧ Exa Z h a397 "[I" ∧ Arv Z h a397 k407 .int (16 : Int32) [(.int p398), (.int p399), (.int p400), (.int p401), (.int (0 : Int32)), (.int p403), (.int p404), (.int p405), (.int p406)] (.int (0 : Int32)) ∧ Exa Z h a392 zs1 ∧ Fld Z h a392 zs1 "text" "[B" (.ref a393) ∧ Fld Z h a392 zs1 "first" "[I" (.ref a397) ∧ Fld Z h a392 zs1 "length" "I" (.int (5 : Int32))
set_option maxRecDepth 65536 in
set_option maxHeartbeats 40000000 in
theorem rm8 (l : Launch) (Z : State) (a0 : Array Value) (hw : ∀ d ∈ tables_1, d.before a0 Z = true) (ws : List Jvm.Cond) (a392 : Addr) (a397 : Addr) (k407 : ClassId) (p398 : Int32) (p399 : Int32) (p400 : Int32) (p401 : Int32) (p402 : Int32) (p403 : Int32) (p404 : Int32) (p405 : Int32) (p406 : Int32) (a393 : Addr) (h0 : Heap) (n0 : Nat) (O0 : Old Z n0 h0) (pF_a392_length : Fld Z h0 a392 zs1 "length" "I" (.int (4 : Int32))) (pF_a392_first : Fld Z h0 a392 zs1 "first" "[I" (.ref a397)) (pL_a397 : own_Len Z h0 a397 .int (16 : Int32)) (pV_a397 : Arv Z h0 a397 k407 .int (16 : Int32) [(.int p398), (.int p399), (.int p400), (.int p401), (.int p402), (.int p403), (.int p404), (.int p405), (.int p406)] (.int (0 : Int32))) (pG_a397 : n0 ≤ a397) (pN_a392_a397 : a392 ≠ a397) (pE_a392 : Exa Z h0 a392 zs1) (pG_a392 : n0 ≤ a392) (pE_a397 : Exa Z h0 a397 "[I") (pF_a392_text : Fld Z h0 a392 zs1 "text" "[B" (.ref a393)) :
    MetFree l (⟨zs1, "add", "(I)I"⟩ : MethodName) (head1 (Jvm.Cond.code (⟨zs1, "add", "(I)I"⟩ : MethodName) prog_17_method_2_code 2 (some .int) :: ws) ({ frames := 0, cells := 0, slots := 0, locals := 0 } : Room)) (fun a U => a = #[(.ref a392), (.int (0 : Int32))] ∧ Z.Warmed39 U.vm ∧ U.heap = h0) (fun _ _ _ _ _ => True) (fun _ U o U' => ∃ v L, o = .returned v ∧ Q8 Z a392 a397 k407 p398 p399 p400 p401 p402 p403 p404 p405 p406 a393 h0 n0 v U'.heap L ∧ FrameEnd U o U' L ({ frames := 0, cells := 0, slots := 0, locals := 0 } : Room).cells ({ frames := 0, cells := 0, slots := 0, locals := 0 } : Room).slots) := by
  refine MetFree.of_bodySF (plainFor_of_name pn_1) hisR ?_
  intro p e s m args below meth c s₁ Bd hml0 hP hK
  obtain ⟨rfl, hZ, hh⟩ := hP
  have hx := Bd.exec
  have hby := Bd.bytes
  have hml : c.maxLocals = 2 := hml0
  have hown : s.vm.findClass zs1 = some m.cls := findClass_of_methodNamed Bd.named
  have hnm := (name_of_methodNamed Bd.named Bd.method).1
  have X0 : Stand p l e ({ frames := 0, cells := 0, slots := 0, locals := 0 } : Room) s m #[(.ref a392), (.int (0 : Int32))] below meth c s₁ [] 0 0 := Stand.of_body Bd
  have e0 : s₁.heap = h0 := by rw [← hh, Bd.state]; rfl
  have N0 := Fr.nil n0
  refine own_out ?_
  refine own_via (fun t k => castTop (ef_3 m a392 (0 : Int32)) (XS.aloadN X0.here hx rfl (hb hby d5_0) rfl rfl k)) ?_
  obtain ⟨T417, X417, e417, st417⟩ := getF X0 hx hZ hown (host := "") (Or.inl (wd hw 39 rfl)) Via.refl e0 pF_a392_length (g := (mkF m 1 #[rv a392, iv (0 : Int32)] [(.ref a392)])) rfl rfl (hb hby d5_1)
  refine own_via (fun t k => st417 t (XS.aloadN X417.here hx rfl (hb hby d5_4) rfl rfl k)) ?_
  obtain ⟨T418, X418, e418, st418⟩ := getF X417 hx hZ hown (host := "") (Or.inl (wd hw 26 rfl)) Via.refl e417 pF_a392_first (g := (mkF m 5 #[rv a392, iv (0 : Int32)] [(.ref a392), (.int (4 : Int32))])) rfl rfl (hb hby d5_5)
  refine own_via (fun t k => st418 t k) ?_
  obtain ⟨_, _, _, V419⟩ := id (pL_a397)
  obtain ⟨cl419, Ar419, -, S419, M419, -, -⟩ := id (V419)
  refine own_via (fun t k => X418.arraylength hx (by rw [e418]; exact Ar419.1) (State.isArrayOf_alike hZ.alike Ar419.2.1) (g := (mkF m 8 #[rv a392, iv (0 : Int32)] [(.ref a397), (.int (4 : Int32))])) rfl rfl (hb hby d5_8) t k) ?_
  rw [len_of S419 M419]
  show own_Goes p e below (T418.setTop (mkF m 9 #[rv a392, iv (0 : Int32)] [(.int (16 : Int32)), (.int (4 : Int32))])) _
  refine own_via (fun t k => XS.icmpNo X418.here hx rfl (hb hby d5_9) rfl (tlt (by decide : (4 : Int32) < (16 : Int32))).2.1 (XS.aloadN X418.here hx rfl (hb hby d5_12) rfl rfl k)) ?_
  obtain ⟨T420, X420, e420, st420⟩ := getF X418 hx hZ hown (host := "") (Or.inl (wd hw 26 rfl)) Via.refl e418 pF_a392_first (g := (mkF m 13 #[rv a392, iv (0 : Int32)] [(.ref a392)])) rfl rfl (hb hby d5_13)
  refine own_via (fun t k => st420 t (XS.aloadN X420.here hx rfl (hb hby d5_16) rfl rfl k)) ?_
  obtain ⟨T421, X421, e421, st421⟩ := getF X420 hx hZ hown (host := "") (Or.inl (wd hw 39 rfl)) Via.refl e420 pF_a392_length (g := (mkF m 17 #[rv a392, iv (0 : Int32)] [(.ref a392), (.ref a397)])) rfl rfl (hb hby d5_17)
  refine own_via (fun t k => st421 t (XS.iloadN X421.here hx rfl (hb hby d5_20) rfl k)) ?_
  obtain ⟨cl422, Ar422, qq422, S422, M422, H422, G422⟩ := id (pV_a397)
  have hin422 : ¬ ((4 : Int32) < 0 ∨ cl422.slots.size ≤ ((4 : Int32)).toNatClampNeg) := inb_of S422 ⟨by decide, by decide⟩
  obtain ⟨T422, h422, X422, e422, W422, st422⟩ := stI X421 hx hZ e421 Ar422 (j := (4 : Int32)) hin422 (g := (mkF m 21 #[rv a392, iv (0 : Int32)] [(.int (0 : Int32)), (.int (4 : Int32)), (.ref a397)])) rfl rfl (hb hby d5_21)
  refine own_via (fun t k => st422 t k) ?_
  have V423 : Arv Z h422 a397 k407 .int (16 : Int32) [(.int p398), (.int p399), (.int p400), (.int p401), (.int (0 : Int32)), (.int p403), (.int p404), (.int p405), (.int p406)] (.int (0 : Int32)) := Arv.set Ar422 qq422 S422 M422 H422 G422 rfl W422 4 rfl (Nat.le_of_ble_eq_true rfl)
  have N422 := Fr.snoc X422 N0 pG_a397
  show own_Goes p e below (T422.setTop (mkF m 22 #[rv a392, iv (0 : Int32)] [])) _
  refine own_via (fun t k => XS.aloadN X422.here hx rfl (hb hby d5_22) rfl rfl (XS.dup X422.here hx rfl (hb hby d5_23) rfl rfl k)) ?_
  have F424 : Fld Z h422 a392 zs1 "length" "I" (.int (4 : Int32)) := (pF_a392_length.other W422 (Or.inl pN_a392_a397))
  obtain ⟨T425, X425, e425, st425⟩ := getF X422 hx hZ hown (host := "") (Or.inl (wd hw 39 rfl)) Via.refl e422 F424 (g := (mkF m 24 #[rv a392, iv (0 : Int32)] [(.ref a392), (.ref a392)])) rfl rfl (hb hby d5_24)
  refine own_via (fun t k => st425 t (XS.dupX1 X425.here hx rfl (hb hby d5_27) rfl rfl rfl (XS.iconst X425.here hx rfl (hb hby d5_28) (XS.iadd X425.here hx rfl (hb hby d5_29) rfl k)))) ?_
  show own_Goes p e below (T425.setTop (mkF m 30 #[rv a392, iv (0 : Int32)] [(.int (5 : Int32)), (.ref a392), (.int (4 : Int32))])) _
  have E426 : Exa Z h422 a392 zs1 := (pE_a392.wr W422)
  obtain ⟨T427, h427, X427, e427, W427, st427⟩ := putF X425 hx hZ hown (host := "") (Or.inl (wd hw 39 rfl)) Via.refl e425 F424 E426 (Or.inl (wd hw 40 rfl)) (wd hw 3 rfl) (ty := .int) (by decide) rfl rfl (g := (mkF m 30 #[rv a392, iv (0 : Int32)] [(.int (5 : Int32)), (.ref a392), (.int (4 : Int32))])) rfl rfl (hb hby d5_30)
  refine own_via (fun t k => st427 t k) ?_
  have Fw427 : Fld Z h427 a392 zs1 "length" "I" (.int (5 : Int32)) := F424.same W427
  have N427 := Fr.snoc X427 N422 pG_a392
  show own_Goes p e below (T427.setTop (mkF m 33 #[rv a392, iv (0 : Int32)] [(.int (4 : Int32))])) _
  obtain ⟨fs, hr, hrun, hended, hW, hsame⟩ := X427.leave (v := some (.int (4 : Int32))) (fun h => by rw [Bd.returns] at h; cases h)
  refine own_end (t := T427.setFrames fs) ?_ ⟨_, hrun, hended, _, _, rfl, ?_, ⟨_, rfl⟩, hW, hsame.mono (by decide) (by decide)⟩
  · exact retI X427 hx Bd.returns (hb hby d5_33) hr
  have E428 : Exa Z h427 a397 "[I" := ((pE_a397.wr W422).wr W427)
  have V429 : Arv Z h427 a397 k407 .int (16 : Int32) [(.int p398), (.int p399), (.int p400), (.int p401), (.int (0 : Int32)), (.int p403), (.int p404), (.int p405), (.int p406)] (.int (0 : Int32)) := (V423.other W427 (Ne.symm pN_a392_a397))
  have E430 : Exa Z h427 a392 zs1 := (E426.wr W427)
  have F431 : Fld Z h427 a392 zs1 "text" "[B" (.ref a393) := ((pF_a392_text.other W422 (Or.inl pN_a392_a397)).other W427 (Or.inr (slot_ne (Or.inr (wd hw 20 rfl)) (Or.inl (wd hw 40 rfl)) (by decide) (t := (.array .byte)) (t' := .int) (by decide) (by decide))))
  have F432 : Fld Z h427 a392 zs1 "first" "[I" (.ref a397) := ((pF_a392_first.other W422 (Or.inl pN_a392_a397)).other W427 (Or.inr (slot_ne (Or.inl (wd hw 27 rfl)) (Or.inl (wd hw 40 rfl)) (by decide) (t := (.array .int)) (t' := .int) (by decide) (by decide))))
  · show Q8 Z a392 a397 k407 p398 p399 p400 p401 p402 p403 p404 p405 p406 a393 h0 n0 _ T427.heap _
    rw [e427]
    exact ⟨rfl, N427, (((Keep.refl h0 [a397, a392]).wr W422 (Or.inl (List.mem_of_getElem? (i := 0) rfl))).wr W427 (Or.inl (List.mem_of_getElem? (i := 1) rfl))), E428, V429, E430, F431, F432, Fw427⟩
def Q9 (Z : State) (a442 : Addr) (a447 : Addr) (k457 : ClassId) (p448 : Int32) (p449 : Int32) (p450 : Int32) (p451 : Int32) (p452 : Int32) (p453 : Int32) (p454 : Int32) (p455 : Int32) (p456 : Int32) (a443 : Addr) (h0 : Heap) (n0 : Nat) (v : Option Value) (h : Heap) (L : List Loc) : Prop := v = some (.int (5 : Int32)) ∧ Fr n0 L ∧ Keep h0 h [a447, a442] ∧ Exa Z h a447 "[I" ∧ Arv Z h a447 k457 .int (16 : Int32) [(.int p448), (.int p449), (.int p450), (.int p451), (.int p452), (.int (0 : Int32)), (.int p454), (.int p455), (.int p456)] (.int (0 : Int32)) ∧ Exa Z h a442 zs1 ∧ Fld Z h a442 zs1 "text" "[B" (.ref a443) ∧ Fld Z h a442 zs1 "first" "[I" (.ref a447) ∧ Fld Z h a442 zs1 "length" "I" (.int (6 : Int32))
set_option maxRecDepth 65536 in
set_option maxHeartbeats 40000000 in
theorem rm9 (l : Launch) (Z : State) (a0 : Array Value) (hw : ∀ d ∈ tables_1, d.before a0 Z = true) (ws : List Jvm.Cond) (a442 : Addr) (a447 : Addr) (k457 : ClassId) (p448 : Int32) (p449 : Int32) (p450 : Int32) (p451 : Int32) (p452 : Int32) (p453 : Int32) (p454 : Int32) (p455 : Int32) (p456 : Int32) (a443 : Addr) (h0 : Heap) (n0 : Nat) (O0 : Old Z n0 h0) (pF_a442_length : Fld Z h0 a442 zs1 "length" "I" (.int (5 : Int32))) (pF_a442_first : Fld Z h0 a442 zs1 "first" "[I" (.ref a447)) (pL_a447 : own_Len Z h0 a447 .int (16 : Int32)) (pV_a447 : Arv Z h0 a447 k457 .int (16 : Int32) [(.int p448), (.int p449), (.int p450), (.int p451), (.int p452), (.int p453), (.int p454), (.int p455), (.int p456)] (.int (0 : Int32))) (pG_a447 : n0 ≤ a447) (pN_a442_a447 : a442 ≠ a447) (pE_a442 : Exa Z h0 a442 zs1) (pG_a442 : n0 ≤ a442) (pE_a447 : Exa Z h0 a447 "[I") (pF_a442_text : Fld Z h0 a442 zs1 "text" "[B" (.ref a443)) :
    MetFree l (⟨zs1, "add", "(I)I"⟩ : MethodName) (head1 (Jvm.Cond.code (⟨zs1, "add", "(I)I"⟩ : MethodName) prog_17_method_2_code 2 (some .int) :: ws) ({ frames := 0, cells := 0, slots := 0, locals := 0 } : Room)) (fun a U => a = #[(.ref a442), (.int (0 : Int32))] ∧ Z.Warmed39 U.vm ∧ U.heap = h0) (fun _ _ _ _ _ => True) (fun _ U o U' => ∃ v L, o = .returned v ∧ Q9 Z a442 a447 k457 p448 p449 p450 p451 p452 p453 p454 p455 p456 a443 h0 n0 v U'.heap L ∧ FrameEnd U o U' L ({ frames := 0, cells := 0, slots := 0, locals := 0 } : Room).cells ({ frames := 0, cells := 0, slots := 0, locals := 0 } : Room).slots) := by
  refine MetFree.of_bodySF (plainFor_of_name pn_1) hisR ?_
  intro p e s m args below meth c s₁ Bd hml0 hP hK
  obtain ⟨rfl, hZ, hh⟩ := hP
  have hx := Bd.exec
  have hby := Bd.bytes
  have hml : c.maxLocals = 2 := hml0
  have hown : s.vm.findClass zs1 = some m.cls := findClass_of_methodNamed Bd.named
  have hnm := (name_of_methodNamed Bd.named Bd.method).1
  have X0 : Stand p l e ({ frames := 0, cells := 0, slots := 0, locals := 0 } : Room) s m #[(.ref a442), (.int (0 : Int32))] below meth c s₁ [] 0 0 := Stand.of_body Bd
  have e0 : s₁.heap = h0 := by rw [← hh, Bd.state]; rfl
  have N0 := Fr.nil n0
  refine own_out ?_
  refine own_via (fun t k => castTop (ef_3 m a442 (0 : Int32)) (XS.aloadN X0.here hx rfl (hb hby d5_0) rfl rfl k)) ?_
  obtain ⟨T467, X467, e467, st467⟩ := getF X0 hx hZ hown (host := "") (Or.inl (wd hw 39 rfl)) Via.refl e0 pF_a442_length (g := (mkF m 1 #[rv a442, iv (0 : Int32)] [(.ref a442)])) rfl rfl (hb hby d5_1)
  refine own_via (fun t k => st467 t (XS.aloadN X467.here hx rfl (hb hby d5_4) rfl rfl k)) ?_
  obtain ⟨T468, X468, e468, st468⟩ := getF X467 hx hZ hown (host := "") (Or.inl (wd hw 26 rfl)) Via.refl e467 pF_a442_first (g := (mkF m 5 #[rv a442, iv (0 : Int32)] [(.ref a442), (.int (5 : Int32))])) rfl rfl (hb hby d5_5)
  refine own_via (fun t k => st468 t k) ?_
  obtain ⟨_, _, _, V469⟩ := id (pL_a447)
  obtain ⟨cl469, Ar469, -, S469, M469, -, -⟩ := id (V469)
  refine own_via (fun t k => X468.arraylength hx (by rw [e468]; exact Ar469.1) (State.isArrayOf_alike hZ.alike Ar469.2.1) (g := (mkF m 8 #[rv a442, iv (0 : Int32)] [(.ref a447), (.int (5 : Int32))])) rfl rfl (hb hby d5_8) t k) ?_
  rw [len_of S469 M469]
  show own_Goes p e below (T468.setTop (mkF m 9 #[rv a442, iv (0 : Int32)] [(.int (16 : Int32)), (.int (5 : Int32))])) _
  refine own_via (fun t k => XS.icmpNo X468.here hx rfl (hb hby d5_9) rfl (tlt (by decide : (5 : Int32) < (16 : Int32))).2.1 (XS.aloadN X468.here hx rfl (hb hby d5_12) rfl rfl k)) ?_
  obtain ⟨T470, X470, e470, st470⟩ := getF X468 hx hZ hown (host := "") (Or.inl (wd hw 26 rfl)) Via.refl e468 pF_a442_first (g := (mkF m 13 #[rv a442, iv (0 : Int32)] [(.ref a442)])) rfl rfl (hb hby d5_13)
  refine own_via (fun t k => st470 t (XS.aloadN X470.here hx rfl (hb hby d5_16) rfl rfl k)) ?_
  obtain ⟨T471, X471, e471, st471⟩ := getF X470 hx hZ hown (host := "") (Or.inl (wd hw 39 rfl)) Via.refl e470 pF_a442_length (g := (mkF m 17 #[rv a442, iv (0 : Int32)] [(.ref a442), (.ref a447)])) rfl rfl (hb hby d5_17)
  refine own_via (fun t k => st471 t (XS.iloadN X471.here hx rfl (hb hby d5_20) rfl k)) ?_
  obtain ⟨cl472, Ar472, qq472, S472, M472, H472, G472⟩ := id (pV_a447)
  have hin472 : ¬ ((5 : Int32) < 0 ∨ cl472.slots.size ≤ ((5 : Int32)).toNatClampNeg) := inb_of S472 ⟨by decide, by decide⟩
  obtain ⟨T472, h472, X472, e472, W472, st472⟩ := stI X471 hx hZ e471 Ar472 (j := (5 : Int32)) hin472 (g := (mkF m 21 #[rv a442, iv (0 : Int32)] [(.int (0 : Int32)), (.int (5 : Int32)), (.ref a447)])) rfl rfl (hb hby d5_21)
  refine own_via (fun t k => st472 t k) ?_
  have V473 : Arv Z h472 a447 k457 .int (16 : Int32) [(.int p448), (.int p449), (.int p450), (.int p451), (.int p452), (.int (0 : Int32)), (.int p454), (.int p455), (.int p456)] (.int (0 : Int32)) := Arv.set Ar472 qq472 S472 M472 H472 G472 rfl W472 5 rfl (Nat.le_of_ble_eq_true rfl)
  have N472 := Fr.snoc X472 N0 pG_a447
  show own_Goes p e below (T472.setTop (mkF m 22 #[rv a442, iv (0 : Int32)] [])) _
  refine own_via (fun t k => XS.aloadN X472.here hx rfl (hb hby d5_22) rfl rfl (XS.dup X472.here hx rfl (hb hby d5_23) rfl rfl k)) ?_
  have F474 : Fld Z h472 a442 zs1 "length" "I" (.int (5 : Int32)) := (pF_a442_length.other W472 (Or.inl pN_a442_a447))
  obtain ⟨T475, X475, e475, st475⟩ := getF X472 hx hZ hown (host := "") (Or.inl (wd hw 39 rfl)) Via.refl e472 F474 (g := (mkF m 24 #[rv a442, iv (0 : Int32)] [(.ref a442), (.ref a442)])) rfl rfl (hb hby d5_24)
  refine own_via (fun t k => st475 t (XS.dupX1 X475.here hx rfl (hb hby d5_27) rfl rfl rfl (XS.iconst X475.here hx rfl (hb hby d5_28) (XS.iadd X475.here hx rfl (hb hby d5_29) rfl k)))) ?_
  show own_Goes p e below (T475.setTop (mkF m 30 #[rv a442, iv (0 : Int32)] [(.int (6 : Int32)), (.ref a442), (.int (5 : Int32))])) _
  have E476 : Exa Z h472 a442 zs1 := (pE_a442.wr W472)
  obtain ⟨T477, h477, X477, e477, W477, st477⟩ := putF X475 hx hZ hown (host := "") (Or.inl (wd hw 39 rfl)) Via.refl e475 F474 E476 (Or.inl (wd hw 40 rfl)) (wd hw 3 rfl) (ty := .int) (by decide) rfl rfl (g := (mkF m 30 #[rv a442, iv (0 : Int32)] [(.int (6 : Int32)), (.ref a442), (.int (5 : Int32))])) rfl rfl (hb hby d5_30)
  refine own_via (fun t k => st477 t k) ?_
  have Fw477 : Fld Z h477 a442 zs1 "length" "I" (.int (6 : Int32)) := F474.same W477
  have N477 := Fr.snoc X477 N472 pG_a442
  show own_Goes p e below (T477.setTop (mkF m 33 #[rv a442, iv (0 : Int32)] [(.int (5 : Int32))])) _
  obtain ⟨fs, hr, hrun, hended, hW, hsame⟩ := X477.leave (v := some (.int (5 : Int32))) (fun h => by rw [Bd.returns] at h; cases h)
  refine own_end (t := T477.setFrames fs) ?_ ⟨_, hrun, hended, _, _, rfl, ?_, ⟨_, rfl⟩, hW, hsame.mono (by decide) (by decide)⟩
  · exact retI X477 hx Bd.returns (hb hby d5_33) hr
  have E478 : Exa Z h477 a447 "[I" := ((pE_a447.wr W472).wr W477)
  have V479 : Arv Z h477 a447 k457 .int (16 : Int32) [(.int p448), (.int p449), (.int p450), (.int p451), (.int p452), (.int (0 : Int32)), (.int p454), (.int p455), (.int p456)] (.int (0 : Int32)) := (V473.other W477 (Ne.symm pN_a442_a447))
  have E480 : Exa Z h477 a442 zs1 := (E476.wr W477)
  have F481 : Fld Z h477 a442 zs1 "text" "[B" (.ref a443) := ((pF_a442_text.other W472 (Or.inl pN_a442_a447)).other W477 (Or.inr (slot_ne (Or.inr (wd hw 20 rfl)) (Or.inl (wd hw 40 rfl)) (by decide) (t := (.array .byte)) (t' := .int) (by decide) (by decide))))
  have F482 : Fld Z h477 a442 zs1 "first" "[I" (.ref a447) := ((pF_a442_first.other W472 (Or.inl pN_a442_a447)).other W477 (Or.inr (slot_ne (Or.inl (wd hw 27 rfl)) (Or.inl (wd hw 40 rfl)) (by decide) (t := (.array .int)) (t' := .int) (by decide) (by decide))))
  · show Q9 Z a442 a447 k457 p448 p449 p450 p451 p452 p453 p454 p455 p456 a443 h0 n0 _ T477.heap _
    rw [e477]
    exact ⟨rfl, N477, (((Keep.refl h0 [a447, a442]).wr W472 (Or.inl (List.mem_of_getElem? (i := 0) rfl))).wr W477 (Or.inl (List.mem_of_getElem? (i := 1) rfl))), E478, V479, E480, F481, F482, Fw477⟩
def Q10 (Z : State) (a318 : Addr) (a323 : Addr) (k333 : ClassId) (p324 : Int32) (p325 : Int32) (p326 : Int32) (p327 : Int32) (p328 : Int32) (p329 : Int32) (p330 : Int32) (p331 : Int32) (p332 : Int32) (a319 : Addr) (h0 : Heap) (n0 : Nat) (v : Option Value) (h : Heap) (L : List Loc) : Prop := v = some (.int (3 : Int32)) ∧ Fr n0 L ∧ Keep h0 h [a323, a318] ∧ Exa Z h a323 "[I" ∧ Arv Z h a323 k333 .int (16 : Int32) [(.int p324), (.int p325), (.int p326), (.int (1 : Int32)), (.int (0 : Int32)), (.int (0 : Int32)), (.int p330), (.int p331), (.int p332)] (.int (0 : Int32)) ∧ Exa Z h a318 zs1 ∧ Fld Z h a318 zs1 "text" "[B" (.ref a319) ∧ Fld Z h a318 zs1 "first" "[I" (.ref a323) ∧ Fld Z h a318 zs1 "length" "I" (.int (6 : Int32))
set_option maxRecDepth 65536 in
set_option maxHeartbeats 40000000 in
theorem rm10 (l : Launch) (Z : State) (a0 : Array Value) (hw : ∀ d ∈ tables_1, d.before a0 Z = true) (ws : List Jvm.Cond) (a318 : Addr) (a323 : Addr) (k333 : ClassId) (p324 : Int32) (p325 : Int32) (p326 : Int32) (p327 : Int32) (p328 : Int32) (p329 : Int32) (p330 : Int32) (p331 : Int32) (p332 : Int32) (a319 : Addr) (h0 : Heap) (n0 : Nat) (O0 : Old Z n0 h0) (pF_a318_length : Fld Z h0 a318 zs1 "length" "I" (.int (3 : Int32))) (pF_a318_first : Fld Z h0 a318 zs1 "first" "[I" (.ref a323)) (pL_a323 : own_Len Z h0 a323 .int (16 : Int32)) (pV_a323 : Arv Z h0 a323 k333 .int (16 : Int32) [(.int p324), (.int p325), (.int p326), (.int p327), (.int p328), (.int p329), (.int p330), (.int p331), (.int p332)] (.int (0 : Int32))) (pG_a323 : n0 ≤ a323) (pN_a318_a323 : a318 ≠ a323) (pE_a318 : Exa Z h0 a318 zs1) (pG_a318 : n0 ≤ a318) (pE_a323 : Exa Z h0 a323 "[I") (pF_a318_text : Fld Z h0 a318 zs1 "text" "[B" (.ref a319)) :
    MetFree l (⟨zs1, "open", "(I)I"⟩ : MethodName) (head1 (Jvm.Cond.code (⟨zs1, "open", "(I)I"⟩ : MethodName) prog_17_method_5_code 3 (some .int) :: ws) ({ frames := 1, cells := 0, slots := 0, locals := 13 } : Room)) (fun a U => a = #[(.ref a318), (.int (1 : Int32))] ∧ Z.Warmed39 U.vm ∧ U.heap = h0) (fun _ _ _ _ _ => True) (fun _ U o U' => ∃ v L, o = .returned v ∧ Q10 Z a318 a323 k333 p324 p325 p326 p327 p328 p329 p330 p331 p332 a319 h0 n0 v U'.heap L ∧ FrameEnd U o U' L ({ frames := 1, cells := 0, slots := 0, locals := 13 } : Room).cells ({ frames := 1, cells := 0, slots := 0, locals := 13 } : Room).slots) := by
  refine MetFree.of_bodySF (plainFor_of_name pn_1) hisR ?_
  intro p e s m args below meth c s₁ Bd hml0 hP hK
  obtain ⟨rfl, hZ, hh⟩ := hP
  have hx := Bd.exec
  have hby := Bd.bytes
  have hml : c.maxLocals = 3 := hml0
  have hown : s.vm.findClass zs1 = some m.cls := findClass_of_methodNamed Bd.named
  have hnm := (name_of_methodNamed Bd.named Bd.method).1
  have X0 : Stand p l e ({ frames := 1, cells := 0, slots := 0, locals := 13 } : Room) s m #[(.ref a318), (.int (1 : Int32))] below meth c s₁ [] 0 0 := Stand.of_body Bd
  have e0 : s₁.heap = h0 := by rw [← hh, Bd.state]; rfl
  have N0 := Fr.nil n0
  refine own_out ?_
  refine own_via (fun t k => castTop (ef_4 m a318 (1 : Int32)) (XS.aloadN X0.here hx rfl (hb hby d4_0) rfl rfl (XS.iloadN X0.here hx rfl (hb hby d4_1) rfl k))) ?_
  show own_Goes p e below (s₁.setTop (mkF m 2 #[rv a318, iv (1 : Int32), .unset] [(.int (1 : Int32)), (.ref a318)])) _
  obtain ⟨_, T343, _, X343, hQ343, st343⟩ := own_cv X0 hx hZ hown (wd hw 34 rfl) (wd hw 35 rfl) (wd hw 37 rfl) (wd hw 36 rfl) (wd hw 38 rfl) (wd hw 4 rfl) (by decide) (rm7 l Z a0 hw [] a318 a323 k333 p324 p325 p326 p327 p328 p329 p330 p331 p332 a319 h0 n0 O0 pF_a318_length pF_a318_first pL_a323 pV_a323 pG_a323 pN_a318_a323 pE_a318 pG_a318 pE_a323 pF_a318_text) e0 pE_a318 (g := (mkF m 2 #[rv a318, iv (1 : Int32), .unset] [(.int (1 : Int32)), (.ref a318)])) rfl (by rw [hml]; rfl) (rest := []) (W := 0) (lenOf pd_3 rfl) rfl (by show 2 * 0 + _ ≤ _; exact Nat.le_of_eq rfl) (hb hby d4_2) (by decide) (by decide) (by decide) (by decide)
  obtain ⟨h343, e343⟩ : ∃ z, T343.heap = z := ⟨_, rfl⟩
  rw [e343] at hQ343
  obtain ⟨rfl, Nq343, K343, ex385, vx386, ex387, fx388, fx389, fx390⟩ := hQ343
  have N343 := Fr.app N0 Nq343
  refine own_via (fun t k => st343 t (XS.istoreN X343.here hx rfl (hb hby d4_5) rfl (l' := #[rv a318, iv (1 : Int32), iv (3 : Int32)]) rfl (XS.aloadN X343.here hx rfl (hb hby d4_6) rfl rfl (XS.iconst X343.here hx rfl (hb hby d4_7) k)))) ?_
  show own_Goes p e below (T343.setTop (mkF m 8 #[rv a318, iv (1 : Int32), iv (3 : Int32)] [(.int (0 : Int32)), (.ref a318)])) _
  have l433 : own_Len Z h343 a323 .int (16 : Int32) := ⟨_, _, _, vx386⟩
  have O434 : Old Z n0 h343 := (O0.keep K343 (allS pG_a323 (allS pG_a318 all0)))
  obtain ⟨_, T391, _, X391, hQ391, st391⟩ := own_cv X343 hx hZ hown (wd hw 34 rfl) (wd hw 35 rfl) (wd hw 37 rfl) (wd hw 36 rfl) (wd hw 38 rfl) (wd hw 4 rfl) (by decide) (rm8 l Z a0 hw [] a318 a323 k333 p324 p325 p326 (1 : Int32) p328 p329 p330 p331 p332 a319 h343 n0 O434 fx390 fx389 l433 vx386 pG_a323 pN_a318_a323 ex387 pG_a318 ex385 fx388) e343 ex387 (g := (mkF m 8 #[rv a318, iv (1 : Int32), iv (3 : Int32)] [(.int (0 : Int32)), (.ref a318)])) rfl (by rw [hml]; rfl) (rest := []) (W := 0) (lenOf pd_3 rfl) rfl (by show 2 * 0 + _ ≤ _; exact Nat.le_of_eq rfl) (hb hby d4_8) (by decide) (by decide) (by decide) (by decide)
  obtain ⟨h391, e391⟩ : ∃ z, T391.heap = z := ⟨_, rfl⟩
  rw [e391] at hQ391
  obtain ⟨rfl, Nq391, K391, ex435, vx436, ex437, fx438, fx439, fx440⟩ := hQ391
  have N391 := Fr.app N343 Nq391
  refine own_via (fun t k => st391 t (XS.pop X391.here hx rfl (hb hby d4_11) rfl rfl (XS.aloadN X391.here hx rfl (hb hby d4_12) rfl rfl (XS.iconst X391.here hx rfl (hb hby d4_13) k)))) ?_
  show own_Goes p e below (T391.setTop (mkF m 14 #[rv a318, iv (1 : Int32), iv (3 : Int32)] [(.int (0 : Int32)), (.ref a318)])) _
  have l483 : own_Len Z h391 a323 .int (16 : Int32) := ⟨_, _, _, vx436⟩
  have O484 : Old Z n0 h391 := (O434.keep K391 (allS pG_a323 (allS pG_a318 all0)))
  obtain ⟨_, T441, _, X441, hQ441, st441⟩ := own_cv X391 hx hZ hown (wd hw 34 rfl) (wd hw 35 rfl) (wd hw 37 rfl) (wd hw 36 rfl) (wd hw 38 rfl) (wd hw 4 rfl) (by decide) (rm9 l Z a0 hw [] a318 a323 k333 p324 p325 p326 (1 : Int32) (0 : Int32) p329 p330 p331 p332 a319 h391 n0 O484 fx440 fx439 l483 vx436 pG_a323 pN_a318_a323 ex437 pG_a318 ex435 fx438) e391 ex437 (g := (mkF m 14 #[rv a318, iv (1 : Int32), iv (3 : Int32)] [(.int (0 : Int32)), (.ref a318)])) rfl (by rw [hml]; rfl) (rest := []) (W := 0) (lenOf pd_3 rfl) rfl (by show 2 * 0 + _ ≤ _; exact Nat.le_of_eq rfl) (hb hby d4_14) (by decide) (by decide) (by decide) (by decide)
  obtain ⟨h441, e441⟩ : ∃ z, T441.heap = z := ⟨_, rfl⟩
  rw [e441] at hQ441
  obtain ⟨rfl, Nq441, K441, ex485, vx486, ex487, fx488, fx489, fx490⟩ := hQ441
  have N441 := Fr.app N391 Nq441
  refine own_via (fun t k => st441 t (XS.pop X441.here hx rfl (hb hby d4_17) rfl rfl (XS.iloadN X441.here hx rfl (hb hby d4_18) rfl k))) ?_
  show own_Goes p e below (T441.setTop (mkF m 19 #[rv a318, iv (1 : Int32), iv (3 : Int32)] [(.int (3 : Int32))])) _
  obtain ⟨fs, hr, hrun, hended, hW, hsame⟩ := X441.leave (v := some (.int (3 : Int32))) (fun h => by rw [Bd.returns] at h; cases h)
  refine own_end (t := T441.setFrames fs) ?_ ⟨_, hrun, hended, _, _, rfl, ?_, ⟨_, rfl⟩, hW, hsame.mono (by decide) (by decide)⟩
  · exact retI X441 hx Bd.returns (hb hby d4_19) hr
  · show Q10 Z a318 a323 k333 p324 p325 p326 p327 p328 p329 p330 p331 p332 a319 h0 n0 _ T441.heap _
    rw [e441]
    exact ⟨rfl, N441, ((((Keep.refl h0 [a323, a318]).trans K343 (allS (Or.inl (List.mem_of_getElem? (i := 0) rfl)) (allS (Or.inl (List.mem_of_getElem? (i := 1) rfl)) all0))).trans K391 (allS (Or.inl (List.mem_of_getElem? (i := 0) rfl)) (allS (Or.inl (List.mem_of_getElem? (i := 1) rfl)) all0))).trans K441 (allS (Or.inl (List.mem_of_getElem? (i := 0) rfl)) (allS (Or.inl (List.mem_of_getElem? (i := 1) rfl)) all0))), ex485, vx486, ex487, fx488, fx489, fx490⟩
theorem own_mod_3 (x : Int32) : (x &&& (2147483647 : Int32)) % (3 : Int32) = (0 : Int32) ∨ (x &&& (2147483647 : Int32)) % (3 : Int32) = (1 : Int32) ∨ (x &&& (2147483647 : Int32)) % (3 : Int32) = (2 : Int32) := own_cases_3 _ (own_modlo x 3 (by decide)) (own_modhi x 3 (by decide))
theorem d6_0 : decode prog_17_method_6_code 0 = .ok (.aload_n 0, 1) := by decide +kernel
theorem d6_1 : decode prog_17_method_6_code 1 = .ok (.iload_n 1, 1) := by decide +kernel
theorem d6_2 : decode prog_17_method_6_code 2 = .ok (.iconst 1, 1) := by decide +kernel
theorem d6_3 : decode prog_17_method_6_code 3 = .ok (.iadd, 1) := by decide +kernel
theorem d6_4 : decode prog_17_method_6_code 4 = .ok (.aload_n 0, 1) := by decide +kernel
theorem d6_5 : decode prog_17_method_6_code 5 = .ok (.getfield 34, 3) := by decide +kernel
theorem d6_8 : decode prog_17_method_6_code 8 = .ok (.invokevirtual 55, 3) := by decide +kernel
theorem d7_0 : decode prog_17_method_29_code 0 = .ok (.iload_n 1, 1) := by decide +kernel
theorem d7_1 : decode prog_17_method_29_code 1 = .ok (.sipush 16384, 3) := by decide +kernel
theorem d7_4 : decode prog_17_method_29_code 4 = .ok (.if_icmp .ge 13, 3) := by decide +kernel
theorem d7_7 : decode prog_17_method_29_code 7 = .ok (.aload_n 0, 1) := by decide +kernel
theorem d7_8 : decode prog_17_method_29_code 8 = .ok (.getfield 31, 3) := by decide +kernel
theorem d7_11 : decode prog_17_method_29_code 11 = .ok (.iload_n 1, 1) := by decide +kernel
theorem d7_12 : decode prog_17_method_29_code 12 = .ok (.iload_n 2, 1) := by decide +kernel
theorem d7_13 : decode prog_17_method_29_code 13 = .ok (.iastore, 1) := by decide +kernel
theorem d7_14 : decode prog_17_method_29_code 14 = .ok (.goto 19, 3) := by decide +kernel
theorem d7_33 : decode prog_17_method_29_code 33 = .ok (.return_, 1) := by decide +kernel
theorem ef_5 (m : MethodId) (x0 : Addr) (x1 : Int32) (x2 : Int32) : entryFrame m #[(.ref x0), (.int x1), (.int x2)] 3 = mkF m 0 #[rv x0, iv x1, iv x2] [] := by first | (simp [entryFrame, mkF, argsToLocals, Value.category]; done) | rfl
def Q11 (Z : State) (a530 : Addr) (p531 : Int32) (a536 : Addr) (k546 : ClassId) (p537 : Int32) (p538 : Int32) (p539 : Int32) (p540 : Int32) (p541 : Int32) (p542 : Int32) (p543 : Int32) (p544 : Int32) (p545 : Int32) (h0 : Heap) (n0 : Nat) (v : Option Value) (h : Heap) (L : List Loc) : Prop := v = none ∧ Fr n0 L ∧ Keep h0 h [a536] ∧ Exa Z h a536 "[I" ∧ Arv Z h a536 k546 .int (16 : Int32) [(.int p537), (.int p538), (.int p539), (.int p540), (.int p531), (.int p542), (.int p543), (.int p544), (.int p545)] (.int (0 : Int32))
set_option maxRecDepth 65536 in
set_option maxHeartbeats 40000000 in
theorem rm11 (l : Launch) (Z : State) (a0 : Array Value) (hw : ∀ d ∈ tables_1, d.before a0 Z = true) (ws : List Jvm.Cond) (a530 : Addr) (p531 : Int32) (a536 : Addr) (k546 : ClassId) (p537 : Int32) (p538 : Int32) (p539 : Int32) (p540 : Int32) (p541 : Int32) (p542 : Int32) (p543 : Int32) (p544 : Int32) (p545 : Int32) (h0 : Heap) (n0 : Nat) (O0 : Old Z n0 h0) (pF_a530_first : Fld Z h0 a530 zs1 "first" "[I" (.ref a536)) (pV_a536 : Arv Z h0 a536 k546 .int (16 : Int32) [(.int p537), (.int p538), (.int p539), (.int p540), (.int p541), (.int p542), (.int p543), (.int p544), (.int p545)] (.int (0 : Int32))) (pG_a536 : n0 ≤ a536) (pE_a536 : Exa Z h0 a536 "[I") :
    MetFree l (⟨zs1, "set", "(II)V"⟩ : MethodName) (head1 (Jvm.Cond.code (⟨zs1, "set", "(II)V"⟩ : MethodName) prog_17_method_29_code 3 none :: ws) ({ frames := 0, cells := 0, slots := 0, locals := 0 } : Room)) (fun a U => a = #[(.ref a530), (.int (4 : Int32)), (.int p531)] ∧ Z.Warmed39 U.vm ∧ U.heap = h0) (fun _ _ _ _ _ => True) (fun _ U o U' => ∃ v L, o = .returned v ∧ Q11 Z a530 p531 a536 k546 p537 p538 p539 p540 p541 p542 p543 p544 p545 h0 n0 v U'.heap L ∧ FrameEnd U o U' L ({ frames := 0, cells := 0, slots := 0, locals := 0 } : Room).cells ({ frames := 0, cells := 0, slots := 0, locals := 0 } : Room).slots) := by
  refine MetFree.of_bodySF (plainFor_of_name pn_1) hisR ?_
  intro p e s m args below meth c s₁ Bd hml0 hP hK
  obtain ⟨rfl, hZ, hh⟩ := hP
  have hx := Bd.exec
  have hby := Bd.bytes
  have hml : c.maxLocals = 3 := hml0
  have hown : s.vm.findClass zs1 = some m.cls := findClass_of_methodNamed Bd.named
  have hnm := (name_of_methodNamed Bd.named Bd.method).1
  have X0 : Stand p l e ({ frames := 0, cells := 0, slots := 0, locals := 0 } : Room) s m #[(.ref a530), (.int (4 : Int32)), (.int p531)] below meth c s₁ [] 0 0 := Stand.of_body Bd
  have e0 : s₁.heap = h0 := by rw [← hh, Bd.state]; rfl
  have N0 := Fr.nil n0
  refine own_out ?_
  refine own_via (fun t k => castTop (ef_5 m a530 (4 : Int32) p531) (XS.iloadN X0.here hx rfl (hb hby d7_0) rfl (XS.sipush X0.here hx rfl (hb hby d7_1) (XS.icmpNo X0.here hx rfl (hb hby d7_4) rfl (tlt (by decide : (4 : Int32) < (16384 : Int32))).2.1 (XS.aloadN X0.here hx rfl (hb hby d7_7) rfl rfl k))))) ?_
  show own_Goes p e below (s₁.setTop (mkF m 8 #[rv a530, iv (4 : Int32), iv p531] [(.ref a530)])) _
  obtain ⟨T557, X557, e557, st557⟩ := getF X0 hx hZ hown (host := "") (Or.inl (wd hw 26 rfl)) Via.refl e0 pF_a530_first (g := (mkF m 8 #[rv a530, iv (4 : Int32), iv p531] [(.ref a530)])) rfl rfl (hb hby d7_8)
  refine own_via (fun t k => st557 t (XS.iloadN X557.here hx rfl (hb hby d7_11) rfl (XS.iloadN X557.here hx rfl (hb hby d7_12) rfl k))) ?_
  show own_Goes p e below (T557.setTop (mkF m 13 #[rv a530, iv (4 : Int32), iv p531] [(.int p531), (.int (4 : Int32)), (.ref a536)])) _
  obtain ⟨cl558, Ar558, qq558, S558, M558, H558, G558⟩ := id (pV_a536)
  have hin558 : ¬ ((4 : Int32) < 0 ∨ cl558.slots.size ≤ ((4 : Int32)).toNatClampNeg) := inb_of S558 ⟨by decide, by decide⟩
  obtain ⟨T558, h558, X558, e558, W558, st558⟩ := stI X557 hx hZ e557 Ar558 (j := (4 : Int32)) hin558 (g := (mkF m 13 #[rv a530, iv (4 : Int32), iv p531] [(.int p531), (.int (4 : Int32)), (.ref a536)])) rfl rfl (hb hby d7_13)
  refine own_via (fun t k => st558 t k) ?_
  have V559 : Arv Z h558 a536 k546 .int (16 : Int32) [(.int p537), (.int p538), (.int p539), (.int p540), (.int p531), (.int p542), (.int p543), (.int p544), (.int p545)] (.int (0 : Int32)) := Arv.set Ar558 qq558 S558 M558 H558 G558 rfl W558 4 rfl (Nat.le_of_ble_eq_true rfl)
  have N558 := Fr.snoc X558 N0 pG_a536
  show own_Goes p e below (T558.setTop (mkF m 14 #[rv a530, iv (4 : Int32), iv p531] [])) _
  refine own_via (fun t k => XS.goto X558.here hx rfl (pc0 := 14) (pc' := 33) rfl (hb hby d7_14) (by decide) (by decide) k) ?_
  obtain ⟨fs, hr, hrun, hended, hW, hsame⟩ := X558.leave (v := none) (fun _ => rfl)
  refine own_end (t := T558.setFrames fs) ?_ ⟨_, hrun, hended, _, _, rfl, ?_, ⟨_, rfl⟩, hW, hsame.mono (by decide) (by decide)⟩
  · exact X558.returnOut hx Bd.returns (hb hby d7_33) hr
  have E560 : Exa Z h558 a536 "[I" := (pE_a536.wr W558)
  · show Q11 Z a530 p531 a536 k546 p537 p538 p539 p540 p541 p542 p543 p544 p545 h0 n0 _ T558.heap _
    rw [e558]
    exact ⟨rfl, N558, ((Keep.refl h0 [a536]).wr W558 (Or.inl (List.mem_of_getElem? (i := 0) rfl))), E560, V559⟩
theorem pd_4 : parseMethodDescriptor "(II)V" = some ⟨[.int, .int], none⟩ := by decide +kernel
theorem own_selPriv {args : Array Value} {s : State} {y : MethodName} {n : Nat} (hw : (Jvm.Cond.instantiable y.cls n).before args s = true) (hi : (Jvm.Cond.instanceMethod y).before args s = true) (hp : s.PrivateAt y) (hy : y.cls ≠ "java/lang/invoke/MethodHandle" ∧ y.cls ≠ "java/lang/invoke/VarHandle") : (Jvm.Cond.selects y.cls y y).before args s = true := by
  obtain ⟨c, k, h1, h2, -, h4, -⟩ := Cond.instantiable_spec hw
  exact selects_self_of_private h1 h2 (by cases hk : k.isInterface <;> simp_all) hp hi hy
theorem d6_11 : decode prog_17_method_6_code 11 = .ok (.aload_n 0, 1) := by decide +kernel
theorem d6_12 : decode prog_17_method_6_code 12 = .ok (.iload_n 1, 1) := by decide +kernel
theorem d6_13 : decode prog_17_method_6_code 13 = .ok (.iconst 2, 1) := by decide +kernel
theorem d6_14 : decode prog_17_method_6_code 14 = .ok (.iadd, 1) := by decide +kernel
theorem d6_15 : decode prog_17_method_6_code 15 = .ok (.iload_n 2, 1) := by decide +kernel
theorem d6_16 : decode prog_17_method_6_code 16 = .ok (.iconst 1, 1) := by decide +kernel
theorem d6_17 : decode prog_17_method_6_code 17 = .ok (.ishl, 1) := by decide +kernel
theorem d6_18 : decode prog_17_method_6_code 18 = .ok (.iload_n 3, 1) := by decide +kernel
theorem d6_19 : decode prog_17_method_6_code 19 = .ok (.ifCond .eq 7, 3) := by decide +kernel
theorem d6_26 : decode prog_17_method_6_code 26 = .ok (.iconst 0, 1) := by decide +kernel
theorem d6_27 : decode prog_17_method_6_code 27 = .ok (.ior, 1) := by decide +kernel
theorem d6_28 : decode prog_17_method_6_code 28 = .ok (.invokevirtual 55, 3) := by decide +kernel
def Q12 (Z : State) (a564 : Addr) (a569 : Addr) (k579 : ClassId) (p571 : Int32) (p572 : Int32) (p573 : Int32) (p574 : Int32) (p570 : Int32) (p575 : Int32) (p576 : Int32) (p577 : Int32) (p578 : Int32) (h0 : Heap) (n0 : Nat) (v : Option Value) (h : Heap) (L : List Loc) : Prop := v = none ∧ Fr n0 L ∧ Keep h0 h [a569] ∧ Exa Z h a569 "[I" ∧ Arv Z h a569 k579 .int (16 : Int32) [(.int p571), (.int p572), (.int p573), (.int p574), (.int p570), (.int (0 : Int32)), (.int p576), (.int p577), (.int p578)] (.int (0 : Int32))
set_option maxRecDepth 65536 in
set_option maxHeartbeats 40000000 in
theorem rm12 (l : Launch) (Z : State) (a0 : Array Value) (hw : ∀ d ∈ tables_1, d.before a0 Z = true) (ws : List Jvm.Cond) (a564 : Addr) (a569 : Addr) (k579 : ClassId) (p571 : Int32) (p572 : Int32) (p573 : Int32) (p574 : Int32) (p570 : Int32) (p575 : Int32) (p576 : Int32) (p577 : Int32) (p578 : Int32) (h0 : Heap) (n0 : Nat) (O0 : Old Z n0 h0) (pF_a564_first : Fld Z h0 a564 zs1 "first" "[I" (.ref a569)) (pV_a569 : Arv Z h0 a569 k579 .int (16 : Int32) [(.int p571), (.int p572), (.int p573), (.int p574), (.int p570), (.int p575), (.int p576), (.int p577), (.int p578)] (.int (0 : Int32))) (pG_a569 : n0 ≤ a569) (pE_a569 : Exa Z h0 a569 "[I") :
    MetFree l (⟨zs1, "set", "(II)V"⟩ : MethodName) (head1 (Jvm.Cond.code (⟨zs1, "set", "(II)V"⟩ : MethodName) prog_17_method_29_code 3 none :: ws) ({ frames := 0, cells := 0, slots := 0, locals := 0 } : Room)) (fun a U => a = #[(.ref a564), (.int (5 : Int32)), (.int (0 : Int32))] ∧ Z.Warmed39 U.vm ∧ U.heap = h0) (fun _ _ _ _ _ => True) (fun _ U o U' => ∃ v L, o = .returned v ∧ Q12 Z a564 a569 k579 p571 p572 p573 p574 p570 p575 p576 p577 p578 h0 n0 v U'.heap L ∧ FrameEnd U o U' L ({ frames := 0, cells := 0, slots := 0, locals := 0 } : Room).cells ({ frames := 0, cells := 0, slots := 0, locals := 0 } : Room).slots) := by
  refine MetFree.of_bodySF (plainFor_of_name pn_1) hisR ?_
  intro p e s m args below meth c s₁ Bd hml0 hP hK
  obtain ⟨rfl, hZ, hh⟩ := hP
  have hx := Bd.exec
  have hby := Bd.bytes
  have hml : c.maxLocals = 3 := hml0
  have hown : s.vm.findClass zs1 = some m.cls := findClass_of_methodNamed Bd.named
  have hnm := (name_of_methodNamed Bd.named Bd.method).1
  have X0 : Stand p l e ({ frames := 0, cells := 0, slots := 0, locals := 0 } : Room) s m #[(.ref a564), (.int (5 : Int32)), (.int (0 : Int32))] below meth c s₁ [] 0 0 := Stand.of_body Bd
  have e0 : s₁.heap = h0 := by rw [← hh, Bd.state]; rfl
  have N0 := Fr.nil n0
  refine own_out ?_
  refine own_via (fun t k => castTop (ef_5 m a564 (5 : Int32) (0 : Int32)) (XS.iloadN X0.here hx rfl (hb hby d7_0) rfl (XS.sipush X0.here hx rfl (hb hby d7_1) (XS.icmpNo X0.here hx rfl (hb hby d7_4) rfl (tlt (by decide : (5 : Int32) < (16384 : Int32))).2.1 (XS.aloadN X0.here hx rfl (hb hby d7_7) rfl rfl k))))) ?_
  show own_Goes p e below (s₁.setTop (mkF m 8 #[rv a564, iv (5 : Int32), iv (0 : Int32)] [(.ref a564)])) _
  obtain ⟨T590, X590, e590, st590⟩ := getF X0 hx hZ hown (host := "") (Or.inl (wd hw 26 rfl)) Via.refl e0 pF_a564_first (g := (mkF m 8 #[rv a564, iv (5 : Int32), iv (0 : Int32)] [(.ref a564)])) rfl rfl (hb hby d7_8)
  refine own_via (fun t k => st590 t (XS.iloadN X590.here hx rfl (hb hby d7_11) rfl (XS.iloadN X590.here hx rfl (hb hby d7_12) rfl k))) ?_
  show own_Goes p e below (T590.setTop (mkF m 13 #[rv a564, iv (5 : Int32), iv (0 : Int32)] [(.int (0 : Int32)), (.int (5 : Int32)), (.ref a569)])) _
  obtain ⟨cl591, Ar591, qq591, S591, M591, H591, G591⟩ := id (pV_a569)
  have hin591 : ¬ ((5 : Int32) < 0 ∨ cl591.slots.size ≤ ((5 : Int32)).toNatClampNeg) := inb_of S591 ⟨by decide, by decide⟩
  obtain ⟨T591, h591, X591, e591, W591, st591⟩ := stI X590 hx hZ e590 Ar591 (j := (5 : Int32)) hin591 (g := (mkF m 13 #[rv a564, iv (5 : Int32), iv (0 : Int32)] [(.int (0 : Int32)), (.int (5 : Int32)), (.ref a569)])) rfl rfl (hb hby d7_13)
  refine own_via (fun t k => st591 t k) ?_
  have V592 : Arv Z h591 a569 k579 .int (16 : Int32) [(.int p571), (.int p572), (.int p573), (.int p574), (.int p570), (.int (0 : Int32)), (.int p576), (.int p577), (.int p578)] (.int (0 : Int32)) := Arv.set Ar591 qq591 S591 M591 H591 G591 rfl W591 5 rfl (Nat.le_of_ble_eq_true rfl)
  have N591 := Fr.snoc X591 N0 pG_a569
  show own_Goes p e below (T591.setTop (mkF m 14 #[rv a564, iv (5 : Int32), iv (0 : Int32)] [])) _
  refine own_via (fun t k => XS.goto X591.here hx rfl (pc0 := 14) (pc' := 33) rfl (hb hby d7_14) (by decide) (by decide) k) ?_
  obtain ⟨fs, hr, hrun, hended, hW, hsame⟩ := X591.leave (v := none) (fun _ => rfl)
  refine own_end (t := T591.setFrames fs) ?_ ⟨_, hrun, hended, _, _, rfl, ?_, ⟨_, rfl⟩, hW, hsame.mono (by decide) (by decide)⟩
  · exact X591.returnOut hx Bd.returns (hb hby d7_33) hr
  have E593 : Exa Z h591 a569 "[I" := (pE_a569.wr W591)
  · show Q12 Z a564 a569 k579 p571 p572 p573 p574 p570 p575 p576 p577 p578 h0 n0 _ T591.heap _
    rw [e591]
    exact ⟨rfl, N591, ((Keep.refl h0 [a569]).wr W591 (Or.inl (List.mem_of_getElem? (i := 0) rfl))), E593, V592⟩
theorem d6_31 : decode prog_17_method_6_code 31 = .ok (.return_, 1) := by decide +kernel
theorem ef_6 (m : MethodId) (x0 : Addr) (x1 : Int32) (x2 : Int32) (x3 : Int32) : entryFrame m #[(.ref x0), (.int x1), (.int x2), (.int x3)] 4 = mkF m 0 #[rv x0, iv x1, iv x2, iv x3] [] := by first | (simp [entryFrame, mkF, argsToLocals, Value.category]; done) | rfl
def Q13 (Z : State) (a501 : Addr) (p517 : Int32) (a506 : Addr) (k516 : ClassId) (p507 : Int32) (p508 : Int32) (p509 : Int32) (p510 : Int32) (p511 : Int32) (p512 : Int32) (p513 : Int32) (p514 : Int32) (p515 : Int32) (h0 : Heap) (n0 : Nat) (v : Option Value) (h : Heap) (L : List Loc) : Prop := v = none ∧ Fr n0 L ∧ Keep h0 h [a506] ∧ Exa Z h a506 "[I" ∧ Arv Z h a506 k516 .int (16 : Int32) [(.int p507), (.int p508), (.int p509), (.int p510), (.int p517), (.int (0 : Int32)), (.int p513), (.int p514), (.int p515)] (.int (0 : Int32))
set_option maxRecDepth 65536 in
set_option maxHeartbeats 40000000 in
theorem rm13 (l : Launch) (Z : State) (a0 : Array Value) (hw : ∀ d ∈ tables_1, d.before a0 Z = true) (ws : List Jvm.Cond) (a501 : Addr) (p517 : Int32) (a506 : Addr) (k516 : ClassId) (p507 : Int32) (p508 : Int32) (p509 : Int32) (p510 : Int32) (p511 : Int32) (p512 : Int32) (p513 : Int32) (p514 : Int32) (p515 : Int32) (h0 : Heap) (n0 : Nat) (O0 : Old Z n0 h0) (pF_a501_length : Fld Z h0 a501 zs1 "length" "I" (.int p517)) (pF_a501_first : Fld Z h0 a501 zs1 "first" "[I" (.ref a506)) (pV_a506 : Arv Z h0 a506 k516 .int (16 : Int32) [(.int p507), (.int p508), (.int p509), (.int p510), (.int p511), (.int p512), (.int p513), (.int p514), (.int p515)] (.int (0 : Int32))) (pG_a506 : n0 ≤ a506) (pE_a506 : Exa Z h0 a506 "[I") (pE_a501 : Exa Z h0 a501 zs1) (pN_a501_a506 : a501 ≠ a506) :
    MetFree l (⟨zs1, "close", "(IIZ)V"⟩ : MethodName) (head1 (Jvm.Cond.code (⟨zs1, "close", "(IIZ)V"⟩ : MethodName) prog_17_method_6_code 4 none :: ws) ({ frames := 1, cells := 0, slots := 0, locals := 14 } : Room)) (fun a U => a = #[(.ref a501), (.int (3 : Int32)), (.int (0 : Int32)), (.int (0 : Int32))] ∧ Z.Warmed39 U.vm ∧ U.heap = h0) (fun _ _ _ _ _ => True) (fun _ U o U' => ∃ v L, o = .returned v ∧ Q13 Z a501 p517 a506 k516 p507 p508 p509 p510 p511 p512 p513 p514 p515 h0 n0 v U'.heap L ∧ FrameEnd U o U' L ({ frames := 1, cells := 0, slots := 0, locals := 14 } : Room).cells ({ frames := 1, cells := 0, slots := 0, locals := 14 } : Room).slots) := by
  refine MetFree.of_bodySF (plainFor_of_name pn_1) hisR ?_
  intro p e s m args below meth c s₁ Bd hml0 hP hK
  obtain ⟨rfl, hZ, hh⟩ := hP
  have hx := Bd.exec
  have hby := Bd.bytes
  have hml : c.maxLocals = 4 := hml0
  have hown : s.vm.findClass zs1 = some m.cls := findClass_of_methodNamed Bd.named
  have hnm := (name_of_methodNamed Bd.named Bd.method).1
  have X0 : Stand p l e ({ frames := 1, cells := 0, slots := 0, locals := 14 } : Room) s m #[(.ref a501), (.int (3 : Int32)), (.int (0 : Int32)), (.int (0 : Int32))] below meth c s₁ [] 0 0 := Stand.of_body Bd
  have e0 : s₁.heap = h0 := by rw [← hh, Bd.state]; rfl
  have N0 := Fr.nil n0
  refine own_out ?_
  refine own_via (fun t k => castTop (ef_6 m a501 (3 : Int32) (0 : Int32) (0 : Int32)) (XS.aloadN X0.here hx rfl (hb hby d6_0) rfl rfl (XS.iloadN X0.here hx rfl (hb hby d6_1) rfl (XS.iconst X0.here hx rfl (hb hby d6_2) (XS.iadd X0.here hx rfl (hb hby d6_3) rfl (XS.aloadN X0.here hx rfl (hb hby d6_4) rfl rfl k)))))) ?_
  show own_Goes p e below (s₁.setTop (mkF m 5 #[rv a501, iv (3 : Int32), iv (0 : Int32), iv (0 : Int32)] [(.ref a501), (.int (4 : Int32)), (.ref a501)])) _
  obtain ⟨T528, X528, e528, st528⟩ := getF X0 hx hZ hown (host := "") (Or.inl (wd hw 39 rfl)) Via.refl e0 pF_a501_length (g := (mkF m 5 #[rv a501, iv (3 : Int32), iv (0 : Int32), iv (0 : Int32)] [(.ref a501), (.int (4 : Int32)), (.ref a501)])) rfl rfl (hb hby d6_5)
  refine own_via (fun t k => st528 t k) ?_
  obtain ⟨cq529, q529, q529'⟩ := pE_a501.cell
  obtain ⟨_, _, ⟨T529, L529, c529, n529⟩, -, X529, ⟨Lc529, hQ529, l529, y529, z529⟩, st529⟩ := X528.privateBack hx (y := (⟨zs1, "set", "(II)V"⟩ : MethodName)) hown (mvT hZ (wd hw 47 rfl)) (mvT hZ (wd hw 48 rfl)) (own_selPriv (mvT hZ (wd hw 3 rfl)) (mvT hZ (wd hw 48 rfl)) (Cond.privateMethod_at (mvP hZ (wd hw 49 rfl) (args := #[]))) (by decide)) (Cond.privateMethod_at (mvP hZ (wd hw 49 rfl) (args := #[]))) (mvT hZ (wd hw 50 rfl)) (by decide) (backOf (W := 0) (rm11 l Z a0 hw [] a501 p517 a506 k516 p507 p508 p509 p510 p511 p512 p513 p514 p515 h0 n0 O0 pF_a501_first pV_a506 pG_a506 pE_a506) hZ (wd hw 50 rfl) (wd hw 4 rfl) (by decide) (by decide)) (g := (mkF m 8 #[rv a501, iv (3 : Int32), iv (0 : Int32), iv (0 : Int32)] [(.int p517), (.int (4 : Int32)), (.ref a501)])) rfl (by rw [hml]; rfl) (Steps.refl _) (a := a501) (by rw [e528]; exact q529) q529' (argsL := [(.int (4 : Int32)), (.int p517)]) (rest := []) (lenOf pd_4 rfl) rfl (by show 2 * 0 + _ ≤ _; exact Nat.le_of_eq rfl) (hb hby d6_8) (fun _ _ => ⟨rfl, e528, (by decide : 0 + 0 ≤ _), (by decide : 0 + 0 ≤ _)⟩)
  dsimp only [Pt.U, Pt.locs, Pt.cells, Pt.slots] at X529 l529 y529 z529 st529 hQ529
  subst l529 y529 z529
  obtain ⟨h529, e529⟩ : ∃ z, T529.heap = z := ⟨_, rfl⟩
  rw [e529] at hQ529
  obtain ⟨rfl, Nq529, K529, ex561, vx562⟩ := hQ529
  have N529 := Fr.app N0 Nq529
  refine own_via (fun t k => st529.trans (XS.aloadN X529.here hx rfl (hb hby d6_11) rfl rfl (XS.iloadN X529.here hx rfl (hb hby d6_12) rfl (XS.iconst X529.here hx rfl (hb hby d6_13) (XS.iadd X529.here hx rfl (hb hby d6_14) rfl (XS.iloadN X529.here hx rfl (hb hby d6_15) rfl (XS.iconst X529.here hx rfl (hb hby d6_16) (XS.ishl X529.here hx rfl (hb hby d6_17) rfl (XS.iloadN X529.here hx rfl (hb hby d6_18) rfl (XS.ifYes X529.here hx rfl (pc0 := 19) (pc' := 26) rfl (hb hby d6_19) rfl ((if0 _ _).trans (teq (by decide : (0 : Int32) = (0 : Int32))).1) (by decide) (by decide) (XS.iconst X529.here hx rfl (hb hby d6_26) (XS.ior X529.here hx rfl (hb hby d6_27) rfl k)))))))))))) ?_
  show own_Goes p e below (T529.setTop (mkF m 28 #[rv a501, iv (3 : Int32), iv (0 : Int32), iv (0 : Int32)] [(.int (0 : Int32)), (.int (5 : Int32)), (.ref a501)])) _
  have F594 : Fld Z h529 a501 zs1 "first" "[I" (.ref a506) := (pF_a501_first.keep K529 (ninS pN_a501_a506 nin0))
  have O595 : Old Z n0 h529 := (O0.keep K529 (allS pG_a506 all0))
  have E596 : Exa Z h529 a501 zs1 := (pE_a501.keep K529)
  obtain ⟨cq563, q563, q563'⟩ := E596.cell
  obtain ⟨_, _, ⟨T563, L563, c563, n563⟩, -, X563, ⟨Lc563, hQ563, l563, y563, z563⟩, st563⟩ := X529.privateBack hx (y := (⟨zs1, "set", "(II)V"⟩ : MethodName)) hown (mvT hZ (wd hw 47 rfl)) (mvT hZ (wd hw 48 rfl)) (own_selPriv (mvT hZ (wd hw 3 rfl)) (mvT hZ (wd hw 48 rfl)) (Cond.privateMethod_at (mvP hZ (wd hw 49 rfl) (args := #[]))) (by decide)) (Cond.privateMethod_at (mvP hZ (wd hw 49 rfl) (args := #[]))) (mvT hZ (wd hw 50 rfl)) (by decide) (backOf (W := 0) (rm12 l Z a0 hw [] a501 a506 k516 p507 p508 p509 p510 p517 p512 p513 p514 p515 h529 n0 O595 F594 vx562 pG_a506 ex561) hZ (wd hw 50 rfl) (wd hw 4 rfl) (by decide) (by decide)) (g := (mkF m 28 #[rv a501, iv (3 : Int32), iv (0 : Int32), iv (0 : Int32)] [(.int (0 : Int32)), (.int (5 : Int32)), (.ref a501)])) rfl (by rw [hml]; rfl) (Steps.refl _) (a := a501) (by rw [e529]; exact q563) q563' (argsL := [(.int (5 : Int32)), (.int (0 : Int32))]) (rest := []) (lenOf pd_4 rfl) rfl (by show 2 * 0 + _ ≤ _; exact Nat.le_of_eq rfl) (hb hby d6_28) (fun _ _ => ⟨rfl, e529, (by decide : 0 + 0 ≤ _), (by decide : 0 + 0 ≤ _)⟩)
  dsimp only [Pt.U, Pt.locs, Pt.cells, Pt.slots] at X563 l563 y563 z563 st563 hQ563
  subst l563 y563 z563
  obtain ⟨h563, e563⟩ : ∃ z, T563.heap = z := ⟨_, rfl⟩
  rw [e563] at hQ563
  obtain ⟨rfl, Nq563, K563, ex597, vx598⟩ := hQ563
  have N563 := Fr.app N529 Nq563
  refine own_via (fun t k => st563.trans k) ?_
  obtain ⟨fs, hr, hrun, hended, hW, hsame⟩ := X563.leave (v := none) (fun _ => rfl)
  refine own_end (t := T563.setFrames fs) ?_ ⟨_, hrun, hended, _, _, rfl, ?_, ⟨_, rfl⟩, hW, hsame.mono (by decide) (by decide)⟩
  · exact X563.returnOut hx Bd.returns (hb hby d6_31) hr
  · show Q13 Z a501 p517 a506 k516 p507 p508 p509 p510 p511 p512 p513 p514 p515 h0 n0 _ T563.heap _
    rw [e563]
    exact ⟨rfl, N563, (((Keep.refl h0 [a506]).trans K529 (allS (Or.inl (List.mem_of_getElem? (i := 0) rfl)) all0)).trans K563 (allS (Or.inl (List.mem_of_getElem? (i := 0) rfl)) all0)), ex597, vx598⟩
theorem pd_5 : parseMethodDescriptor "(IIZ)V" = some ⟨[.int, .int, .boolean], none⟩ := by decide +kernel
theorem own_ge0 {y : Int32} (h : ¬ (y < (0 : Int32))) : 0 ≤ y.toInt := by
  rw [Int32.lt_iff_toInt_lt, Int32.toInt_zero] at h
  omega
theorem own_lti {y n : Int32} (h : y < n) {N : Int} (hn : n.toInt = N) : y.toInt < N := by
  rw [Int32.lt_iff_toInt_lt, hn] at h
  exact h
def Q14 (Z : State) (a661 : Addr) (p662 : Int32) (a667 : Addr) (k677 : ClassId) (p668 : Int32) (p669 : Int32) (p670 : Int32) (p671 : Int32) (p672 : Int32) (p673 : Int32) (p674 : Int32) (p675 : Int32) (p676 : Int32) (h0 : Heap) (n0 : Nat) (v : Option Value) (h : Heap) (L : List Loc) : Prop := v = none ∧ Fr n0 L ∧ Keep h0 h [a667] ∧ Exa Z h a667 "[I" ∧ Arv Z h a667 k677 .int (16 : Int32) [(.int p668), (.int p662), (.int p670), (.int p671), (.int p672), (.int p673), (.int p674), (.int p675), (.int p676)] (.int (0 : Int32))
set_option maxRecDepth 65536 in
set_option maxHeartbeats 40000000 in
theorem rm14 (l : Launch) (Z : State) (a0 : Array Value) (hw : ∀ d ∈ tables_1, d.before a0 Z = true) (ws : List Jvm.Cond) (a661 : Addr) (p662 : Int32) (a667 : Addr) (k677 : ClassId) (p668 : Int32) (p669 : Int32) (p670 : Int32) (p671 : Int32) (p672 : Int32) (p673 : Int32) (p674 : Int32) (p675 : Int32) (p676 : Int32) (h0 : Heap) (n0 : Nat) (O0 : Old Z n0 h0) (pF_a661_first : Fld Z h0 a661 zs1 "first" "[I" (.ref a667)) (pV_a667 : Arv Z h0 a667 k677 .int (16 : Int32) [(.int p668), (.int p669), (.int p670), (.int p671), (.int p672), (.int p673), (.int p674), (.int p675), (.int p676)] (.int (0 : Int32))) (pG_a667 : n0 ≤ a667) (pE_a667 : Exa Z h0 a667 "[I") :
    MetFree l (⟨zs1, "set", "(II)V"⟩ : MethodName) (head1 (Jvm.Cond.code (⟨zs1, "set", "(II)V"⟩ : MethodName) prog_17_method_29_code 3 none :: ws) ({ frames := 0, cells := 0, slots := 0, locals := 0 } : Room)) (fun a U => a = #[(.ref a661), (.int (1 : Int32)), (.int p662)] ∧ Z.Warmed39 U.vm ∧ U.heap = h0) (fun _ _ _ _ _ => True) (fun _ U o U' => ∃ v L, o = .returned v ∧ Q14 Z a661 p662 a667 k677 p668 p669 p670 p671 p672 p673 p674 p675 p676 h0 n0 v U'.heap L ∧ FrameEnd U o U' L ({ frames := 0, cells := 0, slots := 0, locals := 0 } : Room).cells ({ frames := 0, cells := 0, slots := 0, locals := 0 } : Room).slots) := by
  refine MetFree.of_bodySF (plainFor_of_name pn_1) hisR ?_
  intro p e s m args below meth c s₁ Bd hml0 hP hK
  obtain ⟨rfl, hZ, hh⟩ := hP
  have hx := Bd.exec
  have hby := Bd.bytes
  have hml : c.maxLocals = 3 := hml0
  have hown : s.vm.findClass zs1 = some m.cls := findClass_of_methodNamed Bd.named
  have hnm := (name_of_methodNamed Bd.named Bd.method).1
  have X0 : Stand p l e ({ frames := 0, cells := 0, slots := 0, locals := 0 } : Room) s m #[(.ref a661), (.int (1 : Int32)), (.int p662)] below meth c s₁ [] 0 0 := Stand.of_body Bd
  have e0 : s₁.heap = h0 := by rw [← hh, Bd.state]; rfl
  have N0 := Fr.nil n0
  refine own_out ?_
  refine own_via (fun t k => castTop (ef_5 m a661 (1 : Int32) p662) (XS.iloadN X0.here hx rfl (hb hby d7_0) rfl (XS.sipush X0.here hx rfl (hb hby d7_1) (XS.icmpNo X0.here hx rfl (hb hby d7_4) rfl (tlt (by decide : (1 : Int32) < (16384 : Int32))).2.1 (XS.aloadN X0.here hx rfl (hb hby d7_7) rfl rfl k))))) ?_
  show own_Goes p e below (s₁.setTop (mkF m 8 #[rv a661, iv (1 : Int32), iv p662] [(.ref a661)])) _
  obtain ⟨T690, X690, e690, st690⟩ := getF X0 hx hZ hown (host := "") (Or.inl (wd hw 26 rfl)) Via.refl e0 pF_a661_first (g := (mkF m 8 #[rv a661, iv (1 : Int32), iv p662] [(.ref a661)])) rfl rfl (hb hby d7_8)
  refine own_via (fun t k => st690 t (XS.iloadN X690.here hx rfl (hb hby d7_11) rfl (XS.iloadN X690.here hx rfl (hb hby d7_12) rfl k))) ?_
  show own_Goes p e below (T690.setTop (mkF m 13 #[rv a661, iv (1 : Int32), iv p662] [(.int p662), (.int (1 : Int32)), (.ref a667)])) _
  obtain ⟨cl691, Ar691, qq691, S691, M691, H691, G691⟩ := id (pV_a667)
  have hin691 : ¬ ((1 : Int32) < 0 ∨ cl691.slots.size ≤ ((1 : Int32)).toNatClampNeg) := inb_of S691 ⟨by decide, by decide⟩
  obtain ⟨T691, h691, X691, e691, W691, st691⟩ := stI X690 hx hZ e690 Ar691 (j := (1 : Int32)) hin691 (g := (mkF m 13 #[rv a661, iv (1 : Int32), iv p662] [(.int p662), (.int (1 : Int32)), (.ref a667)])) rfl rfl (hb hby d7_13)
  refine own_via (fun t k => st691 t k) ?_
  have V692 : Arv Z h691 a667 k677 .int (16 : Int32) [(.int p668), (.int p662), (.int p670), (.int p671), (.int p672), (.int p673), (.int p674), (.int p675), (.int p676)] (.int (0 : Int32)) := Arv.set Ar691 qq691 S691 M691 H691 G691 rfl W691 1 rfl (Nat.le_of_ble_eq_true rfl)
  have N691 := Fr.snoc X691 N0 pG_a667
  show own_Goes p e below (T691.setTop (mkF m 14 #[rv a661, iv (1 : Int32), iv p662] [])) _
  refine own_via (fun t k => XS.goto X691.here hx rfl (pc0 := 14) (pc' := 33) rfl (hb hby d7_14) (by decide) (by decide) k) ?_
  obtain ⟨fs, hr, hrun, hended, hW, hsame⟩ := X691.leave (v := none) (fun _ => rfl)
  refine own_end (t := T691.setFrames fs) ?_ ⟨_, hrun, hended, _, _, rfl, ?_, ⟨_, rfl⟩, hW, hsame.mono (by decide) (by decide)⟩
  · exact X691.returnOut hx Bd.returns (hb hby d7_33) hr
  have E693 : Exa Z h691 a667 "[I" := (pE_a667.wr W691)
  · show Q14 Z a661 p662 a667 k677 p668 p669 p670 p671 p672 p673 p674 p675 p676 h0 n0 _ T691.heap _
    rw [e691]
    exact ⟨rfl, N691, ((Keep.refl h0 [a667]).wr W691 (Or.inl (List.mem_of_getElem? (i := 0) rfl))), E693, V692⟩
def Q15 (Z : State) (a697 : Addr) (a702 : Addr) (k712 : ClassId) (p704 : Int32) (p703 : Int32) (p705 : Int32) (p706 : Int32) (p707 : Int32) (p708 : Int32) (p709 : Int32) (p710 : Int32) (p711 : Int32) (h0 : Heap) (n0 : Nat) (v : Option Value) (h : Heap) (L : List Loc) : Prop := v = none ∧ Fr n0 L ∧ Keep h0 h [a702] ∧ Exa Z h a702 "[I" ∧ Arv Z h a702 k712 .int (16 : Int32) [(.int p704), (.int p703), (.int (2 : Int32)), (.int p706), (.int p707), (.int p708), (.int p709), (.int p710), (.int p711)] (.int (0 : Int32))
set_option maxRecDepth 65536 in
set_option maxHeartbeats 40000000 in
theorem rm15 (l : Launch) (Z : State) (a0 : Array Value) (hw : ∀ d ∈ tables_1, d.before a0 Z = true) (ws : List Jvm.Cond) (a697 : Addr) (a702 : Addr) (k712 : ClassId) (p704 : Int32) (p703 : Int32) (p705 : Int32) (p706 : Int32) (p707 : Int32) (p708 : Int32) (p709 : Int32) (p710 : Int32) (p711 : Int32) (h0 : Heap) (n0 : Nat) (O0 : Old Z n0 h0) (pF_a697_first : Fld Z h0 a697 zs1 "first" "[I" (.ref a702)) (pV_a702 : Arv Z h0 a702 k712 .int (16 : Int32) [(.int p704), (.int p703), (.int p705), (.int p706), (.int p707), (.int p708), (.int p709), (.int p710), (.int p711)] (.int (0 : Int32))) (pG_a702 : n0 ≤ a702) (pE_a702 : Exa Z h0 a702 "[I") :
    MetFree l (⟨zs1, "set", "(II)V"⟩ : MethodName) (head1 (Jvm.Cond.code (⟨zs1, "set", "(II)V"⟩ : MethodName) prog_17_method_29_code 3 none :: ws) ({ frames := 0, cells := 0, slots := 0, locals := 0 } : Room)) (fun a U => a = #[(.ref a697), (.int (2 : Int32)), (.int (2 : Int32))] ∧ Z.Warmed39 U.vm ∧ U.heap = h0) (fun _ _ _ _ _ => True) (fun _ U o U' => ∃ v L, o = .returned v ∧ Q15 Z a697 a702 k712 p704 p703 p705 p706 p707 p708 p709 p710 p711 h0 n0 v U'.heap L ∧ FrameEnd U o U' L ({ frames := 0, cells := 0, slots := 0, locals := 0 } : Room).cells ({ frames := 0, cells := 0, slots := 0, locals := 0 } : Room).slots) := by
  refine MetFree.of_bodySF (plainFor_of_name pn_1) hisR ?_
  intro p e s m args below meth c s₁ Bd hml0 hP hK
  obtain ⟨rfl, hZ, hh⟩ := hP
  have hx := Bd.exec
  have hby := Bd.bytes
  have hml : c.maxLocals = 3 := hml0
  have hown : s.vm.findClass zs1 = some m.cls := findClass_of_methodNamed Bd.named
  have hnm := (name_of_methodNamed Bd.named Bd.method).1
  have X0 : Stand p l e ({ frames := 0, cells := 0, slots := 0, locals := 0 } : Room) s m #[(.ref a697), (.int (2 : Int32)), (.int (2 : Int32))] below meth c s₁ [] 0 0 := Stand.of_body Bd
  have e0 : s₁.heap = h0 := by rw [← hh, Bd.state]; rfl
  have N0 := Fr.nil n0
  refine own_out ?_
  refine own_via (fun t k => castTop (ef_5 m a697 (2 : Int32) (2 : Int32)) (XS.iloadN X0.here hx rfl (hb hby d7_0) rfl (XS.sipush X0.here hx rfl (hb hby d7_1) (XS.icmpNo X0.here hx rfl (hb hby d7_4) rfl (tlt (by decide : (2 : Int32) < (16384 : Int32))).2.1 (XS.aloadN X0.here hx rfl (hb hby d7_7) rfl rfl k))))) ?_
  show own_Goes p e below (s₁.setTop (mkF m 8 #[rv a697, iv (2 : Int32), iv (2 : Int32)] [(.ref a697)])) _
  obtain ⟨T725, X725, e725, st725⟩ := getF X0 hx hZ hown (host := "") (Or.inl (wd hw 26 rfl)) Via.refl e0 pF_a697_first (g := (mkF m 8 #[rv a697, iv (2 : Int32), iv (2 : Int32)] [(.ref a697)])) rfl rfl (hb hby d7_8)
  refine own_via (fun t k => st725 t (XS.iloadN X725.here hx rfl (hb hby d7_11) rfl (XS.iloadN X725.here hx rfl (hb hby d7_12) rfl k))) ?_
  show own_Goes p e below (T725.setTop (mkF m 13 #[rv a697, iv (2 : Int32), iv (2 : Int32)] [(.int (2 : Int32)), (.int (2 : Int32)), (.ref a702)])) _
  obtain ⟨cl726, Ar726, qq726, S726, M726, H726, G726⟩ := id (pV_a702)
  have hin726 : ¬ ((2 : Int32) < 0 ∨ cl726.slots.size ≤ ((2 : Int32)).toNatClampNeg) := inb_of S726 ⟨by decide, by decide⟩
  obtain ⟨T726, h726, X726, e726, W726, st726⟩ := stI X725 hx hZ e725 Ar726 (j := (2 : Int32)) hin726 (g := (mkF m 13 #[rv a697, iv (2 : Int32), iv (2 : Int32)] [(.int (2 : Int32)), (.int (2 : Int32)), (.ref a702)])) rfl rfl (hb hby d7_13)
  refine own_via (fun t k => st726 t k) ?_
  have V727 : Arv Z h726 a702 k712 .int (16 : Int32) [(.int p704), (.int p703), (.int (2 : Int32)), (.int p706), (.int p707), (.int p708), (.int p709), (.int p710), (.int p711)] (.int (0 : Int32)) := Arv.set Ar726 qq726 S726 M726 H726 G726 rfl W726 2 rfl (Nat.le_of_ble_eq_true rfl)
  have N726 := Fr.snoc X726 N0 pG_a702
  show own_Goes p e below (T726.setTop (mkF m 14 #[rv a697, iv (2 : Int32), iv (2 : Int32)] [])) _
  refine own_via (fun t k => XS.goto X726.here hx rfl (pc0 := 14) (pc' := 33) rfl (hb hby d7_14) (by decide) (by decide) k) ?_
  obtain ⟨fs, hr, hrun, hended, hW, hsame⟩ := X726.leave (v := none) (fun _ => rfl)
  refine own_end (t := T726.setFrames fs) ?_ ⟨_, hrun, hended, _, _, rfl, ?_, ⟨_, rfl⟩, hW, hsame.mono (by decide) (by decide)⟩
  · exact X726.returnOut hx Bd.returns (hb hby d7_33) hr
  have E728 : Exa Z h726 a702 "[I" := (pE_a702.wr W726)
  · show Q15 Z a697 a702 k712 p704 p703 p705 p706 p707 p708 p709 p710 p711 h0 n0 _ T726.heap _
    rw [e726]
    exact ⟨rfl, N726, ((Keep.refl h0 [a702]).wr W726 (Or.inl (List.mem_of_getElem? (i := 0) rfl))), E728, V727⟩
def Q16 (Z : State) (a630 : Addr) (p636 : Int32) (a635 : Addr) (k646 : ClassId) (p637 : Int32) (p638 : Int32) (p639 : Int32) (p640 : Int32) (p641 : Int32) (p642 : Int32) (p643 : Int32) (p644 : Int32) (p645 : Int32) (h0 : Heap) (n0 : Nat) (v : Option Value) (h : Heap) (L : List Loc) : Prop := v = none ∧ Fr n0 L ∧ Keep h0 h [a635] ∧ Exa Z h a635 "[I" ∧ Arv Z h a635 k646 .int (16 : Int32) [(.int p637), (.int p636), (.int (2 : Int32)), (.int p640), (.int p641), (.int p642), (.int p643), (.int p644), (.int p645)] (.int (0 : Int32))
set_option maxRecDepth 65536 in
set_option maxHeartbeats 40000000 in
theorem rm16 (l : Launch) (Z : State) (a0 : Array Value) (hw : ∀ d ∈ tables_1, d.before a0 Z = true) (ws : List Jvm.Cond) (a630 : Addr) (p636 : Int32) (a635 : Addr) (k646 : ClassId) (p637 : Int32) (p638 : Int32) (p639 : Int32) (p640 : Int32) (p641 : Int32) (p642 : Int32) (p643 : Int32) (p644 : Int32) (p645 : Int32) (h0 : Heap) (n0 : Nat) (O0 : Old Z n0 h0) (pF_a630_length : Fld Z h0 a630 zs1 "length" "I" (.int p636)) (pF_a630_first : Fld Z h0 a630 zs1 "first" "[I" (.ref a635)) (pV_a635 : Arv Z h0 a635 k646 .int (16 : Int32) [(.int p637), (.int p638), (.int p639), (.int p640), (.int p641), (.int p642), (.int p643), (.int p644), (.int p645)] (.int (0 : Int32))) (pG_a635 : n0 ≤ a635) (pE_a635 : Exa Z h0 a635 "[I") (pE_a630 : Exa Z h0 a630 zs1) (pN_a630_a635 : a630 ≠ a635) :
    MetFree l (⟨zs1, "close", "(IIZ)V"⟩ : MethodName) (head1 (Jvm.Cond.code (⟨zs1, "close", "(IIZ)V"⟩ : MethodName) prog_17_method_6_code 4 none :: ws) ({ frames := 1, cells := 0, slots := 0, locals := 14 } : Room)) (fun a U => a = #[(.ref a630), (.int (0 : Int32)), (.int (1 : Int32)), (.int (0 : Int32))] ∧ Z.Warmed39 U.vm ∧ U.heap = h0) (fun _ _ _ _ _ => True) (fun _ U o U' => ∃ v L, o = .returned v ∧ Q16 Z a630 p636 a635 k646 p637 p638 p639 p640 p641 p642 p643 p644 p645 h0 n0 v U'.heap L ∧ FrameEnd U o U' L ({ frames := 1, cells := 0, slots := 0, locals := 14 } : Room).cells ({ frames := 1, cells := 0, slots := 0, locals := 14 } : Room).slots) := by
  refine MetFree.of_bodySF (plainFor_of_name pn_1) hisR ?_
  intro p e s m args below meth c s₁ Bd hml0 hP hK
  obtain ⟨rfl, hZ, hh⟩ := hP
  have hx := Bd.exec
  have hby := Bd.bytes
  have hml : c.maxLocals = 4 := hml0
  have hown : s.vm.findClass zs1 = some m.cls := findClass_of_methodNamed Bd.named
  have hnm := (name_of_methodNamed Bd.named Bd.method).1
  have X0 : Stand p l e ({ frames := 1, cells := 0, slots := 0, locals := 14 } : Room) s m #[(.ref a630), (.int (0 : Int32)), (.int (1 : Int32)), (.int (0 : Int32))] below meth c s₁ [] 0 0 := Stand.of_body Bd
  have e0 : s₁.heap = h0 := by rw [← hh, Bd.state]; rfl
  have N0 := Fr.nil n0
  refine own_out ?_
  refine own_via (fun t k => castTop (ef_6 m a630 (0 : Int32) (1 : Int32) (0 : Int32)) (XS.aloadN X0.here hx rfl (hb hby d6_0) rfl rfl (XS.iloadN X0.here hx rfl (hb hby d6_1) rfl (XS.iconst X0.here hx rfl (hb hby d6_2) (XS.iadd X0.here hx rfl (hb hby d6_3) rfl (XS.aloadN X0.here hx rfl (hb hby d6_4) rfl rfl k)))))) ?_
  show own_Goes p e below (s₁.setTop (mkF m 5 #[rv a630, iv (0 : Int32), iv (1 : Int32), iv (0 : Int32)] [(.ref a630), (.int (1 : Int32)), (.ref a630)])) _
  obtain ⟨T659, X659, e659, st659⟩ := getF X0 hx hZ hown (host := "") (Or.inl (wd hw 39 rfl)) Via.refl e0 pF_a630_length (g := (mkF m 5 #[rv a630, iv (0 : Int32), iv (1 : Int32), iv (0 : Int32)] [(.ref a630), (.int (1 : Int32)), (.ref a630)])) rfl rfl (hb hby d6_5)
  refine own_via (fun t k => st659 t k) ?_
  obtain ⟨cq660, q660, q660'⟩ := pE_a630.cell
  obtain ⟨_, _, ⟨T660, L660, c660, n660⟩, -, X660, ⟨Lc660, hQ660, l660, y660, z660⟩, st660⟩ := X659.privateBack hx (y := (⟨zs1, "set", "(II)V"⟩ : MethodName)) hown (mvT hZ (wd hw 47 rfl)) (mvT hZ (wd hw 48 rfl)) (own_selPriv (mvT hZ (wd hw 3 rfl)) (mvT hZ (wd hw 48 rfl)) (Cond.privateMethod_at (mvP hZ (wd hw 49 rfl) (args := #[]))) (by decide)) (Cond.privateMethod_at (mvP hZ (wd hw 49 rfl) (args := #[]))) (mvT hZ (wd hw 50 rfl)) (by decide) (backOf (W := 0) (rm14 l Z a0 hw [] a630 p636 a635 k646 p637 p638 p639 p640 p641 p642 p643 p644 p645 h0 n0 O0 pF_a630_first pV_a635 pG_a635 pE_a635) hZ (wd hw 50 rfl) (wd hw 4 rfl) (by decide) (by decide)) (g := (mkF m 8 #[rv a630, iv (0 : Int32), iv (1 : Int32), iv (0 : Int32)] [(.int p636), (.int (1 : Int32)), (.ref a630)])) rfl (by rw [hml]; rfl) (Steps.refl _) (a := a630) (by rw [e659]; exact q660) q660' (argsL := [(.int (1 : Int32)), (.int p636)]) (rest := []) (lenOf pd_4 rfl) rfl (by show 2 * 0 + _ ≤ _; exact Nat.le_of_eq rfl) (hb hby d6_8) (fun _ _ => ⟨rfl, e659, (by decide : 0 + 0 ≤ _), (by decide : 0 + 0 ≤ _)⟩)
  dsimp only [Pt.U, Pt.locs, Pt.cells, Pt.slots] at X660 l660 y660 z660 st660 hQ660
  subst l660 y660 z660
  obtain ⟨h660, e660⟩ : ∃ z, T660.heap = z := ⟨_, rfl⟩
  rw [e660] at hQ660
  obtain ⟨rfl, Nq660, K660, ex694, vx695⟩ := hQ660
  have N660 := Fr.app N0 Nq660
  refine own_via (fun t k => st660.trans (XS.aloadN X660.here hx rfl (hb hby d6_11) rfl rfl (XS.iloadN X660.here hx rfl (hb hby d6_12) rfl (XS.iconst X660.here hx rfl (hb hby d6_13) (XS.iadd X660.here hx rfl (hb hby d6_14) rfl (XS.iloadN X660.here hx rfl (hb hby d6_15) rfl (XS.iconst X660.here hx rfl (hb hby d6_16) (XS.ishl X660.here hx rfl (hb hby d6_17) rfl (XS.iloadN X660.here hx rfl (hb hby d6_18) rfl (XS.ifYes X660.here hx rfl (pc0 := 19) (pc' := 26) rfl (hb hby d6_19) rfl ((if0 _ _).trans (teq (by decide : (0 : Int32) = (0 : Int32))).1) (by decide) (by decide) (XS.iconst X660.here hx rfl (hb hby d6_26) (XS.ior X660.here hx rfl (hb hby d6_27) rfl k)))))))))))) ?_
  show own_Goes p e below (T660.setTop (mkF m 28 #[rv a630, iv (0 : Int32), iv (1 : Int32), iv (0 : Int32)] [(.int (2 : Int32)), (.int (2 : Int32)), (.ref a630)])) _
  have F729 : Fld Z h660 a630 zs1 "first" "[I" (.ref a635) := (pF_a630_first.keep K660 (ninS pN_a630_a635 nin0))
  have O730 : Old Z n0 h660 := (O0.keep K660 (allS pG_a635 all0))
  have E731 : Exa Z h660 a630 zs1 := (pE_a630.keep K660)
  obtain ⟨cq696, q696, q696'⟩ := E731.cell
  obtain ⟨_, _, ⟨T696, L696, c696, n696⟩, -, X696, ⟨Lc696, hQ696, l696, y696, z696⟩, st696⟩ := X660.privateBack hx (y := (⟨zs1, "set", "(II)V"⟩ : MethodName)) hown (mvT hZ (wd hw 47 rfl)) (mvT hZ (wd hw 48 rfl)) (own_selPriv (mvT hZ (wd hw 3 rfl)) (mvT hZ (wd hw 48 rfl)) (Cond.privateMethod_at (mvP hZ (wd hw 49 rfl) (args := #[]))) (by decide)) (Cond.privateMethod_at (mvP hZ (wd hw 49 rfl) (args := #[]))) (mvT hZ (wd hw 50 rfl)) (by decide) (backOf (W := 0) (rm15 l Z a0 hw [] a630 a635 k646 p637 p636 p639 p640 p641 p642 p643 p644 p645 h660 n0 O730 F729 vx695 pG_a635 ex694) hZ (wd hw 50 rfl) (wd hw 4 rfl) (by decide) (by decide)) (g := (mkF m 28 #[rv a630, iv (0 : Int32), iv (1 : Int32), iv (0 : Int32)] [(.int (2 : Int32)), (.int (2 : Int32)), (.ref a630)])) rfl (by rw [hml]; rfl) (Steps.refl _) (a := a630) (by rw [e660]; exact q696) q696' (argsL := [(.int (2 : Int32)), (.int (2 : Int32))]) (rest := []) (lenOf pd_4 rfl) rfl (by show 2 * 0 + _ ≤ _; exact Nat.le_of_eq rfl) (hb hby d6_28) (fun _ _ => ⟨rfl, e660, (by decide : 0 + 0 ≤ _), (by decide : 0 + 0 ≤ _)⟩)
  dsimp only [Pt.U, Pt.locs, Pt.cells, Pt.slots] at X696 l696 y696 z696 st696 hQ696
  subst l696 y696 z696
  obtain ⟨h696, e696⟩ : ∃ z, T696.heap = z := ⟨_, rfl⟩
  rw [e696] at hQ696
  obtain ⟨rfl, Nq696, K696, ex732, vx733⟩ := hQ696
  have N696 := Fr.app N660 Nq696
  refine own_via (fun t k => st696.trans k) ?_
  obtain ⟨fs, hr, hrun, hended, hW, hsame⟩ := X696.leave (v := none) (fun _ => rfl)
  refine own_end (t := T696.setFrames fs) ?_ ⟨_, hrun, hended, _, _, rfl, ?_, ⟨_, rfl⟩, hW, hsame.mono (by decide) (by decide)⟩
  · exact X696.returnOut hx Bd.returns (hb hby d6_31) hr
  · show Q16 Z a630 p636 a635 k646 p637 p638 p639 p640 p641 p642 p643 p644 p645 h0 n0 _ T696.heap _
    rw [e696]
    exact ⟨rfl, N696, (((Keep.refl h0 [a635]).trans K660 (allS (Or.inl (List.mem_of_getElem? (i := 0) rfl)) all0)).trans K696 (allS (Or.inl (List.mem_of_getElem? (i := 0) rfl)) all0)), ex732, vx733⟩
theorem d8_0 : decode method_2_code 0 = .ok (.iload_n 0, 1) := by decide +kernel
theorem d8_1 : decode method_2_code 1 = .ok (.bipush 123, 2) := by decide +kernel
theorem d8_3 : decode method_2_code 3 = .ok (.if_icmp .eq 9, 3) := by decide +kernel
theorem d8_12 : decode method_2_code 12 = .ok (.iconst 1, 1) := by decide +kernel
theorem d8_13 : decode method_2_code 13 = .ok (.goto 4, 3) := by decide +kernel
theorem d8_17 : decode method_2_code 17 = .ok (.ireturn, 1) := by decide +kernel
theorem d8_6 : decode method_2_code 6 = .ok (.iload_n 0, 1) := by decide +kernel
theorem d8_7 : decode method_2_code 7 = .ok (.bipush 91, 2) := by decide +kernel
theorem d8_9 : decode method_2_code 9 = .ok (.if_icmp .ne 7, 3) := by decide +kernel
theorem d8_16 : decode method_2_code 16 = .ok (.iconst 0, 1) := by decide +kernel
theorem ef_7 (m : MethodId) (x0 : Int32) : entryFrame m #[(.int x0)] 1 = mkF m 0 #[iv x0] [] := by first | (simp [entryFrame, mkF, argsToLocals, Value.category]; done) | rfl
theorem pn_2 : plainName "com/example/kempt_envelope/kemptenvelope/JsonTapeNextPinLaw" = true := by first | (simp [plainName, overriddenIn]; done) | decide +kernel
def Q17 (Z : State) (p764 : Int32) (h0 : Heap) (n0 : Nat) (v : Option Value) (h : Heap) (L : List Loc) : Prop := (((p764 = (123 : Int32)) ∨ (¬ (p764 = (123 : Int32)) ∧ p764 = (91 : Int32))) ∧ v = some (.int (1 : Int32)) ∧ Fr n0 L ∧ h = h0) ∨ (¬ (p764 = (123 : Int32)) ∧ ¬ (p764 = (91 : Int32)) ∧ v = some (.int (0 : Int32)) ∧ Fr n0 L ∧ h = h0)
set_option maxRecDepth 65536 in
set_option maxHeartbeats 40000000 in
theorem rm17 (l : Launch) (Z : State) (a0 : Array Value) (hw : ∀ d ∈ tables_1, d.before a0 Z = true) (ws : List Jvm.Cond) (p764 : Int32) (h0 : Heap) (n0 : Nat) (O0 : Old Z n0 h0) :
    MetFree l (⟨zs2, "opens", "(B)Z"⟩ : MethodName) (head1 (Jvm.Cond.code (⟨zs2, "opens", "(B)Z"⟩ : MethodName) method_2_code 1 (some .boolean) :: ws) ({ frames := 0, cells := 0, slots := 0, locals := 0 } : Room)) (fun a U => a = #[(.int p764)] ∧ Z.Warmed39 U.vm ∧ U.heap = h0) (fun _ _ _ _ _ => True) (fun _ U o U' => ∃ v L, o = .returned v ∧ Q17 Z p764 h0 n0 v U'.heap L ∧ FrameEnd U o U' L ({ frames := 0, cells := 0, slots := 0, locals := 0 } : Room).cells ({ frames := 0, cells := 0, slots := 0, locals := 0 } : Room).slots) := by
  refine MetFree.of_bodySF (plainFor_of_name pn_2) hisR ?_
  intro p e s m args below meth c s₁ Bd hml0 hP hK
  obtain ⟨rfl, hZ, hh⟩ := hP
  have hx := Bd.exec
  have hby := Bd.bytes
  have hml : c.maxLocals = 1 := hml0
  have hown : s.vm.findClass zs2 = some m.cls := findClass_of_methodNamed Bd.named
  have hnm := (name_of_methodNamed Bd.named Bd.method).1
  have X0 : Stand p l e ({ frames := 0, cells := 0, slots := 0, locals := 0 } : Room) s m #[(.int p764)] below meth c s₁ [] 0 0 := Stand.of_body Bd
  have e0 : s₁.heap = h0 := by rw [← hh, Bd.state]; rfl
  have N0 := Fr.nil n0
  refine own_out ?_
  refine own_via (fun t k => castTop (ef_7 m p764) (XS.iloadN X0.here hx rfl (hb hby d8_0) rfl (XS.bipush X0.here hx rfl (hb hby d8_1) k))) ?_
  show own_Goes p e below (s₁.setTop (mkF m 3 #[iv p764] [(.int (123 : Int32)), (.int p764)])) _
  by_cases hc793 : p764 = (123 : Int32)
  · refine own_via (fun t k => XS.icmpYes X0.here hx rfl (pc0 := 3) (pc' := 12) rfl (hb hby d8_3) rfl (teq hc793).1 (by decide) (by decide) (XS.iconst X0.here hx rfl (hb hby d8_12) (XS.goto X0.here hx rfl (pc0 := 13) (pc' := 17) rfl (hb hby d8_13) (by decide) (by decide) k))) ?_
    show own_Goes p e below (s₁.setTop (mkF m 17 #[iv p764] [(.int (1 : Int32))])) _
    obtain ⟨fs, hr, hrun, hended, hW, hsame⟩ := X0.leave (v := some (.int (1 : Int32))) (fun h => by rw [Bd.returns] at h; cases h)
    refine own_end (t := s₁.setFrames fs) ?_ ⟨_, hrun, hended, _, _, rfl, ?_, ⟨_, rfl⟩, hW, hsame.mono (by decide) (by decide)⟩
    · exact retN X0 hx (t := .boolean) Bd.returns (by simp) (hb hby d8_17) hr
    · show Q17 Z p764 h0 n0 _ s₁.heap _
      rw [e0]
      exact Or.inl <| ⟨(Or.inl <| hc793), rfl, N0, rfl⟩
  · refine own_via (fun t k => XS.icmpNo X0.here hx rfl (hb hby d8_3) rfl (feq hc793).1 (XS.iloadN X0.here hx rfl (hb hby d8_6) rfl (XS.bipush X0.here hx rfl (hb hby d8_7) k))) ?_
    show own_Goes p e below (s₁.setTop (mkF m 9 #[iv p764] [(.int (91 : Int32)), (.int p764)])) _
    by_cases hc794 : p764 = (91 : Int32)
    · refine own_via (fun t k => XS.icmpNo X0.here hx rfl (hb hby d8_9) rfl (teq hc794).2 (XS.iconst X0.here hx rfl (hb hby d8_12) (XS.goto X0.here hx rfl (pc0 := 13) (pc' := 17) rfl (hb hby d8_13) (by decide) (by decide) k))) ?_
      show own_Goes p e below (s₁.setTop (mkF m 17 #[iv p764] [(.int (1 : Int32))])) _
      obtain ⟨fs, hr, hrun, hended, hW, hsame⟩ := X0.leave (v := some (.int (1 : Int32))) (fun h => by rw [Bd.returns] at h; cases h)
      refine own_end (t := s₁.setFrames fs) ?_ ⟨_, hrun, hended, _, _, rfl, ?_, ⟨_, rfl⟩, hW, hsame.mono (by decide) (by decide)⟩
      · exact retN X0 hx (t := .boolean) Bd.returns (by simp) (hb hby d8_17) hr
      · show Q17 Z p764 h0 n0 _ s₁.heap _
        rw [e0]
        exact Or.inl <| ⟨(Or.inr <| ⟨hc793, hc794⟩), rfl, N0, rfl⟩
    · refine own_via (fun t k => XS.icmpYes X0.here hx rfl (pc0 := 9) (pc' := 16) rfl (hb hby d8_9) rfl (feq hc794).2 (by decide) (by decide) (XS.iconst X0.here hx rfl (hb hby d8_16) k)) ?_
      obtain ⟨fs, hr, hrun, hended, hW, hsame⟩ := X0.leave (v := some (.int (0 : Int32))) (fun h => by rw [Bd.returns] at h; cases h)
      refine own_end (t := s₁.setFrames fs) ?_ ⟨_, hrun, hended, _, _, rfl, ?_, ⟨_, rfl⟩, hW, hsame.mono (by decide) (by decide)⟩
      · exact retN X0 hx (t := .boolean) Bd.returns (by simp) (hb hby d8_17) hr
      · show Q17 Z p764 h0 n0 _ s₁.heap _
        rw [e0]
        exact Or.inr <| ⟨hc793, hc794, rfl, N0, rfl⟩
theorem pd_6 : parseMethodDescriptor "(B)Z" = some ⟨[.byte], some .boolean⟩ := by decide +kernel
theorem d9_0 : decode prog_17_method_10_code 0 = .ok (.aload_n 0, 1) := by decide +kernel
theorem d9_1 : decode prog_17_method_10_code 1 = .ok (.getfield 21, 3) := by decide +kernel
theorem d9_4 : decode prog_17_method_10_code 4 = .ok (.aload_n 0, 1) := by decide +kernel
theorem d9_5 : decode prog_17_method_10_code 5 = .ok (.iload_n 1, 1) := by decide +kernel
theorem d9_6 : decode prog_17_method_10_code 6 = .ok (.invokevirtual 87, 3) := by decide +kernel
theorem d10_0 : decode prog_17_method_28_code 0 = .ok (.iload_n 1, 1) := by decide +kernel
theorem d10_1 : decode prog_17_method_28_code 1 = .ok (.sipush 16384, 3) := by decide +kernel
theorem d10_4 : decode prog_17_method_28_code 4 = .ok (.if_icmp .ge 12, 3) := by decide +kernel
theorem d10_7 : decode prog_17_method_28_code 7 = .ok (.aload_n 0, 1) := by decide +kernel
theorem d10_8 : decode prog_17_method_28_code 8 = .ok (.getfield 31, 3) := by decide +kernel
theorem d10_11 : decode prog_17_method_28_code 11 = .ok (.iload_n 1, 1) := by decide +kernel
theorem d10_12 : decode prog_17_method_28_code 12 = .ok (.iaload, 1) := by decide +kernel
theorem d10_13 : decode prog_17_method_28_code 13 = .ok (.goto 18, 3) := by decide +kernel
theorem d10_31 : decode prog_17_method_28_code 31 = .ok (.ireturn, 1) := by decide +kernel
theorem ef_8 (m : MethodId) (x0 : Addr) (x1 : Int32) : entryFrame m #[(.ref x0), (.int x1)] 2 = mkF m 0 #[rv x0, iv x1] [] := by first | (simp [entryFrame, mkF, argsToLocals, Value.category]; done) | rfl
def Q18 (Z : State) (a839 : Addr) (a844 : Addr) (k855 : ClassId) (p846 : Int32) (p847 : Int32) (p848 : Int32) (p849 : Int32) (p850 : Int32) (p851 : Int32) (p852 : Int32) (p853 : Int32) (p854 : Int32) (h0 : Heap) (n0 : Nat) (v : Option Value) (h : Heap) (L : List Loc) : Prop := v = some (.int p846) ∧ Fr n0 L ∧ h = h0
set_option maxRecDepth 65536 in
set_option maxHeartbeats 40000000 in
theorem rm18 (l : Launch) (Z : State) (a0 : Array Value) (hw : ∀ d ∈ tables_1, d.before a0 Z = true) (ws : List Jvm.Cond) (a839 : Addr) (a844 : Addr) (k855 : ClassId) (p846 : Int32) (p847 : Int32) (p848 : Int32) (p849 : Int32) (p850 : Int32) (p851 : Int32) (p852 : Int32) (p853 : Int32) (p854 : Int32) (h0 : Heap) (n0 : Nat) (O0 : Old Z n0 h0) (pF_a839_first : Fld Z h0 a839 zs1 "first" "[I" (.ref a844)) (pV_a844 : Arv Z h0 a844 k855 .int (16 : Int32) [(.int p846), (.int p847), (.int p848), (.int p849), (.int p850), (.int p851), (.int p852), (.int p853), (.int p854)] (.int (0 : Int32))) :
    MetFree l (⟨zs1, "get", "(I)I"⟩ : MethodName) (head1 (Jvm.Cond.code (⟨zs1, "get", "(I)I"⟩ : MethodName) prog_17_method_28_code 2 (some .int) :: ws) ({ frames := 0, cells := 0, slots := 0, locals := 0 } : Room)) (fun a U => a = #[(.ref a839), (.int (0 : Int32))] ∧ Z.Warmed39 U.vm ∧ U.heap = h0) (fun _ _ _ _ _ => True) (fun _ U o U' => ∃ v L, o = .returned v ∧ Q18 Z a839 a844 k855 p846 p847 p848 p849 p850 p851 p852 p853 p854 h0 n0 v U'.heap L ∧ FrameEnd U o U' L ({ frames := 0, cells := 0, slots := 0, locals := 0 } : Room).cells ({ frames := 0, cells := 0, slots := 0, locals := 0 } : Room).slots) := by
  refine MetFree.of_bodySF (plainFor_of_name pn_1) hisR ?_
  intro p e s m args below meth c s₁ Bd hml0 hP hK
  obtain ⟨rfl, hZ, hh⟩ := hP
  have hx := Bd.exec
  have hby := Bd.bytes
  have hml : c.maxLocals = 2 := hml0
  have hown : s.vm.findClass zs1 = some m.cls := findClass_of_methodNamed Bd.named
  have hnm := (name_of_methodNamed Bd.named Bd.method).1
  have X0 : Stand p l e ({ frames := 0, cells := 0, slots := 0, locals := 0 } : Room) s m #[(.ref a839), (.int (0 : Int32))] below meth c s₁ [] 0 0 := Stand.of_body Bd
  have e0 : s₁.heap = h0 := by rw [← hh, Bd.state]; rfl
  have N0 := Fr.nil n0
  refine own_out ?_
  refine own_via (fun t k => castTop (ef_8 m a839 (0 : Int32)) (XS.iloadN X0.here hx rfl (hb hby d10_0) rfl (XS.sipush X0.here hx rfl (hb hby d10_1) (XS.icmpNo X0.here hx rfl (hb hby d10_4) rfl (tlt (by decide : (0 : Int32) < (16384 : Int32))).2.1 (XS.aloadN X0.here hx rfl (hb hby d10_7) rfl rfl k))))) ?_
  show own_Goes p e below (s₁.setTop (mkF m 8 #[rv a839, iv (0 : Int32)] [(.ref a839)])) _
  obtain ⟨T870, X870, e870, st870⟩ := getF X0 hx hZ hown (host := "") (Or.inl (wd hw 26 rfl)) Via.refl e0 pF_a839_first (g := (mkF m 8 #[rv a839, iv (0 : Int32)] [(.ref a839)])) rfl rfl (hb hby d10_8)
  refine own_via (fun t k => st870 t (XS.iloadN X870.here hx rfl (hb hby d10_11) rfl k)) ?_
  obtain ⟨cl871, Ar871, qq871, S871, M871, H871, G871⟩ := id (pV_a844)
  have hin871 : ¬ ((0 : Int32) < 0 ∨ cl871.slots.size ≤ ((0 : Int32)).toNatClampNeg) := inb_of S871 ⟨by decide, by decide⟩
  refine own_via (fun t k => X870.iaload hx (j := (0 : Int32)) (v := (.int p846)) (by rw [e870]; exact Ar871.1) (State.isArrayOf_alike hZ.alike Ar871.2.1) Ar871.2.2 hin871 (Has.at H871 hin871 rfl) (g := (mkF m 12 #[rv a839, iv (0 : Int32)] [(.int (0 : Int32)), (.ref a844)])) rfl rfl (hb hby d10_12) t (XS.goto X870.here hx rfl (pc0 := 13) (pc' := 31) rfl (hb hby d10_13) (by decide) (by decide) k)) ?_
  obtain ⟨fs, hr, hrun, hended, hW, hsame⟩ := X870.leave (v := some (.int p846)) (fun h => by rw [Bd.returns] at h; cases h)
  refine own_end (t := T870.setFrames fs) ?_ ⟨_, hrun, hended, _, _, rfl, ?_, ⟨_, rfl⟩, hW, hsame.mono (by decide) (by decide)⟩
  · exact retI X870 hx Bd.returns (hb hby d10_31) hr
  · show Q18 Z a839 a844 k855 p846 p847 p848 p849 p850 p851 p852 p853 p854 h0 n0 _ T870.heap _
    rw [e870]
    exact ⟨rfl, N0, rfl⟩
theorem d9_9 : decode prog_17_method_10_code 9 = .ok (.baload, 1) := by decide +kernel
theorem d9_10 : decode prog_17_method_10_code 10 = .ok (.istore_n 2, 1) := by decide +kernel
theorem d9_11 : decode prog_17_method_10_code 11 = .ok (.iload_n 2, 1) := by decide +kernel
theorem d9_12 : decode prog_17_method_10_code 12 = .ok (.bipush 123, 2) := by decide +kernel
theorem d9_14 : decode prog_17_method_10_code 14 = .ok (.if_icmp .eq 9, 3) := by decide +kernel
theorem d9_23 : decode prog_17_method_10_code 23 = .ok (.aload_n 0, 1) := by decide +kernel
theorem d9_24 : decode prog_17_method_10_code 24 = .ok (.iload_n 1, 1) := by decide +kernel
theorem d9_25 : decode prog_17_method_10_code 25 = .ok (.iconst 1, 1) := by decide +kernel
theorem d9_26 : decode prog_17_method_10_code 26 = .ok (.iadd, 1) := by decide +kernel
theorem d9_27 : decode prog_17_method_10_code 27 = .ok (.invokevirtual 87, 3) := by decide +kernel
def Q19 (Z : State) (a876 : Addr) (a881 : Addr) (k892 : ClassId) (p883 : Int32) (p884 : Int32) (p885 : Int32) (p886 : Int32) (p887 : Int32) (p888 : Int32) (p889 : Int32) (p890 : Int32) (p891 : Int32) (h0 : Heap) (n0 : Nat) (v : Option Value) (h : Heap) (L : List Loc) : Prop := v = some (.int p884) ∧ Fr n0 L ∧ h = h0
set_option maxRecDepth 65536 in
set_option maxHeartbeats 40000000 in
theorem rm19 (l : Launch) (Z : State) (a0 : Array Value) (hw : ∀ d ∈ tables_1, d.before a0 Z = true) (ws : List Jvm.Cond) (a876 : Addr) (a881 : Addr) (k892 : ClassId) (p883 : Int32) (p884 : Int32) (p885 : Int32) (p886 : Int32) (p887 : Int32) (p888 : Int32) (p889 : Int32) (p890 : Int32) (p891 : Int32) (h0 : Heap) (n0 : Nat) (O0 : Old Z n0 h0) (pF_a876_first : Fld Z h0 a876 zs1 "first" "[I" (.ref a881)) (pV_a881 : Arv Z h0 a881 k892 .int (16 : Int32) [(.int p883), (.int p884), (.int p885), (.int p886), (.int p887), (.int p888), (.int p889), (.int p890), (.int p891)] (.int (0 : Int32))) :
    MetFree l (⟨zs1, "get", "(I)I"⟩ : MethodName) (head1 (Jvm.Cond.code (⟨zs1, "get", "(I)I"⟩ : MethodName) prog_17_method_28_code 2 (some .int) :: ws) ({ frames := 0, cells := 0, slots := 0, locals := 0 } : Room)) (fun a U => a = #[(.ref a876), (.int (1 : Int32))] ∧ Z.Warmed39 U.vm ∧ U.heap = h0) (fun _ _ _ _ _ => True) (fun _ U o U' => ∃ v L, o = .returned v ∧ Q19 Z a876 a881 k892 p883 p884 p885 p886 p887 p888 p889 p890 p891 h0 n0 v U'.heap L ∧ FrameEnd U o U' L ({ frames := 0, cells := 0, slots := 0, locals := 0 } : Room).cells ({ frames := 0, cells := 0, slots := 0, locals := 0 } : Room).slots) := by
  refine MetFree.of_bodySF (plainFor_of_name pn_1) hisR ?_
  intro p e s m args below meth c s₁ Bd hml0 hP hK
  obtain ⟨rfl, hZ, hh⟩ := hP
  have hx := Bd.exec
  have hby := Bd.bytes
  have hml : c.maxLocals = 2 := hml0
  have hown : s.vm.findClass zs1 = some m.cls := findClass_of_methodNamed Bd.named
  have hnm := (name_of_methodNamed Bd.named Bd.method).1
  have X0 : Stand p l e ({ frames := 0, cells := 0, slots := 0, locals := 0 } : Room) s m #[(.ref a876), (.int (1 : Int32))] below meth c s₁ [] 0 0 := Stand.of_body Bd
  have e0 : s₁.heap = h0 := by rw [← hh, Bd.state]; rfl
  have N0 := Fr.nil n0
  refine own_out ?_
  refine own_via (fun t k => castTop (ef_8 m a876 (1 : Int32)) (XS.iloadN X0.here hx rfl (hb hby d10_0) rfl (XS.sipush X0.here hx rfl (hb hby d10_1) (XS.icmpNo X0.here hx rfl (hb hby d10_4) rfl (tlt (by decide : (1 : Int32) < (16384 : Int32))).2.1 (XS.aloadN X0.here hx rfl (hb hby d10_7) rfl rfl k))))) ?_
  show own_Goes p e below (s₁.setTop (mkF m 8 #[rv a876, iv (1 : Int32)] [(.ref a876)])) _
  obtain ⟨T908, X908, e908, st908⟩ := getF X0 hx hZ hown (host := "") (Or.inl (wd hw 26 rfl)) Via.refl e0 pF_a876_first (g := (mkF m 8 #[rv a876, iv (1 : Int32)] [(.ref a876)])) rfl rfl (hb hby d10_8)
  refine own_via (fun t k => st908 t (XS.iloadN X908.here hx rfl (hb hby d10_11) rfl k)) ?_
  obtain ⟨cl909, Ar909, qq909, S909, M909, H909, G909⟩ := id (pV_a881)
  have hin909 : ¬ ((1 : Int32) < 0 ∨ cl909.slots.size ≤ ((1 : Int32)).toNatClampNeg) := inb_of S909 ⟨by decide, by decide⟩
  refine own_via (fun t k => X908.iaload hx (j := (1 : Int32)) (v := (.int p884)) (by rw [e908]; exact Ar909.1) (State.isArrayOf_alike hZ.alike Ar909.2.1) Ar909.2.2 hin909 (Has.at H909 hin909 rfl) (g := (mkF m 12 #[rv a876, iv (1 : Int32)] [(.int (1 : Int32)), (.ref a881)])) rfl rfl (hb hby d10_12) t (XS.goto X908.here hx rfl (pc0 := 13) (pc' := 31) rfl (hb hby d10_13) (by decide) (by decide) k)) ?_
  obtain ⟨fs, hr, hrun, hended, hW, hsame⟩ := X908.leave (v := some (.int p884)) (fun h => by rw [Bd.returns] at h; cases h)
  refine own_end (t := T908.setFrames fs) ?_ ⟨_, hrun, hended, _, _, rfl, ?_, ⟨_, rfl⟩, hW, hsame.mono (by decide) (by decide)⟩
  · exact retI X908 hx Bd.returns (hb hby d10_31) hr
  · show Q19 Z a876 a881 k892 p883 p884 p885 p886 p887 p888 p889 p890 p891 h0 n0 _ T908.heap _
    rw [e908]
    exact ⟨rfl, N0, rfl⟩
theorem d9_30 : decode prog_17_method_10_code 30 = .ok (.goto 6, 3) := by decide +kernel
theorem d9_36 : decode prog_17_method_10_code 36 = .ok (.ireturn, 1) := by decide +kernel
theorem d9_17 : decode prog_17_method_10_code 17 = .ok (.iload_n 2, 1) := by decide +kernel
theorem d9_18 : decode prog_17_method_10_code 18 = .ok (.bipush 91, 2) := by decide +kernel
theorem d9_20 : decode prog_17_method_10_code 20 = .ok (.if_icmp .ne 13, 3) := by decide +kernel
theorem ef_9 (m : MethodId) (x0 : Addr) (x1 : Int32) : entryFrame m #[(.ref x0), (.int x1)] 3 = mkF m 0 #[rv x0, iv x1, .unset] [] := by first | (simp [entryFrame, mkF, argsToLocals, Value.category]; done) | rfl
def Q20 (Z : State) (a807 : Addr) (a808 : Addr) (a812 : Addr) (k822 : ClassId) (p814 : Int32) (p815 : Int32) (p816 : Int32) (p817 : Int32) (p818 : Int32) (p819 : Int32) (p820 : Int32) (p821 : Int32) (k811 : ClassId) (p809 : Int32) (p810 : Int32) (h0 : Heap) (n0 : Nat) (v : Option Value) (h : Heap) (L : List Loc) : Prop := ((p809 = (123 : Int32)) ∨ (¬ (p809 = (123 : Int32)) ∧ p809 = (91 : Int32))) ∧ v = some (.int p814) ∧ Fr n0 L ∧ h = h0
set_option maxRecDepth 65536 in
set_option maxHeartbeats 40000000 in
theorem rm20 (l : Launch) (Z : State) (a0 : Array Value) (hw : ∀ d ∈ tables_1, d.before a0 Z = true) (ws : List Jvm.Cond) (a807 : Addr) (a808 : Addr) (a812 : Addr) (k822 : ClassId) (p814 : Int32) (p815 : Int32) (p816 : Int32) (p817 : Int32) (p818 : Int32) (p819 : Int32) (p820 : Int32) (p821 : Int32) (k811 : ClassId) (p809 : Int32) (p810 : Int32) (h0 : Heap) (n0 : Nat) (O0 : Old Z n0 h0) (pF_a807_text : Fld Z h0 a807 zs1 "text" "[B" (.ref a808)) (pF_a807_first : Fld Z h0 a807 zs1 "first" "[I" (.ref a812)) (pV_a812 : Arv Z h0 a812 k822 .int (16 : Int32) [(.int (0 : Int32)), (.int p814), (.int p815), (.int p816), (.int p817), (.int p818), (.int p819), (.int p820), (.int p821)] (.int (0 : Int32))) (pE_a807 : Exa Z h0 a807 zs1) (pV_a808 : Arv Z h0 a808 k811 .byte (2 : Int32) [(.int p809), (.int p810)] (.int (0 : Int32))) (pC835 : (p809 = (123 : Int32)) ∨ (¬ (p809 = (123 : Int32)) ∧ p809 = (91 : Int32))) :
    MetFree l (⟨zs1, "next", "(I)I"⟩ : MethodName) (head1 (Jvm.Cond.code (⟨zs1, "next", "(I)I"⟩ : MethodName) prog_17_method_10_code 3 (some .int) :: ws) ({ frames := 1, cells := 0, slots := 0, locals := 14 } : Room)) (fun a U => a = #[(.ref a807), (.int (0 : Int32))] ∧ Z.Warmed39 U.vm ∧ U.heap = h0) (fun _ _ _ _ _ => True) (fun _ U o U' => ∃ v L, o = .returned v ∧ Q20 Z a807 a808 a812 k822 p814 p815 p816 p817 p818 p819 p820 p821 k811 p809 p810 h0 n0 v U'.heap L ∧ FrameEnd U o U' L ({ frames := 1, cells := 0, slots := 0, locals := 14 } : Room).cells ({ frames := 1, cells := 0, slots := 0, locals := 14 } : Room).slots) := by
  refine MetFree.of_bodySF (plainFor_of_name pn_1) hisR ?_
  intro p e s m args below meth c s₁ Bd hml0 hP hK
  obtain ⟨rfl, hZ, hh⟩ := hP
  have hx := Bd.exec
  have hby := Bd.bytes
  have hml : c.maxLocals = 3 := hml0
  have hown : s.vm.findClass zs1 = some m.cls := findClass_of_methodNamed Bd.named
  have hnm := (name_of_methodNamed Bd.named Bd.method).1
  have X0 : Stand p l e ({ frames := 1, cells := 0, slots := 0, locals := 14 } : Room) s m #[(.ref a807), (.int (0 : Int32))] below meth c s₁ [] 0 0 := Stand.of_body Bd
  have e0 : s₁.heap = h0 := by rw [← hh, Bd.state]; rfl
  have N0 := Fr.nil n0
  refine own_out ?_
  refine own_via (fun t k => castTop (ef_9 m a807 (0 : Int32)) (XS.aloadN X0.here hx rfl (hb hby d9_0) rfl rfl k)) ?_
  obtain ⟨T837, X837, e837, st837⟩ := getF X0 hx hZ hown (host := "") (Or.inl (wd hw 19 rfl)) Via.refl e0 pF_a807_text (g := (mkF m 1 #[rv a807, iv (0 : Int32), .unset] [(.ref a807)])) rfl rfl (hb hby d9_1)
  refine own_via (fun t k => st837 t (XS.aloadN X837.here hx rfl (hb hby d9_4) rfl rfl (XS.iloadN X837.here hx rfl (hb hby d9_5) rfl k))) ?_
  show own_Goes p e below (T837.setTop (mkF m 6 #[rv a807, iv (0 : Int32), .unset] [(.int (0 : Int32)), (.ref a807), (.ref a808)])) _
  obtain ⟨cq838, q838, q838'⟩ := pE_a807.cell
  obtain ⟨_, _, ⟨T838, L838, c838, n838⟩, -, X838, ⟨Lc838, hQ838, l838, y838, z838⟩, st838⟩ := X837.privateBack hx (y := (⟨zs1, "get", "(I)I"⟩ : MethodName)) hown (mvT hZ (wd hw 60 rfl)) (mvT hZ (wd hw 61 rfl)) (own_selPriv (mvT hZ (wd hw 3 rfl)) (mvT hZ (wd hw 61 rfl)) (Cond.privateMethod_at (mvP hZ (wd hw 62 rfl) (args := #[]))) (by decide)) (Cond.privateMethod_at (mvP hZ (wd hw 62 rfl) (args := #[]))) (mvT hZ (wd hw 63 rfl)) (by decide) (backOf (W := 1) (rm18 l Z a0 hw [] a807 a812 k822 (0 : Int32) p814 p815 p816 p817 p818 p819 p820 p821 h0 n0 O0 pF_a807_first pV_a812) hZ (wd hw 63 rfl) (wd hw 4 rfl) (by decide) (by decide)) (g := (mkF m 6 #[rv a807, iv (0 : Int32), .unset] [(.int (0 : Int32)), (.ref a807), (.ref a808)])) rfl (by rw [hml]; rfl) (Steps.refl _) (a := a807) (by rw [e837]; exact q838) q838' (argsL := [(.int (0 : Int32))]) (rest := [(.ref a808)]) (lenOf pd_3 rfl) rfl (by show 2 * 0 + _ ≤ _; exact Nat.le_of_eq rfl) (hb hby d9_6) (fun _ _ => ⟨rfl, e837, (by decide : 0 + 0 ≤ _), (by decide : 0 + 0 ≤ _)⟩)
  dsimp only [Pt.U, Pt.locs, Pt.cells, Pt.slots] at X838 l838 y838 z838 st838 hQ838
  subst l838 y838 z838
  obtain ⟨rfl, Nq838, hh872⟩ := hQ838
  have N838 := Fr.app N0 Nq838
  refine own_via (fun t k => st838.trans k) ?_
  obtain ⟨cl873, Ar873, qq873, S873, M873, H873, G873⟩ := id (pV_a808)
  have hin873 : ¬ ((0 : Int32) < 0 ∨ cl873.slots.size ≤ ((0 : Int32)).toNatClampNeg) := inb_of S873 ⟨by decide, by decide⟩
  refine own_via (fun t k => X838.baloadBytes hx (j := (0 : Int32)) (v := (.int p809)) (by rw [hh872]; exact Ar873.1) (State.isArrayOf_alike hZ.alike Ar873.2.1) Ar873.2.2 hin873 (Has.at H873 hin873 rfl) (g := (mkF m 9 #[rv a807, iv (0 : Int32), .unset] [(.int (0 : Int32)), (.ref a808)])) rfl rfl (hb hby d9_9) t (XS.istoreN X838.here hx rfl (hb hby d9_10) rfl (l' := #[rv a807, iv (0 : Int32), iv p809]) rfl (XS.iloadN X838.here hx rfl (hb hby d9_11) rfl (XS.bipush X838.here hx rfl (hb hby d9_12) k)))) ?_
  show own_Goes p e below (T838.setTop (mkF m 14 #[rv a807, iv (0 : Int32), iv p809] [(.int (123 : Int32)), (.int p809)])) _
  by_cases hc874 : p809 = (123 : Int32)
  · refine own_via (fun t k => XS.icmpYes X838.here hx rfl (pc0 := 14) (pc' := 23) rfl (hb hby d9_14) rfl (teq hc874).1 (by decide) (by decide) (XS.aloadN X838.here hx rfl (hb hby d9_23) rfl rfl (XS.iloadN X838.here hx rfl (hb hby d9_24) rfl (XS.iconst X838.here hx rfl (hb hby d9_25) (XS.iadd X838.here hx rfl (hb hby d9_26) rfl k))))) ?_
    show own_Goes p e below (T838.setTop (mkF m 27 #[rv a807, iv (0 : Int32), iv p809] [(.int (1 : Int32)), (.ref a807)])) _
    obtain ⟨cq875, q875, q875'⟩ := pE_a807.cell
    obtain ⟨_, _, ⟨T875, L875, c875, n875⟩, -, X875, ⟨Lc875, hQ875, l875, y875, z875⟩, st875⟩ := X838.privateBack hx (y := (⟨zs1, "get", "(I)I"⟩ : MethodName)) hown (mvT hZ (wd hw 60 rfl)) (mvT hZ (wd hw 61 rfl)) (own_selPriv (mvT hZ (wd hw 3 rfl)) (mvT hZ (wd hw 61 rfl)) (Cond.privateMethod_at (mvP hZ (wd hw 62 rfl) (args := #[]))) (by decide)) (Cond.privateMethod_at (mvP hZ (wd hw 62 rfl) (args := #[]))) (mvT hZ (wd hw 63 rfl)) (by decide) (backOf (W := 0) (rm19 l Z a0 hw [] a807 a812 k822 (0 : Int32) p814 p815 p816 p817 p818 p819 p820 p821 h0 n0 O0 pF_a807_first pV_a812) hZ (wd hw 63 rfl) (wd hw 4 rfl) (by decide) (by decide)) (g := (mkF m 27 #[rv a807, iv (0 : Int32), iv p809] [(.int (1 : Int32)), (.ref a807)])) rfl (by rw [hml]; rfl) (Steps.refl _) (a := a807) (by rw [hh872]; exact q875) q875' (argsL := [(.int (1 : Int32))]) (rest := []) (lenOf pd_3 rfl) rfl (by show 2 * 0 + _ ≤ _; exact Nat.le_of_eq rfl) (hb hby d9_27) (fun _ _ => ⟨rfl, hh872, (by decide : 0 + 0 ≤ _), (by decide : 0 + 0 ≤ _)⟩)
    dsimp only [Pt.U, Pt.locs, Pt.cells, Pt.slots] at X875 l875 y875 z875 st875 hQ875
    subst l875 y875 z875
    obtain ⟨rfl, Nq875, hh910⟩ := hQ875
    have N875 := Fr.app N838 Nq875
    refine own_via (fun t k => st875.trans (XS.goto X875.here hx rfl (pc0 := 30) (pc' := 36) rfl (hb hby d9_30) (by decide) (by decide) k)) ?_
    obtain ⟨fs, hr, hrun, hended, hW, hsame⟩ := X875.leave (v := some (.int p814)) (fun h => by rw [Bd.returns] at h; cases h)
    refine own_end (t := T875.setFrames fs) ?_ ⟨_, hrun, hended, _, _, rfl, ?_, ⟨_, rfl⟩, hW, hsame.mono (by decide) (by decide)⟩
    · exact retI X875 hx Bd.returns (hb hby d9_36) hr
    · show Q20 Z a807 a808 a812 k822 p814 p815 p816 p817 p818 p819 p820 p821 k811 p809 p810 h0 n0 _ T875.heap _
      rw [hh910]
      exact ⟨(Or.inl <| hc874), rfl, N875, rfl⟩
  · refine own_via (fun t k => XS.icmpNo X838.here hx rfl (hb hby d9_14) rfl (feq hc874).1 (XS.iloadN X838.here hx rfl (hb hby d9_17) rfl (XS.bipush X838.here hx rfl (hb hby d9_18) k))) ?_
    show own_Goes p e below (T838.setTop (mkF m 20 #[rv a807, iv (0 : Int32), iv p809] [(.int (91 : Int32)), (.int p809)])) _
    by_cases hc911 : p809 = (91 : Int32)
    · refine own_via (fun t k => XS.icmpNo X838.here hx rfl (hb hby d9_20) rfl (teq hc911).2 (XS.aloadN X838.here hx rfl (hb hby d9_23) rfl rfl (XS.iloadN X838.here hx rfl (hb hby d9_24) rfl (XS.iconst X838.here hx rfl (hb hby d9_25) (XS.iadd X838.here hx rfl (hb hby d9_26) rfl k))))) ?_
      show own_Goes p e below (T838.setTop (mkF m 27 #[rv a807, iv (0 : Int32), iv p809] [(.int (1 : Int32)), (.ref a807)])) _
      obtain ⟨cq912, q912, q912'⟩ := pE_a807.cell
      obtain ⟨_, _, ⟨T912, L912, c912, n912⟩, -, X912, ⟨Lc912, hQ912, l912, y912, z912⟩, st912⟩ := X838.privateBack hx (y := (⟨zs1, "get", "(I)I"⟩ : MethodName)) hown (mvT hZ (wd hw 60 rfl)) (mvT hZ (wd hw 61 rfl)) (own_selPriv (mvT hZ (wd hw 3 rfl)) (mvT hZ (wd hw 61 rfl)) (Cond.privateMethod_at (mvP hZ (wd hw 62 rfl) (args := #[]))) (by decide)) (Cond.privateMethod_at (mvP hZ (wd hw 62 rfl) (args := #[]))) (mvT hZ (wd hw 63 rfl)) (by decide) (backOf (W := 0) (rm19 l Z a0 hw [] a807 a812 k822 (0 : Int32) p814 p815 p816 p817 p818 p819 p820 p821 h0 n0 O0 pF_a807_first pV_a812) hZ (wd hw 63 rfl) (wd hw 4 rfl) (by decide) (by decide)) (g := (mkF m 27 #[rv a807, iv (0 : Int32), iv p809] [(.int (1 : Int32)), (.ref a807)])) rfl (by rw [hml]; rfl) (Steps.refl _) (a := a807) (by rw [hh872]; exact q912) q912' (argsL := [(.int (1 : Int32))]) (rest := []) (lenOf pd_3 rfl) rfl (by show 2 * 0 + _ ≤ _; exact Nat.le_of_eq rfl) (hb hby d9_27) (fun _ _ => ⟨rfl, hh872, (by decide : 0 + 0 ≤ _), (by decide : 0 + 0 ≤ _)⟩)
      dsimp only [Pt.U, Pt.locs, Pt.cells, Pt.slots] at X912 l912 y912 z912 st912 hQ912
      subst l912 y912 z912
      obtain ⟨rfl, Nq912, hh913⟩ := hQ912
      have N912 := Fr.app N838 Nq912
      refine own_via (fun t k => st912.trans (XS.goto X912.here hx rfl (pc0 := 30) (pc' := 36) rfl (hb hby d9_30) (by decide) (by decide) k)) ?_
      obtain ⟨fs, hr, hrun, hended, hW, hsame⟩ := X912.leave (v := some (.int p814)) (fun h => by rw [Bd.returns] at h; cases h)
      refine own_end (t := T912.setFrames fs) ?_ ⟨_, hrun, hended, _, _, rfl, ?_, ⟨_, rfl⟩, hW, hsame.mono (by decide) (by decide)⟩
      · exact retI X912 hx Bd.returns (hb hby d9_36) hr
      · show Q20 Z a807 a808 a812 k822 p814 p815 p816 p817 p818 p819 p820 p821 k811 p809 p810 h0 n0 _ T912.heap _
        rw [hh913]
        exact ⟨(Or.inr <| ⟨hc874, hc911⟩), rfl, N912, rfl⟩
    · rcases pC835 with q0 | ⟨q0, q1⟩
      · exact absurd q0 hc874
      · exact absurd q1 hc911
def Q21 (Z : State) (a949 : Addr) (a954 : Addr) (k965 : ClassId) (p956 : Int32) (p957 : Int32) (p958 : Int32) (p959 : Int32) (p960 : Int32) (p961 : Int32) (p962 : Int32) (p963 : Int32) (p964 : Int32) (h0 : Heap) (n0 : Nat) (v : Option Value) (h : Heap) (L : List Loc) : Prop := v = some (.int p959) ∧ Fr n0 L ∧ h = h0
set_option maxRecDepth 65536 in
set_option maxHeartbeats 40000000 in
theorem rm21 (l : Launch) (Z : State) (a0 : Array Value) (hw : ∀ d ∈ tables_1, d.before a0 Z = true) (ws : List Jvm.Cond) (a949 : Addr) (a954 : Addr) (k965 : ClassId) (p956 : Int32) (p957 : Int32) (p958 : Int32) (p959 : Int32) (p960 : Int32) (p961 : Int32) (p962 : Int32) (p963 : Int32) (p964 : Int32) (h0 : Heap) (n0 : Nat) (O0 : Old Z n0 h0) (pF_a949_first : Fld Z h0 a949 zs1 "first" "[I" (.ref a954)) (pV_a954 : Arv Z h0 a954 k965 .int (16 : Int32) [(.int p956), (.int p957), (.int p958), (.int p959), (.int p960), (.int p961), (.int p962), (.int p963), (.int p964)] (.int (0 : Int32))) :
    MetFree l (⟨zs1, "get", "(I)I"⟩ : MethodName) (head1 (Jvm.Cond.code (⟨zs1, "get", "(I)I"⟩ : MethodName) prog_17_method_28_code 2 (some .int) :: ws) ({ frames := 0, cells := 0, slots := 0, locals := 0 } : Room)) (fun a U => a = #[(.ref a949), (.int (3 : Int32))] ∧ Z.Warmed39 U.vm ∧ U.heap = h0) (fun _ _ _ _ _ => True) (fun _ U o U' => ∃ v L, o = .returned v ∧ Q21 Z a949 a954 k965 p956 p957 p958 p959 p960 p961 p962 p963 p964 h0 n0 v U'.heap L ∧ FrameEnd U o U' L ({ frames := 0, cells := 0, slots := 0, locals := 0 } : Room).cells ({ frames := 0, cells := 0, slots := 0, locals := 0 } : Room).slots) := by
  refine MetFree.of_bodySF (plainFor_of_name pn_1) hisR ?_
  intro p e s m args below meth c s₁ Bd hml0 hP hK
  obtain ⟨rfl, hZ, hh⟩ := hP
  have hx := Bd.exec
  have hby := Bd.bytes
  have hml : c.maxLocals = 2 := hml0
  have hown : s.vm.findClass zs1 = some m.cls := findClass_of_methodNamed Bd.named
  have hnm := (name_of_methodNamed Bd.named Bd.method).1
  have X0 : Stand p l e ({ frames := 0, cells := 0, slots := 0, locals := 0 } : Room) s m #[(.ref a949), (.int (3 : Int32))] below meth c s₁ [] 0 0 := Stand.of_body Bd
  have e0 : s₁.heap = h0 := by rw [← hh, Bd.state]; rfl
  have N0 := Fr.nil n0
  refine own_out ?_
  refine own_via (fun t k => castTop (ef_8 m a949 (3 : Int32)) (XS.iloadN X0.here hx rfl (hb hby d10_0) rfl (XS.sipush X0.here hx rfl (hb hby d10_1) (XS.icmpNo X0.here hx rfl (hb hby d10_4) rfl (tlt (by decide : (3 : Int32) < (16384 : Int32))).2.1 (XS.aloadN X0.here hx rfl (hb hby d10_7) rfl rfl k))))) ?_
  show own_Goes p e below (s₁.setTop (mkF m 8 #[rv a949, iv (3 : Int32)] [(.ref a949)])) _
  obtain ⟨T980, X980, e980, st980⟩ := getF X0 hx hZ hown (host := "") (Or.inl (wd hw 26 rfl)) Via.refl e0 pF_a949_first (g := (mkF m 8 #[rv a949, iv (3 : Int32)] [(.ref a949)])) rfl rfl (hb hby d10_8)
  refine own_via (fun t k => st980 t (XS.iloadN X980.here hx rfl (hb hby d10_11) rfl k)) ?_
  obtain ⟨cl981, Ar981, qq981, S981, M981, H981, G981⟩ := id (pV_a954)
  have hin981 : ¬ ((3 : Int32) < 0 ∨ cl981.slots.size ≤ ((3 : Int32)).toNatClampNeg) := inb_of S981 ⟨by decide, by decide⟩
  refine own_via (fun t k => X980.iaload hx (j := (3 : Int32)) (v := (.int p959)) (by rw [e980]; exact Ar981.1) (State.isArrayOf_alike hZ.alike Ar981.2.1) Ar981.2.2 hin981 (Has.at H981 hin981 rfl) (g := (mkF m 12 #[rv a949, iv (3 : Int32)] [(.int (3 : Int32)), (.ref a954)])) rfl rfl (hb hby d10_12) t (XS.goto X980.here hx rfl (pc0 := 13) (pc' := 31) rfl (hb hby d10_13) (by decide) (by decide) k)) ?_
  obtain ⟨fs, hr, hrun, hended, hW, hsame⟩ := X980.leave (v := some (.int p959)) (fun h => by rw [Bd.returns] at h; cases h)
  refine own_end (t := T980.setFrames fs) ?_ ⟨_, hrun, hended, _, _, rfl, ?_, ⟨_, rfl⟩, hW, hsame.mono (by decide) (by decide)⟩
  · exact retI X980 hx Bd.returns (hb hby d10_31) hr
  · show Q21 Z a949 a954 k965 p956 p957 p958 p959 p960 p961 p962 p963 p964 h0 n0 _ T980.heap _
    rw [e980]
    exact ⟨rfl, N0, rfl⟩
def Q22 (Z : State) (a986 : Addr) (a991 : Addr) (k1002 : ClassId) (p993 : Int32) (p994 : Int32) (p995 : Int32) (p996 : Int32) (p997 : Int32) (p998 : Int32) (p999 : Int32) (p1000 : Int32) (p1001 : Int32) (h0 : Heap) (n0 : Nat) (v : Option Value) (h : Heap) (L : List Loc) : Prop := v = some (.int p997) ∧ Fr n0 L ∧ h = h0
set_option maxRecDepth 65536 in
set_option maxHeartbeats 40000000 in
theorem rm22 (l : Launch) (Z : State) (a0 : Array Value) (hw : ∀ d ∈ tables_1, d.before a0 Z = true) (ws : List Jvm.Cond) (a986 : Addr) (a991 : Addr) (k1002 : ClassId) (p993 : Int32) (p994 : Int32) (p995 : Int32) (p996 : Int32) (p997 : Int32) (p998 : Int32) (p999 : Int32) (p1000 : Int32) (p1001 : Int32) (h0 : Heap) (n0 : Nat) (O0 : Old Z n0 h0) (pF_a986_first : Fld Z h0 a986 zs1 "first" "[I" (.ref a991)) (pV_a991 : Arv Z h0 a991 k1002 .int (16 : Int32) [(.int p993), (.int p994), (.int p995), (.int p996), (.int p997), (.int p998), (.int p999), (.int p1000), (.int p1001)] (.int (0 : Int32))) :
    MetFree l (⟨zs1, "get", "(I)I"⟩ : MethodName) (head1 (Jvm.Cond.code (⟨zs1, "get", "(I)I"⟩ : MethodName) prog_17_method_28_code 2 (some .int) :: ws) ({ frames := 0, cells := 0, slots := 0, locals := 0 } : Room)) (fun a U => a = #[(.ref a986), (.int (4 : Int32))] ∧ Z.Warmed39 U.vm ∧ U.heap = h0) (fun _ _ _ _ _ => True) (fun _ U o U' => ∃ v L, o = .returned v ∧ Q22 Z a986 a991 k1002 p993 p994 p995 p996 p997 p998 p999 p1000 p1001 h0 n0 v U'.heap L ∧ FrameEnd U o U' L ({ frames := 0, cells := 0, slots := 0, locals := 0 } : Room).cells ({ frames := 0, cells := 0, slots := 0, locals := 0 } : Room).slots) := by
  refine MetFree.of_bodySF (plainFor_of_name pn_1) hisR ?_
  intro p e s m args below meth c s₁ Bd hml0 hP hK
  obtain ⟨rfl, hZ, hh⟩ := hP
  have hx := Bd.exec
  have hby := Bd.bytes
  have hml : c.maxLocals = 2 := hml0
  have hown : s.vm.findClass zs1 = some m.cls := findClass_of_methodNamed Bd.named
  have hnm := (name_of_methodNamed Bd.named Bd.method).1
  have X0 : Stand p l e ({ frames := 0, cells := 0, slots := 0, locals := 0 } : Room) s m #[(.ref a986), (.int (4 : Int32))] below meth c s₁ [] 0 0 := Stand.of_body Bd
  have e0 : s₁.heap = h0 := by rw [← hh, Bd.state]; rfl
  have N0 := Fr.nil n0
  refine own_out ?_
  refine own_via (fun t k => castTop (ef_8 m a986 (4 : Int32)) (XS.iloadN X0.here hx rfl (hb hby d10_0) rfl (XS.sipush X0.here hx rfl (hb hby d10_1) (XS.icmpNo X0.here hx rfl (hb hby d10_4) rfl (tlt (by decide : (4 : Int32) < (16384 : Int32))).2.1 (XS.aloadN X0.here hx rfl (hb hby d10_7) rfl rfl k))))) ?_
  show own_Goes p e below (s₁.setTop (mkF m 8 #[rv a986, iv (4 : Int32)] [(.ref a986)])) _
  obtain ⟨T1018, X1018, e1018, st1018⟩ := getF X0 hx hZ hown (host := "") (Or.inl (wd hw 26 rfl)) Via.refl e0 pF_a986_first (g := (mkF m 8 #[rv a986, iv (4 : Int32)] [(.ref a986)])) rfl rfl (hb hby d10_8)
  refine own_via (fun t k => st1018 t (XS.iloadN X1018.here hx rfl (hb hby d10_11) rfl k)) ?_
  obtain ⟨cl1019, Ar1019, qq1019, S1019, M1019, H1019, G1019⟩ := id (pV_a991)
  have hin1019 : ¬ ((4 : Int32) < 0 ∨ cl1019.slots.size ≤ ((4 : Int32)).toNatClampNeg) := inb_of S1019 ⟨by decide, by decide⟩
  refine own_via (fun t k => X1018.iaload hx (j := (4 : Int32)) (v := (.int p997)) (by rw [e1018]; exact Ar1019.1) (State.isArrayOf_alike hZ.alike Ar1019.2.1) Ar1019.2.2 hin1019 (Has.at H1019 hin1019 rfl) (g := (mkF m 12 #[rv a986, iv (4 : Int32)] [(.int (4 : Int32)), (.ref a991)])) rfl rfl (hb hby d10_12) t (XS.goto X1018.here hx rfl (pc0 := 13) (pc' := 31) rfl (hb hby d10_13) (by decide) (by decide) k)) ?_
  obtain ⟨fs, hr, hrun, hended, hW, hsame⟩ := X1018.leave (v := some (.int p997)) (fun h => by rw [Bd.returns] at h; cases h)
  refine own_end (t := T1018.setFrames fs) ?_ ⟨_, hrun, hended, _, _, rfl, ?_, ⟨_, rfl⟩, hW, hsame.mono (by decide) (by decide)⟩
  · exact retI X1018 hx Bd.returns (hb hby d10_31) hr
  · show Q22 Z a986 a991 k1002 p993 p994 p995 p996 p997 p998 p999 p1000 p1001 h0 n0 _ T1018.heap _
    rw [e1018]
    exact ⟨rfl, N0, rfl⟩
def Q23 (Z : State) (a917 : Addr) (a918 : Addr) (a922 : Addr) (k932 : ClassId) (p924 : Int32) (p925 : Int32) (p926 : Int32) (p927 : Int32) (p928 : Int32) (p929 : Int32) (p930 : Int32) (p931 : Int32) (k921 : ClassId) (p919 : Int32) (p920 : Int32) (h0 : Heap) (n0 : Nat) (v : Option Value) (h : Heap) (L : List Loc) : Prop := ((p920 = (123 : Int32)) ∨ (¬ (p920 = (123 : Int32)) ∧ p920 = (91 : Int32))) ∧ v = some (.int p927) ∧ Fr n0 L ∧ h = h0
set_option maxRecDepth 65536 in
set_option maxHeartbeats 40000000 in
theorem rm23 (l : Launch) (Z : State) (a0 : Array Value) (hw : ∀ d ∈ tables_1, d.before a0 Z = true) (ws : List Jvm.Cond) (a917 : Addr) (a918 : Addr) (a922 : Addr) (k932 : ClassId) (p924 : Int32) (p925 : Int32) (p926 : Int32) (p927 : Int32) (p928 : Int32) (p929 : Int32) (p930 : Int32) (p931 : Int32) (k921 : ClassId) (p919 : Int32) (p920 : Int32) (h0 : Heap) (n0 : Nat) (O0 : Old Z n0 h0) (pF_a917_text : Fld Z h0 a917 zs1 "text" "[B" (.ref a918)) (pF_a917_first : Fld Z h0 a917 zs1 "first" "[I" (.ref a922)) (pV_a922 : Arv Z h0 a922 k932 .int (16 : Int32) [(.int p924), (.int p925), (.int p926), (.int (1 : Int32)), (.int p927), (.int p928), (.int p929), (.int p930), (.int p931)] (.int (0 : Int32))) (pE_a917 : Exa Z h0 a917 zs1) (pV_a918 : Arv Z h0 a918 k921 .byte (2 : Int32) [(.int p919), (.int p920)] (.int (0 : Int32))) (pC946 : (p920 = (123 : Int32)) ∨ (¬ (p920 = (123 : Int32)) ∧ p920 = (91 : Int32))) :
    MetFree l (⟨zs1, "next", "(I)I"⟩ : MethodName) (head1 (Jvm.Cond.code (⟨zs1, "next", "(I)I"⟩ : MethodName) prog_17_method_10_code 3 (some .int) :: ws) ({ frames := 1, cells := 0, slots := 0, locals := 14 } : Room)) (fun a U => a = #[(.ref a917), (.int (3 : Int32))] ∧ Z.Warmed39 U.vm ∧ U.heap = h0) (fun _ _ _ _ _ => True) (fun _ U o U' => ∃ v L, o = .returned v ∧ Q23 Z a917 a918 a922 k932 p924 p925 p926 p927 p928 p929 p930 p931 k921 p919 p920 h0 n0 v U'.heap L ∧ FrameEnd U o U' L ({ frames := 1, cells := 0, slots := 0, locals := 14 } : Room).cells ({ frames := 1, cells := 0, slots := 0, locals := 14 } : Room).slots) := by
  refine MetFree.of_bodySF (plainFor_of_name pn_1) hisR ?_
  intro p e s m args below meth c s₁ Bd hml0 hP hK
  obtain ⟨rfl, hZ, hh⟩ := hP
  have hx := Bd.exec
  have hby := Bd.bytes
  have hml : c.maxLocals = 3 := hml0
  have hown : s.vm.findClass zs1 = some m.cls := findClass_of_methodNamed Bd.named
  have hnm := (name_of_methodNamed Bd.named Bd.method).1
  have X0 : Stand p l e ({ frames := 1, cells := 0, slots := 0, locals := 14 } : Room) s m #[(.ref a917), (.int (3 : Int32))] below meth c s₁ [] 0 0 := Stand.of_body Bd
  have e0 : s₁.heap = h0 := by rw [← hh, Bd.state]; rfl
  have N0 := Fr.nil n0
  refine own_out ?_
  refine own_via (fun t k => castTop (ef_9 m a917 (3 : Int32)) (XS.aloadN X0.here hx rfl (hb hby d9_0) rfl rfl k)) ?_
  obtain ⟨T947, X947, e947, st947⟩ := getF X0 hx hZ hown (host := "") (Or.inl (wd hw 19 rfl)) Via.refl e0 pF_a917_text (g := (mkF m 1 #[rv a917, iv (3 : Int32), .unset] [(.ref a917)])) rfl rfl (hb hby d9_1)
  refine own_via (fun t k => st947 t (XS.aloadN X947.here hx rfl (hb hby d9_4) rfl rfl (XS.iloadN X947.here hx rfl (hb hby d9_5) rfl k))) ?_
  show own_Goes p e below (T947.setTop (mkF m 6 #[rv a917, iv (3 : Int32), .unset] [(.int (3 : Int32)), (.ref a917), (.ref a918)])) _
  obtain ⟨cq948, q948, q948'⟩ := pE_a917.cell
  obtain ⟨_, _, ⟨T948, L948, c948, n948⟩, -, X948, ⟨Lc948, hQ948, l948, y948, z948⟩, st948⟩ := X947.privateBack hx (y := (⟨zs1, "get", "(I)I"⟩ : MethodName)) hown (mvT hZ (wd hw 60 rfl)) (mvT hZ (wd hw 61 rfl)) (own_selPriv (mvT hZ (wd hw 3 rfl)) (mvT hZ (wd hw 61 rfl)) (Cond.privateMethod_at (mvP hZ (wd hw 62 rfl) (args := #[]))) (by decide)) (Cond.privateMethod_at (mvP hZ (wd hw 62 rfl) (args := #[]))) (mvT hZ (wd hw 63 rfl)) (by decide) (backOf (W := 1) (rm21 l Z a0 hw [] a917 a922 k932 p924 p925 p926 (1 : Int32) p927 p928 p929 p930 p931 h0 n0 O0 pF_a917_first pV_a922) hZ (wd hw 63 rfl) (wd hw 4 rfl) (by decide) (by decide)) (g := (mkF m 6 #[rv a917, iv (3 : Int32), .unset] [(.int (3 : Int32)), (.ref a917), (.ref a918)])) rfl (by rw [hml]; rfl) (Steps.refl _) (a := a917) (by rw [e947]; exact q948) q948' (argsL := [(.int (3 : Int32))]) (rest := [(.ref a918)]) (lenOf pd_3 rfl) rfl (by show 2 * 0 + _ ≤ _; exact Nat.le_of_eq rfl) (hb hby d9_6) (fun _ _ => ⟨rfl, e947, (by decide : 0 + 0 ≤ _), (by decide : 0 + 0 ≤ _)⟩)
  dsimp only [Pt.U, Pt.locs, Pt.cells, Pt.slots] at X948 l948 y948 z948 st948 hQ948
  subst l948 y948 z948
  obtain ⟨rfl, Nq948, hh982⟩ := hQ948
  have N948 := Fr.app N0 Nq948
  refine own_via (fun t k => st948.trans k) ?_
  obtain ⟨cl983, Ar983, qq983, S983, M983, H983, G983⟩ := id (pV_a918)
  have hin983 : ¬ ((1 : Int32) < 0 ∨ cl983.slots.size ≤ ((1 : Int32)).toNatClampNeg) := inb_of S983 ⟨by decide, by decide⟩
  refine own_via (fun t k => X948.baloadBytes hx (j := (1 : Int32)) (v := (.int p920)) (by rw [hh982]; exact Ar983.1) (State.isArrayOf_alike hZ.alike Ar983.2.1) Ar983.2.2 hin983 (Has.at H983 hin983 rfl) (g := (mkF m 9 #[rv a917, iv (3 : Int32), .unset] [(.int (1 : Int32)), (.ref a918)])) rfl rfl (hb hby d9_9) t (XS.istoreN X948.here hx rfl (hb hby d9_10) rfl (l' := #[rv a917, iv (3 : Int32), iv p920]) rfl (XS.iloadN X948.here hx rfl (hb hby d9_11) rfl (XS.bipush X948.here hx rfl (hb hby d9_12) k)))) ?_
  show own_Goes p e below (T948.setTop (mkF m 14 #[rv a917, iv (3 : Int32), iv p920] [(.int (123 : Int32)), (.int p920)])) _
  by_cases hc984 : p920 = (123 : Int32)
  · refine own_via (fun t k => XS.icmpYes X948.here hx rfl (pc0 := 14) (pc' := 23) rfl (hb hby d9_14) rfl (teq hc984).1 (by decide) (by decide) (XS.aloadN X948.here hx rfl (hb hby d9_23) rfl rfl (XS.iloadN X948.here hx rfl (hb hby d9_24) rfl (XS.iconst X948.here hx rfl (hb hby d9_25) (XS.iadd X948.here hx rfl (hb hby d9_26) rfl k))))) ?_
    show own_Goes p e below (T948.setTop (mkF m 27 #[rv a917, iv (3 : Int32), iv p920] [(.int (4 : Int32)), (.ref a917)])) _
    obtain ⟨cq985, q985, q985'⟩ := pE_a917.cell
    obtain ⟨_, _, ⟨T985, L985, c985, n985⟩, -, X985, ⟨Lc985, hQ985, l985, y985, z985⟩, st985⟩ := X948.privateBack hx (y := (⟨zs1, "get", "(I)I"⟩ : MethodName)) hown (mvT hZ (wd hw 60 rfl)) (mvT hZ (wd hw 61 rfl)) (own_selPriv (mvT hZ (wd hw 3 rfl)) (mvT hZ (wd hw 61 rfl)) (Cond.privateMethod_at (mvP hZ (wd hw 62 rfl) (args := #[]))) (by decide)) (Cond.privateMethod_at (mvP hZ (wd hw 62 rfl) (args := #[]))) (mvT hZ (wd hw 63 rfl)) (by decide) (backOf (W := 0) (rm22 l Z a0 hw [] a917 a922 k932 p924 p925 p926 (1 : Int32) p927 p928 p929 p930 p931 h0 n0 O0 pF_a917_first pV_a922) hZ (wd hw 63 rfl) (wd hw 4 rfl) (by decide) (by decide)) (g := (mkF m 27 #[rv a917, iv (3 : Int32), iv p920] [(.int (4 : Int32)), (.ref a917)])) rfl (by rw [hml]; rfl) (Steps.refl _) (a := a917) (by rw [hh982]; exact q985) q985' (argsL := [(.int (4 : Int32))]) (rest := []) (lenOf pd_3 rfl) rfl (by show 2 * 0 + _ ≤ _; exact Nat.le_of_eq rfl) (hb hby d9_27) (fun _ _ => ⟨rfl, hh982, (by decide : 0 + 0 ≤ _), (by decide : 0 + 0 ≤ _)⟩)
    dsimp only [Pt.U, Pt.locs, Pt.cells, Pt.slots] at X985 l985 y985 z985 st985 hQ985
    subst l985 y985 z985
    obtain ⟨rfl, Nq985, hh1020⟩ := hQ985
    have N985 := Fr.app N948 Nq985
    refine own_via (fun t k => st985.trans (XS.goto X985.here hx rfl (pc0 := 30) (pc' := 36) rfl (hb hby d9_30) (by decide) (by decide) k)) ?_
    obtain ⟨fs, hr, hrun, hended, hW, hsame⟩ := X985.leave (v := some (.int p927)) (fun h => by rw [Bd.returns] at h; cases h)
    refine own_end (t := T985.setFrames fs) ?_ ⟨_, hrun, hended, _, _, rfl, ?_, ⟨_, rfl⟩, hW, hsame.mono (by decide) (by decide)⟩
    · exact retI X985 hx Bd.returns (hb hby d9_36) hr
    · show Q23 Z a917 a918 a922 k932 p924 p925 p926 p927 p928 p929 p930 p931 k921 p919 p920 h0 n0 _ T985.heap _
      rw [hh1020]
      exact ⟨(Or.inl <| hc984), rfl, N985, rfl⟩
  · refine own_via (fun t k => XS.icmpNo X948.here hx rfl (hb hby d9_14) rfl (feq hc984).1 (XS.iloadN X948.here hx rfl (hb hby d9_17) rfl (XS.bipush X948.here hx rfl (hb hby d9_18) k))) ?_
    show own_Goes p e below (T948.setTop (mkF m 20 #[rv a917, iv (3 : Int32), iv p920] [(.int (91 : Int32)), (.int p920)])) _
    by_cases hc1021 : p920 = (91 : Int32)
    · refine own_via (fun t k => XS.icmpNo X948.here hx rfl (hb hby d9_20) rfl (teq hc1021).2 (XS.aloadN X948.here hx rfl (hb hby d9_23) rfl rfl (XS.iloadN X948.here hx rfl (hb hby d9_24) rfl (XS.iconst X948.here hx rfl (hb hby d9_25) (XS.iadd X948.here hx rfl (hb hby d9_26) rfl k))))) ?_
      show own_Goes p e below (T948.setTop (mkF m 27 #[rv a917, iv (3 : Int32), iv p920] [(.int (4 : Int32)), (.ref a917)])) _
      obtain ⟨cq1022, q1022, q1022'⟩ := pE_a917.cell
      obtain ⟨_, _, ⟨T1022, L1022, c1022, n1022⟩, -, X1022, ⟨Lc1022, hQ1022, l1022, y1022, z1022⟩, st1022⟩ := X948.privateBack hx (y := (⟨zs1, "get", "(I)I"⟩ : MethodName)) hown (mvT hZ (wd hw 60 rfl)) (mvT hZ (wd hw 61 rfl)) (own_selPriv (mvT hZ (wd hw 3 rfl)) (mvT hZ (wd hw 61 rfl)) (Cond.privateMethod_at (mvP hZ (wd hw 62 rfl) (args := #[]))) (by decide)) (Cond.privateMethod_at (mvP hZ (wd hw 62 rfl) (args := #[]))) (mvT hZ (wd hw 63 rfl)) (by decide) (backOf (W := 0) (rm22 l Z a0 hw [] a917 a922 k932 p924 p925 p926 (1 : Int32) p927 p928 p929 p930 p931 h0 n0 O0 pF_a917_first pV_a922) hZ (wd hw 63 rfl) (wd hw 4 rfl) (by decide) (by decide)) (g := (mkF m 27 #[rv a917, iv (3 : Int32), iv p920] [(.int (4 : Int32)), (.ref a917)])) rfl (by rw [hml]; rfl) (Steps.refl _) (a := a917) (by rw [hh982]; exact q1022) q1022' (argsL := [(.int (4 : Int32))]) (rest := []) (lenOf pd_3 rfl) rfl (by show 2 * 0 + _ ≤ _; exact Nat.le_of_eq rfl) (hb hby d9_27) (fun _ _ => ⟨rfl, hh982, (by decide : 0 + 0 ≤ _), (by decide : 0 + 0 ≤ _)⟩)
      dsimp only [Pt.U, Pt.locs, Pt.cells, Pt.slots] at X1022 l1022 y1022 z1022 st1022 hQ1022
      subst l1022 y1022 z1022
      obtain ⟨rfl, Nq1022, hh1023⟩ := hQ1022
      have N1022 := Fr.app N948 Nq1022
      refine own_via (fun t k => st1022.trans (XS.goto X1022.here hx rfl (pc0 := 30) (pc' := 36) rfl (hb hby d9_30) (by decide) (by decide) k)) ?_
      obtain ⟨fs, hr, hrun, hended, hW, hsame⟩ := X1022.leave (v := some (.int p927)) (fun h => by rw [Bd.returns] at h; cases h)
      refine own_end (t := T1022.setFrames fs) ?_ ⟨_, hrun, hended, _, _, rfl, ?_, ⟨_, rfl⟩, hW, hsame.mono (by decide) (by decide)⟩
      · exact retI X1022 hx Bd.returns (hb hby d9_36) hr
      · show Q23 Z a917 a918 a922 k932 p924 p925 p926 p927 p928 p929 p930 p931 k921 p919 p920 h0 n0 _ T1022.heap _
        rw [hh1023]
        exact ⟨(Or.inr <| ⟨hc984, hc1021⟩), rfl, N1022, rfl⟩
    · rcases pC946 with q0 | ⟨q0, q1⟩
      · exact absurd q0 hc984
      · exact absurd q1 hc1021
theorem d9_33 : decode prog_17_method_10_code 33 = .ok (.iload_n 1, 1) := by decide +kernel
theorem d9_34 : decode prog_17_method_10_code 34 = .ok (.iconst 1, 1) := by decide +kernel
theorem d9_35 : decode prog_17_method_10_code 35 = .ok (.iadd, 1) := by decide +kernel
def Q24 (Z : State) (a1030 : Addr) (a1031 : Addr) (a1035 : Addr) (k1045 : ClassId) (p1037 : Int32) (p1038 : Int32) (p1039 : Int32) (p1040 : Int32) (p1041 : Int32) (p1042 : Int32) (p1043 : Int32) (p1044 : Int32) (k1034 : ClassId) (p1032 : Int32) (p1033 : Int32) (h0 : Heap) (n0 : Nat) (v : Option Value) (h : Heap) (L : List Loc) : Prop := v = some (.int (4 : Int32)) ∧ Fr n0 L ∧ h = h0
set_option maxRecDepth 65536 in
set_option maxHeartbeats 40000000 in
theorem rm24 (l : Launch) (Z : State) (a0 : Array Value) (hw : ∀ d ∈ tables_1, d.before a0 Z = true) (ws : List Jvm.Cond) (a1030 : Addr) (a1031 : Addr) (a1035 : Addr) (k1045 : ClassId) (p1037 : Int32) (p1038 : Int32) (p1039 : Int32) (p1040 : Int32) (p1041 : Int32) (p1042 : Int32) (p1043 : Int32) (p1044 : Int32) (k1034 : ClassId) (p1032 : Int32) (p1033 : Int32) (h0 : Heap) (n0 : Nat) (O0 : Old Z n0 h0) (pF_a1030_text : Fld Z h0 a1030 zs1 "text" "[B" (.ref a1031)) (pF_a1030_first : Fld Z h0 a1030 zs1 "first" "[I" (.ref a1035)) (pV_a1035 : Arv Z h0 a1035 k1045 .int (16 : Int32) [(.int p1037), (.int p1038), (.int p1039), (.int (1 : Int32)), (.int p1040), (.int p1041), (.int p1042), (.int p1043), (.int p1044)] (.int (0 : Int32))) (pE_a1030 : Exa Z h0 a1030 zs1) (pV_a1031 : Arv Z h0 a1031 k1034 .byte (2 : Int32) [(.int p1032), (.int p1033)] (.int (0 : Int32))) (pC1059 : ¬ (p1033 = (123 : Int32))) (pC1060 : ¬ (p1033 = (91 : Int32))) :
    MetFree l (⟨zs1, "next", "(I)I"⟩ : MethodName) (head1 (Jvm.Cond.code (⟨zs1, "next", "(I)I"⟩ : MethodName) prog_17_method_10_code 3 (some .int) :: ws) ({ frames := 1, cells := 0, slots := 0, locals := 14 } : Room)) (fun a U => a = #[(.ref a1030), (.int (3 : Int32))] ∧ Z.Warmed39 U.vm ∧ U.heap = h0) (fun _ _ _ _ _ => True) (fun _ U o U' => ∃ v L, o = .returned v ∧ Q24 Z a1030 a1031 a1035 k1045 p1037 p1038 p1039 p1040 p1041 p1042 p1043 p1044 k1034 p1032 p1033 h0 n0 v U'.heap L ∧ FrameEnd U o U' L ({ frames := 1, cells := 0, slots := 0, locals := 14 } : Room).cells ({ frames := 1, cells := 0, slots := 0, locals := 14 } : Room).slots) := by
  refine MetFree.of_bodySF (plainFor_of_name pn_1) hisR ?_
  intro p e s m args below meth c s₁ Bd hml0 hP hK
  obtain ⟨rfl, hZ, hh⟩ := hP
  have hx := Bd.exec
  have hby := Bd.bytes
  have hml : c.maxLocals = 3 := hml0
  have hown : s.vm.findClass zs1 = some m.cls := findClass_of_methodNamed Bd.named
  have hnm := (name_of_methodNamed Bd.named Bd.method).1
  have X0 : Stand p l e ({ frames := 1, cells := 0, slots := 0, locals := 14 } : Room) s m #[(.ref a1030), (.int (3 : Int32))] below meth c s₁ [] 0 0 := Stand.of_body Bd
  have e0 : s₁.heap = h0 := by rw [← hh, Bd.state]; rfl
  have N0 := Fr.nil n0
  refine own_out ?_
  refine own_via (fun t k => castTop (ef_9 m a1030 (3 : Int32)) (XS.aloadN X0.here hx rfl (hb hby d9_0) rfl rfl k)) ?_
  obtain ⟨T1061, X1061, e1061, st1061⟩ := getF X0 hx hZ hown (host := "") (Or.inl (wd hw 19 rfl)) Via.refl e0 pF_a1030_text (g := (mkF m 1 #[rv a1030, iv (3 : Int32), .unset] [(.ref a1030)])) rfl rfl (hb hby d9_1)
  refine own_via (fun t k => st1061 t (XS.aloadN X1061.here hx rfl (hb hby d9_4) rfl rfl (XS.iloadN X1061.here hx rfl (hb hby d9_5) rfl k))) ?_
  show own_Goes p e below (T1061.setTop (mkF m 6 #[rv a1030, iv (3 : Int32), .unset] [(.int (3 : Int32)), (.ref a1030), (.ref a1031)])) _
  obtain ⟨cq1062, q1062, q1062'⟩ := pE_a1030.cell
  obtain ⟨_, _, ⟨T1062, L1062, c1062, n1062⟩, -, X1062, ⟨Lc1062, hQ1062, l1062, y1062, z1062⟩, st1062⟩ := X1061.privateBack hx (y := (⟨zs1, "get", "(I)I"⟩ : MethodName)) hown (mvT hZ (wd hw 60 rfl)) (mvT hZ (wd hw 61 rfl)) (own_selPriv (mvT hZ (wd hw 3 rfl)) (mvT hZ (wd hw 61 rfl)) (Cond.privateMethod_at (mvP hZ (wd hw 62 rfl) (args := #[]))) (by decide)) (Cond.privateMethod_at (mvP hZ (wd hw 62 rfl) (args := #[]))) (mvT hZ (wd hw 63 rfl)) (by decide) (backOf (W := 1) (rm21 l Z a0 hw [] a1030 a1035 k1045 p1037 p1038 p1039 (1 : Int32) p1040 p1041 p1042 p1043 p1044 h0 n0 O0 pF_a1030_first pV_a1035) hZ (wd hw 63 rfl) (wd hw 4 rfl) (by decide) (by decide)) (g := (mkF m 6 #[rv a1030, iv (3 : Int32), .unset] [(.int (3 : Int32)), (.ref a1030), (.ref a1031)])) rfl (by rw [hml]; rfl) (Steps.refl _) (a := a1030) (by rw [e1061]; exact q1062) q1062' (argsL := [(.int (3 : Int32))]) (rest := [(.ref a1031)]) (lenOf pd_3 rfl) rfl (by show 2 * 0 + _ ≤ _; exact Nat.le_of_eq rfl) (hb hby d9_6) (fun _ _ => ⟨rfl, e1061, (by decide : 0 + 0 ≤ _), (by decide : 0 + 0 ≤ _)⟩)
  dsimp only [Pt.U, Pt.locs, Pt.cells, Pt.slots] at X1062 l1062 y1062 z1062 st1062 hQ1062
  subst l1062 y1062 z1062
  obtain ⟨rfl, Nq1062, hh1063⟩ := hQ1062
  have N1062 := Fr.app N0 Nq1062
  refine own_via (fun t k => st1062.trans k) ?_
  obtain ⟨cl1064, Ar1064, qq1064, S1064, M1064, H1064, G1064⟩ := id (pV_a1031)
  have hin1064 : ¬ ((1 : Int32) < 0 ∨ cl1064.slots.size ≤ ((1 : Int32)).toNatClampNeg) := inb_of S1064 ⟨by decide, by decide⟩
  refine own_via (fun t k => X1062.baloadBytes hx (j := (1 : Int32)) (v := (.int p1033)) (by rw [hh1063]; exact Ar1064.1) (State.isArrayOf_alike hZ.alike Ar1064.2.1) Ar1064.2.2 hin1064 (Has.at H1064 hin1064 rfl) (g := (mkF m 9 #[rv a1030, iv (3 : Int32), .unset] [(.int (1 : Int32)), (.ref a1031)])) rfl rfl (hb hby d9_9) t (XS.istoreN X1062.here hx rfl (hb hby d9_10) rfl (l' := #[rv a1030, iv (3 : Int32), iv p1033]) rfl (XS.iloadN X1062.here hx rfl (hb hby d9_11) rfl (XS.bipush X1062.here hx rfl (hb hby d9_12) (XS.icmpNo X1062.here hx rfl (hb hby d9_14) rfl (feq pC1059).1 (XS.iloadN X1062.here hx rfl (hb hby d9_17) rfl (XS.bipush X1062.here hx rfl (hb hby d9_18) (XS.icmpYes X1062.here hx rfl (pc0 := 20) (pc' := 33) rfl (hb hby d9_20) rfl (feq pC1060).2 (by decide) (by decide) (XS.iloadN X1062.here hx rfl (hb hby d9_33) rfl (XS.iconst X1062.here hx rfl (hb hby d9_34) (XS.iadd X1062.here hx rfl (hb hby d9_35) rfl k))))))))))) ?_
  show own_Goes p e below (T1062.setTop (mkF m 36 #[rv a1030, iv (3 : Int32), iv p1033] [(.int (4 : Int32))])) _
  obtain ⟨fs, hr, hrun, hended, hW, hsame⟩ := X1062.leave (v := some (.int (4 : Int32))) (fun h => by rw [Bd.returns] at h; cases h)
  refine own_end (t := T1062.setFrames fs) ?_ ⟨_, hrun, hended, _, _, rfl, ?_, ⟨_, rfl⟩, hW, hsame.mono (by decide) (by decide)⟩
  · exact retI X1062 hx Bd.returns (hb hby d9_36) hr
  · show Q24 Z a1030 a1031 a1035 k1045 p1037 p1038 p1039 p1040 p1041 p1042 p1043 p1044 k1034 p1032 p1033 h0 n0 _ T1062.heap _
    rw [hh1063]
    exact ⟨rfl, N1062, rfl⟩
def Q25 (Z : State) (a1073 : Addr) (a1074 : Addr) (a1078 : Addr) (k1088 : ClassId) (p1080 : Int32) (p1081 : Int32) (p1082 : Int32) (p1083 : Int32) (p1084 : Int32) (p1085 : Int32) (p1086 : Int32) (p1087 : Int32) (k1077 : ClassId) (p1075 : Int32) (p1076 : Int32) (h0 : Heap) (n0 : Nat) (v : Option Value) (h : Heap) (L : List Loc) : Prop := v = some (.int (1 : Int32)) ∧ Fr n0 L ∧ h = h0
set_option maxRecDepth 65536 in
set_option maxHeartbeats 40000000 in
theorem rm25 (l : Launch) (Z : State) (a0 : Array Value) (hw : ∀ d ∈ tables_1, d.before a0 Z = true) (ws : List Jvm.Cond) (a1073 : Addr) (a1074 : Addr) (a1078 : Addr) (k1088 : ClassId) (p1080 : Int32) (p1081 : Int32) (p1082 : Int32) (p1083 : Int32) (p1084 : Int32) (p1085 : Int32) (p1086 : Int32) (p1087 : Int32) (k1077 : ClassId) (p1075 : Int32) (p1076 : Int32) (h0 : Heap) (n0 : Nat) (O0 : Old Z n0 h0) (pF_a1073_text : Fld Z h0 a1073 zs1 "text" "[B" (.ref a1074)) (pF_a1073_first : Fld Z h0 a1073 zs1 "first" "[I" (.ref a1078)) (pV_a1078 : Arv Z h0 a1078 k1088 .int (16 : Int32) [(.int (0 : Int32)), (.int p1080), (.int p1081), (.int p1082), (.int p1083), (.int p1084), (.int p1085), (.int p1086), (.int p1087)] (.int (0 : Int32))) (pE_a1073 : Exa Z h0 a1073 zs1) (pV_a1074 : Arv Z h0 a1074 k1077 .byte (2 : Int32) [(.int p1075), (.int p1076)] (.int (0 : Int32))) (pC1101 : ¬ (p1075 = (123 : Int32))) (pC1102 : ¬ (p1075 = (91 : Int32))) :
    MetFree l (⟨zs1, "next", "(I)I"⟩ : MethodName) (head1 (Jvm.Cond.code (⟨zs1, "next", "(I)I"⟩ : MethodName) prog_17_method_10_code 3 (some .int) :: ws) ({ frames := 1, cells := 0, slots := 0, locals := 14 } : Room)) (fun a U => a = #[(.ref a1073), (.int (0 : Int32))] ∧ Z.Warmed39 U.vm ∧ U.heap = h0) (fun _ _ _ _ _ => True) (fun _ U o U' => ∃ v L, o = .returned v ∧ Q25 Z a1073 a1074 a1078 k1088 p1080 p1081 p1082 p1083 p1084 p1085 p1086 p1087 k1077 p1075 p1076 h0 n0 v U'.heap L ∧ FrameEnd U o U' L ({ frames := 1, cells := 0, slots := 0, locals := 14 } : Room).cells ({ frames := 1, cells := 0, slots := 0, locals := 14 } : Room).slots) := by
  refine MetFree.of_bodySF (plainFor_of_name pn_1) hisR ?_
  intro p e s m args below meth c s₁ Bd hml0 hP hK
  obtain ⟨rfl, hZ, hh⟩ := hP
  have hx := Bd.exec
  have hby := Bd.bytes
  have hml : c.maxLocals = 3 := hml0
  have hown : s.vm.findClass zs1 = some m.cls := findClass_of_methodNamed Bd.named
  have hnm := (name_of_methodNamed Bd.named Bd.method).1
  have X0 : Stand p l e ({ frames := 1, cells := 0, slots := 0, locals := 14 } : Room) s m #[(.ref a1073), (.int (0 : Int32))] below meth c s₁ [] 0 0 := Stand.of_body Bd
  have e0 : s₁.heap = h0 := by rw [← hh, Bd.state]; rfl
  have N0 := Fr.nil n0
  refine own_out ?_
  refine own_via (fun t k => castTop (ef_9 m a1073 (0 : Int32)) (XS.aloadN X0.here hx rfl (hb hby d9_0) rfl rfl k)) ?_
  obtain ⟨T1104, X1104, e1104, st1104⟩ := getF X0 hx hZ hown (host := "") (Or.inl (wd hw 19 rfl)) Via.refl e0 pF_a1073_text (g := (mkF m 1 #[rv a1073, iv (0 : Int32), .unset] [(.ref a1073)])) rfl rfl (hb hby d9_1)
  refine own_via (fun t k => st1104 t (XS.aloadN X1104.here hx rfl (hb hby d9_4) rfl rfl (XS.iloadN X1104.here hx rfl (hb hby d9_5) rfl k))) ?_
  show own_Goes p e below (T1104.setTop (mkF m 6 #[rv a1073, iv (0 : Int32), .unset] [(.int (0 : Int32)), (.ref a1073), (.ref a1074)])) _
  obtain ⟨cq1105, q1105, q1105'⟩ := pE_a1073.cell
  obtain ⟨_, _, ⟨T1105, L1105, c1105, n1105⟩, -, X1105, ⟨Lc1105, hQ1105, l1105, y1105, z1105⟩, st1105⟩ := X1104.privateBack hx (y := (⟨zs1, "get", "(I)I"⟩ : MethodName)) hown (mvT hZ (wd hw 60 rfl)) (mvT hZ (wd hw 61 rfl)) (own_selPriv (mvT hZ (wd hw 3 rfl)) (mvT hZ (wd hw 61 rfl)) (Cond.privateMethod_at (mvP hZ (wd hw 62 rfl) (args := #[]))) (by decide)) (Cond.privateMethod_at (mvP hZ (wd hw 62 rfl) (args := #[]))) (mvT hZ (wd hw 63 rfl)) (by decide) (backOf (W := 1) (rm18 l Z a0 hw [] a1073 a1078 k1088 (0 : Int32) p1080 p1081 p1082 p1083 p1084 p1085 p1086 p1087 h0 n0 O0 pF_a1073_first pV_a1078) hZ (wd hw 63 rfl) (wd hw 4 rfl) (by decide) (by decide)) (g := (mkF m 6 #[rv a1073, iv (0 : Int32), .unset] [(.int (0 : Int32)), (.ref a1073), (.ref a1074)])) rfl (by rw [hml]; rfl) (Steps.refl _) (a := a1073) (by rw [e1104]; exact q1105) q1105' (argsL := [(.int (0 : Int32))]) (rest := [(.ref a1074)]) (lenOf pd_3 rfl) rfl (by show 2 * 0 + _ ≤ _; exact Nat.le_of_eq rfl) (hb hby d9_6) (fun _ _ => ⟨rfl, e1104, (by decide : 0 + 0 ≤ _), (by decide : 0 + 0 ≤ _)⟩)
  dsimp only [Pt.U, Pt.locs, Pt.cells, Pt.slots] at X1105 l1105 y1105 z1105 st1105 hQ1105
  subst l1105 y1105 z1105
  obtain ⟨rfl, Nq1105, hh1106⟩ := hQ1105
  have N1105 := Fr.app N0 Nq1105
  refine own_via (fun t k => st1105.trans k) ?_
  obtain ⟨cl1107, Ar1107, qq1107, S1107, M1107, H1107, G1107⟩ := id (pV_a1074)
  have hin1107 : ¬ ((0 : Int32) < 0 ∨ cl1107.slots.size ≤ ((0 : Int32)).toNatClampNeg) := inb_of S1107 ⟨by decide, by decide⟩
  refine own_via (fun t k => X1105.baloadBytes hx (j := (0 : Int32)) (v := (.int p1075)) (by rw [hh1106]; exact Ar1107.1) (State.isArrayOf_alike hZ.alike Ar1107.2.1) Ar1107.2.2 hin1107 (Has.at H1107 hin1107 rfl) (g := (mkF m 9 #[rv a1073, iv (0 : Int32), .unset] [(.int (0 : Int32)), (.ref a1074)])) rfl rfl (hb hby d9_9) t (XS.istoreN X1105.here hx rfl (hb hby d9_10) rfl (l' := #[rv a1073, iv (0 : Int32), iv p1075]) rfl (XS.iloadN X1105.here hx rfl (hb hby d9_11) rfl (XS.bipush X1105.here hx rfl (hb hby d9_12) (XS.icmpNo X1105.here hx rfl (hb hby d9_14) rfl (feq pC1101).1 (XS.iloadN X1105.here hx rfl (hb hby d9_17) rfl (XS.bipush X1105.here hx rfl (hb hby d9_18) (XS.icmpYes X1105.here hx rfl (pc0 := 20) (pc' := 33) rfl (hb hby d9_20) rfl (feq pC1102).2 (by decide) (by decide) (XS.iloadN X1105.here hx rfl (hb hby d9_33) rfl (XS.iconst X1105.here hx rfl (hb hby d9_34) (XS.iadd X1105.here hx rfl (hb hby d9_35) rfl k))))))))))) ?_
  show own_Goes p e below (T1105.setTop (mkF m 36 #[rv a1073, iv (0 : Int32), iv p1075] [(.int (1 : Int32))])) _
  obtain ⟨fs, hr, hrun, hended, hW, hsame⟩ := X1105.leave (v := some (.int (1 : Int32))) (fun h => by rw [Bd.returns] at h; cases h)
  refine own_end (t := T1105.setFrames fs) ?_ ⟨_, hrun, hended, _, _, rfl, ?_, ⟨_, rfl⟩, hW, hsame.mono (by decide) (by decide)⟩
  · exact retI X1105 hx Bd.returns (hb hby d9_36) hr
  · show Q25 Z a1073 a1074 a1078 k1088 p1080 p1081 p1082 p1083 p1084 p1085 p1086 p1087 k1077 p1075 p1076 h0 n0 _ T1105.heap _
    rw [hh1106]
    exact ⟨rfl, N1105, rfl⟩
set_option maxRecDepth 65536 in
set_option maxHeartbeats 40000000 in
theorem sfx1 (l : Launch) (Z : State) (a0 : Array Value) (hw : ∀ d ∈ tables_1, d.before a0 Z = true) (ws : List Jvm.Cond) {p : Program} {e : Env} {s : State} {m : MethodId} {below : List Frame} {meth : Method} {c : Code} {s₁ : State} (p744 : Int32) (p745 : Int32) (p746 : Int32) (p736 : Int32) (p737 : Int32) (p738 : Int32) (p739 : Int32) (p740 : Int32) (a741 : Addr) (p742 : Int32) (a743 : Addr) (a748 : Addr) (k751 : ClassId) (p749 : Int32) (p750 : Int32) (k747 : ClassId) (Bd : BodyLoose p l x (head1 (Jvm.Cond.code x code maxLocals ret :: ws) room_1) code maxLocals ret e s m #[(.int p744), (.int p745), (.int p746)] below meth c s₁) (hZ : Z.Warmed39 s.vm) (hml : c.maxLocals = 18) {T0 : State} {locs0 : List Loc} (X0 : Stand p l e room_1 s m #[(.int p744), (.int p745), (.int p746)] below meth c T0 locs0 8 120) (h0 : Heap) (e0 : T0.heap = h0) (n0 : Nat) (O0 : Old Z n0 h0) (N0 : Fr n0 locs0) (pF_a743_text : Fld Z h0 a743 zs1 "text" "[B" (.ref a741)) (pF_a743_first : Fld Z h0 a743 zs1 "first" "[I" (.ref a748)) (pV_a748 : Arv Z h0 a748 k751 .int (16 : Int32) [(.int (0 : Int32)), (.int (6 : Int32)), (.int p749), (.int (1 : Int32)), (.int (6 : Int32)), (.int p750), (.int (0 : Int32)), (.int (0 : Int32)), (.int (0 : Int32))] (.int (0 : Int32))) (pE_a743 : Exa Z h0 a743 zs1) (pV_a741 : Arv Z h0 a741 k747 .byte (2 : Int32) [(.int p739), (.int p740)] (.int (0 : Int32))) :
    own_Goes p e below (T0.setTop (mkF m 139 #[iv p736, iv p737, iv p738, iv p739, iv p740, rv a741, iv (0 : Int32), iv (0 : Int32), iv p742, rv a743, iv (0 : Int32), iv (3 : Int32), .unset, .unset, .unset, .unset, .unset, .unset] [])) (own_G s below n0) := by
  have hx := Bd.exec
  have hby := Bd.bytes
  have hown : s.vm.findClass zs2 = some m.cls := findClass_of_methodNamed Bd.named
  have hnm := (name_of_methodNamed Bd.named Bd.method).1
  show own_Goes p e below (T0.setTop (mkF m 139 #[iv p736, iv p737, iv p738, iv p739, iv p740, rv a741, iv (0 : Int32), iv (0 : Int32), iv p742, rv a743, iv (0 : Int32), iv (3 : Int32), .unset, .unset, .unset, .unset, .unset, .unset] [])) _
  refine own_via (fun t k => XS.bipush X0.here hx rfl (hb hby at_139) (XS.iload X0.here hx rfl (hb hby at_141) rfl (XS.iadd X0.here hx rfl (hb hby at_143) rfl (XS.istore X0.here hx rfl (hb hby at_144) rfl (l' := #[iv p736, iv p737, iv p738, iv p739, iv p740, rv a741, iv (0 : Int32), iv (0 : Int32), iv p742, rv a743, iv (0 : Int32), iv (3 : Int32), iv (6 : Int32), .unset, .unset, .unset, .unset, .unset]) rfl (XS.bipush X0.here hx rfl (hb hby at_146) (XS.iload X0.here hx rfl (hb hby at_148) rfl (XS.iadd X0.here hx rfl (hb hby at_150) rfl (XS.iload X0.here hx rfl (hb hby at_151) rfl (XS.iadd X0.here hx rfl (hb hby at_153) rfl (XS.istore X0.here hx rfl (hb hby at_154) rfl (l' := #[iv p736, iv p737, iv p738, iv p739, iv p740, rv a741, iv (0 : Int32), iv (0 : Int32), iv p742, rv a743, iv (0 : Int32), iv (3 : Int32), iv (6 : Int32), iv (6 : Int32), .unset, .unset, .unset, .unset]) rfl (XS.iloadN X0.here hx rfl (hb hby at_156) rfl k))))))))))) ?_
  show own_Goes p e below (T0.setTop (mkF m 157 #[iv p736, iv p737, iv p738, iv p739, iv p740, rv a741, iv (0 : Int32), iv (0 : Int32), iv p742, rv a743, iv (0 : Int32), iv (3 : Int32), iv (6 : Int32), iv (6 : Int32), .unset, .unset, .unset, .unset] [(.int p739)])) _
  obtain ⟨_, T763, _, X763, hQ763, st763⟩ := own_cs X0 hx hZ hown (wd hw 51 rfl) (wd hw 52 rfl) (wd hw 54 rfl) (wd hw 53 rfl) (by decide) (rm17 l Z a0 hw [] p739 h0 n0 O0 ) e0 (g := (mkF m 157 #[iv p736, iv p737, iv p738, iv p739, iv p740, rv a741, iv (0 : Int32), iv (0 : Int32), iv p742, rv a743, iv (0 : Int32), iv (3 : Int32), iv (6 : Int32), iv (6 : Int32), .unset, .unset, .unset, .unset] [(.int p739)])) rfl (by rw [hml]; rfl) (rest := []) (W := 0) (lenOf pd_6 rfl) rfl (by show 2 * 0 + _ ≤ _; exact Nat.le_of_eq rfl) (hb hby at_157) (by decide) (by decide) (by decide) (by decide)
  rcases hQ763 with ⟨hd795, rfl, Nq763, hh796⟩ | ⟨hq797, hq798, rfl, Nq763, hh799⟩
  · have N763 := Fr.app N0 Nq763
    refine own_via (fun t k => st763 t (XS.ifNo X763.here hx rfl (hb hby at_160) rfl ((if0 _ _).trans (feq (by decide : ¬ ((1 : Int32) = (0 : Int32)))).1) (XS.iload X763.here hx rfl (hb hby at_163) rfl (XS.goto X763.here hx rfl (pc0 := 165) (pc' := 169) rfl (hb hby at_165) (by decide) (by decide) (XS.istore X763.here hx rfl (hb hby at_169) rfl (l' := #[iv p736, iv p737, iv p738, iv p739, iv p740, rv a741, iv (0 : Int32), iv (0 : Int32), iv p742, rv a743, iv (0 : Int32), iv (3 : Int32), iv (6 : Int32), iv (6 : Int32), iv (6 : Int32), .unset, .unset, .unset]) rfl (XS.iload X763.here hx rfl (hb hby at_171) rfl k)))))) ?_
    show own_Goes p e below (T763.setTop (mkF m 173 #[iv p736, iv p737, iv p738, iv p739, iv p740, rv a741, iv (0 : Int32), iv (0 : Int32), iv p742, rv a743, iv (0 : Int32), iv (3 : Int32), iv (6 : Int32), iv (6 : Int32), iv (6 : Int32), .unset, .unset, .unset] [(.int p740)])) _
    obtain ⟨_, T800, _, X800, hQ800, st800⟩ := own_cs X763 hx hZ hown (wd hw 51 rfl) (wd hw 52 rfl) (wd hw 54 rfl) (wd hw 53 rfl) (by decide) (rm17 l Z a0 hw [] p740 h0 n0 O0 ) hh796 (g := (mkF m 173 #[iv p736, iv p737, iv p738, iv p739, iv p740, rv a741, iv (0 : Int32), iv (0 : Int32), iv p742, rv a743, iv (0 : Int32), iv (3 : Int32), iv (6 : Int32), iv (6 : Int32), iv (6 : Int32), .unset, .unset, .unset] [(.int p740)])) rfl (by rw [hml]; rfl) (rest := []) (W := 0) (lenOf pd_6 rfl) rfl (by show 2 * 0 + _ ≤ _; exact Nat.le_of_eq rfl) (hb hby at_173) (by decide) (by decide) (by decide) (by decide)
    rcases hQ800 with ⟨hd801, rfl, Nq800, hh802⟩ | ⟨hq803, hq804, rfl, Nq800, hh805⟩
    · have N800 := Fr.app N763 Nq800
      refine own_via (fun t k => st800 t (XS.ifNo X800.here hx rfl (hb hby at_176) rfl ((if0 _ _).trans (feq (by decide : ¬ ((1 : Int32) = (0 : Int32)))).1) (XS.iload X800.here hx rfl (hb hby at_179) rfl (XS.goto X800.here hx rfl (pc0 := 181) (pc' := 185) rfl (hb hby at_181) (by decide) (by decide) (XS.istore X800.here hx rfl (hb hby at_185) rfl (l' := #[iv p736, iv p737, iv p738, iv p739, iv p740, rv a741, iv (0 : Int32), iv (0 : Int32), iv p742, rv a743, iv (0 : Int32), iv (3 : Int32), iv (6 : Int32), iv (6 : Int32), iv (6 : Int32), iv (6 : Int32), .unset, .unset]) rfl (XS.aload X800.here hx rfl (hb hby at_187) rfl rfl (XS.iload X800.here hx rfl (hb hby at_189) rfl k))))))) ?_
      show own_Goes p e below (T800.setTop (mkF m 191 #[iv p736, iv p737, iv p738, iv p739, iv p740, rv a741, iv (0 : Int32), iv (0 : Int32), iv p742, rv a743, iv (0 : Int32), iv (3 : Int32), iv (6 : Int32), iv (6 : Int32), iv (6 : Int32), iv (6 : Int32), .unset, .unset] [(.int (0 : Int32)), (.ref a743)])) _
      obtain ⟨_, T806, _, X806, hQ806, st806⟩ := own_cv X800 hx hZ hown (wd hw 55 rfl) (wd hw 56 rfl) (wd hw 58 rfl) (wd hw 57 rfl) (wd hw 59 rfl) (wd hw 4 rfl) (by decide) (rm20 l Z a0 hw [] a743 a741 a748 k751 (6 : Int32) p749 (1 : Int32) (6 : Int32) p750 (0 : Int32) (0 : Int32) (0 : Int32) k747 p739 p740 h0 n0 O0 pF_a743_text pF_a743_first pV_a748 pE_a743 pV_a741 hd795) hh802 pE_a743 (g := (mkF m 191 #[iv p736, iv p737, iv p738, iv p739, iv p740, rv a741, iv (0 : Int32), iv (0 : Int32), iv p742, rv a743, iv (0 : Int32), iv (3 : Int32), iv (6 : Int32), iv (6 : Int32), iv (6 : Int32), iv (6 : Int32), .unset, .unset] [(.int (0 : Int32)), (.ref a743)])) rfl (by rw [hml]; rfl) (rest := []) (W := 0) (lenOf pd_3 rfl) rfl (by show 2 * 0 + _ ≤ _; exact Nat.le_of_eq rfl) (hb hby at_191) (by decide) (by decide) (by decide) (by decide)
      obtain ⟨hd914, rfl, Nq806, hh915⟩ := hQ806
      have N806 := Fr.app N800 Nq806
      refine own_via (fun t k => st806 t (XS.istore X806.here hx rfl (hb hby at_194) rfl (l' := #[iv p736, iv p737, iv p738, iv p739, iv p740, rv a741, iv (0 : Int32), iv (0 : Int32), iv p742, rv a743, iv (0 : Int32), iv (3 : Int32), iv (6 : Int32), iv (6 : Int32), iv (6 : Int32), iv (6 : Int32), iv (6 : Int32), .unset]) rfl (XS.aload X806.here hx rfl (hb hby at_196) rfl rfl (XS.iload X806.here hx rfl (hb hby at_198) rfl k)))) ?_
      show own_Goes p e below (T806.setTop (mkF m 200 #[iv p736, iv p737, iv p738, iv p739, iv p740, rv a741, iv (0 : Int32), iv (0 : Int32), iv p742, rv a743, iv (0 : Int32), iv (3 : Int32), iv (6 : Int32), iv (6 : Int32), iv (6 : Int32), iv (6 : Int32), iv (6 : Int32), .unset] [(.int (3 : Int32)), (.ref a743)])) _
      obtain ⟨_, T916, _, X916, hQ916, st916⟩ := own_cv X806 hx hZ hown (wd hw 55 rfl) (wd hw 56 rfl) (wd hw 58 rfl) (wd hw 57 rfl) (wd hw 59 rfl) (wd hw 4 rfl) (by decide) (rm23 l Z a0 hw [] a743 a741 a748 k751 (0 : Int32) (6 : Int32) p749 (6 : Int32) p750 (0 : Int32) (0 : Int32) (0 : Int32) k747 p739 p740 h0 n0 O0 pF_a743_text pF_a743_first pV_a748 pE_a743 pV_a741 hd801) hh915 pE_a743 (g := (mkF m 200 #[iv p736, iv p737, iv p738, iv p739, iv p740, rv a741, iv (0 : Int32), iv (0 : Int32), iv p742, rv a743, iv (0 : Int32), iv (3 : Int32), iv (6 : Int32), iv (6 : Int32), iv (6 : Int32), iv (6 : Int32), iv (6 : Int32), .unset] [(.int (3 : Int32)), (.ref a743)])) rfl (by rw [hml]; rfl) (rest := []) (W := 0) (lenOf pd_3 rfl) rfl (by show 2 * 0 + _ ≤ _; exact Nat.le_of_eq rfl) (hb hby at_200) (by decide) (by decide) (by decide) (by decide)
      obtain ⟨hd1024, rfl, Nq916, hh1025⟩ := hQ916
      have N916 := Fr.app N806 Nq916
      refine own_via (fun t k => st916 t (XS.istore X916.here hx rfl (hb hby at_203) rfl (l' := #[iv p736, iv p737, iv p738, iv p739, iv p740, rv a741, iv (0 : Int32), iv (0 : Int32), iv p742, rv a743, iv (0 : Int32), iv (3 : Int32), iv (6 : Int32), iv (6 : Int32), iv (6 : Int32), iv (6 : Int32), iv (6 : Int32), iv (6 : Int32)]) rfl (XS.iload X916.here hx rfl (hb hby at_205) rfl (XS.ifNo X916.here hx rfl (hb hby at_207) rfl ((if0 _ _).trans (teq (by decide : (0 : Int32) = (0 : Int32))).2) (XS.iload X916.here hx rfl (hb hby at_210) rfl (XS.iconst X916.here hx rfl (hb hby at_212) (XS.icmpNo X916.here hx rfl (hb hby at_213) rfl (teq (by decide : (3 : Int32) = (3 : Int32))).2 (XS.iload X916.here hx rfl (hb hby at_216) rfl (XS.iload X916.here hx rfl (hb hby at_218) rfl (XS.icmpNo X916.here hx rfl (hb hby at_220) rfl (teq (by decide : (6 : Int32) = (6 : Int32))).2 (XS.iload X916.here hx rfl (hb hby at_223) rfl (XS.iload X916.here hx rfl (hb hby at_225) rfl k)))))))))))) ?_
      show own_Goes p e below (T916.setTop (mkF m 227 #[iv p736, iv p737, iv p738, iv p739, iv p740, rv a741, iv (0 : Int32), iv (0 : Int32), iv p742, rv a743, iv (0 : Int32), iv (3 : Int32), iv (6 : Int32), iv (6 : Int32), iv (6 : Int32), iv (6 : Int32), iv (6 : Int32), iv (6 : Int32)] [(.int (6 : Int32)), (.int (6 : Int32))])) _
      refine own_via (fun t k => XS.icmpNo X916.here hx rfl (hb hby at_227) rfl (teq (by decide : (6 : Int32) = (6 : Int32))).2 (XS.iconst X916.here hx rfl (hb hby at_230) (XS.goto X916.here hx rfl (pc0 := 231) (pc' := 235) rfl (hb hby at_231) (by decide) (by decide) k))) ?_
      show own_Goes p e below (T916.setTop (mkF m 235 #[iv p736, iv p737, iv p738, iv p739, iv p740, rv a741, iv (0 : Int32), iv (0 : Int32), iv p742, rv a743, iv (0 : Int32), iv (3 : Int32), iv (6 : Int32), iv (6 : Int32), iv (6 : Int32), iv (6 : Int32), iv (6 : Int32), iv (6 : Int32)] [(.int (1 : Int32))])) _
      obtain ⟨fs, hr, hrun, hended, hW, hsame⟩ := X916.leave (v := some (.int (1 : Int32))) (fun h => by rw [Bd.returns] at h; cases h)
      refine own_end (t := T916.setFrames fs) ?_ ⟨_, hrun, hended, _, _, rfl, ?_, ⟨_, rfl⟩, hW, hsame.mono (by decide) (by decide)⟩
      · exact retN X916 hx (t := .boolean) Bd.returns (by simp) (hb hby at_235) hr
      · exact ⟨rfl, N916⟩
    · have N800 := Fr.app N763 Nq800
      refine own_via (fun t k => st800 t (XS.ifYes X800.here hx rfl (pc0 := 176) (pc' := 184) rfl (hb hby at_176) rfl ((if0 _ _).trans (teq (by decide : (0 : Int32) = (0 : Int32))).1) (by decide) (by decide) (XS.iconst X800.here hx rfl (hb hby at_184) (XS.istore X800.here hx rfl (hb hby at_185) rfl (l' := #[iv p736, iv p737, iv p738, iv p739, iv p740, rv a741, iv (0 : Int32), iv (0 : Int32), iv p742, rv a743, iv (0 : Int32), iv (3 : Int32), iv (6 : Int32), iv (6 : Int32), iv (6 : Int32), iv (4 : Int32), .unset, .unset]) rfl (XS.aload X800.here hx rfl (hb hby at_187) rfl rfl (XS.iload X800.here hx rfl (hb hby at_189) rfl k)))))) ?_
      show own_Goes p e below (T800.setTop (mkF m 191 #[iv p736, iv p737, iv p738, iv p739, iv p740, rv a741, iv (0 : Int32), iv (0 : Int32), iv p742, rv a743, iv (0 : Int32), iv (3 : Int32), iv (6 : Int32), iv (6 : Int32), iv (6 : Int32), iv (4 : Int32), .unset, .unset] [(.int (0 : Int32)), (.ref a743)])) _
      obtain ⟨_, T1026, _, X1026, hQ1026, st1026⟩ := own_cv X800 hx hZ hown (wd hw 55 rfl) (wd hw 56 rfl) (wd hw 58 rfl) (wd hw 57 rfl) (wd hw 59 rfl) (wd hw 4 rfl) (by decide) (rm20 l Z a0 hw [] a743 a741 a748 k751 (6 : Int32) p749 (1 : Int32) (6 : Int32) p750 (0 : Int32) (0 : Int32) (0 : Int32) k747 p739 p740 h0 n0 O0 pF_a743_text pF_a743_first pV_a748 pE_a743 pV_a741 hd795) hh805 pE_a743 (g := (mkF m 191 #[iv p736, iv p737, iv p738, iv p739, iv p740, rv a741, iv (0 : Int32), iv (0 : Int32), iv p742, rv a743, iv (0 : Int32), iv (3 : Int32), iv (6 : Int32), iv (6 : Int32), iv (6 : Int32), iv (4 : Int32), .unset, .unset] [(.int (0 : Int32)), (.ref a743)])) rfl (by rw [hml]; rfl) (rest := []) (W := 0) (lenOf pd_3 rfl) rfl (by show 2 * 0 + _ ≤ _; exact Nat.le_of_eq rfl) (hb hby at_191) (by decide) (by decide) (by decide) (by decide)
      obtain ⟨hd1027, rfl, Nq1026, hh1028⟩ := hQ1026
      have N1026 := Fr.app N800 Nq1026
      refine own_via (fun t k => st1026 t (XS.istore X1026.here hx rfl (hb hby at_194) rfl (l' := #[iv p736, iv p737, iv p738, iv p739, iv p740, rv a741, iv (0 : Int32), iv (0 : Int32), iv p742, rv a743, iv (0 : Int32), iv (3 : Int32), iv (6 : Int32), iv (6 : Int32), iv (6 : Int32), iv (4 : Int32), iv (6 : Int32), .unset]) rfl (XS.aload X1026.here hx rfl (hb hby at_196) rfl rfl (XS.iload X1026.here hx rfl (hb hby at_198) rfl k)))) ?_
      show own_Goes p e below (T1026.setTop (mkF m 200 #[iv p736, iv p737, iv p738, iv p739, iv p740, rv a741, iv (0 : Int32), iv (0 : Int32), iv p742, rv a743, iv (0 : Int32), iv (3 : Int32), iv (6 : Int32), iv (6 : Int32), iv (6 : Int32), iv (4 : Int32), iv (6 : Int32), .unset] [(.int (3 : Int32)), (.ref a743)])) _
      obtain ⟨_, T1029, _, X1029, hQ1029, st1029⟩ := own_cv X1026 hx hZ hown (wd hw 55 rfl) (wd hw 56 rfl) (wd hw 58 rfl) (wd hw 57 rfl) (wd hw 59 rfl) (wd hw 4 rfl) (by decide) (rm24 l Z a0 hw [] a743 a741 a748 k751 (0 : Int32) (6 : Int32) p749 (6 : Int32) p750 (0 : Int32) (0 : Int32) (0 : Int32) k747 p739 p740 h0 n0 O0 pF_a743_text pF_a743_first pV_a748 pE_a743 pV_a741 hq803 hq804) hh1028 pE_a743 (g := (mkF m 200 #[iv p736, iv p737, iv p738, iv p739, iv p740, rv a741, iv (0 : Int32), iv (0 : Int32), iv p742, rv a743, iv (0 : Int32), iv (3 : Int32), iv (6 : Int32), iv (6 : Int32), iv (6 : Int32), iv (4 : Int32), iv (6 : Int32), .unset] [(.int (3 : Int32)), (.ref a743)])) rfl (by rw [hml]; rfl) (rest := []) (W := 0) (lenOf pd_3 rfl) rfl (by show 2 * 0 + _ ≤ _; exact Nat.le_of_eq rfl) (hb hby at_200) (by decide) (by decide) (by decide) (by decide)
      obtain ⟨rfl, Nq1029, hh1065⟩ := hQ1029
      have N1029 := Fr.app N1026 Nq1029
      refine own_via (fun t k => st1029 t (XS.istore X1029.here hx rfl (hb hby at_203) rfl (l' := #[iv p736, iv p737, iv p738, iv p739, iv p740, rv a741, iv (0 : Int32), iv (0 : Int32), iv p742, rv a743, iv (0 : Int32), iv (3 : Int32), iv (6 : Int32), iv (6 : Int32), iv (6 : Int32), iv (4 : Int32), iv (6 : Int32), iv (4 : Int32)]) rfl (XS.iload X1029.here hx rfl (hb hby at_205) rfl (XS.ifNo X1029.here hx rfl (hb hby at_207) rfl ((if0 _ _).trans (teq (by decide : (0 : Int32) = (0 : Int32))).2) (XS.iload X1029.here hx rfl (hb hby at_210) rfl (XS.iconst X1029.here hx rfl (hb hby at_212) (XS.icmpNo X1029.here hx rfl (hb hby at_213) rfl (teq (by decide : (3 : Int32) = (3 : Int32))).2 (XS.iload X1029.here hx rfl (hb hby at_216) rfl (XS.iload X1029.here hx rfl (hb hby at_218) rfl (XS.icmpNo X1029.here hx rfl (hb hby at_220) rfl (teq (by decide : (6 : Int32) = (6 : Int32))).2 (XS.iload X1029.here hx rfl (hb hby at_223) rfl (XS.iload X1029.here hx rfl (hb hby at_225) rfl k)))))))))))) ?_
      show own_Goes p e below (T1029.setTop (mkF m 227 #[iv p736, iv p737, iv p738, iv p739, iv p740, rv a741, iv (0 : Int32), iv (0 : Int32), iv p742, rv a743, iv (0 : Int32), iv (3 : Int32), iv (6 : Int32), iv (6 : Int32), iv (6 : Int32), iv (4 : Int32), iv (6 : Int32), iv (4 : Int32)] [(.int (4 : Int32)), (.int (4 : Int32))])) _
      refine own_via (fun t k => XS.icmpNo X1029.here hx rfl (hb hby at_227) rfl (teq (by decide : (4 : Int32) = (4 : Int32))).2 (XS.iconst X1029.here hx rfl (hb hby at_230) (XS.goto X1029.here hx rfl (pc0 := 231) (pc' := 235) rfl (hb hby at_231) (by decide) (by decide) k))) ?_
      show own_Goes p e below (T1029.setTop (mkF m 235 #[iv p736, iv p737, iv p738, iv p739, iv p740, rv a741, iv (0 : Int32), iv (0 : Int32), iv p742, rv a743, iv (0 : Int32), iv (3 : Int32), iv (6 : Int32), iv (6 : Int32), iv (6 : Int32), iv (4 : Int32), iv (6 : Int32), iv (4 : Int32)] [(.int (1 : Int32))])) _
      obtain ⟨fs, hr, hrun, hended, hW, hsame⟩ := X1029.leave (v := some (.int (1 : Int32))) (fun h => by rw [Bd.returns] at h; cases h)
      refine own_end (t := T1029.setFrames fs) ?_ ⟨_, hrun, hended, _, _, rfl, ?_, ⟨_, rfl⟩, hW, hsame.mono (by decide) (by decide)⟩
      · exact retN X1029 hx (t := .boolean) Bd.returns (by simp) (hb hby at_235) hr
      · exact ⟨rfl, N1029⟩
  · have N763 := Fr.app N0 Nq763
    refine own_via (fun t k => st763 t (XS.ifYes X763.here hx rfl (pc0 := 160) (pc' := 168) rfl (hb hby at_160) rfl ((if0 _ _).trans (teq (by decide : (0 : Int32) = (0 : Int32))).1) (by decide) (by decide) (XS.iconst X763.here hx rfl (hb hby at_168) (XS.istore X763.here hx rfl (hb hby at_169) rfl (l' := #[iv p736, iv p737, iv p738, iv p739, iv p740, rv a741, iv (0 : Int32), iv (0 : Int32), iv p742, rv a743, iv (0 : Int32), iv (3 : Int32), iv (6 : Int32), iv (6 : Int32), iv (1 : Int32), .unset, .unset, .unset]) rfl (XS.iload X763.here hx rfl (hb hby at_171) rfl k))))) ?_
    show own_Goes p e below (T763.setTop (mkF m 173 #[iv p736, iv p737, iv p738, iv p739, iv p740, rv a741, iv (0 : Int32), iv (0 : Int32), iv p742, rv a743, iv (0 : Int32), iv (3 : Int32), iv (6 : Int32), iv (6 : Int32), iv (1 : Int32), .unset, .unset, .unset] [(.int p740)])) _
    obtain ⟨_, T1066, _, X1066, hQ1066, st1066⟩ := own_cs X763 hx hZ hown (wd hw 51 rfl) (wd hw 52 rfl) (wd hw 54 rfl) (wd hw 53 rfl) (by decide) (rm17 l Z a0 hw [] p740 h0 n0 O0 ) hh799 (g := (mkF m 173 #[iv p736, iv p737, iv p738, iv p739, iv p740, rv a741, iv (0 : Int32), iv (0 : Int32), iv p742, rv a743, iv (0 : Int32), iv (3 : Int32), iv (6 : Int32), iv (6 : Int32), iv (1 : Int32), .unset, .unset, .unset] [(.int p740)])) rfl (by rw [hml]; rfl) (rest := []) (W := 0) (lenOf pd_6 rfl) rfl (by show 2 * 0 + _ ≤ _; exact Nat.le_of_eq rfl) (hb hby at_173) (by decide) (by decide) (by decide) (by decide)
    rcases hQ1066 with ⟨hd1067, rfl, Nq1066, hh1068⟩ | ⟨hq1069, hq1070, rfl, Nq1066, hh1071⟩
    · have N1066 := Fr.app N763 Nq1066
      refine own_via (fun t k => st1066 t (XS.ifNo X1066.here hx rfl (hb hby at_176) rfl ((if0 _ _).trans (feq (by decide : ¬ ((1 : Int32) = (0 : Int32)))).1) (XS.iload X1066.here hx rfl (hb hby at_179) rfl (XS.goto X1066.here hx rfl (pc0 := 181) (pc' := 185) rfl (hb hby at_181) (by decide) (by decide) (XS.istore X1066.here hx rfl (hb hby at_185) rfl (l' := #[iv p736, iv p737, iv p738, iv p739, iv p740, rv a741, iv (0 : Int32), iv (0 : Int32), iv p742, rv a743, iv (0 : Int32), iv (3 : Int32), iv (6 : Int32), iv (6 : Int32), iv (1 : Int32), iv (6 : Int32), .unset, .unset]) rfl (XS.aload X1066.here hx rfl (hb hby at_187) rfl rfl (XS.iload X1066.here hx rfl (hb hby at_189) rfl k))))))) ?_
      show own_Goes p e below (T1066.setTop (mkF m 191 #[iv p736, iv p737, iv p738, iv p739, iv p740, rv a741, iv (0 : Int32), iv (0 : Int32), iv p742, rv a743, iv (0 : Int32), iv (3 : Int32), iv (6 : Int32), iv (6 : Int32), iv (1 : Int32), iv (6 : Int32), .unset, .unset] [(.int (0 : Int32)), (.ref a743)])) _
      obtain ⟨_, T1072, _, X1072, hQ1072, st1072⟩ := own_cv X1066 hx hZ hown (wd hw 55 rfl) (wd hw 56 rfl) (wd hw 58 rfl) (wd hw 57 rfl) (wd hw 59 rfl) (wd hw 4 rfl) (by decide) (rm25 l Z a0 hw [] a743 a741 a748 k751 (6 : Int32) p749 (1 : Int32) (6 : Int32) p750 (0 : Int32) (0 : Int32) (0 : Int32) k747 p739 p740 h0 n0 O0 pF_a743_text pF_a743_first pV_a748 pE_a743 pV_a741 hq797 hq798) hh1068 pE_a743 (g := (mkF m 191 #[iv p736, iv p737, iv p738, iv p739, iv p740, rv a741, iv (0 : Int32), iv (0 : Int32), iv p742, rv a743, iv (0 : Int32), iv (3 : Int32), iv (6 : Int32), iv (6 : Int32), iv (1 : Int32), iv (6 : Int32), .unset, .unset] [(.int (0 : Int32)), (.ref a743)])) rfl (by rw [hml]; rfl) (rest := []) (W := 0) (lenOf pd_3 rfl) rfl (by show 2 * 0 + _ ≤ _; exact Nat.le_of_eq rfl) (hb hby at_191) (by decide) (by decide) (by decide) (by decide)
      obtain ⟨rfl, Nq1072, hh1108⟩ := hQ1072
      have N1072 := Fr.app N1066 Nq1072
      refine own_via (fun t k => st1072 t (XS.istore X1072.here hx rfl (hb hby at_194) rfl (l' := #[iv p736, iv p737, iv p738, iv p739, iv p740, rv a741, iv (0 : Int32), iv (0 : Int32), iv p742, rv a743, iv (0 : Int32), iv (3 : Int32), iv (6 : Int32), iv (6 : Int32), iv (1 : Int32), iv (6 : Int32), iv (1 : Int32), .unset]) rfl (XS.aload X1072.here hx rfl (hb hby at_196) rfl rfl (XS.iload X1072.here hx rfl (hb hby at_198) rfl k)))) ?_
      show own_Goes p e below (T1072.setTop (mkF m 200 #[iv p736, iv p737, iv p738, iv p739, iv p740, rv a741, iv (0 : Int32), iv (0 : Int32), iv p742, rv a743, iv (0 : Int32), iv (3 : Int32), iv (6 : Int32), iv (6 : Int32), iv (1 : Int32), iv (6 : Int32), iv (1 : Int32), .unset] [(.int (3 : Int32)), (.ref a743)])) _
      obtain ⟨_, T1109, _, X1109, hQ1109, st1109⟩ := own_cv X1072 hx hZ hown (wd hw 55 rfl) (wd hw 56 rfl) (wd hw 58 rfl) (wd hw 57 rfl) (wd hw 59 rfl) (wd hw 4 rfl) (by decide) (rm23 l Z a0 hw [] a743 a741 a748 k751 (0 : Int32) (6 : Int32) p749 (6 : Int32) p750 (0 : Int32) (0 : Int32) (0 : Int32) k747 p739 p740 h0 n0 O0 pF_a743_text pF_a743_first pV_a748 pE_a743 pV_a741 hd1067) hh1108 pE_a743 (g := (mkF m 200 #[iv p736, iv p737, iv p738, iv p739, iv p740, rv a741, iv (0 : Int32), iv (0 : Int32), iv p742, rv a743, iv (0 : Int32), iv (3 : Int32), iv (6 : Int32), iv (6 : Int32), iv (1 : Int32), iv (6 : Int32), iv (1 : Int32), .unset] [(.int (3 : Int32)), (.ref a743)])) rfl (by rw [hml]; rfl) (rest := []) (W := 0) (lenOf pd_3 rfl) rfl (by show 2 * 0 + _ ≤ _; exact Nat.le_of_eq rfl) (hb hby at_200) (by decide) (by decide) (by decide) (by decide)
      obtain ⟨hd1110, rfl, Nq1109, hh1111⟩ := hQ1109
      have N1109 := Fr.app N1072 Nq1109
      refine own_via (fun t k => st1109 t (XS.istore X1109.here hx rfl (hb hby at_203) rfl (l' := #[iv p736, iv p737, iv p738, iv p739, iv p740, rv a741, iv (0 : Int32), iv (0 : Int32), iv p742, rv a743, iv (0 : Int32), iv (3 : Int32), iv (6 : Int32), iv (6 : Int32), iv (1 : Int32), iv (6 : Int32), iv (1 : Int32), iv (6 : Int32)]) rfl (XS.iload X1109.here hx rfl (hb hby at_205) rfl (XS.ifNo X1109.here hx rfl (hb hby at_207) rfl ((if0 _ _).trans (teq (by decide : (0 : Int32) = (0 : Int32))).2) (XS.iload X1109.here hx rfl (hb hby at_210) rfl (XS.iconst X1109.here hx rfl (hb hby at_212) (XS.icmpNo X1109.here hx rfl (hb hby at_213) rfl (teq (by decide : (3 : Int32) = (3 : Int32))).2 (XS.iload X1109.here hx rfl (hb hby at_216) rfl (XS.iload X1109.here hx rfl (hb hby at_218) rfl (XS.icmpNo X1109.here hx rfl (hb hby at_220) rfl (teq (by decide : (1 : Int32) = (1 : Int32))).2 (XS.iload X1109.here hx rfl (hb hby at_223) rfl (XS.iload X1109.here hx rfl (hb hby at_225) rfl k)))))))))))) ?_
      show own_Goes p e below (T1109.setTop (mkF m 227 #[iv p736, iv p737, iv p738, iv p739, iv p740, rv a741, iv (0 : Int32), iv (0 : Int32), iv p742, rv a743, iv (0 : Int32), iv (3 : Int32), iv (6 : Int32), iv (6 : Int32), iv (1 : Int32), iv (6 : Int32), iv (1 : Int32), iv (6 : Int32)] [(.int (6 : Int32)), (.int (6 : Int32))])) _
      refine own_via (fun t k => XS.icmpNo X1109.here hx rfl (hb hby at_227) rfl (teq (by decide : (6 : Int32) = (6 : Int32))).2 (XS.iconst X1109.here hx rfl (hb hby at_230) (XS.goto X1109.here hx rfl (pc0 := 231) (pc' := 235) rfl (hb hby at_231) (by decide) (by decide) k))) ?_
      show own_Goes p e below (T1109.setTop (mkF m 235 #[iv p736, iv p737, iv p738, iv p739, iv p740, rv a741, iv (0 : Int32), iv (0 : Int32), iv p742, rv a743, iv (0 : Int32), iv (3 : Int32), iv (6 : Int32), iv (6 : Int32), iv (1 : Int32), iv (6 : Int32), iv (1 : Int32), iv (6 : Int32)] [(.int (1 : Int32))])) _
      obtain ⟨fs, hr, hrun, hended, hW, hsame⟩ := X1109.leave (v := some (.int (1 : Int32))) (fun h => by rw [Bd.returns] at h; cases h)
      refine own_end (t := T1109.setFrames fs) ?_ ⟨_, hrun, hended, _, _, rfl, ?_, ⟨_, rfl⟩, hW, hsame.mono (by decide) (by decide)⟩
      · exact retN X1109 hx (t := .boolean) Bd.returns (by simp) (hb hby at_235) hr
      · exact ⟨rfl, N1109⟩
    · have N1066 := Fr.app N763 Nq1066
      refine own_via (fun t k => st1066 t (XS.ifYes X1066.here hx rfl (pc0 := 176) (pc' := 184) rfl (hb hby at_176) rfl ((if0 _ _).trans (teq (by decide : (0 : Int32) = (0 : Int32))).1) (by decide) (by decide) (XS.iconst X1066.here hx rfl (hb hby at_184) (XS.istore X1066.here hx rfl (hb hby at_185) rfl (l' := #[iv p736, iv p737, iv p738, iv p739, iv p740, rv a741, iv (0 : Int32), iv (0 : Int32), iv p742, rv a743, iv (0 : Int32), iv (3 : Int32), iv (6 : Int32), iv (6 : Int32), iv (1 : Int32), iv (4 : Int32), .unset, .unset]) rfl (XS.aload X1066.here hx rfl (hb hby at_187) rfl rfl (XS.iload X1066.here hx rfl (hb hby at_189) rfl k)))))) ?_
      show own_Goes p e below (T1066.setTop (mkF m 191 #[iv p736, iv p737, iv p738, iv p739, iv p740, rv a741, iv (0 : Int32), iv (0 : Int32), iv p742, rv a743, iv (0 : Int32), iv (3 : Int32), iv (6 : Int32), iv (6 : Int32), iv (1 : Int32), iv (4 : Int32), .unset, .unset] [(.int (0 : Int32)), (.ref a743)])) _
      obtain ⟨_, T1112, _, X1112, hQ1112, st1112⟩ := own_cv X1066 hx hZ hown (wd hw 55 rfl) (wd hw 56 rfl) (wd hw 58 rfl) (wd hw 57 rfl) (wd hw 59 rfl) (wd hw 4 rfl) (by decide) (rm25 l Z a0 hw [] a743 a741 a748 k751 (6 : Int32) p749 (1 : Int32) (6 : Int32) p750 (0 : Int32) (0 : Int32) (0 : Int32) k747 p739 p740 h0 n0 O0 pF_a743_text pF_a743_first pV_a748 pE_a743 pV_a741 hq797 hq798) hh1071 pE_a743 (g := (mkF m 191 #[iv p736, iv p737, iv p738, iv p739, iv p740, rv a741, iv (0 : Int32), iv (0 : Int32), iv p742, rv a743, iv (0 : Int32), iv (3 : Int32), iv (6 : Int32), iv (6 : Int32), iv (1 : Int32), iv (4 : Int32), .unset, .unset] [(.int (0 : Int32)), (.ref a743)])) rfl (by rw [hml]; rfl) (rest := []) (W := 0) (lenOf pd_3 rfl) rfl (by show 2 * 0 + _ ≤ _; exact Nat.le_of_eq rfl) (hb hby at_191) (by decide) (by decide) (by decide) (by decide)
      obtain ⟨rfl, Nq1112, hh1113⟩ := hQ1112
      have N1112 := Fr.app N1066 Nq1112
      refine own_via (fun t k => st1112 t (XS.istore X1112.here hx rfl (hb hby at_194) rfl (l' := #[iv p736, iv p737, iv p738, iv p739, iv p740, rv a741, iv (0 : Int32), iv (0 : Int32), iv p742, rv a743, iv (0 : Int32), iv (3 : Int32), iv (6 : Int32), iv (6 : Int32), iv (1 : Int32), iv (4 : Int32), iv (1 : Int32), .unset]) rfl (XS.aload X1112.here hx rfl (hb hby at_196) rfl rfl (XS.iload X1112.here hx rfl (hb hby at_198) rfl k)))) ?_
      show own_Goes p e below (T1112.setTop (mkF m 200 #[iv p736, iv p737, iv p738, iv p739, iv p740, rv a741, iv (0 : Int32), iv (0 : Int32), iv p742, rv a743, iv (0 : Int32), iv (3 : Int32), iv (6 : Int32), iv (6 : Int32), iv (1 : Int32), iv (4 : Int32), iv (1 : Int32), .unset] [(.int (3 : Int32)), (.ref a743)])) _
      obtain ⟨_, T1114, _, X1114, hQ1114, st1114⟩ := own_cv X1112 hx hZ hown (wd hw 55 rfl) (wd hw 56 rfl) (wd hw 58 rfl) (wd hw 57 rfl) (wd hw 59 rfl) (wd hw 4 rfl) (by decide) (rm24 l Z a0 hw [] a743 a741 a748 k751 (0 : Int32) (6 : Int32) p749 (6 : Int32) p750 (0 : Int32) (0 : Int32) (0 : Int32) k747 p739 p740 h0 n0 O0 pF_a743_text pF_a743_first pV_a748 pE_a743 pV_a741 hq1069 hq1070) hh1113 pE_a743 (g := (mkF m 200 #[iv p736, iv p737, iv p738, iv p739, iv p740, rv a741, iv (0 : Int32), iv (0 : Int32), iv p742, rv a743, iv (0 : Int32), iv (3 : Int32), iv (6 : Int32), iv (6 : Int32), iv (1 : Int32), iv (4 : Int32), iv (1 : Int32), .unset] [(.int (3 : Int32)), (.ref a743)])) rfl (by rw [hml]; rfl) (rest := []) (W := 0) (lenOf pd_3 rfl) rfl (by show 2 * 0 + _ ≤ _; exact Nat.le_of_eq rfl) (hb hby at_200) (by decide) (by decide) (by decide) (by decide)
      obtain ⟨rfl, Nq1114, hh1115⟩ := hQ1114
      have N1114 := Fr.app N1112 Nq1114
      refine own_via (fun t k => st1114 t (XS.istore X1114.here hx rfl (hb hby at_203) rfl (l' := #[iv p736, iv p737, iv p738, iv p739, iv p740, rv a741, iv (0 : Int32), iv (0 : Int32), iv p742, rv a743, iv (0 : Int32), iv (3 : Int32), iv (6 : Int32), iv (6 : Int32), iv (1 : Int32), iv (4 : Int32), iv (1 : Int32), iv (4 : Int32)]) rfl (XS.iload X1114.here hx rfl (hb hby at_205) rfl (XS.ifNo X1114.here hx rfl (hb hby at_207) rfl ((if0 _ _).trans (teq (by decide : (0 : Int32) = (0 : Int32))).2) (XS.iload X1114.here hx rfl (hb hby at_210) rfl (XS.iconst X1114.here hx rfl (hb hby at_212) (XS.icmpNo X1114.here hx rfl (hb hby at_213) rfl (teq (by decide : (3 : Int32) = (3 : Int32))).2 (XS.iload X1114.here hx rfl (hb hby at_216) rfl (XS.iload X1114.here hx rfl (hb hby at_218) rfl (XS.icmpNo X1114.here hx rfl (hb hby at_220) rfl (teq (by decide : (1 : Int32) = (1 : Int32))).2 (XS.iload X1114.here hx rfl (hb hby at_223) rfl (XS.iload X1114.here hx rfl (hb hby at_225) rfl k)))))))))))) ?_
      show own_Goes p e below (T1114.setTop (mkF m 227 #[iv p736, iv p737, iv p738, iv p739, iv p740, rv a741, iv (0 : Int32), iv (0 : Int32), iv p742, rv a743, iv (0 : Int32), iv (3 : Int32), iv (6 : Int32), iv (6 : Int32), iv (1 : Int32), iv (4 : Int32), iv (1 : Int32), iv (4 : Int32)] [(.int (4 : Int32)), (.int (4 : Int32))])) _
      refine own_via (fun t k => XS.icmpNo X1114.here hx rfl (hb hby at_227) rfl (teq (by decide : (4 : Int32) = (4 : Int32))).2 (XS.iconst X1114.here hx rfl (hb hby at_230) (XS.goto X1114.here hx rfl (pc0 := 231) (pc' := 235) rfl (hb hby at_231) (by decide) (by decide) k))) ?_
      show own_Goes p e below (T1114.setTop (mkF m 235 #[iv p736, iv p737, iv p738, iv p739, iv p740, rv a741, iv (0 : Int32), iv (0 : Int32), iv p742, rv a743, iv (0 : Int32), iv (3 : Int32), iv (6 : Int32), iv (6 : Int32), iv (1 : Int32), iv (4 : Int32), iv (1 : Int32), iv (4 : Int32)] [(.int (1 : Int32))])) _
      obtain ⟨fs, hr, hrun, hended, hW, hsame⟩ := X1114.leave (v := some (.int (1 : Int32))) (fun h => by rw [Bd.returns] at h; cases h)
      refine own_end (t := T1114.setFrames fs) ?_ ⟨_, hrun, hended, _, _, rfl, ?_, ⟨_, rfl⟩, hW, hsame.mono (by decide) (by decide)⟩
      · exact retN X1114 hx (t := .boolean) Bd.returns (by simp) (hb hby at_235) hr
      · exact ⟨rfl, N1114⟩
def Q26 (Z : State) (a1123 : Addr) (a1128 : Addr) (k1138 : ClassId) (p1129 : Int32) (p1130 : Int32) (p1131 : Int32) (p1132 : Int32) (p1133 : Int32) (p1134 : Int32) (p1135 : Int32) (p1136 : Int32) (p1137 : Int32) (a1124 : Addr) (h0 : Heap) (n0 : Nat) (v : Option Value) (h : Heap) (L : List Loc) : Prop := v = some (.int (6 : Int32)) ∧ Fr n0 L ∧ Keep h0 h [a1128, a1123] ∧ Exa Z h a1128 "[I" ∧ Arv Z h a1128 k1138 .int (16 : Int32) [(.int p1129), (.int p1130), (.int p1131), (.int p1132), (.int p1133), (.int p1134), (.int (1 : Int32)), (.int p1136), (.int p1137)] (.int (0 : Int32)) ∧ Exa Z h a1123 zs1 ∧ Fld Z h a1123 zs1 "text" "[B" (.ref a1124) ∧ Fld Z h a1123 zs1 "first" "[I" (.ref a1128) ∧ Fld Z h a1123 zs1 "length" "I" (.int (7 : Int32))
set_option maxRecDepth 65536 in
set_option maxHeartbeats 40000000 in
theorem rm26 (l : Launch) (Z : State) (a0 : Array Value) (hw : ∀ d ∈ tables_1, d.before a0 Z = true) (ws : List Jvm.Cond) (a1123 : Addr) (a1128 : Addr) (k1138 : ClassId) (p1129 : Int32) (p1130 : Int32) (p1131 : Int32) (p1132 : Int32) (p1133 : Int32) (p1134 : Int32) (p1135 : Int32) (p1136 : Int32) (p1137 : Int32) (a1124 : Addr) (h0 : Heap) (n0 : Nat) (O0 : Old Z n0 h0) (pF_a1123_length : Fld Z h0 a1123 zs1 "length" "I" (.int (6 : Int32))) (pF_a1123_first : Fld Z h0 a1123 zs1 "first" "[I" (.ref a1128)) (pL_a1128 : own_Len Z h0 a1128 .int (16 : Int32)) (pV_a1128 : Arv Z h0 a1128 k1138 .int (16 : Int32) [(.int p1129), (.int p1130), (.int p1131), (.int p1132), (.int p1133), (.int p1134), (.int p1135), (.int p1136), (.int p1137)] (.int (0 : Int32))) (pG_a1128 : n0 ≤ a1128) (pN_a1123_a1128 : a1123 ≠ a1128) (pE_a1123 : Exa Z h0 a1123 zs1) (pG_a1123 : n0 ≤ a1123) (pE_a1128 : Exa Z h0 a1128 "[I") (pF_a1123_text : Fld Z h0 a1123 zs1 "text" "[B" (.ref a1124)) :
    MetFree l (⟨zs1, "add", "(I)I"⟩ : MethodName) (head1 (Jvm.Cond.code (⟨zs1, "add", "(I)I"⟩ : MethodName) prog_17_method_2_code 2 (some .int) :: ws) ({ frames := 0, cells := 0, slots := 0, locals := 0 } : Room)) (fun a U => a = #[(.ref a1123), (.int (1 : Int32))] ∧ Z.Warmed39 U.vm ∧ U.heap = h0) (fun _ _ _ _ _ => True) (fun _ U o U' => ∃ v L, o = .returned v ∧ Q26 Z a1123 a1128 k1138 p1129 p1130 p1131 p1132 p1133 p1134 p1135 p1136 p1137 a1124 h0 n0 v U'.heap L ∧ FrameEnd U o U' L ({ frames := 0, cells := 0, slots := 0, locals := 0 } : Room).cells ({ frames := 0, cells := 0, slots := 0, locals := 0 } : Room).slots) := by
  refine MetFree.of_bodySF (plainFor_of_name pn_1) hisR ?_
  intro p e s m args below meth c s₁ Bd hml0 hP hK
  obtain ⟨rfl, hZ, hh⟩ := hP
  have hx := Bd.exec
  have hby := Bd.bytes
  have hml : c.maxLocals = 2 := hml0
  have hown : s.vm.findClass zs1 = some m.cls := findClass_of_methodNamed Bd.named
  have hnm := (name_of_methodNamed Bd.named Bd.method).1
  have X0 : Stand p l e ({ frames := 0, cells := 0, slots := 0, locals := 0 } : Room) s m #[(.ref a1123), (.int (1 : Int32))] below meth c s₁ [] 0 0 := Stand.of_body Bd
  have e0 : s₁.heap = h0 := by rw [← hh, Bd.state]; rfl
  have N0 := Fr.nil n0
  refine own_out ?_
  refine own_via (fun t k => castTop (ef_3 m a1123 (1 : Int32)) (XS.aloadN X0.here hx rfl (hb hby d5_0) rfl rfl k)) ?_
  obtain ⟨T1151, X1151, e1151, st1151⟩ := getF X0 hx hZ hown (host := "") (Or.inl (wd hw 39 rfl)) Via.refl e0 pF_a1123_length (g := (mkF m 1 #[rv a1123, iv (1 : Int32)] [(.ref a1123)])) rfl rfl (hb hby d5_1)
  refine own_via (fun t k => st1151 t (XS.aloadN X1151.here hx rfl (hb hby d5_4) rfl rfl k)) ?_
  obtain ⟨T1152, X1152, e1152, st1152⟩ := getF X1151 hx hZ hown (host := "") (Or.inl (wd hw 26 rfl)) Via.refl e1151 pF_a1123_first (g := (mkF m 5 #[rv a1123, iv (1 : Int32)] [(.ref a1123), (.int (6 : Int32))])) rfl rfl (hb hby d5_5)
  refine own_via (fun t k => st1152 t k) ?_
  obtain ⟨_, _, _, V1153⟩ := id (pL_a1128)
  obtain ⟨cl1153, Ar1153, -, S1153, M1153, -, -⟩ := id (V1153)
  refine own_via (fun t k => X1152.arraylength hx (by rw [e1152]; exact Ar1153.1) (State.isArrayOf_alike hZ.alike Ar1153.2.1) (g := (mkF m 8 #[rv a1123, iv (1 : Int32)] [(.ref a1128), (.int (6 : Int32))])) rfl rfl (hb hby d5_8) t k) ?_
  rw [len_of S1153 M1153]
  show own_Goes p e below (T1152.setTop (mkF m 9 #[rv a1123, iv (1 : Int32)] [(.int (16 : Int32)), (.int (6 : Int32))])) _
  refine own_via (fun t k => XS.icmpNo X1152.here hx rfl (hb hby d5_9) rfl (tlt (by decide : (6 : Int32) < (16 : Int32))).2.1 (XS.aloadN X1152.here hx rfl (hb hby d5_12) rfl rfl k)) ?_
  obtain ⟨T1154, X1154, e1154, st1154⟩ := getF X1152 hx hZ hown (host := "") (Or.inl (wd hw 26 rfl)) Via.refl e1152 pF_a1123_first (g := (mkF m 13 #[rv a1123, iv (1 : Int32)] [(.ref a1123)])) rfl rfl (hb hby d5_13)
  refine own_via (fun t k => st1154 t (XS.aloadN X1154.here hx rfl (hb hby d5_16) rfl rfl k)) ?_
  obtain ⟨T1155, X1155, e1155, st1155⟩ := getF X1154 hx hZ hown (host := "") (Or.inl (wd hw 39 rfl)) Via.refl e1154 pF_a1123_length (g := (mkF m 17 #[rv a1123, iv (1 : Int32)] [(.ref a1123), (.ref a1128)])) rfl rfl (hb hby d5_17)
  refine own_via (fun t k => st1155 t (XS.iloadN X1155.here hx rfl (hb hby d5_20) rfl k)) ?_
  obtain ⟨cl1156, Ar1156, qq1156, S1156, M1156, H1156, G1156⟩ := id (pV_a1128)
  have hin1156 : ¬ ((6 : Int32) < 0 ∨ cl1156.slots.size ≤ ((6 : Int32)).toNatClampNeg) := inb_of S1156 ⟨by decide, by decide⟩
  obtain ⟨T1156, h1156, X1156, e1156, W1156, st1156⟩ := stI X1155 hx hZ e1155 Ar1156 (j := (6 : Int32)) hin1156 (g := (mkF m 21 #[rv a1123, iv (1 : Int32)] [(.int (1 : Int32)), (.int (6 : Int32)), (.ref a1128)])) rfl rfl (hb hby d5_21)
  refine own_via (fun t k => st1156 t k) ?_
  have V1157 : Arv Z h1156 a1128 k1138 .int (16 : Int32) [(.int p1129), (.int p1130), (.int p1131), (.int p1132), (.int p1133), (.int p1134), (.int (1 : Int32)), (.int p1136), (.int p1137)] (.int (0 : Int32)) := Arv.set Ar1156 qq1156 S1156 M1156 H1156 G1156 rfl W1156 6 rfl (Nat.le_of_ble_eq_true rfl)
  have N1156 := Fr.snoc X1156 N0 pG_a1128
  show own_Goes p e below (T1156.setTop (mkF m 22 #[rv a1123, iv (1 : Int32)] [])) _
  refine own_via (fun t k => XS.aloadN X1156.here hx rfl (hb hby d5_22) rfl rfl (XS.dup X1156.here hx rfl (hb hby d5_23) rfl rfl k)) ?_
  have F1158 : Fld Z h1156 a1123 zs1 "length" "I" (.int (6 : Int32)) := (pF_a1123_length.other W1156 (Or.inl pN_a1123_a1128))
  obtain ⟨T1159, X1159, e1159, st1159⟩ := getF X1156 hx hZ hown (host := "") (Or.inl (wd hw 39 rfl)) Via.refl e1156 F1158 (g := (mkF m 24 #[rv a1123, iv (1 : Int32)] [(.ref a1123), (.ref a1123)])) rfl rfl (hb hby d5_24)
  refine own_via (fun t k => st1159 t (XS.dupX1 X1159.here hx rfl (hb hby d5_27) rfl rfl rfl (XS.iconst X1159.here hx rfl (hb hby d5_28) (XS.iadd X1159.here hx rfl (hb hby d5_29) rfl k)))) ?_
  show own_Goes p e below (T1159.setTop (mkF m 30 #[rv a1123, iv (1 : Int32)] [(.int (7 : Int32)), (.ref a1123), (.int (6 : Int32))])) _
  have E1160 : Exa Z h1156 a1123 zs1 := (pE_a1123.wr W1156)
  obtain ⟨T1161, h1161, X1161, e1161, W1161, st1161⟩ := putF X1159 hx hZ hown (host := "") (Or.inl (wd hw 39 rfl)) Via.refl e1159 F1158 E1160 (Or.inl (wd hw 40 rfl)) (wd hw 3 rfl) (ty := .int) (by decide) rfl rfl (g := (mkF m 30 #[rv a1123, iv (1 : Int32)] [(.int (7 : Int32)), (.ref a1123), (.int (6 : Int32))])) rfl rfl (hb hby d5_30)
  refine own_via (fun t k => st1161 t k) ?_
  have Fw1161 : Fld Z h1161 a1123 zs1 "length" "I" (.int (7 : Int32)) := F1158.same W1161
  have N1161 := Fr.snoc X1161 N1156 pG_a1123
  show own_Goes p e below (T1161.setTop (mkF m 33 #[rv a1123, iv (1 : Int32)] [(.int (6 : Int32))])) _
  obtain ⟨fs, hr, hrun, hended, hW, hsame⟩ := X1161.leave (v := some (.int (6 : Int32))) (fun h => by rw [Bd.returns] at h; cases h)
  refine own_end (t := T1161.setFrames fs) ?_ ⟨_, hrun, hended, _, _, rfl, ?_, ⟨_, rfl⟩, hW, hsame.mono (by decide) (by decide)⟩
  · exact retI X1161 hx Bd.returns (hb hby d5_33) hr
  have E1162 : Exa Z h1161 a1128 "[I" := ((pE_a1128.wr W1156).wr W1161)
  have V1163 : Arv Z h1161 a1128 k1138 .int (16 : Int32) [(.int p1129), (.int p1130), (.int p1131), (.int p1132), (.int p1133), (.int p1134), (.int (1 : Int32)), (.int p1136), (.int p1137)] (.int (0 : Int32)) := (V1157.other W1161 (Ne.symm pN_a1123_a1128))
  have E1164 : Exa Z h1161 a1123 zs1 := (E1160.wr W1161)
  have F1165 : Fld Z h1161 a1123 zs1 "text" "[B" (.ref a1124) := ((pF_a1123_text.other W1156 (Or.inl pN_a1123_a1128)).other W1161 (Or.inr (slot_ne (Or.inr (wd hw 20 rfl)) (Or.inl (wd hw 40 rfl)) (by decide) (t := (.array .byte)) (t' := .int) (by decide) (by decide))))
  have F1166 : Fld Z h1161 a1123 zs1 "first" "[I" (.ref a1128) := ((pF_a1123_first.other W1156 (Or.inl pN_a1123_a1128)).other W1161 (Or.inr (slot_ne (Or.inl (wd hw 27 rfl)) (Or.inl (wd hw 40 rfl)) (by decide) (t := (.array .int)) (t' := .int) (by decide) (by decide))))
  · show Q26 Z a1123 a1128 k1138 p1129 p1130 p1131 p1132 p1133 p1134 p1135 p1136 p1137 a1124 h0 n0 _ T1161.heap _
    rw [e1161]
    exact ⟨rfl, N1161, (((Keep.refl h0 [a1128, a1123]).wr W1156 (Or.inl (List.mem_of_getElem? (i := 0) rfl))).wr W1161 (Or.inl (List.mem_of_getElem? (i := 1) rfl))), E1162, V1163, E1164, F1165, F1166, Fw1161⟩
def Q27 (Z : State) (a1208 : Addr) (a1213 : Addr) (k1223 : ClassId) (p1215 : Int32) (p1214 : Int32) (p1216 : Int32) (p1217 : Int32) (p1218 : Int32) (p1219 : Int32) (p1220 : Int32) (p1221 : Int32) (p1222 : Int32) (h0 : Heap) (n0 : Nat) (v : Option Value) (h : Heap) (L : List Loc) : Prop := v = none ∧ Fr n0 L ∧ Keep h0 h [a1213] ∧ Exa Z h a1213 "[I" ∧ Arv Z h a1213 k1223 .int (16 : Int32) [(.int p1215), (.int p1214), (.int (4 : Int32)), (.int p1217), (.int p1218), (.int p1219), (.int p1220), (.int p1221), (.int p1222)] (.int (0 : Int32))
set_option maxRecDepth 65536 in
set_option maxHeartbeats 40000000 in
theorem rm27 (l : Launch) (Z : State) (a0 : Array Value) (hw : ∀ d ∈ tables_1, d.before a0 Z = true) (ws : List Jvm.Cond) (a1208 : Addr) (a1213 : Addr) (k1223 : ClassId) (p1215 : Int32) (p1214 : Int32) (p1216 : Int32) (p1217 : Int32) (p1218 : Int32) (p1219 : Int32) (p1220 : Int32) (p1221 : Int32) (p1222 : Int32) (h0 : Heap) (n0 : Nat) (O0 : Old Z n0 h0) (pF_a1208_first : Fld Z h0 a1208 zs1 "first" "[I" (.ref a1213)) (pV_a1213 : Arv Z h0 a1213 k1223 .int (16 : Int32) [(.int p1215), (.int p1214), (.int p1216), (.int p1217), (.int p1218), (.int p1219), (.int p1220), (.int p1221), (.int p1222)] (.int (0 : Int32))) (pG_a1213 : n0 ≤ a1213) (pE_a1213 : Exa Z h0 a1213 "[I") :
    MetFree l (⟨zs1, "set", "(II)V"⟩ : MethodName) (head1 (Jvm.Cond.code (⟨zs1, "set", "(II)V"⟩ : MethodName) prog_17_method_29_code 3 none :: ws) ({ frames := 0, cells := 0, slots := 0, locals := 0 } : Room)) (fun a U => a = #[(.ref a1208), (.int (2 : Int32)), (.int (4 : Int32))] ∧ Z.Warmed39 U.vm ∧ U.heap = h0) (fun _ _ _ _ _ => True) (fun _ U o U' => ∃ v L, o = .returned v ∧ Q27 Z a1208 a1213 k1223 p1215 p1214 p1216 p1217 p1218 p1219 p1220 p1221 p1222 h0 n0 v U'.heap L ∧ FrameEnd U o U' L ({ frames := 0, cells := 0, slots := 0, locals := 0 } : Room).cells ({ frames := 0, cells := 0, slots := 0, locals := 0 } : Room).slots) := by
  refine MetFree.of_bodySF (plainFor_of_name pn_1) hisR ?_
  intro p e s m args below meth c s₁ Bd hml0 hP hK
  obtain ⟨rfl, hZ, hh⟩ := hP
  have hx := Bd.exec
  have hby := Bd.bytes
  have hml : c.maxLocals = 3 := hml0
  have hown : s.vm.findClass zs1 = some m.cls := findClass_of_methodNamed Bd.named
  have hnm := (name_of_methodNamed Bd.named Bd.method).1
  have X0 : Stand p l e ({ frames := 0, cells := 0, slots := 0, locals := 0 } : Room) s m #[(.ref a1208), (.int (2 : Int32)), (.int (4 : Int32))] below meth c s₁ [] 0 0 := Stand.of_body Bd
  have e0 : s₁.heap = h0 := by rw [← hh, Bd.state]; rfl
  have N0 := Fr.nil n0
  refine own_out ?_
  refine own_via (fun t k => castTop (ef_5 m a1208 (2 : Int32) (4 : Int32)) (XS.iloadN X0.here hx rfl (hb hby d7_0) rfl (XS.sipush X0.here hx rfl (hb hby d7_1) (XS.icmpNo X0.here hx rfl (hb hby d7_4) rfl (tlt (by decide : (2 : Int32) < (16384 : Int32))).2.1 (XS.aloadN X0.here hx rfl (hb hby d7_7) rfl rfl k))))) ?_
  show own_Goes p e below (s₁.setTop (mkF m 8 #[rv a1208, iv (2 : Int32), iv (4 : Int32)] [(.ref a1208)])) _
  obtain ⟨T1236, X1236, e1236, st1236⟩ := getF X0 hx hZ hown (host := "") (Or.inl (wd hw 26 rfl)) Via.refl e0 pF_a1208_first (g := (mkF m 8 #[rv a1208, iv (2 : Int32), iv (4 : Int32)] [(.ref a1208)])) rfl rfl (hb hby d7_8)
  refine own_via (fun t k => st1236 t (XS.iloadN X1236.here hx rfl (hb hby d7_11) rfl (XS.iloadN X1236.here hx rfl (hb hby d7_12) rfl k))) ?_
  show own_Goes p e below (T1236.setTop (mkF m 13 #[rv a1208, iv (2 : Int32), iv (4 : Int32)] [(.int (4 : Int32)), (.int (2 : Int32)), (.ref a1213)])) _
  obtain ⟨cl1237, Ar1237, qq1237, S1237, M1237, H1237, G1237⟩ := id (pV_a1213)
  have hin1237 : ¬ ((2 : Int32) < 0 ∨ cl1237.slots.size ≤ ((2 : Int32)).toNatClampNeg) := inb_of S1237 ⟨by decide, by decide⟩
  obtain ⟨T1237, h1237, X1237, e1237, W1237, st1237⟩ := stI X1236 hx hZ e1236 Ar1237 (j := (2 : Int32)) hin1237 (g := (mkF m 13 #[rv a1208, iv (2 : Int32), iv (4 : Int32)] [(.int (4 : Int32)), (.int (2 : Int32)), (.ref a1213)])) rfl rfl (hb hby d7_13)
  refine own_via (fun t k => st1237 t k) ?_
  have V1238 : Arv Z h1237 a1213 k1223 .int (16 : Int32) [(.int p1215), (.int p1214), (.int (4 : Int32)), (.int p1217), (.int p1218), (.int p1219), (.int p1220), (.int p1221), (.int p1222)] (.int (0 : Int32)) := Arv.set Ar1237 qq1237 S1237 M1237 H1237 G1237 rfl W1237 2 rfl (Nat.le_of_ble_eq_true rfl)
  have N1237 := Fr.snoc X1237 N0 pG_a1213
  show own_Goes p e below (T1237.setTop (mkF m 14 #[rv a1208, iv (2 : Int32), iv (4 : Int32)] [])) _
  refine own_via (fun t k => XS.goto X1237.here hx rfl (pc0 := 14) (pc' := 33) rfl (hb hby d7_14) (by decide) (by decide) k) ?_
  obtain ⟨fs, hr, hrun, hended, hW, hsame⟩ := X1237.leave (v := none) (fun _ => rfl)
  refine own_end (t := T1237.setFrames fs) ?_ ⟨_, hrun, hended, _, _, rfl, ?_, ⟨_, rfl⟩, hW, hsame.mono (by decide) (by decide)⟩
  · exact X1237.returnOut hx Bd.returns (hb hby d7_33) hr
  have E1239 : Exa Z h1237 a1213 "[I" := (pE_a1213.wr W1237)
  · show Q27 Z a1208 a1213 k1223 p1215 p1214 p1216 p1217 p1218 p1219 p1220 p1221 p1222 h0 n0 _ T1237.heap _
    rw [e1237]
    exact ⟨rfl, N1237, ((Keep.refl h0 [a1213]).wr W1237 (Or.inl (List.mem_of_getElem? (i := 0) rfl))), E1239, V1238⟩
def Q28 (Z : State) (a1174 : Addr) (p1190 : Int32) (a1179 : Addr) (k1189 : ClassId) (p1180 : Int32) (p1181 : Int32) (p1182 : Int32) (p1183 : Int32) (p1184 : Int32) (p1185 : Int32) (p1186 : Int32) (p1187 : Int32) (p1188 : Int32) (h0 : Heap) (n0 : Nat) (v : Option Value) (h : Heap) (L : List Loc) : Prop := v = none ∧ Fr n0 L ∧ Keep h0 h [a1179] ∧ Exa Z h a1179 "[I" ∧ Arv Z h a1179 k1189 .int (16 : Int32) [(.int p1180), (.int p1190), (.int (4 : Int32)), (.int p1183), (.int p1184), (.int p1185), (.int p1186), (.int p1187), (.int p1188)] (.int (0 : Int32))
set_option maxRecDepth 65536 in
set_option maxHeartbeats 40000000 in
theorem rm28 (l : Launch) (Z : State) (a0 : Array Value) (hw : ∀ d ∈ tables_1, d.before a0 Z = true) (ws : List Jvm.Cond) (a1174 : Addr) (p1190 : Int32) (a1179 : Addr) (k1189 : ClassId) (p1180 : Int32) (p1181 : Int32) (p1182 : Int32) (p1183 : Int32) (p1184 : Int32) (p1185 : Int32) (p1186 : Int32) (p1187 : Int32) (p1188 : Int32) (h0 : Heap) (n0 : Nat) (O0 : Old Z n0 h0) (pF_a1174_length : Fld Z h0 a1174 zs1 "length" "I" (.int p1190)) (pF_a1174_first : Fld Z h0 a1174 zs1 "first" "[I" (.ref a1179)) (pV_a1179 : Arv Z h0 a1179 k1189 .int (16 : Int32) [(.int p1180), (.int p1181), (.int p1182), (.int p1183), (.int p1184), (.int p1185), (.int p1186), (.int p1187), (.int p1188)] (.int (0 : Int32))) (pG_a1179 : n0 ≤ a1179) (pE_a1179 : Exa Z h0 a1179 "[I") (pE_a1174 : Exa Z h0 a1174 zs1) (pN_a1174_a1179 : a1174 ≠ a1179) :
    MetFree l (⟨zs1, "close", "(IIZ)V"⟩ : MethodName) (head1 (Jvm.Cond.code (⟨zs1, "close", "(IIZ)V"⟩ : MethodName) prog_17_method_6_code 4 none :: ws) ({ frames := 1, cells := 0, slots := 0, locals := 14 } : Room)) (fun a U => a = #[(.ref a1174), (.int (0 : Int32)), (.int (2 : Int32)), (.int (0 : Int32))] ∧ Z.Warmed39 U.vm ∧ U.heap = h0) (fun _ _ _ _ _ => True) (fun _ U o U' => ∃ v L, o = .returned v ∧ Q28 Z a1174 p1190 a1179 k1189 p1180 p1181 p1182 p1183 p1184 p1185 p1186 p1187 p1188 h0 n0 v U'.heap L ∧ FrameEnd U o U' L ({ frames := 1, cells := 0, slots := 0, locals := 14 } : Room).cells ({ frames := 1, cells := 0, slots := 0, locals := 14 } : Room).slots) := by
  refine MetFree.of_bodySF (plainFor_of_name pn_1) hisR ?_
  intro p e s m args below meth c s₁ Bd hml0 hP hK
  obtain ⟨rfl, hZ, hh⟩ := hP
  have hx := Bd.exec
  have hby := Bd.bytes
  have hml : c.maxLocals = 4 := hml0
  have hown : s.vm.findClass zs1 = some m.cls := findClass_of_methodNamed Bd.named
  have hnm := (name_of_methodNamed Bd.named Bd.method).1
  have X0 : Stand p l e ({ frames := 1, cells := 0, slots := 0, locals := 14 } : Room) s m #[(.ref a1174), (.int (0 : Int32)), (.int (2 : Int32)), (.int (0 : Int32))] below meth c s₁ [] 0 0 := Stand.of_body Bd
  have e0 : s₁.heap = h0 := by rw [← hh, Bd.state]; rfl
  have N0 := Fr.nil n0
  refine own_out ?_
  refine own_via (fun t k => castTop (ef_6 m a1174 (0 : Int32) (2 : Int32) (0 : Int32)) (XS.aloadN X0.here hx rfl (hb hby d6_0) rfl rfl (XS.iloadN X0.here hx rfl (hb hby d6_1) rfl (XS.iconst X0.here hx rfl (hb hby d6_2) (XS.iadd X0.here hx rfl (hb hby d6_3) rfl (XS.aloadN X0.here hx rfl (hb hby d6_4) rfl rfl k)))))) ?_
  show own_Goes p e below (s₁.setTop (mkF m 5 #[rv a1174, iv (0 : Int32), iv (2 : Int32), iv (0 : Int32)] [(.ref a1174), (.int (1 : Int32)), (.ref a1174)])) _
  obtain ⟨T1203, X1203, e1203, st1203⟩ := getF X0 hx hZ hown (host := "") (Or.inl (wd hw 39 rfl)) Via.refl e0 pF_a1174_length (g := (mkF m 5 #[rv a1174, iv (0 : Int32), iv (2 : Int32), iv (0 : Int32)] [(.ref a1174), (.int (1 : Int32)), (.ref a1174)])) rfl rfl (hb hby d6_5)
  refine own_via (fun t k => st1203 t k) ?_
  obtain ⟨cq1204, q1204, q1204'⟩ := pE_a1174.cell
  obtain ⟨_, _, ⟨T1204, L1204, c1204, n1204⟩, -, X1204, ⟨Lc1204, hQ1204, l1204, y1204, z1204⟩, st1204⟩ := X1203.privateBack hx (y := (⟨zs1, "set", "(II)V"⟩ : MethodName)) hown (mvT hZ (wd hw 47 rfl)) (mvT hZ (wd hw 48 rfl)) (own_selPriv (mvT hZ (wd hw 3 rfl)) (mvT hZ (wd hw 48 rfl)) (Cond.privateMethod_at (mvP hZ (wd hw 49 rfl) (args := #[]))) (by decide)) (Cond.privateMethod_at (mvP hZ (wd hw 49 rfl) (args := #[]))) (mvT hZ (wd hw 50 rfl)) (by decide) (backOf (W := 0) (rm14 l Z a0 hw [] a1174 p1190 a1179 k1189 p1180 p1181 p1182 p1183 p1184 p1185 p1186 p1187 p1188 h0 n0 O0 pF_a1174_first pV_a1179 pG_a1179 pE_a1179) hZ (wd hw 50 rfl) (wd hw 4 rfl) (by decide) (by decide)) (g := (mkF m 8 #[rv a1174, iv (0 : Int32), iv (2 : Int32), iv (0 : Int32)] [(.int p1190), (.int (1 : Int32)), (.ref a1174)])) rfl (by rw [hml]; rfl) (Steps.refl _) (a := a1174) (by rw [e1203]; exact q1204) q1204' (argsL := [(.int (1 : Int32)), (.int p1190)]) (rest := []) (lenOf pd_4 rfl) rfl (by show 2 * 0 + _ ≤ _; exact Nat.le_of_eq rfl) (hb hby d6_8) (fun _ _ => ⟨rfl, e1203, (by decide : 0 + 0 ≤ _), (by decide : 0 + 0 ≤ _)⟩)
  dsimp only [Pt.U, Pt.locs, Pt.cells, Pt.slots] at X1204 l1204 y1204 z1204 st1204 hQ1204
  subst l1204 y1204 z1204
  obtain ⟨h1204, e1204⟩ : ∃ z, T1204.heap = z := ⟨_, rfl⟩
  rw [e1204] at hQ1204
  obtain ⟨rfl, Nq1204, K1204, ex1205, vx1206⟩ := hQ1204
  have N1204 := Fr.app N0 Nq1204
  refine own_via (fun t k => st1204.trans (XS.aloadN X1204.here hx rfl (hb hby d6_11) rfl rfl (XS.iloadN X1204.here hx rfl (hb hby d6_12) rfl (XS.iconst X1204.here hx rfl (hb hby d6_13) (XS.iadd X1204.here hx rfl (hb hby d6_14) rfl (XS.iloadN X1204.here hx rfl (hb hby d6_15) rfl (XS.iconst X1204.here hx rfl (hb hby d6_16) (XS.ishl X1204.here hx rfl (hb hby d6_17) rfl (XS.iloadN X1204.here hx rfl (hb hby d6_18) rfl (XS.ifYes X1204.here hx rfl (pc0 := 19) (pc' := 26) rfl (hb hby d6_19) rfl ((if0 _ _).trans (teq (by decide : (0 : Int32) = (0 : Int32))).1) (by decide) (by decide) (XS.iconst X1204.here hx rfl (hb hby d6_26) (XS.ior X1204.here hx rfl (hb hby d6_27) rfl k)))))))))))) ?_
  show own_Goes p e below (T1204.setTop (mkF m 28 #[rv a1174, iv (0 : Int32), iv (2 : Int32), iv (0 : Int32)] [(.int (4 : Int32)), (.int (2 : Int32)), (.ref a1174)])) _
  have F1240 : Fld Z h1204 a1174 zs1 "first" "[I" (.ref a1179) := (pF_a1174_first.keep K1204 (ninS pN_a1174_a1179 nin0))
  have O1241 : Old Z n0 h1204 := (O0.keep K1204 (allS pG_a1179 all0))
  have E1242 : Exa Z h1204 a1174 zs1 := (pE_a1174.keep K1204)
  obtain ⟨cq1207, q1207, q1207'⟩ := E1242.cell
  obtain ⟨_, _, ⟨T1207, L1207, c1207, n1207⟩, -, X1207, ⟨Lc1207, hQ1207, l1207, y1207, z1207⟩, st1207⟩ := X1204.privateBack hx (y := (⟨zs1, "set", "(II)V"⟩ : MethodName)) hown (mvT hZ (wd hw 47 rfl)) (mvT hZ (wd hw 48 rfl)) (own_selPriv (mvT hZ (wd hw 3 rfl)) (mvT hZ (wd hw 48 rfl)) (Cond.privateMethod_at (mvP hZ (wd hw 49 rfl) (args := #[]))) (by decide)) (Cond.privateMethod_at (mvP hZ (wd hw 49 rfl) (args := #[]))) (mvT hZ (wd hw 50 rfl)) (by decide) (backOf (W := 0) (rm27 l Z a0 hw [] a1174 a1179 k1189 p1180 p1190 p1182 p1183 p1184 p1185 p1186 p1187 p1188 h1204 n0 O1241 F1240 vx1206 pG_a1179 ex1205) hZ (wd hw 50 rfl) (wd hw 4 rfl) (by decide) (by decide)) (g := (mkF m 28 #[rv a1174, iv (0 : Int32), iv (2 : Int32), iv (0 : Int32)] [(.int (4 : Int32)), (.int (2 : Int32)), (.ref a1174)])) rfl (by rw [hml]; rfl) (Steps.refl _) (a := a1174) (by rw [e1204]; exact q1207) q1207' (argsL := [(.int (2 : Int32)), (.int (4 : Int32))]) (rest := []) (lenOf pd_4 rfl) rfl (by show 2 * 0 + _ ≤ _; exact Nat.le_of_eq rfl) (hb hby d6_28) (fun _ _ => ⟨rfl, e1204, (by decide : 0 + 0 ≤ _), (by decide : 0 + 0 ≤ _)⟩)
  dsimp only [Pt.U, Pt.locs, Pt.cells, Pt.slots] at X1207 l1207 y1207 z1207 st1207 hQ1207
  subst l1207 y1207 z1207
  obtain ⟨h1207, e1207⟩ : ∃ z, T1207.heap = z := ⟨_, rfl⟩
  rw [e1207] at hQ1207
  obtain ⟨rfl, Nq1207, K1207, ex1243, vx1244⟩ := hQ1207
  have N1207 := Fr.app N1204 Nq1207
  refine own_via (fun t k => st1207.trans k) ?_
  obtain ⟨fs, hr, hrun, hended, hW, hsame⟩ := X1207.leave (v := none) (fun _ => rfl)
  refine own_end (t := T1207.setFrames fs) ?_ ⟨_, hrun, hended, _, _, rfl, ?_, ⟨_, rfl⟩, hW, hsame.mono (by decide) (by decide)⟩
  · exact X1207.returnOut hx Bd.returns (hb hby d6_31) hr
  · show Q28 Z a1174 p1190 a1179 k1189 p1180 p1181 p1182 p1183 p1184 p1185 p1186 p1187 p1188 h0 n0 _ T1207.heap _
    rw [e1207]
    exact ⟨rfl, N1207, (((Keep.refl h0 [a1179]).trans K1204 (allS (Or.inl (List.mem_of_getElem? (i := 0) rfl)) all0)).trans K1207 (allS (Or.inl (List.mem_of_getElem? (i := 0) rfl)) all0)), ex1243, vx1244⟩
set_option maxRecDepth 65536 in
set_option maxHeartbeats 40000000 in
theorem sfx2 (l : Launch) (Z : State) (a0 : Array Value) (hw : ∀ d ∈ tables_1, d.before a0 Z = true) (ws : List Jvm.Cond) {p : Program} {e : Env} {s : State} {m : MethodId} {below : List Frame} {meth : Method} {c : Code} {s₁ : State} (p1256 : Int32) (p1257 : Int32) (p1258 : Int32) (p1248 : Int32) (p1249 : Int32) (p1250 : Int32) (p1251 : Int32) (p1252 : Int32) (a1253 : Addr) (p1254 : Int32) (a1255 : Addr) (a1260 : Addr) (k1263 : ClassId) (p1261 : Int32) (p1262 : Int32) (k1259 : ClassId) (Bd : BodyLoose p l x (head1 (Jvm.Cond.code x code maxLocals ret :: ws) room_1) code maxLocals ret e s m #[(.int p1256), (.int p1257), (.int p1258)] below meth c s₁) (hZ : Z.Warmed39 s.vm) (hml : c.maxLocals = 18) {T0 : State} {locs0 : List Loc} (X0 : Stand p l e room_1 s m #[(.int p1256), (.int p1257), (.int p1258)] below meth c T0 locs0 8 120) (h0 : Heap) (e0 : T0.heap = h0) (n0 : Nat) (O0 : Old Z n0 h0) (N0 : Fr n0 locs0) (pF_a1255_text : Fld Z h0 a1255 zs1 "text" "[B" (.ref a1253)) (pF_a1255_first : Fld Z h0 a1255 zs1 "first" "[I" (.ref a1260)) (pV_a1260 : Arv Z h0 a1260 k1263 .int (16 : Int32) [(.int (0 : Int32)), (.int (7 : Int32)), (.int p1261), (.int (1 : Int32)), (.int (6 : Int32)), (.int p1262), (.int (1 : Int32)), (.int (0 : Int32)), (.int (0 : Int32))] (.int (0 : Int32))) (pE_a1255 : Exa Z h0 a1255 zs1) (pV_a1253 : Arv Z h0 a1253 k1259 .byte (2 : Int32) [(.int p1251), (.int p1252)] (.int (0 : Int32))) :
    own_Goes p e below (T0.setTop (mkF m 139 #[iv p1248, iv p1249, iv p1250, iv p1251, iv p1252, rv a1253, iv (0 : Int32), iv (1 : Int32), iv p1254, rv a1255, iv (0 : Int32), iv (3 : Int32), .unset, .unset, .unset, .unset, .unset, .unset] [])) (own_G s below n0) := by
  have hx := Bd.exec
  have hby := Bd.bytes
  have hown : s.vm.findClass zs2 = some m.cls := findClass_of_methodNamed Bd.named
  have hnm := (name_of_methodNamed Bd.named Bd.method).1
  show own_Goes p e below (T0.setTop (mkF m 139 #[iv p1248, iv p1249, iv p1250, iv p1251, iv p1252, rv a1253, iv (0 : Int32), iv (1 : Int32), iv p1254, rv a1255, iv (0 : Int32), iv (3 : Int32), .unset, .unset, .unset, .unset, .unset, .unset] [])) _
  refine own_via (fun t k => XS.bipush X0.here hx rfl (hb hby at_139) (XS.iload X0.here hx rfl (hb hby at_141) rfl (XS.iadd X0.here hx rfl (hb hby at_143) rfl (XS.istore X0.here hx rfl (hb hby at_144) rfl (l' := #[iv p1248, iv p1249, iv p1250, iv p1251, iv p1252, rv a1253, iv (0 : Int32), iv (1 : Int32), iv p1254, rv a1255, iv (0 : Int32), iv (3 : Int32), iv (6 : Int32), .unset, .unset, .unset, .unset, .unset]) rfl (XS.bipush X0.here hx rfl (hb hby at_146) (XS.iload X0.here hx rfl (hb hby at_148) rfl (XS.iadd X0.here hx rfl (hb hby at_150) rfl (XS.iload X0.here hx rfl (hb hby at_151) rfl (XS.iadd X0.here hx rfl (hb hby at_153) rfl (XS.istore X0.here hx rfl (hb hby at_154) rfl (l' := #[iv p1248, iv p1249, iv p1250, iv p1251, iv p1252, rv a1253, iv (0 : Int32), iv (1 : Int32), iv p1254, rv a1255, iv (0 : Int32), iv (3 : Int32), iv (6 : Int32), iv (7 : Int32), .unset, .unset, .unset, .unset]) rfl (XS.iloadN X0.here hx rfl (hb hby at_156) rfl k))))))))))) ?_
  show own_Goes p e below (T0.setTop (mkF m 157 #[iv p1248, iv p1249, iv p1250, iv p1251, iv p1252, rv a1253, iv (0 : Int32), iv (1 : Int32), iv p1254, rv a1255, iv (0 : Int32), iv (3 : Int32), iv (6 : Int32), iv (7 : Int32), .unset, .unset, .unset, .unset] [(.int p1251)])) _
  obtain ⟨_, T1275, _, X1275, hQ1275, st1275⟩ := own_cs X0 hx hZ hown (wd hw 51 rfl) (wd hw 52 rfl) (wd hw 54 rfl) (wd hw 53 rfl) (by decide) (rm17 l Z a0 hw [] p1251 h0 n0 O0 ) e0 (g := (mkF m 157 #[iv p1248, iv p1249, iv p1250, iv p1251, iv p1252, rv a1253, iv (0 : Int32), iv (1 : Int32), iv p1254, rv a1255, iv (0 : Int32), iv (3 : Int32), iv (6 : Int32), iv (7 : Int32), .unset, .unset, .unset, .unset] [(.int p1251)])) rfl (by rw [hml]; rfl) (rest := []) (W := 0) (lenOf pd_6 rfl) rfl (by show 2 * 0 + _ ≤ _; exact Nat.le_of_eq rfl) (hb hby at_157) (by decide) (by decide) (by decide) (by decide)
  rcases hQ1275 with ⟨hd1276, rfl, Nq1275, hh1277⟩ | ⟨hq1278, hq1279, rfl, Nq1275, hh1280⟩
  · have N1275 := Fr.app N0 Nq1275
    refine own_via (fun t k => st1275 t (XS.ifNo X1275.here hx rfl (hb hby at_160) rfl ((if0 _ _).trans (feq (by decide : ¬ ((1 : Int32) = (0 : Int32)))).1) (XS.iload X1275.here hx rfl (hb hby at_163) rfl (XS.goto X1275.here hx rfl (pc0 := 165) (pc' := 169) rfl (hb hby at_165) (by decide) (by decide) (XS.istore X1275.here hx rfl (hb hby at_169) rfl (l' := #[iv p1248, iv p1249, iv p1250, iv p1251, iv p1252, rv a1253, iv (0 : Int32), iv (1 : Int32), iv p1254, rv a1255, iv (0 : Int32), iv (3 : Int32), iv (6 : Int32), iv (7 : Int32), iv (7 : Int32), .unset, .unset, .unset]) rfl (XS.iload X1275.here hx rfl (hb hby at_171) rfl k)))))) ?_
    show own_Goes p e below (T1275.setTop (mkF m 173 #[iv p1248, iv p1249, iv p1250, iv p1251, iv p1252, rv a1253, iv (0 : Int32), iv (1 : Int32), iv p1254, rv a1255, iv (0 : Int32), iv (3 : Int32), iv (6 : Int32), iv (7 : Int32), iv (7 : Int32), .unset, .unset, .unset] [(.int p1252)])) _
    obtain ⟨_, T1281, _, X1281, hQ1281, st1281⟩ := own_cs X1275 hx hZ hown (wd hw 51 rfl) (wd hw 52 rfl) (wd hw 54 rfl) (wd hw 53 rfl) (by decide) (rm17 l Z a0 hw [] p1252 h0 n0 O0 ) hh1277 (g := (mkF m 173 #[iv p1248, iv p1249, iv p1250, iv p1251, iv p1252, rv a1253, iv (0 : Int32), iv (1 : Int32), iv p1254, rv a1255, iv (0 : Int32), iv (3 : Int32), iv (6 : Int32), iv (7 : Int32), iv (7 : Int32), .unset, .unset, .unset] [(.int p1252)])) rfl (by rw [hml]; rfl) (rest := []) (W := 0) (lenOf pd_6 rfl) rfl (by show 2 * 0 + _ ≤ _; exact Nat.le_of_eq rfl) (hb hby at_173) (by decide) (by decide) (by decide) (by decide)
    rcases hQ1281 with ⟨hd1282, rfl, Nq1281, hh1283⟩ | ⟨hq1284, hq1285, rfl, Nq1281, hh1286⟩
    · have N1281 := Fr.app N1275 Nq1281
      refine own_via (fun t k => st1281 t (XS.ifNo X1281.here hx rfl (hb hby at_176) rfl ((if0 _ _).trans (feq (by decide : ¬ ((1 : Int32) = (0 : Int32)))).1) (XS.iload X1281.here hx rfl (hb hby at_179) rfl (XS.goto X1281.here hx rfl (pc0 := 181) (pc' := 185) rfl (hb hby at_181) (by decide) (by decide) (XS.istore X1281.here hx rfl (hb hby at_185) rfl (l' := #[iv p1248, iv p1249, iv p1250, iv p1251, iv p1252, rv a1253, iv (0 : Int32), iv (1 : Int32), iv p1254, rv a1255, iv (0 : Int32), iv (3 : Int32), iv (6 : Int32), iv (7 : Int32), iv (7 : Int32), iv (6 : Int32), .unset, .unset]) rfl (XS.aload X1281.here hx rfl (hb hby at_187) rfl rfl (XS.iload X1281.here hx rfl (hb hby at_189) rfl k))))))) ?_
      show own_Goes p e below (T1281.setTop (mkF m 191 #[iv p1248, iv p1249, iv p1250, iv p1251, iv p1252, rv a1253, iv (0 : Int32), iv (1 : Int32), iv p1254, rv a1255, iv (0 : Int32), iv (3 : Int32), iv (6 : Int32), iv (7 : Int32), iv (7 : Int32), iv (6 : Int32), .unset, .unset] [(.int (0 : Int32)), (.ref a1255)])) _
      obtain ⟨_, T1287, _, X1287, hQ1287, st1287⟩ := own_cv X1281 hx hZ hown (wd hw 55 rfl) (wd hw 56 rfl) (wd hw 58 rfl) (wd hw 57 rfl) (wd hw 59 rfl) (wd hw 4 rfl) (by decide) (rm20 l Z a0 hw [] a1255 a1253 a1260 k1263 (7 : Int32) p1261 (1 : Int32) (6 : Int32) p1262 (1 : Int32) (0 : Int32) (0 : Int32) k1259 p1251 p1252 h0 n0 O0 pF_a1255_text pF_a1255_first pV_a1260 pE_a1255 pV_a1253 hd1276) hh1283 pE_a1255 (g := (mkF m 191 #[iv p1248, iv p1249, iv p1250, iv p1251, iv p1252, rv a1253, iv (0 : Int32), iv (1 : Int32), iv p1254, rv a1255, iv (0 : Int32), iv (3 : Int32), iv (6 : Int32), iv (7 : Int32), iv (7 : Int32), iv (6 : Int32), .unset, .unset] [(.int (0 : Int32)), (.ref a1255)])) rfl (by rw [hml]; rfl) (rest := []) (W := 0) (lenOf pd_3 rfl) rfl (by show 2 * 0 + _ ≤ _; exact Nat.le_of_eq rfl) (hb hby at_191) (by decide) (by decide) (by decide) (by decide)
      obtain ⟨hd1288, rfl, Nq1287, hh1289⟩ := hQ1287
      have N1287 := Fr.app N1281 Nq1287
      refine own_via (fun t k => st1287 t (XS.istore X1287.here hx rfl (hb hby at_194) rfl (l' := #[iv p1248, iv p1249, iv p1250, iv p1251, iv p1252, rv a1253, iv (0 : Int32), iv (1 : Int32), iv p1254, rv a1255, iv (0 : Int32), iv (3 : Int32), iv (6 : Int32), iv (7 : Int32), iv (7 : Int32), iv (6 : Int32), iv (7 : Int32), .unset]) rfl (XS.aload X1287.here hx rfl (hb hby at_196) rfl rfl (XS.iload X1287.here hx rfl (hb hby at_198) rfl k)))) ?_
      show own_Goes p e below (T1287.setTop (mkF m 200 #[iv p1248, iv p1249, iv p1250, iv p1251, iv p1252, rv a1253, iv (0 : Int32), iv (1 : Int32), iv p1254, rv a1255, iv (0 : Int32), iv (3 : Int32), iv (6 : Int32), iv (7 : Int32), iv (7 : Int32), iv (6 : Int32), iv (7 : Int32), .unset] [(.int (3 : Int32)), (.ref a1255)])) _
      obtain ⟨_, T1290, _, X1290, hQ1290, st1290⟩ := own_cv X1287 hx hZ hown (wd hw 55 rfl) (wd hw 56 rfl) (wd hw 58 rfl) (wd hw 57 rfl) (wd hw 59 rfl) (wd hw 4 rfl) (by decide) (rm23 l Z a0 hw [] a1255 a1253 a1260 k1263 (0 : Int32) (7 : Int32) p1261 (6 : Int32) p1262 (1 : Int32) (0 : Int32) (0 : Int32) k1259 p1251 p1252 h0 n0 O0 pF_a1255_text pF_a1255_first pV_a1260 pE_a1255 pV_a1253 hd1282) hh1289 pE_a1255 (g := (mkF m 200 #[iv p1248, iv p1249, iv p1250, iv p1251, iv p1252, rv a1253, iv (0 : Int32), iv (1 : Int32), iv p1254, rv a1255, iv (0 : Int32), iv (3 : Int32), iv (6 : Int32), iv (7 : Int32), iv (7 : Int32), iv (6 : Int32), iv (7 : Int32), .unset] [(.int (3 : Int32)), (.ref a1255)])) rfl (by rw [hml]; rfl) (rest := []) (W := 0) (lenOf pd_3 rfl) rfl (by show 2 * 0 + _ ≤ _; exact Nat.le_of_eq rfl) (hb hby at_200) (by decide) (by decide) (by decide) (by decide)
      obtain ⟨hd1291, rfl, Nq1290, hh1292⟩ := hQ1290
      have N1290 := Fr.app N1287 Nq1290
      refine own_via (fun t k => st1290 t (XS.istore X1290.here hx rfl (hb hby at_203) rfl (l' := #[iv p1248, iv p1249, iv p1250, iv p1251, iv p1252, rv a1253, iv (0 : Int32), iv (1 : Int32), iv p1254, rv a1255, iv (0 : Int32), iv (3 : Int32), iv (6 : Int32), iv (7 : Int32), iv (7 : Int32), iv (6 : Int32), iv (7 : Int32), iv (6 : Int32)]) rfl (XS.iload X1290.here hx rfl (hb hby at_205) rfl (XS.ifNo X1290.here hx rfl (hb hby at_207) rfl ((if0 _ _).trans (teq (by decide : (0 : Int32) = (0 : Int32))).2) (XS.iload X1290.here hx rfl (hb hby at_210) rfl (XS.iconst X1290.here hx rfl (hb hby at_212) (XS.icmpNo X1290.here hx rfl (hb hby at_213) rfl (teq (by decide : (3 : Int32) = (3 : Int32))).2 (XS.iload X1290.here hx rfl (hb hby at_216) rfl (XS.iload X1290.here hx rfl (hb hby at_218) rfl (XS.icmpNo X1290.here hx rfl (hb hby at_220) rfl (teq (by decide : (7 : Int32) = (7 : Int32))).2 (XS.iload X1290.here hx rfl (hb hby at_223) rfl (XS.iload X1290.here hx rfl (hb hby at_225) rfl k)))))))))))) ?_
      show own_Goes p e below (T1290.setTop (mkF m 227 #[iv p1248, iv p1249, iv p1250, iv p1251, iv p1252, rv a1253, iv (0 : Int32), iv (1 : Int32), iv p1254, rv a1255, iv (0 : Int32), iv (3 : Int32), iv (6 : Int32), iv (7 : Int32), iv (7 : Int32), iv (6 : Int32), iv (7 : Int32), iv (6 : Int32)] [(.int (6 : Int32)), (.int (6 : Int32))])) _
      refine own_via (fun t k => XS.icmpNo X1290.here hx rfl (hb hby at_227) rfl (teq (by decide : (6 : Int32) = (6 : Int32))).2 (XS.iconst X1290.here hx rfl (hb hby at_230) (XS.goto X1290.here hx rfl (pc0 := 231) (pc' := 235) rfl (hb hby at_231) (by decide) (by decide) k))) ?_
      show own_Goes p e below (T1290.setTop (mkF m 235 #[iv p1248, iv p1249, iv p1250, iv p1251, iv p1252, rv a1253, iv (0 : Int32), iv (1 : Int32), iv p1254, rv a1255, iv (0 : Int32), iv (3 : Int32), iv (6 : Int32), iv (7 : Int32), iv (7 : Int32), iv (6 : Int32), iv (7 : Int32), iv (6 : Int32)] [(.int (1 : Int32))])) _
      obtain ⟨fs, hr, hrun, hended, hW, hsame⟩ := X1290.leave (v := some (.int (1 : Int32))) (fun h => by rw [Bd.returns] at h; cases h)
      refine own_end (t := T1290.setFrames fs) ?_ ⟨_, hrun, hended, _, _, rfl, ?_, ⟨_, rfl⟩, hW, hsame.mono (by decide) (by decide)⟩
      · exact retN X1290 hx (t := .boolean) Bd.returns (by simp) (hb hby at_235) hr
      · exact ⟨rfl, N1290⟩
    · have N1281 := Fr.app N1275 Nq1281
      refine own_via (fun t k => st1281 t (XS.ifYes X1281.here hx rfl (pc0 := 176) (pc' := 184) rfl (hb hby at_176) rfl ((if0 _ _).trans (teq (by decide : (0 : Int32) = (0 : Int32))).1) (by decide) (by decide) (XS.iconst X1281.here hx rfl (hb hby at_184) (XS.istore X1281.here hx rfl (hb hby at_185) rfl (l' := #[iv p1248, iv p1249, iv p1250, iv p1251, iv p1252, rv a1253, iv (0 : Int32), iv (1 : Int32), iv p1254, rv a1255, iv (0 : Int32), iv (3 : Int32), iv (6 : Int32), iv (7 : Int32), iv (7 : Int32), iv (4 : Int32), .unset, .unset]) rfl (XS.aload X1281.here hx rfl (hb hby at_187) rfl rfl (XS.iload X1281.here hx rfl (hb hby at_189) rfl k)))))) ?_
      show own_Goes p e below (T1281.setTop (mkF m 191 #[iv p1248, iv p1249, iv p1250, iv p1251, iv p1252, rv a1253, iv (0 : Int32), iv (1 : Int32), iv p1254, rv a1255, iv (0 : Int32), iv (3 : Int32), iv (6 : Int32), iv (7 : Int32), iv (7 : Int32), iv (4 : Int32), .unset, .unset] [(.int (0 : Int32)), (.ref a1255)])) _
      obtain ⟨_, T1293, _, X1293, hQ1293, st1293⟩ := own_cv X1281 hx hZ hown (wd hw 55 rfl) (wd hw 56 rfl) (wd hw 58 rfl) (wd hw 57 rfl) (wd hw 59 rfl) (wd hw 4 rfl) (by decide) (rm20 l Z a0 hw [] a1255 a1253 a1260 k1263 (7 : Int32) p1261 (1 : Int32) (6 : Int32) p1262 (1 : Int32) (0 : Int32) (0 : Int32) k1259 p1251 p1252 h0 n0 O0 pF_a1255_text pF_a1255_first pV_a1260 pE_a1255 pV_a1253 hd1276) hh1286 pE_a1255 (g := (mkF m 191 #[iv p1248, iv p1249, iv p1250, iv p1251, iv p1252, rv a1253, iv (0 : Int32), iv (1 : Int32), iv p1254, rv a1255, iv (0 : Int32), iv (3 : Int32), iv (6 : Int32), iv (7 : Int32), iv (7 : Int32), iv (4 : Int32), .unset, .unset] [(.int (0 : Int32)), (.ref a1255)])) rfl (by rw [hml]; rfl) (rest := []) (W := 0) (lenOf pd_3 rfl) rfl (by show 2 * 0 + _ ≤ _; exact Nat.le_of_eq rfl) (hb hby at_191) (by decide) (by decide) (by decide) (by decide)
      obtain ⟨hd1294, rfl, Nq1293, hh1295⟩ := hQ1293
      have N1293 := Fr.app N1281 Nq1293
      refine own_via (fun t k => st1293 t (XS.istore X1293.here hx rfl (hb hby at_194) rfl (l' := #[iv p1248, iv p1249, iv p1250, iv p1251, iv p1252, rv a1253, iv (0 : Int32), iv (1 : Int32), iv p1254, rv a1255, iv (0 : Int32), iv (3 : Int32), iv (6 : Int32), iv (7 : Int32), iv (7 : Int32), iv (4 : Int32), iv (7 : Int32), .unset]) rfl (XS.aload X1293.here hx rfl (hb hby at_196) rfl rfl (XS.iload X1293.here hx rfl (hb hby at_198) rfl k)))) ?_
      show own_Goes p e below (T1293.setTop (mkF m 200 #[iv p1248, iv p1249, iv p1250, iv p1251, iv p1252, rv a1253, iv (0 : Int32), iv (1 : Int32), iv p1254, rv a1255, iv (0 : Int32), iv (3 : Int32), iv (6 : Int32), iv (7 : Int32), iv (7 : Int32), iv (4 : Int32), iv (7 : Int32), .unset] [(.int (3 : Int32)), (.ref a1255)])) _
      obtain ⟨_, T1296, _, X1296, hQ1296, st1296⟩ := own_cv X1293 hx hZ hown (wd hw 55 rfl) (wd hw 56 rfl) (wd hw 58 rfl) (wd hw 57 rfl) (wd hw 59 rfl) (wd hw 4 rfl) (by decide) (rm24 l Z a0 hw [] a1255 a1253 a1260 k1263 (0 : Int32) (7 : Int32) p1261 (6 : Int32) p1262 (1 : Int32) (0 : Int32) (0 : Int32) k1259 p1251 p1252 h0 n0 O0 pF_a1255_text pF_a1255_first pV_a1260 pE_a1255 pV_a1253 hq1284 hq1285) hh1295 pE_a1255 (g := (mkF m 200 #[iv p1248, iv p1249, iv p1250, iv p1251, iv p1252, rv a1253, iv (0 : Int32), iv (1 : Int32), iv p1254, rv a1255, iv (0 : Int32), iv (3 : Int32), iv (6 : Int32), iv (7 : Int32), iv (7 : Int32), iv (4 : Int32), iv (7 : Int32), .unset] [(.int (3 : Int32)), (.ref a1255)])) rfl (by rw [hml]; rfl) (rest := []) (W := 0) (lenOf pd_3 rfl) rfl (by show 2 * 0 + _ ≤ _; exact Nat.le_of_eq rfl) (hb hby at_200) (by decide) (by decide) (by decide) (by decide)
      obtain ⟨rfl, Nq1296, hh1297⟩ := hQ1296
      have N1296 := Fr.app N1293 Nq1296
      refine own_via (fun t k => st1296 t (XS.istore X1296.here hx rfl (hb hby at_203) rfl (l' := #[iv p1248, iv p1249, iv p1250, iv p1251, iv p1252, rv a1253, iv (0 : Int32), iv (1 : Int32), iv p1254, rv a1255, iv (0 : Int32), iv (3 : Int32), iv (6 : Int32), iv (7 : Int32), iv (7 : Int32), iv (4 : Int32), iv (7 : Int32), iv (4 : Int32)]) rfl (XS.iload X1296.here hx rfl (hb hby at_205) rfl (XS.ifNo X1296.here hx rfl (hb hby at_207) rfl ((if0 _ _).trans (teq (by decide : (0 : Int32) = (0 : Int32))).2) (XS.iload X1296.here hx rfl (hb hby at_210) rfl (XS.iconst X1296.here hx rfl (hb hby at_212) (XS.icmpNo X1296.here hx rfl (hb hby at_213) rfl (teq (by decide : (3 : Int32) = (3 : Int32))).2 (XS.iload X1296.here hx rfl (hb hby at_216) rfl (XS.iload X1296.here hx rfl (hb hby at_218) rfl (XS.icmpNo X1296.here hx rfl (hb hby at_220) rfl (teq (by decide : (7 : Int32) = (7 : Int32))).2 (XS.iload X1296.here hx rfl (hb hby at_223) rfl (XS.iload X1296.here hx rfl (hb hby at_225) rfl k)))))))))))) ?_
      show own_Goes p e below (T1296.setTop (mkF m 227 #[iv p1248, iv p1249, iv p1250, iv p1251, iv p1252, rv a1253, iv (0 : Int32), iv (1 : Int32), iv p1254, rv a1255, iv (0 : Int32), iv (3 : Int32), iv (6 : Int32), iv (7 : Int32), iv (7 : Int32), iv (4 : Int32), iv (7 : Int32), iv (4 : Int32)] [(.int (4 : Int32)), (.int (4 : Int32))])) _
      refine own_via (fun t k => XS.icmpNo X1296.here hx rfl (hb hby at_227) rfl (teq (by decide : (4 : Int32) = (4 : Int32))).2 (XS.iconst X1296.here hx rfl (hb hby at_230) (XS.goto X1296.here hx rfl (pc0 := 231) (pc' := 235) rfl (hb hby at_231) (by decide) (by decide) k))) ?_
      show own_Goes p e below (T1296.setTop (mkF m 235 #[iv p1248, iv p1249, iv p1250, iv p1251, iv p1252, rv a1253, iv (0 : Int32), iv (1 : Int32), iv p1254, rv a1255, iv (0 : Int32), iv (3 : Int32), iv (6 : Int32), iv (7 : Int32), iv (7 : Int32), iv (4 : Int32), iv (7 : Int32), iv (4 : Int32)] [(.int (1 : Int32))])) _
      obtain ⟨fs, hr, hrun, hended, hW, hsame⟩ := X1296.leave (v := some (.int (1 : Int32))) (fun h => by rw [Bd.returns] at h; cases h)
      refine own_end (t := T1296.setFrames fs) ?_ ⟨_, hrun, hended, _, _, rfl, ?_, ⟨_, rfl⟩, hW, hsame.mono (by decide) (by decide)⟩
      · exact retN X1296 hx (t := .boolean) Bd.returns (by simp) (hb hby at_235) hr
      · exact ⟨rfl, N1296⟩
  · have N1275 := Fr.app N0 Nq1275
    refine own_via (fun t k => st1275 t (XS.ifYes X1275.here hx rfl (pc0 := 160) (pc' := 168) rfl (hb hby at_160) rfl ((if0 _ _).trans (teq (by decide : (0 : Int32) = (0 : Int32))).1) (by decide) (by decide) (XS.iconst X1275.here hx rfl (hb hby at_168) (XS.istore X1275.here hx rfl (hb hby at_169) rfl (l' := #[iv p1248, iv p1249, iv p1250, iv p1251, iv p1252, rv a1253, iv (0 : Int32), iv (1 : Int32), iv p1254, rv a1255, iv (0 : Int32), iv (3 : Int32), iv (6 : Int32), iv (7 : Int32), iv (1 : Int32), .unset, .unset, .unset]) rfl (XS.iload X1275.here hx rfl (hb hby at_171) rfl k))))) ?_
    show own_Goes p e below (T1275.setTop (mkF m 173 #[iv p1248, iv p1249, iv p1250, iv p1251, iv p1252, rv a1253, iv (0 : Int32), iv (1 : Int32), iv p1254, rv a1255, iv (0 : Int32), iv (3 : Int32), iv (6 : Int32), iv (7 : Int32), iv (1 : Int32), .unset, .unset, .unset] [(.int p1252)])) _
    obtain ⟨_, T1298, _, X1298, hQ1298, st1298⟩ := own_cs X1275 hx hZ hown (wd hw 51 rfl) (wd hw 52 rfl) (wd hw 54 rfl) (wd hw 53 rfl) (by decide) (rm17 l Z a0 hw [] p1252 h0 n0 O0 ) hh1280 (g := (mkF m 173 #[iv p1248, iv p1249, iv p1250, iv p1251, iv p1252, rv a1253, iv (0 : Int32), iv (1 : Int32), iv p1254, rv a1255, iv (0 : Int32), iv (3 : Int32), iv (6 : Int32), iv (7 : Int32), iv (1 : Int32), .unset, .unset, .unset] [(.int p1252)])) rfl (by rw [hml]; rfl) (rest := []) (W := 0) (lenOf pd_6 rfl) rfl (by show 2 * 0 + _ ≤ _; exact Nat.le_of_eq rfl) (hb hby at_173) (by decide) (by decide) (by decide) (by decide)
    rcases hQ1298 with ⟨hd1299, rfl, Nq1298, hh1300⟩ | ⟨hq1301, hq1302, rfl, Nq1298, hh1303⟩
    · have N1298 := Fr.app N1275 Nq1298
      refine own_via (fun t k => st1298 t (XS.ifNo X1298.here hx rfl (hb hby at_176) rfl ((if0 _ _).trans (feq (by decide : ¬ ((1 : Int32) = (0 : Int32)))).1) (XS.iload X1298.here hx rfl (hb hby at_179) rfl (XS.goto X1298.here hx rfl (pc0 := 181) (pc' := 185) rfl (hb hby at_181) (by decide) (by decide) (XS.istore X1298.here hx rfl (hb hby at_185) rfl (l' := #[iv p1248, iv p1249, iv p1250, iv p1251, iv p1252, rv a1253, iv (0 : Int32), iv (1 : Int32), iv p1254, rv a1255, iv (0 : Int32), iv (3 : Int32), iv (6 : Int32), iv (7 : Int32), iv (1 : Int32), iv (6 : Int32), .unset, .unset]) rfl (XS.aload X1298.here hx rfl (hb hby at_187) rfl rfl (XS.iload X1298.here hx rfl (hb hby at_189) rfl k))))))) ?_
      show own_Goes p e below (T1298.setTop (mkF m 191 #[iv p1248, iv p1249, iv p1250, iv p1251, iv p1252, rv a1253, iv (0 : Int32), iv (1 : Int32), iv p1254, rv a1255, iv (0 : Int32), iv (3 : Int32), iv (6 : Int32), iv (7 : Int32), iv (1 : Int32), iv (6 : Int32), .unset, .unset] [(.int (0 : Int32)), (.ref a1255)])) _
      obtain ⟨_, T1304, _, X1304, hQ1304, st1304⟩ := own_cv X1298 hx hZ hown (wd hw 55 rfl) (wd hw 56 rfl) (wd hw 58 rfl) (wd hw 57 rfl) (wd hw 59 rfl) (wd hw 4 rfl) (by decide) (rm25 l Z a0 hw [] a1255 a1253 a1260 k1263 (7 : Int32) p1261 (1 : Int32) (6 : Int32) p1262 (1 : Int32) (0 : Int32) (0 : Int32) k1259 p1251 p1252 h0 n0 O0 pF_a1255_text pF_a1255_first pV_a1260 pE_a1255 pV_a1253 hq1278 hq1279) hh1300 pE_a1255 (g := (mkF m 191 #[iv p1248, iv p1249, iv p1250, iv p1251, iv p1252, rv a1253, iv (0 : Int32), iv (1 : Int32), iv p1254, rv a1255, iv (0 : Int32), iv (3 : Int32), iv (6 : Int32), iv (7 : Int32), iv (1 : Int32), iv (6 : Int32), .unset, .unset] [(.int (0 : Int32)), (.ref a1255)])) rfl (by rw [hml]; rfl) (rest := []) (W := 0) (lenOf pd_3 rfl) rfl (by show 2 * 0 + _ ≤ _; exact Nat.le_of_eq rfl) (hb hby at_191) (by decide) (by decide) (by decide) (by decide)
      obtain ⟨rfl, Nq1304, hh1305⟩ := hQ1304
      have N1304 := Fr.app N1298 Nq1304
      refine own_via (fun t k => st1304 t (XS.istore X1304.here hx rfl (hb hby at_194) rfl (l' := #[iv p1248, iv p1249, iv p1250, iv p1251, iv p1252, rv a1253, iv (0 : Int32), iv (1 : Int32), iv p1254, rv a1255, iv (0 : Int32), iv (3 : Int32), iv (6 : Int32), iv (7 : Int32), iv (1 : Int32), iv (6 : Int32), iv (1 : Int32), .unset]) rfl (XS.aload X1304.here hx rfl (hb hby at_196) rfl rfl (XS.iload X1304.here hx rfl (hb hby at_198) rfl k)))) ?_
      show own_Goes p e below (T1304.setTop (mkF m 200 #[iv p1248, iv p1249, iv p1250, iv p1251, iv p1252, rv a1253, iv (0 : Int32), iv (1 : Int32), iv p1254, rv a1255, iv (0 : Int32), iv (3 : Int32), iv (6 : Int32), iv (7 : Int32), iv (1 : Int32), iv (6 : Int32), iv (1 : Int32), .unset] [(.int (3 : Int32)), (.ref a1255)])) _
      obtain ⟨_, T1306, _, X1306, hQ1306, st1306⟩ := own_cv X1304 hx hZ hown (wd hw 55 rfl) (wd hw 56 rfl) (wd hw 58 rfl) (wd hw 57 rfl) (wd hw 59 rfl) (wd hw 4 rfl) (by decide) (rm23 l Z a0 hw [] a1255 a1253 a1260 k1263 (0 : Int32) (7 : Int32) p1261 (6 : Int32) p1262 (1 : Int32) (0 : Int32) (0 : Int32) k1259 p1251 p1252 h0 n0 O0 pF_a1255_text pF_a1255_first pV_a1260 pE_a1255 pV_a1253 hd1299) hh1305 pE_a1255 (g := (mkF m 200 #[iv p1248, iv p1249, iv p1250, iv p1251, iv p1252, rv a1253, iv (0 : Int32), iv (1 : Int32), iv p1254, rv a1255, iv (0 : Int32), iv (3 : Int32), iv (6 : Int32), iv (7 : Int32), iv (1 : Int32), iv (6 : Int32), iv (1 : Int32), .unset] [(.int (3 : Int32)), (.ref a1255)])) rfl (by rw [hml]; rfl) (rest := []) (W := 0) (lenOf pd_3 rfl) rfl (by show 2 * 0 + _ ≤ _; exact Nat.le_of_eq rfl) (hb hby at_200) (by decide) (by decide) (by decide) (by decide)
      obtain ⟨hd1307, rfl, Nq1306, hh1308⟩ := hQ1306
      have N1306 := Fr.app N1304 Nq1306
      refine own_via (fun t k => st1306 t (XS.istore X1306.here hx rfl (hb hby at_203) rfl (l' := #[iv p1248, iv p1249, iv p1250, iv p1251, iv p1252, rv a1253, iv (0 : Int32), iv (1 : Int32), iv p1254, rv a1255, iv (0 : Int32), iv (3 : Int32), iv (6 : Int32), iv (7 : Int32), iv (1 : Int32), iv (6 : Int32), iv (1 : Int32), iv (6 : Int32)]) rfl (XS.iload X1306.here hx rfl (hb hby at_205) rfl (XS.ifNo X1306.here hx rfl (hb hby at_207) rfl ((if0 _ _).trans (teq (by decide : (0 : Int32) = (0 : Int32))).2) (XS.iload X1306.here hx rfl (hb hby at_210) rfl (XS.iconst X1306.here hx rfl (hb hby at_212) (XS.icmpNo X1306.here hx rfl (hb hby at_213) rfl (teq (by decide : (3 : Int32) = (3 : Int32))).2 (XS.iload X1306.here hx rfl (hb hby at_216) rfl (XS.iload X1306.here hx rfl (hb hby at_218) rfl (XS.icmpNo X1306.here hx rfl (hb hby at_220) rfl (teq (by decide : (1 : Int32) = (1 : Int32))).2 (XS.iload X1306.here hx rfl (hb hby at_223) rfl (XS.iload X1306.here hx rfl (hb hby at_225) rfl k)))))))))))) ?_
      show own_Goes p e below (T1306.setTop (mkF m 227 #[iv p1248, iv p1249, iv p1250, iv p1251, iv p1252, rv a1253, iv (0 : Int32), iv (1 : Int32), iv p1254, rv a1255, iv (0 : Int32), iv (3 : Int32), iv (6 : Int32), iv (7 : Int32), iv (1 : Int32), iv (6 : Int32), iv (1 : Int32), iv (6 : Int32)] [(.int (6 : Int32)), (.int (6 : Int32))])) _
      refine own_via (fun t k => XS.icmpNo X1306.here hx rfl (hb hby at_227) rfl (teq (by decide : (6 : Int32) = (6 : Int32))).2 (XS.iconst X1306.here hx rfl (hb hby at_230) (XS.goto X1306.here hx rfl (pc0 := 231) (pc' := 235) rfl (hb hby at_231) (by decide) (by decide) k))) ?_
      show own_Goes p e below (T1306.setTop (mkF m 235 #[iv p1248, iv p1249, iv p1250, iv p1251, iv p1252, rv a1253, iv (0 : Int32), iv (1 : Int32), iv p1254, rv a1255, iv (0 : Int32), iv (3 : Int32), iv (6 : Int32), iv (7 : Int32), iv (1 : Int32), iv (6 : Int32), iv (1 : Int32), iv (6 : Int32)] [(.int (1 : Int32))])) _
      obtain ⟨fs, hr, hrun, hended, hW, hsame⟩ := X1306.leave (v := some (.int (1 : Int32))) (fun h => by rw [Bd.returns] at h; cases h)
      refine own_end (t := T1306.setFrames fs) ?_ ⟨_, hrun, hended, _, _, rfl, ?_, ⟨_, rfl⟩, hW, hsame.mono (by decide) (by decide)⟩
      · exact retN X1306 hx (t := .boolean) Bd.returns (by simp) (hb hby at_235) hr
      · exact ⟨rfl, N1306⟩
    · have N1298 := Fr.app N1275 Nq1298
      refine own_via (fun t k => st1298 t (XS.ifYes X1298.here hx rfl (pc0 := 176) (pc' := 184) rfl (hb hby at_176) rfl ((if0 _ _).trans (teq (by decide : (0 : Int32) = (0 : Int32))).1) (by decide) (by decide) (XS.iconst X1298.here hx rfl (hb hby at_184) (XS.istore X1298.here hx rfl (hb hby at_185) rfl (l' := #[iv p1248, iv p1249, iv p1250, iv p1251, iv p1252, rv a1253, iv (0 : Int32), iv (1 : Int32), iv p1254, rv a1255, iv (0 : Int32), iv (3 : Int32), iv (6 : Int32), iv (7 : Int32), iv (1 : Int32), iv (4 : Int32), .unset, .unset]) rfl (XS.aload X1298.here hx rfl (hb hby at_187) rfl rfl (XS.iload X1298.here hx rfl (hb hby at_189) rfl k)))))) ?_
      show own_Goes p e below (T1298.setTop (mkF m 191 #[iv p1248, iv p1249, iv p1250, iv p1251, iv p1252, rv a1253, iv (0 : Int32), iv (1 : Int32), iv p1254, rv a1255, iv (0 : Int32), iv (3 : Int32), iv (6 : Int32), iv (7 : Int32), iv (1 : Int32), iv (4 : Int32), .unset, .unset] [(.int (0 : Int32)), (.ref a1255)])) _
      obtain ⟨_, T1309, _, X1309, hQ1309, st1309⟩ := own_cv X1298 hx hZ hown (wd hw 55 rfl) (wd hw 56 rfl) (wd hw 58 rfl) (wd hw 57 rfl) (wd hw 59 rfl) (wd hw 4 rfl) (by decide) (rm25 l Z a0 hw [] a1255 a1253 a1260 k1263 (7 : Int32) p1261 (1 : Int32) (6 : Int32) p1262 (1 : Int32) (0 : Int32) (0 : Int32) k1259 p1251 p1252 h0 n0 O0 pF_a1255_text pF_a1255_first pV_a1260 pE_a1255 pV_a1253 hq1278 hq1279) hh1303 pE_a1255 (g := (mkF m 191 #[iv p1248, iv p1249, iv p1250, iv p1251, iv p1252, rv a1253, iv (0 : Int32), iv (1 : Int32), iv p1254, rv a1255, iv (0 : Int32), iv (3 : Int32), iv (6 : Int32), iv (7 : Int32), iv (1 : Int32), iv (4 : Int32), .unset, .unset] [(.int (0 : Int32)), (.ref a1255)])) rfl (by rw [hml]; rfl) (rest := []) (W := 0) (lenOf pd_3 rfl) rfl (by show 2 * 0 + _ ≤ _; exact Nat.le_of_eq rfl) (hb hby at_191) (by decide) (by decide) (by decide) (by decide)
      obtain ⟨rfl, Nq1309, hh1310⟩ := hQ1309
      have N1309 := Fr.app N1298 Nq1309
      refine own_via (fun t k => st1309 t (XS.istore X1309.here hx rfl (hb hby at_194) rfl (l' := #[iv p1248, iv p1249, iv p1250, iv p1251, iv p1252, rv a1253, iv (0 : Int32), iv (1 : Int32), iv p1254, rv a1255, iv (0 : Int32), iv (3 : Int32), iv (6 : Int32), iv (7 : Int32), iv (1 : Int32), iv (4 : Int32), iv (1 : Int32), .unset]) rfl (XS.aload X1309.here hx rfl (hb hby at_196) rfl rfl (XS.iload X1309.here hx rfl (hb hby at_198) rfl k)))) ?_
      show own_Goes p e below (T1309.setTop (mkF m 200 #[iv p1248, iv p1249, iv p1250, iv p1251, iv p1252, rv a1253, iv (0 : Int32), iv (1 : Int32), iv p1254, rv a1255, iv (0 : Int32), iv (3 : Int32), iv (6 : Int32), iv (7 : Int32), iv (1 : Int32), iv (4 : Int32), iv (1 : Int32), .unset] [(.int (3 : Int32)), (.ref a1255)])) _
      obtain ⟨_, T1311, _, X1311, hQ1311, st1311⟩ := own_cv X1309 hx hZ hown (wd hw 55 rfl) (wd hw 56 rfl) (wd hw 58 rfl) (wd hw 57 rfl) (wd hw 59 rfl) (wd hw 4 rfl) (by decide) (rm24 l Z a0 hw [] a1255 a1253 a1260 k1263 (0 : Int32) (7 : Int32) p1261 (6 : Int32) p1262 (1 : Int32) (0 : Int32) (0 : Int32) k1259 p1251 p1252 h0 n0 O0 pF_a1255_text pF_a1255_first pV_a1260 pE_a1255 pV_a1253 hq1301 hq1302) hh1310 pE_a1255 (g := (mkF m 200 #[iv p1248, iv p1249, iv p1250, iv p1251, iv p1252, rv a1253, iv (0 : Int32), iv (1 : Int32), iv p1254, rv a1255, iv (0 : Int32), iv (3 : Int32), iv (6 : Int32), iv (7 : Int32), iv (1 : Int32), iv (4 : Int32), iv (1 : Int32), .unset] [(.int (3 : Int32)), (.ref a1255)])) rfl (by rw [hml]; rfl) (rest := []) (W := 0) (lenOf pd_3 rfl) rfl (by show 2 * 0 + _ ≤ _; exact Nat.le_of_eq rfl) (hb hby at_200) (by decide) (by decide) (by decide) (by decide)
      obtain ⟨rfl, Nq1311, hh1312⟩ := hQ1311
      have N1311 := Fr.app N1309 Nq1311
      refine own_via (fun t k => st1311 t (XS.istore X1311.here hx rfl (hb hby at_203) rfl (l' := #[iv p1248, iv p1249, iv p1250, iv p1251, iv p1252, rv a1253, iv (0 : Int32), iv (1 : Int32), iv p1254, rv a1255, iv (0 : Int32), iv (3 : Int32), iv (6 : Int32), iv (7 : Int32), iv (1 : Int32), iv (4 : Int32), iv (1 : Int32), iv (4 : Int32)]) rfl (XS.iload X1311.here hx rfl (hb hby at_205) rfl (XS.ifNo X1311.here hx rfl (hb hby at_207) rfl ((if0 _ _).trans (teq (by decide : (0 : Int32) = (0 : Int32))).2) (XS.iload X1311.here hx rfl (hb hby at_210) rfl (XS.iconst X1311.here hx rfl (hb hby at_212) (XS.icmpNo X1311.here hx rfl (hb hby at_213) rfl (teq (by decide : (3 : Int32) = (3 : Int32))).2 (XS.iload X1311.here hx rfl (hb hby at_216) rfl (XS.iload X1311.here hx rfl (hb hby at_218) rfl (XS.icmpNo X1311.here hx rfl (hb hby at_220) rfl (teq (by decide : (1 : Int32) = (1 : Int32))).2 (XS.iload X1311.here hx rfl (hb hby at_223) rfl (XS.iload X1311.here hx rfl (hb hby at_225) rfl k)))))))))))) ?_
      show own_Goes p e below (T1311.setTop (mkF m 227 #[iv p1248, iv p1249, iv p1250, iv p1251, iv p1252, rv a1253, iv (0 : Int32), iv (1 : Int32), iv p1254, rv a1255, iv (0 : Int32), iv (3 : Int32), iv (6 : Int32), iv (7 : Int32), iv (1 : Int32), iv (4 : Int32), iv (1 : Int32), iv (4 : Int32)] [(.int (4 : Int32)), (.int (4 : Int32))])) _
      refine own_via (fun t k => XS.icmpNo X1311.here hx rfl (hb hby at_227) rfl (teq (by decide : (4 : Int32) = (4 : Int32))).2 (XS.iconst X1311.here hx rfl (hb hby at_230) (XS.goto X1311.here hx rfl (pc0 := 231) (pc' := 235) rfl (hb hby at_231) (by decide) (by decide) k))) ?_
      show own_Goes p e below (T1311.setTop (mkF m 235 #[iv p1248, iv p1249, iv p1250, iv p1251, iv p1252, rv a1253, iv (0 : Int32), iv (1 : Int32), iv p1254, rv a1255, iv (0 : Int32), iv (3 : Int32), iv (6 : Int32), iv (7 : Int32), iv (1 : Int32), iv (4 : Int32), iv (1 : Int32), iv (4 : Int32)] [(.int (1 : Int32))])) _
      obtain ⟨fs, hr, hrun, hended, hW, hsame⟩ := X1311.leave (v := some (.int (1 : Int32))) (fun h => by rw [Bd.returns] at h; cases h)
      refine own_end (t := T1311.setFrames fs) ?_ ⟨_, hrun, hended, _, _, rfl, ?_, ⟨_, rfl⟩, hW, hsame.mono (by decide) (by decide)⟩
      · exact retN X1311 hx (t := .boolean) Bd.returns (by simp) (hb hby at_235) hr
      · exact ⟨rfl, N1311⟩
set_option maxRecDepth 65536 in
set_option maxHeartbeats 40000000 in
theorem sfx3 (l : Launch) (Z : State) (a0 : Array Value) (hw : ∀ d ∈ tables_1, d.before a0 Z = true) (ws : List Jvm.Cond) {p : Program} {e : Env} {s : State} {m : MethodId} {below : List Frame} {meth : Method} {c : Code} {s₁ : State} (p611 : Int32) (p612 : Int32) (p613 : Int32) (p605 : Int32) (p606 : Int32) (p607 : Int32) (p602 : Int32) (p603 : Int32) (a608 : Addr) (p604 : Int32) (p609 : Int32) (a610 : Addr) (a615 : Addr) (k618 : ClassId) (p616 : Int32) (p617 : Int32) (k614 : ClassId) (Bd : BodyLoose p l x (head1 (Jvm.Cond.code x code maxLocals ret :: ws) room_1) code maxLocals ret e s m #[(.int p611), (.int p612), (.int p613)] below meth c s₁) (hZ : Z.Warmed39 s.vm) (hml : c.maxLocals = 18) {T0 : State} {locs0 : List Loc} (X0 : Stand p l e room_1 s m #[(.int p611), (.int p612), (.int p613)] below meth c T0 locs0 8 120) (h0 : Heap) (e0 : T0.heap = h0) (n0 : Nat) (O0 : Old Z n0 h0) (N0 : Fr n0 locs0) (pC622 : ¬ (p604 < (0 : Int32))) (pC623 : p604 < (2 : Int32)) (pF_a610_length : Fld Z h0 a610 zs1 "length" "I" (.int (6 : Int32))) (pF_a610_first : Fld Z h0 a610 zs1 "first" "[I" (.ref a615)) (pV_a615 : Arv Z h0 a615 k618 .int (16 : Int32) [(.int (0 : Int32)), (.int (0 : Int32)), (.int p616), (.int (1 : Int32)), (.int (6 : Int32)), (.int p617), (.int (0 : Int32)), (.int (0 : Int32)), (.int (0 : Int32))] (.int (0 : Int32))) (pG_a615 : n0 ≤ a615) (pE_a615 : Exa Z h0 a615 "[I") (pE_a610 : Exa Z h0 a610 zs1) (pN_a610_a615 : a610 ≠ a615) (pF_a610_text : Fld Z h0 a610 zs1 "text" "[B" (.ref a608)) (pV_a608 : Arv Z h0 a608 k614 .byte (2 : Int32) [(.int p602), (.int p603)] (.int (0 : Int32))) (pN_a608_a615 : a608 ≠ a615) (pL_a615 : own_Len Z h0 a615 .int (16 : Int32)) (pG_a610 : n0 ≤ a610) (pN_a608_a610 : a608 ≠ a610) :
    own_Goes p e below (T0.setTop (mkF m 115 #[iv p605, iv p606, iv p607, iv p602, iv p603, rv a608, iv (0 : Int32), iv p604, iv p609, rv a610, iv (0 : Int32), iv (3 : Int32), .unset, .unset, .unset, .unset, .unset, .unset] [])) (own_G s below n0) := by
  have hx := Bd.exec
  have hby := Bd.bytes
  have hown : s.vm.findClass zs2 = some m.cls := findClass_of_methodNamed Bd.named
  have hnm := (name_of_methodNamed Bd.named Bd.method).1
  show own_Goes p e below (T0.setTop (mkF m 115 #[iv p605, iv p606, iv p607, iv p602, iv p603, rv a608, iv (0 : Int32), iv p604, iv p609, rv a610, iv (0 : Int32), iv (3 : Int32), .unset, .unset, .unset, .unset, .unset, .unset] [])) _
  rcases own_cases_2 _ (own_ge0 pC622) (own_lti pC623 (by decide)) with qs | qs
  · have qs628 := qs
    rw [qs]
    show own_Goes p e below (T0.setTop (mkF m 115 #[iv p605, iv p606, iv p607, iv p602, iv p603, rv a608, iv (0 : Int32), iv (0 : Int32), iv p609, rv a610, iv (0 : Int32), iv (3 : Int32), .unset, .unset, .unset, .unset, .unset, .unset] [])) _
    refine own_via (fun t k => XS.iload X0.here hx rfl (hb hby at_115) rfl (XS.ifYes X0.here hx rfl (pc0 := 117) (pc' := 127) rfl (hb hby at_117) rfl ((if0 _ _).trans (flt (by decide : ¬ ((0 : Int32) < (0 : Int32)))).2.2.2) (by decide) (by decide) (XS.aload X0.here hx rfl (hb hby at_127) rfl rfl (XS.iload X0.here hx rfl (hb hby at_129) rfl (XS.iconst X0.here hx rfl (hb hby at_131) (XS.iload X0.here hx rfl (hb hby at_132) rfl (XS.iadd X0.here hx rfl (hb hby at_134) rfl (XS.iconst X0.here hx rfl (hb hby at_135) k)))))))) ?_
    show own_Goes p e below (T0.setTop (mkF m 136 #[iv p605, iv p606, iv p607, iv p602, iv p603, rv a608, iv (0 : Int32), iv (0 : Int32), iv p609, rv a610, iv (0 : Int32), iv (3 : Int32), .unset, .unset, .unset, .unset, .unset, .unset] [(.int (0 : Int32)), (.int (1 : Int32)), (.int (0 : Int32)), (.ref a610)])) _
    obtain ⟨_, T629, _, X629, hQ629, st629⟩ := own_cv X0 hx hZ hown (wd hw 42 rfl) (wd hw 43 rfl) (wd hw 45 rfl) (wd hw 44 rfl) (wd hw 46 rfl) (wd hw 4 rfl) (by decide) (rm16 l Z a0 hw [] a610 (6 : Int32) a615 k618 (0 : Int32) (0 : Int32) p616 (1 : Int32) (6 : Int32) p617 (0 : Int32) (0 : Int32) (0 : Int32) h0 n0 O0 pF_a610_length pF_a610_first pV_a615 pG_a615 pE_a615 pE_a610 pN_a610_a615) e0 pE_a610 (g := (mkF m 136 #[iv p605, iv p606, iv p607, iv p602, iv p603, rv a608, iv (0 : Int32), iv (0 : Int32), iv p609, rv a610, iv (0 : Int32), iv (3 : Int32), .unset, .unset, .unset, .unset, .unset, .unset] [(.int (0 : Int32)), (.int (1 : Int32)), (.int (0 : Int32)), (.ref a610)])) rfl (by rw [hml]; rfl) (rest := []) (W := 0) (lenOf pd_5 rfl) rfl (by show 2 * 0 + _ ≤ _; exact Nat.le_of_eq rfl) (hb hby at_136) (by decide) (by decide) (by decide) (by decide)
    obtain ⟨h629, e629⟩ : ∃ z, T629.heap = z := ⟨_, rfl⟩
    rw [e629] at hQ629
    obtain ⟨rfl, Nq629, K629, ex734, vx735⟩ := hQ629
    have N629 := Fr.app N0 Nq629
    refine own_via (fun t k => st629 t k) ?_
    have F1116 : Fld Z h629 a610 zs1 "text" "[B" (.ref a608) := (pF_a610_text.keep K629 (ninS pN_a610_a615 nin0))
    have F1117 : Fld Z h629 a610 zs1 "first" "[I" (.ref a615) := (pF_a610_first.keep K629 (ninS pN_a610_a615 nin0))
    have E1118 : Exa Z h629 a610 zs1 := (pE_a610.keep K629)
    have V1119 : Arv Z h629 a608 k614 .byte (2 : Int32) [(.int p602), (.int p603)] (.int (0 : Int32)) := (pV_a608.keep K629 (ninS pN_a608_a615 nin0))
    have O1120 : Old Z n0 h629 := (O0.keep K629 (allS pG_a615 all0))
    exact sfx1 l Z a0 hw ws p611 p612 p613 p605 p606 p607 p602 p603 a608 p609 a610 a615 k618 (2 : Int32) p617 k614 Bd hZ hml X629 h629 e629 n0 O1120 N629 F1116 F1117 vx735 E1118 V1119
  · have qs1121 := qs
    rw [qs]
    show own_Goes p e below (T0.setTop (mkF m 115 #[iv p605, iv p606, iv p607, iv p602, iv p603, rv a608, iv (0 : Int32), iv (1 : Int32), iv p609, rv a610, iv (0 : Int32), iv (3 : Int32), .unset, .unset, .unset, .unset, .unset, .unset] [])) _
    refine own_via (fun t k => XS.iload X0.here hx rfl (hb hby at_115) rfl (XS.ifNo X0.here hx rfl (hb hby at_117) rfl ((if0 _ _).trans (tlt (by decide : (0 : Int32) < (1 : Int32))).2.2.2) (XS.aload X0.here hx rfl (hb hby at_120) rfl rfl (XS.iconst X0.here hx rfl (hb hby at_122) k)))) ?_
    show own_Goes p e below (T0.setTop (mkF m 123 #[iv p605, iv p606, iv p607, iv p602, iv p603, rv a608, iv (0 : Int32), iv (1 : Int32), iv p609, rv a610, iv (0 : Int32), iv (3 : Int32), .unset, .unset, .unset, .unset, .unset, .unset] [(.int (1 : Int32)), (.ref a610)])) _
    obtain ⟨_, T1122, _, X1122, hQ1122, st1122⟩ := own_cv X0 hx hZ hown (wd hw 41 rfl) (wd hw 35 rfl) (wd hw 37 rfl) (wd hw 36 rfl) (wd hw 38 rfl) (wd hw 4 rfl) (by decide) (rm26 l Z a0 hw [] a610 a615 k618 (0 : Int32) (0 : Int32) p616 (1 : Int32) (6 : Int32) p617 (0 : Int32) (0 : Int32) (0 : Int32) a608 h0 n0 O0 pF_a610_length pF_a610_first pL_a615 pV_a615 pG_a615 pN_a610_a615 pE_a610 pG_a610 pE_a615 pF_a610_text) e0 pE_a610 (g := (mkF m 123 #[iv p605, iv p606, iv p607, iv p602, iv p603, rv a608, iv (0 : Int32), iv (1 : Int32), iv p609, rv a610, iv (0 : Int32), iv (3 : Int32), .unset, .unset, .unset, .unset, .unset, .unset] [(.int (1 : Int32)), (.ref a610)])) rfl (by rw [hml]; rfl) (rest := []) (W := 0) (lenOf pd_3 rfl) rfl (by show 2 * 0 + _ ≤ _; exact Nat.le_of_eq rfl) (hb hby at_123) (by decide) (by decide) (by decide) (by decide)
    obtain ⟨h1122, e1122⟩ : ∃ z, T1122.heap = z := ⟨_, rfl⟩
    rw [e1122] at hQ1122
    obtain ⟨rfl, Nq1122, K1122, ex1167, vx1168, ex1169, fx1170, fx1171, fx1172⟩ := hQ1122
    have N1122 := Fr.app N0 Nq1122
    refine own_via (fun t k => st1122 t (XS.pop X1122.here hx rfl (hb hby at_126) rfl rfl (XS.aload X1122.here hx rfl (hb hby at_127) rfl rfl (XS.iload X1122.here hx rfl (hb hby at_129) rfl (XS.iconst X1122.here hx rfl (hb hby at_131) (XS.iload X1122.here hx rfl (hb hby at_132) rfl (XS.iadd X1122.here hx rfl (hb hby at_134) rfl (XS.iconst X1122.here hx rfl (hb hby at_135) k)))))))) ?_
    show own_Goes p e below (T1122.setTop (mkF m 136 #[iv p605, iv p606, iv p607, iv p602, iv p603, rv a608, iv (0 : Int32), iv (1 : Int32), iv p609, rv a610, iv (0 : Int32), iv (3 : Int32), .unset, .unset, .unset, .unset, .unset, .unset] [(.int (0 : Int32)), (.int (2 : Int32)), (.int (0 : Int32)), (.ref a610)])) _
    have O1245 : Old Z n0 h1122 := (O0.keep K1122 (allS pG_a615 (allS pG_a610 all0)))
    obtain ⟨_, T1173, _, X1173, hQ1173, st1173⟩ := own_cv X1122 hx hZ hown (wd hw 42 rfl) (wd hw 43 rfl) (wd hw 45 rfl) (wd hw 44 rfl) (wd hw 46 rfl) (wd hw 4 rfl) (by decide) (rm28 l Z a0 hw [] a610 (7 : Int32) a615 k618 (0 : Int32) (0 : Int32) p616 (1 : Int32) (6 : Int32) p617 (1 : Int32) (0 : Int32) (0 : Int32) h1122 n0 O1245 fx1172 fx1171 vx1168 pG_a615 ex1167 ex1169 pN_a610_a615) e1122 ex1169 (g := (mkF m 136 #[iv p605, iv p606, iv p607, iv p602, iv p603, rv a608, iv (0 : Int32), iv (1 : Int32), iv p609, rv a610, iv (0 : Int32), iv (3 : Int32), .unset, .unset, .unset, .unset, .unset, .unset] [(.int (0 : Int32)), (.int (2 : Int32)), (.int (0 : Int32)), (.ref a610)])) rfl (by rw [hml]; rfl) (rest := []) (W := 0) (lenOf pd_5 rfl) rfl (by show 2 * 0 + _ ≤ _; exact Nat.le_of_eq rfl) (hb hby at_136) (by decide) (by decide) (by decide) (by decide)
    obtain ⟨h1173, e1173⟩ : ∃ z, T1173.heap = z := ⟨_, rfl⟩
    rw [e1173] at hQ1173
    obtain ⟨rfl, Nq1173, K1173, ex1246, vx1247⟩ := hQ1173
    have N1173 := Fr.app N1122 Nq1173
    refine own_via (fun t k => st1173 t k) ?_
    have F1313 : Fld Z h1173 a610 zs1 "text" "[B" (.ref a608) := (fx1170.keep K1173 (ninS pN_a610_a615 nin0))
    have F1314 : Fld Z h1173 a610 zs1 "first" "[I" (.ref a615) := (fx1171.keep K1173 (ninS pN_a610_a615 nin0))
    have E1315 : Exa Z h1173 a610 zs1 := (ex1169.keep K1173)
    have V1316 : Arv Z h1173 a608 k614 .byte (2 : Int32) [(.int p602), (.int p603)] (.int (0 : Int32)) := ((pV_a608.keep K1122 (ninS pN_a608_a615 (ninS pN_a608_a610 nin0))).keep K1173 (ninS pN_a608_a615 nin0))
    have O1317 : Old Z n0 h1173 := (O1245.keep K1173 (allS pG_a615 all0))
    exact sfx2 l Z a0 hw ws p611 p612 p613 p605 p606 p607 p602 p603 a608 p609 a610 a615 k618 (4 : Int32) p617 k614 Bd hZ hml X1173 h1173 e1173 n0 O1317 N1173 F1313 F1314 vx1247 E1315 V1316
def Q29 (Z : State) (a1368 : Addr) (a1373 : Addr) (k1383 : ClassId) (p1375 : Int32) (p1376 : Int32) (p1377 : Int32) (p1378 : Int32) (p1374 : Int32) (p1379 : Int32) (p1380 : Int32) (p1381 : Int32) (p1382 : Int32) (h0 : Heap) (n0 : Nat) (v : Option Value) (h : Heap) (L : List Loc) : Prop := v = none ∧ Fr n0 L ∧ Keep h0 h [a1373] ∧ Exa Z h a1373 "[I" ∧ Arv Z h a1373 k1383 .int (16 : Int32) [(.int p1375), (.int p1376), (.int p1377), (.int p1378), (.int p1374), (.int (2 : Int32)), (.int p1380), (.int p1381), (.int p1382)] (.int (0 : Int32))
set_option maxRecDepth 65536 in
set_option maxHeartbeats 40000000 in
theorem rm29 (l : Launch) (Z : State) (a0 : Array Value) (hw : ∀ d ∈ tables_1, d.before a0 Z = true) (ws : List Jvm.Cond) (a1368 : Addr) (a1373 : Addr) (k1383 : ClassId) (p1375 : Int32) (p1376 : Int32) (p1377 : Int32) (p1378 : Int32) (p1374 : Int32) (p1379 : Int32) (p1380 : Int32) (p1381 : Int32) (p1382 : Int32) (h0 : Heap) (n0 : Nat) (O0 : Old Z n0 h0) (pF_a1368_first : Fld Z h0 a1368 zs1 "first" "[I" (.ref a1373)) (pV_a1373 : Arv Z h0 a1373 k1383 .int (16 : Int32) [(.int p1375), (.int p1376), (.int p1377), (.int p1378), (.int p1374), (.int p1379), (.int p1380), (.int p1381), (.int p1382)] (.int (0 : Int32))) (pG_a1373 : n0 ≤ a1373) (pE_a1373 : Exa Z h0 a1373 "[I") :
    MetFree l (⟨zs1, "set", "(II)V"⟩ : MethodName) (head1 (Jvm.Cond.code (⟨zs1, "set", "(II)V"⟩ : MethodName) prog_17_method_29_code 3 none :: ws) ({ frames := 0, cells := 0, slots := 0, locals := 0 } : Room)) (fun a U => a = #[(.ref a1368), (.int (5 : Int32)), (.int (2 : Int32))] ∧ Z.Warmed39 U.vm ∧ U.heap = h0) (fun _ _ _ _ _ => True) (fun _ U o U' => ∃ v L, o = .returned v ∧ Q29 Z a1368 a1373 k1383 p1375 p1376 p1377 p1378 p1374 p1379 p1380 p1381 p1382 h0 n0 v U'.heap L ∧ FrameEnd U o U' L ({ frames := 0, cells := 0, slots := 0, locals := 0 } : Room).cells ({ frames := 0, cells := 0, slots := 0, locals := 0 } : Room).slots) := by
  refine MetFree.of_bodySF (plainFor_of_name pn_1) hisR ?_
  intro p e s m args below meth c s₁ Bd hml0 hP hK
  obtain ⟨rfl, hZ, hh⟩ := hP
  have hx := Bd.exec
  have hby := Bd.bytes
  have hml : c.maxLocals = 3 := hml0
  have hown : s.vm.findClass zs1 = some m.cls := findClass_of_methodNamed Bd.named
  have hnm := (name_of_methodNamed Bd.named Bd.method).1
  have X0 : Stand p l e ({ frames := 0, cells := 0, slots := 0, locals := 0 } : Room) s m #[(.ref a1368), (.int (5 : Int32)), (.int (2 : Int32))] below meth c s₁ [] 0 0 := Stand.of_body Bd
  have e0 : s₁.heap = h0 := by rw [← hh, Bd.state]; rfl
  have N0 := Fr.nil n0
  refine own_out ?_
  refine own_via (fun t k => castTop (ef_5 m a1368 (5 : Int32) (2 : Int32)) (XS.iloadN X0.here hx rfl (hb hby d7_0) rfl (XS.sipush X0.here hx rfl (hb hby d7_1) (XS.icmpNo X0.here hx rfl (hb hby d7_4) rfl (tlt (by decide : (5 : Int32) < (16384 : Int32))).2.1 (XS.aloadN X0.here hx rfl (hb hby d7_7) rfl rfl k))))) ?_
  show own_Goes p e below (s₁.setTop (mkF m 8 #[rv a1368, iv (5 : Int32), iv (2 : Int32)] [(.ref a1368)])) _
  obtain ⟨T1394, X1394, e1394, st1394⟩ := getF X0 hx hZ hown (host := "") (Or.inl (wd hw 26 rfl)) Via.refl e0 pF_a1368_first (g := (mkF m 8 #[rv a1368, iv (5 : Int32), iv (2 : Int32)] [(.ref a1368)])) rfl rfl (hb hby d7_8)
  refine own_via (fun t k => st1394 t (XS.iloadN X1394.here hx rfl (hb hby d7_11) rfl (XS.iloadN X1394.here hx rfl (hb hby d7_12) rfl k))) ?_
  show own_Goes p e below (T1394.setTop (mkF m 13 #[rv a1368, iv (5 : Int32), iv (2 : Int32)] [(.int (2 : Int32)), (.int (5 : Int32)), (.ref a1373)])) _
  obtain ⟨cl1395, Ar1395, qq1395, S1395, M1395, H1395, G1395⟩ := id (pV_a1373)
  have hin1395 : ¬ ((5 : Int32) < 0 ∨ cl1395.slots.size ≤ ((5 : Int32)).toNatClampNeg) := inb_of S1395 ⟨by decide, by decide⟩
  obtain ⟨T1395, h1395, X1395, e1395, W1395, st1395⟩ := stI X1394 hx hZ e1394 Ar1395 (j := (5 : Int32)) hin1395 (g := (mkF m 13 #[rv a1368, iv (5 : Int32), iv (2 : Int32)] [(.int (2 : Int32)), (.int (5 : Int32)), (.ref a1373)])) rfl rfl (hb hby d7_13)
  refine own_via (fun t k => st1395 t k) ?_
  have V1396 : Arv Z h1395 a1373 k1383 .int (16 : Int32) [(.int p1375), (.int p1376), (.int p1377), (.int p1378), (.int p1374), (.int (2 : Int32)), (.int p1380), (.int p1381), (.int p1382)] (.int (0 : Int32)) := Arv.set Ar1395 qq1395 S1395 M1395 H1395 G1395 rfl W1395 5 rfl (Nat.le_of_ble_eq_true rfl)
  have N1395 := Fr.snoc X1395 N0 pG_a1373
  show own_Goes p e below (T1395.setTop (mkF m 14 #[rv a1368, iv (5 : Int32), iv (2 : Int32)] [])) _
  refine own_via (fun t k => XS.goto X1395.here hx rfl (pc0 := 14) (pc' := 33) rfl (hb hby d7_14) (by decide) (by decide) k) ?_
  obtain ⟨fs, hr, hrun, hended, hW, hsame⟩ := X1395.leave (v := none) (fun _ => rfl)
  refine own_end (t := T1395.setFrames fs) ?_ ⟨_, hrun, hended, _, _, rfl, ?_, ⟨_, rfl⟩, hW, hsame.mono (by decide) (by decide)⟩
  · exact X1395.returnOut hx Bd.returns (hb hby d7_33) hr
  have E1397 : Exa Z h1395 a1373 "[I" := (pE_a1373.wr W1395)
  · show Q29 Z a1368 a1373 k1383 p1375 p1376 p1377 p1378 p1374 p1379 p1380 p1381 p1382 h0 n0 _ T1395.heap _
    rw [e1395]
    exact ⟨rfl, N1395, ((Keep.refl h0 [a1373]).wr W1395 (Or.inl (List.mem_of_getElem? (i := 0) rfl))), E1397, V1396⟩
def Q30 (Z : State) (a1336 : Addr) (p1352 : Int32) (a1341 : Addr) (k1351 : ClassId) (p1342 : Int32) (p1343 : Int32) (p1344 : Int32) (p1345 : Int32) (p1346 : Int32) (p1347 : Int32) (p1348 : Int32) (p1349 : Int32) (p1350 : Int32) (h0 : Heap) (n0 : Nat) (v : Option Value) (h : Heap) (L : List Loc) : Prop := v = none ∧ Fr n0 L ∧ Keep h0 h [a1341] ∧ Exa Z h a1341 "[I" ∧ Arv Z h a1341 k1351 .int (16 : Int32) [(.int p1342), (.int p1343), (.int p1344), (.int p1345), (.int p1352), (.int (2 : Int32)), (.int p1348), (.int p1349), (.int p1350)] (.int (0 : Int32))
set_option maxRecDepth 65536 in
set_option maxHeartbeats 40000000 in
theorem rm30 (l : Launch) (Z : State) (a0 : Array Value) (hw : ∀ d ∈ tables_1, d.before a0 Z = true) (ws : List Jvm.Cond) (a1336 : Addr) (p1352 : Int32) (a1341 : Addr) (k1351 : ClassId) (p1342 : Int32) (p1343 : Int32) (p1344 : Int32) (p1345 : Int32) (p1346 : Int32) (p1347 : Int32) (p1348 : Int32) (p1349 : Int32) (p1350 : Int32) (h0 : Heap) (n0 : Nat) (O0 : Old Z n0 h0) (pF_a1336_length : Fld Z h0 a1336 zs1 "length" "I" (.int p1352)) (pF_a1336_first : Fld Z h0 a1336 zs1 "first" "[I" (.ref a1341)) (pV_a1341 : Arv Z h0 a1341 k1351 .int (16 : Int32) [(.int p1342), (.int p1343), (.int p1344), (.int p1345), (.int p1346), (.int p1347), (.int p1348), (.int p1349), (.int p1350)] (.int (0 : Int32))) (pG_a1341 : n0 ≤ a1341) (pE_a1341 : Exa Z h0 a1341 "[I") (pE_a1336 : Exa Z h0 a1336 zs1) (pN_a1336_a1341 : a1336 ≠ a1341) :
    MetFree l (⟨zs1, "close", "(IIZ)V"⟩ : MethodName) (head1 (Jvm.Cond.code (⟨zs1, "close", "(IIZ)V"⟩ : MethodName) prog_17_method_6_code 4 none :: ws) ({ frames := 1, cells := 0, slots := 0, locals := 14 } : Room)) (fun a U => a = #[(.ref a1336), (.int (3 : Int32)), (.int (1 : Int32)), (.int (0 : Int32))] ∧ Z.Warmed39 U.vm ∧ U.heap = h0) (fun _ _ _ _ _ => True) (fun _ U o U' => ∃ v L, o = .returned v ∧ Q30 Z a1336 p1352 a1341 k1351 p1342 p1343 p1344 p1345 p1346 p1347 p1348 p1349 p1350 h0 n0 v U'.heap L ∧ FrameEnd U o U' L ({ frames := 1, cells := 0, slots := 0, locals := 14 } : Room).cells ({ frames := 1, cells := 0, slots := 0, locals := 14 } : Room).slots) := by
  refine MetFree.of_bodySF (plainFor_of_name pn_1) hisR ?_
  intro p e s m args below meth c s₁ Bd hml0 hP hK
  obtain ⟨rfl, hZ, hh⟩ := hP
  have hx := Bd.exec
  have hby := Bd.bytes
  have hml : c.maxLocals = 4 := hml0
  have hown : s.vm.findClass zs1 = some m.cls := findClass_of_methodNamed Bd.named
  have hnm := (name_of_methodNamed Bd.named Bd.method).1
  have X0 : Stand p l e ({ frames := 1, cells := 0, slots := 0, locals := 14 } : Room) s m #[(.ref a1336), (.int (3 : Int32)), (.int (1 : Int32)), (.int (0 : Int32))] below meth c s₁ [] 0 0 := Stand.of_body Bd
  have e0 : s₁.heap = h0 := by rw [← hh, Bd.state]; rfl
  have N0 := Fr.nil n0
  refine own_out ?_
  refine own_via (fun t k => castTop (ef_6 m a1336 (3 : Int32) (1 : Int32) (0 : Int32)) (XS.aloadN X0.here hx rfl (hb hby d6_0) rfl rfl (XS.iloadN X0.here hx rfl (hb hby d6_1) rfl (XS.iconst X0.here hx rfl (hb hby d6_2) (XS.iadd X0.here hx rfl (hb hby d6_3) rfl (XS.aloadN X0.here hx rfl (hb hby d6_4) rfl rfl k)))))) ?_
  show own_Goes p e below (s₁.setTop (mkF m 5 #[rv a1336, iv (3 : Int32), iv (1 : Int32), iv (0 : Int32)] [(.ref a1336), (.int (4 : Int32)), (.ref a1336)])) _
  obtain ⟨T1363, X1363, e1363, st1363⟩ := getF X0 hx hZ hown (host := "") (Or.inl (wd hw 39 rfl)) Via.refl e0 pF_a1336_length (g := (mkF m 5 #[rv a1336, iv (3 : Int32), iv (1 : Int32), iv (0 : Int32)] [(.ref a1336), (.int (4 : Int32)), (.ref a1336)])) rfl rfl (hb hby d6_5)
  refine own_via (fun t k => st1363 t k) ?_
  obtain ⟨cq1364, q1364, q1364'⟩ := pE_a1336.cell
  obtain ⟨_, _, ⟨T1364, L1364, c1364, n1364⟩, -, X1364, ⟨Lc1364, hQ1364, l1364, y1364, z1364⟩, st1364⟩ := X1363.privateBack hx (y := (⟨zs1, "set", "(II)V"⟩ : MethodName)) hown (mvT hZ (wd hw 47 rfl)) (mvT hZ (wd hw 48 rfl)) (own_selPriv (mvT hZ (wd hw 3 rfl)) (mvT hZ (wd hw 48 rfl)) (Cond.privateMethod_at (mvP hZ (wd hw 49 rfl) (args := #[]))) (by decide)) (Cond.privateMethod_at (mvP hZ (wd hw 49 rfl) (args := #[]))) (mvT hZ (wd hw 50 rfl)) (by decide) (backOf (W := 0) (rm11 l Z a0 hw [] a1336 p1352 a1341 k1351 p1342 p1343 p1344 p1345 p1346 p1347 p1348 p1349 p1350 h0 n0 O0 pF_a1336_first pV_a1341 pG_a1341 pE_a1341) hZ (wd hw 50 rfl) (wd hw 4 rfl) (by decide) (by decide)) (g := (mkF m 8 #[rv a1336, iv (3 : Int32), iv (1 : Int32), iv (0 : Int32)] [(.int p1352), (.int (4 : Int32)), (.ref a1336)])) rfl (by rw [hml]; rfl) (Steps.refl _) (a := a1336) (by rw [e1363]; exact q1364) q1364' (argsL := [(.int (4 : Int32)), (.int p1352)]) (rest := []) (lenOf pd_4 rfl) rfl (by show 2 * 0 + _ ≤ _; exact Nat.le_of_eq rfl) (hb hby d6_8) (fun _ _ => ⟨rfl, e1363, (by decide : 0 + 0 ≤ _), (by decide : 0 + 0 ≤ _)⟩)
  dsimp only [Pt.U, Pt.locs, Pt.cells, Pt.slots] at X1364 l1364 y1364 z1364 st1364 hQ1364
  subst l1364 y1364 z1364
  obtain ⟨h1364, e1364⟩ : ∃ z, T1364.heap = z := ⟨_, rfl⟩
  rw [e1364] at hQ1364
  obtain ⟨rfl, Nq1364, K1364, ex1365, vx1366⟩ := hQ1364
  have N1364 := Fr.app N0 Nq1364
  refine own_via (fun t k => st1364.trans (XS.aloadN X1364.here hx rfl (hb hby d6_11) rfl rfl (XS.iloadN X1364.here hx rfl (hb hby d6_12) rfl (XS.iconst X1364.here hx rfl (hb hby d6_13) (XS.iadd X1364.here hx rfl (hb hby d6_14) rfl (XS.iloadN X1364.here hx rfl (hb hby d6_15) rfl (XS.iconst X1364.here hx rfl (hb hby d6_16) (XS.ishl X1364.here hx rfl (hb hby d6_17) rfl (XS.iloadN X1364.here hx rfl (hb hby d6_18) rfl (XS.ifYes X1364.here hx rfl (pc0 := 19) (pc' := 26) rfl (hb hby d6_19) rfl ((if0 _ _).trans (teq (by decide : (0 : Int32) = (0 : Int32))).1) (by decide) (by decide) (XS.iconst X1364.here hx rfl (hb hby d6_26) (XS.ior X1364.here hx rfl (hb hby d6_27) rfl k)))))))))))) ?_
  show own_Goes p e below (T1364.setTop (mkF m 28 #[rv a1336, iv (3 : Int32), iv (1 : Int32), iv (0 : Int32)] [(.int (2 : Int32)), (.int (5 : Int32)), (.ref a1336)])) _
  have F1398 : Fld Z h1364 a1336 zs1 "first" "[I" (.ref a1341) := (pF_a1336_first.keep K1364 (ninS pN_a1336_a1341 nin0))
  have O1399 : Old Z n0 h1364 := (O0.keep K1364 (allS pG_a1341 all0))
  have E1400 : Exa Z h1364 a1336 zs1 := (pE_a1336.keep K1364)
  obtain ⟨cq1367, q1367, q1367'⟩ := E1400.cell
  obtain ⟨_, _, ⟨T1367, L1367, c1367, n1367⟩, -, X1367, ⟨Lc1367, hQ1367, l1367, y1367, z1367⟩, st1367⟩ := X1364.privateBack hx (y := (⟨zs1, "set", "(II)V"⟩ : MethodName)) hown (mvT hZ (wd hw 47 rfl)) (mvT hZ (wd hw 48 rfl)) (own_selPriv (mvT hZ (wd hw 3 rfl)) (mvT hZ (wd hw 48 rfl)) (Cond.privateMethod_at (mvP hZ (wd hw 49 rfl) (args := #[]))) (by decide)) (Cond.privateMethod_at (mvP hZ (wd hw 49 rfl) (args := #[]))) (mvT hZ (wd hw 50 rfl)) (by decide) (backOf (W := 0) (rm29 l Z a0 hw [] a1336 a1341 k1351 p1342 p1343 p1344 p1345 p1352 p1347 p1348 p1349 p1350 h1364 n0 O1399 F1398 vx1366 pG_a1341 ex1365) hZ (wd hw 50 rfl) (wd hw 4 rfl) (by decide) (by decide)) (g := (mkF m 28 #[rv a1336, iv (3 : Int32), iv (1 : Int32), iv (0 : Int32)] [(.int (2 : Int32)), (.int (5 : Int32)), (.ref a1336)])) rfl (by rw [hml]; rfl) (Steps.refl _) (a := a1336) (by rw [e1364]; exact q1367) q1367' (argsL := [(.int (5 : Int32)), (.int (2 : Int32))]) (rest := []) (lenOf pd_4 rfl) rfl (by show 2 * 0 + _ ≤ _; exact Nat.le_of_eq rfl) (hb hby d6_28) (fun _ _ => ⟨rfl, e1364, (by decide : 0 + 0 ≤ _), (by decide : 0 + 0 ≤ _)⟩)
  dsimp only [Pt.U, Pt.locs, Pt.cells, Pt.slots] at X1367 l1367 y1367 z1367 st1367 hQ1367
  subst l1367 y1367 z1367
  obtain ⟨h1367, e1367⟩ : ∃ z, T1367.heap = z := ⟨_, rfl⟩
  rw [e1367] at hQ1367
  obtain ⟨rfl, Nq1367, K1367, ex1401, vx1402⟩ := hQ1367
  have N1367 := Fr.app N1364 Nq1367
  refine own_via (fun t k => st1367.trans k) ?_
  obtain ⟨fs, hr, hrun, hended, hW, hsame⟩ := X1367.leave (v := none) (fun _ => rfl)
  refine own_end (t := T1367.setFrames fs) ?_ ⟨_, hrun, hended, _, _, rfl, ?_, ⟨_, rfl⟩, hW, hsame.mono (by decide) (by decide)⟩
  · exact X1367.returnOut hx Bd.returns (hb hby d6_31) hr
  · show Q30 Z a1336 p1352 a1341 k1351 p1342 p1343 p1344 p1345 p1346 p1347 p1348 p1349 p1350 h0 n0 _ T1367.heap _
    rw [e1367]
    exact ⟨rfl, N1367, (((Keep.refl h0 [a1341]).trans K1364 (allS (Or.inl (List.mem_of_getElem? (i := 0) rfl)) all0)).trans K1367 (allS (Or.inl (List.mem_of_getElem? (i := 0) rfl)) all0)), ex1401, vx1402⟩
set_option maxRecDepth 65536 in
set_option maxHeartbeats 40000000 in
theorem sfx4 (l : Launch) (Z : State) (a0 : Array Value) (hw : ∀ d ∈ tables_1, d.before a0 Z = true) (ws : List Jvm.Cond) {p : Program} {e : Env} {s : State} {m : MethodId} {below : List Frame} {meth : Method} {c : Code} {s₁ : State} (p1444 : Int32) (p1445 : Int32) (p1446 : Int32) (p1436 : Int32) (p1437 : Int32) (p1438 : Int32) (p1439 : Int32) (p1440 : Int32) (a1441 : Addr) (p1442 : Int32) (a1443 : Addr) (a1448 : Addr) (k1451 : ClassId) (p1449 : Int32) (p1450 : Int32) (k1447 : ClassId) (Bd : BodyLoose p l x (head1 (Jvm.Cond.code x code maxLocals ret :: ws) room_1) code maxLocals ret e s m #[(.int p1444), (.int p1445), (.int p1446)] below meth c s₁) (hZ : Z.Warmed39 s.vm) (hml : c.maxLocals = 18) {T0 : State} {locs0 : List Loc} (X0 : Stand p l e room_1 s m #[(.int p1444), (.int p1445), (.int p1446)] below meth c T0 locs0 8 120) (h0 : Heap) (e0 : T0.heap = h0) (n0 : Nat) (O0 : Old Z n0 h0) (N0 : Fr n0 locs0) (pF_a1443_text : Fld Z h0 a1443 zs1 "text" "[B" (.ref a1441)) (pF_a1443_first : Fld Z h0 a1443 zs1 "first" "[I" (.ref a1448)) (pV_a1448 : Arv Z h0 a1448 k1451 .int (16 : Int32) [(.int (0 : Int32)), (.int (7 : Int32)), (.int p1449), (.int (1 : Int32)), (.int (7 : Int32)), (.int p1450), (.int (1 : Int32)), (.int (0 : Int32)), (.int (0 : Int32))] (.int (0 : Int32))) (pE_a1443 : Exa Z h0 a1443 zs1) (pV_a1441 : Arv Z h0 a1441 k1447 .byte (2 : Int32) [(.int p1439), (.int p1440)] (.int (0 : Int32))) :
    own_Goes p e below (T0.setTop (mkF m 139 #[iv p1436, iv p1437, iv p1438, iv p1439, iv p1440, rv a1441, iv (1 : Int32), iv (0 : Int32), iv p1442, rv a1443, iv (0 : Int32), iv (3 : Int32), .unset, .unset, .unset, .unset, .unset, .unset] [])) (own_G s below n0) := by
  have hx := Bd.exec
  have hby := Bd.bytes
  have hown : s.vm.findClass zs2 = some m.cls := findClass_of_methodNamed Bd.named
  have hnm := (name_of_methodNamed Bd.named Bd.method).1
  show own_Goes p e below (T0.setTop (mkF m 139 #[iv p1436, iv p1437, iv p1438, iv p1439, iv p1440, rv a1441, iv (1 : Int32), iv (0 : Int32), iv p1442, rv a1443, iv (0 : Int32), iv (3 : Int32), .unset, .unset, .unset, .unset, .unset, .unset] [])) _
  refine own_via (fun t k => XS.bipush X0.here hx rfl (hb hby at_139) (XS.iload X0.here hx rfl (hb hby at_141) rfl (XS.iadd X0.here hx rfl (hb hby at_143) rfl (XS.istore X0.here hx rfl (hb hby at_144) rfl (l' := #[iv p1436, iv p1437, iv p1438, iv p1439, iv p1440, rv a1441, iv (1 : Int32), iv (0 : Int32), iv p1442, rv a1443, iv (0 : Int32), iv (3 : Int32), iv (7 : Int32), .unset, .unset, .unset, .unset, .unset]) rfl (XS.bipush X0.here hx rfl (hb hby at_146) (XS.iload X0.here hx rfl (hb hby at_148) rfl (XS.iadd X0.here hx rfl (hb hby at_150) rfl (XS.iload X0.here hx rfl (hb hby at_151) rfl (XS.iadd X0.here hx rfl (hb hby at_153) rfl (XS.istore X0.here hx rfl (hb hby at_154) rfl (l' := #[iv p1436, iv p1437, iv p1438, iv p1439, iv p1440, rv a1441, iv (1 : Int32), iv (0 : Int32), iv p1442, rv a1443, iv (0 : Int32), iv (3 : Int32), iv (7 : Int32), iv (7 : Int32), .unset, .unset, .unset, .unset]) rfl (XS.iloadN X0.here hx rfl (hb hby at_156) rfl k))))))))))) ?_
  show own_Goes p e below (T0.setTop (mkF m 157 #[iv p1436, iv p1437, iv p1438, iv p1439, iv p1440, rv a1441, iv (1 : Int32), iv (0 : Int32), iv p1442, rv a1443, iv (0 : Int32), iv (3 : Int32), iv (7 : Int32), iv (7 : Int32), .unset, .unset, .unset, .unset] [(.int p1439)])) _
  obtain ⟨_, T1463, _, X1463, hQ1463, st1463⟩ := own_cs X0 hx hZ hown (wd hw 51 rfl) (wd hw 52 rfl) (wd hw 54 rfl) (wd hw 53 rfl) (by decide) (rm17 l Z a0 hw [] p1439 h0 n0 O0 ) e0 (g := (mkF m 157 #[iv p1436, iv p1437, iv p1438, iv p1439, iv p1440, rv a1441, iv (1 : Int32), iv (0 : Int32), iv p1442, rv a1443, iv (0 : Int32), iv (3 : Int32), iv (7 : Int32), iv (7 : Int32), .unset, .unset, .unset, .unset] [(.int p1439)])) rfl (by rw [hml]; rfl) (rest := []) (W := 0) (lenOf pd_6 rfl) rfl (by show 2 * 0 + _ ≤ _; exact Nat.le_of_eq rfl) (hb hby at_157) (by decide) (by decide) (by decide) (by decide)
  rcases hQ1463 with ⟨hd1464, rfl, Nq1463, hh1465⟩ | ⟨hq1466, hq1467, rfl, Nq1463, hh1468⟩
  · have N1463 := Fr.app N0 Nq1463
    refine own_via (fun t k => st1463 t (XS.ifNo X1463.here hx rfl (hb hby at_160) rfl ((if0 _ _).trans (feq (by decide : ¬ ((1 : Int32) = (0 : Int32)))).1) (XS.iload X1463.here hx rfl (hb hby at_163) rfl (XS.goto X1463.here hx rfl (pc0 := 165) (pc' := 169) rfl (hb hby at_165) (by decide) (by decide) (XS.istore X1463.here hx rfl (hb hby at_169) rfl (l' := #[iv p1436, iv p1437, iv p1438, iv p1439, iv p1440, rv a1441, iv (1 : Int32), iv (0 : Int32), iv p1442, rv a1443, iv (0 : Int32), iv (3 : Int32), iv (7 : Int32), iv (7 : Int32), iv (7 : Int32), .unset, .unset, .unset]) rfl (XS.iload X1463.here hx rfl (hb hby at_171) rfl k)))))) ?_
    show own_Goes p e below (T1463.setTop (mkF m 173 #[iv p1436, iv p1437, iv p1438, iv p1439, iv p1440, rv a1441, iv (1 : Int32), iv (0 : Int32), iv p1442, rv a1443, iv (0 : Int32), iv (3 : Int32), iv (7 : Int32), iv (7 : Int32), iv (7 : Int32), .unset, .unset, .unset] [(.int p1440)])) _
    obtain ⟨_, T1469, _, X1469, hQ1469, st1469⟩ := own_cs X1463 hx hZ hown (wd hw 51 rfl) (wd hw 52 rfl) (wd hw 54 rfl) (wd hw 53 rfl) (by decide) (rm17 l Z a0 hw [] p1440 h0 n0 O0 ) hh1465 (g := (mkF m 173 #[iv p1436, iv p1437, iv p1438, iv p1439, iv p1440, rv a1441, iv (1 : Int32), iv (0 : Int32), iv p1442, rv a1443, iv (0 : Int32), iv (3 : Int32), iv (7 : Int32), iv (7 : Int32), iv (7 : Int32), .unset, .unset, .unset] [(.int p1440)])) rfl (by rw [hml]; rfl) (rest := []) (W := 0) (lenOf pd_6 rfl) rfl (by show 2 * 0 + _ ≤ _; exact Nat.le_of_eq rfl) (hb hby at_173) (by decide) (by decide) (by decide) (by decide)
    rcases hQ1469 with ⟨hd1470, rfl, Nq1469, hh1471⟩ | ⟨hq1472, hq1473, rfl, Nq1469, hh1474⟩
    · have N1469 := Fr.app N1463 Nq1469
      refine own_via (fun t k => st1469 t (XS.ifNo X1469.here hx rfl (hb hby at_176) rfl ((if0 _ _).trans (feq (by decide : ¬ ((1 : Int32) = (0 : Int32)))).1) (XS.iload X1469.here hx rfl (hb hby at_179) rfl (XS.goto X1469.here hx rfl (pc0 := 181) (pc' := 185) rfl (hb hby at_181) (by decide) (by decide) (XS.istore X1469.here hx rfl (hb hby at_185) rfl (l' := #[iv p1436, iv p1437, iv p1438, iv p1439, iv p1440, rv a1441, iv (1 : Int32), iv (0 : Int32), iv p1442, rv a1443, iv (0 : Int32), iv (3 : Int32), iv (7 : Int32), iv (7 : Int32), iv (7 : Int32), iv (7 : Int32), .unset, .unset]) rfl (XS.aload X1469.here hx rfl (hb hby at_187) rfl rfl (XS.iload X1469.here hx rfl (hb hby at_189) rfl k))))))) ?_
      show own_Goes p e below (T1469.setTop (mkF m 191 #[iv p1436, iv p1437, iv p1438, iv p1439, iv p1440, rv a1441, iv (1 : Int32), iv (0 : Int32), iv p1442, rv a1443, iv (0 : Int32), iv (3 : Int32), iv (7 : Int32), iv (7 : Int32), iv (7 : Int32), iv (7 : Int32), .unset, .unset] [(.int (0 : Int32)), (.ref a1443)])) _
      obtain ⟨_, T1475, _, X1475, hQ1475, st1475⟩ := own_cv X1469 hx hZ hown (wd hw 55 rfl) (wd hw 56 rfl) (wd hw 58 rfl) (wd hw 57 rfl) (wd hw 59 rfl) (wd hw 4 rfl) (by decide) (rm20 l Z a0 hw [] a1443 a1441 a1448 k1451 (7 : Int32) p1449 (1 : Int32) (7 : Int32) p1450 (1 : Int32) (0 : Int32) (0 : Int32) k1447 p1439 p1440 h0 n0 O0 pF_a1443_text pF_a1443_first pV_a1448 pE_a1443 pV_a1441 hd1464) hh1471 pE_a1443 (g := (mkF m 191 #[iv p1436, iv p1437, iv p1438, iv p1439, iv p1440, rv a1441, iv (1 : Int32), iv (0 : Int32), iv p1442, rv a1443, iv (0 : Int32), iv (3 : Int32), iv (7 : Int32), iv (7 : Int32), iv (7 : Int32), iv (7 : Int32), .unset, .unset] [(.int (0 : Int32)), (.ref a1443)])) rfl (by rw [hml]; rfl) (rest := []) (W := 0) (lenOf pd_3 rfl) rfl (by show 2 * 0 + _ ≤ _; exact Nat.le_of_eq rfl) (hb hby at_191) (by decide) (by decide) (by decide) (by decide)
      obtain ⟨hd1476, rfl, Nq1475, hh1477⟩ := hQ1475
      have N1475 := Fr.app N1469 Nq1475
      refine own_via (fun t k => st1475 t (XS.istore X1475.here hx rfl (hb hby at_194) rfl (l' := #[iv p1436, iv p1437, iv p1438, iv p1439, iv p1440, rv a1441, iv (1 : Int32), iv (0 : Int32), iv p1442, rv a1443, iv (0 : Int32), iv (3 : Int32), iv (7 : Int32), iv (7 : Int32), iv (7 : Int32), iv (7 : Int32), iv (7 : Int32), .unset]) rfl (XS.aload X1475.here hx rfl (hb hby at_196) rfl rfl (XS.iload X1475.here hx rfl (hb hby at_198) rfl k)))) ?_
      show own_Goes p e below (T1475.setTop (mkF m 200 #[iv p1436, iv p1437, iv p1438, iv p1439, iv p1440, rv a1441, iv (1 : Int32), iv (0 : Int32), iv p1442, rv a1443, iv (0 : Int32), iv (3 : Int32), iv (7 : Int32), iv (7 : Int32), iv (7 : Int32), iv (7 : Int32), iv (7 : Int32), .unset] [(.int (3 : Int32)), (.ref a1443)])) _
      obtain ⟨_, T1478, _, X1478, hQ1478, st1478⟩ := own_cv X1475 hx hZ hown (wd hw 55 rfl) (wd hw 56 rfl) (wd hw 58 rfl) (wd hw 57 rfl) (wd hw 59 rfl) (wd hw 4 rfl) (by decide) (rm23 l Z a0 hw [] a1443 a1441 a1448 k1451 (0 : Int32) (7 : Int32) p1449 (7 : Int32) p1450 (1 : Int32) (0 : Int32) (0 : Int32) k1447 p1439 p1440 h0 n0 O0 pF_a1443_text pF_a1443_first pV_a1448 pE_a1443 pV_a1441 hd1470) hh1477 pE_a1443 (g := (mkF m 200 #[iv p1436, iv p1437, iv p1438, iv p1439, iv p1440, rv a1441, iv (1 : Int32), iv (0 : Int32), iv p1442, rv a1443, iv (0 : Int32), iv (3 : Int32), iv (7 : Int32), iv (7 : Int32), iv (7 : Int32), iv (7 : Int32), iv (7 : Int32), .unset] [(.int (3 : Int32)), (.ref a1443)])) rfl (by rw [hml]; rfl) (rest := []) (W := 0) (lenOf pd_3 rfl) rfl (by show 2 * 0 + _ ≤ _; exact Nat.le_of_eq rfl) (hb hby at_200) (by decide) (by decide) (by decide) (by decide)
      obtain ⟨hd1479, rfl, Nq1478, hh1480⟩ := hQ1478
      have N1478 := Fr.app N1475 Nq1478
      refine own_via (fun t k => st1478 t (XS.istore X1478.here hx rfl (hb hby at_203) rfl (l' := #[iv p1436, iv p1437, iv p1438, iv p1439, iv p1440, rv a1441, iv (1 : Int32), iv (0 : Int32), iv p1442, rv a1443, iv (0 : Int32), iv (3 : Int32), iv (7 : Int32), iv (7 : Int32), iv (7 : Int32), iv (7 : Int32), iv (7 : Int32), iv (7 : Int32)]) rfl (XS.iload X1478.here hx rfl (hb hby at_205) rfl (XS.ifNo X1478.here hx rfl (hb hby at_207) rfl ((if0 _ _).trans (teq (by decide : (0 : Int32) = (0 : Int32))).2) (XS.iload X1478.here hx rfl (hb hby at_210) rfl (XS.iconst X1478.here hx rfl (hb hby at_212) (XS.icmpNo X1478.here hx rfl (hb hby at_213) rfl (teq (by decide : (3 : Int32) = (3 : Int32))).2 (XS.iload X1478.here hx rfl (hb hby at_216) rfl (XS.iload X1478.here hx rfl (hb hby at_218) rfl (XS.icmpNo X1478.here hx rfl (hb hby at_220) rfl (teq (by decide : (7 : Int32) = (7 : Int32))).2 (XS.iload X1478.here hx rfl (hb hby at_223) rfl (XS.iload X1478.here hx rfl (hb hby at_225) rfl k)))))))))))) ?_
      show own_Goes p e below (T1478.setTop (mkF m 227 #[iv p1436, iv p1437, iv p1438, iv p1439, iv p1440, rv a1441, iv (1 : Int32), iv (0 : Int32), iv p1442, rv a1443, iv (0 : Int32), iv (3 : Int32), iv (7 : Int32), iv (7 : Int32), iv (7 : Int32), iv (7 : Int32), iv (7 : Int32), iv (7 : Int32)] [(.int (7 : Int32)), (.int (7 : Int32))])) _
      refine own_via (fun t k => XS.icmpNo X1478.here hx rfl (hb hby at_227) rfl (teq (by decide : (7 : Int32) = (7 : Int32))).2 (XS.iconst X1478.here hx rfl (hb hby at_230) (XS.goto X1478.here hx rfl (pc0 := 231) (pc' := 235) rfl (hb hby at_231) (by decide) (by decide) k))) ?_
      show own_Goes p e below (T1478.setTop (mkF m 235 #[iv p1436, iv p1437, iv p1438, iv p1439, iv p1440, rv a1441, iv (1 : Int32), iv (0 : Int32), iv p1442, rv a1443, iv (0 : Int32), iv (3 : Int32), iv (7 : Int32), iv (7 : Int32), iv (7 : Int32), iv (7 : Int32), iv (7 : Int32), iv (7 : Int32)] [(.int (1 : Int32))])) _
      obtain ⟨fs, hr, hrun, hended, hW, hsame⟩ := X1478.leave (v := some (.int (1 : Int32))) (fun h => by rw [Bd.returns] at h; cases h)
      refine own_end (t := T1478.setFrames fs) ?_ ⟨_, hrun, hended, _, _, rfl, ?_, ⟨_, rfl⟩, hW, hsame.mono (by decide) (by decide)⟩
      · exact retN X1478 hx (t := .boolean) Bd.returns (by simp) (hb hby at_235) hr
      · exact ⟨rfl, N1478⟩
    · have N1469 := Fr.app N1463 Nq1469
      refine own_via (fun t k => st1469 t (XS.ifYes X1469.here hx rfl (pc0 := 176) (pc' := 184) rfl (hb hby at_176) rfl ((if0 _ _).trans (teq (by decide : (0 : Int32) = (0 : Int32))).1) (by decide) (by decide) (XS.iconst X1469.here hx rfl (hb hby at_184) (XS.istore X1469.here hx rfl (hb hby at_185) rfl (l' := #[iv p1436, iv p1437, iv p1438, iv p1439, iv p1440, rv a1441, iv (1 : Int32), iv (0 : Int32), iv p1442, rv a1443, iv (0 : Int32), iv (3 : Int32), iv (7 : Int32), iv (7 : Int32), iv (7 : Int32), iv (4 : Int32), .unset, .unset]) rfl (XS.aload X1469.here hx rfl (hb hby at_187) rfl rfl (XS.iload X1469.here hx rfl (hb hby at_189) rfl k)))))) ?_
      show own_Goes p e below (T1469.setTop (mkF m 191 #[iv p1436, iv p1437, iv p1438, iv p1439, iv p1440, rv a1441, iv (1 : Int32), iv (0 : Int32), iv p1442, rv a1443, iv (0 : Int32), iv (3 : Int32), iv (7 : Int32), iv (7 : Int32), iv (7 : Int32), iv (4 : Int32), .unset, .unset] [(.int (0 : Int32)), (.ref a1443)])) _
      obtain ⟨_, T1481, _, X1481, hQ1481, st1481⟩ := own_cv X1469 hx hZ hown (wd hw 55 rfl) (wd hw 56 rfl) (wd hw 58 rfl) (wd hw 57 rfl) (wd hw 59 rfl) (wd hw 4 rfl) (by decide) (rm20 l Z a0 hw [] a1443 a1441 a1448 k1451 (7 : Int32) p1449 (1 : Int32) (7 : Int32) p1450 (1 : Int32) (0 : Int32) (0 : Int32) k1447 p1439 p1440 h0 n0 O0 pF_a1443_text pF_a1443_first pV_a1448 pE_a1443 pV_a1441 hd1464) hh1474 pE_a1443 (g := (mkF m 191 #[iv p1436, iv p1437, iv p1438, iv p1439, iv p1440, rv a1441, iv (1 : Int32), iv (0 : Int32), iv p1442, rv a1443, iv (0 : Int32), iv (3 : Int32), iv (7 : Int32), iv (7 : Int32), iv (7 : Int32), iv (4 : Int32), .unset, .unset] [(.int (0 : Int32)), (.ref a1443)])) rfl (by rw [hml]; rfl) (rest := []) (W := 0) (lenOf pd_3 rfl) rfl (by show 2 * 0 + _ ≤ _; exact Nat.le_of_eq rfl) (hb hby at_191) (by decide) (by decide) (by decide) (by decide)
      obtain ⟨hd1482, rfl, Nq1481, hh1483⟩ := hQ1481
      have N1481 := Fr.app N1469 Nq1481
      refine own_via (fun t k => st1481 t (XS.istore X1481.here hx rfl (hb hby at_194) rfl (l' := #[iv p1436, iv p1437, iv p1438, iv p1439, iv p1440, rv a1441, iv (1 : Int32), iv (0 : Int32), iv p1442, rv a1443, iv (0 : Int32), iv (3 : Int32), iv (7 : Int32), iv (7 : Int32), iv (7 : Int32), iv (4 : Int32), iv (7 : Int32), .unset]) rfl (XS.aload X1481.here hx rfl (hb hby at_196) rfl rfl (XS.iload X1481.here hx rfl (hb hby at_198) rfl k)))) ?_
      show own_Goes p e below (T1481.setTop (mkF m 200 #[iv p1436, iv p1437, iv p1438, iv p1439, iv p1440, rv a1441, iv (1 : Int32), iv (0 : Int32), iv p1442, rv a1443, iv (0 : Int32), iv (3 : Int32), iv (7 : Int32), iv (7 : Int32), iv (7 : Int32), iv (4 : Int32), iv (7 : Int32), .unset] [(.int (3 : Int32)), (.ref a1443)])) _
      obtain ⟨_, T1484, _, X1484, hQ1484, st1484⟩ := own_cv X1481 hx hZ hown (wd hw 55 rfl) (wd hw 56 rfl) (wd hw 58 rfl) (wd hw 57 rfl) (wd hw 59 rfl) (wd hw 4 rfl) (by decide) (rm24 l Z a0 hw [] a1443 a1441 a1448 k1451 (0 : Int32) (7 : Int32) p1449 (7 : Int32) p1450 (1 : Int32) (0 : Int32) (0 : Int32) k1447 p1439 p1440 h0 n0 O0 pF_a1443_text pF_a1443_first pV_a1448 pE_a1443 pV_a1441 hq1472 hq1473) hh1483 pE_a1443 (g := (mkF m 200 #[iv p1436, iv p1437, iv p1438, iv p1439, iv p1440, rv a1441, iv (1 : Int32), iv (0 : Int32), iv p1442, rv a1443, iv (0 : Int32), iv (3 : Int32), iv (7 : Int32), iv (7 : Int32), iv (7 : Int32), iv (4 : Int32), iv (7 : Int32), .unset] [(.int (3 : Int32)), (.ref a1443)])) rfl (by rw [hml]; rfl) (rest := []) (W := 0) (lenOf pd_3 rfl) rfl (by show 2 * 0 + _ ≤ _; exact Nat.le_of_eq rfl) (hb hby at_200) (by decide) (by decide) (by decide) (by decide)
      obtain ⟨rfl, Nq1484, hh1485⟩ := hQ1484
      have N1484 := Fr.app N1481 Nq1484
      refine own_via (fun t k => st1484 t (XS.istore X1484.here hx rfl (hb hby at_203) rfl (l' := #[iv p1436, iv p1437, iv p1438, iv p1439, iv p1440, rv a1441, iv (1 : Int32), iv (0 : Int32), iv p1442, rv a1443, iv (0 : Int32), iv (3 : Int32), iv (7 : Int32), iv (7 : Int32), iv (7 : Int32), iv (4 : Int32), iv (7 : Int32), iv (4 : Int32)]) rfl (XS.iload X1484.here hx rfl (hb hby at_205) rfl (XS.ifNo X1484.here hx rfl (hb hby at_207) rfl ((if0 _ _).trans (teq (by decide : (0 : Int32) = (0 : Int32))).2) (XS.iload X1484.here hx rfl (hb hby at_210) rfl (XS.iconst X1484.here hx rfl (hb hby at_212) (XS.icmpNo X1484.here hx rfl (hb hby at_213) rfl (teq (by decide : (3 : Int32) = (3 : Int32))).2 (XS.iload X1484.here hx rfl (hb hby at_216) rfl (XS.iload X1484.here hx rfl (hb hby at_218) rfl (XS.icmpNo X1484.here hx rfl (hb hby at_220) rfl (teq (by decide : (7 : Int32) = (7 : Int32))).2 (XS.iload X1484.here hx rfl (hb hby at_223) rfl (XS.iload X1484.here hx rfl (hb hby at_225) rfl k)))))))))))) ?_
      show own_Goes p e below (T1484.setTop (mkF m 227 #[iv p1436, iv p1437, iv p1438, iv p1439, iv p1440, rv a1441, iv (1 : Int32), iv (0 : Int32), iv p1442, rv a1443, iv (0 : Int32), iv (3 : Int32), iv (7 : Int32), iv (7 : Int32), iv (7 : Int32), iv (4 : Int32), iv (7 : Int32), iv (4 : Int32)] [(.int (4 : Int32)), (.int (4 : Int32))])) _
      refine own_via (fun t k => XS.icmpNo X1484.here hx rfl (hb hby at_227) rfl (teq (by decide : (4 : Int32) = (4 : Int32))).2 (XS.iconst X1484.here hx rfl (hb hby at_230) (XS.goto X1484.here hx rfl (pc0 := 231) (pc' := 235) rfl (hb hby at_231) (by decide) (by decide) k))) ?_
      show own_Goes p e below (T1484.setTop (mkF m 235 #[iv p1436, iv p1437, iv p1438, iv p1439, iv p1440, rv a1441, iv (1 : Int32), iv (0 : Int32), iv p1442, rv a1443, iv (0 : Int32), iv (3 : Int32), iv (7 : Int32), iv (7 : Int32), iv (7 : Int32), iv (4 : Int32), iv (7 : Int32), iv (4 : Int32)] [(.int (1 : Int32))])) _
      obtain ⟨fs, hr, hrun, hended, hW, hsame⟩ := X1484.leave (v := some (.int (1 : Int32))) (fun h => by rw [Bd.returns] at h; cases h)
      refine own_end (t := T1484.setFrames fs) ?_ ⟨_, hrun, hended, _, _, rfl, ?_, ⟨_, rfl⟩, hW, hsame.mono (by decide) (by decide)⟩
      · exact retN X1484 hx (t := .boolean) Bd.returns (by simp) (hb hby at_235) hr
      · exact ⟨rfl, N1484⟩
  · have N1463 := Fr.app N0 Nq1463
    refine own_via (fun t k => st1463 t (XS.ifYes X1463.here hx rfl (pc0 := 160) (pc' := 168) rfl (hb hby at_160) rfl ((if0 _ _).trans (teq (by decide : (0 : Int32) = (0 : Int32))).1) (by decide) (by decide) (XS.iconst X1463.here hx rfl (hb hby at_168) (XS.istore X1463.here hx rfl (hb hby at_169) rfl (l' := #[iv p1436, iv p1437, iv p1438, iv p1439, iv p1440, rv a1441, iv (1 : Int32), iv (0 : Int32), iv p1442, rv a1443, iv (0 : Int32), iv (3 : Int32), iv (7 : Int32), iv (7 : Int32), iv (1 : Int32), .unset, .unset, .unset]) rfl (XS.iload X1463.here hx rfl (hb hby at_171) rfl k))))) ?_
    show own_Goes p e below (T1463.setTop (mkF m 173 #[iv p1436, iv p1437, iv p1438, iv p1439, iv p1440, rv a1441, iv (1 : Int32), iv (0 : Int32), iv p1442, rv a1443, iv (0 : Int32), iv (3 : Int32), iv (7 : Int32), iv (7 : Int32), iv (1 : Int32), .unset, .unset, .unset] [(.int p1440)])) _
    obtain ⟨_, T1486, _, X1486, hQ1486, st1486⟩ := own_cs X1463 hx hZ hown (wd hw 51 rfl) (wd hw 52 rfl) (wd hw 54 rfl) (wd hw 53 rfl) (by decide) (rm17 l Z a0 hw [] p1440 h0 n0 O0 ) hh1468 (g := (mkF m 173 #[iv p1436, iv p1437, iv p1438, iv p1439, iv p1440, rv a1441, iv (1 : Int32), iv (0 : Int32), iv p1442, rv a1443, iv (0 : Int32), iv (3 : Int32), iv (7 : Int32), iv (7 : Int32), iv (1 : Int32), .unset, .unset, .unset] [(.int p1440)])) rfl (by rw [hml]; rfl) (rest := []) (W := 0) (lenOf pd_6 rfl) rfl (by show 2 * 0 + _ ≤ _; exact Nat.le_of_eq rfl) (hb hby at_173) (by decide) (by decide) (by decide) (by decide)
    rcases hQ1486 with ⟨hd1487, rfl, Nq1486, hh1488⟩ | ⟨hq1489, hq1490, rfl, Nq1486, hh1491⟩
    · have N1486 := Fr.app N1463 Nq1486
      refine own_via (fun t k => st1486 t (XS.ifNo X1486.here hx rfl (hb hby at_176) rfl ((if0 _ _).trans (feq (by decide : ¬ ((1 : Int32) = (0 : Int32)))).1) (XS.iload X1486.here hx rfl (hb hby at_179) rfl (XS.goto X1486.here hx rfl (pc0 := 181) (pc' := 185) rfl (hb hby at_181) (by decide) (by decide) (XS.istore X1486.here hx rfl (hb hby at_185) rfl (l' := #[iv p1436, iv p1437, iv p1438, iv p1439, iv p1440, rv a1441, iv (1 : Int32), iv (0 : Int32), iv p1442, rv a1443, iv (0 : Int32), iv (3 : Int32), iv (7 : Int32), iv (7 : Int32), iv (1 : Int32), iv (7 : Int32), .unset, .unset]) rfl (XS.aload X1486.here hx rfl (hb hby at_187) rfl rfl (XS.iload X1486.here hx rfl (hb hby at_189) rfl k))))))) ?_
      show own_Goes p e below (T1486.setTop (mkF m 191 #[iv p1436, iv p1437, iv p1438, iv p1439, iv p1440, rv a1441, iv (1 : Int32), iv (0 : Int32), iv p1442, rv a1443, iv (0 : Int32), iv (3 : Int32), iv (7 : Int32), iv (7 : Int32), iv (1 : Int32), iv (7 : Int32), .unset, .unset] [(.int (0 : Int32)), (.ref a1443)])) _
      obtain ⟨_, T1492, _, X1492, hQ1492, st1492⟩ := own_cv X1486 hx hZ hown (wd hw 55 rfl) (wd hw 56 rfl) (wd hw 58 rfl) (wd hw 57 rfl) (wd hw 59 rfl) (wd hw 4 rfl) (by decide) (rm25 l Z a0 hw [] a1443 a1441 a1448 k1451 (7 : Int32) p1449 (1 : Int32) (7 : Int32) p1450 (1 : Int32) (0 : Int32) (0 : Int32) k1447 p1439 p1440 h0 n0 O0 pF_a1443_text pF_a1443_first pV_a1448 pE_a1443 pV_a1441 hq1466 hq1467) hh1488 pE_a1443 (g := (mkF m 191 #[iv p1436, iv p1437, iv p1438, iv p1439, iv p1440, rv a1441, iv (1 : Int32), iv (0 : Int32), iv p1442, rv a1443, iv (0 : Int32), iv (3 : Int32), iv (7 : Int32), iv (7 : Int32), iv (1 : Int32), iv (7 : Int32), .unset, .unset] [(.int (0 : Int32)), (.ref a1443)])) rfl (by rw [hml]; rfl) (rest := []) (W := 0) (lenOf pd_3 rfl) rfl (by show 2 * 0 + _ ≤ _; exact Nat.le_of_eq rfl) (hb hby at_191) (by decide) (by decide) (by decide) (by decide)
      obtain ⟨rfl, Nq1492, hh1493⟩ := hQ1492
      have N1492 := Fr.app N1486 Nq1492
      refine own_via (fun t k => st1492 t (XS.istore X1492.here hx rfl (hb hby at_194) rfl (l' := #[iv p1436, iv p1437, iv p1438, iv p1439, iv p1440, rv a1441, iv (1 : Int32), iv (0 : Int32), iv p1442, rv a1443, iv (0 : Int32), iv (3 : Int32), iv (7 : Int32), iv (7 : Int32), iv (1 : Int32), iv (7 : Int32), iv (1 : Int32), .unset]) rfl (XS.aload X1492.here hx rfl (hb hby at_196) rfl rfl (XS.iload X1492.here hx rfl (hb hby at_198) rfl k)))) ?_
      show own_Goes p e below (T1492.setTop (mkF m 200 #[iv p1436, iv p1437, iv p1438, iv p1439, iv p1440, rv a1441, iv (1 : Int32), iv (0 : Int32), iv p1442, rv a1443, iv (0 : Int32), iv (3 : Int32), iv (7 : Int32), iv (7 : Int32), iv (1 : Int32), iv (7 : Int32), iv (1 : Int32), .unset] [(.int (3 : Int32)), (.ref a1443)])) _
      obtain ⟨_, T1494, _, X1494, hQ1494, st1494⟩ := own_cv X1492 hx hZ hown (wd hw 55 rfl) (wd hw 56 rfl) (wd hw 58 rfl) (wd hw 57 rfl) (wd hw 59 rfl) (wd hw 4 rfl) (by decide) (rm23 l Z a0 hw [] a1443 a1441 a1448 k1451 (0 : Int32) (7 : Int32) p1449 (7 : Int32) p1450 (1 : Int32) (0 : Int32) (0 : Int32) k1447 p1439 p1440 h0 n0 O0 pF_a1443_text pF_a1443_first pV_a1448 pE_a1443 pV_a1441 hd1487) hh1493 pE_a1443 (g := (mkF m 200 #[iv p1436, iv p1437, iv p1438, iv p1439, iv p1440, rv a1441, iv (1 : Int32), iv (0 : Int32), iv p1442, rv a1443, iv (0 : Int32), iv (3 : Int32), iv (7 : Int32), iv (7 : Int32), iv (1 : Int32), iv (7 : Int32), iv (1 : Int32), .unset] [(.int (3 : Int32)), (.ref a1443)])) rfl (by rw [hml]; rfl) (rest := []) (W := 0) (lenOf pd_3 rfl) rfl (by show 2 * 0 + _ ≤ _; exact Nat.le_of_eq rfl) (hb hby at_200) (by decide) (by decide) (by decide) (by decide)
      obtain ⟨hd1495, rfl, Nq1494, hh1496⟩ := hQ1494
      have N1494 := Fr.app N1492 Nq1494
      refine own_via (fun t k => st1494 t (XS.istore X1494.here hx rfl (hb hby at_203) rfl (l' := #[iv p1436, iv p1437, iv p1438, iv p1439, iv p1440, rv a1441, iv (1 : Int32), iv (0 : Int32), iv p1442, rv a1443, iv (0 : Int32), iv (3 : Int32), iv (7 : Int32), iv (7 : Int32), iv (1 : Int32), iv (7 : Int32), iv (1 : Int32), iv (7 : Int32)]) rfl (XS.iload X1494.here hx rfl (hb hby at_205) rfl (XS.ifNo X1494.here hx rfl (hb hby at_207) rfl ((if0 _ _).trans (teq (by decide : (0 : Int32) = (0 : Int32))).2) (XS.iload X1494.here hx rfl (hb hby at_210) rfl (XS.iconst X1494.here hx rfl (hb hby at_212) (XS.icmpNo X1494.here hx rfl (hb hby at_213) rfl (teq (by decide : (3 : Int32) = (3 : Int32))).2 (XS.iload X1494.here hx rfl (hb hby at_216) rfl (XS.iload X1494.here hx rfl (hb hby at_218) rfl (XS.icmpNo X1494.here hx rfl (hb hby at_220) rfl (teq (by decide : (1 : Int32) = (1 : Int32))).2 (XS.iload X1494.here hx rfl (hb hby at_223) rfl (XS.iload X1494.here hx rfl (hb hby at_225) rfl k)))))))))))) ?_
      show own_Goes p e below (T1494.setTop (mkF m 227 #[iv p1436, iv p1437, iv p1438, iv p1439, iv p1440, rv a1441, iv (1 : Int32), iv (0 : Int32), iv p1442, rv a1443, iv (0 : Int32), iv (3 : Int32), iv (7 : Int32), iv (7 : Int32), iv (1 : Int32), iv (7 : Int32), iv (1 : Int32), iv (7 : Int32)] [(.int (7 : Int32)), (.int (7 : Int32))])) _
      refine own_via (fun t k => XS.icmpNo X1494.here hx rfl (hb hby at_227) rfl (teq (by decide : (7 : Int32) = (7 : Int32))).2 (XS.iconst X1494.here hx rfl (hb hby at_230) (XS.goto X1494.here hx rfl (pc0 := 231) (pc' := 235) rfl (hb hby at_231) (by decide) (by decide) k))) ?_
      show own_Goes p e below (T1494.setTop (mkF m 235 #[iv p1436, iv p1437, iv p1438, iv p1439, iv p1440, rv a1441, iv (1 : Int32), iv (0 : Int32), iv p1442, rv a1443, iv (0 : Int32), iv (3 : Int32), iv (7 : Int32), iv (7 : Int32), iv (1 : Int32), iv (7 : Int32), iv (1 : Int32), iv (7 : Int32)] [(.int (1 : Int32))])) _
      obtain ⟨fs, hr, hrun, hended, hW, hsame⟩ := X1494.leave (v := some (.int (1 : Int32))) (fun h => by rw [Bd.returns] at h; cases h)
      refine own_end (t := T1494.setFrames fs) ?_ ⟨_, hrun, hended, _, _, rfl, ?_, ⟨_, rfl⟩, hW, hsame.mono (by decide) (by decide)⟩
      · exact retN X1494 hx (t := .boolean) Bd.returns (by simp) (hb hby at_235) hr
      · exact ⟨rfl, N1494⟩
    · have N1486 := Fr.app N1463 Nq1486
      refine own_via (fun t k => st1486 t (XS.ifYes X1486.here hx rfl (pc0 := 176) (pc' := 184) rfl (hb hby at_176) rfl ((if0 _ _).trans (teq (by decide : (0 : Int32) = (0 : Int32))).1) (by decide) (by decide) (XS.iconst X1486.here hx rfl (hb hby at_184) (XS.istore X1486.here hx rfl (hb hby at_185) rfl (l' := #[iv p1436, iv p1437, iv p1438, iv p1439, iv p1440, rv a1441, iv (1 : Int32), iv (0 : Int32), iv p1442, rv a1443, iv (0 : Int32), iv (3 : Int32), iv (7 : Int32), iv (7 : Int32), iv (1 : Int32), iv (4 : Int32), .unset, .unset]) rfl (XS.aload X1486.here hx rfl (hb hby at_187) rfl rfl (XS.iload X1486.here hx rfl (hb hby at_189) rfl k)))))) ?_
      show own_Goes p e below (T1486.setTop (mkF m 191 #[iv p1436, iv p1437, iv p1438, iv p1439, iv p1440, rv a1441, iv (1 : Int32), iv (0 : Int32), iv p1442, rv a1443, iv (0 : Int32), iv (3 : Int32), iv (7 : Int32), iv (7 : Int32), iv (1 : Int32), iv (4 : Int32), .unset, .unset] [(.int (0 : Int32)), (.ref a1443)])) _
      obtain ⟨_, T1497, _, X1497, hQ1497, st1497⟩ := own_cv X1486 hx hZ hown (wd hw 55 rfl) (wd hw 56 rfl) (wd hw 58 rfl) (wd hw 57 rfl) (wd hw 59 rfl) (wd hw 4 rfl) (by decide) (rm25 l Z a0 hw [] a1443 a1441 a1448 k1451 (7 : Int32) p1449 (1 : Int32) (7 : Int32) p1450 (1 : Int32) (0 : Int32) (0 : Int32) k1447 p1439 p1440 h0 n0 O0 pF_a1443_text pF_a1443_first pV_a1448 pE_a1443 pV_a1441 hq1466 hq1467) hh1491 pE_a1443 (g := (mkF m 191 #[iv p1436, iv p1437, iv p1438, iv p1439, iv p1440, rv a1441, iv (1 : Int32), iv (0 : Int32), iv p1442, rv a1443, iv (0 : Int32), iv (3 : Int32), iv (7 : Int32), iv (7 : Int32), iv (1 : Int32), iv (4 : Int32), .unset, .unset] [(.int (0 : Int32)), (.ref a1443)])) rfl (by rw [hml]; rfl) (rest := []) (W := 0) (lenOf pd_3 rfl) rfl (by show 2 * 0 + _ ≤ _; exact Nat.le_of_eq rfl) (hb hby at_191) (by decide) (by decide) (by decide) (by decide)
      obtain ⟨rfl, Nq1497, hh1498⟩ := hQ1497
      have N1497 := Fr.app N1486 Nq1497
      refine own_via (fun t k => st1497 t (XS.istore X1497.here hx rfl (hb hby at_194) rfl (l' := #[iv p1436, iv p1437, iv p1438, iv p1439, iv p1440, rv a1441, iv (1 : Int32), iv (0 : Int32), iv p1442, rv a1443, iv (0 : Int32), iv (3 : Int32), iv (7 : Int32), iv (7 : Int32), iv (1 : Int32), iv (4 : Int32), iv (1 : Int32), .unset]) rfl (XS.aload X1497.here hx rfl (hb hby at_196) rfl rfl (XS.iload X1497.here hx rfl (hb hby at_198) rfl k)))) ?_
      show own_Goes p e below (T1497.setTop (mkF m 200 #[iv p1436, iv p1437, iv p1438, iv p1439, iv p1440, rv a1441, iv (1 : Int32), iv (0 : Int32), iv p1442, rv a1443, iv (0 : Int32), iv (3 : Int32), iv (7 : Int32), iv (7 : Int32), iv (1 : Int32), iv (4 : Int32), iv (1 : Int32), .unset] [(.int (3 : Int32)), (.ref a1443)])) _
      obtain ⟨_, T1499, _, X1499, hQ1499, st1499⟩ := own_cv X1497 hx hZ hown (wd hw 55 rfl) (wd hw 56 rfl) (wd hw 58 rfl) (wd hw 57 rfl) (wd hw 59 rfl) (wd hw 4 rfl) (by decide) (rm24 l Z a0 hw [] a1443 a1441 a1448 k1451 (0 : Int32) (7 : Int32) p1449 (7 : Int32) p1450 (1 : Int32) (0 : Int32) (0 : Int32) k1447 p1439 p1440 h0 n0 O0 pF_a1443_text pF_a1443_first pV_a1448 pE_a1443 pV_a1441 hq1489 hq1490) hh1498 pE_a1443 (g := (mkF m 200 #[iv p1436, iv p1437, iv p1438, iv p1439, iv p1440, rv a1441, iv (1 : Int32), iv (0 : Int32), iv p1442, rv a1443, iv (0 : Int32), iv (3 : Int32), iv (7 : Int32), iv (7 : Int32), iv (1 : Int32), iv (4 : Int32), iv (1 : Int32), .unset] [(.int (3 : Int32)), (.ref a1443)])) rfl (by rw [hml]; rfl) (rest := []) (W := 0) (lenOf pd_3 rfl) rfl (by show 2 * 0 + _ ≤ _; exact Nat.le_of_eq rfl) (hb hby at_200) (by decide) (by decide) (by decide) (by decide)
      obtain ⟨rfl, Nq1499, hh1500⟩ := hQ1499
      have N1499 := Fr.app N1497 Nq1499
      refine own_via (fun t k => st1499 t (XS.istore X1499.here hx rfl (hb hby at_203) rfl (l' := #[iv p1436, iv p1437, iv p1438, iv p1439, iv p1440, rv a1441, iv (1 : Int32), iv (0 : Int32), iv p1442, rv a1443, iv (0 : Int32), iv (3 : Int32), iv (7 : Int32), iv (7 : Int32), iv (1 : Int32), iv (4 : Int32), iv (1 : Int32), iv (4 : Int32)]) rfl (XS.iload X1499.here hx rfl (hb hby at_205) rfl (XS.ifNo X1499.here hx rfl (hb hby at_207) rfl ((if0 _ _).trans (teq (by decide : (0 : Int32) = (0 : Int32))).2) (XS.iload X1499.here hx rfl (hb hby at_210) rfl (XS.iconst X1499.here hx rfl (hb hby at_212) (XS.icmpNo X1499.here hx rfl (hb hby at_213) rfl (teq (by decide : (3 : Int32) = (3 : Int32))).2 (XS.iload X1499.here hx rfl (hb hby at_216) rfl (XS.iload X1499.here hx rfl (hb hby at_218) rfl (XS.icmpNo X1499.here hx rfl (hb hby at_220) rfl (teq (by decide : (1 : Int32) = (1 : Int32))).2 (XS.iload X1499.here hx rfl (hb hby at_223) rfl (XS.iload X1499.here hx rfl (hb hby at_225) rfl k)))))))))))) ?_
      show own_Goes p e below (T1499.setTop (mkF m 227 #[iv p1436, iv p1437, iv p1438, iv p1439, iv p1440, rv a1441, iv (1 : Int32), iv (0 : Int32), iv p1442, rv a1443, iv (0 : Int32), iv (3 : Int32), iv (7 : Int32), iv (7 : Int32), iv (1 : Int32), iv (4 : Int32), iv (1 : Int32), iv (4 : Int32)] [(.int (4 : Int32)), (.int (4 : Int32))])) _
      refine own_via (fun t k => XS.icmpNo X1499.here hx rfl (hb hby at_227) rfl (teq (by decide : (4 : Int32) = (4 : Int32))).2 (XS.iconst X1499.here hx rfl (hb hby at_230) (XS.goto X1499.here hx rfl (pc0 := 231) (pc' := 235) rfl (hb hby at_231) (by decide) (by decide) k))) ?_
      show own_Goes p e below (T1499.setTop (mkF m 235 #[iv p1436, iv p1437, iv p1438, iv p1439, iv p1440, rv a1441, iv (1 : Int32), iv (0 : Int32), iv p1442, rv a1443, iv (0 : Int32), iv (3 : Int32), iv (7 : Int32), iv (7 : Int32), iv (1 : Int32), iv (4 : Int32), iv (1 : Int32), iv (4 : Int32)] [(.int (1 : Int32))])) _
      obtain ⟨fs, hr, hrun, hended, hW, hsame⟩ := X1499.leave (v := some (.int (1 : Int32))) (fun h => by rw [Bd.returns] at h; cases h)
      refine own_end (t := T1499.setFrames fs) ?_ ⟨_, hrun, hended, _, _, rfl, ?_, ⟨_, rfl⟩, hW, hsame.mono (by decide) (by decide)⟩
      · exact retN X1499 hx (t := .boolean) Bd.returns (by simp) (hb hby at_235) hr
      · exact ⟨rfl, N1499⟩
def Q31 (Z : State) (a1508 : Addr) (a1513 : Addr) (k1523 : ClassId) (p1514 : Int32) (p1515 : Int32) (p1516 : Int32) (p1517 : Int32) (p1518 : Int32) (p1519 : Int32) (p1520 : Int32) (p1521 : Int32) (p1522 : Int32) (a1509 : Addr) (h0 : Heap) (n0 : Nat) (v : Option Value) (h : Heap) (L : List Loc) : Prop := v = some (.int (7 : Int32)) ∧ Fr n0 L ∧ Keep h0 h [a1513, a1508] ∧ Exa Z h a1513 "[I" ∧ Arv Z h a1513 k1523 .int (16 : Int32) [(.int p1514), (.int p1515), (.int p1516), (.int p1517), (.int p1518), (.int p1519), (.int p1520), (.int (1 : Int32)), (.int p1522)] (.int (0 : Int32)) ∧ Exa Z h a1508 zs1 ∧ Fld Z h a1508 zs1 "text" "[B" (.ref a1509) ∧ Fld Z h a1508 zs1 "first" "[I" (.ref a1513) ∧ Fld Z h a1508 zs1 "length" "I" (.int (8 : Int32))
set_option maxRecDepth 65536 in
set_option maxHeartbeats 40000000 in
theorem rm31 (l : Launch) (Z : State) (a0 : Array Value) (hw : ∀ d ∈ tables_1, d.before a0 Z = true) (ws : List Jvm.Cond) (a1508 : Addr) (a1513 : Addr) (k1523 : ClassId) (p1514 : Int32) (p1515 : Int32) (p1516 : Int32) (p1517 : Int32) (p1518 : Int32) (p1519 : Int32) (p1520 : Int32) (p1521 : Int32) (p1522 : Int32) (a1509 : Addr) (h0 : Heap) (n0 : Nat) (O0 : Old Z n0 h0) (pF_a1508_length : Fld Z h0 a1508 zs1 "length" "I" (.int (7 : Int32))) (pF_a1508_first : Fld Z h0 a1508 zs1 "first" "[I" (.ref a1513)) (pL_a1513 : own_Len Z h0 a1513 .int (16 : Int32)) (pV_a1513 : Arv Z h0 a1513 k1523 .int (16 : Int32) [(.int p1514), (.int p1515), (.int p1516), (.int p1517), (.int p1518), (.int p1519), (.int p1520), (.int p1521), (.int p1522)] (.int (0 : Int32))) (pG_a1513 : n0 ≤ a1513) (pN_a1508_a1513 : a1508 ≠ a1513) (pE_a1508 : Exa Z h0 a1508 zs1) (pG_a1508 : n0 ≤ a1508) (pE_a1513 : Exa Z h0 a1513 "[I") (pF_a1508_text : Fld Z h0 a1508 zs1 "text" "[B" (.ref a1509)) :
    MetFree l (⟨zs1, "add", "(I)I"⟩ : MethodName) (head1 (Jvm.Cond.code (⟨zs1, "add", "(I)I"⟩ : MethodName) prog_17_method_2_code 2 (some .int) :: ws) ({ frames := 0, cells := 0, slots := 0, locals := 0 } : Room)) (fun a U => a = #[(.ref a1508), (.int (1 : Int32))] ∧ Z.Warmed39 U.vm ∧ U.heap = h0) (fun _ _ _ _ _ => True) (fun _ U o U' => ∃ v L, o = .returned v ∧ Q31 Z a1508 a1513 k1523 p1514 p1515 p1516 p1517 p1518 p1519 p1520 p1521 p1522 a1509 h0 n0 v U'.heap L ∧ FrameEnd U o U' L ({ frames := 0, cells := 0, slots := 0, locals := 0 } : Room).cells ({ frames := 0, cells := 0, slots := 0, locals := 0 } : Room).slots) := by
  refine MetFree.of_bodySF (plainFor_of_name pn_1) hisR ?_
  intro p e s m args below meth c s₁ Bd hml0 hP hK
  obtain ⟨rfl, hZ, hh⟩ := hP
  have hx := Bd.exec
  have hby := Bd.bytes
  have hml : c.maxLocals = 2 := hml0
  have hown : s.vm.findClass zs1 = some m.cls := findClass_of_methodNamed Bd.named
  have hnm := (name_of_methodNamed Bd.named Bd.method).1
  have X0 : Stand p l e ({ frames := 0, cells := 0, slots := 0, locals := 0 } : Room) s m #[(.ref a1508), (.int (1 : Int32))] below meth c s₁ [] 0 0 := Stand.of_body Bd
  have e0 : s₁.heap = h0 := by rw [← hh, Bd.state]; rfl
  have N0 := Fr.nil n0
  refine own_out ?_
  refine own_via (fun t k => castTop (ef_3 m a1508 (1 : Int32)) (XS.aloadN X0.here hx rfl (hb hby d5_0) rfl rfl k)) ?_
  obtain ⟨T1536, X1536, e1536, st1536⟩ := getF X0 hx hZ hown (host := "") (Or.inl (wd hw 39 rfl)) Via.refl e0 pF_a1508_length (g := (mkF m 1 #[rv a1508, iv (1 : Int32)] [(.ref a1508)])) rfl rfl (hb hby d5_1)
  refine own_via (fun t k => st1536 t (XS.aloadN X1536.here hx rfl (hb hby d5_4) rfl rfl k)) ?_
  obtain ⟨T1537, X1537, e1537, st1537⟩ := getF X1536 hx hZ hown (host := "") (Or.inl (wd hw 26 rfl)) Via.refl e1536 pF_a1508_first (g := (mkF m 5 #[rv a1508, iv (1 : Int32)] [(.ref a1508), (.int (7 : Int32))])) rfl rfl (hb hby d5_5)
  refine own_via (fun t k => st1537 t k) ?_
  obtain ⟨_, _, _, V1538⟩ := id (pL_a1513)
  obtain ⟨cl1538, Ar1538, -, S1538, M1538, -, -⟩ := id (V1538)
  refine own_via (fun t k => X1537.arraylength hx (by rw [e1537]; exact Ar1538.1) (State.isArrayOf_alike hZ.alike Ar1538.2.1) (g := (mkF m 8 #[rv a1508, iv (1 : Int32)] [(.ref a1513), (.int (7 : Int32))])) rfl rfl (hb hby d5_8) t k) ?_
  rw [len_of S1538 M1538]
  show own_Goes p e below (T1537.setTop (mkF m 9 #[rv a1508, iv (1 : Int32)] [(.int (16 : Int32)), (.int (7 : Int32))])) _
  refine own_via (fun t k => XS.icmpNo X1537.here hx rfl (hb hby d5_9) rfl (tlt (by decide : (7 : Int32) < (16 : Int32))).2.1 (XS.aloadN X1537.here hx rfl (hb hby d5_12) rfl rfl k)) ?_
  obtain ⟨T1539, X1539, e1539, st1539⟩ := getF X1537 hx hZ hown (host := "") (Or.inl (wd hw 26 rfl)) Via.refl e1537 pF_a1508_first (g := (mkF m 13 #[rv a1508, iv (1 : Int32)] [(.ref a1508)])) rfl rfl (hb hby d5_13)
  refine own_via (fun t k => st1539 t (XS.aloadN X1539.here hx rfl (hb hby d5_16) rfl rfl k)) ?_
  obtain ⟨T1540, X1540, e1540, st1540⟩ := getF X1539 hx hZ hown (host := "") (Or.inl (wd hw 39 rfl)) Via.refl e1539 pF_a1508_length (g := (mkF m 17 #[rv a1508, iv (1 : Int32)] [(.ref a1508), (.ref a1513)])) rfl rfl (hb hby d5_17)
  refine own_via (fun t k => st1540 t (XS.iloadN X1540.here hx rfl (hb hby d5_20) rfl k)) ?_
  obtain ⟨cl1541, Ar1541, qq1541, S1541, M1541, H1541, G1541⟩ := id (pV_a1513)
  have hin1541 : ¬ ((7 : Int32) < 0 ∨ cl1541.slots.size ≤ ((7 : Int32)).toNatClampNeg) := inb_of S1541 ⟨by decide, by decide⟩
  obtain ⟨T1541, h1541, X1541, e1541, W1541, st1541⟩ := stI X1540 hx hZ e1540 Ar1541 (j := (7 : Int32)) hin1541 (g := (mkF m 21 #[rv a1508, iv (1 : Int32)] [(.int (1 : Int32)), (.int (7 : Int32)), (.ref a1513)])) rfl rfl (hb hby d5_21)
  refine own_via (fun t k => st1541 t k) ?_
  have V1542 : Arv Z h1541 a1513 k1523 .int (16 : Int32) [(.int p1514), (.int p1515), (.int p1516), (.int p1517), (.int p1518), (.int p1519), (.int p1520), (.int (1 : Int32)), (.int p1522)] (.int (0 : Int32)) := Arv.set Ar1541 qq1541 S1541 M1541 H1541 G1541 rfl W1541 7 rfl (Nat.le_of_ble_eq_true rfl)
  have N1541 := Fr.snoc X1541 N0 pG_a1513
  show own_Goes p e below (T1541.setTop (mkF m 22 #[rv a1508, iv (1 : Int32)] [])) _
  refine own_via (fun t k => XS.aloadN X1541.here hx rfl (hb hby d5_22) rfl rfl (XS.dup X1541.here hx rfl (hb hby d5_23) rfl rfl k)) ?_
  have F1543 : Fld Z h1541 a1508 zs1 "length" "I" (.int (7 : Int32)) := (pF_a1508_length.other W1541 (Or.inl pN_a1508_a1513))
  obtain ⟨T1544, X1544, e1544, st1544⟩ := getF X1541 hx hZ hown (host := "") (Or.inl (wd hw 39 rfl)) Via.refl e1541 F1543 (g := (mkF m 24 #[rv a1508, iv (1 : Int32)] [(.ref a1508), (.ref a1508)])) rfl rfl (hb hby d5_24)
  refine own_via (fun t k => st1544 t (XS.dupX1 X1544.here hx rfl (hb hby d5_27) rfl rfl rfl (XS.iconst X1544.here hx rfl (hb hby d5_28) (XS.iadd X1544.here hx rfl (hb hby d5_29) rfl k)))) ?_
  show own_Goes p e below (T1544.setTop (mkF m 30 #[rv a1508, iv (1 : Int32)] [(.int (8 : Int32)), (.ref a1508), (.int (7 : Int32))])) _
  have E1545 : Exa Z h1541 a1508 zs1 := (pE_a1508.wr W1541)
  obtain ⟨T1546, h1546, X1546, e1546, W1546, st1546⟩ := putF X1544 hx hZ hown (host := "") (Or.inl (wd hw 39 rfl)) Via.refl e1544 F1543 E1545 (Or.inl (wd hw 40 rfl)) (wd hw 3 rfl) (ty := .int) (by decide) rfl rfl (g := (mkF m 30 #[rv a1508, iv (1 : Int32)] [(.int (8 : Int32)), (.ref a1508), (.int (7 : Int32))])) rfl rfl (hb hby d5_30)
  refine own_via (fun t k => st1546 t k) ?_
  have Fw1546 : Fld Z h1546 a1508 zs1 "length" "I" (.int (8 : Int32)) := F1543.same W1546
  have N1546 := Fr.snoc X1546 N1541 pG_a1508
  show own_Goes p e below (T1546.setTop (mkF m 33 #[rv a1508, iv (1 : Int32)] [(.int (7 : Int32))])) _
  obtain ⟨fs, hr, hrun, hended, hW, hsame⟩ := X1546.leave (v := some (.int (7 : Int32))) (fun h => by rw [Bd.returns] at h; cases h)
  refine own_end (t := T1546.setFrames fs) ?_ ⟨_, hrun, hended, _, _, rfl, ?_, ⟨_, rfl⟩, hW, hsame.mono (by decide) (by decide)⟩
  · exact retI X1546 hx Bd.returns (hb hby d5_33) hr
  have E1547 : Exa Z h1546 a1513 "[I" := ((pE_a1513.wr W1541).wr W1546)
  have V1548 : Arv Z h1546 a1513 k1523 .int (16 : Int32) [(.int p1514), (.int p1515), (.int p1516), (.int p1517), (.int p1518), (.int p1519), (.int p1520), (.int (1 : Int32)), (.int p1522)] (.int (0 : Int32)) := (V1542.other W1546 (Ne.symm pN_a1508_a1513))
  have E1549 : Exa Z h1546 a1508 zs1 := (E1545.wr W1546)
  have F1550 : Fld Z h1546 a1508 zs1 "text" "[B" (.ref a1509) := ((pF_a1508_text.other W1541 (Or.inl pN_a1508_a1513)).other W1546 (Or.inr (slot_ne (Or.inr (wd hw 20 rfl)) (Or.inl (wd hw 40 rfl)) (by decide) (t := (.array .byte)) (t' := .int) (by decide) (by decide))))
  have F1551 : Fld Z h1546 a1508 zs1 "first" "[I" (.ref a1513) := ((pF_a1508_first.other W1541 (Or.inl pN_a1508_a1513)).other W1546 (Or.inr (slot_ne (Or.inl (wd hw 27 rfl)) (Or.inl (wd hw 40 rfl)) (by decide) (t := (.array .int)) (t' := .int) (by decide) (by decide))))
  · show Q31 Z a1508 a1513 k1523 p1514 p1515 p1516 p1517 p1518 p1519 p1520 p1521 p1522 a1509 h0 n0 _ T1546.heap _
    rw [e1546]
    exact ⟨rfl, N1546, (((Keep.refl h0 [a1513, a1508]).wr W1541 (Or.inl (List.mem_of_getElem? (i := 0) rfl))).wr W1546 (Or.inl (List.mem_of_getElem? (i := 1) rfl))), E1547, V1548, E1549, F1550, F1551, Fw1546⟩
set_option maxRecDepth 65536 in
set_option maxHeartbeats 40000000 in
theorem sfx5 (l : Launch) (Z : State) (a0 : Array Value) (hw : ∀ d ∈ tables_1, d.before a0 Z = true) (ws : List Jvm.Cond) {p : Program} {e : Env} {s : State} {m : MethodId} {below : List Frame} {meth : Method} {c : Code} {s₁ : State} (p1570 : Int32) (p1571 : Int32) (p1572 : Int32) (p1562 : Int32) (p1563 : Int32) (p1564 : Int32) (p1565 : Int32) (p1566 : Int32) (a1567 : Addr) (p1568 : Int32) (a1569 : Addr) (a1574 : Addr) (k1577 : ClassId) (p1575 : Int32) (p1576 : Int32) (k1573 : ClassId) (Bd : BodyLoose p l x (head1 (Jvm.Cond.code x code maxLocals ret :: ws) room_1) code maxLocals ret e s m #[(.int p1570), (.int p1571), (.int p1572)] below meth c s₁) (hZ : Z.Warmed39 s.vm) (hml : c.maxLocals = 18) {T0 : State} {locs0 : List Loc} (X0 : Stand p l e room_1 s m #[(.int p1570), (.int p1571), (.int p1572)] below meth c T0 locs0 8 120) (h0 : Heap) (e0 : T0.heap = h0) (n0 : Nat) (O0 : Old Z n0 h0) (N0 : Fr n0 locs0) (pF_a1569_text : Fld Z h0 a1569 zs1 "text" "[B" (.ref a1567)) (pF_a1569_first : Fld Z h0 a1569 zs1 "first" "[I" (.ref a1574)) (pV_a1574 : Arv Z h0 a1574 k1577 .int (16 : Int32) [(.int (0 : Int32)), (.int (8 : Int32)), (.int p1575), (.int (1 : Int32)), (.int (7 : Int32)), (.int p1576), (.int (1 : Int32)), (.int (1 : Int32)), (.int (0 : Int32))] (.int (0 : Int32))) (pE_a1569 : Exa Z h0 a1569 zs1) (pV_a1567 : Arv Z h0 a1567 k1573 .byte (2 : Int32) [(.int p1565), (.int p1566)] (.int (0 : Int32))) :
    own_Goes p e below (T0.setTop (mkF m 139 #[iv p1562, iv p1563, iv p1564, iv p1565, iv p1566, rv a1567, iv (1 : Int32), iv (1 : Int32), iv p1568, rv a1569, iv (0 : Int32), iv (3 : Int32), .unset, .unset, .unset, .unset, .unset, .unset] [])) (own_G s below n0) := by
  have hx := Bd.exec
  have hby := Bd.bytes
  have hown : s.vm.findClass zs2 = some m.cls := findClass_of_methodNamed Bd.named
  have hnm := (name_of_methodNamed Bd.named Bd.method).1
  show own_Goes p e below (T0.setTop (mkF m 139 #[iv p1562, iv p1563, iv p1564, iv p1565, iv p1566, rv a1567, iv (1 : Int32), iv (1 : Int32), iv p1568, rv a1569, iv (0 : Int32), iv (3 : Int32), .unset, .unset, .unset, .unset, .unset, .unset] [])) _
  refine own_via (fun t k => XS.bipush X0.here hx rfl (hb hby at_139) (XS.iload X0.here hx rfl (hb hby at_141) rfl (XS.iadd X0.here hx rfl (hb hby at_143) rfl (XS.istore X0.here hx rfl (hb hby at_144) rfl (l' := #[iv p1562, iv p1563, iv p1564, iv p1565, iv p1566, rv a1567, iv (1 : Int32), iv (1 : Int32), iv p1568, rv a1569, iv (0 : Int32), iv (3 : Int32), iv (7 : Int32), .unset, .unset, .unset, .unset, .unset]) rfl (XS.bipush X0.here hx rfl (hb hby at_146) (XS.iload X0.here hx rfl (hb hby at_148) rfl (XS.iadd X0.here hx rfl (hb hby at_150) rfl (XS.iload X0.here hx rfl (hb hby at_151) rfl (XS.iadd X0.here hx rfl (hb hby at_153) rfl (XS.istore X0.here hx rfl (hb hby at_154) rfl (l' := #[iv p1562, iv p1563, iv p1564, iv p1565, iv p1566, rv a1567, iv (1 : Int32), iv (1 : Int32), iv p1568, rv a1569, iv (0 : Int32), iv (3 : Int32), iv (7 : Int32), iv (8 : Int32), .unset, .unset, .unset, .unset]) rfl (XS.iloadN X0.here hx rfl (hb hby at_156) rfl k))))))))))) ?_
  show own_Goes p e below (T0.setTop (mkF m 157 #[iv p1562, iv p1563, iv p1564, iv p1565, iv p1566, rv a1567, iv (1 : Int32), iv (1 : Int32), iv p1568, rv a1569, iv (0 : Int32), iv (3 : Int32), iv (7 : Int32), iv (8 : Int32), .unset, .unset, .unset, .unset] [(.int p1565)])) _
  obtain ⟨_, T1589, _, X1589, hQ1589, st1589⟩ := own_cs X0 hx hZ hown (wd hw 51 rfl) (wd hw 52 rfl) (wd hw 54 rfl) (wd hw 53 rfl) (by decide) (rm17 l Z a0 hw [] p1565 h0 n0 O0 ) e0 (g := (mkF m 157 #[iv p1562, iv p1563, iv p1564, iv p1565, iv p1566, rv a1567, iv (1 : Int32), iv (1 : Int32), iv p1568, rv a1569, iv (0 : Int32), iv (3 : Int32), iv (7 : Int32), iv (8 : Int32), .unset, .unset, .unset, .unset] [(.int p1565)])) rfl (by rw [hml]; rfl) (rest := []) (W := 0) (lenOf pd_6 rfl) rfl (by show 2 * 0 + _ ≤ _; exact Nat.le_of_eq rfl) (hb hby at_157) (by decide) (by decide) (by decide) (by decide)
  rcases hQ1589 with ⟨hd1590, rfl, Nq1589, hh1591⟩ | ⟨hq1592, hq1593, rfl, Nq1589, hh1594⟩
  · have N1589 := Fr.app N0 Nq1589
    refine own_via (fun t k => st1589 t (XS.ifNo X1589.here hx rfl (hb hby at_160) rfl ((if0 _ _).trans (feq (by decide : ¬ ((1 : Int32) = (0 : Int32)))).1) (XS.iload X1589.here hx rfl (hb hby at_163) rfl (XS.goto X1589.here hx rfl (pc0 := 165) (pc' := 169) rfl (hb hby at_165) (by decide) (by decide) (XS.istore X1589.here hx rfl (hb hby at_169) rfl (l' := #[iv p1562, iv p1563, iv p1564, iv p1565, iv p1566, rv a1567, iv (1 : Int32), iv (1 : Int32), iv p1568, rv a1569, iv (0 : Int32), iv (3 : Int32), iv (7 : Int32), iv (8 : Int32), iv (8 : Int32), .unset, .unset, .unset]) rfl (XS.iload X1589.here hx rfl (hb hby at_171) rfl k)))))) ?_
    show own_Goes p e below (T1589.setTop (mkF m 173 #[iv p1562, iv p1563, iv p1564, iv p1565, iv p1566, rv a1567, iv (1 : Int32), iv (1 : Int32), iv p1568, rv a1569, iv (0 : Int32), iv (3 : Int32), iv (7 : Int32), iv (8 : Int32), iv (8 : Int32), .unset, .unset, .unset] [(.int p1566)])) _
    obtain ⟨_, T1595, _, X1595, hQ1595, st1595⟩ := own_cs X1589 hx hZ hown (wd hw 51 rfl) (wd hw 52 rfl) (wd hw 54 rfl) (wd hw 53 rfl) (by decide) (rm17 l Z a0 hw [] p1566 h0 n0 O0 ) hh1591 (g := (mkF m 173 #[iv p1562, iv p1563, iv p1564, iv p1565, iv p1566, rv a1567, iv (1 : Int32), iv (1 : Int32), iv p1568, rv a1569, iv (0 : Int32), iv (3 : Int32), iv (7 : Int32), iv (8 : Int32), iv (8 : Int32), .unset, .unset, .unset] [(.int p1566)])) rfl (by rw [hml]; rfl) (rest := []) (W := 0) (lenOf pd_6 rfl) rfl (by show 2 * 0 + _ ≤ _; exact Nat.le_of_eq rfl) (hb hby at_173) (by decide) (by decide) (by decide) (by decide)
    rcases hQ1595 with ⟨hd1596, rfl, Nq1595, hh1597⟩ | ⟨hq1598, hq1599, rfl, Nq1595, hh1600⟩
    · have N1595 := Fr.app N1589 Nq1595
      refine own_via (fun t k => st1595 t (XS.ifNo X1595.here hx rfl (hb hby at_176) rfl ((if0 _ _).trans (feq (by decide : ¬ ((1 : Int32) = (0 : Int32)))).1) (XS.iload X1595.here hx rfl (hb hby at_179) rfl (XS.goto X1595.here hx rfl (pc0 := 181) (pc' := 185) rfl (hb hby at_181) (by decide) (by decide) (XS.istore X1595.here hx rfl (hb hby at_185) rfl (l' := #[iv p1562, iv p1563, iv p1564, iv p1565, iv p1566, rv a1567, iv (1 : Int32), iv (1 : Int32), iv p1568, rv a1569, iv (0 : Int32), iv (3 : Int32), iv (7 : Int32), iv (8 : Int32), iv (8 : Int32), iv (7 : Int32), .unset, .unset]) rfl (XS.aload X1595.here hx rfl (hb hby at_187) rfl rfl (XS.iload X1595.here hx rfl (hb hby at_189) rfl k))))))) ?_
      show own_Goes p e below (T1595.setTop (mkF m 191 #[iv p1562, iv p1563, iv p1564, iv p1565, iv p1566, rv a1567, iv (1 : Int32), iv (1 : Int32), iv p1568, rv a1569, iv (0 : Int32), iv (3 : Int32), iv (7 : Int32), iv (8 : Int32), iv (8 : Int32), iv (7 : Int32), .unset, .unset] [(.int (0 : Int32)), (.ref a1569)])) _
      obtain ⟨_, T1601, _, X1601, hQ1601, st1601⟩ := own_cv X1595 hx hZ hown (wd hw 55 rfl) (wd hw 56 rfl) (wd hw 58 rfl) (wd hw 57 rfl) (wd hw 59 rfl) (wd hw 4 rfl) (by decide) (rm20 l Z a0 hw [] a1569 a1567 a1574 k1577 (8 : Int32) p1575 (1 : Int32) (7 : Int32) p1576 (1 : Int32) (1 : Int32) (0 : Int32) k1573 p1565 p1566 h0 n0 O0 pF_a1569_text pF_a1569_first pV_a1574 pE_a1569 pV_a1567 hd1590) hh1597 pE_a1569 (g := (mkF m 191 #[iv p1562, iv p1563, iv p1564, iv p1565, iv p1566, rv a1567, iv (1 : Int32), iv (1 : Int32), iv p1568, rv a1569, iv (0 : Int32), iv (3 : Int32), iv (7 : Int32), iv (8 : Int32), iv (8 : Int32), iv (7 : Int32), .unset, .unset] [(.int (0 : Int32)), (.ref a1569)])) rfl (by rw [hml]; rfl) (rest := []) (W := 0) (lenOf pd_3 rfl) rfl (by show 2 * 0 + _ ≤ _; exact Nat.le_of_eq rfl) (hb hby at_191) (by decide) (by decide) (by decide) (by decide)
      obtain ⟨hd1602, rfl, Nq1601, hh1603⟩ := hQ1601
      have N1601 := Fr.app N1595 Nq1601
      refine own_via (fun t k => st1601 t (XS.istore X1601.here hx rfl (hb hby at_194) rfl (l' := #[iv p1562, iv p1563, iv p1564, iv p1565, iv p1566, rv a1567, iv (1 : Int32), iv (1 : Int32), iv p1568, rv a1569, iv (0 : Int32), iv (3 : Int32), iv (7 : Int32), iv (8 : Int32), iv (8 : Int32), iv (7 : Int32), iv (8 : Int32), .unset]) rfl (XS.aload X1601.here hx rfl (hb hby at_196) rfl rfl (XS.iload X1601.here hx rfl (hb hby at_198) rfl k)))) ?_
      show own_Goes p e below (T1601.setTop (mkF m 200 #[iv p1562, iv p1563, iv p1564, iv p1565, iv p1566, rv a1567, iv (1 : Int32), iv (1 : Int32), iv p1568, rv a1569, iv (0 : Int32), iv (3 : Int32), iv (7 : Int32), iv (8 : Int32), iv (8 : Int32), iv (7 : Int32), iv (8 : Int32), .unset] [(.int (3 : Int32)), (.ref a1569)])) _
      obtain ⟨_, T1604, _, X1604, hQ1604, st1604⟩ := own_cv X1601 hx hZ hown (wd hw 55 rfl) (wd hw 56 rfl) (wd hw 58 rfl) (wd hw 57 rfl) (wd hw 59 rfl) (wd hw 4 rfl) (by decide) (rm23 l Z a0 hw [] a1569 a1567 a1574 k1577 (0 : Int32) (8 : Int32) p1575 (7 : Int32) p1576 (1 : Int32) (1 : Int32) (0 : Int32) k1573 p1565 p1566 h0 n0 O0 pF_a1569_text pF_a1569_first pV_a1574 pE_a1569 pV_a1567 hd1596) hh1603 pE_a1569 (g := (mkF m 200 #[iv p1562, iv p1563, iv p1564, iv p1565, iv p1566, rv a1567, iv (1 : Int32), iv (1 : Int32), iv p1568, rv a1569, iv (0 : Int32), iv (3 : Int32), iv (7 : Int32), iv (8 : Int32), iv (8 : Int32), iv (7 : Int32), iv (8 : Int32), .unset] [(.int (3 : Int32)), (.ref a1569)])) rfl (by rw [hml]; rfl) (rest := []) (W := 0) (lenOf pd_3 rfl) rfl (by show 2 * 0 + _ ≤ _; exact Nat.le_of_eq rfl) (hb hby at_200) (by decide) (by decide) (by decide) (by decide)
      obtain ⟨hd1605, rfl, Nq1604, hh1606⟩ := hQ1604
      have N1604 := Fr.app N1601 Nq1604
      refine own_via (fun t k => st1604 t (XS.istore X1604.here hx rfl (hb hby at_203) rfl (l' := #[iv p1562, iv p1563, iv p1564, iv p1565, iv p1566, rv a1567, iv (1 : Int32), iv (1 : Int32), iv p1568, rv a1569, iv (0 : Int32), iv (3 : Int32), iv (7 : Int32), iv (8 : Int32), iv (8 : Int32), iv (7 : Int32), iv (8 : Int32), iv (7 : Int32)]) rfl (XS.iload X1604.here hx rfl (hb hby at_205) rfl (XS.ifNo X1604.here hx rfl (hb hby at_207) rfl ((if0 _ _).trans (teq (by decide : (0 : Int32) = (0 : Int32))).2) (XS.iload X1604.here hx rfl (hb hby at_210) rfl (XS.iconst X1604.here hx rfl (hb hby at_212) (XS.icmpNo X1604.here hx rfl (hb hby at_213) rfl (teq (by decide : (3 : Int32) = (3 : Int32))).2 (XS.iload X1604.here hx rfl (hb hby at_216) rfl (XS.iload X1604.here hx rfl (hb hby at_218) rfl (XS.icmpNo X1604.here hx rfl (hb hby at_220) rfl (teq (by decide : (8 : Int32) = (8 : Int32))).2 (XS.iload X1604.here hx rfl (hb hby at_223) rfl (XS.iload X1604.here hx rfl (hb hby at_225) rfl k)))))))))))) ?_
      show own_Goes p e below (T1604.setTop (mkF m 227 #[iv p1562, iv p1563, iv p1564, iv p1565, iv p1566, rv a1567, iv (1 : Int32), iv (1 : Int32), iv p1568, rv a1569, iv (0 : Int32), iv (3 : Int32), iv (7 : Int32), iv (8 : Int32), iv (8 : Int32), iv (7 : Int32), iv (8 : Int32), iv (7 : Int32)] [(.int (7 : Int32)), (.int (7 : Int32))])) _
      refine own_via (fun t k => XS.icmpNo X1604.here hx rfl (hb hby at_227) rfl (teq (by decide : (7 : Int32) = (7 : Int32))).2 (XS.iconst X1604.here hx rfl (hb hby at_230) (XS.goto X1604.here hx rfl (pc0 := 231) (pc' := 235) rfl (hb hby at_231) (by decide) (by decide) k))) ?_
      show own_Goes p e below (T1604.setTop (mkF m 235 #[iv p1562, iv p1563, iv p1564, iv p1565, iv p1566, rv a1567, iv (1 : Int32), iv (1 : Int32), iv p1568, rv a1569, iv (0 : Int32), iv (3 : Int32), iv (7 : Int32), iv (8 : Int32), iv (8 : Int32), iv (7 : Int32), iv (8 : Int32), iv (7 : Int32)] [(.int (1 : Int32))])) _
      obtain ⟨fs, hr, hrun, hended, hW, hsame⟩ := X1604.leave (v := some (.int (1 : Int32))) (fun h => by rw [Bd.returns] at h; cases h)
      refine own_end (t := T1604.setFrames fs) ?_ ⟨_, hrun, hended, _, _, rfl, ?_, ⟨_, rfl⟩, hW, hsame.mono (by decide) (by decide)⟩
      · exact retN X1604 hx (t := .boolean) Bd.returns (by simp) (hb hby at_235) hr
      · exact ⟨rfl, N1604⟩
    · have N1595 := Fr.app N1589 Nq1595
      refine own_via (fun t k => st1595 t (XS.ifYes X1595.here hx rfl (pc0 := 176) (pc' := 184) rfl (hb hby at_176) rfl ((if0 _ _).trans (teq (by decide : (0 : Int32) = (0 : Int32))).1) (by decide) (by decide) (XS.iconst X1595.here hx rfl (hb hby at_184) (XS.istore X1595.here hx rfl (hb hby at_185) rfl (l' := #[iv p1562, iv p1563, iv p1564, iv p1565, iv p1566, rv a1567, iv (1 : Int32), iv (1 : Int32), iv p1568, rv a1569, iv (0 : Int32), iv (3 : Int32), iv (7 : Int32), iv (8 : Int32), iv (8 : Int32), iv (4 : Int32), .unset, .unset]) rfl (XS.aload X1595.here hx rfl (hb hby at_187) rfl rfl (XS.iload X1595.here hx rfl (hb hby at_189) rfl k)))))) ?_
      show own_Goes p e below (T1595.setTop (mkF m 191 #[iv p1562, iv p1563, iv p1564, iv p1565, iv p1566, rv a1567, iv (1 : Int32), iv (1 : Int32), iv p1568, rv a1569, iv (0 : Int32), iv (3 : Int32), iv (7 : Int32), iv (8 : Int32), iv (8 : Int32), iv (4 : Int32), .unset, .unset] [(.int (0 : Int32)), (.ref a1569)])) _
      obtain ⟨_, T1607, _, X1607, hQ1607, st1607⟩ := own_cv X1595 hx hZ hown (wd hw 55 rfl) (wd hw 56 rfl) (wd hw 58 rfl) (wd hw 57 rfl) (wd hw 59 rfl) (wd hw 4 rfl) (by decide) (rm20 l Z a0 hw [] a1569 a1567 a1574 k1577 (8 : Int32) p1575 (1 : Int32) (7 : Int32) p1576 (1 : Int32) (1 : Int32) (0 : Int32) k1573 p1565 p1566 h0 n0 O0 pF_a1569_text pF_a1569_first pV_a1574 pE_a1569 pV_a1567 hd1590) hh1600 pE_a1569 (g := (mkF m 191 #[iv p1562, iv p1563, iv p1564, iv p1565, iv p1566, rv a1567, iv (1 : Int32), iv (1 : Int32), iv p1568, rv a1569, iv (0 : Int32), iv (3 : Int32), iv (7 : Int32), iv (8 : Int32), iv (8 : Int32), iv (4 : Int32), .unset, .unset] [(.int (0 : Int32)), (.ref a1569)])) rfl (by rw [hml]; rfl) (rest := []) (W := 0) (lenOf pd_3 rfl) rfl (by show 2 * 0 + _ ≤ _; exact Nat.le_of_eq rfl) (hb hby at_191) (by decide) (by decide) (by decide) (by decide)
      obtain ⟨hd1608, rfl, Nq1607, hh1609⟩ := hQ1607
      have N1607 := Fr.app N1595 Nq1607
      refine own_via (fun t k => st1607 t (XS.istore X1607.here hx rfl (hb hby at_194) rfl (l' := #[iv p1562, iv p1563, iv p1564, iv p1565, iv p1566, rv a1567, iv (1 : Int32), iv (1 : Int32), iv p1568, rv a1569, iv (0 : Int32), iv (3 : Int32), iv (7 : Int32), iv (8 : Int32), iv (8 : Int32), iv (4 : Int32), iv (8 : Int32), .unset]) rfl (XS.aload X1607.here hx rfl (hb hby at_196) rfl rfl (XS.iload X1607.here hx rfl (hb hby at_198) rfl k)))) ?_
      show own_Goes p e below (T1607.setTop (mkF m 200 #[iv p1562, iv p1563, iv p1564, iv p1565, iv p1566, rv a1567, iv (1 : Int32), iv (1 : Int32), iv p1568, rv a1569, iv (0 : Int32), iv (3 : Int32), iv (7 : Int32), iv (8 : Int32), iv (8 : Int32), iv (4 : Int32), iv (8 : Int32), .unset] [(.int (3 : Int32)), (.ref a1569)])) _
      obtain ⟨_, T1610, _, X1610, hQ1610, st1610⟩ := own_cv X1607 hx hZ hown (wd hw 55 rfl) (wd hw 56 rfl) (wd hw 58 rfl) (wd hw 57 rfl) (wd hw 59 rfl) (wd hw 4 rfl) (by decide) (rm24 l Z a0 hw [] a1569 a1567 a1574 k1577 (0 : Int32) (8 : Int32) p1575 (7 : Int32) p1576 (1 : Int32) (1 : Int32) (0 : Int32) k1573 p1565 p1566 h0 n0 O0 pF_a1569_text pF_a1569_first pV_a1574 pE_a1569 pV_a1567 hq1598 hq1599) hh1609 pE_a1569 (g := (mkF m 200 #[iv p1562, iv p1563, iv p1564, iv p1565, iv p1566, rv a1567, iv (1 : Int32), iv (1 : Int32), iv p1568, rv a1569, iv (0 : Int32), iv (3 : Int32), iv (7 : Int32), iv (8 : Int32), iv (8 : Int32), iv (4 : Int32), iv (8 : Int32), .unset] [(.int (3 : Int32)), (.ref a1569)])) rfl (by rw [hml]; rfl) (rest := []) (W := 0) (lenOf pd_3 rfl) rfl (by show 2 * 0 + _ ≤ _; exact Nat.le_of_eq rfl) (hb hby at_200) (by decide) (by decide) (by decide) (by decide)
      obtain ⟨rfl, Nq1610, hh1611⟩ := hQ1610
      have N1610 := Fr.app N1607 Nq1610
      refine own_via (fun t k => st1610 t (XS.istore X1610.here hx rfl (hb hby at_203) rfl (l' := #[iv p1562, iv p1563, iv p1564, iv p1565, iv p1566, rv a1567, iv (1 : Int32), iv (1 : Int32), iv p1568, rv a1569, iv (0 : Int32), iv (3 : Int32), iv (7 : Int32), iv (8 : Int32), iv (8 : Int32), iv (4 : Int32), iv (8 : Int32), iv (4 : Int32)]) rfl (XS.iload X1610.here hx rfl (hb hby at_205) rfl (XS.ifNo X1610.here hx rfl (hb hby at_207) rfl ((if0 _ _).trans (teq (by decide : (0 : Int32) = (0 : Int32))).2) (XS.iload X1610.here hx rfl (hb hby at_210) rfl (XS.iconst X1610.here hx rfl (hb hby at_212) (XS.icmpNo X1610.here hx rfl (hb hby at_213) rfl (teq (by decide : (3 : Int32) = (3 : Int32))).2 (XS.iload X1610.here hx rfl (hb hby at_216) rfl (XS.iload X1610.here hx rfl (hb hby at_218) rfl (XS.icmpNo X1610.here hx rfl (hb hby at_220) rfl (teq (by decide : (8 : Int32) = (8 : Int32))).2 (XS.iload X1610.here hx rfl (hb hby at_223) rfl (XS.iload X1610.here hx rfl (hb hby at_225) rfl k)))))))))))) ?_
      show own_Goes p e below (T1610.setTop (mkF m 227 #[iv p1562, iv p1563, iv p1564, iv p1565, iv p1566, rv a1567, iv (1 : Int32), iv (1 : Int32), iv p1568, rv a1569, iv (0 : Int32), iv (3 : Int32), iv (7 : Int32), iv (8 : Int32), iv (8 : Int32), iv (4 : Int32), iv (8 : Int32), iv (4 : Int32)] [(.int (4 : Int32)), (.int (4 : Int32))])) _
      refine own_via (fun t k => XS.icmpNo X1610.here hx rfl (hb hby at_227) rfl (teq (by decide : (4 : Int32) = (4 : Int32))).2 (XS.iconst X1610.here hx rfl (hb hby at_230) (XS.goto X1610.here hx rfl (pc0 := 231) (pc' := 235) rfl (hb hby at_231) (by decide) (by decide) k))) ?_
      show own_Goes p e below (T1610.setTop (mkF m 235 #[iv p1562, iv p1563, iv p1564, iv p1565, iv p1566, rv a1567, iv (1 : Int32), iv (1 : Int32), iv p1568, rv a1569, iv (0 : Int32), iv (3 : Int32), iv (7 : Int32), iv (8 : Int32), iv (8 : Int32), iv (4 : Int32), iv (8 : Int32), iv (4 : Int32)] [(.int (1 : Int32))])) _
      obtain ⟨fs, hr, hrun, hended, hW, hsame⟩ := X1610.leave (v := some (.int (1 : Int32))) (fun h => by rw [Bd.returns] at h; cases h)
      refine own_end (t := T1610.setFrames fs) ?_ ⟨_, hrun, hended, _, _, rfl, ?_, ⟨_, rfl⟩, hW, hsame.mono (by decide) (by decide)⟩
      · exact retN X1610 hx (t := .boolean) Bd.returns (by simp) (hb hby at_235) hr
      · exact ⟨rfl, N1610⟩
  · have N1589 := Fr.app N0 Nq1589
    refine own_via (fun t k => st1589 t (XS.ifYes X1589.here hx rfl (pc0 := 160) (pc' := 168) rfl (hb hby at_160) rfl ((if0 _ _).trans (teq (by decide : (0 : Int32) = (0 : Int32))).1) (by decide) (by decide) (XS.iconst X1589.here hx rfl (hb hby at_168) (XS.istore X1589.here hx rfl (hb hby at_169) rfl (l' := #[iv p1562, iv p1563, iv p1564, iv p1565, iv p1566, rv a1567, iv (1 : Int32), iv (1 : Int32), iv p1568, rv a1569, iv (0 : Int32), iv (3 : Int32), iv (7 : Int32), iv (8 : Int32), iv (1 : Int32), .unset, .unset, .unset]) rfl (XS.iload X1589.here hx rfl (hb hby at_171) rfl k))))) ?_
    show own_Goes p e below (T1589.setTop (mkF m 173 #[iv p1562, iv p1563, iv p1564, iv p1565, iv p1566, rv a1567, iv (1 : Int32), iv (1 : Int32), iv p1568, rv a1569, iv (0 : Int32), iv (3 : Int32), iv (7 : Int32), iv (8 : Int32), iv (1 : Int32), .unset, .unset, .unset] [(.int p1566)])) _
    obtain ⟨_, T1612, _, X1612, hQ1612, st1612⟩ := own_cs X1589 hx hZ hown (wd hw 51 rfl) (wd hw 52 rfl) (wd hw 54 rfl) (wd hw 53 rfl) (by decide) (rm17 l Z a0 hw [] p1566 h0 n0 O0 ) hh1594 (g := (mkF m 173 #[iv p1562, iv p1563, iv p1564, iv p1565, iv p1566, rv a1567, iv (1 : Int32), iv (1 : Int32), iv p1568, rv a1569, iv (0 : Int32), iv (3 : Int32), iv (7 : Int32), iv (8 : Int32), iv (1 : Int32), .unset, .unset, .unset] [(.int p1566)])) rfl (by rw [hml]; rfl) (rest := []) (W := 0) (lenOf pd_6 rfl) rfl (by show 2 * 0 + _ ≤ _; exact Nat.le_of_eq rfl) (hb hby at_173) (by decide) (by decide) (by decide) (by decide)
    rcases hQ1612 with ⟨hd1613, rfl, Nq1612, hh1614⟩ | ⟨hq1615, hq1616, rfl, Nq1612, hh1617⟩
    · have N1612 := Fr.app N1589 Nq1612
      refine own_via (fun t k => st1612 t (XS.ifNo X1612.here hx rfl (hb hby at_176) rfl ((if0 _ _).trans (feq (by decide : ¬ ((1 : Int32) = (0 : Int32)))).1) (XS.iload X1612.here hx rfl (hb hby at_179) rfl (XS.goto X1612.here hx rfl (pc0 := 181) (pc' := 185) rfl (hb hby at_181) (by decide) (by decide) (XS.istore X1612.here hx rfl (hb hby at_185) rfl (l' := #[iv p1562, iv p1563, iv p1564, iv p1565, iv p1566, rv a1567, iv (1 : Int32), iv (1 : Int32), iv p1568, rv a1569, iv (0 : Int32), iv (3 : Int32), iv (7 : Int32), iv (8 : Int32), iv (1 : Int32), iv (7 : Int32), .unset, .unset]) rfl (XS.aload X1612.here hx rfl (hb hby at_187) rfl rfl (XS.iload X1612.here hx rfl (hb hby at_189) rfl k))))))) ?_
      show own_Goes p e below (T1612.setTop (mkF m 191 #[iv p1562, iv p1563, iv p1564, iv p1565, iv p1566, rv a1567, iv (1 : Int32), iv (1 : Int32), iv p1568, rv a1569, iv (0 : Int32), iv (3 : Int32), iv (7 : Int32), iv (8 : Int32), iv (1 : Int32), iv (7 : Int32), .unset, .unset] [(.int (0 : Int32)), (.ref a1569)])) _
      obtain ⟨_, T1618, _, X1618, hQ1618, st1618⟩ := own_cv X1612 hx hZ hown (wd hw 55 rfl) (wd hw 56 rfl) (wd hw 58 rfl) (wd hw 57 rfl) (wd hw 59 rfl) (wd hw 4 rfl) (by decide) (rm25 l Z a0 hw [] a1569 a1567 a1574 k1577 (8 : Int32) p1575 (1 : Int32) (7 : Int32) p1576 (1 : Int32) (1 : Int32) (0 : Int32) k1573 p1565 p1566 h0 n0 O0 pF_a1569_text pF_a1569_first pV_a1574 pE_a1569 pV_a1567 hq1592 hq1593) hh1614 pE_a1569 (g := (mkF m 191 #[iv p1562, iv p1563, iv p1564, iv p1565, iv p1566, rv a1567, iv (1 : Int32), iv (1 : Int32), iv p1568, rv a1569, iv (0 : Int32), iv (3 : Int32), iv (7 : Int32), iv (8 : Int32), iv (1 : Int32), iv (7 : Int32), .unset, .unset] [(.int (0 : Int32)), (.ref a1569)])) rfl (by rw [hml]; rfl) (rest := []) (W := 0) (lenOf pd_3 rfl) rfl (by show 2 * 0 + _ ≤ _; exact Nat.le_of_eq rfl) (hb hby at_191) (by decide) (by decide) (by decide) (by decide)
      obtain ⟨rfl, Nq1618, hh1619⟩ := hQ1618
      have N1618 := Fr.app N1612 Nq1618
      refine own_via (fun t k => st1618 t (XS.istore X1618.here hx rfl (hb hby at_194) rfl (l' := #[iv p1562, iv p1563, iv p1564, iv p1565, iv p1566, rv a1567, iv (1 : Int32), iv (1 : Int32), iv p1568, rv a1569, iv (0 : Int32), iv (3 : Int32), iv (7 : Int32), iv (8 : Int32), iv (1 : Int32), iv (7 : Int32), iv (1 : Int32), .unset]) rfl (XS.aload X1618.here hx rfl (hb hby at_196) rfl rfl (XS.iload X1618.here hx rfl (hb hby at_198) rfl k)))) ?_
      show own_Goes p e below (T1618.setTop (mkF m 200 #[iv p1562, iv p1563, iv p1564, iv p1565, iv p1566, rv a1567, iv (1 : Int32), iv (1 : Int32), iv p1568, rv a1569, iv (0 : Int32), iv (3 : Int32), iv (7 : Int32), iv (8 : Int32), iv (1 : Int32), iv (7 : Int32), iv (1 : Int32), .unset] [(.int (3 : Int32)), (.ref a1569)])) _
      obtain ⟨_, T1620, _, X1620, hQ1620, st1620⟩ := own_cv X1618 hx hZ hown (wd hw 55 rfl) (wd hw 56 rfl) (wd hw 58 rfl) (wd hw 57 rfl) (wd hw 59 rfl) (wd hw 4 rfl) (by decide) (rm23 l Z a0 hw [] a1569 a1567 a1574 k1577 (0 : Int32) (8 : Int32) p1575 (7 : Int32) p1576 (1 : Int32) (1 : Int32) (0 : Int32) k1573 p1565 p1566 h0 n0 O0 pF_a1569_text pF_a1569_first pV_a1574 pE_a1569 pV_a1567 hd1613) hh1619 pE_a1569 (g := (mkF m 200 #[iv p1562, iv p1563, iv p1564, iv p1565, iv p1566, rv a1567, iv (1 : Int32), iv (1 : Int32), iv p1568, rv a1569, iv (0 : Int32), iv (3 : Int32), iv (7 : Int32), iv (8 : Int32), iv (1 : Int32), iv (7 : Int32), iv (1 : Int32), .unset] [(.int (3 : Int32)), (.ref a1569)])) rfl (by rw [hml]; rfl) (rest := []) (W := 0) (lenOf pd_3 rfl) rfl (by show 2 * 0 + _ ≤ _; exact Nat.le_of_eq rfl) (hb hby at_200) (by decide) (by decide) (by decide) (by decide)
      obtain ⟨hd1621, rfl, Nq1620, hh1622⟩ := hQ1620
      have N1620 := Fr.app N1618 Nq1620
      refine own_via (fun t k => st1620 t (XS.istore X1620.here hx rfl (hb hby at_203) rfl (l' := #[iv p1562, iv p1563, iv p1564, iv p1565, iv p1566, rv a1567, iv (1 : Int32), iv (1 : Int32), iv p1568, rv a1569, iv (0 : Int32), iv (3 : Int32), iv (7 : Int32), iv (8 : Int32), iv (1 : Int32), iv (7 : Int32), iv (1 : Int32), iv (7 : Int32)]) rfl (XS.iload X1620.here hx rfl (hb hby at_205) rfl (XS.ifNo X1620.here hx rfl (hb hby at_207) rfl ((if0 _ _).trans (teq (by decide : (0 : Int32) = (0 : Int32))).2) (XS.iload X1620.here hx rfl (hb hby at_210) rfl (XS.iconst X1620.here hx rfl (hb hby at_212) (XS.icmpNo X1620.here hx rfl (hb hby at_213) rfl (teq (by decide : (3 : Int32) = (3 : Int32))).2 (XS.iload X1620.here hx rfl (hb hby at_216) rfl (XS.iload X1620.here hx rfl (hb hby at_218) rfl (XS.icmpNo X1620.here hx rfl (hb hby at_220) rfl (teq (by decide : (1 : Int32) = (1 : Int32))).2 (XS.iload X1620.here hx rfl (hb hby at_223) rfl (XS.iload X1620.here hx rfl (hb hby at_225) rfl k)))))))))))) ?_
      show own_Goes p e below (T1620.setTop (mkF m 227 #[iv p1562, iv p1563, iv p1564, iv p1565, iv p1566, rv a1567, iv (1 : Int32), iv (1 : Int32), iv p1568, rv a1569, iv (0 : Int32), iv (3 : Int32), iv (7 : Int32), iv (8 : Int32), iv (1 : Int32), iv (7 : Int32), iv (1 : Int32), iv (7 : Int32)] [(.int (7 : Int32)), (.int (7 : Int32))])) _
      refine own_via (fun t k => XS.icmpNo X1620.here hx rfl (hb hby at_227) rfl (teq (by decide : (7 : Int32) = (7 : Int32))).2 (XS.iconst X1620.here hx rfl (hb hby at_230) (XS.goto X1620.here hx rfl (pc0 := 231) (pc' := 235) rfl (hb hby at_231) (by decide) (by decide) k))) ?_
      show own_Goes p e below (T1620.setTop (mkF m 235 #[iv p1562, iv p1563, iv p1564, iv p1565, iv p1566, rv a1567, iv (1 : Int32), iv (1 : Int32), iv p1568, rv a1569, iv (0 : Int32), iv (3 : Int32), iv (7 : Int32), iv (8 : Int32), iv (1 : Int32), iv (7 : Int32), iv (1 : Int32), iv (7 : Int32)] [(.int (1 : Int32))])) _
      obtain ⟨fs, hr, hrun, hended, hW, hsame⟩ := X1620.leave (v := some (.int (1 : Int32))) (fun h => by rw [Bd.returns] at h; cases h)
      refine own_end (t := T1620.setFrames fs) ?_ ⟨_, hrun, hended, _, _, rfl, ?_, ⟨_, rfl⟩, hW, hsame.mono (by decide) (by decide)⟩
      · exact retN X1620 hx (t := .boolean) Bd.returns (by simp) (hb hby at_235) hr
      · exact ⟨rfl, N1620⟩
    · have N1612 := Fr.app N1589 Nq1612
      refine own_via (fun t k => st1612 t (XS.ifYes X1612.here hx rfl (pc0 := 176) (pc' := 184) rfl (hb hby at_176) rfl ((if0 _ _).trans (teq (by decide : (0 : Int32) = (0 : Int32))).1) (by decide) (by decide) (XS.iconst X1612.here hx rfl (hb hby at_184) (XS.istore X1612.here hx rfl (hb hby at_185) rfl (l' := #[iv p1562, iv p1563, iv p1564, iv p1565, iv p1566, rv a1567, iv (1 : Int32), iv (1 : Int32), iv p1568, rv a1569, iv (0 : Int32), iv (3 : Int32), iv (7 : Int32), iv (8 : Int32), iv (1 : Int32), iv (4 : Int32), .unset, .unset]) rfl (XS.aload X1612.here hx rfl (hb hby at_187) rfl rfl (XS.iload X1612.here hx rfl (hb hby at_189) rfl k)))))) ?_
      show own_Goes p e below (T1612.setTop (mkF m 191 #[iv p1562, iv p1563, iv p1564, iv p1565, iv p1566, rv a1567, iv (1 : Int32), iv (1 : Int32), iv p1568, rv a1569, iv (0 : Int32), iv (3 : Int32), iv (7 : Int32), iv (8 : Int32), iv (1 : Int32), iv (4 : Int32), .unset, .unset] [(.int (0 : Int32)), (.ref a1569)])) _
      obtain ⟨_, T1623, _, X1623, hQ1623, st1623⟩ := own_cv X1612 hx hZ hown (wd hw 55 rfl) (wd hw 56 rfl) (wd hw 58 rfl) (wd hw 57 rfl) (wd hw 59 rfl) (wd hw 4 rfl) (by decide) (rm25 l Z a0 hw [] a1569 a1567 a1574 k1577 (8 : Int32) p1575 (1 : Int32) (7 : Int32) p1576 (1 : Int32) (1 : Int32) (0 : Int32) k1573 p1565 p1566 h0 n0 O0 pF_a1569_text pF_a1569_first pV_a1574 pE_a1569 pV_a1567 hq1592 hq1593) hh1617 pE_a1569 (g := (mkF m 191 #[iv p1562, iv p1563, iv p1564, iv p1565, iv p1566, rv a1567, iv (1 : Int32), iv (1 : Int32), iv p1568, rv a1569, iv (0 : Int32), iv (3 : Int32), iv (7 : Int32), iv (8 : Int32), iv (1 : Int32), iv (4 : Int32), .unset, .unset] [(.int (0 : Int32)), (.ref a1569)])) rfl (by rw [hml]; rfl) (rest := []) (W := 0) (lenOf pd_3 rfl) rfl (by show 2 * 0 + _ ≤ _; exact Nat.le_of_eq rfl) (hb hby at_191) (by decide) (by decide) (by decide) (by decide)
      obtain ⟨rfl, Nq1623, hh1624⟩ := hQ1623
      have N1623 := Fr.app N1612 Nq1623
      refine own_via (fun t k => st1623 t (XS.istore X1623.here hx rfl (hb hby at_194) rfl (l' := #[iv p1562, iv p1563, iv p1564, iv p1565, iv p1566, rv a1567, iv (1 : Int32), iv (1 : Int32), iv p1568, rv a1569, iv (0 : Int32), iv (3 : Int32), iv (7 : Int32), iv (8 : Int32), iv (1 : Int32), iv (4 : Int32), iv (1 : Int32), .unset]) rfl (XS.aload X1623.here hx rfl (hb hby at_196) rfl rfl (XS.iload X1623.here hx rfl (hb hby at_198) rfl k)))) ?_
      show own_Goes p e below (T1623.setTop (mkF m 200 #[iv p1562, iv p1563, iv p1564, iv p1565, iv p1566, rv a1567, iv (1 : Int32), iv (1 : Int32), iv p1568, rv a1569, iv (0 : Int32), iv (3 : Int32), iv (7 : Int32), iv (8 : Int32), iv (1 : Int32), iv (4 : Int32), iv (1 : Int32), .unset] [(.int (3 : Int32)), (.ref a1569)])) _
      obtain ⟨_, T1625, _, X1625, hQ1625, st1625⟩ := own_cv X1623 hx hZ hown (wd hw 55 rfl) (wd hw 56 rfl) (wd hw 58 rfl) (wd hw 57 rfl) (wd hw 59 rfl) (wd hw 4 rfl) (by decide) (rm24 l Z a0 hw [] a1569 a1567 a1574 k1577 (0 : Int32) (8 : Int32) p1575 (7 : Int32) p1576 (1 : Int32) (1 : Int32) (0 : Int32) k1573 p1565 p1566 h0 n0 O0 pF_a1569_text pF_a1569_first pV_a1574 pE_a1569 pV_a1567 hq1615 hq1616) hh1624 pE_a1569 (g := (mkF m 200 #[iv p1562, iv p1563, iv p1564, iv p1565, iv p1566, rv a1567, iv (1 : Int32), iv (1 : Int32), iv p1568, rv a1569, iv (0 : Int32), iv (3 : Int32), iv (7 : Int32), iv (8 : Int32), iv (1 : Int32), iv (4 : Int32), iv (1 : Int32), .unset] [(.int (3 : Int32)), (.ref a1569)])) rfl (by rw [hml]; rfl) (rest := []) (W := 0) (lenOf pd_3 rfl) rfl (by show 2 * 0 + _ ≤ _; exact Nat.le_of_eq rfl) (hb hby at_200) (by decide) (by decide) (by decide) (by decide)
      obtain ⟨rfl, Nq1625, hh1626⟩ := hQ1625
      have N1625 := Fr.app N1623 Nq1625
      refine own_via (fun t k => st1625 t (XS.istore X1625.here hx rfl (hb hby at_203) rfl (l' := #[iv p1562, iv p1563, iv p1564, iv p1565, iv p1566, rv a1567, iv (1 : Int32), iv (1 : Int32), iv p1568, rv a1569, iv (0 : Int32), iv (3 : Int32), iv (7 : Int32), iv (8 : Int32), iv (1 : Int32), iv (4 : Int32), iv (1 : Int32), iv (4 : Int32)]) rfl (XS.iload X1625.here hx rfl (hb hby at_205) rfl (XS.ifNo X1625.here hx rfl (hb hby at_207) rfl ((if0 _ _).trans (teq (by decide : (0 : Int32) = (0 : Int32))).2) (XS.iload X1625.here hx rfl (hb hby at_210) rfl (XS.iconst X1625.here hx rfl (hb hby at_212) (XS.icmpNo X1625.here hx rfl (hb hby at_213) rfl (teq (by decide : (3 : Int32) = (3 : Int32))).2 (XS.iload X1625.here hx rfl (hb hby at_216) rfl (XS.iload X1625.here hx rfl (hb hby at_218) rfl (XS.icmpNo X1625.here hx rfl (hb hby at_220) rfl (teq (by decide : (1 : Int32) = (1 : Int32))).2 (XS.iload X1625.here hx rfl (hb hby at_223) rfl (XS.iload X1625.here hx rfl (hb hby at_225) rfl k)))))))))))) ?_
      show own_Goes p e below (T1625.setTop (mkF m 227 #[iv p1562, iv p1563, iv p1564, iv p1565, iv p1566, rv a1567, iv (1 : Int32), iv (1 : Int32), iv p1568, rv a1569, iv (0 : Int32), iv (3 : Int32), iv (7 : Int32), iv (8 : Int32), iv (1 : Int32), iv (4 : Int32), iv (1 : Int32), iv (4 : Int32)] [(.int (4 : Int32)), (.int (4 : Int32))])) _
      refine own_via (fun t k => XS.icmpNo X1625.here hx rfl (hb hby at_227) rfl (teq (by decide : (4 : Int32) = (4 : Int32))).2 (XS.iconst X1625.here hx rfl (hb hby at_230) (XS.goto X1625.here hx rfl (pc0 := 231) (pc' := 235) rfl (hb hby at_231) (by decide) (by decide) k))) ?_
      show own_Goes p e below (T1625.setTop (mkF m 235 #[iv p1562, iv p1563, iv p1564, iv p1565, iv p1566, rv a1567, iv (1 : Int32), iv (1 : Int32), iv p1568, rv a1569, iv (0 : Int32), iv (3 : Int32), iv (7 : Int32), iv (8 : Int32), iv (1 : Int32), iv (4 : Int32), iv (1 : Int32), iv (4 : Int32)] [(.int (1 : Int32))])) _
      obtain ⟨fs, hr, hrun, hended, hW, hsame⟩ := X1625.leave (v := some (.int (1 : Int32))) (fun h => by rw [Bd.returns] at h; cases h)
      refine own_end (t := T1625.setFrames fs) ?_ ⟨_, hrun, hended, _, _, rfl, ?_, ⟨_, rfl⟩, hW, hsame.mono (by decide) (by decide)⟩
      · exact retN X1625 hx (t := .boolean) Bd.returns (by simp) (hb hby at_235) hr
      · exact ⟨rfl, N1625⟩
set_option maxRecDepth 65536 in
set_option maxHeartbeats 40000000 in
theorem sfx6 (l : Launch) (Z : State) (a0 : Array Value) (hw : ∀ d ∈ tables_1, d.before a0 Z = true) (ws : List Jvm.Cond) {p : Program} {e : Env} {s : State} {m : MethodId} {below : List Frame} {meth : Method} {c : Code} {s₁ : State} (p1415 : Int32) (p1416 : Int32) (p1417 : Int32) (p1409 : Int32) (p1410 : Int32) (p1411 : Int32) (p1406 : Int32) (p1407 : Int32) (a1412 : Addr) (p1408 : Int32) (p1413 : Int32) (a1414 : Addr) (a1419 : Addr) (k1422 : ClassId) (p1420 : Int32) (p1421 : Int32) (k1418 : ClassId) (Bd : BodyLoose p l x (head1 (Jvm.Cond.code x code maxLocals ret :: ws) room_1) code maxLocals ret e s m #[(.int p1415), (.int p1416), (.int p1417)] below meth c s₁) (hZ : Z.Warmed39 s.vm) (hml : c.maxLocals = 18) {T0 : State} {locs0 : List Loc} (X0 : Stand p l e room_1 s m #[(.int p1415), (.int p1416), (.int p1417)] below meth c T0 locs0 8 120) (h0 : Heap) (e0 : T0.heap = h0) (n0 : Nat) (O0 : Old Z n0 h0) (N0 : Fr n0 locs0) (pC1426 : ¬ (p1408 < (0 : Int32))) (pC1427 : p1408 < (2 : Int32)) (pF_a1414_length : Fld Z h0 a1414 zs1 "length" "I" (.int (7 : Int32))) (pF_a1414_first : Fld Z h0 a1414 zs1 "first" "[I" (.ref a1419)) (pV_a1419 : Arv Z h0 a1419 k1422 .int (16 : Int32) [(.int (0 : Int32)), (.int (0 : Int32)), (.int p1420), (.int (1 : Int32)), (.int (7 : Int32)), (.int p1421), (.int (1 : Int32)), (.int (0 : Int32)), (.int (0 : Int32))] (.int (0 : Int32))) (pG_a1419 : n0 ≤ a1419) (pE_a1419 : Exa Z h0 a1419 "[I") (pE_a1414 : Exa Z h0 a1414 zs1) (pN_a1414_a1419 : a1414 ≠ a1419) (pF_a1414_text : Fld Z h0 a1414 zs1 "text" "[B" (.ref a1412)) (pV_a1412 : Arv Z h0 a1412 k1418 .byte (2 : Int32) [(.int p1406), (.int p1407)] (.int (0 : Int32))) (pN_a1412_a1419 : a1412 ≠ a1419) (pL_a1419 : own_Len Z h0 a1419 .int (16 : Int32)) (pG_a1414 : n0 ≤ a1414) (pN_a1412_a1414 : a1412 ≠ a1414) :
    own_Goes p e below (T0.setTop (mkF m 115 #[iv p1409, iv p1410, iv p1411, iv p1406, iv p1407, rv a1412, iv (1 : Int32), iv p1408, iv p1413, rv a1414, iv (0 : Int32), iv (3 : Int32), .unset, .unset, .unset, .unset, .unset, .unset] [])) (own_G s below n0) := by
  have hx := Bd.exec
  have hby := Bd.bytes
  have hown : s.vm.findClass zs2 = some m.cls := findClass_of_methodNamed Bd.named
  have hnm := (name_of_methodNamed Bd.named Bd.method).1
  show own_Goes p e below (T0.setTop (mkF m 115 #[iv p1409, iv p1410, iv p1411, iv p1406, iv p1407, rv a1412, iv (1 : Int32), iv p1408, iv p1413, rv a1414, iv (0 : Int32), iv (3 : Int32), .unset, .unset, .unset, .unset, .unset, .unset] [])) _
  rcases own_cases_2 _ (own_ge0 pC1426) (own_lti pC1427 (by decide)) with qs | qs
  · have qs1432 := qs
    rw [qs]
    show own_Goes p e below (T0.setTop (mkF m 115 #[iv p1409, iv p1410, iv p1411, iv p1406, iv p1407, rv a1412, iv (1 : Int32), iv (0 : Int32), iv p1413, rv a1414, iv (0 : Int32), iv (3 : Int32), .unset, .unset, .unset, .unset, .unset, .unset] [])) _
    refine own_via (fun t k => XS.iload X0.here hx rfl (hb hby at_115) rfl (XS.ifYes X0.here hx rfl (pc0 := 117) (pc' := 127) rfl (hb hby at_117) rfl ((if0 _ _).trans (flt (by decide : ¬ ((0 : Int32) < (0 : Int32)))).2.2.2) (by decide) (by decide) (XS.aload X0.here hx rfl (hb hby at_127) rfl rfl (XS.iload X0.here hx rfl (hb hby at_129) rfl (XS.iconst X0.here hx rfl (hb hby at_131) (XS.iload X0.here hx rfl (hb hby at_132) rfl (XS.iadd X0.here hx rfl (hb hby at_134) rfl (XS.iconst X0.here hx rfl (hb hby at_135) k)))))))) ?_
    show own_Goes p e below (T0.setTop (mkF m 136 #[iv p1409, iv p1410, iv p1411, iv p1406, iv p1407, rv a1412, iv (1 : Int32), iv (0 : Int32), iv p1413, rv a1414, iv (0 : Int32), iv (3 : Int32), .unset, .unset, .unset, .unset, .unset, .unset] [(.int (0 : Int32)), (.int (1 : Int32)), (.int (0 : Int32)), (.ref a1414)])) _
    obtain ⟨_, T1433, _, X1433, hQ1433, st1433⟩ := own_cv X0 hx hZ hown (wd hw 42 rfl) (wd hw 43 rfl) (wd hw 45 rfl) (wd hw 44 rfl) (wd hw 46 rfl) (wd hw 4 rfl) (by decide) (rm16 l Z a0 hw [] a1414 (7 : Int32) a1419 k1422 (0 : Int32) (0 : Int32) p1420 (1 : Int32) (7 : Int32) p1421 (1 : Int32) (0 : Int32) (0 : Int32) h0 n0 O0 pF_a1414_length pF_a1414_first pV_a1419 pG_a1419 pE_a1419 pE_a1414 pN_a1414_a1419) e0 pE_a1414 (g := (mkF m 136 #[iv p1409, iv p1410, iv p1411, iv p1406, iv p1407, rv a1412, iv (1 : Int32), iv (0 : Int32), iv p1413, rv a1414, iv (0 : Int32), iv (3 : Int32), .unset, .unset, .unset, .unset, .unset, .unset] [(.int (0 : Int32)), (.int (1 : Int32)), (.int (0 : Int32)), (.ref a1414)])) rfl (by rw [hml]; rfl) (rest := []) (W := 0) (lenOf pd_5 rfl) rfl (by show 2 * 0 + _ ≤ _; exact Nat.le_of_eq rfl) (hb hby at_136) (by decide) (by decide) (by decide) (by decide)
    obtain ⟨h1433, e1433⟩ : ∃ z, T1433.heap = z := ⟨_, rfl⟩
    rw [e1433] at hQ1433
    obtain ⟨rfl, Nq1433, K1433, ex1434, vx1435⟩ := hQ1433
    have N1433 := Fr.app N0 Nq1433
    refine own_via (fun t k => st1433 t k) ?_
    have F1501 : Fld Z h1433 a1414 zs1 "text" "[B" (.ref a1412) := (pF_a1414_text.keep K1433 (ninS pN_a1414_a1419 nin0))
    have F1502 : Fld Z h1433 a1414 zs1 "first" "[I" (.ref a1419) := (pF_a1414_first.keep K1433 (ninS pN_a1414_a1419 nin0))
    have E1503 : Exa Z h1433 a1414 zs1 := (pE_a1414.keep K1433)
    have V1504 : Arv Z h1433 a1412 k1418 .byte (2 : Int32) [(.int p1406), (.int p1407)] (.int (0 : Int32)) := (pV_a1412.keep K1433 (ninS pN_a1412_a1419 nin0))
    have O1505 : Old Z n0 h1433 := (O0.keep K1433 (allS pG_a1419 all0))
    exact sfx4 l Z a0 hw ws p1415 p1416 p1417 p1409 p1410 p1411 p1406 p1407 a1412 p1413 a1414 a1419 k1422 (2 : Int32) p1421 k1418 Bd hZ hml X1433 h1433 e1433 n0 O1505 N1433 F1501 F1502 vx1435 E1503 V1504
  · have qs1506 := qs
    rw [qs]
    show own_Goes p e below (T0.setTop (mkF m 115 #[iv p1409, iv p1410, iv p1411, iv p1406, iv p1407, rv a1412, iv (1 : Int32), iv (1 : Int32), iv p1413, rv a1414, iv (0 : Int32), iv (3 : Int32), .unset, .unset, .unset, .unset, .unset, .unset] [])) _
    refine own_via (fun t k => XS.iload X0.here hx rfl (hb hby at_115) rfl (XS.ifNo X0.here hx rfl (hb hby at_117) rfl ((if0 _ _).trans (tlt (by decide : (0 : Int32) < (1 : Int32))).2.2.2) (XS.aload X0.here hx rfl (hb hby at_120) rfl rfl (XS.iconst X0.here hx rfl (hb hby at_122) k)))) ?_
    show own_Goes p e below (T0.setTop (mkF m 123 #[iv p1409, iv p1410, iv p1411, iv p1406, iv p1407, rv a1412, iv (1 : Int32), iv (1 : Int32), iv p1413, rv a1414, iv (0 : Int32), iv (3 : Int32), .unset, .unset, .unset, .unset, .unset, .unset] [(.int (1 : Int32)), (.ref a1414)])) _
    obtain ⟨_, T1507, _, X1507, hQ1507, st1507⟩ := own_cv X0 hx hZ hown (wd hw 41 rfl) (wd hw 35 rfl) (wd hw 37 rfl) (wd hw 36 rfl) (wd hw 38 rfl) (wd hw 4 rfl) (by decide) (rm31 l Z a0 hw [] a1414 a1419 k1422 (0 : Int32) (0 : Int32) p1420 (1 : Int32) (7 : Int32) p1421 (1 : Int32) (0 : Int32) (0 : Int32) a1412 h0 n0 O0 pF_a1414_length pF_a1414_first pL_a1419 pV_a1419 pG_a1419 pN_a1414_a1419 pE_a1414 pG_a1414 pE_a1419 pF_a1414_text) e0 pE_a1414 (g := (mkF m 123 #[iv p1409, iv p1410, iv p1411, iv p1406, iv p1407, rv a1412, iv (1 : Int32), iv (1 : Int32), iv p1413, rv a1414, iv (0 : Int32), iv (3 : Int32), .unset, .unset, .unset, .unset, .unset, .unset] [(.int (1 : Int32)), (.ref a1414)])) rfl (by rw [hml]; rfl) (rest := []) (W := 0) (lenOf pd_3 rfl) rfl (by show 2 * 0 + _ ≤ _; exact Nat.le_of_eq rfl) (hb hby at_123) (by decide) (by decide) (by decide) (by decide)
    obtain ⟨h1507, e1507⟩ : ∃ z, T1507.heap = z := ⟨_, rfl⟩
    rw [e1507] at hQ1507
    obtain ⟨rfl, Nq1507, K1507, ex1552, vx1553, ex1554, fx1555, fx1556, fx1557⟩ := hQ1507
    have N1507 := Fr.app N0 Nq1507
    refine own_via (fun t k => st1507 t (XS.pop X1507.here hx rfl (hb hby at_126) rfl rfl (XS.aload X1507.here hx rfl (hb hby at_127) rfl rfl (XS.iload X1507.here hx rfl (hb hby at_129) rfl (XS.iconst X1507.here hx rfl (hb hby at_131) (XS.iload X1507.here hx rfl (hb hby at_132) rfl (XS.iadd X1507.here hx rfl (hb hby at_134) rfl (XS.iconst X1507.here hx rfl (hb hby at_135) k)))))))) ?_
    show own_Goes p e below (T1507.setTop (mkF m 136 #[iv p1409, iv p1410, iv p1411, iv p1406, iv p1407, rv a1412, iv (1 : Int32), iv (1 : Int32), iv p1413, rv a1414, iv (0 : Int32), iv (3 : Int32), .unset, .unset, .unset, .unset, .unset, .unset] [(.int (0 : Int32)), (.int (2 : Int32)), (.int (0 : Int32)), (.ref a1414)])) _
    have O1559 : Old Z n0 h1507 := (O0.keep K1507 (allS pG_a1419 (allS pG_a1414 all0)))
    obtain ⟨_, T1558, _, X1558, hQ1558, st1558⟩ := own_cv X1507 hx hZ hown (wd hw 42 rfl) (wd hw 43 rfl) (wd hw 45 rfl) (wd hw 44 rfl) (wd hw 46 rfl) (wd hw 4 rfl) (by decide) (rm28 l Z a0 hw [] a1414 (8 : Int32) a1419 k1422 (0 : Int32) (0 : Int32) p1420 (1 : Int32) (7 : Int32) p1421 (1 : Int32) (1 : Int32) (0 : Int32) h1507 n0 O1559 fx1557 fx1556 vx1553 pG_a1419 ex1552 ex1554 pN_a1414_a1419) e1507 ex1554 (g := (mkF m 136 #[iv p1409, iv p1410, iv p1411, iv p1406, iv p1407, rv a1412, iv (1 : Int32), iv (1 : Int32), iv p1413, rv a1414, iv (0 : Int32), iv (3 : Int32), .unset, .unset, .unset, .unset, .unset, .unset] [(.int (0 : Int32)), (.int (2 : Int32)), (.int (0 : Int32)), (.ref a1414)])) rfl (by rw [hml]; rfl) (rest := []) (W := 0) (lenOf pd_5 rfl) rfl (by show 2 * 0 + _ ≤ _; exact Nat.le_of_eq rfl) (hb hby at_136) (by decide) (by decide) (by decide) (by decide)
    obtain ⟨h1558, e1558⟩ : ∃ z, T1558.heap = z := ⟨_, rfl⟩
    rw [e1558] at hQ1558
    obtain ⟨rfl, Nq1558, K1558, ex1560, vx1561⟩ := hQ1558
    have N1558 := Fr.app N1507 Nq1558
    refine own_via (fun t k => st1558 t k) ?_
    have F1627 : Fld Z h1558 a1414 zs1 "text" "[B" (.ref a1412) := (fx1555.keep K1558 (ninS pN_a1414_a1419 nin0))
    have F1628 : Fld Z h1558 a1414 zs1 "first" "[I" (.ref a1419) := (fx1556.keep K1558 (ninS pN_a1414_a1419 nin0))
    have E1629 : Exa Z h1558 a1414 zs1 := (ex1554.keep K1558)
    have V1630 : Arv Z h1558 a1412 k1418 .byte (2 : Int32) [(.int p1406), (.int p1407)] (.int (0 : Int32)) := ((pV_a1412.keep K1507 (ninS pN_a1412_a1419 (ninS pN_a1412_a1414 nin0))).keep K1558 (ninS pN_a1412_a1419 nin0))
    have O1631 : Old Z n0 h1558 := (O1559.keep K1558 (allS pG_a1419 all0))
    exact sfx5 l Z a0 hw ws p1415 p1416 p1417 p1409 p1410 p1411 p1406 p1407 a1412 p1413 a1414 a1419 k1422 (4 : Int32) p1421 k1418 Bd hZ hml X1558 h1558 e1558 n0 O1631 N1558 F1627 F1628 vx1561 E1629 V1630
def Q32 (Z : State) (a1691 : Addr) (a1696 : Addr) (k1706 : ClassId) (p1698 : Int32) (p1699 : Int32) (p1700 : Int32) (p1701 : Int32) (p1697 : Int32) (p1702 : Int32) (p1703 : Int32) (p1704 : Int32) (p1705 : Int32) (h0 : Heap) (n0 : Nat) (v : Option Value) (h : Heap) (L : List Loc) : Prop := v = none ∧ Fr n0 L ∧ Keep h0 h [a1696] ∧ Exa Z h a1696 "[I" ∧ Arv Z h a1696 k1706 .int (16 : Int32) [(.int p1698), (.int p1699), (.int p1700), (.int p1701), (.int p1697), (.int (4 : Int32)), (.int p1703), (.int p1704), (.int p1705)] (.int (0 : Int32))
set_option maxRecDepth 65536 in
set_option maxHeartbeats 40000000 in
theorem rm32 (l : Launch) (Z : State) (a0 : Array Value) (hw : ∀ d ∈ tables_1, d.before a0 Z = true) (ws : List Jvm.Cond) (a1691 : Addr) (a1696 : Addr) (k1706 : ClassId) (p1698 : Int32) (p1699 : Int32) (p1700 : Int32) (p1701 : Int32) (p1697 : Int32) (p1702 : Int32) (p1703 : Int32) (p1704 : Int32) (p1705 : Int32) (h0 : Heap) (n0 : Nat) (O0 : Old Z n0 h0) (pF_a1691_first : Fld Z h0 a1691 zs1 "first" "[I" (.ref a1696)) (pV_a1696 : Arv Z h0 a1696 k1706 .int (16 : Int32) [(.int p1698), (.int p1699), (.int p1700), (.int p1701), (.int p1697), (.int p1702), (.int p1703), (.int p1704), (.int p1705)] (.int (0 : Int32))) (pG_a1696 : n0 ≤ a1696) (pE_a1696 : Exa Z h0 a1696 "[I") :
    MetFree l (⟨zs1, "set", "(II)V"⟩ : MethodName) (head1 (Jvm.Cond.code (⟨zs1, "set", "(II)V"⟩ : MethodName) prog_17_method_29_code 3 none :: ws) ({ frames := 0, cells := 0, slots := 0, locals := 0 } : Room)) (fun a U => a = #[(.ref a1691), (.int (5 : Int32)), (.int (4 : Int32))] ∧ Z.Warmed39 U.vm ∧ U.heap = h0) (fun _ _ _ _ _ => True) (fun _ U o U' => ∃ v L, o = .returned v ∧ Q32 Z a1691 a1696 k1706 p1698 p1699 p1700 p1701 p1697 p1702 p1703 p1704 p1705 h0 n0 v U'.heap L ∧ FrameEnd U o U' L ({ frames := 0, cells := 0, slots := 0, locals := 0 } : Room).cells ({ frames := 0, cells := 0, slots := 0, locals := 0 } : Room).slots) := by
  refine MetFree.of_bodySF (plainFor_of_name pn_1) hisR ?_
  intro p e s m args below meth c s₁ Bd hml0 hP hK
  obtain ⟨rfl, hZ, hh⟩ := hP
  have hx := Bd.exec
  have hby := Bd.bytes
  have hml : c.maxLocals = 3 := hml0
  have hown : s.vm.findClass zs1 = some m.cls := findClass_of_methodNamed Bd.named
  have hnm := (name_of_methodNamed Bd.named Bd.method).1
  have X0 : Stand p l e ({ frames := 0, cells := 0, slots := 0, locals := 0 } : Room) s m #[(.ref a1691), (.int (5 : Int32)), (.int (4 : Int32))] below meth c s₁ [] 0 0 := Stand.of_body Bd
  have e0 : s₁.heap = h0 := by rw [← hh, Bd.state]; rfl
  have N0 := Fr.nil n0
  refine own_out ?_
  refine own_via (fun t k => castTop (ef_5 m a1691 (5 : Int32) (4 : Int32)) (XS.iloadN X0.here hx rfl (hb hby d7_0) rfl (XS.sipush X0.here hx rfl (hb hby d7_1) (XS.icmpNo X0.here hx rfl (hb hby d7_4) rfl (tlt (by decide : (5 : Int32) < (16384 : Int32))).2.1 (XS.aloadN X0.here hx rfl (hb hby d7_7) rfl rfl k))))) ?_
  show own_Goes p e below (s₁.setTop (mkF m 8 #[rv a1691, iv (5 : Int32), iv (4 : Int32)] [(.ref a1691)])) _
  obtain ⟨T1717, X1717, e1717, st1717⟩ := getF X0 hx hZ hown (host := "") (Or.inl (wd hw 26 rfl)) Via.refl e0 pF_a1691_first (g := (mkF m 8 #[rv a1691, iv (5 : Int32), iv (4 : Int32)] [(.ref a1691)])) rfl rfl (hb hby d7_8)
  refine own_via (fun t k => st1717 t (XS.iloadN X1717.here hx rfl (hb hby d7_11) rfl (XS.iloadN X1717.here hx rfl (hb hby d7_12) rfl k))) ?_
  show own_Goes p e below (T1717.setTop (mkF m 13 #[rv a1691, iv (5 : Int32), iv (4 : Int32)] [(.int (4 : Int32)), (.int (5 : Int32)), (.ref a1696)])) _
  obtain ⟨cl1718, Ar1718, qq1718, S1718, M1718, H1718, G1718⟩ := id (pV_a1696)
  have hin1718 : ¬ ((5 : Int32) < 0 ∨ cl1718.slots.size ≤ ((5 : Int32)).toNatClampNeg) := inb_of S1718 ⟨by decide, by decide⟩
  obtain ⟨T1718, h1718, X1718, e1718, W1718, st1718⟩ := stI X1717 hx hZ e1717 Ar1718 (j := (5 : Int32)) hin1718 (g := (mkF m 13 #[rv a1691, iv (5 : Int32), iv (4 : Int32)] [(.int (4 : Int32)), (.int (5 : Int32)), (.ref a1696)])) rfl rfl (hb hby d7_13)
  refine own_via (fun t k => st1718 t k) ?_
  have V1719 : Arv Z h1718 a1696 k1706 .int (16 : Int32) [(.int p1698), (.int p1699), (.int p1700), (.int p1701), (.int p1697), (.int (4 : Int32)), (.int p1703), (.int p1704), (.int p1705)] (.int (0 : Int32)) := Arv.set Ar1718 qq1718 S1718 M1718 H1718 G1718 rfl W1718 5 rfl (Nat.le_of_ble_eq_true rfl)
  have N1718 := Fr.snoc X1718 N0 pG_a1696
  show own_Goes p e below (T1718.setTop (mkF m 14 #[rv a1691, iv (5 : Int32), iv (4 : Int32)] [])) _
  refine own_via (fun t k => XS.goto X1718.here hx rfl (pc0 := 14) (pc' := 33) rfl (hb hby d7_14) (by decide) (by decide) k) ?_
  obtain ⟨fs, hr, hrun, hended, hW, hsame⟩ := X1718.leave (v := none) (fun _ => rfl)
  refine own_end (t := T1718.setFrames fs) ?_ ⟨_, hrun, hended, _, _, rfl, ?_, ⟨_, rfl⟩, hW, hsame.mono (by decide) (by decide)⟩
  · exact X1718.returnOut hx Bd.returns (hb hby d7_33) hr
  have E1720 : Exa Z h1718 a1696 "[I" := (pE_a1696.wr W1718)
  · show Q32 Z a1691 a1696 k1706 p1698 p1699 p1700 p1701 p1697 p1702 p1703 p1704 p1705 h0 n0 _ T1718.heap _
    rw [e1718]
    exact ⟨rfl, N1718, ((Keep.refl h0 [a1696]).wr W1718 (Or.inl (List.mem_of_getElem? (i := 0) rfl))), E1720, V1719⟩
def Q33 (Z : State) (a1659 : Addr) (p1675 : Int32) (a1664 : Addr) (k1674 : ClassId) (p1665 : Int32) (p1666 : Int32) (p1667 : Int32) (p1668 : Int32) (p1669 : Int32) (p1670 : Int32) (p1671 : Int32) (p1672 : Int32) (p1673 : Int32) (h0 : Heap) (n0 : Nat) (v : Option Value) (h : Heap) (L : List Loc) : Prop := v = none ∧ Fr n0 L ∧ Keep h0 h [a1664] ∧ Exa Z h a1664 "[I" ∧ Arv Z h a1664 k1674 .int (16 : Int32) [(.int p1665), (.int p1666), (.int p1667), (.int p1668), (.int p1675), (.int (4 : Int32)), (.int p1671), (.int p1672), (.int p1673)] (.int (0 : Int32))
set_option maxRecDepth 65536 in
set_option maxHeartbeats 40000000 in
theorem rm33 (l : Launch) (Z : State) (a0 : Array Value) (hw : ∀ d ∈ tables_1, d.before a0 Z = true) (ws : List Jvm.Cond) (a1659 : Addr) (p1675 : Int32) (a1664 : Addr) (k1674 : ClassId) (p1665 : Int32) (p1666 : Int32) (p1667 : Int32) (p1668 : Int32) (p1669 : Int32) (p1670 : Int32) (p1671 : Int32) (p1672 : Int32) (p1673 : Int32) (h0 : Heap) (n0 : Nat) (O0 : Old Z n0 h0) (pF_a1659_length : Fld Z h0 a1659 zs1 "length" "I" (.int p1675)) (pF_a1659_first : Fld Z h0 a1659 zs1 "first" "[I" (.ref a1664)) (pV_a1664 : Arv Z h0 a1664 k1674 .int (16 : Int32) [(.int p1665), (.int p1666), (.int p1667), (.int p1668), (.int p1669), (.int p1670), (.int p1671), (.int p1672), (.int p1673)] (.int (0 : Int32))) (pG_a1664 : n0 ≤ a1664) (pE_a1664 : Exa Z h0 a1664 "[I") (pE_a1659 : Exa Z h0 a1659 zs1) (pN_a1659_a1664 : a1659 ≠ a1664) :
    MetFree l (⟨zs1, "close", "(IIZ)V"⟩ : MethodName) (head1 (Jvm.Cond.code (⟨zs1, "close", "(IIZ)V"⟩ : MethodName) prog_17_method_6_code 4 none :: ws) ({ frames := 1, cells := 0, slots := 0, locals := 14 } : Room)) (fun a U => a = #[(.ref a1659), (.int (3 : Int32)), (.int (2 : Int32)), (.int (0 : Int32))] ∧ Z.Warmed39 U.vm ∧ U.heap = h0) (fun _ _ _ _ _ => True) (fun _ U o U' => ∃ v L, o = .returned v ∧ Q33 Z a1659 p1675 a1664 k1674 p1665 p1666 p1667 p1668 p1669 p1670 p1671 p1672 p1673 h0 n0 v U'.heap L ∧ FrameEnd U o U' L ({ frames := 1, cells := 0, slots := 0, locals := 14 } : Room).cells ({ frames := 1, cells := 0, slots := 0, locals := 14 } : Room).slots) := by
  refine MetFree.of_bodySF (plainFor_of_name pn_1) hisR ?_
  intro p e s m args below meth c s₁ Bd hml0 hP hK
  obtain ⟨rfl, hZ, hh⟩ := hP
  have hx := Bd.exec
  have hby := Bd.bytes
  have hml : c.maxLocals = 4 := hml0
  have hown : s.vm.findClass zs1 = some m.cls := findClass_of_methodNamed Bd.named
  have hnm := (name_of_methodNamed Bd.named Bd.method).1
  have X0 : Stand p l e ({ frames := 1, cells := 0, slots := 0, locals := 14 } : Room) s m #[(.ref a1659), (.int (3 : Int32)), (.int (2 : Int32)), (.int (0 : Int32))] below meth c s₁ [] 0 0 := Stand.of_body Bd
  have e0 : s₁.heap = h0 := by rw [← hh, Bd.state]; rfl
  have N0 := Fr.nil n0
  refine own_out ?_
  refine own_via (fun t k => castTop (ef_6 m a1659 (3 : Int32) (2 : Int32) (0 : Int32)) (XS.aloadN X0.here hx rfl (hb hby d6_0) rfl rfl (XS.iloadN X0.here hx rfl (hb hby d6_1) rfl (XS.iconst X0.here hx rfl (hb hby d6_2) (XS.iadd X0.here hx rfl (hb hby d6_3) rfl (XS.aloadN X0.here hx rfl (hb hby d6_4) rfl rfl k)))))) ?_
  show own_Goes p e below (s₁.setTop (mkF m 5 #[rv a1659, iv (3 : Int32), iv (2 : Int32), iv (0 : Int32)] [(.ref a1659), (.int (4 : Int32)), (.ref a1659)])) _
  obtain ⟨T1686, X1686, e1686, st1686⟩ := getF X0 hx hZ hown (host := "") (Or.inl (wd hw 39 rfl)) Via.refl e0 pF_a1659_length (g := (mkF m 5 #[rv a1659, iv (3 : Int32), iv (2 : Int32), iv (0 : Int32)] [(.ref a1659), (.int (4 : Int32)), (.ref a1659)])) rfl rfl (hb hby d6_5)
  refine own_via (fun t k => st1686 t k) ?_
  obtain ⟨cq1687, q1687, q1687'⟩ := pE_a1659.cell
  obtain ⟨_, _, ⟨T1687, L1687, c1687, n1687⟩, -, X1687, ⟨Lc1687, hQ1687, l1687, y1687, z1687⟩, st1687⟩ := X1686.privateBack hx (y := (⟨zs1, "set", "(II)V"⟩ : MethodName)) hown (mvT hZ (wd hw 47 rfl)) (mvT hZ (wd hw 48 rfl)) (own_selPriv (mvT hZ (wd hw 3 rfl)) (mvT hZ (wd hw 48 rfl)) (Cond.privateMethod_at (mvP hZ (wd hw 49 rfl) (args := #[]))) (by decide)) (Cond.privateMethod_at (mvP hZ (wd hw 49 rfl) (args := #[]))) (mvT hZ (wd hw 50 rfl)) (by decide) (backOf (W := 0) (rm11 l Z a0 hw [] a1659 p1675 a1664 k1674 p1665 p1666 p1667 p1668 p1669 p1670 p1671 p1672 p1673 h0 n0 O0 pF_a1659_first pV_a1664 pG_a1664 pE_a1664) hZ (wd hw 50 rfl) (wd hw 4 rfl) (by decide) (by decide)) (g := (mkF m 8 #[rv a1659, iv (3 : Int32), iv (2 : Int32), iv (0 : Int32)] [(.int p1675), (.int (4 : Int32)), (.ref a1659)])) rfl (by rw [hml]; rfl) (Steps.refl _) (a := a1659) (by rw [e1686]; exact q1687) q1687' (argsL := [(.int (4 : Int32)), (.int p1675)]) (rest := []) (lenOf pd_4 rfl) rfl (by show 2 * 0 + _ ≤ _; exact Nat.le_of_eq rfl) (hb hby d6_8) (fun _ _ => ⟨rfl, e1686, (by decide : 0 + 0 ≤ _), (by decide : 0 + 0 ≤ _)⟩)
  dsimp only [Pt.U, Pt.locs, Pt.cells, Pt.slots] at X1687 l1687 y1687 z1687 st1687 hQ1687
  subst l1687 y1687 z1687
  obtain ⟨h1687, e1687⟩ : ∃ z, T1687.heap = z := ⟨_, rfl⟩
  rw [e1687] at hQ1687
  obtain ⟨rfl, Nq1687, K1687, ex1688, vx1689⟩ := hQ1687
  have N1687 := Fr.app N0 Nq1687
  refine own_via (fun t k => st1687.trans (XS.aloadN X1687.here hx rfl (hb hby d6_11) rfl rfl (XS.iloadN X1687.here hx rfl (hb hby d6_12) rfl (XS.iconst X1687.here hx rfl (hb hby d6_13) (XS.iadd X1687.here hx rfl (hb hby d6_14) rfl (XS.iloadN X1687.here hx rfl (hb hby d6_15) rfl (XS.iconst X1687.here hx rfl (hb hby d6_16) (XS.ishl X1687.here hx rfl (hb hby d6_17) rfl (XS.iloadN X1687.here hx rfl (hb hby d6_18) rfl (XS.ifYes X1687.here hx rfl (pc0 := 19) (pc' := 26) rfl (hb hby d6_19) rfl ((if0 _ _).trans (teq (by decide : (0 : Int32) = (0 : Int32))).1) (by decide) (by decide) (XS.iconst X1687.here hx rfl (hb hby d6_26) (XS.ior X1687.here hx rfl (hb hby d6_27) rfl k)))))))))))) ?_
  show own_Goes p e below (T1687.setTop (mkF m 28 #[rv a1659, iv (3 : Int32), iv (2 : Int32), iv (0 : Int32)] [(.int (4 : Int32)), (.int (5 : Int32)), (.ref a1659)])) _
  have F1721 : Fld Z h1687 a1659 zs1 "first" "[I" (.ref a1664) := (pF_a1659_first.keep K1687 (ninS pN_a1659_a1664 nin0))
  have O1722 : Old Z n0 h1687 := (O0.keep K1687 (allS pG_a1664 all0))
  have E1723 : Exa Z h1687 a1659 zs1 := (pE_a1659.keep K1687)
  obtain ⟨cq1690, q1690, q1690'⟩ := E1723.cell
  obtain ⟨_, _, ⟨T1690, L1690, c1690, n1690⟩, -, X1690, ⟨Lc1690, hQ1690, l1690, y1690, z1690⟩, st1690⟩ := X1687.privateBack hx (y := (⟨zs1, "set", "(II)V"⟩ : MethodName)) hown (mvT hZ (wd hw 47 rfl)) (mvT hZ (wd hw 48 rfl)) (own_selPriv (mvT hZ (wd hw 3 rfl)) (mvT hZ (wd hw 48 rfl)) (Cond.privateMethod_at (mvP hZ (wd hw 49 rfl) (args := #[]))) (by decide)) (Cond.privateMethod_at (mvP hZ (wd hw 49 rfl) (args := #[]))) (mvT hZ (wd hw 50 rfl)) (by decide) (backOf (W := 0) (rm32 l Z a0 hw [] a1659 a1664 k1674 p1665 p1666 p1667 p1668 p1675 p1670 p1671 p1672 p1673 h1687 n0 O1722 F1721 vx1689 pG_a1664 ex1688) hZ (wd hw 50 rfl) (wd hw 4 rfl) (by decide) (by decide)) (g := (mkF m 28 #[rv a1659, iv (3 : Int32), iv (2 : Int32), iv (0 : Int32)] [(.int (4 : Int32)), (.int (5 : Int32)), (.ref a1659)])) rfl (by rw [hml]; rfl) (Steps.refl _) (a := a1659) (by rw [e1687]; exact q1690) q1690' (argsL := [(.int (5 : Int32)), (.int (4 : Int32))]) (rest := []) (lenOf pd_4 rfl) rfl (by show 2 * 0 + _ ≤ _; exact Nat.le_of_eq rfl) (hb hby d6_28) (fun _ _ => ⟨rfl, e1687, (by decide : 0 + 0 ≤ _), (by decide : 0 + 0 ≤ _)⟩)
  dsimp only [Pt.U, Pt.locs, Pt.cells, Pt.slots] at X1690 l1690 y1690 z1690 st1690 hQ1690
  subst l1690 y1690 z1690
  obtain ⟨h1690, e1690⟩ : ∃ z, T1690.heap = z := ⟨_, rfl⟩
  rw [e1690] at hQ1690
  obtain ⟨rfl, Nq1690, K1690, ex1724, vx1725⟩ := hQ1690
  have N1690 := Fr.app N1687 Nq1690
  refine own_via (fun t k => st1690.trans k) ?_
  obtain ⟨fs, hr, hrun, hended, hW, hsame⟩ := X1690.leave (v := none) (fun _ => rfl)
  refine own_end (t := T1690.setFrames fs) ?_ ⟨_, hrun, hended, _, _, rfl, ?_, ⟨_, rfl⟩, hW, hsame.mono (by decide) (by decide)⟩
  · exact X1690.returnOut hx Bd.returns (hb hby d6_31) hr
  · show Q33 Z a1659 p1675 a1664 k1674 p1665 p1666 p1667 p1668 p1669 p1670 p1671 p1672 p1673 h0 n0 _ T1690.heap _
    rw [e1690]
    exact ⟨rfl, N1690, (((Keep.refl h0 [a1664]).trans K1687 (allS (Or.inl (List.mem_of_getElem? (i := 0) rfl)) all0)).trans K1690 (allS (Or.inl (List.mem_of_getElem? (i := 0) rfl)) all0)), ex1724, vx1725⟩
set_option maxRecDepth 65536 in
set_option maxHeartbeats 40000000 in
theorem sfx7 (l : Launch) (Z : State) (a0 : Array Value) (hw : ∀ d ∈ tables_1, d.before a0 Z = true) (ws : List Jvm.Cond) {p : Program} {e : Env} {s : State} {m : MethodId} {below : List Frame} {meth : Method} {c : Code} {s₁ : State} (p1767 : Int32) (p1768 : Int32) (p1769 : Int32) (p1759 : Int32) (p1760 : Int32) (p1761 : Int32) (p1762 : Int32) (p1763 : Int32) (a1764 : Addr) (p1765 : Int32) (a1766 : Addr) (a1771 : Addr) (k1774 : ClassId) (p1772 : Int32) (p1773 : Int32) (k1770 : ClassId) (Bd : BodyLoose p l x (head1 (Jvm.Cond.code x code maxLocals ret :: ws) room_1) code maxLocals ret e s m #[(.int p1767), (.int p1768), (.int p1769)] below meth c s₁) (hZ : Z.Warmed39 s.vm) (hml : c.maxLocals = 18) {T0 : State} {locs0 : List Loc} (X0 : Stand p l e room_1 s m #[(.int p1767), (.int p1768), (.int p1769)] below meth c T0 locs0 8 120) (h0 : Heap) (e0 : T0.heap = h0) (n0 : Nat) (O0 : Old Z n0 h0) (N0 : Fr n0 locs0) (pF_a1766_text : Fld Z h0 a1766 zs1 "text" "[B" (.ref a1764)) (pF_a1766_first : Fld Z h0 a1766 zs1 "first" "[I" (.ref a1771)) (pV_a1771 : Arv Z h0 a1771 k1774 .int (16 : Int32) [(.int (0 : Int32)), (.int (8 : Int32)), (.int p1772), (.int (1 : Int32)), (.int (8 : Int32)), (.int p1773), (.int (1 : Int32)), (.int (1 : Int32)), (.int (0 : Int32))] (.int (0 : Int32))) (pE_a1766 : Exa Z h0 a1766 zs1) (pV_a1764 : Arv Z h0 a1764 k1770 .byte (2 : Int32) [(.int p1762), (.int p1763)] (.int (0 : Int32))) :
    own_Goes p e below (T0.setTop (mkF m 139 #[iv p1759, iv p1760, iv p1761, iv p1762, iv p1763, rv a1764, iv (2 : Int32), iv (0 : Int32), iv p1765, rv a1766, iv (0 : Int32), iv (3 : Int32), .unset, .unset, .unset, .unset, .unset, .unset] [])) (own_G s below n0) := by
  have hx := Bd.exec
  have hby := Bd.bytes
  have hown : s.vm.findClass zs2 = some m.cls := findClass_of_methodNamed Bd.named
  have hnm := (name_of_methodNamed Bd.named Bd.method).1
  show own_Goes p e below (T0.setTop (mkF m 139 #[iv p1759, iv p1760, iv p1761, iv p1762, iv p1763, rv a1764, iv (2 : Int32), iv (0 : Int32), iv p1765, rv a1766, iv (0 : Int32), iv (3 : Int32), .unset, .unset, .unset, .unset, .unset, .unset] [])) _
  refine own_via (fun t k => XS.bipush X0.here hx rfl (hb hby at_139) (XS.iload X0.here hx rfl (hb hby at_141) rfl (XS.iadd X0.here hx rfl (hb hby at_143) rfl (XS.istore X0.here hx rfl (hb hby at_144) rfl (l' := #[iv p1759, iv p1760, iv p1761, iv p1762, iv p1763, rv a1764, iv (2 : Int32), iv (0 : Int32), iv p1765, rv a1766, iv (0 : Int32), iv (3 : Int32), iv (8 : Int32), .unset, .unset, .unset, .unset, .unset]) rfl (XS.bipush X0.here hx rfl (hb hby at_146) (XS.iload X0.here hx rfl (hb hby at_148) rfl (XS.iadd X0.here hx rfl (hb hby at_150) rfl (XS.iload X0.here hx rfl (hb hby at_151) rfl (XS.iadd X0.here hx rfl (hb hby at_153) rfl (XS.istore X0.here hx rfl (hb hby at_154) rfl (l' := #[iv p1759, iv p1760, iv p1761, iv p1762, iv p1763, rv a1764, iv (2 : Int32), iv (0 : Int32), iv p1765, rv a1766, iv (0 : Int32), iv (3 : Int32), iv (8 : Int32), iv (8 : Int32), .unset, .unset, .unset, .unset]) rfl (XS.iloadN X0.here hx rfl (hb hby at_156) rfl k))))))))))) ?_
  show own_Goes p e below (T0.setTop (mkF m 157 #[iv p1759, iv p1760, iv p1761, iv p1762, iv p1763, rv a1764, iv (2 : Int32), iv (0 : Int32), iv p1765, rv a1766, iv (0 : Int32), iv (3 : Int32), iv (8 : Int32), iv (8 : Int32), .unset, .unset, .unset, .unset] [(.int p1762)])) _
  obtain ⟨_, T1786, _, X1786, hQ1786, st1786⟩ := own_cs X0 hx hZ hown (wd hw 51 rfl) (wd hw 52 rfl) (wd hw 54 rfl) (wd hw 53 rfl) (by decide) (rm17 l Z a0 hw [] p1762 h0 n0 O0 ) e0 (g := (mkF m 157 #[iv p1759, iv p1760, iv p1761, iv p1762, iv p1763, rv a1764, iv (2 : Int32), iv (0 : Int32), iv p1765, rv a1766, iv (0 : Int32), iv (3 : Int32), iv (8 : Int32), iv (8 : Int32), .unset, .unset, .unset, .unset] [(.int p1762)])) rfl (by rw [hml]; rfl) (rest := []) (W := 0) (lenOf pd_6 rfl) rfl (by show 2 * 0 + _ ≤ _; exact Nat.le_of_eq rfl) (hb hby at_157) (by decide) (by decide) (by decide) (by decide)
  rcases hQ1786 with ⟨hd1787, rfl, Nq1786, hh1788⟩ | ⟨hq1789, hq1790, rfl, Nq1786, hh1791⟩
  · have N1786 := Fr.app N0 Nq1786
    refine own_via (fun t k => st1786 t (XS.ifNo X1786.here hx rfl (hb hby at_160) rfl ((if0 _ _).trans (feq (by decide : ¬ ((1 : Int32) = (0 : Int32)))).1) (XS.iload X1786.here hx rfl (hb hby at_163) rfl (XS.goto X1786.here hx rfl (pc0 := 165) (pc' := 169) rfl (hb hby at_165) (by decide) (by decide) (XS.istore X1786.here hx rfl (hb hby at_169) rfl (l' := #[iv p1759, iv p1760, iv p1761, iv p1762, iv p1763, rv a1764, iv (2 : Int32), iv (0 : Int32), iv p1765, rv a1766, iv (0 : Int32), iv (3 : Int32), iv (8 : Int32), iv (8 : Int32), iv (8 : Int32), .unset, .unset, .unset]) rfl (XS.iload X1786.here hx rfl (hb hby at_171) rfl k)))))) ?_
    show own_Goes p e below (T1786.setTop (mkF m 173 #[iv p1759, iv p1760, iv p1761, iv p1762, iv p1763, rv a1764, iv (2 : Int32), iv (0 : Int32), iv p1765, rv a1766, iv (0 : Int32), iv (3 : Int32), iv (8 : Int32), iv (8 : Int32), iv (8 : Int32), .unset, .unset, .unset] [(.int p1763)])) _
    obtain ⟨_, T1792, _, X1792, hQ1792, st1792⟩ := own_cs X1786 hx hZ hown (wd hw 51 rfl) (wd hw 52 rfl) (wd hw 54 rfl) (wd hw 53 rfl) (by decide) (rm17 l Z a0 hw [] p1763 h0 n0 O0 ) hh1788 (g := (mkF m 173 #[iv p1759, iv p1760, iv p1761, iv p1762, iv p1763, rv a1764, iv (2 : Int32), iv (0 : Int32), iv p1765, rv a1766, iv (0 : Int32), iv (3 : Int32), iv (8 : Int32), iv (8 : Int32), iv (8 : Int32), .unset, .unset, .unset] [(.int p1763)])) rfl (by rw [hml]; rfl) (rest := []) (W := 0) (lenOf pd_6 rfl) rfl (by show 2 * 0 + _ ≤ _; exact Nat.le_of_eq rfl) (hb hby at_173) (by decide) (by decide) (by decide) (by decide)
    rcases hQ1792 with ⟨hd1793, rfl, Nq1792, hh1794⟩ | ⟨hq1795, hq1796, rfl, Nq1792, hh1797⟩
    · have N1792 := Fr.app N1786 Nq1792
      refine own_via (fun t k => st1792 t (XS.ifNo X1792.here hx rfl (hb hby at_176) rfl ((if0 _ _).trans (feq (by decide : ¬ ((1 : Int32) = (0 : Int32)))).1) (XS.iload X1792.here hx rfl (hb hby at_179) rfl (XS.goto X1792.here hx rfl (pc0 := 181) (pc' := 185) rfl (hb hby at_181) (by decide) (by decide) (XS.istore X1792.here hx rfl (hb hby at_185) rfl (l' := #[iv p1759, iv p1760, iv p1761, iv p1762, iv p1763, rv a1764, iv (2 : Int32), iv (0 : Int32), iv p1765, rv a1766, iv (0 : Int32), iv (3 : Int32), iv (8 : Int32), iv (8 : Int32), iv (8 : Int32), iv (8 : Int32), .unset, .unset]) rfl (XS.aload X1792.here hx rfl (hb hby at_187) rfl rfl (XS.iload X1792.here hx rfl (hb hby at_189) rfl k))))))) ?_
      show own_Goes p e below (T1792.setTop (mkF m 191 #[iv p1759, iv p1760, iv p1761, iv p1762, iv p1763, rv a1764, iv (2 : Int32), iv (0 : Int32), iv p1765, rv a1766, iv (0 : Int32), iv (3 : Int32), iv (8 : Int32), iv (8 : Int32), iv (8 : Int32), iv (8 : Int32), .unset, .unset] [(.int (0 : Int32)), (.ref a1766)])) _
      obtain ⟨_, T1798, _, X1798, hQ1798, st1798⟩ := own_cv X1792 hx hZ hown (wd hw 55 rfl) (wd hw 56 rfl) (wd hw 58 rfl) (wd hw 57 rfl) (wd hw 59 rfl) (wd hw 4 rfl) (by decide) (rm20 l Z a0 hw [] a1766 a1764 a1771 k1774 (8 : Int32) p1772 (1 : Int32) (8 : Int32) p1773 (1 : Int32) (1 : Int32) (0 : Int32) k1770 p1762 p1763 h0 n0 O0 pF_a1766_text pF_a1766_first pV_a1771 pE_a1766 pV_a1764 hd1787) hh1794 pE_a1766 (g := (mkF m 191 #[iv p1759, iv p1760, iv p1761, iv p1762, iv p1763, rv a1764, iv (2 : Int32), iv (0 : Int32), iv p1765, rv a1766, iv (0 : Int32), iv (3 : Int32), iv (8 : Int32), iv (8 : Int32), iv (8 : Int32), iv (8 : Int32), .unset, .unset] [(.int (0 : Int32)), (.ref a1766)])) rfl (by rw [hml]; rfl) (rest := []) (W := 0) (lenOf pd_3 rfl) rfl (by show 2 * 0 + _ ≤ _; exact Nat.le_of_eq rfl) (hb hby at_191) (by decide) (by decide) (by decide) (by decide)
      obtain ⟨hd1799, rfl, Nq1798, hh1800⟩ := hQ1798
      have N1798 := Fr.app N1792 Nq1798
      refine own_via (fun t k => st1798 t (XS.istore X1798.here hx rfl (hb hby at_194) rfl (l' := #[iv p1759, iv p1760, iv p1761, iv p1762, iv p1763, rv a1764, iv (2 : Int32), iv (0 : Int32), iv p1765, rv a1766, iv (0 : Int32), iv (3 : Int32), iv (8 : Int32), iv (8 : Int32), iv (8 : Int32), iv (8 : Int32), iv (8 : Int32), .unset]) rfl (XS.aload X1798.here hx rfl (hb hby at_196) rfl rfl (XS.iload X1798.here hx rfl (hb hby at_198) rfl k)))) ?_
      show own_Goes p e below (T1798.setTop (mkF m 200 #[iv p1759, iv p1760, iv p1761, iv p1762, iv p1763, rv a1764, iv (2 : Int32), iv (0 : Int32), iv p1765, rv a1766, iv (0 : Int32), iv (3 : Int32), iv (8 : Int32), iv (8 : Int32), iv (8 : Int32), iv (8 : Int32), iv (8 : Int32), .unset] [(.int (3 : Int32)), (.ref a1766)])) _
      obtain ⟨_, T1801, _, X1801, hQ1801, st1801⟩ := own_cv X1798 hx hZ hown (wd hw 55 rfl) (wd hw 56 rfl) (wd hw 58 rfl) (wd hw 57 rfl) (wd hw 59 rfl) (wd hw 4 rfl) (by decide) (rm23 l Z a0 hw [] a1766 a1764 a1771 k1774 (0 : Int32) (8 : Int32) p1772 (8 : Int32) p1773 (1 : Int32) (1 : Int32) (0 : Int32) k1770 p1762 p1763 h0 n0 O0 pF_a1766_text pF_a1766_first pV_a1771 pE_a1766 pV_a1764 hd1793) hh1800 pE_a1766 (g := (mkF m 200 #[iv p1759, iv p1760, iv p1761, iv p1762, iv p1763, rv a1764, iv (2 : Int32), iv (0 : Int32), iv p1765, rv a1766, iv (0 : Int32), iv (3 : Int32), iv (8 : Int32), iv (8 : Int32), iv (8 : Int32), iv (8 : Int32), iv (8 : Int32), .unset] [(.int (3 : Int32)), (.ref a1766)])) rfl (by rw [hml]; rfl) (rest := []) (W := 0) (lenOf pd_3 rfl) rfl (by show 2 * 0 + _ ≤ _; exact Nat.le_of_eq rfl) (hb hby at_200) (by decide) (by decide) (by decide) (by decide)
      obtain ⟨hd1802, rfl, Nq1801, hh1803⟩ := hQ1801
      have N1801 := Fr.app N1798 Nq1801
      refine own_via (fun t k => st1801 t (XS.istore X1801.here hx rfl (hb hby at_203) rfl (l' := #[iv p1759, iv p1760, iv p1761, iv p1762, iv p1763, rv a1764, iv (2 : Int32), iv (0 : Int32), iv p1765, rv a1766, iv (0 : Int32), iv (3 : Int32), iv (8 : Int32), iv (8 : Int32), iv (8 : Int32), iv (8 : Int32), iv (8 : Int32), iv (8 : Int32)]) rfl (XS.iload X1801.here hx rfl (hb hby at_205) rfl (XS.ifNo X1801.here hx rfl (hb hby at_207) rfl ((if0 _ _).trans (teq (by decide : (0 : Int32) = (0 : Int32))).2) (XS.iload X1801.here hx rfl (hb hby at_210) rfl (XS.iconst X1801.here hx rfl (hb hby at_212) (XS.icmpNo X1801.here hx rfl (hb hby at_213) rfl (teq (by decide : (3 : Int32) = (3 : Int32))).2 (XS.iload X1801.here hx rfl (hb hby at_216) rfl (XS.iload X1801.here hx rfl (hb hby at_218) rfl (XS.icmpNo X1801.here hx rfl (hb hby at_220) rfl (teq (by decide : (8 : Int32) = (8 : Int32))).2 (XS.iload X1801.here hx rfl (hb hby at_223) rfl (XS.iload X1801.here hx rfl (hb hby at_225) rfl k)))))))))))) ?_
      show own_Goes p e below (T1801.setTop (mkF m 227 #[iv p1759, iv p1760, iv p1761, iv p1762, iv p1763, rv a1764, iv (2 : Int32), iv (0 : Int32), iv p1765, rv a1766, iv (0 : Int32), iv (3 : Int32), iv (8 : Int32), iv (8 : Int32), iv (8 : Int32), iv (8 : Int32), iv (8 : Int32), iv (8 : Int32)] [(.int (8 : Int32)), (.int (8 : Int32))])) _
      refine own_via (fun t k => XS.icmpNo X1801.here hx rfl (hb hby at_227) rfl (teq (by decide : (8 : Int32) = (8 : Int32))).2 (XS.iconst X1801.here hx rfl (hb hby at_230) (XS.goto X1801.here hx rfl (pc0 := 231) (pc' := 235) rfl (hb hby at_231) (by decide) (by decide) k))) ?_
      show own_Goes p e below (T1801.setTop (mkF m 235 #[iv p1759, iv p1760, iv p1761, iv p1762, iv p1763, rv a1764, iv (2 : Int32), iv (0 : Int32), iv p1765, rv a1766, iv (0 : Int32), iv (3 : Int32), iv (8 : Int32), iv (8 : Int32), iv (8 : Int32), iv (8 : Int32), iv (8 : Int32), iv (8 : Int32)] [(.int (1 : Int32))])) _
      obtain ⟨fs, hr, hrun, hended, hW, hsame⟩ := X1801.leave (v := some (.int (1 : Int32))) (fun h => by rw [Bd.returns] at h; cases h)
      refine own_end (t := T1801.setFrames fs) ?_ ⟨_, hrun, hended, _, _, rfl, ?_, ⟨_, rfl⟩, hW, hsame.mono (by decide) (by decide)⟩
      · exact retN X1801 hx (t := .boolean) Bd.returns (by simp) (hb hby at_235) hr
      · exact ⟨rfl, N1801⟩
    · have N1792 := Fr.app N1786 Nq1792
      refine own_via (fun t k => st1792 t (XS.ifYes X1792.here hx rfl (pc0 := 176) (pc' := 184) rfl (hb hby at_176) rfl ((if0 _ _).trans (teq (by decide : (0 : Int32) = (0 : Int32))).1) (by decide) (by decide) (XS.iconst X1792.here hx rfl (hb hby at_184) (XS.istore X1792.here hx rfl (hb hby at_185) rfl (l' := #[iv p1759, iv p1760, iv p1761, iv p1762, iv p1763, rv a1764, iv (2 : Int32), iv (0 : Int32), iv p1765, rv a1766, iv (0 : Int32), iv (3 : Int32), iv (8 : Int32), iv (8 : Int32), iv (8 : Int32), iv (4 : Int32), .unset, .unset]) rfl (XS.aload X1792.here hx rfl (hb hby at_187) rfl rfl (XS.iload X1792.here hx rfl (hb hby at_189) rfl k)))))) ?_
      show own_Goes p e below (T1792.setTop (mkF m 191 #[iv p1759, iv p1760, iv p1761, iv p1762, iv p1763, rv a1764, iv (2 : Int32), iv (0 : Int32), iv p1765, rv a1766, iv (0 : Int32), iv (3 : Int32), iv (8 : Int32), iv (8 : Int32), iv (8 : Int32), iv (4 : Int32), .unset, .unset] [(.int (0 : Int32)), (.ref a1766)])) _
      obtain ⟨_, T1804, _, X1804, hQ1804, st1804⟩ := own_cv X1792 hx hZ hown (wd hw 55 rfl) (wd hw 56 rfl) (wd hw 58 rfl) (wd hw 57 rfl) (wd hw 59 rfl) (wd hw 4 rfl) (by decide) (rm20 l Z a0 hw [] a1766 a1764 a1771 k1774 (8 : Int32) p1772 (1 : Int32) (8 : Int32) p1773 (1 : Int32) (1 : Int32) (0 : Int32) k1770 p1762 p1763 h0 n0 O0 pF_a1766_text pF_a1766_first pV_a1771 pE_a1766 pV_a1764 hd1787) hh1797 pE_a1766 (g := (mkF m 191 #[iv p1759, iv p1760, iv p1761, iv p1762, iv p1763, rv a1764, iv (2 : Int32), iv (0 : Int32), iv p1765, rv a1766, iv (0 : Int32), iv (3 : Int32), iv (8 : Int32), iv (8 : Int32), iv (8 : Int32), iv (4 : Int32), .unset, .unset] [(.int (0 : Int32)), (.ref a1766)])) rfl (by rw [hml]; rfl) (rest := []) (W := 0) (lenOf pd_3 rfl) rfl (by show 2 * 0 + _ ≤ _; exact Nat.le_of_eq rfl) (hb hby at_191) (by decide) (by decide) (by decide) (by decide)
      obtain ⟨hd1805, rfl, Nq1804, hh1806⟩ := hQ1804
      have N1804 := Fr.app N1792 Nq1804
      refine own_via (fun t k => st1804 t (XS.istore X1804.here hx rfl (hb hby at_194) rfl (l' := #[iv p1759, iv p1760, iv p1761, iv p1762, iv p1763, rv a1764, iv (2 : Int32), iv (0 : Int32), iv p1765, rv a1766, iv (0 : Int32), iv (3 : Int32), iv (8 : Int32), iv (8 : Int32), iv (8 : Int32), iv (4 : Int32), iv (8 : Int32), .unset]) rfl (XS.aload X1804.here hx rfl (hb hby at_196) rfl rfl (XS.iload X1804.here hx rfl (hb hby at_198) rfl k)))) ?_
      show own_Goes p e below (T1804.setTop (mkF m 200 #[iv p1759, iv p1760, iv p1761, iv p1762, iv p1763, rv a1764, iv (2 : Int32), iv (0 : Int32), iv p1765, rv a1766, iv (0 : Int32), iv (3 : Int32), iv (8 : Int32), iv (8 : Int32), iv (8 : Int32), iv (4 : Int32), iv (8 : Int32), .unset] [(.int (3 : Int32)), (.ref a1766)])) _
      obtain ⟨_, T1807, _, X1807, hQ1807, st1807⟩ := own_cv X1804 hx hZ hown (wd hw 55 rfl) (wd hw 56 rfl) (wd hw 58 rfl) (wd hw 57 rfl) (wd hw 59 rfl) (wd hw 4 rfl) (by decide) (rm24 l Z a0 hw [] a1766 a1764 a1771 k1774 (0 : Int32) (8 : Int32) p1772 (8 : Int32) p1773 (1 : Int32) (1 : Int32) (0 : Int32) k1770 p1762 p1763 h0 n0 O0 pF_a1766_text pF_a1766_first pV_a1771 pE_a1766 pV_a1764 hq1795 hq1796) hh1806 pE_a1766 (g := (mkF m 200 #[iv p1759, iv p1760, iv p1761, iv p1762, iv p1763, rv a1764, iv (2 : Int32), iv (0 : Int32), iv p1765, rv a1766, iv (0 : Int32), iv (3 : Int32), iv (8 : Int32), iv (8 : Int32), iv (8 : Int32), iv (4 : Int32), iv (8 : Int32), .unset] [(.int (3 : Int32)), (.ref a1766)])) rfl (by rw [hml]; rfl) (rest := []) (W := 0) (lenOf pd_3 rfl) rfl (by show 2 * 0 + _ ≤ _; exact Nat.le_of_eq rfl) (hb hby at_200) (by decide) (by decide) (by decide) (by decide)
      obtain ⟨rfl, Nq1807, hh1808⟩ := hQ1807
      have N1807 := Fr.app N1804 Nq1807
      refine own_via (fun t k => st1807 t (XS.istore X1807.here hx rfl (hb hby at_203) rfl (l' := #[iv p1759, iv p1760, iv p1761, iv p1762, iv p1763, rv a1764, iv (2 : Int32), iv (0 : Int32), iv p1765, rv a1766, iv (0 : Int32), iv (3 : Int32), iv (8 : Int32), iv (8 : Int32), iv (8 : Int32), iv (4 : Int32), iv (8 : Int32), iv (4 : Int32)]) rfl (XS.iload X1807.here hx rfl (hb hby at_205) rfl (XS.ifNo X1807.here hx rfl (hb hby at_207) rfl ((if0 _ _).trans (teq (by decide : (0 : Int32) = (0 : Int32))).2) (XS.iload X1807.here hx rfl (hb hby at_210) rfl (XS.iconst X1807.here hx rfl (hb hby at_212) (XS.icmpNo X1807.here hx rfl (hb hby at_213) rfl (teq (by decide : (3 : Int32) = (3 : Int32))).2 (XS.iload X1807.here hx rfl (hb hby at_216) rfl (XS.iload X1807.here hx rfl (hb hby at_218) rfl (XS.icmpNo X1807.here hx rfl (hb hby at_220) rfl (teq (by decide : (8 : Int32) = (8 : Int32))).2 (XS.iload X1807.here hx rfl (hb hby at_223) rfl (XS.iload X1807.here hx rfl (hb hby at_225) rfl k)))))))))))) ?_
      show own_Goes p e below (T1807.setTop (mkF m 227 #[iv p1759, iv p1760, iv p1761, iv p1762, iv p1763, rv a1764, iv (2 : Int32), iv (0 : Int32), iv p1765, rv a1766, iv (0 : Int32), iv (3 : Int32), iv (8 : Int32), iv (8 : Int32), iv (8 : Int32), iv (4 : Int32), iv (8 : Int32), iv (4 : Int32)] [(.int (4 : Int32)), (.int (4 : Int32))])) _
      refine own_via (fun t k => XS.icmpNo X1807.here hx rfl (hb hby at_227) rfl (teq (by decide : (4 : Int32) = (4 : Int32))).2 (XS.iconst X1807.here hx rfl (hb hby at_230) (XS.goto X1807.here hx rfl (pc0 := 231) (pc' := 235) rfl (hb hby at_231) (by decide) (by decide) k))) ?_
      show own_Goes p e below (T1807.setTop (mkF m 235 #[iv p1759, iv p1760, iv p1761, iv p1762, iv p1763, rv a1764, iv (2 : Int32), iv (0 : Int32), iv p1765, rv a1766, iv (0 : Int32), iv (3 : Int32), iv (8 : Int32), iv (8 : Int32), iv (8 : Int32), iv (4 : Int32), iv (8 : Int32), iv (4 : Int32)] [(.int (1 : Int32))])) _
      obtain ⟨fs, hr, hrun, hended, hW, hsame⟩ := X1807.leave (v := some (.int (1 : Int32))) (fun h => by rw [Bd.returns] at h; cases h)
      refine own_end (t := T1807.setFrames fs) ?_ ⟨_, hrun, hended, _, _, rfl, ?_, ⟨_, rfl⟩, hW, hsame.mono (by decide) (by decide)⟩
      · exact retN X1807 hx (t := .boolean) Bd.returns (by simp) (hb hby at_235) hr
      · exact ⟨rfl, N1807⟩
  · have N1786 := Fr.app N0 Nq1786
    refine own_via (fun t k => st1786 t (XS.ifYes X1786.here hx rfl (pc0 := 160) (pc' := 168) rfl (hb hby at_160) rfl ((if0 _ _).trans (teq (by decide : (0 : Int32) = (0 : Int32))).1) (by decide) (by decide) (XS.iconst X1786.here hx rfl (hb hby at_168) (XS.istore X1786.here hx rfl (hb hby at_169) rfl (l' := #[iv p1759, iv p1760, iv p1761, iv p1762, iv p1763, rv a1764, iv (2 : Int32), iv (0 : Int32), iv p1765, rv a1766, iv (0 : Int32), iv (3 : Int32), iv (8 : Int32), iv (8 : Int32), iv (1 : Int32), .unset, .unset, .unset]) rfl (XS.iload X1786.here hx rfl (hb hby at_171) rfl k))))) ?_
    show own_Goes p e below (T1786.setTop (mkF m 173 #[iv p1759, iv p1760, iv p1761, iv p1762, iv p1763, rv a1764, iv (2 : Int32), iv (0 : Int32), iv p1765, rv a1766, iv (0 : Int32), iv (3 : Int32), iv (8 : Int32), iv (8 : Int32), iv (1 : Int32), .unset, .unset, .unset] [(.int p1763)])) _
    obtain ⟨_, T1809, _, X1809, hQ1809, st1809⟩ := own_cs X1786 hx hZ hown (wd hw 51 rfl) (wd hw 52 rfl) (wd hw 54 rfl) (wd hw 53 rfl) (by decide) (rm17 l Z a0 hw [] p1763 h0 n0 O0 ) hh1791 (g := (mkF m 173 #[iv p1759, iv p1760, iv p1761, iv p1762, iv p1763, rv a1764, iv (2 : Int32), iv (0 : Int32), iv p1765, rv a1766, iv (0 : Int32), iv (3 : Int32), iv (8 : Int32), iv (8 : Int32), iv (1 : Int32), .unset, .unset, .unset] [(.int p1763)])) rfl (by rw [hml]; rfl) (rest := []) (W := 0) (lenOf pd_6 rfl) rfl (by show 2 * 0 + _ ≤ _; exact Nat.le_of_eq rfl) (hb hby at_173) (by decide) (by decide) (by decide) (by decide)
    rcases hQ1809 with ⟨hd1810, rfl, Nq1809, hh1811⟩ | ⟨hq1812, hq1813, rfl, Nq1809, hh1814⟩
    · have N1809 := Fr.app N1786 Nq1809
      refine own_via (fun t k => st1809 t (XS.ifNo X1809.here hx rfl (hb hby at_176) rfl ((if0 _ _).trans (feq (by decide : ¬ ((1 : Int32) = (0 : Int32)))).1) (XS.iload X1809.here hx rfl (hb hby at_179) rfl (XS.goto X1809.here hx rfl (pc0 := 181) (pc' := 185) rfl (hb hby at_181) (by decide) (by decide) (XS.istore X1809.here hx rfl (hb hby at_185) rfl (l' := #[iv p1759, iv p1760, iv p1761, iv p1762, iv p1763, rv a1764, iv (2 : Int32), iv (0 : Int32), iv p1765, rv a1766, iv (0 : Int32), iv (3 : Int32), iv (8 : Int32), iv (8 : Int32), iv (1 : Int32), iv (8 : Int32), .unset, .unset]) rfl (XS.aload X1809.here hx rfl (hb hby at_187) rfl rfl (XS.iload X1809.here hx rfl (hb hby at_189) rfl k))))))) ?_
      show own_Goes p e below (T1809.setTop (mkF m 191 #[iv p1759, iv p1760, iv p1761, iv p1762, iv p1763, rv a1764, iv (2 : Int32), iv (0 : Int32), iv p1765, rv a1766, iv (0 : Int32), iv (3 : Int32), iv (8 : Int32), iv (8 : Int32), iv (1 : Int32), iv (8 : Int32), .unset, .unset] [(.int (0 : Int32)), (.ref a1766)])) _
      obtain ⟨_, T1815, _, X1815, hQ1815, st1815⟩ := own_cv X1809 hx hZ hown (wd hw 55 rfl) (wd hw 56 rfl) (wd hw 58 rfl) (wd hw 57 rfl) (wd hw 59 rfl) (wd hw 4 rfl) (by decide) (rm25 l Z a0 hw [] a1766 a1764 a1771 k1774 (8 : Int32) p1772 (1 : Int32) (8 : Int32) p1773 (1 : Int32) (1 : Int32) (0 : Int32) k1770 p1762 p1763 h0 n0 O0 pF_a1766_text pF_a1766_first pV_a1771 pE_a1766 pV_a1764 hq1789 hq1790) hh1811 pE_a1766 (g := (mkF m 191 #[iv p1759, iv p1760, iv p1761, iv p1762, iv p1763, rv a1764, iv (2 : Int32), iv (0 : Int32), iv p1765, rv a1766, iv (0 : Int32), iv (3 : Int32), iv (8 : Int32), iv (8 : Int32), iv (1 : Int32), iv (8 : Int32), .unset, .unset] [(.int (0 : Int32)), (.ref a1766)])) rfl (by rw [hml]; rfl) (rest := []) (W := 0) (lenOf pd_3 rfl) rfl (by show 2 * 0 + _ ≤ _; exact Nat.le_of_eq rfl) (hb hby at_191) (by decide) (by decide) (by decide) (by decide)
      obtain ⟨rfl, Nq1815, hh1816⟩ := hQ1815
      have N1815 := Fr.app N1809 Nq1815
      refine own_via (fun t k => st1815 t (XS.istore X1815.here hx rfl (hb hby at_194) rfl (l' := #[iv p1759, iv p1760, iv p1761, iv p1762, iv p1763, rv a1764, iv (2 : Int32), iv (0 : Int32), iv p1765, rv a1766, iv (0 : Int32), iv (3 : Int32), iv (8 : Int32), iv (8 : Int32), iv (1 : Int32), iv (8 : Int32), iv (1 : Int32), .unset]) rfl (XS.aload X1815.here hx rfl (hb hby at_196) rfl rfl (XS.iload X1815.here hx rfl (hb hby at_198) rfl k)))) ?_
      show own_Goes p e below (T1815.setTop (mkF m 200 #[iv p1759, iv p1760, iv p1761, iv p1762, iv p1763, rv a1764, iv (2 : Int32), iv (0 : Int32), iv p1765, rv a1766, iv (0 : Int32), iv (3 : Int32), iv (8 : Int32), iv (8 : Int32), iv (1 : Int32), iv (8 : Int32), iv (1 : Int32), .unset] [(.int (3 : Int32)), (.ref a1766)])) _
      obtain ⟨_, T1817, _, X1817, hQ1817, st1817⟩ := own_cv X1815 hx hZ hown (wd hw 55 rfl) (wd hw 56 rfl) (wd hw 58 rfl) (wd hw 57 rfl) (wd hw 59 rfl) (wd hw 4 rfl) (by decide) (rm23 l Z a0 hw [] a1766 a1764 a1771 k1774 (0 : Int32) (8 : Int32) p1772 (8 : Int32) p1773 (1 : Int32) (1 : Int32) (0 : Int32) k1770 p1762 p1763 h0 n0 O0 pF_a1766_text pF_a1766_first pV_a1771 pE_a1766 pV_a1764 hd1810) hh1816 pE_a1766 (g := (mkF m 200 #[iv p1759, iv p1760, iv p1761, iv p1762, iv p1763, rv a1764, iv (2 : Int32), iv (0 : Int32), iv p1765, rv a1766, iv (0 : Int32), iv (3 : Int32), iv (8 : Int32), iv (8 : Int32), iv (1 : Int32), iv (8 : Int32), iv (1 : Int32), .unset] [(.int (3 : Int32)), (.ref a1766)])) rfl (by rw [hml]; rfl) (rest := []) (W := 0) (lenOf pd_3 rfl) rfl (by show 2 * 0 + _ ≤ _; exact Nat.le_of_eq rfl) (hb hby at_200) (by decide) (by decide) (by decide) (by decide)
      obtain ⟨hd1818, rfl, Nq1817, hh1819⟩ := hQ1817
      have N1817 := Fr.app N1815 Nq1817
      refine own_via (fun t k => st1817 t (XS.istore X1817.here hx rfl (hb hby at_203) rfl (l' := #[iv p1759, iv p1760, iv p1761, iv p1762, iv p1763, rv a1764, iv (2 : Int32), iv (0 : Int32), iv p1765, rv a1766, iv (0 : Int32), iv (3 : Int32), iv (8 : Int32), iv (8 : Int32), iv (1 : Int32), iv (8 : Int32), iv (1 : Int32), iv (8 : Int32)]) rfl (XS.iload X1817.here hx rfl (hb hby at_205) rfl (XS.ifNo X1817.here hx rfl (hb hby at_207) rfl ((if0 _ _).trans (teq (by decide : (0 : Int32) = (0 : Int32))).2) (XS.iload X1817.here hx rfl (hb hby at_210) rfl (XS.iconst X1817.here hx rfl (hb hby at_212) (XS.icmpNo X1817.here hx rfl (hb hby at_213) rfl (teq (by decide : (3 : Int32) = (3 : Int32))).2 (XS.iload X1817.here hx rfl (hb hby at_216) rfl (XS.iload X1817.here hx rfl (hb hby at_218) rfl (XS.icmpNo X1817.here hx rfl (hb hby at_220) rfl (teq (by decide : (1 : Int32) = (1 : Int32))).2 (XS.iload X1817.here hx rfl (hb hby at_223) rfl (XS.iload X1817.here hx rfl (hb hby at_225) rfl k)))))))))))) ?_
      show own_Goes p e below (T1817.setTop (mkF m 227 #[iv p1759, iv p1760, iv p1761, iv p1762, iv p1763, rv a1764, iv (2 : Int32), iv (0 : Int32), iv p1765, rv a1766, iv (0 : Int32), iv (3 : Int32), iv (8 : Int32), iv (8 : Int32), iv (1 : Int32), iv (8 : Int32), iv (1 : Int32), iv (8 : Int32)] [(.int (8 : Int32)), (.int (8 : Int32))])) _
      refine own_via (fun t k => XS.icmpNo X1817.here hx rfl (hb hby at_227) rfl (teq (by decide : (8 : Int32) = (8 : Int32))).2 (XS.iconst X1817.here hx rfl (hb hby at_230) (XS.goto X1817.here hx rfl (pc0 := 231) (pc' := 235) rfl (hb hby at_231) (by decide) (by decide) k))) ?_
      show own_Goes p e below (T1817.setTop (mkF m 235 #[iv p1759, iv p1760, iv p1761, iv p1762, iv p1763, rv a1764, iv (2 : Int32), iv (0 : Int32), iv p1765, rv a1766, iv (0 : Int32), iv (3 : Int32), iv (8 : Int32), iv (8 : Int32), iv (1 : Int32), iv (8 : Int32), iv (1 : Int32), iv (8 : Int32)] [(.int (1 : Int32))])) _
      obtain ⟨fs, hr, hrun, hended, hW, hsame⟩ := X1817.leave (v := some (.int (1 : Int32))) (fun h => by rw [Bd.returns] at h; cases h)
      refine own_end (t := T1817.setFrames fs) ?_ ⟨_, hrun, hended, _, _, rfl, ?_, ⟨_, rfl⟩, hW, hsame.mono (by decide) (by decide)⟩
      · exact retN X1817 hx (t := .boolean) Bd.returns (by simp) (hb hby at_235) hr
      · exact ⟨rfl, N1817⟩
    · have N1809 := Fr.app N1786 Nq1809
      refine own_via (fun t k => st1809 t (XS.ifYes X1809.here hx rfl (pc0 := 176) (pc' := 184) rfl (hb hby at_176) rfl ((if0 _ _).trans (teq (by decide : (0 : Int32) = (0 : Int32))).1) (by decide) (by decide) (XS.iconst X1809.here hx rfl (hb hby at_184) (XS.istore X1809.here hx rfl (hb hby at_185) rfl (l' := #[iv p1759, iv p1760, iv p1761, iv p1762, iv p1763, rv a1764, iv (2 : Int32), iv (0 : Int32), iv p1765, rv a1766, iv (0 : Int32), iv (3 : Int32), iv (8 : Int32), iv (8 : Int32), iv (1 : Int32), iv (4 : Int32), .unset, .unset]) rfl (XS.aload X1809.here hx rfl (hb hby at_187) rfl rfl (XS.iload X1809.here hx rfl (hb hby at_189) rfl k)))))) ?_
      show own_Goes p e below (T1809.setTop (mkF m 191 #[iv p1759, iv p1760, iv p1761, iv p1762, iv p1763, rv a1764, iv (2 : Int32), iv (0 : Int32), iv p1765, rv a1766, iv (0 : Int32), iv (3 : Int32), iv (8 : Int32), iv (8 : Int32), iv (1 : Int32), iv (4 : Int32), .unset, .unset] [(.int (0 : Int32)), (.ref a1766)])) _
      obtain ⟨_, T1820, _, X1820, hQ1820, st1820⟩ := own_cv X1809 hx hZ hown (wd hw 55 rfl) (wd hw 56 rfl) (wd hw 58 rfl) (wd hw 57 rfl) (wd hw 59 rfl) (wd hw 4 rfl) (by decide) (rm25 l Z a0 hw [] a1766 a1764 a1771 k1774 (8 : Int32) p1772 (1 : Int32) (8 : Int32) p1773 (1 : Int32) (1 : Int32) (0 : Int32) k1770 p1762 p1763 h0 n0 O0 pF_a1766_text pF_a1766_first pV_a1771 pE_a1766 pV_a1764 hq1789 hq1790) hh1814 pE_a1766 (g := (mkF m 191 #[iv p1759, iv p1760, iv p1761, iv p1762, iv p1763, rv a1764, iv (2 : Int32), iv (0 : Int32), iv p1765, rv a1766, iv (0 : Int32), iv (3 : Int32), iv (8 : Int32), iv (8 : Int32), iv (1 : Int32), iv (4 : Int32), .unset, .unset] [(.int (0 : Int32)), (.ref a1766)])) rfl (by rw [hml]; rfl) (rest := []) (W := 0) (lenOf pd_3 rfl) rfl (by show 2 * 0 + _ ≤ _; exact Nat.le_of_eq rfl) (hb hby at_191) (by decide) (by decide) (by decide) (by decide)
      obtain ⟨rfl, Nq1820, hh1821⟩ := hQ1820
      have N1820 := Fr.app N1809 Nq1820
      refine own_via (fun t k => st1820 t (XS.istore X1820.here hx rfl (hb hby at_194) rfl (l' := #[iv p1759, iv p1760, iv p1761, iv p1762, iv p1763, rv a1764, iv (2 : Int32), iv (0 : Int32), iv p1765, rv a1766, iv (0 : Int32), iv (3 : Int32), iv (8 : Int32), iv (8 : Int32), iv (1 : Int32), iv (4 : Int32), iv (1 : Int32), .unset]) rfl (XS.aload X1820.here hx rfl (hb hby at_196) rfl rfl (XS.iload X1820.here hx rfl (hb hby at_198) rfl k)))) ?_
      show own_Goes p e below (T1820.setTop (mkF m 200 #[iv p1759, iv p1760, iv p1761, iv p1762, iv p1763, rv a1764, iv (2 : Int32), iv (0 : Int32), iv p1765, rv a1766, iv (0 : Int32), iv (3 : Int32), iv (8 : Int32), iv (8 : Int32), iv (1 : Int32), iv (4 : Int32), iv (1 : Int32), .unset] [(.int (3 : Int32)), (.ref a1766)])) _
      obtain ⟨_, T1822, _, X1822, hQ1822, st1822⟩ := own_cv X1820 hx hZ hown (wd hw 55 rfl) (wd hw 56 rfl) (wd hw 58 rfl) (wd hw 57 rfl) (wd hw 59 rfl) (wd hw 4 rfl) (by decide) (rm24 l Z a0 hw [] a1766 a1764 a1771 k1774 (0 : Int32) (8 : Int32) p1772 (8 : Int32) p1773 (1 : Int32) (1 : Int32) (0 : Int32) k1770 p1762 p1763 h0 n0 O0 pF_a1766_text pF_a1766_first pV_a1771 pE_a1766 pV_a1764 hq1812 hq1813) hh1821 pE_a1766 (g := (mkF m 200 #[iv p1759, iv p1760, iv p1761, iv p1762, iv p1763, rv a1764, iv (2 : Int32), iv (0 : Int32), iv p1765, rv a1766, iv (0 : Int32), iv (3 : Int32), iv (8 : Int32), iv (8 : Int32), iv (1 : Int32), iv (4 : Int32), iv (1 : Int32), .unset] [(.int (3 : Int32)), (.ref a1766)])) rfl (by rw [hml]; rfl) (rest := []) (W := 0) (lenOf pd_3 rfl) rfl (by show 2 * 0 + _ ≤ _; exact Nat.le_of_eq rfl) (hb hby at_200) (by decide) (by decide) (by decide) (by decide)
      obtain ⟨rfl, Nq1822, hh1823⟩ := hQ1822
      have N1822 := Fr.app N1820 Nq1822
      refine own_via (fun t k => st1822 t (XS.istore X1822.here hx rfl (hb hby at_203) rfl (l' := #[iv p1759, iv p1760, iv p1761, iv p1762, iv p1763, rv a1764, iv (2 : Int32), iv (0 : Int32), iv p1765, rv a1766, iv (0 : Int32), iv (3 : Int32), iv (8 : Int32), iv (8 : Int32), iv (1 : Int32), iv (4 : Int32), iv (1 : Int32), iv (4 : Int32)]) rfl (XS.iload X1822.here hx rfl (hb hby at_205) rfl (XS.ifNo X1822.here hx rfl (hb hby at_207) rfl ((if0 _ _).trans (teq (by decide : (0 : Int32) = (0 : Int32))).2) (XS.iload X1822.here hx rfl (hb hby at_210) rfl (XS.iconst X1822.here hx rfl (hb hby at_212) (XS.icmpNo X1822.here hx rfl (hb hby at_213) rfl (teq (by decide : (3 : Int32) = (3 : Int32))).2 (XS.iload X1822.here hx rfl (hb hby at_216) rfl (XS.iload X1822.here hx rfl (hb hby at_218) rfl (XS.icmpNo X1822.here hx rfl (hb hby at_220) rfl (teq (by decide : (1 : Int32) = (1 : Int32))).2 (XS.iload X1822.here hx rfl (hb hby at_223) rfl (XS.iload X1822.here hx rfl (hb hby at_225) rfl k)))))))))))) ?_
      show own_Goes p e below (T1822.setTop (mkF m 227 #[iv p1759, iv p1760, iv p1761, iv p1762, iv p1763, rv a1764, iv (2 : Int32), iv (0 : Int32), iv p1765, rv a1766, iv (0 : Int32), iv (3 : Int32), iv (8 : Int32), iv (8 : Int32), iv (1 : Int32), iv (4 : Int32), iv (1 : Int32), iv (4 : Int32)] [(.int (4 : Int32)), (.int (4 : Int32))])) _
      refine own_via (fun t k => XS.icmpNo X1822.here hx rfl (hb hby at_227) rfl (teq (by decide : (4 : Int32) = (4 : Int32))).2 (XS.iconst X1822.here hx rfl (hb hby at_230) (XS.goto X1822.here hx rfl (pc0 := 231) (pc' := 235) rfl (hb hby at_231) (by decide) (by decide) k))) ?_
      show own_Goes p e below (T1822.setTop (mkF m 235 #[iv p1759, iv p1760, iv p1761, iv p1762, iv p1763, rv a1764, iv (2 : Int32), iv (0 : Int32), iv p1765, rv a1766, iv (0 : Int32), iv (3 : Int32), iv (8 : Int32), iv (8 : Int32), iv (1 : Int32), iv (4 : Int32), iv (1 : Int32), iv (4 : Int32)] [(.int (1 : Int32))])) _
      obtain ⟨fs, hr, hrun, hended, hW, hsame⟩ := X1822.leave (v := some (.int (1 : Int32))) (fun h => by rw [Bd.returns] at h; cases h)
      refine own_end (t := T1822.setFrames fs) ?_ ⟨_, hrun, hended, _, _, rfl, ?_, ⟨_, rfl⟩, hW, hsame.mono (by decide) (by decide)⟩
      · exact retN X1822 hx (t := .boolean) Bd.returns (by simp) (hb hby at_235) hr
      · exact ⟨rfl, N1822⟩
def Q34 (Z : State) (a1831 : Addr) (a1836 : Addr) (k1846 : ClassId) (p1837 : Int32) (p1838 : Int32) (p1839 : Int32) (p1840 : Int32) (p1841 : Int32) (p1842 : Int32) (p1843 : Int32) (p1844 : Int32) (p1845 : Int32) (a1832 : Addr) (h0 : Heap) (n0 : Nat) (v : Option Value) (h : Heap) (L : List Loc) : Prop := v = some (.int (8 : Int32)) ∧ Fr n0 L ∧ Keep h0 h [a1836, a1831] ∧ Exa Z h a1836 "[I" ∧ Arv Z h a1836 k1846 .int (16 : Int32) [(.int p1837), (.int p1838), (.int p1839), (.int p1840), (.int p1841), (.int p1842), (.int p1843), (.int p1844), (.int (1 : Int32))] (.int (0 : Int32)) ∧ Exa Z h a1831 zs1 ∧ Fld Z h a1831 zs1 "text" "[B" (.ref a1832) ∧ Fld Z h a1831 zs1 "first" "[I" (.ref a1836) ∧ Fld Z h a1831 zs1 "length" "I" (.int (9 : Int32))
set_option maxRecDepth 65536 in
set_option maxHeartbeats 40000000 in
theorem rm34 (l : Launch) (Z : State) (a0 : Array Value) (hw : ∀ d ∈ tables_1, d.before a0 Z = true) (ws : List Jvm.Cond) (a1831 : Addr) (a1836 : Addr) (k1846 : ClassId) (p1837 : Int32) (p1838 : Int32) (p1839 : Int32) (p1840 : Int32) (p1841 : Int32) (p1842 : Int32) (p1843 : Int32) (p1844 : Int32) (p1845 : Int32) (a1832 : Addr) (h0 : Heap) (n0 : Nat) (O0 : Old Z n0 h0) (pF_a1831_length : Fld Z h0 a1831 zs1 "length" "I" (.int (8 : Int32))) (pF_a1831_first : Fld Z h0 a1831 zs1 "first" "[I" (.ref a1836)) (pL_a1836 : own_Len Z h0 a1836 .int (16 : Int32)) (pV_a1836 : Arv Z h0 a1836 k1846 .int (16 : Int32) [(.int p1837), (.int p1838), (.int p1839), (.int p1840), (.int p1841), (.int p1842), (.int p1843), (.int p1844), (.int p1845)] (.int (0 : Int32))) (pG_a1836 : n0 ≤ a1836) (pN_a1831_a1836 : a1831 ≠ a1836) (pE_a1831 : Exa Z h0 a1831 zs1) (pG_a1831 : n0 ≤ a1831) (pE_a1836 : Exa Z h0 a1836 "[I") (pF_a1831_text : Fld Z h0 a1831 zs1 "text" "[B" (.ref a1832)) :
    MetFree l (⟨zs1, "add", "(I)I"⟩ : MethodName) (head1 (Jvm.Cond.code (⟨zs1, "add", "(I)I"⟩ : MethodName) prog_17_method_2_code 2 (some .int) :: ws) ({ frames := 0, cells := 0, slots := 0, locals := 0 } : Room)) (fun a U => a = #[(.ref a1831), (.int (1 : Int32))] ∧ Z.Warmed39 U.vm ∧ U.heap = h0) (fun _ _ _ _ _ => True) (fun _ U o U' => ∃ v L, o = .returned v ∧ Q34 Z a1831 a1836 k1846 p1837 p1838 p1839 p1840 p1841 p1842 p1843 p1844 p1845 a1832 h0 n0 v U'.heap L ∧ FrameEnd U o U' L ({ frames := 0, cells := 0, slots := 0, locals := 0 } : Room).cells ({ frames := 0, cells := 0, slots := 0, locals := 0 } : Room).slots) := by
  refine MetFree.of_bodySF (plainFor_of_name pn_1) hisR ?_
  intro p e s m args below meth c s₁ Bd hml0 hP hK
  obtain ⟨rfl, hZ, hh⟩ := hP
  have hx := Bd.exec
  have hby := Bd.bytes
  have hml : c.maxLocals = 2 := hml0
  have hown : s.vm.findClass zs1 = some m.cls := findClass_of_methodNamed Bd.named
  have hnm := (name_of_methodNamed Bd.named Bd.method).1
  have X0 : Stand p l e ({ frames := 0, cells := 0, slots := 0, locals := 0 } : Room) s m #[(.ref a1831), (.int (1 : Int32))] below meth c s₁ [] 0 0 := Stand.of_body Bd
  have e0 : s₁.heap = h0 := by rw [← hh, Bd.state]; rfl
  have N0 := Fr.nil n0
  refine own_out ?_
  refine own_via (fun t k => castTop (ef_3 m a1831 (1 : Int32)) (XS.aloadN X0.here hx rfl (hb hby d5_0) rfl rfl k)) ?_
  obtain ⟨T1859, X1859, e1859, st1859⟩ := getF X0 hx hZ hown (host := "") (Or.inl (wd hw 39 rfl)) Via.refl e0 pF_a1831_length (g := (mkF m 1 #[rv a1831, iv (1 : Int32)] [(.ref a1831)])) rfl rfl (hb hby d5_1)
  refine own_via (fun t k => st1859 t (XS.aloadN X1859.here hx rfl (hb hby d5_4) rfl rfl k)) ?_
  obtain ⟨T1860, X1860, e1860, st1860⟩ := getF X1859 hx hZ hown (host := "") (Or.inl (wd hw 26 rfl)) Via.refl e1859 pF_a1831_first (g := (mkF m 5 #[rv a1831, iv (1 : Int32)] [(.ref a1831), (.int (8 : Int32))])) rfl rfl (hb hby d5_5)
  refine own_via (fun t k => st1860 t k) ?_
  obtain ⟨_, _, _, V1861⟩ := id (pL_a1836)
  obtain ⟨cl1861, Ar1861, -, S1861, M1861, -, -⟩ := id (V1861)
  refine own_via (fun t k => X1860.arraylength hx (by rw [e1860]; exact Ar1861.1) (State.isArrayOf_alike hZ.alike Ar1861.2.1) (g := (mkF m 8 #[rv a1831, iv (1 : Int32)] [(.ref a1836), (.int (8 : Int32))])) rfl rfl (hb hby d5_8) t k) ?_
  rw [len_of S1861 M1861]
  show own_Goes p e below (T1860.setTop (mkF m 9 #[rv a1831, iv (1 : Int32)] [(.int (16 : Int32)), (.int (8 : Int32))])) _
  refine own_via (fun t k => XS.icmpNo X1860.here hx rfl (hb hby d5_9) rfl (tlt (by decide : (8 : Int32) < (16 : Int32))).2.1 (XS.aloadN X1860.here hx rfl (hb hby d5_12) rfl rfl k)) ?_
  obtain ⟨T1862, X1862, e1862, st1862⟩ := getF X1860 hx hZ hown (host := "") (Or.inl (wd hw 26 rfl)) Via.refl e1860 pF_a1831_first (g := (mkF m 13 #[rv a1831, iv (1 : Int32)] [(.ref a1831)])) rfl rfl (hb hby d5_13)
  refine own_via (fun t k => st1862 t (XS.aloadN X1862.here hx rfl (hb hby d5_16) rfl rfl k)) ?_
  obtain ⟨T1863, X1863, e1863, st1863⟩ := getF X1862 hx hZ hown (host := "") (Or.inl (wd hw 39 rfl)) Via.refl e1862 pF_a1831_length (g := (mkF m 17 #[rv a1831, iv (1 : Int32)] [(.ref a1831), (.ref a1836)])) rfl rfl (hb hby d5_17)
  refine own_via (fun t k => st1863 t (XS.iloadN X1863.here hx rfl (hb hby d5_20) rfl k)) ?_
  obtain ⟨cl1864, Ar1864, qq1864, S1864, M1864, H1864, G1864⟩ := id (pV_a1836)
  have hin1864 : ¬ ((8 : Int32) < 0 ∨ cl1864.slots.size ≤ ((8 : Int32)).toNatClampNeg) := inb_of S1864 ⟨by decide, by decide⟩
  obtain ⟨T1864, h1864, X1864, e1864, W1864, st1864⟩ := stI X1863 hx hZ e1863 Ar1864 (j := (8 : Int32)) hin1864 (g := (mkF m 21 #[rv a1831, iv (1 : Int32)] [(.int (1 : Int32)), (.int (8 : Int32)), (.ref a1836)])) rfl rfl (hb hby d5_21)
  refine own_via (fun t k => st1864 t k) ?_
  have V1865 : Arv Z h1864 a1836 k1846 .int (16 : Int32) [(.int p1837), (.int p1838), (.int p1839), (.int p1840), (.int p1841), (.int p1842), (.int p1843), (.int p1844), (.int (1 : Int32))] (.int (0 : Int32)) := Arv.set Ar1864 qq1864 S1864 M1864 H1864 G1864 rfl W1864 8 rfl (Nat.le_of_ble_eq_true rfl)
  have N1864 := Fr.snoc X1864 N0 pG_a1836
  show own_Goes p e below (T1864.setTop (mkF m 22 #[rv a1831, iv (1 : Int32)] [])) _
  refine own_via (fun t k => XS.aloadN X1864.here hx rfl (hb hby d5_22) rfl rfl (XS.dup X1864.here hx rfl (hb hby d5_23) rfl rfl k)) ?_
  have F1866 : Fld Z h1864 a1831 zs1 "length" "I" (.int (8 : Int32)) := (pF_a1831_length.other W1864 (Or.inl pN_a1831_a1836))
  obtain ⟨T1867, X1867, e1867, st1867⟩ := getF X1864 hx hZ hown (host := "") (Or.inl (wd hw 39 rfl)) Via.refl e1864 F1866 (g := (mkF m 24 #[rv a1831, iv (1 : Int32)] [(.ref a1831), (.ref a1831)])) rfl rfl (hb hby d5_24)
  refine own_via (fun t k => st1867 t (XS.dupX1 X1867.here hx rfl (hb hby d5_27) rfl rfl rfl (XS.iconst X1867.here hx rfl (hb hby d5_28) (XS.iadd X1867.here hx rfl (hb hby d5_29) rfl k)))) ?_
  show own_Goes p e below (T1867.setTop (mkF m 30 #[rv a1831, iv (1 : Int32)] [(.int (9 : Int32)), (.ref a1831), (.int (8 : Int32))])) _
  have E1868 : Exa Z h1864 a1831 zs1 := (pE_a1831.wr W1864)
  obtain ⟨T1869, h1869, X1869, e1869, W1869, st1869⟩ := putF X1867 hx hZ hown (host := "") (Or.inl (wd hw 39 rfl)) Via.refl e1867 F1866 E1868 (Or.inl (wd hw 40 rfl)) (wd hw 3 rfl) (ty := .int) (by decide) rfl rfl (g := (mkF m 30 #[rv a1831, iv (1 : Int32)] [(.int (9 : Int32)), (.ref a1831), (.int (8 : Int32))])) rfl rfl (hb hby d5_30)
  refine own_via (fun t k => st1869 t k) ?_
  have Fw1869 : Fld Z h1869 a1831 zs1 "length" "I" (.int (9 : Int32)) := F1866.same W1869
  have N1869 := Fr.snoc X1869 N1864 pG_a1831
  show own_Goes p e below (T1869.setTop (mkF m 33 #[rv a1831, iv (1 : Int32)] [(.int (8 : Int32))])) _
  obtain ⟨fs, hr, hrun, hended, hW, hsame⟩ := X1869.leave (v := some (.int (8 : Int32))) (fun h => by rw [Bd.returns] at h; cases h)
  refine own_end (t := T1869.setFrames fs) ?_ ⟨_, hrun, hended, _, _, rfl, ?_, ⟨_, rfl⟩, hW, hsame.mono (by decide) (by decide)⟩
  · exact retI X1869 hx Bd.returns (hb hby d5_33) hr
  have E1870 : Exa Z h1869 a1836 "[I" := ((pE_a1836.wr W1864).wr W1869)
  have V1871 : Arv Z h1869 a1836 k1846 .int (16 : Int32) [(.int p1837), (.int p1838), (.int p1839), (.int p1840), (.int p1841), (.int p1842), (.int p1843), (.int p1844), (.int (1 : Int32))] (.int (0 : Int32)) := (V1865.other W1869 (Ne.symm pN_a1831_a1836))
  have E1872 : Exa Z h1869 a1831 zs1 := (E1868.wr W1869)
  have F1873 : Fld Z h1869 a1831 zs1 "text" "[B" (.ref a1832) := ((pF_a1831_text.other W1864 (Or.inl pN_a1831_a1836)).other W1869 (Or.inr (slot_ne (Or.inr (wd hw 20 rfl)) (Or.inl (wd hw 40 rfl)) (by decide) (t := (.array .byte)) (t' := .int) (by decide) (by decide))))
  have F1874 : Fld Z h1869 a1831 zs1 "first" "[I" (.ref a1836) := ((pF_a1831_first.other W1864 (Or.inl pN_a1831_a1836)).other W1869 (Or.inr (slot_ne (Or.inl (wd hw 27 rfl)) (Or.inl (wd hw 40 rfl)) (by decide) (t := (.array .int)) (t' := .int) (by decide) (by decide))))
  · show Q34 Z a1831 a1836 k1846 p1837 p1838 p1839 p1840 p1841 p1842 p1843 p1844 p1845 a1832 h0 n0 _ T1869.heap _
    rw [e1869]
    exact ⟨rfl, N1869, (((Keep.refl h0 [a1836, a1831]).wr W1864 (Or.inl (List.mem_of_getElem? (i := 0) rfl))).wr W1869 (Or.inl (List.mem_of_getElem? (i := 1) rfl))), E1870, V1871, E1872, F1873, F1874, Fw1869⟩
set_option maxRecDepth 65536 in
set_option maxHeartbeats 40000000 in
theorem sfx8 (l : Launch) (Z : State) (a0 : Array Value) (hw : ∀ d ∈ tables_1, d.before a0 Z = true) (ws : List Jvm.Cond) {p : Program} {e : Env} {s : State} {m : MethodId} {below : List Frame} {meth : Method} {c : Code} {s₁ : State} (p1893 : Int32) (p1894 : Int32) (p1895 : Int32) (p1885 : Int32) (p1886 : Int32) (p1887 : Int32) (p1888 : Int32) (p1889 : Int32) (a1890 : Addr) (p1891 : Int32) (a1892 : Addr) (a1897 : Addr) (k1900 : ClassId) (p1898 : Int32) (p1899 : Int32) (k1896 : ClassId) (Bd : BodyLoose p l x (head1 (Jvm.Cond.code x code maxLocals ret :: ws) room_1) code maxLocals ret e s m #[(.int p1893), (.int p1894), (.int p1895)] below meth c s₁) (hZ : Z.Warmed39 s.vm) (hml : c.maxLocals = 18) {T0 : State} {locs0 : List Loc} (X0 : Stand p l e room_1 s m #[(.int p1893), (.int p1894), (.int p1895)] below meth c T0 locs0 8 120) (h0 : Heap) (e0 : T0.heap = h0) (n0 : Nat) (O0 : Old Z n0 h0) (N0 : Fr n0 locs0) (pF_a1892_text : Fld Z h0 a1892 zs1 "text" "[B" (.ref a1890)) (pF_a1892_first : Fld Z h0 a1892 zs1 "first" "[I" (.ref a1897)) (pV_a1897 : Arv Z h0 a1897 k1900 .int (16 : Int32) [(.int (0 : Int32)), (.int (9 : Int32)), (.int p1898), (.int (1 : Int32)), (.int (8 : Int32)), (.int p1899), (.int (1 : Int32)), (.int (1 : Int32)), (.int (1 : Int32))] (.int (0 : Int32))) (pE_a1892 : Exa Z h0 a1892 zs1) (pV_a1890 : Arv Z h0 a1890 k1896 .byte (2 : Int32) [(.int p1888), (.int p1889)] (.int (0 : Int32))) :
    own_Goes p e below (T0.setTop (mkF m 139 #[iv p1885, iv p1886, iv p1887, iv p1888, iv p1889, rv a1890, iv (2 : Int32), iv (1 : Int32), iv p1891, rv a1892, iv (0 : Int32), iv (3 : Int32), .unset, .unset, .unset, .unset, .unset, .unset] [])) (own_G s below n0) := by
  have hx := Bd.exec
  have hby := Bd.bytes
  have hown : s.vm.findClass zs2 = some m.cls := findClass_of_methodNamed Bd.named
  have hnm := (name_of_methodNamed Bd.named Bd.method).1
  show own_Goes p e below (T0.setTop (mkF m 139 #[iv p1885, iv p1886, iv p1887, iv p1888, iv p1889, rv a1890, iv (2 : Int32), iv (1 : Int32), iv p1891, rv a1892, iv (0 : Int32), iv (3 : Int32), .unset, .unset, .unset, .unset, .unset, .unset] [])) _
  refine own_via (fun t k => XS.bipush X0.here hx rfl (hb hby at_139) (XS.iload X0.here hx rfl (hb hby at_141) rfl (XS.iadd X0.here hx rfl (hb hby at_143) rfl (XS.istore X0.here hx rfl (hb hby at_144) rfl (l' := #[iv p1885, iv p1886, iv p1887, iv p1888, iv p1889, rv a1890, iv (2 : Int32), iv (1 : Int32), iv p1891, rv a1892, iv (0 : Int32), iv (3 : Int32), iv (8 : Int32), .unset, .unset, .unset, .unset, .unset]) rfl (XS.bipush X0.here hx rfl (hb hby at_146) (XS.iload X0.here hx rfl (hb hby at_148) rfl (XS.iadd X0.here hx rfl (hb hby at_150) rfl (XS.iload X0.here hx rfl (hb hby at_151) rfl (XS.iadd X0.here hx rfl (hb hby at_153) rfl (XS.istore X0.here hx rfl (hb hby at_154) rfl (l' := #[iv p1885, iv p1886, iv p1887, iv p1888, iv p1889, rv a1890, iv (2 : Int32), iv (1 : Int32), iv p1891, rv a1892, iv (0 : Int32), iv (3 : Int32), iv (8 : Int32), iv (9 : Int32), .unset, .unset, .unset, .unset]) rfl (XS.iloadN X0.here hx rfl (hb hby at_156) rfl k))))))))))) ?_
  show own_Goes p e below (T0.setTop (mkF m 157 #[iv p1885, iv p1886, iv p1887, iv p1888, iv p1889, rv a1890, iv (2 : Int32), iv (1 : Int32), iv p1891, rv a1892, iv (0 : Int32), iv (3 : Int32), iv (8 : Int32), iv (9 : Int32), .unset, .unset, .unset, .unset] [(.int p1888)])) _
  obtain ⟨_, T1912, _, X1912, hQ1912, st1912⟩ := own_cs X0 hx hZ hown (wd hw 51 rfl) (wd hw 52 rfl) (wd hw 54 rfl) (wd hw 53 rfl) (by decide) (rm17 l Z a0 hw [] p1888 h0 n0 O0 ) e0 (g := (mkF m 157 #[iv p1885, iv p1886, iv p1887, iv p1888, iv p1889, rv a1890, iv (2 : Int32), iv (1 : Int32), iv p1891, rv a1892, iv (0 : Int32), iv (3 : Int32), iv (8 : Int32), iv (9 : Int32), .unset, .unset, .unset, .unset] [(.int p1888)])) rfl (by rw [hml]; rfl) (rest := []) (W := 0) (lenOf pd_6 rfl) rfl (by show 2 * 0 + _ ≤ _; exact Nat.le_of_eq rfl) (hb hby at_157) (by decide) (by decide) (by decide) (by decide)
  rcases hQ1912 with ⟨hd1913, rfl, Nq1912, hh1914⟩ | ⟨hq1915, hq1916, rfl, Nq1912, hh1917⟩
  · have N1912 := Fr.app N0 Nq1912
    refine own_via (fun t k => st1912 t (XS.ifNo X1912.here hx rfl (hb hby at_160) rfl ((if0 _ _).trans (feq (by decide : ¬ ((1 : Int32) = (0 : Int32)))).1) (XS.iload X1912.here hx rfl (hb hby at_163) rfl (XS.goto X1912.here hx rfl (pc0 := 165) (pc' := 169) rfl (hb hby at_165) (by decide) (by decide) (XS.istore X1912.here hx rfl (hb hby at_169) rfl (l' := #[iv p1885, iv p1886, iv p1887, iv p1888, iv p1889, rv a1890, iv (2 : Int32), iv (1 : Int32), iv p1891, rv a1892, iv (0 : Int32), iv (3 : Int32), iv (8 : Int32), iv (9 : Int32), iv (9 : Int32), .unset, .unset, .unset]) rfl (XS.iload X1912.here hx rfl (hb hby at_171) rfl k)))))) ?_
    show own_Goes p e below (T1912.setTop (mkF m 173 #[iv p1885, iv p1886, iv p1887, iv p1888, iv p1889, rv a1890, iv (2 : Int32), iv (1 : Int32), iv p1891, rv a1892, iv (0 : Int32), iv (3 : Int32), iv (8 : Int32), iv (9 : Int32), iv (9 : Int32), .unset, .unset, .unset] [(.int p1889)])) _
    obtain ⟨_, T1918, _, X1918, hQ1918, st1918⟩ := own_cs X1912 hx hZ hown (wd hw 51 rfl) (wd hw 52 rfl) (wd hw 54 rfl) (wd hw 53 rfl) (by decide) (rm17 l Z a0 hw [] p1889 h0 n0 O0 ) hh1914 (g := (mkF m 173 #[iv p1885, iv p1886, iv p1887, iv p1888, iv p1889, rv a1890, iv (2 : Int32), iv (1 : Int32), iv p1891, rv a1892, iv (0 : Int32), iv (3 : Int32), iv (8 : Int32), iv (9 : Int32), iv (9 : Int32), .unset, .unset, .unset] [(.int p1889)])) rfl (by rw [hml]; rfl) (rest := []) (W := 0) (lenOf pd_6 rfl) rfl (by show 2 * 0 + _ ≤ _; exact Nat.le_of_eq rfl) (hb hby at_173) (by decide) (by decide) (by decide) (by decide)
    rcases hQ1918 with ⟨hd1919, rfl, Nq1918, hh1920⟩ | ⟨hq1921, hq1922, rfl, Nq1918, hh1923⟩
    · have N1918 := Fr.app N1912 Nq1918
      refine own_via (fun t k => st1918 t (XS.ifNo X1918.here hx rfl (hb hby at_176) rfl ((if0 _ _).trans (feq (by decide : ¬ ((1 : Int32) = (0 : Int32)))).1) (XS.iload X1918.here hx rfl (hb hby at_179) rfl (XS.goto X1918.here hx rfl (pc0 := 181) (pc' := 185) rfl (hb hby at_181) (by decide) (by decide) (XS.istore X1918.here hx rfl (hb hby at_185) rfl (l' := #[iv p1885, iv p1886, iv p1887, iv p1888, iv p1889, rv a1890, iv (2 : Int32), iv (1 : Int32), iv p1891, rv a1892, iv (0 : Int32), iv (3 : Int32), iv (8 : Int32), iv (9 : Int32), iv (9 : Int32), iv (8 : Int32), .unset, .unset]) rfl (XS.aload X1918.here hx rfl (hb hby at_187) rfl rfl (XS.iload X1918.here hx rfl (hb hby at_189) rfl k))))))) ?_
      show own_Goes p e below (T1918.setTop (mkF m 191 #[iv p1885, iv p1886, iv p1887, iv p1888, iv p1889, rv a1890, iv (2 : Int32), iv (1 : Int32), iv p1891, rv a1892, iv (0 : Int32), iv (3 : Int32), iv (8 : Int32), iv (9 : Int32), iv (9 : Int32), iv (8 : Int32), .unset, .unset] [(.int (0 : Int32)), (.ref a1892)])) _
      obtain ⟨_, T1924, _, X1924, hQ1924, st1924⟩ := own_cv X1918 hx hZ hown (wd hw 55 rfl) (wd hw 56 rfl) (wd hw 58 rfl) (wd hw 57 rfl) (wd hw 59 rfl) (wd hw 4 rfl) (by decide) (rm20 l Z a0 hw [] a1892 a1890 a1897 k1900 (9 : Int32) p1898 (1 : Int32) (8 : Int32) p1899 (1 : Int32) (1 : Int32) (1 : Int32) k1896 p1888 p1889 h0 n0 O0 pF_a1892_text pF_a1892_first pV_a1897 pE_a1892 pV_a1890 hd1913) hh1920 pE_a1892 (g := (mkF m 191 #[iv p1885, iv p1886, iv p1887, iv p1888, iv p1889, rv a1890, iv (2 : Int32), iv (1 : Int32), iv p1891, rv a1892, iv (0 : Int32), iv (3 : Int32), iv (8 : Int32), iv (9 : Int32), iv (9 : Int32), iv (8 : Int32), .unset, .unset] [(.int (0 : Int32)), (.ref a1892)])) rfl (by rw [hml]; rfl) (rest := []) (W := 0) (lenOf pd_3 rfl) rfl (by show 2 * 0 + _ ≤ _; exact Nat.le_of_eq rfl) (hb hby at_191) (by decide) (by decide) (by decide) (by decide)
      obtain ⟨hd1925, rfl, Nq1924, hh1926⟩ := hQ1924
      have N1924 := Fr.app N1918 Nq1924
      refine own_via (fun t k => st1924 t (XS.istore X1924.here hx rfl (hb hby at_194) rfl (l' := #[iv p1885, iv p1886, iv p1887, iv p1888, iv p1889, rv a1890, iv (2 : Int32), iv (1 : Int32), iv p1891, rv a1892, iv (0 : Int32), iv (3 : Int32), iv (8 : Int32), iv (9 : Int32), iv (9 : Int32), iv (8 : Int32), iv (9 : Int32), .unset]) rfl (XS.aload X1924.here hx rfl (hb hby at_196) rfl rfl (XS.iload X1924.here hx rfl (hb hby at_198) rfl k)))) ?_
      show own_Goes p e below (T1924.setTop (mkF m 200 #[iv p1885, iv p1886, iv p1887, iv p1888, iv p1889, rv a1890, iv (2 : Int32), iv (1 : Int32), iv p1891, rv a1892, iv (0 : Int32), iv (3 : Int32), iv (8 : Int32), iv (9 : Int32), iv (9 : Int32), iv (8 : Int32), iv (9 : Int32), .unset] [(.int (3 : Int32)), (.ref a1892)])) _
      obtain ⟨_, T1927, _, X1927, hQ1927, st1927⟩ := own_cv X1924 hx hZ hown (wd hw 55 rfl) (wd hw 56 rfl) (wd hw 58 rfl) (wd hw 57 rfl) (wd hw 59 rfl) (wd hw 4 rfl) (by decide) (rm23 l Z a0 hw [] a1892 a1890 a1897 k1900 (0 : Int32) (9 : Int32) p1898 (8 : Int32) p1899 (1 : Int32) (1 : Int32) (1 : Int32) k1896 p1888 p1889 h0 n0 O0 pF_a1892_text pF_a1892_first pV_a1897 pE_a1892 pV_a1890 hd1919) hh1926 pE_a1892 (g := (mkF m 200 #[iv p1885, iv p1886, iv p1887, iv p1888, iv p1889, rv a1890, iv (2 : Int32), iv (1 : Int32), iv p1891, rv a1892, iv (0 : Int32), iv (3 : Int32), iv (8 : Int32), iv (9 : Int32), iv (9 : Int32), iv (8 : Int32), iv (9 : Int32), .unset] [(.int (3 : Int32)), (.ref a1892)])) rfl (by rw [hml]; rfl) (rest := []) (W := 0) (lenOf pd_3 rfl) rfl (by show 2 * 0 + _ ≤ _; exact Nat.le_of_eq rfl) (hb hby at_200) (by decide) (by decide) (by decide) (by decide)
      obtain ⟨hd1928, rfl, Nq1927, hh1929⟩ := hQ1927
      have N1927 := Fr.app N1924 Nq1927
      refine own_via (fun t k => st1927 t (XS.istore X1927.here hx rfl (hb hby at_203) rfl (l' := #[iv p1885, iv p1886, iv p1887, iv p1888, iv p1889, rv a1890, iv (2 : Int32), iv (1 : Int32), iv p1891, rv a1892, iv (0 : Int32), iv (3 : Int32), iv (8 : Int32), iv (9 : Int32), iv (9 : Int32), iv (8 : Int32), iv (9 : Int32), iv (8 : Int32)]) rfl (XS.iload X1927.here hx rfl (hb hby at_205) rfl (XS.ifNo X1927.here hx rfl (hb hby at_207) rfl ((if0 _ _).trans (teq (by decide : (0 : Int32) = (0 : Int32))).2) (XS.iload X1927.here hx rfl (hb hby at_210) rfl (XS.iconst X1927.here hx rfl (hb hby at_212) (XS.icmpNo X1927.here hx rfl (hb hby at_213) rfl (teq (by decide : (3 : Int32) = (3 : Int32))).2 (XS.iload X1927.here hx rfl (hb hby at_216) rfl (XS.iload X1927.here hx rfl (hb hby at_218) rfl (XS.icmpNo X1927.here hx rfl (hb hby at_220) rfl (teq (by decide : (9 : Int32) = (9 : Int32))).2 (XS.iload X1927.here hx rfl (hb hby at_223) rfl (XS.iload X1927.here hx rfl (hb hby at_225) rfl k)))))))))))) ?_
      show own_Goes p e below (T1927.setTop (mkF m 227 #[iv p1885, iv p1886, iv p1887, iv p1888, iv p1889, rv a1890, iv (2 : Int32), iv (1 : Int32), iv p1891, rv a1892, iv (0 : Int32), iv (3 : Int32), iv (8 : Int32), iv (9 : Int32), iv (9 : Int32), iv (8 : Int32), iv (9 : Int32), iv (8 : Int32)] [(.int (8 : Int32)), (.int (8 : Int32))])) _
      refine own_via (fun t k => XS.icmpNo X1927.here hx rfl (hb hby at_227) rfl (teq (by decide : (8 : Int32) = (8 : Int32))).2 (XS.iconst X1927.here hx rfl (hb hby at_230) (XS.goto X1927.here hx rfl (pc0 := 231) (pc' := 235) rfl (hb hby at_231) (by decide) (by decide) k))) ?_
      show own_Goes p e below (T1927.setTop (mkF m 235 #[iv p1885, iv p1886, iv p1887, iv p1888, iv p1889, rv a1890, iv (2 : Int32), iv (1 : Int32), iv p1891, rv a1892, iv (0 : Int32), iv (3 : Int32), iv (8 : Int32), iv (9 : Int32), iv (9 : Int32), iv (8 : Int32), iv (9 : Int32), iv (8 : Int32)] [(.int (1 : Int32))])) _
      obtain ⟨fs, hr, hrun, hended, hW, hsame⟩ := X1927.leave (v := some (.int (1 : Int32))) (fun h => by rw [Bd.returns] at h; cases h)
      refine own_end (t := T1927.setFrames fs) ?_ ⟨_, hrun, hended, _, _, rfl, ?_, ⟨_, rfl⟩, hW, hsame.mono (by decide) (by decide)⟩
      · exact retN X1927 hx (t := .boolean) Bd.returns (by simp) (hb hby at_235) hr
      · exact ⟨rfl, N1927⟩
    · have N1918 := Fr.app N1912 Nq1918
      refine own_via (fun t k => st1918 t (XS.ifYes X1918.here hx rfl (pc0 := 176) (pc' := 184) rfl (hb hby at_176) rfl ((if0 _ _).trans (teq (by decide : (0 : Int32) = (0 : Int32))).1) (by decide) (by decide) (XS.iconst X1918.here hx rfl (hb hby at_184) (XS.istore X1918.here hx rfl (hb hby at_185) rfl (l' := #[iv p1885, iv p1886, iv p1887, iv p1888, iv p1889, rv a1890, iv (2 : Int32), iv (1 : Int32), iv p1891, rv a1892, iv (0 : Int32), iv (3 : Int32), iv (8 : Int32), iv (9 : Int32), iv (9 : Int32), iv (4 : Int32), .unset, .unset]) rfl (XS.aload X1918.here hx rfl (hb hby at_187) rfl rfl (XS.iload X1918.here hx rfl (hb hby at_189) rfl k)))))) ?_
      show own_Goes p e below (T1918.setTop (mkF m 191 #[iv p1885, iv p1886, iv p1887, iv p1888, iv p1889, rv a1890, iv (2 : Int32), iv (1 : Int32), iv p1891, rv a1892, iv (0 : Int32), iv (3 : Int32), iv (8 : Int32), iv (9 : Int32), iv (9 : Int32), iv (4 : Int32), .unset, .unset] [(.int (0 : Int32)), (.ref a1892)])) _
      obtain ⟨_, T1930, _, X1930, hQ1930, st1930⟩ := own_cv X1918 hx hZ hown (wd hw 55 rfl) (wd hw 56 rfl) (wd hw 58 rfl) (wd hw 57 rfl) (wd hw 59 rfl) (wd hw 4 rfl) (by decide) (rm20 l Z a0 hw [] a1892 a1890 a1897 k1900 (9 : Int32) p1898 (1 : Int32) (8 : Int32) p1899 (1 : Int32) (1 : Int32) (1 : Int32) k1896 p1888 p1889 h0 n0 O0 pF_a1892_text pF_a1892_first pV_a1897 pE_a1892 pV_a1890 hd1913) hh1923 pE_a1892 (g := (mkF m 191 #[iv p1885, iv p1886, iv p1887, iv p1888, iv p1889, rv a1890, iv (2 : Int32), iv (1 : Int32), iv p1891, rv a1892, iv (0 : Int32), iv (3 : Int32), iv (8 : Int32), iv (9 : Int32), iv (9 : Int32), iv (4 : Int32), .unset, .unset] [(.int (0 : Int32)), (.ref a1892)])) rfl (by rw [hml]; rfl) (rest := []) (W := 0) (lenOf pd_3 rfl) rfl (by show 2 * 0 + _ ≤ _; exact Nat.le_of_eq rfl) (hb hby at_191) (by decide) (by decide) (by decide) (by decide)
      obtain ⟨hd1931, rfl, Nq1930, hh1932⟩ := hQ1930
      have N1930 := Fr.app N1918 Nq1930
      refine own_via (fun t k => st1930 t (XS.istore X1930.here hx rfl (hb hby at_194) rfl (l' := #[iv p1885, iv p1886, iv p1887, iv p1888, iv p1889, rv a1890, iv (2 : Int32), iv (1 : Int32), iv p1891, rv a1892, iv (0 : Int32), iv (3 : Int32), iv (8 : Int32), iv (9 : Int32), iv (9 : Int32), iv (4 : Int32), iv (9 : Int32), .unset]) rfl (XS.aload X1930.here hx rfl (hb hby at_196) rfl rfl (XS.iload X1930.here hx rfl (hb hby at_198) rfl k)))) ?_
      show own_Goes p e below (T1930.setTop (mkF m 200 #[iv p1885, iv p1886, iv p1887, iv p1888, iv p1889, rv a1890, iv (2 : Int32), iv (1 : Int32), iv p1891, rv a1892, iv (0 : Int32), iv (3 : Int32), iv (8 : Int32), iv (9 : Int32), iv (9 : Int32), iv (4 : Int32), iv (9 : Int32), .unset] [(.int (3 : Int32)), (.ref a1892)])) _
      obtain ⟨_, T1933, _, X1933, hQ1933, st1933⟩ := own_cv X1930 hx hZ hown (wd hw 55 rfl) (wd hw 56 rfl) (wd hw 58 rfl) (wd hw 57 rfl) (wd hw 59 rfl) (wd hw 4 rfl) (by decide) (rm24 l Z a0 hw [] a1892 a1890 a1897 k1900 (0 : Int32) (9 : Int32) p1898 (8 : Int32) p1899 (1 : Int32) (1 : Int32) (1 : Int32) k1896 p1888 p1889 h0 n0 O0 pF_a1892_text pF_a1892_first pV_a1897 pE_a1892 pV_a1890 hq1921 hq1922) hh1932 pE_a1892 (g := (mkF m 200 #[iv p1885, iv p1886, iv p1887, iv p1888, iv p1889, rv a1890, iv (2 : Int32), iv (1 : Int32), iv p1891, rv a1892, iv (0 : Int32), iv (3 : Int32), iv (8 : Int32), iv (9 : Int32), iv (9 : Int32), iv (4 : Int32), iv (9 : Int32), .unset] [(.int (3 : Int32)), (.ref a1892)])) rfl (by rw [hml]; rfl) (rest := []) (W := 0) (lenOf pd_3 rfl) rfl (by show 2 * 0 + _ ≤ _; exact Nat.le_of_eq rfl) (hb hby at_200) (by decide) (by decide) (by decide) (by decide)
      obtain ⟨rfl, Nq1933, hh1934⟩ := hQ1933
      have N1933 := Fr.app N1930 Nq1933
      refine own_via (fun t k => st1933 t (XS.istore X1933.here hx rfl (hb hby at_203) rfl (l' := #[iv p1885, iv p1886, iv p1887, iv p1888, iv p1889, rv a1890, iv (2 : Int32), iv (1 : Int32), iv p1891, rv a1892, iv (0 : Int32), iv (3 : Int32), iv (8 : Int32), iv (9 : Int32), iv (9 : Int32), iv (4 : Int32), iv (9 : Int32), iv (4 : Int32)]) rfl (XS.iload X1933.here hx rfl (hb hby at_205) rfl (XS.ifNo X1933.here hx rfl (hb hby at_207) rfl ((if0 _ _).trans (teq (by decide : (0 : Int32) = (0 : Int32))).2) (XS.iload X1933.here hx rfl (hb hby at_210) rfl (XS.iconst X1933.here hx rfl (hb hby at_212) (XS.icmpNo X1933.here hx rfl (hb hby at_213) rfl (teq (by decide : (3 : Int32) = (3 : Int32))).2 (XS.iload X1933.here hx rfl (hb hby at_216) rfl (XS.iload X1933.here hx rfl (hb hby at_218) rfl (XS.icmpNo X1933.here hx rfl (hb hby at_220) rfl (teq (by decide : (9 : Int32) = (9 : Int32))).2 (XS.iload X1933.here hx rfl (hb hby at_223) rfl (XS.iload X1933.here hx rfl (hb hby at_225) rfl k)))))))))))) ?_
      show own_Goes p e below (T1933.setTop (mkF m 227 #[iv p1885, iv p1886, iv p1887, iv p1888, iv p1889, rv a1890, iv (2 : Int32), iv (1 : Int32), iv p1891, rv a1892, iv (0 : Int32), iv (3 : Int32), iv (8 : Int32), iv (9 : Int32), iv (9 : Int32), iv (4 : Int32), iv (9 : Int32), iv (4 : Int32)] [(.int (4 : Int32)), (.int (4 : Int32))])) _
      refine own_via (fun t k => XS.icmpNo X1933.here hx rfl (hb hby at_227) rfl (teq (by decide : (4 : Int32) = (4 : Int32))).2 (XS.iconst X1933.here hx rfl (hb hby at_230) (XS.goto X1933.here hx rfl (pc0 := 231) (pc' := 235) rfl (hb hby at_231) (by decide) (by decide) k))) ?_
      show own_Goes p e below (T1933.setTop (mkF m 235 #[iv p1885, iv p1886, iv p1887, iv p1888, iv p1889, rv a1890, iv (2 : Int32), iv (1 : Int32), iv p1891, rv a1892, iv (0 : Int32), iv (3 : Int32), iv (8 : Int32), iv (9 : Int32), iv (9 : Int32), iv (4 : Int32), iv (9 : Int32), iv (4 : Int32)] [(.int (1 : Int32))])) _
      obtain ⟨fs, hr, hrun, hended, hW, hsame⟩ := X1933.leave (v := some (.int (1 : Int32))) (fun h => by rw [Bd.returns] at h; cases h)
      refine own_end (t := T1933.setFrames fs) ?_ ⟨_, hrun, hended, _, _, rfl, ?_, ⟨_, rfl⟩, hW, hsame.mono (by decide) (by decide)⟩
      · exact retN X1933 hx (t := .boolean) Bd.returns (by simp) (hb hby at_235) hr
      · exact ⟨rfl, N1933⟩
  · have N1912 := Fr.app N0 Nq1912
    refine own_via (fun t k => st1912 t (XS.ifYes X1912.here hx rfl (pc0 := 160) (pc' := 168) rfl (hb hby at_160) rfl ((if0 _ _).trans (teq (by decide : (0 : Int32) = (0 : Int32))).1) (by decide) (by decide) (XS.iconst X1912.here hx rfl (hb hby at_168) (XS.istore X1912.here hx rfl (hb hby at_169) rfl (l' := #[iv p1885, iv p1886, iv p1887, iv p1888, iv p1889, rv a1890, iv (2 : Int32), iv (1 : Int32), iv p1891, rv a1892, iv (0 : Int32), iv (3 : Int32), iv (8 : Int32), iv (9 : Int32), iv (1 : Int32), .unset, .unset, .unset]) rfl (XS.iload X1912.here hx rfl (hb hby at_171) rfl k))))) ?_
    show own_Goes p e below (T1912.setTop (mkF m 173 #[iv p1885, iv p1886, iv p1887, iv p1888, iv p1889, rv a1890, iv (2 : Int32), iv (1 : Int32), iv p1891, rv a1892, iv (0 : Int32), iv (3 : Int32), iv (8 : Int32), iv (9 : Int32), iv (1 : Int32), .unset, .unset, .unset] [(.int p1889)])) _
    obtain ⟨_, T1935, _, X1935, hQ1935, st1935⟩ := own_cs X1912 hx hZ hown (wd hw 51 rfl) (wd hw 52 rfl) (wd hw 54 rfl) (wd hw 53 rfl) (by decide) (rm17 l Z a0 hw [] p1889 h0 n0 O0 ) hh1917 (g := (mkF m 173 #[iv p1885, iv p1886, iv p1887, iv p1888, iv p1889, rv a1890, iv (2 : Int32), iv (1 : Int32), iv p1891, rv a1892, iv (0 : Int32), iv (3 : Int32), iv (8 : Int32), iv (9 : Int32), iv (1 : Int32), .unset, .unset, .unset] [(.int p1889)])) rfl (by rw [hml]; rfl) (rest := []) (W := 0) (lenOf pd_6 rfl) rfl (by show 2 * 0 + _ ≤ _; exact Nat.le_of_eq rfl) (hb hby at_173) (by decide) (by decide) (by decide) (by decide)
    rcases hQ1935 with ⟨hd1936, rfl, Nq1935, hh1937⟩ | ⟨hq1938, hq1939, rfl, Nq1935, hh1940⟩
    · have N1935 := Fr.app N1912 Nq1935
      refine own_via (fun t k => st1935 t (XS.ifNo X1935.here hx rfl (hb hby at_176) rfl ((if0 _ _).trans (feq (by decide : ¬ ((1 : Int32) = (0 : Int32)))).1) (XS.iload X1935.here hx rfl (hb hby at_179) rfl (XS.goto X1935.here hx rfl (pc0 := 181) (pc' := 185) rfl (hb hby at_181) (by decide) (by decide) (XS.istore X1935.here hx rfl (hb hby at_185) rfl (l' := #[iv p1885, iv p1886, iv p1887, iv p1888, iv p1889, rv a1890, iv (2 : Int32), iv (1 : Int32), iv p1891, rv a1892, iv (0 : Int32), iv (3 : Int32), iv (8 : Int32), iv (9 : Int32), iv (1 : Int32), iv (8 : Int32), .unset, .unset]) rfl (XS.aload X1935.here hx rfl (hb hby at_187) rfl rfl (XS.iload X1935.here hx rfl (hb hby at_189) rfl k))))))) ?_
      show own_Goes p e below (T1935.setTop (mkF m 191 #[iv p1885, iv p1886, iv p1887, iv p1888, iv p1889, rv a1890, iv (2 : Int32), iv (1 : Int32), iv p1891, rv a1892, iv (0 : Int32), iv (3 : Int32), iv (8 : Int32), iv (9 : Int32), iv (1 : Int32), iv (8 : Int32), .unset, .unset] [(.int (0 : Int32)), (.ref a1892)])) _
      obtain ⟨_, T1941, _, X1941, hQ1941, st1941⟩ := own_cv X1935 hx hZ hown (wd hw 55 rfl) (wd hw 56 rfl) (wd hw 58 rfl) (wd hw 57 rfl) (wd hw 59 rfl) (wd hw 4 rfl) (by decide) (rm25 l Z a0 hw [] a1892 a1890 a1897 k1900 (9 : Int32) p1898 (1 : Int32) (8 : Int32) p1899 (1 : Int32) (1 : Int32) (1 : Int32) k1896 p1888 p1889 h0 n0 O0 pF_a1892_text pF_a1892_first pV_a1897 pE_a1892 pV_a1890 hq1915 hq1916) hh1937 pE_a1892 (g := (mkF m 191 #[iv p1885, iv p1886, iv p1887, iv p1888, iv p1889, rv a1890, iv (2 : Int32), iv (1 : Int32), iv p1891, rv a1892, iv (0 : Int32), iv (3 : Int32), iv (8 : Int32), iv (9 : Int32), iv (1 : Int32), iv (8 : Int32), .unset, .unset] [(.int (0 : Int32)), (.ref a1892)])) rfl (by rw [hml]; rfl) (rest := []) (W := 0) (lenOf pd_3 rfl) rfl (by show 2 * 0 + _ ≤ _; exact Nat.le_of_eq rfl) (hb hby at_191) (by decide) (by decide) (by decide) (by decide)
      obtain ⟨rfl, Nq1941, hh1942⟩ := hQ1941
      have N1941 := Fr.app N1935 Nq1941
      refine own_via (fun t k => st1941 t (XS.istore X1941.here hx rfl (hb hby at_194) rfl (l' := #[iv p1885, iv p1886, iv p1887, iv p1888, iv p1889, rv a1890, iv (2 : Int32), iv (1 : Int32), iv p1891, rv a1892, iv (0 : Int32), iv (3 : Int32), iv (8 : Int32), iv (9 : Int32), iv (1 : Int32), iv (8 : Int32), iv (1 : Int32), .unset]) rfl (XS.aload X1941.here hx rfl (hb hby at_196) rfl rfl (XS.iload X1941.here hx rfl (hb hby at_198) rfl k)))) ?_
      show own_Goes p e below (T1941.setTop (mkF m 200 #[iv p1885, iv p1886, iv p1887, iv p1888, iv p1889, rv a1890, iv (2 : Int32), iv (1 : Int32), iv p1891, rv a1892, iv (0 : Int32), iv (3 : Int32), iv (8 : Int32), iv (9 : Int32), iv (1 : Int32), iv (8 : Int32), iv (1 : Int32), .unset] [(.int (3 : Int32)), (.ref a1892)])) _
      obtain ⟨_, T1943, _, X1943, hQ1943, st1943⟩ := own_cv X1941 hx hZ hown (wd hw 55 rfl) (wd hw 56 rfl) (wd hw 58 rfl) (wd hw 57 rfl) (wd hw 59 rfl) (wd hw 4 rfl) (by decide) (rm23 l Z a0 hw [] a1892 a1890 a1897 k1900 (0 : Int32) (9 : Int32) p1898 (8 : Int32) p1899 (1 : Int32) (1 : Int32) (1 : Int32) k1896 p1888 p1889 h0 n0 O0 pF_a1892_text pF_a1892_first pV_a1897 pE_a1892 pV_a1890 hd1936) hh1942 pE_a1892 (g := (mkF m 200 #[iv p1885, iv p1886, iv p1887, iv p1888, iv p1889, rv a1890, iv (2 : Int32), iv (1 : Int32), iv p1891, rv a1892, iv (0 : Int32), iv (3 : Int32), iv (8 : Int32), iv (9 : Int32), iv (1 : Int32), iv (8 : Int32), iv (1 : Int32), .unset] [(.int (3 : Int32)), (.ref a1892)])) rfl (by rw [hml]; rfl) (rest := []) (W := 0) (lenOf pd_3 rfl) rfl (by show 2 * 0 + _ ≤ _; exact Nat.le_of_eq rfl) (hb hby at_200) (by decide) (by decide) (by decide) (by decide)
      obtain ⟨hd1944, rfl, Nq1943, hh1945⟩ := hQ1943
      have N1943 := Fr.app N1941 Nq1943
      refine own_via (fun t k => st1943 t (XS.istore X1943.here hx rfl (hb hby at_203) rfl (l' := #[iv p1885, iv p1886, iv p1887, iv p1888, iv p1889, rv a1890, iv (2 : Int32), iv (1 : Int32), iv p1891, rv a1892, iv (0 : Int32), iv (3 : Int32), iv (8 : Int32), iv (9 : Int32), iv (1 : Int32), iv (8 : Int32), iv (1 : Int32), iv (8 : Int32)]) rfl (XS.iload X1943.here hx rfl (hb hby at_205) rfl (XS.ifNo X1943.here hx rfl (hb hby at_207) rfl ((if0 _ _).trans (teq (by decide : (0 : Int32) = (0 : Int32))).2) (XS.iload X1943.here hx rfl (hb hby at_210) rfl (XS.iconst X1943.here hx rfl (hb hby at_212) (XS.icmpNo X1943.here hx rfl (hb hby at_213) rfl (teq (by decide : (3 : Int32) = (3 : Int32))).2 (XS.iload X1943.here hx rfl (hb hby at_216) rfl (XS.iload X1943.here hx rfl (hb hby at_218) rfl (XS.icmpNo X1943.here hx rfl (hb hby at_220) rfl (teq (by decide : (1 : Int32) = (1 : Int32))).2 (XS.iload X1943.here hx rfl (hb hby at_223) rfl (XS.iload X1943.here hx rfl (hb hby at_225) rfl k)))))))))))) ?_
      show own_Goes p e below (T1943.setTop (mkF m 227 #[iv p1885, iv p1886, iv p1887, iv p1888, iv p1889, rv a1890, iv (2 : Int32), iv (1 : Int32), iv p1891, rv a1892, iv (0 : Int32), iv (3 : Int32), iv (8 : Int32), iv (9 : Int32), iv (1 : Int32), iv (8 : Int32), iv (1 : Int32), iv (8 : Int32)] [(.int (8 : Int32)), (.int (8 : Int32))])) _
      refine own_via (fun t k => XS.icmpNo X1943.here hx rfl (hb hby at_227) rfl (teq (by decide : (8 : Int32) = (8 : Int32))).2 (XS.iconst X1943.here hx rfl (hb hby at_230) (XS.goto X1943.here hx rfl (pc0 := 231) (pc' := 235) rfl (hb hby at_231) (by decide) (by decide) k))) ?_
      show own_Goes p e below (T1943.setTop (mkF m 235 #[iv p1885, iv p1886, iv p1887, iv p1888, iv p1889, rv a1890, iv (2 : Int32), iv (1 : Int32), iv p1891, rv a1892, iv (0 : Int32), iv (3 : Int32), iv (8 : Int32), iv (9 : Int32), iv (1 : Int32), iv (8 : Int32), iv (1 : Int32), iv (8 : Int32)] [(.int (1 : Int32))])) _
      obtain ⟨fs, hr, hrun, hended, hW, hsame⟩ := X1943.leave (v := some (.int (1 : Int32))) (fun h => by rw [Bd.returns] at h; cases h)
      refine own_end (t := T1943.setFrames fs) ?_ ⟨_, hrun, hended, _, _, rfl, ?_, ⟨_, rfl⟩, hW, hsame.mono (by decide) (by decide)⟩
      · exact retN X1943 hx (t := .boolean) Bd.returns (by simp) (hb hby at_235) hr
      · exact ⟨rfl, N1943⟩
    · have N1935 := Fr.app N1912 Nq1935
      refine own_via (fun t k => st1935 t (XS.ifYes X1935.here hx rfl (pc0 := 176) (pc' := 184) rfl (hb hby at_176) rfl ((if0 _ _).trans (teq (by decide : (0 : Int32) = (0 : Int32))).1) (by decide) (by decide) (XS.iconst X1935.here hx rfl (hb hby at_184) (XS.istore X1935.here hx rfl (hb hby at_185) rfl (l' := #[iv p1885, iv p1886, iv p1887, iv p1888, iv p1889, rv a1890, iv (2 : Int32), iv (1 : Int32), iv p1891, rv a1892, iv (0 : Int32), iv (3 : Int32), iv (8 : Int32), iv (9 : Int32), iv (1 : Int32), iv (4 : Int32), .unset, .unset]) rfl (XS.aload X1935.here hx rfl (hb hby at_187) rfl rfl (XS.iload X1935.here hx rfl (hb hby at_189) rfl k)))))) ?_
      show own_Goes p e below (T1935.setTop (mkF m 191 #[iv p1885, iv p1886, iv p1887, iv p1888, iv p1889, rv a1890, iv (2 : Int32), iv (1 : Int32), iv p1891, rv a1892, iv (0 : Int32), iv (3 : Int32), iv (8 : Int32), iv (9 : Int32), iv (1 : Int32), iv (4 : Int32), .unset, .unset] [(.int (0 : Int32)), (.ref a1892)])) _
      obtain ⟨_, T1946, _, X1946, hQ1946, st1946⟩ := own_cv X1935 hx hZ hown (wd hw 55 rfl) (wd hw 56 rfl) (wd hw 58 rfl) (wd hw 57 rfl) (wd hw 59 rfl) (wd hw 4 rfl) (by decide) (rm25 l Z a0 hw [] a1892 a1890 a1897 k1900 (9 : Int32) p1898 (1 : Int32) (8 : Int32) p1899 (1 : Int32) (1 : Int32) (1 : Int32) k1896 p1888 p1889 h0 n0 O0 pF_a1892_text pF_a1892_first pV_a1897 pE_a1892 pV_a1890 hq1915 hq1916) hh1940 pE_a1892 (g := (mkF m 191 #[iv p1885, iv p1886, iv p1887, iv p1888, iv p1889, rv a1890, iv (2 : Int32), iv (1 : Int32), iv p1891, rv a1892, iv (0 : Int32), iv (3 : Int32), iv (8 : Int32), iv (9 : Int32), iv (1 : Int32), iv (4 : Int32), .unset, .unset] [(.int (0 : Int32)), (.ref a1892)])) rfl (by rw [hml]; rfl) (rest := []) (W := 0) (lenOf pd_3 rfl) rfl (by show 2 * 0 + _ ≤ _; exact Nat.le_of_eq rfl) (hb hby at_191) (by decide) (by decide) (by decide) (by decide)
      obtain ⟨rfl, Nq1946, hh1947⟩ := hQ1946
      have N1946 := Fr.app N1935 Nq1946
      refine own_via (fun t k => st1946 t (XS.istore X1946.here hx rfl (hb hby at_194) rfl (l' := #[iv p1885, iv p1886, iv p1887, iv p1888, iv p1889, rv a1890, iv (2 : Int32), iv (1 : Int32), iv p1891, rv a1892, iv (0 : Int32), iv (3 : Int32), iv (8 : Int32), iv (9 : Int32), iv (1 : Int32), iv (4 : Int32), iv (1 : Int32), .unset]) rfl (XS.aload X1946.here hx rfl (hb hby at_196) rfl rfl (XS.iload X1946.here hx rfl (hb hby at_198) rfl k)))) ?_
      show own_Goes p e below (T1946.setTop (mkF m 200 #[iv p1885, iv p1886, iv p1887, iv p1888, iv p1889, rv a1890, iv (2 : Int32), iv (1 : Int32), iv p1891, rv a1892, iv (0 : Int32), iv (3 : Int32), iv (8 : Int32), iv (9 : Int32), iv (1 : Int32), iv (4 : Int32), iv (1 : Int32), .unset] [(.int (3 : Int32)), (.ref a1892)])) _
      obtain ⟨_, T1948, _, X1948, hQ1948, st1948⟩ := own_cv X1946 hx hZ hown (wd hw 55 rfl) (wd hw 56 rfl) (wd hw 58 rfl) (wd hw 57 rfl) (wd hw 59 rfl) (wd hw 4 rfl) (by decide) (rm24 l Z a0 hw [] a1892 a1890 a1897 k1900 (0 : Int32) (9 : Int32) p1898 (8 : Int32) p1899 (1 : Int32) (1 : Int32) (1 : Int32) k1896 p1888 p1889 h0 n0 O0 pF_a1892_text pF_a1892_first pV_a1897 pE_a1892 pV_a1890 hq1938 hq1939) hh1947 pE_a1892 (g := (mkF m 200 #[iv p1885, iv p1886, iv p1887, iv p1888, iv p1889, rv a1890, iv (2 : Int32), iv (1 : Int32), iv p1891, rv a1892, iv (0 : Int32), iv (3 : Int32), iv (8 : Int32), iv (9 : Int32), iv (1 : Int32), iv (4 : Int32), iv (1 : Int32), .unset] [(.int (3 : Int32)), (.ref a1892)])) rfl (by rw [hml]; rfl) (rest := []) (W := 0) (lenOf pd_3 rfl) rfl (by show 2 * 0 + _ ≤ _; exact Nat.le_of_eq rfl) (hb hby at_200) (by decide) (by decide) (by decide) (by decide)
      obtain ⟨rfl, Nq1948, hh1949⟩ := hQ1948
      have N1948 := Fr.app N1946 Nq1948
      refine own_via (fun t k => st1948 t (XS.istore X1948.here hx rfl (hb hby at_203) rfl (l' := #[iv p1885, iv p1886, iv p1887, iv p1888, iv p1889, rv a1890, iv (2 : Int32), iv (1 : Int32), iv p1891, rv a1892, iv (0 : Int32), iv (3 : Int32), iv (8 : Int32), iv (9 : Int32), iv (1 : Int32), iv (4 : Int32), iv (1 : Int32), iv (4 : Int32)]) rfl (XS.iload X1948.here hx rfl (hb hby at_205) rfl (XS.ifNo X1948.here hx rfl (hb hby at_207) rfl ((if0 _ _).trans (teq (by decide : (0 : Int32) = (0 : Int32))).2) (XS.iload X1948.here hx rfl (hb hby at_210) rfl (XS.iconst X1948.here hx rfl (hb hby at_212) (XS.icmpNo X1948.here hx rfl (hb hby at_213) rfl (teq (by decide : (3 : Int32) = (3 : Int32))).2 (XS.iload X1948.here hx rfl (hb hby at_216) rfl (XS.iload X1948.here hx rfl (hb hby at_218) rfl (XS.icmpNo X1948.here hx rfl (hb hby at_220) rfl (teq (by decide : (1 : Int32) = (1 : Int32))).2 (XS.iload X1948.here hx rfl (hb hby at_223) rfl (XS.iload X1948.here hx rfl (hb hby at_225) rfl k)))))))))))) ?_
      show own_Goes p e below (T1948.setTop (mkF m 227 #[iv p1885, iv p1886, iv p1887, iv p1888, iv p1889, rv a1890, iv (2 : Int32), iv (1 : Int32), iv p1891, rv a1892, iv (0 : Int32), iv (3 : Int32), iv (8 : Int32), iv (9 : Int32), iv (1 : Int32), iv (4 : Int32), iv (1 : Int32), iv (4 : Int32)] [(.int (4 : Int32)), (.int (4 : Int32))])) _
      refine own_via (fun t k => XS.icmpNo X1948.here hx rfl (hb hby at_227) rfl (teq (by decide : (4 : Int32) = (4 : Int32))).2 (XS.iconst X1948.here hx rfl (hb hby at_230) (XS.goto X1948.here hx rfl (pc0 := 231) (pc' := 235) rfl (hb hby at_231) (by decide) (by decide) k))) ?_
      show own_Goes p e below (T1948.setTop (mkF m 235 #[iv p1885, iv p1886, iv p1887, iv p1888, iv p1889, rv a1890, iv (2 : Int32), iv (1 : Int32), iv p1891, rv a1892, iv (0 : Int32), iv (3 : Int32), iv (8 : Int32), iv (9 : Int32), iv (1 : Int32), iv (4 : Int32), iv (1 : Int32), iv (4 : Int32)] [(.int (1 : Int32))])) _
      obtain ⟨fs, hr, hrun, hended, hW, hsame⟩ := X1948.leave (v := some (.int (1 : Int32))) (fun h => by rw [Bd.returns] at h; cases h)
      refine own_end (t := T1948.setFrames fs) ?_ ⟨_, hrun, hended, _, _, rfl, ?_, ⟨_, rfl⟩, hW, hsame.mono (by decide) (by decide)⟩
      · exact retN X1948 hx (t := .boolean) Bd.returns (by simp) (hb hby at_235) hr
      · exact ⟨rfl, N1948⟩
set_option maxRecDepth 65536 in
set_option maxHeartbeats 40000000 in
theorem sfx9 (l : Launch) (Z : State) (a0 : Array Value) (hw : ∀ d ∈ tables_1, d.before a0 Z = true) (ws : List Jvm.Cond) {p : Program} {e : Env} {s : State} {m : MethodId} {below : List Frame} {meth : Method} {c : Code} {s₁ : State} (p1738 : Int32) (p1739 : Int32) (p1740 : Int32) (p1732 : Int32) (p1733 : Int32) (p1734 : Int32) (p1729 : Int32) (p1730 : Int32) (a1735 : Addr) (p1731 : Int32) (p1736 : Int32) (a1737 : Addr) (a1742 : Addr) (k1745 : ClassId) (p1743 : Int32) (p1744 : Int32) (k1741 : ClassId) (Bd : BodyLoose p l x (head1 (Jvm.Cond.code x code maxLocals ret :: ws) room_1) code maxLocals ret e s m #[(.int p1738), (.int p1739), (.int p1740)] below meth c s₁) (hZ : Z.Warmed39 s.vm) (hml : c.maxLocals = 18) {T0 : State} {locs0 : List Loc} (X0 : Stand p l e room_1 s m #[(.int p1738), (.int p1739), (.int p1740)] below meth c T0 locs0 8 120) (h0 : Heap) (e0 : T0.heap = h0) (n0 : Nat) (O0 : Old Z n0 h0) (N0 : Fr n0 locs0) (pC1749 : ¬ (p1731 < (0 : Int32))) (pC1750 : p1731 < (2 : Int32)) (pF_a1737_length : Fld Z h0 a1737 zs1 "length" "I" (.int (8 : Int32))) (pF_a1737_first : Fld Z h0 a1737 zs1 "first" "[I" (.ref a1742)) (pV_a1742 : Arv Z h0 a1742 k1745 .int (16 : Int32) [(.int (0 : Int32)), (.int (0 : Int32)), (.int p1743), (.int (1 : Int32)), (.int (8 : Int32)), (.int p1744), (.int (1 : Int32)), (.int (1 : Int32)), (.int (0 : Int32))] (.int (0 : Int32))) (pG_a1742 : n0 ≤ a1742) (pE_a1742 : Exa Z h0 a1742 "[I") (pE_a1737 : Exa Z h0 a1737 zs1) (pN_a1737_a1742 : a1737 ≠ a1742) (pF_a1737_text : Fld Z h0 a1737 zs1 "text" "[B" (.ref a1735)) (pV_a1735 : Arv Z h0 a1735 k1741 .byte (2 : Int32) [(.int p1729), (.int p1730)] (.int (0 : Int32))) (pN_a1735_a1742 : a1735 ≠ a1742) (pL_a1742 : own_Len Z h0 a1742 .int (16 : Int32)) (pG_a1737 : n0 ≤ a1737) (pN_a1735_a1737 : a1735 ≠ a1737) :
    own_Goes p e below (T0.setTop (mkF m 115 #[iv p1732, iv p1733, iv p1734, iv p1729, iv p1730, rv a1735, iv (2 : Int32), iv p1731, iv p1736, rv a1737, iv (0 : Int32), iv (3 : Int32), .unset, .unset, .unset, .unset, .unset, .unset] [])) (own_G s below n0) := by
  have hx := Bd.exec
  have hby := Bd.bytes
  have hown : s.vm.findClass zs2 = some m.cls := findClass_of_methodNamed Bd.named
  have hnm := (name_of_methodNamed Bd.named Bd.method).1
  show own_Goes p e below (T0.setTop (mkF m 115 #[iv p1732, iv p1733, iv p1734, iv p1729, iv p1730, rv a1735, iv (2 : Int32), iv p1731, iv p1736, rv a1737, iv (0 : Int32), iv (3 : Int32), .unset, .unset, .unset, .unset, .unset, .unset] [])) _
  rcases own_cases_2 _ (own_ge0 pC1749) (own_lti pC1750 (by decide)) with qs | qs
  · have qs1755 := qs
    rw [qs]
    show own_Goes p e below (T0.setTop (mkF m 115 #[iv p1732, iv p1733, iv p1734, iv p1729, iv p1730, rv a1735, iv (2 : Int32), iv (0 : Int32), iv p1736, rv a1737, iv (0 : Int32), iv (3 : Int32), .unset, .unset, .unset, .unset, .unset, .unset] [])) _
    refine own_via (fun t k => XS.iload X0.here hx rfl (hb hby at_115) rfl (XS.ifYes X0.here hx rfl (pc0 := 117) (pc' := 127) rfl (hb hby at_117) rfl ((if0 _ _).trans (flt (by decide : ¬ ((0 : Int32) < (0 : Int32)))).2.2.2) (by decide) (by decide) (XS.aload X0.here hx rfl (hb hby at_127) rfl rfl (XS.iload X0.here hx rfl (hb hby at_129) rfl (XS.iconst X0.here hx rfl (hb hby at_131) (XS.iload X0.here hx rfl (hb hby at_132) rfl (XS.iadd X0.here hx rfl (hb hby at_134) rfl (XS.iconst X0.here hx rfl (hb hby at_135) k)))))))) ?_
    show own_Goes p e below (T0.setTop (mkF m 136 #[iv p1732, iv p1733, iv p1734, iv p1729, iv p1730, rv a1735, iv (2 : Int32), iv (0 : Int32), iv p1736, rv a1737, iv (0 : Int32), iv (3 : Int32), .unset, .unset, .unset, .unset, .unset, .unset] [(.int (0 : Int32)), (.int (1 : Int32)), (.int (0 : Int32)), (.ref a1737)])) _
    obtain ⟨_, T1756, _, X1756, hQ1756, st1756⟩ := own_cv X0 hx hZ hown (wd hw 42 rfl) (wd hw 43 rfl) (wd hw 45 rfl) (wd hw 44 rfl) (wd hw 46 rfl) (wd hw 4 rfl) (by decide) (rm16 l Z a0 hw [] a1737 (8 : Int32) a1742 k1745 (0 : Int32) (0 : Int32) p1743 (1 : Int32) (8 : Int32) p1744 (1 : Int32) (1 : Int32) (0 : Int32) h0 n0 O0 pF_a1737_length pF_a1737_first pV_a1742 pG_a1742 pE_a1742 pE_a1737 pN_a1737_a1742) e0 pE_a1737 (g := (mkF m 136 #[iv p1732, iv p1733, iv p1734, iv p1729, iv p1730, rv a1735, iv (2 : Int32), iv (0 : Int32), iv p1736, rv a1737, iv (0 : Int32), iv (3 : Int32), .unset, .unset, .unset, .unset, .unset, .unset] [(.int (0 : Int32)), (.int (1 : Int32)), (.int (0 : Int32)), (.ref a1737)])) rfl (by rw [hml]; rfl) (rest := []) (W := 0) (lenOf pd_5 rfl) rfl (by show 2 * 0 + _ ≤ _; exact Nat.le_of_eq rfl) (hb hby at_136) (by decide) (by decide) (by decide) (by decide)
    obtain ⟨h1756, e1756⟩ : ∃ z, T1756.heap = z := ⟨_, rfl⟩
    rw [e1756] at hQ1756
    obtain ⟨rfl, Nq1756, K1756, ex1757, vx1758⟩ := hQ1756
    have N1756 := Fr.app N0 Nq1756
    refine own_via (fun t k => st1756 t k) ?_
    have F1824 : Fld Z h1756 a1737 zs1 "text" "[B" (.ref a1735) := (pF_a1737_text.keep K1756 (ninS pN_a1737_a1742 nin0))
    have F1825 : Fld Z h1756 a1737 zs1 "first" "[I" (.ref a1742) := (pF_a1737_first.keep K1756 (ninS pN_a1737_a1742 nin0))
    have E1826 : Exa Z h1756 a1737 zs1 := (pE_a1737.keep K1756)
    have V1827 : Arv Z h1756 a1735 k1741 .byte (2 : Int32) [(.int p1729), (.int p1730)] (.int (0 : Int32)) := (pV_a1735.keep K1756 (ninS pN_a1735_a1742 nin0))
    have O1828 : Old Z n0 h1756 := (O0.keep K1756 (allS pG_a1742 all0))
    exact sfx7 l Z a0 hw ws p1738 p1739 p1740 p1732 p1733 p1734 p1729 p1730 a1735 p1736 a1737 a1742 k1745 (2 : Int32) p1744 k1741 Bd hZ hml X1756 h1756 e1756 n0 O1828 N1756 F1824 F1825 vx1758 E1826 V1827
  · have qs1829 := qs
    rw [qs]
    show own_Goes p e below (T0.setTop (mkF m 115 #[iv p1732, iv p1733, iv p1734, iv p1729, iv p1730, rv a1735, iv (2 : Int32), iv (1 : Int32), iv p1736, rv a1737, iv (0 : Int32), iv (3 : Int32), .unset, .unset, .unset, .unset, .unset, .unset] [])) _
    refine own_via (fun t k => XS.iload X0.here hx rfl (hb hby at_115) rfl (XS.ifNo X0.here hx rfl (hb hby at_117) rfl ((if0 _ _).trans (tlt (by decide : (0 : Int32) < (1 : Int32))).2.2.2) (XS.aload X0.here hx rfl (hb hby at_120) rfl rfl (XS.iconst X0.here hx rfl (hb hby at_122) k)))) ?_
    show own_Goes p e below (T0.setTop (mkF m 123 #[iv p1732, iv p1733, iv p1734, iv p1729, iv p1730, rv a1735, iv (2 : Int32), iv (1 : Int32), iv p1736, rv a1737, iv (0 : Int32), iv (3 : Int32), .unset, .unset, .unset, .unset, .unset, .unset] [(.int (1 : Int32)), (.ref a1737)])) _
    obtain ⟨_, T1830, _, X1830, hQ1830, st1830⟩ := own_cv X0 hx hZ hown (wd hw 41 rfl) (wd hw 35 rfl) (wd hw 37 rfl) (wd hw 36 rfl) (wd hw 38 rfl) (wd hw 4 rfl) (by decide) (rm34 l Z a0 hw [] a1737 a1742 k1745 (0 : Int32) (0 : Int32) p1743 (1 : Int32) (8 : Int32) p1744 (1 : Int32) (1 : Int32) (0 : Int32) a1735 h0 n0 O0 pF_a1737_length pF_a1737_first pL_a1742 pV_a1742 pG_a1742 pN_a1737_a1742 pE_a1737 pG_a1737 pE_a1742 pF_a1737_text) e0 pE_a1737 (g := (mkF m 123 #[iv p1732, iv p1733, iv p1734, iv p1729, iv p1730, rv a1735, iv (2 : Int32), iv (1 : Int32), iv p1736, rv a1737, iv (0 : Int32), iv (3 : Int32), .unset, .unset, .unset, .unset, .unset, .unset] [(.int (1 : Int32)), (.ref a1737)])) rfl (by rw [hml]; rfl) (rest := []) (W := 0) (lenOf pd_3 rfl) rfl (by show 2 * 0 + _ ≤ _; exact Nat.le_of_eq rfl) (hb hby at_123) (by decide) (by decide) (by decide) (by decide)
    obtain ⟨h1830, e1830⟩ : ∃ z, T1830.heap = z := ⟨_, rfl⟩
    rw [e1830] at hQ1830
    obtain ⟨rfl, Nq1830, K1830, ex1875, vx1876, ex1877, fx1878, fx1879, fx1880⟩ := hQ1830
    have N1830 := Fr.app N0 Nq1830
    refine own_via (fun t k => st1830 t (XS.pop X1830.here hx rfl (hb hby at_126) rfl rfl (XS.aload X1830.here hx rfl (hb hby at_127) rfl rfl (XS.iload X1830.here hx rfl (hb hby at_129) rfl (XS.iconst X1830.here hx rfl (hb hby at_131) (XS.iload X1830.here hx rfl (hb hby at_132) rfl (XS.iadd X1830.here hx rfl (hb hby at_134) rfl (XS.iconst X1830.here hx rfl (hb hby at_135) k)))))))) ?_
    show own_Goes p e below (T1830.setTop (mkF m 136 #[iv p1732, iv p1733, iv p1734, iv p1729, iv p1730, rv a1735, iv (2 : Int32), iv (1 : Int32), iv p1736, rv a1737, iv (0 : Int32), iv (3 : Int32), .unset, .unset, .unset, .unset, .unset, .unset] [(.int (0 : Int32)), (.int (2 : Int32)), (.int (0 : Int32)), (.ref a1737)])) _
    have O1882 : Old Z n0 h1830 := (O0.keep K1830 (allS pG_a1742 (allS pG_a1737 all0)))
    obtain ⟨_, T1881, _, X1881, hQ1881, st1881⟩ := own_cv X1830 hx hZ hown (wd hw 42 rfl) (wd hw 43 rfl) (wd hw 45 rfl) (wd hw 44 rfl) (wd hw 46 rfl) (wd hw 4 rfl) (by decide) (rm28 l Z a0 hw [] a1737 (9 : Int32) a1742 k1745 (0 : Int32) (0 : Int32) p1743 (1 : Int32) (8 : Int32) p1744 (1 : Int32) (1 : Int32) (1 : Int32) h1830 n0 O1882 fx1880 fx1879 vx1876 pG_a1742 ex1875 ex1877 pN_a1737_a1742) e1830 ex1877 (g := (mkF m 136 #[iv p1732, iv p1733, iv p1734, iv p1729, iv p1730, rv a1735, iv (2 : Int32), iv (1 : Int32), iv p1736, rv a1737, iv (0 : Int32), iv (3 : Int32), .unset, .unset, .unset, .unset, .unset, .unset] [(.int (0 : Int32)), (.int (2 : Int32)), (.int (0 : Int32)), (.ref a1737)])) rfl (by rw [hml]; rfl) (rest := []) (W := 0) (lenOf pd_5 rfl) rfl (by show 2 * 0 + _ ≤ _; exact Nat.le_of_eq rfl) (hb hby at_136) (by decide) (by decide) (by decide) (by decide)
    obtain ⟨h1881, e1881⟩ : ∃ z, T1881.heap = z := ⟨_, rfl⟩
    rw [e1881] at hQ1881
    obtain ⟨rfl, Nq1881, K1881, ex1883, vx1884⟩ := hQ1881
    have N1881 := Fr.app N1830 Nq1881
    refine own_via (fun t k => st1881 t k) ?_
    have F1950 : Fld Z h1881 a1737 zs1 "text" "[B" (.ref a1735) := (fx1878.keep K1881 (ninS pN_a1737_a1742 nin0))
    have F1951 : Fld Z h1881 a1737 zs1 "first" "[I" (.ref a1742) := (fx1879.keep K1881 (ninS pN_a1737_a1742 nin0))
    have E1952 : Exa Z h1881 a1737 zs1 := (ex1877.keep K1881)
    have V1953 : Arv Z h1881 a1735 k1741 .byte (2 : Int32) [(.int p1729), (.int p1730)] (.int (0 : Int32)) := ((pV_a1735.keep K1830 (ninS pN_a1735_a1742 (ninS pN_a1735_a1737 nin0))).keep K1881 (ninS pN_a1735_a1742 nin0))
    have O1954 : Old Z n0 h1881 := (O1882.keep K1881 (allS pG_a1742 all0))
    exact sfx8 l Z a0 hw ws p1738 p1739 p1740 p1732 p1733 p1734 p1729 p1730 a1735 p1736 a1737 a1742 k1745 (4 : Int32) p1744 k1741 Bd hZ hml X1881 h1881 e1881 n0 O1954 N1881 F1950 F1951 vx1884 E1952 V1953
theorem d6_22 : decode prog_17_method_6_code 22 = .ok (.iconst 1, 1) := by decide +kernel
theorem d6_23 : decode prog_17_method_6_code 23 = .ok (.goto 4, 3) := by decide +kernel
def Q35 (Z : State) (a2046 : Addr) (a2051 : Addr) (k2061 : ClassId) (p2053 : Int32) (p2054 : Int32) (p2055 : Int32) (p2056 : Int32) (p2052 : Int32) (p2057 : Int32) (p2058 : Int32) (p2059 : Int32) (p2060 : Int32) (h0 : Heap) (n0 : Nat) (v : Option Value) (h : Heap) (L : List Loc) : Prop := v = none ∧ Fr n0 L ∧ Keep h0 h [a2051] ∧ Exa Z h a2051 "[I" ∧ Arv Z h a2051 k2061 .int (16 : Int32) [(.int p2053), (.int p2054), (.int p2055), (.int p2056), (.int p2052), (.int (1 : Int32)), (.int p2058), (.int p2059), (.int p2060)] (.int (0 : Int32))
set_option maxRecDepth 65536 in
set_option maxHeartbeats 40000000 in
theorem rm35 (l : Launch) (Z : State) (a0 : Array Value) (hw : ∀ d ∈ tables_1, d.before a0 Z = true) (ws : List Jvm.Cond) (a2046 : Addr) (a2051 : Addr) (k2061 : ClassId) (p2053 : Int32) (p2054 : Int32) (p2055 : Int32) (p2056 : Int32) (p2052 : Int32) (p2057 : Int32) (p2058 : Int32) (p2059 : Int32) (p2060 : Int32) (h0 : Heap) (n0 : Nat) (O0 : Old Z n0 h0) (pF_a2046_first : Fld Z h0 a2046 zs1 "first" "[I" (.ref a2051)) (pV_a2051 : Arv Z h0 a2051 k2061 .int (16 : Int32) [(.int p2053), (.int p2054), (.int p2055), (.int p2056), (.int p2052), (.int p2057), (.int p2058), (.int p2059), (.int p2060)] (.int (0 : Int32))) (pG_a2051 : n0 ≤ a2051) (pE_a2051 : Exa Z h0 a2051 "[I") :
    MetFree l (⟨zs1, "set", "(II)V"⟩ : MethodName) (head1 (Jvm.Cond.code (⟨zs1, "set", "(II)V"⟩ : MethodName) prog_17_method_29_code 3 none :: ws) ({ frames := 0, cells := 0, slots := 0, locals := 0 } : Room)) (fun a U => a = #[(.ref a2046), (.int (5 : Int32)), (.int (1 : Int32))] ∧ Z.Warmed39 U.vm ∧ U.heap = h0) (fun _ _ _ _ _ => True) (fun _ U o U' => ∃ v L, o = .returned v ∧ Q35 Z a2046 a2051 k2061 p2053 p2054 p2055 p2056 p2052 p2057 p2058 p2059 p2060 h0 n0 v U'.heap L ∧ FrameEnd U o U' L ({ frames := 0, cells := 0, slots := 0, locals := 0 } : Room).cells ({ frames := 0, cells := 0, slots := 0, locals := 0 } : Room).slots) := by
  refine MetFree.of_bodySF (plainFor_of_name pn_1) hisR ?_
  intro p e s m args below meth c s₁ Bd hml0 hP hK
  obtain ⟨rfl, hZ, hh⟩ := hP
  have hx := Bd.exec
  have hby := Bd.bytes
  have hml : c.maxLocals = 3 := hml0
  have hown : s.vm.findClass zs1 = some m.cls := findClass_of_methodNamed Bd.named
  have hnm := (name_of_methodNamed Bd.named Bd.method).1
  have X0 : Stand p l e ({ frames := 0, cells := 0, slots := 0, locals := 0 } : Room) s m #[(.ref a2046), (.int (5 : Int32)), (.int (1 : Int32))] below meth c s₁ [] 0 0 := Stand.of_body Bd
  have e0 : s₁.heap = h0 := by rw [← hh, Bd.state]; rfl
  have N0 := Fr.nil n0
  refine own_out ?_
  refine own_via (fun t k => castTop (ef_5 m a2046 (5 : Int32) (1 : Int32)) (XS.iloadN X0.here hx rfl (hb hby d7_0) rfl (XS.sipush X0.here hx rfl (hb hby d7_1) (XS.icmpNo X0.here hx rfl (hb hby d7_4) rfl (tlt (by decide : (5 : Int32) < (16384 : Int32))).2.1 (XS.aloadN X0.here hx rfl (hb hby d7_7) rfl rfl k))))) ?_
  show own_Goes p e below (s₁.setTop (mkF m 8 #[rv a2046, iv (5 : Int32), iv (1 : Int32)] [(.ref a2046)])) _
  obtain ⟨T2072, X2072, e2072, st2072⟩ := getF X0 hx hZ hown (host := "") (Or.inl (wd hw 26 rfl)) Via.refl e0 pF_a2046_first (g := (mkF m 8 #[rv a2046, iv (5 : Int32), iv (1 : Int32)] [(.ref a2046)])) rfl rfl (hb hby d7_8)
  refine own_via (fun t k => st2072 t (XS.iloadN X2072.here hx rfl (hb hby d7_11) rfl (XS.iloadN X2072.here hx rfl (hb hby d7_12) rfl k))) ?_
  show own_Goes p e below (T2072.setTop (mkF m 13 #[rv a2046, iv (5 : Int32), iv (1 : Int32)] [(.int (1 : Int32)), (.int (5 : Int32)), (.ref a2051)])) _
  obtain ⟨cl2073, Ar2073, qq2073, S2073, M2073, H2073, G2073⟩ := id (pV_a2051)
  have hin2073 : ¬ ((5 : Int32) < 0 ∨ cl2073.slots.size ≤ ((5 : Int32)).toNatClampNeg) := inb_of S2073 ⟨by decide, by decide⟩
  obtain ⟨T2073, h2073, X2073, e2073, W2073, st2073⟩ := stI X2072 hx hZ e2072 Ar2073 (j := (5 : Int32)) hin2073 (g := (mkF m 13 #[rv a2046, iv (5 : Int32), iv (1 : Int32)] [(.int (1 : Int32)), (.int (5 : Int32)), (.ref a2051)])) rfl rfl (hb hby d7_13)
  refine own_via (fun t k => st2073 t k) ?_
  have V2074 : Arv Z h2073 a2051 k2061 .int (16 : Int32) [(.int p2053), (.int p2054), (.int p2055), (.int p2056), (.int p2052), (.int (1 : Int32)), (.int p2058), (.int p2059), (.int p2060)] (.int (0 : Int32)) := Arv.set Ar2073 qq2073 S2073 M2073 H2073 G2073 rfl W2073 5 rfl (Nat.le_of_ble_eq_true rfl)
  have N2073 := Fr.snoc X2073 N0 pG_a2051
  show own_Goes p e below (T2073.setTop (mkF m 14 #[rv a2046, iv (5 : Int32), iv (1 : Int32)] [])) _
  refine own_via (fun t k => XS.goto X2073.here hx rfl (pc0 := 14) (pc' := 33) rfl (hb hby d7_14) (by decide) (by decide) k) ?_
  obtain ⟨fs, hr, hrun, hended, hW, hsame⟩ := X2073.leave (v := none) (fun _ => rfl)
  refine own_end (t := T2073.setFrames fs) ?_ ⟨_, hrun, hended, _, _, rfl, ?_, ⟨_, rfl⟩, hW, hsame.mono (by decide) (by decide)⟩
  · exact X2073.returnOut hx Bd.returns (hb hby d7_33) hr
  have E2075 : Exa Z h2073 a2051 "[I" := (pE_a2051.wr W2073)
  · show Q35 Z a2046 a2051 k2061 p2053 p2054 p2055 p2056 p2052 p2057 p2058 p2059 p2060 h0 n0 _ T2073.heap _
    rw [e2073]
    exact ⟨rfl, N2073, ((Keep.refl h0 [a2051]).wr W2073 (Or.inl (List.mem_of_getElem? (i := 0) rfl))), E2075, V2074⟩
def Q36 (Z : State) (a2014 : Addr) (p2030 : Int32) (a2019 : Addr) (k2029 : ClassId) (p2020 : Int32) (p2021 : Int32) (p2022 : Int32) (p2023 : Int32) (p2024 : Int32) (p2025 : Int32) (p2026 : Int32) (p2027 : Int32) (p2028 : Int32) (h0 : Heap) (n0 : Nat) (v : Option Value) (h : Heap) (L : List Loc) : Prop := v = none ∧ Fr n0 L ∧ Keep h0 h [a2019] ∧ Exa Z h a2019 "[I" ∧ Arv Z h a2019 k2029 .int (16 : Int32) [(.int p2020), (.int p2021), (.int p2022), (.int p2023), (.int p2030), (.int (1 : Int32)), (.int p2026), (.int p2027), (.int p2028)] (.int (0 : Int32))
set_option maxRecDepth 65536 in
set_option maxHeartbeats 40000000 in
theorem rm36 (l : Launch) (Z : State) (a0 : Array Value) (hw : ∀ d ∈ tables_1, d.before a0 Z = true) (ws : List Jvm.Cond) (a2014 : Addr) (p2030 : Int32) (a2019 : Addr) (k2029 : ClassId) (p2020 : Int32) (p2021 : Int32) (p2022 : Int32) (p2023 : Int32) (p2024 : Int32) (p2025 : Int32) (p2026 : Int32) (p2027 : Int32) (p2028 : Int32) (h0 : Heap) (n0 : Nat) (O0 : Old Z n0 h0) (pF_a2014_length : Fld Z h0 a2014 zs1 "length" "I" (.int p2030)) (pF_a2014_first : Fld Z h0 a2014 zs1 "first" "[I" (.ref a2019)) (pV_a2019 : Arv Z h0 a2019 k2029 .int (16 : Int32) [(.int p2020), (.int p2021), (.int p2022), (.int p2023), (.int p2024), (.int p2025), (.int p2026), (.int p2027), (.int p2028)] (.int (0 : Int32))) (pG_a2019 : n0 ≤ a2019) (pE_a2019 : Exa Z h0 a2019 "[I") (pE_a2014 : Exa Z h0 a2014 zs1) (pN_a2014_a2019 : a2014 ≠ a2019) :
    MetFree l (⟨zs1, "close", "(IIZ)V"⟩ : MethodName) (head1 (Jvm.Cond.code (⟨zs1, "close", "(IIZ)V"⟩ : MethodName) prog_17_method_6_code 4 none :: ws) ({ frames := 1, cells := 0, slots := 0, locals := 14 } : Room)) (fun a U => a = #[(.ref a2014), (.int (3 : Int32)), (.int (0 : Int32)), (.int (1 : Int32))] ∧ Z.Warmed39 U.vm ∧ U.heap = h0) (fun _ _ _ _ _ => True) (fun _ U o U' => ∃ v L, o = .returned v ∧ Q36 Z a2014 p2030 a2019 k2029 p2020 p2021 p2022 p2023 p2024 p2025 p2026 p2027 p2028 h0 n0 v U'.heap L ∧ FrameEnd U o U' L ({ frames := 1, cells := 0, slots := 0, locals := 14 } : Room).cells ({ frames := 1, cells := 0, slots := 0, locals := 14 } : Room).slots) := by
  refine MetFree.of_bodySF (plainFor_of_name pn_1) hisR ?_
  intro p e s m args below meth c s₁ Bd hml0 hP hK
  obtain ⟨rfl, hZ, hh⟩ := hP
  have hx := Bd.exec
  have hby := Bd.bytes
  have hml : c.maxLocals = 4 := hml0
  have hown : s.vm.findClass zs1 = some m.cls := findClass_of_methodNamed Bd.named
  have hnm := (name_of_methodNamed Bd.named Bd.method).1
  have X0 : Stand p l e ({ frames := 1, cells := 0, slots := 0, locals := 14 } : Room) s m #[(.ref a2014), (.int (3 : Int32)), (.int (0 : Int32)), (.int (1 : Int32))] below meth c s₁ [] 0 0 := Stand.of_body Bd
  have e0 : s₁.heap = h0 := by rw [← hh, Bd.state]; rfl
  have N0 := Fr.nil n0
  refine own_out ?_
  refine own_via (fun t k => castTop (ef_6 m a2014 (3 : Int32) (0 : Int32) (1 : Int32)) (XS.aloadN X0.here hx rfl (hb hby d6_0) rfl rfl (XS.iloadN X0.here hx rfl (hb hby d6_1) rfl (XS.iconst X0.here hx rfl (hb hby d6_2) (XS.iadd X0.here hx rfl (hb hby d6_3) rfl (XS.aloadN X0.here hx rfl (hb hby d6_4) rfl rfl k)))))) ?_
  show own_Goes p e below (s₁.setTop (mkF m 5 #[rv a2014, iv (3 : Int32), iv (0 : Int32), iv (1 : Int32)] [(.ref a2014), (.int (4 : Int32)), (.ref a2014)])) _
  obtain ⟨T2041, X2041, e2041, st2041⟩ := getF X0 hx hZ hown (host := "") (Or.inl (wd hw 39 rfl)) Via.refl e0 pF_a2014_length (g := (mkF m 5 #[rv a2014, iv (3 : Int32), iv (0 : Int32), iv (1 : Int32)] [(.ref a2014), (.int (4 : Int32)), (.ref a2014)])) rfl rfl (hb hby d6_5)
  refine own_via (fun t k => st2041 t k) ?_
  obtain ⟨cq2042, q2042, q2042'⟩ := pE_a2014.cell
  obtain ⟨_, _, ⟨T2042, L2042, c2042, n2042⟩, -, X2042, ⟨Lc2042, hQ2042, l2042, y2042, z2042⟩, st2042⟩ := X2041.privateBack hx (y := (⟨zs1, "set", "(II)V"⟩ : MethodName)) hown (mvT hZ (wd hw 47 rfl)) (mvT hZ (wd hw 48 rfl)) (own_selPriv (mvT hZ (wd hw 3 rfl)) (mvT hZ (wd hw 48 rfl)) (Cond.privateMethod_at (mvP hZ (wd hw 49 rfl) (args := #[]))) (by decide)) (Cond.privateMethod_at (mvP hZ (wd hw 49 rfl) (args := #[]))) (mvT hZ (wd hw 50 rfl)) (by decide) (backOf (W := 0) (rm11 l Z a0 hw [] a2014 p2030 a2019 k2029 p2020 p2021 p2022 p2023 p2024 p2025 p2026 p2027 p2028 h0 n0 O0 pF_a2014_first pV_a2019 pG_a2019 pE_a2019) hZ (wd hw 50 rfl) (wd hw 4 rfl) (by decide) (by decide)) (g := (mkF m 8 #[rv a2014, iv (3 : Int32), iv (0 : Int32), iv (1 : Int32)] [(.int p2030), (.int (4 : Int32)), (.ref a2014)])) rfl (by rw [hml]; rfl) (Steps.refl _) (a := a2014) (by rw [e2041]; exact q2042) q2042' (argsL := [(.int (4 : Int32)), (.int p2030)]) (rest := []) (lenOf pd_4 rfl) rfl (by show 2 * 0 + _ ≤ _; exact Nat.le_of_eq rfl) (hb hby d6_8) (fun _ _ => ⟨rfl, e2041, (by decide : 0 + 0 ≤ _), (by decide : 0 + 0 ≤ _)⟩)
  dsimp only [Pt.U, Pt.locs, Pt.cells, Pt.slots] at X2042 l2042 y2042 z2042 st2042 hQ2042
  subst l2042 y2042 z2042
  obtain ⟨h2042, e2042⟩ : ∃ z, T2042.heap = z := ⟨_, rfl⟩
  rw [e2042] at hQ2042
  obtain ⟨rfl, Nq2042, K2042, ex2043, vx2044⟩ := hQ2042
  have N2042 := Fr.app N0 Nq2042
  refine own_via (fun t k => st2042.trans (XS.aloadN X2042.here hx rfl (hb hby d6_11) rfl rfl (XS.iloadN X2042.here hx rfl (hb hby d6_12) rfl (XS.iconst X2042.here hx rfl (hb hby d6_13) (XS.iadd X2042.here hx rfl (hb hby d6_14) rfl (XS.iloadN X2042.here hx rfl (hb hby d6_15) rfl (XS.iconst X2042.here hx rfl (hb hby d6_16) (XS.ishl X2042.here hx rfl (hb hby d6_17) rfl (XS.iloadN X2042.here hx rfl (hb hby d6_18) rfl (XS.ifNo X2042.here hx rfl (hb hby d6_19) rfl ((if0 _ _).trans (feq (by decide : ¬ ((1 : Int32) = (0 : Int32)))).1) (XS.iconst X2042.here hx rfl (hb hby d6_22) (XS.goto X2042.here hx rfl (pc0 := 23) (pc' := 27) rfl (hb hby d6_23) (by decide) (by decide) k)))))))))))) ?_
  show own_Goes p e below (T2042.setTop (mkF m 27 #[rv a2014, iv (3 : Int32), iv (0 : Int32), iv (1 : Int32)] [(.int (1 : Int32)), (.int (0 : Int32)), (.int (5 : Int32)), (.ref a2014)])) _
  refine own_via (fun t k => XS.ior X2042.here hx rfl (hb hby d6_27) rfl k) ?_
  have F2076 : Fld Z h2042 a2014 zs1 "first" "[I" (.ref a2019) := (pF_a2014_first.keep K2042 (ninS pN_a2014_a2019 nin0))
  have O2077 : Old Z n0 h2042 := (O0.keep K2042 (allS pG_a2019 all0))
  have E2078 : Exa Z h2042 a2014 zs1 := (pE_a2014.keep K2042)
  obtain ⟨cq2045, q2045, q2045'⟩ := E2078.cell
  obtain ⟨_, _, ⟨T2045, L2045, c2045, n2045⟩, -, X2045, ⟨Lc2045, hQ2045, l2045, y2045, z2045⟩, st2045⟩ := X2042.privateBack hx (y := (⟨zs1, "set", "(II)V"⟩ : MethodName)) hown (mvT hZ (wd hw 47 rfl)) (mvT hZ (wd hw 48 rfl)) (own_selPriv (mvT hZ (wd hw 3 rfl)) (mvT hZ (wd hw 48 rfl)) (Cond.privateMethod_at (mvP hZ (wd hw 49 rfl) (args := #[]))) (by decide)) (Cond.privateMethod_at (mvP hZ (wd hw 49 rfl) (args := #[]))) (mvT hZ (wd hw 50 rfl)) (by decide) (backOf (W := 0) (rm35 l Z a0 hw [] a2014 a2019 k2029 p2020 p2021 p2022 p2023 p2030 p2025 p2026 p2027 p2028 h2042 n0 O2077 F2076 vx2044 pG_a2019 ex2043) hZ (wd hw 50 rfl) (wd hw 4 rfl) (by decide) (by decide)) (g := (mkF m 28 #[rv a2014, iv (3 : Int32), iv (0 : Int32), iv (1 : Int32)] [(.int (1 : Int32)), (.int (5 : Int32)), (.ref a2014)])) rfl (by rw [hml]; rfl) (Steps.refl _) (a := a2014) (by rw [e2042]; exact q2045) q2045' (argsL := [(.int (5 : Int32)), (.int (1 : Int32))]) (rest := []) (lenOf pd_4 rfl) rfl (by show 2 * 0 + _ ≤ _; exact Nat.le_of_eq rfl) (hb hby d6_28) (fun _ _ => ⟨rfl, e2042, (by decide : 0 + 0 ≤ _), (by decide : 0 + 0 ≤ _)⟩)
  dsimp only [Pt.U, Pt.locs, Pt.cells, Pt.slots] at X2045 l2045 y2045 z2045 st2045 hQ2045
  subst l2045 y2045 z2045
  obtain ⟨h2045, e2045⟩ : ∃ z, T2045.heap = z := ⟨_, rfl⟩
  rw [e2045] at hQ2045
  obtain ⟨rfl, Nq2045, K2045, ex2079, vx2080⟩ := hQ2045
  have N2045 := Fr.app N2042 Nq2045
  refine own_via (fun t k => st2045.trans k) ?_
  obtain ⟨fs, hr, hrun, hended, hW, hsame⟩ := X2045.leave (v := none) (fun _ => rfl)
  refine own_end (t := T2045.setFrames fs) ?_ ⟨_, hrun, hended, _, _, rfl, ?_, ⟨_, rfl⟩, hW, hsame.mono (by decide) (by decide)⟩
  · exact X2045.returnOut hx Bd.returns (hb hby d6_31) hr
  · show Q36 Z a2014 p2030 a2019 k2029 p2020 p2021 p2022 p2023 p2024 p2025 p2026 p2027 p2028 h0 n0 _ T2045.heap _
    rw [e2045]
    exact ⟨rfl, N2045, (((Keep.refl h0 [a2019]).trans K2042 (allS (Or.inl (List.mem_of_getElem? (i := 0) rfl)) all0)).trans K2045 (allS (Or.inl (List.mem_of_getElem? (i := 0) rfl)) all0)), ex2079, vx2080⟩
def Q37 (Z : State) (a2134 : Addr) (a2139 : Addr) (k2149 : ClassId) (p2141 : Int32) (p2142 : Int32) (p2143 : Int32) (p2144 : Int32) (p2140 : Int32) (p2145 : Int32) (p2146 : Int32) (p2147 : Int32) (p2148 : Int32) (h0 : Heap) (n0 : Nat) (v : Option Value) (h : Heap) (L : List Loc) : Prop := v = none ∧ Fr n0 L ∧ Keep h0 h [a2139] ∧ Exa Z h a2139 "[I" ∧ Arv Z h a2139 k2149 .int (16 : Int32) [(.int p2141), (.int p2142), (.int p2143), (.int p2144), (.int p2140), (.int (3 : Int32)), (.int p2146), (.int p2147), (.int p2148)] (.int (0 : Int32))
set_option maxRecDepth 65536 in
set_option maxHeartbeats 40000000 in
theorem rm37 (l : Launch) (Z : State) (a0 : Array Value) (hw : ∀ d ∈ tables_1, d.before a0 Z = true) (ws : List Jvm.Cond) (a2134 : Addr) (a2139 : Addr) (k2149 : ClassId) (p2141 : Int32) (p2142 : Int32) (p2143 : Int32) (p2144 : Int32) (p2140 : Int32) (p2145 : Int32) (p2146 : Int32) (p2147 : Int32) (p2148 : Int32) (h0 : Heap) (n0 : Nat) (O0 : Old Z n0 h0) (pF_a2134_first : Fld Z h0 a2134 zs1 "first" "[I" (.ref a2139)) (pV_a2139 : Arv Z h0 a2139 k2149 .int (16 : Int32) [(.int p2141), (.int p2142), (.int p2143), (.int p2144), (.int p2140), (.int p2145), (.int p2146), (.int p2147), (.int p2148)] (.int (0 : Int32))) (pG_a2139 : n0 ≤ a2139) (pE_a2139 : Exa Z h0 a2139 "[I") :
    MetFree l (⟨zs1, "set", "(II)V"⟩ : MethodName) (head1 (Jvm.Cond.code (⟨zs1, "set", "(II)V"⟩ : MethodName) prog_17_method_29_code 3 none :: ws) ({ frames := 0, cells := 0, slots := 0, locals := 0 } : Room)) (fun a U => a = #[(.ref a2134), (.int (5 : Int32)), (.int (3 : Int32))] ∧ Z.Warmed39 U.vm ∧ U.heap = h0) (fun _ _ _ _ _ => True) (fun _ U o U' => ∃ v L, o = .returned v ∧ Q37 Z a2134 a2139 k2149 p2141 p2142 p2143 p2144 p2140 p2145 p2146 p2147 p2148 h0 n0 v U'.heap L ∧ FrameEnd U o U' L ({ frames := 0, cells := 0, slots := 0, locals := 0 } : Room).cells ({ frames := 0, cells := 0, slots := 0, locals := 0 } : Room).slots) := by
  refine MetFree.of_bodySF (plainFor_of_name pn_1) hisR ?_
  intro p e s m args below meth c s₁ Bd hml0 hP hK
  obtain ⟨rfl, hZ, hh⟩ := hP
  have hx := Bd.exec
  have hby := Bd.bytes
  have hml : c.maxLocals = 3 := hml0
  have hown : s.vm.findClass zs1 = some m.cls := findClass_of_methodNamed Bd.named
  have hnm := (name_of_methodNamed Bd.named Bd.method).1
  have X0 : Stand p l e ({ frames := 0, cells := 0, slots := 0, locals := 0 } : Room) s m #[(.ref a2134), (.int (5 : Int32)), (.int (3 : Int32))] below meth c s₁ [] 0 0 := Stand.of_body Bd
  have e0 : s₁.heap = h0 := by rw [← hh, Bd.state]; rfl
  have N0 := Fr.nil n0
  refine own_out ?_
  refine own_via (fun t k => castTop (ef_5 m a2134 (5 : Int32) (3 : Int32)) (XS.iloadN X0.here hx rfl (hb hby d7_0) rfl (XS.sipush X0.here hx rfl (hb hby d7_1) (XS.icmpNo X0.here hx rfl (hb hby d7_4) rfl (tlt (by decide : (5 : Int32) < (16384 : Int32))).2.1 (XS.aloadN X0.here hx rfl (hb hby d7_7) rfl rfl k))))) ?_
  show own_Goes p e below (s₁.setTop (mkF m 8 #[rv a2134, iv (5 : Int32), iv (3 : Int32)] [(.ref a2134)])) _
  obtain ⟨T2160, X2160, e2160, st2160⟩ := getF X0 hx hZ hown (host := "") (Or.inl (wd hw 26 rfl)) Via.refl e0 pF_a2134_first (g := (mkF m 8 #[rv a2134, iv (5 : Int32), iv (3 : Int32)] [(.ref a2134)])) rfl rfl (hb hby d7_8)
  refine own_via (fun t k => st2160 t (XS.iloadN X2160.here hx rfl (hb hby d7_11) rfl (XS.iloadN X2160.here hx rfl (hb hby d7_12) rfl k))) ?_
  show own_Goes p e below (T2160.setTop (mkF m 13 #[rv a2134, iv (5 : Int32), iv (3 : Int32)] [(.int (3 : Int32)), (.int (5 : Int32)), (.ref a2139)])) _
  obtain ⟨cl2161, Ar2161, qq2161, S2161, M2161, H2161, G2161⟩ := id (pV_a2139)
  have hin2161 : ¬ ((5 : Int32) < 0 ∨ cl2161.slots.size ≤ ((5 : Int32)).toNatClampNeg) := inb_of S2161 ⟨by decide, by decide⟩
  obtain ⟨T2161, h2161, X2161, e2161, W2161, st2161⟩ := stI X2160 hx hZ e2160 Ar2161 (j := (5 : Int32)) hin2161 (g := (mkF m 13 #[rv a2134, iv (5 : Int32), iv (3 : Int32)] [(.int (3 : Int32)), (.int (5 : Int32)), (.ref a2139)])) rfl rfl (hb hby d7_13)
  refine own_via (fun t k => st2161 t k) ?_
  have V2162 : Arv Z h2161 a2139 k2149 .int (16 : Int32) [(.int p2141), (.int p2142), (.int p2143), (.int p2144), (.int p2140), (.int (3 : Int32)), (.int p2146), (.int p2147), (.int p2148)] (.int (0 : Int32)) := Arv.set Ar2161 qq2161 S2161 M2161 H2161 G2161 rfl W2161 5 rfl (Nat.le_of_ble_eq_true rfl)
  have N2161 := Fr.snoc X2161 N0 pG_a2139
  show own_Goes p e below (T2161.setTop (mkF m 14 #[rv a2134, iv (5 : Int32), iv (3 : Int32)] [])) _
  refine own_via (fun t k => XS.goto X2161.here hx rfl (pc0 := 14) (pc' := 33) rfl (hb hby d7_14) (by decide) (by decide) k) ?_
  obtain ⟨fs, hr, hrun, hended, hW, hsame⟩ := X2161.leave (v := none) (fun _ => rfl)
  refine own_end (t := T2161.setFrames fs) ?_ ⟨_, hrun, hended, _, _, rfl, ?_, ⟨_, rfl⟩, hW, hsame.mono (by decide) (by decide)⟩
  · exact X2161.returnOut hx Bd.returns (hb hby d7_33) hr
  have E2163 : Exa Z h2161 a2139 "[I" := (pE_a2139.wr W2161)
  · show Q37 Z a2134 a2139 k2149 p2141 p2142 p2143 p2144 p2140 p2145 p2146 p2147 p2148 h0 n0 _ T2161.heap _
    rw [e2161]
    exact ⟨rfl, N2161, ((Keep.refl h0 [a2139]).wr W2161 (Or.inl (List.mem_of_getElem? (i := 0) rfl))), E2163, V2162⟩
def Q38 (Z : State) (a2102 : Addr) (p2118 : Int32) (a2107 : Addr) (k2117 : ClassId) (p2108 : Int32) (p2109 : Int32) (p2110 : Int32) (p2111 : Int32) (p2112 : Int32) (p2113 : Int32) (p2114 : Int32) (p2115 : Int32) (p2116 : Int32) (h0 : Heap) (n0 : Nat) (v : Option Value) (h : Heap) (L : List Loc) : Prop := v = none ∧ Fr n0 L ∧ Keep h0 h [a2107] ∧ Exa Z h a2107 "[I" ∧ Arv Z h a2107 k2117 .int (16 : Int32) [(.int p2108), (.int p2109), (.int p2110), (.int p2111), (.int p2118), (.int (3 : Int32)), (.int p2114), (.int p2115), (.int p2116)] (.int (0 : Int32))
set_option maxRecDepth 65536 in
set_option maxHeartbeats 40000000 in
theorem rm38 (l : Launch) (Z : State) (a0 : Array Value) (hw : ∀ d ∈ tables_1, d.before a0 Z = true) (ws : List Jvm.Cond) (a2102 : Addr) (p2118 : Int32) (a2107 : Addr) (k2117 : ClassId) (p2108 : Int32) (p2109 : Int32) (p2110 : Int32) (p2111 : Int32) (p2112 : Int32) (p2113 : Int32) (p2114 : Int32) (p2115 : Int32) (p2116 : Int32) (h0 : Heap) (n0 : Nat) (O0 : Old Z n0 h0) (pF_a2102_length : Fld Z h0 a2102 zs1 "length" "I" (.int p2118)) (pF_a2102_first : Fld Z h0 a2102 zs1 "first" "[I" (.ref a2107)) (pV_a2107 : Arv Z h0 a2107 k2117 .int (16 : Int32) [(.int p2108), (.int p2109), (.int p2110), (.int p2111), (.int p2112), (.int p2113), (.int p2114), (.int p2115), (.int p2116)] (.int (0 : Int32))) (pG_a2107 : n0 ≤ a2107) (pE_a2107 : Exa Z h0 a2107 "[I") (pE_a2102 : Exa Z h0 a2102 zs1) (pN_a2102_a2107 : a2102 ≠ a2107) :
    MetFree l (⟨zs1, "close", "(IIZ)V"⟩ : MethodName) (head1 (Jvm.Cond.code (⟨zs1, "close", "(IIZ)V"⟩ : MethodName) prog_17_method_6_code 4 none :: ws) ({ frames := 1, cells := 0, slots := 0, locals := 14 } : Room)) (fun a U => a = #[(.ref a2102), (.int (3 : Int32)), (.int (1 : Int32)), (.int (1 : Int32))] ∧ Z.Warmed39 U.vm ∧ U.heap = h0) (fun _ _ _ _ _ => True) (fun _ U o U' => ∃ v L, o = .returned v ∧ Q38 Z a2102 p2118 a2107 k2117 p2108 p2109 p2110 p2111 p2112 p2113 p2114 p2115 p2116 h0 n0 v U'.heap L ∧ FrameEnd U o U' L ({ frames := 1, cells := 0, slots := 0, locals := 14 } : Room).cells ({ frames := 1, cells := 0, slots := 0, locals := 14 } : Room).slots) := by
  refine MetFree.of_bodySF (plainFor_of_name pn_1) hisR ?_
  intro p e s m args below meth c s₁ Bd hml0 hP hK
  obtain ⟨rfl, hZ, hh⟩ := hP
  have hx := Bd.exec
  have hby := Bd.bytes
  have hml : c.maxLocals = 4 := hml0
  have hown : s.vm.findClass zs1 = some m.cls := findClass_of_methodNamed Bd.named
  have hnm := (name_of_methodNamed Bd.named Bd.method).1
  have X0 : Stand p l e ({ frames := 1, cells := 0, slots := 0, locals := 14 } : Room) s m #[(.ref a2102), (.int (3 : Int32)), (.int (1 : Int32)), (.int (1 : Int32))] below meth c s₁ [] 0 0 := Stand.of_body Bd
  have e0 : s₁.heap = h0 := by rw [← hh, Bd.state]; rfl
  have N0 := Fr.nil n0
  refine own_out ?_
  refine own_via (fun t k => castTop (ef_6 m a2102 (3 : Int32) (1 : Int32) (1 : Int32)) (XS.aloadN X0.here hx rfl (hb hby d6_0) rfl rfl (XS.iloadN X0.here hx rfl (hb hby d6_1) rfl (XS.iconst X0.here hx rfl (hb hby d6_2) (XS.iadd X0.here hx rfl (hb hby d6_3) rfl (XS.aloadN X0.here hx rfl (hb hby d6_4) rfl rfl k)))))) ?_
  show own_Goes p e below (s₁.setTop (mkF m 5 #[rv a2102, iv (3 : Int32), iv (1 : Int32), iv (1 : Int32)] [(.ref a2102), (.int (4 : Int32)), (.ref a2102)])) _
  obtain ⟨T2129, X2129, e2129, st2129⟩ := getF X0 hx hZ hown (host := "") (Or.inl (wd hw 39 rfl)) Via.refl e0 pF_a2102_length (g := (mkF m 5 #[rv a2102, iv (3 : Int32), iv (1 : Int32), iv (1 : Int32)] [(.ref a2102), (.int (4 : Int32)), (.ref a2102)])) rfl rfl (hb hby d6_5)
  refine own_via (fun t k => st2129 t k) ?_
  obtain ⟨cq2130, q2130, q2130'⟩ := pE_a2102.cell
  obtain ⟨_, _, ⟨T2130, L2130, c2130, n2130⟩, -, X2130, ⟨Lc2130, hQ2130, l2130, y2130, z2130⟩, st2130⟩ := X2129.privateBack hx (y := (⟨zs1, "set", "(II)V"⟩ : MethodName)) hown (mvT hZ (wd hw 47 rfl)) (mvT hZ (wd hw 48 rfl)) (own_selPriv (mvT hZ (wd hw 3 rfl)) (mvT hZ (wd hw 48 rfl)) (Cond.privateMethod_at (mvP hZ (wd hw 49 rfl) (args := #[]))) (by decide)) (Cond.privateMethod_at (mvP hZ (wd hw 49 rfl) (args := #[]))) (mvT hZ (wd hw 50 rfl)) (by decide) (backOf (W := 0) (rm11 l Z a0 hw [] a2102 p2118 a2107 k2117 p2108 p2109 p2110 p2111 p2112 p2113 p2114 p2115 p2116 h0 n0 O0 pF_a2102_first pV_a2107 pG_a2107 pE_a2107) hZ (wd hw 50 rfl) (wd hw 4 rfl) (by decide) (by decide)) (g := (mkF m 8 #[rv a2102, iv (3 : Int32), iv (1 : Int32), iv (1 : Int32)] [(.int p2118), (.int (4 : Int32)), (.ref a2102)])) rfl (by rw [hml]; rfl) (Steps.refl _) (a := a2102) (by rw [e2129]; exact q2130) q2130' (argsL := [(.int (4 : Int32)), (.int p2118)]) (rest := []) (lenOf pd_4 rfl) rfl (by show 2 * 0 + _ ≤ _; exact Nat.le_of_eq rfl) (hb hby d6_8) (fun _ _ => ⟨rfl, e2129, (by decide : 0 + 0 ≤ _), (by decide : 0 + 0 ≤ _)⟩)
  dsimp only [Pt.U, Pt.locs, Pt.cells, Pt.slots] at X2130 l2130 y2130 z2130 st2130 hQ2130
  subst l2130 y2130 z2130
  obtain ⟨h2130, e2130⟩ : ∃ z, T2130.heap = z := ⟨_, rfl⟩
  rw [e2130] at hQ2130
  obtain ⟨rfl, Nq2130, K2130, ex2131, vx2132⟩ := hQ2130
  have N2130 := Fr.app N0 Nq2130
  refine own_via (fun t k => st2130.trans (XS.aloadN X2130.here hx rfl (hb hby d6_11) rfl rfl (XS.iloadN X2130.here hx rfl (hb hby d6_12) rfl (XS.iconst X2130.here hx rfl (hb hby d6_13) (XS.iadd X2130.here hx rfl (hb hby d6_14) rfl (XS.iloadN X2130.here hx rfl (hb hby d6_15) rfl (XS.iconst X2130.here hx rfl (hb hby d6_16) (XS.ishl X2130.here hx rfl (hb hby d6_17) rfl (XS.iloadN X2130.here hx rfl (hb hby d6_18) rfl (XS.ifNo X2130.here hx rfl (hb hby d6_19) rfl ((if0 _ _).trans (feq (by decide : ¬ ((1 : Int32) = (0 : Int32)))).1) (XS.iconst X2130.here hx rfl (hb hby d6_22) (XS.goto X2130.here hx rfl (pc0 := 23) (pc' := 27) rfl (hb hby d6_23) (by decide) (by decide) k)))))))))))) ?_
  show own_Goes p e below (T2130.setTop (mkF m 27 #[rv a2102, iv (3 : Int32), iv (1 : Int32), iv (1 : Int32)] [(.int (1 : Int32)), (.int (2 : Int32)), (.int (5 : Int32)), (.ref a2102)])) _
  refine own_via (fun t k => XS.ior X2130.here hx rfl (hb hby d6_27) rfl k) ?_
  have F2164 : Fld Z h2130 a2102 zs1 "first" "[I" (.ref a2107) := (pF_a2102_first.keep K2130 (ninS pN_a2102_a2107 nin0))
  have O2165 : Old Z n0 h2130 := (O0.keep K2130 (allS pG_a2107 all0))
  have E2166 : Exa Z h2130 a2102 zs1 := (pE_a2102.keep K2130)
  obtain ⟨cq2133, q2133, q2133'⟩ := E2166.cell
  obtain ⟨_, _, ⟨T2133, L2133, c2133, n2133⟩, -, X2133, ⟨Lc2133, hQ2133, l2133, y2133, z2133⟩, st2133⟩ := X2130.privateBack hx (y := (⟨zs1, "set", "(II)V"⟩ : MethodName)) hown (mvT hZ (wd hw 47 rfl)) (mvT hZ (wd hw 48 rfl)) (own_selPriv (mvT hZ (wd hw 3 rfl)) (mvT hZ (wd hw 48 rfl)) (Cond.privateMethod_at (mvP hZ (wd hw 49 rfl) (args := #[]))) (by decide)) (Cond.privateMethod_at (mvP hZ (wd hw 49 rfl) (args := #[]))) (mvT hZ (wd hw 50 rfl)) (by decide) (backOf (W := 0) (rm37 l Z a0 hw [] a2102 a2107 k2117 p2108 p2109 p2110 p2111 p2118 p2113 p2114 p2115 p2116 h2130 n0 O2165 F2164 vx2132 pG_a2107 ex2131) hZ (wd hw 50 rfl) (wd hw 4 rfl) (by decide) (by decide)) (g := (mkF m 28 #[rv a2102, iv (3 : Int32), iv (1 : Int32), iv (1 : Int32)] [(.int (3 : Int32)), (.int (5 : Int32)), (.ref a2102)])) rfl (by rw [hml]; rfl) (Steps.refl _) (a := a2102) (by rw [e2130]; exact q2133) q2133' (argsL := [(.int (5 : Int32)), (.int (3 : Int32))]) (rest := []) (lenOf pd_4 rfl) rfl (by show 2 * 0 + _ ≤ _; exact Nat.le_of_eq rfl) (hb hby d6_28) (fun _ _ => ⟨rfl, e2130, (by decide : 0 + 0 ≤ _), (by decide : 0 + 0 ≤ _)⟩)
  dsimp only [Pt.U, Pt.locs, Pt.cells, Pt.slots] at X2133 l2133 y2133 z2133 st2133 hQ2133
  subst l2133 y2133 z2133
  obtain ⟨h2133, e2133⟩ : ∃ z, T2133.heap = z := ⟨_, rfl⟩
  rw [e2133] at hQ2133
  obtain ⟨rfl, Nq2133, K2133, ex2167, vx2168⟩ := hQ2133
  have N2133 := Fr.app N2130 Nq2133
  refine own_via (fun t k => st2133.trans k) ?_
  obtain ⟨fs, hr, hrun, hended, hW, hsame⟩ := X2133.leave (v := none) (fun _ => rfl)
  refine own_end (t := T2133.setFrames fs) ?_ ⟨_, hrun, hended, _, _, rfl, ?_, ⟨_, rfl⟩, hW, hsame.mono (by decide) (by decide)⟩
  · exact X2133.returnOut hx Bd.returns (hb hby d6_31) hr
  · show Q38 Z a2102 p2118 a2107 k2117 p2108 p2109 p2110 p2111 p2112 p2113 p2114 p2115 p2116 h0 n0 _ T2133.heap _
    rw [e2133]
    exact ⟨rfl, N2133, (((Keep.refl h0 [a2107]).trans K2130 (allS (Or.inl (List.mem_of_getElem? (i := 0) rfl)) all0)).trans K2133 (allS (Or.inl (List.mem_of_getElem? (i := 0) rfl)) all0)), ex2167, vx2168⟩
def Q39 (Z : State) (a2231 : Addr) (a2236 : Addr) (k2246 : ClassId) (p2238 : Int32) (p2239 : Int32) (p2240 : Int32) (p2241 : Int32) (p2237 : Int32) (p2242 : Int32) (p2243 : Int32) (p2244 : Int32) (p2245 : Int32) (h0 : Heap) (n0 : Nat) (v : Option Value) (h : Heap) (L : List Loc) : Prop := v = none ∧ Fr n0 L ∧ Keep h0 h [a2236] ∧ Exa Z h a2236 "[I" ∧ Arv Z h a2236 k2246 .int (16 : Int32) [(.int p2238), (.int p2239), (.int p2240), (.int p2241), (.int p2237), (.int (5 : Int32)), (.int p2243), (.int p2244), (.int p2245)] (.int (0 : Int32))
set_option maxRecDepth 65536 in
set_option maxHeartbeats 40000000 in
theorem rm39 (l : Launch) (Z : State) (a0 : Array Value) (hw : ∀ d ∈ tables_1, d.before a0 Z = true) (ws : List Jvm.Cond) (a2231 : Addr) (a2236 : Addr) (k2246 : ClassId) (p2238 : Int32) (p2239 : Int32) (p2240 : Int32) (p2241 : Int32) (p2237 : Int32) (p2242 : Int32) (p2243 : Int32) (p2244 : Int32) (p2245 : Int32) (h0 : Heap) (n0 : Nat) (O0 : Old Z n0 h0) (pF_a2231_first : Fld Z h0 a2231 zs1 "first" "[I" (.ref a2236)) (pV_a2236 : Arv Z h0 a2236 k2246 .int (16 : Int32) [(.int p2238), (.int p2239), (.int p2240), (.int p2241), (.int p2237), (.int p2242), (.int p2243), (.int p2244), (.int p2245)] (.int (0 : Int32))) (pG_a2236 : n0 ≤ a2236) (pE_a2236 : Exa Z h0 a2236 "[I") :
    MetFree l (⟨zs1, "set", "(II)V"⟩ : MethodName) (head1 (Jvm.Cond.code (⟨zs1, "set", "(II)V"⟩ : MethodName) prog_17_method_29_code 3 none :: ws) ({ frames := 0, cells := 0, slots := 0, locals := 0 } : Room)) (fun a U => a = #[(.ref a2231), (.int (5 : Int32)), (.int (5 : Int32))] ∧ Z.Warmed39 U.vm ∧ U.heap = h0) (fun _ _ _ _ _ => True) (fun _ U o U' => ∃ v L, o = .returned v ∧ Q39 Z a2231 a2236 k2246 p2238 p2239 p2240 p2241 p2237 p2242 p2243 p2244 p2245 h0 n0 v U'.heap L ∧ FrameEnd U o U' L ({ frames := 0, cells := 0, slots := 0, locals := 0 } : Room).cells ({ frames := 0, cells := 0, slots := 0, locals := 0 } : Room).slots) := by
  refine MetFree.of_bodySF (plainFor_of_name pn_1) hisR ?_
  intro p e s m args below meth c s₁ Bd hml0 hP hK
  obtain ⟨rfl, hZ, hh⟩ := hP
  have hx := Bd.exec
  have hby := Bd.bytes
  have hml : c.maxLocals = 3 := hml0
  have hown : s.vm.findClass zs1 = some m.cls := findClass_of_methodNamed Bd.named
  have hnm := (name_of_methodNamed Bd.named Bd.method).1
  have X0 : Stand p l e ({ frames := 0, cells := 0, slots := 0, locals := 0 } : Room) s m #[(.ref a2231), (.int (5 : Int32)), (.int (5 : Int32))] below meth c s₁ [] 0 0 := Stand.of_body Bd
  have e0 : s₁.heap = h0 := by rw [← hh, Bd.state]; rfl
  have N0 := Fr.nil n0
  refine own_out ?_
  refine own_via (fun t k => castTop (ef_5 m a2231 (5 : Int32) (5 : Int32)) (XS.iloadN X0.here hx rfl (hb hby d7_0) rfl (XS.sipush X0.here hx rfl (hb hby d7_1) (XS.icmpNo X0.here hx rfl (hb hby d7_4) rfl (tlt (by decide : (5 : Int32) < (16384 : Int32))).2.1 (XS.aloadN X0.here hx rfl (hb hby d7_7) rfl rfl k))))) ?_
  show own_Goes p e below (s₁.setTop (mkF m 8 #[rv a2231, iv (5 : Int32), iv (5 : Int32)] [(.ref a2231)])) _
  obtain ⟨T2257, X2257, e2257, st2257⟩ := getF X0 hx hZ hown (host := "") (Or.inl (wd hw 26 rfl)) Via.refl e0 pF_a2231_first (g := (mkF m 8 #[rv a2231, iv (5 : Int32), iv (5 : Int32)] [(.ref a2231)])) rfl rfl (hb hby d7_8)
  refine own_via (fun t k => st2257 t (XS.iloadN X2257.here hx rfl (hb hby d7_11) rfl (XS.iloadN X2257.here hx rfl (hb hby d7_12) rfl k))) ?_
  show own_Goes p e below (T2257.setTop (mkF m 13 #[rv a2231, iv (5 : Int32), iv (5 : Int32)] [(.int (5 : Int32)), (.int (5 : Int32)), (.ref a2236)])) _
  obtain ⟨cl2258, Ar2258, qq2258, S2258, M2258, H2258, G2258⟩ := id (pV_a2236)
  have hin2258 : ¬ ((5 : Int32) < 0 ∨ cl2258.slots.size ≤ ((5 : Int32)).toNatClampNeg) := inb_of S2258 ⟨by decide, by decide⟩
  obtain ⟨T2258, h2258, X2258, e2258, W2258, st2258⟩ := stI X2257 hx hZ e2257 Ar2258 (j := (5 : Int32)) hin2258 (g := (mkF m 13 #[rv a2231, iv (5 : Int32), iv (5 : Int32)] [(.int (5 : Int32)), (.int (5 : Int32)), (.ref a2236)])) rfl rfl (hb hby d7_13)
  refine own_via (fun t k => st2258 t k) ?_
  have V2259 : Arv Z h2258 a2236 k2246 .int (16 : Int32) [(.int p2238), (.int p2239), (.int p2240), (.int p2241), (.int p2237), (.int (5 : Int32)), (.int p2243), (.int p2244), (.int p2245)] (.int (0 : Int32)) := Arv.set Ar2258 qq2258 S2258 M2258 H2258 G2258 rfl W2258 5 rfl (Nat.le_of_ble_eq_true rfl)
  have N2258 := Fr.snoc X2258 N0 pG_a2236
  show own_Goes p e below (T2258.setTop (mkF m 14 #[rv a2231, iv (5 : Int32), iv (5 : Int32)] [])) _
  refine own_via (fun t k => XS.goto X2258.here hx rfl (pc0 := 14) (pc' := 33) rfl (hb hby d7_14) (by decide) (by decide) k) ?_
  obtain ⟨fs, hr, hrun, hended, hW, hsame⟩ := X2258.leave (v := none) (fun _ => rfl)
  refine own_end (t := T2258.setFrames fs) ?_ ⟨_, hrun, hended, _, _, rfl, ?_, ⟨_, rfl⟩, hW, hsame.mono (by decide) (by decide)⟩
  · exact X2258.returnOut hx Bd.returns (hb hby d7_33) hr
  have E2260 : Exa Z h2258 a2236 "[I" := (pE_a2236.wr W2258)
  · show Q39 Z a2231 a2236 k2246 p2238 p2239 p2240 p2241 p2237 p2242 p2243 p2244 p2245 h0 n0 _ T2258.heap _
    rw [e2258]
    exact ⟨rfl, N2258, ((Keep.refl h0 [a2236]).wr W2258 (Or.inl (List.mem_of_getElem? (i := 0) rfl))), E2260, V2259⟩
def Q40 (Z : State) (a2199 : Addr) (p2215 : Int32) (a2204 : Addr) (k2214 : ClassId) (p2205 : Int32) (p2206 : Int32) (p2207 : Int32) (p2208 : Int32) (p2209 : Int32) (p2210 : Int32) (p2211 : Int32) (p2212 : Int32) (p2213 : Int32) (h0 : Heap) (n0 : Nat) (v : Option Value) (h : Heap) (L : List Loc) : Prop := v = none ∧ Fr n0 L ∧ Keep h0 h [a2204] ∧ Exa Z h a2204 "[I" ∧ Arv Z h a2204 k2214 .int (16 : Int32) [(.int p2205), (.int p2206), (.int p2207), (.int p2208), (.int p2215), (.int (5 : Int32)), (.int p2211), (.int p2212), (.int p2213)] (.int (0 : Int32))
set_option maxRecDepth 65536 in
set_option maxHeartbeats 40000000 in
theorem rm40 (l : Launch) (Z : State) (a0 : Array Value) (hw : ∀ d ∈ tables_1, d.before a0 Z = true) (ws : List Jvm.Cond) (a2199 : Addr) (p2215 : Int32) (a2204 : Addr) (k2214 : ClassId) (p2205 : Int32) (p2206 : Int32) (p2207 : Int32) (p2208 : Int32) (p2209 : Int32) (p2210 : Int32) (p2211 : Int32) (p2212 : Int32) (p2213 : Int32) (h0 : Heap) (n0 : Nat) (O0 : Old Z n0 h0) (pF_a2199_length : Fld Z h0 a2199 zs1 "length" "I" (.int p2215)) (pF_a2199_first : Fld Z h0 a2199 zs1 "first" "[I" (.ref a2204)) (pV_a2204 : Arv Z h0 a2204 k2214 .int (16 : Int32) [(.int p2205), (.int p2206), (.int p2207), (.int p2208), (.int p2209), (.int p2210), (.int p2211), (.int p2212), (.int p2213)] (.int (0 : Int32))) (pG_a2204 : n0 ≤ a2204) (pE_a2204 : Exa Z h0 a2204 "[I") (pE_a2199 : Exa Z h0 a2199 zs1) (pN_a2199_a2204 : a2199 ≠ a2204) :
    MetFree l (⟨zs1, "close", "(IIZ)V"⟩ : MethodName) (head1 (Jvm.Cond.code (⟨zs1, "close", "(IIZ)V"⟩ : MethodName) prog_17_method_6_code 4 none :: ws) ({ frames := 1, cells := 0, slots := 0, locals := 14 } : Room)) (fun a U => a = #[(.ref a2199), (.int (3 : Int32)), (.int (2 : Int32)), (.int (1 : Int32))] ∧ Z.Warmed39 U.vm ∧ U.heap = h0) (fun _ _ _ _ _ => True) (fun _ U o U' => ∃ v L, o = .returned v ∧ Q40 Z a2199 p2215 a2204 k2214 p2205 p2206 p2207 p2208 p2209 p2210 p2211 p2212 p2213 h0 n0 v U'.heap L ∧ FrameEnd U o U' L ({ frames := 1, cells := 0, slots := 0, locals := 14 } : Room).cells ({ frames := 1, cells := 0, slots := 0, locals := 14 } : Room).slots) := by
  refine MetFree.of_bodySF (plainFor_of_name pn_1) hisR ?_
  intro p e s m args below meth c s₁ Bd hml0 hP hK
  obtain ⟨rfl, hZ, hh⟩ := hP
  have hx := Bd.exec
  have hby := Bd.bytes
  have hml : c.maxLocals = 4 := hml0
  have hown : s.vm.findClass zs1 = some m.cls := findClass_of_methodNamed Bd.named
  have hnm := (name_of_methodNamed Bd.named Bd.method).1
  have X0 : Stand p l e ({ frames := 1, cells := 0, slots := 0, locals := 14 } : Room) s m #[(.ref a2199), (.int (3 : Int32)), (.int (2 : Int32)), (.int (1 : Int32))] below meth c s₁ [] 0 0 := Stand.of_body Bd
  have e0 : s₁.heap = h0 := by rw [← hh, Bd.state]; rfl
  have N0 := Fr.nil n0
  refine own_out ?_
  refine own_via (fun t k => castTop (ef_6 m a2199 (3 : Int32) (2 : Int32) (1 : Int32)) (XS.aloadN X0.here hx rfl (hb hby d6_0) rfl rfl (XS.iloadN X0.here hx rfl (hb hby d6_1) rfl (XS.iconst X0.here hx rfl (hb hby d6_2) (XS.iadd X0.here hx rfl (hb hby d6_3) rfl (XS.aloadN X0.here hx rfl (hb hby d6_4) rfl rfl k)))))) ?_
  show own_Goes p e below (s₁.setTop (mkF m 5 #[rv a2199, iv (3 : Int32), iv (2 : Int32), iv (1 : Int32)] [(.ref a2199), (.int (4 : Int32)), (.ref a2199)])) _
  obtain ⟨T2226, X2226, e2226, st2226⟩ := getF X0 hx hZ hown (host := "") (Or.inl (wd hw 39 rfl)) Via.refl e0 pF_a2199_length (g := (mkF m 5 #[rv a2199, iv (3 : Int32), iv (2 : Int32), iv (1 : Int32)] [(.ref a2199), (.int (4 : Int32)), (.ref a2199)])) rfl rfl (hb hby d6_5)
  refine own_via (fun t k => st2226 t k) ?_
  obtain ⟨cq2227, q2227, q2227'⟩ := pE_a2199.cell
  obtain ⟨_, _, ⟨T2227, L2227, c2227, n2227⟩, -, X2227, ⟨Lc2227, hQ2227, l2227, y2227, z2227⟩, st2227⟩ := X2226.privateBack hx (y := (⟨zs1, "set", "(II)V"⟩ : MethodName)) hown (mvT hZ (wd hw 47 rfl)) (mvT hZ (wd hw 48 rfl)) (own_selPriv (mvT hZ (wd hw 3 rfl)) (mvT hZ (wd hw 48 rfl)) (Cond.privateMethod_at (mvP hZ (wd hw 49 rfl) (args := #[]))) (by decide)) (Cond.privateMethod_at (mvP hZ (wd hw 49 rfl) (args := #[]))) (mvT hZ (wd hw 50 rfl)) (by decide) (backOf (W := 0) (rm11 l Z a0 hw [] a2199 p2215 a2204 k2214 p2205 p2206 p2207 p2208 p2209 p2210 p2211 p2212 p2213 h0 n0 O0 pF_a2199_first pV_a2204 pG_a2204 pE_a2204) hZ (wd hw 50 rfl) (wd hw 4 rfl) (by decide) (by decide)) (g := (mkF m 8 #[rv a2199, iv (3 : Int32), iv (2 : Int32), iv (1 : Int32)] [(.int p2215), (.int (4 : Int32)), (.ref a2199)])) rfl (by rw [hml]; rfl) (Steps.refl _) (a := a2199) (by rw [e2226]; exact q2227) q2227' (argsL := [(.int (4 : Int32)), (.int p2215)]) (rest := []) (lenOf pd_4 rfl) rfl (by show 2 * 0 + _ ≤ _; exact Nat.le_of_eq rfl) (hb hby d6_8) (fun _ _ => ⟨rfl, e2226, (by decide : 0 + 0 ≤ _), (by decide : 0 + 0 ≤ _)⟩)
  dsimp only [Pt.U, Pt.locs, Pt.cells, Pt.slots] at X2227 l2227 y2227 z2227 st2227 hQ2227
  subst l2227 y2227 z2227
  obtain ⟨h2227, e2227⟩ : ∃ z, T2227.heap = z := ⟨_, rfl⟩
  rw [e2227] at hQ2227
  obtain ⟨rfl, Nq2227, K2227, ex2228, vx2229⟩ := hQ2227
  have N2227 := Fr.app N0 Nq2227
  refine own_via (fun t k => st2227.trans (XS.aloadN X2227.here hx rfl (hb hby d6_11) rfl rfl (XS.iloadN X2227.here hx rfl (hb hby d6_12) rfl (XS.iconst X2227.here hx rfl (hb hby d6_13) (XS.iadd X2227.here hx rfl (hb hby d6_14) rfl (XS.iloadN X2227.here hx rfl (hb hby d6_15) rfl (XS.iconst X2227.here hx rfl (hb hby d6_16) (XS.ishl X2227.here hx rfl (hb hby d6_17) rfl (XS.iloadN X2227.here hx rfl (hb hby d6_18) rfl (XS.ifNo X2227.here hx rfl (hb hby d6_19) rfl ((if0 _ _).trans (feq (by decide : ¬ ((1 : Int32) = (0 : Int32)))).1) (XS.iconst X2227.here hx rfl (hb hby d6_22) (XS.goto X2227.here hx rfl (pc0 := 23) (pc' := 27) rfl (hb hby d6_23) (by decide) (by decide) k)))))))))))) ?_
  show own_Goes p e below (T2227.setTop (mkF m 27 #[rv a2199, iv (3 : Int32), iv (2 : Int32), iv (1 : Int32)] [(.int (1 : Int32)), (.int (4 : Int32)), (.int (5 : Int32)), (.ref a2199)])) _
  refine own_via (fun t k => XS.ior X2227.here hx rfl (hb hby d6_27) rfl k) ?_
  have F2261 : Fld Z h2227 a2199 zs1 "first" "[I" (.ref a2204) := (pF_a2199_first.keep K2227 (ninS pN_a2199_a2204 nin0))
  have O2262 : Old Z n0 h2227 := (O0.keep K2227 (allS pG_a2204 all0))
  have E2263 : Exa Z h2227 a2199 zs1 := (pE_a2199.keep K2227)
  obtain ⟨cq2230, q2230, q2230'⟩ := E2263.cell
  obtain ⟨_, _, ⟨T2230, L2230, c2230, n2230⟩, -, X2230, ⟨Lc2230, hQ2230, l2230, y2230, z2230⟩, st2230⟩ := X2227.privateBack hx (y := (⟨zs1, "set", "(II)V"⟩ : MethodName)) hown (mvT hZ (wd hw 47 rfl)) (mvT hZ (wd hw 48 rfl)) (own_selPriv (mvT hZ (wd hw 3 rfl)) (mvT hZ (wd hw 48 rfl)) (Cond.privateMethod_at (mvP hZ (wd hw 49 rfl) (args := #[]))) (by decide)) (Cond.privateMethod_at (mvP hZ (wd hw 49 rfl) (args := #[]))) (mvT hZ (wd hw 50 rfl)) (by decide) (backOf (W := 0) (rm39 l Z a0 hw [] a2199 a2204 k2214 p2205 p2206 p2207 p2208 p2215 p2210 p2211 p2212 p2213 h2227 n0 O2262 F2261 vx2229 pG_a2204 ex2228) hZ (wd hw 50 rfl) (wd hw 4 rfl) (by decide) (by decide)) (g := (mkF m 28 #[rv a2199, iv (3 : Int32), iv (2 : Int32), iv (1 : Int32)] [(.int (5 : Int32)), (.int (5 : Int32)), (.ref a2199)])) rfl (by rw [hml]; rfl) (Steps.refl _) (a := a2199) (by rw [e2227]; exact q2230) q2230' (argsL := [(.int (5 : Int32)), (.int (5 : Int32))]) (rest := []) (lenOf pd_4 rfl) rfl (by show 2 * 0 + _ ≤ _; exact Nat.le_of_eq rfl) (hb hby d6_28) (fun _ _ => ⟨rfl, e2227, (by decide : 0 + 0 ≤ _), (by decide : 0 + 0 ≤ _)⟩)
  dsimp only [Pt.U, Pt.locs, Pt.cells, Pt.slots] at X2230 l2230 y2230 z2230 st2230 hQ2230
  subst l2230 y2230 z2230
  obtain ⟨h2230, e2230⟩ : ∃ z, T2230.heap = z := ⟨_, rfl⟩
  rw [e2230] at hQ2230
  obtain ⟨rfl, Nq2230, K2230, ex2264, vx2265⟩ := hQ2230
  have N2230 := Fr.app N2227 Nq2230
  refine own_via (fun t k => st2230.trans k) ?_
  obtain ⟨fs, hr, hrun, hended, hW, hsame⟩ := X2230.leave (v := none) (fun _ => rfl)
  refine own_end (t := T2230.setFrames fs) ?_ ⟨_, hrun, hended, _, _, rfl, ?_, ⟨_, rfl⟩, hW, hsame.mono (by decide) (by decide)⟩
  · exact X2230.returnOut hx Bd.returns (hb hby d6_31) hr
  · show Q40 Z a2199 p2215 a2204 k2214 p2205 p2206 p2207 p2208 p2209 p2210 p2211 p2212 p2213 h0 n0 _ T2230.heap _
    rw [e2230]
    exact ⟨rfl, N2230, (((Keep.refl h0 [a2204]).trans K2227 (allS (Or.inl (List.mem_of_getElem? (i := 0) rfl)) all0)).trans K2230 (allS (Or.inl (List.mem_of_getElem? (i := 0) rfl)) all0)), ex2264, vx2265⟩
theorem ef_10 (m : MethodId) (x0 : Int32) (x1 : Int32) (x2 : Int32) : entryFrame m #[(.int x0), (.int x1), (.int x2)] maxLocals = mkF m 0 #[iv x0, iv x1, iv x2, .unset, .unset, .unset, .unset, .unset, .unset, .unset, .unset, .unset, .unset, .unset, .unset, .unset, .unset, .unset] [] := by first | (simp [entryFrame, mkF, argsToLocals, Value.category, maxLocals]; done) | rfl
set_option maxRecDepth 65536 in
set_option maxHeartbeats 40000000 in
theorem rm0 (l : Launch) (Z : State) (a0 : Array Value) (hw : ∀ d ∈ tables_1, d.before a0 Z = true) (ws : List Jvm.Cond) (i0 : Int32) (i1 : Int32) (i2 : Int32) (h0 : Heap) (n0 : Nat) (O0 : Old Z n0 h0) :
    MetFree l x (head1 (Jvm.Cond.code x code maxLocals ret :: ws) room_1) (fun a U => a = #[(.int i0), (.int i1), (.int i2)] ∧ Z.Warmed39 U.vm ∧ U.heap = h0) (fun _ _ _ _ _ => True) (fun _ U o U' => ∃ v L, o = .returned v ∧ own_Q0 n0 v L ∧ FrameEnd U o U' L room_1.cells room_1.slots) := by
  refine MetFree.of_bodySF (plainFor_of_name pn_2) hisR ?_
  intro p e s m args below meth c s₁ Bd hml0 hP hK
  obtain ⟨rfl, hZ, hh⟩ := hP
  have hx := Bd.exec
  have hby := Bd.bytes
  have hml : c.maxLocals = 18 := hml0
  have hown : s.vm.findClass zs2 = some m.cls := findClass_of_methodNamed Bd.named
  have hnm := (name_of_methodNamed Bd.named Bd.method).1
  have X0 : Stand p l e room_1 s m #[(.int i0), (.int i1), (.int i2)] below meth c s₁ [] 0 0 := Stand.of_body Bd
  have e0 : s₁.heap = h0 := by rw [← hh, Bd.state]; rfl
  have N0 := Fr.nil n0
  refine own_out ?_
  show own_Goes p e below _ (own_G s below n0)
  refine own_via (fun t k => castTop (ef_10 m i0 i1 i2) (XS.iloadN X0.here hx rfl (hb hby at_0) rfl (XS.i2b X0.here hx rfl (hb hby at_1) rfl (XS.istoreN X0.here hx rfl (hb hby at_2) rfl (l' := #[iv i0, iv i1, iv i2, iv (i0.toInt8.toInt32), .unset, .unset, .unset, .unset, .unset, .unset, .unset, .unset, .unset, .unset, .unset, .unset, .unset, .unset]) rfl (XS.iloadN X0.here hx rfl (hb hby at_3) rfl (XS.i2b X0.here hx rfl (hb hby at_4) rfl (XS.istore X0.here hx rfl (hb hby at_5) rfl (l' := #[iv i0, iv i1, iv i2, iv (i0.toInt8.toInt32), iv (i1.toInt8.toInt32), .unset, .unset, .unset, .unset, .unset, .unset, .unset, .unset, .unset, .unset, .unset, .unset, .unset]) rfl (XS.iconst X0.here hx rfl (hb hby at_7) k)))))))) ?_
  show own_Goes p e below (s₁.setTop (mkF m 8 #[iv i0, iv i1, iv i2, iv (i0.toInt8.toInt32), iv (i1.toInt8.toInt32), .unset, .unset, .unset, .unset, .unset, .unset, .unset, .unset, .unset, .unset, .unset, .unset, .unset] [(.int (2 : Int32))])) _
  obtain ⟨T1, h1, k1, X1, e1, E1, A1, a1x, st1⟩ := newPE X0 hx hZ (wd hw 0 rfl) e0 (g := (mkF m 8 #[iv i0, iv i1, iv i2, iv (i0.toInt8.toInt32), iv (i1.toInt8.toInt32), .unset, .unset, .unset, .unset, .unset, .unset, .unset, .unset, .unset, .unset, .unset, .unset, .unset] [(.int (2 : Int32))])) rfl (hb hby at_8) rfl (by decide) (cap := 2) (by decide) (by decide) (by decide) (by decide) (ad := "[B") (by decide)
  obtain ⟨b2, q1⟩ : ∃ z, z = h0.size := ⟨_, rfl⟩
  rw [← q1] at A1 st1 a1x
  refine own_via (fun t k => st1 t k) ?_
  have g3 : n0 ≤ b2 := Nat.le_trans (own_old O0) (Nat.le_of_eq q1.symm)
  have B4 : h0.size ≤ b2 := Nat.le_trans (Nat.le_refl _) (Nat.le_of_eq q1.symm)
  have V5 : Arv Z h1 b2 k1 .byte (2 : Int32) [] (.int (0 : Int32)) := Arv.new A1 (by decide)
  show own_Goes p e below (T1.setTop (mkF m 10 #[iv i0, iv i1, iv i2, iv (i0.toInt8.toInt32), iv (i1.toInt8.toInt32), .unset, .unset, .unset, .unset, .unset, .unset, .unset, .unset, .unset, .unset, .unset, .unset, .unset] [(.ref b2)])) _
  refine own_via (fun t k => XS.dup X1.here hx rfl (hb hby at_10) rfl rfl (XS.iconst X1.here hx rfl (hb hby at_11) (XS.iloadN X1.here hx rfl (hb hby at_12) rfl k))) ?_
  show own_Goes p e below (T1.setTop (mkF m 13 #[iv i0, iv i1, iv i2, iv (i0.toInt8.toInt32), iv (i1.toInt8.toInt32), .unset, .unset, .unset, .unset, .unset, .unset, .unset, .unset, .unset, .unset, .unset, .unset, .unset] [(.int (i0.toInt8.toInt32)), (.int (0 : Int32)), (.ref b2), (.ref b2)])) _
  have V6 : Arv Z h1 b2 k1 .byte (2 : Int32) [(.int (0 : Int32))] (.int (0 : Int32)) := V5.pad (pad_rep [] (.int (0 : Int32)) 1)
  obtain ⟨cl7, Ar7, qq7, S7, M7, H7, G7⟩ := id (V6)
  have hin7 : ¬ ((0 : Int32) < 0 ∨ cl7.slots.size ≤ ((0 : Int32)).toNatClampNeg) := inb_of S7 ⟨by decide, by decide⟩
  obtain ⟨T7, h7, X7, e7, W7, st7⟩ := stB X1 hx hZ e1 Ar7 (j := (0 : Int32)) hin7 (g := (mkF m 13 #[iv i0, iv i1, iv i2, iv (i0.toInt8.toInt32), iv (i1.toInt8.toInt32), .unset, .unset, .unset, .unset, .unset, .unset, .unset, .unset, .unset, .unset, .unset, .unset, .unset] [(.int (i0.toInt8.toInt32)), (.int (0 : Int32)), (.ref b2), (.ref b2)])) rfl rfl (hb hby at_13)
  refine own_via (fun t k => st7 t k) ?_
  have V8 : Arv Z h7 b2 k1 .byte (2 : Int32) [(.int (i0.toInt8.toInt32))] (.int (0 : Int32)) := by
    have qv := Arv.set Ar7 qq7 S7 M7 H7 G7 (fits_nar_byte _) W7 0 rfl (Nat.le_of_ble_eq_true rfl)
    first | rw [show nar .byte (i0.toInt8.toInt32) = (i0.toInt8.toInt32) from own_b2 _] at qv | rw [own_b2] at qv
    exact qv
  have N7 := Fr.snoc X7 N0 g3
  show own_Goes p e below (T7.setTop (mkF m 14 #[iv i0, iv i1, iv i2, iv (i0.toInt8.toInt32), iv (i1.toInt8.toInt32), .unset, .unset, .unset, .unset, .unset, .unset, .unset, .unset, .unset, .unset, .unset, .unset, .unset] [(.ref b2)])) _
  refine own_via (fun t k => XS.dup X7.here hx rfl (hb hby at_14) rfl rfl (XS.iconst X7.here hx rfl (hb hby at_15) (XS.iload X7.here hx rfl (hb hby at_16) rfl k))) ?_
  show own_Goes p e below (T7.setTop (mkF m 18 #[iv i0, iv i1, iv i2, iv (i0.toInt8.toInt32), iv (i1.toInt8.toInt32), .unset, .unset, .unset, .unset, .unset, .unset, .unset, .unset, .unset, .unset, .unset, .unset, .unset] [(.int (i1.toInt8.toInt32)), (.int (1 : Int32)), (.ref b2), (.ref b2)])) _
  have V9 : Arv Z h7 b2 k1 .byte (2 : Int32) [(.int (i0.toInt8.toInt32)), (.int (0 : Int32))] (.int (0 : Int32)) := V8.pad (pad_rep [(.int (i0.toInt8.toInt32))] (.int (0 : Int32)) 1)
  obtain ⟨cl10, Ar10, qq10, S10, M10, H10, G10⟩ := id (V9)
  have hin10 : ¬ ((1 : Int32) < 0 ∨ cl10.slots.size ≤ ((1 : Int32)).toNatClampNeg) := inb_of S10 ⟨by decide, by decide⟩
  obtain ⟨T10, h10, X10, e10, W10, st10⟩ := stB X7 hx hZ e7 Ar10 (j := (1 : Int32)) hin10 (g := (mkF m 18 #[iv i0, iv i1, iv i2, iv (i0.toInt8.toInt32), iv (i1.toInt8.toInt32), .unset, .unset, .unset, .unset, .unset, .unset, .unset, .unset, .unset, .unset, .unset, .unset, .unset] [(.int (i1.toInt8.toInt32)), (.int (1 : Int32)), (.ref b2), (.ref b2)])) rfl rfl (hb hby at_18)
  refine own_via (fun t k => st10 t k) ?_
  have V11 : Arv Z h10 b2 k1 .byte (2 : Int32) [(.int (i0.toInt8.toInt32)), (.int (i1.toInt8.toInt32))] (.int (0 : Int32)) := by
    have qv := Arv.set Ar10 qq10 S10 M10 H10 G10 (fits_nar_byte _) W10 1 rfl (Nat.le_of_ble_eq_true rfl)
    first | rw [show nar .byte (i1.toInt8.toInt32) = (i1.toInt8.toInt32) from own_b2 _] at qv | rw [own_b2] at qv
    exact qv
  have N10 := Fr.snoc X10 N7 g3
  show own_Goes p e below (T10.setTop (mkF m 19 #[iv i0, iv i1, iv i2, iv (i0.toInt8.toInt32), iv (i1.toInt8.toInt32), .unset, .unset, .unset, .unset, .unset, .unset, .unset, .unset, .unset, .unset, .unset, .unset, .unset] [(.ref b2)])) _
  refine own_via (fun t k => XS.astore X10.here hx rfl (hb hby at_19) rfl rfl (l' := #[iv i0, iv i1, iv i2, iv (i0.toInt8.toInt32), iv (i1.toInt8.toInt32), rv b2, .unset, .unset, .unset, .unset, .unset, .unset, .unset, .unset, .unset, .unset, .unset, .unset]) rfl (XS.iloadN X10.here hx rfl (hb hby at_21) rfl (X10.ldcInt hx hown (mvT hZ (wd hw 1 rfl)) (g := (mkF m 22 #[iv i0, iv i1, iv i2, iv (i0.toInt8.toInt32), iv (i1.toInt8.toInt32), rv b2, .unset, .unset, .unset, .unset, .unset, .unset, .unset, .unset, .unset, .unset, .unset, .unset] [(.int i2)])) rfl (hb hby at_22) t (XS.iand X10.here hx rfl (hb hby at_24) rfl (XS.iconst X10.here hx rfl (hb hby at_25) (iremM (g := (mkF m 26 #[iv i0, iv i1, iv i2, iv (i0.toInt8.toInt32), iv (i1.toInt8.toInt32), rv b2, .unset, .unset, .unset, .unset, .unset, .unset, .unset, .unset, .unset, .unset, .unset, .unset] [(.int (3 : Int32)), (.int (i2 &&& (2147483647 : Int32)))])) X10 hx rfl (hb hby at_26) rfl (by decide) (XS.istore X10.here hx rfl (hb hby at_27) rfl (l' := #[iv i0, iv i1, iv i2, iv (i0.toInt8.toInt32), iv (i1.toInt8.toInt32), rv b2, iv ((i2 &&& (2147483647 : Int32)) % (3 : Int32)), .unset, .unset, .unset, .unset, .unset, .unset, .unset, .unset, .unset, .unset, .unset]) rfl (XS.iloadN X10.here hx rfl (hb hby at_29) rfl (XS.iconst X10.here hx rfl (hb hby at_30) (XS.iushr X10.here hx rfl (hb hby at_31) rfl (XS.iconst X10.here hx rfl (hb hby at_32) (XS.iand X10.here hx rfl (hb hby at_33) rfl k)))))))))))) ?_
  show own_Goes p e below (T10.setTop (mkF m 34 #[iv i0, iv i1, iv i2, iv (i0.toInt8.toInt32), iv (i1.toInt8.toInt32), rv b2, iv ((i2 &&& (2147483647 : Int32)) % (3 : Int32)), .unset, .unset, .unset, .unset, .unset, .unset, .unset, .unset, .unset, .unset, .unset] [(.int (((i2.toUInt32 >>> ((4 : Int32) &&& 31).toUInt32).toInt32) &&& (1 : Int32)))])) _
  refine own_via (fun t k => XS.istore X10.here hx rfl (hb hby at_34) rfl (l' := #[iv i0, iv i1, iv i2, iv (i0.toInt8.toInt32), iv (i1.toInt8.toInt32), rv b2, iv ((i2 &&& (2147483647 : Int32)) % (3 : Int32)), iv (((i2.toUInt32 >>> ((4 : Int32) &&& 31).toUInt32).toInt32) &&& (1 : Int32)), .unset, .unset, .unset, .unset, .unset, .unset, .unset, .unset, .unset, .unset]) rfl (XS.iloadN X10.here hx rfl (hb hby at_36) rfl (XS.bipush X10.here hx rfl (hb hby at_37) (XS.iushr X10.here hx rfl (hb hby at_39) rfl (XS.iconst X10.here hx rfl (hb hby at_40) (XS.iand X10.here hx rfl (hb hby at_41) rfl k)))))) ?_
  show own_Goes p e below (T10.setTop (mkF m 42 #[iv i0, iv i1, iv i2, iv (i0.toInt8.toInt32), iv (i1.toInt8.toInt32), rv b2, iv ((i2 &&& (2147483647 : Int32)) % (3 : Int32)), iv (((i2.toUInt32 >>> ((4 : Int32) &&& 31).toUInt32).toInt32) &&& (1 : Int32)), .unset, .unset, .unset, .unset, .unset, .unset, .unset, .unset, .unset, .unset] [(.int (((i2.toUInt32 >>> ((8 : Int32) &&& 31).toUInt32).toInt32) &&& (1 : Int32)))])) _
  by_cases hc12 : (((i2.toUInt32 >>> ((8 : Int32) &&& 31).toUInt32).toInt32) &&& (1 : Int32)) = (0 : Int32)
  · refine own_via (fun t k => XS.ifYes X10.here hx rfl (pc0 := 42) (pc' := 49) rfl (hb hby at_42) rfl ((if0 _ _).trans (teq hc12).1) (by decide) (by decide) (XS.iconst X10.here hx rfl (hb hby at_49) (XS.istore X10.here hx rfl (hb hby at_50) rfl (l' := #[iv i0, iv i1, iv i2, iv (i0.toInt8.toInt32), iv (i1.toInt8.toInt32), rv b2, iv ((i2 &&& (2147483647 : Int32)) % (3 : Int32)), iv (((i2.toUInt32 >>> ((4 : Int32) &&& 31).toUInt32).toInt32) &&& (1 : Int32)), iv (0 : Int32), .unset, .unset, .unset, .unset, .unset, .unset, .unset, .unset, .unset]) rfl k))) ?_
    show own_Goes p e below (T10.setTop (mkF m 52 #[iv i0, iv i1, iv i2, iv (i0.toInt8.toInt32), iv (i1.toInt8.toInt32), rv b2, iv ((i2 &&& (2147483647 : Int32)) % (3 : Int32)), iv (((i2.toUInt32 >>> ((4 : Int32) &&& 31).toUInt32).toInt32) &&& (1 : Int32)), iv (0 : Int32), .unset, .unset, .unset, .unset, .unset, .unset, .unset, .unset, .unset] [])) _
    obtain ⟨T13, h13, X13, e13, E13, A13, D13, -, st13⟩ := newO X10 hx hZ hown (wd hw 2 rfl) (wd hw 3 rfl) (wd hw 4 rfl) e10 (g := (mkF m 52 #[iv i0, iv i1, iv i2, iv (i0.toInt8.toInt32), iv (i1.toInt8.toInt32), rv b2, iv ((i2 &&& (2147483647 : Int32)) % (3 : Int32)), iv (((i2.toUInt32 >>> ((4 : Int32) &&& 31).toUInt32).toInt32) &&& (1 : Int32)), iv (0 : Int32), .unset, .unset, .unset, .unset, .unset, .unset, .unset, .unset, .unset] [])) rfl (hb hby at_52) (by decide) (by decide)
    obtain ⟨b14, q13⟩ : ∃ z, z = h10.size := ⟨_, rfl⟩
    rw [← q13] at A13 D13 st13
    refine own_via (fun t k => st13 t k) ?_
    have E16 : Exa Z h10 b2 "[B" := ((a1x.wr W7).wr W10)
    have N15 : b2 ≠ b14 := Nat.ne_of_lt (Nat.lt_of_lt_of_le E16.lt (Nat.le_of_eq q13.symm))
    have O18 : Old Z n0 h10 := (((O0.ext E1).wr W7 g3).wr W10 g3)
    have g17 : n0 ≤ b14 := Nat.le_trans (own_old O18) (Nat.le_of_eq q13.symm)
    have Z20 : h0.size ≤ h10.size := (Nat.le_trans (Nat.le_trans (Nat.le_trans (Nat.le_refl _) E1.1) (Nat.le_of_eq W7.size.symm)) (Nat.le_of_eq W10.size.symm))
    have B19 : h0.size ≤ b14 := Nat.le_trans Z20 (Nat.le_of_eq q13.symm)
    have F21 : Fld Z h13 b14 zs1 "kept" zs4 .null := D13 (Or.inr (wd hw 14 rfl)) (ty := (.array (.object zs3))) (by decide)
    have F22 : Fld Z h13 b14 zs1 "chunks" "[[I" .null := D13 (Or.inl (wd hw 18 rfl)) (ty := (.array (.array .int))) (by decide)
    have F23 : Fld Z h13 b14 zs1 "text" "[B" .null := D13 (Or.inr (wd hw 20 rfl)) (ty := (.array .byte)) (by decide)
    have F24 : Fld Z h13 b14 zs1 "first" "[I" .null := D13 (Or.inl (wd hw 27 rfl)) (ty := (.array .int)) (by decide)
    have F25 : Fld Z h13 b14 zs1 "length" "I" (.int (0 : Int32)) := D13 (Or.inl (wd hw 40 rfl)) (ty := .int) (by decide)
    show own_Goes p e below (T13.setTop (mkF m 55 #[iv i0, iv i1, iv i2, iv (i0.toInt8.toInt32), iv (i1.toInt8.toInt32), rv b2, iv ((i2 &&& (2147483647 : Int32)) % (3 : Int32)), iv (((i2.toUInt32 >>> ((4 : Int32) &&& 31).toUInt32).toInt32) &&& (1 : Int32)), iv (0 : Int32), .unset, .unset, .unset, .unset, .unset, .unset, .unset, .unset, .unset] [(.ref b14)])) _
    refine own_via (fun t k => XS.dup X13.here hx rfl (hb hby at_55) rfl rfl (XS.aload X13.here hx rfl (hb hby at_56) rfl rfl k)) ?_
    have V117 : Arv Z h13 b2 k1 .byte (2 : Int32) [(.int (i0.toInt8.toInt32)), (.int (i1.toInt8.toInt32))] (.int (0 : Int32)) := (V11.ext E13)
    have l118 : own_Len Z h13 b2 .byte (2 : Int32) := ⟨_, _, _, V117⟩
    have O119 : Old Z n0 h13 := (O18.ext E13)
    obtain ⟨_, T26, _, X26, hQ26, st26⟩ := own_ci X13 hx hZ hown (wd hw 5 rfl) (wd hw 6 rfl) (wd hw 7 rfl) (wd hw 4 rfl) rfl (by decide) (rm2 l Z a0 hw [] b14 b2 (0 : Int32) h13 n0 O119 F21 A13 g17 F22 F23 l118 N15 F24 F25) e13 (g := (mkF m 58 #[iv i0, iv i1, iv i2, iv (i0.toInt8.toInt32), iv (i1.toInt8.toInt32), rv b2, iv ((i2 &&& (2147483647 : Int32)) % (3 : Int32)), iv (((i2.toUInt32 >>> ((4 : Int32) &&& 31).toUInt32).toInt32) &&& (1 : Int32)), iv (0 : Int32), .unset, .unset, .unset, .unset, .unset, .unset, .unset, .unset, .unset] [(.ref b2), (.ref b14), (.ref b14)])) rfl (by rw [hml]; rfl) (rest := [(.ref b14)]) (W := 1) (lenOf pd_2 rfl) rfl (by show 2 * 0 + _ ≤ _; exact Nat.le_of_eq rfl) (hb hby at_58) (by decide) (by decide) (by decide) (by decide)
    obtain ⟨h26, e26⟩ : ∃ z, T26.heap = z := ⟨_, rfl⟩
    rw [e26] at hQ26
    obtain ⟨b120, k121, rfl, Nq26, K26, ex122, fx123, fx124, fx125, bx126, vx127, ex128⟩ := hQ26
    have N26 := Fr.app N10 Nq26
    have E130 : Exa Z h13 b2 "[B" := (E16.ext E13)
    have N129 : b2 ≠ b120 := Nat.ne_of_lt (Nat.lt_of_lt_of_le E130.lt bx126)
    have N131 : b14 ≠ b120 := Nat.ne_of_lt (Nat.lt_of_lt_of_le A13.lt bx126)
    have g132 : n0 ≤ b120 := Nat.le_trans (own_old O119) bx126
    have Z134 : h0.size ≤ h13.size := (Nat.le_trans Z20 E13.1)
    have B133 : h0.size ≤ b120 := Nat.le_trans Z134 bx126
    refine own_via (fun t k => st26 t (XS.astore X26.here hx rfl (hb hby at_61) rfl rfl (l' := #[iv i0, iv i1, iv i2, iv (i0.toInt8.toInt32), iv (i1.toInt8.toInt32), rv b2, iv ((i2 &&& (2147483647 : Int32)) % (3 : Int32)), iv (((i2.toUInt32 >>> ((4 : Int32) &&& 31).toUInt32).toInt32) &&& (1 : Int32)), iv (0 : Int32), rv b14, .unset, .unset, .unset, .unset, .unset, .unset, .unset, .unset]) rfl (XS.aload X26.here hx rfl (hb hby at_63) rfl rfl (XS.iconst X26.here hx rfl (hb hby at_65) k)))) ?_
    show own_Goes p e below (T26.setTop (mkF m 66 #[iv i0, iv i1, iv i2, iv (i0.toInt8.toInt32), iv (i1.toInt8.toInt32), rv b2, iv ((i2 &&& (2147483647 : Int32)) % (3 : Int32)), iv (((i2.toUInt32 >>> ((4 : Int32) &&& 31).toUInt32).toInt32) &&& (1 : Int32)), iv (0 : Int32), rv b14, .unset, .unset, .unset, .unset, .unset, .unset, .unset, .unset] [(.int (0 : Int32)), (.ref b14)])) _
    have l309 : own_Len Z h26 b120 .int (16 : Int32) := ⟨_, _, _, vx127⟩
    have O310 : Old Z n0 h26 := (O119.keep K26 (allS g17 all0))
    obtain ⟨_, T135, _, X135, hQ135, st135⟩ := own_cv X26 hx hZ hown (wd hw 29 rfl) (wd hw 30 rfl) (wd hw 32 rfl) (wd hw 31 rfl) (wd hw 33 rfl) (wd hw 4 rfl) (by decide) (rm6 l Z a0 hw [] b14 b120 k121 (0 : Int32) (0 : Int32) (0 : Int32) (0 : Int32) (0 : Int32) (0 : Int32) (0 : Int32) (0 : Int32) (0 : Int32) b2 h26 n0 O310 fx125 fx124 l309 vx127 g132 N131 ex122 g17 ex128 fx123) e26 ex122 (g := (mkF m 66 #[iv i0, iv i1, iv i2, iv (i0.toInt8.toInt32), iv (i1.toInt8.toInt32), rv b2, iv ((i2 &&& (2147483647 : Int32)) % (3 : Int32)), iv (((i2.toUInt32 >>> ((4 : Int32) &&& 31).toUInt32).toInt32) &&& (1 : Int32)), iv (0 : Int32), rv b14, .unset, .unset, .unset, .unset, .unset, .unset, .unset, .unset] [(.int (0 : Int32)), (.ref b14)])) rfl (by rw [hml]; rfl) (rest := []) (W := 0) (lenOf pd_3 rfl) rfl (by show 2 * 0 + _ ≤ _; exact Nat.le_of_eq rfl) (hb hby at_66) (by decide) (by decide) (by decide) (by decide)
    obtain ⟨h135, e135⟩ : ∃ z, T135.heap = z := ⟨_, rfl⟩
    rw [e135] at hQ135
    obtain ⟨rfl, Nq135, K135, ex311, vx312, ex313, fx314, fx315, fx316⟩ := hQ135
    have N135 := Fr.app N26 Nq135
    refine own_via (fun t k => st135 t (XS.istore X135.here hx rfl (hb hby at_69) rfl (l' := #[iv i0, iv i1, iv i2, iv (i0.toInt8.toInt32), iv (i1.toInt8.toInt32), rv b2, iv ((i2 &&& (2147483647 : Int32)) % (3 : Int32)), iv (((i2.toUInt32 >>> ((4 : Int32) &&& 31).toUInt32).toInt32) &&& (1 : Int32)), iv (0 : Int32), rv b14, iv (0 : Int32), .unset, .unset, .unset, .unset, .unset, .unset, .unset]) rfl (XS.aload X135.here hx rfl (hb hby at_71) rfl rfl (XS.iconst X135.here hx rfl (hb hby at_73) k)))) ?_
    show own_Goes p e below (T135.setTop (mkF m 74 #[iv i0, iv i1, iv i2, iv (i0.toInt8.toInt32), iv (i1.toInt8.toInt32), rv b2, iv ((i2 &&& (2147483647 : Int32)) % (3 : Int32)), iv (((i2.toUInt32 >>> ((4 : Int32) &&& 31).toUInt32).toInt32) &&& (1 : Int32)), iv (0 : Int32), rv b14, iv (0 : Int32), .unset, .unset, .unset, .unset, .unset, .unset, .unset] [(.int (1 : Int32)), (.ref b14)])) _
    have l491 : own_Len Z h135 b120 .int (16 : Int32) := ⟨_, _, _, vx312⟩
    have O492 : Old Z n0 h135 := (O310.keep K135 (allS g132 (allS g17 all0)))
    obtain ⟨_, T317, _, X317, hQ317, st317⟩ := own_cv X135 hx hZ hown (wd hw 29 rfl) (wd hw 30 rfl) (wd hw 32 rfl) (wd hw 31 rfl) (wd hw 33 rfl) (wd hw 4 rfl) (by decide) (rm10 l Z a0 hw [] b14 b120 k121 (0 : Int32) (0 : Int32) (0 : Int32) (0 : Int32) (0 : Int32) (0 : Int32) (0 : Int32) (0 : Int32) (0 : Int32) b2 h135 n0 O492 fx316 fx315 l491 vx312 g132 N131 ex313 g17 ex311 fx314) e135 ex313 (g := (mkF m 74 #[iv i0, iv i1, iv i2, iv (i0.toInt8.toInt32), iv (i1.toInt8.toInt32), rv b2, iv ((i2 &&& (2147483647 : Int32)) % (3 : Int32)), iv (((i2.toUInt32 >>> ((4 : Int32) &&& 31).toUInt32).toInt32) &&& (1 : Int32)), iv (0 : Int32), rv b14, iv (0 : Int32), .unset, .unset, .unset, .unset, .unset, .unset, .unset] [(.int (1 : Int32)), (.ref b14)])) rfl (by rw [hml]; rfl) (rest := []) (W := 0) (lenOf pd_3 rfl) rfl (by show 2 * 0 + _ ≤ _; exact Nat.le_of_eq rfl) (hb hby at_74) (by decide) (by decide) (by decide) (by decide)
    obtain ⟨h317, e317⟩ : ∃ z, T317.heap = z := ⟨_, rfl⟩
    rw [e317] at hQ317
    obtain ⟨rfl, Nq317, K317, ex493, vx494, ex495, fx496, fx497, fx498⟩ := hQ317
    have N317 := Fr.app N135 Nq317
    refine own_via (fun t k => st317 t (XS.istore X317.here hx rfl (hb hby at_77) rfl (l' := #[iv i0, iv i1, iv i2, iv (i0.toInt8.toInt32), iv (i1.toInt8.toInt32), rv b2, iv ((i2 &&& (2147483647 : Int32)) % (3 : Int32)), iv (((i2.toUInt32 >>> ((4 : Int32) &&& 31).toUInt32).toInt32) &&& (1 : Int32)), iv (0 : Int32), rv b14, iv (0 : Int32), iv (3 : Int32), .unset, .unset, .unset, .unset, .unset, .unset]) rfl k)) ?_
    show own_Goes p e below (T317.setTop (mkF m 79 #[iv i0, iv i1, iv i2, iv (i0.toInt8.toInt32), iv (i1.toInt8.toInt32), rv b2, iv ((i2 &&& (2147483647 : Int32)) % (3 : Int32)), iv (((i2.toUInt32 >>> ((4 : Int32) &&& 31).toUInt32).toInt32) &&& (1 : Int32)), iv (0 : Int32), rv b14, iv (0 : Int32), iv (3 : Int32), .unset, .unset, .unset, .unset, .unset, .unset] [])) _
    rcases own_mod_3 i2 with qs | qs | qs
    · have qs499 := qs
      rw [qs]
      show own_Goes p e below (T317.setTop (mkF m 79 #[iv i0, iv i1, iv i2, iv (i0.toInt8.toInt32), iv (i1.toInt8.toInt32), rv b2, iv (0 : Int32), iv (((i2.toUInt32 >>> ((4 : Int32) &&& 31).toUInt32).toInt32) &&& (1 : Int32)), iv (0 : Int32), rv b14, iv (0 : Int32), iv (3 : Int32), .unset, .unset, .unset, .unset, .unset, .unset] [])) _
      refine own_via (fun t k => XS.iload X317.here hx rfl (hb hby at_79) rfl (XS.ifYes X317.here hx rfl (pc0 := 81) (pc' := 91) rfl (hb hby at_81) rfl ((if0 _ _).trans (flt (by decide : ¬ ((0 : Int32) < (0 : Int32)))).2.2.2) (by decide) (by decide) (XS.iload X317.here hx rfl (hb hby at_91) rfl (XS.iconst X317.here hx rfl (hb hby at_93) (XS.icmpYes X317.here hx rfl (pc0 := 94) (pc' := 104) rfl (hb hby at_94) rfl (flt (by decide : ¬ ((1 : Int32) < (0 : Int32)))).2.2.2 (by decide) (by decide) (XS.aload X317.here hx rfl (hb hby at_104) rfl rfl (XS.iload X317.here hx rfl (hb hby at_106) rfl (XS.iload X317.here hx rfl (hb hby at_108) rfl (XS.iload X317.here hx rfl (hb hby at_110) rfl k))))))))) ?_
      show own_Goes p e below (T317.setTop (mkF m 112 #[iv i0, iv i1, iv i2, iv (i0.toInt8.toInt32), iv (i1.toInt8.toInt32), rv b2, iv (0 : Int32), iv (((i2.toUInt32 >>> ((4 : Int32) &&& 31).toUInt32).toInt32) &&& (1 : Int32)), iv (0 : Int32), rv b14, iv (0 : Int32), iv (3 : Int32), .unset, .unset, .unset, .unset, .unset, .unset] [(.int (0 : Int32)), (.int (0 : Int32)), (.int (3 : Int32)), (.ref b14)])) _
      have O599 : Old Z n0 h317 := (O492.keep K317 (allS g132 (allS g17 all0)))
      obtain ⟨_, T500, _, X500, hQ500, st500⟩ := own_cv X317 hx hZ hown (wd hw 42 rfl) (wd hw 43 rfl) (wd hw 45 rfl) (wd hw 44 rfl) (wd hw 46 rfl) (wd hw 4 rfl) (by decide) (rm13 l Z a0 hw [] b14 (6 : Int32) b120 k121 (0 : Int32) (0 : Int32) (0 : Int32) (1 : Int32) (0 : Int32) (0 : Int32) (0 : Int32) (0 : Int32) (0 : Int32) h317 n0 O599 fx498 fx497 vx494 g132 ex493 ex495 N131) e317 ex495 (g := (mkF m 112 #[iv i0, iv i1, iv i2, iv (i0.toInt8.toInt32), iv (i1.toInt8.toInt32), rv b2, iv (0 : Int32), iv (((i2.toUInt32 >>> ((4 : Int32) &&& 31).toUInt32).toInt32) &&& (1 : Int32)), iv (0 : Int32), rv b14, iv (0 : Int32), iv (3 : Int32), .unset, .unset, .unset, .unset, .unset, .unset] [(.int (0 : Int32)), (.int (0 : Int32)), (.int (3 : Int32)), (.ref b14)])) rfl (by rw [hml]; rfl) (rest := []) (W := 0) (lenOf pd_5 rfl) rfl (by show 2 * 0 + _ ≤ _; exact Nat.le_of_eq rfl) (hb hby at_112) (by decide) (by decide) (by decide) (by decide)
      obtain ⟨h500, e500⟩ : ∃ z, T500.heap = z := ⟨_, rfl⟩
      rw [e500] at hQ500
      obtain ⟨rfl, Nq500, K500, ex600, vx601⟩ := hQ500
      have N500 := Fr.app N317 Nq500
      refine own_via (fun t k => st500 t k) ?_
      have F1318 : Fld Z h500 b14 zs1 "length" "I" (.int (6 : Int32)) := (fx498.keep K500 (ninS N131 nin0))
      have F1319 : Fld Z h500 b14 zs1 "first" "[I" (.ref b120) := (fx497.keep K500 (ninS N131 nin0))
      have E1320 : Exa Z h500 b14 zs1 := (ex495.keep K500)
      have F1321 : Fld Z h500 b14 zs1 "text" "[B" (.ref b2) := (fx496.keep K500 (ninS N131 nin0))
      have V1322 : Arv Z h500 b2 k1 .byte (2 : Int32) [(.int (i0.toInt8.toInt32)), (.int (i1.toInt8.toInt32))] (.int (0 : Int32)) := ((((V117.keep K26 (ninS N15 nin0)).keep K135 (ninS N129 (ninS N15 nin0))).keep K317 (ninS N129 (ninS N15 nin0))).keep K500 (ninS N129 nin0))
      have l1323 : own_Len Z h500 b120 .int (16 : Int32) := ⟨_, _, _, vx601⟩
      have O1324 : Old Z n0 h500 := (O599.keep K500 (allS g132 all0))
      exact sfx3 l Z a0 hw ws i0 i1 i2 i0 i1 i2 (i0.toInt8.toInt32) (i1.toInt8.toInt32) b2 (((i2.toUInt32 >>> ((4 : Int32) &&& 31).toUInt32).toInt32) &&& (1 : Int32)) (0 : Int32) b14 b120 k121 (0 : Int32) (0 : Int32) k1 Bd hZ hml (X500.more (by decide) (by decide)) h500 e500 n0 O1324 N500 (own_nn_mask ((i2.toUInt32 >>> ((4 : Int32) &&& 31).toUInt32).toInt32) (1 : Int32) 1 (by decide) (by decide)) (own_lt_mask ((i2.toUInt32 >>> ((4 : Int32) &&& 31).toUInt32).toInt32) (1 : Int32) 1 (by decide) (by decide) (by decide)) F1318 F1319 vx601 g132 ex600 E1320 N131 F1321 V1322 N129 l1323 g17 N15
    · have qs1325 := qs
      rw [qs]
      show own_Goes p e below (T317.setTop (mkF m 79 #[iv i0, iv i1, iv i2, iv (i0.toInt8.toInt32), iv (i1.toInt8.toInt32), rv b2, iv (1 : Int32), iv (((i2.toUInt32 >>> ((4 : Int32) &&& 31).toUInt32).toInt32) &&& (1 : Int32)), iv (0 : Int32), rv b14, iv (0 : Int32), iv (3 : Int32), .unset, .unset, .unset, .unset, .unset, .unset] [])) _
      refine own_via (fun t k => XS.iload X317.here hx rfl (hb hby at_79) rfl (XS.ifNo X317.here hx rfl (hb hby at_81) rfl ((if0 _ _).trans (tlt (by decide : (0 : Int32) < (1 : Int32))).2.2.2) (XS.aload X317.here hx rfl (hb hby at_84) rfl rfl (XS.iconst X317.here hx rfl (hb hby at_86) k)))) ?_
      show own_Goes p e below (T317.setTop (mkF m 87 #[iv i0, iv i1, iv i2, iv (i0.toInt8.toInt32), iv (i1.toInt8.toInt32), rv b2, iv (1 : Int32), iv (((i2.toUInt32 >>> ((4 : Int32) &&& 31).toUInt32).toInt32) &&& (1 : Int32)), iv (0 : Int32), rv b14, iv (0 : Int32), iv (3 : Int32), .unset, .unset, .unset, .unset, .unset, .unset] [(.int (1 : Int32)), (.ref b14)])) _
      have l1327 : own_Len Z h317 b120 .int (16 : Int32) := ⟨_, _, _, vx494⟩
      have O1328 : Old Z n0 h317 := (O492.keep K317 (allS g132 (allS g17 all0)))
      obtain ⟨_, T1326, _, X1326, hQ1326, st1326⟩ := own_cv X317 hx hZ hown (wd hw 41 rfl) (wd hw 35 rfl) (wd hw 37 rfl) (wd hw 36 rfl) (wd hw 38 rfl) (wd hw 4 rfl) (by decide) (rm26 l Z a0 hw [] b14 b120 k121 (0 : Int32) (0 : Int32) (0 : Int32) (1 : Int32) (0 : Int32) (0 : Int32) (0 : Int32) (0 : Int32) (0 : Int32) b2 h317 n0 O1328 fx498 fx497 l1327 vx494 g132 N131 ex495 g17 ex493 fx496) e317 ex495 (g := (mkF m 87 #[iv i0, iv i1, iv i2, iv (i0.toInt8.toInt32), iv (i1.toInt8.toInt32), rv b2, iv (1 : Int32), iv (((i2.toUInt32 >>> ((4 : Int32) &&& 31).toUInt32).toInt32) &&& (1 : Int32)), iv (0 : Int32), rv b14, iv (0 : Int32), iv (3 : Int32), .unset, .unset, .unset, .unset, .unset, .unset] [(.int (1 : Int32)), (.ref b14)])) rfl (by rw [hml]; rfl) (rest := []) (W := 0) (lenOf pd_3 rfl) rfl (by show 2 * 0 + _ ≤ _; exact Nat.le_of_eq rfl) (hb hby at_87) (by decide) (by decide) (by decide) (by decide)
      obtain ⟨h1326, e1326⟩ : ∃ z, T1326.heap = z := ⟨_, rfl⟩
      rw [e1326] at hQ1326
      obtain ⟨rfl, Nq1326, K1326, ex1329, vx1330, ex1331, fx1332, fx1333, fx1334⟩ := hQ1326
      have N1326 := Fr.app N317 Nq1326
      refine own_via (fun t k => st1326 t (XS.pop X1326.here hx rfl (hb hby at_90) rfl rfl (XS.iload X1326.here hx rfl (hb hby at_91) rfl (XS.iconst X1326.here hx rfl (hb hby at_93) (XS.icmpYes X1326.here hx rfl (pc0 := 94) (pc' := 104) rfl (hb hby at_94) rfl (flt (by decide : ¬ ((1 : Int32) < (1 : Int32)))).2.2.2 (by decide) (by decide) (XS.aload X1326.here hx rfl (hb hby at_104) rfl rfl (XS.iload X1326.here hx rfl (hb hby at_106) rfl (XS.iload X1326.here hx rfl (hb hby at_108) rfl (XS.iload X1326.here hx rfl (hb hby at_110) rfl k))))))))) ?_
      show own_Goes p e below (T1326.setTop (mkF m 112 #[iv i0, iv i1, iv i2, iv (i0.toInt8.toInt32), iv (i1.toInt8.toInt32), rv b2, iv (1 : Int32), iv (((i2.toUInt32 >>> ((4 : Int32) &&& 31).toUInt32).toInt32) &&& (1 : Int32)), iv (0 : Int32), rv b14, iv (0 : Int32), iv (3 : Int32), .unset, .unset, .unset, .unset, .unset, .unset] [(.int (0 : Int32)), (.int (1 : Int32)), (.int (3 : Int32)), (.ref b14)])) _
      have O1403 : Old Z n0 h1326 := (O1328.keep K1326 (allS g132 (allS g17 all0)))
      obtain ⟨_, T1335, _, X1335, hQ1335, st1335⟩ := own_cv X1326 hx hZ hown (wd hw 42 rfl) (wd hw 43 rfl) (wd hw 45 rfl) (wd hw 44 rfl) (wd hw 46 rfl) (wd hw 4 rfl) (by decide) (rm30 l Z a0 hw [] b14 (7 : Int32) b120 k121 (0 : Int32) (0 : Int32) (0 : Int32) (1 : Int32) (0 : Int32) (0 : Int32) (1 : Int32) (0 : Int32) (0 : Int32) h1326 n0 O1403 fx1334 fx1333 vx1330 g132 ex1329 ex1331 N131) e1326 ex1331 (g := (mkF m 112 #[iv i0, iv i1, iv i2, iv (i0.toInt8.toInt32), iv (i1.toInt8.toInt32), rv b2, iv (1 : Int32), iv (((i2.toUInt32 >>> ((4 : Int32) &&& 31).toUInt32).toInt32) &&& (1 : Int32)), iv (0 : Int32), rv b14, iv (0 : Int32), iv (3 : Int32), .unset, .unset, .unset, .unset, .unset, .unset] [(.int (0 : Int32)), (.int (1 : Int32)), (.int (3 : Int32)), (.ref b14)])) rfl (by rw [hml]; rfl) (rest := []) (W := 0) (lenOf pd_5 rfl) rfl (by show 2 * 0 + _ ≤ _; exact Nat.le_of_eq rfl) (hb hby at_112) (by decide) (by decide) (by decide) (by decide)
      obtain ⟨h1335, e1335⟩ : ∃ z, T1335.heap = z := ⟨_, rfl⟩
      rw [e1335] at hQ1335
      obtain ⟨rfl, Nq1335, K1335, ex1404, vx1405⟩ := hQ1335
      have N1335 := Fr.app N1326 Nq1335
      refine own_via (fun t k => st1335 t k) ?_
      have F1632 : Fld Z h1335 b14 zs1 "length" "I" (.int (7 : Int32)) := (fx1334.keep K1335 (ninS N131 nin0))
      have F1633 : Fld Z h1335 b14 zs1 "first" "[I" (.ref b120) := (fx1333.keep K1335 (ninS N131 nin0))
      have E1634 : Exa Z h1335 b14 zs1 := (ex1331.keep K1335)
      have F1635 : Fld Z h1335 b14 zs1 "text" "[B" (.ref b2) := (fx1332.keep K1335 (ninS N131 nin0))
      have V1636 : Arv Z h1335 b2 k1 .byte (2 : Int32) [(.int (i0.toInt8.toInt32)), (.int (i1.toInt8.toInt32))] (.int (0 : Int32)) := (((((V117.keep K26 (ninS N15 nin0)).keep K135 (ninS N129 (ninS N15 nin0))).keep K317 (ninS N129 (ninS N15 nin0))).keep K1326 (ninS N129 (ninS N15 nin0))).keep K1335 (ninS N129 nin0))
      have l1637 : own_Len Z h1335 b120 .int (16 : Int32) := ⟨_, _, _, vx1405⟩
      have O1638 : Old Z n0 h1335 := (O1403.keep K1335 (allS g132 all0))
      exact sfx6 l Z a0 hw ws i0 i1 i2 i0 i1 i2 (i0.toInt8.toInt32) (i1.toInt8.toInt32) b2 (((i2.toUInt32 >>> ((4 : Int32) &&& 31).toUInt32).toInt32) &&& (1 : Int32)) (0 : Int32) b14 b120 k121 (0 : Int32) (2 : Int32) k1 Bd hZ hml (X1335.more (by decide) (by decide)) h1335 e1335 n0 O1638 N1335 (own_nn_mask ((i2.toUInt32 >>> ((4 : Int32) &&& 31).toUInt32).toInt32) (1 : Int32) 1 (by decide) (by decide)) (own_lt_mask ((i2.toUInt32 >>> ((4 : Int32) &&& 31).toUInt32).toInt32) (1 : Int32) 1 (by decide) (by decide) (by decide)) F1632 F1633 vx1405 g132 ex1404 E1634 N131 F1635 V1636 N129 l1637 g17 N15
    · have qs1639 := qs
      rw [qs]
      show own_Goes p e below (T317.setTop (mkF m 79 #[iv i0, iv i1, iv i2, iv (i0.toInt8.toInt32), iv (i1.toInt8.toInt32), rv b2, iv (2 : Int32), iv (((i2.toUInt32 >>> ((4 : Int32) &&& 31).toUInt32).toInt32) &&& (1 : Int32)), iv (0 : Int32), rv b14, iv (0 : Int32), iv (3 : Int32), .unset, .unset, .unset, .unset, .unset, .unset] [])) _
      refine own_via (fun t k => XS.iload X317.here hx rfl (hb hby at_79) rfl (XS.ifNo X317.here hx rfl (hb hby at_81) rfl ((if0 _ _).trans (tlt (by decide : (0 : Int32) < (2 : Int32))).2.2.2) (XS.aload X317.here hx rfl (hb hby at_84) rfl rfl (XS.iconst X317.here hx rfl (hb hby at_86) k)))) ?_
      show own_Goes p e below (T317.setTop (mkF m 87 #[iv i0, iv i1, iv i2, iv (i0.toInt8.toInt32), iv (i1.toInt8.toInt32), rv b2, iv (2 : Int32), iv (((i2.toUInt32 >>> ((4 : Int32) &&& 31).toUInt32).toInt32) &&& (1 : Int32)), iv (0 : Int32), rv b14, iv (0 : Int32), iv (3 : Int32), .unset, .unset, .unset, .unset, .unset, .unset] [(.int (1 : Int32)), (.ref b14)])) _
      have l1641 : own_Len Z h317 b120 .int (16 : Int32) := ⟨_, _, _, vx494⟩
      have O1642 : Old Z n0 h317 := (O492.keep K317 (allS g132 (allS g17 all0)))
      obtain ⟨_, T1640, _, X1640, hQ1640, st1640⟩ := own_cv X317 hx hZ hown (wd hw 41 rfl) (wd hw 35 rfl) (wd hw 37 rfl) (wd hw 36 rfl) (wd hw 38 rfl) (wd hw 4 rfl) (by decide) (rm26 l Z a0 hw [] b14 b120 k121 (0 : Int32) (0 : Int32) (0 : Int32) (1 : Int32) (0 : Int32) (0 : Int32) (0 : Int32) (0 : Int32) (0 : Int32) b2 h317 n0 O1642 fx498 fx497 l1641 vx494 g132 N131 ex495 g17 ex493 fx496) e317 ex495 (g := (mkF m 87 #[iv i0, iv i1, iv i2, iv (i0.toInt8.toInt32), iv (i1.toInt8.toInt32), rv b2, iv (2 : Int32), iv (((i2.toUInt32 >>> ((4 : Int32) &&& 31).toUInt32).toInt32) &&& (1 : Int32)), iv (0 : Int32), rv b14, iv (0 : Int32), iv (3 : Int32), .unset, .unset, .unset, .unset, .unset, .unset] [(.int (1 : Int32)), (.ref b14)])) rfl (by rw [hml]; rfl) (rest := []) (W := 0) (lenOf pd_3 rfl) rfl (by show 2 * 0 + _ ≤ _; exact Nat.le_of_eq rfl) (hb hby at_87) (by decide) (by decide) (by decide) (by decide)
      obtain ⟨h1640, e1640⟩ : ∃ z, T1640.heap = z := ⟨_, rfl⟩
      rw [e1640] at hQ1640
      obtain ⟨rfl, Nq1640, K1640, ex1643, vx1644, ex1645, fx1646, fx1647, fx1648⟩ := hQ1640
      have N1640 := Fr.app N317 Nq1640
      refine own_via (fun t k => st1640 t (XS.pop X1640.here hx rfl (hb hby at_90) rfl rfl (XS.iload X1640.here hx rfl (hb hby at_91) rfl (XS.iconst X1640.here hx rfl (hb hby at_93) (XS.icmpNo X1640.here hx rfl (hb hby at_94) rfl (tlt (by decide : (1 : Int32) < (2 : Int32))).2.2.2 (XS.aload X1640.here hx rfl (hb hby at_97) rfl rfl (XS.iconst X1640.here hx rfl (hb hby at_99) k))))))) ?_
      show own_Goes p e below (T1640.setTop (mkF m 100 #[iv i0, iv i1, iv i2, iv (i0.toInt8.toInt32), iv (i1.toInt8.toInt32), rv b2, iv (2 : Int32), iv (((i2.toUInt32 >>> ((4 : Int32) &&& 31).toUInt32).toInt32) &&& (1 : Int32)), iv (0 : Int32), rv b14, iv (0 : Int32), iv (3 : Int32), .unset, .unset, .unset, .unset, .unset, .unset] [(.int (1 : Int32)), (.ref b14)])) _
      have l1650 : own_Len Z h1640 b120 .int (16 : Int32) := ⟨_, _, _, vx1644⟩
      have O1651 : Old Z n0 h1640 := (O1642.keep K1640 (allS g132 (allS g17 all0)))
      obtain ⟨_, T1649, _, X1649, hQ1649, st1649⟩ := own_cv X1640 hx hZ hown (wd hw 41 rfl) (wd hw 35 rfl) (wd hw 37 rfl) (wd hw 36 rfl) (wd hw 38 rfl) (wd hw 4 rfl) (by decide) (rm31 l Z a0 hw [] b14 b120 k121 (0 : Int32) (0 : Int32) (0 : Int32) (1 : Int32) (0 : Int32) (0 : Int32) (1 : Int32) (0 : Int32) (0 : Int32) b2 h1640 n0 O1651 fx1648 fx1647 l1650 vx1644 g132 N131 ex1645 g17 ex1643 fx1646) e1640 ex1645 (g := (mkF m 100 #[iv i0, iv i1, iv i2, iv (i0.toInt8.toInt32), iv (i1.toInt8.toInt32), rv b2, iv (2 : Int32), iv (((i2.toUInt32 >>> ((4 : Int32) &&& 31).toUInt32).toInt32) &&& (1 : Int32)), iv (0 : Int32), rv b14, iv (0 : Int32), iv (3 : Int32), .unset, .unset, .unset, .unset, .unset, .unset] [(.int (1 : Int32)), (.ref b14)])) rfl (by rw [hml]; rfl) (rest := []) (W := 0) (lenOf pd_3 rfl) rfl (by show 2 * 0 + _ ≤ _; exact Nat.le_of_eq rfl) (hb hby at_100) (by decide) (by decide) (by decide) (by decide)
      obtain ⟨h1649, e1649⟩ : ∃ z, T1649.heap = z := ⟨_, rfl⟩
      rw [e1649] at hQ1649
      obtain ⟨rfl, Nq1649, K1649, ex1652, vx1653, ex1654, fx1655, fx1656, fx1657⟩ := hQ1649
      have N1649 := Fr.app N1640 Nq1649
      refine own_via (fun t k => st1649 t (XS.pop X1649.here hx rfl (hb hby at_103) rfl rfl (XS.aload X1649.here hx rfl (hb hby at_104) rfl rfl (XS.iload X1649.here hx rfl (hb hby at_106) rfl (XS.iload X1649.here hx rfl (hb hby at_108) rfl (XS.iload X1649.here hx rfl (hb hby at_110) rfl k)))))) ?_
      show own_Goes p e below (T1649.setTop (mkF m 112 #[iv i0, iv i1, iv i2, iv (i0.toInt8.toInt32), iv (i1.toInt8.toInt32), rv b2, iv (2 : Int32), iv (((i2.toUInt32 >>> ((4 : Int32) &&& 31).toUInt32).toInt32) &&& (1 : Int32)), iv (0 : Int32), rv b14, iv (0 : Int32), iv (3 : Int32), .unset, .unset, .unset, .unset, .unset, .unset] [(.int (0 : Int32)), (.int (2 : Int32)), (.int (3 : Int32)), (.ref b14)])) _
      have O1726 : Old Z n0 h1649 := (O1651.keep K1649 (allS g132 (allS g17 all0)))
      obtain ⟨_, T1658, _, X1658, hQ1658, st1658⟩ := own_cv X1649 hx hZ hown (wd hw 42 rfl) (wd hw 43 rfl) (wd hw 45 rfl) (wd hw 44 rfl) (wd hw 46 rfl) (wd hw 4 rfl) (by decide) (rm33 l Z a0 hw [] b14 (8 : Int32) b120 k121 (0 : Int32) (0 : Int32) (0 : Int32) (1 : Int32) (0 : Int32) (0 : Int32) (1 : Int32) (1 : Int32) (0 : Int32) h1649 n0 O1726 fx1657 fx1656 vx1653 g132 ex1652 ex1654 N131) e1649 ex1654 (g := (mkF m 112 #[iv i0, iv i1, iv i2, iv (i0.toInt8.toInt32), iv (i1.toInt8.toInt32), rv b2, iv (2 : Int32), iv (((i2.toUInt32 >>> ((4 : Int32) &&& 31).toUInt32).toInt32) &&& (1 : Int32)), iv (0 : Int32), rv b14, iv (0 : Int32), iv (3 : Int32), .unset, .unset, .unset, .unset, .unset, .unset] [(.int (0 : Int32)), (.int (2 : Int32)), (.int (3 : Int32)), (.ref b14)])) rfl (by rw [hml]; rfl) (rest := []) (W := 0) (lenOf pd_5 rfl) rfl (by show 2 * 0 + _ ≤ _; exact Nat.le_of_eq rfl) (hb hby at_112) (by decide) (by decide) (by decide) (by decide)
      obtain ⟨h1658, e1658⟩ : ∃ z, T1658.heap = z := ⟨_, rfl⟩
      rw [e1658] at hQ1658
      obtain ⟨rfl, Nq1658, K1658, ex1727, vx1728⟩ := hQ1658
      have N1658 := Fr.app N1649 Nq1658
      refine own_via (fun t k => st1658 t k) ?_
      have F1955 : Fld Z h1658 b14 zs1 "length" "I" (.int (8 : Int32)) := (fx1657.keep K1658 (ninS N131 nin0))
      have F1956 : Fld Z h1658 b14 zs1 "first" "[I" (.ref b120) := (fx1656.keep K1658 (ninS N131 nin0))
      have E1957 : Exa Z h1658 b14 zs1 := (ex1654.keep K1658)
      have F1958 : Fld Z h1658 b14 zs1 "text" "[B" (.ref b2) := (fx1655.keep K1658 (ninS N131 nin0))
      have V1959 : Arv Z h1658 b2 k1 .byte (2 : Int32) [(.int (i0.toInt8.toInt32)), (.int (i1.toInt8.toInt32))] (.int (0 : Int32)) := ((((((V117.keep K26 (ninS N15 nin0)).keep K135 (ninS N129 (ninS N15 nin0))).keep K317 (ninS N129 (ninS N15 nin0))).keep K1640 (ninS N129 (ninS N15 nin0))).keep K1649 (ninS N129 (ninS N15 nin0))).keep K1658 (ninS N129 nin0))
      have l1960 : own_Len Z h1658 b120 .int (16 : Int32) := ⟨_, _, _, vx1728⟩
      have O1961 : Old Z n0 h1658 := (O1726.keep K1658 (allS g132 all0))
      exact sfx9 l Z a0 hw ws i0 i1 i2 i0 i1 i2 (i0.toInt8.toInt32) (i1.toInt8.toInt32) b2 (((i2.toUInt32 >>> ((4 : Int32) &&& 31).toUInt32).toInt32) &&& (1 : Int32)) (0 : Int32) b14 b120 k121 (0 : Int32) (4 : Int32) k1 Bd hZ hml (X1658.more (by decide) (by decide)) h1658 e1658 n0 O1961 N1658 (own_nn_mask ((i2.toUInt32 >>> ((4 : Int32) &&& 31).toUInt32).toInt32) (1 : Int32) 1 (by decide) (by decide)) (own_lt_mask ((i2.toUInt32 >>> ((4 : Int32) &&& 31).toUInt32).toInt32) (1 : Int32) 1 (by decide) (by decide) (by decide)) F1955 F1956 vx1728 g132 ex1727 E1957 N131 F1958 V1959 N129 l1960 g17 N15
  · refine own_via (fun t k => XS.ifNo X10.here hx rfl (hb hby at_42) rfl ((if0 _ _).trans (feq hc12).1) (XS.iconst X10.here hx rfl (hb hby at_45) (XS.goto X10.here hx rfl (pc0 := 46) (pc' := 50) rfl (hb hby at_46) (by decide) (by decide) (XS.istore X10.here hx rfl (hb hby at_50) rfl (l' := #[iv i0, iv i1, iv i2, iv (i0.toInt8.toInt32), iv (i1.toInt8.toInt32), rv b2, iv ((i2 &&& (2147483647 : Int32)) % (3 : Int32)), iv (((i2.toUInt32 >>> ((4 : Int32) &&& 31).toUInt32).toInt32) &&& (1 : Int32)), iv (1 : Int32), .unset, .unset, .unset, .unset, .unset, .unset, .unset, .unset, .unset]) rfl k)))) ?_
    show own_Goes p e below (T10.setTop (mkF m 52 #[iv i0, iv i1, iv i2, iv (i0.toInt8.toInt32), iv (i1.toInt8.toInt32), rv b2, iv ((i2 &&& (2147483647 : Int32)) % (3 : Int32)), iv (((i2.toUInt32 >>> ((4 : Int32) &&& 31).toUInt32).toInt32) &&& (1 : Int32)), iv (1 : Int32), .unset, .unset, .unset, .unset, .unset, .unset, .unset, .unset, .unset] [])) _
    obtain ⟨T1962, h1962, X1962, e1962, E1962, A1962, D1962, -, st1962⟩ := newO X10 hx hZ hown (wd hw 2 rfl) (wd hw 3 rfl) (wd hw 4 rfl) e10 (g := (mkF m 52 #[iv i0, iv i1, iv i2, iv (i0.toInt8.toInt32), iv (i1.toInt8.toInt32), rv b2, iv ((i2 &&& (2147483647 : Int32)) % (3 : Int32)), iv (((i2.toUInt32 >>> ((4 : Int32) &&& 31).toUInt32).toInt32) &&& (1 : Int32)), iv (1 : Int32), .unset, .unset, .unset, .unset, .unset, .unset, .unset, .unset, .unset] [])) rfl (hb hby at_52) (by decide) (by decide)
    obtain ⟨b1963, q1962⟩ : ∃ z, z = h10.size := ⟨_, rfl⟩
    rw [← q1962] at A1962 D1962 st1962
    refine own_via (fun t k => st1962 t k) ?_
    have E1965 : Exa Z h10 b2 "[B" := ((a1x.wr W7).wr W10)
    have N1964 : b2 ≠ b1963 := Nat.ne_of_lt (Nat.lt_of_lt_of_le E1965.lt (Nat.le_of_eq q1962.symm))
    have O1967 : Old Z n0 h10 := (((O0.ext E1).wr W7 g3).wr W10 g3)
    have g1966 : n0 ≤ b1963 := Nat.le_trans (own_old O1967) (Nat.le_of_eq q1962.symm)
    have Z1969 : h0.size ≤ h10.size := (Nat.le_trans (Nat.le_trans (Nat.le_trans (Nat.le_refl _) E1.1) (Nat.le_of_eq W7.size.symm)) (Nat.le_of_eq W10.size.symm))
    have B1968 : h0.size ≤ b1963 := Nat.le_trans Z1969 (Nat.le_of_eq q1962.symm)
    have F1970 : Fld Z h1962 b1963 zs1 "kept" zs4 .null := D1962 (Or.inr (wd hw 14 rfl)) (ty := (.array (.object zs3))) (by decide)
    have F1971 : Fld Z h1962 b1963 zs1 "chunks" "[[I" .null := D1962 (Or.inl (wd hw 18 rfl)) (ty := (.array (.array .int))) (by decide)
    have F1972 : Fld Z h1962 b1963 zs1 "text" "[B" .null := D1962 (Or.inr (wd hw 20 rfl)) (ty := (.array .byte)) (by decide)
    have F1973 : Fld Z h1962 b1963 zs1 "first" "[I" .null := D1962 (Or.inl (wd hw 27 rfl)) (ty := (.array .int)) (by decide)
    have F1974 : Fld Z h1962 b1963 zs1 "length" "I" (.int (0 : Int32)) := D1962 (Or.inl (wd hw 40 rfl)) (ty := .int) (by decide)
    show own_Goes p e below (T1962.setTop (mkF m 55 #[iv i0, iv i1, iv i2, iv (i0.toInt8.toInt32), iv (i1.toInt8.toInt32), rv b2, iv ((i2 &&& (2147483647 : Int32)) % (3 : Int32)), iv (((i2.toUInt32 >>> ((4 : Int32) &&& 31).toUInt32).toInt32) &&& (1 : Int32)), iv (1 : Int32), .unset, .unset, .unset, .unset, .unset, .unset, .unset, .unset, .unset] [(.ref b1963)])) _
    refine own_via (fun t k => XS.dup X1962.here hx rfl (hb hby at_55) rfl rfl (XS.aload X1962.here hx rfl (hb hby at_56) rfl rfl k)) ?_
    have V1976 : Arv Z h1962 b2 k1 .byte (2 : Int32) [(.int (i0.toInt8.toInt32)), (.int (i1.toInt8.toInt32))] (.int (0 : Int32)) := (V11.ext E1962)
    have l1977 : own_Len Z h1962 b2 .byte (2 : Int32) := ⟨_, _, _, V1976⟩
    have O1978 : Old Z n0 h1962 := (O1967.ext E1962)
    obtain ⟨_, T1975, _, X1975, hQ1975, st1975⟩ := own_ci X1962 hx hZ hown (wd hw 5 rfl) (wd hw 6 rfl) (wd hw 7 rfl) (wd hw 4 rfl) rfl (by decide) (rm2 l Z a0 hw [] b1963 b2 (0 : Int32) h1962 n0 O1978 F1970 A1962 g1966 F1971 F1972 l1977 N1964 F1973 F1974) e1962 (g := (mkF m 58 #[iv i0, iv i1, iv i2, iv (i0.toInt8.toInt32), iv (i1.toInt8.toInt32), rv b2, iv ((i2 &&& (2147483647 : Int32)) % (3 : Int32)), iv (((i2.toUInt32 >>> ((4 : Int32) &&& 31).toUInt32).toInt32) &&& (1 : Int32)), iv (1 : Int32), .unset, .unset, .unset, .unset, .unset, .unset, .unset, .unset, .unset] [(.ref b2), (.ref b1963), (.ref b1963)])) rfl (by rw [hml]; rfl) (rest := [(.ref b1963)]) (W := 1) (lenOf pd_2 rfl) rfl (by show 2 * 0 + _ ≤ _; exact Nat.le_of_eq rfl) (hb hby at_58) (by decide) (by decide) (by decide) (by decide)
    obtain ⟨h1975, e1975⟩ : ∃ z, T1975.heap = z := ⟨_, rfl⟩
    rw [e1975] at hQ1975
    obtain ⟨b1979, k1980, rfl, Nq1975, K1975, ex1981, fx1982, fx1983, fx1984, bx1985, vx1986, ex1987⟩ := hQ1975
    have N1975 := Fr.app N10 Nq1975
    have E1989 : Exa Z h1962 b2 "[B" := (E1965.ext E1962)
    have N1988 : b2 ≠ b1979 := Nat.ne_of_lt (Nat.lt_of_lt_of_le E1989.lt bx1985)
    have N1990 : b1963 ≠ b1979 := Nat.ne_of_lt (Nat.lt_of_lt_of_le A1962.lt bx1985)
    have g1991 : n0 ≤ b1979 := Nat.le_trans (own_old O1978) bx1985
    have Z1993 : h0.size ≤ h1962.size := (Nat.le_trans Z1969 E1962.1)
    have B1992 : h0.size ≤ b1979 := Nat.le_trans Z1993 bx1985
    refine own_via (fun t k => st1975 t (XS.astore X1975.here hx rfl (hb hby at_61) rfl rfl (l' := #[iv i0, iv i1, iv i2, iv (i0.toInt8.toInt32), iv (i1.toInt8.toInt32), rv b2, iv ((i2 &&& (2147483647 : Int32)) % (3 : Int32)), iv (((i2.toUInt32 >>> ((4 : Int32) &&& 31).toUInt32).toInt32) &&& (1 : Int32)), iv (1 : Int32), rv b1963, .unset, .unset, .unset, .unset, .unset, .unset, .unset, .unset]) rfl (XS.aload X1975.here hx rfl (hb hby at_63) rfl rfl (XS.iconst X1975.here hx rfl (hb hby at_65) k)))) ?_
    show own_Goes p e below (T1975.setTop (mkF m 66 #[iv i0, iv i1, iv i2, iv (i0.toInt8.toInt32), iv (i1.toInt8.toInt32), rv b2, iv ((i2 &&& (2147483647 : Int32)) % (3 : Int32)), iv (((i2.toUInt32 >>> ((4 : Int32) &&& 31).toUInt32).toInt32) &&& (1 : Int32)), iv (1 : Int32), rv b1963, .unset, .unset, .unset, .unset, .unset, .unset, .unset, .unset] [(.int (0 : Int32)), (.ref b1963)])) _
    have l1995 : own_Len Z h1975 b1979 .int (16 : Int32) := ⟨_, _, _, vx1986⟩
    have O1996 : Old Z n0 h1975 := (O1978.keep K1975 (allS g1966 all0))
    obtain ⟨_, T1994, _, X1994, hQ1994, st1994⟩ := own_cv X1975 hx hZ hown (wd hw 29 rfl) (wd hw 30 rfl) (wd hw 32 rfl) (wd hw 31 rfl) (wd hw 33 rfl) (wd hw 4 rfl) (by decide) (rm6 l Z a0 hw [] b1963 b1979 k1980 (0 : Int32) (0 : Int32) (0 : Int32) (0 : Int32) (0 : Int32) (0 : Int32) (0 : Int32) (0 : Int32) (0 : Int32) b2 h1975 n0 O1996 fx1984 fx1983 l1995 vx1986 g1991 N1990 ex1981 g1966 ex1987 fx1982) e1975 ex1981 (g := (mkF m 66 #[iv i0, iv i1, iv i2, iv (i0.toInt8.toInt32), iv (i1.toInt8.toInt32), rv b2, iv ((i2 &&& (2147483647 : Int32)) % (3 : Int32)), iv (((i2.toUInt32 >>> ((4 : Int32) &&& 31).toUInt32).toInt32) &&& (1 : Int32)), iv (1 : Int32), rv b1963, .unset, .unset, .unset, .unset, .unset, .unset, .unset, .unset] [(.int (0 : Int32)), (.ref b1963)])) rfl (by rw [hml]; rfl) (rest := []) (W := 0) (lenOf pd_3 rfl) rfl (by show 2 * 0 + _ ≤ _; exact Nat.le_of_eq rfl) (hb hby at_66) (by decide) (by decide) (by decide) (by decide)
    obtain ⟨h1994, e1994⟩ : ∃ z, T1994.heap = z := ⟨_, rfl⟩
    rw [e1994] at hQ1994
    obtain ⟨rfl, Nq1994, K1994, ex1997, vx1998, ex1999, fx2000, fx2001, fx2002⟩ := hQ1994
    have N1994 := Fr.app N1975 Nq1994
    refine own_via (fun t k => st1994 t (XS.istore X1994.here hx rfl (hb hby at_69) rfl (l' := #[iv i0, iv i1, iv i2, iv (i0.toInt8.toInt32), iv (i1.toInt8.toInt32), rv b2, iv ((i2 &&& (2147483647 : Int32)) % (3 : Int32)), iv (((i2.toUInt32 >>> ((4 : Int32) &&& 31).toUInt32).toInt32) &&& (1 : Int32)), iv (1 : Int32), rv b1963, iv (0 : Int32), .unset, .unset, .unset, .unset, .unset, .unset, .unset]) rfl (XS.aload X1994.here hx rfl (hb hby at_71) rfl rfl (XS.iconst X1994.here hx rfl (hb hby at_73) k)))) ?_
    show own_Goes p e below (T1994.setTop (mkF m 74 #[iv i0, iv i1, iv i2, iv (i0.toInt8.toInt32), iv (i1.toInt8.toInt32), rv b2, iv ((i2 &&& (2147483647 : Int32)) % (3 : Int32)), iv (((i2.toUInt32 >>> ((4 : Int32) &&& 31).toUInt32).toInt32) &&& (1 : Int32)), iv (1 : Int32), rv b1963, iv (0 : Int32), .unset, .unset, .unset, .unset, .unset, .unset, .unset] [(.int (1 : Int32)), (.ref b1963)])) _
    have l2004 : own_Len Z h1994 b1979 .int (16 : Int32) := ⟨_, _, _, vx1998⟩
    have O2005 : Old Z n0 h1994 := (O1996.keep K1994 (allS g1991 (allS g1966 all0)))
    obtain ⟨_, T2003, _, X2003, hQ2003, st2003⟩ := own_cv X1994 hx hZ hown (wd hw 29 rfl) (wd hw 30 rfl) (wd hw 32 rfl) (wd hw 31 rfl) (wd hw 33 rfl) (wd hw 4 rfl) (by decide) (rm10 l Z a0 hw [] b1963 b1979 k1980 (0 : Int32) (0 : Int32) (0 : Int32) (0 : Int32) (0 : Int32) (0 : Int32) (0 : Int32) (0 : Int32) (0 : Int32) b2 h1994 n0 O2005 fx2002 fx2001 l2004 vx1998 g1991 N1990 ex1999 g1966 ex1997 fx2000) e1994 ex1999 (g := (mkF m 74 #[iv i0, iv i1, iv i2, iv (i0.toInt8.toInt32), iv (i1.toInt8.toInt32), rv b2, iv ((i2 &&& (2147483647 : Int32)) % (3 : Int32)), iv (((i2.toUInt32 >>> ((4 : Int32) &&& 31).toUInt32).toInt32) &&& (1 : Int32)), iv (1 : Int32), rv b1963, iv (0 : Int32), .unset, .unset, .unset, .unset, .unset, .unset, .unset] [(.int (1 : Int32)), (.ref b1963)])) rfl (by rw [hml]; rfl) (rest := []) (W := 0) (lenOf pd_3 rfl) rfl (by show 2 * 0 + _ ≤ _; exact Nat.le_of_eq rfl) (hb hby at_74) (by decide) (by decide) (by decide) (by decide)
    obtain ⟨h2003, e2003⟩ : ∃ z, T2003.heap = z := ⟨_, rfl⟩
    rw [e2003] at hQ2003
    obtain ⟨rfl, Nq2003, K2003, ex2006, vx2007, ex2008, fx2009, fx2010, fx2011⟩ := hQ2003
    have N2003 := Fr.app N1994 Nq2003
    refine own_via (fun t k => st2003 t (XS.istore X2003.here hx rfl (hb hby at_77) rfl (l' := #[iv i0, iv i1, iv i2, iv (i0.toInt8.toInt32), iv (i1.toInt8.toInt32), rv b2, iv ((i2 &&& (2147483647 : Int32)) % (3 : Int32)), iv (((i2.toUInt32 >>> ((4 : Int32) &&& 31).toUInt32).toInt32) &&& (1 : Int32)), iv (1 : Int32), rv b1963, iv (0 : Int32), iv (3 : Int32), .unset, .unset, .unset, .unset, .unset, .unset]) rfl k)) ?_
    show own_Goes p e below (T2003.setTop (mkF m 79 #[iv i0, iv i1, iv i2, iv (i0.toInt8.toInt32), iv (i1.toInt8.toInt32), rv b2, iv ((i2 &&& (2147483647 : Int32)) % (3 : Int32)), iv (((i2.toUInt32 >>> ((4 : Int32) &&& 31).toUInt32).toInt32) &&& (1 : Int32)), iv (1 : Int32), rv b1963, iv (0 : Int32), iv (3 : Int32), .unset, .unset, .unset, .unset, .unset, .unset] [])) _
    rcases own_mod_3 i2 with qs | qs | qs
    · have qs2012 := qs
      rw [qs]
      show own_Goes p e below (T2003.setTop (mkF m 79 #[iv i0, iv i1, iv i2, iv (i0.toInt8.toInt32), iv (i1.toInt8.toInt32), rv b2, iv (0 : Int32), iv (((i2.toUInt32 >>> ((4 : Int32) &&& 31).toUInt32).toInt32) &&& (1 : Int32)), iv (1 : Int32), rv b1963, iv (0 : Int32), iv (3 : Int32), .unset, .unset, .unset, .unset, .unset, .unset] [])) _
      refine own_via (fun t k => XS.iload X2003.here hx rfl (hb hby at_79) rfl (XS.ifYes X2003.here hx rfl (pc0 := 81) (pc' := 91) rfl (hb hby at_81) rfl ((if0 _ _).trans (flt (by decide : ¬ ((0 : Int32) < (0 : Int32)))).2.2.2) (by decide) (by decide) (XS.iload X2003.here hx rfl (hb hby at_91) rfl (XS.iconst X2003.here hx rfl (hb hby at_93) (XS.icmpYes X2003.here hx rfl (pc0 := 94) (pc' := 104) rfl (hb hby at_94) rfl (flt (by decide : ¬ ((1 : Int32) < (0 : Int32)))).2.2.2 (by decide) (by decide) (XS.aload X2003.here hx rfl (hb hby at_104) rfl rfl (XS.iload X2003.here hx rfl (hb hby at_106) rfl (XS.iload X2003.here hx rfl (hb hby at_108) rfl (XS.iload X2003.here hx rfl (hb hby at_110) rfl k))))))))) ?_
      show own_Goes p e below (T2003.setTop (mkF m 112 #[iv i0, iv i1, iv i2, iv (i0.toInt8.toInt32), iv (i1.toInt8.toInt32), rv b2, iv (0 : Int32), iv (((i2.toUInt32 >>> ((4 : Int32) &&& 31).toUInt32).toInt32) &&& (1 : Int32)), iv (1 : Int32), rv b1963, iv (0 : Int32), iv (3 : Int32), .unset, .unset, .unset, .unset, .unset, .unset] [(.int (1 : Int32)), (.int (0 : Int32)), (.int (3 : Int32)), (.ref b1963)])) _
      have O2081 : Old Z n0 h2003 := (O2005.keep K2003 (allS g1991 (allS g1966 all0)))
      obtain ⟨_, T2013, _, X2013, hQ2013, st2013⟩ := own_cv X2003 hx hZ hown (wd hw 42 rfl) (wd hw 43 rfl) (wd hw 45 rfl) (wd hw 44 rfl) (wd hw 46 rfl) (wd hw 4 rfl) (by decide) (rm36 l Z a0 hw [] b1963 (6 : Int32) b1979 k1980 (0 : Int32) (0 : Int32) (0 : Int32) (1 : Int32) (0 : Int32) (0 : Int32) (0 : Int32) (0 : Int32) (0 : Int32) h2003 n0 O2081 fx2011 fx2010 vx2007 g1991 ex2006 ex2008 N1990) e2003 ex2008 (g := (mkF m 112 #[iv i0, iv i1, iv i2, iv (i0.toInt8.toInt32), iv (i1.toInt8.toInt32), rv b2, iv (0 : Int32), iv (((i2.toUInt32 >>> ((4 : Int32) &&& 31).toUInt32).toInt32) &&& (1 : Int32)), iv (1 : Int32), rv b1963, iv (0 : Int32), iv (3 : Int32), .unset, .unset, .unset, .unset, .unset, .unset] [(.int (1 : Int32)), (.int (0 : Int32)), (.int (3 : Int32)), (.ref b1963)])) rfl (by rw [hml]; rfl) (rest := []) (W := 0) (lenOf pd_5 rfl) rfl (by show 2 * 0 + _ ≤ _; exact Nat.le_of_eq rfl) (hb hby at_112) (by decide) (by decide) (by decide) (by decide)
      obtain ⟨h2013, e2013⟩ : ∃ z, T2013.heap = z := ⟨_, rfl⟩
      rw [e2013] at hQ2013
      obtain ⟨rfl, Nq2013, K2013, ex2082, vx2083⟩ := hQ2013
      have N2013 := Fr.app N2003 Nq2013
      refine own_via (fun t k => st2013 t k) ?_
      have F2084 : Fld Z h2013 b1963 zs1 "length" "I" (.int (6 : Int32)) := (fx2011.keep K2013 (ninS N1990 nin0))
      have F2085 : Fld Z h2013 b1963 zs1 "first" "[I" (.ref b1979) := (fx2010.keep K2013 (ninS N1990 nin0))
      have E2086 : Exa Z h2013 b1963 zs1 := (ex2008.keep K2013)
      have F2087 : Fld Z h2013 b1963 zs1 "text" "[B" (.ref b2) := (fx2009.keep K2013 (ninS N1990 nin0))
      have V2088 : Arv Z h2013 b2 k1 .byte (2 : Int32) [(.int (i0.toInt8.toInt32)), (.int (i1.toInt8.toInt32))] (.int (0 : Int32)) := ((((V1976.keep K1975 (ninS N1964 nin0)).keep K1994 (ninS N1988 (ninS N1964 nin0))).keep K2003 (ninS N1988 (ninS N1964 nin0))).keep K2013 (ninS N1988 nin0))
      have l2089 : own_Len Z h2013 b1979 .int (16 : Int32) := ⟨_, _, _, vx2083⟩
      have O2090 : Old Z n0 h2013 := (O2081.keep K2013 (allS g1991 all0))
      exact sfx3 l Z a0 hw ws i0 i1 i2 i0 i1 i2 (i0.toInt8.toInt32) (i1.toInt8.toInt32) b2 (((i2.toUInt32 >>> ((4 : Int32) &&& 31).toUInt32).toInt32) &&& (1 : Int32)) (1 : Int32) b1963 b1979 k1980 (0 : Int32) (1 : Int32) k1 Bd hZ hml (X2013.more (by decide) (by decide)) h2013 e2013 n0 O2090 N2013 (own_nn_mask ((i2.toUInt32 >>> ((4 : Int32) &&& 31).toUInt32).toInt32) (1 : Int32) 1 (by decide) (by decide)) (own_lt_mask ((i2.toUInt32 >>> ((4 : Int32) &&& 31).toUInt32).toInt32) (1 : Int32) 1 (by decide) (by decide) (by decide)) F2084 F2085 vx2083 g1991 ex2082 E2086 N1990 F2087 V2088 N1988 l2089 g1966 N1964
    · have qs2091 := qs
      rw [qs]
      show own_Goes p e below (T2003.setTop (mkF m 79 #[iv i0, iv i1, iv i2, iv (i0.toInt8.toInt32), iv (i1.toInt8.toInt32), rv b2, iv (1 : Int32), iv (((i2.toUInt32 >>> ((4 : Int32) &&& 31).toUInt32).toInt32) &&& (1 : Int32)), iv (1 : Int32), rv b1963, iv (0 : Int32), iv (3 : Int32), .unset, .unset, .unset, .unset, .unset, .unset] [])) _
      refine own_via (fun t k => XS.iload X2003.here hx rfl (hb hby at_79) rfl (XS.ifNo X2003.here hx rfl (hb hby at_81) rfl ((if0 _ _).trans (tlt (by decide : (0 : Int32) < (1 : Int32))).2.2.2) (XS.aload X2003.here hx rfl (hb hby at_84) rfl rfl (XS.iconst X2003.here hx rfl (hb hby at_86) k)))) ?_
      show own_Goes p e below (T2003.setTop (mkF m 87 #[iv i0, iv i1, iv i2, iv (i0.toInt8.toInt32), iv (i1.toInt8.toInt32), rv b2, iv (1 : Int32), iv (((i2.toUInt32 >>> ((4 : Int32) &&& 31).toUInt32).toInt32) &&& (1 : Int32)), iv (1 : Int32), rv b1963, iv (0 : Int32), iv (3 : Int32), .unset, .unset, .unset, .unset, .unset, .unset] [(.int (1 : Int32)), (.ref b1963)])) _
      have l2093 : own_Len Z h2003 b1979 .int (16 : Int32) := ⟨_, _, _, vx2007⟩
      have O2094 : Old Z n0 h2003 := (O2005.keep K2003 (allS g1991 (allS g1966 all0)))
      obtain ⟨_, T2092, _, X2092, hQ2092, st2092⟩ := own_cv X2003 hx hZ hown (wd hw 41 rfl) (wd hw 35 rfl) (wd hw 37 rfl) (wd hw 36 rfl) (wd hw 38 rfl) (wd hw 4 rfl) (by decide) (rm26 l Z a0 hw [] b1963 b1979 k1980 (0 : Int32) (0 : Int32) (0 : Int32) (1 : Int32) (0 : Int32) (0 : Int32) (0 : Int32) (0 : Int32) (0 : Int32) b2 h2003 n0 O2094 fx2011 fx2010 l2093 vx2007 g1991 N1990 ex2008 g1966 ex2006 fx2009) e2003 ex2008 (g := (mkF m 87 #[iv i0, iv i1, iv i2, iv (i0.toInt8.toInt32), iv (i1.toInt8.toInt32), rv b2, iv (1 : Int32), iv (((i2.toUInt32 >>> ((4 : Int32) &&& 31).toUInt32).toInt32) &&& (1 : Int32)), iv (1 : Int32), rv b1963, iv (0 : Int32), iv (3 : Int32), .unset, .unset, .unset, .unset, .unset, .unset] [(.int (1 : Int32)), (.ref b1963)])) rfl (by rw [hml]; rfl) (rest := []) (W := 0) (lenOf pd_3 rfl) rfl (by show 2 * 0 + _ ≤ _; exact Nat.le_of_eq rfl) (hb hby at_87) (by decide) (by decide) (by decide) (by decide)
      obtain ⟨h2092, e2092⟩ : ∃ z, T2092.heap = z := ⟨_, rfl⟩
      rw [e2092] at hQ2092
      obtain ⟨rfl, Nq2092, K2092, ex2095, vx2096, ex2097, fx2098, fx2099, fx2100⟩ := hQ2092
      have N2092 := Fr.app N2003 Nq2092
      refine own_via (fun t k => st2092 t (XS.pop X2092.here hx rfl (hb hby at_90) rfl rfl (XS.iload X2092.here hx rfl (hb hby at_91) rfl (XS.iconst X2092.here hx rfl (hb hby at_93) (XS.icmpYes X2092.here hx rfl (pc0 := 94) (pc' := 104) rfl (hb hby at_94) rfl (flt (by decide : ¬ ((1 : Int32) < (1 : Int32)))).2.2.2 (by decide) (by decide) (XS.aload X2092.here hx rfl (hb hby at_104) rfl rfl (XS.iload X2092.here hx rfl (hb hby at_106) rfl (XS.iload X2092.here hx rfl (hb hby at_108) rfl (XS.iload X2092.here hx rfl (hb hby at_110) rfl k))))))))) ?_
      show own_Goes p e below (T2092.setTop (mkF m 112 #[iv i0, iv i1, iv i2, iv (i0.toInt8.toInt32), iv (i1.toInt8.toInt32), rv b2, iv (1 : Int32), iv (((i2.toUInt32 >>> ((4 : Int32) &&& 31).toUInt32).toInt32) &&& (1 : Int32)), iv (1 : Int32), rv b1963, iv (0 : Int32), iv (3 : Int32), .unset, .unset, .unset, .unset, .unset, .unset] [(.int (1 : Int32)), (.int (1 : Int32)), (.int (3 : Int32)), (.ref b1963)])) _
      have O2169 : Old Z n0 h2092 := (O2094.keep K2092 (allS g1991 (allS g1966 all0)))
      obtain ⟨_, T2101, _, X2101, hQ2101, st2101⟩ := own_cv X2092 hx hZ hown (wd hw 42 rfl) (wd hw 43 rfl) (wd hw 45 rfl) (wd hw 44 rfl) (wd hw 46 rfl) (wd hw 4 rfl) (by decide) (rm38 l Z a0 hw [] b1963 (7 : Int32) b1979 k1980 (0 : Int32) (0 : Int32) (0 : Int32) (1 : Int32) (0 : Int32) (0 : Int32) (1 : Int32) (0 : Int32) (0 : Int32) h2092 n0 O2169 fx2100 fx2099 vx2096 g1991 ex2095 ex2097 N1990) e2092 ex2097 (g := (mkF m 112 #[iv i0, iv i1, iv i2, iv (i0.toInt8.toInt32), iv (i1.toInt8.toInt32), rv b2, iv (1 : Int32), iv (((i2.toUInt32 >>> ((4 : Int32) &&& 31).toUInt32).toInt32) &&& (1 : Int32)), iv (1 : Int32), rv b1963, iv (0 : Int32), iv (3 : Int32), .unset, .unset, .unset, .unset, .unset, .unset] [(.int (1 : Int32)), (.int (1 : Int32)), (.int (3 : Int32)), (.ref b1963)])) rfl (by rw [hml]; rfl) (rest := []) (W := 0) (lenOf pd_5 rfl) rfl (by show 2 * 0 + _ ≤ _; exact Nat.le_of_eq rfl) (hb hby at_112) (by decide) (by decide) (by decide) (by decide)
      obtain ⟨h2101, e2101⟩ : ∃ z, T2101.heap = z := ⟨_, rfl⟩
      rw [e2101] at hQ2101
      obtain ⟨rfl, Nq2101, K2101, ex2170, vx2171⟩ := hQ2101
      have N2101 := Fr.app N2092 Nq2101
      refine own_via (fun t k => st2101 t k) ?_
      have F2172 : Fld Z h2101 b1963 zs1 "length" "I" (.int (7 : Int32)) := (fx2100.keep K2101 (ninS N1990 nin0))
      have F2173 : Fld Z h2101 b1963 zs1 "first" "[I" (.ref b1979) := (fx2099.keep K2101 (ninS N1990 nin0))
      have E2174 : Exa Z h2101 b1963 zs1 := (ex2097.keep K2101)
      have F2175 : Fld Z h2101 b1963 zs1 "text" "[B" (.ref b2) := (fx2098.keep K2101 (ninS N1990 nin0))
      have V2176 : Arv Z h2101 b2 k1 .byte (2 : Int32) [(.int (i0.toInt8.toInt32)), (.int (i1.toInt8.toInt32))] (.int (0 : Int32)) := (((((V1976.keep K1975 (ninS N1964 nin0)).keep K1994 (ninS N1988 (ninS N1964 nin0))).keep K2003 (ninS N1988 (ninS N1964 nin0))).keep K2092 (ninS N1988 (ninS N1964 nin0))).keep K2101 (ninS N1988 nin0))
      have l2177 : own_Len Z h2101 b1979 .int (16 : Int32) := ⟨_, _, _, vx2171⟩
      have O2178 : Old Z n0 h2101 := (O2169.keep K2101 (allS g1991 all0))
      exact sfx6 l Z a0 hw ws i0 i1 i2 i0 i1 i2 (i0.toInt8.toInt32) (i1.toInt8.toInt32) b2 (((i2.toUInt32 >>> ((4 : Int32) &&& 31).toUInt32).toInt32) &&& (1 : Int32)) (1 : Int32) b1963 b1979 k1980 (0 : Int32) (3 : Int32) k1 Bd hZ hml (X2101.more (by decide) (by decide)) h2101 e2101 n0 O2178 N2101 (own_nn_mask ((i2.toUInt32 >>> ((4 : Int32) &&& 31).toUInt32).toInt32) (1 : Int32) 1 (by decide) (by decide)) (own_lt_mask ((i2.toUInt32 >>> ((4 : Int32) &&& 31).toUInt32).toInt32) (1 : Int32) 1 (by decide) (by decide) (by decide)) F2172 F2173 vx2171 g1991 ex2170 E2174 N1990 F2175 V2176 N1988 l2177 g1966 N1964
    · have qs2179 := qs
      rw [qs]
      show own_Goes p e below (T2003.setTop (mkF m 79 #[iv i0, iv i1, iv i2, iv (i0.toInt8.toInt32), iv (i1.toInt8.toInt32), rv b2, iv (2 : Int32), iv (((i2.toUInt32 >>> ((4 : Int32) &&& 31).toUInt32).toInt32) &&& (1 : Int32)), iv (1 : Int32), rv b1963, iv (0 : Int32), iv (3 : Int32), .unset, .unset, .unset, .unset, .unset, .unset] [])) _
      refine own_via (fun t k => XS.iload X2003.here hx rfl (hb hby at_79) rfl (XS.ifNo X2003.here hx rfl (hb hby at_81) rfl ((if0 _ _).trans (tlt (by decide : (0 : Int32) < (2 : Int32))).2.2.2) (XS.aload X2003.here hx rfl (hb hby at_84) rfl rfl (XS.iconst X2003.here hx rfl (hb hby at_86) k)))) ?_
      show own_Goes p e below (T2003.setTop (mkF m 87 #[iv i0, iv i1, iv i2, iv (i0.toInt8.toInt32), iv (i1.toInt8.toInt32), rv b2, iv (2 : Int32), iv (((i2.toUInt32 >>> ((4 : Int32) &&& 31).toUInt32).toInt32) &&& (1 : Int32)), iv (1 : Int32), rv b1963, iv (0 : Int32), iv (3 : Int32), .unset, .unset, .unset, .unset, .unset, .unset] [(.int (1 : Int32)), (.ref b1963)])) _
      have l2181 : own_Len Z h2003 b1979 .int (16 : Int32) := ⟨_, _, _, vx2007⟩
      have O2182 : Old Z n0 h2003 := (O2005.keep K2003 (allS g1991 (allS g1966 all0)))
      obtain ⟨_, T2180, _, X2180, hQ2180, st2180⟩ := own_cv X2003 hx hZ hown (wd hw 41 rfl) (wd hw 35 rfl) (wd hw 37 rfl) (wd hw 36 rfl) (wd hw 38 rfl) (wd hw 4 rfl) (by decide) (rm26 l Z a0 hw [] b1963 b1979 k1980 (0 : Int32) (0 : Int32) (0 : Int32) (1 : Int32) (0 : Int32) (0 : Int32) (0 : Int32) (0 : Int32) (0 : Int32) b2 h2003 n0 O2182 fx2011 fx2010 l2181 vx2007 g1991 N1990 ex2008 g1966 ex2006 fx2009) e2003 ex2008 (g := (mkF m 87 #[iv i0, iv i1, iv i2, iv (i0.toInt8.toInt32), iv (i1.toInt8.toInt32), rv b2, iv (2 : Int32), iv (((i2.toUInt32 >>> ((4 : Int32) &&& 31).toUInt32).toInt32) &&& (1 : Int32)), iv (1 : Int32), rv b1963, iv (0 : Int32), iv (3 : Int32), .unset, .unset, .unset, .unset, .unset, .unset] [(.int (1 : Int32)), (.ref b1963)])) rfl (by rw [hml]; rfl) (rest := []) (W := 0) (lenOf pd_3 rfl) rfl (by show 2 * 0 + _ ≤ _; exact Nat.le_of_eq rfl) (hb hby at_87) (by decide) (by decide) (by decide) (by decide)
      obtain ⟨h2180, e2180⟩ : ∃ z, T2180.heap = z := ⟨_, rfl⟩
      rw [e2180] at hQ2180
      obtain ⟨rfl, Nq2180, K2180, ex2183, vx2184, ex2185, fx2186, fx2187, fx2188⟩ := hQ2180
      have N2180 := Fr.app N2003 Nq2180
      refine own_via (fun t k => st2180 t (XS.pop X2180.here hx rfl (hb hby at_90) rfl rfl (XS.iload X2180.here hx rfl (hb hby at_91) rfl (XS.iconst X2180.here hx rfl (hb hby at_93) (XS.icmpNo X2180.here hx rfl (hb hby at_94) rfl (tlt (by decide : (1 : Int32) < (2 : Int32))).2.2.2 (XS.aload X2180.here hx rfl (hb hby at_97) rfl rfl (XS.iconst X2180.here hx rfl (hb hby at_99) k))))))) ?_
      show own_Goes p e below (T2180.setTop (mkF m 100 #[iv i0, iv i1, iv i2, iv (i0.toInt8.toInt32), iv (i1.toInt8.toInt32), rv b2, iv (2 : Int32), iv (((i2.toUInt32 >>> ((4 : Int32) &&& 31).toUInt32).toInt32) &&& (1 : Int32)), iv (1 : Int32), rv b1963, iv (0 : Int32), iv (3 : Int32), .unset, .unset, .unset, .unset, .unset, .unset] [(.int (1 : Int32)), (.ref b1963)])) _
      have l2190 : own_Len Z h2180 b1979 .int (16 : Int32) := ⟨_, _, _, vx2184⟩
      have O2191 : Old Z n0 h2180 := (O2182.keep K2180 (allS g1991 (allS g1966 all0)))
      obtain ⟨_, T2189, _, X2189, hQ2189, st2189⟩ := own_cv X2180 hx hZ hown (wd hw 41 rfl) (wd hw 35 rfl) (wd hw 37 rfl) (wd hw 36 rfl) (wd hw 38 rfl) (wd hw 4 rfl) (by decide) (rm31 l Z a0 hw [] b1963 b1979 k1980 (0 : Int32) (0 : Int32) (0 : Int32) (1 : Int32) (0 : Int32) (0 : Int32) (1 : Int32) (0 : Int32) (0 : Int32) b2 h2180 n0 O2191 fx2188 fx2187 l2190 vx2184 g1991 N1990 ex2185 g1966 ex2183 fx2186) e2180 ex2185 (g := (mkF m 100 #[iv i0, iv i1, iv i2, iv (i0.toInt8.toInt32), iv (i1.toInt8.toInt32), rv b2, iv (2 : Int32), iv (((i2.toUInt32 >>> ((4 : Int32) &&& 31).toUInt32).toInt32) &&& (1 : Int32)), iv (1 : Int32), rv b1963, iv (0 : Int32), iv (3 : Int32), .unset, .unset, .unset, .unset, .unset, .unset] [(.int (1 : Int32)), (.ref b1963)])) rfl (by rw [hml]; rfl) (rest := []) (W := 0) (lenOf pd_3 rfl) rfl (by show 2 * 0 + _ ≤ _; exact Nat.le_of_eq rfl) (hb hby at_100) (by decide) (by decide) (by decide) (by decide)
      obtain ⟨h2189, e2189⟩ : ∃ z, T2189.heap = z := ⟨_, rfl⟩
      rw [e2189] at hQ2189
      obtain ⟨rfl, Nq2189, K2189, ex2192, vx2193, ex2194, fx2195, fx2196, fx2197⟩ := hQ2189
      have N2189 := Fr.app N2180 Nq2189
      refine own_via (fun t k => st2189 t (XS.pop X2189.here hx rfl (hb hby at_103) rfl rfl (XS.aload X2189.here hx rfl (hb hby at_104) rfl rfl (XS.iload X2189.here hx rfl (hb hby at_106) rfl (XS.iload X2189.here hx rfl (hb hby at_108) rfl (XS.iload X2189.here hx rfl (hb hby at_110) rfl k)))))) ?_
      show own_Goes p e below (T2189.setTop (mkF m 112 #[iv i0, iv i1, iv i2, iv (i0.toInt8.toInt32), iv (i1.toInt8.toInt32), rv b2, iv (2 : Int32), iv (((i2.toUInt32 >>> ((4 : Int32) &&& 31).toUInt32).toInt32) &&& (1 : Int32)), iv (1 : Int32), rv b1963, iv (0 : Int32), iv (3 : Int32), .unset, .unset, .unset, .unset, .unset, .unset] [(.int (1 : Int32)), (.int (2 : Int32)), (.int (3 : Int32)), (.ref b1963)])) _
      have O2266 : Old Z n0 h2189 := (O2191.keep K2189 (allS g1991 (allS g1966 all0)))
      obtain ⟨_, T2198, _, X2198, hQ2198, st2198⟩ := own_cv X2189 hx hZ hown (wd hw 42 rfl) (wd hw 43 rfl) (wd hw 45 rfl) (wd hw 44 rfl) (wd hw 46 rfl) (wd hw 4 rfl) (by decide) (rm40 l Z a0 hw [] b1963 (8 : Int32) b1979 k1980 (0 : Int32) (0 : Int32) (0 : Int32) (1 : Int32) (0 : Int32) (0 : Int32) (1 : Int32) (1 : Int32) (0 : Int32) h2189 n0 O2266 fx2197 fx2196 vx2193 g1991 ex2192 ex2194 N1990) e2189 ex2194 (g := (mkF m 112 #[iv i0, iv i1, iv i2, iv (i0.toInt8.toInt32), iv (i1.toInt8.toInt32), rv b2, iv (2 : Int32), iv (((i2.toUInt32 >>> ((4 : Int32) &&& 31).toUInt32).toInt32) &&& (1 : Int32)), iv (1 : Int32), rv b1963, iv (0 : Int32), iv (3 : Int32), .unset, .unset, .unset, .unset, .unset, .unset] [(.int (1 : Int32)), (.int (2 : Int32)), (.int (3 : Int32)), (.ref b1963)])) rfl (by rw [hml]; rfl) (rest := []) (W := 0) (lenOf pd_5 rfl) rfl (by show 2 * 0 + _ ≤ _; exact Nat.le_of_eq rfl) (hb hby at_112) (by decide) (by decide) (by decide) (by decide)
      obtain ⟨h2198, e2198⟩ : ∃ z, T2198.heap = z := ⟨_, rfl⟩
      rw [e2198] at hQ2198
      obtain ⟨rfl, Nq2198, K2198, ex2267, vx2268⟩ := hQ2198
      have N2198 := Fr.app N2189 Nq2198
      refine own_via (fun t k => st2198 t k) ?_
      have F2269 : Fld Z h2198 b1963 zs1 "length" "I" (.int (8 : Int32)) := (fx2197.keep K2198 (ninS N1990 nin0))
      have F2270 : Fld Z h2198 b1963 zs1 "first" "[I" (.ref b1979) := (fx2196.keep K2198 (ninS N1990 nin0))
      have E2271 : Exa Z h2198 b1963 zs1 := (ex2194.keep K2198)
      have F2272 : Fld Z h2198 b1963 zs1 "text" "[B" (.ref b2) := (fx2195.keep K2198 (ninS N1990 nin0))
      have V2273 : Arv Z h2198 b2 k1 .byte (2 : Int32) [(.int (i0.toInt8.toInt32)), (.int (i1.toInt8.toInt32))] (.int (0 : Int32)) := ((((((V1976.keep K1975 (ninS N1964 nin0)).keep K1994 (ninS N1988 (ninS N1964 nin0))).keep K2003 (ninS N1988 (ninS N1964 nin0))).keep K2180 (ninS N1988 (ninS N1964 nin0))).keep K2189 (ninS N1988 (ninS N1964 nin0))).keep K2198 (ninS N1988 nin0))
      have l2274 : own_Len Z h2198 b1979 .int (16 : Int32) := ⟨_, _, _, vx2268⟩
      have O2275 : Old Z n0 h2198 := (O2266.keep K2198 (allS g1991 all0))
      exact sfx9 l Z a0 hw ws i0 i1 i2 i0 i1 i2 (i0.toInt8.toInt32) (i1.toInt8.toInt32) b2 (((i2.toUInt32 >>> ((4 : Int32) &&& 31).toUInt32).toInt32) &&& (1 : Int32)) (1 : Int32) b1963 b1979 k1980 (0 : Int32) (5 : Int32) k1 Bd hZ hml (X2198.more (by decide) (by decide)) h2198 e2198 n0 O2275 N2198 (own_nn_mask ((i2.toUInt32 >>> ((4 : Int32) &&& 31).toUInt32).toInt32) (1 : Int32) 1 (by decide) (by decide)) (own_lt_mask ((i2.toUInt32 >>> ((4 : Int32) &&& 31).toUInt32).toInt32) (1 : Int32) 1 (by decide) (by decide) (by decide)) F2269 F2270 vx2268 g1991 ex2267 E2271 N1990 F2272 V2273 N1988 l2274 g1966 N1964
set_option maxRecDepth 65536 in
set_option maxHeartbeats 40000000 in
theorem comes_1 {Post : Tables → Env → Array Value → State → Outcome → State → Prop} (hpost : ∀ tb e args s v u, (limb_1_1.after args s (.returned v) u = true ∧ limb_1_2.after args s (.returned v) u = true ∧ True) → FrameEnd s (.returned v) u (Jvm.fieldLocs frame_1_writes args s ++ Jvm.arrayLocs frame_1_arrays args s ++ Jvm.staticLocs frame_1_statics s) 24 256 → Post tb e args s (.returned v) u) :
    ArmFor flags0 classFile x code maxLocals ret World_1 tables_1 room_1 Calls_1 rest_1 Pre_1 Post := by
  intro l hfl _ _ p e ha hc hk s m args below hf hA hF happ hP
  obtain ⟨hcalls, hrest, hpre⟩ := hP
  obtain ⟨-, -, -, hnamed, -, -, -, hat⟩ := (Spec.applies_iff hf).mp happ
  obtain ⟨hg, hn⟩ := and_e (Cond.before_iff.mp (show (Jvm.Cond.and given_1 narrow_1).before args s = true from hpre))
  obtain ⟨g2276, g2277⟩ := and_e hg
  obtain ⟨g2278, g2279⟩ := and_e g2277
  obtain ⟨g2280, g2281⟩ := and_e g2279
  obtain ⟨w0, w1, w2, rfl⟩ : ∃ w0 w1 w2 : Value, args = #[w0, w1, w2] := by
    have hs : args.size = 3 := by simpa [Cond.value, given_1] using g2276
    obtain ⟨L⟩ := args
    match L, hs with
    | [w0, w1, w2], _ => exact ⟨w0, w1, w2, rfl⟩
  have hw := fun d (hd : d ∈ tables_1) => atoms_spec (ws := Jvm.Cond.code x code maxLocals ret :: tables_1) hat d (List.mem_cons_of_mem _ hd)
  have hfit : Fit s := fun {y c} hc i hi => by
    obtain ⟨ha, rfl⟩ := Array.getElem?_eq_some_iff.mp hc
    have q := List.all_eq_true.mp ((Array.all_eq_true_iff_forall_mem.mp hF) _ (Array.getElem_mem ha)) i (List.mem_range.mpr hi)
    simpa [Array.getElem?_eq_getElem hi] using q
  obtain ⟨i0, ei0⟩ := is_v g2278
  obtain rfl : w0 = (.int i0) := Option.some.inj ei0
  obtain ⟨i1, ei1⟩ := is_v g2280
  obtain rfl : w1 = (.int i1) := Option.some.inj ei1
  obtain ⟨i2, ei2⟩ := is_v g2281
  obtain rfl : w2 = (.int i2) := Option.some.inj ei2
  obtain ⟨n, o, h1, h2, h3, _, L, rfl, ⟨rfl, N⟩, hq⟩ := rm0 l s _ hw tables_1 i0 i1 i2 s.heap s.heap.size (Old.start s)  p e ha hc hk s m _ below hf ((Spec.applies_iff_loose hf).mp happ).1 ⟨rfl, State.Warmed39.refl s, rfl⟩ trivial
  refine ⟨n, _, h1, h2, h3, hpost _ _ _ _ _ _ ⟨Cond.after_iff.mpr rfl, Cond.after_iff.mpr (eq_i res_at (Term.int_eval (1)) rfl), trivial⟩ ⟨hq.1, hq.2.1, (hq.2.2.sift fun y hy => Or.inr (N y hy)).mono (by decide) (by decide)⟩⟩
theorem main_1_1 : Claimed_1_1 := comes_1 fun _ _ _ _ _ _ h hF => ⟨h.1, hF⟩
theorem main_1_2 : Claimed_1_2 := comes_1 fun _ _ _ _ _ _ h hF => ⟨h.2.1, hF⟩
end Jvm.Pilot.@@N@@
namespace Jvm.Pilot.@@N@@
open Jvm Jvm.ClassFile Sem Op Lib Jvm.Free Jvm.Stand Jvm.Pilot.@@N@@.Jvm.D
/-! MADE BY PROGRAM (witnessworld.py) out of the Statement's table words and the real class files: 12 classes; the members and pool entries that the words name. The judged class is class 1, her method 2. -/
namespace start1
open Jvm.ClassFile
def u (s : String) : CpInfo := .utf8 (stringToUtf16 s)
/-- a pool by its gaps: so many unusable entries, then the entry; so many at the end -/
def gap : Nat → List CpInfo → List CpInfo
  | 0, r => r
  | n + 1, r => .unusable :: gap n r
def poolList (es : List (Nat × CpInfo)) (last : Nat) : List CpInfo := es.foldr (fun e r => gap e.1 (e.2 :: r)) (gap last [])
def pool (es : List (Nat × CpInfo)) (last : Nat) : Array CpInfo := ⟨poolList es last⟩
def fileOf (pool : Array CpInfo) (this : Nat) (attrs : Array Attribute := #[]) (ms : Array MethodInfo := #[]) (fl : Nat := 33) (sup : Nat := 0) (ifs : Array Nat := #[]) (fds : Array FieldInfo := #[]) : ClassFile where
  minorVersion := 0
  majorVersion := 65
  constantPool := pool
  accessFlags := fl
  thisClass := this
  superClass := sup
  interfaces := ifs
  fields := fds
  methods := ms
  attributes := attrs
def plain (name : String) (sup : Option ClassId) : Class where
  name := name
  kind := .ordinary
  loader := none
  accessFlags := 33
  super := sup
  interfaces := #[]
  cf := none
  fields := #[]
  methods := #[]
  instanceTypes := #[]
  staticTypes := #[]
  resolved := #[]
  callSites := []
  init := .initialized
  statics := none
  mirror := none

def pool0 : Array CpInfo := pool [(5, u "<init>"), (0, u "()V"), (1, .class_ 10), (1, u "java/lang/Object")] 113

def k0c0 : Code := { maxStack := 0, maxLocals := 1, code := object_method_1_code, exceptionTable := #[], attributes := #[] }
def k0m0 : Method := { name := "<init>", desc := "()V", sig := { parameters := [], returnType := none }, accessFlags := 1, code := some k0c0 }
/-- java/lang/Object -/
def k0 : Class := { plain "java/lang/Object" none with
  accessFlags := 33
  interfaces := #[]
  cf := some (fileOf pool0 8 #[] #[{ accessFlags := 1, nameIndex := 5, descriptorIndex := 6, attributes := #[] }] 33 0 #[] #[])
  fields := #[]
  methods := #[k0m0]
  instanceTypes := #[]
  staticTypes := #[]
  resolved := Array.replicate 124 none
  statics := none }

def pool1 : Array CpInfo := pool [(2, .class_ 4), (1, u "java/lang/Object"), (0, u "<init>"), (0, u "()V"), (0, .integer 2147483647), (0, .class_ 9), (0, u "com/example/kempt_envelope/kemptenvelope/JsonTape"), (0, .methodref 8 11), (0, .nameAndType 5 12), (0, u "([B)V"), (0, .methodref 8 14), (0, .nameAndType 15 16), (0, u "open"), (0, u "(I)I"), (0, .methodref 8 18), (0, .nameAndType 19 16), (0, u "add"), (0, .methodref 8 21), (0, .nameAndType 22 23), (0, u "close"), (0, u "(IIZ)V"), (0, .methodref 25 26), (0, .class_ 27), (0, .nameAndType 28 29), (0, u "com/example/kempt_envelope/kemptenvelope/JsonTapeNextPinLaw"), (0, u "opens"), (0, u "(B)Z"), (0, .methodref 8 31), (0, .nameAndType 32 16), (0, u "next"), (3, u "law"), (0, u "(III)Z")] 4

def k1m0 : Method := { name := "<init>", desc := "()V", sig := { parameters := [], returnType := none }, accessFlags := 1, code := none }
def k1c1 : Code := { maxStack := 2, maxLocals := 1, code := method_2_code, exceptionTable := #[], attributes := #[] }
def k1m1 : Method := { name := "opens", desc := "(B)Z", sig := { parameters := [.byte], returnType := some .boolean }, accessFlags := 10, code := some k1c1 }
def k1c2 : Code := { maxStack := 4, maxLocals := 18, code := code, exceptionTable := #[], attributes := #[] }
def k1m2 : Method := { name := "law", desc := "(III)Z", sig := { parameters := [.int, .int, .int], returnType := some .boolean }, accessFlags := 9, code := some k1c2 }
/-- com/example/kempt_envelope/kemptenvelope/JsonTapeNextPinLaw -/
def k1 : Class := { plain "com/example/kempt_envelope/kemptenvelope/JsonTapeNextPinLaw" (some 0) with
  accessFlags := 49
  interfaces := #[]
  cf := some (fileOf pool1 25 #[] #[{ accessFlags := 1, nameIndex := 5, descriptorIndex := 6, attributes := #[] }, { accessFlags := 10, nameIndex := 28, descriptorIndex := 29, attributes := #[] }, { accessFlags := 9, nameIndex := 36, descriptorIndex := 37, attributes := #[] }] 49 2 #[] #[])
  fields := #[]
  methods := #[k1m0, k1m1, k1m2]
  instanceTypes := #[]
  staticTypes := #[]
  resolved := Array.replicate 42 none
  statics := none }

def pool2 : Array CpInfo := pool [(1, .class_ 2), (0, u "com/example/kempt_envelope/kemptenvelope/JsonTape"), (0, .methodref 4 5), (0, .class_ 6), (0, .nameAndType 7 8), (0, u "java/lang/Object"), (0, u "<init>"), (0, u "()V"), (0, .class_ 10), (0, u "com/example/kempt_envelope/kemptenvelope/JsonTape$Decoded"), (0, .fieldref 1 12), (0, .nameAndType 13 14), (0, u "kept"), (0, u "[Lcom/example/kempt_envelope/kemptenvelope/JsonTape$Decoded;"), (0, .class_ 16), (0, u "[I"), (0, .fieldref 1 18), (0, .nameAndType 19 20), (0, u "chunks"), (0, u "[[I"), (0, .fieldref 1 22), (0, .nameAndType 23 24), (0, u "text"), (0, u "[B"), (0, .methodref 26 27), (0, .class_ 28), (0, .nameAndType 29 30), (0, u "java/lang/Math"), (0, u "min"), (0, u "(II)I"), (0, .fieldref 1 32), (0, .nameAndType 33 16), (0, u "first"), (0, .fieldref 1 35), (0, .nameAndType 36 37), (0, u "length"), (0, u "I"), (3, u "(I)I"), (10, .methodref 1 53), (0, .nameAndType 54 41), (0, u "add"), (0, .methodref 1 56), (0, .nameAndType 57 58), (0, u "set"), (0, u "(II)V"), (2, u "lineBreaks"), (0, u "Z"), (24, .methodref 1 88), (0, .nameAndType 89 41), (0, u "get"), (2, u "next"), (5, u "Ljava/lang/String;"), (17, u "NAMES"), (0, u "[Ljava/lang/String;"), (83, u "CONTAINER"), (2, u "NAME"), (1, u "CHUNK_BITS"), (1, u "CHUNK"), (1, u "ESCAPES"), (0, u "ESCAPED"), (0, u "KEPT_BITS"), (1, u "KEPT_LENGTH"), (1, u "DECODED"), (1, u "NAMES_BITS"), (1, u "NAME_LENGTH"), (1, u "([B)V"), (4, u "open"), (0, u "close"), (0, u "(IIZ)V")] 22

def k2c0 : Code := { maxStack := 4, maxLocals := 2, code := prog_17_method_1_code, exceptionTable := #[], attributes := #[] }
def k2m0 : Method := { name := "<init>", desc := "([B)V", sig := { parameters := [(.array .byte)], returnType := none }, accessFlags := 0, code := some k2c0 }
def k2c1 : Code := { maxStack := 4, maxLocals := 2, code := prog_17_method_2_code, exceptionTable := #[], attributes := #[] }
def k2m1 : Method := { name := "add", desc := "(I)I", sig := { parameters := [.int], returnType := some .int }, accessFlags := 0, code := some k2c1 }
def k2c2 : Code := { maxStack := 2, maxLocals := 3, code := prog_17_method_5_code, exceptionTable := #[], attributes := #[] }
def k2m2 : Method := { name := "open", desc := "(I)I", sig := { parameters := [.int], returnType := some .int }, accessFlags := 0, code := some k2c2 }
def k2c3 : Code := { maxStack := 4, maxLocals := 4, code := prog_17_method_6_code, exceptionTable := #[], attributes := #[] }
def k2m3 : Method := { name := "close", desc := "(IIZ)V", sig := { parameters := [.int, .int, .boolean], returnType := none }, accessFlags := 0, code := some k2c3 }
def k2c4 : Code := { maxStack := 3, maxLocals := 3, code := prog_17_method_10_code, exceptionTable := #[], attributes := #[] }
def k2m4 : Method := { name := "next", desc := "(I)I", sig := { parameters := [.int], returnType := some .int }, accessFlags := 0, code := some k2c4 }
def k2c5 : Code := { maxStack := 3, maxLocals := 2, code := prog_17_method_28_code, exceptionTable := #[], attributes := #[] }
def k2m5 : Method := { name := "get", desc := "(I)I", sig := { parameters := [.int], returnType := some .int }, accessFlags := 2, code := some k2c5 }
def k2c6 : Code := { maxStack := 3, maxLocals := 3, code := prog_17_method_29_code, exceptionTable := #[], attributes := #[] }
def k2m6 : Method := { name := "set", desc := "(II)V", sig := { parameters := [.int, .int], returnType := none }, accessFlags := 2, code := some k2c6 }
/-- com/example/kempt_envelope/kemptenvelope/JsonTape -/
def k2 : Class := { plain "com/example/kempt_envelope/kemptenvelope/JsonTape" (some 0) with
  accessFlags := 48
  interfaces := #[]
  cf := some (fileOf pool2 1 #[.nestMembers #[9]] #[{ accessFlags := 0, nameIndex := 7, descriptorIndex := 222, attributes := #[] }, { accessFlags := 0, nameIndex := 54, descriptorIndex := 41, attributes := #[] }, { accessFlags := 0, nameIndex := 227, descriptorIndex := 41, attributes := #[] }, { accessFlags := 0, nameIndex := 228, descriptorIndex := 229, attributes := #[] }, { accessFlags := 0, nameIndex := 92, descriptorIndex := 41, attributes := #[] }, { accessFlags := 2, nameIndex := 89, descriptorIndex := 41, attributes := #[] }, { accessFlags := 2, nameIndex := 57, descriptorIndex := 58, attributes := #[] }] 48 4 #[] #[{ accessFlags := 26, nameIndex := 201, descriptorIndex := 37, attributes := #[] }, { accessFlags := 26, nameIndex := 204, descriptorIndex := 37, attributes := #[] }, { accessFlags := 26, nameIndex := 206, descriptorIndex := 37, attributes := #[] }, { accessFlags := 26, nameIndex := 208, descriptorIndex := 37, attributes := #[] }, { accessFlags := 24, nameIndex := 210, descriptorIndex := 98, attributes := #[] }, { accessFlags := 26, nameIndex := 211, descriptorIndex := 98, attributes := #[] }, { accessFlags := 26, nameIndex := 212, descriptorIndex := 37, attributes := #[] }, { accessFlags := 26, nameIndex := 214, descriptorIndex := 37, attributes := #[] }, { accessFlags := 26, nameIndex := 216, descriptorIndex := 37, attributes := #[] }, { accessFlags := 26, nameIndex := 218, descriptorIndex := 37, attributes := #[] }, { accessFlags := 26, nameIndex := 220, descriptorIndex := 37, attributes := #[] }, { accessFlags := 26, nameIndex := 116, descriptorIndex := 117, attributes := #[] }, { accessFlags := 18, nameIndex := 23, descriptorIndex := 24, attributes := #[] }, { accessFlags := 18, nameIndex := 13, descriptorIndex := 14, attributes := #[] }, { accessFlags := 2, nameIndex := 19, descriptorIndex := 20, attributes := #[] }, { accessFlags := 2, nameIndex := 33, descriptorIndex := 16, attributes := #[] }, { accessFlags := 2, nameIndex := 36, descriptorIndex := 37, attributes := #[] }, { accessFlags := 2, nameIndex := 61, descriptorIndex := 62, attributes := #[] }])
  fields := #[{ name := "CONTAINER", type := .int, accessFlags := 26, slot := 0, constantValue := 0 }, { name := "NAME", type := .int, accessFlags := 26, slot := 1, constantValue := 0 }, { name := "CHUNK_BITS", type := .int, accessFlags := 26, slot := 2, constantValue := 0 }, { name := "CHUNK", type := .int, accessFlags := 26, slot := 3, constantValue := 0 }, { name := "ESCAPES", type := (.object "java/lang/String"), accessFlags := 24, slot := 4, constantValue := 0 }, { name := "ESCAPED", type := (.object "java/lang/String"), accessFlags := 26, slot := 5, constantValue := 0 }, { name := "KEPT_BITS", type := .int, accessFlags := 26, slot := 6, constantValue := 0 }, { name := "KEPT_LENGTH", type := .int, accessFlags := 26, slot := 7, constantValue := 0 }, { name := "DECODED", type := .int, accessFlags := 26, slot := 8, constantValue := 0 }, { name := "NAMES_BITS", type := .int, accessFlags := 26, slot := 9, constantValue := 0 }, { name := "NAME_LENGTH", type := .int, accessFlags := 26, slot := 10, constantValue := 0 }, { name := "NAMES", type := (.array (.object "java/lang/String")), accessFlags := 26, slot := 11, constantValue := 0 }, { name := "text", type := (.array .byte), accessFlags := 18, slot := 0, constantValue := 0 }, { name := "kept", type := (.array (.object "com/example/kempt_envelope/kemptenvelope/JsonTape$Decoded")), accessFlags := 18, slot := 1, constantValue := 0 }, { name := "chunks", type := (.array (.array .int)), accessFlags := 2, slot := 2, constantValue := 0 }, { name := "first", type := (.array .int), accessFlags := 2, slot := 3, constantValue := 0 }, { name := "length", type := .int, accessFlags := 2, slot := 4, constantValue := 0 }, { name := "lineBreaks", type := .boolean, accessFlags := 2, slot := 5, constantValue := 0 }]
  methods := #[k2m0, k2m1, k2m2, k2m3, k2m4, k2m5, k2m6]
  instanceTypes := #[(.array .byte), (.array (.object "com/example/kempt_envelope/kemptenvelope/JsonTape$Decoded")), (.array (.array .int)), (.array .int), .int, .boolean]
  staticTypes := #[.int, .int, .int, .int, (.object "java/lang/String"), (.object "java/lang/String"), .int, .int, .int, .int, .int, (.array (.object "java/lang/String"))]
  resolved := Array.replicate 252 none
  statics := none }

def pool3 : Array CpInfo := pool [(2, .class_ 4), (1, u "java/lang/Object"), (3, .class_ 10), (1, u "com/example/kempt_envelope/kemptenvelope/JsonTape$Decoded"), (0, u "entry"), (0, u "I"), (2, u "text"), (0, u "Ljava/lang/String;"), (6, .class_ 24), (0, u "com/example/kempt_envelope/kemptenvelope/JsonTape")] 2

/-- com/example/kempt_envelope/kemptenvelope/JsonTape$Decoded -/
def k3 : Class := { plain "com/example/kempt_envelope/kemptenvelope/JsonTape$Decoded" (some 0) with
  accessFlags := 48
  interfaces := #[]
  cf := some (fileOf pool3 8 #[.nestHost 23] #[] 48 2 #[] #[{ accessFlags := 18, nameIndex := 11, descriptorIndex := 12, attributes := #[] }, { accessFlags := 18, nameIndex := 15, descriptorIndex := 16, attributes := #[] }])
  fields := #[{ name := "entry", type := .int, accessFlags := 18, slot := 0, constantValue := 0 }, { name := "text", type := (.object "java/lang/String"), accessFlags := 18, slot := 1, constantValue := 0 }]
  methods := #[]
  instanceTypes := #[.int, (.object "java/lang/String")]
  staticTypes := #[]
  resolved := Array.replicate 27 none
  statics := none }

def pool4 : Array CpInfo := pool [(1, .class_ 2), (0, u "java/lang/Math"), (1, .class_ 6), (1, u "java/lang/Object"), (0, u "<init>"), (0, u "()V"), (89, .class_ 100), (1, u "java/lang/Math$RandomNumberGeneratorHolder"), (71, u "negativeZeroFloatBits"), (0, u "J"), (2, u "negativeZeroDoubleBits"), (24, u "min"), (43, u "$assertionsDisabled"), (0, u "Z"), (88, u "(II)I"), (2, u "twoToTheDoubleScaleDown"), (0, u "D"), (4, u "twoToTheDoubleScaleUp"), (9, u "E"), (3, u "PI"), (2, u "TAU"), (2, u "DEGREES_TO_RADIANS"), (0, u "RADIANS_TO_DEGREES")] 94

def k4m0 : Method := { name := "<init>", desc := "()V", sig := { parameters := [], returnType := none }, accessFlags := 2, code := none }
def k4c1 : Code := { maxStack := 2, maxLocals := 2, code := jdk_29_method_69_code, exceptionTable := #[], attributes := #[] }
def k4m1 : Method := { name := "min", desc := "(II)I", sig := { parameters := [.int, .int], returnType := some .int }, accessFlags := 9, code := some k4c1 }
/-- java/lang/Math -/
def k4 : Class := { plain "java/lang/Math" (some 0) with
  accessFlags := 49
  interfaces := #[]
  cf := some (fileOf pool4 1 #[.nestMembers #[98]] #[{ accessFlags := 2, nameIndex := 7, descriptorIndex := 8, attributes := #[] }, { accessFlags := 9, nameIndex := 201, descriptorIndex := 335, attributes := #[] }] 49 4 #[] #[{ accessFlags := 25, nameIndex := 354, descriptorIndex := 339, attributes := #[] }, { accessFlags := 25, nameIndex := 358, descriptorIndex := 339, attributes := #[] }, { accessFlags := 25, nameIndex := 361, descriptorIndex := 339, attributes := #[] }, { accessFlags := 26, nameIndex := 364, descriptorIndex := 339, attributes := #[] }, { accessFlags := 26, nameIndex := 365, descriptorIndex := 339, attributes := #[] }, { accessFlags := 26, nameIndex := 172, descriptorIndex := 173, attributes := #[] }, { accessFlags := 26, nameIndex := 176, descriptorIndex := 173, attributes := #[] }, { accessFlags := 8, nameIndex := 344, descriptorIndex := 339, attributes := #[] }, { accessFlags := 8, nameIndex := 338, descriptorIndex := 339, attributes := #[] }, { accessFlags := 4120, nameIndex := 245, descriptorIndex := 246, attributes := #[] }])
  fields := #[{ name := "E", type := .double, accessFlags := 25, slot := 0, constantValue := 0 }, { name := "PI", type := .double, accessFlags := 25, slot := 1, constantValue := 0 }, { name := "TAU", type := .double, accessFlags := 25, slot := 2, constantValue := 0 }, { name := "DEGREES_TO_RADIANS", type := .double, accessFlags := 26, slot := 3, constantValue := 0 }, { name := "RADIANS_TO_DEGREES", type := .double, accessFlags := 26, slot := 4, constantValue := 0 }, { name := "negativeZeroFloatBits", type := .long, accessFlags := 26, slot := 5, constantValue := 0 }, { name := "negativeZeroDoubleBits", type := .long, accessFlags := 26, slot := 6, constantValue := 0 }, { name := "twoToTheDoubleScaleUp", type := .double, accessFlags := 8, slot := 7, constantValue := 0 }, { name := "twoToTheDoubleScaleDown", type := .double, accessFlags := 8, slot := 8, constantValue := 0 }, { name := "$assertionsDisabled", type := .boolean, accessFlags := 4120, slot := 9, constantValue := 0 }]
  methods := #[k4m0, k4m1]
  instanceTypes := #[]
  staticTypes := #[.double, .double, .double, .double, .double, .long, .long, .double, .double, .boolean]
  resolved := Array.replicate 460 none
  statics := none }

def pool5 : Array CpInfo := pool [(1, u "java/lang/Cloneable"), (0, .class_ 1), (0, u "java/lang/Object"), (0, .class_ 3)] 3

/-- java/lang/Cloneable -/
def k5 : Class := { plain "java/lang/Cloneable" (some 0) with
  accessFlags := 1537
  interfaces := #[]
  cf := some (fileOf pool5 2 #[] #[] 1537 4 #[] #[])
  fields := #[]
  methods := #[]
  instanceTypes := #[]
  staticTypes := #[]
  resolved := Array.replicate 8 none
  statics := none }

def pool6 : Array CpInfo := pool [(1, u "java/io/Serializable"), (0, .class_ 1), (0, u "java/lang/Object"), (0, .class_ 3)] 3

/-- java/io/Serializable -/
def k6 : Class := { plain "java/io/Serializable" (some 0) with
  accessFlags := 1537
  interfaces := #[]
  cf := some (fileOf pool6 2 #[] #[] 1537 4 #[] #[])
  fields := #[]
  methods := #[]
  instanceTypes := #[]
  staticTypes := #[]
  resolved := Array.replicate 8 none
  statics := none }

/-- the primitive byte -/
def k7 : Class := { plain "byte" none with kind := .primitive 'B', accessFlags := 0x411 }
/-- [B -/
def k8 : Class := { plain "[B" (some 0) with kind := .array 7 .byte, interfaces := #[5, 6], accessFlags := 1041 }

/-- the primitive int -/
def k9 : Class := { plain "int" none with kind := .primitive 'I', accessFlags := 0x411 }
/-- [I -/
def k10 : Class := { plain "[I" (some 0) with kind := .array 9 .int, interfaces := #[5, 6], accessFlags := 1041 }

/-- [Lcom/example/kempt_envelope/kemptenvelope/JsonTape$Decoded; -/
def k11 : Class := { plain "[Lcom/example/kempt_envelope/kemptenvelope/JsonTape$Decoded;" (some 0) with kind := .array 3 (.object "com/example/kempt_envelope/kemptenvelope/JsonTape$Decoded"), interfaces := #[5, 6], accessFlags := 1041 }

/-- [[I -/
def k12 : Class := { plain "[[I" (some 0) with kind := .array 10 (.array .int), interfaces := #[5, 6], accessFlags := 1041 }
def heap : Heap := #[]
def classes : Array Class := #[k0, k1, k2, k3, k4, k5, k6, k7, k8, k9, k10, k11, k12]
def interned : List (Array UInt16 × Addr) := []
def slotsUsed : Nat := 0
def theMethod : MethodId := ⟨1, 2⟩
def args0 : Array Value := #[.int 5, .int 5, .int 5]
def aboutOver (below : List Frame) : State where
  vm := { classes := classes, interned := interned.toArray }
  heap := heap
  slotsUsed := slotsUsed
  threads := #[{ frames := .invoking theMethod args0 :: below }]
def below0 : List Frame := [.native { method := ⟨0, 0⟩, args := #[] }]
def about1 : State := aboutOver below0
def p0 : Program := .bare "" "" ""
def e0 : Env := launch0.env 0 0 0
theorem w_frames : about1.frames = Frame.invoking theMethod args0 :: below0 := rfl
set_option maxRecDepth 65536 in
theorem w_args : argsFit about1.vm theMethod args0 = true := by decide +kernel
set_option maxRecDepth 65536 in
theorem w_heap : heapFits about1 = true := by decide +kernel
set_option maxRecDepth 65536 in
theorem w_runnable : about1.curStatus? = some .runnable := by decide +kernel
set_option maxRecDepth 65536 in
theorem w_alone : about1.alone = true := by decide +kernel
set_option maxRecDepth 65536 in
theorem w_named : about1.methodNamed? x = some theMethod := by decide +kernel
set_option maxRecDepth 65536 in
theorem w_hears : about1.hears theMethod below0 = true := by decide +kernel
set_option maxRecDepth 65536 in
theorem w_ripe : about1.ripe theMethod args0 below0 = true := by decide +kernel
theorem w_running : about1.status = .running := rfl
set_option maxRecDepth 65536 in
theorem w_room : about1.hasRoom e0.platform room_1 = true :=
  launch0.hasRoom_least _ room_1 (by decide +kernel) (by decide +kernel) (by decide +kernel) (by decide +kernel) (by decide +kernel) (by decide +kernel)
theorem allAtoms_all (ts : List Jvm.Cond) (a : Array Jvm.Value) (st : Jvm.State) : (allAtoms ts).before a st = ts.all (fun c => c.before a st) := by
  induction ts with
  | nil => rfl
  | cons c t ih =>
    show (Jvm.Cond.and c (allAtoms t)).before a st = _
    rw [Jvm.Cond.before_and, ih, List.all_cons]
def words1 : List Jvm.Cond := Jvm.Cond.code x code maxLocals ret :: tables_1
/-- a 'code' word, met by the world's own term for the bytes: nothing is compared byte by byte -/
theorem code_word {y : MethodName} {bytes : ByteArray} {mx : Nat} {rt : Option FieldType} {a : Array Value} {s : State} {m : MethodId} {meth : Method} {c : Code} (h1 : s.methodNamed? y = some m) (h2 : s.vm.method? m = some meth) (h3 : meth.code = some c) (h4 : c.code = bytes)
    (h5 : (c.maxLocals == mx && c.exceptionTable.isEmpty && decide (c.maxStack ≤ mostOperands) && decide (meth.sig.returnType = rt) && !meth.locks && decide (parseMethodDescriptor y.desc = some meth.sig)) = true) : (Jvm.Cond.code y bytes mx rt).before a s = true := by
  simp only [Bool.and_eq_true, beq_iff_eq, Bool.not_eq_true', decide_eq_true_eq] at h5
  obtain ⟨⟨⟨⟨⟨g1, g2⟩, g3⟩, g4⟩, g5⟩, g6⟩ := h5
  simp [Cond.before, Cond.holds, Cond.value, h1, h2, h3, h4, g1, g2, g3, g4, g5, g6]
def isCode : Jvm.Cond → Bool
  | .code _ _ _ _ => true
  | _ => false
theorem all_split {L : List Jvm.Cond} {P : Jvm.Cond → Bool} (h1 : L.all (fun c => isCode c || P c) = true) (h2 : ∀ c ∈ L.filter isCode, P c = true) : L.all P = true := by
  refine List.all_eq_true.mpr fun c hc => ?_
  have h := List.all_eq_true.mp h1 c hc
  rcases Bool.eq_false_or_eq_true (isCode c) with hi | hi
  · exact h2 c (List.mem_filter.mpr ⟨hc, hi⟩)
  · simpa [hi] using h
set_option maxRecDepth 65536 in
theorem w_c0 : (Jvm.Cond.code x code maxLocals ret).before args0 about1 = true := code_word (m := ⟨1, 2⟩) (meth := k1m2) (c := k1c2) (by decide +kernel) rfl rfl rfl (by decide +kernel)
set_option maxRecDepth 65536 in
theorem w_c1 : (Jvm.Cond.code ({ cls := "com/example/kempt_envelope/kemptenvelope/JsonTape", name := "<init>", desc := "([B)V" } : Jvm.MethodName) prog_17_method_1_code (2 : Nat) (Option.none : Option Jvm.ClassFile.FieldType)).before args0 about1 = true := code_word (m := ⟨2, 0⟩) (meth := k2m0) (c := k2c0) (by decide +kernel) rfl rfl rfl (by decide +kernel)
set_option maxRecDepth 65536 in
theorem w_c2 : (Jvm.Cond.code ({ cls := "java/lang/Object", name := "<init>", desc := "()V" } : Jvm.MethodName) object_method_1_code (1 : Nat) (Option.none : Option Jvm.ClassFile.FieldType)).before args0 about1 = true := code_word (m := ⟨0, 0⟩) (meth := k0m0) (c := k0c0) (by decide +kernel) rfl rfl rfl (by decide +kernel)
set_option maxRecDepth 65536 in
theorem w_c3 : (Jvm.Cond.code ({ cls := "java/lang/Math", name := "min", desc := "(II)I" } : Jvm.MethodName) jdk_29_method_69_code (2 : Nat) (Option.some Jvm.ClassFile.FieldType.int)).before args0 about1 = true := code_word (m := ⟨4, 1⟩) (meth := k4m1) (c := k4c1) (by decide +kernel) rfl rfl rfl (by decide +kernel)
set_option maxRecDepth 65536 in
theorem w_c4 : (Jvm.Cond.code ({ cls := "com/example/kempt_envelope/kemptenvelope/JsonTape", name := "open", desc := "(I)I" } : Jvm.MethodName) prog_17_method_5_code (3 : Nat) (Option.some Jvm.ClassFile.FieldType.int)).before args0 about1 = true := code_word (m := ⟨2, 2⟩) (meth := k2m2) (c := k2c2) (by decide +kernel) rfl rfl rfl (by decide +kernel)
set_option maxRecDepth 65536 in
theorem w_c5 : (Jvm.Cond.code ({ cls := "com/example/kempt_envelope/kemptenvelope/JsonTape", name := "add", desc := "(I)I" } : Jvm.MethodName) prog_17_method_2_code (2 : Nat) (Option.some Jvm.ClassFile.FieldType.int)).before args0 about1 = true := code_word (m := ⟨2, 1⟩) (meth := k2m1) (c := k2c1) (by decide +kernel) rfl rfl rfl (by decide +kernel)
set_option maxRecDepth 65536 in
theorem w_c6 : (Jvm.Cond.code ({ cls := "com/example/kempt_envelope/kemptenvelope/JsonTape", name := "close", desc := "(IIZ)V" } : Jvm.MethodName) prog_17_method_6_code (4 : Nat) (Option.none : Option Jvm.ClassFile.FieldType)).before args0 about1 = true := code_word (m := ⟨2, 3⟩) (meth := k2m3) (c := k2c3) (by decide +kernel) rfl rfl rfl (by decide +kernel)
set_option maxRecDepth 65536 in
theorem w_c7 : (Jvm.Cond.code ({ cls := "com/example/kempt_envelope/kemptenvelope/JsonTape", name := "set", desc := "(II)V" } : Jvm.MethodName) prog_17_method_29_code (3 : Nat) (Option.none : Option Jvm.ClassFile.FieldType)).before args0 about1 = true := code_word (m := ⟨2, 6⟩) (meth := k2m6) (c := k2c6) (by decide +kernel) rfl rfl rfl (by decide +kernel)
set_option maxRecDepth 65536 in
theorem w_c8 : (Jvm.Cond.code ({ cls := "com/example/kempt_envelope/kemptenvelope/JsonTapeNextPinLaw", name := "opens", desc := "(B)Z" } : Jvm.MethodName) method_2_code (1 : Nat) (Option.some Jvm.ClassFile.FieldType.boolean)).before args0 about1 = true := code_word (m := ⟨1, 1⟩) (meth := k1m1) (c := k1c1) (by decide +kernel) rfl rfl rfl (by decide +kernel)
set_option maxRecDepth 65536 in
theorem w_c9 : (Jvm.Cond.code ({ cls := "com/example/kempt_envelope/kemptenvelope/JsonTape", name := "next", desc := "(I)I" } : Jvm.MethodName) prog_17_method_10_code (3 : Nat) (Option.some Jvm.ClassFile.FieldType.int)).before args0 about1 = true := code_word (m := ⟨2, 4⟩) (meth := k2m4) (c := k2c4) (by decide +kernel) rfl rfl rfl (by decide +kernel)
set_option maxRecDepth 65536 in
theorem w_c10 : (Jvm.Cond.code ({ cls := "com/example/kempt_envelope/kemptenvelope/JsonTape", name := "get", desc := "(I)I" } : Jvm.MethodName) prog_17_method_28_code (2 : Nat) (Option.some Jvm.ClassFile.FieldType.int)).before args0 about1 = true := code_word (m := ⟨2, 5⟩) (meth := k2m5) (c := k2c5) (by decide +kernel) rfl rfl rfl (by decide +kernel)
def codes1 : List Jvm.Cond := [Jvm.Cond.code x code maxLocals ret, Jvm.Cond.code ({ cls := "com/example/kempt_envelope/kemptenvelope/JsonTape", name := "<init>", desc := "([B)V" } : Jvm.MethodName) prog_17_method_1_code (2 : Nat) (Option.none : Option Jvm.ClassFile.FieldType), Jvm.Cond.code ({ cls := "java/lang/Object", name := "<init>", desc := "()V" } : Jvm.MethodName) object_method_1_code (1 : Nat) (Option.none : Option Jvm.ClassFile.FieldType), Jvm.Cond.code ({ cls := "java/lang/Math", name := "min", desc := "(II)I" } : Jvm.MethodName) jdk_29_method_69_code (2 : Nat) (Option.some Jvm.ClassFile.FieldType.int), Jvm.Cond.code ({ cls := "com/example/kempt_envelope/kemptenvelope/JsonTape", name := "open", desc := "(I)I" } : Jvm.MethodName) prog_17_method_5_code (3 : Nat) (Option.some Jvm.ClassFile.FieldType.int), Jvm.Cond.code ({ cls := "com/example/kempt_envelope/kemptenvelope/JsonTape", name := "add", desc := "(I)I" } : Jvm.MethodName) prog_17_method_2_code (2 : Nat) (Option.some Jvm.ClassFile.FieldType.int), Jvm.Cond.code ({ cls := "com/example/kempt_envelope/kemptenvelope/JsonTape", name := "close", desc := "(IIZ)V" } : Jvm.MethodName) prog_17_method_6_code (4 : Nat) (Option.none : Option Jvm.ClassFile.FieldType), Jvm.Cond.code ({ cls := "com/example/kempt_envelope/kemptenvelope/JsonTape", name := "set", desc := "(II)V" } : Jvm.MethodName) prog_17_method_29_code (3 : Nat) (Option.none : Option Jvm.ClassFile.FieldType), Jvm.Cond.code ({ cls := "com/example/kempt_envelope/kemptenvelope/JsonTapeNextPinLaw", name := "opens", desc := "(B)Z" } : Jvm.MethodName) method_2_code (1 : Nat) (Option.some Jvm.ClassFile.FieldType.boolean), Jvm.Cond.code ({ cls := "com/example/kempt_envelope/kemptenvelope/JsonTape", name := "next", desc := "(I)I" } : Jvm.MethodName) prog_17_method_10_code (3 : Nat) (Option.some Jvm.ClassFile.FieldType.int), Jvm.Cond.code ({ cls := "com/example/kempt_envelope/kemptenvelope/JsonTape", name := "get", desc := "(I)I" } : Jvm.MethodName) prog_17_method_28_code (2 : Nat) (Option.some Jvm.ClassFile.FieldType.int)]
set_option maxRecDepth 65536 in
theorem codes_eq : words1.filter isCode = codes1 := rfl
theorem w_codes : ∀ c ∈ words1.filter isCode, c.before args0 about1 = true := by
  rw [codes_eq]
  intro c hc
  simp only [codes1, List.mem_cons, List.not_mem_nil, or_false] at hc
  rcases hc with rfl | rfl | rfl | rfl | rfl | rfl | rfl | rfl | rfl | rfl | rfl
  · exact w_c0
  · exact w_c1
  · exact w_c2
  · exact w_c3
  · exact w_c4
  · exact w_c5
  · exact w_c6
  · exact w_c7
  · exact w_c8
  · exact w_c9
  · exact w_c10
set_option maxRecDepth 65536 in
theorem w_t1 : (words1.take 24).all (fun c => isCode c || c.before args0 about1) = true := by decide +kernel
set_option maxRecDepth 65536 in
theorem w_t2 : ((words1.drop 24).take 24).all (fun c => isCode c || c.before args0 about1) = true := by decide +kernel
set_option maxRecDepth 65536 in
theorem w_t3 : ((words1.drop 24).drop 24).all (fun c => isCode c || c.before args0 about1) = true := by decide +kernel
theorem w_tables : (allAtoms (Jvm.Cond.code x code maxLocals ret :: tables_1)).before args0 about1 = true := by
  rw [allAtoms_all]
  show words1.all (fun c => c.before args0 about1) = true
  refine all_split ?_ w_codes
  rw [← List.take_append_drop 24 words1, List.all_append, w_t1, ← List.take_append_drop 24 (words1.drop 24), List.all_append, w_t2, w_t3]
  rfl
set_option maxRecDepth 65536 in
theorem w_case : (Jvm.Cond.and given_1 narrow_1).before args0 about1 = true := by decide +kernel
theorem w_applies : (headSpec (Jvm.Cond.code x code maxLocals ret :: tables_1) room_1).applies x e0.platform about1 = true :=
  (Spec.applies_iff w_frames).mpr ⟨w_running, w_runnable, w_alone, w_named, w_hears, w_ripe, w_room, w_tables⟩
theorem atStart : AtStart classFile x code maxLocals ret World_1 tables_1 room_1 Calls_1 rest_1 Pre_1 launch0 p0 e0 about1 theMethod args0 below0 :=
  ⟨lists_1, trivial, launch0.admits_env _ _ _, launch0.least_env, fairChoices_fair.cas, fairChoices_fair.clock, w_frames, w_args, w_heap, w_applies, trivial, trivial, w_case⟩
end start1
theorem witness_1 : WitnessClaimed_1 := ⟨start1.p0, start1.e0, start1.about1, start1.theMethod, start1.args0, start1.below0, start1.atStart⟩
end Jvm.Pilot.@@N@@
