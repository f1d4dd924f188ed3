import JvmDerived
import JvmDerived.Pilot.@@N@@Statement
import JvmDerived.Pilot.@@N@@Code
set_option linter.unusedVariables false
set_option linter.unusedSimpArgs false
@@BLOCK:NumsL.lean.txt@@
namespace Jvm.RoadKit
open Sem ClassFile Op Lib Jvm.Stand Jvm.Free Jvm.LawKit
section New
variable {p : Program} {l : Launch} {e : Env} {R : Room} {s : State} {m : MethodId} {args : Array Value} {below : List Frame} {meth : Method} {c : Code} {T : State} {locs : List Loc} {cells slots : Nat}
theorem retI (X : Stand p l e R s m args below meth c T locs cells slots) (hx : p.tables.exec = Jvm.exec) {pc : Nat} {Ls : Array Slot} {z : Int32} {rest : List Value} (hret : meth.sig.returnType = some .int) (hd : decode c.code pc = .ok (.ireturn, 1)) {fs : List Frame}
    (hl : ∀ (f : JFrame) (acts : List Action), f.method = m → f.locked = none → f.entered = [] → (doReturn e (T.setTop f) acts (some (.int z))).1 = T.setFrames fs) : Steps p.tables e below (T.setTop (mkF m pc Ls (.int z :: rest))) (T.setFrames fs) := by
  have hm' : T.vm.method? m = some meth := X.method'
  have hn : narrow .int (.int z) = .int z := rfl
  show Steps p.tables e below (T.setTop { method := m, pc := pc, locals := Ls, stack := _ :: rest, locked := none }) _
  jvm_step X.here [X.here.top, hx, hd, hm', hret, hn]
  first | (intro acts; rw [hl _ acts rfl rfl rfl]) | rw [hl _ _ rfl rfl rfl]
  exact Steps.refl _
end New
end Jvm.RoadKit
namespace Jvm.Pilot.@@N@@
open Jvm Jvm.ClassFile Sem Op Lib Jvm.Free Jvm.Stand Jvm.LawKit Jvm.RoadKit Bundle Jvm.Pilot.@@N@@.Jvm.D
/-! own_Goes: from S the run comes to some state of which G holds: such a goal may be split in the middle of a walk -/
def own_Goes (p : Program) (e : Env) (below : List Frame) (S : State) (G : State → Prop) : Prop := ∃ t, Steps p.tables e below S t ∧ G t
theorem own_via {p : Program} {e : Env} {below : List Frame} {S S' : State} {G : State → Prop} (f : ∀ t, Steps p.tables e below S' t → Steps p.tables e below S t) (h : own_Goes p e below S' G) : own_Goes p e below S G := by
  obtain ⟨t, h1, h2⟩ := h
  exact ⟨t, f t h1, h2⟩
theorem own_end {p : Program} {e : Env} {below : List Frame} {S t : State} {G : State → Prop} (h : Steps p.tables e below S t) (g : G t) : own_Goes p e below S G := ⟨t, h, g⟩
theorem own_out {p : Program} {e : Env} {below : List Frame} {S : State} {P : State → Outcome → Prop} (h : own_Goes p e below S (fun t => ∃ o, t.status = .running ∧ Ended t below o ∧ P t o)) : ∃ t o, Steps p.tables e below S t ∧ t.status = .running ∧ Ended t below o ∧ P t o := by
  obtain ⟨t, h1, o, h2, h3, h4⟩ := h
  exact ⟨t, o, h1, h2, h3, h4⟩
theorem wd {a0 : Array Value} {Z : State} (hw : ∀ d ∈ tables_1, d.before a0 Z = true) (i : Nat) {d : Jvm.Cond} (h : tables_1[i]? = some d) : d.before a0 Z = true := hw _ (List.mem_of_getElem? h)
theorem own_old {Z : State} {n0 : Nat} {h : Heap} (O : Old Z n0 h) : n0 ≤ h.size := by rw [← O.1]; exact O.2.1
def own_Q0 (n0 : Nat) (v : Option Value) (L : List Loc) : Prop := v = some (.int (1 : Int32)) ∧ Fr n0 L
def own_G (s : State) (below : List Frame) (n0 : Nat) (t : State) : Prop := ∃ o, t.status = .running ∧ Ended t below o ∧ ∃ v L, o = .returned v ∧ own_Q0 n0 v L ∧ FrameEnd s o t L room_1.cells room_1.slots
def own_Len (Z : State) (h : Heap) (a : Addr) (ty : FieldType) (n : Int32) : Prop := ∃ k vs d, Arv Z h a k ty n vs d
theorem own_len_ext {Z : State} {h h' : Heap} {a : Addr} {ty : FieldType} {n : Int32} (F : own_Len Z h a ty n) (E : Ext h h') : own_Len Z h' a ty n := by
  obtain ⟨k, vs, d, V⟩ := F
  exact ⟨k, vs, d, V.ext E⟩
theorem own_len_other {Z : State} {h h' : Heap} {a b : Addr} {sl : Nat} {v : Value} {ty : FieldType} {n : Int32} (F : own_Len Z h b ty n) (W : Wr h h' a sl v) (q : b ≠ a) : own_Len Z h' b ty n := by
  obtain ⟨k, vs, d, V⟩ := F
  exact ⟨k, vs, d, V.other W q⟩
theorem own_len_keep {Z : State} {h h' : Heap} {a : Addr} {ws : List Addr} {ty : FieldType} {n : Int32} (F : own_Len Z h a ty n) (K : Keep h h' ws) (q : a ∉ ws) : own_Len Z h' a ty n := by
  obtain ⟨k, vs, d, V⟩ := F
  exact ⟨k, vs, d, V.keep K q⟩
theorem own_len_lt {Z : State} {h : Heap} {a : Addr} {ty : FieldType} {n : Int32} (F : own_Len Z h a ty n) : a < h.size := by
  obtain ⟨k, vs, d, V⟩ := F
  exact V.lt
theorem own_c2 (x : Int32) : x.toUInt32.toUInt16.toUInt32.toInt32.toUInt32.toUInt16.toUInt32.toInt32 = x.toUInt32.toUInt16.toUInt32.toInt32 := by rw [UInt32.toUInt32_toInt32, UInt16.toUInt16_toUInt32]
theorem own_b2 (x : Int32) : x.toInt8.toInt32.toInt8.toInt32 = x.toInt8.toInt32 := by rw [Int8.toInt8_toInt32]
section Calls
variable {p : Program} {l : Launch} {e : Env} {R : Room} {s : State} {m : MethodId} {args : Array Value} {below : List Frame} {meth : Method} {c : Code} {T : State} {locs : List Loc} {cells slots : Nat} {Z : State} {a0 : Array Value} {h : Heap} {own C : String} {index : Nat} {y : MethodName} {bytes : ByteArray} {maxL : Nat} {rm : Room} {Q : Option Value → Heap → List Loc → Prop} {a : Addr} {argsL : List Value} {g : JFrame}
/-! a call by its contract, in one step: virtual (the class's own method), a constructor, static -/
theorem own_cv {ret : Option FieldType} (X : Stand p l e R s m args below meth c T locs cells slots) (hx : p.tables.exec = Jvm.exec) (hZ : Z.Warmed39 s.vm) (hown : s.vm.findClass own = some m.cls) (w1 : (Jvm.Cond.methodLink own index y).before a0 Z = true) (w2 : (Jvm.Cond.declares y).before a0 Z = true) (w3 : (Jvm.Cond.selects C y y).before a0 Z = true) (w4 : (Jvm.Cond.instanceMethod y).before a0 Z = true) (wc : (Jvm.Cond.code y bytes maxL ret).before a0 Z = true) (wz : (Jvm.Cond.initialized y.cls).before a0 Z = true) (hy : y.cls ≠ "java/lang/invoke/MethodHandle" ∧ y.cls ≠ "java/lang/invoke/VarHandle")
    (hM : MetFree l y (head1 [Jvm.Cond.code y bytes maxL ret] rm) (fun A U => A = (.ref a :: argsL).toArray ∧ Z.Warmed39 U.vm ∧ U.heap = h) (fun _ _ _ _ _ => True) (fun _ U o U' => ∃ v L, o = .returned v ∧ Q v U'.heap L ∧ FrameEnd U o U' L rm.cells rm.slots)) (eT : T.heap = h) (E : Exa Z h a C) (hg : g.method = m) (hsize : g.locals.size = c.maxLocals) {rest : List Value} {W : Nat}
    (hlen : ∀ sig, parseMethodDescriptor y.desc = some sig → argsL.length = sig.parameters.length) (hstack : g.stack = argsL.reverse ++ .ref a :: rest) (hW : 2 * g.monitorRoom + (rest.map fun v => v.category).sum ≤ W) (hdg : decode c.code g.pc = .ok (.invokevirtual index, 3)) (r1 : rm.frames + 1 ≤ R.frames) (r2 : W + (maxL + 11) + rm.locals ≤ R.locals) (r3 : cells + rm.cells ≤ R.cells) (r4 : slots + rm.slots ≤ R.slots) :
    ∃ (v : Option Value) (T' : State) (L : List Loc), Stand p l e R s m args below meth c T' (locs ++ L) (cells + rm.cells) (slots + rm.slots) ∧ Q v T'.heap L ∧ ∀ t, Steps p.tables e below (T'.setTop { g with pc := g.pc + 3, stack := v.toList ++ rest }) t → Steps p.tables e below (T.setTop g) t := by
  obtain ⟨cq, kq, qa, -, qc⟩ := isOf hZ eT E
  obtain ⟨v, _, ⟨T', L', c', n'⟩, -, X', ⟨Lc, hQ, l1, y1, z1⟩, st⟩ := X.virtualBack hx (y := y) (z := y) hown (mvT hZ w1) (mvT hZ w2) (notFace_of_selects (args := #[]) (mvT hZ w3)) (mvT hZ w3) (mvT hZ w4) hy (backOf (W := W) hM hZ wc wz r1 r2) qa qc (g := g) hg hsize (Steps.refl _) (argsL := argsL) (rest := rest) hlen hstack hW hdg (fun _ _ => ⟨rfl, eT, r3, r4⟩)
  dsimp only [Pt.U, Pt.locs, Pt.cells, Pt.slots] at X' l1 y1 z1 st hQ
  subst l1 y1 z1
  exact ⟨v, T', Lc, X', hQ, fun t k => st.trans k⟩
theorem own_ci (X : Stand p l e R s m args below meth c T locs cells slots) (hx : p.tables.exec = Jvm.exec) (hZ : Z.Warmed39 s.vm) (hown : s.vm.findClass own = some m.cls) (w1 : (Jvm.Cond.methodLink own index y).before a0 Z = true) (w4 : (Jvm.Cond.instanceMethod y).before a0 Z = true) (wc : (Jvm.Cond.code y bytes maxL none).before a0 Z = true) (wz : (Jvm.Cond.initialized y.cls).before a0 Z = true) (hi : y.name = "<init>") (hy : y.cls ≠ "java/lang/invoke/MethodHandle" ∧ y.cls ≠ "java/lang/invoke/VarHandle")
    (hM : MetFree l y (head1 [Jvm.Cond.code y bytes maxL none] rm) (fun A U => A = (.ref a :: argsL).toArray ∧ Z.Warmed39 U.vm ∧ U.heap = h) (fun _ _ _ _ _ => True) (fun _ U o U' => ∃ v L, o = .returned v ∧ Q v U'.heap L ∧ FrameEnd U o U' L rm.cells rm.slots)) (eT : T.heap = h) (hg : g.method = m) (hsize : g.locals.size = c.maxLocals) {rest : List Value} {W : Nat}
    (hlen : ∀ sig, parseMethodDescriptor y.desc = some sig → argsL.length = sig.parameters.length) (hstack : g.stack = argsL.reverse ++ .ref a :: rest) (hW : 2 * g.monitorRoom + (rest.map fun v => v.category).sum ≤ W) (hdg : decode c.code g.pc = .ok (.invokespecial index, 3)) (r1 : rm.frames + 1 ≤ R.frames) (r2 : W + (maxL + 11) + rm.locals ≤ R.locals) (r3 : cells + rm.cells ≤ R.cells) (r4 : slots + rm.slots ≤ R.slots) :
    ∃ (v : Option Value) (T' : State) (L : List Loc), Stand p l e R s m args below meth c T' (locs ++ L) (cells + rm.cells) (slots + rm.slots) ∧ Q v T'.heap L ∧ ∀ t, Steps p.tables e below (T'.setTop { g with pc := g.pc + 3, stack := v.toList ++ rest }) t → Steps p.tables e below (T.setTop g) t := by
  obtain ⟨v, _, ⟨T', L', c', n'⟩, -, X', ⟨Lc, hQ, l1, y1, z1⟩, st⟩ := X.specialBack hx (y := y) hi hown (mvT hZ w1) (mvT hZ w4) (mvT hZ wc) hy (backOf (W := W) hM hZ wc wz r1 r2) (g := g) hg hsize (Steps.refl _) (a := a) (argsL := argsL) (rest := rest) hlen hstack hW hdg (fun _ _ => ⟨rfl, eT, r3, r4⟩)
  dsimp only [Pt.U, Pt.locs, Pt.cells, Pt.slots] at X' l1 y1 z1 st hQ
  subst l1 y1 z1
  exact ⟨v, T', Lc, X', hQ, fun t k => st.trans k⟩
theorem own_cs {ret : Option FieldType} (X : Stand p l e R s m args below meth c T locs cells slots) (hx : p.tables.exec = Jvm.exec) (hZ : Z.Warmed39 s.vm) (hown : s.vm.findClass own = some m.cls) (w1 : (Jvm.Cond.methodLink own index y).before a0 Z = true) (w4 : (Jvm.Cond.static y).before a0 Z = true) (wc : (Jvm.Cond.code y bytes maxL ret).before a0 Z = true) (wz : (Jvm.Cond.initialized y.cls).before a0 Z = true) (hy : y.cls ≠ "java/lang/invoke/MethodHandle" ∧ y.cls ≠ "java/lang/invoke/VarHandle")
    (hM : MetFree l y (head1 [Jvm.Cond.code y bytes maxL ret] rm) (fun A U => A = argsL.toArray ∧ Z.Warmed39 U.vm ∧ U.heap = h) (fun _ _ _ _ _ => True) (fun _ U o U' => ∃ v L, o = .returned v ∧ Q v U'.heap L ∧ FrameEnd U o U' L rm.cells rm.slots)) (eT : T.heap = h) (hg : g.method = m) (hsize : g.locals.size = c.maxLocals) {rest : List Value} {W : Nat}
    (hlen : ∀ sig, parseMethodDescriptor y.desc = some sig → argsL.length = sig.parameters.length) (hstack : g.stack = argsL.reverse ++ rest) (hW : 2 * g.monitorRoom + (rest.map fun v => v.category).sum ≤ W) (hdg : decode c.code g.pc = .ok (.invokestatic index, 3)) (r1 : rm.frames + 1 ≤ R.frames) (r2 : W + (maxL + 11) + rm.locals ≤ R.locals) (r3 : cells + rm.cells ≤ R.cells) (r4 : slots + rm.slots ≤ R.slots) :
    ∃ (v : Option Value) (T' : State) (L : List Loc), Stand p l e R s m args below meth c T' (locs ++ L) (cells + rm.cells) (slots + rm.slots) ∧ Q v T'.heap L ∧ ∀ t, Steps p.tables e below (T'.setTop { g with pc := g.pc + 3, stack := v.toList ++ rest }) t → Steps p.tables e below (T.setTop g) t := by
  obtain ⟨v, _, ⟨T', L', c', n'⟩, -, X', ⟨Lc, hQ, l1, y1, z1⟩, st⟩ := Jvm.LawKit.callS X hx (y := y) hown (mvT hZ w1) (mvT hZ w4) (mvT hZ wz) (mvT hZ wc) hy (backOf (W := W) hM hZ wc wz r1 r2) (g := g) hg hsize (argsL := argsL) (rest := rest) hlen hstack hW hdg (fun _ _ => ⟨rfl, eT, r3, r4⟩)
  dsimp only [Pt.U, Pt.locs, Pt.cells, Pt.slots] at X' l1 y1 z1 st hQ
  subst l1 y1 z1
  exact ⟨v, T', Lc, X', hQ, st⟩
end Calls
theorem own_eq_ref {args : Array Value} {s : State} {a b : Term} {w : Addr} (h : (Jvm.Cond.eq a b).value args s none s [] = some true) (hb : b.eval args s none [] s = some (.ref w)) : a.eval args s none [] s = some (.ref w) := by
  obtain ⟨x, y, e1, e2, k1, k2⟩ := cmp_v (Or.inl h)
  rw [hb] at e2
  cases e2
  have hx : x.isRef = true := by cases x <;> simp_all [Kin, Value.isRef]
  have q := gotT (eq_R e1 hb hx rfl) h
  rw [e1, q]
theorem own_ne_ref {args : Array Value} {s : State} {a b : Term} {u w : Addr} (h : (Jvm.Cond.not (Jvm.Cond.eq a b)).value args s none s [] = some true) (ha : a.eval args s none [] s = some (.ref u)) (hb : b.eval args s none [] s = some (.ref w)) : u ≠ w := fun q => gotF (eq_R ha hb rfl rfl) (not_v h) (by rw [q])
theorem own_nn_mask (x m : Int32) (k : Nat) (hk : k < 32) (hm : m.toBitVec.toNat = 2 ^ k - 1) : ¬ ((x &&& m) < (0 : Int32)) := by
  rw [Int32.lt_iff_toInt_lt, Jvm.Kit.i32_mask x m hk hm]
  have h := Int.emod_nonneg x.toInt (show ((2 : Int) ^ k) ≠ 0 from Int.ne_of_gt (Int.pow_pos (by decide)))
  rw [Int32.toInt_zero]
  omega
theorem own_lt_mask (x m : Int32) (k : Nat) (hk : k < 32) (hm : m.toBitVec.toNat = 2 ^ k - 1) {n : Int32} (hn : n.toInt = 2 ^ k) : (x &&& m) < n := by
  rw [Int32.lt_iff_toInt_lt, Jvm.Kit.i32_mask x m hk hm, hn]
  exact Int.emod_lt_of_pos _ (Int.pow_pos (by decide))
theorem own_nn_rem {x : Int32} (n : Int32) (h : ¬ (x < (0 : Int32))) : ¬ (x % n < (0 : Int32)) := by
  rw [Int32.lt_iff_toInt_lt, Int32.toInt_zero] at h ⊢
  rw [Int32.toInt_mod]
  have := Int.tmod_nonneg n.toInt (show 0 ≤ x.toInt by omega)
  omega
theorem own_pos {n : Int32} (h : (0 : Int32) < n) : 0 < n.toInt := by
  rw [Int32.lt_iff_toInt_lt, Int32.toInt_zero] at h
  exact h
theorem own_ne0 {n : Int32} (h : (0 : Int32) < n) : n ≠ 0 := fun q => by
  rw [q] at h
  exact absurd h (by decide)
theorem own_lt_rem {x : Int32} (n : Int32) (h : ¬ (x < (0 : Int32))) (hn : 0 < n.toInt) : x % n < n := by
  rw [Int32.lt_iff_toInt_lt] at h ⊢
  rw [Int32.toInt_zero] at h
  rw [Jvm.Kit.i32_rem_nonneg (by omega)]
  exact Int.emod_lt_of_pos _ hn
theorem own_modlo (x n : Int32) (hn : 0 < n.toInt) : 0 ≤ ((x &&& (2147483647 : Int32)) % n).toInt := by
  have a := Jvm.Kit.i32_mask x 2147483647 (k := 31) (by decide) (by decide)
  rw [Jvm.Kit.i32_rem_nonneg (by omega)]
  exact Int.emod_nonneg _ (by omega)
theorem own_modhi (x n : Int32) (hn : 0 < n.toInt) : ((x &&& (2147483647 : Int32)) % n).toInt < n.toInt := by
  have a := Jvm.Kit.i32_mask x 2147483647 (k := 31) (by decide) (by decide)
  rw [Jvm.Kit.i32_rem_nonneg (by omega)]
  exact Int.emod_lt_of_pos _ hn
theorem own_cases_13 (y : Int32) (h0 : 0 ≤ y.toInt) (h1 : y.toInt < 13) : y = (0 : Int32) ∨ y = (1 : Int32) ∨ y = (2 : Int32) ∨ y = (3 : Int32) ∨ y = (4 : Int32) ∨ y = (5 : Int32) ∨ y = (6 : Int32) ∨ y = (7 : Int32) ∨ y = (8 : Int32) ∨ y = (9 : Int32) ∨ y = (10 : Int32) ∨ y = (11 : Int32) ∨ y = (12 : Int32) := by
  have e : ∀ k : Int32, y.toInt = k.toInt → y = k := fun k q => Int32.toInt_inj.mp q
  rcases (by omega : y.toInt = 0 ∨ y.toInt = 1 ∨ y.toInt = 2 ∨ y.toInt = 3 ∨ y.toInt = 4 ∨ y.toInt = 5 ∨ y.toInt = 6 ∨ y.toInt = 7 ∨ y.toInt = 8 ∨ y.toInt = 9 ∨ y.toInt = 10 ∨ y.toInt = 11 ∨ y.toInt = 12) with q | q | q | q | q | q | q | q | q | q | q | q | q
  · exact Or.inl (e 0 (q.trans rfl))
  · exact Or.inr <| Or.inl (e 1 (q.trans rfl))
  · exact Or.inr <| Or.inr <| Or.inl (e 2 (q.trans rfl))
  · exact Or.inr <| Or.inr <| Or.inr <| Or.inl (e 3 (q.trans rfl))
  · exact Or.inr <| Or.inr <| Or.inr <| Or.inr <| Or.inl (e 4 (q.trans rfl))
  · exact Or.inr <| Or.inr <| Or.inr <| Or.inr <| Or.inr <| Or.inl (e 5 (q.trans rfl))
  · exact Or.inr <| Or.inr <| Or.inr <| Or.inr <| Or.inr <| Or.inr <| Or.inl (e 6 (q.trans rfl))
  · exact Or.inr <| Or.inr <| Or.inr <| Or.inr <| Or.inr <| Or.inr <| Or.inr <| Or.inl (e 7 (q.trans rfl))
  · exact Or.inr <| Or.inr <| Or.inr <| Or.inr <| Or.inr <| Or.inr <| Or.inr <| Or.inr <| Or.inl (e 8 (q.trans rfl))
  · exact Or.inr <| Or.inr <| Or.inr <| Or.inr <| Or.inr <| Or.inr <| Or.inr <| Or.inr <| Or.inr <| Or.inl (e 9 (q.trans rfl))
  · exact Or.inr <| Or.inr <| Or.inr <| Or.inr <| Or.inr <| Or.inr <| Or.inr <| Or.inr <| Or.inr <| Or.inr <| Or.inl (e 10 (q.trans rfl))
  · exact Or.inr <| Or.inr <| Or.inr <| Or.inr <| Or.inr <| Or.inr <| Or.inr <| Or.inr <| Or.inr <| Or.inr <| Or.inr <| Or.inl (e 11 (q.trans rfl))
  · exact Or.inr <| Or.inr <| Or.inr <| Or.inr <| Or.inr <| Or.inr <| Or.inr <| Or.inr <| Or.inr <| Or.inr <| Or.inr <| Or.inr <| (e 12 (q.trans rfl))
abbrev zs1 : String := "com/example/rondier/rondier/model/RoundEntry"
abbrev zs2 : String := "com/example/rondier/rondier/model/Result"
abbrev zs3 : String := "Lcom/example/rondier/rondier/model/Result;"
abbrev zs4 : String := "com/example/rondier/rondier/model/RoundEntryIsPlayedGamePinLaw"
abbrev zs5 : String := "(ILjava/util/Optional;Lcom/example/rondier/rondier/model/Result;)V"
abbrev zs6 : String := "Ljava/util/Optional;"
abbrev zs7 : String := "java/util/Optional"
abbrev zs8 : String := "(I)Lcom/example/rondier/rondier/model/Result;"
abbrev zs9 : String := "(Ljava/lang/Object;)Ljava/lang/Object;"
abbrev zs10 : String := "java/util/Objects"
abbrev zs11 : String := "requireNonNull"
abbrev zs12 : String := "isPlayedGame"
abbrev zs13 : String := "java/lang/Object"
abbrev zs14 : String := "java/lang/Record"
theorem own_mod_13 (x : Int32) : (x &&& (2147483647 : Int32)) % (13 : Int32) = (0 : Int32) ∨ (x &&& (2147483647 : Int32)) % (13 : Int32) = (1 : Int32) ∨ (x &&& (2147483647 : Int32)) % (13 : Int32) = (2 : Int32) ∨ (x &&& (2147483647 : Int32)) % (13 : Int32) = (3 : Int32) ∨ (x &&& (2147483647 : Int32)) % (13 : Int32) = (4 : Int32) ∨ (x &&& (2147483647 : Int32)) % (13 : Int32) = (5 : Int32) ∨ (x &&& (2147483647 : Int32)) % (13 : Int32) = (6 : Int32) ∨ (x &&& (2147483647 : Int32)) % (13 : Int32) = (7 : Int32) ∨ (x &&& (2147483647 : Int32)) % (13 : Int32) = (8 : Int32) ∨ (x &&& (2147483647 : Int32)) % (13 : Int32) = (9 : Int32) ∨ (x &&& (2147483647 : Int32)) % (13 : Int32) = (10 : Int32) ∨ (x &&& (2147483647 : Int32)) % (13 : Int32) = (11 : Int32) ∨ (x &&& (2147483647 : Int32)) % (13 : Int32) = (12 : Int32) := own_cases_13 _ (own_modlo x 13 (by decide)) (own_modhi x 13 (by decide))
theorem d1_0 : decode method_2_code 0 = .ok (.iload_n 0, 1) := by decide +kernel
theorem d1_1 : decode method_2_code 1 = .ok (.ifCond .ne 7, 3) := by decide +kernel
theorem d1_4 : decode method_2_code 4 = .ok (.getstatic 7, 3) := by decide +kernel
theorem d1_7 : decode method_2_code 7 = .ok (.areturn, 1) := by decide +kernel
theorem ef_1 (m : MethodId) (x0 : Int32) : entryFrame m #[(.int x0)] 1 = mkF m 0 #[iv x0] [] := by first | (simp [entryFrame, mkF, argsToLocals, Value.category]; done) | rfl
theorem pn_1 : plainName "com/example/rondier/rondier/model/RoundEntryIsPlayedGamePinLaw" = true := by first | (simp [plainName, overriddenIn]; done) | decide +kernel
def Q1 (Z : State) (w67 : Addr) (h0 : Heap) (n0 : Nat) (v : Option Value) (h : Heap) (L : List Loc) : Prop := v = some (.ref w67) ∧ Fr n0 L ∧ h = h0
set_option maxRecDepth 65536 in
set_option maxHeartbeats 40000000 in
theorem rm1 (l : Launch) (Z : State) (a0 : Array Value) (hw : ∀ d ∈ tables_1, d.before a0 Z = true) (ws : List Jvm.Cond) (w67 : Addr) (h0 : Heap) (n0 : Nat) (O0 : Old Z n0 h0) (S_Result_WIN : Sta Z Z.heap zs2 "WIN" zs3 (.ref w67)) :
    MetFree l (⟨zs4, "pick", zs8⟩ : MethodName) (head1 (Jvm.Cond.code (⟨zs4, "pick", zs8⟩ : MethodName) method_2_code 1 (some (.object zs2)) :: ws) ({ frames := 0, cells := 0, slots := 0, locals := 0 } : Room)) (fun a U => a = #[(.int (0 : Int32))] ∧ Z.Warmed39 U.vm ∧ U.heap = h0) (fun _ _ _ _ _ => True) (fun _ U o U' => ∃ v L, o = .returned v ∧ Q1 Z w67 h0 n0 v U'.heap L ∧ FrameEnd U o U' L ({ frames := 0, cells := 0, slots := 0, locals := 0 } : Room).cells ({ frames := 0, cells := 0, slots := 0, locals := 0 } : Room).slots) := by
  refine MetFree.of_bodySF (plainFor_of_name pn_1) hisR ?_
  intro p e s m args below meth c s₁ Bd hml0 hP hK
  obtain ⟨rfl, hZ, hh⟩ := hP
  have hx := Bd.exec
  have hby := Bd.bytes
  have hml : c.maxLocals = 1 := hml0
  have hown : s.vm.findClass zs4 = some m.cls := findClass_of_methodNamed Bd.named
  have hnm := (name_of_methodNamed Bd.named Bd.method).1
  have X0 : Stand p l e ({ frames := 0, cells := 0, slots := 0, locals := 0 } : Room) s m #[(.int (0 : Int32))] below meth c s₁ [] 0 0 := Stand.of_body Bd
  have e0 : s₁.heap = h0 := by rw [← hh, Bd.state]; rfl
  have N0 := Fr.nil n0
  refine own_out ?_
  refine own_via (fun t k => castTop (ef_1 m (0 : Int32)) (XS.iloadN X0.here hx rfl (hb hby d1_0) rfl (XS.ifNo X0.here hx rfl (hb hby d1_1) rfl ((if0 _ _).trans (teq (by decide : (0 : Int32) = (0 : Int32))).2) k))) ?_
  show own_Goes p e below (s₁.setTop (mkF m 4 #[iv (0 : Int32)] [])) _
  obtain ⟨T107, X107, e107, st107⟩ := getS2 X0 hx hZ hown (host := "") (Or.inl (wd hw 55 rfl)) Via.refl e0 (S_Result_WIN.ext O0.2) (g := (mkF m 4 #[iv (0 : Int32)] [])) rfl (hb hby d1_4)
  refine own_via (fun t k => st107 t k) ?_
  obtain ⟨fs, hr, hrun, hended, hW, hsame⟩ := X107.leave (v := some (.ref w67)) (fun h => by rw [Bd.returns] at h; cases h)
  refine own_end (t := T107.setFrames fs) ?_ ⟨_, hrun, hended, _, _, rfl, ?_, ⟨_, rfl⟩, hW, hsame.mono (by decide) (by decide)⟩
  · jvm_step X107.here [X107.here.top, hx, (hb hby d1_7), X107.method', Bd.returns, Value.isRef, FieldType.isReference]
    first | (intro acts; rw [hr _ acts rfl rfl rfl]) | rw [hr _ _ rfl rfl rfl]
    exact Steps.refl _
  · show Q1 Z w67 h0 n0 _ T107.heap _
    rw [e107]
    exact ⟨rfl, N0, rfl⟩
theorem pd_1 : parseMethodDescriptor "(I)Lcom/example/rondier/rondier/model/Result;" = some ⟨[.int], some (.object "com/example/rondier/rondier/model/Result")⟩ := by decide +kernel
theorem d2_0 : decode prog_45_method_9_code 0 = .ok (.aload_n 0, 1) := by decide +kernel
theorem d2_1 : decode prog_45_method_9_code 1 = .ok (.getfield 28, 3) := by decide +kernel
theorem d2_4 : decode prog_45_method_9_code 4 = .ok (.areturn, 1) := by decide +kernel
theorem ef_2 (m : MethodId) (x0 : Addr) : entryFrame m #[(.ref x0)] 1 = mkF m 0 #[rv x0] [] := by first | (simp [entryFrame, mkF, argsToLocals, Value.category]; done) | rfl
theorem pn_2 : plainName "com/example/rondier/rondier/model/RoundEntry" = true := by first | (simp [plainName, overriddenIn]; done) | decide +kernel
def Q2 (Z : State) (w57 : Addr) (w59 : Addr) (h0 : Heap) (n0 : Nat) (v : Option Value) (h : Heap) (L : List Loc) : Prop := v = some (.ref w59) ∧ Fr n0 L ∧ h = h0
set_option maxRecDepth 65536 in
set_option maxHeartbeats 40000000 in
theorem rm2 (l : Launch) (Z : State) (a0 : Array Value) (hw : ∀ d ∈ tables_1, d.before a0 Z = true) (ws : List Jvm.Cond) (w57 : Addr) (w59 : Addr) (h0 : Heap) (n0 : Nat) (O0 : Old Z n0 h0) (SF_w57_colour : Fld Z Z.heap w57 zs1 "colour" zs6 (.ref w59)) :
    MetFree l (⟨zs1, "colour", "()Ljava/util/Optional;"⟩ : MethodName) (head1 (Jvm.Cond.code (⟨zs1, "colour", "()Ljava/util/Optional;"⟩ : MethodName) prog_45_method_9_code 1 (some (.object zs7)) :: ws) ({ frames := 0, cells := 0, slots := 0, locals := 0 } : Room)) (fun a U => a = #[(.ref w57)] ∧ Z.Warmed39 U.vm ∧ U.heap = h0) (fun _ _ _ _ _ => True) (fun _ U o U' => ∃ v L, o = .returned v ∧ Q2 Z w57 w59 h0 n0 v U'.heap L ∧ FrameEnd U o U' L ({ frames := 0, cells := 0, slots := 0, locals := 0 } : Room).cells ({ frames := 0, cells := 0, slots := 0, locals := 0 } : Room).slots) := by
  refine MetFree.of_bodySF (plainFor_of_name pn_2) hisR ?_
  intro p e s m args below meth c s₁ Bd hml0 hP hK
  obtain ⟨rfl, hZ, hh⟩ := hP
  have hx := Bd.exec
  have hby := Bd.bytes
  have hml : c.maxLocals = 1 := hml0
  have hown : s.vm.findClass zs1 = some m.cls := findClass_of_methodNamed Bd.named
  have hnm := (name_of_methodNamed Bd.named Bd.method).1
  have X0 : Stand p l e ({ frames := 0, cells := 0, slots := 0, locals := 0 } : Room) s m #[(.ref w57)] below meth c s₁ [] 0 0 := Stand.of_body Bd
  have e0 : s₁.heap = h0 := by rw [← hh, Bd.state]; rfl
  have N0 := Fr.nil n0
  refine own_out ?_
  refine own_via (fun t k => castTop (ef_2 m w57) (XS.aloadN X0.here hx rfl (hb hby d2_0) rfl rfl k)) ?_
  obtain ⟨T118, X118, e118, st118⟩ := getF X0 hx hZ hown (host := "") (Or.inl (wd hw 16 rfl)) Via.refl e0 (SF_w57_colour.ext O0.2) (g := (mkF m 1 #[rv w57] [(.ref w57)])) rfl rfl (hb hby d2_1)
  refine own_via (fun t k => st118 t k) ?_
  obtain ⟨fs, hr, hrun, hended, hW, hsame⟩ := X118.leave (v := some (.ref w59)) (fun h => by rw [Bd.returns] at h; cases h)
  refine own_end (t := T118.setFrames fs) ?_ ⟨_, hrun, hended, _, _, rfl, ?_, ⟨_, rfl⟩, hW, hsame.mono (by decide) (by decide)⟩
  · jvm_step X118.here [X118.here.top, hx, (hb hby d2_4), X118.method', Bd.returns, Value.isRef, FieldType.isReference]
    first | (intro acts; rw [hr _ acts rfl rfl rfl]) | rw [hr _ _ rfl rfl rfl]
    exact Steps.refl _
  · show Q2 Z w57 w59 h0 n0 _ T118.heap _
    rw [e118]
    exact ⟨rfl, N0, rfl⟩
theorem pd_2 : parseMethodDescriptor "()Ljava/util/Optional;" = some ⟨[], some (.object "java/util/Optional")⟩ := by decide +kernel
theorem d3_0 : decode prog_45_method_1_code 0 = .ok (.aload_n 0, 1) := by decide +kernel
theorem d3_1 : decode prog_45_method_1_code 1 = .ok (.invokespecial 1, 3) := by decide +kernel
theorem d4_0 : decode jdk_30_method_1_code 0 = .ok (.aload_n 0, 1) := by decide +kernel
theorem d4_1 : decode jdk_30_method_1_code 1 = .ok (.invokespecial 1, 3) := by decide +kernel
theorem d4_4 : decode jdk_30_method_1_code 4 = .ok (.return_, 1) := by decide +kernel
theorem ef_3 (m : MethodId) (x0 : Addr) : entryFrame m #[(.ref x0)] 1 = mkF m 0 #[rv x0] [] := by first | (simp [entryFrame, mkF, argsToLocals, Value.category]; done) | rfl
theorem pn_3 : plainName "java/lang/Record" = true := by first | (simp [plainName, overriddenIn]; done) | decide +kernel
def Q3 (Z : State) (a138 : Addr) (h0 : Heap) (n0 : Nat) (v : Option Value) (h : Heap) (L : List Loc) : Prop := v = none ∧ Fr n0 L ∧ h = h0
set_option maxRecDepth 65536 in
set_option maxHeartbeats 40000000 in
theorem rm3 (l : Launch) (Z : State) (a0 : Array Value) (hw : ∀ d ∈ tables_1, d.before a0 Z = true) (ws : List Jvm.Cond) (a138 : Addr) (h0 : Heap) (n0 : Nat) (O0 : Old Z n0 h0) :
    MetFree l (⟨zs14, "<init>", "()V"⟩ : MethodName) (head1 (Jvm.Cond.code (⟨zs14, "<init>", "()V"⟩ : MethodName) jdk_30_method_1_code 1 none :: ws) ({ frames := 1, cells := 0, slots := 0, locals := 12 } : Room)) (fun a U => a = #[(.ref a138)] ∧ Z.Warmed39 U.vm ∧ U.heap = h0) (fun _ _ _ _ _ => True) (fun _ U o U' => ∃ v L, o = .returned v ∧ Q3 Z a138 h0 n0 v U'.heap L ∧ FrameEnd U o U' L ({ frames := 1, cells := 0, slots := 0, locals := 12 } : Room).cells ({ frames := 1, cells := 0, slots := 0, locals := 12 } : Room).slots) := by
  refine MetFree.of_bodySF (plainFor_of_name pn_3) hisR ?_
  intro p e s m args below meth c s₁ Bd hml0 hP hK
  obtain ⟨rfl, hZ, hh⟩ := hP
  have hx := Bd.exec
  have hby := Bd.bytes
  have hml : c.maxLocals = 1 := hml0
  have hown : s.vm.findClass zs14 = some m.cls := findClass_of_methodNamed Bd.named
  have hnm := (name_of_methodNamed Bd.named Bd.method).1
  have X0 : Stand p l e ({ frames := 1, cells := 0, slots := 0, locals := 12 } : Room) s m #[(.ref a138)] below meth c s₁ [] 0 0 := Stand.of_body Bd
  have e0 : s₁.heap = h0 := by rw [← hh, Bd.state]; rfl
  have N0 := Fr.nil n0
  refine own_out ?_
  refine own_via (fun t k => castTop (ef_3 m a138) (XS.aloadN X0.here hx rfl (hb hby d4_0) rfl rfl k)) ?_
  obtain ⟨T147, X147, e147, st147⟩ := initO X0 hx hZ hown (wd hw 28 rfl) (wd hw 29 rfl) (wd hw 30 rfl) e0 (g := (mkF m 1 #[rv a138] [(.ref a138)])) rfl (by rw [hml]; rfl) rfl (hb hby d4_1) (by decide) (W := 0) (by show 2 * 0 + _ ≤ _; exact Nat.le_of_eq rfl) (by decide)
  refine own_via (fun t k => st147 t k) ?_
  obtain ⟨fs, hr, hrun, hended, hW, hsame⟩ := X147.leave (v := none) (fun _ => rfl)
  refine own_end (t := T147.setFrames fs) ?_ ⟨_, hrun, hended, _, _, rfl, ?_, ⟨_, rfl⟩, hW, hsame.mono (by decide) (by decide)⟩
  · exact X147.returnOut hx Bd.returns (hb hby d4_4) hr
  · show Q3 Z a138 h0 n0 _ T147.heap _
    rw [e147]
    exact ⟨rfl, N0, rfl⟩
theorem pd_3 : parseMethodDescriptor "()V" = some ⟨[], none⟩ := by decide +kernel
theorem d3_4 : decode prog_45_method_1_code 4 = .ok (.aload_n 2, 1) := by decide +kernel
theorem d3_5 : decode prog_45_method_1_code 5 = .ok (.invokestatic 7, 3) := by decide +kernel
theorem d6_0 : decode jdk_31_method_10_code 0 = .ok (.aload_n 0, 1) := by decide +kernel
theorem d6_1 : decode jdk_31_method_10_code 1 = .ok (.ifnonnull 11, 3) := by decide +kernel
theorem d6_12 : decode jdk_31_method_10_code 12 = .ok (.aload_n 0, 1) := by decide +kernel
theorem d6_13 : decode jdk_31_method_10_code 13 = .ok (.areturn, 1) := by decide +kernel
theorem ef_4 (m : MethodId) (x0 : Addr) : entryFrame m #[(.ref x0)] 1 = mkF m 0 #[rv x0] [] := by first | (simp [entryFrame, mkF, argsToLocals, Value.category]; done) | rfl
theorem pn_4 : plainName "java/util/Objects" = true := by first | (simp [plainName, overriddenIn]; done) | decide +kernel
def Q4 (Z : State) (w59 : Addr) (h0 : Heap) (n0 : Nat) (v : Option Value) (h : Heap) (L : List Loc) : Prop := v = some (.ref w59) ∧ Fr n0 L ∧ h = h0
set_option maxRecDepth 65536 in
set_option maxHeartbeats 40000000 in
theorem rm4 (l : Launch) (Z : State) (a0 : Array Value) (hw : ∀ d ∈ tables_1, d.before a0 Z = true) (ws : List Jvm.Cond) (w59 : Addr) (h0 : Heap) (n0 : Nat) (O0 : Old Z n0 h0) :
    MetFree l (⟨zs10, zs11, zs9⟩ : MethodName) (head1 (Jvm.Cond.code (⟨zs10, zs11, zs9⟩ : MethodName) jdk_31_method_10_code 1 (some (.object zs13)) :: ws) ({ frames := 0, cells := 0, slots := 0, locals := 0 } : Room)) (fun a U => a = #[(.ref w59)] ∧ Z.Warmed39 U.vm ∧ U.heap = h0) (fun _ _ _ _ _ => True) (fun _ U o U' => ∃ v L, o = .returned v ∧ Q4 Z w59 h0 n0 v U'.heap L ∧ FrameEnd U o U' L ({ frames := 0, cells := 0, slots := 0, locals := 0 } : Room).cells ({ frames := 0, cells := 0, slots := 0, locals := 0 } : Room).slots) := by
  refine MetFree.of_bodySF (plainFor_of_name pn_4) hisR ?_
  intro p e s m args below meth c s₁ Bd hml0 hP hK
  obtain ⟨rfl, hZ, hh⟩ := hP
  have hx := Bd.exec
  have hby := Bd.bytes
  have hml : c.maxLocals = 1 := hml0
  have hown : s.vm.findClass zs10 = some m.cls := findClass_of_methodNamed Bd.named
  have hnm := (name_of_methodNamed Bd.named Bd.method).1
  have X0 : Stand p l e ({ frames := 0, cells := 0, slots := 0, locals := 0 } : Room) s m #[(.ref w59)] below meth c s₁ [] 0 0 := Stand.of_body Bd
  have e0 : s₁.heap = h0 := by rw [← hh, Bd.state]; rfl
  have N0 := Fr.nil n0
  refine own_out ?_
  refine own_via (fun t k => castTop (ef_4 m w59) (XS.aloadN X0.here hx rfl (hb hby d6_0) rfl rfl (XS.ifnonnullYes X0.here hx rfl (pc0 := 1) (pc' := 12) rfl (hb hby d6_1) rfl (by decide) (by decide) (XS.aloadN X0.here hx rfl (hb hby d6_12) rfl rfl k)))) ?_
  show own_Goes p e below (s₁.setTop (mkF m 13 #[rv w59] [(.ref w59)])) _
  obtain ⟨fs, hr, hrun, hended, hW, hsame⟩ := X0.leave (v := some (.ref w59)) (fun h => by rw [Bd.returns] at h; cases h)
  refine own_end (t := s₁.setFrames fs) ?_ ⟨_, hrun, hended, _, _, rfl, ?_, ⟨_, rfl⟩, hW, hsame.mono (by decide) (by decide)⟩
  · jvm_step X0.here [X0.here.top, hx, (hb hby d6_13), X0.method', Bd.returns, Value.isRef, FieldType.isReference]
    first | (intro acts; rw [hr _ acts rfl rfl rfl]) | rw [hr _ _ rfl rfl rfl]
    exact Steps.refl _
  · show Q4 Z w59 h0 n0 _ s₁.heap _
    rw [e0]
    exact ⟨rfl, N0, rfl⟩
theorem pd_4 : parseMethodDescriptor "(Ljava/lang/Object;)Ljava/lang/Object;" = some ⟨[(.object "java/lang/Object")], some (.object "java/lang/Object")⟩ := by decide +kernel
theorem d3_8 : decode prog_45_method_1_code 8 = .ok (.pop, 1) := by decide +kernel
theorem d3_9 : decode prog_45_method_1_code 9 = .ok (.aload_n 3, 1) := by decide +kernel
theorem d3_10 : decode prog_45_method_1_code 10 = .ok (.invokestatic 7, 3) := by decide +kernel
def Q5 (Z : State) (w67 : Addr) (h0 : Heap) (n0 : Nat) (v : Option Value) (h : Heap) (L : List Loc) : Prop := v = some (.ref w67) ∧ Fr n0 L ∧ h = h0
set_option maxRecDepth 65536 in
set_option maxHeartbeats 40000000 in
theorem rm5 (l : Launch) (Z : State) (a0 : Array Value) (hw : ∀ d ∈ tables_1, d.before a0 Z = true) (ws : List Jvm.Cond) (w67 : Addr) (h0 : Heap) (n0 : Nat) (O0 : Old Z n0 h0) :
    MetFree l (⟨zs10, zs11, zs9⟩ : MethodName) (head1 (Jvm.Cond.code (⟨zs10, zs11, zs9⟩ : MethodName) jdk_31_method_10_code 1 (some (.object zs13)) :: ws) ({ frames := 0, cells := 0, slots := 0, locals := 0 } : Room)) (fun a U => a = #[(.ref w67)] ∧ Z.Warmed39 U.vm ∧ U.heap = h0) (fun _ _ _ _ _ => True) (fun _ U o U' => ∃ v L, o = .returned v ∧ Q5 Z w67 h0 n0 v U'.heap L ∧ FrameEnd U o U' L ({ frames := 0, cells := 0, slots := 0, locals := 0 } : Room).cells ({ frames := 0, cells := 0, slots := 0, locals := 0 } : Room).slots) := by
  refine MetFree.of_bodySF (plainFor_of_name pn_4) hisR ?_
  intro p e s m args below meth c s₁ Bd hml0 hP hK
  obtain ⟨rfl, hZ, hh⟩ := hP
  have hx := Bd.exec
  have hby := Bd.bytes
  have hml : c.maxLocals = 1 := hml0
  have hown : s.vm.findClass zs10 = some m.cls := findClass_of_methodNamed Bd.named
  have hnm := (name_of_methodNamed Bd.named Bd.method).1
  have X0 : Stand p l e ({ frames := 0, cells := 0, slots := 0, locals := 0 } : Room) s m #[(.ref w67)] below meth c s₁ [] 0 0 := Stand.of_body Bd
  have e0 : s₁.heap = h0 := by rw [← hh, Bd.state]; rfl
  have N0 := Fr.nil n0
  refine own_out ?_
  refine own_via (fun t k => castTop (ef_4 m w67) (XS.aloadN X0.here hx rfl (hb hby d6_0) rfl rfl (XS.ifnonnullYes X0.here hx rfl (pc0 := 1) (pc' := 12) rfl (hb hby d6_1) rfl (by decide) (by decide) (XS.aloadN X0.here hx rfl (hb hby d6_12) rfl rfl k)))) ?_
  show own_Goes p e below (s₁.setTop (mkF m 13 #[rv w67] [(.ref w67)])) _
  obtain ⟨fs, hr, hrun, hended, hW, hsame⟩ := X0.leave (v := some (.ref w67)) (fun h => by rw [Bd.returns] at h; cases h)
  refine own_end (t := s₁.setFrames fs) ?_ ⟨_, hrun, hended, _, _, rfl, ?_, ⟨_, rfl⟩, hW, hsame.mono (by decide) (by decide)⟩
  · jvm_step X0.here [X0.here.top, hx, (hb hby d6_13), X0.method', Bd.returns, Value.isRef, FieldType.isReference]
    first | (intro acts; rw [hr _ acts rfl rfl rfl]) | rw [hr _ _ rfl rfl rfl]
    exact Steps.refl _
  · show Q5 Z w67 h0 n0 _ s₁.heap _
    rw [e0]
    exact ⟨rfl, N0, rfl⟩
theorem d3_13 : decode prog_45_method_1_code 13 = .ok (.pop, 1) := by decide +kernel
theorem d3_14 : decode prog_45_method_1_code 14 = .ok (.iload_n 1, 1) := by decide +kernel
theorem d3_15 : decode prog_45_method_1_code 15 = .ok (.ifCond .ge 17, 3) := by decide +kernel
theorem d3_32 : decode prog_45_method_1_code 32 = .ok (.aload_n 0, 1) := by decide +kernel
theorem d3_33 : decode prog_45_method_1_code 33 = .ok (.iload_n 1, 1) := by decide +kernel
theorem d3_34 : decode prog_45_method_1_code 34 = .ok (.putfield 22, 3) := by decide +kernel
theorem d3_37 : decode prog_45_method_1_code 37 = .ok (.aload_n 0, 1) := by decide +kernel
theorem d3_38 : decode prog_45_method_1_code 38 = .ok (.aload_n 2, 1) := by decide +kernel
theorem d3_39 : decode prog_45_method_1_code 39 = .ok (.putfield 28, 3) := by decide +kernel
theorem d3_42 : decode prog_45_method_1_code 42 = .ok (.aload_n 0, 1) := by decide +kernel
theorem d3_43 : decode prog_45_method_1_code 43 = .ok (.aload_n 3, 1) := by decide +kernel
theorem d3_44 : decode prog_45_method_1_code 44 = .ok (.putfield 32, 3) := by decide +kernel
theorem d3_47 : decode prog_45_method_1_code 47 = .ok (.return_, 1) := by decide +kernel
theorem ef_5 (m : MethodId) (x0 : Addr) (x1 : Int32) (x2 : Addr) (x3 : Addr) : entryFrame m #[(.ref x0), (.int x1), (.ref x2), (.ref x3)] 4 = mkF m 0 #[rv x0, iv x1, rv x2, rv x3] [] := by first | (simp [entryFrame, mkF, argsToLocals, Value.category]; done) | rfl
def Q6 (Z : State) (a128 : Addr) (p129 : Int32) (w59 : Addr) (w67 : Addr) (p130 : Int32) (h0 : Heap) (n0 : Nat) (v : Option Value) (h : Heap) (L : List Loc) : Prop := v = none ∧ Fr n0 L ∧ Keep h0 h [a128] ∧ Exa Z h a128 zs1 ∧ Fld Z h a128 zs1 "colour" zs6 (.ref w59) ∧ Fld Z h a128 zs1 "opponent" "I" (.int p129) ∧ Fld Z h a128 zs1 "result" zs3 (.ref w67)
set_option maxRecDepth 65536 in
set_option maxHeartbeats 40000000 in
theorem rm6 (l : Launch) (Z : State) (a0 : Array Value) (hw : ∀ d ∈ tables_1, d.before a0 Z = true) (ws : List Jvm.Cond) (a128 : Addr) (p129 : Int32) (w59 : Addr) (w67 : Addr) (p130 : Int32) (h0 : Heap) (n0 : Nat) (O0 : Old Z n0 h0) (pC131 : ¬ (p129 < (0 : Int32))) (pF_a128_opponent : Fld Z h0 a128 zs1 "opponent" "I" (.int p130)) (pE_a128 : Exa Z h0 a128 zs1) (pG_a128 : n0 ≤ a128) (pF_a128_colour : Fld Z h0 a128 zs1 "colour" zs6 .null) (pF_a128_result : Fld Z h0 a128 zs1 "result" zs3 .null) :
    MetFree l (⟨zs1, "<init>", zs5⟩ : MethodName) (head1 (Jvm.Cond.code (⟨zs1, "<init>", zs5⟩ : MethodName) prog_45_method_1_code 4 none :: ws) ({ frames := 2, cells := 0, slots := 0, locals := 24 } : Room)) (fun a U => a = #[(.ref a128), (.int p129), (.ref w59), (.ref w67)] ∧ Z.Warmed39 U.vm ∧ U.heap = h0) (fun _ _ _ _ _ => True) (fun _ U o U' => ∃ v L, o = .returned v ∧ Q6 Z a128 p129 w59 w67 p130 h0 n0 v U'.heap L ∧ FrameEnd U o U' L ({ frames := 2, cells := 0, slots := 0, locals := 24 } : Room).cells ({ frames := 2, cells := 0, slots := 0, locals := 24 } : Room).slots) := by
  refine MetFree.of_bodySF (plainFor_of_name pn_2) hisR ?_
  intro p e s m args below meth c s₁ Bd hml0 hP hK
  obtain ⟨rfl, hZ, hh⟩ := hP
  have hx := Bd.exec
  have hby := Bd.bytes
  have hml : c.maxLocals = 4 := hml0
  have hown : s.vm.findClass zs1 = some m.cls := findClass_of_methodNamed Bd.named
  have hnm := (name_of_methodNamed Bd.named Bd.method).1
  have X0 : Stand p l e ({ frames := 2, cells := 0, slots := 0, locals := 24 } : Room) s m #[(.ref a128), (.int p129), (.ref w59), (.ref w67)] below meth c s₁ [] 0 0 := Stand.of_body Bd
  have e0 : s₁.heap = h0 := by rw [← hh, Bd.state]; rfl
  have N0 := Fr.nil n0
  refine own_out ?_
  refine own_via (fun t k => castTop (ef_5 m a128 p129 w59 w67) (XS.aloadN X0.here hx rfl (hb hby d3_0) rfl rfl k)) ?_
  obtain ⟨_, T137, _, X137, hQ137, st137⟩ := own_ci X0 hx hZ hown (wd hw 23 rfl) (wd hw 24 rfl) (wd hw 27 rfl) (wd hw 26 rfl) rfl (by decide) (rm3 l Z a0 hw [] a128 h0 n0 O0 ) e0 (g := (mkF m 1 #[rv a128, iv p129, rv w59, rv w67] [(.ref a128)])) rfl (by rw [hml]; rfl) (rest := []) (W := 0) (lenOf pd_3 rfl) rfl (by show 2 * 0 + _ ≤ _; exact Nat.le_of_eq rfl) (hb hby d3_1) (by decide) (by decide) (by decide) (by decide)
  obtain ⟨rfl, Nq137, hh148⟩ := hQ137
  have N137 := Fr.app N0 Nq137
  refine own_via (fun t k => st137 t (XS.aloadN X137.here hx rfl (hb hby d3_4) rfl rfl k)) ?_
  obtain ⟨_, T149, _, X149, hQ149, st149⟩ := own_cs X137 hx hZ hown (wd hw 31 rfl) (wd hw 32 rfl) (wd hw 34 rfl) (wd hw 33 rfl) (by decide) (rm4 l Z a0 hw [] w59 h0 n0 O0 ) hh148 (g := (mkF m 5 #[rv a128, iv p129, rv w59, rv w67] [(.ref w59)])) rfl (by rw [hml]; rfl) (rest := []) (W := 0) (lenOf pd_4 rfl) rfl (by show 2 * 0 + _ ≤ _; exact Nat.le_of_eq rfl) (hb hby d3_5) (by decide) (by decide) (by decide) (by decide)
  obtain ⟨rfl, Nq149, hh159⟩ := hQ149
  have N149 := Fr.app N137 Nq149
  refine own_via (fun t k => st149 t (XS.pop X149.here hx rfl (hb hby d3_8) rfl rfl (XS.aloadN X149.here hx rfl (hb hby d3_9) rfl rfl k))) ?_
  show own_Goes p e below (T149.setTop (mkF m 10 #[rv a128, iv p129, rv w59, rv w67] [(.ref w67)])) _
  obtain ⟨_, T160, _, X160, hQ160, st160⟩ := own_cs X149 hx hZ hown (wd hw 31 rfl) (wd hw 32 rfl) (wd hw 34 rfl) (wd hw 33 rfl) (by decide) (rm5 l Z a0 hw [] w67 h0 n0 O0 ) hh159 (g := (mkF m 10 #[rv a128, iv p129, rv w59, rv w67] [(.ref w67)])) rfl (by rw [hml]; rfl) (rest := []) (W := 0) (lenOf pd_4 rfl) rfl (by show 2 * 0 + _ ≤ _; exact Nat.le_of_eq rfl) (hb hby d3_10) (by decide) (by decide) (by decide) (by decide)
  obtain ⟨rfl, Nq160, hh170⟩ := hQ160
  have N160 := Fr.app N149 Nq160
  refine own_via (fun t k => st160 t (XS.pop X160.here hx rfl (hb hby d3_13) rfl rfl (XS.iloadN X160.here hx rfl (hb hby d3_14) rfl (XS.ifYes X160.here hx rfl (pc0 := 15) (pc' := 32) rfl (hb hby d3_15) rfl ((if0 _ _).trans (flt pC131).2.1) (by decide) (by decide) (XS.aloadN X160.here hx rfl (hb hby d3_32) rfl rfl (XS.iloadN X160.here hx rfl (hb hby d3_33) rfl k)))))) ?_
  show own_Goes p e below (T160.setTop (mkF m 34 #[rv a128, iv p129, rv w59, rv w67] [(.int p129), (.ref a128)])) _
  obtain ⟨T171, h171, X171, e171, W171, st171⟩ := putF X160 hx hZ hown (host := "") (Or.inl (wd hw 35 rfl)) Via.refl hh170 pF_a128_opponent pE_a128 (Or.inr ⟨(wd hw 36 rfl), rfl, hnm⟩) (wd hw 19 rfl) (ty := .int) (by decide) rfl rfl (g := (mkF m 34 #[rv a128, iv p129, rv w59, rv w67] [(.int p129), (.ref a128)])) rfl rfl (hb hby d3_34)
  refine own_via (fun t k => st171 t k) ?_
  have Fw171 : Fld Z h171 a128 zs1 "opponent" "I" (.int p129) := pF_a128_opponent.same W171
  have N171 := Fr.snoc X171 N160 pG_a128
  show own_Goes p e below (T171.setTop (mkF m 37 #[rv a128, iv p129, rv w59, rv w67] [])) _
  refine own_via (fun t k => XS.aloadN X171.here hx rfl (hb hby d3_37) rfl rfl (XS.aloadN X171.here hx rfl (hb hby d3_38) rfl rfl k)) ?_
  have F172 : Fld Z h171 a128 zs1 "colour" zs6 .null := (pF_a128_colour.other W171 (Or.inr (slot_ne (Or.inr (wd hw 17 rfl)) (Or.inr (wd hw 36 rfl)) (by decide) (t := (.object zs7)) (t' := .int) (by decide) (by decide))))
  have E173 : Exa Z h171 a128 zs1 := (pE_a128.wr W171)
  obtain ⟨T174, h174, X174, e174, W174, st174⟩ := putF X171 hx hZ hown (host := "") (Or.inl (wd hw 16 rfl)) Via.refl e171 F172 E173 (Or.inr ⟨(wd hw 17 rfl), rfl, hnm⟩) (wd hw 19 rfl) (ty := (.object zs7)) (by decide) rfl rfl (g := (mkF m 39 #[rv a128, iv p129, rv w59, rv w67] [(.ref w59), (.ref a128)])) rfl rfl (hb hby d3_39)
  refine own_via (fun t k => st174 t k) ?_
  have Fw174 : Fld Z h174 a128 zs1 "colour" zs6 (.ref w59) := F172.same W174
  have N174 := Fr.snoc X174 N171 pG_a128
  show own_Goes p e below (T174.setTop (mkF m 42 #[rv a128, iv p129, rv w59, rv w67] [])) _
  refine own_via (fun t k => XS.aloadN X174.here hx rfl (hb hby d3_42) rfl rfl (XS.aloadN X174.here hx rfl (hb hby d3_43) rfl rfl k)) ?_
  have F175 : Fld Z h174 a128 zs1 "result" zs3 .null := ((pF_a128_result.other W171 (Or.inr (slot_ne (Or.inr (wd hw 38 rfl)) (Or.inr (wd hw 36 rfl)) (by decide) (t := (.object zs2)) (t' := .int) (by decide) (by decide)))).other W174 (Or.inr (slot_ne (Or.inr (wd hw 38 rfl)) (Or.inr (wd hw 17 rfl)) (by decide) (t := (.object zs2)) (t' := (.object zs7)) (by decide) (by decide))))
  have E176 : Exa Z h174 a128 zs1 := (E173.wr W174)
  obtain ⟨T177, h177, X177, e177, W177, st177⟩ := putF X174 hx hZ hown (host := "") (Or.inl (wd hw 37 rfl)) Via.refl e174 F175 E176 (Or.inr ⟨(wd hw 38 rfl), rfl, hnm⟩) (wd hw 19 rfl) (ty := (.object zs2)) (by decide) rfl rfl (g := (mkF m 44 #[rv a128, iv p129, rv w59, rv w67] [(.ref w67), (.ref a128)])) rfl rfl (hb hby d3_44)
  refine own_via (fun t k => st177 t k) ?_
  have Fw177 : Fld Z h177 a128 zs1 "result" zs3 (.ref w67) := F175.same W177
  have N177 := Fr.snoc X177 N174 pG_a128
  show own_Goes p e below (T177.setTop (mkF m 47 #[rv a128, iv p129, rv w59, rv w67] [])) _
  obtain ⟨fs, hr, hrun, hended, hW, hsame⟩ := X177.leave (v := none) (fun _ => rfl)
  refine own_end (t := T177.setFrames fs) ?_ ⟨_, hrun, hended, _, _, rfl, ?_, ⟨_, rfl⟩, hW, hsame.mono (by decide) (by decide)⟩
  · exact X177.returnOut hx Bd.returns (hb hby d3_47) hr
  have E178 : Exa Z h177 a128 zs1 := (E176.wr W177)
  have F179 : Fld Z h177 a128 zs1 "colour" zs6 (.ref w59) := (Fw174.other W177 (Or.inr (slot_ne (Or.inr (wd hw 17 rfl)) (Or.inr (wd hw 38 rfl)) (by decide) (t := (.object zs7)) (t' := (.object zs2)) (by decide) (by decide))))
  have F180 : Fld Z h177 a128 zs1 "opponent" "I" (.int p129) := ((Fw171.other W174 (Or.inr (slot_ne (Or.inr (wd hw 36 rfl)) (Or.inr (wd hw 17 rfl)) (by decide) (t := .int) (t' := (.object zs7)) (by decide) (by decide)))).other W177 (Or.inr (slot_ne (Or.inr (wd hw 36 rfl)) (Or.inr (wd hw 38 rfl)) (by decide) (t := .int) (t' := (.object zs2)) (by decide) (by decide))))
  · show Q6 Z a128 p129 w59 w67 p130 h0 n0 _ T177.heap _
    rw [e177]
    exact ⟨rfl, N177, ((((Keep.refl h0 [a128]).wr W171 (Or.inl (List.mem_of_getElem? (i := 0) rfl))).wr W174 (Or.inl (List.mem_of_getElem? (i := 0) rfl))).wr W177 (Or.inl (List.mem_of_getElem? (i := 0) rfl))), E178, F179, F180, Fw177⟩
theorem pd_5 : parseMethodDescriptor "(ILjava/util/Optional;Lcom/example/rondier/rondier/model/Result;)V" = some ⟨[.int, (.object "java/util/Optional"), (.object "com/example/rondier/rondier/model/Result")], none⟩ := by decide +kernel
theorem d7_0 : decode prog_45_method_4_code 0 = .ok (.aload_n 0, 1) := by decide +kernel
theorem d7_1 : decode prog_45_method_4_code 1 = .ok (.getfield 22, 3) := by decide +kernel
theorem d7_4 : decode prog_45_method_4_code 4 = .ok (.ifCond .eq 17, 3) := by decide +kernel
theorem d7_21 : decode prog_45_method_4_code 21 = .ok (.iconst 0, 1) := by decide +kernel
theorem d7_22 : decode prog_45_method_4_code 22 = .ok (.ireturn, 1) := by decide +kernel
theorem ef_6 (m : MethodId) (x0 : Addr) : entryFrame m #[(.ref x0)] 1 = mkF m 0 #[rv x0] [] := by first | (simp [entryFrame, mkF, argsToLocals, Value.category]; done) | rfl
def Q7 (Z : State) (a188 : Addr) (p189 : Int32) (h0 : Heap) (n0 : Nat) (v : Option Value) (h : Heap) (L : List Loc) : Prop := v = some (.int (0 : Int32)) ∧ Fr n0 L ∧ h = h0
set_option maxRecDepth 65536 in
set_option maxHeartbeats 40000000 in
theorem rm7 (l : Launch) (Z : State) (a0 : Array Value) (hw : ∀ d ∈ tables_1, d.before a0 Z = true) (ws : List Jvm.Cond) (a188 : Addr) (p189 : Int32) (h0 : Heap) (n0 : Nat) (O0 : Old Z n0 h0) (pF_a188_opponent : Fld Z h0 a188 zs1 "opponent" "I" (.int p189)) (pC196 : p189 = (0 : Int32)) :
    MetFree l (⟨zs1, zs12, "()Z"⟩ : MethodName) (head1 (Jvm.Cond.code (⟨zs1, zs12, "()Z"⟩ : MethodName) prog_45_method_4_code 1 (some .boolean) :: ws) ({ frames := 0, cells := 0, slots := 0, locals := 0 } : Room)) (fun a U => a = #[(.ref a188)] ∧ Z.Warmed39 U.vm ∧ U.heap = h0) (fun _ _ _ _ _ => True) (fun _ U o U' => ∃ v L, o = .returned v ∧ Q7 Z a188 p189 h0 n0 v U'.heap L ∧ FrameEnd U o U' L ({ frames := 0, cells := 0, slots := 0, locals := 0 } : Room).cells ({ frames := 0, cells := 0, slots := 0, locals := 0 } : Room).slots) := by
  refine MetFree.of_bodySF (plainFor_of_name pn_2) hisR ?_
  intro p e s m args below meth c s₁ Bd hml0 hP hK
  obtain ⟨rfl, hZ, hh⟩ := hP
  have hx := Bd.exec
  have hby := Bd.bytes
  have hml : c.maxLocals = 1 := hml0
  have hown : s.vm.findClass zs1 = some m.cls := findClass_of_methodNamed Bd.named
  have hnm := (name_of_methodNamed Bd.named Bd.method).1
  have X0 : Stand p l e ({ frames := 0, cells := 0, slots := 0, locals := 0 } : Room) s m #[(.ref a188)] below meth c s₁ [] 0 0 := Stand.of_body Bd
  have e0 : s₁.heap = h0 := by rw [← hh, Bd.state]; rfl
  have N0 := Fr.nil n0
  refine own_out ?_
  refine own_via (fun t k => castTop (ef_6 m a188) (XS.aloadN X0.here hx rfl (hb hby d7_0) rfl rfl k)) ?_
  obtain ⟨T197, X197, e197, st197⟩ := getF X0 hx hZ hown (host := "") (Or.inl (wd hw 35 rfl)) Via.refl e0 pF_a188_opponent (g := (mkF m 1 #[rv a188] [(.ref a188)])) rfl rfl (hb hby d7_1)
  refine own_via (fun t k => st197 t (XS.ifYes X197.here hx rfl (pc0 := 4) (pc' := 21) rfl (hb hby d7_4) rfl ((if0 _ _).trans (teq pC196).1) (by decide) (by decide) (XS.iconst X197.here hx rfl (hb hby d7_21) k))) ?_
  show own_Goes p e below (T197.setTop (mkF m 22 #[rv a188] [(.int (0 : Int32))])) _
  obtain ⟨fs, hr, hrun, hended, hW, hsame⟩ := X197.leave (v := some (.int (0 : Int32))) (fun h => by rw [Bd.returns] at h; cases h)
  refine own_end (t := T197.setFrames fs) ?_ ⟨_, hrun, hended, _, _, rfl, ?_, ⟨_, rfl⟩, hW, hsame.mono (by decide) (by decide)⟩
  · exact retN X197 hx (t := .boolean) Bd.returns (by simp) (hb hby d7_22) hr
  · show Q7 Z a188 p189 h0 n0 _ T197.heap _
    rw [e197]
    exact ⟨rfl, N0, rfl⟩
theorem pd_6 : parseMethodDescriptor "()Z" = some ⟨[], some .boolean⟩ := by decide +kernel
theorem d7_7 : decode prog_45_method_4_code 7 = .ok (.aload_n 0, 1) := by decide +kernel
theorem d7_8 : decode prog_45_method_4_code 8 = .ok (.getfield 32, 3) := by decide +kernel
theorem d7_11 : decode prog_45_method_4_code 11 = .ok (.invokevirtual 49, 3) := by decide +kernel
theorem d8_0 : decode prog_43_method_7_code 0 = .ok (.aload_n 0, 1) := by decide +kernel
theorem d8_1 : decode prog_43_method_7_code 1 = .ok (.getfield 70, 3) := by decide +kernel
theorem d8_4 : decode prog_43_method_7_code 4 = .ok (.ireturn, 1) := by decide +kernel
theorem ef_7 (m : MethodId) (x0 : Addr) : entryFrame m #[(.ref x0)] 1 = mkF m 0 #[rv x0] [] := by first | (simp [entryFrame, mkF, argsToLocals, Value.category]; done) | rfl
theorem pn_5 : plainName "com/example/rondier/rondier/model/Result" = true := by first | (simp [plainName, overriddenIn]; done) | decide +kernel
def Q8 (Z : State) (w67 : Addr) (h0 : Heap) (n0 : Nat) (v : Option Value) (h : Heap) (L : List Loc) : Prop := v = some (.int (1 : Int32)) ∧ Fr n0 L ∧ h = h0
set_option maxRecDepth 65536 in
set_option maxHeartbeats 40000000 in
theorem rm8 (l : Launch) (Z : State) (a0 : Array Value) (hw : ∀ d ∈ tables_1, d.before a0 Z = true) (ws : List Jvm.Cond) (w67 : Addr) (h0 : Heap) (n0 : Nat) (O0 : Old Z n0 h0) (SF_w67_game : Fld Z Z.heap w67 zs2 "game" "Z" (.int (1 : Int32))) :
    MetFree l (⟨zs2, "isGame", "()Z"⟩ : MethodName) (head1 (Jvm.Cond.code (⟨zs2, "isGame", "()Z"⟩ : MethodName) prog_43_method_7_code 1 (some .boolean) :: ws) ({ frames := 0, cells := 0, slots := 0, locals := 0 } : Room)) (fun a U => a = #[(.ref w67)] ∧ Z.Warmed39 U.vm ∧ U.heap = h0) (fun _ _ _ _ _ => True) (fun _ U o U' => ∃ v L, o = .returned v ∧ Q8 Z w67 h0 n0 v U'.heap L ∧ FrameEnd U o U' L ({ frames := 0, cells := 0, slots := 0, locals := 0 } : Room).cells ({ frames := 0, cells := 0, slots := 0, locals := 0 } : Room).slots) := by
  refine MetFree.of_bodySF (plainFor_of_name pn_5) hisR ?_
  intro p e s m args below meth c s₁ Bd hml0 hP hK
  obtain ⟨rfl, hZ, hh⟩ := hP
  have hx := Bd.exec
  have hby := Bd.bytes
  have hml : c.maxLocals = 1 := hml0
  have hown : s.vm.findClass zs2 = some m.cls := findClass_of_methodNamed Bd.named
  have hnm := (name_of_methodNamed Bd.named Bd.method).1
  have X0 : Stand p l e ({ frames := 0, cells := 0, slots := 0, locals := 0 } : Room) s m #[(.ref w67)] below meth c s₁ [] 0 0 := Stand.of_body Bd
  have e0 : s₁.heap = h0 := by rw [← hh, Bd.state]; rfl
  have N0 := Fr.nil n0
  refine own_out ?_
  refine own_via (fun t k => castTop (ef_7 m w67) (XS.aloadN X0.here hx rfl (hb hby d8_0) rfl rfl k)) ?_
  obtain ⟨T222, X222, e222, st222⟩ := getF X0 hx hZ hown (host := "") (Or.inl (wd hw 51 rfl)) Via.refl e0 (SF_w67_game.ext O0.2) (g := (mkF m 1 #[rv w67] [(.ref w67)])) rfl rfl (hb hby d8_1)
  refine own_via (fun t k => st222 t k) ?_
  obtain ⟨fs, hr, hrun, hended, hW, hsame⟩ := X222.leave (v := some (.int (1 : Int32))) (fun h => by rw [Bd.returns] at h; cases h)
  refine own_end (t := T222.setFrames fs) ?_ ⟨_, hrun, hended, _, _, rfl, ?_, ⟨_, rfl⟩, hW, hsame.mono (by decide) (by decide)⟩
  · exact retN X222 hx (t := .boolean) Bd.returns (by simp) (hb hby d8_4) hr
  · show Q8 Z w67 h0 n0 _ T222.heap _
    rw [e222]
    exact ⟨rfl, N0, rfl⟩
theorem d7_14 : decode prog_45_method_4_code 14 = .ok (.ifCond .eq 7, 3) := by decide +kernel
theorem d7_17 : decode prog_45_method_4_code 17 = .ok (.iconst 1, 1) := by decide +kernel
theorem d7_18 : decode prog_45_method_4_code 18 = .ok (.goto 4, 3) := by decide +kernel
def Q9 (Z : State) (a201 : Addr) (p202 : Int32) (w67 : Addr) (h0 : Heap) (n0 : Nat) (v : Option Value) (h : Heap) (L : List Loc) : Prop := v = some (.int (1 : Int32)) ∧ Fr n0 L ∧ h = h0
set_option maxRecDepth 65536 in
set_option maxHeartbeats 40000000 in
theorem rm9 (l : Launch) (Z : State) (a0 : Array Value) (hw : ∀ d ∈ tables_1, d.before a0 Z = true) (ws : List Jvm.Cond) (a201 : Addr) (p202 : Int32) (w67 : Addr) (h0 : Heap) (n0 : Nat) (O0 : Old Z n0 h0) (pF_a201_opponent : Fld Z h0 a201 zs1 "opponent" "I" (.int p202)) (pC209 : ¬ (p202 = (0 : Int32))) (pF_a201_result : Fld Z h0 a201 zs1 "result" zs3 (.ref w67)) (SF_w67_game : Fld Z Z.heap w67 zs2 "game" "Z" (.int (1 : Int32))) (SE_w67 : Exa Z Z.heap w67 zs2) :
    MetFree l (⟨zs1, zs12, "()Z"⟩ : MethodName) (head1 (Jvm.Cond.code (⟨zs1, zs12, "()Z"⟩ : MethodName) prog_45_method_4_code 1 (some .boolean) :: ws) ({ frames := 1, cells := 0, slots := 0, locals := 12 } : Room)) (fun a U => a = #[(.ref a201)] ∧ Z.Warmed39 U.vm ∧ U.heap = h0) (fun _ _ _ _ _ => True) (fun _ U o U' => ∃ v L, o = .returned v ∧ Q9 Z a201 p202 w67 h0 n0 v U'.heap L ∧ FrameEnd U o U' L ({ frames := 1, cells := 0, slots := 0, locals := 12 } : Room).cells ({ frames := 1, cells := 0, slots := 0, locals := 12 } : Room).slots) := by
  refine MetFree.of_bodySF (plainFor_of_name pn_2) hisR ?_
  intro p e s m args below meth c s₁ Bd hml0 hP hK
  obtain ⟨rfl, hZ, hh⟩ := hP
  have hx := Bd.exec
  have hby := Bd.bytes
  have hml : c.maxLocals = 1 := hml0
  have hown : s.vm.findClass zs1 = some m.cls := findClass_of_methodNamed Bd.named
  have hnm := (name_of_methodNamed Bd.named Bd.method).1
  have X0 : Stand p l e ({ frames := 1, cells := 0, slots := 0, locals := 12 } : Room) s m #[(.ref a201)] below meth c s₁ [] 0 0 := Stand.of_body Bd
  have e0 : s₁.heap = h0 := by rw [← hh, Bd.state]; rfl
  have N0 := Fr.nil n0
  refine own_out ?_
  refine own_via (fun t k => castTop (ef_6 m a201) (XS.aloadN X0.here hx rfl (hb hby d7_0) rfl rfl k)) ?_
  obtain ⟨T210, X210, e210, st210⟩ := getF X0 hx hZ hown (host := "") (Or.inl (wd hw 35 rfl)) Via.refl e0 pF_a201_opponent (g := (mkF m 1 #[rv a201] [(.ref a201)])) rfl rfl (hb hby d7_1)
  refine own_via (fun t k => st210 t (XS.ifNo X210.here hx rfl (hb hby d7_4) rfl ((if0 _ _).trans (feq pC209).1) (XS.aloadN X210.here hx rfl (hb hby d7_7) rfl rfl k))) ?_
  show own_Goes p e below (T210.setTop (mkF m 8 #[rv a201] [(.ref a201)])) _
  obtain ⟨T211, X211, e211, st211⟩ := getF X210 hx hZ hown (host := "") (Or.inl (wd hw 37 rfl)) Via.refl e210 pF_a201_result (g := (mkF m 8 #[rv a201] [(.ref a201)])) rfl rfl (hb hby d7_8)
  refine own_via (fun t k => st211 t k) ?_
  obtain ⟨_, T212, _, X212, hQ212, st212⟩ := own_cv X211 hx hZ hown (wd hw 46 rfl) (wd hw 47 rfl) (wd hw 49 rfl) (wd hw 48 rfl) (wd hw 50 rfl) (wd hw 6 rfl) (by decide) (rm8 l Z a0 hw [] w67 h0 n0 O0 SF_w67_game) e211 (SE_w67.ext O0.2) (g := (mkF m 11 #[rv a201] [(.ref w67)])) rfl (by rw [hml]; rfl) (rest := []) (W := 0) (lenOf pd_6 rfl) rfl (by show 2 * 0 + _ ≤ _; exact Nat.le_of_eq rfl) (hb hby d7_11) (by decide) (by decide) (by decide) (by decide)
  obtain ⟨rfl, Nq212, hh223⟩ := hQ212
  have N212 := Fr.app N0 Nq212
  refine own_via (fun t k => st212 t (XS.ifNo X212.here hx rfl (hb hby d7_14) rfl ((if0 _ _).trans (feq (by decide : ¬ ((1 : Int32) = (0 : Int32)))).1) (XS.iconst X212.here hx rfl (hb hby d7_17) (XS.goto X212.here hx rfl (pc0 := 18) (pc' := 22) rfl (hb hby d7_18) (by decide) (by decide) k)))) ?_
  show own_Goes p e below (T212.setTop (mkF m 22 #[rv a201] [(.int (1 : Int32))])) _
  obtain ⟨fs, hr, hrun, hended, hW, hsame⟩ := X212.leave (v := some (.int (1 : Int32))) (fun h => by rw [Bd.returns] at h; cases h)
  refine own_end (t := T212.setFrames fs) ?_ ⟨_, hrun, hended, _, _, rfl, ?_, ⟨_, rfl⟩, hW, hsame.mono (by decide) (by decide)⟩
  · exact retN X212 hx (t := .boolean) Bd.returns (by simp) (hb hby d7_22) hr
  · show Q9 Z a201 p202 w67 h0 n0 _ T212.heap _
    rw [hh223]
    exact ⟨rfl, N212, rfl⟩
theorem d1_8 : decode method_2_code 8 = .ok (.iload_n 0, 1) := by decide +kernel
theorem d1_9 : decode method_2_code 9 = .ok (.iconst 1, 1) := by decide +kernel
theorem d1_10 : decode method_2_code 10 = .ok (.if_icmp .ne 7, 3) := by decide +kernel
theorem d1_13 : decode method_2_code 13 = .ok (.getstatic 13, 3) := by decide +kernel
theorem d1_16 : decode method_2_code 16 = .ok (.areturn, 1) := by decide +kernel
def Q10 (Z : State) (w61 : Addr) (h0 : Heap) (n0 : Nat) (v : Option Value) (h : Heap) (L : List Loc) : Prop := v = some (.ref w61) ∧ Fr n0 L ∧ h = h0
set_option maxRecDepth 65536 in
set_option maxHeartbeats 40000000 in
theorem rm10 (l : Launch) (Z : State) (a0 : Array Value) (hw : ∀ d ∈ tables_1, d.before a0 Z = true) (ws : List Jvm.Cond) (w61 : Addr) (h0 : Heap) (n0 : Nat) (O0 : Old Z n0 h0) (S_Result_DRAW : Sta Z Z.heap zs2 "DRAW" zs3 (.ref w61)) :
    MetFree l (⟨zs4, "pick", zs8⟩ : MethodName) (head1 (Jvm.Cond.code (⟨zs4, "pick", zs8⟩ : MethodName) method_2_code 1 (some (.object zs2)) :: ws) ({ frames := 0, cells := 0, slots := 0, locals := 0 } : Room)) (fun a U => a = #[(.int (1 : Int32))] ∧ Z.Warmed39 U.vm ∧ U.heap = h0) (fun _ _ _ _ _ => True) (fun _ U o U' => ∃ v L, o = .returned v ∧ Q10 Z w61 h0 n0 v U'.heap L ∧ FrameEnd U o U' L ({ frames := 0, cells := 0, slots := 0, locals := 0 } : Room).cells ({ frames := 0, cells := 0, slots := 0, locals := 0 } : Room).slots) := by
  refine MetFree.of_bodySF (plainFor_of_name pn_1) hisR ?_
  intro p e s m args below meth c s₁ Bd hml0 hP hK
  obtain ⟨rfl, hZ, hh⟩ := hP
  have hx := Bd.exec
  have hby := Bd.bytes
  have hml : c.maxLocals = 1 := hml0
  have hown : s.vm.findClass zs4 = some m.cls := findClass_of_methodNamed Bd.named
  have hnm := (name_of_methodNamed Bd.named Bd.method).1
  have X0 : Stand p l e ({ frames := 0, cells := 0, slots := 0, locals := 0 } : Room) s m #[(.int (1 : Int32))] below meth c s₁ [] 0 0 := Stand.of_body Bd
  have e0 : s₁.heap = h0 := by rw [← hh, Bd.state]; rfl
  have N0 := Fr.nil n0
  refine own_out ?_
  refine own_via (fun t k => castTop (ef_1 m (1 : Int32)) (XS.iloadN X0.here hx rfl (hb hby d1_0) rfl (XS.ifYes X0.here hx rfl (pc0 := 1) (pc' := 8) rfl (hb hby d1_1) rfl ((if0 _ _).trans (feq (by decide : ¬ ((1 : Int32) = (0 : Int32)))).2) (by decide) (by decide) (XS.iloadN X0.here hx rfl (hb hby d1_8) rfl (XS.iconst X0.here hx rfl (hb hby d1_9) (XS.icmpNo X0.here hx rfl (hb hby d1_10) rfl (teq (by decide : (1 : Int32) = (1 : Int32))).2 k)))))) ?_
  show own_Goes p e below (s₁.setTop (mkF m 13 #[iv (1 : Int32)] [])) _
  obtain ⟨T235, X235, e235, st235⟩ := getS2 X0 hx hZ hown (host := "") (Or.inl (wd hw 44 rfl)) Via.refl e0 (S_Result_DRAW.ext O0.2) (g := (mkF m 13 #[iv (1 : Int32)] [])) rfl (hb hby d1_13)
  refine own_via (fun t k => st235 t k) ?_
  obtain ⟨fs, hr, hrun, hended, hW, hsame⟩ := X235.leave (v := some (.ref w61)) (fun h => by rw [Bd.returns] at h; cases h)
  refine own_end (t := T235.setFrames fs) ?_ ⟨_, hrun, hended, _, _, rfl, ?_, ⟨_, rfl⟩, hW, hsame.mono (by decide) (by decide)⟩
  · jvm_step X235.here [X235.here.top, hx, (hb hby d1_16), X235.method', Bd.returns, Value.isRef, FieldType.isReference]
    first | (intro acts; rw [hr _ acts rfl rfl rfl]) | rw [hr _ _ rfl rfl rfl]
    exact Steps.refl _
  · show Q10 Z w61 h0 n0 _ T235.heap _
    rw [e235]
    exact ⟨rfl, N0, rfl⟩
def Q11 (Z : State) (w61 : Addr) (h0 : Heap) (n0 : Nat) (v : Option Value) (h : Heap) (L : List Loc) : Prop := v = some (.ref w61) ∧ Fr n0 L ∧ h = h0
set_option maxRecDepth 65536 in
set_option maxHeartbeats 40000000 in
theorem rm11 (l : Launch) (Z : State) (a0 : Array Value) (hw : ∀ d ∈ tables_1, d.before a0 Z = true) (ws : List Jvm.Cond) (w61 : Addr) (h0 : Heap) (n0 : Nat) (O0 : Old Z n0 h0) :
    MetFree l (⟨zs10, zs11, zs9⟩ : MethodName) (head1 (Jvm.Cond.code (⟨zs10, zs11, zs9⟩ : MethodName) jdk_31_method_10_code 1 (some (.object zs13)) :: ws) ({ frames := 0, cells := 0, slots := 0, locals := 0 } : Room)) (fun a U => a = #[(.ref w61)] ∧ Z.Warmed39 U.vm ∧ U.heap = h0) (fun _ _ _ _ _ => True) (fun _ U o U' => ∃ v L, o = .returned v ∧ Q11 Z w61 h0 n0 v U'.heap L ∧ FrameEnd U o U' L ({ frames := 0, cells := 0, slots := 0, locals := 0 } : Room).cells ({ frames := 0, cells := 0, slots := 0, locals := 0 } : Room).slots) := by
  refine MetFree.of_bodySF (plainFor_of_name pn_4) hisR ?_
  intro p e s m args below meth c s₁ Bd hml0 hP hK
  obtain ⟨rfl, hZ, hh⟩ := hP
  have hx := Bd.exec
  have hby := Bd.bytes
  have hml : c.maxLocals = 1 := hml0
  have hown : s.vm.findClass zs10 = some m.cls := findClass_of_methodNamed Bd.named
  have hnm := (name_of_methodNamed Bd.named Bd.method).1
  have X0 : Stand p l e ({ frames := 0, cells := 0, slots := 0, locals := 0 } : Room) s m #[(.ref w61)] below meth c s₁ [] 0 0 := Stand.of_body Bd
  have e0 : s₁.heap = h0 := by rw [← hh, Bd.state]; rfl
  have N0 := Fr.nil n0
  refine own_out ?_
  refine own_via (fun t k => castTop (ef_4 m w61) (XS.aloadN X0.here hx rfl (hb hby d6_0) rfl rfl (XS.ifnonnullYes X0.here hx rfl (pc0 := 1) (pc' := 12) rfl (hb hby d6_1) rfl (by decide) (by decide) (XS.aloadN X0.here hx rfl (hb hby d6_12) rfl rfl k)))) ?_
  show own_Goes p e below (s₁.setTop (mkF m 13 #[rv w61] [(.ref w61)])) _
  obtain ⟨fs, hr, hrun, hended, hW, hsame⟩ := X0.leave (v := some (.ref w61)) (fun h => by rw [Bd.returns] at h; cases h)
  refine own_end (t := s₁.setFrames fs) ?_ ⟨_, hrun, hended, _, _, rfl, ?_, ⟨_, rfl⟩, hW, hsame.mono (by decide) (by decide)⟩
  · jvm_step X0.here [X0.here.top, hx, (hb hby d6_13), X0.method', Bd.returns, Value.isRef, FieldType.isReference]
    first | (intro acts; rw [hr _ acts rfl rfl rfl]) | rw [hr _ _ rfl rfl rfl]
    exact Steps.refl _
  · show Q11 Z w61 h0 n0 _ s₁.heap _
    rw [e0]
    exact ⟨rfl, N0, rfl⟩
def Q12 (Z : State) (a248 : Addr) (p249 : Int32) (w59 : Addr) (w61 : Addr) (p250 : Int32) (h0 : Heap) (n0 : Nat) (v : Option Value) (h : Heap) (L : List Loc) : Prop := v = none ∧ Fr n0 L ∧ Keep h0 h [a248] ∧ Exa Z h a248 zs1 ∧ Fld Z h a248 zs1 "colour" zs6 (.ref w59) ∧ Fld Z h a248 zs1 "opponent" "I" (.int p249) ∧ Fld Z h a248 zs1 "result" zs3 (.ref w61)
set_option maxRecDepth 65536 in
set_option maxHeartbeats 40000000 in
theorem rm12 (l : Launch) (Z : State) (a0 : Array Value) (hw : ∀ d ∈ tables_1, d.before a0 Z = true) (ws : List Jvm.Cond) (a248 : Addr) (p249 : Int32) (w59 : Addr) (w61 : Addr) (p250 : Int32) (h0 : Heap) (n0 : Nat) (O0 : Old Z n0 h0) (pC251 : ¬ (p249 < (0 : Int32))) (pF_a248_opponent : Fld Z h0 a248 zs1 "opponent" "I" (.int p250)) (pE_a248 : Exa Z h0 a248 zs1) (pG_a248 : n0 ≤ a248) (pF_a248_colour : Fld Z h0 a248 zs1 "colour" zs6 .null) (pF_a248_result : Fld Z h0 a248 zs1 "result" zs3 .null) :
    MetFree l (⟨zs1, "<init>", zs5⟩ : MethodName) (head1 (Jvm.Cond.code (⟨zs1, "<init>", zs5⟩ : MethodName) prog_45_method_1_code 4 none :: ws) ({ frames := 2, cells := 0, slots := 0, locals := 24 } : Room)) (fun a U => a = #[(.ref a248), (.int p249), (.ref w59), (.ref w61)] ∧ Z.Warmed39 U.vm ∧ U.heap = h0) (fun _ _ _ _ _ => True) (fun _ U o U' => ∃ v L, o = .returned v ∧ Q12 Z a248 p249 w59 w61 p250 h0 n0 v U'.heap L ∧ FrameEnd U o U' L ({ frames := 2, cells := 0, slots := 0, locals := 24 } : Room).cells ({ frames := 2, cells := 0, slots := 0, locals := 24 } : Room).slots) := by
  refine MetFree.of_bodySF (plainFor_of_name pn_2) hisR ?_
  intro p e s m args below meth c s₁ Bd hml0 hP hK
  obtain ⟨rfl, hZ, hh⟩ := hP
  have hx := Bd.exec
  have hby := Bd.bytes
  have hml : c.maxLocals = 4 := hml0
  have hown : s.vm.findClass zs1 = some m.cls := findClass_of_methodNamed Bd.named
  have hnm := (name_of_methodNamed Bd.named Bd.method).1
  have X0 : Stand p l e ({ frames := 2, cells := 0, slots := 0, locals := 24 } : Room) s m #[(.ref a248), (.int p249), (.ref w59), (.ref w61)] below meth c s₁ [] 0 0 := Stand.of_body Bd
  have e0 : s₁.heap = h0 := by rw [← hh, Bd.state]; rfl
  have N0 := Fr.nil n0
  refine own_out ?_
  refine own_via (fun t k => castTop (ef_5 m a248 p249 w59 w61) (XS.aloadN X0.here hx rfl (hb hby d3_0) rfl rfl k)) ?_
  obtain ⟨_, T257, _, X257, hQ257, st257⟩ := own_ci X0 hx hZ hown (wd hw 23 rfl) (wd hw 24 rfl) (wd hw 27 rfl) (wd hw 26 rfl) rfl (by decide) (rm3 l Z a0 hw [] a248 h0 n0 O0 ) e0 (g := (mkF m 1 #[rv a248, iv p249, rv w59, rv w61] [(.ref a248)])) rfl (by rw [hml]; rfl) (rest := []) (W := 0) (lenOf pd_3 rfl) rfl (by show 2 * 0 + _ ≤ _; exact Nat.le_of_eq rfl) (hb hby d3_1) (by decide) (by decide) (by decide) (by decide)
  obtain ⟨rfl, Nq257, hh258⟩ := hQ257
  have N257 := Fr.app N0 Nq257
  refine own_via (fun t k => st257 t (XS.aloadN X257.here hx rfl (hb hby d3_4) rfl rfl k)) ?_
  obtain ⟨_, T259, _, X259, hQ259, st259⟩ := own_cs X257 hx hZ hown (wd hw 31 rfl) (wd hw 32 rfl) (wd hw 34 rfl) (wd hw 33 rfl) (by decide) (rm4 l Z a0 hw [] w59 h0 n0 O0 ) hh258 (g := (mkF m 5 #[rv a248, iv p249, rv w59, rv w61] [(.ref w59)])) rfl (by rw [hml]; rfl) (rest := []) (W := 0) (lenOf pd_4 rfl) rfl (by show 2 * 0 + _ ≤ _; exact Nat.le_of_eq rfl) (hb hby d3_5) (by decide) (by decide) (by decide) (by decide)
  obtain ⟨rfl, Nq259, hh260⟩ := hQ259
  have N259 := Fr.app N257 Nq259
  refine own_via (fun t k => st259 t (XS.pop X259.here hx rfl (hb hby d3_8) rfl rfl (XS.aloadN X259.here hx rfl (hb hby d3_9) rfl rfl k))) ?_
  show own_Goes p e below (T259.setTop (mkF m 10 #[rv a248, iv p249, rv w59, rv w61] [(.ref w61)])) _
  obtain ⟨_, T261, _, X261, hQ261, st261⟩ := own_cs X259 hx hZ hown (wd hw 31 rfl) (wd hw 32 rfl) (wd hw 34 rfl) (wd hw 33 rfl) (by decide) (rm11 l Z a0 hw [] w61 h0 n0 O0 ) hh260 (g := (mkF m 10 #[rv a248, iv p249, rv w59, rv w61] [(.ref w61)])) rfl (by rw [hml]; rfl) (rest := []) (W := 0) (lenOf pd_4 rfl) rfl (by show 2 * 0 + _ ≤ _; exact Nat.le_of_eq rfl) (hb hby d3_10) (by decide) (by decide) (by decide) (by decide)
  obtain ⟨rfl, Nq261, hh271⟩ := hQ261
  have N261 := Fr.app N259 Nq261
  refine own_via (fun t k => st261 t (XS.pop X261.here hx rfl (hb hby d3_13) rfl rfl (XS.iloadN X261.here hx rfl (hb hby d3_14) rfl (XS.ifYes X261.here hx rfl (pc0 := 15) (pc' := 32) rfl (hb hby d3_15) rfl ((if0 _ _).trans (flt pC251).2.1) (by decide) (by decide) (XS.aloadN X261.here hx rfl (hb hby d3_32) rfl rfl (XS.iloadN X261.here hx rfl (hb hby d3_33) rfl k)))))) ?_
  show own_Goes p e below (T261.setTop (mkF m 34 #[rv a248, iv p249, rv w59, rv w61] [(.int p249), (.ref a248)])) _
  obtain ⟨T272, h272, X272, e272, W272, st272⟩ := putF X261 hx hZ hown (host := "") (Or.inl (wd hw 35 rfl)) Via.refl hh271 pF_a248_opponent pE_a248 (Or.inr ⟨(wd hw 36 rfl), rfl, hnm⟩) (wd hw 19 rfl) (ty := .int) (by decide) rfl rfl (g := (mkF m 34 #[rv a248, iv p249, rv w59, rv w61] [(.int p249), (.ref a248)])) rfl rfl (hb hby d3_34)
  refine own_via (fun t k => st272 t k) ?_
  have Fw272 : Fld Z h272 a248 zs1 "opponent" "I" (.int p249) := pF_a248_opponent.same W272
  have N272 := Fr.snoc X272 N261 pG_a248
  show own_Goes p e below (T272.setTop (mkF m 37 #[rv a248, iv p249, rv w59, rv w61] [])) _
  refine own_via (fun t k => XS.aloadN X272.here hx rfl (hb hby d3_37) rfl rfl (XS.aloadN X272.here hx rfl (hb hby d3_38) rfl rfl k)) ?_
  have F273 : Fld Z h272 a248 zs1 "colour" zs6 .null := (pF_a248_colour.other W272 (Or.inr (slot_ne (Or.inr (wd hw 17 rfl)) (Or.inr (wd hw 36 rfl)) (by decide) (t := (.object zs7)) (t' := .int) (by decide) (by decide))))
  have E274 : Exa Z h272 a248 zs1 := (pE_a248.wr W272)
  obtain ⟨T275, h275, X275, e275, W275, st275⟩ := putF X272 hx hZ hown (host := "") (Or.inl (wd hw 16 rfl)) Via.refl e272 F273 E274 (Or.inr ⟨(wd hw 17 rfl), rfl, hnm⟩) (wd hw 19 rfl) (ty := (.object zs7)) (by decide) rfl rfl (g := (mkF m 39 #[rv a248, iv p249, rv w59, rv w61] [(.ref w59), (.ref a248)])) rfl rfl (hb hby d3_39)
  refine own_via (fun t k => st275 t k) ?_
  have Fw275 : Fld Z h275 a248 zs1 "colour" zs6 (.ref w59) := F273.same W275
  have N275 := Fr.snoc X275 N272 pG_a248
  show own_Goes p e below (T275.setTop (mkF m 42 #[rv a248, iv p249, rv w59, rv w61] [])) _
  refine own_via (fun t k => XS.aloadN X275.here hx rfl (hb hby d3_42) rfl rfl (XS.aloadN X275.here hx rfl (hb hby d3_43) rfl rfl k)) ?_
  have F276 : Fld Z h275 a248 zs1 "result" zs3 .null := ((pF_a248_result.other W272 (Or.inr (slot_ne (Or.inr (wd hw 38 rfl)) (Or.inr (wd hw 36 rfl)) (by decide) (t := (.object zs2)) (t' := .int) (by decide) (by decide)))).other W275 (Or.inr (slot_ne (Or.inr (wd hw 38 rfl)) (Or.inr (wd hw 17 rfl)) (by decide) (t := (.object zs2)) (t' := (.object zs7)) (by decide) (by decide))))
  have E277 : Exa Z h275 a248 zs1 := (E274.wr W275)
  obtain ⟨T278, h278, X278, e278, W278, st278⟩ := putF X275 hx hZ hown (host := "") (Or.inl (wd hw 37 rfl)) Via.refl e275 F276 E277 (Or.inr ⟨(wd hw 38 rfl), rfl, hnm⟩) (wd hw 19 rfl) (ty := (.object zs2)) (by decide) rfl rfl (g := (mkF m 44 #[rv a248, iv p249, rv w59, rv w61] [(.ref w61), (.ref a248)])) rfl rfl (hb hby d3_44)
  refine own_via (fun t k => st278 t k) ?_
  have Fw278 : Fld Z h278 a248 zs1 "result" zs3 (.ref w61) := F276.same W278
  have N278 := Fr.snoc X278 N275 pG_a248
  show own_Goes p e below (T278.setTop (mkF m 47 #[rv a248, iv p249, rv w59, rv w61] [])) _
  obtain ⟨fs, hr, hrun, hended, hW, hsame⟩ := X278.leave (v := none) (fun _ => rfl)
  refine own_end (t := T278.setFrames fs) ?_ ⟨_, hrun, hended, _, _, rfl, ?_, ⟨_, rfl⟩, hW, hsame.mono (by decide) (by decide)⟩
  · exact X278.returnOut hx Bd.returns (hb hby d3_47) hr
  have E279 : Exa Z h278 a248 zs1 := (E277.wr W278)
  have F280 : Fld Z h278 a248 zs1 "colour" zs6 (.ref w59) := (Fw275.other W278 (Or.inr (slot_ne (Or.inr (wd hw 17 rfl)) (Or.inr (wd hw 38 rfl)) (by decide) (t := (.object zs7)) (t' := (.object zs2)) (by decide) (by decide))))
  have F281 : Fld Z h278 a248 zs1 "opponent" "I" (.int p249) := ((Fw272.other W275 (Or.inr (slot_ne (Or.inr (wd hw 36 rfl)) (Or.inr (wd hw 17 rfl)) (by decide) (t := .int) (t' := (.object zs7)) (by decide) (by decide)))).other W278 (Or.inr (slot_ne (Or.inr (wd hw 36 rfl)) (Or.inr (wd hw 38 rfl)) (by decide) (t := .int) (t' := (.object zs2)) (by decide) (by decide))))
  · show Q12 Z a248 p249 w59 w61 p250 h0 n0 _ T278.heap _
    rw [e278]
    exact ⟨rfl, N278, ((((Keep.refl h0 [a248]).wr W272 (Or.inl (List.mem_of_getElem? (i := 0) rfl))).wr W275 (Or.inl (List.mem_of_getElem? (i := 0) rfl))).wr W278 (Or.inl (List.mem_of_getElem? (i := 0) rfl))), E279, F280, F281, Fw278⟩
def Q13 (Z : State) (w61 : Addr) (h0 : Heap) (n0 : Nat) (v : Option Value) (h : Heap) (L : List Loc) : Prop := v = some (.int (1 : Int32)) ∧ Fr n0 L ∧ h = h0
set_option maxRecDepth 65536 in
set_option maxHeartbeats 40000000 in
theorem rm13 (l : Launch) (Z : State) (a0 : Array Value) (hw : ∀ d ∈ tables_1, d.before a0 Z = true) (ws : List Jvm.Cond) (w61 : Addr) (h0 : Heap) (n0 : Nat) (O0 : Old Z n0 h0) (SF_w61_game : Fld Z Z.heap w61 zs2 "game" "Z" (.int (1 : Int32))) :
    MetFree l (⟨zs2, "isGame", "()Z"⟩ : MethodName) (head1 (Jvm.Cond.code (⟨zs2, "isGame", "()Z"⟩ : MethodName) prog_43_method_7_code 1 (some .boolean) :: ws) ({ frames := 0, cells := 0, slots := 0, locals := 0 } : Room)) (fun a U => a = #[(.ref w61)] ∧ Z.Warmed39 U.vm ∧ U.heap = h0) (fun _ _ _ _ _ => True) (fun _ U o U' => ∃ v L, o = .returned v ∧ Q13 Z w61 h0 n0 v U'.heap L ∧ FrameEnd U o U' L ({ frames := 0, cells := 0, slots := 0, locals := 0 } : Room).cells ({ frames := 0, cells := 0, slots := 0, locals := 0 } : Room).slots) := by
  refine MetFree.of_bodySF (plainFor_of_name pn_5) hisR ?_
  intro p e s m args below meth c s₁ Bd hml0 hP hK
  obtain ⟨rfl, hZ, hh⟩ := hP
  have hx := Bd.exec
  have hby := Bd.bytes
  have hml : c.maxLocals = 1 := hml0
  have hown : s.vm.findClass zs2 = some m.cls := findClass_of_methodNamed Bd.named
  have hnm := (name_of_methodNamed Bd.named Bd.method).1
  have X0 : Stand p l e ({ frames := 0, cells := 0, slots := 0, locals := 0 } : Room) s m #[(.ref w61)] below meth c s₁ [] 0 0 := Stand.of_body Bd
  have e0 : s₁.heap = h0 := by rw [← hh, Bd.state]; rfl
  have N0 := Fr.nil n0
  refine own_out ?_
  refine own_via (fun t k => castTop (ef_7 m w61) (XS.aloadN X0.here hx rfl (hb hby d8_0) rfl rfl k)) ?_
  obtain ⟨T313, X313, e313, st313⟩ := getF X0 hx hZ hown (host := "") (Or.inl (wd hw 51 rfl)) Via.refl e0 (SF_w61_game.ext O0.2) (g := (mkF m 1 #[rv w61] [(.ref w61)])) rfl rfl (hb hby d8_1)
  refine own_via (fun t k => st313 t k) ?_
  obtain ⟨fs, hr, hrun, hended, hW, hsame⟩ := X313.leave (v := some (.int (1 : Int32))) (fun h => by rw [Bd.returns] at h; cases h)
  refine own_end (t := T313.setFrames fs) ?_ ⟨_, hrun, hended, _, _, rfl, ?_, ⟨_, rfl⟩, hW, hsame.mono (by decide) (by decide)⟩
  · exact retN X313 hx (t := .boolean) Bd.returns (by simp) (hb hby d8_4) hr
  · show Q13 Z w61 h0 n0 _ T313.heap _
    rw [e313]
    exact ⟨rfl, N0, rfl⟩
def Q14 (Z : State) (a292 : Addr) (p293 : Int32) (w61 : Addr) (h0 : Heap) (n0 : Nat) (v : Option Value) (h : Heap) (L : List Loc) : Prop := v = some (.int (1 : Int32)) ∧ Fr n0 L ∧ h = h0
set_option maxRecDepth 65536 in
set_option maxHeartbeats 40000000 in
theorem rm14 (l : Launch) (Z : State) (a0 : Array Value) (hw : ∀ d ∈ tables_1, d.before a0 Z = true) (ws : List Jvm.Cond) (a292 : Addr) (p293 : Int32) (w61 : Addr) (h0 : Heap) (n0 : Nat) (O0 : Old Z n0 h0) (pF_a292_opponent : Fld Z h0 a292 zs1 "opponent" "I" (.int p293)) (pC300 : ¬ (p293 = (0 : Int32))) (pF_a292_result : Fld Z h0 a292 zs1 "result" zs3 (.ref w61)) (SF_w61_game : Fld Z Z.heap w61 zs2 "game" "Z" (.int (1 : Int32))) (SE_w61 : Exa Z Z.heap w61 zs2) :
    MetFree l (⟨zs1, zs12, "()Z"⟩ : MethodName) (head1 (Jvm.Cond.code (⟨zs1, zs12, "()Z"⟩ : MethodName) prog_45_method_4_code 1 (some .boolean) :: ws) ({ frames := 1, cells := 0, slots := 0, locals := 12 } : Room)) (fun a U => a = #[(.ref a292)] ∧ Z.Warmed39 U.vm ∧ U.heap = h0) (fun _ _ _ _ _ => True) (fun _ U o U' => ∃ v L, o = .returned v ∧ Q14 Z a292 p293 w61 h0 n0 v U'.heap L ∧ FrameEnd U o U' L ({ frames := 1, cells := 0, slots := 0, locals := 12 } : Room).cells ({ frames := 1, cells := 0, slots := 0, locals := 12 } : Room).slots) := by
  refine MetFree.of_bodySF (plainFor_of_name pn_2) hisR ?_
  intro p e s m args below meth c s₁ Bd hml0 hP hK
  obtain ⟨rfl, hZ, hh⟩ := hP
  have hx := Bd.exec
  have hby := Bd.bytes
  have hml : c.maxLocals = 1 := hml0
  have hown : s.vm.findClass zs1 = some m.cls := findClass_of_methodNamed Bd.named
  have hnm := (name_of_methodNamed Bd.named Bd.method).1
  have X0 : Stand p l e ({ frames := 1, cells := 0, slots := 0, locals := 12 } : Room) s m #[(.ref a292)] below meth c s₁ [] 0 0 := Stand.of_body Bd
  have e0 : s₁.heap = h0 := by rw [← hh, Bd.state]; rfl
  have N0 := Fr.nil n0
  refine own_out ?_
  refine own_via (fun t k => castTop (ef_6 m a292) (XS.aloadN X0.here hx rfl (hb hby d7_0) rfl rfl k)) ?_
  obtain ⟨T301, X301, e301, st301⟩ := getF X0 hx hZ hown (host := "") (Or.inl (wd hw 35 rfl)) Via.refl e0 pF_a292_opponent (g := (mkF m 1 #[rv a292] [(.ref a292)])) rfl rfl (hb hby d7_1)
  refine own_via (fun t k => st301 t (XS.ifNo X301.here hx rfl (hb hby d7_4) rfl ((if0 _ _).trans (feq pC300).1) (XS.aloadN X301.here hx rfl (hb hby d7_7) rfl rfl k))) ?_
  show own_Goes p e below (T301.setTop (mkF m 8 #[rv a292] [(.ref a292)])) _
  obtain ⟨T302, X302, e302, st302⟩ := getF X301 hx hZ hown (host := "") (Or.inl (wd hw 37 rfl)) Via.refl e301 pF_a292_result (g := (mkF m 8 #[rv a292] [(.ref a292)])) rfl rfl (hb hby d7_8)
  refine own_via (fun t k => st302 t k) ?_
  obtain ⟨_, T303, _, X303, hQ303, st303⟩ := own_cv X302 hx hZ hown (wd hw 46 rfl) (wd hw 47 rfl) (wd hw 49 rfl) (wd hw 48 rfl) (wd hw 50 rfl) (wd hw 6 rfl) (by decide) (rm13 l Z a0 hw [] w61 h0 n0 O0 SF_w61_game) e302 (SE_w61.ext O0.2) (g := (mkF m 11 #[rv a292] [(.ref w61)])) rfl (by rw [hml]; rfl) (rest := []) (W := 0) (lenOf pd_6 rfl) rfl (by show 2 * 0 + _ ≤ _; exact Nat.le_of_eq rfl) (hb hby d7_11) (by decide) (by decide) (by decide) (by decide)
  obtain ⟨rfl, Nq303, hh314⟩ := hQ303
  have N303 := Fr.app N0 Nq303
  refine own_via (fun t k => st303 t (XS.ifNo X303.here hx rfl (hb hby d7_14) rfl ((if0 _ _).trans (feq (by decide : ¬ ((1 : Int32) = (0 : Int32)))).1) (XS.iconst X303.here hx rfl (hb hby d7_17) (XS.goto X303.here hx rfl (pc0 := 18) (pc' := 22) rfl (hb hby d7_18) (by decide) (by decide) k)))) ?_
  show own_Goes p e below (T303.setTop (mkF m 22 #[rv a292] [(.int (1 : Int32))])) _
  obtain ⟨fs, hr, hrun, hended, hW, hsame⟩ := X303.leave (v := some (.int (1 : Int32))) (fun h => by rw [Bd.returns] at h; cases h)
  refine own_end (t := T303.setFrames fs) ?_ ⟨_, hrun, hended, _, _, rfl, ?_, ⟨_, rfl⟩, hW, hsame.mono (by decide) (by decide)⟩
  · exact retN X303 hx (t := .boolean) Bd.returns (by simp) (hb hby d7_22) hr
  · show Q14 Z a292 p293 w61 h0 n0 _ T303.heap _
    rw [hh314]
    exact ⟨rfl, N303, rfl⟩
theorem d1_17 : decode method_2_code 17 = .ok (.iload_n 0, 1) := by decide +kernel
theorem d1_18 : decode method_2_code 18 = .ok (.iconst 2, 1) := by decide +kernel
theorem d1_19 : decode method_2_code 19 = .ok (.if_icmp .ne 7, 3) := by decide +kernel
theorem d1_22 : decode method_2_code 22 = .ok (.getstatic 16, 3) := by decide +kernel
theorem d1_25 : decode method_2_code 25 = .ok (.areturn, 1) := by decide +kernel
def Q15 (Z : State) (w82 : Addr) (h0 : Heap) (n0 : Nat) (v : Option Value) (h : Heap) (L : List Loc) : Prop := v = some (.ref w82) ∧ Fr n0 L ∧ h = h0
set_option maxRecDepth 65536 in
set_option maxHeartbeats 40000000 in
theorem rm15 (l : Launch) (Z : State) (a0 : Array Value) (hw : ∀ d ∈ tables_1, d.before a0 Z = true) (ws : List Jvm.Cond) (w82 : Addr) (h0 : Heap) (n0 : Nat) (O0 : Old Z n0 h0) (S_Result_LOSS : Sta Z Z.heap zs2 "LOSS" zs3 (.ref w82)) :
    MetFree l (⟨zs4, "pick", zs8⟩ : MethodName) (head1 (Jvm.Cond.code (⟨zs4, "pick", zs8⟩ : MethodName) method_2_code 1 (some (.object zs2)) :: ws) ({ frames := 0, cells := 0, slots := 0, locals := 0 } : Room)) (fun a U => a = #[(.int (2 : Int32))] ∧ Z.Warmed39 U.vm ∧ U.heap = h0) (fun _ _ _ _ _ => True) (fun _ U o U' => ∃ v L, o = .returned v ∧ Q15 Z w82 h0 n0 v U'.heap L ∧ FrameEnd U o U' L ({ frames := 0, cells := 0, slots := 0, locals := 0 } : Room).cells ({ frames := 0, cells := 0, slots := 0, locals := 0 } : Room).slots) := by
  refine MetFree.of_bodySF (plainFor_of_name pn_1) hisR ?_
  intro p e s m args below meth c s₁ Bd hml0 hP hK
  obtain ⟨rfl, hZ, hh⟩ := hP
  have hx := Bd.exec
  have hby := Bd.bytes
  have hml : c.maxLocals = 1 := hml0
  have hown : s.vm.findClass zs4 = some m.cls := findClass_of_methodNamed Bd.named
  have hnm := (name_of_methodNamed Bd.named Bd.method).1
  have X0 : Stand p l e ({ frames := 0, cells := 0, slots := 0, locals := 0 } : Room) s m #[(.int (2 : Int32))] below meth c s₁ [] 0 0 := Stand.of_body Bd
  have e0 : s₁.heap = h0 := by rw [← hh, Bd.state]; rfl
  have N0 := Fr.nil n0
  refine own_out ?_
  refine own_via (fun t k => castTop (ef_1 m (2 : Int32)) (XS.iloadN X0.here hx rfl (hb hby d1_0) rfl (XS.ifYes X0.here hx rfl (pc0 := 1) (pc' := 8) rfl (hb hby d1_1) rfl ((if0 _ _).trans (feq (by decide : ¬ ((2 : Int32) = (0 : Int32)))).2) (by decide) (by decide) (XS.iloadN X0.here hx rfl (hb hby d1_8) rfl (XS.iconst X0.here hx rfl (hb hby d1_9) (XS.icmpYes X0.here hx rfl (pc0 := 10) (pc' := 17) rfl (hb hby d1_10) rfl (feq (by decide : ¬ ((2 : Int32) = (1 : Int32)))).2 (by decide) (by decide) (XS.iloadN X0.here hx rfl (hb hby d1_17) rfl (XS.iconst X0.here hx rfl (hb hby d1_18) (XS.icmpNo X0.here hx rfl (hb hby d1_19) rfl (teq (by decide : (2 : Int32) = (2 : Int32))).2 k))))))))) ?_
  show own_Goes p e below (s₁.setTop (mkF m 22 #[iv (2 : Int32)] [])) _
  obtain ⟨T326, X326, e326, st326⟩ := getS2 X0 hx hZ hown (host := "") (Or.inl (wd hw 65 rfl)) Via.refl e0 (S_Result_LOSS.ext O0.2) (g := (mkF m 22 #[iv (2 : Int32)] [])) rfl (hb hby d1_22)
  refine own_via (fun t k => st326 t k) ?_
  obtain ⟨fs, hr, hrun, hended, hW, hsame⟩ := X326.leave (v := some (.ref w82)) (fun h => by rw [Bd.returns] at h; cases h)
  refine own_end (t := T326.setFrames fs) ?_ ⟨_, hrun, hended, _, _, rfl, ?_, ⟨_, rfl⟩, hW, hsame.mono (by decide) (by decide)⟩
  · jvm_step X326.here [X326.here.top, hx, (hb hby d1_25), X326.method', Bd.returns, Value.isRef, FieldType.isReference]
    first | (intro acts; rw [hr _ acts rfl rfl rfl]) | rw [hr _ _ rfl rfl rfl]
    exact Steps.refl _
  · show Q15 Z w82 h0 n0 _ T326.heap _
    rw [e326]
    exact ⟨rfl, N0, rfl⟩
def Q16 (Z : State) (w82 : Addr) (h0 : Heap) (n0 : Nat) (v : Option Value) (h : Heap) (L : List Loc) : Prop := v = some (.ref w82) ∧ Fr n0 L ∧ h = h0
set_option maxRecDepth 65536 in
set_option maxHeartbeats 40000000 in
theorem rm16 (l : Launch) (Z : State) (a0 : Array Value) (hw : ∀ d ∈ tables_1, d.before a0 Z = true) (ws : List Jvm.Cond) (w82 : Addr) (h0 : Heap) (n0 : Nat) (O0 : Old Z n0 h0) :
    MetFree l (⟨zs10, zs11, zs9⟩ : MethodName) (head1 (Jvm.Cond.code (⟨zs10, zs11, zs9⟩ : MethodName) jdk_31_method_10_code 1 (some (.object zs13)) :: ws) ({ frames := 0, cells := 0, slots := 0, locals := 0 } : Room)) (fun a U => a = #[(.ref w82)] ∧ Z.Warmed39 U.vm ∧ U.heap = h0) (fun _ _ _ _ _ => True) (fun _ U o U' => ∃ v L, o = .returned v ∧ Q16 Z w82 h0 n0 v U'.heap L ∧ FrameEnd U o U' L ({ frames := 0, cells := 0, slots := 0, locals := 0 } : Room).cells ({ frames := 0, cells := 0, slots := 0, locals := 0 } : Room).slots) := by
  refine MetFree.of_bodySF (plainFor_of_name pn_4) hisR ?_
  intro p e s m args below meth c s₁ Bd hml0 hP hK
  obtain ⟨rfl, hZ, hh⟩ := hP
  have hx := Bd.exec
  have hby := Bd.bytes
  have hml : c.maxLocals = 1 := hml0
  have hown : s.vm.findClass zs10 = some m.cls := findClass_of_methodNamed Bd.named
  have hnm := (name_of_methodNamed Bd.named Bd.method).1
  have X0 : Stand p l e ({ frames := 0, cells := 0, slots := 0, locals := 0 } : Room) s m #[(.ref w82)] below meth c s₁ [] 0 0 := Stand.of_body Bd
  have e0 : s₁.heap = h0 := by rw [← hh, Bd.state]; rfl
  have N0 := Fr.nil n0
  refine own_out ?_
  refine own_via (fun t k => castTop (ef_4 m w82) (XS.aloadN X0.here hx rfl (hb hby d6_0) rfl rfl (XS.ifnonnullYes X0.here hx rfl (pc0 := 1) (pc' := 12) rfl (hb hby d6_1) rfl (by decide) (by decide) (XS.aloadN X0.here hx rfl (hb hby d6_12) rfl rfl k)))) ?_
  show own_Goes p e below (s₁.setTop (mkF m 13 #[rv w82] [(.ref w82)])) _
  obtain ⟨fs, hr, hrun, hended, hW, hsame⟩ := X0.leave (v := some (.ref w82)) (fun h => by rw [Bd.returns] at h; cases h)
  refine own_end (t := s₁.setFrames fs) ?_ ⟨_, hrun, hended, _, _, rfl, ?_, ⟨_, rfl⟩, hW, hsame.mono (by decide) (by decide)⟩
  · jvm_step X0.here [X0.here.top, hx, (hb hby d6_13), X0.method', Bd.returns, Value.isRef, FieldType.isReference]
    first | (intro acts; rw [hr _ acts rfl rfl rfl]) | rw [hr _ _ rfl rfl rfl]
    exact Steps.refl _
  · show Q16 Z w82 h0 n0 _ s₁.heap _
    rw [e0]
    exact ⟨rfl, N0, rfl⟩
def Q17 (Z : State) (a339 : Addr) (p340 : Int32) (w59 : Addr) (w82 : Addr) (p341 : Int32) (h0 : Heap) (n0 : Nat) (v : Option Value) (h : Heap) (L : List Loc) : Prop := v = none ∧ Fr n0 L ∧ Keep h0 h [a339] ∧ Exa Z h a339 zs1 ∧ Fld Z h a339 zs1 "colour" zs6 (.ref w59) ∧ Fld Z h a339 zs1 "opponent" "I" (.int p340) ∧ Fld Z h a339 zs1 "result" zs3 (.ref w82)
set_option maxRecDepth 65536 in
set_option maxHeartbeats 40000000 in
theorem rm17 (l : Launch) (Z : State) (a0 : Array Value) (hw : ∀ d ∈ tables_1, d.before a0 Z = true) (ws : List Jvm.Cond) (a339 : Addr) (p340 : Int32) (w59 : Addr) (w82 : Addr) (p341 : Int32) (h0 : Heap) (n0 : Nat) (O0 : Old Z n0 h0) (pC342 : ¬ (p340 < (0 : Int32))) (pF_a339_opponent : Fld Z h0 a339 zs1 "opponent" "I" (.int p341)) (pE_a339 : Exa Z h0 a339 zs1) (pG_a339 : n0 ≤ a339) (pF_a339_colour : Fld Z h0 a339 zs1 "colour" zs6 .null) (pF_a339_result : Fld Z h0 a339 zs1 "result" zs3 .null) :
    MetFree l (⟨zs1, "<init>", zs5⟩ : MethodName) (head1 (Jvm.Cond.code (⟨zs1, "<init>", zs5⟩ : MethodName) prog_45_method_1_code 4 none :: ws) ({ frames := 2, cells := 0, slots := 0, locals := 24 } : Room)) (fun a U => a = #[(.ref a339), (.int p340), (.ref w59), (.ref w82)] ∧ Z.Warmed39 U.vm ∧ U.heap = h0) (fun _ _ _ _ _ => True) (fun _ U o U' => ∃ v L, o = .returned v ∧ Q17 Z a339 p340 w59 w82 p341 h0 n0 v U'.heap L ∧ FrameEnd U o U' L ({ frames := 2, cells := 0, slots := 0, locals := 24 } : Room).cells ({ frames := 2, cells := 0, slots := 0, locals := 24 } : Room).slots) := by
  refine MetFree.of_bodySF (plainFor_of_name pn_2) hisR ?_
  intro p e s m args below meth c s₁ Bd hml0 hP hK
  obtain ⟨rfl, hZ, hh⟩ := hP
  have hx := Bd.exec
  have hby := Bd.bytes
  have hml : c.maxLocals = 4 := hml0
  have hown : s.vm.findClass zs1 = some m.cls := findClass_of_methodNamed Bd.named
  have hnm := (name_of_methodNamed Bd.named Bd.method).1
  have X0 : Stand p l e ({ frames := 2, cells := 0, slots := 0, locals := 24 } : Room) s m #[(.ref a339), (.int p340), (.ref w59), (.ref w82)] below meth c s₁ [] 0 0 := Stand.of_body Bd
  have e0 : s₁.heap = h0 := by rw [← hh, Bd.state]; rfl
  have N0 := Fr.nil n0
  refine own_out ?_
  refine own_via (fun t k => castTop (ef_5 m a339 p340 w59 w82) (XS.aloadN X0.here hx rfl (hb hby d3_0) rfl rfl k)) ?_
  obtain ⟨_, T348, _, X348, hQ348, st348⟩ := own_ci X0 hx hZ hown (wd hw 23 rfl) (wd hw 24 rfl) (wd hw 27 rfl) (wd hw 26 rfl) rfl (by decide) (rm3 l Z a0 hw [] a339 h0 n0 O0 ) e0 (g := (mkF m 1 #[rv a339, iv p340, rv w59, rv w82] [(.ref a339)])) rfl (by rw [hml]; rfl) (rest := []) (W := 0) (lenOf pd_3 rfl) rfl (by show 2 * 0 + _ ≤ _; exact Nat.le_of_eq rfl) (hb hby d3_1) (by decide) (by decide) (by decide) (by decide)
  obtain ⟨rfl, Nq348, hh349⟩ := hQ348
  have N348 := Fr.app N0 Nq348
  refine own_via (fun t k => st348 t (XS.aloadN X348.here hx rfl (hb hby d3_4) rfl rfl k)) ?_
  obtain ⟨_, T350, _, X350, hQ350, st350⟩ := own_cs X348 hx hZ hown (wd hw 31 rfl) (wd hw 32 rfl) (wd hw 34 rfl) (wd hw 33 rfl) (by decide) (rm4 l Z a0 hw [] w59 h0 n0 O0 ) hh349 (g := (mkF m 5 #[rv a339, iv p340, rv w59, rv w82] [(.ref w59)])) rfl (by rw [hml]; rfl) (rest := []) (W := 0) (lenOf pd_4 rfl) rfl (by show 2 * 0 + _ ≤ _; exact Nat.le_of_eq rfl) (hb hby d3_5) (by decide) (by decide) (by decide) (by decide)
  obtain ⟨rfl, Nq350, hh351⟩ := hQ350
  have N350 := Fr.app N348 Nq350
  refine own_via (fun t k => st350 t (XS.pop X350.here hx rfl (hb hby d3_8) rfl rfl (XS.aloadN X350.here hx rfl (hb hby d3_9) rfl rfl k))) ?_
  show own_Goes p e below (T350.setTop (mkF m 10 #[rv a339, iv p340, rv w59, rv w82] [(.ref w82)])) _
  obtain ⟨_, T352, _, X352, hQ352, st352⟩ := own_cs X350 hx hZ hown (wd hw 31 rfl) (wd hw 32 rfl) (wd hw 34 rfl) (wd hw 33 rfl) (by decide) (rm16 l Z a0 hw [] w82 h0 n0 O0 ) hh351 (g := (mkF m 10 #[rv a339, iv p340, rv w59, rv w82] [(.ref w82)])) rfl (by rw [hml]; rfl) (rest := []) (W := 0) (lenOf pd_4 rfl) rfl (by show 2 * 0 + _ ≤ _; exact Nat.le_of_eq rfl) (hb hby d3_10) (by decide) (by decide) (by decide) (by decide)
  obtain ⟨rfl, Nq352, hh362⟩ := hQ352
  have N352 := Fr.app N350 Nq352
  refine own_via (fun t k => st352 t (XS.pop X352.here hx rfl (hb hby d3_13) rfl rfl (XS.iloadN X352.here hx rfl (hb hby d3_14) rfl (XS.ifYes X352.here hx rfl (pc0 := 15) (pc' := 32) rfl (hb hby d3_15) rfl ((if0 _ _).trans (flt pC342).2.1) (by decide) (by decide) (XS.aloadN X352.here hx rfl (hb hby d3_32) rfl rfl (XS.iloadN X352.here hx rfl (hb hby d3_33) rfl k)))))) ?_
  show own_Goes p e below (T352.setTop (mkF m 34 #[rv a339, iv p340, rv w59, rv w82] [(.int p340), (.ref a339)])) _
  obtain ⟨T363, h363, X363, e363, W363, st363⟩ := putF X352 hx hZ hown (host := "") (Or.inl (wd hw 35 rfl)) Via.refl hh362 pF_a339_opponent pE_a339 (Or.inr ⟨(wd hw 36 rfl), rfl, hnm⟩) (wd hw 19 rfl) (ty := .int) (by decide) rfl rfl (g := (mkF m 34 #[rv a339, iv p340, rv w59, rv w82] [(.int p340), (.ref a339)])) rfl rfl (hb hby d3_34)
  refine own_via (fun t k => st363 t k) ?_
  have Fw363 : Fld Z h363 a339 zs1 "opponent" "I" (.int p340) := pF_a339_opponent.same W363
  have N363 := Fr.snoc X363 N352 pG_a339
  show own_Goes p e below (T363.setTop (mkF m 37 #[rv a339, iv p340, rv w59, rv w82] [])) _
  refine own_via (fun t k => XS.aloadN X363.here hx rfl (hb hby d3_37) rfl rfl (XS.aloadN X363.here hx rfl (hb hby d3_38) rfl rfl k)) ?_
  have F364 : Fld Z h363 a339 zs1 "colour" zs6 .null := (pF_a339_colour.other W363 (Or.inr (slot_ne (Or.inr (wd hw 17 rfl)) (Or.inr (wd hw 36 rfl)) (by decide) (t := (.object zs7)) (t' := .int) (by decide) (by decide))))
  have E365 : Exa Z h363 a339 zs1 := (pE_a339.wr W363)
  obtain ⟨T366, h366, X366, e366, W366, st366⟩ := putF X363 hx hZ hown (host := "") (Or.inl (wd hw 16 rfl)) Via.refl e363 F364 E365 (Or.inr ⟨(wd hw 17 rfl), rfl, hnm⟩) (wd hw 19 rfl) (ty := (.object zs7)) (by decide) rfl rfl (g := (mkF m 39 #[rv a339, iv p340, rv w59, rv w82] [(.ref w59), (.ref a339)])) rfl rfl (hb hby d3_39)
  refine own_via (fun t k => st366 t k) ?_
  have Fw366 : Fld Z h366 a339 zs1 "colour" zs6 (.ref w59) := F364.same W366
  have N366 := Fr.snoc X366 N363 pG_a339
  show own_Goes p e below (T366.setTop (mkF m 42 #[rv a339, iv p340, rv w59, rv w82] [])) _
  refine own_via (fun t k => XS.aloadN X366.here hx rfl (hb hby d3_42) rfl rfl (XS.aloadN X366.here hx rfl (hb hby d3_43) rfl rfl k)) ?_
  have F367 : Fld Z h366 a339 zs1 "result" zs3 .null := ((pF_a339_result.other W363 (Or.inr (slot_ne (Or.inr (wd hw 38 rfl)) (Or.inr (wd hw 36 rfl)) (by decide) (t := (.object zs2)) (t' := .int) (by decide) (by decide)))).other W366 (Or.inr (slot_ne (Or.inr (wd hw 38 rfl)) (Or.inr (wd hw 17 rfl)) (by decide) (t := (.object zs2)) (t' := (.object zs7)) (by decide) (by decide))))
  have E368 : Exa Z h366 a339 zs1 := (E365.wr W366)
  obtain ⟨T369, h369, X369, e369, W369, st369⟩ := putF X366 hx hZ hown (host := "") (Or.inl (wd hw 37 rfl)) Via.refl e366 F367 E368 (Or.inr ⟨(wd hw 38 rfl), rfl, hnm⟩) (wd hw 19 rfl) (ty := (.object zs2)) (by decide) rfl rfl (g := (mkF m 44 #[rv a339, iv p340, rv w59, rv w82] [(.ref w82), (.ref a339)])) rfl rfl (hb hby d3_44)
  refine own_via (fun t k => st369 t k) ?_
  have Fw369 : Fld Z h369 a339 zs1 "result" zs3 (.ref w82) := F367.same W369
  have N369 := Fr.snoc X369 N366 pG_a339
  show own_Goes p e below (T369.setTop (mkF m 47 #[rv a339, iv p340, rv w59, rv w82] [])) _
  obtain ⟨fs, hr, hrun, hended, hW, hsame⟩ := X369.leave (v := none) (fun _ => rfl)
  refine own_end (t := T369.setFrames fs) ?_ ⟨_, hrun, hended, _, _, rfl, ?_, ⟨_, rfl⟩, hW, hsame.mono (by decide) (by decide)⟩
  · exact X369.returnOut hx Bd.returns (hb hby d3_47) hr
  have E370 : Exa Z h369 a339 zs1 := (E368.wr W369)
  have F371 : Fld Z h369 a339 zs1 "colour" zs6 (.ref w59) := (Fw366.other W369 (Or.inr (slot_ne (Or.inr (wd hw 17 rfl)) (Or.inr (wd hw 38 rfl)) (by decide) (t := (.object zs7)) (t' := (.object zs2)) (by decide) (by decide))))
  have F372 : Fld Z h369 a339 zs1 "opponent" "I" (.int p340) := ((Fw363.other W366 (Or.inr (slot_ne (Or.inr (wd hw 36 rfl)) (Or.inr (wd hw 17 rfl)) (by decide) (t := .int) (t' := (.object zs7)) (by decide) (by decide)))).other W369 (Or.inr (slot_ne (Or.inr (wd hw 36 rfl)) (Or.inr (wd hw 38 rfl)) (by decide) (t := .int) (t' := (.object zs2)) (by decide) (by decide))))
  · show Q17 Z a339 p340 w59 w82 p341 h0 n0 _ T369.heap _
    rw [e369]
    exact ⟨rfl, N369, ((((Keep.refl h0 [a339]).wr W363 (Or.inl (List.mem_of_getElem? (i := 0) rfl))).wr W366 (Or.inl (List.mem_of_getElem? (i := 0) rfl))).wr W369 (Or.inl (List.mem_of_getElem? (i := 0) rfl))), E370, F371, F372, Fw369⟩
def Q18 (Z : State) (w82 : Addr) (h0 : Heap) (n0 : Nat) (v : Option Value) (h : Heap) (L : List Loc) : Prop := v = some (.int (1 : Int32)) ∧ Fr n0 L ∧ h = h0
set_option maxRecDepth 65536 in
set_option maxHeartbeats 40000000 in
theorem rm18 (l : Launch) (Z : State) (a0 : Array Value) (hw : ∀ d ∈ tables_1, d.before a0 Z = true) (ws : List Jvm.Cond) (w82 : Addr) (h0 : Heap) (n0 : Nat) (O0 : Old Z n0 h0) (SF_w82_game : Fld Z Z.heap w82 zs2 "game" "Z" (.int (1 : Int32))) :
    MetFree l (⟨zs2, "isGame", "()Z"⟩ : MethodName) (head1 (Jvm.Cond.code (⟨zs2, "isGame", "()Z"⟩ : MethodName) prog_43_method_7_code 1 (some .boolean) :: ws) ({ frames := 0, cells := 0, slots := 0, locals := 0 } : Room)) (fun a U => a = #[(.ref w82)] ∧ Z.Warmed39 U.vm ∧ U.heap = h0) (fun _ _ _ _ _ => True) (fun _ U o U' => ∃ v L, o = .returned v ∧ Q18 Z w82 h0 n0 v U'.heap L ∧ FrameEnd U o U' L ({ frames := 0, cells := 0, slots := 0, locals := 0 } : Room).cells ({ frames := 0, cells := 0, slots := 0, locals := 0 } : Room).slots) := by
  refine MetFree.of_bodySF (plainFor_of_name pn_5) hisR ?_
  intro p e s m args below meth c s₁ Bd hml0 hP hK
  obtain ⟨rfl, hZ, hh⟩ := hP
  have hx := Bd.exec
  have hby := Bd.bytes
  have hml : c.maxLocals = 1 := hml0
  have hown : s.vm.findClass zs2 = some m.cls := findClass_of_methodNamed Bd.named
  have hnm := (name_of_methodNamed Bd.named Bd.method).1
  have X0 : Stand p l e ({ frames := 0, cells := 0, slots := 0, locals := 0 } : Room) s m #[(.ref w82)] below meth c s₁ [] 0 0 := Stand.of_body Bd
  have e0 : s₁.heap = h0 := by rw [← hh, Bd.state]; rfl
  have N0 := Fr.nil n0
  refine own_out ?_
  refine own_via (fun t k => castTop (ef_7 m w82) (XS.aloadN X0.here hx rfl (hb hby d8_0) rfl rfl k)) ?_
  obtain ⟨T404, X404, e404, st404⟩ := getF X0 hx hZ hown (host := "") (Or.inl (wd hw 51 rfl)) Via.refl e0 (SF_w82_game.ext O0.2) (g := (mkF m 1 #[rv w82] [(.ref w82)])) rfl rfl (hb hby d8_1)
  refine own_via (fun t k => st404 t k) ?_
  obtain ⟨fs, hr, hrun, hended, hW, hsame⟩ := X404.leave (v := some (.int (1 : Int32))) (fun h => by rw [Bd.returns] at h; cases h)
  refine own_end (t := T404.setFrames fs) ?_ ⟨_, hrun, hended, _, _, rfl, ?_, ⟨_, rfl⟩, hW, hsame.mono (by decide) (by decide)⟩
  · exact retN X404 hx (t := .boolean) Bd.returns (by simp) (hb hby d8_4) hr
  · show Q18 Z w82 h0 n0 _ T404.heap _
    rw [e404]
    exact ⟨rfl, N0, rfl⟩
def Q19 (Z : State) (a383 : Addr) (p384 : Int32) (w82 : Addr) (h0 : Heap) (n0 : Nat) (v : Option Value) (h : Heap) (L : List Loc) : Prop := v = some (.int (1 : Int32)) ∧ Fr n0 L ∧ h = h0
set_option maxRecDepth 65536 in
set_option maxHeartbeats 40000000 in
theorem rm19 (l : Launch) (Z : State) (a0 : Array Value) (hw : ∀ d ∈ tables_1, d.before a0 Z = true) (ws : List Jvm.Cond) (a383 : Addr) (p384 : Int32) (w82 : Addr) (h0 : Heap) (n0 : Nat) (O0 : Old Z n0 h0) (pF_a383_opponent : Fld Z h0 a383 zs1 "opponent" "I" (.int p384)) (pC391 : ¬ (p384 = (0 : Int32))) (pF_a383_result : Fld Z h0 a383 zs1 "result" zs3 (.ref w82)) (SF_w82_game : Fld Z Z.heap w82 zs2 "game" "Z" (.int (1 : Int32))) (SE_w82 : Exa Z Z.heap w82 zs2) :
    MetFree l (⟨zs1, zs12, "()Z"⟩ : MethodName) (head1 (Jvm.Cond.code (⟨zs1, zs12, "()Z"⟩ : MethodName) prog_45_method_4_code 1 (some .boolean) :: ws) ({ frames := 1, cells := 0, slots := 0, locals := 12 } : Room)) (fun a U => a = #[(.ref a383)] ∧ Z.Warmed39 U.vm ∧ U.heap = h0) (fun _ _ _ _ _ => True) (fun _ U o U' => ∃ v L, o = .returned v ∧ Q19 Z a383 p384 w82 h0 n0 v U'.heap L ∧ FrameEnd U o U' L ({ frames := 1, cells := 0, slots := 0, locals := 12 } : Room).cells ({ frames := 1, cells := 0, slots := 0, locals := 12 } : Room).slots) := by
  refine MetFree.of_bodySF (plainFor_of_name pn_2) hisR ?_
  intro p e s m args below meth c s₁ Bd hml0 hP hK
  obtain ⟨rfl, hZ, hh⟩ := hP
  have hx := Bd.exec
  have hby := Bd.bytes
  have hml : c.maxLocals = 1 := hml0
  have hown : s.vm.findClass zs1 = some m.cls := findClass_of_methodNamed Bd.named
  have hnm := (name_of_methodNamed Bd.named Bd.method).1
  have X0 : Stand p l e ({ frames := 1, cells := 0, slots := 0, locals := 12 } : Room) s m #[(.ref a383)] below meth c s₁ [] 0 0 := Stand.of_body Bd
  have e0 : s₁.heap = h0 := by rw [← hh, Bd.state]; rfl
  have N0 := Fr.nil n0
  refine own_out ?_
  refine own_via (fun t k => castTop (ef_6 m a383) (XS.aloadN X0.here hx rfl (hb hby d7_0) rfl rfl k)) ?_
  obtain ⟨T392, X392, e392, st392⟩ := getF X0 hx hZ hown (host := "") (Or.inl (wd hw 35 rfl)) Via.refl e0 pF_a383_opponent (g := (mkF m 1 #[rv a383] [(.ref a383)])) rfl rfl (hb hby d7_1)
  refine own_via (fun t k => st392 t (XS.ifNo X392.here hx rfl (hb hby d7_4) rfl ((if0 _ _).trans (feq pC391).1) (XS.aloadN X392.here hx rfl (hb hby d7_7) rfl rfl k))) ?_
  show own_Goes p e below (T392.setTop (mkF m 8 #[rv a383] [(.ref a383)])) _
  obtain ⟨T393, X393, e393, st393⟩ := getF X392 hx hZ hown (host := "") (Or.inl (wd hw 37 rfl)) Via.refl e392 pF_a383_result (g := (mkF m 8 #[rv a383] [(.ref a383)])) rfl rfl (hb hby d7_8)
  refine own_via (fun t k => st393 t k) ?_
  obtain ⟨_, T394, _, X394, hQ394, st394⟩ := own_cv X393 hx hZ hown (wd hw 46 rfl) (wd hw 47 rfl) (wd hw 49 rfl) (wd hw 48 rfl) (wd hw 50 rfl) (wd hw 6 rfl) (by decide) (rm18 l Z a0 hw [] w82 h0 n0 O0 SF_w82_game) e393 (SE_w82.ext O0.2) (g := (mkF m 11 #[rv a383] [(.ref w82)])) rfl (by rw [hml]; rfl) (rest := []) (W := 0) (lenOf pd_6 rfl) rfl (by show 2 * 0 + _ ≤ _; exact Nat.le_of_eq rfl) (hb hby d7_11) (by decide) (by decide) (by decide) (by decide)
  obtain ⟨rfl, Nq394, hh405⟩ := hQ394
  have N394 := Fr.app N0 Nq394
  refine own_via (fun t k => st394 t (XS.ifNo X394.here hx rfl (hb hby d7_14) rfl ((if0 _ _).trans (feq (by decide : ¬ ((1 : Int32) = (0 : Int32)))).1) (XS.iconst X394.here hx rfl (hb hby d7_17) (XS.goto X394.here hx rfl (pc0 := 18) (pc' := 22) rfl (hb hby d7_18) (by decide) (by decide) k)))) ?_
  show own_Goes p e below (T394.setTop (mkF m 22 #[rv a383] [(.int (1 : Int32))])) _
  obtain ⟨fs, hr, hrun, hended, hW, hsame⟩ := X394.leave (v := some (.int (1 : Int32))) (fun h => by rw [Bd.returns] at h; cases h)
  refine own_end (t := T394.setFrames fs) ?_ ⟨_, hrun, hended, _, _, rfl, ?_, ⟨_, rfl⟩, hW, hsame.mono (by decide) (by decide)⟩
  · exact retN X394 hx (t := .boolean) Bd.returns (by simp) (hb hby d7_22) hr
  · show Q19 Z a383 p384 w82 h0 n0 _ T394.heap _
    rw [hh405]
    exact ⟨rfl, N394, rfl⟩
theorem d1_26 : decode method_2_code 26 = .ok (.iload_n 0, 1) := by decide +kernel
theorem d1_27 : decode method_2_code 27 = .ok (.iconst 3, 1) := by decide +kernel
theorem d1_28 : decode method_2_code 28 = .ok (.if_icmp .ne 7, 3) := by decide +kernel
theorem d1_31 : decode method_2_code 31 = .ok (.getstatic 19, 3) := by decide +kernel
theorem d1_34 : decode method_2_code 34 = .ok (.areturn, 1) := by decide +kernel
def Q20 (Z : State) (w55 : Addr) (h0 : Heap) (n0 : Nat) (v : Option Value) (h : Heap) (L : List Loc) : Prop := v = some (.ref w55) ∧ Fr n0 L ∧ h = h0
set_option maxRecDepth 65536 in
set_option maxHeartbeats 40000000 in
theorem rm20 (l : Launch) (Z : State) (a0 : Array Value) (hw : ∀ d ∈ tables_1, d.before a0 Z = true) (ws : List Jvm.Cond) (w55 : Addr) (h0 : Heap) (n0 : Nat) (O0 : Old Z n0 h0) (S_Result_UNRATED_WIN : Sta Z Z.heap zs2 "UNRATED_WIN" zs3 (.ref w55)) :
    MetFree l (⟨zs4, "pick", zs8⟩ : MethodName) (head1 (Jvm.Cond.code (⟨zs4, "pick", zs8⟩ : MethodName) method_2_code 1 (some (.object zs2)) :: ws) ({ frames := 0, cells := 0, slots := 0, locals := 0 } : Room)) (fun a U => a = #[(.int (3 : Int32))] ∧ Z.Warmed39 U.vm ∧ U.heap = h0) (fun _ _ _ _ _ => True) (fun _ U o U' => ∃ v L, o = .returned v ∧ Q20 Z w55 h0 n0 v U'.heap L ∧ FrameEnd U o U' L ({ frames := 0, cells := 0, slots := 0, locals := 0 } : Room).cells ({ frames := 0, cells := 0, slots := 0, locals := 0 } : Room).slots) := by
  refine MetFree.of_bodySF (plainFor_of_name pn_1) hisR ?_
  intro p e s m args below meth c s₁ Bd hml0 hP hK
  obtain ⟨rfl, hZ, hh⟩ := hP
  have hx := Bd.exec
  have hby := Bd.bytes
  have hml : c.maxLocals = 1 := hml0
  have hown : s.vm.findClass zs4 = some m.cls := findClass_of_methodNamed Bd.named
  have hnm := (name_of_methodNamed Bd.named Bd.method).1
  have X0 : Stand p l e ({ frames := 0, cells := 0, slots := 0, locals := 0 } : Room) s m #[(.int (3 : Int32))] below meth c s₁ [] 0 0 := Stand.of_body Bd
  have e0 : s₁.heap = h0 := by rw [← hh, Bd.state]; rfl
  have N0 := Fr.nil n0
  refine own_out ?_
  refine own_via (fun t k => castTop (ef_1 m (3 : Int32)) (XS.iloadN X0.here hx rfl (hb hby d1_0) rfl (XS.ifYes X0.here hx rfl (pc0 := 1) (pc' := 8) rfl (hb hby d1_1) rfl ((if0 _ _).trans (feq (by decide : ¬ ((3 : Int32) = (0 : Int32)))).2) (by decide) (by decide) (XS.iloadN X0.here hx rfl (hb hby d1_8) rfl (XS.iconst X0.here hx rfl (hb hby d1_9) (XS.icmpYes X0.here hx rfl (pc0 := 10) (pc' := 17) rfl (hb hby d1_10) rfl (feq (by decide : ¬ ((3 : Int32) = (1 : Int32)))).2 (by decide) (by decide) (XS.iloadN X0.here hx rfl (hb hby d1_17) rfl (XS.iconst X0.here hx rfl (hb hby d1_18) (XS.icmpYes X0.here hx rfl (pc0 := 19) (pc' := 26) rfl (hb hby d1_19) rfl (feq (by decide : ¬ ((3 : Int32) = (2 : Int32)))).2 (by decide) (by decide) (XS.iloadN X0.here hx rfl (hb hby d1_26) rfl (XS.iconst X0.here hx rfl (hb hby d1_27) (XS.icmpNo X0.here hx rfl (hb hby d1_28) rfl (teq (by decide : (3 : Int32) = (3 : Int32))).2 k)))))))))))) ?_
  show own_Goes p e below (s₁.setTop (mkF m 31 #[iv (3 : Int32)] [])) _
  obtain ⟨T417, X417, e417, st417⟩ := getS2 X0 hx hZ hown (host := "") (Or.inl (wd hw 5 rfl)) Via.refl e0 (S_Result_UNRATED_WIN.ext O0.2) (g := (mkF m 31 #[iv (3 : Int32)] [])) rfl (hb hby d1_31)
  refine own_via (fun t k => st417 t k) ?_
  obtain ⟨fs, hr, hrun, hended, hW, hsame⟩ := X417.leave (v := some (.ref w55)) (fun h => by rw [Bd.returns] at h; cases h)
  refine own_end (t := T417.setFrames fs) ?_ ⟨_, hrun, hended, _, _, rfl, ?_, ⟨_, rfl⟩, hW, hsame.mono (by decide) (by decide)⟩
  · jvm_step X417.here [X417.here.top, hx, (hb hby d1_34), X417.method', Bd.returns, Value.isRef, FieldType.isReference]
    first | (intro acts; rw [hr _ acts rfl rfl rfl]) | rw [hr _ _ rfl rfl rfl]
    exact Steps.refl _
  · show Q20 Z w55 h0 n0 _ T417.heap _
    rw [e417]
    exact ⟨rfl, N0, rfl⟩
def Q21 (Z : State) (w55 : Addr) (h0 : Heap) (n0 : Nat) (v : Option Value) (h : Heap) (L : List Loc) : Prop := v = some (.ref w55) ∧ Fr n0 L ∧ h = h0
set_option maxRecDepth 65536 in
set_option maxHeartbeats 40000000 in
theorem rm21 (l : Launch) (Z : State) (a0 : Array Value) (hw : ∀ d ∈ tables_1, d.before a0 Z = true) (ws : List Jvm.Cond) (w55 : Addr) (h0 : Heap) (n0 : Nat) (O0 : Old Z n0 h0) :
    MetFree l (⟨zs10, zs11, zs9⟩ : MethodName) (head1 (Jvm.Cond.code (⟨zs10, zs11, zs9⟩ : MethodName) jdk_31_method_10_code 1 (some (.object zs13)) :: ws) ({ frames := 0, cells := 0, slots := 0, locals := 0 } : Room)) (fun a U => a = #[(.ref w55)] ∧ Z.Warmed39 U.vm ∧ U.heap = h0) (fun _ _ _ _ _ => True) (fun _ U o U' => ∃ v L, o = .returned v ∧ Q21 Z w55 h0 n0 v U'.heap L ∧ FrameEnd U o U' L ({ frames := 0, cells := 0, slots := 0, locals := 0 } : Room).cells ({ frames := 0, cells := 0, slots := 0, locals := 0 } : Room).slots) := by
  refine MetFree.of_bodySF (plainFor_of_name pn_4) hisR ?_
  intro p e s m args below meth c s₁ Bd hml0 hP hK
  obtain ⟨rfl, hZ, hh⟩ := hP
  have hx := Bd.exec
  have hby := Bd.bytes
  have hml : c.maxLocals = 1 := hml0
  have hown : s.vm.findClass zs10 = some m.cls := findClass_of_methodNamed Bd.named
  have hnm := (name_of_methodNamed Bd.named Bd.method).1
  have X0 : Stand p l e ({ frames := 0, cells := 0, slots := 0, locals := 0 } : Room) s m #[(.ref w55)] below meth c s₁ [] 0 0 := Stand.of_body Bd
  have e0 : s₁.heap = h0 := by rw [← hh, Bd.state]; rfl
  have N0 := Fr.nil n0
  refine own_out ?_
  refine own_via (fun t k => castTop (ef_4 m w55) (XS.aloadN X0.here hx rfl (hb hby d6_0) rfl rfl (XS.ifnonnullYes X0.here hx rfl (pc0 := 1) (pc' := 12) rfl (hb hby d6_1) rfl (by decide) (by decide) (XS.aloadN X0.here hx rfl (hb hby d6_12) rfl rfl k)))) ?_
  show own_Goes p e below (s₁.setTop (mkF m 13 #[rv w55] [(.ref w55)])) _
  obtain ⟨fs, hr, hrun, hended, hW, hsame⟩ := X0.leave (v := some (.ref w55)) (fun h => by rw [Bd.returns] at h; cases h)
  refine own_end (t := s₁.setFrames fs) ?_ ⟨_, hrun, hended, _, _, rfl, ?_, ⟨_, rfl⟩, hW, hsame.mono (by decide) (by decide)⟩
  · jvm_step X0.here [X0.here.top, hx, (hb hby d6_13), X0.method', Bd.returns, Value.isRef, FieldType.isReference]
    first | (intro acts; rw [hr _ acts rfl rfl rfl]) | rw [hr _ _ rfl rfl rfl]
    exact Steps.refl _
  · show Q21 Z w55 h0 n0 _ s₁.heap _
    rw [e0]
    exact ⟨rfl, N0, rfl⟩
def Q22 (Z : State) (a430 : Addr) (p431 : Int32) (w59 : Addr) (w55 : Addr) (p432 : Int32) (h0 : Heap) (n0 : Nat) (v : Option Value) (h : Heap) (L : List Loc) : Prop := v = none ∧ Fr n0 L ∧ Keep h0 h [a430] ∧ Exa Z h a430 zs1 ∧ Fld Z h a430 zs1 "colour" zs6 (.ref w59) ∧ Fld Z h a430 zs1 "opponent" "I" (.int p431) ∧ Fld Z h a430 zs1 "result" zs3 (.ref w55)
set_option maxRecDepth 65536 in
set_option maxHeartbeats 40000000 in
theorem rm22 (l : Launch) (Z : State) (a0 : Array Value) (hw : ∀ d ∈ tables_1, d.before a0 Z = true) (ws : List Jvm.Cond) (a430 : Addr) (p431 : Int32) (w59 : Addr) (w55 : Addr) (p432 : Int32) (h0 : Heap) (n0 : Nat) (O0 : Old Z n0 h0) (pC433 : ¬ (p431 < (0 : Int32))) (pF_a430_opponent : Fld Z h0 a430 zs1 "opponent" "I" (.int p432)) (pE_a430 : Exa Z h0 a430 zs1) (pG_a430 : n0 ≤ a430) (pF_a430_colour : Fld Z h0 a430 zs1 "colour" zs6 .null) (pF_a430_result : Fld Z h0 a430 zs1 "result" zs3 .null) :
    MetFree l (⟨zs1, "<init>", zs5⟩ : MethodName) (head1 (Jvm.Cond.code (⟨zs1, "<init>", zs5⟩ : MethodName) prog_45_method_1_code 4 none :: ws) ({ frames := 2, cells := 0, slots := 0, locals := 24 } : Room)) (fun a U => a = #[(.ref a430), (.int p431), (.ref w59), (.ref w55)] ∧ Z.Warmed39 U.vm ∧ U.heap = h0) (fun _ _ _ _ _ => True) (fun _ U o U' => ∃ v L, o = .returned v ∧ Q22 Z a430 p431 w59 w55 p432 h0 n0 v U'.heap L ∧ FrameEnd U o U' L ({ frames := 2, cells := 0, slots := 0, locals := 24 } : Room).cells ({ frames := 2, cells := 0, slots := 0, locals := 24 } : Room).slots) := by
  refine MetFree.of_bodySF (plainFor_of_name pn_2) hisR ?_
  intro p e s m args below meth c s₁ Bd hml0 hP hK
  obtain ⟨rfl, hZ, hh⟩ := hP
  have hx := Bd.exec
  have hby := Bd.bytes
  have hml : c.maxLocals = 4 := hml0
  have hown : s.vm.findClass zs1 = some m.cls := findClass_of_methodNamed Bd.named
  have hnm := (name_of_methodNamed Bd.named Bd.method).1
  have X0 : Stand p l e ({ frames := 2, cells := 0, slots := 0, locals := 24 } : Room) s m #[(.ref a430), (.int p431), (.ref w59), (.ref w55)] below meth c s₁ [] 0 0 := Stand.of_body Bd
  have e0 : s₁.heap = h0 := by rw [← hh, Bd.state]; rfl
  have N0 := Fr.nil n0
  refine own_out ?_
  refine own_via (fun t k => castTop (ef_5 m a430 p431 w59 w55) (XS.aloadN X0.here hx rfl (hb hby d3_0) rfl rfl k)) ?_
  obtain ⟨_, T439, _, X439, hQ439, st439⟩ := own_ci X0 hx hZ hown (wd hw 23 rfl) (wd hw 24 rfl) (wd hw 27 rfl) (wd hw 26 rfl) rfl (by decide) (rm3 l Z a0 hw [] a430 h0 n0 O0 ) e0 (g := (mkF m 1 #[rv a430, iv p431, rv w59, rv w55] [(.ref a430)])) rfl (by rw [hml]; rfl) (rest := []) (W := 0) (lenOf pd_3 rfl) rfl (by show 2 * 0 + _ ≤ _; exact Nat.le_of_eq rfl) (hb hby d3_1) (by decide) (by decide) (by decide) (by decide)
  obtain ⟨rfl, Nq439, hh440⟩ := hQ439
  have N439 := Fr.app N0 Nq439
  refine own_via (fun t k => st439 t (XS.aloadN X439.here hx rfl (hb hby d3_4) rfl rfl k)) ?_
  obtain ⟨_, T441, _, X441, hQ441, st441⟩ := own_cs X439 hx hZ hown (wd hw 31 rfl) (wd hw 32 rfl) (wd hw 34 rfl) (wd hw 33 rfl) (by decide) (rm4 l Z a0 hw [] w59 h0 n0 O0 ) hh440 (g := (mkF m 5 #[rv a430, iv p431, rv w59, rv w55] [(.ref w59)])) rfl (by rw [hml]; rfl) (rest := []) (W := 0) (lenOf pd_4 rfl) rfl (by show 2 * 0 + _ ≤ _; exact Nat.le_of_eq rfl) (hb hby d3_5) (by decide) (by decide) (by decide) (by decide)
  obtain ⟨rfl, Nq441, hh442⟩ := hQ441
  have N441 := Fr.app N439 Nq441
  refine own_via (fun t k => st441 t (XS.pop X441.here hx rfl (hb hby d3_8) rfl rfl (XS.aloadN X441.here hx rfl (hb hby d3_9) rfl rfl k))) ?_
  show own_Goes p e below (T441.setTop (mkF m 10 #[rv a430, iv p431, rv w59, rv w55] [(.ref w55)])) _
  obtain ⟨_, T443, _, X443, hQ443, st443⟩ := own_cs X441 hx hZ hown (wd hw 31 rfl) (wd hw 32 rfl) (wd hw 34 rfl) (wd hw 33 rfl) (by decide) (rm21 l Z a0 hw [] w55 h0 n0 O0 ) hh442 (g := (mkF m 10 #[rv a430, iv p431, rv w59, rv w55] [(.ref w55)])) rfl (by rw [hml]; rfl) (rest := []) (W := 0) (lenOf pd_4 rfl) rfl (by show 2 * 0 + _ ≤ _; exact Nat.le_of_eq rfl) (hb hby d3_10) (by decide) (by decide) (by decide) (by decide)
  obtain ⟨rfl, Nq443, hh453⟩ := hQ443
  have N443 := Fr.app N441 Nq443
  refine own_via (fun t k => st443 t (XS.pop X443.here hx rfl (hb hby d3_13) rfl rfl (XS.iloadN X443.here hx rfl (hb hby d3_14) rfl (XS.ifYes X443.here hx rfl (pc0 := 15) (pc' := 32) rfl (hb hby d3_15) rfl ((if0 _ _).trans (flt pC433).2.1) (by decide) (by decide) (XS.aloadN X443.here hx rfl (hb hby d3_32) rfl rfl (XS.iloadN X443.here hx rfl (hb hby d3_33) rfl k)))))) ?_
  show own_Goes p e below (T443.setTop (mkF m 34 #[rv a430, iv p431, rv w59, rv w55] [(.int p431), (.ref a430)])) _
  obtain ⟨T454, h454, X454, e454, W454, st454⟩ := putF X443 hx hZ hown (host := "") (Or.inl (wd hw 35 rfl)) Via.refl hh453 pF_a430_opponent pE_a430 (Or.inr ⟨(wd hw 36 rfl), rfl, hnm⟩) (wd hw 19 rfl) (ty := .int) (by decide) rfl rfl (g := (mkF m 34 #[rv a430, iv p431, rv w59, rv w55] [(.int p431), (.ref a430)])) rfl rfl (hb hby d3_34)
  refine own_via (fun t k => st454 t k) ?_
  have Fw454 : Fld Z h454 a430 zs1 "opponent" "I" (.int p431) := pF_a430_opponent.same W454
  have N454 := Fr.snoc X454 N443 pG_a430
  show own_Goes p e below (T454.setTop (mkF m 37 #[rv a430, iv p431, rv w59, rv w55] [])) _
  refine own_via (fun t k => XS.aloadN X454.here hx rfl (hb hby d3_37) rfl rfl (XS.aloadN X454.here hx rfl (hb hby d3_38) rfl rfl k)) ?_
  have F455 : Fld Z h454 a430 zs1 "colour" zs6 .null := (pF_a430_colour.other W454 (Or.inr (slot_ne (Or.inr (wd hw 17 rfl)) (Or.inr (wd hw 36 rfl)) (by decide) (t := (.object zs7)) (t' := .int) (by decide) (by decide))))
  have E456 : Exa Z h454 a430 zs1 := (pE_a430.wr W454)
  obtain ⟨T457, h457, X457, e457, W457, st457⟩ := putF X454 hx hZ hown (host := "") (Or.inl (wd hw 16 rfl)) Via.refl e454 F455 E456 (Or.inr ⟨(wd hw 17 rfl), rfl, hnm⟩) (wd hw 19 rfl) (ty := (.object zs7)) (by decide) rfl rfl (g := (mkF m 39 #[rv a430, iv p431, rv w59, rv w55] [(.ref w59), (.ref a430)])) rfl rfl (hb hby d3_39)
  refine own_via (fun t k => st457 t k) ?_
  have Fw457 : Fld Z h457 a430 zs1 "colour" zs6 (.ref w59) := F455.same W457
  have N457 := Fr.snoc X457 N454 pG_a430
  show own_Goes p e below (T457.setTop (mkF m 42 #[rv a430, iv p431, rv w59, rv w55] [])) _
  refine own_via (fun t k => XS.aloadN X457.here hx rfl (hb hby d3_42) rfl rfl (XS.aloadN X457.here hx rfl (hb hby d3_43) rfl rfl k)) ?_
  have F458 : Fld Z h457 a430 zs1 "result" zs3 .null := ((pF_a430_result.other W454 (Or.inr (slot_ne (Or.inr (wd hw 38 rfl)) (Or.inr (wd hw 36 rfl)) (by decide) (t := (.object zs2)) (t' := .int) (by decide) (by decide)))).other W457 (Or.inr (slot_ne (Or.inr (wd hw 38 rfl)) (Or.inr (wd hw 17 rfl)) (by decide) (t := (.object zs2)) (t' := (.object zs7)) (by decide) (by decide))))
  have E459 : Exa Z h457 a430 zs1 := (E456.wr W457)
  obtain ⟨T460, h460, X460, e460, W460, st460⟩ := putF X457 hx hZ hown (host := "") (Or.inl (wd hw 37 rfl)) Via.refl e457 F458 E459 (Or.inr ⟨(wd hw 38 rfl), rfl, hnm⟩) (wd hw 19 rfl) (ty := (.object zs2)) (by decide) rfl rfl (g := (mkF m 44 #[rv a430, iv p431, rv w59, rv w55] [(.ref w55), (.ref a430)])) rfl rfl (hb hby d3_44)
  refine own_via (fun t k => st460 t k) ?_
  have Fw460 : Fld Z h460 a430 zs1 "result" zs3 (.ref w55) := F458.same W460
  have N460 := Fr.snoc X460 N457 pG_a430
  show own_Goes p e below (T460.setTop (mkF m 47 #[rv a430, iv p431, rv w59, rv w55] [])) _
  obtain ⟨fs, hr, hrun, hended, hW, hsame⟩ := X460.leave (v := none) (fun _ => rfl)
  refine own_end (t := T460.setFrames fs) ?_ ⟨_, hrun, hended, _, _, rfl, ?_, ⟨_, rfl⟩, hW, hsame.mono (by decide) (by decide)⟩
  · exact X460.returnOut hx Bd.returns (hb hby d3_47) hr
  have E461 : Exa Z h460 a430 zs1 := (E459.wr W460)
  have F462 : Fld Z h460 a430 zs1 "colour" zs6 (.ref w59) := (Fw457.other W460 (Or.inr (slot_ne (Or.inr (wd hw 17 rfl)) (Or.inr (wd hw 38 rfl)) (by decide) (t := (.object zs7)) (t' := (.object zs2)) (by decide) (by decide))))
  have F463 : Fld Z h460 a430 zs1 "opponent" "I" (.int p431) := ((Fw454.other W457 (Or.inr (slot_ne (Or.inr (wd hw 36 rfl)) (Or.inr (wd hw 17 rfl)) (by decide) (t := .int) (t' := (.object zs7)) (by decide) (by decide)))).other W460 (Or.inr (slot_ne (Or.inr (wd hw 36 rfl)) (Or.inr (wd hw 38 rfl)) (by decide) (t := .int) (t' := (.object zs2)) (by decide) (by decide))))
  · show Q22 Z a430 p431 w59 w55 p432 h0 n0 _ T460.heap _
    rw [e460]
    exact ⟨rfl, N460, ((((Keep.refl h0 [a430]).wr W454 (Or.inl (List.mem_of_getElem? (i := 0) rfl))).wr W457 (Or.inl (List.mem_of_getElem? (i := 0) rfl))).wr W460 (Or.inl (List.mem_of_getElem? (i := 0) rfl))), E461, F462, F463, Fw460⟩
def Q23 (Z : State) (w55 : Addr) (h0 : Heap) (n0 : Nat) (v : Option Value) (h : Heap) (L : List Loc) : Prop := v = some (.int (1 : Int32)) ∧ Fr n0 L ∧ h = h0
set_option maxRecDepth 65536 in
set_option maxHeartbeats 40000000 in
theorem rm23 (l : Launch) (Z : State) (a0 : Array Value) (hw : ∀ d ∈ tables_1, d.before a0 Z = true) (ws : List Jvm.Cond) (w55 : Addr) (h0 : Heap) (n0 : Nat) (O0 : Old Z n0 h0) (SF_w55_game : Fld Z Z.heap w55 zs2 "game" "Z" (.int (1 : Int32))) :
    MetFree l (⟨zs2, "isGame", "()Z"⟩ : MethodName) (head1 (Jvm.Cond.code (⟨zs2, "isGame", "()Z"⟩ : MethodName) prog_43_method_7_code 1 (some .boolean) :: ws) ({ frames := 0, cells := 0, slots := 0, locals := 0 } : Room)) (fun a U => a = #[(.ref w55)] ∧ Z.Warmed39 U.vm ∧ U.heap = h0) (fun _ _ _ _ _ => True) (fun _ U o U' => ∃ v L, o = .returned v ∧ Q23 Z w55 h0 n0 v U'.heap L ∧ FrameEnd U o U' L ({ frames := 0, cells := 0, slots := 0, locals := 0 } : Room).cells ({ frames := 0, cells := 0, slots := 0, locals := 0 } : Room).slots) := by
  refine MetFree.of_bodySF (plainFor_of_name pn_5) hisR ?_
  intro p e s m args below meth c s₁ Bd hml0 hP hK
  obtain ⟨rfl, hZ, hh⟩ := hP
  have hx := Bd.exec
  have hby := Bd.bytes
  have hml : c.maxLocals = 1 := hml0
  have hown : s.vm.findClass zs2 = some m.cls := findClass_of_methodNamed Bd.named
  have hnm := (name_of_methodNamed Bd.named Bd.method).1
  have X0 : Stand p l e ({ frames := 0, cells := 0, slots := 0, locals := 0 } : Room) s m #[(.ref w55)] below meth c s₁ [] 0 0 := Stand.of_body Bd
  have e0 : s₁.heap = h0 := by rw [← hh, Bd.state]; rfl
  have N0 := Fr.nil n0
  refine own_out ?_
  refine own_via (fun t k => castTop (ef_7 m w55) (XS.aloadN X0.here hx rfl (hb hby d8_0) rfl rfl k)) ?_
  obtain ⟨T495, X495, e495, st495⟩ := getF X0 hx hZ hown (host := "") (Or.inl (wd hw 51 rfl)) Via.refl e0 (SF_w55_game.ext O0.2) (g := (mkF m 1 #[rv w55] [(.ref w55)])) rfl rfl (hb hby d8_1)
  refine own_via (fun t k => st495 t k) ?_
  obtain ⟨fs, hr, hrun, hended, hW, hsame⟩ := X495.leave (v := some (.int (1 : Int32))) (fun h => by rw [Bd.returns] at h; cases h)
  refine own_end (t := T495.setFrames fs) ?_ ⟨_, hrun, hended, _, _, rfl, ?_, ⟨_, rfl⟩, hW, hsame.mono (by decide) (by decide)⟩
  · exact retN X495 hx (t := .boolean) Bd.returns (by simp) (hb hby d8_4) hr
  · show Q23 Z w55 h0 n0 _ T495.heap _
    rw [e495]
    exact ⟨rfl, N0, rfl⟩
def Q24 (Z : State) (a474 : Addr) (p475 : Int32) (w55 : Addr) (h0 : Heap) (n0 : Nat) (v : Option Value) (h : Heap) (L : List Loc) : Prop := v = some (.int (1 : Int32)) ∧ Fr n0 L ∧ h = h0
set_option maxRecDepth 65536 in
set_option maxHeartbeats 40000000 in
theorem rm24 (l : Launch) (Z : State) (a0 : Array Value) (hw : ∀ d ∈ tables_1, d.before a0 Z = true) (ws : List Jvm.Cond) (a474 : Addr) (p475 : Int32) (w55 : Addr) (h0 : Heap) (n0 : Nat) (O0 : Old Z n0 h0) (pF_a474_opponent : Fld Z h0 a474 zs1 "opponent" "I" (.int p475)) (pC482 : ¬ (p475 = (0 : Int32))) (pF_a474_result : Fld Z h0 a474 zs1 "result" zs3 (.ref w55)) (SF_w55_game : Fld Z Z.heap w55 zs2 "game" "Z" (.int (1 : Int32))) (SE_w55 : Exa Z Z.heap w55 zs2) :
    MetFree l (⟨zs1, zs12, "()Z"⟩ : MethodName) (head1 (Jvm.Cond.code (⟨zs1, zs12, "()Z"⟩ : MethodName) prog_45_method_4_code 1 (some .boolean) :: ws) ({ frames := 1, cells := 0, slots := 0, locals := 12 } : Room)) (fun a U => a = #[(.ref a474)] ∧ Z.Warmed39 U.vm ∧ U.heap = h0) (fun _ _ _ _ _ => True) (fun _ U o U' => ∃ v L, o = .returned v ∧ Q24 Z a474 p475 w55 h0 n0 v U'.heap L ∧ FrameEnd U o U' L ({ frames := 1, cells := 0, slots := 0, locals := 12 } : Room).cells ({ frames := 1, cells := 0, slots := 0, locals := 12 } : Room).slots) := by
  refine MetFree.of_bodySF (plainFor_of_name pn_2) hisR ?_
  intro p e s m args below meth c s₁ Bd hml0 hP hK
  obtain ⟨rfl, hZ, hh⟩ := hP
  have hx := Bd.exec
  have hby := Bd.bytes
  have hml : c.maxLocals = 1 := hml0
  have hown : s.vm.findClass zs1 = some m.cls := findClass_of_methodNamed Bd.named
  have hnm := (name_of_methodNamed Bd.named Bd.method).1
  have X0 : Stand p l e ({ frames := 1, cells := 0, slots := 0, locals := 12 } : Room) s m #[(.ref a474)] below meth c s₁ [] 0 0 := Stand.of_body Bd
  have e0 : s₁.heap = h0 := by rw [← hh, Bd.state]; rfl
  have N0 := Fr.nil n0
  refine own_out ?_
  refine own_via (fun t k => castTop (ef_6 m a474) (XS.aloadN X0.here hx rfl (hb hby d7_0) rfl rfl k)) ?_
  obtain ⟨T483, X483, e483, st483⟩ := getF X0 hx hZ hown (host := "") (Or.inl (wd hw 35 rfl)) Via.refl e0 pF_a474_opponent (g := (mkF m 1 #[rv a474] [(.ref a474)])) rfl rfl (hb hby d7_1)
  refine own_via (fun t k => st483 t (XS.ifNo X483.here hx rfl (hb hby d7_4) rfl ((if0 _ _).trans (feq pC482).1) (XS.aloadN X483.here hx rfl (hb hby d7_7) rfl rfl k))) ?_
  show own_Goes p e below (T483.setTop (mkF m 8 #[rv a474] [(.ref a474)])) _
  obtain ⟨T484, X484, e484, st484⟩ := getF X483 hx hZ hown (host := "") (Or.inl (wd hw 37 rfl)) Via.refl e483 pF_a474_result (g := (mkF m 8 #[rv a474] [(.ref a474)])) rfl rfl (hb hby d7_8)
  refine own_via (fun t k => st484 t k) ?_
  obtain ⟨_, T485, _, X485, hQ485, st485⟩ := own_cv X484 hx hZ hown (wd hw 46 rfl) (wd hw 47 rfl) (wd hw 49 rfl) (wd hw 48 rfl) (wd hw 50 rfl) (wd hw 6 rfl) (by decide) (rm23 l Z a0 hw [] w55 h0 n0 O0 SF_w55_game) e484 (SE_w55.ext O0.2) (g := (mkF m 11 #[rv a474] [(.ref w55)])) rfl (by rw [hml]; rfl) (rest := []) (W := 0) (lenOf pd_6 rfl) rfl (by show 2 * 0 + _ ≤ _; exact Nat.le_of_eq rfl) (hb hby d7_11) (by decide) (by decide) (by decide) (by decide)
  obtain ⟨rfl, Nq485, hh496⟩ := hQ485
  have N485 := Fr.app N0 Nq485
  refine own_via (fun t k => st485 t (XS.ifNo X485.here hx rfl (hb hby d7_14) rfl ((if0 _ _).trans (feq (by decide : ¬ ((1 : Int32) = (0 : Int32)))).1) (XS.iconst X485.here hx rfl (hb hby d7_17) (XS.goto X485.here hx rfl (pc0 := 18) (pc' := 22) rfl (hb hby d7_18) (by decide) (by decide) k)))) ?_
  show own_Goes p e below (T485.setTop (mkF m 22 #[rv a474] [(.int (1 : Int32))])) _
  obtain ⟨fs, hr, hrun, hended, hW, hsame⟩ := X485.leave (v := some (.int (1 : Int32))) (fun h => by rw [Bd.returns] at h; cases h)
  refine own_end (t := T485.setFrames fs) ?_ ⟨_, hrun, hended, _, _, rfl, ?_, ⟨_, rfl⟩, hW, hsame.mono (by decide) (by decide)⟩
  · exact retN X485 hx (t := .boolean) Bd.returns (by simp) (hb hby d7_22) hr
  · show Q24 Z a474 p475 w55 h0 n0 _ T485.heap _
    rw [hh496]
    exact ⟨rfl, N485, rfl⟩
theorem d1_35 : decode method_2_code 35 = .ok (.iload_n 0, 1) := by decide +kernel
theorem d1_36 : decode method_2_code 36 = .ok (.iconst 4, 1) := by decide +kernel
theorem d1_37 : decode method_2_code 37 = .ok (.if_icmp .ne 7, 3) := by decide +kernel
theorem d1_40 : decode method_2_code 40 = .ok (.getstatic 22, 3) := by decide +kernel
theorem d1_43 : decode method_2_code 43 = .ok (.areturn, 1) := by decide +kernel
def Q25 (Z : State) (w64 : Addr) (h0 : Heap) (n0 : Nat) (v : Option Value) (h : Heap) (L : List Loc) : Prop := v = some (.ref w64) ∧ Fr n0 L ∧ h = h0
set_option maxRecDepth 65536 in
set_option maxHeartbeats 40000000 in
theorem rm25 (l : Launch) (Z : State) (a0 : Array Value) (hw : ∀ d ∈ tables_1, d.before a0 Z = true) (ws : List Jvm.Cond) (w64 : Addr) (h0 : Heap) (n0 : Nat) (O0 : Old Z n0 h0) (S_Result_UNRATED_DRAW : Sta Z Z.heap zs2 "UNRATED_DRAW" zs3 (.ref w64)) :
    MetFree l (⟨zs4, "pick", zs8⟩ : MethodName) (head1 (Jvm.Cond.code (⟨zs4, "pick", zs8⟩ : MethodName) method_2_code 1 (some (.object zs2)) :: ws) ({ frames := 0, cells := 0, slots := 0, locals := 0 } : Room)) (fun a U => a = #[(.int (4 : Int32))] ∧ Z.Warmed39 U.vm ∧ U.heap = h0) (fun _ _ _ _ _ => True) (fun _ U o U' => ∃ v L, o = .returned v ∧ Q25 Z w64 h0 n0 v U'.heap L ∧ FrameEnd U o U' L ({ frames := 0, cells := 0, slots := 0, locals := 0 } : Room).cells ({ frames := 0, cells := 0, slots := 0, locals := 0 } : Room).slots) := by
  refine MetFree.of_bodySF (plainFor_of_name pn_1) hisR ?_
  intro p e s m args below meth c s₁ Bd hml0 hP hK
  obtain ⟨rfl, hZ, hh⟩ := hP
  have hx := Bd.exec
  have hby := Bd.bytes
  have hml : c.maxLocals = 1 := hml0
  have hown : s.vm.findClass zs4 = some m.cls := findClass_of_methodNamed Bd.named
  have hnm := (name_of_methodNamed Bd.named Bd.method).1
  have X0 : Stand p l e ({ frames := 0, cells := 0, slots := 0, locals := 0 } : Room) s m #[(.int (4 : Int32))] below meth c s₁ [] 0 0 := Stand.of_body Bd
  have e0 : s₁.heap = h0 := by rw [← hh, Bd.state]; rfl
  have N0 := Fr.nil n0
  refine own_out ?_
  refine own_via (fun t k => castTop (ef_1 m (4 : Int32)) (XS.iloadN X0.here hx rfl (hb hby d1_0) rfl (XS.ifYes X0.here hx rfl (pc0 := 1) (pc' := 8) rfl (hb hby d1_1) rfl ((if0 _ _).trans (feq (by decide : ¬ ((4 : Int32) = (0 : Int32)))).2) (by decide) (by decide) (XS.iloadN X0.here hx rfl (hb hby d1_8) rfl (XS.iconst X0.here hx rfl (hb hby d1_9) (XS.icmpYes X0.here hx rfl (pc0 := 10) (pc' := 17) rfl (hb hby d1_10) rfl (feq (by decide : ¬ ((4 : Int32) = (1 : Int32)))).2 (by decide) (by decide) (XS.iloadN X0.here hx rfl (hb hby d1_17) rfl (XS.iconst X0.here hx rfl (hb hby d1_18) (XS.icmpYes X0.here hx rfl (pc0 := 19) (pc' := 26) rfl (hb hby d1_19) rfl (feq (by decide : ¬ ((4 : Int32) = (2 : Int32)))).2 (by decide) (by decide) (XS.iloadN X0.here hx rfl (hb hby d1_26) rfl (XS.iconst X0.here hx rfl (hb hby d1_27) (XS.icmpYes X0.here hx rfl (pc0 := 28) (pc' := 35) rfl (hb hby d1_28) rfl (feq (by decide : ¬ ((4 : Int32) = (3 : Int32)))).2 (by decide) (by decide) k)))))))))))) ?_
  show own_Goes p e below (s₁.setTop (mkF m 35 #[iv (4 : Int32)] [])) _
  refine own_via (fun t k => XS.iloadN X0.here hx rfl (hb hby d1_35) rfl (XS.iconst X0.here hx rfl (hb hby d1_36) (XS.icmpNo X0.here hx rfl (hb hby d1_37) rfl (teq (by decide : (4 : Int32) = (4 : Int32))).2 k))) ?_
  show own_Goes p e below (s₁.setTop (mkF m 40 #[iv (4 : Int32)] [])) _
  obtain ⟨T508, X508, e508, st508⟩ := getS2 X0 hx hZ hown (host := "") (Or.inl (wd hw 53 rfl)) Via.refl e0 (S_Result_UNRATED_DRAW.ext O0.2) (g := (mkF m 40 #[iv (4 : Int32)] [])) rfl (hb hby d1_40)
  refine own_via (fun t k => st508 t k) ?_
  obtain ⟨fs, hr, hrun, hended, hW, hsame⟩ := X508.leave (v := some (.ref w64)) (fun h => by rw [Bd.returns] at h; cases h)
  refine own_end (t := T508.setFrames fs) ?_ ⟨_, hrun, hended, _, _, rfl, ?_, ⟨_, rfl⟩, hW, hsame.mono (by decide) (by decide)⟩
  · jvm_step X508.here [X508.here.top, hx, (hb hby d1_43), X508.method', Bd.returns, Value.isRef, FieldType.isReference]
    first | (intro acts; rw [hr _ acts rfl rfl rfl]) | rw [hr _ _ rfl rfl rfl]
    exact Steps.refl _
  · show Q25 Z w64 h0 n0 _ T508.heap _
    rw [e508]
    exact ⟨rfl, N0, rfl⟩
def Q26 (Z : State) (w64 : Addr) (h0 : Heap) (n0 : Nat) (v : Option Value) (h : Heap) (L : List Loc) : Prop := v = some (.ref w64) ∧ Fr n0 L ∧ h = h0
set_option maxRecDepth 65536 in
set_option maxHeartbeats 40000000 in
theorem rm26 (l : Launch) (Z : State) (a0 : Array Value) (hw : ∀ d ∈ tables_1, d.before a0 Z = true) (ws : List Jvm.Cond) (w64 : Addr) (h0 : Heap) (n0 : Nat) (O0 : Old Z n0 h0) :
    MetFree l (⟨zs10, zs11, zs9⟩ : MethodName) (head1 (Jvm.Cond.code (⟨zs10, zs11, zs9⟩ : MethodName) jdk_31_method_10_code 1 (some (.object zs13)) :: ws) ({ frames := 0, cells := 0, slots := 0, locals := 0 } : Room)) (fun a U => a = #[(.ref w64)] ∧ Z.Warmed39 U.vm ∧ U.heap = h0) (fun _ _ _ _ _ => True) (fun _ U o U' => ∃ v L, o = .returned v ∧ Q26 Z w64 h0 n0 v U'.heap L ∧ FrameEnd U o U' L ({ frames := 0, cells := 0, slots := 0, locals := 0 } : Room).cells ({ frames := 0, cells := 0, slots := 0, locals := 0 } : Room).slots) := by
  refine MetFree.of_bodySF (plainFor_of_name pn_4) hisR ?_
  intro p e s m args below meth c s₁ Bd hml0 hP hK
  obtain ⟨rfl, hZ, hh⟩ := hP
  have hx := Bd.exec
  have hby := Bd.bytes
  have hml : c.maxLocals = 1 := hml0
  have hown : s.vm.findClass zs10 = some m.cls := findClass_of_methodNamed Bd.named
  have hnm := (name_of_methodNamed Bd.named Bd.method).1
  have X0 : Stand p l e ({ frames := 0, cells := 0, slots := 0, locals := 0 } : Room) s m #[(.ref w64)] below meth c s₁ [] 0 0 := Stand.of_body Bd
  have e0 : s₁.heap = h0 := by rw [← hh, Bd.state]; rfl
  have N0 := Fr.nil n0
  refine own_out ?_
  refine own_via (fun t k => castTop (ef_4 m w64) (XS.aloadN X0.here hx rfl (hb hby d6_0) rfl rfl (XS.ifnonnullYes X0.here hx rfl (pc0 := 1) (pc' := 12) rfl (hb hby d6_1) rfl (by decide) (by decide) (XS.aloadN X0.here hx rfl (hb hby d6_12) rfl rfl k)))) ?_
  show own_Goes p e below (s₁.setTop (mkF m 13 #[rv w64] [(.ref w64)])) _
  obtain ⟨fs, hr, hrun, hended, hW, hsame⟩ := X0.leave (v := some (.ref w64)) (fun h => by rw [Bd.returns] at h; cases h)
  refine own_end (t := s₁.setFrames fs) ?_ ⟨_, hrun, hended, _, _, rfl, ?_, ⟨_, rfl⟩, hW, hsame.mono (by decide) (by decide)⟩
  · jvm_step X0.here [X0.here.top, hx, (hb hby d6_13), X0.method', Bd.returns, Value.isRef, FieldType.isReference]
    first | (intro acts; rw [hr _ acts rfl rfl rfl]) | rw [hr _ _ rfl rfl rfl]
    exact Steps.refl _
  · show Q26 Z w64 h0 n0 _ s₁.heap _
    rw [e0]
    exact ⟨rfl, N0, rfl⟩
def Q27 (Z : State) (a521 : Addr) (p522 : Int32) (w59 : Addr) (w64 : Addr) (p523 : Int32) (h0 : Heap) (n0 : Nat) (v : Option Value) (h : Heap) (L : List Loc) : Prop := v = none ∧ Fr n0 L ∧ Keep h0 h [a521] ∧ Exa Z h a521 zs1 ∧ Fld Z h a521 zs1 "colour" zs6 (.ref w59) ∧ Fld Z h a521 zs1 "opponent" "I" (.int p522) ∧ Fld Z h a521 zs1 "result" zs3 (.ref w64)
set_option maxRecDepth 65536 in
set_option maxHeartbeats 40000000 in
theorem rm27 (l : Launch) (Z : State) (a0 : Array Value) (hw : ∀ d ∈ tables_1, d.before a0 Z = true) (ws : List Jvm.Cond) (a521 : Addr) (p522 : Int32) (w59 : Addr) (w64 : Addr) (p523 : Int32) (h0 : Heap) (n0 : Nat) (O0 : Old Z n0 h0) (pC524 : ¬ (p522 < (0 : Int32))) (pF_a521_opponent : Fld Z h0 a521 zs1 "opponent" "I" (.int p523)) (pE_a521 : Exa Z h0 a521 zs1) (pG_a521 : n0 ≤ a521) (pF_a521_colour : Fld Z h0 a521 zs1 "colour" zs6 .null) (pF_a521_result : Fld Z h0 a521 zs1 "result" zs3 .null) :
    MetFree l (⟨zs1, "<init>", zs5⟩ : MethodName) (head1 (Jvm.Cond.code (⟨zs1, "<init>", zs5⟩ : MethodName) prog_45_method_1_code 4 none :: ws) ({ frames := 2, cells := 0, slots := 0, locals := 24 } : Room)) (fun a U => a = #[(.ref a521), (.int p522), (.ref w59), (.ref w64)] ∧ Z.Warmed39 U.vm ∧ U.heap = h0) (fun _ _ _ _ _ => True) (fun _ U o U' => ∃ v L, o = .returned v ∧ Q27 Z a521 p522 w59 w64 p523 h0 n0 v U'.heap L ∧ FrameEnd U o U' L ({ frames := 2, cells := 0, slots := 0, locals := 24 } : Room).cells ({ frames := 2, cells := 0, slots := 0, locals := 24 } : Room).slots) := by
  refine MetFree.of_bodySF (plainFor_of_name pn_2) hisR ?_
  intro p e s m args below meth c s₁ Bd hml0 hP hK
  obtain ⟨rfl, hZ, hh⟩ := hP
  have hx := Bd.exec
  have hby := Bd.bytes
  have hml : c.maxLocals = 4 := hml0
  have hown : s.vm.findClass zs1 = some m.cls := findClass_of_methodNamed Bd.named
  have hnm := (name_of_methodNamed Bd.named Bd.method).1
  have X0 : Stand p l e ({ frames := 2, cells := 0, slots := 0, locals := 24 } : Room) s m #[(.ref a521), (.int p522), (.ref w59), (.ref w64)] below meth c s₁ [] 0 0 := Stand.of_body Bd
  have e0 : s₁.heap = h0 := by rw [← hh, Bd.state]; rfl
  have N0 := Fr.nil n0
  refine own_out ?_
  refine own_via (fun t k => castTop (ef_5 m a521 p522 w59 w64) (XS.aloadN X0.here hx rfl (hb hby d3_0) rfl rfl k)) ?_
  obtain ⟨_, T530, _, X530, hQ530, st530⟩ := own_ci X0 hx hZ hown (wd hw 23 rfl) (wd hw 24 rfl) (wd hw 27 rfl) (wd hw 26 rfl) rfl (by decide) (rm3 l Z a0 hw [] a521 h0 n0 O0 ) e0 (g := (mkF m 1 #[rv a521, iv p522, rv w59, rv w64] [(.ref a521)])) rfl (by rw [hml]; rfl) (rest := []) (W := 0) (lenOf pd_3 rfl) rfl (by show 2 * 0 + _ ≤ _; exact Nat.le_of_eq rfl) (hb hby d3_1) (by decide) (by decide) (by decide) (by decide)
  obtain ⟨rfl, Nq530, hh531⟩ := hQ530
  have N530 := Fr.app N0 Nq530
  refine own_via (fun t k => st530 t (XS.aloadN X530.here hx rfl (hb hby d3_4) rfl rfl k)) ?_
  obtain ⟨_, T532, _, X532, hQ532, st532⟩ := own_cs X530 hx hZ hown (wd hw 31 rfl) (wd hw 32 rfl) (wd hw 34 rfl) (wd hw 33 rfl) (by decide) (rm4 l Z a0 hw [] w59 h0 n0 O0 ) hh531 (g := (mkF m 5 #[rv a521, iv p522, rv w59, rv w64] [(.ref w59)])) rfl (by rw [hml]; rfl) (rest := []) (W := 0) (lenOf pd_4 rfl) rfl (by show 2 * 0 + _ ≤ _; exact Nat.le_of_eq rfl) (hb hby d3_5) (by decide) (by decide) (by decide) (by decide)
  obtain ⟨rfl, Nq532, hh533⟩ := hQ532
  have N532 := Fr.app N530 Nq532
  refine own_via (fun t k => st532 t (XS.pop X532.here hx rfl (hb hby d3_8) rfl rfl (XS.aloadN X532.here hx rfl (hb hby d3_9) rfl rfl k))) ?_
  show own_Goes p e below (T532.setTop (mkF m 10 #[rv a521, iv p522, rv w59, rv w64] [(.ref w64)])) _
  obtain ⟨_, T534, _, X534, hQ534, st534⟩ := own_cs X532 hx hZ hown (wd hw 31 rfl) (wd hw 32 rfl) (wd hw 34 rfl) (wd hw 33 rfl) (by decide) (rm26 l Z a0 hw [] w64 h0 n0 O0 ) hh533 (g := (mkF m 10 #[rv a521, iv p522, rv w59, rv w64] [(.ref w64)])) rfl (by rw [hml]; rfl) (rest := []) (W := 0) (lenOf pd_4 rfl) rfl (by show 2 * 0 + _ ≤ _; exact Nat.le_of_eq rfl) (hb hby d3_10) (by decide) (by decide) (by decide) (by decide)
  obtain ⟨rfl, Nq534, hh544⟩ := hQ534
  have N534 := Fr.app N532 Nq534
  refine own_via (fun t k => st534 t (XS.pop X534.here hx rfl (hb hby d3_13) rfl rfl (XS.iloadN X534.here hx rfl (hb hby d3_14) rfl (XS.ifYes X534.here hx rfl (pc0 := 15) (pc' := 32) rfl (hb hby d3_15) rfl ((if0 _ _).trans (flt pC524).2.1) (by decide) (by decide) (XS.aloadN X534.here hx rfl (hb hby d3_32) rfl rfl (XS.iloadN X534.here hx rfl (hb hby d3_33) rfl k)))))) ?_
  show own_Goes p e below (T534.setTop (mkF m 34 #[rv a521, iv p522, rv w59, rv w64] [(.int p522), (.ref a521)])) _
  obtain ⟨T545, h545, X545, e545, W545, st545⟩ := putF X534 hx hZ hown (host := "") (Or.inl (wd hw 35 rfl)) Via.refl hh544 pF_a521_opponent pE_a521 (Or.inr ⟨(wd hw 36 rfl), rfl, hnm⟩) (wd hw 19 rfl) (ty := .int) (by decide) rfl rfl (g := (mkF m 34 #[rv a521, iv p522, rv w59, rv w64] [(.int p522), (.ref a521)])) rfl rfl (hb hby d3_34)
  refine own_via (fun t k => st545 t k) ?_
  have Fw545 : Fld Z h545 a521 zs1 "opponent" "I" (.int p522) := pF_a521_opponent.same W545
  have N545 := Fr.snoc X545 N534 pG_a521
  show own_Goes p e below (T545.setTop (mkF m 37 #[rv a521, iv p522, rv w59, rv w64] [])) _
  refine own_via (fun t k => XS.aloadN X545.here hx rfl (hb hby d3_37) rfl rfl (XS.aloadN X545.here hx rfl (hb hby d3_38) rfl rfl k)) ?_
  have F546 : Fld Z h545 a521 zs1 "colour" zs6 .null := (pF_a521_colour.other W545 (Or.inr (slot_ne (Or.inr (wd hw 17 rfl)) (Or.inr (wd hw 36 rfl)) (by decide) (t := (.object zs7)) (t' := .int) (by decide) (by decide))))
  have E547 : Exa Z h545 a521 zs1 := (pE_a521.wr W545)
  obtain ⟨T548, h548, X548, e548, W548, st548⟩ := putF X545 hx hZ hown (host := "") (Or.inl (wd hw 16 rfl)) Via.refl e545 F546 E547 (Or.inr ⟨(wd hw 17 rfl), rfl, hnm⟩) (wd hw 19 rfl) (ty := (.object zs7)) (by decide) rfl rfl (g := (mkF m 39 #[rv a521, iv p522, rv w59, rv w64] [(.ref w59), (.ref a521)])) rfl rfl (hb hby d3_39)
  refine own_via (fun t k => st548 t k) ?_
  have Fw548 : Fld Z h548 a521 zs1 "colour" zs6 (.ref w59) := F546.same W548
  have N548 := Fr.snoc X548 N545 pG_a521
  show own_Goes p e below (T548.setTop (mkF m 42 #[rv a521, iv p522, rv w59, rv w64] [])) _
  refine own_via (fun t k => XS.aloadN X548.here hx rfl (hb hby d3_42) rfl rfl (XS.aloadN X548.here hx rfl (hb hby d3_43) rfl rfl k)) ?_
  have F549 : Fld Z h548 a521 zs1 "result" zs3 .null := ((pF_a521_result.other W545 (Or.inr (slot_ne (Or.inr (wd hw 38 rfl)) (Or.inr (wd hw 36 rfl)) (by decide) (t := (.object zs2)) (t' := .int) (by decide) (by decide)))).other W548 (Or.inr (slot_ne (Or.inr (wd hw 38 rfl)) (Or.inr (wd hw 17 rfl)) (by decide) (t := (.object zs2)) (t' := (.object zs7)) (by decide) (by decide))))
  have E550 : Exa Z h548 a521 zs1 := (E547.wr W548)
  obtain ⟨T551, h551, X551, e551, W551, st551⟩ := putF X548 hx hZ hown (host := "") (Or.inl (wd hw 37 rfl)) Via.refl e548 F549 E550 (Or.inr ⟨(wd hw 38 rfl), rfl, hnm⟩) (wd hw 19 rfl) (ty := (.object zs2)) (by decide) rfl rfl (g := (mkF m 44 #[rv a521, iv p522, rv w59, rv w64] [(.ref w64), (.ref a521)])) rfl rfl (hb hby d3_44)
  refine own_via (fun t k => st551 t k) ?_
  have Fw551 : Fld Z h551 a521 zs1 "result" zs3 (.ref w64) := F549.same W551
  have N551 := Fr.snoc X551 N548 pG_a521
  show own_Goes p e below (T551.setTop (mkF m 47 #[rv a521, iv p522, rv w59, rv w64] [])) _
  obtain ⟨fs, hr, hrun, hended, hW, hsame⟩ := X551.leave (v := none) (fun _ => rfl)
  refine own_end (t := T551.setFrames fs) ?_ ⟨_, hrun, hended, _, _, rfl, ?_, ⟨_, rfl⟩, hW, hsame.mono (by decide) (by decide)⟩
  · exact X551.returnOut hx Bd.returns (hb hby d3_47) hr
  have E552 : Exa Z h551 a521 zs1 := (E550.wr W551)
  have F553 : Fld Z h551 a521 zs1 "colour" zs6 (.ref w59) := (Fw548.other W551 (Or.inr (slot_ne (Or.inr (wd hw 17 rfl)) (Or.inr (wd hw 38 rfl)) (by decide) (t := (.object zs7)) (t' := (.object zs2)) (by decide) (by decide))))
  have F554 : Fld Z h551 a521 zs1 "opponent" "I" (.int p522) := ((Fw545.other W548 (Or.inr (slot_ne (Or.inr (wd hw 36 rfl)) (Or.inr (wd hw 17 rfl)) (by decide) (t := .int) (t' := (.object zs7)) (by decide) (by decide)))).other W551 (Or.inr (slot_ne (Or.inr (wd hw 36 rfl)) (Or.inr (wd hw 38 rfl)) (by decide) (t := .int) (t' := (.object zs2)) (by decide) (by decide))))
  · show Q27 Z a521 p522 w59 w64 p523 h0 n0 _ T551.heap _
    rw [e551]
    exact ⟨rfl, N551, ((((Keep.refl h0 [a521]).wr W545 (Or.inl (List.mem_of_getElem? (i := 0) rfl))).wr W548 (Or.inl (List.mem_of_getElem? (i := 0) rfl))).wr W551 (Or.inl (List.mem_of_getElem? (i := 0) rfl))), E552, F553, F554, Fw551⟩
def Q28 (Z : State) (w64 : Addr) (h0 : Heap) (n0 : Nat) (v : Option Value) (h : Heap) (L : List Loc) : Prop := v = some (.int (1 : Int32)) ∧ Fr n0 L ∧ h = h0
set_option maxRecDepth 65536 in
set_option maxHeartbeats 40000000 in
theorem rm28 (l : Launch) (Z : State) (a0 : Array Value) (hw : ∀ d ∈ tables_1, d.before a0 Z = true) (ws : List Jvm.Cond) (w64 : Addr) (h0 : Heap) (n0 : Nat) (O0 : Old Z n0 h0) (SF_w64_game : Fld Z Z.heap w64 zs2 "game" "Z" (.int (1 : Int32))) :
    MetFree l (⟨zs2, "isGame", "()Z"⟩ : MethodName) (head1 (Jvm.Cond.code (⟨zs2, "isGame", "()Z"⟩ : MethodName) prog_43_method_7_code 1 (some .boolean) :: ws) ({ frames := 0, cells := 0, slots := 0, locals := 0 } : Room)) (fun a U => a = #[(.ref w64)] ∧ Z.Warmed39 U.vm ∧ U.heap = h0) (fun _ _ _ _ _ => True) (fun _ U o U' => ∃ v L, o = .returned v ∧ Q28 Z w64 h0 n0 v U'.heap L ∧ FrameEnd U o U' L ({ frames := 0, cells := 0, slots := 0, locals := 0 } : Room).cells ({ frames := 0, cells := 0, slots := 0, locals := 0 } : Room).slots) := by
  refine MetFree.of_bodySF (plainFor_of_name pn_5) hisR ?_
  intro p e s m args below meth c s₁ Bd hml0 hP hK
  obtain ⟨rfl, hZ, hh⟩ := hP
  have hx := Bd.exec
  have hby := Bd.bytes
  have hml : c.maxLocals = 1 := hml0
  have hown : s.vm.findClass zs2 = some m.cls := findClass_of_methodNamed Bd.named
  have hnm := (name_of_methodNamed Bd.named Bd.method).1
  have X0 : Stand p l e ({ frames := 0, cells := 0, slots := 0, locals := 0 } : Room) s m #[(.ref w64)] below meth c s₁ [] 0 0 := Stand.of_body Bd
  have e0 : s₁.heap = h0 := by rw [← hh, Bd.state]; rfl
  have N0 := Fr.nil n0
  refine own_out ?_
  refine own_via (fun t k => castTop (ef_7 m w64) (XS.aloadN X0.here hx rfl (hb hby d8_0) rfl rfl k)) ?_
  obtain ⟨T586, X586, e586, st586⟩ := getF X0 hx hZ hown (host := "") (Or.inl (wd hw 51 rfl)) Via.refl e0 (SF_w64_game.ext O0.2) (g := (mkF m 1 #[rv w64] [(.ref w64)])) rfl rfl (hb hby d8_1)
  refine own_via (fun t k => st586 t k) ?_
  obtain ⟨fs, hr, hrun, hended, hW, hsame⟩ := X586.leave (v := some (.int (1 : Int32))) (fun h => by rw [Bd.returns] at h; cases h)
  refine own_end (t := T586.setFrames fs) ?_ ⟨_, hrun, hended, _, _, rfl, ?_, ⟨_, rfl⟩, hW, hsame.mono (by decide) (by decide)⟩
  · exact retN X586 hx (t := .boolean) Bd.returns (by simp) (hb hby d8_4) hr
  · show Q28 Z w64 h0 n0 _ T586.heap _
    rw [e586]
    exact ⟨rfl, N0, rfl⟩
def Q29 (Z : State) (a565 : Addr) (p566 : Int32) (w64 : Addr) (h0 : Heap) (n0 : Nat) (v : Option Value) (h : Heap) (L : List Loc) : Prop := v = some (.int (1 : Int32)) ∧ Fr n0 L ∧ h = h0
set_option maxRecDepth 65536 in
set_option maxHeartbeats 40000000 in
theorem rm29 (l : Launch) (Z : State) (a0 : Array Value) (hw : ∀ d ∈ tables_1, d.before a0 Z = true) (ws : List Jvm.Cond) (a565 : Addr) (p566 : Int32) (w64 : Addr) (h0 : Heap) (n0 : Nat) (O0 : Old Z n0 h0) (pF_a565_opponent : Fld Z h0 a565 zs1 "opponent" "I" (.int p566)) (pC573 : ¬ (p566 = (0 : Int32))) (pF_a565_result : Fld Z h0 a565 zs1 "result" zs3 (.ref w64)) (SF_w64_game : Fld Z Z.heap w64 zs2 "game" "Z" (.int (1 : Int32))) (SE_w64 : Exa Z Z.heap w64 zs2) :
    MetFree l (⟨zs1, zs12, "()Z"⟩ : MethodName) (head1 (Jvm.Cond.code (⟨zs1, zs12, "()Z"⟩ : MethodName) prog_45_method_4_code 1 (some .boolean) :: ws) ({ frames := 1, cells := 0, slots := 0, locals := 12 } : Room)) (fun a U => a = #[(.ref a565)] ∧ Z.Warmed39 U.vm ∧ U.heap = h0) (fun _ _ _ _ _ => True) (fun _ U o U' => ∃ v L, o = .returned v ∧ Q29 Z a565 p566 w64 h0 n0 v U'.heap L ∧ FrameEnd U o U' L ({ frames := 1, cells := 0, slots := 0, locals := 12 } : Room).cells ({ frames := 1, cells := 0, slots := 0, locals := 12 } : Room).slots) := by
  refine MetFree.of_bodySF (plainFor_of_name pn_2) hisR ?_
  intro p e s m args below meth c s₁ Bd hml0 hP hK
  obtain ⟨rfl, hZ, hh⟩ := hP
  have hx := Bd.exec
  have hby := Bd.bytes
  have hml : c.maxLocals = 1 := hml0
  have hown : s.vm.findClass zs1 = some m.cls := findClass_of_methodNamed Bd.named
  have hnm := (name_of_methodNamed Bd.named Bd.method).1
  have X0 : Stand p l e ({ frames := 1, cells := 0, slots := 0, locals := 12 } : Room) s m #[(.ref a565)] below meth c s₁ [] 0 0 := Stand.of_body Bd
  have e0 : s₁.heap = h0 := by rw [← hh, Bd.state]; rfl
  have N0 := Fr.nil n0
  refine own_out ?_
  refine own_via (fun t k => castTop (ef_6 m a565) (XS.aloadN X0.here hx rfl (hb hby d7_0) rfl rfl k)) ?_
  obtain ⟨T574, X574, e574, st574⟩ := getF X0 hx hZ hown (host := "") (Or.inl (wd hw 35 rfl)) Via.refl e0 pF_a565_opponent (g := (mkF m 1 #[rv a565] [(.ref a565)])) rfl rfl (hb hby d7_1)
  refine own_via (fun t k => st574 t (XS.ifNo X574.here hx rfl (hb hby d7_4) rfl ((if0 _ _).trans (feq pC573).1) (XS.aloadN X574.here hx rfl (hb hby d7_7) rfl rfl k))) ?_
  show own_Goes p e below (T574.setTop (mkF m 8 #[rv a565] [(.ref a565)])) _
  obtain ⟨T575, X575, e575, st575⟩ := getF X574 hx hZ hown (host := "") (Or.inl (wd hw 37 rfl)) Via.refl e574 pF_a565_result (g := (mkF m 8 #[rv a565] [(.ref a565)])) rfl rfl (hb hby d7_8)
  refine own_via (fun t k => st575 t k) ?_
  obtain ⟨_, T576, _, X576, hQ576, st576⟩ := own_cv X575 hx hZ hown (wd hw 46 rfl) (wd hw 47 rfl) (wd hw 49 rfl) (wd hw 48 rfl) (wd hw 50 rfl) (wd hw 6 rfl) (by decide) (rm28 l Z a0 hw [] w64 h0 n0 O0 SF_w64_game) e575 (SE_w64.ext O0.2) (g := (mkF m 11 #[rv a565] [(.ref w64)])) rfl (by rw [hml]; rfl) (rest := []) (W := 0) (lenOf pd_6 rfl) rfl (by show 2 * 0 + _ ≤ _; exact Nat.le_of_eq rfl) (hb hby d7_11) (by decide) (by decide) (by decide) (by decide)
  obtain ⟨rfl, Nq576, hh587⟩ := hQ576
  have N576 := Fr.app N0 Nq576
  refine own_via (fun t k => st576 t (XS.ifNo X576.here hx rfl (hb hby d7_14) rfl ((if0 _ _).trans (feq (by decide : ¬ ((1 : Int32) = (0 : Int32)))).1) (XS.iconst X576.here hx rfl (hb hby d7_17) (XS.goto X576.here hx rfl (pc0 := 18) (pc' := 22) rfl (hb hby d7_18) (by decide) (by decide) k)))) ?_
  show own_Goes p e below (T576.setTop (mkF m 22 #[rv a565] [(.int (1 : Int32))])) _
  obtain ⟨fs, hr, hrun, hended, hW, hsame⟩ := X576.leave (v := some (.int (1 : Int32))) (fun h => by rw [Bd.returns] at h; cases h)
  refine own_end (t := T576.setFrames fs) ?_ ⟨_, hrun, hended, _, _, rfl, ?_, ⟨_, rfl⟩, hW, hsame.mono (by decide) (by decide)⟩
  · exact retN X576 hx (t := .boolean) Bd.returns (by simp) (hb hby d7_22) hr
  · show Q29 Z a565 p566 w64 h0 n0 _ T576.heap _
    rw [hh587]
    exact ⟨rfl, N576, rfl⟩
theorem d1_44 : decode method_2_code 44 = .ok (.iload_n 0, 1) := by decide +kernel
theorem d1_45 : decode method_2_code 45 = .ok (.iconst 5, 1) := by decide +kernel
theorem d1_46 : decode method_2_code 46 = .ok (.if_icmp .ne 7, 3) := by decide +kernel
theorem d1_49 : decode method_2_code 49 = .ok (.getstatic 25, 3) := by decide +kernel
theorem d1_52 : decode method_2_code 52 = .ok (.areturn, 1) := by decide +kernel
def Q30 (Z : State) (w73 : Addr) (h0 : Heap) (n0 : Nat) (v : Option Value) (h : Heap) (L : List Loc) : Prop := v = some (.ref w73) ∧ Fr n0 L ∧ h = h0
set_option maxRecDepth 65536 in
set_option maxHeartbeats 40000000 in
theorem rm30 (l : Launch) (Z : State) (a0 : Array Value) (hw : ∀ d ∈ tables_1, d.before a0 Z = true) (ws : List Jvm.Cond) (w73 : Addr) (h0 : Heap) (n0 : Nat) (O0 : Old Z n0 h0) (S_Result_UNRATED_LOSS : Sta Z Z.heap zs2 "UNRATED_LOSS" zs3 (.ref w73)) :
    MetFree l (⟨zs4, "pick", zs8⟩ : MethodName) (head1 (Jvm.Cond.code (⟨zs4, "pick", zs8⟩ : MethodName) method_2_code 1 (some (.object zs2)) :: ws) ({ frames := 0, cells := 0, slots := 0, locals := 0 } : Room)) (fun a U => a = #[(.int (5 : Int32))] ∧ Z.Warmed39 U.vm ∧ U.heap = h0) (fun _ _ _ _ _ => True) (fun _ U o U' => ∃ v L, o = .returned v ∧ Q30 Z w73 h0 n0 v U'.heap L ∧ FrameEnd U o U' L ({ frames := 0, cells := 0, slots := 0, locals := 0 } : Room).cells ({ frames := 0, cells := 0, slots := 0, locals := 0 } : Room).slots) := by
  refine MetFree.of_bodySF (plainFor_of_name pn_1) hisR ?_
  intro p e s m args below meth c s₁ Bd hml0 hP hK
  obtain ⟨rfl, hZ, hh⟩ := hP
  have hx := Bd.exec
  have hby := Bd.bytes
  have hml : c.maxLocals = 1 := hml0
  have hown : s.vm.findClass zs4 = some m.cls := findClass_of_methodNamed Bd.named
  have hnm := (name_of_methodNamed Bd.named Bd.method).1
  have X0 : Stand p l e ({ frames := 0, cells := 0, slots := 0, locals := 0 } : Room) s m #[(.int (5 : Int32))] below meth c s₁ [] 0 0 := Stand.of_body Bd
  have e0 : s₁.heap = h0 := by rw [← hh, Bd.state]; rfl
  have N0 := Fr.nil n0
  refine own_out ?_
  refine own_via (fun t k => castTop (ef_1 m (5 : Int32)) (XS.iloadN X0.here hx rfl (hb hby d1_0) rfl (XS.ifYes X0.here hx rfl (pc0 := 1) (pc' := 8) rfl (hb hby d1_1) rfl ((if0 _ _).trans (feq (by decide : ¬ ((5 : Int32) = (0 : Int32)))).2) (by decide) (by decide) (XS.iloadN X0.here hx rfl (hb hby d1_8) rfl (XS.iconst X0.here hx rfl (hb hby d1_9) (XS.icmpYes X0.here hx rfl (pc0 := 10) (pc' := 17) rfl (hb hby d1_10) rfl (feq (by decide : ¬ ((5 : Int32) = (1 : Int32)))).2 (by decide) (by decide) (XS.iloadN X0.here hx rfl (hb hby d1_17) rfl (XS.iconst X0.here hx rfl (hb hby d1_18) (XS.icmpYes X0.here hx rfl (pc0 := 19) (pc' := 26) rfl (hb hby d1_19) rfl (feq (by decide : ¬ ((5 : Int32) = (2 : Int32)))).2 (by decide) (by decide) (XS.iloadN X0.here hx rfl (hb hby d1_26) rfl (XS.iconst X0.here hx rfl (hb hby d1_27) (XS.icmpYes X0.here hx rfl (pc0 := 28) (pc' := 35) rfl (hb hby d1_28) rfl (feq (by decide : ¬ ((5 : Int32) = (3 : Int32)))).2 (by decide) (by decide) k)))))))))))) ?_
  show own_Goes p e below (s₁.setTop (mkF m 35 #[iv (5 : Int32)] [])) _
  refine own_via (fun t k => XS.iloadN X0.here hx rfl (hb hby d1_35) rfl (XS.iconst X0.here hx rfl (hb hby d1_36) (XS.icmpYes X0.here hx rfl (pc0 := 37) (pc' := 44) rfl (hb hby d1_37) rfl (feq (by decide : ¬ ((5 : Int32) = (4 : Int32)))).2 (by decide) (by decide) (XS.iloadN X0.here hx rfl (hb hby d1_44) rfl (XS.iconst X0.here hx rfl (hb hby d1_45) (XS.icmpNo X0.here hx rfl (hb hby d1_46) rfl (teq (by decide : (5 : Int32) = (5 : Int32))).2 k)))))) ?_
  show own_Goes p e below (s₁.setTop (mkF m 49 #[iv (5 : Int32)] [])) _
  obtain ⟨T599, X599, e599, st599⟩ := getS2 X0 hx hZ hown (host := "") (Or.inl (wd hw 59 rfl)) Via.refl e0 (S_Result_UNRATED_LOSS.ext O0.2) (g := (mkF m 49 #[iv (5 : Int32)] [])) rfl (hb hby d1_49)
  refine own_via (fun t k => st599 t k) ?_
  obtain ⟨fs, hr, hrun, hended, hW, hsame⟩ := X599.leave (v := some (.ref w73)) (fun h => by rw [Bd.returns] at h; cases h)
  refine own_end (t := T599.setFrames fs) ?_ ⟨_, hrun, hended, _, _, rfl, ?_, ⟨_, rfl⟩, hW, hsame.mono (by decide) (by decide)⟩
  · jvm_step X599.here [X599.here.top, hx, (hb hby d1_52), X599.method', Bd.returns, Value.isRef, FieldType.isReference]
    first | (intro acts; rw [hr _ acts rfl rfl rfl]) | rw [hr _ _ rfl rfl rfl]
    exact Steps.refl _
  · show Q30 Z w73 h0 n0 _ T599.heap _
    rw [e599]
    exact ⟨rfl, N0, rfl⟩
def Q31 (Z : State) (w73 : Addr) (h0 : Heap) (n0 : Nat) (v : Option Value) (h : Heap) (L : List Loc) : Prop := v = some (.ref w73) ∧ Fr n0 L ∧ h = h0
set_option maxRecDepth 65536 in
set_option maxHeartbeats 40000000 in
theorem rm31 (l : Launch) (Z : State) (a0 : Array Value) (hw : ∀ d ∈ tables_1, d.before a0 Z = true) (ws : List Jvm.Cond) (w73 : Addr) (h0 : Heap) (n0 : Nat) (O0 : Old Z n0 h0) :
    MetFree l (⟨zs10, zs11, zs9⟩ : MethodName) (head1 (Jvm.Cond.code (⟨zs10, zs11, zs9⟩ : MethodName) jdk_31_method_10_code 1 (some (.object zs13)) :: ws) ({ frames := 0, cells := 0, slots := 0, locals := 0 } : Room)) (fun a U => a = #[(.ref w73)] ∧ Z.Warmed39 U.vm ∧ U.heap = h0) (fun _ _ _ _ _ => True) (fun _ U o U' => ∃ v L, o = .returned v ∧ Q31 Z w73 h0 n0 v U'.heap L ∧ FrameEnd U o U' L ({ frames := 0, cells := 0, slots := 0, locals := 0 } : Room).cells ({ frames := 0, cells := 0, slots := 0, locals := 0 } : Room).slots) := by
  refine MetFree.of_bodySF (plainFor_of_name pn_4) hisR ?_
  intro p e s m args below meth c s₁ Bd hml0 hP hK
  obtain ⟨rfl, hZ, hh⟩ := hP
  have hx := Bd.exec
  have hby := Bd.bytes
  have hml : c.maxLocals = 1 := hml0
  have hown : s.vm.findClass zs10 = some m.cls := findClass_of_methodNamed Bd.named
  have hnm := (name_of_methodNamed Bd.named Bd.method).1
  have X0 : Stand p l e ({ frames := 0, cells := 0, slots := 0, locals := 0 } : Room) s m #[(.ref w73)] below meth c s₁ [] 0 0 := Stand.of_body Bd
  have e0 : s₁.heap = h0 := by rw [← hh, Bd.state]; rfl
  have N0 := Fr.nil n0
  refine own_out ?_
  refine own_via (fun t k => castTop (ef_4 m w73) (XS.aloadN X0.here hx rfl (hb hby d6_0) rfl rfl (XS.ifnonnullYes X0.here hx rfl (pc0 := 1) (pc' := 12) rfl (hb hby d6_1) rfl (by decide) (by decide) (XS.aloadN X0.here hx rfl (hb hby d6_12) rfl rfl k)))) ?_
  show own_Goes p e below (s₁.setTop (mkF m 13 #[rv w73] [(.ref w73)])) _
  obtain ⟨fs, hr, hrun, hended, hW, hsame⟩ := X0.leave (v := some (.ref w73)) (fun h => by rw [Bd.returns] at h; cases h)
  refine own_end (t := s₁.setFrames fs) ?_ ⟨_, hrun, hended, _, _, rfl, ?_, ⟨_, rfl⟩, hW, hsame.mono (by decide) (by decide)⟩
  · jvm_step X0.here [X0.here.top, hx, (hb hby d6_13), X0.method', Bd.returns, Value.isRef, FieldType.isReference]
    first | (intro acts; rw [hr _ acts rfl rfl rfl]) | rw [hr _ _ rfl rfl rfl]
    exact Steps.refl _
  · show Q31 Z w73 h0 n0 _ s₁.heap _
    rw [e0]
    exact ⟨rfl, N0, rfl⟩
def Q32 (Z : State) (a612 : Addr) (p613 : Int32) (w59 : Addr) (w73 : Addr) (p614 : Int32) (h0 : Heap) (n0 : Nat) (v : Option Value) (h : Heap) (L : List Loc) : Prop := v = none ∧ Fr n0 L ∧ Keep h0 h [a612] ∧ Exa Z h a612 zs1 ∧ Fld Z h a612 zs1 "colour" zs6 (.ref w59) ∧ Fld Z h a612 zs1 "opponent" "I" (.int p613) ∧ Fld Z h a612 zs1 "result" zs3 (.ref w73)
set_option maxRecDepth 65536 in
set_option maxHeartbeats 40000000 in
theorem rm32 (l : Launch) (Z : State) (a0 : Array Value) (hw : ∀ d ∈ tables_1, d.before a0 Z = true) (ws : List Jvm.Cond) (a612 : Addr) (p613 : Int32) (w59 : Addr) (w73 : Addr) (p614 : Int32) (h0 : Heap) (n0 : Nat) (O0 : Old Z n0 h0) (pC615 : ¬ (p613 < (0 : Int32))) (pF_a612_opponent : Fld Z h0 a612 zs1 "opponent" "I" (.int p614)) (pE_a612 : Exa Z h0 a612 zs1) (pG_a612 : n0 ≤ a612) (pF_a612_colour : Fld Z h0 a612 zs1 "colour" zs6 .null) (pF_a612_result : Fld Z h0 a612 zs1 "result" zs3 .null) :
    MetFree l (⟨zs1, "<init>", zs5⟩ : MethodName) (head1 (Jvm.Cond.code (⟨zs1, "<init>", zs5⟩ : MethodName) prog_45_method_1_code 4 none :: ws) ({ frames := 2, cells := 0, slots := 0, locals := 24 } : Room)) (fun a U => a = #[(.ref a612), (.int p613), (.ref w59), (.ref w73)] ∧ Z.Warmed39 U.vm ∧ U.heap = h0) (fun _ _ _ _ _ => True) (fun _ U o U' => ∃ v L, o = .returned v ∧ Q32 Z a612 p613 w59 w73 p614 h0 n0 v U'.heap L ∧ FrameEnd U o U' L ({ frames := 2, cells := 0, slots := 0, locals := 24 } : Room).cells ({ frames := 2, cells := 0, slots := 0, locals := 24 } : Room).slots) := by
  refine MetFree.of_bodySF (plainFor_of_name pn_2) hisR ?_
  intro p e s m args below meth c s₁ Bd hml0 hP hK
  obtain ⟨rfl, hZ, hh⟩ := hP
  have hx := Bd.exec
  have hby := Bd.bytes
  have hml : c.maxLocals = 4 := hml0
  have hown : s.vm.findClass zs1 = some m.cls := findClass_of_methodNamed Bd.named
  have hnm := (name_of_methodNamed Bd.named Bd.method).1
  have X0 : Stand p l e ({ frames := 2, cells := 0, slots := 0, locals := 24 } : Room) s m #[(.ref a612), (.int p613), (.ref w59), (.ref w73)] below meth c s₁ [] 0 0 := Stand.of_body Bd
  have e0 : s₁.heap = h0 := by rw [← hh, Bd.state]; rfl
  have N0 := Fr.nil n0
  refine own_out ?_
  refine own_via (fun t k => castTop (ef_5 m a612 p613 w59 w73) (XS.aloadN X0.here hx rfl (hb hby d3_0) rfl rfl k)) ?_
  obtain ⟨_, T621, _, X621, hQ621, st621⟩ := own_ci X0 hx hZ hown (wd hw 23 rfl) (wd hw 24 rfl) (wd hw 27 rfl) (wd hw 26 rfl) rfl (by decide) (rm3 l Z a0 hw [] a612 h0 n0 O0 ) e0 (g := (mkF m 1 #[rv a612, iv p613, rv w59, rv w73] [(.ref a612)])) rfl (by rw [hml]; rfl) (rest := []) (W := 0) (lenOf pd_3 rfl) rfl (by show 2 * 0 + _ ≤ _; exact Nat.le_of_eq rfl) (hb hby d3_1) (by decide) (by decide) (by decide) (by decide)
  obtain ⟨rfl, Nq621, hh622⟩ := hQ621
  have N621 := Fr.app N0 Nq621
  refine own_via (fun t k => st621 t (XS.aloadN X621.here hx rfl (hb hby d3_4) rfl rfl k)) ?_
  obtain ⟨_, T623, _, X623, hQ623, st623⟩ := own_cs X621 hx hZ hown (wd hw 31 rfl) (wd hw 32 rfl) (wd hw 34 rfl) (wd hw 33 rfl) (by decide) (rm4 l Z a0 hw [] w59 h0 n0 O0 ) hh622 (g := (mkF m 5 #[rv a612, iv p613, rv w59, rv w73] [(.ref w59)])) rfl (by rw [hml]; rfl) (rest := []) (W := 0) (lenOf pd_4 rfl) rfl (by show 2 * 0 + _ ≤ _; exact Nat.le_of_eq rfl) (hb hby d3_5) (by decide) (by decide) (by decide) (by decide)
  obtain ⟨rfl, Nq623, hh624⟩ := hQ623
  have N623 := Fr.app N621 Nq623
  refine own_via (fun t k => st623 t (XS.pop X623.here hx rfl (hb hby d3_8) rfl rfl (XS.aloadN X623.here hx rfl (hb hby d3_9) rfl rfl k))) ?_
  show own_Goes p e below (T623.setTop (mkF m 10 #[rv a612, iv p613, rv w59, rv w73] [(.ref w73)])) _
  obtain ⟨_, T625, _, X625, hQ625, st625⟩ := own_cs X623 hx hZ hown (wd hw 31 rfl) (wd hw 32 rfl) (wd hw 34 rfl) (wd hw 33 rfl) (by decide) (rm31 l Z a0 hw [] w73 h0 n0 O0 ) hh624 (g := (mkF m 10 #[rv a612, iv p613, rv w59, rv w73] [(.ref w73)])) rfl (by rw [hml]; rfl) (rest := []) (W := 0) (lenOf pd_4 rfl) rfl (by show 2 * 0 + _ ≤ _; exact Nat.le_of_eq rfl) (hb hby d3_10) (by decide) (by decide) (by decide) (by decide)
  obtain ⟨rfl, Nq625, hh635⟩ := hQ625
  have N625 := Fr.app N623 Nq625
  refine own_via (fun t k => st625 t (XS.pop X625.here hx rfl (hb hby d3_13) rfl rfl (XS.iloadN X625.here hx rfl (hb hby d3_14) rfl (XS.ifYes X625.here hx rfl (pc0 := 15) (pc' := 32) rfl (hb hby d3_15) rfl ((if0 _ _).trans (flt pC615).2.1) (by decide) (by decide) (XS.aloadN X625.here hx rfl (hb hby d3_32) rfl rfl (XS.iloadN X625.here hx rfl (hb hby d3_33) rfl k)))))) ?_
  show own_Goes p e below (T625.setTop (mkF m 34 #[rv a612, iv p613, rv w59, rv w73] [(.int p613), (.ref a612)])) _
  obtain ⟨T636, h636, X636, e636, W636, st636⟩ := putF X625 hx hZ hown (host := "") (Or.inl (wd hw 35 rfl)) Via.refl hh635 pF_a612_opponent pE_a612 (Or.inr ⟨(wd hw 36 rfl), rfl, hnm⟩) (wd hw 19 rfl) (ty := .int) (by decide) rfl rfl (g := (mkF m 34 #[rv a612, iv p613, rv w59, rv w73] [(.int p613), (.ref a612)])) rfl rfl (hb hby d3_34)
  refine own_via (fun t k => st636 t k) ?_
  have Fw636 : Fld Z h636 a612 zs1 "opponent" "I" (.int p613) := pF_a612_opponent.same W636
  have N636 := Fr.snoc X636 N625 pG_a612
  show own_Goes p e below (T636.setTop (mkF m 37 #[rv a612, iv p613, rv w59, rv w73] [])) _
  refine own_via (fun t k => XS.aloadN X636.here hx rfl (hb hby d3_37) rfl rfl (XS.aloadN X636.here hx rfl (hb hby d3_38) rfl rfl k)) ?_
  have F637 : Fld Z h636 a612 zs1 "colour" zs6 .null := (pF_a612_colour.other W636 (Or.inr (slot_ne (Or.inr (wd hw 17 rfl)) (Or.inr (wd hw 36 rfl)) (by decide) (t := (.object zs7)) (t' := .int) (by decide) (by decide))))
  have E638 : Exa Z h636 a612 zs1 := (pE_a612.wr W636)
  obtain ⟨T639, h639, X639, e639, W639, st639⟩ := putF X636 hx hZ hown (host := "") (Or.inl (wd hw 16 rfl)) Via.refl e636 F637 E638 (Or.inr ⟨(wd hw 17 rfl), rfl, hnm⟩) (wd hw 19 rfl) (ty := (.object zs7)) (by decide) rfl rfl (g := (mkF m 39 #[rv a612, iv p613, rv w59, rv w73] [(.ref w59), (.ref a612)])) rfl rfl (hb hby d3_39)
  refine own_via (fun t k => st639 t k) ?_
  have Fw639 : Fld Z h639 a612 zs1 "colour" zs6 (.ref w59) := F637.same W639
  have N639 := Fr.snoc X639 N636 pG_a612
  show own_Goes p e below (T639.setTop (mkF m 42 #[rv a612, iv p613, rv w59, rv w73] [])) _
  refine own_via (fun t k => XS.aloadN X639.here hx rfl (hb hby d3_42) rfl rfl (XS.aloadN X639.here hx rfl (hb hby d3_43) rfl rfl k)) ?_
  have F640 : Fld Z h639 a612 zs1 "result" zs3 .null := ((pF_a612_result.other W636 (Or.inr (slot_ne (Or.inr (wd hw 38 rfl)) (Or.inr (wd hw 36 rfl)) (by decide) (t := (.object zs2)) (t' := .int) (by decide) (by decide)))).other W639 (Or.inr (slot_ne (Or.inr (wd hw 38 rfl)) (Or.inr (wd hw 17 rfl)) (by decide) (t := (.object zs2)) (t' := (.object zs7)) (by decide) (by decide))))
  have E641 : Exa Z h639 a612 zs1 := (E638.wr W639)
  obtain ⟨T642, h642, X642, e642, W642, st642⟩ := putF X639 hx hZ hown (host := "") (Or.inl (wd hw 37 rfl)) Via.refl e639 F640 E641 (Or.inr ⟨(wd hw 38 rfl), rfl, hnm⟩) (wd hw 19 rfl) (ty := (.object zs2)) (by decide) rfl rfl (g := (mkF m 44 #[rv a612, iv p613, rv w59, rv w73] [(.ref w73), (.ref a612)])) rfl rfl (hb hby d3_44)
  refine own_via (fun t k => st642 t k) ?_
  have Fw642 : Fld Z h642 a612 zs1 "result" zs3 (.ref w73) := F640.same W642
  have N642 := Fr.snoc X642 N639 pG_a612
  show own_Goes p e below (T642.setTop (mkF m 47 #[rv a612, iv p613, rv w59, rv w73] [])) _
  obtain ⟨fs, hr, hrun, hended, hW, hsame⟩ := X642.leave (v := none) (fun _ => rfl)
  refine own_end (t := T642.setFrames fs) ?_ ⟨_, hrun, hended, _, _, rfl, ?_, ⟨_, rfl⟩, hW, hsame.mono (by decide) (by decide)⟩
  · exact X642.returnOut hx Bd.returns (hb hby d3_47) hr
  have E643 : Exa Z h642 a612 zs1 := (E641.wr W642)
  have F644 : Fld Z h642 a612 zs1 "colour" zs6 (.ref w59) := (Fw639.other W642 (Or.inr (slot_ne (Or.inr (wd hw 17 rfl)) (Or.inr (wd hw 38 rfl)) (by decide) (t := (.object zs7)) (t' := (.object zs2)) (by decide) (by decide))))
  have F645 : Fld Z h642 a612 zs1 "opponent" "I" (.int p613) := ((Fw636.other W639 (Or.inr (slot_ne (Or.inr (wd hw 36 rfl)) (Or.inr (wd hw 17 rfl)) (by decide) (t := .int) (t' := (.object zs7)) (by decide) (by decide)))).other W642 (Or.inr (slot_ne (Or.inr (wd hw 36 rfl)) (Or.inr (wd hw 38 rfl)) (by decide) (t := .int) (t' := (.object zs2)) (by decide) (by decide))))
  · show Q32 Z a612 p613 w59 w73 p614 h0 n0 _ T642.heap _
    rw [e642]
    exact ⟨rfl, N642, ((((Keep.refl h0 [a612]).wr W636 (Or.inl (List.mem_of_getElem? (i := 0) rfl))).wr W639 (Or.inl (List.mem_of_getElem? (i := 0) rfl))).wr W642 (Or.inl (List.mem_of_getElem? (i := 0) rfl))), E643, F644, F645, Fw642⟩
def Q33 (Z : State) (w73 : Addr) (h0 : Heap) (n0 : Nat) (v : Option Value) (h : Heap) (L : List Loc) : Prop := v = some (.int (1 : Int32)) ∧ Fr n0 L ∧ h = h0
set_option maxRecDepth 65536 in
set_option maxHeartbeats 40000000 in
theorem rm33 (l : Launch) (Z : State) (a0 : Array Value) (hw : ∀ d ∈ tables_1, d.before a0 Z = true) (ws : List Jvm.Cond) (w73 : Addr) (h0 : Heap) (n0 : Nat) (O0 : Old Z n0 h0) (SF_w73_game : Fld Z Z.heap w73 zs2 "game" "Z" (.int (1 : Int32))) :
    MetFree l (⟨zs2, "isGame", "()Z"⟩ : MethodName) (head1 (Jvm.Cond.code (⟨zs2, "isGame", "()Z"⟩ : MethodName) prog_43_method_7_code 1 (some .boolean) :: ws) ({ frames := 0, cells := 0, slots := 0, locals := 0 } : Room)) (fun a U => a = #[(.ref w73)] ∧ Z.Warmed39 U.vm ∧ U.heap = h0) (fun _ _ _ _ _ => True) (fun _ U o U' => ∃ v L, o = .returned v ∧ Q33 Z w73 h0 n0 v U'.heap L ∧ FrameEnd U o U' L ({ frames := 0, cells := 0, slots := 0, locals := 0 } : Room).cells ({ frames := 0, cells := 0, slots := 0, locals := 0 } : Room).slots) := by
  refine MetFree.of_bodySF (plainFor_of_name pn_5) hisR ?_
  intro p e s m args below meth c s₁ Bd hml0 hP hK
  obtain ⟨rfl, hZ, hh⟩ := hP
  have hx := Bd.exec
  have hby := Bd.bytes
  have hml : c.maxLocals = 1 := hml0
  have hown : s.vm.findClass zs2 = some m.cls := findClass_of_methodNamed Bd.named
  have hnm := (name_of_methodNamed Bd.named Bd.method).1
  have X0 : Stand p l e ({ frames := 0, cells := 0, slots := 0, locals := 0 } : Room) s m #[(.ref w73)] below meth c s₁ [] 0 0 := Stand.of_body Bd
  have e0 : s₁.heap = h0 := by rw [← hh, Bd.state]; rfl
  have N0 := Fr.nil n0
  refine own_out ?_
  refine own_via (fun t k => castTop (ef_7 m w73) (XS.aloadN X0.here hx rfl (hb hby d8_0) rfl rfl k)) ?_
  obtain ⟨T677, X677, e677, st677⟩ := getF X0 hx hZ hown (host := "") (Or.inl (wd hw 51 rfl)) Via.refl e0 (SF_w73_game.ext O0.2) (g := (mkF m 1 #[rv w73] [(.ref w73)])) rfl rfl (hb hby d8_1)
  refine own_via (fun t k => st677 t k) ?_
  obtain ⟨fs, hr, hrun, hended, hW, hsame⟩ := X677.leave (v := some (.int (1 : Int32))) (fun h => by rw [Bd.returns] at h; cases h)
  refine own_end (t := T677.setFrames fs) ?_ ⟨_, hrun, hended, _, _, rfl, ?_, ⟨_, rfl⟩, hW, hsame.mono (by decide) (by decide)⟩
  · exact retN X677 hx (t := .boolean) Bd.returns (by simp) (hb hby d8_4) hr
  · show Q33 Z w73 h0 n0 _ T677.heap _
    rw [e677]
    exact ⟨rfl, N0, rfl⟩
def Q34 (Z : State) (a656 : Addr) (p657 : Int32) (w73 : Addr) (h0 : Heap) (n0 : Nat) (v : Option Value) (h : Heap) (L : List Loc) : Prop := v = some (.int (1 : Int32)) ∧ Fr n0 L ∧ h = h0
set_option maxRecDepth 65536 in
set_option maxHeartbeats 40000000 in
theorem rm34 (l : Launch) (Z : State) (a0 : Array Value) (hw : ∀ d ∈ tables_1, d.before a0 Z = true) (ws : List Jvm.Cond) (a656 : Addr) (p657 : Int32) (w73 : Addr) (h0 : Heap) (n0 : Nat) (O0 : Old Z n0 h0) (pF_a656_opponent : Fld Z h0 a656 zs1 "opponent" "I" (.int p657)) (pC664 : ¬ (p657 = (0 : Int32))) (pF_a656_result : Fld Z h0 a656 zs1 "result" zs3 (.ref w73)) (SF_w73_game : Fld Z Z.heap w73 zs2 "game" "Z" (.int (1 : Int32))) (SE_w73 : Exa Z Z.heap w73 zs2) :
    MetFree l (⟨zs1, zs12, "()Z"⟩ : MethodName) (head1 (Jvm.Cond.code (⟨zs1, zs12, "()Z"⟩ : MethodName) prog_45_method_4_code 1 (some .boolean) :: ws) ({ frames := 1, cells := 0, slots := 0, locals := 12 } : Room)) (fun a U => a = #[(.ref a656)] ∧ Z.Warmed39 U.vm ∧ U.heap = h0) (fun _ _ _ _ _ => True) (fun _ U o U' => ∃ v L, o = .returned v ∧ Q34 Z a656 p657 w73 h0 n0 v U'.heap L ∧ FrameEnd U o U' L ({ frames := 1, cells := 0, slots := 0, locals := 12 } : Room).cells ({ frames := 1, cells := 0, slots := 0, locals := 12 } : Room).slots) := by
  refine MetFree.of_bodySF (plainFor_of_name pn_2) hisR ?_
  intro p e s m args below meth c s₁ Bd hml0 hP hK
  obtain ⟨rfl, hZ, hh⟩ := hP
  have hx := Bd.exec
  have hby := Bd.bytes
  have hml : c.maxLocals = 1 := hml0
  have hown : s.vm.findClass zs1 = some m.cls := findClass_of_methodNamed Bd.named
  have hnm := (name_of_methodNamed Bd.named Bd.method).1
  have X0 : Stand p l e ({ frames := 1, cells := 0, slots := 0, locals := 12 } : Room) s m #[(.ref a656)] below meth c s₁ [] 0 0 := Stand.of_body Bd
  have e0 : s₁.heap = h0 := by rw [← hh, Bd.state]; rfl
  have N0 := Fr.nil n0
  refine own_out ?_
  refine own_via (fun t k => castTop (ef_6 m a656) (XS.aloadN X0.here hx rfl (hb hby d7_0) rfl rfl k)) ?_
  obtain ⟨T665, X665, e665, st665⟩ := getF X0 hx hZ hown (host := "") (Or.inl (wd hw 35 rfl)) Via.refl e0 pF_a656_opponent (g := (mkF m 1 #[rv a656] [(.ref a656)])) rfl rfl (hb hby d7_1)
  refine own_via (fun t k => st665 t (XS.ifNo X665.here hx rfl (hb hby d7_4) rfl ((if0 _ _).trans (feq pC664).1) (XS.aloadN X665.here hx rfl (hb hby d7_7) rfl rfl k))) ?_
  show own_Goes p e below (T665.setTop (mkF m 8 #[rv a656] [(.ref a656)])) _
  obtain ⟨T666, X666, e666, st666⟩ := getF X665 hx hZ hown (host := "") (Or.inl (wd hw 37 rfl)) Via.refl e665 pF_a656_result (g := (mkF m 8 #[rv a656] [(.ref a656)])) rfl rfl (hb hby d7_8)
  refine own_via (fun t k => st666 t k) ?_
  obtain ⟨_, T667, _, X667, hQ667, st667⟩ := own_cv X666 hx hZ hown (wd hw 46 rfl) (wd hw 47 rfl) (wd hw 49 rfl) (wd hw 48 rfl) (wd hw 50 rfl) (wd hw 6 rfl) (by decide) (rm33 l Z a0 hw [] w73 h0 n0 O0 SF_w73_game) e666 (SE_w73.ext O0.2) (g := (mkF m 11 #[rv a656] [(.ref w73)])) rfl (by rw [hml]; rfl) (rest := []) (W := 0) (lenOf pd_6 rfl) rfl (by show 2 * 0 + _ ≤ _; exact Nat.le_of_eq rfl) (hb hby d7_11) (by decide) (by decide) (by decide) (by decide)
  obtain ⟨rfl, Nq667, hh678⟩ := hQ667
  have N667 := Fr.app N0 Nq667
  refine own_via (fun t k => st667 t (XS.ifNo X667.here hx rfl (hb hby d7_14) rfl ((if0 _ _).trans (feq (by decide : ¬ ((1 : Int32) = (0 : Int32)))).1) (XS.iconst X667.here hx rfl (hb hby d7_17) (XS.goto X667.here hx rfl (pc0 := 18) (pc' := 22) rfl (hb hby d7_18) (by decide) (by decide) k)))) ?_
  show own_Goes p e below (T667.setTop (mkF m 22 #[rv a656] [(.int (1 : Int32))])) _
  obtain ⟨fs, hr, hrun, hended, hW, hsame⟩ := X667.leave (v := some (.int (1 : Int32))) (fun h => by rw [Bd.returns] at h; cases h)
  refine own_end (t := T667.setFrames fs) ?_ ⟨_, hrun, hended, _, _, rfl, ?_, ⟨_, rfl⟩, hW, hsame.mono (by decide) (by decide)⟩
  · exact retN X667 hx (t := .boolean) Bd.returns (by simp) (hb hby d7_22) hr
  · show Q34 Z a656 p657 w73 h0 n0 _ T667.heap _
    rw [hh678]
    exact ⟨rfl, N667, rfl⟩
theorem d1_53 : decode method_2_code 53 = .ok (.iload_n 0, 1) := by decide +kernel
theorem d1_54 : decode method_2_code 54 = .ok (.bipush 6, 2) := by decide +kernel
theorem d1_56 : decode method_2_code 56 = .ok (.if_icmp .ne 7, 3) := by decide +kernel
theorem d1_59 : decode method_2_code 59 = .ok (.getstatic 28, 3) := by decide +kernel
theorem d1_62 : decode method_2_code 62 = .ok (.areturn, 1) := by decide +kernel
def Q35 (Z : State) (w79 : Addr) (h0 : Heap) (n0 : Nat) (v : Option Value) (h : Heap) (L : List Loc) : Prop := v = some (.ref w79) ∧ Fr n0 L ∧ h = h0
set_option maxRecDepth 65536 in
set_option maxHeartbeats 40000000 in
theorem rm35 (l : Launch) (Z : State) (a0 : Array Value) (hw : ∀ d ∈ tables_1, d.before a0 Z = true) (ws : List Jvm.Cond) (w79 : Addr) (h0 : Heap) (n0 : Nat) (O0 : Old Z n0 h0) (S_Result_FORFEIT_WIN : Sta Z Z.heap zs2 "FORFEIT_WIN" zs3 (.ref w79)) :
    MetFree l (⟨zs4, "pick", zs8⟩ : MethodName) (head1 (Jvm.Cond.code (⟨zs4, "pick", zs8⟩ : MethodName) method_2_code 1 (some (.object zs2)) :: ws) ({ frames := 0, cells := 0, slots := 0, locals := 0 } : Room)) (fun a U => a = #[(.int (6 : Int32))] ∧ Z.Warmed39 U.vm ∧ U.heap = h0) (fun _ _ _ _ _ => True) (fun _ U o U' => ∃ v L, o = .returned v ∧ Q35 Z w79 h0 n0 v U'.heap L ∧ FrameEnd U o U' L ({ frames := 0, cells := 0, slots := 0, locals := 0 } : Room).cells ({ frames := 0, cells := 0, slots := 0, locals := 0 } : Room).slots) := by
  refine MetFree.of_bodySF (plainFor_of_name pn_1) hisR ?_
  intro p e s m args below meth c s₁ Bd hml0 hP hK
  obtain ⟨rfl, hZ, hh⟩ := hP
  have hx := Bd.exec
  have hby := Bd.bytes
  have hml : c.maxLocals = 1 := hml0
  have hown : s.vm.findClass zs4 = some m.cls := findClass_of_methodNamed Bd.named
  have hnm := (name_of_methodNamed Bd.named Bd.method).1
  have X0 : Stand p l e ({ frames := 0, cells := 0, slots := 0, locals := 0 } : Room) s m #[(.int (6 : Int32))] below meth c s₁ [] 0 0 := Stand.of_body Bd
  have e0 : s₁.heap = h0 := by rw [← hh, Bd.state]; rfl
  have N0 := Fr.nil n0
  refine own_out ?_
  refine own_via (fun t k => castTop (ef_1 m (6 : Int32)) (XS.iloadN X0.here hx rfl (hb hby d1_0) rfl (XS.ifYes X0.here hx rfl (pc0 := 1) (pc' := 8) rfl (hb hby d1_1) rfl ((if0 _ _).trans (feq (by decide : ¬ ((6 : Int32) = (0 : Int32)))).2) (by decide) (by decide) (XS.iloadN X0.here hx rfl (hb hby d1_8) rfl (XS.iconst X0.here hx rfl (hb hby d1_9) (XS.icmpYes X0.here hx rfl (pc0 := 10) (pc' := 17) rfl (hb hby d1_10) rfl (feq (by decide : ¬ ((6 : Int32) = (1 : Int32)))).2 (by decide) (by decide) (XS.iloadN X0.here hx rfl (hb hby d1_17) rfl (XS.iconst X0.here hx rfl (hb hby d1_18) (XS.icmpYes X0.here hx rfl (pc0 := 19) (pc' := 26) rfl (hb hby d1_19) rfl (feq (by decide : ¬ ((6 : Int32) = (2 : Int32)))).2 (by decide) (by decide) (XS.iloadN X0.here hx rfl (hb hby d1_26) rfl (XS.iconst X0.here hx rfl (hb hby d1_27) (XS.icmpYes X0.here hx rfl (pc0 := 28) (pc' := 35) rfl (hb hby d1_28) rfl (feq (by decide : ¬ ((6 : Int32) = (3 : Int32)))).2 (by decide) (by decide) k)))))))))))) ?_
  show own_Goes p e below (s₁.setTop (mkF m 35 #[iv (6 : Int32)] [])) _
  refine own_via (fun t k => XS.iloadN X0.here hx rfl (hb hby d1_35) rfl (XS.iconst X0.here hx rfl (hb hby d1_36) (XS.icmpYes X0.here hx rfl (pc0 := 37) (pc' := 44) rfl (hb hby d1_37) rfl (feq (by decide : ¬ ((6 : Int32) = (4 : Int32)))).2 (by decide) (by decide) (XS.iloadN X0.here hx rfl (hb hby d1_44) rfl (XS.iconst X0.here hx rfl (hb hby d1_45) (XS.icmpYes X0.here hx rfl (pc0 := 46) (pc' := 53) rfl (hb hby d1_46) rfl (feq (by decide : ¬ ((6 : Int32) = (5 : Int32)))).2 (by decide) (by decide) (XS.iloadN X0.here hx rfl (hb hby d1_53) rfl (XS.bipush X0.here hx rfl (hb hby d1_54) (XS.icmpNo X0.here hx rfl (hb hby d1_56) rfl (teq (by decide : (6 : Int32) = (6 : Int32))).2 k))))))))) ?_
  show own_Goes p e below (s₁.setTop (mkF m 59 #[iv (6 : Int32)] [])) _
  obtain ⟨T690, X690, e690, st690⟩ := getS2 X0 hx hZ hown (host := "") (Or.inl (wd hw 63 rfl)) Via.refl e0 (S_Result_FORFEIT_WIN.ext O0.2) (g := (mkF m 59 #[iv (6 : Int32)] [])) rfl (hb hby d1_59)
  refine own_via (fun t k => st690 t k) ?_
  obtain ⟨fs, hr, hrun, hended, hW, hsame⟩ := X690.leave (v := some (.ref w79)) (fun h => by rw [Bd.returns] at h; cases h)
  refine own_end (t := T690.setFrames fs) ?_ ⟨_, hrun, hended, _, _, rfl, ?_, ⟨_, rfl⟩, hW, hsame.mono (by decide) (by decide)⟩
  · jvm_step X690.here [X690.here.top, hx, (hb hby d1_62), X690.method', Bd.returns, Value.isRef, FieldType.isReference]
    first | (intro acts; rw [hr _ acts rfl rfl rfl]) | rw [hr _ _ rfl rfl rfl]
    exact Steps.refl _
  · show Q35 Z w79 h0 n0 _ T690.heap _
    rw [e690]
    exact ⟨rfl, N0, rfl⟩
def Q36 (Z : State) (w79 : Addr) (h0 : Heap) (n0 : Nat) (v : Option Value) (h : Heap) (L : List Loc) : Prop := v = some (.ref w79) ∧ Fr n0 L ∧ h = h0
set_option maxRecDepth 65536 in
set_option maxHeartbeats 40000000 in
theorem rm36 (l : Launch) (Z : State) (a0 : Array Value) (hw : ∀ d ∈ tables_1, d.before a0 Z = true) (ws : List Jvm.Cond) (w79 : Addr) (h0 : Heap) (n0 : Nat) (O0 : Old Z n0 h0) :
    MetFree l (⟨zs10, zs11, zs9⟩ : MethodName) (head1 (Jvm.Cond.code (⟨zs10, zs11, zs9⟩ : MethodName) jdk_31_method_10_code 1 (some (.object zs13)) :: ws) ({ frames := 0, cells := 0, slots := 0, locals := 0 } : Room)) (fun a U => a = #[(.ref w79)] ∧ Z.Warmed39 U.vm ∧ U.heap = h0) (fun _ _ _ _ _ => True) (fun _ U o U' => ∃ v L, o = .returned v ∧ Q36 Z w79 h0 n0 v U'.heap L ∧ FrameEnd U o U' L ({ frames := 0, cells := 0, slots := 0, locals := 0 } : Room).cells ({ frames := 0, cells := 0, slots := 0, locals := 0 } : Room).slots) := by
  refine MetFree.of_bodySF (plainFor_of_name pn_4) hisR ?_
  intro p e s m args below meth c s₁ Bd hml0 hP hK
  obtain ⟨rfl, hZ, hh⟩ := hP
  have hx := Bd.exec
  have hby := Bd.bytes
  have hml : c.maxLocals = 1 := hml0
  have hown : s.vm.findClass zs10 = some m.cls := findClass_of_methodNamed Bd.named
  have hnm := (name_of_methodNamed Bd.named Bd.method).1
  have X0 : Stand p l e ({ frames := 0, cells := 0, slots := 0, locals := 0 } : Room) s m #[(.ref w79)] below meth c s₁ [] 0 0 := Stand.of_body Bd
  have e0 : s₁.heap = h0 := by rw [← hh, Bd.state]; rfl
  have N0 := Fr.nil n0
  refine own_out ?_
  refine own_via (fun t k => castTop (ef_4 m w79) (XS.aloadN X0.here hx rfl (hb hby d6_0) rfl rfl (XS.ifnonnullYes X0.here hx rfl (pc0 := 1) (pc' := 12) rfl (hb hby d6_1) rfl (by decide) (by decide) (XS.aloadN X0.here hx rfl (hb hby d6_12) rfl rfl k)))) ?_
  show own_Goes p e below (s₁.setTop (mkF m 13 #[rv w79] [(.ref w79)])) _
  obtain ⟨fs, hr, hrun, hended, hW, hsame⟩ := X0.leave (v := some (.ref w79)) (fun h => by rw [Bd.returns] at h; cases h)
  refine own_end (t := s₁.setFrames fs) ?_ ⟨_, hrun, hended, _, _, rfl, ?_, ⟨_, rfl⟩, hW, hsame.mono (by decide) (by decide)⟩
  · jvm_step X0.here [X0.here.top, hx, (hb hby d6_13), X0.method', Bd.returns, Value.isRef, FieldType.isReference]
    first | (intro acts; rw [hr _ acts rfl rfl rfl]) | rw [hr _ _ rfl rfl rfl]
    exact Steps.refl _
  · show Q36 Z w79 h0 n0 _ s₁.heap _
    rw [e0]
    exact ⟨rfl, N0, rfl⟩
def Q37 (Z : State) (a703 : Addr) (p704 : Int32) (w59 : Addr) (w79 : Addr) (p705 : Int32) (h0 : Heap) (n0 : Nat) (v : Option Value) (h : Heap) (L : List Loc) : Prop := v = none ∧ Fr n0 L ∧ Keep h0 h [a703] ∧ Exa Z h a703 zs1 ∧ Fld Z h a703 zs1 "colour" zs6 (.ref w59) ∧ Fld Z h a703 zs1 "opponent" "I" (.int p704) ∧ Fld Z h a703 zs1 "result" zs3 (.ref w79)
set_option maxRecDepth 65536 in
set_option maxHeartbeats 40000000 in
theorem rm37 (l : Launch) (Z : State) (a0 : Array Value) (hw : ∀ d ∈ tables_1, d.before a0 Z = true) (ws : List Jvm.Cond) (a703 : Addr) (p704 : Int32) (w59 : Addr) (w79 : Addr) (p705 : Int32) (h0 : Heap) (n0 : Nat) (O0 : Old Z n0 h0) (pC706 : ¬ (p704 < (0 : Int32))) (pF_a703_opponent : Fld Z h0 a703 zs1 "opponent" "I" (.int p705)) (pE_a703 : Exa Z h0 a703 zs1) (pG_a703 : n0 ≤ a703) (pF_a703_colour : Fld Z h0 a703 zs1 "colour" zs6 .null) (pF_a703_result : Fld Z h0 a703 zs1 "result" zs3 .null) :
    MetFree l (⟨zs1, "<init>", zs5⟩ : MethodName) (head1 (Jvm.Cond.code (⟨zs1, "<init>", zs5⟩ : MethodName) prog_45_method_1_code 4 none :: ws) ({ frames := 2, cells := 0, slots := 0, locals := 24 } : Room)) (fun a U => a = #[(.ref a703), (.int p704), (.ref w59), (.ref w79)] ∧ Z.Warmed39 U.vm ∧ U.heap = h0) (fun _ _ _ _ _ => True) (fun _ U o U' => ∃ v L, o = .returned v ∧ Q37 Z a703 p704 w59 w79 p705 h0 n0 v U'.heap L ∧ FrameEnd U o U' L ({ frames := 2, cells := 0, slots := 0, locals := 24 } : Room).cells ({ frames := 2, cells := 0, slots := 0, locals := 24 } : Room).slots) := by
  refine MetFree.of_bodySF (plainFor_of_name pn_2) hisR ?_
  intro p e s m args below meth c s₁ Bd hml0 hP hK
  obtain ⟨rfl, hZ, hh⟩ := hP
  have hx := Bd.exec
  have hby := Bd.bytes
  have hml : c.maxLocals = 4 := hml0
  have hown : s.vm.findClass zs1 = some m.cls := findClass_of_methodNamed Bd.named
  have hnm := (name_of_methodNamed Bd.named Bd.method).1
  have X0 : Stand p l e ({ frames := 2, cells := 0, slots := 0, locals := 24 } : Room) s m #[(.ref a703), (.int p704), (.ref w59), (.ref w79)] below meth c s₁ [] 0 0 := Stand.of_body Bd
  have e0 : s₁.heap = h0 := by rw [← hh, Bd.state]; rfl
  have N0 := Fr.nil n0
  refine own_out ?_
  refine own_via (fun t k => castTop (ef_5 m a703 p704 w59 w79) (XS.aloadN X0.here hx rfl (hb hby d3_0) rfl rfl k)) ?_
  obtain ⟨_, T712, _, X712, hQ712, st712⟩ := own_ci X0 hx hZ hown (wd hw 23 rfl) (wd hw 24 rfl) (wd hw 27 rfl) (wd hw 26 rfl) rfl (by decide) (rm3 l Z a0 hw [] a703 h0 n0 O0 ) e0 (g := (mkF m 1 #[rv a703, iv p704, rv w59, rv w79] [(.ref a703)])) rfl (by rw [hml]; rfl) (rest := []) (W := 0) (lenOf pd_3 rfl) rfl (by show 2 * 0 + _ ≤ _; exact Nat.le_of_eq rfl) (hb hby d3_1) (by decide) (by decide) (by decide) (by decide)
  obtain ⟨rfl, Nq712, hh713⟩ := hQ712
  have N712 := Fr.app N0 Nq712
  refine own_via (fun t k => st712 t (XS.aloadN X712.here hx rfl (hb hby d3_4) rfl rfl k)) ?_
  obtain ⟨_, T714, _, X714, hQ714, st714⟩ := own_cs X712 hx hZ hown (wd hw 31 rfl) (wd hw 32 rfl) (wd hw 34 rfl) (wd hw 33 rfl) (by decide) (rm4 l Z a0 hw [] w59 h0 n0 O0 ) hh713 (g := (mkF m 5 #[rv a703, iv p704, rv w59, rv w79] [(.ref w59)])) rfl (by rw [hml]; rfl) (rest := []) (W := 0) (lenOf pd_4 rfl) rfl (by show 2 * 0 + _ ≤ _; exact Nat.le_of_eq rfl) (hb hby d3_5) (by decide) (by decide) (by decide) (by decide)
  obtain ⟨rfl, Nq714, hh715⟩ := hQ714
  have N714 := Fr.app N712 Nq714
  refine own_via (fun t k => st714 t (XS.pop X714.here hx rfl (hb hby d3_8) rfl rfl (XS.aloadN X714.here hx rfl (hb hby d3_9) rfl rfl k))) ?_
  show own_Goes p e below (T714.setTop (mkF m 10 #[rv a703, iv p704, rv w59, rv w79] [(.ref w79)])) _
  obtain ⟨_, T716, _, X716, hQ716, st716⟩ := own_cs X714 hx hZ hown (wd hw 31 rfl) (wd hw 32 rfl) (wd hw 34 rfl) (wd hw 33 rfl) (by decide) (rm36 l Z a0 hw [] w79 h0 n0 O0 ) hh715 (g := (mkF m 10 #[rv a703, iv p704, rv w59, rv w79] [(.ref w79)])) rfl (by rw [hml]; rfl) (rest := []) (W := 0) (lenOf pd_4 rfl) rfl (by show 2 * 0 + _ ≤ _; exact Nat.le_of_eq rfl) (hb hby d3_10) (by decide) (by decide) (by decide) (by decide)
  obtain ⟨rfl, Nq716, hh726⟩ := hQ716
  have N716 := Fr.app N714 Nq716
  refine own_via (fun t k => st716 t (XS.pop X716.here hx rfl (hb hby d3_13) rfl rfl (XS.iloadN X716.here hx rfl (hb hby d3_14) rfl (XS.ifYes X716.here hx rfl (pc0 := 15) (pc' := 32) rfl (hb hby d3_15) rfl ((if0 _ _).trans (flt pC706).2.1) (by decide) (by decide) (XS.aloadN X716.here hx rfl (hb hby d3_32) rfl rfl (XS.iloadN X716.here hx rfl (hb hby d3_33) rfl k)))))) ?_
  show own_Goes p e below (T716.setTop (mkF m 34 #[rv a703, iv p704, rv w59, rv w79] [(.int p704), (.ref a703)])) _
  obtain ⟨T727, h727, X727, e727, W727, st727⟩ := putF X716 hx hZ hown (host := "") (Or.inl (wd hw 35 rfl)) Via.refl hh726 pF_a703_opponent pE_a703 (Or.inr ⟨(wd hw 36 rfl), rfl, hnm⟩) (wd hw 19 rfl) (ty := .int) (by decide) rfl rfl (g := (mkF m 34 #[rv a703, iv p704, rv w59, rv w79] [(.int p704), (.ref a703)])) rfl rfl (hb hby d3_34)
  refine own_via (fun t k => st727 t k) ?_
  have Fw727 : Fld Z h727 a703 zs1 "opponent" "I" (.int p704) := pF_a703_opponent.same W727
  have N727 := Fr.snoc X727 N716 pG_a703
  show own_Goes p e below (T727.setTop (mkF m 37 #[rv a703, iv p704, rv w59, rv w79] [])) _
  refine own_via (fun t k => XS.aloadN X727.here hx rfl (hb hby d3_37) rfl rfl (XS.aloadN X727.here hx rfl (hb hby d3_38) rfl rfl k)) ?_
  have F728 : Fld Z h727 a703 zs1 "colour" zs6 .null := (pF_a703_colour.other W727 (Or.inr (slot_ne (Or.inr (wd hw 17 rfl)) (Or.inr (wd hw 36 rfl)) (by decide) (t := (.object zs7)) (t' := .int) (by decide) (by decide))))
  have E729 : Exa Z h727 a703 zs1 := (pE_a703.wr W727)
  obtain ⟨T730, h730, X730, e730, W730, st730⟩ := putF X727 hx hZ hown (host := "") (Or.inl (wd hw 16 rfl)) Via.refl e727 F728 E729 (Or.inr ⟨(wd hw 17 rfl), rfl, hnm⟩) (wd hw 19 rfl) (ty := (.object zs7)) (by decide) rfl rfl (g := (mkF m 39 #[rv a703, iv p704, rv w59, rv w79] [(.ref w59), (.ref a703)])) rfl rfl (hb hby d3_39)
  refine own_via (fun t k => st730 t k) ?_
  have Fw730 : Fld Z h730 a703 zs1 "colour" zs6 (.ref w59) := F728.same W730
  have N730 := Fr.snoc X730 N727 pG_a703
  show own_Goes p e below (T730.setTop (mkF m 42 #[rv a703, iv p704, rv w59, rv w79] [])) _
  refine own_via (fun t k => XS.aloadN X730.here hx rfl (hb hby d3_42) rfl rfl (XS.aloadN X730.here hx rfl (hb hby d3_43) rfl rfl k)) ?_
  have F731 : Fld Z h730 a703 zs1 "result" zs3 .null := ((pF_a703_result.other W727 (Or.inr (slot_ne (Or.inr (wd hw 38 rfl)) (Or.inr (wd hw 36 rfl)) (by decide) (t := (.object zs2)) (t' := .int) (by decide) (by decide)))).other W730 (Or.inr (slot_ne (Or.inr (wd hw 38 rfl)) (Or.inr (wd hw 17 rfl)) (by decide) (t := (.object zs2)) (t' := (.object zs7)) (by decide) (by decide))))
  have E732 : Exa Z h730 a703 zs1 := (E729.wr W730)
  obtain ⟨T733, h733, X733, e733, W733, st733⟩ := putF X730 hx hZ hown (host := "") (Or.inl (wd hw 37 rfl)) Via.refl e730 F731 E732 (Or.inr ⟨(wd hw 38 rfl), rfl, hnm⟩) (wd hw 19 rfl) (ty := (.object zs2)) (by decide) rfl rfl (g := (mkF m 44 #[rv a703, iv p704, rv w59, rv w79] [(.ref w79), (.ref a703)])) rfl rfl (hb hby d3_44)
  refine own_via (fun t k => st733 t k) ?_
  have Fw733 : Fld Z h733 a703 zs1 "result" zs3 (.ref w79) := F731.same W733
  have N733 := Fr.snoc X733 N730 pG_a703
  show own_Goes p e below (T733.setTop (mkF m 47 #[rv a703, iv p704, rv w59, rv w79] [])) _
  obtain ⟨fs, hr, hrun, hended, hW, hsame⟩ := X733.leave (v := none) (fun _ => rfl)
  refine own_end (t := T733.setFrames fs) ?_ ⟨_, hrun, hended, _, _, rfl, ?_, ⟨_, rfl⟩, hW, hsame.mono (by decide) (by decide)⟩
  · exact X733.returnOut hx Bd.returns (hb hby d3_47) hr
  have E734 : Exa Z h733 a703 zs1 := (E732.wr W733)
  have F735 : Fld Z h733 a703 zs1 "colour" zs6 (.ref w59) := (Fw730.other W733 (Or.inr (slot_ne (Or.inr (wd hw 17 rfl)) (Or.inr (wd hw 38 rfl)) (by decide) (t := (.object zs7)) (t' := (.object zs2)) (by decide) (by decide))))
  have F736 : Fld Z h733 a703 zs1 "opponent" "I" (.int p704) := ((Fw727.other W730 (Or.inr (slot_ne (Or.inr (wd hw 36 rfl)) (Or.inr (wd hw 17 rfl)) (by decide) (t := .int) (t' := (.object zs7)) (by decide) (by decide)))).other W733 (Or.inr (slot_ne (Or.inr (wd hw 36 rfl)) (Or.inr (wd hw 38 rfl)) (by decide) (t := .int) (t' := (.object zs2)) (by decide) (by decide))))
  · show Q37 Z a703 p704 w59 w79 p705 h0 n0 _ T733.heap _
    rw [e733]
    exact ⟨rfl, N733, ((((Keep.refl h0 [a703]).wr W727 (Or.inl (List.mem_of_getElem? (i := 0) rfl))).wr W730 (Or.inl (List.mem_of_getElem? (i := 0) rfl))).wr W733 (Or.inl (List.mem_of_getElem? (i := 0) rfl))), E734, F735, F736, Fw733⟩
def Q38 (Z : State) (w79 : Addr) (h0 : Heap) (n0 : Nat) (v : Option Value) (h : Heap) (L : List Loc) : Prop := v = some (.int (0 : Int32)) ∧ Fr n0 L ∧ h = h0
set_option maxRecDepth 65536 in
set_option maxHeartbeats 40000000 in
theorem rm38 (l : Launch) (Z : State) (a0 : Array Value) (hw : ∀ d ∈ tables_1, d.before a0 Z = true) (ws : List Jvm.Cond) (w79 : Addr) (h0 : Heap) (n0 : Nat) (O0 : Old Z n0 h0) (SF_w79_game : Fld Z Z.heap w79 zs2 "game" "Z" (.int (0 : Int32))) :
    MetFree l (⟨zs2, "isGame", "()Z"⟩ : MethodName) (head1 (Jvm.Cond.code (⟨zs2, "isGame", "()Z"⟩ : MethodName) prog_43_method_7_code 1 (some .boolean) :: ws) ({ frames := 0, cells := 0, slots := 0, locals := 0 } : Room)) (fun a U => a = #[(.ref w79)] ∧ Z.Warmed39 U.vm ∧ U.heap = h0) (fun _ _ _ _ _ => True) (fun _ U o U' => ∃ v L, o = .returned v ∧ Q38 Z w79 h0 n0 v U'.heap L ∧ FrameEnd U o U' L ({ frames := 0, cells := 0, slots := 0, locals := 0 } : Room).cells ({ frames := 0, cells := 0, slots := 0, locals := 0 } : Room).slots) := by
  refine MetFree.of_bodySF (plainFor_of_name pn_5) hisR ?_
  intro p e s m args below meth c s₁ Bd hml0 hP hK
  obtain ⟨rfl, hZ, hh⟩ := hP
  have hx := Bd.exec
  have hby := Bd.bytes
  have hml : c.maxLocals = 1 := hml0
  have hown : s.vm.findClass zs2 = some m.cls := findClass_of_methodNamed Bd.named
  have hnm := (name_of_methodNamed Bd.named Bd.method).1
  have X0 : Stand p l e ({ frames := 0, cells := 0, slots := 0, locals := 0 } : Room) s m #[(.ref w79)] below meth c s₁ [] 0 0 := Stand.of_body Bd
  have e0 : s₁.heap = h0 := by rw [← hh, Bd.state]; rfl
  have N0 := Fr.nil n0
  refine own_out ?_
  refine own_via (fun t k => castTop (ef_7 m w79) (XS.aloadN X0.here hx rfl (hb hby d8_0) rfl rfl k)) ?_
  obtain ⟨T768, X768, e768, st768⟩ := getF X0 hx hZ hown (host := "") (Or.inl (wd hw 51 rfl)) Via.refl e0 (SF_w79_game.ext O0.2) (g := (mkF m 1 #[rv w79] [(.ref w79)])) rfl rfl (hb hby d8_1)
  refine own_via (fun t k => st768 t k) ?_
  obtain ⟨fs, hr, hrun, hended, hW, hsame⟩ := X768.leave (v := some (.int (0 : Int32))) (fun h => by rw [Bd.returns] at h; cases h)
  refine own_end (t := T768.setFrames fs) ?_ ⟨_, hrun, hended, _, _, rfl, ?_, ⟨_, rfl⟩, hW, hsame.mono (by decide) (by decide)⟩
  · exact retN X768 hx (t := .boolean) Bd.returns (by simp) (hb hby d8_4) hr
  · show Q38 Z w79 h0 n0 _ T768.heap _
    rw [e768]
    exact ⟨rfl, N0, rfl⟩
def Q39 (Z : State) (a747 : Addr) (p748 : Int32) (w79 : Addr) (h0 : Heap) (n0 : Nat) (v : Option Value) (h : Heap) (L : List Loc) : Prop := v = some (.int (0 : Int32)) ∧ Fr n0 L ∧ h = h0
set_option maxRecDepth 65536 in
set_option maxHeartbeats 40000000 in
theorem rm39 (l : Launch) (Z : State) (a0 : Array Value) (hw : ∀ d ∈ tables_1, d.before a0 Z = true) (ws : List Jvm.Cond) (a747 : Addr) (p748 : Int32) (w79 : Addr) (h0 : Heap) (n0 : Nat) (O0 : Old Z n0 h0) (pF_a747_opponent : Fld Z h0 a747 zs1 "opponent" "I" (.int p748)) (pC755 : ¬ (p748 = (0 : Int32))) (pF_a747_result : Fld Z h0 a747 zs1 "result" zs3 (.ref w79)) (SF_w79_game : Fld Z Z.heap w79 zs2 "game" "Z" (.int (0 : Int32))) (SE_w79 : Exa Z Z.heap w79 zs2) :
    MetFree l (⟨zs1, zs12, "()Z"⟩ : MethodName) (head1 (Jvm.Cond.code (⟨zs1, zs12, "()Z"⟩ : MethodName) prog_45_method_4_code 1 (some .boolean) :: ws) ({ frames := 1, cells := 0, slots := 0, locals := 12 } : Room)) (fun a U => a = #[(.ref a747)] ∧ Z.Warmed39 U.vm ∧ U.heap = h0) (fun _ _ _ _ _ => True) (fun _ U o U' => ∃ v L, o = .returned v ∧ Q39 Z a747 p748 w79 h0 n0 v U'.heap L ∧ FrameEnd U o U' L ({ frames := 1, cells := 0, slots := 0, locals := 12 } : Room).cells ({ frames := 1, cells := 0, slots := 0, locals := 12 } : Room).slots) := by
  refine MetFree.of_bodySF (plainFor_of_name pn_2) hisR ?_
  intro p e s m args below meth c s₁ Bd hml0 hP hK
  obtain ⟨rfl, hZ, hh⟩ := hP
  have hx := Bd.exec
  have hby := Bd.bytes
  have hml : c.maxLocals = 1 := hml0
  have hown : s.vm.findClass zs1 = some m.cls := findClass_of_methodNamed Bd.named
  have hnm := (name_of_methodNamed Bd.named Bd.method).1
  have X0 : Stand p l e ({ frames := 1, cells := 0, slots := 0, locals := 12 } : Room) s m #[(.ref a747)] below meth c s₁ [] 0 0 := Stand.of_body Bd
  have e0 : s₁.heap = h0 := by rw [← hh, Bd.state]; rfl
  have N0 := Fr.nil n0
  refine own_out ?_
  refine own_via (fun t k => castTop (ef_6 m a747) (XS.aloadN X0.here hx rfl (hb hby d7_0) rfl rfl k)) ?_
  obtain ⟨T756, X756, e756, st756⟩ := getF X0 hx hZ hown (host := "") (Or.inl (wd hw 35 rfl)) Via.refl e0 pF_a747_opponent (g := (mkF m 1 #[rv a747] [(.ref a747)])) rfl rfl (hb hby d7_1)
  refine own_via (fun t k => st756 t (XS.ifNo X756.here hx rfl (hb hby d7_4) rfl ((if0 _ _).trans (feq pC755).1) (XS.aloadN X756.here hx rfl (hb hby d7_7) rfl rfl k))) ?_
  show own_Goes p e below (T756.setTop (mkF m 8 #[rv a747] [(.ref a747)])) _
  obtain ⟨T757, X757, e757, st757⟩ := getF X756 hx hZ hown (host := "") (Or.inl (wd hw 37 rfl)) Via.refl e756 pF_a747_result (g := (mkF m 8 #[rv a747] [(.ref a747)])) rfl rfl (hb hby d7_8)
  refine own_via (fun t k => st757 t k) ?_
  obtain ⟨_, T758, _, X758, hQ758, st758⟩ := own_cv X757 hx hZ hown (wd hw 46 rfl) (wd hw 47 rfl) (wd hw 49 rfl) (wd hw 48 rfl) (wd hw 50 rfl) (wd hw 6 rfl) (by decide) (rm38 l Z a0 hw [] w79 h0 n0 O0 SF_w79_game) e757 (SE_w79.ext O0.2) (g := (mkF m 11 #[rv a747] [(.ref w79)])) rfl (by rw [hml]; rfl) (rest := []) (W := 0) (lenOf pd_6 rfl) rfl (by show 2 * 0 + _ ≤ _; exact Nat.le_of_eq rfl) (hb hby d7_11) (by decide) (by decide) (by decide) (by decide)
  obtain ⟨rfl, Nq758, hh769⟩ := hQ758
  have N758 := Fr.app N0 Nq758
  refine own_via (fun t k => st758 t (XS.ifYes X758.here hx rfl (pc0 := 14) (pc' := 21) rfl (hb hby d7_14) rfl ((if0 _ _).trans (teq (by decide : (0 : Int32) = (0 : Int32))).1) (by decide) (by decide) (XS.iconst X758.here hx rfl (hb hby d7_21) k))) ?_
  show own_Goes p e below (T758.setTop (mkF m 22 #[rv a747] [(.int (0 : Int32))])) _
  obtain ⟨fs, hr, hrun, hended, hW, hsame⟩ := X758.leave (v := some (.int (0 : Int32))) (fun h => by rw [Bd.returns] at h; cases h)
  refine own_end (t := T758.setFrames fs) ?_ ⟨_, hrun, hended, _, _, rfl, ?_, ⟨_, rfl⟩, hW, hsame.mono (by decide) (by decide)⟩
  · exact retN X758 hx (t := .boolean) Bd.returns (by simp) (hb hby d7_22) hr
  · show Q39 Z a747 p748 w79 h0 n0 _ T758.heap _
    rw [hh769]
    exact ⟨rfl, N758, rfl⟩
theorem d1_63 : decode method_2_code 63 = .ok (.iload_n 0, 1) := by decide +kernel
theorem d1_64 : decode method_2_code 64 = .ok (.bipush 7, 2) := by decide +kernel
theorem d1_66 : decode method_2_code 66 = .ok (.if_icmp .ne 7, 3) := by decide +kernel
theorem d1_69 : decode method_2_code 69 = .ok (.getstatic 31, 3) := by decide +kernel
theorem d1_72 : decode method_2_code 72 = .ok (.areturn, 1) := by decide +kernel
def Q40 (Z : State) (w85 : Addr) (h0 : Heap) (n0 : Nat) (v : Option Value) (h : Heap) (L : List Loc) : Prop := v = some (.ref w85) ∧ Fr n0 L ∧ h = h0
set_option maxRecDepth 65536 in
set_option maxHeartbeats 40000000 in
theorem rm40 (l : Launch) (Z : State) (a0 : Array Value) (hw : ∀ d ∈ tables_1, d.before a0 Z = true) (ws : List Jvm.Cond) (w85 : Addr) (h0 : Heap) (n0 : Nat) (O0 : Old Z n0 h0) (S_Result_FORFEIT_LOSS : Sta Z Z.heap zs2 "FORFEIT_LOSS" zs3 (.ref w85)) :
    MetFree l (⟨zs4, "pick", zs8⟩ : MethodName) (head1 (Jvm.Cond.code (⟨zs4, "pick", zs8⟩ : MethodName) method_2_code 1 (some (.object zs2)) :: ws) ({ frames := 0, cells := 0, slots := 0, locals := 0 } : Room)) (fun a U => a = #[(.int (7 : Int32))] ∧ Z.Warmed39 U.vm ∧ U.heap = h0) (fun _ _ _ _ _ => True) (fun _ U o U' => ∃ v L, o = .returned v ∧ Q40 Z w85 h0 n0 v U'.heap L ∧ FrameEnd U o U' L ({ frames := 0, cells := 0, slots := 0, locals := 0 } : Room).cells ({ frames := 0, cells := 0, slots := 0, locals := 0 } : Room).slots) := by
  refine MetFree.of_bodySF (plainFor_of_name pn_1) hisR ?_
  intro p e s m args below meth c s₁ Bd hml0 hP hK
  obtain ⟨rfl, hZ, hh⟩ := hP
  have hx := Bd.exec
  have hby := Bd.bytes
  have hml : c.maxLocals = 1 := hml0
  have hown : s.vm.findClass zs4 = some m.cls := findClass_of_methodNamed Bd.named
  have hnm := (name_of_methodNamed Bd.named Bd.method).1
  have X0 : Stand p l e ({ frames := 0, cells := 0, slots := 0, locals := 0 } : Room) s m #[(.int (7 : Int32))] below meth c s₁ [] 0 0 := Stand.of_body Bd
  have e0 : s₁.heap = h0 := by rw [← hh, Bd.state]; rfl
  have N0 := Fr.nil n0
  refine own_out ?_
  refine own_via (fun t k => castTop (ef_1 m (7 : Int32)) (XS.iloadN X0.here hx rfl (hb hby d1_0) rfl (XS.ifYes X0.here hx rfl (pc0 := 1) (pc' := 8) rfl (hb hby d1_1) rfl ((if0 _ _).trans (feq (by decide : ¬ ((7 : Int32) = (0 : Int32)))).2) (by decide) (by decide) (XS.iloadN X0.here hx rfl (hb hby d1_8) rfl (XS.iconst X0.here hx rfl (hb hby d1_9) (XS.icmpYes X0.here hx rfl (pc0 := 10) (pc' := 17) rfl (hb hby d1_10) rfl (feq (by decide : ¬ ((7 : Int32) = (1 : Int32)))).2 (by decide) (by decide) (XS.iloadN X0.here hx rfl (hb hby d1_17) rfl (XS.iconst X0.here hx rfl (hb hby d1_18) (XS.icmpYes X0.here hx rfl (pc0 := 19) (pc' := 26) rfl (hb hby d1_19) rfl (feq (by decide : ¬ ((7 : Int32) = (2 : Int32)))).2 (by decide) (by decide) (XS.iloadN X0.here hx rfl (hb hby d1_26) rfl (XS.iconst X0.here hx rfl (hb hby d1_27) (XS.icmpYes X0.here hx rfl (pc0 := 28) (pc' := 35) rfl (hb hby d1_28) rfl (feq (by decide : ¬ ((7 : Int32) = (3 : Int32)))).2 (by decide) (by decide) k)))))))))))) ?_
  show own_Goes p e below (s₁.setTop (mkF m 35 #[iv (7 : Int32)] [])) _
  refine own_via (fun t k => XS.iloadN X0.here hx rfl (hb hby d1_35) rfl (XS.iconst X0.here hx rfl (hb hby d1_36) (XS.icmpYes X0.here hx rfl (pc0 := 37) (pc' := 44) rfl (hb hby d1_37) rfl (feq (by decide : ¬ ((7 : Int32) = (4 : Int32)))).2 (by decide) (by decide) (XS.iloadN X0.here hx rfl (hb hby d1_44) rfl (XS.iconst X0.here hx rfl (hb hby d1_45) (XS.icmpYes X0.here hx rfl (pc0 := 46) (pc' := 53) rfl (hb hby d1_46) rfl (feq (by decide : ¬ ((7 : Int32) = (5 : Int32)))).2 (by decide) (by decide) (XS.iloadN X0.here hx rfl (hb hby d1_53) rfl (XS.bipush X0.here hx rfl (hb hby d1_54) (XS.icmpYes X0.here hx rfl (pc0 := 56) (pc' := 63) rfl (hb hby d1_56) rfl (feq (by decide : ¬ ((7 : Int32) = (6 : Int32)))).2 (by decide) (by decide) (XS.iloadN X0.here hx rfl (hb hby d1_63) rfl (XS.bipush X0.here hx rfl (hb hby d1_64) (XS.icmpNo X0.here hx rfl (hb hby d1_66) rfl (teq (by decide : (7 : Int32) = (7 : Int32))).2 k)))))))))))) ?_
  show own_Goes p e below (s₁.setTop (mkF m 69 #[iv (7 : Int32)] [])) _
  obtain ⟨T781, X781, e781, st781⟩ := getS2 X0 hx hZ hown (host := "") (Or.inl (wd hw 67 rfl)) Via.refl e0 (S_Result_FORFEIT_LOSS.ext O0.2) (g := (mkF m 69 #[iv (7 : Int32)] [])) rfl (hb hby d1_69)
  refine own_via (fun t k => st781 t k) ?_
  obtain ⟨fs, hr, hrun, hended, hW, hsame⟩ := X781.leave (v := some (.ref w85)) (fun h => by rw [Bd.returns] at h; cases h)
  refine own_end (t := T781.setFrames fs) ?_ ⟨_, hrun, hended, _, _, rfl, ?_, ⟨_, rfl⟩, hW, hsame.mono (by decide) (by decide)⟩
  · jvm_step X781.here [X781.here.top, hx, (hb hby d1_72), X781.method', Bd.returns, Value.isRef, FieldType.isReference]
    first | (intro acts; rw [hr _ acts rfl rfl rfl]) | rw [hr _ _ rfl rfl rfl]
    exact Steps.refl _
  · show Q40 Z w85 h0 n0 _ T781.heap _
    rw [e781]
    exact ⟨rfl, N0, rfl⟩
def Q41 (Z : State) (w85 : Addr) (h0 : Heap) (n0 : Nat) (v : Option Value) (h : Heap) (L : List Loc) : Prop := v = some (.ref w85) ∧ Fr n0 L ∧ h = h0
set_option maxRecDepth 65536 in
set_option maxHeartbeats 40000000 in
theorem rm41 (l : Launch) (Z : State) (a0 : Array Value) (hw : ∀ d ∈ tables_1, d.before a0 Z = true) (ws : List Jvm.Cond) (w85 : Addr) (h0 : Heap) (n0 : Nat) (O0 : Old Z n0 h0) :
    MetFree l (⟨zs10, zs11, zs9⟩ : MethodName) (head1 (Jvm.Cond.code (⟨zs10, zs11, zs9⟩ : MethodName) jdk_31_method_10_code 1 (some (.object zs13)) :: ws) ({ frames := 0, cells := 0, slots := 0, locals := 0 } : Room)) (fun a U => a = #[(.ref w85)] ∧ Z.Warmed39 U.vm ∧ U.heap = h0) (fun _ _ _ _ _ => True) (fun _ U o U' => ∃ v L, o = .returned v ∧ Q41 Z w85 h0 n0 v U'.heap L ∧ FrameEnd U o U' L ({ frames := 0, cells := 0, slots := 0, locals := 0 } : Room).cells ({ frames := 0, cells := 0, slots := 0, locals := 0 } : Room).slots) := by
  refine MetFree.of_bodySF (plainFor_of_name pn_4) hisR ?_
  intro p e s m args below meth c s₁ Bd hml0 hP hK
  obtain ⟨rfl, hZ, hh⟩ := hP
  have hx := Bd.exec
  have hby := Bd.bytes
  have hml : c.maxLocals = 1 := hml0
  have hown : s.vm.findClass zs10 = some m.cls := findClass_of_methodNamed Bd.named
  have hnm := (name_of_methodNamed Bd.named Bd.method).1
  have X0 : Stand p l e ({ frames := 0, cells := 0, slots := 0, locals := 0 } : Room) s m #[(.ref w85)] below meth c s₁ [] 0 0 := Stand.of_body Bd
  have e0 : s₁.heap = h0 := by rw [← hh, Bd.state]; rfl
  have N0 := Fr.nil n0
  refine own_out ?_
  refine own_via (fun t k => castTop (ef_4 m w85) (XS.aloadN X0.here hx rfl (hb hby d6_0) rfl rfl (XS.ifnonnullYes X0.here hx rfl (pc0 := 1) (pc' := 12) rfl (hb hby d6_1) rfl (by decide) (by decide) (XS.aloadN X0.here hx rfl (hb hby d6_12) rfl rfl k)))) ?_
  show own_Goes p e below (s₁.setTop (mkF m 13 #[rv w85] [(.ref w85)])) _
  obtain ⟨fs, hr, hrun, hended, hW, hsame⟩ := X0.leave (v := some (.ref w85)) (fun h => by rw [Bd.returns] at h; cases h)
  refine own_end (t := s₁.setFrames fs) ?_ ⟨_, hrun, hended, _, _, rfl, ?_, ⟨_, rfl⟩, hW, hsame.mono (by decide) (by decide)⟩
  · jvm_step X0.here [X0.here.top, hx, (hb hby d6_13), X0.method', Bd.returns, Value.isRef, FieldType.isReference]
    first | (intro acts; rw [hr _ acts rfl rfl rfl]) | rw [hr _ _ rfl rfl rfl]
    exact Steps.refl _
  · show Q41 Z w85 h0 n0 _ s₁.heap _
    rw [e0]
    exact ⟨rfl, N0, rfl⟩
def Q42 (Z : State) (a794 : Addr) (p795 : Int32) (w59 : Addr) (w85 : Addr) (p796 : Int32) (h0 : Heap) (n0 : Nat) (v : Option Value) (h : Heap) (L : List Loc) : Prop := v = none ∧ Fr n0 L ∧ Keep h0 h [a794] ∧ Exa Z h a794 zs1 ∧ Fld Z h a794 zs1 "colour" zs6 (.ref w59) ∧ Fld Z h a794 zs1 "opponent" "I" (.int p795) ∧ Fld Z h a794 zs1 "result" zs3 (.ref w85)
set_option maxRecDepth 65536 in
set_option maxHeartbeats 40000000 in
theorem rm42 (l : Launch) (Z : State) (a0 : Array Value) (hw : ∀ d ∈ tables_1, d.before a0 Z = true) (ws : List Jvm.Cond) (a794 : Addr) (p795 : Int32) (w59 : Addr) (w85 : Addr) (p796 : Int32) (h0 : Heap) (n0 : Nat) (O0 : Old Z n0 h0) (pC797 : ¬ (p795 < (0 : Int32))) (pF_a794_opponent : Fld Z h0 a794 zs1 "opponent" "I" (.int p796)) (pE_a794 : Exa Z h0 a794 zs1) (pG_a794 : n0 ≤ a794) (pF_a794_colour : Fld Z h0 a794 zs1 "colour" zs6 .null) (pF_a794_result : Fld Z h0 a794 zs1 "result" zs3 .null) :
    MetFree l (⟨zs1, "<init>", zs5⟩ : MethodName) (head1 (Jvm.Cond.code (⟨zs1, "<init>", zs5⟩ : MethodName) prog_45_method_1_code 4 none :: ws) ({ frames := 2, cells := 0, slots := 0, locals := 24 } : Room)) (fun a U => a = #[(.ref a794), (.int p795), (.ref w59), (.ref w85)] ∧ Z.Warmed39 U.vm ∧ U.heap = h0) (fun _ _ _ _ _ => True) (fun _ U o U' => ∃ v L, o = .returned v ∧ Q42 Z a794 p795 w59 w85 p796 h0 n0 v U'.heap L ∧ FrameEnd U o U' L ({ frames := 2, cells := 0, slots := 0, locals := 24 } : Room).cells ({ frames := 2, cells := 0, slots := 0, locals := 24 } : Room).slots) := by
  refine MetFree.of_bodySF (plainFor_of_name pn_2) hisR ?_
  intro p e s m args below meth c s₁ Bd hml0 hP hK
  obtain ⟨rfl, hZ, hh⟩ := hP
  have hx := Bd.exec
  have hby := Bd.bytes
  have hml : c.maxLocals = 4 := hml0
  have hown : s.vm.findClass zs1 = some m.cls := findClass_of_methodNamed Bd.named
  have hnm := (name_of_methodNamed Bd.named Bd.method).1
  have X0 : Stand p l e ({ frames := 2, cells := 0, slots := 0, locals := 24 } : Room) s m #[(.ref a794), (.int p795), (.ref w59), (.ref w85)] below meth c s₁ [] 0 0 := Stand.of_body Bd
  have e0 : s₁.heap = h0 := by rw [← hh, Bd.state]; rfl
  have N0 := Fr.nil n0
  refine own_out ?_
  refine own_via (fun t k => castTop (ef_5 m a794 p795 w59 w85) (XS.aloadN X0.here hx rfl (hb hby d3_0) rfl rfl k)) ?_
  obtain ⟨_, T803, _, X803, hQ803, st803⟩ := own_ci X0 hx hZ hown (wd hw 23 rfl) (wd hw 24 rfl) (wd hw 27 rfl) (wd hw 26 rfl) rfl (by decide) (rm3 l Z a0 hw [] a794 h0 n0 O0 ) e0 (g := (mkF m 1 #[rv a794, iv p795, rv w59, rv w85] [(.ref a794)])) rfl (by rw [hml]; rfl) (rest := []) (W := 0) (lenOf pd_3 rfl) rfl (by show 2 * 0 + _ ≤ _; exact Nat.le_of_eq rfl) (hb hby d3_1) (by decide) (by decide) (by decide) (by decide)
  obtain ⟨rfl, Nq803, hh804⟩ := hQ803
  have N803 := Fr.app N0 Nq803
  refine own_via (fun t k => st803 t (XS.aloadN X803.here hx rfl (hb hby d3_4) rfl rfl k)) ?_
  obtain ⟨_, T805, _, X805, hQ805, st805⟩ := own_cs X803 hx hZ hown (wd hw 31 rfl) (wd hw 32 rfl) (wd hw 34 rfl) (wd hw 33 rfl) (by decide) (rm4 l Z a0 hw [] w59 h0 n0 O0 ) hh804 (g := (mkF m 5 #[rv a794, iv p795, rv w59, rv w85] [(.ref w59)])) rfl (by rw [hml]; rfl) (rest := []) (W := 0) (lenOf pd_4 rfl) rfl (by show 2 * 0 + _ ≤ _; exact Nat.le_of_eq rfl) (hb hby d3_5) (by decide) (by decide) (by decide) (by decide)
  obtain ⟨rfl, Nq805, hh806⟩ := hQ805
  have N805 := Fr.app N803 Nq805
  refine own_via (fun t k => st805 t (XS.pop X805.here hx rfl (hb hby d3_8) rfl rfl (XS.aloadN X805.here hx rfl (hb hby d3_9) rfl rfl k))) ?_
  show own_Goes p e below (T805.setTop (mkF m 10 #[rv a794, iv p795, rv w59, rv w85] [(.ref w85)])) _
  obtain ⟨_, T807, _, X807, hQ807, st807⟩ := own_cs X805 hx hZ hown (wd hw 31 rfl) (wd hw 32 rfl) (wd hw 34 rfl) (wd hw 33 rfl) (by decide) (rm41 l Z a0 hw [] w85 h0 n0 O0 ) hh806 (g := (mkF m 10 #[rv a794, iv p795, rv w59, rv w85] [(.ref w85)])) rfl (by rw [hml]; rfl) (rest := []) (W := 0) (lenOf pd_4 rfl) rfl (by show 2 * 0 + _ ≤ _; exact Nat.le_of_eq rfl) (hb hby d3_10) (by decide) (by decide) (by decide) (by decide)
  obtain ⟨rfl, Nq807, hh817⟩ := hQ807
  have N807 := Fr.app N805 Nq807
  refine own_via (fun t k => st807 t (XS.pop X807.here hx rfl (hb hby d3_13) rfl rfl (XS.iloadN X807.here hx rfl (hb hby d3_14) rfl (XS.ifYes X807.here hx rfl (pc0 := 15) (pc' := 32) rfl (hb hby d3_15) rfl ((if0 _ _).trans (flt pC797).2.1) (by decide) (by decide) (XS.aloadN X807.here hx rfl (hb hby d3_32) rfl rfl (XS.iloadN X807.here hx rfl (hb hby d3_33) rfl k)))))) ?_
  show own_Goes p e below (T807.setTop (mkF m 34 #[rv a794, iv p795, rv w59, rv w85] [(.int p795), (.ref a794)])) _
  obtain ⟨T818, h818, X818, e818, W818, st818⟩ := putF X807 hx hZ hown (host := "") (Or.inl (wd hw 35 rfl)) Via.refl hh817 pF_a794_opponent pE_a794 (Or.inr ⟨(wd hw 36 rfl), rfl, hnm⟩) (wd hw 19 rfl) (ty := .int) (by decide) rfl rfl (g := (mkF m 34 #[rv a794, iv p795, rv w59, rv w85] [(.int p795), (.ref a794)])) rfl rfl (hb hby d3_34)
  refine own_via (fun t k => st818 t k) ?_
  have Fw818 : Fld Z h818 a794 zs1 "opponent" "I" (.int p795) := pF_a794_opponent.same W818
  have N818 := Fr.snoc X818 N807 pG_a794
  show own_Goes p e below (T818.setTop (mkF m 37 #[rv a794, iv p795, rv w59, rv w85] [])) _
  refine own_via (fun t k => XS.aloadN X818.here hx rfl (hb hby d3_37) rfl rfl (XS.aloadN X818.here hx rfl (hb hby d3_38) rfl rfl k)) ?_
  have F819 : Fld Z h818 a794 zs1 "colour" zs6 .null := (pF_a794_colour.other W818 (Or.inr (slot_ne (Or.inr (wd hw 17 rfl)) (Or.inr (wd hw 36 rfl)) (by decide) (t := (.object zs7)) (t' := .int) (by decide) (by decide))))
  have E820 : Exa Z h818 a794 zs1 := (pE_a794.wr W818)
  obtain ⟨T821, h821, X821, e821, W821, st821⟩ := putF X818 hx hZ hown (host := "") (Or.inl (wd hw 16 rfl)) Via.refl e818 F819 E820 (Or.inr ⟨(wd hw 17 rfl), rfl, hnm⟩) (wd hw 19 rfl) (ty := (.object zs7)) (by decide) rfl rfl (g := (mkF m 39 #[rv a794, iv p795, rv w59, rv w85] [(.ref w59), (.ref a794)])) rfl rfl (hb hby d3_39)
  refine own_via (fun t k => st821 t k) ?_
  have Fw821 : Fld Z h821 a794 zs1 "colour" zs6 (.ref w59) := F819.same W821
  have N821 := Fr.snoc X821 N818 pG_a794
  show own_Goes p e below (T821.setTop (mkF m 42 #[rv a794, iv p795, rv w59, rv w85] [])) _
  refine own_via (fun t k => XS.aloadN X821.here hx rfl (hb hby d3_42) rfl rfl (XS.aloadN X821.here hx rfl (hb hby d3_43) rfl rfl k)) ?_
  have F822 : Fld Z h821 a794 zs1 "result" zs3 .null := ((pF_a794_result.other W818 (Or.inr (slot_ne (Or.inr (wd hw 38 rfl)) (Or.inr (wd hw 36 rfl)) (by decide) (t := (.object zs2)) (t' := .int) (by decide) (by decide)))).other W821 (Or.inr (slot_ne (Or.inr (wd hw 38 rfl)) (Or.inr (wd hw 17 rfl)) (by decide) (t := (.object zs2)) (t' := (.object zs7)) (by decide) (by decide))))
  have E823 : Exa Z h821 a794 zs1 := (E820.wr W821)
  obtain ⟨T824, h824, X824, e824, W824, st824⟩ := putF X821 hx hZ hown (host := "") (Or.inl (wd hw 37 rfl)) Via.refl e821 F822 E823 (Or.inr ⟨(wd hw 38 rfl), rfl, hnm⟩) (wd hw 19 rfl) (ty := (.object zs2)) (by decide) rfl rfl (g := (mkF m 44 #[rv a794, iv p795, rv w59, rv w85] [(.ref w85), (.ref a794)])) rfl rfl (hb hby d3_44)
  refine own_via (fun t k => st824 t k) ?_
  have Fw824 : Fld Z h824 a794 zs1 "result" zs3 (.ref w85) := F822.same W824
  have N824 := Fr.snoc X824 N821 pG_a794
  show own_Goes p e below (T824.setTop (mkF m 47 #[rv a794, iv p795, rv w59, rv w85] [])) _
  obtain ⟨fs, hr, hrun, hended, hW, hsame⟩ := X824.leave (v := none) (fun _ => rfl)
  refine own_end (t := T824.setFrames fs) ?_ ⟨_, hrun, hended, _, _, rfl, ?_, ⟨_, rfl⟩, hW, hsame.mono (by decide) (by decide)⟩
  · exact X824.returnOut hx Bd.returns (hb hby d3_47) hr
  have E825 : Exa Z h824 a794 zs1 := (E823.wr W824)
  have F826 : Fld Z h824 a794 zs1 "colour" zs6 (.ref w59) := (Fw821.other W824 (Or.inr (slot_ne (Or.inr (wd hw 17 rfl)) (Or.inr (wd hw 38 rfl)) (by decide) (t := (.object zs7)) (t' := (.object zs2)) (by decide) (by decide))))
  have F827 : Fld Z h824 a794 zs1 "opponent" "I" (.int p795) := ((Fw818.other W821 (Or.inr (slot_ne (Or.inr (wd hw 36 rfl)) (Or.inr (wd hw 17 rfl)) (by decide) (t := .int) (t' := (.object zs7)) (by decide) (by decide)))).other W824 (Or.inr (slot_ne (Or.inr (wd hw 36 rfl)) (Or.inr (wd hw 38 rfl)) (by decide) (t := .int) (t' := (.object zs2)) (by decide) (by decide))))
  · show Q42 Z a794 p795 w59 w85 p796 h0 n0 _ T824.heap _
    rw [e824]
    exact ⟨rfl, N824, ((((Keep.refl h0 [a794]).wr W818 (Or.inl (List.mem_of_getElem? (i := 0) rfl))).wr W821 (Or.inl (List.mem_of_getElem? (i := 0) rfl))).wr W824 (Or.inl (List.mem_of_getElem? (i := 0) rfl))), E825, F826, F827, Fw824⟩
def Q43 (Z : State) (w85 : Addr) (h0 : Heap) (n0 : Nat) (v : Option Value) (h : Heap) (L : List Loc) : Prop := v = some (.int (0 : Int32)) ∧ Fr n0 L ∧ h = h0
set_option maxRecDepth 65536 in
set_option maxHeartbeats 40000000 in
theorem rm43 (l : Launch) (Z : State) (a0 : Array Value) (hw : ∀ d ∈ tables_1, d.before a0 Z = true) (ws : List Jvm.Cond) (w85 : Addr) (h0 : Heap) (n0 : Nat) (O0 : Old Z n0 h0) (SF_w85_game : Fld Z Z.heap w85 zs2 "game" "Z" (.int (0 : Int32))) :
    MetFree l (⟨zs2, "isGame", "()Z"⟩ : MethodName) (head1 (Jvm.Cond.code (⟨zs2, "isGame", "()Z"⟩ : MethodName) prog_43_method_7_code 1 (some .boolean) :: ws) ({ frames := 0, cells := 0, slots := 0, locals := 0 } : Room)) (fun a U => a = #[(.ref w85)] ∧ Z.Warmed39 U.vm ∧ U.heap = h0) (fun _ _ _ _ _ => True) (fun _ U o U' => ∃ v L, o = .returned v ∧ Q43 Z w85 h0 n0 v U'.heap L ∧ FrameEnd U o U' L ({ frames := 0, cells := 0, slots := 0, locals := 0 } : Room).cells ({ frames := 0, cells := 0, slots := 0, locals := 0 } : Room).slots) := by
  refine MetFree.of_bodySF (plainFor_of_name pn_5) hisR ?_
  intro p e s m args below meth c s₁ Bd hml0 hP hK
  obtain ⟨rfl, hZ, hh⟩ := hP
  have hx := Bd.exec
  have hby := Bd.bytes
  have hml : c.maxLocals = 1 := hml0
  have hown : s.vm.findClass zs2 = some m.cls := findClass_of_methodNamed Bd.named
  have hnm := (name_of_methodNamed Bd.named Bd.method).1
  have X0 : Stand p l e ({ frames := 0, cells := 0, slots := 0, locals := 0 } : Room) s m #[(.ref w85)] below meth c s₁ [] 0 0 := Stand.of_body Bd
  have e0 : s₁.heap = h0 := by rw [← hh, Bd.state]; rfl
  have N0 := Fr.nil n0
  refine own_out ?_
  refine own_via (fun t k => castTop (ef_7 m w85) (XS.aloadN X0.here hx rfl (hb hby d8_0) rfl rfl k)) ?_
  obtain ⟨T859, X859, e859, st859⟩ := getF X0 hx hZ hown (host := "") (Or.inl (wd hw 51 rfl)) Via.refl e0 (SF_w85_game.ext O0.2) (g := (mkF m 1 #[rv w85] [(.ref w85)])) rfl rfl (hb hby d8_1)
  refine own_via (fun t k => st859 t k) ?_
  obtain ⟨fs, hr, hrun, hended, hW, hsame⟩ := X859.leave (v := some (.int (0 : Int32))) (fun h => by rw [Bd.returns] at h; cases h)
  refine own_end (t := T859.setFrames fs) ?_ ⟨_, hrun, hended, _, _, rfl, ?_, ⟨_, rfl⟩, hW, hsame.mono (by decide) (by decide)⟩
  · exact retN X859 hx (t := .boolean) Bd.returns (by simp) (hb hby d8_4) hr
  · show Q43 Z w85 h0 n0 _ T859.heap _
    rw [e859]
    exact ⟨rfl, N0, rfl⟩
def Q44 (Z : State) (a838 : Addr) (p839 : Int32) (w85 : Addr) (h0 : Heap) (n0 : Nat) (v : Option Value) (h : Heap) (L : List Loc) : Prop := v = some (.int (0 : Int32)) ∧ Fr n0 L ∧ h = h0
set_option maxRecDepth 65536 in
set_option maxHeartbeats 40000000 in
theorem rm44 (l : Launch) (Z : State) (a0 : Array Value) (hw : ∀ d ∈ tables_1, d.before a0 Z = true) (ws : List Jvm.Cond) (a838 : Addr) (p839 : Int32) (w85 : Addr) (h0 : Heap) (n0 : Nat) (O0 : Old Z n0 h0) (pF_a838_opponent : Fld Z h0 a838 zs1 "opponent" "I" (.int p839)) (pC846 : ¬ (p839 = (0 : Int32))) (pF_a838_result : Fld Z h0 a838 zs1 "result" zs3 (.ref w85)) (SF_w85_game : Fld Z Z.heap w85 zs2 "game" "Z" (.int (0 : Int32))) (SE_w85 : Exa Z Z.heap w85 zs2) :
    MetFree l (⟨zs1, zs12, "()Z"⟩ : MethodName) (head1 (Jvm.Cond.code (⟨zs1, zs12, "()Z"⟩ : MethodName) prog_45_method_4_code 1 (some .boolean) :: ws) ({ frames := 1, cells := 0, slots := 0, locals := 12 } : Room)) (fun a U => a = #[(.ref a838)] ∧ Z.Warmed39 U.vm ∧ U.heap = h0) (fun _ _ _ _ _ => True) (fun _ U o U' => ∃ v L, o = .returned v ∧ Q44 Z a838 p839 w85 h0 n0 v U'.heap L ∧ FrameEnd U o U' L ({ frames := 1, cells := 0, slots := 0, locals := 12 } : Room).cells ({ frames := 1, cells := 0, slots := 0, locals := 12 } : Room).slots) := by
  refine MetFree.of_bodySF (plainFor_of_name pn_2) hisR ?_
  intro p e s m args below meth c s₁ Bd hml0 hP hK
  obtain ⟨rfl, hZ, hh⟩ := hP
  have hx := Bd.exec
  have hby := Bd.bytes
  have hml : c.maxLocals = 1 := hml0
  have hown : s.vm.findClass zs1 = some m.cls := findClass_of_methodNamed Bd.named
  have hnm := (name_of_methodNamed Bd.named Bd.method).1
  have X0 : Stand p l e ({ frames := 1, cells := 0, slots := 0, locals := 12 } : Room) s m #[(.ref a838)] below meth c s₁ [] 0 0 := Stand.of_body Bd
  have e0 : s₁.heap = h0 := by rw [← hh, Bd.state]; rfl
  have N0 := Fr.nil n0
  refine own_out ?_
  refine own_via (fun t k => castTop (ef_6 m a838) (XS.aloadN X0.here hx rfl (hb hby d7_0) rfl rfl k)) ?_
  obtain ⟨T847, X847, e847, st847⟩ := getF X0 hx hZ hown (host := "") (Or.inl (wd hw 35 rfl)) Via.refl e0 pF_a838_opponent (g := (mkF m 1 #[rv a838] [(.ref a838)])) rfl rfl (hb hby d7_1)
  refine own_via (fun t k => st847 t (XS.ifNo X847.here hx rfl (hb hby d7_4) rfl ((if0 _ _).trans (feq pC846).1) (XS.aloadN X847.here hx rfl (hb hby d7_7) rfl rfl k))) ?_
  show own_Goes p e below (T847.setTop (mkF m 8 #[rv a838] [(.ref a838)])) _
  obtain ⟨T848, X848, e848, st848⟩ := getF X847 hx hZ hown (host := "") (Or.inl (wd hw 37 rfl)) Via.refl e847 pF_a838_result (g := (mkF m 8 #[rv a838] [(.ref a838)])) rfl rfl (hb hby d7_8)
  refine own_via (fun t k => st848 t k) ?_
  obtain ⟨_, T849, _, X849, hQ849, st849⟩ := own_cv X848 hx hZ hown (wd hw 46 rfl) (wd hw 47 rfl) (wd hw 49 rfl) (wd hw 48 rfl) (wd hw 50 rfl) (wd hw 6 rfl) (by decide) (rm43 l Z a0 hw [] w85 h0 n0 O0 SF_w85_game) e848 (SE_w85.ext O0.2) (g := (mkF m 11 #[rv a838] [(.ref w85)])) rfl (by rw [hml]; rfl) (rest := []) (W := 0) (lenOf pd_6 rfl) rfl (by show 2 * 0 + _ ≤ _; exact Nat.le_of_eq rfl) (hb hby d7_11) (by decide) (by decide) (by decide) (by decide)
  obtain ⟨rfl, Nq849, hh860⟩ := hQ849
  have N849 := Fr.app N0 Nq849
  refine own_via (fun t k => st849 t (XS.ifYes X849.here hx rfl (pc0 := 14) (pc' := 21) rfl (hb hby d7_14) rfl ((if0 _ _).trans (teq (by decide : (0 : Int32) = (0 : Int32))).1) (by decide) (by decide) (XS.iconst X849.here hx rfl (hb hby d7_21) k))) ?_
  show own_Goes p e below (T849.setTop (mkF m 22 #[rv a838] [(.int (0 : Int32))])) _
  obtain ⟨fs, hr, hrun, hended, hW, hsame⟩ := X849.leave (v := some (.int (0 : Int32))) (fun h => by rw [Bd.returns] at h; cases h)
  refine own_end (t := T849.setFrames fs) ?_ ⟨_, hrun, hended, _, _, rfl, ?_, ⟨_, rfl⟩, hW, hsame.mono (by decide) (by decide)⟩
  · exact retN X849 hx (t := .boolean) Bd.returns (by simp) (hb hby d7_22) hr
  · show Q44 Z a838 p839 w85 h0 n0 _ T849.heap _
    rw [hh860]
    exact ⟨rfl, N849, rfl⟩
theorem d1_73 : decode method_2_code 73 = .ok (.iload_n 0, 1) := by decide +kernel
theorem d1_74 : decode method_2_code 74 = .ok (.bipush 8, 2) := by decide +kernel
theorem d1_76 : decode method_2_code 76 = .ok (.if_icmp .ne 7, 3) := by decide +kernel
theorem d1_79 : decode method_2_code 79 = .ok (.getstatic 34, 3) := by decide +kernel
theorem d1_82 : decode method_2_code 82 = .ok (.areturn, 1) := by decide +kernel
def Q45 (Z : State) (w76 : Addr) (h0 : Heap) (n0 : Nat) (v : Option Value) (h : Heap) (L : List Loc) : Prop := v = some (.ref w76) ∧ Fr n0 L ∧ h = h0
set_option maxRecDepth 65536 in
set_option maxHeartbeats 40000000 in
theorem rm45 (l : Launch) (Z : State) (a0 : Array Value) (hw : ∀ d ∈ tables_1, d.before a0 Z = true) (ws : List Jvm.Cond) (w76 : Addr) (h0 : Heap) (n0 : Nat) (O0 : Old Z n0 h0) (S_Result_PAIRING_ALLOCATED_BYE : Sta Z Z.heap zs2 "PAIRING_ALLOCATED_BYE" zs3 (.ref w76)) :
    MetFree l (⟨zs4, "pick", zs8⟩ : MethodName) (head1 (Jvm.Cond.code (⟨zs4, "pick", zs8⟩ : MethodName) method_2_code 1 (some (.object zs2)) :: ws) ({ frames := 0, cells := 0, slots := 0, locals := 0 } : Room)) (fun a U => a = #[(.int (8 : Int32))] ∧ Z.Warmed39 U.vm ∧ U.heap = h0) (fun _ _ _ _ _ => True) (fun _ U o U' => ∃ v L, o = .returned v ∧ Q45 Z w76 h0 n0 v U'.heap L ∧ FrameEnd U o U' L ({ frames := 0, cells := 0, slots := 0, locals := 0 } : Room).cells ({ frames := 0, cells := 0, slots := 0, locals := 0 } : Room).slots) := by
  refine MetFree.of_bodySF (plainFor_of_name pn_1) hisR ?_
  intro p e s m args below meth c s₁ Bd hml0 hP hK
  obtain ⟨rfl, hZ, hh⟩ := hP
  have hx := Bd.exec
  have hby := Bd.bytes
  have hml : c.maxLocals = 1 := hml0
  have hown : s.vm.findClass zs4 = some m.cls := findClass_of_methodNamed Bd.named
  have hnm := (name_of_methodNamed Bd.named Bd.method).1
  have X0 : Stand p l e ({ frames := 0, cells := 0, slots := 0, locals := 0 } : Room) s m #[(.int (8 : Int32))] below meth c s₁ [] 0 0 := Stand.of_body Bd
  have e0 : s₁.heap = h0 := by rw [← hh, Bd.state]; rfl
  have N0 := Fr.nil n0
  refine own_out ?_
  refine own_via (fun t k => castTop (ef_1 m (8 : Int32)) (XS.iloadN X0.here hx rfl (hb hby d1_0) rfl (XS.ifYes X0.here hx rfl (pc0 := 1) (pc' := 8) rfl (hb hby d1_1) rfl ((if0 _ _).trans (feq (by decide : ¬ ((8 : Int32) = (0 : Int32)))).2) (by decide) (by decide) (XS.iloadN X0.here hx rfl (hb hby d1_8) rfl (XS.iconst X0.here hx rfl (hb hby d1_9) (XS.icmpYes X0.here hx rfl (pc0 := 10) (pc' := 17) rfl (hb hby d1_10) rfl (feq (by decide : ¬ ((8 : Int32) = (1 : Int32)))).2 (by decide) (by decide) (XS.iloadN X0.here hx rfl (hb hby d1_17) rfl (XS.iconst X0.here hx rfl (hb hby d1_18) (XS.icmpYes X0.here hx rfl (pc0 := 19) (pc' := 26) rfl (hb hby d1_19) rfl (feq (by decide : ¬ ((8 : Int32) = (2 : Int32)))).2 (by decide) (by decide) (XS.iloadN X0.here hx rfl (hb hby d1_26) rfl (XS.iconst X0.here hx rfl (hb hby d1_27) (XS.icmpYes X0.here hx rfl (pc0 := 28) (pc' := 35) rfl (hb hby d1_28) rfl (feq (by decide : ¬ ((8 : Int32) = (3 : Int32)))).2 (by decide) (by decide) k)))))))))))) ?_
  show own_Goes p e below (s₁.setTop (mkF m 35 #[iv (8 : Int32)] [])) _
  refine own_via (fun t k => XS.iloadN X0.here hx rfl (hb hby d1_35) rfl (XS.iconst X0.here hx rfl (hb hby d1_36) (XS.icmpYes X0.here hx rfl (pc0 := 37) (pc' := 44) rfl (hb hby d1_37) rfl (feq (by decide : ¬ ((8 : Int32) = (4 : Int32)))).2 (by decide) (by decide) (XS.iloadN X0.here hx rfl (hb hby d1_44) rfl (XS.iconst X0.here hx rfl (hb hby d1_45) (XS.icmpYes X0.here hx rfl (pc0 := 46) (pc' := 53) rfl (hb hby d1_46) rfl (feq (by decide : ¬ ((8 : Int32) = (5 : Int32)))).2 (by decide) (by decide) (XS.iloadN X0.here hx rfl (hb hby d1_53) rfl (XS.bipush X0.here hx rfl (hb hby d1_54) (XS.icmpYes X0.here hx rfl (pc0 := 56) (pc' := 63) rfl (hb hby d1_56) rfl (feq (by decide : ¬ ((8 : Int32) = (6 : Int32)))).2 (by decide) (by decide) (XS.iloadN X0.here hx rfl (hb hby d1_63) rfl (XS.bipush X0.here hx rfl (hb hby d1_64) (XS.icmpYes X0.here hx rfl (pc0 := 66) (pc' := 73) rfl (hb hby d1_66) rfl (feq (by decide : ¬ ((8 : Int32) = (7 : Int32)))).2 (by decide) (by decide) k)))))))))))) ?_
  show own_Goes p e below (s₁.setTop (mkF m 73 #[iv (8 : Int32)] [])) _
  refine own_via (fun t k => XS.iloadN X0.here hx rfl (hb hby d1_73) rfl (XS.bipush X0.here hx rfl (hb hby d1_74) (XS.icmpNo X0.here hx rfl (hb hby d1_76) rfl (teq (by decide : (8 : Int32) = (8 : Int32))).2 k))) ?_
  show own_Goes p e below (s₁.setTop (mkF m 79 #[iv (8 : Int32)] [])) _
  obtain ⟨T872, X872, e872, st872⟩ := getS2 X0 hx hZ hown (host := "") (Or.inl (wd hw 61 rfl)) Via.refl e0 (S_Result_PAIRING_ALLOCATED_BYE.ext O0.2) (g := (mkF m 79 #[iv (8 : Int32)] [])) rfl (hb hby d1_79)
  refine own_via (fun t k => st872 t k) ?_
  obtain ⟨fs, hr, hrun, hended, hW, hsame⟩ := X872.leave (v := some (.ref w76)) (fun h => by rw [Bd.returns] at h; cases h)
  refine own_end (t := T872.setFrames fs) ?_ ⟨_, hrun, hended, _, _, rfl, ?_, ⟨_, rfl⟩, hW, hsame.mono (by decide) (by decide)⟩
  · jvm_step X872.here [X872.here.top, hx, (hb hby d1_82), X872.method', Bd.returns, Value.isRef, FieldType.isReference]
    first | (intro acts; rw [hr _ acts rfl rfl rfl]) | rw [hr _ _ rfl rfl rfl]
    exact Steps.refl _
  · show Q45 Z w76 h0 n0 _ T872.heap _
    rw [e872]
    exact ⟨rfl, N0, rfl⟩
def Q46 (Z : State) (w76 : Addr) (h0 : Heap) (n0 : Nat) (v : Option Value) (h : Heap) (L : List Loc) : Prop := v = some (.ref w76) ∧ Fr n0 L ∧ h = h0
set_option maxRecDepth 65536 in
set_option maxHeartbeats 40000000 in
theorem rm46 (l : Launch) (Z : State) (a0 : Array Value) (hw : ∀ d ∈ tables_1, d.before a0 Z = true) (ws : List Jvm.Cond) (w76 : Addr) (h0 : Heap) (n0 : Nat) (O0 : Old Z n0 h0) :
    MetFree l (⟨zs10, zs11, zs9⟩ : MethodName) (head1 (Jvm.Cond.code (⟨zs10, zs11, zs9⟩ : MethodName) jdk_31_method_10_code 1 (some (.object zs13)) :: ws) ({ frames := 0, cells := 0, slots := 0, locals := 0 } : Room)) (fun a U => a = #[(.ref w76)] ∧ Z.Warmed39 U.vm ∧ U.heap = h0) (fun _ _ _ _ _ => True) (fun _ U o U' => ∃ v L, o = .returned v ∧ Q46 Z w76 h0 n0 v U'.heap L ∧ FrameEnd U o U' L ({ frames := 0, cells := 0, slots := 0, locals := 0 } : Room).cells ({ frames := 0, cells := 0, slots := 0, locals := 0 } : Room).slots) := by
  refine MetFree.of_bodySF (plainFor_of_name pn_4) hisR ?_
  intro p e s m args below meth c s₁ Bd hml0 hP hK
  obtain ⟨rfl, hZ, hh⟩ := hP
  have hx := Bd.exec
  have hby := Bd.bytes
  have hml : c.maxLocals = 1 := hml0
  have hown : s.vm.findClass zs10 = some m.cls := findClass_of_methodNamed Bd.named
  have hnm := (name_of_methodNamed Bd.named Bd.method).1
  have X0 : Stand p l e ({ frames := 0, cells := 0, slots := 0, locals := 0 } : Room) s m #[(.ref w76)] below meth c s₁ [] 0 0 := Stand.of_body Bd
  have e0 : s₁.heap = h0 := by rw [← hh, Bd.state]; rfl
  have N0 := Fr.nil n0
  refine own_out ?_
  refine own_via (fun t k => castTop (ef_4 m w76) (XS.aloadN X0.here hx rfl (hb hby d6_0) rfl rfl (XS.ifnonnullYes X0.here hx rfl (pc0 := 1) (pc' := 12) rfl (hb hby d6_1) rfl (by decide) (by decide) (XS.aloadN X0.here hx rfl (hb hby d6_12) rfl rfl k)))) ?_
  show own_Goes p e below (s₁.setTop (mkF m 13 #[rv w76] [(.ref w76)])) _
  obtain ⟨fs, hr, hrun, hended, hW, hsame⟩ := X0.leave (v := some (.ref w76)) (fun h => by rw [Bd.returns] at h; cases h)
  refine own_end (t := s₁.setFrames fs) ?_ ⟨_, hrun, hended, _, _, rfl, ?_, ⟨_, rfl⟩, hW, hsame.mono (by decide) (by decide)⟩
  · jvm_step X0.here [X0.here.top, hx, (hb hby d6_13), X0.method', Bd.returns, Value.isRef, FieldType.isReference]
    first | (intro acts; rw [hr _ acts rfl rfl rfl]) | rw [hr _ _ rfl rfl rfl]
    exact Steps.refl _
  · show Q46 Z w76 h0 n0 _ s₁.heap _
    rw [e0]
    exact ⟨rfl, N0, rfl⟩
def Q47 (Z : State) (a885 : Addr) (p886 : Int32) (w59 : Addr) (w76 : Addr) (p887 : Int32) (h0 : Heap) (n0 : Nat) (v : Option Value) (h : Heap) (L : List Loc) : Prop := v = none ∧ Fr n0 L ∧ Keep h0 h [a885] ∧ Exa Z h a885 zs1 ∧ Fld Z h a885 zs1 "colour" zs6 (.ref w59) ∧ Fld Z h a885 zs1 "opponent" "I" (.int p886) ∧ Fld Z h a885 zs1 "result" zs3 (.ref w76)
set_option maxRecDepth 65536 in
set_option maxHeartbeats 40000000 in
theorem rm47 (l : Launch) (Z : State) (a0 : Array Value) (hw : ∀ d ∈ tables_1, d.before a0 Z = true) (ws : List Jvm.Cond) (a885 : Addr) (p886 : Int32) (w59 : Addr) (w76 : Addr) (p887 : Int32) (h0 : Heap) (n0 : Nat) (O0 : Old Z n0 h0) (pC888 : ¬ (p886 < (0 : Int32))) (pF_a885_opponent : Fld Z h0 a885 zs1 "opponent" "I" (.int p887)) (pE_a885 : Exa Z h0 a885 zs1) (pG_a885 : n0 ≤ a885) (pF_a885_colour : Fld Z h0 a885 zs1 "colour" zs6 .null) (pF_a885_result : Fld Z h0 a885 zs1 "result" zs3 .null) :
    MetFree l (⟨zs1, "<init>", zs5⟩ : MethodName) (head1 (Jvm.Cond.code (⟨zs1, "<init>", zs5⟩ : MethodName) prog_45_method_1_code 4 none :: ws) ({ frames := 2, cells := 0, slots := 0, locals := 24 } : Room)) (fun a U => a = #[(.ref a885), (.int p886), (.ref w59), (.ref w76)] ∧ Z.Warmed39 U.vm ∧ U.heap = h0) (fun _ _ _ _ _ => True) (fun _ U o U' => ∃ v L, o = .returned v ∧ Q47 Z a885 p886 w59 w76 p887 h0 n0 v U'.heap L ∧ FrameEnd U o U' L ({ frames := 2, cells := 0, slots := 0, locals := 24 } : Room).cells ({ frames := 2, cells := 0, slots := 0, locals := 24 } : Room).slots) := by
  refine MetFree.of_bodySF (plainFor_of_name pn_2) hisR ?_
  intro p e s m args below meth c s₁ Bd hml0 hP hK
  obtain ⟨rfl, hZ, hh⟩ := hP
  have hx := Bd.exec
  have hby := Bd.bytes
  have hml : c.maxLocals = 4 := hml0
  have hown : s.vm.findClass zs1 = some m.cls := findClass_of_methodNamed Bd.named
  have hnm := (name_of_methodNamed Bd.named Bd.method).1
  have X0 : Stand p l e ({ frames := 2, cells := 0, slots := 0, locals := 24 } : Room) s m #[(.ref a885), (.int p886), (.ref w59), (.ref w76)] below meth c s₁ [] 0 0 := Stand.of_body Bd
  have e0 : s₁.heap = h0 := by rw [← hh, Bd.state]; rfl
  have N0 := Fr.nil n0
  refine own_out ?_
  refine own_via (fun t k => castTop (ef_5 m a885 p886 w59 w76) (XS.aloadN X0.here hx rfl (hb hby d3_0) rfl rfl k)) ?_
  obtain ⟨_, T894, _, X894, hQ894, st894⟩ := own_ci X0 hx hZ hown (wd hw 23 rfl) (wd hw 24 rfl) (wd hw 27 rfl) (wd hw 26 rfl) rfl (by decide) (rm3 l Z a0 hw [] a885 h0 n0 O0 ) e0 (g := (mkF m 1 #[rv a885, iv p886, rv w59, rv w76] [(.ref a885)])) rfl (by rw [hml]; rfl) (rest := []) (W := 0) (lenOf pd_3 rfl) rfl (by show 2 * 0 + _ ≤ _; exact Nat.le_of_eq rfl) (hb hby d3_1) (by decide) (by decide) (by decide) (by decide)
  obtain ⟨rfl, Nq894, hh895⟩ := hQ894
  have N894 := Fr.app N0 Nq894
  refine own_via (fun t k => st894 t (XS.aloadN X894.here hx rfl (hb hby d3_4) rfl rfl k)) ?_
  obtain ⟨_, T896, _, X896, hQ896, st896⟩ := own_cs X894 hx hZ hown (wd hw 31 rfl) (wd hw 32 rfl) (wd hw 34 rfl) (wd hw 33 rfl) (by decide) (rm4 l Z a0 hw [] w59 h0 n0 O0 ) hh895 (g := (mkF m 5 #[rv a885, iv p886, rv w59, rv w76] [(.ref w59)])) rfl (by rw [hml]; rfl) (rest := []) (W := 0) (lenOf pd_4 rfl) rfl (by show 2 * 0 + _ ≤ _; exact Nat.le_of_eq rfl) (hb hby d3_5) (by decide) (by decide) (by decide) (by decide)
  obtain ⟨rfl, Nq896, hh897⟩ := hQ896
  have N896 := Fr.app N894 Nq896
  refine own_via (fun t k => st896 t (XS.pop X896.here hx rfl (hb hby d3_8) rfl rfl (XS.aloadN X896.here hx rfl (hb hby d3_9) rfl rfl k))) ?_
  show own_Goes p e below (T896.setTop (mkF m 10 #[rv a885, iv p886, rv w59, rv w76] [(.ref w76)])) _
  obtain ⟨_, T898, _, X898, hQ898, st898⟩ := own_cs X896 hx hZ hown (wd hw 31 rfl) (wd hw 32 rfl) (wd hw 34 rfl) (wd hw 33 rfl) (by decide) (rm46 l Z a0 hw [] w76 h0 n0 O0 ) hh897 (g := (mkF m 10 #[rv a885, iv p886, rv w59, rv w76] [(.ref w76)])) rfl (by rw [hml]; rfl) (rest := []) (W := 0) (lenOf pd_4 rfl) rfl (by show 2 * 0 + _ ≤ _; exact Nat.le_of_eq rfl) (hb hby d3_10) (by decide) (by decide) (by decide) (by decide)
  obtain ⟨rfl, Nq898, hh908⟩ := hQ898
  have N898 := Fr.app N896 Nq898
  refine own_via (fun t k => st898 t (XS.pop X898.here hx rfl (hb hby d3_13) rfl rfl (XS.iloadN X898.here hx rfl (hb hby d3_14) rfl (XS.ifYes X898.here hx rfl (pc0 := 15) (pc' := 32) rfl (hb hby d3_15) rfl ((if0 _ _).trans (flt pC888).2.1) (by decide) (by decide) (XS.aloadN X898.here hx rfl (hb hby d3_32) rfl rfl (XS.iloadN X898.here hx rfl (hb hby d3_33) rfl k)))))) ?_
  show own_Goes p e below (T898.setTop (mkF m 34 #[rv a885, iv p886, rv w59, rv w76] [(.int p886), (.ref a885)])) _
  obtain ⟨T909, h909, X909, e909, W909, st909⟩ := putF X898 hx hZ hown (host := "") (Or.inl (wd hw 35 rfl)) Via.refl hh908 pF_a885_opponent pE_a885 (Or.inr ⟨(wd hw 36 rfl), rfl, hnm⟩) (wd hw 19 rfl) (ty := .int) (by decide) rfl rfl (g := (mkF m 34 #[rv a885, iv p886, rv w59, rv w76] [(.int p886), (.ref a885)])) rfl rfl (hb hby d3_34)
  refine own_via (fun t k => st909 t k) ?_
  have Fw909 : Fld Z h909 a885 zs1 "opponent" "I" (.int p886) := pF_a885_opponent.same W909
  have N909 := Fr.snoc X909 N898 pG_a885
  show own_Goes p e below (T909.setTop (mkF m 37 #[rv a885, iv p886, rv w59, rv w76] [])) _
  refine own_via (fun t k => XS.aloadN X909.here hx rfl (hb hby d3_37) rfl rfl (XS.aloadN X909.here hx rfl (hb hby d3_38) rfl rfl k)) ?_
  have F910 : Fld Z h909 a885 zs1 "colour" zs6 .null := (pF_a885_colour.other W909 (Or.inr (slot_ne (Or.inr (wd hw 17 rfl)) (Or.inr (wd hw 36 rfl)) (by decide) (t := (.object zs7)) (t' := .int) (by decide) (by decide))))
  have E911 : Exa Z h909 a885 zs1 := (pE_a885.wr W909)
  obtain ⟨T912, h912, X912, e912, W912, st912⟩ := putF X909 hx hZ hown (host := "") (Or.inl (wd hw 16 rfl)) Via.refl e909 F910 E911 (Or.inr ⟨(wd hw 17 rfl), rfl, hnm⟩) (wd hw 19 rfl) (ty := (.object zs7)) (by decide) rfl rfl (g := (mkF m 39 #[rv a885, iv p886, rv w59, rv w76] [(.ref w59), (.ref a885)])) rfl rfl (hb hby d3_39)
  refine own_via (fun t k => st912 t k) ?_
  have Fw912 : Fld Z h912 a885 zs1 "colour" zs6 (.ref w59) := F910.same W912
  have N912 := Fr.snoc X912 N909 pG_a885
  show own_Goes p e below (T912.setTop (mkF m 42 #[rv a885, iv p886, rv w59, rv w76] [])) _
  refine own_via (fun t k => XS.aloadN X912.here hx rfl (hb hby d3_42) rfl rfl (XS.aloadN X912.here hx rfl (hb hby d3_43) rfl rfl k)) ?_
  have F913 : Fld Z h912 a885 zs1 "result" zs3 .null := ((pF_a885_result.other W909 (Or.inr (slot_ne (Or.inr (wd hw 38 rfl)) (Or.inr (wd hw 36 rfl)) (by decide) (t := (.object zs2)) (t' := .int) (by decide) (by decide)))).other W912 (Or.inr (slot_ne (Or.inr (wd hw 38 rfl)) (Or.inr (wd hw 17 rfl)) (by decide) (t := (.object zs2)) (t' := (.object zs7)) (by decide) (by decide))))
  have E914 : Exa Z h912 a885 zs1 := (E911.wr W912)
  obtain ⟨T915, h915, X915, e915, W915, st915⟩ := putF X912 hx hZ hown (host := "") (Or.inl (wd hw 37 rfl)) Via.refl e912 F913 E914 (Or.inr ⟨(wd hw 38 rfl), rfl, hnm⟩) (wd hw 19 rfl) (ty := (.object zs2)) (by decide) rfl rfl (g := (mkF m 44 #[rv a885, iv p886, rv w59, rv w76] [(.ref w76), (.ref a885)])) rfl rfl (hb hby d3_44)
  refine own_via (fun t k => st915 t k) ?_
  have Fw915 : Fld Z h915 a885 zs1 "result" zs3 (.ref w76) := F913.same W915
  have N915 := Fr.snoc X915 N912 pG_a885
  show own_Goes p e below (T915.setTop (mkF m 47 #[rv a885, iv p886, rv w59, rv w76] [])) _
  obtain ⟨fs, hr, hrun, hended, hW, hsame⟩ := X915.leave (v := none) (fun _ => rfl)
  refine own_end (t := T915.setFrames fs) ?_ ⟨_, hrun, hended, _, _, rfl, ?_, ⟨_, rfl⟩, hW, hsame.mono (by decide) (by decide)⟩
  · exact X915.returnOut hx Bd.returns (hb hby d3_47) hr
  have E916 : Exa Z h915 a885 zs1 := (E914.wr W915)
  have F917 : Fld Z h915 a885 zs1 "colour" zs6 (.ref w59) := (Fw912.other W915 (Or.inr (slot_ne (Or.inr (wd hw 17 rfl)) (Or.inr (wd hw 38 rfl)) (by decide) (t := (.object zs7)) (t' := (.object zs2)) (by decide) (by decide))))
  have F918 : Fld Z h915 a885 zs1 "opponent" "I" (.int p886) := ((Fw909.other W912 (Or.inr (slot_ne (Or.inr (wd hw 36 rfl)) (Or.inr (wd hw 17 rfl)) (by decide) (t := .int) (t' := (.object zs7)) (by decide) (by decide)))).other W915 (Or.inr (slot_ne (Or.inr (wd hw 36 rfl)) (Or.inr (wd hw 38 rfl)) (by decide) (t := .int) (t' := (.object zs2)) (by decide) (by decide))))
  · show Q47 Z a885 p886 w59 w76 p887 h0 n0 _ T915.heap _
    rw [e915]
    exact ⟨rfl, N915, ((((Keep.refl h0 [a885]).wr W909 (Or.inl (List.mem_of_getElem? (i := 0) rfl))).wr W912 (Or.inl (List.mem_of_getElem? (i := 0) rfl))).wr W915 (Or.inl (List.mem_of_getElem? (i := 0) rfl))), E916, F917, F918, Fw915⟩
def Q48 (Z : State) (w76 : Addr) (h0 : Heap) (n0 : Nat) (v : Option Value) (h : Heap) (L : List Loc) : Prop := v = some (.int (0 : Int32)) ∧ Fr n0 L ∧ h = h0
set_option maxRecDepth 65536 in
set_option maxHeartbeats 40000000 in
theorem rm48 (l : Launch) (Z : State) (a0 : Array Value) (hw : ∀ d ∈ tables_1, d.before a0 Z = true) (ws : List Jvm.Cond) (w76 : Addr) (h0 : Heap) (n0 : Nat) (O0 : Old Z n0 h0) (SF_w76_game : Fld Z Z.heap w76 zs2 "game" "Z" (.int (0 : Int32))) :
    MetFree l (⟨zs2, "isGame", "()Z"⟩ : MethodName) (head1 (Jvm.Cond.code (⟨zs2, "isGame", "()Z"⟩ : MethodName) prog_43_method_7_code 1 (some .boolean) :: ws) ({ frames := 0, cells := 0, slots := 0, locals := 0 } : Room)) (fun a U => a = #[(.ref w76)] ∧ Z.Warmed39 U.vm ∧ U.heap = h0) (fun _ _ _ _ _ => True) (fun _ U o U' => ∃ v L, o = .returned v ∧ Q48 Z w76 h0 n0 v U'.heap L ∧ FrameEnd U o U' L ({ frames := 0, cells := 0, slots := 0, locals := 0 } : Room).cells ({ frames := 0, cells := 0, slots := 0, locals := 0 } : Room).slots) := by
  refine MetFree.of_bodySF (plainFor_of_name pn_5) hisR ?_
  intro p e s m args below meth c s₁ Bd hml0 hP hK
  obtain ⟨rfl, hZ, hh⟩ := hP
  have hx := Bd.exec
  have hby := Bd.bytes
  have hml : c.maxLocals = 1 := hml0
  have hown : s.vm.findClass zs2 = some m.cls := findClass_of_methodNamed Bd.named
  have hnm := (name_of_methodNamed Bd.named Bd.method).1
  have X0 : Stand p l e ({ frames := 0, cells := 0, slots := 0, locals := 0 } : Room) s m #[(.ref w76)] below meth c s₁ [] 0 0 := Stand.of_body Bd
  have e0 : s₁.heap = h0 := by rw [← hh, Bd.state]; rfl
  have N0 := Fr.nil n0
  refine own_out ?_
  refine own_via (fun t k => castTop (ef_7 m w76) (XS.aloadN X0.here hx rfl (hb hby d8_0) rfl rfl k)) ?_
  obtain ⟨T950, X950, e950, st950⟩ := getF X0 hx hZ hown (host := "") (Or.inl (wd hw 51 rfl)) Via.refl e0 (SF_w76_game.ext O0.2) (g := (mkF m 1 #[rv w76] [(.ref w76)])) rfl rfl (hb hby d8_1)
  refine own_via (fun t k => st950 t k) ?_
  obtain ⟨fs, hr, hrun, hended, hW, hsame⟩ := X950.leave (v := some (.int (0 : Int32))) (fun h => by rw [Bd.returns] at h; cases h)
  refine own_end (t := T950.setFrames fs) ?_ ⟨_, hrun, hended, _, _, rfl, ?_, ⟨_, rfl⟩, hW, hsame.mono (by decide) (by decide)⟩
  · exact retN X950 hx (t := .boolean) Bd.returns (by simp) (hb hby d8_4) hr
  · show Q48 Z w76 h0 n0 _ T950.heap _
    rw [e950]
    exact ⟨rfl, N0, rfl⟩
def Q49 (Z : State) (a929 : Addr) (p930 : Int32) (w76 : Addr) (h0 : Heap) (n0 : Nat) (v : Option Value) (h : Heap) (L : List Loc) : Prop := v = some (.int (0 : Int32)) ∧ Fr n0 L ∧ h = h0
set_option maxRecDepth 65536 in
set_option maxHeartbeats 40000000 in
theorem rm49 (l : Launch) (Z : State) (a0 : Array Value) (hw : ∀ d ∈ tables_1, d.before a0 Z = true) (ws : List Jvm.Cond) (a929 : Addr) (p930 : Int32) (w76 : Addr) (h0 : Heap) (n0 : Nat) (O0 : Old Z n0 h0) (pF_a929_opponent : Fld Z h0 a929 zs1 "opponent" "I" (.int p930)) (pC937 : ¬ (p930 = (0 : Int32))) (pF_a929_result : Fld Z h0 a929 zs1 "result" zs3 (.ref w76)) (SF_w76_game : Fld Z Z.heap w76 zs2 "game" "Z" (.int (0 : Int32))) (SE_w76 : Exa Z Z.heap w76 zs2) :
    MetFree l (⟨zs1, zs12, "()Z"⟩ : MethodName) (head1 (Jvm.Cond.code (⟨zs1, zs12, "()Z"⟩ : MethodName) prog_45_method_4_code 1 (some .boolean) :: ws) ({ frames := 1, cells := 0, slots := 0, locals := 12 } : Room)) (fun a U => a = #[(.ref a929)] ∧ Z.Warmed39 U.vm ∧ U.heap = h0) (fun _ _ _ _ _ => True) (fun _ U o U' => ∃ v L, o = .returned v ∧ Q49 Z a929 p930 w76 h0 n0 v U'.heap L ∧ FrameEnd U o U' L ({ frames := 1, cells := 0, slots := 0, locals := 12 } : Room).cells ({ frames := 1, cells := 0, slots := 0, locals := 12 } : Room).slots) := by
  refine MetFree.of_bodySF (plainFor_of_name pn_2) hisR ?_
  intro p e s m args below meth c s₁ Bd hml0 hP hK
  obtain ⟨rfl, hZ, hh⟩ := hP
  have hx := Bd.exec
  have hby := Bd.bytes
  have hml : c.maxLocals = 1 := hml0
  have hown : s.vm.findClass zs1 = some m.cls := findClass_of_methodNamed Bd.named
  have hnm := (name_of_methodNamed Bd.named Bd.method).1
  have X0 : Stand p l e ({ frames := 1, cells := 0, slots := 0, locals := 12 } : Room) s m #[(.ref a929)] below meth c s₁ [] 0 0 := Stand.of_body Bd
  have e0 : s₁.heap = h0 := by rw [← hh, Bd.state]; rfl
  have N0 := Fr.nil n0
  refine own_out ?_
  refine own_via (fun t k => castTop (ef_6 m a929) (XS.aloadN X0.here hx rfl (hb hby d7_0) rfl rfl k)) ?_
  obtain ⟨T938, X938, e938, st938⟩ := getF X0 hx hZ hown (host := "") (Or.inl (wd hw 35 rfl)) Via.refl e0 pF_a929_opponent (g := (mkF m 1 #[rv a929] [(.ref a929)])) rfl rfl (hb hby d7_1)
  refine own_via (fun t k => st938 t (XS.ifNo X938.here hx rfl (hb hby d7_4) rfl ((if0 _ _).trans (feq pC937).1) (XS.aloadN X938.here hx rfl (hb hby d7_7) rfl rfl k))) ?_
  show own_Goes p e below (T938.setTop (mkF m 8 #[rv a929] [(.ref a929)])) _
  obtain ⟨T939, X939, e939, st939⟩ := getF X938 hx hZ hown (host := "") (Or.inl (wd hw 37 rfl)) Via.refl e938 pF_a929_result (g := (mkF m 8 #[rv a929] [(.ref a929)])) rfl rfl (hb hby d7_8)
  refine own_via (fun t k => st939 t k) ?_
  obtain ⟨_, T940, _, X940, hQ940, st940⟩ := own_cv X939 hx hZ hown (wd hw 46 rfl) (wd hw 47 rfl) (wd hw 49 rfl) (wd hw 48 rfl) (wd hw 50 rfl) (wd hw 6 rfl) (by decide) (rm48 l Z a0 hw [] w76 h0 n0 O0 SF_w76_game) e939 (SE_w76.ext O0.2) (g := (mkF m 11 #[rv a929] [(.ref w76)])) rfl (by rw [hml]; rfl) (rest := []) (W := 0) (lenOf pd_6 rfl) rfl (by show 2 * 0 + _ ≤ _; exact Nat.le_of_eq rfl) (hb hby d7_11) (by decide) (by decide) (by decide) (by decide)
  obtain ⟨rfl, Nq940, hh951⟩ := hQ940
  have N940 := Fr.app N0 Nq940
  refine own_via (fun t k => st940 t (XS.ifYes X940.here hx rfl (pc0 := 14) (pc' := 21) rfl (hb hby d7_14) rfl ((if0 _ _).trans (teq (by decide : (0 : Int32) = (0 : Int32))).1) (by decide) (by decide) (XS.iconst X940.here hx rfl (hb hby d7_21) k))) ?_
  show own_Goes p e below (T940.setTop (mkF m 22 #[rv a929] [(.int (0 : Int32))])) _
  obtain ⟨fs, hr, hrun, hended, hW, hsame⟩ := X940.leave (v := some (.int (0 : Int32))) (fun h => by rw [Bd.returns] at h; cases h)
  refine own_end (t := T940.setFrames fs) ?_ ⟨_, hrun, hended, _, _, rfl, ?_, ⟨_, rfl⟩, hW, hsame.mono (by decide) (by decide)⟩
  · exact retN X940 hx (t := .boolean) Bd.returns (by simp) (hb hby d7_22) hr
  · show Q49 Z a929 p930 w76 h0 n0 _ T940.heap _
    rw [hh951]
    exact ⟨rfl, N940, rfl⟩
theorem d1_83 : decode method_2_code 83 = .ok (.iload_n 0, 1) := by decide +kernel
theorem d1_84 : decode method_2_code 84 = .ok (.bipush 9, 2) := by decide +kernel
theorem d1_86 : decode method_2_code 86 = .ok (.if_icmp .ne 7, 3) := by decide +kernel
theorem d1_89 : decode method_2_code 89 = .ok (.getstatic 37, 3) := by decide +kernel
theorem d1_92 : decode method_2_code 92 = .ok (.areturn, 1) := by decide +kernel
def Q50 (Z : State) (w88 : Addr) (h0 : Heap) (n0 : Nat) (v : Option Value) (h : Heap) (L : List Loc) : Prop := v = some (.ref w88) ∧ Fr n0 L ∧ h = h0
set_option maxRecDepth 65536 in
set_option maxHeartbeats 40000000 in
theorem rm50 (l : Launch) (Z : State) (a0 : Array Value) (hw : ∀ d ∈ tables_1, d.before a0 Z = true) (ws : List Jvm.Cond) (w88 : Addr) (h0 : Heap) (n0 : Nat) (O0 : Old Z n0 h0) (S_Result_FULL_POINT_BYE : Sta Z Z.heap zs2 "FULL_POINT_BYE" zs3 (.ref w88)) :
    MetFree l (⟨zs4, "pick", zs8⟩ : MethodName) (head1 (Jvm.Cond.code (⟨zs4, "pick", zs8⟩ : MethodName) method_2_code 1 (some (.object zs2)) :: ws) ({ frames := 0, cells := 0, slots := 0, locals := 0 } : Room)) (fun a U => a = #[(.int (9 : Int32))] ∧ Z.Warmed39 U.vm ∧ U.heap = h0) (fun _ _ _ _ _ => True) (fun _ U o U' => ∃ v L, o = .returned v ∧ Q50 Z w88 h0 n0 v U'.heap L ∧ FrameEnd U o U' L ({ frames := 0, cells := 0, slots := 0, locals := 0 } : Room).cells ({ frames := 0, cells := 0, slots := 0, locals := 0 } : Room).slots) := by
  refine MetFree.of_bodySF (plainFor_of_name pn_1) hisR ?_
  intro p e s m args below meth c s₁ Bd hml0 hP hK
  obtain ⟨rfl, hZ, hh⟩ := hP
  have hx := Bd.exec
  have hby := Bd.bytes
  have hml : c.maxLocals = 1 := hml0
  have hown : s.vm.findClass zs4 = some m.cls := findClass_of_methodNamed Bd.named
  have hnm := (name_of_methodNamed Bd.named Bd.method).1
  have X0 : Stand p l e ({ frames := 0, cells := 0, slots := 0, locals := 0 } : Room) s m #[(.int (9 : Int32))] below meth c s₁ [] 0 0 := Stand.of_body Bd
  have e0 : s₁.heap = h0 := by rw [← hh, Bd.state]; rfl
  have N0 := Fr.nil n0
  refine own_out ?_
  refine own_via (fun t k => castTop (ef_1 m (9 : Int32)) (XS.iloadN X0.here hx rfl (hb hby d1_0) rfl (XS.ifYes X0.here hx rfl (pc0 := 1) (pc' := 8) rfl (hb hby d1_1) rfl ((if0 _ _).trans (feq (by decide : ¬ ((9 : Int32) = (0 : Int32)))).2) (by decide) (by decide) (XS.iloadN X0.here hx rfl (hb hby d1_8) rfl (XS.iconst X0.here hx rfl (hb hby d1_9) (XS.icmpYes X0.here hx rfl (pc0 := 10) (pc' := 17) rfl (hb hby d1_10) rfl (feq (by decide : ¬ ((9 : Int32) = (1 : Int32)))).2 (by decide) (by decide) (XS.iloadN X0.here hx rfl (hb hby d1_17) rfl (XS.iconst X0.here hx rfl (hb hby d1_18) (XS.icmpYes X0.here hx rfl (pc0 := 19) (pc' := 26) rfl (hb hby d1_19) rfl (feq (by decide : ¬ ((9 : Int32) = (2 : Int32)))).2 (by decide) (by decide) (XS.iloadN X0.here hx rfl (hb hby d1_26) rfl (XS.iconst X0.here hx rfl (hb hby d1_27) (XS.icmpYes X0.here hx rfl (pc0 := 28) (pc' := 35) rfl (hb hby d1_28) rfl (feq (by decide : ¬ ((9 : Int32) = (3 : Int32)))).2 (by decide) (by decide) k)))))))))))) ?_
  show own_Goes p e below (s₁.setTop (mkF m 35 #[iv (9 : Int32)] [])) _
  refine own_via (fun t k => XS.iloadN X0.here hx rfl (hb hby d1_35) rfl (XS.iconst X0.here hx rfl (hb hby d1_36) (XS.icmpYes X0.here hx rfl (pc0 := 37) (pc' := 44) rfl (hb hby d1_37) rfl (feq (by decide : ¬ ((9 : Int32) = (4 : Int32)))).2 (by decide) (by decide) (XS.iloadN X0.here hx rfl (hb hby d1_44) rfl (XS.iconst X0.here hx rfl (hb hby d1_45) (XS.icmpYes X0.here hx rfl (pc0 := 46) (pc' := 53) rfl (hb hby d1_46) rfl (feq (by decide : ¬ ((9 : Int32) = (5 : Int32)))).2 (by decide) (by decide) (XS.iloadN X0.here hx rfl (hb hby d1_53) rfl (XS.bipush X0.here hx rfl (hb hby d1_54) (XS.icmpYes X0.here hx rfl (pc0 := 56) (pc' := 63) rfl (hb hby d1_56) rfl (feq (by decide : ¬ ((9 : Int32) = (6 : Int32)))).2 (by decide) (by decide) (XS.iloadN X0.here hx rfl (hb hby d1_63) rfl (XS.bipush X0.here hx rfl (hb hby d1_64) (XS.icmpYes X0.here hx rfl (pc0 := 66) (pc' := 73) rfl (hb hby d1_66) rfl (feq (by decide : ¬ ((9 : Int32) = (7 : Int32)))).2 (by decide) (by decide) k)))))))))))) ?_
  show own_Goes p e below (s₁.setTop (mkF m 73 #[iv (9 : Int32)] [])) _
  refine own_via (fun t k => XS.iloadN X0.here hx rfl (hb hby d1_73) rfl (XS.bipush X0.here hx rfl (hb hby d1_74) (XS.icmpYes X0.here hx rfl (pc0 := 76) (pc' := 83) rfl (hb hby d1_76) rfl (feq (by decide : ¬ ((9 : Int32) = (8 : Int32)))).2 (by decide) (by decide) (XS.iloadN X0.here hx rfl (hb hby d1_83) rfl (XS.bipush X0.here hx rfl (hb hby d1_84) (XS.icmpNo X0.here hx rfl (hb hby d1_86) rfl (teq (by decide : (9 : Int32) = (9 : Int32))).2 k)))))) ?_
  show own_Goes p e below (s₁.setTop (mkF m 89 #[iv (9 : Int32)] [])) _
  obtain ⟨T963, X963, e963, st963⟩ := getS2 X0 hx hZ hown (host := "") (Or.inl (wd hw 69 rfl)) Via.refl e0 (S_Result_FULL_POINT_BYE.ext O0.2) (g := (mkF m 89 #[iv (9 : Int32)] [])) rfl (hb hby d1_89)
  refine own_via (fun t k => st963 t k) ?_
  obtain ⟨fs, hr, hrun, hended, hW, hsame⟩ := X963.leave (v := some (.ref w88)) (fun h => by rw [Bd.returns] at h; cases h)
  refine own_end (t := T963.setFrames fs) ?_ ⟨_, hrun, hended, _, _, rfl, ?_, ⟨_, rfl⟩, hW, hsame.mono (by decide) (by decide)⟩
  · jvm_step X963.here [X963.here.top, hx, (hb hby d1_92), X963.method', Bd.returns, Value.isRef, FieldType.isReference]
    first | (intro acts; rw [hr _ acts rfl rfl rfl]) | rw [hr _ _ rfl rfl rfl]
    exact Steps.refl _
  · show Q50 Z w88 h0 n0 _ T963.heap _
    rw [e963]
    exact ⟨rfl, N0, rfl⟩
def Q51 (Z : State) (w88 : Addr) (h0 : Heap) (n0 : Nat) (v : Option Value) (h : Heap) (L : List Loc) : Prop := v = some (.ref w88) ∧ Fr n0 L ∧ h = h0
set_option maxRecDepth 65536 in
set_option maxHeartbeats 40000000 in
theorem rm51 (l : Launch) (Z : State) (a0 : Array Value) (hw : ∀ d ∈ tables_1, d.before a0 Z = true) (ws : List Jvm.Cond) (w88 : Addr) (h0 : Heap) (n0 : Nat) (O0 : Old Z n0 h0) :
    MetFree l (⟨zs10, zs11, zs9⟩ : MethodName) (head1 (Jvm.Cond.code (⟨zs10, zs11, zs9⟩ : MethodName) jdk_31_method_10_code 1 (some (.object zs13)) :: ws) ({ frames := 0, cells := 0, slots := 0, locals := 0 } : Room)) (fun a U => a = #[(.ref w88)] ∧ Z.Warmed39 U.vm ∧ U.heap = h0) (fun _ _ _ _ _ => True) (fun _ U o U' => ∃ v L, o = .returned v ∧ Q51 Z w88 h0 n0 v U'.heap L ∧ FrameEnd U o U' L ({ frames := 0, cells := 0, slots := 0, locals := 0 } : Room).cells ({ frames := 0, cells := 0, slots := 0, locals := 0 } : Room).slots) := by
  refine MetFree.of_bodySF (plainFor_of_name pn_4) hisR ?_
  intro p e s m args below meth c s₁ Bd hml0 hP hK
  obtain ⟨rfl, hZ, hh⟩ := hP
  have hx := Bd.exec
  have hby := Bd.bytes
  have hml : c.maxLocals = 1 := hml0
  have hown : s.vm.findClass zs10 = some m.cls := findClass_of_methodNamed Bd.named
  have hnm := (name_of_methodNamed Bd.named Bd.method).1
  have X0 : Stand p l e ({ frames := 0, cells := 0, slots := 0, locals := 0 } : Room) s m #[(.ref w88)] below meth c s₁ [] 0 0 := Stand.of_body Bd
  have e0 : s₁.heap = h0 := by rw [← hh, Bd.state]; rfl
  have N0 := Fr.nil n0
  refine own_out ?_
  refine own_via (fun t k => castTop (ef_4 m w88) (XS.aloadN X0.here hx rfl (hb hby d6_0) rfl rfl (XS.ifnonnullYes X0.here hx rfl (pc0 := 1) (pc' := 12) rfl (hb hby d6_1) rfl (by decide) (by decide) (XS.aloadN X0.here hx rfl (hb hby d6_12) rfl rfl k)))) ?_
  show own_Goes p e below (s₁.setTop (mkF m 13 #[rv w88] [(.ref w88)])) _
  obtain ⟨fs, hr, hrun, hended, hW, hsame⟩ := X0.leave (v := some (.ref w88)) (fun h => by rw [Bd.returns] at h; cases h)
  refine own_end (t := s₁.setFrames fs) ?_ ⟨_, hrun, hended, _, _, rfl, ?_, ⟨_, rfl⟩, hW, hsame.mono (by decide) (by decide)⟩
  · jvm_step X0.here [X0.here.top, hx, (hb hby d6_13), X0.method', Bd.returns, Value.isRef, FieldType.isReference]
    first | (intro acts; rw [hr _ acts rfl rfl rfl]) | rw [hr _ _ rfl rfl rfl]
    exact Steps.refl _
  · show Q51 Z w88 h0 n0 _ s₁.heap _
    rw [e0]
    exact ⟨rfl, N0, rfl⟩
def Q52 (Z : State) (a976 : Addr) (p977 : Int32) (w59 : Addr) (w88 : Addr) (p978 : Int32) (h0 : Heap) (n0 : Nat) (v : Option Value) (h : Heap) (L : List Loc) : Prop := v = none ∧ Fr n0 L ∧ Keep h0 h [a976] ∧ Exa Z h a976 zs1 ∧ Fld Z h a976 zs1 "colour" zs6 (.ref w59) ∧ Fld Z h a976 zs1 "opponent" "I" (.int p977) ∧ Fld Z h a976 zs1 "result" zs3 (.ref w88)
set_option maxRecDepth 65536 in
set_option maxHeartbeats 40000000 in
theorem rm52 (l : Launch) (Z : State) (a0 : Array Value) (hw : ∀ d ∈ tables_1, d.before a0 Z = true) (ws : List Jvm.Cond) (a976 : Addr) (p977 : Int32) (w59 : Addr) (w88 : Addr) (p978 : Int32) (h0 : Heap) (n0 : Nat) (O0 : Old Z n0 h0) (pC979 : ¬ (p977 < (0 : Int32))) (pF_a976_opponent : Fld Z h0 a976 zs1 "opponent" "I" (.int p978)) (pE_a976 : Exa Z h0 a976 zs1) (pG_a976 : n0 ≤ a976) (pF_a976_colour : Fld Z h0 a976 zs1 "colour" zs6 .null) (pF_a976_result : Fld Z h0 a976 zs1 "result" zs3 .null) :
    MetFree l (⟨zs1, "<init>", zs5⟩ : MethodName) (head1 (Jvm.Cond.code (⟨zs1, "<init>", zs5⟩ : MethodName) prog_45_method_1_code 4 none :: ws) ({ frames := 2, cells := 0, slots := 0, locals := 24 } : Room)) (fun a U => a = #[(.ref a976), (.int p977), (.ref w59), (.ref w88)] ∧ Z.Warmed39 U.vm ∧ U.heap = h0) (fun _ _ _ _ _ => True) (fun _ U o U' => ∃ v L, o = .returned v ∧ Q52 Z a976 p977 w59 w88 p978 h0 n0 v U'.heap L ∧ FrameEnd U o U' L ({ frames := 2, cells := 0, slots := 0, locals := 24 } : Room).cells ({ frames := 2, cells := 0, slots := 0, locals := 24 } : Room).slots) := by
  refine MetFree.of_bodySF (plainFor_of_name pn_2) hisR ?_
  intro p e s m args below meth c s₁ Bd hml0 hP hK
  obtain ⟨rfl, hZ, hh⟩ := hP
  have hx := Bd.exec
  have hby := Bd.bytes
  have hml : c.maxLocals = 4 := hml0
  have hown : s.vm.findClass zs1 = some m.cls := findClass_of_methodNamed Bd.named
  have hnm := (name_of_methodNamed Bd.named Bd.method).1
  have X0 : Stand p l e ({ frames := 2, cells := 0, slots := 0, locals := 24 } : Room) s m #[(.ref a976), (.int p977), (.ref w59), (.ref w88)] below meth c s₁ [] 0 0 := Stand.of_body Bd
  have e0 : s₁.heap = h0 := by rw [← hh, Bd.state]; rfl
  have N0 := Fr.nil n0
  refine own_out ?_
  refine own_via (fun t k => castTop (ef_5 m a976 p977 w59 w88) (XS.aloadN X0.here hx rfl (hb hby d3_0) rfl rfl k)) ?_
  obtain ⟨_, T985, _, X985, hQ985, st985⟩ := own_ci X0 hx hZ hown (wd hw 23 rfl) (wd hw 24 rfl) (wd hw 27 rfl) (wd hw 26 rfl) rfl (by decide) (rm3 l Z a0 hw [] a976 h0 n0 O0 ) e0 (g := (mkF m 1 #[rv a976, iv p977, rv w59, rv w88] [(.ref a976)])) rfl (by rw [hml]; rfl) (rest := []) (W := 0) (lenOf pd_3 rfl) rfl (by show 2 * 0 + _ ≤ _; exact Nat.le_of_eq rfl) (hb hby d3_1) (by decide) (by decide) (by decide) (by decide)
  obtain ⟨rfl, Nq985, hh986⟩ := hQ985
  have N985 := Fr.app N0 Nq985
  refine own_via (fun t k => st985 t (XS.aloadN X985.here hx rfl (hb hby d3_4) rfl rfl k)) ?_
  obtain ⟨_, T987, _, X987, hQ987, st987⟩ := own_cs X985 hx hZ hown (wd hw 31 rfl) (wd hw 32 rfl) (wd hw 34 rfl) (wd hw 33 rfl) (by decide) (rm4 l Z a0 hw [] w59 h0 n0 O0 ) hh986 (g := (mkF m 5 #[rv a976, iv p977, rv w59, rv w88] [(.ref w59)])) rfl (by rw [hml]; rfl) (rest := []) (W := 0) (lenOf pd_4 rfl) rfl (by show 2 * 0 + _ ≤ _; exact Nat.le_of_eq rfl) (hb hby d3_5) (by decide) (by decide) (by decide) (by decide)
  obtain ⟨rfl, Nq987, hh988⟩ := hQ987
  have N987 := Fr.app N985 Nq987
  refine own_via (fun t k => st987 t (XS.pop X987.here hx rfl (hb hby d3_8) rfl rfl (XS.aloadN X987.here hx rfl (hb hby d3_9) rfl rfl k))) ?_
  show own_Goes p e below (T987.setTop (mkF m 10 #[rv a976, iv p977, rv w59, rv w88] [(.ref w88)])) _
  obtain ⟨_, T989, _, X989, hQ989, st989⟩ := own_cs X987 hx hZ hown (wd hw 31 rfl) (wd hw 32 rfl) (wd hw 34 rfl) (wd hw 33 rfl) (by decide) (rm51 l Z a0 hw [] w88 h0 n0 O0 ) hh988 (g := (mkF m 10 #[rv a976, iv p977, rv w59, rv w88] [(.ref w88)])) rfl (by rw [hml]; rfl) (rest := []) (W := 0) (lenOf pd_4 rfl) rfl (by show 2 * 0 + _ ≤ _; exact Nat.le_of_eq rfl) (hb hby d3_10) (by decide) (by decide) (by decide) (by decide)
  obtain ⟨rfl, Nq989, hh999⟩ := hQ989
  have N989 := Fr.app N987 Nq989
  refine own_via (fun t k => st989 t (XS.pop X989.here hx rfl (hb hby d3_13) rfl rfl (XS.iloadN X989.here hx rfl (hb hby d3_14) rfl (XS.ifYes X989.here hx rfl (pc0 := 15) (pc' := 32) rfl (hb hby d3_15) rfl ((if0 _ _).trans (flt pC979).2.1) (by decide) (by decide) (XS.aloadN X989.here hx rfl (hb hby d3_32) rfl rfl (XS.iloadN X989.here hx rfl (hb hby d3_33) rfl k)))))) ?_
  show own_Goes p e below (T989.setTop (mkF m 34 #[rv a976, iv p977, rv w59, rv w88] [(.int p977), (.ref a976)])) _
  obtain ⟨T1000, h1000, X1000, e1000, W1000, st1000⟩ := putF X989 hx hZ hown (host := "") (Or.inl (wd hw 35 rfl)) Via.refl hh999 pF_a976_opponent pE_a976 (Or.inr ⟨(wd hw 36 rfl), rfl, hnm⟩) (wd hw 19 rfl) (ty := .int) (by decide) rfl rfl (g := (mkF m 34 #[rv a976, iv p977, rv w59, rv w88] [(.int p977), (.ref a976)])) rfl rfl (hb hby d3_34)
  refine own_via (fun t k => st1000 t k) ?_
  have Fw1000 : Fld Z h1000 a976 zs1 "opponent" "I" (.int p977) := pF_a976_opponent.same W1000
  have N1000 := Fr.snoc X1000 N989 pG_a976
  show own_Goes p e below (T1000.setTop (mkF m 37 #[rv a976, iv p977, rv w59, rv w88] [])) _
  refine own_via (fun t k => XS.aloadN X1000.here hx rfl (hb hby d3_37) rfl rfl (XS.aloadN X1000.here hx rfl (hb hby d3_38) rfl rfl k)) ?_
  have F1001 : Fld Z h1000 a976 zs1 "colour" zs6 .null := (pF_a976_colour.other W1000 (Or.inr (slot_ne (Or.inr (wd hw 17 rfl)) (Or.inr (wd hw 36 rfl)) (by decide) (t := (.object zs7)) (t' := .int) (by decide) (by decide))))
  have E1002 : Exa Z h1000 a976 zs1 := (pE_a976.wr W1000)
  obtain ⟨T1003, h1003, X1003, e1003, W1003, st1003⟩ := putF X1000 hx hZ hown (host := "") (Or.inl (wd hw 16 rfl)) Via.refl e1000 F1001 E1002 (Or.inr ⟨(wd hw 17 rfl), rfl, hnm⟩) (wd hw 19 rfl) (ty := (.object zs7)) (by decide) rfl rfl (g := (mkF m 39 #[rv a976, iv p977, rv w59, rv w88] [(.ref w59), (.ref a976)])) rfl rfl (hb hby d3_39)
  refine own_via (fun t k => st1003 t k) ?_
  have Fw1003 : Fld Z h1003 a976 zs1 "colour" zs6 (.ref w59) := F1001.same W1003
  have N1003 := Fr.snoc X1003 N1000 pG_a976
  show own_Goes p e below (T1003.setTop (mkF m 42 #[rv a976, iv p977, rv w59, rv w88] [])) _
  refine own_via (fun t k => XS.aloadN X1003.here hx rfl (hb hby d3_42) rfl rfl (XS.aloadN X1003.here hx rfl (hb hby d3_43) rfl rfl k)) ?_
  have F1004 : Fld Z h1003 a976 zs1 "result" zs3 .null := ((pF_a976_result.other W1000 (Or.inr (slot_ne (Or.inr (wd hw 38 rfl)) (Or.inr (wd hw 36 rfl)) (by decide) (t := (.object zs2)) (t' := .int) (by decide) (by decide)))).other W1003 (Or.inr (slot_ne (Or.inr (wd hw 38 rfl)) (Or.inr (wd hw 17 rfl)) (by decide) (t := (.object zs2)) (t' := (.object zs7)) (by decide) (by decide))))
  have E1005 : Exa Z h1003 a976 zs1 := (E1002.wr W1003)
  obtain ⟨T1006, h1006, X1006, e1006, W1006, st1006⟩ := putF X1003 hx hZ hown (host := "") (Or.inl (wd hw 37 rfl)) Via.refl e1003 F1004 E1005 (Or.inr ⟨(wd hw 38 rfl), rfl, hnm⟩) (wd hw 19 rfl) (ty := (.object zs2)) (by decide) rfl rfl (g := (mkF m 44 #[rv a976, iv p977, rv w59, rv w88] [(.ref w88), (.ref a976)])) rfl rfl (hb hby d3_44)
  refine own_via (fun t k => st1006 t k) ?_
  have Fw1006 : Fld Z h1006 a976 zs1 "result" zs3 (.ref w88) := F1004.same W1006
  have N1006 := Fr.snoc X1006 N1003 pG_a976
  show own_Goes p e below (T1006.setTop (mkF m 47 #[rv a976, iv p977, rv w59, rv w88] [])) _
  obtain ⟨fs, hr, hrun, hended, hW, hsame⟩ := X1006.leave (v := none) (fun _ => rfl)
  refine own_end (t := T1006.setFrames fs) ?_ ⟨_, hrun, hended, _, _, rfl, ?_, ⟨_, rfl⟩, hW, hsame.mono (by decide) (by decide)⟩
  · exact X1006.returnOut hx Bd.returns (hb hby d3_47) hr
  have E1007 : Exa Z h1006 a976 zs1 := (E1005.wr W1006)
  have F1008 : Fld Z h1006 a976 zs1 "colour" zs6 (.ref w59) := (Fw1003.other W1006 (Or.inr (slot_ne (Or.inr (wd hw 17 rfl)) (Or.inr (wd hw 38 rfl)) (by decide) (t := (.object zs7)) (t' := (.object zs2)) (by decide) (by decide))))
  have F1009 : Fld Z h1006 a976 zs1 "opponent" "I" (.int p977) := ((Fw1000.other W1003 (Or.inr (slot_ne (Or.inr (wd hw 36 rfl)) (Or.inr (wd hw 17 rfl)) (by decide) (t := .int) (t' := (.object zs7)) (by decide) (by decide)))).other W1006 (Or.inr (slot_ne (Or.inr (wd hw 36 rfl)) (Or.inr (wd hw 38 rfl)) (by decide) (t := .int) (t' := (.object zs2)) (by decide) (by decide))))
  · show Q52 Z a976 p977 w59 w88 p978 h0 n0 _ T1006.heap _
    rw [e1006]
    exact ⟨rfl, N1006, ((((Keep.refl h0 [a976]).wr W1000 (Or.inl (List.mem_of_getElem? (i := 0) rfl))).wr W1003 (Or.inl (List.mem_of_getElem? (i := 0) rfl))).wr W1006 (Or.inl (List.mem_of_getElem? (i := 0) rfl))), E1007, F1008, F1009, Fw1006⟩
def Q53 (Z : State) (w88 : Addr) (h0 : Heap) (n0 : Nat) (v : Option Value) (h : Heap) (L : List Loc) : Prop := v = some (.int (0 : Int32)) ∧ Fr n0 L ∧ h = h0
set_option maxRecDepth 65536 in
set_option maxHeartbeats 40000000 in
theorem rm53 (l : Launch) (Z : State) (a0 : Array Value) (hw : ∀ d ∈ tables_1, d.before a0 Z = true) (ws : List Jvm.Cond) (w88 : Addr) (h0 : Heap) (n0 : Nat) (O0 : Old Z n0 h0) (SF_w88_game : Fld Z Z.heap w88 zs2 "game" "Z" (.int (0 : Int32))) :
    MetFree l (⟨zs2, "isGame", "()Z"⟩ : MethodName) (head1 (Jvm.Cond.code (⟨zs2, "isGame", "()Z"⟩ : MethodName) prog_43_method_7_code 1 (some .boolean) :: ws) ({ frames := 0, cells := 0, slots := 0, locals := 0 } : Room)) (fun a U => a = #[(.ref w88)] ∧ Z.Warmed39 U.vm ∧ U.heap = h0) (fun _ _ _ _ _ => True) (fun _ U o U' => ∃ v L, o = .returned v ∧ Q53 Z w88 h0 n0 v U'.heap L ∧ FrameEnd U o U' L ({ frames := 0, cells := 0, slots := 0, locals := 0 } : Room).cells ({ frames := 0, cells := 0, slots := 0, locals := 0 } : Room).slots) := by
  refine MetFree.of_bodySF (plainFor_of_name pn_5) hisR ?_
  intro p e s m args below meth c s₁ Bd hml0 hP hK
  obtain ⟨rfl, hZ, hh⟩ := hP
  have hx := Bd.exec
  have hby := Bd.bytes
  have hml : c.maxLocals = 1 := hml0
  have hown : s.vm.findClass zs2 = some m.cls := findClass_of_methodNamed Bd.named
  have hnm := (name_of_methodNamed Bd.named Bd.method).1
  have X0 : Stand p l e ({ frames := 0, cells := 0, slots := 0, locals := 0 } : Room) s m #[(.ref w88)] below meth c s₁ [] 0 0 := Stand.of_body Bd
  have e0 : s₁.heap = h0 := by rw [← hh, Bd.state]; rfl
  have N0 := Fr.nil n0
  refine own_out ?_
  refine own_via (fun t k => castTop (ef_7 m w88) (XS.aloadN X0.here hx rfl (hb hby d8_0) rfl rfl k)) ?_
  obtain ⟨T1041, X1041, e1041, st1041⟩ := getF X0 hx hZ hown (host := "") (Or.inl (wd hw 51 rfl)) Via.refl e0 (SF_w88_game.ext O0.2) (g := (mkF m 1 #[rv w88] [(.ref w88)])) rfl rfl (hb hby d8_1)
  refine own_via (fun t k => st1041 t k) ?_
  obtain ⟨fs, hr, hrun, hended, hW, hsame⟩ := X1041.leave (v := some (.int (0 : Int32))) (fun h => by rw [Bd.returns] at h; cases h)
  refine own_end (t := T1041.setFrames fs) ?_ ⟨_, hrun, hended, _, _, rfl, ?_, ⟨_, rfl⟩, hW, hsame.mono (by decide) (by decide)⟩
  · exact retN X1041 hx (t := .boolean) Bd.returns (by simp) (hb hby d8_4) hr
  · show Q53 Z w88 h0 n0 _ T1041.heap _
    rw [e1041]
    exact ⟨rfl, N0, rfl⟩
def Q54 (Z : State) (a1020 : Addr) (p1021 : Int32) (w88 : Addr) (h0 : Heap) (n0 : Nat) (v : Option Value) (h : Heap) (L : List Loc) : Prop := v = some (.int (0 : Int32)) ∧ Fr n0 L ∧ h = h0
set_option maxRecDepth 65536 in
set_option maxHeartbeats 40000000 in
theorem rm54 (l : Launch) (Z : State) (a0 : Array Value) (hw : ∀ d ∈ tables_1, d.before a0 Z = true) (ws : List Jvm.Cond) (a1020 : Addr) (p1021 : Int32) (w88 : Addr) (h0 : Heap) (n0 : Nat) (O0 : Old Z n0 h0) (pF_a1020_opponent : Fld Z h0 a1020 zs1 "opponent" "I" (.int p1021)) (pC1028 : ¬ (p1021 = (0 : Int32))) (pF_a1020_result : Fld Z h0 a1020 zs1 "result" zs3 (.ref w88)) (SF_w88_game : Fld Z Z.heap w88 zs2 "game" "Z" (.int (0 : Int32))) (SE_w88 : Exa Z Z.heap w88 zs2) :
    MetFree l (⟨zs1, zs12, "()Z"⟩ : MethodName) (head1 (Jvm.Cond.code (⟨zs1, zs12, "()Z"⟩ : MethodName) prog_45_method_4_code 1 (some .boolean) :: ws) ({ frames := 1, cells := 0, slots := 0, locals := 12 } : Room)) (fun a U => a = #[(.ref a1020)] ∧ Z.Warmed39 U.vm ∧ U.heap = h0) (fun _ _ _ _ _ => True) (fun _ U o U' => ∃ v L, o = .returned v ∧ Q54 Z a1020 p1021 w88 h0 n0 v U'.heap L ∧ FrameEnd U o U' L ({ frames := 1, cells := 0, slots := 0, locals := 12 } : Room).cells ({ frames := 1, cells := 0, slots := 0, locals := 12 } : Room).slots) := by
  refine MetFree.of_bodySF (plainFor_of_name pn_2) hisR ?_
  intro p e s m args below meth c s₁ Bd hml0 hP hK
  obtain ⟨rfl, hZ, hh⟩ := hP
  have hx := Bd.exec
  have hby := Bd.bytes
  have hml : c.maxLocals = 1 := hml0
  have hown : s.vm.findClass zs1 = some m.cls := findClass_of_methodNamed Bd.named
  have hnm := (name_of_methodNamed Bd.named Bd.method).1
  have X0 : Stand p l e ({ frames := 1, cells := 0, slots := 0, locals := 12 } : Room) s m #[(.ref a1020)] below meth c s₁ [] 0 0 := Stand.of_body Bd
  have e0 : s₁.heap = h0 := by rw [← hh, Bd.state]; rfl
  have N0 := Fr.nil n0
  refine own_out ?_
  refine own_via (fun t k => castTop (ef_6 m a1020) (XS.aloadN X0.here hx rfl (hb hby d7_0) rfl rfl k)) ?_
  obtain ⟨T1029, X1029, e1029, st1029⟩ := getF X0 hx hZ hown (host := "") (Or.inl (wd hw 35 rfl)) Via.refl e0 pF_a1020_opponent (g := (mkF m 1 #[rv a1020] [(.ref a1020)])) rfl rfl (hb hby d7_1)
  refine own_via (fun t k => st1029 t (XS.ifNo X1029.here hx rfl (hb hby d7_4) rfl ((if0 _ _).trans (feq pC1028).1) (XS.aloadN X1029.here hx rfl (hb hby d7_7) rfl rfl k))) ?_
  show own_Goes p e below (T1029.setTop (mkF m 8 #[rv a1020] [(.ref a1020)])) _
  obtain ⟨T1030, X1030, e1030, st1030⟩ := getF X1029 hx hZ hown (host := "") (Or.inl (wd hw 37 rfl)) Via.refl e1029 pF_a1020_result (g := (mkF m 8 #[rv a1020] [(.ref a1020)])) rfl rfl (hb hby d7_8)
  refine own_via (fun t k => st1030 t k) ?_
  obtain ⟨_, T1031, _, X1031, hQ1031, st1031⟩ := own_cv X1030 hx hZ hown (wd hw 46 rfl) (wd hw 47 rfl) (wd hw 49 rfl) (wd hw 48 rfl) (wd hw 50 rfl) (wd hw 6 rfl) (by decide) (rm53 l Z a0 hw [] w88 h0 n0 O0 SF_w88_game) e1030 (SE_w88.ext O0.2) (g := (mkF m 11 #[rv a1020] [(.ref w88)])) rfl (by rw [hml]; rfl) (rest := []) (W := 0) (lenOf pd_6 rfl) rfl (by show 2 * 0 + _ ≤ _; exact Nat.le_of_eq rfl) (hb hby d7_11) (by decide) (by decide) (by decide) (by decide)
  obtain ⟨rfl, Nq1031, hh1042⟩ := hQ1031
  have N1031 := Fr.app N0 Nq1031
  refine own_via (fun t k => st1031 t (XS.ifYes X1031.here hx rfl (pc0 := 14) (pc' := 21) rfl (hb hby d7_14) rfl ((if0 _ _).trans (teq (by decide : (0 : Int32) = (0 : Int32))).1) (by decide) (by decide) (XS.iconst X1031.here hx rfl (hb hby d7_21) k))) ?_
  show own_Goes p e below (T1031.setTop (mkF m 22 #[rv a1020] [(.int (0 : Int32))])) _
  obtain ⟨fs, hr, hrun, hended, hW, hsame⟩ := X1031.leave (v := some (.int (0 : Int32))) (fun h => by rw [Bd.returns] at h; cases h)
  refine own_end (t := T1031.setFrames fs) ?_ ⟨_, hrun, hended, _, _, rfl, ?_, ⟨_, rfl⟩, hW, hsame.mono (by decide) (by decide)⟩
  · exact retN X1031 hx (t := .boolean) Bd.returns (by simp) (hb hby d7_22) hr
  · show Q54 Z a1020 p1021 w88 h0 n0 _ T1031.heap _
    rw [hh1042]
    exact ⟨rfl, N1031, rfl⟩
theorem d1_93 : decode method_2_code 93 = .ok (.iload_n 0, 1) := by decide +kernel
theorem d1_94 : decode method_2_code 94 = .ok (.bipush 10, 2) := by decide +kernel
theorem d1_96 : decode method_2_code 96 = .ok (.if_icmp .ne 7, 3) := by decide +kernel
theorem d1_99 : decode method_2_code 99 = .ok (.getstatic 40, 3) := by decide +kernel
theorem d1_102 : decode method_2_code 102 = .ok (.areturn, 1) := by decide +kernel
def Q55 (Z : State) (w70 : Addr) (h0 : Heap) (n0 : Nat) (v : Option Value) (h : Heap) (L : List Loc) : Prop := v = some (.ref w70) ∧ Fr n0 L ∧ h = h0
set_option maxRecDepth 65536 in
set_option maxHeartbeats 40000000 in
theorem rm55 (l : Launch) (Z : State) (a0 : Array Value) (hw : ∀ d ∈ tables_1, d.before a0 Z = true) (ws : List Jvm.Cond) (w70 : Addr) (h0 : Heap) (n0 : Nat) (O0 : Old Z n0 h0) (S_Result_HALF_POINT_BYE : Sta Z Z.heap zs2 "HALF_POINT_BYE" zs3 (.ref w70)) :
    MetFree l (⟨zs4, "pick", zs8⟩ : MethodName) (head1 (Jvm.Cond.code (⟨zs4, "pick", zs8⟩ : MethodName) method_2_code 1 (some (.object zs2)) :: ws) ({ frames := 0, cells := 0, slots := 0, locals := 0 } : Room)) (fun a U => a = #[(.int (10 : Int32))] ∧ Z.Warmed39 U.vm ∧ U.heap = h0) (fun _ _ _ _ _ => True) (fun _ U o U' => ∃ v L, o = .returned v ∧ Q55 Z w70 h0 n0 v U'.heap L ∧ FrameEnd U o U' L ({ frames := 0, cells := 0, slots := 0, locals := 0 } : Room).cells ({ frames := 0, cells := 0, slots := 0, locals := 0 } : Room).slots) := by
  refine MetFree.of_bodySF (plainFor_of_name pn_1) hisR ?_
  intro p e s m args below meth c s₁ Bd hml0 hP hK
  obtain ⟨rfl, hZ, hh⟩ := hP
  have hx := Bd.exec
  have hby := Bd.bytes
  have hml : c.maxLocals = 1 := hml0
  have hown : s.vm.findClass zs4 = some m.cls := findClass_of_methodNamed Bd.named
  have hnm := (name_of_methodNamed Bd.named Bd.method).1
  have X0 : Stand p l e ({ frames := 0, cells := 0, slots := 0, locals := 0 } : Room) s m #[(.int (10 : Int32))] below meth c s₁ [] 0 0 := Stand.of_body Bd
  have e0 : s₁.heap = h0 := by rw [← hh, Bd.state]; rfl
  have N0 := Fr.nil n0
  refine own_out ?_
  refine own_via (fun t k => castTop (ef_1 m (10 : Int32)) (XS.iloadN X0.here hx rfl (hb hby d1_0) rfl (XS.ifYes X0.here hx rfl (pc0 := 1) (pc' := 8) rfl (hb hby d1_1) rfl ((if0 _ _).trans (feq (by decide : ¬ ((10 : Int32) = (0 : Int32)))).2) (by decide) (by decide) (XS.iloadN X0.here hx rfl (hb hby d1_8) rfl (XS.iconst X0.here hx rfl (hb hby d1_9) (XS.icmpYes X0.here hx rfl (pc0 := 10) (pc' := 17) rfl (hb hby d1_10) rfl (feq (by decide : ¬ ((10 : Int32) = (1 : Int32)))).2 (by decide) (by decide) (XS.iloadN X0.here hx rfl (hb hby d1_17) rfl (XS.iconst X0.here hx rfl (hb hby d1_18) (XS.icmpYes X0.here hx rfl (pc0 := 19) (pc' := 26) rfl (hb hby d1_19) rfl (feq (by decide : ¬ ((10 : Int32) = (2 : Int32)))).2 (by decide) (by decide) (XS.iloadN X0.here hx rfl (hb hby d1_26) rfl (XS.iconst X0.here hx rfl (hb hby d1_27) (XS.icmpYes X0.here hx rfl (pc0 := 28) (pc' := 35) rfl (hb hby d1_28) rfl (feq (by decide : ¬ ((10 : Int32) = (3 : Int32)))).2 (by decide) (by decide) k)))))))))))) ?_
  show own_Goes p e below (s₁.setTop (mkF m 35 #[iv (10 : Int32)] [])) _
  refine own_via (fun t k => XS.iloadN X0.here hx rfl (hb hby d1_35) rfl (XS.iconst X0.here hx rfl (hb hby d1_36) (XS.icmpYes X0.here hx rfl (pc0 := 37) (pc' := 44) rfl (hb hby d1_37) rfl (feq (by decide : ¬ ((10 : Int32) = (4 : Int32)))).2 (by decide) (by decide) (XS.iloadN X0.here hx rfl (hb hby d1_44) rfl (XS.iconst X0.here hx rfl (hb hby d1_45) (XS.icmpYes X0.here hx rfl (pc0 := 46) (pc' := 53) rfl (hb hby d1_46) rfl (feq (by decide : ¬ ((10 : Int32) = (5 : Int32)))).2 (by decide) (by decide) (XS.iloadN X0.here hx rfl (hb hby d1_53) rfl (XS.bipush X0.here hx rfl (hb hby d1_54) (XS.icmpYes X0.here hx rfl (pc0 := 56) (pc' := 63) rfl (hb hby d1_56) rfl (feq (by decide : ¬ ((10 : Int32) = (6 : Int32)))).2 (by decide) (by decide) (XS.iloadN X0.here hx rfl (hb hby d1_63) rfl (XS.bipush X0.here hx rfl (hb hby d1_64) (XS.icmpYes X0.here hx rfl (pc0 := 66) (pc' := 73) rfl (hb hby d1_66) rfl (feq (by decide : ¬ ((10 : Int32) = (7 : Int32)))).2 (by decide) (by decide) k)))))))))))) ?_
  show own_Goes p e below (s₁.setTop (mkF m 73 #[iv (10 : Int32)] [])) _
  refine own_via (fun t k => XS.iloadN X0.here hx rfl (hb hby d1_73) rfl (XS.bipush X0.here hx rfl (hb hby d1_74) (XS.icmpYes X0.here hx rfl (pc0 := 76) (pc' := 83) rfl (hb hby d1_76) rfl (feq (by decide : ¬ ((10 : Int32) = (8 : Int32)))).2 (by decide) (by decide) (XS.iloadN X0.here hx rfl (hb hby d1_83) rfl (XS.bipush X0.here hx rfl (hb hby d1_84) (XS.icmpYes X0.here hx rfl (pc0 := 86) (pc' := 93) rfl (hb hby d1_86) rfl (feq (by decide : ¬ ((10 : Int32) = (9 : Int32)))).2 (by decide) (by decide) (XS.iloadN X0.here hx rfl (hb hby d1_93) rfl (XS.bipush X0.here hx rfl (hb hby d1_94) (XS.icmpNo X0.here hx rfl (hb hby d1_96) rfl (teq (by decide : (10 : Int32) = (10 : Int32))).2 k))))))))) ?_
  show own_Goes p e below (s₁.setTop (mkF m 99 #[iv (10 : Int32)] [])) _
  obtain ⟨T1054, X1054, e1054, st1054⟩ := getS2 X0 hx hZ hown (host := "") (Or.inl (wd hw 57 rfl)) Via.refl e0 (S_Result_HALF_POINT_BYE.ext O0.2) (g := (mkF m 99 #[iv (10 : Int32)] [])) rfl (hb hby d1_99)
  refine own_via (fun t k => st1054 t k) ?_
  obtain ⟨fs, hr, hrun, hended, hW, hsame⟩ := X1054.leave (v := some (.ref w70)) (fun h => by rw [Bd.returns] at h; cases h)
  refine own_end (t := T1054.setFrames fs) ?_ ⟨_, hrun, hended, _, _, rfl, ?_, ⟨_, rfl⟩, hW, hsame.mono (by decide) (by decide)⟩
  · jvm_step X1054.here [X1054.here.top, hx, (hb hby d1_102), X1054.method', Bd.returns, Value.isRef, FieldType.isReference]
    first | (intro acts; rw [hr _ acts rfl rfl rfl]) | rw [hr _ _ rfl rfl rfl]
    exact Steps.refl _
  · show Q55 Z w70 h0 n0 _ T1054.heap _
    rw [e1054]
    exact ⟨rfl, N0, rfl⟩
def Q56 (Z : State) (w70 : Addr) (h0 : Heap) (n0 : Nat) (v : Option Value) (h : Heap) (L : List Loc) : Prop := v = some (.ref w70) ∧ Fr n0 L ∧ h = h0
set_option maxRecDepth 65536 in
set_option maxHeartbeats 40000000 in
theorem rm56 (l : Launch) (Z : State) (a0 : Array Value) (hw : ∀ d ∈ tables_1, d.before a0 Z = true) (ws : List Jvm.Cond) (w70 : Addr) (h0 : Heap) (n0 : Nat) (O0 : Old Z n0 h0) :
    MetFree l (⟨zs10, zs11, zs9⟩ : MethodName) (head1 (Jvm.Cond.code (⟨zs10, zs11, zs9⟩ : MethodName) jdk_31_method_10_code 1 (some (.object zs13)) :: ws) ({ frames := 0, cells := 0, slots := 0, locals := 0 } : Room)) (fun a U => a = #[(.ref w70)] ∧ Z.Warmed39 U.vm ∧ U.heap = h0) (fun _ _ _ _ _ => True) (fun _ U o U' => ∃ v L, o = .returned v ∧ Q56 Z w70 h0 n0 v U'.heap L ∧ FrameEnd U o U' L ({ frames := 0, cells := 0, slots := 0, locals := 0 } : Room).cells ({ frames := 0, cells := 0, slots := 0, locals := 0 } : Room).slots) := by
  refine MetFree.of_bodySF (plainFor_of_name pn_4) hisR ?_
  intro p e s m args below meth c s₁ Bd hml0 hP hK
  obtain ⟨rfl, hZ, hh⟩ := hP
  have hx := Bd.exec
  have hby := Bd.bytes
  have hml : c.maxLocals = 1 := hml0
  have hown : s.vm.findClass zs10 = some m.cls := findClass_of_methodNamed Bd.named
  have hnm := (name_of_methodNamed Bd.named Bd.method).1
  have X0 : Stand p l e ({ frames := 0, cells := 0, slots := 0, locals := 0 } : Room) s m #[(.ref w70)] below meth c s₁ [] 0 0 := Stand.of_body Bd
  have e0 : s₁.heap = h0 := by rw [← hh, Bd.state]; rfl
  have N0 := Fr.nil n0
  refine own_out ?_
  refine own_via (fun t k => castTop (ef_4 m w70) (XS.aloadN X0.here hx rfl (hb hby d6_0) rfl rfl (XS.ifnonnullYes X0.here hx rfl (pc0 := 1) (pc' := 12) rfl (hb hby d6_1) rfl (by decide) (by decide) (XS.aloadN X0.here hx rfl (hb hby d6_12) rfl rfl k)))) ?_
  show own_Goes p e below (s₁.setTop (mkF m 13 #[rv w70] [(.ref w70)])) _
  obtain ⟨fs, hr, hrun, hended, hW, hsame⟩ := X0.leave (v := some (.ref w70)) (fun h => by rw [Bd.returns] at h; cases h)
  refine own_end (t := s₁.setFrames fs) ?_ ⟨_, hrun, hended, _, _, rfl, ?_, ⟨_, rfl⟩, hW, hsame.mono (by decide) (by decide)⟩
  · jvm_step X0.here [X0.here.top, hx, (hb hby d6_13), X0.method', Bd.returns, Value.isRef, FieldType.isReference]
    first | (intro acts; rw [hr _ acts rfl rfl rfl]) | rw [hr _ _ rfl rfl rfl]
    exact Steps.refl _
  · show Q56 Z w70 h0 n0 _ s₁.heap _
    rw [e0]
    exact ⟨rfl, N0, rfl⟩
def Q57 (Z : State) (a1067 : Addr) (p1068 : Int32) (w59 : Addr) (w70 : Addr) (p1069 : Int32) (h0 : Heap) (n0 : Nat) (v : Option Value) (h : Heap) (L : List Loc) : Prop := v = none ∧ Fr n0 L ∧ Keep h0 h [a1067] ∧ Exa Z h a1067 zs1 ∧ Fld Z h a1067 zs1 "colour" zs6 (.ref w59) ∧ Fld Z h a1067 zs1 "opponent" "I" (.int p1068) ∧ Fld Z h a1067 zs1 "result" zs3 (.ref w70)
set_option maxRecDepth 65536 in
set_option maxHeartbeats 40000000 in
theorem rm57 (l : Launch) (Z : State) (a0 : Array Value) (hw : ∀ d ∈ tables_1, d.before a0 Z = true) (ws : List Jvm.Cond) (a1067 : Addr) (p1068 : Int32) (w59 : Addr) (w70 : Addr) (p1069 : Int32) (h0 : Heap) (n0 : Nat) (O0 : Old Z n0 h0) (pC1070 : ¬ (p1068 < (0 : Int32))) (pF_a1067_opponent : Fld Z h0 a1067 zs1 "opponent" "I" (.int p1069)) (pE_a1067 : Exa Z h0 a1067 zs1) (pG_a1067 : n0 ≤ a1067) (pF_a1067_colour : Fld Z h0 a1067 zs1 "colour" zs6 .null) (pF_a1067_result : Fld Z h0 a1067 zs1 "result" zs3 .null) :
    MetFree l (⟨zs1, "<init>", zs5⟩ : MethodName) (head1 (Jvm.Cond.code (⟨zs1, "<init>", zs5⟩ : MethodName) prog_45_method_1_code 4 none :: ws) ({ frames := 2, cells := 0, slots := 0, locals := 24 } : Room)) (fun a U => a = #[(.ref a1067), (.int p1068), (.ref w59), (.ref w70)] ∧ Z.Warmed39 U.vm ∧ U.heap = h0) (fun _ _ _ _ _ => True) (fun _ U o U' => ∃ v L, o = .returned v ∧ Q57 Z a1067 p1068 w59 w70 p1069 h0 n0 v U'.heap L ∧ FrameEnd U o U' L ({ frames := 2, cells := 0, slots := 0, locals := 24 } : Room).cells ({ frames := 2, cells := 0, slots := 0, locals := 24 } : Room).slots) := by
  refine MetFree.of_bodySF (plainFor_of_name pn_2) hisR ?_
  intro p e s m args below meth c s₁ Bd hml0 hP hK
  obtain ⟨rfl, hZ, hh⟩ := hP
  have hx := Bd.exec
  have hby := Bd.bytes
  have hml : c.maxLocals = 4 := hml0
  have hown : s.vm.findClass zs1 = some m.cls := findClass_of_methodNamed Bd.named
  have hnm := (name_of_methodNamed Bd.named Bd.method).1
  have X0 : Stand p l e ({ frames := 2, cells := 0, slots := 0, locals := 24 } : Room) s m #[(.ref a1067), (.int p1068), (.ref w59), (.ref w70)] below meth c s₁ [] 0 0 := Stand.of_body Bd
  have e0 : s₁.heap = h0 := by rw [← hh, Bd.state]; rfl
  have N0 := Fr.nil n0
  refine own_out ?_
  refine own_via (fun t k => castTop (ef_5 m a1067 p1068 w59 w70) (XS.aloadN X0.here hx rfl (hb hby d3_0) rfl rfl k)) ?_
  obtain ⟨_, T1076, _, X1076, hQ1076, st1076⟩ := own_ci X0 hx hZ hown (wd hw 23 rfl) (wd hw 24 rfl) (wd hw 27 rfl) (wd hw 26 rfl) rfl (by decide) (rm3 l Z a0 hw [] a1067 h0 n0 O0 ) e0 (g := (mkF m 1 #[rv a1067, iv p1068, rv w59, rv w70] [(.ref a1067)])) rfl (by rw [hml]; rfl) (rest := []) (W := 0) (lenOf pd_3 rfl) rfl (by show 2 * 0 + _ ≤ _; exact Nat.le_of_eq rfl) (hb hby d3_1) (by decide) (by decide) (by decide) (by decide)
  obtain ⟨rfl, Nq1076, hh1077⟩ := hQ1076
  have N1076 := Fr.app N0 Nq1076
  refine own_via (fun t k => st1076 t (XS.aloadN X1076.here hx rfl (hb hby d3_4) rfl rfl k)) ?_
  obtain ⟨_, T1078, _, X1078, hQ1078, st1078⟩ := own_cs X1076 hx hZ hown (wd hw 31 rfl) (wd hw 32 rfl) (wd hw 34 rfl) (wd hw 33 rfl) (by decide) (rm4 l Z a0 hw [] w59 h0 n0 O0 ) hh1077 (g := (mkF m 5 #[rv a1067, iv p1068, rv w59, rv w70] [(.ref w59)])) rfl (by rw [hml]; rfl) (rest := []) (W := 0) (lenOf pd_4 rfl) rfl (by show 2 * 0 + _ ≤ _; exact Nat.le_of_eq rfl) (hb hby d3_5) (by decide) (by decide) (by decide) (by decide)
  obtain ⟨rfl, Nq1078, hh1079⟩ := hQ1078
  have N1078 := Fr.app N1076 Nq1078
  refine own_via (fun t k => st1078 t (XS.pop X1078.here hx rfl (hb hby d3_8) rfl rfl (XS.aloadN X1078.here hx rfl (hb hby d3_9) rfl rfl k))) ?_
  show own_Goes p e below (T1078.setTop (mkF m 10 #[rv a1067, iv p1068, rv w59, rv w70] [(.ref w70)])) _
  obtain ⟨_, T1080, _, X1080, hQ1080, st1080⟩ := own_cs X1078 hx hZ hown (wd hw 31 rfl) (wd hw 32 rfl) (wd hw 34 rfl) (wd hw 33 rfl) (by decide) (rm56 l Z a0 hw [] w70 h0 n0 O0 ) hh1079 (g := (mkF m 10 #[rv a1067, iv p1068, rv w59, rv w70] [(.ref w70)])) rfl (by rw [hml]; rfl) (rest := []) (W := 0) (lenOf pd_4 rfl) rfl (by show 2 * 0 + _ ≤ _; exact Nat.le_of_eq rfl) (hb hby d3_10) (by decide) (by decide) (by decide) (by decide)
  obtain ⟨rfl, Nq1080, hh1090⟩ := hQ1080
  have N1080 := Fr.app N1078 Nq1080
  refine own_via (fun t k => st1080 t (XS.pop X1080.here hx rfl (hb hby d3_13) rfl rfl (XS.iloadN X1080.here hx rfl (hb hby d3_14) rfl (XS.ifYes X1080.here hx rfl (pc0 := 15) (pc' := 32) rfl (hb hby d3_15) rfl ((if0 _ _).trans (flt pC1070).2.1) (by decide) (by decide) (XS.aloadN X1080.here hx rfl (hb hby d3_32) rfl rfl (XS.iloadN X1080.here hx rfl (hb hby d3_33) rfl k)))))) ?_
  show own_Goes p e below (T1080.setTop (mkF m 34 #[rv a1067, iv p1068, rv w59, rv w70] [(.int p1068), (.ref a1067)])) _
  obtain ⟨T1091, h1091, X1091, e1091, W1091, st1091⟩ := putF X1080 hx hZ hown (host := "") (Or.inl (wd hw 35 rfl)) Via.refl hh1090 pF_a1067_opponent pE_a1067 (Or.inr ⟨(wd hw 36 rfl), rfl, hnm⟩) (wd hw 19 rfl) (ty := .int) (by decide) rfl rfl (g := (mkF m 34 #[rv a1067, iv p1068, rv w59, rv w70] [(.int p1068), (.ref a1067)])) rfl rfl (hb hby d3_34)
  refine own_via (fun t k => st1091 t k) ?_
  have Fw1091 : Fld Z h1091 a1067 zs1 "opponent" "I" (.int p1068) := pF_a1067_opponent.same W1091
  have N1091 := Fr.snoc X1091 N1080 pG_a1067
  show own_Goes p e below (T1091.setTop (mkF m 37 #[rv a1067, iv p1068, rv w59, rv w70] [])) _
  refine own_via (fun t k => XS.aloadN X1091.here hx rfl (hb hby d3_37) rfl rfl (XS.aloadN X1091.here hx rfl (hb hby d3_38) rfl rfl k)) ?_
  have F1092 : Fld Z h1091 a1067 zs1 "colour" zs6 .null := (pF_a1067_colour.other W1091 (Or.inr (slot_ne (Or.inr (wd hw 17 rfl)) (Or.inr (wd hw 36 rfl)) (by decide) (t := (.object zs7)) (t' := .int) (by decide) (by decide))))
  have E1093 : Exa Z h1091 a1067 zs1 := (pE_a1067.wr W1091)
  obtain ⟨T1094, h1094, X1094, e1094, W1094, st1094⟩ := putF X1091 hx hZ hown (host := "") (Or.inl (wd hw 16 rfl)) Via.refl e1091 F1092 E1093 (Or.inr ⟨(wd hw 17 rfl), rfl, hnm⟩) (wd hw 19 rfl) (ty := (.object zs7)) (by decide) rfl rfl (g := (mkF m 39 #[rv a1067, iv p1068, rv w59, rv w70] [(.ref w59), (.ref a1067)])) rfl rfl (hb hby d3_39)
  refine own_via (fun t k => st1094 t k) ?_
  have Fw1094 : Fld Z h1094 a1067 zs1 "colour" zs6 (.ref w59) := F1092.same W1094
  have N1094 := Fr.snoc X1094 N1091 pG_a1067
  show own_Goes p e below (T1094.setTop (mkF m 42 #[rv a1067, iv p1068, rv w59, rv w70] [])) _
  refine own_via (fun t k => XS.aloadN X1094.here hx rfl (hb hby d3_42) rfl rfl (XS.aloadN X1094.here hx rfl (hb hby d3_43) rfl rfl k)) ?_
  have F1095 : Fld Z h1094 a1067 zs1 "result" zs3 .null := ((pF_a1067_result.other W1091 (Or.inr (slot_ne (Or.inr (wd hw 38 rfl)) (Or.inr (wd hw 36 rfl)) (by decide) (t := (.object zs2)) (t' := .int) (by decide) (by decide)))).other W1094 (Or.inr (slot_ne (Or.inr (wd hw 38 rfl)) (Or.inr (wd hw 17 rfl)) (by decide) (t := (.object zs2)) (t' := (.object zs7)) (by decide) (by decide))))
  have E1096 : Exa Z h1094 a1067 zs1 := (E1093.wr W1094)
  obtain ⟨T1097, h1097, X1097, e1097, W1097, st1097⟩ := putF X1094 hx hZ hown (host := "") (Or.inl (wd hw 37 rfl)) Via.refl e1094 F1095 E1096 (Or.inr ⟨(wd hw 38 rfl), rfl, hnm⟩) (wd hw 19 rfl) (ty := (.object zs2)) (by decide) rfl rfl (g := (mkF m 44 #[rv a1067, iv p1068, rv w59, rv w70] [(.ref w70), (.ref a1067)])) rfl rfl (hb hby d3_44)
  refine own_via (fun t k => st1097 t k) ?_
  have Fw1097 : Fld Z h1097 a1067 zs1 "result" zs3 (.ref w70) := F1095.same W1097
  have N1097 := Fr.snoc X1097 N1094 pG_a1067
  show own_Goes p e below (T1097.setTop (mkF m 47 #[rv a1067, iv p1068, rv w59, rv w70] [])) _
  obtain ⟨fs, hr, hrun, hended, hW, hsame⟩ := X1097.leave (v := none) (fun _ => rfl)
  refine own_end (t := T1097.setFrames fs) ?_ ⟨_, hrun, hended, _, _, rfl, ?_, ⟨_, rfl⟩, hW, hsame.mono (by decide) (by decide)⟩
  · exact X1097.returnOut hx Bd.returns (hb hby d3_47) hr
  have E1098 : Exa Z h1097 a1067 zs1 := (E1096.wr W1097)
  have F1099 : Fld Z h1097 a1067 zs1 "colour" zs6 (.ref w59) := (Fw1094.other W1097 (Or.inr (slot_ne (Or.inr (wd hw 17 rfl)) (Or.inr (wd hw 38 rfl)) (by decide) (t := (.object zs7)) (t' := (.object zs2)) (by decide) (by decide))))
  have F1100 : Fld Z h1097 a1067 zs1 "opponent" "I" (.int p1068) := ((Fw1091.other W1094 (Or.inr (slot_ne (Or.inr (wd hw 36 rfl)) (Or.inr (wd hw 17 rfl)) (by decide) (t := .int) (t' := (.object zs7)) (by decide) (by decide)))).other W1097 (Or.inr (slot_ne (Or.inr (wd hw 36 rfl)) (Or.inr (wd hw 38 rfl)) (by decide) (t := .int) (t' := (.object zs2)) (by decide) (by decide))))
  · show Q57 Z a1067 p1068 w59 w70 p1069 h0 n0 _ T1097.heap _
    rw [e1097]
    exact ⟨rfl, N1097, ((((Keep.refl h0 [a1067]).wr W1091 (Or.inl (List.mem_of_getElem? (i := 0) rfl))).wr W1094 (Or.inl (List.mem_of_getElem? (i := 0) rfl))).wr W1097 (Or.inl (List.mem_of_getElem? (i := 0) rfl))), E1098, F1099, F1100, Fw1097⟩
def Q58 (Z : State) (w70 : Addr) (h0 : Heap) (n0 : Nat) (v : Option Value) (h : Heap) (L : List Loc) : Prop := v = some (.int (0 : Int32)) ∧ Fr n0 L ∧ h = h0
set_option maxRecDepth 65536 in
set_option maxHeartbeats 40000000 in
theorem rm58 (l : Launch) (Z : State) (a0 : Array Value) (hw : ∀ d ∈ tables_1, d.before a0 Z = true) (ws : List Jvm.Cond) (w70 : Addr) (h0 : Heap) (n0 : Nat) (O0 : Old Z n0 h0) (SF_w70_game : Fld Z Z.heap w70 zs2 "game" "Z" (.int (0 : Int32))) :
    MetFree l (⟨zs2, "isGame", "()Z"⟩ : MethodName) (head1 (Jvm.Cond.code (⟨zs2, "isGame", "()Z"⟩ : MethodName) prog_43_method_7_code 1 (some .boolean) :: ws) ({ frames := 0, cells := 0, slots := 0, locals := 0 } : Room)) (fun a U => a = #[(.ref w70)] ∧ Z.Warmed39 U.vm ∧ U.heap = h0) (fun _ _ _ _ _ => True) (fun _ U o U' => ∃ v L, o = .returned v ∧ Q58 Z w70 h0 n0 v U'.heap L ∧ FrameEnd U o U' L ({ frames := 0, cells := 0, slots := 0, locals := 0 } : Room).cells ({ frames := 0, cells := 0, slots := 0, locals := 0 } : Room).slots) := by
  refine MetFree.of_bodySF (plainFor_of_name pn_5) hisR ?_
  intro p e s m args below meth c s₁ Bd hml0 hP hK
  obtain ⟨rfl, hZ, hh⟩ := hP
  have hx := Bd.exec
  have hby := Bd.bytes
  have hml : c.maxLocals = 1 := hml0
  have hown : s.vm.findClass zs2 = some m.cls := findClass_of_methodNamed Bd.named
  have hnm := (name_of_methodNamed Bd.named Bd.method).1
  have X0 : Stand p l e ({ frames := 0, cells := 0, slots := 0, locals := 0 } : Room) s m #[(.ref w70)] below meth c s₁ [] 0 0 := Stand.of_body Bd
  have e0 : s₁.heap = h0 := by rw [← hh, Bd.state]; rfl
  have N0 := Fr.nil n0
  refine own_out ?_
  refine own_via (fun t k => castTop (ef_7 m w70) (XS.aloadN X0.here hx rfl (hb hby d8_0) rfl rfl k)) ?_
  obtain ⟨T1132, X1132, e1132, st1132⟩ := getF X0 hx hZ hown (host := "") (Or.inl (wd hw 51 rfl)) Via.refl e0 (SF_w70_game.ext O0.2) (g := (mkF m 1 #[rv w70] [(.ref w70)])) rfl rfl (hb hby d8_1)
  refine own_via (fun t k => st1132 t k) ?_
  obtain ⟨fs, hr, hrun, hended, hW, hsame⟩ := X1132.leave (v := some (.int (0 : Int32))) (fun h => by rw [Bd.returns] at h; cases h)
  refine own_end (t := T1132.setFrames fs) ?_ ⟨_, hrun, hended, _, _, rfl, ?_, ⟨_, rfl⟩, hW, hsame.mono (by decide) (by decide)⟩
  · exact retN X1132 hx (t := .boolean) Bd.returns (by simp) (hb hby d8_4) hr
  · show Q58 Z w70 h0 n0 _ T1132.heap _
    rw [e1132]
    exact ⟨rfl, N0, rfl⟩
def Q59 (Z : State) (a1111 : Addr) (p1112 : Int32) (w70 : Addr) (h0 : Heap) (n0 : Nat) (v : Option Value) (h : Heap) (L : List Loc) : Prop := v = some (.int (0 : Int32)) ∧ Fr n0 L ∧ h = h0
set_option maxRecDepth 65536 in
set_option maxHeartbeats 40000000 in
theorem rm59 (l : Launch) (Z : State) (a0 : Array Value) (hw : ∀ d ∈ tables_1, d.before a0 Z = true) (ws : List Jvm.Cond) (a1111 : Addr) (p1112 : Int32) (w70 : Addr) (h0 : Heap) (n0 : Nat) (O0 : Old Z n0 h0) (pF_a1111_opponent : Fld Z h0 a1111 zs1 "opponent" "I" (.int p1112)) (pC1119 : ¬ (p1112 = (0 : Int32))) (pF_a1111_result : Fld Z h0 a1111 zs1 "result" zs3 (.ref w70)) (SF_w70_game : Fld Z Z.heap w70 zs2 "game" "Z" (.int (0 : Int32))) (SE_w70 : Exa Z Z.heap w70 zs2) :
    MetFree l (⟨zs1, zs12, "()Z"⟩ : MethodName) (head1 (Jvm.Cond.code (⟨zs1, zs12, "()Z"⟩ : MethodName) prog_45_method_4_code 1 (some .boolean) :: ws) ({ frames := 1, cells := 0, slots := 0, locals := 12 } : Room)) (fun a U => a = #[(.ref a1111)] ∧ Z.Warmed39 U.vm ∧ U.heap = h0) (fun _ _ _ _ _ => True) (fun _ U o U' => ∃ v L, o = .returned v ∧ Q59 Z a1111 p1112 w70 h0 n0 v U'.heap L ∧ FrameEnd U o U' L ({ frames := 1, cells := 0, slots := 0, locals := 12 } : Room).cells ({ frames := 1, cells := 0, slots := 0, locals := 12 } : Room).slots) := by
  refine MetFree.of_bodySF (plainFor_of_name pn_2) hisR ?_
  intro p e s m args below meth c s₁ Bd hml0 hP hK
  obtain ⟨rfl, hZ, hh⟩ := hP
  have hx := Bd.exec
  have hby := Bd.bytes
  have hml : c.maxLocals = 1 := hml0
  have hown : s.vm.findClass zs1 = some m.cls := findClass_of_methodNamed Bd.named
  have hnm := (name_of_methodNamed Bd.named Bd.method).1
  have X0 : Stand p l e ({ frames := 1, cells := 0, slots := 0, locals := 12 } : Room) s m #[(.ref a1111)] below meth c s₁ [] 0 0 := Stand.of_body Bd
  have e0 : s₁.heap = h0 := by rw [← hh, Bd.state]; rfl
  have N0 := Fr.nil n0
  refine own_out ?_
  refine own_via (fun t k => castTop (ef_6 m a1111) (XS.aloadN X0.here hx rfl (hb hby d7_0) rfl rfl k)) ?_
  obtain ⟨T1120, X1120, e1120, st1120⟩ := getF X0 hx hZ hown (host := "") (Or.inl (wd hw 35 rfl)) Via.refl e0 pF_a1111_opponent (g := (mkF m 1 #[rv a1111] [(.ref a1111)])) rfl rfl (hb hby d7_1)
  refine own_via (fun t k => st1120 t (XS.ifNo X1120.here hx rfl (hb hby d7_4) rfl ((if0 _ _).trans (feq pC1119).1) (XS.aloadN X1120.here hx rfl (hb hby d7_7) rfl rfl k))) ?_
  show own_Goes p e below (T1120.setTop (mkF m 8 #[rv a1111] [(.ref a1111)])) _
  obtain ⟨T1121, X1121, e1121, st1121⟩ := getF X1120 hx hZ hown (host := "") (Or.inl (wd hw 37 rfl)) Via.refl e1120 pF_a1111_result (g := (mkF m 8 #[rv a1111] [(.ref a1111)])) rfl rfl (hb hby d7_8)
  refine own_via (fun t k => st1121 t k) ?_
  obtain ⟨_, T1122, _, X1122, hQ1122, st1122⟩ := own_cv X1121 hx hZ hown (wd hw 46 rfl) (wd hw 47 rfl) (wd hw 49 rfl) (wd hw 48 rfl) (wd hw 50 rfl) (wd hw 6 rfl) (by decide) (rm58 l Z a0 hw [] w70 h0 n0 O0 SF_w70_game) e1121 (SE_w70.ext O0.2) (g := (mkF m 11 #[rv a1111] [(.ref w70)])) rfl (by rw [hml]; rfl) (rest := []) (W := 0) (lenOf pd_6 rfl) rfl (by show 2 * 0 + _ ≤ _; exact Nat.le_of_eq rfl) (hb hby d7_11) (by decide) (by decide) (by decide) (by decide)
  obtain ⟨rfl, Nq1122, hh1133⟩ := hQ1122
  have N1122 := Fr.app N0 Nq1122
  refine own_via (fun t k => st1122 t (XS.ifYes X1122.here hx rfl (pc0 := 14) (pc' := 21) rfl (hb hby d7_14) rfl ((if0 _ _).trans (teq (by decide : (0 : Int32) = (0 : Int32))).1) (by decide) (by decide) (XS.iconst X1122.here hx rfl (hb hby d7_21) k))) ?_
  show own_Goes p e below (T1122.setTop (mkF m 22 #[rv a1111] [(.int (0 : Int32))])) _
  obtain ⟨fs, hr, hrun, hended, hW, hsame⟩ := X1122.leave (v := some (.int (0 : Int32))) (fun h => by rw [Bd.returns] at h; cases h)
  refine own_end (t := T1122.setFrames fs) ?_ ⟨_, hrun, hended, _, _, rfl, ?_, ⟨_, rfl⟩, hW, hsame.mono (by decide) (by decide)⟩
  · exact retN X1122 hx (t := .boolean) Bd.returns (by simp) (hb hby d7_22) hr
  · show Q59 Z a1111 p1112 w70 h0 n0 _ T1122.heap _
    rw [hh1133]
    exact ⟨rfl, N1122, rfl⟩
theorem d1_103 : decode method_2_code 103 = .ok (.iload_n 0, 1) := by decide +kernel
theorem d1_104 : decode method_2_code 104 = .ok (.bipush 11, 2) := by decide +kernel
theorem d1_106 : decode method_2_code 106 = .ok (.if_icmp .ne 7, 3) := by decide +kernel
theorem d1_109 : decode method_2_code 109 = .ok (.getstatic 43, 3) := by decide +kernel
theorem d1_112 : decode method_2_code 112 = .ok (.areturn, 1) := by decide +kernel
def Q60 (Z : State) (w95 : Addr) (h0 : Heap) (n0 : Nat) (v : Option Value) (h : Heap) (L : List Loc) : Prop := v = some (.ref w95) ∧ Fr n0 L ∧ h = h0
set_option maxRecDepth 65536 in
set_option maxHeartbeats 40000000 in
theorem rm60 (l : Launch) (Z : State) (a0 : Array Value) (hw : ∀ d ∈ tables_1, d.before a0 Z = true) (ws : List Jvm.Cond) (w95 : Addr) (h0 : Heap) (n0 : Nat) (O0 : Old Z n0 h0) (S_Result_ZERO_POINT_BYE : Sta Z Z.heap zs2 "ZERO_POINT_BYE" zs3 (.ref w95)) :
    MetFree l (⟨zs4, "pick", zs8⟩ : MethodName) (head1 (Jvm.Cond.code (⟨zs4, "pick", zs8⟩ : MethodName) method_2_code 1 (some (.object zs2)) :: ws) ({ frames := 0, cells := 0, slots := 0, locals := 0 } : Room)) (fun a U => a = #[(.int (11 : Int32))] ∧ Z.Warmed39 U.vm ∧ U.heap = h0) (fun _ _ _ _ _ => True) (fun _ U o U' => ∃ v L, o = .returned v ∧ Q60 Z w95 h0 n0 v U'.heap L ∧ FrameEnd U o U' L ({ frames := 0, cells := 0, slots := 0, locals := 0 } : Room).cells ({ frames := 0, cells := 0, slots := 0, locals := 0 } : Room).slots) := by
  refine MetFree.of_bodySF (plainFor_of_name pn_1) hisR ?_
  intro p e s m args below meth c s₁ Bd hml0 hP hK
  obtain ⟨rfl, hZ, hh⟩ := hP
  have hx := Bd.exec
  have hby := Bd.bytes
  have hml : c.maxLocals = 1 := hml0
  have hown : s.vm.findClass zs4 = some m.cls := findClass_of_methodNamed Bd.named
  have hnm := (name_of_methodNamed Bd.named Bd.method).1
  have X0 : Stand p l e ({ frames := 0, cells := 0, slots := 0, locals := 0 } : Room) s m #[(.int (11 : Int32))] below meth c s₁ [] 0 0 := Stand.of_body Bd
  have e0 : s₁.heap = h0 := by rw [← hh, Bd.state]; rfl
  have N0 := Fr.nil n0
  refine own_out ?_
  refine own_via (fun t k => castTop (ef_1 m (11 : Int32)) (XS.iloadN X0.here hx rfl (hb hby d1_0) rfl (XS.ifYes X0.here hx rfl (pc0 := 1) (pc' := 8) rfl (hb hby d1_1) rfl ((if0 _ _).trans (feq (by decide : ¬ ((11 : Int32) = (0 : Int32)))).2) (by decide) (by decide) (XS.iloadN X0.here hx rfl (hb hby d1_8) rfl (XS.iconst X0.here hx rfl (hb hby d1_9) (XS.icmpYes X0.here hx rfl (pc0 := 10) (pc' := 17) rfl (hb hby d1_10) rfl (feq (by decide : ¬ ((11 : Int32) = (1 : Int32)))).2 (by decide) (by decide) (XS.iloadN X0.here hx rfl (hb hby d1_17) rfl (XS.iconst X0.here hx rfl (hb hby d1_18) (XS.icmpYes X0.here hx rfl (pc0 := 19) (pc' := 26) rfl (hb hby d1_19) rfl (feq (by decide : ¬ ((11 : Int32) = (2 : Int32)))).2 (by decide) (by decide) (XS.iloadN X0.here hx rfl (hb hby d1_26) rfl (XS.iconst X0.here hx rfl (hb hby d1_27) (XS.icmpYes X0.here hx rfl (pc0 := 28) (pc' := 35) rfl (hb hby d1_28) rfl (feq (by decide : ¬ ((11 : Int32) = (3 : Int32)))).2 (by decide) (by decide) k)))))))))))) ?_
  show own_Goes p e below (s₁.setTop (mkF m 35 #[iv (11 : Int32)] [])) _
  refine own_via (fun t k => XS.iloadN X0.here hx rfl (hb hby d1_35) rfl (XS.iconst X0.here hx rfl (hb hby d1_36) (XS.icmpYes X0.here hx rfl (pc0 := 37) (pc' := 44) rfl (hb hby d1_37) rfl (feq (by decide : ¬ ((11 : Int32) = (4 : Int32)))).2 (by decide) (by decide) (XS.iloadN X0.here hx rfl (hb hby d1_44) rfl (XS.iconst X0.here hx rfl (hb hby d1_45) (XS.icmpYes X0.here hx rfl (pc0 := 46) (pc' := 53) rfl (hb hby d1_46) rfl (feq (by decide : ¬ ((11 : Int32) = (5 : Int32)))).2 (by decide) (by decide) (XS.iloadN X0.here hx rfl (hb hby d1_53) rfl (XS.bipush X0.here hx rfl (hb hby d1_54) (XS.icmpYes X0.here hx rfl (pc0 := 56) (pc' := 63) rfl (hb hby d1_56) rfl (feq (by decide : ¬ ((11 : Int32) = (6 : Int32)))).2 (by decide) (by decide) (XS.iloadN X0.here hx rfl (hb hby d1_63) rfl (XS.bipush X0.here hx rfl (hb hby d1_64) (XS.icmpYes X0.here hx rfl (pc0 := 66) (pc' := 73) rfl (hb hby d1_66) rfl (feq (by decide : ¬ ((11 : Int32) = (7 : Int32)))).2 (by decide) (by decide) k)))))))))))) ?_
  show own_Goes p e below (s₁.setTop (mkF m 73 #[iv (11 : Int32)] [])) _
  refine own_via (fun t k => XS.iloadN X0.here hx rfl (hb hby d1_73) rfl (XS.bipush X0.here hx rfl (hb hby d1_74) (XS.icmpYes X0.here hx rfl (pc0 := 76) (pc' := 83) rfl (hb hby d1_76) rfl (feq (by decide : ¬ ((11 : Int32) = (8 : Int32)))).2 (by decide) (by decide) (XS.iloadN X0.here hx rfl (hb hby d1_83) rfl (XS.bipush X0.here hx rfl (hb hby d1_84) (XS.icmpYes X0.here hx rfl (pc0 := 86) (pc' := 93) rfl (hb hby d1_86) rfl (feq (by decide : ¬ ((11 : Int32) = (9 : Int32)))).2 (by decide) (by decide) (XS.iloadN X0.here hx rfl (hb hby d1_93) rfl (XS.bipush X0.here hx rfl (hb hby d1_94) (XS.icmpYes X0.here hx rfl (pc0 := 96) (pc' := 103) rfl (hb hby d1_96) rfl (feq (by decide : ¬ ((11 : Int32) = (10 : Int32)))).2 (by decide) (by decide) (XS.iloadN X0.here hx rfl (hb hby d1_103) rfl (XS.bipush X0.here hx rfl (hb hby d1_104) (XS.icmpNo X0.here hx rfl (hb hby d1_106) rfl (teq (by decide : (11 : Int32) = (11 : Int32))).2 k)))))))))))) ?_
  show own_Goes p e below (s₁.setTop (mkF m 109 #[iv (11 : Int32)] [])) _
  obtain ⟨T1145, X1145, e1145, st1145⟩ := getS2 X0 hx hZ hown (host := "") (Or.inl (wd hw 73 rfl)) Via.refl e0 (S_Result_ZERO_POINT_BYE.ext O0.2) (g := (mkF m 109 #[iv (11 : Int32)] [])) rfl (hb hby d1_109)
  refine own_via (fun t k => st1145 t k) ?_
  obtain ⟨fs, hr, hrun, hended, hW, hsame⟩ := X1145.leave (v := some (.ref w95)) (fun h => by rw [Bd.returns] at h; cases h)
  refine own_end (t := T1145.setFrames fs) ?_ ⟨_, hrun, hended, _, _, rfl, ?_, ⟨_, rfl⟩, hW, hsame.mono (by decide) (by decide)⟩
  · jvm_step X1145.here [X1145.here.top, hx, (hb hby d1_112), X1145.method', Bd.returns, Value.isRef, FieldType.isReference]
    first | (intro acts; rw [hr _ acts rfl rfl rfl]) | rw [hr _ _ rfl rfl rfl]
    exact Steps.refl _
  · show Q60 Z w95 h0 n0 _ T1145.heap _
    rw [e1145]
    exact ⟨rfl, N0, rfl⟩
def Q61 (Z : State) (w95 : Addr) (h0 : Heap) (n0 : Nat) (v : Option Value) (h : Heap) (L : List Loc) : Prop := v = some (.ref w95) ∧ Fr n0 L ∧ h = h0
set_option maxRecDepth 65536 in
set_option maxHeartbeats 40000000 in
theorem rm61 (l : Launch) (Z : State) (a0 : Array Value) (hw : ∀ d ∈ tables_1, d.before a0 Z = true) (ws : List Jvm.Cond) (w95 : Addr) (h0 : Heap) (n0 : Nat) (O0 : Old Z n0 h0) :
    MetFree l (⟨zs10, zs11, zs9⟩ : MethodName) (head1 (Jvm.Cond.code (⟨zs10, zs11, zs9⟩ : MethodName) jdk_31_method_10_code 1 (some (.object zs13)) :: ws) ({ frames := 0, cells := 0, slots := 0, locals := 0 } : Room)) (fun a U => a = #[(.ref w95)] ∧ Z.Warmed39 U.vm ∧ U.heap = h0) (fun _ _ _ _ _ => True) (fun _ U o U' => ∃ v L, o = .returned v ∧ Q61 Z w95 h0 n0 v U'.heap L ∧ FrameEnd U o U' L ({ frames := 0, cells := 0, slots := 0, locals := 0 } : Room).cells ({ frames := 0, cells := 0, slots := 0, locals := 0 } : Room).slots) := by
  refine MetFree.of_bodySF (plainFor_of_name pn_4) hisR ?_
  intro p e s m args below meth c s₁ Bd hml0 hP hK
  obtain ⟨rfl, hZ, hh⟩ := hP
  have hx := Bd.exec
  have hby := Bd.bytes
  have hml : c.maxLocals = 1 := hml0
  have hown : s.vm.findClass zs10 = some m.cls := findClass_of_methodNamed Bd.named
  have hnm := (name_of_methodNamed Bd.named Bd.method).1
  have X0 : Stand p l e ({ frames := 0, cells := 0, slots := 0, locals := 0 } : Room) s m #[(.ref w95)] below meth c s₁ [] 0 0 := Stand.of_body Bd
  have e0 : s₁.heap = h0 := by rw [← hh, Bd.state]; rfl
  have N0 := Fr.nil n0
  refine own_out ?_
  refine own_via (fun t k => castTop (ef_4 m w95) (XS.aloadN X0.here hx rfl (hb hby d6_0) rfl rfl (XS.ifnonnullYes X0.here hx rfl (pc0 := 1) (pc' := 12) rfl (hb hby d6_1) rfl (by decide) (by decide) (XS.aloadN X0.here hx rfl (hb hby d6_12) rfl rfl k)))) ?_
  show own_Goes p e below (s₁.setTop (mkF m 13 #[rv w95] [(.ref w95)])) _
  obtain ⟨fs, hr, hrun, hended, hW, hsame⟩ := X0.leave (v := some (.ref w95)) (fun h => by rw [Bd.returns] at h; cases h)
  refine own_end (t := s₁.setFrames fs) ?_ ⟨_, hrun, hended, _, _, rfl, ?_, ⟨_, rfl⟩, hW, hsame.mono (by decide) (by decide)⟩
  · jvm_step X0.here [X0.here.top, hx, (hb hby d6_13), X0.method', Bd.returns, Value.isRef, FieldType.isReference]
    first | (intro acts; rw [hr _ acts rfl rfl rfl]) | rw [hr _ _ rfl rfl rfl]
    exact Steps.refl _
  · show Q61 Z w95 h0 n0 _ s₁.heap _
    rw [e0]
    exact ⟨rfl, N0, rfl⟩
def Q62 (Z : State) (a1158 : Addr) (p1159 : Int32) (w59 : Addr) (w95 : Addr) (p1160 : Int32) (h0 : Heap) (n0 : Nat) (v : Option Value) (h : Heap) (L : List Loc) : Prop := v = none ∧ Fr n0 L ∧ Keep h0 h [a1158] ∧ Exa Z h a1158 zs1 ∧ Fld Z h a1158 zs1 "colour" zs6 (.ref w59) ∧ Fld Z h a1158 zs1 "opponent" "I" (.int p1159) ∧ Fld Z h a1158 zs1 "result" zs3 (.ref w95)
set_option maxRecDepth 65536 in
set_option maxHeartbeats 40000000 in
theorem rm62 (l : Launch) (Z : State) (a0 : Array Value) (hw : ∀ d ∈ tables_1, d.before a0 Z = true) (ws : List Jvm.Cond) (a1158 : Addr) (p1159 : Int32) (w59 : Addr) (w95 : Addr) (p1160 : Int32) (h0 : Heap) (n0 : Nat) (O0 : Old Z n0 h0) (pC1161 : ¬ (p1159 < (0 : Int32))) (pF_a1158_opponent : Fld Z h0 a1158 zs1 "opponent" "I" (.int p1160)) (pE_a1158 : Exa Z h0 a1158 zs1) (pG_a1158 : n0 ≤ a1158) (pF_a1158_colour : Fld Z h0 a1158 zs1 "colour" zs6 .null) (pF_a1158_result : Fld Z h0 a1158 zs1 "result" zs3 .null) :
    MetFree l (⟨zs1, "<init>", zs5⟩ : MethodName) (head1 (Jvm.Cond.code (⟨zs1, "<init>", zs5⟩ : MethodName) prog_45_method_1_code 4 none :: ws) ({ frames := 2, cells := 0, slots := 0, locals := 24 } : Room)) (fun a U => a = #[(.ref a1158), (.int p1159), (.ref w59), (.ref w95)] ∧ Z.Warmed39 U.vm ∧ U.heap = h0) (fun _ _ _ _ _ => True) (fun _ U o U' => ∃ v L, o = .returned v ∧ Q62 Z a1158 p1159 w59 w95 p1160 h0 n0 v U'.heap L ∧ FrameEnd U o U' L ({ frames := 2, cells := 0, slots := 0, locals := 24 } : Room).cells ({ frames := 2, cells := 0, slots := 0, locals := 24 } : Room).slots) := by
  refine MetFree.of_bodySF (plainFor_of_name pn_2) hisR ?_
  intro p e s m args below meth c s₁ Bd hml0 hP hK
  obtain ⟨rfl, hZ, hh⟩ := hP
  have hx := Bd.exec
  have hby := Bd.bytes
  have hml : c.maxLocals = 4 := hml0
  have hown : s.vm.findClass zs1 = some m.cls := findClass_of_methodNamed Bd.named
  have hnm := (name_of_methodNamed Bd.named Bd.method).1
  have X0 : Stand p l e ({ frames := 2, cells := 0, slots := 0, locals := 24 } : Room) s m #[(.ref a1158), (.int p1159), (.ref w59), (.ref w95)] below meth c s₁ [] 0 0 := Stand.of_body Bd
  have e0 : s₁.heap = h0 := by rw [← hh, Bd.state]; rfl
  have N0 := Fr.nil n0
  refine own_out ?_
  refine own_via (fun t k => castTop (ef_5 m a1158 p1159 w59 w95) (XS.aloadN X0.here hx rfl (hb hby d3_0) rfl rfl k)) ?_
  obtain ⟨_, T1167, _, X1167, hQ1167, st1167⟩ := own_ci X0 hx hZ hown (wd hw 23 rfl) (wd hw 24 rfl) (wd hw 27 rfl) (wd hw 26 rfl) rfl (by decide) (rm3 l Z a0 hw [] a1158 h0 n0 O0 ) e0 (g := (mkF m 1 #[rv a1158, iv p1159, rv w59, rv w95] [(.ref a1158)])) rfl (by rw [hml]; rfl) (rest := []) (W := 0) (lenOf pd_3 rfl) rfl (by show 2 * 0 + _ ≤ _; exact Nat.le_of_eq rfl) (hb hby d3_1) (by decide) (by decide) (by decide) (by decide)
  obtain ⟨rfl, Nq1167, hh1168⟩ := hQ1167
  have N1167 := Fr.app N0 Nq1167
  refine own_via (fun t k => st1167 t (XS.aloadN X1167.here hx rfl (hb hby d3_4) rfl rfl k)) ?_
  obtain ⟨_, T1169, _, X1169, hQ1169, st1169⟩ := own_cs X1167 hx hZ hown (wd hw 31 rfl) (wd hw 32 rfl) (wd hw 34 rfl) (wd hw 33 rfl) (by decide) (rm4 l Z a0 hw [] w59 h0 n0 O0 ) hh1168 (g := (mkF m 5 #[rv a1158, iv p1159, rv w59, rv w95] [(.ref w59)])) rfl (by rw [hml]; rfl) (rest := []) (W := 0) (lenOf pd_4 rfl) rfl (by show 2 * 0 + _ ≤ _; exact Nat.le_of_eq rfl) (hb hby d3_5) (by decide) (by decide) (by decide) (by decide)
  obtain ⟨rfl, Nq1169, hh1170⟩ := hQ1169
  have N1169 := Fr.app N1167 Nq1169
  refine own_via (fun t k => st1169 t (XS.pop X1169.here hx rfl (hb hby d3_8) rfl rfl (XS.aloadN X1169.here hx rfl (hb hby d3_9) rfl rfl k))) ?_
  show own_Goes p e below (T1169.setTop (mkF m 10 #[rv a1158, iv p1159, rv w59, rv w95] [(.ref w95)])) _
  obtain ⟨_, T1171, _, X1171, hQ1171, st1171⟩ := own_cs X1169 hx hZ hown (wd hw 31 rfl) (wd hw 32 rfl) (wd hw 34 rfl) (wd hw 33 rfl) (by decide) (rm61 l Z a0 hw [] w95 h0 n0 O0 ) hh1170 (g := (mkF m 10 #[rv a1158, iv p1159, rv w59, rv w95] [(.ref w95)])) rfl (by rw [hml]; rfl) (rest := []) (W := 0) (lenOf pd_4 rfl) rfl (by show 2 * 0 + _ ≤ _; exact Nat.le_of_eq rfl) (hb hby d3_10) (by decide) (by decide) (by decide) (by decide)
  obtain ⟨rfl, Nq1171, hh1181⟩ := hQ1171
  have N1171 := Fr.app N1169 Nq1171
  refine own_via (fun t k => st1171 t (XS.pop X1171.here hx rfl (hb hby d3_13) rfl rfl (XS.iloadN X1171.here hx rfl (hb hby d3_14) rfl (XS.ifYes X1171.here hx rfl (pc0 := 15) (pc' := 32) rfl (hb hby d3_15) rfl ((if0 _ _).trans (flt pC1161).2.1) (by decide) (by decide) (XS.aloadN X1171.here hx rfl (hb hby d3_32) rfl rfl (XS.iloadN X1171.here hx rfl (hb hby d3_33) rfl k)))))) ?_
  show own_Goes p e below (T1171.setTop (mkF m 34 #[rv a1158, iv p1159, rv w59, rv w95] [(.int p1159), (.ref a1158)])) _
  obtain ⟨T1182, h1182, X1182, e1182, W1182, st1182⟩ := putF X1171 hx hZ hown (host := "") (Or.inl (wd hw 35 rfl)) Via.refl hh1181 pF_a1158_opponent pE_a1158 (Or.inr ⟨(wd hw 36 rfl), rfl, hnm⟩) (wd hw 19 rfl) (ty := .int) (by decide) rfl rfl (g := (mkF m 34 #[rv a1158, iv p1159, rv w59, rv w95] [(.int p1159), (.ref a1158)])) rfl rfl (hb hby d3_34)
  refine own_via (fun t k => st1182 t k) ?_
  have Fw1182 : Fld Z h1182 a1158 zs1 "opponent" "I" (.int p1159) := pF_a1158_opponent.same W1182
  have N1182 := Fr.snoc X1182 N1171 pG_a1158
  show own_Goes p e below (T1182.setTop (mkF m 37 #[rv a1158, iv p1159, rv w59, rv w95] [])) _
  refine own_via (fun t k => XS.aloadN X1182.here hx rfl (hb hby d3_37) rfl rfl (XS.aloadN X1182.here hx rfl (hb hby d3_38) rfl rfl k)) ?_
  have F1183 : Fld Z h1182 a1158 zs1 "colour" zs6 .null := (pF_a1158_colour.other W1182 (Or.inr (slot_ne (Or.inr (wd hw 17 rfl)) (Or.inr (wd hw 36 rfl)) (by decide) (t := (.object zs7)) (t' := .int) (by decide) (by decide))))
  have E1184 : Exa Z h1182 a1158 zs1 := (pE_a1158.wr W1182)
  obtain ⟨T1185, h1185, X1185, e1185, W1185, st1185⟩ := putF X1182 hx hZ hown (host := "") (Or.inl (wd hw 16 rfl)) Via.refl e1182 F1183 E1184 (Or.inr ⟨(wd hw 17 rfl), rfl, hnm⟩) (wd hw 19 rfl) (ty := (.object zs7)) (by decide) rfl rfl (g := (mkF m 39 #[rv a1158, iv p1159, rv w59, rv w95] [(.ref w59), (.ref a1158)])) rfl rfl (hb hby d3_39)
  refine own_via (fun t k => st1185 t k) ?_
  have Fw1185 : Fld Z h1185 a1158 zs1 "colour" zs6 (.ref w59) := F1183.same W1185
  have N1185 := Fr.snoc X1185 N1182 pG_a1158
  show own_Goes p e below (T1185.setTop (mkF m 42 #[rv a1158, iv p1159, rv w59, rv w95] [])) _
  refine own_via (fun t k => XS.aloadN X1185.here hx rfl (hb hby d3_42) rfl rfl (XS.aloadN X1185.here hx rfl (hb hby d3_43) rfl rfl k)) ?_
  have F1186 : Fld Z h1185 a1158 zs1 "result" zs3 .null := ((pF_a1158_result.other W1182 (Or.inr (slot_ne (Or.inr (wd hw 38 rfl)) (Or.inr (wd hw 36 rfl)) (by decide) (t := (.object zs2)) (t' := .int) (by decide) (by decide)))).other W1185 (Or.inr (slot_ne (Or.inr (wd hw 38 rfl)) (Or.inr (wd hw 17 rfl)) (by decide) (t := (.object zs2)) (t' := (.object zs7)) (by decide) (by decide))))
  have E1187 : Exa Z h1185 a1158 zs1 := (E1184.wr W1185)
  obtain ⟨T1188, h1188, X1188, e1188, W1188, st1188⟩ := putF X1185 hx hZ hown (host := "") (Or.inl (wd hw 37 rfl)) Via.refl e1185 F1186 E1187 (Or.inr ⟨(wd hw 38 rfl), rfl, hnm⟩) (wd hw 19 rfl) (ty := (.object zs2)) (by decide) rfl rfl (g := (mkF m 44 #[rv a1158, iv p1159, rv w59, rv w95] [(.ref w95), (.ref a1158)])) rfl rfl (hb hby d3_44)
  refine own_via (fun t k => st1188 t k) ?_
  have Fw1188 : Fld Z h1188 a1158 zs1 "result" zs3 (.ref w95) := F1186.same W1188
  have N1188 := Fr.snoc X1188 N1185 pG_a1158
  show own_Goes p e below (T1188.setTop (mkF m 47 #[rv a1158, iv p1159, rv w59, rv w95] [])) _
  obtain ⟨fs, hr, hrun, hended, hW, hsame⟩ := X1188.leave (v := none) (fun _ => rfl)
  refine own_end (t := T1188.setFrames fs) ?_ ⟨_, hrun, hended, _, _, rfl, ?_, ⟨_, rfl⟩, hW, hsame.mono (by decide) (by decide)⟩
  · exact X1188.returnOut hx Bd.returns (hb hby d3_47) hr
  have E1189 : Exa Z h1188 a1158 zs1 := (E1187.wr W1188)
  have F1190 : Fld Z h1188 a1158 zs1 "colour" zs6 (.ref w59) := (Fw1185.other W1188 (Or.inr (slot_ne (Or.inr (wd hw 17 rfl)) (Or.inr (wd hw 38 rfl)) (by decide) (t := (.object zs7)) (t' := (.object zs2)) (by decide) (by decide))))
  have F1191 : Fld Z h1188 a1158 zs1 "opponent" "I" (.int p1159) := ((Fw1182.other W1185 (Or.inr (slot_ne (Or.inr (wd hw 36 rfl)) (Or.inr (wd hw 17 rfl)) (by decide) (t := .int) (t' := (.object zs7)) (by decide) (by decide)))).other W1188 (Or.inr (slot_ne (Or.inr (wd hw 36 rfl)) (Or.inr (wd hw 38 rfl)) (by decide) (t := .int) (t' := (.object zs2)) (by decide) (by decide))))
  · show Q62 Z a1158 p1159 w59 w95 p1160 h0 n0 _ T1188.heap _
    rw [e1188]
    exact ⟨rfl, N1188, ((((Keep.refl h0 [a1158]).wr W1182 (Or.inl (List.mem_of_getElem? (i := 0) rfl))).wr W1185 (Or.inl (List.mem_of_getElem? (i := 0) rfl))).wr W1188 (Or.inl (List.mem_of_getElem? (i := 0) rfl))), E1189, F1190, F1191, Fw1188⟩
def Q63 (Z : State) (w95 : Addr) (h0 : Heap) (n0 : Nat) (v : Option Value) (h : Heap) (L : List Loc) : Prop := v = some (.int (0 : Int32)) ∧ Fr n0 L ∧ h = h0
set_option maxRecDepth 65536 in
set_option maxHeartbeats 40000000 in
theorem rm63 (l : Launch) (Z : State) (a0 : Array Value) (hw : ∀ d ∈ tables_1, d.before a0 Z = true) (ws : List Jvm.Cond) (w95 : Addr) (h0 : Heap) (n0 : Nat) (O0 : Old Z n0 h0) (SF_w95_game : Fld Z Z.heap w95 zs2 "game" "Z" (.int (0 : Int32))) :
    MetFree l (⟨zs2, "isGame", "()Z"⟩ : MethodName) (head1 (Jvm.Cond.code (⟨zs2, "isGame", "()Z"⟩ : MethodName) prog_43_method_7_code 1 (some .boolean) :: ws) ({ frames := 0, cells := 0, slots := 0, locals := 0 } : Room)) (fun a U => a = #[(.ref w95)] ∧ Z.Warmed39 U.vm ∧ U.heap = h0) (fun _ _ _ _ _ => True) (fun _ U o U' => ∃ v L, o = .returned v ∧ Q63 Z w95 h0 n0 v U'.heap L ∧ FrameEnd U o U' L ({ frames := 0, cells := 0, slots := 0, locals := 0 } : Room).cells ({ frames := 0, cells := 0, slots := 0, locals := 0 } : Room).slots) := by
  refine MetFree.of_bodySF (plainFor_of_name pn_5) hisR ?_
  intro p e s m args below meth c s₁ Bd hml0 hP hK
  obtain ⟨rfl, hZ, hh⟩ := hP
  have hx := Bd.exec
  have hby := Bd.bytes
  have hml : c.maxLocals = 1 := hml0
  have hown : s.vm.findClass zs2 = some m.cls := findClass_of_methodNamed Bd.named
  have hnm := (name_of_methodNamed Bd.named Bd.method).1
  have X0 : Stand p l e ({ frames := 0, cells := 0, slots := 0, locals := 0 } : Room) s m #[(.ref w95)] below meth c s₁ [] 0 0 := Stand.of_body Bd
  have e0 : s₁.heap = h0 := by rw [← hh, Bd.state]; rfl
  have N0 := Fr.nil n0
  refine own_out ?_
  refine own_via (fun t k => castTop (ef_7 m w95) (XS.aloadN X0.here hx rfl (hb hby d8_0) rfl rfl k)) ?_
  obtain ⟨T1223, X1223, e1223, st1223⟩ := getF X0 hx hZ hown (host := "") (Or.inl (wd hw 51 rfl)) Via.refl e0 (SF_w95_game.ext O0.2) (g := (mkF m 1 #[rv w95] [(.ref w95)])) rfl rfl (hb hby d8_1)
  refine own_via (fun t k => st1223 t k) ?_
  obtain ⟨fs, hr, hrun, hended, hW, hsame⟩ := X1223.leave (v := some (.int (0 : Int32))) (fun h => by rw [Bd.returns] at h; cases h)
  refine own_end (t := T1223.setFrames fs) ?_ ⟨_, hrun, hended, _, _, rfl, ?_, ⟨_, rfl⟩, hW, hsame.mono (by decide) (by decide)⟩
  · exact retN X1223 hx (t := .boolean) Bd.returns (by simp) (hb hby d8_4) hr
  · show Q63 Z w95 h0 n0 _ T1223.heap _
    rw [e1223]
    exact ⟨rfl, N0, rfl⟩
def Q64 (Z : State) (a1202 : Addr) (p1203 : Int32) (w95 : Addr) (h0 : Heap) (n0 : Nat) (v : Option Value) (h : Heap) (L : List Loc) : Prop := v = some (.int (0 : Int32)) ∧ Fr n0 L ∧ h = h0
set_option maxRecDepth 65536 in
set_option maxHeartbeats 40000000 in
theorem rm64 (l : Launch) (Z : State) (a0 : Array Value) (hw : ∀ d ∈ tables_1, d.before a0 Z = true) (ws : List Jvm.Cond) (a1202 : Addr) (p1203 : Int32) (w95 : Addr) (h0 : Heap) (n0 : Nat) (O0 : Old Z n0 h0) (pF_a1202_opponent : Fld Z h0 a1202 zs1 "opponent" "I" (.int p1203)) (pC1210 : ¬ (p1203 = (0 : Int32))) (pF_a1202_result : Fld Z h0 a1202 zs1 "result" zs3 (.ref w95)) (SF_w95_game : Fld Z Z.heap w95 zs2 "game" "Z" (.int (0 : Int32))) (SE_w95 : Exa Z Z.heap w95 zs2) :
    MetFree l (⟨zs1, zs12, "()Z"⟩ : MethodName) (head1 (Jvm.Cond.code (⟨zs1, zs12, "()Z"⟩ : MethodName) prog_45_method_4_code 1 (some .boolean) :: ws) ({ frames := 1, cells := 0, slots := 0, locals := 12 } : Room)) (fun a U => a = #[(.ref a1202)] ∧ Z.Warmed39 U.vm ∧ U.heap = h0) (fun _ _ _ _ _ => True) (fun _ U o U' => ∃ v L, o = .returned v ∧ Q64 Z a1202 p1203 w95 h0 n0 v U'.heap L ∧ FrameEnd U o U' L ({ frames := 1, cells := 0, slots := 0, locals := 12 } : Room).cells ({ frames := 1, cells := 0, slots := 0, locals := 12 } : Room).slots) := by
  refine MetFree.of_bodySF (plainFor_of_name pn_2) hisR ?_
  intro p e s m args below meth c s₁ Bd hml0 hP hK
  obtain ⟨rfl, hZ, hh⟩ := hP
  have hx := Bd.exec
  have hby := Bd.bytes
  have hml : c.maxLocals = 1 := hml0
  have hown : s.vm.findClass zs1 = some m.cls := findClass_of_methodNamed Bd.named
  have hnm := (name_of_methodNamed Bd.named Bd.method).1
  have X0 : Stand p l e ({ frames := 1, cells := 0, slots := 0, locals := 12 } : Room) s m #[(.ref a1202)] below meth c s₁ [] 0 0 := Stand.of_body Bd
  have e0 : s₁.heap = h0 := by rw [← hh, Bd.state]; rfl
  have N0 := Fr.nil n0
  refine own_out ?_
  refine own_via (fun t k => castTop (ef_6 m a1202) (XS.aloadN X0.here hx rfl (hb hby d7_0) rfl rfl k)) ?_
  obtain ⟨T1211, X1211, e1211, st1211⟩ := getF X0 hx hZ hown (host := "") (Or.inl (wd hw 35 rfl)) Via.refl e0 pF_a1202_opponent (g := (mkF m 1 #[rv a1202] [(.ref a1202)])) rfl rfl (hb hby d7_1)
  refine own_via (fun t k => st1211 t (XS.ifNo X1211.here hx rfl (hb hby d7_4) rfl ((if0 _ _).trans (feq pC1210).1) (XS.aloadN X1211.here hx rfl (hb hby d7_7) rfl rfl k))) ?_
  show own_Goes p e below (T1211.setTop (mkF m 8 #[rv a1202] [(.ref a1202)])) _
  obtain ⟨T1212, X1212, e1212, st1212⟩ := getF X1211 hx hZ hown (host := "") (Or.inl (wd hw 37 rfl)) Via.refl e1211 pF_a1202_result (g := (mkF m 8 #[rv a1202] [(.ref a1202)])) rfl rfl (hb hby d7_8)
  refine own_via (fun t k => st1212 t k) ?_
  obtain ⟨_, T1213, _, X1213, hQ1213, st1213⟩ := own_cv X1212 hx hZ hown (wd hw 46 rfl) (wd hw 47 rfl) (wd hw 49 rfl) (wd hw 48 rfl) (wd hw 50 rfl) (wd hw 6 rfl) (by decide) (rm63 l Z a0 hw [] w95 h0 n0 O0 SF_w95_game) e1212 (SE_w95.ext O0.2) (g := (mkF m 11 #[rv a1202] [(.ref w95)])) rfl (by rw [hml]; rfl) (rest := []) (W := 0) (lenOf pd_6 rfl) rfl (by show 2 * 0 + _ ≤ _; exact Nat.le_of_eq rfl) (hb hby d7_11) (by decide) (by decide) (by decide) (by decide)
  obtain ⟨rfl, Nq1213, hh1224⟩ := hQ1213
  have N1213 := Fr.app N0 Nq1213
  refine own_via (fun t k => st1213 t (XS.ifYes X1213.here hx rfl (pc0 := 14) (pc' := 21) rfl (hb hby d7_14) rfl ((if0 _ _).trans (teq (by decide : (0 : Int32) = (0 : Int32))).1) (by decide) (by decide) (XS.iconst X1213.here hx rfl (hb hby d7_21) k))) ?_
  show own_Goes p e below (T1213.setTop (mkF m 22 #[rv a1202] [(.int (0 : Int32))])) _
  obtain ⟨fs, hr, hrun, hended, hW, hsame⟩ := X1213.leave (v := some (.int (0 : Int32))) (fun h => by rw [Bd.returns] at h; cases h)
  refine own_end (t := T1213.setFrames fs) ?_ ⟨_, hrun, hended, _, _, rfl, ?_, ⟨_, rfl⟩, hW, hsame.mono (by decide) (by decide)⟩
  · exact retN X1213 hx (t := .boolean) Bd.returns (by simp) (hb hby d7_22) hr
  · show Q64 Z a1202 p1203 w95 h0 n0 _ T1213.heap _
    rw [hh1224]
    exact ⟨rfl, N1213, rfl⟩
theorem d1_113 : decode method_2_code 113 = .ok (.getstatic 46, 3) := by decide +kernel
theorem d1_116 : decode method_2_code 116 = .ok (.areturn, 1) := by decide +kernel
def Q65 (Z : State) (w92 : Addr) (h0 : Heap) (n0 : Nat) (v : Option Value) (h : Heap) (L : List Loc) : Prop := v = some (.ref w92) ∧ Fr n0 L ∧ h = h0
set_option maxRecDepth 65536 in
set_option maxHeartbeats 40000000 in
theorem rm65 (l : Launch) (Z : State) (a0 : Array Value) (hw : ∀ d ∈ tables_1, d.before a0 Z = true) (ws : List Jvm.Cond) (w92 : Addr) (h0 : Heap) (n0 : Nat) (O0 : Old Z n0 h0) (S_Result_NOT_PLAYED : Sta Z Z.heap zs2 "NOT_PLAYED" zs3 (.ref w92)) :
    MetFree l (⟨zs4, "pick", zs8⟩ : MethodName) (head1 (Jvm.Cond.code (⟨zs4, "pick", zs8⟩ : MethodName) method_2_code 1 (some (.object zs2)) :: ws) ({ frames := 0, cells := 0, slots := 0, locals := 0 } : Room)) (fun a U => a = #[(.int (12 : Int32))] ∧ Z.Warmed39 U.vm ∧ U.heap = h0) (fun _ _ _ _ _ => True) (fun _ U o U' => ∃ v L, o = .returned v ∧ Q65 Z w92 h0 n0 v U'.heap L ∧ FrameEnd U o U' L ({ frames := 0, cells := 0, slots := 0, locals := 0 } : Room).cells ({ frames := 0, cells := 0, slots := 0, locals := 0 } : Room).slots) := by
  refine MetFree.of_bodySF (plainFor_of_name pn_1) hisR ?_
  intro p e s m args below meth c s₁ Bd hml0 hP hK
  obtain ⟨rfl, hZ, hh⟩ := hP
  have hx := Bd.exec
  have hby := Bd.bytes
  have hml : c.maxLocals = 1 := hml0
  have hown : s.vm.findClass zs4 = some m.cls := findClass_of_methodNamed Bd.named
  have hnm := (name_of_methodNamed Bd.named Bd.method).1
  have X0 : Stand p l e ({ frames := 0, cells := 0, slots := 0, locals := 0 } : Room) s m #[(.int (12 : Int32))] below meth c s₁ [] 0 0 := Stand.of_body Bd
  have e0 : s₁.heap = h0 := by rw [← hh, Bd.state]; rfl
  have N0 := Fr.nil n0
  refine own_out ?_
  refine own_via (fun t k => castTop (ef_1 m (12 : Int32)) (XS.iloadN X0.here hx rfl (hb hby d1_0) rfl (XS.ifYes X0.here hx rfl (pc0 := 1) (pc' := 8) rfl (hb hby d1_1) rfl ((if0 _ _).trans (feq (by decide : ¬ ((12 : Int32) = (0 : Int32)))).2) (by decide) (by decide) (XS.iloadN X0.here hx rfl (hb hby d1_8) rfl (XS.iconst X0.here hx rfl (hb hby d1_9) (XS.icmpYes X0.here hx rfl (pc0 := 10) (pc' := 17) rfl (hb hby d1_10) rfl (feq (by decide : ¬ ((12 : Int32) = (1 : Int32)))).2 (by decide) (by decide) (XS.iloadN X0.here hx rfl (hb hby d1_17) rfl (XS.iconst X0.here hx rfl (hb hby d1_18) (XS.icmpYes X0.here hx rfl (pc0 := 19) (pc' := 26) rfl (hb hby d1_19) rfl (feq (by decide : ¬ ((12 : Int32) = (2 : Int32)))).2 (by decide) (by decide) (XS.iloadN X0.here hx rfl (hb hby d1_26) rfl (XS.iconst X0.here hx rfl (hb hby d1_27) (XS.icmpYes X0.here hx rfl (pc0 := 28) (pc' := 35) rfl (hb hby d1_28) rfl (feq (by decide : ¬ ((12 : Int32) = (3 : Int32)))).2 (by decide) (by decide) k)))))))))))) ?_
  show own_Goes p e below (s₁.setTop (mkF m 35 #[iv (12 : Int32)] [])) _
  refine own_via (fun t k => XS.iloadN X0.here hx rfl (hb hby d1_35) rfl (XS.iconst X0.here hx rfl (hb hby d1_36) (XS.icmpYes X0.here hx rfl (pc0 := 37) (pc' := 44) rfl (hb hby d1_37) rfl (feq (by decide : ¬ ((12 : Int32) = (4 : Int32)))).2 (by decide) (by decide) (XS.iloadN X0.here hx rfl (hb hby d1_44) rfl (XS.iconst X0.here hx rfl (hb hby d1_45) (XS.icmpYes X0.here hx rfl (pc0 := 46) (pc' := 53) rfl (hb hby d1_46) rfl (feq (by decide : ¬ ((12 : Int32) = (5 : Int32)))).2 (by decide) (by decide) (XS.iloadN X0.here hx rfl (hb hby d1_53) rfl (XS.bipush X0.here hx rfl (hb hby d1_54) (XS.icmpYes X0.here hx rfl (pc0 := 56) (pc' := 63) rfl (hb hby d1_56) rfl (feq (by decide : ¬ ((12 : Int32) = (6 : Int32)))).2 (by decide) (by decide) (XS.iloadN X0.here hx rfl (hb hby d1_63) rfl (XS.bipush X0.here hx rfl (hb hby d1_64) (XS.icmpYes X0.here hx rfl (pc0 := 66) (pc' := 73) rfl (hb hby d1_66) rfl (feq (by decide : ¬ ((12 : Int32) = (7 : Int32)))).2 (by decide) (by decide) k)))))))))))) ?_
  show own_Goes p e below (s₁.setTop (mkF m 73 #[iv (12 : Int32)] [])) _
  refine own_via (fun t k => XS.iloadN X0.here hx rfl (hb hby d1_73) rfl (XS.bipush X0.here hx rfl (hb hby d1_74) (XS.icmpYes X0.here hx rfl (pc0 := 76) (pc' := 83) rfl (hb hby d1_76) rfl (feq (by decide : ¬ ((12 : Int32) = (8 : Int32)))).2 (by decide) (by decide) (XS.iloadN X0.here hx rfl (hb hby d1_83) rfl (XS.bipush X0.here hx rfl (hb hby d1_84) (XS.icmpYes X0.here hx rfl (pc0 := 86) (pc' := 93) rfl (hb hby d1_86) rfl (feq (by decide : ¬ ((12 : Int32) = (9 : Int32)))).2 (by decide) (by decide) (XS.iloadN X0.here hx rfl (hb hby d1_93) rfl (XS.bipush X0.here hx rfl (hb hby d1_94) (XS.icmpYes X0.here hx rfl (pc0 := 96) (pc' := 103) rfl (hb hby d1_96) rfl (feq (by decide : ¬ ((12 : Int32) = (10 : Int32)))).2 (by decide) (by decide) (XS.iloadN X0.here hx rfl (hb hby d1_103) rfl (XS.bipush X0.here hx rfl (hb hby d1_104) (XS.icmpYes X0.here hx rfl (pc0 := 106) (pc' := 113) rfl (hb hby d1_106) rfl (feq (by decide : ¬ ((12 : Int32) = (11 : Int32)))).2 (by decide) (by decide) k)))))))))))) ?_
  show own_Goes p e below (s₁.setTop (mkF m 113 #[iv (12 : Int32)] [])) _
  obtain ⟨T1236, X1236, e1236, st1236⟩ := getS2 X0 hx hZ hown (host := "") (Or.inl (wd hw 71 rfl)) Via.refl e0 (S_Result_NOT_PLAYED.ext O0.2) (g := (mkF m 113 #[iv (12 : Int32)] [])) rfl (hb hby d1_113)
  refine own_via (fun t k => st1236 t k) ?_
  obtain ⟨fs, hr, hrun, hended, hW, hsame⟩ := X1236.leave (v := some (.ref w92)) (fun h => by rw [Bd.returns] at h; cases h)
  refine own_end (t := T1236.setFrames fs) ?_ ⟨_, hrun, hended, _, _, rfl, ?_, ⟨_, rfl⟩, hW, hsame.mono (by decide) (by decide)⟩
  · jvm_step X1236.here [X1236.here.top, hx, (hb hby d1_116), X1236.method', Bd.returns, Value.isRef, FieldType.isReference]
    first | (intro acts; rw [hr _ acts rfl rfl rfl]) | rw [hr _ _ rfl rfl rfl]
    exact Steps.refl _
  · show Q65 Z w92 h0 n0 _ T1236.heap _
    rw [e1236]
    exact ⟨rfl, N0, rfl⟩
def Q66 (Z : State) (w92 : Addr) (h0 : Heap) (n0 : Nat) (v : Option Value) (h : Heap) (L : List Loc) : Prop := v = some (.ref w92) ∧ Fr n0 L ∧ h = h0
set_option maxRecDepth 65536 in
set_option maxHeartbeats 40000000 in
theorem rm66 (l : Launch) (Z : State) (a0 : Array Value) (hw : ∀ d ∈ tables_1, d.before a0 Z = true) (ws : List Jvm.Cond) (w92 : Addr) (h0 : Heap) (n0 : Nat) (O0 : Old Z n0 h0) :
    MetFree l (⟨zs10, zs11, zs9⟩ : MethodName) (head1 (Jvm.Cond.code (⟨zs10, zs11, zs9⟩ : MethodName) jdk_31_method_10_code 1 (some (.object zs13)) :: ws) ({ frames := 0, cells := 0, slots := 0, locals := 0 } : Room)) (fun a U => a = #[(.ref w92)] ∧ Z.Warmed39 U.vm ∧ U.heap = h0) (fun _ _ _ _ _ => True) (fun _ U o U' => ∃ v L, o = .returned v ∧ Q66 Z w92 h0 n0 v U'.heap L ∧ FrameEnd U o U' L ({ frames := 0, cells := 0, slots := 0, locals := 0 } : Room).cells ({ frames := 0, cells := 0, slots := 0, locals := 0 } : Room).slots) := by
  refine MetFree.of_bodySF (plainFor_of_name pn_4) hisR ?_
  intro p e s m args below meth c s₁ Bd hml0 hP hK
  obtain ⟨rfl, hZ, hh⟩ := hP
  have hx := Bd.exec
  have hby := Bd.bytes
  have hml : c.maxLocals = 1 := hml0
  have hown : s.vm.findClass zs10 = some m.cls := findClass_of_methodNamed Bd.named
  have hnm := (name_of_methodNamed Bd.named Bd.method).1
  have X0 : Stand p l e ({ frames := 0, cells := 0, slots := 0, locals := 0 } : Room) s m #[(.ref w92)] below meth c s₁ [] 0 0 := Stand.of_body Bd
  have e0 : s₁.heap = h0 := by rw [← hh, Bd.state]; rfl
  have N0 := Fr.nil n0
  refine own_out ?_
  refine own_via (fun t k => castTop (ef_4 m w92) (XS.aloadN X0.here hx rfl (hb hby d6_0) rfl rfl (XS.ifnonnullYes X0.here hx rfl (pc0 := 1) (pc' := 12) rfl (hb hby d6_1) rfl (by decide) (by decide) (XS.aloadN X0.here hx rfl (hb hby d6_12) rfl rfl k)))) ?_
  show own_Goes p e below (s₁.setTop (mkF m 13 #[rv w92] [(.ref w92)])) _
  obtain ⟨fs, hr, hrun, hended, hW, hsame⟩ := X0.leave (v := some (.ref w92)) (fun h => by rw [Bd.returns] at h; cases h)
  refine own_end (t := s₁.setFrames fs) ?_ ⟨_, hrun, hended, _, _, rfl, ?_, ⟨_, rfl⟩, hW, hsame.mono (by decide) (by decide)⟩
  · jvm_step X0.here [X0.here.top, hx, (hb hby d6_13), X0.method', Bd.returns, Value.isRef, FieldType.isReference]
    first | (intro acts; rw [hr _ acts rfl rfl rfl]) | rw [hr _ _ rfl rfl rfl]
    exact Steps.refl _
  · show Q66 Z w92 h0 n0 _ s₁.heap _
    rw [e0]
    exact ⟨rfl, N0, rfl⟩
def Q67 (Z : State) (a1249 : Addr) (p1250 : Int32) (w59 : Addr) (w92 : Addr) (p1251 : Int32) (h0 : Heap) (n0 : Nat) (v : Option Value) (h : Heap) (L : List Loc) : Prop := v = none ∧ Fr n0 L ∧ Keep h0 h [a1249] ∧ Exa Z h a1249 zs1 ∧ Fld Z h a1249 zs1 "colour" zs6 (.ref w59) ∧ Fld Z h a1249 zs1 "opponent" "I" (.int p1250) ∧ Fld Z h a1249 zs1 "result" zs3 (.ref w92)
set_option maxRecDepth 65536 in
set_option maxHeartbeats 40000000 in
theorem rm67 (l : Launch) (Z : State) (a0 : Array Value) (hw : ∀ d ∈ tables_1, d.before a0 Z = true) (ws : List Jvm.Cond) (a1249 : Addr) (p1250 : Int32) (w59 : Addr) (w92 : Addr) (p1251 : Int32) (h0 : Heap) (n0 : Nat) (O0 : Old Z n0 h0) (pC1252 : ¬ (p1250 < (0 : Int32))) (pF_a1249_opponent : Fld Z h0 a1249 zs1 "opponent" "I" (.int p1251)) (pE_a1249 : Exa Z h0 a1249 zs1) (pG_a1249 : n0 ≤ a1249) (pF_a1249_colour : Fld Z h0 a1249 zs1 "colour" zs6 .null) (pF_a1249_result : Fld Z h0 a1249 zs1 "result" zs3 .null) :
    MetFree l (⟨zs1, "<init>", zs5⟩ : MethodName) (head1 (Jvm.Cond.code (⟨zs1, "<init>", zs5⟩ : MethodName) prog_45_method_1_code 4 none :: ws) ({ frames := 2, cells := 0, slots := 0, locals := 24 } : Room)) (fun a U => a = #[(.ref a1249), (.int p1250), (.ref w59), (.ref w92)] ∧ Z.Warmed39 U.vm ∧ U.heap = h0) (fun _ _ _ _ _ => True) (fun _ U o U' => ∃ v L, o = .returned v ∧ Q67 Z a1249 p1250 w59 w92 p1251 h0 n0 v U'.heap L ∧ FrameEnd U o U' L ({ frames := 2, cells := 0, slots := 0, locals := 24 } : Room).cells ({ frames := 2, cells := 0, slots := 0, locals := 24 } : Room).slots) := by
  refine MetFree.of_bodySF (plainFor_of_name pn_2) hisR ?_
  intro p e s m args below meth c s₁ Bd hml0 hP hK
  obtain ⟨rfl, hZ, hh⟩ := hP
  have hx := Bd.exec
  have hby := Bd.bytes
  have hml : c.maxLocals = 4 := hml0
  have hown : s.vm.findClass zs1 = some m.cls := findClass_of_methodNamed Bd.named
  have hnm := (name_of_methodNamed Bd.named Bd.method).1
  have X0 : Stand p l e ({ frames := 2, cells := 0, slots := 0, locals := 24 } : Room) s m #[(.ref a1249), (.int p1250), (.ref w59), (.ref w92)] below meth c s₁ [] 0 0 := Stand.of_body Bd
  have e0 : s₁.heap = h0 := by rw [← hh, Bd.state]; rfl
  have N0 := Fr.nil n0
  refine own_out ?_
  refine own_via (fun t k => castTop (ef_5 m a1249 p1250 w59 w92) (XS.aloadN X0.here hx rfl (hb hby d3_0) rfl rfl k)) ?_
  obtain ⟨_, T1258, _, X1258, hQ1258, st1258⟩ := own_ci X0 hx hZ hown (wd hw 23 rfl) (wd hw 24 rfl) (wd hw 27 rfl) (wd hw 26 rfl) rfl (by decide) (rm3 l Z a0 hw [] a1249 h0 n0 O0 ) e0 (g := (mkF m 1 #[rv a1249, iv p1250, rv w59, rv w92] [(.ref a1249)])) rfl (by rw [hml]; rfl) (rest := []) (W := 0) (lenOf pd_3 rfl) rfl (by show 2 * 0 + _ ≤ _; exact Nat.le_of_eq rfl) (hb hby d3_1) (by decide) (by decide) (by decide) (by decide)
  obtain ⟨rfl, Nq1258, hh1259⟩ := hQ1258
  have N1258 := Fr.app N0 Nq1258
  refine own_via (fun t k => st1258 t (XS.aloadN X1258.here hx rfl (hb hby d3_4) rfl rfl k)) ?_
  obtain ⟨_, T1260, _, X1260, hQ1260, st1260⟩ := own_cs X1258 hx hZ hown (wd hw 31 rfl) (wd hw 32 rfl) (wd hw 34 rfl) (wd hw 33 rfl) (by decide) (rm4 l Z a0 hw [] w59 h0 n0 O0 ) hh1259 (g := (mkF m 5 #[rv a1249, iv p1250, rv w59, rv w92] [(.ref w59)])) rfl (by rw [hml]; rfl) (rest := []) (W := 0) (lenOf pd_4 rfl) rfl (by show 2 * 0 + _ ≤ _; exact Nat.le_of_eq rfl) (hb hby d3_5) (by decide) (by decide) (by decide) (by decide)
  obtain ⟨rfl, Nq1260, hh1261⟩ := hQ1260
  have N1260 := Fr.app N1258 Nq1260
  refine own_via (fun t k => st1260 t (XS.pop X1260.here hx rfl (hb hby d3_8) rfl rfl (XS.aloadN X1260.here hx rfl (hb hby d3_9) rfl rfl k))) ?_
  show own_Goes p e below (T1260.setTop (mkF m 10 #[rv a1249, iv p1250, rv w59, rv w92] [(.ref w92)])) _
  obtain ⟨_, T1262, _, X1262, hQ1262, st1262⟩ := own_cs X1260 hx hZ hown (wd hw 31 rfl) (wd hw 32 rfl) (wd hw 34 rfl) (wd hw 33 rfl) (by decide) (rm66 l Z a0 hw [] w92 h0 n0 O0 ) hh1261 (g := (mkF m 10 #[rv a1249, iv p1250, rv w59, rv w92] [(.ref w92)])) rfl (by rw [hml]; rfl) (rest := []) (W := 0) (lenOf pd_4 rfl) rfl (by show 2 * 0 + _ ≤ _; exact Nat.le_of_eq rfl) (hb hby d3_10) (by decide) (by decide) (by decide) (by decide)
  obtain ⟨rfl, Nq1262, hh1272⟩ := hQ1262
  have N1262 := Fr.app N1260 Nq1262
  refine own_via (fun t k => st1262 t (XS.pop X1262.here hx rfl (hb hby d3_13) rfl rfl (XS.iloadN X1262.here hx rfl (hb hby d3_14) rfl (XS.ifYes X1262.here hx rfl (pc0 := 15) (pc' := 32) rfl (hb hby d3_15) rfl ((if0 _ _).trans (flt pC1252).2.1) (by decide) (by decide) (XS.aloadN X1262.here hx rfl (hb hby d3_32) rfl rfl (XS.iloadN X1262.here hx rfl (hb hby d3_33) rfl k)))))) ?_
  show own_Goes p e below (T1262.setTop (mkF m 34 #[rv a1249, iv p1250, rv w59, rv w92] [(.int p1250), (.ref a1249)])) _
  obtain ⟨T1273, h1273, X1273, e1273, W1273, st1273⟩ := putF X1262 hx hZ hown (host := "") (Or.inl (wd hw 35 rfl)) Via.refl hh1272 pF_a1249_opponent pE_a1249 (Or.inr ⟨(wd hw 36 rfl), rfl, hnm⟩) (wd hw 19 rfl) (ty := .int) (by decide) rfl rfl (g := (mkF m 34 #[rv a1249, iv p1250, rv w59, rv w92] [(.int p1250), (.ref a1249)])) rfl rfl (hb hby d3_34)
  refine own_via (fun t k => st1273 t k) ?_
  have Fw1273 : Fld Z h1273 a1249 zs1 "opponent" "I" (.int p1250) := pF_a1249_opponent.same W1273
  have N1273 := Fr.snoc X1273 N1262 pG_a1249
  show own_Goes p e below (T1273.setTop (mkF m 37 #[rv a1249, iv p1250, rv w59, rv w92] [])) _
  refine own_via (fun t k => XS.aloadN X1273.here hx rfl (hb hby d3_37) rfl rfl (XS.aloadN X1273.here hx rfl (hb hby d3_38) rfl rfl k)) ?_
  have F1274 : Fld Z h1273 a1249 zs1 "colour" zs6 .null := (pF_a1249_colour.other W1273 (Or.inr (slot_ne (Or.inr (wd hw 17 rfl)) (Or.inr (wd hw 36 rfl)) (by decide) (t := (.object zs7)) (t' := .int) (by decide) (by decide))))
  have E1275 : Exa Z h1273 a1249 zs1 := (pE_a1249.wr W1273)
  obtain ⟨T1276, h1276, X1276, e1276, W1276, st1276⟩ := putF X1273 hx hZ hown (host := "") (Or.inl (wd hw 16 rfl)) Via.refl e1273 F1274 E1275 (Or.inr ⟨(wd hw 17 rfl), rfl, hnm⟩) (wd hw 19 rfl) (ty := (.object zs7)) (by decide) rfl rfl (g := (mkF m 39 #[rv a1249, iv p1250, rv w59, rv w92] [(.ref w59), (.ref a1249)])) rfl rfl (hb hby d3_39)
  refine own_via (fun t k => st1276 t k) ?_
  have Fw1276 : Fld Z h1276 a1249 zs1 "colour" zs6 (.ref w59) := F1274.same W1276
  have N1276 := Fr.snoc X1276 N1273 pG_a1249
  show own_Goes p e below (T1276.setTop (mkF m 42 #[rv a1249, iv p1250, rv w59, rv w92] [])) _
  refine own_via (fun t k => XS.aloadN X1276.here hx rfl (hb hby d3_42) rfl rfl (XS.aloadN X1276.here hx rfl (hb hby d3_43) rfl rfl k)) ?_
  have F1277 : Fld Z h1276 a1249 zs1 "result" zs3 .null := ((pF_a1249_result.other W1273 (Or.inr (slot_ne (Or.inr (wd hw 38 rfl)) (Or.inr (wd hw 36 rfl)) (by decide) (t := (.object zs2)) (t' := .int) (by decide) (by decide)))).other W1276 (Or.inr (slot_ne (Or.inr (wd hw 38 rfl)) (Or.inr (wd hw 17 rfl)) (by decide) (t := (.object zs2)) (t' := (.object zs7)) (by decide) (by decide))))
  have E1278 : Exa Z h1276 a1249 zs1 := (E1275.wr W1276)
  obtain ⟨T1279, h1279, X1279, e1279, W1279, st1279⟩ := putF X1276 hx hZ hown (host := "") (Or.inl (wd hw 37 rfl)) Via.refl e1276 F1277 E1278 (Or.inr ⟨(wd hw 38 rfl), rfl, hnm⟩) (wd hw 19 rfl) (ty := (.object zs2)) (by decide) rfl rfl (g := (mkF m 44 #[rv a1249, iv p1250, rv w59, rv w92] [(.ref w92), (.ref a1249)])) rfl rfl (hb hby d3_44)
  refine own_via (fun t k => st1279 t k) ?_
  have Fw1279 : Fld Z h1279 a1249 zs1 "result" zs3 (.ref w92) := F1277.same W1279
  have N1279 := Fr.snoc X1279 N1276 pG_a1249
  show own_Goes p e below (T1279.setTop (mkF m 47 #[rv a1249, iv p1250, rv w59, rv w92] [])) _
  obtain ⟨fs, hr, hrun, hended, hW, hsame⟩ := X1279.leave (v := none) (fun _ => rfl)
  refine own_end (t := T1279.setFrames fs) ?_ ⟨_, hrun, hended, _, _, rfl, ?_, ⟨_, rfl⟩, hW, hsame.mono (by decide) (by decide)⟩
  · exact X1279.returnOut hx Bd.returns (hb hby d3_47) hr
  have E1280 : Exa Z h1279 a1249 zs1 := (E1278.wr W1279)
  have F1281 : Fld Z h1279 a1249 zs1 "colour" zs6 (.ref w59) := (Fw1276.other W1279 (Or.inr (slot_ne (Or.inr (wd hw 17 rfl)) (Or.inr (wd hw 38 rfl)) (by decide) (t := (.object zs7)) (t' := (.object zs2)) (by decide) (by decide))))
  have F1282 : Fld Z h1279 a1249 zs1 "opponent" "I" (.int p1250) := ((Fw1273.other W1276 (Or.inr (slot_ne (Or.inr (wd hw 36 rfl)) (Or.inr (wd hw 17 rfl)) (by decide) (t := .int) (t' := (.object zs7)) (by decide) (by decide)))).other W1279 (Or.inr (slot_ne (Or.inr (wd hw 36 rfl)) (Or.inr (wd hw 38 rfl)) (by decide) (t := .int) (t' := (.object zs2)) (by decide) (by decide))))
  · show Q67 Z a1249 p1250 w59 w92 p1251 h0 n0 _ T1279.heap _
    rw [e1279]
    exact ⟨rfl, N1279, ((((Keep.refl h0 [a1249]).wr W1273 (Or.inl (List.mem_of_getElem? (i := 0) rfl))).wr W1276 (Or.inl (List.mem_of_getElem? (i := 0) rfl))).wr W1279 (Or.inl (List.mem_of_getElem? (i := 0) rfl))), E1280, F1281, F1282, Fw1279⟩
def Q68 (Z : State) (w92 : Addr) (h0 : Heap) (n0 : Nat) (v : Option Value) (h : Heap) (L : List Loc) : Prop := v = some (.int (0 : Int32)) ∧ Fr n0 L ∧ h = h0
set_option maxRecDepth 65536 in
set_option maxHeartbeats 40000000 in
theorem rm68 (l : Launch) (Z : State) (a0 : Array Value) (hw : ∀ d ∈ tables_1, d.before a0 Z = true) (ws : List Jvm.Cond) (w92 : Addr) (h0 : Heap) (n0 : Nat) (O0 : Old Z n0 h0) (SF_w92_game : Fld Z Z.heap w92 zs2 "game" "Z" (.int (0 : Int32))) :
    MetFree l (⟨zs2, "isGame", "()Z"⟩ : MethodName) (head1 (Jvm.Cond.code (⟨zs2, "isGame", "()Z"⟩ : MethodName) prog_43_method_7_code 1 (some .boolean) :: ws) ({ frames := 0, cells := 0, slots := 0, locals := 0 } : Room)) (fun a U => a = #[(.ref w92)] ∧ Z.Warmed39 U.vm ∧ U.heap = h0) (fun _ _ _ _ _ => True) (fun _ U o U' => ∃ v L, o = .returned v ∧ Q68 Z w92 h0 n0 v U'.heap L ∧ FrameEnd U o U' L ({ frames := 0, cells := 0, slots := 0, locals := 0 } : Room).cells ({ frames := 0, cells := 0, slots := 0, locals := 0 } : Room).slots) := by
  refine MetFree.of_bodySF (plainFor_of_name pn_5) hisR ?_
  intro p e s m args below meth c s₁ Bd hml0 hP hK
  obtain ⟨rfl, hZ, hh⟩ := hP
  have hx := Bd.exec
  have hby := Bd.bytes
  have hml : c.maxLocals = 1 := hml0
  have hown : s.vm.findClass zs2 = some m.cls := findClass_of_methodNamed Bd.named
  have hnm := (name_of_methodNamed Bd.named Bd.method).1
  have X0 : Stand p l e ({ frames := 0, cells := 0, slots := 0, locals := 0 } : Room) s m #[(.ref w92)] below meth c s₁ [] 0 0 := Stand.of_body Bd
  have e0 : s₁.heap = h0 := by rw [← hh, Bd.state]; rfl
  have N0 := Fr.nil n0
  refine own_out ?_
  refine own_via (fun t k => castTop (ef_7 m w92) (XS.aloadN X0.here hx rfl (hb hby d8_0) rfl rfl k)) ?_
  obtain ⟨T1314, X1314, e1314, st1314⟩ := getF X0 hx hZ hown (host := "") (Or.inl (wd hw 51 rfl)) Via.refl e0 (SF_w92_game.ext O0.2) (g := (mkF m 1 #[rv w92] [(.ref w92)])) rfl rfl (hb hby d8_1)
  refine own_via (fun t k => st1314 t k) ?_
  obtain ⟨fs, hr, hrun, hended, hW, hsame⟩ := X1314.leave (v := some (.int (0 : Int32))) (fun h => by rw [Bd.returns] at h; cases h)
  refine own_end (t := T1314.setFrames fs) ?_ ⟨_, hrun, hended, _, _, rfl, ?_, ⟨_, rfl⟩, hW, hsame.mono (by decide) (by decide)⟩
  · exact retN X1314 hx (t := .boolean) Bd.returns (by simp) (hb hby d8_4) hr
  · show Q68 Z w92 h0 n0 _ T1314.heap _
    rw [e1314]
    exact ⟨rfl, N0, rfl⟩
def Q69 (Z : State) (a1293 : Addr) (p1294 : Int32) (w92 : Addr) (h0 : Heap) (n0 : Nat) (v : Option Value) (h : Heap) (L : List Loc) : Prop := v = some (.int (0 : Int32)) ∧ Fr n0 L ∧ h = h0
set_option maxRecDepth 65536 in
set_option maxHeartbeats 40000000 in
theorem rm69 (l : Launch) (Z : State) (a0 : Array Value) (hw : ∀ d ∈ tables_1, d.before a0 Z = true) (ws : List Jvm.Cond) (a1293 : Addr) (p1294 : Int32) (w92 : Addr) (h0 : Heap) (n0 : Nat) (O0 : Old Z n0 h0) (pF_a1293_opponent : Fld Z h0 a1293 zs1 "opponent" "I" (.int p1294)) (pC1301 : ¬ (p1294 = (0 : Int32))) (pF_a1293_result : Fld Z h0 a1293 zs1 "result" zs3 (.ref w92)) (SF_w92_game : Fld Z Z.heap w92 zs2 "game" "Z" (.int (0 : Int32))) (SE_w92 : Exa Z Z.heap w92 zs2) :
    MetFree l (⟨zs1, zs12, "()Z"⟩ : MethodName) (head1 (Jvm.Cond.code (⟨zs1, zs12, "()Z"⟩ : MethodName) prog_45_method_4_code 1 (some .boolean) :: ws) ({ frames := 1, cells := 0, slots := 0, locals := 12 } : Room)) (fun a U => a = #[(.ref a1293)] ∧ Z.Warmed39 U.vm ∧ U.heap = h0) (fun _ _ _ _ _ => True) (fun _ U o U' => ∃ v L, o = .returned v ∧ Q69 Z a1293 p1294 w92 h0 n0 v U'.heap L ∧ FrameEnd U o U' L ({ frames := 1, cells := 0, slots := 0, locals := 12 } : Room).cells ({ frames := 1, cells := 0, slots := 0, locals := 12 } : Room).slots) := by
  refine MetFree.of_bodySF (plainFor_of_name pn_2) hisR ?_
  intro p e s m args below meth c s₁ Bd hml0 hP hK
  obtain ⟨rfl, hZ, hh⟩ := hP
  have hx := Bd.exec
  have hby := Bd.bytes
  have hml : c.maxLocals = 1 := hml0
  have hown : s.vm.findClass zs1 = some m.cls := findClass_of_methodNamed Bd.named
  have hnm := (name_of_methodNamed Bd.named Bd.method).1
  have X0 : Stand p l e ({ frames := 1, cells := 0, slots := 0, locals := 12 } : Room) s m #[(.ref a1293)] below meth c s₁ [] 0 0 := Stand.of_body Bd
  have e0 : s₁.heap = h0 := by rw [← hh, Bd.state]; rfl
  have N0 := Fr.nil n0
  refine own_out ?_
  refine own_via (fun t k => castTop (ef_6 m a1293) (XS.aloadN X0.here hx rfl (hb hby d7_0) rfl rfl k)) ?_
  obtain ⟨T1302, X1302, e1302, st1302⟩ := getF X0 hx hZ hown (host := "") (Or.inl (wd hw 35 rfl)) Via.refl e0 pF_a1293_opponent (g := (mkF m 1 #[rv a1293] [(.ref a1293)])) rfl rfl (hb hby d7_1)
  refine own_via (fun t k => st1302 t (XS.ifNo X1302.here hx rfl (hb hby d7_4) rfl ((if0 _ _).trans (feq pC1301).1) (XS.aloadN X1302.here hx rfl (hb hby d7_7) rfl rfl k))) ?_
  show own_Goes p e below (T1302.setTop (mkF m 8 #[rv a1293] [(.ref a1293)])) _
  obtain ⟨T1303, X1303, e1303, st1303⟩ := getF X1302 hx hZ hown (host := "") (Or.inl (wd hw 37 rfl)) Via.refl e1302 pF_a1293_result (g := (mkF m 8 #[rv a1293] [(.ref a1293)])) rfl rfl (hb hby d7_8)
  refine own_via (fun t k => st1303 t k) ?_
  obtain ⟨_, T1304, _, X1304, hQ1304, st1304⟩ := own_cv X1303 hx hZ hown (wd hw 46 rfl) (wd hw 47 rfl) (wd hw 49 rfl) (wd hw 48 rfl) (wd hw 50 rfl) (wd hw 6 rfl) (by decide) (rm68 l Z a0 hw [] w92 h0 n0 O0 SF_w92_game) e1303 (SE_w92.ext O0.2) (g := (mkF m 11 #[rv a1293] [(.ref w92)])) rfl (by rw [hml]; rfl) (rest := []) (W := 0) (lenOf pd_6 rfl) rfl (by show 2 * 0 + _ ≤ _; exact Nat.le_of_eq rfl) (hb hby d7_11) (by decide) (by decide) (by decide) (by decide)
  obtain ⟨rfl, Nq1304, hh1315⟩ := hQ1304
  have N1304 := Fr.app N0 Nq1304
  refine own_via (fun t k => st1304 t (XS.ifYes X1304.here hx rfl (pc0 := 14) (pc' := 21) rfl (hb hby d7_14) rfl ((if0 _ _).trans (teq (by decide : (0 : Int32) = (0 : Int32))).1) (by decide) (by decide) (XS.iconst X1304.here hx rfl (hb hby d7_21) k))) ?_
  show own_Goes p e below (T1304.setTop (mkF m 22 #[rv a1293] [(.int (0 : Int32))])) _
  obtain ⟨fs, hr, hrun, hended, hW, hsame⟩ := X1304.leave (v := some (.int (0 : Int32))) (fun h => by rw [Bd.returns] at h; cases h)
  refine own_end (t := T1304.setFrames fs) ?_ ⟨_, hrun, hended, _, _, rfl, ?_, ⟨_, rfl⟩, hW, hsame.mono (by decide) (by decide)⟩
  · exact retN X1304 hx (t := .boolean) Bd.returns (by simp) (hb hby d7_22) hr
  · show Q69 Z a1293 p1294 w92 h0 n0 _ T1304.heap _
    rw [hh1315]
    exact ⟨rfl, N1304, rfl⟩
theorem ef_8 (m : MethodId) (x0 : Int32) (x1 : Int32) : entryFrame m #[(.int x0), (.int x1)] maxLocals = mkF m 0 #[iv x0, iv x1, .unset, .unset, .unset, .unset, .unset, .unset] [] := by first | (simp [entryFrame, mkF, argsToLocals, Value.category, maxLocals]; done) | rfl
set_option maxRecDepth 65536 in
set_option maxHeartbeats 40000000 in
theorem rm0 (l : Launch) (Z : State) (a0 : Array Value) (hw : ∀ d ∈ tables_1, d.before a0 Z = true) (ws : List Jvm.Cond) (i0 : Int32) (i1 : Int32) (w67 : Addr) (w57 : Addr) (w59 : Addr) (w61 : Addr) (w82 : Addr) (w55 : Addr) (w64 : Addr) (w73 : Addr) (w79 : Addr) (w85 : Addr) (w76 : Addr) (w88 : Addr) (w70 : Addr) (w95 : Addr) (w92 : Addr) (h0 : Heap) (n0 : Nat) (O0 : Old Z n0 h0) (S_Result_WIN : Sta Z Z.heap zs2 "WIN" zs3 (.ref w67)) (S_RoundEntry_NONE : Sta Z Z.heap zs1 "NONE" "Lcom/example/rondier/rondier/model/RoundEntry;" (.ref w57)) (SF_w57_colour : Fld Z Z.heap w57 zs1 "colour" zs6 (.ref w59)) (SE_w57 : Exa Z Z.heap w57 zs1) (SF_w67_game : Fld Z Z.heap w67 zs2 "game" "Z" (.int (1 : Int32))) (SE_w67 : Exa Z Z.heap w67 zs2) (S_Result_DRAW : Sta Z Z.heap zs2 "DRAW" zs3 (.ref w61)) (SF_w61_game : Fld Z Z.heap w61 zs2 "game" "Z" (.int (1 : Int32))) (SE_w61 : Exa Z Z.heap w61 zs2) (S_Result_LOSS : Sta Z Z.heap zs2 "LOSS" zs3 (.ref w82)) (SF_w82_game : Fld Z Z.heap w82 zs2 "game" "Z" (.int (1 : Int32))) (SE_w82 : Exa Z Z.heap w82 zs2) (S_Result_UNRATED_WIN : Sta Z Z.heap zs2 "UNRATED_WIN" zs3 (.ref w55)) (SF_w55_game : Fld Z Z.heap w55 zs2 "game" "Z" (.int (1 : Int32))) (SE_w55 : Exa Z Z.heap w55 zs2) (S_Result_UNRATED_DRAW : Sta Z Z.heap zs2 "UNRATED_DRAW" zs3 (.ref w64)) (SF_w64_game : Fld Z Z.heap w64 zs2 "game" "Z" (.int (1 : Int32))) (SE_w64 : Exa Z Z.heap w64 zs2) (S_Result_UNRATED_LOSS : Sta Z Z.heap zs2 "UNRATED_LOSS" zs3 (.ref w73)) (SF_w73_game : Fld Z Z.heap w73 zs2 "game" "Z" (.int (1 : Int32))) (SE_w73 : Exa Z Z.heap w73 zs2) (S_Result_FORFEIT_WIN : Sta Z Z.heap zs2 "FORFEIT_WIN" zs3 (.ref w79)) (SF_w79_game : Fld Z Z.heap w79 zs2 "game" "Z" (.int (0 : Int32))) (SE_w79 : Exa Z Z.heap w79 zs2) (S_Result_FORFEIT_LOSS : Sta Z Z.heap zs2 "FORFEIT_LOSS" zs3 (.ref w85)) (SF_w85_game : Fld Z Z.heap w85 zs2 "game" "Z" (.int (0 : Int32))) (SE_w85 : Exa Z Z.heap w85 zs2) (S_Result_PAIRING_ALLOCATED_BYE : Sta Z Z.heap zs2 "PAIRING_ALLOCATED_BYE" zs3 (.ref w76)) (SF_w76_game : Fld Z Z.heap w76 zs2 "game" "Z" (.int (0 : Int32))) (SE_w76 : Exa Z Z.heap w76 zs2) (S_Result_FULL_POINT_BYE : Sta Z Z.heap zs2 "FULL_POINT_BYE" zs3 (.ref w88)) (SF_w88_game : Fld Z Z.heap w88 zs2 "game" "Z" (.int (0 : Int32))) (SE_w88 : Exa Z Z.heap w88 zs2) (S_Result_HALF_POINT_BYE : Sta Z Z.heap zs2 "HALF_POINT_BYE" zs3 (.ref w70)) (SF_w70_game : Fld Z Z.heap w70 zs2 "game" "Z" (.int (0 : Int32))) (SE_w70 : Exa Z Z.heap w70 zs2) (S_Result_ZERO_POINT_BYE : Sta Z Z.heap zs2 "ZERO_POINT_BYE" zs3 (.ref w95)) (SF_w95_game : Fld Z Z.heap w95 zs2 "game" "Z" (.int (0 : Int32))) (SE_w95 : Exa Z Z.heap w95 zs2) (S_Result_NOT_PLAYED : Sta Z Z.heap zs2 "NOT_PLAYED" zs3 (.ref w92)) (SF_w92_game : Fld Z Z.heap w92 zs2 "game" "Z" (.int (0 : Int32))) (SE_w92 : Exa Z Z.heap w92 zs2) :
    MetFree l x (head1 (Jvm.Cond.code x code maxLocals ret :: ws) room_1) (fun a U => a = #[(.int i0), (.int i1)] ∧ Z.Warmed39 U.vm ∧ U.heap = h0) (fun _ _ _ _ _ => True) (fun _ U o U' => ∃ v L, o = .returned v ∧ own_Q0 n0 v L ∧ FrameEnd U o U' L room_1.cells room_1.slots) := by
  refine MetFree.of_bodySF (plainFor_of_name pn_1) hisR ?_
  intro p e s m args below meth c s₁ Bd hml0 hP hK
  obtain ⟨rfl, hZ, hh⟩ := hP
  have hx := Bd.exec
  have hby := Bd.bytes
  have hml : c.maxLocals = 8 := hml0
  have hown : s.vm.findClass zs4 = some m.cls := findClass_of_methodNamed Bd.named
  have hnm := (name_of_methodNamed Bd.named Bd.method).1
  have X0 : Stand p l e room_1 s m #[(.int i0), (.int i1)] below meth c s₁ [] 0 0 := Stand.of_body Bd
  have e0 : s₁.heap = h0 := by rw [← hh, Bd.state]; rfl
  have N0 := Fr.nil n0
  refine own_out ?_
  show own_Goes p e below _ (own_G s below n0)
  refine own_via (fun t k => castTop (ef_8 m i0 i1) (XS.iloadN X0.here hx rfl (hb hby at_0) rfl (X0.ldcInt hx hown (mvT hZ (wd hw 0 rfl)) (g := (mkF m 1 #[iv i0, iv i1, .unset, .unset, .unset, .unset, .unset, .unset] [(.int i0)])) rfl (hb hby at_1) t (XS.iand X0.here hx rfl (hb hby at_3) rfl (XS.istoreN X0.here hx rfl (hb hby at_4) rfl (l' := #[iv i0, iv i1, iv (i0 &&& (2147483647 : Int32)), .unset, .unset, .unset, .unset, .unset]) rfl (XS.iloadN X0.here hx rfl (hb hby at_5) rfl (X0.ldcInt hx hown (mvT hZ (wd hw 0 rfl)) (g := (mkF m 6 #[iv i0, iv i1, iv (i0 &&& (2147483647 : Int32)), .unset, .unset, .unset, .unset, .unset] [(.int i1)])) rfl (hb hby at_6) t (XS.iand X0.here hx rfl (hb hby at_8) rfl (XS.bipush X0.here hx rfl (hb hby at_9) (iremM (g := (mkF m 11 #[iv i0, iv i1, iv (i0 &&& (2147483647 : Int32)), .unset, .unset, .unset, .unset, .unset] [(.int (13 : Int32)), (.int (i1 &&& (2147483647 : Int32)))])) X0 hx rfl (hb hby at_11) rfl (by decide) k)))))))))) ?_
  show own_Goes p e below (s₁.setTop (mkF m 12 #[iv i0, iv i1, iv (i0 &&& (2147483647 : Int32)), .unset, .unset, .unset, .unset, .unset] [(.int ((i1 &&& (2147483647 : Int32)) % (13 : Int32)))])) _
  rcases own_mod_13 i1 with qs | qs | qs | qs | qs | qs | qs | qs | qs | qs | qs | qs | qs
  · have qs98 := qs
    rw [qs]
    show own_Goes p e below (s₁.setTop (mkF m 12 #[iv i0, iv i1, iv (i0 &&& (2147483647 : Int32)), .unset, .unset, .unset, .unset, .unset] [(.int (0 : Int32))])) _
    refine own_via (fun t k => XS.istoreN X0.here hx rfl (hb hby at_12) rfl (l' := #[iv i0, iv i1, iv (i0 &&& (2147483647 : Int32)), iv (0 : Int32), .unset, .unset, .unset, .unset]) rfl (XS.iloadN X0.here hx rfl (hb hby at_13) rfl k)) ?_
    obtain ⟨_, T99, _, X99, hQ99, st99⟩ := own_cs X0 hx hZ hown (wd hw 1 rfl) (wd hw 2 rfl) (wd hw 4 rfl) (wd hw 3 rfl) (by decide) (rm1 l Z a0 hw [] w67 h0 n0 O0 S_Result_WIN) e0 (g := (mkF m 14 #[iv i0, iv i1, iv (i0 &&& (2147483647 : Int32)), iv (0 : Int32), .unset, .unset, .unset, .unset] [(.int (0 : Int32))])) rfl (by rw [hml]; rfl) (rest := []) (W := 0) (lenOf pd_1 rfl) rfl (by show 2 * 0 + _ ≤ _; exact Nat.le_of_eq rfl) (hb hby at_14) (by decide) (by decide) (by decide) (by decide)
    obtain ⟨rfl, Nq99, hh108⟩ := hQ99
    have N99 := Fr.app N0 Nq99
    refine own_via (fun t k => st99 t (XS.astore X99.here hx rfl (hb hby at_17) rfl rfl (l' := #[iv i0, iv i1, iv (i0 &&& (2147483647 : Int32)), iv (0 : Int32), rv w67, .unset, .unset, .unset]) rfl k)) ?_
    obtain ⟨T109, X109, e109, st109⟩ := getS2 X99 hx hZ hown (host := "") (Or.inl (wd hw 8 rfl)) Via.refl hh108 (S_RoundEntry_NONE.ext O0.2) (g := (mkF m 19 #[iv i0, iv i1, iv (i0 &&& (2147483647 : Int32)), iv (0 : Int32), rv w67, .unset, .unset, .unset] [])) rfl (hb hby at_19)
    refine own_via (fun t k => st109 t k) ?_
    obtain ⟨_, T110, _, X110, hQ110, st110⟩ := own_cv X109 hx hZ hown (wd hw 11 rfl) (wd hw 12 rfl) (wd hw 14 rfl) (wd hw 13 rfl) (wd hw 15 rfl) (wd hw 9 rfl) (by decide) (rm2 l Z a0 hw [] w57 w59 h0 n0 O0 SF_w57_colour) e109 (SE_w57.ext O0.2) (g := (mkF m 22 #[iv i0, iv i1, iv (i0 &&& (2147483647 : Int32)), iv (0 : Int32), rv w67, .unset, .unset, .unset] [(.ref w57)])) rfl (by rw [hml]; rfl) (rest := []) (W := 0) (lenOf pd_2 rfl) rfl (by show 2 * 0 + _ ≤ _; exact Nat.le_of_eq rfl) (hb hby at_22) (by decide) (by decide) (by decide) (by decide)
    obtain ⟨rfl, Nq110, hh119⟩ := hQ110
    have N110 := Fr.app N99 Nq110
    refine own_via (fun t k => st110 t (XS.astore X110.here hx rfl (hb hby at_25) rfl rfl (l' := #[iv i0, iv i1, iv (i0 &&& (2147483647 : Int32)), iv (0 : Int32), rv w67, rv w59, .unset, .unset]) rfl k)) ?_
    obtain ⟨T120, h120, X120, e120, E120, A120, D120, -, st120⟩ := newO X110 hx hZ hown (wd hw 18 rfl) (wd hw 19 rfl) (wd hw 9 rfl) hh119 (g := (mkF m 27 #[iv i0, iv i1, iv (i0 &&& (2147483647 : Int32)), iv (0 : Int32), rv w67, rv w59, .unset, .unset] [])) rfl (hb hby at_27) (by decide) (by decide)
    obtain ⟨b121, q120⟩ : ∃ z, z = h0.size := ⟨_, rfl⟩
    rw [← q120] at A120 D120 st120
    refine own_via (fun t k => st120 t k) ?_
    have g122 : n0 ≤ b121 := Nat.le_trans (own_old O0) (Nat.le_of_eq q120.symm)
    have B123 : h0.size ≤ b121 := Nat.le_trans (Nat.le_refl _) (Nat.le_of_eq q120.symm)
    have F124 : Fld Z h120 b121 zs1 "colour" zs6 .null := D120 (Or.inr (wd hw 17 rfl)) (ty := (.object zs7)) (by decide)
    have F125 : Fld Z h120 b121 zs1 "opponent" "I" (.int (0 : Int32)) := D120 (Or.inr (wd hw 36 rfl)) (ty := .int) (by decide)
    have F126 : Fld Z h120 b121 zs1 "result" zs3 .null := D120 (Or.inr (wd hw 38 rfl)) (ty := (.object zs2)) (by decide)
    show own_Goes p e below (T120.setTop (mkF m 30 #[iv i0, iv i1, iv (i0 &&& (2147483647 : Int32)), iv (0 : Int32), rv w67, rv w59, .unset, .unset] [(.ref b121)])) _
    refine own_via (fun t k => XS.dup X120.here hx rfl (hb hby at_30) rfl rfl (XS.iloadN X120.here hx rfl (hb hby at_31) rfl (XS.aload X120.here hx rfl (hb hby at_32) rfl rfl (XS.aload X120.here hx rfl (hb hby at_34) rfl rfl k)))) ?_
    show own_Goes p e below (T120.setTop (mkF m 36 #[iv i0, iv i1, iv (i0 &&& (2147483647 : Int32)), iv (0 : Int32), rv w67, rv w59, .unset, .unset] [(.ref w67), (.ref w59), (.int (i0 &&& (2147483647 : Int32))), (.ref b121), (.ref b121)])) _
    have O181 : Old Z n0 h120 := (O0.ext E120)
    obtain ⟨_, T127, _, X127, hQ127, st127⟩ := own_ci X120 hx hZ hown (wd hw 20 rfl) (wd hw 21 rfl) (wd hw 22 rfl) (wd hw 9 rfl) rfl (by decide) (rm6 l Z a0 hw [] b121 (i0 &&& (2147483647 : Int32)) w59 w67 (0 : Int32) h120 n0 O181 (own_nn_mask i0 (2147483647 : Int32) 31 (by decide) (by decide)) F125 A120 g122 F124 F126) e120 (g := (mkF m 36 #[iv i0, iv i1, iv (i0 &&& (2147483647 : Int32)), iv (0 : Int32), rv w67, rv w59, .unset, .unset] [(.ref w67), (.ref w59), (.int (i0 &&& (2147483647 : Int32))), (.ref b121), (.ref b121)])) rfl (by rw [hml]; rfl) (rest := [(.ref b121)]) (W := 1) (lenOf pd_5 rfl) rfl (by show 2 * 0 + _ ≤ _; exact Nat.le_of_eq rfl) (hb hby at_36) (by decide) (by decide) (by decide) (by decide)
    obtain ⟨h127, e127⟩ : ∃ z, T127.heap = z := ⟨_, rfl⟩
    rw [e127] at hQ127
    obtain ⟨rfl, Nq127, K127, ex182, fx183, fx184, fx185⟩ := hQ127
    have N127 := Fr.app N110 Nq127
    refine own_via (fun t k => st127 t (XS.astore X127.here hx rfl (hb hby at_39) rfl rfl (l' := #[iv i0, iv i1, iv (i0 &&& (2147483647 : Int32)), iv (0 : Int32), rv w67, rv w59, rv b121, .unset]) rfl (XS.iloadN X127.here hx rfl (hb hby at_41) rfl k))) ?_
    show own_Goes p e below (T127.setTop (mkF m 42 #[iv i0, iv i1, iv (i0 &&& (2147483647 : Int32)), iv (0 : Int32), rv w67, rv w59, rv b121, .unset] [(.int (i0 &&& (2147483647 : Int32)))])) _
    by_cases hc186 : (i0 &&& (2147483647 : Int32)) = (0 : Int32)
    · refine own_via (fun t k => XS.ifYes X127.here hx rfl (pc0 := 42) (pc' := 55) rfl (hb hby at_42) rfl ((if0 _ _).trans (teq hc186).1) (by decide) (by decide) (XS.iconst X127.here hx rfl (hb hby at_55) (XS.istore X127.here hx rfl (hb hby at_56) rfl (l' := #[iv i0, iv i1, iv (i0 &&& (2147483647 : Int32)), iv (0 : Int32), rv w67, rv w59, rv b121, iv (0 : Int32)]) rfl (XS.aload X127.here hx rfl (hb hby at_58) rfl rfl k)))) ?_
      show own_Goes p e below (T127.setTop (mkF m 60 #[iv i0, iv i1, iv (i0 &&& (2147483647 : Int32)), iv (0 : Int32), rv w67, rv w59, rv b121, iv (0 : Int32)] [(.ref b121)])) _
      have O198 : Old Z n0 h127 := (O181.keep K127 (allS g122 all0))
      obtain ⟨_, T187, _, X187, hQ187, st187⟩ := own_cv X127 hx hZ hown (wd hw 39 rfl) (wd hw 40 rfl) (wd hw 42 rfl) (wd hw 41 rfl) (wd hw 43 rfl) (wd hw 9 rfl) (by decide) (rm7 l Z a0 hw [] b121 (i0 &&& (2147483647 : Int32)) h127 n0 O198 fx184 hc186) e127 ex182 (g := (mkF m 60 #[iv i0, iv i1, iv (i0 &&& (2147483647 : Int32)), iv (0 : Int32), rv w67, rv w59, rv b121, iv (0 : Int32)] [(.ref b121)])) rfl (by rw [hml]; rfl) (rest := []) (W := 0) (lenOf pd_6 rfl) rfl (by show 2 * 0 + _ ≤ _; exact Nat.le_of_eq rfl) (hb hby at_60) (by decide) (by decide) (by decide) (by decide)
      obtain ⟨rfl, Nq187, hh199⟩ := hQ187
      have N187 := Fr.app N127 Nq187
      refine own_via (fun t k => st187 t (XS.iload X187.here hx rfl (hb hby at_63) rfl (XS.icmpNo X187.here hx rfl (hb hby at_65) rfl (teq (by decide : (0 : Int32) = (0 : Int32))).2 (XS.iconst X187.here hx rfl (hb hby at_68) (XS.goto X187.here hx rfl (pc0 := 69) (pc' := 73) rfl (hb hby at_69) (by decide) (by decide) k))))) ?_
      show own_Goes p e below (T187.setTop (mkF m 73 #[iv i0, iv i1, iv (i0 &&& (2147483647 : Int32)), iv (0 : Int32), rv w67, rv w59, rv b121, iv (0 : Int32)] [(.int (1 : Int32))])) _
      obtain ⟨fs, hr, hrun, hended, hW, hsame⟩ := X187.leave (v := some (.int (1 : Int32))) (fun h => by rw [Bd.returns] at h; cases h)
      refine own_end (t := T187.setFrames fs) ?_ ⟨_, hrun, hended, _, _, rfl, ?_, ⟨_, rfl⟩, hW, hsame.mono (by decide) (by decide)⟩
      · exact retN X187 hx (t := .boolean) Bd.returns (by simp) (hb hby at_73) hr
      · exact ⟨rfl, N187⟩
    · refine own_via (fun t k => XS.ifNo X127.here hx rfl (hb hby at_42) rfl ((if0 _ _).trans (feq hc186).1) (XS.iloadN X127.here hx rfl (hb hby at_45) rfl (XS.bipush X127.here hx rfl (hb hby at_46) (XS.icmpNo X127.here hx rfl (hb hby at_48) rfl (tlt (by decide : (0 : Int32) < (6 : Int32))).2.1 (XS.iconst X127.here hx rfl (hb hby at_51) (XS.goto X127.here hx rfl (pc0 := 52) (pc' := 56) rfl (hb hby at_52) (by decide) (by decide) (XS.istore X127.here hx rfl (hb hby at_56) rfl (l' := #[iv i0, iv i1, iv (i0 &&& (2147483647 : Int32)), iv (0 : Int32), rv w67, rv w59, rv b121, iv (1 : Int32)]) rfl (XS.aload X127.here hx rfl (hb hby at_58) rfl rfl k)))))))) ?_
      show own_Goes p e below (T127.setTop (mkF m 60 #[iv i0, iv i1, iv (i0 &&& (2147483647 : Int32)), iv (0 : Int32), rv w67, rv w59, rv b121, iv (1 : Int32)] [(.ref b121)])) _
      have O224 : Old Z n0 h127 := (O181.keep K127 (allS g122 all0))
      obtain ⟨_, T200, _, X200, hQ200, st200⟩ := own_cv X127 hx hZ hown (wd hw 39 rfl) (wd hw 40 rfl) (wd hw 42 rfl) (wd hw 41 rfl) (wd hw 43 rfl) (wd hw 9 rfl) (by decide) (rm9 l Z a0 hw [] b121 (i0 &&& (2147483647 : Int32)) w67 h127 n0 O224 fx184 hc186 fx185 SF_w67_game SE_w67) e127 ex182 (g := (mkF m 60 #[iv i0, iv i1, iv (i0 &&& (2147483647 : Int32)), iv (0 : Int32), rv w67, rv w59, rv b121, iv (1 : Int32)] [(.ref b121)])) rfl (by rw [hml]; rfl) (rest := []) (W := 0) (lenOf pd_6 rfl) rfl (by show 2 * 0 + _ ≤ _; exact Nat.le_of_eq rfl) (hb hby at_60) (by decide) (by decide) (by decide) (by decide)
      obtain ⟨rfl, Nq200, hh225⟩ := hQ200
      have N200 := Fr.app N127 Nq200
      refine own_via (fun t k => st200 t (XS.iload X200.here hx rfl (hb hby at_63) rfl (XS.icmpNo X200.here hx rfl (hb hby at_65) rfl (teq (by decide : (1 : Int32) = (1 : Int32))).2 (XS.iconst X200.here hx rfl (hb hby at_68) (XS.goto X200.here hx rfl (pc0 := 69) (pc' := 73) rfl (hb hby at_69) (by decide) (by decide) k))))) ?_
      show own_Goes p e below (T200.setTop (mkF m 73 #[iv i0, iv i1, iv (i0 &&& (2147483647 : Int32)), iv (0 : Int32), rv w67, rv w59, rv b121, iv (1 : Int32)] [(.int (1 : Int32))])) _
      obtain ⟨fs, hr, hrun, hended, hW, hsame⟩ := X200.leave (v := some (.int (1 : Int32))) (fun h => by rw [Bd.returns] at h; cases h)
      refine own_end (t := T200.setFrames fs) ?_ ⟨_, hrun, hended, _, _, rfl, ?_, ⟨_, rfl⟩, hW, hsame.mono (by decide) (by decide)⟩
      · exact retN X200 hx (t := .boolean) Bd.returns (by simp) (hb hby at_73) hr
      · exact ⟨rfl, N200⟩
  · have qs226 := qs
    rw [qs]
    show own_Goes p e below (s₁.setTop (mkF m 12 #[iv i0, iv i1, iv (i0 &&& (2147483647 : Int32)), .unset, .unset, .unset, .unset, .unset] [(.int (1 : Int32))])) _
    refine own_via (fun t k => XS.istoreN X0.here hx rfl (hb hby at_12) rfl (l' := #[iv i0, iv i1, iv (i0 &&& (2147483647 : Int32)), iv (1 : Int32), .unset, .unset, .unset, .unset]) rfl (XS.iloadN X0.here hx rfl (hb hby at_13) rfl k)) ?_
    obtain ⟨_, T227, _, X227, hQ227, st227⟩ := own_cs X0 hx hZ hown (wd hw 1 rfl) (wd hw 2 rfl) (wd hw 4 rfl) (wd hw 3 rfl) (by decide) (rm10 l Z a0 hw [] w61 h0 n0 O0 S_Result_DRAW) e0 (g := (mkF m 14 #[iv i0, iv i1, iv (i0 &&& (2147483647 : Int32)), iv (1 : Int32), .unset, .unset, .unset, .unset] [(.int (1 : Int32))])) rfl (by rw [hml]; rfl) (rest := []) (W := 0) (lenOf pd_1 rfl) rfl (by show 2 * 0 + _ ≤ _; exact Nat.le_of_eq rfl) (hb hby at_14) (by decide) (by decide) (by decide) (by decide)
    obtain ⟨rfl, Nq227, hh236⟩ := hQ227
    have N227 := Fr.app N0 Nq227
    refine own_via (fun t k => st227 t (XS.astore X227.here hx rfl (hb hby at_17) rfl rfl (l' := #[iv i0, iv i1, iv (i0 &&& (2147483647 : Int32)), iv (1 : Int32), rv w61, .unset, .unset, .unset]) rfl k)) ?_
    obtain ⟨T237, X237, e237, st237⟩ := getS2 X227 hx hZ hown (host := "") (Or.inl (wd hw 8 rfl)) Via.refl hh236 (S_RoundEntry_NONE.ext O0.2) (g := (mkF m 19 #[iv i0, iv i1, iv (i0 &&& (2147483647 : Int32)), iv (1 : Int32), rv w61, .unset, .unset, .unset] [])) rfl (hb hby at_19)
    refine own_via (fun t k => st237 t k) ?_
    obtain ⟨_, T238, _, X238, hQ238, st238⟩ := own_cv X237 hx hZ hown (wd hw 11 rfl) (wd hw 12 rfl) (wd hw 14 rfl) (wd hw 13 rfl) (wd hw 15 rfl) (wd hw 9 rfl) (by decide) (rm2 l Z a0 hw [] w57 w59 h0 n0 O0 SF_w57_colour) e237 (SE_w57.ext O0.2) (g := (mkF m 22 #[iv i0, iv i1, iv (i0 &&& (2147483647 : Int32)), iv (1 : Int32), rv w61, .unset, .unset, .unset] [(.ref w57)])) rfl (by rw [hml]; rfl) (rest := []) (W := 0) (lenOf pd_2 rfl) rfl (by show 2 * 0 + _ ≤ _; exact Nat.le_of_eq rfl) (hb hby at_22) (by decide) (by decide) (by decide) (by decide)
    obtain ⟨rfl, Nq238, hh239⟩ := hQ238
    have N238 := Fr.app N227 Nq238
    refine own_via (fun t k => st238 t (XS.astore X238.here hx rfl (hb hby at_25) rfl rfl (l' := #[iv i0, iv i1, iv (i0 &&& (2147483647 : Int32)), iv (1 : Int32), rv w61, rv w59, .unset, .unset]) rfl k)) ?_
    obtain ⟨T240, h240, X240, e240, E240, A240, D240, -, st240⟩ := newO X238 hx hZ hown (wd hw 18 rfl) (wd hw 19 rfl) (wd hw 9 rfl) hh239 (g := (mkF m 27 #[iv i0, iv i1, iv (i0 &&& (2147483647 : Int32)), iv (1 : Int32), rv w61, rv w59, .unset, .unset] [])) rfl (hb hby at_27) (by decide) (by decide)
    obtain ⟨b241, q240⟩ : ∃ z, z = h0.size := ⟨_, rfl⟩
    rw [← q240] at A240 D240 st240
    refine own_via (fun t k => st240 t k) ?_
    have g242 : n0 ≤ b241 := Nat.le_trans (own_old O0) (Nat.le_of_eq q240.symm)
    have B243 : h0.size ≤ b241 := Nat.le_trans (Nat.le_refl _) (Nat.le_of_eq q240.symm)
    have F244 : Fld Z h240 b241 zs1 "colour" zs6 .null := D240 (Or.inr (wd hw 17 rfl)) (ty := (.object zs7)) (by decide)
    have F245 : Fld Z h240 b241 zs1 "opponent" "I" (.int (0 : Int32)) := D240 (Or.inr (wd hw 36 rfl)) (ty := .int) (by decide)
    have F246 : Fld Z h240 b241 zs1 "result" zs3 .null := D240 (Or.inr (wd hw 38 rfl)) (ty := (.object zs2)) (by decide)
    show own_Goes p e below (T240.setTop (mkF m 30 #[iv i0, iv i1, iv (i0 &&& (2147483647 : Int32)), iv (1 : Int32), rv w61, rv w59, .unset, .unset] [(.ref b241)])) _
    refine own_via (fun t k => XS.dup X240.here hx rfl (hb hby at_30) rfl rfl (XS.iloadN X240.here hx rfl (hb hby at_31) rfl (XS.aload X240.here hx rfl (hb hby at_32) rfl rfl (XS.aload X240.here hx rfl (hb hby at_34) rfl rfl k)))) ?_
    show own_Goes p e below (T240.setTop (mkF m 36 #[iv i0, iv i1, iv (i0 &&& (2147483647 : Int32)), iv (1 : Int32), rv w61, rv w59, .unset, .unset] [(.ref w61), (.ref w59), (.int (i0 &&& (2147483647 : Int32))), (.ref b241), (.ref b241)])) _
    have O282 : Old Z n0 h240 := (O0.ext E240)
    obtain ⟨_, T247, _, X247, hQ247, st247⟩ := own_ci X240 hx hZ hown (wd hw 20 rfl) (wd hw 21 rfl) (wd hw 22 rfl) (wd hw 9 rfl) rfl (by decide) (rm12 l Z a0 hw [] b241 (i0 &&& (2147483647 : Int32)) w59 w61 (0 : Int32) h240 n0 O282 (own_nn_mask i0 (2147483647 : Int32) 31 (by decide) (by decide)) F245 A240 g242 F244 F246) e240 (g := (mkF m 36 #[iv i0, iv i1, iv (i0 &&& (2147483647 : Int32)), iv (1 : Int32), rv w61, rv w59, .unset, .unset] [(.ref w61), (.ref w59), (.int (i0 &&& (2147483647 : Int32))), (.ref b241), (.ref b241)])) rfl (by rw [hml]; rfl) (rest := [(.ref b241)]) (W := 1) (lenOf pd_5 rfl) rfl (by show 2 * 0 + _ ≤ _; exact Nat.le_of_eq rfl) (hb hby at_36) (by decide) (by decide) (by decide) (by decide)
    obtain ⟨h247, e247⟩ : ∃ z, T247.heap = z := ⟨_, rfl⟩
    rw [e247] at hQ247
    obtain ⟨rfl, Nq247, K247, ex283, fx284, fx285, fx286⟩ := hQ247
    have N247 := Fr.app N238 Nq247
    refine own_via (fun t k => st247 t (XS.astore X247.here hx rfl (hb hby at_39) rfl rfl (l' := #[iv i0, iv i1, iv (i0 &&& (2147483647 : Int32)), iv (1 : Int32), rv w61, rv w59, rv b241, .unset]) rfl (XS.iloadN X247.here hx rfl (hb hby at_41) rfl k))) ?_
    show own_Goes p e below (T247.setTop (mkF m 42 #[iv i0, iv i1, iv (i0 &&& (2147483647 : Int32)), iv (1 : Int32), rv w61, rv w59, rv b241, .unset] [(.int (i0 &&& (2147483647 : Int32)))])) _
    by_cases hc287 : (i0 &&& (2147483647 : Int32)) = (0 : Int32)
    · refine own_via (fun t k => XS.ifYes X247.here hx rfl (pc0 := 42) (pc' := 55) rfl (hb hby at_42) rfl ((if0 _ _).trans (teq hc287).1) (by decide) (by decide) (XS.iconst X247.here hx rfl (hb hby at_55) (XS.istore X247.here hx rfl (hb hby at_56) rfl (l' := #[iv i0, iv i1, iv (i0 &&& (2147483647 : Int32)), iv (1 : Int32), rv w61, rv w59, rv b241, iv (0 : Int32)]) rfl (XS.aload X247.here hx rfl (hb hby at_58) rfl rfl k)))) ?_
      show own_Goes p e below (T247.setTop (mkF m 60 #[iv i0, iv i1, iv (i0 &&& (2147483647 : Int32)), iv (1 : Int32), rv w61, rv w59, rv b241, iv (0 : Int32)] [(.ref b241)])) _
      have O289 : Old Z n0 h247 := (O282.keep K247 (allS g242 all0))
      obtain ⟨_, T288, _, X288, hQ288, st288⟩ := own_cv X247 hx hZ hown (wd hw 39 rfl) (wd hw 40 rfl) (wd hw 42 rfl) (wd hw 41 rfl) (wd hw 43 rfl) (wd hw 9 rfl) (by decide) (rm7 l Z a0 hw [] b241 (i0 &&& (2147483647 : Int32)) h247 n0 O289 fx285 hc287) e247 ex283 (g := (mkF m 60 #[iv i0, iv i1, iv (i0 &&& (2147483647 : Int32)), iv (1 : Int32), rv w61, rv w59, rv b241, iv (0 : Int32)] [(.ref b241)])) rfl (by rw [hml]; rfl) (rest := []) (W := 0) (lenOf pd_6 rfl) rfl (by show 2 * 0 + _ ≤ _; exact Nat.le_of_eq rfl) (hb hby at_60) (by decide) (by decide) (by decide) (by decide)
      obtain ⟨rfl, Nq288, hh290⟩ := hQ288
      have N288 := Fr.app N247 Nq288
      refine own_via (fun t k => st288 t (XS.iload X288.here hx rfl (hb hby at_63) rfl (XS.icmpNo X288.here hx rfl (hb hby at_65) rfl (teq (by decide : (0 : Int32) = (0 : Int32))).2 (XS.iconst X288.here hx rfl (hb hby at_68) (XS.goto X288.here hx rfl (pc0 := 69) (pc' := 73) rfl (hb hby at_69) (by decide) (by decide) k))))) ?_
      show own_Goes p e below (T288.setTop (mkF m 73 #[iv i0, iv i1, iv (i0 &&& (2147483647 : Int32)), iv (1 : Int32), rv w61, rv w59, rv b241, iv (0 : Int32)] [(.int (1 : Int32))])) _
      obtain ⟨fs, hr, hrun, hended, hW, hsame⟩ := X288.leave (v := some (.int (1 : Int32))) (fun h => by rw [Bd.returns] at h; cases h)
      refine own_end (t := T288.setFrames fs) ?_ ⟨_, hrun, hended, _, _, rfl, ?_, ⟨_, rfl⟩, hW, hsame.mono (by decide) (by decide)⟩
      · exact retN X288 hx (t := .boolean) Bd.returns (by simp) (hb hby at_73) hr
      · exact ⟨rfl, N288⟩
    · refine own_via (fun t k => XS.ifNo X247.here hx rfl (hb hby at_42) rfl ((if0 _ _).trans (feq hc287).1) (XS.iloadN X247.here hx rfl (hb hby at_45) rfl (XS.bipush X247.here hx rfl (hb hby at_46) (XS.icmpNo X247.here hx rfl (hb hby at_48) rfl (tlt (by decide : (1 : Int32) < (6 : Int32))).2.1 (XS.iconst X247.here hx rfl (hb hby at_51) (XS.goto X247.here hx rfl (pc0 := 52) (pc' := 56) rfl (hb hby at_52) (by decide) (by decide) (XS.istore X247.here hx rfl (hb hby at_56) rfl (l' := #[iv i0, iv i1, iv (i0 &&& (2147483647 : Int32)), iv (1 : Int32), rv w61, rv w59, rv b241, iv (1 : Int32)]) rfl (XS.aload X247.here hx rfl (hb hby at_58) rfl rfl k)))))))) ?_
      show own_Goes p e below (T247.setTop (mkF m 60 #[iv i0, iv i1, iv (i0 &&& (2147483647 : Int32)), iv (1 : Int32), rv w61, rv w59, rv b241, iv (1 : Int32)] [(.ref b241)])) _
      have O315 : Old Z n0 h247 := (O282.keep K247 (allS g242 all0))
      obtain ⟨_, T291, _, X291, hQ291, st291⟩ := own_cv X247 hx hZ hown (wd hw 39 rfl) (wd hw 40 rfl) (wd hw 42 rfl) (wd hw 41 rfl) (wd hw 43 rfl) (wd hw 9 rfl) (by decide) (rm14 l Z a0 hw [] b241 (i0 &&& (2147483647 : Int32)) w61 h247 n0 O315 fx285 hc287 fx286 SF_w61_game SE_w61) e247 ex283 (g := (mkF m 60 #[iv i0, iv i1, iv (i0 &&& (2147483647 : Int32)), iv (1 : Int32), rv w61, rv w59, rv b241, iv (1 : Int32)] [(.ref b241)])) rfl (by rw [hml]; rfl) (rest := []) (W := 0) (lenOf pd_6 rfl) rfl (by show 2 * 0 + _ ≤ _; exact Nat.le_of_eq rfl) (hb hby at_60) (by decide) (by decide) (by decide) (by decide)
      obtain ⟨rfl, Nq291, hh316⟩ := hQ291
      have N291 := Fr.app N247 Nq291
      refine own_via (fun t k => st291 t (XS.iload X291.here hx rfl (hb hby at_63) rfl (XS.icmpNo X291.here hx rfl (hb hby at_65) rfl (teq (by decide : (1 : Int32) = (1 : Int32))).2 (XS.iconst X291.here hx rfl (hb hby at_68) (XS.goto X291.here hx rfl (pc0 := 69) (pc' := 73) rfl (hb hby at_69) (by decide) (by decide) k))))) ?_
      show own_Goes p e below (T291.setTop (mkF m 73 #[iv i0, iv i1, iv (i0 &&& (2147483647 : Int32)), iv (1 : Int32), rv w61, rv w59, rv b241, iv (1 : Int32)] [(.int (1 : Int32))])) _
      obtain ⟨fs, hr, hrun, hended, hW, hsame⟩ := X291.leave (v := some (.int (1 : Int32))) (fun h => by rw [Bd.returns] at h; cases h)
      refine own_end (t := T291.setFrames fs) ?_ ⟨_, hrun, hended, _, _, rfl, ?_, ⟨_, rfl⟩, hW, hsame.mono (by decide) (by decide)⟩
      · exact retN X291 hx (t := .boolean) Bd.returns (by simp) (hb hby at_73) hr
      · exact ⟨rfl, N291⟩
  · have qs317 := qs
    rw [qs]
    show own_Goes p e below (s₁.setTop (mkF m 12 #[iv i0, iv i1, iv (i0 &&& (2147483647 : Int32)), .unset, .unset, .unset, .unset, .unset] [(.int (2 : Int32))])) _
    refine own_via (fun t k => XS.istoreN X0.here hx rfl (hb hby at_12) rfl (l' := #[iv i0, iv i1, iv (i0 &&& (2147483647 : Int32)), iv (2 : Int32), .unset, .unset, .unset, .unset]) rfl (XS.iloadN X0.here hx rfl (hb hby at_13) rfl k)) ?_
    obtain ⟨_, T318, _, X318, hQ318, st318⟩ := own_cs X0 hx hZ hown (wd hw 1 rfl) (wd hw 2 rfl) (wd hw 4 rfl) (wd hw 3 rfl) (by decide) (rm15 l Z a0 hw [] w82 h0 n0 O0 S_Result_LOSS) e0 (g := (mkF m 14 #[iv i0, iv i1, iv (i0 &&& (2147483647 : Int32)), iv (2 : Int32), .unset, .unset, .unset, .unset] [(.int (2 : Int32))])) rfl (by rw [hml]; rfl) (rest := []) (W := 0) (lenOf pd_1 rfl) rfl (by show 2 * 0 + _ ≤ _; exact Nat.le_of_eq rfl) (hb hby at_14) (by decide) (by decide) (by decide) (by decide)
    obtain ⟨rfl, Nq318, hh327⟩ := hQ318
    have N318 := Fr.app N0 Nq318
    refine own_via (fun t k => st318 t (XS.astore X318.here hx rfl (hb hby at_17) rfl rfl (l' := #[iv i0, iv i1, iv (i0 &&& (2147483647 : Int32)), iv (2 : Int32), rv w82, .unset, .unset, .unset]) rfl k)) ?_
    obtain ⟨T328, X328, e328, st328⟩ := getS2 X318 hx hZ hown (host := "") (Or.inl (wd hw 8 rfl)) Via.refl hh327 (S_RoundEntry_NONE.ext O0.2) (g := (mkF m 19 #[iv i0, iv i1, iv (i0 &&& (2147483647 : Int32)), iv (2 : Int32), rv w82, .unset, .unset, .unset] [])) rfl (hb hby at_19)
    refine own_via (fun t k => st328 t k) ?_
    obtain ⟨_, T329, _, X329, hQ329, st329⟩ := own_cv X328 hx hZ hown (wd hw 11 rfl) (wd hw 12 rfl) (wd hw 14 rfl) (wd hw 13 rfl) (wd hw 15 rfl) (wd hw 9 rfl) (by decide) (rm2 l Z a0 hw [] w57 w59 h0 n0 O0 SF_w57_colour) e328 (SE_w57.ext O0.2) (g := (mkF m 22 #[iv i0, iv i1, iv (i0 &&& (2147483647 : Int32)), iv (2 : Int32), rv w82, .unset, .unset, .unset] [(.ref w57)])) rfl (by rw [hml]; rfl) (rest := []) (W := 0) (lenOf pd_2 rfl) rfl (by show 2 * 0 + _ ≤ _; exact Nat.le_of_eq rfl) (hb hby at_22) (by decide) (by decide) (by decide) (by decide)
    obtain ⟨rfl, Nq329, hh330⟩ := hQ329
    have N329 := Fr.app N318 Nq329
    refine own_via (fun t k => st329 t (XS.astore X329.here hx rfl (hb hby at_25) rfl rfl (l' := #[iv i0, iv i1, iv (i0 &&& (2147483647 : Int32)), iv (2 : Int32), rv w82, rv w59, .unset, .unset]) rfl k)) ?_
    obtain ⟨T331, h331, X331, e331, E331, A331, D331, -, st331⟩ := newO X329 hx hZ hown (wd hw 18 rfl) (wd hw 19 rfl) (wd hw 9 rfl) hh330 (g := (mkF m 27 #[iv i0, iv i1, iv (i0 &&& (2147483647 : Int32)), iv (2 : Int32), rv w82, rv w59, .unset, .unset] [])) rfl (hb hby at_27) (by decide) (by decide)
    obtain ⟨b332, q331⟩ : ∃ z, z = h0.size := ⟨_, rfl⟩
    rw [← q331] at A331 D331 st331
    refine own_via (fun t k => st331 t k) ?_
    have g333 : n0 ≤ b332 := Nat.le_trans (own_old O0) (Nat.le_of_eq q331.symm)
    have B334 : h0.size ≤ b332 := Nat.le_trans (Nat.le_refl _) (Nat.le_of_eq q331.symm)
    have F335 : Fld Z h331 b332 zs1 "colour" zs6 .null := D331 (Or.inr (wd hw 17 rfl)) (ty := (.object zs7)) (by decide)
    have F336 : Fld Z h331 b332 zs1 "opponent" "I" (.int (0 : Int32)) := D331 (Or.inr (wd hw 36 rfl)) (ty := .int) (by decide)
    have F337 : Fld Z h331 b332 zs1 "result" zs3 .null := D331 (Or.inr (wd hw 38 rfl)) (ty := (.object zs2)) (by decide)
    show own_Goes p e below (T331.setTop (mkF m 30 #[iv i0, iv i1, iv (i0 &&& (2147483647 : Int32)), iv (2 : Int32), rv w82, rv w59, .unset, .unset] [(.ref b332)])) _
    refine own_via (fun t k => XS.dup X331.here hx rfl (hb hby at_30) rfl rfl (XS.iloadN X331.here hx rfl (hb hby at_31) rfl (XS.aload X331.here hx rfl (hb hby at_32) rfl rfl (XS.aload X331.here hx rfl (hb hby at_34) rfl rfl k)))) ?_
    show own_Goes p e below (T331.setTop (mkF m 36 #[iv i0, iv i1, iv (i0 &&& (2147483647 : Int32)), iv (2 : Int32), rv w82, rv w59, .unset, .unset] [(.ref w82), (.ref w59), (.int (i0 &&& (2147483647 : Int32))), (.ref b332), (.ref b332)])) _
    have O373 : Old Z n0 h331 := (O0.ext E331)
    obtain ⟨_, T338, _, X338, hQ338, st338⟩ := own_ci X331 hx hZ hown (wd hw 20 rfl) (wd hw 21 rfl) (wd hw 22 rfl) (wd hw 9 rfl) rfl (by decide) (rm17 l Z a0 hw [] b332 (i0 &&& (2147483647 : Int32)) w59 w82 (0 : Int32) h331 n0 O373 (own_nn_mask i0 (2147483647 : Int32) 31 (by decide) (by decide)) F336 A331 g333 F335 F337) e331 (g := (mkF m 36 #[iv i0, iv i1, iv (i0 &&& (2147483647 : Int32)), iv (2 : Int32), rv w82, rv w59, .unset, .unset] [(.ref w82), (.ref w59), (.int (i0 &&& (2147483647 : Int32))), (.ref b332), (.ref b332)])) rfl (by rw [hml]; rfl) (rest := [(.ref b332)]) (W := 1) (lenOf pd_5 rfl) rfl (by show 2 * 0 + _ ≤ _; exact Nat.le_of_eq rfl) (hb hby at_36) (by decide) (by decide) (by decide) (by decide)
    obtain ⟨h338, e338⟩ : ∃ z, T338.heap = z := ⟨_, rfl⟩
    rw [e338] at hQ338
    obtain ⟨rfl, Nq338, K338, ex374, fx375, fx376, fx377⟩ := hQ338
    have N338 := Fr.app N329 Nq338
    refine own_via (fun t k => st338 t (XS.astore X338.here hx rfl (hb hby at_39) rfl rfl (l' := #[iv i0, iv i1, iv (i0 &&& (2147483647 : Int32)), iv (2 : Int32), rv w82, rv w59, rv b332, .unset]) rfl (XS.iloadN X338.here hx rfl (hb hby at_41) rfl k))) ?_
    show own_Goes p e below (T338.setTop (mkF m 42 #[iv i0, iv i1, iv (i0 &&& (2147483647 : Int32)), iv (2 : Int32), rv w82, rv w59, rv b332, .unset] [(.int (i0 &&& (2147483647 : Int32)))])) _
    by_cases hc378 : (i0 &&& (2147483647 : Int32)) = (0 : Int32)
    · refine own_via (fun t k => XS.ifYes X338.here hx rfl (pc0 := 42) (pc' := 55) rfl (hb hby at_42) rfl ((if0 _ _).trans (teq hc378).1) (by decide) (by decide) (XS.iconst X338.here hx rfl (hb hby at_55) (XS.istore X338.here hx rfl (hb hby at_56) rfl (l' := #[iv i0, iv i1, iv (i0 &&& (2147483647 : Int32)), iv (2 : Int32), rv w82, rv w59, rv b332, iv (0 : Int32)]) rfl (XS.aload X338.here hx rfl (hb hby at_58) rfl rfl k)))) ?_
      show own_Goes p e below (T338.setTop (mkF m 60 #[iv i0, iv i1, iv (i0 &&& (2147483647 : Int32)), iv (2 : Int32), rv w82, rv w59, rv b332, iv (0 : Int32)] [(.ref b332)])) _
      have O380 : Old Z n0 h338 := (O373.keep K338 (allS g333 all0))
      obtain ⟨_, T379, _, X379, hQ379, st379⟩ := own_cv X338 hx hZ hown (wd hw 39 rfl) (wd hw 40 rfl) (wd hw 42 rfl) (wd hw 41 rfl) (wd hw 43 rfl) (wd hw 9 rfl) (by decide) (rm7 l Z a0 hw [] b332 (i0 &&& (2147483647 : Int32)) h338 n0 O380 fx376 hc378) e338 ex374 (g := (mkF m 60 #[iv i0, iv i1, iv (i0 &&& (2147483647 : Int32)), iv (2 : Int32), rv w82, rv w59, rv b332, iv (0 : Int32)] [(.ref b332)])) rfl (by rw [hml]; rfl) (rest := []) (W := 0) (lenOf pd_6 rfl) rfl (by show 2 * 0 + _ ≤ _; exact Nat.le_of_eq rfl) (hb hby at_60) (by decide) (by decide) (by decide) (by decide)
      obtain ⟨rfl, Nq379, hh381⟩ := hQ379
      have N379 := Fr.app N338 Nq379
      refine own_via (fun t k => st379 t (XS.iload X379.here hx rfl (hb hby at_63) rfl (XS.icmpNo X379.here hx rfl (hb hby at_65) rfl (teq (by decide : (0 : Int32) = (0 : Int32))).2 (XS.iconst X379.here hx rfl (hb hby at_68) (XS.goto X379.here hx rfl (pc0 := 69) (pc' := 73) rfl (hb hby at_69) (by decide) (by decide) k))))) ?_
      show own_Goes p e below (T379.setTop (mkF m 73 #[iv i0, iv i1, iv (i0 &&& (2147483647 : Int32)), iv (2 : Int32), rv w82, rv w59, rv b332, iv (0 : Int32)] [(.int (1 : Int32))])) _
      obtain ⟨fs, hr, hrun, hended, hW, hsame⟩ := X379.leave (v := some (.int (1 : Int32))) (fun h => by rw [Bd.returns] at h; cases h)
      refine own_end (t := T379.setFrames fs) ?_ ⟨_, hrun, hended, _, _, rfl, ?_, ⟨_, rfl⟩, hW, hsame.mono (by decide) (by decide)⟩
      · exact retN X379 hx (t := .boolean) Bd.returns (by simp) (hb hby at_73) hr
      · exact ⟨rfl, N379⟩
    · refine own_via (fun t k => XS.ifNo X338.here hx rfl (hb hby at_42) rfl ((if0 _ _).trans (feq hc378).1) (XS.iloadN X338.here hx rfl (hb hby at_45) rfl (XS.bipush X338.here hx rfl (hb hby at_46) (XS.icmpNo X338.here hx rfl (hb hby at_48) rfl (tlt (by decide : (2 : Int32) < (6 : Int32))).2.1 (XS.iconst X338.here hx rfl (hb hby at_51) (XS.goto X338.here hx rfl (pc0 := 52) (pc' := 56) rfl (hb hby at_52) (by decide) (by decide) (XS.istore X338.here hx rfl (hb hby at_56) rfl (l' := #[iv i0, iv i1, iv (i0 &&& (2147483647 : Int32)), iv (2 : Int32), rv w82, rv w59, rv b332, iv (1 : Int32)]) rfl (XS.aload X338.here hx rfl (hb hby at_58) rfl rfl k)))))))) ?_
      show own_Goes p e below (T338.setTop (mkF m 60 #[iv i0, iv i1, iv (i0 &&& (2147483647 : Int32)), iv (2 : Int32), rv w82, rv w59, rv b332, iv (1 : Int32)] [(.ref b332)])) _
      have O406 : Old Z n0 h338 := (O373.keep K338 (allS g333 all0))
      obtain ⟨_, T382, _, X382, hQ382, st382⟩ := own_cv X338 hx hZ hown (wd hw 39 rfl) (wd hw 40 rfl) (wd hw 42 rfl) (wd hw 41 rfl) (wd hw 43 rfl) (wd hw 9 rfl) (by decide) (rm19 l Z a0 hw [] b332 (i0 &&& (2147483647 : Int32)) w82 h338 n0 O406 fx376 hc378 fx377 SF_w82_game SE_w82) e338 ex374 (g := (mkF m 60 #[iv i0, iv i1, iv (i0 &&& (2147483647 : Int32)), iv (2 : Int32), rv w82, rv w59, rv b332, iv (1 : Int32)] [(.ref b332)])) rfl (by rw [hml]; rfl) (rest := []) (W := 0) (lenOf pd_6 rfl) rfl (by show 2 * 0 + _ ≤ _; exact Nat.le_of_eq rfl) (hb hby at_60) (by decide) (by decide) (by decide) (by decide)
      obtain ⟨rfl, Nq382, hh407⟩ := hQ382
      have N382 := Fr.app N338 Nq382
      refine own_via (fun t k => st382 t (XS.iload X382.here hx rfl (hb hby at_63) rfl (XS.icmpNo X382.here hx rfl (hb hby at_65) rfl (teq (by decide : (1 : Int32) = (1 : Int32))).2 (XS.iconst X382.here hx rfl (hb hby at_68) (XS.goto X382.here hx rfl (pc0 := 69) (pc' := 73) rfl (hb hby at_69) (by decide) (by decide) k))))) ?_
      show own_Goes p e below (T382.setTop (mkF m 73 #[iv i0, iv i1, iv (i0 &&& (2147483647 : Int32)), iv (2 : Int32), rv w82, rv w59, rv b332, iv (1 : Int32)] [(.int (1 : Int32))])) _
      obtain ⟨fs, hr, hrun, hended, hW, hsame⟩ := X382.leave (v := some (.int (1 : Int32))) (fun h => by rw [Bd.returns] at h; cases h)
      refine own_end (t := T382.setFrames fs) ?_ ⟨_, hrun, hended, _, _, rfl, ?_, ⟨_, rfl⟩, hW, hsame.mono (by decide) (by decide)⟩
      · exact retN X382 hx (t := .boolean) Bd.returns (by simp) (hb hby at_73) hr
      · exact ⟨rfl, N382⟩
  · have qs408 := qs
    rw [qs]
    show own_Goes p e below (s₁.setTop (mkF m 12 #[iv i0, iv i1, iv (i0 &&& (2147483647 : Int32)), .unset, .unset, .unset, .unset, .unset] [(.int (3 : Int32))])) _
    refine own_via (fun t k => XS.istoreN X0.here hx rfl (hb hby at_12) rfl (l' := #[iv i0, iv i1, iv (i0 &&& (2147483647 : Int32)), iv (3 : Int32), .unset, .unset, .unset, .unset]) rfl (XS.iloadN X0.here hx rfl (hb hby at_13) rfl k)) ?_
    obtain ⟨_, T409, _, X409, hQ409, st409⟩ := own_cs X0 hx hZ hown (wd hw 1 rfl) (wd hw 2 rfl) (wd hw 4 rfl) (wd hw 3 rfl) (by decide) (rm20 l Z a0 hw [] w55 h0 n0 O0 S_Result_UNRATED_WIN) e0 (g := (mkF m 14 #[iv i0, iv i1, iv (i0 &&& (2147483647 : Int32)), iv (3 : Int32), .unset, .unset, .unset, .unset] [(.int (3 : Int32))])) rfl (by rw [hml]; rfl) (rest := []) (W := 0) (lenOf pd_1 rfl) rfl (by show 2 * 0 + _ ≤ _; exact Nat.le_of_eq rfl) (hb hby at_14) (by decide) (by decide) (by decide) (by decide)
    obtain ⟨rfl, Nq409, hh418⟩ := hQ409
    have N409 := Fr.app N0 Nq409
    refine own_via (fun t k => st409 t (XS.astore X409.here hx rfl (hb hby at_17) rfl rfl (l' := #[iv i0, iv i1, iv (i0 &&& (2147483647 : Int32)), iv (3 : Int32), rv w55, .unset, .unset, .unset]) rfl k)) ?_
    obtain ⟨T419, X419, e419, st419⟩ := getS2 X409 hx hZ hown (host := "") (Or.inl (wd hw 8 rfl)) Via.refl hh418 (S_RoundEntry_NONE.ext O0.2) (g := (mkF m 19 #[iv i0, iv i1, iv (i0 &&& (2147483647 : Int32)), iv (3 : Int32), rv w55, .unset, .unset, .unset] [])) rfl (hb hby at_19)
    refine own_via (fun t k => st419 t k) ?_
    obtain ⟨_, T420, _, X420, hQ420, st420⟩ := own_cv X419 hx hZ hown (wd hw 11 rfl) (wd hw 12 rfl) (wd hw 14 rfl) (wd hw 13 rfl) (wd hw 15 rfl) (wd hw 9 rfl) (by decide) (rm2 l Z a0 hw [] w57 w59 h0 n0 O0 SF_w57_colour) e419 (SE_w57.ext O0.2) (g := (mkF m 22 #[iv i0, iv i1, iv (i0 &&& (2147483647 : Int32)), iv (3 : Int32), rv w55, .unset, .unset, .unset] [(.ref w57)])) rfl (by rw [hml]; rfl) (rest := []) (W := 0) (lenOf pd_2 rfl) rfl (by show 2 * 0 + _ ≤ _; exact Nat.le_of_eq rfl) (hb hby at_22) (by decide) (by decide) (by decide) (by decide)
    obtain ⟨rfl, Nq420, hh421⟩ := hQ420
    have N420 := Fr.app N409 Nq420
    refine own_via (fun t k => st420 t (XS.astore X420.here hx rfl (hb hby at_25) rfl rfl (l' := #[iv i0, iv i1, iv (i0 &&& (2147483647 : Int32)), iv (3 : Int32), rv w55, rv w59, .unset, .unset]) rfl k)) ?_
    obtain ⟨T422, h422, X422, e422, E422, A422, D422, -, st422⟩ := newO X420 hx hZ hown (wd hw 18 rfl) (wd hw 19 rfl) (wd hw 9 rfl) hh421 (g := (mkF m 27 #[iv i0, iv i1, iv (i0 &&& (2147483647 : Int32)), iv (3 : Int32), rv w55, rv w59, .unset, .unset] [])) rfl (hb hby at_27) (by decide) (by decide)
    obtain ⟨b423, q422⟩ : ∃ z, z = h0.size := ⟨_, rfl⟩
    rw [← q422] at A422 D422 st422
    refine own_via (fun t k => st422 t k) ?_
    have g424 : n0 ≤ b423 := Nat.le_trans (own_old O0) (Nat.le_of_eq q422.symm)
    have B425 : h0.size ≤ b423 := Nat.le_trans (Nat.le_refl _) (Nat.le_of_eq q422.symm)
    have F426 : Fld Z h422 b423 zs1 "colour" zs6 .null := D422 (Or.inr (wd hw 17 rfl)) (ty := (.object zs7)) (by decide)
    have F427 : Fld Z h422 b423 zs1 "opponent" "I" (.int (0 : Int32)) := D422 (Or.inr (wd hw 36 rfl)) (ty := .int) (by decide)
    have F428 : Fld Z h422 b423 zs1 "result" zs3 .null := D422 (Or.inr (wd hw 38 rfl)) (ty := (.object zs2)) (by decide)
    show own_Goes p e below (T422.setTop (mkF m 30 #[iv i0, iv i1, iv (i0 &&& (2147483647 : Int32)), iv (3 : Int32), rv w55, rv w59, .unset, .unset] [(.ref b423)])) _
    refine own_via (fun t k => XS.dup X422.here hx rfl (hb hby at_30) rfl rfl (XS.iloadN X422.here hx rfl (hb hby at_31) rfl (XS.aload X422.here hx rfl (hb hby at_32) rfl rfl (XS.aload X422.here hx rfl (hb hby at_34) rfl rfl k)))) ?_
    show own_Goes p e below (T422.setTop (mkF m 36 #[iv i0, iv i1, iv (i0 &&& (2147483647 : Int32)), iv (3 : Int32), rv w55, rv w59, .unset, .unset] [(.ref w55), (.ref w59), (.int (i0 &&& (2147483647 : Int32))), (.ref b423), (.ref b423)])) _
    have O464 : Old Z n0 h422 := (O0.ext E422)
    obtain ⟨_, T429, _, X429, hQ429, st429⟩ := own_ci X422 hx hZ hown (wd hw 20 rfl) (wd hw 21 rfl) (wd hw 22 rfl) (wd hw 9 rfl) rfl (by decide) (rm22 l Z a0 hw [] b423 (i0 &&& (2147483647 : Int32)) w59 w55 (0 : Int32) h422 n0 O464 (own_nn_mask i0 (2147483647 : Int32) 31 (by decide) (by decide)) F427 A422 g424 F426 F428) e422 (g := (mkF m 36 #[iv i0, iv i1, iv (i0 &&& (2147483647 : Int32)), iv (3 : Int32), rv w55, rv w59, .unset, .unset] [(.ref w55), (.ref w59), (.int (i0 &&& (2147483647 : Int32))), (.ref b423), (.ref b423)])) rfl (by rw [hml]; rfl) (rest := [(.ref b423)]) (W := 1) (lenOf pd_5 rfl) rfl (by show 2 * 0 + _ ≤ _; exact Nat.le_of_eq rfl) (hb hby at_36) (by decide) (by decide) (by decide) (by decide)
    obtain ⟨h429, e429⟩ : ∃ z, T429.heap = z := ⟨_, rfl⟩
    rw [e429] at hQ429
    obtain ⟨rfl, Nq429, K429, ex465, fx466, fx467, fx468⟩ := hQ429
    have N429 := Fr.app N420 Nq429
    refine own_via (fun t k => st429 t (XS.astore X429.here hx rfl (hb hby at_39) rfl rfl (l' := #[iv i0, iv i1, iv (i0 &&& (2147483647 : Int32)), iv (3 : Int32), rv w55, rv w59, rv b423, .unset]) rfl (XS.iloadN X429.here hx rfl (hb hby at_41) rfl k))) ?_
    show own_Goes p e below (T429.setTop (mkF m 42 #[iv i0, iv i1, iv (i0 &&& (2147483647 : Int32)), iv (3 : Int32), rv w55, rv w59, rv b423, .unset] [(.int (i0 &&& (2147483647 : Int32)))])) _
    by_cases hc469 : (i0 &&& (2147483647 : Int32)) = (0 : Int32)
    · refine own_via (fun t k => XS.ifYes X429.here hx rfl (pc0 := 42) (pc' := 55) rfl (hb hby at_42) rfl ((if0 _ _).trans (teq hc469).1) (by decide) (by decide) (XS.iconst X429.here hx rfl (hb hby at_55) (XS.istore X429.here hx rfl (hb hby at_56) rfl (l' := #[iv i0, iv i1, iv (i0 &&& (2147483647 : Int32)), iv (3 : Int32), rv w55, rv w59, rv b423, iv (0 : Int32)]) rfl (XS.aload X429.here hx rfl (hb hby at_58) rfl rfl k)))) ?_
      show own_Goes p e below (T429.setTop (mkF m 60 #[iv i0, iv i1, iv (i0 &&& (2147483647 : Int32)), iv (3 : Int32), rv w55, rv w59, rv b423, iv (0 : Int32)] [(.ref b423)])) _
      have O471 : Old Z n0 h429 := (O464.keep K429 (allS g424 all0))
      obtain ⟨_, T470, _, X470, hQ470, st470⟩ := own_cv X429 hx hZ hown (wd hw 39 rfl) (wd hw 40 rfl) (wd hw 42 rfl) (wd hw 41 rfl) (wd hw 43 rfl) (wd hw 9 rfl) (by decide) (rm7 l Z a0 hw [] b423 (i0 &&& (2147483647 : Int32)) h429 n0 O471 fx467 hc469) e429 ex465 (g := (mkF m 60 #[iv i0, iv i1, iv (i0 &&& (2147483647 : Int32)), iv (3 : Int32), rv w55, rv w59, rv b423, iv (0 : Int32)] [(.ref b423)])) rfl (by rw [hml]; rfl) (rest := []) (W := 0) (lenOf pd_6 rfl) rfl (by show 2 * 0 + _ ≤ _; exact Nat.le_of_eq rfl) (hb hby at_60) (by decide) (by decide) (by decide) (by decide)
      obtain ⟨rfl, Nq470, hh472⟩ := hQ470
      have N470 := Fr.app N429 Nq470
      refine own_via (fun t k => st470 t (XS.iload X470.here hx rfl (hb hby at_63) rfl (XS.icmpNo X470.here hx rfl (hb hby at_65) rfl (teq (by decide : (0 : Int32) = (0 : Int32))).2 (XS.iconst X470.here hx rfl (hb hby at_68) (XS.goto X470.here hx rfl (pc0 := 69) (pc' := 73) rfl (hb hby at_69) (by decide) (by decide) k))))) ?_
      show own_Goes p e below (T470.setTop (mkF m 73 #[iv i0, iv i1, iv (i0 &&& (2147483647 : Int32)), iv (3 : Int32), rv w55, rv w59, rv b423, iv (0 : Int32)] [(.int (1 : Int32))])) _
      obtain ⟨fs, hr, hrun, hended, hW, hsame⟩ := X470.leave (v := some (.int (1 : Int32))) (fun h => by rw [Bd.returns] at h; cases h)
      refine own_end (t := T470.setFrames fs) ?_ ⟨_, hrun, hended, _, _, rfl, ?_, ⟨_, rfl⟩, hW, hsame.mono (by decide) (by decide)⟩
      · exact retN X470 hx (t := .boolean) Bd.returns (by simp) (hb hby at_73) hr
      · exact ⟨rfl, N470⟩
    · refine own_via (fun t k => XS.ifNo X429.here hx rfl (hb hby at_42) rfl ((if0 _ _).trans (feq hc469).1) (XS.iloadN X429.here hx rfl (hb hby at_45) rfl (XS.bipush X429.here hx rfl (hb hby at_46) (XS.icmpNo X429.here hx rfl (hb hby at_48) rfl (tlt (by decide : (3 : Int32) < (6 : Int32))).2.1 (XS.iconst X429.here hx rfl (hb hby at_51) (XS.goto X429.here hx rfl (pc0 := 52) (pc' := 56) rfl (hb hby at_52) (by decide) (by decide) (XS.istore X429.here hx rfl (hb hby at_56) rfl (l' := #[iv i0, iv i1, iv (i0 &&& (2147483647 : Int32)), iv (3 : Int32), rv w55, rv w59, rv b423, iv (1 : Int32)]) rfl (XS.aload X429.here hx rfl (hb hby at_58) rfl rfl k)))))))) ?_
      show own_Goes p e below (T429.setTop (mkF m 60 #[iv i0, iv i1, iv (i0 &&& (2147483647 : Int32)), iv (3 : Int32), rv w55, rv w59, rv b423, iv (1 : Int32)] [(.ref b423)])) _
      have O497 : Old Z n0 h429 := (O464.keep K429 (allS g424 all0))
      obtain ⟨_, T473, _, X473, hQ473, st473⟩ := own_cv X429 hx hZ hown (wd hw 39 rfl) (wd hw 40 rfl) (wd hw 42 rfl) (wd hw 41 rfl) (wd hw 43 rfl) (wd hw 9 rfl) (by decide) (rm24 l Z a0 hw [] b423 (i0 &&& (2147483647 : Int32)) w55 h429 n0 O497 fx467 hc469 fx468 SF_w55_game SE_w55) e429 ex465 (g := (mkF m 60 #[iv i0, iv i1, iv (i0 &&& (2147483647 : Int32)), iv (3 : Int32), rv w55, rv w59, rv b423, iv (1 : Int32)] [(.ref b423)])) rfl (by rw [hml]; rfl) (rest := []) (W := 0) (lenOf pd_6 rfl) rfl (by show 2 * 0 + _ ≤ _; exact Nat.le_of_eq rfl) (hb hby at_60) (by decide) (by decide) (by decide) (by decide)
      obtain ⟨rfl, Nq473, hh498⟩ := hQ473
      have N473 := Fr.app N429 Nq473
      refine own_via (fun t k => st473 t (XS.iload X473.here hx rfl (hb hby at_63) rfl (XS.icmpNo X473.here hx rfl (hb hby at_65) rfl (teq (by decide : (1 : Int32) = (1 : Int32))).2 (XS.iconst X473.here hx rfl (hb hby at_68) (XS.goto X473.here hx rfl (pc0 := 69) (pc' := 73) rfl (hb hby at_69) (by decide) (by decide) k))))) ?_
      show own_Goes p e below (T473.setTop (mkF m 73 #[iv i0, iv i1, iv (i0 &&& (2147483647 : Int32)), iv (3 : Int32), rv w55, rv w59, rv b423, iv (1 : Int32)] [(.int (1 : Int32))])) _
      obtain ⟨fs, hr, hrun, hended, hW, hsame⟩ := X473.leave (v := some (.int (1 : Int32))) (fun h => by rw [Bd.returns] at h; cases h)
      refine own_end (t := T473.setFrames fs) ?_ ⟨_, hrun, hended, _, _, rfl, ?_, ⟨_, rfl⟩, hW, hsame.mono (by decide) (by decide)⟩
      · exact retN X473 hx (t := .boolean) Bd.returns (by simp) (hb hby at_73) hr
      · exact ⟨rfl, N473⟩
  · have qs499 := qs
    rw [qs]
    show own_Goes p e below (s₁.setTop (mkF m 12 #[iv i0, iv i1, iv (i0 &&& (2147483647 : Int32)), .unset, .unset, .unset, .unset, .unset] [(.int (4 : Int32))])) _
    refine own_via (fun t k => XS.istoreN X0.here hx rfl (hb hby at_12) rfl (l' := #[iv i0, iv i1, iv (i0 &&& (2147483647 : Int32)), iv (4 : Int32), .unset, .unset, .unset, .unset]) rfl (XS.iloadN X0.here hx rfl (hb hby at_13) rfl k)) ?_
    obtain ⟨_, T500, _, X500, hQ500, st500⟩ := own_cs X0 hx hZ hown (wd hw 1 rfl) (wd hw 2 rfl) (wd hw 4 rfl) (wd hw 3 rfl) (by decide) (rm25 l Z a0 hw [] w64 h0 n0 O0 S_Result_UNRATED_DRAW) e0 (g := (mkF m 14 #[iv i0, iv i1, iv (i0 &&& (2147483647 : Int32)), iv (4 : Int32), .unset, .unset, .unset, .unset] [(.int (4 : Int32))])) rfl (by rw [hml]; rfl) (rest := []) (W := 0) (lenOf pd_1 rfl) rfl (by show 2 * 0 + _ ≤ _; exact Nat.le_of_eq rfl) (hb hby at_14) (by decide) (by decide) (by decide) (by decide)
    obtain ⟨rfl, Nq500, hh509⟩ := hQ500
    have N500 := Fr.app N0 Nq500
    refine own_via (fun t k => st500 t (XS.astore X500.here hx rfl (hb hby at_17) rfl rfl (l' := #[iv i0, iv i1, iv (i0 &&& (2147483647 : Int32)), iv (4 : Int32), rv w64, .unset, .unset, .unset]) rfl k)) ?_
    obtain ⟨T510, X510, e510, st510⟩ := getS2 X500 hx hZ hown (host := "") (Or.inl (wd hw 8 rfl)) Via.refl hh509 (S_RoundEntry_NONE.ext O0.2) (g := (mkF m 19 #[iv i0, iv i1, iv (i0 &&& (2147483647 : Int32)), iv (4 : Int32), rv w64, .unset, .unset, .unset] [])) rfl (hb hby at_19)
    refine own_via (fun t k => st510 t k) ?_
    obtain ⟨_, T511, _, X511, hQ511, st511⟩ := own_cv X510 hx hZ hown (wd hw 11 rfl) (wd hw 12 rfl) (wd hw 14 rfl) (wd hw 13 rfl) (wd hw 15 rfl) (wd hw 9 rfl) (by decide) (rm2 l Z a0 hw [] w57 w59 h0 n0 O0 SF_w57_colour) e510 (SE_w57.ext O0.2) (g := (mkF m 22 #[iv i0, iv i1, iv (i0 &&& (2147483647 : Int32)), iv (4 : Int32), rv w64, .unset, .unset, .unset] [(.ref w57)])) rfl (by rw [hml]; rfl) (rest := []) (W := 0) (lenOf pd_2 rfl) rfl (by show 2 * 0 + _ ≤ _; exact Nat.le_of_eq rfl) (hb hby at_22) (by decide) (by decide) (by decide) (by decide)
    obtain ⟨rfl, Nq511, hh512⟩ := hQ511
    have N511 := Fr.app N500 Nq511
    refine own_via (fun t k => st511 t (XS.astore X511.here hx rfl (hb hby at_25) rfl rfl (l' := #[iv i0, iv i1, iv (i0 &&& (2147483647 : Int32)), iv (4 : Int32), rv w64, rv w59, .unset, .unset]) rfl k)) ?_
    obtain ⟨T513, h513, X513, e513, E513, A513, D513, -, st513⟩ := newO X511 hx hZ hown (wd hw 18 rfl) (wd hw 19 rfl) (wd hw 9 rfl) hh512 (g := (mkF m 27 #[iv i0, iv i1, iv (i0 &&& (2147483647 : Int32)), iv (4 : Int32), rv w64, rv w59, .unset, .unset] [])) rfl (hb hby at_27) (by decide) (by decide)
    obtain ⟨b514, q513⟩ : ∃ z, z = h0.size := ⟨_, rfl⟩
    rw [← q513] at A513 D513 st513
    refine own_via (fun t k => st513 t k) ?_
    have g515 : n0 ≤ b514 := Nat.le_trans (own_old O0) (Nat.le_of_eq q513.symm)
    have B516 : h0.size ≤ b514 := Nat.le_trans (Nat.le_refl _) (Nat.le_of_eq q513.symm)
    have F517 : Fld Z h513 b514 zs1 "colour" zs6 .null := D513 (Or.inr (wd hw 17 rfl)) (ty := (.object zs7)) (by decide)
    have F518 : Fld Z h513 b514 zs1 "opponent" "I" (.int (0 : Int32)) := D513 (Or.inr (wd hw 36 rfl)) (ty := .int) (by decide)
    have F519 : Fld Z h513 b514 zs1 "result" zs3 .null := D513 (Or.inr (wd hw 38 rfl)) (ty := (.object zs2)) (by decide)
    show own_Goes p e below (T513.setTop (mkF m 30 #[iv i0, iv i1, iv (i0 &&& (2147483647 : Int32)), iv (4 : Int32), rv w64, rv w59, .unset, .unset] [(.ref b514)])) _
    refine own_via (fun t k => XS.dup X513.here hx rfl (hb hby at_30) rfl rfl (XS.iloadN X513.here hx rfl (hb hby at_31) rfl (XS.aload X513.here hx rfl (hb hby at_32) rfl rfl (XS.aload X513.here hx rfl (hb hby at_34) rfl rfl k)))) ?_
    show own_Goes p e below (T513.setTop (mkF m 36 #[iv i0, iv i1, iv (i0 &&& (2147483647 : Int32)), iv (4 : Int32), rv w64, rv w59, .unset, .unset] [(.ref w64), (.ref w59), (.int (i0 &&& (2147483647 : Int32))), (.ref b514), (.ref b514)])) _
    have O555 : Old Z n0 h513 := (O0.ext E513)
    obtain ⟨_, T520, _, X520, hQ520, st520⟩ := own_ci X513 hx hZ hown (wd hw 20 rfl) (wd hw 21 rfl) (wd hw 22 rfl) (wd hw 9 rfl) rfl (by decide) (rm27 l Z a0 hw [] b514 (i0 &&& (2147483647 : Int32)) w59 w64 (0 : Int32) h513 n0 O555 (own_nn_mask i0 (2147483647 : Int32) 31 (by decide) (by decide)) F518 A513 g515 F517 F519) e513 (g := (mkF m 36 #[iv i0, iv i1, iv (i0 &&& (2147483647 : Int32)), iv (4 : Int32), rv w64, rv w59, .unset, .unset] [(.ref w64), (.ref w59), (.int (i0 &&& (2147483647 : Int32))), (.ref b514), (.ref b514)])) rfl (by rw [hml]; rfl) (rest := [(.ref b514)]) (W := 1) (lenOf pd_5 rfl) rfl (by show 2 * 0 + _ ≤ _; exact Nat.le_of_eq rfl) (hb hby at_36) (by decide) (by decide) (by decide) (by decide)
    obtain ⟨h520, e520⟩ : ∃ z, T520.heap = z := ⟨_, rfl⟩
    rw [e520] at hQ520
    obtain ⟨rfl, Nq520, K520, ex556, fx557, fx558, fx559⟩ := hQ520
    have N520 := Fr.app N511 Nq520
    refine own_via (fun t k => st520 t (XS.astore X520.here hx rfl (hb hby at_39) rfl rfl (l' := #[iv i0, iv i1, iv (i0 &&& (2147483647 : Int32)), iv (4 : Int32), rv w64, rv w59, rv b514, .unset]) rfl (XS.iloadN X520.here hx rfl (hb hby at_41) rfl k))) ?_
    show own_Goes p e below (T520.setTop (mkF m 42 #[iv i0, iv i1, iv (i0 &&& (2147483647 : Int32)), iv (4 : Int32), rv w64, rv w59, rv b514, .unset] [(.int (i0 &&& (2147483647 : Int32)))])) _
    by_cases hc560 : (i0 &&& (2147483647 : Int32)) = (0 : Int32)
    · refine own_via (fun t k => XS.ifYes X520.here hx rfl (pc0 := 42) (pc' := 55) rfl (hb hby at_42) rfl ((if0 _ _).trans (teq hc560).1) (by decide) (by decide) (XS.iconst X520.here hx rfl (hb hby at_55) (XS.istore X520.here hx rfl (hb hby at_56) rfl (l' := #[iv i0, iv i1, iv (i0 &&& (2147483647 : Int32)), iv (4 : Int32), rv w64, rv w59, rv b514, iv (0 : Int32)]) rfl (XS.aload X520.here hx rfl (hb hby at_58) rfl rfl k)))) ?_
      show own_Goes p e below (T520.setTop (mkF m 60 #[iv i0, iv i1, iv (i0 &&& (2147483647 : Int32)), iv (4 : Int32), rv w64, rv w59, rv b514, iv (0 : Int32)] [(.ref b514)])) _
      have O562 : Old Z n0 h520 := (O555.keep K520 (allS g515 all0))
      obtain ⟨_, T561, _, X561, hQ561, st561⟩ := own_cv X520 hx hZ hown (wd hw 39 rfl) (wd hw 40 rfl) (wd hw 42 rfl) (wd hw 41 rfl) (wd hw 43 rfl) (wd hw 9 rfl) (by decide) (rm7 l Z a0 hw [] b514 (i0 &&& (2147483647 : Int32)) h520 n0 O562 fx558 hc560) e520 ex556 (g := (mkF m 60 #[iv i0, iv i1, iv (i0 &&& (2147483647 : Int32)), iv (4 : Int32), rv w64, rv w59, rv b514, iv (0 : Int32)] [(.ref b514)])) rfl (by rw [hml]; rfl) (rest := []) (W := 0) (lenOf pd_6 rfl) rfl (by show 2 * 0 + _ ≤ _; exact Nat.le_of_eq rfl) (hb hby at_60) (by decide) (by decide) (by decide) (by decide)
      obtain ⟨rfl, Nq561, hh563⟩ := hQ561
      have N561 := Fr.app N520 Nq561
      refine own_via (fun t k => st561 t (XS.iload X561.here hx rfl (hb hby at_63) rfl (XS.icmpNo X561.here hx rfl (hb hby at_65) rfl (teq (by decide : (0 : Int32) = (0 : Int32))).2 (XS.iconst X561.here hx rfl (hb hby at_68) (XS.goto X561.here hx rfl (pc0 := 69) (pc' := 73) rfl (hb hby at_69) (by decide) (by decide) k))))) ?_
      show own_Goes p e below (T561.setTop (mkF m 73 #[iv i0, iv i1, iv (i0 &&& (2147483647 : Int32)), iv (4 : Int32), rv w64, rv w59, rv b514, iv (0 : Int32)] [(.int (1 : Int32))])) _
      obtain ⟨fs, hr, hrun, hended, hW, hsame⟩ := X561.leave (v := some (.int (1 : Int32))) (fun h => by rw [Bd.returns] at h; cases h)
      refine own_end (t := T561.setFrames fs) ?_ ⟨_, hrun, hended, _, _, rfl, ?_, ⟨_, rfl⟩, hW, hsame.mono (by decide) (by decide)⟩
      · exact retN X561 hx (t := .boolean) Bd.returns (by simp) (hb hby at_73) hr
      · exact ⟨rfl, N561⟩
    · refine own_via (fun t k => XS.ifNo X520.here hx rfl (hb hby at_42) rfl ((if0 _ _).trans (feq hc560).1) (XS.iloadN X520.here hx rfl (hb hby at_45) rfl (XS.bipush X520.here hx rfl (hb hby at_46) (XS.icmpNo X520.here hx rfl (hb hby at_48) rfl (tlt (by decide : (4 : Int32) < (6 : Int32))).2.1 (XS.iconst X520.here hx rfl (hb hby at_51) (XS.goto X520.here hx rfl (pc0 := 52) (pc' := 56) rfl (hb hby at_52) (by decide) (by decide) (XS.istore X520.here hx rfl (hb hby at_56) rfl (l' := #[iv i0, iv i1, iv (i0 &&& (2147483647 : Int32)), iv (4 : Int32), rv w64, rv w59, rv b514, iv (1 : Int32)]) rfl (XS.aload X520.here hx rfl (hb hby at_58) rfl rfl k)))))))) ?_
      show own_Goes p e below (T520.setTop (mkF m 60 #[iv i0, iv i1, iv (i0 &&& (2147483647 : Int32)), iv (4 : Int32), rv w64, rv w59, rv b514, iv (1 : Int32)] [(.ref b514)])) _
      have O588 : Old Z n0 h520 := (O555.keep K520 (allS g515 all0))
      obtain ⟨_, T564, _, X564, hQ564, st564⟩ := own_cv X520 hx hZ hown (wd hw 39 rfl) (wd hw 40 rfl) (wd hw 42 rfl) (wd hw 41 rfl) (wd hw 43 rfl) (wd hw 9 rfl) (by decide) (rm29 l Z a0 hw [] b514 (i0 &&& (2147483647 : Int32)) w64 h520 n0 O588 fx558 hc560 fx559 SF_w64_game SE_w64) e520 ex556 (g := (mkF m 60 #[iv i0, iv i1, iv (i0 &&& (2147483647 : Int32)), iv (4 : Int32), rv w64, rv w59, rv b514, iv (1 : Int32)] [(.ref b514)])) rfl (by rw [hml]; rfl) (rest := []) (W := 0) (lenOf pd_6 rfl) rfl (by show 2 * 0 + _ ≤ _; exact Nat.le_of_eq rfl) (hb hby at_60) (by decide) (by decide) (by decide) (by decide)
      obtain ⟨rfl, Nq564, hh589⟩ := hQ564
      have N564 := Fr.app N520 Nq564
      refine own_via (fun t k => st564 t (XS.iload X564.here hx rfl (hb hby at_63) rfl (XS.icmpNo X564.here hx rfl (hb hby at_65) rfl (teq (by decide : (1 : Int32) = (1 : Int32))).2 (XS.iconst X564.here hx rfl (hb hby at_68) (XS.goto X564.here hx rfl (pc0 := 69) (pc' := 73) rfl (hb hby at_69) (by decide) (by decide) k))))) ?_
      show own_Goes p e below (T564.setTop (mkF m 73 #[iv i0, iv i1, iv (i0 &&& (2147483647 : Int32)), iv (4 : Int32), rv w64, rv w59, rv b514, iv (1 : Int32)] [(.int (1 : Int32))])) _
      obtain ⟨fs, hr, hrun, hended, hW, hsame⟩ := X564.leave (v := some (.int (1 : Int32))) (fun h => by rw [Bd.returns] at h; cases h)
      refine own_end (t := T564.setFrames fs) ?_ ⟨_, hrun, hended, _, _, rfl, ?_, ⟨_, rfl⟩, hW, hsame.mono (by decide) (by decide)⟩
      · exact retN X564 hx (t := .boolean) Bd.returns (by simp) (hb hby at_73) hr
      · exact ⟨rfl, N564⟩
  · have qs590 := qs
    rw [qs]
    show own_Goes p e below (s₁.setTop (mkF m 12 #[iv i0, iv i1, iv (i0 &&& (2147483647 : Int32)), .unset, .unset, .unset, .unset, .unset] [(.int (5 : Int32))])) _
    refine own_via (fun t k => XS.istoreN X0.here hx rfl (hb hby at_12) rfl (l' := #[iv i0, iv i1, iv (i0 &&& (2147483647 : Int32)), iv (5 : Int32), .unset, .unset, .unset, .unset]) rfl (XS.iloadN X0.here hx rfl (hb hby at_13) rfl k)) ?_
    obtain ⟨_, T591, _, X591, hQ591, st591⟩ := own_cs X0 hx hZ hown (wd hw 1 rfl) (wd hw 2 rfl) (wd hw 4 rfl) (wd hw 3 rfl) (by decide) (rm30 l Z a0 hw [] w73 h0 n0 O0 S_Result_UNRATED_LOSS) e0 (g := (mkF m 14 #[iv i0, iv i1, iv (i0 &&& (2147483647 : Int32)), iv (5 : Int32), .unset, .unset, .unset, .unset] [(.int (5 : Int32))])) rfl (by rw [hml]; rfl) (rest := []) (W := 0) (lenOf pd_1 rfl) rfl (by show 2 * 0 + _ ≤ _; exact Nat.le_of_eq rfl) (hb hby at_14) (by decide) (by decide) (by decide) (by decide)
    obtain ⟨rfl, Nq591, hh600⟩ := hQ591
    have N591 := Fr.app N0 Nq591
    refine own_via (fun t k => st591 t (XS.astore X591.here hx rfl (hb hby at_17) rfl rfl (l' := #[iv i0, iv i1, iv (i0 &&& (2147483647 : Int32)), iv (5 : Int32), rv w73, .unset, .unset, .unset]) rfl k)) ?_
    obtain ⟨T601, X601, e601, st601⟩ := getS2 X591 hx hZ hown (host := "") (Or.inl (wd hw 8 rfl)) Via.refl hh600 (S_RoundEntry_NONE.ext O0.2) (g := (mkF m 19 #[iv i0, iv i1, iv (i0 &&& (2147483647 : Int32)), iv (5 : Int32), rv w73, .unset, .unset, .unset] [])) rfl (hb hby at_19)
    refine own_via (fun t k => st601 t k) ?_
    obtain ⟨_, T602, _, X602, hQ602, st602⟩ := own_cv X601 hx hZ hown (wd hw 11 rfl) (wd hw 12 rfl) (wd hw 14 rfl) (wd hw 13 rfl) (wd hw 15 rfl) (wd hw 9 rfl) (by decide) (rm2 l Z a0 hw [] w57 w59 h0 n0 O0 SF_w57_colour) e601 (SE_w57.ext O0.2) (g := (mkF m 22 #[iv i0, iv i1, iv (i0 &&& (2147483647 : Int32)), iv (5 : Int32), rv w73, .unset, .unset, .unset] [(.ref w57)])) rfl (by rw [hml]; rfl) (rest := []) (W := 0) (lenOf pd_2 rfl) rfl (by show 2 * 0 + _ ≤ _; exact Nat.le_of_eq rfl) (hb hby at_22) (by decide) (by decide) (by decide) (by decide)
    obtain ⟨rfl, Nq602, hh603⟩ := hQ602
    have N602 := Fr.app N591 Nq602
    refine own_via (fun t k => st602 t (XS.astore X602.here hx rfl (hb hby at_25) rfl rfl (l' := #[iv i0, iv i1, iv (i0 &&& (2147483647 : Int32)), iv (5 : Int32), rv w73, rv w59, .unset, .unset]) rfl k)) ?_
    obtain ⟨T604, h604, X604, e604, E604, A604, D604, -, st604⟩ := newO X602 hx hZ hown (wd hw 18 rfl) (wd hw 19 rfl) (wd hw 9 rfl) hh603 (g := (mkF m 27 #[iv i0, iv i1, iv (i0 &&& (2147483647 : Int32)), iv (5 : Int32), rv w73, rv w59, .unset, .unset] [])) rfl (hb hby at_27) (by decide) (by decide)
    obtain ⟨b605, q604⟩ : ∃ z, z = h0.size := ⟨_, rfl⟩
    rw [← q604] at A604 D604 st604
    refine own_via (fun t k => st604 t k) ?_
    have g606 : n0 ≤ b605 := Nat.le_trans (own_old O0) (Nat.le_of_eq q604.symm)
    have B607 : h0.size ≤ b605 := Nat.le_trans (Nat.le_refl _) (Nat.le_of_eq q604.symm)
    have F608 : Fld Z h604 b605 zs1 "colour" zs6 .null := D604 (Or.inr (wd hw 17 rfl)) (ty := (.object zs7)) (by decide)
    have F609 : Fld Z h604 b605 zs1 "opponent" "I" (.int (0 : Int32)) := D604 (Or.inr (wd hw 36 rfl)) (ty := .int) (by decide)
    have F610 : Fld Z h604 b605 zs1 "result" zs3 .null := D604 (Or.inr (wd hw 38 rfl)) (ty := (.object zs2)) (by decide)
    show own_Goes p e below (T604.setTop (mkF m 30 #[iv i0, iv i1, iv (i0 &&& (2147483647 : Int32)), iv (5 : Int32), rv w73, rv w59, .unset, .unset] [(.ref b605)])) _
    refine own_via (fun t k => XS.dup X604.here hx rfl (hb hby at_30) rfl rfl (XS.iloadN X604.here hx rfl (hb hby at_31) rfl (XS.aload X604.here hx rfl (hb hby at_32) rfl rfl (XS.aload X604.here hx rfl (hb hby at_34) rfl rfl k)))) ?_
    show own_Goes p e below (T604.setTop (mkF m 36 #[iv i0, iv i1, iv (i0 &&& (2147483647 : Int32)), iv (5 : Int32), rv w73, rv w59, .unset, .unset] [(.ref w73), (.ref w59), (.int (i0 &&& (2147483647 : Int32))), (.ref b605), (.ref b605)])) _
    have O646 : Old Z n0 h604 := (O0.ext E604)
    obtain ⟨_, T611, _, X611, hQ611, st611⟩ := own_ci X604 hx hZ hown (wd hw 20 rfl) (wd hw 21 rfl) (wd hw 22 rfl) (wd hw 9 rfl) rfl (by decide) (rm32 l Z a0 hw [] b605 (i0 &&& (2147483647 : Int32)) w59 w73 (0 : Int32) h604 n0 O646 (own_nn_mask i0 (2147483647 : Int32) 31 (by decide) (by decide)) F609 A604 g606 F608 F610) e604 (g := (mkF m 36 #[iv i0, iv i1, iv (i0 &&& (2147483647 : Int32)), iv (5 : Int32), rv w73, rv w59, .unset, .unset] [(.ref w73), (.ref w59), (.int (i0 &&& (2147483647 : Int32))), (.ref b605), (.ref b605)])) rfl (by rw [hml]; rfl) (rest := [(.ref b605)]) (W := 1) (lenOf pd_5 rfl) rfl (by show 2 * 0 + _ ≤ _; exact Nat.le_of_eq rfl) (hb hby at_36) (by decide) (by decide) (by decide) (by decide)
    obtain ⟨h611, e611⟩ : ∃ z, T611.heap = z := ⟨_, rfl⟩
    rw [e611] at hQ611
    obtain ⟨rfl, Nq611, K611, ex647, fx648, fx649, fx650⟩ := hQ611
    have N611 := Fr.app N602 Nq611
    refine own_via (fun t k => st611 t (XS.astore X611.here hx rfl (hb hby at_39) rfl rfl (l' := #[iv i0, iv i1, iv (i0 &&& (2147483647 : Int32)), iv (5 : Int32), rv w73, rv w59, rv b605, .unset]) rfl (XS.iloadN X611.here hx rfl (hb hby at_41) rfl k))) ?_
    show own_Goes p e below (T611.setTop (mkF m 42 #[iv i0, iv i1, iv (i0 &&& (2147483647 : Int32)), iv (5 : Int32), rv w73, rv w59, rv b605, .unset] [(.int (i0 &&& (2147483647 : Int32)))])) _
    by_cases hc651 : (i0 &&& (2147483647 : Int32)) = (0 : Int32)
    · refine own_via (fun t k => XS.ifYes X611.here hx rfl (pc0 := 42) (pc' := 55) rfl (hb hby at_42) rfl ((if0 _ _).trans (teq hc651).1) (by decide) (by decide) (XS.iconst X611.here hx rfl (hb hby at_55) (XS.istore X611.here hx rfl (hb hby at_56) rfl (l' := #[iv i0, iv i1, iv (i0 &&& (2147483647 : Int32)), iv (5 : Int32), rv w73, rv w59, rv b605, iv (0 : Int32)]) rfl (XS.aload X611.here hx rfl (hb hby at_58) rfl rfl k)))) ?_
      show own_Goes p e below (T611.setTop (mkF m 60 #[iv i0, iv i1, iv (i0 &&& (2147483647 : Int32)), iv (5 : Int32), rv w73, rv w59, rv b605, iv (0 : Int32)] [(.ref b605)])) _
      have O653 : Old Z n0 h611 := (O646.keep K611 (allS g606 all0))
      obtain ⟨_, T652, _, X652, hQ652, st652⟩ := own_cv X611 hx hZ hown (wd hw 39 rfl) (wd hw 40 rfl) (wd hw 42 rfl) (wd hw 41 rfl) (wd hw 43 rfl) (wd hw 9 rfl) (by decide) (rm7 l Z a0 hw [] b605 (i0 &&& (2147483647 : Int32)) h611 n0 O653 fx649 hc651) e611 ex647 (g := (mkF m 60 #[iv i0, iv i1, iv (i0 &&& (2147483647 : Int32)), iv (5 : Int32), rv w73, rv w59, rv b605, iv (0 : Int32)] [(.ref b605)])) rfl (by rw [hml]; rfl) (rest := []) (W := 0) (lenOf pd_6 rfl) rfl (by show 2 * 0 + _ ≤ _; exact Nat.le_of_eq rfl) (hb hby at_60) (by decide) (by decide) (by decide) (by decide)
      obtain ⟨rfl, Nq652, hh654⟩ := hQ652
      have N652 := Fr.app N611 Nq652
      refine own_via (fun t k => st652 t (XS.iload X652.here hx rfl (hb hby at_63) rfl (XS.icmpNo X652.here hx rfl (hb hby at_65) rfl (teq (by decide : (0 : Int32) = (0 : Int32))).2 (XS.iconst X652.here hx rfl (hb hby at_68) (XS.goto X652.here hx rfl (pc0 := 69) (pc' := 73) rfl (hb hby at_69) (by decide) (by decide) k))))) ?_
      show own_Goes p e below (T652.setTop (mkF m 73 #[iv i0, iv i1, iv (i0 &&& (2147483647 : Int32)), iv (5 : Int32), rv w73, rv w59, rv b605, iv (0 : Int32)] [(.int (1 : Int32))])) _
      obtain ⟨fs, hr, hrun, hended, hW, hsame⟩ := X652.leave (v := some (.int (1 : Int32))) (fun h => by rw [Bd.returns] at h; cases h)
      refine own_end (t := T652.setFrames fs) ?_ ⟨_, hrun, hended, _, _, rfl, ?_, ⟨_, rfl⟩, hW, hsame.mono (by decide) (by decide)⟩
      · exact retN X652 hx (t := .boolean) Bd.returns (by simp) (hb hby at_73) hr
      · exact ⟨rfl, N652⟩
    · refine own_via (fun t k => XS.ifNo X611.here hx rfl (hb hby at_42) rfl ((if0 _ _).trans (feq hc651).1) (XS.iloadN X611.here hx rfl (hb hby at_45) rfl (XS.bipush X611.here hx rfl (hb hby at_46) (XS.icmpNo X611.here hx rfl (hb hby at_48) rfl (tlt (by decide : (5 : Int32) < (6 : Int32))).2.1 (XS.iconst X611.here hx rfl (hb hby at_51) (XS.goto X611.here hx rfl (pc0 := 52) (pc' := 56) rfl (hb hby at_52) (by decide) (by decide) (XS.istore X611.here hx rfl (hb hby at_56) rfl (l' := #[iv i0, iv i1, iv (i0 &&& (2147483647 : Int32)), iv (5 : Int32), rv w73, rv w59, rv b605, iv (1 : Int32)]) rfl (XS.aload X611.here hx rfl (hb hby at_58) rfl rfl k)))))))) ?_
      show own_Goes p e below (T611.setTop (mkF m 60 #[iv i0, iv i1, iv (i0 &&& (2147483647 : Int32)), iv (5 : Int32), rv w73, rv w59, rv b605, iv (1 : Int32)] [(.ref b605)])) _
      have O679 : Old Z n0 h611 := (O646.keep K611 (allS g606 all0))
      obtain ⟨_, T655, _, X655, hQ655, st655⟩ := own_cv X611 hx hZ hown (wd hw 39 rfl) (wd hw 40 rfl) (wd hw 42 rfl) (wd hw 41 rfl) (wd hw 43 rfl) (wd hw 9 rfl) (by decide) (rm34 l Z a0 hw [] b605 (i0 &&& (2147483647 : Int32)) w73 h611 n0 O679 fx649 hc651 fx650 SF_w73_game SE_w73) e611 ex647 (g := (mkF m 60 #[iv i0, iv i1, iv (i0 &&& (2147483647 : Int32)), iv (5 : Int32), rv w73, rv w59, rv b605, iv (1 : Int32)] [(.ref b605)])) rfl (by rw [hml]; rfl) (rest := []) (W := 0) (lenOf pd_6 rfl) rfl (by show 2 * 0 + _ ≤ _; exact Nat.le_of_eq rfl) (hb hby at_60) (by decide) (by decide) (by decide) (by decide)
      obtain ⟨rfl, Nq655, hh680⟩ := hQ655
      have N655 := Fr.app N611 Nq655
      refine own_via (fun t k => st655 t (XS.iload X655.here hx rfl (hb hby at_63) rfl (XS.icmpNo X655.here hx rfl (hb hby at_65) rfl (teq (by decide : (1 : Int32) = (1 : Int32))).2 (XS.iconst X655.here hx rfl (hb hby at_68) (XS.goto X655.here hx rfl (pc0 := 69) (pc' := 73) rfl (hb hby at_69) (by decide) (by decide) k))))) ?_
      show own_Goes p e below (T655.setTop (mkF m 73 #[iv i0, iv i1, iv (i0 &&& (2147483647 : Int32)), iv (5 : Int32), rv w73, rv w59, rv b605, iv (1 : Int32)] [(.int (1 : Int32))])) _
      obtain ⟨fs, hr, hrun, hended, hW, hsame⟩ := X655.leave (v := some (.int (1 : Int32))) (fun h => by rw [Bd.returns] at h; cases h)
      refine own_end (t := T655.setFrames fs) ?_ ⟨_, hrun, hended, _, _, rfl, ?_, ⟨_, rfl⟩, hW, hsame.mono (by decide) (by decide)⟩
      · exact retN X655 hx (t := .boolean) Bd.returns (by simp) (hb hby at_73) hr
      · exact ⟨rfl, N655⟩
  · have qs681 := qs
    rw [qs]
    show own_Goes p e below (s₁.setTop (mkF m 12 #[iv i0, iv i1, iv (i0 &&& (2147483647 : Int32)), .unset, .unset, .unset, .unset, .unset] [(.int (6 : Int32))])) _
    refine own_via (fun t k => XS.istoreN X0.here hx rfl (hb hby at_12) rfl (l' := #[iv i0, iv i1, iv (i0 &&& (2147483647 : Int32)), iv (6 : Int32), .unset, .unset, .unset, .unset]) rfl (XS.iloadN X0.here hx rfl (hb hby at_13) rfl k)) ?_
    obtain ⟨_, T682, _, X682, hQ682, st682⟩ := own_cs X0 hx hZ hown (wd hw 1 rfl) (wd hw 2 rfl) (wd hw 4 rfl) (wd hw 3 rfl) (by decide) (rm35 l Z a0 hw [] w79 h0 n0 O0 S_Result_FORFEIT_WIN) e0 (g := (mkF m 14 #[iv i0, iv i1, iv (i0 &&& (2147483647 : Int32)), iv (6 : Int32), .unset, .unset, .unset, .unset] [(.int (6 : Int32))])) rfl (by rw [hml]; rfl) (rest := []) (W := 0) (lenOf pd_1 rfl) rfl (by show 2 * 0 + _ ≤ _; exact Nat.le_of_eq rfl) (hb hby at_14) (by decide) (by decide) (by decide) (by decide)
    obtain ⟨rfl, Nq682, hh691⟩ := hQ682
    have N682 := Fr.app N0 Nq682
    refine own_via (fun t k => st682 t (XS.astore X682.here hx rfl (hb hby at_17) rfl rfl (l' := #[iv i0, iv i1, iv (i0 &&& (2147483647 : Int32)), iv (6 : Int32), rv w79, .unset, .unset, .unset]) rfl k)) ?_
    obtain ⟨T692, X692, e692, st692⟩ := getS2 X682 hx hZ hown (host := "") (Or.inl (wd hw 8 rfl)) Via.refl hh691 (S_RoundEntry_NONE.ext O0.2) (g := (mkF m 19 #[iv i0, iv i1, iv (i0 &&& (2147483647 : Int32)), iv (6 : Int32), rv w79, .unset, .unset, .unset] [])) rfl (hb hby at_19)
    refine own_via (fun t k => st692 t k) ?_
    obtain ⟨_, T693, _, X693, hQ693, st693⟩ := own_cv X692 hx hZ hown (wd hw 11 rfl) (wd hw 12 rfl) (wd hw 14 rfl) (wd hw 13 rfl) (wd hw 15 rfl) (wd hw 9 rfl) (by decide) (rm2 l Z a0 hw [] w57 w59 h0 n0 O0 SF_w57_colour) e692 (SE_w57.ext O0.2) (g := (mkF m 22 #[iv i0, iv i1, iv (i0 &&& (2147483647 : Int32)), iv (6 : Int32), rv w79, .unset, .unset, .unset] [(.ref w57)])) rfl (by rw [hml]; rfl) (rest := []) (W := 0) (lenOf pd_2 rfl) rfl (by show 2 * 0 + _ ≤ _; exact Nat.le_of_eq rfl) (hb hby at_22) (by decide) (by decide) (by decide) (by decide)
    obtain ⟨rfl, Nq693, hh694⟩ := hQ693
    have N693 := Fr.app N682 Nq693
    refine own_via (fun t k => st693 t (XS.astore X693.here hx rfl (hb hby at_25) rfl rfl (l' := #[iv i0, iv i1, iv (i0 &&& (2147483647 : Int32)), iv (6 : Int32), rv w79, rv w59, .unset, .unset]) rfl k)) ?_
    obtain ⟨T695, h695, X695, e695, E695, A695, D695, -, st695⟩ := newO X693 hx hZ hown (wd hw 18 rfl) (wd hw 19 rfl) (wd hw 9 rfl) hh694 (g := (mkF m 27 #[iv i0, iv i1, iv (i0 &&& (2147483647 : Int32)), iv (6 : Int32), rv w79, rv w59, .unset, .unset] [])) rfl (hb hby at_27) (by decide) (by decide)
    obtain ⟨b696, q695⟩ : ∃ z, z = h0.size := ⟨_, rfl⟩
    rw [← q695] at A695 D695 st695
    refine own_via (fun t k => st695 t k) ?_
    have g697 : n0 ≤ b696 := Nat.le_trans (own_old O0) (Nat.le_of_eq q695.symm)
    have B698 : h0.size ≤ b696 := Nat.le_trans (Nat.le_refl _) (Nat.le_of_eq q695.symm)
    have F699 : Fld Z h695 b696 zs1 "colour" zs6 .null := D695 (Or.inr (wd hw 17 rfl)) (ty := (.object zs7)) (by decide)
    have F700 : Fld Z h695 b696 zs1 "opponent" "I" (.int (0 : Int32)) := D695 (Or.inr (wd hw 36 rfl)) (ty := .int) (by decide)
    have F701 : Fld Z h695 b696 zs1 "result" zs3 .null := D695 (Or.inr (wd hw 38 rfl)) (ty := (.object zs2)) (by decide)
    show own_Goes p e below (T695.setTop (mkF m 30 #[iv i0, iv i1, iv (i0 &&& (2147483647 : Int32)), iv (6 : Int32), rv w79, rv w59, .unset, .unset] [(.ref b696)])) _
    refine own_via (fun t k => XS.dup X695.here hx rfl (hb hby at_30) rfl rfl (XS.iloadN X695.here hx rfl (hb hby at_31) rfl (XS.aload X695.here hx rfl (hb hby at_32) rfl rfl (XS.aload X695.here hx rfl (hb hby at_34) rfl rfl k)))) ?_
    show own_Goes p e below (T695.setTop (mkF m 36 #[iv i0, iv i1, iv (i0 &&& (2147483647 : Int32)), iv (6 : Int32), rv w79, rv w59, .unset, .unset] [(.ref w79), (.ref w59), (.int (i0 &&& (2147483647 : Int32))), (.ref b696), (.ref b696)])) _
    have O737 : Old Z n0 h695 := (O0.ext E695)
    obtain ⟨_, T702, _, X702, hQ702, st702⟩ := own_ci X695 hx hZ hown (wd hw 20 rfl) (wd hw 21 rfl) (wd hw 22 rfl) (wd hw 9 rfl) rfl (by decide) (rm37 l Z a0 hw [] b696 (i0 &&& (2147483647 : Int32)) w59 w79 (0 : Int32) h695 n0 O737 (own_nn_mask i0 (2147483647 : Int32) 31 (by decide) (by decide)) F700 A695 g697 F699 F701) e695 (g := (mkF m 36 #[iv i0, iv i1, iv (i0 &&& (2147483647 : Int32)), iv (6 : Int32), rv w79, rv w59, .unset, .unset] [(.ref w79), (.ref w59), (.int (i0 &&& (2147483647 : Int32))), (.ref b696), (.ref b696)])) rfl (by rw [hml]; rfl) (rest := [(.ref b696)]) (W := 1) (lenOf pd_5 rfl) rfl (by show 2 * 0 + _ ≤ _; exact Nat.le_of_eq rfl) (hb hby at_36) (by decide) (by decide) (by decide) (by decide)
    obtain ⟨h702, e702⟩ : ∃ z, T702.heap = z := ⟨_, rfl⟩
    rw [e702] at hQ702
    obtain ⟨rfl, Nq702, K702, ex738, fx739, fx740, fx741⟩ := hQ702
    have N702 := Fr.app N693 Nq702
    refine own_via (fun t k => st702 t (XS.astore X702.here hx rfl (hb hby at_39) rfl rfl (l' := #[iv i0, iv i1, iv (i0 &&& (2147483647 : Int32)), iv (6 : Int32), rv w79, rv w59, rv b696, .unset]) rfl (XS.iloadN X702.here hx rfl (hb hby at_41) rfl k))) ?_
    show own_Goes p e below (T702.setTop (mkF m 42 #[iv i0, iv i1, iv (i0 &&& (2147483647 : Int32)), iv (6 : Int32), rv w79, rv w59, rv b696, .unset] [(.int (i0 &&& (2147483647 : Int32)))])) _
    by_cases hc742 : (i0 &&& (2147483647 : Int32)) = (0 : Int32)
    · refine own_via (fun t k => XS.ifYes X702.here hx rfl (pc0 := 42) (pc' := 55) rfl (hb hby at_42) rfl ((if0 _ _).trans (teq hc742).1) (by decide) (by decide) (XS.iconst X702.here hx rfl (hb hby at_55) (XS.istore X702.here hx rfl (hb hby at_56) rfl (l' := #[iv i0, iv i1, iv (i0 &&& (2147483647 : Int32)), iv (6 : Int32), rv w79, rv w59, rv b696, iv (0 : Int32)]) rfl (XS.aload X702.here hx rfl (hb hby at_58) rfl rfl k)))) ?_
      show own_Goes p e below (T702.setTop (mkF m 60 #[iv i0, iv i1, iv (i0 &&& (2147483647 : Int32)), iv (6 : Int32), rv w79, rv w59, rv b696, iv (0 : Int32)] [(.ref b696)])) _
      have O744 : Old Z n0 h702 := (O737.keep K702 (allS g697 all0))
      obtain ⟨_, T743, _, X743, hQ743, st743⟩ := own_cv X702 hx hZ hown (wd hw 39 rfl) (wd hw 40 rfl) (wd hw 42 rfl) (wd hw 41 rfl) (wd hw 43 rfl) (wd hw 9 rfl) (by decide) (rm7 l Z a0 hw [] b696 (i0 &&& (2147483647 : Int32)) h702 n0 O744 fx740 hc742) e702 ex738 (g := (mkF m 60 #[iv i0, iv i1, iv (i0 &&& (2147483647 : Int32)), iv (6 : Int32), rv w79, rv w59, rv b696, iv (0 : Int32)] [(.ref b696)])) rfl (by rw [hml]; rfl) (rest := []) (W := 0) (lenOf pd_6 rfl) rfl (by show 2 * 0 + _ ≤ _; exact Nat.le_of_eq rfl) (hb hby at_60) (by decide) (by decide) (by decide) (by decide)
      obtain ⟨rfl, Nq743, hh745⟩ := hQ743
      have N743 := Fr.app N702 Nq743
      refine own_via (fun t k => st743 t (XS.iload X743.here hx rfl (hb hby at_63) rfl (XS.icmpNo X743.here hx rfl (hb hby at_65) rfl (teq (by decide : (0 : Int32) = (0 : Int32))).2 (XS.iconst X743.here hx rfl (hb hby at_68) (XS.goto X743.here hx rfl (pc0 := 69) (pc' := 73) rfl (hb hby at_69) (by decide) (by decide) k))))) ?_
      show own_Goes p e below (T743.setTop (mkF m 73 #[iv i0, iv i1, iv (i0 &&& (2147483647 : Int32)), iv (6 : Int32), rv w79, rv w59, rv b696, iv (0 : Int32)] [(.int (1 : Int32))])) _
      obtain ⟨fs, hr, hrun, hended, hW, hsame⟩ := X743.leave (v := some (.int (1 : Int32))) (fun h => by rw [Bd.returns] at h; cases h)
      refine own_end (t := T743.setFrames fs) ?_ ⟨_, hrun, hended, _, _, rfl, ?_, ⟨_, rfl⟩, hW, hsame.mono (by decide) (by decide)⟩
      · exact retN X743 hx (t := .boolean) Bd.returns (by simp) (hb hby at_73) hr
      · exact ⟨rfl, N743⟩
    · refine own_via (fun t k => XS.ifNo X702.here hx rfl (hb hby at_42) rfl ((if0 _ _).trans (feq hc742).1) (XS.iloadN X702.here hx rfl (hb hby at_45) rfl (XS.bipush X702.here hx rfl (hb hby at_46) (XS.icmpYes X702.here hx rfl (pc0 := 48) (pc' := 55) rfl (hb hby at_48) rfl (flt (by decide : ¬ ((6 : Int32) < (6 : Int32)))).2.1 (by decide) (by decide) (XS.iconst X702.here hx rfl (hb hby at_55) (XS.istore X702.here hx rfl (hb hby at_56) rfl (l' := #[iv i0, iv i1, iv (i0 &&& (2147483647 : Int32)), iv (6 : Int32), rv w79, rv w59, rv b696, iv (0 : Int32)]) rfl (XS.aload X702.here hx rfl (hb hby at_58) rfl rfl k))))))) ?_
      show own_Goes p e below (T702.setTop (mkF m 60 #[iv i0, iv i1, iv (i0 &&& (2147483647 : Int32)), iv (6 : Int32), rv w79, rv w59, rv b696, iv (0 : Int32)] [(.ref b696)])) _
      have O770 : Old Z n0 h702 := (O737.keep K702 (allS g697 all0))
      obtain ⟨_, T746, _, X746, hQ746, st746⟩ := own_cv X702 hx hZ hown (wd hw 39 rfl) (wd hw 40 rfl) (wd hw 42 rfl) (wd hw 41 rfl) (wd hw 43 rfl) (wd hw 9 rfl) (by decide) (rm39 l Z a0 hw [] b696 (i0 &&& (2147483647 : Int32)) w79 h702 n0 O770 fx740 hc742 fx741 SF_w79_game SE_w79) e702 ex738 (g := (mkF m 60 #[iv i0, iv i1, iv (i0 &&& (2147483647 : Int32)), iv (6 : Int32), rv w79, rv w59, rv b696, iv (0 : Int32)] [(.ref b696)])) rfl (by rw [hml]; rfl) (rest := []) (W := 0) (lenOf pd_6 rfl) rfl (by show 2 * 0 + _ ≤ _; exact Nat.le_of_eq rfl) (hb hby at_60) (by decide) (by decide) (by decide) (by decide)
      obtain ⟨rfl, Nq746, hh771⟩ := hQ746
      have N746 := Fr.app N702 Nq746
      refine own_via (fun t k => st746 t (XS.iload X746.here hx rfl (hb hby at_63) rfl (XS.icmpNo X746.here hx rfl (hb hby at_65) rfl (teq (by decide : (0 : Int32) = (0 : Int32))).2 (XS.iconst X746.here hx rfl (hb hby at_68) (XS.goto X746.here hx rfl (pc0 := 69) (pc' := 73) rfl (hb hby at_69) (by decide) (by decide) k))))) ?_
      show own_Goes p e below (T746.setTop (mkF m 73 #[iv i0, iv i1, iv (i0 &&& (2147483647 : Int32)), iv (6 : Int32), rv w79, rv w59, rv b696, iv (0 : Int32)] [(.int (1 : Int32))])) _
      obtain ⟨fs, hr, hrun, hended, hW, hsame⟩ := X746.leave (v := some (.int (1 : Int32))) (fun h => by rw [Bd.returns] at h; cases h)
      refine own_end (t := T746.setFrames fs) ?_ ⟨_, hrun, hended, _, _, rfl, ?_, ⟨_, rfl⟩, hW, hsame.mono (by decide) (by decide)⟩
      · exact retN X746 hx (t := .boolean) Bd.returns (by simp) (hb hby at_73) hr
      · exact ⟨rfl, N746⟩
  · have qs772 := qs
    rw [qs]
    show own_Goes p e below (s₁.setTop (mkF m 12 #[iv i0, iv i1, iv (i0 &&& (2147483647 : Int32)), .unset, .unset, .unset, .unset, .unset] [(.int (7 : Int32))])) _
    refine own_via (fun t k => XS.istoreN X0.here hx rfl (hb hby at_12) rfl (l' := #[iv i0, iv i1, iv (i0 &&& (2147483647 : Int32)), iv (7 : Int32), .unset, .unset, .unset, .unset]) rfl (XS.iloadN X0.here hx rfl (hb hby at_13) rfl k)) ?_
    obtain ⟨_, T773, _, X773, hQ773, st773⟩ := own_cs X0 hx hZ hown (wd hw 1 rfl) (wd hw 2 rfl) (wd hw 4 rfl) (wd hw 3 rfl) (by decide) (rm40 l Z a0 hw [] w85 h0 n0 O0 S_Result_FORFEIT_LOSS) e0 (g := (mkF m 14 #[iv i0, iv i1, iv (i0 &&& (2147483647 : Int32)), iv (7 : Int32), .unset, .unset, .unset, .unset] [(.int (7 : Int32))])) rfl (by rw [hml]; rfl) (rest := []) (W := 0) (lenOf pd_1 rfl) rfl (by show 2 * 0 + _ ≤ _; exact Nat.le_of_eq rfl) (hb hby at_14) (by decide) (by decide) (by decide) (by decide)
    obtain ⟨rfl, Nq773, hh782⟩ := hQ773
    have N773 := Fr.app N0 Nq773
    refine own_via (fun t k => st773 t (XS.astore X773.here hx rfl (hb hby at_17) rfl rfl (l' := #[iv i0, iv i1, iv (i0 &&& (2147483647 : Int32)), iv (7 : Int32), rv w85, .unset, .unset, .unset]) rfl k)) ?_
    obtain ⟨T783, X783, e783, st783⟩ := getS2 X773 hx hZ hown (host := "") (Or.inl (wd hw 8 rfl)) Via.refl hh782 (S_RoundEntry_NONE.ext O0.2) (g := (mkF m 19 #[iv i0, iv i1, iv (i0 &&& (2147483647 : Int32)), iv (7 : Int32), rv w85, .unset, .unset, .unset] [])) rfl (hb hby at_19)
    refine own_via (fun t k => st783 t k) ?_
    obtain ⟨_, T784, _, X784, hQ784, st784⟩ := own_cv X783 hx hZ hown (wd hw 11 rfl) (wd hw 12 rfl) (wd hw 14 rfl) (wd hw 13 rfl) (wd hw 15 rfl) (wd hw 9 rfl) (by decide) (rm2 l Z a0 hw [] w57 w59 h0 n0 O0 SF_w57_colour) e783 (SE_w57.ext O0.2) (g := (mkF m 22 #[iv i0, iv i1, iv (i0 &&& (2147483647 : Int32)), iv (7 : Int32), rv w85, .unset, .unset, .unset] [(.ref w57)])) rfl (by rw [hml]; rfl) (rest := []) (W := 0) (lenOf pd_2 rfl) rfl (by show 2 * 0 + _ ≤ _; exact Nat.le_of_eq rfl) (hb hby at_22) (by decide) (by decide) (by decide) (by decide)
    obtain ⟨rfl, Nq784, hh785⟩ := hQ784
    have N784 := Fr.app N773 Nq784
    refine own_via (fun t k => st784 t (XS.astore X784.here hx rfl (hb hby at_25) rfl rfl (l' := #[iv i0, iv i1, iv (i0 &&& (2147483647 : Int32)), iv (7 : Int32), rv w85, rv w59, .unset, .unset]) rfl k)) ?_
    obtain ⟨T786, h786, X786, e786, E786, A786, D786, -, st786⟩ := newO X784 hx hZ hown (wd hw 18 rfl) (wd hw 19 rfl) (wd hw 9 rfl) hh785 (g := (mkF m 27 #[iv i0, iv i1, iv (i0 &&& (2147483647 : Int32)), iv (7 : Int32), rv w85, rv w59, .unset, .unset] [])) rfl (hb hby at_27) (by decide) (by decide)
    obtain ⟨b787, q786⟩ : ∃ z, z = h0.size := ⟨_, rfl⟩
    rw [← q786] at A786 D786 st786
    refine own_via (fun t k => st786 t k) ?_
    have g788 : n0 ≤ b787 := Nat.le_trans (own_old O0) (Nat.le_of_eq q786.symm)
    have B789 : h0.size ≤ b787 := Nat.le_trans (Nat.le_refl _) (Nat.le_of_eq q786.symm)
    have F790 : Fld Z h786 b787 zs1 "colour" zs6 .null := D786 (Or.inr (wd hw 17 rfl)) (ty := (.object zs7)) (by decide)
    have F791 : Fld Z h786 b787 zs1 "opponent" "I" (.int (0 : Int32)) := D786 (Or.inr (wd hw 36 rfl)) (ty := .int) (by decide)
    have F792 : Fld Z h786 b787 zs1 "result" zs3 .null := D786 (Or.inr (wd hw 38 rfl)) (ty := (.object zs2)) (by decide)
    show own_Goes p e below (T786.setTop (mkF m 30 #[iv i0, iv i1, iv (i0 &&& (2147483647 : Int32)), iv (7 : Int32), rv w85, rv w59, .unset, .unset] [(.ref b787)])) _
    refine own_via (fun t k => XS.dup X786.here hx rfl (hb hby at_30) rfl rfl (XS.iloadN X786.here hx rfl (hb hby at_31) rfl (XS.aload X786.here hx rfl (hb hby at_32) rfl rfl (XS.aload X786.here hx rfl (hb hby at_34) rfl rfl k)))) ?_
    show own_Goes p e below (T786.setTop (mkF m 36 #[iv i0, iv i1, iv (i0 &&& (2147483647 : Int32)), iv (7 : Int32), rv w85, rv w59, .unset, .unset] [(.ref w85), (.ref w59), (.int (i0 &&& (2147483647 : Int32))), (.ref b787), (.ref b787)])) _
    have O828 : Old Z n0 h786 := (O0.ext E786)
    obtain ⟨_, T793, _, X793, hQ793, st793⟩ := own_ci X786 hx hZ hown (wd hw 20 rfl) (wd hw 21 rfl) (wd hw 22 rfl) (wd hw 9 rfl) rfl (by decide) (rm42 l Z a0 hw [] b787 (i0 &&& (2147483647 : Int32)) w59 w85 (0 : Int32) h786 n0 O828 (own_nn_mask i0 (2147483647 : Int32) 31 (by decide) (by decide)) F791 A786 g788 F790 F792) e786 (g := (mkF m 36 #[iv i0, iv i1, iv (i0 &&& (2147483647 : Int32)), iv (7 : Int32), rv w85, rv w59, .unset, .unset] [(.ref w85), (.ref w59), (.int (i0 &&& (2147483647 : Int32))), (.ref b787), (.ref b787)])) rfl (by rw [hml]; rfl) (rest := [(.ref b787)]) (W := 1) (lenOf pd_5 rfl) rfl (by show 2 * 0 + _ ≤ _; exact Nat.le_of_eq rfl) (hb hby at_36) (by decide) (by decide) (by decide) (by decide)
    obtain ⟨h793, e793⟩ : ∃ z, T793.heap = z := ⟨_, rfl⟩
    rw [e793] at hQ793
    obtain ⟨rfl, Nq793, K793, ex829, fx830, fx831, fx832⟩ := hQ793
    have N793 := Fr.app N784 Nq793
    refine own_via (fun t k => st793 t (XS.astore X793.here hx rfl (hb hby at_39) rfl rfl (l' := #[iv i0, iv i1, iv (i0 &&& (2147483647 : Int32)), iv (7 : Int32), rv w85, rv w59, rv b787, .unset]) rfl (XS.iloadN X793.here hx rfl (hb hby at_41) rfl k))) ?_
    show own_Goes p e below (T793.setTop (mkF m 42 #[iv i0, iv i1, iv (i0 &&& (2147483647 : Int32)), iv (7 : Int32), rv w85, rv w59, rv b787, .unset] [(.int (i0 &&& (2147483647 : Int32)))])) _
    by_cases hc833 : (i0 &&& (2147483647 : Int32)) = (0 : Int32)
    · refine own_via (fun t k => XS.ifYes X793.here hx rfl (pc0 := 42) (pc' := 55) rfl (hb hby at_42) rfl ((if0 _ _).trans (teq hc833).1) (by decide) (by decide) (XS.iconst X793.here hx rfl (hb hby at_55) (XS.istore X793.here hx rfl (hb hby at_56) rfl (l' := #[iv i0, iv i1, iv (i0 &&& (2147483647 : Int32)), iv (7 : Int32), rv w85, rv w59, rv b787, iv (0 : Int32)]) rfl (XS.aload X793.here hx rfl (hb hby at_58) rfl rfl k)))) ?_
      show own_Goes p e below (T793.setTop (mkF m 60 #[iv i0, iv i1, iv (i0 &&& (2147483647 : Int32)), iv (7 : Int32), rv w85, rv w59, rv b787, iv (0 : Int32)] [(.ref b787)])) _
      have O835 : Old Z n0 h793 := (O828.keep K793 (allS g788 all0))
      obtain ⟨_, T834, _, X834, hQ834, st834⟩ := own_cv X793 hx hZ hown (wd hw 39 rfl) (wd hw 40 rfl) (wd hw 42 rfl) (wd hw 41 rfl) (wd hw 43 rfl) (wd hw 9 rfl) (by decide) (rm7 l Z a0 hw [] b787 (i0 &&& (2147483647 : Int32)) h793 n0 O835 fx831 hc833) e793 ex829 (g := (mkF m 60 #[iv i0, iv i1, iv (i0 &&& (2147483647 : Int32)), iv (7 : Int32), rv w85, rv w59, rv b787, iv (0 : Int32)] [(.ref b787)])) rfl (by rw [hml]; rfl) (rest := []) (W := 0) (lenOf pd_6 rfl) rfl (by show 2 * 0 + _ ≤ _; exact Nat.le_of_eq rfl) (hb hby at_60) (by decide) (by decide) (by decide) (by decide)
      obtain ⟨rfl, Nq834, hh836⟩ := hQ834
      have N834 := Fr.app N793 Nq834
      refine own_via (fun t k => st834 t (XS.iload X834.here hx rfl (hb hby at_63) rfl (XS.icmpNo X834.here hx rfl (hb hby at_65) rfl (teq (by decide : (0 : Int32) = (0 : Int32))).2 (XS.iconst X834.here hx rfl (hb hby at_68) (XS.goto X834.here hx rfl (pc0 := 69) (pc' := 73) rfl (hb hby at_69) (by decide) (by decide) k))))) ?_
      show own_Goes p e below (T834.setTop (mkF m 73 #[iv i0, iv i1, iv (i0 &&& (2147483647 : Int32)), iv (7 : Int32), rv w85, rv w59, rv b787, iv (0 : Int32)] [(.int (1 : Int32))])) _
      obtain ⟨fs, hr, hrun, hended, hW, hsame⟩ := X834.leave (v := some (.int (1 : Int32))) (fun h => by rw [Bd.returns] at h; cases h)
      refine own_end (t := T834.setFrames fs) ?_ ⟨_, hrun, hended, _, _, rfl, ?_, ⟨_, rfl⟩, hW, hsame.mono (by decide) (by decide)⟩
      · exact retN X834 hx (t := .boolean) Bd.returns (by simp) (hb hby at_73) hr
      · exact ⟨rfl, N834⟩
    · refine own_via (fun t k => XS.ifNo X793.here hx rfl (hb hby at_42) rfl ((if0 _ _).trans (feq hc833).1) (XS.iloadN X793.here hx rfl (hb hby at_45) rfl (XS.bipush X793.here hx rfl (hb hby at_46) (XS.icmpYes X793.here hx rfl (pc0 := 48) (pc' := 55) rfl (hb hby at_48) rfl (flt (by decide : ¬ ((7 : Int32) < (6 : Int32)))).2.1 (by decide) (by decide) (XS.iconst X793.here hx rfl (hb hby at_55) (XS.istore X793.here hx rfl (hb hby at_56) rfl (l' := #[iv i0, iv i1, iv (i0 &&& (2147483647 : Int32)), iv (7 : Int32), rv w85, rv w59, rv b787, iv (0 : Int32)]) rfl (XS.aload X793.here hx rfl (hb hby at_58) rfl rfl k))))))) ?_
      show own_Goes p e below (T793.setTop (mkF m 60 #[iv i0, iv i1, iv (i0 &&& (2147483647 : Int32)), iv (7 : Int32), rv w85, rv w59, rv b787, iv (0 : Int32)] [(.ref b787)])) _
      have O861 : Old Z n0 h793 := (O828.keep K793 (allS g788 all0))
      obtain ⟨_, T837, _, X837, hQ837, st837⟩ := own_cv X793 hx hZ hown (wd hw 39 rfl) (wd hw 40 rfl) (wd hw 42 rfl) (wd hw 41 rfl) (wd hw 43 rfl) (wd hw 9 rfl) (by decide) (rm44 l Z a0 hw [] b787 (i0 &&& (2147483647 : Int32)) w85 h793 n0 O861 fx831 hc833 fx832 SF_w85_game SE_w85) e793 ex829 (g := (mkF m 60 #[iv i0, iv i1, iv (i0 &&& (2147483647 : Int32)), iv (7 : Int32), rv w85, rv w59, rv b787, iv (0 : Int32)] [(.ref b787)])) rfl (by rw [hml]; rfl) (rest := []) (W := 0) (lenOf pd_6 rfl) rfl (by show 2 * 0 + _ ≤ _; exact Nat.le_of_eq rfl) (hb hby at_60) (by decide) (by decide) (by decide) (by decide)
      obtain ⟨rfl, Nq837, hh862⟩ := hQ837
      have N837 := Fr.app N793 Nq837
      refine own_via (fun t k => st837 t (XS.iload X837.here hx rfl (hb hby at_63) rfl (XS.icmpNo X837.here hx rfl (hb hby at_65) rfl (teq (by decide : (0 : Int32) = (0 : Int32))).2 (XS.iconst X837.here hx rfl (hb hby at_68) (XS.goto X837.here hx rfl (pc0 := 69) (pc' := 73) rfl (hb hby at_69) (by decide) (by decide) k))))) ?_
      show own_Goes p e below (T837.setTop (mkF m 73 #[iv i0, iv i1, iv (i0 &&& (2147483647 : Int32)), iv (7 : Int32), rv w85, rv w59, rv b787, iv (0 : Int32)] [(.int (1 : Int32))])) _
      obtain ⟨fs, hr, hrun, hended, hW, hsame⟩ := X837.leave (v := some (.int (1 : Int32))) (fun h => by rw [Bd.returns] at h; cases h)
      refine own_end (t := T837.setFrames fs) ?_ ⟨_, hrun, hended, _, _, rfl, ?_, ⟨_, rfl⟩, hW, hsame.mono (by decide) (by decide)⟩
      · exact retN X837 hx (t := .boolean) Bd.returns (by simp) (hb hby at_73) hr
      · exact ⟨rfl, N837⟩
  · have qs863 := qs
    rw [qs]
    show own_Goes p e below (s₁.setTop (mkF m 12 #[iv i0, iv i1, iv (i0 &&& (2147483647 : Int32)), .unset, .unset, .unset, .unset, .unset] [(.int (8 : Int32))])) _
    refine own_via (fun t k => XS.istoreN X0.here hx rfl (hb hby at_12) rfl (l' := #[iv i0, iv i1, iv (i0 &&& (2147483647 : Int32)), iv (8 : Int32), .unset, .unset, .unset, .unset]) rfl (XS.iloadN X0.here hx rfl (hb hby at_13) rfl k)) ?_
    obtain ⟨_, T864, _, X864, hQ864, st864⟩ := own_cs X0 hx hZ hown (wd hw 1 rfl) (wd hw 2 rfl) (wd hw 4 rfl) (wd hw 3 rfl) (by decide) (rm45 l Z a0 hw [] w76 h0 n0 O0 S_Result_PAIRING_ALLOCATED_BYE) e0 (g := (mkF m 14 #[iv i0, iv i1, iv (i0 &&& (2147483647 : Int32)), iv (8 : Int32), .unset, .unset, .unset, .unset] [(.int (8 : Int32))])) rfl (by rw [hml]; rfl) (rest := []) (W := 0) (lenOf pd_1 rfl) rfl (by show 2 * 0 + _ ≤ _; exact Nat.le_of_eq rfl) (hb hby at_14) (by decide) (by decide) (by decide) (by decide)
    obtain ⟨rfl, Nq864, hh873⟩ := hQ864
    have N864 := Fr.app N0 Nq864
    refine own_via (fun t k => st864 t (XS.astore X864.here hx rfl (hb hby at_17) rfl rfl (l' := #[iv i0, iv i1, iv (i0 &&& (2147483647 : Int32)), iv (8 : Int32), rv w76, .unset, .unset, .unset]) rfl k)) ?_
    obtain ⟨T874, X874, e874, st874⟩ := getS2 X864 hx hZ hown (host := "") (Or.inl (wd hw 8 rfl)) Via.refl hh873 (S_RoundEntry_NONE.ext O0.2) (g := (mkF m 19 #[iv i0, iv i1, iv (i0 &&& (2147483647 : Int32)), iv (8 : Int32), rv w76, .unset, .unset, .unset] [])) rfl (hb hby at_19)
    refine own_via (fun t k => st874 t k) ?_
    obtain ⟨_, T875, _, X875, hQ875, st875⟩ := own_cv X874 hx hZ hown (wd hw 11 rfl) (wd hw 12 rfl) (wd hw 14 rfl) (wd hw 13 rfl) (wd hw 15 rfl) (wd hw 9 rfl) (by decide) (rm2 l Z a0 hw [] w57 w59 h0 n0 O0 SF_w57_colour) e874 (SE_w57.ext O0.2) (g := (mkF m 22 #[iv i0, iv i1, iv (i0 &&& (2147483647 : Int32)), iv (8 : Int32), rv w76, .unset, .unset, .unset] [(.ref w57)])) rfl (by rw [hml]; rfl) (rest := []) (W := 0) (lenOf pd_2 rfl) rfl (by show 2 * 0 + _ ≤ _; exact Nat.le_of_eq rfl) (hb hby at_22) (by decide) (by decide) (by decide) (by decide)
    obtain ⟨rfl, Nq875, hh876⟩ := hQ875
    have N875 := Fr.app N864 Nq875
    refine own_via (fun t k => st875 t (XS.astore X875.here hx rfl (hb hby at_25) rfl rfl (l' := #[iv i0, iv i1, iv (i0 &&& (2147483647 : Int32)), iv (8 : Int32), rv w76, rv w59, .unset, .unset]) rfl k)) ?_
    obtain ⟨T877, h877, X877, e877, E877, A877, D877, -, st877⟩ := newO X875 hx hZ hown (wd hw 18 rfl) (wd hw 19 rfl) (wd hw 9 rfl) hh876 (g := (mkF m 27 #[iv i0, iv i1, iv (i0 &&& (2147483647 : Int32)), iv (8 : Int32), rv w76, rv w59, .unset, .unset] [])) rfl (hb hby at_27) (by decide) (by decide)
    obtain ⟨b878, q877⟩ : ∃ z, z = h0.size := ⟨_, rfl⟩
    rw [← q877] at A877 D877 st877
    refine own_via (fun t k => st877 t k) ?_
    have g879 : n0 ≤ b878 := Nat.le_trans (own_old O0) (Nat.le_of_eq q877.symm)
    have B880 : h0.size ≤ b878 := Nat.le_trans (Nat.le_refl _) (Nat.le_of_eq q877.symm)
    have F881 : Fld Z h877 b878 zs1 "colour" zs6 .null := D877 (Or.inr (wd hw 17 rfl)) (ty := (.object zs7)) (by decide)
    have F882 : Fld Z h877 b878 zs1 "opponent" "I" (.int (0 : Int32)) := D877 (Or.inr (wd hw 36 rfl)) (ty := .int) (by decide)
    have F883 : Fld Z h877 b878 zs1 "result" zs3 .null := D877 (Or.inr (wd hw 38 rfl)) (ty := (.object zs2)) (by decide)
    show own_Goes p e below (T877.setTop (mkF m 30 #[iv i0, iv i1, iv (i0 &&& (2147483647 : Int32)), iv (8 : Int32), rv w76, rv w59, .unset, .unset] [(.ref b878)])) _
    refine own_via (fun t k => XS.dup X877.here hx rfl (hb hby at_30) rfl rfl (XS.iloadN X877.here hx rfl (hb hby at_31) rfl (XS.aload X877.here hx rfl (hb hby at_32) rfl rfl (XS.aload X877.here hx rfl (hb hby at_34) rfl rfl k)))) ?_
    show own_Goes p e below (T877.setTop (mkF m 36 #[iv i0, iv i1, iv (i0 &&& (2147483647 : Int32)), iv (8 : Int32), rv w76, rv w59, .unset, .unset] [(.ref w76), (.ref w59), (.int (i0 &&& (2147483647 : Int32))), (.ref b878), (.ref b878)])) _
    have O919 : Old Z n0 h877 := (O0.ext E877)
    obtain ⟨_, T884, _, X884, hQ884, st884⟩ := own_ci X877 hx hZ hown (wd hw 20 rfl) (wd hw 21 rfl) (wd hw 22 rfl) (wd hw 9 rfl) rfl (by decide) (rm47 l Z a0 hw [] b878 (i0 &&& (2147483647 : Int32)) w59 w76 (0 : Int32) h877 n0 O919 (own_nn_mask i0 (2147483647 : Int32) 31 (by decide) (by decide)) F882 A877 g879 F881 F883) e877 (g := (mkF m 36 #[iv i0, iv i1, iv (i0 &&& (2147483647 : Int32)), iv (8 : Int32), rv w76, rv w59, .unset, .unset] [(.ref w76), (.ref w59), (.int (i0 &&& (2147483647 : Int32))), (.ref b878), (.ref b878)])) rfl (by rw [hml]; rfl) (rest := [(.ref b878)]) (W := 1) (lenOf pd_5 rfl) rfl (by show 2 * 0 + _ ≤ _; exact Nat.le_of_eq rfl) (hb hby at_36) (by decide) (by decide) (by decide) (by decide)
    obtain ⟨h884, e884⟩ : ∃ z, T884.heap = z := ⟨_, rfl⟩
    rw [e884] at hQ884
    obtain ⟨rfl, Nq884, K884, ex920, fx921, fx922, fx923⟩ := hQ884
    have N884 := Fr.app N875 Nq884
    refine own_via (fun t k => st884 t (XS.astore X884.here hx rfl (hb hby at_39) rfl rfl (l' := #[iv i0, iv i1, iv (i0 &&& (2147483647 : Int32)), iv (8 : Int32), rv w76, rv w59, rv b878, .unset]) rfl (XS.iloadN X884.here hx rfl (hb hby at_41) rfl k))) ?_
    show own_Goes p e below (T884.setTop (mkF m 42 #[iv i0, iv i1, iv (i0 &&& (2147483647 : Int32)), iv (8 : Int32), rv w76, rv w59, rv b878, .unset] [(.int (i0 &&& (2147483647 : Int32)))])) _
    by_cases hc924 : (i0 &&& (2147483647 : Int32)) = (0 : Int32)
    · refine own_via (fun t k => XS.ifYes X884.here hx rfl (pc0 := 42) (pc' := 55) rfl (hb hby at_42) rfl ((if0 _ _).trans (teq hc924).1) (by decide) (by decide) (XS.iconst X884.here hx rfl (hb hby at_55) (XS.istore X884.here hx rfl (hb hby at_56) rfl (l' := #[iv i0, iv i1, iv (i0 &&& (2147483647 : Int32)), iv (8 : Int32), rv w76, rv w59, rv b878, iv (0 : Int32)]) rfl (XS.aload X884.here hx rfl (hb hby at_58) rfl rfl k)))) ?_
      show own_Goes p e below (T884.setTop (mkF m 60 #[iv i0, iv i1, iv (i0 &&& (2147483647 : Int32)), iv (8 : Int32), rv w76, rv w59, rv b878, iv (0 : Int32)] [(.ref b878)])) _
      have O926 : Old Z n0 h884 := (O919.keep K884 (allS g879 all0))
      obtain ⟨_, T925, _, X925, hQ925, st925⟩ := own_cv X884 hx hZ hown (wd hw 39 rfl) (wd hw 40 rfl) (wd hw 42 rfl) (wd hw 41 rfl) (wd hw 43 rfl) (wd hw 9 rfl) (by decide) (rm7 l Z a0 hw [] b878 (i0 &&& (2147483647 : Int32)) h884 n0 O926 fx922 hc924) e884 ex920 (g := (mkF m 60 #[iv i0, iv i1, iv (i0 &&& (2147483647 : Int32)), iv (8 : Int32), rv w76, rv w59, rv b878, iv (0 : Int32)] [(.ref b878)])) rfl (by rw [hml]; rfl) (rest := []) (W := 0) (lenOf pd_6 rfl) rfl (by show 2 * 0 + _ ≤ _; exact Nat.le_of_eq rfl) (hb hby at_60) (by decide) (by decide) (by decide) (by decide)
      obtain ⟨rfl, Nq925, hh927⟩ := hQ925
      have N925 := Fr.app N884 Nq925
      refine own_via (fun t k => st925 t (XS.iload X925.here hx rfl (hb hby at_63) rfl (XS.icmpNo X925.here hx rfl (hb hby at_65) rfl (teq (by decide : (0 : Int32) = (0 : Int32))).2 (XS.iconst X925.here hx rfl (hb hby at_68) (XS.goto X925.here hx rfl (pc0 := 69) (pc' := 73) rfl (hb hby at_69) (by decide) (by decide) k))))) ?_
      show own_Goes p e below (T925.setTop (mkF m 73 #[iv i0, iv i1, iv (i0 &&& (2147483647 : Int32)), iv (8 : Int32), rv w76, rv w59, rv b878, iv (0 : Int32)] [(.int (1 : Int32))])) _
      obtain ⟨fs, hr, hrun, hended, hW, hsame⟩ := X925.leave (v := some (.int (1 : Int32))) (fun h => by rw [Bd.returns] at h; cases h)
      refine own_end (t := T925.setFrames fs) ?_ ⟨_, hrun, hended, _, _, rfl, ?_, ⟨_, rfl⟩, hW, hsame.mono (by decide) (by decide)⟩
      · exact retN X925 hx (t := .boolean) Bd.returns (by simp) (hb hby at_73) hr
      · exact ⟨rfl, N925⟩
    · refine own_via (fun t k => XS.ifNo X884.here hx rfl (hb hby at_42) rfl ((if0 _ _).trans (feq hc924).1) (XS.iloadN X884.here hx rfl (hb hby at_45) rfl (XS.bipush X884.here hx rfl (hb hby at_46) (XS.icmpYes X884.here hx rfl (pc0 := 48) (pc' := 55) rfl (hb hby at_48) rfl (flt (by decide : ¬ ((8 : Int32) < (6 : Int32)))).2.1 (by decide) (by decide) (XS.iconst X884.here hx rfl (hb hby at_55) (XS.istore X884.here hx rfl (hb hby at_56) rfl (l' := #[iv i0, iv i1, iv (i0 &&& (2147483647 : Int32)), iv (8 : Int32), rv w76, rv w59, rv b878, iv (0 : Int32)]) rfl (XS.aload X884.here hx rfl (hb hby at_58) rfl rfl k))))))) ?_
      show own_Goes p e below (T884.setTop (mkF m 60 #[iv i0, iv i1, iv (i0 &&& (2147483647 : Int32)), iv (8 : Int32), rv w76, rv w59, rv b878, iv (0 : Int32)] [(.ref b878)])) _
      have O952 : Old Z n0 h884 := (O919.keep K884 (allS g879 all0))
      obtain ⟨_, T928, _, X928, hQ928, st928⟩ := own_cv X884 hx hZ hown (wd hw 39 rfl) (wd hw 40 rfl) (wd hw 42 rfl) (wd hw 41 rfl) (wd hw 43 rfl) (wd hw 9 rfl) (by decide) (rm49 l Z a0 hw [] b878 (i0 &&& (2147483647 : Int32)) w76 h884 n0 O952 fx922 hc924 fx923 SF_w76_game SE_w76) e884 ex920 (g := (mkF m 60 #[iv i0, iv i1, iv (i0 &&& (2147483647 : Int32)), iv (8 : Int32), rv w76, rv w59, rv b878, iv (0 : Int32)] [(.ref b878)])) rfl (by rw [hml]; rfl) (rest := []) (W := 0) (lenOf pd_6 rfl) rfl (by show 2 * 0 + _ ≤ _; exact Nat.le_of_eq rfl) (hb hby at_60) (by decide) (by decide) (by decide) (by decide)
      obtain ⟨rfl, Nq928, hh953⟩ := hQ928
      have N928 := Fr.app N884 Nq928
      refine own_via (fun t k => st928 t (XS.iload X928.here hx rfl (hb hby at_63) rfl (XS.icmpNo X928.here hx rfl (hb hby at_65) rfl (teq (by decide : (0 : Int32) = (0 : Int32))).2 (XS.iconst X928.here hx rfl (hb hby at_68) (XS.goto X928.here hx rfl (pc0 := 69) (pc' := 73) rfl (hb hby at_69) (by decide) (by decide) k))))) ?_
      show own_Goes p e below (T928.setTop (mkF m 73 #[iv i0, iv i1, iv (i0 &&& (2147483647 : Int32)), iv (8 : Int32), rv w76, rv w59, rv b878, iv (0 : Int32)] [(.int (1 : Int32))])) _
      obtain ⟨fs, hr, hrun, hended, hW, hsame⟩ := X928.leave (v := some (.int (1 : Int32))) (fun h => by rw [Bd.returns] at h; cases h)
      refine own_end (t := T928.setFrames fs) ?_ ⟨_, hrun, hended, _, _, rfl, ?_, ⟨_, rfl⟩, hW, hsame.mono (by decide) (by decide)⟩
      · exact retN X928 hx (t := .boolean) Bd.returns (by simp) (hb hby at_73) hr
      · exact ⟨rfl, N928⟩
  · have qs954 := qs
    rw [qs]
    show own_Goes p e below (s₁.setTop (mkF m 12 #[iv i0, iv i1, iv (i0 &&& (2147483647 : Int32)), .unset, .unset, .unset, .unset, .unset] [(.int (9 : Int32))])) _
    refine own_via (fun t k => XS.istoreN X0.here hx rfl (hb hby at_12) rfl (l' := #[iv i0, iv i1, iv (i0 &&& (2147483647 : Int32)), iv (9 : Int32), .unset, .unset, .unset, .unset]) rfl (XS.iloadN X0.here hx rfl (hb hby at_13) rfl k)) ?_
    obtain ⟨_, T955, _, X955, hQ955, st955⟩ := own_cs X0 hx hZ hown (wd hw 1 rfl) (wd hw 2 rfl) (wd hw 4 rfl) (wd hw 3 rfl) (by decide) (rm50 l Z a0 hw [] w88 h0 n0 O0 S_Result_FULL_POINT_BYE) e0 (g := (mkF m 14 #[iv i0, iv i1, iv (i0 &&& (2147483647 : Int32)), iv (9 : Int32), .unset, .unset, .unset, .unset] [(.int (9 : Int32))])) rfl (by rw [hml]; rfl) (rest := []) (W := 0) (lenOf pd_1 rfl) rfl (by show 2 * 0 + _ ≤ _; exact Nat.le_of_eq rfl) (hb hby at_14) (by decide) (by decide) (by decide) (by decide)
    obtain ⟨rfl, Nq955, hh964⟩ := hQ955
    have N955 := Fr.app N0 Nq955
    refine own_via (fun t k => st955 t (XS.astore X955.here hx rfl (hb hby at_17) rfl rfl (l' := #[iv i0, iv i1, iv (i0 &&& (2147483647 : Int32)), iv (9 : Int32), rv w88, .unset, .unset, .unset]) rfl k)) ?_
    obtain ⟨T965, X965, e965, st965⟩ := getS2 X955 hx hZ hown (host := "") (Or.inl (wd hw 8 rfl)) Via.refl hh964 (S_RoundEntry_NONE.ext O0.2) (g := (mkF m 19 #[iv i0, iv i1, iv (i0 &&& (2147483647 : Int32)), iv (9 : Int32), rv w88, .unset, .unset, .unset] [])) rfl (hb hby at_19)
    refine own_via (fun t k => st965 t k) ?_
    obtain ⟨_, T966, _, X966, hQ966, st966⟩ := own_cv X965 hx hZ hown (wd hw 11 rfl) (wd hw 12 rfl) (wd hw 14 rfl) (wd hw 13 rfl) (wd hw 15 rfl) (wd hw 9 rfl) (by decide) (rm2 l Z a0 hw [] w57 w59 h0 n0 O0 SF_w57_colour) e965 (SE_w57.ext O0.2) (g := (mkF m 22 #[iv i0, iv i1, iv (i0 &&& (2147483647 : Int32)), iv (9 : Int32), rv w88, .unset, .unset, .unset] [(.ref w57)])) rfl (by rw [hml]; rfl) (rest := []) (W := 0) (lenOf pd_2 rfl) rfl (by show 2 * 0 + _ ≤ _; exact Nat.le_of_eq rfl) (hb hby at_22) (by decide) (by decide) (by decide) (by decide)
    obtain ⟨rfl, Nq966, hh967⟩ := hQ966
    have N966 := Fr.app N955 Nq966
    refine own_via (fun t k => st966 t (XS.astore X966.here hx rfl (hb hby at_25) rfl rfl (l' := #[iv i0, iv i1, iv (i0 &&& (2147483647 : Int32)), iv (9 : Int32), rv w88, rv w59, .unset, .unset]) rfl k)) ?_
    obtain ⟨T968, h968, X968, e968, E968, A968, D968, -, st968⟩ := newO X966 hx hZ hown (wd hw 18 rfl) (wd hw 19 rfl) (wd hw 9 rfl) hh967 (g := (mkF m 27 #[iv i0, iv i1, iv (i0 &&& (2147483647 : Int32)), iv (9 : Int32), rv w88, rv w59, .unset, .unset] [])) rfl (hb hby at_27) (by decide) (by decide)
    obtain ⟨b969, q968⟩ : ∃ z, z = h0.size := ⟨_, rfl⟩
    rw [← q968] at A968 D968 st968
    refine own_via (fun t k => st968 t k) ?_
    have g970 : n0 ≤ b969 := Nat.le_trans (own_old O0) (Nat.le_of_eq q968.symm)
    have B971 : h0.size ≤ b969 := Nat.le_trans (Nat.le_refl _) (Nat.le_of_eq q968.symm)
    have F972 : Fld Z h968 b969 zs1 "colour" zs6 .null := D968 (Or.inr (wd hw 17 rfl)) (ty := (.object zs7)) (by decide)
    have F973 : Fld Z h968 b969 zs1 "opponent" "I" (.int (0 : Int32)) := D968 (Or.inr (wd hw 36 rfl)) (ty := .int) (by decide)
    have F974 : Fld Z h968 b969 zs1 "result" zs3 .null := D968 (Or.inr (wd hw 38 rfl)) (ty := (.object zs2)) (by decide)
    show own_Goes p e below (T968.setTop (mkF m 30 #[iv i0, iv i1, iv (i0 &&& (2147483647 : Int32)), iv (9 : Int32), rv w88, rv w59, .unset, .unset] [(.ref b969)])) _
    refine own_via (fun t k => XS.dup X968.here hx rfl (hb hby at_30) rfl rfl (XS.iloadN X968.here hx rfl (hb hby at_31) rfl (XS.aload X968.here hx rfl (hb hby at_32) rfl rfl (XS.aload X968.here hx rfl (hb hby at_34) rfl rfl k)))) ?_
    show own_Goes p e below (T968.setTop (mkF m 36 #[iv i0, iv i1, iv (i0 &&& (2147483647 : Int32)), iv (9 : Int32), rv w88, rv w59, .unset, .unset] [(.ref w88), (.ref w59), (.int (i0 &&& (2147483647 : Int32))), (.ref b969), (.ref b969)])) _
    have O1010 : Old Z n0 h968 := (O0.ext E968)
    obtain ⟨_, T975, _, X975, hQ975, st975⟩ := own_ci X968 hx hZ hown (wd hw 20 rfl) (wd hw 21 rfl) (wd hw 22 rfl) (wd hw 9 rfl) rfl (by decide) (rm52 l Z a0 hw [] b969 (i0 &&& (2147483647 : Int32)) w59 w88 (0 : Int32) h968 n0 O1010 (own_nn_mask i0 (2147483647 : Int32) 31 (by decide) (by decide)) F973 A968 g970 F972 F974) e968 (g := (mkF m 36 #[iv i0, iv i1, iv (i0 &&& (2147483647 : Int32)), iv (9 : Int32), rv w88, rv w59, .unset, .unset] [(.ref w88), (.ref w59), (.int (i0 &&& (2147483647 : Int32))), (.ref b969), (.ref b969)])) rfl (by rw [hml]; rfl) (rest := [(.ref b969)]) (W := 1) (lenOf pd_5 rfl) rfl (by show 2 * 0 + _ ≤ _; exact Nat.le_of_eq rfl) (hb hby at_36) (by decide) (by decide) (by decide) (by decide)
    obtain ⟨h975, e975⟩ : ∃ z, T975.heap = z := ⟨_, rfl⟩
    rw [e975] at hQ975
    obtain ⟨rfl, Nq975, K975, ex1011, fx1012, fx1013, fx1014⟩ := hQ975
    have N975 := Fr.app N966 Nq975
    refine own_via (fun t k => st975 t (XS.astore X975.here hx rfl (hb hby at_39) rfl rfl (l' := #[iv i0, iv i1, iv (i0 &&& (2147483647 : Int32)), iv (9 : Int32), rv w88, rv w59, rv b969, .unset]) rfl (XS.iloadN X975.here hx rfl (hb hby at_41) rfl k))) ?_
    show own_Goes p e below (T975.setTop (mkF m 42 #[iv i0, iv i1, iv (i0 &&& (2147483647 : Int32)), iv (9 : Int32), rv w88, rv w59, rv b969, .unset] [(.int (i0 &&& (2147483647 : Int32)))])) _
    by_cases hc1015 : (i0 &&& (2147483647 : Int32)) = (0 : Int32)
    · refine own_via (fun t k => XS.ifYes X975.here hx rfl (pc0 := 42) (pc' := 55) rfl (hb hby at_42) rfl ((if0 _ _).trans (teq hc1015).1) (by decide) (by decide) (XS.iconst X975.here hx rfl (hb hby at_55) (XS.istore X975.here hx rfl (hb hby at_56) rfl (l' := #[iv i0, iv i1, iv (i0 &&& (2147483647 : Int32)), iv (9 : Int32), rv w88, rv w59, rv b969, iv (0 : Int32)]) rfl (XS.aload X975.here hx rfl (hb hby at_58) rfl rfl k)))) ?_
      show own_Goes p e below (T975.setTop (mkF m 60 #[iv i0, iv i1, iv (i0 &&& (2147483647 : Int32)), iv (9 : Int32), rv w88, rv w59, rv b969, iv (0 : Int32)] [(.ref b969)])) _
      have O1017 : Old Z n0 h975 := (O1010.keep K975 (allS g970 all0))
      obtain ⟨_, T1016, _, X1016, hQ1016, st1016⟩ := own_cv X975 hx hZ hown (wd hw 39 rfl) (wd hw 40 rfl) (wd hw 42 rfl) (wd hw 41 rfl) (wd hw 43 rfl) (wd hw 9 rfl) (by decide) (rm7 l Z a0 hw [] b969 (i0 &&& (2147483647 : Int32)) h975 n0 O1017 fx1013 hc1015) e975 ex1011 (g := (mkF m 60 #[iv i0, iv i1, iv (i0 &&& (2147483647 : Int32)), iv (9 : Int32), rv w88, rv w59, rv b969, iv (0 : Int32)] [(.ref b969)])) rfl (by rw [hml]; rfl) (rest := []) (W := 0) (lenOf pd_6 rfl) rfl (by show 2 * 0 + _ ≤ _; exact Nat.le_of_eq rfl) (hb hby at_60) (by decide) (by decide) (by decide) (by decide)
      obtain ⟨rfl, Nq1016, hh1018⟩ := hQ1016
      have N1016 := Fr.app N975 Nq1016
      refine own_via (fun t k => st1016 t (XS.iload X1016.here hx rfl (hb hby at_63) rfl (XS.icmpNo X1016.here hx rfl (hb hby at_65) rfl (teq (by decide : (0 : Int32) = (0 : Int32))).2 (XS.iconst X1016.here hx rfl (hb hby at_68) (XS.goto X1016.here hx rfl (pc0 := 69) (pc' := 73) rfl (hb hby at_69) (by decide) (by decide) k))))) ?_
      show own_Goes p e below (T1016.setTop (mkF m 73 #[iv i0, iv i1, iv (i0 &&& (2147483647 : Int32)), iv (9 : Int32), rv w88, rv w59, rv b969, iv (0 : Int32)] [(.int (1 : Int32))])) _
      obtain ⟨fs, hr, hrun, hended, hW, hsame⟩ := X1016.leave (v := some (.int (1 : Int32))) (fun h => by rw [Bd.returns] at h; cases h)
      refine own_end (t := T1016.setFrames fs) ?_ ⟨_, hrun, hended, _, _, rfl, ?_, ⟨_, rfl⟩, hW, hsame.mono (by decide) (by decide)⟩
      · exact retN X1016 hx (t := .boolean) Bd.returns (by simp) (hb hby at_73) hr
      · exact ⟨rfl, N1016⟩
    · refine own_via (fun t k => XS.ifNo X975.here hx rfl (hb hby at_42) rfl ((if0 _ _).trans (feq hc1015).1) (XS.iloadN X975.here hx rfl (hb hby at_45) rfl (XS.bipush X975.here hx rfl (hb hby at_46) (XS.icmpYes X975.here hx rfl (pc0 := 48) (pc' := 55) rfl (hb hby at_48) rfl (flt (by decide : ¬ ((9 : Int32) < (6 : Int32)))).2.1 (by decide) (by decide) (XS.iconst X975.here hx rfl (hb hby at_55) (XS.istore X975.here hx rfl (hb hby at_56) rfl (l' := #[iv i0, iv i1, iv (i0 &&& (2147483647 : Int32)), iv (9 : Int32), rv w88, rv w59, rv b969, iv (0 : Int32)]) rfl (XS.aload X975.here hx rfl (hb hby at_58) rfl rfl k))))))) ?_
      show own_Goes p e below (T975.setTop (mkF m 60 #[iv i0, iv i1, iv (i0 &&& (2147483647 : Int32)), iv (9 : Int32), rv w88, rv w59, rv b969, iv (0 : Int32)] [(.ref b969)])) _
      have O1043 : Old Z n0 h975 := (O1010.keep K975 (allS g970 all0))
      obtain ⟨_, T1019, _, X1019, hQ1019, st1019⟩ := own_cv X975 hx hZ hown (wd hw 39 rfl) (wd hw 40 rfl) (wd hw 42 rfl) (wd hw 41 rfl) (wd hw 43 rfl) (wd hw 9 rfl) (by decide) (rm54 l Z a0 hw [] b969 (i0 &&& (2147483647 : Int32)) w88 h975 n0 O1043 fx1013 hc1015 fx1014 SF_w88_game SE_w88) e975 ex1011 (g := (mkF m 60 #[iv i0, iv i1, iv (i0 &&& (2147483647 : Int32)), iv (9 : Int32), rv w88, rv w59, rv b969, iv (0 : Int32)] [(.ref b969)])) rfl (by rw [hml]; rfl) (rest := []) (W := 0) (lenOf pd_6 rfl) rfl (by show 2 * 0 + _ ≤ _; exact Nat.le_of_eq rfl) (hb hby at_60) (by decide) (by decide) (by decide) (by decide)
      obtain ⟨rfl, Nq1019, hh1044⟩ := hQ1019
      have N1019 := Fr.app N975 Nq1019
      refine own_via (fun t k => st1019 t (XS.iload X1019.here hx rfl (hb hby at_63) rfl (XS.icmpNo X1019.here hx rfl (hb hby at_65) rfl (teq (by decide : (0 : Int32) = (0 : Int32))).2 (XS.iconst X1019.here hx rfl (hb hby at_68) (XS.goto X1019.here hx rfl (pc0 := 69) (pc' := 73) rfl (hb hby at_69) (by decide) (by decide) k))))) ?_
      show own_Goes p e below (T1019.setTop (mkF m 73 #[iv i0, iv i1, iv (i0 &&& (2147483647 : Int32)), iv (9 : Int32), rv w88, rv w59, rv b969, iv (0 : Int32)] [(.int (1 : Int32))])) _
      obtain ⟨fs, hr, hrun, hended, hW, hsame⟩ := X1019.leave (v := some (.int (1 : Int32))) (fun h => by rw [Bd.returns] at h; cases h)
      refine own_end (t := T1019.setFrames fs) ?_ ⟨_, hrun, hended, _, _, rfl, ?_, ⟨_, rfl⟩, hW, hsame.mono (by decide) (by decide)⟩
      · exact retN X1019 hx (t := .boolean) Bd.returns (by simp) (hb hby at_73) hr
      · exact ⟨rfl, N1019⟩
  · have qs1045 := qs
    rw [qs]
    show own_Goes p e below (s₁.setTop (mkF m 12 #[iv i0, iv i1, iv (i0 &&& (2147483647 : Int32)), .unset, .unset, .unset, .unset, .unset] [(.int (10 : Int32))])) _
    refine own_via (fun t k => XS.istoreN X0.here hx rfl (hb hby at_12) rfl (l' := #[iv i0, iv i1, iv (i0 &&& (2147483647 : Int32)), iv (10 : Int32), .unset, .unset, .unset, .unset]) rfl (XS.iloadN X0.here hx rfl (hb hby at_13) rfl k)) ?_
    obtain ⟨_, T1046, _, X1046, hQ1046, st1046⟩ := own_cs X0 hx hZ hown (wd hw 1 rfl) (wd hw 2 rfl) (wd hw 4 rfl) (wd hw 3 rfl) (by decide) (rm55 l Z a0 hw [] w70 h0 n0 O0 S_Result_HALF_POINT_BYE) e0 (g := (mkF m 14 #[iv i0, iv i1, iv (i0 &&& (2147483647 : Int32)), iv (10 : Int32), .unset, .unset, .unset, .unset] [(.int (10 : Int32))])) rfl (by rw [hml]; rfl) (rest := []) (W := 0) (lenOf pd_1 rfl) rfl (by show 2 * 0 + _ ≤ _; exact Nat.le_of_eq rfl) (hb hby at_14) (by decide) (by decide) (by decide) (by decide)
    obtain ⟨rfl, Nq1046, hh1055⟩ := hQ1046
    have N1046 := Fr.app N0 Nq1046
    refine own_via (fun t k => st1046 t (XS.astore X1046.here hx rfl (hb hby at_17) rfl rfl (l' := #[iv i0, iv i1, iv (i0 &&& (2147483647 : Int32)), iv (10 : Int32), rv w70, .unset, .unset, .unset]) rfl k)) ?_
    obtain ⟨T1056, X1056, e1056, st1056⟩ := getS2 X1046 hx hZ hown (host := "") (Or.inl (wd hw 8 rfl)) Via.refl hh1055 (S_RoundEntry_NONE.ext O0.2) (g := (mkF m 19 #[iv i0, iv i1, iv (i0 &&& (2147483647 : Int32)), iv (10 : Int32), rv w70, .unset, .unset, .unset] [])) rfl (hb hby at_19)
    refine own_via (fun t k => st1056 t k) ?_
    obtain ⟨_, T1057, _, X1057, hQ1057, st1057⟩ := own_cv X1056 hx hZ hown (wd hw 11 rfl) (wd hw 12 rfl) (wd hw 14 rfl) (wd hw 13 rfl) (wd hw 15 rfl) (wd hw 9 rfl) (by decide) (rm2 l Z a0 hw [] w57 w59 h0 n0 O0 SF_w57_colour) e1056 (SE_w57.ext O0.2) (g := (mkF m 22 #[iv i0, iv i1, iv (i0 &&& (2147483647 : Int32)), iv (10 : Int32), rv w70, .unset, .unset, .unset] [(.ref w57)])) rfl (by rw [hml]; rfl) (rest := []) (W := 0) (lenOf pd_2 rfl) rfl (by show 2 * 0 + _ ≤ _; exact Nat.le_of_eq rfl) (hb hby at_22) (by decide) (by decide) (by decide) (by decide)
    obtain ⟨rfl, Nq1057, hh1058⟩ := hQ1057
    have N1057 := Fr.app N1046 Nq1057
    refine own_via (fun t k => st1057 t (XS.astore X1057.here hx rfl (hb hby at_25) rfl rfl (l' := #[iv i0, iv i1, iv (i0 &&& (2147483647 : Int32)), iv (10 : Int32), rv w70, rv w59, .unset, .unset]) rfl k)) ?_
    obtain ⟨T1059, h1059, X1059, e1059, E1059, A1059, D1059, -, st1059⟩ := newO X1057 hx hZ hown (wd hw 18 rfl) (wd hw 19 rfl) (wd hw 9 rfl) hh1058 (g := (mkF m 27 #[iv i0, iv i1, iv (i0 &&& (2147483647 : Int32)), iv (10 : Int32), rv w70, rv w59, .unset, .unset] [])) rfl (hb hby at_27) (by decide) (by decide)
    obtain ⟨b1060, q1059⟩ : ∃ z, z = h0.size := ⟨_, rfl⟩
    rw [← q1059] at A1059 D1059 st1059
    refine own_via (fun t k => st1059 t k) ?_
    have g1061 : n0 ≤ b1060 := Nat.le_trans (own_old O0) (Nat.le_of_eq q1059.symm)
    have B1062 : h0.size ≤ b1060 := Nat.le_trans (Nat.le_refl _) (Nat.le_of_eq q1059.symm)
    have F1063 : Fld Z h1059 b1060 zs1 "colour" zs6 .null := D1059 (Or.inr (wd hw 17 rfl)) (ty := (.object zs7)) (by decide)
    have F1064 : Fld Z h1059 b1060 zs1 "opponent" "I" (.int (0 : Int32)) := D1059 (Or.inr (wd hw 36 rfl)) (ty := .int) (by decide)
    have F1065 : Fld Z h1059 b1060 zs1 "result" zs3 .null := D1059 (Or.inr (wd hw 38 rfl)) (ty := (.object zs2)) (by decide)
    show own_Goes p e below (T1059.setTop (mkF m 30 #[iv i0, iv i1, iv (i0 &&& (2147483647 : Int32)), iv (10 : Int32), rv w70, rv w59, .unset, .unset] [(.ref b1060)])) _
    refine own_via (fun t k => XS.dup X1059.here hx rfl (hb hby at_30) rfl rfl (XS.iloadN X1059.here hx rfl (hb hby at_31) rfl (XS.aload X1059.here hx rfl (hb hby at_32) rfl rfl (XS.aload X1059.here hx rfl (hb hby at_34) rfl rfl k)))) ?_
    show own_Goes p e below (T1059.setTop (mkF m 36 #[iv i0, iv i1, iv (i0 &&& (2147483647 : Int32)), iv (10 : Int32), rv w70, rv w59, .unset, .unset] [(.ref w70), (.ref w59), (.int (i0 &&& (2147483647 : Int32))), (.ref b1060), (.ref b1060)])) _
    have O1101 : Old Z n0 h1059 := (O0.ext E1059)
    obtain ⟨_, T1066, _, X1066, hQ1066, st1066⟩ := own_ci X1059 hx hZ hown (wd hw 20 rfl) (wd hw 21 rfl) (wd hw 22 rfl) (wd hw 9 rfl) rfl (by decide) (rm57 l Z a0 hw [] b1060 (i0 &&& (2147483647 : Int32)) w59 w70 (0 : Int32) h1059 n0 O1101 (own_nn_mask i0 (2147483647 : Int32) 31 (by decide) (by decide)) F1064 A1059 g1061 F1063 F1065) e1059 (g := (mkF m 36 #[iv i0, iv i1, iv (i0 &&& (2147483647 : Int32)), iv (10 : Int32), rv w70, rv w59, .unset, .unset] [(.ref w70), (.ref w59), (.int (i0 &&& (2147483647 : Int32))), (.ref b1060), (.ref b1060)])) rfl (by rw [hml]; rfl) (rest := [(.ref b1060)]) (W := 1) (lenOf pd_5 rfl) rfl (by show 2 * 0 + _ ≤ _; exact Nat.le_of_eq rfl) (hb hby at_36) (by decide) (by decide) (by decide) (by decide)
    obtain ⟨h1066, e1066⟩ : ∃ z, T1066.heap = z := ⟨_, rfl⟩
    rw [e1066] at hQ1066
    obtain ⟨rfl, Nq1066, K1066, ex1102, fx1103, fx1104, fx1105⟩ := hQ1066
    have N1066 := Fr.app N1057 Nq1066
    refine own_via (fun t k => st1066 t (XS.astore X1066.here hx rfl (hb hby at_39) rfl rfl (l' := #[iv i0, iv i1, iv (i0 &&& (2147483647 : Int32)), iv (10 : Int32), rv w70, rv w59, rv b1060, .unset]) rfl (XS.iloadN X1066.here hx rfl (hb hby at_41) rfl k))) ?_
    show own_Goes p e below (T1066.setTop (mkF m 42 #[iv i0, iv i1, iv (i0 &&& (2147483647 : Int32)), iv (10 : Int32), rv w70, rv w59, rv b1060, .unset] [(.int (i0 &&& (2147483647 : Int32)))])) _
    by_cases hc1106 : (i0 &&& (2147483647 : Int32)) = (0 : Int32)
    · refine own_via (fun t k => XS.ifYes X1066.here hx rfl (pc0 := 42) (pc' := 55) rfl (hb hby at_42) rfl ((if0 _ _).trans (teq hc1106).1) (by decide) (by decide) (XS.iconst X1066.here hx rfl (hb hby at_55) (XS.istore X1066.here hx rfl (hb hby at_56) rfl (l' := #[iv i0, iv i1, iv (i0 &&& (2147483647 : Int32)), iv (10 : Int32), rv w70, rv w59, rv b1060, iv (0 : Int32)]) rfl (XS.aload X1066.here hx rfl (hb hby at_58) rfl rfl k)))) ?_
      show own_Goes p e below (T1066.setTop (mkF m 60 #[iv i0, iv i1, iv (i0 &&& (2147483647 : Int32)), iv (10 : Int32), rv w70, rv w59, rv b1060, iv (0 : Int32)] [(.ref b1060)])) _
      have O1108 : Old Z n0 h1066 := (O1101.keep K1066 (allS g1061 all0))
      obtain ⟨_, T1107, _, X1107, hQ1107, st1107⟩ := own_cv X1066 hx hZ hown (wd hw 39 rfl) (wd hw 40 rfl) (wd hw 42 rfl) (wd hw 41 rfl) (wd hw 43 rfl) (wd hw 9 rfl) (by decide) (rm7 l Z a0 hw [] b1060 (i0 &&& (2147483647 : Int32)) h1066 n0 O1108 fx1104 hc1106) e1066 ex1102 (g := (mkF m 60 #[iv i0, iv i1, iv (i0 &&& (2147483647 : Int32)), iv (10 : Int32), rv w70, rv w59, rv b1060, iv (0 : Int32)] [(.ref b1060)])) rfl (by rw [hml]; rfl) (rest := []) (W := 0) (lenOf pd_6 rfl) rfl (by show 2 * 0 + _ ≤ _; exact Nat.le_of_eq rfl) (hb hby at_60) (by decide) (by decide) (by decide) (by decide)
      obtain ⟨rfl, Nq1107, hh1109⟩ := hQ1107
      have N1107 := Fr.app N1066 Nq1107
      refine own_via (fun t k => st1107 t (XS.iload X1107.here hx rfl (hb hby at_63) rfl (XS.icmpNo X1107.here hx rfl (hb hby at_65) rfl (teq (by decide : (0 : Int32) = (0 : Int32))).2 (XS.iconst X1107.here hx rfl (hb hby at_68) (XS.goto X1107.here hx rfl (pc0 := 69) (pc' := 73) rfl (hb hby at_69) (by decide) (by decide) k))))) ?_
      show own_Goes p e below (T1107.setTop (mkF m 73 #[iv i0, iv i1, iv (i0 &&& (2147483647 : Int32)), iv (10 : Int32), rv w70, rv w59, rv b1060, iv (0 : Int32)] [(.int (1 : Int32))])) _
      obtain ⟨fs, hr, hrun, hended, hW, hsame⟩ := X1107.leave (v := some (.int (1 : Int32))) (fun h => by rw [Bd.returns] at h; cases h)
      refine own_end (t := T1107.setFrames fs) ?_ ⟨_, hrun, hended, _, _, rfl, ?_, ⟨_, rfl⟩, hW, hsame.mono (by decide) (by decide)⟩
      · exact retN X1107 hx (t := .boolean) Bd.returns (by simp) (hb hby at_73) hr
      · exact ⟨rfl, N1107⟩
    · refine own_via (fun t k => XS.ifNo X1066.here hx rfl (hb hby at_42) rfl ((if0 _ _).trans (feq hc1106).1) (XS.iloadN X1066.here hx rfl (hb hby at_45) rfl (XS.bipush X1066.here hx rfl (hb hby at_46) (XS.icmpYes X1066.here hx rfl (pc0 := 48) (pc' := 55) rfl (hb hby at_48) rfl (flt (by decide : ¬ ((10 : Int32) < (6 : Int32)))).2.1 (by decide) (by decide) (XS.iconst X1066.here hx rfl (hb hby at_55) (XS.istore X1066.here hx rfl (hb hby at_56) rfl (l' := #[iv i0, iv i1, iv (i0 &&& (2147483647 : Int32)), iv (10 : Int32), rv w70, rv w59, rv b1060, iv (0 : Int32)]) rfl (XS.aload X1066.here hx rfl (hb hby at_58) rfl rfl k))))))) ?_
      show own_Goes p e below (T1066.setTop (mkF m 60 #[iv i0, iv i1, iv (i0 &&& (2147483647 : Int32)), iv (10 : Int32), rv w70, rv w59, rv b1060, iv (0 : Int32)] [(.ref b1060)])) _
      have O1134 : Old Z n0 h1066 := (O1101.keep K1066 (allS g1061 all0))
      obtain ⟨_, T1110, _, X1110, hQ1110, st1110⟩ := own_cv X1066 hx hZ hown (wd hw 39 rfl) (wd hw 40 rfl) (wd hw 42 rfl) (wd hw 41 rfl) (wd hw 43 rfl) (wd hw 9 rfl) (by decide) (rm59 l Z a0 hw [] b1060 (i0 &&& (2147483647 : Int32)) w70 h1066 n0 O1134 fx1104 hc1106 fx1105 SF_w70_game SE_w70) e1066 ex1102 (g := (mkF m 60 #[iv i0, iv i1, iv (i0 &&& (2147483647 : Int32)), iv (10 : Int32), rv w70, rv w59, rv b1060, iv (0 : Int32)] [(.ref b1060)])) rfl (by rw [hml]; rfl) (rest := []) (W := 0) (lenOf pd_6 rfl) rfl (by show 2 * 0 + _ ≤ _; exact Nat.le_of_eq rfl) (hb hby at_60) (by decide) (by decide) (by decide) (by decide)
      obtain ⟨rfl, Nq1110, hh1135⟩ := hQ1110
      have N1110 := Fr.app N1066 Nq1110
      refine own_via (fun t k => st1110 t (XS.iload X1110.here hx rfl (hb hby at_63) rfl (XS.icmpNo X1110.here hx rfl (hb hby at_65) rfl (teq (by decide : (0 : Int32) = (0 : Int32))).2 (XS.iconst X1110.here hx rfl (hb hby at_68) (XS.goto X1110.here hx rfl (pc0 := 69) (pc' := 73) rfl (hb hby at_69) (by decide) (by decide) k))))) ?_
      show own_Goes p e below (T1110.setTop (mkF m 73 #[iv i0, iv i1, iv (i0 &&& (2147483647 : Int32)), iv (10 : Int32), rv w70, rv w59, rv b1060, iv (0 : Int32)] [(.int (1 : Int32))])) _
      obtain ⟨fs, hr, hrun, hended, hW, hsame⟩ := X1110.leave (v := some (.int (1 : Int32))) (fun h => by rw [Bd.returns] at h; cases h)
      refine own_end (t := T1110.setFrames fs) ?_ ⟨_, hrun, hended, _, _, rfl, ?_, ⟨_, rfl⟩, hW, hsame.mono (by decide) (by decide)⟩
      · exact retN X1110 hx (t := .boolean) Bd.returns (by simp) (hb hby at_73) hr
      · exact ⟨rfl, N1110⟩
  · have qs1136 := qs
    rw [qs]
    show own_Goes p e below (s₁.setTop (mkF m 12 #[iv i0, iv i1, iv (i0 &&& (2147483647 : Int32)), .unset, .unset, .unset, .unset, .unset] [(.int (11 : Int32))])) _
    refine own_via (fun t k => XS.istoreN X0.here hx rfl (hb hby at_12) rfl (l' := #[iv i0, iv i1, iv (i0 &&& (2147483647 : Int32)), iv (11 : Int32), .unset, .unset, .unset, .unset]) rfl (XS.iloadN X0.here hx rfl (hb hby at_13) rfl k)) ?_
    obtain ⟨_, T1137, _, X1137, hQ1137, st1137⟩ := own_cs X0 hx hZ hown (wd hw 1 rfl) (wd hw 2 rfl) (wd hw 4 rfl) (wd hw 3 rfl) (by decide) (rm60 l Z a0 hw [] w95 h0 n0 O0 S_Result_ZERO_POINT_BYE) e0 (g := (mkF m 14 #[iv i0, iv i1, iv (i0 &&& (2147483647 : Int32)), iv (11 : Int32), .unset, .unset, .unset, .unset] [(.int (11 : Int32))])) rfl (by rw [hml]; rfl) (rest := []) (W := 0) (lenOf pd_1 rfl) rfl (by show 2 * 0 + _ ≤ _; exact Nat.le_of_eq rfl) (hb hby at_14) (by decide) (by decide) (by decide) (by decide)
    obtain ⟨rfl, Nq1137, hh1146⟩ := hQ1137
    have N1137 := Fr.app N0 Nq1137
    refine own_via (fun t k => st1137 t (XS.astore X1137.here hx rfl (hb hby at_17) rfl rfl (l' := #[iv i0, iv i1, iv (i0 &&& (2147483647 : Int32)), iv (11 : Int32), rv w95, .unset, .unset, .unset]) rfl k)) ?_
    obtain ⟨T1147, X1147, e1147, st1147⟩ := getS2 X1137 hx hZ hown (host := "") (Or.inl (wd hw 8 rfl)) Via.refl hh1146 (S_RoundEntry_NONE.ext O0.2) (g := (mkF m 19 #[iv i0, iv i1, iv (i0 &&& (2147483647 : Int32)), iv (11 : Int32), rv w95, .unset, .unset, .unset] [])) rfl (hb hby at_19)
    refine own_via (fun t k => st1147 t k) ?_
    obtain ⟨_, T1148, _, X1148, hQ1148, st1148⟩ := own_cv X1147 hx hZ hown (wd hw 11 rfl) (wd hw 12 rfl) (wd hw 14 rfl) (wd hw 13 rfl) (wd hw 15 rfl) (wd hw 9 rfl) (by decide) (rm2 l Z a0 hw [] w57 w59 h0 n0 O0 SF_w57_colour) e1147 (SE_w57.ext O0.2) (g := (mkF m 22 #[iv i0, iv i1, iv (i0 &&& (2147483647 : Int32)), iv (11 : Int32), rv w95, .unset, .unset, .unset] [(.ref w57)])) rfl (by rw [hml]; rfl) (rest := []) (W := 0) (lenOf pd_2 rfl) rfl (by show 2 * 0 + _ ≤ _; exact Nat.le_of_eq rfl) (hb hby at_22) (by decide) (by decide) (by decide) (by decide)
    obtain ⟨rfl, Nq1148, hh1149⟩ := hQ1148
    have N1148 := Fr.app N1137 Nq1148
    refine own_via (fun t k => st1148 t (XS.astore X1148.here hx rfl (hb hby at_25) rfl rfl (l' := #[iv i0, iv i1, iv (i0 &&& (2147483647 : Int32)), iv (11 : Int32), rv w95, rv w59, .unset, .unset]) rfl k)) ?_
    obtain ⟨T1150, h1150, X1150, e1150, E1150, A1150, D1150, -, st1150⟩ := newO X1148 hx hZ hown (wd hw 18 rfl) (wd hw 19 rfl) (wd hw 9 rfl) hh1149 (g := (mkF m 27 #[iv i0, iv i1, iv (i0 &&& (2147483647 : Int32)), iv (11 : Int32), rv w95, rv w59, .unset, .unset] [])) rfl (hb hby at_27) (by decide) (by decide)
    obtain ⟨b1151, q1150⟩ : ∃ z, z = h0.size := ⟨_, rfl⟩
    rw [← q1150] at A1150 D1150 st1150
    refine own_via (fun t k => st1150 t k) ?_
    have g1152 : n0 ≤ b1151 := Nat.le_trans (own_old O0) (Nat.le_of_eq q1150.symm)
    have B1153 : h0.size ≤ b1151 := Nat.le_trans (Nat.le_refl _) (Nat.le_of_eq q1150.symm)
    have F1154 : Fld Z h1150 b1151 zs1 "colour" zs6 .null := D1150 (Or.inr (wd hw 17 rfl)) (ty := (.object zs7)) (by decide)
    have F1155 : Fld Z h1150 b1151 zs1 "opponent" "I" (.int (0 : Int32)) := D1150 (Or.inr (wd hw 36 rfl)) (ty := .int) (by decide)
    have F1156 : Fld Z h1150 b1151 zs1 "result" zs3 .null := D1150 (Or.inr (wd hw 38 rfl)) (ty := (.object zs2)) (by decide)
    show own_Goes p e below (T1150.setTop (mkF m 30 #[iv i0, iv i1, iv (i0 &&& (2147483647 : Int32)), iv (11 : Int32), rv w95, rv w59, .unset, .unset] [(.ref b1151)])) _
    refine own_via (fun t k => XS.dup X1150.here hx rfl (hb hby at_30) rfl rfl (XS.iloadN X1150.here hx rfl (hb hby at_31) rfl (XS.aload X1150.here hx rfl (hb hby at_32) rfl rfl (XS.aload X1150.here hx rfl (hb hby at_34) rfl rfl k)))) ?_
    show own_Goes p e below (T1150.setTop (mkF m 36 #[iv i0, iv i1, iv (i0 &&& (2147483647 : Int32)), iv (11 : Int32), rv w95, rv w59, .unset, .unset] [(.ref w95), (.ref w59), (.int (i0 &&& (2147483647 : Int32))), (.ref b1151), (.ref b1151)])) _
    have O1192 : Old Z n0 h1150 := (O0.ext E1150)
    obtain ⟨_, T1157, _, X1157, hQ1157, st1157⟩ := own_ci X1150 hx hZ hown (wd hw 20 rfl) (wd hw 21 rfl) (wd hw 22 rfl) (wd hw 9 rfl) rfl (by decide) (rm62 l Z a0 hw [] b1151 (i0 &&& (2147483647 : Int32)) w59 w95 (0 : Int32) h1150 n0 O1192 (own_nn_mask i0 (2147483647 : Int32) 31 (by decide) (by decide)) F1155 A1150 g1152 F1154 F1156) e1150 (g := (mkF m 36 #[iv i0, iv i1, iv (i0 &&& (2147483647 : Int32)), iv (11 : Int32), rv w95, rv w59, .unset, .unset] [(.ref w95), (.ref w59), (.int (i0 &&& (2147483647 : Int32))), (.ref b1151), (.ref b1151)])) rfl (by rw [hml]; rfl) (rest := [(.ref b1151)]) (W := 1) (lenOf pd_5 rfl) rfl (by show 2 * 0 + _ ≤ _; exact Nat.le_of_eq rfl) (hb hby at_36) (by decide) (by decide) (by decide) (by decide)
    obtain ⟨h1157, e1157⟩ : ∃ z, T1157.heap = z := ⟨_, rfl⟩
    rw [e1157] at hQ1157
    obtain ⟨rfl, Nq1157, K1157, ex1193, fx1194, fx1195, fx1196⟩ := hQ1157
    have N1157 := Fr.app N1148 Nq1157
    refine own_via (fun t k => st1157 t (XS.astore X1157.here hx rfl (hb hby at_39) rfl rfl (l' := #[iv i0, iv i1, iv (i0 &&& (2147483647 : Int32)), iv (11 : Int32), rv w95, rv w59, rv b1151, .unset]) rfl (XS.iloadN X1157.here hx rfl (hb hby at_41) rfl k))) ?_
    show own_Goes p e below (T1157.setTop (mkF m 42 #[iv i0, iv i1, iv (i0 &&& (2147483647 : Int32)), iv (11 : Int32), rv w95, rv w59, rv b1151, .unset] [(.int (i0 &&& (2147483647 : Int32)))])) _
    by_cases hc1197 : (i0 &&& (2147483647 : Int32)) = (0 : Int32)
    · refine own_via (fun t k => XS.ifYes X1157.here hx rfl (pc0 := 42) (pc' := 55) rfl (hb hby at_42) rfl ((if0 _ _).trans (teq hc1197).1) (by decide) (by decide) (XS.iconst X1157.here hx rfl (hb hby at_55) (XS.istore X1157.here hx rfl (hb hby at_56) rfl (l' := #[iv i0, iv i1, iv (i0 &&& (2147483647 : Int32)), iv (11 : Int32), rv w95, rv w59, rv b1151, iv (0 : Int32)]) rfl (XS.aload X1157.here hx rfl (hb hby at_58) rfl rfl k)))) ?_
      show own_Goes p e below (T1157.setTop (mkF m 60 #[iv i0, iv i1, iv (i0 &&& (2147483647 : Int32)), iv (11 : Int32), rv w95, rv w59, rv b1151, iv (0 : Int32)] [(.ref b1151)])) _
      have O1199 : Old Z n0 h1157 := (O1192.keep K1157 (allS g1152 all0))
      obtain ⟨_, T1198, _, X1198, hQ1198, st1198⟩ := own_cv X1157 hx hZ hown (wd hw 39 rfl) (wd hw 40 rfl) (wd hw 42 rfl) (wd hw 41 rfl) (wd hw 43 rfl) (wd hw 9 rfl) (by decide) (rm7 l Z a0 hw [] b1151 (i0 &&& (2147483647 : Int32)) h1157 n0 O1199 fx1195 hc1197) e1157 ex1193 (g := (mkF m 60 #[iv i0, iv i1, iv (i0 &&& (2147483647 : Int32)), iv (11 : Int32), rv w95, rv w59, rv b1151, iv (0 : Int32)] [(.ref b1151)])) rfl (by rw [hml]; rfl) (rest := []) (W := 0) (lenOf pd_6 rfl) rfl (by show 2 * 0 + _ ≤ _; exact Nat.le_of_eq rfl) (hb hby at_60) (by decide) (by decide) (by decide) (by decide)
      obtain ⟨rfl, Nq1198, hh1200⟩ := hQ1198
      have N1198 := Fr.app N1157 Nq1198
      refine own_via (fun t k => st1198 t (XS.iload X1198.here hx rfl (hb hby at_63) rfl (XS.icmpNo X1198.here hx rfl (hb hby at_65) rfl (teq (by decide : (0 : Int32) = (0 : Int32))).2 (XS.iconst X1198.here hx rfl (hb hby at_68) (XS.goto X1198.here hx rfl (pc0 := 69) (pc' := 73) rfl (hb hby at_69) (by decide) (by decide) k))))) ?_
      show own_Goes p e below (T1198.setTop (mkF m 73 #[iv i0, iv i1, iv (i0 &&& (2147483647 : Int32)), iv (11 : Int32), rv w95, rv w59, rv b1151, iv (0 : Int32)] [(.int (1 : Int32))])) _
      obtain ⟨fs, hr, hrun, hended, hW, hsame⟩ := X1198.leave (v := some (.int (1 : Int32))) (fun h => by rw [Bd.returns] at h; cases h)
      refine own_end (t := T1198.setFrames fs) ?_ ⟨_, hrun, hended, _, _, rfl, ?_, ⟨_, rfl⟩, hW, hsame.mono (by decide) (by decide)⟩
      · exact retN X1198 hx (t := .boolean) Bd.returns (by simp) (hb hby at_73) hr
      · exact ⟨rfl, N1198⟩
    · refine own_via (fun t k => XS.ifNo X1157.here hx rfl (hb hby at_42) rfl ((if0 _ _).trans (feq hc1197).1) (XS.iloadN X1157.here hx rfl (hb hby at_45) rfl (XS.bipush X1157.here hx rfl (hb hby at_46) (XS.icmpYes X1157.here hx rfl (pc0 := 48) (pc' := 55) rfl (hb hby at_48) rfl (flt (by decide : ¬ ((11 : Int32) < (6 : Int32)))).2.1 (by decide) (by decide) (XS.iconst X1157.here hx rfl (hb hby at_55) (XS.istore X1157.here hx rfl (hb hby at_56) rfl (l' := #[iv i0, iv i1, iv (i0 &&& (2147483647 : Int32)), iv (11 : Int32), rv w95, rv w59, rv b1151, iv (0 : Int32)]) rfl (XS.aload X1157.here hx rfl (hb hby at_58) rfl rfl k))))))) ?_
      show own_Goes p e below (T1157.setTop (mkF m 60 #[iv i0, iv i1, iv (i0 &&& (2147483647 : Int32)), iv (11 : Int32), rv w95, rv w59, rv b1151, iv (0 : Int32)] [(.ref b1151)])) _
      have O1225 : Old Z n0 h1157 := (O1192.keep K1157 (allS g1152 all0))
      obtain ⟨_, T1201, _, X1201, hQ1201, st1201⟩ := own_cv X1157 hx hZ hown (wd hw 39 rfl) (wd hw 40 rfl) (wd hw 42 rfl) (wd hw 41 rfl) (wd hw 43 rfl) (wd hw 9 rfl) (by decide) (rm64 l Z a0 hw [] b1151 (i0 &&& (2147483647 : Int32)) w95 h1157 n0 O1225 fx1195 hc1197 fx1196 SF_w95_game SE_w95) e1157 ex1193 (g := (mkF m 60 #[iv i0, iv i1, iv (i0 &&& (2147483647 : Int32)), iv (11 : Int32), rv w95, rv w59, rv b1151, iv (0 : Int32)] [(.ref b1151)])) rfl (by rw [hml]; rfl) (rest := []) (W := 0) (lenOf pd_6 rfl) rfl (by show 2 * 0 + _ ≤ _; exact Nat.le_of_eq rfl) (hb hby at_60) (by decide) (by decide) (by decide) (by decide)
      obtain ⟨rfl, Nq1201, hh1226⟩ := hQ1201
      have N1201 := Fr.app N1157 Nq1201
      refine own_via (fun t k => st1201 t (XS.iload X1201.here hx rfl (hb hby at_63) rfl (XS.icmpNo X1201.here hx rfl (hb hby at_65) rfl (teq (by decide : (0 : Int32) = (0 : Int32))).2 (XS.iconst X1201.here hx rfl (hb hby at_68) (XS.goto X1201.here hx rfl (pc0 := 69) (pc' := 73) rfl (hb hby at_69) (by decide) (by decide) k))))) ?_
      show own_Goes p e below (T1201.setTop (mkF m 73 #[iv i0, iv i1, iv (i0 &&& (2147483647 : Int32)), iv (11 : Int32), rv w95, rv w59, rv b1151, iv (0 : Int32)] [(.int (1 : Int32))])) _
      obtain ⟨fs, hr, hrun, hended, hW, hsame⟩ := X1201.leave (v := some (.int (1 : Int32))) (fun h => by rw [Bd.returns] at h; cases h)
      refine own_end (t := T1201.setFrames fs) ?_ ⟨_, hrun, hended, _, _, rfl, ?_, ⟨_, rfl⟩, hW, hsame.mono (by decide) (by decide)⟩
      · exact retN X1201 hx (t := .boolean) Bd.returns (by simp) (hb hby at_73) hr
      · exact ⟨rfl, N1201⟩
  · have qs1227 := qs
    rw [qs]
    show own_Goes p e below (s₁.setTop (mkF m 12 #[iv i0, iv i1, iv (i0 &&& (2147483647 : Int32)), .unset, .unset, .unset, .unset, .unset] [(.int (12 : Int32))])) _
    refine own_via (fun t k => XS.istoreN X0.here hx rfl (hb hby at_12) rfl (l' := #[iv i0, iv i1, iv (i0 &&& (2147483647 : Int32)), iv (12 : Int32), .unset, .unset, .unset, .unset]) rfl (XS.iloadN X0.here hx rfl (hb hby at_13) rfl k)) ?_
    obtain ⟨_, T1228, _, X1228, hQ1228, st1228⟩ := own_cs X0 hx hZ hown (wd hw 1 rfl) (wd hw 2 rfl) (wd hw 4 rfl) (wd hw 3 rfl) (by decide) (rm65 l Z a0 hw [] w92 h0 n0 O0 S_Result_NOT_PLAYED) e0 (g := (mkF m 14 #[iv i0, iv i1, iv (i0 &&& (2147483647 : Int32)), iv (12 : Int32), .unset, .unset, .unset, .unset] [(.int (12 : Int32))])) rfl (by rw [hml]; rfl) (rest := []) (W := 0) (lenOf pd_1 rfl) rfl (by show 2 * 0 + _ ≤ _; exact Nat.le_of_eq rfl) (hb hby at_14) (by decide) (by decide) (by decide) (by decide)
    obtain ⟨rfl, Nq1228, hh1237⟩ := hQ1228
    have N1228 := Fr.app N0 Nq1228
    refine own_via (fun t k => st1228 t (XS.astore X1228.here hx rfl (hb hby at_17) rfl rfl (l' := #[iv i0, iv i1, iv (i0 &&& (2147483647 : Int32)), iv (12 : Int32), rv w92, .unset, .unset, .unset]) rfl k)) ?_
    obtain ⟨T1238, X1238, e1238, st1238⟩ := getS2 X1228 hx hZ hown (host := "") (Or.inl (wd hw 8 rfl)) Via.refl hh1237 (S_RoundEntry_NONE.ext O0.2) (g := (mkF m 19 #[iv i0, iv i1, iv (i0 &&& (2147483647 : Int32)), iv (12 : Int32), rv w92, .unset, .unset, .unset] [])) rfl (hb hby at_19)
    refine own_via (fun t k => st1238 t k) ?_
    obtain ⟨_, T1239, _, X1239, hQ1239, st1239⟩ := own_cv X1238 hx hZ hown (wd hw 11 rfl) (wd hw 12 rfl) (wd hw 14 rfl) (wd hw 13 rfl) (wd hw 15 rfl) (wd hw 9 rfl) (by decide) (rm2 l Z a0 hw [] w57 w59 h0 n0 O0 SF_w57_colour) e1238 (SE_w57.ext O0.2) (g := (mkF m 22 #[iv i0, iv i1, iv (i0 &&& (2147483647 : Int32)), iv (12 : Int32), rv w92, .unset, .unset, .unset] [(.ref w57)])) rfl (by rw [hml]; rfl) (rest := []) (W := 0) (lenOf pd_2 rfl) rfl (by show 2 * 0 + _ ≤ _; exact Nat.le_of_eq rfl) (hb hby at_22) (by decide) (by decide) (by decide) (by decide)
    obtain ⟨rfl, Nq1239, hh1240⟩ := hQ1239
    have N1239 := Fr.app N1228 Nq1239
    refine own_via (fun t k => st1239 t (XS.astore X1239.here hx rfl (hb hby at_25) rfl rfl (l' := #[iv i0, iv i1, iv (i0 &&& (2147483647 : Int32)), iv (12 : Int32), rv w92, rv w59, .unset, .unset]) rfl k)) ?_
    obtain ⟨T1241, h1241, X1241, e1241, E1241, A1241, D1241, -, st1241⟩ := newO X1239 hx hZ hown (wd hw 18 rfl) (wd hw 19 rfl) (wd hw 9 rfl) hh1240 (g := (mkF m 27 #[iv i0, iv i1, iv (i0 &&& (2147483647 : Int32)), iv (12 : Int32), rv w92, rv w59, .unset, .unset] [])) rfl (hb hby at_27) (by decide) (by decide)
    obtain ⟨b1242, q1241⟩ : ∃ z, z = h0.size := ⟨_, rfl⟩
    rw [← q1241] at A1241 D1241 st1241
    refine own_via (fun t k => st1241 t k) ?_
    have g1243 : n0 ≤ b1242 := Nat.le_trans (own_old O0) (Nat.le_of_eq q1241.symm)
    have B1244 : h0.size ≤ b1242 := Nat.le_trans (Nat.le_refl _) (Nat.le_of_eq q1241.symm)
    have F1245 : Fld Z h1241 b1242 zs1 "colour" zs6 .null := D1241 (Or.inr (wd hw 17 rfl)) (ty := (.object zs7)) (by decide)
    have F1246 : Fld Z h1241 b1242 zs1 "opponent" "I" (.int (0 : Int32)) := D1241 (Or.inr (wd hw 36 rfl)) (ty := .int) (by decide)
    have F1247 : Fld Z h1241 b1242 zs1 "result" zs3 .null := D1241 (Or.inr (wd hw 38 rfl)) (ty := (.object zs2)) (by decide)
    show own_Goes p e below (T1241.setTop (mkF m 30 #[iv i0, iv i1, iv (i0 &&& (2147483647 : Int32)), iv (12 : Int32), rv w92, rv w59, .unset, .unset] [(.ref b1242)])) _
    refine own_via (fun t k => XS.dup X1241.here hx rfl (hb hby at_30) rfl rfl (XS.iloadN X1241.here hx rfl (hb hby at_31) rfl (XS.aload X1241.here hx rfl (hb hby at_32) rfl rfl (XS.aload X1241.here hx rfl (hb hby at_34) rfl rfl k)))) ?_
    show own_Goes p e below (T1241.setTop (mkF m 36 #[iv i0, iv i1, iv (i0 &&& (2147483647 : Int32)), iv (12 : Int32), rv w92, rv w59, .unset, .unset] [(.ref w92), (.ref w59), (.int (i0 &&& (2147483647 : Int32))), (.ref b1242), (.ref b1242)])) _
    have O1283 : Old Z n0 h1241 := (O0.ext E1241)
    obtain ⟨_, T1248, _, X1248, hQ1248, st1248⟩ := own_ci X1241 hx hZ hown (wd hw 20 rfl) (wd hw 21 rfl) (wd hw 22 rfl) (wd hw 9 rfl) rfl (by decide) (rm67 l Z a0 hw [] b1242 (i0 &&& (2147483647 : Int32)) w59 w92 (0 : Int32) h1241 n0 O1283 (own_nn_mask i0 (2147483647 : Int32) 31 (by decide) (by decide)) F1246 A1241 g1243 F1245 F1247) e1241 (g := (mkF m 36 #[iv i0, iv i1, iv (i0 &&& (2147483647 : Int32)), iv (12 : Int32), rv w92, rv w59, .unset, .unset] [(.ref w92), (.ref w59), (.int (i0 &&& (2147483647 : Int32))), (.ref b1242), (.ref b1242)])) rfl (by rw [hml]; rfl) (rest := [(.ref b1242)]) (W := 1) (lenOf pd_5 rfl) rfl (by show 2 * 0 + _ ≤ _; exact Nat.le_of_eq rfl) (hb hby at_36) (by decide) (by decide) (by decide) (by decide)
    obtain ⟨h1248, e1248⟩ : ∃ z, T1248.heap = z := ⟨_, rfl⟩
    rw [e1248] at hQ1248
    obtain ⟨rfl, Nq1248, K1248, ex1284, fx1285, fx1286, fx1287⟩ := hQ1248
    have N1248 := Fr.app N1239 Nq1248
    refine own_via (fun t k => st1248 t (XS.astore X1248.here hx rfl (hb hby at_39) rfl rfl (l' := #[iv i0, iv i1, iv (i0 &&& (2147483647 : Int32)), iv (12 : Int32), rv w92, rv w59, rv b1242, .unset]) rfl (XS.iloadN X1248.here hx rfl (hb hby at_41) rfl k))) ?_
    show own_Goes p e below (T1248.setTop (mkF m 42 #[iv i0, iv i1, iv (i0 &&& (2147483647 : Int32)), iv (12 : Int32), rv w92, rv w59, rv b1242, .unset] [(.int (i0 &&& (2147483647 : Int32)))])) _
    by_cases hc1288 : (i0 &&& (2147483647 : Int32)) = (0 : Int32)
    · refine own_via (fun t k => XS.ifYes X1248.here hx rfl (pc0 := 42) (pc' := 55) rfl (hb hby at_42) rfl ((if0 _ _).trans (teq hc1288).1) (by decide) (by decide) (XS.iconst X1248.here hx rfl (hb hby at_55) (XS.istore X1248.here hx rfl (hb hby at_56) rfl (l' := #[iv i0, iv i1, iv (i0 &&& (2147483647 : Int32)), iv (12 : Int32), rv w92, rv w59, rv b1242, iv (0 : Int32)]) rfl (XS.aload X1248.here hx rfl (hb hby at_58) rfl rfl k)))) ?_
      show own_Goes p e below (T1248.setTop (mkF m 60 #[iv i0, iv i1, iv (i0 &&& (2147483647 : Int32)), iv (12 : Int32), rv w92, rv w59, rv b1242, iv (0 : Int32)] [(.ref b1242)])) _
      have O1290 : Old Z n0 h1248 := (O1283.keep K1248 (allS g1243 all0))
      obtain ⟨_, T1289, _, X1289, hQ1289, st1289⟩ := own_cv X1248 hx hZ hown (wd hw 39 rfl) (wd hw 40 rfl) (wd hw 42 rfl) (wd hw 41 rfl) (wd hw 43 rfl) (wd hw 9 rfl) (by decide) (rm7 l Z a0 hw [] b1242 (i0 &&& (2147483647 : Int32)) h1248 n0 O1290 fx1286 hc1288) e1248 ex1284 (g := (mkF m 60 #[iv i0, iv i1, iv (i0 &&& (2147483647 : Int32)), iv (12 : Int32), rv w92, rv w59, rv b1242, iv (0 : Int32)] [(.ref b1242)])) rfl (by rw [hml]; rfl) (rest := []) (W := 0) (lenOf pd_6 rfl) rfl (by show 2 * 0 + _ ≤ _; exact Nat.le_of_eq rfl) (hb hby at_60) (by decide) (by decide) (by decide) (by decide)
      obtain ⟨rfl, Nq1289, hh1291⟩ := hQ1289
      have N1289 := Fr.app N1248 Nq1289
      refine own_via (fun t k => st1289 t (XS.iload X1289.here hx rfl (hb hby at_63) rfl (XS.icmpNo X1289.here hx rfl (hb hby at_65) rfl (teq (by decide : (0 : Int32) = (0 : Int32))).2 (XS.iconst X1289.here hx rfl (hb hby at_68) (XS.goto X1289.here hx rfl (pc0 := 69) (pc' := 73) rfl (hb hby at_69) (by decide) (by decide) k))))) ?_
      show own_Goes p e below (T1289.setTop (mkF m 73 #[iv i0, iv i1, iv (i0 &&& (2147483647 : Int32)), iv (12 : Int32), rv w92, rv w59, rv b1242, iv (0 : Int32)] [(.int (1 : Int32))])) _
      obtain ⟨fs, hr, hrun, hended, hW, hsame⟩ := X1289.leave (v := some (.int (1 : Int32))) (fun h => by rw [Bd.returns] at h; cases h)
      refine own_end (t := T1289.setFrames fs) ?_ ⟨_, hrun, hended, _, _, rfl, ?_, ⟨_, rfl⟩, hW, hsame.mono (by decide) (by decide)⟩
      · exact retN X1289 hx (t := .boolean) Bd.returns (by simp) (hb hby at_73) hr
      · exact ⟨rfl, N1289⟩
    · refine own_via (fun t k => XS.ifNo X1248.here hx rfl (hb hby at_42) rfl ((if0 _ _).trans (feq hc1288).1) (XS.iloadN X1248.here hx rfl (hb hby at_45) rfl (XS.bipush X1248.here hx rfl (hb hby at_46) (XS.icmpYes X1248.here hx rfl (pc0 := 48) (pc' := 55) rfl (hb hby at_48) rfl (flt (by decide : ¬ ((12 : Int32) < (6 : Int32)))).2.1 (by decide) (by decide) (XS.iconst X1248.here hx rfl (hb hby at_55) (XS.istore X1248.here hx rfl (hb hby at_56) rfl (l' := #[iv i0, iv i1, iv (i0 &&& (2147483647 : Int32)), iv (12 : Int32), rv w92, rv w59, rv b1242, iv (0 : Int32)]) rfl (XS.aload X1248.here hx rfl (hb hby at_58) rfl rfl k))))))) ?_
      show own_Goes p e below (T1248.setTop (mkF m 60 #[iv i0, iv i1, iv (i0 &&& (2147483647 : Int32)), iv (12 : Int32), rv w92, rv w59, rv b1242, iv (0 : Int32)] [(.ref b1242)])) _
      have O1316 : Old Z n0 h1248 := (O1283.keep K1248 (allS g1243 all0))
      obtain ⟨_, T1292, _, X1292, hQ1292, st1292⟩ := own_cv X1248 hx hZ hown (wd hw 39 rfl) (wd hw 40 rfl) (wd hw 42 rfl) (wd hw 41 rfl) (wd hw 43 rfl) (wd hw 9 rfl) (by decide) (rm69 l Z a0 hw [] b1242 (i0 &&& (2147483647 : Int32)) w92 h1248 n0 O1316 fx1286 hc1288 fx1287 SF_w92_game SE_w92) e1248 ex1284 (g := (mkF m 60 #[iv i0, iv i1, iv (i0 &&& (2147483647 : Int32)), iv (12 : Int32), rv w92, rv w59, rv b1242, iv (0 : Int32)] [(.ref b1242)])) rfl (by rw [hml]; rfl) (rest := []) (W := 0) (lenOf pd_6 rfl) rfl (by show 2 * 0 + _ ≤ _; exact Nat.le_of_eq rfl) (hb hby at_60) (by decide) (by decide) (by decide) (by decide)
      obtain ⟨rfl, Nq1292, hh1317⟩ := hQ1292
      have N1292 := Fr.app N1248 Nq1292
      refine own_via (fun t k => st1292 t (XS.iload X1292.here hx rfl (hb hby at_63) rfl (XS.icmpNo X1292.here hx rfl (hb hby at_65) rfl (teq (by decide : (0 : Int32) = (0 : Int32))).2 (XS.iconst X1292.here hx rfl (hb hby at_68) (XS.goto X1292.here hx rfl (pc0 := 69) (pc' := 73) rfl (hb hby at_69) (by decide) (by decide) k))))) ?_
      show own_Goes p e below (T1292.setTop (mkF m 73 #[iv i0, iv i1, iv (i0 &&& (2147483647 : Int32)), iv (12 : Int32), rv w92, rv w59, rv b1242, iv (0 : Int32)] [(.int (1 : Int32))])) _
      obtain ⟨fs, hr, hrun, hended, hW, hsame⟩ := X1292.leave (v := some (.int (1 : Int32))) (fun h => by rw [Bd.returns] at h; cases h)
      refine own_end (t := T1292.setFrames fs) ?_ ⟨_, hrun, hended, _, _, rfl, ?_, ⟨_, rfl⟩, hW, hsame.mono (by decide) (by decide)⟩
      · exact retN X1292 hx (t := .boolean) Bd.returns (by simp) (hb hby at_73) hr
      · exact ⟨rfl, N1292⟩
set_option maxRecDepth 65536 in
set_option maxHeartbeats 40000000 in
theorem comes_1 {Post : Tables → Env → Array Value → State → Outcome → State → Prop} (hpost : ∀ tb e args s v u, (limb_1_1.after args s (.returned v) u = true ∧ limb_1_2.after args s (.returned v) u = true ∧ True) → FrameEnd s (.returned v) u (Jvm.fieldLocs frame_1_writes args s ++ Jvm.arrayLocs frame_1_arrays args s ++ Jvm.staticLocs frame_1_statics s) 16 128 → Post tb e args s (.returned v) u) :
    ArmFor flags0 classFile x code maxLocals ret World_1 tables_1 room_1 Calls_1 rest_1 Pre_1 Post := by
  intro l hfl _ _ p e ha hc hk s m args below hf hA hF happ hP
  obtain ⟨hcalls, hrest, hpre⟩ := hP
  obtain ⟨-, -, -, hnamed, -, -, -, hat⟩ := (Spec.applies_iff hf).mp happ
  obtain ⟨hg, hn⟩ := and_e (Cond.before_iff.mp (show (Jvm.Cond.and given_1 narrow_1).before args s = true from hpre))
  obtain ⟨g1318, g1319⟩ := and_e hg
  obtain ⟨g1320, g1321⟩ := and_e g1319
  obtain ⟨w0, w1, rfl⟩ : ∃ w0 w1 : Value, args = #[w0, w1] := by
    have hs : args.size = 2 := by simpa [Cond.value, given_1] using g1318
    obtain ⟨L⟩ := args
    match L, hs with
    | [w0, w1], _ => exact ⟨w0, w1, rfl⟩
  have hw := fun d (hd : d ∈ tables_1) => atoms_spec (ws := Jvm.Cond.code x code maxLocals ret :: tables_1) hat d (List.mem_cons_of_mem _ hd)
  have hfit : Fit s := fun {y c} hc i hi => by
    obtain ⟨ha, rfl⟩ := Array.getElem?_eq_some_iff.mp hc
    have q := List.all_eq_true.mp ((Array.all_eq_true_iff_forall_mem.mp hF) _ (Array.getElem_mem ha)) i (List.mem_range.mpr hi)
    simpa [Array.getElem?_eq_getElem hi] using q
  obtain ⟨n1, n2⟩ := and_e hn
  obtain ⟨n3, n4⟩ := and_e n2
  obtain ⟨n5, n6⟩ := and_e n4
  obtain ⟨n7, n8⟩ := and_e n6
  obtain ⟨n9, n10⟩ := and_e n8
  obtain ⟨n11, n12⟩ := and_e n10
  obtain ⟨n13, n14⟩ := and_e n12
  obtain ⟨n15, n16⟩ := and_e n14
  obtain ⟨n17, n18⟩ := and_e n16
  obtain ⟨n19, n20⟩ := and_e n18
  obtain ⟨n21, n22⟩ := and_e n20
  obtain ⟨n23, n24⟩ := and_e n22
  obtain ⟨n25, n26⟩ := and_e n24
  obtain ⟨n27, n28⟩ := and_e n26
  obtain ⟨n29, n30⟩ := and_e n28
  obtain ⟨n31, n32⟩ := and_e n30
  obtain ⟨n33, n34⟩ := and_e n32
  obtain ⟨n35, n36⟩ := and_e n34
  obtain ⟨n37, n38⟩ := and_e n36
  obtain ⟨n39, n40⟩ := and_e n38
  obtain ⟨n41, n42⟩ := and_e n40
  obtain ⟨n43, n44⟩ := and_e n42
  obtain ⟨n45, n46⟩ := and_e n44
  obtain ⟨n47, n48⟩ := and_e n46
  obtain ⟨n49, n50⟩ := and_e n48
  obtain ⟨n51, n52⟩ := and_e n50
  obtain ⟨n53, n54⟩ := and_e n52
  obtain ⟨w55, ev56⟩ := exa_v n1
  have S_Result_UNRATED_WIN : Sta s s.heap zs2 "UNRATED_WIN" zs3 (.ref w55) := Sta.start ev56 (Or.inr ⟨(wd hw 6 rfl), (wd hw 7 rfl)⟩)
  have SE_w55 : Exa s s.heap w55 zs2 := Exa.start ev56 n1
  obtain ⟨w57, ev58⟩ := exa_v n3
  have S_RoundEntry_NONE : Sta s s.heap zs1 "NONE" "Lcom/example/rondier/rondier/model/RoundEntry;" (.ref w57) := Sta.start ev58 (Or.inr ⟨(wd hw 9 rfl), (wd hw 10 rfl)⟩)
  have SE_w57 : Exa s s.heap w57 zs1 := Exa.start ev58 n3
  obtain ⟨w59, ev60⟩ := exa_v n5
  have SF_w57_colour : Fld s s.heap w57 zs1 "colour" zs6 (.ref w59) := Fld.start ((fld_at ev58).symm.trans ev60)
  have SE_w59 : Exa s s.heap w59 zs7 := Exa.start ev60 n5
  obtain ⟨w61, ev62⟩ := exa_v n7
  have S_Result_DRAW : Sta s s.heap zs2 "DRAW" zs3 (.ref w61) := Sta.start ev62 (Or.inr ⟨(wd hw 6 rfl), (wd hw 45 rfl)⟩)
  have SE_w61 : Exa s s.heap w61 zs2 := Exa.start ev62 n7
  have ev63 := Cond.eq_int (show (Jvm.Cond.eq _ _).holds _ _ _ _ _ = true from Cond.before_iff.mpr n9) rfl
  have SF_w61_game : Fld s s.heap w61 zs2 "game" "Z" (.int (1 : Int32)) := Fld.start ((fld_at ev62).symm.trans ev63)
  obtain ⟨w64, ev65⟩ := exa_v n11
  have S_Result_UNRATED_DRAW : Sta s s.heap zs2 "UNRATED_DRAW" zs3 (.ref w64) := Sta.start ev65 (Or.inr ⟨(wd hw 6 rfl), (wd hw 54 rfl)⟩)
  have SE_w64 : Exa s s.heap w64 zs2 := Exa.start ev65 n11
  have ev66 := Cond.eq_int (show (Jvm.Cond.eq _ _).holds _ _ _ _ _ = true from Cond.before_iff.mpr n13) rfl
  have SF_w64_game : Fld s s.heap w64 zs2 "game" "Z" (.int (1 : Int32)) := Fld.start ((fld_at ev65).symm.trans ev66)
  obtain ⟨w67, ev68⟩ := exa_v n15
  have S_Result_WIN : Sta s s.heap zs2 "WIN" zs3 (.ref w67) := Sta.start ev68 (Or.inr ⟨(wd hw 6 rfl), (wd hw 56 rfl)⟩)
  have SE_w67 : Exa s s.heap w67 zs2 := Exa.start ev68 n15
  have ev69 := Cond.eq_int (show (Jvm.Cond.eq _ _).holds _ _ _ _ _ = true from Cond.before_iff.mpr n17) rfl
  have SF_w67_game : Fld s s.heap w67 zs2 "game" "Z" (.int (1 : Int32)) := Fld.start ((fld_at ev68).symm.trans ev69)
  obtain ⟨w70, ev71⟩ := exa_v n19
  have S_Result_HALF_POINT_BYE : Sta s s.heap zs2 "HALF_POINT_BYE" zs3 (.ref w70) := Sta.start ev71 (Or.inr ⟨(wd hw 6 rfl), (wd hw 58 rfl)⟩)
  have SE_w70 : Exa s s.heap w70 zs2 := Exa.start ev71 n19
  have ev72 := Cond.eq_int (show (Jvm.Cond.eq _ _).holds _ _ _ _ _ = true from Cond.before_iff.mpr n21) rfl
  have SF_w70_game : Fld s s.heap w70 zs2 "game" "Z" (.int (0 : Int32)) := Fld.start ((fld_at ev71).symm.trans ev72)
  obtain ⟨w73, ev74⟩ := exa_v n23
  have S_Result_UNRATED_LOSS : Sta s s.heap zs2 "UNRATED_LOSS" zs3 (.ref w73) := Sta.start ev74 (Or.inr ⟨(wd hw 6 rfl), (wd hw 60 rfl)⟩)
  have SE_w73 : Exa s s.heap w73 zs2 := Exa.start ev74 n23
  have ev75 := Cond.eq_int (show (Jvm.Cond.eq _ _).holds _ _ _ _ _ = true from Cond.before_iff.mpr n25) rfl
  have SF_w73_game : Fld s s.heap w73 zs2 "game" "Z" (.int (1 : Int32)) := Fld.start ((fld_at ev74).symm.trans ev75)
  obtain ⟨w76, ev77⟩ := exa_v n27
  have S_Result_PAIRING_ALLOCATED_BYE : Sta s s.heap zs2 "PAIRING_ALLOCATED_BYE" zs3 (.ref w76) := Sta.start ev77 (Or.inr ⟨(wd hw 6 rfl), (wd hw 62 rfl)⟩)
  have SE_w76 : Exa s s.heap w76 zs2 := Exa.start ev77 n27
  have ev78 := Cond.eq_int (show (Jvm.Cond.eq _ _).holds _ _ _ _ _ = true from Cond.before_iff.mpr n29) rfl
  have SF_w76_game : Fld s s.heap w76 zs2 "game" "Z" (.int (0 : Int32)) := Fld.start ((fld_at ev77).symm.trans ev78)
  obtain ⟨w79, ev80⟩ := exa_v n31
  have S_Result_FORFEIT_WIN : Sta s s.heap zs2 "FORFEIT_WIN" zs3 (.ref w79) := Sta.start ev80 (Or.inr ⟨(wd hw 6 rfl), (wd hw 64 rfl)⟩)
  have SE_w79 : Exa s s.heap w79 zs2 := Exa.start ev80 n31
  have ev81 := Cond.eq_int (show (Jvm.Cond.eq _ _).holds _ _ _ _ _ = true from Cond.before_iff.mpr n33) rfl
  have SF_w79_game : Fld s s.heap w79 zs2 "game" "Z" (.int (0 : Int32)) := Fld.start ((fld_at ev80).symm.trans ev81)
  obtain ⟨w82, ev83⟩ := exa_v n35
  have S_Result_LOSS : Sta s s.heap zs2 "LOSS" zs3 (.ref w82) := Sta.start ev83 (Or.inr ⟨(wd hw 6 rfl), (wd hw 66 rfl)⟩)
  have SE_w82 : Exa s s.heap w82 zs2 := Exa.start ev83 n35
  have ev84 := Cond.eq_int (show (Jvm.Cond.eq _ _).holds _ _ _ _ _ = true from Cond.before_iff.mpr n37) rfl
  have SF_w82_game : Fld s s.heap w82 zs2 "game" "Z" (.int (1 : Int32)) := Fld.start ((fld_at ev83).symm.trans ev84)
  obtain ⟨w85, ev86⟩ := exa_v n39
  have S_Result_FORFEIT_LOSS : Sta s s.heap zs2 "FORFEIT_LOSS" zs3 (.ref w85) := Sta.start ev86 (Or.inr ⟨(wd hw 6 rfl), (wd hw 68 rfl)⟩)
  have SE_w85 : Exa s s.heap w85 zs2 := Exa.start ev86 n39
  have ev87 := Cond.eq_int (show (Jvm.Cond.eq _ _).holds _ _ _ _ _ = true from Cond.before_iff.mpr n41) rfl
  have SF_w85_game : Fld s s.heap w85 zs2 "game" "Z" (.int (0 : Int32)) := Fld.start ((fld_at ev86).symm.trans ev87)
  obtain ⟨w88, ev89⟩ := exa_v n43
  have S_Result_FULL_POINT_BYE : Sta s s.heap zs2 "FULL_POINT_BYE" zs3 (.ref w88) := Sta.start ev89 (Or.inr ⟨(wd hw 6 rfl), (wd hw 70 rfl)⟩)
  have SE_w88 : Exa s s.heap w88 zs2 := Exa.start ev89 n43
  have ev90 := Cond.eq_int (show (Jvm.Cond.eq _ _).holds _ _ _ _ _ = true from Cond.before_iff.mpr n45) rfl
  have SF_w88_game : Fld s s.heap w88 zs2 "game" "Z" (.int (0 : Int32)) := Fld.start ((fld_at ev89).symm.trans ev90)
  have ev91 := Cond.eq_int (show (Jvm.Cond.eq _ _).holds _ _ _ _ _ = true from Cond.before_iff.mpr n47) rfl
  have SF_w55_game : Fld s s.heap w55 zs2 "game" "Z" (.int (1 : Int32)) := Fld.start ((fld_at ev56).symm.trans ev91)
  obtain ⟨w92, ev93⟩ := exa_v n49
  have S_Result_NOT_PLAYED : Sta s s.heap zs2 "NOT_PLAYED" zs3 (.ref w92) := Sta.start ev93 (Or.inr ⟨(wd hw 6 rfl), (wd hw 72 rfl)⟩)
  have SE_w92 : Exa s s.heap w92 zs2 := Exa.start ev93 n49
  have ev94 := Cond.eq_int (show (Jvm.Cond.eq _ _).holds _ _ _ _ _ = true from Cond.before_iff.mpr n51) rfl
  have SF_w92_game : Fld s s.heap w92 zs2 "game" "Z" (.int (0 : Int32)) := Fld.start ((fld_at ev93).symm.trans ev94)
  obtain ⟨w95, ev96⟩ := exa_v n53
  have S_Result_ZERO_POINT_BYE : Sta s s.heap zs2 "ZERO_POINT_BYE" zs3 (.ref w95) := Sta.start ev96 (Or.inr ⟨(wd hw 6 rfl), (wd hw 74 rfl)⟩)
  have SE_w95 : Exa s s.heap w95 zs2 := Exa.start ev96 n53
  have ev97 := Cond.eq_int (show (Jvm.Cond.eq _ _).holds _ _ _ _ _ = true from Cond.before_iff.mpr n54) rfl
  have SF_w95_game : Fld s s.heap w95 zs2 "game" "Z" (.int (0 : Int32)) := Fld.start ((fld_at ev96).symm.trans ev97)
  obtain ⟨i0, ei0⟩ := is_v g1320
  obtain rfl : w0 = (.int i0) := Option.some.inj ei0
  obtain ⟨i1, ei1⟩ := is_v g1321
  obtain rfl : w1 = (.int i1) := Option.some.inj ei1
  obtain ⟨n, o, h1, h2, h3, _, L, rfl, ⟨rfl, N⟩, hq⟩ := rm0 l s _ hw tables_1 i0 i1 w67 w57 w59 w61 w82 w55 w64 w73 w79 w85 w76 w88 w70 w95 w92 s.heap s.heap.size (Old.start s) S_Result_WIN S_RoundEntry_NONE SF_w57_colour SE_w57 SF_w67_game SE_w67 S_Result_DRAW SF_w61_game SE_w61 S_Result_LOSS SF_w82_game SE_w82 S_Result_UNRATED_WIN SF_w55_game SE_w55 S_Result_UNRATED_DRAW SF_w64_game SE_w64 S_Result_UNRATED_LOSS SF_w73_game SE_w73 S_Result_FORFEIT_WIN SF_w79_game SE_w79 S_Result_FORFEIT_LOSS SF_w85_game SE_w85 S_Result_PAIRING_ALLOCATED_BYE SF_w76_game SE_w76 S_Result_FULL_POINT_BYE SF_w88_game SE_w88 S_Result_HALF_POINT_BYE SF_w70_game SE_w70 S_Result_ZERO_POINT_BYE SF_w95_game SE_w95 S_Result_NOT_PLAYED SF_w92_game SE_w92 p e ha hc hk s m _ below hf ((Spec.applies_iff_loose hf).mp happ).1 ⟨rfl, State.Warmed39.refl s, rfl⟩ trivial
  refine ⟨n, _, h1, h2, h3, hpost _ _ _ _ _ _ ⟨Cond.after_iff.mpr rfl, Cond.after_iff.mpr (eq_i res_at (Term.int_eval (1)) rfl), trivial⟩ ⟨hq.1, hq.2.1, (hq.2.2.sift fun y hy => Or.inr (N y hy)).mono (by decide) (by decide)⟩⟩
theorem main_1_1 : Claimed_1_1 := comes_1 fun _ _ _ _ _ _ h hF => ⟨h.1, hF⟩
theorem main_1_2 : Claimed_1_2 := comes_1 fun _ _ _ _ _ _ h hF => ⟨h.2.1, hF⟩
end Jvm.Pilot.@@N@@
namespace Jvm.Pilot.@@N@@
open Jvm Jvm.ClassFile Sem Op Lib Jvm.Free Jvm.Stand Jvm.Pilot.@@N@@.Jvm.D
/-! MADE BY PROGRAM (witnessworld.py) out of the Statement's table words and the real class files: 16 classes; the members and pool entries that the words name. The judged class is class 1, her method 2. -/
namespace start1
open Jvm.ClassFile
def u (s : String) : CpInfo := .utf8 (stringToUtf16 s)
/-- a pool by its gaps: so many unusable entries, then the entry; so many at the end -/
def gap : Nat → List CpInfo → List CpInfo
  | 0, r => r
  | n + 1, r => .unusable :: gap n r
def poolList (es : List (Nat × CpInfo)) (last : Nat) : List CpInfo := es.foldr (fun e r => gap e.1 (e.2 :: r)) (gap last [])
def pool (es : List (Nat × CpInfo)) (last : Nat) : Array CpInfo := ⟨poolList es last⟩
def fileOf (pool : Array CpInfo) (this : Nat) (attrs : Array Attribute := #[]) (ms : Array MethodInfo := #[]) (fl : Nat := 33) (sup : Nat := 0) (ifs : Array Nat := #[]) (fds : Array FieldInfo := #[]) : ClassFile where
  minorVersion := 0
  majorVersion := 65
  constantPool := pool
  accessFlags := fl
  thisClass := this
  superClass := sup
  interfaces := ifs
  fields := fds
  methods := ms
  attributes := attrs
def plain (name : String) (sup : Option ClassId) : Class where
  name := name
  kind := .ordinary
  loader := none
  accessFlags := 33
  super := sup
  interfaces := #[]
  cf := none
  fields := #[]
  methods := #[]
  instanceTypes := #[]
  staticTypes := #[]
  resolved := #[]
  callSites := []
  init := .initialized
  statics := none
  mirror := none

def pool0 : Array CpInfo := pool [(5, u "<init>"), (0, u "()V"), (1, .class_ 10), (1, u "java/lang/Object")] 113

def k0c0 : Code := { maxStack := 0, maxLocals := 1, code := object_method_1_code, exceptionTable := #[], attributes := #[] }
def k0m0 : Method := { name := "<init>", desc := "()V", sig := { parameters := [], returnType := none }, accessFlags := 1, code := some k0c0 }
/-- java/lang/Object -/
def k0 : Class := { plain "java/lang/Object" none with
  accessFlags := 33
  interfaces := #[]
  cf := some (fileOf pool0 8 #[] #[{ accessFlags := 1, nameIndex := 5, descriptorIndex := 6, attributes := #[] }] 33 0 #[] #[])
  fields := #[]
  methods := #[k0m0]
  instanceTypes := #[]
  staticTypes := #[]
  resolved := Array.replicate 124 none
  statics := none }

def pool1 : Array CpInfo := pool [(2, .class_ 4), (1, u "java/lang/Object"), (0, u "<init>"), (0, u "()V"), (0, .fieldref 8 9), (0, .class_ 10), (0, .nameAndType 11 12), (0, u "com/example/rondier/rondier/model/Result"), (0, u "WIN"), (0, u "Lcom/example/rondier/rondier/model/Result;"), (0, .fieldref 8 14), (0, .nameAndType 15 12), (0, u "DRAW"), (0, .fieldref 8 17), (0, .nameAndType 18 12), (0, u "LOSS"), (0, .fieldref 8 20), (0, .nameAndType 21 12), (0, u "UNRATED_WIN"), (0, .fieldref 8 23), (0, .nameAndType 24 12), (0, u "UNRATED_DRAW"), (0, .fieldref 8 26), (0, .nameAndType 27 12), (0, u "UNRATED_LOSS"), (0, .fieldref 8 29), (0, .nameAndType 30 12), (0, u "FORFEIT_WIN"), (0, .fieldref 8 32), (0, .nameAndType 33 12), (0, u "FORFEIT_LOSS"), (0, .fieldref 8 35), (0, .nameAndType 36 12), (0, u "PAIRING_ALLOCATED_BYE"), (0, .fieldref 8 38), (0, .nameAndType 39 12), (0, u "FULL_POINT_BYE"), (0, .fieldref 8 41), (0, .nameAndType 42 12), (0, u "HALF_POINT_BYE"), (0, .fieldref 8 44), (0, .nameAndType 45 12), (0, u "ZERO_POINT_BYE"), (0, .fieldref 8 47), (0, .nameAndType 48 12), (0, u "NOT_PLAYED"), (0, .integer 2147483647), (0, .methodref 51 52), (0, .class_ 53), (0, .nameAndType 54 55), (0, u "com/example/rondier/rondier/model/RoundEntryIsPlayedGamePinLaw"), (0, u "pick"), (0, u "(I)Lcom/example/rondier/rondier/model/Result;"), (0, .fieldref 57 58), (0, .class_ 59), (0, .nameAndType 60 61), (0, u "com/example/rondier/rondier/model/RoundEntry"), (0, u "NONE"), (0, u "Lcom/example/rondier/rondier/model/RoundEntry;"), (0, .methodref 57 63), (0, .nameAndType 64 65), (0, u "colour"), (0, u "()Ljava/util/Optional;"), (0, .methodref 57 67), (0, .nameAndType 5 68), (0, u "(ILjava/util/Optional;Lcom/example/rondier/rondier/model/Result;)V"), (0, .methodref 57 70), (0, .nameAndType 71 72), (0, u "isPlayedGame"), (0, u "()Z"), (3, u "law"), (0, u "(II)Z")] 4

def k1m0 : Method := { name := "<init>", desc := "()V", sig := { parameters := [], returnType := none }, accessFlags := 1, code := none }
def k1c1 : Code := { maxStack := 2, maxLocals := 1, code := method_2_code, exceptionTable := #[], attributes := #[] }
def k1m1 : Method := { name := "pick", desc := "(I)Lcom/example/rondier/rondier/model/Result;", sig := { parameters := [.int], returnType := some (.object "com/example/rondier/rondier/model/Result") }, accessFlags := 10, code := some k1c1 }
def k1c2 : Code := { maxStack := 5, maxLocals := 8, code := code, exceptionTable := #[], attributes := #[] }
def k1m2 : Method := { name := "law", desc := "(II)Z", sig := { parameters := [.int, .int], returnType := some .boolean }, accessFlags := 9, code := some k1c2 }
/-- com/example/rondier/rondier/model/RoundEntryIsPlayedGamePinLaw -/
def k1 : Class := { plain "com/example/rondier/rondier/model/RoundEntryIsPlayedGamePinLaw" (some 0) with
  accessFlags := 49
  interfaces := #[]
  cf := some (fileOf pool1 51 #[] #[{ accessFlags := 1, nameIndex := 5, descriptorIndex := 6, attributes := #[] }, { accessFlags := 10, nameIndex := 54, descriptorIndex := 55, attributes := #[] }, { accessFlags := 9, nameIndex := 76, descriptorIndex := 77, attributes := #[] }] 49 2 #[] #[])
  fields := #[]
  methods := #[k1m0, k1m1, k1m2]
  instanceTypes := #[]
  staticTypes := #[]
  resolved := Array.replicate 82 none
  statics := none }

def pool2 : Array CpInfo := pool [(1, .class_ 2), (0, u "java/lang/constant/Constable"), (0, .class_ 4), (0, u "java/lang/Object")] 6

/-- java/lang/constant/Constable -/
def k2 : Class := { plain "java/lang/constant/Constable" (some 0) with
  accessFlags := 1537
  interfaces := #[]
  cf := some (fileOf pool2 1 #[] #[] 1537 3 #[] #[])
  fields := #[]
  methods := #[]
  instanceTypes := #[]
  staticTypes := #[]
  resolved := Array.replicate 11 none
  statics := none }

def pool3 : Array CpInfo := pool [(1, .class_ 2), (0, u "java/lang/Comparable"), (0, .class_ 4), (0, u "java/lang/Object")] 7

/-- java/lang/Comparable -/
def k3 : Class := { plain "java/lang/Comparable" (some 0) with
  accessFlags := 1537
  interfaces := #[]
  cf := some (fileOf pool3 1 #[] #[] 1537 3 #[] #[])
  fields := #[]
  methods := #[]
  instanceTypes := #[]
  staticTypes := #[]
  resolved := Array.replicate 12 none
  statics := none }

def pool4 : Array CpInfo := pool [(1, .class_ 2), (0, u "java/io/Serializable"), (0, .class_ 4), (0, u "java/lang/Object")] 2

/-- java/io/Serializable -/
def k4 : Class := { plain "java/io/Serializable" (some 0) with
  accessFlags := 1537
  interfaces := #[]
  cf := some (fileOf pool4 1 #[] #[] 1537 3 #[] #[])
  fields := #[]
  methods := #[]
  instanceTypes := #[]
  staticTypes := #[]
  resolved := Array.replicate 7 none
  statics := none }

def pool5 : Array CpInfo := pool [(2, .class_ 4), (1, u "java/lang/Enum"), (0, u "name"), (0, u "Ljava/lang/String;"), (2, u "ordinal"), (0, u "I"), (1, .class_ 14), (1, u "java/lang/Object"), (4, u "hash"), (86, .class_ 108), (1, u "java/lang/Enum$EnumDesc"), (2, .class_ 112), (0, u "java/lang/constant/Constable"), (0, .class_ 114), (0, u "java/lang/Comparable"), (0, .class_ 116), (0, u "java/io/Serializable")] 87

/-- java/lang/Enum -/
def k5 : Class := { plain "java/lang/Enum" (some 0) with
  accessFlags := 1057
  interfaces := #[2, 3, 4]
  cf := some (fileOf pool5 2 #[.nestMembers #[106]] #[] 1057 12 #[111, 113, 115] #[{ accessFlags := 18, nameIndex := 5, descriptorIndex := 6, attributes := #[] }, { accessFlags := 18, nameIndex := 9, descriptorIndex := 10, attributes := #[] }, { accessFlags := 2, nameIndex := 19, descriptorIndex := 10, attributes := #[] }])
  fields := #[{ name := "name", type := (.object "java/lang/String"), accessFlags := 18, slot := 0, constantValue := 0 }, { name := "ordinal", type := .int, accessFlags := 18, slot := 1, constantValue := 0 }, { name := "hash", type := .int, accessFlags := 2, slot := 2, constantValue := 0 }]
  methods := #[]
  instanceTypes := #[(.object "java/lang/String"), .int, .int]
  staticTypes := #[]
  resolved := Array.replicate 204 none
  statics := none }

def pool6 : Array CpInfo := pool [(1, .class_ 2), (0, u "com/example/rondier/rondier/model/Result"), (2, u "WIN"), (0, u "Lcom/example/rondier/rondier/model/Result;"), (2, u "DRAW"), (2, u "LOSS"), (2, u "UNRATED_WIN"), (2, u "UNRATED_DRAW"), (2, u "UNRATED_LOSS"), (2, u "FORFEIT_WIN"), (2, u "FORFEIT_LOSS"), (2, u "PAIRING_ALLOCATED_BYE"), (2, u "FULL_POINT_BYE"), (2, u "HALF_POINT_BYE"), (2, u "ZERO_POINT_BYE"), (2, u "NOT_PLAYED"), (2, u "$VALUES"), (0, u "[Lcom/example/rondier/rondier/model/Result;"), (6, .class_ 55), (1, u "java/lang/Enum"), (8, u "code"), (0, u "C"), (2, u "halfPoints"), (0, u "I"), (0, .fieldref 1 71), (0, .nameAndType 72 73), (0, u "game"), (0, u "Z"), (53, u "isGame"), (0, u "()Z")] 8

def k6c0 : Code := { maxStack := 1, maxLocals := 1, code := prog_43_method_7_code, exceptionTable := #[], attributes := #[] }
def k6m0 : Method := { name := "isGame", desc := "()Z", sig := { parameters := [], returnType := some .boolean }, accessFlags := 1, code := some k6c0 }
/-- com/example/rondier/rondier/model/Result -/
def k6 : Class := { plain "com/example/rondier/rondier/model/Result" (some 5) with
  accessFlags := 16433
  interfaces := #[]
  cf := some (fileOf pool6 1 #[] #[{ accessFlags := 1, nameIndex := 127, descriptorIndex := 128, attributes := #[] }] 16433 53 #[] #[{ accessFlags := 16409, nameIndex := 5, descriptorIndex := 6, attributes := #[] }, { accessFlags := 16409, nameIndex := 9, descriptorIndex := 6, attributes := #[] }, { accessFlags := 16409, nameIndex := 12, descriptorIndex := 6, attributes := #[] }, { accessFlags := 16409, nameIndex := 15, descriptorIndex := 6, attributes := #[] }, { accessFlags := 16409, nameIndex := 18, descriptorIndex := 6, attributes := #[] }, { accessFlags := 16409, nameIndex := 21, descriptorIndex := 6, attributes := #[] }, { accessFlags := 16409, nameIndex := 24, descriptorIndex := 6, attributes := #[] }, { accessFlags := 16409, nameIndex := 27, descriptorIndex := 6, attributes := #[] }, { accessFlags := 16409, nameIndex := 30, descriptorIndex := 6, attributes := #[] }, { accessFlags := 16409, nameIndex := 33, descriptorIndex := 6, attributes := #[] }, { accessFlags := 16409, nameIndex := 36, descriptorIndex := 6, attributes := #[] }, { accessFlags := 16409, nameIndex := 39, descriptorIndex := 6, attributes := #[] }, { accessFlags := 16409, nameIndex := 42, descriptorIndex := 6, attributes := #[] }, { accessFlags := 18, nameIndex := 64, descriptorIndex := 65, attributes := #[] }, { accessFlags := 18, nameIndex := 68, descriptorIndex := 69, attributes := #[] }, { accessFlags := 18, nameIndex := 72, descriptorIndex := 73, attributes := #[] }, { accessFlags := 4122, nameIndex := 45, descriptorIndex := 46, attributes := #[] }])
  fields := #[{ name := "WIN", type := (.object "com/example/rondier/rondier/model/Result"), accessFlags := 16409, slot := 0, constantValue := 0 }, { name := "DRAW", type := (.object "com/example/rondier/rondier/model/Result"), accessFlags := 16409, slot := 1, constantValue := 0 }, { name := "LOSS", type := (.object "com/example/rondier/rondier/model/Result"), accessFlags := 16409, slot := 2, constantValue := 0 }, { name := "UNRATED_WIN", type := (.object "com/example/rondier/rondier/model/Result"), accessFlags := 16409, slot := 3, constantValue := 0 }, { name := "UNRATED_DRAW", type := (.object "com/example/rondier/rondier/model/Result"), accessFlags := 16409, slot := 4, constantValue := 0 }, { name := "UNRATED_LOSS", type := (.object "com/example/rondier/rondier/model/Result"), accessFlags := 16409, slot := 5, constantValue := 0 }, { name := "FORFEIT_WIN", type := (.object "com/example/rondier/rondier/model/Result"), accessFlags := 16409, slot := 6, constantValue := 0 }, { name := "FORFEIT_LOSS", type := (.object "com/example/rondier/rondier/model/Result"), accessFlags := 16409, slot := 7, constantValue := 0 }, { name := "PAIRING_ALLOCATED_BYE", type := (.object "com/example/rondier/rondier/model/Result"), accessFlags := 16409, slot := 8, constantValue := 0 }, { name := "FULL_POINT_BYE", type := (.object "com/example/rondier/rondier/model/Result"), accessFlags := 16409, slot := 9, constantValue := 0 }, { name := "HALF_POINT_BYE", type := (.object "com/example/rondier/rondier/model/Result"), accessFlags := 16409, slot := 10, constantValue := 0 }, { name := "ZERO_POINT_BYE", type := (.object "com/example/rondier/rondier/model/Result"), accessFlags := 16409, slot := 11, constantValue := 0 }, { name := "NOT_PLAYED", type := (.object "com/example/rondier/rondier/model/Result"), accessFlags := 16409, slot := 12, constantValue := 0 }, { name := "code", type := .char, accessFlags := 18, slot := 3, constantValue := 0 }, { name := "halfPoints", type := .int, accessFlags := 18, slot := 4, constantValue := 0 }, { name := "game", type := .boolean, accessFlags := 18, slot := 5, constantValue := 0 }, { name := "$VALUES", type := (.array (.object "com/example/rondier/rondier/model/Result")), accessFlags := 4122, slot := 13, constantValue := 0 }]
  methods := #[k6m0]
  instanceTypes := #[(.object "java/lang/String"), .int, .int, .char, .int, .boolean]
  staticTypes := #[(.object "com/example/rondier/rondier/model/Result"), (.object "com/example/rondier/rondier/model/Result"), (.object "com/example/rondier/rondier/model/Result"), (.object "com/example/rondier/rondier/model/Result"), (.object "com/example/rondier/rondier/model/Result"), (.object "com/example/rondier/rondier/model/Result"), (.object "com/example/rondier/rondier/model/Result"), (.object "com/example/rondier/rondier/model/Result"), (.object "com/example/rondier/rondier/model/Result"), (.object "com/example/rondier/rondier/model/Result"), (.object "com/example/rondier/rondier/model/Result"), (.object "com/example/rondier/rondier/model/Result"), (.object "com/example/rondier/rondier/model/Result"), (.array (.object "com/example/rondier/rondier/model/Result"))]
  resolved := Array.replicate 137 none
  statics := some 0 }

def pool7 : Array CpInfo := pool [(1, .methodref 2 3), (0, .class_ 4), (0, .nameAndType 5 6), (0, u "java/lang/Object"), (0, u "<init>"), (0, u "()V"), (0, .class_ 8), (0, u "java/lang/Record")] 13

def k7c0 : Code := { maxStack := 1, maxLocals := 1, code := jdk_30_method_1_code, exceptionTable := #[], attributes := #[] }
def k7m0 : Method := { name := "<init>", desc := "()V", sig := { parameters := [], returnType := none }, accessFlags := 4, code := some k7c0 }
/-- java/lang/Record -/
def k7 : Class := { plain "java/lang/Record" (some 0) with
  accessFlags := 1057
  interfaces := #[]
  cf := some (fileOf pool7 7 #[] #[{ accessFlags := 4, nameIndex := 5, descriptorIndex := 6, attributes := #[] }] 1057 2 #[] #[])
  fields := #[]
  methods := #[k7m0]
  instanceTypes := #[]
  staticTypes := #[]
  resolved := Array.replicate 22 none
  statics := none }

def pool8 : Array CpInfo := pool [(1, .methodref 2 3), (0, .class_ 4), (0, .nameAndType 5 6), (0, u "java/lang/Record"), (0, u "<init>"), (0, u "()V"), (0, .methodref 8 9), (0, .class_ 10), (0, .nameAndType 11 12), (0, u "java/util/Objects"), (0, u "requireNonNull"), (0, u "(Ljava/lang/Object;)Ljava/lang/Object;"), (9, .fieldref 23 24), (0, .class_ 25), (0, .nameAndType 26 27), (0, u "com/example/rondier/rondier/model/RoundEntry"), (0, u "opponent"), (0, u "I"), (0, .fieldref 23 29), (0, .nameAndType 30 31), (0, u "colour"), (0, u "Ljava/util/Optional;"), (0, .fieldref 23 33), (0, .nameAndType 34 35), (0, u "result"), (0, u "Lcom/example/rondier/rondier/model/Result;"), (2, u "NONE"), (0, u "Lcom/example/rondier/rondier/model/RoundEntry;"), (5, .class_ 47), (1, u "com/example/rondier/rondier/model/Result"), (1, .methodref 45 50), (0, .nameAndType 51 52), (0, u "isGame"), (0, u "()Z"), (16, u "()Ljava/util/Optional;"), (5, u "(ILjava/util/Optional;Lcom/example/rondier/rondier/model/Result;)V"), (9, u "isPlayedGame")] 35

def k8c0 : Code := { maxStack := 3, maxLocals := 4, code := prog_45_method_1_code, exceptionTable := #[], attributes := #[] }
def k8m0 : Method := { name := "<init>", desc := "(ILjava/util/Optional;Lcom/example/rondier/rondier/model/Result;)V", sig := { parameters := [.int, (.object "java/util/Optional"), (.object "com/example/rondier/rondier/model/Result")], returnType := none }, accessFlags := 1, code := some k8c0 }
def k8c1 : Code := { maxStack := 1, maxLocals := 1, code := prog_45_method_4_code, exceptionTable := #[], attributes := #[] }
def k8m1 : Method := { name := "isPlayedGame", desc := "()Z", sig := { parameters := [], returnType := some .boolean }, accessFlags := 1, code := some k8c1 }
def k8c2 : Code := { maxStack := 1, maxLocals := 1, code := prog_45_method_9_code, exceptionTable := #[], attributes := #[] }
def k8m2 : Method := { name := "colour", desc := "()Ljava/util/Optional;", sig := { parameters := [], returnType := some (.object "java/util/Optional") }, accessFlags := 1, code := some k8c2 }
/-- com/example/rondier/rondier/model/RoundEntry -/
def k8 : Class := { plain "com/example/rondier/rondier/model/RoundEntry" (some 7) with
  accessFlags := 49
  interfaces := #[]
  cf := some (fileOf pool8 23 #[] #[{ accessFlags := 1, nameIndex := 5, descriptorIndex := 75, attributes := #[] }, { accessFlags := 1, nameIndex := 85, descriptorIndex := 52, attributes := #[] }, { accessFlags := 1, nameIndex := 30, descriptorIndex := 69, attributes := #[] }] 49 2 #[] #[{ accessFlags := 18, nameIndex := 26, descriptorIndex := 27, attributes := #[] }, { accessFlags := 18, nameIndex := 30, descriptorIndex := 31, attributes := #[] }, { accessFlags := 18, nameIndex := 34, descriptorIndex := 35, attributes := #[] }, { accessFlags := 25, nameIndex := 38, descriptorIndex := 39, attributes := #[] }])
  fields := #[{ name := "opponent", type := .int, accessFlags := 18, slot := 0, constantValue := 0 }, { name := "colour", type := (.object "java/util/Optional"), accessFlags := 18, slot := 1, constantValue := 0 }, { name := "result", type := (.object "com/example/rondier/rondier/model/Result"), accessFlags := 18, slot := 2, constantValue := 0 }, { name := "NONE", type := (.object "com/example/rondier/rondier/model/RoundEntry"), accessFlags := 25, slot := 0, constantValue := 0 }]
  methods := #[k8m0, k8m1, k8m2]
  instanceTypes := #[.int, (.object "java/util/Optional"), (.object "com/example/rondier/rondier/model/Result")]
  staticTypes := #[(.object "com/example/rondier/rondier/model/RoundEntry")]
  resolved := Array.replicate 121 none
  statics := some 1 }

def pool9 : Array CpInfo := pool [(2, .class_ 4), (1, u "java/lang/Object"), (0, u "<init>"), (0, u "()V"), (35, .class_ 44), (1, u "java/util/Objects"), (0, u "requireNonNull"), (0, u "(Ljava/lang/Object;)Ljava/lang/Object;")] 137

def k9m0 : Method := { name := "<init>", desc := "()V", sig := { parameters := [], returnType := none }, accessFlags := 2, code := none }
def k9c1 : Code := { maxStack := 2, maxLocals := 1, code := jdk_31_method_10_code, exceptionTable := #[], attributes := #[] }
def k9m1 : Method := { name := "requireNonNull", desc := "(Ljava/lang/Object;)Ljava/lang/Object;", sig := { parameters := [(.object "java/lang/Object")], returnType := some (.object "java/lang/Object") }, accessFlags := 9, code := some k9c1 }
/-- java/util/Objects -/
def k9 : Class := { plain "java/util/Objects" (some 0) with
  accessFlags := 49
  interfaces := #[]
  cf := some (fileOf pool9 42 #[] #[{ accessFlags := 2, nameIndex := 5, descriptorIndex := 6, attributes := #[] }, { accessFlags := 9, nameIndex := 45, descriptorIndex := 46, attributes := #[] }] 49 2 #[] #[])
  fields := #[]
  methods := #[k9m0, k9m1]
  instanceTypes := #[]
  staticTypes := #[]
  resolved := Array.replicate 184 none
  statics := none }

def pool10 : Array CpInfo := pool [(2, .class_ 4), (1, u "java/util/Optional"), (0, u "EMPTY"), (0, u "Ljava/util/Optional;"), (1, .class_ 10), (1, u "java/lang/Object"), (4, u "value"), (0, u "Ljava/lang/Object;")] 170

/-- java/util/Optional -/
def k10 : Class := { plain "java/util/Optional" (some 0) with
  accessFlags := 49
  interfaces := #[]
  cf := some (fileOf pool10 2 #[] #[] 49 8 #[] #[{ accessFlags := 26, nameIndex := 5, descriptorIndex := 6, attributes := #[] }, { accessFlags := 18, nameIndex := 15, descriptorIndex := 16, attributes := #[] }])
  fields := #[{ name := "EMPTY", type := (.object "java/util/Optional"), accessFlags := 26, slot := 0, constantValue := 0 }, { name := "value", type := (.object "java/lang/Object"), accessFlags := 18, slot := 0, constantValue := 0 }]
  methods := #[]
  instanceTypes := #[(.object "java/lang/Object")]
  staticTypes := #[(.object "java/util/Optional")]
  resolved := Array.replicate 187 none
  statics := none }

def pool11 : Array CpInfo := pool [(1, u "java/lang/Cloneable"), (0, .class_ 1), (0, u "java/lang/Object"), (0, .class_ 3)] 3

/-- java/lang/Cloneable -/
def k11 : Class := { plain "java/lang/Cloneable" (some 0) with
  accessFlags := 1537
  interfaces := #[]
  cf := some (fileOf pool11 2 #[] #[] 1537 4 #[] #[])
  fields := #[]
  methods := #[]
  instanceTypes := #[]
  staticTypes := #[]
  resolved := Array.replicate 8 none
  statics := none }

/-- the primitive byte -/
def k12 : Class := { plain "byte" none with kind := .primitive 'B', accessFlags := 0x411 }
/-- [B -/
def k13 : Class := { plain "[B" (some 0) with kind := .array 12 .byte, interfaces := #[11, 4], accessFlags := 1041 }

/-- the primitive int -/
def k14 : Class := { plain "int" none with kind := .primitive 'I', accessFlags := 0x411 }
/-- [I -/
def k15 : Class := { plain "[I" (some 0) with kind := .array 14 .int, interfaces := #[11, 4], accessFlags := 1041 }

def heap : Heap := #[{ cls := 6, slots := #[.ref 6, .ref 4, .ref 11, .ref 2, .ref 5, .ref 8, .ref 10, .ref 12, .ref 9, .ref 13, .ref 7, .ref 15, .ref 14, .null], vm := .statics 6 },
  { cls := 8, slots := #[.ref 3], vm := .statics 8 },
  { cls := 6, slots := #[.null, .int 0, .int 0, .int 0, .int 0, .int 1], vm := .none },
  { cls := 8, slots := #[.int 0, .ref 16, .null], vm := .none },
  { cls := 6, slots := #[.null, .int 0, .int 0, .int 0, .int 0, .int 1], vm := .none },
  { cls := 6, slots := #[.null, .int 0, .int 0, .int 0, .int 0, .int 1], vm := .none },
  { cls := 6, slots := #[.null, .int 0, .int 0, .int 0, .int 0, .int 1], vm := .none },
  { cls := 6, slots := #[.null, .int 0, .int 0, .int 0, .int 0, .int 0], vm := .none },
  { cls := 6, slots := #[.null, .int 0, .int 0, .int 0, .int 0, .int 1], vm := .none },
  { cls := 6, slots := #[.null, .int 0, .int 0, .int 0, .int 0, .int 0], vm := .none },
  { cls := 6, slots := #[.null, .int 0, .int 0, .int 0, .int 0, .int 0], vm := .none },
  { cls := 6, slots := #[.null, .int 0, .int 0, .int 0, .int 0, .int 1], vm := .none },
  { cls := 6, slots := #[.null, .int 0, .int 0, .int 0, .int 0, .int 0], vm := .none },
  { cls := 6, slots := #[.null, .int 0, .int 0, .int 0, .int 0, .int 0], vm := .none },
  { cls := 6, slots := #[.null, .int 0, .int 0, .int 0, .int 0, .int 0], vm := .none },
  { cls := 6, slots := #[.null, .int 0, .int 0, .int 0, .int 0, .int 0], vm := .none },
  { cls := 10, slots := #[.null], vm := .none }]
def classes : Array Class := #[k0, k1, k2, k3, k4, k5, k6, k7, k8, k9, k10, k11, k12, k13, k14, k15]
def interned : List (Array UInt16 × Addr) := []
def slotsUsed : Nat := 97
def theMethod : MethodId := ⟨1, 2⟩
def args0 : Array Value := #[.int 5, .int 5]
def aboutOver (below : List Frame) : State where
  vm := { classes := classes, interned := interned.toArray }
  heap := heap
  slotsUsed := slotsUsed
  threads := #[{ frames := .invoking theMethod args0 :: below }]
def below0 : List Frame := [.native { method := ⟨0, 0⟩, args := #[] }]
def about1 : State := aboutOver below0
def p0 : Program := .bare "" "" ""
def e0 : Env := launch0.env 0 0 0
theorem w_frames : about1.frames = Frame.invoking theMethod args0 :: below0 := rfl
set_option maxRecDepth 65536 in
theorem w_args : argsFit about1.vm theMethod args0 = true := by decide +kernel
set_option maxRecDepth 65536 in
theorem w_heap : heapFits about1 = true := by decide +kernel
set_option maxRecDepth 65536 in
theorem w_runnable : about1.curStatus? = some .runnable := by decide +kernel
set_option maxRecDepth 65536 in
theorem w_alone : about1.alone = true := by decide +kernel
set_option maxRecDepth 65536 in
theorem w_named : about1.methodNamed? x = some theMethod := by decide +kernel
set_option maxRecDepth 65536 in
theorem w_hears : about1.hears theMethod below0 = true := by decide +kernel
set_option maxRecDepth 65536 in
theorem w_ripe : about1.ripe theMethod args0 below0 = true := by decide +kernel
theorem w_running : about1.status = .running := rfl
set_option maxRecDepth 65536 in
theorem w_room : about1.hasRoom e0.platform room_1 = true :=
  launch0.hasRoom_least _ room_1 (by decide +kernel) (by decide +kernel) (by decide +kernel) (by decide +kernel) (by decide +kernel) (by decide +kernel)
theorem allAtoms_all (ts : List Jvm.Cond) (a : Array Jvm.Value) (st : Jvm.State) : (allAtoms ts).before a st = ts.all (fun c => c.before a st) := by
  induction ts with
  | nil => rfl
  | cons c t ih =>
    show (Jvm.Cond.and c (allAtoms t)).before a st = _
    rw [Jvm.Cond.before_and, ih, List.all_cons]
def words1 : List Jvm.Cond := Jvm.Cond.code x code maxLocals ret :: tables_1
/-- a 'code' word, met by the world's own term for the bytes: nothing is compared byte by byte -/
theorem code_word {y : MethodName} {bytes : ByteArray} {mx : Nat} {rt : Option FieldType} {a : Array Value} {s : State} {m : MethodId} {meth : Method} {c : Code} (h1 : s.methodNamed? y = some m) (h2 : s.vm.method? m = some meth) (h3 : meth.code = some c) (h4 : c.code = bytes)
    (h5 : (c.maxLocals == mx && c.exceptionTable.isEmpty && decide (c.maxStack ≤ mostOperands) && decide (meth.sig.returnType = rt) && !meth.locks && decide (parseMethodDescriptor y.desc = some meth.sig)) = true) : (Jvm.Cond.code y bytes mx rt).before a s = true := by
  simp only [Bool.and_eq_true, beq_iff_eq, Bool.not_eq_true', decide_eq_true_eq] at h5
  obtain ⟨⟨⟨⟨⟨g1, g2⟩, g3⟩, g4⟩, g5⟩, g6⟩ := h5
  simp [Cond.before, Cond.holds, Cond.value, h1, h2, h3, h4, g1, g2, g3, g4, g5, g6]
def isCode : Jvm.Cond → Bool
  | .code _ _ _ _ => true
  | _ => false
theorem all_split {L : List Jvm.Cond} {P : Jvm.Cond → Bool} (h1 : L.all (fun c => isCode c || P c) = true) (h2 : ∀ c ∈ L.filter isCode, P c = true) : L.all P = true := by
  refine List.all_eq_true.mpr fun c hc => ?_
  have h := List.all_eq_true.mp h1 c hc
  rcases Bool.eq_false_or_eq_true (isCode c) with hi | hi
  · exact h2 c (List.mem_filter.mpr ⟨hc, hi⟩)
  · simpa [hi] using h
set_option maxRecDepth 65536 in
theorem w_c0 : (Jvm.Cond.code x code maxLocals ret).before args0 about1 = true := code_word (m := ⟨1, 2⟩) (meth := k1m2) (c := k1c2) (by decide +kernel) rfl rfl rfl (by decide +kernel)
set_option maxRecDepth 65536 in
theorem w_c1 : (Jvm.Cond.code ({ cls := "com/example/rondier/rondier/model/RoundEntryIsPlayedGamePinLaw", name := "pick", desc := "(I)Lcom/example/rondier/rondier/model/Result;" } : Jvm.MethodName) method_2_code (1 : Nat) (Option.some (Jvm.ClassFile.FieldType.object "com/example/rondier/rondier/model/Result"))).before args0 about1 = true := code_word (m := ⟨1, 1⟩) (meth := k1m1) (c := k1c1) (by decide +kernel) rfl rfl rfl (by decide +kernel)
set_option maxRecDepth 65536 in
theorem w_c2 : (Jvm.Cond.code ({ cls := "com/example/rondier/rondier/model/RoundEntry", name := "colour", desc := "()Ljava/util/Optional;" } : Jvm.MethodName) prog_45_method_9_code (1 : Nat) (Option.some (Jvm.ClassFile.FieldType.object "java/util/Optional"))).before args0 about1 = true := code_word (m := ⟨8, 2⟩) (meth := k8m2) (c := k8c2) (by decide +kernel) rfl rfl rfl (by decide +kernel)
set_option maxRecDepth 65536 in
theorem w_c3 : (Jvm.Cond.code ({ cls := "com/example/rondier/rondier/model/RoundEntry", name := "<init>", desc := "(ILjava/util/Optional;Lcom/example/rondier/rondier/model/Result;)V" } : Jvm.MethodName) prog_45_method_1_code (4 : Nat) (Option.none : Option Jvm.ClassFile.FieldType)).before args0 about1 = true := code_word (m := ⟨8, 0⟩) (meth := k8m0) (c := k8c0) (by decide +kernel) rfl rfl rfl (by decide +kernel)
set_option maxRecDepth 65536 in
theorem w_c4 : (Jvm.Cond.code ({ cls := "java/lang/Record", name := "<init>", desc := "()V" } : Jvm.MethodName) jdk_30_method_1_code (1 : Nat) (Option.none : Option Jvm.ClassFile.FieldType)).before args0 about1 = true := code_word (m := ⟨7, 0⟩) (meth := k7m0) (c := k7c0) (by decide +kernel) rfl rfl rfl (by decide +kernel)
set_option maxRecDepth 65536 in
theorem w_c5 : (Jvm.Cond.code ({ cls := "java/lang/Object", name := "<init>", desc := "()V" } : Jvm.MethodName) object_method_1_code (1 : Nat) (Option.none : Option Jvm.ClassFile.FieldType)).before args0 about1 = true := code_word (m := ⟨0, 0⟩) (meth := k0m0) (c := k0c0) (by decide +kernel) rfl rfl rfl (by decide +kernel)
set_option maxRecDepth 65536 in
theorem w_c6 : (Jvm.Cond.code ({ cls := "java/util/Objects", name := "requireNonNull", desc := "(Ljava/lang/Object;)Ljava/lang/Object;" } : Jvm.MethodName) jdk_31_method_10_code (1 : Nat) (Option.some (Jvm.ClassFile.FieldType.object "java/lang/Object"))).before args0 about1 = true := code_word (m := ⟨9, 1⟩) (meth := k9m1) (c := k9c1) (by decide +kernel) rfl rfl rfl (by decide +kernel)
set_option maxRecDepth 65536 in
theorem w_c7 : (Jvm.Cond.code ({ cls := "com/example/rondier/rondier/model/RoundEntry", name := "isPlayedGame", desc := "()Z" } : Jvm.MethodName) prog_45_method_4_code (1 : Nat) (Option.some Jvm.ClassFile.FieldType.boolean)).before args0 about1 = true := code_word (m := ⟨8, 1⟩) (meth := k8m1) (c := k8c1) (by decide +kernel) rfl rfl rfl (by decide +kernel)
set_option maxRecDepth 65536 in
theorem w_c8 : (Jvm.Cond.code ({ cls := "com/example/rondier/rondier/model/Result", name := "isGame", desc := "()Z" } : Jvm.MethodName) prog_43_method_7_code (1 : Nat) (Option.some Jvm.ClassFile.FieldType.boolean)).before args0 about1 = true := code_word (m := ⟨6, 0⟩) (meth := k6m0) (c := k6c0) (by decide +kernel) rfl rfl rfl (by decide +kernel)
def codes1 : List Jvm.Cond := [Jvm.Cond.code x code maxLocals ret, Jvm.Cond.code ({ cls := "com/example/rondier/rondier/model/RoundEntryIsPlayedGamePinLaw", name := "pick", desc := "(I)Lcom/example/rondier/rondier/model/Result;" } : Jvm.MethodName) method_2_code (1 : Nat) (Option.some (Jvm.ClassFile.FieldType.object "com/example/rondier/rondier/model/Result")), Jvm.Cond.code ({ cls := "com/example/rondier/rondier/model/RoundEntry", name := "colour", desc := "()Ljava/util/Optional;" } : Jvm.MethodName) prog_45_method_9_code (1 : Nat) (Option.some (Jvm.ClassFile.FieldType.object "java/util/Optional")), Jvm.Cond.code ({ cls := "com/example/rondier/rondier/model/RoundEntry", name := "<init>", desc := "(ILjava/util/Optional;Lcom/example/rondier/rondier/model/Result;)V" } : Jvm.MethodName) prog_45_method_1_code (4 : Nat) (Option.none : Option Jvm.ClassFile.FieldType), Jvm.Cond.code ({ cls := "java/lang/Record", name := "<init>", desc := "()V" } : Jvm.MethodName) jdk_30_method_1_code (1 : Nat) (Option.none : Option Jvm.ClassFile.FieldType), Jvm.Cond.code ({ cls := "java/lang/Object", name := "<init>", desc := "()V" } : Jvm.MethodName) object_method_1_code (1 : Nat) (Option.none : Option Jvm.ClassFile.FieldType), Jvm.Cond.code ({ cls := "java/util/Objects", name := "requireNonNull", desc := "(Ljava/lang/Object;)Ljava/lang/Object;" } : Jvm.MethodName) jdk_31_method_10_code (1 : Nat) (Option.some (Jvm.ClassFile.FieldType.object "java/lang/Object")), Jvm.Cond.code ({ cls := "com/example/rondier/rondier/model/RoundEntry", name := "isPlayedGame", desc := "()Z" } : Jvm.MethodName) prog_45_method_4_code (1 : Nat) (Option.some Jvm.ClassFile.FieldType.boolean), Jvm.Cond.code ({ cls := "com/example/rondier/rondier/model/Result", name := "isGame", desc := "()Z" } : Jvm.MethodName) prog_43_method_7_code (1 : Nat) (Option.some Jvm.ClassFile.FieldType.boolean)]
set_option maxRecDepth 65536 in
theorem codes_eq : words1.filter isCode = codes1 := rfl
theorem w_codes : ∀ c ∈ words1.filter isCode, c.before args0 about1 = true := by
  rw [codes_eq]
  intro c hc
  simp only [codes1, List.mem_cons, List.not_mem_nil, or_false] at hc
  rcases hc with rfl | rfl | rfl | rfl | rfl | rfl | rfl | rfl | rfl
  · exact w_c0
  · exact w_c1
  · exact w_c2
  · exact w_c3
  · exact w_c4
  · exact w_c5
  · exact w_c6
  · exact w_c7
  · exact w_c8
set_option maxRecDepth 65536 in
theorem w_t1 : (words1.take 24).all (fun c => isCode c || c.before args0 about1) = true := by decide +kernel
set_option maxRecDepth 65536 in
theorem w_t2 : ((words1.drop 24).take 24).all (fun c => isCode c || c.before args0 about1) = true := by decide +kernel
set_option maxRecDepth 65536 in
theorem w_t3 : (((words1.drop 24).drop 24).take 24).all (fun c => isCode c || c.before args0 about1) = true := by decide +kernel
set_option maxRecDepth 65536 in
theorem w_t4 : (((words1.drop 24).drop 24).drop 24).all (fun c => isCode c || c.before args0 about1) = true := by decide +kernel
theorem w_tables : (allAtoms (Jvm.Cond.code x code maxLocals ret :: tables_1)).before args0 about1 = true := by
  rw [allAtoms_all]
  show words1.all (fun c => c.before args0 about1) = true
  refine all_split ?_ w_codes
  rw [← List.take_append_drop 24 words1, List.all_append, w_t1, ← List.take_append_drop 24 (words1.drop 24), List.all_append, w_t2, ← List.take_append_drop 24 ((words1.drop 24).drop 24), List.all_append, w_t3, w_t4]
  rfl
set_option maxRecDepth 65536 in
theorem w_case : (Jvm.Cond.and given_1 narrow_1).before args0 about1 = true := by decide +kernel
theorem w_applies : (headSpec (Jvm.Cond.code x code maxLocals ret :: tables_1) room_1).applies x e0.platform about1 = true :=
  (Spec.applies_iff w_frames).mpr ⟨w_running, w_runnable, w_alone, w_named, w_hears, w_ripe, w_room, w_tables⟩
theorem atStart : AtStart classFile x code maxLocals ret World_1 tables_1 room_1 Calls_1 rest_1 Pre_1 launch0 p0 e0 about1 theMethod args0 below0 :=
  ⟨lists_1, trivial, launch0.admits_env _ _ _, launch0.least_env, fairChoices_fair.cas, fairChoices_fair.clock, w_frames, w_args, w_heap, w_applies, trivial, trivial, w_case⟩
end start1
theorem witness_1 : WitnessClaimed_1 := ⟨start1.p0, start1.e0, start1.about1, start1.theMethod, start1.args0, start1.below0, start1.atStart⟩
end Jvm.Pilot.@@N@@
