import JvmDerived
import JvmDerived.Pilot.@@N@@Statement
import JvmDerived.Pilot.@@N@@Code
set_option linter.unusedVariables false
set_option linter.unusedSimpArgs false
@@BLOCK:NumsL.lean.txt@@
namespace Jvm.RoadKit
open Sem ClassFile Op Lib Jvm.Stand Jvm.Free Jvm.LawKit
section New
variable {p : Program} {l : Launch} {e : Env} {R : Room} {s : State} {m : MethodId} {args : Array Value} {below : List Frame} {meth : Method} {c : Code} {T : State} {locs : List Loc} {cells slots : Nat}
theorem retI (X : Stand p l e R s m args below meth c T locs cells slots) (hx : p.tables.exec = Jvm.exec) {pc : Nat} {Ls : Array Slot} {z : Int32} {rest : List Value} (hret : meth.sig.returnType = some .int) (hd : decode c.code pc = .ok (.ireturn, 1)) {fs : List Frame}
    (hl : ∀ (f : JFrame) (acts : List Action), f.method = m → f.locked = none → f.entered = [] → (doReturn e (T.setTop f) acts (some (.int z))).1 = T.setFrames fs) : Steps p.tables e below (T.setTop (mkF m pc Ls (.int z :: rest))) (T.setFrames fs) := by
  have hm' : T.vm.method? m = some meth := X.method'
  have hn : narrow .int (.int z) = .int z := rfl
  show Steps p.tables e below (T.setTop { method := m, pc := pc, locals := Ls, stack := _ :: rest, locked := none }) _
  jvm_step X.here [X.here.top, hx, hd, hm', hret, hn]
  first | (intro acts; rw [hl _ acts rfl rfl rfl]) | rw [hl _ _ rfl rfl rfl]
  exact Steps.refl _
end New
end Jvm.RoadKit
namespace Jvm.Pilot.@@N@@
open Jvm Jvm.ClassFile Sem Op Lib Jvm.Free Jvm.Stand Jvm.LawKit Jvm.RoadKit Bundle Jvm.Pilot.@@N@@.Jvm.D
/-! own_Goes: from S the run comes to some state of which G holds: such a goal may be split in the middle of a walk -/
def own_Goes (p : Program) (e : Env) (below : List Frame) (S : State) (G : State → Prop) : Prop := ∃ t, Steps p.tables e below S t ∧ G t
theorem own_via {p : Program} {e : Env} {below : List Frame} {S S' : State} {G : State → Prop} (f : ∀ t, Steps p.tables e below S' t → Steps p.tables e below S t) (h : own_Goes p e below S' G) : own_Goes p e below S G := by
  obtain ⟨t, h1, h2⟩ := h
  exact ⟨t, f t h1, h2⟩
theorem own_end {p : Program} {e : Env} {below : List Frame} {S t : State} {G : State → Prop} (h : Steps p.tables e below S t) (g : G t) : own_Goes p e below S G := ⟨t, h, g⟩
theorem own_out {p : Program} {e : Env} {below : List Frame} {S : State} {P : State → Outcome → Prop} (h : own_Goes p e below S (fun t => ∃ o, t.status = .running ∧ Ended t below o ∧ P t o)) : ∃ t o, Steps p.tables e below S t ∧ t.status = .running ∧ Ended t below o ∧ P t o := by
  obtain ⟨t, h1, o, h2, h3, h4⟩ := h
  exact ⟨t, o, h1, h2, h3, h4⟩
theorem wd {a0 : Array Value} {Z : State} (hw : ∀ d ∈ tables_1, d.before a0 Z = true) (i : Nat) {d : Jvm.Cond} (h : tables_1[i]? = some d) : d.before a0 Z = true := hw _ (List.mem_of_getElem? h)
theorem own_old {Z : State} {n0 : Nat} {h : Heap} (O : Old Z n0 h) : n0 ≤ h.size := by rw [← O.1]; exact O.2.1
def own_Q0 (n0 : Nat) (v : Option Value) (L : List Loc) : Prop := v = some (.int (1 : Int32)) ∧ Fr n0 L
def own_G (s : State) (below : List Frame) (n0 : Nat) (t : State) : Prop := ∃ o, t.status = .running ∧ Ended t below o ∧ ∃ v L, o = .returned v ∧ own_Q0 n0 v L ∧ FrameEnd s o t L room_1.cells room_1.slots
def own_Len (Z : State) (h : Heap) (a : Addr) (ty : FieldType) (n : Int32) : Prop := ∃ k vs d, Arv Z h a k ty n vs d
theorem own_len_ext {Z : State} {h h' : Heap} {a : Addr} {ty : FieldType} {n : Int32} (F : own_Len Z h a ty n) (E : Ext h h') : own_Len Z h' a ty n := by
  obtain ⟨k, vs, d, V⟩ := F
  exact ⟨k, vs, d, V.ext E⟩
theorem own_len_other {Z : State} {h h' : Heap} {a b : Addr} {sl : Nat} {v : Value} {ty : FieldType} {n : Int32} (F : own_Len Z h b ty n) (W : Wr h h' a sl v) (q : b ≠ a) : own_Len Z h' b ty n := by
  obtain ⟨k, vs, d, V⟩ := F
  exact ⟨k, vs, d, V.other W q⟩
theorem own_len_keep {Z : State} {h h' : Heap} {a : Addr} {ws : List Addr} {ty : FieldType} {n : Int32} (F : own_Len Z h a ty n) (K : Keep h h' ws) (q : a ∉ ws) : own_Len Z h' a ty n := by
  obtain ⟨k, vs, d, V⟩ := F
  exact ⟨k, vs, d, V.keep K q⟩
theorem own_len_lt {Z : State} {h : Heap} {a : Addr} {ty : FieldType} {n : Int32} (F : own_Len Z h a ty n) : a < h.size := by
  obtain ⟨k, vs, d, V⟩ := F
  exact V.lt
theorem own_c2 (x : Int32) : x.toUInt32.toUInt16.toUInt32.toInt32.toUInt32.toUInt16.toUInt32.toInt32 = x.toUInt32.toUInt16.toUInt32.toInt32 := by rw [UInt32.toUInt32_toInt32, UInt16.toUInt16_toUInt32]
theorem own_b2 (x : Int32) : x.toInt8.toInt32.toInt8.toInt32 = x.toInt8.toInt32 := by rw [Int8.toInt8_toInt32]
section Calls
variable {p : Program} {l : Launch} {e : Env} {R : Room} {s : State} {m : MethodId} {args : Array Value} {below : List Frame} {meth : Method} {c : Code} {T : State} {locs : List Loc} {cells slots : Nat} {Z : State} {a0 : Array Value} {h : Heap} {own C : String} {index : Nat} {y : MethodName} {bytes : ByteArray} {maxL : Nat} {rm : Room} {Q : Option Value → Heap → List Loc → Prop} {a : Addr} {argsL : List Value} {g : JFrame}
/-! a call by its contract, in one step: virtual (the class's own method), a constructor, static -/
theorem own_cv {ret : Option FieldType} (X : Stand p l e R s m args below meth c T locs cells slots) (hx : p.tables.exec = Jvm.exec) (hZ : Z.Warmed39 s.vm) (hown : s.vm.findClass own = some m.cls) (w1 : (Jvm.Cond.methodLink own index y).before a0 Z = true) (w2 : (Jvm.Cond.declares y).before a0 Z = true) (w3 : (Jvm.Cond.selects C y y).before a0 Z = true) (w4 : (Jvm.Cond.instanceMethod y).before a0 Z = true) (wc : (Jvm.Cond.code y bytes maxL ret).before a0 Z = true) (wz : (Jvm.Cond.initialized y.cls).before a0 Z = true) (hy : y.cls ≠ "java/lang/invoke/MethodHandle" ∧ y.cls ≠ "java/lang/invoke/VarHandle")
    (hM : MetFree l y (head1 [Jvm.Cond.code y bytes maxL ret] rm) (fun A U => A = (.ref a :: argsL).toArray ∧ Z.Warmed39 U.vm ∧ U.heap = h) (fun _ _ _ _ _ => True) (fun _ U o U' => ∃ v L, o = .returned v ∧ Q v U'.heap L ∧ FrameEnd U o U' L rm.cells rm.slots)) (eT : T.heap = h) (E : Exa Z h a C) (hg : g.method = m) (hsize : g.locals.size = c.maxLocals) {rest : List Value} {W : Nat}
    (hlen : ∀ sig, parseMethodDescriptor y.desc = some sig → argsL.length = sig.parameters.length) (hstack : g.stack = argsL.reverse ++ .ref a :: rest) (hW : 2 * g.monitorRoom + (rest.map fun v => v.category).sum ≤ W) (hdg : decode c.code g.pc = .ok (.invokevirtual index, 3)) (r1 : rm.frames + 1 ≤ R.frames) (r2 : W + (maxL + 11) + rm.locals ≤ R.locals) (r3 : cells + rm.cells ≤ R.cells) (r4 : slots + rm.slots ≤ R.slots) :
    ∃ (v : Option Value) (T' : State) (L : List Loc), Stand p l e R s m args below meth c T' (locs ++ L) (cells + rm.cells) (slots + rm.slots) ∧ Q v T'.heap L ∧ ∀ t, Steps p.tables e below (T'.setTop { g with pc := g.pc + 3, stack := v.toList ++ rest }) t → Steps p.tables e below (T.setTop g) t := by
  obtain ⟨cq, kq, qa, -, qc⟩ := isOf hZ eT E
  obtain ⟨v, _, ⟨T', L', c', n'⟩, -, X', ⟨Lc, hQ, l1, y1, z1⟩, st⟩ := X.virtualBack hx (y := y) (z := y) hown (mvT hZ w1) (mvT hZ w2) (notFace_of_selects (args := #[]) (mvT hZ w3)) (mvT hZ w3) (mvT hZ w4) hy (backOf (W := W) hM hZ wc wz r1 r2) qa qc (g := g) hg hsize (Steps.refl _) (argsL := argsL) (rest := rest) hlen hstack hW hdg (fun _ _ => ⟨rfl, eT, r3, r4⟩)
  dsimp only [Pt.U, Pt.locs, Pt.cells, Pt.slots] at X' l1 y1 z1 st hQ
  subst l1 y1 z1
  exact ⟨v, T', Lc, X', hQ, fun t k => st.trans k⟩
theorem own_ci (X : Stand p l e R s m args below meth c T locs cells slots) (hx : p.tables.exec = Jvm.exec) (hZ : Z.Warmed39 s.vm) (hown : s.vm.findClass own = some m.cls) (w1 : (Jvm.Cond.methodLink own index y).before a0 Z = true) (w4 : (Jvm.Cond.instanceMethod y).before a0 Z = true) (wc : (Jvm.Cond.code y bytes maxL none).before a0 Z = true) (wz : (Jvm.Cond.initialized y.cls).before a0 Z = true) (hi : y.name = "<init>") (hy : y.cls ≠ "java/lang/invoke/MethodHandle" ∧ y.cls ≠ "java/lang/invoke/VarHandle")
    (hM : MetFree l y (head1 [Jvm.Cond.code y bytes maxL none] rm) (fun A U => A = (.ref a :: argsL).toArray ∧ Z.Warmed39 U.vm ∧ U.heap = h) (fun _ _ _ _ _ => True) (fun _ U o U' => ∃ v L, o = .returned v ∧ Q v U'.heap L ∧ FrameEnd U o U' L rm.cells rm.slots)) (eT : T.heap = h) (hg : g.method = m) (hsize : g.locals.size = c.maxLocals) {rest : List Value} {W : Nat}
    (hlen : ∀ sig, parseMethodDescriptor y.desc = some sig → argsL.length = sig.parameters.length) (hstack : g.stack = argsL.reverse ++ .ref a :: rest) (hW : 2 * g.monitorRoom + (rest.map fun v => v.category).sum ≤ W) (hdg : decode c.code g.pc = .ok (.invokespecial index, 3)) (r1 : rm.frames + 1 ≤ R.frames) (r2 : W + (maxL + 11) + rm.locals ≤ R.locals) (r3 : cells + rm.cells ≤ R.cells) (r4 : slots + rm.slots ≤ R.slots) :
    ∃ (v : Option Value) (T' : State) (L : List Loc), Stand p l e R s m args below meth c T' (locs ++ L) (cells + rm.cells) (slots + rm.slots) ∧ Q v T'.heap L ∧ ∀ t, Steps p.tables e below (T'.setTop { g with pc := g.pc + 3, stack := v.toList ++ rest }) t → Steps p.tables e below (T.setTop g) t := by
  obtain ⟨v, _, ⟨T', L', c', n'⟩, -, X', ⟨Lc, hQ, l1, y1, z1⟩, st⟩ := X.specialBack hx (y := y) hi hown (mvT hZ w1) (mvT hZ w4) (mvT hZ wc) hy (backOf (W := W) hM hZ wc wz r1 r2) (g := g) hg hsize (Steps.refl _) (a := a) (argsL := argsL) (rest := rest) hlen hstack hW hdg (fun _ _ => ⟨rfl, eT, r3, r4⟩)
  dsimp only [Pt.U, Pt.locs, Pt.cells, Pt.slots] at X' l1 y1 z1 st hQ
  subst l1 y1 z1
  exact ⟨v, T', Lc, X', hQ, fun t k => st.trans k⟩
theorem own_cs {ret : Option FieldType} (X : Stand p l e R s m args below meth c T locs cells slots) (hx : p.tables.exec = Jvm.exec) (hZ : Z.Warmed39 s.vm) (hown : s.vm.findClass own = some m.cls) (w1 : (Jvm.Cond.methodLink own index y).before a0 Z = true) (w4 : (Jvm.Cond.static y).before a0 Z = true) (wc : (Jvm.Cond.code y bytes maxL ret).before a0 Z = true) (wz : (Jvm.Cond.initialized y.cls).before a0 Z = true) (hy : y.cls ≠ "java/lang/invoke/MethodHandle" ∧ y.cls ≠ "java/lang/invoke/VarHandle")
    (hM : MetFree l y (head1 [Jvm.Cond.code y bytes maxL ret] rm) (fun A U => A = argsL.toArray ∧ Z.Warmed39 U.vm ∧ U.heap = h) (fun _ _ _ _ _ => True) (fun _ U o U' => ∃ v L, o = .returned v ∧ Q v U'.heap L ∧ FrameEnd U o U' L rm.cells rm.slots)) (eT : T.heap = h) (hg : g.method = m) (hsize : g.locals.size = c.maxLocals) {rest : List Value} {W : Nat}
    (hlen : ∀ sig, parseMethodDescriptor y.desc = some sig → argsL.length = sig.parameters.length) (hstack : g.stack = argsL.reverse ++ rest) (hW : 2 * g.monitorRoom + (rest.map fun v => v.category).sum ≤ W) (hdg : decode c.code g.pc = .ok (.invokestatic index, 3)) (r1 : rm.frames + 1 ≤ R.frames) (r2 : W + (maxL + 11) + rm.locals ≤ R.locals) (r3 : cells + rm.cells ≤ R.cells) (r4 : slots + rm.slots ≤ R.slots) :
    ∃ (v : Option Value) (T' : State) (L : List Loc), Stand p l e R s m args below meth c T' (locs ++ L) (cells + rm.cells) (slots + rm.slots) ∧ Q v T'.heap L ∧ ∀ t, Steps p.tables e below (T'.setTop { g with pc := g.pc + 3, stack := v.toList ++ rest }) t → Steps p.tables e below (T.setTop g) t := by
  obtain ⟨v, _, ⟨T', L', c', n'⟩, -, X', ⟨Lc, hQ, l1, y1, z1⟩, st⟩ := Jvm.LawKit.callS X hx (y := y) hown (mvT hZ w1) (mvT hZ w4) (mvT hZ wz) (mvT hZ wc) hy (backOf (W := W) hM hZ wc wz r1 r2) (g := g) hg hsize (argsL := argsL) (rest := rest) hlen hstack hW hdg (fun _ _ => ⟨rfl, eT, r3, r4⟩)
  dsimp only [Pt.U, Pt.locs, Pt.cells, Pt.slots] at X' l1 y1 z1 st hQ
  subst l1 y1 z1
  exact ⟨v, T', Lc, X', hQ, st⟩
end Calls
theorem own_eq_ref {args : Array Value} {s : State} {a b : Term} {w : Addr} (h : (Jvm.Cond.eq a b).value args s none s [] = some true) (hb : b.eval args s none [] s = some (.ref w)) : a.eval args s none [] s = some (.ref w) := by
  obtain ⟨x, y, e1, e2, k1, k2⟩ := cmp_v (Or.inl h)
  rw [hb] at e2
  cases e2
  have hx : x.isRef = true := by cases x <;> simp_all [Kin, Value.isRef]
  have q := gotT (eq_R e1 hb hx rfl) h
  rw [e1, q]
theorem own_ne_ref {args : Array Value} {s : State} {a b : Term} {u w : Addr} (h : (Jvm.Cond.not (Jvm.Cond.eq a b)).value args s none s [] = some true) (ha : a.eval args s none [] s = some (.ref u)) (hb : b.eval args s none [] s = some (.ref w)) : u ≠ w := fun q => gotF (eq_R ha hb rfl rfl) (not_v h) (by rw [q])
theorem own_nn_mask (x m : Int32) (k : Nat) (hk : k < 32) (hm : m.toBitVec.toNat = 2 ^ k - 1) : ¬ ((x &&& m) < (0 : Int32)) := by
  rw [Int32.lt_iff_toInt_lt, Jvm.Kit.i32_mask x m hk hm]
  have h := Int.emod_nonneg x.toInt (show ((2 : Int) ^ k) ≠ 0 from Int.ne_of_gt (Int.pow_pos (by decide)))
  rw [Int32.toInt_zero]
  omega
theorem own_lt_mask (x m : Int32) (k : Nat) (hk : k < 32) (hm : m.toBitVec.toNat = 2 ^ k - 1) {n : Int32} (hn : n.toInt = 2 ^ k) : (x &&& m) < n := by
  rw [Int32.lt_iff_toInt_lt, Jvm.Kit.i32_mask x m hk hm, hn]
  exact Int.emod_lt_of_pos _ (Int.pow_pos (by decide))
theorem own_nn_rem {x : Int32} (n : Int32) (h : ¬ (x < (0 : Int32))) : ¬ (x % n < (0 : Int32)) := by
  rw [Int32.lt_iff_toInt_lt, Int32.toInt_zero] at h ⊢
  rw [Int32.toInt_mod]
  have := Int.tmod_nonneg n.toInt (show 0 ≤ x.toInt by omega)
  omega
theorem own_pos {n : Int32} (h : (0 : Int32) < n) : 0 < n.toInt := by
  rw [Int32.lt_iff_toInt_lt, Int32.toInt_zero] at h
  exact h
theorem own_ne0 {n : Int32} (h : (0 : Int32) < n) : n ≠ 0 := fun q => by
  rw [q] at h
  exact absurd h (by decide)
theorem own_lt_rem {x : Int32} (n : Int32) (h : ¬ (x < (0 : Int32))) (hn : 0 < n.toInt) : x % n < n := by
  rw [Int32.lt_iff_toInt_lt] at h ⊢
  rw [Int32.toInt_zero] at h
  rw [Jvm.Kit.i32_rem_nonneg (by omega)]
  exact Int.emod_lt_of_pos _ hn
theorem own_modlo (x n : Int32) (hn : 0 < n.toInt) : 0 ≤ ((x &&& (2147483647 : Int32)) % n).toInt := by
  have a := Jvm.Kit.i32_mask x 2147483647 (k := 31) (by decide) (by decide)
  rw [Jvm.Kit.i32_rem_nonneg (by omega)]
  exact Int.emod_nonneg _ (by omega)
theorem own_modhi (x n : Int32) (hn : 0 < n.toInt) : ((x &&& (2147483647 : Int32)) % n).toInt < n.toInt := by
  have a := Jvm.Kit.i32_mask x 2147483647 (k := 31) (by decide) (by decide)
  rw [Jvm.Kit.i32_rem_nonneg (by omega)]
  exact Int.emod_lt_of_pos _ hn
theorem own_cases_4 (y : Int32) (h0 : 0 ≤ y.toInt) (h1 : y.toInt < 4) : y = (0 : Int32) ∨ y = (1 : Int32) ∨ y = (2 : Int32) ∨ y = (3 : Int32) := by
  have e : ∀ k : Int32, y.toInt = k.toInt → y = k := fun k q => Int32.toInt_inj.mp q
  rcases (by omega : y.toInt = 0 ∨ y.toInt = 1 ∨ y.toInt = 2 ∨ y.toInt = 3) with q | q | q | q
  · exact Or.inl (e 0 (q.trans rfl))
  · exact Or.inr <| Or.inl (e 1 (q.trans rfl))
  · exact Or.inr <| Or.inr <| Or.inl (e 2 (q.trans rfl))
  · exact Or.inr <| Or.inr <| Or.inr <| (e 3 (q.trans rfl))
abbrev zs1 : String := "com/example/ledgerd/ledgerd/core/DocumentType"
abbrev zs2 : String := "com/example/ledgerd/ledgerd/core/PaymentDirection"
abbrev zs3 : String := "Lcom/example/ledgerd/ledgerd/core/DocumentType;"
abbrev zs4 : String := "com/example/ledgerd/ledgerd/core/PaymentDirectionSettlesPinLaw"
abbrev zs5 : String := "(Lcom/example/ledgerd/ledgerd/core/DocumentType;)Z"
abbrev zs6 : String := "(I)Lcom/example/ledgerd/ledgerd/core/DocumentType;"
abbrev zs7 : String := "Lcom/example/ledgerd/ledgerd/core/PaymentDirection;"
abbrev zs8 : String := "(I)Lcom/example/ledgerd/ledgerd/core/PaymentDirection;"
abbrev zs9 : String := "debitsAccount"
theorem own_and_3 (x : Int32) : x &&& (3 : Int32) = (0 : Int32) ∨ x &&& (3 : Int32) = (1 : Int32) ∨ x &&& (3 : Int32) = (2 : Int32) ∨ x &&& (3 : Int32) = (3 : Int32) := own_cases_4 _ (by rw [Jvm.Kit.i32_mask x 3 (k := 2) (by decide) (by decide)]; omega) (by rw [Jvm.Kit.i32_mask x 3 (k := 2) (by decide) (by decide)]; omega)
theorem d1_0 : decode method_2_code 0 = .ok (.iload_n 0, 1) := by decide +kernel
theorem d1_1 : decode method_2_code 1 = .ok (.ifCond .ne 7, 3) := by decide +kernel
theorem d1_4 : decode method_2_code 4 = .ok (.getstatic 7, 3) := by decide +kernel
theorem d1_7 : decode method_2_code 7 = .ok (.areturn, 1) := by decide +kernel
theorem ef_1 (m : MethodId) (x0 : Int32) : entryFrame m #[(.int x0)] 1 = mkF m 0 #[iv x0] [] := by first | (simp [entryFrame, mkF, argsToLocals, Value.category]; done) | rfl
theorem pn_1 : plainName "com/example/ledgerd/ledgerd/core/PaymentDirectionSettlesPinLaw" = true := by first | (simp [plainName, overriddenIn]; done) | decide +kernel
def Q1 (Z : State) (p56 : Int32) (w31 : Addr) (h0 : Heap) (n0 : Nat) (v : Option Value) (h : Heap) (L : List Loc) : Prop := v = some (.ref w31) ∧ Fr n0 L ∧ h = h0
set_option maxRecDepth 65536 in
set_option maxHeartbeats 40000000 in
theorem rm1 (l : Launch) (Z : State) (a0 : Array Value) (hw : ∀ d ∈ tables_1, d.before a0 Z = true) (ws : List Jvm.Cond) (p56 : Int32) (w31 : Addr) (h0 : Heap) (n0 : Nat) (O0 : Old Z n0 h0) (pC63 : p56 = (0 : Int32)) (S_PaymentDirection_RECEIVED : Sta Z Z.heap zs2 "RECEIVED" zs7 (.ref w31)) :
    MetFree l (⟨zs4, "direction", zs8⟩ : MethodName) (head1 (Jvm.Cond.code (⟨zs4, "direction", zs8⟩ : MethodName) method_2_code 1 (some (.object zs2)) :: ws) ({ frames := 0, cells := 0, slots := 0, locals := 0 } : Room)) (fun a U => a = #[(.int p56)] ∧ Z.Warmed39 U.vm ∧ U.heap = h0) (fun _ _ _ _ _ => True) (fun _ U o U' => ∃ v L, o = .returned v ∧ Q1 Z p56 w31 h0 n0 v U'.heap L ∧ FrameEnd U o U' L ({ frames := 0, cells := 0, slots := 0, locals := 0 } : Room).cells ({ frames := 0, cells := 0, slots := 0, locals := 0 } : Room).slots) := by
  refine MetFree.of_bodySF (plainFor_of_name pn_1) hisR ?_
  intro p e s m args below meth c s₁ Bd hml0 hP hK
  obtain ⟨rfl, hZ, hh⟩ := hP
  have hx := Bd.exec
  have hby := Bd.bytes
  have hml : c.maxLocals = 1 := hml0
  have hown : s.vm.findClass zs4 = some m.cls := findClass_of_methodNamed Bd.named
  have hnm := (name_of_methodNamed Bd.named Bd.method).1
  have X0 : Stand p l e ({ frames := 0, cells := 0, slots := 0, locals := 0 } : Room) s m #[(.int p56)] below meth c s₁ [] 0 0 := Stand.of_body Bd
  have e0 : s₁.heap = h0 := by rw [← hh, Bd.state]; rfl
  have N0 := Fr.nil n0
  refine own_out ?_
  refine own_via (fun t k => castTop (ef_1 m p56) (XS.iloadN X0.here hx rfl (hb hby d1_0) rfl (XS.ifNo X0.here hx rfl (hb hby d1_1) rfl ((if0 _ _).trans (teq pC63).2) k))) ?_
  obtain ⟨T64, X64, e64, st64⟩ := getS2 X0 hx hZ hown (host := "") (Or.inl (wd hw 4 rfl)) Via.refl e0 (S_PaymentDirection_RECEIVED.ext O0.2) (g := (mkF m 4 #[iv p56] [])) rfl (hb hby d1_4)
  refine own_via (fun t k => st64 t k) ?_
  obtain ⟨fs, hr, hrun, hended, hW, hsame⟩ := X64.leave (v := some (.ref w31)) (fun h => by rw [Bd.returns] at h; cases h)
  refine own_end (t := T64.setFrames fs) ?_ ⟨_, hrun, hended, _, _, rfl, ?_, ⟨_, rfl⟩, hW, hsame.mono (by decide) (by decide)⟩
  · jvm_step X64.here [X64.here.top, hx, (hb hby d1_7), X64.method', Bd.returns, Value.isRef, FieldType.isReference]
    first | (intro acts; rw [hr _ acts rfl rfl rfl]) | rw [hr _ _ rfl rfl rfl]
    exact Steps.refl _
  · show Q1 Z p56 w31 h0 n0 _ T64.heap _
    rw [e64]
    exact ⟨rfl, N0, rfl⟩
theorem pd_1 : parseMethodDescriptor "(I)Lcom/example/ledgerd/ledgerd/core/PaymentDirection;" = some ⟨[.int], some (.object "com/example/ledgerd/ledgerd/core/PaymentDirection")⟩ := by decide +kernel
theorem d2_0 : decode method_3_code 0 = .ok (.iload_n 0, 1) := by decide +kernel
theorem d2_1 : decode method_3_code 1 = .ok (.ifCond .ne 7, 3) := by decide +kernel
theorem d2_4 : decode method_3_code 4 = .ok (.getstatic 16, 3) := by decide +kernel
theorem d2_7 : decode method_3_code 7 = .ok (.areturn, 1) := by decide +kernel
theorem ef_2 (m : MethodId) (x0 : Int32) : entryFrame m #[(.int x0)] 1 = mkF m 0 #[iv x0] [] := by first | (simp [entryFrame, mkF, argsToLocals, Value.category]; done) | rfl
def Q2 (Z : State) (w42 : Addr) (h0 : Heap) (n0 : Nat) (v : Option Value) (h : Heap) (L : List Loc) : Prop := v = some (.ref w42) ∧ Fr n0 L ∧ h = h0
set_option maxRecDepth 65536 in
set_option maxHeartbeats 40000000 in
theorem rm2 (l : Launch) (Z : State) (a0 : Array Value) (hw : ∀ d ∈ tables_1, d.before a0 Z = true) (ws : List Jvm.Cond) (w42 : Addr) (h0 : Heap) (n0 : Nat) (O0 : Old Z n0 h0) (S_DocumentType_SALES_INVOICE : Sta Z Z.heap zs1 "SALES_INVOICE" zs3 (.ref w42)) :
    MetFree l (⟨zs4, "type", zs6⟩ : MethodName) (head1 (Jvm.Cond.code (⟨zs4, "type", zs6⟩ : MethodName) method_3_code 1 (some (.object zs1)) :: ws) ({ frames := 0, cells := 0, slots := 0, locals := 0 } : Room)) (fun a U => a = #[(.int (0 : Int32))] ∧ Z.Warmed39 U.vm ∧ U.heap = h0) (fun _ _ _ _ _ => True) (fun _ U o U' => ∃ v L, o = .returned v ∧ Q2 Z w42 h0 n0 v U'.heap L ∧ FrameEnd U o U' L ({ frames := 0, cells := 0, slots := 0, locals := 0 } : Room).cells ({ frames := 0, cells := 0, slots := 0, locals := 0 } : Room).slots) := by
  refine MetFree.of_bodySF (plainFor_of_name pn_1) hisR ?_
  intro p e s m args below meth c s₁ Bd hml0 hP hK
  obtain ⟨rfl, hZ, hh⟩ := hP
  have hx := Bd.exec
  have hby := Bd.bytes
  have hml : c.maxLocals = 1 := hml0
  have hown : s.vm.findClass zs4 = some m.cls := findClass_of_methodNamed Bd.named
  have hnm := (name_of_methodNamed Bd.named Bd.method).1
  have X0 : Stand p l e ({ frames := 0, cells := 0, slots := 0, locals := 0 } : Room) s m #[(.int (0 : Int32))] below meth c s₁ [] 0 0 := Stand.of_body Bd
  have e0 : s₁.heap = h0 := by rw [← hh, Bd.state]; rfl
  have N0 := Fr.nil n0
  refine own_out ?_
  refine own_via (fun t k => castTop (ef_2 m (0 : Int32)) (XS.iloadN X0.here hx rfl (hb hby d2_0) rfl (XS.ifNo X0.here hx rfl (hb hby d2_1) rfl ((if0 _ _).trans (teq (by decide : (0 : Int32) = (0 : Int32))).2) k))) ?_
  obtain ⟨T75, X75, e75, st75⟩ := getS2 X0 hx hZ hown (host := "") (Or.inl (wd hw 31 rfl)) Via.refl e0 (S_DocumentType_SALES_INVOICE.ext O0.2) (g := (mkF m 4 #[iv (0 : Int32)] [])) rfl (hb hby d2_4)
  refine own_via (fun t k => st75 t k) ?_
  obtain ⟨fs, hr, hrun, hended, hW, hsame⟩ := X75.leave (v := some (.ref w42)) (fun h => by rw [Bd.returns] at h; cases h)
  refine own_end (t := T75.setFrames fs) ?_ ⟨_, hrun, hended, _, _, rfl, ?_, ⟨_, rfl⟩, hW, hsame.mono (by decide) (by decide)⟩
  · jvm_step X75.here [X75.here.top, hx, (hb hby d2_7), X75.method', Bd.returns, Value.isRef, FieldType.isReference]
    first | (intro acts; rw [hr _ acts rfl rfl rfl]) | rw [hr _ _ rfl rfl rfl]
    exact Steps.refl _
  · show Q2 Z w42 h0 n0 _ T75.heap _
    rw [e75]
    exact ⟨rfl, N0, rfl⟩
theorem pd_2 : parseMethodDescriptor "(I)Lcom/example/ledgerd/ledgerd/core/DocumentType;" = some ⟨[.int], some (.object "com/example/ledgerd/ledgerd/core/DocumentType")⟩ := by decide +kernel
theorem d3_0 : decode prog_30_method_5_code 0 = .ok (.aload_n 1, 1) := by decide +kernel
theorem d3_1 : decode prog_30_method_5_code 1 = .ok (.invokevirtual 33, 3) := by decide +kernel
theorem d4_0 : decode prog_20_method_6_code 0 = .ok (.aload_n 0, 1) := by decide +kernel
theorem d4_1 : decode prog_20_method_6_code 1 = .ok (.getfield 35, 3) := by decide +kernel
theorem d4_4 : decode prog_20_method_6_code 4 = .ok (.aload_n 0, 1) := by decide +kernel
theorem d4_5 : decode prog_20_method_6_code 5 = .ok (.getfield 39, 3) := by decide +kernel
theorem d4_8 : decode prog_20_method_6_code 8 = .ok (.ifnull 7, 3) := by decide +kernel
theorem d4_15 : decode prog_20_method_6_code 15 = .ok (.iconst 0, 1) := by decide +kernel
theorem d4_16 : decode prog_20_method_6_code 16 = .ok (.if_icmp .ne 7, 3) := by decide +kernel
theorem d4_19 : decode prog_20_method_6_code 19 = .ok (.iconst 1, 1) := by decide +kernel
theorem d4_20 : decode prog_20_method_6_code 20 = .ok (.goto 4, 3) := by decide +kernel
theorem d4_24 : decode prog_20_method_6_code 24 = .ok (.ireturn, 1) := by decide +kernel
theorem ef_3 (m : MethodId) (x0 : Addr) : entryFrame m #[(.ref x0)] 1 = mkF m 0 #[rv x0] [] := by first | (simp [entryFrame, mkF, argsToLocals, Value.category]; done) | rfl
theorem pn_2 : plainName "com/example/ledgerd/ledgerd/core/DocumentType" = true := by first | (simp [plainName, overriddenIn]; done) | decide +kernel
def Q3 (Z : State) (w42 : Addr) (h0 : Heap) (n0 : Nat) (v : Option Value) (h : Heap) (L : List Loc) : Prop := v = some (.int (1 : Int32)) ∧ Fr n0 L ∧ h = h0
set_option maxRecDepth 65536 in
set_option maxHeartbeats 40000000 in
theorem rm3 (l : Launch) (Z : State) (a0 : Array Value) (hw : ∀ d ∈ tables_1, d.before a0 Z = true) (ws : List Jvm.Cond) (w42 : Addr) (h0 : Heap) (n0 : Nat) (O0 : Old Z n0 h0) (SF_w42_purchase : Fld Z Z.heap w42 zs1 "purchase" "Z" (.int (0 : Int32))) (SF_w42_credits : Fld Z Z.heap w42 zs1 "credits" zs3 .null) :
    MetFree l (⟨zs1, "debitsParty", "()Z"⟩ : MethodName) (head1 (Jvm.Cond.code (⟨zs1, "debitsParty", "()Z"⟩ : MethodName) prog_20_method_6_code 1 (some .boolean) :: ws) ({ frames := 0, cells := 0, slots := 0, locals := 0 } : Room)) (fun a U => a = #[(.ref w42)] ∧ Z.Warmed39 U.vm ∧ U.heap = h0) (fun _ _ _ _ _ => True) (fun _ U o U' => ∃ v L, o = .returned v ∧ Q3 Z w42 h0 n0 v U'.heap L ∧ FrameEnd U o U' L ({ frames := 0, cells := 0, slots := 0, locals := 0 } : Room).cells ({ frames := 0, cells := 0, slots := 0, locals := 0 } : Room).slots) := by
  refine MetFree.of_bodySF (plainFor_of_name pn_2) hisR ?_
  intro p e s m args below meth c s₁ Bd hml0 hP hK
  obtain ⟨rfl, hZ, hh⟩ := hP
  have hx := Bd.exec
  have hby := Bd.bytes
  have hml : c.maxLocals = 1 := hml0
  have hown : s.vm.findClass zs1 = some m.cls := findClass_of_methodNamed Bd.named
  have hnm := (name_of_methodNamed Bd.named Bd.method).1
  have X0 : Stand p l e ({ frames := 0, cells := 0, slots := 0, locals := 0 } : Room) s m #[(.ref w42)] below meth c s₁ [] 0 0 := Stand.of_body Bd
  have e0 : s₁.heap = h0 := by rw [← hh, Bd.state]; rfl
  have N0 := Fr.nil n0
  refine own_out ?_
  refine own_via (fun t k => castTop (ef_3 m w42) (XS.aloadN X0.here hx rfl (hb hby d4_0) rfl rfl k)) ?_
  obtain ⟨T95, X95, e95, st95⟩ := getF X0 hx hZ hown (host := "") (Or.inl (wd hw 23 rfl)) Via.refl e0 (SF_w42_purchase.ext O0.2) (g := (mkF m 1 #[rv w42] [(.ref w42)])) rfl rfl (hb hby d4_1)
  refine own_via (fun t k => st95 t (XS.aloadN X95.here hx rfl (hb hby d4_4) rfl rfl k)) ?_
  obtain ⟨T96, X96, e96, st96⟩ := getF X95 hx hZ hown (host := "") (Or.inl (wd hw 25 rfl)) Via.refl e95 (SF_w42_credits.ext O0.2) (g := (mkF m 5 #[rv w42] [(.ref w42), (.int (0 : Int32))])) rfl rfl (hb hby d4_5)
  refine own_via (fun t k => st96 t (XS.ifnullYes X96.here hx rfl (pc0 := 8) (pc' := 15) rfl (hb hby d4_8) rfl (by decide) (by decide) (XS.iconst X96.here hx rfl (hb hby d4_15) (XS.icmpNo X96.here hx rfl (hb hby d4_16) rfl (teq (by decide : (0 : Int32) = (0 : Int32))).2 (XS.iconst X96.here hx rfl (hb hby d4_19) (XS.goto X96.here hx rfl (pc0 := 20) (pc' := 24) rfl (hb hby d4_20) (by decide) (by decide) k)))))) ?_
  obtain ⟨fs, hr, hrun, hended, hW, hsame⟩ := X96.leave (v := some (.int (1 : Int32))) (fun h => by rw [Bd.returns] at h; cases h)
  refine own_end (t := T96.setFrames fs) ?_ ⟨_, hrun, hended, _, _, rfl, ?_, ⟨_, rfl⟩, hW, hsame.mono (by decide) (by decide)⟩
  · exact retN X96 hx (t := .boolean) Bd.returns (by simp) (hb hby d4_24) hr
  · show Q3 Z w42 h0 n0 _ T96.heap _
    rw [e96]
    exact ⟨rfl, N0, rfl⟩
theorem pd_3 : parseMethodDescriptor "()Z" = some ⟨[], some .boolean⟩ := by decide +kernel
theorem d3_4 : decode prog_30_method_5_code 4 = .ok (.aload_n 0, 1) := by decide +kernel
theorem d3_5 : decode prog_30_method_5_code 5 = .ok (.getfield 29, 3) := by decide +kernel
theorem d3_8 : decode prog_30_method_5_code 8 = .ok (.if_icmp .ne 7, 3) := by decide +kernel
theorem d3_11 : decode prog_30_method_5_code 11 = .ok (.iconst 1, 1) := by decide +kernel
theorem d3_12 : decode prog_30_method_5_code 12 = .ok (.goto 4, 3) := by decide +kernel
theorem d3_16 : decode prog_30_method_5_code 16 = .ok (.ireturn, 1) := by decide +kernel
theorem ef_4 (m : MethodId) (x0 : Addr) (x1 : Addr) : entryFrame m #[(.ref x0), (.ref x1)] 2 = mkF m 0 #[rv x0, rv x1] [] := by first | (simp [entryFrame, mkF, argsToLocals, Value.category]; done) | rfl
theorem pn_3 : plainName "com/example/ledgerd/ledgerd/core/PaymentDirection" = true := by first | (simp [plainName, overriddenIn]; done) | decide +kernel
def Q4 (Z : State) (w31 : Addr) (w42 : Addr) (h0 : Heap) (n0 : Nat) (v : Option Value) (h : Heap) (L : List Loc) : Prop := v = some (.int (1 : Int32)) ∧ Fr n0 L ∧ h = h0
set_option maxRecDepth 65536 in
set_option maxHeartbeats 40000000 in
theorem rm4 (l : Launch) (Z : State) (a0 : Array Value) (hw : ∀ d ∈ tables_1, d.before a0 Z = true) (ws : List Jvm.Cond) (w31 : Addr) (w42 : Addr) (h0 : Heap) (n0 : Nat) (O0 : Old Z n0 h0) (SF_w42_purchase : Fld Z Z.heap w42 zs1 "purchase" "Z" (.int (0 : Int32))) (SF_w42_credits : Fld Z Z.heap w42 zs1 "credits" zs3 .null) (SE_w42 : Exa Z Z.heap w42 zs1) (SF_w31_debitsAccount : Fld Z Z.heap w31 zs2 zs9 "Z" (.int (1 : Int32))) :
    MetFree l (⟨zs2, "settles", zs5⟩ : MethodName) (head1 (Jvm.Cond.code (⟨zs2, "settles", zs5⟩ : MethodName) prog_30_method_5_code 2 (some .boolean) :: ws) ({ frames := 1, cells := 0, slots := 0, locals := 12 } : Room)) (fun a U => a = #[(.ref w31), (.ref w42)] ∧ Z.Warmed39 U.vm ∧ U.heap = h0) (fun _ _ _ _ _ => True) (fun _ U o U' => ∃ v L, o = .returned v ∧ Q4 Z w31 w42 h0 n0 v U'.heap L ∧ FrameEnd U o U' L ({ frames := 1, cells := 0, slots := 0, locals := 12 } : Room).cells ({ frames := 1, cells := 0, slots := 0, locals := 12 } : Room).slots) := by
  refine MetFree.of_bodySF (plainFor_of_name pn_3) hisR ?_
  intro p e s m args below meth c s₁ Bd hml0 hP hK
  obtain ⟨rfl, hZ, hh⟩ := hP
  have hx := Bd.exec
  have hby := Bd.bytes
  have hml : c.maxLocals = 2 := hml0
  have hown : s.vm.findClass zs2 = some m.cls := findClass_of_methodNamed Bd.named
  have hnm := (name_of_methodNamed Bd.named Bd.method).1
  have X0 : Stand p l e ({ frames := 1, cells := 0, slots := 0, locals := 12 } : Room) s m #[(.ref w31), (.ref w42)] below meth c s₁ [] 0 0 := Stand.of_body Bd
  have e0 : s₁.heap = h0 := by rw [← hh, Bd.state]; rfl
  have N0 := Fr.nil n0
  refine own_out ?_
  refine own_via (fun t k => castTop (ef_4 m w31 w42) (XS.aloadN X0.here hx rfl (hb hby d3_0) rfl rfl k)) ?_
  obtain ⟨_, T86, _, X86, hQ86, st86⟩ := own_cv X0 hx hZ hown (wd hw 18 rfl) (wd hw 19 rfl) (wd hw 21 rfl) (wd hw 20 rfl) (wd hw 22 rfl) (wd hw 11 rfl) (by decide) (rm3 l Z a0 hw [] w42 h0 n0 O0 SF_w42_purchase SF_w42_credits) e0 (SE_w42.ext O0.2) (g := (mkF m 1 #[rv w31, rv w42] [(.ref w42)])) rfl (by rw [hml]; rfl) (rest := []) (W := 0) (lenOf pd_3 rfl) rfl (by show 2 * 0 + _ ≤ _; exact Nat.le_of_eq rfl) (hb hby d3_1) (by decide) (by decide) (by decide) (by decide)
  obtain ⟨rfl, Nq86, hh97⟩ := hQ86
  have N86 := Fr.app N0 Nq86
  refine own_via (fun t k => st86 t (XS.aloadN X86.here hx rfl (hb hby d3_4) rfl rfl k)) ?_
  obtain ⟨T98, X98, e98, st98⟩ := getF X86 hx hZ hown (host := "") (Or.inl (wd hw 28 rfl)) Via.refl hh97 (SF_w31_debitsAccount.ext O0.2) (g := (mkF m 5 #[rv w31, rv w42] [(.ref w31), (.int (1 : Int32))])) rfl rfl (hb hby d3_5)
  refine own_via (fun t k => st98 t (XS.icmpNo X98.here hx rfl (hb hby d3_8) rfl (teq (by decide : (1 : Int32) = (1 : Int32))).2 (XS.iconst X98.here hx rfl (hb hby d3_11) (XS.goto X98.here hx rfl (pc0 := 12) (pc' := 16) rfl (hb hby d3_12) (by decide) (by decide) k)))) ?_
  obtain ⟨fs, hr, hrun, hended, hW, hsame⟩ := X98.leave (v := some (.int (1 : Int32))) (fun h => by rw [Bd.returns] at h; cases h)
  refine own_end (t := T98.setFrames fs) ?_ ⟨_, hrun, hended, _, _, rfl, ?_, ⟨_, rfl⟩, hW, hsame.mono (by decide) (by decide)⟩
  · exact retN X98 hx (t := .boolean) Bd.returns (by simp) (hb hby d3_16) hr
  · show Q4 Z w31 w42 h0 n0 _ T98.heap _
    rw [e98]
    exact ⟨rfl, N86, rfl⟩
theorem pd_4 : parseMethodDescriptor "(Lcom/example/ledgerd/ledgerd/core/DocumentType;)Z" = some ⟨[(.object "com/example/ledgerd/ledgerd/core/DocumentType")], some .boolean⟩ := by decide +kernel
theorem d1_8 : decode method_2_code 8 = .ok (.getstatic 13, 3) := by decide +kernel
theorem d1_11 : decode method_2_code 11 = .ok (.areturn, 1) := by decide +kernel
def Q5 (Z : State) (p101 : Int32) (w46 : Addr) (h0 : Heap) (n0 : Nat) (v : Option Value) (h : Heap) (L : List Loc) : Prop := v = some (.ref w46) ∧ Fr n0 L ∧ h = h0
set_option maxRecDepth 65536 in
set_option maxHeartbeats 40000000 in
theorem rm5 (l : Launch) (Z : State) (a0 : Array Value) (hw : ∀ d ∈ tables_1, d.before a0 Z = true) (ws : List Jvm.Cond) (p101 : Int32) (w46 : Addr) (h0 : Heap) (n0 : Nat) (O0 : Old Z n0 h0) (pC108 : ¬ (p101 = (0 : Int32))) (S_PaymentDirection_SENT : Sta Z Z.heap zs2 "SENT" zs7 (.ref w46)) :
    MetFree l (⟨zs4, "direction", zs8⟩ : MethodName) (head1 (Jvm.Cond.code (⟨zs4, "direction", zs8⟩ : MethodName) method_2_code 1 (some (.object zs2)) :: ws) ({ frames := 0, cells := 0, slots := 0, locals := 0 } : Room)) (fun a U => a = #[(.int p101)] ∧ Z.Warmed39 U.vm ∧ U.heap = h0) (fun _ _ _ _ _ => True) (fun _ U o U' => ∃ v L, o = .returned v ∧ Q5 Z p101 w46 h0 n0 v U'.heap L ∧ FrameEnd U o U' L ({ frames := 0, cells := 0, slots := 0, locals := 0 } : Room).cells ({ frames := 0, cells := 0, slots := 0, locals := 0 } : Room).slots) := by
  refine MetFree.of_bodySF (plainFor_of_name pn_1) hisR ?_
  intro p e s m args below meth c s₁ Bd hml0 hP hK
  obtain ⟨rfl, hZ, hh⟩ := hP
  have hx := Bd.exec
  have hby := Bd.bytes
  have hml : c.maxLocals = 1 := hml0
  have hown : s.vm.findClass zs4 = some m.cls := findClass_of_methodNamed Bd.named
  have hnm := (name_of_methodNamed Bd.named Bd.method).1
  have X0 : Stand p l e ({ frames := 0, cells := 0, slots := 0, locals := 0 } : Room) s m #[(.int p101)] below meth c s₁ [] 0 0 := Stand.of_body Bd
  have e0 : s₁.heap = h0 := by rw [← hh, Bd.state]; rfl
  have N0 := Fr.nil n0
  refine own_out ?_
  refine own_via (fun t k => castTop (ef_1 m p101) (XS.iloadN X0.here hx rfl (hb hby d1_0) rfl (XS.ifYes X0.here hx rfl (pc0 := 1) (pc' := 8) rfl (hb hby d1_1) rfl ((if0 _ _).trans (feq pC108).2) (by decide) (by decide) k))) ?_
  obtain ⟨T109, X109, e109, st109⟩ := getS2 X0 hx hZ hown (host := "") (Or.inl (wd hw 33 rfl)) Via.refl e0 (S_PaymentDirection_SENT.ext O0.2) (g := (mkF m 8 #[iv p101] [])) rfl (hb hby d1_8)
  refine own_via (fun t k => st109 t k) ?_
  obtain ⟨fs, hr, hrun, hended, hW, hsame⟩ := X109.leave (v := some (.ref w46)) (fun h => by rw [Bd.returns] at h; cases h)
  refine own_end (t := T109.setFrames fs) ?_ ⟨_, hrun, hended, _, _, rfl, ?_, ⟨_, rfl⟩, hW, hsame.mono (by decide) (by decide)⟩
  · jvm_step X109.here [X109.here.top, hx, (hb hby d1_11), X109.method', Bd.returns, Value.isRef, FieldType.isReference]
    first | (intro acts; rw [hr _ acts rfl rfl rfl]) | rw [hr _ _ rfl rfl rfl]
    exact Steps.refl _
  · show Q5 Z p101 w46 h0 n0 _ T109.heap _
    rw [e109]
    exact ⟨rfl, N0, rfl⟩
theorem d3_15 : decode prog_30_method_5_code 15 = .ok (.iconst 0, 1) := by decide +kernel
def Q6 (Z : State) (w46 : Addr) (w42 : Addr) (h0 : Heap) (n0 : Nat) (v : Option Value) (h : Heap) (L : List Loc) : Prop := v = some (.int (0 : Int32)) ∧ Fr n0 L ∧ h = h0
set_option maxRecDepth 65536 in
set_option maxHeartbeats 40000000 in
theorem rm6 (l : Launch) (Z : State) (a0 : Array Value) (hw : ∀ d ∈ tables_1, d.before a0 Z = true) (ws : List Jvm.Cond) (w46 : Addr) (w42 : Addr) (h0 : Heap) (n0 : Nat) (O0 : Old Z n0 h0) (SF_w42_purchase : Fld Z Z.heap w42 zs1 "purchase" "Z" (.int (0 : Int32))) (SF_w42_credits : Fld Z Z.heap w42 zs1 "credits" zs3 .null) (SE_w42 : Exa Z Z.heap w42 zs1) (SF_w46_debitsAccount : Fld Z Z.heap w46 zs2 zs9 "Z" (.int (0 : Int32))) :
    MetFree l (⟨zs2, "settles", zs5⟩ : MethodName) (head1 (Jvm.Cond.code (⟨zs2, "settles", zs5⟩ : MethodName) prog_30_method_5_code 2 (some .boolean) :: ws) ({ frames := 1, cells := 0, slots := 0, locals := 12 } : Room)) (fun a U => a = #[(.ref w46), (.ref w42)] ∧ Z.Warmed39 U.vm ∧ U.heap = h0) (fun _ _ _ _ _ => True) (fun _ U o U' => ∃ v L, o = .returned v ∧ Q6 Z w46 w42 h0 n0 v U'.heap L ∧ FrameEnd U o U' L ({ frames := 1, cells := 0, slots := 0, locals := 12 } : Room).cells ({ frames := 1, cells := 0, slots := 0, locals := 12 } : Room).slots) := by
  refine MetFree.of_bodySF (plainFor_of_name pn_3) hisR ?_
  intro p e s m args below meth c s₁ Bd hml0 hP hK
  obtain ⟨rfl, hZ, hh⟩ := hP
  have hx := Bd.exec
  have hby := Bd.bytes
  have hml : c.maxLocals = 2 := hml0
  have hown : s.vm.findClass zs2 = some m.cls := findClass_of_methodNamed Bd.named
  have hnm := (name_of_methodNamed Bd.named Bd.method).1
  have X0 : Stand p l e ({ frames := 1, cells := 0, slots := 0, locals := 12 } : Room) s m #[(.ref w46), (.ref w42)] below meth c s₁ [] 0 0 := Stand.of_body Bd
  have e0 : s₁.heap = h0 := by rw [← hh, Bd.state]; rfl
  have N0 := Fr.nil n0
  refine own_out ?_
  refine own_via (fun t k => castTop (ef_4 m w46 w42) (XS.aloadN X0.here hx rfl (hb hby d3_0) rfl rfl k)) ?_
  obtain ⟨_, T122, _, X122, hQ122, st122⟩ := own_cv X0 hx hZ hown (wd hw 18 rfl) (wd hw 19 rfl) (wd hw 21 rfl) (wd hw 20 rfl) (wd hw 22 rfl) (wd hw 11 rfl) (by decide) (rm3 l Z a0 hw [] w42 h0 n0 O0 SF_w42_purchase SF_w42_credits) e0 (SE_w42.ext O0.2) (g := (mkF m 1 #[rv w46, rv w42] [(.ref w42)])) rfl (by rw [hml]; rfl) (rest := []) (W := 0) (lenOf pd_3 rfl) rfl (by show 2 * 0 + _ ≤ _; exact Nat.le_of_eq rfl) (hb hby d3_1) (by decide) (by decide) (by decide) (by decide)
  obtain ⟨rfl, Nq122, hh123⟩ := hQ122
  have N122 := Fr.app N0 Nq122
  refine own_via (fun t k => st122 t (XS.aloadN X122.here hx rfl (hb hby d3_4) rfl rfl k)) ?_
  obtain ⟨T124, X124, e124, st124⟩ := getF X122 hx hZ hown (host := "") (Or.inl (wd hw 28 rfl)) Via.refl hh123 (SF_w46_debitsAccount.ext O0.2) (g := (mkF m 5 #[rv w46, rv w42] [(.ref w46), (.int (1 : Int32))])) rfl rfl (hb hby d3_5)
  refine own_via (fun t k => st124 t (XS.icmpYes X124.here hx rfl (pc0 := 8) (pc' := 15) rfl (hb hby d3_8) rfl (feq (by decide : ¬ ((1 : Int32) = (0 : Int32)))).2 (by decide) (by decide) (XS.iconst X124.here hx rfl (hb hby d3_15) k))) ?_
  obtain ⟨fs, hr, hrun, hended, hW, hsame⟩ := X124.leave (v := some (.int (0 : Int32))) (fun h => by rw [Bd.returns] at h; cases h)
  refine own_end (t := T124.setFrames fs) ?_ ⟨_, hrun, hended, _, _, rfl, ?_, ⟨_, rfl⟩, hW, hsame.mono (by decide) (by decide)⟩
  · exact retN X124 hx (t := .boolean) Bd.returns (by simp) (hb hby d3_16) hr
  · show Q6 Z w46 w42 h0 n0 _ T124.heap _
    rw [e124]
    exact ⟨rfl, N122, rfl⟩
theorem d2_8 : decode method_3_code 8 = .ok (.iload_n 0, 1) := by decide +kernel
theorem d2_9 : decode method_3_code 9 = .ok (.iconst 1, 1) := by decide +kernel
theorem d2_10 : decode method_3_code 10 = .ok (.if_icmp .ne 7, 3) := by decide +kernel
theorem d2_13 : decode method_3_code 13 = .ok (.getstatic 22, 3) := by decide +kernel
theorem d2_16 : decode method_3_code 16 = .ok (.areturn, 1) := by decide +kernel
def Q7 (Z : State) (w36 : Addr) (h0 : Heap) (n0 : Nat) (v : Option Value) (h : Heap) (L : List Loc) : Prop := v = some (.ref w36) ∧ Fr n0 L ∧ h = h0
set_option maxRecDepth 65536 in
set_option maxHeartbeats 40000000 in
theorem rm7 (l : Launch) (Z : State) (a0 : Array Value) (hw : ∀ d ∈ tables_1, d.before a0 Z = true) (ws : List Jvm.Cond) (w36 : Addr) (h0 : Heap) (n0 : Nat) (O0 : Old Z n0 h0) (S_DocumentType_PURCHASE_INVOICE : Sta Z Z.heap zs1 "PURCHASE_INVOICE" zs3 (.ref w36)) :
    MetFree l (⟨zs4, "type", zs6⟩ : MethodName) (head1 (Jvm.Cond.code (⟨zs4, "type", zs6⟩ : MethodName) method_3_code 1 (some (.object zs1)) :: ws) ({ frames := 0, cells := 0, slots := 0, locals := 0 } : Room)) (fun a U => a = #[(.int (1 : Int32))] ∧ Z.Warmed39 U.vm ∧ U.heap = h0) (fun _ _ _ _ _ => True) (fun _ U o U' => ∃ v L, o = .returned v ∧ Q7 Z w36 h0 n0 v U'.heap L ∧ FrameEnd U o U' L ({ frames := 0, cells := 0, slots := 0, locals := 0 } : Room).cells ({ frames := 0, cells := 0, slots := 0, locals := 0 } : Room).slots) := by
  refine MetFree.of_bodySF (plainFor_of_name pn_1) hisR ?_
  intro p e s m args below meth c s₁ Bd hml0 hP hK
  obtain ⟨rfl, hZ, hh⟩ := hP
  have hx := Bd.exec
  have hby := Bd.bytes
  have hml : c.maxLocals = 1 := hml0
  have hown : s.vm.findClass zs4 = some m.cls := findClass_of_methodNamed Bd.named
  have hnm := (name_of_methodNamed Bd.named Bd.method).1
  have X0 : Stand p l e ({ frames := 0, cells := 0, slots := 0, locals := 0 } : Room) s m #[(.int (1 : Int32))] below meth c s₁ [] 0 0 := Stand.of_body Bd
  have e0 : s₁.heap = h0 := by rw [← hh, Bd.state]; rfl
  have N0 := Fr.nil n0
  refine own_out ?_
  refine own_via (fun t k => castTop (ef_2 m (1 : Int32)) (XS.iloadN X0.here hx rfl (hb hby d2_0) rfl (XS.ifYes X0.here hx rfl (pc0 := 1) (pc' := 8) rfl (hb hby d2_1) rfl ((if0 _ _).trans (feq (by decide : ¬ ((1 : Int32) = (0 : Int32)))).2) (by decide) (by decide) (XS.iloadN X0.here hx rfl (hb hby d2_8) rfl (XS.iconst X0.here hx rfl (hb hby d2_9) (XS.icmpNo X0.here hx rfl (hb hby d2_10) rfl (teq (by decide : (1 : Int32) = (1 : Int32))).2 k)))))) ?_
  obtain ⟨T139, X139, e139, st139⟩ := getS2 X0 hx hZ hown (host := "") (Or.inl (wd hw 30 rfl)) Via.refl e0 (S_DocumentType_PURCHASE_INVOICE.ext O0.2) (g := (mkF m 13 #[iv (1 : Int32)] [])) rfl (hb hby d2_13)
  refine own_via (fun t k => st139 t k) ?_
  obtain ⟨fs, hr, hrun, hended, hW, hsame⟩ := X139.leave (v := some (.ref w36)) (fun h => by rw [Bd.returns] at h; cases h)
  refine own_end (t := T139.setFrames fs) ?_ ⟨_, hrun, hended, _, _, rfl, ?_, ⟨_, rfl⟩, hW, hsame.mono (by decide) (by decide)⟩
  · jvm_step X139.here [X139.here.top, hx, (hb hby d2_16), X139.method', Bd.returns, Value.isRef, FieldType.isReference]
    first | (intro acts; rw [hr _ acts rfl rfl rfl]) | rw [hr _ _ rfl rfl rfl]
    exact Steps.refl _
  · show Q7 Z w36 h0 n0 _ T139.heap _
    rw [e139]
    exact ⟨rfl, N0, rfl⟩
theorem d4_23 : decode prog_20_method_6_code 23 = .ok (.iconst 0, 1) := by decide +kernel
def Q8 (Z : State) (w36 : Addr) (h0 : Heap) (n0 : Nat) (v : Option Value) (h : Heap) (L : List Loc) : Prop := v = some (.int (0 : Int32)) ∧ Fr n0 L ∧ h = h0
set_option maxRecDepth 65536 in
set_option maxHeartbeats 40000000 in
theorem rm8 (l : Launch) (Z : State) (a0 : Array Value) (hw : ∀ d ∈ tables_1, d.before a0 Z = true) (ws : List Jvm.Cond) (w36 : Addr) (h0 : Heap) (n0 : Nat) (O0 : Old Z n0 h0) (SF_w36_purchase : Fld Z Z.heap w36 zs1 "purchase" "Z" (.int (1 : Int32))) (SF_w36_credits : Fld Z Z.heap w36 zs1 "credits" zs3 .null) :
    MetFree l (⟨zs1, "debitsParty", "()Z"⟩ : MethodName) (head1 (Jvm.Cond.code (⟨zs1, "debitsParty", "()Z"⟩ : MethodName) prog_20_method_6_code 1 (some .boolean) :: ws) ({ frames := 0, cells := 0, slots := 0, locals := 0 } : Room)) (fun a U => a = #[(.ref w36)] ∧ Z.Warmed39 U.vm ∧ U.heap = h0) (fun _ _ _ _ _ => True) (fun _ U o U' => ∃ v L, o = .returned v ∧ Q8 Z w36 h0 n0 v U'.heap L ∧ FrameEnd U o U' L ({ frames := 0, cells := 0, slots := 0, locals := 0 } : Room).cells ({ frames := 0, cells := 0, slots := 0, locals := 0 } : Room).slots) := by
  refine MetFree.of_bodySF (plainFor_of_name pn_2) hisR ?_
  intro p e s m args below meth c s₁ Bd hml0 hP hK
  obtain ⟨rfl, hZ, hh⟩ := hP
  have hx := Bd.exec
  have hby := Bd.bytes
  have hml : c.maxLocals = 1 := hml0
  have hown : s.vm.findClass zs1 = some m.cls := findClass_of_methodNamed Bd.named
  have hnm := (name_of_methodNamed Bd.named Bd.method).1
  have X0 : Stand p l e ({ frames := 0, cells := 0, slots := 0, locals := 0 } : Room) s m #[(.ref w36)] below meth c s₁ [] 0 0 := Stand.of_body Bd
  have e0 : s₁.heap = h0 := by rw [← hh, Bd.state]; rfl
  have N0 := Fr.nil n0
  refine own_out ?_
  refine own_via (fun t k => castTop (ef_3 m w36) (XS.aloadN X0.here hx rfl (hb hby d4_0) rfl rfl k)) ?_
  obtain ⟨T159, X159, e159, st159⟩ := getF X0 hx hZ hown (host := "") (Or.inl (wd hw 23 rfl)) Via.refl e0 (SF_w36_purchase.ext O0.2) (g := (mkF m 1 #[rv w36] [(.ref w36)])) rfl rfl (hb hby d4_1)
  refine own_via (fun t k => st159 t (XS.aloadN X159.here hx rfl (hb hby d4_4) rfl rfl k)) ?_
  obtain ⟨T160, X160, e160, st160⟩ := getF X159 hx hZ hown (host := "") (Or.inl (wd hw 25 rfl)) Via.refl e159 (SF_w36_credits.ext O0.2) (g := (mkF m 5 #[rv w36] [(.ref w36), (.int (1 : Int32))])) rfl rfl (hb hby d4_5)
  refine own_via (fun t k => st160 t (XS.ifnullYes X160.here hx rfl (pc0 := 8) (pc' := 15) rfl (hb hby d4_8) rfl (by decide) (by decide) (XS.iconst X160.here hx rfl (hb hby d4_15) (XS.icmpYes X160.here hx rfl (pc0 := 16) (pc' := 23) rfl (hb hby d4_16) rfl (feq (by decide : ¬ ((1 : Int32) = (0 : Int32)))).2 (by decide) (by decide) (XS.iconst X160.here hx rfl (hb hby d4_23) k))))) ?_
  obtain ⟨fs, hr, hrun, hended, hW, hsame⟩ := X160.leave (v := some (.int (0 : Int32))) (fun h => by rw [Bd.returns] at h; cases h)
  refine own_end (t := T160.setFrames fs) ?_ ⟨_, hrun, hended, _, _, rfl, ?_, ⟨_, rfl⟩, hW, hsame.mono (by decide) (by decide)⟩
  · exact retN X160 hx (t := .boolean) Bd.returns (by simp) (hb hby d4_24) hr
  · show Q8 Z w36 h0 n0 _ T160.heap _
    rw [e160]
    exact ⟨rfl, N0, rfl⟩
def Q9 (Z : State) (w31 : Addr) (w36 : Addr) (h0 : Heap) (n0 : Nat) (v : Option Value) (h : Heap) (L : List Loc) : Prop := v = some (.int (0 : Int32)) ∧ Fr n0 L ∧ h = h0
set_option maxRecDepth 65536 in
set_option maxHeartbeats 40000000 in
theorem rm9 (l : Launch) (Z : State) (a0 : Array Value) (hw : ∀ d ∈ tables_1, d.before a0 Z = true) (ws : List Jvm.Cond) (w31 : Addr) (w36 : Addr) (h0 : Heap) (n0 : Nat) (O0 : Old Z n0 h0) (SF_w36_purchase : Fld Z Z.heap w36 zs1 "purchase" "Z" (.int (1 : Int32))) (SF_w36_credits : Fld Z Z.heap w36 zs1 "credits" zs3 .null) (SE_w36 : Exa Z Z.heap w36 zs1) (SF_w31_debitsAccount : Fld Z Z.heap w31 zs2 zs9 "Z" (.int (1 : Int32))) :
    MetFree l (⟨zs2, "settles", zs5⟩ : MethodName) (head1 (Jvm.Cond.code (⟨zs2, "settles", zs5⟩ : MethodName) prog_30_method_5_code 2 (some .boolean) :: ws) ({ frames := 1, cells := 0, slots := 0, locals := 12 } : Room)) (fun a U => a = #[(.ref w31), (.ref w36)] ∧ Z.Warmed39 U.vm ∧ U.heap = h0) (fun _ _ _ _ _ => True) (fun _ U o U' => ∃ v L, o = .returned v ∧ Q9 Z w31 w36 h0 n0 v U'.heap L ∧ FrameEnd U o U' L ({ frames := 1, cells := 0, slots := 0, locals := 12 } : Room).cells ({ frames := 1, cells := 0, slots := 0, locals := 12 } : Room).slots) := by
  refine MetFree.of_bodySF (plainFor_of_name pn_3) hisR ?_
  intro p e s m args below meth c s₁ Bd hml0 hP hK
  obtain ⟨rfl, hZ, hh⟩ := hP
  have hx := Bd.exec
  have hby := Bd.bytes
  have hml : c.maxLocals = 2 := hml0
  have hown : s.vm.findClass zs2 = some m.cls := findClass_of_methodNamed Bd.named
  have hnm := (name_of_methodNamed Bd.named Bd.method).1
  have X0 : Stand p l e ({ frames := 1, cells := 0, slots := 0, locals := 12 } : Room) s m #[(.ref w31), (.ref w36)] below meth c s₁ [] 0 0 := Stand.of_body Bd
  have e0 : s₁.heap = h0 := by rw [← hh, Bd.state]; rfl
  have N0 := Fr.nil n0
  refine own_out ?_
  refine own_via (fun t k => castTop (ef_4 m w31 w36) (XS.aloadN X0.here hx rfl (hb hby d3_0) rfl rfl k)) ?_
  obtain ⟨_, T150, _, X150, hQ150, st150⟩ := own_cv X0 hx hZ hown (wd hw 18 rfl) (wd hw 19 rfl) (wd hw 21 rfl) (wd hw 20 rfl) (wd hw 22 rfl) (wd hw 11 rfl) (by decide) (rm8 l Z a0 hw [] w36 h0 n0 O0 SF_w36_purchase SF_w36_credits) e0 (SE_w36.ext O0.2) (g := (mkF m 1 #[rv w31, rv w36] [(.ref w36)])) rfl (by rw [hml]; rfl) (rest := []) (W := 0) (lenOf pd_3 rfl) rfl (by show 2 * 0 + _ ≤ _; exact Nat.le_of_eq rfl) (hb hby d3_1) (by decide) (by decide) (by decide) (by decide)
  obtain ⟨rfl, Nq150, hh161⟩ := hQ150
  have N150 := Fr.app N0 Nq150
  refine own_via (fun t k => st150 t (XS.aloadN X150.here hx rfl (hb hby d3_4) rfl rfl k)) ?_
  obtain ⟨T162, X162, e162, st162⟩ := getF X150 hx hZ hown (host := "") (Or.inl (wd hw 28 rfl)) Via.refl hh161 (SF_w31_debitsAccount.ext O0.2) (g := (mkF m 5 #[rv w31, rv w36] [(.ref w31), (.int (0 : Int32))])) rfl rfl (hb hby d3_5)
  refine own_via (fun t k => st162 t (XS.icmpYes X162.here hx rfl (pc0 := 8) (pc' := 15) rfl (hb hby d3_8) rfl (feq (by decide : ¬ ((0 : Int32) = (1 : Int32)))).2 (by decide) (by decide) (XS.iconst X162.here hx rfl (hb hby d3_15) k))) ?_
  obtain ⟨fs, hr, hrun, hended, hW, hsame⟩ := X162.leave (v := some (.int (0 : Int32))) (fun h => by rw [Bd.returns] at h; cases h)
  refine own_end (t := T162.setFrames fs) ?_ ⟨_, hrun, hended, _, _, rfl, ?_, ⟨_, rfl⟩, hW, hsame.mono (by decide) (by decide)⟩
  · exact retN X162 hx (t := .boolean) Bd.returns (by simp) (hb hby d3_16) hr
  · show Q9 Z w31 w36 h0 n0 _ T162.heap _
    rw [e162]
    exact ⟨rfl, N150, rfl⟩
def Q10 (Z : State) (w46 : Addr) (w36 : Addr) (h0 : Heap) (n0 : Nat) (v : Option Value) (h : Heap) (L : List Loc) : Prop := v = some (.int (1 : Int32)) ∧ Fr n0 L ∧ h = h0
set_option maxRecDepth 65536 in
set_option maxHeartbeats 40000000 in
theorem rm10 (l : Launch) (Z : State) (a0 : Array Value) (hw : ∀ d ∈ tables_1, d.before a0 Z = true) (ws : List Jvm.Cond) (w46 : Addr) (w36 : Addr) (h0 : Heap) (n0 : Nat) (O0 : Old Z n0 h0) (SF_w36_purchase : Fld Z Z.heap w36 zs1 "purchase" "Z" (.int (1 : Int32))) (SF_w36_credits : Fld Z Z.heap w36 zs1 "credits" zs3 .null) (SE_w36 : Exa Z Z.heap w36 zs1) (SF_w46_debitsAccount : Fld Z Z.heap w46 zs2 zs9 "Z" (.int (0 : Int32))) :
    MetFree l (⟨zs2, "settles", zs5⟩ : MethodName) (head1 (Jvm.Cond.code (⟨zs2, "settles", zs5⟩ : MethodName) prog_30_method_5_code 2 (some .boolean) :: ws) ({ frames := 1, cells := 0, slots := 0, locals := 12 } : Room)) (fun a U => a = #[(.ref w46), (.ref w36)] ∧ Z.Warmed39 U.vm ∧ U.heap = h0) (fun _ _ _ _ _ => True) (fun _ U o U' => ∃ v L, o = .returned v ∧ Q10 Z w46 w36 h0 n0 v U'.heap L ∧ FrameEnd U o U' L ({ frames := 1, cells := 0, slots := 0, locals := 12 } : Room).cells ({ frames := 1, cells := 0, slots := 0, locals := 12 } : Room).slots) := by
  refine MetFree.of_bodySF (plainFor_of_name pn_3) hisR ?_
  intro p e s m args below meth c s₁ Bd hml0 hP hK
  obtain ⟨rfl, hZ, hh⟩ := hP
  have hx := Bd.exec
  have hby := Bd.bytes
  have hml : c.maxLocals = 2 := hml0
  have hown : s.vm.findClass zs2 = some m.cls := findClass_of_methodNamed Bd.named
  have hnm := (name_of_methodNamed Bd.named Bd.method).1
  have X0 : Stand p l e ({ frames := 1, cells := 0, slots := 0, locals := 12 } : Room) s m #[(.ref w46), (.ref w36)] below meth c s₁ [] 0 0 := Stand.of_body Bd
  have e0 : s₁.heap = h0 := by rw [← hh, Bd.state]; rfl
  have N0 := Fr.nil n0
  refine own_out ?_
  refine own_via (fun t k => castTop (ef_4 m w46 w36) (XS.aloadN X0.here hx rfl (hb hby d3_0) rfl rfl k)) ?_
  obtain ⟨_, T177, _, X177, hQ177, st177⟩ := own_cv X0 hx hZ hown (wd hw 18 rfl) (wd hw 19 rfl) (wd hw 21 rfl) (wd hw 20 rfl) (wd hw 22 rfl) (wd hw 11 rfl) (by decide) (rm8 l Z a0 hw [] w36 h0 n0 O0 SF_w36_purchase SF_w36_credits) e0 (SE_w36.ext O0.2) (g := (mkF m 1 #[rv w46, rv w36] [(.ref w36)])) rfl (by rw [hml]; rfl) (rest := []) (W := 0) (lenOf pd_3 rfl) rfl (by show 2 * 0 + _ ≤ _; exact Nat.le_of_eq rfl) (hb hby d3_1) (by decide) (by decide) (by decide) (by decide)
  obtain ⟨rfl, Nq177, hh178⟩ := hQ177
  have N177 := Fr.app N0 Nq177
  refine own_via (fun t k => st177 t (XS.aloadN X177.here hx rfl (hb hby d3_4) rfl rfl k)) ?_
  obtain ⟨T179, X179, e179, st179⟩ := getF X177 hx hZ hown (host := "") (Or.inl (wd hw 28 rfl)) Via.refl hh178 (SF_w46_debitsAccount.ext O0.2) (g := (mkF m 5 #[rv w46, rv w36] [(.ref w46), (.int (0 : Int32))])) rfl rfl (hb hby d3_5)
  refine own_via (fun t k => st179 t (XS.icmpNo X179.here hx rfl (hb hby d3_8) rfl (teq (by decide : (0 : Int32) = (0 : Int32))).2 (XS.iconst X179.here hx rfl (hb hby d3_11) (XS.goto X179.here hx rfl (pc0 := 12) (pc' := 16) rfl (hb hby d3_12) (by decide) (by decide) k)))) ?_
  obtain ⟨fs, hr, hrun, hended, hW, hsame⟩ := X179.leave (v := some (.int (1 : Int32))) (fun h => by rw [Bd.returns] at h; cases h)
  refine own_end (t := T179.setFrames fs) ?_ ⟨_, hrun, hended, _, _, rfl, ?_, ⟨_, rfl⟩, hW, hsame.mono (by decide) (by decide)⟩
  · exact retN X179 hx (t := .boolean) Bd.returns (by simp) (hb hby d3_16) hr
  · show Q10 Z w46 w36 h0 n0 _ T179.heap _
    rw [e179]
    exact ⟨rfl, N177, rfl⟩
theorem d2_17 : decode method_3_code 17 = .ok (.iload_n 0, 1) := by decide +kernel
theorem d2_18 : decode method_3_code 18 = .ok (.iconst 2, 1) := by decide +kernel
theorem d2_19 : decode method_3_code 19 = .ok (.if_icmp .ne 7, 3) := by decide +kernel
theorem d2_22 : decode method_3_code 22 = .ok (.getstatic 25, 3) := by decide +kernel
theorem d2_25 : decode method_3_code 25 = .ok (.areturn, 1) := by decide +kernel
def Q11 (Z : State) (w49 : Addr) (h0 : Heap) (n0 : Nat) (v : Option Value) (h : Heap) (L : List Loc) : Prop := v = some (.ref w49) ∧ Fr n0 L ∧ h = h0
set_option maxRecDepth 65536 in
set_option maxHeartbeats 40000000 in
theorem rm11 (l : Launch) (Z : State) (a0 : Array Value) (hw : ∀ d ∈ tables_1, d.before a0 Z = true) (ws : List Jvm.Cond) (w49 : Addr) (h0 : Heap) (n0 : Nat) (O0 : Old Z n0 h0) (S_DocumentType_SALES_CREDIT_NOTE : Sta Z Z.heap zs1 "SALES_CREDIT_NOTE" zs3 (.ref w49)) :
    MetFree l (⟨zs4, "type", zs6⟩ : MethodName) (head1 (Jvm.Cond.code (⟨zs4, "type", zs6⟩ : MethodName) method_3_code 1 (some (.object zs1)) :: ws) ({ frames := 0, cells := 0, slots := 0, locals := 0 } : Room)) (fun a U => a = #[(.int (2 : Int32))] ∧ Z.Warmed39 U.vm ∧ U.heap = h0) (fun _ _ _ _ _ => True) (fun _ U o U' => ∃ v L, o = .returned v ∧ Q11 Z w49 h0 n0 v U'.heap L ∧ FrameEnd U o U' L ({ frames := 0, cells := 0, slots := 0, locals := 0 } : Room).cells ({ frames := 0, cells := 0, slots := 0, locals := 0 } : Room).slots) := by
  refine MetFree.of_bodySF (plainFor_of_name pn_1) hisR ?_
  intro p e s m args below meth c s₁ Bd hml0 hP hK
  obtain ⟨rfl, hZ, hh⟩ := hP
  have hx := Bd.exec
  have hby := Bd.bytes
  have hml : c.maxLocals = 1 := hml0
  have hown : s.vm.findClass zs4 = some m.cls := findClass_of_methodNamed Bd.named
  have hnm := (name_of_methodNamed Bd.named Bd.method).1
  have X0 : Stand p l e ({ frames := 0, cells := 0, slots := 0, locals := 0 } : Room) s m #[(.int (2 : Int32))] below meth c s₁ [] 0 0 := Stand.of_body Bd
  have e0 : s₁.heap = h0 := by rw [← hh, Bd.state]; rfl
  have N0 := Fr.nil n0
  refine own_out ?_
  refine own_via (fun t k => castTop (ef_2 m (2 : Int32)) (XS.iloadN X0.here hx rfl (hb hby d2_0) rfl (XS.ifYes X0.here hx rfl (pc0 := 1) (pc' := 8) rfl (hb hby d2_1) rfl ((if0 _ _).trans (feq (by decide : ¬ ((2 : Int32) = (0 : Int32)))).2) (by decide) (by decide) (XS.iloadN X0.here hx rfl (hb hby d2_8) rfl (XS.iconst X0.here hx rfl (hb hby d2_9) (XS.icmpYes X0.here hx rfl (pc0 := 10) (pc' := 17) rfl (hb hby d2_10) rfl (feq (by decide : ¬ ((2 : Int32) = (1 : Int32)))).2 (by decide) (by decide) (XS.iloadN X0.here hx rfl (hb hby d2_17) rfl (XS.iconst X0.here hx rfl (hb hby d2_18) (XS.icmpNo X0.here hx rfl (hb hby d2_19) rfl (teq (by decide : (2 : Int32) = (2 : Int32))).2 k))))))))) ?_
  obtain ⟨T194, X194, e194, st194⟩ := getS2 X0 hx hZ hown (host := "") (Or.inl (wd hw 35 rfl)) Via.refl e0 (S_DocumentType_SALES_CREDIT_NOTE.ext O0.2) (g := (mkF m 22 #[iv (2 : Int32)] [])) rfl (hb hby d2_22)
  refine own_via (fun t k => st194 t k) ?_
  obtain ⟨fs, hr, hrun, hended, hW, hsame⟩ := X194.leave (v := some (.ref w49)) (fun h => by rw [Bd.returns] at h; cases h)
  refine own_end (t := T194.setFrames fs) ?_ ⟨_, hrun, hended, _, _, rfl, ?_, ⟨_, rfl⟩, hW, hsame.mono (by decide) (by decide)⟩
  · jvm_step X194.here [X194.here.top, hx, (hb hby d2_25), X194.method', Bd.returns, Value.isRef, FieldType.isReference]
    first | (intro acts; rw [hr _ acts rfl rfl rfl]) | rw [hr _ _ rfl rfl rfl]
    exact Steps.refl _
  · show Q11 Z w49 h0 n0 _ T194.heap _
    rw [e194]
    exact ⟨rfl, N0, rfl⟩
theorem d4_11 : decode prog_20_method_6_code 11 = .ok (.iconst 1, 1) := by decide +kernel
theorem d4_12 : decode prog_20_method_6_code 12 = .ok (.goto 4, 3) := by decide +kernel
def Q12 (Z : State) (w49 : Addr) (w42 : Addr) (h0 : Heap) (n0 : Nat) (v : Option Value) (h : Heap) (L : List Loc) : Prop := v = some (.int (0 : Int32)) ∧ Fr n0 L ∧ h = h0
set_option maxRecDepth 65536 in
set_option maxHeartbeats 40000000 in
theorem rm12 (l : Launch) (Z : State) (a0 : Array Value) (hw : ∀ d ∈ tables_1, d.before a0 Z = true) (ws : List Jvm.Cond) (w49 : Addr) (w42 : Addr) (h0 : Heap) (n0 : Nat) (O0 : Old Z n0 h0) (SF_w49_purchase : Fld Z Z.heap w49 zs1 "purchase" "Z" (.int (0 : Int32))) (SF_w49_credits : Fld Z Z.heap w49 zs1 "credits" zs3 (.ref w42)) :
    MetFree l (⟨zs1, "debitsParty", "()Z"⟩ : MethodName) (head1 (Jvm.Cond.code (⟨zs1, "debitsParty", "()Z"⟩ : MethodName) prog_20_method_6_code 1 (some .boolean) :: ws) ({ frames := 0, cells := 0, slots := 0, locals := 0 } : Room)) (fun a U => a = #[(.ref w49)] ∧ Z.Warmed39 U.vm ∧ U.heap = h0) (fun _ _ _ _ _ => True) (fun _ U o U' => ∃ v L, o = .returned v ∧ Q12 Z w49 w42 h0 n0 v U'.heap L ∧ FrameEnd U o U' L ({ frames := 0, cells := 0, slots := 0, locals := 0 } : Room).cells ({ frames := 0, cells := 0, slots := 0, locals := 0 } : Room).slots) := by
  refine MetFree.of_bodySF (plainFor_of_name pn_2) hisR ?_
  intro p e s m args below meth c s₁ Bd hml0 hP hK
  obtain ⟨rfl, hZ, hh⟩ := hP
  have hx := Bd.exec
  have hby := Bd.bytes
  have hml : c.maxLocals = 1 := hml0
  have hown : s.vm.findClass zs1 = some m.cls := findClass_of_methodNamed Bd.named
  have hnm := (name_of_methodNamed Bd.named Bd.method).1
  have X0 : Stand p l e ({ frames := 0, cells := 0, slots := 0, locals := 0 } : Room) s m #[(.ref w49)] below meth c s₁ [] 0 0 := Stand.of_body Bd
  have e0 : s₁.heap = h0 := by rw [← hh, Bd.state]; rfl
  have N0 := Fr.nil n0
  refine own_out ?_
  refine own_via (fun t k => castTop (ef_3 m w49) (XS.aloadN X0.here hx rfl (hb hby d4_0) rfl rfl k)) ?_
  obtain ⟨T214, X214, e214, st214⟩ := getF X0 hx hZ hown (host := "") (Or.inl (wd hw 23 rfl)) Via.refl e0 (SF_w49_purchase.ext O0.2) (g := (mkF m 1 #[rv w49] [(.ref w49)])) rfl rfl (hb hby d4_1)
  refine own_via (fun t k => st214 t (XS.aloadN X214.here hx rfl (hb hby d4_4) rfl rfl k)) ?_
  obtain ⟨T215, X215, e215, st215⟩ := getF X214 hx hZ hown (host := "") (Or.inl (wd hw 25 rfl)) Via.refl e214 (SF_w49_credits.ext O0.2) (g := (mkF m 5 #[rv w49] [(.ref w49), (.int (0 : Int32))])) rfl rfl (hb hby d4_5)
  refine own_via (fun t k => st215 t (XS.ifnullNo X215.here hx rfl (hb hby d4_8) rfl (XS.iconst X215.here hx rfl (hb hby d4_11) (XS.goto X215.here hx rfl (pc0 := 12) (pc' := 16) rfl (hb hby d4_12) (by decide) (by decide) (XS.icmpYes X215.here hx rfl (pc0 := 16) (pc' := 23) rfl (hb hby d4_16) rfl (feq (by decide : ¬ ((0 : Int32) = (1 : Int32)))).2 (by decide) (by decide) (XS.iconst X215.here hx rfl (hb hby d4_23) k)))))) ?_
  obtain ⟨fs, hr, hrun, hended, hW, hsame⟩ := X215.leave (v := some (.int (0 : Int32))) (fun h => by rw [Bd.returns] at h; cases h)
  refine own_end (t := T215.setFrames fs) ?_ ⟨_, hrun, hended, _, _, rfl, ?_, ⟨_, rfl⟩, hW, hsame.mono (by decide) (by decide)⟩
  · exact retN X215 hx (t := .boolean) Bd.returns (by simp) (hb hby d4_24) hr
  · show Q12 Z w49 w42 h0 n0 _ T215.heap _
    rw [e215]
    exact ⟨rfl, N0, rfl⟩
def Q13 (Z : State) (w31 : Addr) (w49 : Addr) (w42 : Addr) (h0 : Heap) (n0 : Nat) (v : Option Value) (h : Heap) (L : List Loc) : Prop := v = some (.int (0 : Int32)) ∧ Fr n0 L ∧ h = h0
set_option maxRecDepth 65536 in
set_option maxHeartbeats 40000000 in
theorem rm13 (l : Launch) (Z : State) (a0 : Array Value) (hw : ∀ d ∈ tables_1, d.before a0 Z = true) (ws : List Jvm.Cond) (w31 : Addr) (w49 : Addr) (w42 : Addr) (h0 : Heap) (n0 : Nat) (O0 : Old Z n0 h0) (SF_w49_purchase : Fld Z Z.heap w49 zs1 "purchase" "Z" (.int (0 : Int32))) (SF_w49_credits : Fld Z Z.heap w49 zs1 "credits" zs3 (.ref w42)) (SE_w49 : Exa Z Z.heap w49 zs1) (SF_w31_debitsAccount : Fld Z Z.heap w31 zs2 zs9 "Z" (.int (1 : Int32))) :
    MetFree l (⟨zs2, "settles", zs5⟩ : MethodName) (head1 (Jvm.Cond.code (⟨zs2, "settles", zs5⟩ : MethodName) prog_30_method_5_code 2 (some .boolean) :: ws) ({ frames := 1, cells := 0, slots := 0, locals := 12 } : Room)) (fun a U => a = #[(.ref w31), (.ref w49)] ∧ Z.Warmed39 U.vm ∧ U.heap = h0) (fun _ _ _ _ _ => True) (fun _ U o U' => ∃ v L, o = .returned v ∧ Q13 Z w31 w49 w42 h0 n0 v U'.heap L ∧ FrameEnd U o U' L ({ frames := 1, cells := 0, slots := 0, locals := 12 } : Room).cells ({ frames := 1, cells := 0, slots := 0, locals := 12 } : Room).slots) := by
  refine MetFree.of_bodySF (plainFor_of_name pn_3) hisR ?_
  intro p e s m args below meth c s₁ Bd hml0 hP hK
  obtain ⟨rfl, hZ, hh⟩ := hP
  have hx := Bd.exec
  have hby := Bd.bytes
  have hml : c.maxLocals = 2 := hml0
  have hown : s.vm.findClass zs2 = some m.cls := findClass_of_methodNamed Bd.named
  have hnm := (name_of_methodNamed Bd.named Bd.method).1
  have X0 : Stand p l e ({ frames := 1, cells := 0, slots := 0, locals := 12 } : Room) s m #[(.ref w31), (.ref w49)] below meth c s₁ [] 0 0 := Stand.of_body Bd
  have e0 : s₁.heap = h0 := by rw [← hh, Bd.state]; rfl
  have N0 := Fr.nil n0
  refine own_out ?_
  refine own_via (fun t k => castTop (ef_4 m w31 w49) (XS.aloadN X0.here hx rfl (hb hby d3_0) rfl rfl k)) ?_
  obtain ⟨_, T205, _, X205, hQ205, st205⟩ := own_cv X0 hx hZ hown (wd hw 18 rfl) (wd hw 19 rfl) (wd hw 21 rfl) (wd hw 20 rfl) (wd hw 22 rfl) (wd hw 11 rfl) (by decide) (rm12 l Z a0 hw [] w49 w42 h0 n0 O0 SF_w49_purchase SF_w49_credits) e0 (SE_w49.ext O0.2) (g := (mkF m 1 #[rv w31, rv w49] [(.ref w49)])) rfl (by rw [hml]; rfl) (rest := []) (W := 0) (lenOf pd_3 rfl) rfl (by show 2 * 0 + _ ≤ _; exact Nat.le_of_eq rfl) (hb hby d3_1) (by decide) (by decide) (by decide) (by decide)
  obtain ⟨rfl, Nq205, hh216⟩ := hQ205
  have N205 := Fr.app N0 Nq205
  refine own_via (fun t k => st205 t (XS.aloadN X205.here hx rfl (hb hby d3_4) rfl rfl k)) ?_
  obtain ⟨T217, X217, e217, st217⟩ := getF X205 hx hZ hown (host := "") (Or.inl (wd hw 28 rfl)) Via.refl hh216 (SF_w31_debitsAccount.ext O0.2) (g := (mkF m 5 #[rv w31, rv w49] [(.ref w31), (.int (0 : Int32))])) rfl rfl (hb hby d3_5)
  refine own_via (fun t k => st217 t (XS.icmpYes X217.here hx rfl (pc0 := 8) (pc' := 15) rfl (hb hby d3_8) rfl (feq (by decide : ¬ ((0 : Int32) = (1 : Int32)))).2 (by decide) (by decide) (XS.iconst X217.here hx rfl (hb hby d3_15) k))) ?_
  obtain ⟨fs, hr, hrun, hended, hW, hsame⟩ := X217.leave (v := some (.int (0 : Int32))) (fun h => by rw [Bd.returns] at h; cases h)
  refine own_end (t := T217.setFrames fs) ?_ ⟨_, hrun, hended, _, _, rfl, ?_, ⟨_, rfl⟩, hW, hsame.mono (by decide) (by decide)⟩
  · exact retN X217 hx (t := .boolean) Bd.returns (by simp) (hb hby d3_16) hr
  · show Q13 Z w31 w49 w42 h0 n0 _ T217.heap _
    rw [e217]
    exact ⟨rfl, N205, rfl⟩
def Q14 (Z : State) (w46 : Addr) (w49 : Addr) (w42 : Addr) (h0 : Heap) (n0 : Nat) (v : Option Value) (h : Heap) (L : List Loc) : Prop := v = some (.int (1 : Int32)) ∧ Fr n0 L ∧ h = h0
set_option maxRecDepth 65536 in
set_option maxHeartbeats 40000000 in
theorem rm14 (l : Launch) (Z : State) (a0 : Array Value) (hw : ∀ d ∈ tables_1, d.before a0 Z = true) (ws : List Jvm.Cond) (w46 : Addr) (w49 : Addr) (w42 : Addr) (h0 : Heap) (n0 : Nat) (O0 : Old Z n0 h0) (SF_w49_purchase : Fld Z Z.heap w49 zs1 "purchase" "Z" (.int (0 : Int32))) (SF_w49_credits : Fld Z Z.heap w49 zs1 "credits" zs3 (.ref w42)) (SE_w49 : Exa Z Z.heap w49 zs1) (SF_w46_debitsAccount : Fld Z Z.heap w46 zs2 zs9 "Z" (.int (0 : Int32))) :
    MetFree l (⟨zs2, "settles", zs5⟩ : MethodName) (head1 (Jvm.Cond.code (⟨zs2, "settles", zs5⟩ : MethodName) prog_30_method_5_code 2 (some .boolean) :: ws) ({ frames := 1, cells := 0, slots := 0, locals := 12 } : Room)) (fun a U => a = #[(.ref w46), (.ref w49)] ∧ Z.Warmed39 U.vm ∧ U.heap = h0) (fun _ _ _ _ _ => True) (fun _ U o U' => ∃ v L, o = .returned v ∧ Q14 Z w46 w49 w42 h0 n0 v U'.heap L ∧ FrameEnd U o U' L ({ frames := 1, cells := 0, slots := 0, locals := 12 } : Room).cells ({ frames := 1, cells := 0, slots := 0, locals := 12 } : Room).slots) := by
  refine MetFree.of_bodySF (plainFor_of_name pn_3) hisR ?_
  intro p e s m args below meth c s₁ Bd hml0 hP hK
  obtain ⟨rfl, hZ, hh⟩ := hP
  have hx := Bd.exec
  have hby := Bd.bytes
  have hml : c.maxLocals = 2 := hml0
  have hown : s.vm.findClass zs2 = some m.cls := findClass_of_methodNamed Bd.named
  have hnm := (name_of_methodNamed Bd.named Bd.method).1
  have X0 : Stand p l e ({ frames := 1, cells := 0, slots := 0, locals := 12 } : Room) s m #[(.ref w46), (.ref w49)] below meth c s₁ [] 0 0 := Stand.of_body Bd
  have e0 : s₁.heap = h0 := by rw [← hh, Bd.state]; rfl
  have N0 := Fr.nil n0
  refine own_out ?_
  refine own_via (fun t k => castTop (ef_4 m w46 w49) (XS.aloadN X0.here hx rfl (hb hby d3_0) rfl rfl k)) ?_
  obtain ⟨_, T232, _, X232, hQ232, st232⟩ := own_cv X0 hx hZ hown (wd hw 18 rfl) (wd hw 19 rfl) (wd hw 21 rfl) (wd hw 20 rfl) (wd hw 22 rfl) (wd hw 11 rfl) (by decide) (rm12 l Z a0 hw [] w49 w42 h0 n0 O0 SF_w49_purchase SF_w49_credits) e0 (SE_w49.ext O0.2) (g := (mkF m 1 #[rv w46, rv w49] [(.ref w49)])) rfl (by rw [hml]; rfl) (rest := []) (W := 0) (lenOf pd_3 rfl) rfl (by show 2 * 0 + _ ≤ _; exact Nat.le_of_eq rfl) (hb hby d3_1) (by decide) (by decide) (by decide) (by decide)
  obtain ⟨rfl, Nq232, hh233⟩ := hQ232
  have N232 := Fr.app N0 Nq232
  refine own_via (fun t k => st232 t (XS.aloadN X232.here hx rfl (hb hby d3_4) rfl rfl k)) ?_
  obtain ⟨T234, X234, e234, st234⟩ := getF X232 hx hZ hown (host := "") (Or.inl (wd hw 28 rfl)) Via.refl hh233 (SF_w46_debitsAccount.ext O0.2) (g := (mkF m 5 #[rv w46, rv w49] [(.ref w46), (.int (0 : Int32))])) rfl rfl (hb hby d3_5)
  refine own_via (fun t k => st234 t (XS.icmpNo X234.here hx rfl (hb hby d3_8) rfl (teq (by decide : (0 : Int32) = (0 : Int32))).2 (XS.iconst X234.here hx rfl (hb hby d3_11) (XS.goto X234.here hx rfl (pc0 := 12) (pc' := 16) rfl (hb hby d3_12) (by decide) (by decide) k)))) ?_
  obtain ⟨fs, hr, hrun, hended, hW, hsame⟩ := X234.leave (v := some (.int (1 : Int32))) (fun h => by rw [Bd.returns] at h; cases h)
  refine own_end (t := T234.setFrames fs) ?_ ⟨_, hrun, hended, _, _, rfl, ?_, ⟨_, rfl⟩, hW, hsame.mono (by decide) (by decide)⟩
  · exact retN X234 hx (t := .boolean) Bd.returns (by simp) (hb hby d3_16) hr
  · show Q14 Z w46 w49 w42 h0 n0 _ T234.heap _
    rw [e234]
    exact ⟨rfl, N232, rfl⟩
theorem d2_26 : decode method_3_code 26 = .ok (.getstatic 28, 3) := by decide +kernel
theorem d2_29 : decode method_3_code 29 = .ok (.areturn, 1) := by decide +kernel
def Q15 (Z : State) (w33 : Addr) (h0 : Heap) (n0 : Nat) (v : Option Value) (h : Heap) (L : List Loc) : Prop := v = some (.ref w33) ∧ Fr n0 L ∧ h = h0
set_option maxRecDepth 65536 in
set_option maxHeartbeats 40000000 in
theorem rm15 (l : Launch) (Z : State) (a0 : Array Value) (hw : ∀ d ∈ tables_1, d.before a0 Z = true) (ws : List Jvm.Cond) (w33 : Addr) (h0 : Heap) (n0 : Nat) (O0 : Old Z n0 h0) (S_DocumentType_PURCHASE_CREDIT_NOTE : Sta Z Z.heap zs1 "PURCHASE_CREDIT_NOTE" zs3 (.ref w33)) :
    MetFree l (⟨zs4, "type", zs6⟩ : MethodName) (head1 (Jvm.Cond.code (⟨zs4, "type", zs6⟩ : MethodName) method_3_code 1 (some (.object zs1)) :: ws) ({ frames := 0, cells := 0, slots := 0, locals := 0 } : Room)) (fun a U => a = #[(.int (3 : Int32))] ∧ Z.Warmed39 U.vm ∧ U.heap = h0) (fun _ _ _ _ _ => True) (fun _ U o U' => ∃ v L, o = .returned v ∧ Q15 Z w33 h0 n0 v U'.heap L ∧ FrameEnd U o U' L ({ frames := 0, cells := 0, slots := 0, locals := 0 } : Room).cells ({ frames := 0, cells := 0, slots := 0, locals := 0 } : Room).slots) := by
  refine MetFree.of_bodySF (plainFor_of_name pn_1) hisR ?_
  intro p e s m args below meth c s₁ Bd hml0 hP hK
  obtain ⟨rfl, hZ, hh⟩ := hP
  have hx := Bd.exec
  have hby := Bd.bytes
  have hml : c.maxLocals = 1 := hml0
  have hown : s.vm.findClass zs4 = some m.cls := findClass_of_methodNamed Bd.named
  have hnm := (name_of_methodNamed Bd.named Bd.method).1
  have X0 : Stand p l e ({ frames := 0, cells := 0, slots := 0, locals := 0 } : Room) s m #[(.int (3 : Int32))] below meth c s₁ [] 0 0 := Stand.of_body Bd
  have e0 : s₁.heap = h0 := by rw [← hh, Bd.state]; rfl
  have N0 := Fr.nil n0
  refine own_out ?_
  refine own_via (fun t k => castTop (ef_2 m (3 : Int32)) (XS.iloadN X0.here hx rfl (hb hby d2_0) rfl (XS.ifYes X0.here hx rfl (pc0 := 1) (pc' := 8) rfl (hb hby d2_1) rfl ((if0 _ _).trans (feq (by decide : ¬ ((3 : Int32) = (0 : Int32)))).2) (by decide) (by decide) (XS.iloadN X0.here hx rfl (hb hby d2_8) rfl (XS.iconst X0.here hx rfl (hb hby d2_9) (XS.icmpYes X0.here hx rfl (pc0 := 10) (pc' := 17) rfl (hb hby d2_10) rfl (feq (by decide : ¬ ((3 : Int32) = (1 : Int32)))).2 (by decide) (by decide) (XS.iloadN X0.here hx rfl (hb hby d2_17) rfl (XS.iconst X0.here hx rfl (hb hby d2_18) (XS.icmpYes X0.here hx rfl (pc0 := 19) (pc' := 26) rfl (hb hby d2_19) rfl (feq (by decide : ¬ ((3 : Int32) = (2 : Int32)))).2 (by decide) (by decide) k))))))))) ?_
  obtain ⟨T249, X249, e249, st249⟩ := getS2 X0 hx hZ hown (host := "") (Or.inl (wd hw 10 rfl)) Via.refl e0 (S_DocumentType_PURCHASE_CREDIT_NOTE.ext O0.2) (g := (mkF m 26 #[iv (3 : Int32)] [])) rfl (hb hby d2_26)
  refine own_via (fun t k => st249 t k) ?_
  obtain ⟨fs, hr, hrun, hended, hW, hsame⟩ := X249.leave (v := some (.ref w33)) (fun h => by rw [Bd.returns] at h; cases h)
  refine own_end (t := T249.setFrames fs) ?_ ⟨_, hrun, hended, _, _, rfl, ?_, ⟨_, rfl⟩, hW, hsame.mono (by decide) (by decide)⟩
  · jvm_step X249.here [X249.here.top, hx, (hb hby d2_29), X249.method', Bd.returns, Value.isRef, FieldType.isReference]
    first | (intro acts; rw [hr _ acts rfl rfl rfl]) | rw [hr _ _ rfl rfl rfl]
    exact Steps.refl _
  · show Q15 Z w33 h0 n0 _ T249.heap _
    rw [e249]
    exact ⟨rfl, N0, rfl⟩
def Q16 (Z : State) (w33 : Addr) (w36 : Addr) (h0 : Heap) (n0 : Nat) (v : Option Value) (h : Heap) (L : List Loc) : Prop := v = some (.int (1 : Int32)) ∧ Fr n0 L ∧ h = h0
set_option maxRecDepth 65536 in
set_option maxHeartbeats 40000000 in
theorem rm16 (l : Launch) (Z : State) (a0 : Array Value) (hw : ∀ d ∈ tables_1, d.before a0 Z = true) (ws : List Jvm.Cond) (w33 : Addr) (w36 : Addr) (h0 : Heap) (n0 : Nat) (O0 : Old Z n0 h0) (SF_w33_purchase : Fld Z Z.heap w33 zs1 "purchase" "Z" (.int (1 : Int32))) (SF_w33_credits : Fld Z Z.heap w33 zs1 "credits" zs3 (.ref w36)) :
    MetFree l (⟨zs1, "debitsParty", "()Z"⟩ : MethodName) (head1 (Jvm.Cond.code (⟨zs1, "debitsParty", "()Z"⟩ : MethodName) prog_20_method_6_code 1 (some .boolean) :: ws) ({ frames := 0, cells := 0, slots := 0, locals := 0 } : Room)) (fun a U => a = #[(.ref w33)] ∧ Z.Warmed39 U.vm ∧ U.heap = h0) (fun _ _ _ _ _ => True) (fun _ U o U' => ∃ v L, o = .returned v ∧ Q16 Z w33 w36 h0 n0 v U'.heap L ∧ FrameEnd U o U' L ({ frames := 0, cells := 0, slots := 0, locals := 0 } : Room).cells ({ frames := 0, cells := 0, slots := 0, locals := 0 } : Room).slots) := by
  refine MetFree.of_bodySF (plainFor_of_name pn_2) hisR ?_
  intro p e s m args below meth c s₁ Bd hml0 hP hK
  obtain ⟨rfl, hZ, hh⟩ := hP
  have hx := Bd.exec
  have hby := Bd.bytes
  have hml : c.maxLocals = 1 := hml0
  have hown : s.vm.findClass zs1 = some m.cls := findClass_of_methodNamed Bd.named
  have hnm := (name_of_methodNamed Bd.named Bd.method).1
  have X0 : Stand p l e ({ frames := 0, cells := 0, slots := 0, locals := 0 } : Room) s m #[(.ref w33)] below meth c s₁ [] 0 0 := Stand.of_body Bd
  have e0 : s₁.heap = h0 := by rw [← hh, Bd.state]; rfl
  have N0 := Fr.nil n0
  refine own_out ?_
  refine own_via (fun t k => castTop (ef_3 m w33) (XS.aloadN X0.here hx rfl (hb hby d4_0) rfl rfl k)) ?_
  obtain ⟨T269, X269, e269, st269⟩ := getF X0 hx hZ hown (host := "") (Or.inl (wd hw 23 rfl)) Via.refl e0 (SF_w33_purchase.ext O0.2) (g := (mkF m 1 #[rv w33] [(.ref w33)])) rfl rfl (hb hby d4_1)
  refine own_via (fun t k => st269 t (XS.aloadN X269.here hx rfl (hb hby d4_4) rfl rfl k)) ?_
  obtain ⟨T270, X270, e270, st270⟩ := getF X269 hx hZ hown (host := "") (Or.inl (wd hw 25 rfl)) Via.refl e269 (SF_w33_credits.ext O0.2) (g := (mkF m 5 #[rv w33] [(.ref w33), (.int (1 : Int32))])) rfl rfl (hb hby d4_5)
  refine own_via (fun t k => st270 t (XS.ifnullNo X270.here hx rfl (hb hby d4_8) rfl (XS.iconst X270.here hx rfl (hb hby d4_11) (XS.goto X270.here hx rfl (pc0 := 12) (pc' := 16) rfl (hb hby d4_12) (by decide) (by decide) (XS.icmpNo X270.here hx rfl (hb hby d4_16) rfl (teq (by decide : (1 : Int32) = (1 : Int32))).2 (XS.iconst X270.here hx rfl (hb hby d4_19) (XS.goto X270.here hx rfl (pc0 := 20) (pc' := 24) rfl (hb hby d4_20) (by decide) (by decide) k))))))) ?_
  obtain ⟨fs, hr, hrun, hended, hW, hsame⟩ := X270.leave (v := some (.int (1 : Int32))) (fun h => by rw [Bd.returns] at h; cases h)
  refine own_end (t := T270.setFrames fs) ?_ ⟨_, hrun, hended, _, _, rfl, ?_, ⟨_, rfl⟩, hW, hsame.mono (by decide) (by decide)⟩
  · exact retN X270 hx (t := .boolean) Bd.returns (by simp) (hb hby d4_24) hr
  · show Q16 Z w33 w36 h0 n0 _ T270.heap _
    rw [e270]
    exact ⟨rfl, N0, rfl⟩
def Q17 (Z : State) (w31 : Addr) (w33 : Addr) (w36 : Addr) (h0 : Heap) (n0 : Nat) (v : Option Value) (h : Heap) (L : List Loc) : Prop := v = some (.int (1 : Int32)) ∧ Fr n0 L ∧ h = h0
set_option maxRecDepth 65536 in
set_option maxHeartbeats 40000000 in
theorem rm17 (l : Launch) (Z : State) (a0 : Array Value) (hw : ∀ d ∈ tables_1, d.before a0 Z = true) (ws : List Jvm.Cond) (w31 : Addr) (w33 : Addr) (w36 : Addr) (h0 : Heap) (n0 : Nat) (O0 : Old Z n0 h0) (SF_w33_purchase : Fld Z Z.heap w33 zs1 "purchase" "Z" (.int (1 : Int32))) (SF_w33_credits : Fld Z Z.heap w33 zs1 "credits" zs3 (.ref w36)) (SE_w33 : Exa Z Z.heap w33 zs1) (SF_w31_debitsAccount : Fld Z Z.heap w31 zs2 zs9 "Z" (.int (1 : Int32))) :
    MetFree l (⟨zs2, "settles", zs5⟩ : MethodName) (head1 (Jvm.Cond.code (⟨zs2, "settles", zs5⟩ : MethodName) prog_30_method_5_code 2 (some .boolean) :: ws) ({ frames := 1, cells := 0, slots := 0, locals := 12 } : Room)) (fun a U => a = #[(.ref w31), (.ref w33)] ∧ Z.Warmed39 U.vm ∧ U.heap = h0) (fun _ _ _ _ _ => True) (fun _ U o U' => ∃ v L, o = .returned v ∧ Q17 Z w31 w33 w36 h0 n0 v U'.heap L ∧ FrameEnd U o U' L ({ frames := 1, cells := 0, slots := 0, locals := 12 } : Room).cells ({ frames := 1, cells := 0, slots := 0, locals := 12 } : Room).slots) := by
  refine MetFree.of_bodySF (plainFor_of_name pn_3) hisR ?_
  intro p e s m args below meth c s₁ Bd hml0 hP hK
  obtain ⟨rfl, hZ, hh⟩ := hP
  have hx := Bd.exec
  have hby := Bd.bytes
  have hml : c.maxLocals = 2 := hml0
  have hown : s.vm.findClass zs2 = some m.cls := findClass_of_methodNamed Bd.named
  have hnm := (name_of_methodNamed Bd.named Bd.method).1
  have X0 : Stand p l e ({ frames := 1, cells := 0, slots := 0, locals := 12 } : Room) s m #[(.ref w31), (.ref w33)] below meth c s₁ [] 0 0 := Stand.of_body Bd
  have e0 : s₁.heap = h0 := by rw [← hh, Bd.state]; rfl
  have N0 := Fr.nil n0
  refine own_out ?_
  refine own_via (fun t k => castTop (ef_4 m w31 w33) (XS.aloadN X0.here hx rfl (hb hby d3_0) rfl rfl k)) ?_
  obtain ⟨_, T260, _, X260, hQ260, st260⟩ := own_cv X0 hx hZ hown (wd hw 18 rfl) (wd hw 19 rfl) (wd hw 21 rfl) (wd hw 20 rfl) (wd hw 22 rfl) (wd hw 11 rfl) (by decide) (rm16 l Z a0 hw [] w33 w36 h0 n0 O0 SF_w33_purchase SF_w33_credits) e0 (SE_w33.ext O0.2) (g := (mkF m 1 #[rv w31, rv w33] [(.ref w33)])) rfl (by rw [hml]; rfl) (rest := []) (W := 0) (lenOf pd_3 rfl) rfl (by show 2 * 0 + _ ≤ _; exact Nat.le_of_eq rfl) (hb hby d3_1) (by decide) (by decide) (by decide) (by decide)
  obtain ⟨rfl, Nq260, hh271⟩ := hQ260
  have N260 := Fr.app N0 Nq260
  refine own_via (fun t k => st260 t (XS.aloadN X260.here hx rfl (hb hby d3_4) rfl rfl k)) ?_
  obtain ⟨T272, X272, e272, st272⟩ := getF X260 hx hZ hown (host := "") (Or.inl (wd hw 28 rfl)) Via.refl hh271 (SF_w31_debitsAccount.ext O0.2) (g := (mkF m 5 #[rv w31, rv w33] [(.ref w31), (.int (1 : Int32))])) rfl rfl (hb hby d3_5)
  refine own_via (fun t k => st272 t (XS.icmpNo X272.here hx rfl (hb hby d3_8) rfl (teq (by decide : (1 : Int32) = (1 : Int32))).2 (XS.iconst X272.here hx rfl (hb hby d3_11) (XS.goto X272.here hx rfl (pc0 := 12) (pc' := 16) rfl (hb hby d3_12) (by decide) (by decide) k)))) ?_
  obtain ⟨fs, hr, hrun, hended, hW, hsame⟩ := X272.leave (v := some (.int (1 : Int32))) (fun h => by rw [Bd.returns] at h; cases h)
  refine own_end (t := T272.setFrames fs) ?_ ⟨_, hrun, hended, _, _, rfl, ?_, ⟨_, rfl⟩, hW, hsame.mono (by decide) (by decide)⟩
  · exact retN X272 hx (t := .boolean) Bd.returns (by simp) (hb hby d3_16) hr
  · show Q17 Z w31 w33 w36 h0 n0 _ T272.heap _
    rw [e272]
    exact ⟨rfl, N260, rfl⟩
def Q18 (Z : State) (w46 : Addr) (w33 : Addr) (w36 : Addr) (h0 : Heap) (n0 : Nat) (v : Option Value) (h : Heap) (L : List Loc) : Prop := v = some (.int (0 : Int32)) ∧ Fr n0 L ∧ h = h0
set_option maxRecDepth 65536 in
set_option maxHeartbeats 40000000 in
theorem rm18 (l : Launch) (Z : State) (a0 : Array Value) (hw : ∀ d ∈ tables_1, d.before a0 Z = true) (ws : List Jvm.Cond) (w46 : Addr) (w33 : Addr) (w36 : Addr) (h0 : Heap) (n0 : Nat) (O0 : Old Z n0 h0) (SF_w33_purchase : Fld Z Z.heap w33 zs1 "purchase" "Z" (.int (1 : Int32))) (SF_w33_credits : Fld Z Z.heap w33 zs1 "credits" zs3 (.ref w36)) (SE_w33 : Exa Z Z.heap w33 zs1) (SF_w46_debitsAccount : Fld Z Z.heap w46 zs2 zs9 "Z" (.int (0 : Int32))) :
    MetFree l (⟨zs2, "settles", zs5⟩ : MethodName) (head1 (Jvm.Cond.code (⟨zs2, "settles", zs5⟩ : MethodName) prog_30_method_5_code 2 (some .boolean) :: ws) ({ frames := 1, cells := 0, slots := 0, locals := 12 } : Room)) (fun a U => a = #[(.ref w46), (.ref w33)] ∧ Z.Warmed39 U.vm ∧ U.heap = h0) (fun _ _ _ _ _ => True) (fun _ U o U' => ∃ v L, o = .returned v ∧ Q18 Z w46 w33 w36 h0 n0 v U'.heap L ∧ FrameEnd U o U' L ({ frames := 1, cells := 0, slots := 0, locals := 12 } : Room).cells ({ frames := 1, cells := 0, slots := 0, locals := 12 } : Room).slots) := by
  refine MetFree.of_bodySF (plainFor_of_name pn_3) hisR ?_
  intro p e s m args below meth c s₁ Bd hml0 hP hK
  obtain ⟨rfl, hZ, hh⟩ := hP
  have hx := Bd.exec
  have hby := Bd.bytes
  have hml : c.maxLocals = 2 := hml0
  have hown : s.vm.findClass zs2 = some m.cls := findClass_of_methodNamed Bd.named
  have hnm := (name_of_methodNamed Bd.named Bd.method).1
  have X0 : Stand p l e ({ frames := 1, cells := 0, slots := 0, locals := 12 } : Room) s m #[(.ref w46), (.ref w33)] below meth c s₁ [] 0 0 := Stand.of_body Bd
  have e0 : s₁.heap = h0 := by rw [← hh, Bd.state]; rfl
  have N0 := Fr.nil n0
  refine own_out ?_
  refine own_via (fun t k => castTop (ef_4 m w46 w33) (XS.aloadN X0.here hx rfl (hb hby d3_0) rfl rfl k)) ?_
  obtain ⟨_, T287, _, X287, hQ287, st287⟩ := own_cv X0 hx hZ hown (wd hw 18 rfl) (wd hw 19 rfl) (wd hw 21 rfl) (wd hw 20 rfl) (wd hw 22 rfl) (wd hw 11 rfl) (by decide) (rm16 l Z a0 hw [] w33 w36 h0 n0 O0 SF_w33_purchase SF_w33_credits) e0 (SE_w33.ext O0.2) (g := (mkF m 1 #[rv w46, rv w33] [(.ref w33)])) rfl (by rw [hml]; rfl) (rest := []) (W := 0) (lenOf pd_3 rfl) rfl (by show 2 * 0 + _ ≤ _; exact Nat.le_of_eq rfl) (hb hby d3_1) (by decide) (by decide) (by decide) (by decide)
  obtain ⟨rfl, Nq287, hh288⟩ := hQ287
  have N287 := Fr.app N0 Nq287
  refine own_via (fun t k => st287 t (XS.aloadN X287.here hx rfl (hb hby d3_4) rfl rfl k)) ?_
  obtain ⟨T289, X289, e289, st289⟩ := getF X287 hx hZ hown (host := "") (Or.inl (wd hw 28 rfl)) Via.refl hh288 (SF_w46_debitsAccount.ext O0.2) (g := (mkF m 5 #[rv w46, rv w33] [(.ref w46), (.int (1 : Int32))])) rfl rfl (hb hby d3_5)
  refine own_via (fun t k => st289 t (XS.icmpYes X289.here hx rfl (pc0 := 8) (pc' := 15) rfl (hb hby d3_8) rfl (feq (by decide : ¬ ((1 : Int32) = (0 : Int32)))).2 (by decide) (by decide) (XS.iconst X289.here hx rfl (hb hby d3_15) k))) ?_
  obtain ⟨fs, hr, hrun, hended, hW, hsame⟩ := X289.leave (v := some (.int (0 : Int32))) (fun h => by rw [Bd.returns] at h; cases h)
  refine own_end (t := T289.setFrames fs) ?_ ⟨_, hrun, hended, _, _, rfl, ?_, ⟨_, rfl⟩, hW, hsame.mono (by decide) (by decide)⟩
  · exact retN X289 hx (t := .boolean) Bd.returns (by simp) (hb hby d3_16) hr
  · show Q18 Z w46 w33 w36 h0 n0 _ T289.heap _
    rw [e289]
    exact ⟨rfl, N287, rfl⟩
theorem ef_5 (m : MethodId) (x0 : Int32) (x1 : Int32) : entryFrame m #[(.int x0), (.int x1)] maxLocals = mkF m 0 #[iv x0, iv x1, .unset, .unset, .unset, .unset] [] := by first | (simp [entryFrame, mkF, argsToLocals, Value.category, maxLocals]; done) | rfl
set_option maxRecDepth 65536 in
set_option maxHeartbeats 40000000 in
theorem rm0 (l : Launch) (Z : State) (a0 : Array Value) (hw : ∀ d ∈ tables_1, d.before a0 Z = true) (ws : List Jvm.Cond) (i0 : Int32) (i1 : Int32) (w31 : Addr) (w42 : Addr) (w46 : Addr) (w36 : Addr) (w49 : Addr) (w33 : Addr) (h0 : Heap) (n0 : Nat) (O0 : Old Z n0 h0) (S_PaymentDirection_RECEIVED : Sta Z Z.heap zs2 "RECEIVED" zs7 (.ref w31)) (S_DocumentType_SALES_INVOICE : Sta Z Z.heap zs1 "SALES_INVOICE" zs3 (.ref w42)) (SF_w42_purchase : Fld Z Z.heap w42 zs1 "purchase" "Z" (.int (0 : Int32))) (SF_w42_credits : Fld Z Z.heap w42 zs1 "credits" zs3 .null) (SE_w42 : Exa Z Z.heap w42 zs1) (SF_w31_debitsAccount : Fld Z Z.heap w31 zs2 zs9 "Z" (.int (1 : Int32))) (SE_w31 : Exa Z Z.heap w31 zs2) (S_PaymentDirection_SENT : Sta Z Z.heap zs2 "SENT" zs7 (.ref w46)) (SF_w46_debitsAccount : Fld Z Z.heap w46 zs2 zs9 "Z" (.int (0 : Int32))) (SE_w46 : Exa Z Z.heap w46 zs2) (S_DocumentType_PURCHASE_INVOICE : Sta Z Z.heap zs1 "PURCHASE_INVOICE" zs3 (.ref w36)) (SF_w36_purchase : Fld Z Z.heap w36 zs1 "purchase" "Z" (.int (1 : Int32))) (SF_w36_credits : Fld Z Z.heap w36 zs1 "credits" zs3 .null) (SE_w36 : Exa Z Z.heap w36 zs1) (S_DocumentType_SALES_CREDIT_NOTE : Sta Z Z.heap zs1 "SALES_CREDIT_NOTE" zs3 (.ref w49)) (SF_w49_purchase : Fld Z Z.heap w49 zs1 "purchase" "Z" (.int (0 : Int32))) (SF_w49_credits : Fld Z Z.heap w49 zs1 "credits" zs3 (.ref w42)) (SE_w49 : Exa Z Z.heap w49 zs1) (S_DocumentType_PURCHASE_CREDIT_NOTE : Sta Z Z.heap zs1 "PURCHASE_CREDIT_NOTE" zs3 (.ref w33)) (SF_w33_purchase : Fld Z Z.heap w33 zs1 "purchase" "Z" (.int (1 : Int32))) (SF_w33_credits : Fld Z Z.heap w33 zs1 "credits" zs3 (.ref w36)) (SE_w33 : Exa Z Z.heap w33 zs1) :
    MetFree l x (head1 (Jvm.Cond.code x code maxLocals ret :: ws) room_1) (fun a U => a = #[(.int i0), (.int i1)] ∧ Z.Warmed39 U.vm ∧ U.heap = h0) (fun _ _ _ _ _ => True) (fun _ U o U' => ∃ v L, o = .returned v ∧ own_Q0 n0 v L ∧ FrameEnd U o U' L room_1.cells room_1.slots) := by
  refine MetFree.of_bodySF (plainFor_of_name pn_1) hisR ?_
  intro p e s m args below meth c s₁ Bd hml0 hP hK
  obtain ⟨rfl, hZ, hh⟩ := hP
  have hx := Bd.exec
  have hby := Bd.bytes
  have hml : c.maxLocals = 6 := hml0
  have hown : s.vm.findClass zs4 = some m.cls := findClass_of_methodNamed Bd.named
  have hnm := (name_of_methodNamed Bd.named Bd.method).1
  have X0 : Stand p l e room_1 s m #[(.int i0), (.int i1)] below meth c s₁ [] 0 0 := Stand.of_body Bd
  have e0 : s₁.heap = h0 := by rw [← hh, Bd.state]; rfl
  have N0 := Fr.nil n0
  refine own_out ?_
  show own_Goes p e below _ (own_G s below n0)
  refine own_via (fun t k => castTop (ef_5 m i0 i1) (XS.iloadN X0.here hx rfl (hb hby at_0) rfl (XS.iconst X0.here hx rfl (hb hby at_1) (XS.iand X0.here hx rfl (hb hby at_2) rfl (XS.istoreN X0.here hx rfl (hb hby at_3) rfl (l' := #[iv i0, iv i1, iv (i0 &&& (1 : Int32)), .unset, .unset, .unset]) rfl (XS.iloadN X0.here hx rfl (hb hby at_4) rfl (XS.iconst X0.here hx rfl (hb hby at_5) (XS.iand X0.here hx rfl (hb hby at_6) rfl k)))))))) ?_
  show own_Goes p e below (s₁.setTop (mkF m 7 #[iv i0, iv i1, iv (i0 &&& (1 : Int32)), .unset, .unset, .unset] [(.int (i1 &&& (3 : Int32)))])) _
  rcases own_and_3 i1 with qs | qs | qs | qs
  · have qs53 := qs
    rw [qs]
    show own_Goes p e below (s₁.setTop (mkF m 7 #[iv i0, iv i1, iv (i0 &&& (1 : Int32)), .unset, .unset, .unset] [(.int (0 : Int32))])) _
    refine own_via (fun t k => XS.istoreN X0.here hx rfl (hb hby at_7) rfl (l' := #[iv i0, iv i1, iv (i0 &&& (1 : Int32)), iv (0 : Int32), .unset, .unset]) rfl (XS.iloadN X0.here hx rfl (hb hby at_8) rfl (XS.ifYes X0.here hx rfl (pc0 := 9) (pc' := 17) rfl (hb hby at_9) rfl ((if0 _ _).trans (teq (by decide : (0 : Int32) = (0 : Int32))).1) (by decide) (by decide) (XS.iconst X0.here hx rfl (hb hby at_17) (XS.goto X0.here hx rfl (pc0 := 18) (pc' := 22) rfl (hb hby at_18) (by decide) (by decide) (XS.istore X0.here hx rfl (hb hby at_22) rfl (l' := #[iv i0, iv i1, iv (i0 &&& (1 : Int32)), iv (0 : Int32), iv (1 : Int32), .unset]) rfl (XS.iloadN X0.here hx rfl (hb hby at_24) rfl k))))))) ?_
    show own_Goes p e below (s₁.setTop (mkF m 25 #[iv i0, iv i1, iv (i0 &&& (1 : Int32)), iv (0 : Int32), iv (1 : Int32), .unset] [(.int (i0 &&& (1 : Int32)))])) _
    by_cases hc54 : (i0 &&& (1 : Int32)) = (0 : Int32)
    · refine own_via (fun t k => XS.ifNo X0.here hx rfl (hb hby at_25) rfl ((if0 _ _).trans (teq hc54).2) (XS.iload X0.here hx rfl (hb hby at_28) rfl (XS.istore X0.here hx rfl (hb hby at_30) rfl (l' := #[iv i0, iv i1, iv (i0 &&& (1 : Int32)), iv (0 : Int32), iv (1 : Int32), iv (1 : Int32)]) rfl (XS.goto X0.here hx rfl (pc0 := 32) (pc' := 47) rfl (hb hby at_32) (by decide) (by decide) (XS.iloadN X0.here hx rfl (hb hby at_47) rfl k))))) ?_
      obtain ⟨_, T55, _, X55, hQ55, st55⟩ := own_cs X0 hx hZ hown (wd hw 0 rfl) (wd hw 1 rfl) (wd hw 3 rfl) (wd hw 2 rfl) (by decide) (rm1 l Z a0 hw [] (i0 &&& (1 : Int32)) w31 h0 n0 O0 hc54 S_PaymentDirection_RECEIVED) e0 (g := (mkF m 48 #[iv i0, iv i1, iv (i0 &&& (1 : Int32)), iv (0 : Int32), iv (1 : Int32), iv (1 : Int32)] [(.int (i0 &&& (1 : Int32)))])) rfl (by rw [hml]; rfl) (rest := []) (W := 0) (lenOf pd_1 rfl) rfl (by show 2 * 0 + _ ≤ _; exact Nat.le_of_eq rfl) (hb hby at_48) (by decide) (by decide) (by decide) (by decide)
      obtain ⟨rfl, Nq55, hh65⟩ := hQ55
      have N55 := Fr.app N0 Nq55
      refine own_via (fun t k => st55 t (XS.iloadN X55.here hx rfl (hb hby at_51) rfl k)) ?_
      obtain ⟨_, T66, _, X66, hQ66, st66⟩ := own_cs X55 hx hZ hown (wd hw 7 rfl) (wd hw 8 rfl) (wd hw 9 rfl) (wd hw 2 rfl) (by decide) (rm2 l Z a0 hw [] w42 h0 n0 O0 S_DocumentType_SALES_INVOICE) hh65 (g := (mkF m 52 #[iv i0, iv i1, iv (i0 &&& (1 : Int32)), iv (0 : Int32), iv (1 : Int32), iv (1 : Int32)] [(.int (0 : Int32)), (.ref w31)])) rfl (by rw [hml]; rfl) (rest := [(.ref w31)]) (W := 1) (lenOf pd_2 rfl) rfl (by show 2 * 0 + _ ≤ _; exact Nat.le_of_eq rfl) (hb hby at_52) (by decide) (by decide) (by decide) (by decide)
      obtain ⟨rfl, Nq66, hh76⟩ := hQ66
      have N66 := Fr.app N55 Nq66
      refine own_via (fun t k => st66 t k) ?_
      obtain ⟨_, T77, _, X77, hQ77, st77⟩ := own_cv X66 hx hZ hown (wd hw 13 rfl) (wd hw 14 rfl) (wd hw 16 rfl) (wd hw 15 rfl) (wd hw 17 rfl) (wd hw 5 rfl) (by decide) (rm4 l Z a0 hw [] w31 w42 h0 n0 O0 SF_w42_purchase SF_w42_credits SE_w42 SF_w31_debitsAccount) hh76 (SE_w31.ext O0.2) (g := (mkF m 55 #[iv i0, iv i1, iv (i0 &&& (1 : Int32)), iv (0 : Int32), iv (1 : Int32), iv (1 : Int32)] [(.ref w42), (.ref w31)])) rfl (by rw [hml]; rfl) (rest := []) (W := 0) (lenOf pd_4 rfl) rfl (by show 2 * 0 + _ ≤ _; exact Nat.le_of_eq rfl) (hb hby at_55) (by decide) (by decide) (by decide) (by decide)
      obtain ⟨rfl, Nq77, hh99⟩ := hQ77
      have N77 := Fr.app N66 Nq77
      refine own_via (fun t k => st77 t (XS.iload X77.here hx rfl (hb hby at_58) rfl (XS.icmpNo X77.here hx rfl (hb hby at_60) rfl (teq (by decide : (1 : Int32) = (1 : Int32))).2 (XS.iconst X77.here hx rfl (hb hby at_63) (XS.goto X77.here hx rfl (pc0 := 64) (pc' := 68) rfl (hb hby at_64) (by decide) (by decide) k))))) ?_
      obtain ⟨fs, hr, hrun, hended, hW, hsame⟩ := X77.leave (v := some (.int (1 : Int32))) (fun h => by rw [Bd.returns] at h; cases h)
      refine own_end (t := T77.setFrames fs) ?_ ⟨_, hrun, hended, _, _, rfl, ?_, ⟨_, rfl⟩, hW, hsame.mono (by decide) (by decide)⟩
      · exact retN X77 hx (t := .boolean) Bd.returns (by simp) (hb hby at_68) hr
      · exact ⟨rfl, N77⟩
    · refine own_via (fun t k => XS.ifYes X0.here hx rfl (pc0 := 25) (pc' := 35) rfl (hb hby at_25) rfl ((if0 _ _).trans (feq hc54).2) (by decide) (by decide) (XS.iload X0.here hx rfl (hb hby at_35) rfl (XS.ifYes X0.here hx rfl (pc0 := 37) (pc' := 44) rfl (hb hby at_37) rfl ((if0 _ _).trans (feq (by decide : ¬ ((1 : Int32) = (0 : Int32)))).2) (by decide) (by decide) (XS.iconst X0.here hx rfl (hb hby at_44) (XS.istore X0.here hx rfl (hb hby at_45) rfl (l' := #[iv i0, iv i1, iv (i0 &&& (1 : Int32)), iv (0 : Int32), iv (1 : Int32), iv (0 : Int32)]) rfl (XS.iloadN X0.here hx rfl (hb hby at_47) rfl k)))))) ?_
      obtain ⟨_, T100, _, X100, hQ100, st100⟩ := own_cs X0 hx hZ hown (wd hw 0 rfl) (wd hw 1 rfl) (wd hw 3 rfl) (wd hw 2 rfl) (by decide) (rm5 l Z a0 hw [] (i0 &&& (1 : Int32)) w46 h0 n0 O0 hc54 S_PaymentDirection_SENT) e0 (g := (mkF m 48 #[iv i0, iv i1, iv (i0 &&& (1 : Int32)), iv (0 : Int32), iv (1 : Int32), iv (0 : Int32)] [(.int (i0 &&& (1 : Int32)))])) rfl (by rw [hml]; rfl) (rest := []) (W := 0) (lenOf pd_1 rfl) rfl (by show 2 * 0 + _ ≤ _; exact Nat.le_of_eq rfl) (hb hby at_48) (by decide) (by decide) (by decide) (by decide)
      obtain ⟨rfl, Nq100, hh110⟩ := hQ100
      have N100 := Fr.app N0 Nq100
      refine own_via (fun t k => st100 t (XS.iloadN X100.here hx rfl (hb hby at_51) rfl k)) ?_
      obtain ⟨_, T111, _, X111, hQ111, st111⟩ := own_cs X100 hx hZ hown (wd hw 7 rfl) (wd hw 8 rfl) (wd hw 9 rfl) (wd hw 2 rfl) (by decide) (rm2 l Z a0 hw [] w42 h0 n0 O0 S_DocumentType_SALES_INVOICE) hh110 (g := (mkF m 52 #[iv i0, iv i1, iv (i0 &&& (1 : Int32)), iv (0 : Int32), iv (1 : Int32), iv (0 : Int32)] [(.int (0 : Int32)), (.ref w46)])) rfl (by rw [hml]; rfl) (rest := [(.ref w46)]) (W := 1) (lenOf pd_2 rfl) rfl (by show 2 * 0 + _ ≤ _; exact Nat.le_of_eq rfl) (hb hby at_52) (by decide) (by decide) (by decide) (by decide)
      obtain ⟨rfl, Nq111, hh112⟩ := hQ111
      have N111 := Fr.app N100 Nq111
      refine own_via (fun t k => st111 t k) ?_
      obtain ⟨_, T113, _, X113, hQ113, st113⟩ := own_cv X111 hx hZ hown (wd hw 13 rfl) (wd hw 14 rfl) (wd hw 16 rfl) (wd hw 15 rfl) (wd hw 17 rfl) (wd hw 5 rfl) (by decide) (rm6 l Z a0 hw [] w46 w42 h0 n0 O0 SF_w42_purchase SF_w42_credits SE_w42 SF_w46_debitsAccount) hh112 (SE_w46.ext O0.2) (g := (mkF m 55 #[iv i0, iv i1, iv (i0 &&& (1 : Int32)), iv (0 : Int32), iv (1 : Int32), iv (0 : Int32)] [(.ref w42), (.ref w46)])) rfl (by rw [hml]; rfl) (rest := []) (W := 0) (lenOf pd_4 rfl) rfl (by show 2 * 0 + _ ≤ _; exact Nat.le_of_eq rfl) (hb hby at_55) (by decide) (by decide) (by decide) (by decide)
      obtain ⟨rfl, Nq113, hh125⟩ := hQ113
      have N113 := Fr.app N111 Nq113
      refine own_via (fun t k => st113 t (XS.iload X113.here hx rfl (hb hby at_58) rfl (XS.icmpNo X113.here hx rfl (hb hby at_60) rfl (teq (by decide : (0 : Int32) = (0 : Int32))).2 (XS.iconst X113.here hx rfl (hb hby at_63) (XS.goto X113.here hx rfl (pc0 := 64) (pc' := 68) rfl (hb hby at_64) (by decide) (by decide) k))))) ?_
      obtain ⟨fs, hr, hrun, hended, hW, hsame⟩ := X113.leave (v := some (.int (1 : Int32))) (fun h => by rw [Bd.returns] at h; cases h)
      refine own_end (t := T113.setFrames fs) ?_ ⟨_, hrun, hended, _, _, rfl, ?_, ⟨_, rfl⟩, hW, hsame.mono (by decide) (by decide)⟩
      · exact retN X113 hx (t := .boolean) Bd.returns (by simp) (hb hby at_68) hr
      · exact ⟨rfl, N113⟩
  · have qs126 := qs
    rw [qs]
    show own_Goes p e below (s₁.setTop (mkF m 7 #[iv i0, iv i1, iv (i0 &&& (1 : Int32)), .unset, .unset, .unset] [(.int (1 : Int32))])) _
    refine own_via (fun t k => XS.istoreN X0.here hx rfl (hb hby at_7) rfl (l' := #[iv i0, iv i1, iv (i0 &&& (1 : Int32)), iv (1 : Int32), .unset, .unset]) rfl (XS.iloadN X0.here hx rfl (hb hby at_8) rfl (XS.ifNo X0.here hx rfl (hb hby at_9) rfl ((if0 _ _).trans (feq (by decide : ¬ ((1 : Int32) = (0 : Int32)))).1) (XS.iloadN X0.here hx rfl (hb hby at_12) rfl (XS.iconst X0.here hx rfl (hb hby at_13) (XS.icmpYes X0.here hx rfl (pc0 := 14) (pc' := 21) rfl (hb hby at_14) rfl (feq (by decide : ¬ ((1 : Int32) = (3 : Int32)))).2 (by decide) (by decide) (XS.iconst X0.here hx rfl (hb hby at_21) (XS.istore X0.here hx rfl (hb hby at_22) rfl (l' := #[iv i0, iv i1, iv (i0 &&& (1 : Int32)), iv (1 : Int32), iv (0 : Int32), .unset]) rfl (XS.iloadN X0.here hx rfl (hb hby at_24) rfl k))))))))) ?_
    show own_Goes p e below (s₁.setTop (mkF m 25 #[iv i0, iv i1, iv (i0 &&& (1 : Int32)), iv (1 : Int32), iv (0 : Int32), .unset] [(.int (i0 &&& (1 : Int32)))])) _
    by_cases hc127 : (i0 &&& (1 : Int32)) = (0 : Int32)
    · refine own_via (fun t k => XS.ifNo X0.here hx rfl (hb hby at_25) rfl ((if0 _ _).trans (teq hc127).2) (XS.iload X0.here hx rfl (hb hby at_28) rfl (XS.istore X0.here hx rfl (hb hby at_30) rfl (l' := #[iv i0, iv i1, iv (i0 &&& (1 : Int32)), iv (1 : Int32), iv (0 : Int32), iv (0 : Int32)]) rfl (XS.goto X0.here hx rfl (pc0 := 32) (pc' := 47) rfl (hb hby at_32) (by decide) (by decide) (XS.iloadN X0.here hx rfl (hb hby at_47) rfl k))))) ?_
      obtain ⟨_, T128, _, X128, hQ128, st128⟩ := own_cs X0 hx hZ hown (wd hw 0 rfl) (wd hw 1 rfl) (wd hw 3 rfl) (wd hw 2 rfl) (by decide) (rm1 l Z a0 hw [] (i0 &&& (1 : Int32)) w31 h0 n0 O0 hc127 S_PaymentDirection_RECEIVED) e0 (g := (mkF m 48 #[iv i0, iv i1, iv (i0 &&& (1 : Int32)), iv (1 : Int32), iv (0 : Int32), iv (0 : Int32)] [(.int (i0 &&& (1 : Int32)))])) rfl (by rw [hml]; rfl) (rest := []) (W := 0) (lenOf pd_1 rfl) rfl (by show 2 * 0 + _ ≤ _; exact Nat.le_of_eq rfl) (hb hby at_48) (by decide) (by decide) (by decide) (by decide)
      obtain ⟨rfl, Nq128, hh129⟩ := hQ128
      have N128 := Fr.app N0 Nq128
      refine own_via (fun t k => st128 t (XS.iloadN X128.here hx rfl (hb hby at_51) rfl k)) ?_
      obtain ⟨_, T130, _, X130, hQ130, st130⟩ := own_cs X128 hx hZ hown (wd hw 7 rfl) (wd hw 8 rfl) (wd hw 9 rfl) (wd hw 2 rfl) (by decide) (rm7 l Z a0 hw [] w36 h0 n0 O0 S_DocumentType_PURCHASE_INVOICE) hh129 (g := (mkF m 52 #[iv i0, iv i1, iv (i0 &&& (1 : Int32)), iv (1 : Int32), iv (0 : Int32), iv (0 : Int32)] [(.int (1 : Int32)), (.ref w31)])) rfl (by rw [hml]; rfl) (rest := [(.ref w31)]) (W := 1) (lenOf pd_2 rfl) rfl (by show 2 * 0 + _ ≤ _; exact Nat.le_of_eq rfl) (hb hby at_52) (by decide) (by decide) (by decide) (by decide)
      obtain ⟨rfl, Nq130, hh140⟩ := hQ130
      have N130 := Fr.app N128 Nq130
      refine own_via (fun t k => st130 t k) ?_
      obtain ⟨_, T141, _, X141, hQ141, st141⟩ := own_cv X130 hx hZ hown (wd hw 13 rfl) (wd hw 14 rfl) (wd hw 16 rfl) (wd hw 15 rfl) (wd hw 17 rfl) (wd hw 5 rfl) (by decide) (rm9 l Z a0 hw [] w31 w36 h0 n0 O0 SF_w36_purchase SF_w36_credits SE_w36 SF_w31_debitsAccount) hh140 (SE_w31.ext O0.2) (g := (mkF m 55 #[iv i0, iv i1, iv (i0 &&& (1 : Int32)), iv (1 : Int32), iv (0 : Int32), iv (0 : Int32)] [(.ref w36), (.ref w31)])) rfl (by rw [hml]; rfl) (rest := []) (W := 0) (lenOf pd_4 rfl) rfl (by show 2 * 0 + _ ≤ _; exact Nat.le_of_eq rfl) (hb hby at_55) (by decide) (by decide) (by decide) (by decide)
      obtain ⟨rfl, Nq141, hh163⟩ := hQ141
      have N141 := Fr.app N130 Nq141
      refine own_via (fun t k => st141 t (XS.iload X141.here hx rfl (hb hby at_58) rfl (XS.icmpNo X141.here hx rfl (hb hby at_60) rfl (teq (by decide : (0 : Int32) = (0 : Int32))).2 (XS.iconst X141.here hx rfl (hb hby at_63) (XS.goto X141.here hx rfl (pc0 := 64) (pc' := 68) rfl (hb hby at_64) (by decide) (by decide) k))))) ?_
      obtain ⟨fs, hr, hrun, hended, hW, hsame⟩ := X141.leave (v := some (.int (1 : Int32))) (fun h => by rw [Bd.returns] at h; cases h)
      refine own_end (t := T141.setFrames fs) ?_ ⟨_, hrun, hended, _, _, rfl, ?_, ⟨_, rfl⟩, hW, hsame.mono (by decide) (by decide)⟩
      · exact retN X141 hx (t := .boolean) Bd.returns (by simp) (hb hby at_68) hr
      · exact ⟨rfl, N141⟩
    · refine own_via (fun t k => XS.ifYes X0.here hx rfl (pc0 := 25) (pc' := 35) rfl (hb hby at_25) rfl ((if0 _ _).trans (feq hc127).2) (by decide) (by decide) (XS.iload X0.here hx rfl (hb hby at_35) rfl (XS.ifNo X0.here hx rfl (hb hby at_37) rfl ((if0 _ _).trans (teq (by decide : (0 : Int32) = (0 : Int32))).2) (XS.iconst X0.here hx rfl (hb hby at_40) (XS.goto X0.here hx rfl (pc0 := 41) (pc' := 45) rfl (hb hby at_41) (by decide) (by decide) (XS.istore X0.here hx rfl (hb hby at_45) rfl (l' := #[iv i0, iv i1, iv (i0 &&& (1 : Int32)), iv (1 : Int32), iv (0 : Int32), iv (1 : Int32)]) rfl (XS.iloadN X0.here hx rfl (hb hby at_47) rfl k))))))) ?_
      obtain ⟨_, T164, _, X164, hQ164, st164⟩ := own_cs X0 hx hZ hown (wd hw 0 rfl) (wd hw 1 rfl) (wd hw 3 rfl) (wd hw 2 rfl) (by decide) (rm5 l Z a0 hw [] (i0 &&& (1 : Int32)) w46 h0 n0 O0 hc127 S_PaymentDirection_SENT) e0 (g := (mkF m 48 #[iv i0, iv i1, iv (i0 &&& (1 : Int32)), iv (1 : Int32), iv (0 : Int32), iv (1 : Int32)] [(.int (i0 &&& (1 : Int32)))])) rfl (by rw [hml]; rfl) (rest := []) (W := 0) (lenOf pd_1 rfl) rfl (by show 2 * 0 + _ ≤ _; exact Nat.le_of_eq rfl) (hb hby at_48) (by decide) (by decide) (by decide) (by decide)
      obtain ⟨rfl, Nq164, hh165⟩ := hQ164
      have N164 := Fr.app N0 Nq164
      refine own_via (fun t k => st164 t (XS.iloadN X164.here hx rfl (hb hby at_51) rfl k)) ?_
      obtain ⟨_, T166, _, X166, hQ166, st166⟩ := own_cs X164 hx hZ hown (wd hw 7 rfl) (wd hw 8 rfl) (wd hw 9 rfl) (wd hw 2 rfl) (by decide) (rm7 l Z a0 hw [] w36 h0 n0 O0 S_DocumentType_PURCHASE_INVOICE) hh165 (g := (mkF m 52 #[iv i0, iv i1, iv (i0 &&& (1 : Int32)), iv (1 : Int32), iv (0 : Int32), iv (1 : Int32)] [(.int (1 : Int32)), (.ref w46)])) rfl (by rw [hml]; rfl) (rest := [(.ref w46)]) (W := 1) (lenOf pd_2 rfl) rfl (by show 2 * 0 + _ ≤ _; exact Nat.le_of_eq rfl) (hb hby at_52) (by decide) (by decide) (by decide) (by decide)
      obtain ⟨rfl, Nq166, hh167⟩ := hQ166
      have N166 := Fr.app N164 Nq166
      refine own_via (fun t k => st166 t k) ?_
      obtain ⟨_, T168, _, X168, hQ168, st168⟩ := own_cv X166 hx hZ hown (wd hw 13 rfl) (wd hw 14 rfl) (wd hw 16 rfl) (wd hw 15 rfl) (wd hw 17 rfl) (wd hw 5 rfl) (by decide) (rm10 l Z a0 hw [] w46 w36 h0 n0 O0 SF_w36_purchase SF_w36_credits SE_w36 SF_w46_debitsAccount) hh167 (SE_w46.ext O0.2) (g := (mkF m 55 #[iv i0, iv i1, iv (i0 &&& (1 : Int32)), iv (1 : Int32), iv (0 : Int32), iv (1 : Int32)] [(.ref w36), (.ref w46)])) rfl (by rw [hml]; rfl) (rest := []) (W := 0) (lenOf pd_4 rfl) rfl (by show 2 * 0 + _ ≤ _; exact Nat.le_of_eq rfl) (hb hby at_55) (by decide) (by decide) (by decide) (by decide)
      obtain ⟨rfl, Nq168, hh180⟩ := hQ168
      have N168 := Fr.app N166 Nq168
      refine own_via (fun t k => st168 t (XS.iload X168.here hx rfl (hb hby at_58) rfl (XS.icmpNo X168.here hx rfl (hb hby at_60) rfl (teq (by decide : (1 : Int32) = (1 : Int32))).2 (XS.iconst X168.here hx rfl (hb hby at_63) (XS.goto X168.here hx rfl (pc0 := 64) (pc' := 68) rfl (hb hby at_64) (by decide) (by decide) k))))) ?_
      obtain ⟨fs, hr, hrun, hended, hW, hsame⟩ := X168.leave (v := some (.int (1 : Int32))) (fun h => by rw [Bd.returns] at h; cases h)
      refine own_end (t := T168.setFrames fs) ?_ ⟨_, hrun, hended, _, _, rfl, ?_, ⟨_, rfl⟩, hW, hsame.mono (by decide) (by decide)⟩
      · exact retN X168 hx (t := .boolean) Bd.returns (by simp) (hb hby at_68) hr
      · exact ⟨rfl, N168⟩
  · have qs181 := qs
    rw [qs]
    show own_Goes p e below (s₁.setTop (mkF m 7 #[iv i0, iv i1, iv (i0 &&& (1 : Int32)), .unset, .unset, .unset] [(.int (2 : Int32))])) _
    refine own_via (fun t k => XS.istoreN X0.here hx rfl (hb hby at_7) rfl (l' := #[iv i0, iv i1, iv (i0 &&& (1 : Int32)), iv (2 : Int32), .unset, .unset]) rfl (XS.iloadN X0.here hx rfl (hb hby at_8) rfl (XS.ifNo X0.here hx rfl (hb hby at_9) rfl ((if0 _ _).trans (feq (by decide : ¬ ((2 : Int32) = (0 : Int32)))).1) (XS.iloadN X0.here hx rfl (hb hby at_12) rfl (XS.iconst X0.here hx rfl (hb hby at_13) (XS.icmpYes X0.here hx rfl (pc0 := 14) (pc' := 21) rfl (hb hby at_14) rfl (feq (by decide : ¬ ((2 : Int32) = (3 : Int32)))).2 (by decide) (by decide) (XS.iconst X0.here hx rfl (hb hby at_21) (XS.istore X0.here hx rfl (hb hby at_22) rfl (l' := #[iv i0, iv i1, iv (i0 &&& (1 : Int32)), iv (2 : Int32), iv (0 : Int32), .unset]) rfl (XS.iloadN X0.here hx rfl (hb hby at_24) rfl k))))))))) ?_
    show own_Goes p e below (s₁.setTop (mkF m 25 #[iv i0, iv i1, iv (i0 &&& (1 : Int32)), iv (2 : Int32), iv (0 : Int32), .unset] [(.int (i0 &&& (1 : Int32)))])) _
    by_cases hc182 : (i0 &&& (1 : Int32)) = (0 : Int32)
    · refine own_via (fun t k => XS.ifNo X0.here hx rfl (hb hby at_25) rfl ((if0 _ _).trans (teq hc182).2) (XS.iload X0.here hx rfl (hb hby at_28) rfl (XS.istore X0.here hx rfl (hb hby at_30) rfl (l' := #[iv i0, iv i1, iv (i0 &&& (1 : Int32)), iv (2 : Int32), iv (0 : Int32), iv (0 : Int32)]) rfl (XS.goto X0.here hx rfl (pc0 := 32) (pc' := 47) rfl (hb hby at_32) (by decide) (by decide) (XS.iloadN X0.here hx rfl (hb hby at_47) rfl k))))) ?_
      obtain ⟨_, T183, _, X183, hQ183, st183⟩ := own_cs X0 hx hZ hown (wd hw 0 rfl) (wd hw 1 rfl) (wd hw 3 rfl) (wd hw 2 rfl) (by decide) (rm1 l Z a0 hw [] (i0 &&& (1 : Int32)) w31 h0 n0 O0 hc182 S_PaymentDirection_RECEIVED) e0 (g := (mkF m 48 #[iv i0, iv i1, iv (i0 &&& (1 : Int32)), iv (2 : Int32), iv (0 : Int32), iv (0 : Int32)] [(.int (i0 &&& (1 : Int32)))])) rfl (by rw [hml]; rfl) (rest := []) (W := 0) (lenOf pd_1 rfl) rfl (by show 2 * 0 + _ ≤ _; exact Nat.le_of_eq rfl) (hb hby at_48) (by decide) (by decide) (by decide) (by decide)
      obtain ⟨rfl, Nq183, hh184⟩ := hQ183
      have N183 := Fr.app N0 Nq183
      refine own_via (fun t k => st183 t (XS.iloadN X183.here hx rfl (hb hby at_51) rfl k)) ?_
      obtain ⟨_, T185, _, X185, hQ185, st185⟩ := own_cs X183 hx hZ hown (wd hw 7 rfl) (wd hw 8 rfl) (wd hw 9 rfl) (wd hw 2 rfl) (by decide) (rm11 l Z a0 hw [] w49 h0 n0 O0 S_DocumentType_SALES_CREDIT_NOTE) hh184 (g := (mkF m 52 #[iv i0, iv i1, iv (i0 &&& (1 : Int32)), iv (2 : Int32), iv (0 : Int32), iv (0 : Int32)] [(.int (2 : Int32)), (.ref w31)])) rfl (by rw [hml]; rfl) (rest := [(.ref w31)]) (W := 1) (lenOf pd_2 rfl) rfl (by show 2 * 0 + _ ≤ _; exact Nat.le_of_eq rfl) (hb hby at_52) (by decide) (by decide) (by decide) (by decide)
      obtain ⟨rfl, Nq185, hh195⟩ := hQ185
      have N185 := Fr.app N183 Nq185
      refine own_via (fun t k => st185 t k) ?_
      obtain ⟨_, T196, _, X196, hQ196, st196⟩ := own_cv X185 hx hZ hown (wd hw 13 rfl) (wd hw 14 rfl) (wd hw 16 rfl) (wd hw 15 rfl) (wd hw 17 rfl) (wd hw 5 rfl) (by decide) (rm13 l Z a0 hw [] w31 w49 w42 h0 n0 O0 SF_w49_purchase SF_w49_credits SE_w49 SF_w31_debitsAccount) hh195 (SE_w31.ext O0.2) (g := (mkF m 55 #[iv i0, iv i1, iv (i0 &&& (1 : Int32)), iv (2 : Int32), iv (0 : Int32), iv (0 : Int32)] [(.ref w49), (.ref w31)])) rfl (by rw [hml]; rfl) (rest := []) (W := 0) (lenOf pd_4 rfl) rfl (by show 2 * 0 + _ ≤ _; exact Nat.le_of_eq rfl) (hb hby at_55) (by decide) (by decide) (by decide) (by decide)
      obtain ⟨rfl, Nq196, hh218⟩ := hQ196
      have N196 := Fr.app N185 Nq196
      refine own_via (fun t k => st196 t (XS.iload X196.here hx rfl (hb hby at_58) rfl (XS.icmpNo X196.here hx rfl (hb hby at_60) rfl (teq (by decide : (0 : Int32) = (0 : Int32))).2 (XS.iconst X196.here hx rfl (hb hby at_63) (XS.goto X196.here hx rfl (pc0 := 64) (pc' := 68) rfl (hb hby at_64) (by decide) (by decide) k))))) ?_
      obtain ⟨fs, hr, hrun, hended, hW, hsame⟩ := X196.leave (v := some (.int (1 : Int32))) (fun h => by rw [Bd.returns] at h; cases h)
      refine own_end (t := T196.setFrames fs) ?_ ⟨_, hrun, hended, _, _, rfl, ?_, ⟨_, rfl⟩, hW, hsame.mono (by decide) (by decide)⟩
      · exact retN X196 hx (t := .boolean) Bd.returns (by simp) (hb hby at_68) hr
      · exact ⟨rfl, N196⟩
    · refine own_via (fun t k => XS.ifYes X0.here hx rfl (pc0 := 25) (pc' := 35) rfl (hb hby at_25) rfl ((if0 _ _).trans (feq hc182).2) (by decide) (by decide) (XS.iload X0.here hx rfl (hb hby at_35) rfl (XS.ifNo X0.here hx rfl (hb hby at_37) rfl ((if0 _ _).trans (teq (by decide : (0 : Int32) = (0 : Int32))).2) (XS.iconst X0.here hx rfl (hb hby at_40) (XS.goto X0.here hx rfl (pc0 := 41) (pc' := 45) rfl (hb hby at_41) (by decide) (by decide) (XS.istore X0.here hx rfl (hb hby at_45) rfl (l' := #[iv i0, iv i1, iv (i0 &&& (1 : Int32)), iv (2 : Int32), iv (0 : Int32), iv (1 : Int32)]) rfl (XS.iloadN X0.here hx rfl (hb hby at_47) rfl k))))))) ?_
      obtain ⟨_, T219, _, X219, hQ219, st219⟩ := own_cs X0 hx hZ hown (wd hw 0 rfl) (wd hw 1 rfl) (wd hw 3 rfl) (wd hw 2 rfl) (by decide) (rm5 l Z a0 hw [] (i0 &&& (1 : Int32)) w46 h0 n0 O0 hc182 S_PaymentDirection_SENT) e0 (g := (mkF m 48 #[iv i0, iv i1, iv (i0 &&& (1 : Int32)), iv (2 : Int32), iv (0 : Int32), iv (1 : Int32)] [(.int (i0 &&& (1 : Int32)))])) rfl (by rw [hml]; rfl) (rest := []) (W := 0) (lenOf pd_1 rfl) rfl (by show 2 * 0 + _ ≤ _; exact Nat.le_of_eq rfl) (hb hby at_48) (by decide) (by decide) (by decide) (by decide)
      obtain ⟨rfl, Nq219, hh220⟩ := hQ219
      have N219 := Fr.app N0 Nq219
      refine own_via (fun t k => st219 t (XS.iloadN X219.here hx rfl (hb hby at_51) rfl k)) ?_
      obtain ⟨_, T221, _, X221, hQ221, st221⟩ := own_cs X219 hx hZ hown (wd hw 7 rfl) (wd hw 8 rfl) (wd hw 9 rfl) (wd hw 2 rfl) (by decide) (rm11 l Z a0 hw [] w49 h0 n0 O0 S_DocumentType_SALES_CREDIT_NOTE) hh220 (g := (mkF m 52 #[iv i0, iv i1, iv (i0 &&& (1 : Int32)), iv (2 : Int32), iv (0 : Int32), iv (1 : Int32)] [(.int (2 : Int32)), (.ref w46)])) rfl (by rw [hml]; rfl) (rest := [(.ref w46)]) (W := 1) (lenOf pd_2 rfl) rfl (by show 2 * 0 + _ ≤ _; exact Nat.le_of_eq rfl) (hb hby at_52) (by decide) (by decide) (by decide) (by decide)
      obtain ⟨rfl, Nq221, hh222⟩ := hQ221
      have N221 := Fr.app N219 Nq221
      refine own_via (fun t k => st221 t k) ?_
      obtain ⟨_, T223, _, X223, hQ223, st223⟩ := own_cv X221 hx hZ hown (wd hw 13 rfl) (wd hw 14 rfl) (wd hw 16 rfl) (wd hw 15 rfl) (wd hw 17 rfl) (wd hw 5 rfl) (by decide) (rm14 l Z a0 hw [] w46 w49 w42 h0 n0 O0 SF_w49_purchase SF_w49_credits SE_w49 SF_w46_debitsAccount) hh222 (SE_w46.ext O0.2) (g := (mkF m 55 #[iv i0, iv i1, iv (i0 &&& (1 : Int32)), iv (2 : Int32), iv (0 : Int32), iv (1 : Int32)] [(.ref w49), (.ref w46)])) rfl (by rw [hml]; rfl) (rest := []) (W := 0) (lenOf pd_4 rfl) rfl (by show 2 * 0 + _ ≤ _; exact Nat.le_of_eq rfl) (hb hby at_55) (by decide) (by decide) (by decide) (by decide)
      obtain ⟨rfl, Nq223, hh235⟩ := hQ223
      have N223 := Fr.app N221 Nq223
      refine own_via (fun t k => st223 t (XS.iload X223.here hx rfl (hb hby at_58) rfl (XS.icmpNo X223.here hx rfl (hb hby at_60) rfl (teq (by decide : (1 : Int32) = (1 : Int32))).2 (XS.iconst X223.here hx rfl (hb hby at_63) (XS.goto X223.here hx rfl (pc0 := 64) (pc' := 68) rfl (hb hby at_64) (by decide) (by decide) k))))) ?_
      obtain ⟨fs, hr, hrun, hended, hW, hsame⟩ := X223.leave (v := some (.int (1 : Int32))) (fun h => by rw [Bd.returns] at h; cases h)
      refine own_end (t := T223.setFrames fs) ?_ ⟨_, hrun, hended, _, _, rfl, ?_, ⟨_, rfl⟩, hW, hsame.mono (by decide) (by decide)⟩
      · exact retN X223 hx (t := .boolean) Bd.returns (by simp) (hb hby at_68) hr
      · exact ⟨rfl, N223⟩
  · have qs236 := qs
    rw [qs]
    show own_Goes p e below (s₁.setTop (mkF m 7 #[iv i0, iv i1, iv (i0 &&& (1 : Int32)), .unset, .unset, .unset] [(.int (3 : Int32))])) _
    refine own_via (fun t k => XS.istoreN X0.here hx rfl (hb hby at_7) rfl (l' := #[iv i0, iv i1, iv (i0 &&& (1 : Int32)), iv (3 : Int32), .unset, .unset]) rfl (XS.iloadN X0.here hx rfl (hb hby at_8) rfl (XS.ifNo X0.here hx rfl (hb hby at_9) rfl ((if0 _ _).trans (feq (by decide : ¬ ((3 : Int32) = (0 : Int32)))).1) (XS.iloadN X0.here hx rfl (hb hby at_12) rfl (XS.iconst X0.here hx rfl (hb hby at_13) (XS.icmpNo X0.here hx rfl (hb hby at_14) rfl (teq (by decide : (3 : Int32) = (3 : Int32))).2 (XS.iconst X0.here hx rfl (hb hby at_17) (XS.goto X0.here hx rfl (pc0 := 18) (pc' := 22) rfl (hb hby at_18) (by decide) (by decide) (XS.istore X0.here hx rfl (hb hby at_22) rfl (l' := #[iv i0, iv i1, iv (i0 &&& (1 : Int32)), iv (3 : Int32), iv (1 : Int32), .unset]) rfl (XS.iloadN X0.here hx rfl (hb hby at_24) rfl k)))))))))) ?_
    show own_Goes p e below (s₁.setTop (mkF m 25 #[iv i0, iv i1, iv (i0 &&& (1 : Int32)), iv (3 : Int32), iv (1 : Int32), .unset] [(.int (i0 &&& (1 : Int32)))])) _
    by_cases hc237 : (i0 &&& (1 : Int32)) = (0 : Int32)
    · refine own_via (fun t k => XS.ifNo X0.here hx rfl (hb hby at_25) rfl ((if0 _ _).trans (teq hc237).2) (XS.iload X0.here hx rfl (hb hby at_28) rfl (XS.istore X0.here hx rfl (hb hby at_30) rfl (l' := #[iv i0, iv i1, iv (i0 &&& (1 : Int32)), iv (3 : Int32), iv (1 : Int32), iv (1 : Int32)]) rfl (XS.goto X0.here hx rfl (pc0 := 32) (pc' := 47) rfl (hb hby at_32) (by decide) (by decide) (XS.iloadN X0.here hx rfl (hb hby at_47) rfl k))))) ?_
      obtain ⟨_, T238, _, X238, hQ238, st238⟩ := own_cs X0 hx hZ hown (wd hw 0 rfl) (wd hw 1 rfl) (wd hw 3 rfl) (wd hw 2 rfl) (by decide) (rm1 l Z a0 hw [] (i0 &&& (1 : Int32)) w31 h0 n0 O0 hc237 S_PaymentDirection_RECEIVED) e0 (g := (mkF m 48 #[iv i0, iv i1, iv (i0 &&& (1 : Int32)), iv (3 : Int32), iv (1 : Int32), iv (1 : Int32)] [(.int (i0 &&& (1 : Int32)))])) rfl (by rw [hml]; rfl) (rest := []) (W := 0) (lenOf pd_1 rfl) rfl (by show 2 * 0 + _ ≤ _; exact Nat.le_of_eq rfl) (hb hby at_48) (by decide) (by decide) (by decide) (by decide)
      obtain ⟨rfl, Nq238, hh239⟩ := hQ238
      have N238 := Fr.app N0 Nq238
      refine own_via (fun t k => st238 t (XS.iloadN X238.here hx rfl (hb hby at_51) rfl k)) ?_
      obtain ⟨_, T240, _, X240, hQ240, st240⟩ := own_cs X238 hx hZ hown (wd hw 7 rfl) (wd hw 8 rfl) (wd hw 9 rfl) (wd hw 2 rfl) (by decide) (rm15 l Z a0 hw [] w33 h0 n0 O0 S_DocumentType_PURCHASE_CREDIT_NOTE) hh239 (g := (mkF m 52 #[iv i0, iv i1, iv (i0 &&& (1 : Int32)), iv (3 : Int32), iv (1 : Int32), iv (1 : Int32)] [(.int (3 : Int32)), (.ref w31)])) rfl (by rw [hml]; rfl) (rest := [(.ref w31)]) (W := 1) (lenOf pd_2 rfl) rfl (by show 2 * 0 + _ ≤ _; exact Nat.le_of_eq rfl) (hb hby at_52) (by decide) (by decide) (by decide) (by decide)
      obtain ⟨rfl, Nq240, hh250⟩ := hQ240
      have N240 := Fr.app N238 Nq240
      refine own_via (fun t k => st240 t k) ?_
      obtain ⟨_, T251, _, X251, hQ251, st251⟩ := own_cv X240 hx hZ hown (wd hw 13 rfl) (wd hw 14 rfl) (wd hw 16 rfl) (wd hw 15 rfl) (wd hw 17 rfl) (wd hw 5 rfl) (by decide) (rm17 l Z a0 hw [] w31 w33 w36 h0 n0 O0 SF_w33_purchase SF_w33_credits SE_w33 SF_w31_debitsAccount) hh250 (SE_w31.ext O0.2) (g := (mkF m 55 #[iv i0, iv i1, iv (i0 &&& (1 : Int32)), iv (3 : Int32), iv (1 : Int32), iv (1 : Int32)] [(.ref w33), (.ref w31)])) rfl (by rw [hml]; rfl) (rest := []) (W := 0) (lenOf pd_4 rfl) rfl (by show 2 * 0 + _ ≤ _; exact Nat.le_of_eq rfl) (hb hby at_55) (by decide) (by decide) (by decide) (by decide)
      obtain ⟨rfl, Nq251, hh273⟩ := hQ251
      have N251 := Fr.app N240 Nq251
      refine own_via (fun t k => st251 t (XS.iload X251.here hx rfl (hb hby at_58) rfl (XS.icmpNo X251.here hx rfl (hb hby at_60) rfl (teq (by decide : (1 : Int32) = (1 : Int32))).2 (XS.iconst X251.here hx rfl (hb hby at_63) (XS.goto X251.here hx rfl (pc0 := 64) (pc' := 68) rfl (hb hby at_64) (by decide) (by decide) k))))) ?_
      obtain ⟨fs, hr, hrun, hended, hW, hsame⟩ := X251.leave (v := some (.int (1 : Int32))) (fun h => by rw [Bd.returns] at h; cases h)
      refine own_end (t := T251.setFrames fs) ?_ ⟨_, hrun, hended, _, _, rfl, ?_, ⟨_, rfl⟩, hW, hsame.mono (by decide) (by decide)⟩
      · exact retN X251 hx (t := .boolean) Bd.returns (by simp) (hb hby at_68) hr
      · exact ⟨rfl, N251⟩
    · refine own_via (fun t k => XS.ifYes X0.here hx rfl (pc0 := 25) (pc' := 35) rfl (hb hby at_25) rfl ((if0 _ _).trans (feq hc237).2) (by decide) (by decide) (XS.iload X0.here hx rfl (hb hby at_35) rfl (XS.ifYes X0.here hx rfl (pc0 := 37) (pc' := 44) rfl (hb hby at_37) rfl ((if0 _ _).trans (feq (by decide : ¬ ((1 : Int32) = (0 : Int32)))).2) (by decide) (by decide) (XS.iconst X0.here hx rfl (hb hby at_44) (XS.istore X0.here hx rfl (hb hby at_45) rfl (l' := #[iv i0, iv i1, iv (i0 &&& (1 : Int32)), iv (3 : Int32), iv (1 : Int32), iv (0 : Int32)]) rfl (XS.iloadN X0.here hx rfl (hb hby at_47) rfl k)))))) ?_
      obtain ⟨_, T274, _, X274, hQ274, st274⟩ := own_cs X0 hx hZ hown (wd hw 0 rfl) (wd hw 1 rfl) (wd hw 3 rfl) (wd hw 2 rfl) (by decide) (rm5 l Z a0 hw [] (i0 &&& (1 : Int32)) w46 h0 n0 O0 hc237 S_PaymentDirection_SENT) e0 (g := (mkF m 48 #[iv i0, iv i1, iv (i0 &&& (1 : Int32)), iv (3 : Int32), iv (1 : Int32), iv (0 : Int32)] [(.int (i0 &&& (1 : Int32)))])) rfl (by rw [hml]; rfl) (rest := []) (W := 0) (lenOf pd_1 rfl) rfl (by show 2 * 0 + _ ≤ _; exact Nat.le_of_eq rfl) (hb hby at_48) (by decide) (by decide) (by decide) (by decide)
      obtain ⟨rfl, Nq274, hh275⟩ := hQ274
      have N274 := Fr.app N0 Nq274
      refine own_via (fun t k => st274 t (XS.iloadN X274.here hx rfl (hb hby at_51) rfl k)) ?_
      obtain ⟨_, T276, _, X276, hQ276, st276⟩ := own_cs X274 hx hZ hown (wd hw 7 rfl) (wd hw 8 rfl) (wd hw 9 rfl) (wd hw 2 rfl) (by decide) (rm15 l Z a0 hw [] w33 h0 n0 O0 S_DocumentType_PURCHASE_CREDIT_NOTE) hh275 (g := (mkF m 52 #[iv i0, iv i1, iv (i0 &&& (1 : Int32)), iv (3 : Int32), iv (1 : Int32), iv (0 : Int32)] [(.int (3 : Int32)), (.ref w46)])) rfl (by rw [hml]; rfl) (rest := [(.ref w46)]) (W := 1) (lenOf pd_2 rfl) rfl (by show 2 * 0 + _ ≤ _; exact Nat.le_of_eq rfl) (hb hby at_52) (by decide) (by decide) (by decide) (by decide)
      obtain ⟨rfl, Nq276, hh277⟩ := hQ276
      have N276 := Fr.app N274 Nq276
      refine own_via (fun t k => st276 t k) ?_
      obtain ⟨_, T278, _, X278, hQ278, st278⟩ := own_cv X276 hx hZ hown (wd hw 13 rfl) (wd hw 14 rfl) (wd hw 16 rfl) (wd hw 15 rfl) (wd hw 17 rfl) (wd hw 5 rfl) (by decide) (rm18 l Z a0 hw [] w46 w33 w36 h0 n0 O0 SF_w33_purchase SF_w33_credits SE_w33 SF_w46_debitsAccount) hh277 (SE_w46.ext O0.2) (g := (mkF m 55 #[iv i0, iv i1, iv (i0 &&& (1 : Int32)), iv (3 : Int32), iv (1 : Int32), iv (0 : Int32)] [(.ref w33), (.ref w46)])) rfl (by rw [hml]; rfl) (rest := []) (W := 0) (lenOf pd_4 rfl) rfl (by show 2 * 0 + _ ≤ _; exact Nat.le_of_eq rfl) (hb hby at_55) (by decide) (by decide) (by decide) (by decide)
      obtain ⟨rfl, Nq278, hh290⟩ := hQ278
      have N278 := Fr.app N276 Nq278
      refine own_via (fun t k => st278 t (XS.iload X278.here hx rfl (hb hby at_58) rfl (XS.icmpNo X278.here hx rfl (hb hby at_60) rfl (teq (by decide : (0 : Int32) = (0 : Int32))).2 (XS.iconst X278.here hx rfl (hb hby at_63) (XS.goto X278.here hx rfl (pc0 := 64) (pc' := 68) rfl (hb hby at_64) (by decide) (by decide) k))))) ?_
      obtain ⟨fs, hr, hrun, hended, hW, hsame⟩ := X278.leave (v := some (.int (1 : Int32))) (fun h => by rw [Bd.returns] at h; cases h)
      refine own_end (t := T278.setFrames fs) ?_ ⟨_, hrun, hended, _, _, rfl, ?_, ⟨_, rfl⟩, hW, hsame.mono (by decide) (by decide)⟩
      · exact retN X278 hx (t := .boolean) Bd.returns (by simp) (hb hby at_68) hr
      · exact ⟨rfl, N278⟩
set_option maxRecDepth 65536 in
set_option maxHeartbeats 40000000 in
theorem comes_1 {Post : Tables → Env → Array Value → State → Outcome → State → Prop} (hpost : ∀ tb e args s v u, (limb_1_1.after args s (.returned v) u = true ∧ limb_1_2.after args s (.returned v) u = true ∧ True) → FrameEnd s (.returned v) u (Jvm.fieldLocs frame_1_writes args s ++ Jvm.arrayLocs frame_1_arrays args s ++ Jvm.staticLocs frame_1_statics s) 0 0 → Post tb e args s (.returned v) u) :
    ArmFor flags0 classFile x code maxLocals ret World_1 tables_1 room_1 Calls_1 rest_1 Pre_1 Post := by
  intro l hfl _ _ p e ha hc hk s m args below hf hA hF happ hP
  obtain ⟨hcalls, hrest, hpre⟩ := hP
  obtain ⟨-, -, -, hnamed, -, -, -, hat⟩ := (Spec.applies_iff hf).mp happ
  obtain ⟨hg, hn⟩ := and_e (Cond.before_iff.mp (show (Jvm.Cond.and given_1 narrow_1).before args s = true from hpre))
  obtain ⟨g291, g292⟩ := and_e hg
  obtain ⟨g293, g294⟩ := and_e g292
  obtain ⟨w0, w1, rfl⟩ : ∃ w0 w1 : Value, args = #[w0, w1] := by
    have hs : args.size = 2 := by simpa [Cond.value, given_1] using g291
    obtain ⟨L⟩ := args
    match L, hs with
    | [w0, w1], _ => exact ⟨w0, w1, rfl⟩
  have hw := fun d (hd : d ∈ tables_1) => atoms_spec (ws := Jvm.Cond.code x code maxLocals ret :: tables_1) hat d (List.mem_cons_of_mem _ hd)
  have hfit : Fit s := fun {y c} hc i hi => by
    obtain ⟨ha, rfl⟩ := Array.getElem?_eq_some_iff.mp hc
    have q := List.all_eq_true.mp ((Array.all_eq_true_iff_forall_mem.mp hF) _ (Array.getElem_mem ha)) i (List.mem_range.mpr hi)
    simpa [Array.getElem?_eq_getElem hi] using q
  obtain ⟨n1, n2⟩ := and_e hn
  obtain ⟨n3, n4⟩ := and_e n2
  obtain ⟨n5, n6⟩ := and_e n4
  obtain ⟨n7, n8⟩ := and_e n6
  obtain ⟨n9, n10⟩ := and_e n8
  obtain ⟨n11, n12⟩ := and_e n10
  obtain ⟨n13, n14⟩ := and_e n12
  obtain ⟨n15, n16⟩ := and_e n14
  obtain ⟨n17, n18⟩ := and_e n16
  obtain ⟨n19, n20⟩ := and_e n18
  obtain ⟨n21, n22⟩ := and_e n20
  obtain ⟨n23, n24⟩ := and_e n22
  obtain ⟨n25, n26⟩ := and_e n24
  obtain ⟨n27, n28⟩ := and_e n26
  obtain ⟨n29, n30⟩ := and_e n28
  obtain ⟨w31, ev32⟩ := exa_v n1
  have S_PaymentDirection_RECEIVED : Sta s s.heap zs2 "RECEIVED" zs7 (.ref w31) := Sta.start ev32 (Or.inr ⟨(wd hw 5 rfl), (wd hw 6 rfl)⟩)
  have SE_w31 : Exa s s.heap w31 zs2 := Exa.start ev32 n1
  obtain ⟨w33, ev34⟩ := exa_v n3
  have S_DocumentType_PURCHASE_CREDIT_NOTE : Sta s s.heap zs1 "PURCHASE_CREDIT_NOTE" zs3 (.ref w33) := Sta.start ev34 (Or.inr ⟨(wd hw 11 rfl), (wd hw 12 rfl)⟩)
  have SE_w33 : Exa s s.heap w33 zs1 := Exa.start ev34 n3
  have ev35 := Cond.eq_int (show (Jvm.Cond.eq _ _).holds _ _ _ _ _ = true from Cond.before_iff.mpr n5) rfl
  have SF_w33_purchase : Fld s s.heap w33 zs1 "purchase" "Z" (.int (1 : Int32)) := Fld.start ((fld_at ev34).symm.trans ev35)
  obtain ⟨w36, ev37⟩ := exa_v n7
  have S_DocumentType_PURCHASE_INVOICE : Sta s s.heap zs1 "PURCHASE_INVOICE" zs3 (.ref w36) := Sta.start ev37 (Or.inr ⟨(wd hw 11 rfl), (wd hw 27 rfl)⟩)
  have SE_w36 : Exa s s.heap w36 zs1 := Exa.start ev37 n7
  have ev38 := own_eq_ref n9 ev37
  have SF_w33_credits : Fld s s.heap w33 zs1 "credits" zs3 (.ref w36) := Fld.start ((fld_at ev34).symm.trans ev38)
  have ev39 := Cond.eq_int (show (Jvm.Cond.eq _ _).holds _ _ _ _ _ = true from Cond.before_iff.mpr n11) rfl
  have SF_w31_debitsAccount : Fld s s.heap w31 zs2 zs9 "Z" (.int (1 : Int32)) := Fld.start ((fld_at ev32).symm.trans ev39)
  have ev40 := Cond.eq_int (show (Jvm.Cond.eq _ _).holds _ _ _ _ _ = true from Cond.before_iff.mpr n13) rfl
  have SF_w36_purchase : Fld s s.heap w36 zs1 "purchase" "Z" (.int (1 : Int32)) := Fld.start ((fld_at ev37).symm.trans ev40)
  have ev41 := null_v n15
  have SF_w36_credits : Fld s s.heap w36 zs1 "credits" zs3 .null := Fld.start ((fld_at ev37).symm.trans ev41)
  obtain ⟨w42, ev43⟩ := exa_v n17
  have S_DocumentType_SALES_INVOICE : Sta s s.heap zs1 "SALES_INVOICE" zs3 (.ref w42) := Sta.start ev43 (Or.inr ⟨(wd hw 11 rfl), (wd hw 32 rfl)⟩)
  have SE_w42 : Exa s s.heap w42 zs1 := Exa.start ev43 n17
  have ev44 := Cond.eq_int (show (Jvm.Cond.eq _ _).holds _ _ _ _ _ = true from Cond.before_iff.mpr n19) rfl
  have SF_w42_purchase : Fld s s.heap w42 zs1 "purchase" "Z" (.int (0 : Int32)) := Fld.start ((fld_at ev43).symm.trans ev44)
  have ev45 := null_v n21
  have SF_w42_credits : Fld s s.heap w42 zs1 "credits" zs3 .null := Fld.start ((fld_at ev43).symm.trans ev45)
  obtain ⟨w46, ev47⟩ := exa_v n23
  have S_PaymentDirection_SENT : Sta s s.heap zs2 "SENT" zs7 (.ref w46) := Sta.start ev47 (Or.inr ⟨(wd hw 5 rfl), (wd hw 34 rfl)⟩)
  have SE_w46 : Exa s s.heap w46 zs2 := Exa.start ev47 n23
  have ev48 := Cond.eq_int (show (Jvm.Cond.eq _ _).holds _ _ _ _ _ = true from Cond.before_iff.mpr n25) rfl
  have SF_w46_debitsAccount : Fld s s.heap w46 zs2 zs9 "Z" (.int (0 : Int32)) := Fld.start ((fld_at ev47).symm.trans ev48)
  obtain ⟨w49, ev50⟩ := exa_v n27
  have S_DocumentType_SALES_CREDIT_NOTE : Sta s s.heap zs1 "SALES_CREDIT_NOTE" zs3 (.ref w49) := Sta.start ev50 (Or.inr ⟨(wd hw 11 rfl), (wd hw 36 rfl)⟩)
  have SE_w49 : Exa s s.heap w49 zs1 := Exa.start ev50 n27
  have ev51 := Cond.eq_int (show (Jvm.Cond.eq _ _).holds _ _ _ _ _ = true from Cond.before_iff.mpr n29) rfl
  have SF_w49_purchase : Fld s s.heap w49 zs1 "purchase" "Z" (.int (0 : Int32)) := Fld.start ((fld_at ev50).symm.trans ev51)
  have ev52 := own_eq_ref n30 ev43
  have SF_w49_credits : Fld s s.heap w49 zs1 "credits" zs3 (.ref w42) := Fld.start ((fld_at ev50).symm.trans ev52)
  obtain ⟨i0, ei0⟩ := is_v g293
  obtain rfl : w0 = (.int i0) := Option.some.inj ei0
  obtain ⟨i1, ei1⟩ := is_v g294
  obtain rfl : w1 = (.int i1) := Option.some.inj ei1
  obtain ⟨n, o, h1, h2, h3, _, L, rfl, ⟨rfl, N⟩, hq⟩ := rm0 l s _ hw tables_1 i0 i1 w31 w42 w46 w36 w49 w33 s.heap s.heap.size (Old.start s) S_PaymentDirection_RECEIVED S_DocumentType_SALES_INVOICE SF_w42_purchase SF_w42_credits SE_w42 SF_w31_debitsAccount SE_w31 S_PaymentDirection_SENT SF_w46_debitsAccount SE_w46 S_DocumentType_PURCHASE_INVOICE SF_w36_purchase SF_w36_credits SE_w36 S_DocumentType_SALES_CREDIT_NOTE SF_w49_purchase SF_w49_credits SE_w49 S_DocumentType_PURCHASE_CREDIT_NOTE SF_w33_purchase SF_w33_credits SE_w33 p e ha hc hk s m _ below hf ((Spec.applies_iff_loose hf).mp happ).1 ⟨rfl, State.Warmed39.refl s, rfl⟩ trivial
  refine ⟨n, _, h1, h2, h3, hpost _ _ _ _ _ _ ⟨Cond.after_iff.mpr rfl, Cond.after_iff.mpr (eq_i res_at (Term.int_eval (1)) rfl), trivial⟩ ⟨hq.1, hq.2.1, (hq.2.2.sift fun y hy => Or.inr (N y hy)).mono (by decide) (by decide)⟩⟩
theorem main_1_1 : Claimed_1_1 := comes_1 fun _ _ _ _ _ _ h hF => ⟨h.1, hF⟩
theorem main_1_2 : Claimed_1_2 := comes_1 fun _ _ _ _ _ _ h hF => ⟨h.2.1, hF⟩
end Jvm.Pilot.@@N@@
namespace Jvm.Pilot.@@N@@
open Jvm Jvm.ClassFile Sem Op Lib Jvm.Free Jvm.Stand Jvm.Pilot.@@N@@.Jvm.D
/-! MADE BY PROGRAM (witnessworld.py) out of the Statement's table words and the real class files: 14 classes; the members and pool entries that the words name. The judged class is class 1, her method 3. -/
namespace start1
open Jvm.ClassFile
def u (s : String) : CpInfo := .utf8 (stringToUtf16 s)
/-- a pool by its gaps: so many unusable entries, then the entry; so many at the end -/
def gap : Nat → List CpInfo → List CpInfo
  | 0, r => r
  | n + 1, r => .unusable :: gap n r
def poolList (es : List (Nat × CpInfo)) (last : Nat) : List CpInfo := es.foldr (fun e r => gap e.1 (e.2 :: r)) (gap last [])
def pool (es : List (Nat × CpInfo)) (last : Nat) : Array CpInfo := ⟨poolList es last⟩
def fileOf (pool : Array CpInfo) (this : Nat) (attrs : Array Attribute := #[]) (ms : Array MethodInfo := #[]) (fl : Nat := 33) (sup : Nat := 0) (ifs : Array Nat := #[]) (fds : Array FieldInfo := #[]) : ClassFile where
  minorVersion := 0
  majorVersion := 65
  constantPool := pool
  accessFlags := fl
  thisClass := this
  superClass := sup
  interfaces := ifs
  fields := fds
  methods := ms
  attributes := attrs
def plain (name : String) (sup : Option ClassId) : Class where
  name := name
  kind := .ordinary
  loader := none
  accessFlags := 33
  super := sup
  interfaces := #[]
  cf := none
  fields := #[]
  methods := #[]
  instanceTypes := #[]
  staticTypes := #[]
  resolved := #[]
  callSites := []
  init := .initialized
  statics := none
  mirror := none

def pool0 : Array CpInfo := pool [(5, u "<init>"), (0, u "()V"), (1, .class_ 10), (1, u "java/lang/Object")] 113

def k0m0 : Method := { name := "<init>", desc := "()V", sig := { parameters := [], returnType := none }, accessFlags := 1, code := none }
/-- java/lang/Object -/
def k0 : Class := { plain "java/lang/Object" none with
  accessFlags := 33
  interfaces := #[]
  cf := some (fileOf pool0 8 #[] #[{ accessFlags := 1, nameIndex := 5, descriptorIndex := 6, attributes := #[] }] 33 0 #[] #[])
  fields := #[]
  methods := #[k0m0]
  instanceTypes := #[]
  staticTypes := #[]
  resolved := Array.replicate 124 none
  statics := none }

def pool1 : Array CpInfo := pool [(2, .class_ 4), (1, u "java/lang/Object"), (0, u "<init>"), (0, u "()V"), (0, .fieldref 8 9), (0, .class_ 10), (0, .nameAndType 11 12), (0, u "com/example/ledgerd/ledgerd/core/PaymentDirection"), (0, u "RECEIVED"), (0, u "Lcom/example/ledgerd/ledgerd/core/PaymentDirection;"), (0, .fieldref 8 14), (0, .nameAndType 15 12), (0, u "SENT"), (0, .fieldref 17 18), (0, .class_ 19), (0, .nameAndType 20 21), (0, u "com/example/ledgerd/ledgerd/core/DocumentType"), (0, u "SALES_INVOICE"), (0, u "Lcom/example/ledgerd/ledgerd/core/DocumentType;"), (0, .fieldref 17 23), (0, .nameAndType 24 21), (0, u "PURCHASE_INVOICE"), (0, .fieldref 17 26), (0, .nameAndType 27 21), (0, u "SALES_CREDIT_NOTE"), (0, .fieldref 17 29), (0, .nameAndType 30 21), (0, u "PURCHASE_CREDIT_NOTE"), (0, .methodref 32 33), (0, .class_ 34), (0, .nameAndType 35 36), (0, u "com/example/ledgerd/ledgerd/core/PaymentDirectionSettlesPinLaw"), (0, u "direction"), (0, u "(I)Lcom/example/ledgerd/ledgerd/core/PaymentDirection;"), (0, .methodref 32 38), (0, .nameAndType 39 40), (0, u "type"), (0, u "(I)Lcom/example/ledgerd/ledgerd/core/DocumentType;"), (0, .methodref 8 42), (0, .nameAndType 43 44), (0, u "settles"), (0, u "(Lcom/example/ledgerd/ledgerd/core/DocumentType;)Z"), (3, u "law"), (0, u "(II)Z")] 2

def k1m0 : Method := { name := "<init>", desc := "()V", sig := { parameters := [], returnType := none }, accessFlags := 1, code := none }
def k1c1 : Code := { maxStack := 1, maxLocals := 1, code := method_2_code, exceptionTable := #[], attributes := #[] }
def k1m1 : Method := { name := "direction", desc := "(I)Lcom/example/ledgerd/ledgerd/core/PaymentDirection;", sig := { parameters := [.int], returnType := some (.object "com/example/ledgerd/ledgerd/core/PaymentDirection") }, accessFlags := 10, code := some k1c1 }
def k1c2 : Code := { maxStack := 2, maxLocals := 1, code := method_3_code, exceptionTable := #[], attributes := #[] }
def k1m2 : Method := { name := "type", desc := "(I)Lcom/example/ledgerd/ledgerd/core/DocumentType;", sig := { parameters := [.int], returnType := some (.object "com/example/ledgerd/ledgerd/core/DocumentType") }, accessFlags := 10, code := some k1c2 }
def k1c3 : Code := { maxStack := 2, maxLocals := 6, code := code, exceptionTable := #[], attributes := #[] }
def k1m3 : Method := { name := "law", desc := "(II)Z", sig := { parameters := [.int, .int], returnType := some .boolean }, accessFlags := 9, code := some k1c3 }
/-- com/example/ledgerd/ledgerd/core/PaymentDirectionSettlesPinLaw -/
def k1 : Class := { plain "com/example/ledgerd/ledgerd/core/PaymentDirectionSettlesPinLaw" (some 0) with
  accessFlags := 49
  interfaces := #[]
  cf := some (fileOf pool1 32 #[] #[{ accessFlags := 1, nameIndex := 5, descriptorIndex := 6, attributes := #[] }, { accessFlags := 10, nameIndex := 35, descriptorIndex := 36, attributes := #[] }, { accessFlags := 10, nameIndex := 39, descriptorIndex := 40, attributes := #[] }, { accessFlags := 9, nameIndex := 48, descriptorIndex := 49, attributes := #[] }] 49 2 #[] #[])
  fields := #[]
  methods := #[k1m0, k1m1, k1m2, k1m3]
  instanceTypes := #[]
  staticTypes := #[]
  resolved := Array.replicate 52 none
  statics := none }

def pool2 : Array CpInfo := pool [(1, .class_ 2), (0, u "java/lang/constant/Constable"), (0, .class_ 4), (0, u "java/lang/Object")] 6

/-- java/lang/constant/Constable -/
def k2 : Class := { plain "java/lang/constant/Constable" (some 0) with
  accessFlags := 1537
  interfaces := #[]
  cf := some (fileOf pool2 1 #[] #[] 1537 3 #[] #[])
  fields := #[]
  methods := #[]
  instanceTypes := #[]
  staticTypes := #[]
  resolved := Array.replicate 11 none
  statics := none }

def pool3 : Array CpInfo := pool [(1, .class_ 2), (0, u "java/lang/Comparable"), (0, .class_ 4), (0, u "java/lang/Object")] 7

/-- java/lang/Comparable -/
def k3 : Class := { plain "java/lang/Comparable" (some 0) with
  accessFlags := 1537
  interfaces := #[]
  cf := some (fileOf pool3 1 #[] #[] 1537 3 #[] #[])
  fields := #[]
  methods := #[]
  instanceTypes := #[]
  staticTypes := #[]
  resolved := Array.replicate 12 none
  statics := none }

def pool4 : Array CpInfo := pool [(1, .class_ 2), (0, u "java/io/Serializable"), (0, .class_ 4), (0, u "java/lang/Object")] 2

/-- java/io/Serializable -/
def k4 : Class := { plain "java/io/Serializable" (some 0) with
  accessFlags := 1537
  interfaces := #[]
  cf := some (fileOf pool4 1 #[] #[] 1537 3 #[] #[])
  fields := #[]
  methods := #[]
  instanceTypes := #[]
  staticTypes := #[]
  resolved := Array.replicate 7 none
  statics := none }

def pool5 : Array CpInfo := pool [(2, .class_ 4), (1, u "java/lang/Enum"), (0, u "name"), (0, u "Ljava/lang/String;"), (2, u "ordinal"), (0, u "I"), (1, .class_ 14), (1, u "java/lang/Object"), (4, u "hash"), (86, .class_ 108), (1, u "java/lang/Enum$EnumDesc"), (2, .class_ 112), (0, u "java/lang/constant/Constable"), (0, .class_ 114), (0, u "java/lang/Comparable"), (0, .class_ 116), (0, u "java/io/Serializable")] 87

/-- java/lang/Enum -/
def k5 : Class := { plain "java/lang/Enum" (some 0) with
  accessFlags := 1057
  interfaces := #[2, 3, 4]
  cf := some (fileOf pool5 2 #[.nestMembers #[106]] #[] 1057 12 #[111, 113, 115] #[{ accessFlags := 18, nameIndex := 5, descriptorIndex := 6, attributes := #[] }, { accessFlags := 18, nameIndex := 9, descriptorIndex := 10, attributes := #[] }, { accessFlags := 2, nameIndex := 19, descriptorIndex := 10, attributes := #[] }])
  fields := #[{ name := "name", type := (.object "java/lang/String"), accessFlags := 18, slot := 0, constantValue := 0 }, { name := "ordinal", type := .int, accessFlags := 18, slot := 1, constantValue := 0 }, { name := "hash", type := .int, accessFlags := 2, slot := 2, constantValue := 0 }]
  methods := #[]
  instanceTypes := #[(.object "java/lang/String"), .int, .int]
  staticTypes := #[]
  resolved := Array.replicate 204 none
  statics := none }

def pool6 : Array CpInfo := pool [(2, .class_ 4), (1, u "com/example/ledgerd/ledgerd/core/Labelled"), (43, .class_ 49), (0, u "java/lang/Object")] 9

/-- com/example/ledgerd/ledgerd/core/Labelled -/
def k6 : Class := { plain "com/example/ledgerd/ledgerd/core/Labelled" (some 0) with
  accessFlags := 1537
  interfaces := #[]
  cf := some (fileOf pool6 2 #[] #[] 1537 48 #[] #[])
  fields := #[]
  methods := #[]
  instanceTypes := #[]
  staticTypes := #[]
  resolved := Array.replicate 59 none
  statics := none }

def pool7 : Array CpInfo := pool [(1, .class_ 2), (0, u "com/example/ledgerd/ledgerd/core/PaymentDirection"), (2, u "RECEIVED"), (0, u "Lcom/example/ledgerd/ledgerd/core/PaymentDirection;"), (2, u "SENT"), (2, u "$VALUES"), (0, u "[Lcom/example/ledgerd/ledgerd/core/PaymentDirection;"), (6, .class_ 22), (1, u "java/lang/Enum"), (6, .fieldref 1 30), (0, .nameAndType 31 32), (0, u "debitsAccount"), (0, u "Z"), (0, .methodref 34 35), (0, .class_ 36), (0, .nameAndType 37 38), (0, u "com/example/ledgerd/ledgerd/core/DocumentType"), (0, u "debitsParty"), (0, u "()Z"), (1, .class_ 42), (1, u "com/example/ledgerd/ledgerd/core/Labelled"), (18, u "settles"), (0, u "(Lcom/example/ledgerd/ledgerd/core/DocumentType;)Z")] 8

def k7c0 : Code := { maxStack := 2, maxLocals := 2, code := prog_30_method_5_code, exceptionTable := #[], attributes := #[] }
def k7m0 : Method := { name := "settles", desc := "(Lcom/example/ledgerd/ledgerd/core/DocumentType;)Z", sig := { parameters := [(.object "com/example/ledgerd/ledgerd/core/DocumentType")], returnType := some .boolean }, accessFlags := 1, code := some k7c0 }
/-- com/example/ledgerd/ledgerd/core/PaymentDirection -/
def k7 : Class := { plain "com/example/ledgerd/ledgerd/core/PaymentDirection" (some 5) with
  accessFlags := 16433
  interfaces := #[6]
  cf := some (fileOf pool7 1 #[] #[{ accessFlags := 1, nameIndex := 61, descriptorIndex := 62, attributes := #[] }] 16433 20 #[40] #[{ accessFlags := 16409, nameIndex := 5, descriptorIndex := 6, attributes := #[] }, { accessFlags := 16409, nameIndex := 9, descriptorIndex := 6, attributes := #[] }, { accessFlags := 18, nameIndex := 31, descriptorIndex := 32, attributes := #[] }, { accessFlags := 4122, nameIndex := 12, descriptorIndex := 13, attributes := #[] }])
  fields := #[{ name := "RECEIVED", type := (.object "com/example/ledgerd/ledgerd/core/PaymentDirection"), accessFlags := 16409, slot := 0, constantValue := 0 }, { name := "SENT", type := (.object "com/example/ledgerd/ledgerd/core/PaymentDirection"), accessFlags := 16409, slot := 1, constantValue := 0 }, { name := "debitsAccount", type := .boolean, accessFlags := 18, slot := 3, constantValue := 0 }, { name := "$VALUES", type := (.array (.object "com/example/ledgerd/ledgerd/core/PaymentDirection")), accessFlags := 4122, slot := 2, constantValue := 0 }]
  methods := #[k7m0]
  instanceTypes := #[(.object "java/lang/String"), .int, .int, .boolean]
  staticTypes := #[(.object "com/example/ledgerd/ledgerd/core/PaymentDirection"), (.object "com/example/ledgerd/ledgerd/core/PaymentDirection"), (.array (.object "com/example/ledgerd/ledgerd/core/PaymentDirection"))]
  resolved := Array.replicate 71 none
  statics := some 0 }

def pool8 : Array CpInfo := pool [(1, .class_ 2), (0, u "com/example/ledgerd/ledgerd/core/DocumentType"), (2, u "SALES_INVOICE"), (0, u "Lcom/example/ledgerd/ledgerd/core/DocumentType;"), (2, u "PURCHASE_INVOICE"), (2, u "SALES_CREDIT_NOTE"), (2, u "PURCHASE_CREDIT_NOTE"), (2, u "$VALUES"), (0, u "[Lcom/example/ledgerd/ledgerd/core/DocumentType;"), (6, .class_ 28), (1, u "java/lang/Enum"), (6, .fieldref 1 36), (0, .nameAndType 37 38), (0, u "purchase"), (0, u "Z"), (0, .fieldref 1 40), (0, .nameAndType 41 6), (0, u "credits"), (9, .class_ 53), (1, u "com/example/ledgerd/ledgerd/core/Labelled"), (20, u "()Z"), (2, u "debitsParty")] 12

def k8c0 : Code := { maxStack := 2, maxLocals := 1, code := prog_20_method_6_code, exceptionTable := #[], attributes := #[] }
def k8m0 : Method := { name := "debitsParty", desc := "()Z", sig := { parameters := [], returnType := some .boolean }, accessFlags := 1, code := some k8c0 }
/-- com/example/ledgerd/ledgerd/core/DocumentType -/
def k8 : Class := { plain "com/example/ledgerd/ledgerd/core/DocumentType" (some 5) with
  accessFlags := 16433
  interfaces := #[6]
  cf := some (fileOf pool8 1 #[] #[{ accessFlags := 1, nameIndex := 77, descriptorIndex := 74, attributes := #[] }] 16433 26 #[51] #[{ accessFlags := 16409, nameIndex := 5, descriptorIndex := 6, attributes := #[] }, { accessFlags := 16409, nameIndex := 9, descriptorIndex := 6, attributes := #[] }, { accessFlags := 16409, nameIndex := 12, descriptorIndex := 6, attributes := #[] }, { accessFlags := 16409, nameIndex := 15, descriptorIndex := 6, attributes := #[] }, { accessFlags := 18, nameIndex := 37, descriptorIndex := 38, attributes := #[] }, { accessFlags := 18, nameIndex := 41, descriptorIndex := 6, attributes := #[] }, { accessFlags := 4122, nameIndex := 18, descriptorIndex := 19, attributes := #[] }])
  fields := #[{ name := "SALES_INVOICE", type := (.object "com/example/ledgerd/ledgerd/core/DocumentType"), accessFlags := 16409, slot := 0, constantValue := 0 }, { name := "PURCHASE_INVOICE", type := (.object "com/example/ledgerd/ledgerd/core/DocumentType"), accessFlags := 16409, slot := 1, constantValue := 0 }, { name := "SALES_CREDIT_NOTE", type := (.object "com/example/ledgerd/ledgerd/core/DocumentType"), accessFlags := 16409, slot := 2, constantValue := 0 }, { name := "PURCHASE_CREDIT_NOTE", type := (.object "com/example/ledgerd/ledgerd/core/DocumentType"), accessFlags := 16409, slot := 3, constantValue := 0 }, { name := "purchase", type := .boolean, accessFlags := 18, slot := 3, constantValue := 0 }, { name := "credits", type := (.object "com/example/ledgerd/ledgerd/core/DocumentType"), accessFlags := 18, slot := 4, constantValue := 0 }, { name := "$VALUES", type := (.array (.object "com/example/ledgerd/ledgerd/core/DocumentType")), accessFlags := 4122, slot := 4, constantValue := 0 }]
  methods := #[k8m0]
  instanceTypes := #[(.object "java/lang/String"), .int, .int, .boolean, (.object "com/example/ledgerd/ledgerd/core/DocumentType")]
  staticTypes := #[(.object "com/example/ledgerd/ledgerd/core/DocumentType"), (.object "com/example/ledgerd/ledgerd/core/DocumentType"), (.object "com/example/ledgerd/ledgerd/core/DocumentType"), (.object "com/example/ledgerd/ledgerd/core/DocumentType"), (.array (.object "com/example/ledgerd/ledgerd/core/DocumentType"))]
  resolved := Array.replicate 90 none
  statics := some 1 }

def pool9 : Array CpInfo := pool [(1, u "java/lang/Cloneable"), (0, .class_ 1), (0, u "java/lang/Object"), (0, .class_ 3)] 3

/-- java/lang/Cloneable -/
def k9 : Class := { plain "java/lang/Cloneable" (some 0) with
  accessFlags := 1537
  interfaces := #[]
  cf := some (fileOf pool9 2 #[] #[] 1537 4 #[] #[])
  fields := #[]
  methods := #[]
  instanceTypes := #[]
  staticTypes := #[]
  resolved := Array.replicate 8 none
  statics := none }

/-- the primitive byte -/
def k10 : Class := { plain "byte" none with kind := .primitive 'B', accessFlags := 0x411 }
/-- [B -/
def k11 : Class := { plain "[B" (some 0) with kind := .array 10 .byte, interfaces := #[9, 4], accessFlags := 1041 }

/-- the primitive int -/
def k12 : Class := { plain "int" none with kind := .primitive 'I', accessFlags := 0x411 }
/-- [I -/
def k13 : Class := { plain "[I" (some 0) with kind := .array 12 .int, interfaces := #[9, 4], accessFlags := 1041 }

def heap : Heap := #[{ cls := 7, slots := #[.ref 2, .ref 6, .null], vm := .statics 7 },
  { cls := 8, slots := #[.ref 5, .ref 4, .ref 7, .ref 3, .null], vm := .statics 8 },
  { cls := 7, slots := #[.null, .int 0, .int 0, .int 1], vm := .none },
  { cls := 8, slots := #[.null, .int 0, .int 0, .int 1, .ref 4], vm := .none },
  { cls := 8, slots := #[.null, .int 0, .int 0, .int 1, .null], vm := .none },
  { cls := 8, slots := #[.null, .int 0, .int 0, .int 0, .null], vm := .none },
  { cls := 7, slots := #[.null, .int 0, .int 0, .int 0], vm := .none },
  { cls := 8, slots := #[.null, .int 0, .int 0, .int 0, .ref 5], vm := .none }]
def classes : Array Class := #[k0, k1, k2, k3, k4, k5, k6, k7, k8, k9, k10, k11, k12, k13]
def interned : List (Array UInt16 × Addr) := []
def slotsUsed : Nat := 36
def theMethod : MethodId := ⟨1, 3⟩
def args0 : Array Value := #[.int 5, .int 5]
def aboutOver (below : List Frame) : State where
  vm := { classes := classes, interned := interned.toArray }
  heap := heap
  slotsUsed := slotsUsed
  threads := #[{ frames := .invoking theMethod args0 :: below }]
def below0 : List Frame := [.native { method := ⟨0, 0⟩, args := #[] }]
def about1 : State := aboutOver below0
def p0 : Program := .bare "" "" ""
def e0 : Env := launch0.env 0 0 0
theorem w_frames : about1.frames = Frame.invoking theMethod args0 :: below0 := rfl
set_option maxRecDepth 65536 in
theorem w_args : argsFit about1.vm theMethod args0 = true := by decide +kernel
set_option maxRecDepth 65536 in
theorem w_heap : heapFits about1 = true := by decide +kernel
set_option maxRecDepth 65536 in
theorem w_runnable : about1.curStatus? = some .runnable := by decide +kernel
set_option maxRecDepth 65536 in
theorem w_alone : about1.alone = true := by decide +kernel
set_option maxRecDepth 65536 in
theorem w_named : about1.methodNamed? x = some theMethod := by decide +kernel
set_option maxRecDepth 65536 in
theorem w_hears : about1.hears theMethod below0 = true := by decide +kernel
set_option maxRecDepth 65536 in
theorem w_ripe : about1.ripe theMethod args0 below0 = true := by decide +kernel
theorem w_running : about1.status = .running := rfl
set_option maxRecDepth 65536 in
theorem w_room : about1.hasRoom e0.platform room_1 = true :=
  launch0.hasRoom_least _ room_1 (by decide +kernel) (by decide +kernel) (by decide +kernel) (by decide +kernel) (by decide +kernel) (by decide +kernel)
theorem allAtoms_all (ts : List Jvm.Cond) (a : Array Jvm.Value) (st : Jvm.State) : (allAtoms ts).before a st = ts.all (fun c => c.before a st) := by
  induction ts with
  | nil => rfl
  | cons c t ih =>
    show (Jvm.Cond.and c (allAtoms t)).before a st = _
    rw [Jvm.Cond.before_and, ih, List.all_cons]
def words1 : List Jvm.Cond := Jvm.Cond.code x code maxLocals ret :: tables_1
/-- a 'code' word, met by the world's own term for the bytes: nothing is compared byte by byte -/
theorem code_word {y : MethodName} {bytes : ByteArray} {mx : Nat} {rt : Option FieldType} {a : Array Value} {s : State} {m : MethodId} {meth : Method} {c : Code} (h1 : s.methodNamed? y = some m) (h2 : s.vm.method? m = some meth) (h3 : meth.code = some c) (h4 : c.code = bytes)
    (h5 : (c.maxLocals == mx && c.exceptionTable.isEmpty && decide (c.maxStack ≤ mostOperands) && decide (meth.sig.returnType = rt) && !meth.locks && decide (parseMethodDescriptor y.desc = some meth.sig)) = true) : (Jvm.Cond.code y bytes mx rt).before a s = true := by
  simp only [Bool.and_eq_true, beq_iff_eq, Bool.not_eq_true', decide_eq_true_eq] at h5
  obtain ⟨⟨⟨⟨⟨g1, g2⟩, g3⟩, g4⟩, g5⟩, g6⟩ := h5
  simp [Cond.before, Cond.holds, Cond.value, h1, h2, h3, h4, g1, g2, g3, g4, g5, g6]
def isCode : Jvm.Cond → Bool
  | .code _ _ _ _ => true
  | _ => false
theorem all_split {L : List Jvm.Cond} {P : Jvm.Cond → Bool} (h1 : L.all (fun c => isCode c || P c) = true) (h2 : ∀ c ∈ L.filter isCode, P c = true) : L.all P = true := by
  refine List.all_eq_true.mpr fun c hc => ?_
  have h := List.all_eq_true.mp h1 c hc
  rcases Bool.eq_false_or_eq_true (isCode c) with hi | hi
  · exact h2 c (List.mem_filter.mpr ⟨hc, hi⟩)
  · simpa [hi] using h
set_option maxRecDepth 65536 in
theorem w_c0 : (Jvm.Cond.code x code maxLocals ret).before args0 about1 = true := code_word (m := ⟨1, 3⟩) (meth := k1m3) (c := k1c3) (by decide +kernel) rfl rfl rfl (by decide +kernel)
set_option maxRecDepth 65536 in
theorem w_c1 : (Jvm.Cond.code ({ cls := "com/example/ledgerd/ledgerd/core/PaymentDirectionSettlesPinLaw", name := "direction", desc := "(I)Lcom/example/ledgerd/ledgerd/core/PaymentDirection;" } : Jvm.MethodName) method_2_code (1 : Nat) (Option.some (Jvm.ClassFile.FieldType.object "com/example/ledgerd/ledgerd/core/PaymentDirection"))).before args0 about1 = true := code_word (m := ⟨1, 1⟩) (meth := k1m1) (c := k1c1) (by decide +kernel) rfl rfl rfl (by decide +kernel)
set_option maxRecDepth 65536 in
theorem w_c2 : (Jvm.Cond.code ({ cls := "com/example/ledgerd/ledgerd/core/PaymentDirectionSettlesPinLaw", name := "type", desc := "(I)Lcom/example/ledgerd/ledgerd/core/DocumentType;" } : Jvm.MethodName) method_3_code (1 : Nat) (Option.some (Jvm.ClassFile.FieldType.object "com/example/ledgerd/ledgerd/core/DocumentType"))).before args0 about1 = true := code_word (m := ⟨1, 2⟩) (meth := k1m2) (c := k1c2) (by decide +kernel) rfl rfl rfl (by decide +kernel)
set_option maxRecDepth 65536 in
theorem w_c3 : (Jvm.Cond.code ({ cls := "com/example/ledgerd/ledgerd/core/PaymentDirection", name := "settles", desc := "(Lcom/example/ledgerd/ledgerd/core/DocumentType;)Z" } : Jvm.MethodName) prog_30_method_5_code (2 : Nat) (Option.some Jvm.ClassFile.FieldType.boolean)).before args0 about1 = true := code_word (m := ⟨7, 0⟩) (meth := k7m0) (c := k7c0) (by decide +kernel) rfl rfl rfl (by decide +kernel)
set_option maxRecDepth 65536 in
theorem w_c4 : (Jvm.Cond.code ({ cls := "com/example/ledgerd/ledgerd/core/DocumentType", name := "debitsParty", desc := "()Z" } : Jvm.MethodName) prog_20_method_6_code (1 : Nat) (Option.some Jvm.ClassFile.FieldType.boolean)).before args0 about1 = true := code_word (m := ⟨8, 0⟩) (meth := k8m0) (c := k8c0) (by decide +kernel) rfl rfl rfl (by decide +kernel)
def codes1 : List Jvm.Cond := [Jvm.Cond.code x code maxLocals ret, Jvm.Cond.code ({ cls := "com/example/ledgerd/ledgerd/core/PaymentDirectionSettlesPinLaw", name := "direction", desc := "(I)Lcom/example/ledgerd/ledgerd/core/PaymentDirection;" } : Jvm.MethodName) method_2_code (1 : Nat) (Option.some (Jvm.ClassFile.FieldType.object "com/example/ledgerd/ledgerd/core/PaymentDirection")), Jvm.Cond.code ({ cls := "com/example/ledgerd/ledgerd/core/PaymentDirectionSettlesPinLaw", name := "type", desc := "(I)Lcom/example/ledgerd/ledgerd/core/DocumentType;" } : Jvm.MethodName) method_3_code (1 : Nat) (Option.some (Jvm.ClassFile.FieldType.object "com/example/ledgerd/ledgerd/core/DocumentType")), Jvm.Cond.code ({ cls := "com/example/ledgerd/ledgerd/core/PaymentDirection", name := "settles", desc := "(Lcom/example/ledgerd/ledgerd/core/DocumentType;)Z" } : Jvm.MethodName) prog_30_method_5_code (2 : Nat) (Option.some Jvm.ClassFile.FieldType.boolean), Jvm.Cond.code ({ cls := "com/example/ledgerd/ledgerd/core/DocumentType", name := "debitsParty", desc := "()Z" } : Jvm.MethodName) prog_20_method_6_code (1 : Nat) (Option.some Jvm.ClassFile.FieldType.boolean)]
set_option maxRecDepth 65536 in
theorem codes_eq : words1.filter isCode = codes1 := rfl
theorem w_codes : ∀ c ∈ words1.filter isCode, c.before args0 about1 = true := by
  rw [codes_eq]
  intro c hc
  simp only [codes1, List.mem_cons, List.not_mem_nil, or_false] at hc
  rcases hc with rfl | rfl | rfl | rfl | rfl
  · exact w_c0
  · exact w_c1
  · exact w_c2
  · exact w_c3
  · exact w_c4
set_option maxRecDepth 65536 in
theorem w_t1 : (words1.take 24).all (fun c => isCode c || c.before args0 about1) = true := by decide +kernel
set_option maxRecDepth 65536 in
theorem w_t2 : (words1.drop 24).all (fun c => isCode c || c.before args0 about1) = true := by decide +kernel
theorem w_tables : (allAtoms (Jvm.Cond.code x code maxLocals ret :: tables_1)).before args0 about1 = true := by
  rw [allAtoms_all]
  show words1.all (fun c => c.before args0 about1) = true
  refine all_split ?_ w_codes
  rw [← List.take_append_drop 24 words1, List.all_append, w_t1, w_t2]
  rfl
set_option maxRecDepth 65536 in
theorem w_case : (Jvm.Cond.and given_1 narrow_1).before args0 about1 = true := by decide +kernel
theorem w_applies : (headSpec (Jvm.Cond.code x code maxLocals ret :: tables_1) room_1).applies x e0.platform about1 = true :=
  (Spec.applies_iff w_frames).mpr ⟨w_running, w_runnable, w_alone, w_named, w_hears, w_ripe, w_room, w_tables⟩
theorem atStart : AtStart classFile x code maxLocals ret World_1 tables_1 room_1 Calls_1 rest_1 Pre_1 launch0 p0 e0 about1 theMethod args0 below0 :=
  ⟨lists_1, trivial, launch0.admits_env _ _ _, launch0.least_env, fairChoices_fair.cas, fairChoices_fair.clock, w_frames, w_args, w_heap, w_applies, trivial, trivial, w_case⟩
end start1
theorem witness_1 : WitnessClaimed_1 := ⟨start1.p0, start1.e0, start1.about1, start1.theMethod, start1.args0, start1.below0, start1.atStart⟩
end Jvm.Pilot.@@N@@
