import JvmDerived
import JvmDerived.Pilot.@@N@@Statement
import JvmDerived.Pilot.@@N@@Code
set_option linter.unusedVariables false
set_option linter.unusedSimpArgs false
@@BLOCK:NumsL.lean.txt@@
namespace Jvm.RoadKit
open Sem ClassFile Op Lib Jvm.Stand Jvm.Free Jvm.LawKit
section New
variable {p : Program} {l : Launch} {e : Env} {R : Room} {s : State} {m : MethodId} {args : Array Value} {below : List Frame} {meth : Method} {c : Code} {T : State} {locs : List Loc} {cells slots : Nat}
theorem retI (X : Stand p l e R s m args below meth c T locs cells slots) (hx : p.tables.exec = Jvm.exec) {pc : Nat} {Ls : Array Slot} {z : Int32} {rest : List Value} (hret : meth.sig.returnType = some .int) (hd : decode c.code pc = .ok (.ireturn, 1)) {fs : List Frame}
    (hl : ∀ (f : JFrame) (acts : List Action), f.method = m → f.locked = none → f.entered = [] → (doReturn e (T.setTop f) acts (some (.int z))).1 = T.setFrames fs) : Steps p.tables e below (T.setTop (mkF m pc Ls (.int z :: rest))) (T.setFrames fs) := by
  have hm' : T.vm.method? m = some meth := X.method'
  have hn : narrow .int (.int z) = .int z := rfl
  show Steps p.tables e below (T.setTop { method := m, pc := pc, locals := Ls, stack := _ :: rest, locked := none }) _
  jvm_step X.here [X.here.top, hx, hd, hm', hret, hn]
  first | (intro acts; rw [hl _ acts rfl rfl rfl]) | rw [hl _ _ rfl rfl rfl]
  exact Steps.refl _
end New
end Jvm.RoadKit
namespace Jvm.Pilot.@@N@@
open Jvm Jvm.ClassFile Sem Op Lib Jvm.Free Jvm.Stand Jvm.LawKit Jvm.RoadKit Bundle Jvm.Pilot.@@N@@.Jvm.D
/-! own_Goes: from S the run comes to some state of which G holds: such a goal may be split in the middle of a walk -/
def own_Goes (p : Program) (e : Env) (below : List Frame) (S : State) (G : State → Prop) : Prop := ∃ t, Steps p.tables e below S t ∧ G t
theorem own_via {p : Program} {e : Env} {below : List Frame} {S S' : State} {G : State → Prop} (f : ∀ t, Steps p.tables e below S' t → Steps p.tables e below S t) (h : own_Goes p e below S' G) : own_Goes p e below S G := by
  obtain ⟨t, h1, h2⟩ := h
  exact ⟨t, f t h1, h2⟩
theorem own_end {p : Program} {e : Env} {below : List Frame} {S t : State} {G : State → Prop} (h : Steps p.tables e below S t) (g : G t) : own_Goes p e below S G := ⟨t, h, g⟩
theorem own_out {p : Program} {e : Env} {below : List Frame} {S : State} {P : State → Outcome → Prop} (h : own_Goes p e below S (fun t => ∃ o, t.status = .running ∧ Ended t below o ∧ P t o)) : ∃ t o, Steps p.tables e below S t ∧ t.status = .running ∧ Ended t below o ∧ P t o := by
  obtain ⟨t, h1, o, h2, h3, h4⟩ := h
  exact ⟨t, o, h1, h2, h3, h4⟩
theorem wd {a0 : Array Value} {Z : State} (hw : ∀ d ∈ tables_1, d.before a0 Z = true) (i : Nat) {d : Jvm.Cond} (h : tables_1[i]? = some d) : d.before a0 Z = true := hw _ (List.mem_of_getElem? h)
theorem own_old {Z : State} {n0 : Nat} {h : Heap} (O : Old Z n0 h) : n0 ≤ h.size := by rw [← O.1]; exact O.2.1
def own_Q0 (n0 : Nat) (v : Option Value) (L : List Loc) : Prop := v = some (.int (1 : Int32)) ∧ Fr n0 L
def own_G (s : State) (below : List Frame) (n0 : Nat) (t : State) : Prop := ∃ o, t.status = .running ∧ Ended t below o ∧ ∃ v L, o = .returned v ∧ own_Q0 n0 v L ∧ FrameEnd s o t L room_1.cells room_1.slots
def own_Len (Z : State) (h : Heap) (a : Addr) (ty : FieldType) (n : Int32) : Prop := ∃ k vs d, Arv Z h a k ty n vs d
theorem own_len_ext {Z : State} {h h' : Heap} {a : Addr} {ty : FieldType} {n : Int32} (F : own_Len Z h a ty n) (E : Ext h h') : own_Len Z h' a ty n := by
  obtain ⟨k, vs, d, V⟩ := F
  exact ⟨k, vs, d, V.ext E⟩
theorem own_len_other {Z : State} {h h' : Heap} {a b : Addr} {sl : Nat} {v : Value} {ty : FieldType} {n : Int32} (F : own_Len Z h b ty n) (W : Wr h h' a sl v) (q : b ≠ a) : own_Len Z h' b ty n := by
  obtain ⟨k, vs, d, V⟩ := F
  exact ⟨k, vs, d, V.other W q⟩
theorem own_len_keep {Z : State} {h h' : Heap} {a : Addr} {ws : List Addr} {ty : FieldType} {n : Int32} (F : own_Len Z h a ty n) (K : Keep h h' ws) (q : a ∉ ws) : own_Len Z h' a ty n := by
  obtain ⟨k, vs, d, V⟩ := F
  exact ⟨k, vs, d, V.keep K q⟩
theorem own_len_lt {Z : State} {h : Heap} {a : Addr} {ty : FieldType} {n : Int32} (F : own_Len Z h a ty n) : a < h.size := by
  obtain ⟨k, vs, d, V⟩ := F
  exact V.lt
theorem own_c2 (x : Int32) : x.toUInt32.toUInt16.toUInt32.toInt32.toUInt32.toUInt16.toUInt32.toInt32 = x.toUInt32.toUInt16.toUInt32.toInt32 := by rw [UInt32.toUInt32_toInt32, UInt16.toUInt16_toUInt32]
theorem own_b2 (x : Int32) : x.toInt8.toInt32.toInt8.toInt32 = x.toInt8.toInt32 := by rw [Int8.toInt8_toInt32]
section Calls
variable {p : Program} {l : Launch} {e : Env} {R : Room} {s : State} {m : MethodId} {args : Array Value} {below : List Frame} {meth : Method} {c : Code} {T : State} {locs : List Loc} {cells slots : Nat} {Z : State} {a0 : Array Value} {h : Heap} {own C : String} {index : Nat} {y : MethodName} {bytes : ByteArray} {maxL : Nat} {rm : Room} {Q : Option Value → Heap → List Loc → Prop} {a : Addr} {argsL : List Value} {g : JFrame}
/-! a call by its contract, in one step: virtual (the class's own method), a constructor, static -/
theorem own_cv {ret : Option FieldType} (X : Stand p l e R s m args below meth c T locs cells slots) (hx : p.tables.exec = Jvm.exec) (hZ : Z.Warmed39 s.vm) (hown : s.vm.findClass own = some m.cls) (w1 : (Jvm.Cond.methodLink own index y).before a0 Z = true) (w2 : (Jvm.Cond.declares y).before a0 Z = true) (w3 : (Jvm.Cond.selects C y y).before a0 Z = true) (w4 : (Jvm.Cond.instanceMethod y).before a0 Z = true) (wc : (Jvm.Cond.code y bytes maxL ret).before a0 Z = true) (wz : (Jvm.Cond.initialized y.cls).before a0 Z = true) (hy : y.cls ≠ "java/lang/invoke/MethodHandle" ∧ y.cls ≠ "java/lang/invoke/VarHandle")
    (hM : MetFree l y (head1 [Jvm.Cond.code y bytes maxL ret] rm) (fun A U => A = (.ref a :: argsL).toArray ∧ Z.Warmed39 U.vm ∧ U.heap = h) (fun _ _ _ _ _ => True) (fun _ U o U' => ∃ v L, o = .returned v ∧ Q v U'.heap L ∧ FrameEnd U o U' L rm.cells rm.slots)) (eT : T.heap = h) (E : Exa Z h a C) (hg : g.method = m) (hsize : g.locals.size = c.maxLocals) {rest : List Value} {W : Nat}
    (hlen : ∀ sig, parseMethodDescriptor y.desc = some sig → argsL.length = sig.parameters.length) (hstack : g.stack = argsL.reverse ++ .ref a :: rest) (hW : 2 * g.monitorRoom + (rest.map fun v => v.category).sum ≤ W) (hdg : decode c.code g.pc = .ok (.invokevirtual index, 3)) (r1 : rm.frames + 1 ≤ R.frames) (r2 : W + (maxL + 11) + rm.locals ≤ R.locals) (r3 : cells + rm.cells ≤ R.cells) (r4 : slots + rm.slots ≤ R.slots) :
    ∃ (v : Option Value) (T' : State) (L : List Loc), Stand p l e R s m args below meth c T' (locs ++ L) (cells + rm.cells) (slots + rm.slots) ∧ Q v T'.heap L ∧ ∀ t, Steps p.tables e below (T'.setTop { g with pc := g.pc + 3, stack := v.toList ++ rest }) t → Steps p.tables e below (T.setTop g) t := by
  obtain ⟨cq, kq, qa, -, qc⟩ := isOf hZ eT E
  obtain ⟨v, _, ⟨T', L', c', n'⟩, -, X', ⟨Lc, hQ, l1, y1, z1⟩, st⟩ := X.virtualBack hx (y := y) (z := y) hown (mvT hZ w1) (mvT hZ w2) (notFace_of_selects (args := #[]) (mvT hZ w3)) (mvT hZ w3) (mvT hZ w4) hy (backOf (W := W) hM hZ wc wz r1 r2) qa qc (g := g) hg hsize (Steps.refl _) (argsL := argsL) (rest := rest) hlen hstack hW hdg (fun _ _ => ⟨rfl, eT, r3, r4⟩)
  dsimp only [Pt.U, Pt.locs, Pt.cells, Pt.slots] at X' l1 y1 z1 st hQ
  subst l1 y1 z1
  exact ⟨v, T', Lc, X', hQ, fun t k => st.trans k⟩
theorem own_ci (X : Stand p l e R s m args below meth c T locs cells slots) (hx : p.tables.exec = Jvm.exec) (hZ : Z.Warmed39 s.vm) (hown : s.vm.findClass own = some m.cls) (w1 : (Jvm.Cond.methodLink own index y).before a0 Z = true) (w4 : (Jvm.Cond.instanceMethod y).before a0 Z = true) (wc : (Jvm.Cond.code y bytes maxL none).before a0 Z = true) (wz : (Jvm.Cond.initialized y.cls).before a0 Z = true) (hi : y.name = "<init>") (hy : y.cls ≠ "java/lang/invoke/MethodHandle" ∧ y.cls ≠ "java/lang/invoke/VarHandle")
    (hM : MetFree l y (head1 [Jvm.Cond.code y bytes maxL none] rm) (fun A U => A = (.ref a :: argsL).toArray ∧ Z.Warmed39 U.vm ∧ U.heap = h) (fun _ _ _ _ _ => True) (fun _ U o U' => ∃ v L, o = .returned v ∧ Q v U'.heap L ∧ FrameEnd U o U' L rm.cells rm.slots)) (eT : T.heap = h) (hg : g.method = m) (hsize : g.locals.size = c.maxLocals) {rest : List Value} {W : Nat}
    (hlen : ∀ sig, parseMethodDescriptor y.desc = some sig → argsL.length = sig.parameters.length) (hstack : g.stack = argsL.reverse ++ .ref a :: rest) (hW : 2 * g.monitorRoom + (rest.map fun v => v.category).sum ≤ W) (hdg : decode c.code g.pc = .ok (.invokespecial index, 3)) (r1 : rm.frames + 1 ≤ R.frames) (r2 : W + (maxL + 11) + rm.locals ≤ R.locals) (r3 : cells + rm.cells ≤ R.cells) (r4 : slots + rm.slots ≤ R.slots) :
    ∃ (v : Option Value) (T' : State) (L : List Loc), Stand p l e R s m args below meth c T' (locs ++ L) (cells + rm.cells) (slots + rm.slots) ∧ Q v T'.heap L ∧ ∀ t, Steps p.tables e below (T'.setTop { g with pc := g.pc + 3, stack := v.toList ++ rest }) t → Steps p.tables e below (T.setTop g) t := by
  obtain ⟨v, _, ⟨T', L', c', n'⟩, -, X', ⟨Lc, hQ, l1, y1, z1⟩, st⟩ := X.specialBack hx (y := y) hi hown (mvT hZ w1) (mvT hZ w4) (mvT hZ wc) hy (backOf (W := W) hM hZ wc wz r1 r2) (g := g) hg hsize (Steps.refl _) (a := a) (argsL := argsL) (rest := rest) hlen hstack hW hdg (fun _ _ => ⟨rfl, eT, r3, r4⟩)
  dsimp only [Pt.U, Pt.locs, Pt.cells, Pt.slots] at X' l1 y1 z1 st hQ
  subst l1 y1 z1
  exact ⟨v, T', Lc, X', hQ, fun t k => st.trans k⟩
theorem own_cs {ret : Option FieldType} (X : Stand p l e R s m args below meth c T locs cells slots) (hx : p.tables.exec = Jvm.exec) (hZ : Z.Warmed39 s.vm) (hown : s.vm.findClass own = some m.cls) (w1 : (Jvm.Cond.methodLink own index y).before a0 Z = true) (w4 : (Jvm.Cond.static y).before a0 Z = true) (wc : (Jvm.Cond.code y bytes maxL ret).before a0 Z = true) (wz : (Jvm.Cond.initialized y.cls).before a0 Z = true) (hy : y.cls ≠ "java/lang/invoke/MethodHandle" ∧ y.cls ≠ "java/lang/invoke/VarHandle")
    (hM : MetFree l y (head1 [Jvm.Cond.code y bytes maxL ret] rm) (fun A U => A = argsL.toArray ∧ Z.Warmed39 U.vm ∧ U.heap = h) (fun _ _ _ _ _ => True) (fun _ U o U' => ∃ v L, o = .returned v ∧ Q v U'.heap L ∧ FrameEnd U o U' L rm.cells rm.slots)) (eT : T.heap = h) (hg : g.method = m) (hsize : g.locals.size = c.maxLocals) {rest : List Value} {W : Nat}
    (hlen : ∀ sig, parseMethodDescriptor y.desc = some sig → argsL.length = sig.parameters.length) (hstack : g.stack = argsL.reverse ++ rest) (hW : 2 * g.monitorRoom + (rest.map fun v => v.category).sum ≤ W) (hdg : decode c.code g.pc = .ok (.invokestatic index, 3)) (r1 : rm.frames + 1 ≤ R.frames) (r2 : W + (maxL + 11) + rm.locals ≤ R.locals) (r3 : cells + rm.cells ≤ R.cells) (r4 : slots + rm.slots ≤ R.slots) :
    ∃ (v : Option Value) (T' : State) (L : List Loc), Stand p l e R s m args below meth c T' (locs ++ L) (cells + rm.cells) (slots + rm.slots) ∧ Q v T'.heap L ∧ ∀ t, Steps p.tables e below (T'.setTop { g with pc := g.pc + 3, stack := v.toList ++ rest }) t → Steps p.tables e below (T.setTop g) t := by
  obtain ⟨v, _, ⟨T', L', c', n'⟩, -, X', ⟨Lc, hQ, l1, y1, z1⟩, st⟩ := Jvm.LawKit.callS X hx (y := y) hown (mvT hZ w1) (mvT hZ w4) (mvT hZ wz) (mvT hZ wc) hy (backOf (W := W) hM hZ wc wz r1 r2) (g := g) hg hsize (argsL := argsL) (rest := rest) hlen hstack hW hdg (fun _ _ => ⟨rfl, eT, r3, r4⟩)
  dsimp only [Pt.U, Pt.locs, Pt.cells, Pt.slots] at X' l1 y1 z1 st hQ
  subst l1 y1 z1
  exact ⟨v, T', Lc, X', hQ, st⟩
end Calls
theorem own_eq_ref {args : Array Value} {s : State} {a b : Term} {w : Addr} (h : (Jvm.Cond.eq a b).value args s none s [] = some true) (hb : b.eval args s none [] s = some (.ref w)) : a.eval args s none [] s = some (.ref w) := by
  obtain ⟨x, y, e1, e2, k1, k2⟩ := cmp_v (Or.inl h)
  rw [hb] at e2
  cases e2
  have hx : x.isRef = true := by cases x <;> simp_all [Kin, Value.isRef]
  have q := gotT (eq_R e1 hb hx rfl) h
  rw [e1, q]
theorem own_ne_ref {args : Array Value} {s : State} {a b : Term} {u w : Addr} (h : (Jvm.Cond.not (Jvm.Cond.eq a b)).value args s none s [] = some true) (ha : a.eval args s none [] s = some (.ref u)) (hb : b.eval args s none [] s = some (.ref w)) : u ≠ w := fun q => gotF (eq_R ha hb rfl rfl) (not_v h) (by rw [q])
theorem own_nn_mask (x m : Int32) (k : Nat) (hk : k < 32) (hm : m.toBitVec.toNat = 2 ^ k - 1) : ¬ ((x &&& m) < (0 : Int32)) := by
  rw [Int32.lt_iff_toInt_lt, Jvm.Kit.i32_mask x m hk hm]
  have h := Int.emod_nonneg x.toInt (show ((2 : Int) ^ k) ≠ 0 from Int.ne_of_gt (Int.pow_pos (by decide)))
  rw [Int32.toInt_zero]
  omega
theorem own_lt_mask (x m : Int32) (k : Nat) (hk : k < 32) (hm : m.toBitVec.toNat = 2 ^ k - 1) {n : Int32} (hn : n.toInt = 2 ^ k) : (x &&& m) < n := by
  rw [Int32.lt_iff_toInt_lt, Jvm.Kit.i32_mask x m hk hm, hn]
  exact Int.emod_lt_of_pos _ (Int.pow_pos (by decide))
theorem own_nn_rem {x : Int32} (n : Int32) (h : ¬ (x < (0 : Int32))) : ¬ (x % n < (0 : Int32)) := by
  rw [Int32.lt_iff_toInt_lt, Int32.toInt_zero] at h ⊢
  rw [Int32.toInt_mod]
  have := Int.tmod_nonneg n.toInt (show 0 ≤ x.toInt by omega)
  omega
theorem own_pos {n : Int32} (h : (0 : Int32) < n) : 0 < n.toInt := by
  rw [Int32.lt_iff_toInt_lt, Int32.toInt_zero] at h
  exact h
theorem own_ne0 {n : Int32} (h : (0 : Int32) < n) : n ≠ 0 := fun q => by
  rw [q] at h
  exact absurd h (by decide)
theorem own_lt_rem {x : Int32} (n : Int32) (h : ¬ (x < (0 : Int32))) (hn : 0 < n.toInt) : x % n < n := by
  rw [Int32.lt_iff_toInt_lt] at h ⊢
  rw [Int32.toInt_zero] at h
  rw [Jvm.Kit.i32_rem_nonneg (by omega)]
  exact Int.emod_lt_of_pos _ hn
theorem own_modlo (x n : Int32) (hn : 0 < n.toInt) : 0 ≤ ((x &&& (2147483647 : Int32)) % n).toInt := by
  have a := Jvm.Kit.i32_mask x 2147483647 (k := 31) (by decide) (by decide)
  rw [Jvm.Kit.i32_rem_nonneg (by omega)]
  exact Int.emod_nonneg _ (by omega)
theorem own_modhi (x n : Int32) (hn : 0 < n.toInt) : ((x &&& (2147483647 : Int32)) % n).toInt < n.toInt := by
  have a := Jvm.Kit.i32_mask x 2147483647 (k := 31) (by decide) (by decide)
  rw [Jvm.Kit.i32_rem_nonneg (by omega)]
  exact Int.emod_lt_of_pos _ hn
theorem own_cases_4 (y : Int32) (h0 : 0 ≤ y.toInt) (h1 : y.toInt < 4) : y = (0 : Int32) ∨ y = (1 : Int32) ∨ y = (2 : Int32) ∨ y = (3 : Int32) := by
  have e : ∀ k : Int32, y.toInt = k.toInt → y = k := fun k q => Int32.toInt_inj.mp q
  rcases (by omega : y.toInt = 0 ∨ y.toInt = 1 ∨ y.toInt = 2 ∨ y.toInt = 3) with q | q | q | q
  · exact Or.inl (e 0 (q.trans rfl))
  · exact Or.inr <| Or.inl (e 1 (q.trans rfl))
  · exact Or.inr <| Or.inr <| Or.inl (e 2 (q.trans rfl))
  · exact Or.inr <| Or.inr <| Or.inr <| (e 3 (q.trans rfl))
theorem own_shr6 (p : Int32) : (p >>> ((6 : Int32) &&& 31)).toInt = p.toInt / 64 := by
  have e : ((6 : Int32) &&& 31) = 6 := by decide
  rw [e, Jvm.Kit.i32_shr p 6 (k := 6) (by decide)]
  rfl
theorem own_nn_shr {p : Int32} (h : ¬ (p < (0 : Int32))) : ¬ ((p >>> ((6 : Int32) &&& 31)) < (0 : Int32)) := by
  rw [Int32.lt_iff_toInt_lt, Int32.toInt_zero] at h ⊢
  rw [own_shr6]
  omega
theorem own_idx4 {p : Int32} (h : ¬ (p < (0 : Int32))) (h1 : p < (256 : Int32)) : (p >>> ((6 : Int32) &&& 31)) = (0 : Int32) ∨ (p >>> ((6 : Int32) &&& 31)) = (1 : Int32) ∨ (p >>> ((6 : Int32) &&& 31)) = (2 : Int32) ∨ (p >>> ((6 : Int32) &&& 31)) = (3 : Int32) := by
  rw [Int32.lt_iff_toInt_lt, Int32.toInt_zero] at h
  rw [Int32.lt_iff_toInt_lt] at h1
  have h2 : p.toInt < 256 := h1
  have d := own_shr6 p
  exact own_cases_4 _ (by omega) (by omega)

abbrev zs1 : String := "com/example/hearthkey/hearthkey/gateway/transport/TelnetOptions"
abbrev zs2 : String := "java/util/BitSet"
abbrev zs3 : String := "com/example/hearthkey/hearthkey/gateway/transport/TelnetOptionsOfferEchoPinLaw"
abbrev zs4 : String := "Ljava/util/BitSet;"
abbrev zs5 : String := "sizeIsSticky"
abbrev zs6 : String := "$assertionsDisabled"
abbrev zs7 : String := "ensureCapacity"
abbrev zs8 : String := "checkInvariants"
theorem own_len31 {args : Array Value} {s : State} {t : Term} {a : Addr} {c : Cell} {ty : FieldType} {n : Int32} (ev : t.eval args s none [] s = some (.ref a)) (A : Arr s s.heap a c ty) (h : (Jvm.Cond.eq (.length t) (.int n)).value args s none s [] = some true) : c.slots.size < 2 ^ 31 ∧ c.slots.size.toInt32 = n := by
  have hl := Cond.eq_int (show (Jvm.Cond.eq (.length t) (.int n)).holds args s none s [] = true from Cond.before_iff.mpr h) rfl
  have hA : s.arrayAt? a = some c := Arr.fin (Vm.Alike.refl _) A
  have h31 := SBG.length_lt ev hA hl
  have e := len_f ev hA h31
  exact ⟨h31, by simpa using Option.some.inj (e.symm.trans hl)⟩
theorem own_sub_at {args : Array Value} {first s : State} {o : Option Outcome} {idx : List Nat} {a : Term} {x n : Int32} (h : a.eval args first o idx s = some (.int x)) : (Term.sub a (.int n)).eval args first o idx s = some (.int (x - n)) := by simp [Term.eval, h]
theorem own_arv0 {args : Array Value} {s : State} {t : Term} {a : Addr} {c : Cell} {ty : FieldType} {dv : Value} (hf : Fit s) (A : Arr s s.heap a c ty) (ev : t.eval args s none [] s = some (.ref a)) (h : (Jvm.Cond.eq (.length t) (.int 0)).value args s none s [] = some true) : Arv s s.heap a c.cls ty (0 : Int32) [] dv :=
  Arv.start hf A (own_len31 ev A h).1 (own_len31 ev A h).2 (by decide) rfl trivial
theorem d1_0 : decode prog_61_method_1_code 0 = .ok (.aload_n 0, 1) := by decide +kernel
theorem d1_1 : decode prog_61_method_1_code 1 = .ok (.invokespecial 1, 3) := by decide +kernel
theorem d1_4 : decode prog_61_method_1_code 4 = .ok (.aload_n 0, 1) := by decide +kernel
theorem d1_5 : decode prog_61_method_1_code 5 = .ok (.new 7, 3) := by decide +kernel
theorem d1_8 : decode prog_61_method_1_code 8 = .ok (.dup, 1) := by decide +kernel
theorem d1_9 : decode prog_61_method_1_code 9 = .ok (.sipush 256, 3) := by decide +kernel
theorem d1_12 : decode prog_61_method_1_code 12 = .ok (.invokespecial 9, 3) := by decide +kernel
theorem d3_0 : decode jdk_92_method_5_code 0 = .ok (.aload_n 0, 1) := by decide +kernel
theorem d3_1 : decode jdk_92_method_5_code 1 = .ok (.invokespecial 21, 3) := by decide +kernel
theorem d3_4 : decode jdk_92_method_5_code 4 = .ok (.aload_n 0, 1) := by decide +kernel
theorem d3_5 : decode jdk_92_method_5_code 5 = .ok (.iconst 0, 1) := by decide +kernel
theorem d3_6 : decode jdk_92_method_5_code 6 = .ok (.putfield 7, 3) := by decide +kernel
theorem d3_9 : decode jdk_92_method_5_code 9 = .ok (.aload_n 0, 1) := by decide +kernel
theorem d3_10 : decode jdk_92_method_5_code 10 = .ok (.iconst 0, 1) := by decide +kernel
theorem d3_11 : decode jdk_92_method_5_code 11 = .ok (.putfield 24, 3) := by decide +kernel
theorem d3_14 : decode jdk_92_method_5_code 14 = .ok (.iload_n 1, 1) := by decide +kernel
theorem d3_15 : decode jdk_92_method_5_code 15 = .ok (.ifCond .ge 30, 3) := by decide +kernel
theorem d3_45 : decode jdk_92_method_5_code 45 = .ok (.aload_n 0, 1) := by decide +kernel
theorem d3_46 : decode jdk_92_method_5_code 46 = .ok (.iload_n 1, 1) := by decide +kernel
theorem d3_47 : decode jdk_92_method_5_code 47 = .ok (.invokevirtual 27, 3) := by decide +kernel
theorem d4_0 : decode jdk_92_method_6_code 0 = .ok (.aload_n 0, 1) := by decide +kernel
theorem d4_1 : decode jdk_92_method_6_code 1 = .ok (.iload_n 1, 1) := by decide +kernel
theorem d4_2 : decode jdk_92_method_6_code 2 = .ok (.iconst 1, 1) := by decide +kernel
theorem d4_3 : decode jdk_92_method_6_code 3 = .ok (.isub, 1) := by decide +kernel
theorem d4_4 : decode jdk_92_method_6_code 4 = .ok (.invokestatic 52, 3) := by decide +kernel
theorem d5_0 : decode jdk_92_method_1_code 0 = .ok (.iload_n 0, 1) := by decide +kernel
theorem d5_1 : decode jdk_92_method_1_code 1 = .ok (.bipush 6, 2) := by decide +kernel
theorem d5_3 : decode jdk_92_method_1_code 3 = .ok (.ishr, 1) := by decide +kernel
theorem d5_4 : decode jdk_92_method_1_code 4 = .ok (.ireturn, 1) := by decide +kernel
theorem ef_1 (m : MethodId) (x0 : Int32) : entryFrame m #[(.int x0)] 1 = mkF m 0 #[iv x0] [] := by first | (simp [entryFrame, mkF, argsToLocals, Value.category]; done) | rfl
theorem pn_1 : plainName "java/util/BitSet" = true := by first | (simp [plainName, overriddenIn]; done) | decide +kernel
def Q1 (Z : State)  (h0 : Heap) (n0 : Nat) (v : Option Value) (h : Heap) (L : List Loc) : Prop := v = some (.int (3 : Int32)) ∧ Fr n0 L ∧ h = h0
set_option maxRecDepth 65536 in
set_option maxHeartbeats 40000000 in
theorem rm1 (l : Launch) (Z : State) (a0 : Array Value) (hw : ∀ d ∈ tables_1, d.before a0 Z = true) (ws : List Jvm.Cond)  (h0 : Heap) (n0 : Nat) (O0 : Old Z n0 h0) :
    MetFree l (⟨zs2, "wordIndex", "(I)I"⟩ : MethodName) (head1 (Jvm.Cond.code (⟨zs2, "wordIndex", "(I)I"⟩ : MethodName) jdk_92_method_1_code 1 (some .int) :: ws) ({ frames := 0, cells := 0, slots := 0, locals := 0 } : Room)) (fun a U => a = #[(.int (255 : Int32))] ∧ Z.Warmed39 U.vm ∧ U.heap = h0) (fun _ _ _ _ _ => True) (fun _ U o U' => ∃ v L, o = .returned v ∧ Q1 Z  h0 n0 v U'.heap L ∧ FrameEnd U o U' L ({ frames := 0, cells := 0, slots := 0, locals := 0 } : Room).cells ({ frames := 0, cells := 0, slots := 0, locals := 0 } : Room).slots) := by
  refine MetFree.of_bodySF (plainFor_of_name pn_1) hisR ?_
  intro p e s m args below meth c s₁ Bd hml0 hP hK
  obtain ⟨rfl, hZ, hh⟩ := hP
  have hx := Bd.exec
  have hby := Bd.bytes
  have hml : c.maxLocals = 1 := hml0
  have hown : s.vm.findClass zs2 = some m.cls := findClass_of_methodNamed Bd.named
  have hnm := (name_of_methodNamed Bd.named Bd.method).1
  have X0 : Stand p l e ({ frames := 0, cells := 0, slots := 0, locals := 0 } : Room) s m #[(.int (255 : Int32))] below meth c s₁ [] 0 0 := Stand.of_body Bd
  have e0 : s₁.heap = h0 := by rw [← hh, Bd.state]; rfl
  have N0 := Fr.nil n0
  refine own_out ?_
  refine own_via (fun t k => castTop (ef_1 m (255 : Int32)) (XS.iloadN X0.here hx rfl (hb hby d5_0) rfl (XS.bipush X0.here hx rfl (hb hby d5_1) (XS.ishr X0.here hx rfl (hb hby d5_3) rfl k)))) ?_
  show own_Goes p e below (s₁.setTop (mkF m 4 #[iv (255 : Int32)] [(.int (3 : Int32))])) _
  obtain ⟨fs, hr, hrun, hended, hW, hsame⟩ := X0.leave (v := some (.int (3 : Int32))) (fun h => by rw [Bd.returns] at h; cases h)
  refine own_end (t := s₁.setFrames fs) ?_ ⟨_, hrun, hended, _, _, rfl, ?_, ⟨_, rfl⟩, hW, hsame.mono (by decide) (by decide)⟩
  · exact retI X0 hx Bd.returns (hb hby d5_4) hr
  · show Q1 Z  h0 n0 _ s₁.heap _
    rw [e0]
    exact ⟨rfl, N0, rfl⟩
theorem pd_1 : parseMethodDescriptor "(I)I" = some ⟨[.int], some .int⟩ := by decide +kernel
theorem d4_7 : decode jdk_92_method_6_code 7 = .ok (.iconst 1, 1) := by decide +kernel
theorem d4_8 : decode jdk_92_method_6_code 8 = .ok (.iadd, 1) := by decide +kernel
theorem d4_9 : decode jdk_92_method_6_code 9 = .ok (.newarray .long, 2) := by decide +kernel
theorem d4_11 : decode jdk_92_method_6_code 11 = .ok (.putfield 11, 3) := by decide +kernel
theorem d4_14 : decode jdk_92_method_6_code 14 = .ok (.return_, 1) := by decide +kernel
theorem ef_2 (m : MethodId) (x0 : Addr) (x1 : Int32) : entryFrame m #[(.ref x0), (.int x1)] 2 = mkF m 0 #[rv x0, iv x1] [] := by first | (simp [entryFrame, mkF, argsToLocals, Value.category]; done) | rfl
def Q2 (Z : State) (a46 : Addr) (p51 : Int32) (p52 : Int32) (h0 : Heap) (n0 : Nat) (v : Option Value) (h : Heap) (L : List Loc) : Prop := (∃ (b63 : Addr) (k62 : ClassId), v = none ∧ Fr n0 L ∧ Keep h0 h [a46] ∧ Exa Z h a46 zs2 ∧ Fld Z h a46 zs2 "wordsInUse" "I" (.int p51) ∧ Fld Z h a46 zs2 zs5 "Z" (.int p52) ∧ Fld Z h a46 zs2 "words" "[J" (.ref b63) ∧ h0.size ≤ b63 ∧ Arv Z h b63 k62 .long (4 : Int32) [] (.long (0 : Int64)))
set_option maxRecDepth 65536 in
set_option maxHeartbeats 40000000 in
theorem rm2 (l : Launch) (Z : State) (a0 : Array Value) (hw : ∀ d ∈ tables_1, d.before a0 Z = true) (ws : List Jvm.Cond) (a46 : Addr) (p51 : Int32) (p52 : Int32) (h0 : Heap) (n0 : Nat) (O0 : Old Z n0 h0) (pF_a46_words : Fld Z h0 a46 zs2 "words" "[J" .null) (pE_a46 : Exa Z h0 a46 zs2) (pG_a46 : n0 ≤ a46) (pF_a46_wordsInUse : Fld Z h0 a46 zs2 "wordsInUse" "I" (.int p51)) (pF_a46_sizeIsSticky : Fld Z h0 a46 zs2 zs5 "Z" (.int p52)) :
    MetFree l (⟨zs2, "initWords", "(I)V"⟩ : MethodName) (head1 (Jvm.Cond.code (⟨zs2, "initWords", "(I)V"⟩ : MethodName) jdk_92_method_6_code 2 none :: ws) ({ frames := 1, cells := 1, slots := 4, locals := 13 } : Room)) (fun a U => a = #[(.ref a46), (.int (256 : Int32))] ∧ Z.Warmed39 U.vm ∧ U.heap = h0) (fun _ _ _ _ _ => True) (fun _ U o U' => ∃ v L, o = .returned v ∧ Q2 Z a46 p51 p52 h0 n0 v U'.heap L ∧ FrameEnd U o U' L ({ frames := 1, cells := 1, slots := 4, locals := 13 } : Room).cells ({ frames := 1, cells := 1, slots := 4, locals := 13 } : Room).slots) := by
  refine MetFree.of_bodySF (plainFor_of_name pn_1) hisR ?_
  intro p e s m args below meth c s₁ Bd hml0 hP hK
  obtain ⟨rfl, hZ, hh⟩ := hP
  have hx := Bd.exec
  have hby := Bd.bytes
  have hml : c.maxLocals = 2 := hml0
  have hown : s.vm.findClass zs2 = some m.cls := findClass_of_methodNamed Bd.named
  have hnm := (name_of_methodNamed Bd.named Bd.method).1
  have X0 : Stand p l e ({ frames := 1, cells := 1, slots := 4, locals := 13 } : Room) s m #[(.ref a46), (.int (256 : Int32))] below meth c s₁ [] 0 0 := Stand.of_body Bd
  have e0 : s₁.heap = h0 := by rw [← hh, Bd.state]; rfl
  have N0 := Fr.nil n0
  refine own_out ?_
  refine own_via (fun t k => castTop (ef_2 m a46 (256 : Int32)) (XS.aloadN X0.here hx rfl (hb hby d4_0) rfl rfl (XS.iloadN X0.here hx rfl (hb hby d4_1) rfl (XS.iconst X0.here hx rfl (hb hby d4_2) (XS.isub X0.here hx rfl (hb hby d4_3) rfl k))))) ?_
  show own_Goes p e below (s₁.setTop (mkF m 4 #[rv a46, iv (256 : Int32)] [(.int (255 : Int32)), (.ref a46)])) _
  obtain ⟨_, T53, _, X53, hQ53, st53⟩ := own_cs X0 hx hZ hown (wd hw 25 rfl) (wd hw 26 rfl) (wd hw 27 rfl) (wd hw 11 rfl) (by decide) (rm1 l Z a0 hw []  h0 n0 O0 ) e0 (g := (mkF m 4 #[rv a46, iv (256 : Int32)] [(.int (255 : Int32)), (.ref a46)])) rfl (by rw [hml]; rfl) (rest := [(.ref a46)]) (W := 1) (lenOf pd_1 rfl) rfl (by show 2 * 0 + _ ≤ _; exact Nat.le_of_eq rfl) (hb hby d4_4) (by decide) (by decide) (by decide) (by decide)
  obtain ⟨rfl, Nq53, hh61⟩ := hQ53
  have N53 := Fr.app N0 Nq53
  refine own_via (fun t k => st53 t (XS.iconst X53.here hx rfl (hb hby d4_7) (XS.iadd X53.here hx rfl (hb hby d4_8) rfl k))) ?_
  show own_Goes p e below (T53.setTop (mkF m 9 #[rv a46, iv (256 : Int32)] [(.int (4 : Int32)), (.ref a46)])) _
  obtain ⟨T62, h62, k62, X62, e62, E62, A62, st62⟩ := newP X53 hx hZ (wd hw 28 rfl) hh61 (g := (mkF m 9 #[rv a46, iv (256 : Int32)] [(.int (4 : Int32)), (.ref a46)])) rfl (hb hby d4_9) rfl (by decide) (cap := 4) (by decide) (by decide) (by decide) (by decide)
  obtain ⟨b63, q62⟩ : ∃ z, z = h0.size := ⟨_, rfl⟩
  rw [← q62] at A62 st62
  refine own_via (fun t k => st62 t k) ?_
  have g64 : n0 ≤ b63 := Nat.le_trans (own_old O0) (Nat.le_of_eq q62.symm)
  have B65 : h0.size ≤ b63 := Nat.le_trans (Nat.le_refl _) (Nat.le_of_eq q62.symm)
  have V66 : Arv Z h62 b63 k62 .long (4 : Int32) [] (.long (0 : Int64)) := Arv.new A62 (by decide)
  show own_Goes p e below (T62.setTop (mkF m 11 #[rv a46, iv (256 : Int32)] [(.ref b63), (.ref a46)])) _
  have F67 : Fld Z h62 a46 zs2 "words" "[J" .null := (pF_a46_words.ext E62)
  have E68 : Exa Z h62 a46 zs2 := (pE_a46.ext E62)
  obtain ⟨T69, h69, X69, e69, W69, st69⟩ := putF X62 hx hZ hown (host := "") (Or.inl (wd hw 29 rfl)) Via.refl e62 F67 E68 (Or.inl (wd hw 30 rfl)) (wd hw 10 rfl) (ty := (.array .long)) (by decide) rfl rfl (g := (mkF m 11 #[rv a46, iv (256 : Int32)] [(.ref b63), (.ref a46)])) rfl rfl (hb hby d4_11)
  refine own_via (fun t k => st69 t k) ?_
  have Fw69 : Fld Z h69 a46 zs2 "words" "[J" (.ref b63) := F67.same W69
  have N69 := Fr.snoc X69 N53 pG_a46
  show own_Goes p e below (T69.setTop (mkF m 14 #[rv a46, iv (256 : Int32)] [])) _
  obtain ⟨fs, hr, hrun, hended, hW, hsame⟩ := X69.leave (v := none) (fun _ => rfl)
  refine own_end (t := T69.setFrames fs) ?_ ⟨_, hrun, hended, _, _, rfl, ?_, ⟨_, rfl⟩, hW, hsame.mono (by decide) (by decide)⟩
  · exact X69.returnOut hx Bd.returns (hb hby d4_14) hr
  have E70 : Exa Z h69 a46 zs2 := (E68.wr W69)
  have F71 : Fld Z h69 a46 zs2 "wordsInUse" "I" (.int p51) := ((pF_a46_wordsInUse.ext E62).other W69 (Or.inr (slot_ne (Or.inl (wd hw 17 rfl)) (Or.inl (wd hw 30 rfl)) (by decide) (t := .int) (t' := (.array .long)) (by decide) (by decide))))
  have F72 : Fld Z h69 a46 zs2 zs5 "Z" (.int p52) := ((pF_a46_sizeIsSticky.ext E62).other W69 (Or.inr (slot_ne (Or.inl (wd hw 19 rfl)) (Or.inl (wd hw 30 rfl)) (by decide) (t := .boolean) (t' := (.array .long)) (by decide) (by decide))))
  have V73 : Arv Z h69 b63 k62 .long (4 : Int32) [] (.long (0 : Int64)) := (V66.other W69 (Ne.symm (Nat.ne_of_lt (Nat.lt_of_lt_of_le pE_a46.lt B65))))
  · show Q2 Z a46 p51 p52 h0 n0 _ T69.heap _
    rw [e69]
    exact ⟨b63, k62, rfl, N69, (((Keep.refl h0 [a46]).ext E62).wr W69 (Or.inl (List.mem_of_getElem? (i := 0) rfl))), E70, F71, F72, Fw69, B65, V73⟩
theorem pd_2 : parseMethodDescriptor "(I)V" = some ⟨[.int], none⟩ := by decide +kernel
theorem d3_50 : decode jdk_92_method_5_code 50 = .ok (.aload_n 0, 1) := by decide +kernel
theorem d3_51 : decode jdk_92_method_5_code 51 = .ok (.iconst 1, 1) := by decide +kernel
theorem d3_52 : decode jdk_92_method_5_code 52 = .ok (.putfield 24, 3) := by decide +kernel
theorem d3_55 : decode jdk_92_method_5_code 55 = .ok (.return_, 1) := by decide +kernel
theorem ef_3 (m : MethodId) (x0 : Addr) (x1 : Int32) : entryFrame m #[(.ref x0), (.int x1)] 2 = mkF m 0 #[rv x0, iv x1] [] := by first | (simp [entryFrame, mkF, argsToLocals, Value.category]; done) | rfl
def Q3 (Z : State) (a33 : Addr) (p38 : Int32) (p39 : Int32) (h0 : Heap) (n0 : Nat) (v : Option Value) (h : Heap) (L : List Loc) : Prop := (∃ (b78 : Addr) (k79 : ClassId), v = none ∧ Fr n0 L ∧ Keep h0 h [a33] ∧ Exa Z h a33 zs2 ∧ Fld Z h a33 zs2 "wordsInUse" "I" (.int (0 : Int32)) ∧ Fld Z h a33 zs2 zs5 "Z" (.int (1 : Int32)) ∧ Fld Z h a33 zs2 "words" "[J" (.ref b78) ∧ h0.size ≤ b78 ∧ Arv Z h b78 k79 .long (4 : Int32) [] (.long (0 : Int64)))
set_option maxRecDepth 65536 in
set_option maxHeartbeats 40000000 in
theorem rm3 (l : Launch) (Z : State) (a0 : Array Value) (hw : ∀ d ∈ tables_1, d.before a0 Z = true) (ws : List Jvm.Cond) (a33 : Addr) (p38 : Int32) (p39 : Int32) (h0 : Heap) (n0 : Nat) (O0 : Old Z n0 h0) (pF_a33_wordsInUse : Fld Z h0 a33 zs2 "wordsInUse" "I" (.int p38)) (pE_a33 : Exa Z h0 a33 zs2) (pG_a33 : n0 ≤ a33) (pF_a33_sizeIsSticky : Fld Z h0 a33 zs2 zs5 "Z" (.int p39)) (pF_a33_words : Fld Z h0 a33 zs2 "words" "[J" .null) :
    MetFree l (⟨zs2, "<init>", "(I)V"⟩ : MethodName) (head1 (Jvm.Cond.code (⟨zs2, "<init>", "(I)V"⟩ : MethodName) jdk_92_method_5_code 2 none :: ws) ({ frames := 2, cells := 1, slots := 4, locals := 26 } : Room)) (fun a U => a = #[(.ref a33), (.int (256 : Int32))] ∧ Z.Warmed39 U.vm ∧ U.heap = h0) (fun _ _ _ _ _ => True) (fun _ U o U' => ∃ v L, o = .returned v ∧ Q3 Z a33 p38 p39 h0 n0 v U'.heap L ∧ FrameEnd U o U' L ({ frames := 2, cells := 1, slots := 4, locals := 26 } : Room).cells ({ frames := 2, cells := 1, slots := 4, locals := 26 } : Room).slots) := by
  refine MetFree.of_bodySF (plainFor_of_name pn_1) hisR ?_
  intro p e s m args below meth c s₁ Bd hml0 hP hK
  obtain ⟨rfl, hZ, hh⟩ := hP
  have hx := Bd.exec
  have hby := Bd.bytes
  have hml : c.maxLocals = 2 := hml0
  have hown : s.vm.findClass zs2 = some m.cls := findClass_of_methodNamed Bd.named
  have hnm := (name_of_methodNamed Bd.named Bd.method).1
  have X0 : Stand p l e ({ frames := 2, cells := 1, slots := 4, locals := 26 } : Room) s m #[(.ref a33), (.int (256 : Int32))] below meth c s₁ [] 0 0 := Stand.of_body Bd
  have e0 : s₁.heap = h0 := by rw [← hh, Bd.state]; rfl
  have N0 := Fr.nil n0
  refine own_out ?_
  refine own_via (fun t k => castTop (ef_3 m a33 (256 : Int32)) (XS.aloadN X0.here hx rfl (hb hby d3_0) rfl rfl k)) ?_
  obtain ⟨T40, X40, e40, st40⟩ := initO X0 hx hZ hown (wd hw 15 rfl) (wd hw 7 rfl) (wd hw 8 rfl) e0 (g := (mkF m 1 #[rv a33, iv (256 : Int32)] [(.ref a33)])) rfl (by rw [hml]; rfl) rfl (hb hby d3_1) (by decide) (W := 0) (by show 2 * 0 + _ ≤ _; exact Nat.le_of_eq rfl) (by decide)
  refine own_via (fun t k => st40 t (XS.aloadN X40.here hx rfl (hb hby d3_4) rfl rfl (XS.iconst X40.here hx rfl (hb hby d3_5) k))) ?_
  show own_Goes p e below (T40.setTop (mkF m 6 #[rv a33, iv (256 : Int32)] [(.int (0 : Int32)), (.ref a33)])) _
  obtain ⟨T41, h41, X41, e41, W41, st41⟩ := putF X40 hx hZ hown (host := "") (Or.inl (wd hw 16 rfl)) Via.refl e40 pF_a33_wordsInUse pE_a33 (Or.inl (wd hw 17 rfl)) (wd hw 10 rfl) (ty := .int) (by decide) rfl rfl (g := (mkF m 6 #[rv a33, iv (256 : Int32)] [(.int (0 : Int32)), (.ref a33)])) rfl rfl (hb hby d3_6)
  refine own_via (fun t k => st41 t k) ?_
  have Fw41 : Fld Z h41 a33 zs2 "wordsInUse" "I" (.int (0 : Int32)) := pF_a33_wordsInUse.same W41
  have N41 := Fr.snoc X41 N0 pG_a33
  show own_Goes p e below (T41.setTop (mkF m 9 #[rv a33, iv (256 : Int32)] [])) _
  refine own_via (fun t k => XS.aloadN X41.here hx rfl (hb hby d3_9) rfl rfl (XS.iconst X41.here hx rfl (hb hby d3_10) k)) ?_
  have F42 : Fld Z h41 a33 zs2 zs5 "Z" (.int p39) := (pF_a33_sizeIsSticky.other W41 (Or.inr (slot_ne (Or.inl (wd hw 19 rfl)) (Or.inl (wd hw 17 rfl)) (by decide) (t := .boolean) (t' := .int) (by decide) (by decide))))
  have E43 : Exa Z h41 a33 zs2 := (pE_a33.wr W41)
  obtain ⟨T44, h44, X44, e44, W44, st44⟩ := putFN X41 hx hZ hown (wd hw 18 rfl) Via.refl e41 F42 E43 (Or.inl (wd hw 19 rfl)) (wd hw 10 rfl) (ty := .boolean) (v' := (.int (0 : Int32))) (by decide) rfl (by decide) (g := (mkF m 11 #[rv a33, iv (256 : Int32)] [(.int (0 : Int32)), (.ref a33)])) rfl rfl (hb hby d3_11)
  refine own_via (fun t k => st44 t k) ?_
  have Fw44 : Fld Z h44 a33 zs2 zs5 "Z" (.int (0 : Int32)) := F42.same W44
  have N44 := Fr.snoc X44 N41 pG_a33
  show own_Goes p e below (T44.setTop (mkF m 14 #[rv a33, iv (256 : Int32)] [])) _
  refine own_via (fun t k => XS.iloadN X44.here hx rfl (hb hby d3_14) rfl (XS.ifYes X44.here hx rfl (pc0 := 15) (pc' := 45) rfl (hb hby d3_15) rfl ((if0 _ _).trans (flt (by decide : ¬ ((256 : Int32) < (0 : Int32)))).2.1) (by decide) (by decide) (XS.aloadN X44.here hx rfl (hb hby d3_45) rfl rfl (XS.iloadN X44.here hx rfl (hb hby d3_46) rfl k)))) ?_
  show own_Goes p e below (T44.setTop (mkF m 47 #[rv a33, iv (256 : Int32)] [(.int (256 : Int32)), (.ref a33)])) _
  have F74 : Fld Z h44 a33 zs2 "words" "[J" .null := ((pF_a33_words.other W41 (Or.inr (slot_ne (Or.inl (wd hw 30 rfl)) (Or.inl (wd hw 17 rfl)) (by decide) (t := (.array .long)) (t' := .int) (by decide) (by decide)))).other W44 (Or.inr (slot_ne (Or.inl (wd hw 30 rfl)) (Or.inl (wd hw 19 rfl)) (by decide) (t := (.array .long)) (t' := .boolean) (by decide) (by decide))))
  have E75 : Exa Z h44 a33 zs2 := (E43.wr W44)
  have F76 : Fld Z h44 a33 zs2 "wordsInUse" "I" (.int (0 : Int32)) := (Fw41.other W44 (Or.inr (slot_ne (Or.inl (wd hw 17 rfl)) (Or.inl (wd hw 19 rfl)) (by decide) (t := .int) (t' := .boolean) (by decide) (by decide))))
  have O77 : Old Z n0 h44 := ((O0.wr W41 pG_a33).wr W44 pG_a33)
  obtain ⟨cq45, q45, q45'⟩ := E75.cell
  obtain ⟨_, _, ⟨T45, L45, c45, n45⟩, -, X45, ⟨Lc45, hQ45, l45, y45, z45⟩, st45⟩ := X44.privateBack hx (y := (⟨zs2, "initWords", "(I)V"⟩ : MethodName)) hown (mvT hZ (wd hw 20 rfl)) (mvT hZ (wd hw 21 rfl)) (mvT hZ (wd hw 23 rfl)) (Cond.privateMethod_at (mvP hZ (wd hw 22 rfl) (args := #[]))) (mvT hZ (wd hw 24 rfl)) (by decide) (backOf (W := 0) (rm2 l Z a0 hw [] a33 (0 : Int32) (0 : Int32) h44 n0 O77 F74 E75 pG_a33 F76 Fw44) hZ (wd hw 24 rfl) (wd hw 11 rfl) (by decide) (by decide)) (g := (mkF m 47 #[rv a33, iv (256 : Int32)] [(.int (256 : Int32)), (.ref a33)])) rfl (by rw [hml]; rfl) (Steps.refl _) (a := a33) (by rw [e44]; exact q45) q45' (argsL := [(.int (256 : Int32))]) (rest := []) (lenOf pd_2 rfl) rfl (by show 2 * 0 + _ ≤ _; exact Nat.le_of_eq rfl) (hb hby d3_47) (fun _ _ => ⟨rfl, e44, (by decide : 0 + 1 ≤ _), (by decide : 0 + 4 ≤ _)⟩)
  dsimp only [Pt.U, Pt.locs, Pt.cells, Pt.slots] at X45 l45 y45 z45 st45 hQ45
  subst l45 y45 z45
  obtain ⟨h45, e45⟩ : ∃ z, T45.heap = z := ⟨_, rfl⟩
  rw [e45] at hQ45
  obtain ⟨b78, k79, rfl, Nq45, K45, ex80, fx81, fx82, fx83, bx84, vx85⟩ := hQ45
  have N45 := Fr.app N44 Nq45
  have g86 : n0 ≤ b78 := Nat.le_trans (own_old O77) bx84
  have Z88 : h0.size ≤ h44.size := (Nat.le_trans (Nat.le_trans (Nat.le_refl _) (Nat.le_of_eq W41.size.symm)) (Nat.le_of_eq W44.size.symm))
  have B87 : h0.size ≤ b78 := Nat.le_trans Z88 bx84
  refine own_via (fun t k => st45.trans (XS.aloadN X45.here hx rfl (hb hby d3_50) rfl rfl (XS.iconst X45.here hx rfl (hb hby d3_51) k))) ?_
  show own_Goes p e below (T45.setTop (mkF m 52 #[rv a33, iv (256 : Int32)] [(.int (1 : Int32)), (.ref a33)])) _
  obtain ⟨T89, h89, X89, e89, W89, st89⟩ := putFN X45 hx hZ hown (wd hw 18 rfl) Via.refl e45 fx82 ex80 (Or.inl (wd hw 19 rfl)) (wd hw 10 rfl) (ty := .boolean) (v' := (.int (1 : Int32))) (by decide) rfl (by decide) (g := (mkF m 52 #[rv a33, iv (256 : Int32)] [(.int (1 : Int32)), (.ref a33)])) rfl rfl (hb hby d3_52)
  refine own_via (fun t k => st89 t k) ?_
  have Fw89 : Fld Z h89 a33 zs2 zs5 "Z" (.int (1 : Int32)) := fx82.same W89
  have N89 := Fr.snoc X89 N45 pG_a33
  show own_Goes p e below (T89.setTop (mkF m 55 #[rv a33, iv (256 : Int32)] [])) _
  obtain ⟨fs, hr, hrun, hended, hW, hsame⟩ := X89.leave (v := none) (fun _ => rfl)
  refine own_end (t := T89.setFrames fs) ?_ ⟨_, hrun, hended, _, _, rfl, ?_, ⟨_, rfl⟩, hW, hsame.mono (by decide) (by decide)⟩
  · exact X89.returnOut hx Bd.returns (hb hby d3_55) hr
  have E90 : Exa Z h89 a33 zs2 := (ex80.wr W89)
  have F91 : Fld Z h89 a33 zs2 "wordsInUse" "I" (.int (0 : Int32)) := (fx81.other W89 (Or.inr (slot_ne (Or.inl (wd hw 17 rfl)) (Or.inl (wd hw 19 rfl)) (by decide) (t := .int) (t' := .boolean) (by decide) (by decide))))
  have F92 : Fld Z h89 a33 zs2 "words" "[J" (.ref b78) := (fx83.other W89 (Or.inr (slot_ne (Or.inl (wd hw 30 rfl)) (Or.inl (wd hw 19 rfl)) (by decide) (t := (.array .long)) (t' := .boolean) (by decide) (by decide))))
  have V93 : Arv Z h89 b78 k79 .long (4 : Int32) [] (.long (0 : Int64)) := (vx85.other W89 (Ne.symm (Nat.ne_of_lt (Nat.lt_of_lt_of_le pE_a33.lt B87))))
  · show Q3 Z a33 p38 p39 h0 n0 _ T89.heap _
    rw [e89]
    exact ⟨b78, k79, rfl, N89, (((((Keep.refl h0 [a33]).wr W41 (Or.inl (List.mem_of_getElem? (i := 0) rfl))).wr W44 (Or.inl (List.mem_of_getElem? (i := 0) rfl))).trans K45 (allS (Or.inl (List.mem_of_getElem? (i := 0) rfl)) all0)).wr W89 (Or.inl (List.mem_of_getElem? (i := 0) rfl))), E90, F91, Fw89, F92, B87, V93⟩
theorem d1_15 : decode prog_61_method_1_code 15 = .ok (.putfield 12, 3) := by decide +kernel
theorem d1_18 : decode prog_61_method_1_code 18 = .ok (.aload_n 0, 1) := by decide +kernel
theorem d1_19 : decode prog_61_method_1_code 19 = .ok (.new 7, 3) := by decide +kernel
theorem d1_22 : decode prog_61_method_1_code 22 = .ok (.dup, 1) := by decide +kernel
theorem d1_23 : decode prog_61_method_1_code 23 = .ok (.sipush 256, 3) := by decide +kernel
theorem d1_26 : decode prog_61_method_1_code 26 = .ok (.invokespecial 9, 3) := by decide +kernel
theorem d1_29 : decode prog_61_method_1_code 29 = .ok (.putfield 18, 3) := by decide +kernel
theorem d1_32 : decode prog_61_method_1_code 32 = .ok (.return_, 1) := by decide +kernel
theorem ef_4 (m : MethodId) (x0 : Addr) : entryFrame m #[(.ref x0)] 1 = mkF m 0 #[rv x0] [] := by first | (simp [entryFrame, mkF, argsToLocals, Value.category]; done) | rfl
theorem pn_2 : plainName "com/example/hearthkey/hearthkey/gateway/transport/TelnetOptions" = true := by first | (simp [plainName, overriddenIn]; done) | decide +kernel
def Q4 (Z : State) (a20 : Addr) (p21 : Int32) (p22 : Int32) (p23 : Int32) (h0 : Heap) (n0 : Nat) (v : Option Value) (h : Heap) (L : List Loc) : Prop := (∃ (b26 : Addr) (b95 : Addr) (k96 : ClassId) (b111 : Addr) (b125 : Addr) (k126 : ClassId), v = none ∧ Fr n0 L ∧ Keep h0 h [a20] ∧ Exa Z h a20 zs1 ∧ Fld Z h a20 zs1 "refusedWill" zs4 (.ref b26) ∧ Fld Z h a20 zs1 "refusedDo" zs4 (.ref b111) ∧ Fld Z h a20 zs1 "echoOffered" "Z" (.int p21) ∧ Fld Z h a20 zs1 "gmcpOffered" "Z" (.int p22) ∧ Fld Z h a20 zs1 "gmcpOn" "Z" (.int p23) ∧ h0.size ≤ b26 ∧ Exa Z h b26 zs2 ∧ Fld Z h b26 zs2 "wordsInUse" "I" (.int (0 : Int32)) ∧ Fld Z h b26 zs2 zs5 "Z" (.int (1 : Int32)) ∧ Fld Z h b26 zs2 "words" "[J" (.ref b95) ∧ h0.size ≤ b95 ∧ Arv Z h b95 k96 .long (4 : Int32) [] (.long (0 : Int64)) ∧ h0.size ≤ b111 ∧ Exa Z h b111 zs2 ∧ Fld Z h b111 zs2 "wordsInUse" "I" (.int (0 : Int32)) ∧ Fld Z h b111 zs2 zs5 "Z" (.int (1 : Int32)) ∧ Fld Z h b111 zs2 "words" "[J" (.ref b125) ∧ h0.size ≤ b125 ∧ Arv Z h b125 k126 .long (4 : Int32) [] (.long (0 : Int64)) ∧ b26 ≠ b95 ∧ b26 ≠ b111 ∧ b26 ≠ b125 ∧ b95 ≠ b111 ∧ b95 ≠ b125 ∧ b111 ≠ b125)
set_option maxRecDepth 65536 in
set_option maxHeartbeats 40000000 in
theorem rm4 (l : Launch) (Z : State) (a0 : Array Value) (hw : ∀ d ∈ tables_1, d.before a0 Z = true) (ws : List Jvm.Cond) (a20 : Addr) (p21 : Int32) (p22 : Int32) (p23 : Int32) (h0 : Heap) (n0 : Nat) (O0 : Old Z n0 h0) (pF_a20_refusedWill : Fld Z h0 a20 zs1 "refusedWill" zs4 .null) (pE_a20 : Exa Z h0 a20 zs1) (pG_a20 : n0 ≤ a20) (pF_a20_refusedDo : Fld Z h0 a20 zs1 "refusedDo" zs4 .null) (pF_a20_echoOffered : Fld Z h0 a20 zs1 "echoOffered" "Z" (.int p21)) (pF_a20_gmcpOffered : Fld Z h0 a20 zs1 "gmcpOffered" "Z" (.int p22)) (pF_a20_gmcpOn : Fld Z h0 a20 zs1 "gmcpOn" "Z" (.int p23)) :
    MetFree l (⟨zs1, "<init>", "()V"⟩ : MethodName) (head1 (Jvm.Cond.code (⟨zs1, "<init>", "()V"⟩ : MethodName) prog_61_method_1_code 1 none :: ws) ({ frames := 3, cells := 4, slots := 14, locals := 41 } : Room)) (fun a U => a = #[(.ref a20)] ∧ Z.Warmed39 U.vm ∧ U.heap = h0) (fun _ _ _ _ _ => True) (fun _ U o U' => ∃ v L, o = .returned v ∧ Q4 Z a20 p21 p22 p23 h0 n0 v U'.heap L ∧ FrameEnd U o U' L ({ frames := 3, cells := 4, slots := 14, locals := 41 } : Room).cells ({ frames := 3, cells := 4, slots := 14, locals := 41 } : Room).slots) := by
  refine MetFree.of_bodySF (plainFor_of_name pn_2) hisR ?_
  intro p e s m args below meth c s₁ Bd hml0 hP hK
  obtain ⟨rfl, hZ, hh⟩ := hP
  have hx := Bd.exec
  have hby := Bd.bytes
  have hml : c.maxLocals = 1 := hml0
  have hown : s.vm.findClass zs1 = some m.cls := findClass_of_methodNamed Bd.named
  have hnm := (name_of_methodNamed Bd.named Bd.method).1
  have X0 : Stand p l e ({ frames := 3, cells := 4, slots := 14, locals := 41 } : Room) s m #[(.ref a20)] below meth c s₁ [] 0 0 := Stand.of_body Bd
  have e0 : s₁.heap = h0 := by rw [← hh, Bd.state]; rfl
  have N0 := Fr.nil n0
  refine own_out ?_
  refine own_via (fun t k => castTop (ef_4 m a20) (XS.aloadN X0.here hx rfl (hb hby d1_0) rfl rfl k)) ?_
  obtain ⟨T24, X24, e24, st24⟩ := initO X0 hx hZ hown (wd hw 6 rfl) (wd hw 7 rfl) (wd hw 8 rfl) e0 (g := (mkF m 1 #[rv a20] [(.ref a20)])) rfl (by rw [hml]; rfl) rfl (hb hby d1_1) (by decide) (W := 0) (by show 2 * 0 + _ ≤ _; exact Nat.le_of_eq rfl) (by decide)
  refine own_via (fun t k => st24 t (XS.aloadN X24.here hx rfl (hb hby d1_4) rfl rfl k)) ?_
  obtain ⟨T25, h25, X25, e25, E25, A25, D25, -, st25⟩ := newO X24 hx hZ hown (wd hw 9 rfl) (wd hw 10 rfl) (wd hw 11 rfl) e24 (g := (mkF m 5 #[rv a20] [(.ref a20)])) rfl (hb hby d1_5) (by decide) (by decide)
  obtain ⟨b26, q25⟩ : ∃ z, z = h0.size := ⟨_, rfl⟩
  rw [← q25] at A25 D25 st25
  refine own_via (fun t k => st25 t k) ?_
  have g27 : n0 ≤ b26 := Nat.le_trans (own_old O0) (Nat.le_of_eq q25.symm)
  have B28 : h0.size ≤ b26 := Nat.le_trans (Nat.le_refl _) (Nat.le_of_eq q25.symm)
  have F29 : Fld Z h25 b26 zs2 "wordsInUse" "I" (.int (0 : Int32)) := D25 (Or.inl (wd hw 17 rfl)) (ty := .int) (by decide)
  have F30 : Fld Z h25 b26 zs2 zs5 "Z" (.int (0 : Int32)) := D25 (Or.inl (wd hw 19 rfl)) (ty := .boolean) (by decide)
  have F31 : Fld Z h25 b26 zs2 "words" "[J" .null := D25 (Or.inl (wd hw 30 rfl)) (ty := (.array .long)) (by decide)
  show own_Goes p e below (T25.setTop (mkF m 8 #[rv a20] [(.ref b26), (.ref a20)])) _
  refine own_via (fun t k => XS.dup X25.here hx rfl (hb hby d1_8) rfl rfl (XS.sipush X25.here hx rfl (hb hby d1_9) k)) ?_
  have O94 : Old Z n0 h25 := (O0.ext E25)
  obtain ⟨_, T32, _, X32, hQ32, st32⟩ := own_ci X25 hx hZ hown (wd hw 12 rfl) (wd hw 13 rfl) (wd hw 14 rfl) (wd hw 11 rfl) rfl (by decide) (rm3 l Z a0 hw [] b26 (0 : Int32) (0 : Int32) h25 n0 O94 F29 A25 g27 F30 F31) e25 (g := (mkF m 12 #[rv a20] [(.int (256 : Int32)), (.ref b26), (.ref b26), (.ref a20)])) rfl (by rw [hml]; rfl) (rest := [(.ref b26), (.ref a20)]) (W := 2) (lenOf pd_2 rfl) rfl (by show 2 * 0 + _ ≤ _; exact Nat.le_of_eq rfl) (hb hby d1_12) (by decide) (by decide) (by decide) (by decide)
  obtain ⟨h32, e32⟩ : ∃ z, T32.heap = z := ⟨_, rfl⟩
  rw [e32] at hQ32
  obtain ⟨b95, k96, rfl, Nq32, K32, ex97, fx98, fx99, fx100, bx101, vx102⟩ := hQ32
  have N32 := Fr.app N0 Nq32
  have N103 : b26 ≠ b95 := Nat.ne_of_lt (Nat.lt_of_lt_of_le A25.lt bx101)
  have g104 : n0 ≤ b95 := Nat.le_trans (own_old O94) bx101
  have Z106 : h0.size ≤ h25.size := (Nat.le_trans (Nat.le_refl _) E25.1)
  have B105 : h0.size ≤ b95 := Nat.le_trans Z106 bx101
  refine own_via (fun t k => st32 t k) ?_
  have F107 : Fld Z h32 a20 zs1 "refusedWill" zs4 .null := ((pF_a20_refusedWill.ext E25).keep K32 (ninS (Nat.ne_of_lt (Nat.lt_of_lt_of_le pE_a20.lt B28)) nin0))
  have E108 : Exa Z h32 a20 zs1 := ((pE_a20.ext E25).keep K32)
  obtain ⟨T109, h109, X109, e109, W109, st109⟩ := putF X32 hx hZ hown (host := "") (Or.inl (wd hw 31 rfl)) Via.refl e32 F107 E108 (Or.inr ⟨(wd hw 32 rfl), rfl, hnm⟩) (wd hw 1 rfl) (ty := (.object zs2)) (by decide) rfl rfl (g := (mkF m 15 #[rv a20] [(.ref b26), (.ref a20)])) rfl rfl (hb hby d1_15)
  refine own_via (fun t k => st109 t k) ?_
  have Fw109 : Fld Z h109 a20 zs1 "refusedWill" zs4 (.ref b26) := F107.same W109
  have N109 := Fr.snoc X109 N32 pG_a20
  show own_Goes p e below (T109.setTop (mkF m 18 #[rv a20] [])) _
  refine own_via (fun t k => XS.aloadN X109.here hx rfl (hb hby d1_18) rfl rfl k) ?_
  obtain ⟨T110, h110, X110, e110, E110, A110, D110, -, st110⟩ := newO X109 hx hZ hown (wd hw 9 rfl) (wd hw 10 rfl) (wd hw 11 rfl) e109 (g := (mkF m 19 #[rv a20] [(.ref a20)])) rfl (hb hby d1_19) (by decide) (by decide)
  obtain ⟨b111, q110⟩ : ∃ z, z = h109.size := ⟨_, rfl⟩
  rw [← q110] at A110 D110 st110
  refine own_via (fun t k => st110 t k) ?_
  have E113 : Exa Z h109 b26 zs2 := (ex97.wr W109)
  have N112 : b26 ≠ b111 := Nat.ne_of_lt (Nat.lt_of_lt_of_le E113.lt (Nat.le_of_eq q110.symm))
  have V115 : Arv Z h109 b95 k96 .long (4 : Int32) [] (.long (0 : Int64)) := (vx102.other W109 (Ne.symm (Nat.ne_of_lt (Nat.lt_of_lt_of_le pE_a20.lt B105))))
  have N114 : b95 ≠ b111 := Nat.ne_of_lt (Nat.lt_of_lt_of_le V115.lt (Nat.le_of_eq q110.symm))
  have O117 : Old Z n0 h109 := ((O94.keep K32 (allS g27 all0)).wr W109 pG_a20)
  have g116 : n0 ≤ b111 := Nat.le_trans (own_old O117) (Nat.le_of_eq q110.symm)
  have Z119 : h0.size ≤ h109.size := (Nat.le_trans (Nat.le_trans Z106 K32.1) (Nat.le_of_eq W109.size.symm))
  have B118 : h0.size ≤ b111 := Nat.le_trans Z119 (Nat.le_of_eq q110.symm)
  have F120 : Fld Z h110 b111 zs2 "wordsInUse" "I" (.int (0 : Int32)) := D110 (Or.inl (wd hw 17 rfl)) (ty := .int) (by decide)
  have F121 : Fld Z h110 b111 zs2 zs5 "Z" (.int (0 : Int32)) := D110 (Or.inl (wd hw 19 rfl)) (ty := .boolean) (by decide)
  have F122 : Fld Z h110 b111 zs2 "words" "[J" .null := D110 (Or.inl (wd hw 30 rfl)) (ty := (.array .long)) (by decide)
  show own_Goes p e below (T110.setTop (mkF m 22 #[rv a20] [(.ref b111), (.ref a20)])) _
  refine own_via (fun t k => XS.dup X110.here hx rfl (hb hby d1_22) rfl rfl (XS.sipush X110.here hx rfl (hb hby d1_23) k)) ?_
  have O124 : Old Z n0 h110 := (O117.ext E110)
  obtain ⟨_, T123, _, X123, hQ123, st123⟩ := own_ci X110 hx hZ hown (wd hw 12 rfl) (wd hw 13 rfl) (wd hw 14 rfl) (wd hw 11 rfl) rfl (by decide) (rm3 l Z a0 hw [] b111 (0 : Int32) (0 : Int32) h110 n0 O124 F120 A110 g116 F121 F122) e110 (g := (mkF m 26 #[rv a20] [(.int (256 : Int32)), (.ref b111), (.ref b111), (.ref a20)])) rfl (by rw [hml]; rfl) (rest := [(.ref b111), (.ref a20)]) (W := 2) (lenOf pd_2 rfl) rfl (by show 2 * 0 + _ ≤ _; exact Nat.le_of_eq rfl) (hb hby d1_26) (by decide) (by decide) (by decide) (by decide)
  obtain ⟨h123, e123⟩ : ∃ z, T123.heap = z := ⟨_, rfl⟩
  rw [e123] at hQ123
  obtain ⟨b125, k126, rfl, Nq123, K123, ex127, fx128, fx129, fx130, bx131, vx132⟩ := hQ123
  have N123 := Fr.app N109 Nq123
  have E134 : Exa Z h110 b26 zs2 := (E113.ext E110)
  have N133 : b26 ≠ b125 := Nat.ne_of_lt (Nat.lt_of_lt_of_le E134.lt bx131)
  have V136 : Arv Z h110 b95 k96 .long (4 : Int32) [] (.long (0 : Int64)) := (V115.ext E110)
  have N135 : b95 ≠ b125 := Nat.ne_of_lt (Nat.lt_of_lt_of_le V136.lt bx131)
  have N137 : b111 ≠ b125 := Nat.ne_of_lt (Nat.lt_of_lt_of_le A110.lt bx131)
  have g138 : n0 ≤ b125 := Nat.le_trans (own_old O124) bx131
  have Z140 : h0.size ≤ h110.size := (Nat.le_trans Z119 E110.1)
  have B139 : h0.size ≤ b125 := Nat.le_trans Z140 bx131
  refine own_via (fun t k => st123 t k) ?_
  have F141 : Fld Z h123 a20 zs1 "refusedDo" zs4 .null := (((((pF_a20_refusedDo.ext E25).keep K32 (ninS (Nat.ne_of_lt (Nat.lt_of_lt_of_le pE_a20.lt B28)) nin0)).other W109 (Or.inr (slot_ne (Or.inr (wd hw 34 rfl)) (Or.inr (wd hw 32 rfl)) (by decide) (t := (.object zs2)) (t' := (.object zs2)) (by decide) (by decide)))).ext E110).keep K123 (ninS (Nat.ne_of_lt (Nat.lt_of_lt_of_le pE_a20.lt B118)) nin0))
  have E142 : Exa Z h123 a20 zs1 := (((E108.wr W109).ext E110).keep K123)
  obtain ⟨T143, h143, X143, e143, W143, st143⟩ := putF X123 hx hZ hown (host := "") (Or.inl (wd hw 33 rfl)) Via.refl e123 F141 E142 (Or.inr ⟨(wd hw 34 rfl), rfl, hnm⟩) (wd hw 1 rfl) (ty := (.object zs2)) (by decide) rfl rfl (g := (mkF m 29 #[rv a20] [(.ref b111), (.ref a20)])) rfl rfl (hb hby d1_29)
  refine own_via (fun t k => st143 t k) ?_
  have Fw143 : Fld Z h143 a20 zs1 "refusedDo" zs4 (.ref b111) := F141.same W143
  have N143 := Fr.snoc X143 N123 pG_a20
  show own_Goes p e below (T143.setTop (mkF m 32 #[rv a20] [])) _
  obtain ⟨fs, hr, hrun, hended, hW, hsame⟩ := X143.leave (v := none) (fun _ => rfl)
  refine own_end (t := T143.setFrames fs) ?_ ⟨_, hrun, hended, _, _, rfl, ?_, ⟨_, rfl⟩, hW, hsame.mono (by decide) (by decide)⟩
  · exact X143.returnOut hx Bd.returns (hb hby d1_32) hr
  have E144 : Exa Z h143 a20 zs1 := (E142.wr W143)
  have F145 : Fld Z h143 a20 zs1 "refusedWill" zs4 (.ref b26) := (((Fw109.ext E110).keep K123 (ninS (Nat.ne_of_lt (Nat.lt_of_lt_of_le pE_a20.lt B118)) nin0)).other W143 (Or.inr (slot_ne (Or.inr (wd hw 32 rfl)) (Or.inr (wd hw 34 rfl)) (by decide) (t := (.object zs2)) (t' := (.object zs2)) (by decide) (by decide))))
  have F146 : Fld Z h143 a20 zs1 "echoOffered" "Z" (.int p21) := ((((((pF_a20_echoOffered.ext E25).keep K32 (ninS (Nat.ne_of_lt (Nat.lt_of_lt_of_le pE_a20.lt B28)) nin0)).other W109 (Or.inr (slot_ne (Or.inl (wd hw 41 rfl)) (Or.inr (wd hw 32 rfl)) (by decide) (t := .boolean) (t' := (.object zs2)) (by decide) (by decide)))).ext E110).keep K123 (ninS (Nat.ne_of_lt (Nat.lt_of_lt_of_le pE_a20.lt B118)) nin0)).other W143 (Or.inr (slot_ne (Or.inl (wd hw 41 rfl)) (Or.inr (wd hw 34 rfl)) (by decide) (t := .boolean) (t' := (.object zs2)) (by decide) (by decide))))
  have F147 : Fld Z h143 a20 zs1 "gmcpOffered" "Z" (.int p22) := ((((((pF_a20_gmcpOffered.ext E25).keep K32 (ninS (Nat.ne_of_lt (Nat.lt_of_lt_of_le pE_a20.lt B28)) nin0)).other W109 (Or.inr (slot_ne (Or.inl (wd hw 93 rfl)) (Or.inr (wd hw 32 rfl)) (by decide) (t := .boolean) (t' := (.object zs2)) (by decide) (by decide)))).ext E110).keep K123 (ninS (Nat.ne_of_lt (Nat.lt_of_lt_of_le pE_a20.lt B118)) nin0)).other W143 (Or.inr (slot_ne (Or.inl (wd hw 93 rfl)) (Or.inr (wd hw 34 rfl)) (by decide) (t := .boolean) (t' := (.object zs2)) (by decide) (by decide))))
  have F148 : Fld Z h143 a20 zs1 "gmcpOn" "Z" (.int p23) := ((((((pF_a20_gmcpOn.ext E25).keep K32 (ninS (Nat.ne_of_lt (Nat.lt_of_lt_of_le pE_a20.lt B28)) nin0)).other W109 (Or.inr (slot_ne (Or.inl (wd hw 95 rfl)) (Or.inr (wd hw 32 rfl)) (by decide) (t := .boolean) (t' := (.object zs2)) (by decide) (by decide)))).ext E110).keep K123 (ninS (Nat.ne_of_lt (Nat.lt_of_lt_of_le pE_a20.lt B118)) nin0)).other W143 (Or.inr (slot_ne (Or.inl (wd hw 95 rfl)) (Or.inr (wd hw 34 rfl)) (by decide) (t := .boolean) (t' := (.object zs2)) (by decide) (by decide))))
  have E149 : Exa Z h143 b26 zs2 := ((E134.keep K123).wr W143)
  have F150 : Fld Z h143 b26 zs2 "wordsInUse" "I" (.int (0 : Int32)) := ((((fx98.other W109 (Or.inl (Ne.symm (Nat.ne_of_lt (Nat.lt_of_lt_of_le pE_a20.lt B28))))).ext E110).keep K123 (ninS N112 nin0)).other W143 (Or.inl (Ne.symm (Nat.ne_of_lt (Nat.lt_of_lt_of_le pE_a20.lt B28)))))
  have F151 : Fld Z h143 b26 zs2 zs5 "Z" (.int (1 : Int32)) := ((((fx99.other W109 (Or.inl (Ne.symm (Nat.ne_of_lt (Nat.lt_of_lt_of_le pE_a20.lt B28))))).ext E110).keep K123 (ninS N112 nin0)).other W143 (Or.inl (Ne.symm (Nat.ne_of_lt (Nat.lt_of_lt_of_le pE_a20.lt B28)))))
  have F152 : Fld Z h143 b26 zs2 "words" "[J" (.ref b95) := ((((fx100.other W109 (Or.inl (Ne.symm (Nat.ne_of_lt (Nat.lt_of_lt_of_le pE_a20.lt B28))))).ext E110).keep K123 (ninS N112 nin0)).other W143 (Or.inl (Ne.symm (Nat.ne_of_lt (Nat.lt_of_lt_of_le pE_a20.lt B28)))))
  have V153 : Arv Z h143 b95 k96 .long (4 : Int32) [] (.long (0 : Int64)) := ((V136.keep K123 (ninS N114 nin0)).other W143 (Ne.symm (Nat.ne_of_lt (Nat.lt_of_lt_of_le pE_a20.lt B105))))
  have E154 : Exa Z h143 b111 zs2 := (ex127.wr W143)
  have F155 : Fld Z h143 b111 zs2 "wordsInUse" "I" (.int (0 : Int32)) := (fx128.other W143 (Or.inl (Ne.symm (Nat.ne_of_lt (Nat.lt_of_lt_of_le pE_a20.lt B118)))))
  have F156 : Fld Z h143 b111 zs2 zs5 "Z" (.int (1 : Int32)) := (fx129.other W143 (Or.inl (Ne.symm (Nat.ne_of_lt (Nat.lt_of_lt_of_le pE_a20.lt B118)))))
  have F157 : Fld Z h143 b111 zs2 "words" "[J" (.ref b125) := (fx130.other W143 (Or.inl (Ne.symm (Nat.ne_of_lt (Nat.lt_of_lt_of_le pE_a20.lt B118)))))
  have V158 : Arv Z h143 b125 k126 .long (4 : Int32) [] (.long (0 : Int64)) := (vx132.other W143 (Ne.symm (Nat.ne_of_lt (Nat.lt_of_lt_of_le pE_a20.lt B139))))
  · show Q4 Z a20 p21 p22 p23 h0 n0 _ T143.heap _
    rw [e143]
    exact ⟨b26, b95, k96, b111, b125, k126, rfl, N143, (((((((Keep.refl h0 [a20]).ext E25).trans K32 (allS (Or.inr B28) all0)).wr W109 (Or.inl (List.mem_of_getElem? (i := 0) rfl))).ext E110).trans K123 (allS (Or.inr B118) all0)).wr W143 (Or.inl (List.mem_of_getElem? (i := 0) rfl))), E144, F145, Fw143, F146, F147, F148, B28, E149, F150, F151, F152, B105, V153, B118, E154, F155, F156, F157, B139, V158, N103, N112, N133, N114, N135, N137⟩
theorem pd_3 : parseMethodDescriptor "()V" = some ⟨[], none⟩ := by decide +kernel
theorem d6_0 : decode prog_61_method_5_code 0 = .ok (.aload_n 0, 1) := by decide +kernel
theorem d6_1 : decode prog_61_method_5_code 1 = .ok (.iconst 1, 1) := by decide +kernel
theorem d6_2 : decode prog_61_method_5_code 2 = .ok (.putfield 21, 3) := by decide +kernel
theorem d6_5 : decode prog_61_method_5_code 5 = .ok (.sipush 251, 3) := by decide +kernel
theorem d6_8 : decode prog_61_method_5_code 8 = .ok (.iconst 1, 1) := by decide +kernel
theorem d6_9 : decode prog_61_method_5_code 9 = .ok (.invokestatic 46, 3) := by decide +kernel
theorem d7_0 : decode prog_61_method_8_code 0 = .ok (.iconst 3, 1) := by decide +kernel
theorem d7_1 : decode prog_61_method_8_code 1 = .ok (.newarray .byte, 2) := by decide +kernel
theorem d7_3 : decode prog_61_method_8_code 3 = .ok (.dup, 1) := by decide +kernel
theorem d7_4 : decode prog_61_method_8_code 4 = .ok (.iconst 0, 1) := by decide +kernel
theorem d7_5 : decode prog_61_method_8_code 5 = .ok (.iconst (-1), 1) := by decide +kernel
theorem d7_6 : decode prog_61_method_8_code 6 = .ok (.bastore, 1) := by decide +kernel
theorem d7_7 : decode prog_61_method_8_code 7 = .ok (.dup, 1) := by decide +kernel
theorem d7_8 : decode prog_61_method_8_code 8 = .ok (.iconst 1, 1) := by decide +kernel
theorem d7_9 : decode prog_61_method_8_code 9 = .ok (.iload_n 0, 1) := by decide +kernel
theorem d7_10 : decode prog_61_method_8_code 10 = .ok (.i2b, 1) := by decide +kernel
theorem d7_11 : decode prog_61_method_8_code 11 = .ok (.bastore, 1) := by decide +kernel
theorem d7_12 : decode prog_61_method_8_code 12 = .ok (.dup, 1) := by decide +kernel
theorem d7_13 : decode prog_61_method_8_code 13 = .ok (.iconst 2, 1) := by decide +kernel
theorem d7_14 : decode prog_61_method_8_code 14 = .ok (.iload_n 1, 1) := by decide +kernel
theorem d7_15 : decode prog_61_method_8_code 15 = .ok (.i2b, 1) := by decide +kernel
theorem d7_16 : decode prog_61_method_8_code 16 = .ok (.bastore, 1) := by decide +kernel
theorem d7_17 : decode prog_61_method_8_code 17 = .ok (.areturn, 1) := by decide +kernel
theorem ef_5 (m : MethodId) (x0 : Int32) (x1 : Int32) : entryFrame m #[(.int x0), (.int x1)] 2 = mkF m 0 #[iv x0, iv x1] [] := by first | (simp [entryFrame, mkF, argsToLocals, Value.category]; done) | rfl
def Q5 (Z : State)  (h0 : Heap) (n0 : Nat) (v : Option Value) (h : Heap) (L : List Loc) : Prop := (∃ (b265 : Addr) (k264 : ClassId), v = some (.ref b265) ∧ Fr n0 L ∧ Keep h0 h [] ∧ h0.size ≤ b265 ∧ Arv Z h b265 k264 .byte (3 : Int32) [(.int (-1 : Int32)), (.int (-5 : Int32)), (.int (1 : Int32))] (.int (0 : Int32)))
set_option maxRecDepth 65536 in
set_option maxHeartbeats 40000000 in
theorem rm5 (l : Launch) (Z : State) (a0 : Array Value) (hw : ∀ d ∈ tables_1, d.before a0 Z = true) (ws : List Jvm.Cond)  (h0 : Heap) (n0 : Nat) (O0 : Old Z n0 h0) :
    MetFree l (⟨zs1, "command", "(II)[B"⟩ : MethodName) (head1 (Jvm.Cond.code (⟨zs1, "command", "(II)[B"⟩ : MethodName) prog_61_method_8_code 2 (some (.array .byte)) :: ws) ({ frames := 0, cells := 1, slots := 3, locals := 0 } : Room)) (fun a U => a = #[(.int (251 : Int32)), (.int (1 : Int32))] ∧ Z.Warmed39 U.vm ∧ U.heap = h0) (fun _ _ _ _ _ => True) (fun _ U o U' => ∃ v L, o = .returned v ∧ Q5 Z  h0 n0 v U'.heap L ∧ FrameEnd U o U' L ({ frames := 0, cells := 1, slots := 3, locals := 0 } : Room).cells ({ frames := 0, cells := 1, slots := 3, locals := 0 } : Room).slots) := by
  refine MetFree.of_bodySF (plainFor_of_name pn_2) hisR ?_
  intro p e s m args below meth c s₁ Bd hml0 hP hK
  obtain ⟨rfl, hZ, hh⟩ := hP
  have hx := Bd.exec
  have hby := Bd.bytes
  have hml : c.maxLocals = 2 := hml0
  have hown : s.vm.findClass zs1 = some m.cls := findClass_of_methodNamed Bd.named
  have hnm := (name_of_methodNamed Bd.named Bd.method).1
  have X0 : Stand p l e ({ frames := 0, cells := 1, slots := 3, locals := 0 } : Room) s m #[(.int (251 : Int32)), (.int (1 : Int32))] below meth c s₁ [] 0 0 := Stand.of_body Bd
  have e0 : s₁.heap = h0 := by rw [← hh, Bd.state]; rfl
  have N0 := Fr.nil n0
  refine own_out ?_
  refine own_via (fun t k => castTop (ef_5 m (251 : Int32) (1 : Int32)) (XS.iconst X0.here hx rfl (hb hby d7_0) k)) ?_
  obtain ⟨T264, h264, k264, X264, e264, E264, A264, st264⟩ := newP X0 hx hZ (wd hw 45 rfl) e0 (g := (mkF m 1 #[iv (251 : Int32), iv (1 : Int32)] [(.int (3 : Int32))])) rfl (hb hby d7_1) rfl (by decide) (cap := 3) (by decide) (by decide) (by decide) (by decide)
  obtain ⟨b265, q264⟩ : ∃ z, z = h0.size := ⟨_, rfl⟩
  rw [← q264] at A264 st264
  refine own_via (fun t k => st264 t k) ?_
  have g266 : n0 ≤ b265 := Nat.le_trans (own_old O0) (Nat.le_of_eq q264.symm)
  have B267 : h0.size ≤ b265 := Nat.le_trans (Nat.le_refl _) (Nat.le_of_eq q264.symm)
  have V268 : Arv Z h264 b265 k264 .byte (3 : Int32) [] (.int (0 : Int32)) := Arv.new A264 (by decide)
  show own_Goes p e below (T264.setTop (mkF m 3 #[iv (251 : Int32), iv (1 : Int32)] [(.ref b265)])) _
  refine own_via (fun t k => XS.dup X264.here hx rfl (hb hby d7_3) rfl rfl (XS.iconst X264.here hx rfl (hb hby d7_4) (XS.iconst X264.here hx rfl (hb hby d7_5) k))) ?_
  show own_Goes p e below (T264.setTop (mkF m 6 #[iv (251 : Int32), iv (1 : Int32)] [(.int (-1 : Int32)), (.int (0 : Int32)), (.ref b265), (.ref b265)])) _
  have V269 : Arv Z h264 b265 k264 .byte (3 : Int32) [(.int (0 : Int32))] (.int (0 : Int32)) := V268.pad (pad_rep [] (.int (0 : Int32)) 1)
  obtain ⟨cl270, Ar270, qq270, S270, M270, H270, G270⟩ := id (V269)
  have hin270 : ¬ ((0 : Int32) < 0 ∨ cl270.slots.size ≤ ((0 : Int32)).toNatClampNeg) := inb_of S270 ⟨by decide, by decide⟩
  obtain ⟨T270, h270, X270, e270, W270, st270⟩ := stB X264 hx hZ e264 Ar270 (j := (0 : Int32)) hin270 (g := (mkF m 6 #[iv (251 : Int32), iv (1 : Int32)] [(.int (-1 : Int32)), (.int (0 : Int32)), (.ref b265), (.ref b265)])) rfl rfl (hb hby d7_6)
  refine own_via (fun t k => st270 t k) ?_
  have V271 : Arv Z h270 b265 k264 .byte (3 : Int32) [(.int (-1 : Int32))] (.int (0 : Int32)) := Arv.set Ar270 qq270 S270 M270 H270 G270 (by decide) W270 0 rfl (Nat.le_of_ble_eq_true rfl)
  have N270 := Fr.snoc X270 N0 g266
  show own_Goes p e below (T270.setTop (mkF m 7 #[iv (251 : Int32), iv (1 : Int32)] [(.ref b265)])) _
  refine own_via (fun t k => XS.dup X270.here hx rfl (hb hby d7_7) rfl rfl (XS.iconst X270.here hx rfl (hb hby d7_8) (XS.iloadN X270.here hx rfl (hb hby d7_9) rfl (XS.i2b X270.here hx rfl (hb hby d7_10) rfl k)))) ?_
  show own_Goes p e below (T270.setTop (mkF m 11 #[iv (251 : Int32), iv (1 : Int32)] [(.int (-5 : Int32)), (.int (1 : Int32)), (.ref b265), (.ref b265)])) _
  have V272 : Arv Z h270 b265 k264 .byte (3 : Int32) [(.int (-1 : Int32)), (.int (0 : Int32))] (.int (0 : Int32)) := V271.pad (pad_rep [(.int (-1 : Int32))] (.int (0 : Int32)) 1)
  obtain ⟨cl273, Ar273, qq273, S273, M273, H273, G273⟩ := id (V272)
  have hin273 : ¬ ((1 : Int32) < 0 ∨ cl273.slots.size ≤ ((1 : Int32)).toNatClampNeg) := inb_of S273 ⟨by decide, by decide⟩
  obtain ⟨T273, h273, X273, e273, W273, st273⟩ := stB X270 hx hZ e270 Ar273 (j := (1 : Int32)) hin273 (g := (mkF m 11 #[iv (251 : Int32), iv (1 : Int32)] [(.int (-5 : Int32)), (.int (1 : Int32)), (.ref b265), (.ref b265)])) rfl rfl (hb hby d7_11)
  refine own_via (fun t k => st273 t k) ?_
  have V274 : Arv Z h273 b265 k264 .byte (3 : Int32) [(.int (-1 : Int32)), (.int (-5 : Int32))] (.int (0 : Int32)) := Arv.set Ar273 qq273 S273 M273 H273 G273 (by decide) W273 1 rfl (Nat.le_of_ble_eq_true rfl)
  have N273 := Fr.snoc X273 N270 g266
  show own_Goes p e below (T273.setTop (mkF m 12 #[iv (251 : Int32), iv (1 : Int32)] [(.ref b265)])) _
  refine own_via (fun t k => XS.dup X273.here hx rfl (hb hby d7_12) rfl rfl (XS.iconst X273.here hx rfl (hb hby d7_13) (XS.iloadN X273.here hx rfl (hb hby d7_14) rfl (XS.i2b X273.here hx rfl (hb hby d7_15) rfl k)))) ?_
  show own_Goes p e below (T273.setTop (mkF m 16 #[iv (251 : Int32), iv (1 : Int32)] [(.int (1 : Int32)), (.int (2 : Int32)), (.ref b265), (.ref b265)])) _
  have V275 : Arv Z h273 b265 k264 .byte (3 : Int32) [(.int (-1 : Int32)), (.int (-5 : Int32)), (.int (0 : Int32))] (.int (0 : Int32)) := V274.pad (pad_rep [(.int (-1 : Int32)), (.int (-5 : Int32))] (.int (0 : Int32)) 1)
  obtain ⟨cl276, Ar276, qq276, S276, M276, H276, G276⟩ := id (V275)
  have hin276 : ¬ ((2 : Int32) < 0 ∨ cl276.slots.size ≤ ((2 : Int32)).toNatClampNeg) := inb_of S276 ⟨by decide, by decide⟩
  obtain ⟨T276, h276, X276, e276, W276, st276⟩ := stB X273 hx hZ e273 Ar276 (j := (2 : Int32)) hin276 (g := (mkF m 16 #[iv (251 : Int32), iv (1 : Int32)] [(.int (1 : Int32)), (.int (2 : Int32)), (.ref b265), (.ref b265)])) rfl rfl (hb hby d7_16)
  refine own_via (fun t k => st276 t k) ?_
  have V277 : Arv Z h276 b265 k264 .byte (3 : Int32) [(.int (-1 : Int32)), (.int (-5 : Int32)), (.int (1 : Int32))] (.int (0 : Int32)) := Arv.set Ar276 qq276 S276 M276 H276 G276 (by decide) W276 2 rfl (Nat.le_of_ble_eq_true rfl)
  have N276 := Fr.snoc X276 N273 g266
  show own_Goes p e below (T276.setTop (mkF m 17 #[iv (251 : Int32), iv (1 : Int32)] [(.ref b265)])) _
  obtain ⟨fs, hr, hrun, hended, hW, hsame⟩ := X276.leave (v := some (.ref b265)) (fun h => by rw [Bd.returns] at h; cases h)
  refine own_end (t := T276.setFrames fs) ?_ ⟨_, hrun, hended, _, _, rfl, ?_, ⟨_, rfl⟩, hW, hsame.mono (by decide) (by decide)⟩
  · jvm_step X276.here [X276.here.top, hx, (hb hby d7_17), X276.method', Bd.returns, Value.isRef, FieldType.isReference]
    first | (intro acts; rw [hr _ acts rfl rfl rfl]) | rw [hr _ _ rfl rfl rfl]
    exact Steps.refl _
  · show Q5 Z  h0 n0 _ T276.heap _
    rw [e276]
    exact ⟨b265, k264, rfl, N276, (((((Keep.refl h0 []).ext E264).wr W270 (Or.inr B267)).wr W273 (Or.inr B267)).wr W276 (Or.inr B267)), B267, V277⟩
theorem pd_4 : parseMethodDescriptor "(II)[B" = some ⟨[.int, .int], some (.array .byte)⟩ := by decide +kernel
theorem d6_12 : decode prog_61_method_5_code 12 = .ok (.areturn, 1) := by decide +kernel
theorem ef_6 (m : MethodId) (x0 : Addr) : entryFrame m #[(.ref x0)] 1 = mkF m 0 #[rv x0] [] := by first | (simp [entryFrame, mkF, argsToLocals, Value.category]; done) | rfl
def Q6 (Z : State) (a224 : Addr) (p229 : Int32) (a225 : Addr) (a227 : Addr) (p230 : Int32) (p231 : Int32) (h0 : Heap) (n0 : Nat) (v : Option Value) (h : Heap) (L : List Loc) : Prop := (∃ (b279 : Addr) (k280 : ClassId), v = some (.ref b279) ∧ Fr n0 L ∧ Keep h0 h [a224] ∧ Exa Z h a224 zs1 ∧ Fld Z h a224 zs1 "refusedWill" zs4 (.ref a225) ∧ Fld Z h a224 zs1 "refusedDo" zs4 (.ref a227) ∧ Fld Z h a224 zs1 "echoOffered" "Z" (.int (1 : Int32)) ∧ Fld Z h a224 zs1 "gmcpOffered" "Z" (.int p230) ∧ Fld Z h a224 zs1 "gmcpOn" "Z" (.int p231) ∧ h0.size ≤ b279 ∧ Arv Z h b279 k280 .byte (3 : Int32) [(.int (-1 : Int32)), (.int (-5 : Int32)), (.int (1 : Int32))] (.int (0 : Int32)))
set_option maxRecDepth 65536 in
set_option maxHeartbeats 40000000 in
theorem rm6 (l : Launch) (Z : State) (a0 : Array Value) (hw : ∀ d ∈ tables_1, d.before a0 Z = true) (ws : List Jvm.Cond) (a224 : Addr) (p229 : Int32) (a225 : Addr) (a227 : Addr) (p230 : Int32) (p231 : Int32) (h0 : Heap) (n0 : Nat) (O0 : Old Z n0 h0) (pF_a224_echoOffered : Fld Z h0 a224 zs1 "echoOffered" "Z" (.int p229)) (pE_a224 : Exa Z h0 a224 zs1) (pG_a224 : n0 ≤ a224) (pF_a224_refusedWill : Fld Z h0 a224 zs1 "refusedWill" zs4 (.ref a225)) (pF_a224_refusedDo : Fld Z h0 a224 zs1 "refusedDo" zs4 (.ref a227)) (pF_a224_gmcpOffered : Fld Z h0 a224 zs1 "gmcpOffered" "Z" (.int p230)) (pF_a224_gmcpOn : Fld Z h0 a224 zs1 "gmcpOn" "Z" (.int p231)) :
    MetFree l (⟨zs1, "offerEcho", "()[B"⟩ : MethodName) (head1 (Jvm.Cond.code (⟨zs1, "offerEcho", "()[B"⟩ : MethodName) prog_61_method_5_code 1 (some (.array .byte)) :: ws) ({ frames := 1, cells := 1, slots := 3, locals := 13 } : Room)) (fun a U => a = #[(.ref a224)] ∧ Z.Warmed39 U.vm ∧ U.heap = h0) (fun _ _ _ _ _ => True) (fun _ U o U' => ∃ v L, o = .returned v ∧ Q6 Z a224 p229 a225 a227 p230 p231 h0 n0 v U'.heap L ∧ FrameEnd U o U' L ({ frames := 1, cells := 1, slots := 3, locals := 13 } : Room).cells ({ frames := 1, cells := 1, slots := 3, locals := 13 } : Room).slots) := by
  refine MetFree.of_bodySF (plainFor_of_name pn_2) hisR ?_
  intro p e s m args below meth c s₁ Bd hml0 hP hK
  obtain ⟨rfl, hZ, hh⟩ := hP
  have hx := Bd.exec
  have hby := Bd.bytes
  have hml : c.maxLocals = 1 := hml0
  have hown : s.vm.findClass zs1 = some m.cls := findClass_of_methodNamed Bd.named
  have hnm := (name_of_methodNamed Bd.named Bd.method).1
  have X0 : Stand p l e ({ frames := 1, cells := 1, slots := 3, locals := 13 } : Room) s m #[(.ref a224)] below meth c s₁ [] 0 0 := Stand.of_body Bd
  have e0 : s₁.heap = h0 := by rw [← hh, Bd.state]; rfl
  have N0 := Fr.nil n0
  refine own_out ?_
  refine own_via (fun t k => castTop (ef_6 m a224) (XS.aloadN X0.here hx rfl (hb hby d6_0) rfl rfl (XS.iconst X0.here hx rfl (hb hby d6_1) k))) ?_
  show own_Goes p e below (s₁.setTop (mkF m 2 #[rv a224] [(.int (1 : Int32)), (.ref a224)])) _
  obtain ⟨T243, h243, X243, e243, W243, st243⟩ := putFN X0 hx hZ hown (wd hw 40 rfl) Via.refl e0 pF_a224_echoOffered pE_a224 (Or.inl (wd hw 41 rfl)) (wd hw 1 rfl) (ty := .boolean) (v' := (.int (1 : Int32))) (by decide) rfl (by decide) (g := (mkF m 2 #[rv a224] [(.int (1 : Int32)), (.ref a224)])) rfl rfl (hb hby d6_2)
  refine own_via (fun t k => st243 t k) ?_
  have Fw243 : Fld Z h243 a224 zs1 "echoOffered" "Z" (.int (1 : Int32)) := pF_a224_echoOffered.same W243
  have N243 := Fr.snoc X243 N0 pG_a224
  show own_Goes p e below (T243.setTop (mkF m 5 #[rv a224] [])) _
  refine own_via (fun t k => XS.sipush X243.here hx rfl (hb hby d6_5) (XS.iconst X243.here hx rfl (hb hby d6_8) k)) ?_
  have O278 : Old Z n0 h243 := (O0.wr W243 pG_a224)
  obtain ⟨_, T244, _, X244, hQ244, st244⟩ := own_cs X243 hx hZ hown (wd hw 42 rfl) (wd hw 43 rfl) (wd hw 44 rfl) (wd hw 2 rfl) (by decide) (rm5 l Z a0 hw []  h243 n0 O278 ) e243 (g := (mkF m 9 #[rv a224] [(.int (1 : Int32)), (.int (251 : Int32))])) rfl (by rw [hml]; rfl) (rest := []) (W := 0) (lenOf pd_4 rfl) rfl (by show 2 * 0 + _ ≤ _; exact Nat.le_of_eq rfl) (hb hby d6_9) (by decide) (by decide) (by decide) (by decide)
  obtain ⟨h244, e244⟩ : ∃ z, T244.heap = z := ⟨_, rfl⟩
  rw [e244] at hQ244
  obtain ⟨b279, k280, rfl, Nq244, K244, bx281, vx282⟩ := hQ244
  have N244 := Fr.app N243 Nq244
  have g283 : n0 ≤ b279 := Nat.le_trans (own_old O278) bx281
  have Z285 : h0.size ≤ h243.size := (Nat.le_trans (Nat.le_refl _) (Nat.le_of_eq W243.size.symm))
  have B284 : h0.size ≤ b279 := Nat.le_trans Z285 bx281
  refine own_via (fun t k => st244 t k) ?_
  obtain ⟨fs, hr, hrun, hended, hW, hsame⟩ := X244.leave (v := some (.ref b279)) (fun h => by rw [Bd.returns] at h; cases h)
  refine own_end (t := T244.setFrames fs) ?_ ⟨_, hrun, hended, _, _, rfl, ?_, ⟨_, rfl⟩, hW, hsame.mono (by decide) (by decide)⟩
  · jvm_step X244.here [X244.here.top, hx, (hb hby d6_12), X244.method', Bd.returns, Value.isRef, FieldType.isReference]
    first | (intro acts; rw [hr _ acts rfl rfl rfl]) | rw [hr _ _ rfl rfl rfl]
    exact Steps.refl _
  have E286 : Exa Z h244 a224 zs1 := ((pE_a224.wr W243).keep K244)
  have F287 : Fld Z h244 a224 zs1 "refusedWill" zs4 (.ref a225) := ((pF_a224_refusedWill.other W243 (Or.inr (slot_ne (Or.inr (wd hw 32 rfl)) (Or.inl (wd hw 41 rfl)) (by decide) (t := (.object zs2)) (t' := .boolean) (by decide) (by decide)))).keep K244 nin0)
  have F288 : Fld Z h244 a224 zs1 "refusedDo" zs4 (.ref a227) := ((pF_a224_refusedDo.other W243 (Or.inr (slot_ne (Or.inr (wd hw 34 rfl)) (Or.inl (wd hw 41 rfl)) (by decide) (t := (.object zs2)) (t' := .boolean) (by decide) (by decide)))).keep K244 nin0)
  have F289 : Fld Z h244 a224 zs1 "echoOffered" "Z" (.int (1 : Int32)) := (Fw243.keep K244 nin0)
  have F290 : Fld Z h244 a224 zs1 "gmcpOffered" "Z" (.int p230) := ((pF_a224_gmcpOffered.other W243 (Or.inr (slot_ne (Or.inl (wd hw 93 rfl)) (Or.inl (wd hw 41 rfl)) (by decide) (t := .boolean) (t' := .boolean) (by decide) (by decide)))).keep K244 nin0)
  have F291 : Fld Z h244 a224 zs1 "gmcpOn" "Z" (.int p231) := ((pF_a224_gmcpOn.other W243 (Or.inr (slot_ne (Or.inl (wd hw 95 rfl)) (Or.inl (wd hw 41 rfl)) (by decide) (t := .boolean) (t' := .boolean) (by decide) (by decide)))).keep K244 nin0)
  · show Q6 Z a224 p229 a225 a227 p230 p231 h0 n0 _ T244.heap _
    rw [e244]
    exact ⟨b279, k280, rfl, N244, (((Keep.refl h0 [a224]).wr W243 (Or.inl (List.mem_of_getElem? (i := 0) rfl))).trans K244 all0), E286, F287, F288, F289, F290, F291, B284, vx282⟩
theorem pd_5 : parseMethodDescriptor "()[B" = some ⟨[], some (.array .byte)⟩ := by decide +kernel
theorem d8_0 : decode method_2_code 0 = .ok (.aload_n 0, 1) := by decide +kernel
theorem d8_1 : decode method_2_code 1 = .ok (.ifnull 36, 3) := by decide +kernel
theorem d8_4 : decode method_2_code 4 = .ok (.aload_n 0, 1) := by decide +kernel
theorem d8_5 : decode method_2_code 5 = .ok (.arraylength, 1) := by decide +kernel
theorem d8_6 : decode method_2_code 6 = .ok (.iconst 3, 1) := by decide +kernel
theorem d8_7 : decode method_2_code 7 = .ok (.if_icmp .ne 30, 3) := by decide +kernel
theorem d8_10 : decode method_2_code 10 = .ok (.aload_n 0, 1) := by decide +kernel
theorem d8_11 : decode method_2_code 11 = .ok (.iconst 0, 1) := by decide +kernel
theorem d8_12 : decode method_2_code 12 = .ok (.baload, 1) := by decide +kernel
theorem d8_13 : decode method_2_code 13 = .ok (.iconst (-1), 1) := by decide +kernel
theorem d8_14 : decode method_2_code 14 = .ok (.if_icmp .ne 23, 3) := by decide +kernel
theorem d8_17 : decode method_2_code 17 = .ok (.aload_n 0, 1) := by decide +kernel
theorem d8_18 : decode method_2_code 18 = .ok (.iconst 1, 1) := by decide +kernel
theorem d8_19 : decode method_2_code 19 = .ok (.baload, 1) := by decide +kernel
theorem d8_20 : decode method_2_code 20 = .ok (.iload_n 1, 1) := by decide +kernel
theorem d8_21 : decode method_2_code 21 = .ok (.i2b, 1) := by decide +kernel
theorem d8_22 : decode method_2_code 22 = .ok (.if_icmp .ne 15, 3) := by decide +kernel
theorem d8_25 : decode method_2_code 25 = .ok (.aload_n 0, 1) := by decide +kernel
theorem d8_26 : decode method_2_code 26 = .ok (.iconst 2, 1) := by decide +kernel
theorem d8_27 : decode method_2_code 27 = .ok (.baload, 1) := by decide +kernel
theorem d8_28 : decode method_2_code 28 = .ok (.iload_n 2, 1) := by decide +kernel
theorem d8_29 : decode method_2_code 29 = .ok (.i2b, 1) := by decide +kernel
theorem d8_30 : decode method_2_code 30 = .ok (.if_icmp .ne 7, 3) := by decide +kernel
theorem d8_33 : decode method_2_code 33 = .ok (.iconst 1, 1) := by decide +kernel
theorem d8_34 : decode method_2_code 34 = .ok (.goto 4, 3) := by decide +kernel
theorem d8_38 : decode method_2_code 38 = .ok (.ireturn, 1) := by decide +kernel
theorem ef_7 (m : MethodId) (x0 : Addr) (x1 : Int32) (x2 : Int32) : entryFrame m #[(.ref x0), (.int x1), (.int x2)] 3 = mkF m 0 #[rv x0, iv x1, iv x2] [] := by first | (simp [entryFrame, mkF, argsToLocals, Value.category]; done) | rfl
theorem pn_3 : plainName "com/example/hearthkey/hearthkey/gateway/transport/TelnetOptionsOfferEchoPinLaw" = true := by first | (simp [plainName, overriddenIn]; done) | decide +kernel
def Q7 (Z : State) (a324 : Addr) (k339 : ClassId) (h0 : Heap) (n0 : Nat) (v : Option Value) (h : Heap) (L : List Loc) : Prop := v = some (.int (1 : Int32)) ∧ Fr n0 L ∧ h = h0
set_option maxRecDepth 65536 in
set_option maxHeartbeats 40000000 in
theorem rm7 (l : Launch) (Z : State) (a0 : Array Value) (hw : ∀ d ∈ tables_1, d.before a0 Z = true) (ws : List Jvm.Cond) (a324 : Addr) (k339 : ClassId) (h0 : Heap) (n0 : Nat) (O0 : Old Z n0 h0) (pL_a324 : own_Len Z h0 a324 .byte (3 : Int32)) (pV_a324 : Arv Z h0 a324 k339 .byte (3 : Int32) [(.int (-1 : Int32)), (.int (-5 : Int32)), (.int (1 : Int32))] (.int (0 : Int32))) :
    MetFree l (⟨zs3, "isCmd", "([BII)Z"⟩ : MethodName) (head1 (Jvm.Cond.code (⟨zs3, "isCmd", "([BII)Z"⟩ : MethodName) method_2_code 3 (some .boolean) :: ws) ({ frames := 0, cells := 0, slots := 0, locals := 0 } : Room)) (fun a U => a = #[(.ref a324), (.int (251 : Int32)), (.int (1 : Int32))] ∧ Z.Warmed39 U.vm ∧ U.heap = h0) (fun _ _ _ _ _ => True) (fun _ U o U' => ∃ v L, o = .returned v ∧ Q7 Z a324 k339 h0 n0 v U'.heap L ∧ FrameEnd U o U' L ({ frames := 0, cells := 0, slots := 0, locals := 0 } : Room).cells ({ frames := 0, cells := 0, slots := 0, locals := 0 } : Room).slots) := by
  refine MetFree.of_bodySF (plainFor_of_name pn_3) hisR ?_
  intro p e s m args below meth c s₁ Bd hml0 hP hK
  obtain ⟨rfl, hZ, hh⟩ := hP
  have hx := Bd.exec
  have hby := Bd.bytes
  have hml : c.maxLocals = 3 := hml0
  have hown : s.vm.findClass zs3 = some m.cls := findClass_of_methodNamed Bd.named
  have hnm := (name_of_methodNamed Bd.named Bd.method).1
  have X0 : Stand p l e ({ frames := 0, cells := 0, slots := 0, locals := 0 } : Room) s m #[(.ref a324), (.int (251 : Int32)), (.int (1 : Int32))] below meth c s₁ [] 0 0 := Stand.of_body Bd
  have e0 : s₁.heap = h0 := by rw [← hh, Bd.state]; rfl
  have N0 := Fr.nil n0
  refine own_out ?_
  refine own_via (fun t k => castTop (ef_7 m a324 (251 : Int32) (1 : Int32)) (XS.aloadN X0.here hx rfl (hb hby d8_0) rfl rfl (XS.ifnullNo X0.here hx rfl (hb hby d8_1) rfl (XS.aloadN X0.here hx rfl (hb hby d8_4) rfl rfl k)))) ?_
  show own_Goes p e below (s₁.setTop (mkF m 5 #[rv a324, iv (251 : Int32), iv (1 : Int32)] [(.ref a324)])) _
  obtain ⟨_, _, _, V345⟩ := id (pL_a324)
  obtain ⟨cl345, Ar345, -, S345, M345, -, -⟩ := id (V345)
  refine own_via (fun t k => X0.arraylength hx (by rw [e0]; exact Ar345.1) (State.isArrayOf_alike hZ.alike Ar345.2.1) (g := (mkF m 5 #[rv a324, iv (251 : Int32), iv (1 : Int32)] [(.ref a324)])) rfl rfl (hb hby d8_5) t k) ?_
  rw [len_of S345 M345]
  show own_Goes p e below (s₁.setTop (mkF m 6 #[rv a324, iv (251 : Int32), iv (1 : Int32)] [(.int (3 : Int32))])) _
  refine own_via (fun t k => XS.iconst X0.here hx rfl (hb hby d8_6) (XS.icmpNo X0.here hx rfl (hb hby d8_7) rfl (teq (by decide : (3 : Int32) = (3 : Int32))).2 (XS.aloadN X0.here hx rfl (hb hby d8_10) rfl rfl (XS.iconst X0.here hx rfl (hb hby d8_11) k)))) ?_
  show own_Goes p e below (s₁.setTop (mkF m 12 #[rv a324, iv (251 : Int32), iv (1 : Int32)] [(.int (0 : Int32)), (.ref a324)])) _
  obtain ⟨cl346, Ar346, qq346, S346, M346, H346, G346⟩ := id (pV_a324)
  have hin346 : ¬ ((0 : Int32) < 0 ∨ cl346.slots.size ≤ ((0 : Int32)).toNatClampNeg) := inb_of S346 ⟨by decide, by decide⟩
  refine own_via (fun t k => X0.baloadBytes hx (j := (0 : Int32)) (v := (.int (-1 : Int32))) (by rw [e0]; exact Ar346.1) (State.isArrayOf_alike hZ.alike Ar346.2.1) Ar346.2.2 hin346 (Has.at H346 hin346 rfl) (g := (mkF m 12 #[rv a324, iv (251 : Int32), iv (1 : Int32)] [(.int (0 : Int32)), (.ref a324)])) rfl rfl (hb hby d8_12) t (XS.iconst X0.here hx rfl (hb hby d8_13) (XS.icmpNo X0.here hx rfl (hb hby d8_14) rfl (teq (by decide : (-1 : Int32) = (-1 : Int32))).2 (XS.aloadN X0.here hx rfl (hb hby d8_17) rfl rfl (XS.iconst X0.here hx rfl (hb hby d8_18) k))))) ?_
  show own_Goes p e below (s₁.setTop (mkF m 19 #[rv a324, iv (251 : Int32), iv (1 : Int32)] [(.int (1 : Int32)), (.ref a324)])) _
  obtain ⟨cl347, Ar347, qq347, S347, M347, H347, G347⟩ := id (pV_a324)
  have hin347 : ¬ ((1 : Int32) < 0 ∨ cl347.slots.size ≤ ((1 : Int32)).toNatClampNeg) := inb_of S347 ⟨by decide, by decide⟩
  refine own_via (fun t k => X0.baloadBytes hx (j := (1 : Int32)) (v := (.int (-5 : Int32))) (by rw [e0]; exact Ar347.1) (State.isArrayOf_alike hZ.alike Ar347.2.1) Ar347.2.2 hin347 (Has.at H347 hin347 rfl) (g := (mkF m 19 #[rv a324, iv (251 : Int32), iv (1 : Int32)] [(.int (1 : Int32)), (.ref a324)])) rfl rfl (hb hby d8_19) t (XS.iloadN X0.here hx rfl (hb hby d8_20) rfl (XS.i2b X0.here hx rfl (hb hby d8_21) rfl (XS.icmpNo X0.here hx rfl (hb hby d8_22) rfl (teq (by decide : (-5 : Int32) = (-5 : Int32))).2 (XS.aloadN X0.here hx rfl (hb hby d8_25) rfl rfl (XS.iconst X0.here hx rfl (hb hby d8_26) k)))))) ?_
  show own_Goes p e below (s₁.setTop (mkF m 27 #[rv a324, iv (251 : Int32), iv (1 : Int32)] [(.int (2 : Int32)), (.ref a324)])) _
  obtain ⟨cl348, Ar348, qq348, S348, M348, H348, G348⟩ := id (pV_a324)
  have hin348 : ¬ ((2 : Int32) < 0 ∨ cl348.slots.size ≤ ((2 : Int32)).toNatClampNeg) := inb_of S348 ⟨by decide, by decide⟩
  refine own_via (fun t k => X0.baloadBytes hx (j := (2 : Int32)) (v := (.int (1 : Int32))) (by rw [e0]; exact Ar348.1) (State.isArrayOf_alike hZ.alike Ar348.2.1) Ar348.2.2 hin348 (Has.at H348 hin348 rfl) (g := (mkF m 27 #[rv a324, iv (251 : Int32), iv (1 : Int32)] [(.int (2 : Int32)), (.ref a324)])) rfl rfl (hb hby d8_27) t (XS.iloadN X0.here hx rfl (hb hby d8_28) rfl (XS.i2b X0.here hx rfl (hb hby d8_29) rfl (XS.icmpNo X0.here hx rfl (hb hby d8_30) rfl (teq (by decide : (1 : Int32) = (1 : Int32))).2 (XS.iconst X0.here hx rfl (hb hby d8_33) (XS.goto X0.here hx rfl (pc0 := 34) (pc' := 38) rfl (hb hby d8_34) (by decide) (by decide) k)))))) ?_
  show own_Goes p e below (s₁.setTop (mkF m 38 #[rv a324, iv (251 : Int32), iv (1 : Int32)] [(.int (1 : Int32))])) _
  obtain ⟨fs, hr, hrun, hended, hW, hsame⟩ := X0.leave (v := some (.int (1 : Int32))) (fun h => by rw [Bd.returns] at h; cases h)
  refine own_end (t := s₁.setFrames fs) ?_ ⟨_, hrun, hended, _, _, rfl, ?_, ⟨_, rfl⟩, hW, hsame.mono (by decide) (by decide)⟩
  · exact retN X0 hx (t := .boolean) Bd.returns (by simp) (hb hby d8_38) hr
  · show Q7 Z a324 k339 h0 n0 _ s₁.heap _
    rw [e0]
    exact ⟨rfl, N0, rfl⟩
theorem pd_6 : parseMethodDescriptor "([BII)Z" = some ⟨[(.array .byte), .int, .int], some .boolean⟩ := by decide +kernel
theorem d9_0 : decode prog_61_method_2_code 0 = .ok (.iload_n 1, 1) := by decide +kernel
theorem d9_1 : decode prog_61_method_2_code 1 = .ok (.sipush 253, 3) := by decide +kernel
theorem d9_4 : decode prog_61_method_2_code 4 = .ok (.if_icmp .ne 19, 3) := by decide +kernel
theorem d9_7 : decode prog_61_method_2_code 7 = .ok (.iload_n 2, 1) := by decide +kernel
theorem d9_8 : decode prog_61_method_2_code 8 = .ok (.iconst 1, 1) := by decide +kernel
theorem d9_9 : decode prog_61_method_2_code 9 = .ok (.if_icmp .ne 14, 3) := by decide +kernel
theorem d9_12 : decode prog_61_method_2_code 12 = .ok (.aload_n 0, 1) := by decide +kernel
theorem d9_13 : decode prog_61_method_2_code 13 = .ok (.getfield 21, 3) := by decide +kernel
theorem d9_16 : decode prog_61_method_2_code 16 = .ok (.ifCond .eq 7, 3) := by decide +kernel
theorem d9_19 : decode prog_61_method_2_code 19 = .ok (.getstatic 25, 3) := by decide +kernel
theorem d9_22 : decode prog_61_method_2_code 22 = .ok (.areturn, 1) := by decide +kernel
theorem d9_23 : decode prog_61_method_2_code 23 = .ok (.iload_n 2, 1) := by decide +kernel
theorem d9_24 : decode prog_61_method_2_code 24 = .ok (.sipush 201, 3) := by decide +kernel
theorem d9_27 : decode prog_61_method_2_code 27 = .ok (.if_icmp .ne 48, 3) := by decide +kernel
theorem d9_30 : decode prog_61_method_2_code 30 = .ok (.iload_n 1, 1) := by decide +kernel
theorem d9_31 : decode prog_61_method_2_code 31 = .ok (.sipush 253, 3) := by decide +kernel
theorem d9_34 : decode prog_61_method_2_code 34 = .ok (.if_icmp .eq 10, 3) := by decide +kernel
theorem d9_44 : decode prog_61_method_2_code 44 = .ok (.aload_n 0, 1) := by decide +kernel
theorem d9_45 : decode prog_61_method_2_code 45 = .ok (.getfield 29, 3) := by decide +kernel
theorem d9_48 : decode prog_61_method_2_code 48 = .ok (.ifCond .ne 10, 3) := by decide +kernel
theorem d9_51 : decode prog_61_method_2_code 51 = .ok (.aload_n 0, 1) := by decide +kernel
theorem d9_52 : decode prog_61_method_2_code 52 = .ok (.getfield 32, 3) := by decide +kernel
theorem d9_55 : decode prog_61_method_2_code 55 = .ok (.ifCond .eq 20, 3) := by decide +kernel
theorem d9_75 : decode prog_61_method_2_code 75 = .ok (.iload_n 1, 1) := by decide +kernel
theorem d9_76 : decode prog_61_method_2_code 76 = .ok (.sipush 251, 3) := by decide +kernel
theorem d9_79 : decode prog_61_method_2_code 79 = .ok (.if_icmp .ne 29, 3) := by decide +kernel
theorem d9_108 : decode prog_61_method_2_code 108 = .ok (.iload_n 1, 1) := by decide +kernel
theorem d9_109 : decode prog_61_method_2_code 109 = .ok (.sipush 253, 3) := by decide +kernel
theorem d9_112 : decode prog_61_method_2_code 112 = .ok (.if_icmp .ne 29, 3) := by decide +kernel
theorem d9_115 : decode prog_61_method_2_code 115 = .ok (.aload_n 0, 1) := by decide +kernel
theorem d9_116 : decode prog_61_method_2_code 116 = .ok (.getfield 18, 3) := by decide +kernel
theorem d9_119 : decode prog_61_method_2_code 119 = .ok (.iload_n 2, 1) := by decide +kernel
theorem d9_120 : decode prog_61_method_2_code 120 = .ok (.invokevirtual 39, 3) := by decide +kernel
theorem d12_0 : decode jdk_92_method_26_code 0 = .ok (.iload_n 1, 1) := by decide +kernel
theorem d12_1 : decode jdk_92_method_26_code 1 = .ok (.ifCond .ge 30, 3) := by decide +kernel
theorem d12_31 : decode jdk_92_method_26_code 31 = .ok (.aload_n 0, 1) := by decide +kernel
theorem d12_32 : decode jdk_92_method_26_code 32 = .ok (.invokevirtual 56, 3) := by decide +kernel
theorem d13_0 : decode jdk_92_method_2_code 0 = .ok (.getstatic 3, 3) := by decide +kernel
theorem d13_3 : decode jdk_92_method_2_code 3 = .ok (.ifCond .ne 34, 3) := by decide +kernel
theorem d13_37 : decode jdk_92_method_2_code 37 = .ok (.getstatic 3, 3) := by decide +kernel
theorem d13_40 : decode jdk_92_method_2_code 40 = .ok (.ifCond .ne 30, 3) := by decide +kernel
theorem d13_70 : decode jdk_92_method_2_code 70 = .ok (.getstatic 3, 3) := by decide +kernel
theorem d13_73 : decode jdk_92_method_2_code 73 = .ok (.ifCond .ne 37, 3) := by decide +kernel
theorem d13_110 : decode jdk_92_method_2_code 110 = .ok (.return_, 1) := by decide +kernel
theorem ef_8 (m : MethodId) (x0 : Addr) : entryFrame m #[(.ref x0)] 1 = mkF m 0 #[rv x0] [] := by first | (simp [entryFrame, mkF, argsToLocals, Value.category]; done) | rfl
def Q8 (Z : State) (a466 : Addr) (h0 : Heap) (n0 : Nat) (v : Option Value) (h : Heap) (L : List Loc) : Prop := v = none ∧ Fr n0 L ∧ h = h0
set_option maxRecDepth 65536 in
set_option maxHeartbeats 40000000 in
theorem rm8 (l : Launch) (Z : State) (a0 : Array Value) (hw : ∀ d ∈ tables_1, d.before a0 Z = true) (ws : List Jvm.Cond) (a466 : Addr) (h0 : Heap) (n0 : Nat) (O0 : Old Z n0 h0) (S_BitSet__assertionsDisabled : Sta Z Z.heap zs2 zs6 "Z" (.int (1 : Int32))) :
    MetFree l (⟨zs2, zs8, "()V"⟩ : MethodName) (head1 (Jvm.Cond.code (⟨zs2, zs8, "()V"⟩ : MethodName) jdk_92_method_2_code 1 none :: ws) ({ frames := 0, cells := 0, slots := 0, locals := 0 } : Room)) (fun a U => a = #[(.ref a466)] ∧ Z.Warmed39 U.vm ∧ U.heap = h0) (fun _ _ _ _ _ => True) (fun _ U o U' => ∃ v L, o = .returned v ∧ Q8 Z a466 h0 n0 v U'.heap L ∧ FrameEnd U o U' L ({ frames := 0, cells := 0, slots := 0, locals := 0 } : Room).cells ({ frames := 0, cells := 0, slots := 0, locals := 0 } : Room).slots) := by
  refine MetFree.of_bodySF (plainFor_of_name pn_1) hisR ?_
  intro p e s m args below meth c s₁ Bd hml0 hP hK
  obtain ⟨rfl, hZ, hh⟩ := hP
  have hx := Bd.exec
  have hby := Bd.bytes
  have hml : c.maxLocals = 1 := hml0
  have hown : s.vm.findClass zs2 = some m.cls := findClass_of_methodNamed Bd.named
  have hnm := (name_of_methodNamed Bd.named Bd.method).1
  have X0 : Stand p l e ({ frames := 0, cells := 0, slots := 0, locals := 0 } : Room) s m #[(.ref a466)] below meth c s₁ [] 0 0 := Stand.of_body Bd
  have e0 : s₁.heap = h0 := by rw [← hh, Bd.state]; rfl
  have N0 := Fr.nil n0
  refine own_out ?_
  refine own_via (fun t k => castTop (ef_8 m a466) k) ?_
  obtain ⟨T499, X499, e499, st499⟩ := getS2 X0 hx hZ hown (host := "") (Or.inl (wd hw 76 rfl)) Via.refl e0 (S_BitSet__assertionsDisabled.ext O0.2) (g := (mkF m 0 #[rv a466] [])) rfl (hb hby d13_0)
  refine own_via (fun t k => st499 t (XS.ifYes X499.here hx rfl (pc0 := 3) (pc' := 37) rfl (hb hby d13_3) rfl ((if0 _ _).trans (feq (by decide : ¬ ((1 : Int32) = (0 : Int32)))).2) (by decide) (by decide) k)) ?_
  obtain ⟨T500, X500, e500, st500⟩ := getS2 X499 hx hZ hown (host := "") (Or.inl (wd hw 76 rfl)) Via.refl e499 (S_BitSet__assertionsDisabled.ext O0.2) (g := (mkF m 37 #[rv a466] [])) rfl (hb hby d13_37)
  refine own_via (fun t k => st500 t (XS.ifYes X500.here hx rfl (pc0 := 40) (pc' := 70) rfl (hb hby d13_40) rfl ((if0 _ _).trans (feq (by decide : ¬ ((1 : Int32) = (0 : Int32)))).2) (by decide) (by decide) k)) ?_
  obtain ⟨T501, X501, e501, st501⟩ := getS2 X500 hx hZ hown (host := "") (Or.inl (wd hw 76 rfl)) Via.refl e500 (S_BitSet__assertionsDisabled.ext O0.2) (g := (mkF m 70 #[rv a466] [])) rfl (hb hby d13_70)
  refine own_via (fun t k => st501 t (XS.ifYes X501.here hx rfl (pc0 := 73) (pc' := 110) rfl (hb hby d13_73) rfl ((if0 _ _).trans (feq (by decide : ¬ ((1 : Int32) = (0 : Int32)))).2) (by decide) (by decide) k)) ?_
  obtain ⟨fs, hr, hrun, hended, hW, hsame⟩ := X501.leave (v := none) (fun _ => rfl)
  refine own_end (t := T501.setFrames fs) ?_ ⟨_, hrun, hended, _, _, rfl, ?_, ⟨_, rfl⟩, hW, hsame.mono (by decide) (by decide)⟩
  · exact X501.returnOut hx Bd.returns (hb hby d13_110) hr
  · show Q8 Z a466 h0 n0 _ T501.heap _
    rw [e501]
    exact ⟨rfl, N0, rfl⟩
theorem d12_35 : decode jdk_92_method_26_code 35 = .ok (.iload_n 1, 1) := by decide +kernel
theorem d12_36 : decode jdk_92_method_26_code 36 = .ok (.invokestatic 52, 3) := by decide +kernel
def Q9 (Z : State) (p504 : Int32) (h0 : Heap) (n0 : Nat) (v : Option Value) (h : Heap) (L : List Loc) : Prop := v = some (.int (p504 >>> ((6 : Int32) &&& 31))) ∧ Fr n0 L ∧ h = h0
set_option maxRecDepth 65536 in
set_option maxHeartbeats 40000000 in
theorem rm9 (l : Launch) (Z : State) (a0 : Array Value) (hw : ∀ d ∈ tables_1, d.before a0 Z = true) (ws : List Jvm.Cond) (p504 : Int32) (h0 : Heap) (n0 : Nat) (O0 : Old Z n0 h0) :
    MetFree l (⟨zs2, "wordIndex", "(I)I"⟩ : MethodName) (head1 (Jvm.Cond.code (⟨zs2, "wordIndex", "(I)I"⟩ : MethodName) jdk_92_method_1_code 1 (some .int) :: ws) ({ frames := 0, cells := 0, slots := 0, locals := 0 } : Room)) (fun a U => a = #[(.int p504)] ∧ Z.Warmed39 U.vm ∧ U.heap = h0) (fun _ _ _ _ _ => True) (fun _ U o U' => ∃ v L, o = .returned v ∧ Q9 Z p504 h0 n0 v U'.heap L ∧ FrameEnd U o U' L ({ frames := 0, cells := 0, slots := 0, locals := 0 } : Room).cells ({ frames := 0, cells := 0, slots := 0, locals := 0 } : Room).slots) := by
  refine MetFree.of_bodySF (plainFor_of_name pn_1) hisR ?_
  intro p e s m args below meth c s₁ Bd hml0 hP hK
  obtain ⟨rfl, hZ, hh⟩ := hP
  have hx := Bd.exec
  have hby := Bd.bytes
  have hml : c.maxLocals = 1 := hml0
  have hown : s.vm.findClass zs2 = some m.cls := findClass_of_methodNamed Bd.named
  have hnm := (name_of_methodNamed Bd.named Bd.method).1
  have X0 : Stand p l e ({ frames := 0, cells := 0, slots := 0, locals := 0 } : Room) s m #[(.int p504)] below meth c s₁ [] 0 0 := Stand.of_body Bd
  have e0 : s₁.heap = h0 := by rw [← hh, Bd.state]; rfl
  have N0 := Fr.nil n0
  refine own_out ?_
  refine own_via (fun t k => castTop (ef_1 m p504) (XS.iloadN X0.here hx rfl (hb hby d5_0) rfl (XS.bipush X0.here hx rfl (hb hby d5_1) (XS.ishr X0.here hx rfl (hb hby d5_3) rfl k)))) ?_
  show own_Goes p e below (s₁.setTop (mkF m 4 #[iv p504] [(.int (p504 >>> ((6 : Int32) &&& 31)))])) _
  obtain ⟨fs, hr, hrun, hended, hW, hsame⟩ := X0.leave (v := some (.int (p504 >>> ((6 : Int32) &&& 31)))) (fun h => by rw [Bd.returns] at h; cases h)
  refine own_end (t := s₁.setFrames fs) ?_ ⟨_, hrun, hended, _, _, rfl, ?_, ⟨_, rfl⟩, hW, hsame.mono (by decide) (by decide)⟩
  · exact retI X0 hx Bd.returns (hb hby d5_4) hr
  · show Q9 Z p504 h0 n0 _ s₁.heap _
    rw [e0]
    exact ⟨rfl, N0, rfl⟩
theorem d12_39 : decode jdk_92_method_26_code 39 = .ok (.istore_n 2, 1) := by decide +kernel
theorem d12_40 : decode jdk_92_method_26_code 40 = .ok (.iload_n 2, 1) := by decide +kernel
theorem d12_41 : decode jdk_92_method_26_code 41 = .ok (.aload_n 0, 1) := by decide +kernel
theorem d12_42 : decode jdk_92_method_26_code 42 = .ok (.getfield 7, 3) := by decide +kernel
theorem d12_45 : decode jdk_92_method_26_code 45 = .ok (.if_icmp .ge 22, 3) := by decide +kernel
theorem d12_67 : decode jdk_92_method_26_code 67 = .ok (.iconst 0, 1) := by decide +kernel
theorem d12_68 : decode jdk_92_method_26_code 68 = .ok (.ireturn, 1) := by decide +kernel
theorem ef_9 (m : MethodId) (x0 : Addr) (x1 : Int32) : entryFrame m #[(.ref x0), (.int x1)] 3 = mkF m 0 #[rv x0, iv x1, .unset] [] := by first | (simp [entryFrame, mkF, argsToLocals, Value.category]; done) | rfl
def Q10 (Z : State) (a433 : Addr) (p434 : Int32) (h0 : Heap) (n0 : Nat) (v : Option Value) (h : Heap) (L : List Loc) : Prop := v = some (.int (0 : Int32)) ∧ Fr n0 L ∧ h = h0
set_option maxRecDepth 65536 in
set_option maxHeartbeats 40000000 in
theorem rm10 (l : Launch) (Z : State) (a0 : Array Value) (hw : ∀ d ∈ tables_1, d.before a0 Z = true) (ws : List Jvm.Cond) (a433 : Addr) (p434 : Int32) (h0 : Heap) (n0 : Nat) (O0 : Old Z n0 h0) (pC459 : ¬ (p434 < (0 : Int32))) (S_BitSet__assertionsDisabled : Sta Z Z.heap zs2 zs6 "Z" (.int (1 : Int32))) (pE_a433 : Exa Z h0 a433 zs2) (pF_a433_wordsInUse : Fld Z h0 a433 zs2 "wordsInUse" "I" (.int (0 : Int32))) :
    MetFree l (⟨zs2, "get", "(I)Z"⟩ : MethodName) (head1 (Jvm.Cond.code (⟨zs2, "get", "(I)Z"⟩ : MethodName) jdk_92_method_26_code 3 (some .boolean) :: ws) ({ frames := 1, cells := 0, slots := 0, locals := 12 } : Room)) (fun a U => a = #[(.ref a433), (.int p434)] ∧ Z.Warmed39 U.vm ∧ U.heap = h0) (fun _ _ _ _ _ => True) (fun _ U o U' => ∃ v L, o = .returned v ∧ Q10 Z a433 p434 h0 n0 v U'.heap L ∧ FrameEnd U o U' L ({ frames := 1, cells := 0, slots := 0, locals := 12 } : Room).cells ({ frames := 1, cells := 0, slots := 0, locals := 12 } : Room).slots) := by
  refine MetFree.of_bodySF (plainFor_of_name pn_1) hisR ?_
  intro p e s m args below meth c s₁ Bd hml0 hP hK
  obtain ⟨rfl, hZ, hh⟩ := hP
  have hx := Bd.exec
  have hby := Bd.bytes
  have hml : c.maxLocals = 3 := hml0
  have hown : s.vm.findClass zs2 = some m.cls := findClass_of_methodNamed Bd.named
  have hnm := (name_of_methodNamed Bd.named Bd.method).1
  have X0 : Stand p l e ({ frames := 1, cells := 0, slots := 0, locals := 12 } : Room) s m #[(.ref a433), (.int p434)] below meth c s₁ [] 0 0 := Stand.of_body Bd
  have e0 : s₁.heap = h0 := by rw [← hh, Bd.state]; rfl
  have N0 := Fr.nil n0
  refine own_out ?_
  refine own_via (fun t k => castTop (ef_9 m a433 p434) (XS.iloadN X0.here hx rfl (hb hby d12_0) rfl (XS.ifYes X0.here hx rfl (pc0 := 1) (pc' := 31) rfl (hb hby d12_1) rfl ((if0 _ _).trans (flt pC459).2.1) (by decide) (by decide) (XS.aloadN X0.here hx rfl (hb hby d12_31) rfl rfl k)))) ?_
  show own_Goes p e below (s₁.setTop (mkF m 32 #[rv a433, iv p434, .unset] [(.ref a433)])) _
  obtain ⟨cq465, q465, q465'⟩ := pE_a433.cell
  obtain ⟨_, _, ⟨T465, L465, c465, n465⟩, -, X465, ⟨Lc465, hQ465, l465, y465, z465⟩, st465⟩ := X0.privateBack hx (y := (⟨zs2, zs8, "()V"⟩ : MethodName)) hown (mvT hZ (wd hw 71 rfl)) (mvT hZ (wd hw 72 rfl)) (mvT hZ (wd hw 74 rfl)) (Cond.privateMethod_at (mvP hZ (wd hw 73 rfl) (args := #[]))) (mvT hZ (wd hw 75 rfl)) (by decide) (backOf (W := 0) (rm8 l Z a0 hw [] a433 h0 n0 O0 S_BitSet__assertionsDisabled) hZ (wd hw 75 rfl) (wd hw 11 rfl) (by decide) (by decide)) (g := (mkF m 32 #[rv a433, iv p434, .unset] [(.ref a433)])) rfl (by rw [hml]; rfl) (Steps.refl _) (a := a433) (by rw [e0]; exact q465) q465' (argsL := []) (rest := []) (lenOf pd_3 rfl) rfl (by show 2 * 0 + _ ≤ _; exact Nat.le_of_eq rfl) (hb hby d12_32) (fun _ _ => ⟨rfl, e0, (by decide : 0 + 0 ≤ _), (by decide : 0 + 0 ≤ _)⟩)
  dsimp only [Pt.U, Pt.locs, Pt.cells, Pt.slots] at X465 l465 y465 z465 st465 hQ465
  subst l465 y465 z465
  obtain ⟨rfl, Nq465, hh502⟩ := hQ465
  have N465 := Fr.app N0 Nq465
  refine own_via (fun t k => st465.trans (XS.iloadN X465.here hx rfl (hb hby d12_35) rfl k)) ?_
  obtain ⟨_, T503, _, X503, hQ503, st503⟩ := own_cs X465 hx hZ hown (wd hw 25 rfl) (wd hw 26 rfl) (wd hw 27 rfl) (wd hw 11 rfl) (by decide) (rm9 l Z a0 hw [] p434 h0 n0 O0 ) hh502 (g := (mkF m 36 #[rv a433, iv p434, .unset] [(.int p434)])) rfl (by rw [hml]; rfl) (rest := []) (W := 0) (lenOf pd_1 rfl) rfl (by show 2 * 0 + _ ≤ _; exact Nat.le_of_eq rfl) (hb hby d12_36) (by decide) (by decide) (by decide) (by decide)
  obtain ⟨rfl, Nq503, hh537⟩ := hQ503
  have N503 := Fr.app N465 Nq503
  refine own_via (fun t k => st503 t (XS.istoreN X503.here hx rfl (hb hby d12_39) rfl (l' := #[rv a433, iv p434, iv (p434 >>> ((6 : Int32) &&& 31))]) rfl (XS.iloadN X503.here hx rfl (hb hby d12_40) rfl (XS.aloadN X503.here hx rfl (hb hby d12_41) rfl rfl k)))) ?_
  show own_Goes p e below (T503.setTop (mkF m 42 #[rv a433, iv p434, iv (p434 >>> ((6 : Int32) &&& 31))] [(.ref a433), (.int (p434 >>> ((6 : Int32) &&& 31)))])) _
  obtain ⟨T538, X538, e538, st538⟩ := getF X503 hx hZ hown (host := "") (Or.inl (wd hw 16 rfl)) Via.refl hh537 pF_a433_wordsInUse (g := (mkF m 42 #[rv a433, iv p434, iv (p434 >>> ((6 : Int32) &&& 31))] [(.ref a433), (.int (p434 >>> ((6 : Int32) &&& 31)))])) rfl rfl (hb hby d12_42)
  refine own_via (fun t k => st538 t (XS.icmpYes X538.here hx rfl (pc0 := 45) (pc' := 67) rfl (hb hby d12_45) rfl (flt (own_nn_shr pC459)).2.1 (by decide) (by decide) (XS.iconst X538.here hx rfl (hb hby d12_67) k))) ?_
  show own_Goes p e below (T538.setTop (mkF m 68 #[rv a433, iv p434, iv (p434 >>> ((6 : Int32) &&& 31))] [(.int (0 : Int32))])) _
  obtain ⟨fs, hr, hrun, hended, hW, hsame⟩ := X538.leave (v := some (.int (0 : Int32))) (fun h => by rw [Bd.returns] at h; cases h)
  refine own_end (t := T538.setFrames fs) ?_ ⟨_, hrun, hended, _, _, rfl, ?_, ⟨_, rfl⟩, hW, hsame.mono (by decide) (by decide)⟩
  · exact retN X538 hx (t := .boolean) Bd.returns (by simp) (hb hby d12_68) hr
  · show Q10 Z a433 p434 h0 n0 _ T538.heap _
    rw [e538]
    exact ⟨rfl, N503, rfl⟩
theorem pd_7 : parseMethodDescriptor "(I)Z" = some ⟨[.int], some .boolean⟩ := by decide +kernel
theorem d9_123 : decode prog_61_method_2_code 123 = .ok (.ifCond .ne 18, 3) := by decide +kernel
theorem d9_126 : decode prog_61_method_2_code 126 = .ok (.aload_n 0, 1) := by decide +kernel
theorem d9_127 : decode prog_61_method_2_code 127 = .ok (.getfield 18, 3) := by decide +kernel
theorem d9_130 : decode prog_61_method_2_code 130 = .ok (.iload_n 2, 1) := by decide +kernel
theorem d9_131 : decode prog_61_method_2_code 131 = .ok (.invokevirtual 43, 3) := by decide +kernel
theorem d14_0 : decode jdk_92_method_19_code 0 = .ok (.iload_n 1, 1) := by decide +kernel
theorem d14_1 : decode jdk_92_method_19_code 1 = .ok (.ifCond .ge 30, 3) := by decide +kernel
theorem d14_31 : decode jdk_92_method_19_code 31 = .ok (.iload_n 1, 1) := by decide +kernel
theorem d14_32 : decode jdk_92_method_19_code 32 = .ok (.invokestatic 52, 3) := by decide +kernel
theorem d14_35 : decode jdk_92_method_19_code 35 = .ok (.istore_n 2, 1) := by decide +kernel
theorem d14_36 : decode jdk_92_method_19_code 36 = .ok (.aload_n 0, 1) := by decide +kernel
theorem d14_37 : decode jdk_92_method_19_code 37 = .ok (.iload_n 2, 1) := by decide +kernel
theorem d14_38 : decode jdk_92_method_19_code 38 = .ok (.invokevirtual 155, 3) := by decide +kernel
theorem d15_0 : decode jdk_92_method_15_code 0 = .ok (.iload_n 1, 1) := by decide +kernel
theorem d15_1 : decode jdk_92_method_15_code 1 = .ok (.iconst 1, 1) := by decide +kernel
theorem d15_2 : decode jdk_92_method_15_code 2 = .ok (.iadd, 1) := by decide +kernel
theorem d15_3 : decode jdk_92_method_15_code 3 = .ok (.istore_n 2, 1) := by decide +kernel
theorem d15_4 : decode jdk_92_method_15_code 4 = .ok (.aload_n 0, 1) := by decide +kernel
theorem d15_5 : decode jdk_92_method_15_code 5 = .ok (.getfield 7, 3) := by decide +kernel
theorem d15_8 : decode jdk_92_method_15_code 8 = .ok (.iload_n 2, 1) := by decide +kernel
theorem d15_9 : decode jdk_92_method_15_code 9 = .ok (.if_icmp .ge 13, 3) := by decide +kernel
theorem d15_12 : decode jdk_92_method_15_code 12 = .ok (.aload_n 0, 1) := by decide +kernel
theorem d15_13 : decode jdk_92_method_15_code 13 = .ok (.iload_n 2, 1) := by decide +kernel
theorem d15_14 : decode jdk_92_method_15_code 14 = .ok (.invokevirtual 139, 3) := by decide +kernel
theorem d16_0 : decode jdk_92_method_14_code 0 = .ok (.aload_n 0, 1) := by decide +kernel
theorem d16_1 : decode jdk_92_method_14_code 1 = .ok (.getfield 11, 3) := by decide +kernel
theorem d16_4 : decode jdk_92_method_14_code 4 = .ok (.arraylength, 1) := by decide +kernel
theorem d16_5 : decode jdk_92_method_14_code 5 = .ok (.iload_n 1, 1) := by decide +kernel
theorem d16_6 : decode jdk_92_method_14_code 6 = .ok (.if_icmp .ge 32, 3) := by decide +kernel
theorem d16_38 : decode jdk_92_method_14_code 38 = .ok (.return_, 1) := by decide +kernel
theorem ef_10 (m : MethodId) (x0 : Addr) (x1 : Int32) : entryFrame m #[(.ref x0), (.int x1)] 3 = mkF m 0 #[rv x0, iv x1, .unset] [] := by first | (simp [entryFrame, mkF, argsToLocals, Value.category]; done) | rfl
def Q11 (Z : State) (a613 : Addr) (a617 : Addr) (h0 : Heap) (n0 : Nat) (v : Option Value) (h : Heap) (L : List Loc) : Prop := v = none ∧ Fr n0 L ∧ h = h0
set_option maxRecDepth 65536 in
set_option maxHeartbeats 40000000 in
theorem rm11 (l : Launch) (Z : State) (a0 : Array Value) (hw : ∀ d ∈ tables_1, d.before a0 Z = true) (ws : List Jvm.Cond) (a613 : Addr) (a617 : Addr) (h0 : Heap) (n0 : Nat) (O0 : Old Z n0 h0) (pF_a613_words : Fld Z h0 a613 zs2 "words" "[J" (.ref a617)) (pL_a617 : own_Len Z h0 a617 .long (4 : Int32)) :
    MetFree l (⟨zs2, zs7, "(I)V"⟩ : MethodName) (head1 (Jvm.Cond.code (⟨zs2, zs7, "(I)V"⟩ : MethodName) jdk_92_method_14_code 3 none :: ws) ({ frames := 0, cells := 0, slots := 0, locals := 0 } : Room)) (fun a U => a = #[(.ref a613), (.int (1 : Int32))] ∧ Z.Warmed39 U.vm ∧ U.heap = h0) (fun _ _ _ _ _ => True) (fun _ U o U' => ∃ v L, o = .returned v ∧ Q11 Z a613 a617 h0 n0 v U'.heap L ∧ FrameEnd U o U' L ({ frames := 0, cells := 0, slots := 0, locals := 0 } : Room).cells ({ frames := 0, cells := 0, slots := 0, locals := 0 } : Room).slots) := by
  refine MetFree.of_bodySF (plainFor_of_name pn_1) hisR ?_
  intro p e s m args below meth c s₁ Bd hml0 hP hK
  obtain ⟨rfl, hZ, hh⟩ := hP
  have hx := Bd.exec
  have hby := Bd.bytes
  have hml : c.maxLocals = 3 := hml0
  have hown : s.vm.findClass zs2 = some m.cls := findClass_of_methodNamed Bd.named
  have hnm := (name_of_methodNamed Bd.named Bd.method).1
  have X0 : Stand p l e ({ frames := 0, cells := 0, slots := 0, locals := 0 } : Room) s m #[(.ref a613), (.int (1 : Int32))] below meth c s₁ [] 0 0 := Stand.of_body Bd
  have e0 : s₁.heap = h0 := by rw [← hh, Bd.state]; rfl
  have N0 := Fr.nil n0
  refine own_out ?_
  refine own_via (fun t k => castTop (ef_10 m a613 (1 : Int32)) (XS.aloadN X0.here hx rfl (hb hby d16_0) rfl rfl k)) ?_
  obtain ⟨T647, X647, e647, st647⟩ := getF X0 hx hZ hown (host := "") (Or.inl (wd hw 29 rfl)) Via.refl e0 pF_a613_words (g := (mkF m 1 #[rv a613, iv (1 : Int32), .unset] [(.ref a613)])) rfl rfl (hb hby d16_1)
  refine own_via (fun t k => st647 t k) ?_
  obtain ⟨_, _, _, V648⟩ := id (pL_a617)
  obtain ⟨cl648, Ar648, -, S648, M648, -, -⟩ := id (V648)
  refine own_via (fun t k => X647.arraylength hx (by rw [e647]; exact Ar648.1) (State.isArrayOf_alike hZ.alike Ar648.2.1) (g := (mkF m 4 #[rv a613, iv (1 : Int32), .unset] [(.ref a617)])) rfl rfl (hb hby d16_4) t k) ?_
  rw [len_of S648 M648]
  show own_Goes p e below (T647.setTop (mkF m 5 #[rv a613, iv (1 : Int32), .unset] [(.int (4 : Int32))])) _
  refine own_via (fun t k => XS.iloadN X647.here hx rfl (hb hby d16_5) rfl (XS.icmpYes X647.here hx rfl (pc0 := 6) (pc' := 38) rfl (hb hby d16_6) rfl (flt (by decide : ¬ ((4 : Int32) < (1 : Int32)))).2.1 (by decide) (by decide) k)) ?_
  obtain ⟨fs, hr, hrun, hended, hW, hsame⟩ := X647.leave (v := none) (fun _ => rfl)
  refine own_end (t := T647.setFrames fs) ?_ ⟨_, hrun, hended, _, _, rfl, ?_, ⟨_, rfl⟩, hW, hsame.mono (by decide) (by decide)⟩
  · exact X647.returnOut hx Bd.returns (hb hby d16_38) hr
  · show Q11 Z a613 a617 h0 n0 _ T647.heap _
    rw [e647]
    exact ⟨rfl, N0, rfl⟩
theorem d15_17 : decode jdk_92_method_15_code 17 = .ok (.aload_n 0, 1) := by decide +kernel
theorem d15_18 : decode jdk_92_method_15_code 18 = .ok (.iload_n 2, 1) := by decide +kernel
theorem d15_19 : decode jdk_92_method_15_code 19 = .ok (.putfield 7, 3) := by decide +kernel
theorem d15_22 : decode jdk_92_method_15_code 22 = .ok (.return_, 1) := by decide +kernel
theorem ef_11 (m : MethodId) (x0 : Addr) (x1 : Int32) : entryFrame m #[(.ref x0), (.int x1)] 3 = mkF m 0 #[rv x0, iv x1, .unset] [] := by first | (simp [entryFrame, mkF, argsToLocals, Value.category]; done) | rfl
def Q12 (Z : State) (a578 : Addr) (a582 : Addr) (p586 : Int32) (h0 : Heap) (n0 : Nat) (v : Option Value) (h : Heap) (L : List Loc) : Prop := v = none ∧ Fr n0 L ∧ Keep h0 h [a578] ∧ Exa Z h a578 zs2 ∧ Fld Z h a578 zs2 "wordsInUse" "I" (.int (1 : Int32)) ∧ Fld Z h a578 zs2 zs5 "Z" (.int p586) ∧ Fld Z h a578 zs2 "words" "[J" (.ref a582)
set_option maxRecDepth 65536 in
set_option maxHeartbeats 40000000 in
theorem rm12 (l : Launch) (Z : State) (a0 : Array Value) (hw : ∀ d ∈ tables_1, d.before a0 Z = true) (ws : List Jvm.Cond) (a578 : Addr) (a582 : Addr) (p586 : Int32) (h0 : Heap) (n0 : Nat) (O0 : Old Z n0 h0) (pF_a578_wordsInUse : Fld Z h0 a578 zs2 "wordsInUse" "I" (.int (0 : Int32))) (pF_a578_words : Fld Z h0 a578 zs2 "words" "[J" (.ref a582)) (pL_a582 : own_Len Z h0 a582 .long (4 : Int32)) (pE_a578 : Exa Z h0 a578 zs2) (pG_a578 : n0 ≤ a578) (pF_a578_sizeIsSticky : Fld Z h0 a578 zs2 zs5 "Z" (.int p586)) :
    MetFree l (⟨zs2, "expandTo", "(I)V"⟩ : MethodName) (head1 (Jvm.Cond.code (⟨zs2, "expandTo", "(I)V"⟩ : MethodName) jdk_92_method_15_code 3 none :: ws) ({ frames := 1, cells := 0, slots := 0, locals := 14 } : Room)) (fun a U => a = #[(.ref a578), (.int (0 : Int32))] ∧ Z.Warmed39 U.vm ∧ U.heap = h0) (fun _ _ _ _ _ => True) (fun _ U o U' => ∃ v L, o = .returned v ∧ Q12 Z a578 a582 p586 h0 n0 v U'.heap L ∧ FrameEnd U o U' L ({ frames := 1, cells := 0, slots := 0, locals := 14 } : Room).cells ({ frames := 1, cells := 0, slots := 0, locals := 14 } : Room).slots) := by
  refine MetFree.of_bodySF (plainFor_of_name pn_1) hisR ?_
  intro p e s m args below meth c s₁ Bd hml0 hP hK
  obtain ⟨rfl, hZ, hh⟩ := hP
  have hx := Bd.exec
  have hby := Bd.bytes
  have hml : c.maxLocals = 3 := hml0
  have hown : s.vm.findClass zs2 = some m.cls := findClass_of_methodNamed Bd.named
  have hnm := (name_of_methodNamed Bd.named Bd.method).1
  have X0 : Stand p l e ({ frames := 1, cells := 0, slots := 0, locals := 14 } : Room) s m #[(.ref a578), (.int (0 : Int32))] below meth c s₁ [] 0 0 := Stand.of_body Bd
  have e0 : s₁.heap = h0 := by rw [← hh, Bd.state]; rfl
  have N0 := Fr.nil n0
  refine own_out ?_
  refine own_via (fun t k => castTop (ef_11 m a578 (0 : Int32)) (XS.iloadN X0.here hx rfl (hb hby d15_0) rfl (XS.iconst X0.here hx rfl (hb hby d15_1) (XS.iadd X0.here hx rfl (hb hby d15_2) rfl (XS.istoreN X0.here hx rfl (hb hby d15_3) rfl (l' := #[rv a578, iv (0 : Int32), iv (1 : Int32)]) rfl (XS.aloadN X0.here hx rfl (hb hby d15_4) rfl rfl k)))))) ?_
  show own_Goes p e below (s₁.setTop (mkF m 5 #[rv a578, iv (0 : Int32), iv (1 : Int32)] [(.ref a578)])) _
  obtain ⟨T611, X611, e611, st611⟩ := getF X0 hx hZ hown (host := "") (Or.inl (wd hw 16 rfl)) Via.refl e0 pF_a578_wordsInUse (g := (mkF m 5 #[rv a578, iv (0 : Int32), iv (1 : Int32)] [(.ref a578)])) rfl rfl (hb hby d15_5)
  refine own_via (fun t k => st611 t (XS.iloadN X611.here hx rfl (hb hby d15_8) rfl (XS.icmpNo X611.here hx rfl (hb hby d15_9) rfl (tlt (by decide : (0 : Int32) < (1 : Int32))).2.1 (XS.aloadN X611.here hx rfl (hb hby d15_12) rfl rfl (XS.iloadN X611.here hx rfl (hb hby d15_13) rfl k))))) ?_
  show own_Goes p e below (T611.setTop (mkF m 14 #[rv a578, iv (0 : Int32), iv (1 : Int32)] [(.int (1 : Int32)), (.ref a578)])) _
  obtain ⟨cq612, q612, q612'⟩ := pE_a578.cell
  obtain ⟨_, _, ⟨T612, L612, c612, n612⟩, -, X612, ⟨Lc612, hQ612, l612, y612, z612⟩, st612⟩ := X611.privateBack hx (y := (⟨zs2, zs7, "(I)V"⟩ : MethodName)) hown (mvT hZ (wd hw 87 rfl)) (mvT hZ (wd hw 88 rfl)) (mvT hZ (wd hw 90 rfl)) (Cond.privateMethod_at (mvP hZ (wd hw 89 rfl) (args := #[]))) (mvT hZ (wd hw 91 rfl)) (by decide) (backOf (W := 0) (rm11 l Z a0 hw [] a578 a582 h0 n0 O0 pF_a578_words pL_a582) hZ (wd hw 91 rfl) (wd hw 11 rfl) (by decide) (by decide)) (g := (mkF m 14 #[rv a578, iv (0 : Int32), iv (1 : Int32)] [(.int (1 : Int32)), (.ref a578)])) rfl (by rw [hml]; rfl) (Steps.refl _) (a := a578) (by rw [e611]; exact q612) q612' (argsL := [(.int (1 : Int32))]) (rest := []) (lenOf pd_2 rfl) rfl (by show 2 * 0 + _ ≤ _; exact Nat.le_of_eq rfl) (hb hby d15_14) (fun _ _ => ⟨rfl, e611, (by decide : 0 + 0 ≤ _), (by decide : 0 + 0 ≤ _)⟩)
  dsimp only [Pt.U, Pt.locs, Pt.cells, Pt.slots] at X612 l612 y612 z612 st612 hQ612
  subst l612 y612 z612
  obtain ⟨rfl, Nq612, hh649⟩ := hQ612
  have N612 := Fr.app N0 Nq612
  refine own_via (fun t k => st612.trans (XS.aloadN X612.here hx rfl (hb hby d15_17) rfl rfl (XS.iloadN X612.here hx rfl (hb hby d15_18) rfl k))) ?_
  show own_Goes p e below (T612.setTop (mkF m 19 #[rv a578, iv (0 : Int32), iv (1 : Int32)] [(.int (1 : Int32)), (.ref a578)])) _
  obtain ⟨T650, h650, X650, e650, W650, st650⟩ := putF X612 hx hZ hown (host := "") (Or.inl (wd hw 16 rfl)) Via.refl hh649 pF_a578_wordsInUse pE_a578 (Or.inl (wd hw 17 rfl)) (wd hw 10 rfl) (ty := .int) (by decide) rfl rfl (g := (mkF m 19 #[rv a578, iv (0 : Int32), iv (1 : Int32)] [(.int (1 : Int32)), (.ref a578)])) rfl rfl (hb hby d15_19)
  refine own_via (fun t k => st650 t k) ?_
  have Fw650 : Fld Z h650 a578 zs2 "wordsInUse" "I" (.int (1 : Int32)) := pF_a578_wordsInUse.same W650
  have N650 := Fr.snoc X650 N612 pG_a578
  show own_Goes p e below (T650.setTop (mkF m 22 #[rv a578, iv (0 : Int32), iv (1 : Int32)] [])) _
  obtain ⟨fs, hr, hrun, hended, hW, hsame⟩ := X650.leave (v := none) (fun _ => rfl)
  refine own_end (t := T650.setFrames fs) ?_ ⟨_, hrun, hended, _, _, rfl, ?_, ⟨_, rfl⟩, hW, hsame.mono (by decide) (by decide)⟩
  · exact X650.returnOut hx Bd.returns (hb hby d15_22) hr
  have E651 : Exa Z h650 a578 zs2 := (pE_a578.wr W650)
  have F652 : Fld Z h650 a578 zs2 zs5 "Z" (.int p586) := (pF_a578_sizeIsSticky.other W650 (Or.inr (slot_ne (Or.inl (wd hw 19 rfl)) (Or.inl (wd hw 17 rfl)) (by decide) (t := .boolean) (t' := .int) (by decide) (by decide))))
  have F653 : Fld Z h650 a578 zs2 "words" "[J" (.ref a582) := (pF_a578_words.other W650 (Or.inr (slot_ne (Or.inl (wd hw 30 rfl)) (Or.inl (wd hw 17 rfl)) (by decide) (t := (.array .long)) (t' := .int) (by decide) (by decide))))
  · show Q12 Z a578 a582 p586 h0 n0 _ T650.heap _
    rw [e650]
    exact ⟨rfl, N650, ((Keep.refl h0 [a578]).wr W650 (Or.inl (List.mem_of_getElem? (i := 0) rfl))), E651, Fw650, F652, F653⟩
theorem d14_41 : decode jdk_92_method_19_code 41 = .ok (.aload_n 0, 1) := by decide +kernel
theorem d14_42 : decode jdk_92_method_19_code 42 = .ok (.getfield 11, 3) := by decide +kernel
theorem d14_45 : decode jdk_92_method_19_code 45 = .ok (.iload_n 2, 1) := by decide +kernel
theorem d14_46 : decode jdk_92_method_19_code 46 = .ok (.dup2, 1) := by decide +kernel
theorem d14_47 : decode jdk_92_method_19_code 47 = .ok (.laload, 1) := by decide +kernel
theorem d14_48 : decode jdk_92_method_19_code 48 = .ok (.lconst 1, 1) := by decide +kernel
theorem d14_49 : decode jdk_92_method_19_code 49 = .ok (.iload_n 1, 1) := by decide +kernel
theorem d14_50 : decode jdk_92_method_19_code 50 = .ok (.lshl, 1) := by decide +kernel
theorem d14_51 : decode jdk_92_method_19_code 51 = .ok (.lor, 1) := by decide +kernel
theorem d14_52 : decode jdk_92_method_19_code 52 = .ok (.lastore, 1) := by decide +kernel
theorem d14_53 : decode jdk_92_method_19_code 53 = .ok (.aload_n 0, 1) := by decide +kernel
theorem d14_54 : decode jdk_92_method_19_code 54 = .ok (.invokevirtual 56, 3) := by decide +kernel
theorem d14_57 : decode jdk_92_method_19_code 57 = .ok (.return_, 1) := by decide +kernel
def Q13 (Z : State) (a705 : Addr) (a709 : Addr) (h0 : Heap) (n0 : Nat) (v : Option Value) (h : Heap) (L : List Loc) : Prop := v = none ∧ Fr n0 L ∧ h = h0
set_option maxRecDepth 65536 in
set_option maxHeartbeats 40000000 in
theorem rm13 (l : Launch) (Z : State) (a0 : Array Value) (hw : ∀ d ∈ tables_1, d.before a0 Z = true) (ws : List Jvm.Cond) (a705 : Addr) (a709 : Addr) (h0 : Heap) (n0 : Nat) (O0 : Old Z n0 h0) (pF_a705_words : Fld Z h0 a705 zs2 "words" "[J" (.ref a709)) (pL_a709 : own_Len Z h0 a709 .long (4 : Int32)) :
    MetFree l (⟨zs2, zs7, "(I)V"⟩ : MethodName) (head1 (Jvm.Cond.code (⟨zs2, zs7, "(I)V"⟩ : MethodName) jdk_92_method_14_code 3 none :: ws) ({ frames := 0, cells := 0, slots := 0, locals := 0 } : Room)) (fun a U => a = #[(.ref a705), (.int (2 : Int32))] ∧ Z.Warmed39 U.vm ∧ U.heap = h0) (fun _ _ _ _ _ => True) (fun _ U o U' => ∃ v L, o = .returned v ∧ Q13 Z a705 a709 h0 n0 v U'.heap L ∧ FrameEnd U o U' L ({ frames := 0, cells := 0, slots := 0, locals := 0 } : Room).cells ({ frames := 0, cells := 0, slots := 0, locals := 0 } : Room).slots) := by
  refine MetFree.of_bodySF (plainFor_of_name pn_1) hisR ?_
  intro p e s m args below meth c s₁ Bd hml0 hP hK
  obtain ⟨rfl, hZ, hh⟩ := hP
  have hx := Bd.exec
  have hby := Bd.bytes
  have hml : c.maxLocals = 3 := hml0
  have hown : s.vm.findClass zs2 = some m.cls := findClass_of_methodNamed Bd.named
  have hnm := (name_of_methodNamed Bd.named Bd.method).1
  have X0 : Stand p l e ({ frames := 0, cells := 0, slots := 0, locals := 0 } : Room) s m #[(.ref a705), (.int (2 : Int32))] below meth c s₁ [] 0 0 := Stand.of_body Bd
  have e0 : s₁.heap = h0 := by rw [← hh, Bd.state]; rfl
  have N0 := Fr.nil n0
  refine own_out ?_
  refine own_via (fun t k => castTop (ef_10 m a705 (2 : Int32)) (XS.aloadN X0.here hx rfl (hb hby d16_0) rfl rfl k)) ?_
  obtain ⟨T739, X739, e739, st739⟩ := getF X0 hx hZ hown (host := "") (Or.inl (wd hw 29 rfl)) Via.refl e0 pF_a705_words (g := (mkF m 1 #[rv a705, iv (2 : Int32), .unset] [(.ref a705)])) rfl rfl (hb hby d16_1)
  refine own_via (fun t k => st739 t k) ?_
  obtain ⟨_, _, _, V740⟩ := id (pL_a709)
  obtain ⟨cl740, Ar740, -, S740, M740, -, -⟩ := id (V740)
  refine own_via (fun t k => X739.arraylength hx (by rw [e739]; exact Ar740.1) (State.isArrayOf_alike hZ.alike Ar740.2.1) (g := (mkF m 4 #[rv a705, iv (2 : Int32), .unset] [(.ref a709)])) rfl rfl (hb hby d16_4) t k) ?_
  rw [len_of S740 M740]
  show own_Goes p e below (T739.setTop (mkF m 5 #[rv a705, iv (2 : Int32), .unset] [(.int (4 : Int32))])) _
  refine own_via (fun t k => XS.iloadN X739.here hx rfl (hb hby d16_5) rfl (XS.icmpYes X739.here hx rfl (pc0 := 6) (pc' := 38) rfl (hb hby d16_6) rfl (flt (by decide : ¬ ((4 : Int32) < (2 : Int32)))).2.1 (by decide) (by decide) k)) ?_
  obtain ⟨fs, hr, hrun, hended, hW, hsame⟩ := X739.leave (v := none) (fun _ => rfl)
  refine own_end (t := T739.setFrames fs) ?_ ⟨_, hrun, hended, _, _, rfl, ?_, ⟨_, rfl⟩, hW, hsame.mono (by decide) (by decide)⟩
  · exact X739.returnOut hx Bd.returns (hb hby d16_38) hr
  · show Q13 Z a705 a709 h0 n0 _ T739.heap _
    rw [e739]
    exact ⟨rfl, N0, rfl⟩
def Q14 (Z : State) (a670 : Addr) (a674 : Addr) (p678 : Int32) (h0 : Heap) (n0 : Nat) (v : Option Value) (h : Heap) (L : List Loc) : Prop := v = none ∧ Fr n0 L ∧ Keep h0 h [a670] ∧ Exa Z h a670 zs2 ∧ Fld Z h a670 zs2 "wordsInUse" "I" (.int (2 : Int32)) ∧ Fld Z h a670 zs2 zs5 "Z" (.int p678) ∧ Fld Z h a670 zs2 "words" "[J" (.ref a674)
set_option maxRecDepth 65536 in
set_option maxHeartbeats 40000000 in
theorem rm14 (l : Launch) (Z : State) (a0 : Array Value) (hw : ∀ d ∈ tables_1, d.before a0 Z = true) (ws : List Jvm.Cond) (a670 : Addr) (a674 : Addr) (p678 : Int32) (h0 : Heap) (n0 : Nat) (O0 : Old Z n0 h0) (pF_a670_wordsInUse : Fld Z h0 a670 zs2 "wordsInUse" "I" (.int (0 : Int32))) (pF_a670_words : Fld Z h0 a670 zs2 "words" "[J" (.ref a674)) (pL_a674 : own_Len Z h0 a674 .long (4 : Int32)) (pE_a670 : Exa Z h0 a670 zs2) (pG_a670 : n0 ≤ a670) (pF_a670_sizeIsSticky : Fld Z h0 a670 zs2 zs5 "Z" (.int p678)) :
    MetFree l (⟨zs2, "expandTo", "(I)V"⟩ : MethodName) (head1 (Jvm.Cond.code (⟨zs2, "expandTo", "(I)V"⟩ : MethodName) jdk_92_method_15_code 3 none :: ws) ({ frames := 1, cells := 0, slots := 0, locals := 14 } : Room)) (fun a U => a = #[(.ref a670), (.int (1 : Int32))] ∧ Z.Warmed39 U.vm ∧ U.heap = h0) (fun _ _ _ _ _ => True) (fun _ U o U' => ∃ v L, o = .returned v ∧ Q14 Z a670 a674 p678 h0 n0 v U'.heap L ∧ FrameEnd U o U' L ({ frames := 1, cells := 0, slots := 0, locals := 14 } : Room).cells ({ frames := 1, cells := 0, slots := 0, locals := 14 } : Room).slots) := by
  refine MetFree.of_bodySF (plainFor_of_name pn_1) hisR ?_
  intro p e s m args below meth c s₁ Bd hml0 hP hK
  obtain ⟨rfl, hZ, hh⟩ := hP
  have hx := Bd.exec
  have hby := Bd.bytes
  have hml : c.maxLocals = 3 := hml0
  have hown : s.vm.findClass zs2 = some m.cls := findClass_of_methodNamed Bd.named
  have hnm := (name_of_methodNamed Bd.named Bd.method).1
  have X0 : Stand p l e ({ frames := 1, cells := 0, slots := 0, locals := 14 } : Room) s m #[(.ref a670), (.int (1 : Int32))] below meth c s₁ [] 0 0 := Stand.of_body Bd
  have e0 : s₁.heap = h0 := by rw [← hh, Bd.state]; rfl
  have N0 := Fr.nil n0
  refine own_out ?_
  refine own_via (fun t k => castTop (ef_11 m a670 (1 : Int32)) (XS.iloadN X0.here hx rfl (hb hby d15_0) rfl (XS.iconst X0.here hx rfl (hb hby d15_1) (XS.iadd X0.here hx rfl (hb hby d15_2) rfl (XS.istoreN X0.here hx rfl (hb hby d15_3) rfl (l' := #[rv a670, iv (1 : Int32), iv (2 : Int32)]) rfl (XS.aloadN X0.here hx rfl (hb hby d15_4) rfl rfl k)))))) ?_
  show own_Goes p e below (s₁.setTop (mkF m 5 #[rv a670, iv (1 : Int32), iv (2 : Int32)] [(.ref a670)])) _
  obtain ⟨T703, X703, e703, st703⟩ := getF X0 hx hZ hown (host := "") (Or.inl (wd hw 16 rfl)) Via.refl e0 pF_a670_wordsInUse (g := (mkF m 5 #[rv a670, iv (1 : Int32), iv (2 : Int32)] [(.ref a670)])) rfl rfl (hb hby d15_5)
  refine own_via (fun t k => st703 t (XS.iloadN X703.here hx rfl (hb hby d15_8) rfl (XS.icmpNo X703.here hx rfl (hb hby d15_9) rfl (tlt (by decide : (0 : Int32) < (2 : Int32))).2.1 (XS.aloadN X703.here hx rfl (hb hby d15_12) rfl rfl (XS.iloadN X703.here hx rfl (hb hby d15_13) rfl k))))) ?_
  show own_Goes p e below (T703.setTop (mkF m 14 #[rv a670, iv (1 : Int32), iv (2 : Int32)] [(.int (2 : Int32)), (.ref a670)])) _
  obtain ⟨cq704, q704, q704'⟩ := pE_a670.cell
  obtain ⟨_, _, ⟨T704, L704, c704, n704⟩, -, X704, ⟨Lc704, hQ704, l704, y704, z704⟩, st704⟩ := X703.privateBack hx (y := (⟨zs2, zs7, "(I)V"⟩ : MethodName)) hown (mvT hZ (wd hw 87 rfl)) (mvT hZ (wd hw 88 rfl)) (mvT hZ (wd hw 90 rfl)) (Cond.privateMethod_at (mvP hZ (wd hw 89 rfl) (args := #[]))) (mvT hZ (wd hw 91 rfl)) (by decide) (backOf (W := 0) (rm13 l Z a0 hw [] a670 a674 h0 n0 O0 pF_a670_words pL_a674) hZ (wd hw 91 rfl) (wd hw 11 rfl) (by decide) (by decide)) (g := (mkF m 14 #[rv a670, iv (1 : Int32), iv (2 : Int32)] [(.int (2 : Int32)), (.ref a670)])) rfl (by rw [hml]; rfl) (Steps.refl _) (a := a670) (by rw [e703]; exact q704) q704' (argsL := [(.int (2 : Int32))]) (rest := []) (lenOf pd_2 rfl) rfl (by show 2 * 0 + _ ≤ _; exact Nat.le_of_eq rfl) (hb hby d15_14) (fun _ _ => ⟨rfl, e703, (by decide : 0 + 0 ≤ _), (by decide : 0 + 0 ≤ _)⟩)
  dsimp only [Pt.U, Pt.locs, Pt.cells, Pt.slots] at X704 l704 y704 z704 st704 hQ704
  subst l704 y704 z704
  obtain ⟨rfl, Nq704, hh741⟩ := hQ704
  have N704 := Fr.app N0 Nq704
  refine own_via (fun t k => st704.trans (XS.aloadN X704.here hx rfl (hb hby d15_17) rfl rfl (XS.iloadN X704.here hx rfl (hb hby d15_18) rfl k))) ?_
  show own_Goes p e below (T704.setTop (mkF m 19 #[rv a670, iv (1 : Int32), iv (2 : Int32)] [(.int (2 : Int32)), (.ref a670)])) _
  obtain ⟨T742, h742, X742, e742, W742, st742⟩ := putF X704 hx hZ hown (host := "") (Or.inl (wd hw 16 rfl)) Via.refl hh741 pF_a670_wordsInUse pE_a670 (Or.inl (wd hw 17 rfl)) (wd hw 10 rfl) (ty := .int) (by decide) rfl rfl (g := (mkF m 19 #[rv a670, iv (1 : Int32), iv (2 : Int32)] [(.int (2 : Int32)), (.ref a670)])) rfl rfl (hb hby d15_19)
  refine own_via (fun t k => st742 t k) ?_
  have Fw742 : Fld Z h742 a670 zs2 "wordsInUse" "I" (.int (2 : Int32)) := pF_a670_wordsInUse.same W742
  have N742 := Fr.snoc X742 N704 pG_a670
  show own_Goes p e below (T742.setTop (mkF m 22 #[rv a670, iv (1 : Int32), iv (2 : Int32)] [])) _
  obtain ⟨fs, hr, hrun, hended, hW, hsame⟩ := X742.leave (v := none) (fun _ => rfl)
  refine own_end (t := T742.setFrames fs) ?_ ⟨_, hrun, hended, _, _, rfl, ?_, ⟨_, rfl⟩, hW, hsame.mono (by decide) (by decide)⟩
  · exact X742.returnOut hx Bd.returns (hb hby d15_22) hr
  have E743 : Exa Z h742 a670 zs2 := (pE_a670.wr W742)
  have F744 : Fld Z h742 a670 zs2 zs5 "Z" (.int p678) := (pF_a670_sizeIsSticky.other W742 (Or.inr (slot_ne (Or.inl (wd hw 19 rfl)) (Or.inl (wd hw 17 rfl)) (by decide) (t := .boolean) (t' := .int) (by decide) (by decide))))
  have F745 : Fld Z h742 a670 zs2 "words" "[J" (.ref a674) := (pF_a670_words.other W742 (Or.inr (slot_ne (Or.inl (wd hw 30 rfl)) (Or.inl (wd hw 17 rfl)) (by decide) (t := (.array .long)) (t' := .int) (by decide) (by decide))))
  · show Q14 Z a670 a674 p678 h0 n0 _ T742.heap _
    rw [e742]
    exact ⟨rfl, N742, ((Keep.refl h0 [a670]).wr W742 (Or.inl (List.mem_of_getElem? (i := 0) rfl))), E743, Fw742, F744, F745⟩
def Q15 (Z : State) (a797 : Addr) (a801 : Addr) (h0 : Heap) (n0 : Nat) (v : Option Value) (h : Heap) (L : List Loc) : Prop := v = none ∧ Fr n0 L ∧ h = h0
set_option maxRecDepth 65536 in
set_option maxHeartbeats 40000000 in
theorem rm15 (l : Launch) (Z : State) (a0 : Array Value) (hw : ∀ d ∈ tables_1, d.before a0 Z = true) (ws : List Jvm.Cond) (a797 : Addr) (a801 : Addr) (h0 : Heap) (n0 : Nat) (O0 : Old Z n0 h0) (pF_a797_words : Fld Z h0 a797 zs2 "words" "[J" (.ref a801)) (pL_a801 : own_Len Z h0 a801 .long (4 : Int32)) :
    MetFree l (⟨zs2, zs7, "(I)V"⟩ : MethodName) (head1 (Jvm.Cond.code (⟨zs2, zs7, "(I)V"⟩ : MethodName) jdk_92_method_14_code 3 none :: ws) ({ frames := 0, cells := 0, slots := 0, locals := 0 } : Room)) (fun a U => a = #[(.ref a797), (.int (3 : Int32))] ∧ Z.Warmed39 U.vm ∧ U.heap = h0) (fun _ _ _ _ _ => True) (fun _ U o U' => ∃ v L, o = .returned v ∧ Q15 Z a797 a801 h0 n0 v U'.heap L ∧ FrameEnd U o U' L ({ frames := 0, cells := 0, slots := 0, locals := 0 } : Room).cells ({ frames := 0, cells := 0, slots := 0, locals := 0 } : Room).slots) := by
  refine MetFree.of_bodySF (plainFor_of_name pn_1) hisR ?_
  intro p e s m args below meth c s₁ Bd hml0 hP hK
  obtain ⟨rfl, hZ, hh⟩ := hP
  have hx := Bd.exec
  have hby := Bd.bytes
  have hml : c.maxLocals = 3 := hml0
  have hown : s.vm.findClass zs2 = some m.cls := findClass_of_methodNamed Bd.named
  have hnm := (name_of_methodNamed Bd.named Bd.method).1
  have X0 : Stand p l e ({ frames := 0, cells := 0, slots := 0, locals := 0 } : Room) s m #[(.ref a797), (.int (3 : Int32))] below meth c s₁ [] 0 0 := Stand.of_body Bd
  have e0 : s₁.heap = h0 := by rw [← hh, Bd.state]; rfl
  have N0 := Fr.nil n0
  refine own_out ?_
  refine own_via (fun t k => castTop (ef_10 m a797 (3 : Int32)) (XS.aloadN X0.here hx rfl (hb hby d16_0) rfl rfl k)) ?_
  obtain ⟨T831, X831, e831, st831⟩ := getF X0 hx hZ hown (host := "") (Or.inl (wd hw 29 rfl)) Via.refl e0 pF_a797_words (g := (mkF m 1 #[rv a797, iv (3 : Int32), .unset] [(.ref a797)])) rfl rfl (hb hby d16_1)
  refine own_via (fun t k => st831 t k) ?_
  obtain ⟨_, _, _, V832⟩ := id (pL_a801)
  obtain ⟨cl832, Ar832, -, S832, M832, -, -⟩ := id (V832)
  refine own_via (fun t k => X831.arraylength hx (by rw [e831]; exact Ar832.1) (State.isArrayOf_alike hZ.alike Ar832.2.1) (g := (mkF m 4 #[rv a797, iv (3 : Int32), .unset] [(.ref a801)])) rfl rfl (hb hby d16_4) t k) ?_
  rw [len_of S832 M832]
  show own_Goes p e below (T831.setTop (mkF m 5 #[rv a797, iv (3 : Int32), .unset] [(.int (4 : Int32))])) _
  refine own_via (fun t k => XS.iloadN X831.here hx rfl (hb hby d16_5) rfl (XS.icmpYes X831.here hx rfl (pc0 := 6) (pc' := 38) rfl (hb hby d16_6) rfl (flt (by decide : ¬ ((4 : Int32) < (3 : Int32)))).2.1 (by decide) (by decide) k)) ?_
  obtain ⟨fs, hr, hrun, hended, hW, hsame⟩ := X831.leave (v := none) (fun _ => rfl)
  refine own_end (t := T831.setFrames fs) ?_ ⟨_, hrun, hended, _, _, rfl, ?_, ⟨_, rfl⟩, hW, hsame.mono (by decide) (by decide)⟩
  · exact X831.returnOut hx Bd.returns (hb hby d16_38) hr
  · show Q15 Z a797 a801 h0 n0 _ T831.heap _
    rw [e831]
    exact ⟨rfl, N0, rfl⟩
def Q16 (Z : State) (a762 : Addr) (a766 : Addr) (p770 : Int32) (h0 : Heap) (n0 : Nat) (v : Option Value) (h : Heap) (L : List Loc) : Prop := v = none ∧ Fr n0 L ∧ Keep h0 h [a762] ∧ Exa Z h a762 zs2 ∧ Fld Z h a762 zs2 "wordsInUse" "I" (.int (3 : Int32)) ∧ Fld Z h a762 zs2 zs5 "Z" (.int p770) ∧ Fld Z h a762 zs2 "words" "[J" (.ref a766)
set_option maxRecDepth 65536 in
set_option maxHeartbeats 40000000 in
theorem rm16 (l : Launch) (Z : State) (a0 : Array Value) (hw : ∀ d ∈ tables_1, d.before a0 Z = true) (ws : List Jvm.Cond) (a762 : Addr) (a766 : Addr) (p770 : Int32) (h0 : Heap) (n0 : Nat) (O0 : Old Z n0 h0) (pF_a762_wordsInUse : Fld Z h0 a762 zs2 "wordsInUse" "I" (.int (0 : Int32))) (pF_a762_words : Fld Z h0 a762 zs2 "words" "[J" (.ref a766)) (pL_a766 : own_Len Z h0 a766 .long (4 : Int32)) (pE_a762 : Exa Z h0 a762 zs2) (pG_a762 : n0 ≤ a762) (pF_a762_sizeIsSticky : Fld Z h0 a762 zs2 zs5 "Z" (.int p770)) :
    MetFree l (⟨zs2, "expandTo", "(I)V"⟩ : MethodName) (head1 (Jvm.Cond.code (⟨zs2, "expandTo", "(I)V"⟩ : MethodName) jdk_92_method_15_code 3 none :: ws) ({ frames := 1, cells := 0, slots := 0, locals := 14 } : Room)) (fun a U => a = #[(.ref a762), (.int (2 : Int32))] ∧ Z.Warmed39 U.vm ∧ U.heap = h0) (fun _ _ _ _ _ => True) (fun _ U o U' => ∃ v L, o = .returned v ∧ Q16 Z a762 a766 p770 h0 n0 v U'.heap L ∧ FrameEnd U o U' L ({ frames := 1, cells := 0, slots := 0, locals := 14 } : Room).cells ({ frames := 1, cells := 0, slots := 0, locals := 14 } : Room).slots) := by
  refine MetFree.of_bodySF (plainFor_of_name pn_1) hisR ?_
  intro p e s m args below meth c s₁ Bd hml0 hP hK
  obtain ⟨rfl, hZ, hh⟩ := hP
  have hx := Bd.exec
  have hby := Bd.bytes
  have hml : c.maxLocals = 3 := hml0
  have hown : s.vm.findClass zs2 = some m.cls := findClass_of_methodNamed Bd.named
  have hnm := (name_of_methodNamed Bd.named Bd.method).1
  have X0 : Stand p l e ({ frames := 1, cells := 0, slots := 0, locals := 14 } : Room) s m #[(.ref a762), (.int (2 : Int32))] below meth c s₁ [] 0 0 := Stand.of_body Bd
  have e0 : s₁.heap = h0 := by rw [← hh, Bd.state]; rfl
  have N0 := Fr.nil n0
  refine own_out ?_
  refine own_via (fun t k => castTop (ef_11 m a762 (2 : Int32)) (XS.iloadN X0.here hx rfl (hb hby d15_0) rfl (XS.iconst X0.here hx rfl (hb hby d15_1) (XS.iadd X0.here hx rfl (hb hby d15_2) rfl (XS.istoreN X0.here hx rfl (hb hby d15_3) rfl (l' := #[rv a762, iv (2 : Int32), iv (3 : Int32)]) rfl (XS.aloadN X0.here hx rfl (hb hby d15_4) rfl rfl k)))))) ?_
  show own_Goes p e below (s₁.setTop (mkF m 5 #[rv a762, iv (2 : Int32), iv (3 : Int32)] [(.ref a762)])) _
  obtain ⟨T795, X795, e795, st795⟩ := getF X0 hx hZ hown (host := "") (Or.inl (wd hw 16 rfl)) Via.refl e0 pF_a762_wordsInUse (g := (mkF m 5 #[rv a762, iv (2 : Int32), iv (3 : Int32)] [(.ref a762)])) rfl rfl (hb hby d15_5)
  refine own_via (fun t k => st795 t (XS.iloadN X795.here hx rfl (hb hby d15_8) rfl (XS.icmpNo X795.here hx rfl (hb hby d15_9) rfl (tlt (by decide : (0 : Int32) < (3 : Int32))).2.1 (XS.aloadN X795.here hx rfl (hb hby d15_12) rfl rfl (XS.iloadN X795.here hx rfl (hb hby d15_13) rfl k))))) ?_
  show own_Goes p e below (T795.setTop (mkF m 14 #[rv a762, iv (2 : Int32), iv (3 : Int32)] [(.int (3 : Int32)), (.ref a762)])) _
  obtain ⟨cq796, q796, q796'⟩ := pE_a762.cell
  obtain ⟨_, _, ⟨T796, L796, c796, n796⟩, -, X796, ⟨Lc796, hQ796, l796, y796, z796⟩, st796⟩ := X795.privateBack hx (y := (⟨zs2, zs7, "(I)V"⟩ : MethodName)) hown (mvT hZ (wd hw 87 rfl)) (mvT hZ (wd hw 88 rfl)) (mvT hZ (wd hw 90 rfl)) (Cond.privateMethod_at (mvP hZ (wd hw 89 rfl) (args := #[]))) (mvT hZ (wd hw 91 rfl)) (by decide) (backOf (W := 0) (rm15 l Z a0 hw [] a762 a766 h0 n0 O0 pF_a762_words pL_a766) hZ (wd hw 91 rfl) (wd hw 11 rfl) (by decide) (by decide)) (g := (mkF m 14 #[rv a762, iv (2 : Int32), iv (3 : Int32)] [(.int (3 : Int32)), (.ref a762)])) rfl (by rw [hml]; rfl) (Steps.refl _) (a := a762) (by rw [e795]; exact q796) q796' (argsL := [(.int (3 : Int32))]) (rest := []) (lenOf pd_2 rfl) rfl (by show 2 * 0 + _ ≤ _; exact Nat.le_of_eq rfl) (hb hby d15_14) (fun _ _ => ⟨rfl, e795, (by decide : 0 + 0 ≤ _), (by decide : 0 + 0 ≤ _)⟩)
  dsimp only [Pt.U, Pt.locs, Pt.cells, Pt.slots] at X796 l796 y796 z796 st796 hQ796
  subst l796 y796 z796
  obtain ⟨rfl, Nq796, hh833⟩ := hQ796
  have N796 := Fr.app N0 Nq796
  refine own_via (fun t k => st796.trans (XS.aloadN X796.here hx rfl (hb hby d15_17) rfl rfl (XS.iloadN X796.here hx rfl (hb hby d15_18) rfl k))) ?_
  show own_Goes p e below (T796.setTop (mkF m 19 #[rv a762, iv (2 : Int32), iv (3 : Int32)] [(.int (3 : Int32)), (.ref a762)])) _
  obtain ⟨T834, h834, X834, e834, W834, st834⟩ := putF X796 hx hZ hown (host := "") (Or.inl (wd hw 16 rfl)) Via.refl hh833 pF_a762_wordsInUse pE_a762 (Or.inl (wd hw 17 rfl)) (wd hw 10 rfl) (ty := .int) (by decide) rfl rfl (g := (mkF m 19 #[rv a762, iv (2 : Int32), iv (3 : Int32)] [(.int (3 : Int32)), (.ref a762)])) rfl rfl (hb hby d15_19)
  refine own_via (fun t k => st834 t k) ?_
  have Fw834 : Fld Z h834 a762 zs2 "wordsInUse" "I" (.int (3 : Int32)) := pF_a762_wordsInUse.same W834
  have N834 := Fr.snoc X834 N796 pG_a762
  show own_Goes p e below (T834.setTop (mkF m 22 #[rv a762, iv (2 : Int32), iv (3 : Int32)] [])) _
  obtain ⟨fs, hr, hrun, hended, hW, hsame⟩ := X834.leave (v := none) (fun _ => rfl)
  refine own_end (t := T834.setFrames fs) ?_ ⟨_, hrun, hended, _, _, rfl, ?_, ⟨_, rfl⟩, hW, hsame.mono (by decide) (by decide)⟩
  · exact X834.returnOut hx Bd.returns (hb hby d15_22) hr
  have E835 : Exa Z h834 a762 zs2 := (pE_a762.wr W834)
  have F836 : Fld Z h834 a762 zs2 zs5 "Z" (.int p770) := (pF_a762_sizeIsSticky.other W834 (Or.inr (slot_ne (Or.inl (wd hw 19 rfl)) (Or.inl (wd hw 17 rfl)) (by decide) (t := .boolean) (t' := .int) (by decide) (by decide))))
  have F837 : Fld Z h834 a762 zs2 "words" "[J" (.ref a766) := (pF_a762_words.other W834 (Or.inr (slot_ne (Or.inl (wd hw 30 rfl)) (Or.inl (wd hw 17 rfl)) (by decide) (t := (.array .long)) (t' := .int) (by decide) (by decide))))
  · show Q16 Z a762 a766 p770 h0 n0 _ T834.heap _
    rw [e834]
    exact ⟨rfl, N834, ((Keep.refl h0 [a762]).wr W834 (Or.inl (List.mem_of_getElem? (i := 0) rfl))), E835, Fw834, F836, F837⟩
def Q17 (Z : State) (a889 : Addr) (a893 : Addr) (h0 : Heap) (n0 : Nat) (v : Option Value) (h : Heap) (L : List Loc) : Prop := v = none ∧ Fr n0 L ∧ h = h0
set_option maxRecDepth 65536 in
set_option maxHeartbeats 40000000 in
theorem rm17 (l : Launch) (Z : State) (a0 : Array Value) (hw : ∀ d ∈ tables_1, d.before a0 Z = true) (ws : List Jvm.Cond) (a889 : Addr) (a893 : Addr) (h0 : Heap) (n0 : Nat) (O0 : Old Z n0 h0) (pF_a889_words : Fld Z h0 a889 zs2 "words" "[J" (.ref a893)) (pL_a893 : own_Len Z h0 a893 .long (4 : Int32)) :
    MetFree l (⟨zs2, zs7, "(I)V"⟩ : MethodName) (head1 (Jvm.Cond.code (⟨zs2, zs7, "(I)V"⟩ : MethodName) jdk_92_method_14_code 3 none :: ws) ({ frames := 0, cells := 0, slots := 0, locals := 0 } : Room)) (fun a U => a = #[(.ref a889), (.int (4 : Int32))] ∧ Z.Warmed39 U.vm ∧ U.heap = h0) (fun _ _ _ _ _ => True) (fun _ U o U' => ∃ v L, o = .returned v ∧ Q17 Z a889 a893 h0 n0 v U'.heap L ∧ FrameEnd U o U' L ({ frames := 0, cells := 0, slots := 0, locals := 0 } : Room).cells ({ frames := 0, cells := 0, slots := 0, locals := 0 } : Room).slots) := by
  refine MetFree.of_bodySF (plainFor_of_name pn_1) hisR ?_
  intro p e s m args below meth c s₁ Bd hml0 hP hK
  obtain ⟨rfl, hZ, hh⟩ := hP
  have hx := Bd.exec
  have hby := Bd.bytes
  have hml : c.maxLocals = 3 := hml0
  have hown : s.vm.findClass zs2 = some m.cls := findClass_of_methodNamed Bd.named
  have hnm := (name_of_methodNamed Bd.named Bd.method).1
  have X0 : Stand p l e ({ frames := 0, cells := 0, slots := 0, locals := 0 } : Room) s m #[(.ref a889), (.int (4 : Int32))] below meth c s₁ [] 0 0 := Stand.of_body Bd
  have e0 : s₁.heap = h0 := by rw [← hh, Bd.state]; rfl
  have N0 := Fr.nil n0
  refine own_out ?_
  refine own_via (fun t k => castTop (ef_10 m a889 (4 : Int32)) (XS.aloadN X0.here hx rfl (hb hby d16_0) rfl rfl k)) ?_
  obtain ⟨T923, X923, e923, st923⟩ := getF X0 hx hZ hown (host := "") (Or.inl (wd hw 29 rfl)) Via.refl e0 pF_a889_words (g := (mkF m 1 #[rv a889, iv (4 : Int32), .unset] [(.ref a889)])) rfl rfl (hb hby d16_1)
  refine own_via (fun t k => st923 t k) ?_
  obtain ⟨_, _, _, V924⟩ := id (pL_a893)
  obtain ⟨cl924, Ar924, -, S924, M924, -, -⟩ := id (V924)
  refine own_via (fun t k => X923.arraylength hx (by rw [e923]; exact Ar924.1) (State.isArrayOf_alike hZ.alike Ar924.2.1) (g := (mkF m 4 #[rv a889, iv (4 : Int32), .unset] [(.ref a893)])) rfl rfl (hb hby d16_4) t k) ?_
  rw [len_of S924 M924]
  show own_Goes p e below (T923.setTop (mkF m 5 #[rv a889, iv (4 : Int32), .unset] [(.int (4 : Int32))])) _
  refine own_via (fun t k => XS.iloadN X923.here hx rfl (hb hby d16_5) rfl (XS.icmpYes X923.here hx rfl (pc0 := 6) (pc' := 38) rfl (hb hby d16_6) rfl (flt (by decide : ¬ ((4 : Int32) < (4 : Int32)))).2.1 (by decide) (by decide) k)) ?_
  obtain ⟨fs, hr, hrun, hended, hW, hsame⟩ := X923.leave (v := none) (fun _ => rfl)
  refine own_end (t := T923.setFrames fs) ?_ ⟨_, hrun, hended, _, _, rfl, ?_, ⟨_, rfl⟩, hW, hsame.mono (by decide) (by decide)⟩
  · exact X923.returnOut hx Bd.returns (hb hby d16_38) hr
  · show Q17 Z a889 a893 h0 n0 _ T923.heap _
    rw [e923]
    exact ⟨rfl, N0, rfl⟩
def Q18 (Z : State) (a854 : Addr) (a858 : Addr) (p862 : Int32) (h0 : Heap) (n0 : Nat) (v : Option Value) (h : Heap) (L : List Loc) : Prop := v = none ∧ Fr n0 L ∧ Keep h0 h [a854] ∧ Exa Z h a854 zs2 ∧ Fld Z h a854 zs2 "wordsInUse" "I" (.int (4 : Int32)) ∧ Fld Z h a854 zs2 zs5 "Z" (.int p862) ∧ Fld Z h a854 zs2 "words" "[J" (.ref a858)
set_option maxRecDepth 65536 in
set_option maxHeartbeats 40000000 in
theorem rm18 (l : Launch) (Z : State) (a0 : Array Value) (hw : ∀ d ∈ tables_1, d.before a0 Z = true) (ws : List Jvm.Cond) (a854 : Addr) (a858 : Addr) (p862 : Int32) (h0 : Heap) (n0 : Nat) (O0 : Old Z n0 h0) (pF_a854_wordsInUse : Fld Z h0 a854 zs2 "wordsInUse" "I" (.int (0 : Int32))) (pF_a854_words : Fld Z h0 a854 zs2 "words" "[J" (.ref a858)) (pL_a858 : own_Len Z h0 a858 .long (4 : Int32)) (pE_a854 : Exa Z h0 a854 zs2) (pG_a854 : n0 ≤ a854) (pF_a854_sizeIsSticky : Fld Z h0 a854 zs2 zs5 "Z" (.int p862)) :
    MetFree l (⟨zs2, "expandTo", "(I)V"⟩ : MethodName) (head1 (Jvm.Cond.code (⟨zs2, "expandTo", "(I)V"⟩ : MethodName) jdk_92_method_15_code 3 none :: ws) ({ frames := 1, cells := 0, slots := 0, locals := 14 } : Room)) (fun a U => a = #[(.ref a854), (.int (3 : Int32))] ∧ Z.Warmed39 U.vm ∧ U.heap = h0) (fun _ _ _ _ _ => True) (fun _ U o U' => ∃ v L, o = .returned v ∧ Q18 Z a854 a858 p862 h0 n0 v U'.heap L ∧ FrameEnd U o U' L ({ frames := 1, cells := 0, slots := 0, locals := 14 } : Room).cells ({ frames := 1, cells := 0, slots := 0, locals := 14 } : Room).slots) := by
  refine MetFree.of_bodySF (plainFor_of_name pn_1) hisR ?_
  intro p e s m args below meth c s₁ Bd hml0 hP hK
  obtain ⟨rfl, hZ, hh⟩ := hP
  have hx := Bd.exec
  have hby := Bd.bytes
  have hml : c.maxLocals = 3 := hml0
  have hown : s.vm.findClass zs2 = some m.cls := findClass_of_methodNamed Bd.named
  have hnm := (name_of_methodNamed Bd.named Bd.method).1
  have X0 : Stand p l e ({ frames := 1, cells := 0, slots := 0, locals := 14 } : Room) s m #[(.ref a854), (.int (3 : Int32))] below meth c s₁ [] 0 0 := Stand.of_body Bd
  have e0 : s₁.heap = h0 := by rw [← hh, Bd.state]; rfl
  have N0 := Fr.nil n0
  refine own_out ?_
  refine own_via (fun t k => castTop (ef_11 m a854 (3 : Int32)) (XS.iloadN X0.here hx rfl (hb hby d15_0) rfl (XS.iconst X0.here hx rfl (hb hby d15_1) (XS.iadd X0.here hx rfl (hb hby d15_2) rfl (XS.istoreN X0.here hx rfl (hb hby d15_3) rfl (l' := #[rv a854, iv (3 : Int32), iv (4 : Int32)]) rfl (XS.aloadN X0.here hx rfl (hb hby d15_4) rfl rfl k)))))) ?_
  show own_Goes p e below (s₁.setTop (mkF m 5 #[rv a854, iv (3 : Int32), iv (4 : Int32)] [(.ref a854)])) _
  obtain ⟨T887, X887, e887, st887⟩ := getF X0 hx hZ hown (host := "") (Or.inl (wd hw 16 rfl)) Via.refl e0 pF_a854_wordsInUse (g := (mkF m 5 #[rv a854, iv (3 : Int32), iv (4 : Int32)] [(.ref a854)])) rfl rfl (hb hby d15_5)
  refine own_via (fun t k => st887 t (XS.iloadN X887.here hx rfl (hb hby d15_8) rfl (XS.icmpNo X887.here hx rfl (hb hby d15_9) rfl (tlt (by decide : (0 : Int32) < (4 : Int32))).2.1 (XS.aloadN X887.here hx rfl (hb hby d15_12) rfl rfl (XS.iloadN X887.here hx rfl (hb hby d15_13) rfl k))))) ?_
  show own_Goes p e below (T887.setTop (mkF m 14 #[rv a854, iv (3 : Int32), iv (4 : Int32)] [(.int (4 : Int32)), (.ref a854)])) _
  obtain ⟨cq888, q888, q888'⟩ := pE_a854.cell
  obtain ⟨_, _, ⟨T888, L888, c888, n888⟩, -, X888, ⟨Lc888, hQ888, l888, y888, z888⟩, st888⟩ := X887.privateBack hx (y := (⟨zs2, zs7, "(I)V"⟩ : MethodName)) hown (mvT hZ (wd hw 87 rfl)) (mvT hZ (wd hw 88 rfl)) (mvT hZ (wd hw 90 rfl)) (Cond.privateMethod_at (mvP hZ (wd hw 89 rfl) (args := #[]))) (mvT hZ (wd hw 91 rfl)) (by decide) (backOf (W := 0) (rm17 l Z a0 hw [] a854 a858 h0 n0 O0 pF_a854_words pL_a858) hZ (wd hw 91 rfl) (wd hw 11 rfl) (by decide) (by decide)) (g := (mkF m 14 #[rv a854, iv (3 : Int32), iv (4 : Int32)] [(.int (4 : Int32)), (.ref a854)])) rfl (by rw [hml]; rfl) (Steps.refl _) (a := a854) (by rw [e887]; exact q888) q888' (argsL := [(.int (4 : Int32))]) (rest := []) (lenOf pd_2 rfl) rfl (by show 2 * 0 + _ ≤ _; exact Nat.le_of_eq rfl) (hb hby d15_14) (fun _ _ => ⟨rfl, e887, (by decide : 0 + 0 ≤ _), (by decide : 0 + 0 ≤ _)⟩)
  dsimp only [Pt.U, Pt.locs, Pt.cells, Pt.slots] at X888 l888 y888 z888 st888 hQ888
  subst l888 y888 z888
  obtain ⟨rfl, Nq888, hh925⟩ := hQ888
  have N888 := Fr.app N0 Nq888
  refine own_via (fun t k => st888.trans (XS.aloadN X888.here hx rfl (hb hby d15_17) rfl rfl (XS.iloadN X888.here hx rfl (hb hby d15_18) rfl k))) ?_
  show own_Goes p e below (T888.setTop (mkF m 19 #[rv a854, iv (3 : Int32), iv (4 : Int32)] [(.int (4 : Int32)), (.ref a854)])) _
  obtain ⟨T926, h926, X926, e926, W926, st926⟩ := putF X888 hx hZ hown (host := "") (Or.inl (wd hw 16 rfl)) Via.refl hh925 pF_a854_wordsInUse pE_a854 (Or.inl (wd hw 17 rfl)) (wd hw 10 rfl) (ty := .int) (by decide) rfl rfl (g := (mkF m 19 #[rv a854, iv (3 : Int32), iv (4 : Int32)] [(.int (4 : Int32)), (.ref a854)])) rfl rfl (hb hby d15_19)
  refine own_via (fun t k => st926 t k) ?_
  have Fw926 : Fld Z h926 a854 zs2 "wordsInUse" "I" (.int (4 : Int32)) := pF_a854_wordsInUse.same W926
  have N926 := Fr.snoc X926 N888 pG_a854
  show own_Goes p e below (T926.setTop (mkF m 22 #[rv a854, iv (3 : Int32), iv (4 : Int32)] [])) _
  obtain ⟨fs, hr, hrun, hended, hW, hsame⟩ := X926.leave (v := none) (fun _ => rfl)
  refine own_end (t := T926.setFrames fs) ?_ ⟨_, hrun, hended, _, _, rfl, ?_, ⟨_, rfl⟩, hW, hsame.mono (by decide) (by decide)⟩
  · exact X926.returnOut hx Bd.returns (hb hby d15_22) hr
  have E927 : Exa Z h926 a854 zs2 := (pE_a854.wr W926)
  have F928 : Fld Z h926 a854 zs2 zs5 "Z" (.int p862) := (pF_a854_sizeIsSticky.other W926 (Or.inr (slot_ne (Or.inl (wd hw 19 rfl)) (Or.inl (wd hw 17 rfl)) (by decide) (t := .boolean) (t' := .int) (by decide) (by decide))))
  have F929 : Fld Z h926 a854 zs2 "words" "[J" (.ref a858) := (pF_a854_words.other W926 (Or.inr (slot_ne (Or.inl (wd hw 30 rfl)) (Or.inl (wd hw 17 rfl)) (by decide) (t := (.array .long)) (t' := .int) (by decide) (by decide))))
  · show Q18 Z a854 a858 p862 h0 n0 _ T926.heap _
    rw [e926]
    exact ⟨rfl, N926, ((Keep.refl h0 [a854]).wr W926 (Or.inl (List.mem_of_getElem? (i := 0) rfl))), E927, Fw926, F928, F929⟩
theorem ef_12 (m : MethodId) (x0 : Addr) (x1 : Int32) : entryFrame m #[(.ref x0), (.int x1)] 3 = mkF m 0 #[rv x0, iv x1, .unset] [] := by first | (simp [entryFrame, mkF, argsToLocals, Value.category]; done) | rfl
def Q19 (Z : State) (a542 : Addr) (p543 : Int32) (a547 : Addr) (p551 : Int32) (k552 : ClassId) (h0 : Heap) (n0 : Nat) (v : Option Value) (h : Heap) (L : List Loc) : Prop := v = none ∧ Fr n0 L ∧ Keep h0 h [a542, a547] ∧ Exa Z h a542 zs2
set_option maxRecDepth 65536 in
set_option maxHeartbeats 40000000 in
theorem rm19 (l : Launch) (Z : State) (a0 : Array Value) (hw : ∀ d ∈ tables_1, d.before a0 Z = true) (ws : List Jvm.Cond) (a542 : Addr) (p543 : Int32) (a547 : Addr) (p551 : Int32) (k552 : ClassId) (h0 : Heap) (n0 : Nat) (O0 : Old Z n0 h0) (pC568 : ¬ (p543 < (0 : Int32))) (pC569 : p543 < (256 : Int32)) (pF_a542_wordsInUse : Fld Z h0 a542 zs2 "wordsInUse" "I" (.int (0 : Int32))) (pF_a542_words : Fld Z h0 a542 zs2 "words" "[J" (.ref a547)) (pL_a547 : own_Len Z h0 a547 .long (4 : Int32)) (pE_a542 : Exa Z h0 a542 zs2) (pG_a542 : n0 ≤ a542) (pF_a542_sizeIsSticky : Fld Z h0 a542 zs2 zs5 "Z" (.int p551)) (pV_a547 : Arv Z h0 a547 k552 .long (4 : Int32) [] (.long (0 : Int64))) (pN_a542_a547 : a542 ≠ a547) (pG_a547 : n0 ≤ a547) (S_BitSet__assertionsDisabled : Sta Z Z.heap zs2 zs6 "Z" (.int (1 : Int32))) :
    MetFree l (⟨zs2, "set", "(I)V"⟩ : MethodName) (head1 (Jvm.Cond.code (⟨zs2, "set", "(I)V"⟩ : MethodName) jdk_92_method_19_code 3 none :: ws) ({ frames := 2, cells := 0, slots := 0, locals := 28 } : Room)) (fun a U => a = #[(.ref a542), (.int p543)] ∧ Z.Warmed39 U.vm ∧ U.heap = h0) (fun _ _ _ _ _ => True) (fun _ U o U' => ∃ v L, o = .returned v ∧ Q19 Z a542 p543 a547 p551 k552 h0 n0 v U'.heap L ∧ FrameEnd U o U' L ({ frames := 2, cells := 0, slots := 0, locals := 28 } : Room).cells ({ frames := 2, cells := 0, slots := 0, locals := 28 } : Room).slots) := by
  refine MetFree.of_bodySF (plainFor_of_name pn_1) hisR ?_
  intro p e s m args below meth c s₁ Bd hml0 hP hK
  obtain ⟨rfl, hZ, hh⟩ := hP
  have hx := Bd.exec
  have hby := Bd.bytes
  have hml : c.maxLocals = 3 := hml0
  have hown : s.vm.findClass zs2 = some m.cls := findClass_of_methodNamed Bd.named
  have hnm := (name_of_methodNamed Bd.named Bd.method).1
  have X0 : Stand p l e ({ frames := 2, cells := 0, slots := 0, locals := 28 } : Room) s m #[(.ref a542), (.int p543)] below meth c s₁ [] 0 0 := Stand.of_body Bd
  have e0 : s₁.heap = h0 := by rw [← hh, Bd.state]; rfl
  have N0 := Fr.nil n0
  refine own_out ?_
  refine own_via (fun t k => castTop (ef_12 m a542 p543) (XS.iloadN X0.here hx rfl (hb hby d14_0) rfl (XS.ifYes X0.here hx rfl (pc0 := 1) (pc' := 31) rfl (hb hby d14_1) rfl ((if0 _ _).trans (flt pC568).2.1) (by decide) (by decide) (XS.iloadN X0.here hx rfl (hb hby d14_31) rfl k)))) ?_
  show own_Goes p e below (s₁.setTop (mkF m 32 #[rv a542, iv p543, .unset] [(.int p543)])) _
  obtain ⟨_, T574, _, X574, hQ574, st574⟩ := own_cs X0 hx hZ hown (wd hw 25 rfl) (wd hw 26 rfl) (wd hw 27 rfl) (wd hw 11 rfl) (by decide) (rm9 l Z a0 hw [] p543 h0 n0 O0 ) e0 (g := (mkF m 32 #[rv a542, iv p543, .unset] [(.int p543)])) rfl (by rw [hml]; rfl) (rest := []) (W := 0) (lenOf pd_1 rfl) rfl (by show 2 * 0 + _ ≤ _; exact Nat.le_of_eq rfl) (hb hby d14_32) (by decide) (by decide) (by decide) (by decide)
  obtain ⟨rfl, Nq574, hh575⟩ := hQ574
  have N574 := Fr.app N0 Nq574
  refine own_via (fun t k => st574 t k) ?_
  show own_Goes p e below (T574.setTop (mkF m 35 #[rv a542, iv p543, .unset] [(.int (p543 >>> ((6 : Int32) &&& 31)))])) _
  rcases own_idx4 pC568 pC569 with qs | qs | qs | qs
  · have qs576 := qs
    rw [qs]
    show own_Goes p e below (T574.setTop (mkF m 35 #[rv a542, iv p543, .unset] [(.int (0 : Int32))])) _
    refine own_via (fun t k => XS.istoreN X574.here hx rfl (hb hby d14_35) rfl (l' := #[rv a542, iv p543, iv (0 : Int32)]) rfl (XS.aloadN X574.here hx rfl (hb hby d14_36) rfl rfl (XS.iloadN X574.here hx rfl (hb hby d14_37) rfl k))) ?_
    show own_Goes p e below (T574.setTop (mkF m 38 #[rv a542, iv p543, iv (0 : Int32)] [(.int (0 : Int32)), (.ref a542)])) _
    obtain ⟨cq577, q577, q577'⟩ := pE_a542.cell
    obtain ⟨_, _, ⟨T577, L577, c577, n577⟩, -, X577, ⟨Lc577, hQ577, l577, y577, z577⟩, st577⟩ := X574.privateBack hx (y := (⟨zs2, "expandTo", "(I)V"⟩ : MethodName)) hown (mvT hZ (wd hw 82 rfl)) (mvT hZ (wd hw 83 rfl)) (mvT hZ (wd hw 85 rfl)) (Cond.privateMethod_at (mvP hZ (wd hw 84 rfl) (args := #[]))) (mvT hZ (wd hw 86 rfl)) (by decide) (backOf (W := 0) (rm12 l Z a0 hw [] a542 a547 p551 h0 n0 O0 pF_a542_wordsInUse pF_a542_words pL_a547 pE_a542 pG_a542 pF_a542_sizeIsSticky) hZ (wd hw 86 rfl) (wd hw 11 rfl) (by decide) (by decide)) (g := (mkF m 38 #[rv a542, iv p543, iv (0 : Int32)] [(.int (0 : Int32)), (.ref a542)])) rfl (by rw [hml]; rfl) (Steps.refl _) (a := a542) (by rw [hh575]; exact q577) q577' (argsL := [(.int (0 : Int32))]) (rest := []) (lenOf pd_2 rfl) rfl (by show 2 * 0 + _ ≤ _; exact Nat.le_of_eq rfl) (hb hby d14_38) (fun _ _ => ⟨rfl, hh575, (by decide : 0 + 0 ≤ _), (by decide : 0 + 0 ≤ _)⟩)
    dsimp only [Pt.U, Pt.locs, Pt.cells, Pt.slots] at X577 l577 y577 z577 st577 hQ577
    subst l577 y577 z577
    obtain ⟨h577, e577⟩ : ∃ z, T577.heap = z := ⟨_, rfl⟩
    rw [e577] at hQ577
    obtain ⟨rfl, Nq577, K577, ex654, fx655, fx656, fx657⟩ := hQ577
    have N577 := Fr.app N574 Nq577
    refine own_via (fun t k => st577.trans (XS.aloadN X577.here hx rfl (hb hby d14_41) rfl rfl k)) ?_
    obtain ⟨T658, X658, e658, st658⟩ := getF X577 hx hZ hown (host := "") (Or.inl (wd hw 29 rfl)) Via.refl e577 fx657 (g := (mkF m 42 #[rv a542, iv p543, iv (0 : Int32)] [(.ref a542)])) rfl rfl (hb hby d14_42)
    refine own_via (fun t k => st658 t (XS.iloadN X658.here hx rfl (hb hby d14_45) rfl k)) ?_
    refine own_via (S' := T658.setTop (mkF m 47 #[rv a542, iv p543, iv (0 : Int32)] [(.int (0 : Int32)), (.ref a547), (.int (0 : Int32)), (.ref a547)])) (fun t k => by jvm_step X658.here [X658.here.top, hx, (hb hby d14_46), Value.category]; exact k) ?_
    show own_Goes p e below (T658.setTop (mkF m 47 #[rv a542, iv p543, iv (0 : Int32)] [(.int (0 : Int32)), (.ref a547), (.int (0 : Int32)), (.ref a547)])) _
    have V659 : Arv Z h577 a547 k552 .long (4 : Int32) [] (.long (0 : Int64)) := (pV_a547.keep K577 (ninS (Ne.symm pN_a542_a547) nin0))
    obtain ⟨cl660, Ar660, qq660, S660, M660, H660, G660⟩ := id (V659)
    have hin660 : ¬ ((0 : Int32) < 0 ∨ cl660.slots.size ≤ ((0 : Int32)).toNatClampNeg) := inb_of S660 ⟨by decide, by decide⟩
    refine own_via (fun t k => X658.laload hx (j := (0 : Int32)) (v := (.long (0 : Int64))) (by rw [e658]; exact Ar660.1) (State.isArrayOf_alike hZ.alike Ar660.2.1) Ar660.2.2 hin660 (Has.at H660 hin660 rfl) (g := (mkF m 47 #[rv a542, iv p543, iv (0 : Int32)] [(.int (0 : Int32)), (.ref a547), (.int (0 : Int32)), (.ref a547)])) rfl rfl (hb hby d14_47) t (XS.lconst X658.here hx rfl (hb hby d14_48) (XS.iloadN X658.here hx rfl (hb hby d14_49) rfl (XS.lshl X658.here hx rfl (hb hby d14_50) rfl (XS.lor X658.here hx rfl (hb hby d14_51) rfl k))))) ?_
    show own_Goes p e below (T658.setTop (mkF m 52 #[rv a542, iv p543, iv (0 : Int32)] [(.long ((0 : Int64) ||| ((1 : Int64) <<< (p543 &&& 0x3f).toInt64))), (.int (0 : Int32)), (.ref a547)])) _
    have V661 : Arv Z h577 a547 k552 .long (4 : Int32) [(.long (0 : Int64))] (.long (0 : Int64)) := V659.pad (pad_rep [] (.long (0 : Int64)) 1)
    obtain ⟨cl662, Ar662, qq662, S662, M662, H662, G662⟩ := id (V661)
    have hin662 : ¬ ((0 : Int32) < 0 ∨ cl662.slots.size ≤ ((0 : Int32)).toNatClampNeg) := inb_of S662 ⟨by decide, by decide⟩
    obtain ⟨T662, h662, X662, e662, W662, st662⟩ := stJ X658 hx hZ e658 Ar662 (j := (0 : Int32)) hin662 (g := (mkF m 52 #[rv a542, iv p543, iv (0 : Int32)] [(.long ((0 : Int64) ||| ((1 : Int64) <<< (p543 &&& 0x3f).toInt64))), (.int (0 : Int32)), (.ref a547)])) rfl rfl (hb hby d14_52)
    refine own_via (fun t k => st662 t k) ?_
    have V663 : Arv Z h662 a547 k552 .long (4 : Int32) [(.long ((0 : Int64) ||| ((1 : Int64) <<< (p543 &&& 0x3f).toInt64)))] (.long (0 : Int64)) := Arv.set Ar662 qq662 S662 M662 H662 G662 rfl W662 0 rfl (Nat.le_of_ble_eq_true rfl)
    have N662 := Fr.snoc X662 N577 pG_a547
    show own_Goes p e below (T662.setTop (mkF m 53 #[rv a542, iv p543, iv (0 : Int32)] [])) _
    refine own_via (fun t k => XS.aloadN X662.here hx rfl (hb hby d14_53) rfl rfl k) ?_
    have O665 : Old Z n0 h662 := ((O0.keep K577 (allS pG_a542 all0)).wr W662 pG_a547)
    have E666 : Exa Z h662 a542 zs2 := (ex654.wr W662)
    obtain ⟨cq664, q664, q664'⟩ := E666.cell
    obtain ⟨_, _, ⟨T664, L664, c664, n664⟩, -, X664, ⟨Lc664, hQ664, l664, y664, z664⟩, st664⟩ := X662.privateBack hx (y := (⟨zs2, zs8, "()V"⟩ : MethodName)) hown (mvT hZ (wd hw 71 rfl)) (mvT hZ (wd hw 72 rfl)) (mvT hZ (wd hw 74 rfl)) (Cond.privateMethod_at (mvP hZ (wd hw 73 rfl) (args := #[]))) (mvT hZ (wd hw 75 rfl)) (by decide) (backOf (W := 0) (rm8 l Z a0 hw [] a542 h662 n0 O665 S_BitSet__assertionsDisabled) hZ (wd hw 75 rfl) (wd hw 11 rfl) (by decide) (by decide)) (g := (mkF m 54 #[rv a542, iv p543, iv (0 : Int32)] [(.ref a542)])) rfl (by rw [hml]; rfl) (Steps.refl _) (a := a542) (by rw [e662]; exact q664) q664' (argsL := []) (rest := []) (lenOf pd_3 rfl) rfl (by show 2 * 0 + _ ≤ _; exact Nat.le_of_eq rfl) (hb hby d14_54) (fun _ _ => ⟨rfl, e662, (by decide : 0 + 0 ≤ _), (by decide : 0 + 0 ≤ _)⟩)
    dsimp only [Pt.U, Pt.locs, Pt.cells, Pt.slots] at X664 l664 y664 z664 st664 hQ664
    subst l664 y664 z664
    obtain ⟨rfl, Nq664, hh667⟩ := hQ664
    have N664 := Fr.app N662 Nq664
    refine own_via (fun t k => st664.trans k) ?_
    obtain ⟨fs, hr, hrun, hended, hW, hsame⟩ := X664.leave (v := none) (fun _ => rfl)
    refine own_end (t := T664.setFrames fs) ?_ ⟨_, hrun, hended, _, _, rfl, ?_, ⟨_, rfl⟩, hW, hsame.mono (by decide) (by decide)⟩
    · exact X664.returnOut hx Bd.returns (hb hby d14_57) hr
    · show Q19 Z a542 p543 a547 p551 k552 h0 n0 _ T664.heap _
      rw [hh667]
      exact ⟨rfl, N664, (((Keep.refl h0 [a542, a547]).trans K577 (allS (Or.inl (List.mem_of_getElem? (i := 0) rfl)) all0)).wr W662 (Or.inl (List.mem_of_getElem? (i := 1) rfl))), E666⟩
  · have qs668 := qs
    rw [qs]
    show own_Goes p e below (T574.setTop (mkF m 35 #[rv a542, iv p543, .unset] [(.int (1 : Int32))])) _
    refine own_via (fun t k => XS.istoreN X574.here hx rfl (hb hby d14_35) rfl (l' := #[rv a542, iv p543, iv (1 : Int32)]) rfl (XS.aloadN X574.here hx rfl (hb hby d14_36) rfl rfl (XS.iloadN X574.here hx rfl (hb hby d14_37) rfl k))) ?_
    show own_Goes p e below (T574.setTop (mkF m 38 #[rv a542, iv p543, iv (1 : Int32)] [(.int (1 : Int32)), (.ref a542)])) _
    obtain ⟨cq669, q669, q669'⟩ := pE_a542.cell
    obtain ⟨_, _, ⟨T669, L669, c669, n669⟩, -, X669, ⟨Lc669, hQ669, l669, y669, z669⟩, st669⟩ := X574.privateBack hx (y := (⟨zs2, "expandTo", "(I)V"⟩ : MethodName)) hown (mvT hZ (wd hw 82 rfl)) (mvT hZ (wd hw 83 rfl)) (mvT hZ (wd hw 85 rfl)) (Cond.privateMethod_at (mvP hZ (wd hw 84 rfl) (args := #[]))) (mvT hZ (wd hw 86 rfl)) (by decide) (backOf (W := 0) (rm14 l Z a0 hw [] a542 a547 p551 h0 n0 O0 pF_a542_wordsInUse pF_a542_words pL_a547 pE_a542 pG_a542 pF_a542_sizeIsSticky) hZ (wd hw 86 rfl) (wd hw 11 rfl) (by decide) (by decide)) (g := (mkF m 38 #[rv a542, iv p543, iv (1 : Int32)] [(.int (1 : Int32)), (.ref a542)])) rfl (by rw [hml]; rfl) (Steps.refl _) (a := a542) (by rw [hh575]; exact q669) q669' (argsL := [(.int (1 : Int32))]) (rest := []) (lenOf pd_2 rfl) rfl (by show 2 * 0 + _ ≤ _; exact Nat.le_of_eq rfl) (hb hby d14_38) (fun _ _ => ⟨rfl, hh575, (by decide : 0 + 0 ≤ _), (by decide : 0 + 0 ≤ _)⟩)
    dsimp only [Pt.U, Pt.locs, Pt.cells, Pt.slots] at X669 l669 y669 z669 st669 hQ669
    subst l669 y669 z669
    obtain ⟨h669, e669⟩ : ∃ z, T669.heap = z := ⟨_, rfl⟩
    rw [e669] at hQ669
    obtain ⟨rfl, Nq669, K669, ex746, fx747, fx748, fx749⟩ := hQ669
    have N669 := Fr.app N574 Nq669
    refine own_via (fun t k => st669.trans (XS.aloadN X669.here hx rfl (hb hby d14_41) rfl rfl k)) ?_
    obtain ⟨T750, X750, e750, st750⟩ := getF X669 hx hZ hown (host := "") (Or.inl (wd hw 29 rfl)) Via.refl e669 fx749 (g := (mkF m 42 #[rv a542, iv p543, iv (1 : Int32)] [(.ref a542)])) rfl rfl (hb hby d14_42)
    refine own_via (fun t k => st750 t (XS.iloadN X750.here hx rfl (hb hby d14_45) rfl k)) ?_
    refine own_via (S' := T750.setTop (mkF m 47 #[rv a542, iv p543, iv (1 : Int32)] [(.int (1 : Int32)), (.ref a547), (.int (1 : Int32)), (.ref a547)])) (fun t k => by jvm_step X750.here [X750.here.top, hx, (hb hby d14_46), Value.category]; exact k) ?_
    show own_Goes p e below (T750.setTop (mkF m 47 #[rv a542, iv p543, iv (1 : Int32)] [(.int (1 : Int32)), (.ref a547), (.int (1 : Int32)), (.ref a547)])) _
    have V751 : Arv Z h669 a547 k552 .long (4 : Int32) [] (.long (0 : Int64)) := (pV_a547.keep K669 (ninS (Ne.symm pN_a542_a547) nin0))
    obtain ⟨cl752, Ar752, qq752, S752, M752, H752, G752⟩ := id (V751)
    have hin752 : ¬ ((1 : Int32) < 0 ∨ cl752.slots.size ≤ ((1 : Int32)).toNatClampNeg) := inb_of S752 ⟨by decide, by decide⟩
    refine own_via (fun t k => X750.laload hx (j := (1 : Int32)) (v := (.long (0 : Int64))) (by rw [e750]; exact Ar752.1) (State.isArrayOf_alike hZ.alike Ar752.2.1) Ar752.2.2 hin752 (Has.at H752 hin752 rfl) (g := (mkF m 47 #[rv a542, iv p543, iv (1 : Int32)] [(.int (1 : Int32)), (.ref a547), (.int (1 : Int32)), (.ref a547)])) rfl rfl (hb hby d14_47) t (XS.lconst X750.here hx rfl (hb hby d14_48) (XS.iloadN X750.here hx rfl (hb hby d14_49) rfl (XS.lshl X750.here hx rfl (hb hby d14_50) rfl (XS.lor X750.here hx rfl (hb hby d14_51) rfl k))))) ?_
    show own_Goes p e below (T750.setTop (mkF m 52 #[rv a542, iv p543, iv (1 : Int32)] [(.long ((0 : Int64) ||| ((1 : Int64) <<< (p543 &&& 0x3f).toInt64))), (.int (1 : Int32)), (.ref a547)])) _
    have V753 : Arv Z h669 a547 k552 .long (4 : Int32) [(.long (0 : Int64)), (.long (0 : Int64))] (.long (0 : Int64)) := V751.pad (pad_rep [] (.long (0 : Int64)) 2)
    obtain ⟨cl754, Ar754, qq754, S754, M754, H754, G754⟩ := id (V753)
    have hin754 : ¬ ((1 : Int32) < 0 ∨ cl754.slots.size ≤ ((1 : Int32)).toNatClampNeg) := inb_of S754 ⟨by decide, by decide⟩
    obtain ⟨T754, h754, X754, e754, W754, st754⟩ := stJ X750 hx hZ e750 Ar754 (j := (1 : Int32)) hin754 (g := (mkF m 52 #[rv a542, iv p543, iv (1 : Int32)] [(.long ((0 : Int64) ||| ((1 : Int64) <<< (p543 &&& 0x3f).toInt64))), (.int (1 : Int32)), (.ref a547)])) rfl rfl (hb hby d14_52)
    refine own_via (fun t k => st754 t k) ?_
    have V755 : Arv Z h754 a547 k552 .long (4 : Int32) [(.long (0 : Int64)), (.long ((0 : Int64) ||| ((1 : Int64) <<< (p543 &&& 0x3f).toInt64)))] (.long (0 : Int64)) := Arv.set Ar754 qq754 S754 M754 H754 G754 rfl W754 1 rfl (Nat.le_of_ble_eq_true rfl)
    have N754 := Fr.snoc X754 N669 pG_a547
    show own_Goes p e below (T754.setTop (mkF m 53 #[rv a542, iv p543, iv (1 : Int32)] [])) _
    refine own_via (fun t k => XS.aloadN X754.here hx rfl (hb hby d14_53) rfl rfl k) ?_
    have O757 : Old Z n0 h754 := ((O0.keep K669 (allS pG_a542 all0)).wr W754 pG_a547)
    have E758 : Exa Z h754 a542 zs2 := (ex746.wr W754)
    obtain ⟨cq756, q756, q756'⟩ := E758.cell
    obtain ⟨_, _, ⟨T756, L756, c756, n756⟩, -, X756, ⟨Lc756, hQ756, l756, y756, z756⟩, st756⟩ := X754.privateBack hx (y := (⟨zs2, zs8, "()V"⟩ : MethodName)) hown (mvT hZ (wd hw 71 rfl)) (mvT hZ (wd hw 72 rfl)) (mvT hZ (wd hw 74 rfl)) (Cond.privateMethod_at (mvP hZ (wd hw 73 rfl) (args := #[]))) (mvT hZ (wd hw 75 rfl)) (by decide) (backOf (W := 0) (rm8 l Z a0 hw [] a542 h754 n0 O757 S_BitSet__assertionsDisabled) hZ (wd hw 75 rfl) (wd hw 11 rfl) (by decide) (by decide)) (g := (mkF m 54 #[rv a542, iv p543, iv (1 : Int32)] [(.ref a542)])) rfl (by rw [hml]; rfl) (Steps.refl _) (a := a542) (by rw [e754]; exact q756) q756' (argsL := []) (rest := []) (lenOf pd_3 rfl) rfl (by show 2 * 0 + _ ≤ _; exact Nat.le_of_eq rfl) (hb hby d14_54) (fun _ _ => ⟨rfl, e754, (by decide : 0 + 0 ≤ _), (by decide : 0 + 0 ≤ _)⟩)
    dsimp only [Pt.U, Pt.locs, Pt.cells, Pt.slots] at X756 l756 y756 z756 st756 hQ756
    subst l756 y756 z756
    obtain ⟨rfl, Nq756, hh759⟩ := hQ756
    have N756 := Fr.app N754 Nq756
    refine own_via (fun t k => st756.trans k) ?_
    obtain ⟨fs, hr, hrun, hended, hW, hsame⟩ := X756.leave (v := none) (fun _ => rfl)
    refine own_end (t := T756.setFrames fs) ?_ ⟨_, hrun, hended, _, _, rfl, ?_, ⟨_, rfl⟩, hW, hsame.mono (by decide) (by decide)⟩
    · exact X756.returnOut hx Bd.returns (hb hby d14_57) hr
    · show Q19 Z a542 p543 a547 p551 k552 h0 n0 _ T756.heap _
      rw [hh759]
      exact ⟨rfl, N756, (((Keep.refl h0 [a542, a547]).trans K669 (allS (Or.inl (List.mem_of_getElem? (i := 0) rfl)) all0)).wr W754 (Or.inl (List.mem_of_getElem? (i := 1) rfl))), E758⟩
  · have qs760 := qs
    rw [qs]
    show own_Goes p e below (T574.setTop (mkF m 35 #[rv a542, iv p543, .unset] [(.int (2 : Int32))])) _
    refine own_via (fun t k => XS.istoreN X574.here hx rfl (hb hby d14_35) rfl (l' := #[rv a542, iv p543, iv (2 : Int32)]) rfl (XS.aloadN X574.here hx rfl (hb hby d14_36) rfl rfl (XS.iloadN X574.here hx rfl (hb hby d14_37) rfl k))) ?_
    show own_Goes p e below (T574.setTop (mkF m 38 #[rv a542, iv p543, iv (2 : Int32)] [(.int (2 : Int32)), (.ref a542)])) _
    obtain ⟨cq761, q761, q761'⟩ := pE_a542.cell
    obtain ⟨_, _, ⟨T761, L761, c761, n761⟩, -, X761, ⟨Lc761, hQ761, l761, y761, z761⟩, st761⟩ := X574.privateBack hx (y := (⟨zs2, "expandTo", "(I)V"⟩ : MethodName)) hown (mvT hZ (wd hw 82 rfl)) (mvT hZ (wd hw 83 rfl)) (mvT hZ (wd hw 85 rfl)) (Cond.privateMethod_at (mvP hZ (wd hw 84 rfl) (args := #[]))) (mvT hZ (wd hw 86 rfl)) (by decide) (backOf (W := 0) (rm16 l Z a0 hw [] a542 a547 p551 h0 n0 O0 pF_a542_wordsInUse pF_a542_words pL_a547 pE_a542 pG_a542 pF_a542_sizeIsSticky) hZ (wd hw 86 rfl) (wd hw 11 rfl) (by decide) (by decide)) (g := (mkF m 38 #[rv a542, iv p543, iv (2 : Int32)] [(.int (2 : Int32)), (.ref a542)])) rfl (by rw [hml]; rfl) (Steps.refl _) (a := a542) (by rw [hh575]; exact q761) q761' (argsL := [(.int (2 : Int32))]) (rest := []) (lenOf pd_2 rfl) rfl (by show 2 * 0 + _ ≤ _; exact Nat.le_of_eq rfl) (hb hby d14_38) (fun _ _ => ⟨rfl, hh575, (by decide : 0 + 0 ≤ _), (by decide : 0 + 0 ≤ _)⟩)
    dsimp only [Pt.U, Pt.locs, Pt.cells, Pt.slots] at X761 l761 y761 z761 st761 hQ761
    subst l761 y761 z761
    obtain ⟨h761, e761⟩ : ∃ z, T761.heap = z := ⟨_, rfl⟩
    rw [e761] at hQ761
    obtain ⟨rfl, Nq761, K761, ex838, fx839, fx840, fx841⟩ := hQ761
    have N761 := Fr.app N574 Nq761
    refine own_via (fun t k => st761.trans (XS.aloadN X761.here hx rfl (hb hby d14_41) rfl rfl k)) ?_
    obtain ⟨T842, X842, e842, st842⟩ := getF X761 hx hZ hown (host := "") (Or.inl (wd hw 29 rfl)) Via.refl e761 fx841 (g := (mkF m 42 #[rv a542, iv p543, iv (2 : Int32)] [(.ref a542)])) rfl rfl (hb hby d14_42)
    refine own_via (fun t k => st842 t (XS.iloadN X842.here hx rfl (hb hby d14_45) rfl k)) ?_
    refine own_via (S' := T842.setTop (mkF m 47 #[rv a542, iv p543, iv (2 : Int32)] [(.int (2 : Int32)), (.ref a547), (.int (2 : Int32)), (.ref a547)])) (fun t k => by jvm_step X842.here [X842.here.top, hx, (hb hby d14_46), Value.category]; exact k) ?_
    show own_Goes p e below (T842.setTop (mkF m 47 #[rv a542, iv p543, iv (2 : Int32)] [(.int (2 : Int32)), (.ref a547), (.int (2 : Int32)), (.ref a547)])) _
    have V843 : Arv Z h761 a547 k552 .long (4 : Int32) [] (.long (0 : Int64)) := (pV_a547.keep K761 (ninS (Ne.symm pN_a542_a547) nin0))
    obtain ⟨cl844, Ar844, qq844, S844, M844, H844, G844⟩ := id (V843)
    have hin844 : ¬ ((2 : Int32) < 0 ∨ cl844.slots.size ≤ ((2 : Int32)).toNatClampNeg) := inb_of S844 ⟨by decide, by decide⟩
    refine own_via (fun t k => X842.laload hx (j := (2 : Int32)) (v := (.long (0 : Int64))) (by rw [e842]; exact Ar844.1) (State.isArrayOf_alike hZ.alike Ar844.2.1) Ar844.2.2 hin844 (Has.at H844 hin844 rfl) (g := (mkF m 47 #[rv a542, iv p543, iv (2 : Int32)] [(.int (2 : Int32)), (.ref a547), (.int (2 : Int32)), (.ref a547)])) rfl rfl (hb hby d14_47) t (XS.lconst X842.here hx rfl (hb hby d14_48) (XS.iloadN X842.here hx rfl (hb hby d14_49) rfl (XS.lshl X842.here hx rfl (hb hby d14_50) rfl (XS.lor X842.here hx rfl (hb hby d14_51) rfl k))))) ?_
    show own_Goes p e below (T842.setTop (mkF m 52 #[rv a542, iv p543, iv (2 : Int32)] [(.long ((0 : Int64) ||| ((1 : Int64) <<< (p543 &&& 0x3f).toInt64))), (.int (2 : Int32)), (.ref a547)])) _
    have V845 : Arv Z h761 a547 k552 .long (4 : Int32) [(.long (0 : Int64)), (.long (0 : Int64)), (.long (0 : Int64))] (.long (0 : Int64)) := V843.pad (pad_rep [] (.long (0 : Int64)) 3)
    obtain ⟨cl846, Ar846, qq846, S846, M846, H846, G846⟩ := id (V845)
    have hin846 : ¬ ((2 : Int32) < 0 ∨ cl846.slots.size ≤ ((2 : Int32)).toNatClampNeg) := inb_of S846 ⟨by decide, by decide⟩
    obtain ⟨T846, h846, X846, e846, W846, st846⟩ := stJ X842 hx hZ e842 Ar846 (j := (2 : Int32)) hin846 (g := (mkF m 52 #[rv a542, iv p543, iv (2 : Int32)] [(.long ((0 : Int64) ||| ((1 : Int64) <<< (p543 &&& 0x3f).toInt64))), (.int (2 : Int32)), (.ref a547)])) rfl rfl (hb hby d14_52)
    refine own_via (fun t k => st846 t k) ?_
    have V847 : Arv Z h846 a547 k552 .long (4 : Int32) [(.long (0 : Int64)), (.long (0 : Int64)), (.long ((0 : Int64) ||| ((1 : Int64) <<< (p543 &&& 0x3f).toInt64)))] (.long (0 : Int64)) := Arv.set Ar846 qq846 S846 M846 H846 G846 rfl W846 2 rfl (Nat.le_of_ble_eq_true rfl)
    have N846 := Fr.snoc X846 N761 pG_a547
    show own_Goes p e below (T846.setTop (mkF m 53 #[rv a542, iv p543, iv (2 : Int32)] [])) _
    refine own_via (fun t k => XS.aloadN X846.here hx rfl (hb hby d14_53) rfl rfl k) ?_
    have O849 : Old Z n0 h846 := ((O0.keep K761 (allS pG_a542 all0)).wr W846 pG_a547)
    have E850 : Exa Z h846 a542 zs2 := (ex838.wr W846)
    obtain ⟨cq848, q848, q848'⟩ := E850.cell
    obtain ⟨_, _, ⟨T848, L848, c848, n848⟩, -, X848, ⟨Lc848, hQ848, l848, y848, z848⟩, st848⟩ := X846.privateBack hx (y := (⟨zs2, zs8, "()V"⟩ : MethodName)) hown (mvT hZ (wd hw 71 rfl)) (mvT hZ (wd hw 72 rfl)) (mvT hZ (wd hw 74 rfl)) (Cond.privateMethod_at (mvP hZ (wd hw 73 rfl) (args := #[]))) (mvT hZ (wd hw 75 rfl)) (by decide) (backOf (W := 0) (rm8 l Z a0 hw [] a542 h846 n0 O849 S_BitSet__assertionsDisabled) hZ (wd hw 75 rfl) (wd hw 11 rfl) (by decide) (by decide)) (g := (mkF m 54 #[rv a542, iv p543, iv (2 : Int32)] [(.ref a542)])) rfl (by rw [hml]; rfl) (Steps.refl _) (a := a542) (by rw [e846]; exact q848) q848' (argsL := []) (rest := []) (lenOf pd_3 rfl) rfl (by show 2 * 0 + _ ≤ _; exact Nat.le_of_eq rfl) (hb hby d14_54) (fun _ _ => ⟨rfl, e846, (by decide : 0 + 0 ≤ _), (by decide : 0 + 0 ≤ _)⟩)
    dsimp only [Pt.U, Pt.locs, Pt.cells, Pt.slots] at X848 l848 y848 z848 st848 hQ848
    subst l848 y848 z848
    obtain ⟨rfl, Nq848, hh851⟩ := hQ848
    have N848 := Fr.app N846 Nq848
    refine own_via (fun t k => st848.trans k) ?_
    obtain ⟨fs, hr, hrun, hended, hW, hsame⟩ := X848.leave (v := none) (fun _ => rfl)
    refine own_end (t := T848.setFrames fs) ?_ ⟨_, hrun, hended, _, _, rfl, ?_, ⟨_, rfl⟩, hW, hsame.mono (by decide) (by decide)⟩
    · exact X848.returnOut hx Bd.returns (hb hby d14_57) hr
    · show Q19 Z a542 p543 a547 p551 k552 h0 n0 _ T848.heap _
      rw [hh851]
      exact ⟨rfl, N848, (((Keep.refl h0 [a542, a547]).trans K761 (allS (Or.inl (List.mem_of_getElem? (i := 0) rfl)) all0)).wr W846 (Or.inl (List.mem_of_getElem? (i := 1) rfl))), E850⟩
  · have qs852 := qs
    rw [qs]
    show own_Goes p e below (T574.setTop (mkF m 35 #[rv a542, iv p543, .unset] [(.int (3 : Int32))])) _
    refine own_via (fun t k => XS.istoreN X574.here hx rfl (hb hby d14_35) rfl (l' := #[rv a542, iv p543, iv (3 : Int32)]) rfl (XS.aloadN X574.here hx rfl (hb hby d14_36) rfl rfl (XS.iloadN X574.here hx rfl (hb hby d14_37) rfl k))) ?_
    show own_Goes p e below (T574.setTop (mkF m 38 #[rv a542, iv p543, iv (3 : Int32)] [(.int (3 : Int32)), (.ref a542)])) _
    obtain ⟨cq853, q853, q853'⟩ := pE_a542.cell
    obtain ⟨_, _, ⟨T853, L853, c853, n853⟩, -, X853, ⟨Lc853, hQ853, l853, y853, z853⟩, st853⟩ := X574.privateBack hx (y := (⟨zs2, "expandTo", "(I)V"⟩ : MethodName)) hown (mvT hZ (wd hw 82 rfl)) (mvT hZ (wd hw 83 rfl)) (mvT hZ (wd hw 85 rfl)) (Cond.privateMethod_at (mvP hZ (wd hw 84 rfl) (args := #[]))) (mvT hZ (wd hw 86 rfl)) (by decide) (backOf (W := 0) (rm18 l Z a0 hw [] a542 a547 p551 h0 n0 O0 pF_a542_wordsInUse pF_a542_words pL_a547 pE_a542 pG_a542 pF_a542_sizeIsSticky) hZ (wd hw 86 rfl) (wd hw 11 rfl) (by decide) (by decide)) (g := (mkF m 38 #[rv a542, iv p543, iv (3 : Int32)] [(.int (3 : Int32)), (.ref a542)])) rfl (by rw [hml]; rfl) (Steps.refl _) (a := a542) (by rw [hh575]; exact q853) q853' (argsL := [(.int (3 : Int32))]) (rest := []) (lenOf pd_2 rfl) rfl (by show 2 * 0 + _ ≤ _; exact Nat.le_of_eq rfl) (hb hby d14_38) (fun _ _ => ⟨rfl, hh575, (by decide : 0 + 0 ≤ _), (by decide : 0 + 0 ≤ _)⟩)
    dsimp only [Pt.U, Pt.locs, Pt.cells, Pt.slots] at X853 l853 y853 z853 st853 hQ853
    subst l853 y853 z853
    obtain ⟨h853, e853⟩ : ∃ z, T853.heap = z := ⟨_, rfl⟩
    rw [e853] at hQ853
    obtain ⟨rfl, Nq853, K853, ex930, fx931, fx932, fx933⟩ := hQ853
    have N853 := Fr.app N574 Nq853
    refine own_via (fun t k => st853.trans (XS.aloadN X853.here hx rfl (hb hby d14_41) rfl rfl k)) ?_
    obtain ⟨T934, X934, e934, st934⟩ := getF X853 hx hZ hown (host := "") (Or.inl (wd hw 29 rfl)) Via.refl e853 fx933 (g := (mkF m 42 #[rv a542, iv p543, iv (3 : Int32)] [(.ref a542)])) rfl rfl (hb hby d14_42)
    refine own_via (fun t k => st934 t (XS.iloadN X934.here hx rfl (hb hby d14_45) rfl k)) ?_
    refine own_via (S' := T934.setTop (mkF m 47 #[rv a542, iv p543, iv (3 : Int32)] [(.int (3 : Int32)), (.ref a547), (.int (3 : Int32)), (.ref a547)])) (fun t k => by jvm_step X934.here [X934.here.top, hx, (hb hby d14_46), Value.category]; exact k) ?_
    show own_Goes p e below (T934.setTop (mkF m 47 #[rv a542, iv p543, iv (3 : Int32)] [(.int (3 : Int32)), (.ref a547), (.int (3 : Int32)), (.ref a547)])) _
    have V935 : Arv Z h853 a547 k552 .long (4 : Int32) [] (.long (0 : Int64)) := (pV_a547.keep K853 (ninS (Ne.symm pN_a542_a547) nin0))
    obtain ⟨cl936, Ar936, qq936, S936, M936, H936, G936⟩ := id (V935)
    have hin936 : ¬ ((3 : Int32) < 0 ∨ cl936.slots.size ≤ ((3 : Int32)).toNatClampNeg) := inb_of S936 ⟨by decide, by decide⟩
    refine own_via (fun t k => X934.laload hx (j := (3 : Int32)) (v := (.long (0 : Int64))) (by rw [e934]; exact Ar936.1) (State.isArrayOf_alike hZ.alike Ar936.2.1) Ar936.2.2 hin936 (Has.at H936 hin936 rfl) (g := (mkF m 47 #[rv a542, iv p543, iv (3 : Int32)] [(.int (3 : Int32)), (.ref a547), (.int (3 : Int32)), (.ref a547)])) rfl rfl (hb hby d14_47) t (XS.lconst X934.here hx rfl (hb hby d14_48) (XS.iloadN X934.here hx rfl (hb hby d14_49) rfl (XS.lshl X934.here hx rfl (hb hby d14_50) rfl (XS.lor X934.here hx rfl (hb hby d14_51) rfl k))))) ?_
    show own_Goes p e below (T934.setTop (mkF m 52 #[rv a542, iv p543, iv (3 : Int32)] [(.long ((0 : Int64) ||| ((1 : Int64) <<< (p543 &&& 0x3f).toInt64))), (.int (3 : Int32)), (.ref a547)])) _
    have V937 : Arv Z h853 a547 k552 .long (4 : Int32) [(.long (0 : Int64)), (.long (0 : Int64)), (.long (0 : Int64)), (.long (0 : Int64))] (.long (0 : Int64)) := V935.pad (pad_rep [] (.long (0 : Int64)) 4)
    obtain ⟨cl938, Ar938, qq938, S938, M938, H938, G938⟩ := id (V937)
    have hin938 : ¬ ((3 : Int32) < 0 ∨ cl938.slots.size ≤ ((3 : Int32)).toNatClampNeg) := inb_of S938 ⟨by decide, by decide⟩
    obtain ⟨T938, h938, X938, e938, W938, st938⟩ := stJ X934 hx hZ e934 Ar938 (j := (3 : Int32)) hin938 (g := (mkF m 52 #[rv a542, iv p543, iv (3 : Int32)] [(.long ((0 : Int64) ||| ((1 : Int64) <<< (p543 &&& 0x3f).toInt64))), (.int (3 : Int32)), (.ref a547)])) rfl rfl (hb hby d14_52)
    refine own_via (fun t k => st938 t k) ?_
    have V939 : Arv Z h938 a547 k552 .long (4 : Int32) [(.long (0 : Int64)), (.long (0 : Int64)), (.long (0 : Int64)), (.long ((0 : Int64) ||| ((1 : Int64) <<< (p543 &&& 0x3f).toInt64)))] (.long (0 : Int64)) := Arv.set Ar938 qq938 S938 M938 H938 G938 rfl W938 3 rfl (Nat.le_of_ble_eq_true rfl)
    have N938 := Fr.snoc X938 N853 pG_a547
    show own_Goes p e below (T938.setTop (mkF m 53 #[rv a542, iv p543, iv (3 : Int32)] [])) _
    refine own_via (fun t k => XS.aloadN X938.here hx rfl (hb hby d14_53) rfl rfl k) ?_
    have O941 : Old Z n0 h938 := ((O0.keep K853 (allS pG_a542 all0)).wr W938 pG_a547)
    have E942 : Exa Z h938 a542 zs2 := (ex930.wr W938)
    obtain ⟨cq940, q940, q940'⟩ := E942.cell
    obtain ⟨_, _, ⟨T940, L940, c940, n940⟩, -, X940, ⟨Lc940, hQ940, l940, y940, z940⟩, st940⟩ := X938.privateBack hx (y := (⟨zs2, zs8, "()V"⟩ : MethodName)) hown (mvT hZ (wd hw 71 rfl)) (mvT hZ (wd hw 72 rfl)) (mvT hZ (wd hw 74 rfl)) (Cond.privateMethod_at (mvP hZ (wd hw 73 rfl) (args := #[]))) (mvT hZ (wd hw 75 rfl)) (by decide) (backOf (W := 0) (rm8 l Z a0 hw [] a542 h938 n0 O941 S_BitSet__assertionsDisabled) hZ (wd hw 75 rfl) (wd hw 11 rfl) (by decide) (by decide)) (g := (mkF m 54 #[rv a542, iv p543, iv (3 : Int32)] [(.ref a542)])) rfl (by rw [hml]; rfl) (Steps.refl _) (a := a542) (by rw [e938]; exact q940) q940' (argsL := []) (rest := []) (lenOf pd_3 rfl) rfl (by show 2 * 0 + _ ≤ _; exact Nat.le_of_eq rfl) (hb hby d14_54) (fun _ _ => ⟨rfl, e938, (by decide : 0 + 0 ≤ _), (by decide : 0 + 0 ≤ _)⟩)
    dsimp only [Pt.U, Pt.locs, Pt.cells, Pt.slots] at X940 l940 y940 z940 st940 hQ940
    subst l940 y940 z940
    obtain ⟨rfl, Nq940, hh943⟩ := hQ940
    have N940 := Fr.app N938 Nq940
    refine own_via (fun t k => st940.trans k) ?_
    obtain ⟨fs, hr, hrun, hended, hW, hsame⟩ := X940.leave (v := none) (fun _ => rfl)
    refine own_end (t := T940.setFrames fs) ?_ ⟨_, hrun, hended, _, _, rfl, ?_, ⟨_, rfl⟩, hW, hsame.mono (by decide) (by decide)⟩
    · exact X940.returnOut hx Bd.returns (hb hby d14_57) hr
    · show Q19 Z a542 p543 a547 p551 k552 h0 n0 _ T940.heap _
      rw [hh943]
      exact ⟨rfl, N940, (((Keep.refl h0 [a542, a547]).trans K853 (allS (Or.inl (List.mem_of_getElem? (i := 0) rfl)) all0)).wr W938 (Or.inl (List.mem_of_getElem? (i := 1) rfl))), E942⟩
theorem d9_134 : decode prog_61_method_2_code 134 = .ok (.sipush 252, 3) := by decide +kernel
theorem d9_137 : decode prog_61_method_2_code 137 = .ok (.istore_n 3, 1) := by decide +kernel
theorem d9_138 : decode prog_61_method_2_code 138 = .ok (.goto 7, 3) := by decide +kernel
theorem d9_145 : decode prog_61_method_2_code 145 = .ok (.iload_n 3, 1) := by decide +kernel
theorem d9_146 : decode prog_61_method_2_code 146 = .ok (.iload_n 2, 1) := by decide +kernel
theorem d9_147 : decode prog_61_method_2_code 147 = .ok (.invokestatic 46, 3) := by decide +kernel
def Q20 (Z : State) (p946 : Int32) (h0 : Heap) (n0 : Nat) (v : Option Value) (h : Heap) (L : List Loc) : Prop := (∃ (b977 : Addr) (k976 : ClassId), v = some (.ref b977) ∧ Fr n0 L ∧ Keep h0 h [] ∧ h0.size ≤ b977 ∧ Arv Z h b977 k976 .byte (3 : Int32) [(.int (-1 : Int32)), (.int (-4 : Int32)), (.int (p946.toInt8.toInt32))] (.int (0 : Int32)))
set_option maxRecDepth 65536 in
set_option maxHeartbeats 40000000 in
theorem rm20 (l : Launch) (Z : State) (a0 : Array Value) (hw : ∀ d ∈ tables_1, d.before a0 Z = true) (ws : List Jvm.Cond) (p946 : Int32) (h0 : Heap) (n0 : Nat) (O0 : Old Z n0 h0) :
    MetFree l (⟨zs1, "command", "(II)[B"⟩ : MethodName) (head1 (Jvm.Cond.code (⟨zs1, "command", "(II)[B"⟩ : MethodName) prog_61_method_8_code 2 (some (.array .byte)) :: ws) ({ frames := 0, cells := 1, slots := 3, locals := 0 } : Room)) (fun a U => a = #[(.int (252 : Int32)), (.int p946)] ∧ Z.Warmed39 U.vm ∧ U.heap = h0) (fun _ _ _ _ _ => True) (fun _ U o U' => ∃ v L, o = .returned v ∧ Q20 Z p946 h0 n0 v U'.heap L ∧ FrameEnd U o U' L ({ frames := 0, cells := 1, slots := 3, locals := 0 } : Room).cells ({ frames := 0, cells := 1, slots := 3, locals := 0 } : Room).slots) := by
  refine MetFree.of_bodySF (plainFor_of_name pn_2) hisR ?_
  intro p e s m args below meth c s₁ Bd hml0 hP hK
  obtain ⟨rfl, hZ, hh⟩ := hP
  have hx := Bd.exec
  have hby := Bd.bytes
  have hml : c.maxLocals = 2 := hml0
  have hown : s.vm.findClass zs1 = some m.cls := findClass_of_methodNamed Bd.named
  have hnm := (name_of_methodNamed Bd.named Bd.method).1
  have X0 : Stand p l e ({ frames := 0, cells := 1, slots := 3, locals := 0 } : Room) s m #[(.int (252 : Int32)), (.int p946)] below meth c s₁ [] 0 0 := Stand.of_body Bd
  have e0 : s₁.heap = h0 := by rw [← hh, Bd.state]; rfl
  have N0 := Fr.nil n0
  refine own_out ?_
  refine own_via (fun t k => castTop (ef_5 m (252 : Int32) p946) (XS.iconst X0.here hx rfl (hb hby d7_0) k)) ?_
  obtain ⟨T976, h976, k976, X976, e976, E976, A976, st976⟩ := newP X0 hx hZ (wd hw 45 rfl) e0 (g := (mkF m 1 #[iv (252 : Int32), iv p946] [(.int (3 : Int32))])) rfl (hb hby d7_1) rfl (by decide) (cap := 3) (by decide) (by decide) (by decide) (by decide)
  obtain ⟨b977, q976⟩ : ∃ z, z = h0.size := ⟨_, rfl⟩
  rw [← q976] at A976 st976
  refine own_via (fun t k => st976 t k) ?_
  have g978 : n0 ≤ b977 := Nat.le_trans (own_old O0) (Nat.le_of_eq q976.symm)
  have B979 : h0.size ≤ b977 := Nat.le_trans (Nat.le_refl _) (Nat.le_of_eq q976.symm)
  have V980 : Arv Z h976 b977 k976 .byte (3 : Int32) [] (.int (0 : Int32)) := Arv.new A976 (by decide)
  show own_Goes p e below (T976.setTop (mkF m 3 #[iv (252 : Int32), iv p946] [(.ref b977)])) _
  refine own_via (fun t k => XS.dup X976.here hx rfl (hb hby d7_3) rfl rfl (XS.iconst X976.here hx rfl (hb hby d7_4) (XS.iconst X976.here hx rfl (hb hby d7_5) k))) ?_
  show own_Goes p e below (T976.setTop (mkF m 6 #[iv (252 : Int32), iv p946] [(.int (-1 : Int32)), (.int (0 : Int32)), (.ref b977), (.ref b977)])) _
  have V981 : Arv Z h976 b977 k976 .byte (3 : Int32) [(.int (0 : Int32))] (.int (0 : Int32)) := V980.pad (pad_rep [] (.int (0 : Int32)) 1)
  obtain ⟨cl982, Ar982, qq982, S982, M982, H982, G982⟩ := id (V981)
  have hin982 : ¬ ((0 : Int32) < 0 ∨ cl982.slots.size ≤ ((0 : Int32)).toNatClampNeg) := inb_of S982 ⟨by decide, by decide⟩
  obtain ⟨T982, h982, X982, e982, W982, st982⟩ := stB X976 hx hZ e976 Ar982 (j := (0 : Int32)) hin982 (g := (mkF m 6 #[iv (252 : Int32), iv p946] [(.int (-1 : Int32)), (.int (0 : Int32)), (.ref b977), (.ref b977)])) rfl rfl (hb hby d7_6)
  refine own_via (fun t k => st982 t k) ?_
  have V983 : Arv Z h982 b977 k976 .byte (3 : Int32) [(.int (-1 : Int32))] (.int (0 : Int32)) := Arv.set Ar982 qq982 S982 M982 H982 G982 (by decide) W982 0 rfl (Nat.le_of_ble_eq_true rfl)
  have N982 := Fr.snoc X982 N0 g978
  show own_Goes p e below (T982.setTop (mkF m 7 #[iv (252 : Int32), iv p946] [(.ref b977)])) _
  refine own_via (fun t k => XS.dup X982.here hx rfl (hb hby d7_7) rfl rfl (XS.iconst X982.here hx rfl (hb hby d7_8) (XS.iloadN X982.here hx rfl (hb hby d7_9) rfl (XS.i2b X982.here hx rfl (hb hby d7_10) rfl k)))) ?_
  show own_Goes p e below (T982.setTop (mkF m 11 #[iv (252 : Int32), iv p946] [(.int (-4 : Int32)), (.int (1 : Int32)), (.ref b977), (.ref b977)])) _
  have V984 : Arv Z h982 b977 k976 .byte (3 : Int32) [(.int (-1 : Int32)), (.int (0 : Int32))] (.int (0 : Int32)) := V983.pad (pad_rep [(.int (-1 : Int32))] (.int (0 : Int32)) 1)
  obtain ⟨cl985, Ar985, qq985, S985, M985, H985, G985⟩ := id (V984)
  have hin985 : ¬ ((1 : Int32) < 0 ∨ cl985.slots.size ≤ ((1 : Int32)).toNatClampNeg) := inb_of S985 ⟨by decide, by decide⟩
  obtain ⟨T985, h985, X985, e985, W985, st985⟩ := stB X982 hx hZ e982 Ar985 (j := (1 : Int32)) hin985 (g := (mkF m 11 #[iv (252 : Int32), iv p946] [(.int (-4 : Int32)), (.int (1 : Int32)), (.ref b977), (.ref b977)])) rfl rfl (hb hby d7_11)
  refine own_via (fun t k => st985 t k) ?_
  have V986 : Arv Z h985 b977 k976 .byte (3 : Int32) [(.int (-1 : Int32)), (.int (-4 : Int32))] (.int (0 : Int32)) := Arv.set Ar985 qq985 S985 M985 H985 G985 (by decide) W985 1 rfl (Nat.le_of_ble_eq_true rfl)
  have N985 := Fr.snoc X985 N982 g978
  show own_Goes p e below (T985.setTop (mkF m 12 #[iv (252 : Int32), iv p946] [(.ref b977)])) _
  refine own_via (fun t k => XS.dup X985.here hx rfl (hb hby d7_12) rfl rfl (XS.iconst X985.here hx rfl (hb hby d7_13) (XS.iloadN X985.here hx rfl (hb hby d7_14) rfl (XS.i2b X985.here hx rfl (hb hby d7_15) rfl k)))) ?_
  show own_Goes p e below (T985.setTop (mkF m 16 #[iv (252 : Int32), iv p946] [(.int (p946.toInt8.toInt32)), (.int (2 : Int32)), (.ref b977), (.ref b977)])) _
  have V987 : Arv Z h985 b977 k976 .byte (3 : Int32) [(.int (-1 : Int32)), (.int (-4 : Int32)), (.int (0 : Int32))] (.int (0 : Int32)) := V986.pad (pad_rep [(.int (-1 : Int32)), (.int (-4 : Int32))] (.int (0 : Int32)) 1)
  obtain ⟨cl988, Ar988, qq988, S988, M988, H988, G988⟩ := id (V987)
  have hin988 : ¬ ((2 : Int32) < 0 ∨ cl988.slots.size ≤ ((2 : Int32)).toNatClampNeg) := inb_of S988 ⟨by decide, by decide⟩
  obtain ⟨T988, h988, X988, e988, W988, st988⟩ := stB X985 hx hZ e985 Ar988 (j := (2 : Int32)) hin988 (g := (mkF m 16 #[iv (252 : Int32), iv p946] [(.int (p946.toInt8.toInt32)), (.int (2 : Int32)), (.ref b977), (.ref b977)])) rfl rfl (hb hby d7_16)
  refine own_via (fun t k => st988 t k) ?_
  have V989 : Arv Z h988 b977 k976 .byte (3 : Int32) [(.int (-1 : Int32)), (.int (-4 : Int32)), (.int (p946.toInt8.toInt32))] (.int (0 : Int32)) := by
    have qv := Arv.set Ar988 qq988 S988 M988 H988 G988 (fits_nar_byte _) W988 2 rfl (Nat.le_of_ble_eq_true rfl)
    first | rw [show nar .byte (p946.toInt8.toInt32) = (p946.toInt8.toInt32) from own_b2 _] at qv | rw [own_b2] at qv
    exact qv
  have N988 := Fr.snoc X988 N985 g978
  show own_Goes p e below (T988.setTop (mkF m 17 #[iv (252 : Int32), iv p946] [(.ref b977)])) _
  obtain ⟨fs, hr, hrun, hended, hW, hsame⟩ := X988.leave (v := some (.ref b977)) (fun h => by rw [Bd.returns] at h; cases h)
  refine own_end (t := T988.setFrames fs) ?_ ⟨_, hrun, hended, _, _, rfl, ?_, ⟨_, rfl⟩, hW, hsame.mono (by decide) (by decide)⟩
  · jvm_step X988.here [X988.here.top, hx, (hb hby d7_17), X988.method', Bd.returns, Value.isRef, FieldType.isReference]
    first | (intro acts; rw [hr _ acts rfl rfl rfl]) | rw [hr _ _ rfl rfl rfl]
    exact Steps.refl _
  · show Q20 Z p946 h0 n0 _ T988.heap _
    rw [e988]
    exact ⟨b977, k976, rfl, N988, (((((Keep.refl h0 []).ext E976).wr W982 (Or.inr B979)).wr W985 (Or.inr B979)).wr W988 (Or.inr B979)), B979, V989⟩
theorem d9_150 : decode prog_61_method_2_code 150 = .ok (.areturn, 1) := by decide +kernel
theorem d9_37 : decode prog_61_method_2_code 37 = .ok (.iload_n 1, 1) := by decide +kernel
theorem d9_38 : decode prog_61_method_2_code 38 = .ok (.sipush 254, 3) := by decide +kernel
theorem d9_41 : decode prog_61_method_2_code 41 = .ok (.if_icmp .ne 34, 3) := by decide +kernel
theorem d9_141 : decode prog_61_method_2_code 141 = .ok (.getstatic 25, 3) := by decide +kernel
theorem d9_144 : decode prog_61_method_2_code 144 = .ok (.areturn, 1) := by decide +kernel
theorem d9_82 : decode prog_61_method_2_code 82 = .ok (.aload_n 0, 1) := by decide +kernel
theorem d9_83 : decode prog_61_method_2_code 83 = .ok (.getfield 12, 3) := by decide +kernel
theorem d9_86 : decode prog_61_method_2_code 86 = .ok (.iload_n 2, 1) := by decide +kernel
theorem d9_87 : decode prog_61_method_2_code 87 = .ok (.invokevirtual 39, 3) := by decide +kernel
theorem d9_90 : decode prog_61_method_2_code 90 = .ok (.ifCond .ne 18, 3) := by decide +kernel
theorem d9_93 : decode prog_61_method_2_code 93 = .ok (.aload_n 0, 1) := by decide +kernel
theorem d9_94 : decode prog_61_method_2_code 94 = .ok (.getfield 12, 3) := by decide +kernel
theorem d9_97 : decode prog_61_method_2_code 97 = .ok (.iload_n 2, 1) := by decide +kernel
theorem d9_98 : decode prog_61_method_2_code 98 = .ok (.invokevirtual 43, 3) := by decide +kernel
theorem d9_101 : decode prog_61_method_2_code 101 = .ok (.sipush 254, 3) := by decide +kernel
theorem d9_104 : decode prog_61_method_2_code 104 = .ok (.istore_n 3, 1) := by decide +kernel
theorem d9_105 : decode prog_61_method_2_code 105 = .ok (.goto 40, 3) := by decide +kernel
def Q21 (Z : State) (p1028 : Int32) (h0 : Heap) (n0 : Nat) (v : Option Value) (h : Heap) (L : List Loc) : Prop := (∃ (b1060 : Addr) (k1059 : ClassId), v = some (.ref b1060) ∧ Fr n0 L ∧ Keep h0 h [] ∧ h0.size ≤ b1060 ∧ Arv Z h b1060 k1059 .byte (3 : Int32) [(.int (-1 : Int32)), (.int (-2 : Int32)), (.int (p1028.toInt8.toInt32))] (.int (0 : Int32)))
set_option maxRecDepth 65536 in
set_option maxHeartbeats 40000000 in
theorem rm21 (l : Launch) (Z : State) (a0 : Array Value) (hw : ∀ d ∈ tables_1, d.before a0 Z = true) (ws : List Jvm.Cond) (p1028 : Int32) (h0 : Heap) (n0 : Nat) (O0 : Old Z n0 h0) :
    MetFree l (⟨zs1, "command", "(II)[B"⟩ : MethodName) (head1 (Jvm.Cond.code (⟨zs1, "command", "(II)[B"⟩ : MethodName) prog_61_method_8_code 2 (some (.array .byte)) :: ws) ({ frames := 0, cells := 1, slots := 3, locals := 0 } : Room)) (fun a U => a = #[(.int (254 : Int32)), (.int p1028)] ∧ Z.Warmed39 U.vm ∧ U.heap = h0) (fun _ _ _ _ _ => True) (fun _ U o U' => ∃ v L, o = .returned v ∧ Q21 Z p1028 h0 n0 v U'.heap L ∧ FrameEnd U o U' L ({ frames := 0, cells := 1, slots := 3, locals := 0 } : Room).cells ({ frames := 0, cells := 1, slots := 3, locals := 0 } : Room).slots) := by
  refine MetFree.of_bodySF (plainFor_of_name pn_2) hisR ?_
  intro p e s m args below meth c s₁ Bd hml0 hP hK
  obtain ⟨rfl, hZ, hh⟩ := hP
  have hx := Bd.exec
  have hby := Bd.bytes
  have hml : c.maxLocals = 2 := hml0
  have hown : s.vm.findClass zs1 = some m.cls := findClass_of_methodNamed Bd.named
  have hnm := (name_of_methodNamed Bd.named Bd.method).1
  have X0 : Stand p l e ({ frames := 0, cells := 1, slots := 3, locals := 0 } : Room) s m #[(.int (254 : Int32)), (.int p1028)] below meth c s₁ [] 0 0 := Stand.of_body Bd
  have e0 : s₁.heap = h0 := by rw [← hh, Bd.state]; rfl
  have N0 := Fr.nil n0
  refine own_out ?_
  refine own_via (fun t k => castTop (ef_5 m (254 : Int32) p1028) (XS.iconst X0.here hx rfl (hb hby d7_0) k)) ?_
  obtain ⟨T1059, h1059, k1059, X1059, e1059, E1059, A1059, st1059⟩ := newP X0 hx hZ (wd hw 45 rfl) e0 (g := (mkF m 1 #[iv (254 : Int32), iv p1028] [(.int (3 : Int32))])) rfl (hb hby d7_1) rfl (by decide) (cap := 3) (by decide) (by decide) (by decide) (by decide)
  obtain ⟨b1060, q1059⟩ : ∃ z, z = h0.size := ⟨_, rfl⟩
  rw [← q1059] at A1059 st1059
  refine own_via (fun t k => st1059 t k) ?_
  have g1061 : n0 ≤ b1060 := Nat.le_trans (own_old O0) (Nat.le_of_eq q1059.symm)
  have B1062 : h0.size ≤ b1060 := Nat.le_trans (Nat.le_refl _) (Nat.le_of_eq q1059.symm)
  have V1063 : Arv Z h1059 b1060 k1059 .byte (3 : Int32) [] (.int (0 : Int32)) := Arv.new A1059 (by decide)
  show own_Goes p e below (T1059.setTop (mkF m 3 #[iv (254 : Int32), iv p1028] [(.ref b1060)])) _
  refine own_via (fun t k => XS.dup X1059.here hx rfl (hb hby d7_3) rfl rfl (XS.iconst X1059.here hx rfl (hb hby d7_4) (XS.iconst X1059.here hx rfl (hb hby d7_5) k))) ?_
  show own_Goes p e below (T1059.setTop (mkF m 6 #[iv (254 : Int32), iv p1028] [(.int (-1 : Int32)), (.int (0 : Int32)), (.ref b1060), (.ref b1060)])) _
  have V1064 : Arv Z h1059 b1060 k1059 .byte (3 : Int32) [(.int (0 : Int32))] (.int (0 : Int32)) := V1063.pad (pad_rep [] (.int (0 : Int32)) 1)
  obtain ⟨cl1065, Ar1065, qq1065, S1065, M1065, H1065, G1065⟩ := id (V1064)
  have hin1065 : ¬ ((0 : Int32) < 0 ∨ cl1065.slots.size ≤ ((0 : Int32)).toNatClampNeg) := inb_of S1065 ⟨by decide, by decide⟩
  obtain ⟨T1065, h1065, X1065, e1065, W1065, st1065⟩ := stB X1059 hx hZ e1059 Ar1065 (j := (0 : Int32)) hin1065 (g := (mkF m 6 #[iv (254 : Int32), iv p1028] [(.int (-1 : Int32)), (.int (0 : Int32)), (.ref b1060), (.ref b1060)])) rfl rfl (hb hby d7_6)
  refine own_via (fun t k => st1065 t k) ?_
  have V1066 : Arv Z h1065 b1060 k1059 .byte (3 : Int32) [(.int (-1 : Int32))] (.int (0 : Int32)) := Arv.set Ar1065 qq1065 S1065 M1065 H1065 G1065 (by decide) W1065 0 rfl (Nat.le_of_ble_eq_true rfl)
  have N1065 := Fr.snoc X1065 N0 g1061
  show own_Goes p e below (T1065.setTop (mkF m 7 #[iv (254 : Int32), iv p1028] [(.ref b1060)])) _
  refine own_via (fun t k => XS.dup X1065.here hx rfl (hb hby d7_7) rfl rfl (XS.iconst X1065.here hx rfl (hb hby d7_8) (XS.iloadN X1065.here hx rfl (hb hby d7_9) rfl (XS.i2b X1065.here hx rfl (hb hby d7_10) rfl k)))) ?_
  show own_Goes p e below (T1065.setTop (mkF m 11 #[iv (254 : Int32), iv p1028] [(.int (-2 : Int32)), (.int (1 : Int32)), (.ref b1060), (.ref b1060)])) _
  have V1067 : Arv Z h1065 b1060 k1059 .byte (3 : Int32) [(.int (-1 : Int32)), (.int (0 : Int32))] (.int (0 : Int32)) := V1066.pad (pad_rep [(.int (-1 : Int32))] (.int (0 : Int32)) 1)
  obtain ⟨cl1068, Ar1068, qq1068, S1068, M1068, H1068, G1068⟩ := id (V1067)
  have hin1068 : ¬ ((1 : Int32) < 0 ∨ cl1068.slots.size ≤ ((1 : Int32)).toNatClampNeg) := inb_of S1068 ⟨by decide, by decide⟩
  obtain ⟨T1068, h1068, X1068, e1068, W1068, st1068⟩ := stB X1065 hx hZ e1065 Ar1068 (j := (1 : Int32)) hin1068 (g := (mkF m 11 #[iv (254 : Int32), iv p1028] [(.int (-2 : Int32)), (.int (1 : Int32)), (.ref b1060), (.ref b1060)])) rfl rfl (hb hby d7_11)
  refine own_via (fun t k => st1068 t k) ?_
  have V1069 : Arv Z h1068 b1060 k1059 .byte (3 : Int32) [(.int (-1 : Int32)), (.int (-2 : Int32))] (.int (0 : Int32)) := Arv.set Ar1068 qq1068 S1068 M1068 H1068 G1068 (by decide) W1068 1 rfl (Nat.le_of_ble_eq_true rfl)
  have N1068 := Fr.snoc X1068 N1065 g1061
  show own_Goes p e below (T1068.setTop (mkF m 12 #[iv (254 : Int32), iv p1028] [(.ref b1060)])) _
  refine own_via (fun t k => XS.dup X1068.here hx rfl (hb hby d7_12) rfl rfl (XS.iconst X1068.here hx rfl (hb hby d7_13) (XS.iloadN X1068.here hx rfl (hb hby d7_14) rfl (XS.i2b X1068.here hx rfl (hb hby d7_15) rfl k)))) ?_
  show own_Goes p e below (T1068.setTop (mkF m 16 #[iv (254 : Int32), iv p1028] [(.int (p1028.toInt8.toInt32)), (.int (2 : Int32)), (.ref b1060), (.ref b1060)])) _
  have V1070 : Arv Z h1068 b1060 k1059 .byte (3 : Int32) [(.int (-1 : Int32)), (.int (-2 : Int32)), (.int (0 : Int32))] (.int (0 : Int32)) := V1069.pad (pad_rep [(.int (-1 : Int32)), (.int (-2 : Int32))] (.int (0 : Int32)) 1)
  obtain ⟨cl1071, Ar1071, qq1071, S1071, M1071, H1071, G1071⟩ := id (V1070)
  have hin1071 : ¬ ((2 : Int32) < 0 ∨ cl1071.slots.size ≤ ((2 : Int32)).toNatClampNeg) := inb_of S1071 ⟨by decide, by decide⟩
  obtain ⟨T1071, h1071, X1071, e1071, W1071, st1071⟩ := stB X1068 hx hZ e1068 Ar1071 (j := (2 : Int32)) hin1071 (g := (mkF m 16 #[iv (254 : Int32), iv p1028] [(.int (p1028.toInt8.toInt32)), (.int (2 : Int32)), (.ref b1060), (.ref b1060)])) rfl rfl (hb hby d7_16)
  refine own_via (fun t k => st1071 t k) ?_
  have V1072 : Arv Z h1071 b1060 k1059 .byte (3 : Int32) [(.int (-1 : Int32)), (.int (-2 : Int32)), (.int (p1028.toInt8.toInt32))] (.int (0 : Int32)) := by
    have qv := Arv.set Ar1071 qq1071 S1071 M1071 H1071 G1071 (fits_nar_byte _) W1071 2 rfl (Nat.le_of_ble_eq_true rfl)
    first | rw [show nar .byte (p1028.toInt8.toInt32) = (p1028.toInt8.toInt32) from own_b2 _] at qv | rw [own_b2] at qv
    exact qv
  have N1071 := Fr.snoc X1071 N1068 g1061
  show own_Goes p e below (T1071.setTop (mkF m 17 #[iv (254 : Int32), iv p1028] [(.ref b1060)])) _
  obtain ⟨fs, hr, hrun, hended, hW, hsame⟩ := X1071.leave (v := some (.ref b1060)) (fun h => by rw [Bd.returns] at h; cases h)
  refine own_end (t := T1071.setFrames fs) ?_ ⟨_, hrun, hended, _, _, rfl, ?_, ⟨_, rfl⟩, hW, hsame.mono (by decide) (by decide)⟩
  · jvm_step X1071.here [X1071.here.top, hx, (hb hby d7_17), X1071.method', Bd.returns, Value.isRef, FieldType.isReference]
    first | (intro acts; rw [hr _ acts rfl rfl rfl]) | rw [hr _ _ rfl rfl rfl]
    exact Steps.refl _
  · show Q21 Z p1028 h0 n0 _ T1071.heap _
    rw [e1071]
    exact ⟨b1060, k1059, rfl, N1071, (((((Keep.refl h0 []).ext E1059).wr W1065 (Or.inr B1062)).wr W1068 (Or.inr B1062)).wr W1071 (Or.inr B1062)), B1062, V1072⟩
theorem ef_13 (m : MethodId) (x0 : Addr) (x1 : Int32) (x2 : Int32) : entryFrame m #[(.ref x0), (.int x1), (.int x2)] 4 = mkF m 0 #[rv x0, iv x1, iv x2, .unset] [] := by first | (simp [entryFrame, mkF, argsToLocals, Value.category]; done) | rfl
def Q22 (Z : State) (a399 : Addr) (p400 : Int32) (p401 : Int32) (w6 : Addr) (a404 : Addr) (a405 : Addr) (p408 : Int32) (k409 : ClassId) (a402 : Addr) (a403 : Addr) (p406 : Int32) (k407 : ClassId) (h0 : Heap) (n0 : Nat) (v : Option Value) (h : Heap) (L : List Loc) : Prop := (p400 = (253 : Int32) ∧ p401 = (1 : Int32) ∧ v = some (.ref w6) ∧ Fr n0 L ∧ h = h0) ∨ ((∃ (b991 : Addr) (k992 : ClassId), p400 = (253 : Int32) ∧ ¬ (p401 = (1 : Int32)) ∧ p401 = (201 : Int32) ∧ v = some (.ref b991) ∧ Fr n0 L ∧ Keep h0 h [a404, a405] ∧ Exa Z h a404 zs2 ∧ h0.size ≤ b991 ∧ Arv Z h b991 k992 .byte (3 : Int32) [(.int (-1 : Int32)), (.int (-4 : Int32)), (.int (p401.toInt8.toInt32))] (.int (0 : Int32)))) ∨ ((∃ (b1007 : Addr) (k1008 : ClassId), p400 = (253 : Int32) ∧ ¬ (p401 = (1 : Int32)) ∧ ¬ (p401 = (201 : Int32)) ∧ v = some (.ref b1007) ∧ Fr n0 L ∧ Keep h0 h [a404, a405] ∧ Exa Z h a404 zs2 ∧ h0.size ≤ b1007 ∧ Arv Z h b1007 k1008 .byte (3 : Int32) [(.int (-1 : Int32)), (.int (-4 : Int32)), (.int (p401.toInt8.toInt32))] (.int (0 : Int32)))) ∨ (¬ (p400 = (253 : Int32)) ∧ p401 = (201 : Int32) ∧ p400 = (254 : Int32) ∧ v = some (.ref w6) ∧ Fr n0 L ∧ h = h0) ∨ ((∃ (b1074 : Addr) (k1075 : ClassId), ¬ (p400 = (253 : Int32)) ∧ p401 = (201 : Int32) ∧ ¬ (p400 = (254 : Int32)) ∧ p400 = (251 : Int32) ∧ v = some (.ref b1074) ∧ Fr n0 L ∧ Keep h0 h [a402, a403] ∧ Exa Z h a402 zs2 ∧ h0.size ≤ b1074 ∧ Arv Z h b1074 k1075 .byte (3 : Int32) [(.int (-1 : Int32)), (.int (-2 : Int32)), (.int (p401.toInt8.toInt32))] (.int (0 : Int32)))) ∨ (¬ (p400 = (253 : Int32)) ∧ p401 = (201 : Int32) ∧ ¬ (p400 = (254 : Int32)) ∧ ¬ (p400 = (251 : Int32)) ∧ v = some (.ref w6) ∧ Fr n0 L ∧ h = h0) ∨ ((∃ (b1092 : Addr) (k1093 : ClassId), ¬ (p400 = (253 : Int32)) ∧ ¬ (p401 = (201 : Int32)) ∧ p400 = (251 : Int32) ∧ v = some (.ref b1092) ∧ Fr n0 L ∧ Keep h0 h [a402, a403] ∧ Exa Z h a402 zs2 ∧ h0.size ≤ b1092 ∧ Arv Z h b1092 k1093 .byte (3 : Int32) [(.int (-1 : Int32)), (.int (-2 : Int32)), (.int (p401.toInt8.toInt32))] (.int (0 : Int32)))) ∨ (¬ (p400 = (253 : Int32)) ∧ ¬ (p401 = (201 : Int32)) ∧ ¬ (p400 = (251 : Int32)) ∧ v = some (.ref w6) ∧ Fr n0 L ∧ h = h0)
set_option maxRecDepth 65536 in
set_option maxHeartbeats 40000000 in
theorem rm22 (l : Launch) (Z : State) (a0 : Array Value) (hw : ∀ d ∈ tables_1, d.before a0 Z = true) (ws : List Jvm.Cond) (a399 : Addr) (p400 : Int32) (p401 : Int32) (w6 : Addr) (a404 : Addr) (a405 : Addr) (p408 : Int32) (k409 : ClassId) (a402 : Addr) (a403 : Addr) (p406 : Int32) (k407 : ClassId) (h0 : Heap) (n0 : Nat) (O0 : Old Z n0 h0) (pF_a399_echoOffered : Fld Z h0 a399 zs1 "echoOffered" "Z" (.int (1 : Int32))) (S_TelnetOptions_NO_ANSWER : Sta Z Z.heap zs1 "NO_ANSWER" "[B" (.ref w6)) (pF_a399_gmcpOffered : Fld Z h0 a399 zs1 "gmcpOffered" "Z" (.int (0 : Int32))) (pF_a399_gmcpOn : Fld Z h0 a399 zs1 "gmcpOn" "Z" (.int (0 : Int32))) (pF_a399_refusedDo : Fld Z h0 a399 zs1 "refusedDo" zs4 (.ref a404)) (pC422 : ¬ (p401 < (0 : Int32))) (S_BitSet__assertionsDisabled : Sta Z Z.heap zs2 zs6 "Z" (.int (1 : Int32))) (pE_a404 : Exa Z h0 a404 zs2) (pF_a404_wordsInUse : Fld Z h0 a404 zs2 "wordsInUse" "I" (.int (0 : Int32))) (pC423 : p401 < (256 : Int32)) (pF_a404_words : Fld Z h0 a404 zs2 "words" "[J" (.ref a405)) (pL_a405 : own_Len Z h0 a405 .long (4 : Int32)) (pG_a404 : n0 ≤ a404) (pF_a404_sizeIsSticky : Fld Z h0 a404 zs2 zs5 "Z" (.int p408)) (pV_a405 : Arv Z h0 a405 k409 .long (4 : Int32) [] (.long (0 : Int64))) (pN_a404_a405 : a404 ≠ a405) (pG_a405 : n0 ≤ a405) (pF_a399_refusedWill : Fld Z h0 a399 zs1 "refusedWill" zs4 (.ref a402)) (pE_a402 : Exa Z h0 a402 zs2) (pF_a402_wordsInUse : Fld Z h0 a402 zs2 "wordsInUse" "I" (.int (0 : Int32))) (pF_a402_words : Fld Z h0 a402 zs2 "words" "[J" (.ref a403)) (pL_a403 : own_Len Z h0 a403 .long (4 : Int32)) (pG_a402 : n0 ≤ a402) (pF_a402_sizeIsSticky : Fld Z h0 a402 zs2 zs5 "Z" (.int p406)) (pV_a403 : Arv Z h0 a403 k407 .long (4 : Int32) [] (.long (0 : Int64))) (pN_a402_a403 : a402 ≠ a403) (pG_a403 : n0 ≤ a403) :
    MetFree l (⟨zs1, "answer", "(II)[B"⟩ : MethodName) (head1 (Jvm.Cond.code (⟨zs1, "answer", "(II)[B"⟩ : MethodName) prog_61_method_2_code 4 (some (.array .byte)) :: ws) ({ frames := 3, cells := 1, slots := 3, locals := 42 } : Room)) (fun a U => a = #[(.ref a399), (.int p400), (.int p401)] ∧ Z.Warmed39 U.vm ∧ U.heap = h0) (fun _ _ _ _ _ => True) (fun _ U o U' => ∃ v L, o = .returned v ∧ Q22 Z a399 p400 p401 w6 a404 a405 p408 k409 a402 a403 p406 k407 h0 n0 v U'.heap L ∧ FrameEnd U o U' L ({ frames := 3, cells := 1, slots := 3, locals := 42 } : Room).cells ({ frames := 3, cells := 1, slots := 3, locals := 42 } : Room).slots) := by
  refine MetFree.of_bodySF (plainFor_of_name pn_2) hisR ?_
  intro p e s m args below meth c s₁ Bd hml0 hP hK
  obtain ⟨rfl, hZ, hh⟩ := hP
  have hx := Bd.exec
  have hby := Bd.bytes
  have hml : c.maxLocals = 4 := hml0
  have hown : s.vm.findClass zs1 = some m.cls := findClass_of_methodNamed Bd.named
  have hnm := (name_of_methodNamed Bd.named Bd.method).1
  have X0 : Stand p l e ({ frames := 3, cells := 1, slots := 3, locals := 42 } : Room) s m #[(.ref a399), (.int p400), (.int p401)] below meth c s₁ [] 0 0 := Stand.of_body Bd
  have e0 : s₁.heap = h0 := by rw [← hh, Bd.state]; rfl
  have N0 := Fr.nil n0
  refine own_out ?_
  refine own_via (fun t k => castTop (ef_13 m a399 p400 p401) (XS.iloadN X0.here hx rfl (hb hby d9_0) rfl (XS.sipush X0.here hx rfl (hb hby d9_1) k))) ?_
  show own_Goes p e below (s₁.setTop (mkF m 4 #[rv a399, iv p400, iv p401, .unset] [(.int (253 : Int32)), (.int p400)])) _
  by_cases hc424 : p400 = (253 : Int32)
  · refine own_via (fun t k => XS.icmpNo X0.here hx rfl (hb hby d9_4) rfl (teq hc424).2 (XS.iloadN X0.here hx rfl (hb hby d9_7) rfl (XS.iconst X0.here hx rfl (hb hby d9_8) k))) ?_
    show own_Goes p e below (s₁.setTop (mkF m 9 #[rv a399, iv p400, iv p401, .unset] [(.int (1 : Int32)), (.int p401)])) _
    by_cases hc425 : p401 = (1 : Int32)
    · refine own_via (fun t k => XS.icmpNo X0.here hx rfl (hb hby d9_9) rfl (teq hc425).2 (XS.aloadN X0.here hx rfl (hb hby d9_12) rfl rfl k)) ?_
      obtain ⟨T426, X426, e426, st426⟩ := getF X0 hx hZ hown (host := "") (Or.inl (wd hw 40 rfl)) Via.refl e0 pF_a399_echoOffered (g := (mkF m 13 #[rv a399, iv p400, iv p401, .unset] [(.ref a399)])) rfl rfl (hb hby d9_13)
      refine own_via (fun t k => st426 t (XS.ifNo X426.here hx rfl (hb hby d9_16) rfl ((if0 _ _).trans (feq (by decide : ¬ ((1 : Int32) = (0 : Int32)))).1) k)) ?_
      obtain ⟨T427, X427, e427, st427⟩ := getS2 X426 hx hZ hown (host := "") (Or.inl (wd hw 55 rfl)) Via.refl e426 (S_TelnetOptions_NO_ANSWER.ext O0.2) (g := (mkF m 19 #[rv a399, iv p400, iv p401, .unset] [])) rfl (hb hby d9_19)
      refine own_via (fun t k => st427 t k) ?_
      obtain ⟨fs, hr, hrun, hended, hW, hsame⟩ := X427.leave (v := some (.ref w6)) (fun h => by rw [Bd.returns] at h; cases h)
      refine own_end (t := T427.setFrames fs) ?_ ⟨_, hrun, hended, _, _, rfl, ?_, ⟨_, rfl⟩, hW, hsame.mono (by decide) (by decide)⟩
      · jvm_step X427.here [X427.here.top, hx, (hb hby d9_22), X427.method', Bd.returns, Value.isRef, FieldType.isReference]
        first | (intro acts; rw [hr _ acts rfl rfl rfl]) | rw [hr _ _ rfl rfl rfl]
        exact Steps.refl _
      · show Q22 Z a399 p400 p401 w6 a404 a405 p408 k409 a402 a403 p406 k407 h0 n0 _ T427.heap _
        rw [e427]
        exact Or.inl <| ⟨hc424, hc425, rfl, N0, rfl⟩
    · refine own_via (fun t k => XS.icmpYes X0.here hx rfl (pc0 := 9) (pc' := 23) rfl (hb hby d9_9) rfl (feq hc425).2 (by decide) (by decide) (XS.iloadN X0.here hx rfl (hb hby d9_23) rfl (XS.sipush X0.here hx rfl (hb hby d9_24) k))) ?_
      show own_Goes p e below (s₁.setTop (mkF m 27 #[rv a399, iv p400, iv p401, .unset] [(.int (201 : Int32)), (.int p401)])) _
      by_cases hc428 : p401 = (201 : Int32)
      · refine own_via (fun t k => XS.icmpNo X0.here hx rfl (hb hby d9_27) rfl (teq hc428).2 (XS.iloadN X0.here hx rfl (hb hby d9_30) rfl (XS.sipush X0.here hx rfl (hb hby d9_31) (XS.icmpYes X0.here hx rfl (pc0 := 34) (pc' := 44) rfl (hb hby d9_34) rfl (teq hc424).1 (by decide) (by decide) (XS.aloadN X0.here hx rfl (hb hby d9_44) rfl rfl k))))) ?_
        show own_Goes p e below (s₁.setTop (mkF m 45 #[rv a399, iv p400, iv p401, .unset] [(.ref a399)])) _
        obtain ⟨T429, X429, e429, st429⟩ := getF X0 hx hZ hown (host := "") (Or.inl (wd hw 92 rfl)) Via.refl e0 pF_a399_gmcpOffered (g := (mkF m 45 #[rv a399, iv p400, iv p401, .unset] [(.ref a399)])) rfl rfl (hb hby d9_45)
        refine own_via (fun t k => st429 t (XS.ifNo X429.here hx rfl (hb hby d9_48) rfl ((if0 _ _).trans (teq (by decide : (0 : Int32) = (0 : Int32))).2) (XS.aloadN X429.here hx rfl (hb hby d9_51) rfl rfl k))) ?_
        show own_Goes p e below (T429.setTop (mkF m 52 #[rv a399, iv p400, iv p401, .unset] [(.ref a399)])) _
        obtain ⟨T430, X430, e430, st430⟩ := getF X429 hx hZ hown (host := "") (Or.inl (wd hw 94 rfl)) Via.refl e429 pF_a399_gmcpOn (g := (mkF m 52 #[rv a399, iv p400, iv p401, .unset] [(.ref a399)])) rfl rfl (hb hby d9_52)
        refine own_via (fun t k => st430 t (XS.ifYes X430.here hx rfl (pc0 := 55) (pc' := 75) rfl (hb hby d9_55) rfl ((if0 _ _).trans (teq (by decide : (0 : Int32) = (0 : Int32))).1) (by decide) (by decide) (XS.iloadN X430.here hx rfl (hb hby d9_75) rfl (XS.sipush X430.here hx rfl (hb hby d9_76) (XS.icmpYes X430.here hx rfl (pc0 := 79) (pc' := 108) rfl (hb hby d9_79) rfl (feq (by rw [hc424]; decide : ¬ (p400 = (251 : Int32)))).2 (by decide) (by decide) (XS.iloadN X430.here hx rfl (hb hby d9_108) rfl (XS.sipush X430.here hx rfl (hb hby d9_109) (XS.icmpNo X430.here hx rfl (hb hby d9_112) rfl (teq hc424).2 (XS.aloadN X430.here hx rfl (hb hby d9_115) rfl rfl k))))))))) ?_
        show own_Goes p e below (T430.setTop (mkF m 116 #[rv a399, iv p400, iv p401, .unset] [(.ref a399)])) _
        obtain ⟨T431, X431, e431, st431⟩ := getF X430 hx hZ hown (host := "") (Or.inl (wd hw 33 rfl)) Via.refl e430 pF_a399_refusedDo (g := (mkF m 116 #[rv a399, iv p400, iv p401, .unset] [(.ref a399)])) rfl rfl (hb hby d9_116)
        refine own_via (fun t k => st431 t (XS.iloadN X431.here hx rfl (hb hby d9_119) rfl k)) ?_
        obtain ⟨_, T432, _, X432, hQ432, st432⟩ := own_cv X431 hx hZ hown (wd hw 66 rfl) (wd hw 67 rfl) (wd hw 69 rfl) (wd hw 68 rfl) (wd hw 70 rfl) (wd hw 11 rfl) (by decide) (rm10 l Z a0 hw [] a404 p401 h0 n0 O0 pC422 S_BitSet__assertionsDisabled pE_a404 pF_a404_wordsInUse) e431 pE_a404 (g := (mkF m 120 #[rv a399, iv p400, iv p401, .unset] [(.int p401), (.ref a404)])) rfl (by rw [hml]; rfl) (rest := []) (W := 0) (lenOf pd_7 rfl) rfl (by show 2 * 0 + _ ≤ _; exact Nat.le_of_eq rfl) (hb hby d9_120) (by decide) (by decide) (by decide) (by decide)
        obtain ⟨rfl, Nq432, hh539⟩ := hQ432
        have N432 := Fr.app N0 Nq432
        refine own_via (fun t k => st432 t (XS.ifNo X432.here hx rfl (hb hby d9_123) rfl ((if0 _ _).trans (teq (by decide : (0 : Int32) = (0 : Int32))).2) (XS.aloadN X432.here hx rfl (hb hby d9_126) rfl rfl k))) ?_
        show own_Goes p e below (T432.setTop (mkF m 127 #[rv a399, iv p400, iv p401, .unset] [(.ref a399)])) _
        obtain ⟨T540, X540, e540, st540⟩ := getF X432 hx hZ hown (host := "") (Or.inl (wd hw 33 rfl)) Via.refl hh539 pF_a399_refusedDo (g := (mkF m 127 #[rv a399, iv p400, iv p401, .unset] [(.ref a399)])) rfl rfl (hb hby d9_127)
        refine own_via (fun t k => st540 t (XS.iloadN X540.here hx rfl (hb hby d9_130) rfl k)) ?_
        obtain ⟨_, T541, _, X541, hQ541, st541⟩ := own_cv X540 hx hZ hown (wd hw 77 rfl) (wd hw 78 rfl) (wd hw 80 rfl) (wd hw 79 rfl) (wd hw 81 rfl) (wd hw 11 rfl) (by decide) (rm19 l Z a0 hw [] a404 p401 a405 p408 k409 h0 n0 O0 pC422 pC423 pF_a404_wordsInUse pF_a404_words pL_a405 pE_a404 pG_a404 pF_a404_sizeIsSticky pV_a405 pN_a404_a405 pG_a405 S_BitSet__assertionsDisabled) e540 pE_a404 (g := (mkF m 131 #[rv a399, iv p400, iv p401, .unset] [(.int p401), (.ref a404)])) rfl (by rw [hml]; rfl) (rest := []) (W := 0) (lenOf pd_2 rfl) rfl (by show 2 * 0 + _ ≤ _; exact Nat.le_of_eq rfl) (hb hby d9_131) (by decide) (by decide) (by decide) (by decide)
        obtain ⟨h541, e541⟩ : ∃ z, T541.heap = z := ⟨_, rfl⟩
        rw [e541] at hQ541
        obtain ⟨rfl, Nq541, K541, ex944⟩ := hQ541
        have N541 := Fr.app N432 Nq541
        refine own_via (fun t k => st541 t (XS.sipush X541.here hx rfl (hb hby d9_134) (XS.istoreN X541.here hx rfl (hb hby d9_137) rfl (l' := #[rv a399, iv p400, iv p401, iv (252 : Int32)]) rfl (XS.goto X541.here hx rfl (pc0 := 138) (pc' := 145) rfl (hb hby d9_138) (by decide) (by decide) (XS.iloadN X541.here hx rfl (hb hby d9_145) rfl (XS.iloadN X541.here hx rfl (hb hby d9_146) rfl k)))))) ?_
        show own_Goes p e below (T541.setTop (mkF m 147 #[rv a399, iv p400, iv p401, iv (252 : Int32)] [(.int p401), (.int (252 : Int32))])) _
        have O990 : Old Z n0 h541 := (O0.keep K541 (allS pG_a404 (allS pG_a405 all0)))
        obtain ⟨_, T945, _, X945, hQ945, st945⟩ := own_cs X541 hx hZ hown (wd hw 42 rfl) (wd hw 43 rfl) (wd hw 44 rfl) (wd hw 2 rfl) (by decide) (rm20 l Z a0 hw [] p401 h541 n0 O990 ) e541 (g := (mkF m 147 #[rv a399, iv p400, iv p401, iv (252 : Int32)] [(.int p401), (.int (252 : Int32))])) rfl (by rw [hml]; rfl) (rest := []) (W := 0) (lenOf pd_4 rfl) rfl (by show 2 * 0 + _ ≤ _; exact Nat.le_of_eq rfl) (hb hby d9_147) (by decide) (by decide) (by decide) (by decide)
        obtain ⟨h945, e945⟩ : ∃ z, T945.heap = z := ⟨_, rfl⟩
        rw [e945] at hQ945
        obtain ⟨b991, k992, rfl, Nq945, K945, bx993, vx994⟩ := hQ945
        have N945 := Fr.app N541 Nq945
        have g995 : n0 ≤ b991 := Nat.le_trans (own_old O990) bx993
        have Z997 : h0.size ≤ h541.size := (Nat.le_trans (Nat.le_refl _) K541.1)
        have B996 : h0.size ≤ b991 := Nat.le_trans Z997 bx993
        refine own_via (fun t k => st945 t k) ?_
        obtain ⟨fs, hr, hrun, hended, hW, hsame⟩ := X945.leave (v := some (.ref b991)) (fun h => by rw [Bd.returns] at h; cases h)
        refine own_end (t := T945.setFrames fs) ?_ ⟨_, hrun, hended, _, _, rfl, ?_, ⟨_, rfl⟩, hW, hsame.mono (by decide) (by decide)⟩
        · jvm_step X945.here [X945.here.top, hx, (hb hby d9_150), X945.method', Bd.returns, Value.isRef, FieldType.isReference]
          first | (intro acts; rw [hr _ acts rfl rfl rfl]) | rw [hr _ _ rfl rfl rfl]
          exact Steps.refl _
        have E998 : Exa Z h945 a404 zs2 := (ex944.keep K945)
        · show Q22 Z a399 p400 p401 w6 a404 a405 p408 k409 a402 a403 p406 k407 h0 n0 _ T945.heap _
          rw [e945]
          exact Or.inr <| Or.inl <| ⟨b991, k992, hc424, hc425, hc428, rfl, N945, (((Keep.refl h0 [a404, a405]).trans K541 (allS (Or.inl (List.mem_of_getElem? (i := 0) rfl)) (allS (Or.inl (List.mem_of_getElem? (i := 1) rfl)) all0))).trans K945 all0), E998, B996, vx994⟩
      · refine own_via (fun t k => XS.icmpYes X0.here hx rfl (pc0 := 27) (pc' := 75) rfl (hb hby d9_27) rfl (feq hc428).2 (by decide) (by decide) (XS.iloadN X0.here hx rfl (hb hby d9_75) rfl (XS.sipush X0.here hx rfl (hb hby d9_76) (XS.icmpYes X0.here hx rfl (pc0 := 79) (pc' := 108) rfl (hb hby d9_79) rfl (feq (by rw [hc424]; decide : ¬ (p400 = (251 : Int32)))).2 (by decide) (by decide) (XS.iloadN X0.here hx rfl (hb hby d9_108) rfl (XS.sipush X0.here hx rfl (hb hby d9_109) (XS.icmpNo X0.here hx rfl (hb hby d9_112) rfl (teq hc424).2 (XS.aloadN X0.here hx rfl (hb hby d9_115) rfl rfl k)))))))) ?_
        show own_Goes p e below (s₁.setTop (mkF m 116 #[rv a399, iv p400, iv p401, .unset] [(.ref a399)])) _
        obtain ⟨T999, X999, e999, st999⟩ := getF X0 hx hZ hown (host := "") (Or.inl (wd hw 33 rfl)) Via.refl e0 pF_a399_refusedDo (g := (mkF m 116 #[rv a399, iv p400, iv p401, .unset] [(.ref a399)])) rfl rfl (hb hby d9_116)
        refine own_via (fun t k => st999 t (XS.iloadN X999.here hx rfl (hb hby d9_119) rfl k)) ?_
        obtain ⟨_, T1000, _, X1000, hQ1000, st1000⟩ := own_cv X999 hx hZ hown (wd hw 66 rfl) (wd hw 67 rfl) (wd hw 69 rfl) (wd hw 68 rfl) (wd hw 70 rfl) (wd hw 11 rfl) (by decide) (rm10 l Z a0 hw [] a404 p401 h0 n0 O0 pC422 S_BitSet__assertionsDisabled pE_a404 pF_a404_wordsInUse) e999 pE_a404 (g := (mkF m 120 #[rv a399, iv p400, iv p401, .unset] [(.int p401), (.ref a404)])) rfl (by rw [hml]; rfl) (rest := []) (W := 0) (lenOf pd_7 rfl) rfl (by show 2 * 0 + _ ≤ _; exact Nat.le_of_eq rfl) (hb hby d9_120) (by decide) (by decide) (by decide) (by decide)
        obtain ⟨rfl, Nq1000, hh1001⟩ := hQ1000
        have N1000 := Fr.app N0 Nq1000
        refine own_via (fun t k => st1000 t (XS.ifNo X1000.here hx rfl (hb hby d9_123) rfl ((if0 _ _).trans (teq (by decide : (0 : Int32) = (0 : Int32))).2) (XS.aloadN X1000.here hx rfl (hb hby d9_126) rfl rfl k))) ?_
        show own_Goes p e below (T1000.setTop (mkF m 127 #[rv a399, iv p400, iv p401, .unset] [(.ref a399)])) _
        obtain ⟨T1002, X1002, e1002, st1002⟩ := getF X1000 hx hZ hown (host := "") (Or.inl (wd hw 33 rfl)) Via.refl hh1001 pF_a399_refusedDo (g := (mkF m 127 #[rv a399, iv p400, iv p401, .unset] [(.ref a399)])) rfl rfl (hb hby d9_127)
        refine own_via (fun t k => st1002 t (XS.iloadN X1002.here hx rfl (hb hby d9_130) rfl k)) ?_
        obtain ⟨_, T1003, _, X1003, hQ1003, st1003⟩ := own_cv X1002 hx hZ hown (wd hw 77 rfl) (wd hw 78 rfl) (wd hw 80 rfl) (wd hw 79 rfl) (wd hw 81 rfl) (wd hw 11 rfl) (by decide) (rm19 l Z a0 hw [] a404 p401 a405 p408 k409 h0 n0 O0 pC422 pC423 pF_a404_wordsInUse pF_a404_words pL_a405 pE_a404 pG_a404 pF_a404_sizeIsSticky pV_a405 pN_a404_a405 pG_a405 S_BitSet__assertionsDisabled) e1002 pE_a404 (g := (mkF m 131 #[rv a399, iv p400, iv p401, .unset] [(.int p401), (.ref a404)])) rfl (by rw [hml]; rfl) (rest := []) (W := 0) (lenOf pd_2 rfl) rfl (by show 2 * 0 + _ ≤ _; exact Nat.le_of_eq rfl) (hb hby d9_131) (by decide) (by decide) (by decide) (by decide)
        obtain ⟨h1003, e1003⟩ : ∃ z, T1003.heap = z := ⟨_, rfl⟩
        rw [e1003] at hQ1003
        obtain ⟨rfl, Nq1003, K1003, ex1004⟩ := hQ1003
        have N1003 := Fr.app N1000 Nq1003
        refine own_via (fun t k => st1003 t (XS.sipush X1003.here hx rfl (hb hby d9_134) (XS.istoreN X1003.here hx rfl (hb hby d9_137) rfl (l' := #[rv a399, iv p400, iv p401, iv (252 : Int32)]) rfl (XS.goto X1003.here hx rfl (pc0 := 138) (pc' := 145) rfl (hb hby d9_138) (by decide) (by decide) (XS.iloadN X1003.here hx rfl (hb hby d9_145) rfl (XS.iloadN X1003.here hx rfl (hb hby d9_146) rfl k)))))) ?_
        show own_Goes p e below (T1003.setTop (mkF m 147 #[rv a399, iv p400, iv p401, iv (252 : Int32)] [(.int p401), (.int (252 : Int32))])) _
        have O1006 : Old Z n0 h1003 := (O0.keep K1003 (allS pG_a404 (allS pG_a405 all0)))
        obtain ⟨_, T1005, _, X1005, hQ1005, st1005⟩ := own_cs X1003 hx hZ hown (wd hw 42 rfl) (wd hw 43 rfl) (wd hw 44 rfl) (wd hw 2 rfl) (by decide) (rm20 l Z a0 hw [] p401 h1003 n0 O1006 ) e1003 (g := (mkF m 147 #[rv a399, iv p400, iv p401, iv (252 : Int32)] [(.int p401), (.int (252 : Int32))])) rfl (by rw [hml]; rfl) (rest := []) (W := 0) (lenOf pd_4 rfl) rfl (by show 2 * 0 + _ ≤ _; exact Nat.le_of_eq rfl) (hb hby d9_147) (by decide) (by decide) (by decide) (by decide)
        obtain ⟨h1005, e1005⟩ : ∃ z, T1005.heap = z := ⟨_, rfl⟩
        rw [e1005] at hQ1005
        obtain ⟨b1007, k1008, rfl, Nq1005, K1005, bx1009, vx1010⟩ := hQ1005
        have N1005 := Fr.app N1003 Nq1005
        have g1011 : n0 ≤ b1007 := Nat.le_trans (own_old O1006) bx1009
        have Z1013 : h0.size ≤ h1003.size := (Nat.le_trans (Nat.le_refl _) K1003.1)
        have B1012 : h0.size ≤ b1007 := Nat.le_trans Z1013 bx1009
        refine own_via (fun t k => st1005 t k) ?_
        obtain ⟨fs, hr, hrun, hended, hW, hsame⟩ := X1005.leave (v := some (.ref b1007)) (fun h => by rw [Bd.returns] at h; cases h)
        refine own_end (t := T1005.setFrames fs) ?_ ⟨_, hrun, hended, _, _, rfl, ?_, ⟨_, rfl⟩, hW, hsame.mono (by decide) (by decide)⟩
        · jvm_step X1005.here [X1005.here.top, hx, (hb hby d9_150), X1005.method', Bd.returns, Value.isRef, FieldType.isReference]
          first | (intro acts; rw [hr _ acts rfl rfl rfl]) | rw [hr _ _ rfl rfl rfl]
          exact Steps.refl _
        have E1014 : Exa Z h1005 a404 zs2 := (ex1004.keep K1005)
        · show Q22 Z a399 p400 p401 w6 a404 a405 p408 k409 a402 a403 p406 k407 h0 n0 _ T1005.heap _
          rw [e1005]
          exact Or.inr <| Or.inr <| Or.inl <| ⟨b1007, k1008, hc424, hc425, hc428, rfl, N1005, (((Keep.refl h0 [a404, a405]).trans K1003 (allS (Or.inl (List.mem_of_getElem? (i := 0) rfl)) (allS (Or.inl (List.mem_of_getElem? (i := 1) rfl)) all0))).trans K1005 all0), E1014, B1012, vx1010⟩
  · refine own_via (fun t k => XS.icmpYes X0.here hx rfl (pc0 := 4) (pc' := 23) rfl (hb hby d9_4) rfl (feq hc424).2 (by decide) (by decide) (XS.iloadN X0.here hx rfl (hb hby d9_23) rfl (XS.sipush X0.here hx rfl (hb hby d9_24) k))) ?_
    show own_Goes p e below (s₁.setTop (mkF m 27 #[rv a399, iv p400, iv p401, .unset] [(.int (201 : Int32)), (.int p401)])) _
    by_cases hc1015 : p401 = (201 : Int32)
    · refine own_via (fun t k => XS.icmpNo X0.here hx rfl (hb hby d9_27) rfl (teq hc1015).2 (XS.iloadN X0.here hx rfl (hb hby d9_30) rfl (XS.sipush X0.here hx rfl (hb hby d9_31) (XS.icmpNo X0.here hx rfl (hb hby d9_34) rfl (feq hc424).1 (XS.iloadN X0.here hx rfl (hb hby d9_37) rfl (XS.sipush X0.here hx rfl (hb hby d9_38) k)))))) ?_
      show own_Goes p e below (s₁.setTop (mkF m 41 #[rv a399, iv p400, iv p401, .unset] [(.int (254 : Int32)), (.int p400)])) _
      by_cases hc1016 : p400 = (254 : Int32)
      · refine own_via (fun t k => XS.icmpNo X0.here hx rfl (hb hby d9_41) rfl (teq hc1016).2 (XS.aloadN X0.here hx rfl (hb hby d9_44) rfl rfl k)) ?_
        obtain ⟨T1017, X1017, e1017, st1017⟩ := getF X0 hx hZ hown (host := "") (Or.inl (wd hw 92 rfl)) Via.refl e0 pF_a399_gmcpOffered (g := (mkF m 45 #[rv a399, iv p400, iv p401, .unset] [(.ref a399)])) rfl rfl (hb hby d9_45)
        refine own_via (fun t k => st1017 t (XS.ifNo X1017.here hx rfl (hb hby d9_48) rfl ((if0 _ _).trans (teq (by decide : (0 : Int32) = (0 : Int32))).2) (XS.aloadN X1017.here hx rfl (hb hby d9_51) rfl rfl k))) ?_
        show own_Goes p e below (T1017.setTop (mkF m 52 #[rv a399, iv p400, iv p401, .unset] [(.ref a399)])) _
        obtain ⟨T1018, X1018, e1018, st1018⟩ := getF X1017 hx hZ hown (host := "") (Or.inl (wd hw 94 rfl)) Via.refl e1017 pF_a399_gmcpOn (g := (mkF m 52 #[rv a399, iv p400, iv p401, .unset] [(.ref a399)])) rfl rfl (hb hby d9_52)
        refine own_via (fun t k => st1018 t (XS.ifYes X1018.here hx rfl (pc0 := 55) (pc' := 75) rfl (hb hby d9_55) rfl ((if0 _ _).trans (teq (by decide : (0 : Int32) = (0 : Int32))).1) (by decide) (by decide) (XS.iloadN X1018.here hx rfl (hb hby d9_75) rfl (XS.sipush X1018.here hx rfl (hb hby d9_76) (XS.icmpYes X1018.here hx rfl (pc0 := 79) (pc' := 108) rfl (hb hby d9_79) rfl (feq (by rw [hc1016]; decide : ¬ (p400 = (251 : Int32)))).2 (by decide) (by decide) (XS.iloadN X1018.here hx rfl (hb hby d9_108) rfl (XS.sipush X1018.here hx rfl (hb hby d9_109) (XS.icmpYes X1018.here hx rfl (pc0 := 112) (pc' := 141) rfl (hb hby d9_112) rfl (feq hc424).2 (by decide) (by decide) k)))))))) ?_
        show own_Goes p e below (T1018.setTop (mkF m 141 #[rv a399, iv p400, iv p401, .unset] [])) _
        obtain ⟨T1019, X1019, e1019, st1019⟩ := getS2 X1018 hx hZ hown (host := "") (Or.inl (wd hw 55 rfl)) Via.refl e1018 (S_TelnetOptions_NO_ANSWER.ext O0.2) (g := (mkF m 141 #[rv a399, iv p400, iv p401, .unset] [])) rfl (hb hby d9_141)
        refine own_via (fun t k => st1019 t k) ?_
        obtain ⟨fs, hr, hrun, hended, hW, hsame⟩ := X1019.leave (v := some (.ref w6)) (fun h => by rw [Bd.returns] at h; cases h)
        refine own_end (t := T1019.setFrames fs) ?_ ⟨_, hrun, hended, _, _, rfl, ?_, ⟨_, rfl⟩, hW, hsame.mono (by decide) (by decide)⟩
        · jvm_step X1019.here [X1019.here.top, hx, (hb hby d9_144), X1019.method', Bd.returns, Value.isRef, FieldType.isReference]
          first | (intro acts; rw [hr _ acts rfl rfl rfl]) | rw [hr _ _ rfl rfl rfl]
          exact Steps.refl _
        · show Q22 Z a399 p400 p401 w6 a404 a405 p408 k409 a402 a403 p406 k407 h0 n0 _ T1019.heap _
          rw [e1019]
          exact Or.inr <| Or.inr <| Or.inr <| Or.inl <| ⟨hc424, hc1015, hc1016, rfl, N0, rfl⟩
      · refine own_via (fun t k => XS.icmpYes X0.here hx rfl (pc0 := 41) (pc' := 75) rfl (hb hby d9_41) rfl (feq hc1016).2 (by decide) (by decide) (XS.iloadN X0.here hx rfl (hb hby d9_75) rfl (XS.sipush X0.here hx rfl (hb hby d9_76) k))) ?_
        show own_Goes p e below (s₁.setTop (mkF m 79 #[rv a399, iv p400, iv p401, .unset] [(.int (251 : Int32)), (.int p400)])) _
        by_cases hc1020 : p400 = (251 : Int32)
        · refine own_via (fun t k => XS.icmpNo X0.here hx rfl (hb hby d9_79) rfl (teq hc1020).2 (XS.aloadN X0.here hx rfl (hb hby d9_82) rfl rfl k)) ?_
          obtain ⟨T1021, X1021, e1021, st1021⟩ := getF X0 hx hZ hown (host := "") (Or.inl (wd hw 31 rfl)) Via.refl e0 pF_a399_refusedWill (g := (mkF m 83 #[rv a399, iv p400, iv p401, .unset] [(.ref a399)])) rfl rfl (hb hby d9_83)
          refine own_via (fun t k => st1021 t (XS.iloadN X1021.here hx rfl (hb hby d9_86) rfl k)) ?_
          obtain ⟨_, T1022, _, X1022, hQ1022, st1022⟩ := own_cv X1021 hx hZ hown (wd hw 66 rfl) (wd hw 67 rfl) (wd hw 69 rfl) (wd hw 68 rfl) (wd hw 70 rfl) (wd hw 11 rfl) (by decide) (rm10 l Z a0 hw [] a402 p401 h0 n0 O0 pC422 S_BitSet__assertionsDisabled pE_a402 pF_a402_wordsInUse) e1021 pE_a402 (g := (mkF m 87 #[rv a399, iv p400, iv p401, .unset] [(.int p401), (.ref a402)])) rfl (by rw [hml]; rfl) (rest := []) (W := 0) (lenOf pd_7 rfl) rfl (by show 2 * 0 + _ ≤ _; exact Nat.le_of_eq rfl) (hb hby d9_87) (by decide) (by decide) (by decide) (by decide)
          obtain ⟨rfl, Nq1022, hh1023⟩ := hQ1022
          have N1022 := Fr.app N0 Nq1022
          refine own_via (fun t k => st1022 t (XS.ifNo X1022.here hx rfl (hb hby d9_90) rfl ((if0 _ _).trans (teq (by decide : (0 : Int32) = (0 : Int32))).2) (XS.aloadN X1022.here hx rfl (hb hby d9_93) rfl rfl k))) ?_
          show own_Goes p e below (T1022.setTop (mkF m 94 #[rv a399, iv p400, iv p401, .unset] [(.ref a399)])) _
          obtain ⟨T1024, X1024, e1024, st1024⟩ := getF X1022 hx hZ hown (host := "") (Or.inl (wd hw 31 rfl)) Via.refl hh1023 pF_a399_refusedWill (g := (mkF m 94 #[rv a399, iv p400, iv p401, .unset] [(.ref a399)])) rfl rfl (hb hby d9_94)
          refine own_via (fun t k => st1024 t (XS.iloadN X1024.here hx rfl (hb hby d9_97) rfl k)) ?_
          obtain ⟨_, T1025, _, X1025, hQ1025, st1025⟩ := own_cv X1024 hx hZ hown (wd hw 77 rfl) (wd hw 78 rfl) (wd hw 80 rfl) (wd hw 79 rfl) (wd hw 81 rfl) (wd hw 11 rfl) (by decide) (rm19 l Z a0 hw [] a402 p401 a403 p406 k407 h0 n0 O0 pC422 pC423 pF_a402_wordsInUse pF_a402_words pL_a403 pE_a402 pG_a402 pF_a402_sizeIsSticky pV_a403 pN_a402_a403 pG_a403 S_BitSet__assertionsDisabled) e1024 pE_a402 (g := (mkF m 98 #[rv a399, iv p400, iv p401, .unset] [(.int p401), (.ref a402)])) rfl (by rw [hml]; rfl) (rest := []) (W := 0) (lenOf pd_2 rfl) rfl (by show 2 * 0 + _ ≤ _; exact Nat.le_of_eq rfl) (hb hby d9_98) (by decide) (by decide) (by decide) (by decide)
          obtain ⟨h1025, e1025⟩ : ∃ z, T1025.heap = z := ⟨_, rfl⟩
          rw [e1025] at hQ1025
          obtain ⟨rfl, Nq1025, K1025, ex1026⟩ := hQ1025
          have N1025 := Fr.app N1022 Nq1025
          refine own_via (fun t k => st1025 t (XS.sipush X1025.here hx rfl (hb hby d9_101) (XS.istoreN X1025.here hx rfl (hb hby d9_104) rfl (l' := #[rv a399, iv p400, iv p401, iv (254 : Int32)]) rfl (XS.goto X1025.here hx rfl (pc0 := 105) (pc' := 145) rfl (hb hby d9_105) (by decide) (by decide) (XS.iloadN X1025.here hx rfl (hb hby d9_145) rfl (XS.iloadN X1025.here hx rfl (hb hby d9_146) rfl k)))))) ?_
          show own_Goes p e below (T1025.setTop (mkF m 147 #[rv a399, iv p400, iv p401, iv (254 : Int32)] [(.int p401), (.int (254 : Int32))])) _
          have O1073 : Old Z n0 h1025 := (O0.keep K1025 (allS pG_a402 (allS pG_a403 all0)))
          obtain ⟨_, T1027, _, X1027, hQ1027, st1027⟩ := own_cs X1025 hx hZ hown (wd hw 42 rfl) (wd hw 43 rfl) (wd hw 44 rfl) (wd hw 2 rfl) (by decide) (rm21 l Z a0 hw [] p401 h1025 n0 O1073 ) e1025 (g := (mkF m 147 #[rv a399, iv p400, iv p401, iv (254 : Int32)] [(.int p401), (.int (254 : Int32))])) rfl (by rw [hml]; rfl) (rest := []) (W := 0) (lenOf pd_4 rfl) rfl (by show 2 * 0 + _ ≤ _; exact Nat.le_of_eq rfl) (hb hby d9_147) (by decide) (by decide) (by decide) (by decide)
          obtain ⟨h1027, e1027⟩ : ∃ z, T1027.heap = z := ⟨_, rfl⟩
          rw [e1027] at hQ1027
          obtain ⟨b1074, k1075, rfl, Nq1027, K1027, bx1076, vx1077⟩ := hQ1027
          have N1027 := Fr.app N1025 Nq1027
          have g1078 : n0 ≤ b1074 := Nat.le_trans (own_old O1073) bx1076
          have Z1080 : h0.size ≤ h1025.size := (Nat.le_trans (Nat.le_refl _) K1025.1)
          have B1079 : h0.size ≤ b1074 := Nat.le_trans Z1080 bx1076
          refine own_via (fun t k => st1027 t k) ?_
          obtain ⟨fs, hr, hrun, hended, hW, hsame⟩ := X1027.leave (v := some (.ref b1074)) (fun h => by rw [Bd.returns] at h; cases h)
          refine own_end (t := T1027.setFrames fs) ?_ ⟨_, hrun, hended, _, _, rfl, ?_, ⟨_, rfl⟩, hW, hsame.mono (by decide) (by decide)⟩
          · jvm_step X1027.here [X1027.here.top, hx, (hb hby d9_150), X1027.method', Bd.returns, Value.isRef, FieldType.isReference]
            first | (intro acts; rw [hr _ acts rfl rfl rfl]) | rw [hr _ _ rfl rfl rfl]
            exact Steps.refl _
          have E1081 : Exa Z h1027 a402 zs2 := (ex1026.keep K1027)
          · show Q22 Z a399 p400 p401 w6 a404 a405 p408 k409 a402 a403 p406 k407 h0 n0 _ T1027.heap _
            rw [e1027]
            exact Or.inr <| Or.inr <| Or.inr <| Or.inr <| Or.inl <| ⟨b1074, k1075, hc424, hc1015, hc1016, hc1020, rfl, N1027, (((Keep.refl h0 [a402, a403]).trans K1025 (allS (Or.inl (List.mem_of_getElem? (i := 0) rfl)) (allS (Or.inl (List.mem_of_getElem? (i := 1) rfl)) all0))).trans K1027 all0), E1081, B1079, vx1077⟩
        · refine own_via (fun t k => XS.icmpYes X0.here hx rfl (pc0 := 79) (pc' := 108) rfl (hb hby d9_79) rfl (feq hc1020).2 (by decide) (by decide) (XS.iloadN X0.here hx rfl (hb hby d9_108) rfl (XS.sipush X0.here hx rfl (hb hby d9_109) (XS.icmpYes X0.here hx rfl (pc0 := 112) (pc' := 141) rfl (hb hby d9_112) rfl (feq hc424).2 (by decide) (by decide) k)))) ?_
          show own_Goes p e below (s₁.setTop (mkF m 141 #[rv a399, iv p400, iv p401, .unset] [])) _
          obtain ⟨T1082, X1082, e1082, st1082⟩ := getS2 X0 hx hZ hown (host := "") (Or.inl (wd hw 55 rfl)) Via.refl e0 (S_TelnetOptions_NO_ANSWER.ext O0.2) (g := (mkF m 141 #[rv a399, iv p400, iv p401, .unset] [])) rfl (hb hby d9_141)
          refine own_via (fun t k => st1082 t k) ?_
          obtain ⟨fs, hr, hrun, hended, hW, hsame⟩ := X1082.leave (v := some (.ref w6)) (fun h => by rw [Bd.returns] at h; cases h)
          refine own_end (t := T1082.setFrames fs) ?_ ⟨_, hrun, hended, _, _, rfl, ?_, ⟨_, rfl⟩, hW, hsame.mono (by decide) (by decide)⟩
          · jvm_step X1082.here [X1082.here.top, hx, (hb hby d9_144), X1082.method', Bd.returns, Value.isRef, FieldType.isReference]
            first | (intro acts; rw [hr _ acts rfl rfl rfl]) | rw [hr _ _ rfl rfl rfl]
            exact Steps.refl _
          · show Q22 Z a399 p400 p401 w6 a404 a405 p408 k409 a402 a403 p406 k407 h0 n0 _ T1082.heap _
            rw [e1082]
            exact Or.inr <| Or.inr <| Or.inr <| Or.inr <| Or.inr <| Or.inl <| ⟨hc424, hc1015, hc1016, hc1020, rfl, N0, rfl⟩
    · refine own_via (fun t k => XS.icmpYes X0.here hx rfl (pc0 := 27) (pc' := 75) rfl (hb hby d9_27) rfl (feq hc1015).2 (by decide) (by decide) (XS.iloadN X0.here hx rfl (hb hby d9_75) rfl (XS.sipush X0.here hx rfl (hb hby d9_76) k))) ?_
      show own_Goes p e below (s₁.setTop (mkF m 79 #[rv a399, iv p400, iv p401, .unset] [(.int (251 : Int32)), (.int p400)])) _
      by_cases hc1083 : p400 = (251 : Int32)
      · refine own_via (fun t k => XS.icmpNo X0.here hx rfl (hb hby d9_79) rfl (teq hc1083).2 (XS.aloadN X0.here hx rfl (hb hby d9_82) rfl rfl k)) ?_
        obtain ⟨T1084, X1084, e1084, st1084⟩ := getF X0 hx hZ hown (host := "") (Or.inl (wd hw 31 rfl)) Via.refl e0 pF_a399_refusedWill (g := (mkF m 83 #[rv a399, iv p400, iv p401, .unset] [(.ref a399)])) rfl rfl (hb hby d9_83)
        refine own_via (fun t k => st1084 t (XS.iloadN X1084.here hx rfl (hb hby d9_86) rfl k)) ?_
        obtain ⟨_, T1085, _, X1085, hQ1085, st1085⟩ := own_cv X1084 hx hZ hown (wd hw 66 rfl) (wd hw 67 rfl) (wd hw 69 rfl) (wd hw 68 rfl) (wd hw 70 rfl) (wd hw 11 rfl) (by decide) (rm10 l Z a0 hw [] a402 p401 h0 n0 O0 pC422 S_BitSet__assertionsDisabled pE_a402 pF_a402_wordsInUse) e1084 pE_a402 (g := (mkF m 87 #[rv a399, iv p400, iv p401, .unset] [(.int p401), (.ref a402)])) rfl (by rw [hml]; rfl) (rest := []) (W := 0) (lenOf pd_7 rfl) rfl (by show 2 * 0 + _ ≤ _; exact Nat.le_of_eq rfl) (hb hby d9_87) (by decide) (by decide) (by decide) (by decide)
        obtain ⟨rfl, Nq1085, hh1086⟩ := hQ1085
        have N1085 := Fr.app N0 Nq1085
        refine own_via (fun t k => st1085 t (XS.ifNo X1085.here hx rfl (hb hby d9_90) rfl ((if0 _ _).trans (teq (by decide : (0 : Int32) = (0 : Int32))).2) (XS.aloadN X1085.here hx rfl (hb hby d9_93) rfl rfl k))) ?_
        show own_Goes p e below (T1085.setTop (mkF m 94 #[rv a399, iv p400, iv p401, .unset] [(.ref a399)])) _
        obtain ⟨T1087, X1087, e1087, st1087⟩ := getF X1085 hx hZ hown (host := "") (Or.inl (wd hw 31 rfl)) Via.refl hh1086 pF_a399_refusedWill (g := (mkF m 94 #[rv a399, iv p400, iv p401, .unset] [(.ref a399)])) rfl rfl (hb hby d9_94)
        refine own_via (fun t k => st1087 t (XS.iloadN X1087.here hx rfl (hb hby d9_97) rfl k)) ?_
        obtain ⟨_, T1088, _, X1088, hQ1088, st1088⟩ := own_cv X1087 hx hZ hown (wd hw 77 rfl) (wd hw 78 rfl) (wd hw 80 rfl) (wd hw 79 rfl) (wd hw 81 rfl) (wd hw 11 rfl) (by decide) (rm19 l Z a0 hw [] a402 p401 a403 p406 k407 h0 n0 O0 pC422 pC423 pF_a402_wordsInUse pF_a402_words pL_a403 pE_a402 pG_a402 pF_a402_sizeIsSticky pV_a403 pN_a402_a403 pG_a403 S_BitSet__assertionsDisabled) e1087 pE_a402 (g := (mkF m 98 #[rv a399, iv p400, iv p401, .unset] [(.int p401), (.ref a402)])) rfl (by rw [hml]; rfl) (rest := []) (W := 0) (lenOf pd_2 rfl) rfl (by show 2 * 0 + _ ≤ _; exact Nat.le_of_eq rfl) (hb hby d9_98) (by decide) (by decide) (by decide) (by decide)
        obtain ⟨h1088, e1088⟩ : ∃ z, T1088.heap = z := ⟨_, rfl⟩
        rw [e1088] at hQ1088
        obtain ⟨rfl, Nq1088, K1088, ex1089⟩ := hQ1088
        have N1088 := Fr.app N1085 Nq1088
        refine own_via (fun t k => st1088 t (XS.sipush X1088.here hx rfl (hb hby d9_101) (XS.istoreN X1088.here hx rfl (hb hby d9_104) rfl (l' := #[rv a399, iv p400, iv p401, iv (254 : Int32)]) rfl (XS.goto X1088.here hx rfl (pc0 := 105) (pc' := 145) rfl (hb hby d9_105) (by decide) (by decide) (XS.iloadN X1088.here hx rfl (hb hby d9_145) rfl (XS.iloadN X1088.here hx rfl (hb hby d9_146) rfl k)))))) ?_
        show own_Goes p e below (T1088.setTop (mkF m 147 #[rv a399, iv p400, iv p401, iv (254 : Int32)] [(.int p401), (.int (254 : Int32))])) _
        have O1091 : Old Z n0 h1088 := (O0.keep K1088 (allS pG_a402 (allS pG_a403 all0)))
        obtain ⟨_, T1090, _, X1090, hQ1090, st1090⟩ := own_cs X1088 hx hZ hown (wd hw 42 rfl) (wd hw 43 rfl) (wd hw 44 rfl) (wd hw 2 rfl) (by decide) (rm21 l Z a0 hw [] p401 h1088 n0 O1091 ) e1088 (g := (mkF m 147 #[rv a399, iv p400, iv p401, iv (254 : Int32)] [(.int p401), (.int (254 : Int32))])) rfl (by rw [hml]; rfl) (rest := []) (W := 0) (lenOf pd_4 rfl) rfl (by show 2 * 0 + _ ≤ _; exact Nat.le_of_eq rfl) (hb hby d9_147) (by decide) (by decide) (by decide) (by decide)
        obtain ⟨h1090, e1090⟩ : ∃ z, T1090.heap = z := ⟨_, rfl⟩
        rw [e1090] at hQ1090
        obtain ⟨b1092, k1093, rfl, Nq1090, K1090, bx1094, vx1095⟩ := hQ1090
        have N1090 := Fr.app N1088 Nq1090
        have g1096 : n0 ≤ b1092 := Nat.le_trans (own_old O1091) bx1094
        have Z1098 : h0.size ≤ h1088.size := (Nat.le_trans (Nat.le_refl _) K1088.1)
        have B1097 : h0.size ≤ b1092 := Nat.le_trans Z1098 bx1094
        refine own_via (fun t k => st1090 t k) ?_
        obtain ⟨fs, hr, hrun, hended, hW, hsame⟩ := X1090.leave (v := some (.ref b1092)) (fun h => by rw [Bd.returns] at h; cases h)
        refine own_end (t := T1090.setFrames fs) ?_ ⟨_, hrun, hended, _, _, rfl, ?_, ⟨_, rfl⟩, hW, hsame.mono (by decide) (by decide)⟩
        · jvm_step X1090.here [X1090.here.top, hx, (hb hby d9_150), X1090.method', Bd.returns, Value.isRef, FieldType.isReference]
          first | (intro acts; rw [hr _ acts rfl rfl rfl]) | rw [hr _ _ rfl rfl rfl]
          exact Steps.refl _
        have E1099 : Exa Z h1090 a402 zs2 := (ex1089.keep K1090)
        · show Q22 Z a399 p400 p401 w6 a404 a405 p408 k409 a402 a403 p406 k407 h0 n0 _ T1090.heap _
          rw [e1090]
          exact Or.inr <| Or.inr <| Or.inr <| Or.inr <| Or.inr <| Or.inr <| Or.inl <| ⟨b1092, k1093, hc424, hc1015, hc1083, rfl, N1090, (((Keep.refl h0 [a402, a403]).trans K1088 (allS (Or.inl (List.mem_of_getElem? (i := 0) rfl)) (allS (Or.inl (List.mem_of_getElem? (i := 1) rfl)) all0))).trans K1090 all0), E1099, B1097, vx1095⟩
      · refine own_via (fun t k => XS.icmpYes X0.here hx rfl (pc0 := 79) (pc' := 108) rfl (hb hby d9_79) rfl (feq hc1083).2 (by decide) (by decide) (XS.iloadN X0.here hx rfl (hb hby d9_108) rfl (XS.sipush X0.here hx rfl (hb hby d9_109) (XS.icmpYes X0.here hx rfl (pc0 := 112) (pc' := 141) rfl (hb hby d9_112) rfl (feq hc424).2 (by decide) (by decide) k)))) ?_
        show own_Goes p e below (s₁.setTop (mkF m 141 #[rv a399, iv p400, iv p401, .unset] [])) _
        obtain ⟨T1100, X1100, e1100, st1100⟩ := getS2 X0 hx hZ hown (host := "") (Or.inl (wd hw 55 rfl)) Via.refl e0 (S_TelnetOptions_NO_ANSWER.ext O0.2) (g := (mkF m 141 #[rv a399, iv p400, iv p401, .unset] [])) rfl (hb hby d9_141)
        refine own_via (fun t k => st1100 t k) ?_
        obtain ⟨fs, hr, hrun, hended, hW, hsame⟩ := X1100.leave (v := some (.ref w6)) (fun h => by rw [Bd.returns] at h; cases h)
        refine own_end (t := T1100.setFrames fs) ?_ ⟨_, hrun, hended, _, _, rfl, ?_, ⟨_, rfl⟩, hW, hsame.mono (by decide) (by decide)⟩
        · jvm_step X1100.here [X1100.here.top, hx, (hb hby d9_144), X1100.method', Bd.returns, Value.isRef, FieldType.isReference]
          first | (intro acts; rw [hr _ acts rfl rfl rfl]) | rw [hr _ _ rfl rfl rfl]
          exact Steps.refl _
        · show Q22 Z a399 p400 p401 w6 a404 a405 p408 k409 a402 a403 p406 k407 h0 n0 _ T1100.heap _
          rw [e1100]
          exact Or.inr <| Or.inr <| Or.inr <| Or.inr <| Or.inr <| Or.inr <| Or.inr <| ⟨hc424, hc1015, hc1083, rfl, N0, rfl⟩
theorem d10_0 : decode method_3_code 0 = .ok (.aload_n 0, 1) := by decide +kernel
theorem d10_1 : decode method_3_code 1 = .ok (.ifnull 12, 3) := by decide +kernel
theorem d10_4 : decode method_3_code 4 = .ok (.aload_n 0, 1) := by decide +kernel
theorem d10_5 : decode method_3_code 5 = .ok (.arraylength, 1) := by decide +kernel
theorem d10_6 : decode method_3_code 6 = .ok (.ifCond .ne 7, 3) := by decide +kernel
theorem d10_9 : decode method_3_code 9 = .ok (.iconst 1, 1) := by decide +kernel
theorem d10_10 : decode method_3_code 10 = .ok (.goto 4, 3) := by decide +kernel
theorem d10_14 : decode method_3_code 14 = .ok (.ireturn, 1) := by decide +kernel
theorem ef_14 (m : MethodId) (x0 : Addr) : entryFrame m #[(.ref x0)] 1 = mkF m 0 #[rv x0] [] := by first | (simp [entryFrame, mkF, argsToLocals, Value.category]; done) | rfl
def Q23 (Z : State) (w6 : Addr) (kc_w6 : ClassId) (h0 : Heap) (n0 : Nat) (v : Option Value) (h : Heap) (L : List Loc) : Prop := v = some (.int (1 : Int32)) ∧ Fr n0 L ∧ h = h0
set_option maxRecDepth 65536 in
set_option maxHeartbeats 40000000 in
theorem rm23 (l : Launch) (Z : State) (a0 : Array Value) (hw : ∀ d ∈ tables_1, d.before a0 Z = true) (ws : List Jvm.Cond) (w6 : Addr) (kc_w6 : ClassId) (h0 : Heap) (n0 : Nat) (O0 : Old Z n0 h0) (SV_w6 : Arv Z Z.heap w6 kc_w6 .byte (0 : Int32) [] (.int (0 : Int32))) :
    MetFree l (⟨zs3, "isEmpty", "([B)Z"⟩ : MethodName) (head1 (Jvm.Cond.code (⟨zs3, "isEmpty", "([B)Z"⟩ : MethodName) method_3_code 1 (some .boolean) :: ws) ({ frames := 0, cells := 0, slots := 0, locals := 0 } : Room)) (fun a U => a = #[(.ref w6)] ∧ Z.Warmed39 U.vm ∧ U.heap = h0) (fun _ _ _ _ _ => True) (fun _ U o U' => ∃ v L, o = .returned v ∧ Q23 Z w6 kc_w6 h0 n0 v U'.heap L ∧ FrameEnd U o U' L ({ frames := 0, cells := 0, slots := 0, locals := 0 } : Room).cells ({ frames := 0, cells := 0, slots := 0, locals := 0 } : Room).slots) := by
  refine MetFree.of_bodySF (plainFor_of_name pn_3) hisR ?_
  intro p e s m args below meth c s₁ Bd hml0 hP hK
  obtain ⟨rfl, hZ, hh⟩ := hP
  have hx := Bd.exec
  have hby := Bd.bytes
  have hml : c.maxLocals = 1 := hml0
  have hown : s.vm.findClass zs3 = some m.cls := findClass_of_methodNamed Bd.named
  have hnm := (name_of_methodNamed Bd.named Bd.method).1
  have X0 : Stand p l e ({ frames := 0, cells := 0, slots := 0, locals := 0 } : Room) s m #[(.ref w6)] below meth c s₁ [] 0 0 := Stand.of_body Bd
  have e0 : s₁.heap = h0 := by rw [← hh, Bd.state]; rfl
  have N0 := Fr.nil n0
  refine own_out ?_
  refine own_via (fun t k => castTop (ef_14 m w6) (XS.aloadN X0.here hx rfl (hb hby d10_0) rfl rfl (XS.ifnullNo X0.here hx rfl (hb hby d10_1) rfl (XS.aloadN X0.here hx rfl (hb hby d10_4) rfl rfl k)))) ?_
  show own_Goes p e below (s₁.setTop (mkF m 5 #[rv w6] [(.ref w6)])) _
  obtain ⟨cl1183, Ar1183, -, S1183, M1183, -, -⟩ := id ((SV_w6.ext O0.2))
  refine own_via (fun t k => X0.arraylength hx (by rw [e0]; exact Ar1183.1) (State.isArrayOf_alike hZ.alike Ar1183.2.1) (g := (mkF m 5 #[rv w6] [(.ref w6)])) rfl rfl (hb hby d10_5) t k) ?_
  rw [len_of S1183 M1183]
  show own_Goes p e below (s₁.setTop (mkF m 6 #[rv w6] [(.int (0 : Int32))])) _
  refine own_via (fun t k => XS.ifNo X0.here hx rfl (hb hby d10_6) rfl ((if0 _ _).trans (teq (by decide : (0 : Int32) = (0 : Int32))).2) (XS.iconst X0.here hx rfl (hb hby d10_9) (XS.goto X0.here hx rfl (pc0 := 10) (pc' := 14) rfl (hb hby d10_10) (by decide) (by decide) k))) ?_
  show own_Goes p e below (s₁.setTop (mkF m 14 #[rv w6] [(.int (1 : Int32))])) _
  obtain ⟨fs, hr, hrun, hended, hW, hsame⟩ := X0.leave (v := some (.int (1 : Int32))) (fun h => by rw [Bd.returns] at h; cases h)
  refine own_end (t := s₁.setFrames fs) ?_ ⟨_, hrun, hended, _, _, rfl, ?_, ⟨_, rfl⟩, hW, hsame.mono (by decide) (by decide)⟩
  · exact retN X0 hx (t := .boolean) Bd.returns (by simp) (hb hby d10_14) hr
  · show Q23 Z w6 kc_w6 h0 n0 _ s₁.heap _
    rw [e0]
    exact ⟨rfl, N0, rfl⟩
theorem pd_8 : parseMethodDescriptor "([B)Z" = some ⟨[(.array .byte)], some .boolean⟩ := by decide +kernel
def Q24 (Z : State) (a1213 : Addr) (w6 : Addr) (h0 : Heap) (n0 : Nat) (v : Option Value) (h : Heap) (L : List Loc) : Prop := v = some (.ref w6) ∧ Fr n0 L ∧ h = h0
set_option maxRecDepth 65536 in
set_option maxHeartbeats 40000000 in
theorem rm24 (l : Launch) (Z : State) (a0 : Array Value) (hw : ∀ d ∈ tables_1, d.before a0 Z = true) (ws : List Jvm.Cond) (a1213 : Addr) (w6 : Addr) (h0 : Heap) (n0 : Nat) (O0 : Old Z n0 h0) (pF_a1213_echoOffered : Fld Z h0 a1213 zs1 "echoOffered" "Z" (.int (1 : Int32))) (S_TelnetOptions_NO_ANSWER : Sta Z Z.heap zs1 "NO_ANSWER" "[B" (.ref w6)) :
    MetFree l (⟨zs1, "answer", "(II)[B"⟩ : MethodName) (head1 (Jvm.Cond.code (⟨zs1, "answer", "(II)[B"⟩ : MethodName) prog_61_method_2_code 4 (some (.array .byte)) :: ws) ({ frames := 0, cells := 0, slots := 0, locals := 0 } : Room)) (fun a U => a = #[(.ref a1213), (.int (253 : Int32)), (.int (1 : Int32))] ∧ Z.Warmed39 U.vm ∧ U.heap = h0) (fun _ _ _ _ _ => True) (fun _ U o U' => ∃ v L, o = .returned v ∧ Q24 Z a1213 w6 h0 n0 v U'.heap L ∧ FrameEnd U o U' L ({ frames := 0, cells := 0, slots := 0, locals := 0 } : Room).cells ({ frames := 0, cells := 0, slots := 0, locals := 0 } : Room).slots) := by
  refine MetFree.of_bodySF (plainFor_of_name pn_2) hisR ?_
  intro p e s m args below meth c s₁ Bd hml0 hP hK
  obtain ⟨rfl, hZ, hh⟩ := hP
  have hx := Bd.exec
  have hby := Bd.bytes
  have hml : c.maxLocals = 4 := hml0
  have hown : s.vm.findClass zs1 = some m.cls := findClass_of_methodNamed Bd.named
  have hnm := (name_of_methodNamed Bd.named Bd.method).1
  have X0 : Stand p l e ({ frames := 0, cells := 0, slots := 0, locals := 0 } : Room) s m #[(.ref a1213), (.int (253 : Int32)), (.int (1 : Int32))] below meth c s₁ [] 0 0 := Stand.of_body Bd
  have e0 : s₁.heap = h0 := by rw [← hh, Bd.state]; rfl
  have N0 := Fr.nil n0
  refine own_out ?_
  refine own_via (fun t k => castTop (ef_13 m a1213 (253 : Int32) (1 : Int32)) (XS.iloadN X0.here hx rfl (hb hby d9_0) rfl (XS.sipush X0.here hx rfl (hb hby d9_1) (XS.icmpNo X0.here hx rfl (hb hby d9_4) rfl (teq (by decide : (253 : Int32) = (253 : Int32))).2 (XS.iloadN X0.here hx rfl (hb hby d9_7) rfl (XS.iconst X0.here hx rfl (hb hby d9_8) (XS.icmpNo X0.here hx rfl (hb hby d9_9) rfl (teq (by decide : (1 : Int32) = (1 : Int32))).2 (XS.aloadN X0.here hx rfl (hb hby d9_12) rfl rfl k)))))))) ?_
  show own_Goes p e below (s₁.setTop (mkF m 13 #[rv a1213, iv (253 : Int32), iv (1 : Int32), .unset] [(.ref a1213)])) _
  obtain ⟨T1244, X1244, e1244, st1244⟩ := getF X0 hx hZ hown (host := "") (Or.inl (wd hw 40 rfl)) Via.refl e0 pF_a1213_echoOffered (g := (mkF m 13 #[rv a1213, iv (253 : Int32), iv (1 : Int32), .unset] [(.ref a1213)])) rfl rfl (hb hby d9_13)
  refine own_via (fun t k => st1244 t (XS.ifNo X1244.here hx rfl (hb hby d9_16) rfl ((if0 _ _).trans (feq (by decide : ¬ ((1 : Int32) = (0 : Int32)))).1) k)) ?_
  obtain ⟨T1245, X1245, e1245, st1245⟩ := getS2 X1244 hx hZ hown (host := "") (Or.inl (wd hw 55 rfl)) Via.refl e1244 (S_TelnetOptions_NO_ANSWER.ext O0.2) (g := (mkF m 19 #[rv a1213, iv (253 : Int32), iv (1 : Int32), .unset] [])) rfl (hb hby d9_19)
  refine own_via (fun t k => st1245 t k) ?_
  obtain ⟨fs, hr, hrun, hended, hW, hsame⟩ := X1245.leave (v := some (.ref w6)) (fun h => by rw [Bd.returns] at h; cases h)
  refine own_end (t := T1245.setFrames fs) ?_ ⟨_, hrun, hended, _, _, rfl, ?_, ⟨_, rfl⟩, hW, hsame.mono (by decide) (by decide)⟩
  · jvm_step X1245.here [X1245.here.top, hx, (hb hby d9_22), X1245.method', Bd.returns, Value.isRef, FieldType.isReference]
    first | (intro acts; rw [hr _ acts rfl rfl rfl]) | rw [hr _ _ rfl rfl rfl]
    exact Steps.refl _
  · show Q24 Z a1213 w6 h0 n0 _ T1245.heap _
    rw [e1245]
    exact ⟨rfl, N0, rfl⟩
set_option maxRecDepth 65536 in
set_option maxHeartbeats 40000000 in
theorem sfx1 (l : Launch) (Z : State) (a0 : Array Value) (hw : ∀ d ∈ tables_1, d.before a0 Z = true) (ws : List Jvm.Cond) {p : Program} {e : Env} {s : State} {m : MethodId} {below : List Frame} {meth : Method} {c : Code} {s₁ : State} (p1192 : Int32) (p1193 : Int32) (p1194 : Int32) (p1185 : Int32) (p1186 : Int32) (p1187 : Int32) (a1188 : Addr) (a1189 : Addr) (p1190 : Int32) (p1191 : Int32) (w6 : Addr) (kc_w6 : ClassId) (Bd : BodyLoose p l x (head1 (Jvm.Cond.code x code maxLocals ret :: ws) room_1) code maxLocals ret e s m #[(.int p1192), (.int p1193), (.int p1194)] below meth c s₁) (hZ : Z.Warmed39 s.vm) (hml : c.maxLocals = 11) {T0 : State} {locs0 : List Loc} (X0 : Stand p l e room_1 s m #[(.int p1192), (.int p1193), (.int p1194)] below meth c T0 locs0 20 70) (h0 : Heap) (e0 : T0.heap = h0) (n0 : Nat) (O0 : Old Z n0 h0) (N0 : Fr n0 locs0) (pF_a1188_echoOffered : Fld Z h0 a1188 zs1 "echoOffered" "Z" (.int (1 : Int32))) (S_TelnetOptions_NO_ANSWER : Sta Z Z.heap zs1 "NO_ANSWER" "[B" (.ref w6)) (pE_a1188 : Exa Z h0 a1188 zs1) (SV_w6 : Arv Z Z.heap w6 kc_w6 .byte (0 : Int32) [] (.int (0 : Int32))) :
    own_Goes p e below (T0.setTop (mkF m 174 #[iv p1185, iv p1186, iv p1187, rv a1188, rv a1189, iv (1 : Int32), iv p1190, iv p1191, rv w6, iv (1 : Int32), .unset] [])) (own_G s below n0) := by
  have hx := Bd.exec
  have hby := Bd.bytes
  have hown : s.vm.findClass zs3 = some m.cls := findClass_of_methodNamed Bd.named
  have hnm := (name_of_methodNamed Bd.named Bd.method).1
  show own_Goes p e below (T0.setTop (mkF m 174 #[iv p1185, iv p1186, iv p1187, rv a1188, rv a1189, iv (1 : Int32), iv p1190, iv p1191, rv w6, iv (1 : Int32), .unset] [])) _
  refine own_via (fun t k => XS.aloadN X0.here hx rfl (hb hby at_174) rfl rfl (XS.sipush X0.here hx rfl (hb hby at_175) (XS.iconst X0.here hx rfl (hb hby at_178) k))) ?_
  show own_Goes p e below (T0.setTop (mkF m 179 #[iv p1185, iv p1186, iv p1187, rv a1188, rv a1189, iv (1 : Int32), iv p1190, iv p1191, rv w6, iv (1 : Int32), .unset] [(.int (1 : Int32)), (.int (253 : Int32)), (.ref a1188)])) _
  obtain ⟨_, T1212, _, X1212, hQ1212, st1212⟩ := own_cv X0 hx hZ hown (wd hw 50 rfl) (wd hw 51 rfl) (wd hw 53 rfl) (wd hw 52 rfl) (wd hw 54 rfl) (wd hw 2 rfl) (by decide) (rm24 l Z a0 hw [] a1188 w6 h0 n0 O0 pF_a1188_echoOffered S_TelnetOptions_NO_ANSWER) e0 pE_a1188 (g := (mkF m 179 #[iv p1185, iv p1186, iv p1187, rv a1188, rv a1189, iv (1 : Int32), iv p1190, iv p1191, rv w6, iv (1 : Int32), .unset] [(.int (1 : Int32)), (.int (253 : Int32)), (.ref a1188)])) rfl (by rw [hml]; rfl) (rest := []) (W := 0) (lenOf pd_4 rfl) rfl (by show 2 * 0 + _ ≤ _; exact Nat.le_of_eq rfl) (hb hby at_179) (by decide) (by decide) (by decide) (by decide)
  obtain ⟨rfl, Nq1212, hh1246⟩ := hQ1212
  have N1212 := Fr.app N0 Nq1212
  refine own_via (fun t k => st1212 t (XS.astore X1212.here hx rfl (hb hby at_182) rfl rfl (l' := #[iv p1185, iv p1186, iv p1187, rv a1188, rv a1189, iv (1 : Int32), iv p1190, iv p1191, rv w6, iv (1 : Int32), rv w6]) rfl (XS.iload X1212.here hx rfl (hb hby at_184) rfl (XS.ifNo X1212.here hx rfl (hb hby at_186) rfl ((if0 _ _).trans (feq (by decide : ¬ ((1 : Int32) = (0 : Int32)))).1) (XS.iload X1212.here hx rfl (hb hby at_189) rfl (XS.ifNo X1212.here hx rfl (hb hby at_191) rfl ((if0 _ _).trans (feq (by decide : ¬ ((1 : Int32) = (0 : Int32)))).1) (XS.aload X1212.here hx rfl (hb hby at_194) rfl rfl k))))))) ?_
  show own_Goes p e below (T1212.setTop (mkF m 196 #[iv p1185, iv p1186, iv p1187, rv a1188, rv a1189, iv (1 : Int32), iv p1190, iv p1191, rv w6, iv (1 : Int32), rv w6] [(.ref w6)])) _
  obtain ⟨_, T1247, _, X1247, hQ1247, st1247⟩ := own_cs X1212 hx hZ hown (wd hw 57 rfl) (wd hw 58 rfl) (wd hw 59 rfl) (wd hw 48 rfl) (by decide) (rm23 l Z a0 hw [] w6 kc_w6 h0 n0 O0 SV_w6) hh1246 (g := (mkF m 196 #[iv p1185, iv p1186, iv p1187, rv a1188, rv a1189, iv (1 : Int32), iv p1190, iv p1191, rv w6, iv (1 : Int32), rv w6] [(.ref w6)])) rfl (by rw [hml]; rfl) (rest := []) (W := 0) (lenOf pd_8 rfl) rfl (by show 2 * 0 + _ ≤ _; exact Nat.le_of_eq rfl) (hb hby at_196) (by decide) (by decide) (by decide) (by decide)
  obtain ⟨rfl, Nq1247, hh1248⟩ := hQ1247
  have N1247 := Fr.app N1212 Nq1247
  refine own_via (fun t k => st1247 t (XS.ifNo X1247.here hx rfl (hb hby at_199) rfl ((if0 _ _).trans (feq (by decide : ¬ ((1 : Int32) = (0 : Int32)))).1) (XS.iconst X1247.here hx rfl (hb hby at_202) (XS.goto X1247.here hx rfl (pc0 := 203) (pc' := 207) rfl (hb hby at_203) (by decide) (by decide) k)))) ?_
  show own_Goes p e below (T1247.setTop (mkF m 207 #[iv p1185, iv p1186, iv p1187, rv a1188, rv a1189, iv (1 : Int32), iv p1190, iv p1191, rv w6, iv (1 : Int32), rv w6] [(.int (1 : Int32))])) _
  obtain ⟨fs, hr, hrun, hended, hW, hsame⟩ := X1247.leave (v := some (.int (1 : Int32))) (fun h => by rw [Bd.returns] at h; cases h)
  refine own_end (t := T1247.setFrames fs) ?_ ⟨_, hrun, hended, _, _, rfl, ?_, ⟨_, rfl⟩, hW, hsame.mono (by decide) (by decide)⟩
  · exact retN X1247 hx (t := .boolean) Bd.returns (by simp) (hb hby at_207) hr
  · exact ⟨rfl, N1247⟩
def Q25 (Z : State) (a1252 : Addr) (p1253 : Int32) (k1270 : ClassId) (h0 : Heap) (n0 : Nat) (v : Option Value) (h : Heap) (L : List Loc) : Prop := v = some (.int (1 : Int32)) ∧ Fr n0 L ∧ h = h0
set_option maxRecDepth 65536 in
set_option maxHeartbeats 40000000 in
theorem rm25 (l : Launch) (Z : State) (a0 : Array Value) (hw : ∀ d ∈ tables_1, d.before a0 Z = true) (ws : List Jvm.Cond) (a1252 : Addr) (p1253 : Int32) (k1270 : ClassId) (h0 : Heap) (n0 : Nat) (O0 : Old Z n0 h0) (pL_a1252 : own_Len Z h0 a1252 .byte (3 : Int32)) (pV_a1252 : Arv Z h0 a1252 k1270 .byte (3 : Int32) [(.int (-1 : Int32)), (.int (-4 : Int32)), (.int (p1253.toInt8.toInt32))] (.int (0 : Int32))) :
    MetFree l (⟨zs3, "isCmd", "([BII)Z"⟩ : MethodName) (head1 (Jvm.Cond.code (⟨zs3, "isCmd", "([BII)Z"⟩ : MethodName) method_2_code 3 (some .boolean) :: ws) ({ frames := 0, cells := 0, slots := 0, locals := 0 } : Room)) (fun a U => a = #[(.ref a1252), (.int (252 : Int32)), (.int p1253)] ∧ Z.Warmed39 U.vm ∧ U.heap = h0) (fun _ _ _ _ _ => True) (fun _ U o U' => ∃ v L, o = .returned v ∧ Q25 Z a1252 p1253 k1270 h0 n0 v U'.heap L ∧ FrameEnd U o U' L ({ frames := 0, cells := 0, slots := 0, locals := 0 } : Room).cells ({ frames := 0, cells := 0, slots := 0, locals := 0 } : Room).slots) := by
  refine MetFree.of_bodySF (plainFor_of_name pn_3) hisR ?_
  intro p e s m args below meth c s₁ Bd hml0 hP hK
  obtain ⟨rfl, hZ, hh⟩ := hP
  have hx := Bd.exec
  have hby := Bd.bytes
  have hml : c.maxLocals = 3 := hml0
  have hown : s.vm.findClass zs3 = some m.cls := findClass_of_methodNamed Bd.named
  have hnm := (name_of_methodNamed Bd.named Bd.method).1
  have X0 : Stand p l e ({ frames := 0, cells := 0, slots := 0, locals := 0 } : Room) s m #[(.ref a1252), (.int (252 : Int32)), (.int p1253)] below meth c s₁ [] 0 0 := Stand.of_body Bd
  have e0 : s₁.heap = h0 := by rw [← hh, Bd.state]; rfl
  have N0 := Fr.nil n0
  refine own_out ?_
  refine own_via (fun t k => castTop (ef_7 m a1252 (252 : Int32) p1253) (XS.aloadN X0.here hx rfl (hb hby d8_0) rfl rfl (XS.ifnullNo X0.here hx rfl (hb hby d8_1) rfl (XS.aloadN X0.here hx rfl (hb hby d8_4) rfl rfl k)))) ?_
  show own_Goes p e below (s₁.setTop (mkF m 5 #[rv a1252, iv (252 : Int32), iv p1253] [(.ref a1252)])) _
  obtain ⟨_, _, _, V1284⟩ := id (pL_a1252)
  obtain ⟨cl1284, Ar1284, -, S1284, M1284, -, -⟩ := id (V1284)
  refine own_via (fun t k => X0.arraylength hx (by rw [e0]; exact Ar1284.1) (State.isArrayOf_alike hZ.alike Ar1284.2.1) (g := (mkF m 5 #[rv a1252, iv (252 : Int32), iv p1253] [(.ref a1252)])) rfl rfl (hb hby d8_5) t k) ?_
  rw [len_of S1284 M1284]
  show own_Goes p e below (s₁.setTop (mkF m 6 #[rv a1252, iv (252 : Int32), iv p1253] [(.int (3 : Int32))])) _
  refine own_via (fun t k => XS.iconst X0.here hx rfl (hb hby d8_6) (XS.icmpNo X0.here hx rfl (hb hby d8_7) rfl (teq (by decide : (3 : Int32) = (3 : Int32))).2 (XS.aloadN X0.here hx rfl (hb hby d8_10) rfl rfl (XS.iconst X0.here hx rfl (hb hby d8_11) k)))) ?_
  show own_Goes p e below (s₁.setTop (mkF m 12 #[rv a1252, iv (252 : Int32), iv p1253] [(.int (0 : Int32)), (.ref a1252)])) _
  obtain ⟨cl1285, Ar1285, qq1285, S1285, M1285, H1285, G1285⟩ := id (pV_a1252)
  have hin1285 : ¬ ((0 : Int32) < 0 ∨ cl1285.slots.size ≤ ((0 : Int32)).toNatClampNeg) := inb_of S1285 ⟨by decide, by decide⟩
  refine own_via (fun t k => X0.baloadBytes hx (j := (0 : Int32)) (v := (.int (-1 : Int32))) (by rw [e0]; exact Ar1285.1) (State.isArrayOf_alike hZ.alike Ar1285.2.1) Ar1285.2.2 hin1285 (Has.at H1285 hin1285 rfl) (g := (mkF m 12 #[rv a1252, iv (252 : Int32), iv p1253] [(.int (0 : Int32)), (.ref a1252)])) rfl rfl (hb hby d8_12) t (XS.iconst X0.here hx rfl (hb hby d8_13) (XS.icmpNo X0.here hx rfl (hb hby d8_14) rfl (teq (by decide : (-1 : Int32) = (-1 : Int32))).2 (XS.aloadN X0.here hx rfl (hb hby d8_17) rfl rfl (XS.iconst X0.here hx rfl (hb hby d8_18) k))))) ?_
  show own_Goes p e below (s₁.setTop (mkF m 19 #[rv a1252, iv (252 : Int32), iv p1253] [(.int (1 : Int32)), (.ref a1252)])) _
  obtain ⟨cl1286, Ar1286, qq1286, S1286, M1286, H1286, G1286⟩ := id (pV_a1252)
  have hin1286 : ¬ ((1 : Int32) < 0 ∨ cl1286.slots.size ≤ ((1 : Int32)).toNatClampNeg) := inb_of S1286 ⟨by decide, by decide⟩
  refine own_via (fun t k => X0.baloadBytes hx (j := (1 : Int32)) (v := (.int (-4 : Int32))) (by rw [e0]; exact Ar1286.1) (State.isArrayOf_alike hZ.alike Ar1286.2.1) Ar1286.2.2 hin1286 (Has.at H1286 hin1286 rfl) (g := (mkF m 19 #[rv a1252, iv (252 : Int32), iv p1253] [(.int (1 : Int32)), (.ref a1252)])) rfl rfl (hb hby d8_19) t (XS.iloadN X0.here hx rfl (hb hby d8_20) rfl (XS.i2b X0.here hx rfl (hb hby d8_21) rfl (XS.icmpNo X0.here hx rfl (hb hby d8_22) rfl (teq (by decide : (-4 : Int32) = (-4 : Int32))).2 (XS.aloadN X0.here hx rfl (hb hby d8_25) rfl rfl (XS.iconst X0.here hx rfl (hb hby d8_26) k)))))) ?_
  show own_Goes p e below (s₁.setTop (mkF m 27 #[rv a1252, iv (252 : Int32), iv p1253] [(.int (2 : Int32)), (.ref a1252)])) _
  obtain ⟨cl1287, Ar1287, qq1287, S1287, M1287, H1287, G1287⟩ := id (pV_a1252)
  have hin1287 : ¬ ((2 : Int32) < 0 ∨ cl1287.slots.size ≤ ((2 : Int32)).toNatClampNeg) := inb_of S1287 ⟨by decide, by decide⟩
  refine own_via (fun t k => X0.baloadBytes hx (j := (2 : Int32)) (v := (.int (p1253.toInt8.toInt32))) (by rw [e0]; exact Ar1287.1) (State.isArrayOf_alike hZ.alike Ar1287.2.1) Ar1287.2.2 hin1287 (Has.at H1287 hin1287 rfl) (g := (mkF m 27 #[rv a1252, iv (252 : Int32), iv p1253] [(.int (2 : Int32)), (.ref a1252)])) rfl rfl (hb hby d8_27) t (XS.iloadN X0.here hx rfl (hb hby d8_28) rfl (XS.i2b X0.here hx rfl (hb hby d8_29) rfl (XS.icmpNo X0.here hx rfl (hb hby d8_30) rfl (teq (rfl : (p1253.toInt8.toInt32) = (p1253.toInt8.toInt32))).2 (XS.iconst X0.here hx rfl (hb hby d8_33) (XS.goto X0.here hx rfl (pc0 := 34) (pc' := 38) rfl (hb hby d8_34) (by decide) (by decide) k)))))) ?_
  show own_Goes p e below (s₁.setTop (mkF m 38 #[rv a1252, iv (252 : Int32), iv p1253] [(.int (1 : Int32))])) _
  obtain ⟨fs, hr, hrun, hended, hW, hsame⟩ := X0.leave (v := some (.int (1 : Int32))) (fun h => by rw [Bd.returns] at h; cases h)
  refine own_end (t := s₁.setFrames fs) ?_ ⟨_, hrun, hended, _, _, rfl, ?_, ⟨_, rfl⟩, hW, hsame.mono (by decide) (by decide)⟩
  · exact retN X0 hx (t := .boolean) Bd.returns (by simp) (hb hby d8_38) hr
  · show Q25 Z a1252 p1253 k1270 h0 n0 _ s₁.heap _
    rw [e0]
    exact ⟨rfl, N0, rfl⟩
set_option maxRecDepth 65536 in
set_option maxHeartbeats 40000000 in
theorem sfx2 (l : Launch) (Z : State) (a0 : Array Value) (hw : ∀ d ∈ tables_1, d.before a0 Z = true) (ws : List Jvm.Cond) {p : Program} {e : Env} {s : State} {m : MethodId} {below : List Frame} {meth : Method} {c : Code} {s₁ : State} (p1299 : Int32) (p1300 : Int32) (p1301 : Int32) (p1291 : Int32) (p1292 : Int32) (p1293 : Int32) (a1294 : Addr) (a1295 : Addr) (p1296 : Int32) (p1297 : Int32) (a1298 : Addr) (w6 : Addr) (kc_w6 : ClassId) (Bd : BodyLoose p l x (head1 (Jvm.Cond.code x code maxLocals ret :: ws) room_1) code maxLocals ret e s m #[(.int p1299), (.int p1300), (.int p1301)] below meth c s₁) (hZ : Z.Warmed39 s.vm) (hml : c.maxLocals = 11) {T0 : State} {locs0 : List Loc} (X0 : Stand p l e room_1 s m #[(.int p1299), (.int p1300), (.int p1301)] below meth c T0 locs0 20 70) (h0 : Heap) (e0 : T0.heap = h0) (n0 : Nat) (O0 : Old Z n0 h0) (N0 : Fr n0 locs0) (pF_a1294_echoOffered : Fld Z h0 a1294 zs1 "echoOffered" "Z" (.int (1 : Int32))) (S_TelnetOptions_NO_ANSWER : Sta Z Z.heap zs1 "NO_ANSWER" "[B" (.ref w6)) (pE_a1294 : Exa Z h0 a1294 zs1) (SV_w6 : Arv Z Z.heap w6 kc_w6 .byte (0 : Int32) [] (.int (0 : Int32))) :
    own_Goes p e below (T0.setTop (mkF m 174 #[iv p1291, iv p1292, iv p1293, rv a1294, rv a1295, iv (1 : Int32), iv p1296, iv p1297, rv a1298, iv (1 : Int32), .unset] [])) (own_G s below n0) := by
  have hx := Bd.exec
  have hby := Bd.bytes
  have hown : s.vm.findClass zs3 = some m.cls := findClass_of_methodNamed Bd.named
  have hnm := (name_of_methodNamed Bd.named Bd.method).1
  show own_Goes p e below (T0.setTop (mkF m 174 #[iv p1291, iv p1292, iv p1293, rv a1294, rv a1295, iv (1 : Int32), iv p1296, iv p1297, rv a1298, iv (1 : Int32), .unset] [])) _
  refine own_via (fun t k => XS.aloadN X0.here hx rfl (hb hby at_174) rfl rfl (XS.sipush X0.here hx rfl (hb hby at_175) (XS.iconst X0.here hx rfl (hb hby at_178) k))) ?_
  show own_Goes p e below (T0.setTop (mkF m 179 #[iv p1291, iv p1292, iv p1293, rv a1294, rv a1295, iv (1 : Int32), iv p1296, iv p1297, rv a1298, iv (1 : Int32), .unset] [(.int (1 : Int32)), (.int (253 : Int32)), (.ref a1294)])) _
  obtain ⟨_, T1320, _, X1320, hQ1320, st1320⟩ := own_cv X0 hx hZ hown (wd hw 50 rfl) (wd hw 51 rfl) (wd hw 53 rfl) (wd hw 52 rfl) (wd hw 54 rfl) (wd hw 2 rfl) (by decide) (rm24 l Z a0 hw [] a1294 w6 h0 n0 O0 pF_a1294_echoOffered S_TelnetOptions_NO_ANSWER) e0 pE_a1294 (g := (mkF m 179 #[iv p1291, iv p1292, iv p1293, rv a1294, rv a1295, iv (1 : Int32), iv p1296, iv p1297, rv a1298, iv (1 : Int32), .unset] [(.int (1 : Int32)), (.int (253 : Int32)), (.ref a1294)])) rfl (by rw [hml]; rfl) (rest := []) (W := 0) (lenOf pd_4 rfl) rfl (by show 2 * 0 + _ ≤ _; exact Nat.le_of_eq rfl) (hb hby at_179) (by decide) (by decide) (by decide) (by decide)
  obtain ⟨rfl, Nq1320, hh1321⟩ := hQ1320
  have N1320 := Fr.app N0 Nq1320
  refine own_via (fun t k => st1320 t (XS.astore X1320.here hx rfl (hb hby at_182) rfl rfl (l' := #[iv p1291, iv p1292, iv p1293, rv a1294, rv a1295, iv (1 : Int32), iv p1296, iv p1297, rv a1298, iv (1 : Int32), rv w6]) rfl (XS.iload X1320.here hx rfl (hb hby at_184) rfl (XS.ifNo X1320.here hx rfl (hb hby at_186) rfl ((if0 _ _).trans (feq (by decide : ¬ ((1 : Int32) = (0 : Int32)))).1) (XS.iload X1320.here hx rfl (hb hby at_189) rfl (XS.ifNo X1320.here hx rfl (hb hby at_191) rfl ((if0 _ _).trans (feq (by decide : ¬ ((1 : Int32) = (0 : Int32)))).1) (XS.aload X1320.here hx rfl (hb hby at_194) rfl rfl k))))))) ?_
  show own_Goes p e below (T1320.setTop (mkF m 196 #[iv p1291, iv p1292, iv p1293, rv a1294, rv a1295, iv (1 : Int32), iv p1296, iv p1297, rv a1298, iv (1 : Int32), rv w6] [(.ref w6)])) _
  obtain ⟨_, T1322, _, X1322, hQ1322, st1322⟩ := own_cs X1320 hx hZ hown (wd hw 57 rfl) (wd hw 58 rfl) (wd hw 59 rfl) (wd hw 48 rfl) (by decide) (rm23 l Z a0 hw [] w6 kc_w6 h0 n0 O0 SV_w6) hh1321 (g := (mkF m 196 #[iv p1291, iv p1292, iv p1293, rv a1294, rv a1295, iv (1 : Int32), iv p1296, iv p1297, rv a1298, iv (1 : Int32), rv w6] [(.ref w6)])) rfl (by rw [hml]; rfl) (rest := []) (W := 0) (lenOf pd_8 rfl) rfl (by show 2 * 0 + _ ≤ _; exact Nat.le_of_eq rfl) (hb hby at_196) (by decide) (by decide) (by decide) (by decide)
  obtain ⟨rfl, Nq1322, hh1323⟩ := hQ1322
  have N1322 := Fr.app N1320 Nq1322
  refine own_via (fun t k => st1322 t (XS.ifNo X1322.here hx rfl (hb hby at_199) rfl ((if0 _ _).trans (feq (by decide : ¬ ((1 : Int32) = (0 : Int32)))).1) (XS.iconst X1322.here hx rfl (hb hby at_202) (XS.goto X1322.here hx rfl (pc0 := 203) (pc' := 207) rfl (hb hby at_203) (by decide) (by decide) k)))) ?_
  show own_Goes p e below (T1322.setTop (mkF m 207 #[iv p1291, iv p1292, iv p1293, rv a1294, rv a1295, iv (1 : Int32), iv p1296, iv p1297, rv a1298, iv (1 : Int32), rv w6] [(.int (1 : Int32))])) _
  obtain ⟨fs, hr, hrun, hended, hW, hsame⟩ := X1322.leave (v := some (.int (1 : Int32))) (fun h => by rw [Bd.returns] at h; cases h)
  refine own_end (t := T1322.setFrames fs) ?_ ⟨_, hrun, hended, _, _, rfl, ?_, ⟨_, rfl⟩, hW, hsame.mono (by decide) (by decide)⟩
  · exact retN X1322 hx (t := .boolean) Bd.returns (by simp) (hb hby at_207) hr
  · exact ⟨rfl, N1322⟩
def Q26 (Z : State) (a1339 : Addr) (p1340 : Int32) (k1357 : ClassId) (h0 : Heap) (n0 : Nat) (v : Option Value) (h : Heap) (L : List Loc) : Prop := v = some (.int (1 : Int32)) ∧ Fr n0 L ∧ h = h0
set_option maxRecDepth 65536 in
set_option maxHeartbeats 40000000 in
theorem rm26 (l : Launch) (Z : State) (a0 : Array Value) (hw : ∀ d ∈ tables_1, d.before a0 Z = true) (ws : List Jvm.Cond) (a1339 : Addr) (p1340 : Int32) (k1357 : ClassId) (h0 : Heap) (n0 : Nat) (O0 : Old Z n0 h0) (pL_a1339 : own_Len Z h0 a1339 .byte (3 : Int32)) (pV_a1339 : Arv Z h0 a1339 k1357 .byte (3 : Int32) [(.int (-1 : Int32)), (.int (-2 : Int32)), (.int (p1340.toInt8.toInt32))] (.int (0 : Int32))) :
    MetFree l (⟨zs3, "isCmd", "([BII)Z"⟩ : MethodName) (head1 (Jvm.Cond.code (⟨zs3, "isCmd", "([BII)Z"⟩ : MethodName) method_2_code 3 (some .boolean) :: ws) ({ frames := 0, cells := 0, slots := 0, locals := 0 } : Room)) (fun a U => a = #[(.ref a1339), (.int (254 : Int32)), (.int p1340)] ∧ Z.Warmed39 U.vm ∧ U.heap = h0) (fun _ _ _ _ _ => True) (fun _ U o U' => ∃ v L, o = .returned v ∧ Q26 Z a1339 p1340 k1357 h0 n0 v U'.heap L ∧ FrameEnd U o U' L ({ frames := 0, cells := 0, slots := 0, locals := 0 } : Room).cells ({ frames := 0, cells := 0, slots := 0, locals := 0 } : Room).slots) := by
  refine MetFree.of_bodySF (plainFor_of_name pn_3) hisR ?_
  intro p e s m args below meth c s₁ Bd hml0 hP hK
  obtain ⟨rfl, hZ, hh⟩ := hP
  have hx := Bd.exec
  have hby := Bd.bytes
  have hml : c.maxLocals = 3 := hml0
  have hown : s.vm.findClass zs3 = some m.cls := findClass_of_methodNamed Bd.named
  have hnm := (name_of_methodNamed Bd.named Bd.method).1
  have X0 : Stand p l e ({ frames := 0, cells := 0, slots := 0, locals := 0 } : Room) s m #[(.ref a1339), (.int (254 : Int32)), (.int p1340)] below meth c s₁ [] 0 0 := Stand.of_body Bd
  have e0 : s₁.heap = h0 := by rw [← hh, Bd.state]; rfl
  have N0 := Fr.nil n0
  refine own_out ?_
  refine own_via (fun t k => castTop (ef_7 m a1339 (254 : Int32) p1340) (XS.aloadN X0.here hx rfl (hb hby d8_0) rfl rfl (XS.ifnullNo X0.here hx rfl (hb hby d8_1) rfl (XS.aloadN X0.here hx rfl (hb hby d8_4) rfl rfl k)))) ?_
  show own_Goes p e below (s₁.setTop (mkF m 5 #[rv a1339, iv (254 : Int32), iv p1340] [(.ref a1339)])) _
  obtain ⟨_, _, _, V1372⟩ := id (pL_a1339)
  obtain ⟨cl1372, Ar1372, -, S1372, M1372, -, -⟩ := id (V1372)
  refine own_via (fun t k => X0.arraylength hx (by rw [e0]; exact Ar1372.1) (State.isArrayOf_alike hZ.alike Ar1372.2.1) (g := (mkF m 5 #[rv a1339, iv (254 : Int32), iv p1340] [(.ref a1339)])) rfl rfl (hb hby d8_5) t k) ?_
  rw [len_of S1372 M1372]
  show own_Goes p e below (s₁.setTop (mkF m 6 #[rv a1339, iv (254 : Int32), iv p1340] [(.int (3 : Int32))])) _
  refine own_via (fun t k => XS.iconst X0.here hx rfl (hb hby d8_6) (XS.icmpNo X0.here hx rfl (hb hby d8_7) rfl (teq (by decide : (3 : Int32) = (3 : Int32))).2 (XS.aloadN X0.here hx rfl (hb hby d8_10) rfl rfl (XS.iconst X0.here hx rfl (hb hby d8_11) k)))) ?_
  show own_Goes p e below (s₁.setTop (mkF m 12 #[rv a1339, iv (254 : Int32), iv p1340] [(.int (0 : Int32)), (.ref a1339)])) _
  obtain ⟨cl1373, Ar1373, qq1373, S1373, M1373, H1373, G1373⟩ := id (pV_a1339)
  have hin1373 : ¬ ((0 : Int32) < 0 ∨ cl1373.slots.size ≤ ((0 : Int32)).toNatClampNeg) := inb_of S1373 ⟨by decide, by decide⟩
  refine own_via (fun t k => X0.baloadBytes hx (j := (0 : Int32)) (v := (.int (-1 : Int32))) (by rw [e0]; exact Ar1373.1) (State.isArrayOf_alike hZ.alike Ar1373.2.1) Ar1373.2.2 hin1373 (Has.at H1373 hin1373 rfl) (g := (mkF m 12 #[rv a1339, iv (254 : Int32), iv p1340] [(.int (0 : Int32)), (.ref a1339)])) rfl rfl (hb hby d8_12) t (XS.iconst X0.here hx rfl (hb hby d8_13) (XS.icmpNo X0.here hx rfl (hb hby d8_14) rfl (teq (by decide : (-1 : Int32) = (-1 : Int32))).2 (XS.aloadN X0.here hx rfl (hb hby d8_17) rfl rfl (XS.iconst X0.here hx rfl (hb hby d8_18) k))))) ?_
  show own_Goes p e below (s₁.setTop (mkF m 19 #[rv a1339, iv (254 : Int32), iv p1340] [(.int (1 : Int32)), (.ref a1339)])) _
  obtain ⟨cl1374, Ar1374, qq1374, S1374, M1374, H1374, G1374⟩ := id (pV_a1339)
  have hin1374 : ¬ ((1 : Int32) < 0 ∨ cl1374.slots.size ≤ ((1 : Int32)).toNatClampNeg) := inb_of S1374 ⟨by decide, by decide⟩
  refine own_via (fun t k => X0.baloadBytes hx (j := (1 : Int32)) (v := (.int (-2 : Int32))) (by rw [e0]; exact Ar1374.1) (State.isArrayOf_alike hZ.alike Ar1374.2.1) Ar1374.2.2 hin1374 (Has.at H1374 hin1374 rfl) (g := (mkF m 19 #[rv a1339, iv (254 : Int32), iv p1340] [(.int (1 : Int32)), (.ref a1339)])) rfl rfl (hb hby d8_19) t (XS.iloadN X0.here hx rfl (hb hby d8_20) rfl (XS.i2b X0.here hx rfl (hb hby d8_21) rfl (XS.icmpNo X0.here hx rfl (hb hby d8_22) rfl (teq (by decide : (-2 : Int32) = (-2 : Int32))).2 (XS.aloadN X0.here hx rfl (hb hby d8_25) rfl rfl (XS.iconst X0.here hx rfl (hb hby d8_26) k)))))) ?_
  show own_Goes p e below (s₁.setTop (mkF m 27 #[rv a1339, iv (254 : Int32), iv p1340] [(.int (2 : Int32)), (.ref a1339)])) _
  obtain ⟨cl1375, Ar1375, qq1375, S1375, M1375, H1375, G1375⟩ := id (pV_a1339)
  have hin1375 : ¬ ((2 : Int32) < 0 ∨ cl1375.slots.size ≤ ((2 : Int32)).toNatClampNeg) := inb_of S1375 ⟨by decide, by decide⟩
  refine own_via (fun t k => X0.baloadBytes hx (j := (2 : Int32)) (v := (.int (p1340.toInt8.toInt32))) (by rw [e0]; exact Ar1375.1) (State.isArrayOf_alike hZ.alike Ar1375.2.1) Ar1375.2.2 hin1375 (Has.at H1375 hin1375 rfl) (g := (mkF m 27 #[rv a1339, iv (254 : Int32), iv p1340] [(.int (2 : Int32)), (.ref a1339)])) rfl rfl (hb hby d8_27) t (XS.iloadN X0.here hx rfl (hb hby d8_28) rfl (XS.i2b X0.here hx rfl (hb hby d8_29) rfl (XS.icmpNo X0.here hx rfl (hb hby d8_30) rfl (teq (rfl : (p1340.toInt8.toInt32) = (p1340.toInt8.toInt32))).2 (XS.iconst X0.here hx rfl (hb hby d8_33) (XS.goto X0.here hx rfl (pc0 := 34) (pc' := 38) rfl (hb hby d8_34) (by decide) (by decide) k)))))) ?_
  show own_Goes p e below (s₁.setTop (mkF m 38 #[rv a1339, iv (254 : Int32), iv p1340] [(.int (1 : Int32))])) _
  obtain ⟨fs, hr, hrun, hended, hW, hsame⟩ := X0.leave (v := some (.int (1 : Int32))) (fun h => by rw [Bd.returns] at h; cases h)
  refine own_end (t := s₁.setFrames fs) ?_ ⟨_, hrun, hended, _, _, rfl, ?_, ⟨_, rfl⟩, hW, hsame.mono (by decide) (by decide)⟩
  · exact retN X0 hx (t := .boolean) Bd.returns (by simp) (hb hby d8_38) hr
  · show Q26 Z a1339 p1340 k1357 h0 n0 _ s₁.heap _
    rw [e0]
    exact ⟨rfl, N0, rfl⟩
set_option maxRecDepth 65536 in
set_option maxHeartbeats 40000000 in
theorem sfx3 (l : Launch) (Z : State) (a0 : Array Value) (hw : ∀ d ∈ tables_1, d.before a0 Z = true) (ws : List Jvm.Cond) {p : Program} {e : Env} {s : State} {m : MethodId} {below : List Frame} {meth : Method} {c : Code} {s₁ : State} (p380 : Int32) (p381 : Int32) (p382 : Int32) (p374 : Int32) (p375 : Int32) (p376 : Int32) (a377 : Addr) (a378 : Addr) (p379 : Int32) (p373 : Int32) (w6 : Addr) (a385 : Addr) (a386 : Addr) (k388 : ClassId) (a383 : Addr) (a384 : Addr) (k387 : ClassId) (kc_w6 : ClassId) (Bd : BodyLoose p l x (head1 (Jvm.Cond.code x code maxLocals ret :: ws) room_1) code maxLocals ret e s m #[(.int p380), (.int p381), (.int p382)] below meth c s₁) (hZ : Z.Warmed39 s.vm) (hml : c.maxLocals = 11) {T0 : State} {locs0 : List Loc} (X0 : Stand p l e room_1 s m #[(.int p380), (.int p381), (.int p382)] below meth c T0 locs0 14 50) (h0 : Heap) (e0 : T0.heap = h0) (n0 : Nat) (O0 : Old Z n0 h0) (N0 : Fr n0 locs0) (pF_a377_echoOffered : Fld Z h0 a377 zs1 "echoOffered" "Z" (.int (1 : Int32))) (S_TelnetOptions_NO_ANSWER : Sta Z Z.heap zs1 "NO_ANSWER" "[B" (.ref w6)) (pF_a377_gmcpOffered : Fld Z h0 a377 zs1 "gmcpOffered" "Z" (.int (0 : Int32))) (pF_a377_gmcpOn : Fld Z h0 a377 zs1 "gmcpOn" "Z" (.int (0 : Int32))) (pF_a377_refusedDo : Fld Z h0 a377 zs1 "refusedDo" zs4 (.ref a385)) (pC396 : ¬ (p373 < (0 : Int32))) (S_BitSet__assertionsDisabled : Sta Z Z.heap zs2 zs6 "Z" (.int (1 : Int32))) (pE_a385 : Exa Z h0 a385 zs2) (pF_a385_wordsInUse : Fld Z h0 a385 zs2 "wordsInUse" "I" (.int (0 : Int32))) (pC397 : p373 < (256 : Int32)) (pF_a385_words : Fld Z h0 a385 zs2 "words" "[J" (.ref a386)) (pL_a386 : own_Len Z h0 a386 .long (4 : Int32)) (pG_a385 : n0 ≤ a385) (pF_a385_sizeIsSticky : Fld Z h0 a385 zs2 zs5 "Z" (.int (1 : Int32))) (pV_a386 : Arv Z h0 a386 k388 .long (4 : Int32) [] (.long (0 : Int64))) (pN_a385_a386 : a385 ≠ a386) (pG_a386 : n0 ≤ a386) (pF_a377_refusedWill : Fld Z h0 a377 zs1 "refusedWill" zs4 (.ref a383)) (pE_a383 : Exa Z h0 a383 zs2) (pF_a383_wordsInUse : Fld Z h0 a383 zs2 "wordsInUse" "I" (.int (0 : Int32))) (pF_a383_words : Fld Z h0 a383 zs2 "words" "[J" (.ref a384)) (pL_a384 : own_Len Z h0 a384 .long (4 : Int32)) (pG_a383 : n0 ≤ a383) (pF_a383_sizeIsSticky : Fld Z h0 a383 zs2 zs5 "Z" (.int (1 : Int32))) (pV_a384 : Arv Z h0 a384 k387 .long (4 : Int32) [] (.long (0 : Int64))) (pN_a383_a384 : a383 ≠ a384) (pG_a384 : n0 ≤ a384) (pE_a377 : Exa Z h0 a377 zs1) (SV_w6 : Arv Z Z.heap w6 kc_w6 .byte (0 : Int32) [] (.int (0 : Int32))) (pN_a377_a386 : a377 ≠ a386) (pN_a377_a385 : a377 ≠ a385) (pN_a377_a384 : a377 ≠ a384) (pN_a377_a383 : a377 ≠ a383) :
    own_Goes p e below (T0.setTop (mkF m 87 #[iv p374, iv p375, iv p376, rv a377, rv a378, iv (1 : Int32), iv p379, iv p373, .unset, .unset, .unset] [])) (own_G s below n0) := by
  have hx := Bd.exec
  have hby := Bd.bytes
  have hown : s.vm.findClass zs3 = some m.cls := findClass_of_methodNamed Bd.named
  have hnm := (name_of_methodNamed Bd.named Bd.method).1
  show own_Goes p e below (T0.setTop (mkF m 87 #[iv p374, iv p375, iv p376, rv a377, rv a378, iv (1 : Int32), iv p379, iv p373, .unset, .unset, .unset] [])) _
  refine own_via (fun t k => XS.aloadN X0.here hx rfl (hb hby at_87) rfl rfl (XS.iload X0.here hx rfl (hb hby at_88) rfl (XS.iload X0.here hx rfl (hb hby at_90) rfl k))) ?_
  show own_Goes p e below (T0.setTop (mkF m 92 #[iv p374, iv p375, iv p376, rv a377, rv a378, iv (1 : Int32), iv p379, iv p373, .unset, .unset, .unset] [(.int p373), (.int p379), (.ref a377)])) _
  obtain ⟨_, T398, _, X398, hQ398, st398⟩ := own_cv X0 hx hZ hown (wd hw 50 rfl) (wd hw 51 rfl) (wd hw 53 rfl) (wd hw 52 rfl) (wd hw 54 rfl) (wd hw 2 rfl) (by decide) (rm22 l Z a0 hw [] a377 p379 p373 w6 a385 a386 (1 : Int32) k388 a383 a384 (1 : Int32) k387 h0 n0 O0 pF_a377_echoOffered S_TelnetOptions_NO_ANSWER pF_a377_gmcpOffered pF_a377_gmcpOn pF_a377_refusedDo pC396 S_BitSet__assertionsDisabled pE_a385 pF_a385_wordsInUse pC397 pF_a385_words pL_a386 pG_a385 pF_a385_sizeIsSticky pV_a386 pN_a385_a386 pG_a386 pF_a377_refusedWill pE_a383 pF_a383_wordsInUse pF_a383_words pL_a384 pG_a383 pF_a383_sizeIsSticky pV_a384 pN_a383_a384 pG_a384) e0 pE_a377 (g := (mkF m 92 #[iv p374, iv p375, iv p376, rv a377, rv a378, iv (1 : Int32), iv p379, iv p373, .unset, .unset, .unset] [(.int p373), (.int p379), (.ref a377)])) rfl (by rw [hml]; rfl) (rest := []) (W := 0) (lenOf pd_4 rfl) rfl (by show 2 * 0 + _ ≤ _; exact Nat.le_of_eq rfl) (hb hby at_92) (by decide) (by decide) (by decide) (by decide)
  obtain ⟨h398, e398⟩ : ∃ z, T398.heap = z := ⟨_, rfl⟩
  rw [e398] at hQ398
  rcases hQ398 with ⟨hq1101, hq1102, rfl, Nq398, hh1103⟩ | ⟨b1104, k1105, hq1106, hq1107, hq1108, rfl, Nq398, K398, ex1109, bx1110, vx1111⟩ | ⟨b1112, k1113, hq1114, hq1115, hq1116, rfl, Nq398, K398, ex1117, bx1118, vx1119⟩ | ⟨hq1120, hq1121, hq1122, rfl, Nq398, hh1123⟩ | ⟨b1124, k1125, hq1126, hq1127, hq1128, hq1129, rfl, Nq398, K398, ex1130, bx1131, vx1132⟩ | ⟨hq1133, hq1134, hq1135, hq1136, rfl, Nq398, hh1137⟩ | ⟨b1138, k1139, hq1140, hq1141, hq1142, rfl, Nq398, K398, ex1143, bx1144, vx1145⟩ | ⟨hq1146, hq1147, hq1148, rfl, Nq398, hh1149⟩
  · have N398 := Fr.app N0 Nq398
    refine own_via (fun t k => st398 t (XS.astore X398.here hx rfl (hb hby at_95) rfl rfl (l' := #[iv p374, iv p375, iv p376, rv a377, rv a378, iv (1 : Int32), iv p379, iv p373, rv w6, .unset, .unset]) rfl (XS.iload X398.here hx rfl (hb hby at_97) rfl (XS.sipush X398.here hx rfl (hb hby at_99) (XS.icmpNo X398.here hx rfl (hb hby at_102) rfl (teq hq1101).2 (XS.iload X398.here hx rfl (hb hby at_105) rfl (XS.iconst X398.here hx rfl (hb hby at_107) (XS.icmpNo X398.here hx rfl (hb hby at_108) rfl (teq hq1102).2 (XS.aload X398.here hx rfl (hb hby at_111) rfl rfl k))))))))) ?_
    show own_Goes p e below (T398.setTop (mkF m 113 #[iv p374, iv p375, iv p376, rv a377, rv a378, iv (1 : Int32), iv p379, iv p373, rv w6, .unset, .unset] [(.ref w6)])) _
    obtain ⟨_, T1150, _, X1150, hQ1150, st1150⟩ := own_cs X398 hx hZ hown (wd hw 57 rfl) (wd hw 58 rfl) (wd hw 59 rfl) (wd hw 48 rfl) (by decide) (rm23 l Z a0 hw [] w6 kc_w6 h0 n0 O0 SV_w6) (e398.trans hh1103) (g := (mkF m 113 #[iv p374, iv p375, iv p376, rv a377, rv a378, iv (1 : Int32), iv p379, iv p373, rv w6, .unset, .unset] [(.ref w6)])) rfl (by rw [hml]; rfl) (rest := []) (W := 0) (lenOf pd_8 rfl) rfl (by show 2 * 0 + _ ≤ _; exact Nat.le_of_eq rfl) (hb hby at_113) (by decide) (by decide) (by decide) (by decide)
    obtain ⟨rfl, Nq1150, hh1184⟩ := hQ1150
    have N1150 := Fr.app N398 Nq1150
    refine own_via (fun t k => st1150 t (XS.istore X1150.here hx rfl (hb hby at_116) rfl (l' := #[iv p374, iv p375, iv p376, rv a377, rv a378, iv (1 : Int32), iv p379, iv p373, rv w6, iv (1 : Int32), .unset]) rfl (XS.goto X1150.here hx rfl (pc0 := 118) (pc' := 174) rfl (hb hby at_118) (by decide) (by decide) k))) ?_
    show own_Goes p e below (T1150.setTop (mkF m 174 #[iv p374, iv p375, iv p376, rv a377, rv a378, iv (1 : Int32), iv p379, iv p373, rv w6, iv (1 : Int32), .unset] [])) _
    exact sfx1 l Z a0 hw ws p380 p381 p382 p374 p375 p376 a377 a378 p379 p373 w6 kc_w6 Bd hZ hml (X1150.more (by decide) (by decide)) h0 hh1184 n0 O0 N1150 pF_a377_echoOffered S_TelnetOptions_NO_ANSWER pE_a377 SV_w6
  · have N398 := Fr.app N0 Nq398
    have g1249 : n0 ≤ b1104 := Nat.le_trans (own_old O0) bx1110
    have B1250 : h0.size ≤ b1104 := Nat.le_trans (Nat.le_refl _) bx1110
    refine own_via (fun t k => st398 t (XS.astore X398.here hx rfl (hb hby at_95) rfl rfl (l' := #[iv p374, iv p375, iv p376, rv a377, rv a378, iv (1 : Int32), iv p379, iv p373, rv b1104, .unset, .unset]) rfl (XS.iload X398.here hx rfl (hb hby at_97) rfl (XS.sipush X398.here hx rfl (hb hby at_99) (XS.icmpNo X398.here hx rfl (hb hby at_102) rfl (teq hq1106).2 (XS.iload X398.here hx rfl (hb hby at_105) rfl (XS.iconst X398.here hx rfl (hb hby at_107) (XS.icmpYes X398.here hx rfl (pc0 := 108) (pc' := 121) rfl (hb hby at_108) rfl (feq hq1107).2 (by decide) (by decide) (XS.iload X398.here hx rfl (hb hby at_121) rfl (XS.sipush X398.here hx rfl (hb hby at_123) (XS.icmpYes X398.here hx rfl (pc0 := 126) (pc' := 144) rfl (hb hby at_126) rfl (feq (by rw [hq1106]; decide : ¬ (p379 = (251 : Int32)))).2 (by decide) (by decide) (XS.iload X398.here hx rfl (hb hby at_144) rfl k)))))))))))) ?_
    show own_Goes p e below (T398.setTop (mkF m 146 #[iv p374, iv p375, iv p376, rv a377, rv a378, iv (1 : Int32), iv p379, iv p373, rv b1104, .unset, .unset] [(.int p379)])) _
    refine own_via (fun t k => XS.sipush X398.here hx rfl (hb hby at_146) (XS.icmpNo X398.here hx rfl (hb hby at_149) rfl (teq hq1106).2 (XS.aload X398.here hx rfl (hb hby at_152) rfl rfl (XS.sipush X398.here hx rfl (hb hby at_154) (XS.iload X398.here hx rfl (hb hby at_157) rfl k))))) ?_
    show own_Goes p e below (T398.setTop (mkF m 159 #[iv p374, iv p375, iv p376, rv a377, rv a378, iv (1 : Int32), iv p379, iv p373, rv b1104, .unset, .unset] [(.int p373), (.int (252 : Int32)), (.ref b1104)])) _
    have l1288 : own_Len Z h398 b1104 .byte (3 : Int32) := ⟨_, _, _, vx1111⟩
    have O1289 : Old Z n0 h398 := (O0.keep K398 (allS pG_a385 (allS pG_a386 all0)))
    obtain ⟨_, T1251, _, X1251, hQ1251, st1251⟩ := own_cs X398 hx hZ hown (wd hw 46 rfl) (wd hw 47 rfl) (wd hw 49 rfl) (wd hw 48 rfl) (by decide) (rm25 l Z a0 hw [] b1104 p373 k1105 h398 n0 O1289 l1288 vx1111) e398 (g := (mkF m 159 #[iv p374, iv p375, iv p376, rv a377, rv a378, iv (1 : Int32), iv p379, iv p373, rv b1104, .unset, .unset] [(.int p373), (.int (252 : Int32)), (.ref b1104)])) rfl (by rw [hml]; rfl) (rest := []) (W := 0) (lenOf pd_6 rfl) rfl (by show 2 * 0 + _ ≤ _; exact Nat.le_of_eq rfl) (hb hby at_159) (by decide) (by decide) (by decide) (by decide)
    obtain ⟨rfl, Nq1251, hh1290⟩ := hQ1251
    have N1251 := Fr.app N398 Nq1251
    refine own_via (fun t k => st1251 t (XS.istore X1251.here hx rfl (hb hby at_162) rfl (l' := #[iv p374, iv p375, iv p376, rv a377, rv a378, iv (1 : Int32), iv p379, iv p373, rv b1104, iv (1 : Int32), .unset]) rfl (XS.goto X1251.here hx rfl (pc0 := 164) (pc' := 174) rfl (hb hby at_164) (by decide) (by decide) k))) ?_
    show own_Goes p e below (T1251.setTop (mkF m 174 #[iv p374, iv p375, iv p376, rv a377, rv a378, iv (1 : Int32), iv p379, iv p373, rv b1104, iv (1 : Int32), .unset] [])) _
    have F1324 : Fld Z h398 a377 zs1 "echoOffered" "Z" (.int (1 : Int32)) := (pF_a377_echoOffered.keep K398 (ninS pN_a377_a385 (ninS pN_a377_a386 nin0)))
    have E1325 : Exa Z h398 a377 zs1 := (pE_a377.keep K398)
    exact sfx2 l Z a0 hw ws p380 p381 p382 p374 p375 p376 a377 a378 p379 p373 b1104 w6 kc_w6 Bd hZ hml (X1251.more (by decide) (by decide)) h398 hh1290 n0 O1289 N1251 F1324 S_TelnetOptions_NO_ANSWER E1325 SV_w6
  · have N398 := Fr.app N0 Nq398
    have g1326 : n0 ≤ b1112 := Nat.le_trans (own_old O0) bx1118
    have B1327 : h0.size ≤ b1112 := Nat.le_trans (Nat.le_refl _) bx1118
    refine own_via (fun t k => st398 t (XS.astore X398.here hx rfl (hb hby at_95) rfl rfl (l' := #[iv p374, iv p375, iv p376, rv a377, rv a378, iv (1 : Int32), iv p379, iv p373, rv b1112, .unset, .unset]) rfl (XS.iload X398.here hx rfl (hb hby at_97) rfl (XS.sipush X398.here hx rfl (hb hby at_99) (XS.icmpNo X398.here hx rfl (hb hby at_102) rfl (teq hq1114).2 (XS.iload X398.here hx rfl (hb hby at_105) rfl (XS.iconst X398.here hx rfl (hb hby at_107) (XS.icmpYes X398.here hx rfl (pc0 := 108) (pc' := 121) rfl (hb hby at_108) rfl (feq hq1115).2 (by decide) (by decide) (XS.iload X398.here hx rfl (hb hby at_121) rfl (XS.sipush X398.here hx rfl (hb hby at_123) (XS.icmpYes X398.here hx rfl (pc0 := 126) (pc' := 144) rfl (hb hby at_126) rfl (feq (by rw [hq1114]; decide : ¬ (p379 = (251 : Int32)))).2 (by decide) (by decide) (XS.iload X398.here hx rfl (hb hby at_144) rfl k)))))))))))) ?_
    show own_Goes p e below (T398.setTop (mkF m 146 #[iv p374, iv p375, iv p376, rv a377, rv a378, iv (1 : Int32), iv p379, iv p373, rv b1112, .unset, .unset] [(.int p379)])) _
    refine own_via (fun t k => XS.sipush X398.here hx rfl (hb hby at_146) (XS.icmpNo X398.here hx rfl (hb hby at_149) rfl (teq hq1114).2 (XS.aload X398.here hx rfl (hb hby at_152) rfl rfl (XS.sipush X398.here hx rfl (hb hby at_154) (XS.iload X398.here hx rfl (hb hby at_157) rfl k))))) ?_
    show own_Goes p e below (T398.setTop (mkF m 159 #[iv p374, iv p375, iv p376, rv a377, rv a378, iv (1 : Int32), iv p379, iv p373, rv b1112, .unset, .unset] [(.int p373), (.int (252 : Int32)), (.ref b1112)])) _
    have l1329 : own_Len Z h398 b1112 .byte (3 : Int32) := ⟨_, _, _, vx1119⟩
    have O1330 : Old Z n0 h398 := (O0.keep K398 (allS pG_a385 (allS pG_a386 all0)))
    obtain ⟨_, T1328, _, X1328, hQ1328, st1328⟩ := own_cs X398 hx hZ hown (wd hw 46 rfl) (wd hw 47 rfl) (wd hw 49 rfl) (wd hw 48 rfl) (by decide) (rm25 l Z a0 hw [] b1112 p373 k1113 h398 n0 O1330 l1329 vx1119) e398 (g := (mkF m 159 #[iv p374, iv p375, iv p376, rv a377, rv a378, iv (1 : Int32), iv p379, iv p373, rv b1112, .unset, .unset] [(.int p373), (.int (252 : Int32)), (.ref b1112)])) rfl (by rw [hml]; rfl) (rest := []) (W := 0) (lenOf pd_6 rfl) rfl (by show 2 * 0 + _ ≤ _; exact Nat.le_of_eq rfl) (hb hby at_159) (by decide) (by decide) (by decide) (by decide)
    obtain ⟨rfl, Nq1328, hh1331⟩ := hQ1328
    have N1328 := Fr.app N398 Nq1328
    refine own_via (fun t k => st1328 t (XS.istore X1328.here hx rfl (hb hby at_162) rfl (l' := #[iv p374, iv p375, iv p376, rv a377, rv a378, iv (1 : Int32), iv p379, iv p373, rv b1112, iv (1 : Int32), .unset]) rfl (XS.goto X1328.here hx rfl (pc0 := 164) (pc' := 174) rfl (hb hby at_164) (by decide) (by decide) k))) ?_
    show own_Goes p e below (T1328.setTop (mkF m 174 #[iv p374, iv p375, iv p376, rv a377, rv a378, iv (1 : Int32), iv p379, iv p373, rv b1112, iv (1 : Int32), .unset] [])) _
    have F1332 : Fld Z h398 a377 zs1 "echoOffered" "Z" (.int (1 : Int32)) := (pF_a377_echoOffered.keep K398 (ninS pN_a377_a385 (ninS pN_a377_a386 nin0)))
    have E1333 : Exa Z h398 a377 zs1 := (pE_a377.keep K398)
    exact sfx2 l Z a0 hw ws p380 p381 p382 p374 p375 p376 a377 a378 p379 p373 b1112 w6 kc_w6 Bd hZ hml (X1328.more (by decide) (by decide)) h398 hh1331 n0 O1330 N1328 F1332 S_TelnetOptions_NO_ANSWER E1333 SV_w6
  · have N398 := Fr.app N0 Nq398
    refine own_via (fun t k => st398 t (XS.astore X398.here hx rfl (hb hby at_95) rfl rfl (l' := #[iv p374, iv p375, iv p376, rv a377, rv a378, iv (1 : Int32), iv p379, iv p373, rv w6, .unset, .unset]) rfl (XS.iload X398.here hx rfl (hb hby at_97) rfl (XS.sipush X398.here hx rfl (hb hby at_99) (XS.icmpYes X398.here hx rfl (pc0 := 102) (pc' := 121) rfl (hb hby at_102) rfl (feq hq1120).2 (by decide) (by decide) (XS.iload X398.here hx rfl (hb hby at_121) rfl (XS.sipush X398.here hx rfl (hb hby at_123) (XS.icmpYes X398.here hx rfl (pc0 := 126) (pc' := 144) rfl (hb hby at_126) rfl (feq (by rw [hq1122]; decide : ¬ (p379 = (251 : Int32)))).2 (by decide) (by decide) (XS.iload X398.here hx rfl (hb hby at_144) rfl (XS.sipush X398.here hx rfl (hb hby at_146) (XS.icmpYes X398.here hx rfl (pc0 := 149) (pc' := 167) rfl (hb hby at_149) rfl (feq hq1120).2 (by decide) (by decide) (XS.aload X398.here hx rfl (hb hby at_167) rfl rfl k)))))))))))) ?_
    show own_Goes p e below (T398.setTop (mkF m 169 #[iv p374, iv p375, iv p376, rv a377, rv a378, iv (1 : Int32), iv p379, iv p373, rv w6, .unset, .unset] [(.ref w6)])) _
    obtain ⟨_, T1334, _, X1334, hQ1334, st1334⟩ := own_cs X398 hx hZ hown (wd hw 57 rfl) (wd hw 58 rfl) (wd hw 59 rfl) (wd hw 48 rfl) (by decide) (rm23 l Z a0 hw [] w6 kc_w6 h0 n0 O0 SV_w6) (e398.trans hh1123) (g := (mkF m 169 #[iv p374, iv p375, iv p376, rv a377, rv a378, iv (1 : Int32), iv p379, iv p373, rv w6, .unset, .unset] [(.ref w6)])) rfl (by rw [hml]; rfl) (rest := []) (W := 0) (lenOf pd_8 rfl) rfl (by show 2 * 0 + _ ≤ _; exact Nat.le_of_eq rfl) (hb hby at_169) (by decide) (by decide) (by decide) (by decide)
    obtain ⟨rfl, Nq1334, hh1335⟩ := hQ1334
    have N1334 := Fr.app N398 Nq1334
    refine own_via (fun t k => st1334 t (XS.istore X1334.here hx rfl (hb hby at_172) rfl (l' := #[iv p374, iv p375, iv p376, rv a377, rv a378, iv (1 : Int32), iv p379, iv p373, rv w6, iv (1 : Int32), .unset]) rfl k)) ?_
    exact sfx1 l Z a0 hw ws p380 p381 p382 p374 p375 p376 a377 a378 p379 p373 w6 kc_w6 Bd hZ hml (X1334.more (by decide) (by decide)) h0 hh1335 n0 O0 N1334 pF_a377_echoOffered S_TelnetOptions_NO_ANSWER pE_a377 SV_w6
  · have N398 := Fr.app N0 Nq398
    have g1336 : n0 ≤ b1124 := Nat.le_trans (own_old O0) bx1131
    have B1337 : h0.size ≤ b1124 := Nat.le_trans (Nat.le_refl _) bx1131
    refine own_via (fun t k => st398 t (XS.astore X398.here hx rfl (hb hby at_95) rfl rfl (l' := #[iv p374, iv p375, iv p376, rv a377, rv a378, iv (1 : Int32), iv p379, iv p373, rv b1124, .unset, .unset]) rfl (XS.iload X398.here hx rfl (hb hby at_97) rfl (XS.sipush X398.here hx rfl (hb hby at_99) (XS.icmpYes X398.here hx rfl (pc0 := 102) (pc' := 121) rfl (hb hby at_102) rfl (feq hq1126).2 (by decide) (by decide) (XS.iload X398.here hx rfl (hb hby at_121) rfl (XS.sipush X398.here hx rfl (hb hby at_123) (XS.icmpNo X398.here hx rfl (hb hby at_126) rfl (teq hq1129).2 (XS.aload X398.here hx rfl (hb hby at_129) rfl rfl (XS.sipush X398.here hx rfl (hb hby at_131) (XS.iload X398.here hx rfl (hb hby at_134) rfl k))))))))))) ?_
    show own_Goes p e below (T398.setTop (mkF m 136 #[iv p374, iv p375, iv p376, rv a377, rv a378, iv (1 : Int32), iv p379, iv p373, rv b1124, .unset, .unset] [(.int p373), (.int (254 : Int32)), (.ref b1124)])) _
    have l1376 : own_Len Z h398 b1124 .byte (3 : Int32) := ⟨_, _, _, vx1132⟩
    have O1377 : Old Z n0 h398 := (O0.keep K398 (allS pG_a383 (allS pG_a384 all0)))
    obtain ⟨_, T1338, _, X1338, hQ1338, st1338⟩ := own_cs X398 hx hZ hown (wd hw 46 rfl) (wd hw 47 rfl) (wd hw 49 rfl) (wd hw 48 rfl) (by decide) (rm26 l Z a0 hw [] b1124 p373 k1125 h398 n0 O1377 l1376 vx1132) e398 (g := (mkF m 136 #[iv p374, iv p375, iv p376, rv a377, rv a378, iv (1 : Int32), iv p379, iv p373, rv b1124, .unset, .unset] [(.int p373), (.int (254 : Int32)), (.ref b1124)])) rfl (by rw [hml]; rfl) (rest := []) (W := 0) (lenOf pd_6 rfl) rfl (by show 2 * 0 + _ ≤ _; exact Nat.le_of_eq rfl) (hb hby at_136) (by decide) (by decide) (by decide) (by decide)
    obtain ⟨rfl, Nq1338, hh1378⟩ := hQ1338
    have N1338 := Fr.app N398 Nq1338
    refine own_via (fun t k => st1338 t (XS.istore X1338.here hx rfl (hb hby at_139) rfl (l' := #[iv p374, iv p375, iv p376, rv a377, rv a378, iv (1 : Int32), iv p379, iv p373, rv b1124, iv (1 : Int32), .unset]) rfl (XS.goto X1338.here hx rfl (pc0 := 141) (pc' := 174) rfl (hb hby at_141) (by decide) (by decide) k))) ?_
    show own_Goes p e below (T1338.setTop (mkF m 174 #[iv p374, iv p375, iv p376, rv a377, rv a378, iv (1 : Int32), iv p379, iv p373, rv b1124, iv (1 : Int32), .unset] [])) _
    have F1379 : Fld Z h398 a377 zs1 "echoOffered" "Z" (.int (1 : Int32)) := (pF_a377_echoOffered.keep K398 (ninS pN_a377_a383 (ninS pN_a377_a384 nin0)))
    have E1380 : Exa Z h398 a377 zs1 := (pE_a377.keep K398)
    exact sfx2 l Z a0 hw ws p380 p381 p382 p374 p375 p376 a377 a378 p379 p373 b1124 w6 kc_w6 Bd hZ hml (X1338.more (by decide) (by decide)) h398 hh1378 n0 O1377 N1338 F1379 S_TelnetOptions_NO_ANSWER E1380 SV_w6
  · have N398 := Fr.app N0 Nq398
    refine own_via (fun t k => st398 t (XS.astore X398.here hx rfl (hb hby at_95) rfl rfl (l' := #[iv p374, iv p375, iv p376, rv a377, rv a378, iv (1 : Int32), iv p379, iv p373, rv w6, .unset, .unset]) rfl (XS.iload X398.here hx rfl (hb hby at_97) rfl (XS.sipush X398.here hx rfl (hb hby at_99) (XS.icmpYes X398.here hx rfl (pc0 := 102) (pc' := 121) rfl (hb hby at_102) rfl (feq hq1133).2 (by decide) (by decide) (XS.iload X398.here hx rfl (hb hby at_121) rfl (XS.sipush X398.here hx rfl (hb hby at_123) (XS.icmpYes X398.here hx rfl (pc0 := 126) (pc' := 144) rfl (hb hby at_126) rfl (feq hq1136).2 (by decide) (by decide) (XS.iload X398.here hx rfl (hb hby at_144) rfl (XS.sipush X398.here hx rfl (hb hby at_146) (XS.icmpYes X398.here hx rfl (pc0 := 149) (pc' := 167) rfl (hb hby at_149) rfl (feq hq1133).2 (by decide) (by decide) (XS.aload X398.here hx rfl (hb hby at_167) rfl rfl k)))))))))))) ?_
    show own_Goes p e below (T398.setTop (mkF m 169 #[iv p374, iv p375, iv p376, rv a377, rv a378, iv (1 : Int32), iv p379, iv p373, rv w6, .unset, .unset] [(.ref w6)])) _
    obtain ⟨_, T1381, _, X1381, hQ1381, st1381⟩ := own_cs X398 hx hZ hown (wd hw 57 rfl) (wd hw 58 rfl) (wd hw 59 rfl) (wd hw 48 rfl) (by decide) (rm23 l Z a0 hw [] w6 kc_w6 h0 n0 O0 SV_w6) (e398.trans hh1137) (g := (mkF m 169 #[iv p374, iv p375, iv p376, rv a377, rv a378, iv (1 : Int32), iv p379, iv p373, rv w6, .unset, .unset] [(.ref w6)])) rfl (by rw [hml]; rfl) (rest := []) (W := 0) (lenOf pd_8 rfl) rfl (by show 2 * 0 + _ ≤ _; exact Nat.le_of_eq rfl) (hb hby at_169) (by decide) (by decide) (by decide) (by decide)
    obtain ⟨rfl, Nq1381, hh1382⟩ := hQ1381
    have N1381 := Fr.app N398 Nq1381
    refine own_via (fun t k => st1381 t (XS.istore X1381.here hx rfl (hb hby at_172) rfl (l' := #[iv p374, iv p375, iv p376, rv a377, rv a378, iv (1 : Int32), iv p379, iv p373, rv w6, iv (1 : Int32), .unset]) rfl k)) ?_
    exact sfx1 l Z a0 hw ws p380 p381 p382 p374 p375 p376 a377 a378 p379 p373 w6 kc_w6 Bd hZ hml (X1381.more (by decide) (by decide)) h0 hh1382 n0 O0 N1381 pF_a377_echoOffered S_TelnetOptions_NO_ANSWER pE_a377 SV_w6
  · have N398 := Fr.app N0 Nq398
    have g1383 : n0 ≤ b1138 := Nat.le_trans (own_old O0) bx1144
    have B1384 : h0.size ≤ b1138 := Nat.le_trans (Nat.le_refl _) bx1144
    refine own_via (fun t k => st398 t (XS.astore X398.here hx rfl (hb hby at_95) rfl rfl (l' := #[iv p374, iv p375, iv p376, rv a377, rv a378, iv (1 : Int32), iv p379, iv p373, rv b1138, .unset, .unset]) rfl (XS.iload X398.here hx rfl (hb hby at_97) rfl (XS.sipush X398.here hx rfl (hb hby at_99) (XS.icmpYes X398.here hx rfl (pc0 := 102) (pc' := 121) rfl (hb hby at_102) rfl (feq hq1140).2 (by decide) (by decide) (XS.iload X398.here hx rfl (hb hby at_121) rfl (XS.sipush X398.here hx rfl (hb hby at_123) (XS.icmpNo X398.here hx rfl (hb hby at_126) rfl (teq hq1142).2 (XS.aload X398.here hx rfl (hb hby at_129) rfl rfl (XS.sipush X398.here hx rfl (hb hby at_131) (XS.iload X398.here hx rfl (hb hby at_134) rfl k))))))))))) ?_
    show own_Goes p e below (T398.setTop (mkF m 136 #[iv p374, iv p375, iv p376, rv a377, rv a378, iv (1 : Int32), iv p379, iv p373, rv b1138, .unset, .unset] [(.int p373), (.int (254 : Int32)), (.ref b1138)])) _
    have l1386 : own_Len Z h398 b1138 .byte (3 : Int32) := ⟨_, _, _, vx1145⟩
    have O1387 : Old Z n0 h398 := (O0.keep K398 (allS pG_a383 (allS pG_a384 all0)))
    obtain ⟨_, T1385, _, X1385, hQ1385, st1385⟩ := own_cs X398 hx hZ hown (wd hw 46 rfl) (wd hw 47 rfl) (wd hw 49 rfl) (wd hw 48 rfl) (by decide) (rm26 l Z a0 hw [] b1138 p373 k1139 h398 n0 O1387 l1386 vx1145) e398 (g := (mkF m 136 #[iv p374, iv p375, iv p376, rv a377, rv a378, iv (1 : Int32), iv p379, iv p373, rv b1138, .unset, .unset] [(.int p373), (.int (254 : Int32)), (.ref b1138)])) rfl (by rw [hml]; rfl) (rest := []) (W := 0) (lenOf pd_6 rfl) rfl (by show 2 * 0 + _ ≤ _; exact Nat.le_of_eq rfl) (hb hby at_136) (by decide) (by decide) (by decide) (by decide)
    obtain ⟨rfl, Nq1385, hh1388⟩ := hQ1385
    have N1385 := Fr.app N398 Nq1385
    refine own_via (fun t k => st1385 t (XS.istore X1385.here hx rfl (hb hby at_139) rfl (l' := #[iv p374, iv p375, iv p376, rv a377, rv a378, iv (1 : Int32), iv p379, iv p373, rv b1138, iv (1 : Int32), .unset]) rfl (XS.goto X1385.here hx rfl (pc0 := 141) (pc' := 174) rfl (hb hby at_141) (by decide) (by decide) k))) ?_
    show own_Goes p e below (T1385.setTop (mkF m 174 #[iv p374, iv p375, iv p376, rv a377, rv a378, iv (1 : Int32), iv p379, iv p373, rv b1138, iv (1 : Int32), .unset] [])) _
    have F1389 : Fld Z h398 a377 zs1 "echoOffered" "Z" (.int (1 : Int32)) := (pF_a377_echoOffered.keep K398 (ninS pN_a377_a383 (ninS pN_a377_a384 nin0)))
    have E1390 : Exa Z h398 a377 zs1 := (pE_a377.keep K398)
    exact sfx2 l Z a0 hw ws p380 p381 p382 p374 p375 p376 a377 a378 p379 p373 b1138 w6 kc_w6 Bd hZ hml (X1385.more (by decide) (by decide)) h398 hh1388 n0 O1387 N1385 F1389 S_TelnetOptions_NO_ANSWER E1390 SV_w6
  · have N398 := Fr.app N0 Nq398
    refine own_via (fun t k => st398 t (XS.astore X398.here hx rfl (hb hby at_95) rfl rfl (l' := #[iv p374, iv p375, iv p376, rv a377, rv a378, iv (1 : Int32), iv p379, iv p373, rv w6, .unset, .unset]) rfl (XS.iload X398.here hx rfl (hb hby at_97) rfl (XS.sipush X398.here hx rfl (hb hby at_99) (XS.icmpYes X398.here hx rfl (pc0 := 102) (pc' := 121) rfl (hb hby at_102) rfl (feq hq1146).2 (by decide) (by decide) (XS.iload X398.here hx rfl (hb hby at_121) rfl (XS.sipush X398.here hx rfl (hb hby at_123) (XS.icmpYes X398.here hx rfl (pc0 := 126) (pc' := 144) rfl (hb hby at_126) rfl (feq hq1148).2 (by decide) (by decide) (XS.iload X398.here hx rfl (hb hby at_144) rfl (XS.sipush X398.here hx rfl (hb hby at_146) (XS.icmpYes X398.here hx rfl (pc0 := 149) (pc' := 167) rfl (hb hby at_149) rfl (feq hq1146).2 (by decide) (by decide) (XS.aload X398.here hx rfl (hb hby at_167) rfl rfl k)))))))))))) ?_
    show own_Goes p e below (T398.setTop (mkF m 169 #[iv p374, iv p375, iv p376, rv a377, rv a378, iv (1 : Int32), iv p379, iv p373, rv w6, .unset, .unset] [(.ref w6)])) _
    obtain ⟨_, T1391, _, X1391, hQ1391, st1391⟩ := own_cs X398 hx hZ hown (wd hw 57 rfl) (wd hw 58 rfl) (wd hw 59 rfl) (wd hw 48 rfl) (by decide) (rm23 l Z a0 hw [] w6 kc_w6 h0 n0 O0 SV_w6) (e398.trans hh1149) (g := (mkF m 169 #[iv p374, iv p375, iv p376, rv a377, rv a378, iv (1 : Int32), iv p379, iv p373, rv w6, .unset, .unset] [(.ref w6)])) rfl (by rw [hml]; rfl) (rest := []) (W := 0) (lenOf pd_8 rfl) rfl (by show 2 * 0 + _ ≤ _; exact Nat.le_of_eq rfl) (hb hby at_169) (by decide) (by decide) (by decide) (by decide)
    obtain ⟨rfl, Nq1391, hh1392⟩ := hQ1391
    have N1391 := Fr.app N398 Nq1391
    refine own_via (fun t k => st1391 t (XS.istore X1391.here hx rfl (hb hby at_172) rfl (l' := #[iv p374, iv p375, iv p376, rv a377, rv a378, iv (1 : Int32), iv p379, iv p373, rv w6, iv (1 : Int32), .unset]) rfl k)) ?_
    exact sfx1 l Z a0 hw ws p380 p381 p382 p374 p375 p376 a377 a378 p379 p373 w6 kc_w6 Bd hZ hml (X1391.more (by decide) (by decide)) h0 hh1392 n0 O0 N1391 pF_a377_echoOffered S_TelnetOptions_NO_ANSWER pE_a377 SV_w6
def Q27 (Z : State)  (h0 : Heap) (n0 : Nat) (v : Option Value) (h : Heap) (L : List Loc) : Prop := v = some (.int (0 : Int32)) ∧ Fr n0 L ∧ h = h0
set_option maxRecDepth 65536 in
set_option maxHeartbeats 40000000 in
theorem rm27 (l : Launch) (Z : State) (a0 : Array Value) (hw : ∀ d ∈ tables_1, d.before a0 Z = true) (ws : List Jvm.Cond)  (h0 : Heap) (n0 : Nat) (O0 : Old Z n0 h0) :
    MetFree l (⟨zs2, "wordIndex", "(I)I"⟩ : MethodName) (head1 (Jvm.Cond.code (⟨zs2, "wordIndex", "(I)I"⟩ : MethodName) jdk_92_method_1_code 1 (some .int) :: ws) ({ frames := 0, cells := 0, slots := 0, locals := 0 } : Room)) (fun a U => a = #[(.int (1 : Int32))] ∧ Z.Warmed39 U.vm ∧ U.heap = h0) (fun _ _ _ _ _ => True) (fun _ U o U' => ∃ v L, o = .returned v ∧ Q27 Z  h0 n0 v U'.heap L ∧ FrameEnd U o U' L ({ frames := 0, cells := 0, slots := 0, locals := 0 } : Room).cells ({ frames := 0, cells := 0, slots := 0, locals := 0 } : Room).slots) := by
  refine MetFree.of_bodySF (plainFor_of_name pn_1) hisR ?_
  intro p e s m args below meth c s₁ Bd hml0 hP hK
  obtain ⟨rfl, hZ, hh⟩ := hP
  have hx := Bd.exec
  have hby := Bd.bytes
  have hml : c.maxLocals = 1 := hml0
  have hown : s.vm.findClass zs2 = some m.cls := findClass_of_methodNamed Bd.named
  have hnm := (name_of_methodNamed Bd.named Bd.method).1
  have X0 : Stand p l e ({ frames := 0, cells := 0, slots := 0, locals := 0 } : Room) s m #[(.int (1 : Int32))] below meth c s₁ [] 0 0 := Stand.of_body Bd
  have e0 : s₁.heap = h0 := by rw [← hh, Bd.state]; rfl
  have N0 := Fr.nil n0
  refine own_out ?_
  refine own_via (fun t k => castTop (ef_1 m (1 : Int32)) (XS.iloadN X0.here hx rfl (hb hby d5_0) rfl (XS.bipush X0.here hx rfl (hb hby d5_1) (XS.ishr X0.here hx rfl (hb hby d5_3) rfl k)))) ?_
  show own_Goes p e below (s₁.setTop (mkF m 4 #[iv (1 : Int32)] [(.int (0 : Int32))])) _
  obtain ⟨fs, hr, hrun, hended, hW, hsame⟩ := X0.leave (v := some (.int (0 : Int32))) (fun h => by rw [Bd.returns] at h; cases h)
  refine own_end (t := s₁.setFrames fs) ?_ ⟨_, hrun, hended, _, _, rfl, ?_, ⟨_, rfl⟩, hW, hsame.mono (by decide) (by decide)⟩
  · exact retI X0 hx Bd.returns (hb hby d5_4) hr
  · show Q27 Z  h0 n0 _ s₁.heap _
    rw [e0]
    exact ⟨rfl, N0, rfl⟩
def Q28 (Z : State) (a1447 : Addr) (h0 : Heap) (n0 : Nat) (v : Option Value) (h : Heap) (L : List Loc) : Prop := v = some (.int (0 : Int32)) ∧ Fr n0 L ∧ h = h0
set_option maxRecDepth 65536 in
set_option maxHeartbeats 40000000 in
theorem rm28 (l : Launch) (Z : State) (a0 : Array Value) (hw : ∀ d ∈ tables_1, d.before a0 Z = true) (ws : List Jvm.Cond) (a1447 : Addr) (h0 : Heap) (n0 : Nat) (O0 : Old Z n0 h0) (S_BitSet__assertionsDisabled : Sta Z Z.heap zs2 zs6 "Z" (.int (1 : Int32))) (pE_a1447 : Exa Z h0 a1447 zs2) (pF_a1447_wordsInUse : Fld Z h0 a1447 zs2 "wordsInUse" "I" (.int (0 : Int32))) :
    MetFree l (⟨zs2, "get", "(I)Z"⟩ : MethodName) (head1 (Jvm.Cond.code (⟨zs2, "get", "(I)Z"⟩ : MethodName) jdk_92_method_26_code 3 (some .boolean) :: ws) ({ frames := 1, cells := 0, slots := 0, locals := 12 } : Room)) (fun a U => a = #[(.ref a1447), (.int (1 : Int32))] ∧ Z.Warmed39 U.vm ∧ U.heap = h0) (fun _ _ _ _ _ => True) (fun _ U o U' => ∃ v L, o = .returned v ∧ Q28 Z a1447 h0 n0 v U'.heap L ∧ FrameEnd U o U' L ({ frames := 1, cells := 0, slots := 0, locals := 12 } : Room).cells ({ frames := 1, cells := 0, slots := 0, locals := 12 } : Room).slots) := by
  refine MetFree.of_bodySF (plainFor_of_name pn_1) hisR ?_
  intro p e s m args below meth c s₁ Bd hml0 hP hK
  obtain ⟨rfl, hZ, hh⟩ := hP
  have hx := Bd.exec
  have hby := Bd.bytes
  have hml : c.maxLocals = 3 := hml0
  have hown : s.vm.findClass zs2 = some m.cls := findClass_of_methodNamed Bd.named
  have hnm := (name_of_methodNamed Bd.named Bd.method).1
  have X0 : Stand p l e ({ frames := 1, cells := 0, slots := 0, locals := 12 } : Room) s m #[(.ref a1447), (.int (1 : Int32))] below meth c s₁ [] 0 0 := Stand.of_body Bd
  have e0 : s₁.heap = h0 := by rw [← hh, Bd.state]; rfl
  have N0 := Fr.nil n0
  refine own_out ?_
  refine own_via (fun t k => castTop (ef_9 m a1447 (1 : Int32)) (XS.iloadN X0.here hx rfl (hb hby d12_0) rfl (XS.ifYes X0.here hx rfl (pc0 := 1) (pc' := 31) rfl (hb hby d12_1) rfl ((if0 _ _).trans (flt (by decide : ¬ ((1 : Int32) < (0 : Int32)))).2.1) (by decide) (by decide) (XS.aloadN X0.here hx rfl (hb hby d12_31) rfl rfl k)))) ?_
  show own_Goes p e below (s₁.setTop (mkF m 32 #[rv a1447, iv (1 : Int32), .unset] [(.ref a1447)])) _
  obtain ⟨cq1475, q1475, q1475'⟩ := pE_a1447.cell
  obtain ⟨_, _, ⟨T1475, L1475, c1475, n1475⟩, -, X1475, ⟨Lc1475, hQ1475, l1475, y1475, z1475⟩, st1475⟩ := X0.privateBack hx (y := (⟨zs2, zs8, "()V"⟩ : MethodName)) hown (mvT hZ (wd hw 71 rfl)) (mvT hZ (wd hw 72 rfl)) (mvT hZ (wd hw 74 rfl)) (Cond.privateMethod_at (mvP hZ (wd hw 73 rfl) (args := #[]))) (mvT hZ (wd hw 75 rfl)) (by decide) (backOf (W := 0) (rm8 l Z a0 hw [] a1447 h0 n0 O0 S_BitSet__assertionsDisabled) hZ (wd hw 75 rfl) (wd hw 11 rfl) (by decide) (by decide)) (g := (mkF m 32 #[rv a1447, iv (1 : Int32), .unset] [(.ref a1447)])) rfl (by rw [hml]; rfl) (Steps.refl _) (a := a1447) (by rw [e0]; exact q1475) q1475' (argsL := []) (rest := []) (lenOf pd_3 rfl) rfl (by show 2 * 0 + _ ≤ _; exact Nat.le_of_eq rfl) (hb hby d12_32) (fun _ _ => ⟨rfl, e0, (by decide : 0 + 0 ≤ _), (by decide : 0 + 0 ≤ _)⟩)
  dsimp only [Pt.U, Pt.locs, Pt.cells, Pt.slots] at X1475 l1475 y1475 z1475 st1475 hQ1475
  subst l1475 y1475 z1475
  obtain ⟨rfl, Nq1475, hh1476⟩ := hQ1475
  have N1475 := Fr.app N0 Nq1475
  refine own_via (fun t k => st1475.trans (XS.iloadN X1475.here hx rfl (hb hby d12_35) rfl k)) ?_
  obtain ⟨_, T1477, _, X1477, hQ1477, st1477⟩ := own_cs X1475 hx hZ hown (wd hw 25 rfl) (wd hw 26 rfl) (wd hw 27 rfl) (wd hw 11 rfl) (by decide) (rm27 l Z a0 hw []  h0 n0 O0 ) hh1476 (g := (mkF m 36 #[rv a1447, iv (1 : Int32), .unset] [(.int (1 : Int32))])) rfl (by rw [hml]; rfl) (rest := []) (W := 0) (lenOf pd_1 rfl) rfl (by show 2 * 0 + _ ≤ _; exact Nat.le_of_eq rfl) (hb hby d12_36) (by decide) (by decide) (by decide) (by decide)
  obtain ⟨rfl, Nq1477, hh1507⟩ := hQ1477
  have N1477 := Fr.app N1475 Nq1477
  refine own_via (fun t k => st1477 t (XS.istoreN X1477.here hx rfl (hb hby d12_39) rfl (l' := #[rv a1447, iv (1 : Int32), iv (0 : Int32)]) rfl (XS.iloadN X1477.here hx rfl (hb hby d12_40) rfl (XS.aloadN X1477.here hx rfl (hb hby d12_41) rfl rfl k)))) ?_
  show own_Goes p e below (T1477.setTop (mkF m 42 #[rv a1447, iv (1 : Int32), iv (0 : Int32)] [(.ref a1447), (.int (0 : Int32))])) _
  obtain ⟨T1508, X1508, e1508, st1508⟩ := getF X1477 hx hZ hown (host := "") (Or.inl (wd hw 16 rfl)) Via.refl hh1507 pF_a1447_wordsInUse (g := (mkF m 42 #[rv a1447, iv (1 : Int32), iv (0 : Int32)] [(.ref a1447), (.int (0 : Int32))])) rfl rfl (hb hby d12_42)
  refine own_via (fun t k => st1508 t (XS.icmpYes X1508.here hx rfl (pc0 := 45) (pc' := 67) rfl (hb hby d12_45) rfl (flt (by decide : ¬ ((0 : Int32) < (0 : Int32)))).2.1 (by decide) (by decide) (XS.iconst X1508.here hx rfl (hb hby d12_67) k))) ?_
  show own_Goes p e below (T1508.setTop (mkF m 68 #[rv a1447, iv (1 : Int32), iv (0 : Int32)] [(.int (0 : Int32))])) _
  obtain ⟨fs, hr, hrun, hended, hW, hsame⟩ := X1508.leave (v := some (.int (0 : Int32))) (fun h => by rw [Bd.returns] at h; cases h)
  refine own_end (t := T1508.setFrames fs) ?_ ⟨_, hrun, hended, _, _, rfl, ?_, ⟨_, rfl⟩, hW, hsame.mono (by decide) (by decide)⟩
  · exact retN X1508 hx (t := .boolean) Bd.returns (by simp) (hb hby d12_68) hr
  · show Q28 Z a1447 h0 n0 _ T1508.heap _
    rw [e1508]
    exact ⟨rfl, N1477, rfl⟩
def Q29 (Z : State) (a1512 : Addr) (a1514 : Addr) (p1517 : Int32) (k1518 : ClassId) (h0 : Heap) (n0 : Nat) (v : Option Value) (h : Heap) (L : List Loc) : Prop := v = none ∧ Fr n0 L ∧ Keep h0 h [a1512, a1514] ∧ Exa Z h a1512 zs2
set_option maxRecDepth 65536 in
set_option maxHeartbeats 40000000 in
theorem rm29 (l : Launch) (Z : State) (a0 : Array Value) (hw : ∀ d ∈ tables_1, d.before a0 Z = true) (ws : List Jvm.Cond) (a1512 : Addr) (a1514 : Addr) (p1517 : Int32) (k1518 : ClassId) (h0 : Heap) (n0 : Nat) (O0 : Old Z n0 h0) (pF_a1512_wordsInUse : Fld Z h0 a1512 zs2 "wordsInUse" "I" (.int (0 : Int32))) (pF_a1512_words : Fld Z h0 a1512 zs2 "words" "[J" (.ref a1514)) (pL_a1514 : own_Len Z h0 a1514 .long (4 : Int32)) (pE_a1512 : Exa Z h0 a1512 zs2) (pG_a1512 : n0 ≤ a1512) (pF_a1512_sizeIsSticky : Fld Z h0 a1512 zs2 zs5 "Z" (.int p1517)) (pV_a1514 : Arv Z h0 a1514 k1518 .long (4 : Int32) [] (.long (0 : Int64))) (pN_a1512_a1514 : a1512 ≠ a1514) (pG_a1514 : n0 ≤ a1514) (S_BitSet__assertionsDisabled : Sta Z Z.heap zs2 zs6 "Z" (.int (1 : Int32))) :
    MetFree l (⟨zs2, "set", "(I)V"⟩ : MethodName) (head1 (Jvm.Cond.code (⟨zs2, "set", "(I)V"⟩ : MethodName) jdk_92_method_19_code 3 none :: ws) ({ frames := 2, cells := 0, slots := 0, locals := 28 } : Room)) (fun a U => a = #[(.ref a1512), (.int (1 : Int32))] ∧ Z.Warmed39 U.vm ∧ U.heap = h0) (fun _ _ _ _ _ => True) (fun _ U o U' => ∃ v L, o = .returned v ∧ Q29 Z a1512 a1514 p1517 k1518 h0 n0 v U'.heap L ∧ FrameEnd U o U' L ({ frames := 2, cells := 0, slots := 0, locals := 28 } : Room).cells ({ frames := 2, cells := 0, slots := 0, locals := 28 } : Room).slots) := by
  refine MetFree.of_bodySF (plainFor_of_name pn_1) hisR ?_
  intro p e s m args below meth c s₁ Bd hml0 hP hK
  obtain ⟨rfl, hZ, hh⟩ := hP
  have hx := Bd.exec
  have hby := Bd.bytes
  have hml : c.maxLocals = 3 := hml0
  have hown : s.vm.findClass zs2 = some m.cls := findClass_of_methodNamed Bd.named
  have hnm := (name_of_methodNamed Bd.named Bd.method).1
  have X0 : Stand p l e ({ frames := 2, cells := 0, slots := 0, locals := 28 } : Room) s m #[(.ref a1512), (.int (1 : Int32))] below meth c s₁ [] 0 0 := Stand.of_body Bd
  have e0 : s₁.heap = h0 := by rw [← hh, Bd.state]; rfl
  have N0 := Fr.nil n0
  refine own_out ?_
  refine own_via (fun t k => castTop (ef_12 m a1512 (1 : Int32)) (XS.iloadN X0.here hx rfl (hb hby d14_0) rfl (XS.ifYes X0.here hx rfl (pc0 := 1) (pc' := 31) rfl (hb hby d14_1) rfl ((if0 _ _).trans (flt (by decide : ¬ ((1 : Int32) < (0 : Int32)))).2.1) (by decide) (by decide) (XS.iloadN X0.here hx rfl (hb hby d14_31) rfl k)))) ?_
  show own_Goes p e below (s₁.setTop (mkF m 32 #[rv a1512, iv (1 : Int32), .unset] [(.int (1 : Int32))])) _
  obtain ⟨_, T1540, _, X1540, hQ1540, st1540⟩ := own_cs X0 hx hZ hown (wd hw 25 rfl) (wd hw 26 rfl) (wd hw 27 rfl) (wd hw 11 rfl) (by decide) (rm27 l Z a0 hw []  h0 n0 O0 ) e0 (g := (mkF m 32 #[rv a1512, iv (1 : Int32), .unset] [(.int (1 : Int32))])) rfl (by rw [hml]; rfl) (rest := []) (W := 0) (lenOf pd_1 rfl) rfl (by show 2 * 0 + _ ≤ _; exact Nat.le_of_eq rfl) (hb hby d14_32) (by decide) (by decide) (by decide) (by decide)
  obtain ⟨rfl, Nq1540, hh1541⟩ := hQ1540
  have N1540 := Fr.app N0 Nq1540
  refine own_via (fun t k => st1540 t (XS.istoreN X1540.here hx rfl (hb hby d14_35) rfl (l' := #[rv a1512, iv (1 : Int32), iv (0 : Int32)]) rfl (XS.aloadN X1540.here hx rfl (hb hby d14_36) rfl rfl (XS.iloadN X1540.here hx rfl (hb hby d14_37) rfl k)))) ?_
  show own_Goes p e below (T1540.setTop (mkF m 38 #[rv a1512, iv (1 : Int32), iv (0 : Int32)] [(.int (0 : Int32)), (.ref a1512)])) _
  obtain ⟨cq1542, q1542, q1542'⟩ := pE_a1512.cell
  obtain ⟨_, _, ⟨T1542, L1542, c1542, n1542⟩, -, X1542, ⟨Lc1542, hQ1542, l1542, y1542, z1542⟩, st1542⟩ := X1540.privateBack hx (y := (⟨zs2, "expandTo", "(I)V"⟩ : MethodName)) hown (mvT hZ (wd hw 82 rfl)) (mvT hZ (wd hw 83 rfl)) (mvT hZ (wd hw 85 rfl)) (Cond.privateMethod_at (mvP hZ (wd hw 84 rfl) (args := #[]))) (mvT hZ (wd hw 86 rfl)) (by decide) (backOf (W := 0) (rm12 l Z a0 hw [] a1512 a1514 p1517 h0 n0 O0 pF_a1512_wordsInUse pF_a1512_words pL_a1514 pE_a1512 pG_a1512 pF_a1512_sizeIsSticky) hZ (wd hw 86 rfl) (wd hw 11 rfl) (by decide) (by decide)) (g := (mkF m 38 #[rv a1512, iv (1 : Int32), iv (0 : Int32)] [(.int (0 : Int32)), (.ref a1512)])) rfl (by rw [hml]; rfl) (Steps.refl _) (a := a1512) (by rw [hh1541]; exact q1542) q1542' (argsL := [(.int (0 : Int32))]) (rest := []) (lenOf pd_2 rfl) rfl (by show 2 * 0 + _ ≤ _; exact Nat.le_of_eq rfl) (hb hby d14_38) (fun _ _ => ⟨rfl, hh1541, (by decide : 0 + 0 ≤ _), (by decide : 0 + 0 ≤ _)⟩)
  dsimp only [Pt.U, Pt.locs, Pt.cells, Pt.slots] at X1542 l1542 y1542 z1542 st1542 hQ1542
  subst l1542 y1542 z1542
  obtain ⟨h1542, e1542⟩ : ∃ z, T1542.heap = z := ⟨_, rfl⟩
  rw [e1542] at hQ1542
  obtain ⟨rfl, Nq1542, K1542, ex1543, fx1544, fx1545, fx1546⟩ := hQ1542
  have N1542 := Fr.app N1540 Nq1542
  refine own_via (fun t k => st1542.trans (XS.aloadN X1542.here hx rfl (hb hby d14_41) rfl rfl k)) ?_
  obtain ⟨T1547, X1547, e1547, st1547⟩ := getF X1542 hx hZ hown (host := "") (Or.inl (wd hw 29 rfl)) Via.refl e1542 fx1546 (g := (mkF m 42 #[rv a1512, iv (1 : Int32), iv (0 : Int32)] [(.ref a1512)])) rfl rfl (hb hby d14_42)
  refine own_via (fun t k => st1547 t (XS.iloadN X1547.here hx rfl (hb hby d14_45) rfl k)) ?_
  refine own_via (S' := T1547.setTop (mkF m 47 #[rv a1512, iv (1 : Int32), iv (0 : Int32)] [(.int (0 : Int32)), (.ref a1514), (.int (0 : Int32)), (.ref a1514)])) (fun t k => by jvm_step X1547.here [X1547.here.top, hx, (hb hby d14_46), Value.category]; exact k) ?_
  show own_Goes p e below (T1547.setTop (mkF m 47 #[rv a1512, iv (1 : Int32), iv (0 : Int32)] [(.int (0 : Int32)), (.ref a1514), (.int (0 : Int32)), (.ref a1514)])) _
  have V1548 : Arv Z h1542 a1514 k1518 .long (4 : Int32) [] (.long (0 : Int64)) := (pV_a1514.keep K1542 (ninS (Ne.symm pN_a1512_a1514) nin0))
  obtain ⟨cl1549, Ar1549, qq1549, S1549, M1549, H1549, G1549⟩ := id (V1548)
  have hin1549 : ¬ ((0 : Int32) < 0 ∨ cl1549.slots.size ≤ ((0 : Int32)).toNatClampNeg) := inb_of S1549 ⟨by decide, by decide⟩
  refine own_via (fun t k => X1547.laload hx (j := (0 : Int32)) (v := (.long (0 : Int64))) (by rw [e1547]; exact Ar1549.1) (State.isArrayOf_alike hZ.alike Ar1549.2.1) Ar1549.2.2 hin1549 (Has.at H1549 hin1549 rfl) (g := (mkF m 47 #[rv a1512, iv (1 : Int32), iv (0 : Int32)] [(.int (0 : Int32)), (.ref a1514), (.int (0 : Int32)), (.ref a1514)])) rfl rfl (hb hby d14_47) t (XS.lconst X1547.here hx rfl (hb hby d14_48) (XS.iloadN X1547.here hx rfl (hb hby d14_49) rfl (XS.lshl X1547.here hx rfl (hb hby d14_50) rfl (XS.lor X1547.here hx rfl (hb hby d14_51) rfl k))))) ?_
  show own_Goes p e below (T1547.setTop (mkF m 52 #[rv a1512, iv (1 : Int32), iv (0 : Int32)] [(.long (2 : Int64)), (.int (0 : Int32)), (.ref a1514)])) _
  have V1550 : Arv Z h1542 a1514 k1518 .long (4 : Int32) [(.long (0 : Int64))] (.long (0 : Int64)) := V1548.pad (pad_rep [] (.long (0 : Int64)) 1)
  obtain ⟨cl1551, Ar1551, qq1551, S1551, M1551, H1551, G1551⟩ := id (V1550)
  have hin1551 : ¬ ((0 : Int32) < 0 ∨ cl1551.slots.size ≤ ((0 : Int32)).toNatClampNeg) := inb_of S1551 ⟨by decide, by decide⟩
  obtain ⟨T1551, h1551, X1551, e1551, W1551, st1551⟩ := stJ X1547 hx hZ e1547 Ar1551 (j := (0 : Int32)) hin1551 (g := (mkF m 52 #[rv a1512, iv (1 : Int32), iv (0 : Int32)] [(.long (2 : Int64)), (.int (0 : Int32)), (.ref a1514)])) rfl rfl (hb hby d14_52)
  refine own_via (fun t k => st1551 t k) ?_
  have V1552 : Arv Z h1551 a1514 k1518 .long (4 : Int32) [(.long (2 : Int64))] (.long (0 : Int64)) := Arv.set Ar1551 qq1551 S1551 M1551 H1551 G1551 rfl W1551 0 rfl (Nat.le_of_ble_eq_true rfl)
  have N1551 := Fr.snoc X1551 N1542 pG_a1514
  show own_Goes p e below (T1551.setTop (mkF m 53 #[rv a1512, iv (1 : Int32), iv (0 : Int32)] [])) _
  refine own_via (fun t k => XS.aloadN X1551.here hx rfl (hb hby d14_53) rfl rfl k) ?_
  have O1554 : Old Z n0 h1551 := ((O0.keep K1542 (allS pG_a1512 all0)).wr W1551 pG_a1514)
  have E1555 : Exa Z h1551 a1512 zs2 := (ex1543.wr W1551)
  obtain ⟨cq1553, q1553, q1553'⟩ := E1555.cell
  obtain ⟨_, _, ⟨T1553, L1553, c1553, n1553⟩, -, X1553, ⟨Lc1553, hQ1553, l1553, y1553, z1553⟩, st1553⟩ := X1551.privateBack hx (y := (⟨zs2, zs8, "()V"⟩ : MethodName)) hown (mvT hZ (wd hw 71 rfl)) (mvT hZ (wd hw 72 rfl)) (mvT hZ (wd hw 74 rfl)) (Cond.privateMethod_at (mvP hZ (wd hw 73 rfl) (args := #[]))) (mvT hZ (wd hw 75 rfl)) (by decide) (backOf (W := 0) (rm8 l Z a0 hw [] a1512 h1551 n0 O1554 S_BitSet__assertionsDisabled) hZ (wd hw 75 rfl) (wd hw 11 rfl) (by decide) (by decide)) (g := (mkF m 54 #[rv a1512, iv (1 : Int32), iv (0 : Int32)] [(.ref a1512)])) rfl (by rw [hml]; rfl) (Steps.refl _) (a := a1512) (by rw [e1551]; exact q1553) q1553' (argsL := []) (rest := []) (lenOf pd_3 rfl) rfl (by show 2 * 0 + _ ≤ _; exact Nat.le_of_eq rfl) (hb hby d14_54) (fun _ _ => ⟨rfl, e1551, (by decide : 0 + 0 ≤ _), (by decide : 0 + 0 ≤ _)⟩)
  dsimp only [Pt.U, Pt.locs, Pt.cells, Pt.slots] at X1553 l1553 y1553 z1553 st1553 hQ1553
  subst l1553 y1553 z1553
  obtain ⟨rfl, Nq1553, hh1556⟩ := hQ1553
  have N1553 := Fr.app N1551 Nq1553
  refine own_via (fun t k => st1553.trans k) ?_
  obtain ⟨fs, hr, hrun, hended, hW, hsame⟩ := X1553.leave (v := none) (fun _ => rfl)
  refine own_end (t := T1553.setFrames fs) ?_ ⟨_, hrun, hended, _, _, rfl, ?_, ⟨_, rfl⟩, hW, hsame.mono (by decide) (by decide)⟩
  · exact X1553.returnOut hx Bd.returns (hb hby d14_57) hr
  · show Q29 Z a1512 a1514 p1517 k1518 h0 n0 _ T1553.heap _
    rw [hh1556]
    exact ⟨rfl, N1553, (((Keep.refl h0 [a1512, a1514]).trans K1542 (allS (Or.inl (List.mem_of_getElem? (i := 0) rfl)) all0)).wr W1551 (Or.inl (List.mem_of_getElem? (i := 1) rfl))), E1555⟩
def Q30 (Z : State)  (h0 : Heap) (n0 : Nat) (v : Option Value) (h : Heap) (L : List Loc) : Prop := (∃ (b1586 : Addr) (k1585 : ClassId), v = some (.ref b1586) ∧ Fr n0 L ∧ Keep h0 h [] ∧ h0.size ≤ b1586 ∧ Arv Z h b1586 k1585 .byte (3 : Int32) [(.int (-1 : Int32)), (.int (-2 : Int32)), (.int (1 : Int32))] (.int (0 : Int32)))
set_option maxRecDepth 65536 in
set_option maxHeartbeats 40000000 in
theorem rm30 (l : Launch) (Z : State) (a0 : Array Value) (hw : ∀ d ∈ tables_1, d.before a0 Z = true) (ws : List Jvm.Cond)  (h0 : Heap) (n0 : Nat) (O0 : Old Z n0 h0) :
    MetFree l (⟨zs1, "command", "(II)[B"⟩ : MethodName) (head1 (Jvm.Cond.code (⟨zs1, "command", "(II)[B"⟩ : MethodName) prog_61_method_8_code 2 (some (.array .byte)) :: ws) ({ frames := 0, cells := 1, slots := 3, locals := 0 } : Room)) (fun a U => a = #[(.int (254 : Int32)), (.int (1 : Int32))] ∧ Z.Warmed39 U.vm ∧ U.heap = h0) (fun _ _ _ _ _ => True) (fun _ U o U' => ∃ v L, o = .returned v ∧ Q30 Z  h0 n0 v U'.heap L ∧ FrameEnd U o U' L ({ frames := 0, cells := 1, slots := 3, locals := 0 } : Room).cells ({ frames := 0, cells := 1, slots := 3, locals := 0 } : Room).slots) := by
  refine MetFree.of_bodySF (plainFor_of_name pn_2) hisR ?_
  intro p e s m args below meth c s₁ Bd hml0 hP hK
  obtain ⟨rfl, hZ, hh⟩ := hP
  have hx := Bd.exec
  have hby := Bd.bytes
  have hml : c.maxLocals = 2 := hml0
  have hown : s.vm.findClass zs1 = some m.cls := findClass_of_methodNamed Bd.named
  have hnm := (name_of_methodNamed Bd.named Bd.method).1
  have X0 : Stand p l e ({ frames := 0, cells := 1, slots := 3, locals := 0 } : Room) s m #[(.int (254 : Int32)), (.int (1 : Int32))] below meth c s₁ [] 0 0 := Stand.of_body Bd
  have e0 : s₁.heap = h0 := by rw [← hh, Bd.state]; rfl
  have N0 := Fr.nil n0
  refine own_out ?_
  refine own_via (fun t k => castTop (ef_5 m (254 : Int32) (1 : Int32)) (XS.iconst X0.here hx rfl (hb hby d7_0) k)) ?_
  obtain ⟨T1585, h1585, k1585, X1585, e1585, E1585, A1585, st1585⟩ := newP X0 hx hZ (wd hw 45 rfl) e0 (g := (mkF m 1 #[iv (254 : Int32), iv (1 : Int32)] [(.int (3 : Int32))])) rfl (hb hby d7_1) rfl (by decide) (cap := 3) (by decide) (by decide) (by decide) (by decide)
  obtain ⟨b1586, q1585⟩ : ∃ z, z = h0.size := ⟨_, rfl⟩
  rw [← q1585] at A1585 st1585
  refine own_via (fun t k => st1585 t k) ?_
  have g1587 : n0 ≤ b1586 := Nat.le_trans (own_old O0) (Nat.le_of_eq q1585.symm)
  have B1588 : h0.size ≤ b1586 := Nat.le_trans (Nat.le_refl _) (Nat.le_of_eq q1585.symm)
  have V1589 : Arv Z h1585 b1586 k1585 .byte (3 : Int32) [] (.int (0 : Int32)) := Arv.new A1585 (by decide)
  show own_Goes p e below (T1585.setTop (mkF m 3 #[iv (254 : Int32), iv (1 : Int32)] [(.ref b1586)])) _
  refine own_via (fun t k => XS.dup X1585.here hx rfl (hb hby d7_3) rfl rfl (XS.iconst X1585.here hx rfl (hb hby d7_4) (XS.iconst X1585.here hx rfl (hb hby d7_5) k))) ?_
  show own_Goes p e below (T1585.setTop (mkF m 6 #[iv (254 : Int32), iv (1 : Int32)] [(.int (-1 : Int32)), (.int (0 : Int32)), (.ref b1586), (.ref b1586)])) _
  have V1590 : Arv Z h1585 b1586 k1585 .byte (3 : Int32) [(.int (0 : Int32))] (.int (0 : Int32)) := V1589.pad (pad_rep [] (.int (0 : Int32)) 1)
  obtain ⟨cl1591, Ar1591, qq1591, S1591, M1591, H1591, G1591⟩ := id (V1590)
  have hin1591 : ¬ ((0 : Int32) < 0 ∨ cl1591.slots.size ≤ ((0 : Int32)).toNatClampNeg) := inb_of S1591 ⟨by decide, by decide⟩
  obtain ⟨T1591, h1591, X1591, e1591, W1591, st1591⟩ := stB X1585 hx hZ e1585 Ar1591 (j := (0 : Int32)) hin1591 (g := (mkF m 6 #[iv (254 : Int32), iv (1 : Int32)] [(.int (-1 : Int32)), (.int (0 : Int32)), (.ref b1586), (.ref b1586)])) rfl rfl (hb hby d7_6)
  refine own_via (fun t k => st1591 t k) ?_
  have V1592 : Arv Z h1591 b1586 k1585 .byte (3 : Int32) [(.int (-1 : Int32))] (.int (0 : Int32)) := Arv.set Ar1591 qq1591 S1591 M1591 H1591 G1591 (by decide) W1591 0 rfl (Nat.le_of_ble_eq_true rfl)
  have N1591 := Fr.snoc X1591 N0 g1587
  show own_Goes p e below (T1591.setTop (mkF m 7 #[iv (254 : Int32), iv (1 : Int32)] [(.ref b1586)])) _
  refine own_via (fun t k => XS.dup X1591.here hx rfl (hb hby d7_7) rfl rfl (XS.iconst X1591.here hx rfl (hb hby d7_8) (XS.iloadN X1591.here hx rfl (hb hby d7_9) rfl (XS.i2b X1591.here hx rfl (hb hby d7_10) rfl k)))) ?_
  show own_Goes p e below (T1591.setTop (mkF m 11 #[iv (254 : Int32), iv (1 : Int32)] [(.int (-2 : Int32)), (.int (1 : Int32)), (.ref b1586), (.ref b1586)])) _
  have V1593 : Arv Z h1591 b1586 k1585 .byte (3 : Int32) [(.int (-1 : Int32)), (.int (0 : Int32))] (.int (0 : Int32)) := V1592.pad (pad_rep [(.int (-1 : Int32))] (.int (0 : Int32)) 1)
  obtain ⟨cl1594, Ar1594, qq1594, S1594, M1594, H1594, G1594⟩ := id (V1593)
  have hin1594 : ¬ ((1 : Int32) < 0 ∨ cl1594.slots.size ≤ ((1 : Int32)).toNatClampNeg) := inb_of S1594 ⟨by decide, by decide⟩
  obtain ⟨T1594, h1594, X1594, e1594, W1594, st1594⟩ := stB X1591 hx hZ e1591 Ar1594 (j := (1 : Int32)) hin1594 (g := (mkF m 11 #[iv (254 : Int32), iv (1 : Int32)] [(.int (-2 : Int32)), (.int (1 : Int32)), (.ref b1586), (.ref b1586)])) rfl rfl (hb hby d7_11)
  refine own_via (fun t k => st1594 t k) ?_
  have V1595 : Arv Z h1594 b1586 k1585 .byte (3 : Int32) [(.int (-1 : Int32)), (.int (-2 : Int32))] (.int (0 : Int32)) := Arv.set Ar1594 qq1594 S1594 M1594 H1594 G1594 (by decide) W1594 1 rfl (Nat.le_of_ble_eq_true rfl)
  have N1594 := Fr.snoc X1594 N1591 g1587
  show own_Goes p e below (T1594.setTop (mkF m 12 #[iv (254 : Int32), iv (1 : Int32)] [(.ref b1586)])) _
  refine own_via (fun t k => XS.dup X1594.here hx rfl (hb hby d7_12) rfl rfl (XS.iconst X1594.here hx rfl (hb hby d7_13) (XS.iloadN X1594.here hx rfl (hb hby d7_14) rfl (XS.i2b X1594.here hx rfl (hb hby d7_15) rfl k)))) ?_
  show own_Goes p e below (T1594.setTop (mkF m 16 #[iv (254 : Int32), iv (1 : Int32)] [(.int (1 : Int32)), (.int (2 : Int32)), (.ref b1586), (.ref b1586)])) _
  have V1596 : Arv Z h1594 b1586 k1585 .byte (3 : Int32) [(.int (-1 : Int32)), (.int (-2 : Int32)), (.int (0 : Int32))] (.int (0 : Int32)) := V1595.pad (pad_rep [(.int (-1 : Int32)), (.int (-2 : Int32))] (.int (0 : Int32)) 1)
  obtain ⟨cl1597, Ar1597, qq1597, S1597, M1597, H1597, G1597⟩ := id (V1596)
  have hin1597 : ¬ ((2 : Int32) < 0 ∨ cl1597.slots.size ≤ ((2 : Int32)).toNatClampNeg) := inb_of S1597 ⟨by decide, by decide⟩
  obtain ⟨T1597, h1597, X1597, e1597, W1597, st1597⟩ := stB X1594 hx hZ e1594 Ar1597 (j := (2 : Int32)) hin1597 (g := (mkF m 16 #[iv (254 : Int32), iv (1 : Int32)] [(.int (1 : Int32)), (.int (2 : Int32)), (.ref b1586), (.ref b1586)])) rfl rfl (hb hby d7_16)
  refine own_via (fun t k => st1597 t k) ?_
  have V1598 : Arv Z h1597 b1586 k1585 .byte (3 : Int32) [(.int (-1 : Int32)), (.int (-2 : Int32)), (.int (1 : Int32))] (.int (0 : Int32)) := Arv.set Ar1597 qq1597 S1597 M1597 H1597 G1597 (by decide) W1597 2 rfl (Nat.le_of_ble_eq_true rfl)
  have N1597 := Fr.snoc X1597 N1594 g1587
  show own_Goes p e below (T1597.setTop (mkF m 17 #[iv (254 : Int32), iv (1 : Int32)] [(.ref b1586)])) _
  obtain ⟨fs, hr, hrun, hended, hW, hsame⟩ := X1597.leave (v := some (.ref b1586)) (fun h => by rw [Bd.returns] at h; cases h)
  refine own_end (t := T1597.setFrames fs) ?_ ⟨_, hrun, hended, _, _, rfl, ?_, ⟨_, rfl⟩, hW, hsame.mono (by decide) (by decide)⟩
  · jvm_step X1597.here [X1597.here.top, hx, (hb hby d7_17), X1597.method', Bd.returns, Value.isRef, FieldType.isReference]
    first | (intro acts; rw [hr _ acts rfl rfl rfl]) | rw [hr _ _ rfl rfl rfl]
    exact Steps.refl _
  · show Q30 Z  h0 n0 _ T1597.heap _
    rw [e1597]
    exact ⟨b1586, k1585, rfl, N1597, (((((Keep.refl h0 []).ext E1585).wr W1591 (Or.inr B1588)).wr W1594 (Or.inr B1588)).wr W1597 (Or.inr B1588)), B1588, V1598⟩
def Q31 (Z : State) (a1416 : Addr) (p1417 : Int32) (w6 : Addr) (a1418 : Addr) (a1419 : Addr) (p1422 : Int32) (k1423 : ClassId) (h0 : Heap) (n0 : Nat) (v : Option Value) (h : Heap) (L : List Loc) : Prop := (p1417 = (253 : Int32) ∧ v = some (.ref w6) ∧ Fr n0 L ∧ h = h0) ∨ ((∃ (b1600 : Addr) (k1601 : ClassId), ¬ (p1417 = (253 : Int32)) ∧ p1417 = (251 : Int32) ∧ v = some (.ref b1600) ∧ Fr n0 L ∧ Keep h0 h [a1418, a1419] ∧ Exa Z h a1418 zs2 ∧ h0.size ≤ b1600 ∧ Arv Z h b1600 k1601 .byte (3 : Int32) [(.int (-1 : Int32)), (.int (-2 : Int32)), (.int (1 : Int32))] (.int (0 : Int32)))) ∨ (¬ (p1417 = (253 : Int32)) ∧ ¬ (p1417 = (251 : Int32)) ∧ v = some (.ref w6) ∧ Fr n0 L ∧ h = h0)
set_option maxRecDepth 65536 in
set_option maxHeartbeats 40000000 in
theorem rm31 (l : Launch) (Z : State) (a0 : Array Value) (hw : ∀ d ∈ tables_1, d.before a0 Z = true) (ws : List Jvm.Cond) (a1416 : Addr) (p1417 : Int32) (w6 : Addr) (a1418 : Addr) (a1419 : Addr) (p1422 : Int32) (k1423 : ClassId) (h0 : Heap) (n0 : Nat) (O0 : Old Z n0 h0) (pF_a1416_echoOffered : Fld Z h0 a1416 zs1 "echoOffered" "Z" (.int (1 : Int32))) (S_TelnetOptions_NO_ANSWER : Sta Z Z.heap zs1 "NO_ANSWER" "[B" (.ref w6)) (pF_a1416_refusedWill : Fld Z h0 a1416 zs1 "refusedWill" zs4 (.ref a1418)) (S_BitSet__assertionsDisabled : Sta Z Z.heap zs2 zs6 "Z" (.int (1 : Int32))) (pE_a1418 : Exa Z h0 a1418 zs2) (pF_a1418_wordsInUse : Fld Z h0 a1418 zs2 "wordsInUse" "I" (.int (0 : Int32))) (pF_a1418_words : Fld Z h0 a1418 zs2 "words" "[J" (.ref a1419)) (pL_a1419 : own_Len Z h0 a1419 .long (4 : Int32)) (pG_a1418 : n0 ≤ a1418) (pF_a1418_sizeIsSticky : Fld Z h0 a1418 zs2 zs5 "Z" (.int p1422)) (pV_a1419 : Arv Z h0 a1419 k1423 .long (4 : Int32) [] (.long (0 : Int64))) (pN_a1418_a1419 : a1418 ≠ a1419) (pG_a1419 : n0 ≤ a1419) :
    MetFree l (⟨zs1, "answer", "(II)[B"⟩ : MethodName) (head1 (Jvm.Cond.code (⟨zs1, "answer", "(II)[B"⟩ : MethodName) prog_61_method_2_code 4 (some (.array .byte)) :: ws) ({ frames := 3, cells := 1, slots := 3, locals := 42 } : Room)) (fun a U => a = #[(.ref a1416), (.int p1417), (.int (1 : Int32))] ∧ Z.Warmed39 U.vm ∧ U.heap = h0) (fun _ _ _ _ _ => True) (fun _ U o U' => ∃ v L, o = .returned v ∧ Q31 Z a1416 p1417 w6 a1418 a1419 p1422 k1423 h0 n0 v U'.heap L ∧ FrameEnd U o U' L ({ frames := 3, cells := 1, slots := 3, locals := 42 } : Room).cells ({ frames := 3, cells := 1, slots := 3, locals := 42 } : Room).slots) := by
  refine MetFree.of_bodySF (plainFor_of_name pn_2) hisR ?_
  intro p e s m args below meth c s₁ Bd hml0 hP hK
  obtain ⟨rfl, hZ, hh⟩ := hP
  have hx := Bd.exec
  have hby := Bd.bytes
  have hml : c.maxLocals = 4 := hml0
  have hown : s.vm.findClass zs1 = some m.cls := findClass_of_methodNamed Bd.named
  have hnm := (name_of_methodNamed Bd.named Bd.method).1
  have X0 : Stand p l e ({ frames := 3, cells := 1, slots := 3, locals := 42 } : Room) s m #[(.ref a1416), (.int p1417), (.int (1 : Int32))] below meth c s₁ [] 0 0 := Stand.of_body Bd
  have e0 : s₁.heap = h0 := by rw [← hh, Bd.state]; rfl
  have N0 := Fr.nil n0
  refine own_out ?_
  refine own_via (fun t k => castTop (ef_13 m a1416 p1417 (1 : Int32)) (XS.iloadN X0.here hx rfl (hb hby d9_0) rfl (XS.sipush X0.here hx rfl (hb hby d9_1) k))) ?_
  show own_Goes p e below (s₁.setTop (mkF m 4 #[rv a1416, iv p1417, iv (1 : Int32), .unset] [(.int (253 : Int32)), (.int p1417)])) _
  by_cases hc1441 : p1417 = (253 : Int32)
  · refine own_via (fun t k => XS.icmpNo X0.here hx rfl (hb hby d9_4) rfl (teq hc1441).2 (XS.iloadN X0.here hx rfl (hb hby d9_7) rfl (XS.iconst X0.here hx rfl (hb hby d9_8) (XS.icmpNo X0.here hx rfl (hb hby d9_9) rfl (teq (by decide : (1 : Int32) = (1 : Int32))).2 (XS.aloadN X0.here hx rfl (hb hby d9_12) rfl rfl k))))) ?_
    show own_Goes p e below (s₁.setTop (mkF m 13 #[rv a1416, iv p1417, iv (1 : Int32), .unset] [(.ref a1416)])) _
    obtain ⟨T1442, X1442, e1442, st1442⟩ := getF X0 hx hZ hown (host := "") (Or.inl (wd hw 40 rfl)) Via.refl e0 pF_a1416_echoOffered (g := (mkF m 13 #[rv a1416, iv p1417, iv (1 : Int32), .unset] [(.ref a1416)])) rfl rfl (hb hby d9_13)
    refine own_via (fun t k => st1442 t (XS.ifNo X1442.here hx rfl (hb hby d9_16) rfl ((if0 _ _).trans (feq (by decide : ¬ ((1 : Int32) = (0 : Int32)))).1) k)) ?_
    obtain ⟨T1443, X1443, e1443, st1443⟩ := getS2 X1442 hx hZ hown (host := "") (Or.inl (wd hw 55 rfl)) Via.refl e1442 (S_TelnetOptions_NO_ANSWER.ext O0.2) (g := (mkF m 19 #[rv a1416, iv p1417, iv (1 : Int32), .unset] [])) rfl (hb hby d9_19)
    refine own_via (fun t k => st1443 t k) ?_
    obtain ⟨fs, hr, hrun, hended, hW, hsame⟩ := X1443.leave (v := some (.ref w6)) (fun h => by rw [Bd.returns] at h; cases h)
    refine own_end (t := T1443.setFrames fs) ?_ ⟨_, hrun, hended, _, _, rfl, ?_, ⟨_, rfl⟩, hW, hsame.mono (by decide) (by decide)⟩
    · jvm_step X1443.here [X1443.here.top, hx, (hb hby d9_22), X1443.method', Bd.returns, Value.isRef, FieldType.isReference]
      first | (intro acts; rw [hr _ acts rfl rfl rfl]) | rw [hr _ _ rfl rfl rfl]
      exact Steps.refl _
    · show Q31 Z a1416 p1417 w6 a1418 a1419 p1422 k1423 h0 n0 _ T1443.heap _
      rw [e1443]
      exact Or.inl <| ⟨hc1441, rfl, N0, rfl⟩
  · refine own_via (fun t k => XS.icmpYes X0.here hx rfl (pc0 := 4) (pc' := 23) rfl (hb hby d9_4) rfl (feq hc1441).2 (by decide) (by decide) (XS.iloadN X0.here hx rfl (hb hby d9_23) rfl (XS.sipush X0.here hx rfl (hb hby d9_24) (XS.icmpYes X0.here hx rfl (pc0 := 27) (pc' := 75) rfl (hb hby d9_27) rfl (feq (by decide : ¬ ((1 : Int32) = (201 : Int32)))).2 (by decide) (by decide) (XS.iloadN X0.here hx rfl (hb hby d9_75) rfl (XS.sipush X0.here hx rfl (hb hby d9_76) k)))))) ?_
    show own_Goes p e below (s₁.setTop (mkF m 79 #[rv a1416, iv p1417, iv (1 : Int32), .unset] [(.int (251 : Int32)), (.int p1417)])) _
    by_cases hc1444 : p1417 = (251 : Int32)
    · refine own_via (fun t k => XS.icmpNo X0.here hx rfl (hb hby d9_79) rfl (teq hc1444).2 (XS.aloadN X0.here hx rfl (hb hby d9_82) rfl rfl k)) ?_
      obtain ⟨T1445, X1445, e1445, st1445⟩ := getF X0 hx hZ hown (host := "") (Or.inl (wd hw 31 rfl)) Via.refl e0 pF_a1416_refusedWill (g := (mkF m 83 #[rv a1416, iv p1417, iv (1 : Int32), .unset] [(.ref a1416)])) rfl rfl (hb hby d9_83)
      refine own_via (fun t k => st1445 t (XS.iloadN X1445.here hx rfl (hb hby d9_86) rfl k)) ?_
      obtain ⟨_, T1446, _, X1446, hQ1446, st1446⟩ := own_cv X1445 hx hZ hown (wd hw 66 rfl) (wd hw 67 rfl) (wd hw 69 rfl) (wd hw 68 rfl) (wd hw 70 rfl) (wd hw 11 rfl) (by decide) (rm28 l Z a0 hw [] a1418 h0 n0 O0 S_BitSet__assertionsDisabled pE_a1418 pF_a1418_wordsInUse) e1445 pE_a1418 (g := (mkF m 87 #[rv a1416, iv p1417, iv (1 : Int32), .unset] [(.int (1 : Int32)), (.ref a1418)])) rfl (by rw [hml]; rfl) (rest := []) (W := 0) (lenOf pd_7 rfl) rfl (by show 2 * 0 + _ ≤ _; exact Nat.le_of_eq rfl) (hb hby d9_87) (by decide) (by decide) (by decide) (by decide)
      obtain ⟨rfl, Nq1446, hh1509⟩ := hQ1446
      have N1446 := Fr.app N0 Nq1446
      refine own_via (fun t k => st1446 t (XS.ifNo X1446.here hx rfl (hb hby d9_90) rfl ((if0 _ _).trans (teq (by decide : (0 : Int32) = (0 : Int32))).2) (XS.aloadN X1446.here hx rfl (hb hby d9_93) rfl rfl k))) ?_
      show own_Goes p e below (T1446.setTop (mkF m 94 #[rv a1416, iv p1417, iv (1 : Int32), .unset] [(.ref a1416)])) _
      obtain ⟨T1510, X1510, e1510, st1510⟩ := getF X1446 hx hZ hown (host := "") (Or.inl (wd hw 31 rfl)) Via.refl hh1509 pF_a1416_refusedWill (g := (mkF m 94 #[rv a1416, iv p1417, iv (1 : Int32), .unset] [(.ref a1416)])) rfl rfl (hb hby d9_94)
      refine own_via (fun t k => st1510 t (XS.iloadN X1510.here hx rfl (hb hby d9_97) rfl k)) ?_
      obtain ⟨_, T1511, _, X1511, hQ1511, st1511⟩ := own_cv X1510 hx hZ hown (wd hw 77 rfl) (wd hw 78 rfl) (wd hw 80 rfl) (wd hw 79 rfl) (wd hw 81 rfl) (wd hw 11 rfl) (by decide) (rm29 l Z a0 hw [] a1418 a1419 p1422 k1423 h0 n0 O0 pF_a1418_wordsInUse pF_a1418_words pL_a1419 pE_a1418 pG_a1418 pF_a1418_sizeIsSticky pV_a1419 pN_a1418_a1419 pG_a1419 S_BitSet__assertionsDisabled) e1510 pE_a1418 (g := (mkF m 98 #[rv a1416, iv p1417, iv (1 : Int32), .unset] [(.int (1 : Int32)), (.ref a1418)])) rfl (by rw [hml]; rfl) (rest := []) (W := 0) (lenOf pd_2 rfl) rfl (by show 2 * 0 + _ ≤ _; exact Nat.le_of_eq rfl) (hb hby d9_98) (by decide) (by decide) (by decide) (by decide)
      obtain ⟨h1511, e1511⟩ : ∃ z, T1511.heap = z := ⟨_, rfl⟩
      rw [e1511] at hQ1511
      obtain ⟨rfl, Nq1511, K1511, ex1557⟩ := hQ1511
      have N1511 := Fr.app N1446 Nq1511
      refine own_via (fun t k => st1511 t (XS.sipush X1511.here hx rfl (hb hby d9_101) (XS.istoreN X1511.here hx rfl (hb hby d9_104) rfl (l' := #[rv a1416, iv p1417, iv (1 : Int32), iv (254 : Int32)]) rfl (XS.goto X1511.here hx rfl (pc0 := 105) (pc' := 145) rfl (hb hby d9_105) (by decide) (by decide) (XS.iloadN X1511.here hx rfl (hb hby d9_145) rfl (XS.iloadN X1511.here hx rfl (hb hby d9_146) rfl k)))))) ?_
      show own_Goes p e below (T1511.setTop (mkF m 147 #[rv a1416, iv p1417, iv (1 : Int32), iv (254 : Int32)] [(.int (1 : Int32)), (.int (254 : Int32))])) _
      have O1599 : Old Z n0 h1511 := (O0.keep K1511 (allS pG_a1418 (allS pG_a1419 all0)))
      obtain ⟨_, T1558, _, X1558, hQ1558, st1558⟩ := own_cs X1511 hx hZ hown (wd hw 42 rfl) (wd hw 43 rfl) (wd hw 44 rfl) (wd hw 2 rfl) (by decide) (rm30 l Z a0 hw []  h1511 n0 O1599 ) e1511 (g := (mkF m 147 #[rv a1416, iv p1417, iv (1 : Int32), iv (254 : Int32)] [(.int (1 : Int32)), (.int (254 : Int32))])) rfl (by rw [hml]; rfl) (rest := []) (W := 0) (lenOf pd_4 rfl) rfl (by show 2 * 0 + _ ≤ _; exact Nat.le_of_eq rfl) (hb hby d9_147) (by decide) (by decide) (by decide) (by decide)
      obtain ⟨h1558, e1558⟩ : ∃ z, T1558.heap = z := ⟨_, rfl⟩
      rw [e1558] at hQ1558
      obtain ⟨b1600, k1601, rfl, Nq1558, K1558, bx1602, vx1603⟩ := hQ1558
      have N1558 := Fr.app N1511 Nq1558
      have g1604 : n0 ≤ b1600 := Nat.le_trans (own_old O1599) bx1602
      have Z1606 : h0.size ≤ h1511.size := (Nat.le_trans (Nat.le_refl _) K1511.1)
      have B1605 : h0.size ≤ b1600 := Nat.le_trans Z1606 bx1602
      refine own_via (fun t k => st1558 t k) ?_
      obtain ⟨fs, hr, hrun, hended, hW, hsame⟩ := X1558.leave (v := some (.ref b1600)) (fun h => by rw [Bd.returns] at h; cases h)
      refine own_end (t := T1558.setFrames fs) ?_ ⟨_, hrun, hended, _, _, rfl, ?_, ⟨_, rfl⟩, hW, hsame.mono (by decide) (by decide)⟩
      · jvm_step X1558.here [X1558.here.top, hx, (hb hby d9_150), X1558.method', Bd.returns, Value.isRef, FieldType.isReference]
        first | (intro acts; rw [hr _ acts rfl rfl rfl]) | rw [hr _ _ rfl rfl rfl]
        exact Steps.refl _
      have E1607 : Exa Z h1558 a1418 zs2 := (ex1557.keep K1558)
      · show Q31 Z a1416 p1417 w6 a1418 a1419 p1422 k1423 h0 n0 _ T1558.heap _
        rw [e1558]
        exact Or.inr <| Or.inl <| ⟨b1600, k1601, hc1441, hc1444, rfl, N1558, (((Keep.refl h0 [a1418, a1419]).trans K1511 (allS (Or.inl (List.mem_of_getElem? (i := 0) rfl)) (allS (Or.inl (List.mem_of_getElem? (i := 1) rfl)) all0))).trans K1558 all0), E1607, B1605, vx1603⟩
    · refine own_via (fun t k => XS.icmpYes X0.here hx rfl (pc0 := 79) (pc' := 108) rfl (hb hby d9_79) rfl (feq hc1444).2 (by decide) (by decide) (XS.iloadN X0.here hx rfl (hb hby d9_108) rfl (XS.sipush X0.here hx rfl (hb hby d9_109) (XS.icmpYes X0.here hx rfl (pc0 := 112) (pc' := 141) rfl (hb hby d9_112) rfl (feq hc1441).2 (by decide) (by decide) k)))) ?_
      show own_Goes p e below (s₁.setTop (mkF m 141 #[rv a1416, iv p1417, iv (1 : Int32), .unset] [])) _
      obtain ⟨T1608, X1608, e1608, st1608⟩ := getS2 X0 hx hZ hown (host := "") (Or.inl (wd hw 55 rfl)) Via.refl e0 (S_TelnetOptions_NO_ANSWER.ext O0.2) (g := (mkF m 141 #[rv a1416, iv p1417, iv (1 : Int32), .unset] [])) rfl (hb hby d9_141)
      refine own_via (fun t k => st1608 t k) ?_
      obtain ⟨fs, hr, hrun, hended, hW, hsame⟩ := X1608.leave (v := some (.ref w6)) (fun h => by rw [Bd.returns] at h; cases h)
      refine own_end (t := T1608.setFrames fs) ?_ ⟨_, hrun, hended, _, _, rfl, ?_, ⟨_, rfl⟩, hW, hsame.mono (by decide) (by decide)⟩
      · jvm_step X1608.here [X1608.here.top, hx, (hb hby d9_144), X1608.method', Bd.returns, Value.isRef, FieldType.isReference]
        first | (intro acts; rw [hr _ acts rfl rfl rfl]) | rw [hr _ _ rfl rfl rfl]
        exact Steps.refl _
      · show Q31 Z a1416 p1417 w6 a1418 a1419 p1422 k1423 h0 n0 _ T1608.heap _
        rw [e1608]
        exact Or.inr <| Or.inr <| ⟨hc1441, hc1444, rfl, N0, rfl⟩
def Q32 (Z : State) (a1626 : Addr) (k1643 : ClassId) (h0 : Heap) (n0 : Nat) (v : Option Value) (h : Heap) (L : List Loc) : Prop := v = some (.int (1 : Int32)) ∧ Fr n0 L ∧ h = h0
set_option maxRecDepth 65536 in
set_option maxHeartbeats 40000000 in
theorem rm32 (l : Launch) (Z : State) (a0 : Array Value) (hw : ∀ d ∈ tables_1, d.before a0 Z = true) (ws : List Jvm.Cond) (a1626 : Addr) (k1643 : ClassId) (h0 : Heap) (n0 : Nat) (O0 : Old Z n0 h0) (pL_a1626 : own_Len Z h0 a1626 .byte (3 : Int32)) (pV_a1626 : Arv Z h0 a1626 k1643 .byte (3 : Int32) [(.int (-1 : Int32)), (.int (-2 : Int32)), (.int (1 : Int32))] (.int (0 : Int32))) :
    MetFree l (⟨zs3, "isCmd", "([BII)Z"⟩ : MethodName) (head1 (Jvm.Cond.code (⟨zs3, "isCmd", "([BII)Z"⟩ : MethodName) method_2_code 3 (some .boolean) :: ws) ({ frames := 0, cells := 0, slots := 0, locals := 0 } : Room)) (fun a U => a = #[(.ref a1626), (.int (254 : Int32)), (.int (1 : Int32))] ∧ Z.Warmed39 U.vm ∧ U.heap = h0) (fun _ _ _ _ _ => True) (fun _ U o U' => ∃ v L, o = .returned v ∧ Q32 Z a1626 k1643 h0 n0 v U'.heap L ∧ FrameEnd U o U' L ({ frames := 0, cells := 0, slots := 0, locals := 0 } : Room).cells ({ frames := 0, cells := 0, slots := 0, locals := 0 } : Room).slots) := by
  refine MetFree.of_bodySF (plainFor_of_name pn_3) hisR ?_
  intro p e s m args below meth c s₁ Bd hml0 hP hK
  obtain ⟨rfl, hZ, hh⟩ := hP
  have hx := Bd.exec
  have hby := Bd.bytes
  have hml : c.maxLocals = 3 := hml0
  have hown : s.vm.findClass zs3 = some m.cls := findClass_of_methodNamed Bd.named
  have hnm := (name_of_methodNamed Bd.named Bd.method).1
  have X0 : Stand p l e ({ frames := 0, cells := 0, slots := 0, locals := 0 } : Room) s m #[(.ref a1626), (.int (254 : Int32)), (.int (1 : Int32))] below meth c s₁ [] 0 0 := Stand.of_body Bd
  have e0 : s₁.heap = h0 := by rw [← hh, Bd.state]; rfl
  have N0 := Fr.nil n0
  refine own_out ?_
  refine own_via (fun t k => castTop (ef_7 m a1626 (254 : Int32) (1 : Int32)) (XS.aloadN X0.here hx rfl (hb hby d8_0) rfl rfl (XS.ifnullNo X0.here hx rfl (hb hby d8_1) rfl (XS.aloadN X0.here hx rfl (hb hby d8_4) rfl rfl k)))) ?_
  show own_Goes p e below (s₁.setTop (mkF m 5 #[rv a1626, iv (254 : Int32), iv (1 : Int32)] [(.ref a1626)])) _
  obtain ⟨_, _, _, V1654⟩ := id (pL_a1626)
  obtain ⟨cl1654, Ar1654, -, S1654, M1654, -, -⟩ := id (V1654)
  refine own_via (fun t k => X0.arraylength hx (by rw [e0]; exact Ar1654.1) (State.isArrayOf_alike hZ.alike Ar1654.2.1) (g := (mkF m 5 #[rv a1626, iv (254 : Int32), iv (1 : Int32)] [(.ref a1626)])) rfl rfl (hb hby d8_5) t k) ?_
  rw [len_of S1654 M1654]
  show own_Goes p e below (s₁.setTop (mkF m 6 #[rv a1626, iv (254 : Int32), iv (1 : Int32)] [(.int (3 : Int32))])) _
  refine own_via (fun t k => XS.iconst X0.here hx rfl (hb hby d8_6) (XS.icmpNo X0.here hx rfl (hb hby d8_7) rfl (teq (by decide : (3 : Int32) = (3 : Int32))).2 (XS.aloadN X0.here hx rfl (hb hby d8_10) rfl rfl (XS.iconst X0.here hx rfl (hb hby d8_11) k)))) ?_
  show own_Goes p e below (s₁.setTop (mkF m 12 #[rv a1626, iv (254 : Int32), iv (1 : Int32)] [(.int (0 : Int32)), (.ref a1626)])) _
  obtain ⟨cl1655, Ar1655, qq1655, S1655, M1655, H1655, G1655⟩ := id (pV_a1626)
  have hin1655 : ¬ ((0 : Int32) < 0 ∨ cl1655.slots.size ≤ ((0 : Int32)).toNatClampNeg) := inb_of S1655 ⟨by decide, by decide⟩
  refine own_via (fun t k => X0.baloadBytes hx (j := (0 : Int32)) (v := (.int (-1 : Int32))) (by rw [e0]; exact Ar1655.1) (State.isArrayOf_alike hZ.alike Ar1655.2.1) Ar1655.2.2 hin1655 (Has.at H1655 hin1655 rfl) (g := (mkF m 12 #[rv a1626, iv (254 : Int32), iv (1 : Int32)] [(.int (0 : Int32)), (.ref a1626)])) rfl rfl (hb hby d8_12) t (XS.iconst X0.here hx rfl (hb hby d8_13) (XS.icmpNo X0.here hx rfl (hb hby d8_14) rfl (teq (by decide : (-1 : Int32) = (-1 : Int32))).2 (XS.aloadN X0.here hx rfl (hb hby d8_17) rfl rfl (XS.iconst X0.here hx rfl (hb hby d8_18) k))))) ?_
  show own_Goes p e below (s₁.setTop (mkF m 19 #[rv a1626, iv (254 : Int32), iv (1 : Int32)] [(.int (1 : Int32)), (.ref a1626)])) _
  obtain ⟨cl1656, Ar1656, qq1656, S1656, M1656, H1656, G1656⟩ := id (pV_a1626)
  have hin1656 : ¬ ((1 : Int32) < 0 ∨ cl1656.slots.size ≤ ((1 : Int32)).toNatClampNeg) := inb_of S1656 ⟨by decide, by decide⟩
  refine own_via (fun t k => X0.baloadBytes hx (j := (1 : Int32)) (v := (.int (-2 : Int32))) (by rw [e0]; exact Ar1656.1) (State.isArrayOf_alike hZ.alike Ar1656.2.1) Ar1656.2.2 hin1656 (Has.at H1656 hin1656 rfl) (g := (mkF m 19 #[rv a1626, iv (254 : Int32), iv (1 : Int32)] [(.int (1 : Int32)), (.ref a1626)])) rfl rfl (hb hby d8_19) t (XS.iloadN X0.here hx rfl (hb hby d8_20) rfl (XS.i2b X0.here hx rfl (hb hby d8_21) rfl (XS.icmpNo X0.here hx rfl (hb hby d8_22) rfl (teq (by decide : (-2 : Int32) = (-2 : Int32))).2 (XS.aloadN X0.here hx rfl (hb hby d8_25) rfl rfl (XS.iconst X0.here hx rfl (hb hby d8_26) k)))))) ?_
  show own_Goes p e below (s₁.setTop (mkF m 27 #[rv a1626, iv (254 : Int32), iv (1 : Int32)] [(.int (2 : Int32)), (.ref a1626)])) _
  obtain ⟨cl1657, Ar1657, qq1657, S1657, M1657, H1657, G1657⟩ := id (pV_a1626)
  have hin1657 : ¬ ((2 : Int32) < 0 ∨ cl1657.slots.size ≤ ((2 : Int32)).toNatClampNeg) := inb_of S1657 ⟨by decide, by decide⟩
  refine own_via (fun t k => X0.baloadBytes hx (j := (2 : Int32)) (v := (.int (1 : Int32))) (by rw [e0]; exact Ar1657.1) (State.isArrayOf_alike hZ.alike Ar1657.2.1) Ar1657.2.2 hin1657 (Has.at H1657 hin1657 rfl) (g := (mkF m 27 #[rv a1626, iv (254 : Int32), iv (1 : Int32)] [(.int (2 : Int32)), (.ref a1626)])) rfl rfl (hb hby d8_27) t (XS.iloadN X0.here hx rfl (hb hby d8_28) rfl (XS.i2b X0.here hx rfl (hb hby d8_29) rfl (XS.icmpNo X0.here hx rfl (hb hby d8_30) rfl (teq (by decide : (1 : Int32) = (1 : Int32))).2 (XS.iconst X0.here hx rfl (hb hby d8_33) (XS.goto X0.here hx rfl (pc0 := 34) (pc' := 38) rfl (hb hby d8_34) (by decide) (by decide) k)))))) ?_
  show own_Goes p e below (s₁.setTop (mkF m 38 #[rv a1626, iv (254 : Int32), iv (1 : Int32)] [(.int (1 : Int32))])) _
  obtain ⟨fs, hr, hrun, hended, hW, hsame⟩ := X0.leave (v := some (.int (1 : Int32))) (fun h => by rw [Bd.returns] at h; cases h)
  refine own_end (t := s₁.setFrames fs) ?_ ⟨_, hrun, hended, _, _, rfl, ?_, ⟨_, rfl⟩, hW, hsame.mono (by decide) (by decide)⟩
  · exact retN X0 hx (t := .boolean) Bd.returns (by simp) (hb hby d8_38) hr
  · show Q32 Z a1626 k1643 h0 n0 _ s₁.heap _
    rw [e0]
    exact ⟨rfl, N0, rfl⟩
set_option maxRecDepth 65536 in
set_option maxHeartbeats 40000000 in
theorem sfx4 (l : Launch) (Z : State) (a0 : Array Value) (hw : ∀ d ∈ tables_1, d.before a0 Z = true) (ws : List Jvm.Cond) {p : Program} {e : Env} {s : State} {m : MethodId} {below : List Frame} {meth : Method} {c : Code} {s₁ : State} (p1399 : Int32) (p1400 : Int32) (p1401 : Int32) (p1393 : Int32) (p1394 : Int32) (p1395 : Int32) (a1396 : Addr) (a1397 : Addr) (p1398 : Int32) (w6 : Addr) (a1402 : Addr) (a1403 : Addr) (k1406 : ClassId) (kc_w6 : ClassId) (Bd : BodyLoose p l x (head1 (Jvm.Cond.code x code maxLocals ret :: ws) room_1) code maxLocals ret e s m #[(.int p1399), (.int p1400), (.int p1401)] below meth c s₁) (hZ : Z.Warmed39 s.vm) (hml : c.maxLocals = 11) {T0 : State} {locs0 : List Loc} (X0 : Stand p l e room_1 s m #[(.int p1399), (.int p1400), (.int p1401)] below meth c T0 locs0 14 50) (h0 : Heap) (e0 : T0.heap = h0) (n0 : Nat) (O0 : Old Z n0 h0) (N0 : Fr n0 locs0) (pF_a1396_echoOffered : Fld Z h0 a1396 zs1 "echoOffered" "Z" (.int (1 : Int32))) (S_TelnetOptions_NO_ANSWER : Sta Z Z.heap zs1 "NO_ANSWER" "[B" (.ref w6)) (pF_a1396_refusedWill : Fld Z h0 a1396 zs1 "refusedWill" zs4 (.ref a1402)) (S_BitSet__assertionsDisabled : Sta Z Z.heap zs2 zs6 "Z" (.int (1 : Int32))) (pE_a1402 : Exa Z h0 a1402 zs2) (pF_a1402_wordsInUse : Fld Z h0 a1402 zs2 "wordsInUse" "I" (.int (0 : Int32))) (pF_a1402_words : Fld Z h0 a1402 zs2 "words" "[J" (.ref a1403)) (pL_a1403 : own_Len Z h0 a1403 .long (4 : Int32)) (pG_a1402 : n0 ≤ a1402) (pF_a1402_sizeIsSticky : Fld Z h0 a1402 zs2 zs5 "Z" (.int (1 : Int32))) (pV_a1403 : Arv Z h0 a1403 k1406 .long (4 : Int32) [] (.long (0 : Int64))) (pN_a1402_a1403 : a1402 ≠ a1403) (pG_a1403 : n0 ≤ a1403) (pE_a1396 : Exa Z h0 a1396 zs1) (SV_w6 : Arv Z Z.heap w6 kc_w6 .byte (0 : Int32) [] (.int (0 : Int32))) (pN_a1396_a1403 : a1396 ≠ a1403) (pN_a1396_a1402 : a1396 ≠ a1402) :
    own_Goes p e below (T0.setTop (mkF m 87 #[iv p1393, iv p1394, iv p1395, rv a1396, rv a1397, iv (1 : Int32), iv p1398, iv (1 : Int32), .unset, .unset, .unset] [])) (own_G s below n0) := by
  have hx := Bd.exec
  have hby := Bd.bytes
  have hown : s.vm.findClass zs3 = some m.cls := findClass_of_methodNamed Bd.named
  have hnm := (name_of_methodNamed Bd.named Bd.method).1
  show own_Goes p e below (T0.setTop (mkF m 87 #[iv p1393, iv p1394, iv p1395, rv a1396, rv a1397, iv (1 : Int32), iv p1398, iv (1 : Int32), .unset, .unset, .unset] [])) _
  refine own_via (fun t k => XS.aloadN X0.here hx rfl (hb hby at_87) rfl rfl (XS.iload X0.here hx rfl (hb hby at_88) rfl (XS.iload X0.here hx rfl (hb hby at_90) rfl k))) ?_
  show own_Goes p e below (T0.setTop (mkF m 92 #[iv p1393, iv p1394, iv p1395, rv a1396, rv a1397, iv (1 : Int32), iv p1398, iv (1 : Int32), .unset, .unset, .unset] [(.int (1 : Int32)), (.int p1398), (.ref a1396)])) _
  obtain ⟨_, T1415, _, X1415, hQ1415, st1415⟩ := own_cv X0 hx hZ hown (wd hw 50 rfl) (wd hw 51 rfl) (wd hw 53 rfl) (wd hw 52 rfl) (wd hw 54 rfl) (wd hw 2 rfl) (by decide) (rm31 l Z a0 hw [] a1396 p1398 w6 a1402 a1403 (1 : Int32) k1406 h0 n0 O0 pF_a1396_echoOffered S_TelnetOptions_NO_ANSWER pF_a1396_refusedWill S_BitSet__assertionsDisabled pE_a1402 pF_a1402_wordsInUse pF_a1402_words pL_a1403 pG_a1402 pF_a1402_sizeIsSticky pV_a1403 pN_a1402_a1403 pG_a1403) e0 pE_a1396 (g := (mkF m 92 #[iv p1393, iv p1394, iv p1395, rv a1396, rv a1397, iv (1 : Int32), iv p1398, iv (1 : Int32), .unset, .unset, .unset] [(.int (1 : Int32)), (.int p1398), (.ref a1396)])) rfl (by rw [hml]; rfl) (rest := []) (W := 0) (lenOf pd_4 rfl) rfl (by show 2 * 0 + _ ≤ _; exact Nat.le_of_eq rfl) (hb hby at_92) (by decide) (by decide) (by decide) (by decide)
  obtain ⟨h1415, e1415⟩ : ∃ z, T1415.heap = z := ⟨_, rfl⟩
  rw [e1415] at hQ1415
  rcases hQ1415 with ⟨hq1609, rfl, Nq1415, hh1610⟩ | ⟨b1611, k1612, hq1613, hq1614, rfl, Nq1415, K1415, ex1615, bx1616, vx1617⟩ | ⟨hq1618, hq1619, rfl, Nq1415, hh1620⟩
  · have N1415 := Fr.app N0 Nq1415
    refine own_via (fun t k => st1415 t (XS.astore X1415.here hx rfl (hb hby at_95) rfl rfl (l' := #[iv p1393, iv p1394, iv p1395, rv a1396, rv a1397, iv (1 : Int32), iv p1398, iv (1 : Int32), rv w6, .unset, .unset]) rfl (XS.iload X1415.here hx rfl (hb hby at_97) rfl (XS.sipush X1415.here hx rfl (hb hby at_99) (XS.icmpNo X1415.here hx rfl (hb hby at_102) rfl (teq hq1609).2 (XS.iload X1415.here hx rfl (hb hby at_105) rfl (XS.iconst X1415.here hx rfl (hb hby at_107) (XS.icmpNo X1415.here hx rfl (hb hby at_108) rfl (teq (by decide : (1 : Int32) = (1 : Int32))).2 (XS.aload X1415.here hx rfl (hb hby at_111) rfl rfl k))))))))) ?_
    show own_Goes p e below (T1415.setTop (mkF m 113 #[iv p1393, iv p1394, iv p1395, rv a1396, rv a1397, iv (1 : Int32), iv p1398, iv (1 : Int32), rv w6, .unset, .unset] [(.ref w6)])) _
    obtain ⟨_, T1621, _, X1621, hQ1621, st1621⟩ := own_cs X1415 hx hZ hown (wd hw 57 rfl) (wd hw 58 rfl) (wd hw 59 rfl) (wd hw 48 rfl) (by decide) (rm23 l Z a0 hw [] w6 kc_w6 h0 n0 O0 SV_w6) (e1415.trans hh1610) (g := (mkF m 113 #[iv p1393, iv p1394, iv p1395, rv a1396, rv a1397, iv (1 : Int32), iv p1398, iv (1 : Int32), rv w6, .unset, .unset] [(.ref w6)])) rfl (by rw [hml]; rfl) (rest := []) (W := 0) (lenOf pd_8 rfl) rfl (by show 2 * 0 + _ ≤ _; exact Nat.le_of_eq rfl) (hb hby at_113) (by decide) (by decide) (by decide) (by decide)
    obtain ⟨rfl, Nq1621, hh1622⟩ := hQ1621
    have N1621 := Fr.app N1415 Nq1621
    refine own_via (fun t k => st1621 t (XS.istore X1621.here hx rfl (hb hby at_116) rfl (l' := #[iv p1393, iv p1394, iv p1395, rv a1396, rv a1397, iv (1 : Int32), iv p1398, iv (1 : Int32), rv w6, iv (1 : Int32), .unset]) rfl (XS.goto X1621.here hx rfl (pc0 := 118) (pc' := 174) rfl (hb hby at_118) (by decide) (by decide) k))) ?_
    show own_Goes p e below (T1621.setTop (mkF m 174 #[iv p1393, iv p1394, iv p1395, rv a1396, rv a1397, iv (1 : Int32), iv p1398, iv (1 : Int32), rv w6, iv (1 : Int32), .unset] [])) _
    exact sfx1 l Z a0 hw ws p1399 p1400 p1401 p1393 p1394 p1395 a1396 a1397 p1398 (1 : Int32) w6 kc_w6 Bd hZ hml (X1621.more (by decide) (by decide)) h0 hh1622 n0 O0 N1621 pF_a1396_echoOffered S_TelnetOptions_NO_ANSWER pE_a1396 SV_w6
  · have N1415 := Fr.app N0 Nq1415
    have g1623 : n0 ≤ b1611 := Nat.le_trans (own_old O0) bx1616
    have B1624 : h0.size ≤ b1611 := Nat.le_trans (Nat.le_refl _) bx1616
    refine own_via (fun t k => st1415 t (XS.astore X1415.here hx rfl (hb hby at_95) rfl rfl (l' := #[iv p1393, iv p1394, iv p1395, rv a1396, rv a1397, iv (1 : Int32), iv p1398, iv (1 : Int32), rv b1611, .unset, .unset]) rfl (XS.iload X1415.here hx rfl (hb hby at_97) rfl (XS.sipush X1415.here hx rfl (hb hby at_99) (XS.icmpYes X1415.here hx rfl (pc0 := 102) (pc' := 121) rfl (hb hby at_102) rfl (feq hq1613).2 (by decide) (by decide) (XS.iload X1415.here hx rfl (hb hby at_121) rfl (XS.sipush X1415.here hx rfl (hb hby at_123) (XS.icmpNo X1415.here hx rfl (hb hby at_126) rfl (teq hq1614).2 (XS.aload X1415.here hx rfl (hb hby at_129) rfl rfl (XS.sipush X1415.here hx rfl (hb hby at_131) (XS.iload X1415.here hx rfl (hb hby at_134) rfl k))))))))))) ?_
    show own_Goes p e below (T1415.setTop (mkF m 136 #[iv p1393, iv p1394, iv p1395, rv a1396, rv a1397, iv (1 : Int32), iv p1398, iv (1 : Int32), rv b1611, .unset, .unset] [(.int (1 : Int32)), (.int (254 : Int32)), (.ref b1611)])) _
    have l1658 : own_Len Z h1415 b1611 .byte (3 : Int32) := ⟨_, _, _, vx1617⟩
    have O1659 : Old Z n0 h1415 := (O0.keep K1415 (allS pG_a1402 (allS pG_a1403 all0)))
    obtain ⟨_, T1625, _, X1625, hQ1625, st1625⟩ := own_cs X1415 hx hZ hown (wd hw 46 rfl) (wd hw 47 rfl) (wd hw 49 rfl) (wd hw 48 rfl) (by decide) (rm32 l Z a0 hw [] b1611 k1612 h1415 n0 O1659 l1658 vx1617) e1415 (g := (mkF m 136 #[iv p1393, iv p1394, iv p1395, rv a1396, rv a1397, iv (1 : Int32), iv p1398, iv (1 : Int32), rv b1611, .unset, .unset] [(.int (1 : Int32)), (.int (254 : Int32)), (.ref b1611)])) rfl (by rw [hml]; rfl) (rest := []) (W := 0) (lenOf pd_6 rfl) rfl (by show 2 * 0 + _ ≤ _; exact Nat.le_of_eq rfl) (hb hby at_136) (by decide) (by decide) (by decide) (by decide)
    obtain ⟨rfl, Nq1625, hh1660⟩ := hQ1625
    have N1625 := Fr.app N1415 Nq1625
    refine own_via (fun t k => st1625 t (XS.istore X1625.here hx rfl (hb hby at_139) rfl (l' := #[iv p1393, iv p1394, iv p1395, rv a1396, rv a1397, iv (1 : Int32), iv p1398, iv (1 : Int32), rv b1611, iv (1 : Int32), .unset]) rfl (XS.goto X1625.here hx rfl (pc0 := 141) (pc' := 174) rfl (hb hby at_141) (by decide) (by decide) k))) ?_
    show own_Goes p e below (T1625.setTop (mkF m 174 #[iv p1393, iv p1394, iv p1395, rv a1396, rv a1397, iv (1 : Int32), iv p1398, iv (1 : Int32), rv b1611, iv (1 : Int32), .unset] [])) _
    have F1661 : Fld Z h1415 a1396 zs1 "echoOffered" "Z" (.int (1 : Int32)) := (pF_a1396_echoOffered.keep K1415 (ninS pN_a1396_a1402 (ninS pN_a1396_a1403 nin0)))
    have E1662 : Exa Z h1415 a1396 zs1 := (pE_a1396.keep K1415)
    exact sfx2 l Z a0 hw ws p1399 p1400 p1401 p1393 p1394 p1395 a1396 a1397 p1398 (1 : Int32) b1611 w6 kc_w6 Bd hZ hml (X1625.more (by decide) (by decide)) h1415 hh1660 n0 O1659 N1625 F1661 S_TelnetOptions_NO_ANSWER E1662 SV_w6
  · have N1415 := Fr.app N0 Nq1415
    refine own_via (fun t k => st1415 t (XS.astore X1415.here hx rfl (hb hby at_95) rfl rfl (l' := #[iv p1393, iv p1394, iv p1395, rv a1396, rv a1397, iv (1 : Int32), iv p1398, iv (1 : Int32), rv w6, .unset, .unset]) rfl (XS.iload X1415.here hx rfl (hb hby at_97) rfl (XS.sipush X1415.here hx rfl (hb hby at_99) (XS.icmpYes X1415.here hx rfl (pc0 := 102) (pc' := 121) rfl (hb hby at_102) rfl (feq hq1618).2 (by decide) (by decide) (XS.iload X1415.here hx rfl (hb hby at_121) rfl (XS.sipush X1415.here hx rfl (hb hby at_123) (XS.icmpYes X1415.here hx rfl (pc0 := 126) (pc' := 144) rfl (hb hby at_126) rfl (feq hq1619).2 (by decide) (by decide) (XS.iload X1415.here hx rfl (hb hby at_144) rfl (XS.sipush X1415.here hx rfl (hb hby at_146) (XS.icmpYes X1415.here hx rfl (pc0 := 149) (pc' := 167) rfl (hb hby at_149) rfl (feq hq1618).2 (by decide) (by decide) (XS.aload X1415.here hx rfl (hb hby at_167) rfl rfl k)))))))))))) ?_
    show own_Goes p e below (T1415.setTop (mkF m 169 #[iv p1393, iv p1394, iv p1395, rv a1396, rv a1397, iv (1 : Int32), iv p1398, iv (1 : Int32), rv w6, .unset, .unset] [(.ref w6)])) _
    obtain ⟨_, T1663, _, X1663, hQ1663, st1663⟩ := own_cs X1415 hx hZ hown (wd hw 57 rfl) (wd hw 58 rfl) (wd hw 59 rfl) (wd hw 48 rfl) (by decide) (rm23 l Z a0 hw [] w6 kc_w6 h0 n0 O0 SV_w6) (e1415.trans hh1620) (g := (mkF m 169 #[iv p1393, iv p1394, iv p1395, rv a1396, rv a1397, iv (1 : Int32), iv p1398, iv (1 : Int32), rv w6, .unset, .unset] [(.ref w6)])) rfl (by rw [hml]; rfl) (rest := []) (W := 0) (lenOf pd_8 rfl) rfl (by show 2 * 0 + _ ≤ _; exact Nat.le_of_eq rfl) (hb hby at_169) (by decide) (by decide) (by decide) (by decide)
    obtain ⟨rfl, Nq1663, hh1664⟩ := hQ1663
    have N1663 := Fr.app N1415 Nq1663
    refine own_via (fun t k => st1663 t (XS.istore X1663.here hx rfl (hb hby at_172) rfl (l' := #[iv p1393, iv p1394, iv p1395, rv a1396, rv a1397, iv (1 : Int32), iv p1398, iv (1 : Int32), rv w6, iv (1 : Int32), .unset]) rfl k)) ?_
    exact sfx1 l Z a0 hw ws p1399 p1400 p1401 p1393 p1394 p1395 a1396 a1397 p1398 (1 : Int32) w6 kc_w6 Bd hZ hml (X1663.more (by decide) (by decide)) h0 hh1664 n0 O0 N1663 pF_a1396_echoOffered S_TelnetOptions_NO_ANSWER pE_a1396 SV_w6
set_option maxRecDepth 65536 in
set_option maxHeartbeats 40000000 in
theorem sfx5 (l : Launch) (Z : State) (a0 : Array Value) (hw : ∀ d ∈ tables_1, d.before a0 Z = true) (ws : List Jvm.Cond) {p : Program} {e : Env} {s : State} {m : MethodId} {below : List Frame} {meth : Method} {c : Code} {s₁ : State} (p357 : Int32) (p358 : Int32) (p359 : Int32) (p351 : Int32) (p352 : Int32) (p353 : Int32) (a354 : Addr) (a355 : Addr) (p356 : Int32) (w6 : Addr) (a362 : Addr) (a363 : Addr) (k365 : ClassId) (a360 : Addr) (a361 : Addr) (k364 : ClassId) (kc_w6 : ClassId) (Bd : BodyLoose p l x (head1 (Jvm.Cond.code x code maxLocals ret :: ws) room_1) code maxLocals ret e s m #[(.int p357), (.int p358), (.int p359)] below meth c s₁) (hZ : Z.Warmed39 s.vm) (hml : c.maxLocals = 11) {T0 : State} {locs0 : List Loc} (X0 : Stand p l e room_1 s m #[(.int p357), (.int p358), (.int p359)] below meth c T0 locs0 14 50) (h0 : Heap) (e0 : T0.heap = h0) (n0 : Nat) (O0 : Old Z n0 h0) (N0 : Fr n0 locs0) (pF_a354_echoOffered : Fld Z h0 a354 zs1 "echoOffered" "Z" (.int (1 : Int32))) (S_TelnetOptions_NO_ANSWER : Sta Z Z.heap zs1 "NO_ANSWER" "[B" (.ref w6)) (pF_a354_gmcpOffered : Fld Z h0 a354 zs1 "gmcpOffered" "Z" (.int (0 : Int32))) (pF_a354_gmcpOn : Fld Z h0 a354 zs1 "gmcpOn" "Z" (.int (0 : Int32))) (pF_a354_refusedDo : Fld Z h0 a354 zs1 "refusedDo" zs4 (.ref a362)) (S_BitSet__assertionsDisabled : Sta Z Z.heap zs2 zs6 "Z" (.int (1 : Int32))) (pE_a362 : Exa Z h0 a362 zs2) (pF_a362_wordsInUse : Fld Z h0 a362 zs2 "wordsInUse" "I" (.int (0 : Int32))) (pF_a362_words : Fld Z h0 a362 zs2 "words" "[J" (.ref a363)) (pL_a363 : own_Len Z h0 a363 .long (4 : Int32)) (pG_a362 : n0 ≤ a362) (pF_a362_sizeIsSticky : Fld Z h0 a362 zs2 zs5 "Z" (.int (1 : Int32))) (pV_a363 : Arv Z h0 a363 k365 .long (4 : Int32) [] (.long (0 : Int64))) (pN_a362_a363 : a362 ≠ a363) (pG_a363 : n0 ≤ a363) (pF_a354_refusedWill : Fld Z h0 a354 zs1 "refusedWill" zs4 (.ref a360)) (pE_a360 : Exa Z h0 a360 zs2) (pF_a360_wordsInUse : Fld Z h0 a360 zs2 "wordsInUse" "I" (.int (0 : Int32))) (pF_a360_words : Fld Z h0 a360 zs2 "words" "[J" (.ref a361)) (pL_a361 : own_Len Z h0 a361 .long (4 : Int32)) (pG_a360 : n0 ≤ a360) (pF_a360_sizeIsSticky : Fld Z h0 a360 zs2 zs5 "Z" (.int (1 : Int32))) (pV_a361 : Arv Z h0 a361 k364 .long (4 : Int32) [] (.long (0 : Int64))) (pN_a360_a361 : a360 ≠ a361) (pG_a361 : n0 ≤ a361) (pE_a354 : Exa Z h0 a354 zs1) (SV_w6 : Arv Z Z.heap w6 kc_w6 .byte (0 : Int32) [] (.int (0 : Int32))) (pN_a354_a363 : a354 ≠ a363) (pN_a354_a362 : a354 ≠ a362) (pN_a354_a361 : a354 ≠ a361) (pN_a354_a360 : a354 ≠ a360) :
    own_Goes p e below (T0.setTop (mkF m 69 #[iv p351, iv p352, iv p353, rv a354, rv a355, iv (1 : Int32), iv p356, .unset, .unset, .unset, .unset] [])) (own_G s below n0) := by
  have hx := Bd.exec
  have hby := Bd.bytes
  have hown : s.vm.findClass zs3 = some m.cls := findClass_of_methodNamed Bd.named
  have hnm := (name_of_methodNamed Bd.named Bd.method).1
  show own_Goes p e below (T0.setTop (mkF m 69 #[iv p351, iv p352, iv p353, rv a354, rv a355, iv (1 : Int32), iv p356, .unset, .unset, .unset, .unset] [])) _
  refine own_via (fun t k => XS.iloadN X0.here hx rfl (hb hby at_69) rfl (XS.bipush X0.here hx rfl (hb hby at_70) (XS.iand X0.here hx rfl (hb hby at_72) rfl k))) ?_
  show own_Goes p e below (T0.setTop (mkF m 73 #[iv p351, iv p352, iv p353, rv a354, rv a355, iv (1 : Int32), iv p356, .unset, .unset, .unset, .unset] [(.int (p351 &&& (8 : Int32)))])) _
  by_cases hc372 : (p351 &&& (8 : Int32)) = (0 : Int32)
  · refine own_via (fun t k => XS.ifYes X0.here hx rfl (pc0 := 73) (pc' := 80) rfl (hb hby at_73) rfl ((if0 _ _).trans (teq hc372).1) (by decide) (by decide) (XS.iloadN X0.here hx rfl (hb hby at_80) rfl (XS.sipush X0.here hx rfl (hb hby at_81) (XS.iand X0.here hx rfl (hb hby at_84) rfl (XS.istore X0.here hx rfl (hb hby at_85) rfl (l' := #[iv p351, iv p352, iv p353, rv a354, rv a355, iv (1 : Int32), iv p356, iv (p353 &&& (255 : Int32)), .unset, .unset, .unset]) rfl k))))) ?_
    show own_Goes p e below (T0.setTop (mkF m 87 #[iv p351, iv p352, iv p353, rv a354, rv a355, iv (1 : Int32), iv p356, iv (p353 &&& (255 : Int32)), .unset, .unset, .unset] [])) _
    exact sfx3 l Z a0 hw ws p357 p358 p359 p351 p352 p353 a354 a355 p356 (p353 &&& (255 : Int32)) w6 a362 a363 k365 a360 a361 k364 kc_w6 Bd hZ hml X0 h0 e0 n0 O0 N0 pF_a354_echoOffered S_TelnetOptions_NO_ANSWER pF_a354_gmcpOffered pF_a354_gmcpOn pF_a354_refusedDo (own_nn_mask p353 (255 : Int32) 8 (by decide) (by decide)) S_BitSet__assertionsDisabled pE_a362 pF_a362_wordsInUse (own_lt_mask p353 (255 : Int32) 8 (by decide) (by decide) (by decide)) pF_a362_words pL_a363 pG_a362 pF_a362_sizeIsSticky pV_a363 pN_a362_a363 pG_a363 pF_a354_refusedWill pE_a360 pF_a360_wordsInUse pF_a360_words pL_a361 pG_a360 pF_a360_sizeIsSticky pV_a361 pN_a360_a361 pG_a361 pE_a354 SV_w6 pN_a354_a363 pN_a354_a362 pN_a354_a361 pN_a354_a360
  · refine own_via (fun t k => XS.ifNo X0.here hx rfl (hb hby at_73) rfl ((if0 _ _).trans (feq hc372).1) (XS.iconst X0.here hx rfl (hb hby at_76) (XS.goto X0.here hx rfl (pc0 := 77) (pc' := 85) rfl (hb hby at_77) (by decide) (by decide) (XS.istore X0.here hx rfl (hb hby at_85) rfl (l' := #[iv p351, iv p352, iv p353, rv a354, rv a355, iv (1 : Int32), iv p356, iv (1 : Int32), .unset, .unset, .unset]) rfl k)))) ?_
    show own_Goes p e below (T0.setTop (mkF m 87 #[iv p351, iv p352, iv p353, rv a354, rv a355, iv (1 : Int32), iv p356, iv (1 : Int32), .unset, .unset, .unset] [])) _
    exact sfx4 l Z a0 hw ws p357 p358 p359 p351 p352 p353 a354 a355 p356 w6 a360 a361 k364 kc_w6 Bd hZ hml X0 h0 e0 n0 O0 N0 pF_a354_echoOffered S_TelnetOptions_NO_ANSWER pF_a354_refusedWill S_BitSet__assertionsDisabled pE_a360 pF_a360_wordsInUse pF_a360_words pL_a361 pG_a360 pF_a360_sizeIsSticky pV_a361 pN_a360_a361 pG_a361 pE_a354 SV_w6 pN_a354_a361 pN_a354_a360
set_option maxRecDepth 65536 in
set_option maxHeartbeats 40000000 in
theorem sfx6 (l : Launch) (Z : State) (a0 : Array Value) (hw : ∀ d ∈ tables_1, d.before a0 Z = true) (ws : List Jvm.Cond) {p : Program} {e : Env} {s : State} {m : MethodId} {below : List Frame} {meth : Method} {c : Code} {s₁ : State} (p309 : Int32) (p310 : Int32) (p311 : Int32) (p304 : Int32) (p305 : Int32) (p306 : Int32) (a307 : Addr) (a308 : Addr) (k318 : ClassId) (w6 : Addr) (a314 : Addr) (a315 : Addr) (k317 : ClassId) (a312 : Addr) (a313 : Addr) (k316 : ClassId) (kc_w6 : ClassId) (Bd : BodyLoose p l x (head1 (Jvm.Cond.code x code maxLocals ret :: ws) room_1) code maxLocals ret e s m #[(.int p309), (.int p310), (.int p311)] below meth c s₁) (hZ : Z.Warmed39 s.vm) (hml : c.maxLocals = 11) {T0 : State} {locs0 : List Loc} (X0 : Stand p l e room_1 s m #[(.int p309), (.int p310), (.int p311)] below meth c T0 locs0 14 50) (h0 : Heap) (e0 : T0.heap = h0) (n0 : Nat) (O0 : Old Z n0 h0) (N0 : Fr n0 locs0) (pL_a308 : own_Len Z h0 a308 .byte (3 : Int32)) (pV_a308 : Arv Z h0 a308 k318 .byte (3 : Int32) [(.int (-1 : Int32)), (.int (-5 : Int32)), (.int (1 : Int32))] (.int (0 : Int32))) (pF_a307_echoOffered : Fld Z h0 a307 zs1 "echoOffered" "Z" (.int (1 : Int32))) (S_TelnetOptions_NO_ANSWER : Sta Z Z.heap zs1 "NO_ANSWER" "[B" (.ref w6)) (pF_a307_gmcpOffered : Fld Z h0 a307 zs1 "gmcpOffered" "Z" (.int (0 : Int32))) (pF_a307_gmcpOn : Fld Z h0 a307 zs1 "gmcpOn" "Z" (.int (0 : Int32))) (pF_a307_refusedDo : Fld Z h0 a307 zs1 "refusedDo" zs4 (.ref a314)) (S_BitSet__assertionsDisabled : Sta Z Z.heap zs2 zs6 "Z" (.int (1 : Int32))) (pE_a314 : Exa Z h0 a314 zs2) (pF_a314_wordsInUse : Fld Z h0 a314 zs2 "wordsInUse" "I" (.int (0 : Int32))) (pF_a314_words : Fld Z h0 a314 zs2 "words" "[J" (.ref a315)) (pL_a315 : own_Len Z h0 a315 .long (4 : Int32)) (pG_a314 : n0 ≤ a314) (pF_a314_sizeIsSticky : Fld Z h0 a314 zs2 zs5 "Z" (.int (1 : Int32))) (pV_a315 : Arv Z h0 a315 k317 .long (4 : Int32) [] (.long (0 : Int64))) (pN_a314_a315 : a314 ≠ a315) (pG_a315 : n0 ≤ a315) (pF_a307_refusedWill : Fld Z h0 a307 zs1 "refusedWill" zs4 (.ref a312)) (pE_a312 : Exa Z h0 a312 zs2) (pF_a312_wordsInUse : Fld Z h0 a312 zs2 "wordsInUse" "I" (.int (0 : Int32))) (pF_a312_words : Fld Z h0 a312 zs2 "words" "[J" (.ref a313)) (pL_a313 : own_Len Z h0 a313 .long (4 : Int32)) (pG_a312 : n0 ≤ a312) (pF_a312_sizeIsSticky : Fld Z h0 a312 zs2 zs5 "Z" (.int (1 : Int32))) (pV_a313 : Arv Z h0 a313 k316 .long (4 : Int32) [] (.long (0 : Int64))) (pN_a312_a313 : a312 ≠ a313) (pG_a313 : n0 ≤ a313) (pE_a307 : Exa Z h0 a307 zs1) (SV_w6 : Arv Z Z.heap w6 kc_w6 .byte (0 : Int32) [] (.int (0 : Int32))) (pN_a307_a315 : a307 ≠ a315) (pN_a307_a314 : a307 ≠ a314) (pN_a307_a313 : a307 ≠ a313) (pN_a307_a312 : a307 ≠ a312) :
    own_Goes p e below (T0.setTop (mkF m 36 #[iv p304, iv p305, iv p306, rv a307, rv a308, .unset, .unset, .unset, .unset, .unset, .unset] [])) (own_G s below n0) := by
  have hx := Bd.exec
  have hby := Bd.bytes
  have hown : s.vm.findClass zs3 = some m.cls := findClass_of_methodNamed Bd.named
  have hnm := (name_of_methodNamed Bd.named Bd.method).1
  show own_Goes p e below (T0.setTop (mkF m 36 #[iv p304, iv p305, iv p306, rv a307, rv a308, .unset, .unset, .unset, .unset, .unset, .unset] [])) _
  refine own_via (fun t k => XS.aload X0.here hx rfl (hb hby at_36) rfl rfl (XS.sipush X0.here hx rfl (hb hby at_38) (XS.iconst X0.here hx rfl (hb hby at_41) k))) ?_
  show own_Goes p e below (T0.setTop (mkF m 42 #[iv p304, iv p305, iv p306, rv a307, rv a308, .unset, .unset, .unset, .unset, .unset, .unset] [(.int (1 : Int32)), (.int (251 : Int32)), (.ref a308)])) _
  obtain ⟨_, T323, _, X323, hQ323, st323⟩ := own_cs X0 hx hZ hown (wd hw 46 rfl) (wd hw 47 rfl) (wd hw 49 rfl) (wd hw 48 rfl) (by decide) (rm7 l Z a0 hw [] a308 k318 h0 n0 O0 pL_a308 pV_a308) e0 (g := (mkF m 42 #[iv p304, iv p305, iv p306, rv a307, rv a308, .unset, .unset, .unset, .unset, .unset, .unset] [(.int (1 : Int32)), (.int (251 : Int32)), (.ref a308)])) rfl (by rw [hml]; rfl) (rest := []) (W := 0) (lenOf pd_6 rfl) rfl (by show 2 * 0 + _ ≤ _; exact Nat.le_of_eq rfl) (hb hby at_42) (by decide) (by decide) (by decide) (by decide)
  obtain ⟨rfl, Nq323, hh349⟩ := hQ323
  have N323 := Fr.app N0 Nq323
  refine own_via (fun t k => st323 t (XS.istore X323.here hx rfl (hb hby at_45) rfl (l' := #[iv p304, iv p305, iv p306, rv a307, rv a308, iv (1 : Int32), .unset, .unset, .unset, .unset, .unset]) rfl (XS.iloadN X323.here hx rfl (hb hby at_47) rfl (XS.iconst X323.here hx rfl (hb hby at_48) (XS.iand X323.here hx rfl (hb hby at_49) rfl k))))) ?_
  show own_Goes p e below (T323.setTop (mkF m 50 #[iv p304, iv p305, iv p306, rv a307, rv a308, iv (1 : Int32), .unset, .unset, .unset, .unset, .unset] [(.int (p304 &&& (4 : Int32)))])) _
  by_cases hc350 : (p304 &&& (4 : Int32)) = (0 : Int32)
  · refine own_via (fun t k => XS.ifYes X323.here hx rfl (pc0 := 50) (pc' := 66) rfl (hb hby at_50) rfl ((if0 _ _).trans (teq hc350).1) (by decide) (by decide) (XS.iloadN X323.here hx rfl (hb hby at_66) rfl (XS.istore X323.here hx rfl (hb hby at_67) rfl (l' := #[iv p304, iv p305, iv p306, rv a307, rv a308, iv (1 : Int32), iv p305, .unset, .unset, .unset, .unset]) rfl k))) ?_
    show own_Goes p e below (T323.setTop (mkF m 69 #[iv p304, iv p305, iv p306, rv a307, rv a308, iv (1 : Int32), iv p305, .unset, .unset, .unset, .unset] [])) _
    exact sfx5 l Z a0 hw ws p309 p310 p311 p304 p305 p306 a307 a308 p305 w6 a314 a315 k317 a312 a313 k316 kc_w6 Bd hZ hml X323 h0 hh349 n0 O0 N323 pF_a307_echoOffered S_TelnetOptions_NO_ANSWER pF_a307_gmcpOffered pF_a307_gmcpOn pF_a307_refusedDo S_BitSet__assertionsDisabled pE_a314 pF_a314_wordsInUse pF_a314_words pL_a315 pG_a314 pF_a314_sizeIsSticky pV_a315 pN_a314_a315 pG_a315 pF_a307_refusedWill pE_a312 pF_a312_wordsInUse pF_a312_words pL_a313 pG_a312 pF_a312_sizeIsSticky pV_a313 pN_a312_a313 pG_a313 pE_a307 SV_w6 pN_a307_a315 pN_a307_a314 pN_a307_a313 pN_a307_a312
  · refine own_via (fun t k => XS.ifNo X323.here hx rfl (hb hby at_50) rfl ((if0 _ _).trans (feq hc350).1) (XS.sipush X323.here hx rfl (hb hby at_53) (XS.iloadN X323.here hx rfl (hb hby at_56) rfl (X323.ldcInt hx hown (mvT hZ (wd hw 65 rfl)) (g := (mkF m 57 #[iv p304, iv p305, iv p306, rv a307, rv a308, iv (1 : Int32), .unset, .unset, .unset, .unset, .unset] [(.int p305), (.int (251 : Int32))])) rfl (hb hby at_57) t (XS.iand X323.here hx rfl (hb hby at_59) rfl (XS.iconst X323.here hx rfl (hb hby at_60) (iremM (g := (mkF m 61 #[iv p304, iv p305, iv p306, rv a307, rv a308, iv (1 : Int32), .unset, .unset, .unset, .unset, .unset] [(.int (5 : Int32)), (.int (p305 &&& (2147483647 : Int32))), (.int (251 : Int32))])) X323 hx rfl (hb hby at_61) rfl (by decide) (XS.iadd X323.here hx rfl (hb hby at_62) rfl (XS.goto X323.here hx rfl (pc0 := 63) (pc' := 67) rfl (hb hby at_63) (by decide) (by decide) (XS.istore X323.here hx rfl (hb hby at_67) rfl (l' := #[iv p304, iv p305, iv p306, rv a307, rv a308, iv (1 : Int32), iv ((251 : Int32) + ((p305 &&& (2147483647 : Int32)) % (5 : Int32))), .unset, .unset, .unset, .unset]) rfl k)))))))))) ?_
    show own_Goes p e below (T323.setTop (mkF m 69 #[iv p304, iv p305, iv p306, rv a307, rv a308, iv (1 : Int32), iv ((251 : Int32) + ((p305 &&& (2147483647 : Int32)) % (5 : Int32))), .unset, .unset, .unset, .unset] [])) _
    exact sfx5 l Z a0 hw ws p309 p310 p311 p304 p305 p306 a307 a308 ((251 : Int32) + ((p305 &&& (2147483647 : Int32)) % (5 : Int32))) w6 a314 a315 k317 a312 a313 k316 kc_w6 Bd hZ hml X323 h0 hh349 n0 O0 N323 pF_a307_echoOffered S_TelnetOptions_NO_ANSWER pF_a307_gmcpOffered pF_a307_gmcpOn pF_a307_refusedDo S_BitSet__assertionsDisabled pE_a314 pF_a314_wordsInUse pF_a314_words pL_a315 pG_a314 pF_a314_sizeIsSticky pV_a315 pN_a314_a315 pG_a315 pF_a307_refusedWill pE_a312 pF_a312_wordsInUse pF_a312_words pL_a313 pG_a312 pF_a312_sizeIsSticky pV_a313 pN_a312_a313 pG_a313 pE_a307 SV_w6 pN_a307_a315 pN_a307_a314 pN_a307_a313 pN_a307_a312
set_option maxRecDepth 65536 in
set_option maxHeartbeats 40000000 in
theorem sfx7 (l : Launch) (Z : State) (a0 : Array Value) (hw : ∀ d ∈ tables_1, d.before a0 Z = true) (ws : List Jvm.Cond) {p : Program} {e : Env} {s : State} {m : MethodId} {below : List Frame} {meth : Method} {c : Code} {s₁ : State} (p210 : Int32) (p211 : Int32) (p212 : Int32) (p206 : Int32) (p207 : Int32) (p208 : Int32) (a209 : Addr) (a213 : Addr) (a215 : Addr) (w6 : Addr) (a216 : Addr) (k218 : ClassId) (a214 : Addr) (k217 : ClassId) (kc_w6 : ClassId) (Bd : BodyLoose p l x (head1 (Jvm.Cond.code x code maxLocals ret :: ws) room_1) code maxLocals ret e s m #[(.int p210), (.int p211), (.int p212)] below meth c s₁) (hZ : Z.Warmed39 s.vm) (hml : c.maxLocals = 11) {T0 : State} {locs0 : List Loc} (X0 : Stand p l e room_1 s m #[(.int p210), (.int p211), (.int p212)] below meth c T0 locs0 8 32) (h0 : Heap) (e0 : T0.heap = h0) (n0 : Nat) (O0 : Old Z n0 h0) (N0 : Fr n0 locs0) (pF_a209_echoOffered : Fld Z h0 a209 zs1 "echoOffered" "Z" (.int (0 : Int32))) (pE_a209 : Exa Z h0 a209 zs1) (pG_a209 : n0 ≤ a209) (pF_a209_refusedWill : Fld Z h0 a209 zs1 "refusedWill" zs4 (.ref a213)) (pF_a209_refusedDo : Fld Z h0 a209 zs1 "refusedDo" zs4 (.ref a215)) (pF_a209_gmcpOffered : Fld Z h0 a209 zs1 "gmcpOffered" "Z" (.int (0 : Int32))) (pF_a209_gmcpOn : Fld Z h0 a209 zs1 "gmcpOn" "Z" (.int (0 : Int32))) (S_TelnetOptions_NO_ANSWER : Sta Z Z.heap zs1 "NO_ANSWER" "[B" (.ref w6)) (S_BitSet__assertionsDisabled : Sta Z Z.heap zs2 zs6 "Z" (.int (1 : Int32))) (pE_a215 : Exa Z h0 a215 zs2) (pF_a215_wordsInUse : Fld Z h0 a215 zs2 "wordsInUse" "I" (.int (0 : Int32))) (pN_a209_a215 : a209 ≠ a215) (pF_a215_words : Fld Z h0 a215 zs2 "words" "[J" (.ref a216)) (pL_a216 : own_Len Z h0 a216 .long (4 : Int32)) (pN_a209_a216 : a209 ≠ a216) (pG_a215 : n0 ≤ a215) (pF_a215_sizeIsSticky : Fld Z h0 a215 zs2 zs5 "Z" (.int (1 : Int32))) (pV_a216 : Arv Z h0 a216 k218 .long (4 : Int32) [] (.long (0 : Int64))) (pN_a215_a216 : a215 ≠ a216) (pG_a216 : n0 ≤ a216) (pE_a213 : Exa Z h0 a213 zs2) (pF_a213_wordsInUse : Fld Z h0 a213 zs2 "wordsInUse" "I" (.int (0 : Int32))) (pN_a209_a213 : a209 ≠ a213) (pF_a213_words : Fld Z h0 a213 zs2 "words" "[J" (.ref a214)) (pL_a214 : own_Len Z h0 a214 .long (4 : Int32)) (pN_a209_a214 : a209 ≠ a214) (pG_a213 : n0 ≤ a213) (pF_a213_sizeIsSticky : Fld Z h0 a213 zs2 zs5 "Z" (.int (1 : Int32))) (pV_a214 : Arv Z h0 a214 k217 .long (4 : Int32) [] (.long (0 : Int64))) (pN_a213_a214 : a213 ≠ a214) (pG_a214 : n0 ≤ a214) (SV_w6 : Arv Z Z.heap w6 kc_w6 .byte (0 : Int32) [] (.int (0 : Int32))) :
    own_Goes p e below (T0.setTop (mkF m 19 #[iv p206, iv p207, iv p208, rv a209, .unset, .unset, .unset, .unset, .unset, .unset, .unset] [])) (own_G s below n0) := by
  have hx := Bd.exec
  have hby := Bd.bytes
  have hown : s.vm.findClass zs3 = some m.cls := findClass_of_methodNamed Bd.named
  have hnm := (name_of_methodNamed Bd.named Bd.method).1
  show own_Goes p e below (T0.setTop (mkF m 19 #[iv p206, iv p207, iv p208, rv a209, .unset, .unset, .unset, .unset, .unset, .unset, .unset] [])) _
  refine own_via (fun t k => XS.iloadN X0.here hx rfl (hb hby at_19) rfl (XS.iconst X0.here hx rfl (hb hby at_20) (XS.iand X0.here hx rfl (hb hby at_21) rfl k))) ?_
  show own_Goes p e below (T0.setTop (mkF m 22 #[iv p206, iv p207, iv p208, rv a209, .unset, .unset, .unset, .unset, .unset, .unset, .unset] [(.int (p206 &&& (2 : Int32)))])) _
  by_cases hc222 : (p206 &&& (2 : Int32)) = (0 : Int32)
  · refine own_via (fun t k => XS.ifYes X0.here hx rfl (pc0 := 22) (pc' := 30) rfl (hb hby at_22) rfl ((if0 _ _).trans (teq hc222).1) (by decide) (by decide) (XS.aloadN X0.here hx rfl (hb hby at_30) rfl rfl k)) ?_
    obtain ⟨_, T223, _, X223, hQ223, st223⟩ := own_cv X0 hx hZ hown (wd hw 35 rfl) (wd hw 36 rfl) (wd hw 38 rfl) (wd hw 37 rfl) (wd hw 39 rfl) (wd hw 2 rfl) (by decide) (rm6 l Z a0 hw [] a209 (0 : Int32) a213 a215 (0 : Int32) (0 : Int32) h0 n0 O0 pF_a209_echoOffered pE_a209 pG_a209 pF_a209_refusedWill pF_a209_refusedDo pF_a209_gmcpOffered pF_a209_gmcpOn) e0 pE_a209 (g := (mkF m 31 #[iv p206, iv p207, iv p208, rv a209, .unset, .unset, .unset, .unset, .unset, .unset, .unset] [(.ref a209)])) rfl (by rw [hml]; rfl) (rest := []) (W := 0) (lenOf pd_5 rfl) rfl (by show 2 * 0 + _ ≤ _; exact Nat.le_of_eq rfl) (hb hby at_31) (by decide) (by decide) (by decide) (by decide)
    obtain ⟨h223, e223⟩ : ∃ z, T223.heap = z := ⟨_, rfl⟩
    rw [e223] at hQ223
    obtain ⟨b292, k293, rfl, Nq223, K223, ex294, fx295, fx296, fx297, fx298, fx299, bx300, vx301⟩ := hQ223
    have N223 := Fr.app N0 Nq223
    have g302 : n0 ≤ b292 := Nat.le_trans (own_old O0) bx300
    have B303 : h0.size ≤ b292 := Nat.le_trans (Nat.le_refl _) bx300
    refine own_via (fun t k => st223 t (XS.astore X223.here hx rfl (hb hby at_34) rfl rfl (l' := #[iv p206, iv p207, iv p208, rv a209, rv b292, .unset, .unset, .unset, .unset, .unset, .unset]) rfl k)) ?_
    have l1665 : own_Len Z h223 b292 .byte (3 : Int32) := ⟨_, _, _, vx301⟩
    have E1666 : Exa Z h223 a215 zs2 := (pE_a215.keep K223)
    have F1667 : Fld Z h223 a215 zs2 "wordsInUse" "I" (.int (0 : Int32)) := (pF_a215_wordsInUse.keep K223 (ninS (Ne.symm pN_a209_a215) nin0))
    have F1668 : Fld Z h223 a215 zs2 "words" "[J" (.ref a216) := (pF_a215_words.keep K223 (ninS (Ne.symm pN_a209_a215) nin0))
    have L1669 : own_Len Z h223 a216 .long (4 : Int32) := (own_len_keep pL_a216 K223 (ninS (Ne.symm pN_a209_a216) nin0))
    have F1670 : Fld Z h223 a215 zs2 zs5 "Z" (.int (1 : Int32)) := (pF_a215_sizeIsSticky.keep K223 (ninS (Ne.symm pN_a209_a215) nin0))
    have V1671 : Arv Z h223 a216 k218 .long (4 : Int32) [] (.long (0 : Int64)) := (pV_a216.keep K223 (ninS (Ne.symm pN_a209_a216) nin0))
    have E1672 : Exa Z h223 a213 zs2 := (pE_a213.keep K223)
    have F1673 : Fld Z h223 a213 zs2 "wordsInUse" "I" (.int (0 : Int32)) := (pF_a213_wordsInUse.keep K223 (ninS (Ne.symm pN_a209_a213) nin0))
    have F1674 : Fld Z h223 a213 zs2 "words" "[J" (.ref a214) := (pF_a213_words.keep K223 (ninS (Ne.symm pN_a209_a213) nin0))
    have L1675 : own_Len Z h223 a214 .long (4 : Int32) := (own_len_keep pL_a214 K223 (ninS (Ne.symm pN_a209_a214) nin0))
    have F1676 : Fld Z h223 a213 zs2 zs5 "Z" (.int (1 : Int32)) := (pF_a213_sizeIsSticky.keep K223 (ninS (Ne.symm pN_a209_a213) nin0))
    have V1677 : Arv Z h223 a214 k217 .long (4 : Int32) [] (.long (0 : Int64)) := (pV_a214.keep K223 (ninS (Ne.symm pN_a209_a214) nin0))
    have O1678 : Old Z n0 h223 := (O0.keep K223 (allS pG_a209 all0))
    exact sfx6 l Z a0 hw ws p210 p211 p212 p206 p207 p208 a209 b292 k293 w6 a215 a216 k218 a213 a214 k217 kc_w6 Bd hZ hml (X223.more (by decide) (by decide)) h223 e223 n0 O1678 N223 l1665 vx301 fx297 S_TelnetOptions_NO_ANSWER fx298 fx299 fx296 S_BitSet__assertionsDisabled E1666 F1667 F1668 L1669 pG_a215 F1670 V1671 pN_a215_a216 pG_a216 fx295 E1672 F1673 F1674 L1675 pG_a213 F1676 V1677 pN_a213_a214 pG_a214 ex294 SV_w6 pN_a209_a216 pN_a209_a215 pN_a209_a214 pN_a209_a213
  · refine own_via (fun t k => XS.ifNo X0.here hx rfl (hb hby at_22) rfl ((if0 _ _).trans (feq hc222).1) (XS.aloadN X0.here hx rfl (hb hby at_25) rfl rfl k)) ?_
    obtain ⟨_, T1679, _, X1679, hQ1679, st1679⟩ := own_cv X0 hx hZ hown (wd hw 35 rfl) (wd hw 36 rfl) (wd hw 38 rfl) (wd hw 37 rfl) (wd hw 39 rfl) (wd hw 2 rfl) (by decide) (rm6 l Z a0 hw [] a209 (0 : Int32) a213 a215 (0 : Int32) (0 : Int32) h0 n0 O0 pF_a209_echoOffered pE_a209 pG_a209 pF_a209_refusedWill pF_a209_refusedDo pF_a209_gmcpOffered pF_a209_gmcpOn) e0 pE_a209 (g := (mkF m 26 #[iv p206, iv p207, iv p208, rv a209, .unset, .unset, .unset, .unset, .unset, .unset, .unset] [(.ref a209)])) rfl (by rw [hml]; rfl) (rest := []) (W := 0) (lenOf pd_5 rfl) rfl (by show 2 * 0 + _ ≤ _; exact Nat.le_of_eq rfl) (hb hby at_26) (by decide) (by decide) (by decide) (by decide)
    obtain ⟨h1679, e1679⟩ : ∃ z, T1679.heap = z := ⟨_, rfl⟩
    rw [e1679] at hQ1679
    obtain ⟨b1680, k1681, rfl, Nq1679, K1679, ex1682, fx1683, fx1684, fx1685, fx1686, fx1687, bx1688, vx1689⟩ := hQ1679
    have N1679 := Fr.app N0 Nq1679
    have g1690 : n0 ≤ b1680 := Nat.le_trans (own_old O0) bx1688
    have B1691 : h0.size ≤ b1680 := Nat.le_trans (Nat.le_refl _) bx1688
    refine own_via (fun t k => st1679 t (XS.pop X1679.here hx rfl (hb hby at_29) rfl rfl (XS.aloadN X1679.here hx rfl (hb hby at_30) rfl rfl k))) ?_
    show own_Goes p e below (T1679.setTop (mkF m 31 #[iv p206, iv p207, iv p208, rv a209, .unset, .unset, .unset, .unset, .unset, .unset, .unset] [(.ref a209)])) _
    have O1693 : Old Z n0 h1679 := (O0.keep K1679 (allS pG_a209 all0))
    obtain ⟨_, T1692, _, X1692, hQ1692, st1692⟩ := own_cv X1679 hx hZ hown (wd hw 35 rfl) (wd hw 36 rfl) (wd hw 38 rfl) (wd hw 37 rfl) (wd hw 39 rfl) (wd hw 2 rfl) (by decide) (rm6 l Z a0 hw [] a209 (1 : Int32) a213 a215 (0 : Int32) (0 : Int32) h1679 n0 O1693 fx1685 ex1682 pG_a209 fx1683 fx1684 fx1686 fx1687) e1679 ex1682 (g := (mkF m 31 #[iv p206, iv p207, iv p208, rv a209, .unset, .unset, .unset, .unset, .unset, .unset, .unset] [(.ref a209)])) rfl (by rw [hml]; rfl) (rest := []) (W := 0) (lenOf pd_5 rfl) rfl (by show 2 * 0 + _ ≤ _; exact Nat.le_of_eq rfl) (hb hby at_31) (by decide) (by decide) (by decide) (by decide)
    obtain ⟨h1692, e1692⟩ : ∃ z, T1692.heap = z := ⟨_, rfl⟩
    rw [e1692] at hQ1692
    obtain ⟨b1694, k1695, rfl, Nq1692, K1692, ex1696, fx1697, fx1698, fx1699, fx1700, fx1701, bx1702, vx1703⟩ := hQ1692
    have N1692 := Fr.app N1679 Nq1692
    have N1704 : b1680 ≠ b1694 := Nat.ne_of_lt (Nat.lt_of_lt_of_le vx1689.lt bx1702)
    have g1705 : n0 ≤ b1694 := Nat.le_trans (own_old O1693) bx1702
    have Z1707 : h0.size ≤ h1679.size := (Nat.le_trans (Nat.le_refl _) K1679.1)
    have B1706 : h0.size ≤ b1694 := Nat.le_trans Z1707 bx1702
    refine own_via (fun t k => st1692 t (XS.astore X1692.here hx rfl (hb hby at_34) rfl rfl (l' := #[iv p206, iv p207, iv p208, rv a209, rv b1694, .unset, .unset, .unset, .unset, .unset, .unset]) rfl k)) ?_
    have l1708 : own_Len Z h1692 b1694 .byte (3 : Int32) := ⟨_, _, _, vx1703⟩
    have E1709 : Exa Z h1692 a215 zs2 := ((pE_a215.keep K1679).keep K1692)
    have F1710 : Fld Z h1692 a215 zs2 "wordsInUse" "I" (.int (0 : Int32)) := ((pF_a215_wordsInUse.keep K1679 (ninS (Ne.symm pN_a209_a215) nin0)).keep K1692 (ninS (Ne.symm pN_a209_a215) nin0))
    have F1711 : Fld Z h1692 a215 zs2 "words" "[J" (.ref a216) := ((pF_a215_words.keep K1679 (ninS (Ne.symm pN_a209_a215) nin0)).keep K1692 (ninS (Ne.symm pN_a209_a215) nin0))
    have L1712 : own_Len Z h1692 a216 .long (4 : Int32) := (own_len_keep (own_len_keep pL_a216 K1679 (ninS (Ne.symm pN_a209_a216) nin0)) K1692 (ninS (Ne.symm pN_a209_a216) nin0))
    have F1713 : Fld Z h1692 a215 zs2 zs5 "Z" (.int (1 : Int32)) := ((pF_a215_sizeIsSticky.keep K1679 (ninS (Ne.symm pN_a209_a215) nin0)).keep K1692 (ninS (Ne.symm pN_a209_a215) nin0))
    have V1714 : Arv Z h1692 a216 k218 .long (4 : Int32) [] (.long (0 : Int64)) := ((pV_a216.keep K1679 (ninS (Ne.symm pN_a209_a216) nin0)).keep K1692 (ninS (Ne.symm pN_a209_a216) nin0))
    have E1715 : Exa Z h1692 a213 zs2 := ((pE_a213.keep K1679).keep K1692)
    have F1716 : Fld Z h1692 a213 zs2 "wordsInUse" "I" (.int (0 : Int32)) := ((pF_a213_wordsInUse.keep K1679 (ninS (Ne.symm pN_a209_a213) nin0)).keep K1692 (ninS (Ne.symm pN_a209_a213) nin0))
    have F1717 : Fld Z h1692 a213 zs2 "words" "[J" (.ref a214) := ((pF_a213_words.keep K1679 (ninS (Ne.symm pN_a209_a213) nin0)).keep K1692 (ninS (Ne.symm pN_a209_a213) nin0))
    have L1718 : own_Len Z h1692 a214 .long (4 : Int32) := (own_len_keep (own_len_keep pL_a214 K1679 (ninS (Ne.symm pN_a209_a214) nin0)) K1692 (ninS (Ne.symm pN_a209_a214) nin0))
    have F1719 : Fld Z h1692 a213 zs2 zs5 "Z" (.int (1 : Int32)) := ((pF_a213_sizeIsSticky.keep K1679 (ninS (Ne.symm pN_a209_a213) nin0)).keep K1692 (ninS (Ne.symm pN_a209_a213) nin0))
    have V1720 : Arv Z h1692 a214 k217 .long (4 : Int32) [] (.long (0 : Int64)) := ((pV_a214.keep K1679 (ninS (Ne.symm pN_a209_a214) nin0)).keep K1692 (ninS (Ne.symm pN_a209_a214) nin0))
    have O1721 : Old Z n0 h1692 := (O1693.keep K1692 (allS pG_a209 all0))
    exact sfx6 l Z a0 hw ws p210 p211 p212 p206 p207 p208 a209 b1694 k1695 w6 a215 a216 k218 a213 a214 k217 kc_w6 Bd hZ hml (X1692.more (by decide) (by decide)) h1692 e1692 n0 O1721 N1692 l1708 vx1703 fx1699 S_TelnetOptions_NO_ANSWER fx1700 fx1701 fx1698 S_BitSet__assertionsDisabled E1709 F1710 F1711 L1712 pG_a215 F1713 V1714 pN_a215_a216 pG_a216 fx1697 E1715 F1716 F1717 L1718 pG_a213 F1719 V1720 pN_a213_a214 pG_a214 ex1696 SV_w6 pN_a209_a216 pN_a209_a215 pN_a209_a214 pN_a209_a213
theorem d11_0 : decode prog_61_method_6_code 0 = .ok (.aload_n 0, 1) := by decide +kernel
theorem d11_1 : decode prog_61_method_6_code 1 = .ok (.iconst 0, 1) := by decide +kernel
theorem d11_2 : decode prog_61_method_6_code 2 = .ok (.putfield 21, 3) := by decide +kernel
theorem d11_5 : decode prog_61_method_6_code 5 = .ok (.sipush 252, 3) := by decide +kernel
theorem d11_8 : decode prog_61_method_6_code 8 = .ok (.iconst 1, 1) := by decide +kernel
theorem d11_9 : decode prog_61_method_6_code 9 = .ok (.invokestatic 46, 3) := by decide +kernel
def Q33 (Z : State)  (h0 : Heap) (n0 : Nat) (v : Option Value) (h : Heap) (L : List Loc) : Prop := (∃ (b1765 : Addr) (k1764 : ClassId), v = some (.ref b1765) ∧ Fr n0 L ∧ Keep h0 h [] ∧ h0.size ≤ b1765 ∧ Arv Z h b1765 k1764 .byte (3 : Int32) [(.int (-1 : Int32)), (.int (-4 : Int32)), (.int (1 : Int32))] (.int (0 : Int32)))
set_option maxRecDepth 65536 in
set_option maxHeartbeats 40000000 in
theorem rm33 (l : Launch) (Z : State) (a0 : Array Value) (hw : ∀ d ∈ tables_1, d.before a0 Z = true) (ws : List Jvm.Cond)  (h0 : Heap) (n0 : Nat) (O0 : Old Z n0 h0) :
    MetFree l (⟨zs1, "command", "(II)[B"⟩ : MethodName) (head1 (Jvm.Cond.code (⟨zs1, "command", "(II)[B"⟩ : MethodName) prog_61_method_8_code 2 (some (.array .byte)) :: ws) ({ frames := 0, cells := 1, slots := 3, locals := 0 } : Room)) (fun a U => a = #[(.int (252 : Int32)), (.int (1 : Int32))] ∧ Z.Warmed39 U.vm ∧ U.heap = h0) (fun _ _ _ _ _ => True) (fun _ U o U' => ∃ v L, o = .returned v ∧ Q33 Z  h0 n0 v U'.heap L ∧ FrameEnd U o U' L ({ frames := 0, cells := 1, slots := 3, locals := 0 } : Room).cells ({ frames := 0, cells := 1, slots := 3, locals := 0 } : Room).slots) := by
  refine MetFree.of_bodySF (plainFor_of_name pn_2) hisR ?_
  intro p e s m args below meth c s₁ Bd hml0 hP hK
  obtain ⟨rfl, hZ, hh⟩ := hP
  have hx := Bd.exec
  have hby := Bd.bytes
  have hml : c.maxLocals = 2 := hml0
  have hown : s.vm.findClass zs1 = some m.cls := findClass_of_methodNamed Bd.named
  have hnm := (name_of_methodNamed Bd.named Bd.method).1
  have X0 : Stand p l e ({ frames := 0, cells := 1, slots := 3, locals := 0 } : Room) s m #[(.int (252 : Int32)), (.int (1 : Int32))] below meth c s₁ [] 0 0 := Stand.of_body Bd
  have e0 : s₁.heap = h0 := by rw [← hh, Bd.state]; rfl
  have N0 := Fr.nil n0
  refine own_out ?_
  refine own_via (fun t k => castTop (ef_5 m (252 : Int32) (1 : Int32)) (XS.iconst X0.here hx rfl (hb hby d7_0) k)) ?_
  obtain ⟨T1764, h1764, k1764, X1764, e1764, E1764, A1764, st1764⟩ := newP X0 hx hZ (wd hw 45 rfl) e0 (g := (mkF m 1 #[iv (252 : Int32), iv (1 : Int32)] [(.int (3 : Int32))])) rfl (hb hby d7_1) rfl (by decide) (cap := 3) (by decide) (by decide) (by decide) (by decide)
  obtain ⟨b1765, q1764⟩ : ∃ z, z = h0.size := ⟨_, rfl⟩
  rw [← q1764] at A1764 st1764
  refine own_via (fun t k => st1764 t k) ?_
  have g1766 : n0 ≤ b1765 := Nat.le_trans (own_old O0) (Nat.le_of_eq q1764.symm)
  have B1767 : h0.size ≤ b1765 := Nat.le_trans (Nat.le_refl _) (Nat.le_of_eq q1764.symm)
  have V1768 : Arv Z h1764 b1765 k1764 .byte (3 : Int32) [] (.int (0 : Int32)) := Arv.new A1764 (by decide)
  show own_Goes p e below (T1764.setTop (mkF m 3 #[iv (252 : Int32), iv (1 : Int32)] [(.ref b1765)])) _
  refine own_via (fun t k => XS.dup X1764.here hx rfl (hb hby d7_3) rfl rfl (XS.iconst X1764.here hx rfl (hb hby d7_4) (XS.iconst X1764.here hx rfl (hb hby d7_5) k))) ?_
  show own_Goes p e below (T1764.setTop (mkF m 6 #[iv (252 : Int32), iv (1 : Int32)] [(.int (-1 : Int32)), (.int (0 : Int32)), (.ref b1765), (.ref b1765)])) _
  have V1769 : Arv Z h1764 b1765 k1764 .byte (3 : Int32) [(.int (0 : Int32))] (.int (0 : Int32)) := V1768.pad (pad_rep [] (.int (0 : Int32)) 1)
  obtain ⟨cl1770, Ar1770, qq1770, S1770, M1770, H1770, G1770⟩ := id (V1769)
  have hin1770 : ¬ ((0 : Int32) < 0 ∨ cl1770.slots.size ≤ ((0 : Int32)).toNatClampNeg) := inb_of S1770 ⟨by decide, by decide⟩
  obtain ⟨T1770, h1770, X1770, e1770, W1770, st1770⟩ := stB X1764 hx hZ e1764 Ar1770 (j := (0 : Int32)) hin1770 (g := (mkF m 6 #[iv (252 : Int32), iv (1 : Int32)] [(.int (-1 : Int32)), (.int (0 : Int32)), (.ref b1765), (.ref b1765)])) rfl rfl (hb hby d7_6)
  refine own_via (fun t k => st1770 t k) ?_
  have V1771 : Arv Z h1770 b1765 k1764 .byte (3 : Int32) [(.int (-1 : Int32))] (.int (0 : Int32)) := Arv.set Ar1770 qq1770 S1770 M1770 H1770 G1770 (by decide) W1770 0 rfl (Nat.le_of_ble_eq_true rfl)
  have N1770 := Fr.snoc X1770 N0 g1766
  show own_Goes p e below (T1770.setTop (mkF m 7 #[iv (252 : Int32), iv (1 : Int32)] [(.ref b1765)])) _
  refine own_via (fun t k => XS.dup X1770.here hx rfl (hb hby d7_7) rfl rfl (XS.iconst X1770.here hx rfl (hb hby d7_8) (XS.iloadN X1770.here hx rfl (hb hby d7_9) rfl (XS.i2b X1770.here hx rfl (hb hby d7_10) rfl k)))) ?_
  show own_Goes p e below (T1770.setTop (mkF m 11 #[iv (252 : Int32), iv (1 : Int32)] [(.int (-4 : Int32)), (.int (1 : Int32)), (.ref b1765), (.ref b1765)])) _
  have V1772 : Arv Z h1770 b1765 k1764 .byte (3 : Int32) [(.int (-1 : Int32)), (.int (0 : Int32))] (.int (0 : Int32)) := V1771.pad (pad_rep [(.int (-1 : Int32))] (.int (0 : Int32)) 1)
  obtain ⟨cl1773, Ar1773, qq1773, S1773, M1773, H1773, G1773⟩ := id (V1772)
  have hin1773 : ¬ ((1 : Int32) < 0 ∨ cl1773.slots.size ≤ ((1 : Int32)).toNatClampNeg) := inb_of S1773 ⟨by decide, by decide⟩
  obtain ⟨T1773, h1773, X1773, e1773, W1773, st1773⟩ := stB X1770 hx hZ e1770 Ar1773 (j := (1 : Int32)) hin1773 (g := (mkF m 11 #[iv (252 : Int32), iv (1 : Int32)] [(.int (-4 : Int32)), (.int (1 : Int32)), (.ref b1765), (.ref b1765)])) rfl rfl (hb hby d7_11)
  refine own_via (fun t k => st1773 t k) ?_
  have V1774 : Arv Z h1773 b1765 k1764 .byte (3 : Int32) [(.int (-1 : Int32)), (.int (-4 : Int32))] (.int (0 : Int32)) := Arv.set Ar1773 qq1773 S1773 M1773 H1773 G1773 (by decide) W1773 1 rfl (Nat.le_of_ble_eq_true rfl)
  have N1773 := Fr.snoc X1773 N1770 g1766
  show own_Goes p e below (T1773.setTop (mkF m 12 #[iv (252 : Int32), iv (1 : Int32)] [(.ref b1765)])) _
  refine own_via (fun t k => XS.dup X1773.here hx rfl (hb hby d7_12) rfl rfl (XS.iconst X1773.here hx rfl (hb hby d7_13) (XS.iloadN X1773.here hx rfl (hb hby d7_14) rfl (XS.i2b X1773.here hx rfl (hb hby d7_15) rfl k)))) ?_
  show own_Goes p e below (T1773.setTop (mkF m 16 #[iv (252 : Int32), iv (1 : Int32)] [(.int (1 : Int32)), (.int (2 : Int32)), (.ref b1765), (.ref b1765)])) _
  have V1775 : Arv Z h1773 b1765 k1764 .byte (3 : Int32) [(.int (-1 : Int32)), (.int (-4 : Int32)), (.int (0 : Int32))] (.int (0 : Int32)) := V1774.pad (pad_rep [(.int (-1 : Int32)), (.int (-4 : Int32))] (.int (0 : Int32)) 1)
  obtain ⟨cl1776, Ar1776, qq1776, S1776, M1776, H1776, G1776⟩ := id (V1775)
  have hin1776 : ¬ ((2 : Int32) < 0 ∨ cl1776.slots.size ≤ ((2 : Int32)).toNatClampNeg) := inb_of S1776 ⟨by decide, by decide⟩
  obtain ⟨T1776, h1776, X1776, e1776, W1776, st1776⟩ := stB X1773 hx hZ e1773 Ar1776 (j := (2 : Int32)) hin1776 (g := (mkF m 16 #[iv (252 : Int32), iv (1 : Int32)] [(.int (1 : Int32)), (.int (2 : Int32)), (.ref b1765), (.ref b1765)])) rfl rfl (hb hby d7_16)
  refine own_via (fun t k => st1776 t k) ?_
  have V1777 : Arv Z h1776 b1765 k1764 .byte (3 : Int32) [(.int (-1 : Int32)), (.int (-4 : Int32)), (.int (1 : Int32))] (.int (0 : Int32)) := Arv.set Ar1776 qq1776 S1776 M1776 H1776 G1776 (by decide) W1776 2 rfl (Nat.le_of_ble_eq_true rfl)
  have N1776 := Fr.snoc X1776 N1773 g1766
  show own_Goes p e below (T1776.setTop (mkF m 17 #[iv (252 : Int32), iv (1 : Int32)] [(.ref b1765)])) _
  obtain ⟨fs, hr, hrun, hended, hW, hsame⟩ := X1776.leave (v := some (.ref b1765)) (fun h => by rw [Bd.returns] at h; cases h)
  refine own_end (t := T1776.setFrames fs) ?_ ⟨_, hrun, hended, _, _, rfl, ?_, ⟨_, rfl⟩, hW, hsame.mono (by decide) (by decide)⟩
  · jvm_step X1776.here [X1776.here.top, hx, (hb hby d7_17), X1776.method', Bd.returns, Value.isRef, FieldType.isReference]
    first | (intro acts; rw [hr _ acts rfl rfl rfl]) | rw [hr _ _ rfl rfl rfl]
    exact Steps.refl _
  · show Q33 Z  h0 n0 _ T1776.heap _
    rw [e1776]
    exact ⟨b1765, k1764, rfl, N1776, (((((Keep.refl h0 []).ext E1764).wr W1770 (Or.inr B1767)).wr W1773 (Or.inr B1767)).wr W1776 (Or.inr B1767)), B1767, V1777⟩
theorem d11_12 : decode prog_61_method_6_code 12 = .ok (.areturn, 1) := by decide +kernel
theorem ef_15 (m : MethodId) (x0 : Addr) : entryFrame m #[(.ref x0)] 1 = mkF m 0 #[rv x0] [] := by first | (simp [entryFrame, mkF, argsToLocals, Value.category]; done) | rfl
def Q34 (Z : State) (a1726 : Addr) (p1731 : Int32) (a1727 : Addr) (a1729 : Addr) (p1732 : Int32) (p1733 : Int32) (h0 : Heap) (n0 : Nat) (v : Option Value) (h : Heap) (L : List Loc) : Prop := (∃ (b1779 : Addr) (k1780 : ClassId), v = some (.ref b1779) ∧ Fr n0 L ∧ Keep h0 h [a1726] ∧ Exa Z h a1726 zs1 ∧ Fld Z h a1726 zs1 "refusedWill" zs4 (.ref a1727) ∧ Fld Z h a1726 zs1 "refusedDo" zs4 (.ref a1729) ∧ Fld Z h a1726 zs1 "echoOffered" "Z" (.int (0 : Int32)) ∧ Fld Z h a1726 zs1 "gmcpOffered" "Z" (.int p1732) ∧ Fld Z h a1726 zs1 "gmcpOn" "Z" (.int p1733) ∧ h0.size ≤ b1779 ∧ Arv Z h b1779 k1780 .byte (3 : Int32) [(.int (-1 : Int32)), (.int (-4 : Int32)), (.int (1 : Int32))] (.int (0 : Int32)))
set_option maxRecDepth 65536 in
set_option maxHeartbeats 40000000 in
theorem rm34 (l : Launch) (Z : State) (a0 : Array Value) (hw : ∀ d ∈ tables_1, d.before a0 Z = true) (ws : List Jvm.Cond) (a1726 : Addr) (p1731 : Int32) (a1727 : Addr) (a1729 : Addr) (p1732 : Int32) (p1733 : Int32) (h0 : Heap) (n0 : Nat) (O0 : Old Z n0 h0) (pF_a1726_echoOffered : Fld Z h0 a1726 zs1 "echoOffered" "Z" (.int p1731)) (pE_a1726 : Exa Z h0 a1726 zs1) (pG_a1726 : n0 ≤ a1726) (pF_a1726_refusedWill : Fld Z h0 a1726 zs1 "refusedWill" zs4 (.ref a1727)) (pF_a1726_refusedDo : Fld Z h0 a1726 zs1 "refusedDo" zs4 (.ref a1729)) (pF_a1726_gmcpOffered : Fld Z h0 a1726 zs1 "gmcpOffered" "Z" (.int p1732)) (pF_a1726_gmcpOn : Fld Z h0 a1726 zs1 "gmcpOn" "Z" (.int p1733)) :
    MetFree l (⟨zs1, "withdrawEcho", "()[B"⟩ : MethodName) (head1 (Jvm.Cond.code (⟨zs1, "withdrawEcho", "()[B"⟩ : MethodName) prog_61_method_6_code 1 (some (.array .byte)) :: ws) ({ frames := 1, cells := 1, slots := 3, locals := 13 } : Room)) (fun a U => a = #[(.ref a1726)] ∧ Z.Warmed39 U.vm ∧ U.heap = h0) (fun _ _ _ _ _ => True) (fun _ U o U' => ∃ v L, o = .returned v ∧ Q34 Z a1726 p1731 a1727 a1729 p1732 p1733 h0 n0 v U'.heap L ∧ FrameEnd U o U' L ({ frames := 1, cells := 1, slots := 3, locals := 13 } : Room).cells ({ frames := 1, cells := 1, slots := 3, locals := 13 } : Room).slots) := by
  refine MetFree.of_bodySF (plainFor_of_name pn_2) hisR ?_
  intro p e s m args below meth c s₁ Bd hml0 hP hK
  obtain ⟨rfl, hZ, hh⟩ := hP
  have hx := Bd.exec
  have hby := Bd.bytes
  have hml : c.maxLocals = 1 := hml0
  have hown : s.vm.findClass zs1 = some m.cls := findClass_of_methodNamed Bd.named
  have hnm := (name_of_methodNamed Bd.named Bd.method).1
  have X0 : Stand p l e ({ frames := 1, cells := 1, slots := 3, locals := 13 } : Room) s m #[(.ref a1726)] below meth c s₁ [] 0 0 := Stand.of_body Bd
  have e0 : s₁.heap = h0 := by rw [← hh, Bd.state]; rfl
  have N0 := Fr.nil n0
  refine own_out ?_
  refine own_via (fun t k => castTop (ef_15 m a1726) (XS.aloadN X0.here hx rfl (hb hby d11_0) rfl rfl (XS.iconst X0.here hx rfl (hb hby d11_1) k))) ?_
  show own_Goes p e below (s₁.setTop (mkF m 2 #[rv a1726] [(.int (0 : Int32)), (.ref a1726)])) _
  obtain ⟨T1744, h1744, X1744, e1744, W1744, st1744⟩ := putFN X0 hx hZ hown (wd hw 40 rfl) Via.refl e0 pF_a1726_echoOffered pE_a1726 (Or.inl (wd hw 41 rfl)) (wd hw 1 rfl) (ty := .boolean) (v' := (.int (0 : Int32))) (by decide) rfl (by decide) (g := (mkF m 2 #[rv a1726] [(.int (0 : Int32)), (.ref a1726)])) rfl rfl (hb hby d11_2)
  refine own_via (fun t k => st1744 t k) ?_
  have Fw1744 : Fld Z h1744 a1726 zs1 "echoOffered" "Z" (.int (0 : Int32)) := pF_a1726_echoOffered.same W1744
  have N1744 := Fr.snoc X1744 N0 pG_a1726
  show own_Goes p e below (T1744.setTop (mkF m 5 #[rv a1726] [])) _
  refine own_via (fun t k => XS.sipush X1744.here hx rfl (hb hby d11_5) (XS.iconst X1744.here hx rfl (hb hby d11_8) k)) ?_
  have O1778 : Old Z n0 h1744 := (O0.wr W1744 pG_a1726)
  obtain ⟨_, T1745, _, X1745, hQ1745, st1745⟩ := own_cs X1744 hx hZ hown (wd hw 42 rfl) (wd hw 43 rfl) (wd hw 44 rfl) (wd hw 2 rfl) (by decide) (rm33 l Z a0 hw []  h1744 n0 O1778 ) e1744 (g := (mkF m 9 #[rv a1726] [(.int (1 : Int32)), (.int (252 : Int32))])) rfl (by rw [hml]; rfl) (rest := []) (W := 0) (lenOf pd_4 rfl) rfl (by show 2 * 0 + _ ≤ _; exact Nat.le_of_eq rfl) (hb hby d11_9) (by decide) (by decide) (by decide) (by decide)
  obtain ⟨h1745, e1745⟩ : ∃ z, T1745.heap = z := ⟨_, rfl⟩
  rw [e1745] at hQ1745
  obtain ⟨b1779, k1780, rfl, Nq1745, K1745, bx1781, vx1782⟩ := hQ1745
  have N1745 := Fr.app N1744 Nq1745
  have g1783 : n0 ≤ b1779 := Nat.le_trans (own_old O1778) bx1781
  have Z1785 : h0.size ≤ h1744.size := (Nat.le_trans (Nat.le_refl _) (Nat.le_of_eq W1744.size.symm))
  have B1784 : h0.size ≤ b1779 := Nat.le_trans Z1785 bx1781
  refine own_via (fun t k => st1745 t k) ?_
  obtain ⟨fs, hr, hrun, hended, hW, hsame⟩ := X1745.leave (v := some (.ref b1779)) (fun h => by rw [Bd.returns] at h; cases h)
  refine own_end (t := T1745.setFrames fs) ?_ ⟨_, hrun, hended, _, _, rfl, ?_, ⟨_, rfl⟩, hW, hsame.mono (by decide) (by decide)⟩
  · jvm_step X1745.here [X1745.here.top, hx, (hb hby d11_12), X1745.method', Bd.returns, Value.isRef, FieldType.isReference]
    first | (intro acts; rw [hr _ acts rfl rfl rfl]) | rw [hr _ _ rfl rfl rfl]
    exact Steps.refl _
  have E1786 : Exa Z h1745 a1726 zs1 := ((pE_a1726.wr W1744).keep K1745)
  have F1787 : Fld Z h1745 a1726 zs1 "refusedWill" zs4 (.ref a1727) := ((pF_a1726_refusedWill.other W1744 (Or.inr (slot_ne (Or.inr (wd hw 32 rfl)) (Or.inl (wd hw 41 rfl)) (by decide) (t := (.object zs2)) (t' := .boolean) (by decide) (by decide)))).keep K1745 nin0)
  have F1788 : Fld Z h1745 a1726 zs1 "refusedDo" zs4 (.ref a1729) := ((pF_a1726_refusedDo.other W1744 (Or.inr (slot_ne (Or.inr (wd hw 34 rfl)) (Or.inl (wd hw 41 rfl)) (by decide) (t := (.object zs2)) (t' := .boolean) (by decide) (by decide)))).keep K1745 nin0)
  have F1789 : Fld Z h1745 a1726 zs1 "echoOffered" "Z" (.int (0 : Int32)) := (Fw1744.keep K1745 nin0)
  have F1790 : Fld Z h1745 a1726 zs1 "gmcpOffered" "Z" (.int p1732) := ((pF_a1726_gmcpOffered.other W1744 (Or.inr (slot_ne (Or.inl (wd hw 93 rfl)) (Or.inl (wd hw 41 rfl)) (by decide) (t := .boolean) (t' := .boolean) (by decide) (by decide)))).keep K1745 nin0)
  have F1791 : Fld Z h1745 a1726 zs1 "gmcpOn" "Z" (.int p1733) := ((pF_a1726_gmcpOn.other W1744 (Or.inr (slot_ne (Or.inl (wd hw 95 rfl)) (Or.inl (wd hw 41 rfl)) (by decide) (t := .boolean) (t' := .boolean) (by decide) (by decide)))).keep K1745 nin0)
  · show Q34 Z a1726 p1731 a1727 a1729 p1732 p1733 h0 n0 _ T1745.heap _
    rw [e1745]
    exact ⟨b1779, k1780, rfl, N1745, (((Keep.refl h0 [a1726]).wr W1744 (Or.inl (List.mem_of_getElem? (i := 0) rfl))).trans K1745 all0), E1786, F1787, F1788, F1789, F1790, F1791, B1784, vx1782⟩
theorem ef_16 (m : MethodId) (x0 : Int32) (x1 : Int32) (x2 : Int32) : entryFrame m #[(.int x0), (.int x1), (.int x2)] maxLocals = mkF m 0 #[iv x0, iv x1, iv x2, .unset, .unset, .unset, .unset, .unset, .unset, .unset, .unset] [] := by first | (simp [entryFrame, mkF, argsToLocals, Value.category, maxLocals]; done) | rfl
set_option maxRecDepth 65536 in
set_option maxHeartbeats 40000000 in
theorem rm0 (l : Launch) (Z : State) (a0 : Array Value) (hw : ∀ d ∈ tables_1, d.before a0 Z = true) (ws : List Jvm.Cond) (i0 : Int32) (i1 : Int32) (i2 : Int32) (w6 : Addr) (kc_w6 : ClassId) (h0 : Heap) (n0 : Nat) (O0 : Old Z n0 h0) (S_TelnetOptions_NO_ANSWER : Sta Z Z.heap zs1 "NO_ANSWER" "[B" (.ref w6)) (S_BitSet__assertionsDisabled : Sta Z Z.heap zs2 zs6 "Z" (.int (1 : Int32))) (SV_w6 : Arv Z Z.heap w6 kc_w6 .byte (0 : Int32) [] (.int (0 : Int32))) :
    MetFree l x (head1 (Jvm.Cond.code x code maxLocals ret :: ws) room_1) (fun a U => a = #[(.int i0), (.int i1), (.int i2)] ∧ Z.Warmed39 U.vm ∧ U.heap = h0) (fun _ _ _ _ _ => True) (fun _ U o U' => ∃ v L, o = .returned v ∧ own_Q0 n0 v L ∧ FrameEnd U o U' L room_1.cells room_1.slots) := by
  refine MetFree.of_bodySF (plainFor_of_name pn_3) hisR ?_
  intro p e s m args below meth c s₁ Bd hml0 hP hK
  obtain ⟨rfl, hZ, hh⟩ := hP
  have hx := Bd.exec
  have hby := Bd.bytes
  have hml : c.maxLocals = 11 := hml0
  have hown : s.vm.findClass zs3 = some m.cls := findClass_of_methodNamed Bd.named
  have hnm := (name_of_methodNamed Bd.named Bd.method).1
  have X0 : Stand p l e room_1 s m #[(.int i0), (.int i1), (.int i2)] below meth c s₁ [] 0 0 := Stand.of_body Bd
  have e0 : s₁.heap = h0 := by rw [← hh, Bd.state]; rfl
  have N0 := Fr.nil n0
  refine own_out ?_
  show own_Goes p e below _ (own_G s below n0)
  refine own_via (fun t k => castTop (ef_16 m i0 i1 i2) k) ?_
  obtain ⟨T10, h10, X10, e10, E10, A10, D10, -, st10⟩ := newO X0 hx hZ hown (wd hw 0 rfl) (wd hw 1 rfl) (wd hw 2 rfl) e0 (g := (mkF m 0 #[iv i0, iv i1, iv i2, .unset, .unset, .unset, .unset, .unset, .unset, .unset, .unset] [])) rfl (hb hby at_0) (by decide) (by decide)
  obtain ⟨b11, q10⟩ : ∃ z, z = h0.size := ⟨_, rfl⟩
  rw [← q10] at A10 D10 st10
  refine own_via (fun t k => st10 t k) ?_
  have g12 : n0 ≤ b11 := Nat.le_trans (own_old O0) (Nat.le_of_eq q10.symm)
  have B13 : h0.size ≤ b11 := Nat.le_trans (Nat.le_refl _) (Nat.le_of_eq q10.symm)
  have F14 : Fld Z h10 b11 zs1 "refusedWill" zs4 .null := D10 (Or.inr (wd hw 32 rfl)) (ty := (.object zs2)) (by decide)
  have F15 : Fld Z h10 b11 zs1 "refusedDo" zs4 .null := D10 (Or.inr (wd hw 34 rfl)) (ty := (.object zs2)) (by decide)
  have F16 : Fld Z h10 b11 zs1 "echoOffered" "Z" (.int (0 : Int32)) := D10 (Or.inl (wd hw 41 rfl)) (ty := .boolean) (by decide)
  have F17 : Fld Z h10 b11 zs1 "gmcpOffered" "Z" (.int (0 : Int32)) := D10 (Or.inl (wd hw 93 rfl)) (ty := .boolean) (by decide)
  have F18 : Fld Z h10 b11 zs1 "gmcpOn" "Z" (.int (0 : Int32)) := D10 (Or.inl (wd hw 95 rfl)) (ty := .boolean) (by decide)
  show own_Goes p e below (T10.setTop (mkF m 3 #[iv i0, iv i1, iv i2, .unset, .unset, .unset, .unset, .unset, .unset, .unset, .unset] [(.ref b11)])) _
  refine own_via (fun t k => XS.dup X10.here hx rfl (hb hby at_3) rfl rfl k) ?_
  have O159 : Old Z n0 h10 := (O0.ext E10)
  obtain ⟨_, T19, _, X19, hQ19, st19⟩ := own_ci X10 hx hZ hown (wd hw 3 rfl) (wd hw 4 rfl) (wd hw 5 rfl) (wd hw 2 rfl) rfl (by decide) (rm4 l Z a0 hw [] b11 (0 : Int32) (0 : Int32) (0 : Int32) h10 n0 O159 F14 A10 g12 F15 F16 F17 F18) e10 (g := (mkF m 4 #[iv i0, iv i1, iv i2, .unset, .unset, .unset, .unset, .unset, .unset, .unset, .unset] [(.ref b11), (.ref b11)])) rfl (by rw [hml]; rfl) (rest := [(.ref b11)]) (W := 1) (lenOf pd_3 rfl) rfl (by show 2 * 0 + _ ≤ _; exact Nat.le_of_eq rfl) (hb hby at_4) (by decide) (by decide) (by decide) (by decide)
  obtain ⟨h19, e19⟩ : ∃ z, T19.heap = z := ⟨_, rfl⟩
  rw [e19] at hQ19
  obtain ⟨b160, b161, k162, b163, b164, k165, rfl, Nq19, K19, ex166, fx167, fx168, fx169, fx170, fx171, bx172, ex173, fx174, fx175, fx176, bx177, vx178, bx179, ex180, fx181, fx182, fx183, bx184, vx185, nx186, nx187, nx188, nx189, nx190, nx191⟩ := hQ19
  have N19 := Fr.app N0 Nq19
  have N192 : b11 ≠ b160 := Nat.ne_of_lt (Nat.lt_of_lt_of_le A10.lt bx172)
  have g193 : n0 ≤ b160 := Nat.le_trans (own_old O159) bx172
  have Z195 : h0.size ≤ h10.size := (Nat.le_trans (Nat.le_refl _) E10.1)
  have B194 : h0.size ≤ b160 := Nat.le_trans Z195 bx172
  have N196 : b11 ≠ b161 := Nat.ne_of_lt (Nat.lt_of_lt_of_le A10.lt bx177)
  have g197 : n0 ≤ b161 := Nat.le_trans (own_old O159) bx177
  have B198 : h0.size ≤ b161 := Nat.le_trans Z195 bx177
  have N199 : b11 ≠ b163 := Nat.ne_of_lt (Nat.lt_of_lt_of_le A10.lt bx179)
  have g200 : n0 ≤ b163 := Nat.le_trans (own_old O159) bx179
  have B201 : h0.size ≤ b163 := Nat.le_trans Z195 bx179
  have N202 : b11 ≠ b164 := Nat.ne_of_lt (Nat.lt_of_lt_of_le A10.lt bx184)
  have g203 : n0 ≤ b164 := Nat.le_trans (own_old O159) bx184
  have B204 : h0.size ≤ b164 := Nat.le_trans Z195 bx184
  refine own_via (fun t k => st19 t (XS.astoreN X19.here hx rfl (hb hby at_7) rfl rfl (l' := #[iv i0, iv i1, iv i2, rv b11, .unset, .unset, .unset, .unset, .unset, .unset, .unset]) rfl (XS.iloadN X19.here hx rfl (hb hby at_8) rfl (XS.iconst X19.here hx rfl (hb hby at_9) (XS.iand X19.here hx rfl (hb hby at_10) rfl k))))) ?_
  show own_Goes p e below (T19.setTop (mkF m 11 #[iv i0, iv i1, iv i2, rv b11, .unset, .unset, .unset, .unset, .unset, .unset, .unset] [(.int (i0 &&& (1 : Int32)))])) _
  by_cases hc205 : (i0 &&& (1 : Int32)) = (0 : Int32)
  · refine own_via (fun t k => XS.ifYes X19.here hx rfl (pc0 := 11) (pc' := 19) rfl (hb hby at_11) rfl ((if0 _ _).trans (teq hc205).1) (by decide) (by decide) k) ?_
    have l1722 : own_Len Z h19 b164 .long (4 : Int32) := ⟨_, _, _, vx185⟩
    have l1723 : own_Len Z h19 b161 .long (4 : Int32) := ⟨_, _, _, vx178⟩
    have O1724 : Old Z n0 h19 := (O159.keep K19 (allS g12 all0))
    exact sfx7 l Z a0 hw ws i0 i1 i2 i0 i1 i2 b11 b160 b163 w6 b164 k165 b161 k162 kc_w6 Bd hZ hml (X19.more (by decide) (by decide)) h19 e19 n0 O1724 N19 fx169 ex166 g12 fx167 fx168 fx170 fx171 S_TelnetOptions_NO_ANSWER S_BitSet__assertionsDisabled ex180 fx181 N199 fx183 l1722 N202 g200 fx182 vx185 nx191 g203 ex173 fx174 N192 fx176 l1723 N196 g193 fx175 vx178 nx186 g197 SV_w6
  · refine own_via (fun t k => XS.ifNo X19.here hx rfl (hb hby at_11) rfl ((if0 _ _).trans (feq hc205).1) (XS.aloadN X19.here hx rfl (hb hby at_14) rfl rfl k)) ?_
    have O1792 : Old Z n0 h19 := (O159.keep K19 (allS g12 all0))
    obtain ⟨_, T1725, _, X1725, hQ1725, st1725⟩ := own_cv X19 hx hZ hown (wd hw 60 rfl) (wd hw 61 rfl) (wd hw 63 rfl) (wd hw 62 rfl) (wd hw 64 rfl) (wd hw 2 rfl) (by decide) (rm34 l Z a0 hw [] b11 (0 : Int32) b160 b163 (0 : Int32) (0 : Int32) h19 n0 O1792 fx169 ex166 g12 fx167 fx168 fx170 fx171) e19 ex166 (g := (mkF m 15 #[iv i0, iv i1, iv i2, rv b11, .unset, .unset, .unset, .unset, .unset, .unset, .unset] [(.ref b11)])) rfl (by rw [hml]; rfl) (rest := []) (W := 0) (lenOf pd_5 rfl) rfl (by show 2 * 0 + _ ≤ _; exact Nat.le_of_eq rfl) (hb hby at_15) (by decide) (by decide) (by decide) (by decide)
    obtain ⟨h1725, e1725⟩ : ∃ z, T1725.heap = z := ⟨_, rfl⟩
    rw [e1725] at hQ1725
    obtain ⟨b1793, k1794, rfl, Nq1725, K1725, ex1795, fx1796, fx1797, fx1798, fx1799, fx1800, bx1801, vx1802⟩ := hQ1725
    have N1725 := Fr.app N19 Nq1725
    have N1803 : b11 ≠ b1793 := Nat.ne_of_lt (Nat.lt_of_lt_of_le ex166.lt bx1801)
    have N1804 : b160 ≠ b1793 := Nat.ne_of_lt (Nat.lt_of_lt_of_le ex173.lt bx1801)
    have N1805 : b161 ≠ b1793 := Nat.ne_of_lt (Nat.lt_of_lt_of_le vx178.lt bx1801)
    have N1806 : b163 ≠ b1793 := Nat.ne_of_lt (Nat.lt_of_lt_of_le ex180.lt bx1801)
    have N1807 : b164 ≠ b1793 := Nat.ne_of_lt (Nat.lt_of_lt_of_le vx185.lt bx1801)
    have g1808 : n0 ≤ b1793 := Nat.le_trans (own_old O1792) bx1801
    have Z1810 : h0.size ≤ h19.size := (Nat.le_trans Z195 K19.1)
    have B1809 : h0.size ≤ b1793 := Nat.le_trans Z1810 bx1801
    refine own_via (fun t k => st1725 t (XS.pop X1725.here hx rfl (hb hby at_18) rfl rfl k)) ?_
    have E1811 : Exa Z h1725 b163 zs2 := (ex180.keep K1725)
    have F1812 : Fld Z h1725 b163 zs2 "wordsInUse" "I" (.int (0 : Int32)) := (fx181.keep K1725 (ninS (Ne.symm N199) nin0))
    have F1813 : Fld Z h1725 b163 zs2 "words" "[J" (.ref b164) := (fx183.keep K1725 (ninS (Ne.symm N199) nin0))
    have V1814 : Arv Z h1725 b164 k165 .long (4 : Int32) [] (.long (0 : Int64)) := (vx185.keep K1725 (ninS (Ne.symm N202) nin0))
    have l1815 : own_Len Z h1725 b164 .long (4 : Int32) := ⟨_, _, _, V1814⟩
    have F1816 : Fld Z h1725 b163 zs2 zs5 "Z" (.int (1 : Int32)) := (fx182.keep K1725 (ninS (Ne.symm N199) nin0))
    have E1817 : Exa Z h1725 b160 zs2 := (ex173.keep K1725)
    have F1818 : Fld Z h1725 b160 zs2 "wordsInUse" "I" (.int (0 : Int32)) := (fx174.keep K1725 (ninS (Ne.symm N192) nin0))
    have F1819 : Fld Z h1725 b160 zs2 "words" "[J" (.ref b161) := (fx176.keep K1725 (ninS (Ne.symm N192) nin0))
    have V1820 : Arv Z h1725 b161 k162 .long (4 : Int32) [] (.long (0 : Int64)) := (vx178.keep K1725 (ninS (Ne.symm N196) nin0))
    have l1821 : own_Len Z h1725 b161 .long (4 : Int32) := ⟨_, _, _, V1820⟩
    have F1822 : Fld Z h1725 b160 zs2 zs5 "Z" (.int (1 : Int32)) := (fx175.keep K1725 (ninS (Ne.symm N192) nin0))
    have O1823 : Old Z n0 h1725 := (O1792.keep K1725 (allS g12 all0))
    exact sfx7 l Z a0 hw ws i0 i1 i2 i0 i1 i2 b11 b160 b163 w6 b164 k165 b161 k162 kc_w6 Bd hZ hml (X1725.more (by decide) (by decide)) h1725 e1725 n0 O1823 N1725 fx1798 ex1795 g12 fx1796 fx1797 fx1799 fx1800 S_TelnetOptions_NO_ANSWER S_BitSet__assertionsDisabled E1811 F1812 N199 F1813 l1815 N202 g200 F1816 V1814 nx191 g203 E1817 F1818 N192 F1819 l1821 N196 g193 F1822 V1820 nx186 g197 SV_w6
set_option maxRecDepth 65536 in
set_option maxHeartbeats 40000000 in
theorem comes_1 {Post : Tables → Env → Array Value → State → Outcome → State → Prop} (hpost : ∀ tb e args s v u, (limb_1_1.after args s (.returned v) u = true ∧ limb_1_2.after args s (.returned v) u = true ∧ True) → FrameEnd s (.returned v) u (Jvm.fieldLocs frame_1_writes args s ++ Jvm.arrayLocs frame_1_arrays args s ++ Jvm.staticLocs frame_1_statics s) 32 128 → Post tb e args s (.returned v) u) :
    ArmFor flags0 classFile x code maxLocals ret World_1 tables_1 room_1 Calls_1 rest_1 Pre_1 Post := by
  intro l hfl _ _ p e ha hc hk s m args below hf hA hF happ hP
  obtain ⟨hcalls, hrest, hpre⟩ := hP
  obtain ⟨-, -, -, hnamed, -, -, -, hat⟩ := (Spec.applies_iff hf).mp happ
  obtain ⟨hg, hn⟩ := and_e (Cond.before_iff.mp (show (Jvm.Cond.and given_1 narrow_1).before args s = true from hpre))
  obtain ⟨g1824, g1825⟩ := and_e hg
  obtain ⟨g1826, g1827⟩ := and_e g1825
  obtain ⟨g1828, g1829⟩ := and_e g1827
  obtain ⟨w0, w1, w2, rfl⟩ : ∃ w0 w1 w2 : Value, args = #[w0, w1, w2] := by
    have hs : args.size = 3 := by simpa [Cond.value, given_1] using g1824
    obtain ⟨L⟩ := args
    match L, hs with
    | [w0, w1, w2], _ => exact ⟨w0, w1, w2, rfl⟩
  have hw := fun d (hd : d ∈ tables_1) => atoms_spec (ws := Jvm.Cond.code x code maxLocals ret :: tables_1) hat d (List.mem_cons_of_mem _ hd)
  have hfit : Fit s := fun {y c} hc i hi => by
    obtain ⟨ha, rfl⟩ := Array.getElem?_eq_some_iff.mp hc
    have q := List.all_eq_true.mp ((Array.all_eq_true_iff_forall_mem.mp hF) _ (Array.getElem_mem ha)) i (List.mem_range.mpr hi)
    simpa [Array.getElem?_eq_getElem hi] using q
  obtain ⟨hsets, hown0⟩ := atoms_of _ (rest_1_c_eq ▸ (show rest_1_c.before _ s = true from hrest))
  obtain ⟨n1, n2⟩ := and_e hn
  have u3 := Cond.before_iff.mp (hsets _ (List.mem_of_getElem? (i := 0) rfl))
  have u4 := Cond.before_iff.mp (hsets _ (List.mem_of_getElem? (i := 1) rfl))
  have u5 := Cond.before_iff.mp (hsets _ (List.mem_of_getElem? (i := 2) rfl))
  obtain ⟨w6, ev7⟩ := arr_v n1
  have S_TelnetOptions_NO_ANSWER : Sta s s.heap zs1 "NO_ANSWER" "[B" (.ref w6) := Sta.start ev7 (Or.inr ⟨(wd hw 2 rfl), (wd hw 56 rfl)⟩)
  obtain ⟨cl8, Acl8⟩ := Arr.start ev7 n1
  obtain ⟨kc_w6, SV_w6⟩ : ∃ kc, Arv s s.heap w6 kc .byte (0 : Int32) [] (.int (0 : Int32)) := ⟨_, own_arv0 hfit Acl8 ev7 n2⟩
  have ev9 := Cond.eq_int (show (Jvm.Cond.eq _ _).holds _ _ _ _ _ = true from Cond.before_iff.mpr u5) rfl
  have S_BitSet__assertionsDisabled : Sta s s.heap zs2 zs6 "Z" (.int (1 : Int32)) := Sta.start ev9 (Or.inl (hsets _ (List.mem_of_getElem? (i := 1) rfl)))
  obtain ⟨i0, ei0⟩ := is_v g1826
  obtain rfl : w0 = (.int i0) := Option.some.inj ei0
  obtain ⟨i1, ei1⟩ := is_v g1828
  obtain rfl : w1 = (.int i1) := Option.some.inj ei1
  obtain ⟨i2, ei2⟩ := is_v g1829
  obtain rfl : w2 = (.int i2) := Option.some.inj ei2
  obtain ⟨n, o, h1, h2, h3, _, L, rfl, ⟨rfl, N⟩, hq⟩ := rm0 l s _ hw tables_1 i0 i1 i2 w6 kc_w6 s.heap s.heap.size (Old.start s) S_TelnetOptions_NO_ANSWER S_BitSet__assertionsDisabled SV_w6 p e ha hc hk s m _ below hf ((Spec.applies_iff_loose hf).mp happ).1 ⟨rfl, State.Warmed39.refl s, rfl⟩ trivial
  refine ⟨n, _, h1, h2, h3, hpost _ _ _ _ _ _ ⟨Cond.after_iff.mpr rfl, Cond.after_iff.mpr (eq_i res_at (Term.int_eval (1)) rfl), trivial⟩ ⟨hq.1, hq.2.1, (hq.2.2.sift fun y hy => Or.inr (N y hy)).mono (by decide) (by decide)⟩⟩
theorem main_1_1 : Claimed_1_1 := comes_1 fun _ _ _ _ _ _ h hF => ⟨h.1, hF⟩
theorem main_1_2 : Claimed_1_2 := comes_1 fun _ _ _ _ _ _ h hF => ⟨h.2.1, hF⟩
end Jvm.Pilot.@@N@@
namespace Jvm.Pilot.@@N@@
open Jvm Jvm.ClassFile Sem Op Lib Jvm.Free Jvm.Stand Jvm.Pilot.@@N@@.Jvm.D
/-! MADE BY PROGRAM (witnessworld.py) out of the Statement's table words and the real class files: 12 classes; the members and pool entries that the words name. The judged class is class 1, her method 3. -/
namespace start1
open Jvm.ClassFile
def u (s : String) : CpInfo := .utf8 (stringToUtf16 s)
/-- a pool by its gaps: so many unusable entries, then the entry; so many at the end -/
def gap : Nat → List CpInfo → List CpInfo
  | 0, r => r
  | n + 1, r => .unusable :: gap n r
def poolList (es : List (Nat × CpInfo)) (last : Nat) : List CpInfo := es.foldr (fun e r => gap e.1 (e.2 :: r)) (gap last [])
def pool (es : List (Nat × CpInfo)) (last : Nat) : Array CpInfo := ⟨poolList es last⟩
def fileOf (pool : Array CpInfo) (this : Nat) (attrs : Array Attribute := #[]) (ms : Array MethodInfo := #[]) (fl : Nat := 33) (sup : Nat := 0) (ifs : Array Nat := #[]) (fds : Array FieldInfo := #[]) : ClassFile where
  minorVersion := 0
  majorVersion := 65
  constantPool := pool
  accessFlags := fl
  thisClass := this
  superClass := sup
  interfaces := ifs
  fields := fds
  methods := ms
  attributes := attrs
def plain (name : String) (sup : Option ClassId) : Class where
  name := name
  kind := .ordinary
  loader := none
  accessFlags := 33
  super := sup
  interfaces := #[]
  cf := none
  fields := #[]
  methods := #[]
  instanceTypes := #[]
  staticTypes := #[]
  resolved := #[]
  callSites := []
  init := .initialized
  statics := none
  mirror := none

def pool0 : Array CpInfo := pool [(5, u "<init>"), (0, u "()V"), (1, .class_ 10), (1, u "java/lang/Object")] 113

def k0c0 : Code := { maxStack := 0, maxLocals := 1, code := object_method_1_code, exceptionTable := #[], attributes := #[] }
def k0m0 : Method := { name := "<init>", desc := "()V", sig := { parameters := [], returnType := none }, accessFlags := 1, code := some k0c0 }
/-- java/lang/Object -/
def k0 : Class := { plain "java/lang/Object" none with
  accessFlags := 33
  interfaces := #[]
  cf := some (fileOf pool0 8 #[] #[{ accessFlags := 1, nameIndex := 5, descriptorIndex := 6, attributes := #[] }] 33 0 #[] #[])
  fields := #[]
  methods := #[k0m0]
  instanceTypes := #[]
  staticTypes := #[]
  resolved := Array.replicate 124 none
  statics := none }

def pool1 : Array CpInfo := pool [(2, .class_ 4), (0, .nameAndType 5 6), (0, u "java/lang/Object"), (0, u "<init>"), (0, u "()V"), (0, .class_ 8), (0, u "com/example/hearthkey/hearthkey/gateway/transport/TelnetOptions"), (0, .methodref 7 3), (0, .methodref 7 11), (0, .nameAndType 12 13), (0, u "withdrawEcho"), (0, u "()[B"), (0, .methodref 7 15), (0, .nameAndType 16 13), (0, u "offerEcho"), (0, .methodref 18 19), (0, .class_ 20), (0, .nameAndType 21 22), (0, u "com/example/hearthkey/hearthkey/gateway/transport/TelnetOptionsOfferEchoPinLaw"), (0, u "isCmd"), (0, u "([BII)Z"), (0, .integer 2147483647), (0, .methodref 7 25), (0, .nameAndType 26 27), (0, u "answer"), (0, u "(II)[B"), (0, .methodref 18 29), (0, .nameAndType 30 31), (0, u "isEmpty"), (0, u "([B)Z"), (3, u "law"), (0, u "(III)Z")] 4

def k1m0 : Method := { name := "<init>", desc := "()V", sig := { parameters := [], returnType := none }, accessFlags := 1, code := none }
def k1c1 : Code := { maxStack := 2, maxLocals := 3, code := method_2_code, exceptionTable := #[], attributes := #[] }
def k1m1 : Method := { name := "isCmd", desc := "([BII)Z", sig := { parameters := [(.array .byte), .int, .int], returnType := some .boolean }, accessFlags := 10, code := some k1c1 }
def k1c2 : Code := { maxStack := 1, maxLocals := 1, code := method_3_code, exceptionTable := #[], attributes := #[] }
def k1m2 : Method := { name := "isEmpty", desc := "([B)Z", sig := { parameters := [(.array .byte)], returnType := some .boolean }, accessFlags := 10, code := some k1c2 }
def k1c3 : Code := { maxStack := 3, maxLocals := 11, code := code, exceptionTable := #[], attributes := #[] }
def k1m3 : Method := { name := "law", desc := "(III)Z", sig := { parameters := [.int, .int, .int], returnType := some .boolean }, accessFlags := 9, code := some k1c3 }
/-- com/example/hearthkey/hearthkey/gateway/transport/TelnetOptionsOfferEchoPinLaw -/
def k1 : Class := { plain "com/example/hearthkey/hearthkey/gateway/transport/TelnetOptionsOfferEchoPinLaw" (some 0) with
  accessFlags := 49
  interfaces := #[]
  cf := some (fileOf pool1 18 #[] #[{ accessFlags := 1, nameIndex := 5, descriptorIndex := 6, attributes := #[] }, { accessFlags := 10, nameIndex := 21, descriptorIndex := 22, attributes := #[] }, { accessFlags := 10, nameIndex := 30, descriptorIndex := 31, attributes := #[] }, { accessFlags := 9, nameIndex := 35, descriptorIndex := 36, attributes := #[] }] 49 2 #[] #[])
  fields := #[]
  methods := #[k1m0, k1m1, k1m2, k1m3]
  instanceTypes := #[]
  staticTypes := #[]
  resolved := Array.replicate 41 none
  statics := none }

def pool2 : Array CpInfo := pool [(1, .methodref 2 3), (0, .class_ 4), (0, .nameAndType 5 6), (0, u "java/lang/Object"), (0, u "<init>"), (0, u "()V"), (0, .class_ 8), (0, u "java/util/BitSet"), (0, .methodref 7 10), (0, .nameAndType 5 11), (0, u "(I)V"), (0, .fieldref 13 14), (0, .class_ 15), (0, .nameAndType 16 17), (0, u "com/example/hearthkey/hearthkey/gateway/transport/TelnetOptions"), (0, u "refusedWill"), (0, u "Ljava/util/BitSet;"), (0, .fieldref 13 19), (0, .nameAndType 20 17), (0, u "refusedDo"), (0, .fieldref 13 22), (0, .nameAndType 23 24), (0, u "echoOffered"), (0, u "Z"), (0, .fieldref 13 26), (0, .nameAndType 27 28), (0, u "NO_ANSWER"), (0, u "[B"), (0, .fieldref 13 30), (0, .nameAndType 31 24), (0, u "gmcpOffered"), (0, .fieldref 13 33), (0, .nameAndType 34 24), (0, u "gmcpOn"), (4, .methodref 7 40), (0, .nameAndType 41 42), (0, u "get"), (0, u "(I)Z"), (0, .methodref 7 44), (0, .nameAndType 45 11), (0, u "set"), (0, .methodref 13 47), (0, .nameAndType 48 49), (0, u "command"), (0, u "(II)[B"), (0, u "IAC"), (0, u "I"), (2, u "DONT"), (1, u "DO"), (1, u "WONT"), (1, u "WILL"), (1, u "ECHO"), (1, u "GMCP"), (3, u "answer"), (2, u "()[B"), (1, u "offerEcho"), (0, u "withdrawEcho")] 4

def k2c0 : Code := { maxStack := 4, maxLocals := 1, code := prog_61_method_1_code, exceptionTable := #[], attributes := #[] }
def k2m0 : Method := { name := "<init>", desc := "()V", sig := { parameters := [], returnType := none }, accessFlags := 0, code := some k2c0 }
def k2c1 : Code := { maxStack := 3, maxLocals := 4, code := prog_61_method_2_code, exceptionTable := #[], attributes := #[] }
def k2m1 : Method := { name := "answer", desc := "(II)[B", sig := { parameters := [.int, .int], returnType := some (.array .byte) }, accessFlags := 0, code := some k2c1 }
def k2c2 : Code := { maxStack := 2, maxLocals := 1, code := prog_61_method_5_code, exceptionTable := #[], attributes := #[] }
def k2m2 : Method := { name := "offerEcho", desc := "()[B", sig := { parameters := [], returnType := some (.array .byte) }, accessFlags := 0, code := some k2c2 }
def k2c3 : Code := { maxStack := 2, maxLocals := 1, code := prog_61_method_6_code, exceptionTable := #[], attributes := #[] }
def k2m3 : Method := { name := "withdrawEcho", desc := "()[B", sig := { parameters := [], returnType := some (.array .byte) }, accessFlags := 0, code := some k2c3 }
def k2c4 : Code := { maxStack := 4, maxLocals := 2, code := prog_61_method_8_code, exceptionTable := #[], attributes := #[] }
def k2m4 : Method := { name := "command", desc := "(II)[B", sig := { parameters := [.int, .int], returnType := some (.array .byte) }, accessFlags := 10, code := some k2c4 }
/-- com/example/hearthkey/hearthkey/gateway/transport/TelnetOptions -/
def k2 : Class := { plain "com/example/hearthkey/hearthkey/gateway/transport/TelnetOptions" (some 0) with
  accessFlags := 48
  interfaces := #[]
  cf := some (fileOf pool2 13 #[] #[{ accessFlags := 0, nameIndex := 5, descriptorIndex := 6, attributes := #[] }, { accessFlags := 0, nameIndex := 68, descriptorIndex := 49, attributes := #[] }, { accessFlags := 0, nameIndex := 73, descriptorIndex := 71, attributes := #[] }, { accessFlags := 0, nameIndex := 74, descriptorIndex := 71, attributes := #[] }, { accessFlags := 10, nameIndex := 48, descriptorIndex := 49, attributes := #[] }] 48 2 #[] #[{ accessFlags := 24, nameIndex := 50, descriptorIndex := 51, attributes := #[] }, { accessFlags := 24, nameIndex := 54, descriptorIndex := 51, attributes := #[] }, { accessFlags := 24, nameIndex := 56, descriptorIndex := 51, attributes := #[] }, { accessFlags := 24, nameIndex := 58, descriptorIndex := 51, attributes := #[] }, { accessFlags := 24, nameIndex := 60, descriptorIndex := 51, attributes := #[] }, { accessFlags := 24, nameIndex := 62, descriptorIndex := 51, attributes := #[] }, { accessFlags := 24, nameIndex := 64, descriptorIndex := 51, attributes := #[] }, { accessFlags := 26, nameIndex := 27, descriptorIndex := 28, attributes := #[] }, { accessFlags := 18, nameIndex := 16, descriptorIndex := 17, attributes := #[] }, { accessFlags := 18, nameIndex := 20, descriptorIndex := 17, attributes := #[] }, { accessFlags := 2, nameIndex := 23, descriptorIndex := 24, attributes := #[] }, { accessFlags := 2, nameIndex := 31, descriptorIndex := 24, attributes := #[] }, { accessFlags := 2, nameIndex := 34, descriptorIndex := 24, attributes := #[] }])
  fields := #[{ name := "IAC", type := .int, accessFlags := 24, slot := 0, constantValue := 0 }, { name := "DONT", type := .int, accessFlags := 24, slot := 1, constantValue := 0 }, { name := "DO", type := .int, accessFlags := 24, slot := 2, constantValue := 0 }, { name := "WONT", type := .int, accessFlags := 24, slot := 3, constantValue := 0 }, { name := "WILL", type := .int, accessFlags := 24, slot := 4, constantValue := 0 }, { name := "ECHO", type := .int, accessFlags := 24, slot := 5, constantValue := 0 }, { name := "GMCP", type := .int, accessFlags := 24, slot := 6, constantValue := 0 }, { name := "NO_ANSWER", type := (.array .byte), accessFlags := 26, slot := 7, constantValue := 0 }, { name := "refusedWill", type := (.object "java/util/BitSet"), accessFlags := 18, slot := 0, constantValue := 0 }, { name := "refusedDo", type := (.object "java/util/BitSet"), accessFlags := 18, slot := 1, constantValue := 0 }, { name := "echoOffered", type := .boolean, accessFlags := 2, slot := 2, constantValue := 0 }, { name := "gmcpOffered", type := .boolean, accessFlags := 2, slot := 3, constantValue := 0 }, { name := "gmcpOn", type := .boolean, accessFlags := 2, slot := 4, constantValue := 0 }]
  methods := #[k2m0, k2m1, k2m2, k2m3, k2m4]
  instanceTypes := #[(.object "java/util/BitSet"), (.object "java/util/BitSet"), .boolean, .boolean, .boolean]
  staticTypes := #[.int, .int, .int, .int, .int, .int, .int, (.array .byte)]
  resolved := Array.replicate 79 none
  statics := some 0 }

def pool3 : Array CpInfo := pool [(1, .class_ 2), (0, u "java/lang/Cloneable"), (0, .class_ 4), (0, u "java/lang/Object")] 2

/-- java/lang/Cloneable -/
def k3 : Class := { plain "java/lang/Cloneable" (some 0) with
  accessFlags := 1537
  interfaces := #[]
  cf := some (fileOf pool3 1 #[] #[] 1537 3 #[] #[])
  fields := #[]
  methods := #[]
  instanceTypes := #[]
  staticTypes := #[]
  resolved := Array.replicate 7 none
  statics := none }

def pool4 : Array CpInfo := pool [(1, .class_ 2), (0, u "java/io/Serializable"), (0, .class_ 4), (0, u "java/lang/Object")] 2

/-- java/io/Serializable -/
def k4 : Class := { plain "java/io/Serializable" (some 0) with
  accessFlags := 1537
  interfaces := #[]
  cf := some (fileOf pool4 1 #[] #[] 1537 3 #[] #[])
  fields := #[]
  methods := #[]
  instanceTypes := #[]
  staticTypes := #[]
  resolved := Array.replicate 7 none
  statics := none }

def pool5 : Array CpInfo := pool [(1, .class_ 2), (0, u "java/util/BitSet"), (0, .fieldref 1 4), (0, .nameAndType 5 6), (0, u "$assertionsDisabled"), (0, u "Z"), (0, .fieldref 1 8), (0, .nameAndType 9 10), (0, u "wordsInUse"), (0, u "I"), (0, .fieldref 1 12), (0, .nameAndType 13 14), (0, u "words"), (0, u "[J"), (3, .nameAndType 19 20), (0, u "<init>"), (0, u "()V"), (0, .methodref 22 18), (0, .class_ 23), (0, u "java/lang/Object"), (0, .fieldref 1 25), (0, .nameAndType 26 6), (0, u "sizeIsSticky"), (0, .methodref 1 28), (0, .nameAndType 29 30), (0, u "initWords"), (0, u "(I)V"), (21, .methodref 1 53), (0, .nameAndType 54 55), (0, u "wordIndex"), (0, u "(I)I"), (0, .methodref 1 57), (0, .nameAndType 58 20), (0, u "checkInvariants"), (21, u "get"), (58, .methodref 1 140), (0, .nameAndType 141 30), (0, u "ensureCapacity"), (13, .methodref 1 156), (0, .nameAndType 157 30), (0, u "expandTo"), (11, u "set"), (99, .class_ 270), (0, u "java/util/BitSet$1BitSetSpliterator"), (22, u "serialPersistentFields"), (0, u "[Ljava/io/ObjectStreamField;"), (0, .class_ 296), (0, u "java/lang/Cloneable"), (0, .class_ 298), (0, u "java/io/Serializable"), (0, u "ADDRESS_BITS_PER_WORD"), (2, u "BITS_PER_WORD"), (1, u "BIT_INDEX_MASK"), (1, u "WORD_MASK"), (0, u "J"), (0, u "serialVersionUID"), (42, u "(I)Z")] 65

def k5c0 : Code := { maxStack := 2, maxLocals := 1, code := jdk_92_method_1_code, exceptionTable := #[], attributes := #[] }
def k5m0 : Method := { name := "wordIndex", desc := "(I)I", sig := { parameters := [.int], returnType := some .int }, accessFlags := 10, code := some k5c0 }
def k5c1 : Code := { maxStack := 4, maxLocals := 1, code := jdk_92_method_2_code, exceptionTable := #[], attributes := #[] }
def k5m1 : Method := { name := "checkInvariants", desc := "()V", sig := { parameters := [], returnType := none }, accessFlags := 2, code := some k5c1 }
def k5m2 : Method := { name := "<init>", desc := "()V", sig := { parameters := [], returnType := none }, accessFlags := 1, code := none }
def k5c3 : Code := { maxStack := 4, maxLocals := 2, code := jdk_92_method_5_code, exceptionTable := #[], attributes := #[] }
def k5m3 : Method := { name := "<init>", desc := "(I)V", sig := { parameters := [.int], returnType := none }, accessFlags := 1, code := some k5c3 }
def k5c4 : Code := { maxStack := 3, maxLocals := 2, code := jdk_92_method_6_code, exceptionTable := #[], attributes := #[] }
def k5m4 : Method := { name := "initWords", desc := "(I)V", sig := { parameters := [.int], returnType := none }, accessFlags := 2, code := some k5c4 }
def k5c5 : Code := { maxStack := 3, maxLocals := 3, code := jdk_92_method_14_code, exceptionTable := #[], attributes := #[] }
def k5m5 : Method := { name := "ensureCapacity", desc := "(I)V", sig := { parameters := [.int], returnType := none }, accessFlags := 2, code := some k5c5 }
def k5c6 : Code := { maxStack := 2, maxLocals := 3, code := jdk_92_method_15_code, exceptionTable := #[], attributes := #[] }
def k5m6 : Method := { name := "expandTo", desc := "(I)V", sig := { parameters := [.int], returnType := none }, accessFlags := 2, code := some k5c6 }
def k5c7 : Code := { maxStack := 7, maxLocals := 3, code := jdk_92_method_19_code, exceptionTable := #[], attributes := #[] }
def k5m7 : Method := { name := "set", desc := "(I)V", sig := { parameters := [.int], returnType := none }, accessFlags := 1, code := some k5c7 }
def k5c8 : Code := { maxStack := 5, maxLocals := 3, code := jdk_92_method_26_code, exceptionTable := #[], attributes := #[] }
def k5m8 : Method := { name := "get", desc := "(I)Z", sig := { parameters := [.int], returnType := some .boolean }, accessFlags := 1, code := some k5c8 }
/-- java/util/BitSet -/
def k5 : Class := { plain "java/util/BitSet" (some 0) with
  accessFlags := 33
  interfaces := #[3, 4]
  cf := some (fileOf pool5 1 #[.nestMembers #[269]] #[{ accessFlags := 10, nameIndex := 54, descriptorIndex := 55, attributes := #[] }, { accessFlags := 2, nameIndex := 58, descriptorIndex := 20, attributes := #[] }, { accessFlags := 1, nameIndex := 19, descriptorIndex := 20, attributes := #[] }, { accessFlags := 1, nameIndex := 19, descriptorIndex := 30, attributes := #[] }, { accessFlags := 2, nameIndex := 29, descriptorIndex := 30, attributes := #[] }, { accessFlags := 2, nameIndex := 141, descriptorIndex := 30, attributes := #[] }, { accessFlags := 2, nameIndex := 157, descriptorIndex := 30, attributes := #[] }, { accessFlags := 1, nameIndex := 169, descriptorIndex := 30, attributes := #[] }, { accessFlags := 1, nameIndex := 80, descriptorIndex := 351, attributes := #[] }] 33 22 #[295, 297] #[{ accessFlags := 26, nameIndex := 299, descriptorIndex := 10, attributes := #[] }, { accessFlags := 26, nameIndex := 302, descriptorIndex := 10, attributes := #[] }, { accessFlags := 26, nameIndex := 304, descriptorIndex := 10, attributes := #[] }, { accessFlags := 26, nameIndex := 306, descriptorIndex := 307, attributes := #[] }, { accessFlags := 26, nameIndex := 293, descriptorIndex := 294, attributes := #[] }, { accessFlags := 2, nameIndex := 13, descriptorIndex := 14, attributes := #[] }, { accessFlags := 130, nameIndex := 9, descriptorIndex := 10, attributes := #[] }, { accessFlags := 130, nameIndex := 26, descriptorIndex := 6, attributes := #[] }, { accessFlags := 26, nameIndex := 308, descriptorIndex := 307, attributes := #[] }, { accessFlags := 4120, nameIndex := 5, descriptorIndex := 6, attributes := #[] }])
  fields := #[{ name := "ADDRESS_BITS_PER_WORD", type := .int, accessFlags := 26, slot := 0, constantValue := 0 }, { name := "BITS_PER_WORD", type := .int, accessFlags := 26, slot := 1, constantValue := 0 }, { name := "BIT_INDEX_MASK", type := .int, accessFlags := 26, slot := 2, constantValue := 0 }, { name := "WORD_MASK", type := .long, accessFlags := 26, slot := 3, constantValue := 0 }, { name := "serialPersistentFields", type := (.array (.object "java/io/ObjectStreamField")), accessFlags := 26, slot := 4, constantValue := 0 }, { name := "words", type := (.array .long), accessFlags := 2, slot := 0, constantValue := 0 }, { name := "wordsInUse", type := .int, accessFlags := 130, slot := 1, constantValue := 0 }, { name := "sizeIsSticky", type := .boolean, accessFlags := 130, slot := 2, constantValue := 0 }, { name := "serialVersionUID", type := .long, accessFlags := 26, slot := 5, constantValue := 0 }, { name := "$assertionsDisabled", type := .boolean, accessFlags := 4120, slot := 6, constantValue := 0 }]
  methods := #[k5m0, k5m1, k5m2, k5m3, k5m4, k5m5, k5m6, k5m7, k5m8]
  instanceTypes := #[(.array .long), .int, .boolean]
  staticTypes := #[.int, .int, .int, .long, (.array (.object "java/io/ObjectStreamField")), .long, .boolean]
  resolved := Array.replicate 417 none
  statics := some 1 }

/-- the primitive byte -/
def k6 : Class := { plain "byte" none with kind := .primitive 'B', accessFlags := 0x411 }
/-- [B -/
def k7 : Class := { plain "[B" (some 0) with kind := .array 6 .byte, interfaces := #[3, 4], accessFlags := 1041 }

/-- the primitive int -/
def k8 : Class := { plain "int" none with kind := .primitive 'I', accessFlags := 0x411 }
/-- [I -/
def k9 : Class := { plain "[I" (some 0) with kind := .array 8 .int, interfaces := #[3, 4], accessFlags := 1041 }

/-- the primitive long -/
def k10 : Class := { plain "long" none with kind := .primitive 'J', accessFlags := 0x411 }
/-- [J -/
def k11 : Class := { plain "[J" (some 0) with kind := .array 10 .long, interfaces := #[3, 4], accessFlags := 1041 }

def heap : Heap := #[{ cls := 2, slots := #[.int 0, .int 0, .int 0, .int 0, .int 0, .int 0, .int 0, .ref 2], vm := .statics 2 },
  { cls := 5, slots := #[.int 0, .int 0, .int 0, .long 0, .null, .long 0, .int 1], vm := .statics 5 },
  { cls := 7, slots := #[], vm := .none }]
def classes : Array Class := #[k0, k1, k2, k3, k4, k5, k6, k7, k8, k9, k10, k11]
def interned : List (Array UInt16 × Addr) := []
def slotsUsed : Nat := 15
def theMethod : MethodId := ⟨1, 3⟩
def args0 : Array Value := #[.int 5, .int 5, .int 5]
def aboutOver (below : List Frame) : State where
  vm := { classes := classes, interned := interned.toArray }
  heap := heap
  slotsUsed := slotsUsed
  threads := #[{ frames := .invoking theMethod args0 :: below }]
def below0 : List Frame := [.native { method := ⟨0, 0⟩, args := #[] }]
def about1 : State := aboutOver below0
def p0 : Program := .bare "" "" ""
def e0 : Env := launch0.env 0 0 0
theorem w_frames : about1.frames = Frame.invoking theMethod args0 :: below0 := rfl
set_option maxRecDepth 65536 in
theorem w_args : argsFit about1.vm theMethod args0 = true := by decide +kernel
set_option maxRecDepth 65536 in
theorem w_heap : heapFits about1 = true := by decide +kernel
set_option maxRecDepth 65536 in
theorem w_runnable : about1.curStatus? = some .runnable := by decide +kernel
set_option maxRecDepth 65536 in
theorem w_alone : about1.alone = true := by decide +kernel
set_option maxRecDepth 65536 in
theorem w_named : about1.methodNamed? x = some theMethod := by decide +kernel
set_option maxRecDepth 65536 in
theorem w_hears : about1.hears theMethod below0 = true := by decide +kernel
set_option maxRecDepth 65536 in
theorem w_ripe : about1.ripe theMethod args0 below0 = true := by decide +kernel
theorem w_running : about1.status = .running := rfl
set_option maxRecDepth 65536 in
theorem w_room : about1.hasRoom e0.platform room_1 = true :=
  launch0.hasRoom_least _ room_1 (by decide +kernel) (by decide +kernel) (by decide +kernel) (by decide +kernel) (by decide +kernel) (by decide +kernel)
theorem allAtoms_all (ts : List Jvm.Cond) (a : Array Jvm.Value) (st : Jvm.State) : (allAtoms ts).before a st = ts.all (fun c => c.before a st) := by
  induction ts with
  | nil => rfl
  | cons c t ih =>
    show (Jvm.Cond.and c (allAtoms t)).before a st = _
    rw [Jvm.Cond.before_and, ih, List.all_cons]
def words1 : List Jvm.Cond := Jvm.Cond.code x code maxLocals ret :: tables_1
/-- a 'code' word, met by the world's own term for the bytes: nothing is compared byte by byte -/
theorem code_word {y : MethodName} {bytes : ByteArray} {mx : Nat} {rt : Option FieldType} {a : Array Value} {s : State} {m : MethodId} {meth : Method} {c : Code} (h1 : s.methodNamed? y = some m) (h2 : s.vm.method? m = some meth) (h3 : meth.code = some c) (h4 : c.code = bytes)
    (h5 : (c.maxLocals == mx && c.exceptionTable.isEmpty && decide (c.maxStack ≤ mostOperands) && decide (meth.sig.returnType = rt) && !meth.locks && decide (parseMethodDescriptor y.desc = some meth.sig)) = true) : (Jvm.Cond.code y bytes mx rt).before a s = true := by
  simp only [Bool.and_eq_true, beq_iff_eq, Bool.not_eq_true', decide_eq_true_eq] at h5
  obtain ⟨⟨⟨⟨⟨g1, g2⟩, g3⟩, g4⟩, g5⟩, g6⟩ := h5
  simp [Cond.before, Cond.holds, Cond.value, h1, h2, h3, h4, g1, g2, g3, g4, g5, g6]
def isCode : Jvm.Cond → Bool
  | .code _ _ _ _ => true
  | _ => false
theorem all_split {L : List Jvm.Cond} {P : Jvm.Cond → Bool} (h1 : L.all (fun c => isCode c || P c) = true) (h2 : ∀ c ∈ L.filter isCode, P c = true) : L.all P = true := by
  refine List.all_eq_true.mpr fun c hc => ?_
  have h := List.all_eq_true.mp h1 c hc
  rcases Bool.eq_false_or_eq_true (isCode c) with hi | hi
  · exact h2 c (List.mem_filter.mpr ⟨hc, hi⟩)
  · simpa [hi] using h
set_option maxRecDepth 65536 in
theorem w_c0 : (Jvm.Cond.code x code maxLocals ret).before args0 about1 = true := code_word (m := ⟨1, 3⟩) (meth := k1m3) (c := k1c3) (by decide +kernel) rfl rfl rfl (by decide +kernel)
set_option maxRecDepth 65536 in
theorem w_c1 : (Jvm.Cond.code ({ cls := "com/example/hearthkey/hearthkey/gateway/transport/TelnetOptions", name := "<init>", desc := "()V" } : Jvm.MethodName) prog_61_method_1_code (1 : Nat) (Option.none : Option Jvm.ClassFile.FieldType)).before args0 about1 = true := code_word (m := ⟨2, 0⟩) (meth := k2m0) (c := k2c0) (by decide +kernel) rfl rfl rfl (by decide +kernel)
set_option maxRecDepth 65536 in
theorem w_c2 : (Jvm.Cond.code ({ cls := "java/lang/Object", name := "<init>", desc := "()V" } : Jvm.MethodName) object_method_1_code (1 : Nat) (Option.none : Option Jvm.ClassFile.FieldType)).before args0 about1 = true := code_word (m := ⟨0, 0⟩) (meth := k0m0) (c := k0c0) (by decide +kernel) rfl rfl rfl (by decide +kernel)
set_option maxRecDepth 65536 in
theorem w_c3 : (Jvm.Cond.code ({ cls := "java/util/BitSet", name := "<init>", desc := "(I)V" } : Jvm.MethodName) jdk_92_method_5_code (2 : Nat) (Option.none : Option Jvm.ClassFile.FieldType)).before args0 about1 = true := code_word (m := ⟨5, 3⟩) (meth := k5m3) (c := k5c3) (by decide +kernel) rfl rfl rfl (by decide +kernel)
set_option maxRecDepth 65536 in
theorem w_c4 : (Jvm.Cond.code ({ cls := "java/util/BitSet", name := "initWords", desc := "(I)V" } : Jvm.MethodName) jdk_92_method_6_code (2 : Nat) (Option.none : Option Jvm.ClassFile.FieldType)).before args0 about1 = true := code_word (m := ⟨5, 4⟩) (meth := k5m4) (c := k5c4) (by decide +kernel) rfl rfl rfl (by decide +kernel)
set_option maxRecDepth 65536 in
theorem w_c5 : (Jvm.Cond.code ({ cls := "java/util/BitSet", name := "wordIndex", desc := "(I)I" } : Jvm.MethodName) jdk_92_method_1_code (1 : Nat) (Option.some Jvm.ClassFile.FieldType.int)).before args0 about1 = true := code_word (m := ⟨5, 0⟩) (meth := k5m0) (c := k5c0) (by decide +kernel) rfl rfl rfl (by decide +kernel)
set_option maxRecDepth 65536 in
theorem w_c6 : (Jvm.Cond.code ({ cls := "com/example/hearthkey/hearthkey/gateway/transport/TelnetOptions", name := "offerEcho", desc := "()[B" } : Jvm.MethodName) prog_61_method_5_code (1 : Nat) (Option.some (Jvm.ClassFile.FieldType.array Jvm.ClassFile.FieldType.byte))).before args0 about1 = true := code_word (m := ⟨2, 2⟩) (meth := k2m2) (c := k2c2) (by decide +kernel) rfl rfl rfl (by decide +kernel)
set_option maxRecDepth 65536 in
theorem w_c7 : (Jvm.Cond.code ({ cls := "com/example/hearthkey/hearthkey/gateway/transport/TelnetOptions", name := "command", desc := "(II)[B" } : Jvm.MethodName) prog_61_method_8_code (2 : Nat) (Option.some (Jvm.ClassFile.FieldType.array Jvm.ClassFile.FieldType.byte))).before args0 about1 = true := code_word (m := ⟨2, 4⟩) (meth := k2m4) (c := k2c4) (by decide +kernel) rfl rfl rfl (by decide +kernel)
set_option maxRecDepth 65536 in
theorem w_c8 : (Jvm.Cond.code ({ cls := "com/example/hearthkey/hearthkey/gateway/transport/TelnetOptionsOfferEchoPinLaw", name := "isCmd", desc := "([BII)Z" } : Jvm.MethodName) method_2_code (3 : Nat) (Option.some Jvm.ClassFile.FieldType.boolean)).before args0 about1 = true := code_word (m := ⟨1, 1⟩) (meth := k1m1) (c := k1c1) (by decide +kernel) rfl rfl rfl (by decide +kernel)
set_option maxRecDepth 65536 in
theorem w_c9 : (Jvm.Cond.code ({ cls := "com/example/hearthkey/hearthkey/gateway/transport/TelnetOptions", name := "answer", desc := "(II)[B" } : Jvm.MethodName) prog_61_method_2_code (4 : Nat) (Option.some (Jvm.ClassFile.FieldType.array Jvm.ClassFile.FieldType.byte))).before args0 about1 = true := code_word (m := ⟨2, 1⟩) (meth := k2m1) (c := k2c1) (by decide +kernel) rfl rfl rfl (by decide +kernel)
set_option maxRecDepth 65536 in
theorem w_c10 : (Jvm.Cond.code ({ cls := "com/example/hearthkey/hearthkey/gateway/transport/TelnetOptionsOfferEchoPinLaw", name := "isEmpty", desc := "([B)Z" } : Jvm.MethodName) method_3_code (1 : Nat) (Option.some Jvm.ClassFile.FieldType.boolean)).before args0 about1 = true := code_word (m := ⟨1, 2⟩) (meth := k1m2) (c := k1c2) (by decide +kernel) rfl rfl rfl (by decide +kernel)
set_option maxRecDepth 65536 in
theorem w_c11 : (Jvm.Cond.code ({ cls := "com/example/hearthkey/hearthkey/gateway/transport/TelnetOptions", name := "withdrawEcho", desc := "()[B" } : Jvm.MethodName) prog_61_method_6_code (1 : Nat) (Option.some (Jvm.ClassFile.FieldType.array Jvm.ClassFile.FieldType.byte))).before args0 about1 = true := code_word (m := ⟨2, 3⟩) (meth := k2m3) (c := k2c3) (by decide +kernel) rfl rfl rfl (by decide +kernel)
set_option maxRecDepth 65536 in
theorem w_c12 : (Jvm.Cond.code ({ cls := "java/util/BitSet", name := "get", desc := "(I)Z" } : Jvm.MethodName) jdk_92_method_26_code (3 : Nat) (Option.some Jvm.ClassFile.FieldType.boolean)).before args0 about1 = true := code_word (m := ⟨5, 8⟩) (meth := k5m8) (c := k5c8) (by decide +kernel) rfl rfl rfl (by decide +kernel)
set_option maxRecDepth 65536 in
theorem w_c13 : (Jvm.Cond.code ({ cls := "java/util/BitSet", name := "checkInvariants", desc := "()V" } : Jvm.MethodName) jdk_92_method_2_code (1 : Nat) (Option.none : Option Jvm.ClassFile.FieldType)).before args0 about1 = true := code_word (m := ⟨5, 1⟩) (meth := k5m1) (c := k5c1) (by decide +kernel) rfl rfl rfl (by decide +kernel)
set_option maxRecDepth 65536 in
theorem w_c14 : (Jvm.Cond.code ({ cls := "java/util/BitSet", name := "set", desc := "(I)V" } : Jvm.MethodName) jdk_92_method_19_code (3 : Nat) (Option.none : Option Jvm.ClassFile.FieldType)).before args0 about1 = true := code_word (m := ⟨5, 7⟩) (meth := k5m7) (c := k5c7) (by decide +kernel) rfl rfl rfl (by decide +kernel)
set_option maxRecDepth 65536 in
theorem w_c15 : (Jvm.Cond.code ({ cls := "java/util/BitSet", name := "expandTo", desc := "(I)V" } : Jvm.MethodName) jdk_92_method_15_code (3 : Nat) (Option.none : Option Jvm.ClassFile.FieldType)).before args0 about1 = true := code_word (m := ⟨5, 6⟩) (meth := k5m6) (c := k5c6) (by decide +kernel) rfl rfl rfl (by decide +kernel)
set_option maxRecDepth 65536 in
theorem w_c16 : (Jvm.Cond.code ({ cls := "java/util/BitSet", name := "ensureCapacity", desc := "(I)V" } : Jvm.MethodName) jdk_92_method_14_code (3 : Nat) (Option.none : Option Jvm.ClassFile.FieldType)).before args0 about1 = true := code_word (m := ⟨5, 5⟩) (meth := k5m5) (c := k5c5) (by decide +kernel) rfl rfl rfl (by decide +kernel)
def codes1 : List Jvm.Cond := [Jvm.Cond.code x code maxLocals ret, Jvm.Cond.code ({ cls := "com/example/hearthkey/hearthkey/gateway/transport/TelnetOptions", name := "<init>", desc := "()V" } : Jvm.MethodName) prog_61_method_1_code (1 : Nat) (Option.none : Option Jvm.ClassFile.FieldType), Jvm.Cond.code ({ cls := "java/lang/Object", name := "<init>", desc := "()V" } : Jvm.MethodName) object_method_1_code (1 : Nat) (Option.none : Option Jvm.ClassFile.FieldType), Jvm.Cond.code ({ cls := "java/util/BitSet", name := "<init>", desc := "(I)V" } : Jvm.MethodName) jdk_92_method_5_code (2 : Nat) (Option.none : Option Jvm.ClassFile.FieldType), Jvm.Cond.code ({ cls := "java/util/BitSet", name := "initWords", desc := "(I)V" } : Jvm.MethodName) jdk_92_method_6_code (2 : Nat) (Option.none : Option Jvm.ClassFile.FieldType), Jvm.Cond.code ({ cls := "java/util/BitSet", name := "wordIndex", desc := "(I)I" } : Jvm.MethodName) jdk_92_method_1_code (1 : Nat) (Option.some Jvm.ClassFile.FieldType.int), Jvm.Cond.code ({ cls := "com/example/hearthkey/hearthkey/gateway/transport/TelnetOptions", name := "offerEcho", desc := "()[B" } : Jvm.MethodName) prog_61_method_5_code (1 : Nat) (Option.some (Jvm.ClassFile.FieldType.array Jvm.ClassFile.FieldType.byte)), Jvm.Cond.code ({ cls := "com/example/hearthkey/hearthkey/gateway/transport/TelnetOptions", name := "command", desc := "(II)[B" } : Jvm.MethodName) prog_61_method_8_code (2 : Nat) (Option.some (Jvm.ClassFile.FieldType.array Jvm.ClassFile.FieldType.byte)), Jvm.Cond.code ({ cls := "com/example/hearthkey/hearthkey/gateway/transport/TelnetOptionsOfferEchoPinLaw", name := "isCmd", desc := "([BII)Z" } : Jvm.MethodName) method_2_code (3 : Nat) (Option.some Jvm.ClassFile.FieldType.boolean), Jvm.Cond.code ({ cls := "com/example/hearthkey/hearthkey/gateway/transport/TelnetOptions", name := "answer", desc := "(II)[B" } : Jvm.MethodName) prog_61_method_2_code (4 : Nat) (Option.some (Jvm.ClassFile.FieldType.array Jvm.ClassFile.FieldType.byte)), Jvm.Cond.code ({ cls := "com/example/hearthkey/hearthkey/gateway/transport/TelnetOptionsOfferEchoPinLaw", name := "isEmpty", desc := "([B)Z" } : Jvm.MethodName) method_3_code (1 : Nat) (Option.some Jvm.ClassFile.FieldType.boolean), Jvm.Cond.code ({ cls := "com/example/hearthkey/hearthkey/gateway/transport/TelnetOptions", name := "withdrawEcho", desc := "()[B" } : Jvm.MethodName) prog_61_method_6_code (1 : Nat) (Option.some (Jvm.ClassFile.FieldType.array Jvm.ClassFile.FieldType.byte)), Jvm.Cond.code ({ cls := "java/util/BitSet", name := "get", desc := "(I)Z" } : Jvm.MethodName) jdk_92_method_26_code (3 : Nat) (Option.some Jvm.ClassFile.FieldType.boolean), Jvm.Cond.code ({ cls := "java/util/BitSet", name := "checkInvariants", desc := "()V" } : Jvm.MethodName) jdk_92_method_2_code (1 : Nat) (Option.none : Option Jvm.ClassFile.FieldType), Jvm.Cond.code ({ cls := "java/util/BitSet", name := "set", desc := "(I)V" } : Jvm.MethodName) jdk_92_method_19_code (3 : Nat) (Option.none : Option Jvm.ClassFile.FieldType), Jvm.Cond.code ({ cls := "java/util/BitSet", name := "expandTo", desc := "(I)V" } : Jvm.MethodName) jdk_92_method_15_code (3 : Nat) (Option.none : Option Jvm.ClassFile.FieldType), Jvm.Cond.code ({ cls := "java/util/BitSet", name := "ensureCapacity", desc := "(I)V" } : Jvm.MethodName) jdk_92_method_14_code (3 : Nat) (Option.none : Option Jvm.ClassFile.FieldType)]
set_option maxRecDepth 65536 in
theorem codes_eq : words1.filter isCode = codes1 := rfl
theorem w_codes : ∀ c ∈ words1.filter isCode, c.before args0 about1 = true := by
  rw [codes_eq]
  intro c hc
  simp only [codes1, List.mem_cons, List.not_mem_nil, or_false] at hc
  rcases hc with rfl | rfl | rfl | rfl | rfl | rfl | rfl | rfl | rfl | rfl | rfl | rfl | rfl | rfl | rfl | rfl | rfl
  · exact w_c0
  · exact w_c1
  · exact w_c2
  · exact w_c3
  · exact w_c4
  · exact w_c5
  · exact w_c6
  · exact w_c7
  · exact w_c8
  · exact w_c9
  · exact w_c10
  · exact w_c11
  · exact w_c12
  · exact w_c13
  · exact w_c14
  · exact w_c15
  · exact w_c16
set_option maxRecDepth 65536 in
theorem w_t1 : (words1.take 24).all (fun c => isCode c || c.before args0 about1) = true := by decide +kernel
set_option maxRecDepth 65536 in
theorem w_t2 : ((words1.drop 24).take 24).all (fun c => isCode c || c.before args0 about1) = true := by decide +kernel
set_option maxRecDepth 65536 in
theorem w_t3 : (((words1.drop 24).drop 24).take 24).all (fun c => isCode c || c.before args0 about1) = true := by decide +kernel
set_option maxRecDepth 65536 in
theorem w_t4 : ((((words1.drop 24).drop 24).drop 24).take 24).all (fun c => isCode c || c.before args0 about1) = true := by decide +kernel
set_option maxRecDepth 65536 in
theorem w_t5 : ((((words1.drop 24).drop 24).drop 24).drop 24).all (fun c => isCode c || c.before args0 about1) = true := by decide +kernel
theorem w_tables : (allAtoms (Jvm.Cond.code x code maxLocals ret :: tables_1)).before args0 about1 = true := by
  rw [allAtoms_all]
  show words1.all (fun c => c.before args0 about1) = true
  refine all_split ?_ w_codes
  rw [← List.take_append_drop 24 words1, List.all_append, w_t1, ← List.take_append_drop 24 (words1.drop 24), List.all_append, w_t2, ← List.take_append_drop 24 ((words1.drop 24).drop 24), List.all_append, w_t3, ← List.take_append_drop 24 (((words1.drop 24).drop 24).drop 24), List.all_append, w_t4, w_t5]
  rfl
set_option maxRecDepth 65536 in
theorem w_rest : rest_1_c.before args0 about1 = true := by decide +kernel
set_option maxRecDepth 65536 in
theorem w_case : (Jvm.Cond.and given_1 narrow_1).before args0 about1 = true := by decide +kernel
theorem w_applies : (headSpec (Jvm.Cond.code x code maxLocals ret :: tables_1) room_1).applies x e0.platform about1 = true :=
  (Spec.applies_iff w_frames).mpr ⟨w_running, w_runnable, w_alone, w_named, w_hears, w_ripe, w_room, w_tables⟩
theorem atStart : AtStart classFile x code maxLocals ret World_1 tables_1 room_1 Calls_1 rest_1 Pre_1 launch0 p0 e0 about1 theMethod args0 below0 :=
  ⟨lists_1, trivial, launch0.admits_env _ _ _, launch0.least_env, fairChoices_fair.cas, fairChoices_fair.clock, w_frames, w_args, w_heap, w_applies, trivial, w_rest, w_case⟩
end start1
theorem witness_1 : WitnessClaimed_1 := ⟨start1.p0, start1.e0, start1.about1, start1.theMethod, start1.args0, start1.below0, start1.atStart⟩
end Jvm.Pilot.@@N@@
