import JvmDerived
import JvmDerived.Pilot.@@N@@Statement
import JvmDerived.Pilot.@@N@@Code
set_option linter.unusedVariables false
set_option linter.unusedSimpArgs false
@@BLOCK:NumsL.lean.txt@@
@@BLOCK:LamKit.lean.txt@@
namespace Jvm.RoadKit
open Sem ClassFile Op Lib Jvm.Stand Jvm.Free Jvm.LawKit
section New
variable {p : Program} {l : Launch} {e : Env} {R : Room} {s : State} {m : MethodId} {args : Array Value} {below : List Frame} {meth : Method} {c : Code} {T : State} {locs : List Loc} {cells slots : Nat}
theorem retI (X : Stand p l e R s m args below meth c T locs cells slots) (hx : p.tables.exec = Jvm.exec) {pc : Nat} {Ls : Array Slot} {z : Int32} {rest : List Value} (hret : meth.sig.returnType = some .int) (hd : decode c.code pc = .ok (.ireturn, 1)) {fs : List Frame}
    (hl : ∀ (f : JFrame) (acts : List Action), f.method = m → f.locked = none → f.entered = [] → (doReturn e (T.setTop f) acts (some (.int z))).1 = T.setFrames fs) : Steps p.tables e below (T.setTop (mkF m pc Ls (.int z :: rest))) (T.setFrames fs) := by
  have hm' : T.vm.method? m = some meth := X.method'
  have hn : narrow .int (.int z) = .int z := rfl
  show Steps p.tables e below (T.setTop { method := m, pc := pc, locals := Ls, stack := _ :: rest, locked := none }) _
  jvm_step X.here [X.here.top, hx, hd, hm', hret, hn]
  first | (intro acts; rw [hl _ acts rfl rfl rfl]) | rw [hl _ _ rfl rfl rfl]
  exact Steps.refl _
end New
end Jvm.RoadKit
namespace Jvm.Pilot.@@N@@
open Jvm Jvm.ClassFile Sem Op Lib Jvm.Free Jvm.Stand Jvm.LawKit Jvm.RoadKit Bundle Jvm.Pilot.@@N@@.Jvm.D
/-! own_Goes: from S the run comes to some state of which G holds: such a goal may be split in the middle of a walk -/
def own_Goes (p : Program) (e : Env) (below : List Frame) (S : State) (G : State → Prop) : Prop := ∃ t, Steps p.tables e below S t ∧ G t
theorem own_via {p : Program} {e : Env} {below : List Frame} {S S' : State} {G : State → Prop} (f : ∀ t, Steps p.tables e below S' t → Steps p.tables e below S t) (h : own_Goes p e below S' G) : own_Goes p e below S G := by
  obtain ⟨t, h1, h2⟩ := h
  exact ⟨t, f t h1, h2⟩
theorem own_end {p : Program} {e : Env} {below : List Frame} {S t : State} {G : State → Prop} (h : Steps p.tables e below S t) (g : G t) : own_Goes p e below S G := ⟨t, h, g⟩
theorem own_out {p : Program} {e : Env} {below : List Frame} {S : State} {P : State → Outcome → Prop} (h : own_Goes p e below S (fun t => ∃ o, t.status = .running ∧ Ended t below o ∧ P t o)) : ∃ t o, Steps p.tables e below S t ∧ t.status = .running ∧ Ended t below o ∧ P t o := by
  obtain ⟨t, h1, o, h2, h3, h4⟩ := h
  exact ⟨t, o, h1, h2, h3, h4⟩
theorem wd {a0 : Array Value} {Z : State} (hw : ∀ d ∈ tables_1, d.before a0 Z = true) (i : Nat) {d : Jvm.Cond} (h : tables_1[i]? = some d) : d.before a0 Z = true := hw _ (List.mem_of_getElem? h)
theorem own_old {Z : State} {n0 : Nat} {h : Heap} (O : Old Z n0 h) : n0 ≤ h.size := by rw [← O.1]; exact O.2.1
def own_Q0 (n0 : Nat) (v : Option Value) (L : List Loc) : Prop := v = some (.int (1 : Int32)) ∧ Fr n0 L
def own_G (s : State) (below : List Frame) (n0 : Nat) (t : State) : Prop := ∃ o, t.status = .running ∧ Ended t below o ∧ ∃ v L, o = .returned v ∧ own_Q0 n0 v L ∧ FrameEnd s o t L room_1.cells room_1.slots
def own_Len (Z : State) (h : Heap) (a : Addr) (ty : FieldType) (n : Int32) : Prop := ∃ k vs d, Arv Z h a k ty n vs d
theorem own_len_ext {Z : State} {h h' : Heap} {a : Addr} {ty : FieldType} {n : Int32} (F : own_Len Z h a ty n) (E : Ext h h') : own_Len Z h' a ty n := by
  obtain ⟨k, vs, d, V⟩ := F
  exact ⟨k, vs, d, V.ext E⟩
theorem own_len_other {Z : State} {h h' : Heap} {a b : Addr} {sl : Nat} {v : Value} {ty : FieldType} {n : Int32} (F : own_Len Z h b ty n) (W : Wr h h' a sl v) (q : b ≠ a) : own_Len Z h' b ty n := by
  obtain ⟨k, vs, d, V⟩ := F
  exact ⟨k, vs, d, V.other W q⟩
theorem own_len_keep {Z : State} {h h' : Heap} {a : Addr} {ws : List Addr} {ty : FieldType} {n : Int32} (F : own_Len Z h a ty n) (K : Keep h h' ws) (q : a ∉ ws) : own_Len Z h' a ty n := by
  obtain ⟨k, vs, d, V⟩ := F
  exact ⟨k, vs, d, V.keep K q⟩
theorem own_len_lt {Z : State} {h : Heap} {a : Addr} {ty : FieldType} {n : Int32} (F : own_Len Z h a ty n) : a < h.size := by
  obtain ⟨k, vs, d, V⟩ := F
  exact V.lt
theorem own_c2 (x : Int32) : x.toUInt32.toUInt16.toUInt32.toInt32.toUInt32.toUInt16.toUInt32.toInt32 = x.toUInt32.toUInt16.toUInt32.toInt32 := by rw [UInt32.toUInt32_toInt32, UInt16.toUInt16_toUInt32]
theorem own_b2 (x : Int32) : x.toInt8.toInt32.toInt8.toInt32 = x.toInt8.toInt32 := by rw [Int8.toInt8_toInt32]
section Calls
variable {p : Program} {l : Launch} {e : Env} {R : Room} {s : State} {m : MethodId} {args : Array Value} {below : List Frame} {meth : Method} {c : Code} {T : State} {locs : List Loc} {cells slots : Nat} {Z : State} {a0 : Array Value} {h : Heap} {own C : String} {index : Nat} {y : MethodName} {bytes : ByteArray} {maxL : Nat} {rm : Room} {Q : Option Value → Heap → List Loc → Prop} {a : Addr} {argsL : List Value} {g : JFrame}
/-! a call by its contract, in one step: virtual (the class's own method), a constructor, static -/
theorem own_cv {ret : Option FieldType} (X : Stand p l e R s m args below meth c T locs cells slots) (hx : p.tables.exec = Jvm.exec) (hZ : Z.Warmed39 s.vm) (hown : s.vm.findClass own = some m.cls) (w1 : (Jvm.Cond.methodLink own index y).before a0 Z = true) (w2 : (Jvm.Cond.declares y).before a0 Z = true) (w3 : (Jvm.Cond.selects C y y).before a0 Z = true) (w4 : (Jvm.Cond.instanceMethod y).before a0 Z = true) (wc : (Jvm.Cond.code y bytes maxL ret).before a0 Z = true) (wz : (Jvm.Cond.initialized y.cls).before a0 Z = true) (hy : y.cls ≠ "java/lang/invoke/MethodHandle" ∧ y.cls ≠ "java/lang/invoke/VarHandle")
    (hM : MetFree l y (head1 [Jvm.Cond.code y bytes maxL ret] rm) (fun A U => A = (.ref a :: argsL).toArray ∧ Z.Warmed39 U.vm ∧ U.heap = h) (fun _ _ _ _ _ => True) (fun _ U o U' => ∃ v L, o = .returned v ∧ Q v U'.heap L ∧ FrameEnd U o U' L rm.cells rm.slots)) (eT : T.heap = h) (E : Exa Z h a C) (hg : g.method = m) (hsize : g.locals.size = c.maxLocals) {rest : List Value} {W : Nat}
    (hlen : ∀ sig, parseMethodDescriptor y.desc = some sig → argsL.length = sig.parameters.length) (hstack : g.stack = argsL.reverse ++ .ref a :: rest) (hW : 2 * g.monitorRoom + (rest.map fun v => v.category).sum ≤ W) (hdg : decode c.code g.pc = .ok (.invokevirtual index, 3)) (r1 : rm.frames + 1 ≤ R.frames) (r2 : W + (maxL + 11) + rm.locals ≤ R.locals) (r3 : cells + rm.cells ≤ R.cells) (r4 : slots + rm.slots ≤ R.slots) :
    ∃ (v : Option Value) (T' : State) (L : List Loc), Stand p l e R s m args below meth c T' (locs ++ L) (cells + rm.cells) (slots + rm.slots) ∧ Q v T'.heap L ∧ ∀ t, Steps p.tables e below (T'.setTop { g with pc := g.pc + 3, stack := v.toList ++ rest }) t → Steps p.tables e below (T.setTop g) t := by
  obtain ⟨cq, kq, qa, -, qc⟩ := isOf hZ eT E
  obtain ⟨v, _, ⟨T', L', c', n'⟩, -, X', ⟨Lc, hQ, l1, y1, z1⟩, st⟩ := X.virtualBack hx (y := y) (z := y) hown (mvT hZ w1) (mvT hZ w2) (notFace_of_selects (args := #[]) (mvT hZ w3)) (mvT hZ w3) (mvT hZ w4) hy (backOf (W := W) hM hZ wc wz r1 r2) qa qc (g := g) hg hsize (Steps.refl _) (argsL := argsL) (rest := rest) hlen hstack hW hdg (fun _ _ => ⟨rfl, eT, r3, r4⟩)
  dsimp only [Pt.U, Pt.locs, Pt.cells, Pt.slots] at X' l1 y1 z1 st hQ
  subst l1 y1 z1
  exact ⟨v, T', Lc, X', hQ, fun t k => st.trans k⟩
theorem own_ci (X : Stand p l e R s m args below meth c T locs cells slots) (hx : p.tables.exec = Jvm.exec) (hZ : Z.Warmed39 s.vm) (hown : s.vm.findClass own = some m.cls) (w1 : (Jvm.Cond.methodLink own index y).before a0 Z = true) (w4 : (Jvm.Cond.instanceMethod y).before a0 Z = true) (wc : (Jvm.Cond.code y bytes maxL none).before a0 Z = true) (wz : (Jvm.Cond.initialized y.cls).before a0 Z = true) (hi : y.name = "<init>") (hy : y.cls ≠ "java/lang/invoke/MethodHandle" ∧ y.cls ≠ "java/lang/invoke/VarHandle")
    (hM : MetFree l y (head1 [Jvm.Cond.code y bytes maxL none] rm) (fun A U => A = (.ref a :: argsL).toArray ∧ Z.Warmed39 U.vm ∧ U.heap = h) (fun _ _ _ _ _ => True) (fun _ U o U' => ∃ v L, o = .returned v ∧ Q v U'.heap L ∧ FrameEnd U o U' L rm.cells rm.slots)) (eT : T.heap = h) (hg : g.method = m) (hsize : g.locals.size = c.maxLocals) {rest : List Value} {W : Nat}
    (hlen : ∀ sig, parseMethodDescriptor y.desc = some sig → argsL.length = sig.parameters.length) (hstack : g.stack = argsL.reverse ++ .ref a :: rest) (hW : 2 * g.monitorRoom + (rest.map fun v => v.category).sum ≤ W) (hdg : decode c.code g.pc = .ok (.invokespecial index, 3)) (r1 : rm.frames + 1 ≤ R.frames) (r2 : W + (maxL + 11) + rm.locals ≤ R.locals) (r3 : cells + rm.cells ≤ R.cells) (r4 : slots + rm.slots ≤ R.slots) :
    ∃ (v : Option Value) (T' : State) (L : List Loc), Stand p l e R s m args below meth c T' (locs ++ L) (cells + rm.cells) (slots + rm.slots) ∧ Q v T'.heap L ∧ ∀ t, Steps p.tables e below (T'.setTop { g with pc := g.pc + 3, stack := v.toList ++ rest }) t → Steps p.tables e below (T.setTop g) t := by
  obtain ⟨v, _, ⟨T', L', c', n'⟩, -, X', ⟨Lc, hQ, l1, y1, z1⟩, st⟩ := X.specialBack hx (y := y) hi hown (mvT hZ w1) (mvT hZ w4) (mvT hZ wc) hy (backOf (W := W) hM hZ wc wz r1 r2) (g := g) hg hsize (Steps.refl _) (a := a) (argsL := argsL) (rest := rest) hlen hstack hW hdg (fun _ _ => ⟨rfl, eT, r3, r4⟩)
  dsimp only [Pt.U, Pt.locs, Pt.cells, Pt.slots] at X' l1 y1 z1 st hQ
  subst l1 y1 z1
  exact ⟨v, T', Lc, X', hQ, fun t k => st.trans k⟩
theorem own_cs {ret : Option FieldType} (X : Stand p l e R s m args below meth c T locs cells slots) (hx : p.tables.exec = Jvm.exec) (hZ : Z.Warmed39 s.vm) (hown : s.vm.findClass own = some m.cls) (w1 : (Jvm.Cond.methodLink own index y).before a0 Z = true) (w4 : (Jvm.Cond.static y).before a0 Z = true) (wc : (Jvm.Cond.code y bytes maxL ret).before a0 Z = true) (wz : (Jvm.Cond.initialized y.cls).before a0 Z = true) (hy : y.cls ≠ "java/lang/invoke/MethodHandle" ∧ y.cls ≠ "java/lang/invoke/VarHandle")
    (hM : MetFree l y (head1 [Jvm.Cond.code y bytes maxL ret] rm) (fun A U => A = argsL.toArray ∧ Z.Warmed39 U.vm ∧ U.heap = h) (fun _ _ _ _ _ => True) (fun _ U o U' => ∃ v L, o = .returned v ∧ Q v U'.heap L ∧ FrameEnd U o U' L rm.cells rm.slots)) (eT : T.heap = h) (hg : g.method = m) (hsize : g.locals.size = c.maxLocals) {rest : List Value} {W : Nat}
    (hlen : ∀ sig, parseMethodDescriptor y.desc = some sig → argsL.length = sig.parameters.length) (hstack : g.stack = argsL.reverse ++ rest) (hW : 2 * g.monitorRoom + (rest.map fun v => v.category).sum ≤ W) (hdg : decode c.code g.pc = .ok (.invokestatic index, 3)) (r1 : rm.frames + 1 ≤ R.frames) (r2 : W + (maxL + 11) + rm.locals ≤ R.locals) (r3 : cells + rm.cells ≤ R.cells) (r4 : slots + rm.slots ≤ R.slots) :
    ∃ (v : Option Value) (T' : State) (L : List Loc), Stand p l e R s m args below meth c T' (locs ++ L) (cells + rm.cells) (slots + rm.slots) ∧ Q v T'.heap L ∧ ∀ t, Steps p.tables e below (T'.setTop { g with pc := g.pc + 3, stack := v.toList ++ rest }) t → Steps p.tables e below (T.setTop g) t := by
  obtain ⟨v, _, ⟨T', L', c', n'⟩, -, X', ⟨Lc, hQ, l1, y1, z1⟩, st⟩ := Jvm.LawKit.callS X hx (y := y) hown (mvT hZ w1) (mvT hZ w4) (mvT hZ wz) (mvT hZ wc) hy (backOf (W := W) hM hZ wc wz r1 r2) (g := g) hg hsize (argsL := argsL) (rest := rest) hlen hstack hW hdg (fun _ _ => ⟨rfl, eT, r3, r4⟩)
  dsimp only [Pt.U, Pt.locs, Pt.cells, Pt.slots] at X' l1 y1 z1 st hQ
  subst l1 y1 z1
  exact ⟨v, T', Lc, X', hQ, st⟩
end Calls
theorem own_eq_ref {args : Array Value} {s : State} {a b : Term} {w : Addr} (h : (Jvm.Cond.eq a b).value args s none s [] = some true) (hb : b.eval args s none [] s = some (.ref w)) : a.eval args s none [] s = some (.ref w) := by
  obtain ⟨x, y, e1, e2, k1, k2⟩ := cmp_v (Or.inl h)
  rw [hb] at e2
  cases e2
  have hx : x.isRef = true := by cases x <;> simp_all [Kin, Value.isRef]
  have q := gotT (eq_R e1 hb hx rfl) h
  rw [e1, q]
theorem own_ne_ref {args : Array Value} {s : State} {a b : Term} {u w : Addr} (h : (Jvm.Cond.not (Jvm.Cond.eq a b)).value args s none s [] = some true) (ha : a.eval args s none [] s = some (.ref u)) (hb : b.eval args s none [] s = some (.ref w)) : u ≠ w := fun q => gotF (eq_R ha hb rfl rfl) (not_v h) (by rw [q])
theorem own_nn_mask (x m : Int32) (k : Nat) (hk : k < 32) (hm : m.toBitVec.toNat = 2 ^ k - 1) : ¬ ((x &&& m) < (0 : Int32)) := by
  rw [Int32.lt_iff_toInt_lt, Jvm.Kit.i32_mask x m hk hm]
  have h := Int.emod_nonneg x.toInt (show ((2 : Int) ^ k) ≠ 0 from Int.ne_of_gt (Int.pow_pos (by decide)))
  rw [Int32.toInt_zero]
  omega
theorem own_lt_mask (x m : Int32) (k : Nat) (hk : k < 32) (hm : m.toBitVec.toNat = 2 ^ k - 1) {n : Int32} (hn : n.toInt = 2 ^ k) : (x &&& m) < n := by
  rw [Int32.lt_iff_toInt_lt, Jvm.Kit.i32_mask x m hk hm, hn]
  exact Int.emod_lt_of_pos _ (Int.pow_pos (by decide))
theorem own_nn_rem {x : Int32} (n : Int32) (h : ¬ (x < (0 : Int32))) : ¬ (x % n < (0 : Int32)) := by
  rw [Int32.lt_iff_toInt_lt, Int32.toInt_zero] at h ⊢
  rw [Int32.toInt_mod]
  have := Int.tmod_nonneg n.toInt (show 0 ≤ x.toInt by omega)
  omega
theorem own_pos {n : Int32} (h : (0 : Int32) < n) : 0 < n.toInt := by
  rw [Int32.lt_iff_toInt_lt, Int32.toInt_zero] at h
  exact h
theorem own_ne0 {n : Int32} (h : (0 : Int32) < n) : n ≠ 0 := fun q => by
  rw [q] at h
  exact absurd h (by decide)
theorem own_lt_rem {x : Int32} (n : Int32) (h : ¬ (x < (0 : Int32))) (hn : 0 < n.toInt) : x % n < n := by
  rw [Int32.lt_iff_toInt_lt] at h ⊢
  rw [Int32.toInt_zero] at h
  rw [Jvm.Kit.i32_rem_nonneg (by omega)]
  exact Int.emod_lt_of_pos _ hn
theorem own_modlo (x n : Int32) (hn : 0 < n.toInt) : 0 ≤ ((x &&& (2147483647 : Int32)) % n).toInt := by
  have a := Jvm.Kit.i32_mask x 2147483647 (k := 31) (by decide) (by decide)
  rw [Jvm.Kit.i32_rem_nonneg (by omega)]
  exact Int.emod_nonneg _ (by omega)
theorem own_modhi (x n : Int32) (hn : 0 < n.toInt) : ((x &&& (2147483647 : Int32)) % n).toInt < n.toInt := by
  have a := Jvm.Kit.i32_mask x 2147483647 (k := 31) (by decide) (by decide)
  rw [Jvm.Kit.i32_rem_nonneg (by omega)]
  exact Int.emod_lt_of_pos _ hn
theorem own_ci1 {x : Int32} (h : ¬ (x < (-128 : Int32))) (h2 : ¬ ((127 : Int32) < x)) : ¬ ((x + (128 : Int32)) < (0 : Int32)) ∧ (x + (128 : Int32)) < (256 : Int32) := by
  rw [Int32.lt_iff_toInt_lt] at h h2
  have a : (-128 : Int32).toInt = -128 := by decide
  have b : (127 : Int32).toInt = 127 := by decide
  have c : (128 : Int32).toInt = 128 := by decide
  have d : (256 : Int32).toInt = 256 := by decide
  have s := Jvm.Kit.i32_add (p := x) (q := 128) (by omega) (by omega)
  rw [Int32.lt_iff_toInt_lt, Int32.lt_iff_toInt_lt, Int32.toInt_zero, s]
  omega

abbrev zs1 : String := "tertium/Tertium"
abbrev zs2 : String := "java/lang/Integer"
abbrev zs3 : String := "Ljava/lang/Object;"
abbrev zs4 : String := "Ltertium/Tertium;"
abbrev zs5 : String := "(Ljava/lang/Object;)Ltertium/Tertium;"
abbrev zs6 : String := "java/lang/Object"
abbrev zs7 : String := "java/lang/Integer$IntegerCache"
abbrev zs8 : String := "()Ljava/lang/Object;"
abbrev zs9 : String := "(Ljava/lang/Object;)V"
abbrev zs10 : String := "isNullOrAbsent"
abbrev zs11 : String := "[Ljava/lang/Integer;"
abbrev zs12 : String := "java/lang/Number"
theorem own_initFor {args : Array Value} {s : State} {C n d n' d' : String} (l1 : (Jvm.Cond.laysStatic C n d).before args s = true) (i1 : (Jvm.Cond.initializedFor C n d).before args s = true) (l2 : (Jvm.Cond.laysStatic C n' d').before args s = true) : (Jvm.Cond.initializedFor C n' d').before args s = true := by
  obtain ⟨c, k, i, f, _, _, q1, q2, -⟩ := Cond.laysStatic_spec l1
  obtain ⟨c', k', i', f', _, _, r1, r2, -⟩ := Cond.laysStatic_spec l2
  cases q1.symm.trans r1
  cases (State.fieldFound?_class q2).symm.trans (State.fieldFound?_class r2)
  have q := Cond.initializedFor_spec q2 i1
  simp [Cond.before, Cond.holds, Cond.value, r2, q]
theorem own_len31 {args : Array Value} {s : State} {t : Term} {a : Addr} {c : Cell} {ty : FieldType} {n : Int32} (ev : t.eval args s none [] s = some (.ref a)) (A : Arr s s.heap a c ty) (h : (Jvm.Cond.eq (.length t) (.int n)).value args s none s [] = some true) : c.slots.size < 2 ^ 31 ∧ c.slots.size.toInt32 = n := by
  have hl := Cond.eq_int (show (Jvm.Cond.eq (.length t) (.int n)).holds args s none s [] = true from Cond.before_iff.mpr h) rfl
  have hA : s.arrayAt? a = some c := Arr.fin (Vm.Alike.refl _) A
  have h31 := SBG.length_lt ev hA hl
  have e := len_f ev hA h31
  exact ⟨h31, by simpa using Option.some.inj (e.symm.trans hl)⟩
theorem own_sub_at {args : Array Value} {first s : State} {o : Option Outcome} {idx : List Nat} {a : Term} {x n : Int32} (h : a.eval args first o idx s = some (.int x)) : (Term.sub a (.int n)).eval args first o idx s = some (.int (x - n)) := by simp [Term.eval, h]
theorem d11_0 : decode jdk_33_method_22_code 0 = .ok (.iload_n 0, 1) := by decide +kernel
theorem d11_1 : decode jdk_33_method_22_code 1 = .ok (.bipush (-128), 2) := by decide +kernel
theorem d11_3 : decode jdk_33_method_22_code 3 = .ok (.if_icmp .lt 20, 3) := by decide +kernel
theorem d11_23 : decode jdk_33_method_22_code 23 = .ok (.new 1, 3) := by decide +kernel
theorem d11_26 : decode jdk_33_method_22_code 26 = .ok (.dup, 1) := by decide +kernel
theorem d11_27 : decode jdk_33_method_22_code 27 = .ok (.iload_n 0, 1) := by decide +kernel
theorem d11_28 : decode jdk_33_method_22_code 28 = .ok (.invokespecial 199, 3) := by decide +kernel
theorem d12_0 : decode jdk_33_method_23_code 0 = .ok (.aload_n 0, 1) := by decide +kernel
theorem d12_1 : decode jdk_33_method_23_code 1 = .ok (.invokespecial 202, 3) := by decide +kernel
theorem d13_0 : decode jdk_18_method_1_code 0 = .ok (.aload_n 0, 1) := by decide +kernel
theorem d13_1 : decode jdk_18_method_1_code 1 = .ok (.invokespecial 1, 3) := by decide +kernel
theorem d13_4 : decode jdk_18_method_1_code 4 = .ok (.return_, 1) := by decide +kernel
theorem ef_1 (m : MethodId) (x0 : Addr) : entryFrame m #[(.ref x0)] 1 = mkF m 0 #[rv x0] [] := by first | (simp [entryFrame, mkF, argsToLocals, Value.category]; done) | rfl
theorem pn_1 : plainName "java/lang/Number" = true := by first | (simp [plainName, overriddenIn]; done) | decide +kernel
def Q1 (Z : State) (a47 : Addr) (h0 : Heap) (n0 : Nat) (v : Option Value) (h : Heap) (L : List Loc) : Prop := v = none ∧ Fr n0 L ∧ h = h0
set_option maxRecDepth 65536 in
set_option maxHeartbeats 40000000 in
theorem rm1 (l : Launch) (Z : State) (a0 : Array Value) (hw : ∀ d ∈ tables_1, d.before a0 Z = true) (ws : List Jvm.Cond) (a47 : Addr) (h0 : Heap) (n0 : Nat) (O0 : Old Z n0 h0) :
    MetFree l (⟨zs12, "<init>", "()V"⟩ : MethodName) (head1 (Jvm.Cond.code (⟨zs12, "<init>", "()V"⟩ : MethodName) jdk_18_method_1_code 1 none :: ws) ({ frames := 1, cells := 0, slots := 0, locals := 12 } : Room)) (fun a U => a = #[(.ref a47)] ∧ Z.Warmed39 U.vm ∧ U.heap = h0) (fun _ _ _ _ _ => True) (fun _ U o U' => ∃ v L, o = .returned v ∧ Q1 Z a47 h0 n0 v U'.heap L ∧ FrameEnd U o U' L ({ frames := 1, cells := 0, slots := 0, locals := 12 } : Room).cells ({ frames := 1, cells := 0, slots := 0, locals := 12 } : Room).slots) := by
  refine MetFree.of_bodySF (plainFor_of_name pn_1) hisR ?_
  intro p e s m args below meth c s₁ Bd hml0 hP hK
  obtain ⟨rfl, hZ, hh⟩ := hP
  have hx := Bd.exec
  have hby := Bd.bytes
  have hml : c.maxLocals = 1 := hml0
  have hown : s.vm.findClass zs12 = some m.cls := findClass_of_methodNamed Bd.named
  have hnm := (name_of_methodNamed Bd.named Bd.method).1
  have X0 : Stand p l e ({ frames := 1, cells := 0, slots := 0, locals := 12 } : Room) s m #[(.ref a47)] below meth c s₁ [] 0 0 := Stand.of_body Bd
  have e0 : s₁.heap = h0 := by rw [← hh, Bd.state]; rfl
  have N0 := Fr.nil n0
  refine own_out ?_
  refine own_via (fun t k => castTop (ef_1 m a47) (XS.aloadN X0.here hx rfl (hb hby d13_0) rfl rfl k)) ?_
  obtain ⟨T55, X55, e55, st55⟩ := initO X0 hx hZ hown (wd hw 74 rfl) (wd hw 75 rfl) (wd hw 76 rfl) e0 (g := (mkF m 1 #[rv a47] [(.ref a47)])) rfl (by rw [hml]; rfl) rfl (hb hby d13_1) (by decide) (W := 0) (by show 2 * 0 + _ ≤ _; exact Nat.le_of_eq rfl) (by decide)
  refine own_via (fun t k => st55 t k) ?_
  obtain ⟨fs, hr, hrun, hended, hW, hsame⟩ := X55.leave (v := none) (fun _ => rfl)
  refine own_end (t := T55.setFrames fs) ?_ ⟨_, hrun, hended, _, _, rfl, ?_, ⟨_, rfl⟩, hW, hsame.mono (by decide) (by decide)⟩
  · exact X55.returnOut hx Bd.returns (hb hby d13_4) hr
  · show Q1 Z a47 h0 n0 _ T55.heap _
    rw [e55]
    exact ⟨rfl, N0, rfl⟩
theorem pd_1 : parseMethodDescriptor "()V" = some ⟨[], none⟩ := by decide +kernel
theorem d12_4 : decode jdk_33_method_23_code 4 = .ok (.aload_n 0, 1) := by decide +kernel
theorem d12_5 : decode jdk_33_method_23_code 5 = .ok (.iload_n 1, 1) := by decide +kernel
theorem d12_6 : decode jdk_33_method_23_code 6 = .ok (.putfield 205, 3) := by decide +kernel
theorem d12_9 : decode jdk_33_method_23_code 9 = .ok (.return_, 1) := by decide +kernel
theorem ef_2 (m : MethodId) (x0 : Addr) (x1 : Int32) : entryFrame m #[(.ref x0), (.int x1)] 2 = mkF m 0 #[rv x0, iv x1] [] := by first | (simp [entryFrame, mkF, argsToLocals, Value.category]; done) | rfl
theorem pn_2 : plainName "java/lang/Integer" = true := by first | (simp [plainName, overriddenIn]; done) | decide +kernel
def Q2 (Z : State) (a38 : Addr) (p39 : Int32) (p40 : Int32) (h0 : Heap) (n0 : Nat) (v : Option Value) (h : Heap) (L : List Loc) : Prop := v = none ∧ Fr n0 L ∧ Keep h0 h [a38] ∧ Exa Z h a38 zs2 ∧ Fld Z h a38 zs2 "value" "I" (.int p39)
set_option maxRecDepth 65536 in
set_option maxHeartbeats 40000000 in
theorem rm2 (l : Launch) (Z : State) (a0 : Array Value) (hw : ∀ d ∈ tables_1, d.before a0 Z = true) (ws : List Jvm.Cond) (a38 : Addr) (p39 : Int32) (p40 : Int32) (h0 : Heap) (n0 : Nat) (O0 : Old Z n0 h0) (pF_a38_value : Fld Z h0 a38 zs2 "value" "I" (.int p40)) (pE_a38 : Exa Z h0 a38 zs2) (pG_a38 : n0 ≤ a38) :
    MetFree l (⟨zs2, "<init>", "(I)V"⟩ : MethodName) (head1 (Jvm.Cond.code (⟨zs2, "<init>", "(I)V"⟩ : MethodName) jdk_33_method_23_code 2 none :: ws) ({ frames := 2, cells := 0, slots := 0, locals := 24 } : Room)) (fun a U => a = #[(.ref a38), (.int p39)] ∧ Z.Warmed39 U.vm ∧ U.heap = h0) (fun _ _ _ _ _ => True) (fun _ U o U' => ∃ v L, o = .returned v ∧ Q2 Z a38 p39 p40 h0 n0 v U'.heap L ∧ FrameEnd U o U' L ({ frames := 2, cells := 0, slots := 0, locals := 24 } : Room).cells ({ frames := 2, cells := 0, slots := 0, locals := 24 } : Room).slots) := by
  refine MetFree.of_bodySF (plainFor_of_name pn_2) hisR ?_
  intro p e s m args below meth c s₁ Bd hml0 hP hK
  obtain ⟨rfl, hZ, hh⟩ := hP
  have hx := Bd.exec
  have hby := Bd.bytes
  have hml : c.maxLocals = 2 := hml0
  have hown : s.vm.findClass zs2 = some m.cls := findClass_of_methodNamed Bd.named
  have hnm := (name_of_methodNamed Bd.named Bd.method).1
  have X0 : Stand p l e ({ frames := 2, cells := 0, slots := 0, locals := 24 } : Room) s m #[(.ref a38), (.int p39)] below meth c s₁ [] 0 0 := Stand.of_body Bd
  have e0 : s₁.heap = h0 := by rw [← hh, Bd.state]; rfl
  have N0 := Fr.nil n0
  refine own_out ?_
  refine own_via (fun t k => castTop (ef_2 m a38 p39) (XS.aloadN X0.here hx rfl (hb hby d12_0) rfl rfl k)) ?_
  obtain ⟨_, T46, _, X46, hQ46, st46⟩ := own_ci X0 hx hZ hown (wd hw 68 rfl) (wd hw 69 rfl) (wd hw 73 rfl) (wd hw 72 rfl) rfl (by decide) (rm1 l Z a0 hw [] a38 h0 n0 O0 ) e0 (g := (mkF m 1 #[rv a38, iv p39] [(.ref a38)])) rfl (by rw [hml]; rfl) (rest := []) (W := 0) (lenOf pd_1 rfl) rfl (by show 2 * 0 + _ ≤ _; exact Nat.le_of_eq rfl) (hb hby d12_1) (by decide) (by decide) (by decide) (by decide)
  obtain ⟨rfl, Nq46, hh56⟩ := hQ46
  have N46 := Fr.app N0 Nq46
  refine own_via (fun t k => st46 t (XS.aloadN X46.here hx rfl (hb hby d12_4) rfl rfl (XS.iloadN X46.here hx rfl (hb hby d12_5) rfl k))) ?_
  show own_Goes p e below (T46.setTop (mkF m 6 #[rv a38, iv p39] [(.int p39), (.ref a38)])) _
  obtain ⟨T57, h57, X57, e57, W57, st57⟩ := putF X46 hx hZ hown (host := "") (Or.inl (wd hw 77 rfl)) Via.refl hh56 pF_a38_value pE_a38 (Or.inr ⟨(wd hw 78 rfl), rfl, hnm⟩) (wd hw 63 rfl) (ty := .int) (by decide) rfl rfl (g := (mkF m 6 #[rv a38, iv p39] [(.int p39), (.ref a38)])) rfl rfl (hb hby d12_6)
  refine own_via (fun t k => st57 t k) ?_
  have Fw57 : Fld Z h57 a38 zs2 "value" "I" (.int p39) := pF_a38_value.same W57
  have N57 := Fr.snoc X57 N46 pG_a38
  show own_Goes p e below (T57.setTop (mkF m 9 #[rv a38, iv p39] [])) _
  obtain ⟨fs, hr, hrun, hended, hW, hsame⟩ := X57.leave (v := none) (fun _ => rfl)
  refine own_end (t := T57.setFrames fs) ?_ ⟨_, hrun, hended, _, _, rfl, ?_, ⟨_, rfl⟩, hW, hsame.mono (by decide) (by decide)⟩
  · exact X57.returnOut hx Bd.returns (hb hby d12_9) hr
  have E58 : Exa Z h57 a38 zs2 := (pE_a38.wr W57)
  · show Q2 Z a38 p39 p40 h0 n0 _ T57.heap _
    rw [e57]
    exact ⟨rfl, N57, ((Keep.refl h0 [a38]).wr W57 (Or.inl (List.mem_of_getElem? (i := 0) rfl))), E58, Fw57⟩
theorem pd_2 : parseMethodDescriptor "(I)V" = some ⟨[.int], none⟩ := by decide +kernel
theorem d11_31 : decode jdk_33_method_22_code 31 = .ok (.areturn, 1) := by decide +kernel
theorem d11_6 : decode jdk_33_method_22_code 6 = .ok (.iload_n 0, 1) := by decide +kernel
theorem d11_7 : decode jdk_33_method_22_code 7 = .ok (.getstatic 191, 3) := by decide +kernel
theorem d11_10 : decode jdk_33_method_22_code 10 = .ok (.if_icmp .gt 13, 3) := by decide +kernel
theorem d11_13 : decode jdk_33_method_22_code 13 = .ok (.getstatic 195, 3) := by decide +kernel
theorem d11_16 : decode jdk_33_method_22_code 16 = .ok (.iload_n 0, 1) := by decide +kernel
theorem d11_17 : decode jdk_33_method_22_code 17 = .ok (.sipush 128, 3) := by decide +kernel
theorem d11_20 : decode jdk_33_method_22_code 20 = .ok (.iadd, 1) := by decide +kernel
theorem d11_21 : decode jdk_33_method_22_code 21 = .ok (.aaload, 1) := by decide +kernel
theorem d11_22 : decode jdk_33_method_22_code 22 = .ok (.areturn, 1) := by decide +kernel
theorem ef_3 (m : MethodId) (x0 : Int32) : entryFrame m #[(.int x0)] 1 = mkF m 0 #[iv x0] [] := by first | (simp [entryFrame, mkF, argsToLocals, Value.category]; done) | rfl
def Q3 (Z : State) (p26 : Int32) (w21 : Addr) (cl23 : Cell) (h0 : Heap) (n0 : Nat) (v : Option Value) (h : Heap) (L : List Loc) : Prop := ((∃ (b33 : Addr), p26 < (-128 : Int32) ∧ v = some (.ref b33) ∧ Fr n0 L ∧ Keep h0 h [] ∧ h0.size ≤ b33 ∧ Exa Z h b33 zs2 ∧ Fld Z h b33 zs2 "value" "I" (.int p26))) ∨ ((∃ (b65 : Addr), ¬ (p26 < (-128 : Int32)) ∧ (127 : Int32) < p26 ∧ v = some (.ref b65) ∧ Fr n0 L ∧ Keep h0 h [] ∧ h0.size ≤ b65 ∧ Exa Z h b65 zs2 ∧ Fld Z h b65 zs2 "value" "I" (.int p26))) ∨ ((∃ (b75 : Addr), ¬ (p26 < (-128 : Int32)) ∧ ¬ ((127 : Int32) < p26) ∧ v = some (.ref b75) ∧ Fr n0 L ∧ Exa Z Z.heap b75 zs2 ∧ Fld Z Z.heap b75 zs2 "value" "I" (.int p26) ∧ h = h0))
set_option maxRecDepth 65536 in
set_option maxHeartbeats 40000000 in
theorem rm3 (l : Launch) (Z : State) (a0 : Array Value) (hw : ∀ d ∈ tables_1, d.before a0 Z = true) (ws : List Jvm.Cond) (p26 : Int32) (w21 : Addr) (cl23 : Cell) (h0 : Heap) (n0 : Nat) (O0 : Old Z n0 h0) (S_Integer_IntegerCache_high : Sta Z Z.heap zs7 "high" "I" (.int (127 : Int32))) (S_Integer_IntegerCache_cache : Sta Z Z.heap zs7 "cache" zs11 (.ref w21)) (BX_w21 : Bxs Z w21 cl23 zs2 "I" (256 : Int32) (fun j => .int (j - (128 : Int32)))) :
    MetFree l (⟨zs2, "valueOf", "(I)Ljava/lang/Integer;"⟩ : MethodName) (head1 (Jvm.Cond.code (⟨zs2, "valueOf", "(I)Ljava/lang/Integer;"⟩ : MethodName) jdk_33_method_22_code 1 (some (.object zs2)) :: ws) ({ frames := 3, cells := 1, slots := 1, locals := 38 } : Room)) (fun a U => a = #[(.int p26)] ∧ Z.Warmed39 U.vm ∧ U.heap = h0) (fun _ _ _ _ _ => True) (fun _ U o U' => ∃ v L, o = .returned v ∧ Q3 Z p26 w21 cl23 h0 n0 v U'.heap L ∧ FrameEnd U o U' L ({ frames := 3, cells := 1, slots := 1, locals := 38 } : Room).cells ({ frames := 3, cells := 1, slots := 1, locals := 38 } : Room).slots) := by
  refine MetFree.of_bodySF (plainFor_of_name pn_2) hisR ?_
  intro p e s m args below meth c s₁ Bd hml0 hP hK
  obtain ⟨rfl, hZ, hh⟩ := hP
  have hx := Bd.exec
  have hby := Bd.bytes
  have hml : c.maxLocals = 1 := hml0
  have hown : s.vm.findClass zs2 = some m.cls := findClass_of_methodNamed Bd.named
  have hnm := (name_of_methodNamed Bd.named Bd.method).1
  have X0 : Stand p l e ({ frames := 3, cells := 1, slots := 1, locals := 38 } : Room) s m #[(.int p26)] below meth c s₁ [] 0 0 := Stand.of_body Bd
  have e0 : s₁.heap = h0 := by rw [← hh, Bd.state]; rfl
  have N0 := Fr.nil n0
  refine own_out ?_
  refine own_via (fun t k => castTop (ef_3 m p26) (XS.iloadN X0.here hx rfl (hb hby d11_0) rfl (XS.bipush X0.here hx rfl (hb hby d11_1) k))) ?_
  show own_Goes p e below (s₁.setTop (mkF m 3 #[iv p26] [(.int (-128 : Int32)), (.int p26)])) _
  by_cases hc31 : p26 < (-128 : Int32)
  · refine own_via (fun t k => XS.icmpYes X0.here hx rfl (pc0 := 3) (pc' := 23) rfl (hb hby d11_3) rfl (tlt hc31).1 (by decide) (by decide) k) ?_
    obtain ⟨T32, h32, X32, e32, E32, A32, D32, -, st32⟩ := newO X0 hx hZ hown (wd hw 62 rfl) (wd hw 63 rfl) (wd hw 60 rfl) e0 (g := (mkF m 23 #[iv p26] [])) rfl (hb hby d11_23) (by decide) (by decide)
    obtain ⟨b33, q32⟩ : ∃ z, z = h0.size := ⟨_, rfl⟩
    rw [← q32] at A32 D32 st32
    refine own_via (fun t k => st32 t k) ?_
    have g34 : n0 ≤ b33 := Nat.le_trans (own_old O0) (Nat.le_of_eq q32.symm)
    have B35 : h0.size ≤ b33 := Nat.le_trans (Nat.le_refl _) (Nat.le_of_eq q32.symm)
    have F36 : Fld Z h32 b33 zs2 "value" "I" (.int (0 : Int32)) := D32 (Or.inr (wd hw 78 rfl)) (ty := .int) (by decide)
    show own_Goes p e below (T32.setTop (mkF m 26 #[iv p26] [(.ref b33)])) _
    refine own_via (fun t k => XS.dup X32.here hx rfl (hb hby d11_26) rfl rfl (XS.iloadN X32.here hx rfl (hb hby d11_27) rfl k)) ?_
    have O59 : Old Z n0 h32 := (O0.ext E32)
    obtain ⟨_, T37, _, X37, hQ37, st37⟩ := own_ci X32 hx hZ hown (wd hw 64 rfl) (wd hw 65 rfl) (wd hw 67 rfl) (wd hw 60 rfl) rfl (by decide) (rm2 l Z a0 hw [] b33 p26 (0 : Int32) h32 n0 O59 F36 A32 g34) e32 (g := (mkF m 28 #[iv p26] [(.int p26), (.ref b33), (.ref b33)])) rfl (by rw [hml]; rfl) (rest := [(.ref b33)]) (W := 1) (lenOf pd_2 rfl) rfl (by show 2 * 0 + _ ≤ _; exact Nat.le_of_eq rfl) (hb hby d11_28) (by decide) (by decide) (by decide) (by decide)
    obtain ⟨h37, e37⟩ : ∃ z, T37.heap = z := ⟨_, rfl⟩
    rw [e37] at hQ37
    obtain ⟨rfl, Nq37, K37, ex60, fx61⟩ := hQ37
    have N37 := Fr.app N0 Nq37
    refine own_via (fun t k => st37 t k) ?_
    obtain ⟨fs, hr, hrun, hended, hW, hsame⟩ := X37.leave (v := some (.ref b33)) (fun h => by rw [Bd.returns] at h; cases h)
    refine own_end (t := T37.setFrames fs) ?_ ⟨_, hrun, hended, _, _, rfl, ?_, ⟨_, rfl⟩, hW, hsame.mono (by decide) (by decide)⟩
    · jvm_step X37.here [X37.here.top, hx, (hb hby d11_31), X37.method', Bd.returns, Value.isRef, FieldType.isReference]
      first | (intro acts; rw [hr _ acts rfl rfl rfl]) | rw [hr _ _ rfl rfl rfl]
      exact Steps.refl _
    · show Q3 Z p26 w21 cl23 h0 n0 _ T37.heap _
      rw [e37]
      exact Or.inl <| ⟨b33, hc31, rfl, N37, (((Keep.refl h0 []).ext E32).trans K37 (allS (Or.inr B35) all0)), B35, ex60, fx61⟩
  · refine own_via (fun t k => XS.icmpNo X0.here hx rfl (hb hby d11_3) rfl (flt hc31).1 (XS.iloadN X0.here hx rfl (hb hby d11_6) rfl k)) ?_
    obtain ⟨T62, X62, e62, st62⟩ := getS2 X0 hx hZ hown (host := "") (Or.inl (wd hw 105 rfl)) Via.refl e0 (S_Integer_IntegerCache_high.ext O0.2) (g := (mkF m 7 #[iv p26] [(.int p26)])) rfl (hb hby d11_7)
    refine own_via (fun t k => st62 t k) ?_
    show own_Goes p e below (T62.setTop (mkF m 10 #[iv p26] [(.int (127 : Int32)), (.int p26)])) _
    by_cases hc63 : (127 : Int32) < p26
    · refine own_via (fun t k => XS.icmpYes X62.here hx rfl (pc0 := 10) (pc' := 23) rfl (hb hby d11_10) rfl (tlt hc63).2.2.1 (by decide) (by decide) k) ?_
      obtain ⟨T64, h64, X64, e64, E64, A64, D64, -, st64⟩ := newO X62 hx hZ hown (wd hw 62 rfl) (wd hw 63 rfl) (wd hw 60 rfl) e62 (g := (mkF m 23 #[iv p26] [])) rfl (hb hby d11_23) (by decide) (by decide)
      obtain ⟨b65, q64⟩ : ∃ z, z = h0.size := ⟨_, rfl⟩
      rw [← q64] at A64 D64 st64
      refine own_via (fun t k => st64 t k) ?_
      have g66 : n0 ≤ b65 := Nat.le_trans (own_old O0) (Nat.le_of_eq q64.symm)
      have B67 : h0.size ≤ b65 := Nat.le_trans (Nat.le_refl _) (Nat.le_of_eq q64.symm)
      have F68 : Fld Z h64 b65 zs2 "value" "I" (.int (0 : Int32)) := D64 (Or.inr (wd hw 78 rfl)) (ty := .int) (by decide)
      show own_Goes p e below (T64.setTop (mkF m 26 #[iv p26] [(.ref b65)])) _
      refine own_via (fun t k => XS.dup X64.here hx rfl (hb hby d11_26) rfl rfl (XS.iloadN X64.here hx rfl (hb hby d11_27) rfl k)) ?_
      have O70 : Old Z n0 h64 := (O0.ext E64)
      obtain ⟨_, T69, _, X69, hQ69, st69⟩ := own_ci X64 hx hZ hown (wd hw 64 rfl) (wd hw 65 rfl) (wd hw 67 rfl) (wd hw 60 rfl) rfl (by decide) (rm2 l Z a0 hw [] b65 p26 (0 : Int32) h64 n0 O70 F68 A64 g66) e64 (g := (mkF m 28 #[iv p26] [(.int p26), (.ref b65), (.ref b65)])) rfl (by rw [hml]; rfl) (rest := [(.ref b65)]) (W := 1) (lenOf pd_2 rfl) rfl (by show 2 * 0 + _ ≤ _; exact Nat.le_of_eq rfl) (hb hby d11_28) (by decide) (by decide) (by decide) (by decide)
      obtain ⟨h69, e69⟩ : ∃ z, T69.heap = z := ⟨_, rfl⟩
      rw [e69] at hQ69
      obtain ⟨rfl, Nq69, K69, ex71, fx72⟩ := hQ69
      have N69 := Fr.app N0 Nq69
      refine own_via (fun t k => st69 t k) ?_
      obtain ⟨fs, hr, hrun, hended, hW, hsame⟩ := X69.leave (v := some (.ref b65)) (fun h => by rw [Bd.returns] at h; cases h)
      refine own_end (t := T69.setFrames fs) ?_ ⟨_, hrun, hended, _, _, rfl, ?_, ⟨_, rfl⟩, hW, hsame.mono (by decide) (by decide)⟩
      · jvm_step X69.here [X69.here.top, hx, (hb hby d11_31), X69.method', Bd.returns, Value.isRef, FieldType.isReference]
        first | (intro acts; rw [hr _ acts rfl rfl rfl]) | rw [hr _ _ rfl rfl rfl]
        exact Steps.refl _
      · show Q3 Z p26 w21 cl23 h0 n0 _ T69.heap _
        rw [e69]
        exact Or.inr <| Or.inl <| ⟨b65, hc31, hc63, rfl, N69, (((Keep.refl h0 []).ext E64).trans K69 (allS (Or.inr B67) all0)), B67, ex71, fx72⟩
    · refine own_via (fun t k => XS.icmpNo X62.here hx rfl (hb hby d11_10) rfl (flt hc63).2.2.1 k) ?_
      obtain ⟨T73, X73, e73, st73⟩ := getS2 X62 hx hZ hown (host := "") (Or.inl (wd hw 107 rfl)) Via.refl e62 (S_Integer_IntegerCache_cache.ext O0.2) (g := (mkF m 13 #[iv p26] [])) rfl (hb hby d11_13)
      refine own_via (fun t k => st73 t (XS.iloadN X73.here hx rfl (hb hby d11_16) rfl (XS.sipush X73.here hx rfl (hb hby d11_17) (XS.iadd X73.here hx rfl (hb hby d11_20) rfl k)))) ?_
      show own_Goes p e below (T73.setTop (mkF m 21 #[iv p26] [(.int (p26 + (128 : Int32))), (.ref w21)])) _
      obtain ⟨Ar74, S74, M74⟩ := Bxs.ext BX_w21 O0.2
      have hin74 : ¬ ((p26 + (128 : Int32)) < 0 ∨ cl23.slots.size ≤ ((p26 + (128 : Int32))).toNatClampNeg) := inb_of S74 ⟨(own_ci1 hc31 hc63).1, (own_ci1 hc31 hc63).2⟩
      obtain ⟨b75, hat74, SE74, SG74⟩ := BX_w21.2.2.2 (p26 + (128 : Int32)) hin74
      have SF74 : Fld Z Z.heap b75 zs2 "value" "I" (.int p26) := by have q : Fld Z Z.heap b75 zs2 "value" "I" (.int ((p26 + (128 : Int32)) - (128 : Int32))) := SG74; rwa [show ((p26 + (128 : Int32)) - (128 : Int32)) = p26 from Int32.add_sub_cancel _ _] at q
      refine own_via (fun t k => X73.aaload hx (j := (p26 + (128 : Int32))) (v := (.ref b75)) (by rw [e73]; exact Ar74.1) (State.isArrayOf_alike hZ.alike Ar74.2.1) rfl Ar74.2.2 hin74 hat74 (g := (mkF m 21 #[iv p26] [(.int (p26 + (128 : Int32))), (.ref w21)])) rfl rfl (hb hby d11_21) t k) ?_
      obtain ⟨fs, hr, hrun, hended, hW, hsame⟩ := X73.leave (v := some (.ref b75)) (fun h => by rw [Bd.returns] at h; cases h)
      refine own_end (t := T73.setFrames fs) ?_ ⟨_, hrun, hended, _, _, rfl, ?_, ⟨_, rfl⟩, hW, hsame.mono (by decide) (by decide)⟩
      · jvm_step X73.here [X73.here.top, hx, (hb hby d11_22), X73.method', Bd.returns, Value.isRef, FieldType.isReference]
        first | (intro acts; rw [hr _ acts rfl rfl rfl]) | rw [hr _ _ rfl rfl rfl]
        exact Steps.refl _
      · show Q3 Z p26 w21 cl23 h0 n0 _ T73.heap _
        rw [e73]
        exact Or.inr <| Or.inr <| ⟨b75, hc31, hc63, rfl, N0, SE74, SF74, rfl⟩
theorem pd_3 : parseMethodDescriptor "(I)Ljava/lang/Integer;" = some ⟨[.int], some (.object "java/lang/Integer")⟩ := by decide +kernel
theorem d1_0 : decode prog_1_method_4_code 0 = .ok (.aload_n 0, 1) := by decide +kernel
theorem d1_1 : decode prog_1_method_4_code 1 = .ok (.ifnonnull 7, 3) := by decide +kernel
theorem d1_8 : decode prog_1_method_4_code 8 = .ok (.new 8, 3) := by decide +kernel
theorem d1_11 : decode prog_1_method_4_code 11 = .ok (.dup, 1) := by decide +kernel
theorem d1_12 : decode prog_1_method_4_code 12 = .ok (.aload_n 0, 1) := by decide +kernel
theorem d1_13 : decode prog_1_method_4_code 13 = .ok (.invokespecial 24, 3) := by decide +kernel
theorem d15_0 : decode prog_1_method_1_code 0 = .ok (.aload_n 0, 1) := by decide +kernel
theorem d15_1 : decode prog_1_method_1_code 1 = .ok (.invokespecial 1, 3) := by decide +kernel
theorem d15_4 : decode prog_1_method_1_code 4 = .ok (.aload_n 0, 1) := by decide +kernel
theorem d15_5 : decode prog_1_method_1_code 5 = .ok (.aload_n 1, 1) := by decide +kernel
theorem d15_6 : decode prog_1_method_1_code 6 = .ok (.putfield 7, 3) := by decide +kernel
theorem d15_9 : decode prog_1_method_1_code 9 = .ok (.return_, 1) := by decide +kernel
theorem ef_4 (m : MethodId) (x0 : Addr) (x1 : Addr) : entryFrame m #[(.ref x0), (.ref x1)] 2 = mkF m 0 #[rv x0, rv x1] [] := by first | (simp [entryFrame, mkF, argsToLocals, Value.category]; done) | rfl
theorem pn_3 : plainName "tertium/Tertium" = true := by first | (simp [plainName, overriddenIn]; done) | decide +kernel
def Q4 (Z : State) (a109 : Addr) (a110 : Addr) (h0 : Heap) (n0 : Nat) (v : Option Value) (h : Heap) (L : List Loc) : Prop := v = none ∧ Fr n0 L ∧ Keep h0 h [a109] ∧ Exa Z h a109 zs1 ∧ Fld Z h a109 zs1 "value" zs3 (.ref a110)
set_option maxRecDepth 65536 in
set_option maxHeartbeats 40000000 in
theorem rm4 (l : Launch) (Z : State) (a0 : Array Value) (hw : ∀ d ∈ tables_1, d.before a0 Z = true) (ws : List Jvm.Cond) (a109 : Addr) (a110 : Addr) (h0 : Heap) (n0 : Nat) (O0 : Old Z n0 h0) (pF_a109_value : Fld Z h0 a109 zs1 "value" zs3 .null) (pE_a109 : Exa Z h0 a109 zs1) (pG_a109 : n0 ≤ a109) :
    MetFree l (⟨zs1, "<init>", zs9⟩ : MethodName) (head1 (Jvm.Cond.code (⟨zs1, "<init>", zs9⟩ : MethodName) prog_1_method_1_code 2 none :: ws) ({ frames := 1, cells := 0, slots := 0, locals := 12 } : Room)) (fun a U => a = #[(.ref a109), (.ref a110)] ∧ Z.Warmed39 U.vm ∧ U.heap = h0) (fun _ _ _ _ _ => True) (fun _ U o U' => ∃ v L, o = .returned v ∧ Q4 Z a109 a110 h0 n0 v U'.heap L ∧ FrameEnd U o U' L ({ frames := 1, cells := 0, slots := 0, locals := 12 } : Room).cells ({ frames := 1, cells := 0, slots := 0, locals := 12 } : Room).slots) := by
  refine MetFree.of_bodySF (plainFor_of_name pn_3) hisR ?_
  intro p e s m args below meth c s₁ Bd hml0 hP hK
  obtain ⟨rfl, hZ, hh⟩ := hP
  have hx := Bd.exec
  have hby := Bd.bytes
  have hml : c.maxLocals = 2 := hml0
  have hown : s.vm.findClass zs1 = some m.cls := findClass_of_methodNamed Bd.named
  have hnm := (name_of_methodNamed Bd.named Bd.method).1
  have X0 : Stand p l e ({ frames := 1, cells := 0, slots := 0, locals := 12 } : Room) s m #[(.ref a109), (.ref a110)] below meth c s₁ [] 0 0 := Stand.of_body Bd
  have e0 : s₁.heap = h0 := by rw [← hh, Bd.state]; rfl
  have N0 := Fr.nil n0
  refine own_out ?_
  refine own_via (fun t k => castTop (ef_4 m a109 a110) (XS.aloadN X0.here hx rfl (hb hby d15_0) rfl rfl k)) ?_
  obtain ⟨T117, X117, e117, st117⟩ := initO X0 hx hZ hown (wd hw 83 rfl) (wd hw 75 rfl) (wd hw 76 rfl) e0 (g := (mkF m 1 #[rv a109, rv a110] [(.ref a109)])) rfl (by rw [hml]; rfl) rfl (hb hby d15_1) (by decide) (W := 0) (by show 2 * 0 + _ ≤ _; exact Nat.le_of_eq rfl) (by decide)
  refine own_via (fun t k => st117 t (XS.aloadN X117.here hx rfl (hb hby d15_4) rfl rfl (XS.aloadN X117.here hx rfl (hb hby d15_5) rfl rfl k))) ?_
  show own_Goes p e below (T117.setTop (mkF m 6 #[rv a109, rv a110] [(.ref a110), (.ref a109)])) _
  obtain ⟨T118, h118, X118, e118, W118, st118⟩ := putF X117 hx hZ hown (host := "") (Or.inl (wd hw 37 rfl)) Via.refl e117 pF_a109_value pE_a109 (Or.inr ⟨(wd hw 38 rfl), rfl, hnm⟩) (wd hw 79 rfl) (ty := (.object zs6)) (by decide) rfl rfl (g := (mkF m 6 #[rv a109, rv a110] [(.ref a110), (.ref a109)])) rfl rfl (hb hby d15_6)
  refine own_via (fun t k => st118 t k) ?_
  have Fw118 : Fld Z h118 a109 zs1 "value" zs3 (.ref a110) := pF_a109_value.same W118
  have N118 := Fr.snoc X118 N0 pG_a109
  show own_Goes p e below (T118.setTop (mkF m 9 #[rv a109, rv a110] [])) _
  obtain ⟨fs, hr, hrun, hended, hW, hsame⟩ := X118.leave (v := none) (fun _ => rfl)
  refine own_end (t := T118.setFrames fs) ?_ ⟨_, hrun, hended, _, _, rfl, ?_, ⟨_, rfl⟩, hW, hsame.mono (by decide) (by decide)⟩
  · exact X118.returnOut hx Bd.returns (hb hby d15_9) hr
  have E119 : Exa Z h118 a109 zs1 := (pE_a109.wr W118)
  · show Q4 Z a109 a110 h0 n0 _ T118.heap _
    rw [e118]
    exact ⟨rfl, N118, ((Keep.refl h0 [a109]).wr W118 (Or.inl (List.mem_of_getElem? (i := 0) rfl))), E119, Fw118⟩
theorem pd_4 : parseMethodDescriptor "(Ljava/lang/Object;)V" = some ⟨[(.object "java/lang/Object")], none⟩ := by decide +kernel
theorem d1_16 : decode prog_1_method_4_code 16 = .ok (.areturn, 1) := by decide +kernel
theorem ef_5 (m : MethodId) (x0 : Addr) : entryFrame m #[(.ref x0)] 1 = mkF m 0 #[rv x0] [] := by first | (simp [entryFrame, mkF, argsToLocals, Value.category]; done) | rfl
def Q5 (Z : State) (a96 : Addr) (h0 : Heap) (n0 : Nat) (v : Option Value) (h : Heap) (L : List Loc) : Prop := (∃ (b104 : Addr), v = some (.ref b104) ∧ Fr n0 L ∧ Keep h0 h [] ∧ h0.size ≤ b104 ∧ Exa Z h b104 zs1 ∧ Fld Z h b104 zs1 "value" zs3 (.ref a96))
set_option maxRecDepth 65536 in
set_option maxHeartbeats 40000000 in
theorem rm5 (l : Launch) (Z : State) (a0 : Array Value) (hw : ∀ d ∈ tables_1, d.before a0 Z = true) (ws : List Jvm.Cond) (a96 : Addr) (h0 : Heap) (n0 : Nat) (O0 : Old Z n0 h0) :
    MetFree l (⟨zs1, "of", zs5⟩ : MethodName) (head1 (Jvm.Cond.code (⟨zs1, "of", zs5⟩ : MethodName) prog_1_method_4_code 1 (some (.object zs1)) :: ws) ({ frames := 2, cells := 1, slots := 1, locals := 26 } : Room)) (fun a U => a = #[(.ref a96)] ∧ Z.Warmed39 U.vm ∧ U.heap = h0) (fun _ _ _ _ _ => True) (fun _ U o U' => ∃ v L, o = .returned v ∧ Q5 Z a96 h0 n0 v U'.heap L ∧ FrameEnd U o U' L ({ frames := 2, cells := 1, slots := 1, locals := 26 } : Room).cells ({ frames := 2, cells := 1, slots := 1, locals := 26 } : Room).slots) := by
  refine MetFree.of_bodySF (plainFor_of_name pn_3) hisR ?_
  intro p e s m args below meth c s₁ Bd hml0 hP hK
  obtain ⟨rfl, hZ, hh⟩ := hP
  have hx := Bd.exec
  have hby := Bd.bytes
  have hml : c.maxLocals = 1 := hml0
  have hown : s.vm.findClass zs1 = some m.cls := findClass_of_methodNamed Bd.named
  have hnm := (name_of_methodNamed Bd.named Bd.method).1
  have X0 : Stand p l e ({ frames := 2, cells := 1, slots := 1, locals := 26 } : Room) s m #[(.ref a96)] below meth c s₁ [] 0 0 := Stand.of_body Bd
  have e0 : s₁.heap = h0 := by rw [← hh, Bd.state]; rfl
  have N0 := Fr.nil n0
  refine own_out ?_
  refine own_via (fun t k => castTop (ef_5 m a96) (XS.aloadN X0.here hx rfl (hb hby d1_0) rfl rfl (XS.ifnonnullYes X0.here hx rfl (pc0 := 1) (pc' := 8) rfl (hb hby d1_1) rfl (by decide) (by decide) k))) ?_
  show own_Goes p e below (s₁.setTop (mkF m 8 #[rv a96] [])) _
  obtain ⟨T103, h103, X103, e103, E103, A103, D103, -, st103⟩ := newO X0 hx hZ hown (wd hw 50 rfl) (wd hw 79 rfl) (wd hw 2 rfl) e0 (g := (mkF m 8 #[rv a96] [])) rfl (hb hby d1_8) (by decide) (by decide)
  obtain ⟨b104, q103⟩ : ∃ z, z = h0.size := ⟨_, rfl⟩
  rw [← q103] at A103 D103 st103
  refine own_via (fun t k => st103 t k) ?_
  have g105 : n0 ≤ b104 := Nat.le_trans (own_old O0) (Nat.le_of_eq q103.symm)
  have B106 : h0.size ≤ b104 := Nat.le_trans (Nat.le_refl _) (Nat.le_of_eq q103.symm)
  have F107 : Fld Z h103 b104 zs1 "value" zs3 .null := D103 (Or.inr (wd hw 38 rfl)) (ty := (.object zs6)) (by decide)
  show own_Goes p e below (T103.setTop (mkF m 11 #[rv a96] [(.ref b104)])) _
  refine own_via (fun t k => XS.dup X103.here hx rfl (hb hby d1_11) rfl rfl (XS.aloadN X103.here hx rfl (hb hby d1_12) rfl rfl k)) ?_
  have O120 : Old Z n0 h103 := (O0.ext E103)
  obtain ⟨_, T108, _, X108, hQ108, st108⟩ := own_ci X103 hx hZ hown (wd hw 80 rfl) (wd hw 81 rfl) (wd hw 82 rfl) (wd hw 2 rfl) rfl (by decide) (rm4 l Z a0 hw [] b104 a96 h103 n0 O120 F107 A103 g105) e103 (g := (mkF m 13 #[rv a96] [(.ref a96), (.ref b104), (.ref b104)])) rfl (by rw [hml]; rfl) (rest := [(.ref b104)]) (W := 1) (lenOf pd_4 rfl) rfl (by show 2 * 0 + _ ≤ _; exact Nat.le_of_eq rfl) (hb hby d1_13) (by decide) (by decide) (by decide) (by decide)
  obtain ⟨h108, e108⟩ : ∃ z, T108.heap = z := ⟨_, rfl⟩
  rw [e108] at hQ108
  obtain ⟨rfl, Nq108, K108, ex121, fx122⟩ := hQ108
  have N108 := Fr.app N0 Nq108
  refine own_via (fun t k => st108 t k) ?_
  obtain ⟨fs, hr, hrun, hended, hW, hsame⟩ := X108.leave (v := some (.ref b104)) (fun h => by rw [Bd.returns] at h; cases h)
  refine own_end (t := T108.setFrames fs) ?_ ⟨_, hrun, hended, _, _, rfl, ?_, ⟨_, rfl⟩, hW, hsame.mono (by decide) (by decide)⟩
  · jvm_step X108.here [X108.here.top, hx, (hb hby d1_16), X108.method', Bd.returns, Value.isRef, FieldType.isReference]
    first | (intro acts; rw [hr _ acts rfl rfl rfl]) | rw [hr _ _ rfl rfl rfl]
    exact Steps.refl _
  · show Q5 Z a96 h0 n0 _ T108.heap _
    rw [e108]
    exact ⟨b104, rfl, N108, (((Keep.refl h0 []).ext E103).trans K108 (allS (Or.inr B106) all0)), B106, ex121, fx122⟩
theorem pd_5 : parseMethodDescriptor "(Ljava/lang/Object;)Ltertium/Tertium;" = some ⟨[(.object "java/lang/Object")], some (.object "tertium/Tertium")⟩ := by decide +kernel
theorem d3_0 : decode prog_1_method_8_code 0 = .ok (.aload_n 0, 1) := by decide +kernel
theorem d3_1 : decode prog_1_method_8_code 1 = .ok (.invokevirtual 70, 3) := by decide +kernel
theorem d4_0 : decode prog_1_method_9_code 0 = .ok (.aload_n 0, 1) := by decide +kernel
theorem d4_1 : decode prog_1_method_9_code 1 = .ok (.getstatic 13, 3) := by decide +kernel
theorem d4_4 : decode prog_1_method_9_code 4 = .ok (.if_acmp .ne 7, 3) := by decide +kernel
theorem d4_11 : decode prog_1_method_9_code 11 = .ok (.iconst 0, 1) := by decide +kernel
theorem d4_12 : decode prog_1_method_9_code 12 = .ok (.ireturn, 1) := by decide +kernel
theorem ef_6 (m : MethodId) (x0 : Addr) : entryFrame m #[(.ref x0)] 1 = mkF m 0 #[rv x0] [] := by first | (simp [entryFrame, mkF, argsToLocals, Value.category]; done) | rfl
def Q6 (Z : State) (a142 : Addr) (w17 : Addr) (h0 : Heap) (n0 : Nat) (v : Option Value) (h : Heap) (L : List Loc) : Prop := v = some (.int (0 : Int32)) ∧ Fr n0 L ∧ h = h0
set_option maxRecDepth 65536 in
set_option maxHeartbeats 40000000 in
theorem rm6 (l : Launch) (Z : State) (a0 : Array Value) (hw : ∀ d ∈ tables_1, d.before a0 Z = true) (ws : List Jvm.Cond) (a142 : Addr) (w17 : Addr) (h0 : Heap) (n0 : Nat) (O0 : Old Z n0 h0) (S_Tertium_ABSENT : Sta Z Z.heap zs1 "ABSENT" zs4 (.ref w17)) (SE_w17 : Exa Z Z.heap w17 zs1) (pG_a142 : n0 ≤ a142) :
    MetFree l (⟨zs1, "isAbsent", "()Z"⟩ : MethodName) (head1 (Jvm.Cond.code (⟨zs1, "isAbsent", "()Z"⟩ : MethodName) prog_1_method_9_code 1 (some .boolean) :: ws) ({ frames := 0, cells := 0, slots := 0, locals := 0 } : Room)) (fun a U => a = #[(.ref a142)] ∧ Z.Warmed39 U.vm ∧ U.heap = h0) (fun _ _ _ _ _ => True) (fun _ U o U' => ∃ v L, o = .returned v ∧ Q6 Z a142 w17 h0 n0 v U'.heap L ∧ FrameEnd U o U' L ({ frames := 0, cells := 0, slots := 0, locals := 0 } : Room).cells ({ frames := 0, cells := 0, slots := 0, locals := 0 } : Room).slots) := by
  refine MetFree.of_bodySF (plainFor_of_name pn_3) hisR ?_
  intro p e s m args below meth c s₁ Bd hml0 hP hK
  obtain ⟨rfl, hZ, hh⟩ := hP
  have hx := Bd.exec
  have hby := Bd.bytes
  have hml : c.maxLocals = 1 := hml0
  have hown : s.vm.findClass zs1 = some m.cls := findClass_of_methodNamed Bd.named
  have hnm := (name_of_methodNamed Bd.named Bd.method).1
  have X0 : Stand p l e ({ frames := 0, cells := 0, slots := 0, locals := 0 } : Room) s m #[(.ref a142)] below meth c s₁ [] 0 0 := Stand.of_body Bd
  have e0 : s₁.heap = h0 := by rw [← hh, Bd.state]; rfl
  have N0 := Fr.nil n0
  refine own_out ?_
  refine own_via (fun t k => castTop (ef_6 m a142) (XS.aloadN X0.here hx rfl (hb hby d4_0) rfl rfl k)) ?_
  obtain ⟨T150, X150, e150, st150⟩ := getS2 X0 hx hZ hown (host := "") (Or.inl (wd hw 19 rfl)) Via.refl e0 (S_Tertium_ABSENT.ext O0.2) (g := (mkF m 1 #[rv a142] [(.ref a142)])) rfl (hb hby d4_1)
  refine own_via (fun t k => st150 t (Jvm.RoadKit.acmp (g := (mkF m 4 #[rv a142] [(.ref w17), (.ref a142)])) X150 hx rfl rfl rfl (pc0 := 4) (pc' := 11) (same := false) rfl (hb hby d4_4) rfl (decide_eq_false fun q => (Ne.symm (Old.ne O0 SE_w17.lt pG_a142)) (Value.ref.inj q)) (by decide) (by decide) (XS.iconst X150.here hx rfl (hb hby d4_11) k))) ?_
  show own_Goes p e below (T150.setTop (mkF m 12 #[rv a142] [(.int (0 : Int32))])) _
  obtain ⟨fs, hr, hrun, hended, hW, hsame⟩ := X150.leave (v := some (.int (0 : Int32))) (fun h => by rw [Bd.returns] at h; cases h)
  refine own_end (t := T150.setFrames fs) ?_ ⟨_, hrun, hended, _, _, rfl, ?_, ⟨_, rfl⟩, hW, hsame.mono (by decide) (by decide)⟩
  · exact retN X150 hx (t := .boolean) Bd.returns (by simp) (hb hby d4_12) hr
  · show Q6 Z a142 w17 h0 n0 _ T150.heap _
    rw [e150]
    exact ⟨rfl, N0, rfl⟩
theorem pd_6 : parseMethodDescriptor "()Z" = some ⟨[], some .boolean⟩ := by decide +kernel
theorem d3_4 : decode prog_1_method_8_code 4 = .ok (.ifCond .ne 7, 3) := by decide +kernel
theorem d3_7 : decode prog_1_method_8_code 7 = .ok (.iconst 1, 1) := by decide +kernel
theorem d3_8 : decode prog_1_method_8_code 8 = .ok (.goto 4, 3) := by decide +kernel
theorem d3_12 : decode prog_1_method_8_code 12 = .ok (.ireturn, 1) := by decide +kernel
theorem ef_7 (m : MethodId) (x0 : Addr) : entryFrame m #[(.ref x0)] 1 = mkF m 0 #[rv x0] [] := by first | (simp [entryFrame, mkF, argsToLocals, Value.category]; done) | rfl
def Q7 (Z : State) (a133 : Addr) (w17 : Addr) (h0 : Heap) (n0 : Nat) (v : Option Value) (h : Heap) (L : List Loc) : Prop := v = some (.int (1 : Int32)) ∧ Fr n0 L ∧ h = h0
set_option maxRecDepth 65536 in
set_option maxHeartbeats 40000000 in
theorem rm7 (l : Launch) (Z : State) (a0 : Array Value) (hw : ∀ d ∈ tables_1, d.before a0 Z = true) (ws : List Jvm.Cond) (a133 : Addr) (w17 : Addr) (h0 : Heap) (n0 : Nat) (O0 : Old Z n0 h0) (S_Tertium_ABSENT : Sta Z Z.heap zs1 "ABSENT" zs4 (.ref w17)) (SE_w17 : Exa Z Z.heap w17 zs1) (pG_a133 : n0 ≤ a133) (pE_a133 : Exa Z h0 a133 zs1) :
    MetFree l (⟨zs1, "isPresent", "()Z"⟩ : MethodName) (head1 (Jvm.Cond.code (⟨zs1, "isPresent", "()Z"⟩ : MethodName) prog_1_method_8_code 1 (some .boolean) :: ws) ({ frames := 1, cells := 0, slots := 0, locals := 12 } : Room)) (fun a U => a = #[(.ref a133)] ∧ Z.Warmed39 U.vm ∧ U.heap = h0) (fun _ _ _ _ _ => True) (fun _ U o U' => ∃ v L, o = .returned v ∧ Q7 Z a133 w17 h0 n0 v U'.heap L ∧ FrameEnd U o U' L ({ frames := 1, cells := 0, slots := 0, locals := 12 } : Room).cells ({ frames := 1, cells := 0, slots := 0, locals := 12 } : Room).slots) := by
  refine MetFree.of_bodySF (plainFor_of_name pn_3) hisR ?_
  intro p e s m args below meth c s₁ Bd hml0 hP hK
  obtain ⟨rfl, hZ, hh⟩ := hP
  have hx := Bd.exec
  have hby := Bd.bytes
  have hml : c.maxLocals = 1 := hml0
  have hown : s.vm.findClass zs1 = some m.cls := findClass_of_methodNamed Bd.named
  have hnm := (name_of_methodNamed Bd.named Bd.method).1
  have X0 : Stand p l e ({ frames := 1, cells := 0, slots := 0, locals := 12 } : Room) s m #[(.ref a133)] below meth c s₁ [] 0 0 := Stand.of_body Bd
  have e0 : s₁.heap = h0 := by rw [← hh, Bd.state]; rfl
  have N0 := Fr.nil n0
  refine own_out ?_
  refine own_via (fun t k => castTop (ef_7 m a133) (XS.aloadN X0.here hx rfl (hb hby d3_0) rfl rfl k)) ?_
  obtain ⟨_, T141, _, X141, hQ141, st141⟩ := own_cv X0 hx hZ hown (wd hw 14 rfl) (wd hw 15 rfl) (wd hw 17 rfl) (wd hw 16 rfl) (wd hw 18 rfl) (wd hw 2 rfl) (by decide) (rm6 l Z a0 hw [] a133 w17 h0 n0 O0 S_Tertium_ABSENT SE_w17 pG_a133) e0 pE_a133 (g := (mkF m 1 #[rv a133] [(.ref a133)])) rfl (by rw [hml]; rfl) (rest := []) (W := 0) (lenOf pd_6 rfl) rfl (by show 2 * 0 + _ ≤ _; exact Nat.le_of_eq rfl) (hb hby d3_1) (by decide) (by decide) (by decide) (by decide)
  obtain ⟨rfl, Nq141, hh151⟩ := hQ141
  have N141 := Fr.app N0 Nq141
  refine own_via (fun t k => st141 t (XS.ifNo X141.here hx rfl (hb hby d3_4) rfl ((if0 _ _).trans (teq (by decide : (0 : Int32) = (0 : Int32))).2) (XS.iconst X141.here hx rfl (hb hby d3_7) (XS.goto X141.here hx rfl (pc0 := 8) (pc' := 12) rfl (hb hby d3_8) (by decide) (by decide) k)))) ?_
  show own_Goes p e below (T141.setTop (mkF m 12 #[rv a133] [(.int (1 : Int32))])) _
  obtain ⟨fs, hr, hrun, hended, hW, hsame⟩ := X141.leave (v := some (.int (1 : Int32))) (fun h => by rw [Bd.returns] at h; cases h)
  refine own_end (t := T141.setFrames fs) ?_ ⟨_, hrun, hended, _, _, rfl, ?_, ⟨_, rfl⟩, hW, hsame.mono (by decide) (by decide)⟩
  · exact retN X141 hx (t := .boolean) Bd.returns (by simp) (hb hby d3_12) hr
  · show Q7 Z a133 w17 h0 n0 _ T141.heap _
    rw [hh151]
    exact ⟨rfl, N141, rfl⟩
theorem d5_0 : decode prog_1_method_11_code 0 = .ok (.aload_n 0, 1) := by decide +kernel
theorem d5_1 : decode prog_1_method_11_code 1 = .ok (.getstatic 17, 3) := by decide +kernel
theorem d5_4 : decode prog_1_method_11_code 4 = .ok (.if_acmp .ne 7, 3) := by decide +kernel
theorem d5_11 : decode prog_1_method_11_code 11 = .ok (.iconst 0, 1) := by decide +kernel
theorem d5_12 : decode prog_1_method_11_code 12 = .ok (.ireturn, 1) := by decide +kernel
theorem ef_8 (m : MethodId) (x0 : Addr) : entryFrame m #[(.ref x0)] 1 = mkF m 0 #[rv x0] [] := by first | (simp [entryFrame, mkF, argsToLocals, Value.category]; done) | rfl
def Q8 (Z : State) (a157 : Addr) (w15 : Addr) (h0 : Heap) (n0 : Nat) (v : Option Value) (h : Heap) (L : List Loc) : Prop := v = some (.int (0 : Int32)) ∧ Fr n0 L ∧ h = h0
set_option maxRecDepth 65536 in
set_option maxHeartbeats 40000000 in
theorem rm8 (l : Launch) (Z : State) (a0 : Array Value) (hw : ∀ d ∈ tables_1, d.before a0 Z = true) (ws : List Jvm.Cond) (a157 : Addr) (w15 : Addr) (h0 : Heap) (n0 : Nat) (O0 : Old Z n0 h0) (S_Tertium_NULL : Sta Z Z.heap zs1 "NULL" zs4 (.ref w15)) (SE_w15 : Exa Z Z.heap w15 zs1) (pG_a157 : n0 ≤ a157) :
    MetFree l (⟨zs1, "isNull", "()Z"⟩ : MethodName) (head1 (Jvm.Cond.code (⟨zs1, "isNull", "()Z"⟩ : MethodName) prog_1_method_11_code 1 (some .boolean) :: ws) ({ frames := 0, cells := 0, slots := 0, locals := 0 } : Room)) (fun a U => a = #[(.ref a157)] ∧ Z.Warmed39 U.vm ∧ U.heap = h0) (fun _ _ _ _ _ => True) (fun _ U o U' => ∃ v L, o = .returned v ∧ Q8 Z a157 w15 h0 n0 v U'.heap L ∧ FrameEnd U o U' L ({ frames := 0, cells := 0, slots := 0, locals := 0 } : Room).cells ({ frames := 0, cells := 0, slots := 0, locals := 0 } : Room).slots) := by
  refine MetFree.of_bodySF (plainFor_of_name pn_3) hisR ?_
  intro p e s m args below meth c s₁ Bd hml0 hP hK
  obtain ⟨rfl, hZ, hh⟩ := hP
  have hx := Bd.exec
  have hby := Bd.bytes
  have hml : c.maxLocals = 1 := hml0
  have hown : s.vm.findClass zs1 = some m.cls := findClass_of_methodNamed Bd.named
  have hnm := (name_of_methodNamed Bd.named Bd.method).1
  have X0 : Stand p l e ({ frames := 0, cells := 0, slots := 0, locals := 0 } : Room) s m #[(.ref a157)] below meth c s₁ [] 0 0 := Stand.of_body Bd
  have e0 : s₁.heap = h0 := by rw [← hh, Bd.state]; rfl
  have N0 := Fr.nil n0
  refine own_out ?_
  refine own_via (fun t k => castTop (ef_8 m a157) (XS.aloadN X0.here hx rfl (hb hby d5_0) rfl rfl k)) ?_
  obtain ⟨T165, X165, e165, st165⟩ := getS2 X0 hx hZ hown (host := "") (Or.inl (wd hw 7 rfl)) Via.refl e0 (S_Tertium_NULL.ext O0.2) (g := (mkF m 1 #[rv a157] [(.ref a157)])) rfl (hb hby d5_1)
  refine own_via (fun t k => st165 t (Jvm.RoadKit.acmp (g := (mkF m 4 #[rv a157] [(.ref w15), (.ref a157)])) X165 hx rfl rfl rfl (pc0 := 4) (pc' := 11) (same := false) rfl (hb hby d5_4) rfl (decide_eq_false fun q => (Ne.symm (Old.ne O0 SE_w15.lt pG_a157)) (Value.ref.inj q)) (by decide) (by decide) (XS.iconst X165.here hx rfl (hb hby d5_11) k))) ?_
  show own_Goes p e below (T165.setTop (mkF m 12 #[rv a157] [(.int (0 : Int32))])) _
  obtain ⟨fs, hr, hrun, hended, hW, hsame⟩ := X165.leave (v := some (.int (0 : Int32))) (fun h => by rw [Bd.returns] at h; cases h)
  refine own_end (t := T165.setFrames fs) ?_ ⟨_, hrun, hended, _, _, rfl, ?_, ⟨_, rfl⟩, hW, hsame.mono (by decide) (by decide)⟩
  · exact retN X165 hx (t := .boolean) Bd.returns (by simp) (hb hby d5_12) hr
  · show Q8 Z a157 w15 h0 n0 _ T165.heap _
    rw [e165]
    exact ⟨rfl, N0, rfl⟩
theorem d6_0 : decode prog_1_method_12_code 0 = .ok (.aload_n 0, 1) := by decide +kernel
theorem d6_1 : decode prog_1_method_12_code 1 = .ok (.invokevirtual 73, 3) := by decide +kernel
theorem d7_0 : decode prog_1_method_13_code 0 = .ok (.aload_n 0, 1) := by decide +kernel
theorem d7_1 : decode prog_1_method_13_code 1 = .ok (.getfield 7, 3) := by decide +kernel
theorem d7_4 : decode prog_1_method_13_code 4 = .ok (.ifnonnull 7, 3) := by decide +kernel
theorem d7_11 : decode prog_1_method_13_code 11 = .ok (.iconst 0, 1) := by decide +kernel
theorem d7_12 : decode prog_1_method_13_code 12 = .ok (.ireturn, 1) := by decide +kernel
theorem ef_9 (m : MethodId) (x0 : Addr) : entryFrame m #[(.ref x0)] 1 = mkF m 0 #[rv x0] [] := by first | (simp [entryFrame, mkF, argsToLocals, Value.category]; done) | rfl
def Q9 (Z : State) (a177 : Addr) (a178 : Addr) (h0 : Heap) (n0 : Nat) (v : Option Value) (h : Heap) (L : List Loc) : Prop := v = some (.int (0 : Int32)) ∧ Fr n0 L ∧ h = h0
set_option maxRecDepth 65536 in
set_option maxHeartbeats 40000000 in
theorem rm9 (l : Launch) (Z : State) (a0 : Array Value) (hw : ∀ d ∈ tables_1, d.before a0 Z = true) (ws : List Jvm.Cond) (a177 : Addr) (a178 : Addr) (h0 : Heap) (n0 : Nat) (O0 : Old Z n0 h0) (pF_a177_value : Fld Z h0 a177 zs1 "value" zs3 (.ref a178)) :
    MetFree l (⟨zs1, zs10, "()Z"⟩ : MethodName) (head1 (Jvm.Cond.code (⟨zs1, zs10, "()Z"⟩ : MethodName) prog_1_method_13_code 1 (some .boolean) :: ws) ({ frames := 0, cells := 0, slots := 0, locals := 0 } : Room)) (fun a U => a = #[(.ref a177)] ∧ Z.Warmed39 U.vm ∧ U.heap = h0) (fun _ _ _ _ _ => True) (fun _ U o U' => ∃ v L, o = .returned v ∧ Q9 Z a177 a178 h0 n0 v U'.heap L ∧ FrameEnd U o U' L ({ frames := 0, cells := 0, slots := 0, locals := 0 } : Room).cells ({ frames := 0, cells := 0, slots := 0, locals := 0 } : Room).slots) := by
  refine MetFree.of_bodySF (plainFor_of_name pn_3) hisR ?_
  intro p e s m args below meth c s₁ Bd hml0 hP hK
  obtain ⟨rfl, hZ, hh⟩ := hP
  have hx := Bd.exec
  have hby := Bd.bytes
  have hml : c.maxLocals = 1 := hml0
  have hown : s.vm.findClass zs1 = some m.cls := findClass_of_methodNamed Bd.named
  have hnm := (name_of_methodNamed Bd.named Bd.method).1
  have X0 : Stand p l e ({ frames := 0, cells := 0, slots := 0, locals := 0 } : Room) s m #[(.ref a177)] below meth c s₁ [] 0 0 := Stand.of_body Bd
  have e0 : s₁.heap = h0 := by rw [← hh, Bd.state]; rfl
  have N0 := Fr.nil n0
  refine own_out ?_
  refine own_via (fun t k => castTop (ef_9 m a177) (XS.aloadN X0.here hx rfl (hb hby d7_0) rfl rfl k)) ?_
  obtain ⟨T185, X185, e185, st185⟩ := getF X0 hx hZ hown (host := "") (Or.inl (wd hw 37 rfl)) Via.refl e0 pF_a177_value (g := (mkF m 1 #[rv a177] [(.ref a177)])) rfl rfl (hb hby d7_1)
  refine own_via (fun t k => st185 t (XS.ifnonnullYes X185.here hx rfl (pc0 := 4) (pc' := 11) rfl (hb hby d7_4) rfl (by decide) (by decide) (XS.iconst X185.here hx rfl (hb hby d7_11) k))) ?_
  show own_Goes p e below (T185.setTop (mkF m 12 #[rv a177] [(.int (0 : Int32))])) _
  obtain ⟨fs, hr, hrun, hended, hW, hsame⟩ := X185.leave (v := some (.int (0 : Int32))) (fun h => by rw [Bd.returns] at h; cases h)
  refine own_end (t := T185.setFrames fs) ?_ ⟨_, hrun, hended, _, _, rfl, ?_, ⟨_, rfl⟩, hW, hsame.mono (by decide) (by decide)⟩
  · exact retN X185 hx (t := .boolean) Bd.returns (by simp) (hb hby d7_12) hr
  · show Q9 Z a177 a178 h0 n0 _ T185.heap _
    rw [e185]
    exact ⟨rfl, N0, rfl⟩
theorem d6_4 : decode prog_1_method_12_code 4 = .ok (.ifCond .ne 7, 3) := by decide +kernel
theorem d6_7 : decode prog_1_method_12_code 7 = .ok (.iconst 1, 1) := by decide +kernel
theorem d6_8 : decode prog_1_method_12_code 8 = .ok (.goto 4, 3) := by decide +kernel
theorem d6_12 : decode prog_1_method_12_code 12 = .ok (.ireturn, 1) := by decide +kernel
theorem ef_10 (m : MethodId) (x0 : Addr) : entryFrame m #[(.ref x0)] 1 = mkF m 0 #[rv x0] [] := by first | (simp [entryFrame, mkF, argsToLocals, Value.category]; done) | rfl
def Q10 (Z : State) (a168 : Addr) (a169 : Addr) (h0 : Heap) (n0 : Nat) (v : Option Value) (h : Heap) (L : List Loc) : Prop := v = some (.int (1 : Int32)) ∧ Fr n0 L ∧ h = h0
set_option maxRecDepth 65536 in
set_option maxHeartbeats 40000000 in
theorem rm10 (l : Launch) (Z : State) (a0 : Array Value) (hw : ∀ d ∈ tables_1, d.before a0 Z = true) (ws : List Jvm.Cond) (a168 : Addr) (a169 : Addr) (h0 : Heap) (n0 : Nat) (O0 : Old Z n0 h0) (pF_a168_value : Fld Z h0 a168 zs1 "value" zs3 (.ref a169)) (pE_a168 : Exa Z h0 a168 zs1) :
    MetFree l (⟨zs1, "isNotNull", "()Z"⟩ : MethodName) (head1 (Jvm.Cond.code (⟨zs1, "isNotNull", "()Z"⟩ : MethodName) prog_1_method_12_code 1 (some .boolean) :: ws) ({ frames := 1, cells := 0, slots := 0, locals := 12 } : Room)) (fun a U => a = #[(.ref a168)] ∧ Z.Warmed39 U.vm ∧ U.heap = h0) (fun _ _ _ _ _ => True) (fun _ U o U' => ∃ v L, o = .returned v ∧ Q10 Z a168 a169 h0 n0 v U'.heap L ∧ FrameEnd U o U' L ({ frames := 1, cells := 0, slots := 0, locals := 12 } : Room).cells ({ frames := 1, cells := 0, slots := 0, locals := 12 } : Room).slots) := by
  refine MetFree.of_bodySF (plainFor_of_name pn_3) hisR ?_
  intro p e s m args below meth c s₁ Bd hml0 hP hK
  obtain ⟨rfl, hZ, hh⟩ := hP
  have hx := Bd.exec
  have hby := Bd.bytes
  have hml : c.maxLocals = 1 := hml0
  have hown : s.vm.findClass zs1 = some m.cls := findClass_of_methodNamed Bd.named
  have hnm := (name_of_methodNamed Bd.named Bd.method).1
  have X0 : Stand p l e ({ frames := 1, cells := 0, slots := 0, locals := 12 } : Room) s m #[(.ref a168)] below meth c s₁ [] 0 0 := Stand.of_body Bd
  have e0 : s₁.heap = h0 := by rw [← hh, Bd.state]; rfl
  have N0 := Fr.nil n0
  refine own_out ?_
  refine own_via (fun t k => castTop (ef_10 m a168) (XS.aloadN X0.here hx rfl (hb hby d6_0) rfl rfl k)) ?_
  obtain ⟨_, T176, _, X176, hQ176, st176⟩ := own_cv X0 hx hZ hown (wd hw 32 rfl) (wd hw 33 rfl) (wd hw 35 rfl) (wd hw 34 rfl) (wd hw 36 rfl) (wd hw 2 rfl) (by decide) (rm9 l Z a0 hw [] a168 a169 h0 n0 O0 pF_a168_value) e0 pE_a168 (g := (mkF m 1 #[rv a168] [(.ref a168)])) rfl (by rw [hml]; rfl) (rest := []) (W := 0) (lenOf pd_6 rfl) rfl (by show 2 * 0 + _ ≤ _; exact Nat.le_of_eq rfl) (hb hby d6_1) (by decide) (by decide) (by decide) (by decide)
  obtain ⟨rfl, Nq176, hh186⟩ := hQ176
  have N176 := Fr.app N0 Nq176
  refine own_via (fun t k => st176 t (XS.ifNo X176.here hx rfl (hb hby d6_4) rfl ((if0 _ _).trans (teq (by decide : (0 : Int32) = (0 : Int32))).2) (XS.iconst X176.here hx rfl (hb hby d6_7) (XS.goto X176.here hx rfl (pc0 := 8) (pc' := 12) rfl (hb hby d6_8) (by decide) (by decide) k)))) ?_
  show own_Goes p e below (T176.setTop (mkF m 12 #[rv a168] [(.int (1 : Int32))])) _
  obtain ⟨fs, hr, hrun, hended, hW, hsame⟩ := X176.leave (v := some (.int (1 : Int32))) (fun h => by rw [Bd.returns] at h; cases h)
  refine own_end (t := T176.setFrames fs) ?_ ⟨_, hrun, hended, _, _, rfl, ?_, ⟨_, rfl⟩, hW, hsame.mono (by decide) (by decide)⟩
  · exact retN X176 hx (t := .boolean) Bd.returns (by simp) (hb hby d6_12) hr
  · show Q10 Z a168 a169 h0 n0 _ T176.heap _
    rw [hh186]
    exact ⟨rfl, N176, rfl⟩
theorem d8_0 : decode prog_1_method_14_code 0 = .ok (.aload_n 0, 1) := by decide +kernel
theorem d8_1 : decode prog_1_method_14_code 1 = .ok (.invokevirtual 70, 3) := by decide +kernel
theorem d8_4 : decode prog_1_method_14_code 4 = .ok (.ifCond .eq 13, 3) := by decide +kernel
theorem d8_17 : decode prog_1_method_14_code 17 = .ok (.aload_n 0, 1) := by decide +kernel
theorem d8_18 : decode prog_1_method_14_code 18 = .ok (.getfield 7, 3) := by decide +kernel
theorem d8_21 : decode prog_1_method_14_code 21 = .ok (.areturn, 1) := by decide +kernel
theorem ef_11 (m : MethodId) (x0 : Addr) : entryFrame m #[(.ref x0)] 1 = mkF m 0 #[rv x0] [] := by first | (simp [entryFrame, mkF, argsToLocals, Value.category]; done) | rfl
def Q11 (Z : State) (a189 : Addr) (w17 : Addr) (a190 : Addr) (h0 : Heap) (n0 : Nat) (v : Option Value) (h : Heap) (L : List Loc) : Prop := v = some (.ref a190) ∧ Fr n0 L ∧ h = h0
set_option maxRecDepth 65536 in
set_option maxHeartbeats 40000000 in
theorem rm11 (l : Launch) (Z : State) (a0 : Array Value) (hw : ∀ d ∈ tables_1, d.before a0 Z = true) (ws : List Jvm.Cond) (a189 : Addr) (w17 : Addr) (a190 : Addr) (h0 : Heap) (n0 : Nat) (O0 : Old Z n0 h0) (S_Tertium_ABSENT : Sta Z Z.heap zs1 "ABSENT" zs4 (.ref w17)) (SE_w17 : Exa Z Z.heap w17 zs1) (pG_a189 : n0 ≤ a189) (pE_a189 : Exa Z h0 a189 zs1) (pF_a189_value : Fld Z h0 a189 zs1 "value" zs3 (.ref a190)) :
    MetFree l (⟨zs1, "get", zs8⟩ : MethodName) (head1 (Jvm.Cond.code (⟨zs1, "get", zs8⟩ : MethodName) prog_1_method_14_code 1 (some (.object zs6)) :: ws) ({ frames := 1, cells := 0, slots := 0, locals := 12 } : Room)) (fun a U => a = #[(.ref a189)] ∧ Z.Warmed39 U.vm ∧ U.heap = h0) (fun _ _ _ _ _ => True) (fun _ U o U' => ∃ v L, o = .returned v ∧ Q11 Z a189 w17 a190 h0 n0 v U'.heap L ∧ FrameEnd U o U' L ({ frames := 1, cells := 0, slots := 0, locals := 12 } : Room).cells ({ frames := 1, cells := 0, slots := 0, locals := 12 } : Room).slots) := by
  refine MetFree.of_bodySF (plainFor_of_name pn_3) hisR ?_
  intro p e s m args below meth c s₁ Bd hml0 hP hK
  obtain ⟨rfl, hZ, hh⟩ := hP
  have hx := Bd.exec
  have hby := Bd.bytes
  have hml : c.maxLocals = 1 := hml0
  have hown : s.vm.findClass zs1 = some m.cls := findClass_of_methodNamed Bd.named
  have hnm := (name_of_methodNamed Bd.named Bd.method).1
  have X0 : Stand p l e ({ frames := 1, cells := 0, slots := 0, locals := 12 } : Room) s m #[(.ref a189)] below meth c s₁ [] 0 0 := Stand.of_body Bd
  have e0 : s₁.heap = h0 := by rw [← hh, Bd.state]; rfl
  have N0 := Fr.nil n0
  refine own_out ?_
  refine own_via (fun t k => castTop (ef_11 m a189) (XS.aloadN X0.here hx rfl (hb hby d8_0) rfl rfl k)) ?_
  obtain ⟨_, T197, _, X197, hQ197, st197⟩ := own_cv X0 hx hZ hown (wd hw 14 rfl) (wd hw 15 rfl) (wd hw 17 rfl) (wd hw 16 rfl) (wd hw 18 rfl) (wd hw 2 rfl) (by decide) (rm6 l Z a0 hw [] a189 w17 h0 n0 O0 S_Tertium_ABSENT SE_w17 pG_a189) e0 pE_a189 (g := (mkF m 1 #[rv a189] [(.ref a189)])) rfl (by rw [hml]; rfl) (rest := []) (W := 0) (lenOf pd_6 rfl) rfl (by show 2 * 0 + _ ≤ _; exact Nat.le_of_eq rfl) (hb hby d8_1) (by decide) (by decide) (by decide) (by decide)
  obtain ⟨rfl, Nq197, hh198⟩ := hQ197
  have N197 := Fr.app N0 Nq197
  refine own_via (fun t k => st197 t (XS.ifYes X197.here hx rfl (pc0 := 4) (pc' := 17) rfl (hb hby d8_4) rfl ((if0 _ _).trans (teq (by decide : (0 : Int32) = (0 : Int32))).1) (by decide) (by decide) (XS.aloadN X197.here hx rfl (hb hby d8_17) rfl rfl k))) ?_
  show own_Goes p e below (T197.setTop (mkF m 18 #[rv a189] [(.ref a189)])) _
  obtain ⟨T199, X199, e199, st199⟩ := getF X197 hx hZ hown (host := "") (Or.inl (wd hw 37 rfl)) Via.refl hh198 pF_a189_value (g := (mkF m 18 #[rv a189] [(.ref a189)])) rfl rfl (hb hby d8_18)
  refine own_via (fun t k => st199 t k) ?_
  obtain ⟨fs, hr, hrun, hended, hW, hsame⟩ := X199.leave (v := some (.ref a190)) (fun h => by rw [Bd.returns] at h; cases h)
  refine own_end (t := T199.setFrames fs) ?_ ⟨_, hrun, hended, _, _, rfl, ?_, ⟨_, rfl⟩, hW, hsame.mono (by decide) (by decide)⟩
  · jvm_step X199.here [X199.here.top, hx, (hb hby d8_21), X199.method', Bd.returns, Value.isRef, FieldType.isReference]
    first | (intro acts; rw [hr _ acts rfl rfl rfl]) | rw [hr _ _ rfl rfl rfl]
    exact Steps.refl _
  · show Q11 Z a189 w17 a190 h0 n0 _ T199.heap _
    rw [e199]
    exact ⟨rfl, N197, rfl⟩
theorem pd_7 : parseMethodDescriptor "()Ljava/lang/Object;" = some ⟨[], some (.object "java/lang/Object")⟩ := by decide +kernel
theorem d16_0 : decode jdk_33_method_27_code 0 = .ok (.aload_n 0, 1) := by decide +kernel
theorem d16_1 : decode jdk_33_method_27_code 1 = .ok (.getfield 205, 3) := by decide +kernel
theorem d16_4 : decode jdk_33_method_27_code 4 = .ok (.ireturn, 1) := by decide +kernel
theorem ef_12 (m : MethodId) (x0 : Addr) : entryFrame m #[(.ref x0)] 1 = mkF m 0 #[rv x0] [] := by first | (simp [entryFrame, mkF, argsToLocals, Value.category]; done) | rfl
def Q12 (Z : State) (a204 : Addr) (p205 : Int32) (h0 : Heap) (n0 : Nat) (v : Option Value) (h : Heap) (L : List Loc) : Prop := v = some (.int p205) ∧ Fr n0 L ∧ h = h0
set_option maxRecDepth 65536 in
set_option maxHeartbeats 40000000 in
theorem rm12 (l : Launch) (Z : State) (a0 : Array Value) (hw : ∀ d ∈ tables_1, d.before a0 Z = true) (ws : List Jvm.Cond) (a204 : Addr) (p205 : Int32) (h0 : Heap) (n0 : Nat) (O0 : Old Z n0 h0) (pF_a204_value : Fld Z h0 a204 zs2 "value" "I" (.int p205)) :
    MetFree l (⟨zs2, "intValue", "()I"⟩ : MethodName) (head1 (Jvm.Cond.code (⟨zs2, "intValue", "()I"⟩ : MethodName) jdk_33_method_27_code 1 (some .int) :: ws) ({ frames := 0, cells := 0, slots := 0, locals := 0 } : Room)) (fun a U => a = #[(.ref a204)] ∧ Z.Warmed39 U.vm ∧ U.heap = h0) (fun _ _ _ _ _ => True) (fun _ U o U' => ∃ v L, o = .returned v ∧ Q12 Z a204 p205 h0 n0 v U'.heap L ∧ FrameEnd U o U' L ({ frames := 0, cells := 0, slots := 0, locals := 0 } : Room).cells ({ frames := 0, cells := 0, slots := 0, locals := 0 } : Room).slots) := by
  refine MetFree.of_bodySF (plainFor_of_name pn_2) hisR ?_
  intro p e s m args below meth c s₁ Bd hml0 hP hK
  obtain ⟨rfl, hZ, hh⟩ := hP
  have hx := Bd.exec
  have hby := Bd.bytes
  have hml : c.maxLocals = 1 := hml0
  have hown : s.vm.findClass zs2 = some m.cls := findClass_of_methodNamed Bd.named
  have hnm := (name_of_methodNamed Bd.named Bd.method).1
  have X0 : Stand p l e ({ frames := 0, cells := 0, slots := 0, locals := 0 } : Room) s m #[(.ref a204)] below meth c s₁ [] 0 0 := Stand.of_body Bd
  have e0 : s₁.heap = h0 := by rw [← hh, Bd.state]; rfl
  have N0 := Fr.nil n0
  refine own_out ?_
  refine own_via (fun t k => castTop (ef_12 m a204) (XS.aloadN X0.here hx rfl (hb hby d16_0) rfl rfl k)) ?_
  obtain ⟨T212, X212, e212, st212⟩ := getF X0 hx hZ hown (host := "") (Or.inl (wd hw 77 rfl)) Via.refl e0 pF_a204_value (g := (mkF m 1 #[rv a204] [(.ref a204)])) rfl rfl (hb hby d16_1)
  refine own_via (fun t k => st212 t k) ?_
  obtain ⟨fs, hr, hrun, hended, hW, hsame⟩ := X212.leave (v := some (.int p205)) (fun h => by rw [Bd.returns] at h; cases h)
  refine own_end (t := T212.setFrames fs) ?_ ⟨_, hrun, hended, _, _, rfl, ?_, ⟨_, rfl⟩, hW, hsame.mono (by decide) (by decide)⟩
  · exact retI X212 hx Bd.returns (hb hby d16_4) hr
  · show Q12 Z a204 p205 h0 n0 _ T212.heap _
    rw [e212]
    exact ⟨rfl, N0, rfl⟩
theorem pd_8 : parseMethodDescriptor "()I" = some ⟨[], some .int⟩ := by decide +kernel
theorem d17_0 : decode prog_1_method_35_code 0 = .ok (.aload_n 0, 1) := by decide +kernel
theorem d17_1 : decode prog_1_method_35_code 1 = .ok (.invokevirtual 70, 3) := by decide +kernel
theorem d17_4 : decode prog_1_method_35_code 4 = .ok (.ifCond .eq 6, 3) := by decide +kernel
theorem d17_10 : decode prog_1_method_35_code 10 = .ok (.aload_n 0, 1) := by decide +kernel
theorem d17_11 : decode prog_1_method_35_code 11 = .ok (.invokevirtual 140, 3) := by decide +kernel
theorem d17_14 : decode prog_1_method_35_code 14 = .ok (.ifCond .eq 6, 3) := by decide +kernel
theorem d17_20 : decode prog_1_method_35_code 20 = .ok (.aload_n 0, 1) := by decide +kernel
theorem d17_21 : decode prog_1_method_35_code 21 = .ok (.getfield 7, 3) := by decide +kernel
theorem d17_24 : decode prog_1_method_35_code 24 = .ok (.invokevirtual 196, 3) := by decide +kernel
theorem d18_0 : decode jdk_33_method_32_code 0 = .ok (.aload_n 0, 1) := by decide +kernel
theorem d18_1 : decode jdk_33_method_32_code 1 = .ok (.getfield 205, 3) := by decide +kernel
theorem d18_4 : decode jdk_33_method_32_code 4 = .ok (.invokestatic 208, 3) := by decide +kernel
theorem d19_0 : decode jdk_33_method_33_code 0 = .ok (.iload_n 0, 1) := by decide +kernel
theorem d19_1 : decode jdk_33_method_33_code 1 = .ok (.ireturn, 1) := by decide +kernel
theorem ef_13 (m : MethodId) (x0 : Int32) : entryFrame m #[(.int x0)] 1 = mkF m 0 #[iv x0] [] := by first | (simp [entryFrame, mkF, argsToLocals, Value.category]; done) | rfl
def Q13 (Z : State) (p240 : Int32) (h0 : Heap) (n0 : Nat) (v : Option Value) (h : Heap) (L : List Loc) : Prop := v = some (.int p240) ∧ Fr n0 L ∧ h = h0
set_option maxRecDepth 65536 in
set_option maxHeartbeats 40000000 in
theorem rm13 (l : Launch) (Z : State) (a0 : Array Value) (hw : ∀ d ∈ tables_1, d.before a0 Z = true) (ws : List Jvm.Cond) (p240 : Int32) (h0 : Heap) (n0 : Nat) (O0 : Old Z n0 h0) :
    MetFree l (⟨zs2, "hashCode", "(I)I"⟩ : MethodName) (head1 (Jvm.Cond.code (⟨zs2, "hashCode", "(I)I"⟩ : MethodName) jdk_33_method_33_code 1 (some .int) :: ws) ({ frames := 0, cells := 0, slots := 0, locals := 0 } : Room)) (fun a U => a = #[(.int p240)] ∧ Z.Warmed39 U.vm ∧ U.heap = h0) (fun _ _ _ _ _ => True) (fun _ U o U' => ∃ v L, o = .returned v ∧ Q13 Z p240 h0 n0 v U'.heap L ∧ FrameEnd U o U' L ({ frames := 0, cells := 0, slots := 0, locals := 0 } : Room).cells ({ frames := 0, cells := 0, slots := 0, locals := 0 } : Room).slots) := by
  refine MetFree.of_bodySF (plainFor_of_name pn_2) hisR ?_
  intro p e s m args below meth c s₁ Bd hml0 hP hK
  obtain ⟨rfl, hZ, hh⟩ := hP
  have hx := Bd.exec
  have hby := Bd.bytes
  have hml : c.maxLocals = 1 := hml0
  have hown : s.vm.findClass zs2 = some m.cls := findClass_of_methodNamed Bd.named
  have hnm := (name_of_methodNamed Bd.named Bd.method).1
  have X0 : Stand p l e ({ frames := 0, cells := 0, slots := 0, locals := 0 } : Room) s m #[(.int p240)] below meth c s₁ [] 0 0 := Stand.of_body Bd
  have e0 : s₁.heap = h0 := by rw [← hh, Bd.state]; rfl
  have N0 := Fr.nil n0
  refine own_out ?_
  refine own_via (fun t k => castTop (ef_13 m p240) (XS.iloadN X0.here hx rfl (hb hby d19_0) rfl k)) ?_
  obtain ⟨fs, hr, hrun, hended, hW, hsame⟩ := X0.leave (v := some (.int p240)) (fun h => by rw [Bd.returns] at h; cases h)
  refine own_end (t := s₁.setFrames fs) ?_ ⟨_, hrun, hended, _, _, rfl, ?_, ⟨_, rfl⟩, hW, hsame.mono (by decide) (by decide)⟩
  · exact retI X0 hx Bd.returns (hb hby d19_1) hr
  · show Q13 Z p240 h0 n0 _ s₁.heap _
    rw [e0]
    exact ⟨rfl, N0, rfl⟩
theorem pd_9 : parseMethodDescriptor "(I)I" = some ⟨[.int], some .int⟩ := by decide +kernel
theorem d18_7 : decode jdk_33_method_32_code 7 = .ok (.ireturn, 1) := by decide +kernel
theorem ef_14 (m : MethodId) (x0 : Addr) : entryFrame m #[(.ref x0)] 1 = mkF m 0 #[rv x0] [] := by first | (simp [entryFrame, mkF, argsToLocals, Value.category]; done) | rfl
def Q14 (Z : State) (a230 : Addr) (p231 : Int32) (h0 : Heap) (n0 : Nat) (v : Option Value) (h : Heap) (L : List Loc) : Prop := v = some (.int p231) ∧ Fr n0 L ∧ h = h0
set_option maxRecDepth 65536 in
set_option maxHeartbeats 40000000 in
theorem rm14 (l : Launch) (Z : State) (a0 : Array Value) (hw : ∀ d ∈ tables_1, d.before a0 Z = true) (ws : List Jvm.Cond) (a230 : Addr) (p231 : Int32) (h0 : Heap) (n0 : Nat) (O0 : Old Z n0 h0) (pF_a230_value : Fld Z h0 a230 zs2 "value" "I" (.int p231)) :
    MetFree l (⟨zs2, "hashCode", "()I"⟩ : MethodName) (head1 (Jvm.Cond.code (⟨zs2, "hashCode", "()I"⟩ : MethodName) jdk_33_method_32_code 1 (some .int) :: ws) ({ frames := 1, cells := 0, slots := 0, locals := 12 } : Room)) (fun a U => a = #[(.ref a230)] ∧ Z.Warmed39 U.vm ∧ U.heap = h0) (fun _ _ _ _ _ => True) (fun _ U o U' => ∃ v L, o = .returned v ∧ Q14 Z a230 p231 h0 n0 v U'.heap L ∧ FrameEnd U o U' L ({ frames := 1, cells := 0, slots := 0, locals := 12 } : Room).cells ({ frames := 1, cells := 0, slots := 0, locals := 12 } : Room).slots) := by
  refine MetFree.of_bodySF (plainFor_of_name pn_2) hisR ?_
  intro p e s m args below meth c s₁ Bd hml0 hP hK
  obtain ⟨rfl, hZ, hh⟩ := hP
  have hx := Bd.exec
  have hby := Bd.bytes
  have hml : c.maxLocals = 1 := hml0
  have hown : s.vm.findClass zs2 = some m.cls := findClass_of_methodNamed Bd.named
  have hnm := (name_of_methodNamed Bd.named Bd.method).1
  have X0 : Stand p l e ({ frames := 1, cells := 0, slots := 0, locals := 12 } : Room) s m #[(.ref a230)] below meth c s₁ [] 0 0 := Stand.of_body Bd
  have e0 : s₁.heap = h0 := by rw [← hh, Bd.state]; rfl
  have N0 := Fr.nil n0
  refine own_out ?_
  refine own_via (fun t k => castTop (ef_14 m a230) (XS.aloadN X0.here hx rfl (hb hby d18_0) rfl rfl k)) ?_
  obtain ⟨T238, X238, e238, st238⟩ := getF X0 hx hZ hown (host := "") (Or.inl (wd hw 77 rfl)) Via.refl e0 pF_a230_value (g := (mkF m 1 #[rv a230] [(.ref a230)])) rfl rfl (hb hby d18_1)
  refine own_via (fun t k => st238 t k) ?_
  obtain ⟨_, T239, _, X239, hQ239, st239⟩ := own_cs X238 hx hZ hown (wd hw 102 rfl) (wd hw 103 rfl) (wd hw 104 rfl) (wd hw 60 rfl) (by decide) (rm13 l Z a0 hw [] p231 h0 n0 O0 ) e238 (g := (mkF m 4 #[rv a230] [(.int p231)])) rfl (by rw [hml]; rfl) (rest := []) (W := 0) (lenOf pd_9 rfl) rfl (by show 2 * 0 + _ ≤ _; exact Nat.le_of_eq rfl) (hb hby d18_4) (by decide) (by decide) (by decide) (by decide)
  obtain ⟨rfl, Nq239, hh248⟩ := hQ239
  have N239 := Fr.app N0 Nq239
  refine own_via (fun t k => st239 t k) ?_
  obtain ⟨fs, hr, hrun, hended, hW, hsame⟩ := X239.leave (v := some (.int p231)) (fun h => by rw [Bd.returns] at h; cases h)
  refine own_end (t := T239.setFrames fs) ?_ ⟨_, hrun, hended, _, _, rfl, ?_, ⟨_, rfl⟩, hW, hsame.mono (by decide) (by decide)⟩
  · exact retI X239 hx Bd.returns (hb hby d18_7) hr
  · show Q14 Z a230 p231 h0 n0 _ T239.heap _
    rw [hh248]
    exact ⟨rfl, N239, rfl⟩
theorem own_nfLam {Z s : State} {args : Array Value} {x y : MethodName} {pc index : Nat} {σ : Lambda.Shape} (hal : Z.vm.Alike s.vm) (w : (Jvm.Cond.lambdaSite x pc index σ).before args Z = true) (hi : σ.implItf = false) (hy : y.cls = σ.implClass) : NotFace s y := fun r0 h0 => by
  obtain ⟨cK, one, hat⟩ := Cond.lambdaSite_spec w
  obtain ⟨mD, kD, cfD, i0, p0, lk, hmD, hkD, -, -, -, -, hmade, -, -⟩ := State.lambdaAt?_spec hat
  obtain ⟨dk', k, ok, tk, file, cf, object, iface, toy, lay, methods, target, found, -, -, -, -, -, -, -, -, -, ht, htk, -, -, hrec⟩ := Lambda.isMade_spec hmade
  have q : tk.isInterface = σ.implItf := by
    obtain ⟨-, -, -, -, h5, -⟩ := hrec
    exact h5
  have hc : s.vm.findClass y.cls = some r0.cls := by
    simp only [State.methodNamed?, Option.bind_eq_bind, Option.bind_eq_some_iff, Option.pure_def, Option.some.injEq] at h0
    obtain ⟨c, hc, k1, -, i, -, rfl⟩ := h0
    exact hc
  rw [hy, hal.findClass] at hc
  cases hc.symm.trans ht
  obtain ⟨k', hk', ek⟩ := hal.2.2 _ _ htk
  exact ⟨k', hk', by rw [ek]; exact q.trans hi⟩
theorem d17_27 : decode prog_1_method_35_code 27 = .ok (.ireturn, 1) := by decide +kernel
theorem ef_15 (m : MethodId) (x0 : Addr) : entryFrame m #[(.ref x0)] 1 = mkF m 0 #[rv x0] [] := by first | (simp [entryFrame, mkF, argsToLocals, Value.category]; done) | rfl
def Q15 (Z : State) (a216 : Addr) (w17 : Addr) (w15 : Addr) (a217 : Addr) (p218 : Int32) (h0 : Heap) (n0 : Nat) (v : Option Value) (h : Heap) (L : List Loc) : Prop := v = some (.int p218) ∧ Fr n0 L ∧ h = h0
set_option maxRecDepth 65536 in
set_option maxHeartbeats 40000000 in
theorem rm15 (l : Launch) (Z : State) (a0 : Array Value) (hw : ∀ d ∈ tables_1, d.before a0 Z = true) (ws : List Jvm.Cond) (a216 : Addr) (w17 : Addr) (w15 : Addr) (a217 : Addr) (p218 : Int32) (h0 : Heap) (n0 : Nat) (O0 : Old Z n0 h0) (S_Tertium_ABSENT : Sta Z Z.heap zs1 "ABSENT" zs4 (.ref w17)) (SE_w17 : Exa Z Z.heap w17 zs1) (pG_a216 : n0 ≤ a216) (pE_a216 : Exa Z h0 a216 zs1) (S_Tertium_NULL : Sta Z Z.heap zs1 "NULL" zs4 (.ref w15)) (SE_w15 : Exa Z Z.heap w15 zs1) (pF_a216_value : Fld Z h0 a216 zs1 "value" zs3 (.ref a217)) (pF_a217_value : Fld Z h0 a217 zs2 "value" "I" (.int p218)) (pE_a217 : Exa Z h0 a217 zs2) :
    MetFree l (⟨zs1, "hashCode", "()I"⟩ : MethodName) (head1 (Jvm.Cond.code (⟨zs1, "hashCode", "()I"⟩ : MethodName) prog_1_method_35_code 1 (some .int) :: ws) ({ frames := 2, cells := 0, slots := 0, locals := 24 } : Room)) (fun a U => a = #[(.ref a216)] ∧ Z.Warmed39 U.vm ∧ U.heap = h0) (fun _ _ _ _ _ => True) (fun _ U o U' => ∃ v L, o = .returned v ∧ Q15 Z a216 w17 w15 a217 p218 h0 n0 v U'.heap L ∧ FrameEnd U o U' L ({ frames := 2, cells := 0, slots := 0, locals := 24 } : Room).cells ({ frames := 2, cells := 0, slots := 0, locals := 24 } : Room).slots) := by
  refine MetFree.of_bodySF (plainFor_of_name pn_3) hisR ?_
  intro p e s m args below meth c s₁ Bd hml0 hP hK
  obtain ⟨rfl, hZ, hh⟩ := hP
  have hx := Bd.exec
  have hby := Bd.bytes
  have hml : c.maxLocals = 1 := hml0
  have hown : s.vm.findClass zs1 = some m.cls := findClass_of_methodNamed Bd.named
  have hnm := (name_of_methodNamed Bd.named Bd.method).1
  have X0 : Stand p l e ({ frames := 2, cells := 0, slots := 0, locals := 24 } : Room) s m #[(.ref a216)] below meth c s₁ [] 0 0 := Stand.of_body Bd
  have e0 : s₁.heap = h0 := by rw [← hh, Bd.state]; rfl
  have N0 := Fr.nil n0
  refine own_out ?_
  refine own_via (fun t k => castTop (ef_15 m a216) (XS.aloadN X0.here hx rfl (hb hby d17_0) rfl rfl k)) ?_
  obtain ⟨_, T224, _, X224, hQ224, st224⟩ := own_cv X0 hx hZ hown (wd hw 14 rfl) (wd hw 15 rfl) (wd hw 17 rfl) (wd hw 16 rfl) (wd hw 18 rfl) (wd hw 2 rfl) (by decide) (rm6 l Z a0 hw [] a216 w17 h0 n0 O0 S_Tertium_ABSENT SE_w17 pG_a216) e0 pE_a216 (g := (mkF m 1 #[rv a216] [(.ref a216)])) rfl (by rw [hml]; rfl) (rest := []) (W := 0) (lenOf pd_6 rfl) rfl (by show 2 * 0 + _ ≤ _; exact Nat.le_of_eq rfl) (hb hby d17_1) (by decide) (by decide) (by decide) (by decide)
  obtain ⟨rfl, Nq224, hh225⟩ := hQ224
  have N224 := Fr.app N0 Nq224
  refine own_via (fun t k => st224 t (XS.ifYes X224.here hx rfl (pc0 := 4) (pc' := 10) rfl (hb hby d17_4) rfl ((if0 _ _).trans (teq (by decide : (0 : Int32) = (0 : Int32))).1) (by decide) (by decide) (XS.aloadN X224.here hx rfl (hb hby d17_10) rfl rfl k))) ?_
  show own_Goes p e below (T224.setTop (mkF m 11 #[rv a216] [(.ref a216)])) _
  obtain ⟨_, T226, _, X226, hQ226, st226⟩ := own_cv X224 hx hZ hown (wd hw 95 rfl) (wd hw 23 rfl) (wd hw 25 rfl) (wd hw 24 rfl) (wd hw 26 rfl) (wd hw 2 rfl) (by decide) (rm8 l Z a0 hw [] a216 w15 h0 n0 O0 S_Tertium_NULL SE_w15 pG_a216) hh225 pE_a216 (g := (mkF m 11 #[rv a216] [(.ref a216)])) rfl (by rw [hml]; rfl) (rest := []) (W := 0) (lenOf pd_6 rfl) rfl (by show 2 * 0 + _ ≤ _; exact Nat.le_of_eq rfl) (hb hby d17_11) (by decide) (by decide) (by decide) (by decide)
  obtain ⟨rfl, Nq226, hh227⟩ := hQ226
  have N226 := Fr.app N224 Nq226
  refine own_via (fun t k => st226 t (XS.ifYes X226.here hx rfl (pc0 := 14) (pc' := 20) rfl (hb hby d17_14) rfl ((if0 _ _).trans (teq (by decide : (0 : Int32) = (0 : Int32))).1) (by decide) (by decide) (XS.aloadN X226.here hx rfl (hb hby d17_20) rfl rfl k))) ?_
  show own_Goes p e below (T226.setTop (mkF m 21 #[rv a216] [(.ref a216)])) _
  obtain ⟨T228, X228, e228, st228⟩ := getF X226 hx hZ hown (host := "") (Or.inl (wd hw 37 rfl)) Via.refl hh227 pF_a216_value (g := (mkF m 21 #[rv a216] [(.ref a216)])) rfl rfl (hb hby d17_21)
  refine own_via (fun t k => st228 t k) ?_
  obtain ⟨cq229, kq229, q229a, q229b, q229c⟩ := isOf hZ e228 pE_a217
  obtain ⟨_, _, ⟨T229, L229, c229, n229⟩, -, X229, ⟨Lc229, hQ229, l229, y229, z229⟩, st229⟩ := X228.virtualBack hx (y := (⟨zs6, "hashCode", "()I"⟩ : MethodName)) (z := (⟨zs2, "hashCode", "()I"⟩ : MethodName)) hown (mvT hZ (wd hw 96 rfl)) (mvT hZ (wd hw 97 rfl)) (own_nfLam hZ.alike (wd hw 52 rfl) rfl rfl) (mvT hZ (wd hw 99 rfl)) (mvT hZ (wd hw 100 rfl)) (by decide) (backOf (W := 0) (rm14 l Z a0 hw [] a217 p218 h0 n0 O0 pF_a217_value) hZ (wd hw 101 rfl) (wd hw 60 rfl) (by decide) (by decide)) q229a q229c (g := (mkF m 24 #[rv a216] [(.ref a217)])) rfl (by rw [hml]; rfl) (Steps.refl _) (argsL := []) (rest := []) (lenOf pd_8 rfl) rfl (by show 2 * 0 + _ ≤ _; exact Nat.le_of_eq rfl) (hb hby d17_24) (fun _ _ => ⟨rfl, e228, (by decide : 0 + 0 ≤ _), (by decide : 0 + 0 ≤ _)⟩)
  dsimp only [Pt.U, Pt.locs, Pt.cells, Pt.slots] at X229 l229 y229 z229 st229 hQ229
  subst l229 y229 z229
  obtain ⟨rfl, Nq229, hh249⟩ := hQ229
  have N229 := Fr.app N226 Nq229
  refine own_via (fun t k => st229.trans k) ?_
  obtain ⟨fs, hr, hrun, hended, hW, hsame⟩ := X229.leave (v := some (.int p218)) (fun h => by rw [Bd.returns] at h; cases h)
  refine own_end (t := T229.setFrames fs) ?_ ⟨_, hrun, hended, _, _, rfl, ?_, ⟨_, rfl⟩, hW, hsame.mono (by decide) (by decide)⟩
  · exact retI X229 hx Bd.returns (hb hby d17_27) hr
  · show Q15 Z a216 w17 w15 a217 p218 h0 n0 _ T229.heap _
    rw [hh249]
    exact ⟨rfl, N229, rfl⟩
def Q16 (Z : State) (a295 : Addr) (b87 : Addr) (h0 : Heap) (n0 : Nat) (v : Option Value) (h : Heap) (L : List Loc) : Prop := v = none ∧ Fr n0 L ∧ Keep h0 h [a295] ∧ Exa Z h a295 zs1 ∧ Fld Z h a295 zs1 "value" zs3 (.ref b87)
set_option maxRecDepth 65536 in
set_option maxHeartbeats 40000000 in
theorem rm16 (l : Launch) (Z : State) (a0 : Array Value) (hw : ∀ d ∈ tables_1, d.before a0 Z = true) (ws : List Jvm.Cond) (a295 : Addr) (b87 : Addr) (h0 : Heap) (n0 : Nat) (O0 : Old Z n0 h0) (pF_a295_value : Fld Z h0 a295 zs1 "value" zs3 .null) (pE_a295 : Exa Z h0 a295 zs1) (pG_a295 : n0 ≤ a295) :
    MetFree l (⟨zs1, "<init>", zs9⟩ : MethodName) (head1 (Jvm.Cond.code (⟨zs1, "<init>", zs9⟩ : MethodName) prog_1_method_1_code 2 none :: ws) ({ frames := 1, cells := 0, slots := 0, locals := 12 } : Room)) (fun a U => a = #[(.ref a295), (.ref b87)] ∧ Z.Warmed39 U.vm ∧ U.heap = h0) (fun _ _ _ _ _ => True) (fun _ U o U' => ∃ v L, o = .returned v ∧ Q16 Z a295 b87 h0 n0 v U'.heap L ∧ FrameEnd U o U' L ({ frames := 1, cells := 0, slots := 0, locals := 12 } : Room).cells ({ frames := 1, cells := 0, slots := 0, locals := 12 } : Room).slots) := by
  refine MetFree.of_bodySF (plainFor_of_name pn_3) hisR ?_
  intro p e s m args below meth c s₁ Bd hml0 hP hK
  obtain ⟨rfl, hZ, hh⟩ := hP
  have hx := Bd.exec
  have hby := Bd.bytes
  have hml : c.maxLocals = 2 := hml0
  have hown : s.vm.findClass zs1 = some m.cls := findClass_of_methodNamed Bd.named
  have hnm := (name_of_methodNamed Bd.named Bd.method).1
  have X0 : Stand p l e ({ frames := 1, cells := 0, slots := 0, locals := 12 } : Room) s m #[(.ref a295), (.ref b87)] below meth c s₁ [] 0 0 := Stand.of_body Bd
  have e0 : s₁.heap = h0 := by rw [← hh, Bd.state]; rfl
  have N0 := Fr.nil n0
  refine own_out ?_
  refine own_via (fun t k => castTop (ef_4 m a295 b87) (XS.aloadN X0.here hx rfl (hb hby d15_0) rfl rfl k)) ?_
  obtain ⟨T303, X303, e303, st303⟩ := initO X0 hx hZ hown (wd hw 83 rfl) (wd hw 75 rfl) (wd hw 76 rfl) e0 (g := (mkF m 1 #[rv a295, rv b87] [(.ref a295)])) rfl (by rw [hml]; rfl) rfl (hb hby d15_1) (by decide) (W := 0) (by show 2 * 0 + _ ≤ _; exact Nat.le_of_eq rfl) (by decide)
  refine own_via (fun t k => st303 t (XS.aloadN X303.here hx rfl (hb hby d15_4) rfl rfl (XS.aloadN X303.here hx rfl (hb hby d15_5) rfl rfl k))) ?_
  show own_Goes p e below (T303.setTop (mkF m 6 #[rv a295, rv b87] [(.ref b87), (.ref a295)])) _
  obtain ⟨T304, h304, X304, e304, W304, st304⟩ := putF X303 hx hZ hown (host := "") (Or.inl (wd hw 37 rfl)) Via.refl e303 pF_a295_value pE_a295 (Or.inr ⟨(wd hw 38 rfl), rfl, hnm⟩) (wd hw 79 rfl) (ty := (.object zs6)) (by decide) rfl rfl (g := (mkF m 6 #[rv a295, rv b87] [(.ref b87), (.ref a295)])) rfl rfl (hb hby d15_6)
  refine own_via (fun t k => st304 t k) ?_
  have Fw304 : Fld Z h304 a295 zs1 "value" zs3 (.ref b87) := pF_a295_value.same W304
  have N304 := Fr.snoc X304 N0 pG_a295
  show own_Goes p e below (T304.setTop (mkF m 9 #[rv a295, rv b87] [])) _
  obtain ⟨fs, hr, hrun, hended, hW, hsame⟩ := X304.leave (v := none) (fun _ => rfl)
  refine own_end (t := T304.setFrames fs) ?_ ⟨_, hrun, hended, _, _, rfl, ?_, ⟨_, rfl⟩, hW, hsame.mono (by decide) (by decide)⟩
  · exact X304.returnOut hx Bd.returns (hb hby d15_9) hr
  have E305 : Exa Z h304 a295 zs1 := (pE_a295.wr W304)
  · show Q16 Z a295 b87 h0 n0 _ T304.heap _
    rw [e304]
    exact ⟨rfl, N304, ((Keep.refl h0 [a295]).wr W304 (Or.inl (List.mem_of_getElem? (i := 0) rfl))), E305, Fw304⟩
def Q17 (Z : State) (b87 : Addr) (h0 : Heap) (n0 : Nat) (v : Option Value) (h : Heap) (L : List Loc) : Prop := (∃ (b290 : Addr), v = some (.ref b290) ∧ Fr n0 L ∧ Keep h0 h [] ∧ h0.size ≤ b290 ∧ Exa Z h b290 zs1 ∧ Fld Z h b290 zs1 "value" zs3 (.ref b87))
set_option maxRecDepth 65536 in
set_option maxHeartbeats 40000000 in
theorem rm17 (l : Launch) (Z : State) (a0 : Array Value) (hw : ∀ d ∈ tables_1, d.before a0 Z = true) (ws : List Jvm.Cond) (b87 : Addr) (h0 : Heap) (n0 : Nat) (O0 : Old Z n0 h0) :
    MetFree l (⟨zs1, "of", zs5⟩ : MethodName) (head1 (Jvm.Cond.code (⟨zs1, "of", zs5⟩ : MethodName) prog_1_method_4_code 1 (some (.object zs1)) :: ws) ({ frames := 2, cells := 1, slots := 1, locals := 26 } : Room)) (fun a U => a = #[(.ref b87)] ∧ Z.Warmed39 U.vm ∧ U.heap = h0) (fun _ _ _ _ _ => True) (fun _ U o U' => ∃ v L, o = .returned v ∧ Q17 Z b87 h0 n0 v U'.heap L ∧ FrameEnd U o U' L ({ frames := 2, cells := 1, slots := 1, locals := 26 } : Room).cells ({ frames := 2, cells := 1, slots := 1, locals := 26 } : Room).slots) := by
  refine MetFree.of_bodySF (plainFor_of_name pn_3) hisR ?_
  intro p e s m args below meth c s₁ Bd hml0 hP hK
  obtain ⟨rfl, hZ, hh⟩ := hP
  have hx := Bd.exec
  have hby := Bd.bytes
  have hml : c.maxLocals = 1 := hml0
  have hown : s.vm.findClass zs1 = some m.cls := findClass_of_methodNamed Bd.named
  have hnm := (name_of_methodNamed Bd.named Bd.method).1
  have X0 : Stand p l e ({ frames := 2, cells := 1, slots := 1, locals := 26 } : Room) s m #[(.ref b87)] below meth c s₁ [] 0 0 := Stand.of_body Bd
  have e0 : s₁.heap = h0 := by rw [← hh, Bd.state]; rfl
  have N0 := Fr.nil n0
  refine own_out ?_
  refine own_via (fun t k => castTop (ef_5 m b87) (XS.aloadN X0.here hx rfl (hb hby d1_0) rfl rfl (XS.ifnonnullYes X0.here hx rfl (pc0 := 1) (pc' := 8) rfl (hb hby d1_1) rfl (by decide) (by decide) k))) ?_
  show own_Goes p e below (s₁.setTop (mkF m 8 #[rv b87] [])) _
  obtain ⟨T289, h289, X289, e289, E289, A289, D289, -, st289⟩ := newO X0 hx hZ hown (wd hw 50 rfl) (wd hw 79 rfl) (wd hw 2 rfl) e0 (g := (mkF m 8 #[rv b87] [])) rfl (hb hby d1_8) (by decide) (by decide)
  obtain ⟨b290, q289⟩ : ∃ z, z = h0.size := ⟨_, rfl⟩
  rw [← q289] at A289 D289 st289
  refine own_via (fun t k => st289 t k) ?_
  have g291 : n0 ≤ b290 := Nat.le_trans (own_old O0) (Nat.le_of_eq q289.symm)
  have B292 : h0.size ≤ b290 := Nat.le_trans (Nat.le_refl _) (Nat.le_of_eq q289.symm)
  have F293 : Fld Z h289 b290 zs1 "value" zs3 .null := D289 (Or.inr (wd hw 38 rfl)) (ty := (.object zs6)) (by decide)
  show own_Goes p e below (T289.setTop (mkF m 11 #[rv b87] [(.ref b290)])) _
  refine own_via (fun t k => XS.dup X289.here hx rfl (hb hby d1_11) rfl rfl (XS.aloadN X289.here hx rfl (hb hby d1_12) rfl rfl k)) ?_
  have O306 : Old Z n0 h289 := (O0.ext E289)
  obtain ⟨_, T294, _, X294, hQ294, st294⟩ := own_ci X289 hx hZ hown (wd hw 80 rfl) (wd hw 81 rfl) (wd hw 82 rfl) (wd hw 2 rfl) rfl (by decide) (rm16 l Z a0 hw [] b290 b87 h289 n0 O306 F293 A289 g291) e289 (g := (mkF m 13 #[rv b87] [(.ref b87), (.ref b290), (.ref b290)])) rfl (by rw [hml]; rfl) (rest := [(.ref b290)]) (W := 1) (lenOf pd_4 rfl) rfl (by show 2 * 0 + _ ≤ _; exact Nat.le_of_eq rfl) (hb hby d1_13) (by decide) (by decide) (by decide) (by decide)
  obtain ⟨h294, e294⟩ : ∃ z, T294.heap = z := ⟨_, rfl⟩
  rw [e294] at hQ294
  obtain ⟨rfl, Nq294, K294, ex307, fx308⟩ := hQ294
  have N294 := Fr.app N0 Nq294
  refine own_via (fun t k => st294 t k) ?_
  obtain ⟨fs, hr, hrun, hended, hW, hsame⟩ := X294.leave (v := some (.ref b290)) (fun h => by rw [Bd.returns] at h; cases h)
  refine own_end (t := T294.setFrames fs) ?_ ⟨_, hrun, hended, _, _, rfl, ?_, ⟨_, rfl⟩, hW, hsame.mono (by decide) (by decide)⟩
  · jvm_step X294.here [X294.here.top, hx, (hb hby d1_16), X294.method', Bd.returns, Value.isRef, FieldType.isReference]
    first | (intro acts; rw [hr _ acts rfl rfl rfl]) | rw [hr _ _ rfl rfl rfl]
    exact Steps.refl _
  · show Q17 Z b87 h0 n0 _ T294.heap _
    rw [e294]
    exact ⟨b290, rfl, N294, (((Keep.refl h0 []).ext E289).trans K294 (allS (Or.inr B292) all0)), B292, ex307, fx308⟩
def Q18 (Z : State) (a332 : Addr) (b87 : Addr) (h0 : Heap) (n0 : Nat) (v : Option Value) (h : Heap) (L : List Loc) : Prop := v = some (.int (0 : Int32)) ∧ Fr n0 L ∧ h = h0
set_option maxRecDepth 65536 in
set_option maxHeartbeats 40000000 in
theorem rm18 (l : Launch) (Z : State) (a0 : Array Value) (hw : ∀ d ∈ tables_1, d.before a0 Z = true) (ws : List Jvm.Cond) (a332 : Addr) (b87 : Addr) (h0 : Heap) (n0 : Nat) (O0 : Old Z n0 h0) (pF_a332_value : Fld Z h0 a332 zs1 "value" zs3 (.ref b87)) :
    MetFree l (⟨zs1, zs10, "()Z"⟩ : MethodName) (head1 (Jvm.Cond.code (⟨zs1, zs10, "()Z"⟩ : MethodName) prog_1_method_13_code 1 (some .boolean) :: ws) ({ frames := 0, cells := 0, slots := 0, locals := 0 } : Room)) (fun a U => a = #[(.ref a332)] ∧ Z.Warmed39 U.vm ∧ U.heap = h0) (fun _ _ _ _ _ => True) (fun _ U o U' => ∃ v L, o = .returned v ∧ Q18 Z a332 b87 h0 n0 v U'.heap L ∧ FrameEnd U o U' L ({ frames := 0, cells := 0, slots := 0, locals := 0 } : Room).cells ({ frames := 0, cells := 0, slots := 0, locals := 0 } : Room).slots) := by
  refine MetFree.of_bodySF (plainFor_of_name pn_3) hisR ?_
  intro p e s m args below meth c s₁ Bd hml0 hP hK
  obtain ⟨rfl, hZ, hh⟩ := hP
  have hx := Bd.exec
  have hby := Bd.bytes
  have hml : c.maxLocals = 1 := hml0
  have hown : s.vm.findClass zs1 = some m.cls := findClass_of_methodNamed Bd.named
  have hnm := (name_of_methodNamed Bd.named Bd.method).1
  have X0 : Stand p l e ({ frames := 0, cells := 0, slots := 0, locals := 0 } : Room) s m #[(.ref a332)] below meth c s₁ [] 0 0 := Stand.of_body Bd
  have e0 : s₁.heap = h0 := by rw [← hh, Bd.state]; rfl
  have N0 := Fr.nil n0
  refine own_out ?_
  refine own_via (fun t k => castTop (ef_9 m a332) (XS.aloadN X0.here hx rfl (hb hby d7_0) rfl rfl k)) ?_
  obtain ⟨T340, X340, e340, st340⟩ := getF X0 hx hZ hown (host := "") (Or.inl (wd hw 37 rfl)) Via.refl e0 pF_a332_value (g := (mkF m 1 #[rv a332] [(.ref a332)])) rfl rfl (hb hby d7_1)
  refine own_via (fun t k => st340 t (XS.ifnonnullYes X340.here hx rfl (pc0 := 4) (pc' := 11) rfl (hb hby d7_4) rfl (by decide) (by decide) (XS.iconst X340.here hx rfl (hb hby d7_11) k))) ?_
  show own_Goes p e below (T340.setTop (mkF m 12 #[rv a332] [(.int (0 : Int32))])) _
  obtain ⟨fs, hr, hrun, hended, hW, hsame⟩ := X340.leave (v := some (.int (0 : Int32))) (fun h => by rw [Bd.returns] at h; cases h)
  refine own_end (t := T340.setFrames fs) ?_ ⟨_, hrun, hended, _, _, rfl, ?_, ⟨_, rfl⟩, hW, hsame.mono (by decide) (by decide)⟩
  · exact retN X340 hx (t := .boolean) Bd.returns (by simp) (hb hby d7_12) hr
  · show Q18 Z a332 b87 h0 n0 _ T340.heap _
    rw [e340]
    exact ⟨rfl, N0, rfl⟩
def Q19 (Z : State) (a323 : Addr) (b87 : Addr) (h0 : Heap) (n0 : Nat) (v : Option Value) (h : Heap) (L : List Loc) : Prop := v = some (.int (1 : Int32)) ∧ Fr n0 L ∧ h = h0
set_option maxRecDepth 65536 in
set_option maxHeartbeats 40000000 in
theorem rm19 (l : Launch) (Z : State) (a0 : Array Value) (hw : ∀ d ∈ tables_1, d.before a0 Z = true) (ws : List Jvm.Cond) (a323 : Addr) (b87 : Addr) (h0 : Heap) (n0 : Nat) (O0 : Old Z n0 h0) (pF_a323_value : Fld Z h0 a323 zs1 "value" zs3 (.ref b87)) (pE_a323 : Exa Z h0 a323 zs1) :
    MetFree l (⟨zs1, "isNotNull", "()Z"⟩ : MethodName) (head1 (Jvm.Cond.code (⟨zs1, "isNotNull", "()Z"⟩ : MethodName) prog_1_method_12_code 1 (some .boolean) :: ws) ({ frames := 1, cells := 0, slots := 0, locals := 12 } : Room)) (fun a U => a = #[(.ref a323)] ∧ Z.Warmed39 U.vm ∧ U.heap = h0) (fun _ _ _ _ _ => True) (fun _ U o U' => ∃ v L, o = .returned v ∧ Q19 Z a323 b87 h0 n0 v U'.heap L ∧ FrameEnd U o U' L ({ frames := 1, cells := 0, slots := 0, locals := 12 } : Room).cells ({ frames := 1, cells := 0, slots := 0, locals := 12 } : Room).slots) := by
  refine MetFree.of_bodySF (plainFor_of_name pn_3) hisR ?_
  intro p e s m args below meth c s₁ Bd hml0 hP hK
  obtain ⟨rfl, hZ, hh⟩ := hP
  have hx := Bd.exec
  have hby := Bd.bytes
  have hml : c.maxLocals = 1 := hml0
  have hown : s.vm.findClass zs1 = some m.cls := findClass_of_methodNamed Bd.named
  have hnm := (name_of_methodNamed Bd.named Bd.method).1
  have X0 : Stand p l e ({ frames := 1, cells := 0, slots := 0, locals := 12 } : Room) s m #[(.ref a323)] below meth c s₁ [] 0 0 := Stand.of_body Bd
  have e0 : s₁.heap = h0 := by rw [← hh, Bd.state]; rfl
  have N0 := Fr.nil n0
  refine own_out ?_
  refine own_via (fun t k => castTop (ef_10 m a323) (XS.aloadN X0.here hx rfl (hb hby d6_0) rfl rfl k)) ?_
  obtain ⟨_, T331, _, X331, hQ331, st331⟩ := own_cv X0 hx hZ hown (wd hw 32 rfl) (wd hw 33 rfl) (wd hw 35 rfl) (wd hw 34 rfl) (wd hw 36 rfl) (wd hw 2 rfl) (by decide) (rm18 l Z a0 hw [] a323 b87 h0 n0 O0 pF_a323_value) e0 pE_a323 (g := (mkF m 1 #[rv a323] [(.ref a323)])) rfl (by rw [hml]; rfl) (rest := []) (W := 0) (lenOf pd_6 rfl) rfl (by show 2 * 0 + _ ≤ _; exact Nat.le_of_eq rfl) (hb hby d6_1) (by decide) (by decide) (by decide) (by decide)
  obtain ⟨rfl, Nq331, hh341⟩ := hQ331
  have N331 := Fr.app N0 Nq331
  refine own_via (fun t k => st331 t (XS.ifNo X331.here hx rfl (hb hby d6_4) rfl ((if0 _ _).trans (teq (by decide : (0 : Int32) = (0 : Int32))).2) (XS.iconst X331.here hx rfl (hb hby d6_7) (XS.goto X331.here hx rfl (pc0 := 8) (pc' := 12) rfl (hb hby d6_8) (by decide) (by decide) k)))) ?_
  show own_Goes p e below (T331.setTop (mkF m 12 #[rv a323] [(.int (1 : Int32))])) _
  obtain ⟨fs, hr, hrun, hended, hW, hsame⟩ := X331.leave (v := some (.int (1 : Int32))) (fun h => by rw [Bd.returns] at h; cases h)
  refine own_end (t := T331.setFrames fs) ?_ ⟨_, hrun, hended, _, _, rfl, ?_, ⟨_, rfl⟩, hW, hsame.mono (by decide) (by decide)⟩
  · exact retN X331 hx (t := .boolean) Bd.returns (by simp) (hb hby d6_12) hr
  · show Q19 Z a323 b87 h0 n0 _ T331.heap _
    rw [hh341]
    exact ⟨rfl, N331, rfl⟩
def Q20 (Z : State) (a344 : Addr) (w17 : Addr) (b87 : Addr) (h0 : Heap) (n0 : Nat) (v : Option Value) (h : Heap) (L : List Loc) : Prop := v = some (.ref b87) ∧ Fr n0 L ∧ h = h0
set_option maxRecDepth 65536 in
set_option maxHeartbeats 40000000 in
theorem rm20 (l : Launch) (Z : State) (a0 : Array Value) (hw : ∀ d ∈ tables_1, d.before a0 Z = true) (ws : List Jvm.Cond) (a344 : Addr) (w17 : Addr) (b87 : Addr) (h0 : Heap) (n0 : Nat) (O0 : Old Z n0 h0) (S_Tertium_ABSENT : Sta Z Z.heap zs1 "ABSENT" zs4 (.ref w17)) (SE_w17 : Exa Z Z.heap w17 zs1) (pG_a344 : n0 ≤ a344) (pE_a344 : Exa Z h0 a344 zs1) (pF_a344_value : Fld Z h0 a344 zs1 "value" zs3 (.ref b87)) :
    MetFree l (⟨zs1, "get", zs8⟩ : MethodName) (head1 (Jvm.Cond.code (⟨zs1, "get", zs8⟩ : MethodName) prog_1_method_14_code 1 (some (.object zs6)) :: ws) ({ frames := 1, cells := 0, slots := 0, locals := 12 } : Room)) (fun a U => a = #[(.ref a344)] ∧ Z.Warmed39 U.vm ∧ U.heap = h0) (fun _ _ _ _ _ => True) (fun _ U o U' => ∃ v L, o = .returned v ∧ Q20 Z a344 w17 b87 h0 n0 v U'.heap L ∧ FrameEnd U o U' L ({ frames := 1, cells := 0, slots := 0, locals := 12 } : Room).cells ({ frames := 1, cells := 0, slots := 0, locals := 12 } : Room).slots) := by
  refine MetFree.of_bodySF (plainFor_of_name pn_3) hisR ?_
  intro p e s m args below meth c s₁ Bd hml0 hP hK
  obtain ⟨rfl, hZ, hh⟩ := hP
  have hx := Bd.exec
  have hby := Bd.bytes
  have hml : c.maxLocals = 1 := hml0
  have hown : s.vm.findClass zs1 = some m.cls := findClass_of_methodNamed Bd.named
  have hnm := (name_of_methodNamed Bd.named Bd.method).1
  have X0 : Stand p l e ({ frames := 1, cells := 0, slots := 0, locals := 12 } : Room) s m #[(.ref a344)] below meth c s₁ [] 0 0 := Stand.of_body Bd
  have e0 : s₁.heap = h0 := by rw [← hh, Bd.state]; rfl
  have N0 := Fr.nil n0
  refine own_out ?_
  refine own_via (fun t k => castTop (ef_11 m a344) (XS.aloadN X0.here hx rfl (hb hby d8_0) rfl rfl k)) ?_
  obtain ⟨_, T352, _, X352, hQ352, st352⟩ := own_cv X0 hx hZ hown (wd hw 14 rfl) (wd hw 15 rfl) (wd hw 17 rfl) (wd hw 16 rfl) (wd hw 18 rfl) (wd hw 2 rfl) (by decide) (rm6 l Z a0 hw [] a344 w17 h0 n0 O0 S_Tertium_ABSENT SE_w17 pG_a344) e0 pE_a344 (g := (mkF m 1 #[rv a344] [(.ref a344)])) rfl (by rw [hml]; rfl) (rest := []) (W := 0) (lenOf pd_6 rfl) rfl (by show 2 * 0 + _ ≤ _; exact Nat.le_of_eq rfl) (hb hby d8_1) (by decide) (by decide) (by decide) (by decide)
  obtain ⟨rfl, Nq352, hh353⟩ := hQ352
  have N352 := Fr.app N0 Nq352
  refine own_via (fun t k => st352 t (XS.ifYes X352.here hx rfl (pc0 := 4) (pc' := 17) rfl (hb hby d8_4) rfl ((if0 _ _).trans (teq (by decide : (0 : Int32) = (0 : Int32))).1) (by decide) (by decide) (XS.aloadN X352.here hx rfl (hb hby d8_17) rfl rfl k))) ?_
  show own_Goes p e below (T352.setTop (mkF m 18 #[rv a344] [(.ref a344)])) _
  obtain ⟨T354, X354, e354, st354⟩ := getF X352 hx hZ hown (host := "") (Or.inl (wd hw 37 rfl)) Via.refl hh353 pF_a344_value (g := (mkF m 18 #[rv a344] [(.ref a344)])) rfl rfl (hb hby d8_18)
  refine own_via (fun t k => st354 t k) ?_
  obtain ⟨fs, hr, hrun, hended, hW, hsame⟩ := X354.leave (v := some (.ref b87)) (fun h => by rw [Bd.returns] at h; cases h)
  refine own_end (t := T354.setFrames fs) ?_ ⟨_, hrun, hended, _, _, rfl, ?_, ⟨_, rfl⟩, hW, hsame.mono (by decide) (by decide)⟩
  · jvm_step X354.here [X354.here.top, hx, (hb hby d8_21), X354.method', Bd.returns, Value.isRef, FieldType.isReference]
    first | (intro acts; rw [hr _ acts rfl rfl rfl]) | rw [hr _ _ rfl rfl rfl]
    exact Steps.refl _
  · show Q20 Z a344 w17 b87 h0 n0 _ T354.heap _
    rw [e354]
    exact ⟨rfl, N352, rfl⟩
def Q21 (Z : State) (b87 : Addr) (i0 : Int32) (h0 : Heap) (n0 : Nat) (v : Option Value) (h : Heap) (L : List Loc) : Prop := v = some (.int i0) ∧ Fr n0 L ∧ h = h0
set_option maxRecDepth 65536 in
set_option maxHeartbeats 40000000 in
theorem rm21 (l : Launch) (Z : State) (a0 : Array Value) (hw : ∀ d ∈ tables_1, d.before a0 Z = true) (ws : List Jvm.Cond) (b87 : Addr) (i0 : Int32) (h0 : Heap) (n0 : Nat) (O0 : Old Z n0 h0) (pSF_b87 : Fld Z Z.heap b87 zs2 "value" "I" (.int i0)) :
    MetFree l (⟨zs2, "intValue", "()I"⟩ : MethodName) (head1 (Jvm.Cond.code (⟨zs2, "intValue", "()I"⟩ : MethodName) jdk_33_method_27_code 1 (some .int) :: ws) ({ frames := 0, cells := 0, slots := 0, locals := 0 } : Room)) (fun a U => a = #[(.ref b87)] ∧ Z.Warmed39 U.vm ∧ U.heap = h0) (fun _ _ _ _ _ => True) (fun _ U o U' => ∃ v L, o = .returned v ∧ Q21 Z b87 i0 h0 n0 v U'.heap L ∧ FrameEnd U o U' L ({ frames := 0, cells := 0, slots := 0, locals := 0 } : Room).cells ({ frames := 0, cells := 0, slots := 0, locals := 0 } : Room).slots) := by
  refine MetFree.of_bodySF (plainFor_of_name pn_2) hisR ?_
  intro p e s m args below meth c s₁ Bd hml0 hP hK
  obtain ⟨rfl, hZ, hh⟩ := hP
  have hx := Bd.exec
  have hby := Bd.bytes
  have hml : c.maxLocals = 1 := hml0
  have hown : s.vm.findClass zs2 = some m.cls := findClass_of_methodNamed Bd.named
  have hnm := (name_of_methodNamed Bd.named Bd.method).1
  have X0 : Stand p l e ({ frames := 0, cells := 0, slots := 0, locals := 0 } : Room) s m #[(.ref b87)] below meth c s₁ [] 0 0 := Stand.of_body Bd
  have e0 : s₁.heap = h0 := by rw [← hh, Bd.state]; rfl
  have N0 := Fr.nil n0
  refine own_out ?_
  refine own_via (fun t k => castTop (ef_12 m b87) (XS.aloadN X0.here hx rfl (hb hby d16_0) rfl rfl k)) ?_
  obtain ⟨T366, X366, e366, st366⟩ := getF X0 hx hZ hown (host := "") (Or.inl (wd hw 77 rfl)) Via.refl e0 (pSF_b87.ext O0.2) (g := (mkF m 1 #[rv b87] [(.ref b87)])) rfl rfl (hb hby d16_1)
  refine own_via (fun t k => st366 t k) ?_
  obtain ⟨fs, hr, hrun, hended, hW, hsame⟩ := X366.leave (v := some (.int i0)) (fun h => by rw [Bd.returns] at h; cases h)
  refine own_end (t := T366.setFrames fs) ?_ ⟨_, hrun, hended, _, _, rfl, ?_, ⟨_, rfl⟩, hW, hsame.mono (by decide) (by decide)⟩
  · exact retI X366 hx Bd.returns (hb hby d16_4) hr
  · show Q21 Z b87 i0 h0 n0 _ T366.heap _
    rw [e366]
    exact ⟨rfl, N0, rfl⟩
def Q22 (Z : State) (b87 : Addr) (i0 : Int32) (h0 : Heap) (n0 : Nat) (v : Option Value) (h : Heap) (L : List Loc) : Prop := v = some (.int i0) ∧ Fr n0 L ∧ h = h0
set_option maxRecDepth 65536 in
set_option maxHeartbeats 40000000 in
theorem rm22 (l : Launch) (Z : State) (a0 : Array Value) (hw : ∀ d ∈ tables_1, d.before a0 Z = true) (ws : List Jvm.Cond) (b87 : Addr) (i0 : Int32) (h0 : Heap) (n0 : Nat) (O0 : Old Z n0 h0) (pSF_b87 : Fld Z Z.heap b87 zs2 "value" "I" (.int i0)) :
    MetFree l (⟨zs2, "hashCode", "()I"⟩ : MethodName) (head1 (Jvm.Cond.code (⟨zs2, "hashCode", "()I"⟩ : MethodName) jdk_33_method_32_code 1 (some .int) :: ws) ({ frames := 1, cells := 0, slots := 0, locals := 12 } : Room)) (fun a U => a = #[(.ref b87)] ∧ Z.Warmed39 U.vm ∧ U.heap = h0) (fun _ _ _ _ _ => True) (fun _ U o U' => ∃ v L, o = .returned v ∧ Q22 Z b87 i0 h0 n0 v U'.heap L ∧ FrameEnd U o U' L ({ frames := 1, cells := 0, slots := 0, locals := 12 } : Room).cells ({ frames := 1, cells := 0, slots := 0, locals := 12 } : Room).slots) := by
  refine MetFree.of_bodySF (plainFor_of_name pn_2) hisR ?_
  intro p e s m args below meth c s₁ Bd hml0 hP hK
  obtain ⟨rfl, hZ, hh⟩ := hP
  have hx := Bd.exec
  have hby := Bd.bytes
  have hml : c.maxLocals = 1 := hml0
  have hown : s.vm.findClass zs2 = some m.cls := findClass_of_methodNamed Bd.named
  have hnm := (name_of_methodNamed Bd.named Bd.method).1
  have X0 : Stand p l e ({ frames := 1, cells := 0, slots := 0, locals := 12 } : Room) s m #[(.ref b87)] below meth c s₁ [] 0 0 := Stand.of_body Bd
  have e0 : s₁.heap = h0 := by rw [← hh, Bd.state]; rfl
  have N0 := Fr.nil n0
  refine own_out ?_
  refine own_via (fun t k => castTop (ef_14 m b87) (XS.aloadN X0.here hx rfl (hb hby d18_0) rfl rfl k)) ?_
  obtain ⟨T391, X391, e391, st391⟩ := getF X0 hx hZ hown (host := "") (Or.inl (wd hw 77 rfl)) Via.refl e0 (pSF_b87.ext O0.2) (g := (mkF m 1 #[rv b87] [(.ref b87)])) rfl rfl (hb hby d18_1)
  refine own_via (fun t k => st391 t k) ?_
  obtain ⟨_, T392, _, X392, hQ392, st392⟩ := own_cs X391 hx hZ hown (wd hw 102 rfl) (wd hw 103 rfl) (wd hw 104 rfl) (wd hw 60 rfl) (by decide) (rm13 l Z a0 hw [] i0 h0 n0 O0 ) e391 (g := (mkF m 4 #[rv b87] [(.int i0)])) rfl (by rw [hml]; rfl) (rest := []) (W := 0) (lenOf pd_9 rfl) rfl (by show 2 * 0 + _ ≤ _; exact Nat.le_of_eq rfl) (hb hby d18_4) (by decide) (by decide) (by decide) (by decide)
  obtain ⟨rfl, Nq392, hh393⟩ := hQ392
  have N392 := Fr.app N0 Nq392
  refine own_via (fun t k => st392 t k) ?_
  obtain ⟨fs, hr, hrun, hended, hW, hsame⟩ := X392.leave (v := some (.int i0)) (fun h => by rw [Bd.returns] at h; cases h)
  refine own_end (t := T392.setFrames fs) ?_ ⟨_, hrun, hended, _, _, rfl, ?_, ⟨_, rfl⟩, hW, hsame.mono (by decide) (by decide)⟩
  · exact retI X392 hx Bd.returns (hb hby d18_7) hr
  · show Q22 Z b87 i0 h0 n0 _ T392.heap _
    rw [hh393]
    exact ⟨rfl, N392, rfl⟩
def Q23 (Z : State) (a369 : Addr) (w17 : Addr) (w15 : Addr) (b87 : Addr) (i0 : Int32) (h0 : Heap) (n0 : Nat) (v : Option Value) (h : Heap) (L : List Loc) : Prop := v = some (.int i0) ∧ Fr n0 L ∧ h = h0
set_option maxRecDepth 65536 in
set_option maxHeartbeats 40000000 in
theorem rm23 (l : Launch) (Z : State) (a0 : Array Value) (hw : ∀ d ∈ tables_1, d.before a0 Z = true) (ws : List Jvm.Cond) (a369 : Addr) (w17 : Addr) (w15 : Addr) (b87 : Addr) (i0 : Int32) (h0 : Heap) (n0 : Nat) (O0 : Old Z n0 h0) (S_Tertium_ABSENT : Sta Z Z.heap zs1 "ABSENT" zs4 (.ref w17)) (SE_w17 : Exa Z Z.heap w17 zs1) (pG_a369 : n0 ≤ a369) (pE_a369 : Exa Z h0 a369 zs1) (S_Tertium_NULL : Sta Z Z.heap zs1 "NULL" zs4 (.ref w15)) (SE_w15 : Exa Z Z.heap w15 zs1) (pF_a369_value : Fld Z h0 a369 zs1 "value" zs3 (.ref b87)) (pSF_b87 : Fld Z Z.heap b87 zs2 "value" "I" (.int i0)) (pSE_b87 : Exa Z Z.heap b87 zs2) :
    MetFree l (⟨zs1, "hashCode", "()I"⟩ : MethodName) (head1 (Jvm.Cond.code (⟨zs1, "hashCode", "()I"⟩ : MethodName) prog_1_method_35_code 1 (some .int) :: ws) ({ frames := 2, cells := 0, slots := 0, locals := 24 } : Room)) (fun a U => a = #[(.ref a369)] ∧ Z.Warmed39 U.vm ∧ U.heap = h0) (fun _ _ _ _ _ => True) (fun _ U o U' => ∃ v L, o = .returned v ∧ Q23 Z a369 w17 w15 b87 i0 h0 n0 v U'.heap L ∧ FrameEnd U o U' L ({ frames := 2, cells := 0, slots := 0, locals := 24 } : Room).cells ({ frames := 2, cells := 0, slots := 0, locals := 24 } : Room).slots) := by
  refine MetFree.of_bodySF (plainFor_of_name pn_3) hisR ?_
  intro p e s m args below meth c s₁ Bd hml0 hP hK
  obtain ⟨rfl, hZ, hh⟩ := hP
  have hx := Bd.exec
  have hby := Bd.bytes
  have hml : c.maxLocals = 1 := hml0
  have hown : s.vm.findClass zs1 = some m.cls := findClass_of_methodNamed Bd.named
  have hnm := (name_of_methodNamed Bd.named Bd.method).1
  have X0 : Stand p l e ({ frames := 2, cells := 0, slots := 0, locals := 24 } : Room) s m #[(.ref a369)] below meth c s₁ [] 0 0 := Stand.of_body Bd
  have e0 : s₁.heap = h0 := by rw [← hh, Bd.state]; rfl
  have N0 := Fr.nil n0
  refine own_out ?_
  refine own_via (fun t k => castTop (ef_15 m a369) (XS.aloadN X0.here hx rfl (hb hby d17_0) rfl rfl k)) ?_
  obtain ⟨_, T377, _, X377, hQ377, st377⟩ := own_cv X0 hx hZ hown (wd hw 14 rfl) (wd hw 15 rfl) (wd hw 17 rfl) (wd hw 16 rfl) (wd hw 18 rfl) (wd hw 2 rfl) (by decide) (rm6 l Z a0 hw [] a369 w17 h0 n0 O0 S_Tertium_ABSENT SE_w17 pG_a369) e0 pE_a369 (g := (mkF m 1 #[rv a369] [(.ref a369)])) rfl (by rw [hml]; rfl) (rest := []) (W := 0) (lenOf pd_6 rfl) rfl (by show 2 * 0 + _ ≤ _; exact Nat.le_of_eq rfl) (hb hby d17_1) (by decide) (by decide) (by decide) (by decide)
  obtain ⟨rfl, Nq377, hh378⟩ := hQ377
  have N377 := Fr.app N0 Nq377
  refine own_via (fun t k => st377 t (XS.ifYes X377.here hx rfl (pc0 := 4) (pc' := 10) rfl (hb hby d17_4) rfl ((if0 _ _).trans (teq (by decide : (0 : Int32) = (0 : Int32))).1) (by decide) (by decide) (XS.aloadN X377.here hx rfl (hb hby d17_10) rfl rfl k))) ?_
  show own_Goes p e below (T377.setTop (mkF m 11 #[rv a369] [(.ref a369)])) _
  obtain ⟨_, T379, _, X379, hQ379, st379⟩ := own_cv X377 hx hZ hown (wd hw 95 rfl) (wd hw 23 rfl) (wd hw 25 rfl) (wd hw 24 rfl) (wd hw 26 rfl) (wd hw 2 rfl) (by decide) (rm8 l Z a0 hw [] a369 w15 h0 n0 O0 S_Tertium_NULL SE_w15 pG_a369) hh378 pE_a369 (g := (mkF m 11 #[rv a369] [(.ref a369)])) rfl (by rw [hml]; rfl) (rest := []) (W := 0) (lenOf pd_6 rfl) rfl (by show 2 * 0 + _ ≤ _; exact Nat.le_of_eq rfl) (hb hby d17_11) (by decide) (by decide) (by decide) (by decide)
  obtain ⟨rfl, Nq379, hh380⟩ := hQ379
  have N379 := Fr.app N377 Nq379
  refine own_via (fun t k => st379 t (XS.ifYes X379.here hx rfl (pc0 := 14) (pc' := 20) rfl (hb hby d17_14) rfl ((if0 _ _).trans (teq (by decide : (0 : Int32) = (0 : Int32))).1) (by decide) (by decide) (XS.aloadN X379.here hx rfl (hb hby d17_20) rfl rfl k))) ?_
  show own_Goes p e below (T379.setTop (mkF m 21 #[rv a369] [(.ref a369)])) _
  obtain ⟨T381, X381, e381, st381⟩ := getF X379 hx hZ hown (host := "") (Or.inl (wd hw 37 rfl)) Via.refl hh380 pF_a369_value (g := (mkF m 21 #[rv a369] [(.ref a369)])) rfl rfl (hb hby d17_21)
  refine own_via (fun t k => st381 t k) ?_
  obtain ⟨cq382, kq382, q382a, q382b, q382c⟩ := isOf hZ e381 (pSE_b87.ext O0.2)
  obtain ⟨_, _, ⟨T382, L382, c382, n382⟩, -, X382, ⟨Lc382, hQ382, l382, y382, z382⟩, st382⟩ := X381.virtualBack hx (y := (⟨zs6, "hashCode", "()I"⟩ : MethodName)) (z := (⟨zs2, "hashCode", "()I"⟩ : MethodName)) hown (mvT hZ (wd hw 96 rfl)) (mvT hZ (wd hw 97 rfl)) (own_nfLam hZ.alike (wd hw 52 rfl) rfl rfl) (mvT hZ (wd hw 99 rfl)) (mvT hZ (wd hw 100 rfl)) (by decide) (backOf (W := 0) (rm22 l Z a0 hw [] b87 i0 h0 n0 O0 pSF_b87) hZ (wd hw 101 rfl) (wd hw 60 rfl) (by decide) (by decide)) q382a q382c (g := (mkF m 24 #[rv a369] [(.ref b87)])) rfl (by rw [hml]; rfl) (Steps.refl _) (argsL := []) (rest := []) (lenOf pd_8 rfl) rfl (by show 2 * 0 + _ ≤ _; exact Nat.le_of_eq rfl) (hb hby d17_24) (fun _ _ => ⟨rfl, e381, (by decide : 0 + 0 ≤ _), (by decide : 0 + 0 ≤ _)⟩)
  dsimp only [Pt.U, Pt.locs, Pt.cells, Pt.slots] at X382 l382 y382 z382 st382 hQ382
  subst l382 y382 z382
  obtain ⟨rfl, Nq382, hh394⟩ := hQ382
  have N382 := Fr.app N379 Nq382
  refine own_via (fun t k => st382.trans k) ?_
  obtain ⟨fs, hr, hrun, hended, hW, hsame⟩ := X382.leave (v := some (.int i0)) (fun h => by rw [Bd.returns] at h; cases h)
  refine own_end (t := T382.setFrames fs) ?_ ⟨_, hrun, hended, _, _, rfl, ?_, ⟨_, rfl⟩, hW, hsame.mono (by decide) (by decide)⟩
  · exact retI X382 hx Bd.returns (hb hby d17_27) hr
  · show Q23 Z a369 w17 w15 b87 i0 h0 n0 _ T382.heap _
    rw [hh394]
    exact ⟨rfl, N382, rfl⟩
theorem d1_4 : decode prog_1_method_4_code 4 = .ok (.invokestatic 20, 3) := by decide +kernel
theorem d2_0 : decode prog_1_method_3_code 0 = .ok (.getstatic 17, 3) := by decide +kernel
theorem d2_3 : decode prog_1_method_3_code 3 = .ok (.areturn, 1) := by decide +kernel
theorem ef_16 (m : MethodId)  : entryFrame m #[] 0 = mkF m 0 #[] [] := by first | (simp [entryFrame, mkF, argsToLocals, Value.category]; done) | rfl
def Q24 (Z : State) (w15 : Addr) (h0 : Heap) (n0 : Nat) (v : Option Value) (h : Heap) (L : List Loc) : Prop := v = some (.ref w15) ∧ Fr n0 L ∧ h = h0
set_option maxRecDepth 65536 in
set_option maxHeartbeats 40000000 in
theorem rm24 (l : Launch) (Z : State) (a0 : Array Value) (hw : ∀ d ∈ tables_1, d.before a0 Z = true) (ws : List Jvm.Cond) (w15 : Addr) (h0 : Heap) (n0 : Nat) (O0 : Old Z n0 h0) (S_Tertium_NULL : Sta Z Z.heap zs1 "NULL" zs4 (.ref w15)) :
    MetFree l (⟨zs1, "ofNull", "()Ltertium/Tertium;"⟩ : MethodName) (head1 (Jvm.Cond.code (⟨zs1, "ofNull", "()Ltertium/Tertium;"⟩ : MethodName) prog_1_method_3_code 0 (some (.object zs1)) :: ws) ({ frames := 0, cells := 0, slots := 0, locals := 0 } : Room)) (fun a U => a = #[] ∧ Z.Warmed39 U.vm ∧ U.heap = h0) (fun _ _ _ _ _ => True) (fun _ U o U' => ∃ v L, o = .returned v ∧ Q24 Z w15 h0 n0 v U'.heap L ∧ FrameEnd U o U' L ({ frames := 0, cells := 0, slots := 0, locals := 0 } : Room).cells ({ frames := 0, cells := 0, slots := 0, locals := 0 } : Room).slots) := by
  refine MetFree.of_bodySF (plainFor_of_name pn_3) hisR ?_
  intro p e s m args below meth c s₁ Bd hml0 hP hK
  obtain ⟨rfl, hZ, hh⟩ := hP
  have hx := Bd.exec
  have hby := Bd.bytes
  have hml : c.maxLocals = 0 := hml0
  have hown : s.vm.findClass zs1 = some m.cls := findClass_of_methodNamed Bd.named
  have hnm := (name_of_methodNamed Bd.named Bd.method).1
  have X0 : Stand p l e ({ frames := 0, cells := 0, slots := 0, locals := 0 } : Room) s m #[] below meth c s₁ [] 0 0 := Stand.of_body Bd
  have e0 : s₁.heap = h0 := by rw [← hh, Bd.state]; rfl
  have N0 := Fr.nil n0
  refine own_out ?_
  refine own_via (fun t k => castTop (ef_16 m ) k) ?_
  obtain ⟨T406, X406, e406, st406⟩ := getS2 X0 hx hZ hown (host := "") (Or.inl (wd hw 7 rfl)) Via.refl e0 (S_Tertium_NULL.ext O0.2) (g := (mkF m 0 #[] [])) rfl (hb hby d2_0)
  refine own_via (fun t k => st406 t k) ?_
  obtain ⟨fs, hr, hrun, hended, hW, hsame⟩ := X406.leave (v := some (.ref w15)) (fun h => by rw [Bd.returns] at h; cases h)
  refine own_end (t := T406.setFrames fs) ?_ ⟨_, hrun, hended, _, _, rfl, ?_, ⟨_, rfl⟩, hW, hsame.mono (by decide) (by decide)⟩
  · jvm_step X406.here [X406.here.top, hx, (hb hby d2_3), X406.method', Bd.returns, Value.isRef, FieldType.isReference]
    first | (intro acts; rw [hr _ acts rfl rfl rfl]) | rw [hr _ _ rfl rfl rfl]
    exact Steps.refl _
  · show Q24 Z w15 h0 n0 _ T406.heap _
    rw [e406]
    exact ⟨rfl, N0, rfl⟩
theorem pd_10 : parseMethodDescriptor "()Ltertium/Tertium;" = some ⟨[], some (.object "tertium/Tertium")⟩ := by decide +kernel
theorem d1_7 : decode prog_1_method_4_code 7 = .ok (.areturn, 1) := by decide +kernel
theorem ef_17 (m : MethodId)  : entryFrame m #[.null] 1 = mkF m 0 #[.val .null] [] := by first | (simp [entryFrame, mkF, argsToLocals, Value.category]; done) | rfl
def Q25 (Z : State) (w15 : Addr) (h0 : Heap) (n0 : Nat) (v : Option Value) (h : Heap) (L : List Loc) : Prop := v = some (.ref w15) ∧ Fr n0 L ∧ h = h0
set_option maxRecDepth 65536 in
set_option maxHeartbeats 40000000 in
theorem rm25 (l : Launch) (Z : State) (a0 : Array Value) (hw : ∀ d ∈ tables_1, d.before a0 Z = true) (ws : List Jvm.Cond) (w15 : Addr) (h0 : Heap) (n0 : Nat) (O0 : Old Z n0 h0) (S_Tertium_NULL : Sta Z Z.heap zs1 "NULL" zs4 (.ref w15)) :
    MetFree l (⟨zs1, "of", zs5⟩ : MethodName) (head1 (Jvm.Cond.code (⟨zs1, "of", zs5⟩ : MethodName) prog_1_method_4_code 1 (some (.object zs1)) :: ws) ({ frames := 1, cells := 0, slots := 0, locals := 11 } : Room)) (fun a U => a = #[.null] ∧ Z.Warmed39 U.vm ∧ U.heap = h0) (fun _ _ _ _ _ => True) (fun _ U o U' => ∃ v L, o = .returned v ∧ Q25 Z w15 h0 n0 v U'.heap L ∧ FrameEnd U o U' L ({ frames := 1, cells := 0, slots := 0, locals := 11 } : Room).cells ({ frames := 1, cells := 0, slots := 0, locals := 11 } : Room).slots) := by
  refine MetFree.of_bodySF (plainFor_of_name pn_3) hisR ?_
  intro p e s m args below meth c s₁ Bd hml0 hP hK
  obtain ⟨rfl, hZ, hh⟩ := hP
  have hx := Bd.exec
  have hby := Bd.bytes
  have hml : c.maxLocals = 1 := hml0
  have hown : s.vm.findClass zs1 = some m.cls := findClass_of_methodNamed Bd.named
  have hnm := (name_of_methodNamed Bd.named Bd.method).1
  have X0 : Stand p l e ({ frames := 1, cells := 0, slots := 0, locals := 11 } : Room) s m #[.null] below meth c s₁ [] 0 0 := Stand.of_body Bd
  have e0 : s₁.heap = h0 := by rw [← hh, Bd.state]; rfl
  have N0 := Fr.nil n0
  refine own_out ?_
  refine own_via (fun t k => castTop (ef_17 m ) (XS.aloadN X0.here hx rfl (hb hby d1_0) rfl rfl (XS.ifnonnullNo X0.here hx rfl (hb hby d1_1) rfl k))) ?_
  show own_Goes p e below (s₁.setTop (mkF m 4 #[.val .null] [])) _
  obtain ⟨_, T401, _, X401, hQ401, st401⟩ := own_cs X0 hx hZ hown (wd hw 4 rfl) (wd hw 5 rfl) (wd hw 6 rfl) (wd hw 2 rfl) (by decide) (rm24 l Z a0 hw [] w15 h0 n0 O0 S_Tertium_NULL) e0 (g := (mkF m 4 #[.val .null] [])) rfl (by rw [hml]; rfl) (rest := []) (W := 0) (lenOf pd_10 rfl) rfl (by show 2 * 0 + _ ≤ _; exact Nat.le_of_eq rfl) (hb hby d1_4) (by decide) (by decide) (by decide) (by decide)
  obtain ⟨rfl, Nq401, hh407⟩ := hQ401
  have N401 := Fr.app N0 Nq401
  refine own_via (fun t k => st401 t k) ?_
  obtain ⟨fs, hr, hrun, hended, hW, hsame⟩ := X401.leave (v := some (.ref w15)) (fun h => by rw [Bd.returns] at h; cases h)
  refine own_end (t := T401.setFrames fs) ?_ ⟨_, hrun, hended, _, _, rfl, ?_, ⟨_, rfl⟩, hW, hsame.mono (by decide) (by decide)⟩
  · jvm_step X401.here [X401.here.top, hx, (hb hby d1_7), X401.method', Bd.returns, Value.isRef, FieldType.isReference]
    first | (intro acts; rw [hr _ acts rfl rfl rfl]) | rw [hr _ _ rfl rfl rfl]
    exact Steps.refl _
  · show Q25 Z w15 h0 n0 _ T401.heap _
    rw [hh407]
    exact ⟨rfl, N401, rfl⟩
def Q26 (Z : State) (w15 : Addr) (w17 : Addr) (h0 : Heap) (n0 : Nat) (v : Option Value) (h : Heap) (L : List Loc) : Prop := v = some (.int (0 : Int32)) ∧ Fr n0 L ∧ h = h0
set_option maxRecDepth 65536 in
set_option maxHeartbeats 40000000 in
theorem rm26 (l : Launch) (Z : State) (a0 : Array Value) (hw : ∀ d ∈ tables_1, d.before a0 Z = true) (ws : List Jvm.Cond) (w15 : Addr) (w17 : Addr) (h0 : Heap) (n0 : Nat) (O0 : Old Z n0 h0) (S_Tertium_ABSENT : Sta Z Z.heap zs1 "ABSENT" zs4 (.ref w17)) (pN_w17_w15 : w17 ≠ w15) :
    MetFree l (⟨zs1, "isAbsent", "()Z"⟩ : MethodName) (head1 (Jvm.Cond.code (⟨zs1, "isAbsent", "()Z"⟩ : MethodName) prog_1_method_9_code 1 (some .boolean) :: ws) ({ frames := 0, cells := 0, slots := 0, locals := 0 } : Room)) (fun a U => a = #[(.ref w15)] ∧ Z.Warmed39 U.vm ∧ U.heap = h0) (fun _ _ _ _ _ => True) (fun _ U o U' => ∃ v L, o = .returned v ∧ Q26 Z w15 w17 h0 n0 v U'.heap L ∧ FrameEnd U o U' L ({ frames := 0, cells := 0, slots := 0, locals := 0 } : Room).cells ({ frames := 0, cells := 0, slots := 0, locals := 0 } : Room).slots) := by
  refine MetFree.of_bodySF (plainFor_of_name pn_3) hisR ?_
  intro p e s m args below meth c s₁ Bd hml0 hP hK
  obtain ⟨rfl, hZ, hh⟩ := hP
  have hx := Bd.exec
  have hby := Bd.bytes
  have hml : c.maxLocals = 1 := hml0
  have hown : s.vm.findClass zs1 = some m.cls := findClass_of_methodNamed Bd.named
  have hnm := (name_of_methodNamed Bd.named Bd.method).1
  have X0 : Stand p l e ({ frames := 0, cells := 0, slots := 0, locals := 0 } : Room) s m #[(.ref w15)] below meth c s₁ [] 0 0 := Stand.of_body Bd
  have e0 : s₁.heap = h0 := by rw [← hh, Bd.state]; rfl
  have N0 := Fr.nil n0
  refine own_out ?_
  refine own_via (fun t k => castTop (ef_6 m w15) (XS.aloadN X0.here hx rfl (hb hby d4_0) rfl rfl k)) ?_
  obtain ⟨T419, X419, e419, st419⟩ := getS2 X0 hx hZ hown (host := "") (Or.inl (wd hw 19 rfl)) Via.refl e0 (S_Tertium_ABSENT.ext O0.2) (g := (mkF m 1 #[rv w15] [(.ref w15)])) rfl (hb hby d4_1)
  refine own_via (fun t k => st419 t (Jvm.RoadKit.acmp (g := (mkF m 4 #[rv w15] [(.ref w17), (.ref w15)])) X419 hx rfl rfl rfl (pc0 := 4) (pc' := 11) (same := false) rfl (hb hby d4_4) rfl (decide_eq_false fun q => (Ne.symm pN_w17_w15) (Value.ref.inj q)) (by decide) (by decide) (XS.iconst X419.here hx rfl (hb hby d4_11) k))) ?_
  show own_Goes p e below (T419.setTop (mkF m 12 #[rv w15] [(.int (0 : Int32))])) _
  obtain ⟨fs, hr, hrun, hended, hW, hsame⟩ := X419.leave (v := some (.int (0 : Int32))) (fun h => by rw [Bd.returns] at h; cases h)
  refine own_end (t := T419.setFrames fs) ?_ ⟨_, hrun, hended, _, _, rfl, ?_, ⟨_, rfl⟩, hW, hsame.mono (by decide) (by decide)⟩
  · exact retN X419 hx (t := .boolean) Bd.returns (by simp) (hb hby d4_12) hr
  · show Q26 Z w15 w17 h0 n0 _ T419.heap _
    rw [e419]
    exact ⟨rfl, N0, rfl⟩
def Q27 (Z : State) (w15 : Addr) (w17 : Addr) (h0 : Heap) (n0 : Nat) (v : Option Value) (h : Heap) (L : List Loc) : Prop := v = some (.int (1 : Int32)) ∧ Fr n0 L ∧ h = h0
set_option maxRecDepth 65536 in
set_option maxHeartbeats 40000000 in
theorem rm27 (l : Launch) (Z : State) (a0 : Array Value) (hw : ∀ d ∈ tables_1, d.before a0 Z = true) (ws : List Jvm.Cond) (w15 : Addr) (w17 : Addr) (h0 : Heap) (n0 : Nat) (O0 : Old Z n0 h0) (S_Tertium_ABSENT : Sta Z Z.heap zs1 "ABSENT" zs4 (.ref w17)) (pN_w17_w15 : w17 ≠ w15) (SE_w15 : Exa Z Z.heap w15 zs1) :
    MetFree l (⟨zs1, "isPresent", "()Z"⟩ : MethodName) (head1 (Jvm.Cond.code (⟨zs1, "isPresent", "()Z"⟩ : MethodName) prog_1_method_8_code 1 (some .boolean) :: ws) ({ frames := 1, cells := 0, slots := 0, locals := 12 } : Room)) (fun a U => a = #[(.ref w15)] ∧ Z.Warmed39 U.vm ∧ U.heap = h0) (fun _ _ _ _ _ => True) (fun _ U o U' => ∃ v L, o = .returned v ∧ Q27 Z w15 w17 h0 n0 v U'.heap L ∧ FrameEnd U o U' L ({ frames := 1, cells := 0, slots := 0, locals := 12 } : Room).cells ({ frames := 1, cells := 0, slots := 0, locals := 12 } : Room).slots) := by
  refine MetFree.of_bodySF (plainFor_of_name pn_3) hisR ?_
  intro p e s m args below meth c s₁ Bd hml0 hP hK
  obtain ⟨rfl, hZ, hh⟩ := hP
  have hx := Bd.exec
  have hby := Bd.bytes
  have hml : c.maxLocals = 1 := hml0
  have hown : s.vm.findClass zs1 = some m.cls := findClass_of_methodNamed Bd.named
  have hnm := (name_of_methodNamed Bd.named Bd.method).1
  have X0 : Stand p l e ({ frames := 1, cells := 0, slots := 0, locals := 12 } : Room) s m #[(.ref w15)] below meth c s₁ [] 0 0 := Stand.of_body Bd
  have e0 : s₁.heap = h0 := by rw [← hh, Bd.state]; rfl
  have N0 := Fr.nil n0
  refine own_out ?_
  refine own_via (fun t k => castTop (ef_7 m w15) (XS.aloadN X0.here hx rfl (hb hby d3_0) rfl rfl k)) ?_
  obtain ⟨_, T414, _, X414, hQ414, st414⟩ := own_cv X0 hx hZ hown (wd hw 14 rfl) (wd hw 15 rfl) (wd hw 17 rfl) (wd hw 16 rfl) (wd hw 18 rfl) (wd hw 2 rfl) (by decide) (rm26 l Z a0 hw [] w15 w17 h0 n0 O0 S_Tertium_ABSENT pN_w17_w15) e0 (SE_w15.ext O0.2) (g := (mkF m 1 #[rv w15] [(.ref w15)])) rfl (by rw [hml]; rfl) (rest := []) (W := 0) (lenOf pd_6 rfl) rfl (by show 2 * 0 + _ ≤ _; exact Nat.le_of_eq rfl) (hb hby d3_1) (by decide) (by decide) (by decide) (by decide)
  obtain ⟨rfl, Nq414, hh420⟩ := hQ414
  have N414 := Fr.app N0 Nq414
  refine own_via (fun t k => st414 t (XS.ifNo X414.here hx rfl (hb hby d3_4) rfl ((if0 _ _).trans (teq (by decide : (0 : Int32) = (0 : Int32))).2) (XS.iconst X414.here hx rfl (hb hby d3_7) (XS.goto X414.here hx rfl (pc0 := 8) (pc' := 12) rfl (hb hby d3_8) (by decide) (by decide) k)))) ?_
  show own_Goes p e below (T414.setTop (mkF m 12 #[rv w15] [(.int (1 : Int32))])) _
  obtain ⟨fs, hr, hrun, hended, hW, hsame⟩ := X414.leave (v := some (.int (1 : Int32))) (fun h => by rw [Bd.returns] at h; cases h)
  refine own_end (t := T414.setFrames fs) ?_ ⟨_, hrun, hended, _, _, rfl, ?_, ⟨_, rfl⟩, hW, hsame.mono (by decide) (by decide)⟩
  · exact retN X414 hx (t := .boolean) Bd.returns (by simp) (hb hby d3_12) hr
  · show Q27 Z w15 w17 h0 n0 _ T414.heap _
    rw [hh420]
    exact ⟨rfl, N414, rfl⟩
theorem d5_7 : decode prog_1_method_11_code 7 = .ok (.iconst 1, 1) := by decide +kernel
theorem d5_8 : decode prog_1_method_11_code 8 = .ok (.goto 4, 3) := by decide +kernel
def Q28 (Z : State) (w15 : Addr) (h0 : Heap) (n0 : Nat) (v : Option Value) (h : Heap) (L : List Loc) : Prop := v = some (.int (1 : Int32)) ∧ Fr n0 L ∧ h = h0
set_option maxRecDepth 65536 in
set_option maxHeartbeats 40000000 in
theorem rm28 (l : Launch) (Z : State) (a0 : Array Value) (hw : ∀ d ∈ tables_1, d.before a0 Z = true) (ws : List Jvm.Cond) (w15 : Addr) (h0 : Heap) (n0 : Nat) (O0 : Old Z n0 h0) (S_Tertium_NULL : Sta Z Z.heap zs1 "NULL" zs4 (.ref w15)) :
    MetFree l (⟨zs1, "isNull", "()Z"⟩ : MethodName) (head1 (Jvm.Cond.code (⟨zs1, "isNull", "()Z"⟩ : MethodName) prog_1_method_11_code 1 (some .boolean) :: ws) ({ frames := 0, cells := 0, slots := 0, locals := 0 } : Room)) (fun a U => a = #[(.ref w15)] ∧ Z.Warmed39 U.vm ∧ U.heap = h0) (fun _ _ _ _ _ => True) (fun _ U o U' => ∃ v L, o = .returned v ∧ Q28 Z w15 h0 n0 v U'.heap L ∧ FrameEnd U o U' L ({ frames := 0, cells := 0, slots := 0, locals := 0 } : Room).cells ({ frames := 0, cells := 0, slots := 0, locals := 0 } : Room).slots) := by
  refine MetFree.of_bodySF (plainFor_of_name pn_3) hisR ?_
  intro p e s m args below meth c s₁ Bd hml0 hP hK
  obtain ⟨rfl, hZ, hh⟩ := hP
  have hx := Bd.exec
  have hby := Bd.bytes
  have hml : c.maxLocals = 1 := hml0
  have hown : s.vm.findClass zs1 = some m.cls := findClass_of_methodNamed Bd.named
  have hnm := (name_of_methodNamed Bd.named Bd.method).1
  have X0 : Stand p l e ({ frames := 0, cells := 0, slots := 0, locals := 0 } : Room) s m #[(.ref w15)] below meth c s₁ [] 0 0 := Stand.of_body Bd
  have e0 : s₁.heap = h0 := by rw [← hh, Bd.state]; rfl
  have N0 := Fr.nil n0
  refine own_out ?_
  refine own_via (fun t k => castTop (ef_8 m w15) (XS.aloadN X0.here hx rfl (hb hby d5_0) rfl rfl k)) ?_
  obtain ⟨T429, X429, e429, st429⟩ := getS2 X0 hx hZ hown (host := "") (Or.inl (wd hw 7 rfl)) Via.refl e0 (S_Tertium_NULL.ext O0.2) (g := (mkF m 1 #[rv w15] [(.ref w15)])) rfl (hb hby d5_1)
  refine own_via (fun t k => st429 t (Jvm.RoadKit.acmp (g := (mkF m 4 #[rv w15] [(.ref w15), (.ref w15)])) X429 hx rfl rfl rfl (pc0 := 4) (pc' := 7) (same := true) rfl (hb hby d5_4) rfl (decide_eq_true rfl) (by decide) (by decide) (XS.iconst X429.here hx rfl (hb hby d5_7) (XS.goto X429.here hx rfl (pc0 := 8) (pc' := 12) rfl (hb hby d5_8) (by decide) (by decide) k)))) ?_
  show own_Goes p e below (T429.setTop (mkF m 12 #[rv w15] [(.int (1 : Int32))])) _
  obtain ⟨fs, hr, hrun, hended, hW, hsame⟩ := X429.leave (v := some (.int (1 : Int32))) (fun h => by rw [Bd.returns] at h; cases h)
  refine own_end (t := T429.setFrames fs) ?_ ⟨_, hrun, hended, _, _, rfl, ?_, ⟨_, rfl⟩, hW, hsame.mono (by decide) (by decide)⟩
  · exact retN X429 hx (t := .boolean) Bd.returns (by simp) (hb hby d5_12) hr
  · show Q28 Z w15 h0 n0 _ T429.heap _
    rw [e429]
    exact ⟨rfl, N0, rfl⟩
theorem d7_7 : decode prog_1_method_13_code 7 = .ok (.iconst 1, 1) := by decide +kernel
theorem d7_8 : decode prog_1_method_13_code 8 = .ok (.goto 4, 3) := by decide +kernel
def Q29 (Z : State) (w15 : Addr) (h0 : Heap) (n0 : Nat) (v : Option Value) (h : Heap) (L : List Loc) : Prop := v = some (.int (1 : Int32)) ∧ Fr n0 L ∧ h = h0
set_option maxRecDepth 65536 in
set_option maxHeartbeats 40000000 in
theorem rm29 (l : Launch) (Z : State) (a0 : Array Value) (hw : ∀ d ∈ tables_1, d.before a0 Z = true) (ws : List Jvm.Cond) (w15 : Addr) (h0 : Heap) (n0 : Nat) (O0 : Old Z n0 h0) (SF_w15_value : Fld Z Z.heap w15 zs1 "value" zs3 .null) :
    MetFree l (⟨zs1, zs10, "()Z"⟩ : MethodName) (head1 (Jvm.Cond.code (⟨zs1, zs10, "()Z"⟩ : MethodName) prog_1_method_13_code 1 (some .boolean) :: ws) ({ frames := 0, cells := 0, slots := 0, locals := 0 } : Room)) (fun a U => a = #[(.ref w15)] ∧ Z.Warmed39 U.vm ∧ U.heap = h0) (fun _ _ _ _ _ => True) (fun _ U o U' => ∃ v L, o = .returned v ∧ Q29 Z w15 h0 n0 v U'.heap L ∧ FrameEnd U o U' L ({ frames := 0, cells := 0, slots := 0, locals := 0 } : Room).cells ({ frames := 0, cells := 0, slots := 0, locals := 0 } : Room).slots) := by
  refine MetFree.of_bodySF (plainFor_of_name pn_3) hisR ?_
  intro p e s m args below meth c s₁ Bd hml0 hP hK
  obtain ⟨rfl, hZ, hh⟩ := hP
  have hx := Bd.exec
  have hby := Bd.bytes
  have hml : c.maxLocals = 1 := hml0
  have hown : s.vm.findClass zs1 = some m.cls := findClass_of_methodNamed Bd.named
  have hnm := (name_of_methodNamed Bd.named Bd.method).1
  have X0 : Stand p l e ({ frames := 0, cells := 0, slots := 0, locals := 0 } : Room) s m #[(.ref w15)] below meth c s₁ [] 0 0 := Stand.of_body Bd
  have e0 : s₁.heap = h0 := by rw [← hh, Bd.state]; rfl
  have N0 := Fr.nil n0
  refine own_out ?_
  refine own_via (fun t k => castTop (ef_9 m w15) (XS.aloadN X0.here hx rfl (hb hby d7_0) rfl rfl k)) ?_
  obtain ⟨T441, X441, e441, st441⟩ := getF X0 hx hZ hown (host := "") (Or.inl (wd hw 37 rfl)) Via.refl e0 (SF_w15_value.ext O0.2) (g := (mkF m 1 #[rv w15] [(.ref w15)])) rfl rfl (hb hby d7_1)
  refine own_via (fun t k => st441 t (XS.ifnonnullNo X441.here hx rfl (hb hby d7_4) rfl (XS.iconst X441.here hx rfl (hb hby d7_7) (XS.goto X441.here hx rfl (pc0 := 8) (pc' := 12) rfl (hb hby d7_8) (by decide) (by decide) k)))) ?_
  show own_Goes p e below (T441.setTop (mkF m 12 #[rv w15] [(.int (1 : Int32))])) _
  obtain ⟨fs, hr, hrun, hended, hW, hsame⟩ := X441.leave (v := some (.int (1 : Int32))) (fun h => by rw [Bd.returns] at h; cases h)
  refine own_end (t := T441.setFrames fs) ?_ ⟨_, hrun, hended, _, _, rfl, ?_, ⟨_, rfl⟩, hW, hsame.mono (by decide) (by decide)⟩
  · exact retN X441 hx (t := .boolean) Bd.returns (by simp) (hb hby d7_12) hr
  · show Q29 Z w15 h0 n0 _ T441.heap _
    rw [e441]
    exact ⟨rfl, N0, rfl⟩
theorem d6_11 : decode prog_1_method_12_code 11 = .ok (.iconst 0, 1) := by decide +kernel
def Q30 (Z : State) (w15 : Addr) (h0 : Heap) (n0 : Nat) (v : Option Value) (h : Heap) (L : List Loc) : Prop := v = some (.int (0 : Int32)) ∧ Fr n0 L ∧ h = h0
set_option maxRecDepth 65536 in
set_option maxHeartbeats 40000000 in
theorem rm30 (l : Launch) (Z : State) (a0 : Array Value) (hw : ∀ d ∈ tables_1, d.before a0 Z = true) (ws : List Jvm.Cond) (w15 : Addr) (h0 : Heap) (n0 : Nat) (O0 : Old Z n0 h0) (SF_w15_value : Fld Z Z.heap w15 zs1 "value" zs3 .null) (SE_w15 : Exa Z Z.heap w15 zs1) :
    MetFree l (⟨zs1, "isNotNull", "()Z"⟩ : MethodName) (head1 (Jvm.Cond.code (⟨zs1, "isNotNull", "()Z"⟩ : MethodName) prog_1_method_12_code 1 (some .boolean) :: ws) ({ frames := 1, cells := 0, slots := 0, locals := 12 } : Room)) (fun a U => a = #[(.ref w15)] ∧ Z.Warmed39 U.vm ∧ U.heap = h0) (fun _ _ _ _ _ => True) (fun _ U o U' => ∃ v L, o = .returned v ∧ Q30 Z w15 h0 n0 v U'.heap L ∧ FrameEnd U o U' L ({ frames := 1, cells := 0, slots := 0, locals := 12 } : Room).cells ({ frames := 1, cells := 0, slots := 0, locals := 12 } : Room).slots) := by
  refine MetFree.of_bodySF (plainFor_of_name pn_3) hisR ?_
  intro p e s m args below meth c s₁ Bd hml0 hP hK
  obtain ⟨rfl, hZ, hh⟩ := hP
  have hx := Bd.exec
  have hby := Bd.bytes
  have hml : c.maxLocals = 1 := hml0
  have hown : s.vm.findClass zs1 = some m.cls := findClass_of_methodNamed Bd.named
  have hnm := (name_of_methodNamed Bd.named Bd.method).1
  have X0 : Stand p l e ({ frames := 1, cells := 0, slots := 0, locals := 12 } : Room) s m #[(.ref w15)] below meth c s₁ [] 0 0 := Stand.of_body Bd
  have e0 : s₁.heap = h0 := by rw [← hh, Bd.state]; rfl
  have N0 := Fr.nil n0
  refine own_out ?_
  refine own_via (fun t k => castTop (ef_10 m w15) (XS.aloadN X0.here hx rfl (hb hby d6_0) rfl rfl k)) ?_
  obtain ⟨_, T436, _, X436, hQ436, st436⟩ := own_cv X0 hx hZ hown (wd hw 32 rfl) (wd hw 33 rfl) (wd hw 35 rfl) (wd hw 34 rfl) (wd hw 36 rfl) (wd hw 2 rfl) (by decide) (rm29 l Z a0 hw [] w15 h0 n0 O0 SF_w15_value) e0 (SE_w15.ext O0.2) (g := (mkF m 1 #[rv w15] [(.ref w15)])) rfl (by rw [hml]; rfl) (rest := []) (W := 0) (lenOf pd_6 rfl) rfl (by show 2 * 0 + _ ≤ _; exact Nat.le_of_eq rfl) (hb hby d6_1) (by decide) (by decide) (by decide) (by decide)
  obtain ⟨rfl, Nq436, hh442⟩ := hQ436
  have N436 := Fr.app N0 Nq436
  refine own_via (fun t k => st436 t (XS.ifYes X436.here hx rfl (pc0 := 4) (pc' := 11) rfl (hb hby d6_4) rfl ((if0 _ _).trans (feq (by decide : ¬ ((1 : Int32) = (0 : Int32)))).2) (by decide) (by decide) (XS.iconst X436.here hx rfl (hb hby d6_11) k))) ?_
  show own_Goes p e below (T436.setTop (mkF m 12 #[rv w15] [(.int (0 : Int32))])) _
  obtain ⟨fs, hr, hrun, hended, hW, hsame⟩ := X436.leave (v := some (.int (0 : Int32))) (fun h => by rw [Bd.returns] at h; cases h)
  refine own_end (t := T436.setFrames fs) ?_ ⟨_, hrun, hended, _, _, rfl, ?_, ⟨_, rfl⟩, hW, hsame.mono (by decide) (by decide)⟩
  · exact retN X436 hx (t := .boolean) Bd.returns (by simp) (hb hby d6_12) hr
  · show Q30 Z w15 h0 n0 _ T436.heap _
    rw [hh442]
    exact ⟨rfl, N436, rfl⟩
def Q31 (Z : State) (w15 : Addr) (w17 : Addr) (h0 : Heap) (n0 : Nat) (v : Option Value) (h : Heap) (L : List Loc) : Prop := v = some .null ∧ Fr n0 L ∧ h = h0
set_option maxRecDepth 65536 in
set_option maxHeartbeats 40000000 in
theorem rm31 (l : Launch) (Z : State) (a0 : Array Value) (hw : ∀ d ∈ tables_1, d.before a0 Z = true) (ws : List Jvm.Cond) (w15 : Addr) (w17 : Addr) (h0 : Heap) (n0 : Nat) (O0 : Old Z n0 h0) (S_Tertium_ABSENT : Sta Z Z.heap zs1 "ABSENT" zs4 (.ref w17)) (pN_w17_w15 : w17 ≠ w15) (SE_w15 : Exa Z Z.heap w15 zs1) (SF_w15_value : Fld Z Z.heap w15 zs1 "value" zs3 .null) :
    MetFree l (⟨zs1, "get", zs8⟩ : MethodName) (head1 (Jvm.Cond.code (⟨zs1, "get", zs8⟩ : MethodName) prog_1_method_14_code 1 (some (.object zs6)) :: ws) ({ frames := 1, cells := 0, slots := 0, locals := 12 } : Room)) (fun a U => a = #[(.ref w15)] ∧ Z.Warmed39 U.vm ∧ U.heap = h0) (fun _ _ _ _ _ => True) (fun _ U o U' => ∃ v L, o = .returned v ∧ Q31 Z w15 w17 h0 n0 v U'.heap L ∧ FrameEnd U o U' L ({ frames := 1, cells := 0, slots := 0, locals := 12 } : Room).cells ({ frames := 1, cells := 0, slots := 0, locals := 12 } : Room).slots) := by
  refine MetFree.of_bodySF (plainFor_of_name pn_3) hisR ?_
  intro p e s m args below meth c s₁ Bd hml0 hP hK
  obtain ⟨rfl, hZ, hh⟩ := hP
  have hx := Bd.exec
  have hby := Bd.bytes
  have hml : c.maxLocals = 1 := hml0
  have hown : s.vm.findClass zs1 = some m.cls := findClass_of_methodNamed Bd.named
  have hnm := (name_of_methodNamed Bd.named Bd.method).1
  have X0 : Stand p l e ({ frames := 1, cells := 0, slots := 0, locals := 12 } : Room) s m #[(.ref w15)] below meth c s₁ [] 0 0 := Stand.of_body Bd
  have e0 : s₁.heap = h0 := by rw [← hh, Bd.state]; rfl
  have N0 := Fr.nil n0
  refine own_out ?_
  refine own_via (fun t k => castTop (ef_11 m w15) (XS.aloadN X0.here hx rfl (hb hby d8_0) rfl rfl k)) ?_
  obtain ⟨_, T449, _, X449, hQ449, st449⟩ := own_cv X0 hx hZ hown (wd hw 14 rfl) (wd hw 15 rfl) (wd hw 17 rfl) (wd hw 16 rfl) (wd hw 18 rfl) (wd hw 2 rfl) (by decide) (rm26 l Z a0 hw [] w15 w17 h0 n0 O0 S_Tertium_ABSENT pN_w17_w15) e0 (SE_w15.ext O0.2) (g := (mkF m 1 #[rv w15] [(.ref w15)])) rfl (by rw [hml]; rfl) (rest := []) (W := 0) (lenOf pd_6 rfl) rfl (by show 2 * 0 + _ ≤ _; exact Nat.le_of_eq rfl) (hb hby d8_1) (by decide) (by decide) (by decide) (by decide)
  obtain ⟨rfl, Nq449, hh450⟩ := hQ449
  have N449 := Fr.app N0 Nq449
  refine own_via (fun t k => st449 t (XS.ifYes X449.here hx rfl (pc0 := 4) (pc' := 17) rfl (hb hby d8_4) rfl ((if0 _ _).trans (teq (by decide : (0 : Int32) = (0 : Int32))).1) (by decide) (by decide) (XS.aloadN X449.here hx rfl (hb hby d8_17) rfl rfl k))) ?_
  show own_Goes p e below (T449.setTop (mkF m 18 #[rv w15] [(.ref w15)])) _
  obtain ⟨T451, X451, e451, st451⟩ := getF X449 hx hZ hown (host := "") (Or.inl (wd hw 37 rfl)) Via.refl hh450 (SF_w15_value.ext O0.2) (g := (mkF m 18 #[rv w15] [(.ref w15)])) rfl rfl (hb hby d8_18)
  refine own_via (fun t k => st451 t k) ?_
  obtain ⟨fs, hr, hrun, hended, hW, hsame⟩ := X451.leave (v := some .null) (fun h => by rw [Bd.returns] at h; cases h)
  refine own_end (t := T451.setFrames fs) ?_ ⟨_, hrun, hended, _, _, rfl, ?_, ⟨_, rfl⟩, hW, hsame.mono (by decide) (by decide)⟩
  · jvm_step X451.here [X451.here.top, hx, (hb hby d8_21), X451.method', Bd.returns, Value.isRef, FieldType.isReference]
    first | (intro acts; rw [hr _ acts rfl rfl rfl]) | rw [hr _ _ rfl rfl rfl]
    exact Steps.refl _
  · show Q31 Z w15 w17 h0 n0 _ T451.heap _
    rw [e451]
    exact ⟨rfl, N449, rfl⟩
theorem d9_0 : decode prog_1_method_34_code 0 = .ok (.aload_n 1, 1) := by decide +kernel
theorem d9_1 : decode prog_1_method_34_code 1 = .ok (.instanceof 8, 3) := by decide +kernel
theorem d9_4 : decode prog_1_method_34_code 4 = .ok (.ifCond .eq 25, 3) := by decide +kernel
theorem d9_7 : decode prog_1_method_34_code 7 = .ok (.aload_n 1, 1) := by decide +kernel
theorem d9_8 : decode prog_1_method_34_code 8 = .ok (.checkcast 8, 3) := by decide +kernel
theorem d9_11 : decode prog_1_method_34_code 11 = .ok (.astore_n 2, 1) := by decide +kernel
theorem d9_12 : decode prog_1_method_34_code 12 = .ok (.aload_n 0, 1) := by decide +kernel
theorem d9_13 : decode prog_1_method_34_code 13 = .ok (.aload_n 2, 1) := by decide +kernel
theorem d9_14 : decode prog_1_method_34_code 14 = .ok (.invokedynamic 191, 5) := by decide +kernel
theorem own_named {Z s : State} {y : MethodName} {m : MethodId} (hal : Z.vm.Alike s.vm) (h : Z.methodNamed? y = some m) : s.methodNamed? y = some m := by
  simp only [State.methodNamed?, Option.bind_eq_bind, Option.bind_eq_some_iff, Option.pure_def, Option.some.injEq] at h
  obtain ⟨c, hc, k1, hk1, i, hi, rfl⟩ := h
  obtain ⟨k', hk', ek⟩ := hal.2.2 _ _ hk1
  have hi' : k'.findMethod y.name y.desc = some i := by rw [ek]; exact hi
  simp [State.methodNamed?, hal.findClass, hc, hk', hi']
theorem own_lam {p : Program} {l : Launch} {e : Env} {R : Room} {s : State} {m : MethodId} {args : Array Value} {below : List Frame} {meth : Method} {c : Code} {T : State} {locs : List Loc} {cells slots : Nat} {Z : State} {a0 : Array Value} {y : MethodName} {pc index : Nat} {σ : Lambda.Shape} {g : JFrame} (X : Stand p l e R s m args below meth c T locs cells slots) (hx : p.tables.exec = Jvm.exec) (hZ : Z.Warmed39 s.vm) (hm : s.methodNamed? y = some m) (w : (Jvm.Cond.lambdaSite y pc index σ).before a0 Z = true) (hs : σ.captured = []) (hg : g.method = m) (hsize : g.locals.size = c.maxLocals) (hpc : g.pc = pc) (hd : decode c.code g.pc = .ok (.invokedynamic index, 5)) (hwords : 2 * g.monitorRoom + (g.stack.map fun v => v.category).sum + e.platform.lambdaLinkWords ≤ R.locals) : ∃ a : Addr, ∀ t, Steps p.tables e below (T.setTop { g with pc := g.pc + 5, stack := .ref a :: g.stack }) t → Steps p.tables e below (T.setTop g) t := by
  obtain ⟨cK, one, hat⟩ := Cond.lambdaSite_spec w
  obtain ⟨m', kS, cfS, i0, p0, lk, hm', hkS, hcfS, -, -, hfind, hmade, hcan, hlk⟩ := State.lambdaAt?_spec hat
  have hmm : m' = m := by
    have q := own_named hZ.alike hm'
    exact Option.some.inj (q.symm.trans hm)
  subst hmm
  obtain ⟨k', hk', he⟩ := hZ.alike.2.2 _ _ hkS
  obtain ⟨f, rfl⟩ : ∃ f, lk = .constant f := by
    rcases hlk with ⟨a, cell, h1, -⟩ | ⟨-, -, h3⟩
    · exact ⟨a, h1⟩
    · exact absurd hs h3
  subst hpc
  refine ⟨f, fun t k => X.lambdaConstant hx hg hsize hd hk' (by rw [he]; exact hfind) hwords k⟩
theorem d9_19 : decode prog_1_method_34_code 19 = .ok (.invokestatic 187, 3) := by decide +kernel
theorem d10_0 : decode prog_1_method_37_code 0 = .ok (.aload_n 0, 1) := by decide +kernel
theorem d10_1 : decode prog_1_method_37_code 1 = .ok (.invokevirtual 73, 3) := by decide +kernel
theorem d10_4 : decode prog_1_method_37_code 4 = .ok (.ifCond .ne 10, 3) := by decide +kernel
theorem d10_14 : decode prog_1_method_37_code 14 = .ok (.aload_n 0, 1) := by decide +kernel
theorem d10_15 : decode prog_1_method_37_code 15 = .ok (.aload_n 1, 1) := by decide +kernel
theorem d10_16 : decode prog_1_method_37_code 16 = .ok (.if_acmp .ne 7, 3) := by decide +kernel
theorem d10_19 : decode prog_1_method_37_code 19 = .ok (.iconst 1, 1) := by decide +kernel
theorem d10_20 : decode prog_1_method_37_code 20 = .ok (.goto 4, 3) := by decide +kernel
theorem d10_24 : decode prog_1_method_37_code 24 = .ok (.ireturn, 1) := by decide +kernel
theorem ef_18 (m : MethodId) (x0 : Addr) (x1 : Addr) (x2 : Addr) : entryFrame m #[(.ref x0), (.ref x1), (.ref x2)] 3 = mkF m 0 #[rv x0, rv x1, rv x2] [] := by first | (simp [entryFrame, mkF, argsToLocals, Value.category]; done) | rfl
def Q32 (Z : State) (w15 : Addr) (a465 : Addr) (h0 : Heap) (n0 : Nat) (v : Option Value) (h : Heap) (L : List Loc) : Prop := v = some (.int (1 : Int32)) ∧ Fr n0 L ∧ h = h0
set_option maxRecDepth 65536 in
set_option maxHeartbeats 40000000 in
theorem rm32 (l : Launch) (Z : State) (a0 : Array Value) (hw : ∀ d ∈ tables_1, d.before a0 Z = true) (ws : List Jvm.Cond) (w15 : Addr) (a465 : Addr) (h0 : Heap) (n0 : Nat) (O0 : Old Z n0 h0) (SF_w15_value : Fld Z Z.heap w15 zs1 "value" zs3 .null) (SE_w15 : Exa Z Z.heap w15 zs1) :
    MetFree l (⟨zs1, "sameStateAndValue", "(Ltertium/Tertium;Ltertium/Tertium;Ljava/util/function/BiPredicate;)Z"⟩ : MethodName) (head1 (Jvm.Cond.code (⟨zs1, "sameStateAndValue", "(Ltertium/Tertium;Ltertium/Tertium;Ljava/util/function/BiPredicate;)Z"⟩ : MethodName) prog_1_method_37_code 3 (some .boolean) :: ws) ({ frames := 1, cells := 0, slots := 0, locals := 12 } : Room)) (fun a U => a = #[(.ref w15), (.ref w15), (.ref a465)] ∧ Z.Warmed39 U.vm ∧ U.heap = h0) (fun _ _ _ _ _ => True) (fun _ U o U' => ∃ v L, o = .returned v ∧ Q32 Z w15 a465 h0 n0 v U'.heap L ∧ FrameEnd U o U' L ({ frames := 1, cells := 0, slots := 0, locals := 12 } : Room).cells ({ frames := 1, cells := 0, slots := 0, locals := 12 } : Room).slots) := by
  refine MetFree.of_bodySF (plainFor_of_name pn_3) hisR ?_
  intro p e s m args below meth c s₁ Bd hml0 hP hK
  obtain ⟨rfl, hZ, hh⟩ := hP
  have hx := Bd.exec
  have hby := Bd.bytes
  have hml : c.maxLocals = 3 := hml0
  have hown : s.vm.findClass zs1 = some m.cls := findClass_of_methodNamed Bd.named
  have hnm := (name_of_methodNamed Bd.named Bd.method).1
  have X0 : Stand p l e ({ frames := 1, cells := 0, slots := 0, locals := 12 } : Room) s m #[(.ref w15), (.ref w15), (.ref a465)] below meth c s₁ [] 0 0 := Stand.of_body Bd
  have e0 : s₁.heap = h0 := by rw [← hh, Bd.state]; rfl
  have N0 := Fr.nil n0
  refine own_out ?_
  refine own_via (fun t k => castTop (ef_18 m w15 w15 a465) (XS.aloadN X0.here hx rfl (hb hby d10_0) rfl rfl k)) ?_
  obtain ⟨_, T470, _, X470, hQ470, st470⟩ := own_cv X0 hx hZ hown (wd hw 32 rfl) (wd hw 33 rfl) (wd hw 35 rfl) (wd hw 34 rfl) (wd hw 36 rfl) (wd hw 2 rfl) (by decide) (rm29 l Z a0 hw [] w15 h0 n0 O0 SF_w15_value) e0 (SE_w15.ext O0.2) (g := (mkF m 1 #[rv w15, rv w15, rv a465] [(.ref w15)])) rfl (by rw [hml]; rfl) (rest := []) (W := 0) (lenOf pd_6 rfl) rfl (by show 2 * 0 + _ ≤ _; exact Nat.le_of_eq rfl) (hb hby d10_1) (by decide) (by decide) (by decide) (by decide)
  obtain ⟨rfl, Nq470, hh471⟩ := hQ470
  have N470 := Fr.app N0 Nq470
  refine own_via (fun t k => st470 t (XS.ifYes X470.here hx rfl (pc0 := 4) (pc' := 14) rfl (hb hby d10_4) rfl ((if0 _ _).trans (feq (by decide : ¬ ((1 : Int32) = (0 : Int32)))).2) (by decide) (by decide) (XS.aloadN X470.here hx rfl (hb hby d10_14) rfl rfl (XS.aloadN X470.here hx rfl (hb hby d10_15) rfl rfl (Jvm.RoadKit.acmp (g := (mkF m 16 #[rv w15, rv w15, rv a465] [(.ref w15), (.ref w15)])) X470 hx rfl rfl rfl (pc0 := 16) (pc' := 19) (same := true) rfl (hb hby d10_16) rfl (decide_eq_true rfl) (by decide) (by decide) (XS.iconst X470.here hx rfl (hb hby d10_19) (XS.goto X470.here hx rfl (pc0 := 20) (pc' := 24) rfl (hb hby d10_20) (by decide) (by decide) k))))))) ?_
  show own_Goes p e below (T470.setTop (mkF m 24 #[rv w15, rv w15, rv a465] [(.int (1 : Int32))])) _
  obtain ⟨fs, hr, hrun, hended, hW, hsame⟩ := X470.leave (v := some (.int (1 : Int32))) (fun h => by rw [Bd.returns] at h; cases h)
  refine own_end (t := T470.setFrames fs) ?_ ⟨_, hrun, hended, _, _, rfl, ?_, ⟨_, rfl⟩, hW, hsame.mono (by decide) (by decide)⟩
  · exact retN X470 hx (t := .boolean) Bd.returns (by simp) (hb hby d10_24) hr
  · show Q32 Z w15 a465 h0 n0 _ T470.heap _
    rw [hh471]
    exact ⟨rfl, N470, rfl⟩
theorem pd_11 : parseMethodDescriptor "(Ltertium/Tertium;Ltertium/Tertium;Ljava/util/function/BiPredicate;)Z" = some ⟨[(.object "tertium/Tertium"), (.object "tertium/Tertium"), (.object "java/util/function/BiPredicate")], some .boolean⟩ := by decide +kernel
theorem d9_22 : decode prog_1_method_34_code 22 = .ok (.ifCond .eq 7, 3) := by decide +kernel
theorem d9_25 : decode prog_1_method_34_code 25 = .ok (.iconst 1, 1) := by decide +kernel
theorem d9_26 : decode prog_1_method_34_code 26 = .ok (.goto 4, 3) := by decide +kernel
theorem d9_30 : decode prog_1_method_34_code 30 = .ok (.ireturn, 1) := by decide +kernel
theorem ef_19 (m : MethodId) (x0 : Addr) (x1 : Addr) : entryFrame m #[(.ref x0), (.ref x1)] 3 = mkF m 0 #[rv x0, rv x1, .unset] [] := by first | (simp [entryFrame, mkF, argsToLocals, Value.category]; done) | rfl
def Q33 (Z : State) (w15 : Addr) (h0 : Heap) (n0 : Nat) (v : Option Value) (h : Heap) (L : List Loc) : Prop := v = some (.int (1 : Int32)) ∧ Fr n0 L ∧ h = h0
set_option maxRecDepth 65536 in
set_option maxHeartbeats 40000000 in
theorem rm33 (l : Launch) (Z : State) (a0 : Array Value) (hw : ∀ d ∈ tables_1, d.before a0 Z = true) (ws : List Jvm.Cond) (w15 : Addr) (h0 : Heap) (n0 : Nat) (O0 : Old Z n0 h0) (SE_w15 : Exa Z Z.heap w15 zs1) (SF_w15_value : Fld Z Z.heap w15 zs1 "value" zs3 .null) :
    MetFree l (⟨zs1, "equals", "(Ljava/lang/Object;)Z"⟩ : MethodName) (head1 (Jvm.Cond.code (⟨zs1, "equals", "(Ljava/lang/Object;)Z"⟩ : MethodName) prog_1_method_34_code 3 (some .boolean) :: ws) ({ frames := 2, cells := 0, slots := 0, locals := 3074 } : Room)) (fun a U => a = #[(.ref w15), (.ref w15)] ∧ Z.Warmed39 U.vm ∧ U.heap = h0) (fun _ _ _ _ _ => True) (fun _ U o U' => ∃ v L, o = .returned v ∧ Q33 Z w15 h0 n0 v U'.heap L ∧ FrameEnd U o U' L ({ frames := 2, cells := 0, slots := 0, locals := 3074 } : Room).cells ({ frames := 2, cells := 0, slots := 0, locals := 3074 } : Room).slots) := by
  refine MetFree.of_bodySF (plainFor_of_name pn_3) hisR ?_
  intro p e s m args below meth c s₁ Bd hml0 hP hK
  obtain ⟨rfl, hZ, hh⟩ := hP
  have hx := Bd.exec
  have hby := Bd.bytes
  have hml : c.maxLocals = 3 := hml0
  have hown : s.vm.findClass zs1 = some m.cls := findClass_of_methodNamed Bd.named
  have hnm := (name_of_methodNamed Bd.named Bd.method).1
  have X0 : Stand p l e ({ frames := 2, cells := 0, slots := 0, locals := 3074 } : Room) s m #[(.ref w15), (.ref w15)] below meth c s₁ [] 0 0 := Stand.of_body Bd
  have e0 : s₁.heap = h0 := by rw [← hh, Bd.state]; rfl
  have N0 := Fr.nil n0
  refine own_out ?_
  refine own_via (fun t k => castTop (ef_19 m w15 w15) (XS.aloadN X0.here hx rfl (hb hby d9_0) rfl rfl k)) ?_
  obtain ⟨T460, X460, e460, st460⟩ := instY X0 hx hZ hown (wd hw 50 rfl) e0 (Ins.self (SE_w15.ext O0.2)) (g := (mkF m 1 #[rv w15, rv w15, .unset] [(.ref w15)])) rfl rfl (hb hby d9_1)
  refine own_via (fun t k => st460 t (XS.ifNo X460.here hx rfl (hb hby d9_4) rfl ((if0 _ _).trans (feq (by decide : ¬ ((1 : Int32) = (0 : Int32)))).1) (XS.aloadN X460.here hx rfl (hb hby d9_7) rfl rfl k))) ?_
  show own_Goes p e below (T460.setTop (mkF m 8 #[rv w15, rv w15, .unset] [(.ref w15)])) _
  obtain ⟨T461, X461, e461, st461⟩ := castY X460 hx hZ hown (wd hw 50 rfl) e460 (Ins.self (SE_w15.ext O0.2)) (g := (mkF m 8 #[rv w15, rv w15, .unset] [(.ref w15)])) rfl rfl (hb hby d9_8)
  refine own_via (fun t k => st461 t (XS.astoreN X461.here hx rfl (hb hby d9_11) rfl rfl (l' := #[rv w15, rv w15, rv w15]) rfl (XS.aloadN X461.here hx rfl (hb hby d9_12) rfl rfl (XS.aloadN X461.here hx rfl (hb hby d9_13) rfl rfl k)))) ?_
  show own_Goes p e below (T461.setTop (mkF m 14 #[rv w15, rv w15, rv w15] [(.ref w15), (.ref w15)])) _
  obtain ⟨b463, st462⟩ := own_lam X461 hx hZ Bd.named (wd hw 52 rfl) rfl (g := (mkF m 14 #[rv w15, rv w15, rv w15] [(.ref w15), (.ref w15)])) rfl (by rw [hml]; rfl) rfl (hb hby d9_14) (by rw [Bd.admits.platform]; show 2 * 0 + 2 + 3072 ≤ _; decide)
  refine own_via (fun t k => st462 t k) ?_
  obtain ⟨_, T464, _, X464, hQ464, st464⟩ := own_cs X461 hx hZ hown (wd hw 55 rfl) (wd hw 56 rfl) (wd hw 57 rfl) (wd hw 2 rfl) (by decide) (rm32 l Z a0 hw [] w15 b463 h0 n0 O0 SF_w15_value SE_w15) e461 (g := (mkF m 19 #[rv w15, rv w15, rv w15] [(.ref b463), (.ref w15), (.ref w15)])) rfl (by rw [hml]; rfl) (rest := []) (W := 0) (lenOf pd_11 rfl) rfl (by show 2 * 0 + _ ≤ _; exact Nat.le_of_eq rfl) (hb hby d9_19) (by decide) (by decide) (by decide) (by decide)
  obtain ⟨rfl, Nq464, hh472⟩ := hQ464
  have N464 := Fr.app N0 Nq464
  refine own_via (fun t k => st464 t (XS.ifNo X464.here hx rfl (hb hby d9_22) rfl ((if0 _ _).trans (feq (by decide : ¬ ((1 : Int32) = (0 : Int32)))).1) (XS.iconst X464.here hx rfl (hb hby d9_25) (XS.goto X464.here hx rfl (pc0 := 26) (pc' := 30) rfl (hb hby d9_26) (by decide) (by decide) k)))) ?_
  show own_Goes p e below (T464.setTop (mkF m 30 #[rv w15, rv w15, rv w15] [(.int (1 : Int32))])) _
  obtain ⟨fs, hr, hrun, hended, hW, hsame⟩ := X464.leave (v := some (.int (1 : Int32))) (fun h => by rw [Bd.returns] at h; cases h)
  refine own_end (t := T464.setFrames fs) ?_ ⟨_, hrun, hended, _, _, rfl, ?_, ⟨_, rfl⟩, hW, hsame.mono (by decide) (by decide)⟩
  · exact retN X464 hx (t := .boolean) Bd.returns (by simp) (hb hby d9_30) hr
  · show Q33 Z w15 h0 n0 _ T464.heap _
    rw [hh472]
    exact ⟨rfl, N464, rfl⟩
theorem pd_12 : parseMethodDescriptor "(Ljava/lang/Object;)Z" = some ⟨[(.object "java/lang/Object")], some .boolean⟩ := by decide +kernel
theorem ef_20 (m : MethodId) (x0 : Int32) (x1 : Int32) : entryFrame m #[(.int x0), (.int x1)] maxLocals = mkF m 0 #[iv x0, iv x1, .unset, .unset, .unset, .unset] [] := by first | (simp [entryFrame, mkF, argsToLocals, Value.category, maxLocals]; done) | rfl
theorem pn_4 : plainName "tertium/TertiumOfPinLaw" = true := by first | (simp [plainName, overriddenIn]; done) | decide +kernel
set_option maxRecDepth 65536 in
set_option maxHeartbeats 40000000 in
theorem rm0 (l : Launch) (Z : State) (a0 : Array Value) (hw : ∀ d ∈ tables_1, d.before a0 Z = true) (ws : List Jvm.Cond) (i0 : Int32) (i1 : Int32) (w21 : Addr) (cl23 : Cell) (w17 : Addr) (w15 : Addr) (h0 : Heap) (n0 : Nat) (O0 : Old Z n0 h0) (S_Integer_IntegerCache_high : Sta Z Z.heap zs7 "high" "I" (.int (127 : Int32))) (S_Integer_IntegerCache_cache : Sta Z Z.heap zs7 "cache" zs11 (.ref w21)) (BX_w21 : Bxs Z w21 cl23 zs2 "I" (256 : Int32) (fun j => .int (j - (128 : Int32)))) (S_Tertium_ABSENT : Sta Z Z.heap zs1 "ABSENT" zs4 (.ref w17)) (SE_w17 : Exa Z Z.heap w17 zs1) (S_Tertium_NULL : Sta Z Z.heap zs1 "NULL" zs4 (.ref w15)) (SE_w15 : Exa Z Z.heap w15 zs1) (SN_w17_w15 : w17 ≠ w15) (SF_w15_value : Fld Z Z.heap w15 zs1 "value" zs3 .null) :
    MetFree l x (head1 (Jvm.Cond.code x code maxLocals ret :: ws) room_1) (fun a U => a = #[(.int i0), (.int i1)] ∧ Z.Warmed39 U.vm ∧ U.heap = h0) (fun _ _ _ _ _ => True) (fun _ U o U' => ∃ v L, o = .returned v ∧ own_Q0 n0 v L ∧ FrameEnd U o U' L room_1.cells room_1.slots) := by
  refine MetFree.of_bodySF (plainFor_of_name pn_4) hisR ?_
  intro p e s m args below meth c s₁ Bd hml0 hP hK
  obtain ⟨rfl, hZ, hh⟩ := hP
  have hx := Bd.exec
  have hby := Bd.bytes
  have hml : c.maxLocals = 6 := hml0
  have hown : s.vm.findClass "tertium/TertiumOfPinLaw" = some m.cls := findClass_of_methodNamed Bd.named
  have hnm := (name_of_methodNamed Bd.named Bd.method).1
  have X0 : Stand p l e room_1 s m #[(.int i0), (.int i1)] below meth c s₁ [] 0 0 := Stand.of_body Bd
  have e0 : s₁.heap = h0 := by rw [← hh, Bd.state]; rfl
  have N0 := Fr.nil n0
  refine own_out ?_
  show own_Goes p e below _ (own_G s below n0)
  refine own_via (fun t k => castTop (ef_20 m i0 i1) (XS.iloadN X0.here hx rfl (hb hby at_0) rfl (XS.iconst X0.here hx rfl (hb hby at_1) (XS.iand X0.here hx rfl (hb hby at_2) rfl k)))) ?_
  show own_Goes p e below (s₁.setTop (mkF m 3 #[iv i0, iv i1, .unset, .unset, .unset, .unset] [(.int (i1 &&& (1 : Int32)))])) _
  by_cases hc24 : (i1 &&& (1 : Int32)) = (0 : Int32)
  · refine own_via (fun t k => XS.ifYes X0.here hx rfl (pc0 := 3) (pc' := 10) rfl (hb hby at_3) rfl ((if0 _ _).trans (teq hc24).1) (by decide) (by decide) (XS.iconst X0.here hx rfl (hb hby at_10) (XS.istoreN X0.here hx rfl (hb hby at_11) rfl (l' := #[iv i0, iv i1, iv (0 : Int32), .unset, .unset, .unset]) rfl (XS.iloadN X0.here hx rfl (hb hby at_12) rfl (XS.ifYes X0.here hx rfl (pc0 := 13) (pc' := 20) rfl (hb hby at_13) rfl ((if0 _ _).trans (teq (by decide : (0 : Int32) = (0 : Int32))).1) (by decide) (by decide) (XS.iloadN X0.here hx rfl (hb hby at_20) rfl k)))))) ?_
    show own_Goes p e below (s₁.setTop (mkF m 21 #[iv i0, iv i1, iv (0 : Int32), .unset, .unset, .unset] [(.int i0)])) _
    obtain ⟨_, T25, _, X25, hQ25, st25⟩ := own_cs X0 hx hZ hown (wd hw 58 rfl) (wd hw 59 rfl) (wd hw 61 rfl) (wd hw 60 rfl) (by decide) (rm3 l Z a0 hw [] i0 w21 cl23 h0 n0 O0 S_Integer_IntegerCache_high S_Integer_IntegerCache_cache BX_w21) e0 (g := (mkF m 21 #[iv i0, iv i1, iv (0 : Int32), .unset, .unset, .unset] [(.int i0)])) rfl (by rw [hml]; rfl) (rest := []) (W := 0) (lenOf pd_3 rfl) rfl (by show 2 * 0 + _ ≤ _; exact Nat.le_of_eq rfl) (hb hby at_21) (by decide) (by decide) (by decide) (by decide)
    obtain ⟨h25, e25⟩ : ∃ z, T25.heap = z := ⟨_, rfl⟩
    rw [e25] at hQ25
    rcases hQ25 with ⟨b76, hq77, rfl, Nq25, K25, bx78, ex79, fx80⟩ | ⟨b81, hq82, hq83, rfl, Nq25, K25, bx84, ex85, fx86⟩ | ⟨b87, hq88, hq89, rfl, Nq25, sx90, sx91, hh92⟩
    · have N25 := Fr.app N0 Nq25
      have g93 : n0 ≤ b76 := Nat.le_trans (own_old O0) bx78
      have B94 : h0.size ≤ b76 := Nat.le_trans (Nat.le_refl _) bx78
      refine own_via (fun t k => st25 t (XS.astoreN X25.here hx rfl (hb hby at_24) rfl rfl (l' := #[iv i0, iv i1, iv (0 : Int32), rv b76, .unset, .unset]) rfl (XS.aloadN X25.here hx rfl (hb hby at_25) rfl rfl k))) ?_
      show own_Goes p e below (T25.setTop (mkF m 26 #[iv i0, iv i1, iv (0 : Int32), rv b76, .unset, .unset] [(.ref b76)])) _
      have O123 : Old Z n0 h25 := (O0.keep K25 all0)
      obtain ⟨_, T95, _, X95, hQ95, st95⟩ := own_cs X25 hx hZ hown (wd hw 0 rfl) (wd hw 1 rfl) (wd hw 3 rfl) (wd hw 2 rfl) (by decide) (rm5 l Z a0 hw [] b76 h25 n0 O123 ) e25 (g := (mkF m 26 #[iv i0, iv i1, iv (0 : Int32), rv b76, .unset, .unset] [(.ref b76)])) rfl (by rw [hml]; rfl) (rest := []) (W := 0) (lenOf pd_5 rfl) rfl (by show 2 * 0 + _ ≤ _; exact Nat.le_of_eq rfl) (hb hby at_26) (by decide) (by decide) (by decide) (by decide)
      obtain ⟨h95, e95⟩ : ∃ z, T95.heap = z := ⟨_, rfl⟩
      rw [e95] at hQ95
      obtain ⟨b124, rfl, Nq95, K95, bx125, ex126, fx127⟩ := hQ95
      have N95 := Fr.app N25 Nq95
      have N128 : b76 ≠ b124 := Nat.ne_of_lt (Nat.lt_of_lt_of_le ex79.lt bx125)
      have g129 : n0 ≤ b124 := Nat.le_trans (own_old O123) bx125
      have Z131 : h0.size ≤ h25.size := (Nat.le_trans (Nat.le_refl _) K25.1)
      have B130 : h0.size ≤ b124 := Nat.le_trans Z131 bx125
      refine own_via (fun t k => st95 t (XS.astore X95.here hx rfl (hb hby at_29) rfl rfl (l' := #[iv i0, iv i1, iv (0 : Int32), rv b76, rv b124, .unset]) rfl (XS.aload X95.here hx rfl (hb hby at_31) rfl rfl k))) ?_
      show own_Goes p e below (T95.setTop (mkF m 33 #[iv i0, iv i1, iv (0 : Int32), rv b76, rv b124, .unset] [(.ref b124)])) _
      have O152 : Old Z n0 h95 := (O123.keep K95 all0)
      obtain ⟨_, T132, _, X132, hQ132, st132⟩ := own_cv X95 hx hZ hown (wd hw 9 rfl) (wd hw 10 rfl) (wd hw 12 rfl) (wd hw 11 rfl) (wd hw 13 rfl) (wd hw 2 rfl) (by decide) (rm7 l Z a0 hw [] b124 w17 h95 n0 O152 S_Tertium_ABSENT SE_w17 g129 ex126) e95 ex126 (g := (mkF m 33 #[iv i0, iv i1, iv (0 : Int32), rv b76, rv b124, .unset] [(.ref b124)])) rfl (by rw [hml]; rfl) (rest := []) (W := 0) (lenOf pd_6 rfl) rfl (by show 2 * 0 + _ ≤ _; exact Nat.le_of_eq rfl) (hb hby at_33) (by decide) (by decide) (by decide) (by decide)
      obtain ⟨rfl, Nq132, hh153⟩ := hQ132
      have N132 := Fr.app N95 Nq132
      refine own_via (fun t k => st132 t (XS.ifNo X132.here hx rfl (hb hby at_36) rfl ((if0 _ _).trans (feq (by decide : ¬ ((1 : Int32) = (0 : Int32)))).1) (XS.aload X132.here hx rfl (hb hby at_39) rfl rfl k))) ?_
      show own_Goes p e below (T132.setTop (mkF m 41 #[iv i0, iv i1, iv (0 : Int32), rv b76, rv b124, .unset] [(.ref b124)])) _
      obtain ⟨_, T154, _, X154, hQ154, st154⟩ := own_cv X132 hx hZ hown (wd hw 21 rfl) (wd hw 15 rfl) (wd hw 17 rfl) (wd hw 16 rfl) (wd hw 18 rfl) (wd hw 2 rfl) (by decide) (rm6 l Z a0 hw [] b124 w17 h95 n0 O152 S_Tertium_ABSENT SE_w17 g129) hh153 ex126 (g := (mkF m 41 #[iv i0, iv i1, iv (0 : Int32), rv b76, rv b124, .unset] [(.ref b124)])) rfl (by rw [hml]; rfl) (rest := []) (W := 0) (lenOf pd_6 rfl) rfl (by show 2 * 0 + _ ≤ _; exact Nat.le_of_eq rfl) (hb hby at_41) (by decide) (by decide) (by decide) (by decide)
      obtain ⟨rfl, Nq154, hh155⟩ := hQ154
      have N154 := Fr.app N132 Nq154
      refine own_via (fun t k => st154 t (XS.ifYes X154.here hx rfl (pc0 := 44) (pc' := 49) rfl (hb hby at_44) rfl ((if0 _ _).trans (teq (by decide : (0 : Int32) = (0 : Int32))).1) (by decide) (by decide) (XS.aload X154.here hx rfl (hb hby at_49) rfl rfl k))) ?_
      show own_Goes p e below (T154.setTop (mkF m 51 #[iv i0, iv i1, iv (0 : Int32), rv b76, rv b124, .unset] [(.ref b124)])) _
      obtain ⟨_, T156, _, X156, hQ156, st156⟩ := own_cv X154 hx hZ hown (wd hw 22 rfl) (wd hw 23 rfl) (wd hw 25 rfl) (wd hw 24 rfl) (wd hw 26 rfl) (wd hw 2 rfl) (by decide) (rm8 l Z a0 hw [] b124 w15 h95 n0 O152 S_Tertium_NULL SE_w15 g129) hh155 ex126 (g := (mkF m 51 #[iv i0, iv i1, iv (0 : Int32), rv b76, rv b124, .unset] [(.ref b124)])) rfl (by rw [hml]; rfl) (rest := []) (W := 0) (lenOf pd_6 rfl) rfl (by show 2 * 0 + _ ≤ _; exact Nat.le_of_eq rfl) (hb hby at_51) (by decide) (by decide) (by decide) (by decide)
      obtain ⟨rfl, Nq156, hh166⟩ := hQ156
      have N156 := Fr.app N154 Nq156
      refine own_via (fun t k => st156 t (XS.iloadN X156.here hx rfl (hb hby at_54) rfl (XS.icmpYes X156.here hx rfl (pc0 := 55) (pc' := 60) rfl (hb hby at_55) rfl (teq (by decide : (0 : Int32) = (0 : Int32))).1 (by decide) (by decide) (XS.aload X156.here hx rfl (hb hby at_60) rfl rfl k)))) ?_
      show own_Goes p e below (T156.setTop (mkF m 62 #[iv i0, iv i1, iv (0 : Int32), rv b76, rv b124, .unset] [(.ref b124)])) _
      obtain ⟨_, T167, _, X167, hQ167, st167⟩ := own_cv X156 hx hZ hown (wd hw 27 rfl) (wd hw 28 rfl) (wd hw 30 rfl) (wd hw 29 rfl) (wd hw 31 rfl) (wd hw 2 rfl) (by decide) (rm10 l Z a0 hw [] b124 b76 h95 n0 O152 fx127 ex126) hh166 ex126 (g := (mkF m 62 #[iv i0, iv i1, iv (0 : Int32), rv b76, rv b124, .unset] [(.ref b124)])) rfl (by rw [hml]; rfl) (rest := []) (W := 0) (lenOf pd_6 rfl) rfl (by show 2 * 0 + _ ≤ _; exact Nat.le_of_eq rfl) (hb hby at_62) (by decide) (by decide) (by decide) (by decide)
      obtain ⟨rfl, Nq167, hh187⟩ := hQ167
      have N167 := Fr.app N156 Nq167
      refine own_via (fun t k => st167 t (XS.iloadN X167.here hx rfl (hb hby at_65) rfl (XS.icmpYes X167.here hx rfl (pc0 := 66) (pc' := 71) rfl (hb hby at_66) rfl (feq (by decide : ¬ ((1 : Int32) = (0 : Int32)))).2 (by decide) (by decide) (XS.aload X167.here hx rfl (hb hby at_71) rfl rfl k)))) ?_
      show own_Goes p e below (T167.setTop (mkF m 73 #[iv i0, iv i1, iv (0 : Int32), rv b76, rv b124, .unset] [(.ref b124)])) _
      obtain ⟨_, T188, _, X188, hQ188, st188⟩ := own_cv X167 hx hZ hown (wd hw 39 rfl) (wd hw 40 rfl) (wd hw 42 rfl) (wd hw 41 rfl) (wd hw 43 rfl) (wd hw 2 rfl) (by decide) (rm11 l Z a0 hw [] b124 w17 b76 h95 n0 O152 S_Tertium_ABSENT SE_w17 g129 ex126 fx127) hh187 ex126 (g := (mkF m 73 #[iv i0, iv i1, iv (0 : Int32), rv b76, rv b124, .unset] [(.ref b124)])) rfl (by rw [hml]; rfl) (rest := []) (W := 0) (lenOf pd_7 rfl) rfl (by show 2 * 0 + _ ≤ _; exact Nat.le_of_eq rfl) (hb hby at_73) (by decide) (by decide) (by decide) (by decide)
      obtain ⟨rfl, Nq188, hh200⟩ := hQ188
      have N188 := Fr.app N167 Nq188
      refine own_via (fun t k => st188 t k) ?_
      have E202 : Exa Z h95 b76 zs2 := (ex79.keep K95)
      obtain ⟨T201, X201, e201, st201⟩ := castY X188 hx hZ hown (wd hw 84 rfl) hh200 (Ins.self E202) (g := (mkF m 76 #[iv i0, iv i1, iv (0 : Int32), rv b76, rv b124, .unset] [(.ref b76)])) rfl rfl (hb hby at_76)
      refine own_via (fun t k => st201 t (XS.astore X201.here hx rfl (hb hby at_79) rfl rfl (l' := #[iv i0, iv i1, iv (0 : Int32), rv b76, rv b124, rv b76]) rfl (XS.iloadN X201.here hx rfl (hb hby at_81) rfl (XS.ifYes X201.here hx rfl (pc0 := 82) (pc' := 107) rfl (hb hby at_82) rfl ((if0 _ _).trans (teq (by decide : (0 : Int32) = (0 : Int32))).1) (by decide) (by decide) (XS.aload X201.here hx rfl (hb hby at_107) rfl rfl (XS.aloadN X201.here hx rfl (hb hby at_109) rfl rfl (Jvm.RoadKit.acmp (g := (mkF m 110 #[iv i0, iv i1, iv (0 : Int32), rv b76, rv b124, rv b76] [(.ref b76), (.ref b76)])) X201 hx rfl rfl rfl (pc0 := 110) (pc' := 113) (same := true) rfl (hb hby at_110) rfl (decide_eq_true rfl) (by decide) (by decide) (XS.aload X201.here hx rfl (hb hby at_113) rfl rfl k)))))))) ?_
      show own_Goes p e below (T201.setTop (mkF m 115 #[iv i0, iv i1, iv (0 : Int32), rv b76, rv b124, rv b76] [(.ref b76)])) _
      have F213 : Fld Z h95 b76 zs2 "value" "I" (.int i0) := (fx80.keep K95 nin0)
      obtain ⟨_, T203, _, X203, hQ203, st203⟩ := own_cv X201 hx hZ hown (wd hw 85 rfl) (wd hw 86 rfl) (wd hw 88 rfl) (wd hw 87 rfl) (wd hw 89 rfl) (wd hw 60 rfl) (by decide) (rm12 l Z a0 hw [] b76 i0 h95 n0 O152 F213) e201 E202 (g := (mkF m 115 #[iv i0, iv i1, iv (0 : Int32), rv b76, rv b124, rv b76] [(.ref b76)])) rfl (by rw [hml]; rfl) (rest := []) (W := 0) (lenOf pd_8 rfl) rfl (by show 2 * 0 + _ ≤ _; exact Nat.le_of_eq rfl) (hb hby at_115) (by decide) (by decide) (by decide) (by decide)
      obtain ⟨rfl, Nq203, hh214⟩ := hQ203
      have N203 := Fr.app N188 Nq203
      refine own_via (fun t k => st203 t (XS.iloadN X203.here hx rfl (hb hby at_118) rfl (XS.icmpNo X203.here hx rfl (hb hby at_119) rfl (teq (rfl : i0 = i0)).2 (XS.aload X203.here hx rfl (hb hby at_122) rfl rfl k)))) ?_
      show own_Goes p e below (T203.setTop (mkF m 124 #[iv i0, iv i1, iv (0 : Int32), rv b76, rv b124, rv b76] [(.ref b124)])) _
      obtain ⟨_, T215, _, X215, hQ215, st215⟩ := own_cv X203 hx hZ hown (wd hw 90 rfl) (wd hw 91 rfl) (wd hw 93 rfl) (wd hw 92 rfl) (wd hw 94 rfl) (wd hw 2 rfl) (by decide) (rm15 l Z a0 hw [] b124 w17 w15 b76 i0 h95 n0 O152 S_Tertium_ABSENT SE_w17 g129 ex126 S_Tertium_NULL SE_w15 fx127 F213 E202) hh214 ex126 (g := (mkF m 124 #[iv i0, iv i1, iv (0 : Int32), rv b76, rv b124, rv b76] [(.ref b124)])) rfl (by rw [hml]; rfl) (rest := []) (W := 0) (lenOf pd_8 rfl) rfl (by show 2 * 0 + _ ≤ _; exact Nat.le_of_eq rfl) (hb hby at_124) (by decide) (by decide) (by decide) (by decide)
      obtain ⟨rfl, Nq215, hh250⟩ := hQ215
      have N215 := Fr.app N203 Nq215
      refine own_via (fun t k => st215 t (XS.iloadN X215.here hx rfl (hb hby at_127) rfl (XS.icmpNo X215.here hx rfl (hb hby at_128) rfl (teq (rfl : i0 = i0)).2 (XS.iconst X215.here hx rfl (hb hby at_131) (XS.goto X215.here hx rfl (pc0 := 132) (pc' := 136) rfl (hb hby at_132) (by decide) (by decide) k))))) ?_
      show own_Goes p e below (T215.setTop (mkF m 136 #[iv i0, iv i1, iv (0 : Int32), rv b76, rv b124, rv b76] [(.int (1 : Int32))])) _
      obtain ⟨fs, hr, hrun, hended, hW, hsame⟩ := X215.leave (v := some (.int (1 : Int32))) (fun h => by rw [Bd.returns] at h; cases h)
      refine own_end (t := T215.setFrames fs) ?_ ⟨_, hrun, hended, _, _, rfl, ?_, ⟨_, rfl⟩, hW, hsame.mono (by decide) (by decide)⟩
      · exact retN X215 hx (t := .boolean) Bd.returns (by simp) (hb hby at_136) hr
      · exact ⟨rfl, N215⟩
    · have N25 := Fr.app N0 Nq25
      have g251 : n0 ≤ b81 := Nat.le_trans (own_old O0) bx84
      have B252 : h0.size ≤ b81 := Nat.le_trans (Nat.le_refl _) bx84
      refine own_via (fun t k => st25 t (XS.astoreN X25.here hx rfl (hb hby at_24) rfl rfl (l' := #[iv i0, iv i1, iv (0 : Int32), rv b81, .unset, .unset]) rfl (XS.aloadN X25.here hx rfl (hb hby at_25) rfl rfl k))) ?_
      show own_Goes p e below (T25.setTop (mkF m 26 #[iv i0, iv i1, iv (0 : Int32), rv b81, .unset, .unset] [(.ref b81)])) _
      have O254 : Old Z n0 h25 := (O0.keep K25 all0)
      obtain ⟨_, T253, _, X253, hQ253, st253⟩ := own_cs X25 hx hZ hown (wd hw 0 rfl) (wd hw 1 rfl) (wd hw 3 rfl) (wd hw 2 rfl) (by decide) (rm5 l Z a0 hw [] b81 h25 n0 O254 ) e25 (g := (mkF m 26 #[iv i0, iv i1, iv (0 : Int32), rv b81, .unset, .unset] [(.ref b81)])) rfl (by rw [hml]; rfl) (rest := []) (W := 0) (lenOf pd_5 rfl) rfl (by show 2 * 0 + _ ≤ _; exact Nat.le_of_eq rfl) (hb hby at_26) (by decide) (by decide) (by decide) (by decide)
      obtain ⟨h253, e253⟩ : ∃ z, T253.heap = z := ⟨_, rfl⟩
      rw [e253] at hQ253
      obtain ⟨b255, rfl, Nq253, K253, bx256, ex257, fx258⟩ := hQ253
      have N253 := Fr.app N25 Nq253
      have N259 : b81 ≠ b255 := Nat.ne_of_lt (Nat.lt_of_lt_of_le ex85.lt bx256)
      have g260 : n0 ≤ b255 := Nat.le_trans (own_old O254) bx256
      have Z262 : h0.size ≤ h25.size := (Nat.le_trans (Nat.le_refl _) K25.1)
      have B261 : h0.size ≤ b255 := Nat.le_trans Z262 bx256
      refine own_via (fun t k => st253 t (XS.astore X253.here hx rfl (hb hby at_29) rfl rfl (l' := #[iv i0, iv i1, iv (0 : Int32), rv b81, rv b255, .unset]) rfl (XS.aload X253.here hx rfl (hb hby at_31) rfl rfl k))) ?_
      show own_Goes p e below (T253.setTop (mkF m 33 #[iv i0, iv i1, iv (0 : Int32), rv b81, rv b255, .unset] [(.ref b255)])) _
      have O264 : Old Z n0 h253 := (O254.keep K253 all0)
      obtain ⟨_, T263, _, X263, hQ263, st263⟩ := own_cv X253 hx hZ hown (wd hw 9 rfl) (wd hw 10 rfl) (wd hw 12 rfl) (wd hw 11 rfl) (wd hw 13 rfl) (wd hw 2 rfl) (by decide) (rm7 l Z a0 hw [] b255 w17 h253 n0 O264 S_Tertium_ABSENT SE_w17 g260 ex257) e253 ex257 (g := (mkF m 33 #[iv i0, iv i1, iv (0 : Int32), rv b81, rv b255, .unset] [(.ref b255)])) rfl (by rw [hml]; rfl) (rest := []) (W := 0) (lenOf pd_6 rfl) rfl (by show 2 * 0 + _ ≤ _; exact Nat.le_of_eq rfl) (hb hby at_33) (by decide) (by decide) (by decide) (by decide)
      obtain ⟨rfl, Nq263, hh265⟩ := hQ263
      have N263 := Fr.app N253 Nq263
      refine own_via (fun t k => st263 t (XS.ifNo X263.here hx rfl (hb hby at_36) rfl ((if0 _ _).trans (feq (by decide : ¬ ((1 : Int32) = (0 : Int32)))).1) (XS.aload X263.here hx rfl (hb hby at_39) rfl rfl k))) ?_
      show own_Goes p e below (T263.setTop (mkF m 41 #[iv i0, iv i1, iv (0 : Int32), rv b81, rv b255, .unset] [(.ref b255)])) _
      obtain ⟨_, T266, _, X266, hQ266, st266⟩ := own_cv X263 hx hZ hown (wd hw 21 rfl) (wd hw 15 rfl) (wd hw 17 rfl) (wd hw 16 rfl) (wd hw 18 rfl) (wd hw 2 rfl) (by decide) (rm6 l Z a0 hw [] b255 w17 h253 n0 O264 S_Tertium_ABSENT SE_w17 g260) hh265 ex257 (g := (mkF m 41 #[iv i0, iv i1, iv (0 : Int32), rv b81, rv b255, .unset] [(.ref b255)])) rfl (by rw [hml]; rfl) (rest := []) (W := 0) (lenOf pd_6 rfl) rfl (by show 2 * 0 + _ ≤ _; exact Nat.le_of_eq rfl) (hb hby at_41) (by decide) (by decide) (by decide) (by decide)
      obtain ⟨rfl, Nq266, hh267⟩ := hQ266
      have N266 := Fr.app N263 Nq266
      refine own_via (fun t k => st266 t (XS.ifYes X266.here hx rfl (pc0 := 44) (pc' := 49) rfl (hb hby at_44) rfl ((if0 _ _).trans (teq (by decide : (0 : Int32) = (0 : Int32))).1) (by decide) (by decide) (XS.aload X266.here hx rfl (hb hby at_49) rfl rfl k))) ?_
      show own_Goes p e below (T266.setTop (mkF m 51 #[iv i0, iv i1, iv (0 : Int32), rv b81, rv b255, .unset] [(.ref b255)])) _
      obtain ⟨_, T268, _, X268, hQ268, st268⟩ := own_cv X266 hx hZ hown (wd hw 22 rfl) (wd hw 23 rfl) (wd hw 25 rfl) (wd hw 24 rfl) (wd hw 26 rfl) (wd hw 2 rfl) (by decide) (rm8 l Z a0 hw [] b255 w15 h253 n0 O264 S_Tertium_NULL SE_w15 g260) hh267 ex257 (g := (mkF m 51 #[iv i0, iv i1, iv (0 : Int32), rv b81, rv b255, .unset] [(.ref b255)])) rfl (by rw [hml]; rfl) (rest := []) (W := 0) (lenOf pd_6 rfl) rfl (by show 2 * 0 + _ ≤ _; exact Nat.le_of_eq rfl) (hb hby at_51) (by decide) (by decide) (by decide) (by decide)
      obtain ⟨rfl, Nq268, hh269⟩ := hQ268
      have N268 := Fr.app N266 Nq268
      refine own_via (fun t k => st268 t (XS.iloadN X268.here hx rfl (hb hby at_54) rfl (XS.icmpYes X268.here hx rfl (pc0 := 55) (pc' := 60) rfl (hb hby at_55) rfl (teq (by decide : (0 : Int32) = (0 : Int32))).1 (by decide) (by decide) (XS.aload X268.here hx rfl (hb hby at_60) rfl rfl k)))) ?_
      show own_Goes p e below (T268.setTop (mkF m 62 #[iv i0, iv i1, iv (0 : Int32), rv b81, rv b255, .unset] [(.ref b255)])) _
      obtain ⟨_, T270, _, X270, hQ270, st270⟩ := own_cv X268 hx hZ hown (wd hw 27 rfl) (wd hw 28 rfl) (wd hw 30 rfl) (wd hw 29 rfl) (wd hw 31 rfl) (wd hw 2 rfl) (by decide) (rm10 l Z a0 hw [] b255 b81 h253 n0 O264 fx258 ex257) hh269 ex257 (g := (mkF m 62 #[iv i0, iv i1, iv (0 : Int32), rv b81, rv b255, .unset] [(.ref b255)])) rfl (by rw [hml]; rfl) (rest := []) (W := 0) (lenOf pd_6 rfl) rfl (by show 2 * 0 + _ ≤ _; exact Nat.le_of_eq rfl) (hb hby at_62) (by decide) (by decide) (by decide) (by decide)
      obtain ⟨rfl, Nq270, hh271⟩ := hQ270
      have N270 := Fr.app N268 Nq270
      refine own_via (fun t k => st270 t (XS.iloadN X270.here hx rfl (hb hby at_65) rfl (XS.icmpYes X270.here hx rfl (pc0 := 66) (pc' := 71) rfl (hb hby at_66) rfl (feq (by decide : ¬ ((1 : Int32) = (0 : Int32)))).2 (by decide) (by decide) (XS.aload X270.here hx rfl (hb hby at_71) rfl rfl k)))) ?_
      show own_Goes p e below (T270.setTop (mkF m 73 #[iv i0, iv i1, iv (0 : Int32), rv b81, rv b255, .unset] [(.ref b255)])) _
      obtain ⟨_, T272, _, X272, hQ272, st272⟩ := own_cv X270 hx hZ hown (wd hw 39 rfl) (wd hw 40 rfl) (wd hw 42 rfl) (wd hw 41 rfl) (wd hw 43 rfl) (wd hw 2 rfl) (by decide) (rm11 l Z a0 hw [] b255 w17 b81 h253 n0 O264 S_Tertium_ABSENT SE_w17 g260 ex257 fx258) hh271 ex257 (g := (mkF m 73 #[iv i0, iv i1, iv (0 : Int32), rv b81, rv b255, .unset] [(.ref b255)])) rfl (by rw [hml]; rfl) (rest := []) (W := 0) (lenOf pd_7 rfl) rfl (by show 2 * 0 + _ ≤ _; exact Nat.le_of_eq rfl) (hb hby at_73) (by decide) (by decide) (by decide) (by decide)
      obtain ⟨rfl, Nq272, hh273⟩ := hQ272
      have N272 := Fr.app N270 Nq272
      refine own_via (fun t k => st272 t k) ?_
      have E275 : Exa Z h253 b81 zs2 := (ex85.keep K253)
      obtain ⟨T274, X274, e274, st274⟩ := castY X272 hx hZ hown (wd hw 84 rfl) hh273 (Ins.self E275) (g := (mkF m 76 #[iv i0, iv i1, iv (0 : Int32), rv b81, rv b255, .unset] [(.ref b81)])) rfl rfl (hb hby at_76)
      refine own_via (fun t k => st274 t (XS.astore X274.here hx rfl (hb hby at_79) rfl rfl (l' := #[iv i0, iv i1, iv (0 : Int32), rv b81, rv b255, rv b81]) rfl (XS.iloadN X274.here hx rfl (hb hby at_81) rfl (XS.ifYes X274.here hx rfl (pc0 := 82) (pc' := 107) rfl (hb hby at_82) rfl ((if0 _ _).trans (teq (by decide : (0 : Int32) = (0 : Int32))).1) (by decide) (by decide) (XS.aload X274.here hx rfl (hb hby at_107) rfl rfl (XS.aloadN X274.here hx rfl (hb hby at_109) rfl rfl (Jvm.RoadKit.acmp (g := (mkF m 110 #[iv i0, iv i1, iv (0 : Int32), rv b81, rv b255, rv b81] [(.ref b81), (.ref b81)])) X274 hx rfl rfl rfl (pc0 := 110) (pc' := 113) (same := true) rfl (hb hby at_110) rfl (decide_eq_true rfl) (by decide) (by decide) (XS.aload X274.here hx rfl (hb hby at_113) rfl rfl k)))))))) ?_
      show own_Goes p e below (T274.setTop (mkF m 115 #[iv i0, iv i1, iv (0 : Int32), rv b81, rv b255, rv b81] [(.ref b81)])) _
      have F277 : Fld Z h253 b81 zs2 "value" "I" (.int i0) := (fx86.keep K253 nin0)
      obtain ⟨_, T276, _, X276, hQ276, st276⟩ := own_cv X274 hx hZ hown (wd hw 85 rfl) (wd hw 86 rfl) (wd hw 88 rfl) (wd hw 87 rfl) (wd hw 89 rfl) (wd hw 60 rfl) (by decide) (rm12 l Z a0 hw [] b81 i0 h253 n0 O264 F277) e274 E275 (g := (mkF m 115 #[iv i0, iv i1, iv (0 : Int32), rv b81, rv b255, rv b81] [(.ref b81)])) rfl (by rw [hml]; rfl) (rest := []) (W := 0) (lenOf pd_8 rfl) rfl (by show 2 * 0 + _ ≤ _; exact Nat.le_of_eq rfl) (hb hby at_115) (by decide) (by decide) (by decide) (by decide)
      obtain ⟨rfl, Nq276, hh278⟩ := hQ276
      have N276 := Fr.app N272 Nq276
      refine own_via (fun t k => st276 t (XS.iloadN X276.here hx rfl (hb hby at_118) rfl (XS.icmpNo X276.here hx rfl (hb hby at_119) rfl (teq (rfl : i0 = i0)).2 (XS.aload X276.here hx rfl (hb hby at_122) rfl rfl k)))) ?_
      show own_Goes p e below (T276.setTop (mkF m 124 #[iv i0, iv i1, iv (0 : Int32), rv b81, rv b255, rv b81] [(.ref b255)])) _
      obtain ⟨_, T279, _, X279, hQ279, st279⟩ := own_cv X276 hx hZ hown (wd hw 90 rfl) (wd hw 91 rfl) (wd hw 93 rfl) (wd hw 92 rfl) (wd hw 94 rfl) (wd hw 2 rfl) (by decide) (rm15 l Z a0 hw [] b255 w17 w15 b81 i0 h253 n0 O264 S_Tertium_ABSENT SE_w17 g260 ex257 S_Tertium_NULL SE_w15 fx258 F277 E275) hh278 ex257 (g := (mkF m 124 #[iv i0, iv i1, iv (0 : Int32), rv b81, rv b255, rv b81] [(.ref b255)])) rfl (by rw [hml]; rfl) (rest := []) (W := 0) (lenOf pd_8 rfl) rfl (by show 2 * 0 + _ ≤ _; exact Nat.le_of_eq rfl) (hb hby at_124) (by decide) (by decide) (by decide) (by decide)
      obtain ⟨rfl, Nq279, hh280⟩ := hQ279
      have N279 := Fr.app N276 Nq279
      refine own_via (fun t k => st279 t (XS.iloadN X279.here hx rfl (hb hby at_127) rfl (XS.icmpNo X279.here hx rfl (hb hby at_128) rfl (teq (rfl : i0 = i0)).2 (XS.iconst X279.here hx rfl (hb hby at_131) (XS.goto X279.here hx rfl (pc0 := 132) (pc' := 136) rfl (hb hby at_132) (by decide) (by decide) k))))) ?_
      show own_Goes p e below (T279.setTop (mkF m 136 #[iv i0, iv i1, iv (0 : Int32), rv b81, rv b255, rv b81] [(.int (1 : Int32))])) _
      obtain ⟨fs, hr, hrun, hended, hW, hsame⟩ := X279.leave (v := some (.int (1 : Int32))) (fun h => by rw [Bd.returns] at h; cases h)
      refine own_end (t := T279.setFrames fs) ?_ ⟨_, hrun, hended, _, _, rfl, ?_, ⟨_, rfl⟩, hW, hsame.mono (by decide) (by decide)⟩
      · exact retN X279 hx (t := .boolean) Bd.returns (by simp) (hb hby at_136) hr
      · exact ⟨rfl, N279⟩
    · have N25 := Fr.app N0 Nq25
      refine own_via (fun t k => st25 t (XS.astoreN X25.here hx rfl (hb hby at_24) rfl rfl (l' := #[iv i0, iv i1, iv (0 : Int32), rv b87, .unset, .unset]) rfl (XS.aloadN X25.here hx rfl (hb hby at_25) rfl rfl k))) ?_
      show own_Goes p e below (T25.setTop (mkF m 26 #[iv i0, iv i1, iv (0 : Int32), rv b87, .unset, .unset] [(.ref b87)])) _
      obtain ⟨_, T281, _, X281, hQ281, st281⟩ := own_cs X25 hx hZ hown (wd hw 0 rfl) (wd hw 1 rfl) (wd hw 3 rfl) (wd hw 2 rfl) (by decide) (rm17 l Z a0 hw [] b87 h0 n0 O0 ) (e25.trans hh92) (g := (mkF m 26 #[iv i0, iv i1, iv (0 : Int32), rv b87, .unset, .unset] [(.ref b87)])) rfl (by rw [hml]; rfl) (rest := []) (W := 0) (lenOf pd_5 rfl) rfl (by show 2 * 0 + _ ≤ _; exact Nat.le_of_eq rfl) (hb hby at_26) (by decide) (by decide) (by decide) (by decide)
      obtain ⟨h281, e281⟩ : ∃ z, T281.heap = z := ⟨_, rfl⟩
      rw [e281] at hQ281
      obtain ⟨b309, rfl, Nq281, K281, bx310, ex311, fx312⟩ := hQ281
      have N281 := Fr.app N25 Nq281
      have g313 : n0 ≤ b309 := Nat.le_trans (own_old O0) bx310
      have B314 : h0.size ≤ b309 := Nat.le_trans (Nat.le_refl _) bx310
      refine own_via (fun t k => st281 t (XS.astore X281.here hx rfl (hb hby at_29) rfl rfl (l' := #[iv i0, iv i1, iv (0 : Int32), rv b87, rv b309, .unset]) rfl (XS.aload X281.here hx rfl (hb hby at_31) rfl rfl k))) ?_
      show own_Goes p e below (T281.setTop (mkF m 33 #[iv i0, iv i1, iv (0 : Int32), rv b87, rv b309, .unset] [(.ref b309)])) _
      have O316 : Old Z n0 h281 := (O0.keep K281 all0)
      obtain ⟨_, T315, _, X315, hQ315, st315⟩ := own_cv X281 hx hZ hown (wd hw 9 rfl) (wd hw 10 rfl) (wd hw 12 rfl) (wd hw 11 rfl) (wd hw 13 rfl) (wd hw 2 rfl) (by decide) (rm7 l Z a0 hw [] b309 w17 h281 n0 O316 S_Tertium_ABSENT SE_w17 g313 ex311) e281 ex311 (g := (mkF m 33 #[iv i0, iv i1, iv (0 : Int32), rv b87, rv b309, .unset] [(.ref b309)])) rfl (by rw [hml]; rfl) (rest := []) (W := 0) (lenOf pd_6 rfl) rfl (by show 2 * 0 + _ ≤ _; exact Nat.le_of_eq rfl) (hb hby at_33) (by decide) (by decide) (by decide) (by decide)
      obtain ⟨rfl, Nq315, hh317⟩ := hQ315
      have N315 := Fr.app N281 Nq315
      refine own_via (fun t k => st315 t (XS.ifNo X315.here hx rfl (hb hby at_36) rfl ((if0 _ _).trans (feq (by decide : ¬ ((1 : Int32) = (0 : Int32)))).1) (XS.aload X315.here hx rfl (hb hby at_39) rfl rfl k))) ?_
      show own_Goes p e below (T315.setTop (mkF m 41 #[iv i0, iv i1, iv (0 : Int32), rv b87, rv b309, .unset] [(.ref b309)])) _
      obtain ⟨_, T318, _, X318, hQ318, st318⟩ := own_cv X315 hx hZ hown (wd hw 21 rfl) (wd hw 15 rfl) (wd hw 17 rfl) (wd hw 16 rfl) (wd hw 18 rfl) (wd hw 2 rfl) (by decide) (rm6 l Z a0 hw [] b309 w17 h281 n0 O316 S_Tertium_ABSENT SE_w17 g313) hh317 ex311 (g := (mkF m 41 #[iv i0, iv i1, iv (0 : Int32), rv b87, rv b309, .unset] [(.ref b309)])) rfl (by rw [hml]; rfl) (rest := []) (W := 0) (lenOf pd_6 rfl) rfl (by show 2 * 0 + _ ≤ _; exact Nat.le_of_eq rfl) (hb hby at_41) (by decide) (by decide) (by decide) (by decide)
      obtain ⟨rfl, Nq318, hh319⟩ := hQ318
      have N318 := Fr.app N315 Nq318
      refine own_via (fun t k => st318 t (XS.ifYes X318.here hx rfl (pc0 := 44) (pc' := 49) rfl (hb hby at_44) rfl ((if0 _ _).trans (teq (by decide : (0 : Int32) = (0 : Int32))).1) (by decide) (by decide) (XS.aload X318.here hx rfl (hb hby at_49) rfl rfl k))) ?_
      show own_Goes p e below (T318.setTop (mkF m 51 #[iv i0, iv i1, iv (0 : Int32), rv b87, rv b309, .unset] [(.ref b309)])) _
      obtain ⟨_, T320, _, X320, hQ320, st320⟩ := own_cv X318 hx hZ hown (wd hw 22 rfl) (wd hw 23 rfl) (wd hw 25 rfl) (wd hw 24 rfl) (wd hw 26 rfl) (wd hw 2 rfl) (by decide) (rm8 l Z a0 hw [] b309 w15 h281 n0 O316 S_Tertium_NULL SE_w15 g313) hh319 ex311 (g := (mkF m 51 #[iv i0, iv i1, iv (0 : Int32), rv b87, rv b309, .unset] [(.ref b309)])) rfl (by rw [hml]; rfl) (rest := []) (W := 0) (lenOf pd_6 rfl) rfl (by show 2 * 0 + _ ≤ _; exact Nat.le_of_eq rfl) (hb hby at_51) (by decide) (by decide) (by decide) (by decide)
      obtain ⟨rfl, Nq320, hh321⟩ := hQ320
      have N320 := Fr.app N318 Nq320
      refine own_via (fun t k => st320 t (XS.iloadN X320.here hx rfl (hb hby at_54) rfl (XS.icmpYes X320.here hx rfl (pc0 := 55) (pc' := 60) rfl (hb hby at_55) rfl (teq (by decide : (0 : Int32) = (0 : Int32))).1 (by decide) (by decide) (XS.aload X320.here hx rfl (hb hby at_60) rfl rfl k)))) ?_
      show own_Goes p e below (T320.setTop (mkF m 62 #[iv i0, iv i1, iv (0 : Int32), rv b87, rv b309, .unset] [(.ref b309)])) _
      obtain ⟨_, T322, _, X322, hQ322, st322⟩ := own_cv X320 hx hZ hown (wd hw 27 rfl) (wd hw 28 rfl) (wd hw 30 rfl) (wd hw 29 rfl) (wd hw 31 rfl) (wd hw 2 rfl) (by decide) (rm19 l Z a0 hw [] b309 b87 h281 n0 O316 fx312 ex311) hh321 ex311 (g := (mkF m 62 #[iv i0, iv i1, iv (0 : Int32), rv b87, rv b309, .unset] [(.ref b309)])) rfl (by rw [hml]; rfl) (rest := []) (W := 0) (lenOf pd_6 rfl) rfl (by show 2 * 0 + _ ≤ _; exact Nat.le_of_eq rfl) (hb hby at_62) (by decide) (by decide) (by decide) (by decide)
      obtain ⟨rfl, Nq322, hh342⟩ := hQ322
      have N322 := Fr.app N320 Nq322
      refine own_via (fun t k => st322 t (XS.iloadN X322.here hx rfl (hb hby at_65) rfl (XS.icmpYes X322.here hx rfl (pc0 := 66) (pc' := 71) rfl (hb hby at_66) rfl (feq (by decide : ¬ ((1 : Int32) = (0 : Int32)))).2 (by decide) (by decide) (XS.aload X322.here hx rfl (hb hby at_71) rfl rfl k)))) ?_
      show own_Goes p e below (T322.setTop (mkF m 73 #[iv i0, iv i1, iv (0 : Int32), rv b87, rv b309, .unset] [(.ref b309)])) _
      obtain ⟨_, T343, _, X343, hQ343, st343⟩ := own_cv X322 hx hZ hown (wd hw 39 rfl) (wd hw 40 rfl) (wd hw 42 rfl) (wd hw 41 rfl) (wd hw 43 rfl) (wd hw 2 rfl) (by decide) (rm20 l Z a0 hw [] b309 w17 b87 h281 n0 O316 S_Tertium_ABSENT SE_w17 g313 ex311 fx312) hh342 ex311 (g := (mkF m 73 #[iv i0, iv i1, iv (0 : Int32), rv b87, rv b309, .unset] [(.ref b309)])) rfl (by rw [hml]; rfl) (rest := []) (W := 0) (lenOf pd_7 rfl) rfl (by show 2 * 0 + _ ≤ _; exact Nat.le_of_eq rfl) (hb hby at_73) (by decide) (by decide) (by decide) (by decide)
      obtain ⟨rfl, Nq343, hh355⟩ := hQ343
      have N343 := Fr.app N322 Nq343
      refine own_via (fun t k => st343 t k) ?_
      obtain ⟨T356, X356, e356, st356⟩ := castY X343 hx hZ hown (wd hw 84 rfl) hh355 (Ins.self (sx90.ext O316.2)) (g := (mkF m 76 #[iv i0, iv i1, iv (0 : Int32), rv b87, rv b309, .unset] [(.ref b87)])) rfl rfl (hb hby at_76)
      refine own_via (fun t k => st356 t (XS.astore X356.here hx rfl (hb hby at_79) rfl rfl (l' := #[iv i0, iv i1, iv (0 : Int32), rv b87, rv b309, rv b87]) rfl (XS.iloadN X356.here hx rfl (hb hby at_81) rfl (XS.ifYes X356.here hx rfl (pc0 := 82) (pc' := 107) rfl (hb hby at_82) rfl ((if0 _ _).trans (teq (by decide : (0 : Int32) = (0 : Int32))).1) (by decide) (by decide) (XS.aload X356.here hx rfl (hb hby at_107) rfl rfl (XS.aloadN X356.here hx rfl (hb hby at_109) rfl rfl (Jvm.RoadKit.acmp (g := (mkF m 110 #[iv i0, iv i1, iv (0 : Int32), rv b87, rv b309, rv b87] [(.ref b87), (.ref b87)])) X356 hx rfl rfl rfl (pc0 := 110) (pc' := 113) (same := true) rfl (hb hby at_110) rfl (decide_eq_true rfl) (by decide) (by decide) (XS.aload X356.here hx rfl (hb hby at_113) rfl rfl k)))))))) ?_
      show own_Goes p e below (T356.setTop (mkF m 115 #[iv i0, iv i1, iv (0 : Int32), rv b87, rv b309, rv b87] [(.ref b87)])) _
      obtain ⟨_, T357, _, X357, hQ357, st357⟩ := own_cv X356 hx hZ hown (wd hw 85 rfl) (wd hw 86 rfl) (wd hw 88 rfl) (wd hw 87 rfl) (wd hw 89 rfl) (wd hw 60 rfl) (by decide) (rm21 l Z a0 hw [] b87 i0 h281 n0 O316 sx91) e356 (sx90.ext O316.2) (g := (mkF m 115 #[iv i0, iv i1, iv (0 : Int32), rv b87, rv b309, rv b87] [(.ref b87)])) rfl (by rw [hml]; rfl) (rest := []) (W := 0) (lenOf pd_8 rfl) rfl (by show 2 * 0 + _ ≤ _; exact Nat.le_of_eq rfl) (hb hby at_115) (by decide) (by decide) (by decide) (by decide)
      obtain ⟨rfl, Nq357, hh367⟩ := hQ357
      have N357 := Fr.app N343 Nq357
      refine own_via (fun t k => st357 t (XS.iloadN X357.here hx rfl (hb hby at_118) rfl (XS.icmpNo X357.here hx rfl (hb hby at_119) rfl (teq (rfl : i0 = i0)).2 (XS.aload X357.here hx rfl (hb hby at_122) rfl rfl k)))) ?_
      show own_Goes p e below (T357.setTop (mkF m 124 #[iv i0, iv i1, iv (0 : Int32), rv b87, rv b309, rv b87] [(.ref b309)])) _
      obtain ⟨_, T368, _, X368, hQ368, st368⟩ := own_cv X357 hx hZ hown (wd hw 90 rfl) (wd hw 91 rfl) (wd hw 93 rfl) (wd hw 92 rfl) (wd hw 94 rfl) (wd hw 2 rfl) (by decide) (rm23 l Z a0 hw [] b309 w17 w15 b87 i0 h281 n0 O316 S_Tertium_ABSENT SE_w17 g313 ex311 S_Tertium_NULL SE_w15 fx312 sx91 sx90) hh367 ex311 (g := (mkF m 124 #[iv i0, iv i1, iv (0 : Int32), rv b87, rv b309, rv b87] [(.ref b309)])) rfl (by rw [hml]; rfl) (rest := []) (W := 0) (lenOf pd_8 rfl) rfl (by show 2 * 0 + _ ≤ _; exact Nat.le_of_eq rfl) (hb hby at_124) (by decide) (by decide) (by decide) (by decide)
      obtain ⟨rfl, Nq368, hh395⟩ := hQ368
      have N368 := Fr.app N357 Nq368
      refine own_via (fun t k => st368 t (XS.iloadN X368.here hx rfl (hb hby at_127) rfl (XS.icmpNo X368.here hx rfl (hb hby at_128) rfl (teq (rfl : i0 = i0)).2 (XS.iconst X368.here hx rfl (hb hby at_131) (XS.goto X368.here hx rfl (pc0 := 132) (pc' := 136) rfl (hb hby at_132) (by decide) (by decide) k))))) ?_
      show own_Goes p e below (T368.setTop (mkF m 136 #[iv i0, iv i1, iv (0 : Int32), rv b87, rv b309, rv b87] [(.int (1 : Int32))])) _
      obtain ⟨fs, hr, hrun, hended, hW, hsame⟩ := X368.leave (v := some (.int (1 : Int32))) (fun h => by rw [Bd.returns] at h; cases h)
      refine own_end (t := T368.setFrames fs) ?_ ⟨_, hrun, hended, _, _, rfl, ?_, ⟨_, rfl⟩, hW, hsame.mono (by decide) (by decide)⟩
      · exact retN X368 hx (t := .boolean) Bd.returns (by simp) (hb hby at_136) hr
      · exact ⟨rfl, N368⟩
  · refine own_via (fun t k => XS.ifNo X0.here hx rfl (hb hby at_3) rfl ((if0 _ _).trans (feq hc24).1) (XS.iconst X0.here hx rfl (hb hby at_6) (XS.goto X0.here hx rfl (pc0 := 7) (pc' := 11) rfl (hb hby at_7) (by decide) (by decide) (XS.istoreN X0.here hx rfl (hb hby at_11) rfl (l' := #[iv i0, iv i1, iv (1 : Int32), .unset, .unset, .unset]) rfl (XS.iloadN X0.here hx rfl (hb hby at_12) rfl (XS.ifNo X0.here hx rfl (hb hby at_13) rfl ((if0 _ _).trans (feq (by decide : ¬ ((1 : Int32) = (0 : Int32)))).1) (XS.aconstNull X0.here hx rfl (hb hby at_16) (XS.goto X0.here hx rfl (pc0 := 17) (pc' := 24) rfl (hb hby at_17) (by decide) (by decide) (XS.astoreN X0.here hx rfl (hb hby at_24) rfl rfl (l' := #[iv i0, iv i1, iv (1 : Int32), .val .null, .unset, .unset]) rfl (XS.aloadN X0.here hx rfl (hb hby at_25) rfl rfl k)))))))))) ?_
    show own_Goes p e below (s₁.setTop (mkF m 26 #[iv i0, iv i1, iv (1 : Int32), .val .null, .unset, .unset] [.null])) _
    obtain ⟨_, T396, _, X396, hQ396, st396⟩ := own_cs X0 hx hZ hown (wd hw 0 rfl) (wd hw 1 rfl) (wd hw 3 rfl) (wd hw 2 rfl) (by decide) (rm25 l Z a0 hw [] w15 h0 n0 O0 S_Tertium_NULL) e0 (g := (mkF m 26 #[iv i0, iv i1, iv (1 : Int32), .val .null, .unset, .unset] [.null])) rfl (by rw [hml]; rfl) (rest := []) (W := 0) (lenOf pd_5 rfl) rfl (by show 2 * 0 + _ ≤ _; exact Nat.le_of_eq rfl) (hb hby at_26) (by decide) (by decide) (by decide) (by decide)
    obtain ⟨rfl, Nq396, hh408⟩ := hQ396
    have N396 := Fr.app N0 Nq396
    refine own_via (fun t k => st396 t (XS.astore X396.here hx rfl (hb hby at_29) rfl rfl (l' := #[iv i0, iv i1, iv (1 : Int32), .val .null, rv w15, .unset]) rfl (XS.aload X396.here hx rfl (hb hby at_31) rfl rfl k))) ?_
    show own_Goes p e below (T396.setTop (mkF m 33 #[iv i0, iv i1, iv (1 : Int32), .val .null, rv w15, .unset] [(.ref w15)])) _
    obtain ⟨_, T409, _, X409, hQ409, st409⟩ := own_cv X396 hx hZ hown (wd hw 9 rfl) (wd hw 10 rfl) (wd hw 12 rfl) (wd hw 11 rfl) (wd hw 13 rfl) (wd hw 2 rfl) (by decide) (rm27 l Z a0 hw [] w15 w17 h0 n0 O0 S_Tertium_ABSENT SN_w17_w15 SE_w15) hh408 (SE_w15.ext O0.2) (g := (mkF m 33 #[iv i0, iv i1, iv (1 : Int32), .val .null, rv w15, .unset] [(.ref w15)])) rfl (by rw [hml]; rfl) (rest := []) (W := 0) (lenOf pd_6 rfl) rfl (by show 2 * 0 + _ ≤ _; exact Nat.le_of_eq rfl) (hb hby at_33) (by decide) (by decide) (by decide) (by decide)
    obtain ⟨rfl, Nq409, hh421⟩ := hQ409
    have N409 := Fr.app N396 Nq409
    refine own_via (fun t k => st409 t (XS.ifNo X409.here hx rfl (hb hby at_36) rfl ((if0 _ _).trans (feq (by decide : ¬ ((1 : Int32) = (0 : Int32)))).1) (XS.aload X409.here hx rfl (hb hby at_39) rfl rfl k))) ?_
    show own_Goes p e below (T409.setTop (mkF m 41 #[iv i0, iv i1, iv (1 : Int32), .val .null, rv w15, .unset] [(.ref w15)])) _
    obtain ⟨_, T422, _, X422, hQ422, st422⟩ := own_cv X409 hx hZ hown (wd hw 21 rfl) (wd hw 15 rfl) (wd hw 17 rfl) (wd hw 16 rfl) (wd hw 18 rfl) (wd hw 2 rfl) (by decide) (rm26 l Z a0 hw [] w15 w17 h0 n0 O0 S_Tertium_ABSENT SN_w17_w15) hh421 (SE_w15.ext O0.2) (g := (mkF m 41 #[iv i0, iv i1, iv (1 : Int32), .val .null, rv w15, .unset] [(.ref w15)])) rfl (by rw [hml]; rfl) (rest := []) (W := 0) (lenOf pd_6 rfl) rfl (by show 2 * 0 + _ ≤ _; exact Nat.le_of_eq rfl) (hb hby at_41) (by decide) (by decide) (by decide) (by decide)
    obtain ⟨rfl, Nq422, hh423⟩ := hQ422
    have N422 := Fr.app N409 Nq422
    refine own_via (fun t k => st422 t (XS.ifYes X422.here hx rfl (pc0 := 44) (pc' := 49) rfl (hb hby at_44) rfl ((if0 _ _).trans (teq (by decide : (0 : Int32) = (0 : Int32))).1) (by decide) (by decide) (XS.aload X422.here hx rfl (hb hby at_49) rfl rfl k))) ?_
    show own_Goes p e below (T422.setTop (mkF m 51 #[iv i0, iv i1, iv (1 : Int32), .val .null, rv w15, .unset] [(.ref w15)])) _
    obtain ⟨_, T424, _, X424, hQ424, st424⟩ := own_cv X422 hx hZ hown (wd hw 22 rfl) (wd hw 23 rfl) (wd hw 25 rfl) (wd hw 24 rfl) (wd hw 26 rfl) (wd hw 2 rfl) (by decide) (rm28 l Z a0 hw [] w15 h0 n0 O0 S_Tertium_NULL) hh423 (SE_w15.ext O0.2) (g := (mkF m 51 #[iv i0, iv i1, iv (1 : Int32), .val .null, rv w15, .unset] [(.ref w15)])) rfl (by rw [hml]; rfl) (rest := []) (W := 0) (lenOf pd_6 rfl) rfl (by show 2 * 0 + _ ≤ _; exact Nat.le_of_eq rfl) (hb hby at_51) (by decide) (by decide) (by decide) (by decide)
    obtain ⟨rfl, Nq424, hh430⟩ := hQ424
    have N424 := Fr.app N422 Nq424
    refine own_via (fun t k => st424 t (XS.iloadN X424.here hx rfl (hb hby at_54) rfl (XS.icmpYes X424.here hx rfl (pc0 := 55) (pc' := 60) rfl (hb hby at_55) rfl (teq (by decide : (1 : Int32) = (1 : Int32))).1 (by decide) (by decide) (XS.aload X424.here hx rfl (hb hby at_60) rfl rfl k)))) ?_
    show own_Goes p e below (T424.setTop (mkF m 62 #[iv i0, iv i1, iv (1 : Int32), .val .null, rv w15, .unset] [(.ref w15)])) _
    obtain ⟨_, T431, _, X431, hQ431, st431⟩ := own_cv X424 hx hZ hown (wd hw 27 rfl) (wd hw 28 rfl) (wd hw 30 rfl) (wd hw 29 rfl) (wd hw 31 rfl) (wd hw 2 rfl) (by decide) (rm30 l Z a0 hw [] w15 h0 n0 O0 SF_w15_value SE_w15) hh430 (SE_w15.ext O0.2) (g := (mkF m 62 #[iv i0, iv i1, iv (1 : Int32), .val .null, rv w15, .unset] [(.ref w15)])) rfl (by rw [hml]; rfl) (rest := []) (W := 0) (lenOf pd_6 rfl) rfl (by show 2 * 0 + _ ≤ _; exact Nat.le_of_eq rfl) (hb hby at_62) (by decide) (by decide) (by decide) (by decide)
    obtain ⟨rfl, Nq431, hh443⟩ := hQ431
    have N431 := Fr.app N424 Nq431
    refine own_via (fun t k => st431 t (XS.iloadN X431.here hx rfl (hb hby at_65) rfl (XS.icmpYes X431.here hx rfl (pc0 := 66) (pc' := 71) rfl (hb hby at_66) rfl (feq (by decide : ¬ ((0 : Int32) = (1 : Int32)))).2 (by decide) (by decide) (XS.aload X431.here hx rfl (hb hby at_71) rfl rfl k)))) ?_
    show own_Goes p e below (T431.setTop (mkF m 73 #[iv i0, iv i1, iv (1 : Int32), .val .null, rv w15, .unset] [(.ref w15)])) _
    obtain ⟨_, T444, _, X444, hQ444, st444⟩ := own_cv X431 hx hZ hown (wd hw 39 rfl) (wd hw 40 rfl) (wd hw 42 rfl) (wd hw 41 rfl) (wd hw 43 rfl) (wd hw 2 rfl) (by decide) (rm31 l Z a0 hw [] w15 w17 h0 n0 O0 S_Tertium_ABSENT SN_w17_w15 SE_w15 SF_w15_value) hh443 (SE_w15.ext O0.2) (g := (mkF m 73 #[iv i0, iv i1, iv (1 : Int32), .val .null, rv w15, .unset] [(.ref w15)])) rfl (by rw [hml]; rfl) (rest := []) (W := 0) (lenOf pd_7 rfl) rfl (by show 2 * 0 + _ ≤ _; exact Nat.le_of_eq rfl) (hb hby at_73) (by decide) (by decide) (by decide) (by decide)
    obtain ⟨rfl, Nq444, hh452⟩ := hQ444
    have N444 := Fr.app N431 Nq444
    refine own_via (fun t k => st444 t k) ?_
    refine own_via (fun t k => X444.checkcastNull hx (g := (mkF m 76 #[iv i0, iv i1, iv (1 : Int32), .val .null, rv w15, .unset] [.null])) rfl rfl (hb hby at_76) t k) ?_
    show own_Goes p e below (T444.setTop (mkF m 79 #[iv i0, iv i1, iv (1 : Int32), .val .null, rv w15, .unset] [.null])) _
    refine own_via (fun t k => XS.astore X444.here hx rfl (hb hby at_79) rfl rfl (l' := #[iv i0, iv i1, iv (1 : Int32), .val .null, rv w15, .val .null]) rfl (XS.iloadN X444.here hx rfl (hb hby at_81) rfl (XS.ifNo X444.here hx rfl (hb hby at_82) rfl ((if0 _ _).trans (feq (by decide : ¬ ((1 : Int32) = (0 : Int32)))).1) (XS.aload X444.here hx rfl (hb hby at_85) rfl rfl (XS.ifnonnullNo X444.here hx rfl (hb hby at_87) rfl (XS.aload X444.here hx rfl (hb hby at_90) rfl rfl k)))))) ?_
    show own_Goes p e below (T444.setTop (mkF m 92 #[iv i0, iv i1, iv (1 : Int32), .val .null, rv w15, .val .null] [(.ref w15)])) _
    obtain ⟨_, T453, _, X453, hQ453, st453⟩ := own_cs X444 hx hZ hown (wd hw 44 rfl) (wd hw 5 rfl) (wd hw 6 rfl) (wd hw 2 rfl) (by decide) (rm24 l Z a0 hw [] w15 h0 n0 O0 S_Tertium_NULL) hh452 (g := (mkF m 92 #[iv i0, iv i1, iv (1 : Int32), .val .null, rv w15, .val .null] [(.ref w15)])) rfl (by rw [hml]; rfl) (rest := [(.ref w15)]) (W := 1) (lenOf pd_10 rfl) rfl (by show 2 * 0 + _ ≤ _; exact Nat.le_of_eq rfl) (hb hby at_92) (by decide) (by decide) (by decide) (by decide)
    obtain ⟨rfl, Nq453, hh454⟩ := hQ453
    have N453 := Fr.app N444 Nq453
    refine own_via (fun t k => st453 t k) ?_
    obtain ⟨_, T455, _, X455, hQ455, st455⟩ := own_cv X453 hx hZ hown (wd hw 45 rfl) (wd hw 46 rfl) (wd hw 48 rfl) (wd hw 47 rfl) (wd hw 49 rfl) (wd hw 2 rfl) (by decide) (rm33 l Z a0 hw [] w15 h0 n0 O0 SE_w15 SF_w15_value) hh454 (SE_w15.ext O0.2) (g := (mkF m 95 #[iv i0, iv i1, iv (1 : Int32), .val .null, rv w15, .val .null] [(.ref w15), (.ref w15)])) rfl (by rw [hml]; rfl) (rest := []) (W := 0) (lenOf pd_12 rfl) rfl (by show 2 * 0 + _ ≤ _; exact Nat.le_of_eq rfl) (hb hby at_95) (by decide) (by decide) (by decide) (by decide)
    obtain ⟨rfl, Nq455, hh473⟩ := hQ455
    have N455 := Fr.app N453 Nq455
    refine own_via (fun t k => st455 t (XS.ifNo X455.here hx rfl (hb hby at_98) rfl ((if0 _ _).trans (feq (by decide : ¬ ((1 : Int32) = (0 : Int32)))).1) (XS.iconst X455.here hx rfl (hb hby at_101) (XS.goto X455.here hx rfl (pc0 := 102) (pc' := 106) rfl (hb hby at_102) (by decide) (by decide) k)))) ?_
    show own_Goes p e below (T455.setTop (mkF m 106 #[iv i0, iv i1, iv (1 : Int32), .val .null, rv w15, .val .null] [(.int (1 : Int32))])) _
    obtain ⟨fs, hr, hrun, hended, hW, hsame⟩ := X455.leave (v := some (.int (1 : Int32))) (fun h => by rw [Bd.returns] at h; cases h)
    refine own_end (t := T455.setFrames fs) ?_ ⟨_, hrun, hended, _, _, rfl, ?_, ⟨_, rfl⟩, hW, hsame.mono (by decide) (by decide)⟩
    · exact retN X455 hx (t := .boolean) Bd.returns (by simp) (hb hby at_106) hr
    · exact ⟨rfl, N455⟩
set_option maxRecDepth 65536 in
set_option maxHeartbeats 40000000 in
theorem comes_1 {Post : Tables → Env → Array Value → State → Outcome → State → Prop} (hpost : ∀ tb e args s v u, (limb_1_1.after args s (.returned v) u = true ∧ limb_1_2.after args s (.returned v) u = true ∧ True) → FrameEnd s (.returned v) u (Jvm.fieldLocs frame_1_writes args s ++ Jvm.arrayLocs frame_1_arrays args s ++ Jvm.staticLocs frame_1_statics s) 16 128 → Post tb e args s (.returned v) u) :
    ArmFor flags0 classFile x code maxLocals ret World_1 tables_1 room_1 Calls_1 rest_1 Pre_1 Post := by
  intro l hfl _ _ p e ha hc hk s m args below hf hA hF happ hP
  obtain ⟨hcalls, hrest, hpre⟩ := hP
  obtain ⟨-, -, -, hnamed, -, -, -, hat⟩ := (Spec.applies_iff hf).mp happ
  obtain ⟨hg, hn⟩ := and_e (Cond.before_iff.mp (show (Jvm.Cond.and given_1 narrow_1).before args s = true from hpre))
  obtain ⟨g474, g475⟩ := and_e hg
  obtain ⟨g476, g477⟩ := and_e g475
  obtain ⟨w0, w1, rfl⟩ : ∃ w0 w1 : Value, args = #[w0, w1] := by
    have hs : args.size = 2 := by simpa [Cond.value, given_1] using g474
    obtain ⟨L⟩ := args
    match L, hs with
    | [w0, w1], _ => exact ⟨w0, w1, rfl⟩
  have hw := fun d (hd : d ∈ tables_1) => atoms_spec (ws := Jvm.Cond.code x code maxLocals ret :: tables_1) hat d (List.mem_cons_of_mem _ hd)
  have hfit : Fit s := fun {y c} hc i hi => by
    obtain ⟨ha, rfl⟩ := Array.getElem?_eq_some_iff.mp hc
    have q := List.all_eq_true.mp ((Array.all_eq_true_iff_forall_mem.mp hF) _ (Array.getElem_mem ha)) i (List.mem_range.mpr hi)
    simpa [Array.getElem?_eq_getElem hi] using q
  obtain ⟨hsets, hown0⟩ := atoms_of _ (rest_1_c_eq ▸ (show rest_1_c.before _ s = true from hrest))
  obtain ⟨n1, n2⟩ := and_e hn
  obtain ⟨n3, n4⟩ := and_e n2
  obtain ⟨n5, n6⟩ := and_e n4
  have u7 := Cond.before_iff.mp (hsets _ (List.mem_of_getElem? (i := 0) rfl))
  have u8 := Cond.before_iff.mp (hsets _ (List.mem_of_getElem? (i := 1) rfl))
  have u9 := Cond.before_iff.mp (hsets _ (List.mem_of_getElem? (i := 2) rfl))
  have u10 := Cond.before_iff.mp (hsets _ (List.mem_of_getElem? (i := 3) rfl))
  have u11 := Cond.before_iff.mp (hsets _ (List.mem_of_getElem? (i := 4) rfl))
  have u12 := Cond.before_iff.mp (hsets _ (List.mem_of_getElem? (i := 5) rfl))
  have u13 := Cond.before_iff.mp (hsets _ (List.mem_of_getElem? (i := 6) rfl))
  have u14 := Cond.before_iff.mp (hsets _ (List.mem_of_getElem? (i := 7) rfl))
  obtain ⟨w15, ev16⟩ := exa_v n1
  have S_Tertium_NULL : Sta s s.heap zs1 "NULL" zs4 (.ref w15) := Sta.start ev16 (Or.inr ⟨(wd hw 2 rfl), (wd hw 8 rfl)⟩)
  have SE_w15 : Exa s s.heap w15 zs1 := Exa.start ev16 n1
  obtain ⟨w17, ev18⟩ := exa_v n3
  have S_Tertium_ABSENT : Sta s s.heap zs1 "ABSENT" zs4 (.ref w17) := Sta.start ev18 (Or.inr ⟨(wd hw 2 rfl), (wd hw 20 rfl)⟩)
  have SE_w17 : Exa s s.heap w17 zs1 := Exa.start ev18 n3
  have SN_w17_w15 : w17 ≠ w15 := own_ne_ref n5 ev18 ev16
  have ev19 := null_v n6
  have SF_w15_value : Fld s s.heap w15 zs1 "value" zs3 .null := Fld.start ((fld_at ev16).symm.trans ev19)
  have ev20 := Cond.eq_int (show (Jvm.Cond.eq _ _).holds _ _ _ _ _ = true from Cond.before_iff.mpr u10) rfl
  have S_Integer_IntegerCache_high : Sta s s.heap zs7 "high" "I" (.int (127 : Int32)) := Sta.start ev20 (Or.inl (hsets _ (List.mem_of_getElem? (i := 1) rfl)))
  obtain ⟨w21, ev22⟩ := arr_v u11
  have S_Integer_IntegerCache_cache : Sta s s.heap zs7 "cache" zs11 (.ref w21) := Sta.start ev22 (Or.inl (own_initFor (hsets _ (List.mem_of_getElem? (i := 0) rfl)) (hsets _ (List.mem_of_getElem? (i := 1) rfl)) (hsets _ (List.mem_of_getElem? (i := 2) rfl))))
  obtain ⟨cl23, Acl23⟩ := Arr.start ev22 u11
  have SE_w21 : Exa s s.heap w21 zs11 := Exa.start ev22 u12
  have BX_w21 : Bxs s w21 cl23 zs2 "I" (256 : Int32) (fun j => .int (j - (128 : Int32))) := Bxs.start (fun _ => ev22) Acl23 (own_len31 ev22 Acl23 u13).1 (own_len31 ev22 Acl23 u13).2 (by decide) u14 (fun X j hj q => eqv_i (own_sub_at (idx_at hj)) q)
  obtain ⟨i0, ei0⟩ := is_v g476
  obtain rfl : w0 = (.int i0) := Option.some.inj ei0
  obtain ⟨i1, ei1⟩ := is_v g477
  obtain rfl : w1 = (.int i1) := Option.some.inj ei1
  obtain ⟨n, o, h1, h2, h3, _, L, rfl, ⟨rfl, N⟩, hq⟩ := rm0 l s _ hw tables_1 i0 i1 w21 cl23 w17 w15 s.heap s.heap.size (Old.start s) S_Integer_IntegerCache_high S_Integer_IntegerCache_cache BX_w21 S_Tertium_ABSENT SE_w17 S_Tertium_NULL SE_w15 SN_w17_w15 SF_w15_value p e ha hc hk s m _ below hf ((Spec.applies_iff_loose hf).mp happ).1 ⟨rfl, State.Warmed39.refl s, rfl⟩ trivial
  refine ⟨n, _, h1, h2, h3, hpost _ _ _ _ _ _ ⟨Cond.after_iff.mpr rfl, Cond.after_iff.mpr (eq_i res_at (Term.int_eval (1)) rfl), trivial⟩ ⟨hq.1, hq.2.1, (hq.2.2.sift fun y hy => Or.inr (N y hy)).mono (by decide) (by decide)⟩⟩
theorem main_1_1 : Claimed_1_1 := comes_1 fun _ _ _ _ _ _ h hF => ⟨h.1, RoadKit.wide hF⟩
theorem main_1_2 : Claimed_1_2 := comes_1 fun _ _ _ _ _ _ h hF => ⟨h.2.1, RoadKit.wide hF⟩
end Jvm.Pilot.@@N@@
namespace Jvm.Pilot.@@N@@
open Jvm Jvm.ClassFile Sem Op Lib Jvm.Free Jvm.Stand Jvm.Pilot.@@N@@.Jvm.D
/-! MADE BY PROGRAM (witnessworld.py) out of the Statement's table words and the real class files: 18 classes; the members and pool entries that the words name. The judged class is class 1, her method 1. -/
namespace start1
open Jvm.ClassFile
def u (s : String) : CpInfo := .utf8 (stringToUtf16 s)
/-- a pool by its gaps: so many unusable entries, then the entry; so many at the end -/
def gap : Nat → List CpInfo → List CpInfo
  | 0, r => r
  | n + 1, r => .unusable :: gap n r
def poolList (es : List (Nat × CpInfo)) (last : Nat) : List CpInfo := es.foldr (fun e r => gap e.1 (e.2 :: r)) (gap last [])
def pool (es : List (Nat × CpInfo)) (last : Nat) : Array CpInfo := ⟨poolList es last⟩
def fileOf (pool : Array CpInfo) (this : Nat) (attrs : Array Attribute := #[]) (ms : Array MethodInfo := #[]) (fl : Nat := 33) (sup : Nat := 0) (ifs : Array Nat := #[]) (fds : Array FieldInfo := #[]) : ClassFile where
  minorVersion := 0
  majorVersion := 65
  constantPool := pool
  accessFlags := fl
  thisClass := this
  superClass := sup
  interfaces := ifs
  fields := fds
  methods := ms
  attributes := attrs
def plain (name : String) (sup : Option ClassId) : Class where
  name := name
  kind := .ordinary
  loader := none
  accessFlags := 33
  super := sup
  interfaces := #[]
  cf := none
  fields := #[]
  methods := #[]
  instanceTypes := #[]
  staticTypes := #[]
  resolved := #[]
  callSites := []
  init := .initialized
  statics := none
  mirror := none

def pool0 : Array CpInfo := pool [(5, u "<init>"), (0, u "()V"), (1, .class_ 10), (1, u "java/lang/Object"), (16, u "hashCode"), (0, u "()I"), (63, u "equals"), (0, u "(Ljava/lang/Object;)Z")] 30

def k0c0 : Code := { maxStack := 0, maxLocals := 1, code := object_method_1_code, exceptionTable := #[], attributes := #[] }
def k0m0 : Method := { name := "<init>", desc := "()V", sig := { parameters := [], returnType := none }, accessFlags := 1, code := some k0c0 }
def k0m1 : Method := { name := "hashCode", desc := "()I", sig := { parameters := [], returnType := some .int }, accessFlags := 257, code := none }
def k0c2 : Code := { maxStack := 2, maxLocals := 2, code := ⟨#[0x2a, 0x2b, 0xa6, 0x00, 0x07, 0x04, 0xa7, 0x00, 0x04, 0x03, 0xac]⟩, exceptionTable := #[], attributes := #[] }
def k0m2 : Method := { name := "equals", desc := "(Ljava/lang/Object;)Z", sig := { parameters := [(.object "java/lang/Object")], returnType := some .boolean }, accessFlags := 1, code := some k0c2 }
/-- java/lang/Object -/
def k0 : Class := { plain "java/lang/Object" none with
  accessFlags := 33
  interfaces := #[]
  cf := some (fileOf pool0 8 #[] #[{ accessFlags := 1, nameIndex := 5, descriptorIndex := 6, attributes := #[] }, { accessFlags := 257, nameIndex := 27, descriptorIndex := 28, attributes := #[] }, { accessFlags := 1, nameIndex := 92, descriptorIndex := 93, attributes := #[] }] 33 0 #[] #[])
  fields := #[]
  methods := #[k0m0, k0m1, k0m2]
  instanceTypes := #[]
  staticTypes := #[]
  resolved := Array.replicate 124 none
  statics := none }

def pool1 : Array CpInfo := pool [(2, .class_ 4), (1, u "java/lang/Object"), (0, u "<init>"), (0, u "()V"), (0, .methodref 8 9), (0, .class_ 10), (0, .nameAndType 11 12), (0, u "java/lang/Integer"), (0, u "valueOf"), (0, u "(I)Ljava/lang/Integer;"), (0, .methodref 14 15), (0, .class_ 16), (0, .nameAndType 17 18), (0, u "tertium/Tertium"), (0, u "of"), (0, u "(Ljava/lang/Object;)Ltertium/Tertium;"), (0, .methodref 14 20), (0, .nameAndType 21 22), (0, u "isPresent"), (0, u "()Z"), (0, .methodref 14 24), (0, .nameAndType 25 22), (0, u "isAbsent"), (0, .methodref 14 27), (0, .nameAndType 28 22), (0, u "isNull"), (0, .methodref 14 30), (0, .nameAndType 31 22), (0, u "isNotNull"), (0, .methodref 14 33), (0, .nameAndType 34 35), (0, u "get"), (0, u "()Ljava/lang/Object;"), (0, .methodref 14 37), (0, .nameAndType 38 39), (0, u "ofNull"), (0, u "()Ltertium/Tertium;"), (0, .methodref 14 41), (0, .nameAndType 42 43), (0, u "equals"), (0, u "(Ljava/lang/Object;)Z"), (0, .methodref 8 45), (0, .nameAndType 46 47), (0, u "intValue"), (0, u "()I"), (0, .methodref 14 49), (0, .nameAndType 50 47), (0, u "hashCode"), (0, .class_ 52), (0, u "tertium/TertiumOfPinLaw"), (2, u "law"), (0, u "(II)Z")] 3

def k1m0 : Method := { name := "<init>", desc := "()V", sig := { parameters := [], returnType := none }, accessFlags := 1, code := none }
def k1c1 : Code := { maxStack := 2, maxLocals := 6, code := code, exceptionTable := #[], attributes := #[] }
def k1m1 : Method := { name := "law", desc := "(II)Z", sig := { parameters := [.int, .int], returnType := some .boolean }, accessFlags := 9, code := some k1c1 }
/-- tertium/TertiumOfPinLaw -/
def k1 : Class := { plain "tertium/TertiumOfPinLaw" (some 0) with
  accessFlags := 49
  interfaces := #[]
  cf := some (fileOf pool1 51 #[] #[{ accessFlags := 1, nameIndex := 5, descriptorIndex := 6, attributes := #[] }, { accessFlags := 9, nameIndex := 55, descriptorIndex := 56, attributes := #[] }] 49 2 #[] #[])
  fields := #[]
  methods := #[k1m0, k1m1]
  instanceTypes := #[]
  staticTypes := #[]
  resolved := Array.replicate 60 none
  statics := none }

def pool2 : Array CpInfo := pool [(1, .methodref 2 3), (0, .class_ 4), (0, .nameAndType 5 6), (0, u "java/lang/Object"), (0, u "<init>"), (0, u "()V"), (0, .fieldref 8 9), (0, .class_ 10), (0, .nameAndType 11 12), (0, u "tertium/Tertium"), (0, u "value"), (0, u "Ljava/lang/Object;"), (0, .fieldref 8 14), (0, .nameAndType 15 16), (0, u "ABSENT"), (0, u "Ltertium/Tertium;"), (0, .fieldref 8 18), (0, .nameAndType 19 16), (0, u "NULL"), (0, .methodref 8 21), (0, .nameAndType 22 23), (0, u "ofNull"), (0, u "()Ltertium/Tertium;"), (0, .methodref 8 25), (0, .nameAndType 5 26), (0, u "(Ljava/lang/Object;)V"), (12, u "isPresent"), (0, u "()Z"), (2, u "get"), (0, u "()Ljava/lang/Object;"), (2, u "of"), (0, u "(Ljava/lang/Object;)Ltertium/Tertium;"), (20, u "(Ljava/lang/Object;)Z"), (0, .methodref 8 71), (0, .nameAndType 72 40), (0, u "isAbsent"), (0, .methodref 8 74), (0, .nameAndType 75 40), (0, u "isNullOrAbsent"), (47, u "isNotNull"), (16, .methodref 8 141), (0, .nameAndType 142 40), (0, u "isNull"), (2, u "NESTED_NULL"), (0, u "Ljava/util/Optional;"), (8, u "test"), (27, u "equals"), (0, u "(Ljava/lang/Object;Ljava/lang/Object;)Z"), (2, .methodref 8 188), (0, .nameAndType 189 190), (0, u "sameStateAndValue"), (0, u "(Ltertium/Tertium;Ltertium/Tertium;Ljava/util/function/BiPredicate;)Z"), (0, .invokeDynamic 3 192), (0, .nameAndType 155 193), (0, u "()Ljava/util/function/BiPredicate;"), (0, .integer 625341585), (0, .integer 1821285621), (0, .methodref 2 197), (0, .nameAndType 198 199), (0, u "hashCode"), (0, u "()I"), (20, u "ABSENT_HASH"), (0, u "I"), (1, u "NULL_HASH"), (73, .methodType 184), (0, .methodHandle 5 299), (0, .methodref 2 300), (0, .nameAndType 183 69), (2, .methodHandle 6 304), (0, .methodref 305 306), (0, .class_ 307), (0, .nameAndType 308 309), (0, u "java/lang/invoke/LambdaMetafactory"), (0, u "metafactory"), (0, u "(Ljava/lang/invoke/MethodHandles$Lookup;Ljava/lang/String;Ljava/lang/invoke/MethodType;Ljava/lang/invoke/MethodType;Ljava/lang/invoke/MethodHandle;Ljava/lang/invoke/MethodType;)Ljava/lang/invoke/CallSite;")] 12

def k2c0 : Code := { maxStack := 2, maxLocals := 2, code := prog_1_method_1_code, exceptionTable := #[], attributes := #[] }
def k2m0 : Method := { name := "<init>", desc := "(Ljava/lang/Object;)V", sig := { parameters := [(.object "java/lang/Object")], returnType := none }, accessFlags := 2, code := some k2c0 }
def k2c1 : Code := { maxStack := 1, maxLocals := 0, code := prog_1_method_3_code, exceptionTable := #[], attributes := #[] }
def k2m1 : Method := { name := "ofNull", desc := "()Ltertium/Tertium;", sig := { parameters := [], returnType := some (.object "tertium/Tertium") }, accessFlags := 9, code := some k2c1 }
def k2c2 : Code := { maxStack := 3, maxLocals := 1, code := prog_1_method_4_code, exceptionTable := #[], attributes := #[] }
def k2m2 : Method := { name := "of", desc := "(Ljava/lang/Object;)Ltertium/Tertium;", sig := { parameters := [(.object "java/lang/Object")], returnType := some (.object "tertium/Tertium") }, accessFlags := 9, code := some k2c2 }
def k2c3 : Code := { maxStack := 1, maxLocals := 1, code := prog_1_method_8_code, exceptionTable := #[], attributes := #[] }
def k2m3 : Method := { name := "isPresent", desc := "()Z", sig := { parameters := [], returnType := some .boolean }, accessFlags := 1, code := some k2c3 }
def k2c4 : Code := { maxStack := 2, maxLocals := 1, code := prog_1_method_9_code, exceptionTable := #[], attributes := #[] }
def k2m4 : Method := { name := "isAbsent", desc := "()Z", sig := { parameters := [], returnType := some .boolean }, accessFlags := 1, code := some k2c4 }
def k2c5 : Code := { maxStack := 2, maxLocals := 1, code := prog_1_method_11_code, exceptionTable := #[], attributes := #[] }
def k2m5 : Method := { name := "isNull", desc := "()Z", sig := { parameters := [], returnType := some .boolean }, accessFlags := 1, code := some k2c5 }
def k2c6 : Code := { maxStack := 1, maxLocals := 1, code := prog_1_method_12_code, exceptionTable := #[], attributes := #[] }
def k2m6 : Method := { name := "isNotNull", desc := "()Z", sig := { parameters := [], returnType := some .boolean }, accessFlags := 1, code := some k2c6 }
def k2c7 : Code := { maxStack := 1, maxLocals := 1, code := prog_1_method_13_code, exceptionTable := #[], attributes := #[] }
def k2m7 : Method := { name := "isNullOrAbsent", desc := "()Z", sig := { parameters := [], returnType := some .boolean }, accessFlags := 1, code := some k2c7 }
def k2c8 : Code := { maxStack := 3, maxLocals := 1, code := prog_1_method_14_code, exceptionTable := #[], attributes := #[] }
def k2m8 : Method := { name := "get", desc := "()Ljava/lang/Object;", sig := { parameters := [], returnType := some (.object "java/lang/Object") }, accessFlags := 1, code := some k2c8 }
def k2c9 : Code := { maxStack := 3, maxLocals := 3, code := prog_1_method_34_code, exceptionTable := #[], attributes := #[] }
def k2m9 : Method := { name := "equals", desc := "(Ljava/lang/Object;)Z", sig := { parameters := [(.object "java/lang/Object")], returnType := some .boolean }, accessFlags := 1, code := some k2c9 }
def k2c10 : Code := { maxStack := 1, maxLocals := 1, code := prog_1_method_35_code, exceptionTable := #[], attributes := #[] }
def k2m10 : Method := { name := "hashCode", desc := "()I", sig := { parameters := [], returnType := some .int }, accessFlags := 1, code := some k2c10 }
def k2c11 : Code := { maxStack := 3, maxLocals := 3, code := prog_1_method_37_code, exceptionTable := #[], attributes := #[] }
def k2m11 : Method := { name := "sameStateAndValue", desc := "(Ltertium/Tertium;Ltertium/Tertium;Ljava/util/function/BiPredicate;)Z", sig := { parameters := [(.object "tertium/Tertium"), (.object "tertium/Tertium"), (.object "java/util/function/BiPredicate")], returnType := some .boolean }, accessFlags := 10, code := some k2c11 }
/-- tertium/Tertium -/
def k2 : Class := { plain "tertium/Tertium" (some 0) with
  accessFlags := 49
  interfaces := #[]
  cf := some (fileOf pool2 8 #[.bootstrapMethods #[⟨0, #[]⟩, ⟨0, #[]⟩, ⟨0, #[]⟩, ⟨303, #[297, 298, 297]⟩, ⟨0, #[]⟩]] #[{ accessFlags := 2, nameIndex := 5, descriptorIndex := 26, attributes := #[] }, { accessFlags := 9, nameIndex := 22, descriptorIndex := 23, attributes := #[] }, { accessFlags := 9, nameIndex := 47, descriptorIndex := 48, attributes := #[] }, { accessFlags := 1, nameIndex := 39, descriptorIndex := 40, attributes := #[] }, { accessFlags := 1, nameIndex := 72, descriptorIndex := 40, attributes := #[] }, { accessFlags := 1, nameIndex := 142, descriptorIndex := 40, attributes := #[] }, { accessFlags := 1, nameIndex := 123, descriptorIndex := 40, attributes := #[] }, { accessFlags := 1, nameIndex := 75, descriptorIndex := 40, attributes := #[] }, { accessFlags := 1, nameIndex := 43, descriptorIndex := 44, attributes := #[] }, { accessFlags := 1, nameIndex := 183, descriptorIndex := 69, attributes := #[] }, { accessFlags := 1, nameIndex := 198, descriptorIndex := 199, attributes := #[] }, { accessFlags := 10, nameIndex := 189, descriptorIndex := 190, attributes := #[] }] 49 2 #[] #[{ accessFlags := 26, nameIndex := 15, descriptorIndex := 16, attributes := #[] }, { accessFlags := 26, nameIndex := 19, descriptorIndex := 16, attributes := #[] }, { accessFlags := 26, nameIndex := 220, descriptorIndex := 221, attributes := #[] }, { accessFlags := 26, nameIndex := 223, descriptorIndex := 221, attributes := #[] }, { accessFlags := 26, nameIndex := 145, descriptorIndex := 146, attributes := #[] }, { accessFlags := 18, nameIndex := 11, descriptorIndex := 12, attributes := #[] }])
  fields := #[{ name := "ABSENT", type := (.object "tertium/Tertium"), accessFlags := 26, slot := 0, constantValue := 0 }, { name := "NULL", type := (.object "tertium/Tertium"), accessFlags := 26, slot := 1, constantValue := 0 }, { name := "ABSENT_HASH", type := .int, accessFlags := 26, slot := 2, constantValue := 0 }, { name := "NULL_HASH", type := .int, accessFlags := 26, slot := 3, constantValue := 0 }, { name := "NESTED_NULL", type := (.object "java/util/Optional"), accessFlags := 26, slot := 4, constantValue := 0 }, { name := "value", type := (.object "java/lang/Object"), accessFlags := 18, slot := 0, constantValue := 0 }]
  methods := #[k2m0, k2m1, k2m2, k2m3, k2m4, k2m5, k2m6, k2m7, k2m8, k2m9, k2m10, k2m11]
  instanceTypes := #[(.object "java/lang/Object")]
  staticTypes := #[(.object "tertium/Tertium"), (.object "tertium/Tertium"), .int, .int, (.object "java/util/Optional")]
  resolved := Array.replicate 322 none
  callSites := [(9, 14, .constant 2)]
  statics := some 0 }

def pool3 : Array CpInfo := pool [(9, u "test"), (6, .class_ 18), (1, u "java/util/function/BiPredicate"), (0, u "(Ljava/lang/Object;Ljava/lang/Object;)Z"), (0, .class_ 21), (0, u "java/lang/Object")] 54

def k3m0 : Method := { name := "test", desc := "(Ljava/lang/Object;Ljava/lang/Object;)Z", sig := { parameters := [(.object "java/lang/Object"), (.object "java/lang/Object")], returnType := some .boolean }, accessFlags := 1025, code := none }
/-- java/util/function/BiPredicate -/
def k3 : Class := { plain "java/util/function/BiPredicate" (some 0) with
  accessFlags := 1537
  interfaces := #[]
  cf := some (fileOf pool3 16 #[] #[{ accessFlags := 1025, nameIndex := 9, descriptorIndex := 19, attributes := #[] }] 1537 20 #[] #[])
  fields := #[]
  methods := #[k3m0]
  instanceTypes := #[]
  staticTypes := #[]
  resolved := Array.replicate 76 none
  statics := none }

def pool4 : Array CpInfo := pool [(1, .class_ 2), (0, u "java/io/Serializable"), (0, .class_ 4), (0, u "java/lang/Object")] 2

/-- java/io/Serializable -/
def k4 : Class := { plain "java/io/Serializable" (some 0) with
  accessFlags := 1537
  interfaces := #[]
  cf := some (fileOf pool4 1 #[] #[] 1537 3 #[] #[])
  fields := #[]
  methods := #[]
  instanceTypes := #[]
  staticTypes := #[]
  resolved := Array.replicate 7 none
  statics := none }

def pool5 : Array CpInfo := pool [(1, .methodref 2 3), (0, .class_ 4), (0, .nameAndType 5 6), (0, u "java/lang/Object"), (0, u "<init>"), (0, u "()V"), (1, .class_ 10), (1, u "java/lang/Number"), (2, .class_ 14), (0, u "java/io/Serializable"), (0, u "serialVersionUID"), (0, u "J")] 20

def k5c0 : Code := { maxStack := 1, maxLocals := 1, code := jdk_18_method_1_code, exceptionTable := #[], attributes := #[] }
def k5m0 : Method := { name := "<init>", desc := "()V", sig := { parameters := [], returnType := none }, accessFlags := 1, code := some k5c0 }
/-- java/lang/Number -/
def k5 : Class := { plain "java/lang/Number" (some 0) with
  accessFlags := 1057
  interfaces := #[4]
  cf := some (fileOf pool5 8 #[] #[{ accessFlags := 1, nameIndex := 5, descriptorIndex := 6, attributes := #[] }] 1057 2 #[13] #[{ accessFlags := 26, nameIndex := 15, descriptorIndex := 16, attributes := #[] }])
  fields := #[{ name := "serialVersionUID", type := .long, accessFlags := 26, slot := 0, constantValue := 0 }]
  methods := #[k5m0]
  instanceTypes := #[]
  staticTypes := #[.long]
  resolved := Array.replicate 37 none
  statics := none }

def pool6 : Array CpInfo := pool [(1, .class_ 2), (0, u "java/lang/Comparable"), (0, .class_ 4), (0, u "java/lang/Object")] 7

/-- java/lang/Comparable -/
def k6 : Class := { plain "java/lang/Comparable" (some 0) with
  accessFlags := 1537
  interfaces := #[]
  cf := some (fileOf pool6 1 #[] #[] 1537 3 #[] #[])
  fields := #[]
  methods := #[]
  instanceTypes := #[]
  staticTypes := #[]
  resolved := Array.replicate 12 none
  statics := none }

def pool7 : Array CpInfo := pool [(1, .class_ 2), (0, u "java/lang/constant/Constable"), (0, .class_ 4), (0, u "java/lang/Object")] 6

/-- java/lang/constant/Constable -/
def k7 : Class := { plain "java/lang/constant/Constable" (some 0) with
  accessFlags := 1537
  interfaces := #[]
  cf := some (fileOf pool7 1 #[] #[] 1537 3 #[] #[])
  fields := #[]
  methods := #[]
  instanceTypes := #[]
  staticTypes := #[]
  resolved := Array.replicate 11 none
  statics := none }

def pool8 : Array CpInfo := pool [(1, .class_ 2), (0, u "java/lang/constant/ConstantDesc"), (0, .class_ 4), (0, u "java/lang/Object")] 32

/-- java/lang/constant/ConstantDesc -/
def k8 : Class := { plain "java/lang/constant/ConstantDesc" (some 0) with
  accessFlags := 1537
  interfaces := #[]
  cf := some (fileOf pool8 1 #[] #[] 1537 3 #[] #[])
  fields := #[]
  methods := #[]
  instanceTypes := #[]
  staticTypes := #[]
  resolved := Array.replicate 37 none
  statics := none }

def pool9 : Array CpInfo := pool [(1, .class_ 2), (0, u "java/lang/Integer"), (16, u "digits"), (0, u "[C"), (33, u "(I)I"), (12, u "<init>"), (17, u "DigitOnes"), (0, u "[B"), (2, u "DigitTens"), (10, .nameAndType 67 101), (0, u "()V"), (19, u "()I"), (65, u "valueOf"), (0, u "(I)Ljava/lang/Integer;"), (0, .class_ 190), (0, u "java/lang/Integer$IntegerCache"), (0, .fieldref 189 192), (0, .nameAndType 193 194), (0, u "high"), (0, u "I"), (0, .fieldref 189 196), (0, .nameAndType 197 198), (0, u "cache"), (0, u "[Ljava/lang/Integer;"), (0, .methodref 1 200), (0, .nameAndType 67 201), (0, u "(I)V"), (0, .methodref 203 100), (0, .class_ 204), (0, u "java/lang/Number"), (0, .fieldref 1 206), (0, .nameAndType 207 194), (0, u "value"), (0, .methodref 1 209), (0, .nameAndType 210 54), (0, u "hashCode"), (2, u "intValue"), (88, u "TYPE"), (0, u "Ljava/lang/Class;"), (0, .class_ 305), (0, u "java/lang/Comparable"), (0, .class_ 307), (0, u "java/lang/constant/Constable"), (0, .class_ 309), (0, u "java/lang/constant/ConstantDesc"), (0, u "MIN_VALUE"), (1, u "MAX_VALUE"), (3, u "SIZE"), (1, u "BYTES"), (1, u "serialVersionUID"), (0, u "J")] 131

def k9c0 : Code := { maxStack := 3, maxLocals := 1, code := jdk_33_method_22_code, exceptionTable := #[], attributes := #[] }
def k9m0 : Method := { name := "valueOf", desc := "(I)Ljava/lang/Integer;", sig := { parameters := [.int], returnType := some (.object "java/lang/Integer") }, accessFlags := 9, code := some k9c0 }
def k9c1 : Code := { maxStack := 2, maxLocals := 2, code := jdk_33_method_23_code, exceptionTable := #[], attributes := #[] }
def k9m1 : Method := { name := "<init>", desc := "(I)V", sig := { parameters := [.int], returnType := none }, accessFlags := 1, code := some k9c1 }
def k9c2 : Code := { maxStack := 1, maxLocals := 1, code := jdk_33_method_27_code, exceptionTable := #[], attributes := #[] }
def k9m2 : Method := { name := "intValue", desc := "()I", sig := { parameters := [], returnType := some .int }, accessFlags := 1, code := some k9c2 }
def k9c3 : Code := { maxStack := 1, maxLocals := 1, code := jdk_33_method_32_code, exceptionTable := #[], attributes := #[] }
def k9m3 : Method := { name := "hashCode", desc := "()I", sig := { parameters := [], returnType := some .int }, accessFlags := 1, code := some k9c3 }
def k9c4 : Code := { maxStack := 1, maxLocals := 1, code := jdk_33_method_33_code, exceptionTable := #[], attributes := #[] }
def k9m4 : Method := { name := "hashCode", desc := "(I)I", sig := { parameters := [.int], returnType := some .int }, accessFlags := 9, code := some k9c4 }
/-- java/lang/Integer -/
def k9 : Class := { plain "java/lang/Integer" (some 5) with
  accessFlags := 49
  interfaces := #[6, 7, 8]
  cf := some (fileOf pool9 1 #[.nestMembers #[189]] #[{ accessFlags := 9, nameIndex := 187, descriptorIndex := 188, attributes := #[] }, { accessFlags := 1, nameIndex := 67, descriptorIndex := 201, attributes := #[] }, { accessFlags := 1, nameIndex := 213, descriptorIndex := 121, attributes := #[] }, { accessFlags := 1, nameIndex := 210, descriptorIndex := 121, attributes := #[] }, { accessFlags := 9, nameIndex := 210, descriptorIndex := 54, attributes := #[] }] 49 203 #[304, 306, 308] #[{ accessFlags := 25, nameIndex := 310, descriptorIndex := 194, attributes := #[] }, { accessFlags := 25, nameIndex := 312, descriptorIndex := 194, attributes := #[] }, { accessFlags := 25, nameIndex := 302, descriptorIndex := 303, attributes := #[] }, { accessFlags := 24, nameIndex := 19, descriptorIndex := 20, attributes := #[] }, { accessFlags := 24, nameIndex := 89, descriptorIndex := 86, attributes := #[] }, { accessFlags := 24, nameIndex := 85, descriptorIndex := 86, attributes := #[] }, { accessFlags := 18, nameIndex := 207, descriptorIndex := 194, attributes := #[] }, { accessFlags := 25, nameIndex := 316, descriptorIndex := 194, attributes := #[] }, { accessFlags := 25, nameIndex := 318, descriptorIndex := 194, attributes := #[] }, { accessFlags := 26, nameIndex := 320, descriptorIndex := 321, attributes := #[] }])
  fields := #[{ name := "MIN_VALUE", type := .int, accessFlags := 25, slot := 0, constantValue := 0 }, { name := "MAX_VALUE", type := .int, accessFlags := 25, slot := 1, constantValue := 0 }, { name := "TYPE", type := (.object "java/lang/Class"), accessFlags := 25, slot := 2, constantValue := 0 }, { name := "digits", type := (.array .char), accessFlags := 24, slot := 3, constantValue := 0 }, { name := "DigitTens", type := (.array .byte), accessFlags := 24, slot := 4, constantValue := 0 }, { name := "DigitOnes", type := (.array .byte), accessFlags := 24, slot := 5, constantValue := 0 }, { name := "value", type := .int, accessFlags := 18, slot := 0, constantValue := 0 }, { name := "SIZE", type := .int, accessFlags := 25, slot := 6, constantValue := 0 }, { name := "BYTES", type := .int, accessFlags := 25, slot := 7, constantValue := 0 }, { name := "serialVersionUID", type := .long, accessFlags := 26, slot := 8, constantValue := 0 }]
  methods := #[k9m0, k9m1, k9m2, k9m3, k9m4]
  instanceTypes := #[.int]
  staticTypes := #[.int, .int, (.object "java/lang/Class"), (.array .char), (.array .byte), (.array .byte), .int, .int, .long]
  resolved := Array.replicate 453 none
  statics := none }

def pool10 : Array CpInfo := pool [(2, .class_ 4), (1, u "java/lang/Object"), (0, u "<init>"), (0, u "()V"), (0, .class_ 8), (0, u "java/lang/Integer"), (7, .class_ 18), (1, u "java/lang/Integer$IntegerCache"), (0, u "$assertionsDisabled"), (0, u "Z"), (26, u "high"), (0, u "I"), (8, u "archivedCache"), (0, u "[Ljava/lang/Integer;"), (12, u "cache"), (0, u "low")] 27

def k10m0 : Method := { name := "<init>", desc := "()V", sig := { parameters := [], returnType := none }, accessFlags := 2, code := none }
/-- java/lang/Integer$IntegerCache -/
def k10 : Class := { plain "java/lang/Integer$IntegerCache" (some 0) with
  accessFlags := 48
  interfaces := #[]
  cf := some (fileOf pool10 16 #[.nestHost 7] #[{ accessFlags := 2, nameIndex := 5, descriptorIndex := 6, attributes := #[] }] 48 2 #[] #[{ accessFlags := 24, nameIndex := 72, descriptorIndex := 48, attributes := #[] }, { accessFlags := 24, nameIndex := 47, descriptorIndex := 48, attributes := #[] }, { accessFlags := 24, nameIndex := 71, descriptorIndex := 58, attributes := #[] }, { accessFlags := 8, nameIndex := 57, descriptorIndex := 58, attributes := #[] }, { accessFlags := 4120, nameIndex := 19, descriptorIndex := 20, attributes := #[] }])
  fields := #[{ name := "low", type := .int, accessFlags := 24, slot := 0, constantValue := 0 }, { name := "high", type := .int, accessFlags := 24, slot := 1, constantValue := 0 }, { name := "cache", type := (.array (.object "java/lang/Integer")), accessFlags := 24, slot := 2, constantValue := 0 }, { name := "archivedCache", type := (.array (.object "java/lang/Integer")), accessFlags := 8, slot := 3, constantValue := 0 }, { name := "$assertionsDisabled", type := .boolean, accessFlags := 4120, slot := 4, constantValue := 0 }]
  methods := #[k10m0]
  instanceTypes := #[]
  staticTypes := #[.int, .int, (.array (.object "java/lang/Integer")), (.array (.object "java/lang/Integer")), .boolean]
  resolved := Array.replicate 100 none
  statics := some 1 }

def pool11 : Array CpInfo := pool [(1, u "java/lang/Cloneable"), (0, .class_ 1), (0, u "java/lang/Object"), (0, .class_ 3)] 3

/-- java/lang/Cloneable -/
def k11 : Class := { plain "java/lang/Cloneable" (some 0) with
  accessFlags := 1537
  interfaces := #[]
  cf := some (fileOf pool11 2 #[] #[] 1537 4 #[] #[])
  fields := #[]
  methods := #[]
  instanceTypes := #[]
  staticTypes := #[]
  resolved := Array.replicate 8 none
  statics := none }

/-- the primitive byte -/
def k12 : Class := { plain "byte" none with kind := .primitive 'B', accessFlags := 0x411 }
/-- [B -/
def k13 : Class := { plain "[B" (some 0) with kind := .array 12 .byte, interfaces := #[11, 4], accessFlags := 1041 }

/-- the primitive int -/
def k14 : Class := { plain "int" none with kind := .primitive 'I', accessFlags := 0x411 }
/-- [I -/
def k15 : Class := { plain "[I" (some 0) with kind := .array 14 .int, interfaces := #[11, 4], accessFlags := 1041 }

/-- [Ljava/lang/Integer; -/
def k16 : Class := { plain "[Ljava/lang/Integer;" (some 0) with kind := .array 9 (.object "java/lang/Integer"), interfaces := #[11, 4], accessFlags := 1041 }

def classes0 : Array Class := #[k0, k1, k2, k3, k4, k5, k6, k7, k8, k9, k10, k11, k12, k13, k14, k15, k16]
/-- the class that the rule has made for the site at 14 of tertium/Tertium.equals -/
def k17 : Class := Jvm.LamKit.madeRec { classes := classes0 } "tertium/Tertium" (Jvm.Lambda.Shape.mk "java/util/function/BiPredicate" "test" (Jvm.ClassFile.MethodDescriptor.mk ([(Jvm.ClassFile.FieldType.object "java/lang/Object"), (Jvm.ClassFile.FieldType.object "java/lang/Object")] : List Jvm.ClassFile.FieldType) (Option.some Jvm.ClassFile.FieldType.boolean)) ([] : List Jvm.ClassFile.FieldType) (5 : Nat) "java/lang/Object" "equals" (Jvm.ClassFile.MethodDescriptor.mk ([(Jvm.ClassFile.FieldType.object "java/lang/Object")] : List Jvm.ClassFile.FieldType) (Option.some Jvm.ClassFile.FieldType.boolean)) false (Jvm.ClassFile.MethodDescriptor.mk ([(Jvm.ClassFile.FieldType.object "java/lang/Object"), (Jvm.ClassFile.FieldType.object "java/lang/Object")] : List Jvm.ClassFile.FieldType) (Option.some Jvm.ClassFile.FieldType.boolean))) 17

def heap : Heap := #[{ cls := 2, slots := #[.ref 5, .ref 4, .int 0, .int 0, .null], vm := .statics 2 },
  { cls := 10, slots := #[.int 0, .int 127, .ref 3, .null, .int 0], vm := .statics 10 },
  { cls := 17, slots := #[], vm := .none },
  { cls := 16, slots := #[.ref 6, .ref 7, .ref 8, .ref 9, .ref 10, .ref 11, .ref 12, .ref 13, .ref 14, .ref 15, .ref 16, .ref 17, .ref 18, .ref 19, .ref 20, .ref 21, .ref 22, .ref 23, .ref 24, .ref 25, .ref 26, .ref 27, .ref 28, .ref 29, .ref 30, .ref 31, .ref 32, .ref 33, .ref 34, .ref 35, .ref 36, .ref 37, .ref 38, .ref 39, .ref 40, .ref 41, .ref 42, .ref 43, .ref 44, .ref 45, .ref 46, .ref 47, .ref 48, .ref 49, .ref 50, .ref 51, .ref 52, .ref 53, .ref 54, .ref 55, .ref 56, .ref 57, .ref 58, .ref 59, .ref 60, .ref 61, .ref 62, .ref 63, .ref 64, .ref 65, .ref 66, .ref 67, .ref 68, .ref 69, .ref 70, .ref 71, .ref 72, .ref 73, .ref 74, .ref 75, .ref 76, .ref 77, .ref 78, .ref 79, .ref 80, .ref 81, .ref 82, .ref 83, .ref 84, .ref 85, .ref 86, .ref 87, .ref 88, .ref 89, .ref 90, .ref 91, .ref 92, .ref 93, .ref 94, .ref 95, .ref 96, .ref 97, .ref 98, .ref 99, .ref 100, .ref 101, .ref 102, .ref 103, .ref 104, .ref 105, .ref 106, .ref 107, .ref 108, .ref 109, .ref 110, .ref 111, .ref 112, .ref 113, .ref 114, .ref 115, .ref 116, .ref 117, .ref 118, .ref 119, .ref 120, .ref 121, .ref 122, .ref 123, .ref 124, .ref 125, .ref 126, .ref 127, .ref 128, .ref 129, .ref 130, .ref 131, .ref 132, .ref 133, .ref 134, .ref 135, .ref 136, .ref 137, .ref 138, .ref 139, .ref 140, .ref 141, .ref 142, .ref 143, .ref 144, .ref 145, .ref 146, .ref 147, .ref 148, .ref 149, .ref 150, .ref 151, .ref 152, .ref 153, .ref 154, .ref 155, .ref 156, .ref 157, .ref 158, .ref 159, .ref 160, .ref 161, .ref 162, .ref 163, .ref 164, .ref 165, .ref 166, .ref 167, .ref 168, .ref 169, .ref 170, .ref 171, .ref 172, .ref 173, .ref 174, .ref 175, .ref 176, .ref 177, .ref 178, .ref 179, .ref 180, .ref 181, .ref 182, .ref 183, .ref 184, .ref 185, .ref 186, .ref 187, .ref 188, .ref 189, .ref 190, .ref 191, .ref 192, .ref 193, .ref 194, .ref 195, .ref 196, .ref 197, .ref 198, .ref 199, .ref 200, .ref 201, .ref 202, .ref 203, .ref 204, .ref 205, .ref 206, .ref 207, .ref 208, .ref 209, .ref 210, .ref 211, .ref 212, .ref 213, .ref 214, .ref 215, .ref 216, .ref 217, .ref 218, .ref 219, .ref 220, .ref 221, .ref 222, .ref 223, .ref 224, .ref 225, .ref 226, .ref 227, .ref 228, .ref 229, .ref 230, .ref 231, .ref 232, .ref 233, .ref 234, .ref 235, .ref 236, .ref 237, .ref 238, .ref 239, .ref 240, .ref 241, .ref 242, .ref 243, .ref 244, .ref 245, .ref 246, .ref 247, .ref 248, .ref 249, .ref 250, .ref 251, .ref 252, .ref 253, .ref 254, .ref 255, .ref 256, .ref 257, .ref 258, .ref 259, .ref 260, .ref 261], vm := .none },
  { cls := 2, slots := #[.null], vm := .none },
  { cls := 2, slots := #[.null], vm := .none },
  { cls := 9, slots := #[.int (-128)], vm := .none },
  { cls := 9, slots := #[.int (-127)], vm := .none },
  { cls := 9, slots := #[.int (-126)], vm := .none },
  { cls := 9, slots := #[.int (-125)], vm := .none },
  { cls := 9, slots := #[.int (-124)], vm := .none },
  { cls := 9, slots := #[.int (-123)], vm := .none },
  { cls := 9, slots := #[.int (-122)], vm := .none },
  { cls := 9, slots := #[.int (-121)], vm := .none },
  { cls := 9, slots := #[.int (-120)], vm := .none },
  { cls := 9, slots := #[.int (-119)], vm := .none },
  { cls := 9, slots := #[.int (-118)], vm := .none },
  { cls := 9, slots := #[.int (-117)], vm := .none },
  { cls := 9, slots := #[.int (-116)], vm := .none },
  { cls := 9, slots := #[.int (-115)], vm := .none },
  { cls := 9, slots := #[.int (-114)], vm := .none },
  { cls := 9, slots := #[.int (-113)], vm := .none },
  { cls := 9, slots := #[.int (-112)], vm := .none },
  { cls := 9, slots := #[.int (-111)], vm := .none },
  { cls := 9, slots := #[.int (-110)], vm := .none },
  { cls := 9, slots := #[.int (-109)], vm := .none },
  { cls := 9, slots := #[.int (-108)], vm := .none },
  { cls := 9, slots := #[.int (-107)], vm := .none },
  { cls := 9, slots := #[.int (-106)], vm := .none },
  { cls := 9, slots := #[.int (-105)], vm := .none },
  { cls := 9, slots := #[.int (-104)], vm := .none },
  { cls := 9, slots := #[.int (-103)], vm := .none },
  { cls := 9, slots := #[.int (-102)], vm := .none },
  { cls := 9, slots := #[.int (-101)], vm := .none },
  { cls := 9, slots := #[.int (-100)], vm := .none },
  { cls := 9, slots := #[.int (-99)], vm := .none },
  { cls := 9, slots := #[.int (-98)], vm := .none },
  { cls := 9, slots := #[.int (-97)], vm := .none },
  { cls := 9, slots := #[.int (-96)], vm := .none },
  { cls := 9, slots := #[.int (-95)], vm := .none },
  { cls := 9, slots := #[.int (-94)], vm := .none },
  { cls := 9, slots := #[.int (-93)], vm := .none },
  { cls := 9, slots := #[.int (-92)], vm := .none },
  { cls := 9, slots := #[.int (-91)], vm := .none },
  { cls := 9, slots := #[.int (-90)], vm := .none },
  { cls := 9, slots := #[.int (-89)], vm := .none },
  { cls := 9, slots := #[.int (-88)], vm := .none },
  { cls := 9, slots := #[.int (-87)], vm := .none },
  { cls := 9, slots := #[.int (-86)], vm := .none },
  { cls := 9, slots := #[.int (-85)], vm := .none },
  { cls := 9, slots := #[.int (-84)], vm := .none },
  { cls := 9, slots := #[.int (-83)], vm := .none },
  { cls := 9, slots := #[.int (-82)], vm := .none },
  { cls := 9, slots := #[.int (-81)], vm := .none },
  { cls := 9, slots := #[.int (-80)], vm := .none },
  { cls := 9, slots := #[.int (-79)], vm := .none },
  { cls := 9, slots := #[.int (-78)], vm := .none },
  { cls := 9, slots := #[.int (-77)], vm := .none },
  { cls := 9, slots := #[.int (-76)], vm := .none },
  { cls := 9, slots := #[.int (-75)], vm := .none },
  { cls := 9, slots := #[.int (-74)], vm := .none },
  { cls := 9, slots := #[.int (-73)], vm := .none },
  { cls := 9, slots := #[.int (-72)], vm := .none },
  { cls := 9, slots := #[.int (-71)], vm := .none },
  { cls := 9, slots := #[.int (-70)], vm := .none },
  { cls := 9, slots := #[.int (-69)], vm := .none },
  { cls := 9, slots := #[.int (-68)], vm := .none },
  { cls := 9, slots := #[.int (-67)], vm := .none },
  { cls := 9, slots := #[.int (-66)], vm := .none },
  { cls := 9, slots := #[.int (-65)], vm := .none },
  { cls := 9, slots := #[.int (-64)], vm := .none },
  { cls := 9, slots := #[.int (-63)], vm := .none },
  { cls := 9, slots := #[.int (-62)], vm := .none },
  { cls := 9, slots := #[.int (-61)], vm := .none },
  { cls := 9, slots := #[.int (-60)], vm := .none },
  { cls := 9, slots := #[.int (-59)], vm := .none },
  { cls := 9, slots := #[.int (-58)], vm := .none },
  { cls := 9, slots := #[.int (-57)], vm := .none },
  { cls := 9, slots := #[.int (-56)], vm := .none },
  { cls := 9, slots := #[.int (-55)], vm := .none },
  { cls := 9, slots := #[.int (-54)], vm := .none },
  { cls := 9, slots := #[.int (-53)], vm := .none },
  { cls := 9, slots := #[.int (-52)], vm := .none },
  { cls := 9, slots := #[.int (-51)], vm := .none },
  { cls := 9, slots := #[.int (-50)], vm := .none },
  { cls := 9, slots := #[.int (-49)], vm := .none },
  { cls := 9, slots := #[.int (-48)], vm := .none },
  { cls := 9, slots := #[.int (-47)], vm := .none },
  { cls := 9, slots := #[.int (-46)], vm := .none },
  { cls := 9, slots := #[.int (-45)], vm := .none },
  { cls := 9, slots := #[.int (-44)], vm := .none },
  { cls := 9, slots := #[.int (-43)], vm := .none },
  { cls := 9, slots := #[.int (-42)], vm := .none },
  { cls := 9, slots := #[.int (-41)], vm := .none },
  { cls := 9, slots := #[.int (-40)], vm := .none },
  { cls := 9, slots := #[.int (-39)], vm := .none },
  { cls := 9, slots := #[.int (-38)], vm := .none },
  { cls := 9, slots := #[.int (-37)], vm := .none },
  { cls := 9, slots := #[.int (-36)], vm := .none },
  { cls := 9, slots := #[.int (-35)], vm := .none },
  { cls := 9, slots := #[.int (-34)], vm := .none },
  { cls := 9, slots := #[.int (-33)], vm := .none },
  { cls := 9, slots := #[.int (-32)], vm := .none },
  { cls := 9, slots := #[.int (-31)], vm := .none },
  { cls := 9, slots := #[.int (-30)], vm := .none },
  { cls := 9, slots := #[.int (-29)], vm := .none },
  { cls := 9, slots := #[.int (-28)], vm := .none },
  { cls := 9, slots := #[.int (-27)], vm := .none },
  { cls := 9, slots := #[.int (-26)], vm := .none },
  { cls := 9, slots := #[.int (-25)], vm := .none },
  { cls := 9, slots := #[.int (-24)], vm := .none },
  { cls := 9, slots := #[.int (-23)], vm := .none },
  { cls := 9, slots := #[.int (-22)], vm := .none },
  { cls := 9, slots := #[.int (-21)], vm := .none },
  { cls := 9, slots := #[.int (-20)], vm := .none },
  { cls := 9, slots := #[.int (-19)], vm := .none },
  { cls := 9, slots := #[.int (-18)], vm := .none },
  { cls := 9, slots := #[.int (-17)], vm := .none },
  { cls := 9, slots := #[.int (-16)], vm := .none },
  { cls := 9, slots := #[.int (-15)], vm := .none },
  { cls := 9, slots := #[.int (-14)], vm := .none },
  { cls := 9, slots := #[.int (-13)], vm := .none },
  { cls := 9, slots := #[.int (-12)], vm := .none },
  { cls := 9, slots := #[.int (-11)], vm := .none },
  { cls := 9, slots := #[.int (-10)], vm := .none },
  { cls := 9, slots := #[.int (-9)], vm := .none },
  { cls := 9, slots := #[.int (-8)], vm := .none },
  { cls := 9, slots := #[.int (-7)], vm := .none },
  { cls := 9, slots := #[.int (-6)], vm := .none },
  { cls := 9, slots := #[.int (-5)], vm := .none },
  { cls := 9, slots := #[.int (-4)], vm := .none },
  { cls := 9, slots := #[.int (-3)], vm := .none },
  { cls := 9, slots := #[.int (-2)], vm := .none },
  { cls := 9, slots := #[.int (-1)], vm := .none },
  { cls := 9, slots := #[.int 0], vm := .none },
  { cls := 9, slots := #[.int 1], vm := .none },
  { cls := 9, slots := #[.int 2], vm := .none },
  { cls := 9, slots := #[.int 3], vm := .none },
  { cls := 9, slots := #[.int 4], vm := .none },
  { cls := 9, slots := #[.int 5], vm := .none },
  { cls := 9, slots := #[.int 6], vm := .none },
  { cls := 9, slots := #[.int 7], vm := .none },
  { cls := 9, slots := #[.int 8], vm := .none },
  { cls := 9, slots := #[.int 9], vm := .none },
  { cls := 9, slots := #[.int 10], vm := .none },
  { cls := 9, slots := #[.int 11], vm := .none },
  { cls := 9, slots := #[.int 12], vm := .none },
  { cls := 9, slots := #[.int 13], vm := .none },
  { cls := 9, slots := #[.int 14], vm := .none },
  { cls := 9, slots := #[.int 15], vm := .none },
  { cls := 9, slots := #[.int 16], vm := .none },
  { cls := 9, slots := #[.int 17], vm := .none },
  { cls := 9, slots := #[.int 18], vm := .none },
  { cls := 9, slots := #[.int 19], vm := .none },
  { cls := 9, slots := #[.int 20], vm := .none },
  { cls := 9, slots := #[.int 21], vm := .none },
  { cls := 9, slots := #[.int 22], vm := .none },
  { cls := 9, slots := #[.int 23], vm := .none },
  { cls := 9, slots := #[.int 24], vm := .none },
  { cls := 9, slots := #[.int 25], vm := .none },
  { cls := 9, slots := #[.int 26], vm := .none },
  { cls := 9, slots := #[.int 27], vm := .none },
  { cls := 9, slots := #[.int 28], vm := .none },
  { cls := 9, slots := #[.int 29], vm := .none },
  { cls := 9, slots := #[.int 30], vm := .none },
  { cls := 9, slots := #[.int 31], vm := .none },
  { cls := 9, slots := #[.int 32], vm := .none },
  { cls := 9, slots := #[.int 33], vm := .none },
  { cls := 9, slots := #[.int 34], vm := .none },
  { cls := 9, slots := #[.int 35], vm := .none },
  { cls := 9, slots := #[.int 36], vm := .none },
  { cls := 9, slots := #[.int 37], vm := .none },
  { cls := 9, slots := #[.int 38], vm := .none },
  { cls := 9, slots := #[.int 39], vm := .none },
  { cls := 9, slots := #[.int 40], vm := .none },
  { cls := 9, slots := #[.int 41], vm := .none },
  { cls := 9, slots := #[.int 42], vm := .none },
  { cls := 9, slots := #[.int 43], vm := .none },
  { cls := 9, slots := #[.int 44], vm := .none },
  { cls := 9, slots := #[.int 45], vm := .none },
  { cls := 9, slots := #[.int 46], vm := .none },
  { cls := 9, slots := #[.int 47], vm := .none },
  { cls := 9, slots := #[.int 48], vm := .none },
  { cls := 9, slots := #[.int 49], vm := .none },
  { cls := 9, slots := #[.int 50], vm := .none },
  { cls := 9, slots := #[.int 51], vm := .none },
  { cls := 9, slots := #[.int 52], vm := .none },
  { cls := 9, slots := #[.int 53], vm := .none },
  { cls := 9, slots := #[.int 54], vm := .none },
  { cls := 9, slots := #[.int 55], vm := .none },
  { cls := 9, slots := #[.int 56], vm := .none },
  { cls := 9, slots := #[.int 57], vm := .none },
  { cls := 9, slots := #[.int 58], vm := .none },
  { cls := 9, slots := #[.int 59], vm := .none },
  { cls := 9, slots := #[.int 60], vm := .none },
  { cls := 9, slots := #[.int 61], vm := .none },
  { cls := 9, slots := #[.int 62], vm := .none },
  { cls := 9, slots := #[.int 63], vm := .none },
  { cls := 9, slots := #[.int 64], vm := .none },
  { cls := 9, slots := #[.int 65], vm := .none },
  { cls := 9, slots := #[.int 66], vm := .none },
  { cls := 9, slots := #[.int 67], vm := .none },
  { cls := 9, slots := #[.int 68], vm := .none },
  { cls := 9, slots := #[.int 69], vm := .none },
  { cls := 9, slots := #[.int 70], vm := .none },
  { cls := 9, slots := #[.int 71], vm := .none },
  { cls := 9, slots := #[.int 72], vm := .none },
  { cls := 9, slots := #[.int 73], vm := .none },
  { cls := 9, slots := #[.int 74], vm := .none },
  { cls := 9, slots := #[.int 75], vm := .none },
  { cls := 9, slots := #[.int 76], vm := .none },
  { cls := 9, slots := #[.int 77], vm := .none },
  { cls := 9, slots := #[.int 78], vm := .none },
  { cls := 9, slots := #[.int 79], vm := .none },
  { cls := 9, slots := #[.int 80], vm := .none },
  { cls := 9, slots := #[.int 81], vm := .none },
  { cls := 9, slots := #[.int 82], vm := .none },
  { cls := 9, slots := #[.int 83], vm := .none },
  { cls := 9, slots := #[.int 84], vm := .none },
  { cls := 9, slots := #[.int 85], vm := .none },
  { cls := 9, slots := #[.int 86], vm := .none },
  { cls := 9, slots := #[.int 87], vm := .none },
  { cls := 9, slots := #[.int 88], vm := .none },
  { cls := 9, slots := #[.int 89], vm := .none },
  { cls := 9, slots := #[.int 90], vm := .none },
  { cls := 9, slots := #[.int 91], vm := .none },
  { cls := 9, slots := #[.int 92], vm := .none },
  { cls := 9, slots := #[.int 93], vm := .none },
  { cls := 9, slots := #[.int 94], vm := .none },
  { cls := 9, slots := #[.int 95], vm := .none },
  { cls := 9, slots := #[.int 96], vm := .none },
  { cls := 9, slots := #[.int 97], vm := .none },
  { cls := 9, slots := #[.int 98], vm := .none },
  { cls := 9, slots := #[.int 99], vm := .none },
  { cls := 9, slots := #[.int 100], vm := .none },
  { cls := 9, slots := #[.int 101], vm := .none },
  { cls := 9, slots := #[.int 102], vm := .none },
  { cls := 9, slots := #[.int 103], vm := .none },
  { cls := 9, slots := #[.int 104], vm := .none },
  { cls := 9, slots := #[.int 105], vm := .none },
  { cls := 9, slots := #[.int 106], vm := .none },
  { cls := 9, slots := #[.int 107], vm := .none },
  { cls := 9, slots := #[.int 108], vm := .none },
  { cls := 9, slots := #[.int 109], vm := .none },
  { cls := 9, slots := #[.int 110], vm := .none },
  { cls := 9, slots := #[.int 111], vm := .none },
  { cls := 9, slots := #[.int 112], vm := .none },
  { cls := 9, slots := #[.int 113], vm := .none },
  { cls := 9, slots := #[.int 114], vm := .none },
  { cls := 9, slots := #[.int 115], vm := .none },
  { cls := 9, slots := #[.int 116], vm := .none },
  { cls := 9, slots := #[.int 117], vm := .none },
  { cls := 9, slots := #[.int 118], vm := .none },
  { cls := 9, slots := #[.int 119], vm := .none },
  { cls := 9, slots := #[.int 120], vm := .none },
  { cls := 9, slots := #[.int 121], vm := .none },
  { cls := 9, slots := #[.int 122], vm := .none },
  { cls := 9, slots := #[.int 123], vm := .none },
  { cls := 9, slots := #[.int 124], vm := .none },
  { cls := 9, slots := #[.int 125], vm := .none },
  { cls := 9, slots := #[.int 126], vm := .none },
  { cls := 9, slots := #[.int 127], vm := .none }]
def classes : Array Class := #[k0, k1, k2, k3, k4, k5, k6, k7, k8, k9, k10, k11, k12, k13, k14, k15, k16, k17]
def interned : List (Array UInt16 × Addr) := []
def slotsUsed : Nat := 524
def theMethod : MethodId := ⟨1, 1⟩
def args0 : Array Value := #[.int 5, .int 5]
def aboutOver (below : List Frame) : State where
  vm := { classes := classes, interned := interned.toArray }
  heap := heap
  slotsUsed := slotsUsed
  threads := #[{ frames := .invoking theMethod args0 :: below }]
def below0 : List Frame := [.native { method := ⟨0, 0⟩, args := #[] }]
def about1 : State := aboutOver below0
def p0 : Program := .bare "" "" ""
def e0 : Env := launch0.env 0 0 0
theorem w_frames : about1.frames = Frame.invoking theMethod args0 :: below0 := rfl
set_option maxRecDepth 65536 in
theorem w_args : argsFit about1.vm theMethod args0 = true := by decide +kernel
set_option maxRecDepth 65536 in
theorem w_heap : heapFits about1 = true := by decide +kernel
set_option maxRecDepth 65536 in
theorem w_runnable : about1.curStatus? = some .runnable := by decide +kernel
set_option maxRecDepth 65536 in
theorem w_alone : about1.alone = true := by decide +kernel
set_option maxRecDepth 65536 in
theorem w_named : about1.methodNamed? x = some theMethod := by decide +kernel
set_option maxRecDepth 65536 in
theorem w_hears : about1.hears theMethod below0 = true := by decide +kernel
set_option maxRecDepth 65536 in
theorem w_ripe : about1.ripe theMethod args0 below0 = true := by decide +kernel
theorem w_running : about1.status = .running := rfl
set_option maxRecDepth 65536 in
theorem w_room : about1.hasRoom e0.platform room_1 = true :=
  launch0.hasRoom_least _ room_1 (by decide +kernel) (by decide +kernel) (by decide +kernel) (by decide +kernel) (by decide +kernel) (by decide +kernel)
theorem allAtoms_all (ts : List Jvm.Cond) (a : Array Jvm.Value) (st : Jvm.State) : (allAtoms ts).before a st = ts.all (fun c => c.before a st) := by
  induction ts with
  | nil => rfl
  | cons c t ih =>
    show (Jvm.Cond.and c (allAtoms t)).before a st = _
    rw [Jvm.Cond.before_and, ih, List.all_cons]
def words1 : List Jvm.Cond := Jvm.Cond.code x code maxLocals ret :: tables_1
/-- a 'code' word, met by the world's own term for the bytes: nothing is compared byte by byte -/
theorem code_word {y : MethodName} {bytes : ByteArray} {mx : Nat} {rt : Option FieldType} {a : Array Value} {s : State} {m : MethodId} {meth : Method} {c : Code} (h1 : s.methodNamed? y = some m) (h2 : s.vm.method? m = some meth) (h3 : meth.code = some c) (h4 : c.code = bytes)
    (h5 : (c.maxLocals == mx && c.exceptionTable.isEmpty && decide (c.maxStack ≤ mostOperands) && decide (meth.sig.returnType = rt) && !meth.locks && decide (parseMethodDescriptor y.desc = some meth.sig)) = true) : (Jvm.Cond.code y bytes mx rt).before a s = true := by
  simp only [Bool.and_eq_true, beq_iff_eq, Bool.not_eq_true', decide_eq_true_eq] at h5
  obtain ⟨⟨⟨⟨⟨g1, g2⟩, g3⟩, g4⟩, g5⟩, g6⟩ := h5
  simp [Cond.before, Cond.holds, Cond.value, h1, h2, h3, h4, g1, g2, g3, g4, g5, g6]
def isCode : Jvm.Cond → Bool
  | .code _ _ _ _ => true
  | _ => false
theorem all_split {L : List Jvm.Cond} {P : Jvm.Cond → Bool} (h1 : L.all (fun c => isCode c || P c) = true) (h2 : ∀ c ∈ L.filter isCode, P c = true) : L.all P = true := by
  refine List.all_eq_true.mpr fun c hc => ?_
  have h := List.all_eq_true.mp h1 c hc
  rcases Bool.eq_false_or_eq_true (isCode c) with hi | hi
  · exact h2 c (List.mem_filter.mpr ⟨hc, hi⟩)
  · simpa [hi] using h
set_option maxRecDepth 65536 in
theorem w_c0 : (Jvm.Cond.code x code maxLocals ret).before args0 about1 = true := code_word (m := ⟨1, 1⟩) (meth := k1m1) (c := k1c1) (by decide +kernel) rfl rfl rfl (by decide +kernel)
set_option maxRecDepth 65536 in
theorem w_c1 : (Jvm.Cond.code ({ cls := "tertium/Tertium", name := "of", desc := "(Ljava/lang/Object;)Ltertium/Tertium;" } : Jvm.MethodName) prog_1_method_4_code (1 : Nat) (Option.some (Jvm.ClassFile.FieldType.object "tertium/Tertium"))).before args0 about1 = true := code_word (m := ⟨2, 2⟩) (meth := k2m2) (c := k2c2) (by decide +kernel) rfl rfl rfl (by decide +kernel)
set_option maxRecDepth 65536 in
theorem w_c2 : (Jvm.Cond.code ({ cls := "tertium/Tertium", name := "ofNull", desc := "()Ltertium/Tertium;" } : Jvm.MethodName) prog_1_method_3_code (0 : Nat) (Option.some (Jvm.ClassFile.FieldType.object "tertium/Tertium"))).before args0 about1 = true := code_word (m := ⟨2, 1⟩) (meth := k2m1) (c := k2c1) (by decide +kernel) rfl rfl rfl (by decide +kernel)
set_option maxRecDepth 65536 in
theorem w_c3 : (Jvm.Cond.code ({ cls := "tertium/Tertium", name := "isPresent", desc := "()Z" } : Jvm.MethodName) prog_1_method_8_code (1 : Nat) (Option.some Jvm.ClassFile.FieldType.boolean)).before args0 about1 = true := code_word (m := ⟨2, 3⟩) (meth := k2m3) (c := k2c3) (by decide +kernel) rfl rfl rfl (by decide +kernel)
set_option maxRecDepth 65536 in
theorem w_c4 : (Jvm.Cond.code ({ cls := "tertium/Tertium", name := "isAbsent", desc := "()Z" } : Jvm.MethodName) prog_1_method_9_code (1 : Nat) (Option.some Jvm.ClassFile.FieldType.boolean)).before args0 about1 = true := code_word (m := ⟨2, 4⟩) (meth := k2m4) (c := k2c4) (by decide +kernel) rfl rfl rfl (by decide +kernel)
set_option maxRecDepth 65536 in
theorem w_c5 : (Jvm.Cond.code ({ cls := "tertium/Tertium", name := "isNull", desc := "()Z" } : Jvm.MethodName) prog_1_method_11_code (1 : Nat) (Option.some Jvm.ClassFile.FieldType.boolean)).before args0 about1 = true := code_word (m := ⟨2, 5⟩) (meth := k2m5) (c := k2c5) (by decide +kernel) rfl rfl rfl (by decide +kernel)
set_option maxRecDepth 65536 in
theorem w_c6 : (Jvm.Cond.code ({ cls := "tertium/Tertium", name := "isNotNull", desc := "()Z" } : Jvm.MethodName) prog_1_method_12_code (1 : Nat) (Option.some Jvm.ClassFile.FieldType.boolean)).before args0 about1 = true := code_word (m := ⟨2, 6⟩) (meth := k2m6) (c := k2c6) (by decide +kernel) rfl rfl rfl (by decide +kernel)
set_option maxRecDepth 65536 in
theorem w_c7 : (Jvm.Cond.code ({ cls := "tertium/Tertium", name := "isNullOrAbsent", desc := "()Z" } : Jvm.MethodName) prog_1_method_13_code (1 : Nat) (Option.some Jvm.ClassFile.FieldType.boolean)).before args0 about1 = true := code_word (m := ⟨2, 7⟩) (meth := k2m7) (c := k2c7) (by decide +kernel) rfl rfl rfl (by decide +kernel)
set_option maxRecDepth 65536 in
theorem w_c8 : (Jvm.Cond.code ({ cls := "tertium/Tertium", name := "get", desc := "()Ljava/lang/Object;" } : Jvm.MethodName) prog_1_method_14_code (1 : Nat) (Option.some (Jvm.ClassFile.FieldType.object "java/lang/Object"))).before args0 about1 = true := code_word (m := ⟨2, 8⟩) (meth := k2m8) (c := k2c8) (by decide +kernel) rfl rfl rfl (by decide +kernel)
set_option maxRecDepth 65536 in
theorem w_c9 : (Jvm.Cond.code ({ cls := "tertium/Tertium", name := "equals", desc := "(Ljava/lang/Object;)Z" } : Jvm.MethodName) prog_1_method_34_code (3 : Nat) (Option.some Jvm.ClassFile.FieldType.boolean)).before args0 about1 = true := code_word (m := ⟨2, 9⟩) (meth := k2m9) (c := k2c9) (by decide +kernel) rfl rfl rfl (by decide +kernel)
set_option maxRecDepth 65536 in
theorem w_c10 : (Jvm.Cond.code ({ cls := "tertium/Tertium", name := "sameStateAndValue", desc := "(Ltertium/Tertium;Ltertium/Tertium;Ljava/util/function/BiPredicate;)Z" } : Jvm.MethodName) prog_1_method_37_code (3 : Nat) (Option.some Jvm.ClassFile.FieldType.boolean)).before args0 about1 = true := code_word (m := ⟨2, 11⟩) (meth := k2m11) (c := k2c11) (by decide +kernel) rfl rfl rfl (by decide +kernel)
set_option maxRecDepth 65536 in
theorem w_c11 : (Jvm.Cond.code ({ cls := "java/lang/Integer", name := "valueOf", desc := "(I)Ljava/lang/Integer;" } : Jvm.MethodName) jdk_33_method_22_code (1 : Nat) (Option.some (Jvm.ClassFile.FieldType.object "java/lang/Integer"))).before args0 about1 = true := code_word (m := ⟨9, 0⟩) (meth := k9m0) (c := k9c0) (by decide +kernel) rfl rfl rfl (by decide +kernel)
set_option maxRecDepth 65536 in
theorem w_c12 : (Jvm.Cond.code ({ cls := "java/lang/Integer", name := "<init>", desc := "(I)V" } : Jvm.MethodName) jdk_33_method_23_code (2 : Nat) (Option.none : Option Jvm.ClassFile.FieldType)).before args0 about1 = true := code_word (m := ⟨9, 1⟩) (meth := k9m1) (c := k9c1) (by decide +kernel) rfl rfl rfl (by decide +kernel)
set_option maxRecDepth 65536 in
theorem w_c13 : (Jvm.Cond.code ({ cls := "java/lang/Number", name := "<init>", desc := "()V" } : Jvm.MethodName) jdk_18_method_1_code (1 : Nat) (Option.none : Option Jvm.ClassFile.FieldType)).before args0 about1 = true := code_word (m := ⟨5, 0⟩) (meth := k5m0) (c := k5c0) (by decide +kernel) rfl rfl rfl (by decide +kernel)
set_option maxRecDepth 65536 in
theorem w_c14 : (Jvm.Cond.code ({ cls := "java/lang/Object", name := "<init>", desc := "()V" } : Jvm.MethodName) object_method_1_code (1 : Nat) (Option.none : Option Jvm.ClassFile.FieldType)).before args0 about1 = true := code_word (m := ⟨0, 0⟩) (meth := k0m0) (c := k0c0) (by decide +kernel) rfl rfl rfl (by decide +kernel)
set_option maxRecDepth 65536 in
theorem w_c15 : (Jvm.Cond.code ({ cls := "tertium/Tertium", name := "<init>", desc := "(Ljava/lang/Object;)V" } : Jvm.MethodName) prog_1_method_1_code (2 : Nat) (Option.none : Option Jvm.ClassFile.FieldType)).before args0 about1 = true := code_word (m := ⟨2, 0⟩) (meth := k2m0) (c := k2c0) (by decide +kernel) rfl rfl rfl (by decide +kernel)
set_option maxRecDepth 65536 in
theorem w_c16 : (Jvm.Cond.code ({ cls := "java/lang/Integer", name := "intValue", desc := "()I" } : Jvm.MethodName) jdk_33_method_27_code (1 : Nat) (Option.some Jvm.ClassFile.FieldType.int)).before args0 about1 = true := code_word (m := ⟨9, 2⟩) (meth := k9m2) (c := k9c2) (by decide +kernel) rfl rfl rfl (by decide +kernel)
set_option maxRecDepth 65536 in
theorem w_c17 : (Jvm.Cond.code ({ cls := "tertium/Tertium", name := "hashCode", desc := "()I" } : Jvm.MethodName) prog_1_method_35_code (1 : Nat) (Option.some Jvm.ClassFile.FieldType.int)).before args0 about1 = true := code_word (m := ⟨2, 10⟩) (meth := k2m10) (c := k2c10) (by decide +kernel) rfl rfl rfl (by decide +kernel)
set_option maxRecDepth 65536 in
theorem w_c18 : (Jvm.Cond.code ({ cls := "java/lang/Integer", name := "hashCode", desc := "()I" } : Jvm.MethodName) jdk_33_method_32_code (1 : Nat) (Option.some Jvm.ClassFile.FieldType.int)).before args0 about1 = true := code_word (m := ⟨9, 3⟩) (meth := k9m3) (c := k9c3) (by decide +kernel) rfl rfl rfl (by decide +kernel)
set_option maxRecDepth 65536 in
theorem w_c19 : (Jvm.Cond.code ({ cls := "java/lang/Integer", name := "hashCode", desc := "(I)I" } : Jvm.MethodName) jdk_33_method_33_code (1 : Nat) (Option.some Jvm.ClassFile.FieldType.int)).before args0 about1 = true := code_word (m := ⟨9, 4⟩) (meth := k9m4) (c := k9c4) (by decide +kernel) rfl rfl rfl (by decide +kernel)
def codes1 : List Jvm.Cond := [Jvm.Cond.code x code maxLocals ret, Jvm.Cond.code ({ cls := "tertium/Tertium", name := "of", desc := "(Ljava/lang/Object;)Ltertium/Tertium;" } : Jvm.MethodName) prog_1_method_4_code (1 : Nat) (Option.some (Jvm.ClassFile.FieldType.object "tertium/Tertium")), Jvm.Cond.code ({ cls := "tertium/Tertium", name := "ofNull", desc := "()Ltertium/Tertium;" } : Jvm.MethodName) prog_1_method_3_code (0 : Nat) (Option.some (Jvm.ClassFile.FieldType.object "tertium/Tertium")), Jvm.Cond.code ({ cls := "tertium/Tertium", name := "isPresent", desc := "()Z" } : Jvm.MethodName) prog_1_method_8_code (1 : Nat) (Option.some Jvm.ClassFile.FieldType.boolean), Jvm.Cond.code ({ cls := "tertium/Tertium", name := "isAbsent", desc := "()Z" } : Jvm.MethodName) prog_1_method_9_code (1 : Nat) (Option.some Jvm.ClassFile.FieldType.boolean), Jvm.Cond.code ({ cls := "tertium/Tertium", name := "isNull", desc := "()Z" } : Jvm.MethodName) prog_1_method_11_code (1 : Nat) (Option.some Jvm.ClassFile.FieldType.boolean), Jvm.Cond.code ({ cls := "tertium/Tertium", name := "isNotNull", desc := "()Z" } : Jvm.MethodName) prog_1_method_12_code (1 : Nat) (Option.some Jvm.ClassFile.FieldType.boolean), Jvm.Cond.code ({ cls := "tertium/Tertium", name := "isNullOrAbsent", desc := "()Z" } : Jvm.MethodName) prog_1_method_13_code (1 : Nat) (Option.some Jvm.ClassFile.FieldType.boolean), Jvm.Cond.code ({ cls := "tertium/Tertium", name := "get", desc := "()Ljava/lang/Object;" } : Jvm.MethodName) prog_1_method_14_code (1 : Nat) (Option.some (Jvm.ClassFile.FieldType.object "java/lang/Object")), Jvm.Cond.code ({ cls := "tertium/Tertium", name := "equals", desc := "(Ljava/lang/Object;)Z" } : Jvm.MethodName) prog_1_method_34_code (3 : Nat) (Option.some Jvm.ClassFile.FieldType.boolean), Jvm.Cond.code ({ cls := "tertium/Tertium", name := "sameStateAndValue", desc := "(Ltertium/Tertium;Ltertium/Tertium;Ljava/util/function/BiPredicate;)Z" } : Jvm.MethodName) prog_1_method_37_code (3 : Nat) (Option.some Jvm.ClassFile.FieldType.boolean), Jvm.Cond.code ({ cls := "java/lang/Integer", name := "valueOf", desc := "(I)Ljava/lang/Integer;" } : Jvm.MethodName) jdk_33_method_22_code (1 : Nat) (Option.some (Jvm.ClassFile.FieldType.object "java/lang/Integer")), Jvm.Cond.code ({ cls := "java/lang/Integer", name := "<init>", desc := "(I)V" } : Jvm.MethodName) jdk_33_method_23_code (2 : Nat) (Option.none : Option Jvm.ClassFile.FieldType), Jvm.Cond.code ({ cls := "java/lang/Number", name := "<init>", desc := "()V" } : Jvm.MethodName) jdk_18_method_1_code (1 : Nat) (Option.none : Option Jvm.ClassFile.FieldType), Jvm.Cond.code ({ cls := "java/lang/Object", name := "<init>", desc := "()V" } : Jvm.MethodName) object_method_1_code (1 : Nat) (Option.none : Option Jvm.ClassFile.FieldType), Jvm.Cond.code ({ cls := "tertium/Tertium", name := "<init>", desc := "(Ljava/lang/Object;)V" } : Jvm.MethodName) prog_1_method_1_code (2 : Nat) (Option.none : Option Jvm.ClassFile.FieldType), Jvm.Cond.code ({ cls := "java/lang/Integer", name := "intValue", desc := "()I" } : Jvm.MethodName) jdk_33_method_27_code (1 : Nat) (Option.some Jvm.ClassFile.FieldType.int), Jvm.Cond.code ({ cls := "tertium/Tertium", name := "hashCode", desc := "()I" } : Jvm.MethodName) prog_1_method_35_code (1 : Nat) (Option.some Jvm.ClassFile.FieldType.int), Jvm.Cond.code ({ cls := "java/lang/Integer", name := "hashCode", desc := "()I" } : Jvm.MethodName) jdk_33_method_32_code (1 : Nat) (Option.some Jvm.ClassFile.FieldType.int), Jvm.Cond.code ({ cls := "java/lang/Integer", name := "hashCode", desc := "(I)I" } : Jvm.MethodName) jdk_33_method_33_code (1 : Nat) (Option.some Jvm.ClassFile.FieldType.int)]
set_option maxRecDepth 65536 in
theorem codes_eq : words1.filter isCode = codes1 := rfl
theorem w_codes : ∀ c ∈ words1.filter isCode, c.before args0 about1 = true := by
  rw [codes_eq]
  intro c hc
  simp only [codes1, List.mem_cons, List.not_mem_nil, or_false] at hc
  rcases hc with rfl | rfl | rfl | rfl | rfl | rfl | rfl | rfl | rfl | rfl | rfl | rfl | rfl | rfl | rfl | rfl | rfl | rfl | rfl | rfl
  · exact w_c0
  · exact w_c1
  · exact w_c2
  · exact w_c3
  · exact w_c4
  · exact w_c5
  · exact w_c6
  · exact w_c7
  · exact w_c8
  · exact w_c9
  · exact w_c10
  · exact w_c11
  · exact w_c12
  · exact w_c13
  · exact w_c14
  · exact w_c15
  · exact w_c16
  · exact w_c17
  · exact w_c18
  · exact w_c19
set_option maxRecDepth 65536 in
theorem w_t1 : (words1.take 24).all (fun c => isCode c || c.before args0 about1) = true := by decide +kernel
set_option maxRecDepth 65536 in
theorem w_t2 : ((words1.drop 24).take 24).all (fun c => isCode c || c.before args0 about1) = true := by decide +kernel
set_option maxRecDepth 65536 in
theorem w_t3 : (((words1.drop 24).drop 24).take 24).all (fun c => isCode c || c.before args0 about1) = true := by decide +kernel
set_option maxRecDepth 65536 in
theorem w_t4 : ((((words1.drop 24).drop 24).drop 24).take 24).all (fun c => isCode c || c.before args0 about1) = true := by decide +kernel
set_option maxRecDepth 65536 in
theorem w_t5 : ((((words1.drop 24).drop 24).drop 24).drop 24).all (fun c => isCode c || c.before args0 about1) = true := by decide +kernel
theorem w_tables : (allAtoms (Jvm.Cond.code x code maxLocals ret :: tables_1)).before args0 about1 = true := by
  rw [allAtoms_all]
  show words1.all (fun c => c.before args0 about1) = true
  refine all_split ?_ w_codes
  rw [← List.take_append_drop 24 words1, List.all_append, w_t1, ← List.take_append_drop 24 (words1.drop 24), List.all_append, w_t2, ← List.take_append_drop 24 ((words1.drop 24).drop 24), List.all_append, w_t3, ← List.take_append_drop 24 (((words1.drop 24).drop 24).drop 24), List.all_append, w_t4, w_t5]
  rfl
set_option maxRecDepth 65536 in
theorem w_rest : rest_1_c.before args0 about1 = true := by decide +kernel
set_option maxRecDepth 65536 in
theorem w_case : (Jvm.Cond.and given_1 narrow_1).before args0 about1 = true := by decide +kernel
theorem w_applies : (headSpec (Jvm.Cond.code x code maxLocals ret :: tables_1) room_1).applies x e0.platform about1 = true :=
  (Spec.applies_iff w_frames).mpr ⟨w_running, w_runnable, w_alone, w_named, w_hears, w_ripe, w_room, w_tables⟩
theorem atStart : AtStart classFile x code maxLocals ret World_1 tables_1 room_1 Calls_1 rest_1 Pre_1 launch0 p0 e0 about1 theMethod args0 below0 :=
  ⟨lists_1, trivial, launch0.admits_env _ _ _, launch0.least_env, fairChoices_fair.cas, fairChoices_fair.clock, w_frames, w_args, w_heap, w_applies, trivial, w_rest, w_case⟩
end start1
theorem witness_1 : WitnessClaimed_1 := ⟨start1.p0, start1.e0, start1.about1, start1.theMethod, start1.args0, start1.below0, start1.atStart⟩
end Jvm.Pilot.@@N@@
