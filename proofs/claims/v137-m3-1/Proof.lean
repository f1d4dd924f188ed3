import JvmDerived
import JvmDerived.Pilot.@@N@@Statement
import JvmDerived.Pilot.@@N@@Code
set_option linter.unusedVariables false
set_option linter.unusedSimpArgs false
@@BLOCK:NumsL.lean.txt@@
namespace Jvm.RoadKit
open Sem ClassFile Op Lib Jvm.Stand Jvm.Free Jvm.LawKit
section New
variable {p : Program} {l : Launch} {e : Env} {R : Room} {s : State} {m : MethodId} {args : Array Value} {below : List Frame} {meth : Method} {c : Code} {T : State} {locs : List Loc} {cells slots : Nat}
theorem retI (X : Stand p l e R s m args below meth c T locs cells slots) (hx : p.tables.exec = Jvm.exec) {pc : Nat} {Ls : Array Slot} {z : Int32} {rest : List Value} (hret : meth.sig.returnType = some .int) (hd : decode c.code pc = .ok (.ireturn, 1)) {fs : List Frame}
    (hl : ∀ (f : JFrame) (acts : List Action), f.method = m → f.locked = none → f.entered = [] → (doReturn e (T.setTop f) acts (some (.int z))).1 = T.setFrames fs) : Steps p.tables e below (T.setTop (mkF m pc Ls (.int z :: rest))) (T.setFrames fs) := by
  have hm' : T.vm.method? m = some meth := X.method'
  have hn : narrow .int (.int z) = .int z := rfl
  show Steps p.tables e below (T.setTop { method := m, pc := pc, locals := Ls, stack := _ :: rest, locked := none }) _
  jvm_step X.here [X.here.top, hx, hd, hm', hret, hn]
  first | (intro acts; rw [hl _ acts rfl rfl rfl]) | rw [hl _ _ rfl rfl rfl]
  exact Steps.refl _
end New
end Jvm.RoadKit
namespace Jvm.Pilot.@@N@@
open Jvm Jvm.ClassFile Sem Op Lib Jvm.Free Jvm.Stand Jvm.LawKit Jvm.RoadKit Bundle Jvm.Pilot.@@N@@.Jvm.D
/-! own_Goes: from S the run comes to some state of which G holds: such a goal may be split in the middle of a walk -/
def own_Goes (p : Program) (e : Env) (below : List Frame) (S : State) (G : State → Prop) : Prop := ∃ t, Steps p.tables e below S t ∧ G t
theorem own_via {p : Program} {e : Env} {below : List Frame} {S S' : State} {G : State → Prop} (f : ∀ t, Steps p.tables e below S' t → Steps p.tables e below S t) (h : own_Goes p e below S' G) : own_Goes p e below S G := by
  obtain ⟨t, h1, h2⟩ := h
  exact ⟨t, f t h1, h2⟩
theorem own_end {p : Program} {e : Env} {below : List Frame} {S t : State} {G : State → Prop} (h : Steps p.tables e below S t) (g : G t) : own_Goes p e below S G := ⟨t, h, g⟩
theorem own_out {p : Program} {e : Env} {below : List Frame} {S : State} {P : State → Outcome → Prop} (h : own_Goes p e below S (fun t => ∃ o, t.status = .running ∧ Ended t below o ∧ P t o)) : ∃ t o, Steps p.tables e below S t ∧ t.status = .running ∧ Ended t below o ∧ P t o := by
  obtain ⟨t, h1, o, h2, h3, h4⟩ := h
  exact ⟨t, o, h1, h2, h3, h4⟩
theorem wd {a0 : Array Value} {Z : State} (hw : ∀ d ∈ tables_1, d.before a0 Z = true) (i : Nat) {d : Jvm.Cond} (h : tables_1[i]? = some d) : d.before a0 Z = true := hw _ (List.mem_of_getElem? h)
theorem own_old {Z : State} {n0 : Nat} {h : Heap} (O : Old Z n0 h) : n0 ≤ h.size := by rw [← O.1]; exact O.2.1
def own_Q0 (n0 : Nat) (v : Option Value) (L : List Loc) : Prop := v = some (.int (1 : Int32)) ∧ Fr n0 L
def own_G (s : State) (below : List Frame) (n0 : Nat) (t : State) : Prop := ∃ o, t.status = .running ∧ Ended t below o ∧ ∃ v L, o = .returned v ∧ own_Q0 n0 v L ∧ FrameEnd s o t L room_1.cells room_1.slots
def own_Len (Z : State) (h : Heap) (a : Addr) (ty : FieldType) (n : Int32) : Prop := ∃ k vs d, Arv Z h a k ty n vs d
theorem own_len_ext {Z : State} {h h' : Heap} {a : Addr} {ty : FieldType} {n : Int32} (F : own_Len Z h a ty n) (E : Ext h h') : own_Len Z h' a ty n := by
  obtain ⟨k, vs, d, V⟩ := F
  exact ⟨k, vs, d, V.ext E⟩
theorem own_len_other {Z : State} {h h' : Heap} {a b : Addr} {sl : Nat} {v : Value} {ty : FieldType} {n : Int32} (F : own_Len Z h b ty n) (W : Wr h h' a sl v) (q : b ≠ a) : own_Len Z h' b ty n := by
  obtain ⟨k, vs, d, V⟩ := F
  exact ⟨k, vs, d, V.other W q⟩
theorem own_len_keep {Z : State} {h h' : Heap} {a : Addr} {ws : List Addr} {ty : FieldType} {n : Int32} (F : own_Len Z h a ty n) (K : Keep h h' ws) (q : a ∉ ws) : own_Len Z h' a ty n := by
  obtain ⟨k, vs, d, V⟩ := F
  exact ⟨k, vs, d, V.keep K q⟩
theorem own_len_lt {Z : State} {h : Heap} {a : Addr} {ty : FieldType} {n : Int32} (F : own_Len Z h a ty n) : a < h.size := by
  obtain ⟨k, vs, d, V⟩ := F
  exact V.lt
theorem own_c2 (x : Int32) : x.toUInt32.toUInt16.toUInt32.toInt32.toUInt32.toUInt16.toUInt32.toInt32 = x.toUInt32.toUInt16.toUInt32.toInt32 := by rw [UInt32.toUInt32_toInt32, UInt16.toUInt16_toUInt32]
theorem own_b2 (x : Int32) : x.toInt8.toInt32.toInt8.toInt32 = x.toInt8.toInt32 := by rw [Int8.toInt8_toInt32]
section Calls
variable {p : Program} {l : Launch} {e : Env} {R : Room} {s : State} {m : MethodId} {args : Array Value} {below : List Frame} {meth : Method} {c : Code} {T : State} {locs : List Loc} {cells slots : Nat} {Z : State} {a0 : Array Value} {h : Heap} {own C : String} {index : Nat} {y : MethodName} {bytes : ByteArray} {maxL : Nat} {rm : Room} {Q : Option Value → Heap → List Loc → Prop} {a : Addr} {argsL : List Value} {g : JFrame}
/-! a call by its contract, in one step: virtual (the class's own method), a constructor, static -/
theorem own_cv {ret : Option FieldType} (X : Stand p l e R s m args below meth c T locs cells slots) (hx : p.tables.exec = Jvm.exec) (hZ : Z.Warmed39 s.vm) (hown : s.vm.findClass own = some m.cls) (w1 : (Jvm.Cond.methodLink own index y).before a0 Z = true) (w2 : (Jvm.Cond.declares y).before a0 Z = true) (w3 : (Jvm.Cond.selects C y y).before a0 Z = true) (w4 : (Jvm.Cond.instanceMethod y).before a0 Z = true) (wc : (Jvm.Cond.code y bytes maxL ret).before a0 Z = true) (wz : (Jvm.Cond.initialized y.cls).before a0 Z = true) (hy : y.cls ≠ "java/lang/invoke/MethodHandle" ∧ y.cls ≠ "java/lang/invoke/VarHandle")
    (hM : MetFree l y (head1 [Jvm.Cond.code y bytes maxL ret] rm) (fun A U => A = (.ref a :: argsL).toArray ∧ Z.Warmed39 U.vm ∧ U.heap = h) (fun _ _ _ _ _ => True) (fun _ U o U' => ∃ v L, o = .returned v ∧ Q v U'.heap L ∧ FrameEnd U o U' L rm.cells rm.slots)) (eT : T.heap = h) (E : Exa Z h a C) (hg : g.method = m) (hsize : g.locals.size = c.maxLocals) {rest : List Value} {W : Nat}
    (hlen : ∀ sig, parseMethodDescriptor y.desc = some sig → argsL.length = sig.parameters.length) (hstack : g.stack = argsL.reverse ++ .ref a :: rest) (hW : 2 * g.monitorRoom + (rest.map fun v => v.category).sum ≤ W) (hdg : decode c.code g.pc = .ok (.invokevirtual index, 3)) (r1 : rm.frames + 1 ≤ R.frames) (r2 : W + (maxL + 11) + rm.locals ≤ R.locals) (r3 : cells + rm.cells ≤ R.cells) (r4 : slots + rm.slots ≤ R.slots) :
    ∃ (v : Option Value) (T' : State) (L : List Loc), Stand p l e R s m args below meth c T' (locs ++ L) (cells + rm.cells) (slots + rm.slots) ∧ Q v T'.heap L ∧ ∀ t, Steps p.tables e below (T'.setTop { g with pc := g.pc + 3, stack := v.toList ++ rest }) t → Steps p.tables e below (T.setTop g) t := by
  obtain ⟨cq, kq, qa, -, qc⟩ := isOf hZ eT E
  obtain ⟨v, _, ⟨T', L', c', n'⟩, -, X', ⟨Lc, hQ, l1, y1, z1⟩, st⟩ := X.virtualBack hx (y := y) (z := y) hown (mvT hZ w1) (mvT hZ w2) (notFace_of_selects (args := #[]) (mvT hZ w3)) (mvT hZ w3) (mvT hZ w4) hy (backOf (W := W) hM hZ wc wz r1 r2) qa qc (g := g) hg hsize (Steps.refl _) (argsL := argsL) (rest := rest) hlen hstack hW hdg (fun _ _ => ⟨rfl, eT, r3, r4⟩)
  dsimp only [Pt.U, Pt.locs, Pt.cells, Pt.slots] at X' l1 y1 z1 st hQ
  subst l1 y1 z1
  exact ⟨v, T', Lc, X', hQ, fun t k => st.trans k⟩
theorem own_ci (X : Stand p l e R s m args below meth c T locs cells slots) (hx : p.tables.exec = Jvm.exec) (hZ : Z.Warmed39 s.vm) (hown : s.vm.findClass own = some m.cls) (w1 : (Jvm.Cond.methodLink own index y).before a0 Z = true) (w4 : (Jvm.Cond.instanceMethod y).before a0 Z = true) (wc : (Jvm.Cond.code y bytes maxL none).before a0 Z = true) (wz : (Jvm.Cond.initialized y.cls).before a0 Z = true) (hi : y.name = "<init>") (hy : y.cls ≠ "java/lang/invoke/MethodHandle" ∧ y.cls ≠ "java/lang/invoke/VarHandle")
    (hM : MetFree l y (head1 [Jvm.Cond.code y bytes maxL none] rm) (fun A U => A = (.ref a :: argsL).toArray ∧ Z.Warmed39 U.vm ∧ U.heap = h) (fun _ _ _ _ _ => True) (fun _ U o U' => ∃ v L, o = .returned v ∧ Q v U'.heap L ∧ FrameEnd U o U' L rm.cells rm.slots)) (eT : T.heap = h) (hg : g.method = m) (hsize : g.locals.size = c.maxLocals) {rest : List Value} {W : Nat}
    (hlen : ∀ sig, parseMethodDescriptor y.desc = some sig → argsL.length = sig.parameters.length) (hstack : g.stack = argsL.reverse ++ .ref a :: rest) (hW : 2 * g.monitorRoom + (rest.map fun v => v.category).sum ≤ W) (hdg : decode c.code g.pc = .ok (.invokespecial index, 3)) (r1 : rm.frames + 1 ≤ R.frames) (r2 : W + (maxL + 11) + rm.locals ≤ R.locals) (r3 : cells + rm.cells ≤ R.cells) (r4 : slots + rm.slots ≤ R.slots) :
    ∃ (v : Option Value) (T' : State) (L : List Loc), Stand p l e R s m args below meth c T' (locs ++ L) (cells + rm.cells) (slots + rm.slots) ∧ Q v T'.heap L ∧ ∀ t, Steps p.tables e below (T'.setTop { g with pc := g.pc + 3, stack := v.toList ++ rest }) t → Steps p.tables e below (T.setTop g) t := by
  obtain ⟨v, _, ⟨T', L', c', n'⟩, -, X', ⟨Lc, hQ, l1, y1, z1⟩, st⟩ := X.specialBack hx (y := y) hi hown (mvT hZ w1) (mvT hZ w4) (mvT hZ wc) hy (backOf (W := W) hM hZ wc wz r1 r2) (g := g) hg hsize (Steps.refl _) (a := a) (argsL := argsL) (rest := rest) hlen hstack hW hdg (fun _ _ => ⟨rfl, eT, r3, r4⟩)
  dsimp only [Pt.U, Pt.locs, Pt.cells, Pt.slots] at X' l1 y1 z1 st hQ
  subst l1 y1 z1
  exact ⟨v, T', Lc, X', hQ, fun t k => st.trans k⟩
theorem own_cs {ret : Option FieldType} (X : Stand p l e R s m args below meth c T locs cells slots) (hx : p.tables.exec = Jvm.exec) (hZ : Z.Warmed39 s.vm) (hown : s.vm.findClass own = some m.cls) (w1 : (Jvm.Cond.methodLink own index y).before a0 Z = true) (w4 : (Jvm.Cond.static y).before a0 Z = true) (wc : (Jvm.Cond.code y bytes maxL ret).before a0 Z = true) (wz : (Jvm.Cond.initialized y.cls).before a0 Z = true) (hy : y.cls ≠ "java/lang/invoke/MethodHandle" ∧ y.cls ≠ "java/lang/invoke/VarHandle")
    (hM : MetFree l y (head1 [Jvm.Cond.code y bytes maxL ret] rm) (fun A U => A = argsL.toArray ∧ Z.Warmed39 U.vm ∧ U.heap = h) (fun _ _ _ _ _ => True) (fun _ U o U' => ∃ v L, o = .returned v ∧ Q v U'.heap L ∧ FrameEnd U o U' L rm.cells rm.slots)) (eT : T.heap = h) (hg : g.method = m) (hsize : g.locals.size = c.maxLocals) {rest : List Value} {W : Nat}
    (hlen : ∀ sig, parseMethodDescriptor y.desc = some sig → argsL.length = sig.parameters.length) (hstack : g.stack = argsL.reverse ++ rest) (hW : 2 * g.monitorRoom + (rest.map fun v => v.category).sum ≤ W) (hdg : decode c.code g.pc = .ok (.invokestatic index, 3)) (r1 : rm.frames + 1 ≤ R.frames) (r2 : W + (maxL + 11) + rm.locals ≤ R.locals) (r3 : cells + rm.cells ≤ R.cells) (r4 : slots + rm.slots ≤ R.slots) :
    ∃ (v : Option Value) (T' : State) (L : List Loc), Stand p l e R s m args below meth c T' (locs ++ L) (cells + rm.cells) (slots + rm.slots) ∧ Q v T'.heap L ∧ ∀ t, Steps p.tables e below (T'.setTop { g with pc := g.pc + 3, stack := v.toList ++ rest }) t → Steps p.tables e below (T.setTop g) t := by
  obtain ⟨v, _, ⟨T', L', c', n'⟩, -, X', ⟨Lc, hQ, l1, y1, z1⟩, st⟩ := Jvm.LawKit.callS X hx (y := y) hown (mvT hZ w1) (mvT hZ w4) (mvT hZ wz) (mvT hZ wc) hy (backOf (W := W) hM hZ wc wz r1 r2) (g := g) hg hsize (argsL := argsL) (rest := rest) hlen hstack hW hdg (fun _ _ => ⟨rfl, eT, r3, r4⟩)
  dsimp only [Pt.U, Pt.locs, Pt.cells, Pt.slots] at X' l1 y1 z1 st hQ
  subst l1 y1 z1
  exact ⟨v, T', Lc, X', hQ, st⟩
end Calls
theorem own_eq_ref {args : Array Value} {s : State} {a b : Term} {w : Addr} (h : (Jvm.Cond.eq a b).value args s none s [] = some true) (hb : b.eval args s none [] s = some (.ref w)) : a.eval args s none [] s = some (.ref w) := by
  obtain ⟨x, y, e1, e2, k1, k2⟩ := cmp_v (Or.inl h)
  rw [hb] at e2
  cases e2
  have hx : x.isRef = true := by cases x <;> simp_all [Kin, Value.isRef]
  have q := gotT (eq_R e1 hb hx rfl) h
  rw [e1, q]
theorem own_ne_ref {args : Array Value} {s : State} {a b : Term} {u w : Addr} (h : (Jvm.Cond.not (Jvm.Cond.eq a b)).value args s none s [] = some true) (ha : a.eval args s none [] s = some (.ref u)) (hb : b.eval args s none [] s = some (.ref w)) : u ≠ w := fun q => gotF (eq_R ha hb rfl rfl) (not_v h) (by rw [q])
theorem own_nn_mask (x m : Int32) (k : Nat) (hk : k < 32) (hm : m.toBitVec.toNat = 2 ^ k - 1) : ¬ ((x &&& m) < (0 : Int32)) := by
  rw [Int32.lt_iff_toInt_lt, Jvm.Kit.i32_mask x m hk hm]
  have h := Int.emod_nonneg x.toInt (show ((2 : Int) ^ k) ≠ 0 from Int.ne_of_gt (Int.pow_pos (by decide)))
  rw [Int32.toInt_zero]
  omega
theorem own_lt_mask (x m : Int32) (k : Nat) (hk : k < 32) (hm : m.toBitVec.toNat = 2 ^ k - 1) {n : Int32} (hn : n.toInt = 2 ^ k) : (x &&& m) < n := by
  rw [Int32.lt_iff_toInt_lt, Jvm.Kit.i32_mask x m hk hm, hn]
  exact Int.emod_lt_of_pos _ (Int.pow_pos (by decide))
theorem own_nn_rem {x : Int32} (n : Int32) (h : ¬ (x < (0 : Int32))) : ¬ (x % n < (0 : Int32)) := by
  rw [Int32.lt_iff_toInt_lt, Int32.toInt_zero] at h ⊢
  rw [Int32.toInt_mod]
  have := Int.tmod_nonneg n.toInt (show 0 ≤ x.toInt by omega)
  omega
theorem own_pos {n : Int32} (h : (0 : Int32) < n) : 0 < n.toInt := by
  rw [Int32.lt_iff_toInt_lt, Int32.toInt_zero] at h
  exact h
theorem own_ne0 {n : Int32} (h : (0 : Int32) < n) : n ≠ 0 := fun q => by
  rw [q] at h
  exact absurd h (by decide)
theorem own_lt_rem {x : Int32} (n : Int32) (h : ¬ (x < (0 : Int32))) (hn : 0 < n.toInt) : x % n < n := by
  rw [Int32.lt_iff_toInt_lt] at h ⊢
  rw [Int32.toInt_zero] at h
  rw [Jvm.Kit.i32_rem_nonneg (by omega)]
  exact Int.emod_lt_of_pos _ hn
theorem own_modlo (x n : Int32) (hn : 0 < n.toInt) : 0 ≤ ((x &&& (2147483647 : Int32)) % n).toInt := by
  have a := Jvm.Kit.i32_mask x 2147483647 (k := 31) (by decide) (by decide)
  rw [Jvm.Kit.i32_rem_nonneg (by omega)]
  exact Int.emod_nonneg _ (by omega)
theorem own_modhi (x n : Int32) (hn : 0 < n.toInt) : ((x &&& (2147483647 : Int32)) % n).toInt < n.toInt := by
  have a := Jvm.Kit.i32_mask x 2147483647 (k := 31) (by decide) (by decide)
  rw [Jvm.Kit.i32_rem_nonneg (by omega)]
  exact Int.emod_lt_of_pos _ hn
abbrev zs1 : String := "java/lang/String"
abbrev zs2 : String := "com/example/pencilmark/pencilmark/grid/Grid"
abbrev zs3 : String := "java/lang/StringUTF16"
abbrev zs4 : String := "com/example/pencilmark/pencilmark/grid/Shape"
abbrev zs5 : String := "com/example/pencilmark/pencilmark/line/PuzzleLine"
abbrev zs6 : String := "com/example/pencilmark/pencilmark/line/PuzzleLineParsePinLaw"
abbrev zs7 : String := "Lcom/example/pencilmark/pencilmark/grid/Shape;"
abbrev zs8 : String := "jdk/internal/util/Preconditions"
abbrev zs9 : String := "(Ljava/lang/String;J)Lcom/example/pencilmark/pencilmark/grid/Grid;"
abbrev zs10 : String := "Ljava/util/function/BiFunction;"
abbrev zs11 : String := "COMPACT_STRINGS"
abbrev zs12 : String := "$assertionsDisabled"
abbrev zs13 : String := "SIOOBE_FORMATTER"
abbrev zs14 : String := "(IILjava/util/function/BiFunction;)I"
abbrev zs15 : String := "HI_BYTE_SHIFT"
abbrev zs16 : String := "LO_BYTE_SHIFT"
abbrev zs17 : String := "([CIILjava/lang/Void;)V"
abbrev zs18 : String := "java/lang/StringLatin1"
abbrev zs19 : String := "coderFromArrayLen"
theorem own_len31 {args : Array Value} {s : State} {t : Term} {a : Addr} {c : Cell} {ty : FieldType} {n : Int32} (ev : t.eval args s none [] s = some (.ref a)) (A : Arr s s.heap a c ty) (h : (Jvm.Cond.eq (.length t) (.int n)).value args s none s [] = some true) : c.slots.size < 2 ^ 31 ∧ c.slots.size.toInt32 = n := by
  have hl := Cond.eq_int (show (Jvm.Cond.eq (.length t) (.int n)).holds args s none s [] = true from Cond.before_iff.mpr h) rfl
  have hA : s.arrayAt? a = some c := Arr.fin (Vm.Alike.refl _) A
  have h31 := SBG.length_lt ev hA hl
  have e := len_f ev hA h31
  exact ⟨h31, by simpa using Option.some.inj (e.symm.trans hl)⟩
theorem own_sub_at {args : Array Value} {first s : State} {o : Option Outcome} {idx : List Nat} {a : Term} {x n : Int32} (h : a.eval args first o idx s = some (.int x)) : (Term.sub a (.int n)).eval args first o idx s = some (.int (x - n)) := by simp [Term.eval, h]
def own_vs (N : Nat) (f : Nat → Int32) : List Value := (List.range N).map fun i => .int (f i)
theorem own_vs_len {N : Nat} {f : Nat → Int32} : (own_vs N f).length = N := by simp [own_vs]
theorem own_vs_at {N : Nat} {f : Nat → Int32} {i : Nat} {d : Value} (h : i < N) : (own_vs N f).getD i d = .int (f i) := by
  simp [own_vs, List.getD_eq_getElem?_getD, h]
def own_up (f : Nat → Int32) (i : Nat) (v : Int32) : Nat → Int32 := fun k => if k = i then v else f k
theorem own_vs_set {N : Nat} {f : Nat → Int32} {i : Nat} {v : Int32} : (own_vs N f).set i (.int v) = own_vs N (own_up f i v) := by
  apply List.ext_getElem?
  intro k
  simp only [own_vs, List.getElem?_set, List.getElem?_map, List.length_map, List.length_range, own_up]
  by_cases hk : k < N
  · rw [List.getElem?_range hk]
    by_cases e : i = k
    · subst e; simp [hk]
    · have e' : ¬ k = i := fun q => e q.symm
      simp [e, e']
  · have : (List.range N)[k]? = none := by rw [List.getElem?_eq_none_iff]; simpa using Nat.le_of_not_lt hk
    rw [this]
    by_cases e : i = k
    · subst e; simp [hk]
    · simp [e]
theorem own_vs_congr {N : Nat} {f g : Nat → Int32} (h : ∀ i, i < N → f i = g i) : own_vs N f = own_vs N g := by
  simp only [own_vs]
  apply List.map_congr_left
  intro i hi
  rw [h i (List.mem_range.mp hi)]
theorem own_inN {cl : Cell} {z j : Int32} {N : Nat} (S : cl.slots.size = z.toNatClampNeg) (hz : z.toNatClampNeg = N) (hin : ¬ (j < 0 ∨ cl.slots.size ≤ j.toNatClampNeg)) : j.toNatClampNeg < N := by
  rw [← hz, ← S]
  exact Nat.lt_of_not_le fun q => hin (Or.inr q)
/-- filled up to k -/
def own_fl (k : Nat) (z : Int32) : Nat → Int32 := fun i => if i < k then z else 0
theorem own_fl_step {k : Nat} {z : Int32} : own_up (own_fl k z) k z = own_fl (k + 1) z := by
  funext i
  simp only [own_up, own_fl]
  by_cases e : i = k
  · subst e; simp
  · by_cases q : i < k
    · simp [e, q, Nat.lt_succ_of_lt q]
    · have : ¬ i < k + 1 := by omega
      simp [e, q, this]
section
variable {Z : State} {h h' : Heap} {a : Addr} {k : ClassId} {ty : FieldType} {n : Int32} {N : Nat} {f : Nat → Int32} {d : Value}
theorem own_fn_new {M : Nat} (A : Arv Z h a k ty n [] (.int 0)) (z : Int32) : Arv Z h a k ty n (own_vs M (own_fl 0 z)) (.int 0) := A.pad fun i => by
  by_cases q : i < M
  · rw [own_vs_at q]; simp [own_fl]
  · rw [List.getD_eq_getElem?_getD, List.getElem?_eq_none (by rw [own_vs_len]; exact Nat.le_of_not_lt q)]; simp
end

/-- the fill that javac unrolls: dup, push k, iload q, castore, for k, k + 1, ..: where it ends -/
def own_fe (cd : ByteArray) (q : Nat) : Nat → Nat → Nat → Option Nat
  | pc, _, 0 => some pc
  | pc, k, r + 1 =>
    let w := if decode cd (pc + 1) = .ok (.iconst k, 1) then 1 else if decode cd (pc + 1) = .ok (.bipush k, 2) then 2 else 0
    if decode cd pc = .ok (.dup, 1) ∧ 0 < w ∧ decode cd (pc + 1 + w) = .ok (.iload q, 2) ∧ decode cd (pc + 1 + w + 2) = .ok (.castore, 1) then own_fe cd q (pc + 1 + w + 2 + 1) (k + 1) r else none
theorem own_ofInt {k : Nat} (h : k < 128) : Int32.ofInt (k : Int) = Int32.ofNat k ∧ (Int8.ofInt (k : Int)).toInt32 = Int32.ofNat k ∧ (Int32.ofNat k).toNatClampNeg = k ∧ ¬ (Int32.ofNat k < 0) := by
  have e : ∀ k : Fin 128, Int32.ofInt (k.val : Int) = Int32.ofNat k.val ∧ (Int8.ofInt (k.val : Int)).toInt32 = Int32.ofNat k.val ∧ (Int32.ofNat k.val).toNatClampNeg = k.val ∧ ¬ (Int32.ofNat k.val < 0) := by decide +kernel
  exact e ⟨k, h⟩
section Fill
variable {p : Program} {l : Launch} {e : Env} {R : Room} {s : State} {m : MethodId} {args : Array Value} {below : List Frame} {meth : Method} {c : Code} {Z : State} {cells slots : Nat} {cd : ByteArray} {a : Addr} {kk : ClassId} {n z : Int32} {N q pc' n0 : Nat} {Ls : Array Slot} {rest : List Value}
theorem own_fill (hx : p.tables.exec = Jvm.exec) (hZ : Z.Warmed39 s.vm) (hby : c.code = cd) (hN : N < 128) (hn : n.toNatClampNeg = N) (hz : nar .char z = z) (hq : Ls[q]? = some (.val (.int z))) (ga : n0 ≤ a) :
    ∀ (r k pc : Nat) (T : State) (h : Heap) (locs : List Loc), k + r = N → own_fe cd q pc k r = some pc' → Stand p l e R s m args below meth c T locs cells slots → T.heap = h → Fr n0 locs → Arv Z h a kk .char n (own_vs N (own_fl k z)) (.int 0) →
      ∃ (T' : State) (h' : Heap) (locs' : List Loc), Stand p l e R s m args below meth c T' locs' cells slots ∧ T'.heap = h' ∧ Fr n0 locs' ∧ Keep h h' [a] ∧ Arv Z h' a kk .char n (own_vs N (own_fl N z)) (.int 0) ∧
        ∀ t, Steps p.tables e below (T'.setTop (mkF m pc' Ls (.ref a :: rest))) t → Steps p.tables e below (T.setTop (mkF m pc Ls (.ref a :: rest))) t := by
  intro r
  induction r with
  | zero =>
    intro k pc T h locs hk hf X eT F A
    cases (show k = N from hk)
    cases (show some pc = some pc' from hf)
    exact ⟨T, h, locs, X, eT, F, Keep.refl h _, A, fun t k => k⟩
  | succ r ih =>
    intro k pc T h locs hk hf X eT F A
    have kN : k < N := by omega
    obtain ⟨o1, o2, o3, o4⟩ := own_ofInt (Nat.lt_trans kN hN)
    unfold own_fe at hf
    dsimp only at hf
    generalize hwv : (if decode cd (pc + 1) = .ok (.iconst k, 1) then 1 else if decode cd (pc + 1) = .ok (.bipush k, 2) then 2 else 0) = w at hf
    by_cases hc : decode cd pc = .ok (.dup, 1) ∧ 0 < w ∧ decode cd (pc + 1 + w) = .ok (.iload q, 2) ∧ decode cd (pc + 1 + w + 2) = .ok (.castore, 1)
    case neg => rw [if_neg hc] at hf; cases hf
    case pos =>
    rw [if_pos hc] at hf
    obtain ⟨d1, hw, d3, d4⟩ := hc
    obtain ⟨cl, Ar, qq, S, M, H, G⟩ := id A
    have hin : ¬ (Int32.ofNat k < 0 ∨ cl.slots.size ≤ (Int32.ofNat k).toNatClampNeg) := by
      rw [S, hn, o3]
      rintro (u | u)
      · exact o4 u
      · omega
    obtain ⟨T1, h1, X1, e1, W1, st1⟩ := stC X hx hZ eT Ar (j := Int32.ofNat k) (x := z) hin (g := mkF m (pc + 1 + w + 2) Ls (.int z :: .int (Int32.ofNat k) :: .ref a :: .ref a :: rest)) rfl rfl (hb hby d4)
    have A1 : Arv Z h1 a kk .char n (own_vs N (own_fl (k + 1) z)) (.int 0) := by
      have qv := Arv.set Ar qq S M H G (fits_nar_char z) W1 k o3 (by rw [own_vs_len]; exact kN)
      rw [hz, own_vs_set, own_fl_step] at qv
      exact qv
    obtain ⟨T', h', locs', X', e', F', K', A', st'⟩ := ih (k + 1) _ T1 h1 _ (by omega) hf X1 e1 (Fr.snoc X1 F ga) A1
    refine ⟨T', h', locs', X', e', F', (Keep.of_wr W1).trans K' (fun x hx => Or.inl hx), A', fun t kt => ?_⟩
    refine XS.dup X.here hx rfl (hb hby d1) rfl rfl ?_
    have nx := XS.iload X.here hx rfl (g := mkF m (pc + 1 + w) Ls (.int (Int32.ofNat k) :: .ref a :: .ref a :: rest)) (hb hby d3) hq (st1 t (st' t kt))
    by_cases d2 : decode cd (pc + 1) = .ok (.iconst k, 1)
    case pos =>
      rw [if_pos d2] at hwv
      subst hwv
      refine XS.iconst X.here hx rfl (hb hby d2) ?_
      rw [o1]
      exact nx
    case neg =>
      rw [if_neg d2] at hwv
      by_cases d2 : decode cd (pc + 1) = .ok (.bipush k, 2)
      case pos =>
        rw [if_pos d2] at hwv
        subst hwv
        refine XS.bipush X.here hx rfl (hb hby d2) ?_
        rw [o2]
        exact nx
      case neg => rw [if_neg d2] at hwv; omega
end Fill

/-- compressed up to k -/
def own_bt (k : Nat) (f : Nat → Int32) : Nat → Int32 := fun i => if i < k then (f i).toInt8.toInt32 else 0
theorem own_bt_step {k : Nat} {f : Nat → Int32} : own_up (own_bt k f) k ((f k).toInt8.toInt32) = own_bt (k + 1) f := by
  funext i
  simp only [own_up, own_bt]
  by_cases e : i = k
  · subst e; simp
  · by_cases q : i < k
    · simp [e, q, Nat.lt_succ_of_lt q]
    · have : ¬ i < k + 1 := by omega
      simp [e, q, this]
theorem own_succ {k : Nat} (h : k < 255) : Int32.ofNat k + 1 = Int32.ofNat (k + 1) ∧ (Int32.ofNat k).toNatClampNeg = k ∧ ¬ (Int32.ofNat k < 0) := by
  have e : ∀ k : Fin 255, Int32.ofNat k.val + 1 = Int32.ofNat (k.val + 1) ∧ (Int32.ofNat k.val).toNatClampNeg = k.val ∧ ¬ (Int32.ofNat k.val < 0) := by decide +kernel
  exact e ⟨k, h⟩
theorem own_ltN {k N : Nat} (h : k < N) (hN : N < 128) : Int32.ofNat k < Int32.ofNat N := by
  have e : ∀ (N : Fin 128) (k : Fin 128), k.val < N.val → Int32.ofNat k.val < Int32.ofNat N.val := by decide +kernel
  exact e ⟨N, hN⟩ ⟨k, Nat.lt_trans h hN⟩ h
/-- what the cell says at i -/
def own_cf (c : Cell) : Nat → Int32 := fun i => match c.slots[i]? with | some (.int x) => x | _ => 0
theorem own_arvF {Z : State} {a : Addr} {c : Cell} {z : Int32} {N : Nat} (hf : Fit Z) (A : Arr Z Z.heap a c .byte) (S : c.slots.size = z.toNatClampNeg) (hz : ¬ z < 0) (hN : z.toNatClampNeg = N) (h31 : N < 2 ^ 31) : Arv Z Z.heap a c.cls .byte z (own_vs N (own_cf c)) (.int 0) := by
  have key : ∀ i, i < c.slots.size → ∃ x : Int32, c.slots[i]? = some (.int x) ∧ fits .byte (.int x) = true := fun i hi => by
    have q := hf A.1 hi
    obtain ⟨hs, k, hk, comp, hkind⟩ := A.2.1
    have e : Z.slotType? c.cls c.vm i = some .byte := by
      cases hq : c.vm <;> first | exact absurd hq (hs _) | simp [State.slotType?, hk, hkind]
    simp only [State.fitsSlot, e] at q
    have q : fits .byte c.slots[i] = true := by simpa using q
    cases hv : c.slots[i] with
    | int x => exact ⟨x, by rw [Array.getElem?_eq_getElem hi, hv], by rw [← hv]; exact q⟩
    | _ => rw [hv] at q; cases q
  refine ⟨c, A, rfl, S, hz, fun i hi => ?_, fun i hi => ?_⟩
  · obtain ⟨x, hx, -⟩ := key i hi
    rw [own_vs_at (by rw [← hN, ← S]; exact hi), hx]
    simp [own_cf, hx]
  · obtain ⟨x, hx, hfx⟩ := key i hi
    rw [own_vs_at (by rw [← hN, ← S]; exact hi)]
    simpa [own_cf, hx] using hfx
theorem own_rd {Z : State} {args : Array Value} {t : Term} {a : Addr} {c : Cell} (et : ∀ idx, t.eval args Z none idx Z = some (.ref a)) (A : Arr Z Z.heap a c .byte) (S : c.slots.size = 128)
    (h3 : (Jvm.Cond.all t (Jvm.Cond.or (Jvm.Cond.lt (.index 0) (.int 47)) (Jvm.Cond.or (Jvm.Cond.le (.int 58) (.index 0)) (Jvm.Cond.eq (.elem t (.index 0)) (.sub (.index 0) (.int 48)))))).value args Z none Z [] = some true)
    (h46 : (Jvm.Cond.eq (.elem t (.int 46)) (.int 0)).value args Z none Z [] = some true) : own_cf c 46 = 0 ∧ ∀ i, 48 ≤ i → i < 58 → own_cf c i = Int32.ofNat i - 48 := by
  have hA := A.fin (Vm.Alike.refl _)
  refine ⟨?_, fun i h1 h2 => ?_⟩
  · have q := eqv_i (Term.int_eval (0 : Int32)) h46
    rw [elem_f (et _) (Term.int_eval (46 : Int32)) hA (by decide)] at q
    simp only [own_cf]
    rw [show (46 : Nat) = (46 : Int32).toNatClampNeg from by decide, q]
  · have e : ∀ i : Fin 128, (Int32.ofNat i.val).toNatClampNeg = i.val ∧ ¬ (Int32.ofNat i.val < 0) := by decide +kernel
    obtain ⟨e1, e2⟩ := e ⟨i, by omega⟩
    have q := Cond.all_elim (et []) hA h3 i (by omega)
    have ix : (Term.index 0).eval args Z none [i] Z = some (.int (Int32.ofNat i)) := by
      have := idx_at (args := args) (s := Z) (first := Z) (o := none) e2
      dsimp only at e1 this
      rw [e1] at this
      exact this
    have f : ∀ i : Fin 128, 48 ≤ i.val → i.val < 58 → ¬ (Int32.ofNat i.val < 47) ∧ ¬ ((58 : Int32) ≤ Int32.ofNat i.val) := by decide +kernel
    obtain ⟨f1, f2⟩ := f ⟨i, by omega⟩ h1 h2
    dsimp only at f1 f2
    have q1 : (Jvm.Cond.or (Jvm.Cond.le (.int 58) (.index 0)) (Jvm.Cond.eq (.elem t (.index 0)) (.sub (.index 0) (.int 48)))).value args Z none Z [i] = some true := by
      have l1 : (Jvm.Cond.lt (.index 0) (.int 47)).value args Z none Z [i] = some false := by simp [Cond.value, ix, Term.int_eval, f1]
      simp only [Cond.value] at q l1 ⊢
      rw [l1] at q
      simpa using q
    have q2 : (Jvm.Cond.eq (.elem t (.index 0)) (.sub (.index 0) (.int 48))).value args Z none Z [i] = some true := by
      have l1 : (Jvm.Cond.le (.int 58) (.index 0)).value args Z none Z [i] = some false := by simp [Cond.value, ix, Term.int_eval, f2]
      simp only [Cond.value] at q1 l1 ⊢
      rw [l1] at q1
      simpa using q1
    have q3 := eqv_i (y := Int32.ofNat i - 48) (by simp [Term.eval, ix]) q2
    rw [elem_f (et _) ix hA e2] at q3
    dsimp only at e1
    rw [e1] at q3
    simp [own_cf, q3]
/-- a local that holds nothing yet, or an int -/
def own_sl : Option Int32 → Slot
  | none => .unset
  | some x => iv x
section Compress
variable {p : Program} {l : Launch} {e : Env} {R : Room} {s : State} {m : MethodId} {args : Array Value} {below : List Frame} {meth : Method} {c : Code} {Z : State} {cells slots : Nat} {a b : Addr} {ka kb : ClassId} {N q n0 : Nat} {f : Nat → Int32}
set_option maxRecDepth 65536 in
theorem own_lpC (hx : p.tables.exec = Jvm.exec) (hZ : Z.Warmed39 s.vm) (hby : c.code = jdk_52_method_21_code) (hN : N < 128) (hq : q ≤ N) (low : ∀ i, i < q → ¬ ((255 : Int32) < f i)) (gb : n0 ≤ b) (hab : a ≠ b) :
    ∀ (r k : Nat) (T : State) (h : Heap) (locs : List Loc) (s6 : Option Int32), k + r = q → Stand p l e R s m args below meth c T locs cells slots → T.heap = h → Fr n0 locs → Arv Z h a ka .char (Int32.ofNat N) (own_vs N f) (.int 0) → Arv Z h b kb .byte (Int32.ofNat N) (own_vs N (own_bt k f)) (.int 0) →
      ∃ (T' : State) (h' : Heap) (locs' : List Loc) (s6' : Option Int32), Stand p l e R s m args below meth c T' locs' cells slots ∧ T'.heap = h' ∧ Fr n0 locs' ∧ Keep h h' [b] ∧ Arv Z h' a ka .char (Int32.ofNat N) (own_vs N f) (.int 0) ∧ Arv Z h' b kb .byte (Int32.ofNat N) (own_vs N (own_bt q f)) (.int 0) ∧
        ∀ t, Steps p.tables e below (T'.setTop (mkF m 3 #[rv a, iv (Int32.ofNat q), rv b, iv (Int32.ofNat q), iv (Int32.ofNat N), iv (Int32.ofNat q), own_sl s6'] [])) t → Steps p.tables e below (T.setTop (mkF m 3 #[rv a, iv (Int32.ofNat k), rv b, iv (Int32.ofNat k), iv (Int32.ofNat N), iv (Int32.ofNat k), own_sl s6] [])) t := by
  intro r
  induction r with
  | zero =>
    intro k T h locs s6 hk X eT F A B
    cases (show k = q from hk)
    exact ⟨T, h, locs, s6, X, eT, F, Keep.refl h _, A, B, fun t k => k⟩
  | succ r ih =>
    intro k T h locs s6 hk X eT F A B
    have kq : k < q := by omega
    have kN : k < N := by omega
    obtain ⟨o1, o2, o3⟩ := own_succ (k := k) (by omega)
    have nN : (Int32.ofNat N).toNatClampNeg = N := (own_ofInt hN).2.2.1
    obtain ⟨ca, Aa, qa, Sa, Ma, Ha, Ga⟩ := id A
    obtain ⟨cb, Ab, qb, Sb, Mb, Hb, Gb⟩ := id B
    have ina : ¬ (Int32.ofNat k < 0 ∨ ca.slots.size ≤ (Int32.ofNat k).toNatClampNeg) := by
      rw [Sa, nN, o2]
      rintro (u | u)
      · exact o3 u
      · omega
    have inb : ¬ (Int32.ofNat k < 0 ∨ cb.slots.size ≤ (Int32.ofNat k).toNatClampNeg) := by
      rw [Sb, nN, o2]
      rintro (u | u)
      · exact o3 u
      · omega
    obtain ⟨T1, h1, X1, e1, W1, st1⟩ := stB X hx hZ eT Ab (j := Int32.ofNat k) (x := (f k).toInt8.toInt32) inb (g := mkF m 31 #[rv a, iv (Int32.ofNat k), rv b, iv (Int32.ofNat k), iv (Int32.ofNat N), iv (Int32.ofNat k), iv (f k)] [.int ((f k).toInt8.toInt32), .int (Int32.ofNat k), .ref b]) rfl rfl (hb hby (by decide +kernel : decode jdk_52_method_21_code 31 = .ok (.bastore, 1)))
    have B1 : Arv Z h1 b kb .byte (Int32.ofNat N) (own_vs N (own_bt (k + 1) f)) (.int 0) := by
      have qv := Arv.set Ab qb Sb Mb Hb Gb (fits_nar_byte ((f k).toInt8.toInt32)) W1 k o2 (by rw [own_vs_len]; exact kN)
      first | rw [Int8.toInt8_toInt32, own_vs_set, own_bt_step] at qv | (unfold nar at qv; rw [Int8.toInt8_toInt32, own_vs_set, own_bt_step] at qv)
      exact qv
    have A1 : Arv Z h1 a ka .char (Int32.ofNat N) (own_vs N f) (.int 0) := A.other W1 hab
    obtain ⟨T', h', locs', s6', X', e', F', K', A', B', st'⟩ := ih (k + 1) T1 h1 _ (some (f k)) (by omega) X1 e1 (Fr.snoc X1 F gb) A1 B1
    refine ⟨T', h', locs', s6', X', e', F', (Keep.of_wr W1).trans K' (fun x hx => Or.inl hx), A', B', fun t kt => ?_⟩
    refine XS.iload X.here hx rfl (hb hby (by decide +kernel : decode jdk_52_method_21_code 3 = .ok (.iload 5, 2))) rfl (XS.iload X.here hx rfl (hb hby (by decide +kernel : decode jdk_52_method_21_code 5 = .ok (.iload 4, 2))) rfl (XS.icmpNo X.here hx rfl (hb hby (by decide +kernel : decode jdk_52_method_21_code 7 = .ok (.if_icmp .ge 37, 3))) rfl (tlt (own_ltN kN hN)).2.1 (XS.aloadN X.here hx rfl (hb hby (by decide +kernel : decode jdk_52_method_21_code 10 = .ok (.aload_n 0, 1))) rfl rfl (XS.iloadN X.here hx rfl (hb hby (by decide +kernel : decode jdk_52_method_21_code 11 = .ok (.iload_n 1, 1))) rfl ?_))))
    refine X.caload hx (j := Int32.ofNat k) (v := (.int (f k))) (by rw [eT]; exact Aa.1) (State.isArrayOf_alike hZ.alike Aa.2.1) Aa.2.2 ina (Has.at Ha ina (by rw [o2]; exact own_vs_at kN)) (g := mkF m 12 #[rv a, iv (Int32.ofNat k), rv b, iv (Int32.ofNat k), iv (Int32.ofNat N), iv (Int32.ofNat k), own_sl s6] [.int (Int32.ofNat k), .ref a]) rfl rfl (hb hby (by decide +kernel : decode jdk_52_method_21_code 12 = .ok (.caload, 1))) t ?_
    refine XS.istore X.here hx rfl (hb hby (by decide +kernel : decode jdk_52_method_21_code 13 = .ok (.istore 6, 2))) rfl (l' := #[rv a, iv (Int32.ofNat k), rv b, iv (Int32.ofNat k), iv (Int32.ofNat N), iv (Int32.ofNat k), iv (f k)]) (by cases s6 <;> rfl) (XS.iload X.here hx rfl (hb hby (by decide +kernel : decode jdk_52_method_21_code 15 = .ok (.iload 6, 2))) rfl (XS.sipush X.here hx rfl (hb hby (by decide +kernel : decode jdk_52_method_21_code 17 = .ok (.sipush 255, 3))) (XS.icmpYes X.here hx rfl (pc0 := 20) (pc' := 26) rfl (hb hby (by decide +kernel : decode jdk_52_method_21_code 20 = .ok (.if_icmp .le 6, 3))) rfl (flt (low k kq)).2.2.2 (by decide) (by decide) ?_)))
    refine XS.aloadN X.here hx rfl (hb hby (by decide +kernel : decode jdk_52_method_21_code 26 = .ok (.aload_n 2, 1))) rfl rfl (XS.iloadN X.here hx rfl (hb hby (by decide +kernel : decode jdk_52_method_21_code 27 = .ok (.iload_n 3, 1))) rfl (XS.iload X.here hx rfl (hb hby (by decide +kernel : decode jdk_52_method_21_code 28 = .ok (.iload 6, 2))) rfl (XS.i2b X.here hx rfl (hb hby (by decide +kernel : decode jdk_52_method_21_code 30 = .ok (.i2b, 1))) rfl ?_)))
    refine st1 t ?_
    refine XS.iinc X1.here hx rfl (hb hby (by decide +kernel : decode jdk_52_method_21_code 32 = .ok (.iinc 1 1, 3))) rfl (l' := #[rv a, iv (Int32.ofNat (k + 1)), rv b, iv (Int32.ofNat k), iv (Int32.ofNat N), iv (Int32.ofNat k), iv (f k)]) (by rw [← o1]; rfl) (XS.iinc X1.here hx rfl (hb hby (by decide +kernel : decode jdk_52_method_21_code 35 = .ok (.iinc 3 1, 3))) rfl (l' := #[rv a, iv (Int32.ofNat (k + 1)), rv b, iv (Int32.ofNat (k + 1)), iv (Int32.ofNat N), iv (Int32.ofNat k), iv (f k)]) (by rw [← o1]; rfl) (XS.iinc X1.here hx rfl (hb hby (by decide +kernel : decode jdk_52_method_21_code 38 = .ok (.iinc 5 1, 3))) rfl (l' := #[rv a, iv (Int32.ofNat (k + 1)), rv b, iv (Int32.ofNat (k + 1)), iv (Int32.ofNat N), iv (Int32.ofNat (k + 1)), iv (f k)]) (by rw [← o1]; rfl) (XS.goto X1.here hx rfl (pc0 := 41) (pc' := 3) rfl (hb hby (by decide +kernel : decode jdk_52_method_21_code 41 = .ok (.goto (-38), 3))) (by decide) (by decide) ?_)))
    exact st' t kt
end Compress

section GridOf
variable {p : Program} {l : Launch} {e : Env} {R : Room} {s : State} {m : MethodId} {args : Array Value} {below : List Frame} {meth : Method} {c : Code} {Z : State} {a0 : Array Value} {cells slots : Nat} {w a b : Addr} {kb : ClassId} {N n0 : Nat} {f : Nat → Int32}
abbrev own_Grid : String := zs2
abbrev own_Shape : String := zs4
def own_Q9 (n0 : Nat) (h : Heap) (v : Option Value) (h1 : Heap) (L : List Loc) : Prop := v = some (.int (9 : Int32)) ∧ Fr n0 L ∧ h1 = h
abbrev own_r0 : Room := ({ frames := 0, cells := 0, slots := 0, locals := 0 } : Room)
theorem own_pdI : parseMethodDescriptor "()I" = some ⟨[], some .int⟩ := by decide +kernel
set_option maxRecDepth 65536 in
theorem own_lpG (hx : p.tables.exec = Jvm.exec) (hZ : Z.Warmed39 s.vm) (hown : s.vm.findClass own_Grid = some m.cls) (hw : ∀ d ∈ tables_1, d.before a0 Z = true) (hby : c.code = prog_11_method_2_code) (hml : c.maxLocals = 4) (hN : N < 128) (low : ∀ i, i < N → ¬ (f i < (0 : Int32)) ∧ ¬ ((9 : Int32) < f i)) (E : Exa Z Z.heap w own_Shape)
    (hM : ∀ h, Old Z n0 h → MetFree l (⟨own_Shape, "side", "()I"⟩ : MethodName) (head1 [Jvm.Cond.code (⟨own_Shape, "side", "()I"⟩ : MethodName) prog_12_method_2_code 1 (some .int)] ({ frames := 0, cells := 0, slots := 0, locals := 0 } : Room)) (fun A U => A = #[.ref w] ∧ Z.Warmed39 U.vm ∧ U.heap = h) (fun _ _ _ _ _ => True) (fun _ U o U' => ∃ v L, o = .returned v ∧ own_Q9 n0 h v U'.heap L ∧ FrameEnd U o U' L ({ frames := 0, cells := 0, slots := 0, locals := 0 } : Room).cells ({ frames := 0, cells := 0, slots := 0, locals := 0 } : Room).slots))
    (r1 : 0 + 1 ≤ R.frames) (r2 : 1 + (1 + 11) + 0 ≤ R.locals) (r3 : cells + 0 ≤ R.cells) (r4 : slots + 0 ≤ R.slots) {h : Heap} (O : Old Z n0 h) (B : Arv Z h b kb .int (Int32.ofNat N) (own_vs N f) (.int 0)) :
    ∀ (r k : Nat) (T : State) (locs : List Loc), k + r = N → Stand p l e R s m args below meth c T locs cells slots → T.heap = h → Fr n0 locs →
      ∃ (T' : State) (locs' : List Loc), Stand p l e R s m args below meth c T' locs' cells slots ∧ T'.heap = h ∧ Fr n0 locs' ∧
        ∀ t, Steps p.tables e below (T'.setTop (mkF m 38 #[rv w, rv a, rv b, iv (Int32.ofNat N)] [])) t → Steps p.tables e below (T.setTop (mkF m 38 #[rv w, rv a, rv b, iv (Int32.ofNat k)] [])) t := by
  intro r
  induction r with
  | zero =>
    intro k T locs hk X eT F
    cases (show k = N from hk)
    exact ⟨T, locs, X, eT, F, fun t k => k⟩
  | succ r ih =>
    intro k T locs hk X eT F
    have kN : k < N := by omega
    obtain ⟨o1, o2, o3⟩ := own_succ (k := k) (by omega)
    have nN : (Int32.ofNat N).toNatClampNeg = N := (own_ofInt hN).2.2.1
    obtain ⟨cb, Ab, qb, Sb, Mb, Hb, Gb⟩ := id B
    have inb : ¬ (Int32.ofNat k < 0 ∨ cb.slots.size ≤ (Int32.ofNat k).toNatClampNeg) := by
      rw [Sb, nN, o2]
      rintro (u | u)
      · exact o3 u
      · omega
    obtain ⟨_, T1, L1, X1, ⟨rfl, N1, e1⟩, st1⟩ := own_cv (rm := own_r0) (Q := own_Q9 n0 h) (argsL := []) X hx hZ hown (wd hw 91 rfl) (wd hw 92 rfl) (wd hw 94 rfl) (wd hw 93 rfl) (wd hw 95 rfl) (wd hw 48 rfl) (by decide) (hM h O) eT (E.ext O.2) (g := mkF m 54 #[rv w, rv a, rv b, iv (Int32.ofNat k)] [.ref w, .int (f k)]) rfl (by rw [hml]; rfl) (rest := [.int (f k)]) (W := 1) (lenOf own_pdI rfl) rfl (by show 2 * 0 + _ ≤ _; exact Nat.le_of_eq rfl) (hb hby (by decide +kernel : decode prog_11_method_2_code 54 = .ok (.invokevirtual 37, 3))) r1 r2 r3 r4
    obtain ⟨T', locs', X', e', F', st'⟩ := ih (k + 1) T1 _ (by omega) X1 e1 (Fr.app F N1)
    refine ⟨T', locs', X', e', F', fun t kt => ?_⟩
    refine XS.iloadN X.here hx rfl (hb hby (by decide +kernel : decode prog_11_method_2_code 38 = .ok (.iload_n 3, 1))) rfl (XS.aloadN X.here hx rfl (hb hby (by decide +kernel : decode prog_11_method_2_code 39 = .ok (.aload_n 2, 1))) rfl rfl ?_)
    refine X.arraylength hx (by rw [eT]; exact Ab.1) (State.isArrayOf_alike hZ.alike Ab.2.1) (g := mkF m 40 #[rv w, rv a, rv b, iv (Int32.ofNat k)] [.ref b, .int (Int32.ofNat k)]) rfl rfl (hb hby (by decide +kernel : decode prog_11_method_2_code 40 = .ok (.arraylength, 1))) t ?_
    rw [len_of Sb Mb]
    refine XS.icmpNo X.here hx rfl (hb hby (by decide +kernel : decode prog_11_method_2_code 41 = .ok (.if_icmp .ge 42, 3))) rfl (tlt (own_ltN kN hN)).2.1 (XS.aloadN X.here hx rfl (hb hby (by decide +kernel : decode prog_11_method_2_code 44 = .ok (.aload_n 2, 1))) rfl rfl (XS.iloadN X.here hx rfl (hb hby (by decide +kernel : decode prog_11_method_2_code 45 = .ok (.iload_n 3, 1))) rfl ?_))
    refine X.iaload hx (j := Int32.ofNat k) (v := (.int (f k))) (by rw [eT]; exact Ab.1) (State.isArrayOf_alike hZ.alike Ab.2.1) Ab.2.2 inb (Has.at Hb inb (by rw [o2]; exact own_vs_at kN)) (g := mkF m 46 #[rv w, rv a, rv b, iv (Int32.ofNat k)] [.int (Int32.ofNat k), .ref b]) rfl rfl (hb hby (by decide +kernel : decode prog_11_method_2_code 46 = .ok (.iaload, 1))) t ?_
    refine XS.ifNo X.here hx rfl (hb hby (by decide +kernel : decode prog_11_method_2_code 47 = .ok (.ifCond .lt 13, 3))) rfl ((if0 _ _).trans (flt (low k kN).1).1) (XS.aloadN X.here hx rfl (hb hby (by decide +kernel : decode prog_11_method_2_code 50 = .ok (.aload_n 2, 1))) rfl rfl (XS.iloadN X.here hx rfl (hb hby (by decide +kernel : decode prog_11_method_2_code 51 = .ok (.iload_n 3, 1))) rfl ?_))
    refine X.iaload hx (j := Int32.ofNat k) (v := (.int (f k))) (by rw [eT]; exact Ab.1) (State.isArrayOf_alike hZ.alike Ab.2.1) Ab.2.2 inb (Has.at Hb inb (by rw [o2]; exact own_vs_at kN)) (g := mkF m 52 #[rv w, rv a, rv b, iv (Int32.ofNat k)] [.int (Int32.ofNat k), .ref b]) rfl rfl (hb hby (by decide +kernel : decode prog_11_method_2_code 52 = .ok (.iaload, 1))) t ?_
    refine XS.aloadN X.here hx rfl (hb hby (by decide +kernel : decode prog_11_method_2_code 53 = .ok (.aload_n 0, 1))) rfl rfl (st1 t ?_)
    refine XS.icmpYes X1.here hx rfl (pc0 := 57) (pc' := 77) rfl (hb hby (by decide +kernel : decode prog_11_method_2_code 57 = .ok (.if_icmp .le 20, 3))) rfl (flt (low k kN).2).2.2.2 (by decide) (by decide) (XS.iinc X1.here hx rfl (hb hby (by decide +kernel : decode prog_11_method_2_code 77 = .ok (.iinc 3 1, 3))) rfl (l' := #[rv w, rv a, rv b, iv (Int32.ofNat (k + 1))]) (by rw [← o1]; rfl) (XS.goto X1.here hx rfl (pc0 := 80) (pc' := 38) rfl (hb hby (by decide +kernel : decode prog_11_method_2_code 80 = .ok (.goto (-42), 3))) (by decide) (by decide) ?_))
    exact st' t kt
end GridOf

section ToBytes
variable {p : Program} {l : Launch} {e : Env} {R : Room} {s : State} {m : MethodId} {args : Array Value} {below : List Frame} {meth : Method} {c : Code} {Z : State} {a0 : Array Value} {cells slots : Nat} {a b : Addr} {ka kb : ClassId} {n0 : Nat} {f : Nat → Int32}
abbrev own_U16 : String := zs3
def own_lo (x : Int32) : Int32 := (x >>> ((0 : Int32) &&& 31)).toInt8.toInt32
def own_hi (x : Int32) : Int32 := (x >>> ((8 : Int32) &&& 31)).toInt8.toInt32
def own_wt (k : Nat) (f : Nat → Int32) : Nat → Int32 := fun i => if i < 2 * k then (if i % 2 = 0 then own_lo (f (i / 2)) else own_hi (f (i / 2))) else 0
theorem own_wt_step {k : Nat} {f : Nat → Int32} : own_up (own_up (own_wt k f) (2 * k) (own_lo (f k))) (2 * k + 1) (own_hi (f k)) = own_wt (k + 1) f := by
  funext i
  simp only [own_up, own_wt]
  by_cases e1 : i = 2 * k + 1
  · subst e1
    have h1 : (2 * k + 1) / 2 = k := by omega
    have h2 : (2 * k + 1) % 2 = 1 := by omega
    have h3 : 2 * k + 1 < 2 * (k + 1) := by omega
    simp [h1, h2, h3]
  · by_cases e2 : i = 2 * k
    · subst e2
      have h1 : (2 * k) / 2 = k := by omega
      have h2 : (2 * k) % 2 = 0 := by omega
      have h3 : 2 * k < 2 * (k + 1) := by omega
      simp [h1, h2, h3]
    · by_cases q : i < 2 * k
      · have h3 : i < 2 * (k + 1) := by omega
        simp [e1, e2, q, h3]
      · have h3 : ¬ i < 2 * (k + 1) := by omega
        simp [e1, e2, q, h3]
def own_QP (Z : State) (n0 : Nat) (b : Addr) (kb : ClassId) (N : Nat) (g : Nat → Int32) (k : Nat) (x : Int32) (h : Heap) (v : Option Value) (h1 : Heap) (L : List Loc) : Prop := v = none ∧ Fr n0 L ∧ Keep h h1 [b] ∧ Arv Z h1 b kb .byte (Int32.ofNat N) (own_vs N (own_up (own_up g (2 * k) (own_lo x)) (2 * k + 1) (own_hi x))) (.int 0)
theorem own_pdP : parseMethodDescriptor "([BII)V" = some ⟨[.array .byte, .int, .int], none⟩ := by decide +kernel
set_option maxRecDepth 65536 in
theorem own_lpT (hx : p.tables.exec = Jvm.exec) (hZ : Z.Warmed39 s.vm) (hown : s.vm.findClass own_U16 = some m.cls) (hw : ∀ d ∈ tables_1, d.before a0 Z = true) (hby : c.code = jdk_52_method_14_code) (hml : c.maxLocals = 5) (gb : n0 ≤ b) (hab : a ≠ b)
    (hM : ∀ (h : Heap) (g : Nat → Int32) (k : Nat) (x : Int32), k < 82 → Old Z n0 h → Arv Z h b kb .byte (Int32.ofNat 164) (own_vs 164 g) (.int 0) → MetFree l (⟨own_U16, "putChar", "([BII)V"⟩ : MethodName) (head1 [Jvm.Cond.code (⟨own_U16, "putChar", "([BII)V"⟩ : MethodName) jdk_52_method_4_code 3 none] own_r0) (fun A U => A = #[.ref b, .int (Int32.ofNat k), .int x] ∧ Z.Warmed39 U.vm ∧ U.heap = h) (fun _ _ _ _ _ => True) (fun _ U o U' => ∃ v L, o = .returned v ∧ own_QP Z n0 b kb 164 g k x h v U'.heap L ∧ FrameEnd U o U' L own_r0.cells own_r0.slots))
    (r1 : 0 + 1 ≤ R.frames) (r2 : 0 + (3 + 11) + 0 ≤ R.locals) (r3 : cells + 0 ≤ R.cells) (r4 : slots + 0 ≤ R.slots) :
    ∀ (r k : Nat) (T : State) (h : Heap) (locs : List Loc), k + r = 82 → Stand p l e R s m args below meth c T locs cells slots → T.heap = h → Fr n0 locs → Old Z n0 h → Arv Z h a ka .char (Int32.ofNat 82) (own_vs 82 f) (.int 0) → Arv Z h b kb .byte (Int32.ofNat 164) (own_vs 164 (own_wt k f)) (.int 0) →
      ∃ (T' : State) (h' : Heap) (locs' : List Loc), Stand p l e R s m args below meth c T' locs' cells slots ∧ T'.heap = h' ∧ Fr n0 locs' ∧ Keep h h' [b] ∧ Arv Z h' a ka .char (Int32.ofNat 82) (own_vs 82 f) (.int 0) ∧ Arv Z h' b kb .byte (Int32.ofNat 164) (own_vs 164 (own_wt 82 f)) (.int 0) ∧
        ∀ t, Steps p.tables e below (T'.setTop (mkF m 8 #[rv a, iv (Int32.ofNat 82), iv (Int32.ofNat 82), rv b, iv (Int32.ofNat 82)] [])) t → Steps p.tables e below (T.setTop (mkF m 8 #[rv a, iv (Int32.ofNat k), iv (Int32.ofNat 82), rv b, iv (Int32.ofNat k)] [])) t := by
  intro r
  induction r with
  | zero =>
    intro k T h locs hk X eT F O A B
    cases (show k = 82 from hk)
    exact ⟨T, h, locs, X, eT, F, Keep.refl h _, A, B, fun t k => k⟩
  | succ r ih =>
    intro k T h locs hk X eT F O A B
    have kN : k < 82 := by omega
    obtain ⟨o1, o2, o3⟩ := own_succ (k := k) (by omega)
    obtain ⟨ca, Aa, qa, Sa, Ma, Ha, Ga⟩ := id A
    have ina : ¬ (Int32.ofNat k < 0 ∨ ca.slots.size ≤ (Int32.ofNat k).toNatClampNeg) := by
      rw [Sa, (own_ofInt (k := 82) (by omega)).2.2.1, o2]
      rintro (u | u)
      · exact o3 u
      · omega
    obtain ⟨_, T1, L1, X1, ⟨rfl, N1, K1, B1⟩, st1⟩ := own_cs (rm := own_r0) (Q := own_QP Z n0 b kb 164 (own_wt k f) k (f k) h) (argsL := [.ref b, .int (Int32.ofNat k), .int (f k)]) X hx hZ hown (wd hw 134 rfl) (wd hw 135 rfl) (wd hw 136 rfl) (wd hw 25 rfl) (by decide) (hM h _ k (f k) kN O B) eT (g := mkF m 20 #[rv a, iv (Int32.ofNat k), iv (Int32.ofNat 82), rv b, iv (Int32.ofNat k)] [.int (f k), .int (Int32.ofNat k), .ref b]) rfl (by rw [hml]; rfl) (rest := []) (W := 0) (lenOf own_pdP rfl) rfl (by show 2 * 0 + _ ≤ _; exact Nat.le_of_eq rfl) (hb hby (by decide +kernel : decode jdk_52_method_14_code 20 = .ok (.invokestatic 111, 3))) r1 r2 r3 r4
    rw [own_wt_step] at B1
    have A1 : Arv Z T1.heap a ka .char (Int32.ofNat 82) (own_vs 82 f) (.int 0) := A.keep K1 (by simpa using hab)
    have O1 : Old Z n0 T1.heap := O.keep K1 (by simpa using gb)
    obtain ⟨T', h', locs', X', e', F', K', A', B', st'⟩ := ih (k + 1) T1 T1.heap _ (by omega) X1 rfl (Fr.app F N1) O1 A1 B1
    refine ⟨T', h', locs', X', e', F', K1.trans K' (fun x hx => Or.inl hx), A', B', fun t kt => ?_⟩
    refine XS.iload X.here hx rfl (hb hby (by decide +kernel : decode jdk_52_method_14_code 8 = .ok (.iload 4, 2))) rfl (XS.iloadN X.here hx rfl (hb hby (by decide +kernel : decode jdk_52_method_14_code 10 = .ok (.iload_n 2, 1))) rfl (XS.icmpNo X.here hx rfl (hb hby (by decide +kernel : decode jdk_52_method_14_code 11 = .ok (.if_icmp .ge 21, 3))) rfl (tlt (own_ltN kN (by decide))).2.1 (XS.aloadN X.here hx rfl (hb hby (by decide +kernel : decode jdk_52_method_14_code 14 = .ok (.aload_n 3, 1))) rfl rfl (XS.iload X.here hx rfl (hb hby (by decide +kernel : decode jdk_52_method_14_code 15 = .ok (.iload 4, 2))) rfl (XS.aloadN X.here hx rfl (hb hby (by decide +kernel : decode jdk_52_method_14_code 17 = .ok (.aload_n 0, 1))) rfl rfl (XS.iloadN X.here hx rfl (hb hby (by decide +kernel : decode jdk_52_method_14_code 18 = .ok (.iload_n 1, 1))) rfl ?_))))))
    refine X.caload hx (j := Int32.ofNat k) (v := (.int (f k))) (by rw [eT]; exact Aa.1) (State.isArrayOf_alike hZ.alike Aa.2.1) Aa.2.2 ina (Has.at Ha ina (by rw [o2]; exact own_vs_at kN)) (g := mkF m 19 #[rv a, iv (Int32.ofNat k), iv (Int32.ofNat 82), rv b, iv (Int32.ofNat k)] [.int (Int32.ofNat k), .ref a, .int (Int32.ofNat k), .ref b]) rfl rfl (hb hby (by decide +kernel : decode jdk_52_method_14_code 19 = .ok (.caload, 1))) t ?_
    refine st1 t ?_
    refine XS.iinc X1.here hx rfl (hb hby (by decide +kernel : decode jdk_52_method_14_code 23 = .ok (.iinc 1 1, 3))) rfl (l' := #[rv a, iv (Int32.ofNat (k + 1)), iv (Int32.ofNat 82), rv b, iv (Int32.ofNat k)]) (by rw [← o1]; rfl) (XS.iinc X1.here hx rfl (hb hby (by decide +kernel : decode jdk_52_method_14_code 26 = .ok (.iinc 4 1, 3))) rfl (l' := #[rv a, iv (Int32.ofNat (k + 1)), iv (Int32.ofNat 82), rv b, iv (Int32.ofNat (k + 1))]) (by rw [← o1]; rfl) (XS.goto X1.here hx rfl (pc0 := 29) (pc' := 8) rfl (hb hby (by decide +kernel : decode jdk_52_method_14_code 29 = .ok (.goto (-21), 3))) (by decide) (by decide) ?_))
    exact st' t kt
end ToBytes

section Parse
variable {p : Program} {l : Launch} {e : Env} {R : Room} {s : State} {m : MethodId} {args : Array Value} {below : List Frame} {meth : Method} {c : Code} {Z : State} {a0 : Array Value} {cells slots : Nat} {sa b w : Addr} {kb kw : ClassId} {n0 fr lo : Nat} {f rd : Nat → Int32} {P : Heap → Prop}
abbrev own_PL : String := zs5
def own_dg (k : Nat) (f rd : Nat → Int32) : Nat → Int32 := fun i => if i < k then rd (f i).toNatClampNeg else 0
theorem own_dg_step {k : Nat} {f rd : Nat → Int32} : own_up (own_dg k f rd) k (rd (f k).toNatClampNeg) = own_dg (k + 1) f rd := by
  funext i
  simp only [own_up, own_dg]
  by_cases e : i = k
  · subst e; simp
  · by_cases q : i < k
    · simp [e, q, Nat.lt_succ_of_lt q]
    · have : ¬ i < k + 1 := by omega
      simp [e, q, this]
def own_QC (n0 : Nat) (x : Int32) (h : Heap) (v : Option Value) (h1 : Heap) (L : List Loc) : Prop := v = some (.int x) ∧ Fr n0 L ∧ h1 = h
abbrev own_rm (fr lo : Nat) : Room := ({ frames := fr, cells := 0, slots := 0, locals := lo } : Room)
theorem own_pdC : parseMethodDescriptor "(I)C" = some ⟨[.int], some .char⟩ := by decide +kernel
set_option maxRecDepth 65536 in
theorem own_lpP (hx : p.tables.exec = Jvm.exec) (hZ : Z.Warmed39 s.vm) (hown : s.vm.findClass own_PL = some m.cls) (hw : ∀ d ∈ tables_1, d.before a0 Z = true) (hby : c.code = prog_15_method_4_code) (hml : c.maxLocals = 7) (gb : n0 ≤ b)
    (low : ∀ i, i < 81 → ¬ (f i < (0 : Int32)) ∧ f i < (128 : Int32) ∧ ¬ (rd (f i).toNatClampNeg = (-1 : Int32)))
    (SR : Sta Z Z.heap own_PL "READS_AS" "[B" (.ref w)) (VR : Arv Z Z.heap w kw .byte (Int32.ofNat 128) (own_vs 128 rd) (.int 0)) (hPE : ∀ h, P h → Exa Z h sa zs1) (hPK : ∀ h h', P h → Keep h h' [b] → P h')
    (hM : ∀ (h : Heap) (k : Nat), k < 81 → Old Z n0 h → P h → MetFree l (⟨zs1, "charAt", "(I)C"⟩ : MethodName) (head1 [Jvm.Cond.code (⟨zs1, "charAt", "(I)C"⟩ : MethodName) jdk_42_method_56_code 2 (some .char)] (own_rm fr lo)) (fun A U => A = #[.ref sa, .int (Int32.ofNat k)] ∧ Z.Warmed39 U.vm ∧ U.heap = h) (fun _ _ _ _ _ => True) (fun _ U o U' => ∃ v L, o = .returned v ∧ own_QC n0 (f k) h v U'.heap L ∧ FrameEnd U o U' L (own_rm fr lo).cells (own_rm fr lo).slots))
    (r1 : fr + 1 ≤ R.frames) (r2 : 0 + (2 + 11) + lo ≤ R.locals) (r3 : cells + 0 ≤ R.cells) (r4 : slots + 0 ≤ R.slots) :
    ∀ (r k : Nat) (T : State) (h : Heap) (locs : List Loc) (s5 s6 : Option Int32), k + r = 81 → Stand p l e R s m args below meth c T locs cells slots → T.heap = h → Fr n0 locs → Old Z n0 h → P h → Arv Z h b kb .int (Int32.ofNat 81) (own_vs 81 (own_dg k f rd)) (.int 0) →
      ∃ (T' : State) (h' : Heap) (locs' : List Loc) (s5' s6' : Option Int32), Stand p l e R s m args below meth c T' locs' cells slots ∧ T'.heap = h' ∧ Fr n0 locs' ∧ Keep h h' [b] ∧ Arv Z h' b kb .int (Int32.ofNat 81) (own_vs 81 (own_dg 81 f rd)) (.int 0) ∧
        ∀ t, Steps p.tables e below (T'.setTop (mkF m 44 #[rv sa, .val (.long 81), .second, rv b, iv (Int32.ofNat 81), own_sl s5', own_sl s6'] [])) t → Steps p.tables e below (T.setTop (mkF m 44 #[rv sa, .val (.long 81), .second, rv b, iv (Int32.ofNat k), own_sl s5, own_sl s6] [])) t := by
  intro r
  induction r with
  | zero =>
    intro k T h locs s5 s6 hk X eT F O PH B
    cases (show k = 81 from hk)
    exact ⟨T, h, locs, s5, s6, X, eT, F, Keep.refl h _, B, fun t k => k⟩
  | succ r ih =>
    intro k T h locs s5 s6 hk X eT F O PH B
    have kN : k < 81 := by omega
    obtain ⟨o1, o2, o3⟩ := own_succ (k := k) (by omega)
    obtain ⟨l1, l2, l3⟩ := low k kN
    obtain ⟨_, T1, L1, X1, ⟨rfl, N1, e1⟩, st1⟩ := own_cv (rm := own_rm fr lo) (Q := own_QC n0 (f k) h) (argsL := [.int (Int32.ofNat k)]) X hx hZ hown (wd hw 53 rfl) (wd hw 54 rfl) (wd hw 56 rfl) (wd hw 55 rfl) (wd hw 57 rfl) (wd hw 11 rfl) (by decide) (hM h k kN O PH) eT (hPE h PH) (g := mkF m 54 #[rv sa, .val (.long 81), .second, rv b, iv (Int32.ofNat k), own_sl s5, own_sl s6] [.int (Int32.ofNat k), .ref sa]) rfl (by rw [hml]; rfl) (rest := []) (W := 0) (lenOf own_pdC rfl) rfl (by show 2 * 0 + _ ≤ _; exact Nat.le_of_eq rfl) (hb hby (by decide +kernel : decode prog_15_method_4_code 54 = .ok (.invokevirtual 59, 3))) r1 r2 r3 r4
    obtain ⟨T2, X2, e2, st2⟩ := getS2 X1 hx hZ hown (host := "") (Or.inl (wd hw 75 rfl)) Via.refl e1 (SR.ext O.2) (g := mkF m 61 #[rv sa, .val (.long 81), .second, rv b, iv (Int32.ofNat k), iv (f k), own_sl s6] [.int (f k)]) rfl (hb hby (by decide +kernel : decode prog_15_method_4_code 61 = .ok (.getstatic 62, 3)))
    obtain ⟨T3, X3, e3, st3⟩ := getS2 X2 hx hZ hown (host := "") (Or.inl (wd hw 75 rfl)) Via.refl e2 (SR.ext O.2) (g := mkF m 68 #[rv sa, .val (.long 81), .second, rv b, iv (Int32.ofNat k), iv (f k), own_sl s6] []) rfl (hb hby (by decide +kernel : decode prog_15_method_4_code 68 = .ok (.getstatic 62, 3)))
    obtain ⟨cw, Aw, qw, Sw, Mw, Hw, Gw⟩ := VR.ext O.2
    have inw : ¬ (f k < 0 ∨ cw.slots.size ≤ (f k).toNatClampNeg) := inb_of Sw ⟨l1, l2⟩
    obtain ⟨cb, Ab, qb, Sb, Mb, Hb, Gb⟩ := id B
    have inb : ¬ (Int32.ofNat k < 0 ∨ cb.slots.size ≤ (Int32.ofNat k).toNatClampNeg) := by
      rw [Sb, (own_ofInt (k := 81) (by omega)).2.2.1, o2]
      rintro (u | u)
      · exact o3 u
      · omega
    obtain ⟨T4, h4, X4, e4, W4, st4⟩ := stI X3 hx hZ e3 Ab (j := Int32.ofNat k) (x := rd (f k).toNatClampNeg) inb (g := mkF m 117 #[rv sa, .val (.long 81), .second, rv b, iv (Int32.ofNat k), iv (f k), iv (rd (f k).toNatClampNeg)] [.int (rd (f k).toNatClampNeg), .int (Int32.ofNat k), .ref b]) rfl rfl (hb hby (by decide +kernel : decode prog_15_method_4_code 117 = .ok (.iastore, 1)))
    have B4 : Arv Z h4 b kb .int (Int32.ofNat 81) (own_vs 81 (own_dg (k + 1) f rd)) (.int 0) := by
      have qv := Arv.set Ab qb Sb Mb Hb Gb rfl W4 k o2 (by rw [own_vs_len]; exact kN)
      rw [own_vs_set, own_dg_step] at qv
      exact qv
    have K4 := Keep.of_wr W4
    obtain ⟨T', h', locs', s5', s6', X', e', F', K', B', st'⟩ := ih (k + 1) T4 h4 _ (some (f k)) (some (rd (f k).toNatClampNeg)) (by omega) X4 e4 (Fr.snoc X4 (Fr.app F N1) gb) (O.keep K4 (by simpa using gb)) (hPK _ _ PH K4) B4
    refine ⟨T', h', locs', s5', s6', X', e', F', K4.trans K' (fun x hx => Or.inl hx), B', fun t kt => ?_⟩
    refine XS.iload X.here hx rfl (hb hby (by decide +kernel : decode prog_15_method_4_code 44 = .ok (.iload 4, 2))) rfl (XS.aloadN X.here hx rfl (hb hby (by decide +kernel : decode prog_15_method_4_code 46 = .ok (.aload_n 3, 1))) rfl rfl ?_)
    refine X.arraylength hx (by rw [eT]; exact Ab.1) (State.isArrayOf_alike hZ.alike Ab.2.1) (g := mkF m 47 #[rv sa, .val (.long 81), .second, rv b, iv (Int32.ofNat k), own_sl s5, own_sl s6] [.ref b, .int (Int32.ofNat k)]) rfl rfl (hb hby (by decide +kernel : decode prog_15_method_4_code 47 = .ok (.arraylength, 1))) t ?_
    rw [len_of Sb Mb]
    refine XS.icmpNo X.here hx rfl (hb hby (by decide +kernel : decode prog_15_method_4_code 48 = .ok (.if_icmp .ge 76, 3))) rfl (tlt (own_ltN kN (by decide))).2.1 (XS.aloadN X.here hx rfl (hb hby (by decide +kernel : decode prog_15_method_4_code 51 = .ok (.aload_n 0, 1))) rfl rfl (XS.iload X.here hx rfl (hb hby (by decide +kernel : decode prog_15_method_4_code 52 = .ok (.iload 4, 2))) rfl ?_))
    refine st1 t ?_
    refine XS.istore X1.here hx rfl (hb hby (by decide +kernel : decode prog_15_method_4_code 57 = .ok (.istore 5, 2))) rfl (l' := #[rv sa, .val (.long 81), .second, rv b, iv (Int32.ofNat k), iv (f k), own_sl s6]) (by cases s5 <;> cases s6 <;> rfl) (XS.iload X1.here hx rfl (hb hby (by decide +kernel : decode prog_15_method_4_code 59 = .ok (.iload 5, 2))) rfl ?_)
    refine st2 t ?_
    refine X2.arraylength hx (by rw [e2]; exact Aw.1) (State.isArrayOf_alike hZ.alike Aw.2.1) (g := mkF m 64 #[rv sa, .val (.long 81), .second, rv b, iv (Int32.ofNat k), iv (f k), own_sl s6] [.ref w, .int (f k)]) rfl rfl (hb hby (by decide +kernel : decode prog_15_method_4_code 64 = .ok (.arraylength, 1))) t ?_
    rw [len_of Sw Mw]
    refine XS.icmpNo X2.here hx rfl (hb hby (by decide +kernel : decode prog_15_method_4_code 65 = .ok (.if_icmp .ge 12, 3))) rfl (tlt l2).2.1 ?_
    refine st3 t ?_
    refine XS.iload X3.here hx rfl (hb hby (by decide +kernel : decode prog_15_method_4_code 71 = .ok (.iload 5, 2))) rfl ?_
    refine X3.baloadBytes hx (j := f k) (v := (.int (rd (f k).toNatClampNeg))) (by rw [e3]; exact Aw.1) (State.isArrayOf_alike hZ.alike Aw.2.1) Aw.2.2 inw (Has.at Hw inw (own_vs_at (own_inN Sw (by decide) inw))) (g := mkF m 73 #[rv sa, .val (.long 81), .second, rv b, iv (Int32.ofNat k), iv (f k), own_sl s6] [.int (f k), .ref w]) rfl rfl (hb hby (by decide +kernel : decode prog_15_method_4_code 73 = .ok (.baload, 1))) t ?_
    refine XS.goto X3.here hx rfl (pc0 := 74) (pc' := 78) rfl (hb hby (by decide +kernel : decode prog_15_method_4_code 74 = .ok (.goto 4, 3))) (by decide) (by decide) (XS.istore X3.here hx rfl (hb hby (by decide +kernel : decode prog_15_method_4_code 78 = .ok (.istore 6, 2))) rfl (l' := #[rv sa, .val (.long 81), .second, rv b, iv (Int32.ofNat k), iv (f k), iv (rd (f k).toNatClampNeg)]) (by cases s6 <;> rfl) (XS.iload X3.here hx rfl (hb hby (by decide +kernel : decode prog_15_method_4_code 80 = .ok (.iload 6, 2))) rfl (XS.iconst X3.here hx rfl (hb hby (by decide +kernel : decode prog_15_method_4_code 82 = .ok (.iconst (-1), 1))) (XS.icmpYes X3.here hx rfl (pc0 := 83) (pc' := 112) rfl (hb hby (by decide +kernel : decode prog_15_method_4_code 83 = .ok (.if_icmp .ne 29, 3))) rfl (feq l3).2 (by decide) (by decide) (XS.aloadN X3.here hx rfl (hb hby (by decide +kernel : decode prog_15_method_4_code 112 = .ok (.aload_n 3, 1))) rfl rfl (XS.iload X3.here hx rfl (hb hby (by decide +kernel : decode prog_15_method_4_code 113 = .ok (.iload 4, 2))) rfl (XS.iload X3.here hx rfl (hb hby (by decide +kernel : decode prog_15_method_4_code 115 = .ok (.iload 6, 2))) rfl ?_)))))))
    refine st4 t ?_
    refine XS.iinc X4.here hx rfl (hb hby (by decide +kernel : decode prog_15_method_4_code 118 = .ok (.iinc 4 1, 3))) rfl (l' := #[rv sa, .val (.long 81), .second, rv b, iv (Int32.ofNat (k + 1)), iv (f k), iv (rd (f k).toNatClampNeg)]) (by rw [← o1]; rfl) (XS.goto X4.here hx rfl (pc0 := 121) (pc' := 44) rfl (hb hby (by decide +kernel : decode prog_15_method_4_code 121 = .ok (.goto (-77), 3))) (by decide) (by decide) ?_)
    exact st' t kt
end Parse

section PutChar
theorem own_dbl {k : Nat} (h : k < 82) : (Int32.ofNat k <<< ((1 : Int32) &&& 31)) = Int32.ofNat (2 * k) := by
  have e : ∀ k : Fin 82, (Int32.ofNat k.val <<< ((1 : Int32) &&& 31)) = Int32.ofNat (2 * k.val) := by decide +kernel
  exact e ⟨k, h⟩
theorem own_pnU : plainName own_U16 = true := by decide +kernel
theorem own_efP (m : MethodId) (b : Addr) (y x : Int32) : entryFrame m #[.ref b, .int y, .int x] 3 = mkF m 0 #[rv b, iv y, iv x] [] := by first | (simp [entryFrame, mkF, argsToLocals, Value.category]; done) | rfl
set_option maxRecDepth 65536 in
set_option maxHeartbeats 40000000 in
theorem own_rmP (l : Launch) (Z : State) (a0 : Array Value) (hw : ∀ d ∈ tables_1, d.before a0 Z = true) (ws : List Jvm.Cond) {b : Addr} {kb : ClassId} {n0 : Nat} (gb : n0 ≤ b) (SA : Sta Z Z.heap own_U16 zs12 "Z" (.int 1)) (SH : Sta Z Z.heap own_U16 zs15 "I" (.int 0)) (SL : Sta Z Z.heap own_U16 zs16 "I" (.int 8))
    (h0 : Heap) (g : Nat → Int32) (k : Nat) (x : Int32) (kN : k < 82) (O0 : Old Z n0 h0) (B : Arv Z h0 b kb .byte (Int32.ofNat 164) (own_vs 164 g) (.int 0)) :
    MetFree l (⟨own_U16, "putChar", "([BII)V"⟩ : MethodName) (head1 (Jvm.Cond.code (⟨own_U16, "putChar", "([BII)V"⟩ : MethodName) jdk_52_method_4_code 3 none :: ws) own_r0) (fun A U => A = #[.ref b, .int (Int32.ofNat k), .int x] ∧ Z.Warmed39 U.vm ∧ U.heap = h0) (fun _ _ _ _ _ => True) (fun _ U o U' => ∃ v L, o = .returned v ∧ own_QP Z n0 b kb 164 g k x h0 v U'.heap L ∧ FrameEnd U o U' L own_r0.cells own_r0.slots) := by
  refine MetFree.of_bodySF (plainFor_of_name own_pnU) hisR ?_
  intro p e s m args below meth c s₁ Bd hml0 hP hK
  obtain ⟨rfl, hZ, hh⟩ := hP
  have hx := Bd.exec
  have hby := Bd.bytes
  have hml : c.maxLocals = 3 := hml0
  have hown : s.vm.findClass own_U16 = some m.cls := findClass_of_methodNamed Bd.named
  have X0 : Stand p l e own_r0 s m #[.ref b, .int (Int32.ofNat k), .int x] below meth c s₁ [] 0 0 := Stand.of_body Bd
  have e0 : s₁.heap = h0 := by rw [← hh, Bd.state]; rfl
  have N0 := Fr.nil n0
  refine own_out ?_
  refine own_via (fun t k => castTop (own_efP m b _ x) k) ?_
  obtain ⟨T1, X1, e1, st1⟩ := getS2 X0 hx hZ hown (host := "") (Or.inl (wd hw 137 rfl)) Via.refl e0 (SA.ext O0.2) (g := mkF m 0 #[rv b, iv (Int32.ofNat k), iv x] []) rfl (hb hby (by decide +kernel : decode jdk_52_method_4_code 0 = .ok (.getstatic 44, 3)))
  refine own_via (fun t kt => st1 t (XS.ifYes X1.here hx rfl (pc0 := 3) (pc' := 28) rfl (hb hby (by decide +kernel : decode jdk_52_method_4_code 3 = .ok (.ifCond .ne 25, 3))) rfl ((if0 _ _).trans (feq (by decide : ¬ ((1 : Int32) = (0 : Int32)))).2) (by decide) (by decide) (XS.iloadN X1.here hx rfl (hb hby (by decide +kernel : decode jdk_52_method_4_code 28 = .ok (.iload_n 1, 1))) rfl (XS.iconst X1.here hx rfl (hb hby (by decide +kernel : decode jdk_52_method_4_code 29 = .ok (.iconst 1, 1))) (XS.ishl X1.here hx rfl (hb hby (by decide +kernel : decode jdk_52_method_4_code 30 = .ok (.ishl, 1))) rfl kt))))) ?_
  show own_Goes p e below (T1.setTop (mkF m 31 #[rv b, iv (Int32.ofNat k), iv x] [.int (Int32.ofNat k <<< ((1 : Int32) &&& 31))])) _
  rw [own_dbl kN]
  obtain ⟨o1, o2, o3⟩ := own_succ (k := 2 * k) (by omega)
  obtain ⟨-, p2, p3⟩ := own_succ (k := 2 * k + 1) (by omega)
  have n164 : (Int32.ofNat 164).toNatClampNeg = 164 := by decide
  refine own_via (fun t kt => XS.istoreN X1.here hx rfl (hb hby (by decide +kernel : decode jdk_52_method_4_code 31 = .ok (.istore_n 1, 1))) rfl (l' := #[rv b, iv (Int32.ofNat (2 * k)), iv x]) rfl (XS.aloadN X1.here hx rfl (hb hby (by decide +kernel : decode jdk_52_method_4_code 32 = .ok (.aload_n 0, 1))) rfl rfl (XS.iloadN X1.here hx rfl (hb hby (by decide +kernel : decode jdk_52_method_4_code 33 = .ok (.iload_n 1, 1))) rfl (XS.iinc X1.here hx rfl (hb hby (by decide +kernel : decode jdk_52_method_4_code 34 = .ok (.iinc 1 1, 3))) rfl (l' := #[rv b, iv (Int32.ofNat (2 * k + 1)), iv x]) (by rw [← o1]; rfl) (XS.iloadN X1.here hx rfl (hb hby (by decide +kernel : decode jdk_52_method_4_code 37 = .ok (.iload_n 2, 1))) rfl kt))))) ?_
  show own_Goes p e below (T1.setTop (mkF m 38 #[rv b, iv (Int32.ofNat (2 * k + 1)), iv x] [.int x, .int (Int32.ofNat (2 * k)), .ref b])) _
  obtain ⟨T2, X2, e2, st2⟩ := getS2 X1 hx hZ hown (host := "") (Or.inl (wd hw 138 rfl)) Via.refl e1 (SH.ext O0.2) (g := mkF m 38 #[rv b, iv (Int32.ofNat (2 * k + 1)), iv x] [.int x, .int (Int32.ofNat (2 * k)), .ref b]) rfl (hb hby (by decide +kernel : decode jdk_52_method_4_code 38 = .ok (.getstatic 59, 3)))
  refine own_via (fun t kt => st2 t (XS.ishr X2.here hx rfl (hb hby (by decide +kernel : decode jdk_52_method_4_code 41 = .ok (.ishr, 1))) rfl (XS.i2b X2.here hx rfl (hb hby (by decide +kernel : decode jdk_52_method_4_code 42 = .ok (.i2b, 1))) rfl kt))) ?_
  show own_Goes p e below (T2.setTop (mkF m 43 #[rv b, iv (Int32.ofNat (2 * k + 1)), iv x] [.int (own_lo x), .int (Int32.ofNat (2 * k)), .ref b])) _
  obtain ⟨cb, Ab, qb, Sb, Mb, Hb, Gb⟩ := id B
  have inb : ¬ (Int32.ofNat (2 * k) < 0 ∨ cb.slots.size ≤ (Int32.ofNat (2 * k)).toNatClampNeg) := by
    rw [Sb, n164, o2]
    rintro (u | u)
    · exact o3 u
    · omega
  obtain ⟨T3, h3, X3, e3, W3, st3⟩ := stB X2 hx hZ e2 Ab (j := Int32.ofNat (2 * k)) (x := own_lo x) inb (g := mkF m 43 #[rv b, iv (Int32.ofNat (2 * k + 1)), iv x] [.int (own_lo x), .int (Int32.ofNat (2 * k)), .ref b]) rfl rfl (hb hby (by decide +kernel : decode jdk_52_method_4_code 43 = .ok (.bastore, 1)))
  have B3 : Arv Z h3 b kb .byte (Int32.ofNat 164) (own_vs 164 (own_up g (2 * k) (own_lo x))) (.int 0) := by
    have qv := Arv.set Ab qb Sb Mb Hb Gb (fits_nar_byte (own_lo x)) W3 (2 * k) o2 (by rw [own_vs_len]; omega)
    rw [show (own_lo x).toInt8.toInt32 = own_lo x from own_b2 _, own_vs_set] at qv
    exact qv
  refine own_via (fun t kt => st3 t (XS.aloadN X3.here hx rfl (hb hby (by decide +kernel : decode jdk_52_method_4_code 44 = .ok (.aload_n 0, 1))) rfl rfl (XS.iloadN X3.here hx rfl (hb hby (by decide +kernel : decode jdk_52_method_4_code 45 = .ok (.iload_n 1, 1))) rfl (XS.iloadN X3.here hx rfl (hb hby (by decide +kernel : decode jdk_52_method_4_code 46 = .ok (.iload_n 2, 1))) rfl kt)))) ?_
  show own_Goes p e below (T3.setTop (mkF m 47 #[rv b, iv (Int32.ofNat (2 * k + 1)), iv x] [.int x, .int (Int32.ofNat (2 * k + 1)), .ref b])) _
  have O3 : Old Z n0 h3 := O0.keep (Keep.of_wr W3) (by simpa using gb)
  obtain ⟨T4, X4, e4, st4⟩ := getS2 X3 hx hZ hown (host := "") (Or.inl (wd hw 139 rfl)) Via.refl e3 (SL.ext O3.2) (g := mkF m 47 #[rv b, iv (Int32.ofNat (2 * k + 1)), iv x] [.int x, .int (Int32.ofNat (2 * k + 1)), .ref b]) rfl (hb hby (by decide +kernel : decode jdk_52_method_4_code 47 = .ok (.getstatic 63, 3)))
  refine own_via (fun t kt => st4 t (XS.ishr X4.here hx rfl (hb hby (by decide +kernel : decode jdk_52_method_4_code 50 = .ok (.ishr, 1))) rfl (XS.i2b X4.here hx rfl (hb hby (by decide +kernel : decode jdk_52_method_4_code 51 = .ok (.i2b, 1))) rfl kt))) ?_
  show own_Goes p e below (T4.setTop (mkF m 52 #[rv b, iv (Int32.ofNat (2 * k + 1)), iv x] [.int (own_hi x), .int (Int32.ofNat (2 * k + 1)), .ref b])) _
  obtain ⟨cd, Ad, qd, Sd, Md, Hd, Gd⟩ := id B3
  have ind : ¬ (Int32.ofNat (2 * k + 1) < 0 ∨ cd.slots.size ≤ (Int32.ofNat (2 * k + 1)).toNatClampNeg) := by
    rw [Sd, n164, p2]
    rintro (u | u)
    · exact p3 u
    · omega
  obtain ⟨T5, h5, X5, e5, W5, st5⟩ := stB X4 hx hZ e4 Ad (j := Int32.ofNat (2 * k + 1)) (x := own_hi x) ind (g := mkF m 52 #[rv b, iv (Int32.ofNat (2 * k + 1)), iv x] [.int (own_hi x), .int (Int32.ofNat (2 * k + 1)), .ref b]) rfl rfl (hb hby (by decide +kernel : decode jdk_52_method_4_code 52 = .ok (.bastore, 1)))
  have B5 : Arv Z h5 b kb .byte (Int32.ofNat 164) (own_vs 164 (own_up (own_up g (2 * k) (own_lo x)) (2 * k + 1) (own_hi x))) (.int 0) := by
    have qv := Arv.set Ad qd Sd Md Hd Gd (fits_nar_byte (own_hi x)) W5 (2 * k + 1) p2 (by rw [own_vs_len]; omega)
    rw [show (own_hi x).toInt8.toInt32 = own_hi x from own_b2 _, own_vs_set] at qv
    exact qv
  refine own_via (fun t kt => st5 t kt) ?_
  show own_Goes p e below (T5.setTop (mkF m 53 #[rv b, iv (Int32.ofNat (2 * k + 1)), iv x] [])) _
  obtain ⟨fs, hr, hrun, hended, hW, hsame⟩ := X5.leave (v := none) (fun _ => rfl)
  refine own_end (t := T5.setFrames fs) ?_ ⟨_, hrun, hended, _, _, rfl, ?_, ⟨_, rfl⟩, hW, hsame.mono (by decide) (by decide)⟩
  · exact X5.returnOut hx Bd.returns (hb hby (by decide +kernel : decode jdk_52_method_4_code 53 = .ok (.return_, 1))) hr
  · show own_QP Z n0 b kb 164 g k x h0 _ T5.heap _
    rw [e5]
    exact ⟨rfl, Fr.snoc X5 (Fr.snoc X3 N0 gb) gb, (Keep.of_wr W3).trans (Keep.of_wr W5) (fun x hx => Or.inl hx), B5⟩
end PutChar

section GetChar
def own_gc (u v : Int32) : Int32 := (((u &&& 255) <<< ((0 : Int32) &&& 31)) ||| ((v &&& 255) <<< ((8 : Int32) &&& 31))).toUInt32.toUInt16.toUInt32.toInt32
theorem own_efG (m : MethodId) (b : Addr) (y : Int32) : entryFrame m #[.ref b, .int y] 2 = mkF m 0 #[rv b, iv y] [] := by first | (simp [entryFrame, mkF, argsToLocals, Value.category]; done) | rfl
set_option maxRecDepth 65536 in
set_option maxHeartbeats 40000000 in
theorem own_rmG (l : Launch) (Z : State) (a0 : Array Value) (hw : ∀ d ∈ tables_1, d.before a0 Z = true) (ws : List Jvm.Cond) {b : Addr} {kb : ClassId} {n0 : Nat} (SA : Sta Z Z.heap own_U16 zs12 "Z" (.int 1)) (SH : Sta Z Z.heap own_U16 zs15 "I" (.int 0)) (SL : Sta Z Z.heap own_U16 zs16 "I" (.int 8))
    (h0 : Heap) (g : Nat → Int32) (k : Nat) (kN : k < 82) (O0 : Old Z n0 h0) (B : Arv Z h0 b kb .byte (Int32.ofNat 164) (own_vs 164 g) (.int 0)) :
    MetFree l (⟨own_U16, "getChar", "([BI)C"⟩ : MethodName) (head1 (Jvm.Cond.code (⟨own_U16, "getChar", "([BI)C"⟩ : MethodName) jdk_52_method_5_code 2 (some .char) :: ws) own_r0) (fun A U => A = #[.ref b, .int (Int32.ofNat k)] ∧ Z.Warmed39 U.vm ∧ U.heap = h0) (fun _ _ _ _ _ => True) (fun _ U o U' => ∃ v L, o = .returned v ∧ own_QC n0 (own_gc (g (2 * k)) (g (2 * k + 1))) h0 v U'.heap L ∧ FrameEnd U o U' L own_r0.cells own_r0.slots) := by
  refine MetFree.of_bodySF (plainFor_of_name own_pnU) hisR ?_
  intro p e s m args below meth c s₁ Bd hml0 hP hK
  obtain ⟨rfl, hZ, hh⟩ := hP
  have hx := Bd.exec
  have hby := Bd.bytes
  have hml : c.maxLocals = 2 := hml0
  have hown : s.vm.findClass own_U16 = some m.cls := findClass_of_methodNamed Bd.named
  have X0 : Stand p l e own_r0 s m #[.ref b, .int (Int32.ofNat k)] below meth c s₁ [] 0 0 := Stand.of_body Bd
  have e0 : s₁.heap = h0 := by rw [← hh, Bd.state]; rfl
  have N0 := Fr.nil n0
  refine own_out ?_
  refine own_via (fun t k => castTop (own_efG m b _) k) ?_
  obtain ⟨T1, X1, e1, st1⟩ := getS2 X0 hx hZ hown (host := "") (Or.inl (wd hw 137 rfl)) Via.refl e0 (SA.ext O0.2) (g := mkF m 0 #[rv b, iv (Int32.ofNat k)] []) rfl (hb hby (by decide +kernel : decode jdk_52_method_5_code 0 = .ok (.getstatic 44, 3)))
  refine own_via (fun t kt => st1 t (XS.ifYes X1.here hx rfl (pc0 := 3) (pc' := 28) rfl (hb hby (by decide +kernel : decode jdk_52_method_5_code 3 = .ok (.ifCond .ne 25, 3))) rfl ((if0 _ _).trans (feq (by decide : ¬ ((1 : Int32) = (0 : Int32)))).2) (by decide) (by decide) (XS.iloadN X1.here hx rfl (hb hby (by decide +kernel : decode jdk_52_method_5_code 28 = .ok (.iload_n 1, 1))) rfl (XS.iconst X1.here hx rfl (hb hby (by decide +kernel : decode jdk_52_method_5_code 29 = .ok (.iconst 1, 1))) (XS.ishl X1.here hx rfl (hb hby (by decide +kernel : decode jdk_52_method_5_code 30 = .ok (.ishl, 1))) rfl kt))))) ?_
  show own_Goes p e below (T1.setTop (mkF m 31 #[rv b, iv (Int32.ofNat k)] [.int (Int32.ofNat k <<< ((1 : Int32) &&& 31))])) _
  rw [own_dbl kN]
  obtain ⟨o1, o2, o3⟩ := own_succ (k := 2 * k) (by omega)
  obtain ⟨-, p2, p3⟩ := own_succ (k := 2 * k + 1) (by omega)
  have n164 : (Int32.ofNat 164).toNatClampNeg = 164 := by decide
  obtain ⟨cb, Ab, qb, Sb, Mb, Hb, Gb⟩ := id B
  have inb : ¬ (Int32.ofNat (2 * k) < 0 ∨ cb.slots.size ≤ (Int32.ofNat (2 * k)).toNatClampNeg) := by
    rw [Sb, n164, o2]
    rintro (u | u)
    · exact o3 u
    · omega
  have inc : ¬ (Int32.ofNat (2 * k + 1) < 0 ∨ cb.slots.size ≤ (Int32.ofNat (2 * k + 1)).toNatClampNeg) := by
    rw [Sb, n164, p2]
    rintro (u | u)
    · exact p3 u
    · omega
  refine own_via (fun t kt => XS.istoreN X1.here hx rfl (hb hby (by decide +kernel : decode jdk_52_method_5_code 31 = .ok (.istore_n 1, 1))) rfl (l' := #[rv b, iv (Int32.ofNat (2 * k))]) rfl (XS.aloadN X1.here hx rfl (hb hby (by decide +kernel : decode jdk_52_method_5_code 32 = .ok (.aload_n 0, 1))) rfl rfl (XS.iloadN X1.here hx rfl (hb hby (by decide +kernel : decode jdk_52_method_5_code 33 = .ok (.iload_n 1, 1))) rfl (XS.iinc X1.here hx rfl (hb hby (by decide +kernel : decode jdk_52_method_5_code 34 = .ok (.iinc 1 1, 3))) rfl (l' := #[rv b, iv (Int32.ofNat (2 * k + 1))]) (by rw [← o1]; rfl) kt)))) ?_
  show own_Goes p e below (T1.setTop (mkF m 37 #[rv b, iv (Int32.ofNat (2 * k + 1))] [.int (Int32.ofNat (2 * k)), .ref b])) _
  refine own_via (fun t kt => X1.baloadBytes hx (j := Int32.ofNat (2 * k)) (v := (.int (g (2 * k)))) (by rw [e1]; exact Ab.1) (State.isArrayOf_alike hZ.alike Ab.2.1) Ab.2.2 inb (Has.at Hb inb (by rw [o2]; exact own_vs_at (by omega))) (g := mkF m 37 #[rv b, iv (Int32.ofNat (2 * k + 1))] [.int (Int32.ofNat (2 * k)), .ref b]) rfl rfl (hb hby (by decide +kernel : decode jdk_52_method_5_code 37 = .ok (.baload, 1))) t (XS.sipush X1.here hx rfl (hb hby (by decide +kernel : decode jdk_52_method_5_code 38 = .ok (.sipush 255, 3))) (XS.iand X1.here hx rfl (hb hby (by decide +kernel : decode jdk_52_method_5_code 41 = .ok (.iand, 1))) rfl kt))) ?_
  show own_Goes p e below (T1.setTop (mkF m 42 #[rv b, iv (Int32.ofNat (2 * k + 1))] [.int ((g (2 * k)) &&& 255)])) _
  obtain ⟨T2, X2, e2, st2⟩ := getS2 X1 hx hZ hown (host := "") (Or.inl (wd hw 138 rfl)) Via.refl e1 (SH.ext O0.2) (g := mkF m 42 #[rv b, iv (Int32.ofNat (2 * k + 1))] [.int ((g (2 * k)) &&& 255)]) rfl (hb hby (by decide +kernel : decode jdk_52_method_5_code 42 = .ok (.getstatic 59, 3)))
  refine own_via (fun t kt => st2 t (XS.ishl X2.here hx rfl (hb hby (by decide +kernel : decode jdk_52_method_5_code 45 = .ok (.ishl, 1))) rfl (XS.aloadN X2.here hx rfl (hb hby (by decide +kernel : decode jdk_52_method_5_code 46 = .ok (.aload_n 0, 1))) rfl rfl (XS.iloadN X2.here hx rfl (hb hby (by decide +kernel : decode jdk_52_method_5_code 47 = .ok (.iload_n 1, 1))) rfl kt)))) ?_
  show own_Goes p e below (T2.setTop (mkF m 48 #[rv b, iv (Int32.ofNat (2 * k + 1))] [.int (Int32.ofNat (2 * k + 1)), .ref b, .int (((g (2 * k)) &&& 255) <<< ((0 : Int32) &&& 31))])) _
  refine own_via (fun t kt => X2.baloadBytes hx (j := Int32.ofNat (2 * k + 1)) (v := (.int (g (2 * k + 1)))) (by rw [e2]; exact Ab.1) (State.isArrayOf_alike hZ.alike Ab.2.1) Ab.2.2 inc (Has.at Hb inc (by rw [p2]; exact own_vs_at (by omega))) (g := mkF m 48 #[rv b, iv (Int32.ofNat (2 * k + 1))] [.int (Int32.ofNat (2 * k + 1)), .ref b, .int (((g (2 * k)) &&& 255) <<< ((0 : Int32) &&& 31))]) rfl rfl (hb hby (by decide +kernel : decode jdk_52_method_5_code 48 = .ok (.baload, 1))) t (XS.sipush X2.here hx rfl (hb hby (by decide +kernel : decode jdk_52_method_5_code 49 = .ok (.sipush 255, 3))) (XS.iand X2.here hx rfl (hb hby (by decide +kernel : decode jdk_52_method_5_code 52 = .ok (.iand, 1))) rfl kt))) ?_
  show own_Goes p e below (T2.setTop (mkF m 53 #[rv b, iv (Int32.ofNat (2 * k + 1))] [.int ((g (2 * k + 1)) &&& 255), .int (((g (2 * k)) &&& 255) <<< ((0 : Int32) &&& 31))])) _
  obtain ⟨T3, X3, e3, st3⟩ := getS2 X2 hx hZ hown (host := "") (Or.inl (wd hw 139 rfl)) Via.refl e2 (SL.ext O0.2) (g := mkF m 53 #[rv b, iv (Int32.ofNat (2 * k + 1))] [.int ((g (2 * k + 1)) &&& 255), .int (((g (2 * k)) &&& 255) <<< ((0 : Int32) &&& 31))]) rfl (hb hby (by decide +kernel : decode jdk_52_method_5_code 53 = .ok (.getstatic 63, 3)))
  refine own_via (fun t kt => st3 t (XS.ishl X3.here hx rfl (hb hby (by decide +kernel : decode jdk_52_method_5_code 56 = .ok (.ishl, 1))) rfl (XS.ior X3.here hx rfl (hb hby (by decide +kernel : decode jdk_52_method_5_code 57 = .ok (.ior, 1))) rfl (XS.i2c X3.here hx rfl (hb hby (by decide +kernel : decode jdk_52_method_5_code 58 = .ok (.i2c, 1))) rfl kt)))) ?_
  show own_Goes p e below (T3.setTop (mkF m 59 #[rv b, iv (Int32.ofNat (2 * k + 1))] [.int (own_gc (g (2 * k)) (g (2 * k + 1)))])) _
  obtain ⟨fs, hr, hrun, hended, hW, hsame⟩ := X3.leave (v := some (.int (nar .char (own_gc (g (2 * k)) (g (2 * k + 1)))))) (fun h => by rw [Bd.returns] at h; cases h)
  refine own_end (t := T3.setFrames fs) ?_ ⟨_, hrun, hended, _, _, rfl, ?_, ⟨_, rfl⟩, hW, hsame.mono (by decide) (by decide)⟩
  · exact retN X3 hx (t := .char) Bd.returns (by simp) (hb hby (by decide +kernel : decode jdk_52_method_5_code 59 = .ok (.ireturn, 1))) hr
  · show own_QC n0 _ h0 _ T3.heap _
    rw [e3]
    exact ⟨by rw [show nar .char (own_gc (g (2 * k)) (g (2 * k + 1))) = own_gc (g (2 * k)) (g (2 * k + 1)) from own_c2 _], N0, rfl⟩
end GetChar
/-! the plain part: the symbols, the digits, the chars -/
def own_rf : Option Addr → Value
  | none => .null
  | some a => .ref a
theorem own_isRf {args : Array Value} {s : State} {t : Term} (h : (Jvm.Cond.isRef t).value args s none s [] = some true) : ∃ o, t.eval args s none [] s = some (own_rf o) := by
  obtain ⟨x, e, hx⟩ := isR_v h
  rcases ref_cases hx with rfl | ⟨a, rfl⟩
  · exact ⟨none, e⟩
  · exact ⟨some a, e⟩
theorem own_z_new {Z : State} {h : Heap} {a : Addr} {k : ClassId} {ty : FieldType} {n : Int32} {M : Nat} {g : Nat → Int32} (A : Arv Z h a k ty n [] (.int 0)) (hg : ∀ i, g i = 0) : Arv Z h a k ty n (own_vs M g) (.int 0) := A.pad fun i => by
  by_cases q : i < M
  · rw [own_vs_at q, hg]; simp
  · rw [List.getD_eq_getElem?_getD, List.getElem?_eq_none (by rw [own_vs_len]; exact Nat.le_of_not_lt q)]; simp
theorem own_fl_zero (z : Int32) : ∀ i, own_fl 0 z i = 0 := fun i => by simp [own_fl]
theorem own_bt_zero (f : Nat → Int32) : ∀ i, own_bt 0 f i = 0 := fun i => by simp [own_bt]
theorem own_dg_zero (f rd : Nat → Int32) : ∀ i, own_dg 0 f rd i = 0 := fun i => by simp [own_dg]
theorem own_wt_zero (f : Nat → Int32) : ∀ i, own_wt 0 f i = 0 := fun i => by simp [own_wt]
theorem own_recast {l : Launch} {y : MethodName} {n0 c k : Nat} {h : Heap} {x x' : Int32} {S : Spec} {P : Array Value → State → Prop} {K : Program → Env → List Frame → State → Array Value → Prop} (e : x = x') (q : MetFree l y S P K (fun _ U o U' => ∃ v L, o = .returned v ∧ own_QC n0 x h v U'.heap L ∧ FrameEnd U o U' L c k)) : MetFree l y S P K (fun _ U o U' => ∃ v L, o = .returned v ∧ own_QC n0 x' h v U'.heap L ∧ FrameEnd U o U' L c k) := by
  subst e
  exact q
theorem own_fe81 : own_fe code 15 107 0 81 = some 587 := by decide +kernel
theorem own_fe82 : own_fe code 15 593 0 82 = some 1079 := by decide +kernel
def own_sym (k : Int32) : Int32 := if k = 0 then 46 else if k = 10 then 48 else (48 + k).toUInt32.toUInt16.toUInt32.toInt32
theorem own_sym_0 {k : Int32} (h : k = (0 : Int32)) : (46 : Int32) = own_sym k := by simp [own_sym, h]
theorem own_sym_1 {k : Int32} (h0 : ¬ (k = (0 : Int32))) (h : k = (10 : Int32)) : (48 : Int32) = own_sym k := by subst h; rfl
theorem own_sym_2 {k : Int32} (h0 : ¬ (k = (0 : Int32))) (h : ¬ (k = (10 : Int32))) : nar .char (((48 : Int32) + k).toUInt32.toUInt16.toUInt32.toInt32) = own_sym k := by
  rw [show nar .char (((48 : Int32) + k).toUInt32.toUInt16.toUInt32.toInt32) = ((48 : Int32) + k).toUInt32.toUInt16.toUInt32.toInt32 from own_c2 _]
  simp [own_sym, h0, h]
theorem own_narS (k : Int32) : nar .char (own_sym k) = own_sym k := by
  by_cases h0 : k = 0
  · subst h0; decide
  · by_cases h : k = 10
    · subst h; decide
    · rw [← own_sym_2 h0 h]; exact own_c2 _
def own_val (k : Int32) : Int32 := if k = 10 then 0 else k
theorem own_val_0 {k : Int32} (h : k = (10 : Int32)) : (0 : Int32) = own_val k := by simp [own_val, h]
theorem own_val_1 {k : Int32} (h : ¬ (k = (10 : Int32))) : k = own_val k := by simp [own_val, h]
def own_exp (p i ki j kj kf : Int32) : Int32 := if p = j then own_val kj else if p = i then own_val ki else own_val kf
theorem own_exp_0 {p i ki j kj kf : Int32} (h : p = j) : own_val kj = own_exp p i ki j kj kf := by simp [own_exp, h]
theorem own_exp_1 {p i ki j kj kf : Int32} (h0 : ¬ (p = j)) (h : p = i) : own_val ki = own_exp p i ki j kj kf := by rw [own_exp, if_neg h0, if_pos h]
theorem own_exp_2 {p i ki j kj kf : Int32} (h0 : ¬ (p = j)) (h : ¬ (p = i)) : own_val kf = own_exp p i ki j kj kf := by rw [own_exp, if_neg h0, if_neg h]
theorem own_lm {x : Int64} {y : Int32} {n : Int64} (hn : 0 < n.toInt) (hn2 : n.toInt < 128) (h : y = ((x &&& (2147483647 : Int64)) - ((x &&& (2147483647 : Int64)) / n) * n).toInt32) : 0 ≤ y.toInt ∧ y.toInt < n.toInt := by
  have a := Jvm.Kit.i64_mask x 2147483647 (k := 31) (by decide) (by decide)
  have b := Jvm.Kit.i64_rem_nonneg (x := x &&& (2147483647 : Int64)) (y := n) (by rw [a]; omega)
  have c0 := Int.emod_nonneg (x &&& (2147483647 : Int64)).toInt (show n.toInt ≠ 0 by omega)
  have c1 := Int.emod_lt_of_pos (x &&& (2147483647 : Int64)).toInt hn
  rw [h, Jvm.Kit.i32_of_i64 (by omega) (by omega), b]
  exact ⟨c0, c1⟩
theorem own_lm81 {x : Int64} {y : Int32} (h : y = ((x &&& (2147483647 : Int64)) - ((x &&& (2147483647 : Int64)) / (81 : Int64)) * (81 : Int64)).toInt32) : ¬ (y < (0 : Int32)) ∧ y < (81 : Int32) := by
  obtain ⟨a, b⟩ := own_lm (n := 81) (by decide) (by decide) h
  rw [Int32.lt_iff_toInt_lt, Int32.lt_iff_toInt_lt]
  have e : (81 : Int64).toInt = 81 := by decide
  have e' : (81 : Int32).toInt = 81 := by decide
  rw [Int32.toInt_zero, e']
  omega
theorem own_lm11 {x : Int64} {y : Int32} (h : y = ((x &&& (2147483647 : Int64)) - ((x &&& (2147483647 : Int64)) / (11 : Int64)) * (11 : Int64)).toInt32) : ¬ (y < (0 : Int32)) ∧ y < (11 : Int32) := by
  obtain ⟨a, b⟩ := own_lm (n := 11) (by decide) (by decide) h
  rw [Int32.lt_iff_toInt_lt, Int32.lt_iff_toInt_lt]
  have e : (11 : Int64).toInt = 11 := by decide
  have e' : (11 : Int32).toInt = 11 := by decide
  rw [Int32.toInt_zero, e']
  omega
theorem own_81_82 {y : Int32} (h : y < (81 : Int32)) : y < (82 : Int32) := by
  rw [Int32.lt_iff_toInt_lt] at h ⊢
  have e : (81 : Int32).toInt = 81 := by decide
  have e' : (82 : Int32).toInt = 82 := by decide
  omega
theorem own_narC {y x : Int32} (h : y = x.toUInt32.toUInt16.toUInt32.toInt32) : nar .char y = y := by rw [h]; exact own_c2 _
def own_oks : List Int32 := [46, 48, 49, 50, 51, 52, 53, 54, 55, 56, 57]
def own_ok (x : Int32) : Prop := x ∈ own_oks
def own_okF (f : Nat → Int32) : Prop := ∀ i, i < 81 → own_ok (f i)
def own_rdOK (rd : Nat → Int32) : Prop := rd 46 = 0 ∧ ∀ i, 48 ≤ i → i < 58 → rd i = Int32.ofNat i - 48
def own_digs (D : Nat → Int32) : Prop := ∀ i, i < 81 → ¬ (D i < (0 : Int32)) ∧ ¬ ((9 : Int32) < D i)
theorem own_ok_all {x : Int32} (h : own_ok x) : ¬ ((255 : Int32) < x) ∧ ¬ (x < (0 : Int32)) ∧ x < (128 : Int32) ∧ nar .char x = x ∧ nar .char ((x.toInt8.toInt32 &&& (255 : Int32)).toUInt32.toUInt16.toUInt32.toInt32) = x := by
  have e : ∀ x ∈ own_oks, ¬ ((255 : Int32) < x) ∧ ¬ (x < (0 : Int32)) ∧ x < (128 : Int32) ∧ nar .char x = x ∧ nar .char ((x.toInt8.toInt32 &&& (255 : Int32)).toUInt32.toUInt16.toUInt32.toInt32) = x := by decide +kernel
  exact e x h
def own_ks : List Int32 := [0, 1, 2, 3, 4, 5, 6, 7, 8, 9, 10]
theorem own_k11 {k : Int32} (h0 : ¬ (k < (0 : Int32))) (h1 : k < (11 : Int32)) : k ∈ own_ks := by
  rw [Int32.lt_iff_toInt_lt] at h0 h1
  rw [Int32.toInt_zero] at h0
  rw [show (11 : Int32).toInt = 11 from by decide] at h1
  have e : ∀ j : Int32, k.toInt = j.toInt → k = j := fun j q => Int32.toInt_inj.mp q
  rcases (by omega : k.toInt = 0 ∨ k.toInt = 1 ∨ k.toInt = 2 ∨ k.toInt = 3 ∨ k.toInt = 4 ∨ k.toInt = 5 ∨ k.toInt = 6 ∨ k.toInt = 7 ∨ k.toInt = 8 ∨ k.toInt = 9 ∨ k.toInt = 10) with q | q | q | q | q | q | q | q | q | q | q
  · rw [e 0 (q.trans rfl)]; decide
  · rw [e 1 (q.trans rfl)]; decide
  · rw [e 2 (q.trans rfl)]; decide
  · rw [e 3 (q.trans rfl)]; decide
  · rw [e 4 (q.trans rfl)]; decide
  · rw [e 5 (q.trans rfl)]; decide
  · rw [e 6 (q.trans rfl)]; decide
  · rw [e 7 (q.trans rfl)]; decide
  · rw [e 8 (q.trans rfl)]; decide
  · rw [e 9 (q.trans rfl)]; decide
  · rw [e 10 (q.trans rfl)]; decide
theorem own_ok_sym {k : Int32} (h0 : ¬ (k < (0 : Int32))) (h1 : k < (11 : Int32)) : own_ok (own_sym k) := by
  have e : ∀ k ∈ own_ks, own_sym k ∈ own_oks := by decide +kernel
  exact e k (own_k11 h0 h1)
theorem own_rd_all {rd : Nat → Int32} (H : own_rdOK rd) {x : Int32} (h : own_ok x) : ¬ (rd x.toNatClampNeg < (0 : Int32)) ∧ ¬ ((9 : Int32) < rd x.toNatClampNeg) ∧ ¬ (rd x.toNatClampNeg = (-1 : Int32)) := by
  have e : ∀ x ∈ own_oks, x.toNatClampNeg = 46 ∨ (48 ≤ x.toNatClampNeg ∧ x.toNatClampNeg < 58) := by decide +kernel
  rcases e x h with q | ⟨q1, q2⟩
  · rw [q, H.1]; decide
  · rw [H.2 _ q1 q2]
    have d : ∀ i : Fin 58, 48 ≤ i.val → ¬ (Int32.ofNat i.val - 48 < (0 : Int32)) ∧ ¬ ((9 : Int32) < Int32.ofNat i.val - 48) ∧ ¬ (Int32.ofNat i.val - 48 = (-1 : Int32)) := by decide +kernel
    exact d ⟨_, q2⟩ q1
theorem own_rd_sym {rd : Nat → Int32} (H : own_rdOK rd) {k : Int32} (h0 : ¬ (k < (0 : Int32))) (h1 : k < (11 : Int32)) : rd (own_sym k).toNatClampNeg = own_val k := by
  have e : ∀ k ∈ own_ks, ((own_sym k).toNatClampNeg = 46 ∧ own_val k = 0) ∨ (48 ≤ (own_sym k).toNatClampNeg ∧ (own_sym k).toNatClampNeg < 58 ∧ Int32.ofNat (own_sym k).toNatClampNeg - 48 = own_val k) := by decide +kernel
  rcases e k (own_k11 h0 h1) with ⟨q1, q2⟩ | ⟨q1, q2, q3⟩
  · rw [q1, H.1, q2]
  · rw [H.2 _ q1 q2, q3]
theorem own_rdStart {args : Array Value} {s : State} {t : Term} {a : Addr} {c : Cell} (hf : Fit s) (A : Arr s s.heap a c .byte) (ev : t.eval args s none [] s = some (.ref a)) (hl : (Jvm.Cond.eq (.length t) (.int (128 : Int32))).value args s none s [] = some true) (et : ∀ idx, t.eval args s none idx s = some (.ref a))
    (h3 : (Jvm.Cond.all t (Jvm.Cond.or (Jvm.Cond.lt (.index 0) (.int 47)) (Jvm.Cond.or (Jvm.Cond.le (.int 58) (.index 0)) (Jvm.Cond.eq (.elem t (.index 0)) (.sub (.index 0) (.int 48)))))).value args s none s [] = some true)
    (h46 : (Jvm.Cond.eq (.elem t (.int 46)) (.int 0)).value args s none s [] = some true) : ∃ rd kc, Arv s s.heap a kc .byte (128 : Int32) (own_vs 128 rd) (.int (0 : Int32)) ∧ own_rdOK rd := by
  obtain ⟨l1, l2⟩ := own_len31 ev A hl
  have S : c.slots.size = (128 : Int32).toNatClampNeg := by
    rw [← l2]
    simp only [Int32.toNatClampNeg, len_toInt l1]
    rfl
  exact ⟨own_cf c, c.cls, own_arvF hf A S (by decide) (by decide) (by decide), own_rd et A S h3 h46⟩
theorem own_lowC {f : Nat → Int32} (H : own_okF f) : ∀ i, i < 81 → ¬ ((255 : Int32) < f i) := fun i hi => (own_ok_all (H i hi)).1
theorem own_lowC2 {f : Nat → Int32} (H : own_okF f) (h : ¬ ((255 : Int32) < (f 81))) : ∀ i, i < 82 → ¬ ((255 : Int32) < f i) := fun i hi => by
  by_cases q : i < 81
  · exact (own_ok_all (H i q)).1
  · have e : i = 81 := by omega
    rw [e]
    exact h
theorem own_lowP {f rd : Nat → Int32} (H : own_okF f) (R : own_rdOK rd) : ∀ i, i < 81 → ¬ (f i < (0 : Int32)) ∧ f i < (128 : Int32) ∧ ¬ (rd (f i).toNatClampNeg = (-1 : Int32)) := fun i hi => ⟨(own_ok_all (H i hi)).2.1, (own_ok_all (H i hi)).2.2.1, (own_rd_all R (H i hi)).2.2⟩
theorem own_digs_mk {f rd : Nat → Int32} (H : own_okF f) (R : own_rdOK rd) : own_digs (own_dg 81 f rd) := fun i hi => by
  simp only [own_dg, if_pos hi]
  exact ⟨(own_rd_all R (H i hi)).1, (own_rd_all R (H i hi)).2.1⟩
theorem own_ix {k : Nat} (h : k < 81) : ¬ (Int32.ofNat k < (0 : Int32)) ∧ Int32.ofNat k < (81 : Int32) ∧ Int32.ofNat k < (82 : Int32) := by
  have e : ∀ k : Fin 81, ¬ (Int32.ofNat k.val < (0 : Int32)) ∧ Int32.ofNat k.val < (81 : Int32) ∧ Int32.ofNat k.val < (82 : Int32) := by decide +kernel
  exact e ⟨k, h⟩
theorem own_nat {k : Nat} (h : k < 81) : (Int32.ofNat k).toNatClampNeg = k := (own_succ (k := k) (by omega)).2.1
theorem own_n81 {p : Int32} (h : p < (81 : Int32)) : p.toNatClampNeg < 81 := by
  rw [Int32.lt_iff_toInt_lt, show (81 : Int32).toInt = 81 from by decide] at h
  simp only [Int32.toNatClampNeg]
  omega
theorem own_n82 {p : Int32} (h : p < (81 : Int32)) : p.toNatClampNeg < 82 := Nat.lt_succ_of_lt (own_n81 h)
theorem own_okC {f : Nat → Int32} {p : Int32} (H : own_okF f) (h0 : ¬ (p < (0 : Int32))) (h1 : p < (81 : Int32)) : nar .char (f p.toNatClampNeg) = f p.toNatClampNeg := (own_ok_all (H _ (own_n81 h1))).2.2.2.1
theorem own_foldC {f : Nat → Int32} {p : Int32} (H : own_okF f) (h0 : ¬ (p < (0 : Int32))) (h1 : p < (81 : Int32)) : nar .char (f p.toNatClampNeg) = f p.toNatClampNeg := own_okC H h0 h1
theorem own_foldL {f : Nat → Int32} {p : Int32} {N : Nat} (hN : 81 ≤ N) (H : own_okF f) (h0 : ¬ (p < (0 : Int32))) (h1 : p < (81 : Int32)) : nar .char (((own_bt N f p.toNatClampNeg) &&& (255 : Int32)).toUInt32.toUInt16.toUInt32.toInt32) = f p.toNatClampNeg := by
  have q := own_n81 h1
  simp only [own_bt, if_pos (Nat.lt_of_lt_of_le q hN)]
  exact (own_ok_all (H _ q)).2.2.2.2
theorem own_inj {p i : Int32} (h0 : ¬ (p < (0 : Int32))) (h1 : ¬ (i < (0 : Int32))) (e : p.toNatClampNeg = i.toNatClampNeg) : p = i := by
  rw [← (back32 h0).1, ← (back32 h1).1, e]
theorem own_ok81 {F : Nat → Int32} {i j kf ki kj : Int32} (hF : F = (own_up (own_up (own_fl 81 (own_sym kf)) (i).toNatClampNeg (own_sym ki)) (j).toNatClampNeg (own_sym kj))) (a0 : ¬ (kf < (0 : Int32))) (a1 : kf < (11 : Int32)) (b0 : ¬ (ki < (0 : Int32))) (b1 : ki < (11 : Int32)) (c0 : ¬ (kj < (0 : Int32))) (c1 : kj < (11 : Int32)) : own_okF F := fun x hx => by
  subst hF
  simp only [own_up, own_fl, if_pos hx]
  by_cases q1 : x = j.toNatClampNeg
  · rw [if_pos q1]; exact own_ok_sym c0 c1
  · rw [if_neg q1]
    by_cases q2 : x = i.toNatClampNeg
    · rw [if_pos q2]; exact own_ok_sym b0 b1
    · rw [if_neg q2]; exact own_ok_sym a0 a1
theorem own_ok82 {F : Nat → Int32} {i j kf ki kj ex : Int32} (hF : F = (own_up (own_up (own_up (own_fl 82 (own_sym kf)) (i).toNatClampNeg (own_sym ki)) (j).toNatClampNeg (own_sym kj)) 81 ex)) (a0 : ¬ (kf < (0 : Int32))) (a1 : kf < (11 : Int32)) (b0 : ¬ (ki < (0 : Int32))) (b1 : ki < (11 : Int32)) (c0 : ¬ (kj < (0 : Int32))) (c1 : kj < (11 : Int32)) : own_okF F := fun x hx => by
  subst hF
  simp only [own_up, own_fl, if_neg (show ¬ x = 81 by omega), if_pos (show x < 82 by omega)]
  by_cases q1 : x = j.toNatClampNeg
  · rw [if_pos q1]; exact own_ok_sym c0 c1
  · rw [if_neg q1]
    by_cases q2 : x = i.toNatClampNeg
    · rw [if_pos q2]; exact own_ok_sym b0 b1
    · rw [if_neg q2]; exact own_ok_sym a0 a1
theorem own_last {F G : Nat → Int32} {ex : Int32} (hF : F = (own_up G 81 ex)) (h : nar .char ex = ex) : nar .char (F 81) = F 81 := by
  subst hF
  simpa [own_up] using h
theorem own_fin81 {F rd : Nat → Int32} {p i j kf ki kj : Int32} (hF : F = (own_up (own_up (own_fl 81 (own_sym kf)) (i).toNatClampNeg (own_sym ki)) (j).toNatClampNeg (own_sym kj))) (R : own_rdOK rd) (p0 : ¬ (p < (0 : Int32))) (p1 : p < (81 : Int32)) (i0 : ¬ (i < (0 : Int32))) (i1 : i < (81 : Int32)) (j0 : ¬ (j < (0 : Int32))) (j1 : j < (81 : Int32)) (a0 : ¬ (kf < (0 : Int32))) (a1 : kf < (11 : Int32)) (b0 : ¬ (ki < (0 : Int32))) (b1 : ki < (11 : Int32)) (c0 : ¬ (kj < (0 : Int32))) (c1 : kj < (11 : Int32)) : (own_dg 81 F rd) (p).toNatClampNeg = own_exp p i ki j kj kf := by
  subst hF
  have hx := own_n81 p1
  simp only [own_dg, own_up, own_fl, if_pos hx]
  by_cases q1 : p = j
  · rw [if_pos (congrArg _ q1), own_rd_sym R c0 c1]; exact own_exp_0 q1
  · rw [if_neg (fun q => q1 (own_inj p0 j0 q))]
    by_cases q2 : p = i
    · rw [if_pos (congrArg _ q2), own_rd_sym R b0 b1]; exact own_exp_1 q1 q2
    · rw [if_neg (fun q => q2 (own_inj p0 i0 q)), own_rd_sym R a0 a1]; exact own_exp_2 q1 q2
theorem own_fin82 {F rd : Nat → Int32} {p i j kf ki kj ex : Int32} (hF : F = (own_up (own_up (own_up (own_fl 82 (own_sym kf)) (i).toNatClampNeg (own_sym ki)) (j).toNatClampNeg (own_sym kj)) 81 ex)) (R : own_rdOK rd) (p0 : ¬ (p < (0 : Int32))) (p1 : p < (81 : Int32)) (i0 : ¬ (i < (0 : Int32))) (i1 : i < (81 : Int32)) (j0 : ¬ (j < (0 : Int32))) (j1 : j < (81 : Int32)) (a0 : ¬ (kf < (0 : Int32))) (a1 : kf < (11 : Int32)) (b0 : ¬ (ki < (0 : Int32))) (b1 : ki < (11 : Int32)) (c0 : ¬ (kj < (0 : Int32))) (c1 : kj < (11 : Int32)) : (own_dg 81 F rd) (p).toNatClampNeg = own_exp p i ki j kj kf := by
  subst hF
  have hx := own_n81 p1
  simp only [own_dg, own_up, own_fl, if_pos hx, if_neg (show ¬ p.toNatClampNeg = 81 by omega), if_pos (show p.toNatClampNeg < 82 by omega)]
  by_cases q1 : p = j
  · rw [if_pos (congrArg _ q1), own_rd_sym R c0 c1]; exact own_exp_0 q1
  · rw [if_neg (fun q => q1 (own_inj p0 j0 q))]
    by_cases q2 : p = i
    · rw [if_pos (congrArg _ q2), own_rd_sym R b0 b1]; exact own_exp_1 q1 q2
    · rw [if_neg (fun q => q2 (own_inj p0 i0 q)), own_rd_sym R a0 a1]; exact own_exp_2 q1 q2
/-! a char in two bytes -/
theorem own_gcM (M : BitVec 32) (hM : ∀ j, j < 32 → M.getLsbD j = decide (j < 8)) (x : BitVec 32) : ((((x.sshiftRight 0).signExtend 8).signExtend 32 &&& M) <<< 0 ||| (((x.sshiftRight 8).signExtend 8).signExtend 32 &&& M) <<< 8).setWidth 16 = x.setWidth 16 := by
  apply BitVec.eq_of_getLsbD_eq
  intro i hi
  simp only [BitVec.getLsbD_setWidth, BitVec.getLsbD_or, BitVec.getLsbD_shiftLeft, BitVec.getLsbD_and, BitVec.getLsbD_signExtend, BitVec.getLsbD_sshiftRight]
  have m1 : ∀ j (h : j < 32), M[j] = decide (j < 8) := fun j h => by rw [← BitVec.getLsbD_eq_getElem]; exact hM j h
  by_cases q : i < 8
  · simp [hi, q, hM i (by omega), m1 i (by omega), show i < 32 by omega, show ¬ 32 ≤ i by omega]
  · simp [hi, q, hM i (by omega), hM (i - 8) (by omega), m1 i (by omega), m1 (i - 8) (by omega), show i < 32 by omega, show i - 8 < 8 by omega, show i - 8 < 32 by omega, show 8 + (i - 8) = i by omega, show ¬ 32 ≤ i - 8 by omega, show ¬ 32 ≤ i by omega]
theorem own_255 : ∀ j, j < 32 → (255#32).getLsbD j = decide (j < 8) := by
  have e : ∀ j : Fin 32, (255#32).getLsbD j.val = decide (j.val < 8) := by decide
  exact fun j hj => e ⟨j, hj⟩
theorem own_gcx (x : Int32) : own_gc (own_lo x) (own_hi x) = nar .char x := by
  have e := own_gcM 255#32 own_255 x.toBitVec
  show UInt32.toInt32 (UInt16.toUInt32 _) = UInt32.toInt32 (UInt16.toUInt32 _)
  congr 2
  apply UInt16.toBitVec_inj.mp
  exact e
theorem own_gcw {f : Nat → Int32} {k : Nat} (hk : k < 82) (h : nar .char (f k) = f k) : own_gc (own_wt 82 f (2 * k)) (own_wt 82 f (2 * k + 1)) = f k := by
  have a1 : 2 * k < 2 * 82 := by omega
  have a2 : 2 * k + 1 < 2 * 82 := by omega
  have a3 : (2 * k) % 2 = 0 := by omega
  have a4 : (2 * k + 1) % 2 = 1 := by omega
  have a5 : (2 * k) / 2 = k := by omega
  have a6 : (2 * k + 1) / 2 = k := by omega
  have e1 : own_wt 82 f (2 * k) = own_lo (f k) := by simp only [own_wt]; rw [if_pos a1, if_pos a3, a5]
  have e2 : own_wt 82 f (2 * k + 1) = own_hi (f k) := by simp only [own_wt]; rw [if_pos a2, if_neg (by omega), a6]
  rw [e1, e2, own_gcx, h]
theorem own_rmG2 (l : Launch) (Z : State) (a0 : Array Value) (hw : ∀ d ∈ tables_1, d.before a0 Z = true) (ws : List Jvm.Cond) {b : Addr} {kb : ClassId} {n0 : Nat} (SA : Sta Z Z.heap own_U16 zs12 "Z" (.int 1)) (SH : Sta Z Z.heap own_U16 zs15 "I" (.int 0)) (SL : Sta Z Z.heap own_U16 zs16 "I" (.int 8))
    (h0 : Heap) (g : Nat → Int32) (p : Int32) (p0 : ¬ (p < (0 : Int32))) (p1 : p < (81 : Int32)) (O0 : Old Z n0 h0) (B : Arv Z h0 b kb .byte (Int32.ofNat 164) (own_vs 164 g) (.int 0)) :
    MetFree l (⟨own_U16, "getChar", "([BI)C"⟩ : MethodName) (head1 (Jvm.Cond.code (⟨own_U16, "getChar", "([BI)C"⟩ : MethodName) jdk_52_method_5_code 2 (some .char) :: ws) own_r0) (fun A U => A = #[.ref b, .int p] ∧ Z.Warmed39 U.vm ∧ U.heap = h0) (fun _ _ _ _ _ => True) (fun _ U o U' => ∃ v L, o = .returned v ∧ own_QC n0 (own_gc (g (2 * p.toNatClampNeg)) (g (2 * p.toNatClampNeg + 1))) h0 v U'.heap L ∧ FrameEnd U o U' L own_r0.cells own_r0.slots) := by
  have q := own_rmG l Z a0 hw ws SA SH SL h0 g p.toNatClampNeg (own_n82 p1) O0 B
  rw [show Int32.ofNat p.toNatClampNeg = p from (back32 p0).1] at q
  exact q
theorem own_ne_int {args : Array Value} {s : State} {t : Term} {z : Int32} (h : (Jvm.Cond.not (Jvm.Cond.eq t (.int 0))).value args s none s [] = some true) (ha : t.eval args s none [] s = some (.int z)) : ¬ (z = (0 : Int32)) := fun q => by
  have h1 := eq_i ha (Term.int_eval (0 : Int32)) (congrArg Value.int q)
  have h2 := not_v h
  rw [h1] at h2
  cases h2
theorem d1_0 : decode method_2_code 0 = .ok (.iload_n 0, 1) := by decide +kernel
theorem d1_1 : decode method_2_code 1 = .ok (.ifCond .ne 6, 3) := by decide +kernel
theorem d1_4 : decode method_2_code 4 = .ok (.bipush 46, 2) := by decide +kernel
theorem d1_6 : decode method_2_code 6 = .ok (.ireturn, 1) := by decide +kernel
theorem d1_7 : decode method_2_code 7 = .ok (.iload_n 0, 1) := by decide +kernel
theorem d1_8 : decode method_2_code 8 = .ok (.bipush 10, 2) := by decide +kernel
theorem d1_10 : decode method_2_code 10 = .ok (.if_icmp .ne 6, 3) := by decide +kernel
theorem d1_13 : decode method_2_code 13 = .ok (.bipush 48, 2) := by decide +kernel
theorem d1_15 : decode method_2_code 15 = .ok (.ireturn, 1) := by decide +kernel
theorem d1_16 : decode method_2_code 16 = .ok (.bipush 48, 2) := by decide +kernel
theorem d1_18 : decode method_2_code 18 = .ok (.iload_n 0, 1) := by decide +kernel
theorem d1_19 : decode method_2_code 19 = .ok (.iadd, 1) := by decide +kernel
theorem d1_20 : decode method_2_code 20 = .ok (.i2c, 1) := by decide +kernel
theorem d1_21 : decode method_2_code 21 = .ok (.ireturn, 1) := by decide +kernel
theorem ef_1 (m : MethodId) (x0 : Int32) : entryFrame m #[(.int x0)] 1 = mkF m 0 #[iv x0] [] := by first | (simp [entryFrame, mkF, argsToLocals, Value.category]; done) | rfl
theorem pn_1 : plainName "com/example/pencilmark/pencilmark/line/PuzzleLineParsePinLaw" = true := by first | (simp [plainName, overriddenIn]; done) | decide +kernel
def Q1 (Z : State) (p57 : Int32) (h0 : Heap) (n0 : Nat) (v : Option Value) (h : Heap) (L : List Loc) : Prop := v = some (.int (own_sym p57)) ∧ Fr n0 L ∧ h = h0
set_option maxRecDepth 65536 in
set_option maxHeartbeats 40000000 in
theorem rm1 (l : Launch) (Z : State) (a0 : Array Value) (hw : ∀ d ∈ tables_1, d.before a0 Z = true) (ws : List Jvm.Cond) (p57 : Int32) (h0 : Heap) (n0 : Nat) (O0 : Old Z n0 h0) :
    MetFree l (⟨zs6, "sym", "(I)C"⟩ : MethodName) (head1 (Jvm.Cond.code (⟨zs6, "sym", "(I)C"⟩ : MethodName) method_2_code 1 (some .char) :: ws) ({ frames := 0, cells := 0, slots := 0, locals := 0 } : Room)) (fun a U => a = #[(.int p57)] ∧ Z.Warmed39 U.vm ∧ U.heap = h0) (fun _ _ _ _ _ => True) (fun _ U o U' => ∃ v L, o = .returned v ∧ Q1 Z p57 h0 n0 v U'.heap L ∧ FrameEnd U o U' L ({ frames := 0, cells := 0, slots := 0, locals := 0 } : Room).cells ({ frames := 0, cells := 0, slots := 0, locals := 0 } : Room).slots) := by
  refine MetFree.of_bodySF (plainFor_of_name pn_1) hisR ?_
  intro p e s m args below meth c s₁ Bd hml0 hP hK
  obtain ⟨rfl, hZ, hh⟩ := hP
  have hx := Bd.exec
  have hby := Bd.bytes
  have hml : c.maxLocals = 1 := hml0
  have hown : s.vm.findClass zs6 = some m.cls := findClass_of_methodNamed Bd.named
  have hnm := (name_of_methodNamed Bd.named Bd.method).1
  have X0 : Stand p l e ({ frames := 0, cells := 0, slots := 0, locals := 0 } : Room) s m #[(.int p57)] below meth c s₁ [] 0 0 := Stand.of_body Bd
  have e0 : s₁.heap = h0 := by rw [← hh, Bd.state]; rfl
  have N0 := Fr.nil n0
  refine own_out ?_
  refine own_via (fun t k => castTop (ef_1 m p57) (XS.iloadN X0.here hx rfl (hb hby d1_0) rfl k)) ?_
  show own_Goes p e below (s₁.setTop (mkF m 1 #[iv p57] [(.int p57)])) _
  by_cases hc102 : p57 = (0 : Int32)
  · refine own_via (fun t k => XS.ifNo X0.here hx rfl (hb hby d1_1) rfl ((if0 _ _).trans (teq hc102).2) (XS.bipush X0.here hx rfl (hb hby d1_4) k)) ?_
    obtain ⟨fs, hr, hrun, hended, hW, hsame⟩ := X0.leave (v := some (.int (46 : Int32))) (fun h => by rw [Bd.returns] at h; cases h)
    refine own_end (t := s₁.setFrames fs) ?_ ⟨_, hrun, hended, _, _, rfl, ?_, ⟨_, rfl⟩, hW, hsame.mono (by decide) (by decide)⟩
    · exact retN X0 hx (t := .char) Bd.returns (by simp) (hb hby d1_6) hr
    · show Q1 Z p57 h0 n0 _ s₁.heap _
      rw [e0]
      exact ⟨(congrArg (fun q => some (Value.int q)) (own_sym_0 hc102)), N0, rfl⟩
  · refine own_via (fun t k => XS.ifYes X0.here hx rfl (pc0 := 1) (pc' := 7) rfl (hb hby d1_1) rfl ((if0 _ _).trans (feq hc102).2) (by decide) (by decide) (XS.iloadN X0.here hx rfl (hb hby d1_7) rfl (XS.bipush X0.here hx rfl (hb hby d1_8) k))) ?_
    show own_Goes p e below (s₁.setTop (mkF m 10 #[iv p57] [(.int (10 : Int32)), (.int p57)])) _
    by_cases hc103 : p57 = (10 : Int32)
    · refine own_via (fun t k => XS.icmpNo X0.here hx rfl (hb hby d1_10) rfl (teq hc103).2 (XS.bipush X0.here hx rfl (hb hby d1_13) k)) ?_
      obtain ⟨fs, hr, hrun, hended, hW, hsame⟩ := X0.leave (v := some (.int (48 : Int32))) (fun h => by rw [Bd.returns] at h; cases h)
      refine own_end (t := s₁.setFrames fs) ?_ ⟨_, hrun, hended, _, _, rfl, ?_, ⟨_, rfl⟩, hW, hsame.mono (by decide) (by decide)⟩
      · exact retN X0 hx (t := .char) Bd.returns (by simp) (hb hby d1_15) hr
      · show Q1 Z p57 h0 n0 _ s₁.heap _
        rw [e0]
        exact ⟨(congrArg (fun q => some (Value.int q)) (own_sym_1 hc102 hc103)), N0, rfl⟩
    · refine own_via (fun t k => XS.icmpYes X0.here hx rfl (pc0 := 10) (pc' := 16) rfl (hb hby d1_10) rfl (feq hc103).2 (by decide) (by decide) (XS.bipush X0.here hx rfl (hb hby d1_16) (XS.iloadN X0.here hx rfl (hb hby d1_18) rfl (XS.iadd X0.here hx rfl (hb hby d1_19) rfl (XS.i2c X0.here hx rfl (hb hby d1_20) rfl k))))) ?_
      show own_Goes p e below (s₁.setTop (mkF m 21 #[iv p57] [(.int (((48 : Int32) + p57).toUInt32.toUInt16.toUInt32.toInt32))])) _
      obtain ⟨fs, hr, hrun, hended, hW, hsame⟩ := X0.leave (v := some (.int (nar .char (((48 : Int32) + p57).toUInt32.toUInt16.toUInt32.toInt32)))) (fun h => by rw [Bd.returns] at h; cases h)
      refine own_end (t := s₁.setFrames fs) ?_ ⟨_, hrun, hended, _, _, rfl, ?_, ⟨_, rfl⟩, hW, hsame.mono (by decide) (by decide)⟩
      · exact retN X0 hx (t := .char) Bd.returns (by simp) (hb hby d1_21) hr
      · show Q1 Z p57 h0 n0 _ s₁.heap _
        rw [e0]
        exact ⟨(congrArg (fun q => some (Value.int q)) (own_sym_2 hc102 hc103)), N0, rfl⟩
theorem pd_1 : parseMethodDescriptor "(I)C" = some ⟨[.int], some .char⟩ := by decide +kernel
theorem d2_0 : decode jdk_42_method_3_code 0 = .ok (.aload_n 0, 1) := by decide +kernel
theorem d2_1 : decode jdk_42_method_3_code 1 = .ok (.aload_n 1, 1) := by decide +kernel
theorem d2_2 : decode jdk_42_method_3_code 2 = .ok (.iconst 0, 1) := by decide +kernel
theorem d2_3 : decode jdk_42_method_3_code 3 = .ok (.aload_n 1, 1) := by decide +kernel
theorem d2_4 : decode jdk_42_method_3_code 4 = .ok (.arraylength, 1) := by decide +kernel
theorem d2_5 : decode jdk_42_method_3_code 5 = .ok (.aconst_null, 1) := by decide +kernel
theorem d2_6 : decode jdk_42_method_3_code 6 = .ok (.invokespecial 27, 3) := by decide +kernel
theorem d3_0 : decode jdk_42_method_149_code 0 = .ok (.aload_n 0, 1) := by decide +kernel
theorem d3_1 : decode jdk_42_method_149_code 1 = .ok (.invokespecial 1, 3) := by decide +kernel
theorem d3_4 : decode jdk_42_method_149_code 4 = .ok (.iload_n 3, 1) := by decide +kernel
theorem d3_5 : decode jdk_42_method_149_code 5 = .ok (.ifCond .ne 22, 3) := by decide +kernel
theorem d3_27 : decode jdk_42_method_149_code 27 = .ok (.getstatic 38, 3) := by decide +kernel
theorem d3_30 : decode jdk_42_method_149_code 30 = .ok (.ifCond .eq 28, 3) := by decide +kernel
theorem d3_33 : decode jdk_42_method_149_code 33 = .ok (.aload_n 1, 1) := by decide +kernel
theorem d3_34 : decode jdk_42_method_149_code 34 = .ok (.iload_n 2, 1) := by decide +kernel
theorem d3_35 : decode jdk_42_method_149_code 35 = .ok (.iload_n 3, 1) := by decide +kernel
theorem d3_36 : decode jdk_42_method_149_code 36 = .ok (.invokestatic 177, 3) := by decide +kernel
theorem d5_0 : decode jdk_52_method_16_code 0 = .ok (.iload_n 2, 1) := by decide +kernel
theorem d5_1 : decode jdk_52_method_16_code 1 = .ok (.newarray .byte, 2) := by decide +kernel
theorem d5_3 : decode jdk_52_method_16_code 3 = .ok (.astore_n 3, 1) := by decide +kernel
theorem d5_4 : decode jdk_52_method_16_code 4 = .ok (.aload_n 0, 1) := by decide +kernel
theorem d5_5 : decode jdk_52_method_16_code 5 = .ok (.iload_n 1, 1) := by decide +kernel
theorem d5_6 : decode jdk_52_method_16_code 6 = .ok (.aload_n 3, 1) := by decide +kernel
theorem d5_7 : decode jdk_52_method_16_code 7 = .ok (.iconst 0, 1) := by decide +kernel
theorem d5_8 : decode jdk_52_method_16_code 8 = .ok (.iload_n 2, 1) := by decide +kernel
theorem d5_9 : decode jdk_52_method_16_code 9 = .ok (.invokestatic 115, 3) := by decide +kernel
theorem d6_0 : decode jdk_52_method_21_code 0 = .ok (.iconst 0, 1) := by decide +kernel
theorem d6_1 : decode jdk_52_method_21_code 1 = .ok (.istore 5, 2) := by decide +kernel
theorem own_neV {Z : State} {h : Heap} {a b : Addr} {k k' : ClassId} {ty ty' : FieldType} {z z' : Int32} {vs vs' : List Value} {d d' : Value} (A : Arv Z h a k ty z vs d) (B : Arv Z h b k' ty' z' vs' d') (ht : ty ≠ ty') : a ≠ b := fun e => by
  subst e
  obtain ⟨c, ⟨a1, ⟨-, kA, hkA, compA, hkindA⟩, -⟩, -⟩ := A
  obtain ⟨c', ⟨b1, ⟨-, kB, hkB, compB, hkindB⟩, -⟩, -⟩ := B
  cases a1.symm.trans b1
  cases hkA.symm.trans hkB
  have := hkindA.symm.trans hkindB
  injection this with _ e
  exact ht e
theorem d6_3 : decode jdk_52_method_21_code 3 = .ok (.iload 5, 2) := by decide +kernel
theorem d6_5 : decode jdk_52_method_21_code 5 = .ok (.iload 4, 2) := by decide +kernel
theorem d6_7 : decode jdk_52_method_21_code 7 = .ok (.if_icmp .ge 37, 3) := by decide +kernel
theorem d6_44 : decode jdk_52_method_21_code 44 = .ok (.iload 4, 2) := by decide +kernel
theorem d6_46 : decode jdk_52_method_21_code 46 = .ok (.ireturn, 1) := by decide +kernel
theorem ef_2 (m : MethodId) (x0 : Addr) (x1 : Int32) (x2 : Addr) (x3 : Int32) (x4 : Int32) : entryFrame m #[(.ref x0), (.int x1), (.ref x2), (.int x3), (.int x4)] 7 = mkF m 0 #[rv x0, iv x1, rv x2, iv x3, iv x4, .unset, .unset] [] := by first | (simp [entryFrame, mkF, argsToLocals, Value.category]; done) | rfl
theorem pn_2 : plainName "java/lang/StringUTF16" = true := by first | (simp [plainName, overriddenIn]; done) | decide +kernel
def Q2 (Z : State) (a350 : Addr) (a351 : Addr) (f352 : Nat → Int32) (k359 : ClassId) (k353 : ClassId) (h0 : Heap) (n0 : Nat) (v : Option Value) (h : Heap) (L : List Loc) : Prop := v = some (.int (81 : Int32)) ∧ Fr n0 L ∧ Keep h0 h [a351] ∧ Arv Z h a351 k359 .byte (81 : Int32) (own_vs 81 (own_bt 81 f352)) (.int (0 : Int32)) ∧ Exa Z h a351 "[B"
set_option maxRecDepth 65536 in
set_option maxHeartbeats 40000000 in
theorem rm2 (l : Launch) (Z : State) (a0 : Array Value) (hw : ∀ d ∈ tables_1, d.before a0 Z = true) (ws : List Jvm.Cond) (a350 : Addr) (a351 : Addr) (f352 : Nat → Int32) (k359 : ClassId) (k353 : ClassId) (h0 : Heap) (n0 : Nat) (O0 : Old Z n0 h0) (pC407 : own_okF f352) (pV_a351 : Arv Z h0 a351 k359 .byte (81 : Int32) [] (.int (0 : Int32))) (pV_a350 : Arv Z h0 a350 k353 .char (81 : Int32) (own_vs 81 f352) (.int (0 : Int32))) (pG_a351 : n0 ≤ a351) (pE_a351 : Exa Z h0 a351 "[B") :
    MetFree l (⟨zs3, "compress", "([CI[BII)I"⟩ : MethodName) (head1 (Jvm.Cond.code (⟨zs3, "compress", "([CI[BII)I"⟩ : MethodName) jdk_52_method_21_code 7 (some .int) :: ws) ({ frames := 0, cells := 0, slots := 0, locals := 0 } : Room)) (fun a U => a = #[(.ref a350), (.int (0 : Int32)), (.ref a351), (.int (0 : Int32)), (.int (81 : Int32))] ∧ Z.Warmed39 U.vm ∧ U.heap = h0) (fun _ _ _ _ _ => True) (fun _ U o U' => ∃ v L, o = .returned v ∧ Q2 Z a350 a351 f352 k359 k353 h0 n0 v U'.heap L ∧ FrameEnd U o U' L ({ frames := 0, cells := 0, slots := 0, locals := 0 } : Room).cells ({ frames := 0, cells := 0, slots := 0, locals := 0 } : Room).slots) := by
  refine MetFree.of_bodySF (plainFor_of_name pn_2) hisR ?_
  intro p e s m args below meth c s₁ Bd hml0 hP hK
  obtain ⟨rfl, hZ, hh⟩ := hP
  have hx := Bd.exec
  have hby := Bd.bytes
  have hml : c.maxLocals = 7 := hml0
  have hown : s.vm.findClass zs3 = some m.cls := findClass_of_methodNamed Bd.named
  have hnm := (name_of_methodNamed Bd.named Bd.method).1
  have X0 : Stand p l e ({ frames := 0, cells := 0, slots := 0, locals := 0 } : Room) s m #[(.ref a350), (.int (0 : Int32)), (.ref a351), (.int (0 : Int32)), (.int (81 : Int32))] below meth c s₁ [] 0 0 := Stand.of_body Bd
  have e0 : s₁.heap = h0 := by rw [← hh, Bd.state]; rfl
  have N0 := Fr.nil n0
  refine own_out ?_
  refine own_via (fun t k => castTop (ef_2 m a350 (0 : Int32) a351 (0 : Int32) (81 : Int32)) (XS.iconst X0.here hx rfl (hb hby d6_0) (XS.istore X0.here hx rfl (hb hby d6_1) rfl (l' := #[rv a350, iv (0 : Int32), rv a351, iv (0 : Int32), iv (81 : Int32), iv (0 : Int32), .unset]) rfl k))) ?_
  show own_Goes p e below (s₁.setTop (mkF m 3 #[rv a350, iv (0 : Int32), rv a351, iv (0 : Int32), iv (81 : Int32), iv (0 : Int32), .unset] [])) _
  have V410 : Arv Z h0 a351 k359 .byte (81 : Int32) (own_vs 81 (own_bt 0 f352)) (.int (0 : Int32)) := own_z_new pV_a351 (own_bt_zero _)
  obtain ⟨T411, h411, L411, s6411, X411, e411, N411, K411, -, V411, st411⟩ := own_lpC (a := a350) (b := a351) (N := 81) (q := 81) (f := f352) hx hZ hby (by decide) (by decide) (own_lowC pC407) pG_a351 (own_neV pV_a350 pV_a351 (by simp)) 81 0 s₁ h0 _ none rfl X0 e0 N0 pV_a350 V410
  refine own_via (fun t k => st411 t (XS.iload X411.here hx rfl (hb hby d6_3) rfl (XS.iload X411.here hx rfl (hb hby d6_5) rfl (XS.icmpYes X411.here hx rfl (pc0 := 7) (pc' := 44) rfl (hb hby d6_7) rfl (flt (by decide : ¬ ((81 : Int32) < (81 : Int32)))).2.1 (by decide) (by decide) (XS.iload X411.here hx rfl (hb hby d6_44) rfl k))))) ?_
  show own_Goes p e below (T411.setTop (mkF m 46 #[rv a350, iv (81 : Int32), rv a351, iv (81 : Int32), iv (81 : Int32), iv (81 : Int32), own_sl s6411] [(.int (81 : Int32))])) _
  obtain ⟨fs, hr, hrun, hended, hW, hsame⟩ := X411.leave (v := some (.int (81 : Int32))) (fun h => by rw [Bd.returns] at h; cases h)
  refine own_end (t := T411.setFrames fs) ?_ ⟨_, hrun, hended, _, _, rfl, ?_, ⟨_, rfl⟩, hW, hsame.mono (by decide) (by decide)⟩
  · exact retI X411 hx Bd.returns (hb hby d6_46) hr
  have E412 : Exa Z h411 a351 "[B" := (pE_a351.keep K411)
  · show Q2 Z a350 a351 f352 k359 k353 h0 n0 _ T411.heap _
    rw [e411]
    exact ⟨rfl, N411, ((Keep.refl h0 [a351]).trans K411 (allS (Or.inl (List.mem_of_getElem? (i := 0) rfl)) all0)), V411, E412⟩
theorem pd_2 : parseMethodDescriptor "([CI[BII)I" = some ⟨[(.array .char), .int, (.array .byte), .int, .int], some .int⟩ := by decide +kernel
theorem d5_12 : decode jdk_52_method_16_code 12 = .ok (.istore 4, 2) := by decide +kernel
theorem d5_14 : decode jdk_52_method_16_code 14 = .ok (.iload 4, 2) := by decide +kernel
theorem d5_16 : decode jdk_52_method_16_code 16 = .ok (.iload_n 2, 1) := by decide +kernel
theorem d5_17 : decode jdk_52_method_16_code 17 = .ok (.if_icmp .eq 40, 3) := by decide +kernel
theorem d5_57 : decode jdk_52_method_16_code 57 = .ok (.aload_n 3, 1) := by decide +kernel
theorem d5_58 : decode jdk_52_method_16_code 58 = .ok (.areturn, 1) := by decide +kernel
theorem ef_3 (m : MethodId) (x0 : Addr) (x1 : Int32) (x2 : Int32) : entryFrame m #[(.ref x0), (.int x1), (.int x2)] 6 = mkF m 0 #[rv x0, iv x1, iv x2, .unset, .unset, .unset] [] := by first | (simp [entryFrame, mkF, argsToLocals, Value.category]; done) | rfl
def Q3 (Z : State) (a286 : Addr) (f287 : Nat → Int32) (k288 : ClassId) (h0 : Heap) (n0 : Nat) (v : Option Value) (h : Heap) (L : List Loc) : Prop := (∃ (b345 : Addr) (k344 : ClassId), v = some (.ref b345) ∧ Fr n0 L ∧ Keep h0 h [] ∧ h0.size ≤ b345 ∧ Exa Z h b345 "[B" ∧ Arv Z h b345 k344 .byte (81 : Int32) (own_vs 81 (own_bt 81 f287)) (.int (0 : Int32)))
set_option maxRecDepth 65536 in
set_option maxHeartbeats 40000000 in
theorem rm3 (l : Launch) (Z : State) (a0 : Array Value) (hw : ∀ d ∈ tables_1, d.before a0 Z = true) (ws : List Jvm.Cond) (a286 : Addr) (f287 : Nat → Int32) (k288 : ClassId) (h0 : Heap) (n0 : Nat) (O0 : Old Z n0 h0) (pC341 : own_okF f287) (pV_a286 : Arv Z h0 a286 k288 .char (81 : Int32) (own_vs 81 f287) (.int (0 : Int32))) :
    MetFree l (⟨zs3, "compress", "([CII)[B"⟩ : MethodName) (head1 (Jvm.Cond.code (⟨zs3, "compress", "([CII)[B"⟩ : MethodName) jdk_52_method_16_code 6 (some (.array .byte)) :: ws) ({ frames := 1, cells := 1, slots := 81, locals := 18 } : Room)) (fun a U => a = #[(.ref a286), (.int (0 : Int32)), (.int (81 : Int32))] ∧ Z.Warmed39 U.vm ∧ U.heap = h0) (fun _ _ _ _ _ => True) (fun _ U o U' => ∃ v L, o = .returned v ∧ Q3 Z a286 f287 k288 h0 n0 v U'.heap L ∧ FrameEnd U o U' L ({ frames := 1, cells := 1, slots := 81, locals := 18 } : Room).cells ({ frames := 1, cells := 1, slots := 81, locals := 18 } : Room).slots) := by
  refine MetFree.of_bodySF (plainFor_of_name pn_2) hisR ?_
  intro p e s m args below meth c s₁ Bd hml0 hP hK
  obtain ⟨rfl, hZ, hh⟩ := hP
  have hx := Bd.exec
  have hby := Bd.bytes
  have hml : c.maxLocals = 6 := hml0
  have hown : s.vm.findClass zs3 = some m.cls := findClass_of_methodNamed Bd.named
  have hnm := (name_of_methodNamed Bd.named Bd.method).1
  have X0 : Stand p l e ({ frames := 1, cells := 1, slots := 81, locals := 18 } : Room) s m #[(.ref a286), (.int (0 : Int32)), (.int (81 : Int32))] below meth c s₁ [] 0 0 := Stand.of_body Bd
  have e0 : s₁.heap = h0 := by rw [← hh, Bd.state]; rfl
  have N0 := Fr.nil n0
  refine own_out ?_
  refine own_via (fun t k => castTop (ef_3 m a286 (0 : Int32) (81 : Int32)) (XS.iloadN X0.here hx rfl (hb hby d5_0) rfl k)) ?_
  obtain ⟨T344, h344, k344, X344, e344, E344, A344, a344x, st344⟩ := newPE X0 hx hZ (wd hw 27 rfl) e0 (g := (mkF m 1 #[rv a286, iv (0 : Int32), iv (81 : Int32), .unset, .unset, .unset] [(.int (81 : Int32))])) rfl (hb hby d5_1) rfl (by decide) (cap := 81) (by decide) (by decide) (by decide) (by decide) (ad := "[B") (by decide)
  obtain ⟨b345, q344⟩ : ∃ z, z = h0.size := ⟨_, rfl⟩
  rw [← q344] at A344 st344 a344x
  refine own_via (fun t k => st344 t k) ?_
  have g346 : n0 ≤ b345 := Nat.le_trans (own_old O0) (Nat.le_of_eq q344.symm)
  have B347 : h0.size ≤ b345 := Nat.le_trans (Nat.le_refl _) (Nat.le_of_eq q344.symm)
  have V348 : Arv Z h344 b345 k344 .byte (81 : Int32) [] (.int (0 : Int32)) := Arv.new A344 (by decide)
  show own_Goes p e below (T344.setTop (mkF m 3 #[rv a286, iv (0 : Int32), iv (81 : Int32), .unset, .unset, .unset] [(.ref b345)])) _
  refine own_via (fun t k => XS.astoreN X344.here hx rfl (hb hby d5_3) rfl rfl (l' := #[rv a286, iv (0 : Int32), iv (81 : Int32), rv b345, .unset, .unset]) rfl (XS.aloadN X344.here hx rfl (hb hby d5_4) rfl rfl (XS.iloadN X344.here hx rfl (hb hby d5_5) rfl (XS.aloadN X344.here hx rfl (hb hby d5_6) rfl rfl (XS.iconst X344.here hx rfl (hb hby d5_7) (XS.iloadN X344.here hx rfl (hb hby d5_8) rfl k)))))) ?_
  show own_Goes p e below (T344.setTop (mkF m 9 #[rv a286, iv (0 : Int32), iv (81 : Int32), rv b345, .unset, .unset] [(.int (81 : Int32)), (.int (0 : Int32)), (.ref b345), (.int (0 : Int32)), (.ref a286)])) _
  have V413 : Arv Z h344 a286 k288 .char (81 : Int32) (own_vs 81 f287) (.int (0 : Int32)) := (pV_a286.ext E344)
  have O414 : Old Z n0 h344 := (O0.ext E344)
  obtain ⟨_, T349, _, X349, hQ349, st349⟩ := own_cs X344 hx hZ hown (wd hw 28 rfl) (wd hw 29 rfl) (wd hw 30 rfl) (wd hw 25 rfl) (by decide) (rm2 l Z a0 hw [] a286 b345 f287 k344 k288 h344 n0 O414 pC341 V348 V413 g346 a344x) e344 (g := (mkF m 9 #[rv a286, iv (0 : Int32), iv (81 : Int32), rv b345, .unset, .unset] [(.int (81 : Int32)), (.int (0 : Int32)), (.ref b345), (.int (0 : Int32)), (.ref a286)])) rfl (by rw [hml]; rfl) (rest := []) (W := 0) (lenOf pd_2 rfl) rfl (by show 2 * 0 + _ ≤ _; exact Nat.le_of_eq rfl) (hb hby d5_9) (by decide) (by decide) (by decide) (by decide)
  obtain ⟨h349, e349⟩ : ∃ z, T349.heap = z := ⟨_, rfl⟩
  rw [e349] at hQ349
  obtain ⟨rfl, Nq349, K349, vx415, ex416⟩ := hQ349
  have N349 := Fr.app N0 Nq349
  refine own_via (fun t k => st349 t (XS.istore X349.here hx rfl (hb hby d5_12) rfl (l' := #[rv a286, iv (0 : Int32), iv (81 : Int32), rv b345, iv (81 : Int32), .unset]) rfl (XS.iload X349.here hx rfl (hb hby d5_14) rfl (XS.iloadN X349.here hx rfl (hb hby d5_16) rfl (XS.icmpYes X349.here hx rfl (pc0 := 17) (pc' := 57) rfl (hb hby d5_17) rfl (teq (by decide : (81 : Int32) = (81 : Int32))).1 (by decide) (by decide) (XS.aloadN X349.here hx rfl (hb hby d5_57) rfl rfl k)))))) ?_
  show own_Goes p e below (T349.setTop (mkF m 58 #[rv a286, iv (0 : Int32), iv (81 : Int32), rv b345, iv (81 : Int32), .unset] [(.ref b345)])) _
  obtain ⟨fs, hr, hrun, hended, hW, hsame⟩ := X349.leave (v := some (.ref b345)) (fun h => by rw [Bd.returns] at h; cases h)
  refine own_end (t := T349.setFrames fs) ?_ ⟨_, hrun, hended, _, _, rfl, ?_, ⟨_, rfl⟩, hW, hsame.mono (by decide) (by decide)⟩
  · jvm_step X349.here [X349.here.top, hx, (hb hby d5_58), X349.method', Bd.returns, Value.isRef, FieldType.isReference]
    first | (intro acts; rw [hr _ acts rfl rfl rfl]) | rw [hr _ _ rfl rfl rfl]
    exact Steps.refl _
  · show Q3 Z a286 f287 k288 h0 n0 _ T349.heap _
    rw [e349]
    exact ⟨b345, k344, rfl, N349, (((Keep.refl h0 []).ext E344).trans K349 (allS (Or.inr B347) all0)), B347, ex416, vx415⟩
theorem pd_3 : parseMethodDescriptor "([CII)[B" = some ⟨[(.array .char), .int, .int], some (.array .byte)⟩ := by decide +kernel
theorem d3_39 : decode jdk_42_method_149_code 39 = .ok (.astore 5, 2) := by decide +kernel
theorem d3_41 : decode jdk_42_method_149_code 41 = .ok (.aload_n 0, 1) := by decide +kernel
theorem d3_42 : decode jdk_42_method_149_code 42 = .ok (.aload 5, 2) := by decide +kernel
theorem d3_44 : decode jdk_42_method_149_code 44 = .ok (.iload_n 3, 1) := by decide +kernel
theorem d3_45 : decode jdk_42_method_149_code 45 = .ok (.invokestatic 47, 3) := by decide +kernel
theorem d7_0 : decode jdk_52_method_15_code 0 = .ok (.iload_n 1, 1) := by decide +kernel
theorem d7_1 : decode jdk_52_method_15_code 1 = .ok (.aload_n 0, 1) := by decide +kernel
theorem d7_2 : decode jdk_52_method_15_code 2 = .ok (.arraylength, 1) := by decide +kernel
theorem d7_3 : decode jdk_52_method_15_code 3 = .ok (.isub, 1) := by decide +kernel
theorem d7_4 : decode jdk_52_method_15_code 4 = .ok (.bipush 31, 2) := by decide +kernel
theorem d7_6 : decode jdk_52_method_15_code 6 = .ok (.iushr, 1) := by decide +kernel
theorem d7_7 : decode jdk_52_method_15_code 7 = .ok (.i2b, 1) := by decide +kernel
theorem d7_8 : decode jdk_52_method_15_code 8 = .ok (.ireturn, 1) := by decide +kernel
theorem ef_4 (m : MethodId) (x0 : Addr) (x1 : Int32) : entryFrame m #[(.ref x0), (.int x1)] 2 = mkF m 0 #[rv x0, iv x1] [] := by first | (simp [entryFrame, mkF, argsToLocals, Value.category]; done) | rfl
def Q4 (Z : State) (a425 : Addr) (h0 : Heap) (n0 : Nat) (v : Option Value) (h : Heap) (L : List Loc) : Prop := v = some (.int (0 : Int32)) ∧ Fr n0 L ∧ h = h0
set_option maxRecDepth 65536 in
set_option maxHeartbeats 40000000 in
theorem rm4 (l : Launch) (Z : State) (a0 : Array Value) (hw : ∀ d ∈ tables_1, d.before a0 Z = true) (ws : List Jvm.Cond) (a425 : Addr) (h0 : Heap) (n0 : Nat) (O0 : Old Z n0 h0) (pL_a425 : own_Len Z h0 a425 .byte (81 : Int32)) :
    MetFree l (⟨zs3, zs19, "([BI)B"⟩ : MethodName) (head1 (Jvm.Cond.code (⟨zs3, zs19, "([BI)B"⟩ : MethodName) jdk_52_method_15_code 2 (some .byte) :: ws) ({ frames := 0, cells := 0, slots := 0, locals := 0 } : Room)) (fun a U => a = #[(.ref a425), (.int (81 : Int32))] ∧ Z.Warmed39 U.vm ∧ U.heap = h0) (fun _ _ _ _ _ => True) (fun _ U o U' => ∃ v L, o = .returned v ∧ Q4 Z a425 h0 n0 v U'.heap L ∧ FrameEnd U o U' L ({ frames := 0, cells := 0, slots := 0, locals := 0 } : Room).cells ({ frames := 0, cells := 0, slots := 0, locals := 0 } : Room).slots) := by
  refine MetFree.of_bodySF (plainFor_of_name pn_2) hisR ?_
  intro p e s m args below meth c s₁ Bd hml0 hP hK
  obtain ⟨rfl, hZ, hh⟩ := hP
  have hx := Bd.exec
  have hby := Bd.bytes
  have hml : c.maxLocals = 2 := hml0
  have hown : s.vm.findClass zs3 = some m.cls := findClass_of_methodNamed Bd.named
  have hnm := (name_of_methodNamed Bd.named Bd.method).1
  have X0 : Stand p l e ({ frames := 0, cells := 0, slots := 0, locals := 0 } : Room) s m #[(.ref a425), (.int (81 : Int32))] below meth c s₁ [] 0 0 := Stand.of_body Bd
  have e0 : s₁.heap = h0 := by rw [← hh, Bd.state]; rfl
  have N0 := Fr.nil n0
  refine own_out ?_
  refine own_via (fun t k => castTop (ef_4 m a425 (81 : Int32)) (XS.iloadN X0.here hx rfl (hb hby d7_0) rfl (XS.aloadN X0.here hx rfl (hb hby d7_1) rfl rfl k))) ?_
  show own_Goes p e below (s₁.setTop (mkF m 2 #[rv a425, iv (81 : Int32)] [(.ref a425), (.int (81 : Int32))])) _
  obtain ⟨_, _, _, V485⟩ := id (pL_a425)
  obtain ⟨cl485, Ar485, -, S485, M485, -, -⟩ := id (V485)
  refine own_via (fun t k => X0.arraylength hx (by rw [e0]; exact Ar485.1) (State.isArrayOf_alike hZ.alike Ar485.2.1) (g := (mkF m 2 #[rv a425, iv (81 : Int32)] [(.ref a425), (.int (81 : Int32))])) rfl rfl (hb hby d7_2) t k) ?_
  rw [len_of S485 M485]
  show own_Goes p e below (s₁.setTop (mkF m 3 #[rv a425, iv (81 : Int32)] [(.int (81 : Int32)), (.int (81 : Int32))])) _
  refine own_via (fun t k => XS.isub X0.here hx rfl (hb hby d7_3) rfl (XS.bipush X0.here hx rfl (hb hby d7_4) (XS.iushr X0.here hx rfl (hb hby d7_6) rfl (XS.i2b X0.here hx rfl (hb hby d7_7) rfl k)))) ?_
  show own_Goes p e below (s₁.setTop (mkF m 8 #[rv a425, iv (81 : Int32)] [(.int (0 : Int32))])) _
  obtain ⟨fs, hr, hrun, hended, hW, hsame⟩ := X0.leave (v := some (.int (0 : Int32))) (fun h => by rw [Bd.returns] at h; cases h)
  refine own_end (t := s₁.setFrames fs) ?_ ⟨_, hrun, hended, _, _, rfl, ?_, ⟨_, rfl⟩, hW, hsame.mono (by decide) (by decide)⟩
  · exact retN X0 hx (t := .byte) Bd.returns (by simp) (hb hby d7_8) hr
  · show Q4 Z a425 h0 n0 _ s₁.heap _
    rw [e0]
    exact ⟨rfl, N0, rfl⟩
theorem pd_4 : parseMethodDescriptor "([BI)B" = some ⟨[(.array .byte), .int], some .byte⟩ := by decide +kernel
theorem d3_48 : decode jdk_42_method_149_code 48 = .ok (.putfield 15, 3) := by decide +kernel
theorem d3_51 : decode jdk_42_method_149_code 51 = .ok (.aload_n 0, 1) := by decide +kernel
theorem d3_52 : decode jdk_42_method_149_code 52 = .ok (.aload 5, 2) := by decide +kernel
theorem d3_54 : decode jdk_42_method_149_code 54 = .ok (.putfield 9, 3) := by decide +kernel
theorem d3_57 : decode jdk_42_method_149_code 57 = .ok (.return_, 1) := by decide +kernel
theorem ef_5 (m : MethodId) (x0 : Addr) (x1 : Addr) (x2 : Int32) (x3 : Int32) : entryFrame m #[(.ref x0), (.ref x1), (.int x2), (.int x3), .null] 6 = mkF m 0 #[rv x0, rv x1, iv x2, iv x3, .val .null, .unset] [] := by first | (simp [entryFrame, mkF, argsToLocals, Value.category]; done) | rfl
theorem pn_3 : plainName "java/lang/String" = true := by first | (simp [plainName, overriddenIn]; done) | decide +kernel
def Q5 (Z : State) (a225 : Addr) (a226 : Addr) (i43 : Int32) (f227 : Nat → Int32) (k228 : ClassId) (p232 : Int32) (h0 : Heap) (n0 : Nat) (v : Option Value) (h : Heap) (L : List Loc) : Prop := (∃ (b417 : Addr) (k418 : ClassId), v = none ∧ Fr n0 L ∧ Keep h0 h [a225] ∧ Exa Z h a225 zs1 ∧ Fld Z h a225 zs1 "coder" "B" (.int (0 : Int32)) ∧ Fld Z h a225 zs1 "value" "[B" (.ref b417) ∧ h0.size ≤ b417 ∧ Exa Z h b417 "[B" ∧ Arv Z h b417 k418 .byte (81 : Int32) (own_vs 81 (own_bt 81 f227)) (.int (0 : Int32)))
set_option maxRecDepth 65536 in
set_option maxHeartbeats 40000000 in
theorem rm5 (l : Launch) (Z : State) (a0 : Array Value) (hw : ∀ d ∈ tables_1, d.before a0 Z = true) (ws : List Jvm.Cond) (a225 : Addr) (a226 : Addr) (i43 : Int32) (f227 : Nat → Int32) (k228 : ClassId) (p232 : Int32) (h0 : Heap) (n0 : Nat) (O0 : Old Z n0 h0) (S_String_COMPACT_STRINGS : Sta Z Z.heap zs1 zs11 "Z" (.int i43)) (pC233 : ¬ (i43 = (0 : Int32))) (pC280 : own_okF f227) (pV_a226 : Arv Z h0 a226 k228 .char (81 : Int32) (own_vs 81 f227) (.int (0 : Int32))) (pF_a225_coder : Fld Z h0 a225 zs1 "coder" "B" (.int p232)) (pE_a225 : Exa Z h0 a225 zs1) (pG_a225 : n0 ≤ a225) (pF_a225_value : Fld Z h0 a225 zs1 "value" "[B" .null) :
    MetFree l (⟨zs1, "<init>", zs17⟩ : MethodName) (head1 (Jvm.Cond.code (⟨zs1, "<init>", zs17⟩ : MethodName) jdk_42_method_149_code 6 none :: ws) ({ frames := 2, cells := 1, slots := 81, locals := 35 } : Room)) (fun a U => a = #[(.ref a225), (.ref a226), (.int (0 : Int32)), (.int (81 : Int32)), .null] ∧ Z.Warmed39 U.vm ∧ U.heap = h0) (fun _ _ _ _ _ => True) (fun _ U o U' => ∃ v L, o = .returned v ∧ Q5 Z a225 a226 i43 f227 k228 p232 h0 n0 v U'.heap L ∧ FrameEnd U o U' L ({ frames := 2, cells := 1, slots := 81, locals := 35 } : Room).cells ({ frames := 2, cells := 1, slots := 81, locals := 35 } : Room).slots) := by
  refine MetFree.of_bodySF (plainFor_of_name pn_3) hisR ?_
  intro p e s m args below meth c s₁ Bd hml0 hP hK
  obtain ⟨rfl, hZ, hh⟩ := hP
  have hx := Bd.exec
  have hby := Bd.bytes
  have hml : c.maxLocals = 6 := hml0
  have hown : s.vm.findClass zs1 = some m.cls := findClass_of_methodNamed Bd.named
  have hnm := (name_of_methodNamed Bd.named Bd.method).1
  have X0 : Stand p l e ({ frames := 2, cells := 1, slots := 81, locals := 35 } : Room) s m #[(.ref a225), (.ref a226), (.int (0 : Int32)), (.int (81 : Int32)), .null] below meth c s₁ [] 0 0 := Stand.of_body Bd
  have e0 : s₁.heap = h0 := by rw [← hh, Bd.state]; rfl
  have N0 := Fr.nil n0
  refine own_out ?_
  refine own_via (fun t k => castTop (ef_5 m a225 a226 (0 : Int32) (81 : Int32)) (XS.aloadN X0.here hx rfl (hb hby d3_0) rfl rfl k)) ?_
  obtain ⟨T283, X283, e283, st283⟩ := initO X0 hx hZ hown (wd hw 19 rfl) (wd hw 20 rfl) (wd hw 21 rfl) e0 (g := (mkF m 1 #[rv a225, rv a226, iv (0 : Int32), iv (81 : Int32), .val .null, .unset] [(.ref a225)])) rfl (by rw [hml]; rfl) rfl (hb hby d3_1) (by decide) (W := 0) (by show 2 * 0 + _ ≤ _; exact Nat.le_of_eq rfl) (by decide)
  refine own_via (fun t k => st283 t (XS.iloadN X283.here hx rfl (hb hby d3_4) rfl (XS.ifYes X283.here hx rfl (pc0 := 5) (pc' := 27) rfl (hb hby d3_5) rfl ((if0 _ _).trans (feq (by decide : ¬ ((81 : Int32) = (0 : Int32)))).2) (by decide) (by decide) k))) ?_
  show own_Goes p e below (T283.setTop (mkF m 27 #[rv a225, rv a226, iv (0 : Int32), iv (81 : Int32), .val .null, .unset] [])) _
  obtain ⟨T284, X284, e284, st284⟩ := getS2 X283 hx hZ hown (host := "") (Or.inl (wd hw 22 rfl)) Via.refl e283 (S_String_COMPACT_STRINGS.ext O0.2) (g := (mkF m 27 #[rv a225, rv a226, iv (0 : Int32), iv (81 : Int32), .val .null, .unset] [])) rfl (hb hby d3_27)
  refine own_via (fun t k => st284 t (XS.ifNo X284.here hx rfl (hb hby d3_30) rfl ((if0 _ _).trans (feq pC233).1) (XS.aloadN X284.here hx rfl (hb hby d3_33) rfl rfl (XS.iloadN X284.here hx rfl (hb hby d3_34) rfl (XS.iloadN X284.here hx rfl (hb hby d3_35) rfl k))))) ?_
  show own_Goes p e below (T284.setTop (mkF m 36 #[rv a225, rv a226, iv (0 : Int32), iv (81 : Int32), .val .null, .unset] [(.int (81 : Int32)), (.int (0 : Int32)), (.ref a226)])) _
  obtain ⟨_, T285, _, X285, hQ285, st285⟩ := own_cs X284 hx hZ hown (wd hw 23 rfl) (wd hw 24 rfl) (wd hw 26 rfl) (wd hw 25 rfl) (by decide) (rm3 l Z a0 hw [] a226 f227 k228 h0 n0 O0 pC280 pV_a226) e284 (g := (mkF m 36 #[rv a225, rv a226, iv (0 : Int32), iv (81 : Int32), .val .null, .unset] [(.int (81 : Int32)), (.int (0 : Int32)), (.ref a226)])) rfl (by rw [hml]; rfl) (rest := []) (W := 0) (lenOf pd_3 rfl) rfl (by show 2 * 0 + _ ≤ _; exact Nat.le_of_eq rfl) (hb hby d3_36) (by decide) (by decide) (by decide) (by decide)
  obtain ⟨h285, e285⟩ : ∃ z, T285.heap = z := ⟨_, rfl⟩
  rw [e285] at hQ285
  obtain ⟨b417, k418, rfl, Nq285, K285, bx419, ex420, vx421⟩ := hQ285
  have N285 := Fr.app N0 Nq285
  have g422 : n0 ≤ b417 := Nat.le_trans (own_old O0) bx419
  have B423 : h0.size ≤ b417 := Nat.le_trans (Nat.le_refl _) bx419
  refine own_via (fun t k => st285 t (XS.astore X285.here hx rfl (hb hby d3_39) rfl rfl (l' := #[rv a225, rv a226, iv (0 : Int32), iv (81 : Int32), .val .null, rv b417]) rfl (XS.aloadN X285.here hx rfl (hb hby d3_41) rfl rfl (XS.aload X285.here hx rfl (hb hby d3_42) rfl rfl (XS.iloadN X285.here hx rfl (hb hby d3_44) rfl k))))) ?_
  show own_Goes p e below (T285.setTop (mkF m 45 #[rv a225, rv a226, iv (0 : Int32), iv (81 : Int32), .val .null, rv b417] [(.int (81 : Int32)), (.ref b417), (.ref a225)])) _
  have l486 : own_Len Z h285 b417 .byte (81 : Int32) := ⟨_, _, _, vx421⟩
  have O487 : Old Z n0 h285 := (O0.keep K285 all0)
  obtain ⟨_, T424, _, X424, hQ424, st424⟩ := own_cs X285 hx hZ hown (wd hw 31 rfl) (wd hw 32 rfl) (wd hw 33 rfl) (wd hw 25 rfl) (by decide) (rm4 l Z a0 hw [] b417 h285 n0 O487 l486) e285 (g := (mkF m 45 #[rv a225, rv a226, iv (0 : Int32), iv (81 : Int32), .val .null, rv b417] [(.int (81 : Int32)), (.ref b417), (.ref a225)])) rfl (by rw [hml]; rfl) (rest := [(.ref a225)]) (W := 1) (lenOf pd_4 rfl) rfl (by show 2 * 0 + _ ≤ _; exact Nat.le_of_eq rfl) (hb hby d3_45) (by decide) (by decide) (by decide) (by decide)
  obtain ⟨rfl, Nq424, hh488⟩ := hQ424
  have N424 := Fr.app N285 Nq424
  refine own_via (fun t k => st424 t k) ?_
  have F489 : Fld Z h285 a225 zs1 "coder" "B" (.int p232) := (pF_a225_coder.keep K285 nin0)
  have E490 : Exa Z h285 a225 zs1 := (pE_a225.keep K285)
  obtain ⟨T491, h491, X491, e491, W491, st491⟩ := putFN X424 hx hZ hown (wd hw 34 rfl) Via.refl hh488 F489 E490 (Or.inr ⟨(wd hw 35 rfl), rfl, hnm⟩) (wd hw 10 rfl) (ty := .byte) (v' := (.int (0 : Int32))) (by decide) rfl (by decide) (g := (mkF m 48 #[rv a225, rv a226, iv (0 : Int32), iv (81 : Int32), .val .null, rv b417] [(.int (0 : Int32)), (.ref a225)])) rfl rfl (hb hby d3_48)
  refine own_via (fun t k => st491 t k) ?_
  have Fw491 : Fld Z h491 a225 zs1 "coder" "B" (.int (0 : Int32)) := F489.same W491
  have N491 := Fr.snoc X491 N424 pG_a225
  show own_Goes p e below (T491.setTop (mkF m 51 #[rv a225, rv a226, iv (0 : Int32), iv (81 : Int32), .val .null, rv b417] [])) _
  refine own_via (fun t k => XS.aloadN X491.here hx rfl (hb hby d3_51) rfl rfl (XS.aload X491.here hx rfl (hb hby d3_52) rfl rfl k)) ?_
  have F492 : Fld Z h491 a225 zs1 "value" "[B" .null := ((pF_a225_value.keep K285 nin0).other W491 (Or.inr (slot_ne (Or.inr (wd hw 37 rfl)) (Or.inr (wd hw 35 rfl)) (by decide) (t := (.array .byte)) (t' := .byte) (by decide) (by decide))))
  have E493 : Exa Z h491 a225 zs1 := (E490.wr W491)
  obtain ⟨T494, h494, X494, e494, W494, st494⟩ := putF X491 hx hZ hown (host := "") (Or.inl (wd hw 36 rfl)) Via.refl e491 F492 E493 (Or.inr ⟨(wd hw 37 rfl), rfl, hnm⟩) (wd hw 10 rfl) (ty := (.array .byte)) (by decide) rfl rfl (g := (mkF m 54 #[rv a225, rv a226, iv (0 : Int32), iv (81 : Int32), .val .null, rv b417] [(.ref b417), (.ref a225)])) rfl rfl (hb hby d3_54)
  refine own_via (fun t k => st494 t k) ?_
  have Fw494 : Fld Z h494 a225 zs1 "value" "[B" (.ref b417) := F492.same W494
  have N494 := Fr.snoc X494 N491 pG_a225
  show own_Goes p e below (T494.setTop (mkF m 57 #[rv a225, rv a226, iv (0 : Int32), iv (81 : Int32), .val .null, rv b417] [])) _
  obtain ⟨fs, hr, hrun, hended, hW, hsame⟩ := X494.leave (v := none) (fun _ => rfl)
  refine own_end (t := T494.setFrames fs) ?_ ⟨_, hrun, hended, _, _, rfl, ?_, ⟨_, rfl⟩, hW, hsame.mono (by decide) (by decide)⟩
  · exact X494.returnOut hx Bd.returns (hb hby d3_57) hr
  have E495 : Exa Z h494 a225 zs1 := (E493.wr W494)
  have F496 : Fld Z h494 a225 zs1 "coder" "B" (.int (0 : Int32)) := (Fw491.other W494 (Or.inr (slot_ne (Or.inr (wd hw 35 rfl)) (Or.inr (wd hw 37 rfl)) (by decide) (t := .byte) (t' := (.array .byte)) (by decide) (by decide))))
  have E497 : Exa Z h494 b417 "[B" := ((ex420.wr W491).wr W494)
  have V498 : Arv Z h494 b417 k418 .byte (81 : Int32) (own_vs 81 (own_bt 81 f227)) (.int (0 : Int32)) := ((vx421.other W491 (Ne.symm (Nat.ne_of_lt (Nat.lt_of_lt_of_le pE_a225.lt B423)))).other W494 (Ne.symm (Nat.ne_of_lt (Nat.lt_of_lt_of_le pE_a225.lt B423))))
  · show Q5 Z a225 a226 i43 f227 k228 p232 h0 n0 _ T494.heap _
    rw [e494]
    exact ⟨b417, k418, rfl, N494, ((((Keep.refl h0 [a225]).trans K285 all0).wr W491 (Or.inl (List.mem_of_getElem? (i := 0) rfl))).wr W494 (Or.inl (List.mem_of_getElem? (i := 0) rfl))), E495, F496, Fw494, B423, E497, V498⟩
theorem pd_5 : parseMethodDescriptor "([CIILjava/lang/Void;)V" = some ⟨[(.array .char), .int, .int, (.object "java/lang/Void")], none⟩ := by decide +kernel
theorem d2_9 : decode jdk_42_method_3_code 9 = .ok (.return_, 1) := by decide +kernel
theorem ef_6 (m : MethodId) (x0 : Addr) (x1 : Addr) : entryFrame m #[(.ref x0), (.ref x1)] 2 = mkF m 0 #[rv x0, rv x1] [] := by first | (simp [entryFrame, mkF, argsToLocals, Value.category]; done) | rfl
def Q6 (Z : State) (a165 : Addr) (a166 : Addr) (i43 : Int32) (f167 : Nat → Int32) (k168 : ClassId) (p172 : Int32) (h0 : Heap) (n0 : Nat) (v : Option Value) (h : Heap) (L : List Loc) : Prop := (∃ (b499 : Addr) (k500 : ClassId), v = none ∧ Fr n0 L ∧ Keep h0 h [a165] ∧ Exa Z h a165 zs1 ∧ Fld Z h a165 zs1 "coder" "B" (.int (0 : Int32)) ∧ Fld Z h a165 zs1 "value" "[B" (.ref b499) ∧ h0.size ≤ b499 ∧ Exa Z h b499 "[B" ∧ Arv Z h b499 k500 .byte (81 : Int32) (own_vs 81 (own_bt 81 f167)) (.int (0 : Int32)))
set_option maxRecDepth 65536 in
set_option maxHeartbeats 40000000 in
theorem rm6 (l : Launch) (Z : State) (a0 : Array Value) (hw : ∀ d ∈ tables_1, d.before a0 Z = true) (ws : List Jvm.Cond) (a165 : Addr) (a166 : Addr) (i43 : Int32) (f167 : Nat → Int32) (k168 : ClassId) (p172 : Int32) (h0 : Heap) (n0 : Nat) (O0 : Old Z n0 h0) (pL_a166 : own_Len Z h0 a166 .char (81 : Int32)) (S_String_COMPACT_STRINGS : Sta Z Z.heap zs1 zs11 "Z" (.int i43)) (pC173 : ¬ (i43 = (0 : Int32))) (pC220 : own_okF f167) (pV_a166 : Arv Z h0 a166 k168 .char (81 : Int32) (own_vs 81 f167) (.int (0 : Int32))) (pF_a165_coder : Fld Z h0 a165 zs1 "coder" "B" (.int p172)) (pE_a165 : Exa Z h0 a165 zs1) (pG_a165 : n0 ≤ a165) (pF_a165_value : Fld Z h0 a165 zs1 "value" "[B" .null) :
    MetFree l (⟨zs1, "<init>", "([C)V"⟩ : MethodName) (head1 (Jvm.Cond.code (⟨zs1, "<init>", "([C)V"⟩ : MethodName) jdk_42_method_3_code 2 none :: ws) ({ frames := 3, cells := 1, slots := 81, locals := 52 } : Room)) (fun a U => a = #[(.ref a165), (.ref a166)] ∧ Z.Warmed39 U.vm ∧ U.heap = h0) (fun _ _ _ _ _ => True) (fun _ U o U' => ∃ v L, o = .returned v ∧ Q6 Z a165 a166 i43 f167 k168 p172 h0 n0 v U'.heap L ∧ FrameEnd U o U' L ({ frames := 3, cells := 1, slots := 81, locals := 52 } : Room).cells ({ frames := 3, cells := 1, slots := 81, locals := 52 } : Room).slots) := by
  refine MetFree.of_bodySF (plainFor_of_name pn_3) hisR ?_
  intro p e s m args below meth c s₁ Bd hml0 hP hK
  obtain ⟨rfl, hZ, hh⟩ := hP
  have hx := Bd.exec
  have hby := Bd.bytes
  have hml : c.maxLocals = 2 := hml0
  have hown : s.vm.findClass zs1 = some m.cls := findClass_of_methodNamed Bd.named
  have hnm := (name_of_methodNamed Bd.named Bd.method).1
  have X0 : Stand p l e ({ frames := 3, cells := 1, slots := 81, locals := 52 } : Room) s m #[(.ref a165), (.ref a166)] below meth c s₁ [] 0 0 := Stand.of_body Bd
  have e0 : s₁.heap = h0 := by rw [← hh, Bd.state]; rfl
  have N0 := Fr.nil n0
  refine own_out ?_
  refine own_via (fun t k => castTop (ef_6 m a165 a166) (XS.aloadN X0.here hx rfl (hb hby d2_0) rfl rfl (XS.aloadN X0.here hx rfl (hb hby d2_1) rfl rfl (XS.iconst X0.here hx rfl (hb hby d2_2) (XS.aloadN X0.here hx rfl (hb hby d2_3) rfl rfl k))))) ?_
  show own_Goes p e below (s₁.setTop (mkF m 4 #[rv a165, rv a166] [(.ref a166), (.int (0 : Int32)), (.ref a166), (.ref a165)])) _
  obtain ⟨_, _, _, V223⟩ := id (pL_a166)
  obtain ⟨cl223, Ar223, -, S223, M223, -, -⟩ := id (V223)
  refine own_via (fun t k => X0.arraylength hx (by rw [e0]; exact Ar223.1) (State.isArrayOf_alike hZ.alike Ar223.2.1) (g := (mkF m 4 #[rv a165, rv a166] [(.ref a166), (.int (0 : Int32)), (.ref a166), (.ref a165)])) rfl rfl (hb hby d2_4) t k) ?_
  rw [len_of S223 M223]
  show own_Goes p e below (s₁.setTop (mkF m 5 #[rv a165, rv a166] [(.int (81 : Int32)), (.int (0 : Int32)), (.ref a166), (.ref a165)])) _
  refine own_via (fun t k => XS.aconstNull X0.here hx rfl (hb hby d2_5) k) ?_
  obtain ⟨_, T224, _, X224, hQ224, st224⟩ := own_ci X0 hx hZ hown (wd hw 15 rfl) (wd hw 16 rfl) (wd hw 18 rfl) (wd hw 11 rfl) rfl (by decide) (rm5 l Z a0 hw [] a165 a166 i43 f167 k168 p172 h0 n0 O0 S_String_COMPACT_STRINGS pC173 pC220 pV_a166 pF_a165_coder pE_a165 pG_a165 pF_a165_value) e0 (g := (mkF m 6 #[rv a165, rv a166] [.null, (.int (81 : Int32)), (.int (0 : Int32)), (.ref a166), (.ref a165)])) rfl (by rw [hml]; rfl) (rest := []) (W := 0) (lenOf pd_5 rfl) rfl (by show 2 * 0 + _ ≤ _; exact Nat.le_of_eq rfl) (hb hby d2_6) (by decide) (by decide) (by decide) (by decide)
  obtain ⟨h224, e224⟩ : ∃ z, T224.heap = z := ⟨_, rfl⟩
  rw [e224] at hQ224
  obtain ⟨b499, k500, rfl, Nq224, K224, ex501, fx502, fx503, bx504, ex505, vx506⟩ := hQ224
  have N224 := Fr.app N0 Nq224
  have g507 : n0 ≤ b499 := Nat.le_trans (own_old O0) bx504
  have B508 : h0.size ≤ b499 := Nat.le_trans (Nat.le_refl _) bx504
  refine own_via (fun t k => st224 t k) ?_
  obtain ⟨fs, hr, hrun, hended, hW, hsame⟩ := X224.leave (v := none) (fun _ => rfl)
  refine own_end (t := T224.setFrames fs) ?_ ⟨_, hrun, hended, _, _, rfl, ?_, ⟨_, rfl⟩, hW, hsame.mono (by decide) (by decide)⟩
  · exact X224.returnOut hx Bd.returns (hb hby d2_9) hr
  · show Q6 Z a165 a166 i43 f167 k168 p172 h0 n0 _ T224.heap _
    rw [e224]
    exact ⟨b499, k500, rfl, N224, ((Keep.refl h0 [a165]).trans K224 (allS (Or.inl (List.mem_of_getElem? (i := 0) rfl)) all0)), ex501, fx502, fx503, B508, ex505, vx506⟩
theorem pd_6 : parseMethodDescriptor "([C)V" = some ⟨[(.array .char)], none⟩ := by decide +kernel
theorem d8_0 : decode prog_15_method_4_code 0 = .ok (.lload_n 1, 1) := by decide +kernel
theorem d8_1 : decode prog_15_method_4_code 1 = .ok (.getstatic 41, 3) := by decide +kernel
theorem d8_4 : decode prog_15_method_4_code 4 = .ok (.invokevirtual 45, 3) := by decide +kernel
theorem d9_0 : decode prog_12_method_3_code 0 = .ok (.aload_n 0, 1) := by decide +kernel
theorem d9_1 : decode prog_12_method_3_code 1 = .ok (.getfield 7, 3) := by decide +kernel
theorem d9_4 : decode prog_12_method_3_code 4 = .ok (.aload_n 0, 1) := by decide +kernel
theorem d9_5 : decode prog_12_method_3_code 5 = .ok (.getfield 7, 3) := by decide +kernel
theorem d9_8 : decode prog_12_method_3_code 8 = .ok (.imul, 1) := by decide +kernel
theorem d9_9 : decode prog_12_method_3_code 9 = .ok (.ireturn, 1) := by decide +kernel
theorem ef_7 (m : MethodId) (x0 : Addr) : entryFrame m #[(.ref x0)] 1 = mkF m 0 #[rv x0] [] := by first | (simp [entryFrame, mkF, argsToLocals, Value.category]; done) | rfl
theorem pn_4 : plainName "com/example/pencilmark/pencilmark/grid/Shape" = true := by first | (simp [plainName, overriddenIn]; done) | decide +kernel
def Q7 (Z : State) (w36 : Addr) (h0 : Heap) (n0 : Nat) (v : Option Value) (h : Heap) (L : List Loc) : Prop := v = some (.int (81 : Int32)) ∧ Fr n0 L ∧ h = h0
set_option maxRecDepth 65536 in
set_option maxHeartbeats 40000000 in
theorem rm7 (l : Launch) (Z : State) (a0 : Array Value) (hw : ∀ d ∈ tables_1, d.before a0 Z = true) (ws : List Jvm.Cond) (w36 : Addr) (h0 : Heap) (n0 : Nat) (O0 : Old Z n0 h0) (SF_w36_side : Fld Z Z.heap w36 zs4 "side" "I" (.int (9 : Int32))) :
    MetFree l (⟨zs4, "cellCount", "()I"⟩ : MethodName) (head1 (Jvm.Cond.code (⟨zs4, "cellCount", "()I"⟩ : MethodName) prog_12_method_3_code 1 (some .int) :: ws) ({ frames := 0, cells := 0, slots := 0, locals := 0 } : Room)) (fun a U => a = #[(.ref w36)] ∧ Z.Warmed39 U.vm ∧ U.heap = h0) (fun _ _ _ _ _ => True) (fun _ U o U' => ∃ v L, o = .returned v ∧ Q7 Z w36 h0 n0 v U'.heap L ∧ FrameEnd U o U' L ({ frames := 0, cells := 0, slots := 0, locals := 0 } : Room).cells ({ frames := 0, cells := 0, slots := 0, locals := 0 } : Room).slots) := by
  refine MetFree.of_bodySF (plainFor_of_name pn_4) hisR ?_
  intro p e s m args below meth c s₁ Bd hml0 hP hK
  obtain ⟨rfl, hZ, hh⟩ := hP
  have hx := Bd.exec
  have hby := Bd.bytes
  have hml : c.maxLocals = 1 := hml0
  have hown : s.vm.findClass zs4 = some m.cls := findClass_of_methodNamed Bd.named
  have hnm := (name_of_methodNamed Bd.named Bd.method).1
  have X0 : Stand p l e ({ frames := 0, cells := 0, slots := 0, locals := 0 } : Room) s m #[(.ref w36)] below meth c s₁ [] 0 0 := Stand.of_body Bd
  have e0 : s₁.heap = h0 := by rw [← hh, Bd.state]; rfl
  have N0 := Fr.nil n0
  refine own_out ?_
  refine own_via (fun t k => castTop (ef_7 m w36) (XS.aloadN X0.here hx rfl (hb hby d9_0) rfl rfl k)) ?_
  obtain ⟨T650, X650, e650, st650⟩ := getF X0 hx hZ hown (host := "") (Or.inl (wd hw 50 rfl)) Via.refl e0 (SF_w36_side.ext O0.2) (g := (mkF m 1 #[rv w36] [(.ref w36)])) rfl rfl (hb hby d9_1)
  refine own_via (fun t k => st650 t (XS.aloadN X650.here hx rfl (hb hby d9_4) rfl rfl k)) ?_
  obtain ⟨T651, X651, e651, st651⟩ := getF X650 hx hZ hown (host := "") (Or.inl (wd hw 50 rfl)) Via.refl e650 (SF_w36_side.ext O0.2) (g := (mkF m 5 #[rv w36] [(.ref w36), (.int (9 : Int32))])) rfl rfl (hb hby d9_5)
  refine own_via (fun t k => st651 t (XS.imul X651.here hx rfl (hb hby d9_8) rfl k)) ?_
  obtain ⟨fs, hr, hrun, hended, hW, hsame⟩ := X651.leave (v := some (.int (81 : Int32))) (fun h => by rw [Bd.returns] at h; cases h)
  refine own_end (t := T651.setFrames fs) ?_ ⟨_, hrun, hended, _, _, rfl, ?_, ⟨_, rfl⟩, hW, hsame.mono (by decide) (by decide)⟩
  · exact retI X651 hx Bd.returns (hb hby d9_9) hr
  · show Q7 Z w36 h0 n0 _ T651.heap _
    rw [e651]
    exact ⟨rfl, N0, rfl⟩
theorem pd_7 : parseMethodDescriptor "()I" = some ⟨[], some .int⟩ := by decide +kernel
theorem d8_7 : decode prog_15_method_4_code 7 = .ok (.i2l, 1) := by decide +kernel
theorem d8_8 : decode prog_15_method_4_code 8 = .ok (.lcmp, 1) := by decide +kernel
theorem d8_9 : decode prog_15_method_4_code 9 = .ok (.ifCond .eq 23, 3) := by decide +kernel
theorem d8_32 : decode prog_15_method_4_code 32 = .ok (.getstatic 41, 3) := by decide +kernel
theorem d8_35 : decode prog_15_method_4_code 35 = .ok (.invokevirtual 45, 3) := by decide +kernel
theorem d8_38 : decode prog_15_method_4_code 38 = .ok (.newarray .int, 2) := by decide +kernel
theorem d8_40 : decode prog_15_method_4_code 40 = .ok (.astore_n 3, 1) := by decide +kernel
theorem d8_41 : decode prog_15_method_4_code 41 = .ok (.iconst 0, 1) := by decide +kernel
theorem d8_42 : decode prog_15_method_4_code 42 = .ok (.istore 4, 2) := by decide +kernel
theorem d10_0 : decode jdk_42_method_56_code 0 = .ok (.aload_n 0, 1) := by decide +kernel
theorem d10_1 : decode jdk_42_method_56_code 1 = .ok (.invokevirtual 492, 3) := by decide +kernel
theorem d11_0 : decode jdk_42_method_154_code 0 = .ok (.getstatic 38, 3) := by decide +kernel
theorem d11_3 : decode jdk_42_method_154_code 3 = .ok (.ifCond .eq 14, 3) := by decide +kernel
theorem d11_6 : decode jdk_42_method_154_code 6 = .ok (.aload_n 0, 1) := by decide +kernel
theorem d11_7 : decode jdk_42_method_154_code 7 = .ok (.getfield 15, 3) := by decide +kernel
theorem d11_10 : decode jdk_42_method_154_code 10 = .ok (.ifCond .ne 7, 3) := by decide +kernel
theorem d11_13 : decode jdk_42_method_154_code 13 = .ok (.iconst 1, 1) := by decide +kernel
theorem d11_14 : decode jdk_42_method_154_code 14 = .ok (.goto 4, 3) := by decide +kernel
theorem d11_18 : decode jdk_42_method_154_code 18 = .ok (.ireturn, 1) := by decide +kernel
theorem ef_8 (m : MethodId) (x0 : Addr) : entryFrame m #[(.ref x0)] 1 = mkF m 0 #[rv x0] [] := by first | (simp [entryFrame, mkF, argsToLocals, Value.category]; done) | rfl
def Q8 (Z : State) (a730 : Addr) (i43 : Int32) (h0 : Heap) (n0 : Nat) (v : Option Value) (h : Heap) (L : List Loc) : Prop := v = some (.int (1 : Int32)) ∧ Fr n0 L ∧ h = h0
set_option maxRecDepth 65536 in
set_option maxHeartbeats 40000000 in
theorem rm8 (l : Launch) (Z : State) (a0 : Array Value) (hw : ∀ d ∈ tables_1, d.before a0 Z = true) (ws : List Jvm.Cond) (a730 : Addr) (i43 : Int32) (h0 : Heap) (n0 : Nat) (O0 : Old Z n0 h0) (S_String_COMPACT_STRINGS : Sta Z Z.heap zs1 zs11 "Z" (.int i43)) (pC741 : ¬ (i43 = (0 : Int32))) (pF_a730_coder : Fld Z h0 a730 zs1 "coder" "B" (.int (0 : Int32))) :
    MetFree l (⟨zs1, "isLatin1", "()Z"⟩ : MethodName) (head1 (Jvm.Cond.code (⟨zs1, "isLatin1", "()Z"⟩ : MethodName) jdk_42_method_154_code 1 (some .boolean) :: ws) ({ frames := 0, cells := 0, slots := 0, locals := 0 } : Room)) (fun a U => a = #[(.ref a730)] ∧ Z.Warmed39 U.vm ∧ U.heap = h0) (fun _ _ _ _ _ => True) (fun _ U o U' => ∃ v L, o = .returned v ∧ Q8 Z a730 i43 h0 n0 v U'.heap L ∧ FrameEnd U o U' L ({ frames := 0, cells := 0, slots := 0, locals := 0 } : Room).cells ({ frames := 0, cells := 0, slots := 0, locals := 0 } : Room).slots) := by
  refine MetFree.of_bodySF (plainFor_of_name pn_3) hisR ?_
  intro p e s m args below meth c s₁ Bd hml0 hP hK
  obtain ⟨rfl, hZ, hh⟩ := hP
  have hx := Bd.exec
  have hby := Bd.bytes
  have hml : c.maxLocals = 1 := hml0
  have hown : s.vm.findClass zs1 = some m.cls := findClass_of_methodNamed Bd.named
  have hnm := (name_of_methodNamed Bd.named Bd.method).1
  have X0 : Stand p l e ({ frames := 0, cells := 0, slots := 0, locals := 0 } : Room) s m #[(.ref a730)] below meth c s₁ [] 0 0 := Stand.of_body Bd
  have e0 : s₁.heap = h0 := by rw [← hh, Bd.state]; rfl
  have N0 := Fr.nil n0
  refine own_out ?_
  refine own_via (fun t k => castTop (ef_8 m a730) k) ?_
  obtain ⟨T795, X795, e795, st795⟩ := getS2 X0 hx hZ hown (host := "") (Or.inl (wd hw 22 rfl)) Via.refl e0 (S_String_COMPACT_STRINGS.ext O0.2) (g := (mkF m 0 #[rv a730] [])) rfl (hb hby d11_0)
  refine own_via (fun t k => st795 t (XS.ifNo X795.here hx rfl (hb hby d11_3) rfl ((if0 _ _).trans (feq pC741).1) (XS.aloadN X795.here hx rfl (hb hby d11_6) rfl rfl k))) ?_
  show own_Goes p e below (T795.setTop (mkF m 7 #[rv a730] [(.ref a730)])) _
  obtain ⟨T796, X796, e796, st796⟩ := getF X795 hx hZ hown (host := "") (Or.inl (wd hw 34 rfl)) Via.refl e795 pF_a730_coder (g := (mkF m 7 #[rv a730] [(.ref a730)])) rfl rfl (hb hby d11_7)
  refine own_via (fun t k => st796 t (XS.ifNo X796.here hx rfl (hb hby d11_10) rfl ((if0 _ _).trans (teq (by decide : (0 : Int32) = (0 : Int32))).2) (XS.iconst X796.here hx rfl (hb hby d11_13) (XS.goto X796.here hx rfl (pc0 := 14) (pc' := 18) rfl (hb hby d11_14) (by decide) (by decide) k)))) ?_
  show own_Goes p e below (T796.setTop (mkF m 18 #[rv a730] [(.int (1 : Int32))])) _
  obtain ⟨fs, hr, hrun, hended, hW, hsame⟩ := X796.leave (v := some (.int (1 : Int32))) (fun h => by rw [Bd.returns] at h; cases h)
  refine own_end (t := T796.setFrames fs) ?_ ⟨_, hrun, hended, _, _, rfl, ?_, ⟨_, rfl⟩, hW, hsame.mono (by decide) (by decide)⟩
  · exact retN X796 hx (t := .boolean) Bd.returns (by simp) (hb hby d11_18) hr
  · show Q8 Z a730 i43 h0 n0 _ T796.heap _
    rw [e796]
    exact ⟨rfl, N0, rfl⟩
theorem pd_8 : parseMethodDescriptor "()Z" = some ⟨[], some .boolean⟩ := by decide +kernel
theorem d10_4 : decode jdk_42_method_56_code 4 = .ok (.ifCond .eq 12, 3) := by decide +kernel
theorem d10_7 : decode jdk_42_method_56_code 7 = .ok (.aload_n 0, 1) := by decide +kernel
theorem d10_8 : decode jdk_42_method_56_code 8 = .ok (.getfield 9, 3) := by decide +kernel
theorem d10_11 : decode jdk_42_method_56_code 11 = .ok (.iload_n 1, 1) := by decide +kernel
theorem d10_12 : decode jdk_42_method_56_code 12 = .ok (.invokestatic 495, 3) := by decide +kernel
theorem d12_0 : decode jdk_43_method_2_code 0 = .ok (.iload_n 1, 1) := by decide +kernel
theorem d12_1 : decode jdk_43_method_2_code 1 = .ok (.aload_n 0, 1) := by decide +kernel
theorem d12_2 : decode jdk_43_method_2_code 2 = .ok (.arraylength, 1) := by decide +kernel
theorem d12_3 : decode jdk_43_method_2_code 3 = .ok (.invokestatic 9, 3) := by decide +kernel
theorem d13_0 : decode jdk_42_method_155_code 0 = .ok (.iload_n 0, 1) := by decide +kernel
theorem d13_1 : decode jdk_42_method_155_code 1 = .ok (.iload_n 1, 1) := by decide +kernel
theorem d13_2 : decode jdk_42_method_155_code 2 = .ok (.getstatic 1053, 3) := by decide +kernel
theorem d13_5 : decode jdk_42_method_155_code 5 = .ok (.invokestatic 1059, 3) := by decide +kernel
theorem d14_0 : decode jdk_41_method_11_code 0 = .ok (.iload_n 0, 1) := by decide +kernel
theorem d14_1 : decode jdk_41_method_11_code 1 = .ok (.ifCond .lt 8, 3) := by decide +kernel
theorem d14_4 : decode jdk_41_method_11_code 4 = .ok (.iload_n 0, 1) := by decide +kernel
theorem d14_5 : decode jdk_41_method_11_code 5 = .ok (.iload_n 1, 1) := by decide +kernel
theorem d14_6 : decode jdk_41_method_11_code 6 = .ok (.if_icmp .lt 10, 3) := by decide +kernel
theorem d14_16 : decode jdk_41_method_11_code 16 = .ok (.iload_n 0, 1) := by decide +kernel
theorem d14_17 : decode jdk_41_method_11_code 17 = .ok (.ireturn, 1) := by decide +kernel
theorem ef_9 (m : MethodId) (x0 : Int32) (x1 : Int32) (x2 : Option Addr) : entryFrame m #[(.int x0), (.int x1), (own_rf x2)] 3 = mkF m 0 #[iv x0, iv x1, .val (own_rf x2)] [] := by first | (simp [entryFrame, mkF, argsToLocals, Value.category]; done) | rfl | (cases x2 <;> rfl)
theorem pn_5 : plainName "jdk/internal/util/Preconditions" = true := by first | (simp [plainName, overriddenIn]; done) | decide +kernel
def Q9 (Z : State) (p936 : Int32) (fm1 : Option Addr) (h0 : Heap) (n0 : Nat) (v : Option Value) (h : Heap) (L : List Loc) : Prop := v = some (.int p936) ∧ Fr n0 L ∧ h = h0
set_option maxRecDepth 65536 in
set_option maxHeartbeats 40000000 in
theorem rm9 (l : Launch) (Z : State) (a0 : Array Value) (hw : ∀ d ∈ tables_1, d.before a0 Z = true) (ws : List Jvm.Cond) (p936 : Int32) (fm1 : Option Addr) (h0 : Heap) (n0 : Nat) (O0 : Old Z n0 h0) (pC999 : ¬ (p936 < (0 : Int32))) (pC1000 : p936 < (81 : Int32)) :
    MetFree l (⟨zs8, "checkIndex", zs14⟩ : MethodName) (head1 (Jvm.Cond.code (⟨zs8, "checkIndex", zs14⟩ : MethodName) jdk_41_method_11_code 3 (some .int) :: ws) ({ frames := 0, cells := 0, slots := 0, locals := 0 } : Room)) (fun a U => a = #[(.int p936), (.int (81 : Int32)), (own_rf fm1)] ∧ Z.Warmed39 U.vm ∧ U.heap = h0) (fun _ _ _ _ _ => True) (fun _ U o U' => ∃ v L, o = .returned v ∧ Q9 Z p936 fm1 h0 n0 v U'.heap L ∧ FrameEnd U o U' L ({ frames := 0, cells := 0, slots := 0, locals := 0 } : Room).cells ({ frames := 0, cells := 0, slots := 0, locals := 0 } : Room).slots) := by
  refine MetFree.of_bodySF (plainFor_of_name pn_5) hisR ?_
  intro p e s m args below meth c s₁ Bd hml0 hP hK
  obtain ⟨rfl, hZ, hh⟩ := hP
  have hx := Bd.exec
  have hby := Bd.bytes
  have hml : c.maxLocals = 3 := hml0
  have hown : s.vm.findClass zs8 = some m.cls := findClass_of_methodNamed Bd.named
  have hnm := (name_of_methodNamed Bd.named Bd.method).1
  have X0 : Stand p l e ({ frames := 0, cells := 0, slots := 0, locals := 0 } : Room) s m #[(.int p936), (.int (81 : Int32)), (own_rf fm1)] below meth c s₁ [] 0 0 := Stand.of_body Bd
  have e0 : s₁.heap = h0 := by rw [← hh, Bd.state]; rfl
  have N0 := Fr.nil n0
  refine own_out ?_
  refine own_via (fun t k => castTop (ef_9 m p936 (81 : Int32) fm1) (XS.iloadN X0.here hx rfl (hb hby d14_0) rfl (XS.ifNo X0.here hx rfl (hb hby d14_1) rfl ((if0 _ _).trans (flt pC999).1) (XS.iloadN X0.here hx rfl (hb hby d14_4) rfl (XS.iloadN X0.here hx rfl (hb hby d14_5) rfl (XS.icmpYes X0.here hx rfl (pc0 := 6) (pc' := 16) rfl (hb hby d14_6) rfl (tlt pC1000).1 (by decide) (by decide) (XS.iloadN X0.here hx rfl (hb hby d14_16) rfl k))))))) ?_
  show own_Goes p e below (s₁.setTop (mkF m 17 #[iv p936, iv (81 : Int32), .val (own_rf fm1)] [(.int p936)])) _
  obtain ⟨fs, hr, hrun, hended, hW, hsame⟩ := X0.leave (v := some (.int p936)) (fun h => by rw [Bd.returns] at h; cases h)
  refine own_end (t := s₁.setFrames fs) ?_ ⟨_, hrun, hended, _, _, rfl, ?_, ⟨_, rfl⟩, hW, hsame.mono (by decide) (by decide)⟩
  · exact retI X0 hx Bd.returns (hb hby d14_17) hr
  · show Q9 Z p936 fm1 h0 n0 _ s₁.heap _
    rw [e0]
    exact ⟨rfl, N0, rfl⟩
theorem pd_9 : parseMethodDescriptor "(IILjava/util/function/BiFunction;)I" = some ⟨[.int, .int, (.object "java/util/function/BiFunction")], some .int⟩ := by decide +kernel
theorem d13_8 : decode jdk_42_method_155_code 8 = .ok (.pop, 1) := by decide +kernel
theorem d13_9 : decode jdk_42_method_155_code 9 = .ok (.return_, 1) := by decide +kernel
theorem ef_10 (m : MethodId) (x0 : Int32) (x1 : Int32) : entryFrame m #[(.int x0), (.int x1)] 2 = mkF m 0 #[iv x0, iv x1] [] := by first | (simp [entryFrame, mkF, argsToLocals, Value.category]; done) | rfl
def Q10 (Z : State) (p868 : Int32) (fm1 : Option Addr) (h0 : Heap) (n0 : Nat) (v : Option Value) (h : Heap) (L : List Loc) : Prop := v = none ∧ Fr n0 L ∧ h = h0
set_option maxRecDepth 65536 in
set_option maxHeartbeats 40000000 in
theorem rm10 (l : Launch) (Z : State) (a0 : Array Value) (hw : ∀ d ∈ tables_1, d.before a0 Z = true) (ws : List Jvm.Cond) (p868 : Int32) (fm1 : Option Addr) (h0 : Heap) (n0 : Nat) (O0 : Old Z n0 h0) (S_Preconditions_SIOOBE_FORMATTER : Sta Z Z.heap zs8 zs13 zs10 (own_rf fm1)) (pC931 : ¬ (p868 < (0 : Int32))) (pC932 : p868 < (81 : Int32)) :
    MetFree l (⟨zs1, "checkIndex", "(II)V"⟩ : MethodName) (head1 (Jvm.Cond.code (⟨zs1, "checkIndex", "(II)V"⟩ : MethodName) jdk_42_method_155_code 2 none :: ws) ({ frames := 1, cells := 0, slots := 0, locals := 14 } : Room)) (fun a U => a = #[(.int p868), (.int (81 : Int32))] ∧ Z.Warmed39 U.vm ∧ U.heap = h0) (fun _ _ _ _ _ => True) (fun _ U o U' => ∃ v L, o = .returned v ∧ Q10 Z p868 fm1 h0 n0 v U'.heap L ∧ FrameEnd U o U' L ({ frames := 1, cells := 0, slots := 0, locals := 14 } : Room).cells ({ frames := 1, cells := 0, slots := 0, locals := 14 } : Room).slots) := by
  refine MetFree.of_bodySF (plainFor_of_name pn_3) hisR ?_
  intro p e s m args below meth c s₁ Bd hml0 hP hK
  obtain ⟨rfl, hZ, hh⟩ := hP
  have hx := Bd.exec
  have hby := Bd.bytes
  have hml : c.maxLocals = 2 := hml0
  have hown : s.vm.findClass zs1 = some m.cls := findClass_of_methodNamed Bd.named
  have hnm := (name_of_methodNamed Bd.named Bd.method).1
  have X0 : Stand p l e ({ frames := 1, cells := 0, slots := 0, locals := 14 } : Room) s m #[(.int p868), (.int (81 : Int32))] below meth c s₁ [] 0 0 := Stand.of_body Bd
  have e0 : s₁.heap = h0 := by rw [← hh, Bd.state]; rfl
  have N0 := Fr.nil n0
  refine own_out ?_
  refine own_via (fun t k => castTop (ef_10 m p868 (81 : Int32)) (XS.iloadN X0.here hx rfl (hb hby d13_0) rfl (XS.iloadN X0.here hx rfl (hb hby d13_1) rfl k))) ?_
  show own_Goes p e below (s₁.setTop (mkF m 2 #[iv p868, iv (81 : Int32)] [(.int (81 : Int32)), (.int p868)])) _
  obtain ⟨T934, X934, e934, st934⟩ := getS2 X0 hx hZ hown (host := "") (Or.inl (wd hw 70 rfl)) Via.refl e0 (S_Preconditions_SIOOBE_FORMATTER.ext O0.2) (g := (mkF m 2 #[iv p868, iv (81 : Int32)] [(.int (81 : Int32)), (.int p868)])) rfl (hb hby d13_2)
  refine own_via (fun t k => st934 t k) ?_
  obtain ⟨_, T935, _, X935, hQ935, st935⟩ := own_cs X934 hx hZ hown (wd hw 72 rfl) (wd hw 73 rfl) (wd hw 74 rfl) (wd hw 71 rfl) (by decide) (rm9 l Z a0 hw [] p868 fm1 h0 n0 O0 pC931 pC932) e934 (g := (mkF m 5 #[iv p868, iv (81 : Int32)] [(own_rf fm1), (.int (81 : Int32)), (.int p868)])) rfl (by rw [hml]; rfl) (rest := []) (W := 0) (lenOf pd_9 rfl) rfl (by show 2 * 0 + _ ≤ _; exact Nat.le_of_eq rfl) (hb hby d13_5) (by decide) (by decide) (by decide) (by decide)
  obtain ⟨rfl, Nq935, hh1002⟩ := hQ935
  have N935 := Fr.app N0 Nq935
  refine own_via (fun t k => st935 t (XS.pop X935.here hx rfl (hb hby d13_8) rfl rfl k)) ?_
  obtain ⟨fs, hr, hrun, hended, hW, hsame⟩ := X935.leave (v := none) (fun _ => rfl)
  refine own_end (t := T935.setFrames fs) ?_ ⟨_, hrun, hended, _, _, rfl, ?_, ⟨_, rfl⟩, hW, hsame.mono (by decide) (by decide)⟩
  · exact X935.returnOut hx Bd.returns (hb hby d13_9) hr
  · show Q10 Z p868 fm1 h0 n0 _ T935.heap _
    rw [hh1002]
    exact ⟨rfl, N935, rfl⟩
theorem pd_10 : parseMethodDescriptor "(II)V" = some ⟨[.int, .int], none⟩ := by decide +kernel
theorem d12_6 : decode jdk_43_method_2_code 6 = .ok (.aload_n 0, 1) := by decide +kernel
theorem d12_7 : decode jdk_43_method_2_code 7 = .ok (.iload_n 1, 1) := by decide +kernel
theorem d12_8 : decode jdk_43_method_2_code 8 = .ok (.baload, 1) := by decide +kernel
theorem d12_9 : decode jdk_43_method_2_code 9 = .ok (.sipush 255, 3) := by decide +kernel
theorem d12_12 : decode jdk_43_method_2_code 12 = .ok (.iand, 1) := by decide +kernel
theorem d12_13 : decode jdk_43_method_2_code 13 = .ok (.i2c, 1) := by decide +kernel
theorem d12_14 : decode jdk_43_method_2_code 14 = .ok (.ireturn, 1) := by decide +kernel
theorem ef_11 (m : MethodId) (x0 : Addr) (x1 : Int32) : entryFrame m #[(.ref x0), (.int x1)] 2 = mkF m 0 #[rv x0, iv x1] [] := by first | (simp [entryFrame, mkF, argsToLocals, Value.category]; done) | rfl
theorem pn_6 : plainName "java/lang/StringLatin1" = true := by first | (simp [plainName, overriddenIn]; done) | decide +kernel
def Q11 (Z : State) (a800 : Addr) (p801 : Int32) (fm1 : Option Addr) (k810 : ClassId) (f803 : Nat → Int32) (h0 : Heap) (n0 : Nat) (v : Option Value) (h : Heap) (L : List Loc) : Prop := v = some (.int (f803 (p801).toNatClampNeg)) ∧ Fr n0 L ∧ h = h0
set_option maxRecDepth 65536 in
set_option maxHeartbeats 40000000 in
theorem rm11 (l : Launch) (Z : State) (a0 : Array Value) (hw : ∀ d ∈ tables_1, d.before a0 Z = true) (ws : List Jvm.Cond) (a800 : Addr) (p801 : Int32) (fm1 : Option Addr) (k810 : ClassId) (f803 : Nat → Int32) (h0 : Heap) (n0 : Nat) (O0 : Old Z n0 h0) (pL_a800 : own_Len Z h0 a800 .byte (81 : Int32)) (S_Preconditions_SIOOBE_FORMATTER : Sta Z Z.heap zs8 zs13 zs10 (own_rf fm1)) (pC863 : ¬ (p801 < (0 : Int32))) (pC864 : p801 < (81 : Int32)) (pV_a800 : Arv Z h0 a800 k810 .byte (81 : Int32) (own_vs 81 (own_bt 81 f803)) (.int (0 : Int32))) (pC860 : own_okF f803) :
    MetFree l (⟨zs18, "charAt", "([BI)C"⟩ : MethodName) (head1 (Jvm.Cond.code (⟨zs18, "charAt", "([BI)C"⟩ : MethodName) jdk_43_method_2_code 2 (some .char) :: ws) ({ frames := 2, cells := 0, slots := 0, locals := 27 } : Room)) (fun a U => a = #[(.ref a800), (.int p801)] ∧ Z.Warmed39 U.vm ∧ U.heap = h0) (fun _ _ _ _ _ => True) (fun _ U o U' => ∃ v L, o = .returned v ∧ Q11 Z a800 p801 fm1 k810 f803 h0 n0 v U'.heap L ∧ FrameEnd U o U' L ({ frames := 2, cells := 0, slots := 0, locals := 27 } : Room).cells ({ frames := 2, cells := 0, slots := 0, locals := 27 } : Room).slots) := by
  refine MetFree.of_bodySF (plainFor_of_name pn_6) hisR ?_
  intro p e s m args below meth c s₁ Bd hml0 hP hK
  obtain ⟨rfl, hZ, hh⟩ := hP
  have hx := Bd.exec
  have hby := Bd.bytes
  have hml : c.maxLocals = 2 := hml0
  have hown : s.vm.findClass zs18 = some m.cls := findClass_of_methodNamed Bd.named
  have hnm := (name_of_methodNamed Bd.named Bd.method).1
  have X0 : Stand p l e ({ frames := 2, cells := 0, slots := 0, locals := 27 } : Room) s m #[(.ref a800), (.int p801)] below meth c s₁ [] 0 0 := Stand.of_body Bd
  have e0 : s₁.heap = h0 := by rw [← hh, Bd.state]; rfl
  have N0 := Fr.nil n0
  refine own_out ?_
  refine own_via (fun t k => castTop (ef_11 m a800 p801) (XS.iloadN X0.here hx rfl (hb hby d12_0) rfl (XS.aloadN X0.here hx rfl (hb hby d12_1) rfl rfl k))) ?_
  show own_Goes p e below (s₁.setTop (mkF m 2 #[rv a800, iv p801] [(.ref a800), (.int p801)])) _
  obtain ⟨_, _, _, V866⟩ := id (pL_a800)
  obtain ⟨cl866, Ar866, -, S866, M866, -, -⟩ := id (V866)
  refine own_via (fun t k => X0.arraylength hx (by rw [e0]; exact Ar866.1) (State.isArrayOf_alike hZ.alike Ar866.2.1) (g := (mkF m 2 #[rv a800, iv p801] [(.ref a800), (.int p801)])) rfl rfl (hb hby d12_2) t k) ?_
  rw [len_of S866 M866]
  show own_Goes p e below (s₁.setTop (mkF m 3 #[rv a800, iv p801] [(.int (81 : Int32)), (.int p801)])) _
  obtain ⟨_, T867, _, X867, hQ867, st867⟩ := own_cs X0 hx hZ hown (wd hw 67 rfl) (wd hw 68 rfl) (wd hw 69 rfl) (wd hw 11 rfl) (by decide) (rm10 l Z a0 hw [] p801 fm1 h0 n0 O0 S_Preconditions_SIOOBE_FORMATTER pC863 pC864) e0 (g := (mkF m 3 #[rv a800, iv p801] [(.int (81 : Int32)), (.int p801)])) rfl (by rw [hml]; rfl) (rest := []) (W := 0) (lenOf pd_10 rfl) rfl (by show 2 * 0 + _ ≤ _; exact Nat.le_of_eq rfl) (hb hby d12_3) (by decide) (by decide) (by decide) (by decide)
  obtain ⟨rfl, Nq867, hh1003⟩ := hQ867
  have N867 := Fr.app N0 Nq867
  refine own_via (fun t k => st867 t (XS.aloadN X867.here hx rfl (hb hby d12_6) rfl rfl (XS.iloadN X867.here hx rfl (hb hby d12_7) rfl k))) ?_
  show own_Goes p e below (T867.setTop (mkF m 8 #[rv a800, iv p801] [(.int p801), (.ref a800)])) _
  obtain ⟨cl1004, Ar1004, qq1004, S1004, M1004, H1004, G1004⟩ := id (pV_a800)
  have hin1004 : ¬ (p801 < 0 ∨ cl1004.slots.size ≤ (p801).toNatClampNeg) := inb_of S1004 ⟨pC863, pC864⟩
  refine own_via (fun t k => X867.baloadBytes hx (j := p801) (v := (.int ((own_bt 81 f803) (p801).toNatClampNeg))) (by rw [hh1003]; exact Ar1004.1) (State.isArrayOf_alike hZ.alike Ar1004.2.1) Ar1004.2.2 hin1004 (Has.at H1004 hin1004 (own_vs_at (own_inN S1004 rfl hin1004))) (g := (mkF m 8 #[rv a800, iv p801] [(.int p801), (.ref a800)])) rfl rfl (hb hby d12_8) t (XS.sipush X867.here hx rfl (hb hby d12_9) (XS.iand X867.here hx rfl (hb hby d12_12) rfl (XS.i2c X867.here hx rfl (hb hby d12_13) rfl k)))) ?_
  show own_Goes p e below (T867.setTop (mkF m 14 #[rv a800, iv p801] [(.int ((((own_bt 81 f803) (p801).toNatClampNeg) &&& (255 : Int32)).toUInt32.toUInt16.toUInt32.toInt32))])) _
  obtain ⟨fs, hr, hrun, hended, hW, hsame⟩ := X867.leave (v := some (.int (nar .char ((((own_bt 81 f803) (p801).toNatClampNeg) &&& (255 : Int32)).toUInt32.toUInt16.toUInt32.toInt32)))) (fun h => by rw [Bd.returns] at h; cases h)
  refine own_end (t := T867.setFrames fs) ?_ ⟨_, hrun, hended, _, _, rfl, ?_, ⟨_, rfl⟩, hW, hsame.mono (by decide) (by decide)⟩
  · exact retN X867 hx (t := .char) Bd.returns (by simp) (hb hby d12_14) hr
  · show Q11 Z a800 p801 fm1 k810 f803 h0 n0 _ T867.heap _
    rw [hh1003]
    exact ⟨(congrArg (fun q => some (Value.int q)) (own_foldL (by decide) pC860 pC863 pC864)), N867, rfl⟩
theorem pd_11 : parseMethodDescriptor "([BI)C" = some ⟨[(.array .byte), .int], some .char⟩ := by decide +kernel
theorem d10_15 : decode jdk_42_method_56_code 15 = .ok (.ireturn, 1) := by decide +kernel
theorem ef_12 (m : MethodId) (x0 : Addr) (x1 : Int32) : entryFrame m #[(.ref x0), (.int x1)] 2 = mkF m 0 #[rv x0, iv x1] [] := by first | (simp [entryFrame, mkF, argsToLocals, Value.category]; done) | rfl
def Q12 (Z : State) (a664 : Addr) (p665 : Int32) (i43 : Int32) (a672 : Addr) (fm1 : Option Addr) (k673 : ClassId) (f667 : Nat → Int32) (h0 : Heap) (n0 : Nat) (v : Option Value) (h : Heap) (L : List Loc) : Prop := v = some (.int (f667 (p665).toNatClampNeg)) ∧ Fr n0 L ∧ h = h0
set_option maxRecDepth 65536 in
set_option maxHeartbeats 40000000 in
theorem rm12 (l : Launch) (Z : State) (a0 : Array Value) (hw : ∀ d ∈ tables_1, d.before a0 Z = true) (ws : List Jvm.Cond) (a664 : Addr) (p665 : Int32) (i43 : Int32) (a672 : Addr) (fm1 : Option Addr) (k673 : ClassId) (f667 : Nat → Int32) (h0 : Heap) (n0 : Nat) (O0 : Old Z n0 h0) (S_String_COMPACT_STRINGS : Sta Z Z.heap zs1 zs11 "Z" (.int i43)) (pC676 : ¬ (i43 = (0 : Int32))) (pF_a664_coder : Fld Z h0 a664 zs1 "coder" "B" (.int (0 : Int32))) (pE_a664 : Exa Z h0 a664 zs1) (pF_a664_value : Fld Z h0 a664 zs1 "value" "[B" (.ref a672)) (pL_a672 : own_Len Z h0 a672 .byte (81 : Int32)) (S_Preconditions_SIOOBE_FORMATTER : Sta Z Z.heap zs8 zs13 zs10 (own_rf fm1)) (pC726 : ¬ (p665 < (0 : Int32))) (pC727 : p665 < (81 : Int32)) (pV_a672 : Arv Z h0 a672 k673 .byte (81 : Int32) (own_vs 81 (own_bt 81 f667)) (.int (0 : Int32))) (pC723 : own_okF f667) :
    MetFree l (⟨zs1, "charAt", "(I)C"⟩ : MethodName) (head1 (Jvm.Cond.code (⟨zs1, "charAt", "(I)C"⟩ : MethodName) jdk_42_method_56_code 2 (some .char) :: ws) ({ frames := 3, cells := 0, slots := 0, locals := 40 } : Room)) (fun a U => a = #[(.ref a664), (.int p665)] ∧ Z.Warmed39 U.vm ∧ U.heap = h0) (fun _ _ _ _ _ => True) (fun _ U o U' => ∃ v L, o = .returned v ∧ Q12 Z a664 p665 i43 a672 fm1 k673 f667 h0 n0 v U'.heap L ∧ FrameEnd U o U' L ({ frames := 3, cells := 0, slots := 0, locals := 40 } : Room).cells ({ frames := 3, cells := 0, slots := 0, locals := 40 } : Room).slots) := by
  refine MetFree.of_bodySF (plainFor_of_name pn_3) hisR ?_
  intro p e s m args below meth c s₁ Bd hml0 hP hK
  obtain ⟨rfl, hZ, hh⟩ := hP
  have hx := Bd.exec
  have hby := Bd.bytes
  have hml : c.maxLocals = 2 := hml0
  have hown : s.vm.findClass zs1 = some m.cls := findClass_of_methodNamed Bd.named
  have hnm := (name_of_methodNamed Bd.named Bd.method).1
  have X0 : Stand p l e ({ frames := 3, cells := 0, slots := 0, locals := 40 } : Room) s m #[(.ref a664), (.int p665)] below meth c s₁ [] 0 0 := Stand.of_body Bd
  have e0 : s₁.heap = h0 := by rw [← hh, Bd.state]; rfl
  have N0 := Fr.nil n0
  refine own_out ?_
  refine own_via (fun t k => castTop (ef_12 m a664 p665) (XS.aloadN X0.here hx rfl (hb hby d10_0) rfl rfl k)) ?_
  obtain ⟨_, T729, _, X729, hQ729, st729⟩ := own_cv X0 hx hZ hown (wd hw 58 rfl) (wd hw 59 rfl) (wd hw 61 rfl) (wd hw 60 rfl) (wd hw 62 rfl) (wd hw 11 rfl) (by decide) (rm8 l Z a0 hw [] a664 i43 h0 n0 O0 S_String_COMPACT_STRINGS pC676 pF_a664_coder) e0 pE_a664 (g := (mkF m 1 #[rv a664, iv p665] [(.ref a664)])) rfl (by rw [hml]; rfl) (rest := []) (W := 0) (lenOf pd_8 rfl) rfl (by show 2 * 0 + _ ≤ _; exact Nat.le_of_eq rfl) (hb hby d10_1) (by decide) (by decide) (by decide) (by decide)
  obtain ⟨rfl, Nq729, hh797⟩ := hQ729
  have N729 := Fr.app N0 Nq729
  refine own_via (fun t k => st729 t (XS.ifNo X729.here hx rfl (hb hby d10_4) rfl ((if0 _ _).trans (feq (by decide : ¬ ((1 : Int32) = (0 : Int32)))).1) (XS.aloadN X729.here hx rfl (hb hby d10_7) rfl rfl k))) ?_
  show own_Goes p e below (T729.setTop (mkF m 8 #[rv a664, iv p665] [(.ref a664)])) _
  obtain ⟨T798, X798, e798, st798⟩ := getF X729 hx hZ hown (host := "") (Or.inl (wd hw 36 rfl)) Via.refl hh797 pF_a664_value (g := (mkF m 8 #[rv a664, iv p665] [(.ref a664)])) rfl rfl (hb hby d10_8)
  refine own_via (fun t k => st798 t (XS.iloadN X798.here hx rfl (hb hby d10_11) rfl k)) ?_
  obtain ⟨_, T799, _, X799, hQ799, st799⟩ := own_cs X798 hx hZ hown (wd hw 63 rfl) (wd hw 64 rfl) (wd hw 66 rfl) (wd hw 65 rfl) (by decide) (rm11 l Z a0 hw [] a672 p665 fm1 k673 f667 h0 n0 O0 pL_a672 S_Preconditions_SIOOBE_FORMATTER pC726 pC727 pV_a672 pC723) e798 (g := (mkF m 12 #[rv a664, iv p665] [(.int p665), (.ref a672)])) rfl (by rw [hml]; rfl) (rest := []) (W := 0) (lenOf pd_11 rfl) rfl (by show 2 * 0 + _ ≤ _; exact Nat.le_of_eq rfl) (hb hby d10_12) (by decide) (by decide) (by decide) (by decide)
  obtain ⟨rfl, Nq799, hh1005⟩ := hQ799
  have N799 := Fr.app N729 Nq799
  refine own_via (fun t k => st799 t k) ?_
  obtain ⟨fs, hr, hrun, hended, hW, hsame⟩ := X799.leave (v := some (.int (nar .char (f667 (p665).toNatClampNeg)))) (fun h => by rw [Bd.returns] at h; cases h)
  refine own_end (t := T799.setFrames fs) ?_ ⟨_, hrun, hended, _, _, rfl, ?_, ⟨_, rfl⟩, hW, hsame.mono (by decide) (by decide)⟩
  · exact retN X799 hx (t := .char) Bd.returns (by simp) (hb hby d10_15) hr
  · show Q12 Z a664 p665 i43 a672 fm1 k673 f667 h0 n0 _ T799.heap _
    rw [hh1005]
    exact ⟨(congrArg (fun q => some (Value.int q)) (own_foldC pC723 pC726 pC727)), N799, rfl⟩
theorem d8_44 : decode prog_15_method_4_code 44 = .ok (.iload 4, 2) := by decide +kernel
theorem d8_46 : decode prog_15_method_4_code 46 = .ok (.aload_n 3, 1) := by decide +kernel
theorem d8_47 : decode prog_15_method_4_code 47 = .ok (.arraylength, 1) := by decide +kernel
theorem d8_48 : decode prog_15_method_4_code 48 = .ok (.if_icmp .ge 76, 3) := by decide +kernel
theorem d8_124 : decode prog_15_method_4_code 124 = .ok (.getstatic 41, 3) := by decide +kernel
theorem d8_127 : decode prog_15_method_4_code 127 = .ok (.aload_n 3, 1) := by decide +kernel
theorem d8_128 : decode prog_15_method_4_code 128 = .ok (.invokestatic 77, 3) := by decide +kernel
theorem d15_0 : decode prog_11_method_2_code 0 = .ok (.aload_n 1, 1) := by decide +kernel
theorem d15_1 : decode prog_11_method_2_code 1 = .ok (.invokevirtual 17, 3) := by decide +kernel
theorem d15_4 : decode prog_11_method_2_code 4 = .ok (.checkcast 18, 3) := by decide +kernel
theorem d15_7 : decode prog_11_method_2_code 7 = .ok (.astore_n 2, 1) := by decide +kernel
theorem d15_8 : decode prog_11_method_2_code 8 = .ok (.aload_n 2, 1) := by decide +kernel
theorem d15_9 : decode prog_11_method_2_code 9 = .ok (.arraylength, 1) := by decide +kernel
theorem d15_10 : decode prog_11_method_2_code 10 = .ok (.aload_n 0, 1) := by decide +kernel
theorem d15_11 : decode prog_11_method_2_code 11 = .ok (.invokevirtual 22, 3) := by decide +kernel
theorem d15_14 : decode prog_11_method_2_code 14 = .ok (.if_icmp .eq 22, 3) := by decide +kernel
theorem d15_36 : decode prog_11_method_2_code 36 = .ok (.iconst 0, 1) := by decide +kernel
theorem d15_37 : decode prog_11_method_2_code 37 = .ok (.istore_n 3, 1) := by decide +kernel
theorem d16_0 : decode prog_12_method_2_code 0 = .ok (.aload_n 0, 1) := by decide +kernel
theorem d16_1 : decode prog_12_method_2_code 1 = .ok (.getfield 7, 3) := by decide +kernel
theorem d16_4 : decode prog_12_method_2_code 4 = .ok (.ireturn, 1) := by decide +kernel
theorem ef_13 (m : MethodId) (x0 : Addr) : entryFrame m #[(.ref x0)] 1 = mkF m 0 #[rv x0] [] := by first | (simp [entryFrame, mkF, argsToLocals, Value.category]; done) | rfl
def Q13 (Z : State) (w36 : Addr) (h0 : Heap) (n0 : Nat) (v : Option Value) (h : Heap) (L : List Loc) : Prop := v = some (.int (9 : Int32)) ∧ Fr n0 L ∧ h = h0
set_option maxRecDepth 65536 in
set_option maxHeartbeats 40000000 in
theorem rm13 (l : Launch) (Z : State) (a0 : Array Value) (hw : ∀ d ∈ tables_1, d.before a0 Z = true) (ws : List Jvm.Cond) (w36 : Addr) (h0 : Heap) (n0 : Nat) (O0 : Old Z n0 h0) (SF_w36_side : Fld Z Z.heap w36 zs4 "side" "I" (.int (9 : Int32))) :
    MetFree l (⟨zs4, "side", "()I"⟩ : MethodName) (head1 (Jvm.Cond.code (⟨zs4, "side", "()I"⟩ : MethodName) prog_12_method_2_code 1 (some .int) :: ws) ({ frames := 0, cells := 0, slots := 0, locals := 0 } : Room)) (fun a U => a = #[(.ref w36)] ∧ Z.Warmed39 U.vm ∧ U.heap = h0) (fun _ _ _ _ _ => True) (fun _ U o U' => ∃ v L, o = .returned v ∧ Q13 Z w36 h0 n0 v U'.heap L ∧ FrameEnd U o U' L ({ frames := 0, cells := 0, slots := 0, locals := 0 } : Room).cells ({ frames := 0, cells := 0, slots := 0, locals := 0 } : Room).slots) := by
  refine MetFree.of_bodySF (plainFor_of_name pn_4) hisR ?_
  intro p e s m args below meth c s₁ Bd hml0 hP hK
  obtain ⟨rfl, hZ, hh⟩ := hP
  have hx := Bd.exec
  have hby := Bd.bytes
  have hml : c.maxLocals = 1 := hml0
  have hown : s.vm.findClass zs4 = some m.cls := findClass_of_methodNamed Bd.named
  have hnm := (name_of_methodNamed Bd.named Bd.method).1
  have X0 : Stand p l e ({ frames := 0, cells := 0, slots := 0, locals := 0 } : Room) s m #[(.ref w36)] below meth c s₁ [] 0 0 := Stand.of_body Bd
  have e0 : s₁.heap = h0 := by rw [← hh, Bd.state]; rfl
  have N0 := Fr.nil n0
  refine own_out ?_
  refine own_via (fun t k => castTop (ef_13 m w36) (XS.aloadN X0.here hx rfl (hb hby d16_0) rfl rfl k)) ?_
  obtain ⟨T1154, X1154, e1154, st1154⟩ := getF X0 hx hZ hown (host := "") (Or.inl (wd hw 50 rfl)) Via.refl e0 (SF_w36_side.ext O0.2) (g := (mkF m 1 #[rv w36] [(.ref w36)])) rfl rfl (hb hby d16_1)
  refine own_via (fun t k => st1154 t k) ?_
  obtain ⟨fs, hr, hrun, hended, hW, hsame⟩ := X1154.leave (v := some (.int (9 : Int32))) (fun h => by rw [Bd.returns] at h; cases h)
  refine own_end (t := T1154.setFrames fs) ?_ ⟨_, hrun, hended, _, _, rfl, ?_, ⟨_, rfl⟩, hW, hsame.mono (by decide) (by decide)⟩
  · exact retI X1154 hx Bd.returns (hb hby d16_4) hr
  · show Q13 Z w36 h0 n0 _ T1154.heap _
    rw [e1154]
    exact ⟨rfl, N0, rfl⟩
theorem d15_38 : decode prog_11_method_2_code 38 = .ok (.iload_n 3, 1) := by decide +kernel
theorem d15_39 : decode prog_11_method_2_code 39 = .ok (.aload_n 2, 1) := by decide +kernel
theorem d15_40 : decode prog_11_method_2_code 40 = .ok (.arraylength, 1) := by decide +kernel
theorem d15_41 : decode prog_11_method_2_code 41 = .ok (.if_icmp .ge 42, 3) := by decide +kernel
theorem d15_83 : decode prog_11_method_2_code 83 = .ok (.new 8, 3) := by decide +kernel
theorem d15_86 : decode prog_11_method_2_code 86 = .ok (.dup, 1) := by decide +kernel
theorem d15_87 : decode prog_11_method_2_code 87 = .ok (.aload_n 0, 1) := by decide +kernel
theorem d15_88 : decode prog_11_method_2_code 88 = .ok (.aload_n 2, 1) := by decide +kernel
theorem d15_89 : decode prog_11_method_2_code 89 = .ok (.invokespecial 41, 3) := by decide +kernel
theorem d17_0 : decode prog_11_method_1_code 0 = .ok (.aload_n 0, 1) := by decide +kernel
theorem d17_1 : decode prog_11_method_1_code 1 = .ok (.invokespecial 1, 3) := by decide +kernel
theorem d17_4 : decode prog_11_method_1_code 4 = .ok (.aload_n 0, 1) := by decide +kernel
theorem d17_5 : decode prog_11_method_1_code 5 = .ok (.aload_n 1, 1) := by decide +kernel
theorem d17_6 : decode prog_11_method_1_code 6 = .ok (.putfield 7, 3) := by decide +kernel
theorem d17_9 : decode prog_11_method_1_code 9 = .ok (.aload_n 0, 1) := by decide +kernel
theorem d17_10 : decode prog_11_method_1_code 10 = .ok (.aload_n 2, 1) := by decide +kernel
theorem d17_11 : decode prog_11_method_1_code 11 = .ok (.putfield 13, 3) := by decide +kernel
theorem d17_14 : decode prog_11_method_1_code 14 = .ok (.return_, 1) := by decide +kernel
theorem ef_14 (m : MethodId) (x0 : Addr) (x1 : Addr) (x2 : Addr) : entryFrame m #[(.ref x0), (.ref x1), (.ref x2)] 3 = mkF m 0 #[rv x0, rv x1, rv x2] [] := by first | (simp [entryFrame, mkF, argsToLocals, Value.category]; done) | rfl
theorem pn_7 : plainName "com/example/pencilmark/pencilmark/grid/Grid" = true := by first | (simp [plainName, overriddenIn]; done) | decide +kernel
def Q14 (Z : State) (a1166 : Addr) (w36 : Addr) (a1167 : Addr) (h0 : Heap) (n0 : Nat) (v : Option Value) (h : Heap) (L : List Loc) : Prop := v = none ∧ Fr n0 L ∧ Keep h0 h [a1166] ∧ Exa Z h a1166 zs2 ∧ Fld Z h a1166 zs2 "shape" zs7 (.ref w36) ∧ Fld Z h a1166 zs2 "digits" "[I" (.ref a1167)
set_option maxRecDepth 65536 in
set_option maxHeartbeats 40000000 in
theorem rm14 (l : Launch) (Z : State) (a0 : Array Value) (hw : ∀ d ∈ tables_1, d.before a0 Z = true) (ws : List Jvm.Cond) (a1166 : Addr) (w36 : Addr) (a1167 : Addr) (h0 : Heap) (n0 : Nat) (O0 : Old Z n0 h0) (pF_a1166_shape : Fld Z h0 a1166 zs2 "shape" zs7 .null) (pE_a1166 : Exa Z h0 a1166 zs2) (pG_a1166 : n0 ≤ a1166) (pF_a1166_digits : Fld Z h0 a1166 zs2 "digits" "[I" .null) :
    MetFree l (⟨zs2, "<init>", "(Lcom/example/pencilmark/pencilmark/grid/Shape;[I)V"⟩ : MethodName) (head1 (Jvm.Cond.code (⟨zs2, "<init>", "(Lcom/example/pencilmark/pencilmark/grid/Shape;[I)V"⟩ : MethodName) prog_11_method_1_code 3 none :: ws) ({ frames := 1, cells := 0, slots := 0, locals := 12 } : Room)) (fun a U => a = #[(.ref a1166), (.ref w36), (.ref a1167)] ∧ Z.Warmed39 U.vm ∧ U.heap = h0) (fun _ _ _ _ _ => True) (fun _ U o U' => ∃ v L, o = .returned v ∧ Q14 Z a1166 w36 a1167 h0 n0 v U'.heap L ∧ FrameEnd U o U' L ({ frames := 1, cells := 0, slots := 0, locals := 12 } : Room).cells ({ frames := 1, cells := 0, slots := 0, locals := 12 } : Room).slots) := by
  refine MetFree.of_bodySF (plainFor_of_name pn_7) hisR ?_
  intro p e s m args below meth c s₁ Bd hml0 hP hK
  obtain ⟨rfl, hZ, hh⟩ := hP
  have hx := Bd.exec
  have hby := Bd.bytes
  have hml : c.maxLocals = 3 := hml0
  have hown : s.vm.findClass zs2 = some m.cls := findClass_of_methodNamed Bd.named
  have hnm := (name_of_methodNamed Bd.named Bd.method).1
  have X0 : Stand p l e ({ frames := 1, cells := 0, slots := 0, locals := 12 } : Room) s m #[(.ref a1166), (.ref w36), (.ref a1167)] below meth c s₁ [] 0 0 := Stand.of_body Bd
  have e0 : s₁.heap = h0 := by rw [← hh, Bd.state]; rfl
  have N0 := Fr.nil n0
  refine own_out ?_
  refine own_via (fun t k => castTop (ef_14 m a1166 w36 a1167) (XS.aloadN X0.here hx rfl (hb hby d17_0) rfl rfl k)) ?_
  obtain ⟨T1232, X1232, e1232, st1232⟩ := initO X0 hx hZ hown (wd hw 101 rfl) (wd hw 20 rfl) (wd hw 21 rfl) e0 (g := (mkF m 1 #[rv a1166, rv w36, rv a1167] [(.ref a1166)])) rfl (by rw [hml]; rfl) rfl (hb hby d17_1) (by decide) (W := 0) (by show 2 * 0 + _ ≤ _; exact Nat.le_of_eq rfl) (by decide)
  refine own_via (fun t k => st1232 t (XS.aloadN X1232.here hx rfl (hb hby d17_4) rfl rfl (XS.aloadN X1232.here hx rfl (hb hby d17_5) rfl rfl k))) ?_
  show own_Goes p e below (T1232.setTop (mkF m 6 #[rv a1166, rv w36, rv a1167] [(.ref w36), (.ref a1166)])) _
  obtain ⟨T1233, h1233, X1233, e1233, W1233, st1233⟩ := putF X1232 hx hZ hown (host := "") (Or.inl (wd hw 102 rfl)) Via.refl e1232 pF_a1166_shape pE_a1166 (Or.inr ⟨(wd hw 103 rfl), rfl, hnm⟩) (wd hw 97 rfl) (ty := (.object zs4)) (by decide) rfl rfl (g := (mkF m 6 #[rv a1166, rv w36, rv a1167] [(.ref w36), (.ref a1166)])) rfl rfl (hb hby d17_6)
  refine own_via (fun t k => st1233 t k) ?_
  have Fw1233 : Fld Z h1233 a1166 zs2 "shape" zs7 (.ref w36) := pF_a1166_shape.same W1233
  have N1233 := Fr.snoc X1233 N0 pG_a1166
  show own_Goes p e below (T1233.setTop (mkF m 9 #[rv a1166, rv w36, rv a1167] [])) _
  refine own_via (fun t k => XS.aloadN X1233.here hx rfl (hb hby d17_9) rfl rfl (XS.aloadN X1233.here hx rfl (hb hby d17_10) rfl rfl k)) ?_
  have F1234 : Fld Z h1233 a1166 zs2 "digits" "[I" .null := (pF_a1166_digits.other W1233 (Or.inr (slot_ne (Or.inr (wd hw 105 rfl)) (Or.inr (wd hw 103 rfl)) (by decide) (t := (.array .int)) (t' := (.object zs4)) (by decide) (by decide))))
  have E1235 : Exa Z h1233 a1166 zs2 := (pE_a1166.wr W1233)
  obtain ⟨T1236, h1236, X1236, e1236, W1236, st1236⟩ := putF X1233 hx hZ hown (host := "") (Or.inl (wd hw 104 rfl)) Via.refl e1233 F1234 E1235 (Or.inr ⟨(wd hw 105 rfl), rfl, hnm⟩) (wd hw 97 rfl) (ty := (.array .int)) (by decide) rfl rfl (g := (mkF m 11 #[rv a1166, rv w36, rv a1167] [(.ref a1167), (.ref a1166)])) rfl rfl (hb hby d17_11)
  refine own_via (fun t k => st1236 t k) ?_
  have Fw1236 : Fld Z h1236 a1166 zs2 "digits" "[I" (.ref a1167) := F1234.same W1236
  have N1236 := Fr.snoc X1236 N1233 pG_a1166
  show own_Goes p e below (T1236.setTop (mkF m 14 #[rv a1166, rv w36, rv a1167] [])) _
  obtain ⟨fs, hr, hrun, hended, hW, hsame⟩ := X1236.leave (v := none) (fun _ => rfl)
  refine own_end (t := T1236.setFrames fs) ?_ ⟨_, hrun, hended, _, _, rfl, ?_, ⟨_, rfl⟩, hW, hsame.mono (by decide) (by decide)⟩
  · exact X1236.returnOut hx Bd.returns (hb hby d17_14) hr
  have E1237 : Exa Z h1236 a1166 zs2 := (E1235.wr W1236)
  have F1238 : Fld Z h1236 a1166 zs2 "shape" zs7 (.ref w36) := (Fw1233.other W1236 (Or.inr (slot_ne (Or.inr (wd hw 103 rfl)) (Or.inr (wd hw 105 rfl)) (by decide) (t := (.object zs4)) (t' := (.array .int)) (by decide) (by decide))))
  · show Q14 Z a1166 w36 a1167 h0 n0 _ T1236.heap _
    rw [e1236]
    exact ⟨rfl, N1236, (((Keep.refl h0 [a1166]).wr W1233 (Or.inl (List.mem_of_getElem? (i := 0) rfl))).wr W1236 (Or.inl (List.mem_of_getElem? (i := 0) rfl))), E1237, F1238, Fw1236⟩
theorem pd_12 : parseMethodDescriptor "(Lcom/example/pencilmark/pencilmark/grid/Shape;[I)V" = some ⟨[(.object "com/example/pencilmark/pencilmark/grid/Shape"), (.array .int)], none⟩ := by decide +kernel
theorem d15_92 : decode prog_11_method_2_code 92 = .ok (.areturn, 1) := by decide +kernel
theorem ef_15 (m : MethodId) (x0 : Addr) (x1 : Addr) : entryFrame m #[(.ref x0), (.ref x1)] 4 = mkF m 0 #[rv x0, rv x1, .unset, .unset] [] := by first | (simp [entryFrame, mkF, argsToLocals, Value.category]; done) | rfl
def Q15 (Z : State) (w36 : Addr) (a1016 : Addr) (k1027 : ClassId) (f1018 : Nat → Int32) (rd1 : Nat → Int32) (h0 : Heap) (n0 : Nat) (v : Option Value) (h : Heap) (L : List Loc) : Prop := (∃ (b1080 : Addr) (k1079 : ClassId) (b1158 : Addr), v = some (.ref b1158) ∧ Fr n0 L ∧ Keep h0 h [] ∧ h0.size ≤ b1080 ∧ Arv Z h b1080 k1079 .int (81 : Int32) (own_vs 81 (own_dg 81 f1018 rd1)) (.int (0 : Int32)) ∧ Exa Z h b1080 "[I" ∧ h0.size ≤ b1158 ∧ Exa Z h b1158 zs2 ∧ Fld Z h b1158 zs2 "shape" zs7 (.ref w36) ∧ Fld Z h b1158 zs2 "digits" "[I" (.ref b1080) ∧ b1080 ≠ b1158)
set_option maxRecDepth 65536 in
set_option maxHeartbeats 40000000 in
theorem rm15 (l : Launch) (Z : State) (a0 : Array Value) (hw : ∀ d ∈ tables_1, d.before a0 Z = true) (ws : List Jvm.Cond) (w36 : Addr) (a1016 : Addr) (k1027 : ClassId) (f1018 : Nat → Int32) (rd1 : Nat → Int32) (h0 : Heap) (n0 : Nat) (O0 : Old Z n0 h0) (pV_a1016 : Arv Z h0 a1016 k1027 .int (81 : Int32) (own_vs 81 (own_dg 81 f1018 rd1)) (.int (0 : Int32))) (pE_a1016 : Exa Z h0 a1016 "[I") (SF_w36_side : Fld Z Z.heap w36 zs4 "side" "I" (.int (9 : Int32))) (SE_w36 : Exa Z Z.heap w36 zs4) (pC1078 : own_digs (own_dg 81 f1018 rd1)) :
    MetFree l (⟨zs2, "of", "(Lcom/example/pencilmark/pencilmark/grid/Shape;[I)Lcom/example/pencilmark/pencilmark/grid/Grid;"⟩ : MethodName) (head1 (Jvm.Cond.code (⟨zs2, "of", "(Lcom/example/pencilmark/pencilmark/grid/Shape;[I)Lcom/example/pencilmark/pencilmark/grid/Grid;"⟩ : MethodName) prog_11_method_2_code 4 (some (.object zs2)) :: ws) ({ frames := 2, cells := 2, slots := 83, locals := 27 } : Room)) (fun a U => a = #[(.ref w36), (.ref a1016)] ∧ Z.Warmed39 U.vm ∧ U.heap = h0) (fun _ _ _ _ _ => True) (fun _ U o U' => ∃ v L, o = .returned v ∧ Q15 Z w36 a1016 k1027 f1018 rd1 h0 n0 v U'.heap L ∧ FrameEnd U o U' L ({ frames := 2, cells := 2, slots := 83, locals := 27 } : Room).cells ({ frames := 2, cells := 2, slots := 83, locals := 27 } : Room).slots) := by
  refine MetFree.of_bodySF (plainFor_of_name pn_7) hisR ?_
  intro p e s m args below meth c s₁ Bd hml0 hP hK
  obtain ⟨rfl, hZ, hh⟩ := hP
  have hx := Bd.exec
  have hby := Bd.bytes
  have hml : c.maxLocals = 4 := hml0
  have hown : s.vm.findClass zs2 = some m.cls := findClass_of_methodNamed Bd.named
  have hnm := (name_of_methodNamed Bd.named Bd.method).1
  have X0 : Stand p l e ({ frames := 2, cells := 2, slots := 83, locals := 27 } : Room) s m #[(.ref w36), (.ref a1016)] below meth c s₁ [] 0 0 := Stand.of_body Bd
  have e0 : s₁.heap = h0 := by rw [← hh, Bd.state]; rfl
  have N0 := Fr.nil n0
  refine own_out ?_
  refine own_via (fun t k => castTop (ef_15 m w36 a1016) (XS.aloadN X0.here hx rfl (hb hby d15_0) rfl rfl k)) ?_
  obtain ⟨T1079, h1079, X1079, e1079, E1079, A1079, a1079x, st1079⟩ := cloneH X0 hx hZ hown (wd hw 81 rfl) (wd hw 82 rfl) (wd hw 86 rfl) (wd hw 84 rfl) (wd hw 85 rfl) (wd hw 87 rfl) e0 (Arv.arh pV_a1016) pE_a1016 (g := (mkF m 1 #[rv w36, rv a1016, .unset, .unset] [(.ref a1016)])) rfl (by rw [hml]; rfl) rfl (hb hby d15_1) (by decide) (W := 0) (cap := 81) (by show 2 * 0 + _ ≤ _; exact Nat.le_of_eq rfl) (by decide) (by decide) (by decide) (by decide)
  obtain ⟨b1080, q1079⟩ : ∃ z, z = h0.size := ⟨_, rfl⟩
  rw [← q1079] at A1079 st1079 a1079x
  refine own_via (fun t k => st1079 t k) ?_
  have g1081 : n0 ≤ b1080 := Nat.le_trans (own_old O0) (Nat.le_of_eq q1079.symm)
  have B1082 : h0.size ≤ b1080 := Nat.le_trans (Nat.le_refl _) (Nat.le_of_eq q1079.symm)
  obtain ⟨k1079, V1083⟩ : ∃ k1079, Arv Z h1079 b1080 k1079 .int (81 : Int32) (own_vs 81 (own_dg 81 f1018 rd1)) (.int (0 : Int32)) := ⟨_, A1079⟩
  show own_Goes p e below (T1079.setTop (mkF m 4 #[rv w36, rv a1016, .unset, .unset] [(.ref b1080)])) _
  obtain ⟨T1084, X1084, e1084, st1084⟩ := castY X1079 hx hZ hown (wd hw 88 rfl) e1079 (Ins.self a1079x) (g := (mkF m 4 #[rv w36, rv a1016, .unset, .unset] [(.ref b1080)])) rfl rfl (hb hby d15_4)
  refine own_via (fun t k => st1084 t (XS.astoreN X1084.here hx rfl (hb hby d15_7) rfl rfl (l' := #[rv w36, rv a1016, rv b1080, .unset]) rfl (XS.aloadN X1084.here hx rfl (hb hby d15_8) rfl rfl k))) ?_
  show own_Goes p e below (T1084.setTop (mkF m 9 #[rv w36, rv a1016, rv b1080, .unset] [(.ref b1080)])) _
  obtain ⟨cl1085, Ar1085, -, S1085, M1085, -, -⟩ := id (V1083)
  refine own_via (fun t k => X1084.arraylength hx (by rw [e1084]; exact Ar1085.1) (State.isArrayOf_alike hZ.alike Ar1085.2.1) (g := (mkF m 9 #[rv w36, rv a1016, rv b1080, .unset] [(.ref b1080)])) rfl rfl (hb hby d15_9) t k) ?_
  rw [len_of S1085 M1085]
  show own_Goes p e below (T1084.setTop (mkF m 10 #[rv w36, rv a1016, rv b1080, .unset] [(.int (81 : Int32))])) _
  refine own_via (fun t k => XS.aloadN X1084.here hx rfl (hb hby d15_10) rfl rfl k) ?_
  have O1087 : Old Z n0 h1079 := (O0.ext E1079)
  obtain ⟨_, T1086, _, X1086, hQ1086, st1086⟩ := own_cv X1084 hx hZ hown (wd hw 90 rfl) (wd hw 45 rfl) (wd hw 47 rfl) (wd hw 46 rfl) (wd hw 49 rfl) (wd hw 48 rfl) (by decide) (rm7 l Z a0 hw [] w36 h1079 n0 O1087 SF_w36_side) e1084 (SE_w36.ext O1087.2) (g := (mkF m 11 #[rv w36, rv a1016, rv b1080, .unset] [(.ref w36), (.int (81 : Int32))])) rfl (by rw [hml]; rfl) (rest := [(.int (81 : Int32))]) (W := 1) (lenOf pd_7 rfl) rfl (by show 2 * 0 + _ ≤ _; exact Nat.le_of_eq rfl) (hb hby d15_11) (by decide) (by decide) (by decide) (by decide)
  obtain ⟨rfl, Nq1086, hh1088⟩ := hQ1086
  have N1086 := Fr.app N0 Nq1086
  refine own_via (fun t k => st1086 t (XS.icmpYes X1086.here hx rfl (pc0 := 14) (pc' := 36) rfl (hb hby d15_14) rfl (teq (by decide : (81 : Int32) = (81 : Int32))).1 (by decide) (by decide) (XS.iconst X1086.here hx rfl (hb hby d15_36) (XS.istoreN X1086.here hx rfl (hb hby d15_37) rfl (l' := #[rv w36, rv a1016, rv b1080, iv (0 : Int32)]) rfl k)))) ?_
  show own_Goes p e below (T1086.setTop (mkF m 38 #[rv w36, rv a1016, rv b1080, iv (0 : Int32)] [])) _
  obtain ⟨T1155, L1155, X1155, e1155, N1155, st1155⟩ := own_lpG (w := w36) (a := a1016) (b := b1080) (N := 81) (f := (own_dg 81 f1018 rd1)) hx hZ hown hw hby hml (by decide) pC1078 SE_w36 (fun h O => rm13 l Z a0 hw [] w36 h n0 O SF_w36_side) (by decide) (by decide) (by decide) (by decide) O1087 V1083 81 0 T1086 _ rfl X1086 hh1088 N1086
  refine own_via (fun t k => st1155 t (XS.iloadN X1155.here hx rfl (hb hby d15_38) rfl (XS.aloadN X1155.here hx rfl (hb hby d15_39) rfl rfl k))) ?_
  show own_Goes p e below (T1155.setTop (mkF m 40 #[rv w36, rv a1016, rv b1080, iv (81 : Int32)] [(.ref b1080), (.int (81 : Int32))])) _
  obtain ⟨cl1156, Ar1156, -, S1156, M1156, -, -⟩ := id (V1083)
  refine own_via (fun t k => X1155.arraylength hx (by rw [e1155]; exact Ar1156.1) (State.isArrayOf_alike hZ.alike Ar1156.2.1) (g := (mkF m 40 #[rv w36, rv a1016, rv b1080, iv (81 : Int32)] [(.ref b1080), (.int (81 : Int32))])) rfl rfl (hb hby d15_40) t k) ?_
  rw [len_of S1156 M1156]
  show own_Goes p e below (T1155.setTop (mkF m 41 #[rv w36, rv a1016, rv b1080, iv (81 : Int32)] [(.int (81 : Int32)), (.int (81 : Int32))])) _
  refine own_via (fun t k => XS.icmpYes X1155.here hx rfl (pc0 := 41) (pc' := 83) rfl (hb hby d15_41) rfl (flt (by decide : ¬ ((81 : Int32) < (81 : Int32)))).2.1 (by decide) (by decide) k) ?_
  obtain ⟨T1157, h1157, X1157, e1157, E1157, A1157, D1157, -, st1157⟩ := newO X1155 hx hZ hown (wd hw 96 rfl) (wd hw 97 rfl) (wd hw 79 rfl) e1155 (g := (mkF m 83 #[rv w36, rv a1016, rv b1080, iv (81 : Int32)] [])) rfl (hb hby d15_83) (by decide) (by decide)
  obtain ⟨b1158, q1157⟩ : ∃ z, z = h1079.size := ⟨_, rfl⟩
  rw [← q1157] at A1157 D1157 st1157
  refine own_via (fun t k => st1157 t k) ?_
  have N1159 : b1080 ≠ b1158 := Nat.ne_of_lt (Nat.lt_of_lt_of_le a1079x.lt (Nat.le_of_eq q1157.symm))
  have g1160 : n0 ≤ b1158 := Nat.le_trans (own_old O1087) (Nat.le_of_eq q1157.symm)
  have Z1162 : h0.size ≤ h1079.size := (Nat.le_trans (Nat.le_refl _) E1079.1)
  have B1161 : h0.size ≤ b1158 := Nat.le_trans Z1162 (Nat.le_of_eq q1157.symm)
  have F1163 : Fld Z h1157 b1158 zs2 "shape" zs7 .null := D1157 (Or.inr (wd hw 103 rfl)) (ty := (.object zs4)) (by decide)
  have F1164 : Fld Z h1157 b1158 zs2 "digits" "[I" .null := D1157 (Or.inr (wd hw 105 rfl)) (ty := (.array .int)) (by decide)
  show own_Goes p e below (T1157.setTop (mkF m 86 #[rv w36, rv a1016, rv b1080, iv (81 : Int32)] [(.ref b1158)])) _
  refine own_via (fun t k => XS.dup X1157.here hx rfl (hb hby d15_86) rfl rfl (XS.aloadN X1157.here hx rfl (hb hby d15_87) rfl rfl (XS.aloadN X1157.here hx rfl (hb hby d15_88) rfl rfl k))) ?_
  show own_Goes p e below (T1157.setTop (mkF m 89 #[rv w36, rv a1016, rv b1080, iv (81 : Int32)] [(.ref b1080), (.ref w36), (.ref b1158), (.ref b1158)])) _
  have O1239 : Old Z n0 h1157 := (O1087.ext E1157)
  obtain ⟨_, T1165, _, X1165, hQ1165, st1165⟩ := own_ci X1157 hx hZ hown (wd hw 98 rfl) (wd hw 99 rfl) (wd hw 100 rfl) (wd hw 79 rfl) rfl (by decide) (rm14 l Z a0 hw [] b1158 w36 b1080 h1157 n0 O1239 F1163 A1157 g1160 F1164) e1157 (g := (mkF m 89 #[rv w36, rv a1016, rv b1080, iv (81 : Int32)] [(.ref b1080), (.ref w36), (.ref b1158), (.ref b1158)])) rfl (by rw [hml]; rfl) (rest := [(.ref b1158)]) (W := 1) (lenOf pd_12 rfl) rfl (by show 2 * 0 + _ ≤ _; exact Nat.le_of_eq rfl) (hb hby d15_89) (by decide) (by decide) (by decide) (by decide)
  obtain ⟨h1165, e1165⟩ : ∃ z, T1165.heap = z := ⟨_, rfl⟩
  rw [e1165] at hQ1165
  obtain ⟨rfl, Nq1165, K1165, ex1240, fx1241, fx1242⟩ := hQ1165
  have N1165 := Fr.app N1155 Nq1165
  refine own_via (fun t k => st1165 t k) ?_
  obtain ⟨fs, hr, hrun, hended, hW, hsame⟩ := X1165.leave (v := some (.ref b1158)) (fun h => by rw [Bd.returns] at h; cases h)
  refine own_end (t := T1165.setFrames fs) ?_ ⟨_, hrun, hended, _, _, rfl, ?_, ⟨_, rfl⟩, hW, hsame.mono (by decide) (by decide)⟩
  · jvm_step X1165.here [X1165.here.top, hx, (hb hby d15_92), X1165.method', Bd.returns, Value.isRef, FieldType.isReference]
    first | (intro acts; rw [hr _ acts rfl rfl rfl]) | rw [hr _ _ rfl rfl rfl]
    exact Steps.refl _
  have V1243 : Arv Z h1165 b1080 k1079 .int (81 : Int32) (own_vs 81 (own_dg 81 f1018 rd1)) (.int (0 : Int32)) := ((V1083.ext E1157).keep K1165 (ninS N1159 nin0))
  have E1244 : Exa Z h1165 b1080 "[I" := ((a1079x.ext E1157).keep K1165)
  · show Q15 Z w36 a1016 k1027 f1018 rd1 h0 n0 _ T1165.heap _
    rw [e1165]
    exact ⟨b1080, k1079, b1158, rfl, N1165, ((((Keep.refl h0 []).ext E1079).ext E1157).trans K1165 (allS (Or.inr B1161) all0)), B1082, V1243, E1244, B1161, ex1240, fx1241, fx1242, N1159⟩
theorem pd_13 : parseMethodDescriptor "(Lcom/example/pencilmark/pencilmark/grid/Shape;[I)Lcom/example/pencilmark/pencilmark/grid/Grid;" = some ⟨[(.object "com/example/pencilmark/pencilmark/grid/Shape"), (.array .int)], some (.object "com/example/pencilmark/pencilmark/grid/Grid")⟩ := by decide +kernel
theorem d8_131 : decode prog_15_method_4_code 131 = .ok (.areturn, 1) := by decide +kernel
theorem ef_16 (m : MethodId) (x0 : Addr) (x1 : Int64) : entryFrame m #[(.ref x0), (.long x1)] 7 = mkF m 0 #[rv x0, .val (.long x1), .second, .unset, .unset, .unset, .unset] [] := by first | (simp [entryFrame, mkF, argsToLocals, Value.category]; done) | rfl
theorem pn_8 : plainName "com/example/pencilmark/pencilmark/line/PuzzleLine" = true := by first | (simp [plainName, overriddenIn]; done) | decide +kernel
def Q16 (Z : State) (a529 : Addr) (w36 : Addr) (f531 : Nat → Int32) (rd1 : Nat → Int32) (w39 : Addr) (kc_w39 : ClassId) (a536 : Addr) (k537 : ClassId) (i43 : Int32) (fm1 : Option Addr) (h0 : Heap) (n0 : Nat) (v : Option Value) (h : Heap) (L : List Loc) : Prop := (∃ (b1246 : Addr) (k1247 : ClassId) (b1248 : Addr), v = some (.ref b1248) ∧ Fr n0 L ∧ Keep h0 h [] ∧ h0.size ≤ b1246 ∧ Arv Z h b1246 k1247 .int (81 : Int32) (own_vs 81 (own_dg 81 f531 rd1)) (.int (0 : Int32)) ∧ Exa Z h b1246 "[I" ∧ h0.size ≤ b1248 ∧ Exa Z h b1248 zs2 ∧ Fld Z h b1248 zs2 "shape" zs7 (.ref w36) ∧ Fld Z h b1248 zs2 "digits" "[I" (.ref b1246) ∧ b1246 ≠ b1248)
set_option maxRecDepth 65536 in
set_option maxHeartbeats 40000000 in
theorem rm16 (l : Launch) (Z : State) (a0 : Array Value) (hw : ∀ d ∈ tables_1, d.before a0 Z = true) (ws : List Jvm.Cond) (a529 : Addr) (w36 : Addr) (f531 : Nat → Int32) (rd1 : Nat → Int32) (w39 : Addr) (kc_w39 : ClassId) (a536 : Addr) (k537 : ClassId) (i43 : Int32) (fm1 : Option Addr) (h0 : Heap) (n0 : Nat) (O0 : Old Z n0 h0) (S_PuzzleLine_SHAPE : Sta Z Z.heap zs5 "SHAPE" zs7 (.ref w36)) (SF_w36_side : Fld Z Z.heap w36 zs4 "side" "I" (.int (9 : Int32))) (SE_w36 : Exa Z Z.heap w36 zs4) (pC585 : own_okF f531) (pC539 : own_rdOK rd1) (S_PuzzleLine_READS_AS : Sta Z Z.heap zs5 "READS_AS" "[B" (.ref w39)) (SV_w39 : Arv Z Z.heap w39 kc_w39 .byte (128 : Int32) (own_vs 128 rd1) (.int (0 : Int32))) (pE_a529 : Exa Z h0 a529 zs1) (pF_a529_coder : Fld Z h0 a529 zs1 "coder" "B" (.int (0 : Int32))) (pF_a529_value : Fld Z h0 a529 zs1 "value" "[B" (.ref a536)) (pL_a536 : own_Len Z h0 a536 .byte (81 : Int32)) (pV_a536 : Arv Z h0 a536 k537 .byte (81 : Int32) (own_vs 81 (own_bt 81 f531)) (.int (0 : Int32))) (pE_a536 : Exa Z h0 a536 "[B") (S_String_COMPACT_STRINGS : Sta Z Z.heap zs1 zs11 "Z" (.int i43)) (pC538 : ¬ (i43 = (0 : Int32))) (S_Preconditions_SIOOBE_FORMATTER : Sta Z Z.heap zs8 zs13 zs10 (own_rf fm1)) :
    MetFree l (⟨zs5, "parse", zs9⟩ : MethodName) (head1 (Jvm.Cond.code (⟨zs5, "parse", zs9⟩ : MethodName) prog_15_method_4_code 7 (some (.object zs2)) :: ws) ({ frames := 4, cells := 3, slots := 164, locals := 53 } : Room)) (fun a U => a = #[(.ref a529), (.long (81 : Int64))] ∧ Z.Warmed39 U.vm ∧ U.heap = h0) (fun _ _ _ _ _ => True) (fun _ U o U' => ∃ v L, o = .returned v ∧ Q16 Z a529 w36 f531 rd1 w39 kc_w39 a536 k537 i43 fm1 h0 n0 v U'.heap L ∧ FrameEnd U o U' L ({ frames := 4, cells := 3, slots := 164, locals := 53 } : Room).cells ({ frames := 4, cells := 3, slots := 164, locals := 53 } : Room).slots) := by
  refine MetFree.of_bodySF (plainFor_of_name pn_8) hisR ?_
  intro p e s m args below meth c s₁ Bd hml0 hP hK
  obtain ⟨rfl, hZ, hh⟩ := hP
  have hx := Bd.exec
  have hby := Bd.bytes
  have hml : c.maxLocals = 7 := hml0
  have hown : s.vm.findClass zs5 = some m.cls := findClass_of_methodNamed Bd.named
  have hnm := (name_of_methodNamed Bd.named Bd.method).1
  have X0 : Stand p l e ({ frames := 4, cells := 3, slots := 164, locals := 53 } : Room) s m #[(.ref a529), (.long (81 : Int64))] below meth c s₁ [] 0 0 := Stand.of_body Bd
  have e0 : s₁.heap = h0 := by rw [← hh, Bd.state]; rfl
  have N0 := Fr.nil n0
  refine own_out ?_
  refine own_via (fun t k => castTop (ef_16 m a529 (81 : Int64)) (XS.lloadN X0.here hx rfl (hb hby d8_0) rfl k)) ?_
  obtain ⟨T588, X588, e588, st588⟩ := getS2 X0 hx hZ hown (host := "") (Or.inl (wd hw 42 rfl)) Via.refl e0 (S_PuzzleLine_SHAPE.ext O0.2) (g := (mkF m 1 #[rv a529, .val (.long (81 : Int64)), .second, .unset, .unset, .unset, .unset] [(.long (81 : Int64))])) rfl (hb hby d8_1)
  refine own_via (fun t k => st588 t k) ?_
  obtain ⟨_, T589, _, X589, hQ589, st589⟩ := own_cv X588 hx hZ hown (wd hw 44 rfl) (wd hw 45 rfl) (wd hw 47 rfl) (wd hw 46 rfl) (wd hw 49 rfl) (wd hw 48 rfl) (by decide) (rm7 l Z a0 hw [] w36 h0 n0 O0 SF_w36_side) e588 (SE_w36.ext O0.2) (g := (mkF m 4 #[rv a529, .val (.long (81 : Int64)), .second, .unset, .unset, .unset, .unset] [(.ref w36), (.long (81 : Int64))])) rfl (by rw [hml]; rfl) (rest := [(.long (81 : Int64))]) (W := 2) (lenOf pd_7 rfl) rfl (by show 2 * 0 + _ ≤ _; exact Nat.le_of_eq rfl) (hb hby d8_4) (by decide) (by decide) (by decide) (by decide)
  obtain ⟨rfl, Nq589, hh652⟩ := hQ589
  have N589 := Fr.app N0 Nq589
  refine own_via (fun t k => st589 t (XS.i2l X589.here hx rfl (hb hby d8_7) rfl (XS.lcmp X589.here hx rfl (hb hby d8_8) rfl (XS.ifYes X589.here hx rfl (pc0 := 9) (pc' := 32) rfl (hb hby d8_9) rfl ((if0 _ _).trans (teq (by decide : (0 : Int32) = (0 : Int32))).1) (by decide) (by decide) k)))) ?_
  show own_Goes p e below (T589.setTop (mkF m 32 #[rv a529, .val (.long (81 : Int64)), .second, .unset, .unset, .unset, .unset] [])) _
  obtain ⟨T653, X653, e653, st653⟩ := getS2 X589 hx hZ hown (host := "") (Or.inl (wd hw 42 rfl)) Via.refl hh652 (S_PuzzleLine_SHAPE.ext O0.2) (g := (mkF m 32 #[rv a529, .val (.long (81 : Int64)), .second, .unset, .unset, .unset, .unset] [])) rfl (hb hby d8_32)
  refine own_via (fun t k => st653 t k) ?_
  obtain ⟨_, T654, _, X654, hQ654, st654⟩ := own_cv X653 hx hZ hown (wd hw 44 rfl) (wd hw 45 rfl) (wd hw 47 rfl) (wd hw 46 rfl) (wd hw 49 rfl) (wd hw 48 rfl) (by decide) (rm7 l Z a0 hw [] w36 h0 n0 O0 SF_w36_side) e653 (SE_w36.ext O0.2) (g := (mkF m 35 #[rv a529, .val (.long (81 : Int64)), .second, .unset, .unset, .unset, .unset] [(.ref w36)])) rfl (by rw [hml]; rfl) (rest := []) (W := 0) (lenOf pd_7 rfl) rfl (by show 2 * 0 + _ ≤ _; exact Nat.le_of_eq rfl) (hb hby d8_35) (by decide) (by decide) (by decide) (by decide)
  obtain ⟨rfl, Nq654, hh655⟩ := hQ654
  have N654 := Fr.app N589 Nq654
  refine own_via (fun t k => st654 t k) ?_
  obtain ⟨T656, h656, k656, X656, e656, E656, A656, a656x, st656⟩ := newPE X654 hx hZ (wd hw 52 rfl) hh655 (g := (mkF m 38 #[rv a529, .val (.long (81 : Int64)), .second, .unset, .unset, .unset, .unset] [(.int (81 : Int32))])) rfl (hb hby d8_38) rfl (by decide) (cap := 81) (by decide) (by decide) (by decide) (by decide) (ad := "[I") (by decide)
  obtain ⟨b657, q656⟩ : ∃ z, z = h0.size := ⟨_, rfl⟩
  rw [← q656] at A656 st656 a656x
  refine own_via (fun t k => st656 t k) ?_
  have g658 : n0 ≤ b657 := Nat.le_trans (own_old O0) (Nat.le_of_eq q656.symm)
  have B659 : h0.size ≤ b657 := Nat.le_trans (Nat.le_refl _) (Nat.le_of_eq q656.symm)
  have V660 : Arv Z h656 b657 k656 .int (81 : Int32) [] (.int (0 : Int32)) := Arv.new A656 (by decide)
  show own_Goes p e below (T656.setTop (mkF m 40 #[rv a529, .val (.long (81 : Int64)), .second, .unset, .unset, .unset, .unset] [(.ref b657)])) _
  refine own_via (fun t k => XS.astoreN X656.here hx rfl (hb hby d8_40) rfl rfl (l' := #[rv a529, .val (.long (81 : Int64)), .second, rv b657, .unset, .unset, .unset]) rfl (XS.iconst X656.here hx rfl (hb hby d8_41) (XS.istore X656.here hx rfl (hb hby d8_42) rfl (l' := #[rv a529, .val (.long (81 : Int64)), .second, rv b657, iv (0 : Int32), .unset, .unset]) rfl k))) ?_
  show own_Goes p e below (T656.setTop (mkF m 44 #[rv a529, .val (.long (81 : Int64)), .second, rv b657, iv (0 : Int32), .unset, .unset] [])) _
  have V661 : Arv Z h656 b657 k656 .int (81 : Int32) (own_vs 81 (own_dg 0 f531 rd1)) (.int (0 : Int32)) := own_z_new V660 (own_dg_zero _ _)
  have O662 : Old Z n0 h656 := (O0.ext E656)
  have E1006 : Exa Z h656 a529 zs1 := (pE_a529.ext E656)
  have F1007 : Fld Z h656 a529 zs1 "coder" "B" (.int (0 : Int32)) := (pF_a529_coder.ext E656)
  have F1008 : Fld Z h656 a529 zs1 "value" "[B" (.ref a536) := (pF_a529_value.ext E656)
  have L1009 : own_Len Z h656 a536 .byte (81 : Int32) := (own_len_ext pL_a536 E656)
  have V1010 : Arv Z h656 a536 k537 .byte (81 : Int32) (own_vs 81 (own_bt 81 f531)) (.int (0 : Int32)) := (pV_a536.ext E656)
  obtain ⟨T1011, h1011, L1011, s51011, s61011, X1011, e1011, N1011, K1011, V1011, st1011⟩ := own_lpP (sa := a529) (b := b657) (w := w39) (f := f531) (rd := rd1) (fr := 3) (lo := 40) (P := fun h => Exa Z h a529 zs1 ∧ Fld Z h a529 zs1 "coder" "B" (.int (0 : Int32)) ∧ Fld Z h a529 zs1 "value" "[B" (.ref a536) ∧ own_Len Z h a536 .byte (81 : Int32) ∧ Arv Z h a536 k537 .byte (81 : Int32) (own_vs 81 (own_bt 81 f531)) (.int (0 : Int32))) hx hZ hown hw hby hml g658 (own_lowP pC585 pC539) S_PuzzleLine_READS_AS SV_w39 (fun h q => q.1) (fun h h' q K => ⟨(q.1.keep K), (q.2.1.keep K (ninS (Nat.ne_of_lt (Nat.lt_of_lt_of_le pE_a529.lt B659)) nin0)), (q.2.2.1.keep K (ninS (Nat.ne_of_lt (Nat.lt_of_lt_of_le pE_a529.lt B659)) nin0)), (own_len_keep q.2.2.2.1 K (ninS (Nat.ne_of_lt (Nat.lt_of_lt_of_le pE_a536.lt B659)) nin0)), (q.2.2.2.2.keep K (ninS (Nat.ne_of_lt (Nat.lt_of_lt_of_le pE_a536.lt B659)) nin0))⟩) (fun h k hk O q => own_recast (congrArg f531 (own_nat hk)) (rm12 l Z a0 hw [] a529 (Int32.ofNat k) i43 a536 fm1 k537 f531 h n0 O S_String_COMPACT_STRINGS pC538 q.2.1 q.1 q.2.2.1 q.2.2.2.1 S_Preconditions_SIOOBE_FORMATTER (own_ix hk).1 (own_ix hk).2.1 q.2.2.2.2 pC585)) (by decide) (by decide) (by decide) (by decide) 81 0 T656 h656 _ none none rfl X656 e656 N654 O662 ⟨E1006, F1007, F1008, L1009, V1010⟩ V661
  refine own_via (fun t k => st1011 t (XS.iload X1011.here hx rfl (hb hby d8_44) rfl (XS.aloadN X1011.here hx rfl (hb hby d8_46) rfl rfl k))) ?_
  show own_Goes p e below (T1011.setTop (mkF m 47 #[rv a529, .val (.long (81 : Int64)), .second, rv b657, iv (81 : Int32), own_sl s51011, own_sl s61011] [(.ref b657), (.int (81 : Int32))])) _
  obtain ⟨cl1012, Ar1012, -, S1012, M1012, -, -⟩ := id (V1011)
  refine own_via (fun t k => X1011.arraylength hx (by rw [e1011]; exact Ar1012.1) (State.isArrayOf_alike hZ.alike Ar1012.2.1) (g := (mkF m 47 #[rv a529, .val (.long (81 : Int64)), .second, rv b657, iv (81 : Int32), own_sl s51011, own_sl s61011] [(.ref b657), (.int (81 : Int32))])) rfl rfl (hb hby d8_47) t k) ?_
  rw [len_of S1012 M1012]
  show own_Goes p e below (T1011.setTop (mkF m 48 #[rv a529, .val (.long (81 : Int64)), .second, rv b657, iv (81 : Int32), own_sl s51011, own_sl s61011] [(.int (81 : Int32)), (.int (81 : Int32))])) _
  refine own_via (fun t k => XS.icmpYes X1011.here hx rfl (pc0 := 48) (pc' := 124) rfl (hb hby d8_48) rfl (flt (by decide : ¬ ((81 : Int32) < (81 : Int32)))).2.1 (by decide) (by decide) k) ?_
  have O1014 : Old Z n0 h1011 := (O662.keep K1011 (allS g658 all0))
  obtain ⟨T1013, X1013, e1013, st1013⟩ := getS2 X1011 hx hZ hown (host := "") (Or.inl (wd hw 42 rfl)) Via.refl e1011 (S_PuzzleLine_SHAPE.ext O1014.2) (g := (mkF m 124 #[rv a529, .val (.long (81 : Int64)), .second, rv b657, iv (81 : Int32), own_sl s51011, own_sl s61011] [])) rfl (hb hby d8_124)
  refine own_via (fun t k => st1013 t (XS.aloadN X1013.here hx rfl (hb hby d8_127) rfl rfl k)) ?_
  have E1245 : Exa Z h1011 b657 "[I" := (a656x.keep K1011)
  obtain ⟨_, T1015, _, X1015, hQ1015, st1015⟩ := own_cs X1013 hx hZ hown (wd hw 77 rfl) (wd hw 78 rfl) (wd hw 80 rfl) (wd hw 79 rfl) (by decide) (rm15 l Z a0 hw [] w36 b657 k656 f531 rd1 h1011 n0 O1014 V1011 E1245 SF_w36_side SE_w36 (own_digs_mk pC585 pC539)) e1013 (g := (mkF m 128 #[rv a529, .val (.long (81 : Int64)), .second, rv b657, iv (81 : Int32), own_sl s51011, own_sl s61011] [(.ref b657), (.ref w36)])) rfl (by rw [hml]; rfl) (rest := []) (W := 0) (lenOf pd_13 rfl) rfl (by show 2 * 0 + _ ≤ _; exact Nat.le_of_eq rfl) (hb hby d8_128) (by decide) (by decide) (by decide) (by decide)
  obtain ⟨h1015, e1015⟩ : ∃ z, T1015.heap = z := ⟨_, rfl⟩
  rw [e1015] at hQ1015
  obtain ⟨b1246, k1247, b1248, rfl, Nq1015, K1015, bx1249, vx1250, ex1251, bx1252, ex1253, fx1254, fx1255, nx1256⟩ := hQ1015
  have N1015 := Fr.app N1011 Nq1015
  have N1257 : b657 ≠ b1246 := Nat.ne_of_lt (Nat.lt_of_lt_of_le E1245.lt bx1249)
  have g1258 : n0 ≤ b1246 := Nat.le_trans (own_old O1014) bx1249
  have Z1260 : h0.size ≤ h1011.size := (Nat.le_trans (Nat.le_trans (Nat.le_refl _) E656.1) K1011.1)
  have B1259 : h0.size ≤ b1246 := Nat.le_trans Z1260 bx1249
  have N1261 : b657 ≠ b1248 := Nat.ne_of_lt (Nat.lt_of_lt_of_le E1245.lt bx1252)
  have g1262 : n0 ≤ b1248 := Nat.le_trans (own_old O1014) bx1252
  have B1263 : h0.size ≤ b1248 := Nat.le_trans Z1260 bx1252
  refine own_via (fun t k => st1015 t k) ?_
  obtain ⟨fs, hr, hrun, hended, hW, hsame⟩ := X1015.leave (v := some (.ref b1248)) (fun h => by rw [Bd.returns] at h; cases h)
  refine own_end (t := T1015.setFrames fs) ?_ ⟨_, hrun, hended, _, _, rfl, ?_, ⟨_, rfl⟩, hW, hsame.mono (by decide) (by decide)⟩
  · jvm_step X1015.here [X1015.here.top, hx, (hb hby d8_131), X1015.method', Bd.returns, Value.isRef, FieldType.isReference]
    first | (intro acts; rw [hr _ acts rfl rfl rfl]) | rw [hr _ _ rfl rfl rfl]
    exact Steps.refl _
  · show Q16 Z a529 w36 f531 rd1 w39 kc_w39 a536 k537 i43 fm1 h0 n0 _ T1015.heap _
    rw [e1015]
    exact ⟨b1246, k1247, b1248, rfl, N1015, ((((Keep.refl h0 []).ext E656).trans K1011 (allS (Or.inr B659) all0)).trans K1015 all0), B1259, vx1250, ex1251, B1263, ex1253, fx1254, fx1255, nx1256⟩
theorem pd_14 : parseMethodDescriptor "(Ljava/lang/String;J)Lcom/example/pencilmark/pencilmark/grid/Grid;" = some ⟨[(.object "java/lang/String"), .long], some (.object "com/example/pencilmark/pencilmark/grid/Grid")⟩ := by decide +kernel
theorem d18_0 : decode prog_11_method_3_code 0 = .ok (.aload_n 0, 1) := by decide +kernel
theorem d18_1 : decode prog_11_method_3_code 1 = .ok (.getfield 7, 3) := by decide +kernel
theorem d18_4 : decode prog_11_method_3_code 4 = .ok (.areturn, 1) := by decide +kernel
theorem ef_17 (m : MethodId) (x0 : Addr) : entryFrame m #[(.ref x0)] 1 = mkF m 0 #[rv x0] [] := by first | (simp [entryFrame, mkF, argsToLocals, Value.category]; done) | rfl
def Q17 (Z : State) (a1293 : Addr) (w36 : Addr) (h0 : Heap) (n0 : Nat) (v : Option Value) (h : Heap) (L : List Loc) : Prop := v = some (.ref w36) ∧ Fr n0 L ∧ h = h0
set_option maxRecDepth 65536 in
set_option maxHeartbeats 40000000 in
theorem rm17 (l : Launch) (Z : State) (a0 : Array Value) (hw : ∀ d ∈ tables_1, d.before a0 Z = true) (ws : List Jvm.Cond) (a1293 : Addr) (w36 : Addr) (h0 : Heap) (n0 : Nat) (O0 : Old Z n0 h0) (pF_a1293_shape : Fld Z h0 a1293 zs2 "shape" zs7 (.ref w36)) :
    MetFree l (⟨zs2, "shape", "()Lcom/example/pencilmark/pencilmark/grid/Shape;"⟩ : MethodName) (head1 (Jvm.Cond.code (⟨zs2, "shape", "()Lcom/example/pencilmark/pencilmark/grid/Shape;"⟩ : MethodName) prog_11_method_3_code 1 (some (.object zs4)) :: ws) ({ frames := 0, cells := 0, slots := 0, locals := 0 } : Room)) (fun a U => a = #[(.ref a1293)] ∧ Z.Warmed39 U.vm ∧ U.heap = h0) (fun _ _ _ _ _ => True) (fun _ U o U' => ∃ v L, o = .returned v ∧ Q17 Z a1293 w36 h0 n0 v U'.heap L ∧ FrameEnd U o U' L ({ frames := 0, cells := 0, slots := 0, locals := 0 } : Room).cells ({ frames := 0, cells := 0, slots := 0, locals := 0 } : Room).slots) := by
  refine MetFree.of_bodySF (plainFor_of_name pn_7) hisR ?_
  intro p e s m args below meth c s₁ Bd hml0 hP hK
  obtain ⟨rfl, hZ, hh⟩ := hP
  have hx := Bd.exec
  have hby := Bd.bytes
  have hml : c.maxLocals = 1 := hml0
  have hown : s.vm.findClass zs2 = some m.cls := findClass_of_methodNamed Bd.named
  have hnm := (name_of_methodNamed Bd.named Bd.method).1
  have X0 : Stand p l e ({ frames := 0, cells := 0, slots := 0, locals := 0 } : Room) s m #[(.ref a1293)] below meth c s₁ [] 0 0 := Stand.of_body Bd
  have e0 : s₁.heap = h0 := by rw [← hh, Bd.state]; rfl
  have N0 := Fr.nil n0
  refine own_out ?_
  refine own_via (fun t k => castTop (ef_17 m a1293) (XS.aloadN X0.here hx rfl (hb hby d18_0) rfl rfl k)) ?_
  obtain ⟨T1356, X1356, e1356, st1356⟩ := getF X0 hx hZ hown (host := "") (Or.inl (wd hw 102 rfl)) Via.refl e0 pF_a1293_shape (g := (mkF m 1 #[rv a1293] [(.ref a1293)])) rfl rfl (hb hby d18_1)
  refine own_via (fun t k => st1356 t k) ?_
  obtain ⟨fs, hr, hrun, hended, hW, hsame⟩ := X1356.leave (v := some (.ref w36)) (fun h => by rw [Bd.returns] at h; cases h)
  refine own_end (t := T1356.setFrames fs) ?_ ⟨_, hrun, hended, _, _, rfl, ?_, ⟨_, rfl⟩, hW, hsame.mono (by decide) (by decide)⟩
  · jvm_step X1356.here [X1356.here.top, hx, (hb hby d18_4), X1356.method', Bd.returns, Value.isRef, FieldType.isReference]
    first | (intro acts; rw [hr _ acts rfl rfl rfl]) | rw [hr _ _ rfl rfl rfl]
    exact Steps.refl _
  · show Q17 Z a1293 w36 h0 n0 _ T1356.heap _
    rw [e1356]
    exact ⟨rfl, N0, rfl⟩
theorem pd_15 : parseMethodDescriptor "()Lcom/example/pencilmark/pencilmark/grid/Shape;" = some ⟨[], some (.object "com/example/pencilmark/pencilmark/grid/Shape")⟩ := by decide +kernel
theorem d19_0 : decode prog_11_method_4_code 0 = .ok (.aload_n 0, 1) := by decide +kernel
theorem d19_1 : decode prog_11_method_4_code 1 = .ok (.getfield 13, 3) := by decide +kernel
theorem d19_4 : decode prog_11_method_4_code 4 = .ok (.iload_n 1, 1) := by decide +kernel
theorem d19_5 : decode prog_11_method_4_code 5 = .ok (.iaload, 1) := by decide +kernel
theorem d19_6 : decode prog_11_method_4_code 6 = .ok (.ireturn, 1) := by decide +kernel
theorem ef_18 (m : MethodId) (x0 : Addr) (x1 : Int32) : entryFrame m #[(.ref x0), (.int x1)] 2 = mkF m 0 #[rv x0, iv x1] [] := by first | (simp [entryFrame, mkF, argsToLocals, Value.category]; done) | rfl
def Q18 (Z : State) (a1361 : Addr) (p1362 : Int32) (a1373 : Addr) (k1374 : ClassId) (f1364 : Nat → Int32) (rd1 : Nat → Int32) (h0 : Heap) (n0 : Nat) (v : Option Value) (h : Heap) (L : List Loc) : Prop := v = some (.int ((own_dg 81 f1364 rd1) (p1362).toNatClampNeg)) ∧ Fr n0 L ∧ h = h0
set_option maxRecDepth 65536 in
set_option maxHeartbeats 40000000 in
theorem rm18 (l : Launch) (Z : State) (a0 : Array Value) (hw : ∀ d ∈ tables_1, d.before a0 Z = true) (ws : List Jvm.Cond) (a1361 : Addr) (p1362 : Int32) (a1373 : Addr) (k1374 : ClassId) (f1364 : Nat → Int32) (rd1 : Nat → Int32) (h0 : Heap) (n0 : Nat) (O0 : Old Z n0 h0) (pF_a1361_digits : Fld Z h0 a1361 zs2 "digits" "[I" (.ref a1373)) (pV_a1373 : Arv Z h0 a1373 k1374 .int (81 : Int32) (own_vs 81 (own_dg 81 f1364 rd1)) (.int (0 : Int32))) (pC1379 : ¬ (p1362 < (0 : Int32))) (pC1380 : p1362 < (81 : Int32)) :
    MetFree l (⟨zs2, "digit", "(I)I"⟩ : MethodName) (head1 (Jvm.Cond.code (⟨zs2, "digit", "(I)I"⟩ : MethodName) prog_11_method_4_code 2 (some .int) :: ws) ({ frames := 0, cells := 0, slots := 0, locals := 0 } : Room)) (fun a U => a = #[(.ref a1361), (.int p1362)] ∧ Z.Warmed39 U.vm ∧ U.heap = h0) (fun _ _ _ _ _ => True) (fun _ U o U' => ∃ v L, o = .returned v ∧ Q18 Z a1361 p1362 a1373 k1374 f1364 rd1 h0 n0 v U'.heap L ∧ FrameEnd U o U' L ({ frames := 0, cells := 0, slots := 0, locals := 0 } : Room).cells ({ frames := 0, cells := 0, slots := 0, locals := 0 } : Room).slots) := by
  refine MetFree.of_bodySF (plainFor_of_name pn_7) hisR ?_
  intro p e s m args below meth c s₁ Bd hml0 hP hK
  obtain ⟨rfl, hZ, hh⟩ := hP
  have hx := Bd.exec
  have hby := Bd.bytes
  have hml : c.maxLocals = 2 := hml0
  have hown : s.vm.findClass zs2 = some m.cls := findClass_of_methodNamed Bd.named
  have hnm := (name_of_methodNamed Bd.named Bd.method).1
  have X0 : Stand p l e ({ frames := 0, cells := 0, slots := 0, locals := 0 } : Room) s m #[(.ref a1361), (.int p1362)] below meth c s₁ [] 0 0 := Stand.of_body Bd
  have e0 : s₁.heap = h0 := by rw [← hh, Bd.state]; rfl
  have N0 := Fr.nil n0
  refine own_out ?_
  refine own_via (fun t k => castTop (ef_18 m a1361 p1362) (XS.aloadN X0.here hx rfl (hb hby d19_0) rfl rfl k)) ?_
  obtain ⟨T1424, X1424, e1424, st1424⟩ := getF X0 hx hZ hown (host := "") (Or.inl (wd hw 104 rfl)) Via.refl e0 pF_a1361_digits (g := (mkF m 1 #[rv a1361, iv p1362] [(.ref a1361)])) rfl rfl (hb hby d19_1)
  refine own_via (fun t k => st1424 t (XS.iloadN X1424.here hx rfl (hb hby d19_4) rfl k)) ?_
  obtain ⟨cl1425, Ar1425, qq1425, S1425, M1425, H1425, G1425⟩ := id (pV_a1373)
  have hin1425 : ¬ (p1362 < 0 ∨ cl1425.slots.size ≤ (p1362).toNatClampNeg) := inb_of S1425 ⟨pC1379, pC1380⟩
  refine own_via (fun t k => X1424.iaload hx (j := p1362) (v := (.int ((own_dg 81 f1364 rd1) (p1362).toNatClampNeg))) (by rw [e1424]; exact Ar1425.1) (State.isArrayOf_alike hZ.alike Ar1425.2.1) Ar1425.2.2 hin1425 (Has.at H1425 hin1425 (own_vs_at (own_inN S1425 rfl hin1425))) (g := (mkF m 5 #[rv a1361, iv p1362] [(.int p1362), (.ref a1373)])) rfl rfl (hb hby d19_5) t k) ?_
  obtain ⟨fs, hr, hrun, hended, hW, hsame⟩ := X1424.leave (v := some (.int ((own_dg 81 f1364 rd1) (p1362).toNatClampNeg))) (fun h => by rw [Bd.returns] at h; cases h)
  refine own_end (t := T1424.setFrames fs) ?_ ⟨_, hrun, hended, _, _, rfl, ?_, ⟨_, rfl⟩, hW, hsame.mono (by decide) (by decide)⟩
  · exact retI X1424 hx Bd.returns (hb hby d19_6) hr
  · show Q18 Z a1361 p1362 a1373 k1374 f1364 rd1 h0 n0 _ T1424.heap _
    rw [e1424]
    exact ⟨rfl, N0, rfl⟩
theorem pd_16 : parseMethodDescriptor "(I)I" = some ⟨[.int], some .int⟩ := by decide +kernel
theorem d20_0 : decode method_4_code 0 = .ok (.iload_n 0, 1) := by decide +kernel
theorem d20_1 : decode method_4_code 1 = .ok (.iload_n 3, 1) := by decide +kernel
theorem d20_2 : decode method_4_code 2 = .ok (.if_icmp .ne 9, 3) := by decide +kernel
theorem d20_5 : decode method_4_code 5 = .ok (.iload 4, 2) := by decide +kernel
theorem d20_7 : decode method_4_code 7 = .ok (.invokestatic 7, 3) := by decide +kernel
theorem d21_0 : decode method_3_code 0 = .ok (.iload_n 0, 1) := by decide +kernel
theorem d21_1 : decode method_3_code 1 = .ok (.bipush 10, 2) := by decide +kernel
theorem d21_3 : decode method_3_code 3 = .ok (.if_icmp .ne 7, 3) := by decide +kernel
theorem d21_6 : decode method_3_code 6 = .ok (.iconst 0, 1) := by decide +kernel
theorem d21_7 : decode method_3_code 7 = .ok (.goto 4, 3) := by decide +kernel
theorem d21_11 : decode method_3_code 11 = .ok (.ireturn, 1) := by decide +kernel
theorem d21_10 : decode method_3_code 10 = .ok (.iload_n 0, 1) := by decide +kernel
theorem ef_19 (m : MethodId) (x0 : Int32) : entryFrame m #[(.int x0)] 1 = mkF m 0 #[iv x0] [] := by first | (simp [entryFrame, mkF, argsToLocals, Value.category]; done) | rfl
def Q19 (Z : State) (p1493 : Int32) (h0 : Heap) (n0 : Nat) (v : Option Value) (h : Heap) (L : List Loc) : Prop := v = some (.int (own_val p1493)) ∧ Fr n0 L ∧ h = h0
set_option maxRecDepth 65536 in
set_option maxHeartbeats 40000000 in
theorem rm19 (l : Launch) (Z : State) (a0 : Array Value) (hw : ∀ d ∈ tables_1, d.before a0 Z = true) (ws : List Jvm.Cond) (p1493 : Int32) (h0 : Heap) (n0 : Nat) (O0 : Old Z n0 h0) :
    MetFree l (⟨zs6, "val", "(I)I"⟩ : MethodName) (head1 (Jvm.Cond.code (⟨zs6, "val", "(I)I"⟩ : MethodName) method_3_code 1 (some .int) :: ws) ({ frames := 0, cells := 0, slots := 0, locals := 0 } : Room)) (fun a U => a = #[(.int p1493)] ∧ Z.Warmed39 U.vm ∧ U.heap = h0) (fun _ _ _ _ _ => True) (fun _ U o U' => ∃ v L, o = .returned v ∧ Q19 Z p1493 h0 n0 v U'.heap L ∧ FrameEnd U o U' L ({ frames := 0, cells := 0, slots := 0, locals := 0 } : Room).cells ({ frames := 0, cells := 0, slots := 0, locals := 0 } : Room).slots) := by
  refine MetFree.of_bodySF (plainFor_of_name pn_1) hisR ?_
  intro p e s m args below meth c s₁ Bd hml0 hP hK
  obtain ⟨rfl, hZ, hh⟩ := hP
  have hx := Bd.exec
  have hby := Bd.bytes
  have hml : c.maxLocals = 1 := hml0
  have hown : s.vm.findClass zs6 = some m.cls := findClass_of_methodNamed Bd.named
  have hnm := (name_of_methodNamed Bd.named Bd.method).1
  have X0 : Stand p l e ({ frames := 0, cells := 0, slots := 0, locals := 0 } : Room) s m #[(.int p1493)] below meth c s₁ [] 0 0 := Stand.of_body Bd
  have e0 : s₁.heap = h0 := by rw [← hh, Bd.state]; rfl
  have N0 := Fr.nil n0
  refine own_out ?_
  refine own_via (fun t k => castTop (ef_19 m p1493) (XS.iloadN X0.here hx rfl (hb hby d21_0) rfl (XS.bipush X0.here hx rfl (hb hby d21_1) k))) ?_
  show own_Goes p e below (s₁.setTop (mkF m 3 #[iv p1493] [(.int (10 : Int32)), (.int p1493)])) _
  by_cases hc1557 : p1493 = (10 : Int32)
  · refine own_via (fun t k => XS.icmpNo X0.here hx rfl (hb hby d21_3) rfl (teq hc1557).2 (XS.iconst X0.here hx rfl (hb hby d21_6) (XS.goto X0.here hx rfl (pc0 := 7) (pc' := 11) rfl (hb hby d21_7) (by decide) (by decide) k))) ?_
    show own_Goes p e below (s₁.setTop (mkF m 11 #[iv p1493] [(.int (0 : Int32))])) _
    obtain ⟨fs, hr, hrun, hended, hW, hsame⟩ := X0.leave (v := some (.int (0 : Int32))) (fun h => by rw [Bd.returns] at h; cases h)
    refine own_end (t := s₁.setFrames fs) ?_ ⟨_, hrun, hended, _, _, rfl, ?_, ⟨_, rfl⟩, hW, hsame.mono (by decide) (by decide)⟩
    · exact retI X0 hx Bd.returns (hb hby d21_11) hr
    · show Q19 Z p1493 h0 n0 _ s₁.heap _
      rw [e0]
      exact ⟨(congrArg (fun q => some (Value.int q)) (own_val_0 hc1557)), N0, rfl⟩
  · refine own_via (fun t k => XS.icmpYes X0.here hx rfl (pc0 := 3) (pc' := 10) rfl (hb hby d21_3) rfl (feq hc1557).2 (by decide) (by decide) (XS.iloadN X0.here hx rfl (hb hby d21_10) rfl k)) ?_
    obtain ⟨fs, hr, hrun, hended, hW, hsame⟩ := X0.leave (v := some (.int p1493)) (fun h => by rw [Bd.returns] at h; cases h)
    refine own_end (t := s₁.setFrames fs) ?_ ⟨_, hrun, hended, _, _, rfl, ?_, ⟨_, rfl⟩, hW, hsame.mono (by decide) (by decide)⟩
    · exact retI X0 hx Bd.returns (hb hby d21_11) hr
    · show Q19 Z p1493 h0 n0 _ s₁.heap _
      rw [e0]
      exact ⟨(congrArg (fun q => some (Value.int q)) (own_val_1 hc1557)), N0, rfl⟩
theorem d20_10 : decode method_4_code 10 = .ok (.ireturn, 1) := by decide +kernel
theorem d20_11 : decode method_4_code 11 = .ok (.iload_n 0, 1) := by decide +kernel
theorem d20_12 : decode method_4_code 12 = .ok (.iload_n 1, 1) := by decide +kernel
theorem d20_13 : decode method_4_code 13 = .ok (.if_icmp .ne 8, 3) := by decide +kernel
theorem d20_16 : decode method_4_code 16 = .ok (.iload_n 2, 1) := by decide +kernel
theorem d20_17 : decode method_4_code 17 = .ok (.invokestatic 7, 3) := by decide +kernel
theorem d20_20 : decode method_4_code 20 = .ok (.ireturn, 1) := by decide +kernel
theorem ef_20 (m : MethodId) (x0 : Int32) (x1 : Int32) (x2 : Int32) (x3 : Int32) (x4 : Int32) (x5 : Int32) : entryFrame m #[(.int x0), (.int x1), (.int x2), (.int x3), (.int x4), (.int x5)] 6 = mkF m 0 #[iv x0, iv x1, iv x2, iv x3, iv x4, iv x5] [] := by first | (simp [entryFrame, mkF, argsToLocals, Value.category]; done) | rfl
def Q20 (Z : State) (p1428 : Int32) (p1429 : Int32) (p1430 : Int32) (p1431 : Int32) (p1432 : Int32) (h0 : Heap) (n0 : Nat) (v : Option Value) (h : Heap) (L : List Loc) : Prop := v = some (.int (own_exp p1428 p1428 p1429 p1430 p1431 p1432)) ∧ Fr n0 L ∧ h = h0
set_option maxRecDepth 65536 in
set_option maxHeartbeats 40000000 in
theorem rm20 (l : Launch) (Z : State) (a0 : Array Value) (hw : ∀ d ∈ tables_1, d.before a0 Z = true) (ws : List Jvm.Cond) (p1428 : Int32) (p1429 : Int32) (p1430 : Int32) (p1431 : Int32) (p1432 : Int32) (h0 : Heap) (n0 : Nat) (O0 : Old Z n0 h0) :
    MetFree l (⟨zs6, "expected", "(IIIIII)I"⟩ : MethodName) (head1 (Jvm.Cond.code (⟨zs6, "expected", "(IIIIII)I"⟩ : MethodName) method_4_code 6 (some .int) :: ws) ({ frames := 1, cells := 0, slots := 0, locals := 12 } : Room)) (fun a U => a = #[(.int p1428), (.int p1428), (.int p1429), (.int p1430), (.int p1431), (.int p1432)] ∧ Z.Warmed39 U.vm ∧ U.heap = h0) (fun _ _ _ _ _ => True) (fun _ U o U' => ∃ v L, o = .returned v ∧ Q20 Z p1428 p1429 p1430 p1431 p1432 h0 n0 v U'.heap L ∧ FrameEnd U o U' L ({ frames := 1, cells := 0, slots := 0, locals := 12 } : Room).cells ({ frames := 1, cells := 0, slots := 0, locals := 12 } : Room).slots) := by
  refine MetFree.of_bodySF (plainFor_of_name pn_1) hisR ?_
  intro p e s m args below meth c s₁ Bd hml0 hP hK
  obtain ⟨rfl, hZ, hh⟩ := hP
  have hx := Bd.exec
  have hby := Bd.bytes
  have hml : c.maxLocals = 6 := hml0
  have hown : s.vm.findClass zs6 = some m.cls := findClass_of_methodNamed Bd.named
  have hnm := (name_of_methodNamed Bd.named Bd.method).1
  have X0 : Stand p l e ({ frames := 1, cells := 0, slots := 0, locals := 12 } : Room) s m #[(.int p1428), (.int p1428), (.int p1429), (.int p1430), (.int p1431), (.int p1432)] below meth c s₁ [] 0 0 := Stand.of_body Bd
  have e0 : s₁.heap = h0 := by rw [← hh, Bd.state]; rfl
  have N0 := Fr.nil n0
  refine own_out ?_
  refine own_via (fun t k => castTop (ef_20 m p1428 p1428 p1429 p1430 p1431 p1432) (XS.iloadN X0.here hx rfl (hb hby d20_0) rfl (XS.iloadN X0.here hx rfl (hb hby d20_1) rfl k))) ?_
  show own_Goes p e below (s₁.setTop (mkF m 2 #[iv p1428, iv p1428, iv p1429, iv p1430, iv p1431, iv p1432] [(.int p1430), (.int p1428)])) _
  by_cases hc1491 : p1428 = p1430
  · refine own_via (fun t k => XS.icmpNo X0.here hx rfl (hb hby d20_2) rfl (teq hc1491).2 (XS.iload X0.here hx rfl (hb hby d20_5) rfl k)) ?_
    obtain ⟨_, T1492, _, X1492, hQ1492, st1492⟩ := own_cs X0 hx hZ hown (wd hw 121 rfl) (wd hw 122 rfl) (wd hw 123 rfl) (wd hw 6 rfl) (by decide) (rm19 l Z a0 hw [] p1431 h0 n0 O0 ) e0 (g := (mkF m 7 #[iv p1428, iv p1428, iv p1429, iv p1430, iv p1431, iv p1432] [(.int p1431)])) rfl (by rw [hml]; rfl) (rest := []) (W := 0) (lenOf pd_16 rfl) rfl (by show 2 * 0 + _ ≤ _; exact Nat.le_of_eq rfl) (hb hby d20_7) (by decide) (by decide) (by decide) (by decide)
    obtain ⟨rfl, Nq1492, hh1558⟩ := hQ1492
    have N1492 := Fr.app N0 Nq1492
    refine own_via (fun t k => st1492 t k) ?_
    obtain ⟨fs, hr, hrun, hended, hW, hsame⟩ := X1492.leave (v := some (.int (own_val p1431))) (fun h => by rw [Bd.returns] at h; cases h)
    refine own_end (t := T1492.setFrames fs) ?_ ⟨_, hrun, hended, _, _, rfl, ?_, ⟨_, rfl⟩, hW, hsame.mono (by decide) (by decide)⟩
    · exact retI X1492 hx Bd.returns (hb hby d20_10) hr
    · show Q20 Z p1428 p1429 p1430 p1431 p1432 h0 n0 _ T1492.heap _
      rw [hh1558]
      exact ⟨(congrArg (fun q => some (Value.int q)) (own_exp_0 hc1491)), N1492, rfl⟩
  · refine own_via (fun t k => XS.icmpYes X0.here hx rfl (pc0 := 2) (pc' := 11) rfl (hb hby d20_2) rfl (feq hc1491).2 (by decide) (by decide) (XS.iloadN X0.here hx rfl (hb hby d20_11) rfl (XS.iloadN X0.here hx rfl (hb hby d20_12) rfl (XS.icmpNo X0.here hx rfl (hb hby d20_13) rfl (teq (rfl : p1428 = p1428)).2 (XS.iloadN X0.here hx rfl (hb hby d20_16) rfl k))))) ?_
    show own_Goes p e below (s₁.setTop (mkF m 17 #[iv p1428, iv p1428, iv p1429, iv p1430, iv p1431, iv p1432] [(.int p1429)])) _
    obtain ⟨_, T1559, _, X1559, hQ1559, st1559⟩ := own_cs X0 hx hZ hown (wd hw 121 rfl) (wd hw 122 rfl) (wd hw 123 rfl) (wd hw 6 rfl) (by decide) (rm19 l Z a0 hw [] p1429 h0 n0 O0 ) e0 (g := (mkF m 17 #[iv p1428, iv p1428, iv p1429, iv p1430, iv p1431, iv p1432] [(.int p1429)])) rfl (by rw [hml]; rfl) (rest := []) (W := 0) (lenOf pd_16 rfl) rfl (by show 2 * 0 + _ ≤ _; exact Nat.le_of_eq rfl) (hb hby d20_17) (by decide) (by decide) (by decide) (by decide)
    obtain ⟨rfl, Nq1559, hh1560⟩ := hQ1559
    have N1559 := Fr.app N0 Nq1559
    refine own_via (fun t k => st1559 t k) ?_
    obtain ⟨fs, hr, hrun, hended, hW, hsame⟩ := X1559.leave (v := some (.int (own_val p1429))) (fun h => by rw [Bd.returns] at h; cases h)
    refine own_end (t := T1559.setFrames fs) ?_ ⟨_, hrun, hended, _, _, rfl, ?_, ⟨_, rfl⟩, hW, hsame.mono (by decide) (by decide)⟩
    · exact retI X1559 hx Bd.returns (hb hby d20_20) hr
    · show Q20 Z p1428 p1429 p1430 p1431 p1432 h0 n0 _ T1559.heap _
      rw [hh1560]
      exact ⟨(congrArg (fun q => some (Value.int q)) (own_exp_1 hc1491 rfl)), N1559, rfl⟩
theorem pd_17 : parseMethodDescriptor "(IIIIII)I" = some ⟨[.int, .int, .int, .int, .int, .int], some .int⟩ := by decide +kernel
def Q21 (Z : State) (p1565 : Int32) (p1566 : Int32) (p1567 : Int32) (p1568 : Int32) (p1569 : Int32) (h0 : Heap) (n0 : Nat) (v : Option Value) (h : Heap) (L : List Loc) : Prop := v = some (.int (own_exp p1565 p1566 p1567 p1565 p1568 p1569)) ∧ Fr n0 L ∧ h = h0
set_option maxRecDepth 65536 in
set_option maxHeartbeats 40000000 in
theorem rm21 (l : Launch) (Z : State) (a0 : Array Value) (hw : ∀ d ∈ tables_1, d.before a0 Z = true) (ws : List Jvm.Cond) (p1565 : Int32) (p1566 : Int32) (p1567 : Int32) (p1568 : Int32) (p1569 : Int32) (h0 : Heap) (n0 : Nat) (O0 : Old Z n0 h0) :
    MetFree l (⟨zs6, "expected", "(IIIIII)I"⟩ : MethodName) (head1 (Jvm.Cond.code (⟨zs6, "expected", "(IIIIII)I"⟩ : MethodName) method_4_code 6 (some .int) :: ws) ({ frames := 1, cells := 0, slots := 0, locals := 12 } : Room)) (fun a U => a = #[(.int p1565), (.int p1566), (.int p1567), (.int p1565), (.int p1568), (.int p1569)] ∧ Z.Warmed39 U.vm ∧ U.heap = h0) (fun _ _ _ _ _ => True) (fun _ U o U' => ∃ v L, o = .returned v ∧ Q21 Z p1565 p1566 p1567 p1568 p1569 h0 n0 v U'.heap L ∧ FrameEnd U o U' L ({ frames := 1, cells := 0, slots := 0, locals := 12 } : Room).cells ({ frames := 1, cells := 0, slots := 0, locals := 12 } : Room).slots) := by
  refine MetFree.of_bodySF (plainFor_of_name pn_1) hisR ?_
  intro p e s m args below meth c s₁ Bd hml0 hP hK
  obtain ⟨rfl, hZ, hh⟩ := hP
  have hx := Bd.exec
  have hby := Bd.bytes
  have hml : c.maxLocals = 6 := hml0
  have hown : s.vm.findClass zs6 = some m.cls := findClass_of_methodNamed Bd.named
  have hnm := (name_of_methodNamed Bd.named Bd.method).1
  have X0 : Stand p l e ({ frames := 1, cells := 0, slots := 0, locals := 12 } : Room) s m #[(.int p1565), (.int p1566), (.int p1567), (.int p1565), (.int p1568), (.int p1569)] below meth c s₁ [] 0 0 := Stand.of_body Bd
  have e0 : s₁.heap = h0 := by rw [← hh, Bd.state]; rfl
  have N0 := Fr.nil n0
  refine own_out ?_
  refine own_via (fun t k => castTop (ef_20 m p1565 p1566 p1567 p1565 p1568 p1569) (XS.iloadN X0.here hx rfl (hb hby d20_0) rfl (XS.iloadN X0.here hx rfl (hb hby d20_1) rfl (XS.icmpNo X0.here hx rfl (hb hby d20_2) rfl (teq (rfl : p1565 = p1565)).2 (XS.iload X0.here hx rfl (hb hby d20_5) rfl k))))) ?_
  show own_Goes p e below (s₁.setTop (mkF m 7 #[iv p1565, iv p1566, iv p1567, iv p1565, iv p1568, iv p1569] [(.int p1568)])) _
  obtain ⟨_, T1628, _, X1628, hQ1628, st1628⟩ := own_cs X0 hx hZ hown (wd hw 121 rfl) (wd hw 122 rfl) (wd hw 123 rfl) (wd hw 6 rfl) (by decide) (rm19 l Z a0 hw [] p1568 h0 n0 O0 ) e0 (g := (mkF m 7 #[iv p1565, iv p1566, iv p1567, iv p1565, iv p1568, iv p1569] [(.int p1568)])) rfl (by rw [hml]; rfl) (rest := []) (W := 0) (lenOf pd_16 rfl) rfl (by show 2 * 0 + _ ≤ _; exact Nat.le_of_eq rfl) (hb hby d20_7) (by decide) (by decide) (by decide) (by decide)
  obtain ⟨rfl, Nq1628, hh1629⟩ := hQ1628
  have N1628 := Fr.app N0 Nq1628
  refine own_via (fun t k => st1628 t k) ?_
  obtain ⟨fs, hr, hrun, hended, hW, hsame⟩ := X1628.leave (v := some (.int (own_val p1568))) (fun h => by rw [Bd.returns] at h; cases h)
  refine own_end (t := T1628.setFrames fs) ?_ ⟨_, hrun, hended, _, _, rfl, ?_, ⟨_, rfl⟩, hW, hsame.mono (by decide) (by decide)⟩
  · exact retI X1628 hx Bd.returns (hb hby d20_10) hr
  · show Q21 Z p1565 p1566 p1567 p1568 p1569 h0 n0 _ T1628.heap _
    rw [hh1629]
    exact ⟨(congrArg (fun q => some (Value.int q)) (own_exp_0 rfl)), N1628, rfl⟩
theorem d20_21 : decode method_4_code 21 = .ok (.iload 5, 2) := by decide +kernel
theorem d20_23 : decode method_4_code 23 = .ok (.invokestatic 7, 3) := by decide +kernel
theorem d20_26 : decode method_4_code 26 = .ok (.ireturn, 1) := by decide +kernel
def Q22 (Z : State) (p1634 : Int32) (p1635 : Int32) (p1636 : Int32) (p1637 : Int32) (p1638 : Int32) (p1639 : Int32) (h0 : Heap) (n0 : Nat) (v : Option Value) (h : Heap) (L : List Loc) : Prop := v = some (.int (own_exp p1634 p1635 p1636 p1637 p1638 p1639)) ∧ Fr n0 L ∧ h = h0
set_option maxRecDepth 65536 in
set_option maxHeartbeats 40000000 in
theorem rm22 (l : Launch) (Z : State) (a0 : Array Value) (hw : ∀ d ∈ tables_1, d.before a0 Z = true) (ws : List Jvm.Cond) (p1634 : Int32) (p1635 : Int32) (p1636 : Int32) (p1637 : Int32) (p1638 : Int32) (p1639 : Int32) (h0 : Heap) (n0 : Nat) (O0 : Old Z n0 h0) :
    MetFree l (⟨zs6, "expected", "(IIIIII)I"⟩ : MethodName) (head1 (Jvm.Cond.code (⟨zs6, "expected", "(IIIIII)I"⟩ : MethodName) method_4_code 6 (some .int) :: ws) ({ frames := 1, cells := 0, slots := 0, locals := 12 } : Room)) (fun a U => a = #[(.int p1634), (.int p1635), (.int p1636), (.int p1637), (.int p1638), (.int p1639)] ∧ Z.Warmed39 U.vm ∧ U.heap = h0) (fun _ _ _ _ _ => True) (fun _ U o U' => ∃ v L, o = .returned v ∧ Q22 Z p1634 p1635 p1636 p1637 p1638 p1639 h0 n0 v U'.heap L ∧ FrameEnd U o U' L ({ frames := 1, cells := 0, slots := 0, locals := 12 } : Room).cells ({ frames := 1, cells := 0, slots := 0, locals := 12 } : Room).slots) := by
  refine MetFree.of_bodySF (plainFor_of_name pn_1) hisR ?_
  intro p e s m args below meth c s₁ Bd hml0 hP hK
  obtain ⟨rfl, hZ, hh⟩ := hP
  have hx := Bd.exec
  have hby := Bd.bytes
  have hml : c.maxLocals = 6 := hml0
  have hown : s.vm.findClass zs6 = some m.cls := findClass_of_methodNamed Bd.named
  have hnm := (name_of_methodNamed Bd.named Bd.method).1
  have X0 : Stand p l e ({ frames := 1, cells := 0, slots := 0, locals := 12 } : Room) s m #[(.int p1634), (.int p1635), (.int p1636), (.int p1637), (.int p1638), (.int p1639)] below meth c s₁ [] 0 0 := Stand.of_body Bd
  have e0 : s₁.heap = h0 := by rw [← hh, Bd.state]; rfl
  have N0 := Fr.nil n0
  refine own_out ?_
  refine own_via (fun t k => castTop (ef_20 m p1634 p1635 p1636 p1637 p1638 p1639) (XS.iloadN X0.here hx rfl (hb hby d20_0) rfl (XS.iloadN X0.here hx rfl (hb hby d20_1) rfl k))) ?_
  show own_Goes p e below (s₁.setTop (mkF m 2 #[iv p1634, iv p1635, iv p1636, iv p1637, iv p1638, iv p1639] [(.int p1637), (.int p1634)])) _
  by_cases hc1697 : p1634 = p1637
  · refine own_via (fun t k => XS.icmpNo X0.here hx rfl (hb hby d20_2) rfl (teq hc1697).2 (XS.iload X0.here hx rfl (hb hby d20_5) rfl k)) ?_
    obtain ⟨_, T1698, _, X1698, hQ1698, st1698⟩ := own_cs X0 hx hZ hown (wd hw 121 rfl) (wd hw 122 rfl) (wd hw 123 rfl) (wd hw 6 rfl) (by decide) (rm19 l Z a0 hw [] p1638 h0 n0 O0 ) e0 (g := (mkF m 7 #[iv p1634, iv p1635, iv p1636, iv p1637, iv p1638, iv p1639] [(.int p1638)])) rfl (by rw [hml]; rfl) (rest := []) (W := 0) (lenOf pd_16 rfl) rfl (by show 2 * 0 + _ ≤ _; exact Nat.le_of_eq rfl) (hb hby d20_7) (by decide) (by decide) (by decide) (by decide)
    obtain ⟨rfl, Nq1698, hh1699⟩ := hQ1698
    have N1698 := Fr.app N0 Nq1698
    refine own_via (fun t k => st1698 t k) ?_
    obtain ⟨fs, hr, hrun, hended, hW, hsame⟩ := X1698.leave (v := some (.int (own_val p1638))) (fun h => by rw [Bd.returns] at h; cases h)
    refine own_end (t := T1698.setFrames fs) ?_ ⟨_, hrun, hended, _, _, rfl, ?_, ⟨_, rfl⟩, hW, hsame.mono (by decide) (by decide)⟩
    · exact retI X1698 hx Bd.returns (hb hby d20_10) hr
    · show Q22 Z p1634 p1635 p1636 p1637 p1638 p1639 h0 n0 _ T1698.heap _
      rw [hh1699]
      exact ⟨(congrArg (fun q => some (Value.int q)) (own_exp_0 hc1697)), N1698, rfl⟩
  · refine own_via (fun t k => XS.icmpYes X0.here hx rfl (pc0 := 2) (pc' := 11) rfl (hb hby d20_2) rfl (feq hc1697).2 (by decide) (by decide) (XS.iloadN X0.here hx rfl (hb hby d20_11) rfl (XS.iloadN X0.here hx rfl (hb hby d20_12) rfl k))) ?_
    show own_Goes p e below (s₁.setTop (mkF m 13 #[iv p1634, iv p1635, iv p1636, iv p1637, iv p1638, iv p1639] [(.int p1635), (.int p1634)])) _
    by_cases hc1700 : p1634 = p1635
    · refine own_via (fun t k => XS.icmpNo X0.here hx rfl (hb hby d20_13) rfl (teq hc1700).2 (XS.iloadN X0.here hx rfl (hb hby d20_16) rfl k)) ?_
      obtain ⟨_, T1701, _, X1701, hQ1701, st1701⟩ := own_cs X0 hx hZ hown (wd hw 121 rfl) (wd hw 122 rfl) (wd hw 123 rfl) (wd hw 6 rfl) (by decide) (rm19 l Z a0 hw [] p1636 h0 n0 O0 ) e0 (g := (mkF m 17 #[iv p1634, iv p1635, iv p1636, iv p1637, iv p1638, iv p1639] [(.int p1636)])) rfl (by rw [hml]; rfl) (rest := []) (W := 0) (lenOf pd_16 rfl) rfl (by show 2 * 0 + _ ≤ _; exact Nat.le_of_eq rfl) (hb hby d20_17) (by decide) (by decide) (by decide) (by decide)
      obtain ⟨rfl, Nq1701, hh1702⟩ := hQ1701
      have N1701 := Fr.app N0 Nq1701
      refine own_via (fun t k => st1701 t k) ?_
      obtain ⟨fs, hr, hrun, hended, hW, hsame⟩ := X1701.leave (v := some (.int (own_val p1636))) (fun h => by rw [Bd.returns] at h; cases h)
      refine own_end (t := T1701.setFrames fs) ?_ ⟨_, hrun, hended, _, _, rfl, ?_, ⟨_, rfl⟩, hW, hsame.mono (by decide) (by decide)⟩
      · exact retI X1701 hx Bd.returns (hb hby d20_20) hr
      · show Q22 Z p1634 p1635 p1636 p1637 p1638 p1639 h0 n0 _ T1701.heap _
        rw [hh1702]
        exact ⟨(congrArg (fun q => some (Value.int q)) (own_exp_1 hc1697 hc1700)), N1701, rfl⟩
    · refine own_via (fun t k => XS.icmpYes X0.here hx rfl (pc0 := 13) (pc' := 21) rfl (hb hby d20_13) rfl (feq hc1700).2 (by decide) (by decide) (XS.iload X0.here hx rfl (hb hby d20_21) rfl k)) ?_
      obtain ⟨_, T1703, _, X1703, hQ1703, st1703⟩ := own_cs X0 hx hZ hown (wd hw 121 rfl) (wd hw 122 rfl) (wd hw 123 rfl) (wd hw 6 rfl) (by decide) (rm19 l Z a0 hw [] p1639 h0 n0 O0 ) e0 (g := (mkF m 23 #[iv p1634, iv p1635, iv p1636, iv p1637, iv p1638, iv p1639] [(.int p1639)])) rfl (by rw [hml]; rfl) (rest := []) (W := 0) (lenOf pd_16 rfl) rfl (by show 2 * 0 + _ ≤ _; exact Nat.le_of_eq rfl) (hb hby d20_23) (by decide) (by decide) (by decide) (by decide)
      obtain ⟨rfl, Nq1703, hh1704⟩ := hQ1703
      have N1703 := Fr.app N0 Nq1703
      refine own_via (fun t k => st1703 t k) ?_
      obtain ⟨fs, hr, hrun, hended, hW, hsame⟩ := X1703.leave (v := some (.int (own_val p1639))) (fun h => by rw [Bd.returns] at h; cases h)
      refine own_end (t := T1703.setFrames fs) ?_ ⟨_, hrun, hended, _, _, rfl, ?_, ⟨_, rfl⟩, hW, hsame.mono (by decide) (by decide)⟩
      · exact retI X1703 hx Bd.returns (hb hby d20_26) hr
      · show Q22 Z p1634 p1635 p1636 p1637 p1638 p1639 h0 n0 _ T1703.heap _
        rw [hh1704]
        exact ⟨(congrArg (fun q => some (Value.int q)) (own_exp_2 hc1697 hc1700)), N1703, rfl⟩
theorem d6_10 : decode jdk_52_method_21_code 10 = .ok (.aload_n 0, 1) := by decide +kernel
theorem d6_11 : decode jdk_52_method_21_code 11 = .ok (.iload_n 1, 1) := by decide +kernel
theorem d6_12 : decode jdk_52_method_21_code 12 = .ok (.caload, 1) := by decide +kernel
theorem d6_13 : decode jdk_52_method_21_code 13 = .ok (.istore 6, 2) := by decide +kernel
theorem d6_15 : decode jdk_52_method_21_code 15 = .ok (.iload 6, 2) := by decide +kernel
theorem d6_17 : decode jdk_52_method_21_code 17 = .ok (.sipush 255, 3) := by decide +kernel
theorem d6_20 : decode jdk_52_method_21_code 20 = .ok (.if_icmp .le 6, 3) := by decide +kernel
theorem d6_23 : decode jdk_52_method_21_code 23 = .ok (.iload 5, 2) := by decide +kernel
theorem d6_25 : decode jdk_52_method_21_code 25 = .ok (.ireturn, 1) := by decide +kernel
def Q23 (Z : State) (a1958 : Addr) (a1959 : Addr) (f1963 : Nat → Int32) (k1967 : ClassId) (k1964 : ClassId) (h0 : Heap) (n0 : Nat) (v : Option Value) (h : Heap) (L : List Loc) : Prop := v = some (.int (81 : Int32)) ∧ Fr n0 L ∧ Keep h0 h [a1959] ∧ Arv Z h a1959 k1967 .byte (82 : Int32) (own_vs 82 (own_bt 81 f1963)) (.int (0 : Int32)) ∧ Exa Z h a1959 "[B"
set_option maxRecDepth 65536 in
set_option maxHeartbeats 40000000 in
theorem rm23 (l : Launch) (Z : State) (a0 : Array Value) (hw : ∀ d ∈ tables_1, d.before a0 Z = true) (ws : List Jvm.Cond) (a1958 : Addr) (a1959 : Addr) (f1963 : Nat → Int32) (k1967 : ClassId) (k1964 : ClassId) (h0 : Heap) (n0 : Nat) (O0 : Old Z n0 h0) (pC2016 : own_okF f1963) (pV_a1959 : Arv Z h0 a1959 k1967 .byte (82 : Int32) [] (.int (0 : Int32))) (pV_a1958 : Arv Z h0 a1958 k1964 .char (82 : Int32) (own_vs 82 f1963) (.int (0 : Int32))) (pG_a1959 : n0 ≤ a1959) (pC2018 : (255 : Int32) < (f1963 81)) (pE_a1959 : Exa Z h0 a1959 "[B") :
    MetFree l (⟨zs3, "compress", "([CI[BII)I"⟩ : MethodName) (head1 (Jvm.Cond.code (⟨zs3, "compress", "([CI[BII)I"⟩ : MethodName) jdk_52_method_21_code 7 (some .int) :: ws) ({ frames := 0, cells := 0, slots := 0, locals := 0 } : Room)) (fun a U => a = #[(.ref a1958), (.int (0 : Int32)), (.ref a1959), (.int (0 : Int32)), (.int (82 : Int32))] ∧ Z.Warmed39 U.vm ∧ U.heap = h0) (fun _ _ _ _ _ => True) (fun _ U o U' => ∃ v L, o = .returned v ∧ Q23 Z a1958 a1959 f1963 k1967 k1964 h0 n0 v U'.heap L ∧ FrameEnd U o U' L ({ frames := 0, cells := 0, slots := 0, locals := 0 } : Room).cells ({ frames := 0, cells := 0, slots := 0, locals := 0 } : Room).slots) := by
  refine MetFree.of_bodySF (plainFor_of_name pn_2) hisR ?_
  intro p e s m args below meth c s₁ Bd hml0 hP hK
  obtain ⟨rfl, hZ, hh⟩ := hP
  have hx := Bd.exec
  have hby := Bd.bytes
  have hml : c.maxLocals = 7 := hml0
  have hown : s.vm.findClass zs3 = some m.cls := findClass_of_methodNamed Bd.named
  have hnm := (name_of_methodNamed Bd.named Bd.method).1
  have X0 : Stand p l e ({ frames := 0, cells := 0, slots := 0, locals := 0 } : Room) s m #[(.ref a1958), (.int (0 : Int32)), (.ref a1959), (.int (0 : Int32)), (.int (82 : Int32))] below meth c s₁ [] 0 0 := Stand.of_body Bd
  have e0 : s₁.heap = h0 := by rw [← hh, Bd.state]; rfl
  have N0 := Fr.nil n0
  refine own_out ?_
  refine own_via (fun t k => castTop (ef_2 m a1958 (0 : Int32) a1959 (0 : Int32) (82 : Int32)) (XS.iconst X0.here hx rfl (hb hby d6_0) (XS.istore X0.here hx rfl (hb hby d6_1) rfl (l' := #[rv a1958, iv (0 : Int32), rv a1959, iv (0 : Int32), iv (82 : Int32), iv (0 : Int32), .unset]) rfl k))) ?_
  show own_Goes p e below (s₁.setTop (mkF m 3 #[rv a1958, iv (0 : Int32), rv a1959, iv (0 : Int32), iv (82 : Int32), iv (0 : Int32), .unset] [])) _
  have V2019 : Arv Z h0 a1959 k1967 .byte (82 : Int32) (own_vs 82 (own_bt 0 f1963)) (.int (0 : Int32)) := own_z_new pV_a1959 (own_bt_zero _)
  obtain ⟨T2020, h2020, L2020, s62020, X2020, e2020, N2020, K2020, -, V2020, st2020⟩ := own_lpC (a := a1958) (b := a1959) (N := 82) (q := 81) (f := f1963) hx hZ hby (by decide) (by decide) (own_lowC pC2016) pG_a1959 (own_neV pV_a1958 pV_a1959 (by simp)) 81 0 s₁ h0 _ none rfl X0 e0 N0 pV_a1958 V2019
  refine own_via (fun t k => st2020 t k) ?_
  show own_Goes p e below (T2020.setTop (mkF m 3 #[rv a1958, iv (81 : Int32), rv a1959, iv (81 : Int32), iv (82 : Int32), iv (81 : Int32), own_sl s62020] [])) _
  rcases s62020 with _ | x2021
  · show own_Goes p e below (T2020.setTop (mkF m 3 #[rv a1958, iv (81 : Int32), rv a1959, iv (81 : Int32), iv (82 : Int32), iv (81 : Int32), .unset] [])) _
    refine own_via (fun t k => XS.iload X2020.here hx rfl (hb hby d6_3) rfl (XS.iload X2020.here hx rfl (hb hby d6_5) rfl (XS.icmpNo X2020.here hx rfl (hb hby d6_7) rfl (tlt (by decide : (81 : Int32) < (82 : Int32))).2.1 (XS.aloadN X2020.here hx rfl (hb hby d6_10) rfl rfl (XS.iloadN X2020.here hx rfl (hb hby d6_11) rfl k))))) ?_
    show own_Goes p e below (T2020.setTop (mkF m 12 #[rv a1958, iv (81 : Int32), rv a1959, iv (81 : Int32), iv (82 : Int32), iv (81 : Int32), .unset] [(.int (81 : Int32)), (.ref a1958)])) _
    have V2023 : Arv Z h2020 a1958 k1964 .char (82 : Int32) (own_vs 82 f1963) (.int (0 : Int32)) := (pV_a1958.keep K2020 (ninS (own_neV pV_a1958 pV_a1959 (by simp)) nin0))
    obtain ⟨cl2022, Ar2022, qq2022, S2022, M2022, H2022, G2022⟩ := id (V2023)
    have hin2022 : ¬ ((81 : Int32) < 0 ∨ cl2022.slots.size ≤ ((81 : Int32)).toNatClampNeg) := inb_of S2022 ⟨by decide, by decide⟩
    refine own_via (fun t k => X2020.caload hx (j := (81 : Int32)) (v := (.int (f1963 81))) (by rw [e2020]; exact Ar2022.1) (State.isArrayOf_alike hZ.alike Ar2022.2.1) Ar2022.2.2 hin2022 (Has.at H2022 hin2022 (own_vs_at (own_inN S2022 rfl hin2022))) (g := (mkF m 12 #[rv a1958, iv (81 : Int32), rv a1959, iv (81 : Int32), iv (82 : Int32), iv (81 : Int32), .unset] [(.int (81 : Int32)), (.ref a1958)])) rfl rfl (hb hby d6_12) t (XS.istore X2020.here hx rfl (hb hby d6_13) rfl (l' := #[rv a1958, iv (81 : Int32), rv a1959, iv (81 : Int32), iv (82 : Int32), iv (81 : Int32), iv (f1963 81)]) rfl (XS.iload X2020.here hx rfl (hb hby d6_15) rfl (XS.sipush X2020.here hx rfl (hb hby d6_17) (XS.icmpNo X2020.here hx rfl (hb hby d6_20) rfl (tlt pC2018).2.2.2 (XS.iload X2020.here hx rfl (hb hby d6_23) rfl k)))))) ?_
    show own_Goes p e below (T2020.setTop (mkF m 25 #[rv a1958, iv (81 : Int32), rv a1959, iv (81 : Int32), iv (82 : Int32), iv (81 : Int32), iv (f1963 81)] [(.int (81 : Int32))])) _
    obtain ⟨fs, hr, hrun, hended, hW, hsame⟩ := X2020.leave (v := some (.int (81 : Int32))) (fun h => by rw [Bd.returns] at h; cases h)
    refine own_end (t := T2020.setFrames fs) ?_ ⟨_, hrun, hended, _, _, rfl, ?_, ⟨_, rfl⟩, hW, hsame.mono (by decide) (by decide)⟩
    · exact retI X2020 hx Bd.returns (hb hby d6_25) hr
    have E2024 : Exa Z h2020 a1959 "[B" := (pE_a1959.keep K2020)
    · show Q23 Z a1958 a1959 f1963 k1967 k1964 h0 n0 _ T2020.heap _
      rw [e2020]
      exact ⟨rfl, N2020, ((Keep.refl h0 [a1959]).trans K2020 (allS (Or.inl (List.mem_of_getElem? (i := 0) rfl)) all0)), V2020, E2024⟩
  · show own_Goes p e below (T2020.setTop (mkF m 3 #[rv a1958, iv (81 : Int32), rv a1959, iv (81 : Int32), iv (82 : Int32), iv (81 : Int32), iv x2021] [])) _
    refine own_via (fun t k => XS.iload X2020.here hx rfl (hb hby d6_3) rfl (XS.iload X2020.here hx rfl (hb hby d6_5) rfl (XS.icmpNo X2020.here hx rfl (hb hby d6_7) rfl (tlt (by decide : (81 : Int32) < (82 : Int32))).2.1 (XS.aloadN X2020.here hx rfl (hb hby d6_10) rfl rfl (XS.iloadN X2020.here hx rfl (hb hby d6_11) rfl k))))) ?_
    show own_Goes p e below (T2020.setTop (mkF m 12 #[rv a1958, iv (81 : Int32), rv a1959, iv (81 : Int32), iv (82 : Int32), iv (81 : Int32), iv x2021] [(.int (81 : Int32)), (.ref a1958)])) _
    have V2026 : Arv Z h2020 a1958 k1964 .char (82 : Int32) (own_vs 82 f1963) (.int (0 : Int32)) := (pV_a1958.keep K2020 (ninS (own_neV pV_a1958 pV_a1959 (by simp)) nin0))
    obtain ⟨cl2025, Ar2025, qq2025, S2025, M2025, H2025, G2025⟩ := id (V2026)
    have hin2025 : ¬ ((81 : Int32) < 0 ∨ cl2025.slots.size ≤ ((81 : Int32)).toNatClampNeg) := inb_of S2025 ⟨by decide, by decide⟩
    refine own_via (fun t k => X2020.caload hx (j := (81 : Int32)) (v := (.int (f1963 81))) (by rw [e2020]; exact Ar2025.1) (State.isArrayOf_alike hZ.alike Ar2025.2.1) Ar2025.2.2 hin2025 (Has.at H2025 hin2025 (own_vs_at (own_inN S2025 rfl hin2025))) (g := (mkF m 12 #[rv a1958, iv (81 : Int32), rv a1959, iv (81 : Int32), iv (82 : Int32), iv (81 : Int32), iv x2021] [(.int (81 : Int32)), (.ref a1958)])) rfl rfl (hb hby d6_12) t (XS.istore X2020.here hx rfl (hb hby d6_13) rfl (l' := #[rv a1958, iv (81 : Int32), rv a1959, iv (81 : Int32), iv (82 : Int32), iv (81 : Int32), iv (f1963 81)]) rfl (XS.iload X2020.here hx rfl (hb hby d6_15) rfl (XS.sipush X2020.here hx rfl (hb hby d6_17) (XS.icmpNo X2020.here hx rfl (hb hby d6_20) rfl (tlt pC2018).2.2.2 (XS.iload X2020.here hx rfl (hb hby d6_23) rfl k)))))) ?_
    show own_Goes p e below (T2020.setTop (mkF m 25 #[rv a1958, iv (81 : Int32), rv a1959, iv (81 : Int32), iv (82 : Int32), iv (81 : Int32), iv (f1963 81)] [(.int (81 : Int32))])) _
    obtain ⟨fs, hr, hrun, hended, hW, hsame⟩ := X2020.leave (v := some (.int (81 : Int32))) (fun h => by rw [Bd.returns] at h; cases h)
    refine own_end (t := T2020.setFrames fs) ?_ ⟨_, hrun, hended, _, _, rfl, ?_, ⟨_, rfl⟩, hW, hsame.mono (by decide) (by decide)⟩
    · exact retI X2020 hx Bd.returns (hb hby d6_25) hr
    have E2027 : Exa Z h2020 a1959 "[B" := (pE_a1959.keep K2020)
    · show Q23 Z a1958 a1959 f1963 k1967 k1964 h0 n0 _ T2020.heap _
      rw [e2020]
      exact ⟨rfl, N2020, ((Keep.refl h0 [a1959]).trans K2020 (allS (Or.inl (List.mem_of_getElem? (i := 0) rfl)) all0)), V2020, E2027⟩
theorem d5_20 : decode jdk_52_method_16_code 20 = .ok (.aload_n 0, 1) := by decide +kernel
theorem d5_21 : decode jdk_52_method_16_code 21 = .ok (.iload_n 1, 1) := by decide +kernel
theorem d5_22 : decode jdk_52_method_16_code 22 = .ok (.iload_n 2, 1) := by decide +kernel
theorem d5_23 : decode jdk_52_method_16_code 23 = .ok (.invokestatic 119, 3) := by decide +kernel
theorem d22_0 : decode jdk_52_method_14_code 0 = .ok (.iload_n 2, 1) := by decide +kernel
theorem d22_1 : decode jdk_52_method_14_code 1 = .ok (.invokestatic 107, 3) := by decide +kernel
theorem d23_0 : decode jdk_52_method_2_code 0 = .ok (.iload_n 0, 1) := by decide +kernel
theorem d23_1 : decode jdk_52_method_2_code 1 = .ok (.invokestatic 11, 3) := by decide +kernel
theorem d24_0 : decode jdk_52_method_3_code 0 = .ok (.iload_n 0, 1) := by decide +kernel
theorem d24_1 : decode jdk_52_method_3_code 1 = .ok (.ifCond .ge 11, 3) := by decide +kernel
theorem d24_12 : decode jdk_52_method_3_code 12 = .ok (.iload_n 0, 1) := by decide +kernel
theorem d24_13 : decode jdk_52_method_3_code 13 = .ok (.ldc 20, 2) := by decide +kernel
theorem d24_15 : decode jdk_52_method_3_code 15 = .ok (.if_icmp .lt 40, 3) := by decide +kernel
theorem d24_55 : decode jdk_52_method_3_code 55 = .ok (.iload_n 0, 1) := by decide +kernel
theorem d24_56 : decode jdk_52_method_3_code 56 = .ok (.iconst 1, 1) := by decide +kernel
theorem d24_57 : decode jdk_52_method_3_code 57 = .ok (.ishl, 1) := by decide +kernel
theorem d24_58 : decode jdk_52_method_3_code 58 = .ok (.ireturn, 1) := by decide +kernel
theorem ef_21 (m : MethodId) (x0 : Int32) : entryFrame m #[(.int x0)] 1 = mkF m 0 #[iv x0] [] := by first | (simp [entryFrame, mkF, argsToLocals, Value.category]; done) | rfl
def Q24 (Z : State)  (h0 : Heap) (n0 : Nat) (v : Option Value) (h : Heap) (L : List Loc) : Prop := v = some (.int (164 : Int32)) ∧ Fr n0 L ∧ h = h0
set_option maxRecDepth 65536 in
set_option maxHeartbeats 40000000 in
theorem rm24 (l : Launch) (Z : State) (a0 : Array Value) (hw : ∀ d ∈ tables_1, d.before a0 Z = true) (ws : List Jvm.Cond)  (h0 : Heap) (n0 : Nat) (O0 : Old Z n0 h0) :
    MetFree l (⟨zs3, "newBytesLength", "(I)I"⟩ : MethodName) (head1 (Jvm.Cond.code (⟨zs3, "newBytesLength", "(I)I"⟩ : MethodName) jdk_52_method_3_code 1 (some .int) :: ws) ({ frames := 0, cells := 0, slots := 0, locals := 0 } : Room)) (fun a U => a = #[(.int (82 : Int32))] ∧ Z.Warmed39 U.vm ∧ U.heap = h0) (fun _ _ _ _ _ => True) (fun _ U o U' => ∃ v L, o = .returned v ∧ Q24 Z  h0 n0 v U'.heap L ∧ FrameEnd U o U' L ({ frames := 0, cells := 0, slots := 0, locals := 0 } : Room).cells ({ frames := 0, cells := 0, slots := 0, locals := 0 } : Room).slots) := by
  refine MetFree.of_bodySF (plainFor_of_name pn_2) hisR ?_
  intro p e s m args below meth c s₁ Bd hml0 hP hK
  obtain ⟨rfl, hZ, hh⟩ := hP
  have hx := Bd.exec
  have hby := Bd.bytes
  have hml : c.maxLocals = 1 := hml0
  have hown : s.vm.findClass zs3 = some m.cls := findClass_of_methodNamed Bd.named
  have hnm := (name_of_methodNamed Bd.named Bd.method).1
  have X0 : Stand p l e ({ frames := 0, cells := 0, slots := 0, locals := 0 } : Room) s m #[(.int (82 : Int32))] below meth c s₁ [] 0 0 := Stand.of_body Bd
  have e0 : s₁.heap = h0 := by rw [← hh, Bd.state]; rfl
  have N0 := Fr.nil n0
  refine own_out ?_
  refine own_via (fun t k => castTop (ef_21 m (82 : Int32)) (XS.iloadN X0.here hx rfl (hb hby d24_0) rfl (XS.ifYes X0.here hx rfl (pc0 := 1) (pc' := 12) rfl (hb hby d24_1) rfl ((if0 _ _).trans (flt (by decide : ¬ ((82 : Int32) < (0 : Int32)))).2.1) (by decide) (by decide) (XS.iloadN X0.here hx rfl (hb hby d24_12) rfl (X0.ldcInt hx hown (mvT hZ (wd hw 133 rfl)) (g := (mkF m 13 #[iv (82 : Int32)] [(.int (82 : Int32))])) rfl (hb hby d24_13) t (XS.icmpYes X0.here hx rfl (pc0 := 15) (pc' := 55) rfl (hb hby d24_15) rfl (tlt (by decide : (82 : Int32) < (1073741823 : Int32))).1 (by decide) (by decide) (XS.iloadN X0.here hx rfl (hb hby d24_55) rfl (XS.iconst X0.here hx rfl (hb hby d24_56) (XS.ishl X0.here hx rfl (hb hby d24_57) rfl k))))))))) ?_
  show own_Goes p e below (s₁.setTop (mkF m 58 #[iv (82 : Int32)] [(.int (164 : Int32))])) _
  obtain ⟨fs, hr, hrun, hended, hW, hsame⟩ := X0.leave (v := some (.int (164 : Int32))) (fun h => by rw [Bd.returns] at h; cases h)
  refine own_end (t := s₁.setFrames fs) ?_ ⟨_, hrun, hended, _, _, rfl, ?_, ⟨_, rfl⟩, hW, hsame.mono (by decide) (by decide)⟩
  · exact retI X0 hx Bd.returns (hb hby d24_58) hr
  · show Q24 Z  h0 n0 _ s₁.heap _
    rw [e0]
    exact ⟨rfl, N0, rfl⟩
theorem d23_4 : decode jdk_52_method_2_code 4 = .ok (.newarray .byte, 2) := by decide +kernel
theorem d23_6 : decode jdk_52_method_2_code 6 = .ok (.areturn, 1) := by decide +kernel
theorem ef_22 (m : MethodId) (x0 : Int32) : entryFrame m #[(.int x0)] 1 = mkF m 0 #[iv x0] [] := by first | (simp [entryFrame, mkF, argsToLocals, Value.category]; done) | rfl
def Q25 (Z : State)  (h0 : Heap) (n0 : Nat) (v : Option Value) (h : Heap) (L : List Loc) : Prop := (∃ (b2220 : Addr) (k2219 : ClassId), v = some (.ref b2220) ∧ Fr n0 L ∧ Keep h0 h [] ∧ h0.size ≤ b2220 ∧ Arv Z h b2220 k2219 .byte (164 : Int32) [] (.int (0 : Int32)) ∧ Exa Z h b2220 "[B")
set_option maxRecDepth 65536 in
set_option maxHeartbeats 40000000 in
theorem rm25 (l : Launch) (Z : State) (a0 : Array Value) (hw : ∀ d ∈ tables_1, d.before a0 Z = true) (ws : List Jvm.Cond)  (h0 : Heap) (n0 : Nat) (O0 : Old Z n0 h0) :
    MetFree l (⟨zs3, "newBytesFor", "(I)[B"⟩ : MethodName) (head1 (Jvm.Cond.code (⟨zs3, "newBytesFor", "(I)[B"⟩ : MethodName) jdk_52_method_2_code 1 (some (.array .byte)) :: ws) ({ frames := 1, cells := 1, slots := 164, locals := 12 } : Room)) (fun a U => a = #[(.int (82 : Int32))] ∧ Z.Warmed39 U.vm ∧ U.heap = h0) (fun _ _ _ _ _ => True) (fun _ U o U' => ∃ v L, o = .returned v ∧ Q25 Z  h0 n0 v U'.heap L ∧ FrameEnd U o U' L ({ frames := 1, cells := 1, slots := 164, locals := 12 } : Room).cells ({ frames := 1, cells := 1, slots := 164, locals := 12 } : Room).slots) := by
  refine MetFree.of_bodySF (plainFor_of_name pn_2) hisR ?_
  intro p e s m args below meth c s₁ Bd hml0 hP hK
  obtain ⟨rfl, hZ, hh⟩ := hP
  have hx := Bd.exec
  have hby := Bd.bytes
  have hml : c.maxLocals = 1 := hml0
  have hown : s.vm.findClass zs3 = some m.cls := findClass_of_methodNamed Bd.named
  have hnm := (name_of_methodNamed Bd.named Bd.method).1
  have X0 : Stand p l e ({ frames := 1, cells := 1, slots := 164, locals := 12 } : Room) s m #[(.int (82 : Int32))] below meth c s₁ [] 0 0 := Stand.of_body Bd
  have e0 : s₁.heap = h0 := by rw [← hh, Bd.state]; rfl
  have N0 := Fr.nil n0
  refine own_out ?_
  refine own_via (fun t k => castTop (ef_22 m (82 : Int32)) (XS.iloadN X0.here hx rfl (hb hby d23_0) rfl k)) ?_
  obtain ⟨_, T2156, _, X2156, hQ2156, st2156⟩ := own_cs X0 hx hZ hown (wd hw 130 rfl) (wd hw 131 rfl) (wd hw 132 rfl) (wd hw 25 rfl) (by decide) (rm24 l Z a0 hw []  h0 n0 O0 ) e0 (g := (mkF m 1 #[iv (82 : Int32)] [(.int (82 : Int32))])) rfl (by rw [hml]; rfl) (rest := []) (W := 0) (lenOf pd_16 rfl) rfl (by show 2 * 0 + _ ≤ _; exact Nat.le_of_eq rfl) (hb hby d23_1) (by decide) (by decide) (by decide) (by decide)
  obtain ⟨rfl, Nq2156, hh2218⟩ := hQ2156
  have N2156 := Fr.app N0 Nq2156
  refine own_via (fun t k => st2156 t k) ?_
  obtain ⟨T2219, h2219, k2219, X2219, e2219, E2219, A2219, a2219x, st2219⟩ := newPE X2156 hx hZ (wd hw 27 rfl) hh2218 (g := (mkF m 4 #[iv (82 : Int32)] [(.int (164 : Int32))])) rfl (hb hby d23_4) rfl (by decide) (cap := 164) (by decide) (by decide) (by decide) (by decide) (ad := "[B") (by decide)
  obtain ⟨b2220, q2219⟩ : ∃ z, z = h0.size := ⟨_, rfl⟩
  rw [← q2219] at A2219 st2219 a2219x
  refine own_via (fun t k => st2219 t k) ?_
  have g2221 : n0 ≤ b2220 := Nat.le_trans (own_old O0) (Nat.le_of_eq q2219.symm)
  have B2222 : h0.size ≤ b2220 := Nat.le_trans (Nat.le_refl _) (Nat.le_of_eq q2219.symm)
  have V2223 : Arv Z h2219 b2220 k2219 .byte (164 : Int32) [] (.int (0 : Int32)) := Arv.new A2219 (by decide)
  show own_Goes p e below (T2219.setTop (mkF m 6 #[iv (82 : Int32)] [(.ref b2220)])) _
  obtain ⟨fs, hr, hrun, hended, hW, hsame⟩ := X2219.leave (v := some (.ref b2220)) (fun h => by rw [Bd.returns] at h; cases h)
  refine own_end (t := T2219.setFrames fs) ?_ ⟨_, hrun, hended, _, _, rfl, ?_, ⟨_, rfl⟩, hW, hsame.mono (by decide) (by decide)⟩
  · jvm_step X2219.here [X2219.here.top, hx, (hb hby d23_6), X2219.method', Bd.returns, Value.isRef, FieldType.isReference]
    first | (intro acts; rw [hr _ acts rfl rfl rfl]) | rw [hr _ _ rfl rfl rfl]
    exact Steps.refl _
  · show Q25 Z  h0 n0 _ T2219.heap _
    rw [e2219]
    exact ⟨b2220, k2219, rfl, N2156, ((Keep.refl h0 []).ext E2219), B2222, V2223, a2219x⟩
theorem pd_18 : parseMethodDescriptor "(I)[B" = some ⟨[.int], some (.array .byte)⟩ := by decide +kernel
theorem d22_4 : decode jdk_52_method_14_code 4 = .ok (.astore_n 3, 1) := by decide +kernel
theorem d22_5 : decode jdk_52_method_14_code 5 = .ok (.iconst 0, 1) := by decide +kernel
theorem d22_6 : decode jdk_52_method_14_code 6 = .ok (.istore 4, 2) := by decide +kernel
theorem d22_8 : decode jdk_52_method_14_code 8 = .ok (.iload 4, 2) := by decide +kernel
theorem d22_10 : decode jdk_52_method_14_code 10 = .ok (.iload_n 2, 1) := by decide +kernel
theorem d22_11 : decode jdk_52_method_14_code 11 = .ok (.if_icmp .ge 21, 3) := by decide +kernel
theorem d22_32 : decode jdk_52_method_14_code 32 = .ok (.aload_n 3, 1) := by decide +kernel
theorem d22_33 : decode jdk_52_method_14_code 33 = .ok (.areturn, 1) := by decide +kernel
theorem ef_23 (m : MethodId) (x0 : Addr) (x1 : Int32) (x2 : Int32) : entryFrame m #[(.ref x0), (.int x1), (.int x2)] 5 = mkF m 0 #[rv x0, iv x1, iv x2, .unset, .unset] [] := by first | (simp [entryFrame, mkF, argsToLocals, Value.category]; done) | rfl
def Q26 (Z : State) (a2033 : Addr) (k2038 : ClassId) (f2037 : Nat → Int32) (h0 : Heap) (n0 : Nat) (v : Option Value) (h : Heap) (L : List Loc) : Prop := (∃ (b2224 : Addr) (k2225 : ClassId), v = some (.ref b2224) ∧ Fr n0 L ∧ Keep h0 h [] ∧ h0.size ≤ b2224 ∧ Arv Z h b2224 k2225 .byte (164 : Int32) (own_vs 164 (own_wt 82 f2037)) (.int (0 : Int32)) ∧ Exa Z h b2224 "[B")
set_option maxRecDepth 65536 in
set_option maxHeartbeats 40000000 in
theorem rm26 (l : Launch) (Z : State) (a0 : Array Value) (hw : ∀ d ∈ tables_1, d.before a0 Z = true) (ws : List Jvm.Cond) (a2033 : Addr) (k2038 : ClassId) (f2037 : Nat → Int32) (h0 : Heap) (n0 : Nat) (O0 : Old Z n0 h0) (pV_a2033 : Arv Z h0 a2033 k2038 .char (82 : Int32) (own_vs 82 f2037) (.int (0 : Int32))) (pE_a2033 : Exa Z h0 a2033 "[C") (S_StringUTF16__assertionsDisabled : Sta Z Z.heap zs3 zs12 "Z" (.int (1 : Int32))) (S_StringUTF16_HI_BYTE_SHIFT : Sta Z Z.heap zs3 zs15 "I" (.int (0 : Int32))) (S_StringUTF16_LO_BYTE_SHIFT : Sta Z Z.heap zs3 zs16 "I" (.int (8 : Int32))) :
    MetFree l (⟨zs3, "toBytes", "([CII)[B"⟩ : MethodName) (head1 (Jvm.Cond.code (⟨zs3, "toBytes", "([CII)[B"⟩ : MethodName) jdk_52_method_14_code 5 (some (.array .byte)) :: ws) ({ frames := 2, cells := 1, slots := 164, locals := 24 } : Room)) (fun a U => a = #[(.ref a2033), (.int (0 : Int32)), (.int (82 : Int32))] ∧ Z.Warmed39 U.vm ∧ U.heap = h0) (fun _ _ _ _ _ => True) (fun _ U o U' => ∃ v L, o = .returned v ∧ Q26 Z a2033 k2038 f2037 h0 n0 v U'.heap L ∧ FrameEnd U o U' L ({ frames := 2, cells := 1, slots := 164, locals := 24 } : Room).cells ({ frames := 2, cells := 1, slots := 164, locals := 24 } : Room).slots) := by
  refine MetFree.of_bodySF (plainFor_of_name pn_2) hisR ?_
  intro p e s m args below meth c s₁ Bd hml0 hP hK
  obtain ⟨rfl, hZ, hh⟩ := hP
  have hx := Bd.exec
  have hby := Bd.bytes
  have hml : c.maxLocals = 5 := hml0
  have hown : s.vm.findClass zs3 = some m.cls := findClass_of_methodNamed Bd.named
  have hnm := (name_of_methodNamed Bd.named Bd.method).1
  have X0 : Stand p l e ({ frames := 2, cells := 1, slots := 164, locals := 24 } : Room) s m #[(.ref a2033), (.int (0 : Int32)), (.int (82 : Int32))] below meth c s₁ [] 0 0 := Stand.of_body Bd
  have e0 : s₁.heap = h0 := by rw [← hh, Bd.state]; rfl
  have N0 := Fr.nil n0
  refine own_out ?_
  refine own_via (fun t k => castTop (ef_23 m a2033 (0 : Int32) (82 : Int32)) (XS.iloadN X0.here hx rfl (hb hby d22_0) rfl k)) ?_
  obtain ⟨_, T2094, _, X2094, hQ2094, st2094⟩ := own_cs X0 hx hZ hown (wd hw 127 rfl) (wd hw 128 rfl) (wd hw 129 rfl) (wd hw 25 rfl) (by decide) (rm25 l Z a0 hw []  h0 n0 O0 ) e0 (g := (mkF m 1 #[rv a2033, iv (0 : Int32), iv (82 : Int32), .unset, .unset] [(.int (82 : Int32))])) rfl (by rw [hml]; rfl) (rest := []) (W := 0) (lenOf pd_18 rfl) rfl (by show 2 * 0 + _ ≤ _; exact Nat.le_of_eq rfl) (hb hby d22_1) (by decide) (by decide) (by decide) (by decide)
  obtain ⟨h2094, e2094⟩ : ∃ z, T2094.heap = z := ⟨_, rfl⟩
  rw [e2094] at hQ2094
  obtain ⟨b2224, k2225, rfl, Nq2094, K2094, bx2226, vx2227, ex2228⟩ := hQ2094
  have N2094 := Fr.app N0 Nq2094
  have g2229 : n0 ≤ b2224 := Nat.le_trans (own_old O0) bx2226
  have B2230 : h0.size ≤ b2224 := Nat.le_trans (Nat.le_refl _) bx2226
  refine own_via (fun t k => st2094 t (XS.astoreN X2094.here hx rfl (hb hby d22_4) rfl rfl (l' := #[rv a2033, iv (0 : Int32), iv (82 : Int32), rv b2224, .unset]) rfl (XS.iconst X2094.here hx rfl (hb hby d22_5) (XS.istore X2094.here hx rfl (hb hby d22_6) rfl (l' := #[rv a2033, iv (0 : Int32), iv (82 : Int32), rv b2224, iv (0 : Int32)]) rfl k)))) ?_
  show own_Goes p e below (T2094.setTop (mkF m 8 #[rv a2033, iv (0 : Int32), iv (82 : Int32), rv b2224, iv (0 : Int32)] [])) _
  have V2231 : Arv Z h2094 b2224 k2225 .byte (164 : Int32) (own_vs 164 (own_wt 0 f2037)) (.int (0 : Int32)) := own_z_new vx2227 (own_wt_zero f2037)
  have V2232 : Arv Z h2094 a2033 k2038 .char (82 : Int32) (own_vs 82 f2037) (.int (0 : Int32)) := (pV_a2033.keep K2094 nin0)
  have O2234 : Old Z n0 h2094 := (O0.keep K2094 all0)
  obtain ⟨T2233, h2233, L2233, X2233, e2233, N2233, K2233, -, V2233, st2233⟩ := own_lpT (a := a2033) (b := b2224) (f := f2037) hx hZ hown hw hby hml g2229 (Nat.ne_of_lt (Nat.lt_of_lt_of_le pE_a2033.lt B2230)) (fun h g k x hk O B => own_rmP l Z a0 hw [] g2229 S_StringUTF16__assertionsDisabled S_StringUTF16_HI_BYTE_SHIFT S_StringUTF16_LO_BYTE_SHIFT h g k x hk O B) (by decide) (by decide) (by decide) (by decide) 82 0 T2094 h2094 _ rfl X2094 e2094 N2094 O2234 V2232 V2231
  refine own_via (fun t k => st2233 t (XS.iload X2233.here hx rfl (hb hby d22_8) rfl (XS.iloadN X2233.here hx rfl (hb hby d22_10) rfl (XS.icmpYes X2233.here hx rfl (pc0 := 11) (pc' := 32) rfl (hb hby d22_11) rfl (flt (by decide : ¬ ((82 : Int32) < (82 : Int32)))).2.1 (by decide) (by decide) (XS.aloadN X2233.here hx rfl (hb hby d22_32) rfl rfl k))))) ?_
  show own_Goes p e below (T2233.setTop (mkF m 33 #[rv a2033, iv (82 : Int32), iv (82 : Int32), rv b2224, iv (82 : Int32)] [(.ref b2224)])) _
  obtain ⟨fs, hr, hrun, hended, hW, hsame⟩ := X2233.leave (v := some (.ref b2224)) (fun h => by rw [Bd.returns] at h; cases h)
  refine own_end (t := T2233.setFrames fs) ?_ ⟨_, hrun, hended, _, _, rfl, ?_, ⟨_, rfl⟩, hW, hsame.mono (by decide) (by decide)⟩
  · jvm_step X2233.here [X2233.here.top, hx, (hb hby d22_33), X2233.method', Bd.returns, Value.isRef, FieldType.isReference]
    first | (intro acts; rw [hr _ acts rfl rfl rfl]) | rw [hr _ _ rfl rfl rfl]
    exact Steps.refl _
  have E2235 : Exa Z h2233 b2224 "[B" := (ex2228.keep K2233)
  · show Q26 Z a2033 k2038 f2037 h0 n0 _ T2233.heap _
    rw [e2233]
    exact ⟨b2224, k2225, rfl, N2233, (((Keep.refl h0 []).trans K2094 all0).trans K2233 (allS (Or.inr B2230) all0)), B2230, V2233, E2235⟩
theorem d5_26 : decode jdk_52_method_16_code 26 = .ok (.astore 5, 2) := by decide +kernel
theorem d5_28 : decode jdk_52_method_16_code 28 = .ok (.aload 5, 2) := by decide +kernel
theorem d5_30 : decode jdk_52_method_16_code 30 = .ok (.iload 4, 2) := by decide +kernel
theorem d5_32 : decode jdk_52_method_16_code 32 = .ok (.invokestatic 71, 3) := by decide +kernel
theorem d5_35 : decode jdk_52_method_16_code 35 = .ok (.sipush 255, 3) := by decide +kernel
theorem d5_38 : decode jdk_52_method_16_code 38 = .ok (.if_icmp .gt 16, 3) := by decide +kernel
theorem d5_54 : decode jdk_52_method_16_code 54 = .ok (.aload 5, 2) := by decide +kernel
theorem d5_56 : decode jdk_52_method_16_code 56 = .ok (.areturn, 1) := by decide +kernel
def Q27 (Z : State) (a1893 : Addr) (f1897 : Nat → Int32) (k1898 : ClassId) (h0 : Heap) (n0 : Nat) (v : Option Value) (h : Heap) (L : List Loc) : Prop := (∃ (b2239 : Addr) (k2240 : ClassId), v = some (.ref b2239) ∧ Fr n0 L ∧ Keep h0 h [] ∧ h0.size ≤ b2239 ∧ Arv Z h b2239 k2240 .byte (164 : Int32) (own_vs 164 (own_wt 82 f1897)) (.int (0 : Int32)) ∧ Exa Z h b2239 "[B")
set_option maxRecDepth 65536 in
set_option maxHeartbeats 40000000 in
theorem rm27 (l : Launch) (Z : State) (a0 : Array Value) (hw : ∀ d ∈ tables_1, d.before a0 Z = true) (ws : List Jvm.Cond) (a1893 : Addr) (f1897 : Nat → Int32) (k1898 : ClassId) (h0 : Heap) (n0 : Nat) (O0 : Old Z n0 h0) (pC1949 : own_okF f1897) (pV_a1893 : Arv Z h0 a1893 k1898 .char (82 : Int32) (own_vs 82 f1897) (.int (0 : Int32))) (pC1951 : (255 : Int32) < (f1897 81)) (pE_a1893 : Exa Z h0 a1893 "[C") (S_StringUTF16__assertionsDisabled : Sta Z Z.heap zs3 zs12 "Z" (.int (1 : Int32))) (S_StringUTF16_HI_BYTE_SHIFT : Sta Z Z.heap zs3 zs15 "I" (.int (0 : Int32))) (S_StringUTF16_LO_BYTE_SHIFT : Sta Z Z.heap zs3 zs16 "I" (.int (8 : Int32))) (pC1950 : nar .char (f1897 81) = (f1897 81)) :
    MetFree l (⟨zs3, "compress", "([CII)[B"⟩ : MethodName) (head1 (Jvm.Cond.code (⟨zs3, "compress", "([CII)[B"⟩ : MethodName) jdk_52_method_16_code 6 (some (.array .byte)) :: ws) ({ frames := 3, cells := 2, slots := 246, locals := 40 } : Room)) (fun a U => a = #[(.ref a1893), (.int (0 : Int32)), (.int (82 : Int32))] ∧ Z.Warmed39 U.vm ∧ U.heap = h0) (fun _ _ _ _ _ => True) (fun _ U o U' => ∃ v L, o = .returned v ∧ Q27 Z a1893 f1897 k1898 h0 n0 v U'.heap L ∧ FrameEnd U o U' L ({ frames := 3, cells := 2, slots := 246, locals := 40 } : Room).cells ({ frames := 3, cells := 2, slots := 246, locals := 40 } : Room).slots) := by
  refine MetFree.of_bodySF (plainFor_of_name pn_2) hisR ?_
  intro p e s m args below meth c s₁ Bd hml0 hP hK
  obtain ⟨rfl, hZ, hh⟩ := hP
  have hx := Bd.exec
  have hby := Bd.bytes
  have hml : c.maxLocals = 6 := hml0
  have hown : s.vm.findClass zs3 = some m.cls := findClass_of_methodNamed Bd.named
  have hnm := (name_of_methodNamed Bd.named Bd.method).1
  have X0 : Stand p l e ({ frames := 3, cells := 2, slots := 246, locals := 40 } : Room) s m #[(.ref a1893), (.int (0 : Int32)), (.int (82 : Int32))] below meth c s₁ [] 0 0 := Stand.of_body Bd
  have e0 : s₁.heap = h0 := by rw [← hh, Bd.state]; rfl
  have N0 := Fr.nil n0
  refine own_out ?_
  refine own_via (fun t k => castTop (ef_3 m a1893 (0 : Int32) (82 : Int32)) (XS.iloadN X0.here hx rfl (hb hby d5_0) rfl k)) ?_
  obtain ⟨T1952, h1952, k1952, X1952, e1952, E1952, A1952, a1952x, st1952⟩ := newPE X0 hx hZ (wd hw 27 rfl) e0 (g := (mkF m 1 #[rv a1893, iv (0 : Int32), iv (82 : Int32), .unset, .unset, .unset] [(.int (82 : Int32))])) rfl (hb hby d5_1) rfl (by decide) (cap := 82) (by decide) (by decide) (by decide) (by decide) (ad := "[B") (by decide)
  obtain ⟨b1953, q1952⟩ : ∃ z, z = h0.size := ⟨_, rfl⟩
  rw [← q1952] at A1952 st1952 a1952x
  refine own_via (fun t k => st1952 t k) ?_
  have g1954 : n0 ≤ b1953 := Nat.le_trans (own_old O0) (Nat.le_of_eq q1952.symm)
  have B1955 : h0.size ≤ b1953 := Nat.le_trans (Nat.le_refl _) (Nat.le_of_eq q1952.symm)
  have V1956 : Arv Z h1952 b1953 k1952 .byte (82 : Int32) [] (.int (0 : Int32)) := Arv.new A1952 (by decide)
  show own_Goes p e below (T1952.setTop (mkF m 3 #[rv a1893, iv (0 : Int32), iv (82 : Int32), .unset, .unset, .unset] [(.ref b1953)])) _
  refine own_via (fun t k => XS.astoreN X1952.here hx rfl (hb hby d5_3) rfl rfl (l' := #[rv a1893, iv (0 : Int32), iv (82 : Int32), rv b1953, .unset, .unset]) rfl (XS.aloadN X1952.here hx rfl (hb hby d5_4) rfl rfl (XS.iloadN X1952.here hx rfl (hb hby d5_5) rfl (XS.aloadN X1952.here hx rfl (hb hby d5_6) rfl rfl (XS.iconst X1952.here hx rfl (hb hby d5_7) (XS.iloadN X1952.here hx rfl (hb hby d5_8) rfl k)))))) ?_
  show own_Goes p e below (T1952.setTop (mkF m 9 #[rv a1893, iv (0 : Int32), iv (82 : Int32), rv b1953, .unset, .unset] [(.int (82 : Int32)), (.int (0 : Int32)), (.ref b1953), (.int (0 : Int32)), (.ref a1893)])) _
  have V2028 : Arv Z h1952 a1893 k1898 .char (82 : Int32) (own_vs 82 f1897) (.int (0 : Int32)) := (pV_a1893.ext E1952)
  have O2029 : Old Z n0 h1952 := (O0.ext E1952)
  obtain ⟨_, T1957, _, X1957, hQ1957, st1957⟩ := own_cs X1952 hx hZ hown (wd hw 28 rfl) (wd hw 29 rfl) (wd hw 30 rfl) (wd hw 25 rfl) (by decide) (rm23 l Z a0 hw [] a1893 b1953 f1897 k1952 k1898 h1952 n0 O2029 pC1949 V1956 V2028 g1954 pC1951 a1952x) e1952 (g := (mkF m 9 #[rv a1893, iv (0 : Int32), iv (82 : Int32), rv b1953, .unset, .unset] [(.int (82 : Int32)), (.int (0 : Int32)), (.ref b1953), (.int (0 : Int32)), (.ref a1893)])) rfl (by rw [hml]; rfl) (rest := []) (W := 0) (lenOf pd_2 rfl) rfl (by show 2 * 0 + _ ≤ _; exact Nat.le_of_eq rfl) (hb hby d5_9) (by decide) (by decide) (by decide) (by decide)
  obtain ⟨h1957, e1957⟩ : ∃ z, T1957.heap = z := ⟨_, rfl⟩
  rw [e1957] at hQ1957
  obtain ⟨rfl, Nq1957, K1957, vx2030, ex2031⟩ := hQ1957
  have N1957 := Fr.app N0 Nq1957
  refine own_via (fun t k => st1957 t (XS.istore X1957.here hx rfl (hb hby d5_12) rfl (l' := #[rv a1893, iv (0 : Int32), iv (82 : Int32), rv b1953, iv (81 : Int32), .unset]) rfl (XS.iload X1957.here hx rfl (hb hby d5_14) rfl (XS.iloadN X1957.here hx rfl (hb hby d5_16) rfl (XS.icmpNo X1957.here hx rfl (hb hby d5_17) rfl (feq (by decide : ¬ ((81 : Int32) = (82 : Int32)))).1 (XS.aloadN X1957.here hx rfl (hb hby d5_20) rfl rfl (XS.iloadN X1957.here hx rfl (hb hby d5_21) rfl (XS.iloadN X1957.here hx rfl (hb hby d5_22) rfl k)))))))) ?_
  show own_Goes p e below (T1957.setTop (mkF m 23 #[rv a1893, iv (0 : Int32), iv (82 : Int32), rv b1953, iv (81 : Int32), .unset] [(.int (82 : Int32)), (.int (0 : Int32)), (.ref a1893)])) _
  have V2236 : Arv Z h1957 a1893 k1898 .char (82 : Int32) (own_vs 82 f1897) (.int (0 : Int32)) := (V2028.keep K1957 (ninS (Nat.ne_of_lt (Nat.lt_of_lt_of_le pE_a1893.lt B1955)) nin0))
  have E2237 : Exa Z h1957 a1893 "[C" := ((pE_a1893.ext E1952).keep K1957)
  have O2238 : Old Z n0 h1957 := (O2029.keep K1957 (allS g1954 all0))
  obtain ⟨_, T2032, _, X2032, hQ2032, st2032⟩ := own_cs X1957 hx hZ hown (wd hw 124 rfl) (wd hw 125 rfl) (wd hw 126 rfl) (wd hw 25 rfl) (by decide) (rm26 l Z a0 hw [] a1893 k1898 f1897 h1957 n0 O2238 V2236 E2237 S_StringUTF16__assertionsDisabled S_StringUTF16_HI_BYTE_SHIFT S_StringUTF16_LO_BYTE_SHIFT) e1957 (g := (mkF m 23 #[rv a1893, iv (0 : Int32), iv (82 : Int32), rv b1953, iv (81 : Int32), .unset] [(.int (82 : Int32)), (.int (0 : Int32)), (.ref a1893)])) rfl (by rw [hml]; rfl) (rest := []) (W := 0) (lenOf pd_3 rfl) rfl (by show 2 * 0 + _ ≤ _; exact Nat.le_of_eq rfl) (hb hby d5_23) (by decide) (by decide) (by decide) (by decide)
  obtain ⟨h2032, e2032⟩ : ∃ z, T2032.heap = z := ⟨_, rfl⟩
  rw [e2032] at hQ2032
  obtain ⟨b2239, k2240, rfl, Nq2032, K2032, bx2241, vx2242, ex2243⟩ := hQ2032
  have N2032 := Fr.app N1957 Nq2032
  have N2244 : b1953 ≠ b2239 := Nat.ne_of_lt (Nat.lt_of_lt_of_le ex2031.lt bx2241)
  have g2245 : n0 ≤ b2239 := Nat.le_trans (own_old O2238) bx2241
  have Z2247 : h0.size ≤ h1957.size := (Nat.le_trans (Nat.le_trans (Nat.le_refl _) E1952.1) K1957.1)
  have B2246 : h0.size ≤ b2239 := Nat.le_trans Z2247 bx2241
  refine own_via (fun t k => st2032 t (XS.astore X2032.here hx rfl (hb hby d5_26) rfl rfl (l' := #[rv a1893, iv (0 : Int32), iv (82 : Int32), rv b1953, iv (81 : Int32), rv b2239]) rfl (XS.aload X2032.here hx rfl (hb hby d5_28) rfl rfl (XS.iload X2032.here hx rfl (hb hby d5_30) rfl k)))) ?_
  show own_Goes p e below (T2032.setTop (mkF m 32 #[rv a1893, iv (0 : Int32), iv (82 : Int32), rv b1953, iv (81 : Int32), rv b2239] [(.int (81 : Int32)), (.ref b2239)])) _
  have O2249 : Old Z n0 h2032 := (O2238.keep K2032 all0)
  obtain ⟨_, T2248, L2248, X2248, ⟨rfl, Nq2248, e2248⟩, st2248⟩ := own_cs (rm := own_r0) (Q := own_QC n0 (f1897 81) h2032) (argsL := [(.ref b2239), (.int (81 : Int32))]) X2032 hx hZ hown (wd hw 140 rfl) (wd hw 141 rfl) (wd hw 142 rfl) (wd hw 25 rfl) (by decide) (own_recast (own_gcw (f := f1897) (k := 81) (by decide) pC1950) (own_rmG l Z a0 hw [] S_StringUTF16__assertionsDisabled S_StringUTF16_HI_BYTE_SHIFT S_StringUTF16_LO_BYTE_SHIFT h2032 _ 81 (by decide) O2249 vx2242)) e2032 (g := (mkF m 32 #[rv a1893, iv (0 : Int32), iv (82 : Int32), rv b1953, iv (81 : Int32), rv b2239] [(.int (81 : Int32)), (.ref b2239)])) rfl (by rw [hml]; rfl) (rest := []) (W := 0) (lenOf pd_11 rfl) rfl (by show 2 * 0 + _ ≤ _; exact Nat.le_of_eq rfl) (hb hby d5_32) (by decide) (by decide) (by decide) (by decide)
  have N2248 := Fr.app N2032 Nq2248
  refine own_via (fun t k => st2248 t (XS.sipush X2248.here hx rfl (hb hby d5_35) (XS.icmpYes X2248.here hx rfl (pc0 := 38) (pc' := 54) rfl (hb hby d5_38) rfl (tlt pC1951).2.2.1 (by decide) (by decide) (XS.aload X2248.here hx rfl (hb hby d5_54) rfl rfl k)))) ?_
  show own_Goes p e below (T2248.setTop (mkF m 56 #[rv a1893, iv (0 : Int32), iv (82 : Int32), rv b1953, iv (81 : Int32), rv b2239] [(.ref b2239)])) _
  obtain ⟨fs, hr, hrun, hended, hW, hsame⟩ := X2248.leave (v := some (.ref b2239)) (fun h => by rw [Bd.returns] at h; cases h)
  refine own_end (t := T2248.setFrames fs) ?_ ⟨_, hrun, hended, _, _, rfl, ?_, ⟨_, rfl⟩, hW, hsame.mono (by decide) (by decide)⟩
  · jvm_step X2248.here [X2248.here.top, hx, (hb hby d5_56), X2248.method', Bd.returns, Value.isRef, FieldType.isReference]
    first | (intro acts; rw [hr _ acts rfl rfl rfl]) | rw [hr _ _ rfl rfl rfl]
    exact Steps.refl _
  · show Q27 Z a1893 f1897 k1898 h0 n0 _ T2248.heap _
    rw [e2248]
    exact ⟨b2239, k2240, rfl, N2248, ((((Keep.refl h0 []).ext E1952).trans K1957 (allS (Or.inr B1955) all0)).trans K2032 all0), B2246, vx2242, ex2243⟩
def Q28 (Z : State) (a2258 : Addr) (h0 : Heap) (n0 : Nat) (v : Option Value) (h : Heap) (L : List Loc) : Prop := v = some (.int (1 : Int32)) ∧ Fr n0 L ∧ h = h0
set_option maxRecDepth 65536 in
set_option maxHeartbeats 40000000 in
theorem rm28 (l : Launch) (Z : State) (a0 : Array Value) (hw : ∀ d ∈ tables_1, d.before a0 Z = true) (ws : List Jvm.Cond) (a2258 : Addr) (h0 : Heap) (n0 : Nat) (O0 : Old Z n0 h0) (pL_a2258 : own_Len Z h0 a2258 .byte (164 : Int32)) :
    MetFree l (⟨zs3, zs19, "([BI)B"⟩ : MethodName) (head1 (Jvm.Cond.code (⟨zs3, zs19, "([BI)B"⟩ : MethodName) jdk_52_method_15_code 2 (some .byte) :: ws) ({ frames := 0, cells := 0, slots := 0, locals := 0 } : Room)) (fun a U => a = #[(.ref a2258), (.int (82 : Int32))] ∧ Z.Warmed39 U.vm ∧ U.heap = h0) (fun _ _ _ _ _ => True) (fun _ U o U' => ∃ v L, o = .returned v ∧ Q28 Z a2258 h0 n0 v U'.heap L ∧ FrameEnd U o U' L ({ frames := 0, cells := 0, slots := 0, locals := 0 } : Room).cells ({ frames := 0, cells := 0, slots := 0, locals := 0 } : Room).slots) := by
  refine MetFree.of_bodySF (plainFor_of_name pn_2) hisR ?_
  intro p e s m args below meth c s₁ Bd hml0 hP hK
  obtain ⟨rfl, hZ, hh⟩ := hP
  have hx := Bd.exec
  have hby := Bd.bytes
  have hml : c.maxLocals = 2 := hml0
  have hown : s.vm.findClass zs3 = some m.cls := findClass_of_methodNamed Bd.named
  have hnm := (name_of_methodNamed Bd.named Bd.method).1
  have X0 : Stand p l e ({ frames := 0, cells := 0, slots := 0, locals := 0 } : Room) s m #[(.ref a2258), (.int (82 : Int32))] below meth c s₁ [] 0 0 := Stand.of_body Bd
  have e0 : s₁.heap = h0 := by rw [← hh, Bd.state]; rfl
  have N0 := Fr.nil n0
  refine own_out ?_
  refine own_via (fun t k => castTop (ef_4 m a2258 (82 : Int32)) (XS.iloadN X0.here hx rfl (hb hby d7_0) rfl (XS.aloadN X0.here hx rfl (hb hby d7_1) rfl rfl k))) ?_
  show own_Goes p e below (s₁.setTop (mkF m 2 #[rv a2258, iv (82 : Int32)] [(.ref a2258), (.int (82 : Int32))])) _
  obtain ⟨_, _, _, V2319⟩ := id (pL_a2258)
  obtain ⟨cl2319, Ar2319, -, S2319, M2319, -, -⟩ := id (V2319)
  refine own_via (fun t k => X0.arraylength hx (by rw [e0]; exact Ar2319.1) (State.isArrayOf_alike hZ.alike Ar2319.2.1) (g := (mkF m 2 #[rv a2258, iv (82 : Int32)] [(.ref a2258), (.int (82 : Int32))])) rfl rfl (hb hby d7_2) t k) ?_
  rw [len_of S2319 M2319]
  show own_Goes p e below (s₁.setTop (mkF m 3 #[rv a2258, iv (82 : Int32)] [(.int (164 : Int32)), (.int (82 : Int32))])) _
  refine own_via (fun t k => XS.isub X0.here hx rfl (hb hby d7_3) rfl (XS.bipush X0.here hx rfl (hb hby d7_4) (XS.iushr X0.here hx rfl (hb hby d7_6) rfl (XS.i2b X0.here hx rfl (hb hby d7_7) rfl k)))) ?_
  show own_Goes p e below (s₁.setTop (mkF m 8 #[rv a2258, iv (82 : Int32)] [(.int (1 : Int32))])) _
  obtain ⟨fs, hr, hrun, hended, hW, hsame⟩ := X0.leave (v := some (.int (1 : Int32))) (fun h => by rw [Bd.returns] at h; cases h)
  refine own_end (t := s₁.setFrames fs) ?_ ⟨_, hrun, hended, _, _, rfl, ?_, ⟨_, rfl⟩, hW, hsame.mono (by decide) (by decide)⟩
  · exact retN X0 hx (t := .byte) Bd.returns (by simp) (hb hby d7_8) hr
  · show Q28 Z a2258 h0 n0 _ s₁.heap _
    rw [e0]
    exact ⟨rfl, N0, rfl⟩
def Q29 (Z : State) (a1831 : Addr) (a1832 : Addr) (i43 : Int32) (f1836 : Nat → Int32) (k1837 : ClassId) (p1838 : Int32) (h0 : Heap) (n0 : Nat) (v : Option Value) (h : Heap) (L : List Loc) : Prop := (∃ (b2250 : Addr) (k2251 : ClassId), v = none ∧ Fr n0 L ∧ Keep h0 h [a1831] ∧ Exa Z h a1831 zs1 ∧ Fld Z h a1831 zs1 "coder" "B" (.int (1 : Int32)) ∧ Fld Z h a1831 zs1 "value" "[B" (.ref b2250) ∧ h0.size ≤ b2250 ∧ Arv Z h b2250 k2251 .byte (164 : Int32) (own_vs 164 (own_wt 82 f1836)) (.int (0 : Int32)) ∧ Exa Z h b2250 "[B")
set_option maxRecDepth 65536 in
set_option maxHeartbeats 40000000 in
theorem rm29 (l : Launch) (Z : State) (a0 : Array Value) (hw : ∀ d ∈ tables_1, d.before a0 Z = true) (ws : List Jvm.Cond) (a1831 : Addr) (a1832 : Addr) (i43 : Int32) (f1836 : Nat → Int32) (k1837 : ClassId) (p1838 : Int32) (h0 : Heap) (n0 : Nat) (O0 : Old Z n0 h0) (S_String_COMPACT_STRINGS : Sta Z Z.heap zs1 zs11 "Z" (.int i43)) (pC1839 : ¬ (i43 = (0 : Int32))) (pC1887 : own_okF f1836) (pV_a1832 : Arv Z h0 a1832 k1837 .char (82 : Int32) (own_vs 82 f1836) (.int (0 : Int32))) (pC1889 : (255 : Int32) < (f1836 81)) (pE_a1832 : Exa Z h0 a1832 "[C") (S_StringUTF16__assertionsDisabled : Sta Z Z.heap zs3 zs12 "Z" (.int (1 : Int32))) (S_StringUTF16_HI_BYTE_SHIFT : Sta Z Z.heap zs3 zs15 "I" (.int (0 : Int32))) (S_StringUTF16_LO_BYTE_SHIFT : Sta Z Z.heap zs3 zs16 "I" (.int (8 : Int32))) (pC1888 : nar .char (f1836 81) = (f1836 81)) (pF_a1831_coder : Fld Z h0 a1831 zs1 "coder" "B" (.int p1838)) (pE_a1831 : Exa Z h0 a1831 zs1) (pG_a1831 : n0 ≤ a1831) (pF_a1831_value : Fld Z h0 a1831 zs1 "value" "[B" .null) :
    MetFree l (⟨zs1, "<init>", zs17⟩ : MethodName) (head1 (Jvm.Cond.code (⟨zs1, "<init>", zs17⟩ : MethodName) jdk_42_method_149_code 6 none :: ws) ({ frames := 4, cells := 2, slots := 246, locals := 57 } : Room)) (fun a U => a = #[(.ref a1831), (.ref a1832), (.int (0 : Int32)), (.int (82 : Int32)), .null] ∧ Z.Warmed39 U.vm ∧ U.heap = h0) (fun _ _ _ _ _ => True) (fun _ U o U' => ∃ v L, o = .returned v ∧ Q29 Z a1831 a1832 i43 f1836 k1837 p1838 h0 n0 v U'.heap L ∧ FrameEnd U o U' L ({ frames := 4, cells := 2, slots := 246, locals := 57 } : Room).cells ({ frames := 4, cells := 2, slots := 246, locals := 57 } : Room).slots) := by
  refine MetFree.of_bodySF (plainFor_of_name pn_3) hisR ?_
  intro p e s m args below meth c s₁ Bd hml0 hP hK
  obtain ⟨rfl, hZ, hh⟩ := hP
  have hx := Bd.exec
  have hby := Bd.bytes
  have hml : c.maxLocals = 6 := hml0
  have hown : s.vm.findClass zs1 = some m.cls := findClass_of_methodNamed Bd.named
  have hnm := (name_of_methodNamed Bd.named Bd.method).1
  have X0 : Stand p l e ({ frames := 4, cells := 2, slots := 246, locals := 57 } : Room) s m #[(.ref a1831), (.ref a1832), (.int (0 : Int32)), (.int (82 : Int32)), .null] below meth c s₁ [] 0 0 := Stand.of_body Bd
  have e0 : s₁.heap = h0 := by rw [← hh, Bd.state]; rfl
  have N0 := Fr.nil n0
  refine own_out ?_
  refine own_via (fun t k => castTop (ef_5 m a1831 a1832 (0 : Int32) (82 : Int32)) (XS.aloadN X0.here hx rfl (hb hby d3_0) rfl rfl k)) ?_
  obtain ⟨T1890, X1890, e1890, st1890⟩ := initO X0 hx hZ hown (wd hw 19 rfl) (wd hw 20 rfl) (wd hw 21 rfl) e0 (g := (mkF m 1 #[rv a1831, rv a1832, iv (0 : Int32), iv (82 : Int32), .val .null, .unset] [(.ref a1831)])) rfl (by rw [hml]; rfl) rfl (hb hby d3_1) (by decide) (W := 0) (by show 2 * 0 + _ ≤ _; exact Nat.le_of_eq rfl) (by decide)
  refine own_via (fun t k => st1890 t (XS.iloadN X1890.here hx rfl (hb hby d3_4) rfl (XS.ifYes X1890.here hx rfl (pc0 := 5) (pc' := 27) rfl (hb hby d3_5) rfl ((if0 _ _).trans (feq (by decide : ¬ ((82 : Int32) = (0 : Int32)))).2) (by decide) (by decide) k))) ?_
  show own_Goes p e below (T1890.setTop (mkF m 27 #[rv a1831, rv a1832, iv (0 : Int32), iv (82 : Int32), .val .null, .unset] [])) _
  obtain ⟨T1891, X1891, e1891, st1891⟩ := getS2 X1890 hx hZ hown (host := "") (Or.inl (wd hw 22 rfl)) Via.refl e1890 (S_String_COMPACT_STRINGS.ext O0.2) (g := (mkF m 27 #[rv a1831, rv a1832, iv (0 : Int32), iv (82 : Int32), .val .null, .unset] [])) rfl (hb hby d3_27)
  refine own_via (fun t k => st1891 t (XS.ifNo X1891.here hx rfl (hb hby d3_30) rfl ((if0 _ _).trans (feq pC1839).1) (XS.aloadN X1891.here hx rfl (hb hby d3_33) rfl rfl (XS.iloadN X1891.here hx rfl (hb hby d3_34) rfl (XS.iloadN X1891.here hx rfl (hb hby d3_35) rfl k))))) ?_
  show own_Goes p e below (T1891.setTop (mkF m 36 #[rv a1831, rv a1832, iv (0 : Int32), iv (82 : Int32), .val .null, .unset] [(.int (82 : Int32)), (.int (0 : Int32)), (.ref a1832)])) _
  obtain ⟨_, T1892, _, X1892, hQ1892, st1892⟩ := own_cs X1891 hx hZ hown (wd hw 23 rfl) (wd hw 24 rfl) (wd hw 26 rfl) (wd hw 25 rfl) (by decide) (rm27 l Z a0 hw [] a1832 f1836 k1837 h0 n0 O0 pC1887 pV_a1832 pC1889 pE_a1832 S_StringUTF16__assertionsDisabled S_StringUTF16_HI_BYTE_SHIFT S_StringUTF16_LO_BYTE_SHIFT pC1888) e1891 (g := (mkF m 36 #[rv a1831, rv a1832, iv (0 : Int32), iv (82 : Int32), .val .null, .unset] [(.int (82 : Int32)), (.int (0 : Int32)), (.ref a1832)])) rfl (by rw [hml]; rfl) (rest := []) (W := 0) (lenOf pd_3 rfl) rfl (by show 2 * 0 + _ ≤ _; exact Nat.le_of_eq rfl) (hb hby d3_36) (by decide) (by decide) (by decide) (by decide)
  obtain ⟨h1892, e1892⟩ : ∃ z, T1892.heap = z := ⟨_, rfl⟩
  rw [e1892] at hQ1892
  obtain ⟨b2250, k2251, rfl, Nq1892, K1892, bx2252, vx2253, ex2254⟩ := hQ1892
  have N1892 := Fr.app N0 Nq1892
  have g2255 : n0 ≤ b2250 := Nat.le_trans (own_old O0) bx2252
  have B2256 : h0.size ≤ b2250 := Nat.le_trans (Nat.le_refl _) bx2252
  refine own_via (fun t k => st1892 t (XS.astore X1892.here hx rfl (hb hby d3_39) rfl rfl (l' := #[rv a1831, rv a1832, iv (0 : Int32), iv (82 : Int32), .val .null, rv b2250]) rfl (XS.aloadN X1892.here hx rfl (hb hby d3_41) rfl rfl (XS.aload X1892.here hx rfl (hb hby d3_42) rfl rfl (XS.iloadN X1892.here hx rfl (hb hby d3_44) rfl k))))) ?_
  show own_Goes p e below (T1892.setTop (mkF m 45 #[rv a1831, rv a1832, iv (0 : Int32), iv (82 : Int32), .val .null, rv b2250] [(.int (82 : Int32)), (.ref b2250), (.ref a1831)])) _
  have l2320 : own_Len Z h1892 b2250 .byte (164 : Int32) := ⟨_, _, _, vx2253⟩
  have O2321 : Old Z n0 h1892 := (O0.keep K1892 all0)
  obtain ⟨_, T2257, _, X2257, hQ2257, st2257⟩ := own_cs X1892 hx hZ hown (wd hw 31 rfl) (wd hw 32 rfl) (wd hw 33 rfl) (wd hw 25 rfl) (by decide) (rm28 l Z a0 hw [] b2250 h1892 n0 O2321 l2320) e1892 (g := (mkF m 45 #[rv a1831, rv a1832, iv (0 : Int32), iv (82 : Int32), .val .null, rv b2250] [(.int (82 : Int32)), (.ref b2250), (.ref a1831)])) rfl (by rw [hml]; rfl) (rest := [(.ref a1831)]) (W := 1) (lenOf pd_4 rfl) rfl (by show 2 * 0 + _ ≤ _; exact Nat.le_of_eq rfl) (hb hby d3_45) (by decide) (by decide) (by decide) (by decide)
  obtain ⟨rfl, Nq2257, hh2322⟩ := hQ2257
  have N2257 := Fr.app N1892 Nq2257
  refine own_via (fun t k => st2257 t k) ?_
  have F2323 : Fld Z h1892 a1831 zs1 "coder" "B" (.int p1838) := (pF_a1831_coder.keep K1892 nin0)
  have E2324 : Exa Z h1892 a1831 zs1 := (pE_a1831.keep K1892)
  obtain ⟨T2325, h2325, X2325, e2325, W2325, st2325⟩ := putFN X2257 hx hZ hown (wd hw 34 rfl) Via.refl hh2322 F2323 E2324 (Or.inr ⟨(wd hw 35 rfl), rfl, hnm⟩) (wd hw 10 rfl) (ty := .byte) (v' := (.int (1 : Int32))) (by decide) rfl (by decide) (g := (mkF m 48 #[rv a1831, rv a1832, iv (0 : Int32), iv (82 : Int32), .val .null, rv b2250] [(.int (1 : Int32)), (.ref a1831)])) rfl rfl (hb hby d3_48)
  refine own_via (fun t k => st2325 t k) ?_
  have Fw2325 : Fld Z h2325 a1831 zs1 "coder" "B" (.int (1 : Int32)) := F2323.same W2325
  have N2325 := Fr.snoc X2325 N2257 pG_a1831
  show own_Goes p e below (T2325.setTop (mkF m 51 #[rv a1831, rv a1832, iv (0 : Int32), iv (82 : Int32), .val .null, rv b2250] [])) _
  refine own_via (fun t k => XS.aloadN X2325.here hx rfl (hb hby d3_51) rfl rfl (XS.aload X2325.here hx rfl (hb hby d3_52) rfl rfl k)) ?_
  have F2326 : Fld Z h2325 a1831 zs1 "value" "[B" .null := ((pF_a1831_value.keep K1892 nin0).other W2325 (Or.inr (slot_ne (Or.inr (wd hw 37 rfl)) (Or.inr (wd hw 35 rfl)) (by decide) (t := (.array .byte)) (t' := .byte) (by decide) (by decide))))
  have E2327 : Exa Z h2325 a1831 zs1 := (E2324.wr W2325)
  obtain ⟨T2328, h2328, X2328, e2328, W2328, st2328⟩ := putF X2325 hx hZ hown (host := "") (Or.inl (wd hw 36 rfl)) Via.refl e2325 F2326 E2327 (Or.inr ⟨(wd hw 37 rfl), rfl, hnm⟩) (wd hw 10 rfl) (ty := (.array .byte)) (by decide) rfl rfl (g := (mkF m 54 #[rv a1831, rv a1832, iv (0 : Int32), iv (82 : Int32), .val .null, rv b2250] [(.ref b2250), (.ref a1831)])) rfl rfl (hb hby d3_54)
  refine own_via (fun t k => st2328 t k) ?_
  have Fw2328 : Fld Z h2328 a1831 zs1 "value" "[B" (.ref b2250) := F2326.same W2328
  have N2328 := Fr.snoc X2328 N2325 pG_a1831
  show own_Goes p e below (T2328.setTop (mkF m 57 #[rv a1831, rv a1832, iv (0 : Int32), iv (82 : Int32), .val .null, rv b2250] [])) _
  obtain ⟨fs, hr, hrun, hended, hW, hsame⟩ := X2328.leave (v := none) (fun _ => rfl)
  refine own_end (t := T2328.setFrames fs) ?_ ⟨_, hrun, hended, _, _, rfl, ?_, ⟨_, rfl⟩, hW, hsame.mono (by decide) (by decide)⟩
  · exact X2328.returnOut hx Bd.returns (hb hby d3_57) hr
  have E2329 : Exa Z h2328 a1831 zs1 := (E2327.wr W2328)
  have F2330 : Fld Z h2328 a1831 zs1 "coder" "B" (.int (1 : Int32)) := (Fw2325.other W2328 (Or.inr (slot_ne (Or.inr (wd hw 35 rfl)) (Or.inr (wd hw 37 rfl)) (by decide) (t := .byte) (t' := (.array .byte)) (by decide) (by decide))))
  have V2331 : Arv Z h2328 b2250 k2251 .byte (164 : Int32) (own_vs 164 (own_wt 82 f1836)) (.int (0 : Int32)) := ((vx2253.other W2325 (Ne.symm (Nat.ne_of_lt (Nat.lt_of_lt_of_le pE_a1831.lt B2256)))).other W2328 (Ne.symm (Nat.ne_of_lt (Nat.lt_of_lt_of_le pE_a1831.lt B2256))))
  have E2332 : Exa Z h2328 b2250 "[B" := ((ex2254.wr W2325).wr W2328)
  · show Q29 Z a1831 a1832 i43 f1836 k1837 p1838 h0 n0 _ T2328.heap _
    rw [e2328]
    exact ⟨b2250, k2251, rfl, N2328, ((((Keep.refl h0 [a1831]).trans K1892 all0).wr W2325 (Or.inl (List.mem_of_getElem? (i := 0) rfl))).wr W2328 (Or.inl (List.mem_of_getElem? (i := 0) rfl))), E2329, F2330, Fw2328, B2256, V2331, E2332⟩
def Q30 (Z : State) (a1770 : Addr) (a1771 : Addr) (i43 : Int32) (f1775 : Nat → Int32) (k1776 : ClassId) (p1777 : Int32) (h0 : Heap) (n0 : Nat) (v : Option Value) (h : Heap) (L : List Loc) : Prop := (∃ (b2333 : Addr) (k2334 : ClassId), v = none ∧ Fr n0 L ∧ Keep h0 h [a1770] ∧ Exa Z h a1770 zs1 ∧ Fld Z h a1770 zs1 "coder" "B" (.int (1 : Int32)) ∧ Fld Z h a1770 zs1 "value" "[B" (.ref b2333) ∧ h0.size ≤ b2333 ∧ Arv Z h b2333 k2334 .byte (164 : Int32) (own_vs 164 (own_wt 82 f1775)) (.int (0 : Int32)) ∧ Exa Z h b2333 "[B")
set_option maxRecDepth 65536 in
set_option maxHeartbeats 40000000 in
theorem rm30 (l : Launch) (Z : State) (a0 : Array Value) (hw : ∀ d ∈ tables_1, d.before a0 Z = true) (ws : List Jvm.Cond) (a1770 : Addr) (a1771 : Addr) (i43 : Int32) (f1775 : Nat → Int32) (k1776 : ClassId) (p1777 : Int32) (h0 : Heap) (n0 : Nat) (O0 : Old Z n0 h0) (pL_a1771 : own_Len Z h0 a1771 .char (82 : Int32)) (S_String_COMPACT_STRINGS : Sta Z Z.heap zs1 zs11 "Z" (.int i43)) (pC1778 : ¬ (i43 = (0 : Int32))) (pC1826 : own_okF f1775) (pV_a1771 : Arv Z h0 a1771 k1776 .char (82 : Int32) (own_vs 82 f1775) (.int (0 : Int32))) (pC1828 : (255 : Int32) < (f1775 81)) (pE_a1771 : Exa Z h0 a1771 "[C") (S_StringUTF16__assertionsDisabled : Sta Z Z.heap zs3 zs12 "Z" (.int (1 : Int32))) (S_StringUTF16_HI_BYTE_SHIFT : Sta Z Z.heap zs3 zs15 "I" (.int (0 : Int32))) (S_StringUTF16_LO_BYTE_SHIFT : Sta Z Z.heap zs3 zs16 "I" (.int (8 : Int32))) (pC1827 : nar .char (f1775 81) = (f1775 81)) (pF_a1770_coder : Fld Z h0 a1770 zs1 "coder" "B" (.int p1777)) (pE_a1770 : Exa Z h0 a1770 zs1) (pG_a1770 : n0 ≤ a1770) (pF_a1770_value : Fld Z h0 a1770 zs1 "value" "[B" .null) :
    MetFree l (⟨zs1, "<init>", "([C)V"⟩ : MethodName) (head1 (Jvm.Cond.code (⟨zs1, "<init>", "([C)V"⟩ : MethodName) jdk_42_method_3_code 2 none :: ws) ({ frames := 5, cells := 2, slots := 246, locals := 74 } : Room)) (fun a U => a = #[(.ref a1770), (.ref a1771)] ∧ Z.Warmed39 U.vm ∧ U.heap = h0) (fun _ _ _ _ _ => True) (fun _ U o U' => ∃ v L, o = .returned v ∧ Q30 Z a1770 a1771 i43 f1775 k1776 p1777 h0 n0 v U'.heap L ∧ FrameEnd U o U' L ({ frames := 5, cells := 2, slots := 246, locals := 74 } : Room).cells ({ frames := 5, cells := 2, slots := 246, locals := 74 } : Room).slots) := by
  refine MetFree.of_bodySF (plainFor_of_name pn_3) hisR ?_
  intro p e s m args below meth c s₁ Bd hml0 hP hK
  obtain ⟨rfl, hZ, hh⟩ := hP
  have hx := Bd.exec
  have hby := Bd.bytes
  have hml : c.maxLocals = 2 := hml0
  have hown : s.vm.findClass zs1 = some m.cls := findClass_of_methodNamed Bd.named
  have hnm := (name_of_methodNamed Bd.named Bd.method).1
  have X0 : Stand p l e ({ frames := 5, cells := 2, slots := 246, locals := 74 } : Room) s m #[(.ref a1770), (.ref a1771)] below meth c s₁ [] 0 0 := Stand.of_body Bd
  have e0 : s₁.heap = h0 := by rw [← hh, Bd.state]; rfl
  have N0 := Fr.nil n0
  refine own_out ?_
  refine own_via (fun t k => castTop (ef_6 m a1770 a1771) (XS.aloadN X0.here hx rfl (hb hby d2_0) rfl rfl (XS.aloadN X0.here hx rfl (hb hby d2_1) rfl rfl (XS.iconst X0.here hx rfl (hb hby d2_2) (XS.aloadN X0.here hx rfl (hb hby d2_3) rfl rfl k))))) ?_
  show own_Goes p e below (s₁.setTop (mkF m 4 #[rv a1770, rv a1771] [(.ref a1771), (.int (0 : Int32)), (.ref a1771), (.ref a1770)])) _
  obtain ⟨_, _, _, V1829⟩ := id (pL_a1771)
  obtain ⟨cl1829, Ar1829, -, S1829, M1829, -, -⟩ := id (V1829)
  refine own_via (fun t k => X0.arraylength hx (by rw [e0]; exact Ar1829.1) (State.isArrayOf_alike hZ.alike Ar1829.2.1) (g := (mkF m 4 #[rv a1770, rv a1771] [(.ref a1771), (.int (0 : Int32)), (.ref a1771), (.ref a1770)])) rfl rfl (hb hby d2_4) t k) ?_
  rw [len_of S1829 M1829]
  show own_Goes p e below (s₁.setTop (mkF m 5 #[rv a1770, rv a1771] [(.int (82 : Int32)), (.int (0 : Int32)), (.ref a1771), (.ref a1770)])) _
  refine own_via (fun t k => XS.aconstNull X0.here hx rfl (hb hby d2_5) k) ?_
  obtain ⟨_, T1830, _, X1830, hQ1830, st1830⟩ := own_ci X0 hx hZ hown (wd hw 15 rfl) (wd hw 16 rfl) (wd hw 18 rfl) (wd hw 11 rfl) rfl (by decide) (rm29 l Z a0 hw [] a1770 a1771 i43 f1775 k1776 p1777 h0 n0 O0 S_String_COMPACT_STRINGS pC1778 pC1826 pV_a1771 pC1828 pE_a1771 S_StringUTF16__assertionsDisabled S_StringUTF16_HI_BYTE_SHIFT S_StringUTF16_LO_BYTE_SHIFT pC1827 pF_a1770_coder pE_a1770 pG_a1770 pF_a1770_value) e0 (g := (mkF m 6 #[rv a1770, rv a1771] [.null, (.int (82 : Int32)), (.int (0 : Int32)), (.ref a1771), (.ref a1770)])) rfl (by rw [hml]; rfl) (rest := []) (W := 0) (lenOf pd_5 rfl) rfl (by show 2 * 0 + _ ≤ _; exact Nat.le_of_eq rfl) (hb hby d2_6) (by decide) (by decide) (by decide) (by decide)
  obtain ⟨h1830, e1830⟩ : ∃ z, T1830.heap = z := ⟨_, rfl⟩
  rw [e1830] at hQ1830
  obtain ⟨b2333, k2334, rfl, Nq1830, K1830, ex2335, fx2336, fx2337, bx2338, vx2339, ex2340⟩ := hQ1830
  have N1830 := Fr.app N0 Nq1830
  have g2341 : n0 ≤ b2333 := Nat.le_trans (own_old O0) bx2338
  have B2342 : h0.size ≤ b2333 := Nat.le_trans (Nat.le_refl _) bx2338
  refine own_via (fun t k => st1830 t k) ?_
  obtain ⟨fs, hr, hrun, hended, hW, hsame⟩ := X1830.leave (v := none) (fun _ => rfl)
  refine own_end (t := T1830.setFrames fs) ?_ ⟨_, hrun, hended, _, _, rfl, ?_, ⟨_, rfl⟩, hW, hsame.mono (by decide) (by decide)⟩
  · exact X1830.returnOut hx Bd.returns (hb hby d2_9) hr
  · show Q30 Z a1770 a1771 i43 f1775 k1776 p1777 h0 n0 _ T1830.heap _
    rw [e1830]
    exact ⟨b2333, k2334, rfl, N1830, ((Keep.refl h0 [a1770]).trans K1830 (allS (Or.inl (List.mem_of_getElem? (i := 0) rfl)) all0)), ex2335, fx2336, fx2337, B2342, vx2339, ex2340⟩
theorem d11_17 : decode jdk_42_method_154_code 17 = .ok (.iconst 0, 1) := by decide +kernel
def Q31 (Z : State) (a2504 : Addr) (i43 : Int32) (h0 : Heap) (n0 : Nat) (v : Option Value) (h : Heap) (L : List Loc) : Prop := v = some (.int (0 : Int32)) ∧ Fr n0 L ∧ h = h0
set_option maxRecDepth 65536 in
set_option maxHeartbeats 40000000 in
theorem rm31 (l : Launch) (Z : State) (a0 : Array Value) (hw : ∀ d ∈ tables_1, d.before a0 Z = true) (ws : List Jvm.Cond) (a2504 : Addr) (i43 : Int32) (h0 : Heap) (n0 : Nat) (O0 : Old Z n0 h0) (S_String_COMPACT_STRINGS : Sta Z Z.heap zs1 zs11 "Z" (.int i43)) (pC2515 : ¬ (i43 = (0 : Int32))) (pF_a2504_coder : Fld Z h0 a2504 zs1 "coder" "B" (.int (1 : Int32))) :
    MetFree l (⟨zs1, "isLatin1", "()Z"⟩ : MethodName) (head1 (Jvm.Cond.code (⟨zs1, "isLatin1", "()Z"⟩ : MethodName) jdk_42_method_154_code 1 (some .boolean) :: ws) ({ frames := 0, cells := 0, slots := 0, locals := 0 } : Room)) (fun a U => a = #[(.ref a2504)] ∧ Z.Warmed39 U.vm ∧ U.heap = h0) (fun _ _ _ _ _ => True) (fun _ U o U' => ∃ v L, o = .returned v ∧ Q31 Z a2504 i43 h0 n0 v U'.heap L ∧ FrameEnd U o U' L ({ frames := 0, cells := 0, slots := 0, locals := 0 } : Room).cells ({ frames := 0, cells := 0, slots := 0, locals := 0 } : Room).slots) := by
  refine MetFree.of_bodySF (plainFor_of_name pn_3) hisR ?_
  intro p e s m args below meth c s₁ Bd hml0 hP hK
  obtain ⟨rfl, hZ, hh⟩ := hP
  have hx := Bd.exec
  have hby := Bd.bytes
  have hml : c.maxLocals = 1 := hml0
  have hown : s.vm.findClass zs1 = some m.cls := findClass_of_methodNamed Bd.named
  have hnm := (name_of_methodNamed Bd.named Bd.method).1
  have X0 : Stand p l e ({ frames := 0, cells := 0, slots := 0, locals := 0 } : Room) s m #[(.ref a2504)] below meth c s₁ [] 0 0 := Stand.of_body Bd
  have e0 : s₁.heap = h0 := by rw [← hh, Bd.state]; rfl
  have N0 := Fr.nil n0
  refine own_out ?_
  refine own_via (fun t k => castTop (ef_8 m a2504) k) ?_
  obtain ⟨T2570, X2570, e2570, st2570⟩ := getS2 X0 hx hZ hown (host := "") (Or.inl (wd hw 22 rfl)) Via.refl e0 (S_String_COMPACT_STRINGS.ext O0.2) (g := (mkF m 0 #[rv a2504] [])) rfl (hb hby d11_0)
  refine own_via (fun t k => st2570 t (XS.ifNo X2570.here hx rfl (hb hby d11_3) rfl ((if0 _ _).trans (feq pC2515).1) (XS.aloadN X2570.here hx rfl (hb hby d11_6) rfl rfl k))) ?_
  show own_Goes p e below (T2570.setTop (mkF m 7 #[rv a2504] [(.ref a2504)])) _
  obtain ⟨T2571, X2571, e2571, st2571⟩ := getF X2570 hx hZ hown (host := "") (Or.inl (wd hw 34 rfl)) Via.refl e2570 pF_a2504_coder (g := (mkF m 7 #[rv a2504] [(.ref a2504)])) rfl rfl (hb hby d11_7)
  refine own_via (fun t k => st2571 t (XS.ifYes X2571.here hx rfl (pc0 := 10) (pc' := 17) rfl (hb hby d11_10) rfl ((if0 _ _).trans (feq (by decide : ¬ ((1 : Int32) = (0 : Int32)))).2) (by decide) (by decide) (XS.iconst X2571.here hx rfl (hb hby d11_17) k))) ?_
  show own_Goes p e below (T2571.setTop (mkF m 18 #[rv a2504] [(.int (0 : Int32))])) _
  obtain ⟨fs, hr, hrun, hended, hW, hsame⟩ := X2571.leave (v := some (.int (0 : Int32))) (fun h => by rw [Bd.returns] at h; cases h)
  refine own_end (t := T2571.setFrames fs) ?_ ⟨_, hrun, hended, _, _, rfl, ?_, ⟨_, rfl⟩, hW, hsame.mono (by decide) (by decide)⟩
  · exact retN X2571 hx (t := .boolean) Bd.returns (by simp) (hb hby d11_18) hr
  · show Q31 Z a2504 i43 h0 n0 _ T2571.heap _
    rw [e2571]
    exact ⟨rfl, N0, rfl⟩
theorem d10_16 : decode jdk_42_method_56_code 16 = .ok (.aload_n 0, 1) := by decide +kernel
theorem d10_17 : decode jdk_42_method_56_code 17 = .ok (.getfield 9, 3) := by decide +kernel
theorem d10_20 : decode jdk_42_method_56_code 20 = .ok (.iload_n 1, 1) := by decide +kernel
theorem d10_21 : decode jdk_42_method_56_code 21 = .ok (.invokestatic 498, 3) := by decide +kernel
theorem d27_0 : decode jdk_52_method_83_code 0 = .ok (.iload_n 1, 1) := by decide +kernel
theorem d27_1 : decode jdk_52_method_83_code 1 = .ok (.aload_n 0, 1) := by decide +kernel
theorem d27_2 : decode jdk_52_method_83_code 2 = .ok (.invokestatic 67, 3) := by decide +kernel
theorem d28_0 : decode jdk_52_method_91_code 0 = .ok (.iload_n 0, 1) := by decide +kernel
theorem d28_1 : decode jdk_52_method_91_code 1 = .ok (.aload_n 1, 1) := by decide +kernel
theorem d28_2 : decode jdk_52_method_91_code 2 = .ok (.invokestatic 48, 3) := by decide +kernel
theorem d29_0 : decode jdk_52_method_6_code 0 = .ok (.aload_n 0, 1) := by decide +kernel
theorem d29_1 : decode jdk_52_method_6_code 1 = .ok (.arraylength, 1) := by decide +kernel
theorem d29_2 : decode jdk_52_method_6_code 2 = .ok (.iconst 1, 1) := by decide +kernel
theorem d29_3 : decode jdk_52_method_6_code 3 = .ok (.ishr, 1) := by decide +kernel
theorem d29_4 : decode jdk_52_method_6_code 4 = .ok (.ireturn, 1) := by decide +kernel
theorem ef_24 (m : MethodId) (x0 : Addr) : entryFrame m #[(.ref x0)] 1 = mkF m 0 #[rv x0] [] := by first | (simp [entryFrame, mkF, argsToLocals, Value.category]; done) | rfl
def Q32 (Z : State) (a2711 : Addr) (h0 : Heap) (n0 : Nat) (v : Option Value) (h : Heap) (L : List Loc) : Prop := v = some (.int (82 : Int32)) ∧ Fr n0 L ∧ h = h0
set_option maxRecDepth 65536 in
set_option maxHeartbeats 40000000 in
theorem rm32 (l : Launch) (Z : State) (a0 : Array Value) (hw : ∀ d ∈ tables_1, d.before a0 Z = true) (ws : List Jvm.Cond) (a2711 : Addr) (h0 : Heap) (n0 : Nat) (O0 : Old Z n0 h0) (pL_a2711 : own_Len Z h0 a2711 .byte (164 : Int32)) :
    MetFree l (⟨zs3, "length", "([B)I"⟩ : MethodName) (head1 (Jvm.Cond.code (⟨zs3, "length", "([B)I"⟩ : MethodName) jdk_52_method_6_code 1 (some .int) :: ws) ({ frames := 0, cells := 0, slots := 0, locals := 0 } : Room)) (fun a U => a = #[(.ref a2711)] ∧ Z.Warmed39 U.vm ∧ U.heap = h0) (fun _ _ _ _ _ => True) (fun _ U o U' => ∃ v L, o = .returned v ∧ Q32 Z a2711 h0 n0 v U'.heap L ∧ FrameEnd U o U' L ({ frames := 0, cells := 0, slots := 0, locals := 0 } : Room).cells ({ frames := 0, cells := 0, slots := 0, locals := 0 } : Room).slots) := by
  refine MetFree.of_bodySF (plainFor_of_name pn_2) hisR ?_
  intro p e s m args below meth c s₁ Bd hml0 hP hK
  obtain ⟨rfl, hZ, hh⟩ := hP
  have hx := Bd.exec
  have hby := Bd.bytes
  have hml : c.maxLocals = 1 := hml0
  have hown : s.vm.findClass zs3 = some m.cls := findClass_of_methodNamed Bd.named
  have hnm := (name_of_methodNamed Bd.named Bd.method).1
  have X0 : Stand p l e ({ frames := 0, cells := 0, slots := 0, locals := 0 } : Room) s m #[(.ref a2711)] below meth c s₁ [] 0 0 := Stand.of_body Bd
  have e0 : s₁.heap = h0 := by rw [← hh, Bd.state]; rfl
  have N0 := Fr.nil n0
  refine own_out ?_
  refine own_via (fun t k => castTop (ef_24 m a2711) (XS.aloadN X0.here hx rfl (hb hby d29_0) rfl rfl k)) ?_
  obtain ⟨_, _, _, V2778⟩ := id (pL_a2711)
  obtain ⟨cl2778, Ar2778, -, S2778, M2778, -, -⟩ := id (V2778)
  refine own_via (fun t k => X0.arraylength hx (by rw [e0]; exact Ar2778.1) (State.isArrayOf_alike hZ.alike Ar2778.2.1) (g := (mkF m 1 #[rv a2711] [(.ref a2711)])) rfl rfl (hb hby d29_1) t k) ?_
  rw [len_of S2778 M2778]
  show own_Goes p e below (s₁.setTop (mkF m 2 #[rv a2711] [(.int (164 : Int32))])) _
  refine own_via (fun t k => XS.iconst X0.here hx rfl (hb hby d29_2) (XS.ishr X0.here hx rfl (hb hby d29_3) rfl k)) ?_
  obtain ⟨fs, hr, hrun, hended, hW, hsame⟩ := X0.leave (v := some (.int (82 : Int32))) (fun h => by rw [Bd.returns] at h; cases h)
  refine own_end (t := s₁.setFrames fs) ?_ ⟨_, hrun, hended, _, _, rfl, ?_, ⟨_, rfl⟩, hW, hsame.mono (by decide) (by decide)⟩
  · exact retI X0 hx Bd.returns (hb hby d29_4) hr
  · show Q32 Z a2711 h0 n0 _ s₁.heap _
    rw [e0]
    exact ⟨rfl, N0, rfl⟩
theorem pd_19 : parseMethodDescriptor "([B)I" = some ⟨[(.array .byte)], some .int⟩ := by decide +kernel
theorem d28_5 : decode jdk_52_method_91_code 5 = .ok (.invokestatic 414, 3) := by decide +kernel
def Q33 (Z : State) (p2850 : Int32) (fm1 : Option Addr) (h0 : Heap) (n0 : Nat) (v : Option Value) (h : Heap) (L : List Loc) : Prop := v = some (.int p2850) ∧ Fr n0 L ∧ h = h0
set_option maxRecDepth 65536 in
set_option maxHeartbeats 40000000 in
theorem rm33 (l : Launch) (Z : State) (a0 : Array Value) (hw : ∀ d ∈ tables_1, d.before a0 Z = true) (ws : List Jvm.Cond) (p2850 : Int32) (fm1 : Option Addr) (h0 : Heap) (n0 : Nat) (O0 : Old Z n0 h0) (pC2914 : ¬ (p2850 < (0 : Int32))) (pC2916 : p2850 < (82 : Int32)) :
    MetFree l (⟨zs8, "checkIndex", zs14⟩ : MethodName) (head1 (Jvm.Cond.code (⟨zs8, "checkIndex", zs14⟩ : MethodName) jdk_41_method_11_code 3 (some .int) :: ws) ({ frames := 0, cells := 0, slots := 0, locals := 0 } : Room)) (fun a U => a = #[(.int p2850), (.int (82 : Int32)), (own_rf fm1)] ∧ Z.Warmed39 U.vm ∧ U.heap = h0) (fun _ _ _ _ _ => True) (fun _ U o U' => ∃ v L, o = .returned v ∧ Q33 Z p2850 fm1 h0 n0 v U'.heap L ∧ FrameEnd U o U' L ({ frames := 0, cells := 0, slots := 0, locals := 0 } : Room).cells ({ frames := 0, cells := 0, slots := 0, locals := 0 } : Room).slots) := by
  refine MetFree.of_bodySF (plainFor_of_name pn_5) hisR ?_
  intro p e s m args below meth c s₁ Bd hml0 hP hK
  obtain ⟨rfl, hZ, hh⟩ := hP
  have hx := Bd.exec
  have hby := Bd.bytes
  have hml : c.maxLocals = 3 := hml0
  have hown : s.vm.findClass zs8 = some m.cls := findClass_of_methodNamed Bd.named
  have hnm := (name_of_methodNamed Bd.named Bd.method).1
  have X0 : Stand p l e ({ frames := 0, cells := 0, slots := 0, locals := 0 } : Room) s m #[(.int p2850), (.int (82 : Int32)), (own_rf fm1)] below meth c s₁ [] 0 0 := Stand.of_body Bd
  have e0 : s₁.heap = h0 := by rw [← hh, Bd.state]; rfl
  have N0 := Fr.nil n0
  refine own_out ?_
  refine own_via (fun t k => castTop (ef_9 m p2850 (82 : Int32) fm1) (XS.iloadN X0.here hx rfl (hb hby d14_0) rfl (XS.ifNo X0.here hx rfl (hb hby d14_1) rfl ((if0 _ _).trans (flt pC2914).1) (XS.iloadN X0.here hx rfl (hb hby d14_4) rfl (XS.iloadN X0.here hx rfl (hb hby d14_5) rfl (XS.icmpYes X0.here hx rfl (pc0 := 6) (pc' := 16) rfl (hb hby d14_6) rfl (tlt pC2916).1 (by decide) (by decide) (XS.iloadN X0.here hx rfl (hb hby d14_16) rfl k))))))) ?_
  show own_Goes p e below (s₁.setTop (mkF m 17 #[iv p2850, iv (82 : Int32), .val (own_rf fm1)] [(.int p2850)])) _
  obtain ⟨fs, hr, hrun, hended, hW, hsame⟩ := X0.leave (v := some (.int p2850)) (fun h => by rw [Bd.returns] at h; cases h)
  refine own_end (t := s₁.setFrames fs) ?_ ⟨_, hrun, hended, _, _, rfl, ?_, ⟨_, rfl⟩, hW, hsame.mono (by decide) (by decide)⟩
  · exact retI X0 hx Bd.returns (hb hby d14_17) hr
  · show Q33 Z p2850 fm1 h0 n0 _ s₁.heap _
    rw [e0]
    exact ⟨rfl, N0, rfl⟩
def Q34 (Z : State) (p2781 : Int32) (fm1 : Option Addr) (h0 : Heap) (n0 : Nat) (v : Option Value) (h : Heap) (L : List Loc) : Prop := v = none ∧ Fr n0 L ∧ h = h0
set_option maxRecDepth 65536 in
set_option maxHeartbeats 40000000 in
theorem rm34 (l : Launch) (Z : State) (a0 : Array Value) (hw : ∀ d ∈ tables_1, d.before a0 Z = true) (ws : List Jvm.Cond) (p2781 : Int32) (fm1 : Option Addr) (h0 : Heap) (n0 : Nat) (O0 : Old Z n0 h0) (S_Preconditions_SIOOBE_FORMATTER : Sta Z Z.heap zs8 zs13 zs10 (own_rf fm1)) (pC2845 : ¬ (p2781 < (0 : Int32))) (pC2847 : p2781 < (82 : Int32)) :
    MetFree l (⟨zs1, "checkIndex", "(II)V"⟩ : MethodName) (head1 (Jvm.Cond.code (⟨zs1, "checkIndex", "(II)V"⟩ : MethodName) jdk_42_method_155_code 2 none :: ws) ({ frames := 1, cells := 0, slots := 0, locals := 14 } : Room)) (fun a U => a = #[(.int p2781), (.int (82 : Int32))] ∧ Z.Warmed39 U.vm ∧ U.heap = h0) (fun _ _ _ _ _ => True) (fun _ U o U' => ∃ v L, o = .returned v ∧ Q34 Z p2781 fm1 h0 n0 v U'.heap L ∧ FrameEnd U o U' L ({ frames := 1, cells := 0, slots := 0, locals := 14 } : Room).cells ({ frames := 1, cells := 0, slots := 0, locals := 14 } : Room).slots) := by
  refine MetFree.of_bodySF (plainFor_of_name pn_3) hisR ?_
  intro p e s m args below meth c s₁ Bd hml0 hP hK
  obtain ⟨rfl, hZ, hh⟩ := hP
  have hx := Bd.exec
  have hby := Bd.bytes
  have hml : c.maxLocals = 2 := hml0
  have hown : s.vm.findClass zs1 = some m.cls := findClass_of_methodNamed Bd.named
  have hnm := (name_of_methodNamed Bd.named Bd.method).1
  have X0 : Stand p l e ({ frames := 1, cells := 0, slots := 0, locals := 14 } : Room) s m #[(.int p2781), (.int (82 : Int32))] below meth c s₁ [] 0 0 := Stand.of_body Bd
  have e0 : s₁.heap = h0 := by rw [← hh, Bd.state]; rfl
  have N0 := Fr.nil n0
  refine own_out ?_
  refine own_via (fun t k => castTop (ef_10 m p2781 (82 : Int32)) (XS.iloadN X0.here hx rfl (hb hby d13_0) rfl (XS.iloadN X0.here hx rfl (hb hby d13_1) rfl k))) ?_
  show own_Goes p e below (s₁.setTop (mkF m 2 #[iv p2781, iv (82 : Int32)] [(.int (82 : Int32)), (.int p2781)])) _
  obtain ⟨T2848, X2848, e2848, st2848⟩ := getS2 X0 hx hZ hown (host := "") (Or.inl (wd hw 70 rfl)) Via.refl e0 (S_Preconditions_SIOOBE_FORMATTER.ext O0.2) (g := (mkF m 2 #[iv p2781, iv (82 : Int32)] [(.int (82 : Int32)), (.int p2781)])) rfl (hb hby d13_2)
  refine own_via (fun t k => st2848 t k) ?_
  obtain ⟨_, T2849, _, X2849, hQ2849, st2849⟩ := own_cs X2848 hx hZ hown (wd hw 72 rfl) (wd hw 73 rfl) (wd hw 74 rfl) (wd hw 71 rfl) (by decide) (rm33 l Z a0 hw [] p2781 fm1 h0 n0 O0 pC2845 pC2847) e2848 (g := (mkF m 5 #[iv p2781, iv (82 : Int32)] [(own_rf fm1), (.int (82 : Int32)), (.int p2781)])) rfl (by rw [hml]; rfl) (rest := []) (W := 0) (lenOf pd_9 rfl) rfl (by show 2 * 0 + _ ≤ _; exact Nat.le_of_eq rfl) (hb hby d13_5) (by decide) (by decide) (by decide) (by decide)
  obtain ⟨rfl, Nq2849, hh2917⟩ := hQ2849
  have N2849 := Fr.app N0 Nq2849
  refine own_via (fun t k => st2849 t (XS.pop X2849.here hx rfl (hb hby d13_8) rfl rfl k)) ?_
  obtain ⟨fs, hr, hrun, hended, hW, hsame⟩ := X2849.leave (v := none) (fun _ => rfl)
  refine own_end (t := T2849.setFrames fs) ?_ ⟨_, hrun, hended, _, _, rfl, ?_, ⟨_, rfl⟩, hW, hsame.mono (by decide) (by decide)⟩
  · exact X2849.returnOut hx Bd.returns (hb hby d13_9) hr
  · show Q34 Z p2781 fm1 h0 n0 _ T2849.heap _
    rw [hh2917]
    exact ⟨rfl, N2849, rfl⟩
theorem d28_8 : decode jdk_52_method_91_code 8 = .ok (.return_, 1) := by decide +kernel
theorem ef_25 (m : MethodId) (x0 : Int32) (x1 : Addr) : entryFrame m #[(.int x0), (.ref x1)] 2 = mkF m 0 #[iv x0, rv x1] [] := by first | (simp [entryFrame, mkF, argsToLocals, Value.category]; done) | rfl
def Q35 (Z : State) (p2643 : Int32) (a2644 : Addr) (fm1 : Option Addr) (h0 : Heap) (n0 : Nat) (v : Option Value) (h : Heap) (L : List Loc) : Prop := v = none ∧ Fr n0 L ∧ h = h0
set_option maxRecDepth 65536 in
set_option maxHeartbeats 40000000 in
theorem rm35 (l : Launch) (Z : State) (a0 : Array Value) (hw : ∀ d ∈ tables_1, d.before a0 Z = true) (ws : List Jvm.Cond) (p2643 : Int32) (a2644 : Addr) (fm1 : Option Addr) (h0 : Heap) (n0 : Nat) (O0 : Old Z n0 h0) (pL_a2644 : own_Len Z h0 a2644 .byte (164 : Int32)) (S_Preconditions_SIOOBE_FORMATTER : Sta Z Z.heap zs8 zs13 zs10 (own_rf fm1)) (pC2707 : ¬ (p2643 < (0 : Int32))) (pC2709 : p2643 < (82 : Int32)) :
    MetFree l (⟨zs3, "checkIndex", "(I[B)V"⟩ : MethodName) (head1 (Jvm.Cond.code (⟨zs3, "checkIndex", "(I[B)V"⟩ : MethodName) jdk_52_method_91_code 2 none :: ws) ({ frames := 2, cells := 0, slots := 0, locals := 27 } : Room)) (fun a U => a = #[(.int p2643), (.ref a2644)] ∧ Z.Warmed39 U.vm ∧ U.heap = h0) (fun _ _ _ _ _ => True) (fun _ U o U' => ∃ v L, o = .returned v ∧ Q35 Z p2643 a2644 fm1 h0 n0 v U'.heap L ∧ FrameEnd U o U' L ({ frames := 2, cells := 0, slots := 0, locals := 27 } : Room).cells ({ frames := 2, cells := 0, slots := 0, locals := 27 } : Room).slots) := by
  refine MetFree.of_bodySF (plainFor_of_name pn_2) hisR ?_
  intro p e s m args below meth c s₁ Bd hml0 hP hK
  obtain ⟨rfl, hZ, hh⟩ := hP
  have hx := Bd.exec
  have hby := Bd.bytes
  have hml : c.maxLocals = 2 := hml0
  have hown : s.vm.findClass zs3 = some m.cls := findClass_of_methodNamed Bd.named
  have hnm := (name_of_methodNamed Bd.named Bd.method).1
  have X0 : Stand p l e ({ frames := 2, cells := 0, slots := 0, locals := 27 } : Room) s m #[(.int p2643), (.ref a2644)] below meth c s₁ [] 0 0 := Stand.of_body Bd
  have e0 : s₁.heap = h0 := by rw [← hh, Bd.state]; rfl
  have N0 := Fr.nil n0
  refine own_out ?_
  refine own_via (fun t k => castTop (ef_25 m p2643 a2644) (XS.iloadN X0.here hx rfl (hb hby d28_0) rfl (XS.aloadN X0.here hx rfl (hb hby d28_1) rfl rfl k))) ?_
  show own_Goes p e below (s₁.setTop (mkF m 2 #[iv p2643, rv a2644] [(.ref a2644), (.int p2643)])) _
  obtain ⟨_, T2710, _, X2710, hQ2710, st2710⟩ := own_cs X0 hx hZ hown (wd hw 149 rfl) (wd hw 150 rfl) (wd hw 151 rfl) (wd hw 25 rfl) (by decide) (rm32 l Z a0 hw [] a2644 h0 n0 O0 pL_a2644) e0 (g := (mkF m 2 #[iv p2643, rv a2644] [(.ref a2644), (.int p2643)])) rfl (by rw [hml]; rfl) (rest := [(.int p2643)]) (W := 1) (lenOf pd_19 rfl) rfl (by show 2 * 0 + _ ≤ _; exact Nat.le_of_eq rfl) (hb hby d28_2) (by decide) (by decide) (by decide) (by decide)
  obtain ⟨rfl, Nq2710, hh2779⟩ := hQ2710
  have N2710 := Fr.app N0 Nq2710
  refine own_via (fun t k => st2710 t k) ?_
  obtain ⟨_, T2780, _, X2780, hQ2780, st2780⟩ := own_cs X2710 hx hZ hown (wd hw 152 rfl) (wd hw 68 rfl) (wd hw 69 rfl) (wd hw 11 rfl) (by decide) (rm34 l Z a0 hw [] p2643 fm1 h0 n0 O0 S_Preconditions_SIOOBE_FORMATTER pC2707 pC2709) hh2779 (g := (mkF m 5 #[iv p2643, rv a2644] [(.int (82 : Int32)), (.int p2643)])) rfl (by rw [hml]; rfl) (rest := []) (W := 0) (lenOf pd_10 rfl) rfl (by show 2 * 0 + _ ≤ _; exact Nat.le_of_eq rfl) (hb hby d28_5) (by decide) (by decide) (by decide) (by decide)
  obtain ⟨rfl, Nq2780, hh2918⟩ := hQ2780
  have N2780 := Fr.app N2710 Nq2780
  refine own_via (fun t k => st2780 t k) ?_
  obtain ⟨fs, hr, hrun, hended, hW, hsame⟩ := X2780.leave (v := none) (fun _ => rfl)
  refine own_end (t := T2780.setFrames fs) ?_ ⟨_, hrun, hended, _, _, rfl, ?_, ⟨_, rfl⟩, hW, hsame.mono (by decide) (by decide)⟩
  · exact X2780.returnOut hx Bd.returns (hb hby d28_8) hr
  · show Q35 Z p2643 a2644 fm1 h0 n0 _ T2780.heap _
    rw [hh2918]
    exact ⟨rfl, N2780, rfl⟩
theorem pd_20 : parseMethodDescriptor "(I[B)V" = some ⟨[.int, (.array .byte)], none⟩ := by decide +kernel
theorem d27_5 : decode jdk_52_method_83_code 5 = .ok (.aload_n 0, 1) := by decide +kernel
theorem d27_6 : decode jdk_52_method_83_code 6 = .ok (.iload_n 1, 1) := by decide +kernel
theorem d27_7 : decode jdk_52_method_83_code 7 = .ok (.invokestatic 71, 3) := by decide +kernel
theorem d27_10 : decode jdk_52_method_83_code 10 = .ok (.ireturn, 1) := by decide +kernel
theorem ef_26 (m : MethodId) (x0 : Addr) (x1 : Int32) : entryFrame m #[(.ref x0), (.int x1)] 2 = mkF m 0 #[rv x0, iv x1] [] := by first | (simp [entryFrame, mkF, argsToLocals, Value.category]; done) | rfl
def Q36 (Z : State) (a2575 : Addr) (p2576 : Int32) (fm1 : Option Addr) (k2585 : ClassId) (f2581 : Nat → Int32) (h0 : Heap) (n0 : Nat) (v : Option Value) (h : Heap) (L : List Loc) : Prop := v = some (.int (f2581 (p2576).toNatClampNeg)) ∧ Fr n0 L ∧ h = h0
set_option maxRecDepth 65536 in
set_option maxHeartbeats 40000000 in
theorem rm36 (l : Launch) (Z : State) (a0 : Array Value) (hw : ∀ d ∈ tables_1, d.before a0 Z = true) (ws : List Jvm.Cond) (a2575 : Addr) (p2576 : Int32) (fm1 : Option Addr) (k2585 : ClassId) (f2581 : Nat → Int32) (h0 : Heap) (n0 : Nat) (O0 : Old Z n0 h0) (pL_a2575 : own_Len Z h0 a2575 .byte (164 : Int32)) (S_Preconditions_SIOOBE_FORMATTER : Sta Z Z.heap zs8 zs13 zs10 (own_rf fm1)) (pC2639 : ¬ (p2576 < (0 : Int32))) (pC2641 : p2576 < (82 : Int32)) (pV_a2575 : Arv Z h0 a2575 k2585 .byte (164 : Int32) (own_vs 164 (own_wt 82 f2581)) (.int (0 : Int32))) (S_StringUTF16__assertionsDisabled : Sta Z Z.heap zs3 zs12 "Z" (.int (1 : Int32))) (S_StringUTF16_HI_BYTE_SHIFT : Sta Z Z.heap zs3 zs15 "I" (.int (0 : Int32))) (S_StringUTF16_LO_BYTE_SHIFT : Sta Z Z.heap zs3 zs16 "I" (.int (8 : Int32))) (pC2640 : p2576 < (81 : Int32)) (pC2636 : own_okF f2581) :
    MetFree l (⟨zs3, "charAt", "([BI)C"⟩ : MethodName) (head1 (Jvm.Cond.code (⟨zs3, "charAt", "([BI)C"⟩ : MethodName) jdk_52_method_83_code 2 (some .char) :: ws) ({ frames := 3, cells := 0, slots := 0, locals := 40 } : Room)) (fun a U => a = #[(.ref a2575), (.int p2576)] ∧ Z.Warmed39 U.vm ∧ U.heap = h0) (fun _ _ _ _ _ => True) (fun _ U o U' => ∃ v L, o = .returned v ∧ Q36 Z a2575 p2576 fm1 k2585 f2581 h0 n0 v U'.heap L ∧ FrameEnd U o U' L ({ frames := 3, cells := 0, slots := 0, locals := 40 } : Room).cells ({ frames := 3, cells := 0, slots := 0, locals := 40 } : Room).slots) := by
  refine MetFree.of_bodySF (plainFor_of_name pn_2) hisR ?_
  intro p e s m args below meth c s₁ Bd hml0 hP hK
  obtain ⟨rfl, hZ, hh⟩ := hP
  have hx := Bd.exec
  have hby := Bd.bytes
  have hml : c.maxLocals = 2 := hml0
  have hown : s.vm.findClass zs3 = some m.cls := findClass_of_methodNamed Bd.named
  have hnm := (name_of_methodNamed Bd.named Bd.method).1
  have X0 : Stand p l e ({ frames := 3, cells := 0, slots := 0, locals := 40 } : Room) s m #[(.ref a2575), (.int p2576)] below meth c s₁ [] 0 0 := Stand.of_body Bd
  have e0 : s₁.heap = h0 := by rw [← hh, Bd.state]; rfl
  have N0 := Fr.nil n0
  refine own_out ?_
  refine own_via (fun t k => castTop (ef_26 m a2575 p2576) (XS.iloadN X0.here hx rfl (hb hby d27_0) rfl (XS.aloadN X0.here hx rfl (hb hby d27_1) rfl rfl k))) ?_
  show own_Goes p e below (s₁.setTop (mkF m 2 #[rv a2575, iv p2576] [(.ref a2575), (.int p2576)])) _
  obtain ⟨_, T2642, _, X2642, hQ2642, st2642⟩ := own_cs X0 hx hZ hown (wd hw 146 rfl) (wd hw 147 rfl) (wd hw 148 rfl) (wd hw 25 rfl) (by decide) (rm35 l Z a0 hw [] p2576 a2575 fm1 h0 n0 O0 pL_a2575 S_Preconditions_SIOOBE_FORMATTER pC2639 pC2641) e0 (g := (mkF m 2 #[rv a2575, iv p2576] [(.ref a2575), (.int p2576)])) rfl (by rw [hml]; rfl) (rest := []) (W := 0) (lenOf pd_20 rfl) rfl (by show 2 * 0 + _ ≤ _; exact Nat.le_of_eq rfl) (hb hby d27_2) (by decide) (by decide) (by decide) (by decide)
  obtain ⟨rfl, Nq2642, hh2919⟩ := hQ2642
  have N2642 := Fr.app N0 Nq2642
  refine own_via (fun t k => st2642 t (XS.aloadN X2642.here hx rfl (hb hby d27_5) rfl rfl (XS.iloadN X2642.here hx rfl (hb hby d27_6) rfl k))) ?_
  show own_Goes p e below (T2642.setTop (mkF m 7 #[rv a2575, iv p2576] [(.int p2576), (.ref a2575)])) _
  obtain ⟨_, T2920, L2920, X2920, ⟨rfl, Nq2920, e2920⟩, st2920⟩ := own_cs (rm := own_r0) (Q := own_QC n0 (f2581 (p2576).toNatClampNeg) h0) (argsL := [(.ref a2575), (.int p2576)]) X2642 hx hZ hown (wd hw 140 rfl) (wd hw 141 rfl) (wd hw 142 rfl) (wd hw 25 rfl) (by decide) (own_recast (own_gcw (f := f2581) (k := (p2576).toNatClampNeg) (own_n82 pC2640) (own_okC pC2636 pC2639 pC2640)) (own_rmG2 l Z a0 hw [] S_StringUTF16__assertionsDisabled S_StringUTF16_HI_BYTE_SHIFT S_StringUTF16_LO_BYTE_SHIFT h0 _ p2576 pC2639 pC2640 O0 pV_a2575)) hh2919 (g := (mkF m 7 #[rv a2575, iv p2576] [(.int p2576), (.ref a2575)])) rfl (by rw [hml]; rfl) (rest := []) (W := 0) (lenOf pd_11 rfl) rfl (by show 2 * 0 + _ ≤ _; exact Nat.le_of_eq rfl) (hb hby d27_7) (by decide) (by decide) (by decide) (by decide)
  have N2920 := Fr.app N2642 Nq2920
  refine own_via (fun t k => st2920 t k) ?_
  obtain ⟨fs, hr, hrun, hended, hW, hsame⟩ := X2920.leave (v := some (.int (nar .char (f2581 (p2576).toNatClampNeg)))) (fun h => by rw [Bd.returns] at h; cases h)
  refine own_end (t := T2920.setFrames fs) ?_ ⟨_, hrun, hended, _, _, rfl, ?_, ⟨_, rfl⟩, hW, hsame.mono (by decide) (by decide)⟩
  · exact retN X2920 hx (t := .char) Bd.returns (by simp) (hb hby d27_10) hr
  · show Q36 Z a2575 p2576 fm1 k2585 f2581 h0 n0 _ T2920.heap _
    rw [e2920]
    exact ⟨(congrArg (fun q => some (Value.int q)) (own_foldC pC2636 pC2639 pC2640)), N2920, rfl⟩
theorem d10_24 : decode jdk_42_method_56_code 24 = .ok (.ireturn, 1) := by decide +kernel
def Q37 (Z : State) (a2437 : Addr) (p2438 : Int32) (i43 : Int32) (a2445 : Addr) (fm1 : Option Addr) (k2446 : ClassId) (f2443 : Nat → Int32) (h0 : Heap) (n0 : Nat) (v : Option Value) (h : Heap) (L : List Loc) : Prop := v = some (.int (f2443 (p2438).toNatClampNeg)) ∧ Fr n0 L ∧ h = h0
set_option maxRecDepth 65536 in
set_option maxHeartbeats 40000000 in
theorem rm37 (l : Launch) (Z : State) (a0 : Array Value) (hw : ∀ d ∈ tables_1, d.before a0 Z = true) (ws : List Jvm.Cond) (a2437 : Addr) (p2438 : Int32) (i43 : Int32) (a2445 : Addr) (fm1 : Option Addr) (k2446 : ClassId) (f2443 : Nat → Int32) (h0 : Heap) (n0 : Nat) (O0 : Old Z n0 h0) (S_String_COMPACT_STRINGS : Sta Z Z.heap zs1 zs11 "Z" (.int i43)) (pC2449 : ¬ (i43 = (0 : Int32))) (pF_a2437_coder : Fld Z h0 a2437 zs1 "coder" "B" (.int (1 : Int32))) (pE_a2437 : Exa Z h0 a2437 zs1) (pF_a2437_value : Fld Z h0 a2437 zs1 "value" "[B" (.ref a2445)) (pL_a2445 : own_Len Z h0 a2445 .byte (164 : Int32)) (S_Preconditions_SIOOBE_FORMATTER : Sta Z Z.heap zs8 zs13 zs10 (own_rf fm1)) (pC2500 : ¬ (p2438 < (0 : Int32))) (pC2502 : p2438 < (82 : Int32)) (pV_a2445 : Arv Z h0 a2445 k2446 .byte (164 : Int32) (own_vs 164 (own_wt 82 f2443)) (.int (0 : Int32))) (S_StringUTF16__assertionsDisabled : Sta Z Z.heap zs3 zs12 "Z" (.int (1 : Int32))) (S_StringUTF16_HI_BYTE_SHIFT : Sta Z Z.heap zs3 zs15 "I" (.int (0 : Int32))) (S_StringUTF16_LO_BYTE_SHIFT : Sta Z Z.heap zs3 zs16 "I" (.int (8 : Int32))) (pC2501 : p2438 < (81 : Int32)) (pC2497 : own_okF f2443) :
    MetFree l (⟨zs1, "charAt", "(I)C"⟩ : MethodName) (head1 (Jvm.Cond.code (⟨zs1, "charAt", "(I)C"⟩ : MethodName) jdk_42_method_56_code 2 (some .char) :: ws) ({ frames := 4, cells := 0, slots := 0, locals := 53 } : Room)) (fun a U => a = #[(.ref a2437), (.int p2438)] ∧ Z.Warmed39 U.vm ∧ U.heap = h0) (fun _ _ _ _ _ => True) (fun _ U o U' => ∃ v L, o = .returned v ∧ Q37 Z a2437 p2438 i43 a2445 fm1 k2446 f2443 h0 n0 v U'.heap L ∧ FrameEnd U o U' L ({ frames := 4, cells := 0, slots := 0, locals := 53 } : Room).cells ({ frames := 4, cells := 0, slots := 0, locals := 53 } : Room).slots) := by
  refine MetFree.of_bodySF (plainFor_of_name pn_3) hisR ?_
  intro p e s m args below meth c s₁ Bd hml0 hP hK
  obtain ⟨rfl, hZ, hh⟩ := hP
  have hx := Bd.exec
  have hby := Bd.bytes
  have hml : c.maxLocals = 2 := hml0
  have hown : s.vm.findClass zs1 = some m.cls := findClass_of_methodNamed Bd.named
  have hnm := (name_of_methodNamed Bd.named Bd.method).1
  have X0 : Stand p l e ({ frames := 4, cells := 0, slots := 0, locals := 53 } : Room) s m #[(.ref a2437), (.int p2438)] below meth c s₁ [] 0 0 := Stand.of_body Bd
  have e0 : s₁.heap = h0 := by rw [← hh, Bd.state]; rfl
  have N0 := Fr.nil n0
  refine own_out ?_
  refine own_via (fun t k => castTop (ef_12 m a2437 p2438) (XS.aloadN X0.here hx rfl (hb hby d10_0) rfl rfl k)) ?_
  obtain ⟨_, T2503, _, X2503, hQ2503, st2503⟩ := own_cv X0 hx hZ hown (wd hw 58 rfl) (wd hw 59 rfl) (wd hw 61 rfl) (wd hw 60 rfl) (wd hw 62 rfl) (wd hw 11 rfl) (by decide) (rm31 l Z a0 hw [] a2437 i43 h0 n0 O0 S_String_COMPACT_STRINGS pC2449 pF_a2437_coder) e0 pE_a2437 (g := (mkF m 1 #[rv a2437, iv p2438] [(.ref a2437)])) rfl (by rw [hml]; rfl) (rest := []) (W := 0) (lenOf pd_8 rfl) rfl (by show 2 * 0 + _ ≤ _; exact Nat.le_of_eq rfl) (hb hby d10_1) (by decide) (by decide) (by decide) (by decide)
  obtain ⟨rfl, Nq2503, hh2572⟩ := hQ2503
  have N2503 := Fr.app N0 Nq2503
  refine own_via (fun t k => st2503 t (XS.ifYes X2503.here hx rfl (pc0 := 4) (pc' := 16) rfl (hb hby d10_4) rfl ((if0 _ _).trans (teq (by decide : (0 : Int32) = (0 : Int32))).1) (by decide) (by decide) (XS.aloadN X2503.here hx rfl (hb hby d10_16) rfl rfl k))) ?_
  show own_Goes p e below (T2503.setTop (mkF m 17 #[rv a2437, iv p2438] [(.ref a2437)])) _
  obtain ⟨T2573, X2573, e2573, st2573⟩ := getF X2503 hx hZ hown (host := "") (Or.inl (wd hw 36 rfl)) Via.refl hh2572 pF_a2437_value (g := (mkF m 17 #[rv a2437, iv p2438] [(.ref a2437)])) rfl rfl (hb hby d10_17)
  refine own_via (fun t k => st2573 t (XS.iloadN X2573.here hx rfl (hb hby d10_20) rfl k)) ?_
  obtain ⟨_, T2574, _, X2574, hQ2574, st2574⟩ := own_cs X2573 hx hZ hown (wd hw 143 rfl) (wd hw 144 rfl) (wd hw 145 rfl) (wd hw 25 rfl) (by decide) (rm36 l Z a0 hw [] a2445 p2438 fm1 k2446 f2443 h0 n0 O0 pL_a2445 S_Preconditions_SIOOBE_FORMATTER pC2500 pC2502 pV_a2445 S_StringUTF16__assertionsDisabled S_StringUTF16_HI_BYTE_SHIFT S_StringUTF16_LO_BYTE_SHIFT pC2501 pC2497) e2573 (g := (mkF m 21 #[rv a2437, iv p2438] [(.int p2438), (.ref a2445)])) rfl (by rw [hml]; rfl) (rest := []) (W := 0) (lenOf pd_11 rfl) rfl (by show 2 * 0 + _ ≤ _; exact Nat.le_of_eq rfl) (hb hby d10_21) (by decide) (by decide) (by decide) (by decide)
  obtain ⟨rfl, Nq2574, hh2921⟩ := hQ2574
  have N2574 := Fr.app N2503 Nq2574
  refine own_via (fun t k => st2574 t k) ?_
  obtain ⟨fs, hr, hrun, hended, hW, hsame⟩ := X2574.leave (v := some (.int (nar .char (f2443 (p2438).toNatClampNeg)))) (fun h => by rw [Bd.returns] at h; cases h)
  refine own_end (t := T2574.setFrames fs) ?_ ⟨_, hrun, hended, _, _, rfl, ?_, ⟨_, rfl⟩, hW, hsame.mono (by decide) (by decide)⟩
  · exact retN X2574 hx (t := .char) Bd.returns (by simp) (hb hby d10_24) hr
  · show Q37 Z a2437 p2438 i43 a2445 fm1 k2446 f2443 h0 n0 _ T2574.heap _
    rw [hh2921]
    exact ⟨(congrArg (fun q => some (Value.int q)) (own_foldC pC2497 pC2500 pC2501)), N2574, rfl⟩
def Q38 (Z : State) (a2363 : Addr) (w36 : Addr) (f2368 : Nat → Int32) (rd1 : Nat → Int32) (w39 : Addr) (kc_w39 : ClassId) (a2370 : Addr) (k2371 : ClassId) (i43 : Int32) (fm1 : Option Addr) (h0 : Heap) (n0 : Nat) (v : Option Value) (h : Heap) (L : List Loc) : Prop := (∃ (b2933 : Addr) (k2934 : ClassId) (b2935 : Addr), v = some (.ref b2935) ∧ Fr n0 L ∧ Keep h0 h [] ∧ h0.size ≤ b2933 ∧ Arv Z h b2933 k2934 .int (81 : Int32) (own_vs 81 (own_dg 81 f2368 rd1)) (.int (0 : Int32)) ∧ Exa Z h b2933 "[I" ∧ h0.size ≤ b2935 ∧ Exa Z h b2935 zs2 ∧ Fld Z h b2935 zs2 "shape" zs7 (.ref w36) ∧ Fld Z h b2935 zs2 "digits" "[I" (.ref b2933) ∧ b2933 ≠ b2935)
set_option maxRecDepth 65536 in
set_option maxHeartbeats 40000000 in
theorem rm38 (l : Launch) (Z : State) (a0 : Array Value) (hw : ∀ d ∈ tables_1, d.before a0 Z = true) (ws : List Jvm.Cond) (a2363 : Addr) (w36 : Addr) (f2368 : Nat → Int32) (rd1 : Nat → Int32) (w39 : Addr) (kc_w39 : ClassId) (a2370 : Addr) (k2371 : ClassId) (i43 : Int32) (fm1 : Option Addr) (h0 : Heap) (n0 : Nat) (O0 : Old Z n0 h0) (S_PuzzleLine_SHAPE : Sta Z Z.heap zs5 "SHAPE" zs7 (.ref w36)) (SF_w36_side : Fld Z Z.heap w36 zs4 "side" "I" (.int (9 : Int32))) (SE_w36 : Exa Z Z.heap w36 zs4) (pC2420 : own_okF f2368) (pC2373 : own_rdOK rd1) (S_PuzzleLine_READS_AS : Sta Z Z.heap zs5 "READS_AS" "[B" (.ref w39)) (SV_w39 : Arv Z Z.heap w39 kc_w39 .byte (128 : Int32) (own_vs 128 rd1) (.int (0 : Int32))) (pE_a2363 : Exa Z h0 a2363 zs1) (pF_a2363_coder : Fld Z h0 a2363 zs1 "coder" "B" (.int (1 : Int32))) (pF_a2363_value : Fld Z h0 a2363 zs1 "value" "[B" (.ref a2370)) (pL_a2370 : own_Len Z h0 a2370 .byte (164 : Int32)) (pV_a2370 : Arv Z h0 a2370 k2371 .byte (164 : Int32) (own_vs 164 (own_wt 82 f2368)) (.int (0 : Int32))) (pE_a2370 : Exa Z h0 a2370 "[B") (S_String_COMPACT_STRINGS : Sta Z Z.heap zs1 zs11 "Z" (.int i43)) (pC2372 : ¬ (i43 = (0 : Int32))) (S_Preconditions_SIOOBE_FORMATTER : Sta Z Z.heap zs8 zs13 zs10 (own_rf fm1)) (S_StringUTF16__assertionsDisabled : Sta Z Z.heap zs3 zs12 "Z" (.int (1 : Int32))) (S_StringUTF16_HI_BYTE_SHIFT : Sta Z Z.heap zs3 zs15 "I" (.int (0 : Int32))) (S_StringUTF16_LO_BYTE_SHIFT : Sta Z Z.heap zs3 zs16 "I" (.int (8 : Int32))) :
    MetFree l (⟨zs5, "parse", zs9⟩ : MethodName) (head1 (Jvm.Cond.code (⟨zs5, "parse", zs9⟩ : MethodName) prog_15_method_4_code 7 (some (.object zs2)) :: ws) ({ frames := 5, cells := 3, slots := 164, locals := 66 } : Room)) (fun a U => a = #[(.ref a2363), (.long (81 : Int64))] ∧ Z.Warmed39 U.vm ∧ U.heap = h0) (fun _ _ _ _ _ => True) (fun _ U o U' => ∃ v L, o = .returned v ∧ Q38 Z a2363 w36 f2368 rd1 w39 kc_w39 a2370 k2371 i43 fm1 h0 n0 v U'.heap L ∧ FrameEnd U o U' L ({ frames := 5, cells := 3, slots := 164, locals := 66 } : Room).cells ({ frames := 5, cells := 3, slots := 164, locals := 66 } : Room).slots) := by
  refine MetFree.of_bodySF (plainFor_of_name pn_8) hisR ?_
  intro p e s m args below meth c s₁ Bd hml0 hP hK
  obtain ⟨rfl, hZ, hh⟩ := hP
  have hx := Bd.exec
  have hby := Bd.bytes
  have hml : c.maxLocals = 7 := hml0
  have hown : s.vm.findClass zs5 = some m.cls := findClass_of_methodNamed Bd.named
  have hnm := (name_of_methodNamed Bd.named Bd.method).1
  have X0 : Stand p l e ({ frames := 5, cells := 3, slots := 164, locals := 66 } : Room) s m #[(.ref a2363), (.long (81 : Int64))] below meth c s₁ [] 0 0 := Stand.of_body Bd
  have e0 : s₁.heap = h0 := by rw [← hh, Bd.state]; rfl
  have N0 := Fr.nil n0
  refine own_out ?_
  refine own_via (fun t k => castTop (ef_16 m a2363 (81 : Int64)) (XS.lloadN X0.here hx rfl (hb hby d8_0) rfl k)) ?_
  obtain ⟨T2423, X2423, e2423, st2423⟩ := getS2 X0 hx hZ hown (host := "") (Or.inl (wd hw 42 rfl)) Via.refl e0 (S_PuzzleLine_SHAPE.ext O0.2) (g := (mkF m 1 #[rv a2363, .val (.long (81 : Int64)), .second, .unset, .unset, .unset, .unset] [(.long (81 : Int64))])) rfl (hb hby d8_1)
  refine own_via (fun t k => st2423 t k) ?_
  obtain ⟨_, T2424, _, X2424, hQ2424, st2424⟩ := own_cv X2423 hx hZ hown (wd hw 44 rfl) (wd hw 45 rfl) (wd hw 47 rfl) (wd hw 46 rfl) (wd hw 49 rfl) (wd hw 48 rfl) (by decide) (rm7 l Z a0 hw [] w36 h0 n0 O0 SF_w36_side) e2423 (SE_w36.ext O0.2) (g := (mkF m 4 #[rv a2363, .val (.long (81 : Int64)), .second, .unset, .unset, .unset, .unset] [(.ref w36), (.long (81 : Int64))])) rfl (by rw [hml]; rfl) (rest := [(.long (81 : Int64))]) (W := 2) (lenOf pd_7 rfl) rfl (by show 2 * 0 + _ ≤ _; exact Nat.le_of_eq rfl) (hb hby d8_4) (by decide) (by decide) (by decide) (by decide)
  obtain ⟨rfl, Nq2424, hh2425⟩ := hQ2424
  have N2424 := Fr.app N0 Nq2424
  refine own_via (fun t k => st2424 t (XS.i2l X2424.here hx rfl (hb hby d8_7) rfl (XS.lcmp X2424.here hx rfl (hb hby d8_8) rfl (XS.ifYes X2424.here hx rfl (pc0 := 9) (pc' := 32) rfl (hb hby d8_9) rfl ((if0 _ _).trans (teq (by decide : (0 : Int32) = (0 : Int32))).1) (by decide) (by decide) k)))) ?_
  show own_Goes p e below (T2424.setTop (mkF m 32 #[rv a2363, .val (.long (81 : Int64)), .second, .unset, .unset, .unset, .unset] [])) _
  obtain ⟨T2426, X2426, e2426, st2426⟩ := getS2 X2424 hx hZ hown (host := "") (Or.inl (wd hw 42 rfl)) Via.refl hh2425 (S_PuzzleLine_SHAPE.ext O0.2) (g := (mkF m 32 #[rv a2363, .val (.long (81 : Int64)), .second, .unset, .unset, .unset, .unset] [])) rfl (hb hby d8_32)
  refine own_via (fun t k => st2426 t k) ?_
  obtain ⟨_, T2427, _, X2427, hQ2427, st2427⟩ := own_cv X2426 hx hZ hown (wd hw 44 rfl) (wd hw 45 rfl) (wd hw 47 rfl) (wd hw 46 rfl) (wd hw 49 rfl) (wd hw 48 rfl) (by decide) (rm7 l Z a0 hw [] w36 h0 n0 O0 SF_w36_side) e2426 (SE_w36.ext O0.2) (g := (mkF m 35 #[rv a2363, .val (.long (81 : Int64)), .second, .unset, .unset, .unset, .unset] [(.ref w36)])) rfl (by rw [hml]; rfl) (rest := []) (W := 0) (lenOf pd_7 rfl) rfl (by show 2 * 0 + _ ≤ _; exact Nat.le_of_eq rfl) (hb hby d8_35) (by decide) (by decide) (by decide) (by decide)
  obtain ⟨rfl, Nq2427, hh2428⟩ := hQ2427
  have N2427 := Fr.app N2424 Nq2427
  refine own_via (fun t k => st2427 t k) ?_
  obtain ⟨T2429, h2429, k2429, X2429, e2429, E2429, A2429, a2429x, st2429⟩ := newPE X2427 hx hZ (wd hw 52 rfl) hh2428 (g := (mkF m 38 #[rv a2363, .val (.long (81 : Int64)), .second, .unset, .unset, .unset, .unset] [(.int (81 : Int32))])) rfl (hb hby d8_38) rfl (by decide) (cap := 81) (by decide) (by decide) (by decide) (by decide) (ad := "[I") (by decide)
  obtain ⟨b2430, q2429⟩ : ∃ z, z = h0.size := ⟨_, rfl⟩
  rw [← q2429] at A2429 st2429 a2429x
  refine own_via (fun t k => st2429 t k) ?_
  have g2431 : n0 ≤ b2430 := Nat.le_trans (own_old O0) (Nat.le_of_eq q2429.symm)
  have B2432 : h0.size ≤ b2430 := Nat.le_trans (Nat.le_refl _) (Nat.le_of_eq q2429.symm)
  have V2433 : Arv Z h2429 b2430 k2429 .int (81 : Int32) [] (.int (0 : Int32)) := Arv.new A2429 (by decide)
  show own_Goes p e below (T2429.setTop (mkF m 40 #[rv a2363, .val (.long (81 : Int64)), .second, .unset, .unset, .unset, .unset] [(.ref b2430)])) _
  refine own_via (fun t k => XS.astoreN X2429.here hx rfl (hb hby d8_40) rfl rfl (l' := #[rv a2363, .val (.long (81 : Int64)), .second, rv b2430, .unset, .unset, .unset]) rfl (XS.iconst X2429.here hx rfl (hb hby d8_41) (XS.istore X2429.here hx rfl (hb hby d8_42) rfl (l' := #[rv a2363, .val (.long (81 : Int64)), .second, rv b2430, iv (0 : Int32), .unset, .unset]) rfl k))) ?_
  show own_Goes p e below (T2429.setTop (mkF m 44 #[rv a2363, .val (.long (81 : Int64)), .second, rv b2430, iv (0 : Int32), .unset, .unset] [])) _
  have V2434 : Arv Z h2429 b2430 k2429 .int (81 : Int32) (own_vs 81 (own_dg 0 f2368 rd1)) (.int (0 : Int32)) := own_z_new V2433 (own_dg_zero _ _)
  have O2435 : Old Z n0 h2429 := (O0.ext E2429)
  have E2922 : Exa Z h2429 a2363 zs1 := (pE_a2363.ext E2429)
  have F2923 : Fld Z h2429 a2363 zs1 "coder" "B" (.int (1 : Int32)) := (pF_a2363_coder.ext E2429)
  have F2924 : Fld Z h2429 a2363 zs1 "value" "[B" (.ref a2370) := (pF_a2363_value.ext E2429)
  have L2925 : own_Len Z h2429 a2370 .byte (164 : Int32) := (own_len_ext pL_a2370 E2429)
  have V2926 : Arv Z h2429 a2370 k2371 .byte (164 : Int32) (own_vs 164 (own_wt 82 f2368)) (.int (0 : Int32)) := (pV_a2370.ext E2429)
  obtain ⟨T2927, h2927, L2927, s52927, s62927, X2927, e2927, N2927, K2927, V2927, st2927⟩ := own_lpP (sa := a2363) (b := b2430) (w := w39) (f := f2368) (rd := rd1) (fr := 4) (lo := 53) (P := fun h => Exa Z h a2363 zs1 ∧ Fld Z h a2363 zs1 "coder" "B" (.int (1 : Int32)) ∧ Fld Z h a2363 zs1 "value" "[B" (.ref a2370) ∧ own_Len Z h a2370 .byte (164 : Int32) ∧ Arv Z h a2370 k2371 .byte (164 : Int32) (own_vs 164 (own_wt 82 f2368)) (.int (0 : Int32))) hx hZ hown hw hby hml g2431 (own_lowP pC2420 pC2373) S_PuzzleLine_READS_AS SV_w39 (fun h q => q.1) (fun h h' q K => ⟨(q.1.keep K), (q.2.1.keep K (ninS (Nat.ne_of_lt (Nat.lt_of_lt_of_le pE_a2363.lt B2432)) nin0)), (q.2.2.1.keep K (ninS (Nat.ne_of_lt (Nat.lt_of_lt_of_le pE_a2363.lt B2432)) nin0)), (own_len_keep q.2.2.2.1 K (ninS (Nat.ne_of_lt (Nat.lt_of_lt_of_le pE_a2370.lt B2432)) nin0)), (q.2.2.2.2.keep K (ninS (Nat.ne_of_lt (Nat.lt_of_lt_of_le pE_a2370.lt B2432)) nin0))⟩) (fun h k hk O q => own_recast (congrArg f2368 (own_nat hk)) (rm37 l Z a0 hw [] a2363 (Int32.ofNat k) i43 a2370 fm1 k2371 f2368 h n0 O S_String_COMPACT_STRINGS pC2372 q.2.1 q.1 q.2.2.1 q.2.2.2.1 S_Preconditions_SIOOBE_FORMATTER (own_ix hk).1 (own_ix hk).2.2 q.2.2.2.2 S_StringUTF16__assertionsDisabled S_StringUTF16_HI_BYTE_SHIFT S_StringUTF16_LO_BYTE_SHIFT (own_ix hk).2.1 pC2420)) (by decide) (by decide) (by decide) (by decide) 81 0 T2429 h2429 _ none none rfl X2429 e2429 N2427 O2435 ⟨E2922, F2923, F2924, L2925, V2926⟩ V2434
  refine own_via (fun t k => st2927 t (XS.iload X2927.here hx rfl (hb hby d8_44) rfl (XS.aloadN X2927.here hx rfl (hb hby d8_46) rfl rfl k))) ?_
  show own_Goes p e below (T2927.setTop (mkF m 47 #[rv a2363, .val (.long (81 : Int64)), .second, rv b2430, iv (81 : Int32), own_sl s52927, own_sl s62927] [(.ref b2430), (.int (81 : Int32))])) _
  obtain ⟨cl2928, Ar2928, -, S2928, M2928, -, -⟩ := id (V2927)
  refine own_via (fun t k => X2927.arraylength hx (by rw [e2927]; exact Ar2928.1) (State.isArrayOf_alike hZ.alike Ar2928.2.1) (g := (mkF m 47 #[rv a2363, .val (.long (81 : Int64)), .second, rv b2430, iv (81 : Int32), own_sl s52927, own_sl s62927] [(.ref b2430), (.int (81 : Int32))])) rfl rfl (hb hby d8_47) t k) ?_
  rw [len_of S2928 M2928]
  show own_Goes p e below (T2927.setTop (mkF m 48 #[rv a2363, .val (.long (81 : Int64)), .second, rv b2430, iv (81 : Int32), own_sl s52927, own_sl s62927] [(.int (81 : Int32)), (.int (81 : Int32))])) _
  refine own_via (fun t k => XS.icmpYes X2927.here hx rfl (pc0 := 48) (pc' := 124) rfl (hb hby d8_48) rfl (flt (by decide : ¬ ((81 : Int32) < (81 : Int32)))).2.1 (by decide) (by decide) k) ?_
  have O2930 : Old Z n0 h2927 := (O2435.keep K2927 (allS g2431 all0))
  obtain ⟨T2929, X2929, e2929, st2929⟩ := getS2 X2927 hx hZ hown (host := "") (Or.inl (wd hw 42 rfl)) Via.refl e2927 (S_PuzzleLine_SHAPE.ext O2930.2) (g := (mkF m 124 #[rv a2363, .val (.long (81 : Int64)), .second, rv b2430, iv (81 : Int32), own_sl s52927, own_sl s62927] [])) rfl (hb hby d8_124)
  refine own_via (fun t k => st2929 t (XS.aloadN X2929.here hx rfl (hb hby d8_127) rfl rfl k)) ?_
  have E2932 : Exa Z h2927 b2430 "[I" := (a2429x.keep K2927)
  obtain ⟨_, T2931, _, X2931, hQ2931, st2931⟩ := own_cs X2929 hx hZ hown (wd hw 77 rfl) (wd hw 78 rfl) (wd hw 80 rfl) (wd hw 79 rfl) (by decide) (rm15 l Z a0 hw [] w36 b2430 k2429 f2368 rd1 h2927 n0 O2930 V2927 E2932 SF_w36_side SE_w36 (own_digs_mk pC2420 pC2373)) e2929 (g := (mkF m 128 #[rv a2363, .val (.long (81 : Int64)), .second, rv b2430, iv (81 : Int32), own_sl s52927, own_sl s62927] [(.ref b2430), (.ref w36)])) rfl (by rw [hml]; rfl) (rest := []) (W := 0) (lenOf pd_13 rfl) rfl (by show 2 * 0 + _ ≤ _; exact Nat.le_of_eq rfl) (hb hby d8_128) (by decide) (by decide) (by decide) (by decide)
  obtain ⟨h2931, e2931⟩ : ∃ z, T2931.heap = z := ⟨_, rfl⟩
  rw [e2931] at hQ2931
  obtain ⟨b2933, k2934, b2935, rfl, Nq2931, K2931, bx2936, vx2937, ex2938, bx2939, ex2940, fx2941, fx2942, nx2943⟩ := hQ2931
  have N2931 := Fr.app N2927 Nq2931
  have N2944 : b2430 ≠ b2933 := Nat.ne_of_lt (Nat.lt_of_lt_of_le E2932.lt bx2936)
  have g2945 : n0 ≤ b2933 := Nat.le_trans (own_old O2930) bx2936
  have Z2947 : h0.size ≤ h2927.size := (Nat.le_trans (Nat.le_trans (Nat.le_refl _) E2429.1) K2927.1)
  have B2946 : h0.size ≤ b2933 := Nat.le_trans Z2947 bx2936
  have N2948 : b2430 ≠ b2935 := Nat.ne_of_lt (Nat.lt_of_lt_of_le E2932.lt bx2939)
  have g2949 : n0 ≤ b2935 := Nat.le_trans (own_old O2930) bx2939
  have B2950 : h0.size ≤ b2935 := Nat.le_trans Z2947 bx2939
  refine own_via (fun t k => st2931 t k) ?_
  obtain ⟨fs, hr, hrun, hended, hW, hsame⟩ := X2931.leave (v := some (.ref b2935)) (fun h => by rw [Bd.returns] at h; cases h)
  refine own_end (t := T2931.setFrames fs) ?_ ⟨_, hrun, hended, _, _, rfl, ?_, ⟨_, rfl⟩, hW, hsame.mono (by decide) (by decide)⟩
  · jvm_step X2931.here [X2931.here.top, hx, (hb hby d8_131), X2931.method', Bd.returns, Value.isRef, FieldType.isReference]
    first | (intro acts; rw [hr _ acts rfl rfl rfl]) | rw [hr _ _ rfl rfl rfl]
    exact Steps.refl _
  · show Q38 Z a2363 w36 f2368 rd1 w39 kc_w39 a2370 k2371 i43 fm1 h0 n0 _ T2931.heap _
    rw [e2931]
    exact ⟨b2933, k2934, b2935, rfl, N2931, ((((Keep.refl h0 []).ext E2429).trans K2927 (allS (Or.inr B2432) all0)).trans K2931 all0), B2946, vx2937, ex2938, B2950, ex2940, fx2941, fx2942, nx2943⟩
def Q39 (Z : State) (a3196 : Addr) (a3197 : Addr) (f3201 : Nat → Int32) (k3205 : ClassId) (k3202 : ClassId) (h0 : Heap) (n0 : Nat) (v : Option Value) (h : Heap) (L : List Loc) : Prop := v = some (.int (82 : Int32)) ∧ Fr n0 L ∧ Keep h0 h [a3197] ∧ Arv Z h a3197 k3205 .byte (82 : Int32) (own_vs 82 (own_bt 82 f3201)) (.int (0 : Int32)) ∧ Exa Z h a3197 "[B"
set_option maxRecDepth 65536 in
set_option maxHeartbeats 40000000 in
theorem rm39 (l : Launch) (Z : State) (a0 : Array Value) (hw : ∀ d ∈ tables_1, d.before a0 Z = true) (ws : List Jvm.Cond) (a3196 : Addr) (a3197 : Addr) (f3201 : Nat → Int32) (k3205 : ClassId) (k3202 : ClassId) (h0 : Heap) (n0 : Nat) (O0 : Old Z n0 h0) (pC3254 : own_okF f3201) (pC3256 : ¬ ((255 : Int32) < (f3201 81))) (pV_a3197 : Arv Z h0 a3197 k3205 .byte (82 : Int32) [] (.int (0 : Int32))) (pV_a3196 : Arv Z h0 a3196 k3202 .char (82 : Int32) (own_vs 82 f3201) (.int (0 : Int32))) (pG_a3197 : n0 ≤ a3197) (pE_a3197 : Exa Z h0 a3197 "[B") :
    MetFree l (⟨zs3, "compress", "([CI[BII)I"⟩ : MethodName) (head1 (Jvm.Cond.code (⟨zs3, "compress", "([CI[BII)I"⟩ : MethodName) jdk_52_method_21_code 7 (some .int) :: ws) ({ frames := 0, cells := 0, slots := 0, locals := 0 } : Room)) (fun a U => a = #[(.ref a3196), (.int (0 : Int32)), (.ref a3197), (.int (0 : Int32)), (.int (82 : Int32))] ∧ Z.Warmed39 U.vm ∧ U.heap = h0) (fun _ _ _ _ _ => True) (fun _ U o U' => ∃ v L, o = .returned v ∧ Q39 Z a3196 a3197 f3201 k3205 k3202 h0 n0 v U'.heap L ∧ FrameEnd U o U' L ({ frames := 0, cells := 0, slots := 0, locals := 0 } : Room).cells ({ frames := 0, cells := 0, slots := 0, locals := 0 } : Room).slots) := by
  refine MetFree.of_bodySF (plainFor_of_name pn_2) hisR ?_
  intro p e s m args below meth c s₁ Bd hml0 hP hK
  obtain ⟨rfl, hZ, hh⟩ := hP
  have hx := Bd.exec
  have hby := Bd.bytes
  have hml : c.maxLocals = 7 := hml0
  have hown : s.vm.findClass zs3 = some m.cls := findClass_of_methodNamed Bd.named
  have hnm := (name_of_methodNamed Bd.named Bd.method).1
  have X0 : Stand p l e ({ frames := 0, cells := 0, slots := 0, locals := 0 } : Room) s m #[(.ref a3196), (.int (0 : Int32)), (.ref a3197), (.int (0 : Int32)), (.int (82 : Int32))] below meth c s₁ [] 0 0 := Stand.of_body Bd
  have e0 : s₁.heap = h0 := by rw [← hh, Bd.state]; rfl
  have N0 := Fr.nil n0
  refine own_out ?_
  refine own_via (fun t k => castTop (ef_2 m a3196 (0 : Int32) a3197 (0 : Int32) (82 : Int32)) (XS.iconst X0.here hx rfl (hb hby d6_0) (XS.istore X0.here hx rfl (hb hby d6_1) rfl (l' := #[rv a3196, iv (0 : Int32), rv a3197, iv (0 : Int32), iv (82 : Int32), iv (0 : Int32), .unset]) rfl k))) ?_
  show own_Goes p e below (s₁.setTop (mkF m 3 #[rv a3196, iv (0 : Int32), rv a3197, iv (0 : Int32), iv (82 : Int32), iv (0 : Int32), .unset] [])) _
  have V3257 : Arv Z h0 a3197 k3205 .byte (82 : Int32) (own_vs 82 (own_bt 0 f3201)) (.int (0 : Int32)) := own_z_new pV_a3197 (own_bt_zero _)
  obtain ⟨T3258, h3258, L3258, s63258, X3258, e3258, N3258, K3258, -, V3258, st3258⟩ := own_lpC (a := a3196) (b := a3197) (N := 82) (q := 82) (f := f3201) hx hZ hby (by decide) (by decide) (own_lowC2 pC3254 pC3256) pG_a3197 (own_neV pV_a3196 pV_a3197 (by simp)) 82 0 s₁ h0 _ none rfl X0 e0 N0 pV_a3196 V3257
  refine own_via (fun t k => st3258 t (XS.iload X3258.here hx rfl (hb hby d6_3) rfl (XS.iload X3258.here hx rfl (hb hby d6_5) rfl (XS.icmpYes X3258.here hx rfl (pc0 := 7) (pc' := 44) rfl (hb hby d6_7) rfl (flt (by decide : ¬ ((82 : Int32) < (82 : Int32)))).2.1 (by decide) (by decide) (XS.iload X3258.here hx rfl (hb hby d6_44) rfl k))))) ?_
  show own_Goes p e below (T3258.setTop (mkF m 46 #[rv a3196, iv (82 : Int32), rv a3197, iv (82 : Int32), iv (82 : Int32), iv (82 : Int32), own_sl s63258] [(.int (82 : Int32))])) _
  obtain ⟨fs, hr, hrun, hended, hW, hsame⟩ := X3258.leave (v := some (.int (82 : Int32))) (fun h => by rw [Bd.returns] at h; cases h)
  refine own_end (t := T3258.setFrames fs) ?_ ⟨_, hrun, hended, _, _, rfl, ?_, ⟨_, rfl⟩, hW, hsame.mono (by decide) (by decide)⟩
  · exact retI X3258 hx Bd.returns (hb hby d6_46) hr
  have E3259 : Exa Z h3258 a3197 "[B" := (pE_a3197.keep K3258)
  · show Q39 Z a3196 a3197 f3201 k3205 k3202 h0 n0 _ T3258.heap _
    rw [e3258]
    exact ⟨rfl, N3258, ((Keep.refl h0 [a3197]).trans K3258 (allS (Or.inl (List.mem_of_getElem? (i := 0) rfl)) all0)), V3258, E3259⟩
def Q40 (Z : State) (a3131 : Addr) (f3135 : Nat → Int32) (k3136 : ClassId) (h0 : Heap) (n0 : Nat) (v : Option Value) (h : Heap) (L : List Loc) : Prop := (∃ (b3191 : Addr) (k3190 : ClassId), v = some (.ref b3191) ∧ Fr n0 L ∧ Keep h0 h [] ∧ h0.size ≤ b3191 ∧ Exa Z h b3191 "[B" ∧ Arv Z h b3191 k3190 .byte (82 : Int32) (own_vs 82 (own_bt 82 f3135)) (.int (0 : Int32)))
set_option maxRecDepth 65536 in
set_option maxHeartbeats 40000000 in
theorem rm40 (l : Launch) (Z : State) (a0 : Array Value) (hw : ∀ d ∈ tables_1, d.before a0 Z = true) (ws : List Jvm.Cond) (a3131 : Addr) (f3135 : Nat → Int32) (k3136 : ClassId) (h0 : Heap) (n0 : Nat) (O0 : Old Z n0 h0) (pC3187 : own_okF f3135) (pC3189 : ¬ ((255 : Int32) < (f3135 81))) (pV_a3131 : Arv Z h0 a3131 k3136 .char (82 : Int32) (own_vs 82 f3135) (.int (0 : Int32))) :
    MetFree l (⟨zs3, "compress", "([CII)[B"⟩ : MethodName) (head1 (Jvm.Cond.code (⟨zs3, "compress", "([CII)[B"⟩ : MethodName) jdk_52_method_16_code 6 (some (.array .byte)) :: ws) ({ frames := 1, cells := 1, slots := 82, locals := 18 } : Room)) (fun a U => a = #[(.ref a3131), (.int (0 : Int32)), (.int (82 : Int32))] ∧ Z.Warmed39 U.vm ∧ U.heap = h0) (fun _ _ _ _ _ => True) (fun _ U o U' => ∃ v L, o = .returned v ∧ Q40 Z a3131 f3135 k3136 h0 n0 v U'.heap L ∧ FrameEnd U o U' L ({ frames := 1, cells := 1, slots := 82, locals := 18 } : Room).cells ({ frames := 1, cells := 1, slots := 82, locals := 18 } : Room).slots) := by
  refine MetFree.of_bodySF (plainFor_of_name pn_2) hisR ?_
  intro p e s m args below meth c s₁ Bd hml0 hP hK
  obtain ⟨rfl, hZ, hh⟩ := hP
  have hx := Bd.exec
  have hby := Bd.bytes
  have hml : c.maxLocals = 6 := hml0
  have hown : s.vm.findClass zs3 = some m.cls := findClass_of_methodNamed Bd.named
  have hnm := (name_of_methodNamed Bd.named Bd.method).1
  have X0 : Stand p l e ({ frames := 1, cells := 1, slots := 82, locals := 18 } : Room) s m #[(.ref a3131), (.int (0 : Int32)), (.int (82 : Int32))] below meth c s₁ [] 0 0 := Stand.of_body Bd
  have e0 : s₁.heap = h0 := by rw [← hh, Bd.state]; rfl
  have N0 := Fr.nil n0
  refine own_out ?_
  refine own_via (fun t k => castTop (ef_3 m a3131 (0 : Int32) (82 : Int32)) (XS.iloadN X0.here hx rfl (hb hby d5_0) rfl k)) ?_
  obtain ⟨T3190, h3190, k3190, X3190, e3190, E3190, A3190, a3190x, st3190⟩ := newPE X0 hx hZ (wd hw 27 rfl) e0 (g := (mkF m 1 #[rv a3131, iv (0 : Int32), iv (82 : Int32), .unset, .unset, .unset] [(.int (82 : Int32))])) rfl (hb hby d5_1) rfl (by decide) (cap := 82) (by decide) (by decide) (by decide) (by decide) (ad := "[B") (by decide)
  obtain ⟨b3191, q3190⟩ : ∃ z, z = h0.size := ⟨_, rfl⟩
  rw [← q3190] at A3190 st3190 a3190x
  refine own_via (fun t k => st3190 t k) ?_
  have g3192 : n0 ≤ b3191 := Nat.le_trans (own_old O0) (Nat.le_of_eq q3190.symm)
  have B3193 : h0.size ≤ b3191 := Nat.le_trans (Nat.le_refl _) (Nat.le_of_eq q3190.symm)
  have V3194 : Arv Z h3190 b3191 k3190 .byte (82 : Int32) [] (.int (0 : Int32)) := Arv.new A3190 (by decide)
  show own_Goes p e below (T3190.setTop (mkF m 3 #[rv a3131, iv (0 : Int32), iv (82 : Int32), .unset, .unset, .unset] [(.ref b3191)])) _
  refine own_via (fun t k => XS.astoreN X3190.here hx rfl (hb hby d5_3) rfl rfl (l' := #[rv a3131, iv (0 : Int32), iv (82 : Int32), rv b3191, .unset, .unset]) rfl (XS.aloadN X3190.here hx rfl (hb hby d5_4) rfl rfl (XS.iloadN X3190.here hx rfl (hb hby d5_5) rfl (XS.aloadN X3190.here hx rfl (hb hby d5_6) rfl rfl (XS.iconst X3190.here hx rfl (hb hby d5_7) (XS.iloadN X3190.here hx rfl (hb hby d5_8) rfl k)))))) ?_
  show own_Goes p e below (T3190.setTop (mkF m 9 #[rv a3131, iv (0 : Int32), iv (82 : Int32), rv b3191, .unset, .unset] [(.int (82 : Int32)), (.int (0 : Int32)), (.ref b3191), (.int (0 : Int32)), (.ref a3131)])) _
  have V3260 : Arv Z h3190 a3131 k3136 .char (82 : Int32) (own_vs 82 f3135) (.int (0 : Int32)) := (pV_a3131.ext E3190)
  have O3261 : Old Z n0 h3190 := (O0.ext E3190)
  obtain ⟨_, T3195, _, X3195, hQ3195, st3195⟩ := own_cs X3190 hx hZ hown (wd hw 28 rfl) (wd hw 29 rfl) (wd hw 30 rfl) (wd hw 25 rfl) (by decide) (rm39 l Z a0 hw [] a3131 b3191 f3135 k3190 k3136 h3190 n0 O3261 pC3187 pC3189 V3194 V3260 g3192 a3190x) e3190 (g := (mkF m 9 #[rv a3131, iv (0 : Int32), iv (82 : Int32), rv b3191, .unset, .unset] [(.int (82 : Int32)), (.int (0 : Int32)), (.ref b3191), (.int (0 : Int32)), (.ref a3131)])) rfl (by rw [hml]; rfl) (rest := []) (W := 0) (lenOf pd_2 rfl) rfl (by show 2 * 0 + _ ≤ _; exact Nat.le_of_eq rfl) (hb hby d5_9) (by decide) (by decide) (by decide) (by decide)
  obtain ⟨h3195, e3195⟩ : ∃ z, T3195.heap = z := ⟨_, rfl⟩
  rw [e3195] at hQ3195
  obtain ⟨rfl, Nq3195, K3195, vx3262, ex3263⟩ := hQ3195
  have N3195 := Fr.app N0 Nq3195
  refine own_via (fun t k => st3195 t (XS.istore X3195.here hx rfl (hb hby d5_12) rfl (l' := #[rv a3131, iv (0 : Int32), iv (82 : Int32), rv b3191, iv (82 : Int32), .unset]) rfl (XS.iload X3195.here hx rfl (hb hby d5_14) rfl (XS.iloadN X3195.here hx rfl (hb hby d5_16) rfl (XS.icmpYes X3195.here hx rfl (pc0 := 17) (pc' := 57) rfl (hb hby d5_17) rfl (teq (by decide : (82 : Int32) = (82 : Int32))).1 (by decide) (by decide) (XS.aloadN X3195.here hx rfl (hb hby d5_57) rfl rfl k)))))) ?_
  show own_Goes p e below (T3195.setTop (mkF m 58 #[rv a3131, iv (0 : Int32), iv (82 : Int32), rv b3191, iv (82 : Int32), .unset] [(.ref b3191)])) _
  obtain ⟨fs, hr, hrun, hended, hW, hsame⟩ := X3195.leave (v := some (.ref b3191)) (fun h => by rw [Bd.returns] at h; cases h)
  refine own_end (t := T3195.setFrames fs) ?_ ⟨_, hrun, hended, _, _, rfl, ?_, ⟨_, rfl⟩, hW, hsame.mono (by decide) (by decide)⟩
  · jvm_step X3195.here [X3195.here.top, hx, (hb hby d5_58), X3195.method', Bd.returns, Value.isRef, FieldType.isReference]
    first | (intro acts; rw [hr _ acts rfl rfl rfl]) | rw [hr _ _ rfl rfl rfl]
    exact Steps.refl _
  · show Q40 Z a3131 f3135 k3136 h0 n0 _ T3195.heap _
    rw [e3195]
    exact ⟨b3191, k3190, rfl, N3195, (((Keep.refl h0 []).ext E3190).trans K3195 (allS (Or.inr B3193) all0)), B3193, ex3263, vx3262⟩
def Q41 (Z : State) (a3272 : Addr) (h0 : Heap) (n0 : Nat) (v : Option Value) (h : Heap) (L : List Loc) : Prop := v = some (.int (0 : Int32)) ∧ Fr n0 L ∧ h = h0
set_option maxRecDepth 65536 in
set_option maxHeartbeats 40000000 in
theorem rm41 (l : Launch) (Z : State) (a0 : Array Value) (hw : ∀ d ∈ tables_1, d.before a0 Z = true) (ws : List Jvm.Cond) (a3272 : Addr) (h0 : Heap) (n0 : Nat) (O0 : Old Z n0 h0) (pL_a3272 : own_Len Z h0 a3272 .byte (82 : Int32)) :
    MetFree l (⟨zs3, zs19, "([BI)B"⟩ : MethodName) (head1 (Jvm.Cond.code (⟨zs3, zs19, "([BI)B"⟩ : MethodName) jdk_52_method_15_code 2 (some .byte) :: ws) ({ frames := 0, cells := 0, slots := 0, locals := 0 } : Room)) (fun a U => a = #[(.ref a3272), (.int (82 : Int32))] ∧ Z.Warmed39 U.vm ∧ U.heap = h0) (fun _ _ _ _ _ => True) (fun _ U o U' => ∃ v L, o = .returned v ∧ Q41 Z a3272 h0 n0 v U'.heap L ∧ FrameEnd U o U' L ({ frames := 0, cells := 0, slots := 0, locals := 0 } : Room).cells ({ frames := 0, cells := 0, slots := 0, locals := 0 } : Room).slots) := by
  refine MetFree.of_bodySF (plainFor_of_name pn_2) hisR ?_
  intro p e s m args below meth c s₁ Bd hml0 hP hK
  obtain ⟨rfl, hZ, hh⟩ := hP
  have hx := Bd.exec
  have hby := Bd.bytes
  have hml : c.maxLocals = 2 := hml0
  have hown : s.vm.findClass zs3 = some m.cls := findClass_of_methodNamed Bd.named
  have hnm := (name_of_methodNamed Bd.named Bd.method).1
  have X0 : Stand p l e ({ frames := 0, cells := 0, slots := 0, locals := 0 } : Room) s m #[(.ref a3272), (.int (82 : Int32))] below meth c s₁ [] 0 0 := Stand.of_body Bd
  have e0 : s₁.heap = h0 := by rw [← hh, Bd.state]; rfl
  have N0 := Fr.nil n0
  refine own_out ?_
  refine own_via (fun t k => castTop (ef_4 m a3272 (82 : Int32)) (XS.iloadN X0.here hx rfl (hb hby d7_0) rfl (XS.aloadN X0.here hx rfl (hb hby d7_1) rfl rfl k))) ?_
  show own_Goes p e below (s₁.setTop (mkF m 2 #[rv a3272, iv (82 : Int32)] [(.ref a3272), (.int (82 : Int32))])) _
  obtain ⟨_, _, _, V3333⟩ := id (pL_a3272)
  obtain ⟨cl3333, Ar3333, -, S3333, M3333, -, -⟩ := id (V3333)
  refine own_via (fun t k => X0.arraylength hx (by rw [e0]; exact Ar3333.1) (State.isArrayOf_alike hZ.alike Ar3333.2.1) (g := (mkF m 2 #[rv a3272, iv (82 : Int32)] [(.ref a3272), (.int (82 : Int32))])) rfl rfl (hb hby d7_2) t k) ?_
  rw [len_of S3333 M3333]
  show own_Goes p e below (s₁.setTop (mkF m 3 #[rv a3272, iv (82 : Int32)] [(.int (82 : Int32)), (.int (82 : Int32))])) _
  refine own_via (fun t k => XS.isub X0.here hx rfl (hb hby d7_3) rfl (XS.bipush X0.here hx rfl (hb hby d7_4) (XS.iushr X0.here hx rfl (hb hby d7_6) rfl (XS.i2b X0.here hx rfl (hb hby d7_7) rfl k)))) ?_
  show own_Goes p e below (s₁.setTop (mkF m 8 #[rv a3272, iv (82 : Int32)] [(.int (0 : Int32))])) _
  obtain ⟨fs, hr, hrun, hended, hW, hsame⟩ := X0.leave (v := some (.int (0 : Int32))) (fun h => by rw [Bd.returns] at h; cases h)
  refine own_end (t := s₁.setFrames fs) ?_ ⟨_, hrun, hended, _, _, rfl, ?_, ⟨_, rfl⟩, hW, hsame.mono (by decide) (by decide)⟩
  · exact retN X0 hx (t := .byte) Bd.returns (by simp) (hb hby d7_8) hr
  · show Q41 Z a3272 h0 n0 _ s₁.heap _
    rw [e0]
    exact ⟨rfl, N0, rfl⟩
def Q42 (Z : State) (a3069 : Addr) (a3070 : Addr) (i43 : Int32) (f3074 : Nat → Int32) (k3075 : ClassId) (p3076 : Int32) (h0 : Heap) (n0 : Nat) (v : Option Value) (h : Heap) (L : List Loc) : Prop := (∃ (b3264 : Addr) (k3265 : ClassId), v = none ∧ Fr n0 L ∧ Keep h0 h [a3069] ∧ Exa Z h a3069 zs1 ∧ Fld Z h a3069 zs1 "coder" "B" (.int (0 : Int32)) ∧ Fld Z h a3069 zs1 "value" "[B" (.ref b3264) ∧ h0.size ≤ b3264 ∧ Exa Z h b3264 "[B" ∧ Arv Z h b3264 k3265 .byte (82 : Int32) (own_vs 82 (own_bt 82 f3074)) (.int (0 : Int32)))
set_option maxRecDepth 65536 in
set_option maxHeartbeats 40000000 in
theorem rm42 (l : Launch) (Z : State) (a0 : Array Value) (hw : ∀ d ∈ tables_1, d.before a0 Z = true) (ws : List Jvm.Cond) (a3069 : Addr) (a3070 : Addr) (i43 : Int32) (f3074 : Nat → Int32) (k3075 : ClassId) (p3076 : Int32) (h0 : Heap) (n0 : Nat) (O0 : Old Z n0 h0) (S_String_COMPACT_STRINGS : Sta Z Z.heap zs1 zs11 "Z" (.int i43)) (pC3077 : ¬ (i43 = (0 : Int32))) (pC3125 : own_okF f3074) (pC3127 : ¬ ((255 : Int32) < (f3074 81))) (pV_a3070 : Arv Z h0 a3070 k3075 .char (82 : Int32) (own_vs 82 f3074) (.int (0 : Int32))) (pF_a3069_coder : Fld Z h0 a3069 zs1 "coder" "B" (.int p3076)) (pE_a3069 : Exa Z h0 a3069 zs1) (pG_a3069 : n0 ≤ a3069) (pF_a3069_value : Fld Z h0 a3069 zs1 "value" "[B" .null) :
    MetFree l (⟨zs1, "<init>", zs17⟩ : MethodName) (head1 (Jvm.Cond.code (⟨zs1, "<init>", zs17⟩ : MethodName) jdk_42_method_149_code 6 none :: ws) ({ frames := 2, cells := 1, slots := 82, locals := 35 } : Room)) (fun a U => a = #[(.ref a3069), (.ref a3070), (.int (0 : Int32)), (.int (82 : Int32)), .null] ∧ Z.Warmed39 U.vm ∧ U.heap = h0) (fun _ _ _ _ _ => True) (fun _ U o U' => ∃ v L, o = .returned v ∧ Q42 Z a3069 a3070 i43 f3074 k3075 p3076 h0 n0 v U'.heap L ∧ FrameEnd U o U' L ({ frames := 2, cells := 1, slots := 82, locals := 35 } : Room).cells ({ frames := 2, cells := 1, slots := 82, locals := 35 } : Room).slots) := by
  refine MetFree.of_bodySF (plainFor_of_name pn_3) hisR ?_
  intro p e s m args below meth c s₁ Bd hml0 hP hK
  obtain ⟨rfl, hZ, hh⟩ := hP
  have hx := Bd.exec
  have hby := Bd.bytes
  have hml : c.maxLocals = 6 := hml0
  have hown : s.vm.findClass zs1 = some m.cls := findClass_of_methodNamed Bd.named
  have hnm := (name_of_methodNamed Bd.named Bd.method).1
  have X0 : Stand p l e ({ frames := 2, cells := 1, slots := 82, locals := 35 } : Room) s m #[(.ref a3069), (.ref a3070), (.int (0 : Int32)), (.int (82 : Int32)), .null] below meth c s₁ [] 0 0 := Stand.of_body Bd
  have e0 : s₁.heap = h0 := by rw [← hh, Bd.state]; rfl
  have N0 := Fr.nil n0
  refine own_out ?_
  refine own_via (fun t k => castTop (ef_5 m a3069 a3070 (0 : Int32) (82 : Int32)) (XS.aloadN X0.here hx rfl (hb hby d3_0) rfl rfl k)) ?_
  obtain ⟨T3128, X3128, e3128, st3128⟩ := initO X0 hx hZ hown (wd hw 19 rfl) (wd hw 20 rfl) (wd hw 21 rfl) e0 (g := (mkF m 1 #[rv a3069, rv a3070, iv (0 : Int32), iv (82 : Int32), .val .null, .unset] [(.ref a3069)])) rfl (by rw [hml]; rfl) rfl (hb hby d3_1) (by decide) (W := 0) (by show 2 * 0 + _ ≤ _; exact Nat.le_of_eq rfl) (by decide)
  refine own_via (fun t k => st3128 t (XS.iloadN X3128.here hx rfl (hb hby d3_4) rfl (XS.ifYes X3128.here hx rfl (pc0 := 5) (pc' := 27) rfl (hb hby d3_5) rfl ((if0 _ _).trans (feq (by decide : ¬ ((82 : Int32) = (0 : Int32)))).2) (by decide) (by decide) k))) ?_
  show own_Goes p e below (T3128.setTop (mkF m 27 #[rv a3069, rv a3070, iv (0 : Int32), iv (82 : Int32), .val .null, .unset] [])) _
  obtain ⟨T3129, X3129, e3129, st3129⟩ := getS2 X3128 hx hZ hown (host := "") (Or.inl (wd hw 22 rfl)) Via.refl e3128 (S_String_COMPACT_STRINGS.ext O0.2) (g := (mkF m 27 #[rv a3069, rv a3070, iv (0 : Int32), iv (82 : Int32), .val .null, .unset] [])) rfl (hb hby d3_27)
  refine own_via (fun t k => st3129 t (XS.ifNo X3129.here hx rfl (hb hby d3_30) rfl ((if0 _ _).trans (feq pC3077).1) (XS.aloadN X3129.here hx rfl (hb hby d3_33) rfl rfl (XS.iloadN X3129.here hx rfl (hb hby d3_34) rfl (XS.iloadN X3129.here hx rfl (hb hby d3_35) rfl k))))) ?_
  show own_Goes p e below (T3129.setTop (mkF m 36 #[rv a3069, rv a3070, iv (0 : Int32), iv (82 : Int32), .val .null, .unset] [(.int (82 : Int32)), (.int (0 : Int32)), (.ref a3070)])) _
  obtain ⟨_, T3130, _, X3130, hQ3130, st3130⟩ := own_cs X3129 hx hZ hown (wd hw 23 rfl) (wd hw 24 rfl) (wd hw 26 rfl) (wd hw 25 rfl) (by decide) (rm40 l Z a0 hw [] a3070 f3074 k3075 h0 n0 O0 pC3125 pC3127 pV_a3070) e3129 (g := (mkF m 36 #[rv a3069, rv a3070, iv (0 : Int32), iv (82 : Int32), .val .null, .unset] [(.int (82 : Int32)), (.int (0 : Int32)), (.ref a3070)])) rfl (by rw [hml]; rfl) (rest := []) (W := 0) (lenOf pd_3 rfl) rfl (by show 2 * 0 + _ ≤ _; exact Nat.le_of_eq rfl) (hb hby d3_36) (by decide) (by decide) (by decide) (by decide)
  obtain ⟨h3130, e3130⟩ : ∃ z, T3130.heap = z := ⟨_, rfl⟩
  rw [e3130] at hQ3130
  obtain ⟨b3264, k3265, rfl, Nq3130, K3130, bx3266, ex3267, vx3268⟩ := hQ3130
  have N3130 := Fr.app N0 Nq3130
  have g3269 : n0 ≤ b3264 := Nat.le_trans (own_old O0) bx3266
  have B3270 : h0.size ≤ b3264 := Nat.le_trans (Nat.le_refl _) bx3266
  refine own_via (fun t k => st3130 t (XS.astore X3130.here hx rfl (hb hby d3_39) rfl rfl (l' := #[rv a3069, rv a3070, iv (0 : Int32), iv (82 : Int32), .val .null, rv b3264]) rfl (XS.aloadN X3130.here hx rfl (hb hby d3_41) rfl rfl (XS.aload X3130.here hx rfl (hb hby d3_42) rfl rfl (XS.iloadN X3130.here hx rfl (hb hby d3_44) rfl k))))) ?_
  show own_Goes p e below (T3130.setTop (mkF m 45 #[rv a3069, rv a3070, iv (0 : Int32), iv (82 : Int32), .val .null, rv b3264] [(.int (82 : Int32)), (.ref b3264), (.ref a3069)])) _
  have l3334 : own_Len Z h3130 b3264 .byte (82 : Int32) := ⟨_, _, _, vx3268⟩
  have O3335 : Old Z n0 h3130 := (O0.keep K3130 all0)
  obtain ⟨_, T3271, _, X3271, hQ3271, st3271⟩ := own_cs X3130 hx hZ hown (wd hw 31 rfl) (wd hw 32 rfl) (wd hw 33 rfl) (wd hw 25 rfl) (by decide) (rm41 l Z a0 hw [] b3264 h3130 n0 O3335 l3334) e3130 (g := (mkF m 45 #[rv a3069, rv a3070, iv (0 : Int32), iv (82 : Int32), .val .null, rv b3264] [(.int (82 : Int32)), (.ref b3264), (.ref a3069)])) rfl (by rw [hml]; rfl) (rest := [(.ref a3069)]) (W := 1) (lenOf pd_4 rfl) rfl (by show 2 * 0 + _ ≤ _; exact Nat.le_of_eq rfl) (hb hby d3_45) (by decide) (by decide) (by decide) (by decide)
  obtain ⟨rfl, Nq3271, hh3336⟩ := hQ3271
  have N3271 := Fr.app N3130 Nq3271
  refine own_via (fun t k => st3271 t k) ?_
  have F3337 : Fld Z h3130 a3069 zs1 "coder" "B" (.int p3076) := (pF_a3069_coder.keep K3130 nin0)
  have E3338 : Exa Z h3130 a3069 zs1 := (pE_a3069.keep K3130)
  obtain ⟨T3339, h3339, X3339, e3339, W3339, st3339⟩ := putFN X3271 hx hZ hown (wd hw 34 rfl) Via.refl hh3336 F3337 E3338 (Or.inr ⟨(wd hw 35 rfl), rfl, hnm⟩) (wd hw 10 rfl) (ty := .byte) (v' := (.int (0 : Int32))) (by decide) rfl (by decide) (g := (mkF m 48 #[rv a3069, rv a3070, iv (0 : Int32), iv (82 : Int32), .val .null, rv b3264] [(.int (0 : Int32)), (.ref a3069)])) rfl rfl (hb hby d3_48)
  refine own_via (fun t k => st3339 t k) ?_
  have Fw3339 : Fld Z h3339 a3069 zs1 "coder" "B" (.int (0 : Int32)) := F3337.same W3339
  have N3339 := Fr.snoc X3339 N3271 pG_a3069
  show own_Goes p e below (T3339.setTop (mkF m 51 #[rv a3069, rv a3070, iv (0 : Int32), iv (82 : Int32), .val .null, rv b3264] [])) _
  refine own_via (fun t k => XS.aloadN X3339.here hx rfl (hb hby d3_51) rfl rfl (XS.aload X3339.here hx rfl (hb hby d3_52) rfl rfl k)) ?_
  have F3340 : Fld Z h3339 a3069 zs1 "value" "[B" .null := ((pF_a3069_value.keep K3130 nin0).other W3339 (Or.inr (slot_ne (Or.inr (wd hw 37 rfl)) (Or.inr (wd hw 35 rfl)) (by decide) (t := (.array .byte)) (t' := .byte) (by decide) (by decide))))
  have E3341 : Exa Z h3339 a3069 zs1 := (E3338.wr W3339)
  obtain ⟨T3342, h3342, X3342, e3342, W3342, st3342⟩ := putF X3339 hx hZ hown (host := "") (Or.inl (wd hw 36 rfl)) Via.refl e3339 F3340 E3341 (Or.inr ⟨(wd hw 37 rfl), rfl, hnm⟩) (wd hw 10 rfl) (ty := (.array .byte)) (by decide) rfl rfl (g := (mkF m 54 #[rv a3069, rv a3070, iv (0 : Int32), iv (82 : Int32), .val .null, rv b3264] [(.ref b3264), (.ref a3069)])) rfl rfl (hb hby d3_54)
  refine own_via (fun t k => st3342 t k) ?_
  have Fw3342 : Fld Z h3342 a3069 zs1 "value" "[B" (.ref b3264) := F3340.same W3342
  have N3342 := Fr.snoc X3342 N3339 pG_a3069
  show own_Goes p e below (T3342.setTop (mkF m 57 #[rv a3069, rv a3070, iv (0 : Int32), iv (82 : Int32), .val .null, rv b3264] [])) _
  obtain ⟨fs, hr, hrun, hended, hW, hsame⟩ := X3342.leave (v := none) (fun _ => rfl)
  refine own_end (t := T3342.setFrames fs) ?_ ⟨_, hrun, hended, _, _, rfl, ?_, ⟨_, rfl⟩, hW, hsame.mono (by decide) (by decide)⟩
  · exact X3342.returnOut hx Bd.returns (hb hby d3_57) hr
  have E3343 : Exa Z h3342 a3069 zs1 := (E3341.wr W3342)
  have F3344 : Fld Z h3342 a3069 zs1 "coder" "B" (.int (0 : Int32)) := (Fw3339.other W3342 (Or.inr (slot_ne (Or.inr (wd hw 35 rfl)) (Or.inr (wd hw 37 rfl)) (by decide) (t := .byte) (t' := (.array .byte)) (by decide) (by decide))))
  have E3345 : Exa Z h3342 b3264 "[B" := ((ex3267.wr W3339).wr W3342)
  have V3346 : Arv Z h3342 b3264 k3265 .byte (82 : Int32) (own_vs 82 (own_bt 82 f3074)) (.int (0 : Int32)) := ((vx3268.other W3339 (Ne.symm (Nat.ne_of_lt (Nat.lt_of_lt_of_le pE_a3069.lt B3270)))).other W3342 (Ne.symm (Nat.ne_of_lt (Nat.lt_of_lt_of_le pE_a3069.lt B3270))))
  · show Q42 Z a3069 a3070 i43 f3074 k3075 p3076 h0 n0 _ T3342.heap _
    rw [e3342]
    exact ⟨b3264, k3265, rfl, N3342, ((((Keep.refl h0 [a3069]).trans K3130 all0).wr W3339 (Or.inl (List.mem_of_getElem? (i := 0) rfl))).wr W3342 (Or.inl (List.mem_of_getElem? (i := 0) rfl))), E3343, F3344, Fw3342, B3270, E3345, V3346⟩
def Q43 (Z : State) (a3008 : Addr) (a3009 : Addr) (i43 : Int32) (f3013 : Nat → Int32) (k3014 : ClassId) (p3015 : Int32) (h0 : Heap) (n0 : Nat) (v : Option Value) (h : Heap) (L : List Loc) : Prop := (∃ (b3347 : Addr) (k3348 : ClassId), v = none ∧ Fr n0 L ∧ Keep h0 h [a3008] ∧ Exa Z h a3008 zs1 ∧ Fld Z h a3008 zs1 "coder" "B" (.int (0 : Int32)) ∧ Fld Z h a3008 zs1 "value" "[B" (.ref b3347) ∧ h0.size ≤ b3347 ∧ Exa Z h b3347 "[B" ∧ Arv Z h b3347 k3348 .byte (82 : Int32) (own_vs 82 (own_bt 82 f3013)) (.int (0 : Int32)))
set_option maxRecDepth 65536 in
set_option maxHeartbeats 40000000 in
theorem rm43 (l : Launch) (Z : State) (a0 : Array Value) (hw : ∀ d ∈ tables_1, d.before a0 Z = true) (ws : List Jvm.Cond) (a3008 : Addr) (a3009 : Addr) (i43 : Int32) (f3013 : Nat → Int32) (k3014 : ClassId) (p3015 : Int32) (h0 : Heap) (n0 : Nat) (O0 : Old Z n0 h0) (pL_a3009 : own_Len Z h0 a3009 .char (82 : Int32)) (S_String_COMPACT_STRINGS : Sta Z Z.heap zs1 zs11 "Z" (.int i43)) (pC3016 : ¬ (i43 = (0 : Int32))) (pC3064 : own_okF f3013) (pC3066 : ¬ ((255 : Int32) < (f3013 81))) (pV_a3009 : Arv Z h0 a3009 k3014 .char (82 : Int32) (own_vs 82 f3013) (.int (0 : Int32))) (pF_a3008_coder : Fld Z h0 a3008 zs1 "coder" "B" (.int p3015)) (pE_a3008 : Exa Z h0 a3008 zs1) (pG_a3008 : n0 ≤ a3008) (pF_a3008_value : Fld Z h0 a3008 zs1 "value" "[B" .null) :
    MetFree l (⟨zs1, "<init>", "([C)V"⟩ : MethodName) (head1 (Jvm.Cond.code (⟨zs1, "<init>", "([C)V"⟩ : MethodName) jdk_42_method_3_code 2 none :: ws) ({ frames := 3, cells := 1, slots := 82, locals := 52 } : Room)) (fun a U => a = #[(.ref a3008), (.ref a3009)] ∧ Z.Warmed39 U.vm ∧ U.heap = h0) (fun _ _ _ _ _ => True) (fun _ U o U' => ∃ v L, o = .returned v ∧ Q43 Z a3008 a3009 i43 f3013 k3014 p3015 h0 n0 v U'.heap L ∧ FrameEnd U o U' L ({ frames := 3, cells := 1, slots := 82, locals := 52 } : Room).cells ({ frames := 3, cells := 1, slots := 82, locals := 52 } : Room).slots) := by
  refine MetFree.of_bodySF (plainFor_of_name pn_3) hisR ?_
  intro p e s m args below meth c s₁ Bd hml0 hP hK
  obtain ⟨rfl, hZ, hh⟩ := hP
  have hx := Bd.exec
  have hby := Bd.bytes
  have hml : c.maxLocals = 2 := hml0
  have hown : s.vm.findClass zs1 = some m.cls := findClass_of_methodNamed Bd.named
  have hnm := (name_of_methodNamed Bd.named Bd.method).1
  have X0 : Stand p l e ({ frames := 3, cells := 1, slots := 82, locals := 52 } : Room) s m #[(.ref a3008), (.ref a3009)] below meth c s₁ [] 0 0 := Stand.of_body Bd
  have e0 : s₁.heap = h0 := by rw [← hh, Bd.state]; rfl
  have N0 := Fr.nil n0
  refine own_out ?_
  refine own_via (fun t k => castTop (ef_6 m a3008 a3009) (XS.aloadN X0.here hx rfl (hb hby d2_0) rfl rfl (XS.aloadN X0.here hx rfl (hb hby d2_1) rfl rfl (XS.iconst X0.here hx rfl (hb hby d2_2) (XS.aloadN X0.here hx rfl (hb hby d2_3) rfl rfl k))))) ?_
  show own_Goes p e below (s₁.setTop (mkF m 4 #[rv a3008, rv a3009] [(.ref a3009), (.int (0 : Int32)), (.ref a3009), (.ref a3008)])) _
  obtain ⟨_, _, _, V3067⟩ := id (pL_a3009)
  obtain ⟨cl3067, Ar3067, -, S3067, M3067, -, -⟩ := id (V3067)
  refine own_via (fun t k => X0.arraylength hx (by rw [e0]; exact Ar3067.1) (State.isArrayOf_alike hZ.alike Ar3067.2.1) (g := (mkF m 4 #[rv a3008, rv a3009] [(.ref a3009), (.int (0 : Int32)), (.ref a3009), (.ref a3008)])) rfl rfl (hb hby d2_4) t k) ?_
  rw [len_of S3067 M3067]
  show own_Goes p e below (s₁.setTop (mkF m 5 #[rv a3008, rv a3009] [(.int (82 : Int32)), (.int (0 : Int32)), (.ref a3009), (.ref a3008)])) _
  refine own_via (fun t k => XS.aconstNull X0.here hx rfl (hb hby d2_5) k) ?_
  obtain ⟨_, T3068, _, X3068, hQ3068, st3068⟩ := own_ci X0 hx hZ hown (wd hw 15 rfl) (wd hw 16 rfl) (wd hw 18 rfl) (wd hw 11 rfl) rfl (by decide) (rm42 l Z a0 hw [] a3008 a3009 i43 f3013 k3014 p3015 h0 n0 O0 S_String_COMPACT_STRINGS pC3016 pC3064 pC3066 pV_a3009 pF_a3008_coder pE_a3008 pG_a3008 pF_a3008_value) e0 (g := (mkF m 6 #[rv a3008, rv a3009] [.null, (.int (82 : Int32)), (.int (0 : Int32)), (.ref a3009), (.ref a3008)])) rfl (by rw [hml]; rfl) (rest := []) (W := 0) (lenOf pd_5 rfl) rfl (by show 2 * 0 + _ ≤ _; exact Nat.le_of_eq rfl) (hb hby d2_6) (by decide) (by decide) (by decide) (by decide)
  obtain ⟨h3068, e3068⟩ : ∃ z, T3068.heap = z := ⟨_, rfl⟩
  rw [e3068] at hQ3068
  obtain ⟨b3347, k3348, rfl, Nq3068, K3068, ex3349, fx3350, fx3351, bx3352, ex3353, vx3354⟩ := hQ3068
  have N3068 := Fr.app N0 Nq3068
  have g3355 : n0 ≤ b3347 := Nat.le_trans (own_old O0) bx3352
  have B3356 : h0.size ≤ b3347 := Nat.le_trans (Nat.le_refl _) bx3352
  refine own_via (fun t k => st3068 t k) ?_
  obtain ⟨fs, hr, hrun, hended, hW, hsame⟩ := X3068.leave (v := none) (fun _ => rfl)
  refine own_end (t := T3068.setFrames fs) ?_ ⟨_, hrun, hended, _, _, rfl, ?_, ⟨_, rfl⟩, hW, hsame.mono (by decide) (by decide)⟩
  · exact X3068.returnOut hx Bd.returns (hb hby d2_9) hr
  · show Q43 Z a3008 a3009 i43 f3013 k3014 p3015 h0 n0 _ T3068.heap _
    rw [e3068]
    exact ⟨b3347, k3348, rfl, N3068, ((Keep.refl h0 [a3008]).trans K3068 (allS (Or.inl (List.mem_of_getElem? (i := 0) rfl)) all0)), ex3349, fx3350, fx3351, B3356, ex3353, vx3354⟩
def Q44 (Z : State) (a3521 : Addr) (p3522 : Int32) (fm1 : Option Addr) (k3531 : ClassId) (f3527 : Nat → Int32) (h0 : Heap) (n0 : Nat) (v : Option Value) (h : Heap) (L : List Loc) : Prop := v = some (.int (f3527 (p3522).toNatClampNeg)) ∧ Fr n0 L ∧ h = h0
set_option maxRecDepth 65536 in
set_option maxHeartbeats 40000000 in
theorem rm44 (l : Launch) (Z : State) (a0 : Array Value) (hw : ∀ d ∈ tables_1, d.before a0 Z = true) (ws : List Jvm.Cond) (a3521 : Addr) (p3522 : Int32) (fm1 : Option Addr) (k3531 : ClassId) (f3527 : Nat → Int32) (h0 : Heap) (n0 : Nat) (O0 : Old Z n0 h0) (pL_a3521 : own_Len Z h0 a3521 .byte (82 : Int32)) (S_Preconditions_SIOOBE_FORMATTER : Sta Z Z.heap zs8 zs13 zs10 (own_rf fm1)) (pC3585 : ¬ (p3522 < (0 : Int32))) (pC3587 : p3522 < (82 : Int32)) (pV_a3521 : Arv Z h0 a3521 k3531 .byte (82 : Int32) (own_vs 82 (own_bt 82 f3527)) (.int (0 : Int32))) (pC3582 : own_okF f3527) (pC3586 : p3522 < (81 : Int32)) :
    MetFree l (⟨zs18, "charAt", "([BI)C"⟩ : MethodName) (head1 (Jvm.Cond.code (⟨zs18, "charAt", "([BI)C"⟩ : MethodName) jdk_43_method_2_code 2 (some .char) :: ws) ({ frames := 2, cells := 0, slots := 0, locals := 27 } : Room)) (fun a U => a = #[(.ref a3521), (.int p3522)] ∧ Z.Warmed39 U.vm ∧ U.heap = h0) (fun _ _ _ _ _ => True) (fun _ U o U' => ∃ v L, o = .returned v ∧ Q44 Z a3521 p3522 fm1 k3531 f3527 h0 n0 v U'.heap L ∧ FrameEnd U o U' L ({ frames := 2, cells := 0, slots := 0, locals := 27 } : Room).cells ({ frames := 2, cells := 0, slots := 0, locals := 27 } : Room).slots) := by
  refine MetFree.of_bodySF (plainFor_of_name pn_6) hisR ?_
  intro p e s m args below meth c s₁ Bd hml0 hP hK
  obtain ⟨rfl, hZ, hh⟩ := hP
  have hx := Bd.exec
  have hby := Bd.bytes
  have hml : c.maxLocals = 2 := hml0
  have hown : s.vm.findClass zs18 = some m.cls := findClass_of_methodNamed Bd.named
  have hnm := (name_of_methodNamed Bd.named Bd.method).1
  have X0 : Stand p l e ({ frames := 2, cells := 0, slots := 0, locals := 27 } : Room) s m #[(.ref a3521), (.int p3522)] below meth c s₁ [] 0 0 := Stand.of_body Bd
  have e0 : s₁.heap = h0 := by rw [← hh, Bd.state]; rfl
  have N0 := Fr.nil n0
  refine own_out ?_
  refine own_via (fun t k => castTop (ef_11 m a3521 p3522) (XS.iloadN X0.here hx rfl (hb hby d12_0) rfl (XS.aloadN X0.here hx rfl (hb hby d12_1) rfl rfl k))) ?_
  show own_Goes p e below (s₁.setTop (mkF m 2 #[rv a3521, iv p3522] [(.ref a3521), (.int p3522)])) _
  obtain ⟨_, _, _, V3588⟩ := id (pL_a3521)
  obtain ⟨cl3588, Ar3588, -, S3588, M3588, -, -⟩ := id (V3588)
  refine own_via (fun t k => X0.arraylength hx (by rw [e0]; exact Ar3588.1) (State.isArrayOf_alike hZ.alike Ar3588.2.1) (g := (mkF m 2 #[rv a3521, iv p3522] [(.ref a3521), (.int p3522)])) rfl rfl (hb hby d12_2) t k) ?_
  rw [len_of S3588 M3588]
  show own_Goes p e below (s₁.setTop (mkF m 3 #[rv a3521, iv p3522] [(.int (82 : Int32)), (.int p3522)])) _
  obtain ⟨_, T3589, _, X3589, hQ3589, st3589⟩ := own_cs X0 hx hZ hown (wd hw 67 rfl) (wd hw 68 rfl) (wd hw 69 rfl) (wd hw 11 rfl) (by decide) (rm34 l Z a0 hw [] p3522 fm1 h0 n0 O0 S_Preconditions_SIOOBE_FORMATTER pC3585 pC3587) e0 (g := (mkF m 3 #[rv a3521, iv p3522] [(.int (82 : Int32)), (.int p3522)])) rfl (by rw [hml]; rfl) (rest := []) (W := 0) (lenOf pd_10 rfl) rfl (by show 2 * 0 + _ ≤ _; exact Nat.le_of_eq rfl) (hb hby d12_3) (by decide) (by decide) (by decide) (by decide)
  obtain ⟨rfl, Nq3589, hh3590⟩ := hQ3589
  have N3589 := Fr.app N0 Nq3589
  refine own_via (fun t k => st3589 t (XS.aloadN X3589.here hx rfl (hb hby d12_6) rfl rfl (XS.iloadN X3589.here hx rfl (hb hby d12_7) rfl k))) ?_
  show own_Goes p e below (T3589.setTop (mkF m 8 #[rv a3521, iv p3522] [(.int p3522), (.ref a3521)])) _
  obtain ⟨cl3591, Ar3591, qq3591, S3591, M3591, H3591, G3591⟩ := id (pV_a3521)
  have hin3591 : ¬ (p3522 < 0 ∨ cl3591.slots.size ≤ (p3522).toNatClampNeg) := inb_of S3591 ⟨pC3585, pC3587⟩
  refine own_via (fun t k => X3589.baloadBytes hx (j := p3522) (v := (.int ((own_bt 82 f3527) (p3522).toNatClampNeg))) (by rw [hh3590]; exact Ar3591.1) (State.isArrayOf_alike hZ.alike Ar3591.2.1) Ar3591.2.2 hin3591 (Has.at H3591 hin3591 (own_vs_at (own_inN S3591 rfl hin3591))) (g := (mkF m 8 #[rv a3521, iv p3522] [(.int p3522), (.ref a3521)])) rfl rfl (hb hby d12_8) t (XS.sipush X3589.here hx rfl (hb hby d12_9) (XS.iand X3589.here hx rfl (hb hby d12_12) rfl (XS.i2c X3589.here hx rfl (hb hby d12_13) rfl k)))) ?_
  show own_Goes p e below (T3589.setTop (mkF m 14 #[rv a3521, iv p3522] [(.int ((((own_bt 82 f3527) (p3522).toNatClampNeg) &&& (255 : Int32)).toUInt32.toUInt16.toUInt32.toInt32))])) _
  obtain ⟨fs, hr, hrun, hended, hW, hsame⟩ := X3589.leave (v := some (.int (nar .char ((((own_bt 82 f3527) (p3522).toNatClampNeg) &&& (255 : Int32)).toUInt32.toUInt16.toUInt32.toInt32)))) (fun h => by rw [Bd.returns] at h; cases h)
  refine own_end (t := T3589.setFrames fs) ?_ ⟨_, hrun, hended, _, _, rfl, ?_, ⟨_, rfl⟩, hW, hsame.mono (by decide) (by decide)⟩
  · exact retN X3589 hx (t := .char) Bd.returns (by simp) (hb hby d12_14) hr
  · show Q44 Z a3521 p3522 fm1 k3531 f3527 h0 n0 _ T3589.heap _
    rw [hh3590]
    exact ⟨(congrArg (fun q => some (Value.int q)) (own_foldL (by decide) pC3582 pC3585 pC3586)), N3589, rfl⟩
def Q45 (Z : State) (a3451 : Addr) (p3452 : Int32) (i43 : Int32) (a3459 : Addr) (fm1 : Option Addr) (k3460 : ClassId) (f3457 : Nat → Int32) (h0 : Heap) (n0 : Nat) (v : Option Value) (h : Heap) (L : List Loc) : Prop := v = some (.int (f3457 (p3452).toNatClampNeg)) ∧ Fr n0 L ∧ h = h0
set_option maxRecDepth 65536 in
set_option maxHeartbeats 40000000 in
theorem rm45 (l : Launch) (Z : State) (a0 : Array Value) (hw : ∀ d ∈ tables_1, d.before a0 Z = true) (ws : List Jvm.Cond) (a3451 : Addr) (p3452 : Int32) (i43 : Int32) (a3459 : Addr) (fm1 : Option Addr) (k3460 : ClassId) (f3457 : Nat → Int32) (h0 : Heap) (n0 : Nat) (O0 : Old Z n0 h0) (S_String_COMPACT_STRINGS : Sta Z Z.heap zs1 zs11 "Z" (.int i43)) (pC3463 : ¬ (i43 = (0 : Int32))) (pF_a3451_coder : Fld Z h0 a3451 zs1 "coder" "B" (.int (0 : Int32))) (pE_a3451 : Exa Z h0 a3451 zs1) (pF_a3451_value : Fld Z h0 a3451 zs1 "value" "[B" (.ref a3459)) (pL_a3459 : own_Len Z h0 a3459 .byte (82 : Int32)) (S_Preconditions_SIOOBE_FORMATTER : Sta Z Z.heap zs8 zs13 zs10 (own_rf fm1)) (pC3514 : ¬ (p3452 < (0 : Int32))) (pC3516 : p3452 < (82 : Int32)) (pV_a3459 : Arv Z h0 a3459 k3460 .byte (82 : Int32) (own_vs 82 (own_bt 82 f3457)) (.int (0 : Int32))) (pC3511 : own_okF f3457) (pC3515 : p3452 < (81 : Int32)) :
    MetFree l (⟨zs1, "charAt", "(I)C"⟩ : MethodName) (head1 (Jvm.Cond.code (⟨zs1, "charAt", "(I)C"⟩ : MethodName) jdk_42_method_56_code 2 (some .char) :: ws) ({ frames := 3, cells := 0, slots := 0, locals := 40 } : Room)) (fun a U => a = #[(.ref a3451), (.int p3452)] ∧ Z.Warmed39 U.vm ∧ U.heap = h0) (fun _ _ _ _ _ => True) (fun _ U o U' => ∃ v L, o = .returned v ∧ Q45 Z a3451 p3452 i43 a3459 fm1 k3460 f3457 h0 n0 v U'.heap L ∧ FrameEnd U o U' L ({ frames := 3, cells := 0, slots := 0, locals := 40 } : Room).cells ({ frames := 3, cells := 0, slots := 0, locals := 40 } : Room).slots) := by
  refine MetFree.of_bodySF (plainFor_of_name pn_3) hisR ?_
  intro p e s m args below meth c s₁ Bd hml0 hP hK
  obtain ⟨rfl, hZ, hh⟩ := hP
  have hx := Bd.exec
  have hby := Bd.bytes
  have hml : c.maxLocals = 2 := hml0
  have hown : s.vm.findClass zs1 = some m.cls := findClass_of_methodNamed Bd.named
  have hnm := (name_of_methodNamed Bd.named Bd.method).1
  have X0 : Stand p l e ({ frames := 3, cells := 0, slots := 0, locals := 40 } : Room) s m #[(.ref a3451), (.int p3452)] below meth c s₁ [] 0 0 := Stand.of_body Bd
  have e0 : s₁.heap = h0 := by rw [← hh, Bd.state]; rfl
  have N0 := Fr.nil n0
  refine own_out ?_
  refine own_via (fun t k => castTop (ef_12 m a3451 p3452) (XS.aloadN X0.here hx rfl (hb hby d10_0) rfl rfl k)) ?_
  obtain ⟨_, T3517, _, X3517, hQ3517, st3517⟩ := own_cv X0 hx hZ hown (wd hw 58 rfl) (wd hw 59 rfl) (wd hw 61 rfl) (wd hw 60 rfl) (wd hw 62 rfl) (wd hw 11 rfl) (by decide) (rm8 l Z a0 hw [] a3451 i43 h0 n0 O0 S_String_COMPACT_STRINGS pC3463 pF_a3451_coder) e0 pE_a3451 (g := (mkF m 1 #[rv a3451, iv p3452] [(.ref a3451)])) rfl (by rw [hml]; rfl) (rest := []) (W := 0) (lenOf pd_8 rfl) rfl (by show 2 * 0 + _ ≤ _; exact Nat.le_of_eq rfl) (hb hby d10_1) (by decide) (by decide) (by decide) (by decide)
  obtain ⟨rfl, Nq3517, hh3518⟩ := hQ3517
  have N3517 := Fr.app N0 Nq3517
  refine own_via (fun t k => st3517 t (XS.ifNo X3517.here hx rfl (hb hby d10_4) rfl ((if0 _ _).trans (feq (by decide : ¬ ((1 : Int32) = (0 : Int32)))).1) (XS.aloadN X3517.here hx rfl (hb hby d10_7) rfl rfl k))) ?_
  show own_Goes p e below (T3517.setTop (mkF m 8 #[rv a3451, iv p3452] [(.ref a3451)])) _
  obtain ⟨T3519, X3519, e3519, st3519⟩ := getF X3517 hx hZ hown (host := "") (Or.inl (wd hw 36 rfl)) Via.refl hh3518 pF_a3451_value (g := (mkF m 8 #[rv a3451, iv p3452] [(.ref a3451)])) rfl rfl (hb hby d10_8)
  refine own_via (fun t k => st3519 t (XS.iloadN X3519.here hx rfl (hb hby d10_11) rfl k)) ?_
  obtain ⟨_, T3520, _, X3520, hQ3520, st3520⟩ := own_cs X3519 hx hZ hown (wd hw 63 rfl) (wd hw 64 rfl) (wd hw 66 rfl) (wd hw 65 rfl) (by decide) (rm44 l Z a0 hw [] a3459 p3452 fm1 k3460 f3457 h0 n0 O0 pL_a3459 S_Preconditions_SIOOBE_FORMATTER pC3514 pC3516 pV_a3459 pC3511 pC3515) e3519 (g := (mkF m 12 #[rv a3451, iv p3452] [(.int p3452), (.ref a3459)])) rfl (by rw [hml]; rfl) (rest := []) (W := 0) (lenOf pd_11 rfl) rfl (by show 2 * 0 + _ ≤ _; exact Nat.le_of_eq rfl) (hb hby d10_12) (by decide) (by decide) (by decide) (by decide)
  obtain ⟨rfl, Nq3520, hh3592⟩ := hQ3520
  have N3520 := Fr.app N3517 Nq3520
  refine own_via (fun t k => st3520 t k) ?_
  obtain ⟨fs, hr, hrun, hended, hW, hsame⟩ := X3520.leave (v := some (.int (nar .char (f3457 (p3452).toNatClampNeg)))) (fun h => by rw [Bd.returns] at h; cases h)
  refine own_end (t := T3520.setFrames fs) ?_ ⟨_, hrun, hended, _, _, rfl, ?_, ⟨_, rfl⟩, hW, hsame.mono (by decide) (by decide)⟩
  · exact retN X3520 hx (t := .char) Bd.returns (by simp) (hb hby d10_15) hr
  · show Q45 Z a3451 p3452 i43 a3459 fm1 k3460 f3457 h0 n0 _ T3520.heap _
    rw [hh3592]
    exact ⟨(congrArg (fun q => some (Value.int q)) (own_foldC pC3511 pC3514 pC3515)), N3520, rfl⟩
def Q46 (Z : State) (a3377 : Addr) (w36 : Addr) (f3382 : Nat → Int32) (rd1 : Nat → Int32) (w39 : Addr) (kc_w39 : ClassId) (a3384 : Addr) (k3385 : ClassId) (i43 : Int32) (fm1 : Option Addr) (h0 : Heap) (n0 : Nat) (v : Option Value) (h : Heap) (L : List Loc) : Prop := (∃ (b3604 : Addr) (k3605 : ClassId) (b3606 : Addr), v = some (.ref b3606) ∧ Fr n0 L ∧ Keep h0 h [] ∧ h0.size ≤ b3604 ∧ Arv Z h b3604 k3605 .int (81 : Int32) (own_vs 81 (own_dg 81 f3382 rd1)) (.int (0 : Int32)) ∧ Exa Z h b3604 "[I" ∧ h0.size ≤ b3606 ∧ Exa Z h b3606 zs2 ∧ Fld Z h b3606 zs2 "shape" zs7 (.ref w36) ∧ Fld Z h b3606 zs2 "digits" "[I" (.ref b3604) ∧ b3604 ≠ b3606)
set_option maxRecDepth 65536 in
set_option maxHeartbeats 40000000 in
theorem rm46 (l : Launch) (Z : State) (a0 : Array Value) (hw : ∀ d ∈ tables_1, d.before a0 Z = true) (ws : List Jvm.Cond) (a3377 : Addr) (w36 : Addr) (f3382 : Nat → Int32) (rd1 : Nat → Int32) (w39 : Addr) (kc_w39 : ClassId) (a3384 : Addr) (k3385 : ClassId) (i43 : Int32) (fm1 : Option Addr) (h0 : Heap) (n0 : Nat) (O0 : Old Z n0 h0) (S_PuzzleLine_SHAPE : Sta Z Z.heap zs5 "SHAPE" zs7 (.ref w36)) (SF_w36_side : Fld Z Z.heap w36 zs4 "side" "I" (.int (9 : Int32))) (SE_w36 : Exa Z Z.heap w36 zs4) (pC3434 : own_okF f3382) (pC3387 : own_rdOK rd1) (S_PuzzleLine_READS_AS : Sta Z Z.heap zs5 "READS_AS" "[B" (.ref w39)) (SV_w39 : Arv Z Z.heap w39 kc_w39 .byte (128 : Int32) (own_vs 128 rd1) (.int (0 : Int32))) (pE_a3377 : Exa Z h0 a3377 zs1) (pF_a3377_coder : Fld Z h0 a3377 zs1 "coder" "B" (.int (0 : Int32))) (pF_a3377_value : Fld Z h0 a3377 zs1 "value" "[B" (.ref a3384)) (pL_a3384 : own_Len Z h0 a3384 .byte (82 : Int32)) (pV_a3384 : Arv Z h0 a3384 k3385 .byte (82 : Int32) (own_vs 82 (own_bt 82 f3382)) (.int (0 : Int32))) (pE_a3384 : Exa Z h0 a3384 "[B") (S_String_COMPACT_STRINGS : Sta Z Z.heap zs1 zs11 "Z" (.int i43)) (pC3386 : ¬ (i43 = (0 : Int32))) (S_Preconditions_SIOOBE_FORMATTER : Sta Z Z.heap zs8 zs13 zs10 (own_rf fm1)) :
    MetFree l (⟨zs5, "parse", zs9⟩ : MethodName) (head1 (Jvm.Cond.code (⟨zs5, "parse", zs9⟩ : MethodName) prog_15_method_4_code 7 (some (.object zs2)) :: ws) ({ frames := 4, cells := 3, slots := 164, locals := 53 } : Room)) (fun a U => a = #[(.ref a3377), (.long (81 : Int64))] ∧ Z.Warmed39 U.vm ∧ U.heap = h0) (fun _ _ _ _ _ => True) (fun _ U o U' => ∃ v L, o = .returned v ∧ Q46 Z a3377 w36 f3382 rd1 w39 kc_w39 a3384 k3385 i43 fm1 h0 n0 v U'.heap L ∧ FrameEnd U o U' L ({ frames := 4, cells := 3, slots := 164, locals := 53 } : Room).cells ({ frames := 4, cells := 3, slots := 164, locals := 53 } : Room).slots) := by
  refine MetFree.of_bodySF (plainFor_of_name pn_8) hisR ?_
  intro p e s m args below meth c s₁ Bd hml0 hP hK
  obtain ⟨rfl, hZ, hh⟩ := hP
  have hx := Bd.exec
  have hby := Bd.bytes
  have hml : c.maxLocals = 7 := hml0
  have hown : s.vm.findClass zs5 = some m.cls := findClass_of_methodNamed Bd.named
  have hnm := (name_of_methodNamed Bd.named Bd.method).1
  have X0 : Stand p l e ({ frames := 4, cells := 3, slots := 164, locals := 53 } : Room) s m #[(.ref a3377), (.long (81 : Int64))] below meth c s₁ [] 0 0 := Stand.of_body Bd
  have e0 : s₁.heap = h0 := by rw [← hh, Bd.state]; rfl
  have N0 := Fr.nil n0
  refine own_out ?_
  refine own_via (fun t k => castTop (ef_16 m a3377 (81 : Int64)) (XS.lloadN X0.here hx rfl (hb hby d8_0) rfl k)) ?_
  obtain ⟨T3437, X3437, e3437, st3437⟩ := getS2 X0 hx hZ hown (host := "") (Or.inl (wd hw 42 rfl)) Via.refl e0 (S_PuzzleLine_SHAPE.ext O0.2) (g := (mkF m 1 #[rv a3377, .val (.long (81 : Int64)), .second, .unset, .unset, .unset, .unset] [(.long (81 : Int64))])) rfl (hb hby d8_1)
  refine own_via (fun t k => st3437 t k) ?_
  obtain ⟨_, T3438, _, X3438, hQ3438, st3438⟩ := own_cv X3437 hx hZ hown (wd hw 44 rfl) (wd hw 45 rfl) (wd hw 47 rfl) (wd hw 46 rfl) (wd hw 49 rfl) (wd hw 48 rfl) (by decide) (rm7 l Z a0 hw [] w36 h0 n0 O0 SF_w36_side) e3437 (SE_w36.ext O0.2) (g := (mkF m 4 #[rv a3377, .val (.long (81 : Int64)), .second, .unset, .unset, .unset, .unset] [(.ref w36), (.long (81 : Int64))])) rfl (by rw [hml]; rfl) (rest := [(.long (81 : Int64))]) (W := 2) (lenOf pd_7 rfl) rfl (by show 2 * 0 + _ ≤ _; exact Nat.le_of_eq rfl) (hb hby d8_4) (by decide) (by decide) (by decide) (by decide)
  obtain ⟨rfl, Nq3438, hh3439⟩ := hQ3438
  have N3438 := Fr.app N0 Nq3438
  refine own_via (fun t k => st3438 t (XS.i2l X3438.here hx rfl (hb hby d8_7) rfl (XS.lcmp X3438.here hx rfl (hb hby d8_8) rfl (XS.ifYes X3438.here hx rfl (pc0 := 9) (pc' := 32) rfl (hb hby d8_9) rfl ((if0 _ _).trans (teq (by decide : (0 : Int32) = (0 : Int32))).1) (by decide) (by decide) k)))) ?_
  show own_Goes p e below (T3438.setTop (mkF m 32 #[rv a3377, .val (.long (81 : Int64)), .second, .unset, .unset, .unset, .unset] [])) _
  obtain ⟨T3440, X3440, e3440, st3440⟩ := getS2 X3438 hx hZ hown (host := "") (Or.inl (wd hw 42 rfl)) Via.refl hh3439 (S_PuzzleLine_SHAPE.ext O0.2) (g := (mkF m 32 #[rv a3377, .val (.long (81 : Int64)), .second, .unset, .unset, .unset, .unset] [])) rfl (hb hby d8_32)
  refine own_via (fun t k => st3440 t k) ?_
  obtain ⟨_, T3441, _, X3441, hQ3441, st3441⟩ := own_cv X3440 hx hZ hown (wd hw 44 rfl) (wd hw 45 rfl) (wd hw 47 rfl) (wd hw 46 rfl) (wd hw 49 rfl) (wd hw 48 rfl) (by decide) (rm7 l Z a0 hw [] w36 h0 n0 O0 SF_w36_side) e3440 (SE_w36.ext O0.2) (g := (mkF m 35 #[rv a3377, .val (.long (81 : Int64)), .second, .unset, .unset, .unset, .unset] [(.ref w36)])) rfl (by rw [hml]; rfl) (rest := []) (W := 0) (lenOf pd_7 rfl) rfl (by show 2 * 0 + _ ≤ _; exact Nat.le_of_eq rfl) (hb hby d8_35) (by decide) (by decide) (by decide) (by decide)
  obtain ⟨rfl, Nq3441, hh3442⟩ := hQ3441
  have N3441 := Fr.app N3438 Nq3441
  refine own_via (fun t k => st3441 t k) ?_
  obtain ⟨T3443, h3443, k3443, X3443, e3443, E3443, A3443, a3443x, st3443⟩ := newPE X3441 hx hZ (wd hw 52 rfl) hh3442 (g := (mkF m 38 #[rv a3377, .val (.long (81 : Int64)), .second, .unset, .unset, .unset, .unset] [(.int (81 : Int32))])) rfl (hb hby d8_38) rfl (by decide) (cap := 81) (by decide) (by decide) (by decide) (by decide) (ad := "[I") (by decide)
  obtain ⟨b3444, q3443⟩ : ∃ z, z = h0.size := ⟨_, rfl⟩
  rw [← q3443] at A3443 st3443 a3443x
  refine own_via (fun t k => st3443 t k) ?_
  have g3445 : n0 ≤ b3444 := Nat.le_trans (own_old O0) (Nat.le_of_eq q3443.symm)
  have B3446 : h0.size ≤ b3444 := Nat.le_trans (Nat.le_refl _) (Nat.le_of_eq q3443.symm)
  have V3447 : Arv Z h3443 b3444 k3443 .int (81 : Int32) [] (.int (0 : Int32)) := Arv.new A3443 (by decide)
  show own_Goes p e below (T3443.setTop (mkF m 40 #[rv a3377, .val (.long (81 : Int64)), .second, .unset, .unset, .unset, .unset] [(.ref b3444)])) _
  refine own_via (fun t k => XS.astoreN X3443.here hx rfl (hb hby d8_40) rfl rfl (l' := #[rv a3377, .val (.long (81 : Int64)), .second, rv b3444, .unset, .unset, .unset]) rfl (XS.iconst X3443.here hx rfl (hb hby d8_41) (XS.istore X3443.here hx rfl (hb hby d8_42) rfl (l' := #[rv a3377, .val (.long (81 : Int64)), .second, rv b3444, iv (0 : Int32), .unset, .unset]) rfl k))) ?_
  show own_Goes p e below (T3443.setTop (mkF m 44 #[rv a3377, .val (.long (81 : Int64)), .second, rv b3444, iv (0 : Int32), .unset, .unset] [])) _
  have V3448 : Arv Z h3443 b3444 k3443 .int (81 : Int32) (own_vs 81 (own_dg 0 f3382 rd1)) (.int (0 : Int32)) := own_z_new V3447 (own_dg_zero _ _)
  have O3449 : Old Z n0 h3443 := (O0.ext E3443)
  have E3593 : Exa Z h3443 a3377 zs1 := (pE_a3377.ext E3443)
  have F3594 : Fld Z h3443 a3377 zs1 "coder" "B" (.int (0 : Int32)) := (pF_a3377_coder.ext E3443)
  have F3595 : Fld Z h3443 a3377 zs1 "value" "[B" (.ref a3384) := (pF_a3377_value.ext E3443)
  have L3596 : own_Len Z h3443 a3384 .byte (82 : Int32) := (own_len_ext pL_a3384 E3443)
  have V3597 : Arv Z h3443 a3384 k3385 .byte (82 : Int32) (own_vs 82 (own_bt 82 f3382)) (.int (0 : Int32)) := (pV_a3384.ext E3443)
  obtain ⟨T3598, h3598, L3598, s53598, s63598, X3598, e3598, N3598, K3598, V3598, st3598⟩ := own_lpP (sa := a3377) (b := b3444) (w := w39) (f := f3382) (rd := rd1) (fr := 3) (lo := 40) (P := fun h => Exa Z h a3377 zs1 ∧ Fld Z h a3377 zs1 "coder" "B" (.int (0 : Int32)) ∧ Fld Z h a3377 zs1 "value" "[B" (.ref a3384) ∧ own_Len Z h a3384 .byte (82 : Int32) ∧ Arv Z h a3384 k3385 .byte (82 : Int32) (own_vs 82 (own_bt 82 f3382)) (.int (0 : Int32))) hx hZ hown hw hby hml g3445 (own_lowP pC3434 pC3387) S_PuzzleLine_READS_AS SV_w39 (fun h q => q.1) (fun h h' q K => ⟨(q.1.keep K), (q.2.1.keep K (ninS (Nat.ne_of_lt (Nat.lt_of_lt_of_le pE_a3377.lt B3446)) nin0)), (q.2.2.1.keep K (ninS (Nat.ne_of_lt (Nat.lt_of_lt_of_le pE_a3377.lt B3446)) nin0)), (own_len_keep q.2.2.2.1 K (ninS (Nat.ne_of_lt (Nat.lt_of_lt_of_le pE_a3384.lt B3446)) nin0)), (q.2.2.2.2.keep K (ninS (Nat.ne_of_lt (Nat.lt_of_lt_of_le pE_a3384.lt B3446)) nin0))⟩) (fun h k hk O q => own_recast (congrArg f3382 (own_nat hk)) (rm45 l Z a0 hw [] a3377 (Int32.ofNat k) i43 a3384 fm1 k3385 f3382 h n0 O S_String_COMPACT_STRINGS pC3386 q.2.1 q.1 q.2.2.1 q.2.2.2.1 S_Preconditions_SIOOBE_FORMATTER (own_ix hk).1 (own_ix hk).2.2 q.2.2.2.2 pC3434 (own_ix hk).2.1)) (by decide) (by decide) (by decide) (by decide) 81 0 T3443 h3443 _ none none rfl X3443 e3443 N3441 O3449 ⟨E3593, F3594, F3595, L3596, V3597⟩ V3448
  refine own_via (fun t k => st3598 t (XS.iload X3598.here hx rfl (hb hby d8_44) rfl (XS.aloadN X3598.here hx rfl (hb hby d8_46) rfl rfl k))) ?_
  show own_Goes p e below (T3598.setTop (mkF m 47 #[rv a3377, .val (.long (81 : Int64)), .second, rv b3444, iv (81 : Int32), own_sl s53598, own_sl s63598] [(.ref b3444), (.int (81 : Int32))])) _
  obtain ⟨cl3599, Ar3599, -, S3599, M3599, -, -⟩ := id (V3598)
  refine own_via (fun t k => X3598.arraylength hx (by rw [e3598]; exact Ar3599.1) (State.isArrayOf_alike hZ.alike Ar3599.2.1) (g := (mkF m 47 #[rv a3377, .val (.long (81 : Int64)), .second, rv b3444, iv (81 : Int32), own_sl s53598, own_sl s63598] [(.ref b3444), (.int (81 : Int32))])) rfl rfl (hb hby d8_47) t k) ?_
  rw [len_of S3599 M3599]
  show own_Goes p e below (T3598.setTop (mkF m 48 #[rv a3377, .val (.long (81 : Int64)), .second, rv b3444, iv (81 : Int32), own_sl s53598, own_sl s63598] [(.int (81 : Int32)), (.int (81 : Int32))])) _
  refine own_via (fun t k => XS.icmpYes X3598.here hx rfl (pc0 := 48) (pc' := 124) rfl (hb hby d8_48) rfl (flt (by decide : ¬ ((81 : Int32) < (81 : Int32)))).2.1 (by decide) (by decide) k) ?_
  have O3601 : Old Z n0 h3598 := (O3449.keep K3598 (allS g3445 all0))
  obtain ⟨T3600, X3600, e3600, st3600⟩ := getS2 X3598 hx hZ hown (host := "") (Or.inl (wd hw 42 rfl)) Via.refl e3598 (S_PuzzleLine_SHAPE.ext O3601.2) (g := (mkF m 124 #[rv a3377, .val (.long (81 : Int64)), .second, rv b3444, iv (81 : Int32), own_sl s53598, own_sl s63598] [])) rfl (hb hby d8_124)
  refine own_via (fun t k => st3600 t (XS.aloadN X3600.here hx rfl (hb hby d8_127) rfl rfl k)) ?_
  have E3603 : Exa Z h3598 b3444 "[I" := (a3443x.keep K3598)
  obtain ⟨_, T3602, _, X3602, hQ3602, st3602⟩ := own_cs X3600 hx hZ hown (wd hw 77 rfl) (wd hw 78 rfl) (wd hw 80 rfl) (wd hw 79 rfl) (by decide) (rm15 l Z a0 hw [] w36 b3444 k3443 f3382 rd1 h3598 n0 O3601 V3598 E3603 SF_w36_side SE_w36 (own_digs_mk pC3434 pC3387)) e3600 (g := (mkF m 128 #[rv a3377, .val (.long (81 : Int64)), .second, rv b3444, iv (81 : Int32), own_sl s53598, own_sl s63598] [(.ref b3444), (.ref w36)])) rfl (by rw [hml]; rfl) (rest := []) (W := 0) (lenOf pd_13 rfl) rfl (by show 2 * 0 + _ ≤ _; exact Nat.le_of_eq rfl) (hb hby d8_128) (by decide) (by decide) (by decide) (by decide)
  obtain ⟨h3602, e3602⟩ : ∃ z, T3602.heap = z := ⟨_, rfl⟩
  rw [e3602] at hQ3602
  obtain ⟨b3604, k3605, b3606, rfl, Nq3602, K3602, bx3607, vx3608, ex3609, bx3610, ex3611, fx3612, fx3613, nx3614⟩ := hQ3602
  have N3602 := Fr.app N3598 Nq3602
  have N3615 : b3444 ≠ b3604 := Nat.ne_of_lt (Nat.lt_of_lt_of_le E3603.lt bx3607)
  have g3616 : n0 ≤ b3604 := Nat.le_trans (own_old O3601) bx3607
  have Z3618 : h0.size ≤ h3598.size := (Nat.le_trans (Nat.le_trans (Nat.le_refl _) E3443.1) K3598.1)
  have B3617 : h0.size ≤ b3604 := Nat.le_trans Z3618 bx3607
  have N3619 : b3444 ≠ b3606 := Nat.ne_of_lt (Nat.lt_of_lt_of_le E3603.lt bx3610)
  have g3620 : n0 ≤ b3606 := Nat.le_trans (own_old O3601) bx3610
  have B3621 : h0.size ≤ b3606 := Nat.le_trans Z3618 bx3610
  refine own_via (fun t k => st3602 t k) ?_
  obtain ⟨fs, hr, hrun, hended, hW, hsame⟩ := X3602.leave (v := some (.ref b3606)) (fun h => by rw [Bd.returns] at h; cases h)
  refine own_end (t := T3602.setFrames fs) ?_ ⟨_, hrun, hended, _, _, rfl, ?_, ⟨_, rfl⟩, hW, hsame.mono (by decide) (by decide)⟩
  · jvm_step X3602.here [X3602.here.top, hx, (hb hby d8_131), X3602.method', Bd.returns, Value.isRef, FieldType.isReference]
    first | (intro acts; rw [hr _ acts rfl rfl rfl]) | rw [hr _ _ rfl rfl rfl]
    exact Steps.refl _
  · show Q46 Z a3377 w36 f3382 rd1 w39 kc_w39 a3384 k3385 i43 fm1 h0 n0 _ T3602.heap _
    rw [e3602]
    exact ⟨b3604, k3605, b3606, rfl, N3602, ((((Keep.refl h0 []).ext E3443).trans K3598 (allS (Or.inr B3446) all0)).trans K3602 all0), B3617, vx3608, ex3609, B3621, ex3611, fx3612, fx3613, nx3614⟩
theorem ef_27 (m : MethodId) (x0 : Int64) (x1 : Int64) (x2 : Int32) (x3 : Int32) (x4 : Int32) : entryFrame m #[(.long x0), (.long x1), (.int x2), (.int x3), (.int x4)] maxLocals = mkF m 0 #[.val (.long x0), .second, .val (.long x1), .second, iv x2, iv x3, iv x4, .unset, .unset, .unset, .unset, .unset, .unset, .unset, .unset, .unset, .unset, .unset, .unset, .unset, .unset, .unset, .unset, .unset] [] := by first | (simp [entryFrame, mkF, argsToLocals, Value.category, maxLocals]; done) | rfl
set_option maxRecDepth 65536 in
set_option maxHeartbeats 40000000 in
theorem rm0 (l : Launch) (Z : State) (a0 : Array Value) (hw : ∀ d ∈ tables_1, d.before a0 Z = true) (ws : List Jvm.Cond) (i0 : Int64) (i1 : Int64) (i2 : Int32) (i3 : Int32) (i4 : Int32) (rd1 : Nat → Int32) (i43 : Int32) (w36 : Addr) (w39 : Addr) (kc_w39 : ClassId) (fm1 : Option Addr) (h0 : Heap) (n0 : Nat) (O0 : Old Z n0 h0) (HRD : own_rdOK rd1) (S_String_COMPACT_STRINGS : Sta Z Z.heap zs1 zs11 "Z" (.int i43)) (SNZ_i43 : ¬ (i43 = (0 : Int32))) (S_PuzzleLine_SHAPE : Sta Z Z.heap zs5 "SHAPE" zs7 (.ref w36)) (SF_w36_side : Fld Z Z.heap w36 zs4 "side" "I" (.int (9 : Int32))) (SE_w36 : Exa Z Z.heap w36 zs4) (S_PuzzleLine_READS_AS : Sta Z Z.heap zs5 "READS_AS" "[B" (.ref w39)) (SV_w39 : Arv Z Z.heap w39 kc_w39 .byte (128 : Int32) (own_vs 128 rd1) (.int (0 : Int32))) (S_Preconditions_SIOOBE_FORMATTER : Sta Z Z.heap zs8 zs13 zs10 (own_rf fm1)) (S_Shape_NINE : Sta Z Z.heap zs4 "NINE" zs7 (.ref w36)) (S_StringUTF16__assertionsDisabled : Sta Z Z.heap zs3 zs12 "Z" (.int (1 : Int32))) (S_StringUTF16_HI_BYTE_SHIFT : Sta Z Z.heap zs3 zs15 "I" (.int (0 : Int32))) (S_StringUTF16_LO_BYTE_SHIFT : Sta Z Z.heap zs3 zs16 "I" (.int (8 : Int32))) :
    MetFree l x (head1 (Jvm.Cond.code x code maxLocals ret :: ws) room_1) (fun a U => a = #[(.long i0), (.long i1), (.int i2), (.int i3), (.int i4)] ∧ Z.Warmed39 U.vm ∧ U.heap = h0) (fun _ _ _ _ _ => True) (fun _ U o U' => ∃ v L, o = .returned v ∧ own_Q0 n0 v L ∧ FrameEnd U o U' L room_1.cells room_1.slots) := by
  refine MetFree.of_bodySF (plainFor_of_name pn_1) hisR ?_
  intro p e s m args below meth c s₁ Bd hml0 hP hK
  obtain ⟨rfl, hZ, hh⟩ := hP
  have hx := Bd.exec
  have hby := Bd.bytes
  have hml : c.maxLocals = 24 := hml0
  have hown : s.vm.findClass zs6 = some m.cls := findClass_of_methodNamed Bd.named
  have hnm := (name_of_methodNamed Bd.named Bd.method).1
  have X0 : Stand p l e room_1 s m #[(.long i0), (.long i1), (.int i2), (.int i3), (.int i4)] below meth c s₁ [] 0 0 := Stand.of_body Bd
  have e0 : s₁.heap = h0 := by rw [← hh, Bd.state]; rfl
  have N0 := Fr.nil n0
  refine own_out ?_
  show own_Goes p e below _ (own_G s below n0)
  refine own_via (fun t k => castTop (ef_27 m i0 i1 i2 i3 i4) (XS.lloadN X0.here hx rfl (hb hby at_0) rfl (X0.ldc2Long hx hown (mvT hZ (wd hw 0 rfl)) (g := (mkF m 1 #[.val (.long i0), .second, .val (.long i1), .second, iv i2, iv i3, iv i4, .unset, .unset, .unset, .unset, .unset, .unset, .unset, .unset, .unset, .unset, .unset, .unset, .unset, .unset, .unset, .unset, .unset] [(.long i0)])) rfl (hb hby at_1) t (XS.land X0.here hx rfl (hb hby at_4) rfl (X0.ldc2Long hx hown (mvT hZ (wd hw 1 rfl)) (g := (mkF m 5 #[.val (.long i0), .second, .val (.long i1), .second, iv i2, iv i3, iv i4, .unset, .unset, .unset, .unset, .unset, .unset, .unset, .unset, .unset, .unset, .unset, .unset, .unset, .unset, .unset, .unset, .unset] [(.long (i0 &&& (2147483647 : Int64)))])) rfl (hb hby at_5) t (XS.lrem X0.here hx rfl (hb hby at_8) rfl (by decide) (XS.l2i X0.here hx rfl (hb hby at_9) rfl k))))))) ?_
  show own_Goes p e below (s₁.setTop (mkF m 10 #[.val (.long i0), .second, .val (.long i1), .second, iv i2, iv i3, iv i4, .unset, .unset, .unset, .unset, .unset, .unset, .unset, .unset, .unset, .unset, .unset, .unset, .unset, .unset, .unset, .unset, .unset] [(.int (((i0 &&& (2147483647 : Int64)) - ((i0 &&& (2147483647 : Int64)) / (81 : Int64)) * (81 : Int64)).toInt32))])) _
  obtain ⟨y48, hy48⟩ : ∃ z, z = (((i0 &&& (2147483647 : Int64)) - ((i0 &&& (2147483647 : Int64)) / (81 : Int64)) * (81 : Int64)).toInt32) := ⟨_, rfl⟩
  rw [← hy48]
  show own_Goes p e below (s₁.setTop (mkF m 10 #[.val (.long i0), .second, .val (.long i1), .second, iv i2, iv i3, iv i4, .unset, .unset, .unset, .unset, .unset, .unset, .unset, .unset, .unset, .unset, .unset, .unset, .unset, .unset, .unset, .unset, .unset] [(.int y48)])) _
  refine own_via (fun t k => XS.istore X0.here hx rfl (hb hby at_10) rfl (l' := #[.val (.long i0), .second, .val (.long i1), .second, iv i2, iv i3, iv i4, iv y48, .unset, .unset, .unset, .unset, .unset, .unset, .unset, .unset, .unset, .unset, .unset, .unset, .unset, .unset, .unset, .unset]) rfl k) ?_
  have rgy48 := own_lm81 hy48
  refine own_via (fun t k => XS.lloadN X0.here hx rfl (hb hby at_12) rfl (XS.bipush X0.here hx rfl (hb hby at_13) (XS.lushr X0.here hx rfl (hb hby at_15) rfl (X0.ldc2Long hx hown (mvT hZ (wd hw 0 rfl)) (g := (mkF m 16 #[.val (.long i0), .second, .val (.long i1), .second, iv i2, iv i3, iv i4, iv y48, .unset, .unset, .unset, .unset, .unset, .unset, .unset, .unset, .unset, .unset, .unset, .unset, .unset, .unset, .unset, .unset] [(.long ((i0.toUInt64 >>> ((32 : Int32) &&& 0x3f).toInt64.toUInt64).toInt64))])) rfl (hb hby at_16) t (XS.land X0.here hx rfl (hb hby at_19) rfl (X0.ldc2Long hx hown (mvT hZ (wd hw 2 rfl)) (g := (mkF m 20 #[.val (.long i0), .second, .val (.long i1), .second, iv i2, iv i3, iv i4, iv y48, .unset, .unset, .unset, .unset, .unset, .unset, .unset, .unset, .unset, .unset, .unset, .unset, .unset, .unset, .unset, .unset] [(.long (((i0.toUInt64 >>> ((32 : Int32) &&& 0x3f).toInt64.toUInt64).toInt64) &&& (2147483647 : Int64)))])) rfl (hb hby at_20) t (XS.lrem X0.here hx rfl (hb hby at_23) rfl (by decide) (XS.l2i X0.here hx rfl (hb hby at_24) rfl k)))))))) ?_
  show own_Goes p e below (s₁.setTop (mkF m 25 #[.val (.long i0), .second, .val (.long i1), .second, iv i2, iv i3, iv i4, iv y48, .unset, .unset, .unset, .unset, .unset, .unset, .unset, .unset, .unset, .unset, .unset, .unset, .unset, .unset, .unset, .unset] [(.int (((((i0.toUInt64 >>> ((32 : Int32) &&& 0x3f).toInt64.toUInt64).toInt64) &&& (2147483647 : Int64)) - ((((i0.toUInt64 >>> ((32 : Int32) &&& 0x3f).toInt64.toUInt64).toInt64) &&& (2147483647 : Int64)) / (11 : Int64)) * (11 : Int64)).toInt32))])) _
  obtain ⟨y49, hy49⟩ : ∃ z, z = (((((i0.toUInt64 >>> ((32 : Int32) &&& 0x3f).toInt64.toUInt64).toInt64) &&& (2147483647 : Int64)) - ((((i0.toUInt64 >>> ((32 : Int32) &&& 0x3f).toInt64.toUInt64).toInt64) &&& (2147483647 : Int64)) / (11 : Int64)) * (11 : Int64)).toInt32) := ⟨_, rfl⟩
  rw [← hy49]
  show own_Goes p e below (s₁.setTop (mkF m 25 #[.val (.long i0), .second, .val (.long i1), .second, iv i2, iv i3, iv i4, iv y48, .unset, .unset, .unset, .unset, .unset, .unset, .unset, .unset, .unset, .unset, .unset, .unset, .unset, .unset, .unset, .unset] [(.int y49)])) _
  refine own_via (fun t k => XS.istore X0.here hx rfl (hb hby at_25) rfl (l' := #[.val (.long i0), .second, .val (.long i1), .second, iv i2, iv i3, iv i4, iv y48, iv y49, .unset, .unset, .unset, .unset, .unset, .unset, .unset, .unset, .unset, .unset, .unset, .unset, .unset, .unset, .unset]) rfl k) ?_
  have rgy49 := own_lm11 hy49
  refine own_via (fun t k => XS.lloadN X0.here hx rfl (hb hby at_27) rfl (X0.ldc2Long hx hown (mvT hZ (wd hw 0 rfl)) (g := (mkF m 28 #[.val (.long i0), .second, .val (.long i1), .second, iv i2, iv i3, iv i4, iv y48, iv y49, .unset, .unset, .unset, .unset, .unset, .unset, .unset, .unset, .unset, .unset, .unset, .unset, .unset, .unset, .unset] [(.long i1)])) rfl (hb hby at_28) t (XS.land X0.here hx rfl (hb hby at_31) rfl (X0.ldc2Long hx hown (mvT hZ (wd hw 1 rfl)) (g := (mkF m 32 #[.val (.long i0), .second, .val (.long i1), .second, iv i2, iv i3, iv i4, iv y48, iv y49, .unset, .unset, .unset, .unset, .unset, .unset, .unset, .unset, .unset, .unset, .unset, .unset, .unset, .unset, .unset] [(.long (i1 &&& (2147483647 : Int64)))])) rfl (hb hby at_32) t (XS.lrem X0.here hx rfl (hb hby at_35) rfl (by decide) (XS.l2i X0.here hx rfl (hb hby at_36) rfl k)))))) ?_
  show own_Goes p e below (s₁.setTop (mkF m 37 #[.val (.long i0), .second, .val (.long i1), .second, iv i2, iv i3, iv i4, iv y48, iv y49, .unset, .unset, .unset, .unset, .unset, .unset, .unset, .unset, .unset, .unset, .unset, .unset, .unset, .unset, .unset] [(.int (((i1 &&& (2147483647 : Int64)) - ((i1 &&& (2147483647 : Int64)) / (81 : Int64)) * (81 : Int64)).toInt32))])) _
  obtain ⟨y50, hy50⟩ : ∃ z, z = (((i1 &&& (2147483647 : Int64)) - ((i1 &&& (2147483647 : Int64)) / (81 : Int64)) * (81 : Int64)).toInt32) := ⟨_, rfl⟩
  rw [← hy50]
  show own_Goes p e below (s₁.setTop (mkF m 37 #[.val (.long i0), .second, .val (.long i1), .second, iv i2, iv i3, iv i4, iv y48, iv y49, .unset, .unset, .unset, .unset, .unset, .unset, .unset, .unset, .unset, .unset, .unset, .unset, .unset, .unset, .unset] [(.int y50)])) _
  refine own_via (fun t k => XS.istore X0.here hx rfl (hb hby at_37) rfl (l' := #[.val (.long i0), .second, .val (.long i1), .second, iv i2, iv i3, iv i4, iv y48, iv y49, iv y50, .unset, .unset, .unset, .unset, .unset, .unset, .unset, .unset, .unset, .unset, .unset, .unset, .unset, .unset]) rfl k) ?_
  have rgy50 := own_lm81 hy50
  refine own_via (fun t k => XS.lloadN X0.here hx rfl (hb hby at_39) rfl (XS.bipush X0.here hx rfl (hb hby at_40) (XS.lushr X0.here hx rfl (hb hby at_42) rfl (X0.ldc2Long hx hown (mvT hZ (wd hw 0 rfl)) (g := (mkF m 43 #[.val (.long i0), .second, .val (.long i1), .second, iv i2, iv i3, iv i4, iv y48, iv y49, iv y50, .unset, .unset, .unset, .unset, .unset, .unset, .unset, .unset, .unset, .unset, .unset, .unset, .unset, .unset] [(.long ((i1.toUInt64 >>> ((32 : Int32) &&& 0x3f).toInt64.toUInt64).toInt64))])) rfl (hb hby at_43) t (XS.land X0.here hx rfl (hb hby at_46) rfl (X0.ldc2Long hx hown (mvT hZ (wd hw 2 rfl)) (g := (mkF m 47 #[.val (.long i0), .second, .val (.long i1), .second, iv i2, iv i3, iv i4, iv y48, iv y49, iv y50, .unset, .unset, .unset, .unset, .unset, .unset, .unset, .unset, .unset, .unset, .unset, .unset, .unset, .unset] [(.long (((i1.toUInt64 >>> ((32 : Int32) &&& 0x3f).toInt64.toUInt64).toInt64) &&& (2147483647 : Int64)))])) rfl (hb hby at_47) t (XS.lrem X0.here hx rfl (hb hby at_50) rfl (by decide) (XS.l2i X0.here hx rfl (hb hby at_51) rfl k)))))))) ?_
  show own_Goes p e below (s₁.setTop (mkF m 52 #[.val (.long i0), .second, .val (.long i1), .second, iv i2, iv i3, iv i4, iv y48, iv y49, iv y50, .unset, .unset, .unset, .unset, .unset, .unset, .unset, .unset, .unset, .unset, .unset, .unset, .unset, .unset] [(.int (((((i1.toUInt64 >>> ((32 : Int32) &&& 0x3f).toInt64.toUInt64).toInt64) &&& (2147483647 : Int64)) - ((((i1.toUInt64 >>> ((32 : Int32) &&& 0x3f).toInt64.toUInt64).toInt64) &&& (2147483647 : Int64)) / (11 : Int64)) * (11 : Int64)).toInt32))])) _
  obtain ⟨y51, hy51⟩ : ∃ z, z = (((((i1.toUInt64 >>> ((32 : Int32) &&& 0x3f).toInt64.toUInt64).toInt64) &&& (2147483647 : Int64)) - ((((i1.toUInt64 >>> ((32 : Int32) &&& 0x3f).toInt64.toUInt64).toInt64) &&& (2147483647 : Int64)) / (11 : Int64)) * (11 : Int64)).toInt32) := ⟨_, rfl⟩
  rw [← hy51]
  show own_Goes p e below (s₁.setTop (mkF m 52 #[.val (.long i0), .second, .val (.long i1), .second, iv i2, iv i3, iv i4, iv y48, iv y49, iv y50, .unset, .unset, .unset, .unset, .unset, .unset, .unset, .unset, .unset, .unset, .unset, .unset, .unset, .unset] [(.int y51)])) _
  refine own_via (fun t k => XS.istore X0.here hx rfl (hb hby at_52) rfl (l' := #[.val (.long i0), .second, .val (.long i1), .second, iv i2, iv i3, iv i4, iv y48, iv y49, iv y50, iv y51, .unset, .unset, .unset, .unset, .unset, .unset, .unset, .unset, .unset, .unset, .unset, .unset, .unset]) rfl k) ?_
  have rgy51 := own_lm11 hy51
  refine own_via (fun t k => XS.iload X0.here hx rfl (hb hby at_54) rfl (X0.ldcInt hx hown (mvT hZ (wd hw 3 rfl)) (g := (mkF m 56 #[.val (.long i0), .second, .val (.long i1), .second, iv i2, iv i3, iv i4, iv y48, iv y49, iv y50, iv y51, .unset, .unset, .unset, .unset, .unset, .unset, .unset, .unset, .unset, .unset, .unset, .unset, .unset] [(.int i2)])) rfl (hb hby at_56) t (XS.iand X0.here hx rfl (hb hby at_58) rfl (XS.bipush X0.here hx rfl (hb hby at_59) (iremM (g := (mkF m 61 #[.val (.long i0), .second, .val (.long i1), .second, iv i2, iv i3, iv i4, iv y48, iv y49, iv y50, iv y51, .unset, .unset, .unset, .unset, .unset, .unset, .unset, .unset, .unset, .unset, .unset, .unset, .unset] [(.int (81 : Int32)), (.int (i2 &&& (2147483647 : Int32)))])) X0 hx rfl (hb hby at_61) rfl (by decide) k))))) ?_
  show own_Goes p e below (s₁.setTop (mkF m 62 #[.val (.long i0), .second, .val (.long i1), .second, iv i2, iv i3, iv i4, iv y48, iv y49, iv y50, iv y51, .unset, .unset, .unset, .unset, .unset, .unset, .unset, .unset, .unset, .unset, .unset, .unset, .unset] [(.int ((i2 &&& (2147483647 : Int32)) % (81 : Int32)))])) _
  obtain ⟨y52, hy52⟩ : ∃ z, z = ((i2 &&& (2147483647 : Int32)) % (81 : Int32)) := ⟨_, rfl⟩
  rw [← hy52]
  show own_Goes p e below (s₁.setTop (mkF m 62 #[.val (.long i0), .second, .val (.long i1), .second, iv i2, iv i3, iv i4, iv y48, iv y49, iv y50, iv y51, .unset, .unset, .unset, .unset, .unset, .unset, .unset, .unset, .unset, .unset, .unset, .unset, .unset] [(.int y52)])) _
  refine own_via (fun t k => XS.istore X0.here hx rfl (hb hby at_62) rfl (l' := #[.val (.long i0), .second, .val (.long i1), .second, iv i2, iv i3, iv i4, iv y48, iv y49, iv y50, iv y51, iv y52, .unset, .unset, .unset, .unset, .unset, .unset, .unset, .unset, .unset, .unset, .unset, .unset]) rfl (XS.iload X0.here hx rfl (hb hby at_64) rfl (X0.ldcInt hx hown (mvT hZ (wd hw 3 rfl)) (g := (mkF m 66 #[.val (.long i0), .second, .val (.long i1), .second, iv i2, iv i3, iv i4, iv y48, iv y49, iv y50, iv y51, iv y52, .unset, .unset, .unset, .unset, .unset, .unset, .unset, .unset, .unset, .unset, .unset, .unset] [(.int i3)])) rfl (hb hby at_66) t (XS.iand X0.here hx rfl (hb hby at_68) rfl (XS.bipush X0.here hx rfl (hb hby at_69) (iremM (g := (mkF m 71 #[.val (.long i0), .second, .val (.long i1), .second, iv i2, iv i3, iv i4, iv y48, iv y49, iv y50, iv y51, iv y52, .unset, .unset, .unset, .unset, .unset, .unset, .unset, .unset, .unset, .unset, .unset, .unset] [(.int (11 : Int32)), (.int (i3 &&& (2147483647 : Int32)))])) X0 hx rfl (hb hby at_71) rfl (by decide) k)))))) ?_
  show own_Goes p e below (s₁.setTop (mkF m 72 #[.val (.long i0), .second, .val (.long i1), .second, iv i2, iv i3, iv i4, iv y48, iv y49, iv y50, iv y51, iv y52, .unset, .unset, .unset, .unset, .unset, .unset, .unset, .unset, .unset, .unset, .unset, .unset] [(.int ((i3 &&& (2147483647 : Int32)) % (11 : Int32)))])) _
  obtain ⟨y53, hy53⟩ : ∃ z, z = ((i3 &&& (2147483647 : Int32)) % (11 : Int32)) := ⟨_, rfl⟩
  rw [← hy53]
  show own_Goes p e below (s₁.setTop (mkF m 72 #[.val (.long i0), .second, .val (.long i1), .second, iv i2, iv i3, iv i4, iv y48, iv y49, iv y50, iv y51, iv y52, .unset, .unset, .unset, .unset, .unset, .unset, .unset, .unset, .unset, .unset, .unset, .unset] [(.int y53)])) _
  refine own_via (fun t k => XS.istore X0.here hx rfl (hb hby at_72) rfl (l' := #[.val (.long i0), .second, .val (.long i1), .second, iv i2, iv i3, iv i4, iv y48, iv y49, iv y50, iv y51, iv y52, iv y53, .unset, .unset, .unset, .unset, .unset, .unset, .unset, .unset, .unset, .unset, .unset]) rfl (XS.iload X0.here hx rfl (hb hby at_74) rfl (XS.iconst X0.here hx rfl (hb hby at_76) (XS.iand X0.here hx rfl (hb hby at_77) rfl k)))) ?_
  show own_Goes p e below (s₁.setTop (mkF m 78 #[.val (.long i0), .second, .val (.long i1), .second, iv i2, iv i3, iv i4, iv y48, iv y49, iv y50, iv y51, iv y52, iv y53, .unset, .unset, .unset, .unset, .unset, .unset, .unset, .unset, .unset, .unset, .unset] [(.int (i4 &&& (1 : Int32)))])) _
  by_cases hc54 : (i4 &&& (1 : Int32)) = (0 : Int32)
  · refine own_via (fun t k => XS.ifYes X0.here hx rfl (pc0 := 78) (pc' := 85) rfl (hb hby at_78) rfl ((if0 _ _).trans (teq hc54).1) (by decide) (by decide) (XS.iconst X0.here hx rfl (hb hby at_85) (XS.istore X0.here hx rfl (hb hby at_86) rfl (l' := #[.val (.long i0), .second, .val (.long i1), .second, iv i2, iv i3, iv i4, iv y48, iv y49, iv y50, iv y51, iv y52, iv y53, iv (0 : Int32), .unset, .unset, .unset, .unset, .unset, .unset, .unset, .unset, .unset, .unset]) rfl (XS.iload X0.here hx rfl (hb hby at_88) rfl (XS.bipush X0.here hx rfl (hb hby at_90) (XS.iushr X0.here hx rfl (hb hby at_92) rfl (XS.i2c X0.here hx rfl (hb hby at_93) rfl k))))))) ?_
    show own_Goes p e below (s₁.setTop (mkF m 94 #[.val (.long i0), .second, .val (.long i1), .second, iv i2, iv i3, iv i4, iv y48, iv y49, iv y50, iv y51, iv y52, iv y53, iv (0 : Int32), .unset, .unset, .unset, .unset, .unset, .unset, .unset, .unset, .unset, .unset] [(.int (((i4.toUInt32 >>> ((16 : Int32) &&& 31).toUInt32).toInt32).toUInt32.toUInt16.toUInt32.toInt32))])) _
    obtain ⟨y55, hy55⟩ : ∃ z, z = (((i4.toUInt32 >>> ((16 : Int32) &&& 31).toUInt32).toInt32).toUInt32.toUInt16.toUInt32.toInt32) := ⟨_, rfl⟩
    rw [← hy55]
    show own_Goes p e below (s₁.setTop (mkF m 94 #[.val (.long i0), .second, .val (.long i1), .second, iv i2, iv i3, iv i4, iv y48, iv y49, iv y50, iv y51, iv y52, iv y53, iv (0 : Int32), .unset, .unset, .unset, .unset, .unset, .unset, .unset, .unset, .unset, .unset] [(.int y55)])) _
    refine own_via (fun t k => XS.istore X0.here hx rfl (hb hby at_94) rfl (l' := #[.val (.long i0), .second, .val (.long i1), .second, iv i2, iv i3, iv i4, iv y48, iv y49, iv y50, iv y51, iv y52, iv y53, iv (0 : Int32), iv y55, .unset, .unset, .unset, .unset, .unset, .unset, .unset, .unset, .unset]) rfl (XS.iload X0.here hx rfl (hb hby at_96) rfl k)) ?_
    obtain ⟨_, T56, _, X56, hQ56, st56⟩ := own_cs X0 hx hZ hown (wd hw 4 rfl) (wd hw 5 rfl) (wd hw 7 rfl) (wd hw 6 rfl) (by decide) (rm1 l Z a0 hw [] y53 h0 n0 O0 ) e0 (g := (mkF m 98 #[.val (.long i0), .second, .val (.long i1), .second, iv i2, iv i3, iv i4, iv y48, iv y49, iv y50, iv y51, iv y52, iv y53, iv (0 : Int32), iv y55, .unset, .unset, .unset, .unset, .unset, .unset, .unset, .unset, .unset] [(.int y53)])) rfl (by rw [hml]; rfl) (rest := []) (W := 0) (lenOf pd_1 rfl) rfl (by show 2 * 0 + _ ≤ _; exact Nat.le_of_eq rfl) (hb hby at_98) (by decide) (by decide) (by decide) (by decide)
    obtain ⟨rfl, Nq56, hh104⟩ := hQ56
    have N56 := Fr.app N0 Nq56
    refine own_via (fun t k => st56 t (XS.istore X56.here hx rfl (hb hby at_101) rfl (l' := #[.val (.long i0), .second, .val (.long i1), .second, iv i2, iv i3, iv i4, iv y48, iv y49, iv y50, iv y51, iv y52, iv y53, iv (0 : Int32), iv y55, iv (own_sym y53), .unset, .unset, .unset, .unset, .unset, .unset, .unset, .unset]) rfl (XS.bipush X56.here hx rfl (hb hby at_103) k))) ?_
    show own_Goes p e below (T56.setTop (mkF m 105 #[.val (.long i0), .second, .val (.long i1), .second, iv i2, iv i3, iv i4, iv y48, iv y49, iv y50, iv y51, iv y52, iv y53, iv (0 : Int32), iv y55, iv (own_sym y53), .unset, .unset, .unset, .unset, .unset, .unset, .unset, .unset] [(.int (81 : Int32))])) _
    obtain ⟨T105, h105, k105, X105, e105, E105, A105, a105x, st105⟩ := newPE X56 hx hZ (wd hw 8 rfl) hh104 (g := (mkF m 105 #[.val (.long i0), .second, .val (.long i1), .second, iv i2, iv i3, iv i4, iv y48, iv y49, iv y50, iv y51, iv y52, iv y53, iv (0 : Int32), iv y55, iv (own_sym y53), .unset, .unset, .unset, .unset, .unset, .unset, .unset, .unset] [(.int (81 : Int32))])) rfl (hb hby at_105) rfl (by decide) (cap := 81) (by decide) (by decide) (by decide) (by decide) (ad := "[C") (by decide)
    obtain ⟨b106, q105⟩ : ∃ z, z = h0.size := ⟨_, rfl⟩
    rw [← q105] at A105 st105 a105x
    refine own_via (fun t k => st105 t k) ?_
    have g107 : n0 ≤ b106 := Nat.le_trans (own_old O0) (Nat.le_of_eq q105.symm)
    have B108 : h0.size ≤ b106 := Nat.le_trans (Nat.le_refl _) (Nat.le_of_eq q105.symm)
    have V109 : Arv Z h105 b106 k105 .char (81 : Int32) [] (.int (0 : Int32)) := Arv.new A105 (by decide)
    show own_Goes p e below (T105.setTop (mkF m 107 #[.val (.long i0), .second, .val (.long i1), .second, iv i2, iv i3, iv i4, iv y48, iv y49, iv y50, iv y51, iv y52, iv y53, iv (0 : Int32), iv y55, iv (own_sym y53), .unset, .unset, .unset, .unset, .unset, .unset, .unset, .unset] [(.ref b106)])) _
    have V110 : Arv Z h105 b106 k105 .char (81 : Int32) (own_vs 81 (own_fl 0 (own_sym y53))) (.int (0 : Int32)) := own_z_new V109 (own_fl_zero _)
    obtain ⟨T111, h111, L111, X111, e111, N111, K111, V111, st111⟩ := own_fill (cd := code) (N := 81) (q := 15) (pc' := 587) (Ls := #[.val (.long i0), .second, .val (.long i1), .second, iv i2, iv i3, iv i4, iv y48, iv y49, iv y50, iv y51, iv y52, iv y53, iv (0 : Int32), iv y55, iv (own_sym y53), .unset, .unset, .unset, .unset, .unset, .unset, .unset, .unset]) (rest := []) (n := (81 : Int32)) (z := (own_sym y53)) hx hZ hby (by decide) (by decide) (own_narS _) rfl g107 81 0 107 T105 h105 _ rfl own_fe81 X105 e105 N56 V110
    refine own_via (fun t k => st111 t (XS.astore X111.here hx rfl (hb hby at_587) rfl rfl (l' := #[.val (.long i0), .second, .val (.long i1), .second, iv i2, iv i3, iv i4, iv y48, iv y49, iv y50, iv y51, iv y52, iv y53, iv (0 : Int32), iv y55, iv (own_sym y53), rv b106, .unset, .unset, .unset, .unset, .unset, .unset, .unset]) rfl (XS.bipush X111.here hx rfl (hb hby at_589) k))) ?_
    show own_Goes p e below (T111.setTop (mkF m 591 #[.val (.long i0), .second, .val (.long i1), .second, iv i2, iv i3, iv i4, iv y48, iv y49, iv y50, iv y51, iv y52, iv y53, iv (0 : Int32), iv y55, iv (own_sym y53), rv b106, .unset, .unset, .unset, .unset, .unset, .unset, .unset] [(.int (82 : Int32))])) _
    obtain ⟨T112, h112, k112, X112, e112, E112, A112, a112x, st112⟩ := newPE X111 hx hZ (wd hw 8 rfl) e111 (g := (mkF m 591 #[.val (.long i0), .second, .val (.long i1), .second, iv i2, iv i3, iv i4, iv y48, iv y49, iv y50, iv y51, iv y52, iv y53, iv (0 : Int32), iv y55, iv (own_sym y53), rv b106, .unset, .unset, .unset, .unset, .unset, .unset, .unset] [(.int (82 : Int32))])) rfl (hb hby at_591) rfl (by decide) (cap := 82) (by decide) (by decide) (by decide) (by decide) (ad := "[C") (by decide)
    obtain ⟨b113, q112⟩ : ∃ z, z = h111.size := ⟨_, rfl⟩
    rw [← q112] at A112 st112 a112x
    refine own_via (fun t k => st112 t k) ?_
    have E115 : Exa Z h111 b106 "[C" := (a105x.keep K111)
    have N114 : b106 ≠ b113 := Nat.ne_of_lt (Nat.lt_of_lt_of_le E115.lt (Nat.le_of_eq q112.symm))
    have O117 : Old Z n0 h111 := ((O0.ext E105).keep K111 (allS g107 all0))
    have g116 : n0 ≤ b113 := Nat.le_trans (own_old O117) (Nat.le_of_eq q112.symm)
    have Z119 : h0.size ≤ h111.size := (Nat.le_trans (Nat.le_trans (Nat.le_refl _) E105.1) K111.1)
    have B118 : h0.size ≤ b113 := Nat.le_trans Z119 (Nat.le_of_eq q112.symm)
    have V120 : Arv Z h112 b113 k112 .char (82 : Int32) [] (.int (0 : Int32)) := Arv.new A112 (by decide)
    show own_Goes p e below (T112.setTop (mkF m 593 #[.val (.long i0), .second, .val (.long i1), .second, iv i2, iv i3, iv i4, iv y48, iv y49, iv y50, iv y51, iv y52, iv y53, iv (0 : Int32), iv y55, iv (own_sym y53), rv b106, .unset, .unset, .unset, .unset, .unset, .unset, .unset] [(.ref b113)])) _
    have V121 : Arv Z h112 b113 k112 .char (82 : Int32) (own_vs 82 (own_fl 0 (own_sym y53))) (.int (0 : Int32)) := own_z_new V120 (own_fl_zero _)
    obtain ⟨T122, h122, L122, X122, e122, N122, K122, V122, st122⟩ := own_fill (cd := code) (N := 82) (q := 15) (pc' := 1079) (Ls := #[.val (.long i0), .second, .val (.long i1), .second, iv i2, iv i3, iv i4, iv y48, iv y49, iv y50, iv y51, iv y52, iv y53, iv (0 : Int32), iv y55, iv (own_sym y53), rv b106, .unset, .unset, .unset, .unset, .unset, .unset, .unset]) (rest := []) (n := (82 : Int32)) (z := (own_sym y53)) hx hZ hby (by decide) (by decide) (own_narS _) rfl g116 82 0 593 T112 h112 _ rfl own_fe82 X112 e112 N111 V121
    refine own_via (fun t k => st122 t (XS.astore X122.here hx rfl (hb hby at_1079) rfl rfl (l' := #[.val (.long i0), .second, .val (.long i1), .second, iv i2, iv i3, iv i4, iv y48, iv y49, iv y50, iv y51, iv y52, iv y53, iv (0 : Int32), iv y55, iv (own_sym y53), rv b106, rv b113, .unset, .unset, .unset, .unset, .unset, .unset]) rfl (XS.aload X122.here hx rfl (hb hby at_1081) rfl rfl (XS.iload X122.here hx rfl (hb hby at_1083) rfl (XS.iload X122.here hx rfl (hb hby at_1085) rfl k))))) ?_
    show own_Goes p e below (T122.setTop (mkF m 1087 #[.val (.long i0), .second, .val (.long i1), .second, iv i2, iv i3, iv i4, iv y48, iv y49, iv y50, iv y51, iv y52, iv y53, iv (0 : Int32), iv y55, iv (own_sym y53), rv b106, rv b113, .unset, .unset, .unset, .unset, .unset, .unset] [(.int y49), (.int y48), (.ref b106)])) _
    have O124 : Old Z n0 h122 := ((O117.ext E112).keep K122 (allS g116 all0))
    obtain ⟨_, T123, _, X123, hQ123, st123⟩ := own_cs X122 hx hZ hown (wd hw 4 rfl) (wd hw 5 rfl) (wd hw 7 rfl) (wd hw 6 rfl) (by decide) (rm1 l Z a0 hw [] y49 h122 n0 O124 ) e122 (g := (mkF m 1087 #[.val (.long i0), .second, .val (.long i1), .second, iv i2, iv i3, iv i4, iv y48, iv y49, iv y50, iv y51, iv y52, iv y53, iv (0 : Int32), iv y55, iv (own_sym y53), rv b106, rv b113, .unset, .unset, .unset, .unset, .unset, .unset] [(.int y49), (.int y48), (.ref b106)])) rfl (by rw [hml]; rfl) (rest := [(.int y48), (.ref b106)]) (W := 2) (lenOf pd_1 rfl) rfl (by show 2 * 0 + _ ≤ _; exact Nat.le_of_eq rfl) (hb hby at_1087) (by decide) (by decide) (by decide) (by decide)
    obtain ⟨rfl, Nq123, hh125⟩ := hQ123
    have N123 := Fr.app N122 Nq123
    refine own_via (fun t k => st123 t k) ?_
    have V126 : Arv Z h122 b106 k105 .char (81 : Int32) (own_vs 81 (own_fl 81 (own_sym y53))) (.int (0 : Int32)) := ((V111.ext E112).keep K122 (ninS N114 nin0))
    obtain ⟨cl127, Ar127, qq127, S127, M127, H127, G127⟩ := id (V126)
    have hin127 : ¬ (y48 < 0 ∨ cl127.slots.size ≤ (y48).toNatClampNeg) := inb_of S127 ⟨rgy48.1, rgy48.2⟩
    obtain ⟨T127, h127, X127, e127, W127, st127⟩ := stC X123 hx hZ hh125 Ar127 (j := y48) hin127 (g := (mkF m 1090 #[.val (.long i0), .second, .val (.long i1), .second, iv i2, iv i3, iv i4, iv y48, iv y49, iv y50, iv y51, iv y52, iv y53, iv (0 : Int32), iv y55, iv (own_sym y53), rv b106, rv b113, .unset, .unset, .unset, .unset, .unset, .unset] [(.int (own_sym y49)), (.int y48), (.ref b106)])) rfl rfl (hb hby at_1090)
    refine own_via (fun t k => st127 t k) ?_
    have V128 : Arv Z h127 b106 k105 .char (81 : Int32) (own_vs 81 (own_up (own_fl 81 (own_sym y53)) (y48).toNatClampNeg (own_sym y49))) (.int (0 : Int32)) := by
      have qv := Arv.set Ar127 qq127 S127 M127 H127 G127 (fits_nar_char (own_sym y49)) W127 (y48).toNatClampNeg rfl (by rw [own_vs_len]; exact own_inN S127 rfl hin127)
      first | rw [(own_narS _)] at qv | rw [own_c2] at qv
      rw [own_vs_set] at qv
      exact qv
    have N127 := Fr.snoc X127 N123 g107
    show own_Goes p e below (T127.setTop (mkF m 1091 #[.val (.long i0), .second, .val (.long i1), .second, iv i2, iv i3, iv i4, iv y48, iv y49, iv y50, iv y51, iv y52, iv y53, iv (0 : Int32), iv y55, iv (own_sym y53), rv b106, rv b113, .unset, .unset, .unset, .unset, .unset, .unset] [])) _
    refine own_via (fun t k => XS.aload X127.here hx rfl (hb hby at_1091) rfl rfl (XS.iload X127.here hx rfl (hb hby at_1093) rfl (XS.iload X127.here hx rfl (hb hby at_1095) rfl k))) ?_
    show own_Goes p e below (T127.setTop (mkF m 1097 #[.val (.long i0), .second, .val (.long i1), .second, iv i2, iv i3, iv i4, iv y48, iv y49, iv y50, iv y51, iv y52, iv y53, iv (0 : Int32), iv y55, iv (own_sym y53), rv b106, rv b113, .unset, .unset, .unset, .unset, .unset, .unset] [(.int y51), (.int y50), (.ref b106)])) _
    have O130 : Old Z n0 h127 := (O124.wr W127 g107)
    obtain ⟨_, T129, _, X129, hQ129, st129⟩ := own_cs X127 hx hZ hown (wd hw 4 rfl) (wd hw 5 rfl) (wd hw 7 rfl) (wd hw 6 rfl) (by decide) (rm1 l Z a0 hw [] y51 h127 n0 O130 ) e127 (g := (mkF m 1097 #[.val (.long i0), .second, .val (.long i1), .second, iv i2, iv i3, iv i4, iv y48, iv y49, iv y50, iv y51, iv y52, iv y53, iv (0 : Int32), iv y55, iv (own_sym y53), rv b106, rv b113, .unset, .unset, .unset, .unset, .unset, .unset] [(.int y51), (.int y50), (.ref b106)])) rfl (by rw [hml]; rfl) (rest := [(.int y50), (.ref b106)]) (W := 2) (lenOf pd_1 rfl) rfl (by show 2 * 0 + _ ≤ _; exact Nat.le_of_eq rfl) (hb hby at_1097) (by decide) (by decide) (by decide) (by decide)
    obtain ⟨rfl, Nq129, hh131⟩ := hQ129
    have N129 := Fr.app N127 Nq129
    refine own_via (fun t k => st129 t k) ?_
    obtain ⟨cl132, Ar132, qq132, S132, M132, H132, G132⟩ := id (V128)
    have hin132 : ¬ (y50 < 0 ∨ cl132.slots.size ≤ (y50).toNatClampNeg) := inb_of S132 ⟨rgy50.1, rgy50.2⟩
    obtain ⟨T132, h132, X132, e132, W132, st132⟩ := stC X129 hx hZ hh131 Ar132 (j := y50) hin132 (g := (mkF m 1100 #[.val (.long i0), .second, .val (.long i1), .second, iv i2, iv i3, iv i4, iv y48, iv y49, iv y50, iv y51, iv y52, iv y53, iv (0 : Int32), iv y55, iv (own_sym y53), rv b106, rv b113, .unset, .unset, .unset, .unset, .unset, .unset] [(.int (own_sym y51)), (.int y50), (.ref b106)])) rfl rfl (hb hby at_1100)
    refine own_via (fun t k => st132 t k) ?_
    have V133 : Arv Z h132 b106 k105 .char (81 : Int32) (own_vs 81 (own_up (own_up (own_fl 81 (own_sym y53)) (y48).toNatClampNeg (own_sym y49)) (y50).toNatClampNeg (own_sym y51))) (.int (0 : Int32)) := by
      have qv := Arv.set Ar132 qq132 S132 M132 H132 G132 (fits_nar_char (own_sym y51)) W132 (y50).toNatClampNeg rfl (by rw [own_vs_len]; exact own_inN S132 rfl hin132)
      first | rw [(own_narS _)] at qv | rw [own_c2] at qv
      rw [own_vs_set] at qv
      exact qv
    have N132 := Fr.snoc X132 N129 g107
    show own_Goes p e below (T132.setTop (mkF m 1101 #[.val (.long i0), .second, .val (.long i1), .second, iv i2, iv i3, iv i4, iv y48, iv y49, iv y50, iv y51, iv y52, iv y53, iv (0 : Int32), iv y55, iv (own_sym y53), rv b106, rv b113, .unset, .unset, .unset, .unset, .unset, .unset] [])) _
    refine own_via (fun t k => XS.aload X132.here hx rfl (hb hby at_1101) rfl rfl (XS.iload X132.here hx rfl (hb hby at_1103) rfl (XS.iload X132.here hx rfl (hb hby at_1105) rfl k))) ?_
    show own_Goes p e below (T132.setTop (mkF m 1107 #[.val (.long i0), .second, .val (.long i1), .second, iv i2, iv i3, iv i4, iv y48, iv y49, iv y50, iv y51, iv y52, iv y53, iv (0 : Int32), iv y55, iv (own_sym y53), rv b106, rv b113, .unset, .unset, .unset, .unset, .unset, .unset] [(.int y49), (.int y48), (.ref b113)])) _
    have O135 : Old Z n0 h132 := (O130.wr W132 g107)
    obtain ⟨_, T134, _, X134, hQ134, st134⟩ := own_cs X132 hx hZ hown (wd hw 4 rfl) (wd hw 5 rfl) (wd hw 7 rfl) (wd hw 6 rfl) (by decide) (rm1 l Z a0 hw [] y49 h132 n0 O135 ) e132 (g := (mkF m 1107 #[.val (.long i0), .second, .val (.long i1), .second, iv i2, iv i3, iv i4, iv y48, iv y49, iv y50, iv y51, iv y52, iv y53, iv (0 : Int32), iv y55, iv (own_sym y53), rv b106, rv b113, .unset, .unset, .unset, .unset, .unset, .unset] [(.int y49), (.int y48), (.ref b113)])) rfl (by rw [hml]; rfl) (rest := [(.int y48), (.ref b113)]) (W := 2) (lenOf pd_1 rfl) rfl (by show 2 * 0 + _ ≤ _; exact Nat.le_of_eq rfl) (hb hby at_1107) (by decide) (by decide) (by decide) (by decide)
    obtain ⟨rfl, Nq134, hh136⟩ := hQ134
    have N134 := Fr.app N132 Nq134
    refine own_via (fun t k => st134 t k) ?_
    have V137 : Arv Z h132 b113 k112 .char (82 : Int32) (own_vs 82 (own_fl 82 (own_sym y53))) (.int (0 : Int32)) := ((V122.other W127 (Ne.symm N114)).other W132 (Ne.symm N114))
    obtain ⟨cl138, Ar138, qq138, S138, M138, H138, G138⟩ := id (V137)
    have hin138 : ¬ (y48 < 0 ∨ cl138.slots.size ≤ (y48).toNatClampNeg) := inb_of S138 ⟨rgy48.1, (own_81_82 rgy48.2)⟩
    obtain ⟨T138, h138, X138, e138, W138, st138⟩ := stC X134 hx hZ hh136 Ar138 (j := y48) hin138 (g := (mkF m 1110 #[.val (.long i0), .second, .val (.long i1), .second, iv i2, iv i3, iv i4, iv y48, iv y49, iv y50, iv y51, iv y52, iv y53, iv (0 : Int32), iv y55, iv (own_sym y53), rv b106, rv b113, .unset, .unset, .unset, .unset, .unset, .unset] [(.int (own_sym y49)), (.int y48), (.ref b113)])) rfl rfl (hb hby at_1110)
    refine own_via (fun t k => st138 t k) ?_
    have V139 : Arv Z h138 b113 k112 .char (82 : Int32) (own_vs 82 (own_up (own_fl 82 (own_sym y53)) (y48).toNatClampNeg (own_sym y49))) (.int (0 : Int32)) := by
      have qv := Arv.set Ar138 qq138 S138 M138 H138 G138 (fits_nar_char (own_sym y49)) W138 (y48).toNatClampNeg rfl (by rw [own_vs_len]; exact own_inN S138 rfl hin138)
      first | rw [(own_narS _)] at qv | rw [own_c2] at qv
      rw [own_vs_set] at qv
      exact qv
    have N138 := Fr.snoc X138 N134 g116
    show own_Goes p e below (T138.setTop (mkF m 1111 #[.val (.long i0), .second, .val (.long i1), .second, iv i2, iv i3, iv i4, iv y48, iv y49, iv y50, iv y51, iv y52, iv y53, iv (0 : Int32), iv y55, iv (own_sym y53), rv b106, rv b113, .unset, .unset, .unset, .unset, .unset, .unset] [])) _
    refine own_via (fun t k => XS.aload X138.here hx rfl (hb hby at_1111) rfl rfl (XS.iload X138.here hx rfl (hb hby at_1113) rfl (XS.iload X138.here hx rfl (hb hby at_1115) rfl k))) ?_
    show own_Goes p e below (T138.setTop (mkF m 1117 #[.val (.long i0), .second, .val (.long i1), .second, iv i2, iv i3, iv i4, iv y48, iv y49, iv y50, iv y51, iv y52, iv y53, iv (0 : Int32), iv y55, iv (own_sym y53), rv b106, rv b113, .unset, .unset, .unset, .unset, .unset, .unset] [(.int y51), (.int y50), (.ref b113)])) _
    have O141 : Old Z n0 h138 := (O135.wr W138 g116)
    obtain ⟨_, T140, _, X140, hQ140, st140⟩ := own_cs X138 hx hZ hown (wd hw 4 rfl) (wd hw 5 rfl) (wd hw 7 rfl) (wd hw 6 rfl) (by decide) (rm1 l Z a0 hw [] y51 h138 n0 O141 ) e138 (g := (mkF m 1117 #[.val (.long i0), .second, .val (.long i1), .second, iv i2, iv i3, iv i4, iv y48, iv y49, iv y50, iv y51, iv y52, iv y53, iv (0 : Int32), iv y55, iv (own_sym y53), rv b106, rv b113, .unset, .unset, .unset, .unset, .unset, .unset] [(.int y51), (.int y50), (.ref b113)])) rfl (by rw [hml]; rfl) (rest := [(.int y50), (.ref b113)]) (W := 2) (lenOf pd_1 rfl) rfl (by show 2 * 0 + _ ≤ _; exact Nat.le_of_eq rfl) (hb hby at_1117) (by decide) (by decide) (by decide) (by decide)
    obtain ⟨rfl, Nq140, hh142⟩ := hQ140
    have N140 := Fr.app N138 Nq140
    refine own_via (fun t k => st140 t k) ?_
    obtain ⟨cl143, Ar143, qq143, S143, M143, H143, G143⟩ := id (V139)
    have hin143 : ¬ (y50 < 0 ∨ cl143.slots.size ≤ (y50).toNatClampNeg) := inb_of S143 ⟨rgy50.1, (own_81_82 rgy50.2)⟩
    obtain ⟨T143, h143, X143, e143, W143, st143⟩ := stC X140 hx hZ hh142 Ar143 (j := y50) hin143 (g := (mkF m 1120 #[.val (.long i0), .second, .val (.long i1), .second, iv i2, iv i3, iv i4, iv y48, iv y49, iv y50, iv y51, iv y52, iv y53, iv (0 : Int32), iv y55, iv (own_sym y53), rv b106, rv b113, .unset, .unset, .unset, .unset, .unset, .unset] [(.int (own_sym y51)), (.int y50), (.ref b113)])) rfl rfl (hb hby at_1120)
    refine own_via (fun t k => st143 t k) ?_
    have V144 : Arv Z h143 b113 k112 .char (82 : Int32) (own_vs 82 (own_up (own_up (own_fl 82 (own_sym y53)) (y48).toNatClampNeg (own_sym y49)) (y50).toNatClampNeg (own_sym y51))) (.int (0 : Int32)) := by
      have qv := Arv.set Ar143 qq143 S143 M143 H143 G143 (fits_nar_char (own_sym y51)) W143 (y50).toNatClampNeg rfl (by rw [own_vs_len]; exact own_inN S143 rfl hin143)
      first | rw [(own_narS _)] at qv | rw [own_c2] at qv
      rw [own_vs_set] at qv
      exact qv
    have N143 := Fr.snoc X143 N140 g116
    show own_Goes p e below (T143.setTop (mkF m 1121 #[.val (.long i0), .second, .val (.long i1), .second, iv i2, iv i3, iv i4, iv y48, iv y49, iv y50, iv y51, iv y52, iv y53, iv (0 : Int32), iv y55, iv (own_sym y53), rv b106, rv b113, .unset, .unset, .unset, .unset, .unset, .unset] [])) _
    refine own_via (fun t k => XS.aload X143.here hx rfl (hb hby at_1121) rfl rfl (XS.bipush X143.here hx rfl (hb hby at_1123) (XS.iload X143.here hx rfl (hb hby at_1125) rfl k))) ?_
    show own_Goes p e below (T143.setTop (mkF m 1127 #[.val (.long i0), .second, .val (.long i1), .second, iv i2, iv i3, iv i4, iv y48, iv y49, iv y50, iv y51, iv y52, iv y53, iv (0 : Int32), iv y55, iv (own_sym y53), rv b106, rv b113, .unset, .unset, .unset, .unset, .unset, .unset] [(.int y55), (.int (81 : Int32)), (.ref b113)])) _
    obtain ⟨cl145, Ar145, qq145, S145, M145, H145, G145⟩ := id (V144)
    have hin145 : ¬ ((81 : Int32) < 0 ∨ cl145.slots.size ≤ ((81 : Int32)).toNatClampNeg) := inb_of S145 ⟨by decide, by decide⟩
    obtain ⟨T145, h145, X145, e145, W145, st145⟩ := stC X143 hx hZ e143 Ar145 (j := (81 : Int32)) hin145 (g := (mkF m 1127 #[.val (.long i0), .second, .val (.long i1), .second, iv i2, iv i3, iv i4, iv y48, iv y49, iv y50, iv y51, iv y52, iv y53, iv (0 : Int32), iv y55, iv (own_sym y53), rv b106, rv b113, .unset, .unset, .unset, .unset, .unset, .unset] [(.int y55), (.int (81 : Int32)), (.ref b113)])) rfl rfl (hb hby at_1127)
    refine own_via (fun t k => st145 t k) ?_
    have V146 : Arv Z h145 b113 k112 .char (82 : Int32) (own_vs 82 (own_up (own_up (own_up (own_fl 82 (own_sym y53)) (y48).toNatClampNeg (own_sym y49)) (y50).toNatClampNeg (own_sym y51)) 81 y55)) (.int (0 : Int32)) := by
      have qv := Arv.set Ar145 qq145 S145 M145 H145 G145 (fits_nar_char y55) W145 81 rfl (by rw [own_vs_len]; exact own_inN S145 rfl hin145)
      first | rw [(own_narC hy55)] at qv | rw [own_c2] at qv
      rw [own_vs_set] at qv
      exact qv
    have N145 := Fr.snoc X145 N143 g116
    show own_Goes p e below (T145.setTop (mkF m 1128 #[.val (.long i0), .second, .val (.long i1), .second, iv i2, iv i3, iv i4, iv y48, iv y49, iv y50, iv y51, iv y52, iv y53, iv (0 : Int32), iv y55, iv (own_sym y53), rv b106, rv b113, .unset, .unset, .unset, .unset, .unset, .unset] [])) _
    have V147 : Arv Z h145 b106 k105 .char (81 : Int32) (own_vs 81 (own_up (own_up (own_fl 81 (own_sym y53)) (y48).toNatClampNeg (own_sym y49)) (y50).toNatClampNeg (own_sym y51))) (.int (0 : Int32)) := (((V133.other W138 N114).other W143 N114).other W145 N114)
    obtain ⟨f148, hf148⟩ : ∃ z : Nat → Int32, z = (own_up (own_up (own_fl 81 (own_sym y53)) (y48).toNatClampNeg (own_sym y49)) (y50).toNatClampNeg (own_sym y51)) := ⟨_, rfl⟩
    have V149 : Arv Z h145 b106 k105 .char (81 : Int32) (own_vs 81 f148) (.int (0 : Int32)) := by rw [hf148]; exact V147
    have okf148 : own_okF f148 := own_ok81 hf148 (by rw [hy53]; exact (own_nn_rem (11 : Int32) (own_nn_mask i3 (2147483647 : Int32) 31 (by decide) (by decide)))) (by rw [hy53]; exact (own_lt_rem (11 : Int32) (own_nn_mask i3 (2147483647 : Int32) 31 (by decide) (by decide)) (by decide))) rgy49.1 rgy49.2 rgy51.1 rgy51.2
    have dgf148 := fun (p : Int32) (p0 : ¬ (p < (0 : Int32))) (p1 : p < (81 : Int32)) => own_fin81 hf148 HRD p0 p1 rgy48.1 rgy48.2 rgy50.1 rgy50.2 (by rw [hy53]; exact (own_nn_rem (11 : Int32) (own_nn_mask i3 (2147483647 : Int32) 31 (by decide) (by decide)))) (by rw [hy53]; exact (own_lt_rem (11 : Int32) (own_nn_mask i3 (2147483647 : Int32) 31 (by decide) (by decide)) (by decide))) rgy49.1 rgy49.2 rgy51.1 rgy51.2
    obtain ⟨f150, hf150⟩ : ∃ z : Nat → Int32, z = (own_up (own_up (own_up (own_fl 82 (own_sym y53)) (y48).toNatClampNeg (own_sym y49)) (y50).toNatClampNeg (own_sym y51)) 81 y55) := ⟨_, rfl⟩
    have V151 : Arv Z h145 b113 k112 .char (82 : Int32) (own_vs 82 f150) (.int (0 : Int32)) := by rw [hf150]; exact V146
    have okf150 : own_okF f150 := own_ok82 hf150 (by rw [hy53]; exact (own_nn_rem (11 : Int32) (own_nn_mask i3 (2147483647 : Int32) 31 (by decide) (by decide)))) (by rw [hy53]; exact (own_lt_rem (11 : Int32) (own_nn_mask i3 (2147483647 : Int32) 31 (by decide) (by decide)) (by decide))) rgy49.1 rgy49.2 rgy51.1 rgy51.2
    have dgf150 := fun (p : Int32) (p0 : ¬ (p < (0 : Int32))) (p1 : p < (81 : Int32)) => own_fin82 hf150 HRD p0 p1 rgy48.1 rgy48.2 rgy50.1 rgy50.2 (by rw [hy53]; exact (own_nn_rem (11 : Int32) (own_nn_mask i3 (2147483647 : Int32) 31 (by decide) (by decide)))) (by rw [hy53]; exact (own_lt_rem (11 : Int32) (own_nn_mask i3 (2147483647 : Int32) 31 (by decide) (by decide)) (by decide))) rgy49.1 rgy49.2 rgy51.1 rgy51.2
    show own_Goes p e below (T145.setTop (mkF m 1128 #[.val (.long i0), .second, .val (.long i1), .second, iv i2, iv i3, iv i4, iv y48, iv y49, iv y50, iv y51, iv y52, iv y53, iv (0 : Int32), iv y55, iv (own_sym y53), rv b106, rv b113, .unset, .unset, .unset, .unset, .unset, .unset] [])) _
    refine own_via (fun t k => XS.iload X145.here hx rfl (hb hby at_1128) rfl (XS.ifYes X145.here hx rfl (pc0 := 1130) (pc' := 1145) rfl (hb hby at_1130) rfl ((if0 _ _).trans (teq (by decide : (0 : Int32) = (0 : Int32))).1) (by decide) (by decide) k)) ?_
    obtain ⟨T152, h152, X152, e152, E152, A152, D152, -, st152⟩ := newO X145 hx hZ hown (wd hw 9 rfl) (wd hw 10 rfl) (wd hw 11 rfl) e145 (g := (mkF m 1145 #[.val (.long i0), .second, .val (.long i1), .second, iv i2, iv i3, iv i4, iv y48, iv y49, iv y50, iv y51, iv y52, iv y53, iv (0 : Int32), iv y55, iv (own_sym y53), rv b106, rv b113, .unset, .unset, .unset, .unset, .unset, .unset] [])) rfl (hb hby at_1145) (by decide) (by decide)
    obtain ⟨b153, q152⟩ : ∃ z, z = h145.size := ⟨_, rfl⟩
    rw [← q152] at A152 D152 st152
    refine own_via (fun t k => st152 t k) ?_
    have E155 : Exa Z h145 b106 "[C" := (((((((E115.ext E112).keep K122).wr W127).wr W132).wr W138).wr W143).wr W145)
    have N154 : b106 ≠ b153 := Nat.ne_of_lt (Nat.lt_of_lt_of_le E155.lt (Nat.le_of_eq q152.symm))
    have E157 : Exa Z h145 b113 "[C" := ((((((a112x.keep K122).wr W127).wr W132).wr W138).wr W143).wr W145)
    have N156 : b113 ≠ b153 := Nat.ne_of_lt (Nat.lt_of_lt_of_le E157.lt (Nat.le_of_eq q152.symm))
    have O159 : Old Z n0 h145 := ((O141.wr W143 g116).wr W145 g116)
    have g158 : n0 ≤ b153 := Nat.le_trans (own_old O159) (Nat.le_of_eq q152.symm)
    have Z161 : h0.size ≤ h145.size := (Nat.le_trans (Nat.le_trans (Nat.le_trans (Nat.le_trans (Nat.le_trans (Nat.le_trans (Nat.le_trans Z119 E112.1) K122.1) (Nat.le_of_eq W127.size.symm)) (Nat.le_of_eq W132.size.symm)) (Nat.le_of_eq W138.size.symm)) (Nat.le_of_eq W143.size.symm)) (Nat.le_of_eq W145.size.symm))
    have B160 : h0.size ≤ b153 := Nat.le_trans Z161 (Nat.le_of_eq q152.symm)
    have F162 : Fld Z h152 b153 zs1 "coder" "B" (.int (0 : Int32)) := D152 (Or.inr (wd hw 35 rfl)) (ty := .byte) (by decide)
    have F163 : Fld Z h152 b153 zs1 "value" "[B" .null := D152 (Or.inr (wd hw 37 rfl)) (ty := (.array .byte)) (by decide)
    show own_Goes p e below (T152.setTop (mkF m 1148 #[.val (.long i0), .second, .val (.long i1), .second, iv i2, iv i3, iv i4, iv y48, iv y49, iv y50, iv y51, iv y52, iv y53, iv (0 : Int32), iv y55, iv (own_sym y53), rv b106, rv b113, .unset, .unset, .unset, .unset, .unset, .unset] [(.ref b153)])) _
    refine own_via (fun t k => XS.dup X152.here hx rfl (hb hby at_1148) rfl rfl (XS.aload X152.here hx rfl (hb hby at_1149) rfl rfl k)) ?_
    have V509 : Arv Z h152 b106 k105 .char (81 : Int32) (own_vs 81 f148) (.int (0 : Int32)) := (V149.ext E152)
    have l510 : own_Len Z h152 b106 .char (81 : Int32) := ⟨_, _, _, V509⟩
    have O511 : Old Z n0 h152 := (O159.ext E152)
    obtain ⟨_, T164, _, X164, hQ164, st164⟩ := own_ci X152 hx hZ hown (wd hw 12 rfl) (wd hw 13 rfl) (wd hw 14 rfl) (wd hw 11 rfl) rfl (by decide) (rm6 l Z a0 hw [] b153 b106 i43 f148 k105 (0 : Int32) h152 n0 O511 l510 S_String_COMPACT_STRINGS SNZ_i43 okf148 V509 F162 A152 g158 F163) e152 (g := (mkF m 1151 #[.val (.long i0), .second, .val (.long i1), .second, iv i2, iv i3, iv i4, iv y48, iv y49, iv y50, iv y51, iv y52, iv y53, iv (0 : Int32), iv y55, iv (own_sym y53), rv b106, rv b113, .unset, .unset, .unset, .unset, .unset, .unset] [(.ref b106), (.ref b153), (.ref b153)])) rfl (by rw [hml]; rfl) (rest := [(.ref b153)]) (W := 1) (lenOf pd_6 rfl) rfl (by show 2 * 0 + _ ≤ _; exact Nat.le_of_eq rfl) (hb hby at_1151) (by decide) (by decide) (by decide) (by decide)
    obtain ⟨h164, e164⟩ : ∃ z, T164.heap = z := ⟨_, rfl⟩
    rw [e164] at hQ164
    obtain ⟨b512, k513, rfl, Nq164, K164, ex514, fx515, fx516, bx517, ex518, vx519⟩ := hQ164
    have N164 := Fr.app N145 Nq164
    have E521 : Exa Z h152 b106 "[C" := (E155.ext E152)
    have N520 : b106 ≠ b512 := Nat.ne_of_lt (Nat.lt_of_lt_of_le E521.lt bx517)
    have E523 : Exa Z h152 b113 "[C" := (E157.ext E152)
    have N522 : b113 ≠ b512 := Nat.ne_of_lt (Nat.lt_of_lt_of_le E523.lt bx517)
    have N524 : b153 ≠ b512 := Nat.ne_of_lt (Nat.lt_of_lt_of_le A152.lt bx517)
    have g525 : n0 ≤ b512 := Nat.le_trans (own_old O511) bx517
    have Z527 : h0.size ≤ h152.size := (Nat.le_trans Z161 E152.1)
    have B526 : h0.size ≤ b512 := Nat.le_trans Z527 bx517
    refine own_via (fun t k => st164 t (XS.astore X164.here hx rfl (hb hby at_1154) rfl rfl (l' := #[.val (.long i0), .second, .val (.long i1), .second, iv i2, iv i3, iv i4, iv y48, iv y49, iv y50, iv y51, iv y52, iv y53, iv (0 : Int32), iv y55, iv (own_sym y53), rv b106, rv b113, rv b153, .unset, .unset, .unset, .unset, .unset]) rfl (XS.aload X164.here hx rfl (hb hby at_1156) rfl rfl (X164.ldc2Long hx hown (mvT hZ (wd hw 1 rfl)) (g := (mkF m 1158 #[.val (.long i0), .second, .val (.long i1), .second, iv i2, iv i3, iv i4, iv y48, iv y49, iv y50, iv y51, iv y52, iv y53, iv (0 : Int32), iv y55, iv (own_sym y53), rv b106, rv b113, rv b153, .unset, .unset, .unset, .unset, .unset] [(.ref b153)])) rfl (hb hby at_1158) t k)))) ?_
    show own_Goes p e below (T164.setTop (mkF m 1161 #[.val (.long i0), .second, .val (.long i1), .second, iv i2, iv i3, iv i4, iv y48, iv y49, iv y50, iv y51, iv y52, iv y53, iv (0 : Int32), iv y55, iv (own_sym y53), rv b106, rv b113, rv b153, .unset, .unset, .unset, .unset, .unset] [(.long (81 : Int64)), (.ref b153)])) _
    have l1264 : own_Len Z h164 b512 .byte (81 : Int32) := ⟨_, _, _, vx519⟩
    have O1265 : Old Z n0 h164 := (O511.keep K164 (allS g158 all0))
    obtain ⟨_, T528, _, X528, hQ528, st528⟩ := own_cs X164 hx hZ hown (wd hw 38 rfl) (wd hw 39 rfl) (wd hw 41 rfl) (wd hw 40 rfl) (by decide) (rm16 l Z a0 hw [] b153 w36 f148 rd1 w39 kc_w39 b512 k513 i43 fm1 h164 n0 O1265 S_PuzzleLine_SHAPE SF_w36_side SE_w36 okf148 HRD S_PuzzleLine_READS_AS SV_w39 ex514 fx515 fx516 l1264 vx519 ex518 S_String_COMPACT_STRINGS SNZ_i43 S_Preconditions_SIOOBE_FORMATTER) e164 (g := (mkF m 1161 #[.val (.long i0), .second, .val (.long i1), .second, iv i2, iv i3, iv i4, iv y48, iv y49, iv y50, iv y51, iv y52, iv y53, iv (0 : Int32), iv y55, iv (own_sym y53), rv b106, rv b113, rv b153, .unset, .unset, .unset, .unset, .unset] [(.long (81 : Int64)), (.ref b153)])) rfl (by rw [hml]; rfl) (rest := []) (W := 0) (lenOf pd_14 rfl) rfl (by show 2 * 0 + _ ≤ _; exact Nat.le_of_eq rfl) (hb hby at_1161) (by decide) (by decide) (by decide) (by decide)
    obtain ⟨h528, e528⟩ : ∃ z, T528.heap = z := ⟨_, rfl⟩
    rw [e528] at hQ528
    obtain ⟨b1266, k1267, b1268, rfl, Nq528, K528, bx1269, vx1270, ex1271, bx1272, ex1273, fx1274, fx1275, nx1276⟩ := hQ528
    have N528 := Fr.app N164 Nq528
    have E1278 : Exa Z h164 b106 "[C" := (E521.keep K164)
    have N1277 : b106 ≠ b1266 := Nat.ne_of_lt (Nat.lt_of_lt_of_le E1278.lt bx1269)
    have E1280 : Exa Z h164 b113 "[C" := (E523.keep K164)
    have N1279 : b113 ≠ b1266 := Nat.ne_of_lt (Nat.lt_of_lt_of_le E1280.lt bx1269)
    have N1281 : b153 ≠ b1266 := Nat.ne_of_lt (Nat.lt_of_lt_of_le ex514.lt bx1269)
    have N1282 : b512 ≠ b1266 := Nat.ne_of_lt (Nat.lt_of_lt_of_le ex518.lt bx1269)
    have g1283 : n0 ≤ b1266 := Nat.le_trans (own_old O1265) bx1269
    have Z1285 : h0.size ≤ h164.size := (Nat.le_trans Z527 K164.1)
    have B1284 : h0.size ≤ b1266 := Nat.le_trans Z1285 bx1269
    have N1286 : b106 ≠ b1268 := Nat.ne_of_lt (Nat.lt_of_lt_of_le E1278.lt bx1272)
    have N1287 : b113 ≠ b1268 := Nat.ne_of_lt (Nat.lt_of_lt_of_le E1280.lt bx1272)
    have N1288 : b153 ≠ b1268 := Nat.ne_of_lt (Nat.lt_of_lt_of_le ex514.lt bx1272)
    have N1289 : b512 ≠ b1268 := Nat.ne_of_lt (Nat.lt_of_lt_of_le ex518.lt bx1272)
    have g1290 : n0 ≤ b1268 := Nat.le_trans (own_old O1265) bx1272
    have B1291 : h0.size ≤ b1268 := Nat.le_trans Z1285 bx1272
    refine own_via (fun t k => st528 t (XS.astore X528.here hx rfl (hb hby at_1164) rfl rfl (l' := #[.val (.long i0), .second, .val (.long i1), .second, iv i2, iv i3, iv i4, iv y48, iv y49, iv y50, iv y51, iv y52, iv y53, iv (0 : Int32), iv y55, iv (own_sym y53), rv b106, rv b113, rv b153, rv b1268, .unset, .unset, .unset, .unset]) rfl (XS.aload X528.here hx rfl (hb hby at_1166) rfl rfl k))) ?_
    show own_Goes p e below (T528.setTop (mkF m 1168 #[.val (.long i0), .second, .val (.long i1), .second, iv i2, iv i3, iv i4, iv y48, iv y49, iv y50, iv y51, iv y52, iv y53, iv (0 : Int32), iv y55, iv (own_sym y53), rv b106, rv b113, rv b153, rv b1268, .unset, .unset, .unset, .unset] [(.ref b1268)])) _
    have O1357 : Old Z n0 h528 := (O1265.keep K528 all0)
    obtain ⟨_, T1292, _, X1292, hQ1292, st1292⟩ := own_cv X528 hx hZ hown (wd hw 106 rfl) (wd hw 107 rfl) (wd hw 109 rfl) (wd hw 108 rfl) (wd hw 110 rfl) (wd hw 79 rfl) (by decide) (rm17 l Z a0 hw [] b1268 w36 h528 n0 O1357 fx1274) e528 ex1273 (g := (mkF m 1168 #[.val (.long i0), .second, .val (.long i1), .second, iv i2, iv i3, iv i4, iv y48, iv y49, iv y50, iv y51, iv y52, iv y53, iv (0 : Int32), iv y55, iv (own_sym y53), rv b106, rv b113, rv b153, rv b1268, .unset, .unset, .unset, .unset] [(.ref b1268)])) rfl (by rw [hml]; rfl) (rest := []) (W := 0) (lenOf pd_15 rfl) rfl (by show 2 * 0 + _ ≤ _; exact Nat.le_of_eq rfl) (hb hby at_1168) (by decide) (by decide) (by decide) (by decide)
    obtain ⟨rfl, Nq1292, hh1358⟩ := hQ1292
    have N1292 := Fr.app N528 Nq1292
    refine own_via (fun t k => st1292 t k) ?_
    obtain ⟨T1359, X1359, e1359, st1359⟩ := getS2 X1292 hx hZ hown (host := "") (Or.inl (wd hw 111 rfl)) Via.refl hh1358 (S_Shape_NINE.ext O1357.2) (g := (mkF m 1171 #[.val (.long i0), .second, .val (.long i1), .second, iv i2, iv i3, iv i4, iv y48, iv y49, iv y50, iv y51, iv y52, iv y53, iv (0 : Int32), iv y55, iv (own_sym y53), rv b106, rv b113, rv b153, rv b1268, .unset, .unset, .unset, .unset] [(.ref w36)])) rfl (hb hby at_1171)
    refine own_via (fun t k => st1359 t (Jvm.RoadKit.acmp (g := (mkF m 1174 #[.val (.long i0), .second, .val (.long i1), .second, iv i2, iv i3, iv i4, iv y48, iv y49, iv y50, iv y51, iv y52, iv y53, iv (0 : Int32), iv y55, iv (own_sym y53), rv b106, rv b113, rv b153, rv b1268, .unset, .unset, .unset, .unset] [(.ref w36), (.ref w36)])) X1359 hx rfl rfl rfl (pc0 := 1174) (pc' := 1177) (same := true) rfl (hb hby at_1174) rfl (decide_eq_true rfl) (by decide) (by decide) (XS.iconst X1359.here hx rfl (hb hby at_1177) (XS.goto X1359.here hx rfl (pc0 := 1178) (pc' := 1182) rfl (hb hby at_1178) (by decide) (by decide) (XS.istore X1359.here hx rfl (hb hby at_1182) rfl (l' := #[.val (.long i0), .second, .val (.long i1), .second, iv i2, iv i3, iv i4, iv y48, iv y49, iv y50, iv y51, iv y52, iv y53, iv (0 : Int32), iv y55, iv (own_sym y53), rv b106, rv b113, rv b153, rv b1268, iv (1 : Int32), .unset, .unset, .unset]) rfl (XS.aload X1359.here hx rfl (hb hby at_1184) rfl rfl (XS.iload X1359.here hx rfl (hb hby at_1186) rfl k))))))) ?_
    show own_Goes p e below (T1359.setTop (mkF m 1188 #[.val (.long i0), .second, .val (.long i1), .second, iv i2, iv i3, iv i4, iv y48, iv y49, iv y50, iv y51, iv y52, iv y53, iv (0 : Int32), iv y55, iv (own_sym y53), rv b106, rv b113, rv b153, rv b1268, iv (1 : Int32), .unset, .unset, .unset] [(.int y48), (.ref b1268)])) _
    obtain ⟨_, T1360, _, X1360, hQ1360, st1360⟩ := own_cv X1359 hx hZ hown (wd hw 113 rfl) (wd hw 114 rfl) (wd hw 116 rfl) (wd hw 115 rfl) (wd hw 117 rfl) (wd hw 79 rfl) (by decide) (rm18 l Z a0 hw [] b1268 y48 b1266 k1267 f148 rd1 h528 n0 O1357 fx1275 vx1270 rgy48.1 rgy48.2) e1359 ex1273 (g := (mkF m 1188 #[.val (.long i0), .second, .val (.long i1), .second, iv i2, iv i3, iv i4, iv y48, iv y49, iv y50, iv y51, iv y52, iv y53, iv (0 : Int32), iv y55, iv (own_sym y53), rv b106, rv b113, rv b153, rv b1268, iv (1 : Int32), .unset, .unset, .unset] [(.int y48), (.ref b1268)])) rfl (by rw [hml]; rfl) (rest := []) (W := 0) (lenOf pd_16 rfl) rfl (by show 2 * 0 + _ ≤ _; exact Nat.le_of_eq rfl) (hb hby at_1188) (by decide) (by decide) (by decide) (by decide)
    obtain ⟨rfl, Nq1360, hh1426⟩ := hQ1360
    have N1360 := Fr.app N1292 Nq1360
    refine own_via (fun t k => st1360 t (XS.iload X1360.here hx rfl (hb hby at_1191) rfl (XS.iload X1360.here hx rfl (hb hby at_1193) rfl (XS.iload X1360.here hx rfl (hb hby at_1195) rfl (XS.iload X1360.here hx rfl (hb hby at_1197) rfl (XS.iload X1360.here hx rfl (hb hby at_1199) rfl (XS.iload X1360.here hx rfl (hb hby at_1201) rfl k))))))) ?_
    show own_Goes p e below (T1360.setTop (mkF m 1203 #[.val (.long i0), .second, .val (.long i1), .second, iv i2, iv i3, iv i4, iv y48, iv y49, iv y50, iv y51, iv y52, iv y53, iv (0 : Int32), iv y55, iv (own_sym y53), rv b106, rv b113, rv b153, rv b1268, iv (1 : Int32), .unset, .unset, .unset] [(.int y53), (.int y51), (.int y50), (.int y49), (.int y48), (.int y48), (.int ((own_dg 81 f148 rd1) (y48).toNatClampNeg))])) _
    obtain ⟨_, T1427, _, X1427, hQ1427, st1427⟩ := own_cs X1360 hx hZ hown (wd hw 118 rfl) (wd hw 119 rfl) (wd hw 120 rfl) (wd hw 6 rfl) (by decide) (rm20 l Z a0 hw [] y48 y49 y50 y51 y53 h528 n0 O1357 ) hh1426 (g := (mkF m 1203 #[.val (.long i0), .second, .val (.long i1), .second, iv i2, iv i3, iv i4, iv y48, iv y49, iv y50, iv y51, iv y52, iv y53, iv (0 : Int32), iv y55, iv (own_sym y53), rv b106, rv b113, rv b153, rv b1268, iv (1 : Int32), .unset, .unset, .unset] [(.int y53), (.int y51), (.int y50), (.int y49), (.int y48), (.int y48), (.int ((own_dg 81 f148 rd1) (y48).toNatClampNeg))])) rfl (by rw [hml]; rfl) (rest := [(.int ((own_dg 81 f148 rd1) (y48).toNatClampNeg))]) (W := 1) (lenOf pd_17 rfl) rfl (by show 2 * 0 + _ ≤ _; exact Nat.le_of_eq rfl) (hb hby at_1203) (by decide) (by decide) (by decide) (by decide)
    obtain ⟨rfl, Nq1427, hh1561⟩ := hQ1427
    have N1427 := Fr.app N1360 Nq1427
    refine own_via (fun t k => st1427 t (XS.icmpNo X1427.here hx rfl (hb hby at_1206) rfl (teq (dgf148 y48 rgy48.1 rgy48.2)).2 (XS.iconst X1427.here hx rfl (hb hby at_1209) (XS.goto X1427.here hx rfl (pc0 := 1210) (pc' := 1214) rfl (hb hby at_1210) (by decide) (by decide) (XS.istore X1427.here hx rfl (hb hby at_1214) rfl (l' := #[.val (.long i0), .second, .val (.long i1), .second, iv i2, iv i3, iv i4, iv y48, iv y49, iv y50, iv y51, iv y52, iv y53, iv (0 : Int32), iv y55, iv (own_sym y53), rv b106, rv b113, rv b153, rv b1268, iv (1 : Int32), iv (1 : Int32), .unset, .unset]) rfl (XS.aload X1427.here hx rfl (hb hby at_1216) rfl rfl (XS.iload X1427.here hx rfl (hb hby at_1218) rfl k))))))) ?_
    show own_Goes p e below (T1427.setTop (mkF m 1220 #[.val (.long i0), .second, .val (.long i1), .second, iv i2, iv i3, iv i4, iv y48, iv y49, iv y50, iv y51, iv y52, iv y53, iv (0 : Int32), iv y55, iv (own_sym y53), rv b106, rv b113, rv b153, rv b1268, iv (1 : Int32), iv (1 : Int32), .unset, .unset] [(.int y50), (.ref b1268)])) _
    obtain ⟨_, T1562, _, X1562, hQ1562, st1562⟩ := own_cv X1427 hx hZ hown (wd hw 113 rfl) (wd hw 114 rfl) (wd hw 116 rfl) (wd hw 115 rfl) (wd hw 117 rfl) (wd hw 79 rfl) (by decide) (rm18 l Z a0 hw [] b1268 y50 b1266 k1267 f148 rd1 h528 n0 O1357 fx1275 vx1270 rgy50.1 rgy50.2) hh1561 ex1273 (g := (mkF m 1220 #[.val (.long i0), .second, .val (.long i1), .second, iv i2, iv i3, iv i4, iv y48, iv y49, iv y50, iv y51, iv y52, iv y53, iv (0 : Int32), iv y55, iv (own_sym y53), rv b106, rv b113, rv b153, rv b1268, iv (1 : Int32), iv (1 : Int32), .unset, .unset] [(.int y50), (.ref b1268)])) rfl (by rw [hml]; rfl) (rest := []) (W := 0) (lenOf pd_16 rfl) rfl (by show 2 * 0 + _ ≤ _; exact Nat.le_of_eq rfl) (hb hby at_1220) (by decide) (by decide) (by decide) (by decide)
    obtain ⟨rfl, Nq1562, hh1563⟩ := hQ1562
    have N1562 := Fr.app N1427 Nq1562
    refine own_via (fun t k => st1562 t (XS.iload X1562.here hx rfl (hb hby at_1223) rfl (XS.iload X1562.here hx rfl (hb hby at_1225) rfl (XS.iload X1562.here hx rfl (hb hby at_1227) rfl (XS.iload X1562.here hx rfl (hb hby at_1229) rfl (XS.iload X1562.here hx rfl (hb hby at_1231) rfl (XS.iload X1562.here hx rfl (hb hby at_1233) rfl k))))))) ?_
    show own_Goes p e below (T1562.setTop (mkF m 1235 #[.val (.long i0), .second, .val (.long i1), .second, iv i2, iv i3, iv i4, iv y48, iv y49, iv y50, iv y51, iv y52, iv y53, iv (0 : Int32), iv y55, iv (own_sym y53), rv b106, rv b113, rv b153, rv b1268, iv (1 : Int32), iv (1 : Int32), .unset, .unset] [(.int y53), (.int y51), (.int y50), (.int y49), (.int y48), (.int y50), (.int ((own_dg 81 f148 rd1) (y50).toNatClampNeg))])) _
    obtain ⟨_, T1564, _, X1564, hQ1564, st1564⟩ := own_cs X1562 hx hZ hown (wd hw 118 rfl) (wd hw 119 rfl) (wd hw 120 rfl) (wd hw 6 rfl) (by decide) (rm21 l Z a0 hw [] y50 y48 y49 y51 y53 h528 n0 O1357 ) hh1563 (g := (mkF m 1235 #[.val (.long i0), .second, .val (.long i1), .second, iv i2, iv i3, iv i4, iv y48, iv y49, iv y50, iv y51, iv y52, iv y53, iv (0 : Int32), iv y55, iv (own_sym y53), rv b106, rv b113, rv b153, rv b1268, iv (1 : Int32), iv (1 : Int32), .unset, .unset] [(.int y53), (.int y51), (.int y50), (.int y49), (.int y48), (.int y50), (.int ((own_dg 81 f148 rd1) (y50).toNatClampNeg))])) rfl (by rw [hml]; rfl) (rest := [(.int ((own_dg 81 f148 rd1) (y50).toNatClampNeg))]) (W := 1) (lenOf pd_17 rfl) rfl (by show 2 * 0 + _ ≤ _; exact Nat.le_of_eq rfl) (hb hby at_1235) (by decide) (by decide) (by decide) (by decide)
    obtain ⟨rfl, Nq1564, hh1630⟩ := hQ1564
    have N1564 := Fr.app N1562 Nq1564
    refine own_via (fun t k => st1564 t (XS.icmpNo X1564.here hx rfl (hb hby at_1238) rfl (teq (dgf148 y50 rgy50.1 rgy50.2)).2 (XS.iconst X1564.here hx rfl (hb hby at_1241) (XS.goto X1564.here hx rfl (pc0 := 1242) (pc' := 1246) rfl (hb hby at_1242) (by decide) (by decide) (XS.istore X1564.here hx rfl (hb hby at_1246) rfl (l' := #[.val (.long i0), .second, .val (.long i1), .second, iv i2, iv i3, iv i4, iv y48, iv y49, iv y50, iv y51, iv y52, iv y53, iv (0 : Int32), iv y55, iv (own_sym y53), rv b106, rv b113, rv b153, rv b1268, iv (1 : Int32), iv (1 : Int32), iv (1 : Int32), .unset]) rfl (XS.aload X1564.here hx rfl (hb hby at_1248) rfl rfl (XS.iload X1564.here hx rfl (hb hby at_1250) rfl k))))))) ?_
    show own_Goes p e below (T1564.setTop (mkF m 1252 #[.val (.long i0), .second, .val (.long i1), .second, iv i2, iv i3, iv i4, iv y48, iv y49, iv y50, iv y51, iv y52, iv y53, iv (0 : Int32), iv y55, iv (own_sym y53), rv b106, rv b113, rv b153, rv b1268, iv (1 : Int32), iv (1 : Int32), iv (1 : Int32), .unset] [(.int y52), (.ref b1268)])) _
    obtain ⟨_, T1631, _, X1631, hQ1631, st1631⟩ := own_cv X1564 hx hZ hown (wd hw 113 rfl) (wd hw 114 rfl) (wd hw 116 rfl) (wd hw 115 rfl) (wd hw 117 rfl) (wd hw 79 rfl) (by decide) (rm18 l Z a0 hw [] b1268 y52 b1266 k1267 f148 rd1 h528 n0 O1357 fx1275 vx1270 (by rw [hy52]; exact (own_nn_rem (81 : Int32) (own_nn_mask i2 (2147483647 : Int32) 31 (by decide) (by decide)))) (by rw [hy52]; exact (own_lt_rem (81 : Int32) (own_nn_mask i2 (2147483647 : Int32) 31 (by decide) (by decide)) (by decide)))) hh1630 ex1273 (g := (mkF m 1252 #[.val (.long i0), .second, .val (.long i1), .second, iv i2, iv i3, iv i4, iv y48, iv y49, iv y50, iv y51, iv y52, iv y53, iv (0 : Int32), iv y55, iv (own_sym y53), rv b106, rv b113, rv b153, rv b1268, iv (1 : Int32), iv (1 : Int32), iv (1 : Int32), .unset] [(.int y52), (.ref b1268)])) rfl (by rw [hml]; rfl) (rest := []) (W := 0) (lenOf pd_16 rfl) rfl (by show 2 * 0 + _ ≤ _; exact Nat.le_of_eq rfl) (hb hby at_1252) (by decide) (by decide) (by decide) (by decide)
    obtain ⟨rfl, Nq1631, hh1632⟩ := hQ1631
    have N1631 := Fr.app N1564 Nq1631
    refine own_via (fun t k => st1631 t (XS.iload X1631.here hx rfl (hb hby at_1255) rfl (XS.iload X1631.here hx rfl (hb hby at_1257) rfl (XS.iload X1631.here hx rfl (hb hby at_1259) rfl (XS.iload X1631.here hx rfl (hb hby at_1261) rfl (XS.iload X1631.here hx rfl (hb hby at_1263) rfl (XS.iload X1631.here hx rfl (hb hby at_1265) rfl k))))))) ?_
    show own_Goes p e below (T1631.setTop (mkF m 1267 #[.val (.long i0), .second, .val (.long i1), .second, iv i2, iv i3, iv i4, iv y48, iv y49, iv y50, iv y51, iv y52, iv y53, iv (0 : Int32), iv y55, iv (own_sym y53), rv b106, rv b113, rv b153, rv b1268, iv (1 : Int32), iv (1 : Int32), iv (1 : Int32), .unset] [(.int y53), (.int y51), (.int y50), (.int y49), (.int y48), (.int y52), (.int ((own_dg 81 f148 rd1) (y52).toNatClampNeg))])) _
    obtain ⟨_, T1633, _, X1633, hQ1633, st1633⟩ := own_cs X1631 hx hZ hown (wd hw 118 rfl) (wd hw 119 rfl) (wd hw 120 rfl) (wd hw 6 rfl) (by decide) (rm22 l Z a0 hw [] y52 y48 y49 y50 y51 y53 h528 n0 O1357 ) hh1632 (g := (mkF m 1267 #[.val (.long i0), .second, .val (.long i1), .second, iv i2, iv i3, iv i4, iv y48, iv y49, iv y50, iv y51, iv y52, iv y53, iv (0 : Int32), iv y55, iv (own_sym y53), rv b106, rv b113, rv b153, rv b1268, iv (1 : Int32), iv (1 : Int32), iv (1 : Int32), .unset] [(.int y53), (.int y51), (.int y50), (.int y49), (.int y48), (.int y52), (.int ((own_dg 81 f148 rd1) (y52).toNatClampNeg))])) rfl (by rw [hml]; rfl) (rest := [(.int ((own_dg 81 f148 rd1) (y52).toNatClampNeg))]) (W := 1) (lenOf pd_17 rfl) rfl (by show 2 * 0 + _ ≤ _; exact Nat.le_of_eq rfl) (hb hby at_1267) (by decide) (by decide) (by decide) (by decide)
    obtain ⟨rfl, Nq1633, hh1705⟩ := hQ1633
    have N1633 := Fr.app N1631 Nq1633
    refine own_via (fun t k => st1633 t (XS.icmpNo X1633.here hx rfl (hb hby at_1270) rfl (teq (dgf148 y52 (by rw [hy52]; exact (own_nn_rem (81 : Int32) (own_nn_mask i2 (2147483647 : Int32) 31 (by decide) (by decide)))) (by rw [hy52]; exact (own_lt_rem (81 : Int32) (own_nn_mask i2 (2147483647 : Int32) 31 (by decide) (by decide)) (by decide))))).2 (XS.iconst X1633.here hx rfl (hb hby at_1273) (XS.goto X1633.here hx rfl (pc0 := 1274) (pc' := 1278) rfl (hb hby at_1274) (by decide) (by decide) (XS.istore X1633.here hx rfl (hb hby at_1278) rfl (l' := #[.val (.long i0), .second, .val (.long i1), .second, iv i2, iv i3, iv i4, iv y48, iv y49, iv y50, iv y51, iv y52, iv y53, iv (0 : Int32), iv y55, iv (own_sym y53), rv b106, rv b113, rv b153, rv b1268, iv (1 : Int32), iv (1 : Int32), iv (1 : Int32), iv (1 : Int32)]) rfl (XS.iload X1633.here hx rfl (hb hby at_1280) rfl (XS.ifNo X1633.here hx rfl (hb hby at_1282) rfl ((if0 _ _).trans (feq (by decide : ¬ ((1 : Int32) = (0 : Int32)))).1) (XS.iload X1633.here hx rfl (hb hby at_1285) rfl (XS.ifNo X1633.here hx rfl (hb hby at_1287) rfl ((if0 _ _).trans (feq (by decide : ¬ ((1 : Int32) = (0 : Int32)))).1) (XS.iload X1633.here hx rfl (hb hby at_1290) rfl (XS.ifNo X1633.here hx rfl (hb hby at_1292) rfl ((if0 _ _).trans (feq (by decide : ¬ ((1 : Int32) = (0 : Int32)))).1) (XS.iload X1633.here hx rfl (hb hby at_1295) rfl k)))))))))))) ?_
    show own_Goes p e below (T1633.setTop (mkF m 1297 #[.val (.long i0), .second, .val (.long i1), .second, iv i2, iv i3, iv i4, iv y48, iv y49, iv y50, iv y51, iv y52, iv y53, iv (0 : Int32), iv y55, iv (own_sym y53), rv b106, rv b113, rv b153, rv b1268, iv (1 : Int32), iv (1 : Int32), iv (1 : Int32), iv (1 : Int32)] [(.int (1 : Int32))])) _
    refine own_via (fun t k => XS.ifNo X1633.here hx rfl (hb hby at_1297) rfl ((if0 _ _).trans (feq (by decide : ¬ ((1 : Int32) = (0 : Int32)))).1) (XS.iconst X1633.here hx rfl (hb hby at_1300) (XS.goto X1633.here hx rfl (pc0 := 1301) (pc' := 1305) rfl (hb hby at_1301) (by decide) (by decide) k))) ?_
    show own_Goes p e below (T1633.setTop (mkF m 1305 #[.val (.long i0), .second, .val (.long i1), .second, iv i2, iv i3, iv i4, iv y48, iv y49, iv y50, iv y51, iv y52, iv y53, iv (0 : Int32), iv y55, iv (own_sym y53), rv b106, rv b113, rv b153, rv b1268, iv (1 : Int32), iv (1 : Int32), iv (1 : Int32), iv (1 : Int32)] [(.int (1 : Int32))])) _
    obtain ⟨fs, hr, hrun, hended, hW, hsame⟩ := X1633.leave (v := some (.int (1 : Int32))) (fun h => by rw [Bd.returns] at h; cases h)
    refine own_end (t := T1633.setFrames fs) ?_ ⟨_, hrun, hended, _, _, rfl, ?_, ⟨_, rfl⟩, hW, hsame.mono (by decide) (by decide)⟩
    · exact retN X1633 hx (t := .boolean) Bd.returns (by simp) (hb hby at_1305) hr
    · exact ⟨rfl, N1633⟩
  · refine own_via (fun t k => XS.ifNo X0.here hx rfl (hb hby at_78) rfl ((if0 _ _).trans (feq hc54).1) (XS.iconst X0.here hx rfl (hb hby at_81) (XS.goto X0.here hx rfl (pc0 := 82) (pc' := 86) rfl (hb hby at_82) (by decide) (by decide) (XS.istore X0.here hx rfl (hb hby at_86) rfl (l' := #[.val (.long i0), .second, .val (.long i1), .second, iv i2, iv i3, iv i4, iv y48, iv y49, iv y50, iv y51, iv y52, iv y53, iv (1 : Int32), .unset, .unset, .unset, .unset, .unset, .unset, .unset, .unset, .unset, .unset]) rfl (XS.iload X0.here hx rfl (hb hby at_88) rfl (XS.bipush X0.here hx rfl (hb hby at_90) (XS.iushr X0.here hx rfl (hb hby at_92) rfl (XS.i2c X0.here hx rfl (hb hby at_93) rfl k)))))))) ?_
    show own_Goes p e below (s₁.setTop (mkF m 94 #[.val (.long i0), .second, .val (.long i1), .second, iv i2, iv i3, iv i4, iv y48, iv y49, iv y50, iv y51, iv y52, iv y53, iv (1 : Int32), .unset, .unset, .unset, .unset, .unset, .unset, .unset, .unset, .unset, .unset] [(.int (((i4.toUInt32 >>> ((16 : Int32) &&& 31).toUInt32).toInt32).toUInt32.toUInt16.toUInt32.toInt32))])) _
    obtain ⟨y1706, hy1706⟩ : ∃ z, z = (((i4.toUInt32 >>> ((16 : Int32) &&& 31).toUInt32).toInt32).toUInt32.toUInt16.toUInt32.toInt32) := ⟨_, rfl⟩
    rw [← hy1706]
    show own_Goes p e below (s₁.setTop (mkF m 94 #[.val (.long i0), .second, .val (.long i1), .second, iv i2, iv i3, iv i4, iv y48, iv y49, iv y50, iv y51, iv y52, iv y53, iv (1 : Int32), .unset, .unset, .unset, .unset, .unset, .unset, .unset, .unset, .unset, .unset] [(.int y1706)])) _
    refine own_via (fun t k => XS.istore X0.here hx rfl (hb hby at_94) rfl (l' := #[.val (.long i0), .second, .val (.long i1), .second, iv i2, iv i3, iv i4, iv y48, iv y49, iv y50, iv y51, iv y52, iv y53, iv (1 : Int32), iv y1706, .unset, .unset, .unset, .unset, .unset, .unset, .unset, .unset, .unset]) rfl (XS.iload X0.here hx rfl (hb hby at_96) rfl k)) ?_
    obtain ⟨_, T1707, _, X1707, hQ1707, st1707⟩ := own_cs X0 hx hZ hown (wd hw 4 rfl) (wd hw 5 rfl) (wd hw 7 rfl) (wd hw 6 rfl) (by decide) (rm1 l Z a0 hw [] y53 h0 n0 O0 ) e0 (g := (mkF m 98 #[.val (.long i0), .second, .val (.long i1), .second, iv i2, iv i3, iv i4, iv y48, iv y49, iv y50, iv y51, iv y52, iv y53, iv (1 : Int32), iv y1706, .unset, .unset, .unset, .unset, .unset, .unset, .unset, .unset, .unset] [(.int y53)])) rfl (by rw [hml]; rfl) (rest := []) (W := 0) (lenOf pd_1 rfl) rfl (by show 2 * 0 + _ ≤ _; exact Nat.le_of_eq rfl) (hb hby at_98) (by decide) (by decide) (by decide) (by decide)
    obtain ⟨rfl, Nq1707, hh1708⟩ := hQ1707
    have N1707 := Fr.app N0 Nq1707
    refine own_via (fun t k => st1707 t (XS.istore X1707.here hx rfl (hb hby at_101) rfl (l' := #[.val (.long i0), .second, .val (.long i1), .second, iv i2, iv i3, iv i4, iv y48, iv y49, iv y50, iv y51, iv y52, iv y53, iv (1 : Int32), iv y1706, iv (own_sym y53), .unset, .unset, .unset, .unset, .unset, .unset, .unset, .unset]) rfl (XS.bipush X1707.here hx rfl (hb hby at_103) k))) ?_
    show own_Goes p e below (T1707.setTop (mkF m 105 #[.val (.long i0), .second, .val (.long i1), .second, iv i2, iv i3, iv i4, iv y48, iv y49, iv y50, iv y51, iv y52, iv y53, iv (1 : Int32), iv y1706, iv (own_sym y53), .unset, .unset, .unset, .unset, .unset, .unset, .unset, .unset] [(.int (81 : Int32))])) _
    obtain ⟨T1709, h1709, k1709, X1709, e1709, E1709, A1709, a1709x, st1709⟩ := newPE X1707 hx hZ (wd hw 8 rfl) hh1708 (g := (mkF m 105 #[.val (.long i0), .second, .val (.long i1), .second, iv i2, iv i3, iv i4, iv y48, iv y49, iv y50, iv y51, iv y52, iv y53, iv (1 : Int32), iv y1706, iv (own_sym y53), .unset, .unset, .unset, .unset, .unset, .unset, .unset, .unset] [(.int (81 : Int32))])) rfl (hb hby at_105) rfl (by decide) (cap := 81) (by decide) (by decide) (by decide) (by decide) (ad := "[C") (by decide)
    obtain ⟨b1710, q1709⟩ : ∃ z, z = h0.size := ⟨_, rfl⟩
    rw [← q1709] at A1709 st1709 a1709x
    refine own_via (fun t k => st1709 t k) ?_
    have g1711 : n0 ≤ b1710 := Nat.le_trans (own_old O0) (Nat.le_of_eq q1709.symm)
    have B1712 : h0.size ≤ b1710 := Nat.le_trans (Nat.le_refl _) (Nat.le_of_eq q1709.symm)
    have V1713 : Arv Z h1709 b1710 k1709 .char (81 : Int32) [] (.int (0 : Int32)) := Arv.new A1709 (by decide)
    show own_Goes p e below (T1709.setTop (mkF m 107 #[.val (.long i0), .second, .val (.long i1), .second, iv i2, iv i3, iv i4, iv y48, iv y49, iv y50, iv y51, iv y52, iv y53, iv (1 : Int32), iv y1706, iv (own_sym y53), .unset, .unset, .unset, .unset, .unset, .unset, .unset, .unset] [(.ref b1710)])) _
    have V1714 : Arv Z h1709 b1710 k1709 .char (81 : Int32) (own_vs 81 (own_fl 0 (own_sym y53))) (.int (0 : Int32)) := own_z_new V1713 (own_fl_zero _)
    obtain ⟨T1715, h1715, L1715, X1715, e1715, N1715, K1715, V1715, st1715⟩ := own_fill (cd := code) (N := 81) (q := 15) (pc' := 587) (Ls := #[.val (.long i0), .second, .val (.long i1), .second, iv i2, iv i3, iv i4, iv y48, iv y49, iv y50, iv y51, iv y52, iv y53, iv (1 : Int32), iv y1706, iv (own_sym y53), .unset, .unset, .unset, .unset, .unset, .unset, .unset, .unset]) (rest := []) (n := (81 : Int32)) (z := (own_sym y53)) hx hZ hby (by decide) (by decide) (own_narS _) rfl g1711 81 0 107 T1709 h1709 _ rfl own_fe81 X1709 e1709 N1707 V1714
    refine own_via (fun t k => st1715 t (XS.astore X1715.here hx rfl (hb hby at_587) rfl rfl (l' := #[.val (.long i0), .second, .val (.long i1), .second, iv i2, iv i3, iv i4, iv y48, iv y49, iv y50, iv y51, iv y52, iv y53, iv (1 : Int32), iv y1706, iv (own_sym y53), rv b1710, .unset, .unset, .unset, .unset, .unset, .unset, .unset]) rfl (XS.bipush X1715.here hx rfl (hb hby at_589) k))) ?_
    show own_Goes p e below (T1715.setTop (mkF m 591 #[.val (.long i0), .second, .val (.long i1), .second, iv i2, iv i3, iv i4, iv y48, iv y49, iv y50, iv y51, iv y52, iv y53, iv (1 : Int32), iv y1706, iv (own_sym y53), rv b1710, .unset, .unset, .unset, .unset, .unset, .unset, .unset] [(.int (82 : Int32))])) _
    obtain ⟨T1716, h1716, k1716, X1716, e1716, E1716, A1716, a1716x, st1716⟩ := newPE X1715 hx hZ (wd hw 8 rfl) e1715 (g := (mkF m 591 #[.val (.long i0), .second, .val (.long i1), .second, iv i2, iv i3, iv i4, iv y48, iv y49, iv y50, iv y51, iv y52, iv y53, iv (1 : Int32), iv y1706, iv (own_sym y53), rv b1710, .unset, .unset, .unset, .unset, .unset, .unset, .unset] [(.int (82 : Int32))])) rfl (hb hby at_591) rfl (by decide) (cap := 82) (by decide) (by decide) (by decide) (by decide) (ad := "[C") (by decide)
    obtain ⟨b1717, q1716⟩ : ∃ z, z = h1715.size := ⟨_, rfl⟩
    rw [← q1716] at A1716 st1716 a1716x
    refine own_via (fun t k => st1716 t k) ?_
    have E1719 : Exa Z h1715 b1710 "[C" := (a1709x.keep K1715)
    have N1718 : b1710 ≠ b1717 := Nat.ne_of_lt (Nat.lt_of_lt_of_le E1719.lt (Nat.le_of_eq q1716.symm))
    have O1721 : Old Z n0 h1715 := ((O0.ext E1709).keep K1715 (allS g1711 all0))
    have g1720 : n0 ≤ b1717 := Nat.le_trans (own_old O1721) (Nat.le_of_eq q1716.symm)
    have Z1723 : h0.size ≤ h1715.size := (Nat.le_trans (Nat.le_trans (Nat.le_refl _) E1709.1) K1715.1)
    have B1722 : h0.size ≤ b1717 := Nat.le_trans Z1723 (Nat.le_of_eq q1716.symm)
    have V1724 : Arv Z h1716 b1717 k1716 .char (82 : Int32) [] (.int (0 : Int32)) := Arv.new A1716 (by decide)
    show own_Goes p e below (T1716.setTop (mkF m 593 #[.val (.long i0), .second, .val (.long i1), .second, iv i2, iv i3, iv i4, iv y48, iv y49, iv y50, iv y51, iv y52, iv y53, iv (1 : Int32), iv y1706, iv (own_sym y53), rv b1710, .unset, .unset, .unset, .unset, .unset, .unset, .unset] [(.ref b1717)])) _
    have V1725 : Arv Z h1716 b1717 k1716 .char (82 : Int32) (own_vs 82 (own_fl 0 (own_sym y53))) (.int (0 : Int32)) := own_z_new V1724 (own_fl_zero _)
    obtain ⟨T1726, h1726, L1726, X1726, e1726, N1726, K1726, V1726, st1726⟩ := own_fill (cd := code) (N := 82) (q := 15) (pc' := 1079) (Ls := #[.val (.long i0), .second, .val (.long i1), .second, iv i2, iv i3, iv i4, iv y48, iv y49, iv y50, iv y51, iv y52, iv y53, iv (1 : Int32), iv y1706, iv (own_sym y53), rv b1710, .unset, .unset, .unset, .unset, .unset, .unset, .unset]) (rest := []) (n := (82 : Int32)) (z := (own_sym y53)) hx hZ hby (by decide) (by decide) (own_narS _) rfl g1720 82 0 593 T1716 h1716 _ rfl own_fe82 X1716 e1716 N1715 V1725
    refine own_via (fun t k => st1726 t (XS.astore X1726.here hx rfl (hb hby at_1079) rfl rfl (l' := #[.val (.long i0), .second, .val (.long i1), .second, iv i2, iv i3, iv i4, iv y48, iv y49, iv y50, iv y51, iv y52, iv y53, iv (1 : Int32), iv y1706, iv (own_sym y53), rv b1710, rv b1717, .unset, .unset, .unset, .unset, .unset, .unset]) rfl (XS.aload X1726.here hx rfl (hb hby at_1081) rfl rfl (XS.iload X1726.here hx rfl (hb hby at_1083) rfl (XS.iload X1726.here hx rfl (hb hby at_1085) rfl k))))) ?_
    show own_Goes p e below (T1726.setTop (mkF m 1087 #[.val (.long i0), .second, .val (.long i1), .second, iv i2, iv i3, iv i4, iv y48, iv y49, iv y50, iv y51, iv y52, iv y53, iv (1 : Int32), iv y1706, iv (own_sym y53), rv b1710, rv b1717, .unset, .unset, .unset, .unset, .unset, .unset] [(.int y49), (.int y48), (.ref b1710)])) _
    have O1728 : Old Z n0 h1726 := ((O1721.ext E1716).keep K1726 (allS g1720 all0))
    obtain ⟨_, T1727, _, X1727, hQ1727, st1727⟩ := own_cs X1726 hx hZ hown (wd hw 4 rfl) (wd hw 5 rfl) (wd hw 7 rfl) (wd hw 6 rfl) (by decide) (rm1 l Z a0 hw [] y49 h1726 n0 O1728 ) e1726 (g := (mkF m 1087 #[.val (.long i0), .second, .val (.long i1), .second, iv i2, iv i3, iv i4, iv y48, iv y49, iv y50, iv y51, iv y52, iv y53, iv (1 : Int32), iv y1706, iv (own_sym y53), rv b1710, rv b1717, .unset, .unset, .unset, .unset, .unset, .unset] [(.int y49), (.int y48), (.ref b1710)])) rfl (by rw [hml]; rfl) (rest := [(.int y48), (.ref b1710)]) (W := 2) (lenOf pd_1 rfl) rfl (by show 2 * 0 + _ ≤ _; exact Nat.le_of_eq rfl) (hb hby at_1087) (by decide) (by decide) (by decide) (by decide)
    obtain ⟨rfl, Nq1727, hh1729⟩ := hQ1727
    have N1727 := Fr.app N1726 Nq1727
    refine own_via (fun t k => st1727 t k) ?_
    have V1730 : Arv Z h1726 b1710 k1709 .char (81 : Int32) (own_vs 81 (own_fl 81 (own_sym y53))) (.int (0 : Int32)) := ((V1715.ext E1716).keep K1726 (ninS N1718 nin0))
    obtain ⟨cl1731, Ar1731, qq1731, S1731, M1731, H1731, G1731⟩ := id (V1730)
    have hin1731 : ¬ (y48 < 0 ∨ cl1731.slots.size ≤ (y48).toNatClampNeg) := inb_of S1731 ⟨rgy48.1, rgy48.2⟩
    obtain ⟨T1731, h1731, X1731, e1731, W1731, st1731⟩ := stC X1727 hx hZ hh1729 Ar1731 (j := y48) hin1731 (g := (mkF m 1090 #[.val (.long i0), .second, .val (.long i1), .second, iv i2, iv i3, iv i4, iv y48, iv y49, iv y50, iv y51, iv y52, iv y53, iv (1 : Int32), iv y1706, iv (own_sym y53), rv b1710, rv b1717, .unset, .unset, .unset, .unset, .unset, .unset] [(.int (own_sym y49)), (.int y48), (.ref b1710)])) rfl rfl (hb hby at_1090)
    refine own_via (fun t k => st1731 t k) ?_
    have V1732 : Arv Z h1731 b1710 k1709 .char (81 : Int32) (own_vs 81 (own_up (own_fl 81 (own_sym y53)) (y48).toNatClampNeg (own_sym y49))) (.int (0 : Int32)) := by
      have qv := Arv.set Ar1731 qq1731 S1731 M1731 H1731 G1731 (fits_nar_char (own_sym y49)) W1731 (y48).toNatClampNeg rfl (by rw [own_vs_len]; exact own_inN S1731 rfl hin1731)
      first | rw [(own_narS _)] at qv | rw [own_c2] at qv
      rw [own_vs_set] at qv
      exact qv
    have N1731 := Fr.snoc X1731 N1727 g1711
    show own_Goes p e below (T1731.setTop (mkF m 1091 #[.val (.long i0), .second, .val (.long i1), .second, iv i2, iv i3, iv i4, iv y48, iv y49, iv y50, iv y51, iv y52, iv y53, iv (1 : Int32), iv y1706, iv (own_sym y53), rv b1710, rv b1717, .unset, .unset, .unset, .unset, .unset, .unset] [])) _
    refine own_via (fun t k => XS.aload X1731.here hx rfl (hb hby at_1091) rfl rfl (XS.iload X1731.here hx rfl (hb hby at_1093) rfl (XS.iload X1731.here hx rfl (hb hby at_1095) rfl k))) ?_
    show own_Goes p e below (T1731.setTop (mkF m 1097 #[.val (.long i0), .second, .val (.long i1), .second, iv i2, iv i3, iv i4, iv y48, iv y49, iv y50, iv y51, iv y52, iv y53, iv (1 : Int32), iv y1706, iv (own_sym y53), rv b1710, rv b1717, .unset, .unset, .unset, .unset, .unset, .unset] [(.int y51), (.int y50), (.ref b1710)])) _
    have O1734 : Old Z n0 h1731 := (O1728.wr W1731 g1711)
    obtain ⟨_, T1733, _, X1733, hQ1733, st1733⟩ := own_cs X1731 hx hZ hown (wd hw 4 rfl) (wd hw 5 rfl) (wd hw 7 rfl) (wd hw 6 rfl) (by decide) (rm1 l Z a0 hw [] y51 h1731 n0 O1734 ) e1731 (g := (mkF m 1097 #[.val (.long i0), .second, .val (.long i1), .second, iv i2, iv i3, iv i4, iv y48, iv y49, iv y50, iv y51, iv y52, iv y53, iv (1 : Int32), iv y1706, iv (own_sym y53), rv b1710, rv b1717, .unset, .unset, .unset, .unset, .unset, .unset] [(.int y51), (.int y50), (.ref b1710)])) rfl (by rw [hml]; rfl) (rest := [(.int y50), (.ref b1710)]) (W := 2) (lenOf pd_1 rfl) rfl (by show 2 * 0 + _ ≤ _; exact Nat.le_of_eq rfl) (hb hby at_1097) (by decide) (by decide) (by decide) (by decide)
    obtain ⟨rfl, Nq1733, hh1735⟩ := hQ1733
    have N1733 := Fr.app N1731 Nq1733
    refine own_via (fun t k => st1733 t k) ?_
    obtain ⟨cl1736, Ar1736, qq1736, S1736, M1736, H1736, G1736⟩ := id (V1732)
    have hin1736 : ¬ (y50 < 0 ∨ cl1736.slots.size ≤ (y50).toNatClampNeg) := inb_of S1736 ⟨rgy50.1, rgy50.2⟩
    obtain ⟨T1736, h1736, X1736, e1736, W1736, st1736⟩ := stC X1733 hx hZ hh1735 Ar1736 (j := y50) hin1736 (g := (mkF m 1100 #[.val (.long i0), .second, .val (.long i1), .second, iv i2, iv i3, iv i4, iv y48, iv y49, iv y50, iv y51, iv y52, iv y53, iv (1 : Int32), iv y1706, iv (own_sym y53), rv b1710, rv b1717, .unset, .unset, .unset, .unset, .unset, .unset] [(.int (own_sym y51)), (.int y50), (.ref b1710)])) rfl rfl (hb hby at_1100)
    refine own_via (fun t k => st1736 t k) ?_
    have V1737 : Arv Z h1736 b1710 k1709 .char (81 : Int32) (own_vs 81 (own_up (own_up (own_fl 81 (own_sym y53)) (y48).toNatClampNeg (own_sym y49)) (y50).toNatClampNeg (own_sym y51))) (.int (0 : Int32)) := by
      have qv := Arv.set Ar1736 qq1736 S1736 M1736 H1736 G1736 (fits_nar_char (own_sym y51)) W1736 (y50).toNatClampNeg rfl (by rw [own_vs_len]; exact own_inN S1736 rfl hin1736)
      first | rw [(own_narS _)] at qv | rw [own_c2] at qv
      rw [own_vs_set] at qv
      exact qv
    have N1736 := Fr.snoc X1736 N1733 g1711
    show own_Goes p e below (T1736.setTop (mkF m 1101 #[.val (.long i0), .second, .val (.long i1), .second, iv i2, iv i3, iv i4, iv y48, iv y49, iv y50, iv y51, iv y52, iv y53, iv (1 : Int32), iv y1706, iv (own_sym y53), rv b1710, rv b1717, .unset, .unset, .unset, .unset, .unset, .unset] [])) _
    refine own_via (fun t k => XS.aload X1736.here hx rfl (hb hby at_1101) rfl rfl (XS.iload X1736.here hx rfl (hb hby at_1103) rfl (XS.iload X1736.here hx rfl (hb hby at_1105) rfl k))) ?_
    show own_Goes p e below (T1736.setTop (mkF m 1107 #[.val (.long i0), .second, .val (.long i1), .second, iv i2, iv i3, iv i4, iv y48, iv y49, iv y50, iv y51, iv y52, iv y53, iv (1 : Int32), iv y1706, iv (own_sym y53), rv b1710, rv b1717, .unset, .unset, .unset, .unset, .unset, .unset] [(.int y49), (.int y48), (.ref b1717)])) _
    have O1739 : Old Z n0 h1736 := (O1734.wr W1736 g1711)
    obtain ⟨_, T1738, _, X1738, hQ1738, st1738⟩ := own_cs X1736 hx hZ hown (wd hw 4 rfl) (wd hw 5 rfl) (wd hw 7 rfl) (wd hw 6 rfl) (by decide) (rm1 l Z a0 hw [] y49 h1736 n0 O1739 ) e1736 (g := (mkF m 1107 #[.val (.long i0), .second, .val (.long i1), .second, iv i2, iv i3, iv i4, iv y48, iv y49, iv y50, iv y51, iv y52, iv y53, iv (1 : Int32), iv y1706, iv (own_sym y53), rv b1710, rv b1717, .unset, .unset, .unset, .unset, .unset, .unset] [(.int y49), (.int y48), (.ref b1717)])) rfl (by rw [hml]; rfl) (rest := [(.int y48), (.ref b1717)]) (W := 2) (lenOf pd_1 rfl) rfl (by show 2 * 0 + _ ≤ _; exact Nat.le_of_eq rfl) (hb hby at_1107) (by decide) (by decide) (by decide) (by decide)
    obtain ⟨rfl, Nq1738, hh1740⟩ := hQ1738
    have N1738 := Fr.app N1736 Nq1738
    refine own_via (fun t k => st1738 t k) ?_
    have V1741 : Arv Z h1736 b1717 k1716 .char (82 : Int32) (own_vs 82 (own_fl 82 (own_sym y53))) (.int (0 : Int32)) := ((V1726.other W1731 (Ne.symm N1718)).other W1736 (Ne.symm N1718))
    obtain ⟨cl1742, Ar1742, qq1742, S1742, M1742, H1742, G1742⟩ := id (V1741)
    have hin1742 : ¬ (y48 < 0 ∨ cl1742.slots.size ≤ (y48).toNatClampNeg) := inb_of S1742 ⟨rgy48.1, (own_81_82 rgy48.2)⟩
    obtain ⟨T1742, h1742, X1742, e1742, W1742, st1742⟩ := stC X1738 hx hZ hh1740 Ar1742 (j := y48) hin1742 (g := (mkF m 1110 #[.val (.long i0), .second, .val (.long i1), .second, iv i2, iv i3, iv i4, iv y48, iv y49, iv y50, iv y51, iv y52, iv y53, iv (1 : Int32), iv y1706, iv (own_sym y53), rv b1710, rv b1717, .unset, .unset, .unset, .unset, .unset, .unset] [(.int (own_sym y49)), (.int y48), (.ref b1717)])) rfl rfl (hb hby at_1110)
    refine own_via (fun t k => st1742 t k) ?_
    have V1743 : Arv Z h1742 b1717 k1716 .char (82 : Int32) (own_vs 82 (own_up (own_fl 82 (own_sym y53)) (y48).toNatClampNeg (own_sym y49))) (.int (0 : Int32)) := by
      have qv := Arv.set Ar1742 qq1742 S1742 M1742 H1742 G1742 (fits_nar_char (own_sym y49)) W1742 (y48).toNatClampNeg rfl (by rw [own_vs_len]; exact own_inN S1742 rfl hin1742)
      first | rw [(own_narS _)] at qv | rw [own_c2] at qv
      rw [own_vs_set] at qv
      exact qv
    have N1742 := Fr.snoc X1742 N1738 g1720
    show own_Goes p e below (T1742.setTop (mkF m 1111 #[.val (.long i0), .second, .val (.long i1), .second, iv i2, iv i3, iv i4, iv y48, iv y49, iv y50, iv y51, iv y52, iv y53, iv (1 : Int32), iv y1706, iv (own_sym y53), rv b1710, rv b1717, .unset, .unset, .unset, .unset, .unset, .unset] [])) _
    refine own_via (fun t k => XS.aload X1742.here hx rfl (hb hby at_1111) rfl rfl (XS.iload X1742.here hx rfl (hb hby at_1113) rfl (XS.iload X1742.here hx rfl (hb hby at_1115) rfl k))) ?_
    show own_Goes p e below (T1742.setTop (mkF m 1117 #[.val (.long i0), .second, .val (.long i1), .second, iv i2, iv i3, iv i4, iv y48, iv y49, iv y50, iv y51, iv y52, iv y53, iv (1 : Int32), iv y1706, iv (own_sym y53), rv b1710, rv b1717, .unset, .unset, .unset, .unset, .unset, .unset] [(.int y51), (.int y50), (.ref b1717)])) _
    have O1745 : Old Z n0 h1742 := (O1739.wr W1742 g1720)
    obtain ⟨_, T1744, _, X1744, hQ1744, st1744⟩ := own_cs X1742 hx hZ hown (wd hw 4 rfl) (wd hw 5 rfl) (wd hw 7 rfl) (wd hw 6 rfl) (by decide) (rm1 l Z a0 hw [] y51 h1742 n0 O1745 ) e1742 (g := (mkF m 1117 #[.val (.long i0), .second, .val (.long i1), .second, iv i2, iv i3, iv i4, iv y48, iv y49, iv y50, iv y51, iv y52, iv y53, iv (1 : Int32), iv y1706, iv (own_sym y53), rv b1710, rv b1717, .unset, .unset, .unset, .unset, .unset, .unset] [(.int y51), (.int y50), (.ref b1717)])) rfl (by rw [hml]; rfl) (rest := [(.int y50), (.ref b1717)]) (W := 2) (lenOf pd_1 rfl) rfl (by show 2 * 0 + _ ≤ _; exact Nat.le_of_eq rfl) (hb hby at_1117) (by decide) (by decide) (by decide) (by decide)
    obtain ⟨rfl, Nq1744, hh1746⟩ := hQ1744
    have N1744 := Fr.app N1742 Nq1744
    refine own_via (fun t k => st1744 t k) ?_
    obtain ⟨cl1747, Ar1747, qq1747, S1747, M1747, H1747, G1747⟩ := id (V1743)
    have hin1747 : ¬ (y50 < 0 ∨ cl1747.slots.size ≤ (y50).toNatClampNeg) := inb_of S1747 ⟨rgy50.1, (own_81_82 rgy50.2)⟩
    obtain ⟨T1747, h1747, X1747, e1747, W1747, st1747⟩ := stC X1744 hx hZ hh1746 Ar1747 (j := y50) hin1747 (g := (mkF m 1120 #[.val (.long i0), .second, .val (.long i1), .second, iv i2, iv i3, iv i4, iv y48, iv y49, iv y50, iv y51, iv y52, iv y53, iv (1 : Int32), iv y1706, iv (own_sym y53), rv b1710, rv b1717, .unset, .unset, .unset, .unset, .unset, .unset] [(.int (own_sym y51)), (.int y50), (.ref b1717)])) rfl rfl (hb hby at_1120)
    refine own_via (fun t k => st1747 t k) ?_
    have V1748 : Arv Z h1747 b1717 k1716 .char (82 : Int32) (own_vs 82 (own_up (own_up (own_fl 82 (own_sym y53)) (y48).toNatClampNeg (own_sym y49)) (y50).toNatClampNeg (own_sym y51))) (.int (0 : Int32)) := by
      have qv := Arv.set Ar1747 qq1747 S1747 M1747 H1747 G1747 (fits_nar_char (own_sym y51)) W1747 (y50).toNatClampNeg rfl (by rw [own_vs_len]; exact own_inN S1747 rfl hin1747)
      first | rw [(own_narS _)] at qv | rw [own_c2] at qv
      rw [own_vs_set] at qv
      exact qv
    have N1747 := Fr.snoc X1747 N1744 g1720
    show own_Goes p e below (T1747.setTop (mkF m 1121 #[.val (.long i0), .second, .val (.long i1), .second, iv i2, iv i3, iv i4, iv y48, iv y49, iv y50, iv y51, iv y52, iv y53, iv (1 : Int32), iv y1706, iv (own_sym y53), rv b1710, rv b1717, .unset, .unset, .unset, .unset, .unset, .unset] [])) _
    refine own_via (fun t k => XS.aload X1747.here hx rfl (hb hby at_1121) rfl rfl (XS.bipush X1747.here hx rfl (hb hby at_1123) (XS.iload X1747.here hx rfl (hb hby at_1125) rfl k))) ?_
    show own_Goes p e below (T1747.setTop (mkF m 1127 #[.val (.long i0), .second, .val (.long i1), .second, iv i2, iv i3, iv i4, iv y48, iv y49, iv y50, iv y51, iv y52, iv y53, iv (1 : Int32), iv y1706, iv (own_sym y53), rv b1710, rv b1717, .unset, .unset, .unset, .unset, .unset, .unset] [(.int y1706), (.int (81 : Int32)), (.ref b1717)])) _
    obtain ⟨cl1749, Ar1749, qq1749, S1749, M1749, H1749, G1749⟩ := id (V1748)
    have hin1749 : ¬ ((81 : Int32) < 0 ∨ cl1749.slots.size ≤ ((81 : Int32)).toNatClampNeg) := inb_of S1749 ⟨by decide, by decide⟩
    obtain ⟨T1749, h1749, X1749, e1749, W1749, st1749⟩ := stC X1747 hx hZ e1747 Ar1749 (j := (81 : Int32)) hin1749 (g := (mkF m 1127 #[.val (.long i0), .second, .val (.long i1), .second, iv i2, iv i3, iv i4, iv y48, iv y49, iv y50, iv y51, iv y52, iv y53, iv (1 : Int32), iv y1706, iv (own_sym y53), rv b1710, rv b1717, .unset, .unset, .unset, .unset, .unset, .unset] [(.int y1706), (.int (81 : Int32)), (.ref b1717)])) rfl rfl (hb hby at_1127)
    refine own_via (fun t k => st1749 t k) ?_
    have V1750 : Arv Z h1749 b1717 k1716 .char (82 : Int32) (own_vs 82 (own_up (own_up (own_up (own_fl 82 (own_sym y53)) (y48).toNatClampNeg (own_sym y49)) (y50).toNatClampNeg (own_sym y51)) 81 y1706)) (.int (0 : Int32)) := by
      have qv := Arv.set Ar1749 qq1749 S1749 M1749 H1749 G1749 (fits_nar_char y1706) W1749 81 rfl (by rw [own_vs_len]; exact own_inN S1749 rfl hin1749)
      first | rw [(own_narC hy1706)] at qv | rw [own_c2] at qv
      rw [own_vs_set] at qv
      exact qv
    have N1749 := Fr.snoc X1749 N1747 g1720
    show own_Goes p e below (T1749.setTop (mkF m 1128 #[.val (.long i0), .second, .val (.long i1), .second, iv i2, iv i3, iv i4, iv y48, iv y49, iv y50, iv y51, iv y52, iv y53, iv (1 : Int32), iv y1706, iv (own_sym y53), rv b1710, rv b1717, .unset, .unset, .unset, .unset, .unset, .unset] [])) _
    have V1751 : Arv Z h1749 b1710 k1709 .char (81 : Int32) (own_vs 81 (own_up (own_up (own_fl 81 (own_sym y53)) (y48).toNatClampNeg (own_sym y49)) (y50).toNatClampNeg (own_sym y51))) (.int (0 : Int32)) := (((V1737.other W1742 N1718).other W1747 N1718).other W1749 N1718)
    obtain ⟨f1752, hf1752⟩ : ∃ z : Nat → Int32, z = (own_up (own_up (own_fl 81 (own_sym y53)) (y48).toNatClampNeg (own_sym y49)) (y50).toNatClampNeg (own_sym y51)) := ⟨_, rfl⟩
    have V1753 : Arv Z h1749 b1710 k1709 .char (81 : Int32) (own_vs 81 f1752) (.int (0 : Int32)) := by rw [hf1752]; exact V1751
    have okf1752 : own_okF f1752 := own_ok81 hf1752 (by rw [hy53]; exact (own_nn_rem (11 : Int32) (own_nn_mask i3 (2147483647 : Int32) 31 (by decide) (by decide)))) (by rw [hy53]; exact (own_lt_rem (11 : Int32) (own_nn_mask i3 (2147483647 : Int32) 31 (by decide) (by decide)) (by decide))) rgy49.1 rgy49.2 rgy51.1 rgy51.2
    have dgf1752 := fun (p : Int32) (p0 : ¬ (p < (0 : Int32))) (p1 : p < (81 : Int32)) => own_fin81 hf1752 HRD p0 p1 rgy48.1 rgy48.2 rgy50.1 rgy50.2 (by rw [hy53]; exact (own_nn_rem (11 : Int32) (own_nn_mask i3 (2147483647 : Int32) 31 (by decide) (by decide)))) (by rw [hy53]; exact (own_lt_rem (11 : Int32) (own_nn_mask i3 (2147483647 : Int32) 31 (by decide) (by decide)) (by decide))) rgy49.1 rgy49.2 rgy51.1 rgy51.2
    obtain ⟨f1754, hf1754⟩ : ∃ z : Nat → Int32, z = (own_up (own_up (own_up (own_fl 82 (own_sym y53)) (y48).toNatClampNeg (own_sym y49)) (y50).toNatClampNeg (own_sym y51)) 81 y1706) := ⟨_, rfl⟩
    have V1755 : Arv Z h1749 b1717 k1716 .char (82 : Int32) (own_vs 82 f1754) (.int (0 : Int32)) := by rw [hf1754]; exact V1750
    have okf1754 : own_okF f1754 := own_ok82 hf1754 (by rw [hy53]; exact (own_nn_rem (11 : Int32) (own_nn_mask i3 (2147483647 : Int32) 31 (by decide) (by decide)))) (by rw [hy53]; exact (own_lt_rem (11 : Int32) (own_nn_mask i3 (2147483647 : Int32) 31 (by decide) (by decide)) (by decide))) rgy49.1 rgy49.2 rgy51.1 rgy51.2
    have dgf1754 := fun (p : Int32) (p0 : ¬ (p < (0 : Int32))) (p1 : p < (81 : Int32)) => own_fin82 hf1754 HRD p0 p1 rgy48.1 rgy48.2 rgy50.1 rgy50.2 (by rw [hy53]; exact (own_nn_rem (11 : Int32) (own_nn_mask i3 (2147483647 : Int32) 31 (by decide) (by decide)))) (by rw [hy53]; exact (own_lt_rem (11 : Int32) (own_nn_mask i3 (2147483647 : Int32) 31 (by decide) (by decide)) (by decide))) rgy49.1 rgy49.2 rgy51.1 rgy51.2
    show own_Goes p e below (T1749.setTop (mkF m 1128 #[.val (.long i0), .second, .val (.long i1), .second, iv i2, iv i3, iv i4, iv y48, iv y49, iv y50, iv y51, iv y52, iv y53, iv (1 : Int32), iv y1706, iv (own_sym y53), rv b1710, rv b1717, .unset, .unset, .unset, .unset, .unset, .unset] [])) _
    refine own_via (fun t k => XS.iload X1749.here hx rfl (hb hby at_1128) rfl (XS.ifNo X1749.here hx rfl (hb hby at_1130) rfl ((if0 _ _).trans (feq (by decide : ¬ ((1 : Int32) = (0 : Int32)))).1) k)) ?_
    show own_Goes p e below (T1749.setTop (mkF m 1133 #[.val (.long i0), .second, .val (.long i1), .second, iv i2, iv i3, iv i4, iv y48, iv y49, iv y50, iv y51, iv y52, iv y53, iv (1 : Int32), iv y1706, iv (own_sym y53), rv b1710, rv b1717, .unset, .unset, .unset, .unset, .unset, .unset] [])) _
    by_cases hc1756 : (255 : Int32) < (f1754 81)
    · show own_Goes p e below (T1749.setTop (mkF m 1133 #[.val (.long i0), .second, .val (.long i1), .second, iv i2, iv i3, iv i4, iv y48, iv y49, iv y50, iv y51, iv y52, iv y53, iv (1 : Int32), iv y1706, iv (own_sym y53), rv b1710, rv b1717, .unset, .unset, .unset, .unset, .unset, .unset] [])) _
      obtain ⟨T1757, h1757, X1757, e1757, E1757, A1757, D1757, -, st1757⟩ := newO X1749 hx hZ hown (wd hw 9 rfl) (wd hw 10 rfl) (wd hw 11 rfl) e1749 (g := (mkF m 1133 #[.val (.long i0), .second, .val (.long i1), .second, iv i2, iv i3, iv i4, iv y48, iv y49, iv y50, iv y51, iv y52, iv y53, iv (1 : Int32), iv y1706, iv (own_sym y53), rv b1710, rv b1717, .unset, .unset, .unset, .unset, .unset, .unset] [])) rfl (hb hby at_1133) (by decide) (by decide)
      obtain ⟨b1758, q1757⟩ : ∃ z, z = h1749.size := ⟨_, rfl⟩
      rw [← q1757] at A1757 D1757 st1757
      refine own_via (fun t k => st1757 t k) ?_
      have E1760 : Exa Z h1749 b1710 "[C" := (((((((E1719.ext E1716).keep K1726).wr W1731).wr W1736).wr W1742).wr W1747).wr W1749)
      have N1759 : b1710 ≠ b1758 := Nat.ne_of_lt (Nat.lt_of_lt_of_le E1760.lt (Nat.le_of_eq q1757.symm))
      have E1762 : Exa Z h1749 b1717 "[C" := ((((((a1716x.keep K1726).wr W1731).wr W1736).wr W1742).wr W1747).wr W1749)
      have N1761 : b1717 ≠ b1758 := Nat.ne_of_lt (Nat.lt_of_lt_of_le E1762.lt (Nat.le_of_eq q1757.symm))
      have O1764 : Old Z n0 h1749 := ((O1745.wr W1747 g1720).wr W1749 g1720)
      have g1763 : n0 ≤ b1758 := Nat.le_trans (own_old O1764) (Nat.le_of_eq q1757.symm)
      have Z1766 : h0.size ≤ h1749.size := (Nat.le_trans (Nat.le_trans (Nat.le_trans (Nat.le_trans (Nat.le_trans (Nat.le_trans (Nat.le_trans Z1723 E1716.1) K1726.1) (Nat.le_of_eq W1731.size.symm)) (Nat.le_of_eq W1736.size.symm)) (Nat.le_of_eq W1742.size.symm)) (Nat.le_of_eq W1747.size.symm)) (Nat.le_of_eq W1749.size.symm))
      have B1765 : h0.size ≤ b1758 := Nat.le_trans Z1766 (Nat.le_of_eq q1757.symm)
      have F1767 : Fld Z h1757 b1758 zs1 "coder" "B" (.int (0 : Int32)) := D1757 (Or.inr (wd hw 35 rfl)) (ty := .byte) (by decide)
      have F1768 : Fld Z h1757 b1758 zs1 "value" "[B" .null := D1757 (Or.inr (wd hw 37 rfl)) (ty := (.array .byte)) (by decide)
      show own_Goes p e below (T1757.setTop (mkF m 1136 #[.val (.long i0), .second, .val (.long i1), .second, iv i2, iv i3, iv i4, iv y48, iv y49, iv y50, iv y51, iv y52, iv y53, iv (1 : Int32), iv y1706, iv (own_sym y53), rv b1710, rv b1717, .unset, .unset, .unset, .unset, .unset, .unset] [(.ref b1758)])) _
      refine own_via (fun t k => XS.dup X1757.here hx rfl (hb hby at_1136) rfl rfl (XS.aload X1757.here hx rfl (hb hby at_1137) rfl rfl k)) ?_
      have V2343 : Arv Z h1757 b1717 k1716 .char (82 : Int32) (own_vs 82 f1754) (.int (0 : Int32)) := (V1755.ext E1757)
      have l2344 : own_Len Z h1757 b1717 .char (82 : Int32) := ⟨_, _, _, V2343⟩
      have E2345 : Exa Z h1757 b1717 "[C" := (E1762.ext E1757)
      have O2346 : Old Z n0 h1757 := (O1764.ext E1757)
      obtain ⟨_, T1769, _, X1769, hQ1769, st1769⟩ := own_ci X1757 hx hZ hown (wd hw 12 rfl) (wd hw 13 rfl) (wd hw 14 rfl) (wd hw 11 rfl) rfl (by decide) (rm30 l Z a0 hw [] b1758 b1717 i43 f1754 k1716 (0 : Int32) h1757 n0 O2346 l2344 S_String_COMPACT_STRINGS SNZ_i43 okf1754 V2343 hc1756 E2345 S_StringUTF16__assertionsDisabled S_StringUTF16_HI_BYTE_SHIFT S_StringUTF16_LO_BYTE_SHIFT (own_last hf1754 (own_narC hy1706)) F1767 A1757 g1763 F1768) e1757 (g := (mkF m 1139 #[.val (.long i0), .second, .val (.long i1), .second, iv i2, iv i3, iv i4, iv y48, iv y49, iv y50, iv y51, iv y52, iv y53, iv (1 : Int32), iv y1706, iv (own_sym y53), rv b1710, rv b1717, .unset, .unset, .unset, .unset, .unset, .unset] [(.ref b1717), (.ref b1758), (.ref b1758)])) rfl (by rw [hml]; rfl) (rest := [(.ref b1758)]) (W := 1) (lenOf pd_6 rfl) rfl (by show 2 * 0 + _ ≤ _; exact Nat.le_of_eq rfl) (hb hby at_1139) (by decide) (by decide) (by decide) (by decide)
      obtain ⟨h1769, e1769⟩ : ∃ z, T1769.heap = z := ⟨_, rfl⟩
      rw [e1769] at hQ1769
      obtain ⟨b2347, k2348, rfl, Nq1769, K1769, ex2349, fx2350, fx2351, bx2352, vx2353, ex2354⟩ := hQ1769
      have N1769 := Fr.app N1749 Nq1769
      have E2356 : Exa Z h1757 b1710 "[C" := (E1760.ext E1757)
      have N2355 : b1710 ≠ b2347 := Nat.ne_of_lt (Nat.lt_of_lt_of_le E2356.lt bx2352)
      have N2357 : b1717 ≠ b2347 := Nat.ne_of_lt (Nat.lt_of_lt_of_le E2345.lt bx2352)
      have N2358 : b1758 ≠ b2347 := Nat.ne_of_lt (Nat.lt_of_lt_of_le A1757.lt bx2352)
      have g2359 : n0 ≤ b2347 := Nat.le_trans (own_old O2346) bx2352
      have Z2361 : h0.size ≤ h1757.size := (Nat.le_trans Z1766 E1757.1)
      have B2360 : h0.size ≤ b2347 := Nat.le_trans Z2361 bx2352
      refine own_via (fun t k => st1769 t (XS.goto X1769.here hx rfl (pc0 := 1142) (pc' := 1154) rfl (hb hby at_1142) (by decide) (by decide) (XS.astore X1769.here hx rfl (hb hby at_1154) rfl rfl (l' := #[.val (.long i0), .second, .val (.long i1), .second, iv i2, iv i3, iv i4, iv y48, iv y49, iv y50, iv y51, iv y52, iv y53, iv (1 : Int32), iv y1706, iv (own_sym y53), rv b1710, rv b1717, rv b1758, .unset, .unset, .unset, .unset, .unset]) rfl (XS.aload X1769.here hx rfl (hb hby at_1156) rfl rfl (X1769.ldc2Long hx hown (mvT hZ (wd hw 1 rfl)) (g := (mkF m 1158 #[.val (.long i0), .second, .val (.long i1), .second, iv i2, iv i3, iv i4, iv y48, iv y49, iv y50, iv y51, iv y52, iv y53, iv (1 : Int32), iv y1706, iv (own_sym y53), rv b1710, rv b1717, rv b1758, .unset, .unset, .unset, .unset, .unset] [(.ref b1758)])) rfl (hb hby at_1158) t k))))) ?_
      show own_Goes p e below (T1769.setTop (mkF m 1161 #[.val (.long i0), .second, .val (.long i1), .second, iv i2, iv i3, iv i4, iv y48, iv y49, iv y50, iv y51, iv y52, iv y53, iv (1 : Int32), iv y1706, iv (own_sym y53), rv b1710, rv b1717, rv b1758, .unset, .unset, .unset, .unset, .unset] [(.long (81 : Int64)), (.ref b1758)])) _
      have l2951 : own_Len Z h1769 b2347 .byte (164 : Int32) := ⟨_, _, _, vx2353⟩
      have O2952 : Old Z n0 h1769 := (O2346.keep K1769 (allS g1763 all0))
      obtain ⟨_, T2362, _, X2362, hQ2362, st2362⟩ := own_cs X1769 hx hZ hown (wd hw 38 rfl) (wd hw 39 rfl) (wd hw 41 rfl) (wd hw 40 rfl) (by decide) (rm38 l Z a0 hw [] b1758 w36 f1754 rd1 w39 kc_w39 b2347 k2348 i43 fm1 h1769 n0 O2952 S_PuzzleLine_SHAPE SF_w36_side SE_w36 okf1754 HRD S_PuzzleLine_READS_AS SV_w39 ex2349 fx2350 fx2351 l2951 vx2353 ex2354 S_String_COMPACT_STRINGS SNZ_i43 S_Preconditions_SIOOBE_FORMATTER S_StringUTF16__assertionsDisabled S_StringUTF16_HI_BYTE_SHIFT S_StringUTF16_LO_BYTE_SHIFT) e1769 (g := (mkF m 1161 #[.val (.long i0), .second, .val (.long i1), .second, iv i2, iv i3, iv i4, iv y48, iv y49, iv y50, iv y51, iv y52, iv y53, iv (1 : Int32), iv y1706, iv (own_sym y53), rv b1710, rv b1717, rv b1758, .unset, .unset, .unset, .unset, .unset] [(.long (81 : Int64)), (.ref b1758)])) rfl (by rw [hml]; rfl) (rest := []) (W := 0) (lenOf pd_14 rfl) rfl (by show 2 * 0 + _ ≤ _; exact Nat.le_of_eq rfl) (hb hby at_1161) (by decide) (by decide) (by decide) (by decide)
      obtain ⟨h2362, e2362⟩ : ∃ z, T2362.heap = z := ⟨_, rfl⟩
      rw [e2362] at hQ2362
      obtain ⟨b2953, k2954, b2955, rfl, Nq2362, K2362, bx2956, vx2957, ex2958, bx2959, ex2960, fx2961, fx2962, nx2963⟩ := hQ2362
      have N2362 := Fr.app N1769 Nq2362
      have E2965 : Exa Z h1769 b1710 "[C" := (E2356.keep K1769)
      have N2964 : b1710 ≠ b2953 := Nat.ne_of_lt (Nat.lt_of_lt_of_le E2965.lt bx2956)
      have E2967 : Exa Z h1769 b1717 "[C" := (E2345.keep K1769)
      have N2966 : b1717 ≠ b2953 := Nat.ne_of_lt (Nat.lt_of_lt_of_le E2967.lt bx2956)
      have N2968 : b1758 ≠ b2953 := Nat.ne_of_lt (Nat.lt_of_lt_of_le ex2349.lt bx2956)
      have N2969 : b2347 ≠ b2953 := Nat.ne_of_lt (Nat.lt_of_lt_of_le ex2354.lt bx2956)
      have g2970 : n0 ≤ b2953 := Nat.le_trans (own_old O2952) bx2956
      have Z2972 : h0.size ≤ h1769.size := (Nat.le_trans Z2361 K1769.1)
      have B2971 : h0.size ≤ b2953 := Nat.le_trans Z2972 bx2956
      have N2973 : b1710 ≠ b2955 := Nat.ne_of_lt (Nat.lt_of_lt_of_le E2965.lt bx2959)
      have N2974 : b1717 ≠ b2955 := Nat.ne_of_lt (Nat.lt_of_lt_of_le E2967.lt bx2959)
      have N2975 : b1758 ≠ b2955 := Nat.ne_of_lt (Nat.lt_of_lt_of_le ex2349.lt bx2959)
      have N2976 : b2347 ≠ b2955 := Nat.ne_of_lt (Nat.lt_of_lt_of_le ex2354.lt bx2959)
      have g2977 : n0 ≤ b2955 := Nat.le_trans (own_old O2952) bx2959
      have B2978 : h0.size ≤ b2955 := Nat.le_trans Z2972 bx2959
      refine own_via (fun t k => st2362 t (XS.astore X2362.here hx rfl (hb hby at_1164) rfl rfl (l' := #[.val (.long i0), .second, .val (.long i1), .second, iv i2, iv i3, iv i4, iv y48, iv y49, iv y50, iv y51, iv y52, iv y53, iv (1 : Int32), iv y1706, iv (own_sym y53), rv b1710, rv b1717, rv b1758, rv b2955, .unset, .unset, .unset, .unset]) rfl (XS.aload X2362.here hx rfl (hb hby at_1166) rfl rfl k))) ?_
      show own_Goes p e below (T2362.setTop (mkF m 1168 #[.val (.long i0), .second, .val (.long i1), .second, iv i2, iv i3, iv i4, iv y48, iv y49, iv y50, iv y51, iv y52, iv y53, iv (1 : Int32), iv y1706, iv (own_sym y53), rv b1710, rv b1717, rv b1758, rv b2955, .unset, .unset, .unset, .unset] [(.ref b2955)])) _
      have O2980 : Old Z n0 h2362 := (O2952.keep K2362 all0)
      obtain ⟨_, T2979, _, X2979, hQ2979, st2979⟩ := own_cv X2362 hx hZ hown (wd hw 106 rfl) (wd hw 107 rfl) (wd hw 109 rfl) (wd hw 108 rfl) (wd hw 110 rfl) (wd hw 79 rfl) (by decide) (rm17 l Z a0 hw [] b2955 w36 h2362 n0 O2980 fx2961) e2362 ex2960 (g := (mkF m 1168 #[.val (.long i0), .second, .val (.long i1), .second, iv i2, iv i3, iv i4, iv y48, iv y49, iv y50, iv y51, iv y52, iv y53, iv (1 : Int32), iv y1706, iv (own_sym y53), rv b1710, rv b1717, rv b1758, rv b2955, .unset, .unset, .unset, .unset] [(.ref b2955)])) rfl (by rw [hml]; rfl) (rest := []) (W := 0) (lenOf pd_15 rfl) rfl (by show 2 * 0 + _ ≤ _; exact Nat.le_of_eq rfl) (hb hby at_1168) (by decide) (by decide) (by decide) (by decide)
      obtain ⟨rfl, Nq2979, hh2981⟩ := hQ2979
      have N2979 := Fr.app N2362 Nq2979
      refine own_via (fun t k => st2979 t k) ?_
      obtain ⟨T2982, X2982, e2982, st2982⟩ := getS2 X2979 hx hZ hown (host := "") (Or.inl (wd hw 111 rfl)) Via.refl hh2981 (S_Shape_NINE.ext O2980.2) (g := (mkF m 1171 #[.val (.long i0), .second, .val (.long i1), .second, iv i2, iv i3, iv i4, iv y48, iv y49, iv y50, iv y51, iv y52, iv y53, iv (1 : Int32), iv y1706, iv (own_sym y53), rv b1710, rv b1717, rv b1758, rv b2955, .unset, .unset, .unset, .unset] [(.ref w36)])) rfl (hb hby at_1171)
      refine own_via (fun t k => st2982 t (Jvm.RoadKit.acmp (g := (mkF m 1174 #[.val (.long i0), .second, .val (.long i1), .second, iv i2, iv i3, iv i4, iv y48, iv y49, iv y50, iv y51, iv y52, iv y53, iv (1 : Int32), iv y1706, iv (own_sym y53), rv b1710, rv b1717, rv b1758, rv b2955, .unset, .unset, .unset, .unset] [(.ref w36), (.ref w36)])) X2982 hx rfl rfl rfl (pc0 := 1174) (pc' := 1177) (same := true) rfl (hb hby at_1174) rfl (decide_eq_true rfl) (by decide) (by decide) (XS.iconst X2982.here hx rfl (hb hby at_1177) (XS.goto X2982.here hx rfl (pc0 := 1178) (pc' := 1182) rfl (hb hby at_1178) (by decide) (by decide) (XS.istore X2982.here hx rfl (hb hby at_1182) rfl (l' := #[.val (.long i0), .second, .val (.long i1), .second, iv i2, iv i3, iv i4, iv y48, iv y49, iv y50, iv y51, iv y52, iv y53, iv (1 : Int32), iv y1706, iv (own_sym y53), rv b1710, rv b1717, rv b1758, rv b2955, iv (1 : Int32), .unset, .unset, .unset]) rfl (XS.aload X2982.here hx rfl (hb hby at_1184) rfl rfl (XS.iload X2982.here hx rfl (hb hby at_1186) rfl k))))))) ?_
      show own_Goes p e below (T2982.setTop (mkF m 1188 #[.val (.long i0), .second, .val (.long i1), .second, iv i2, iv i3, iv i4, iv y48, iv y49, iv y50, iv y51, iv y52, iv y53, iv (1 : Int32), iv y1706, iv (own_sym y53), rv b1710, rv b1717, rv b1758, rv b2955, iv (1 : Int32), .unset, .unset, .unset] [(.int y48), (.ref b2955)])) _
      obtain ⟨_, T2983, _, X2983, hQ2983, st2983⟩ := own_cv X2982 hx hZ hown (wd hw 113 rfl) (wd hw 114 rfl) (wd hw 116 rfl) (wd hw 115 rfl) (wd hw 117 rfl) (wd hw 79 rfl) (by decide) (rm18 l Z a0 hw [] b2955 y48 b2953 k2954 f1754 rd1 h2362 n0 O2980 fx2962 vx2957 rgy48.1 rgy48.2) e2982 ex2960 (g := (mkF m 1188 #[.val (.long i0), .second, .val (.long i1), .second, iv i2, iv i3, iv i4, iv y48, iv y49, iv y50, iv y51, iv y52, iv y53, iv (1 : Int32), iv y1706, iv (own_sym y53), rv b1710, rv b1717, rv b1758, rv b2955, iv (1 : Int32), .unset, .unset, .unset] [(.int y48), (.ref b2955)])) rfl (by rw [hml]; rfl) (rest := []) (W := 0) (lenOf pd_16 rfl) rfl (by show 2 * 0 + _ ≤ _; exact Nat.le_of_eq rfl) (hb hby at_1188) (by decide) (by decide) (by decide) (by decide)
      obtain ⟨rfl, Nq2983, hh2984⟩ := hQ2983
      have N2983 := Fr.app N2979 Nq2983
      refine own_via (fun t k => st2983 t (XS.iload X2983.here hx rfl (hb hby at_1191) rfl (XS.iload X2983.here hx rfl (hb hby at_1193) rfl (XS.iload X2983.here hx rfl (hb hby at_1195) rfl (XS.iload X2983.here hx rfl (hb hby at_1197) rfl (XS.iload X2983.here hx rfl (hb hby at_1199) rfl (XS.iload X2983.here hx rfl (hb hby at_1201) rfl k))))))) ?_
      show own_Goes p e below (T2983.setTop (mkF m 1203 #[.val (.long i0), .second, .val (.long i1), .second, iv i2, iv i3, iv i4, iv y48, iv y49, iv y50, iv y51, iv y52, iv y53, iv (1 : Int32), iv y1706, iv (own_sym y53), rv b1710, rv b1717, rv b1758, rv b2955, iv (1 : Int32), .unset, .unset, .unset] [(.int y53), (.int y51), (.int y50), (.int y49), (.int y48), (.int y48), (.int ((own_dg 81 f1754 rd1) (y48).toNatClampNeg))])) _
      obtain ⟨_, T2985, _, X2985, hQ2985, st2985⟩ := own_cs X2983 hx hZ hown (wd hw 118 rfl) (wd hw 119 rfl) (wd hw 120 rfl) (wd hw 6 rfl) (by decide) (rm20 l Z a0 hw [] y48 y49 y50 y51 y53 h2362 n0 O2980 ) hh2984 (g := (mkF m 1203 #[.val (.long i0), .second, .val (.long i1), .second, iv i2, iv i3, iv i4, iv y48, iv y49, iv y50, iv y51, iv y52, iv y53, iv (1 : Int32), iv y1706, iv (own_sym y53), rv b1710, rv b1717, rv b1758, rv b2955, iv (1 : Int32), .unset, .unset, .unset] [(.int y53), (.int y51), (.int y50), (.int y49), (.int y48), (.int y48), (.int ((own_dg 81 f1754 rd1) (y48).toNatClampNeg))])) rfl (by rw [hml]; rfl) (rest := [(.int ((own_dg 81 f1754 rd1) (y48).toNatClampNeg))]) (W := 1) (lenOf pd_17 rfl) rfl (by show 2 * 0 + _ ≤ _; exact Nat.le_of_eq rfl) (hb hby at_1203) (by decide) (by decide) (by decide) (by decide)
      obtain ⟨rfl, Nq2985, hh2986⟩ := hQ2985
      have N2985 := Fr.app N2983 Nq2985
      refine own_via (fun t k => st2985 t (XS.icmpNo X2985.here hx rfl (hb hby at_1206) rfl (teq (dgf1754 y48 rgy48.1 rgy48.2)).2 (XS.iconst X2985.here hx rfl (hb hby at_1209) (XS.goto X2985.here hx rfl (pc0 := 1210) (pc' := 1214) rfl (hb hby at_1210) (by decide) (by decide) (XS.istore X2985.here hx rfl (hb hby at_1214) rfl (l' := #[.val (.long i0), .second, .val (.long i1), .second, iv i2, iv i3, iv i4, iv y48, iv y49, iv y50, iv y51, iv y52, iv y53, iv (1 : Int32), iv y1706, iv (own_sym y53), rv b1710, rv b1717, rv b1758, rv b2955, iv (1 : Int32), iv (1 : Int32), .unset, .unset]) rfl (XS.aload X2985.here hx rfl (hb hby at_1216) rfl rfl (XS.iload X2985.here hx rfl (hb hby at_1218) rfl k))))))) ?_
      show own_Goes p e below (T2985.setTop (mkF m 1220 #[.val (.long i0), .second, .val (.long i1), .second, iv i2, iv i3, iv i4, iv y48, iv y49, iv y50, iv y51, iv y52, iv y53, iv (1 : Int32), iv y1706, iv (own_sym y53), rv b1710, rv b1717, rv b1758, rv b2955, iv (1 : Int32), iv (1 : Int32), .unset, .unset] [(.int y50), (.ref b2955)])) _
      obtain ⟨_, T2987, _, X2987, hQ2987, st2987⟩ := own_cv X2985 hx hZ hown (wd hw 113 rfl) (wd hw 114 rfl) (wd hw 116 rfl) (wd hw 115 rfl) (wd hw 117 rfl) (wd hw 79 rfl) (by decide) (rm18 l Z a0 hw [] b2955 y50 b2953 k2954 f1754 rd1 h2362 n0 O2980 fx2962 vx2957 rgy50.1 rgy50.2) hh2986 ex2960 (g := (mkF m 1220 #[.val (.long i0), .second, .val (.long i1), .second, iv i2, iv i3, iv i4, iv y48, iv y49, iv y50, iv y51, iv y52, iv y53, iv (1 : Int32), iv y1706, iv (own_sym y53), rv b1710, rv b1717, rv b1758, rv b2955, iv (1 : Int32), iv (1 : Int32), .unset, .unset] [(.int y50), (.ref b2955)])) rfl (by rw [hml]; rfl) (rest := []) (W := 0) (lenOf pd_16 rfl) rfl (by show 2 * 0 + _ ≤ _; exact Nat.le_of_eq rfl) (hb hby at_1220) (by decide) (by decide) (by decide) (by decide)
      obtain ⟨rfl, Nq2987, hh2988⟩ := hQ2987
      have N2987 := Fr.app N2985 Nq2987
      refine own_via (fun t k => st2987 t (XS.iload X2987.here hx rfl (hb hby at_1223) rfl (XS.iload X2987.here hx rfl (hb hby at_1225) rfl (XS.iload X2987.here hx rfl (hb hby at_1227) rfl (XS.iload X2987.here hx rfl (hb hby at_1229) rfl (XS.iload X2987.here hx rfl (hb hby at_1231) rfl (XS.iload X2987.here hx rfl (hb hby at_1233) rfl k))))))) ?_
      show own_Goes p e below (T2987.setTop (mkF m 1235 #[.val (.long i0), .second, .val (.long i1), .second, iv i2, iv i3, iv i4, iv y48, iv y49, iv y50, iv y51, iv y52, iv y53, iv (1 : Int32), iv y1706, iv (own_sym y53), rv b1710, rv b1717, rv b1758, rv b2955, iv (1 : Int32), iv (1 : Int32), .unset, .unset] [(.int y53), (.int y51), (.int y50), (.int y49), (.int y48), (.int y50), (.int ((own_dg 81 f1754 rd1) (y50).toNatClampNeg))])) _
      obtain ⟨_, T2989, _, X2989, hQ2989, st2989⟩ := own_cs X2987 hx hZ hown (wd hw 118 rfl) (wd hw 119 rfl) (wd hw 120 rfl) (wd hw 6 rfl) (by decide) (rm21 l Z a0 hw [] y50 y48 y49 y51 y53 h2362 n0 O2980 ) hh2988 (g := (mkF m 1235 #[.val (.long i0), .second, .val (.long i1), .second, iv i2, iv i3, iv i4, iv y48, iv y49, iv y50, iv y51, iv y52, iv y53, iv (1 : Int32), iv y1706, iv (own_sym y53), rv b1710, rv b1717, rv b1758, rv b2955, iv (1 : Int32), iv (1 : Int32), .unset, .unset] [(.int y53), (.int y51), (.int y50), (.int y49), (.int y48), (.int y50), (.int ((own_dg 81 f1754 rd1) (y50).toNatClampNeg))])) rfl (by rw [hml]; rfl) (rest := [(.int ((own_dg 81 f1754 rd1) (y50).toNatClampNeg))]) (W := 1) (lenOf pd_17 rfl) rfl (by show 2 * 0 + _ ≤ _; exact Nat.le_of_eq rfl) (hb hby at_1235) (by decide) (by decide) (by decide) (by decide)
      obtain ⟨rfl, Nq2989, hh2990⟩ := hQ2989
      have N2989 := Fr.app N2987 Nq2989
      refine own_via (fun t k => st2989 t (XS.icmpNo X2989.here hx rfl (hb hby at_1238) rfl (teq (dgf1754 y50 rgy50.1 rgy50.2)).2 (XS.iconst X2989.here hx rfl (hb hby at_1241) (XS.goto X2989.here hx rfl (pc0 := 1242) (pc' := 1246) rfl (hb hby at_1242) (by decide) (by decide) (XS.istore X2989.here hx rfl (hb hby at_1246) rfl (l' := #[.val (.long i0), .second, .val (.long i1), .second, iv i2, iv i3, iv i4, iv y48, iv y49, iv y50, iv y51, iv y52, iv y53, iv (1 : Int32), iv y1706, iv (own_sym y53), rv b1710, rv b1717, rv b1758, rv b2955, iv (1 : Int32), iv (1 : Int32), iv (1 : Int32), .unset]) rfl (XS.aload X2989.here hx rfl (hb hby at_1248) rfl rfl (XS.iload X2989.here hx rfl (hb hby at_1250) rfl k))))))) ?_
      show own_Goes p e below (T2989.setTop (mkF m 1252 #[.val (.long i0), .second, .val (.long i1), .second, iv i2, iv i3, iv i4, iv y48, iv y49, iv y50, iv y51, iv y52, iv y53, iv (1 : Int32), iv y1706, iv (own_sym y53), rv b1710, rv b1717, rv b1758, rv b2955, iv (1 : Int32), iv (1 : Int32), iv (1 : Int32), .unset] [(.int y52), (.ref b2955)])) _
      obtain ⟨_, T2991, _, X2991, hQ2991, st2991⟩ := own_cv X2989 hx hZ hown (wd hw 113 rfl) (wd hw 114 rfl) (wd hw 116 rfl) (wd hw 115 rfl) (wd hw 117 rfl) (wd hw 79 rfl) (by decide) (rm18 l Z a0 hw [] b2955 y52 b2953 k2954 f1754 rd1 h2362 n0 O2980 fx2962 vx2957 (by rw [hy52]; exact (own_nn_rem (81 : Int32) (own_nn_mask i2 (2147483647 : Int32) 31 (by decide) (by decide)))) (by rw [hy52]; exact (own_lt_rem (81 : Int32) (own_nn_mask i2 (2147483647 : Int32) 31 (by decide) (by decide)) (by decide)))) hh2990 ex2960 (g := (mkF m 1252 #[.val (.long i0), .second, .val (.long i1), .second, iv i2, iv i3, iv i4, iv y48, iv y49, iv y50, iv y51, iv y52, iv y53, iv (1 : Int32), iv y1706, iv (own_sym y53), rv b1710, rv b1717, rv b1758, rv b2955, iv (1 : Int32), iv (1 : Int32), iv (1 : Int32), .unset] [(.int y52), (.ref b2955)])) rfl (by rw [hml]; rfl) (rest := []) (W := 0) (lenOf pd_16 rfl) rfl (by show 2 * 0 + _ ≤ _; exact Nat.le_of_eq rfl) (hb hby at_1252) (by decide) (by decide) (by decide) (by decide)
      obtain ⟨rfl, Nq2991, hh2992⟩ := hQ2991
      have N2991 := Fr.app N2989 Nq2991
      refine own_via (fun t k => st2991 t (XS.iload X2991.here hx rfl (hb hby at_1255) rfl (XS.iload X2991.here hx rfl (hb hby at_1257) rfl (XS.iload X2991.here hx rfl (hb hby at_1259) rfl (XS.iload X2991.here hx rfl (hb hby at_1261) rfl (XS.iload X2991.here hx rfl (hb hby at_1263) rfl (XS.iload X2991.here hx rfl (hb hby at_1265) rfl k))))))) ?_
      show own_Goes p e below (T2991.setTop (mkF m 1267 #[.val (.long i0), .second, .val (.long i1), .second, iv i2, iv i3, iv i4, iv y48, iv y49, iv y50, iv y51, iv y52, iv y53, iv (1 : Int32), iv y1706, iv (own_sym y53), rv b1710, rv b1717, rv b1758, rv b2955, iv (1 : Int32), iv (1 : Int32), iv (1 : Int32), .unset] [(.int y53), (.int y51), (.int y50), (.int y49), (.int y48), (.int y52), (.int ((own_dg 81 f1754 rd1) (y52).toNatClampNeg))])) _
      obtain ⟨_, T2993, _, X2993, hQ2993, st2993⟩ := own_cs X2991 hx hZ hown (wd hw 118 rfl) (wd hw 119 rfl) (wd hw 120 rfl) (wd hw 6 rfl) (by decide) (rm22 l Z a0 hw [] y52 y48 y49 y50 y51 y53 h2362 n0 O2980 ) hh2992 (g := (mkF m 1267 #[.val (.long i0), .second, .val (.long i1), .second, iv i2, iv i3, iv i4, iv y48, iv y49, iv y50, iv y51, iv y52, iv y53, iv (1 : Int32), iv y1706, iv (own_sym y53), rv b1710, rv b1717, rv b1758, rv b2955, iv (1 : Int32), iv (1 : Int32), iv (1 : Int32), .unset] [(.int y53), (.int y51), (.int y50), (.int y49), (.int y48), (.int y52), (.int ((own_dg 81 f1754 rd1) (y52).toNatClampNeg))])) rfl (by rw [hml]; rfl) (rest := [(.int ((own_dg 81 f1754 rd1) (y52).toNatClampNeg))]) (W := 1) (lenOf pd_17 rfl) rfl (by show 2 * 0 + _ ≤ _; exact Nat.le_of_eq rfl) (hb hby at_1267) (by decide) (by decide) (by decide) (by decide)
      obtain ⟨rfl, Nq2993, hh2994⟩ := hQ2993
      have N2993 := Fr.app N2991 Nq2993
      refine own_via (fun t k => st2993 t (XS.icmpNo X2993.here hx rfl (hb hby at_1270) rfl (teq (dgf1754 y52 (by rw [hy52]; exact (own_nn_rem (81 : Int32) (own_nn_mask i2 (2147483647 : Int32) 31 (by decide) (by decide)))) (by rw [hy52]; exact (own_lt_rem (81 : Int32) (own_nn_mask i2 (2147483647 : Int32) 31 (by decide) (by decide)) (by decide))))).2 (XS.iconst X2993.here hx rfl (hb hby at_1273) (XS.goto X2993.here hx rfl (pc0 := 1274) (pc' := 1278) rfl (hb hby at_1274) (by decide) (by decide) (XS.istore X2993.here hx rfl (hb hby at_1278) rfl (l' := #[.val (.long i0), .second, .val (.long i1), .second, iv i2, iv i3, iv i4, iv y48, iv y49, iv y50, iv y51, iv y52, iv y53, iv (1 : Int32), iv y1706, iv (own_sym y53), rv b1710, rv b1717, rv b1758, rv b2955, iv (1 : Int32), iv (1 : Int32), iv (1 : Int32), iv (1 : Int32)]) rfl (XS.iload X2993.here hx rfl (hb hby at_1280) rfl (XS.ifNo X2993.here hx rfl (hb hby at_1282) rfl ((if0 _ _).trans (feq (by decide : ¬ ((1 : Int32) = (0 : Int32)))).1) (XS.iload X2993.here hx rfl (hb hby at_1285) rfl (XS.ifNo X2993.here hx rfl (hb hby at_1287) rfl ((if0 _ _).trans (feq (by decide : ¬ ((1 : Int32) = (0 : Int32)))).1) (XS.iload X2993.here hx rfl (hb hby at_1290) rfl (XS.ifNo X2993.here hx rfl (hb hby at_1292) rfl ((if0 _ _).trans (feq (by decide : ¬ ((1 : Int32) = (0 : Int32)))).1) (XS.iload X2993.here hx rfl (hb hby at_1295) rfl k)))))))))))) ?_
      show own_Goes p e below (T2993.setTop (mkF m 1297 #[.val (.long i0), .second, .val (.long i1), .second, iv i2, iv i3, iv i4, iv y48, iv y49, iv y50, iv y51, iv y52, iv y53, iv (1 : Int32), iv y1706, iv (own_sym y53), rv b1710, rv b1717, rv b1758, rv b2955, iv (1 : Int32), iv (1 : Int32), iv (1 : Int32), iv (1 : Int32)] [(.int (1 : Int32))])) _
      refine own_via (fun t k => XS.ifNo X2993.here hx rfl (hb hby at_1297) rfl ((if0 _ _).trans (feq (by decide : ¬ ((1 : Int32) = (0 : Int32)))).1) (XS.iconst X2993.here hx rfl (hb hby at_1300) (XS.goto X2993.here hx rfl (pc0 := 1301) (pc' := 1305) rfl (hb hby at_1301) (by decide) (by decide) k))) ?_
      show own_Goes p e below (T2993.setTop (mkF m 1305 #[.val (.long i0), .second, .val (.long i1), .second, iv i2, iv i3, iv i4, iv y48, iv y49, iv y50, iv y51, iv y52, iv y53, iv (1 : Int32), iv y1706, iv (own_sym y53), rv b1710, rv b1717, rv b1758, rv b2955, iv (1 : Int32), iv (1 : Int32), iv (1 : Int32), iv (1 : Int32)] [(.int (1 : Int32))])) _
      obtain ⟨fs, hr, hrun, hended, hW, hsame⟩ := X2993.leave (v := some (.int (1 : Int32))) (fun h => by rw [Bd.returns] at h; cases h)
      refine own_end (t := T2993.setFrames fs) ?_ ⟨_, hrun, hended, _, _, rfl, ?_, ⟨_, rfl⟩, hW, hsame.mono (by decide) (by decide)⟩
      · exact retN X2993 hx (t := .boolean) Bd.returns (by simp) (hb hby at_1305) hr
      · exact ⟨rfl, N2993⟩
    · show own_Goes p e below (T1749.setTop (mkF m 1133 #[.val (.long i0), .second, .val (.long i1), .second, iv i2, iv i3, iv i4, iv y48, iv y49, iv y50, iv y51, iv y52, iv y53, iv (1 : Int32), iv y1706, iv (own_sym y53), rv b1710, rv b1717, .unset, .unset, .unset, .unset, .unset, .unset] [])) _
      obtain ⟨T2995, h2995, X2995, e2995, E2995, A2995, D2995, -, st2995⟩ := newO X1749 hx hZ hown (wd hw 9 rfl) (wd hw 10 rfl) (wd hw 11 rfl) e1749 (g := (mkF m 1133 #[.val (.long i0), .second, .val (.long i1), .second, iv i2, iv i3, iv i4, iv y48, iv y49, iv y50, iv y51, iv y52, iv y53, iv (1 : Int32), iv y1706, iv (own_sym y53), rv b1710, rv b1717, .unset, .unset, .unset, .unset, .unset, .unset] [])) rfl (hb hby at_1133) (by decide) (by decide)
      obtain ⟨b2996, q2995⟩ : ∃ z, z = h1749.size := ⟨_, rfl⟩
      rw [← q2995] at A2995 D2995 st2995
      refine own_via (fun t k => st2995 t k) ?_
      have E2998 : Exa Z h1749 b1710 "[C" := (((((((E1719.ext E1716).keep K1726).wr W1731).wr W1736).wr W1742).wr W1747).wr W1749)
      have N2997 : b1710 ≠ b2996 := Nat.ne_of_lt (Nat.lt_of_lt_of_le E2998.lt (Nat.le_of_eq q2995.symm))
      have E3000 : Exa Z h1749 b1717 "[C" := ((((((a1716x.keep K1726).wr W1731).wr W1736).wr W1742).wr W1747).wr W1749)
      have N2999 : b1717 ≠ b2996 := Nat.ne_of_lt (Nat.lt_of_lt_of_le E3000.lt (Nat.le_of_eq q2995.symm))
      have O3002 : Old Z n0 h1749 := ((O1745.wr W1747 g1720).wr W1749 g1720)
      have g3001 : n0 ≤ b2996 := Nat.le_trans (own_old O3002) (Nat.le_of_eq q2995.symm)
      have Z3004 : h0.size ≤ h1749.size := (Nat.le_trans (Nat.le_trans (Nat.le_trans (Nat.le_trans (Nat.le_trans (Nat.le_trans (Nat.le_trans Z1723 E1716.1) K1726.1) (Nat.le_of_eq W1731.size.symm)) (Nat.le_of_eq W1736.size.symm)) (Nat.le_of_eq W1742.size.symm)) (Nat.le_of_eq W1747.size.symm)) (Nat.le_of_eq W1749.size.symm))
      have B3003 : h0.size ≤ b2996 := Nat.le_trans Z3004 (Nat.le_of_eq q2995.symm)
      have F3005 : Fld Z h2995 b2996 zs1 "coder" "B" (.int (0 : Int32)) := D2995 (Or.inr (wd hw 35 rfl)) (ty := .byte) (by decide)
      have F3006 : Fld Z h2995 b2996 zs1 "value" "[B" .null := D2995 (Or.inr (wd hw 37 rfl)) (ty := (.array .byte)) (by decide)
      show own_Goes p e below (T2995.setTop (mkF m 1136 #[.val (.long i0), .second, .val (.long i1), .second, iv i2, iv i3, iv i4, iv y48, iv y49, iv y50, iv y51, iv y52, iv y53, iv (1 : Int32), iv y1706, iv (own_sym y53), rv b1710, rv b1717, .unset, .unset, .unset, .unset, .unset, .unset] [(.ref b2996)])) _
      refine own_via (fun t k => XS.dup X2995.here hx rfl (hb hby at_1136) rfl rfl (XS.aload X2995.here hx rfl (hb hby at_1137) rfl rfl k)) ?_
      have V3357 : Arv Z h2995 b1717 k1716 .char (82 : Int32) (own_vs 82 f1754) (.int (0 : Int32)) := (V1755.ext E2995)
      have l3358 : own_Len Z h2995 b1717 .char (82 : Int32) := ⟨_, _, _, V3357⟩
      have O3359 : Old Z n0 h2995 := (O3002.ext E2995)
      obtain ⟨_, T3007, _, X3007, hQ3007, st3007⟩ := own_ci X2995 hx hZ hown (wd hw 12 rfl) (wd hw 13 rfl) (wd hw 14 rfl) (wd hw 11 rfl) rfl (by decide) (rm43 l Z a0 hw [] b2996 b1717 i43 f1754 k1716 (0 : Int32) h2995 n0 O3359 l3358 S_String_COMPACT_STRINGS SNZ_i43 okf1754 hc1756 V3357 F3005 A2995 g3001 F3006) e2995 (g := (mkF m 1139 #[.val (.long i0), .second, .val (.long i1), .second, iv i2, iv i3, iv i4, iv y48, iv y49, iv y50, iv y51, iv y52, iv y53, iv (1 : Int32), iv y1706, iv (own_sym y53), rv b1710, rv b1717, .unset, .unset, .unset, .unset, .unset, .unset] [(.ref b1717), (.ref b2996), (.ref b2996)])) rfl (by rw [hml]; rfl) (rest := [(.ref b2996)]) (W := 1) (lenOf pd_6 rfl) rfl (by show 2 * 0 + _ ≤ _; exact Nat.le_of_eq rfl) (hb hby at_1139) (by decide) (by decide) (by decide) (by decide)
      obtain ⟨h3007, e3007⟩ : ∃ z, T3007.heap = z := ⟨_, rfl⟩
      rw [e3007] at hQ3007
      obtain ⟨b3360, k3361, rfl, Nq3007, K3007, ex3362, fx3363, fx3364, bx3365, ex3366, vx3367⟩ := hQ3007
      have N3007 := Fr.app N1749 Nq3007
      have E3369 : Exa Z h2995 b1710 "[C" := (E2998.ext E2995)
      have N3368 : b1710 ≠ b3360 := Nat.ne_of_lt (Nat.lt_of_lt_of_le E3369.lt bx3365)
      have E3371 : Exa Z h2995 b1717 "[C" := (E3000.ext E2995)
      have N3370 : b1717 ≠ b3360 := Nat.ne_of_lt (Nat.lt_of_lt_of_le E3371.lt bx3365)
      have N3372 : b2996 ≠ b3360 := Nat.ne_of_lt (Nat.lt_of_lt_of_le A2995.lt bx3365)
      have g3373 : n0 ≤ b3360 := Nat.le_trans (own_old O3359) bx3365
      have Z3375 : h0.size ≤ h2995.size := (Nat.le_trans Z3004 E2995.1)
      have B3374 : h0.size ≤ b3360 := Nat.le_trans Z3375 bx3365
      refine own_via (fun t k => st3007 t (XS.goto X3007.here hx rfl (pc0 := 1142) (pc' := 1154) rfl (hb hby at_1142) (by decide) (by decide) (XS.astore X3007.here hx rfl (hb hby at_1154) rfl rfl (l' := #[.val (.long i0), .second, .val (.long i1), .second, iv i2, iv i3, iv i4, iv y48, iv y49, iv y50, iv y51, iv y52, iv y53, iv (1 : Int32), iv y1706, iv (own_sym y53), rv b1710, rv b1717, rv b2996, .unset, .unset, .unset, .unset, .unset]) rfl (XS.aload X3007.here hx rfl (hb hby at_1156) rfl rfl (X3007.ldc2Long hx hown (mvT hZ (wd hw 1 rfl)) (g := (mkF m 1158 #[.val (.long i0), .second, .val (.long i1), .second, iv i2, iv i3, iv i4, iv y48, iv y49, iv y50, iv y51, iv y52, iv y53, iv (1 : Int32), iv y1706, iv (own_sym y53), rv b1710, rv b1717, rv b2996, .unset, .unset, .unset, .unset, .unset] [(.ref b2996)])) rfl (hb hby at_1158) t k))))) ?_
      show own_Goes p e below (T3007.setTop (mkF m 1161 #[.val (.long i0), .second, .val (.long i1), .second, iv i2, iv i3, iv i4, iv y48, iv y49, iv y50, iv y51, iv y52, iv y53, iv (1 : Int32), iv y1706, iv (own_sym y53), rv b1710, rv b1717, rv b2996, .unset, .unset, .unset, .unset, .unset] [(.long (81 : Int64)), (.ref b2996)])) _
      have l3622 : own_Len Z h3007 b3360 .byte (82 : Int32) := ⟨_, _, _, vx3367⟩
      have O3623 : Old Z n0 h3007 := (O3359.keep K3007 (allS g3001 all0))
      obtain ⟨_, T3376, _, X3376, hQ3376, st3376⟩ := own_cs X3007 hx hZ hown (wd hw 38 rfl) (wd hw 39 rfl) (wd hw 41 rfl) (wd hw 40 rfl) (by decide) (rm46 l Z a0 hw [] b2996 w36 f1754 rd1 w39 kc_w39 b3360 k3361 i43 fm1 h3007 n0 O3623 S_PuzzleLine_SHAPE SF_w36_side SE_w36 okf1754 HRD S_PuzzleLine_READS_AS SV_w39 ex3362 fx3363 fx3364 l3622 vx3367 ex3366 S_String_COMPACT_STRINGS SNZ_i43 S_Preconditions_SIOOBE_FORMATTER) e3007 (g := (mkF m 1161 #[.val (.long i0), .second, .val (.long i1), .second, iv i2, iv i3, iv i4, iv y48, iv y49, iv y50, iv y51, iv y52, iv y53, iv (1 : Int32), iv y1706, iv (own_sym y53), rv b1710, rv b1717, rv b2996, .unset, .unset, .unset, .unset, .unset] [(.long (81 : Int64)), (.ref b2996)])) rfl (by rw [hml]; rfl) (rest := []) (W := 0) (lenOf pd_14 rfl) rfl (by show 2 * 0 + _ ≤ _; exact Nat.le_of_eq rfl) (hb hby at_1161) (by decide) (by decide) (by decide) (by decide)
      obtain ⟨h3376, e3376⟩ : ∃ z, T3376.heap = z := ⟨_, rfl⟩
      rw [e3376] at hQ3376
      obtain ⟨b3624, k3625, b3626, rfl, Nq3376, K3376, bx3627, vx3628, ex3629, bx3630, ex3631, fx3632, fx3633, nx3634⟩ := hQ3376
      have N3376 := Fr.app N3007 Nq3376
      have E3636 : Exa Z h3007 b1710 "[C" := (E3369.keep K3007)
      have N3635 : b1710 ≠ b3624 := Nat.ne_of_lt (Nat.lt_of_lt_of_le E3636.lt bx3627)
      have E3638 : Exa Z h3007 b1717 "[C" := (E3371.keep K3007)
      have N3637 : b1717 ≠ b3624 := Nat.ne_of_lt (Nat.lt_of_lt_of_le E3638.lt bx3627)
      have N3639 : b2996 ≠ b3624 := Nat.ne_of_lt (Nat.lt_of_lt_of_le ex3362.lt bx3627)
      have N3640 : b3360 ≠ b3624 := Nat.ne_of_lt (Nat.lt_of_lt_of_le ex3366.lt bx3627)
      have g3641 : n0 ≤ b3624 := Nat.le_trans (own_old O3623) bx3627
      have Z3643 : h0.size ≤ h3007.size := (Nat.le_trans Z3375 K3007.1)
      have B3642 : h0.size ≤ b3624 := Nat.le_trans Z3643 bx3627
      have N3644 : b1710 ≠ b3626 := Nat.ne_of_lt (Nat.lt_of_lt_of_le E3636.lt bx3630)
      have N3645 : b1717 ≠ b3626 := Nat.ne_of_lt (Nat.lt_of_lt_of_le E3638.lt bx3630)
      have N3646 : b2996 ≠ b3626 := Nat.ne_of_lt (Nat.lt_of_lt_of_le ex3362.lt bx3630)
      have N3647 : b3360 ≠ b3626 := Nat.ne_of_lt (Nat.lt_of_lt_of_le ex3366.lt bx3630)
      have g3648 : n0 ≤ b3626 := Nat.le_trans (own_old O3623) bx3630
      have B3649 : h0.size ≤ b3626 := Nat.le_trans Z3643 bx3630
      refine own_via (fun t k => st3376 t (XS.astore X3376.here hx rfl (hb hby at_1164) rfl rfl (l' := #[.val (.long i0), .second, .val (.long i1), .second, iv i2, iv i3, iv i4, iv y48, iv y49, iv y50, iv y51, iv y52, iv y53, iv (1 : Int32), iv y1706, iv (own_sym y53), rv b1710, rv b1717, rv b2996, rv b3626, .unset, .unset, .unset, .unset]) rfl (XS.aload X3376.here hx rfl (hb hby at_1166) rfl rfl k))) ?_
      show own_Goes p e below (T3376.setTop (mkF m 1168 #[.val (.long i0), .second, .val (.long i1), .second, iv i2, iv i3, iv i4, iv y48, iv y49, iv y50, iv y51, iv y52, iv y53, iv (1 : Int32), iv y1706, iv (own_sym y53), rv b1710, rv b1717, rv b2996, rv b3626, .unset, .unset, .unset, .unset] [(.ref b3626)])) _
      have O3651 : Old Z n0 h3376 := (O3623.keep K3376 all0)
      obtain ⟨_, T3650, _, X3650, hQ3650, st3650⟩ := own_cv X3376 hx hZ hown (wd hw 106 rfl) (wd hw 107 rfl) (wd hw 109 rfl) (wd hw 108 rfl) (wd hw 110 rfl) (wd hw 79 rfl) (by decide) (rm17 l Z a0 hw [] b3626 w36 h3376 n0 O3651 fx3632) e3376 ex3631 (g := (mkF m 1168 #[.val (.long i0), .second, .val (.long i1), .second, iv i2, iv i3, iv i4, iv y48, iv y49, iv y50, iv y51, iv y52, iv y53, iv (1 : Int32), iv y1706, iv (own_sym y53), rv b1710, rv b1717, rv b2996, rv b3626, .unset, .unset, .unset, .unset] [(.ref b3626)])) rfl (by rw [hml]; rfl) (rest := []) (W := 0) (lenOf pd_15 rfl) rfl (by show 2 * 0 + _ ≤ _; exact Nat.le_of_eq rfl) (hb hby at_1168) (by decide) (by decide) (by decide) (by decide)
      obtain ⟨rfl, Nq3650, hh3652⟩ := hQ3650
      have N3650 := Fr.app N3376 Nq3650
      refine own_via (fun t k => st3650 t k) ?_
      obtain ⟨T3653, X3653, e3653, st3653⟩ := getS2 X3650 hx hZ hown (host := "") (Or.inl (wd hw 111 rfl)) Via.refl hh3652 (S_Shape_NINE.ext O3651.2) (g := (mkF m 1171 #[.val (.long i0), .second, .val (.long i1), .second, iv i2, iv i3, iv i4, iv y48, iv y49, iv y50, iv y51, iv y52, iv y53, iv (1 : Int32), iv y1706, iv (own_sym y53), rv b1710, rv b1717, rv b2996, rv b3626, .unset, .unset, .unset, .unset] [(.ref w36)])) rfl (hb hby at_1171)
      refine own_via (fun t k => st3653 t (Jvm.RoadKit.acmp (g := (mkF m 1174 #[.val (.long i0), .second, .val (.long i1), .second, iv i2, iv i3, iv i4, iv y48, iv y49, iv y50, iv y51, iv y52, iv y53, iv (1 : Int32), iv y1706, iv (own_sym y53), rv b1710, rv b1717, rv b2996, rv b3626, .unset, .unset, .unset, .unset] [(.ref w36), (.ref w36)])) X3653 hx rfl rfl rfl (pc0 := 1174) (pc' := 1177) (same := true) rfl (hb hby at_1174) rfl (decide_eq_true rfl) (by decide) (by decide) (XS.iconst X3653.here hx rfl (hb hby at_1177) (XS.goto X3653.here hx rfl (pc0 := 1178) (pc' := 1182) rfl (hb hby at_1178) (by decide) (by decide) (XS.istore X3653.here hx rfl (hb hby at_1182) rfl (l' := #[.val (.long i0), .second, .val (.long i1), .second, iv i2, iv i3, iv i4, iv y48, iv y49, iv y50, iv y51, iv y52, iv y53, iv (1 : Int32), iv y1706, iv (own_sym y53), rv b1710, rv b1717, rv b2996, rv b3626, iv (1 : Int32), .unset, .unset, .unset]) rfl (XS.aload X3653.here hx rfl (hb hby at_1184) rfl rfl (XS.iload X3653.here hx rfl (hb hby at_1186) rfl k))))))) ?_
      show own_Goes p e below (T3653.setTop (mkF m 1188 #[.val (.long i0), .second, .val (.long i1), .second, iv i2, iv i3, iv i4, iv y48, iv y49, iv y50, iv y51, iv y52, iv y53, iv (1 : Int32), iv y1706, iv (own_sym y53), rv b1710, rv b1717, rv b2996, rv b3626, iv (1 : Int32), .unset, .unset, .unset] [(.int y48), (.ref b3626)])) _
      obtain ⟨_, T3654, _, X3654, hQ3654, st3654⟩ := own_cv X3653 hx hZ hown (wd hw 113 rfl) (wd hw 114 rfl) (wd hw 116 rfl) (wd hw 115 rfl) (wd hw 117 rfl) (wd hw 79 rfl) (by decide) (rm18 l Z a0 hw [] b3626 y48 b3624 k3625 f1754 rd1 h3376 n0 O3651 fx3633 vx3628 rgy48.1 rgy48.2) e3653 ex3631 (g := (mkF m 1188 #[.val (.long i0), .second, .val (.long i1), .second, iv i2, iv i3, iv i4, iv y48, iv y49, iv y50, iv y51, iv y52, iv y53, iv (1 : Int32), iv y1706, iv (own_sym y53), rv b1710, rv b1717, rv b2996, rv b3626, iv (1 : Int32), .unset, .unset, .unset] [(.int y48), (.ref b3626)])) rfl (by rw [hml]; rfl) (rest := []) (W := 0) (lenOf pd_16 rfl) rfl (by show 2 * 0 + _ ≤ _; exact Nat.le_of_eq rfl) (hb hby at_1188) (by decide) (by decide) (by decide) (by decide)
      obtain ⟨rfl, Nq3654, hh3655⟩ := hQ3654
      have N3654 := Fr.app N3650 Nq3654
      refine own_via (fun t k => st3654 t (XS.iload X3654.here hx rfl (hb hby at_1191) rfl (XS.iload X3654.here hx rfl (hb hby at_1193) rfl (XS.iload X3654.here hx rfl (hb hby at_1195) rfl (XS.iload X3654.here hx rfl (hb hby at_1197) rfl (XS.iload X3654.here hx rfl (hb hby at_1199) rfl (XS.iload X3654.here hx rfl (hb hby at_1201) rfl k))))))) ?_
      show own_Goes p e below (T3654.setTop (mkF m 1203 #[.val (.long i0), .second, .val (.long i1), .second, iv i2, iv i3, iv i4, iv y48, iv y49, iv y50, iv y51, iv y52, iv y53, iv (1 : Int32), iv y1706, iv (own_sym y53), rv b1710, rv b1717, rv b2996, rv b3626, iv (1 : Int32), .unset, .unset, .unset] [(.int y53), (.int y51), (.int y50), (.int y49), (.int y48), (.int y48), (.int ((own_dg 81 f1754 rd1) (y48).toNatClampNeg))])) _
      obtain ⟨_, T3656, _, X3656, hQ3656, st3656⟩ := own_cs X3654 hx hZ hown (wd hw 118 rfl) (wd hw 119 rfl) (wd hw 120 rfl) (wd hw 6 rfl) (by decide) (rm20 l Z a0 hw [] y48 y49 y50 y51 y53 h3376 n0 O3651 ) hh3655 (g := (mkF m 1203 #[.val (.long i0), .second, .val (.long i1), .second, iv i2, iv i3, iv i4, iv y48, iv y49, iv y50, iv y51, iv y52, iv y53, iv (1 : Int32), iv y1706, iv (own_sym y53), rv b1710, rv b1717, rv b2996, rv b3626, iv (1 : Int32), .unset, .unset, .unset] [(.int y53), (.int y51), (.int y50), (.int y49), (.int y48), (.int y48), (.int ((own_dg 81 f1754 rd1) (y48).toNatClampNeg))])) rfl (by rw [hml]; rfl) (rest := [(.int ((own_dg 81 f1754 rd1) (y48).toNatClampNeg))]) (W := 1) (lenOf pd_17 rfl) rfl (by show 2 * 0 + _ ≤ _; exact Nat.le_of_eq rfl) (hb hby at_1203) (by decide) (by decide) (by decide) (by decide)
      obtain ⟨rfl, Nq3656, hh3657⟩ := hQ3656
      have N3656 := Fr.app N3654 Nq3656
      refine own_via (fun t k => st3656 t (XS.icmpNo X3656.here hx rfl (hb hby at_1206) rfl (teq (dgf1754 y48 rgy48.1 rgy48.2)).2 (XS.iconst X3656.here hx rfl (hb hby at_1209) (XS.goto X3656.here hx rfl (pc0 := 1210) (pc' := 1214) rfl (hb hby at_1210) (by decide) (by decide) (XS.istore X3656.here hx rfl (hb hby at_1214) rfl (l' := #[.val (.long i0), .second, .val (.long i1), .second, iv i2, iv i3, iv i4, iv y48, iv y49, iv y50, iv y51, iv y52, iv y53, iv (1 : Int32), iv y1706, iv (own_sym y53), rv b1710, rv b1717, rv b2996, rv b3626, iv (1 : Int32), iv (1 : Int32), .unset, .unset]) rfl (XS.aload X3656.here hx rfl (hb hby at_1216) rfl rfl (XS.iload X3656.here hx rfl (hb hby at_1218) rfl k))))))) ?_
      show own_Goes p e below (T3656.setTop (mkF m 1220 #[.val (.long i0), .second, .val (.long i1), .second, iv i2, iv i3, iv i4, iv y48, iv y49, iv y50, iv y51, iv y52, iv y53, iv (1 : Int32), iv y1706, iv (own_sym y53), rv b1710, rv b1717, rv b2996, rv b3626, iv (1 : Int32), iv (1 : Int32), .unset, .unset] [(.int y50), (.ref b3626)])) _
      obtain ⟨_, T3658, _, X3658, hQ3658, st3658⟩ := own_cv X3656 hx hZ hown (wd hw 113 rfl) (wd hw 114 rfl) (wd hw 116 rfl) (wd hw 115 rfl) (wd hw 117 rfl) (wd hw 79 rfl) (by decide) (rm18 l Z a0 hw [] b3626 y50 b3624 k3625 f1754 rd1 h3376 n0 O3651 fx3633 vx3628 rgy50.1 rgy50.2) hh3657 ex3631 (g := (mkF m 1220 #[.val (.long i0), .second, .val (.long i1), .second, iv i2, iv i3, iv i4, iv y48, iv y49, iv y50, iv y51, iv y52, iv y53, iv (1 : Int32), iv y1706, iv (own_sym y53), rv b1710, rv b1717, rv b2996, rv b3626, iv (1 : Int32), iv (1 : Int32), .unset, .unset] [(.int y50), (.ref b3626)])) rfl (by rw [hml]; rfl) (rest := []) (W := 0) (lenOf pd_16 rfl) rfl (by show 2 * 0 + _ ≤ _; exact Nat.le_of_eq rfl) (hb hby at_1220) (by decide) (by decide) (by decide) (by decide)
      obtain ⟨rfl, Nq3658, hh3659⟩ := hQ3658
      have N3658 := Fr.app N3656 Nq3658
      refine own_via (fun t k => st3658 t (XS.iload X3658.here hx rfl (hb hby at_1223) rfl (XS.iload X3658.here hx rfl (hb hby at_1225) rfl (XS.iload X3658.here hx rfl (hb hby at_1227) rfl (XS.iload X3658.here hx rfl (hb hby at_1229) rfl (XS.iload X3658.here hx rfl (hb hby at_1231) rfl (XS.iload X3658.here hx rfl (hb hby at_1233) rfl k))))))) ?_
      show own_Goes p e below (T3658.setTop (mkF m 1235 #[.val (.long i0), .second, .val (.long i1), .second, iv i2, iv i3, iv i4, iv y48, iv y49, iv y50, iv y51, iv y52, iv y53, iv (1 : Int32), iv y1706, iv (own_sym y53), rv b1710, rv b1717, rv b2996, rv b3626, iv (1 : Int32), iv (1 : Int32), .unset, .unset] [(.int y53), (.int y51), (.int y50), (.int y49), (.int y48), (.int y50), (.int ((own_dg 81 f1754 rd1) (y50).toNatClampNeg))])) _
      obtain ⟨_, T3660, _, X3660, hQ3660, st3660⟩ := own_cs X3658 hx hZ hown (wd hw 118 rfl) (wd hw 119 rfl) (wd hw 120 rfl) (wd hw 6 rfl) (by decide) (rm21 l Z a0 hw [] y50 y48 y49 y51 y53 h3376 n0 O3651 ) hh3659 (g := (mkF m 1235 #[.val (.long i0), .second, .val (.long i1), .second, iv i2, iv i3, iv i4, iv y48, iv y49, iv y50, iv y51, iv y52, iv y53, iv (1 : Int32), iv y1706, iv (own_sym y53), rv b1710, rv b1717, rv b2996, rv b3626, iv (1 : Int32), iv (1 : Int32), .unset, .unset] [(.int y53), (.int y51), (.int y50), (.int y49), (.int y48), (.int y50), (.int ((own_dg 81 f1754 rd1) (y50).toNatClampNeg))])) rfl (by rw [hml]; rfl) (rest := [(.int ((own_dg 81 f1754 rd1) (y50).toNatClampNeg))]) (W := 1) (lenOf pd_17 rfl) rfl (by show 2 * 0 + _ ≤ _; exact Nat.le_of_eq rfl) (hb hby at_1235) (by decide) (by decide) (by decide) (by decide)
      obtain ⟨rfl, Nq3660, hh3661⟩ := hQ3660
      have N3660 := Fr.app N3658 Nq3660
      refine own_via (fun t k => st3660 t (XS.icmpNo X3660.here hx rfl (hb hby at_1238) rfl (teq (dgf1754 y50 rgy50.1 rgy50.2)).2 (XS.iconst X3660.here hx rfl (hb hby at_1241) (XS.goto X3660.here hx rfl (pc0 := 1242) (pc' := 1246) rfl (hb hby at_1242) (by decide) (by decide) (XS.istore X3660.here hx rfl (hb hby at_1246) rfl (l' := #[.val (.long i0), .second, .val (.long i1), .second, iv i2, iv i3, iv i4, iv y48, iv y49, iv y50, iv y51, iv y52, iv y53, iv (1 : Int32), iv y1706, iv (own_sym y53), rv b1710, rv b1717, rv b2996, rv b3626, iv (1 : Int32), iv (1 : Int32), iv (1 : Int32), .unset]) rfl (XS.aload X3660.here hx rfl (hb hby at_1248) rfl rfl (XS.iload X3660.here hx rfl (hb hby at_1250) rfl k))))))) ?_
      show own_Goes p e below (T3660.setTop (mkF m 1252 #[.val (.long i0), .second, .val (.long i1), .second, iv i2, iv i3, iv i4, iv y48, iv y49, iv y50, iv y51, iv y52, iv y53, iv (1 : Int32), iv y1706, iv (own_sym y53), rv b1710, rv b1717, rv b2996, rv b3626, iv (1 : Int32), iv (1 : Int32), iv (1 : Int32), .unset] [(.int y52), (.ref b3626)])) _
      obtain ⟨_, T3662, _, X3662, hQ3662, st3662⟩ := own_cv X3660 hx hZ hown (wd hw 113 rfl) (wd hw 114 rfl) (wd hw 116 rfl) (wd hw 115 rfl) (wd hw 117 rfl) (wd hw 79 rfl) (by decide) (rm18 l Z a0 hw [] b3626 y52 b3624 k3625 f1754 rd1 h3376 n0 O3651 fx3633 vx3628 (by rw [hy52]; exact (own_nn_rem (81 : Int32) (own_nn_mask i2 (2147483647 : Int32) 31 (by decide) (by decide)))) (by rw [hy52]; exact (own_lt_rem (81 : Int32) (own_nn_mask i2 (2147483647 : Int32) 31 (by decide) (by decide)) (by decide)))) hh3661 ex3631 (g := (mkF m 1252 #[.val (.long i0), .second, .val (.long i1), .second, iv i2, iv i3, iv i4, iv y48, iv y49, iv y50, iv y51, iv y52, iv y53, iv (1 : Int32), iv y1706, iv (own_sym y53), rv b1710, rv b1717, rv b2996, rv b3626, iv (1 : Int32), iv (1 : Int32), iv (1 : Int32), .unset] [(.int y52), (.ref b3626)])) rfl (by rw [hml]; rfl) (rest := []) (W := 0) (lenOf pd_16 rfl) rfl (by show 2 * 0 + _ ≤ _; exact Nat.le_of_eq rfl) (hb hby at_1252) (by decide) (by decide) (by decide) (by decide)
      obtain ⟨rfl, Nq3662, hh3663⟩ := hQ3662
      have N3662 := Fr.app N3660 Nq3662
      refine own_via (fun t k => st3662 t (XS.iload X3662.here hx rfl (hb hby at_1255) rfl (XS.iload X3662.here hx rfl (hb hby at_1257) rfl (XS.iload X3662.here hx rfl (hb hby at_1259) rfl (XS.iload X3662.here hx rfl (hb hby at_1261) rfl (XS.iload X3662.here hx rfl (hb hby at_1263) rfl (XS.iload X3662.here hx rfl (hb hby at_1265) rfl k))))))) ?_
      show own_Goes p e below (T3662.setTop (mkF m 1267 #[.val (.long i0), .second, .val (.long i1), .second, iv i2, iv i3, iv i4, iv y48, iv y49, iv y50, iv y51, iv y52, iv y53, iv (1 : Int32), iv y1706, iv (own_sym y53), rv b1710, rv b1717, rv b2996, rv b3626, iv (1 : Int32), iv (1 : Int32), iv (1 : Int32), .unset] [(.int y53), (.int y51), (.int y50), (.int y49), (.int y48), (.int y52), (.int ((own_dg 81 f1754 rd1) (y52).toNatClampNeg))])) _
      obtain ⟨_, T3664, _, X3664, hQ3664, st3664⟩ := own_cs X3662 hx hZ hown (wd hw 118 rfl) (wd hw 119 rfl) (wd hw 120 rfl) (wd hw 6 rfl) (by decide) (rm22 l Z a0 hw [] y52 y48 y49 y50 y51 y53 h3376 n0 O3651 ) hh3663 (g := (mkF m 1267 #[.val (.long i0), .second, .val (.long i1), .second, iv i2, iv i3, iv i4, iv y48, iv y49, iv y50, iv y51, iv y52, iv y53, iv (1 : Int32), iv y1706, iv (own_sym y53), rv b1710, rv b1717, rv b2996, rv b3626, iv (1 : Int32), iv (1 : Int32), iv (1 : Int32), .unset] [(.int y53), (.int y51), (.int y50), (.int y49), (.int y48), (.int y52), (.int ((own_dg 81 f1754 rd1) (y52).toNatClampNeg))])) rfl (by rw [hml]; rfl) (rest := [(.int ((own_dg 81 f1754 rd1) (y52).toNatClampNeg))]) (W := 1) (lenOf pd_17 rfl) rfl (by show 2 * 0 + _ ≤ _; exact Nat.le_of_eq rfl) (hb hby at_1267) (by decide) (by decide) (by decide) (by decide)
      obtain ⟨rfl, Nq3664, hh3665⟩ := hQ3664
      have N3664 := Fr.app N3662 Nq3664
      refine own_via (fun t k => st3664 t (XS.icmpNo X3664.here hx rfl (hb hby at_1270) rfl (teq (dgf1754 y52 (by rw [hy52]; exact (own_nn_rem (81 : Int32) (own_nn_mask i2 (2147483647 : Int32) 31 (by decide) (by decide)))) (by rw [hy52]; exact (own_lt_rem (81 : Int32) (own_nn_mask i2 (2147483647 : Int32) 31 (by decide) (by decide)) (by decide))))).2 (XS.iconst X3664.here hx rfl (hb hby at_1273) (XS.goto X3664.here hx rfl (pc0 := 1274) (pc' := 1278) rfl (hb hby at_1274) (by decide) (by decide) (XS.istore X3664.here hx rfl (hb hby at_1278) rfl (l' := #[.val (.long i0), .second, .val (.long i1), .second, iv i2, iv i3, iv i4, iv y48, iv y49, iv y50, iv y51, iv y52, iv y53, iv (1 : Int32), iv y1706, iv (own_sym y53), rv b1710, rv b1717, rv b2996, rv b3626, iv (1 : Int32), iv (1 : Int32), iv (1 : Int32), iv (1 : Int32)]) rfl (XS.iload X3664.here hx rfl (hb hby at_1280) rfl (XS.ifNo X3664.here hx rfl (hb hby at_1282) rfl ((if0 _ _).trans (feq (by decide : ¬ ((1 : Int32) = (0 : Int32)))).1) (XS.iload X3664.here hx rfl (hb hby at_1285) rfl (XS.ifNo X3664.here hx rfl (hb hby at_1287) rfl ((if0 _ _).trans (feq (by decide : ¬ ((1 : Int32) = (0 : Int32)))).1) (XS.iload X3664.here hx rfl (hb hby at_1290) rfl (XS.ifNo X3664.here hx rfl (hb hby at_1292) rfl ((if0 _ _).trans (feq (by decide : ¬ ((1 : Int32) = (0 : Int32)))).1) (XS.iload X3664.here hx rfl (hb hby at_1295) rfl k)))))))))))) ?_
      show own_Goes p e below (T3664.setTop (mkF m 1297 #[.val (.long i0), .second, .val (.long i1), .second, iv i2, iv i3, iv i4, iv y48, iv y49, iv y50, iv y51, iv y52, iv y53, iv (1 : Int32), iv y1706, iv (own_sym y53), rv b1710, rv b1717, rv b2996, rv b3626, iv (1 : Int32), iv (1 : Int32), iv (1 : Int32), iv (1 : Int32)] [(.int (1 : Int32))])) _
      refine own_via (fun t k => XS.ifNo X3664.here hx rfl (hb hby at_1297) rfl ((if0 _ _).trans (feq (by decide : ¬ ((1 : Int32) = (0 : Int32)))).1) (XS.iconst X3664.here hx rfl (hb hby at_1300) (XS.goto X3664.here hx rfl (pc0 := 1301) (pc' := 1305) rfl (hb hby at_1301) (by decide) (by decide) k))) ?_
      show own_Goes p e below (T3664.setTop (mkF m 1305 #[.val (.long i0), .second, .val (.long i1), .second, iv i2, iv i3, iv i4, iv y48, iv y49, iv y50, iv y51, iv y52, iv y53, iv (1 : Int32), iv y1706, iv (own_sym y53), rv b1710, rv b1717, rv b2996, rv b3626, iv (1 : Int32), iv (1 : Int32), iv (1 : Int32), iv (1 : Int32)] [(.int (1 : Int32))])) _
      obtain ⟨fs, hr, hrun, hended, hW, hsame⟩ := X3664.leave (v := some (.int (1 : Int32))) (fun h => by rw [Bd.returns] at h; cases h)
      refine own_end (t := T3664.setFrames fs) ?_ ⟨_, hrun, hended, _, _, rfl, ?_, ⟨_, rfl⟩, hW, hsame.mono (by decide) (by decide)⟩
      · exact retN X3664 hx (t := .boolean) Bd.returns (by simp) (hb hby at_1305) hr
      · exact ⟨rfl, N3664⟩
set_option maxRecDepth 65536 in
set_option maxHeartbeats 40000000 in
theorem comes_1 {Post : Tables → Env → Array Value → State → Outcome → State → Prop} (hpost : ∀ tb e args s v u, (limb_1_1.after args s (.returned v) u = true ∧ limb_1_2.after args s (.returned v) u = true ∧ True) → FrameEnd s (.returned v) u (Jvm.fieldLocs frame_1_writes args s ++ Jvm.arrayLocs frame_1_arrays args s ++ Jvm.staticLocs frame_1_statics s) 24 1280 → Post tb e args s (.returned v) u) :
    ArmFor flags0 classFile x code maxLocals ret World_1 tables_1 room_1 Calls_1 rest_1 Pre_1 Post := by
  intro l hfl _ _ p e ha hc hk s m args below hf hA hF happ hP
  obtain ⟨hcalls, hrest, hpre⟩ := hP
  obtain ⟨-, -, -, hnamed, -, -, -, hat⟩ := (Spec.applies_iff hf).mp happ
  obtain ⟨hg, hn⟩ := and_e (Cond.before_iff.mp (show (Jvm.Cond.and given_1 narrow_1).before args s = true from hpre))
  obtain ⟨g3666, g3667⟩ := and_e hg
  obtain ⟨g3668, g3669⟩ := and_e g3667
  obtain ⟨g3670, g3671⟩ := and_e g3669
  obtain ⟨g3672, g3673⟩ := and_e g3671
  obtain ⟨g3674, g3675⟩ := and_e g3673
  obtain ⟨w0, w1, w2, w3, w4, rfl⟩ : ∃ w0 w1 w2 w3 w4 : Value, args = #[w0, w1, w2, w3, w4] := by
    have hs : args.size = 5 := by simpa [Cond.value, given_1] using g3666
    obtain ⟨L⟩ := args
    match L, hs with
    | [w0, w1, w2, w3, w4], _ => exact ⟨w0, w1, w2, w3, w4, rfl⟩
  have hw := fun d (hd : d ∈ tables_1) => atoms_spec (ws := Jvm.Cond.code x code maxLocals ret :: tables_1) hat d (List.mem_cons_of_mem _ hd)
  have hfit : Fit s := fun {y c} hc i hi => by
    obtain ⟨ha, rfl⟩ := Array.getElem?_eq_some_iff.mp hc
    have q := List.all_eq_true.mp ((Array.all_eq_true_iff_forall_mem.mp hF) _ (Array.getElem_mem ha)) i (List.mem_range.mpr hi)
    simpa [Array.getElem?_eq_getElem hi] using q
  obtain ⟨hsets, hown0⟩ := atoms_of _ (rest_1_c_eq ▸ (show rest_1_c.before _ s = true from hrest))
  obtain ⟨n1, n2⟩ := and_e hn
  obtain ⟨n3, n4⟩ := and_e n2
  obtain ⟨n5, n6⟩ := and_e n4
  obtain ⟨n7, n8⟩ := and_e n6
  obtain ⟨n9, n10⟩ := and_e n8
  obtain ⟨n11, n12⟩ := and_e n10
  obtain ⟨n13, n14⟩ := and_e n12
  obtain ⟨n15, n16⟩ := and_e n14
  have u17 := Cond.before_iff.mp (hsets _ (List.mem_of_getElem? (i := 0) rfl))
  have u18 := Cond.before_iff.mp (hsets _ (List.mem_of_getElem? (i := 1) rfl))
  have u19 := Cond.before_iff.mp (hsets _ (List.mem_of_getElem? (i := 2) rfl))
  have u20 := Cond.before_iff.mp (hsets _ (List.mem_of_getElem? (i := 3) rfl))
  have u21 := Cond.before_iff.mp (hsets _ (List.mem_of_getElem? (i := 4) rfl))
  have u22 := Cond.before_iff.mp (hsets _ (List.mem_of_getElem? (i := 5) rfl))
  have u23 := Cond.before_iff.mp (hsets _ (List.mem_of_getElem? (i := 6) rfl))
  have u24 := Cond.before_iff.mp (hsets _ (List.mem_of_getElem? (i := 7) rfl))
  have u25 := Cond.before_iff.mp (hsets _ (List.mem_of_getElem? (i := 8) rfl))
  have u26 := Cond.before_iff.mp (hsets _ (List.mem_of_getElem? (i := 9) rfl))
  have u27 := Cond.before_iff.mp (hsets _ (List.mem_of_getElem? (i := 10) rfl))
  have u28 := Cond.before_iff.mp (hsets _ (List.mem_of_getElem? (i := 11) rfl))
  have u29 := Cond.before_iff.mp (hsets _ (List.mem_of_getElem? (i := 12) rfl))
  have u30 := Cond.before_iff.mp (hsets _ (List.mem_of_getElem? (i := 13) rfl))
  have u31 := Cond.before_iff.mp (hsets _ (List.mem_of_getElem? (i := 14) rfl))
  have u32 := Cond.before_iff.mp (hsets _ (List.mem_of_getElem? (i := 15) rfl))
  have u33 := Cond.before_iff.mp (hsets _ (List.mem_of_getElem? (i := 16) rfl))
  have u34 := Cond.before_iff.mp (hsets _ (List.mem_of_getElem? (i := 17) rfl))
  have u35 := Cond.before_iff.mp (hsets _ (List.mem_of_getElem? (i := 18) rfl))
  obtain ⟨w36, ev37⟩ := exa_v n1
  have S_PuzzleLine_SHAPE : Sta s s.heap zs5 "SHAPE" zs7 (.ref w36) := Sta.start ev37 (Or.inr ⟨(wd hw 40 rfl), (wd hw 43 rfl)⟩)
  have SE_w36 : Exa s s.heap w36 zs4 := Exa.start ev37 n1
  have ev38 := Cond.eq_int (show (Jvm.Cond.eq _ _).holds _ _ _ _ _ = true from Cond.before_iff.mpr n3) rfl
  have SF_w36_side : Fld s s.heap w36 zs4 "side" "I" (.int (9 : Int32)) := Fld.start ((fld_at ev37).symm.trans ev38)
  obtain ⟨w39, ev40⟩ := arr_v n5
  have S_PuzzleLine_READS_AS : Sta s s.heap zs5 "READS_AS" "[B" (.ref w39) := Sta.start ev40 (Or.inr ⟨(wd hw 40 rfl), (wd hw 76 rfl)⟩)
  obtain ⟨cl41, Acl41⟩ := Arr.start ev40 n5
  have ev42 := own_eq_ref n9 ev37
  have S_Shape_NINE : Sta s s.heap zs4 "NINE" zs7 (.ref w36) := Sta.start ev42 (Or.inr ⟨(wd hw 48 rfl), (wd hw 112 rfl)⟩)
  obtain ⟨i43, ev44⟩ := is_v u18
  have S_String_COMPACT_STRINGS : Sta s s.heap zs1 zs11 "Z" (.int i43) := Sta.start ev44 (Or.inl (hsets _ (List.mem_of_getElem? (i := 0) rfl)))
  have SNZ_i43 : ¬ (i43 = (0 : Int32)) := own_ne_int u19 ev44
  have ev45 := Cond.eq_int (show (Jvm.Cond.eq _ _).holds _ _ _ _ _ = true from Cond.before_iff.mpr u29) rfl
  have S_StringUTF16__assertionsDisabled : Sta s s.heap zs3 zs12 "Z" (.int (1 : Int32)) := Sta.start ev45 (Or.inl (hsets _ (List.mem_of_getElem? (i := 11) rfl)))
  have ev46 := Cond.eq_int (show (Jvm.Cond.eq _ _).holds _ _ _ _ _ = true from Cond.before_iff.mpr u32) rfl
  have S_StringUTF16_HI_BYTE_SHIFT : Sta s s.heap zs3 zs15 "I" (.int (0 : Int32)) := Sta.start ev46 (Or.inl (hsets _ (List.mem_of_getElem? (i := 14) rfl)))
  have ev47 := Cond.eq_int (show (Jvm.Cond.eq _ _).holds _ _ _ _ _ = true from Cond.before_iff.mpr u35) rfl
  have S_StringUTF16_LO_BYTE_SHIFT : Sta s s.heap zs3 zs16 "I" (.int (8 : Int32)) := Sta.start ev47 (Or.inl (hsets _ (List.mem_of_getElem? (i := 17) rfl)))
  obtain ⟨fm1, evfm⟩ := own_isRf u25
  have S_Preconditions_SIOOBE_FORMATTER : Sta s s.heap zs8 zs13 zs10 (own_rf fm1) := Sta.start evfm (Or.inl (hsets _ (List.mem_of_getElem? (i := 7) rfl)))
  obtain ⟨rd1, kc_w39, SV_w39, HRD⟩ : ∃ rd kc, Arv s s.heap w39 kc .byte (128 : Int32) (own_vs 128 rd) (.int (0 : Int32)) ∧ own_rdOK rd := own_rdStart hfit Acl41 ev40 n7 (fun _ => ev40) n15 n13
  obtain ⟨i0, ei0⟩ := isL_v g3668
  obtain rfl : w0 = (.long i0) := Option.some.inj ei0
  obtain ⟨i1, ei1⟩ := isL_v g3670
  obtain rfl : w1 = (.long i1) := Option.some.inj ei1
  obtain ⟨i2, ei2⟩ := is_v g3672
  obtain rfl : w2 = (.int i2) := Option.some.inj ei2
  obtain ⟨i3, ei3⟩ := is_v g3674
  obtain rfl : w3 = (.int i3) := Option.some.inj ei3
  obtain ⟨i4, ei4⟩ := is_v g3675
  obtain rfl : w4 = (.int i4) := Option.some.inj ei4
  obtain ⟨n, o, h1, h2, h3, _, L, rfl, ⟨rfl, N⟩, hq⟩ := rm0 l s _ hw tables_1 i0 i1 i2 i3 i4 rd1 i43 w36 w39 kc_w39 fm1 s.heap s.heap.size (Old.start s) HRD S_String_COMPACT_STRINGS SNZ_i43 S_PuzzleLine_SHAPE SF_w36_side SE_w36 S_PuzzleLine_READS_AS SV_w39 S_Preconditions_SIOOBE_FORMATTER S_Shape_NINE S_StringUTF16__assertionsDisabled S_StringUTF16_HI_BYTE_SHIFT S_StringUTF16_LO_BYTE_SHIFT p e ha hc hk s m _ below hf ((Spec.applies_iff_loose hf).mp happ).1 ⟨rfl, State.Warmed39.refl s, rfl⟩ trivial
  refine ⟨n, _, h1, h2, h3, hpost _ _ _ _ _ _ ⟨Cond.after_iff.mpr rfl, Cond.after_iff.mpr (eq_i res_at (Term.int_eval (1)) rfl), trivial⟩ ⟨hq.1, hq.2.1, (hq.2.2.sift fun y hy => Or.inr (N y hy)).mono (by decide) (by decide)⟩⟩
theorem main_1_1 : Claimed_1_1 := comes_1 fun _ _ _ _ _ _ h hF => ⟨h.1, hF⟩
theorem main_1_2 : Claimed_1_2 := comes_1 fun _ _ _ _ _ _ h hF => ⟨h.2.1, hF⟩
end Jvm.Pilot.@@N@@
namespace Jvm.Pilot.@@N@@
open Jvm Jvm.ClassFile Sem Op Lib Jvm.Free Jvm.Stand Jvm.Pilot.@@N@@.Jvm.D
/-! MADE BY PROGRAM (witnessworld.py) out of the Statement's table words and the real class files: 22 classes; the members and pool entries that the words name. The judged class is class 1, her method 4. -/
namespace start1
open Jvm.ClassFile
def u (s : String) : CpInfo := .utf8 (stringToUtf16 s)
/-- a pool by its gaps: so many unusable entries, then the entry; so many at the end -/
def gap : Nat → List CpInfo → List CpInfo
  | 0, r => r
  | n + 1, r => .unusable :: gap n r
def poolList (es : List (Nat × CpInfo)) (last : Nat) : List CpInfo := es.foldr (fun e r => gap e.1 (e.2 :: r)) (gap last [])
def pool (es : List (Nat × CpInfo)) (last : Nat) : Array CpInfo := ⟨poolList es last⟩
def fileOf (pool : Array CpInfo) (this : Nat) (attrs : Array Attribute := #[]) (ms : Array MethodInfo := #[]) (fl : Nat := 33) (sup : Nat := 0) (ifs : Array Nat := #[]) (fds : Array FieldInfo := #[]) : ClassFile where
  minorVersion := 0
  majorVersion := 65
  constantPool := pool
  accessFlags := fl
  thisClass := this
  superClass := sup
  interfaces := ifs
  fields := fds
  methods := ms
  attributes := attrs
def plain (name : String) (sup : Option ClassId) : Class where
  name := name
  kind := .ordinary
  loader := none
  accessFlags := 33
  super := sup
  interfaces := #[]
  cf := none
  fields := #[]
  methods := #[]
  instanceTypes := #[]
  staticTypes := #[]
  resolved := #[]
  callSites := []
  init := .initialized
  statics := none
  mirror := none

def pool0 : Array CpInfo := pool [(5, u "<init>"), (0, u "()V"), (1, .class_ 10), (1, u "java/lang/Object"), (85, u "clone"), (0, u "()Ljava/lang/Object;")] 26

def k0c0 : Code := { maxStack := 0, maxLocals := 1, code := object_method_1_code, exceptionTable := #[], attributes := #[] }
def k0m0 : Method := { name := "<init>", desc := "()V", sig := { parameters := [], returnType := none }, accessFlags := 1, code := some k0c0 }
def k0m1 : Method := { name := "clone", desc := "()Ljava/lang/Object;", sig := { parameters := [], returnType := some (.object "java/lang/Object") }, accessFlags := 260, code := none }
/-- java/lang/Object -/
def k0 : Class := { plain "java/lang/Object" none with
  accessFlags := 33
  interfaces := #[]
  cf := some (fileOf pool0 8 #[] #[{ accessFlags := 1, nameIndex := 5, descriptorIndex := 6, attributes := #[] }, { accessFlags := 260, nameIndex := 96, descriptorIndex := 97, attributes := #[] }] 33 0 #[] #[])
  fields := #[]
  methods := #[k0m0, k0m1]
  instanceTypes := #[]
  staticTypes := #[]
  resolved := Array.replicate 124 none
  statics := none }

def pool1 : Array CpInfo := pool [(2, .class_ 4), (1, u "java/lang/Object"), (0, u "<init>"), (0, u "()V"), (0, .methodref 8 9), (0, .class_ 10), (0, .nameAndType 11 12), (0, u "com/example/pencilmark/pencilmark/line/PuzzleLineParsePinLaw"), (0, u "val"), (0, u "(I)I"), (0, .long 2147483647), (1, .long 81), (1, .long 11), (1, .integer 2147483647), (0, .methodref 8 21), (0, .nameAndType 22 23), (0, u "sym"), (0, u "(I)C"), (0, .class_ 25), (0, u "java/lang/String"), (0, .methodref 24 27), (0, .nameAndType 5 28), (0, u "([C)V"), (0, .methodref 30 31), (0, .class_ 32), (0, .nameAndType 33 34), (0, u "com/example/pencilmark/pencilmark/line/PuzzleLine"), (0, u "parse"), (0, u "(Ljava/lang/String;J)Lcom/example/pencilmark/pencilmark/grid/Grid;"), (0, .methodref 36 37), (0, .class_ 38), (0, .nameAndType 39 40), (0, u "com/example/pencilmark/pencilmark/grid/Grid"), (0, u "shape"), (0, u "()Lcom/example/pencilmark/pencilmark/grid/Shape;"), (0, .fieldref 42 43), (0, .class_ 44), (0, .nameAndType 45 46), (0, u "com/example/pencilmark/pencilmark/grid/Shape"), (0, u "NINE"), (0, u "Lcom/example/pencilmark/pencilmark/grid/Shape;"), (0, .methodref 36 48), (0, .nameAndType 49 12), (0, u "digit"), (0, .methodref 8 51), (0, .nameAndType 52 53), (0, u "expected"), (0, u "(IIIIII)I"), (3, u "law"), (0, u "(JJIII)Z")] 4

def k1m0 : Method := { name := "<init>", desc := "()V", sig := { parameters := [], returnType := none }, accessFlags := 2, code := none }
def k1c1 : Code := { maxStack := 2, maxLocals := 1, code := method_2_code, exceptionTable := #[], attributes := #[] }
def k1m1 : Method := { name := "sym", desc := "(I)C", sig := { parameters := [.int], returnType := some .char }, accessFlags := 10, code := some k1c1 }
def k1c2 : Code := { maxStack := 2, maxLocals := 1, code := method_3_code, exceptionTable := #[], attributes := #[] }
def k1m2 : Method := { name := "val", desc := "(I)I", sig := { parameters := [.int], returnType := some .int }, accessFlags := 10, code := some k1c2 }
def k1c3 : Code := { maxStack := 2, maxLocals := 6, code := method_4_code, exceptionTable := #[], attributes := #[] }
def k1m3 : Method := { name := "expected", desc := "(IIIIII)I", sig := { parameters := [.int, .int, .int, .int, .int, .int], returnType := some .int }, accessFlags := 10, code := some k1c3 }
def k1c4 : Code := { maxStack := 7, maxLocals := 24, code := code, exceptionTable := #[], attributes := #[] }
def k1m4 : Method := { name := "law", desc := "(JJIII)Z", sig := { parameters := [.long, .long, .int, .int, .int], returnType := some .boolean }, accessFlags := 9, code := some k1c4 }
/-- com/example/pencilmark/pencilmark/line/PuzzleLineParsePinLaw -/
def k1 : Class := { plain "com/example/pencilmark/pencilmark/line/PuzzleLineParsePinLaw" (some 0) with
  accessFlags := 49
  interfaces := #[]
  cf := some (fileOf pool1 8 #[] #[{ accessFlags := 2, nameIndex := 5, descriptorIndex := 6, attributes := #[] }, { accessFlags := 10, nameIndex := 22, descriptorIndex := 23, attributes := #[] }, { accessFlags := 10, nameIndex := 11, descriptorIndex := 12, attributes := #[] }, { accessFlags := 10, nameIndex := 52, descriptorIndex := 53, attributes := #[] }, { accessFlags := 9, nameIndex := 57, descriptorIndex := 58, attributes := #[] }] 49 2 #[] #[])
  fields := #[]
  methods := #[k1m0, k1m1, k1m2, k1m3, k1m4]
  instanceTypes := #[]
  staticTypes := #[]
  resolved := Array.replicate 63 none
  statics := none }

def pool2 : Array CpInfo := pool [(1, .class_ 2), (0, u "java/io/Serializable"), (0, .class_ 4), (0, u "java/lang/Object")] 2

/-- java/io/Serializable -/
def k2 : Class := { plain "java/io/Serializable" (some 0) with
  accessFlags := 1537
  interfaces := #[]
  cf := some (fileOf pool2 1 #[] #[] 1537 3 #[] #[])
  fields := #[]
  methods := #[]
  instanceTypes := #[]
  staticTypes := #[]
  resolved := Array.replicate 7 none
  statics := none }

def pool3 : Array CpInfo := pool [(1, .class_ 2), (0, u "java/lang/Comparable"), (0, .class_ 4), (0, u "java/lang/Object")] 7

/-- java/lang/Comparable -/
def k3 : Class := { plain "java/lang/Comparable" (some 0) with
  accessFlags := 1537
  interfaces := #[]
  cf := some (fileOf pool3 1 #[] #[] 1537 3 #[] #[])
  fields := #[]
  methods := #[]
  instanceTypes := #[]
  staticTypes := #[]
  resolved := Array.replicate 12 none
  statics := none }

def pool4 : Array CpInfo := pool [(2, .class_ 4), (1, u "java/lang/CharSequence"), (42, .class_ 48), (0, u "java/lang/CharSequence$1CodePointIterator"), (10, .class_ 60), (0, u "java/lang/CharSequence$1CharIterator"), (5, .class_ 67), (0, u "java/lang/Object")] 63

/-- java/lang/CharSequence -/
def k4 : Class := { plain "java/lang/CharSequence" (some 0) with
  accessFlags := 1537
  interfaces := #[]
  cf := some (fileOf pool4 2 #[.nestMembers #[47, 59]] #[] 1537 66 #[] #[])
  fields := #[]
  methods := #[]
  instanceTypes := #[]
  staticTypes := #[]
  resolved := Array.replicate 131 none
  statics := none }

def pool5 : Array CpInfo := pool [(1, .class_ 2), (0, u "java/lang/constant/Constable"), (0, .class_ 4), (0, u "java/lang/Object")] 6

/-- java/lang/constant/Constable -/
def k5 : Class := { plain "java/lang/constant/Constable" (some 0) with
  accessFlags := 1537
  interfaces := #[]
  cf := some (fileOf pool5 1 #[] #[] 1537 3 #[] #[])
  fields := #[]
  methods := #[]
  instanceTypes := #[]
  staticTypes := #[]
  resolved := Array.replicate 11 none
  statics := none }

def pool6 : Array CpInfo := pool [(1, .class_ 2), (0, u "java/lang/constant/ConstantDesc"), (0, .class_ 4), (0, u "java/lang/Object")] 32

/-- java/lang/constant/ConstantDesc -/
def k6 : Class := { plain "java/lang/constant/ConstantDesc" (some 0) with
  accessFlags := 1537
  interfaces := #[]
  cf := some (fileOf pool6 1 #[] #[] 1537 3 #[] #[])
  fields := #[]
  methods := #[]
  instanceTypes := #[]
  staticTypes := #[]
  resolved := Array.replicate 37 none
  statics := none }

def pool7 : Array CpInfo := pool [(1, .methodref 2 3), (0, .class_ 4), (0, .nameAndType 5 6), (0, u "java/lang/Object"), (0, u "<init>"), (0, u "()V"), (2, .fieldref 10 11), (0, .class_ 12), (0, .nameAndType 13 14), (0, u "java/lang/String"), (0, u "value"), (0, u "[B"), (0, .fieldref 10 16), (0, .nameAndType 17 18), (0, u "coder"), (0, u "B"), (2, u "hash"), (0, u "I"), (2, u "hashIsZero"), (0, u "Z"), (0, .methodref 10 28), (0, .nameAndType 5 29), (0, u "([CIILjava/lang/Void;)V"), (8, .fieldref 10 39), (0, .nameAndType 40 26), (0, u "COMPACT_STRINGS"), (1, .class_ 44), (1, u "java/lang/StringUTF16"), (0, u "compress"), (1, .methodref 42 48), (0, .nameAndType 49 50), (0, u "coderFromArrayLen"), (0, u "([BI)B"), (56, .class_ 109), (1, u "java/lang/StringLatin1"), (32, u "()Z"), (34, .methodref 42 178), (0, .nameAndType 45 179), (0, u "([CII)[B"), (183, u "([BI)C"), (27, u "(II)V"), (35, u "(I)C"), (64, .methodref 10 493), (0, .nameAndType 494 142), (0, u "isLatin1"), (0, .methodref 107 496), (0, .nameAndType 497 363), (0, u "charAt"), (0, .methodref 42 496), (2, u "checkIndex"), (73, .class_ 576), (0, u "java/lang/CharSequence"), (22, u "CASE_INSENSITIVE_ORDER"), (0, u "Ljava/util/Comparator;"), (409, u "([C)V"), (42, .fieldref 1054 1055), (0, .class_ 1056), (0, .nameAndType 1057 1058), (0, u "jdk/internal/util/Preconditions"), (0, u "SIOOBE_FORMATTER"), (0, u "Ljava/util/function/BiFunction;"), (0, .methodref 1054 1060), (0, .nameAndType 501 1061), (0, u "(IILjava/util/function/BiFunction;)I"), (39, u "serialPersistentFields"), (0, u "[Ljava/io/ObjectStreamField;"), (0, .class_ 1104), (0, u "java/lang/String$CaseInsensitiveComparator"), (1, .class_ 1107), (0, u "java/io/Serializable"), (0, .class_ 1109), (0, u "java/lang/Comparable"), (0, .class_ 1111), (0, u "java/lang/constant/Constable"), (0, .class_ 1113), (0, u "java/lang/constant/ConstantDesc"), (2, u "serialVersionUID"), (0, u "J"), (3, u "REPL"), (0, u "C"), (2, u "LATIN1"), (1, u "UTF16")] 323

def k7m0 : Method := { name := "<init>", desc := "()V", sig := { parameters := [], returnType := none }, accessFlags := 1, code := none }
def k7c1 : Code := { maxStack := 5, maxLocals := 2, code := jdk_42_method_3_code, exceptionTable := #[], attributes := #[] }
def k7m1 : Method := { name := "<init>", desc := "([C)V", sig := { parameters := [(.array .char)], returnType := none }, accessFlags := 1, code := some k7c1 }
def k7c2 : Code := { maxStack := 2, maxLocals := 2, code := jdk_42_method_56_code, exceptionTable := #[], attributes := #[] }
def k7m2 : Method := { name := "charAt", desc := "(I)C", sig := { parameters := [.int], returnType := some .char }, accessFlags := 1, code := some k7c2 }
def k7c3 : Code := { maxStack := 4, maxLocals := 6, code := jdk_42_method_149_code, exceptionTable := #[], attributes := #[] }
def k7m3 : Method := { name := "<init>", desc := "([CIILjava/lang/Void;)V", sig := { parameters := [(.array .char), .int, .int, (.object "java/lang/Void")], returnType := none }, accessFlags := 2, code := some k7c3 }
def k7c4 : Code := { maxStack := 1, maxLocals := 1, code := jdk_42_method_154_code, exceptionTable := #[], attributes := #[] }
def k7m4 : Method := { name := "isLatin1", desc := "()Z", sig := { parameters := [], returnType := some .boolean }, accessFlags := 0, code := some k7c4 }
def k7c5 : Code := { maxStack := 3, maxLocals := 2, code := jdk_42_method_155_code, exceptionTable := #[], attributes := #[] }
def k7m5 : Method := { name := "checkIndex", desc := "(II)V", sig := { parameters := [.int, .int], returnType := none }, accessFlags := 8, code := some k7c5 }
/-- java/lang/String -/
def k7 : Class := { plain "java/lang/String" (some 0) with
  accessFlags := 49
  interfaces := #[2, 3, 4, 5, 6]
  cf := some (fileOf pool7 10 #[.nestMembers #[1103]] #[{ accessFlags := 1, nameIndex := 5, descriptorIndex := 6, attributes := #[] }, { accessFlags := 1, nameIndex := 5, descriptorIndex := 1010, attributes := #[] }, { accessFlags := 1, nameIndex := 497, descriptorIndex := 427, attributes := #[] }, { accessFlags := 2, nameIndex := 5, descriptorIndex := 29, attributes := #[] }, { accessFlags := 0, nameIndex := 494, descriptorIndex := 142, attributes := #[] }, { accessFlags := 8, nameIndex := 501, descriptorIndex := 391, attributes := #[] }] 49 2 #[1106, 1108, 575, 1110, 1112] #[{ accessFlags := 18, nameIndex := 13, descriptorIndex := 14, attributes := #[] }, { accessFlags := 18, nameIndex := 17, descriptorIndex := 18, attributes := #[] }, { accessFlags := 2, nameIndex := 21, descriptorIndex := 22, attributes := #[] }, { accessFlags := 2, nameIndex := 25, descriptorIndex := 26, attributes := #[] }, { accessFlags := 26, nameIndex := 1116, descriptorIndex := 1117, attributes := #[] }, { accessFlags := 24, nameIndex := 40, descriptorIndex := 26, attributes := #[] }, { accessFlags := 26, nameIndex := 1101, descriptorIndex := 1102, attributes := #[] }, { accessFlags := 26, nameIndex := 1121, descriptorIndex := 1122, attributes := #[] }, { accessFlags := 25, nameIndex := 599, descriptorIndex := 600, attributes := #[] }, { accessFlags := 24, nameIndex := 1125, descriptorIndex := 18, attributes := #[] }, { accessFlags := 24, nameIndex := 1127, descriptorIndex := 18, attributes := #[] }])
  fields := #[{ name := "value", type := (.array .byte), accessFlags := 18, slot := 0, constantValue := 0 }, { name := "coder", type := .byte, accessFlags := 18, slot := 1, constantValue := 0 }, { name := "hash", type := .int, accessFlags := 2, slot := 2, constantValue := 0 }, { name := "hashIsZero", type := .boolean, accessFlags := 2, slot := 3, constantValue := 0 }, { name := "serialVersionUID", type := .long, accessFlags := 26, slot := 0, constantValue := 0 }, { name := "COMPACT_STRINGS", type := .boolean, accessFlags := 24, slot := 1, constantValue := 0 }, { name := "serialPersistentFields", type := (.array (.object "java/io/ObjectStreamField")), accessFlags := 26, slot := 2, constantValue := 0 }, { name := "REPL", type := .char, accessFlags := 26, slot := 3, constantValue := 0 }, { name := "CASE_INSENSITIVE_ORDER", type := (.object "java/util/Comparator"), accessFlags := 25, slot := 4, constantValue := 0 }, { name := "LATIN1", type := .byte, accessFlags := 24, slot := 5, constantValue := 0 }, { name := "UTF16", type := .byte, accessFlags := 24, slot := 6, constantValue := 0 }]
  methods := #[k7m0, k7m1, k7m2, k7m3, k7m4, k7m5]
  instanceTypes := #[(.array .byte), .byte, .int, .boolean]
  staticTypes := #[.long, .boolean, (.array (.object "java/io/ObjectStreamField")), .char, (.object "java/util/Comparator"), .byte, .byte]
  resolved := Array.replicate 1451 none
  statics := some 0 }

def pool8 : Array CpInfo := pool [(3, .class_ 4), (0, u "java/lang/String"), (1, .class_ 8), (1, u "java/lang/Object"), (0, u "<init>"), (0, u "()V"), (0, .methodref 12 13), (0, .class_ 14), (0, .nameAndType 15 16), (0, u "java/lang/StringUTF16"), (0, u "newBytesLength"), (0, u "(I)I"), (3, .integer 1073741823), (23, .fieldref 12 45), (0, .nameAndType 46 47), (0, u "$assertionsDisabled"), (0, u "Z"), (0, .methodref 12 49), (0, .nameAndType 50 51), (0, u "length"), (0, u "([B)I"), (7, .fieldref 12 60), (0, .nameAndType 61 62), (0, u "HI_BYTE_SHIFT"), (0, u "I"), (0, .fieldref 12 64), (0, .nameAndType 65 62), (0, u "LO_BYTE_SHIFT"), (1, .methodref 12 68), (0, .nameAndType 69 70), (0, u "checkIndex"), (0, u "(I[B)V"), (0, .methodref 12 72), (0, .nameAndType 73 74), (0, u "getChar"), (0, u "([BI)C"), (32, .methodref 12 108), (0, .nameAndType 109 110), (0, u "newBytesFor"), (0, u "(I)[B"), (0, .methodref 12 112), (0, .nameAndType 113 114), (0, u "putChar"), (0, u "([BII)V"), (0, .methodref 12 116), (0, .nameAndType 117 118), (0, u "compress"), (0, u "([CI[BII)I"), (0, .methodref 12 120), (0, .nameAndType 121 122), (0, u "toBytes"), (0, u "([CII)[B"), (138, u "coderFromArrayLen"), (0, u "([BI)B"), (106, .class_ 371), (1, u "java/lang/StringUTF16$LinesSpliterator"), (20, u "charAt"), (21, .methodref 3 415), (0, .nameAndType 69 416), (0, u "(II)V"), (13, u "MAX_LENGTH"), (196, .class_ 628), (0, u "java/lang/StringUTF16$CodePointsSpliterator"), (0, .class_ 630), (0, u "java/lang/StringUTF16$CharsSpliterator")] 4

def k8m0 : Method := { name := "<init>", desc := "()V", sig := { parameters := [], returnType := none }, accessFlags := 0, code := none }
def k8c1 : Code := { maxStack := 1, maxLocals := 1, code := jdk_52_method_2_code, exceptionTable := #[], attributes := #[] }
def k8m1 : Method := { name := "newBytesFor", desc := "(I)[B", sig := { parameters := [.int], returnType := some (.array .byte) }, accessFlags := 9, code := some k8c1 }
def k8c2 : Code := { maxStack := 4, maxLocals := 1, code := jdk_52_method_3_code, exceptionTable := #[], attributes := #[] }
def k8m2 : Method := { name := "newBytesLength", desc := "(I)I", sig := { parameters := [.int], returnType := some .int }, accessFlags := 9, code := some k8c2 }
def k8c3 : Code := { maxStack := 4, maxLocals := 3, code := jdk_52_method_4_code, exceptionTable := #[], attributes := #[] }
def k8m3 : Method := { name := "putChar", desc := "([BII)V", sig := { parameters := [(.array .byte), .int, .int], returnType := none }, accessFlags := 8, code := some k8c3 }
def k8c4 : Code := { maxStack := 3, maxLocals := 2, code := jdk_52_method_5_code, exceptionTable := #[], attributes := #[] }
def k8m4 : Method := { name := "getChar", desc := "([BI)C", sig := { parameters := [(.array .byte), .int], returnType := some .char }, accessFlags := 8, code := some k8c4 }
def k8c5 : Code := { maxStack := 2, maxLocals := 1, code := jdk_52_method_6_code, exceptionTable := #[], attributes := #[] }
def k8m5 : Method := { name := "length", desc := "([B)I", sig := { parameters := [(.array .byte)], returnType := some .int }, accessFlags := 9, code := some k8c5 }
def k8c6 : Code := { maxStack := 4, maxLocals := 5, code := jdk_52_method_14_code, exceptionTable := #[], attributes := #[] }
def k8m6 : Method := { name := "toBytes", desc := "([CII)[B", sig := { parameters := [(.array .char), .int, .int], returnType := some (.array .byte) }, accessFlags := 9, code := some k8c6 }
def k8c7 : Code := { maxStack := 2, maxLocals := 2, code := jdk_52_method_15_code, exceptionTable := #[], attributes := #[] }
def k8m7 : Method := { name := "coderFromArrayLen", desc := "([BI)B", sig := { parameters := [(.array .byte), .int], returnType := some .byte }, accessFlags := 8, code := some k8c7 }
def k8c8 : Code := { maxStack := 5, maxLocals := 6, code := jdk_52_method_16_code, exceptionTable := #[], attributes := #[] }
def k8m8 : Method := { name := "compress", desc := "([CII)[B", sig := { parameters := [(.array .char), .int, .int], returnType := some (.array .byte) }, accessFlags := 9, code := some k8c8 }
def k8c9 : Code := { maxStack := 3, maxLocals := 7, code := jdk_52_method_21_code, exceptionTable := #[], attributes := #[] }
def k8m9 : Method := { name := "compress", desc := "([CI[BII)I", sig := { parameters := [(.array .char), .int, (.array .byte), .int, .int], returnType := some .int }, accessFlags := 9, code := some k8c9 }
def k8c10 : Code := { maxStack := 2, maxLocals := 2, code := jdk_52_method_83_code, exceptionTable := #[], attributes := #[] }
def k8m10 : Method := { name := "charAt", desc := "([BI)C", sig := { parameters := [(.array .byte), .int], returnType := some .char }, accessFlags := 9, code := some k8c10 }
def k8c11 : Code := { maxStack := 2, maxLocals := 2, code := jdk_52_method_91_code, exceptionTable := #[], attributes := #[] }
def k8m11 : Method := { name := "checkIndex", desc := "(I[B)V", sig := { parameters := [.int, (.array .byte)], returnType := none }, accessFlags := 9, code := some k8c11 }
/-- java/lang/StringUTF16 -/
def k8 : Class := { plain "java/lang/StringUTF16" (some 0) with
  accessFlags := 48
  interfaces := #[]
  cf := some (fileOf pool8 12 #[.nestMembers #[627, 629, 369]] #[{ accessFlags := 0, nameIndex := 9, descriptorIndex := 10, attributes := #[] }, { accessFlags := 9, nameIndex := 109, descriptorIndex := 110, attributes := #[] }, { accessFlags := 9, nameIndex := 15, descriptorIndex := 16, attributes := #[] }, { accessFlags := 8, nameIndex := 113, descriptorIndex := 114, attributes := #[] }, { accessFlags := 8, nameIndex := 73, descriptorIndex := 74, attributes := #[] }, { accessFlags := 9, nameIndex := 50, descriptorIndex := 51, attributes := #[] }, { accessFlags := 9, nameIndex := 121, descriptorIndex := 122, attributes := #[] }, { accessFlags := 8, nameIndex := 261, descriptorIndex := 262, attributes := #[] }, { accessFlags := 9, nameIndex := 117, descriptorIndex := 122, attributes := #[] }, { accessFlags := 9, nameIndex := 117, descriptorIndex := 118, attributes := #[] }, { accessFlags := 9, nameIndex := 392, descriptorIndex := 74, attributes := #[] }, { accessFlags := 9, nameIndex := 69, descriptorIndex := 70, attributes := #[] }] 48 6 #[] #[{ accessFlags := 26, nameIndex := 61, descriptorIndex := 62, attributes := #[] }, { accessFlags := 26, nameIndex := 65, descriptorIndex := 62, attributes := #[] }, { accessFlags := 24, nameIndex := 430, descriptorIndex := 62, attributes := #[] }, { accessFlags := 4120, nameIndex := 46, descriptorIndex := 47, attributes := #[] }])
  fields := #[{ name := "HI_BYTE_SHIFT", type := .int, accessFlags := 26, slot := 0, constantValue := 0 }, { name := "LO_BYTE_SHIFT", type := .int, accessFlags := 26, slot := 1, constantValue := 0 }, { name := "MAX_LENGTH", type := .int, accessFlags := 24, slot := 2, constantValue := 0 }, { name := "$assertionsDisabled", type := .boolean, accessFlags := 4120, slot := 3, constantValue := 0 }]
  methods := #[k8m0, k8m1, k8m2, k8m3, k8m4, k8m5, k8m6, k8m7, k8m8, k8m9, k8m10, k8m11]
  instanceTypes := #[]
  staticTypes := #[.int, .int, .int, .boolean]
  resolved := Array.replicate 635 none
  statics := some 1 }

def pool9 : Array CpInfo := pool [(2, .class_ 4), (1, u "java/lang/Object"), (0, u "<init>"), (0, u "()V"), (0, .class_ 8), (0, u "com/example/pencilmark/pencilmark/line/PuzzleLine"), (9, .class_ 20), (1, u "java/lang/String"), (1, u "()I"), (3, u "(I)C"), (12, u "parse"), (0, u "(Ljava/lang/String;J)Lcom/example/pencilmark/pencilmark/grid/Grid;"), (0, .fieldref 7 42), (0, .nameAndType 43 44), (0, u "SHAPE"), (0, u "Lcom/example/pencilmark/pencilmark/grid/Shape;"), (0, .methodref 46 47), (0, .class_ 48), (0, .nameAndType 49 22), (0, u "com/example/pencilmark/pencilmark/grid/Shape"), (0, u "cellCount"), (9, .methodref 18 60), (0, .nameAndType 61 26), (0, u "charAt"), (0, .fieldref 7 63), (0, .nameAndType 64 65), (0, u "READS_AS"), (0, u "[B"), (11, .methodref 78 79), (0, .class_ 80), (0, .nameAndType 81 82), (0, u "com/example/pencilmark/pencilmark/grid/Grid"), (0, u "of"), (0, u "(Lcom/example/pencilmark/pencilmark/grid/Shape;[I)Lcom/example/pencilmark/pencilmark/grid/Grid;"), (11, u "WRITTEN_AS"), (0, u "[C"), (32, u "LONGEST"), (0, u "I"), (6, u "SYMBOLS"), (0, u "Ljava/lang/String;"), (1, u "BLANKS"), (0, u "BLANK_WRITTEN"), (0, u "C"), (1, u "NOT_A_CELL"), (0, u "B")] 32

def k9m0 : Method := { name := "<init>", desc := "()V", sig := { parameters := [], returnType := none }, accessFlags := 2, code := none }
def k9c1 : Code := { maxStack := 5, maxLocals := 7, code := prog_15_method_4_code, exceptionTable := #[], attributes := #[] }
def k9m1 : Method := { name := "parse", desc := "(Ljava/lang/String;J)Lcom/example/pencilmark/pencilmark/grid/Grid;", sig := { parameters := [(.object "java/lang/String"), .long], returnType := some (.object "com/example/pencilmark/pencilmark/grid/Grid") }, accessFlags := 8, code := some k9c1 }
/-- com/example/pencilmark/pencilmark/line/PuzzleLine -/
def k9 : Class := { plain "com/example/pencilmark/pencilmark/line/PuzzleLine" (some 0) with
  accessFlags := 49
  interfaces := #[]
  cf := some (fileOf pool9 7 #[] #[{ accessFlags := 2, nameIndex := 5, descriptorIndex := 6, attributes := #[] }, { accessFlags := 8, nameIndex := 39, descriptorIndex := 40, attributes := #[] }] 49 2 #[] #[{ accessFlags := 26, nameIndex := 43, descriptorIndex := 44, attributes := #[] }, { accessFlags := 26, nameIndex := 136, descriptorIndex := 137, attributes := #[] }, { accessFlags := 26, nameIndex := 139, descriptorIndex := 137, attributes := #[] }, { accessFlags := 26, nameIndex := 140, descriptorIndex := 141, attributes := #[] }, { accessFlags := 24, nameIndex := 128, descriptorIndex := 129, attributes := #[] }, { accessFlags := 26, nameIndex := 143, descriptorIndex := 144, attributes := #[] }, { accessFlags := 26, nameIndex := 64, descriptorIndex := 65, attributes := #[] }, { accessFlags := 26, nameIndex := 94, descriptorIndex := 95, attributes := #[] }])
  fields := #[{ name := "SHAPE", type := (.object "com/example/pencilmark/pencilmark/grid/Shape"), accessFlags := 26, slot := 0, constantValue := 0 }, { name := "SYMBOLS", type := (.object "java/lang/String"), accessFlags := 26, slot := 1, constantValue := 0 }, { name := "BLANKS", type := (.object "java/lang/String"), accessFlags := 26, slot := 2, constantValue := 0 }, { name := "BLANK_WRITTEN", type := .char, accessFlags := 26, slot := 3, constantValue := 0 }, { name := "LONGEST", type := .int, accessFlags := 24, slot := 4, constantValue := 0 }, { name := "NOT_A_CELL", type := .byte, accessFlags := 26, slot := 5, constantValue := 0 }, { name := "READS_AS", type := (.array .byte), accessFlags := 26, slot := 6, constantValue := 0 }, { name := "WRITTEN_AS", type := (.array .char), accessFlags := 26, slot := 7, constantValue := 0 }]
  methods := #[k9m0, k9m1]
  instanceTypes := #[]
  staticTypes := #[(.object "com/example/pencilmark/pencilmark/grid/Shape"), (.object "java/lang/String"), (.object "java/lang/String"), .char, .int, .byte, (.array .byte), (.array .char)]
  resolved := Array.replicate 177 none
  statics := some 2 }

def pool10 : Array CpInfo := pool [(2, .class_ 4), (1, u "java/lang/Object"), (2, .fieldref 8 9), (0, .class_ 10), (0, .nameAndType 11 12), (0, u "com/example/pencilmark/pencilmark/grid/Shape"), (0, u "side"), (0, u "I"), (2, u "units"), (0, u "[I"), (2, u "KINDS"), (0, u "[Lcom/example/pencilmark/pencilmark/grid/UnitKind;"), (2, u "unitsOfCell"), (2, u "indicesOfCell"), (3, u "()I"), (6, u "peerCount"), (2, u "peers"), (4, u "cellWords"), (2, u "everyCell"), (0, u "[J"), (2, u "unitSets"), (2, u "peerSets"), (14, u "NINE"), (0, u "Lcom/example/pencilmark/pencilmark/grid/Shape;"), (5, u "cellCount")] 22

def k10c0 : Code := { maxStack := 1, maxLocals := 1, code := prog_12_method_2_code, exceptionTable := #[], attributes := #[] }
def k10m0 : Method := { name := "side", desc := "()I", sig := { parameters := [], returnType := some .int }, accessFlags := 1, code := some k10c0 }
def k10c1 : Code := { maxStack := 2, maxLocals := 1, code := prog_12_method_3_code, exceptionTable := #[], attributes := #[] }
def k10m1 : Method := { name := "cellCount", desc := "()I", sig := { parameters := [], returnType := some .int }, accessFlags := 1, code := some k10c1 }
/-- com/example/pencilmark/pencilmark/grid/Shape -/
def k10 : Class := { plain "com/example/pencilmark/pencilmark/grid/Shape" (some 0) with
  accessFlags := 49
  interfaces := #[]
  cf := some (fileOf pool10 8 #[] #[{ accessFlags := 1, nameIndex := 11, descriptorIndex := 30, attributes := #[] }, { accessFlags := 1, nameIndex := 77, descriptorIndex := 30, attributes := #[] }] 49 2 #[] #[{ accessFlags := 26, nameIndex := 19, descriptorIndex := 20, attributes := #[] }, { accessFlags := 25, nameIndex := 70, descriptorIndex := 71, attributes := #[] }, { accessFlags := 18, nameIndex := 11, descriptorIndex := 12, attributes := #[] }, { accessFlags := 18, nameIndex := 15, descriptorIndex := 16, attributes := #[] }, { accessFlags := 18, nameIndex := 23, descriptorIndex := 16, attributes := #[] }, { accessFlags := 18, nameIndex := 26, descriptorIndex := 16, attributes := #[] }, { accessFlags := 18, nameIndex := 37, descriptorIndex := 12, attributes := #[] }, { accessFlags := 18, nameIndex := 40, descriptorIndex := 16, attributes := #[] }, { accessFlags := 18, nameIndex := 45, descriptorIndex := 12, attributes := #[] }, { accessFlags := 18, nameIndex := 55, descriptorIndex := 49, attributes := #[] }, { accessFlags := 18, nameIndex := 52, descriptorIndex := 49, attributes := #[] }, { accessFlags := 18, nameIndex := 48, descriptorIndex := 49, attributes := #[] }])
  fields := #[{ name := "KINDS", type := (.array (.object "com/example/pencilmark/pencilmark/grid/UnitKind")), accessFlags := 26, slot := 0, constantValue := 0 }, { name := "NINE", type := (.object "com/example/pencilmark/pencilmark/grid/Shape"), accessFlags := 25, slot := 1, constantValue := 0 }, { name := "side", type := .int, accessFlags := 18, slot := 0, constantValue := 0 }, { name := "units", type := (.array .int), accessFlags := 18, slot := 1, constantValue := 0 }, { name := "unitsOfCell", type := (.array .int), accessFlags := 18, slot := 2, constantValue := 0 }, { name := "indicesOfCell", type := (.array .int), accessFlags := 18, slot := 3, constantValue := 0 }, { name := "peerCount", type := .int, accessFlags := 18, slot := 4, constantValue := 0 }, { name := "peers", type := (.array .int), accessFlags := 18, slot := 5, constantValue := 0 }, { name := "cellWords", type := .int, accessFlags := 18, slot := 6, constantValue := 0 }, { name := "peerSets", type := (.array .long), accessFlags := 18, slot := 7, constantValue := 0 }, { name := "unitSets", type := (.array .long), accessFlags := 18, slot := 8, constantValue := 0 }, { name := "everyCell", type := (.array .long), accessFlags := 18, slot := 9, constantValue := 0 }]
  methods := #[k10m0, k10m1]
  instanceTypes := #[.int, (.array .int), (.array .int), (.array .int), .int, (.array .int), .int, (.array .long), (.array .long), (.array .long)]
  staticTypes := #[(.array (.object "com/example/pencilmark/pencilmark/grid/UnitKind")), (.object "com/example/pencilmark/pencilmark/grid/Shape")]
  resolved := Array.replicate 100 none
  statics := some 3 }

def pool11 : Array CpInfo := pool [(1, .class_ 2), (0, u "java/lang/String"), (1, .class_ 6), (1, u "java/lang/Object"), (0, u "<init>"), (0, u "()V"), (0, .methodref 1 10), (0, .nameAndType 11 12), (0, u "checkIndex"), (0, u "(II)V"), (1, .class_ 16), (1, u "java/lang/StringLatin1"), (36, u "([BI)C"), (67, u "$assertionsDisabled"), (0, u "Z"), (98, .class_ 223), (1, u "java/lang/StringLatin1$LinesSpliterator"), (28, u "charAt"), (137, .class_ 391), (0, u "java/lang/StringLatin1$CharsSpliterator")] 3

def k11m0 : Method := { name := "<init>", desc := "()V", sig := { parameters := [], returnType := none }, accessFlags := 0, code := none }
def k11c1 : Code := { maxStack := 2, maxLocals := 2, code := jdk_43_method_2_code, exceptionTable := #[], attributes := #[] }
def k11m1 : Method := { name := "charAt", desc := "([BI)C", sig := { parameters := [(.array .byte), .int], returnType := some .char }, accessFlags := 9, code := some k11c1 }
/-- java/lang/StringLatin1 -/
def k11 : Class := { plain "java/lang/StringLatin1" (some 0) with
  accessFlags := 48
  interfaces := #[]
  cf := some (fileOf pool11 14 #[.nestMembers #[390, 221]] #[{ accessFlags := 0, nameIndex := 7, descriptorIndex := 8, attributes := #[] }, { accessFlags := 9, nameIndex := 252, descriptorIndex := 53, attributes := #[] }] 48 4 #[] #[{ accessFlags := 4120, nameIndex := 121, descriptorIndex := 122, attributes := #[] }])
  fields := #[{ name := "$assertionsDisabled", type := .boolean, accessFlags := 4120, slot := 0, constantValue := 0 }]
  methods := #[k11m0, k11m1]
  instanceTypes := #[]
  staticTypes := #[.boolean]
  resolved := Array.replicate 395 none
  statics := none }

def pool12 : Array CpInfo := pool [(2, .class_ 4), (1, u "java/lang/Object"), (0, u "<init>"), (0, u "()V"), (17, .class_ 26), (1, u "jdk/internal/util/Preconditions"), (6, u "checkIndex"), (21, .class_ 56), (0, u "jdk/internal/util/Preconditions$4"), (57, .class_ 115), (0, u "jdk/internal/util/Preconditions$1"), (7, u "SIOOBE_FORMATTER"), (0, u "Ljava/util/function/BiFunction;"), (0, .class_ 126), (0, u "jdk/internal/util/Preconditions$2"), (3, u "AIOOBE_FORMATTER"), (0, .class_ 132), (0, u "jdk/internal/util/Preconditions$3"), (3, u "IOOBE_FORMATTER"), (41, u "(IILjava/util/function/BiFunction;)I")] 15

def k12m0 : Method := { name := "<init>", desc := "()V", sig := { parameters := [], returnType := none }, accessFlags := 1, code := none }
def k12c1 : Code := { maxStack := 3, maxLocals := 3, code := jdk_41_method_11_code, exceptionTable := #[], attributes := #[] }
def k12m1 : Method := { name := "checkIndex", desc := "(IILjava/util/function/BiFunction;)I", sig := { parameters := [.int, .int, (.object "java/util/function/BiFunction")], returnType := some .int }, accessFlags := 9, code := some k12c1 }
/-- jdk/internal/util/Preconditions -/
def k12 : Class := { plain "jdk/internal/util/Preconditions" (some 0) with
  accessFlags := 33
  interfaces := #[]
  cf := some (fileOf pool12 24 #[.nestMembers #[55, 131, 125, 114]] #[{ accessFlags := 1, nameIndex := 5, descriptorIndex := 6, attributes := #[] }, { accessFlags := 9, nameIndex := 33, descriptorIndex := 178, attributes := #[] }] 33 2 #[] #[{ accessFlags := 25, nameIndex := 123, descriptorIndex := 124, attributes := #[] }, { accessFlags := 25, nameIndex := 130, descriptorIndex := 124, attributes := #[] }, { accessFlags := 25, nameIndex := 136, descriptorIndex := 124, attributes := #[] }])
  fields := #[{ name := "SIOOBE_FORMATTER", type := (.object "java/util/function/BiFunction"), accessFlags := 25, slot := 0, constantValue := 0 }, { name := "AIOOBE_FORMATTER", type := (.object "java/util/function/BiFunction"), accessFlags := 25, slot := 1, constantValue := 0 }, { name := "IOOBE_FORMATTER", type := (.object "java/util/function/BiFunction"), accessFlags := 25, slot := 2, constantValue := 0 }]
  methods := #[k12m0, k12m1]
  instanceTypes := #[]
  staticTypes := #[(.object "java/util/function/BiFunction"), (.object "java/util/function/BiFunction"), (.object "java/util/function/BiFunction")]
  resolved := Array.replicate 194 none
  statics := some 4 }

def pool13 : Array CpInfo := pool [(1, .methodref 2 3), (0, .class_ 4), (0, .nameAndType 5 6), (0, u "java/lang/Object"), (0, u "<init>"), (0, u "()V"), (0, .fieldref 8 9), (0, .class_ 10), (0, .nameAndType 11 12), (0, u "com/example/pencilmark/pencilmark/grid/Grid"), (0, u "shape"), (0, u "Lcom/example/pencilmark/pencilmark/grid/Shape;"), (0, .fieldref 8 14), (0, .nameAndType 15 16), (0, u "digits"), (0, u "[I"), (0, .methodref 18 19), (0, .class_ 16), (0, .nameAndType 20 21), (0, u "clone"), (0, u "()Ljava/lang/Object;"), (0, .methodref 23 24), (0, .class_ 25), (0, .nameAndType 26 27), (0, u "com/example/pencilmark/pencilmark/grid/Shape"), (0, u "cellCount"), (0, u "()I"), (9, .methodref 23 38), (0, .nameAndType 39 27), (0, u "side"), (1, .methodref 8 42), (0, .nameAndType 5 43), (0, u "(Lcom/example/pencilmark/pencilmark/grid/Shape;[I)V"), (12, u "of"), (0, u "(Lcom/example/pencilmark/pencilmark/grid/Shape;[I)Lcom/example/pencilmark/pencilmark/grid/Grid;"), (1, u "()Lcom/example/pencilmark/pencilmark/grid/Shape;"), (0, u "digit"), (0, u "(I)I")] 20

def k13c0 : Code := { maxStack := 2, maxLocals := 3, code := prog_11_method_1_code, exceptionTable := #[], attributes := #[] }
def k13m0 : Method := { name := "<init>", desc := "(Lcom/example/pencilmark/pencilmark/grid/Shape;[I)V", sig := { parameters := [(.object "com/example/pencilmark/pencilmark/grid/Shape"), (.array .int)], returnType := none }, accessFlags := 2, code := some k13c0 }
def k13c1 : Code := { maxStack := 4, maxLocals := 4, code := prog_11_method_2_code, exceptionTable := #[], attributes := #[] }
def k13m1 : Method := { name := "of", desc := "(Lcom/example/pencilmark/pencilmark/grid/Shape;[I)Lcom/example/pencilmark/pencilmark/grid/Grid;", sig := { parameters := [(.object "com/example/pencilmark/pencilmark/grid/Shape"), (.array .int)], returnType := some (.object "com/example/pencilmark/pencilmark/grid/Grid") }, accessFlags := 137, code := some k13c1 }
def k13c2 : Code := { maxStack := 1, maxLocals := 1, code := prog_11_method_3_code, exceptionTable := #[], attributes := #[] }
def k13m2 : Method := { name := "shape", desc := "()Lcom/example/pencilmark/pencilmark/grid/Shape;", sig := { parameters := [], returnType := some (.object "com/example/pencilmark/pencilmark/grid/Shape") }, accessFlags := 1, code := some k13c2 }
def k13c3 : Code := { maxStack := 2, maxLocals := 2, code := prog_11_method_4_code, exceptionTable := #[], attributes := #[] }
def k13m3 : Method := { name := "digit", desc := "(I)I", sig := { parameters := [.int], returnType := some .int }, accessFlags := 1, code := some k13c3 }
/-- com/example/pencilmark/pencilmark/grid/Grid -/
def k13 : Class := { plain "com/example/pencilmark/pencilmark/grid/Grid" (some 0) with
  accessFlags := 49
  interfaces := #[]
  cf := some (fileOf pool13 8 #[] #[{ accessFlags := 2, nameIndex := 5, descriptorIndex := 43, attributes := #[] }, { accessFlags := 137, nameIndex := 56, descriptorIndex := 57, attributes := #[] }, { accessFlags := 1, nameIndex := 11, descriptorIndex := 59, attributes := #[] }, { accessFlags := 1, nameIndex := 60, descriptorIndex := 61, attributes := #[] }] 49 2 #[] #[{ accessFlags := 18, nameIndex := 11, descriptorIndex := 12, attributes := #[] }, { accessFlags := 18, nameIndex := 15, descriptorIndex := 16, attributes := #[] }])
  fields := #[{ name := "shape", type := (.object "com/example/pencilmark/pencilmark/grid/Shape"), accessFlags := 18, slot := 0, constantValue := 0 }, { name := "digits", type := (.array .int), accessFlags := 18, slot := 1, constantValue := 0 }]
  methods := #[k13m0, k13m1, k13m2, k13m3]
  instanceTypes := #[(.object "com/example/pencilmark/pencilmark/grid/Shape"), (.array .int)]
  staticTypes := #[]
  resolved := Array.replicate 82 none
  statics := none }

def pool14 : Array CpInfo := pool [(1, .class_ 2), (0, u "java/lang/Cloneable"), (0, .class_ 4), (0, u "java/lang/Object")] 2

/-- java/lang/Cloneable -/
def k14 : Class := { plain "java/lang/Cloneable" (some 0) with
  accessFlags := 1537
  interfaces := #[]
  cf := some (fileOf pool14 1 #[] #[] 1537 3 #[] #[])
  fields := #[]
  methods := #[]
  instanceTypes := #[]
  staticTypes := #[]
  resolved := Array.replicate 7 none
  statics := none }

def pool15 : Array CpInfo := pool [(9, u "<init>"), (6, .class_ 18), (1, u "java/lang/Object"), (0, u "()V"), (1, .class_ 23), (1, u "jdk/internal/util/ArraysSupport"), (0, u "LOG2_ARRAY_LONG_INDEX_SCALE"), (0, u "I"), (2, u "U"), (0, u "Ljdk/internal/misc/Unsafe;"), (8, u "BIG_ENDIAN"), (0, u "Z"), (8, u "LOG2_BYTE_BIT_SIZE"), (4, u "LOG2_ARRAY_INT_INDEX_SCALE"), (54, u "JLA"), (0, u "Ljdk/internal/access/JavaLangAccess;"), (11, u "LOG2_ARRAY_BOOLEAN_INDEX_SCALE"), (9, u "LOG2_ARRAY_BYTE_INDEX_SCALE"), (5, u "LOG2_ARRAY_CHAR_INDEX_SCALE"), (5, u "LOG2_ARRAY_SHORT_INDEX_SCALE"), (18, u "LOG2_ARRAY_FLOAT_INDEX_SCALE"), (24, u "LOG2_ARRAY_DOUBLE_INDEX_SCALE"), (89, u "T_BOOLEAN"), (2, u "T_CHAR"), (1, u "T_FLOAT"), (1, u "T_DOUBLE"), (1, u "T_BYTE"), (1, u "T_SHORT"), (1, u "T_INT"), (1, u "T_LONG"), (1, u "SOFT_MAX_ARRAY_LENGTH")] 83

def k15m0 : Method := { name := "<init>", desc := "()V", sig := { parameters := [], returnType := none }, accessFlags := 2, code := none }
/-- jdk/internal/util/ArraysSupport -/
def k15 : Class := { plain "jdk/internal/util/ArraysSupport" (some 0) with
  accessFlags := 33
  interfaces := #[]
  cf := some (fileOf pool15 21 #[] #[{ accessFlags := 2, nameIndex := 9, descriptorIndex := 19, attributes := #[] }] 33 16 #[] #[{ accessFlags := 24, nameIndex := 28, descriptorIndex := 29, attributes := #[] }, { accessFlags := 26, nameIndex := 38, descriptorIndex := 39, attributes := #[] }, { accessFlags := 25, nameIndex := 121, descriptorIndex := 25, attributes := #[] }, { accessFlags := 25, nameIndex := 131, descriptorIndex := 25, attributes := #[] }, { accessFlags := 25, nameIndex := 137, descriptorIndex := 25, attributes := #[] }, { accessFlags := 25, nameIndex := 143, descriptorIndex := 25, attributes := #[] }, { accessFlags := 25, nameIndex := 53, descriptorIndex := 25, attributes := #[] }, { accessFlags := 25, nameIndex := 24, descriptorIndex := 25, attributes := #[] }, { accessFlags := 25, nameIndex := 162, descriptorIndex := 25, attributes := #[] }, { accessFlags := 25, nameIndex := 187, descriptorIndex := 25, attributes := #[] }, { accessFlags := 26, nameIndex := 48, descriptorIndex := 25, attributes := #[] }, { accessFlags := 25, nameIndex := 277, descriptorIndex := 25, attributes := #[] }, { accessFlags := 25, nameIndex := 280, descriptorIndex := 25, attributes := #[] }, { accessFlags := 25, nameIndex := 282, descriptorIndex := 25, attributes := #[] }, { accessFlags := 25, nameIndex := 284, descriptorIndex := 25, attributes := #[] }, { accessFlags := 25, nameIndex := 286, descriptorIndex := 25, attributes := #[] }, { accessFlags := 25, nameIndex := 288, descriptorIndex := 25, attributes := #[] }, { accessFlags := 25, nameIndex := 290, descriptorIndex := 25, attributes := #[] }, { accessFlags := 25, nameIndex := 292, descriptorIndex := 25, attributes := #[] }, { accessFlags := 26, nameIndex := 108, descriptorIndex := 109, attributes := #[] }, { accessFlags := 25, nameIndex := 294, descriptorIndex := 25, attributes := #[] }])
  fields := #[{ name := "U", type := (.object "jdk/internal/misc/Unsafe"), accessFlags := 24, slot := 0, constantValue := 0 }, { name := "BIG_ENDIAN", type := .boolean, accessFlags := 26, slot := 1, constantValue := 0 }, { name := "LOG2_ARRAY_BOOLEAN_INDEX_SCALE", type := .int, accessFlags := 25, slot := 2, constantValue := 0 }, { name := "LOG2_ARRAY_BYTE_INDEX_SCALE", type := .int, accessFlags := 25, slot := 3, constantValue := 0 }, { name := "LOG2_ARRAY_CHAR_INDEX_SCALE", type := .int, accessFlags := 25, slot := 4, constantValue := 0 }, { name := "LOG2_ARRAY_SHORT_INDEX_SCALE", type := .int, accessFlags := 25, slot := 5, constantValue := 0 }, { name := "LOG2_ARRAY_INT_INDEX_SCALE", type := .int, accessFlags := 25, slot := 6, constantValue := 0 }, { name := "LOG2_ARRAY_LONG_INDEX_SCALE", type := .int, accessFlags := 25, slot := 7, constantValue := 0 }, { name := "LOG2_ARRAY_FLOAT_INDEX_SCALE", type := .int, accessFlags := 25, slot := 8, constantValue := 0 }, { name := "LOG2_ARRAY_DOUBLE_INDEX_SCALE", type := .int, accessFlags := 25, slot := 9, constantValue := 0 }, { name := "LOG2_BYTE_BIT_SIZE", type := .int, accessFlags := 26, slot := 10, constantValue := 0 }, { name := "T_BOOLEAN", type := .int, accessFlags := 25, slot := 11, constantValue := 0 }, { name := "T_CHAR", type := .int, accessFlags := 25, slot := 12, constantValue := 0 }, { name := "T_FLOAT", type := .int, accessFlags := 25, slot := 13, constantValue := 0 }, { name := "T_DOUBLE", type := .int, accessFlags := 25, slot := 14, constantValue := 0 }, { name := "T_BYTE", type := .int, accessFlags := 25, slot := 15, constantValue := 0 }, { name := "T_SHORT", type := .int, accessFlags := 25, slot := 16, constantValue := 0 }, { name := "T_INT", type := .int, accessFlags := 25, slot := 17, constantValue := 0 }, { name := "T_LONG", type := .int, accessFlags := 25, slot := 18, constantValue := 0 }, { name := "JLA", type := (.object "jdk/internal/access/JavaLangAccess"), accessFlags := 26, slot := 19, constantValue := 0 }, { name := "SOFT_MAX_ARRAY_LENGTH", type := .int, accessFlags := 25, slot := 20, constantValue := 0 }]
  methods := #[k15m0]
  instanceTypes := #[]
  staticTypes := #[(.object "jdk/internal/misc/Unsafe"), .boolean, .int, .int, .int, .int, .int, .int, .int, .int, .int, .int, .int, .int, .int, .int, .int, .int, .int, (.object "jdk/internal/access/JavaLangAccess"), .int]
  resolved := Array.replicate 378 none
  statics := none }

/-- the primitive byte -/
def k16 : Class := { plain "byte" none with kind := .primitive 'B', accessFlags := 0x411 }
/-- [B -/
def k17 : Class := { plain "[B" (some 0) with kind := .array 16 .byte, interfaces := #[14, 2], accessFlags := 1041 }

/-- the primitive char -/
def k18 : Class := { plain "char" none with kind := .primitive 'C', accessFlags := 0x411 }
/-- [C -/
def k19 : Class := { plain "[C" (some 0) with kind := .array 18 .char, interfaces := #[14, 2], accessFlags := 1041 }

/-- the primitive int -/
def k20 : Class := { plain "int" none with kind := .primitive 'I', accessFlags := 0x411 }
/-- [I -/
def k21 : Class := { plain "[I" (some 0) with kind := .array 20 .int, interfaces := #[14, 2], accessFlags := 1041 }

def heap : Heap := #[{ cls := 7, slots := #[.long 0, .int 1, .null, .int 0, .null, .int 0, .int 0], vm := .statics 7 },
  { cls := 8, slots := #[.int 0, .int 8, .int 0, .int 1], vm := .statics 8 },
  { cls := 9, slots := #[.ref 5, .null, .null, .int 0, .int 0, .int 0, .ref 6, .null], vm := .statics 9 },
  { cls := 10, slots := #[.null, .ref 5], vm := .statics 10 },
  { cls := 12, slots := #[.null, .null, .null], vm := .statics 12 },
  { cls := 10, slots := #[.int 9, .null, .null, .null, .int 0, .null, .int 0, .null, .null, .null], vm := .none },
  { cls := 17, slots := #[.int (-1), .int (-1), .int (-1), .int (-1), .int (-1), .int (-1), .int (-1), .int (-1), .int (-1), .int (-1), .int (-1), .int (-1), .int (-1), .int (-1), .int (-1), .int (-1), .int (-1), .int (-1), .int (-1), .int (-1), .int (-1), .int (-1), .int (-1), .int (-1), .int (-1), .int (-1), .int (-1), .int (-1), .int (-1), .int (-1), .int (-1), .int (-1), .int (-1), .int (-1), .int (-1), .int (-1), .int (-1), .int (-1), .int (-1), .int (-1), .int (-1), .int (-1), .int (-1), .int (-1), .int (-1), .int (-1), .int 0, .int (-1), .int 0, .int 1, .int 2, .int 3, .int 4, .int 5, .int 6, .int 7, .int 8, .int 9, .int (-1), .int (-1), .int (-1), .int (-1), .int (-1), .int (-1), .int (-1), .int (-1), .int (-1), .int (-1), .int (-1), .int (-1), .int (-1), .int (-1), .int (-1), .int (-1), .int (-1), .int (-1), .int (-1), .int (-1), .int (-1), .int (-1), .int (-1), .int (-1), .int (-1), .int (-1), .int (-1), .int (-1), .int (-1), .int (-1), .int (-1), .int (-1), .int (-1), .int (-1), .int (-1), .int (-1), .int (-1), .int (-1), .int (-1), .int (-1), .int (-1), .int (-1), .int (-1), .int (-1), .int (-1), .int (-1), .int (-1), .int (-1), .int (-1), .int (-1), .int (-1), .int (-1), .int (-1), .int (-1), .int (-1), .int (-1), .int (-1), .int (-1), .int (-1), .int (-1), .int (-1), .int (-1), .int (-1), .int (-1), .int (-1), .int (-1), .int (-1), .int (-1), .int (-1), .int (-1)], vm := .none }]
def classes : Array Class := #[k0, k1, k2, k3, k4, k5, k6, k7, k8, k9, k10, k11, k12, k13, k14, k15, k16, k17, k18, k19, k20, k21]
def interned : List (Array UInt16 × Addr) := []
def slotsUsed : Nat := 162
def theMethod : MethodId := ⟨1, 4⟩
def args0 : Array Value := #[.long 5, .long 5, .int 5, .int 5, .int 5]
def aboutOver (below : List Frame) : State where
  vm := { classes := classes, interned := interned.toArray }
  heap := heap
  slotsUsed := slotsUsed
  threads := #[{ frames := .invoking theMethod args0 :: below }]
def below0 : List Frame := [.native { method := ⟨0, 0⟩, args := #[] }]
def about1 : State := aboutOver below0
def p0 : Program := .bare "" "" ""
def e0 : Env := launch0.env 0 0 0
theorem w_frames : about1.frames = Frame.invoking theMethod args0 :: below0 := rfl
set_option maxRecDepth 65536 in
theorem w_args : argsFit about1.vm theMethod args0 = true := by decide +kernel
set_option maxRecDepth 65536 in
theorem w_heap : heapFits about1 = true := by decide +kernel
set_option maxRecDepth 65536 in
theorem w_runnable : about1.curStatus? = some .runnable := by decide +kernel
set_option maxRecDepth 65536 in
theorem w_alone : about1.alone = true := by decide +kernel
set_option maxRecDepth 65536 in
theorem w_named : about1.methodNamed? x = some theMethod := by decide +kernel
set_option maxRecDepth 65536 in
theorem w_hears : about1.hears theMethod below0 = true := by decide +kernel
set_option maxRecDepth 65536 in
theorem w_ripe : about1.ripe theMethod args0 below0 = true := by decide +kernel
theorem w_running : about1.status = .running := rfl
set_option maxRecDepth 65536 in
theorem w_room : about1.hasRoom e0.platform room_1 = true :=
  launch0.hasRoom_least _ room_1 (by decide +kernel) (by decide +kernel) (by decide +kernel) (by decide +kernel) (by decide +kernel) (by decide +kernel)
theorem allAtoms_all (ts : List Jvm.Cond) (a : Array Jvm.Value) (st : Jvm.State) : (allAtoms ts).before a st = ts.all (fun c => c.before a st) := by
  induction ts with
  | nil => rfl
  | cons c t ih =>
    show (Jvm.Cond.and c (allAtoms t)).before a st = _
    rw [Jvm.Cond.before_and, ih, List.all_cons]
def words1 : List Jvm.Cond := Jvm.Cond.code x code maxLocals ret :: tables_1
/-- a 'code' word, met by the world's own term for the bytes: nothing is compared byte by byte -/
theorem code_word {y : MethodName} {bytes : ByteArray} {mx : Nat} {rt : Option FieldType} {a : Array Value} {s : State} {m : MethodId} {meth : Method} {c : Code} (h1 : s.methodNamed? y = some m) (h2 : s.vm.method? m = some meth) (h3 : meth.code = some c) (h4 : c.code = bytes)
    (h5 : (c.maxLocals == mx && c.exceptionTable.isEmpty && decide (c.maxStack ≤ mostOperands) && decide (meth.sig.returnType = rt) && !meth.locks && decide (parseMethodDescriptor y.desc = some meth.sig)) = true) : (Jvm.Cond.code y bytes mx rt).before a s = true := by
  simp only [Bool.and_eq_true, beq_iff_eq, Bool.not_eq_true', decide_eq_true_eq] at h5
  obtain ⟨⟨⟨⟨⟨g1, g2⟩, g3⟩, g4⟩, g5⟩, g6⟩ := h5
  simp [Cond.before, Cond.holds, Cond.value, h1, h2, h3, h4, g1, g2, g3, g4, g5, g6]
def isCode : Jvm.Cond → Bool
  | .code _ _ _ _ => true
  | _ => false
theorem all_split {L : List Jvm.Cond} {P : Jvm.Cond → Bool} (h1 : L.all (fun c => isCode c || P c) = true) (h2 : ∀ c ∈ L.filter isCode, P c = true) : L.all P = true := by
  refine List.all_eq_true.mpr fun c hc => ?_
  have h := List.all_eq_true.mp h1 c hc
  rcases Bool.eq_false_or_eq_true (isCode c) with hi | hi
  · exact h2 c (List.mem_filter.mpr ⟨hc, hi⟩)
  · simpa [hi] using h
set_option maxRecDepth 65536 in
theorem w_c0 : (Jvm.Cond.code x code maxLocals ret).before args0 about1 = true := code_word (m := ⟨1, 4⟩) (meth := k1m4) (c := k1c4) (by decide +kernel) rfl rfl rfl (by decide +kernel)
set_option maxRecDepth 65536 in
theorem w_c1 : (Jvm.Cond.code ({ cls := "com/example/pencilmark/pencilmark/line/PuzzleLineParsePinLaw", name := "sym", desc := "(I)C" } : Jvm.MethodName) method_2_code (1 : Nat) (Option.some Jvm.ClassFile.FieldType.char)).before args0 about1 = true := code_word (m := ⟨1, 1⟩) (meth := k1m1) (c := k1c1) (by decide +kernel) rfl rfl rfl (by decide +kernel)
set_option maxRecDepth 65536 in
theorem w_c2 : (Jvm.Cond.code ({ cls := "java/lang/String", name := "<init>", desc := "([C)V" } : Jvm.MethodName) jdk_42_method_3_code (2 : Nat) (Option.none : Option Jvm.ClassFile.FieldType)).before args0 about1 = true := code_word (m := ⟨7, 1⟩) (meth := k7m1) (c := k7c1) (by decide +kernel) rfl rfl rfl (by decide +kernel)
set_option maxRecDepth 65536 in
theorem w_c3 : (Jvm.Cond.code ({ cls := "java/lang/String", name := "<init>", desc := "([CIILjava/lang/Void;)V" } : Jvm.MethodName) jdk_42_method_149_code (6 : Nat) (Option.none : Option Jvm.ClassFile.FieldType)).before args0 about1 = true := code_word (m := ⟨7, 3⟩) (meth := k7m3) (c := k7c3) (by decide +kernel) rfl rfl rfl (by decide +kernel)
set_option maxRecDepth 65536 in
theorem w_c4 : (Jvm.Cond.code ({ cls := "java/lang/Object", name := "<init>", desc := "()V" } : Jvm.MethodName) object_method_1_code (1 : Nat) (Option.none : Option Jvm.ClassFile.FieldType)).before args0 about1 = true := code_word (m := ⟨0, 0⟩) (meth := k0m0) (c := k0c0) (by decide +kernel) rfl rfl rfl (by decide +kernel)
set_option maxRecDepth 65536 in
theorem w_c5 : (Jvm.Cond.code ({ cls := "java/lang/StringUTF16", name := "compress", desc := "([CII)[B" } : Jvm.MethodName) jdk_52_method_16_code (6 : Nat) (Option.some (Jvm.ClassFile.FieldType.array Jvm.ClassFile.FieldType.byte))).before args0 about1 = true := code_word (m := ⟨8, 8⟩) (meth := k8m8) (c := k8c8) (by decide +kernel) rfl rfl rfl (by decide +kernel)
set_option maxRecDepth 65536 in
theorem w_c6 : (Jvm.Cond.code ({ cls := "java/lang/StringUTF16", name := "compress", desc := "([CI[BII)I" } : Jvm.MethodName) jdk_52_method_21_code (7 : Nat) (Option.some Jvm.ClassFile.FieldType.int)).before args0 about1 = true := code_word (m := ⟨8, 9⟩) (meth := k8m9) (c := k8c9) (by decide +kernel) rfl rfl rfl (by decide +kernel)
set_option maxRecDepth 65536 in
theorem w_c7 : (Jvm.Cond.code ({ cls := "java/lang/StringUTF16", name := "coderFromArrayLen", desc := "([BI)B" } : Jvm.MethodName) jdk_52_method_15_code (2 : Nat) (Option.some Jvm.ClassFile.FieldType.byte)).before args0 about1 = true := code_word (m := ⟨8, 7⟩) (meth := k8m7) (c := k8c7) (by decide +kernel) rfl rfl rfl (by decide +kernel)
set_option maxRecDepth 65536 in
theorem w_c8 : (Jvm.Cond.code ({ cls := "com/example/pencilmark/pencilmark/line/PuzzleLine", name := "parse", desc := "(Ljava/lang/String;J)Lcom/example/pencilmark/pencilmark/grid/Grid;" } : Jvm.MethodName) prog_15_method_4_code (7 : Nat) (Option.some (Jvm.ClassFile.FieldType.object "com/example/pencilmark/pencilmark/grid/Grid"))).before args0 about1 = true := code_word (m := ⟨9, 1⟩) (meth := k9m1) (c := k9c1) (by decide +kernel) rfl rfl rfl (by decide +kernel)
set_option maxRecDepth 65536 in
theorem w_c9 : (Jvm.Cond.code ({ cls := "com/example/pencilmark/pencilmark/grid/Shape", name := "cellCount", desc := "()I" } : Jvm.MethodName) prog_12_method_3_code (1 : Nat) (Option.some Jvm.ClassFile.FieldType.int)).before args0 about1 = true := code_word (m := ⟨10, 1⟩) (meth := k10m1) (c := k10c1) (by decide +kernel) rfl rfl rfl (by decide +kernel)
set_option maxRecDepth 65536 in
theorem w_c10 : (Jvm.Cond.code ({ cls := "java/lang/String", name := "charAt", desc := "(I)C" } : Jvm.MethodName) jdk_42_method_56_code (2 : Nat) (Option.some Jvm.ClassFile.FieldType.char)).before args0 about1 = true := code_word (m := ⟨7, 2⟩) (meth := k7m2) (c := k7c2) (by decide +kernel) rfl rfl rfl (by decide +kernel)
set_option maxRecDepth 65536 in
theorem w_c11 : (Jvm.Cond.code ({ cls := "java/lang/String", name := "isLatin1", desc := "()Z" } : Jvm.MethodName) jdk_42_method_154_code (1 : Nat) (Option.some Jvm.ClassFile.FieldType.boolean)).before args0 about1 = true := code_word (m := ⟨7, 4⟩) (meth := k7m4) (c := k7c4) (by decide +kernel) rfl rfl rfl (by decide +kernel)
set_option maxRecDepth 65536 in
theorem w_c12 : (Jvm.Cond.code ({ cls := "java/lang/StringLatin1", name := "charAt", desc := "([BI)C" } : Jvm.MethodName) jdk_43_method_2_code (2 : Nat) (Option.some Jvm.ClassFile.FieldType.char)).before args0 about1 = true := code_word (m := ⟨11, 1⟩) (meth := k11m1) (c := k11c1) (by decide +kernel) rfl rfl rfl (by decide +kernel)
set_option maxRecDepth 65536 in
theorem w_c13 : (Jvm.Cond.code ({ cls := "java/lang/String", name := "checkIndex", desc := "(II)V" } : Jvm.MethodName) jdk_42_method_155_code (2 : Nat) (Option.none : Option Jvm.ClassFile.FieldType)).before args0 about1 = true := code_word (m := ⟨7, 5⟩) (meth := k7m5) (c := k7c5) (by decide +kernel) rfl rfl rfl (by decide +kernel)
set_option maxRecDepth 65536 in
theorem w_c14 : (Jvm.Cond.code ({ cls := "jdk/internal/util/Preconditions", name := "checkIndex", desc := "(IILjava/util/function/BiFunction;)I" } : Jvm.MethodName) jdk_41_method_11_code (3 : Nat) (Option.some Jvm.ClassFile.FieldType.int)).before args0 about1 = true := code_word (m := ⟨12, 1⟩) (meth := k12m1) (c := k12c1) (by decide +kernel) rfl rfl rfl (by decide +kernel)
set_option maxRecDepth 65536 in
theorem w_c15 : (Jvm.Cond.code ({ cls := "com/example/pencilmark/pencilmark/grid/Grid", name := "of", desc := "(Lcom/example/pencilmark/pencilmark/grid/Shape;[I)Lcom/example/pencilmark/pencilmark/grid/Grid;" } : Jvm.MethodName) prog_11_method_2_code (4 : Nat) (Option.some (Jvm.ClassFile.FieldType.object "com/example/pencilmark/pencilmark/grid/Grid"))).before args0 about1 = true := code_word (m := ⟨13, 1⟩) (meth := k13m1) (c := k13c1) (by decide +kernel) rfl rfl rfl (by decide +kernel)
set_option maxRecDepth 65536 in
theorem w_c16 : (Jvm.Cond.code ({ cls := "com/example/pencilmark/pencilmark/grid/Shape", name := "side", desc := "()I" } : Jvm.MethodName) prog_12_method_2_code (1 : Nat) (Option.some Jvm.ClassFile.FieldType.int)).before args0 about1 = true := code_word (m := ⟨10, 0⟩) (meth := k10m0) (c := k10c0) (by decide +kernel) rfl rfl rfl (by decide +kernel)
set_option maxRecDepth 65536 in
theorem w_c17 : (Jvm.Cond.code ({ cls := "com/example/pencilmark/pencilmark/grid/Grid", name := "<init>", desc := "(Lcom/example/pencilmark/pencilmark/grid/Shape;[I)V" } : Jvm.MethodName) prog_11_method_1_code (3 : Nat) (Option.none : Option Jvm.ClassFile.FieldType)).before args0 about1 = true := code_word (m := ⟨13, 0⟩) (meth := k13m0) (c := k13c0) (by decide +kernel) rfl rfl rfl (by decide +kernel)
set_option maxRecDepth 65536 in
theorem w_c18 : (Jvm.Cond.code ({ cls := "com/example/pencilmark/pencilmark/grid/Grid", name := "shape", desc := "()Lcom/example/pencilmark/pencilmark/grid/Shape;" } : Jvm.MethodName) prog_11_method_3_code (1 : Nat) (Option.some (Jvm.ClassFile.FieldType.object "com/example/pencilmark/pencilmark/grid/Shape"))).before args0 about1 = true := code_word (m := ⟨13, 2⟩) (meth := k13m2) (c := k13c2) (by decide +kernel) rfl rfl rfl (by decide +kernel)
set_option maxRecDepth 65536 in
theorem w_c19 : (Jvm.Cond.code ({ cls := "com/example/pencilmark/pencilmark/grid/Grid", name := "digit", desc := "(I)I" } : Jvm.MethodName) prog_11_method_4_code (2 : Nat) (Option.some Jvm.ClassFile.FieldType.int)).before args0 about1 = true := code_word (m := ⟨13, 3⟩) (meth := k13m3) (c := k13c3) (by decide +kernel) rfl rfl rfl (by decide +kernel)
set_option maxRecDepth 65536 in
theorem w_c20 : (Jvm.Cond.code ({ cls := "com/example/pencilmark/pencilmark/line/PuzzleLineParsePinLaw", name := "expected", desc := "(IIIIII)I" } : Jvm.MethodName) method_4_code (6 : Nat) (Option.some Jvm.ClassFile.FieldType.int)).before args0 about1 = true := code_word (m := ⟨1, 3⟩) (meth := k1m3) (c := k1c3) (by decide +kernel) rfl rfl rfl (by decide +kernel)
set_option maxRecDepth 65536 in
theorem w_c21 : (Jvm.Cond.code ({ cls := "com/example/pencilmark/pencilmark/line/PuzzleLineParsePinLaw", name := "val", desc := "(I)I" } : Jvm.MethodName) method_3_code (1 : Nat) (Option.some Jvm.ClassFile.FieldType.int)).before args0 about1 = true := code_word (m := ⟨1, 2⟩) (meth := k1m2) (c := k1c2) (by decide +kernel) rfl rfl rfl (by decide +kernel)
set_option maxRecDepth 65536 in
theorem w_c22 : (Jvm.Cond.code ({ cls := "java/lang/StringUTF16", name := "toBytes", desc := "([CII)[B" } : Jvm.MethodName) jdk_52_method_14_code (5 : Nat) (Option.some (Jvm.ClassFile.FieldType.array Jvm.ClassFile.FieldType.byte))).before args0 about1 = true := code_word (m := ⟨8, 6⟩) (meth := k8m6) (c := k8c6) (by decide +kernel) rfl rfl rfl (by decide +kernel)
set_option maxRecDepth 65536 in
theorem w_c23 : (Jvm.Cond.code ({ cls := "java/lang/StringUTF16", name := "newBytesFor", desc := "(I)[B" } : Jvm.MethodName) jdk_52_method_2_code (1 : Nat) (Option.some (Jvm.ClassFile.FieldType.array Jvm.ClassFile.FieldType.byte))).before args0 about1 = true := code_word (m := ⟨8, 1⟩) (meth := k8m1) (c := k8c1) (by decide +kernel) rfl rfl rfl (by decide +kernel)
set_option maxRecDepth 65536 in
theorem w_c24 : (Jvm.Cond.code ({ cls := "java/lang/StringUTF16", name := "newBytesLength", desc := "(I)I" } : Jvm.MethodName) jdk_52_method_3_code (1 : Nat) (Option.some Jvm.ClassFile.FieldType.int)).before args0 about1 = true := code_word (m := ⟨8, 2⟩) (meth := k8m2) (c := k8c2) (by decide +kernel) rfl rfl rfl (by decide +kernel)
set_option maxRecDepth 65536 in
theorem w_c25 : (Jvm.Cond.code ({ cls := "java/lang/StringUTF16", name := "putChar", desc := "([BII)V" } : Jvm.MethodName) jdk_52_method_4_code (3 : Nat) (Option.none : Option Jvm.ClassFile.FieldType)).before args0 about1 = true := code_word (m := ⟨8, 3⟩) (meth := k8m3) (c := k8c3) (by decide +kernel) rfl rfl rfl (by decide +kernel)
set_option maxRecDepth 65536 in
theorem w_c26 : (Jvm.Cond.code ({ cls := "java/lang/StringUTF16", name := "getChar", desc := "([BI)C" } : Jvm.MethodName) jdk_52_method_5_code (2 : Nat) (Option.some Jvm.ClassFile.FieldType.char)).before args0 about1 = true := code_word (m := ⟨8, 4⟩) (meth := k8m4) (c := k8c4) (by decide +kernel) rfl rfl rfl (by decide +kernel)
set_option maxRecDepth 65536 in
theorem w_c27 : (Jvm.Cond.code ({ cls := "java/lang/StringUTF16", name := "charAt", desc := "([BI)C" } : Jvm.MethodName) jdk_52_method_83_code (2 : Nat) (Option.some Jvm.ClassFile.FieldType.char)).before args0 about1 = true := code_word (m := ⟨8, 10⟩) (meth := k8m10) (c := k8c10) (by decide +kernel) rfl rfl rfl (by decide +kernel)
set_option maxRecDepth 65536 in
theorem w_c28 : (Jvm.Cond.code ({ cls := "java/lang/StringUTF16", name := "checkIndex", desc := "(I[B)V" } : Jvm.MethodName) jdk_52_method_91_code (2 : Nat) (Option.none : Option Jvm.ClassFile.FieldType)).before args0 about1 = true := code_word (m := ⟨8, 11⟩) (meth := k8m11) (c := k8c11) (by decide +kernel) rfl rfl rfl (by decide +kernel)
set_option maxRecDepth 65536 in
theorem w_c29 : (Jvm.Cond.code ({ cls := "java/lang/StringUTF16", name := "length", desc := "([B)I" } : Jvm.MethodName) jdk_52_method_6_code (1 : Nat) (Option.some Jvm.ClassFile.FieldType.int)).before args0 about1 = true := code_word (m := ⟨8, 5⟩) (meth := k8m5) (c := k8c5) (by decide +kernel) rfl rfl rfl (by decide +kernel)
def codes1 : List Jvm.Cond := [Jvm.Cond.code x code maxLocals ret, Jvm.Cond.code ({ cls := "com/example/pencilmark/pencilmark/line/PuzzleLineParsePinLaw", name := "sym", desc := "(I)C" } : Jvm.MethodName) method_2_code (1 : Nat) (Option.some Jvm.ClassFile.FieldType.char), Jvm.Cond.code ({ cls := "java/lang/String", name := "<init>", desc := "([C)V" } : Jvm.MethodName) jdk_42_method_3_code (2 : Nat) (Option.none : Option Jvm.ClassFile.FieldType), Jvm.Cond.code ({ cls := "java/lang/String", name := "<init>", desc := "([CIILjava/lang/Void;)V" } : Jvm.MethodName) jdk_42_method_149_code (6 : Nat) (Option.none : Option Jvm.ClassFile.FieldType), Jvm.Cond.code ({ cls := "java/lang/Object", name := "<init>", desc := "()V" } : Jvm.MethodName) object_method_1_code (1 : Nat) (Option.none : Option Jvm.ClassFile.FieldType), Jvm.Cond.code ({ cls := "java/lang/StringUTF16", name := "compress", desc := "([CII)[B" } : Jvm.MethodName) jdk_52_method_16_code (6 : Nat) (Option.some (Jvm.ClassFile.FieldType.array Jvm.ClassFile.FieldType.byte)), Jvm.Cond.code ({ cls := "java/lang/StringUTF16", name := "compress", desc := "([CI[BII)I" } : Jvm.MethodName) jdk_52_method_21_code (7 : Nat) (Option.some Jvm.ClassFile.FieldType.int), Jvm.Cond.code ({ cls := "java/lang/StringUTF16", name := "coderFromArrayLen", desc := "([BI)B" } : Jvm.MethodName) jdk_52_method_15_code (2 : Nat) (Option.some Jvm.ClassFile.FieldType.byte), Jvm.Cond.code ({ cls := "com/example/pencilmark/pencilmark/line/PuzzleLine", name := "parse", desc := "(Ljava/lang/String;J)Lcom/example/pencilmark/pencilmark/grid/Grid;" } : Jvm.MethodName) prog_15_method_4_code (7 : Nat) (Option.some (Jvm.ClassFile.FieldType.object "com/example/pencilmark/pencilmark/grid/Grid")), Jvm.Cond.code ({ cls := "com/example/pencilmark/pencilmark/grid/Shape", name := "cellCount", desc := "()I" } : Jvm.MethodName) prog_12_method_3_code (1 : Nat) (Option.some Jvm.ClassFile.FieldType.int), Jvm.Cond.code ({ cls := "java/lang/String", name := "charAt", desc := "(I)C" } : Jvm.MethodName) jdk_42_method_56_code (2 : Nat) (Option.some Jvm.ClassFile.FieldType.char), Jvm.Cond.code ({ cls := "java/lang/String", name := "isLatin1", desc := "()Z" } : Jvm.MethodName) jdk_42_method_154_code (1 : Nat) (Option.some Jvm.ClassFile.FieldType.boolean), Jvm.Cond.code ({ cls := "java/lang/StringLatin1", name := "charAt", desc := "([BI)C" } : Jvm.MethodName) jdk_43_method_2_code (2 : Nat) (Option.some Jvm.ClassFile.FieldType.char), Jvm.Cond.code ({ cls := "java/lang/String", name := "checkIndex", desc := "(II)V" } : Jvm.MethodName) jdk_42_method_155_code (2 : Nat) (Option.none : Option Jvm.ClassFile.FieldType), Jvm.Cond.code ({ cls := "jdk/internal/util/Preconditions", name := "checkIndex", desc := "(IILjava/util/function/BiFunction;)I" } : Jvm.MethodName) jdk_41_method_11_code (3 : Nat) (Option.some Jvm.ClassFile.FieldType.int), Jvm.Cond.code ({ cls := "com/example/pencilmark/pencilmark/grid/Grid", name := "of", desc := "(Lcom/example/pencilmark/pencilmark/grid/Shape;[I)Lcom/example/pencilmark/pencilmark/grid/Grid;" } : Jvm.MethodName) prog_11_method_2_code (4 : Nat) (Option.some (Jvm.ClassFile.FieldType.object "com/example/pencilmark/pencilmark/grid/Grid")), Jvm.Cond.code ({ cls := "com/example/pencilmark/pencilmark/grid/Shape", name := "side", desc := "()I" } : Jvm.MethodName) prog_12_method_2_code (1 : Nat) (Option.some Jvm.ClassFile.FieldType.int), Jvm.Cond.code ({ cls := "com/example/pencilmark/pencilmark/grid/Grid", name := "<init>", desc := "(Lcom/example/pencilmark/pencilmark/grid/Shape;[I)V" } : Jvm.MethodName) prog_11_method_1_code (3 : Nat) (Option.none : Option Jvm.ClassFile.FieldType), Jvm.Cond.code ({ cls := "com/example/pencilmark/pencilmark/grid/Grid", name := "shape", desc := "()Lcom/example/pencilmark/pencilmark/grid/Shape;" } : Jvm.MethodName) prog_11_method_3_code (1 : Nat) (Option.some (Jvm.ClassFile.FieldType.object "com/example/pencilmark/pencilmark/grid/Shape")), Jvm.Cond.code ({ cls := "com/example/pencilmark/pencilmark/grid/Grid", name := "digit", desc := "(I)I" } : Jvm.MethodName) prog_11_method_4_code (2 : Nat) (Option.some Jvm.ClassFile.FieldType.int), Jvm.Cond.code ({ cls := "com/example/pencilmark/pencilmark/line/PuzzleLineParsePinLaw", name := "expected", desc := "(IIIIII)I" } : Jvm.MethodName) method_4_code (6 : Nat) (Option.some Jvm.ClassFile.FieldType.int), Jvm.Cond.code ({ cls := "com/example/pencilmark/pencilmark/line/PuzzleLineParsePinLaw", name := "val", desc := "(I)I" } : Jvm.MethodName) method_3_code (1 : Nat) (Option.some Jvm.ClassFile.FieldType.int), Jvm.Cond.code ({ cls := "java/lang/StringUTF16", name := "toBytes", desc := "([CII)[B" } : Jvm.MethodName) jdk_52_method_14_code (5 : Nat) (Option.some (Jvm.ClassFile.FieldType.array Jvm.ClassFile.FieldType.byte)), Jvm.Cond.code ({ cls := "java/lang/StringUTF16", name := "newBytesFor", desc := "(I)[B" } : Jvm.MethodName) jdk_52_method_2_code (1 : Nat) (Option.some (Jvm.ClassFile.FieldType.array Jvm.ClassFile.FieldType.byte)), Jvm.Cond.code ({ cls := "java/lang/StringUTF16", name := "newBytesLength", desc := "(I)I" } : Jvm.MethodName) jdk_52_method_3_code (1 : Nat) (Option.some Jvm.ClassFile.FieldType.int), Jvm.Cond.code ({ cls := "java/lang/StringUTF16", name := "putChar", desc := "([BII)V" } : Jvm.MethodName) jdk_52_method_4_code (3 : Nat) (Option.none : Option Jvm.ClassFile.FieldType), Jvm.Cond.code ({ cls := "java/lang/StringUTF16", name := "getChar", desc := "([BI)C" } : Jvm.MethodName) jdk_52_method_5_code (2 : Nat) (Option.some Jvm.ClassFile.FieldType.char), Jvm.Cond.code ({ cls := "java/lang/StringUTF16", name := "charAt", desc := "([BI)C" } : Jvm.MethodName) jdk_52_method_83_code (2 : Nat) (Option.some Jvm.ClassFile.FieldType.char), Jvm.Cond.code ({ cls := "java/lang/StringUTF16", name := "checkIndex", desc := "(I[B)V" } : Jvm.MethodName) jdk_52_method_91_code (2 : Nat) (Option.none : Option Jvm.ClassFile.FieldType), Jvm.Cond.code ({ cls := "java/lang/StringUTF16", name := "length", desc := "([B)I" } : Jvm.MethodName) jdk_52_method_6_code (1 : Nat) (Option.some Jvm.ClassFile.FieldType.int)]
set_option maxRecDepth 65536 in
theorem codes_eq : words1.filter isCode = codes1 := rfl
theorem w_codes : ∀ c ∈ words1.filter isCode, c.before args0 about1 = true := by
  rw [codes_eq]
  intro c hc
  simp only [codes1, List.mem_cons, List.not_mem_nil, or_false] at hc
  rcases hc with rfl | rfl | rfl | rfl | rfl | rfl | rfl | rfl | rfl | rfl | rfl | rfl | rfl | rfl | rfl | rfl | rfl | rfl | rfl | rfl | rfl | rfl | rfl | rfl | rfl | rfl | rfl | rfl | rfl | rfl
  · exact w_c0
  · exact w_c1
  · exact w_c2
  · exact w_c3
  · exact w_c4
  · exact w_c5
  · exact w_c6
  · exact w_c7
  · exact w_c8
  · exact w_c9
  · exact w_c10
  · exact w_c11
  · exact w_c12
  · exact w_c13
  · exact w_c14
  · exact w_c15
  · exact w_c16
  · exact w_c17
  · exact w_c18
  · exact w_c19
  · exact w_c20
  · exact w_c21
  · exact w_c22
  · exact w_c23
  · exact w_c24
  · exact w_c25
  · exact w_c26
  · exact w_c27
  · exact w_c28
  · exact w_c29
set_option maxRecDepth 65536 in
theorem w_t1 : (words1.take 24).all (fun c => isCode c || c.before args0 about1) = true := by decide +kernel
set_option maxRecDepth 65536 in
theorem w_t2 : ((words1.drop 24).take 24).all (fun c => isCode c || c.before args0 about1) = true := by decide +kernel
set_option maxRecDepth 65536 in
theorem w_t3 : (((words1.drop 24).drop 24).take 24).all (fun c => isCode c || c.before args0 about1) = true := by decide +kernel
set_option maxRecDepth 65536 in
theorem w_t4 : ((((words1.drop 24).drop 24).drop 24).take 24).all (fun c => isCode c || c.before args0 about1) = true := by decide +kernel
set_option maxRecDepth 65536 in
theorem w_t5 : (((((words1.drop 24).drop 24).drop 24).drop 24).take 24).all (fun c => isCode c || c.before args0 about1) = true := by decide +kernel
set_option maxRecDepth 65536 in
theorem w_t6 : ((((((words1.drop 24).drop 24).drop 24).drop 24).drop 24).take 24).all (fun c => isCode c || c.before args0 about1) = true := by decide +kernel
set_option maxRecDepth 65536 in
theorem w_t7 : ((((((words1.drop 24).drop 24).drop 24).drop 24).drop 24).drop 24).all (fun c => isCode c || c.before args0 about1) = true := by decide +kernel
theorem w_tables : (allAtoms (Jvm.Cond.code x code maxLocals ret :: tables_1)).before args0 about1 = true := by
  rw [allAtoms_all]
  show words1.all (fun c => c.before args0 about1) = true
  refine all_split ?_ w_codes
  rw [← List.take_append_drop 24 words1, List.all_append, w_t1, ← List.take_append_drop 24 (words1.drop 24), List.all_append, w_t2, ← List.take_append_drop 24 ((words1.drop 24).drop 24), List.all_append, w_t3, ← List.take_append_drop 24 (((words1.drop 24).drop 24).drop 24), List.all_append, w_t4, ← List.take_append_drop 24 ((((words1.drop 24).drop 24).drop 24).drop 24), List.all_append, w_t5, ← List.take_append_drop 24 (((((words1.drop 24).drop 24).drop 24).drop 24).drop 24), List.all_append, w_t6, w_t7]
  rfl
set_option maxRecDepth 65536 in
theorem w_rest : rest_1_c.before args0 about1 = true := by decide +kernel
set_option maxRecDepth 65536 in
theorem w_case : (Jvm.Cond.and given_1 narrow_1).before args0 about1 = true := by decide +kernel
theorem w_applies : (headSpec (Jvm.Cond.code x code maxLocals ret :: tables_1) room_1).applies x e0.platform about1 = true :=
  (Spec.applies_iff w_frames).mpr ⟨w_running, w_runnable, w_alone, w_named, w_hears, w_ripe, w_room, w_tables⟩
theorem atStart : AtStart classFile x code maxLocals ret World_1 tables_1 room_1 Calls_1 rest_1 Pre_1 launch0 p0 e0 about1 theMethod args0 below0 :=
  ⟨lists_1, trivial, launch0.admits_env _ _ _, launch0.least_env, fairChoices_fair.cas, fairChoices_fair.clock, w_frames, w_args, w_heap, w_applies, trivial, w_rest, w_case⟩
end start1
theorem witness_1 : WitnessClaimed_1 := ⟨start1.p0, start1.e0, start1.about1, start1.theMethod, start1.args0, start1.below0, start1.atStart⟩
end Jvm.Pilot.@@N@@
