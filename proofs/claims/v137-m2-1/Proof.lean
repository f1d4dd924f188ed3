import JvmDerived
import JvmDerived.Pilot.@@N@@Statement
import JvmDerived.Pilot.@@N@@Code
set_option linter.unusedVariables false
set_option linter.unusedSimpArgs false
@@BLOCK:NumsL.lean.txt@@
namespace Jvm.RoadKit
open Sem ClassFile Op Lib Jvm.Stand Jvm.Free Jvm.LawKit
section New
variable {p : Program} {l : Launch} {e : Env} {R : Room} {s : State} {m : MethodId} {args : Array Value} {below : List Frame} {meth : Method} {c : Code} {T : State} {locs : List Loc} {cells slots : Nat}
theorem retI (X : Stand p l e R s m args below meth c T locs cells slots) (hx : p.tables.exec = Jvm.exec) {pc : Nat} {Ls : Array Slot} {z : Int32} {rest : List Value} (hret : meth.sig.returnType = some .int) (hd : decode c.code pc = .ok (.ireturn, 1)) {fs : List Frame}
    (hl : ∀ (f : JFrame) (acts : List Action), f.method = m → f.locked = none → f.entered = [] → (doReturn e (T.setTop f) acts (some (.int z))).1 = T.setFrames fs) : Steps p.tables e below (T.setTop (mkF m pc Ls (.int z :: rest))) (T.setFrames fs) := by
  have hm' : T.vm.method? m = some meth := X.method'
  have hn : narrow .int (.int z) = .int z := rfl
  show Steps p.tables e below (T.setTop { method := m, pc := pc, locals := Ls, stack := _ :: rest, locked := none }) _
  jvm_step X.here [X.here.top, hx, hd, hm', hret, hn]
  first | (intro acts; rw [hl _ acts rfl rfl rfl]) | rw [hl _ _ rfl rfl rfl]
  exact Steps.refl _
end New
end Jvm.RoadKit
namespace Jvm.Pilot.@@N@@
open Jvm Jvm.ClassFile Sem Op Lib Jvm.Free Jvm.Stand Jvm.LawKit Jvm.RoadKit Bundle Jvm.Pilot.@@N@@.Jvm.D
/-! own_Goes: from S the run comes to some state of which G holds: such a goal may be split in the middle of a walk -/
def own_Goes (p : Program) (e : Env) (below : List Frame) (S : State) (G : State → Prop) : Prop := ∃ t, Steps p.tables e below S t ∧ G t
theorem own_via {p : Program} {e : Env} {below : List Frame} {S S' : State} {G : State → Prop} (f : ∀ t, Steps p.tables e below S' t → Steps p.tables e below S t) (h : own_Goes p e below S' G) : own_Goes p e below S G := by
  obtain ⟨t, h1, h2⟩ := h
  exact ⟨t, f t h1, h2⟩
theorem own_end {p : Program} {e : Env} {below : List Frame} {S t : State} {G : State → Prop} (h : Steps p.tables e below S t) (g : G t) : own_Goes p e below S G := ⟨t, h, g⟩
theorem own_out {p : Program} {e : Env} {below : List Frame} {S : State} {P : State → Outcome → Prop} (h : own_Goes p e below S (fun t => ∃ o, t.status = .running ∧ Ended t below o ∧ P t o)) : ∃ t o, Steps p.tables e below S t ∧ t.status = .running ∧ Ended t below o ∧ P t o := by
  obtain ⟨t, h1, o, h2, h3, h4⟩ := h
  exact ⟨t, o, h1, h2, h3, h4⟩
theorem wd {a0 : Array Value} {Z : State} (hw : ∀ d ∈ tables_1, d.before a0 Z = true) (i : Nat) {d : Jvm.Cond} (h : tables_1[i]? = some d) : d.before a0 Z = true := hw _ (List.mem_of_getElem? h)
theorem own_old {Z : State} {n0 : Nat} {h : Heap} (O : Old Z n0 h) : n0 ≤ h.size := by rw [← O.1]; exact O.2.1
def own_Q0 (n0 : Nat) (v : Option Value) (L : List Loc) : Prop := v = some (.int (1 : Int32)) ∧ Fr n0 L
def own_G (s : State) (below : List Frame) (n0 : Nat) (t : State) : Prop := ∃ o, t.status = .running ∧ Ended t below o ∧ ∃ v L, o = .returned v ∧ own_Q0 n0 v L ∧ FrameEnd s o t L room_1.cells room_1.slots
def own_Len (Z : State) (h : Heap) (a : Addr) (ty : FieldType) (n : Int32) : Prop := ∃ k vs d, Arv Z h a k ty n vs d
theorem own_len_ext {Z : State} {h h' : Heap} {a : Addr} {ty : FieldType} {n : Int32} (F : own_Len Z h a ty n) (E : Ext h h') : own_Len Z h' a ty n := by
  obtain ⟨k, vs, d, V⟩ := F
  exact ⟨k, vs, d, V.ext E⟩
theorem own_len_other {Z : State} {h h' : Heap} {a b : Addr} {sl : Nat} {v : Value} {ty : FieldType} {n : Int32} (F : own_Len Z h b ty n) (W : Wr h h' a sl v) (q : b ≠ a) : own_Len Z h' b ty n := by
  obtain ⟨k, vs, d, V⟩ := F
  exact ⟨k, vs, d, V.other W q⟩
theorem own_len_keep {Z : State} {h h' : Heap} {a : Addr} {ws : List Addr} {ty : FieldType} {n : Int32} (F : own_Len Z h a ty n) (K : Keep h h' ws) (q : a ∉ ws) : own_Len Z h' a ty n := by
  obtain ⟨k, vs, d, V⟩ := F
  exact ⟨k, vs, d, V.keep K q⟩
theorem own_len_lt {Z : State} {h : Heap} {a : Addr} {ty : FieldType} {n : Int32} (F : own_Len Z h a ty n) : a < h.size := by
  obtain ⟨k, vs, d, V⟩ := F
  exact V.lt
theorem own_c2 (x : Int32) : x.toUInt32.toUInt16.toUInt32.toInt32.toUInt32.toUInt16.toUInt32.toInt32 = x.toUInt32.toUInt16.toUInt32.toInt32 := by rw [UInt32.toUInt32_toInt32, UInt16.toUInt16_toUInt32]
theorem own_b2 (x : Int32) : x.toInt8.toInt32.toInt8.toInt32 = x.toInt8.toInt32 := by rw [Int8.toInt8_toInt32]
section Calls
variable {p : Program} {l : Launch} {e : Env} {R : Room} {s : State} {m : MethodId} {args : Array Value} {below : List Frame} {meth : Method} {c : Code} {T : State} {locs : List Loc} {cells slots : Nat} {Z : State} {a0 : Array Value} {h : Heap} {own C : String} {index : Nat} {y : MethodName} {bytes : ByteArray} {maxL : Nat} {rm : Room} {Q : Option Value → Heap → List Loc → Prop} {a : Addr} {argsL : List Value} {g : JFrame}
/-! a call by its contract, in one step: virtual (the class's own method), a constructor, static -/
theorem own_cv {ret : Option FieldType} (X : Stand p l e R s m args below meth c T locs cells slots) (hx : p.tables.exec = Jvm.exec) (hZ : Z.Warmed39 s.vm) (hown : s.vm.findClass own = some m.cls) (w1 : (Jvm.Cond.methodLink own index y).before a0 Z = true) (w2 : (Jvm.Cond.declares y).before a0 Z = true) (w3 : (Jvm.Cond.selects C y y).before a0 Z = true) (w4 : (Jvm.Cond.instanceMethod y).before a0 Z = true) (wc : (Jvm.Cond.code y bytes maxL ret).before a0 Z = true) (wz : (Jvm.Cond.initialized y.cls).before a0 Z = true) (hy : y.cls ≠ "java/lang/invoke/MethodHandle" ∧ y.cls ≠ "java/lang/invoke/VarHandle")
    (hM : MetFree l y (head1 [Jvm.Cond.code y bytes maxL ret] rm) (fun A U => A = (.ref a :: argsL).toArray ∧ Z.Warmed39 U.vm ∧ U.heap = h) (fun _ _ _ _ _ => True) (fun _ U o U' => ∃ v L, o = .returned v ∧ Q v U'.heap L ∧ FrameEnd U o U' L rm.cells rm.slots)) (eT : T.heap = h) (E : Exa Z h a C) (hg : g.method = m) (hsize : g.locals.size = c.maxLocals) {rest : List Value} {W : Nat}
    (hlen : ∀ sig, parseMethodDescriptor y.desc = some sig → argsL.length = sig.parameters.length) (hstack : g.stack = argsL.reverse ++ .ref a :: rest) (hW : 2 * g.monitorRoom + (rest.map fun v => v.category).sum ≤ W) (hdg : decode c.code g.pc = .ok (.invokevirtual index, 3)) (r1 : rm.frames + 1 ≤ R.frames) (r2 : W + (maxL + 11) + rm.locals ≤ R.locals) (r3 : cells + rm.cells ≤ R.cells) (r4 : slots + rm.slots ≤ R.slots) :
    ∃ (v : Option Value) (T' : State) (L : List Loc), Stand p l e R s m args below meth c T' (locs ++ L) (cells + rm.cells) (slots + rm.slots) ∧ Q v T'.heap L ∧ ∀ t, Steps p.tables e below (T'.setTop { g with pc := g.pc + 3, stack := v.toList ++ rest }) t → Steps p.tables e below (T.setTop g) t := by
  obtain ⟨cq, kq, qa, -, qc⟩ := isOf hZ eT E
  obtain ⟨v, _, ⟨T', L', c', n'⟩, -, X', ⟨Lc, hQ, l1, y1, z1⟩, st⟩ := X.virtualBack hx (y := y) (z := y) hown (mvT hZ w1) (mvT hZ w2) (notFace_of_selects (args := #[]) (mvT hZ w3)) (mvT hZ w3) (mvT hZ w4) hy (backOf (W := W) hM hZ wc wz r1 r2) qa qc (g := g) hg hsize (Steps.refl _) (argsL := argsL) (rest := rest) hlen hstack hW hdg (fun _ _ => ⟨rfl, eT, r3, r4⟩)
  dsimp only [Pt.U, Pt.locs, Pt.cells, Pt.slots] at X' l1 y1 z1 st hQ
  subst l1 y1 z1
  exact ⟨v, T', Lc, X', hQ, fun t k => st.trans k⟩
theorem own_ci (X : Stand p l e R s m args below meth c T locs cells slots) (hx : p.tables.exec = Jvm.exec) (hZ : Z.Warmed39 s.vm) (hown : s.vm.findClass own = some m.cls) (w1 : (Jvm.Cond.methodLink own index y).before a0 Z = true) (w4 : (Jvm.Cond.instanceMethod y).before a0 Z = true) (wc : (Jvm.Cond.code y bytes maxL none).before a0 Z = true) (wz : (Jvm.Cond.initialized y.cls).before a0 Z = true) (hi : y.name = "<init>") (hy : y.cls ≠ "java/lang/invoke/MethodHandle" ∧ y.cls ≠ "java/lang/invoke/VarHandle")
    (hM : MetFree l y (head1 [Jvm.Cond.code y bytes maxL none] rm) (fun A U => A = (.ref a :: argsL).toArray ∧ Z.Warmed39 U.vm ∧ U.heap = h) (fun _ _ _ _ _ => True) (fun _ U o U' => ∃ v L, o = .returned v ∧ Q v U'.heap L ∧ FrameEnd U o U' L rm.cells rm.slots)) (eT : T.heap = h) (hg : g.method = m) (hsize : g.locals.size = c.maxLocals) {rest : List Value} {W : Nat}
    (hlen : ∀ sig, parseMethodDescriptor y.desc = some sig → argsL.length = sig.parameters.length) (hstack : g.stack = argsL.reverse ++ .ref a :: rest) (hW : 2 * g.monitorRoom + (rest.map fun v => v.category).sum ≤ W) (hdg : decode c.code g.pc = .ok (.invokespecial index, 3)) (r1 : rm.frames + 1 ≤ R.frames) (r2 : W + (maxL + 11) + rm.locals ≤ R.locals) (r3 : cells + rm.cells ≤ R.cells) (r4 : slots + rm.slots ≤ R.slots) :
    ∃ (v : Option Value) (T' : State) (L : List Loc), Stand p l e R s m args below meth c T' (locs ++ L) (cells + rm.cells) (slots + rm.slots) ∧ Q v T'.heap L ∧ ∀ t, Steps p.tables e below (T'.setTop { g with pc := g.pc + 3, stack := v.toList ++ rest }) t → Steps p.tables e below (T.setTop g) t := by
  obtain ⟨v, _, ⟨T', L', c', n'⟩, -, X', ⟨Lc, hQ, l1, y1, z1⟩, st⟩ := X.specialBack hx (y := y) hi hown (mvT hZ w1) (mvT hZ w4) (mvT hZ wc) hy (backOf (W := W) hM hZ wc wz r1 r2) (g := g) hg hsize (Steps.refl _) (a := a) (argsL := argsL) (rest := rest) hlen hstack hW hdg (fun _ _ => ⟨rfl, eT, r3, r4⟩)
  dsimp only [Pt.U, Pt.locs, Pt.cells, Pt.slots] at X' l1 y1 z1 st hQ
  subst l1 y1 z1
  exact ⟨v, T', Lc, X', hQ, fun t k => st.trans k⟩
theorem own_cs {ret : Option FieldType} (X : Stand p l e R s m args below meth c T locs cells slots) (hx : p.tables.exec = Jvm.exec) (hZ : Z.Warmed39 s.vm) (hown : s.vm.findClass own = some m.cls) (w1 : (Jvm.Cond.methodLink own index y).before a0 Z = true) (w4 : (Jvm.Cond.static y).before a0 Z = true) (wc : (Jvm.Cond.code y bytes maxL ret).before a0 Z = true) (wz : (Jvm.Cond.initialized y.cls).before a0 Z = true) (hy : y.cls ≠ "java/lang/invoke/MethodHandle" ∧ y.cls ≠ "java/lang/invoke/VarHandle")
    (hM : MetFree l y (head1 [Jvm.Cond.code y bytes maxL ret] rm) (fun A U => A = argsL.toArray ∧ Z.Warmed39 U.vm ∧ U.heap = h) (fun _ _ _ _ _ => True) (fun _ U o U' => ∃ v L, o = .returned v ∧ Q v U'.heap L ∧ FrameEnd U o U' L rm.cells rm.slots)) (eT : T.heap = h) (hg : g.method = m) (hsize : g.locals.size = c.maxLocals) {rest : List Value} {W : Nat}
    (hlen : ∀ sig, parseMethodDescriptor y.desc = some sig → argsL.length = sig.parameters.length) (hstack : g.stack = argsL.reverse ++ rest) (hW : 2 * g.monitorRoom + (rest.map fun v => v.category).sum ≤ W) (hdg : decode c.code g.pc = .ok (.invokestatic index, 3)) (r1 : rm.frames + 1 ≤ R.frames) (r2 : W + (maxL + 11) + rm.locals ≤ R.locals) (r3 : cells + rm.cells ≤ R.cells) (r4 : slots + rm.slots ≤ R.slots) :
    ∃ (v : Option Value) (T' : State) (L : List Loc), Stand p l e R s m args below meth c T' (locs ++ L) (cells + rm.cells) (slots + rm.slots) ∧ Q v T'.heap L ∧ ∀ t, Steps p.tables e below (T'.setTop { g with pc := g.pc + 3, stack := v.toList ++ rest }) t → Steps p.tables e below (T.setTop g) t := by
  obtain ⟨v, _, ⟨T', L', c', n'⟩, -, X', ⟨Lc, hQ, l1, y1, z1⟩, st⟩ := Jvm.LawKit.callS X hx (y := y) hown (mvT hZ w1) (mvT hZ w4) (mvT hZ wz) (mvT hZ wc) hy (backOf (W := W) hM hZ wc wz r1 r2) (g := g) hg hsize (argsL := argsL) (rest := rest) hlen hstack hW hdg (fun _ _ => ⟨rfl, eT, r3, r4⟩)
  dsimp only [Pt.U, Pt.locs, Pt.cells, Pt.slots] at X' l1 y1 z1 st hQ
  subst l1 y1 z1
  exact ⟨v, T', Lc, X', hQ, st⟩
end Calls
theorem own_eq_ref {args : Array Value} {s : State} {a b : Term} {w : Addr} (h : (Jvm.Cond.eq a b).value args s none s [] = some true) (hb : b.eval args s none [] s = some (.ref w)) : a.eval args s none [] s = some (.ref w) := by
  obtain ⟨x, y, e1, e2, k1, k2⟩ := cmp_v (Or.inl h)
  rw [hb] at e2
  cases e2
  have hx : x.isRef = true := by cases x <;> simp_all [Kin, Value.isRef]
  have q := gotT (eq_R e1 hb hx rfl) h
  rw [e1, q]
theorem own_ne_ref {args : Array Value} {s : State} {a b : Term} {u w : Addr} (h : (Jvm.Cond.not (Jvm.Cond.eq a b)).value args s none s [] = some true) (ha : a.eval args s none [] s = some (.ref u)) (hb : b.eval args s none [] s = some (.ref w)) : u ≠ w := fun q => gotF (eq_R ha hb rfl rfl) (not_v h) (by rw [q])
theorem own_nn_mask (x m : Int32) (k : Nat) (hk : k < 32) (hm : m.toBitVec.toNat = 2 ^ k - 1) : ¬ ((x &&& m) < (0 : Int32)) := by
  rw [Int32.lt_iff_toInt_lt, Jvm.Kit.i32_mask x m hk hm]
  have h := Int.emod_nonneg x.toInt (show ((2 : Int) ^ k) ≠ 0 from Int.ne_of_gt (Int.pow_pos (by decide)))
  rw [Int32.toInt_zero]
  omega
theorem own_lt_mask (x m : Int32) (k : Nat) (hk : k < 32) (hm : m.toBitVec.toNat = 2 ^ k - 1) {n : Int32} (hn : n.toInt = 2 ^ k) : (x &&& m) < n := by
  rw [Int32.lt_iff_toInt_lt, Jvm.Kit.i32_mask x m hk hm, hn]
  exact Int.emod_lt_of_pos _ (Int.pow_pos (by decide))
theorem own_nn_rem {x : Int32} (n : Int32) (h : ¬ (x < (0 : Int32))) : ¬ (x % n < (0 : Int32)) := by
  rw [Int32.lt_iff_toInt_lt, Int32.toInt_zero] at h ⊢
  rw [Int32.toInt_mod]
  have := Int.tmod_nonneg n.toInt (show 0 ≤ x.toInt by omega)
  omega
theorem own_pos {n : Int32} (h : (0 : Int32) < n) : 0 < n.toInt := by
  rw [Int32.lt_iff_toInt_lt, Int32.toInt_zero] at h
  exact h
theorem own_ne0 {n : Int32} (h : (0 : Int32) < n) : n ≠ 0 := fun q => by
  rw [q] at h
  exact absurd h (by decide)
theorem own_lt_rem {x : Int32} (n : Int32) (h : ¬ (x < (0 : Int32))) (hn : 0 < n.toInt) : x % n < n := by
  rw [Int32.lt_iff_toInt_lt] at h ⊢
  rw [Int32.toInt_zero] at h
  rw [Jvm.Kit.i32_rem_nonneg (by omega)]
  exact Int.emod_lt_of_pos _ hn
theorem own_modlo (x n : Int32) (hn : 0 < n.toInt) : 0 ≤ ((x &&& (2147483647 : Int32)) % n).toInt := by
  have a := Jvm.Kit.i32_mask x 2147483647 (k := 31) (by decide) (by decide)
  rw [Jvm.Kit.i32_rem_nonneg (by omega)]
  exact Int.emod_nonneg _ (by omega)
theorem own_modhi (x n : Int32) (hn : 0 < n.toInt) : ((x &&& (2147483647 : Int32)) % n).toInt < n.toInt := by
  have a := Jvm.Kit.i32_mask x 2147483647 (k := 31) (by decide) (by decide)
  rw [Jvm.Kit.i32_rem_nonneg (by omega)]
  exact Int.emod_lt_of_pos _ hn
abbrev zs1 : String := "com/example/pencilmark/pencilmark/cli/ExitStatus"
abbrev zs2 : String := "(Lcom/example/pencilmark/pencilmark/search/Verdict;)Lcom/example/pencilmark/pencilmark/cli/ExitStatus;"
abbrev zs3 : String := "com/example/pencilmark/pencilmark/search/Verdict"
abbrev zs4 : String := "Lcom/example/pencilmark/pencilmark/search/Verdict;"
abbrev zs5 : String := "Lcom/example/pencilmark/pencilmark/cli/ExitStatus;"
abbrev zs6 : String := "java/lang/Enum"
theorem d1_0 : decode prog_4_method_4_code 0 = .ok (.aload_n 0, 1) := by decide +kernel
theorem d1_1 : decode prog_4_method_4_code 1 = .ok (.getstatic 36, 3) := by decide +kernel
theorem d1_4 : decode prog_4_method_4_code 4 = .ok (.if_acmp .ne 9, 3) := by decide +kernel
theorem d1_13 : decode prog_4_method_4_code 13 = .ok (.getstatic 7, 3) := by decide +kernel
theorem d1_16 : decode prog_4_method_4_code 16 = .ok (.areturn, 1) := by decide +kernel
theorem ef_1 (m : MethodId) (x0 : Addr) : entryFrame m #[(.ref x0)] 1 = mkF m 0 #[rv x0] [] := by first | (simp [entryFrame, mkF, argsToLocals, Value.category]; done) | rfl
theorem pn_1 : plainName "com/example/pencilmark/pencilmark/cli/ExitStatus" = true := by first | (simp [plainName, overriddenIn]; done) | decide +kernel
def Q1 (Z : State) (w19 : Addr) (w23 : Addr) (w21 : Addr) (h0 : Heap) (n0 : Nat) (v : Option Value) (h : Heap) (L : List Loc) : Prop := v = some (.ref w21) ∧ Fr n0 L ∧ h = h0
set_option maxRecDepth 65536 in
set_option maxHeartbeats 40000000 in
theorem rm1 (l : Launch) (Z : State) (a0 : Array Value) (hw : ∀ d ∈ tables_1, d.before a0 Z = true) (ws : List Jvm.Cond) (w19 : Addr) (w23 : Addr) (w21 : Addr) (h0 : Heap) (n0 : Nat) (O0 : Old Z n0 h0) (S_Verdict_UNIQUE : Sta Z Z.heap zs3 "UNIQUE" zs4 (.ref w23)) (SF_w19_ordinal : Fld Z Z.heap w19 zs6 "ordinal" "I" (.int (0 : Int32))) (SF_w23_ordinal : Fld Z Z.heap w23 zs6 "ordinal" "I" (.int (1 : Int32))) (S_ExitStatus_NOT_UNIQUE : Sta Z Z.heap zs1 "NOT_UNIQUE" zs5 (.ref w21)) :
    MetFree l (⟨zs1, "of", zs2⟩ : MethodName) (head1 (Jvm.Cond.code (⟨zs1, "of", zs2⟩ : MethodName) prog_4_method_4_code 1 (some (.object zs1)) :: ws) ({ frames := 0, cells := 0, slots := 0, locals := 0 } : Room)) (fun a U => a = #[(.ref w19)] ∧ Z.Warmed39 U.vm ∧ U.heap = h0) (fun _ _ _ _ _ => True) (fun _ U o U' => ∃ v L, o = .returned v ∧ Q1 Z w19 w23 w21 h0 n0 v U'.heap L ∧ FrameEnd U o U' L ({ frames := 0, cells := 0, slots := 0, locals := 0 } : Room).cells ({ frames := 0, cells := 0, slots := 0, locals := 0 } : Room).slots) := by
  refine MetFree.of_bodySF (plainFor_of_name pn_1) hisR ?_
  intro p e s m args below meth c s₁ Bd hml0 hP hK
  obtain ⟨rfl, hZ, hh⟩ := hP
  have hx := Bd.exec
  have hby := Bd.bytes
  have hml : c.maxLocals = 1 := hml0
  have hown : s.vm.findClass zs1 = some m.cls := findClass_of_methodNamed Bd.named
  have hnm := (name_of_methodNamed Bd.named Bd.method).1
  have X0 : Stand p l e ({ frames := 0, cells := 0, slots := 0, locals := 0 } : Room) s m #[(.ref w19)] below meth c s₁ [] 0 0 := Stand.of_body Bd
  have e0 : s₁.heap = h0 := by rw [← hh, Bd.state]; rfl
  have N0 := Fr.nil n0
  refine own_out ?_
  refine own_via (fun t k => castTop (ef_1 m w19) (XS.aloadN X0.here hx rfl (hb hby d1_0) rfl rfl k)) ?_
  obtain ⟨T43, X43, e43, st43⟩ := getS2 X0 hx hZ hown (host := "") (Or.inl (wd hw 10 rfl)) Via.refl e0 (S_Verdict_UNIQUE.ext O0.2) (g := (mkF m 1 #[rv w19] [(.ref w19)])) rfl (hb hby d1_1)
  refine own_via (fun t k => st43 t (Jvm.RoadKit.acmp (g := (mkF m 4 #[rv w19] [(.ref w23), (.ref w19)])) X43 hx rfl rfl rfl (pc0 := 4) (pc' := 13) (same := false) rfl (hb hby d1_4) rfl (decide_eq_false fun q => (Fld.ne SF_w19_ordinal SF_w23_ordinal (by decide)) (Value.ref.inj q)) (by decide) (by decide) k)) ?_
  obtain ⟨T44, X44, e44, st44⟩ := getS2 X43 hx hZ hown (host := "") (Or.inl (wd hw 12 rfl)) Via.refl e43 (S_ExitStatus_NOT_UNIQUE.ext O0.2) (g := (mkF m 13 #[rv w19] [])) rfl (hb hby d1_13)
  refine own_via (fun t k => st44 t k) ?_
  obtain ⟨fs, hr, hrun, hended, hW, hsame⟩ := X44.leave (v := some (.ref w21)) (fun h => by rw [Bd.returns] at h; cases h)
  refine own_end (t := T44.setFrames fs) ?_ ⟨_, hrun, hended, _, _, rfl, ?_, ⟨_, rfl⟩, hW, hsame.mono (by decide) (by decide)⟩
  · jvm_step X44.here [X44.here.top, hx, (hb hby d1_16), X44.method', Bd.returns, Value.isRef, FieldType.isReference]
    first | (intro acts; rw [hr _ acts rfl rfl rfl]) | rw [hr _ _ rfl rfl rfl]
    exact Steps.refl _
  · show Q1 Z w19 w23 w21 h0 n0 _ T44.heap _
    rw [e44]
    exact ⟨rfl, N0, rfl⟩
theorem pd_1 : parseMethodDescriptor "(Lcom/example/pencilmark/pencilmark/search/Verdict;)Lcom/example/pencilmark/pencilmark/cli/ExitStatus;" = some ⟨[(.object "com/example/pencilmark/pencilmark/search/Verdict")], some (.object "com/example/pencilmark/pencilmark/cli/ExitStatus")⟩ := by decide +kernel
theorem d2_0 : decode prog_4_method_5_code 0 = .ok (.aload_n 0, 1) := by decide +kernel
theorem d2_1 : decode prog_4_method_5_code 1 = .ok (.getfield 32, 3) := by decide +kernel
theorem d2_4 : decode prog_4_method_5_code 4 = .ok (.ireturn, 1) := by decide +kernel
theorem ef_2 (m : MethodId) (x0 : Addr) : entryFrame m #[(.ref x0)] 1 = mkF m 0 #[rv x0] [] := by first | (simp [entryFrame, mkF, argsToLocals, Value.category]; done) | rfl
def Q2 (Z : State) (w21 : Addr) (h0 : Heap) (n0 : Nat) (v : Option Value) (h : Heap) (L : List Loc) : Prop := v = some (.int (1 : Int32)) ∧ Fr n0 L ∧ h = h0
set_option maxRecDepth 65536 in
set_option maxHeartbeats 40000000 in
theorem rm2 (l : Launch) (Z : State) (a0 : Array Value) (hw : ∀ d ∈ tables_1, d.before a0 Z = true) (ws : List Jvm.Cond) (w21 : Addr) (h0 : Heap) (n0 : Nat) (O0 : Old Z n0 h0) (SF_w21_code : Fld Z Z.heap w21 zs1 "code" "I" (.int (1 : Int32))) :
    MetFree l (⟨zs1, "code", "()I"⟩ : MethodName) (head1 (Jvm.Cond.code (⟨zs1, "code", "()I"⟩ : MethodName) prog_4_method_5_code 1 (some .int) :: ws) ({ frames := 0, cells := 0, slots := 0, locals := 0 } : Room)) (fun a U => a = #[(.ref w21)] ∧ Z.Warmed39 U.vm ∧ U.heap = h0) (fun _ _ _ _ _ => True) (fun _ U o U' => ∃ v L, o = .returned v ∧ Q2 Z w21 h0 n0 v U'.heap L ∧ FrameEnd U o U' L ({ frames := 0, cells := 0, slots := 0, locals := 0 } : Room).cells ({ frames := 0, cells := 0, slots := 0, locals := 0 } : Room).slots) := by
  refine MetFree.of_bodySF (plainFor_of_name pn_1) hisR ?_
  intro p e s m args below meth c s₁ Bd hml0 hP hK
  obtain ⟨rfl, hZ, hh⟩ := hP
  have hx := Bd.exec
  have hby := Bd.bytes
  have hml : c.maxLocals = 1 := hml0
  have hown : s.vm.findClass zs1 = some m.cls := findClass_of_methodNamed Bd.named
  have hnm := (name_of_methodNamed Bd.named Bd.method).1
  have X0 : Stand p l e ({ frames := 0, cells := 0, slots := 0, locals := 0 } : Room) s m #[(.ref w21)] below meth c s₁ [] 0 0 := Stand.of_body Bd
  have e0 : s₁.heap = h0 := by rw [← hh, Bd.state]; rfl
  have N0 := Fr.nil n0
  refine own_out ?_
  refine own_via (fun t k => castTop (ef_2 m w21) (XS.aloadN X0.here hx rfl (hb hby d2_0) rfl rfl k)) ?_
  obtain ⟨T52, X52, e52, st52⟩ := getF X0 hx hZ hown (host := "") (Or.inl (wd hw 18 rfl)) Via.refl e0 (SF_w21_code.ext O0.2) (g := (mkF m 1 #[rv w21] [(.ref w21)])) rfl rfl (hb hby d2_1)
  refine own_via (fun t k => st52 t k) ?_
  obtain ⟨fs, hr, hrun, hended, hW, hsame⟩ := X52.leave (v := some (.int (1 : Int32))) (fun h => by rw [Bd.returns] at h; cases h)
  refine own_end (t := T52.setFrames fs) ?_ ⟨_, hrun, hended, _, _, rfl, ?_, ⟨_, rfl⟩, hW, hsame.mono (by decide) (by decide)⟩
  · exact retI X52 hx Bd.returns (hb hby d2_4) hr
  · show Q2 Z w21 h0 n0 _ T52.heap _
    rw [e52]
    exact ⟨rfl, N0, rfl⟩
theorem pd_2 : parseMethodDescriptor "()I" = some ⟨[], some .int⟩ := by decide +kernel
theorem d1_7 : decode prog_4_method_4_code 7 = .ok (.getstatic 3, 3) := by decide +kernel
theorem d1_10 : decode prog_4_method_4_code 10 = .ok (.goto 6, 3) := by decide +kernel
def Q3 (Z : State) (w23 : Addr) (w31 : Addr) (h0 : Heap) (n0 : Nat) (v : Option Value) (h : Heap) (L : List Loc) : Prop := v = some (.ref w31) ∧ Fr n0 L ∧ h = h0
set_option maxRecDepth 65536 in
set_option maxHeartbeats 40000000 in
theorem rm3 (l : Launch) (Z : State) (a0 : Array Value) (hw : ∀ d ∈ tables_1, d.before a0 Z = true) (ws : List Jvm.Cond) (w23 : Addr) (w31 : Addr) (h0 : Heap) (n0 : Nat) (O0 : Old Z n0 h0) (S_Verdict_UNIQUE : Sta Z Z.heap zs3 "UNIQUE" zs4 (.ref w23)) (S_ExitStatus_OK : Sta Z Z.heap zs1 "OK" zs5 (.ref w31)) :
    MetFree l (⟨zs1, "of", zs2⟩ : MethodName) (head1 (Jvm.Cond.code (⟨zs1, "of", zs2⟩ : MethodName) prog_4_method_4_code 1 (some (.object zs1)) :: ws) ({ frames := 0, cells := 0, slots := 0, locals := 0 } : Room)) (fun a U => a = #[(.ref w23)] ∧ Z.Warmed39 U.vm ∧ U.heap = h0) (fun _ _ _ _ _ => True) (fun _ U o U' => ∃ v L, o = .returned v ∧ Q3 Z w23 w31 h0 n0 v U'.heap L ∧ FrameEnd U o U' L ({ frames := 0, cells := 0, slots := 0, locals := 0 } : Room).cells ({ frames := 0, cells := 0, slots := 0, locals := 0 } : Room).slots) := by
  refine MetFree.of_bodySF (plainFor_of_name pn_1) hisR ?_
  intro p e s m args below meth c s₁ Bd hml0 hP hK
  obtain ⟨rfl, hZ, hh⟩ := hP
  have hx := Bd.exec
  have hby := Bd.bytes
  have hml : c.maxLocals = 1 := hml0
  have hown : s.vm.findClass zs1 = some m.cls := findClass_of_methodNamed Bd.named
  have hnm := (name_of_methodNamed Bd.named Bd.method).1
  have X0 : Stand p l e ({ frames := 0, cells := 0, slots := 0, locals := 0 } : Room) s m #[(.ref w23)] below meth c s₁ [] 0 0 := Stand.of_body Bd
  have e0 : s₁.heap = h0 := by rw [← hh, Bd.state]; rfl
  have N0 := Fr.nil n0
  refine own_out ?_
  refine own_via (fun t k => castTop (ef_1 m w23) (XS.aloadN X0.here hx rfl (hb hby d1_0) rfl rfl k)) ?_
  obtain ⟨T64, X64, e64, st64⟩ := getS2 X0 hx hZ hown (host := "") (Or.inl (wd hw 10 rfl)) Via.refl e0 (S_Verdict_UNIQUE.ext O0.2) (g := (mkF m 1 #[rv w23] [(.ref w23)])) rfl (hb hby d1_1)
  refine own_via (fun t k => st64 t (Jvm.RoadKit.acmp (g := (mkF m 4 #[rv w23] [(.ref w23), (.ref w23)])) X64 hx rfl rfl rfl (pc0 := 4) (pc' := 7) (same := true) rfl (hb hby d1_4) rfl (decide_eq_true rfl) (by decide) (by decide) k)) ?_
  obtain ⟨T65, X65, e65, st65⟩ := getS2 X64 hx hZ hown (host := "") (Or.inl (wd hw 25 rfl)) Via.refl e64 (S_ExitStatus_OK.ext O0.2) (g := (mkF m 7 #[rv w23] [])) rfl (hb hby d1_7)
  refine own_via (fun t k => st65 t (XS.goto X65.here hx rfl (pc0 := 10) (pc' := 16) rfl (hb hby d1_10) (by decide) (by decide) k)) ?_
  obtain ⟨fs, hr, hrun, hended, hW, hsame⟩ := X65.leave (v := some (.ref w31)) (fun h => by rw [Bd.returns] at h; cases h)
  refine own_end (t := T65.setFrames fs) ?_ ⟨_, hrun, hended, _, _, rfl, ?_, ⟨_, rfl⟩, hW, hsame.mono (by decide) (by decide)⟩
  · jvm_step X65.here [X65.here.top, hx, (hb hby d1_16), X65.method', Bd.returns, Value.isRef, FieldType.isReference]
    first | (intro acts; rw [hr _ acts rfl rfl rfl]) | rw [hr _ _ rfl rfl rfl]
    exact Steps.refl _
  · show Q3 Z w23 w31 h0 n0 _ T65.heap _
    rw [e65]
    exact ⟨rfl, N0, rfl⟩
def Q4 (Z : State) (w31 : Addr) (h0 : Heap) (n0 : Nat) (v : Option Value) (h : Heap) (L : List Loc) : Prop := v = some (.int (0 : Int32)) ∧ Fr n0 L ∧ h = h0
set_option maxRecDepth 65536 in
set_option maxHeartbeats 40000000 in
theorem rm4 (l : Launch) (Z : State) (a0 : Array Value) (hw : ∀ d ∈ tables_1, d.before a0 Z = true) (ws : List Jvm.Cond) (w31 : Addr) (h0 : Heap) (n0 : Nat) (O0 : Old Z n0 h0) (SF_w31_code : Fld Z Z.heap w31 zs1 "code" "I" (.int (0 : Int32))) :
    MetFree l (⟨zs1, "code", "()I"⟩ : MethodName) (head1 (Jvm.Cond.code (⟨zs1, "code", "()I"⟩ : MethodName) prog_4_method_5_code 1 (some .int) :: ws) ({ frames := 0, cells := 0, slots := 0, locals := 0 } : Room)) (fun a U => a = #[(.ref w31)] ∧ Z.Warmed39 U.vm ∧ U.heap = h0) (fun _ _ _ _ _ => True) (fun _ U o U' => ∃ v L, o = .returned v ∧ Q4 Z w31 h0 n0 v U'.heap L ∧ FrameEnd U o U' L ({ frames := 0, cells := 0, slots := 0, locals := 0 } : Room).cells ({ frames := 0, cells := 0, slots := 0, locals := 0 } : Room).slots) := by
  refine MetFree.of_bodySF (plainFor_of_name pn_1) hisR ?_
  intro p e s m args below meth c s₁ Bd hml0 hP hK
  obtain ⟨rfl, hZ, hh⟩ := hP
  have hx := Bd.exec
  have hby := Bd.bytes
  have hml : c.maxLocals = 1 := hml0
  have hown : s.vm.findClass zs1 = some m.cls := findClass_of_methodNamed Bd.named
  have hnm := (name_of_methodNamed Bd.named Bd.method).1
  have X0 : Stand p l e ({ frames := 0, cells := 0, slots := 0, locals := 0 } : Room) s m #[(.ref w31)] below meth c s₁ [] 0 0 := Stand.of_body Bd
  have e0 : s₁.heap = h0 := by rw [← hh, Bd.state]; rfl
  have N0 := Fr.nil n0
  refine own_out ?_
  refine own_via (fun t k => castTop (ef_2 m w31) (XS.aloadN X0.here hx rfl (hb hby d2_0) rfl rfl k)) ?_
  obtain ⟨T74, X74, e74, st74⟩ := getF X0 hx hZ hown (host := "") (Or.inl (wd hw 18 rfl)) Via.refl e0 (SF_w31_code.ext O0.2) (g := (mkF m 1 #[rv w31] [(.ref w31)])) rfl rfl (hb hby d2_1)
  refine own_via (fun t k => st74 t k) ?_
  obtain ⟨fs, hr, hrun, hended, hW, hsame⟩ := X74.leave (v := some (.int (0 : Int32))) (fun h => by rw [Bd.returns] at h; cases h)
  refine own_end (t := T74.setFrames fs) ?_ ⟨_, hrun, hended, _, _, rfl, ?_, ⟨_, rfl⟩, hW, hsame.mono (by decide) (by decide)⟩
  · exact retI X74 hx Bd.returns (hb hby d2_4) hr
  · show Q4 Z w31 h0 n0 _ T74.heap _
    rw [e74]
    exact ⟨rfl, N0, rfl⟩
def Q5 (Z : State) (w28 : Addr) (w23 : Addr) (w21 : Addr) (h0 : Heap) (n0 : Nat) (v : Option Value) (h : Heap) (L : List Loc) : Prop := v = some (.ref w21) ∧ Fr n0 L ∧ h = h0
set_option maxRecDepth 65536 in
set_option maxHeartbeats 40000000 in
theorem rm5 (l : Launch) (Z : State) (a0 : Array Value) (hw : ∀ d ∈ tables_1, d.before a0 Z = true) (ws : List Jvm.Cond) (w28 : Addr) (w23 : Addr) (w21 : Addr) (h0 : Heap) (n0 : Nat) (O0 : Old Z n0 h0) (S_Verdict_UNIQUE : Sta Z Z.heap zs3 "UNIQUE" zs4 (.ref w23)) (SF_w28_ordinal : Fld Z Z.heap w28 zs6 "ordinal" "I" (.int (2 : Int32))) (SF_w23_ordinal : Fld Z Z.heap w23 zs6 "ordinal" "I" (.int (1 : Int32))) (S_ExitStatus_NOT_UNIQUE : Sta Z Z.heap zs1 "NOT_UNIQUE" zs5 (.ref w21)) :
    MetFree l (⟨zs1, "of", zs2⟩ : MethodName) (head1 (Jvm.Cond.code (⟨zs1, "of", zs2⟩ : MethodName) prog_4_method_4_code 1 (some (.object zs1)) :: ws) ({ frames := 0, cells := 0, slots := 0, locals := 0 } : Room)) (fun a U => a = #[(.ref w28)] ∧ Z.Warmed39 U.vm ∧ U.heap = h0) (fun _ _ _ _ _ => True) (fun _ U o U' => ∃ v L, o = .returned v ∧ Q5 Z w28 w23 w21 h0 n0 v U'.heap L ∧ FrameEnd U o U' L ({ frames := 0, cells := 0, slots := 0, locals := 0 } : Room).cells ({ frames := 0, cells := 0, slots := 0, locals := 0 } : Room).slots) := by
  refine MetFree.of_bodySF (plainFor_of_name pn_1) hisR ?_
  intro p e s m args below meth c s₁ Bd hml0 hP hK
  obtain ⟨rfl, hZ, hh⟩ := hP
  have hx := Bd.exec
  have hby := Bd.bytes
  have hml : c.maxLocals = 1 := hml0
  have hown : s.vm.findClass zs1 = some m.cls := findClass_of_methodNamed Bd.named
  have hnm := (name_of_methodNamed Bd.named Bd.method).1
  have X0 : Stand p l e ({ frames := 0, cells := 0, slots := 0, locals := 0 } : Room) s m #[(.ref w28)] below meth c s₁ [] 0 0 := Stand.of_body Bd
  have e0 : s₁.heap = h0 := by rw [← hh, Bd.state]; rfl
  have N0 := Fr.nil n0
  refine own_out ?_
  refine own_via (fun t k => castTop (ef_1 m w28) (XS.aloadN X0.here hx rfl (hb hby d1_0) rfl rfl k)) ?_
  obtain ⟨T85, X85, e85, st85⟩ := getS2 X0 hx hZ hown (host := "") (Or.inl (wd hw 10 rfl)) Via.refl e0 (S_Verdict_UNIQUE.ext O0.2) (g := (mkF m 1 #[rv w28] [(.ref w28)])) rfl (hb hby d1_1)
  refine own_via (fun t k => st85 t (Jvm.RoadKit.acmp (g := (mkF m 4 #[rv w28] [(.ref w23), (.ref w28)])) X85 hx rfl rfl rfl (pc0 := 4) (pc' := 13) (same := false) rfl (hb hby d1_4) rfl (decide_eq_false fun q => (Fld.ne SF_w28_ordinal SF_w23_ordinal (by decide)) (Value.ref.inj q)) (by decide) (by decide) k)) ?_
  obtain ⟨T86, X86, e86, st86⟩ := getS2 X85 hx hZ hown (host := "") (Or.inl (wd hw 12 rfl)) Via.refl e85 (S_ExitStatus_NOT_UNIQUE.ext O0.2) (g := (mkF m 13 #[rv w28] [])) rfl (hb hby d1_13)
  refine own_via (fun t k => st86 t k) ?_
  obtain ⟨fs, hr, hrun, hended, hW, hsame⟩ := X86.leave (v := some (.ref w21)) (fun h => by rw [Bd.returns] at h; cases h)
  refine own_end (t := T86.setFrames fs) ?_ ⟨_, hrun, hended, _, _, rfl, ?_, ⟨_, rfl⟩, hW, hsame.mono (by decide) (by decide)⟩
  · jvm_step X86.here [X86.here.top, hx, (hb hby d1_16), X86.method', Bd.returns, Value.isRef, FieldType.isReference]
    first | (intro acts; rw [hr _ acts rfl rfl rfl]) | rw [hr _ _ rfl rfl rfl]
    exact Steps.refl _
  · show Q5 Z w28 w23 w21 h0 n0 _ T86.heap _
    rw [e86]
    exact ⟨rfl, N0, rfl⟩
theorem ef_3 (m : MethodId) (x0 : Int32) : entryFrame m #[(.int x0)] maxLocals = mkF m 0 #[iv x0, .unset, .unset, .unset, .unset, .unset] [] := by first | (simp [entryFrame, mkF, argsToLocals, Value.category, maxLocals]; done) | rfl
theorem pn_2 : plainName "com/example/pencilmark/pencilmark/cli/ExitStatusOfPinLaw" = true := by first | (simp [plainName, overriddenIn]; done) | decide +kernel
set_option maxRecDepth 65536 in
set_option maxHeartbeats 40000000 in
theorem rm0 (l : Launch) (Z : State) (a0 : Array Value) (hw : ∀ d ∈ tables_1, d.before a0 Z = true) (ws : List Jvm.Cond) (i0 : Int32) (w19 : Addr) (w21 : Addr) (w23 : Addr) (w31 : Addr) (w28 : Addr) (h0 : Heap) (n0 : Nat) (O0 : Old Z n0 h0) (S_Verdict_NONE : Sta Z Z.heap zs3 "NONE" zs4 (.ref w19)) (S_ExitStatus_NOT_UNIQUE : Sta Z Z.heap zs1 "NOT_UNIQUE" zs5 (.ref w21)) (S_Verdict_UNIQUE : Sta Z Z.heap zs3 "UNIQUE" zs4 (.ref w23)) (SF_w19_ordinal : Fld Z Z.heap w19 zs6 "ordinal" "I" (.int (0 : Int32))) (SF_w23_ordinal : Fld Z Z.heap w23 zs6 "ordinal" "I" (.int (1 : Int32))) (SF_w21_code : Fld Z Z.heap w21 zs1 "code" "I" (.int (1 : Int32))) (SE_w21 : Exa Z Z.heap w21 zs1) (S_ExitStatus_OK : Sta Z Z.heap zs1 "OK" zs5 (.ref w31)) (SF_w31_code : Fld Z Z.heap w31 zs1 "code" "I" (.int (0 : Int32))) (SE_w31 : Exa Z Z.heap w31 zs1) (S_Verdict_MULTIPLE : Sta Z Z.heap zs3 "MULTIPLE" zs4 (.ref w28)) (SF_w28_ordinal : Fld Z Z.heap w28 zs6 "ordinal" "I" (.int (2 : Int32))) :
    MetFree l x (head1 (Jvm.Cond.code x code maxLocals ret :: ws) room_1) (fun a U => a = #[(.int i0)] ∧ Z.Warmed39 U.vm ∧ U.heap = h0) (fun _ _ _ _ _ => True) (fun _ U o U' => ∃ v L, o = .returned v ∧ own_Q0 n0 v L ∧ FrameEnd U o U' L room_1.cells room_1.slots) := by
  refine MetFree.of_bodySF (plainFor_of_name pn_2) hisR ?_
  intro p e s m args below meth c s₁ Bd hml0 hP hK
  obtain ⟨rfl, hZ, hh⟩ := hP
  have hx := Bd.exec
  have hby := Bd.bytes
  have hml : c.maxLocals = 6 := hml0
  have hown : s.vm.findClass "com/example/pencilmark/pencilmark/cli/ExitStatusOfPinLaw" = some m.cls := findClass_of_methodNamed Bd.named
  have hnm := (name_of_methodNamed Bd.named Bd.method).1
  have X0 : Stand p l e room_1 s m #[(.int i0)] below meth c s₁ [] 0 0 := Stand.of_body Bd
  have e0 : s₁.heap = h0 := by rw [← hh, Bd.state]; rfl
  have N0 := Fr.nil n0
  refine own_out ?_
  show own_Goes p e below _ (own_G s below n0)
  refine own_via (fun t k => castTop (ef_3 m i0) (XS.iloadN X0.here hx rfl (hb hby at_0) rfl (X0.ldcInt hx hown (mvT hZ (wd hw 0 rfl)) (g := (mkF m 1 #[iv i0, .unset, .unset, .unset, .unset, .unset] [(.int i0)])) rfl (hb hby at_1) t (XS.iand X0.here hx rfl (hb hby at_3) rfl (XS.iconst X0.here hx rfl (hb hby at_4) (iremM (g := (mkF m 5 #[iv i0, .unset, .unset, .unset, .unset, .unset] [(.int (3 : Int32)), (.int (i0 &&& (2147483647 : Int32)))])) X0 hx rfl (hb hby at_5) rfl (by decide) (XS.istoreN X0.here hx rfl (hb hby at_6) rfl (l' := #[iv i0, iv ((i0 &&& (2147483647 : Int32)) % (3 : Int32)), .unset, .unset, .unset, .unset]) rfl (XS.iloadN X0.here hx rfl (hb hby at_7) rfl k)))))))) ?_
  show own_Goes p e below (s₁.setTop (mkF m 8 #[iv i0, iv ((i0 &&& (2147483647 : Int32)) % (3 : Int32)), .unset, .unset, .unset, .unset] [(.int ((i0 &&& (2147483647 : Int32)) % (3 : Int32)))])) _
  by_cases hc34 : ((i0 &&& (2147483647 : Int32)) % (3 : Int32)) = (0 : Int32)
  · refine own_via (fun t k => XS.ifNo X0.here hx rfl (hb hby at_8) rfl ((if0 _ _).trans (teq hc34).2) k) ?_
    obtain ⟨T35, X35, e35, st35⟩ := getS2 X0 hx hZ hown (host := "") (Or.inl (wd hw 1 rfl)) Via.refl e0 (S_Verdict_NONE.ext O0.2) (g := (mkF m 11 #[iv i0, iv ((i0 &&& (2147483647 : Int32)) % (3 : Int32)), .unset, .unset, .unset, .unset] [])) rfl (hb hby at_11)
    refine own_via (fun t k => st35 t (XS.astoreN X35.here hx rfl (hb hby at_14) rfl rfl (l' := #[iv i0, iv ((i0 &&& (2147483647 : Int32)) % (3 : Int32)), rv w19, .unset, .unset, .unset]) rfl k)) ?_
    obtain ⟨T36, X36, e36, st36⟩ := getS2 X35 hx hZ hown (host := "") (Or.inl (wd hw 4 rfl)) Via.refl e35 (S_ExitStatus_NOT_UNIQUE.ext O0.2) (g := (mkF m 15 #[iv i0, iv ((i0 &&& (2147483647 : Int32)) % (3 : Int32)), rv w19, .unset, .unset, .unset] [])) rfl (hb hby at_15)
    refine own_via (fun t k => st36 t (XS.astoreN X36.here hx rfl (hb hby at_18) rfl rfl (l' := #[iv i0, iv ((i0 &&& (2147483647 : Int32)) % (3 : Int32)), rv w19, rv w21, .unset, .unset]) rfl (XS.iconst X36.here hx rfl (hb hby at_19) (XS.istore X36.here hx rfl (hb hby at_20) rfl (l' := #[iv i0, iv ((i0 &&& (2147483647 : Int32)) % (3 : Int32)), rv w19, rv w21, iv (1 : Int32), .unset]) rfl (XS.goto X36.here hx rfl (pc0 := 22) (pc' := 55) rfl (hb hby at_22) (by decide) (by decide) (XS.aloadN X36.here hx rfl (hb hby at_55) rfl rfl k)))))) ?_
    obtain ⟨_, T37, _, X37, hQ37, st37⟩ := own_cs X36 hx hZ hown (wd hw 7 rfl) (wd hw 8 rfl) (wd hw 9 rfl) (wd hw 5 rfl) (by decide) (rm1 l Z a0 hw [] w19 w23 w21 h0 n0 O0 S_Verdict_UNIQUE SF_w19_ordinal SF_w23_ordinal S_ExitStatus_NOT_UNIQUE) e36 (g := (mkF m 56 #[iv i0, iv ((i0 &&& (2147483647 : Int32)) % (3 : Int32)), rv w19, rv w21, iv (1 : Int32), .unset] [(.ref w19)])) rfl (by rw [hml]; rfl) (rest := []) (W := 0) (lenOf pd_1 rfl) rfl (by show 2 * 0 + _ ≤ _; exact Nat.le_of_eq rfl) (hb hby at_56) (by decide) (by decide) (by decide) (by decide)
    obtain ⟨rfl, Nq37, hh45⟩ := hQ37
    have N37 := Fr.app N0 Nq37
    refine own_via (fun t k => st37 t (XS.astore X37.here hx rfl (hb hby at_59) rfl rfl (l' := #[iv i0, iv ((i0 &&& (2147483647 : Int32)) % (3 : Int32)), rv w19, rv w21, iv (1 : Int32), rv w21]) rfl (XS.aload X37.here hx rfl (hb hby at_61) rfl rfl (XS.aloadN X37.here hx rfl (hb hby at_63) rfl rfl (Jvm.RoadKit.acmp (g := (mkF m 64 #[iv i0, iv ((i0 &&& (2147483647 : Int32)) % (3 : Int32)), rv w19, rv w21, iv (1 : Int32), rv w21] [(.ref w21), (.ref w21)])) X37 hx rfl rfl rfl (pc0 := 64) (pc' := 67) (same := true) rfl (hb hby at_64) rfl (decide_eq_true rfl) (by decide) (by decide) (XS.aload X37.here hx rfl (hb hby at_67) rfl rfl k)))))) ?_
    obtain ⟨_, T46, _, X46, hQ46, st46⟩ := own_cv X37 hx hZ hown (wd hw 13 rfl) (wd hw 14 rfl) (wd hw 16 rfl) (wd hw 15 rfl) (wd hw 17 rfl) (wd hw 5 rfl) (by decide) (rm2 l Z a0 hw [] w21 h0 n0 O0 SF_w21_code) hh45 (SE_w21.ext O0.2) (g := (mkF m 69 #[iv i0, iv ((i0 &&& (2147483647 : Int32)) % (3 : Int32)), rv w19, rv w21, iv (1 : Int32), rv w21] [(.ref w21)])) rfl (by rw [hml]; rfl) (rest := []) (W := 0) (lenOf pd_2 rfl) rfl (by show 2 * 0 + _ ≤ _; exact Nat.le_of_eq rfl) (hb hby at_69) (by decide) (by decide) (by decide) (by decide)
    obtain ⟨rfl, Nq46, hh53⟩ := hQ46
    have N46 := Fr.app N37 Nq46
    refine own_via (fun t k => st46 t (XS.iload X46.here hx rfl (hb hby at_72) rfl (XS.icmpNo X46.here hx rfl (hb hby at_74) rfl (teq (by decide : (1 : Int32) = (1 : Int32))).2 (XS.iconst X46.here hx rfl (hb hby at_77) (XS.goto X46.here hx rfl (pc0 := 78) (pc' := 82) rfl (hb hby at_78) (by decide) (by decide) k))))) ?_
    obtain ⟨fs, hr, hrun, hended, hW, hsame⟩ := X46.leave (v := some (.int (1 : Int32))) (fun h => by rw [Bd.returns] at h; cases h)
    refine own_end (t := T46.setFrames fs) ?_ ⟨_, hrun, hended, _, _, rfl, ?_, ⟨_, rfl⟩, hW, hsame.mono (by decide) (by decide)⟩
    · exact retN X46 hx (t := .boolean) Bd.returns (by simp) (hb hby at_82) hr
    · exact ⟨rfl, N46⟩
  · refine own_via (fun t k => XS.ifYes X0.here hx rfl (pc0 := 8) (pc' := 25) rfl (hb hby at_8) rfl ((if0 _ _).trans (feq hc34).2) (by decide) (by decide) (XS.iloadN X0.here hx rfl (hb hby at_25) rfl (XS.iconst X0.here hx rfl (hb hby at_26) k))) ?_
    show own_Goes p e below (s₁.setTop (mkF m 27 #[iv i0, iv ((i0 &&& (2147483647 : Int32)) % (3 : Int32)), .unset, .unset, .unset, .unset] [(.int (1 : Int32)), (.int ((i0 &&& (2147483647 : Int32)) % (3 : Int32)))])) _
    by_cases hc54 : ((i0 &&& (2147483647 : Int32)) % (3 : Int32)) = (1 : Int32)
    · refine own_via (fun t k => XS.icmpNo X0.here hx rfl (hb hby at_27) rfl (teq hc54).2 k) ?_
      obtain ⟨T55, X55, e55, st55⟩ := getS2 X0 hx hZ hown (host := "") (Or.inl (wd hw 22 rfl)) Via.refl e0 (S_Verdict_UNIQUE.ext O0.2) (g := (mkF m 30 #[iv i0, iv ((i0 &&& (2147483647 : Int32)) % (3 : Int32)), .unset, .unset, .unset, .unset] [])) rfl (hb hby at_30)
      refine own_via (fun t k => st55 t (XS.astoreN X55.here hx rfl (hb hby at_33) rfl rfl (l' := #[iv i0, iv ((i0 &&& (2147483647 : Int32)) % (3 : Int32)), rv w23, .unset, .unset, .unset]) rfl k)) ?_
      obtain ⟨T56, X56, e56, st56⟩ := getS2 X55 hx hZ hown (host := "") (Or.inl (wd hw 23 rfl)) Via.refl e55 (S_ExitStatus_OK.ext O0.2) (g := (mkF m 34 #[iv i0, iv ((i0 &&& (2147483647 : Int32)) % (3 : Int32)), rv w23, .unset, .unset, .unset] [])) rfl (hb hby at_34)
      refine own_via (fun t k => st56 t (XS.astoreN X56.here hx rfl (hb hby at_37) rfl rfl (l' := #[iv i0, iv ((i0 &&& (2147483647 : Int32)) % (3 : Int32)), rv w23, rv w31, .unset, .unset]) rfl (XS.iconst X56.here hx rfl (hb hby at_38) (XS.istore X56.here hx rfl (hb hby at_39) rfl (l' := #[iv i0, iv ((i0 &&& (2147483647 : Int32)) % (3 : Int32)), rv w23, rv w31, iv (0 : Int32), .unset]) rfl (XS.goto X56.here hx rfl (pc0 := 41) (pc' := 55) rfl (hb hby at_41) (by decide) (by decide) (XS.aloadN X56.here hx rfl (hb hby at_55) rfl rfl k)))))) ?_
      obtain ⟨_, T57, _, X57, hQ57, st57⟩ := own_cs X56 hx hZ hown (wd hw 7 rfl) (wd hw 8 rfl) (wd hw 9 rfl) (wd hw 5 rfl) (by decide) (rm3 l Z a0 hw [] w23 w31 h0 n0 O0 S_Verdict_UNIQUE S_ExitStatus_OK) e56 (g := (mkF m 56 #[iv i0, iv ((i0 &&& (2147483647 : Int32)) % (3 : Int32)), rv w23, rv w31, iv (0 : Int32), .unset] [(.ref w23)])) rfl (by rw [hml]; rfl) (rest := []) (W := 0) (lenOf pd_1 rfl) rfl (by show 2 * 0 + _ ≤ _; exact Nat.le_of_eq rfl) (hb hby at_56) (by decide) (by decide) (by decide) (by decide)
      obtain ⟨rfl, Nq57, hh66⟩ := hQ57
      have N57 := Fr.app N0 Nq57
      refine own_via (fun t k => st57 t (XS.astore X57.here hx rfl (hb hby at_59) rfl rfl (l' := #[iv i0, iv ((i0 &&& (2147483647 : Int32)) % (3 : Int32)), rv w23, rv w31, iv (0 : Int32), rv w31]) rfl (XS.aload X57.here hx rfl (hb hby at_61) rfl rfl (XS.aloadN X57.here hx rfl (hb hby at_63) rfl rfl (Jvm.RoadKit.acmp (g := (mkF m 64 #[iv i0, iv ((i0 &&& (2147483647 : Int32)) % (3 : Int32)), rv w23, rv w31, iv (0 : Int32), rv w31] [(.ref w31), (.ref w31)])) X57 hx rfl rfl rfl (pc0 := 64) (pc' := 67) (same := true) rfl (hb hby at_64) rfl (decide_eq_true rfl) (by decide) (by decide) (XS.aload X57.here hx rfl (hb hby at_67) rfl rfl k)))))) ?_
      obtain ⟨_, T67, _, X67, hQ67, st67⟩ := own_cv X57 hx hZ hown (wd hw 13 rfl) (wd hw 14 rfl) (wd hw 16 rfl) (wd hw 15 rfl) (wd hw 17 rfl) (wd hw 5 rfl) (by decide) (rm4 l Z a0 hw [] w31 h0 n0 O0 SF_w31_code) hh66 (SE_w31.ext O0.2) (g := (mkF m 69 #[iv i0, iv ((i0 &&& (2147483647 : Int32)) % (3 : Int32)), rv w23, rv w31, iv (0 : Int32), rv w31] [(.ref w31)])) rfl (by rw [hml]; rfl) (rest := []) (W := 0) (lenOf pd_2 rfl) rfl (by show 2 * 0 + _ ≤ _; exact Nat.le_of_eq rfl) (hb hby at_69) (by decide) (by decide) (by decide) (by decide)
      obtain ⟨rfl, Nq67, hh75⟩ := hQ67
      have N67 := Fr.app N57 Nq67
      refine own_via (fun t k => st67 t (XS.iload X67.here hx rfl (hb hby at_72) rfl (XS.icmpNo X67.here hx rfl (hb hby at_74) rfl (teq (by decide : (0 : Int32) = (0 : Int32))).2 (XS.iconst X67.here hx rfl (hb hby at_77) (XS.goto X67.here hx rfl (pc0 := 78) (pc' := 82) rfl (hb hby at_78) (by decide) (by decide) k))))) ?_
      obtain ⟨fs, hr, hrun, hended, hW, hsame⟩ := X67.leave (v := some (.int (1 : Int32))) (fun h => by rw [Bd.returns] at h; cases h)
      refine own_end (t := T67.setFrames fs) ?_ ⟨_, hrun, hended, _, _, rfl, ?_, ⟨_, rfl⟩, hW, hsame.mono (by decide) (by decide)⟩
      · exact retN X67 hx (t := .boolean) Bd.returns (by simp) (hb hby at_82) hr
      · exact ⟨rfl, N67⟩
    · refine own_via (fun t k => XS.icmpYes X0.here hx rfl (pc0 := 27) (pc' := 44) rfl (hb hby at_27) rfl (feq hc54).2 (by decide) (by decide) k) ?_
      obtain ⟨T76, X76, e76, st76⟩ := getS2 X0 hx hZ hown (host := "") (Or.inl (wd hw 20 rfl)) Via.refl e0 (S_Verdict_MULTIPLE.ext O0.2) (g := (mkF m 44 #[iv i0, iv ((i0 &&& (2147483647 : Int32)) % (3 : Int32)), .unset, .unset, .unset, .unset] [])) rfl (hb hby at_44)
      refine own_via (fun t k => st76 t (XS.astoreN X76.here hx rfl (hb hby at_47) rfl rfl (l' := #[iv i0, iv ((i0 &&& (2147483647 : Int32)) % (3 : Int32)), rv w28, .unset, .unset, .unset]) rfl k)) ?_
      obtain ⟨T77, X77, e77, st77⟩ := getS2 X76 hx hZ hown (host := "") (Or.inl (wd hw 4 rfl)) Via.refl e76 (S_ExitStatus_NOT_UNIQUE.ext O0.2) (g := (mkF m 48 #[iv i0, iv ((i0 &&& (2147483647 : Int32)) % (3 : Int32)), rv w28, .unset, .unset, .unset] [])) rfl (hb hby at_48)
      refine own_via (fun t k => st77 t (XS.astoreN X77.here hx rfl (hb hby at_51) rfl rfl (l' := #[iv i0, iv ((i0 &&& (2147483647 : Int32)) % (3 : Int32)), rv w28, rv w21, .unset, .unset]) rfl (XS.iconst X77.here hx rfl (hb hby at_52) (XS.istore X77.here hx rfl (hb hby at_53) rfl (l' := #[iv i0, iv ((i0 &&& (2147483647 : Int32)) % (3 : Int32)), rv w28, rv w21, iv (1 : Int32), .unset]) rfl (XS.aloadN X77.here hx rfl (hb hby at_55) rfl rfl k))))) ?_
      obtain ⟨_, T78, _, X78, hQ78, st78⟩ := own_cs X77 hx hZ hown (wd hw 7 rfl) (wd hw 8 rfl) (wd hw 9 rfl) (wd hw 5 rfl) (by decide) (rm5 l Z a0 hw [] w28 w23 w21 h0 n0 O0 S_Verdict_UNIQUE SF_w28_ordinal SF_w23_ordinal S_ExitStatus_NOT_UNIQUE) e77 (g := (mkF m 56 #[iv i0, iv ((i0 &&& (2147483647 : Int32)) % (3 : Int32)), rv w28, rv w21, iv (1 : Int32), .unset] [(.ref w28)])) rfl (by rw [hml]; rfl) (rest := []) (W := 0) (lenOf pd_1 rfl) rfl (by show 2 * 0 + _ ≤ _; exact Nat.le_of_eq rfl) (hb hby at_56) (by decide) (by decide) (by decide) (by decide)
      obtain ⟨rfl, Nq78, hh87⟩ := hQ78
      have N78 := Fr.app N0 Nq78
      refine own_via (fun t k => st78 t (XS.astore X78.here hx rfl (hb hby at_59) rfl rfl (l' := #[iv i0, iv ((i0 &&& (2147483647 : Int32)) % (3 : Int32)), rv w28, rv w21, iv (1 : Int32), rv w21]) rfl (XS.aload X78.here hx rfl (hb hby at_61) rfl rfl (XS.aloadN X78.here hx rfl (hb hby at_63) rfl rfl (Jvm.RoadKit.acmp (g := (mkF m 64 #[iv i0, iv ((i0 &&& (2147483647 : Int32)) % (3 : Int32)), rv w28, rv w21, iv (1 : Int32), rv w21] [(.ref w21), (.ref w21)])) X78 hx rfl rfl rfl (pc0 := 64) (pc' := 67) (same := true) rfl (hb hby at_64) rfl (decide_eq_true rfl) (by decide) (by decide) (XS.aload X78.here hx rfl (hb hby at_67) rfl rfl k)))))) ?_
      obtain ⟨_, T88, _, X88, hQ88, st88⟩ := own_cv X78 hx hZ hown (wd hw 13 rfl) (wd hw 14 rfl) (wd hw 16 rfl) (wd hw 15 rfl) (wd hw 17 rfl) (wd hw 5 rfl) (by decide) (rm2 l Z a0 hw [] w21 h0 n0 O0 SF_w21_code) hh87 (SE_w21.ext O0.2) (g := (mkF m 69 #[iv i0, iv ((i0 &&& (2147483647 : Int32)) % (3 : Int32)), rv w28, rv w21, iv (1 : Int32), rv w21] [(.ref w21)])) rfl (by rw [hml]; rfl) (rest := []) (W := 0) (lenOf pd_2 rfl) rfl (by show 2 * 0 + _ ≤ _; exact Nat.le_of_eq rfl) (hb hby at_69) (by decide) (by decide) (by decide) (by decide)
      obtain ⟨rfl, Nq88, hh89⟩ := hQ88
      have N88 := Fr.app N78 Nq88
      refine own_via (fun t k => st88 t (XS.iload X88.here hx rfl (hb hby at_72) rfl (XS.icmpNo X88.here hx rfl (hb hby at_74) rfl (teq (by decide : (1 : Int32) = (1 : Int32))).2 (XS.iconst X88.here hx rfl (hb hby at_77) (XS.goto X88.here hx rfl (pc0 := 78) (pc' := 82) rfl (hb hby at_78) (by decide) (by decide) k))))) ?_
      obtain ⟨fs, hr, hrun, hended, hW, hsame⟩ := X88.leave (v := some (.int (1 : Int32))) (fun h => by rw [Bd.returns] at h; cases h)
      refine own_end (t := T88.setFrames fs) ?_ ⟨_, hrun, hended, _, _, rfl, ?_, ⟨_, rfl⟩, hW, hsame.mono (by decide) (by decide)⟩
      · exact retN X88 hx (t := .boolean) Bd.returns (by simp) (hb hby at_82) hr
      · exact ⟨rfl, N88⟩
set_option maxRecDepth 65536 in
set_option maxHeartbeats 40000000 in
theorem comes_1 {Post : Tables → Env → Array Value → State → Outcome → State → Prop} (hpost : ∀ tb e args s v u, (limb_1_1.after args s (.returned v) u = true ∧ limb_1_2.after args s (.returned v) u = true ∧ True) → FrameEnd s (.returned v) u (Jvm.fieldLocs frame_1_writes args s ++ Jvm.arrayLocs frame_1_arrays args s ++ Jvm.staticLocs frame_1_statics s) 0 0 → Post tb e args s (.returned v) u) :
    ArmFor flags0 classFile x code maxLocals ret World_1 tables_1 room_1 Calls_1 rest_1 Pre_1 Post := by
  intro l hfl _ _ p e ha hc hk s m args below hf hA hF happ hP
  obtain ⟨hcalls, hrest, hpre⟩ := hP
  obtain ⟨-, -, -, hnamed, -, -, -, hat⟩ := (Spec.applies_iff hf).mp happ
  obtain ⟨hg, hn⟩ := and_e (Cond.before_iff.mp (show (Jvm.Cond.and given_1 narrow_1).before args s = true from hpre))
  obtain ⟨g90, g91⟩ := and_e hg
  obtain ⟨w0, rfl⟩ : ∃ w0 : Value, args = #[w0] := by
    have hs : args.size = 1 := by simpa [Cond.value, given_1] using g90
    obtain ⟨L⟩ := args
    match L, hs with
    | [w0], _ => exact ⟨w0, rfl⟩
  have hw := fun d (hd : d ∈ tables_1) => atoms_spec (ws := Jvm.Cond.code x code maxLocals ret :: tables_1) hat d (List.mem_cons_of_mem _ hd)
  have hfit : Fit s := fun {y c} hc i hi => by
    obtain ⟨ha, rfl⟩ := Array.getElem?_eq_some_iff.mp hc
    have q := List.all_eq_true.mp ((Array.all_eq_true_iff_forall_mem.mp hF) _ (Array.getElem_mem ha)) i (List.mem_range.mpr hi)
    simpa [Array.getElem?_eq_getElem hi] using q
  obtain ⟨n1, n2⟩ := and_e hn
  obtain ⟨n3, n4⟩ := and_e n2
  obtain ⟨n5, n6⟩ := and_e n4
  obtain ⟨n7, n8⟩ := and_e n6
  obtain ⟨n9, n10⟩ := and_e n8
  obtain ⟨n11, n12⟩ := and_e n10
  obtain ⟨n13, n14⟩ := and_e n12
  obtain ⟨n15, n16⟩ := and_e n14
  obtain ⟨n17, n18⟩ := and_e n16
  obtain ⟨w19, ev20⟩ := exa_v n1
  have S_Verdict_NONE : Sta s s.heap zs3 "NONE" zs4 (.ref w19) := Sta.start ev20 (Or.inr ⟨(wd hw 2 rfl), (wd hw 3 rfl)⟩)
  have SE_w19 : Exa s s.heap w19 zs3 := Exa.start ev20 n1
  obtain ⟨w21, ev22⟩ := exa_v n3
  have S_ExitStatus_NOT_UNIQUE : Sta s s.heap zs1 "NOT_UNIQUE" zs5 (.ref w21) := Sta.start ev22 (Or.inr ⟨(wd hw 5 rfl), (wd hw 6 rfl)⟩)
  have SE_w21 : Exa s s.heap w21 zs1 := Exa.start ev22 n3
  obtain ⟨w23, ev24⟩ := exa_v n5
  have S_Verdict_UNIQUE : Sta s s.heap zs3 "UNIQUE" zs4 (.ref w23) := Sta.start ev24 (Or.inr ⟨(wd hw 2 rfl), (wd hw 11 rfl)⟩)
  have SE_w23 : Exa s s.heap w23 zs3 := Exa.start ev24 n5
  have ev25 := Cond.eq_int (show (Jvm.Cond.eq _ _).holds _ _ _ _ _ = true from Cond.before_iff.mpr n7) rfl
  have SF_w19_ordinal : Fld s s.heap w19 zs6 "ordinal" "I" (.int (0 : Int32)) := Fld.start ((fld_at ev20).symm.trans ev25)
  have ev26 := Cond.eq_int (show (Jvm.Cond.eq _ _).holds _ _ _ _ _ = true from Cond.before_iff.mpr n9) rfl
  have SF_w23_ordinal : Fld s s.heap w23 zs6 "ordinal" "I" (.int (1 : Int32)) := Fld.start ((fld_at ev24).symm.trans ev26)
  have ev27 := Cond.eq_int (show (Jvm.Cond.eq _ _).holds _ _ _ _ _ = true from Cond.before_iff.mpr n11) rfl
  have SF_w21_code : Fld s s.heap w21 zs1 "code" "I" (.int (1 : Int32)) := Fld.start ((fld_at ev22).symm.trans ev27)
  obtain ⟨w28, ev29⟩ := exa_v n13
  have S_Verdict_MULTIPLE : Sta s s.heap zs3 "MULTIPLE" zs4 (.ref w28) := Sta.start ev29 (Or.inr ⟨(wd hw 2 rfl), (wd hw 21 rfl)⟩)
  have SE_w28 : Exa s s.heap w28 zs3 := Exa.start ev29 n13
  have ev30 := Cond.eq_int (show (Jvm.Cond.eq _ _).holds _ _ _ _ _ = true from Cond.before_iff.mpr n15) rfl
  have SF_w28_ordinal : Fld s s.heap w28 zs6 "ordinal" "I" (.int (2 : Int32)) := Fld.start ((fld_at ev29).symm.trans ev30)
  obtain ⟨w31, ev32⟩ := exa_v n17
  have S_ExitStatus_OK : Sta s s.heap zs1 "OK" zs5 (.ref w31) := Sta.start ev32 (Or.inr ⟨(wd hw 5 rfl), (wd hw 24 rfl)⟩)
  have SE_w31 : Exa s s.heap w31 zs1 := Exa.start ev32 n17
  have ev33 := Cond.eq_int (show (Jvm.Cond.eq _ _).holds _ _ _ _ _ = true from Cond.before_iff.mpr n18) rfl
  have SF_w31_code : Fld s s.heap w31 zs1 "code" "I" (.int (0 : Int32)) := Fld.start ((fld_at ev32).symm.trans ev33)
  obtain ⟨i0, ei0⟩ := is_v g91
  obtain rfl : w0 = (.int i0) := Option.some.inj ei0
  obtain ⟨n, o, h1, h2, h3, _, L, rfl, ⟨rfl, N⟩, hq⟩ := rm0 l s _ hw tables_1 i0 w19 w21 w23 w31 w28 s.heap s.heap.size (Old.start s) S_Verdict_NONE S_ExitStatus_NOT_UNIQUE S_Verdict_UNIQUE SF_w19_ordinal SF_w23_ordinal SF_w21_code SE_w21 S_ExitStatus_OK SF_w31_code SE_w31 S_Verdict_MULTIPLE SF_w28_ordinal p e ha hc hk s m _ below hf ((Spec.applies_iff_loose hf).mp happ).1 ⟨rfl, State.Warmed39.refl s, rfl⟩ trivial
  refine ⟨n, _, h1, h2, h3, hpost _ _ _ _ _ _ ⟨Cond.after_iff.mpr rfl, Cond.after_iff.mpr (eq_i res_at (Term.int_eval (1)) rfl), trivial⟩ ⟨hq.1, hq.2.1, (hq.2.2.sift fun y hy => Or.inr (N y hy)).mono (by decide) (by decide)⟩⟩
theorem main_1_1 : Claimed_1_1 := comes_1 fun _ _ _ _ _ _ h hF => ⟨h.1, hF⟩
theorem main_1_2 : Claimed_1_2 := comes_1 fun _ _ _ _ _ _ h hF => ⟨h.2.1, hF⟩
end Jvm.Pilot.@@N@@
namespace Jvm.Pilot.@@N@@
open Jvm Jvm.ClassFile Sem Op Lib Jvm.Free Jvm.Stand Jvm.Pilot.@@N@@.Jvm.D
/-! MADE BY PROGRAM (witnessworld.py) out of the Statement's table words and the real class files: 13 classes; the members and pool entries that the words name. The judged class is class 1, her method 1. -/
namespace start1
open Jvm.ClassFile
def u (s : String) : CpInfo := .utf8 (stringToUtf16 s)
/-- a pool by its gaps: so many unusable entries, then the entry; so many at the end -/
def gap : Nat → List CpInfo → List CpInfo
  | 0, r => r
  | n + 1, r => .unusable :: gap n r
def poolList (es : List (Nat × CpInfo)) (last : Nat) : List CpInfo := es.foldr (fun e r => gap e.1 (e.2 :: r)) (gap last [])
def pool (es : List (Nat × CpInfo)) (last : Nat) : Array CpInfo := ⟨poolList es last⟩
def fileOf (pool : Array CpInfo) (this : Nat) (attrs : Array Attribute := #[]) (ms : Array MethodInfo := #[]) (fl : Nat := 33) (sup : Nat := 0) (ifs : Array Nat := #[]) (fds : Array FieldInfo := #[]) : ClassFile where
  minorVersion := 0
  majorVersion := 65
  constantPool := pool
  accessFlags := fl
  thisClass := this
  superClass := sup
  interfaces := ifs
  fields := fds
  methods := ms
  attributes := attrs
def plain (name : String) (sup : Option ClassId) : Class where
  name := name
  kind := .ordinary
  loader := none
  accessFlags := 33
  super := sup
  interfaces := #[]
  cf := none
  fields := #[]
  methods := #[]
  instanceTypes := #[]
  staticTypes := #[]
  resolved := #[]
  callSites := []
  init := .initialized
  statics := none
  mirror := none

def pool0 : Array CpInfo := pool [(5, u "<init>"), (0, u "()V"), (1, .class_ 10), (1, u "java/lang/Object")] 113

def k0m0 : Method := { name := "<init>", desc := "()V", sig := { parameters := [], returnType := none }, accessFlags := 1, code := none }
/-- java/lang/Object -/
def k0 : Class := { plain "java/lang/Object" none with
  accessFlags := 33
  interfaces := #[]
  cf := some (fileOf pool0 8 #[] #[{ accessFlags := 1, nameIndex := 5, descriptorIndex := 6, attributes := #[] }] 33 0 #[] #[])
  fields := #[]
  methods := #[k0m0]
  instanceTypes := #[]
  staticTypes := #[]
  resolved := Array.replicate 124 none
  statics := none }

def pool1 : Array CpInfo := pool [(2, .class_ 4), (1, u "java/lang/Object"), (0, u "<init>"), (0, u "()V"), (0, .integer 2147483647), (0, .fieldref 9 10), (0, .class_ 11), (0, .nameAndType 12 13), (0, u "com/example/pencilmark/pencilmark/search/Verdict"), (0, u "NONE"), (0, u "Lcom/example/pencilmark/pencilmark/search/Verdict;"), (0, .fieldref 15 16), (0, .class_ 17), (0, .nameAndType 18 19), (0, u "com/example/pencilmark/pencilmark/cli/ExitStatus"), (0, u "NOT_UNIQUE"), (0, u "Lcom/example/pencilmark/pencilmark/cli/ExitStatus;"), (0, .fieldref 9 21), (0, .nameAndType 22 13), (0, u "UNIQUE"), (0, .fieldref 15 24), (0, .nameAndType 25 19), (0, u "OK"), (0, .fieldref 9 27), (0, .nameAndType 28 13), (0, u "MULTIPLE"), (0, .methodref 15 30), (0, .nameAndType 31 32), (0, u "of"), (0, u "(Lcom/example/pencilmark/pencilmark/search/Verdict;)Lcom/example/pencilmark/pencilmark/cli/ExitStatus;"), (0, .methodref 15 34), (0, .nameAndType 35 36), (0, u "code"), (0, u "()I"), (0, .class_ 38), (0, u "com/example/pencilmark/pencilmark/cli/ExitStatusOfPinLaw"), (2, u "law"), (0, u "(I)Z")] 3

def k1m0 : Method := { name := "<init>", desc := "()V", sig := { parameters := [], returnType := none }, accessFlags := 1, code := none }
def k1c1 : Code := { maxStack := 2, maxLocals := 6, code := code, exceptionTable := #[], attributes := #[] }
def k1m1 : Method := { name := "law", desc := "(I)Z", sig := { parameters := [.int], returnType := some .boolean }, accessFlags := 9, code := some k1c1 }
/-- com/example/pencilmark/pencilmark/cli/ExitStatusOfPinLaw -/
def k1 : Class := { plain "com/example/pencilmark/pencilmark/cli/ExitStatusOfPinLaw" (some 0) with
  accessFlags := 49
  interfaces := #[]
  cf := some (fileOf pool1 37 #[] #[{ accessFlags := 1, nameIndex := 5, descriptorIndex := 6, attributes := #[] }, { accessFlags := 9, nameIndex := 41, descriptorIndex := 42, attributes := #[] }] 49 2 #[] #[])
  fields := #[]
  methods := #[k1m0, k1m1]
  instanceTypes := #[]
  staticTypes := #[]
  resolved := Array.replicate 46 none
  statics := none }

def pool2 : Array CpInfo := pool [(1, .class_ 2), (0, u "java/lang/constant/Constable"), (0, .class_ 4), (0, u "java/lang/Object")] 6

/-- java/lang/constant/Constable -/
def k2 : Class := { plain "java/lang/constant/Constable" (some 0) with
  accessFlags := 1537
  interfaces := #[]
  cf := some (fileOf pool2 1 #[] #[] 1537 3 #[] #[])
  fields := #[]
  methods := #[]
  instanceTypes := #[]
  staticTypes := #[]
  resolved := Array.replicate 11 none
  statics := none }

def pool3 : Array CpInfo := pool [(1, .class_ 2), (0, u "java/lang/Comparable"), (0, .class_ 4), (0, u "java/lang/Object")] 7

/-- java/lang/Comparable -/
def k3 : Class := { plain "java/lang/Comparable" (some 0) with
  accessFlags := 1537
  interfaces := #[]
  cf := some (fileOf pool3 1 #[] #[] 1537 3 #[] #[])
  fields := #[]
  methods := #[]
  instanceTypes := #[]
  staticTypes := #[]
  resolved := Array.replicate 12 none
  statics := none }

def pool4 : Array CpInfo := pool [(1, .class_ 2), (0, u "java/io/Serializable"), (0, .class_ 4), (0, u "java/lang/Object")] 2

/-- java/io/Serializable -/
def k4 : Class := { plain "java/io/Serializable" (some 0) with
  accessFlags := 1537
  interfaces := #[]
  cf := some (fileOf pool4 1 #[] #[] 1537 3 #[] #[])
  fields := #[]
  methods := #[]
  instanceTypes := #[]
  staticTypes := #[]
  resolved := Array.replicate 7 none
  statics := none }

def pool5 : Array CpInfo := pool [(2, .class_ 4), (1, u "java/lang/Enum"), (0, u "name"), (0, u "Ljava/lang/String;"), (2, u "ordinal"), (0, u "I"), (1, .class_ 14), (1, u "java/lang/Object"), (4, u "hash"), (86, .class_ 108), (1, u "java/lang/Enum$EnumDesc"), (2, .class_ 112), (0, u "java/lang/constant/Constable"), (0, .class_ 114), (0, u "java/lang/Comparable"), (0, .class_ 116), (0, u "java/io/Serializable")] 87

/-- java/lang/Enum -/
def k5 : Class := { plain "java/lang/Enum" (some 0) with
  accessFlags := 1057
  interfaces := #[2, 3, 4]
  cf := some (fileOf pool5 2 #[.nestMembers #[106]] #[] 1057 12 #[111, 113, 115] #[{ accessFlags := 18, nameIndex := 5, descriptorIndex := 6, attributes := #[] }, { accessFlags := 18, nameIndex := 9, descriptorIndex := 10, attributes := #[] }, { accessFlags := 2, nameIndex := 19, descriptorIndex := 10, attributes := #[] }])
  fields := #[{ name := "name", type := (.object "java/lang/String"), accessFlags := 18, slot := 0, constantValue := 0 }, { name := "ordinal", type := .int, accessFlags := 18, slot := 1, constantValue := 0 }, { name := "hash", type := .int, accessFlags := 2, slot := 2, constantValue := 0 }]
  methods := #[]
  instanceTypes := #[(.object "java/lang/String"), .int, .int]
  staticTypes := #[]
  resolved := Array.replicate 204 none
  statics := none }

def pool6 : Array CpInfo := pool [(1, .class_ 2), (0, u "com/example/pencilmark/pencilmark/search/Verdict"), (2, u "NONE"), (0, u "Lcom/example/pencilmark/pencilmark/search/Verdict;"), (2, u "UNIQUE"), (2, u "MULTIPLE"), (2, u "$VALUES"), (0, u "[Lcom/example/pencilmark/pencilmark/search/Verdict;"), (6, .class_ 25), (1, u "java/lang/Enum")] 25

/-- com/example/pencilmark/pencilmark/search/Verdict -/
def k6 : Class := { plain "com/example/pencilmark/pencilmark/search/Verdict" (some 5) with
  accessFlags := 16433
  interfaces := #[]
  cf := some (fileOf pool6 1 #[] #[] 16433 23 #[] #[{ accessFlags := 16409, nameIndex := 5, descriptorIndex := 6, attributes := #[] }, { accessFlags := 16409, nameIndex := 9, descriptorIndex := 6, attributes := #[] }, { accessFlags := 16409, nameIndex := 12, descriptorIndex := 6, attributes := #[] }, { accessFlags := 4122, nameIndex := 15, descriptorIndex := 16, attributes := #[] }])
  fields := #[{ name := "NONE", type := (.object "com/example/pencilmark/pencilmark/search/Verdict"), accessFlags := 16409, slot := 0, constantValue := 0 }, { name := "UNIQUE", type := (.object "com/example/pencilmark/pencilmark/search/Verdict"), accessFlags := 16409, slot := 1, constantValue := 0 }, { name := "MULTIPLE", type := (.object "com/example/pencilmark/pencilmark/search/Verdict"), accessFlags := 16409, slot := 2, constantValue := 0 }, { name := "$VALUES", type := (.array (.object "com/example/pencilmark/pencilmark/search/Verdict")), accessFlags := 4122, slot := 3, constantValue := 0 }]
  methods := #[]
  instanceTypes := #[(.object "java/lang/String"), .int, .int]
  staticTypes := #[(.object "com/example/pencilmark/pencilmark/search/Verdict"), (.object "com/example/pencilmark/pencilmark/search/Verdict"), (.object "com/example/pencilmark/pencilmark/search/Verdict"), (.array (.object "com/example/pencilmark/pencilmark/search/Verdict"))]
  resolved := Array.replicate 51 none
  statics := some 0 }

def pool7 : Array CpInfo := pool [(1, .class_ 2), (0, u "com/example/pencilmark/pencilmark/cli/ExitStatus"), (0, .fieldref 1 4), (0, .nameAndType 5 6), (0, u "OK"), (0, u "Lcom/example/pencilmark/pencilmark/cli/ExitStatus;"), (0, .fieldref 1 8), (0, .nameAndType 9 6), (0, u "NOT_UNIQUE"), (2, u "INVALID"), (2, u "$VALUES"), (0, u "[Lcom/example/pencilmark/pencilmark/cli/ExitStatus;"), (6, .class_ 25), (1, u "java/lang/Enum"), (6, .fieldref 1 33), (0, .nameAndType 34 35), (0, u "code"), (0, u "I"), (0, .fieldref 37 38), (0, .class_ 39), (0, .nameAndType 40 41), (0, u "com/example/pencilmark/pencilmark/search/Verdict"), (0, u "UNIQUE"), (0, u "Lcom/example/pencilmark/pencilmark/search/Verdict;"), (17, u "of"), (0, u "(Lcom/example/pencilmark/pencilmark/search/Verdict;)Lcom/example/pencilmark/pencilmark/cli/ExitStatus;"), (1, u "()I")] 7

def k7c0 : Code := { maxStack := 2, maxLocals := 1, code := prog_4_method_4_code, exceptionTable := #[], attributes := #[] }
def k7m0 : Method := { name := "of", desc := "(Lcom/example/pencilmark/pencilmark/search/Verdict;)Lcom/example/pencilmark/pencilmark/cli/ExitStatus;", sig := { parameters := [(.object "com/example/pencilmark/pencilmark/search/Verdict")], returnType := some (.object "com/example/pencilmark/pencilmark/cli/ExitStatus") }, accessFlags := 9, code := some k7c0 }
def k7c1 : Code := { maxStack := 1, maxLocals := 1, code := prog_4_method_5_code, exceptionTable := #[], attributes := #[] }
def k7m1 : Method := { name := "code", desc := "()I", sig := { parameters := [], returnType := some .int }, accessFlags := 1, code := some k7c1 }
/-- com/example/pencilmark/pencilmark/cli/ExitStatus -/
def k7 : Class := { plain "com/example/pencilmark/pencilmark/cli/ExitStatus" (some 5) with
  accessFlags := 16433
  interfaces := #[]
  cf := some (fileOf pool7 1 #[] #[{ accessFlags := 9, nameIndex := 59, descriptorIndex := 60, attributes := #[] }, { accessFlags := 1, nameIndex := 34, descriptorIndex := 62, attributes := #[] }] 16433 23 #[] #[{ accessFlags := 16409, nameIndex := 5, descriptorIndex := 6, attributes := #[] }, { accessFlags := 16409, nameIndex := 9, descriptorIndex := 6, attributes := #[] }, { accessFlags := 16409, nameIndex := 12, descriptorIndex := 6, attributes := #[] }, { accessFlags := 18, nameIndex := 34, descriptorIndex := 35, attributes := #[] }, { accessFlags := 4122, nameIndex := 15, descriptorIndex := 16, attributes := #[] }])
  fields := #[{ name := "OK", type := (.object "com/example/pencilmark/pencilmark/cli/ExitStatus"), accessFlags := 16409, slot := 0, constantValue := 0 }, { name := "NOT_UNIQUE", type := (.object "com/example/pencilmark/pencilmark/cli/ExitStatus"), accessFlags := 16409, slot := 1, constantValue := 0 }, { name := "INVALID", type := (.object "com/example/pencilmark/pencilmark/cli/ExitStatus"), accessFlags := 16409, slot := 2, constantValue := 0 }, { name := "code", type := .int, accessFlags := 18, slot := 3, constantValue := 0 }, { name := "$VALUES", type := (.array (.object "com/example/pencilmark/pencilmark/cli/ExitStatus")), accessFlags := 4122, slot := 3, constantValue := 0 }]
  methods := #[k7m0, k7m1]
  instanceTypes := #[(.object "java/lang/String"), .int, .int, .int]
  staticTypes := #[(.object "com/example/pencilmark/pencilmark/cli/ExitStatus"), (.object "com/example/pencilmark/pencilmark/cli/ExitStatus"), (.object "com/example/pencilmark/pencilmark/cli/ExitStatus"), (.array (.object "com/example/pencilmark/pencilmark/cli/ExitStatus"))]
  resolved := Array.replicate 70 none
  statics := some 1 }

def pool8 : Array CpInfo := pool [(1, u "java/lang/Cloneable"), (0, .class_ 1), (0, u "java/lang/Object"), (0, .class_ 3)] 3

/-- java/lang/Cloneable -/
def k8 : Class := { plain "java/lang/Cloneable" (some 0) with
  accessFlags := 1537
  interfaces := #[]
  cf := some (fileOf pool8 2 #[] #[] 1537 4 #[] #[])
  fields := #[]
  methods := #[]
  instanceTypes := #[]
  staticTypes := #[]
  resolved := Array.replicate 8 none
  statics := none }

/-- the primitive byte -/
def k9 : Class := { plain "byte" none with kind := .primitive 'B', accessFlags := 0x411 }
/-- [B -/
def k10 : Class := { plain "[B" (some 0) with kind := .array 9 .byte, interfaces := #[8, 4], accessFlags := 1041 }

/-- the primitive int -/
def k11 : Class := { plain "int" none with kind := .primitive 'I', accessFlags := 0x411 }
/-- [I -/
def k12 : Class := { plain "[I" (some 0) with kind := .array 11 .int, interfaces := #[8, 4], accessFlags := 1041 }

def heap : Heap := #[{ cls := 6, slots := #[.ref 2, .ref 4, .ref 5, .null], vm := .statics 6 },
  { cls := 7, slots := #[.ref 6, .ref 3, .null, .null], vm := .statics 7 },
  { cls := 6, slots := #[.null, .int 0, .int 0], vm := .none },
  { cls := 7, slots := #[.null, .int 0, .int 0, .int 1], vm := .none },
  { cls := 6, slots := #[.null, .int 1, .int 0], vm := .none },
  { cls := 6, slots := #[.null, .int 2, .int 0], vm := .none },
  { cls := 7, slots := #[.null, .int 0, .int 0, .int 0], vm := .none }]
def classes : Array Class := #[k0, k1, k2, k3, k4, k5, k6, k7, k8, k9, k10, k11, k12]
def interned : List (Array UInt16 × Addr) := []
def slotsUsed : Nat := 25
def theMethod : MethodId := ⟨1, 1⟩
def args0 : Array Value := #[.int 5]
def aboutOver (below : List Frame) : State where
  vm := { classes := classes, interned := interned.toArray }
  heap := heap
  slotsUsed := slotsUsed
  threads := #[{ frames := .invoking theMethod args0 :: below }]
def below0 : List Frame := [.native { method := ⟨0, 0⟩, args := #[] }]
def about1 : State := aboutOver below0
def p0 : Program := .bare "" "" ""
def e0 : Env := launch0.env 0 0 0
theorem w_frames : about1.frames = Frame.invoking theMethod args0 :: below0 := rfl
set_option maxRecDepth 65536 in
theorem w_args : argsFit about1.vm theMethod args0 = true := by decide +kernel
set_option maxRecDepth 65536 in
theorem w_heap : heapFits about1 = true := by decide +kernel
set_option maxRecDepth 65536 in
theorem w_runnable : about1.curStatus? = some .runnable := by decide +kernel
set_option maxRecDepth 65536 in
theorem w_alone : about1.alone = true := by decide +kernel
set_option maxRecDepth 65536 in
theorem w_named : about1.methodNamed? x = some theMethod := by decide +kernel
set_option maxRecDepth 65536 in
theorem w_hears : about1.hears theMethod below0 = true := by decide +kernel
set_option maxRecDepth 65536 in
theorem w_ripe : about1.ripe theMethod args0 below0 = true := by decide +kernel
theorem w_running : about1.status = .running := rfl
set_option maxRecDepth 65536 in
theorem w_room : about1.hasRoom e0.platform room_1 = true :=
  launch0.hasRoom_least _ room_1 (by decide +kernel) (by decide +kernel) (by decide +kernel) (by decide +kernel) (by decide +kernel) (by decide +kernel)
theorem allAtoms_all (ts : List Jvm.Cond) (a : Array Jvm.Value) (st : Jvm.State) : (allAtoms ts).before a st = ts.all (fun c => c.before a st) := by
  induction ts with
  | nil => rfl
  | cons c t ih =>
    show (Jvm.Cond.and c (allAtoms t)).before a st = _
    rw [Jvm.Cond.before_and, ih, List.all_cons]
def words1 : List Jvm.Cond := Jvm.Cond.code x code maxLocals ret :: tables_1
/-- a 'code' word, met by the world's own term for the bytes: nothing is compared byte by byte -/
theorem code_word {y : MethodName} {bytes : ByteArray} {mx : Nat} {rt : Option FieldType} {a : Array Value} {s : State} {m : MethodId} {meth : Method} {c : Code} (h1 : s.methodNamed? y = some m) (h2 : s.vm.method? m = some meth) (h3 : meth.code = some c) (h4 : c.code = bytes)
    (h5 : (c.maxLocals == mx && c.exceptionTable.isEmpty && decide (c.maxStack ≤ mostOperands) && decide (meth.sig.returnType = rt) && !meth.locks && decide (parseMethodDescriptor y.desc = some meth.sig)) = true) : (Jvm.Cond.code y bytes mx rt).before a s = true := by
  simp only [Bool.and_eq_true, beq_iff_eq, Bool.not_eq_true', decide_eq_true_eq] at h5
  obtain ⟨⟨⟨⟨⟨g1, g2⟩, g3⟩, g4⟩, g5⟩, g6⟩ := h5
  simp [Cond.before, Cond.holds, Cond.value, h1, h2, h3, h4, g1, g2, g3, g4, g5, g6]
def isCode : Jvm.Cond → Bool
  | .code _ _ _ _ => true
  | _ => false
theorem all_split {L : List Jvm.Cond} {P : Jvm.Cond → Bool} (h1 : L.all (fun c => isCode c || P c) = true) (h2 : ∀ c ∈ L.filter isCode, P c = true) : L.all P = true := by
  refine List.all_eq_true.mpr fun c hc => ?_
  have h := List.all_eq_true.mp h1 c hc
  rcases Bool.eq_false_or_eq_true (isCode c) with hi | hi
  · exact h2 c (List.mem_filter.mpr ⟨hc, hi⟩)
  · simpa [hi] using h
set_option maxRecDepth 65536 in
theorem w_c0 : (Jvm.Cond.code x code maxLocals ret).before args0 about1 = true := code_word (m := ⟨1, 1⟩) (meth := k1m1) (c := k1c1) (by decide +kernel) rfl rfl rfl (by decide +kernel)
set_option maxRecDepth 65536 in
theorem w_c1 : (Jvm.Cond.code ({ cls := "com/example/pencilmark/pencilmark/cli/ExitStatus", name := "of", desc := "(Lcom/example/pencilmark/pencilmark/search/Verdict;)Lcom/example/pencilmark/pencilmark/cli/ExitStatus;" } : Jvm.MethodName) prog_4_method_4_code (1 : Nat) (Option.some (Jvm.ClassFile.FieldType.object "com/example/pencilmark/pencilmark/cli/ExitStatus"))).before args0 about1 = true := code_word (m := ⟨7, 0⟩) (meth := k7m0) (c := k7c0) (by decide +kernel) rfl rfl rfl (by decide +kernel)
set_option maxRecDepth 65536 in
theorem w_c2 : (Jvm.Cond.code ({ cls := "com/example/pencilmark/pencilmark/cli/ExitStatus", name := "code", desc := "()I" } : Jvm.MethodName) prog_4_method_5_code (1 : Nat) (Option.some Jvm.ClassFile.FieldType.int)).before args0 about1 = true := code_word (m := ⟨7, 1⟩) (meth := k7m1) (c := k7c1) (by decide +kernel) rfl rfl rfl (by decide +kernel)
def codes1 : List Jvm.Cond := [Jvm.Cond.code x code maxLocals ret, Jvm.Cond.code ({ cls := "com/example/pencilmark/pencilmark/cli/ExitStatus", name := "of", desc := "(Lcom/example/pencilmark/pencilmark/search/Verdict;)Lcom/example/pencilmark/pencilmark/cli/ExitStatus;" } : Jvm.MethodName) prog_4_method_4_code (1 : Nat) (Option.some (Jvm.ClassFile.FieldType.object "com/example/pencilmark/pencilmark/cli/ExitStatus")), Jvm.Cond.code ({ cls := "com/example/pencilmark/pencilmark/cli/ExitStatus", name := "code", desc := "()I" } : Jvm.MethodName) prog_4_method_5_code (1 : Nat) (Option.some Jvm.ClassFile.FieldType.int)]
set_option maxRecDepth 65536 in
theorem codes_eq : words1.filter isCode = codes1 := rfl
theorem w_codes : ∀ c ∈ words1.filter isCode, c.before args0 about1 = true := by
  rw [codes_eq]
  intro c hc
  simp only [codes1, List.mem_cons, List.not_mem_nil, or_false] at hc
  rcases hc with rfl | rfl | rfl
  · exact w_c0
  · exact w_c1
  · exact w_c2
set_option maxRecDepth 65536 in
theorem w_t1 : (words1.take 24).all (fun c => isCode c || c.before args0 about1) = true := by decide +kernel
set_option maxRecDepth 65536 in
theorem w_t2 : (words1.drop 24).all (fun c => isCode c || c.before args0 about1) = true := by decide +kernel
theorem w_tables : (allAtoms (Jvm.Cond.code x code maxLocals ret :: tables_1)).before args0 about1 = true := by
  rw [allAtoms_all]
  show words1.all (fun c => c.before args0 about1) = true
  refine all_split ?_ w_codes
  rw [← List.take_append_drop 24 words1, List.all_append, w_t1, w_t2]
  rfl
set_option maxRecDepth 65536 in
theorem w_case : (Jvm.Cond.and given_1 narrow_1).before args0 about1 = true := by decide +kernel
theorem w_applies : (headSpec (Jvm.Cond.code x code maxLocals ret :: tables_1) room_1).applies x e0.platform about1 = true :=
  (Spec.applies_iff w_frames).mpr ⟨w_running, w_runnable, w_alone, w_named, w_hears, w_ripe, w_room, w_tables⟩
theorem atStart : AtStart classFile x code maxLocals ret World_1 tables_1 room_1 Calls_1 rest_1 Pre_1 launch0 p0 e0 about1 theMethod args0 below0 :=
  ⟨lists_1, trivial, launch0.admits_env _ _ _, launch0.least_env, fairChoices_fair.cas, fairChoices_fair.clock, w_frames, w_args, w_heap, w_applies, trivial, trivial, w_case⟩
end start1
theorem witness_1 : WitnessClaimed_1 := ⟨start1.p0, start1.e0, start1.about1, start1.theMethod, start1.args0, start1.below0, start1.atStart⟩
end Jvm.Pilot.@@N@@
