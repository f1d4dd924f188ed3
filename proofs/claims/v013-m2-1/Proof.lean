import JvmDerived
import JvmDerived.Pilot.@@N@@Statement
import JvmDerived.Pilot.@@N@@Code
set_option linter.unusedVariables false
set_option linter.unusedSimpArgs false
@@BLOCK:NumsL.lean.txt@@
namespace Jvm.RoadKit
open Sem ClassFile Op Lib Jvm.Stand Jvm.Free Jvm.LawKit
section New
variable {p : Program} {l : Launch} {e : Env} {R : Room} {s : State} {m : MethodId} {args : Array Value} {below : List Frame} {meth : Method} {c : Code} {T : State} {locs : List Loc} {cells slots : Nat}
theorem retI (X : Stand p l e R s m args below meth c T locs cells slots) (hx : p.tables.exec = Jvm.exec) {pc : Nat} {Ls : Array Slot} {z : Int32} {rest : List Value} (hret : meth.sig.returnType = some .int) (hd : decode c.code pc = .ok (.ireturn, 1)) {fs : List Frame}
    (hl : ∀ (f : JFrame) (acts : List Action), f.method = m → f.locked = none → f.entered = [] → (doReturn e (T.setTop f) acts (some (.int z))).1 = T.setFrames fs) : Steps p.tables e below (T.setTop (mkF m pc Ls (.int z :: rest))) (T.setFrames fs) := by
  have hm' : T.vm.method? m = some meth := X.method'
  have hn : narrow .int (.int z) = .int z := rfl
  show Steps p.tables e below (T.setTop { method := m, pc := pc, locals := Ls, stack := _ :: rest, locked := none }) _
  jvm_step X.here [X.here.top, hx, hd, hm', hret, hn]
  first | (intro acts; rw [hl _ acts rfl rfl rfl]) | rw [hl _ _ rfl rfl rfl]
  exact Steps.refl _
end New
end Jvm.RoadKit
namespace Jvm.Pilot.@@N@@
open Jvm Jvm.ClassFile Sem Op Lib Jvm.Free Jvm.Stand Jvm.LawKit Jvm.RoadKit Bundle Jvm.Pilot.@@N@@.Jvm.D
/-! own_Goes: from S the run comes to some state of which G holds: such a goal may be split in the middle of a walk -/
def own_Goes (p : Program) (e : Env) (below : List Frame) (S : State) (G : State → Prop) : Prop := ∃ t, Steps p.tables e below S t ∧ G t
theorem own_via {p : Program} {e : Env} {below : List Frame} {S S' : State} {G : State → Prop} (f : ∀ t, Steps p.tables e below S' t → Steps p.tables e below S t) (h : own_Goes p e below S' G) : own_Goes p e below S G := by
  obtain ⟨t, h1, h2⟩ := h
  exact ⟨t, f t h1, h2⟩
theorem own_end {p : Program} {e : Env} {below : List Frame} {S t : State} {G : State → Prop} (h : Steps p.tables e below S t) (g : G t) : own_Goes p e below S G := ⟨t, h, g⟩
theorem own_out {p : Program} {e : Env} {below : List Frame} {S : State} {P : State → Outcome → Prop} (h : own_Goes p e below S (fun t => ∃ o, t.status = .running ∧ Ended t below o ∧ P t o)) : ∃ t o, Steps p.tables e below S t ∧ t.status = .running ∧ Ended t below o ∧ P t o := by
  obtain ⟨t, h1, o, h2, h3, h4⟩ := h
  exact ⟨t, o, h1, h2, h3, h4⟩
theorem wd {a0 : Array Value} {Z : State} (hw : ∀ d ∈ tables_1, d.before a0 Z = true) (i : Nat) {d : Jvm.Cond} (h : tables_1[i]? = some d) : d.before a0 Z = true := hw _ (List.mem_of_getElem? h)
theorem own_old {Z : State} {n0 : Nat} {h : Heap} (O : Old Z n0 h) : n0 ≤ h.size := by rw [← O.1]; exact O.2.1
def own_Q0 (n0 : Nat) (v : Option Value) (L : List Loc) : Prop := v = some (.int (1 : Int32)) ∧ Fr n0 L
def own_G (s : State) (below : List Frame) (n0 : Nat) (t : State) : Prop := ∃ o, t.status = .running ∧ Ended t below o ∧ ∃ v L, o = .returned v ∧ own_Q0 n0 v L ∧ FrameEnd s o t L room_1.cells room_1.slots
def own_Len (Z : State) (h : Heap) (a : Addr) (ty : FieldType) (n : Int32) : Prop := ∃ k vs d, Arv Z h a k ty n vs d
theorem own_len_ext {Z : State} {h h' : Heap} {a : Addr} {ty : FieldType} {n : Int32} (F : own_Len Z h a ty n) (E : Ext h h') : own_Len Z h' a ty n := by
  obtain ⟨k, vs, d, V⟩ := F
  exact ⟨k, vs, d, V.ext E⟩
theorem own_len_other {Z : State} {h h' : Heap} {a b : Addr} {sl : Nat} {v : Value} {ty : FieldType} {n : Int32} (F : own_Len Z h b ty n) (W : Wr h h' a sl v) (q : b ≠ a) : own_Len Z h' b ty n := by
  obtain ⟨k, vs, d, V⟩ := F
  exact ⟨k, vs, d, V.other W q⟩
theorem own_len_keep {Z : State} {h h' : Heap} {a : Addr} {ws : List Addr} {ty : FieldType} {n : Int32} (F : own_Len Z h a ty n) (K : Keep h h' ws) (q : a ∉ ws) : own_Len Z h' a ty n := by
  obtain ⟨k, vs, d, V⟩ := F
  exact ⟨k, vs, d, V.keep K q⟩
theorem own_len_lt {Z : State} {h : Heap} {a : Addr} {ty : FieldType} {n : Int32} (F : own_Len Z h a ty n) : a < h.size := by
  obtain ⟨k, vs, d, V⟩ := F
  exact V.lt
theorem own_c2 (x : Int32) : x.toUInt32.toUInt16.toUInt32.toInt32.toUInt32.toUInt16.toUInt32.toInt32 = x.toUInt32.toUInt16.toUInt32.toInt32 := by rw [UInt32.toUInt32_toInt32, UInt16.toUInt16_toUInt32]
theorem own_b2 (x : Int32) : x.toInt8.toInt32.toInt8.toInt32 = x.toInt8.toInt32 := by rw [Int8.toInt8_toInt32]
section Calls
variable {p : Program} {l : Launch} {e : Env} {R : Room} {s : State} {m : MethodId} {args : Array Value} {below : List Frame} {meth : Method} {c : Code} {T : State} {locs : List Loc} {cells slots : Nat} {Z : State} {a0 : Array Value} {h : Heap} {own C : String} {index : Nat} {y : MethodName} {bytes : ByteArray} {maxL : Nat} {rm : Room} {Q : Option Value → Heap → List Loc → Prop} {a : Addr} {argsL : List Value} {g : JFrame}
/-! a call by its contract, in one step: virtual (the class's own method), a constructor, static -/
theorem own_cv {ret : Option FieldType} (X : Stand p l e R s m args below meth c T locs cells slots) (hx : p.tables.exec = Jvm.exec) (hZ : Z.Warmed39 s.vm) (hown : s.vm.findClass own = some m.cls) (w1 : (Jvm.Cond.methodLink own index y).before a0 Z = true) (w2 : (Jvm.Cond.declares y).before a0 Z = true) (w3 : (Jvm.Cond.selects C y y).before a0 Z = true) (w4 : (Jvm.Cond.instanceMethod y).before a0 Z = true) (wc : (Jvm.Cond.code y bytes maxL ret).before a0 Z = true) (wz : (Jvm.Cond.initialized y.cls).before a0 Z = true) (hy : y.cls ≠ "java/lang/invoke/MethodHandle" ∧ y.cls ≠ "java/lang/invoke/VarHandle")
    (hM : MetFree l y (head1 [Jvm.Cond.code y bytes maxL ret] rm) (fun A U => A = (.ref a :: argsL).toArray ∧ Z.Warmed39 U.vm ∧ U.heap = h) (fun _ _ _ _ _ => True) (fun _ U o U' => ∃ v L, o = .returned v ∧ Q v U'.heap L ∧ FrameEnd U o U' L rm.cells rm.slots)) (eT : T.heap = h) (E : Exa Z h a C) (hg : g.method = m) (hsize : g.locals.size = c.maxLocals) {rest : List Value} {W : Nat}
    (hlen : ∀ sig, parseMethodDescriptor y.desc = some sig → argsL.length = sig.parameters.length) (hstack : g.stack = argsL.reverse ++ .ref a :: rest) (hW : 2 * g.monitorRoom + (rest.map fun v => v.category).sum ≤ W) (hdg : decode c.code g.pc = .ok (.invokevirtual index, 3)) (r1 : rm.frames + 1 ≤ R.frames) (r2 : W + (maxL + 11) + rm.locals ≤ R.locals) (r3 : cells + rm.cells ≤ R.cells) (r4 : slots + rm.slots ≤ R.slots) :
    ∃ (v : Option Value) (T' : State) (L : List Loc), Stand p l e R s m args below meth c T' (locs ++ L) (cells + rm.cells) (slots + rm.slots) ∧ Q v T'.heap L ∧ ∀ t, Steps p.tables e below (T'.setTop { g with pc := g.pc + 3, stack := v.toList ++ rest }) t → Steps p.tables e below (T.setTop g) t := by
  obtain ⟨cq, kq, qa, -, qc⟩ := isOf hZ eT E
  obtain ⟨v, _, ⟨T', L', c', n'⟩, -, X', ⟨Lc, hQ, l1, y1, z1⟩, st⟩ := X.virtualBack hx (y := y) (z := y) hown (mvT hZ w1) (mvT hZ w2) (notFace_of_selects (args := #[]) (mvT hZ w3)) (mvT hZ w3) (mvT hZ w4) hy (backOf (W := W) hM hZ wc wz r1 r2) qa qc (g := g) hg hsize (Steps.refl _) (argsL := argsL) (rest := rest) hlen hstack hW hdg (fun _ _ => ⟨rfl, eT, r3, r4⟩)
  dsimp only [Pt.U, Pt.locs, Pt.cells, Pt.slots] at X' l1 y1 z1 st hQ
  subst l1 y1 z1
  exact ⟨v, T', Lc, X', hQ, fun t k => st.trans k⟩
theorem own_ci (X : Stand p l e R s m args below meth c T locs cells slots) (hx : p.tables.exec = Jvm.exec) (hZ : Z.Warmed39 s.vm) (hown : s.vm.findClass own = some m.cls) (w1 : (Jvm.Cond.methodLink own index y).before a0 Z = true) (w4 : (Jvm.Cond.instanceMethod y).before a0 Z = true) (wc : (Jvm.Cond.code y bytes maxL none).before a0 Z = true) (wz : (Jvm.Cond.initialized y.cls).before a0 Z = true) (hi : y.name = "<init>") (hy : y.cls ≠ "java/lang/invoke/MethodHandle" ∧ y.cls ≠ "java/lang/invoke/VarHandle")
    (hM : MetFree l y (head1 [Jvm.Cond.code y bytes maxL none] rm) (fun A U => A = (.ref a :: argsL).toArray ∧ Z.Warmed39 U.vm ∧ U.heap = h) (fun _ _ _ _ _ => True) (fun _ U o U' => ∃ v L, o = .returned v ∧ Q v U'.heap L ∧ FrameEnd U o U' L rm.cells rm.slots)) (eT : T.heap = h) (hg : g.method = m) (hsize : g.locals.size = c.maxLocals) {rest : List Value} {W : Nat}
    (hlen : ∀ sig, parseMethodDescriptor y.desc = some sig → argsL.length = sig.parameters.length) (hstack : g.stack = argsL.reverse ++ .ref a :: rest) (hW : 2 * g.monitorRoom + (rest.map fun v => v.category).sum ≤ W) (hdg : decode c.code g.pc = .ok (.invokespecial index, 3)) (r1 : rm.frames + 1 ≤ R.frames) (r2 : W + (maxL + 11) + rm.locals ≤ R.locals) (r3 : cells + rm.cells ≤ R.cells) (r4 : slots + rm.slots ≤ R.slots) :
    ∃ (v : Option Value) (T' : State) (L : List Loc), Stand p l e R s m args below meth c T' (locs ++ L) (cells + rm.cells) (slots + rm.slots) ∧ Q v T'.heap L ∧ ∀ t, Steps p.tables e below (T'.setTop { g with pc := g.pc + 3, stack := v.toList ++ rest }) t → Steps p.tables e below (T.setTop g) t := by
  obtain ⟨v, _, ⟨T', L', c', n'⟩, -, X', ⟨Lc, hQ, l1, y1, z1⟩, st⟩ := X.specialBack hx (y := y) hi hown (mvT hZ w1) (mvT hZ w4) (mvT hZ wc) hy (backOf (W := W) hM hZ wc wz r1 r2) (g := g) hg hsize (Steps.refl _) (a := a) (argsL := argsL) (rest := rest) hlen hstack hW hdg (fun _ _ => ⟨rfl, eT, r3, r4⟩)
  dsimp only [Pt.U, Pt.locs, Pt.cells, Pt.slots] at X' l1 y1 z1 st hQ
  subst l1 y1 z1
  exact ⟨v, T', Lc, X', hQ, fun t k => st.trans k⟩
theorem own_cs {ret : Option FieldType} (X : Stand p l e R s m args below meth c T locs cells slots) (hx : p.tables.exec = Jvm.exec) (hZ : Z.Warmed39 s.vm) (hown : s.vm.findClass own = some m.cls) (w1 : (Jvm.Cond.methodLink own index y).before a0 Z = true) (w4 : (Jvm.Cond.static y).before a0 Z = true) (wc : (Jvm.Cond.code y bytes maxL ret).before a0 Z = true) (wz : (Jvm.Cond.initialized y.cls).before a0 Z = true) (hy : y.cls ≠ "java/lang/invoke/MethodHandle" ∧ y.cls ≠ "java/lang/invoke/VarHandle")
    (hM : MetFree l y (head1 [Jvm.Cond.code y bytes maxL ret] rm) (fun A U => A = argsL.toArray ∧ Z.Warmed39 U.vm ∧ U.heap = h) (fun _ _ _ _ _ => True) (fun _ U o U' => ∃ v L, o = .returned v ∧ Q v U'.heap L ∧ FrameEnd U o U' L rm.cells rm.slots)) (eT : T.heap = h) (hg : g.method = m) (hsize : g.locals.size = c.maxLocals) {rest : List Value} {W : Nat}
    (hlen : ∀ sig, parseMethodDescriptor y.desc = some sig → argsL.length = sig.parameters.length) (hstack : g.stack = argsL.reverse ++ rest) (hW : 2 * g.monitorRoom + (rest.map fun v => v.category).sum ≤ W) (hdg : decode c.code g.pc = .ok (.invokestatic index, 3)) (r1 : rm.frames + 1 ≤ R.frames) (r2 : W + (maxL + 11) + rm.locals ≤ R.locals) (r3 : cells + rm.cells ≤ R.cells) (r4 : slots + rm.slots ≤ R.slots) :
    ∃ (v : Option Value) (T' : State) (L : List Loc), Stand p l e R s m args below meth c T' (locs ++ L) (cells + rm.cells) (slots + rm.slots) ∧ Q v T'.heap L ∧ ∀ t, Steps p.tables e below (T'.setTop { g with pc := g.pc + 3, stack := v.toList ++ rest }) t → Steps p.tables e below (T.setTop g) t := by
  obtain ⟨v, _, ⟨T', L', c', n'⟩, -, X', ⟨Lc, hQ, l1, y1, z1⟩, st⟩ := Jvm.LawKit.callS X hx (y := y) hown (mvT hZ w1) (mvT hZ w4) (mvT hZ wz) (mvT hZ wc) hy (backOf (W := W) hM hZ wc wz r1 r2) (g := g) hg hsize (argsL := argsL) (rest := rest) hlen hstack hW hdg (fun _ _ => ⟨rfl, eT, r3, r4⟩)
  dsimp only [Pt.U, Pt.locs, Pt.cells, Pt.slots] at X' l1 y1 z1 st hQ
  subst l1 y1 z1
  exact ⟨v, T', Lc, X', hQ, st⟩
end Calls
theorem own_eq_ref {args : Array Value} {s : State} {a b : Term} {w : Addr} (h : (Jvm.Cond.eq a b).value args s none s [] = some true) (hb : b.eval args s none [] s = some (.ref w)) : a.eval args s none [] s = some (.ref w) := by
  obtain ⟨x, y, e1, e2, k1, k2⟩ := cmp_v (Or.inl h)
  rw [hb] at e2
  cases e2
  have hx : x.isRef = true := by cases x <;> simp_all [Kin, Value.isRef]
  have q := gotT (eq_R e1 hb hx rfl) h
  rw [e1, q]
theorem own_ne_ref {args : Array Value} {s : State} {a b : Term} {u w : Addr} (h : (Jvm.Cond.not (Jvm.Cond.eq a b)).value args s none s [] = some true) (ha : a.eval args s none [] s = some (.ref u)) (hb : b.eval args s none [] s = some (.ref w)) : u ≠ w := fun q => gotF (eq_R ha hb rfl rfl) (not_v h) (by rw [q])
theorem own_nn_mask (x m : Int32) (k : Nat) (hk : k < 32) (hm : m.toBitVec.toNat = 2 ^ k - 1) : ¬ ((x &&& m) < (0 : Int32)) := by
  rw [Int32.lt_iff_toInt_lt, Jvm.Kit.i32_mask x m hk hm]
  have h := Int.emod_nonneg x.toInt (show ((2 : Int) ^ k) ≠ 0 from Int.ne_of_gt (Int.pow_pos (by decide)))
  rw [Int32.toInt_zero]
  omega
theorem own_lt_mask (x m : Int32) (k : Nat) (hk : k < 32) (hm : m.toBitVec.toNat = 2 ^ k - 1) {n : Int32} (hn : n.toInt = 2 ^ k) : (x &&& m) < n := by
  rw [Int32.lt_iff_toInt_lt, Jvm.Kit.i32_mask x m hk hm, hn]
  exact Int.emod_lt_of_pos _ (Int.pow_pos (by decide))
theorem own_nn_rem {x : Int32} (n : Int32) (h : ¬ (x < (0 : Int32))) : ¬ (x % n < (0 : Int32)) := by
  rw [Int32.lt_iff_toInt_lt, Int32.toInt_zero] at h ⊢
  rw [Int32.toInt_mod]
  have := Int.tmod_nonneg n.toInt (show 0 ≤ x.toInt by omega)
  omega
theorem own_pos {n : Int32} (h : (0 : Int32) < n) : 0 < n.toInt := by
  rw [Int32.lt_iff_toInt_lt, Int32.toInt_zero] at h
  exact h
theorem own_ne0 {n : Int32} (h : (0 : Int32) < n) : n ≠ 0 := fun q => by
  rw [q] at h
  exact absurd h (by decide)
theorem own_lt_rem {x : Int32} (n : Int32) (h : ¬ (x < (0 : Int32))) (hn : 0 < n.toInt) : x % n < n := by
  rw [Int32.lt_iff_toInt_lt] at h ⊢
  rw [Int32.toInt_zero] at h
  rw [Jvm.Kit.i32_rem_nonneg (by omega)]
  exact Int.emod_lt_of_pos _ hn
theorem own_modlo (x n : Int32) (hn : 0 < n.toInt) : 0 ≤ ((x &&& (2147483647 : Int32)) % n).toInt := by
  have a := Jvm.Kit.i32_mask x 2147483647 (k := 31) (by decide) (by decide)
  rw [Jvm.Kit.i32_rem_nonneg (by omega)]
  exact Int.emod_nonneg _ (by omega)
theorem own_modhi (x n : Int32) (hn : 0 < n.toInt) : ((x &&& (2147483647 : Int32)) % n).toInt < n.toInt := by
  have a := Jvm.Kit.i32_mask x 2147483647 (k := 31) (by decide) (by decide)
  rw [Jvm.Kit.i32_rem_nonneg (by omega)]
  exact Int.emod_lt_of_pos _ hn
abbrev zs1 : String := "com/example/hearthkey/hearthkey/gateway/transport/TelnetOptions"
abbrev zs2 : String := "java/util/BitSet"
abbrev zs3 : String := "Ljava/util/BitSet;"
abbrev zs4 : String := "com/example/hearthkey/hearthkey/gateway/transport/TelnetOptionsOfferGmcpPinLaw"
abbrev zs5 : String := "sizeIsSticky"
abbrev zs6 : String := "$assertionsDisabled"
abbrev zs7 : String := "checkInvariants"
theorem own_len31 {args : Array Value} {s : State} {t : Term} {a : Addr} {c : Cell} {ty : FieldType} {n : Int32} (ev : t.eval args s none [] s = some (.ref a)) (A : Arr s s.heap a c ty) (h : (Jvm.Cond.eq (.length t) (.int n)).value args s none s [] = some true) : c.slots.size < 2 ^ 31 ∧ c.slots.size.toInt32 = n := by
  have hl := Cond.eq_int (show (Jvm.Cond.eq (.length t) (.int n)).holds args s none s [] = true from Cond.before_iff.mpr h) rfl
  have hA : s.arrayAt? a = some c := Arr.fin (Vm.Alike.refl _) A
  have h31 := SBG.length_lt ev hA hl
  have e := len_f ev hA h31
  exact ⟨h31, by simpa using Option.some.inj (e.symm.trans hl)⟩
theorem own_sub_at {args : Array Value} {first s : State} {o : Option Outcome} {idx : List Nat} {a : Term} {x n : Int32} (h : a.eval args first o idx s = some (.int x)) : (Term.sub a (.int n)).eval args first o idx s = some (.int (x - n)) := by simp [Term.eval, h]
theorem own_arv0 {args : Array Value} {s : State} {t : Term} {a : Addr} {c : Cell} {ty : FieldType} {dv : Value} (hf : Fit s) (A : Arr s s.heap a c ty) (ev : t.eval args s none [] s = some (.ref a)) (h : (Jvm.Cond.eq (.length t) (.int 0)).value args s none s [] = some true) : Arv s s.heap a c.cls ty (0 : Int32) [] dv :=
  Arv.start hf A (own_len31 ev A h).1 (own_len31 ev A h).2 (by decide) rfl trivial
theorem d1_0 : decode prog_61_method_1_code 0 = .ok (.aload_n 0, 1) := by decide +kernel
theorem d1_1 : decode prog_61_method_1_code 1 = .ok (.invokespecial 1, 3) := by decide +kernel
theorem d1_4 : decode prog_61_method_1_code 4 = .ok (.aload_n 0, 1) := by decide +kernel
theorem d1_5 : decode prog_61_method_1_code 5 = .ok (.new 7, 3) := by decide +kernel
theorem d1_8 : decode prog_61_method_1_code 8 = .ok (.dup, 1) := by decide +kernel
theorem d1_9 : decode prog_61_method_1_code 9 = .ok (.sipush 256, 3) := by decide +kernel
theorem d1_12 : decode prog_61_method_1_code 12 = .ok (.invokespecial 9, 3) := by decide +kernel
theorem d3_0 : decode jdk_92_method_5_code 0 = .ok (.aload_n 0, 1) := by decide +kernel
theorem d3_1 : decode jdk_92_method_5_code 1 = .ok (.invokespecial 21, 3) := by decide +kernel
theorem d3_4 : decode jdk_92_method_5_code 4 = .ok (.aload_n 0, 1) := by decide +kernel
theorem d3_5 : decode jdk_92_method_5_code 5 = .ok (.iconst 0, 1) := by decide +kernel
theorem d3_6 : decode jdk_92_method_5_code 6 = .ok (.putfield 7, 3) := by decide +kernel
theorem d3_9 : decode jdk_92_method_5_code 9 = .ok (.aload_n 0, 1) := by decide +kernel
theorem d3_10 : decode jdk_92_method_5_code 10 = .ok (.iconst 0, 1) := by decide +kernel
theorem d3_11 : decode jdk_92_method_5_code 11 = .ok (.putfield 24, 3) := by decide +kernel
theorem d3_14 : decode jdk_92_method_5_code 14 = .ok (.iload_n 1, 1) := by decide +kernel
theorem d3_15 : decode jdk_92_method_5_code 15 = .ok (.ifCond .ge 30, 3) := by decide +kernel
theorem d3_45 : decode jdk_92_method_5_code 45 = .ok (.aload_n 0, 1) := by decide +kernel
theorem d3_46 : decode jdk_92_method_5_code 46 = .ok (.iload_n 1, 1) := by decide +kernel
theorem d3_47 : decode jdk_92_method_5_code 47 = .ok (.invokevirtual 27, 3) := by decide +kernel
theorem d4_0 : decode jdk_92_method_6_code 0 = .ok (.aload_n 0, 1) := by decide +kernel
theorem d4_1 : decode jdk_92_method_6_code 1 = .ok (.iload_n 1, 1) := by decide +kernel
theorem d4_2 : decode jdk_92_method_6_code 2 = .ok (.iconst 1, 1) := by decide +kernel
theorem d4_3 : decode jdk_92_method_6_code 3 = .ok (.isub, 1) := by decide +kernel
theorem d4_4 : decode jdk_92_method_6_code 4 = .ok (.invokestatic 52, 3) := by decide +kernel
theorem d5_0 : decode jdk_92_method_1_code 0 = .ok (.iload_n 0, 1) := by decide +kernel
theorem d5_1 : decode jdk_92_method_1_code 1 = .ok (.bipush 6, 2) := by decide +kernel
theorem d5_3 : decode jdk_92_method_1_code 3 = .ok (.ishr, 1) := by decide +kernel
theorem d5_4 : decode jdk_92_method_1_code 4 = .ok (.ireturn, 1) := by decide +kernel
theorem ef_1 (m : MethodId) (x0 : Int32) : entryFrame m #[(.int x0)] 1 = mkF m 0 #[iv x0] [] := by first | (simp [entryFrame, mkF, argsToLocals, Value.category]; done) | rfl
theorem pn_1 : plainName "java/util/BitSet" = true := by first | (simp [plainName, overriddenIn]; done) | decide +kernel
def Q1 (Z : State)  (h0 : Heap) (n0 : Nat) (v : Option Value) (h : Heap) (L : List Loc) : Prop := v = some (.int (3 : Int32)) ∧ Fr n0 L ∧ h = h0
set_option maxRecDepth 65536 in
set_option maxHeartbeats 40000000 in
theorem rm1 (l : Launch) (Z : State) (a0 : Array Value) (hw : ∀ d ∈ tables_1, d.before a0 Z = true) (ws : List Jvm.Cond)  (h0 : Heap) (n0 : Nat) (O0 : Old Z n0 h0) :
    MetFree l (⟨zs2, "wordIndex", "(I)I"⟩ : MethodName) (head1 (Jvm.Cond.code (⟨zs2, "wordIndex", "(I)I"⟩ : MethodName) jdk_92_method_1_code 1 (some .int) :: ws) ({ frames := 0, cells := 0, slots := 0, locals := 0 } : Room)) (fun a U => a = #[(.int (255 : Int32))] ∧ Z.Warmed39 U.vm ∧ U.heap = h0) (fun _ _ _ _ _ => True) (fun _ U o U' => ∃ v L, o = .returned v ∧ Q1 Z  h0 n0 v U'.heap L ∧ FrameEnd U o U' L ({ frames := 0, cells := 0, slots := 0, locals := 0 } : Room).cells ({ frames := 0, cells := 0, slots := 0, locals := 0 } : Room).slots) := by
  refine MetFree.of_bodySF (plainFor_of_name pn_1) hisR ?_
  intro p e s m args below meth c s₁ Bd hml0 hP hK
  obtain ⟨rfl, hZ, hh⟩ := hP
  have hx := Bd.exec
  have hby := Bd.bytes
  have hml : c.maxLocals = 1 := hml0
  have hown : s.vm.findClass zs2 = some m.cls := findClass_of_methodNamed Bd.named
  have hnm := (name_of_methodNamed Bd.named Bd.method).1
  have X0 : Stand p l e ({ frames := 0, cells := 0, slots := 0, locals := 0 } : Room) s m #[(.int (255 : Int32))] below meth c s₁ [] 0 0 := Stand.of_body Bd
  have e0 : s₁.heap = h0 := by rw [← hh, Bd.state]; rfl
  have N0 := Fr.nil n0
  refine own_out ?_
  refine own_via (fun t k => castTop (ef_1 m (255 : Int32)) (XS.iloadN X0.here hx rfl (hb hby d5_0) rfl (XS.bipush X0.here hx rfl (hb hby d5_1) (XS.ishr X0.here hx rfl (hb hby d5_3) rfl k)))) ?_
  show own_Goes p e below (s₁.setTop (mkF m 4 #[iv (255 : Int32)] [(.int (3 : Int32))])) _
  obtain ⟨fs, hr, hrun, hended, hW, hsame⟩ := X0.leave (v := some (.int (3 : Int32))) (fun h => by rw [Bd.returns] at h; cases h)
  refine own_end (t := s₁.setFrames fs) ?_ ⟨_, hrun, hended, _, _, rfl, ?_, ⟨_, rfl⟩, hW, hsame.mono (by decide) (by decide)⟩
  · exact retI X0 hx Bd.returns (hb hby d5_4) hr
  · show Q1 Z  h0 n0 _ s₁.heap _
    rw [e0]
    exact ⟨rfl, N0, rfl⟩
theorem pd_1 : parseMethodDescriptor "(I)I" = some ⟨[.int], some .int⟩ := by decide +kernel
theorem d4_7 : decode jdk_92_method_6_code 7 = .ok (.iconst 1, 1) := by decide +kernel
theorem d4_8 : decode jdk_92_method_6_code 8 = .ok (.iadd, 1) := by decide +kernel
theorem d4_9 : decode jdk_92_method_6_code 9 = .ok (.newarray .long, 2) := by decide +kernel
theorem d4_11 : decode jdk_92_method_6_code 11 = .ok (.putfield 11, 3) := by decide +kernel
theorem d4_14 : decode jdk_92_method_6_code 14 = .ok (.return_, 1) := by decide +kernel
theorem ef_2 (m : MethodId) (x0 : Addr) (x1 : Int32) : entryFrame m #[(.ref x0), (.int x1)] 2 = mkF m 0 #[rv x0, iv x1] [] := by first | (simp [entryFrame, mkF, argsToLocals, Value.category]; done) | rfl
def Q2 (Z : State) (a64 : Addr) (p69 : Int32) (p70 : Int32) (h0 : Heap) (n0 : Nat) (v : Option Value) (h : Heap) (L : List Loc) : Prop := (∃ (b95 : Addr) (k94 : ClassId), v = none ∧ Fr n0 L ∧ Keep h0 h [a64] ∧ Exa Z h a64 zs2 ∧ Fld Z h a64 zs2 "wordsInUse" "I" (.int p69) ∧ Fld Z h a64 zs2 zs5 "Z" (.int p70) ∧ Fld Z h a64 zs2 "words" "[J" (.ref b95) ∧ h0.size ≤ b95 ∧ Arv Z h b95 k94 .long (4 : Int32) [] (.long (0 : Int64)))
set_option maxRecDepth 65536 in
set_option maxHeartbeats 40000000 in
theorem rm2 (l : Launch) (Z : State) (a0 : Array Value) (hw : ∀ d ∈ tables_1, d.before a0 Z = true) (ws : List Jvm.Cond) (a64 : Addr) (p69 : Int32) (p70 : Int32) (h0 : Heap) (n0 : Nat) (O0 : Old Z n0 h0) (pF_a64_words : Fld Z h0 a64 zs2 "words" "[J" .null) (pE_a64 : Exa Z h0 a64 zs2) (pG_a64 : n0 ≤ a64) (pF_a64_wordsInUse : Fld Z h0 a64 zs2 "wordsInUse" "I" (.int p69)) (pF_a64_sizeIsSticky : Fld Z h0 a64 zs2 zs5 "Z" (.int p70)) :
    MetFree l (⟨zs2, "initWords", "(I)V"⟩ : MethodName) (head1 (Jvm.Cond.code (⟨zs2, "initWords", "(I)V"⟩ : MethodName) jdk_92_method_6_code 2 none :: ws) ({ frames := 1, cells := 1, slots := 4, locals := 13 } : Room)) (fun a U => a = #[(.ref a64), (.int (256 : Int32))] ∧ Z.Warmed39 U.vm ∧ U.heap = h0) (fun _ _ _ _ _ => True) (fun _ U o U' => ∃ v L, o = .returned v ∧ Q2 Z a64 p69 p70 h0 n0 v U'.heap L ∧ FrameEnd U o U' L ({ frames := 1, cells := 1, slots := 4, locals := 13 } : Room).cells ({ frames := 1, cells := 1, slots := 4, locals := 13 } : Room).slots) := by
  refine MetFree.of_bodySF (plainFor_of_name pn_1) hisR ?_
  intro p e s m args below meth c s₁ Bd hml0 hP hK
  obtain ⟨rfl, hZ, hh⟩ := hP
  have hx := Bd.exec
  have hby := Bd.bytes
  have hml : c.maxLocals = 2 := hml0
  have hown : s.vm.findClass zs2 = some m.cls := findClass_of_methodNamed Bd.named
  have hnm := (name_of_methodNamed Bd.named Bd.method).1
  have X0 : Stand p l e ({ frames := 1, cells := 1, slots := 4, locals := 13 } : Room) s m #[(.ref a64), (.int (256 : Int32))] below meth c s₁ [] 0 0 := Stand.of_body Bd
  have e0 : s₁.heap = h0 := by rw [← hh, Bd.state]; rfl
  have N0 := Fr.nil n0
  refine own_out ?_
  refine own_via (fun t k => castTop (ef_2 m a64 (256 : Int32)) (XS.aloadN X0.here hx rfl (hb hby d4_0) rfl rfl (XS.iloadN X0.here hx rfl (hb hby d4_1) rfl (XS.iconst X0.here hx rfl (hb hby d4_2) (XS.isub X0.here hx rfl (hb hby d4_3) rfl k))))) ?_
  show own_Goes p e below (s₁.setTop (mkF m 4 #[rv a64, iv (256 : Int32)] [(.int (255 : Int32)), (.ref a64)])) _
  obtain ⟨_, T78, _, X78, hQ78, st78⟩ := own_cs X0 hx hZ hown (wd hw 25 rfl) (wd hw 26 rfl) (wd hw 27 rfl) (wd hw 11 rfl) (by decide) (rm1 l Z a0 hw []  h0 n0 O0 ) e0 (g := (mkF m 4 #[rv a64, iv (256 : Int32)] [(.int (255 : Int32)), (.ref a64)])) rfl (by rw [hml]; rfl) (rest := [(.ref a64)]) (W := 1) (lenOf pd_1 rfl) rfl (by show 2 * 0 + _ ≤ _; exact Nat.le_of_eq rfl) (hb hby d4_4) (by decide) (by decide) (by decide) (by decide)
  obtain ⟨rfl, Nq78, hh93⟩ := hQ78
  have N78 := Fr.app N0 Nq78
  refine own_via (fun t k => st78 t (XS.iconst X78.here hx rfl (hb hby d4_7) (XS.iadd X78.here hx rfl (hb hby d4_8) rfl k))) ?_
  show own_Goes p e below (T78.setTop (mkF m 9 #[rv a64, iv (256 : Int32)] [(.int (4 : Int32)), (.ref a64)])) _
  obtain ⟨T94, h94, k94, X94, e94, E94, A94, st94⟩ := newP X78 hx hZ (wd hw 28 rfl) hh93 (g := (mkF m 9 #[rv a64, iv (256 : Int32)] [(.int (4 : Int32)), (.ref a64)])) rfl (hb hby d4_9) rfl (by decide) (cap := 4) (by decide) (by decide) (by decide) (by decide)
  obtain ⟨b95, q94⟩ : ∃ z, z = h0.size := ⟨_, rfl⟩
  rw [← q94] at A94 st94
  refine own_via (fun t k => st94 t k) ?_
  have g96 : n0 ≤ b95 := Nat.le_trans (own_old O0) (Nat.le_of_eq q94.symm)
  have B97 : h0.size ≤ b95 := Nat.le_trans (Nat.le_refl _) (Nat.le_of_eq q94.symm)
  have V98 : Arv Z h94 b95 k94 .long (4 : Int32) [] (.long (0 : Int64)) := Arv.new A94 (by decide)
  show own_Goes p e below (T94.setTop (mkF m 11 #[rv a64, iv (256 : Int32)] [(.ref b95), (.ref a64)])) _
  have F99 : Fld Z h94 a64 zs2 "words" "[J" .null := (pF_a64_words.ext E94)
  have E100 : Exa Z h94 a64 zs2 := (pE_a64.ext E94)
  obtain ⟨T101, h101, X101, e101, W101, st101⟩ := putF X94 hx hZ hown (host := "") (Or.inl (wd hw 29 rfl)) Via.refl e94 F99 E100 (Or.inl (wd hw 30 rfl)) (wd hw 10 rfl) (ty := (.array .long)) (by decide) rfl rfl (g := (mkF m 11 #[rv a64, iv (256 : Int32)] [(.ref b95), (.ref a64)])) rfl rfl (hb hby d4_11)
  refine own_via (fun t k => st101 t k) ?_
  have Fw101 : Fld Z h101 a64 zs2 "words" "[J" (.ref b95) := F99.same W101
  have N101 := Fr.snoc X101 N78 pG_a64
  show own_Goes p e below (T101.setTop (mkF m 14 #[rv a64, iv (256 : Int32)] [])) _
  obtain ⟨fs, hr, hrun, hended, hW, hsame⟩ := X101.leave (v := none) (fun _ => rfl)
  refine own_end (t := T101.setFrames fs) ?_ ⟨_, hrun, hended, _, _, rfl, ?_, ⟨_, rfl⟩, hW, hsame.mono (by decide) (by decide)⟩
  · exact X101.returnOut hx Bd.returns (hb hby d4_14) hr
  have E102 : Exa Z h101 a64 zs2 := (E100.wr W101)
  have F103 : Fld Z h101 a64 zs2 "wordsInUse" "I" (.int p69) := ((pF_a64_wordsInUse.ext E94).other W101 (Or.inr (slot_ne (Or.inl (wd hw 17 rfl)) (Or.inl (wd hw 30 rfl)) (by decide) (t := .int) (t' := (.array .long)) (by decide) (by decide))))
  have F104 : Fld Z h101 a64 zs2 zs5 "Z" (.int p70) := ((pF_a64_sizeIsSticky.ext E94).other W101 (Or.inr (slot_ne (Or.inl (wd hw 19 rfl)) (Or.inl (wd hw 30 rfl)) (by decide) (t := .boolean) (t' := (.array .long)) (by decide) (by decide))))
  have V105 : Arv Z h101 b95 k94 .long (4 : Int32) [] (.long (0 : Int64)) := (V98.other W101 (Ne.symm (Nat.ne_of_lt (Nat.lt_of_lt_of_le pE_a64.lt B97))))
  · show Q2 Z a64 p69 p70 h0 n0 _ T101.heap _
    rw [e101]
    exact ⟨b95, k94, rfl, N101, (((Keep.refl h0 [a64]).ext E94).wr W101 (Or.inl (List.mem_of_getElem? (i := 0) rfl))), E102, F103, F104, Fw101, B97, V105⟩
theorem pd_2 : parseMethodDescriptor "(I)V" = some ⟨[.int], none⟩ := by decide +kernel
theorem d3_50 : decode jdk_92_method_5_code 50 = .ok (.aload_n 0, 1) := by decide +kernel
theorem d3_51 : decode jdk_92_method_5_code 51 = .ok (.iconst 1, 1) := by decide +kernel
theorem d3_52 : decode jdk_92_method_5_code 52 = .ok (.putfield 24, 3) := by decide +kernel
theorem d3_55 : decode jdk_92_method_5_code 55 = .ok (.return_, 1) := by decide +kernel
theorem ef_3 (m : MethodId) (x0 : Addr) (x1 : Int32) : entryFrame m #[(.ref x0), (.int x1)] 2 = mkF m 0 #[rv x0, iv x1] [] := by first | (simp [entryFrame, mkF, argsToLocals, Value.category]; done) | rfl
def Q3 (Z : State) (a44 : Addr) (p49 : Int32) (p50 : Int32) (h0 : Heap) (n0 : Nat) (v : Option Value) (h : Heap) (L : List Loc) : Prop := (∃ (b110 : Addr) (k111 : ClassId), v = none ∧ Fr n0 L ∧ Keep h0 h [a44] ∧ Exa Z h a44 zs2 ∧ Fld Z h a44 zs2 "wordsInUse" "I" (.int (0 : Int32)) ∧ Fld Z h a44 zs2 zs5 "Z" (.int (1 : Int32)) ∧ Fld Z h a44 zs2 "words" "[J" (.ref b110) ∧ h0.size ≤ b110 ∧ Arv Z h b110 k111 .long (4 : Int32) [] (.long (0 : Int64)))
set_option maxRecDepth 65536 in
set_option maxHeartbeats 40000000 in
theorem rm3 (l : Launch) (Z : State) (a0 : Array Value) (hw : ∀ d ∈ tables_1, d.before a0 Z = true) (ws : List Jvm.Cond) (a44 : Addr) (p49 : Int32) (p50 : Int32) (h0 : Heap) (n0 : Nat) (O0 : Old Z n0 h0) (pF_a44_wordsInUse : Fld Z h0 a44 zs2 "wordsInUse" "I" (.int p49)) (pE_a44 : Exa Z h0 a44 zs2) (pG_a44 : n0 ≤ a44) (pF_a44_sizeIsSticky : Fld Z h0 a44 zs2 zs5 "Z" (.int p50)) (pF_a44_words : Fld Z h0 a44 zs2 "words" "[J" .null) :
    MetFree l (⟨zs2, "<init>", "(I)V"⟩ : MethodName) (head1 (Jvm.Cond.code (⟨zs2, "<init>", "(I)V"⟩ : MethodName) jdk_92_method_5_code 2 none :: ws) ({ frames := 2, cells := 1, slots := 4, locals := 26 } : Room)) (fun a U => a = #[(.ref a44), (.int (256 : Int32))] ∧ Z.Warmed39 U.vm ∧ U.heap = h0) (fun _ _ _ _ _ => True) (fun _ U o U' => ∃ v L, o = .returned v ∧ Q3 Z a44 p49 p50 h0 n0 v U'.heap L ∧ FrameEnd U o U' L ({ frames := 2, cells := 1, slots := 4, locals := 26 } : Room).cells ({ frames := 2, cells := 1, slots := 4, locals := 26 } : Room).slots) := by
  refine MetFree.of_bodySF (plainFor_of_name pn_1) hisR ?_
  intro p e s m args below meth c s₁ Bd hml0 hP hK
  obtain ⟨rfl, hZ, hh⟩ := hP
  have hx := Bd.exec
  have hby := Bd.bytes
  have hml : c.maxLocals = 2 := hml0
  have hown : s.vm.findClass zs2 = some m.cls := findClass_of_methodNamed Bd.named
  have hnm := (name_of_methodNamed Bd.named Bd.method).1
  have X0 : Stand p l e ({ frames := 2, cells := 1, slots := 4, locals := 26 } : Room) s m #[(.ref a44), (.int (256 : Int32))] below meth c s₁ [] 0 0 := Stand.of_body Bd
  have e0 : s₁.heap = h0 := by rw [← hh, Bd.state]; rfl
  have N0 := Fr.nil n0
  refine own_out ?_
  refine own_via (fun t k => castTop (ef_3 m a44 (256 : Int32)) (XS.aloadN X0.here hx rfl (hb hby d3_0) rfl rfl k)) ?_
  obtain ⟨T58, X58, e58, st58⟩ := initO X0 hx hZ hown (wd hw 15 rfl) (wd hw 7 rfl) (wd hw 8 rfl) e0 (g := (mkF m 1 #[rv a44, iv (256 : Int32)] [(.ref a44)])) rfl (by rw [hml]; rfl) rfl (hb hby d3_1) (by decide) (W := 0) (by show 2 * 0 + _ ≤ _; exact Nat.le_of_eq rfl) (by decide)
  refine own_via (fun t k => st58 t (XS.aloadN X58.here hx rfl (hb hby d3_4) rfl rfl (XS.iconst X58.here hx rfl (hb hby d3_5) k))) ?_
  show own_Goes p e below (T58.setTop (mkF m 6 #[rv a44, iv (256 : Int32)] [(.int (0 : Int32)), (.ref a44)])) _
  obtain ⟨T59, h59, X59, e59, W59, st59⟩ := putF X58 hx hZ hown (host := "") (Or.inl (wd hw 16 rfl)) Via.refl e58 pF_a44_wordsInUse pE_a44 (Or.inl (wd hw 17 rfl)) (wd hw 10 rfl) (ty := .int) (by decide) rfl rfl (g := (mkF m 6 #[rv a44, iv (256 : Int32)] [(.int (0 : Int32)), (.ref a44)])) rfl rfl (hb hby d3_6)
  refine own_via (fun t k => st59 t k) ?_
  have Fw59 : Fld Z h59 a44 zs2 "wordsInUse" "I" (.int (0 : Int32)) := pF_a44_wordsInUse.same W59
  have N59 := Fr.snoc X59 N0 pG_a44
  show own_Goes p e below (T59.setTop (mkF m 9 #[rv a44, iv (256 : Int32)] [])) _
  refine own_via (fun t k => XS.aloadN X59.here hx rfl (hb hby d3_9) rfl rfl (XS.iconst X59.here hx rfl (hb hby d3_10) k)) ?_
  have F60 : Fld Z h59 a44 zs2 zs5 "Z" (.int p50) := (pF_a44_sizeIsSticky.other W59 (Or.inr (slot_ne (Or.inl (wd hw 19 rfl)) (Or.inl (wd hw 17 rfl)) (by decide) (t := .boolean) (t' := .int) (by decide) (by decide))))
  have E61 : Exa Z h59 a44 zs2 := (pE_a44.wr W59)
  obtain ⟨T62, h62, X62, e62, W62, st62⟩ := putFN X59 hx hZ hown (wd hw 18 rfl) Via.refl e59 F60 E61 (Or.inl (wd hw 19 rfl)) (wd hw 10 rfl) (ty := .boolean) (v' := (.int (0 : Int32))) (by decide) rfl (by decide) (g := (mkF m 11 #[rv a44, iv (256 : Int32)] [(.int (0 : Int32)), (.ref a44)])) rfl rfl (hb hby d3_11)
  refine own_via (fun t k => st62 t k) ?_
  have Fw62 : Fld Z h62 a44 zs2 zs5 "Z" (.int (0 : Int32)) := F60.same W62
  have N62 := Fr.snoc X62 N59 pG_a44
  show own_Goes p e below (T62.setTop (mkF m 14 #[rv a44, iv (256 : Int32)] [])) _
  refine own_via (fun t k => XS.iloadN X62.here hx rfl (hb hby d3_14) rfl (XS.ifYes X62.here hx rfl (pc0 := 15) (pc' := 45) rfl (hb hby d3_15) rfl ((if0 _ _).trans (flt (by decide : ¬ ((256 : Int32) < (0 : Int32)))).2.1) (by decide) (by decide) (XS.aloadN X62.here hx rfl (hb hby d3_45) rfl rfl (XS.iloadN X62.here hx rfl (hb hby d3_46) rfl k)))) ?_
  show own_Goes p e below (T62.setTop (mkF m 47 #[rv a44, iv (256 : Int32)] [(.int (256 : Int32)), (.ref a44)])) _
  have F106 : Fld Z h62 a44 zs2 "words" "[J" .null := ((pF_a44_words.other W59 (Or.inr (slot_ne (Or.inl (wd hw 30 rfl)) (Or.inl (wd hw 17 rfl)) (by decide) (t := (.array .long)) (t' := .int) (by decide) (by decide)))).other W62 (Or.inr (slot_ne (Or.inl (wd hw 30 rfl)) (Or.inl (wd hw 19 rfl)) (by decide) (t := (.array .long)) (t' := .boolean) (by decide) (by decide))))
  have E107 : Exa Z h62 a44 zs2 := (E61.wr W62)
  have F108 : Fld Z h62 a44 zs2 "wordsInUse" "I" (.int (0 : Int32)) := (Fw59.other W62 (Or.inr (slot_ne (Or.inl (wd hw 17 rfl)) (Or.inl (wd hw 19 rfl)) (by decide) (t := .int) (t' := .boolean) (by decide) (by decide))))
  have O109 : Old Z n0 h62 := ((O0.wr W59 pG_a44).wr W62 pG_a44)
  obtain ⟨cq63, q63, q63'⟩ := E107.cell
  obtain ⟨_, _, ⟨T63, L63, c63, n63⟩, -, X63, ⟨Lc63, hQ63, l63, y63, z63⟩, st63⟩ := X62.privateBack hx (y := (⟨zs2, "initWords", "(I)V"⟩ : MethodName)) hown (mvT hZ (wd hw 20 rfl)) (mvT hZ (wd hw 21 rfl)) (mvT hZ (wd hw 23 rfl)) (Cond.privateMethod_at (mvP hZ (wd hw 22 rfl) (args := #[]))) (mvT hZ (wd hw 24 rfl)) (by decide) (backOf (W := 0) (rm2 l Z a0 hw [] a44 (0 : Int32) (0 : Int32) h62 n0 O109 F106 E107 pG_a44 F108 Fw62) hZ (wd hw 24 rfl) (wd hw 11 rfl) (by decide) (by decide)) (g := (mkF m 47 #[rv a44, iv (256 : Int32)] [(.int (256 : Int32)), (.ref a44)])) rfl (by rw [hml]; rfl) (Steps.refl _) (a := a44) (by rw [e62]; exact q63) q63' (argsL := [(.int (256 : Int32))]) (rest := []) (lenOf pd_2 rfl) rfl (by show 2 * 0 + _ ≤ _; exact Nat.le_of_eq rfl) (hb hby d3_47) (fun _ _ => ⟨rfl, e62, (by decide : 0 + 1 ≤ _), (by decide : 0 + 4 ≤ _)⟩)
  dsimp only [Pt.U, Pt.locs, Pt.cells, Pt.slots] at X63 l63 y63 z63 st63 hQ63
  subst l63 y63 z63
  obtain ⟨h63, e63⟩ : ∃ z, T63.heap = z := ⟨_, rfl⟩
  rw [e63] at hQ63
  obtain ⟨b110, k111, rfl, Nq63, K63, ex112, fx113, fx114, fx115, bx116, vx117⟩ := hQ63
  have N63 := Fr.app N62 Nq63
  have g118 : n0 ≤ b110 := Nat.le_trans (own_old O109) bx116
  have Z120 : h0.size ≤ h62.size := (Nat.le_trans (Nat.le_trans (Nat.le_refl _) (Nat.le_of_eq W59.size.symm)) (Nat.le_of_eq W62.size.symm))
  have B119 : h0.size ≤ b110 := Nat.le_trans Z120 bx116
  refine own_via (fun t k => st63.trans (XS.aloadN X63.here hx rfl (hb hby d3_50) rfl rfl (XS.iconst X63.here hx rfl (hb hby d3_51) k))) ?_
  show own_Goes p e below (T63.setTop (mkF m 52 #[rv a44, iv (256 : Int32)] [(.int (1 : Int32)), (.ref a44)])) _
  obtain ⟨T121, h121, X121, e121, W121, st121⟩ := putFN X63 hx hZ hown (wd hw 18 rfl) Via.refl e63 fx114 ex112 (Or.inl (wd hw 19 rfl)) (wd hw 10 rfl) (ty := .boolean) (v' := (.int (1 : Int32))) (by decide) rfl (by decide) (g := (mkF m 52 #[rv a44, iv (256 : Int32)] [(.int (1 : Int32)), (.ref a44)])) rfl rfl (hb hby d3_52)
  refine own_via (fun t k => st121 t k) ?_
  have Fw121 : Fld Z h121 a44 zs2 zs5 "Z" (.int (1 : Int32)) := fx114.same W121
  have N121 := Fr.snoc X121 N63 pG_a44
  show own_Goes p e below (T121.setTop (mkF m 55 #[rv a44, iv (256 : Int32)] [])) _
  obtain ⟨fs, hr, hrun, hended, hW, hsame⟩ := X121.leave (v := none) (fun _ => rfl)
  refine own_end (t := T121.setFrames fs) ?_ ⟨_, hrun, hended, _, _, rfl, ?_, ⟨_, rfl⟩, hW, hsame.mono (by decide) (by decide)⟩
  · exact X121.returnOut hx Bd.returns (hb hby d3_55) hr
  have E122 : Exa Z h121 a44 zs2 := (ex112.wr W121)
  have F123 : Fld Z h121 a44 zs2 "wordsInUse" "I" (.int (0 : Int32)) := (fx113.other W121 (Or.inr (slot_ne (Or.inl (wd hw 17 rfl)) (Or.inl (wd hw 19 rfl)) (by decide) (t := .int) (t' := .boolean) (by decide) (by decide))))
  have F124 : Fld Z h121 a44 zs2 "words" "[J" (.ref b110) := (fx115.other W121 (Or.inr (slot_ne (Or.inl (wd hw 30 rfl)) (Or.inl (wd hw 19 rfl)) (by decide) (t := (.array .long)) (t' := .boolean) (by decide) (by decide))))
  have V125 : Arv Z h121 b110 k111 .long (4 : Int32) [] (.long (0 : Int64)) := (vx117.other W121 (Ne.symm (Nat.ne_of_lt (Nat.lt_of_lt_of_le pE_a44.lt B119))))
  · show Q3 Z a44 p49 p50 h0 n0 _ T121.heap _
    rw [e121]
    exact ⟨b110, k111, rfl, N121, (((((Keep.refl h0 [a44]).wr W59 (Or.inl (List.mem_of_getElem? (i := 0) rfl))).wr W62 (Or.inl (List.mem_of_getElem? (i := 0) rfl))).trans K63 (allS (Or.inl (List.mem_of_getElem? (i := 0) rfl)) all0)).wr W121 (Or.inl (List.mem_of_getElem? (i := 0) rfl))), E122, F123, Fw121, F124, B119, V125⟩
theorem d1_15 : decode prog_61_method_1_code 15 = .ok (.putfield 12, 3) := by decide +kernel
theorem d1_18 : decode prog_61_method_1_code 18 = .ok (.aload_n 0, 1) := by decide +kernel
theorem d1_19 : decode prog_61_method_1_code 19 = .ok (.new 7, 3) := by decide +kernel
theorem d1_22 : decode prog_61_method_1_code 22 = .ok (.dup, 1) := by decide +kernel
theorem d1_23 : decode prog_61_method_1_code 23 = .ok (.sipush 256, 3) := by decide +kernel
theorem d1_26 : decode prog_61_method_1_code 26 = .ok (.invokespecial 9, 3) := by decide +kernel
theorem d1_29 : decode prog_61_method_1_code 29 = .ok (.putfield 18, 3) := by decide +kernel
theorem d1_32 : decode prog_61_method_1_code 32 = .ok (.return_, 1) := by decide +kernel
theorem ef_4 (m : MethodId) (x0 : Addr) : entryFrame m #[(.ref x0)] 1 = mkF m 0 #[rv x0] [] := by first | (simp [entryFrame, mkF, argsToLocals, Value.category]; done) | rfl
theorem pn_2 : plainName "com/example/hearthkey/hearthkey/gateway/transport/TelnetOptions" = true := by first | (simp [plainName, overriddenIn]; done) | decide +kernel
def Q4 (Z : State) (a24 : Addr) (p25 : Int32) (p26 : Int32) (p27 : Int32) (h0 : Heap) (n0 : Nat) (v : Option Value) (h : Heap) (L : List Loc) : Prop := (∃ (b37 : Addr) (b127 : Addr) (k128 : ClassId) (b143 : Addr) (b157 : Addr) (k158 : ClassId), v = none ∧ Fr n0 L ∧ Keep h0 h [a24] ∧ Exa Z h a24 zs1 ∧ Fld Z h a24 zs1 "refusedWill" zs3 (.ref b37) ∧ Fld Z h a24 zs1 "refusedDo" zs3 (.ref b143) ∧ Fld Z h a24 zs1 "gmcpOn" "Z" (.int p25) ∧ Fld Z h a24 zs1 "gmcpOffered" "Z" (.int p26) ∧ Fld Z h a24 zs1 "echoOffered" "Z" (.int p27) ∧ h0.size ≤ b37 ∧ Exa Z h b37 zs2 ∧ Fld Z h b37 zs2 "wordsInUse" "I" (.int (0 : Int32)) ∧ Fld Z h b37 zs2 zs5 "Z" (.int (1 : Int32)) ∧ Fld Z h b37 zs2 "words" "[J" (.ref b127) ∧ h0.size ≤ b127 ∧ Arv Z h b127 k128 .long (4 : Int32) [] (.long (0 : Int64)) ∧ h0.size ≤ b143 ∧ Exa Z h b143 zs2 ∧ Fld Z h b143 zs2 "wordsInUse" "I" (.int (0 : Int32)) ∧ Fld Z h b143 zs2 zs5 "Z" (.int (1 : Int32)) ∧ Fld Z h b143 zs2 "words" "[J" (.ref b157) ∧ h0.size ≤ b157 ∧ Arv Z h b157 k158 .long (4 : Int32) [] (.long (0 : Int64)) ∧ b37 ≠ b127 ∧ b37 ≠ b143 ∧ b37 ≠ b157 ∧ b127 ≠ b143 ∧ b127 ≠ b157 ∧ b143 ≠ b157)
set_option maxRecDepth 65536 in
set_option maxHeartbeats 40000000 in
theorem rm4 (l : Launch) (Z : State) (a0 : Array Value) (hw : ∀ d ∈ tables_1, d.before a0 Z = true) (ws : List Jvm.Cond) (a24 : Addr) (p25 : Int32) (p26 : Int32) (p27 : Int32) (h0 : Heap) (n0 : Nat) (O0 : Old Z n0 h0) (pF_a24_refusedWill : Fld Z h0 a24 zs1 "refusedWill" zs3 .null) (pE_a24 : Exa Z h0 a24 zs1) (pG_a24 : n0 ≤ a24) (pF_a24_refusedDo : Fld Z h0 a24 zs1 "refusedDo" zs3 .null) (pF_a24_gmcpOn : Fld Z h0 a24 zs1 "gmcpOn" "Z" (.int p25)) (pF_a24_gmcpOffered : Fld Z h0 a24 zs1 "gmcpOffered" "Z" (.int p26)) (pF_a24_echoOffered : Fld Z h0 a24 zs1 "echoOffered" "Z" (.int p27)) :
    MetFree l (⟨zs1, "<init>", "()V"⟩ : MethodName) (head1 (Jvm.Cond.code (⟨zs1, "<init>", "()V"⟩ : MethodName) prog_61_method_1_code 1 none :: ws) ({ frames := 3, cells := 4, slots := 14, locals := 41 } : Room)) (fun a U => a = #[(.ref a24)] ∧ Z.Warmed39 U.vm ∧ U.heap = h0) (fun _ _ _ _ _ => True) (fun _ U o U' => ∃ v L, o = .returned v ∧ Q4 Z a24 p25 p26 p27 h0 n0 v U'.heap L ∧ FrameEnd U o U' L ({ frames := 3, cells := 4, slots := 14, locals := 41 } : Room).cells ({ frames := 3, cells := 4, slots := 14, locals := 41 } : Room).slots) := by
  refine MetFree.of_bodySF (plainFor_of_name pn_2) hisR ?_
  intro p e s m args below meth c s₁ Bd hml0 hP hK
  obtain ⟨rfl, hZ, hh⟩ := hP
  have hx := Bd.exec
  have hby := Bd.bytes
  have hml : c.maxLocals = 1 := hml0
  have hown : s.vm.findClass zs1 = some m.cls := findClass_of_methodNamed Bd.named
  have hnm := (name_of_methodNamed Bd.named Bd.method).1
  have X0 : Stand p l e ({ frames := 3, cells := 4, slots := 14, locals := 41 } : Room) s m #[(.ref a24)] below meth c s₁ [] 0 0 := Stand.of_body Bd
  have e0 : s₁.heap = h0 := by rw [← hh, Bd.state]; rfl
  have N0 := Fr.nil n0
  refine own_out ?_
  refine own_via (fun t k => castTop (ef_4 m a24) (XS.aloadN X0.here hx rfl (hb hby d1_0) rfl rfl k)) ?_
  obtain ⟨T35, X35, e35, st35⟩ := initO X0 hx hZ hown (wd hw 6 rfl) (wd hw 7 rfl) (wd hw 8 rfl) e0 (g := (mkF m 1 #[rv a24] [(.ref a24)])) rfl (by rw [hml]; rfl) rfl (hb hby d1_1) (by decide) (W := 0) (by show 2 * 0 + _ ≤ _; exact Nat.le_of_eq rfl) (by decide)
  refine own_via (fun t k => st35 t (XS.aloadN X35.here hx rfl (hb hby d1_4) rfl rfl k)) ?_
  obtain ⟨T36, h36, X36, e36, E36, A36, D36, -, st36⟩ := newO X35 hx hZ hown (wd hw 9 rfl) (wd hw 10 rfl) (wd hw 11 rfl) e35 (g := (mkF m 5 #[rv a24] [(.ref a24)])) rfl (hb hby d1_5) (by decide) (by decide)
  obtain ⟨b37, q36⟩ : ∃ z, z = h0.size := ⟨_, rfl⟩
  rw [← q36] at A36 D36 st36
  refine own_via (fun t k => st36 t k) ?_
  have g38 : n0 ≤ b37 := Nat.le_trans (own_old O0) (Nat.le_of_eq q36.symm)
  have B39 : h0.size ≤ b37 := Nat.le_trans (Nat.le_refl _) (Nat.le_of_eq q36.symm)
  have F40 : Fld Z h36 b37 zs2 "wordsInUse" "I" (.int (0 : Int32)) := D36 (Or.inl (wd hw 17 rfl)) (ty := .int) (by decide)
  have F41 : Fld Z h36 b37 zs2 zs5 "Z" (.int (0 : Int32)) := D36 (Or.inl (wd hw 19 rfl)) (ty := .boolean) (by decide)
  have F42 : Fld Z h36 b37 zs2 "words" "[J" .null := D36 (Or.inl (wd hw 30 rfl)) (ty := (.array .long)) (by decide)
  show own_Goes p e below (T36.setTop (mkF m 8 #[rv a24] [(.ref b37), (.ref a24)])) _
  refine own_via (fun t k => XS.dup X36.here hx rfl (hb hby d1_8) rfl rfl (XS.sipush X36.here hx rfl (hb hby d1_9) k)) ?_
  have O126 : Old Z n0 h36 := (O0.ext E36)
  obtain ⟨_, T43, _, X43, hQ43, st43⟩ := own_ci X36 hx hZ hown (wd hw 12 rfl) (wd hw 13 rfl) (wd hw 14 rfl) (wd hw 11 rfl) rfl (by decide) (rm3 l Z a0 hw [] b37 (0 : Int32) (0 : Int32) h36 n0 O126 F40 A36 g38 F41 F42) e36 (g := (mkF m 12 #[rv a24] [(.int (256 : Int32)), (.ref b37), (.ref b37), (.ref a24)])) rfl (by rw [hml]; rfl) (rest := [(.ref b37), (.ref a24)]) (W := 2) (lenOf pd_2 rfl) rfl (by show 2 * 0 + _ ≤ _; exact Nat.le_of_eq rfl) (hb hby d1_12) (by decide) (by decide) (by decide) (by decide)
  obtain ⟨h43, e43⟩ : ∃ z, T43.heap = z := ⟨_, rfl⟩
  rw [e43] at hQ43
  obtain ⟨b127, k128, rfl, Nq43, K43, ex129, fx130, fx131, fx132, bx133, vx134⟩ := hQ43
  have N43 := Fr.app N0 Nq43
  have N135 : b37 ≠ b127 := Nat.ne_of_lt (Nat.lt_of_lt_of_le A36.lt bx133)
  have g136 : n0 ≤ b127 := Nat.le_trans (own_old O126) bx133
  have Z138 : h0.size ≤ h36.size := (Nat.le_trans (Nat.le_refl _) E36.1)
  have B137 : h0.size ≤ b127 := Nat.le_trans Z138 bx133
  refine own_via (fun t k => st43 t k) ?_
  have F139 : Fld Z h43 a24 zs1 "refusedWill" zs3 .null := ((pF_a24_refusedWill.ext E36).keep K43 (ninS (Nat.ne_of_lt (Nat.lt_of_lt_of_le pE_a24.lt B39)) nin0))
  have E140 : Exa Z h43 a24 zs1 := ((pE_a24.ext E36).keep K43)
  obtain ⟨T141, h141, X141, e141, W141, st141⟩ := putF X43 hx hZ hown (host := "") (Or.inl (wd hw 31 rfl)) Via.refl e43 F139 E140 (Or.inr ⟨(wd hw 32 rfl), rfl, hnm⟩) (wd hw 1 rfl) (ty := (.object zs2)) (by decide) rfl rfl (g := (mkF m 15 #[rv a24] [(.ref b37), (.ref a24)])) rfl rfl (hb hby d1_15)
  refine own_via (fun t k => st141 t k) ?_
  have Fw141 : Fld Z h141 a24 zs1 "refusedWill" zs3 (.ref b37) := F139.same W141
  have N141 := Fr.snoc X141 N43 pG_a24
  show own_Goes p e below (T141.setTop (mkF m 18 #[rv a24] [])) _
  refine own_via (fun t k => XS.aloadN X141.here hx rfl (hb hby d1_18) rfl rfl k) ?_
  obtain ⟨T142, h142, X142, e142, E142, A142, D142, -, st142⟩ := newO X141 hx hZ hown (wd hw 9 rfl) (wd hw 10 rfl) (wd hw 11 rfl) e141 (g := (mkF m 19 #[rv a24] [(.ref a24)])) rfl (hb hby d1_19) (by decide) (by decide)
  obtain ⟨b143, q142⟩ : ∃ z, z = h141.size := ⟨_, rfl⟩
  rw [← q142] at A142 D142 st142
  refine own_via (fun t k => st142 t k) ?_
  have E145 : Exa Z h141 b37 zs2 := (ex129.wr W141)
  have N144 : b37 ≠ b143 := Nat.ne_of_lt (Nat.lt_of_lt_of_le E145.lt (Nat.le_of_eq q142.symm))
  have V147 : Arv Z h141 b127 k128 .long (4 : Int32) [] (.long (0 : Int64)) := (vx134.other W141 (Ne.symm (Nat.ne_of_lt (Nat.lt_of_lt_of_le pE_a24.lt B137))))
  have N146 : b127 ≠ b143 := Nat.ne_of_lt (Nat.lt_of_lt_of_le V147.lt (Nat.le_of_eq q142.symm))
  have O149 : Old Z n0 h141 := ((O126.keep K43 (allS g38 all0)).wr W141 pG_a24)
  have g148 : n0 ≤ b143 := Nat.le_trans (own_old O149) (Nat.le_of_eq q142.symm)
  have Z151 : h0.size ≤ h141.size := (Nat.le_trans (Nat.le_trans Z138 K43.1) (Nat.le_of_eq W141.size.symm))
  have B150 : h0.size ≤ b143 := Nat.le_trans Z151 (Nat.le_of_eq q142.symm)
  have F152 : Fld Z h142 b143 zs2 "wordsInUse" "I" (.int (0 : Int32)) := D142 (Or.inl (wd hw 17 rfl)) (ty := .int) (by decide)
  have F153 : Fld Z h142 b143 zs2 zs5 "Z" (.int (0 : Int32)) := D142 (Or.inl (wd hw 19 rfl)) (ty := .boolean) (by decide)
  have F154 : Fld Z h142 b143 zs2 "words" "[J" .null := D142 (Or.inl (wd hw 30 rfl)) (ty := (.array .long)) (by decide)
  show own_Goes p e below (T142.setTop (mkF m 22 #[rv a24] [(.ref b143), (.ref a24)])) _
  refine own_via (fun t k => XS.dup X142.here hx rfl (hb hby d1_22) rfl rfl (XS.sipush X142.here hx rfl (hb hby d1_23) k)) ?_
  have O156 : Old Z n0 h142 := (O149.ext E142)
  obtain ⟨_, T155, _, X155, hQ155, st155⟩ := own_ci X142 hx hZ hown (wd hw 12 rfl) (wd hw 13 rfl) (wd hw 14 rfl) (wd hw 11 rfl) rfl (by decide) (rm3 l Z a0 hw [] b143 (0 : Int32) (0 : Int32) h142 n0 O156 F152 A142 g148 F153 F154) e142 (g := (mkF m 26 #[rv a24] [(.int (256 : Int32)), (.ref b143), (.ref b143), (.ref a24)])) rfl (by rw [hml]; rfl) (rest := [(.ref b143), (.ref a24)]) (W := 2) (lenOf pd_2 rfl) rfl (by show 2 * 0 + _ ≤ _; exact Nat.le_of_eq rfl) (hb hby d1_26) (by decide) (by decide) (by decide) (by decide)
  obtain ⟨h155, e155⟩ : ∃ z, T155.heap = z := ⟨_, rfl⟩
  rw [e155] at hQ155
  obtain ⟨b157, k158, rfl, Nq155, K155, ex159, fx160, fx161, fx162, bx163, vx164⟩ := hQ155
  have N155 := Fr.app N141 Nq155
  have E166 : Exa Z h142 b37 zs2 := (E145.ext E142)
  have N165 : b37 ≠ b157 := Nat.ne_of_lt (Nat.lt_of_lt_of_le E166.lt bx163)
  have V168 : Arv Z h142 b127 k128 .long (4 : Int32) [] (.long (0 : Int64)) := (V147.ext E142)
  have N167 : b127 ≠ b157 := Nat.ne_of_lt (Nat.lt_of_lt_of_le V168.lt bx163)
  have N169 : b143 ≠ b157 := Nat.ne_of_lt (Nat.lt_of_lt_of_le A142.lt bx163)
  have g170 : n0 ≤ b157 := Nat.le_trans (own_old O156) bx163
  have Z172 : h0.size ≤ h142.size := (Nat.le_trans Z151 E142.1)
  have B171 : h0.size ≤ b157 := Nat.le_trans Z172 bx163
  refine own_via (fun t k => st155 t k) ?_
  have F173 : Fld Z h155 a24 zs1 "refusedDo" zs3 .null := (((((pF_a24_refusedDo.ext E36).keep K43 (ninS (Nat.ne_of_lt (Nat.lt_of_lt_of_le pE_a24.lt B39)) nin0)).other W141 (Or.inr (slot_ne (Or.inr (wd hw 34 rfl)) (Or.inr (wd hw 32 rfl)) (by decide) (t := (.object zs2)) (t' := (.object zs2)) (by decide) (by decide)))).ext E142).keep K155 (ninS (Nat.ne_of_lt (Nat.lt_of_lt_of_le pE_a24.lt B150)) nin0))
  have E174 : Exa Z h155 a24 zs1 := (((E140.wr W141).ext E142).keep K155)
  obtain ⟨T175, h175, X175, e175, W175, st175⟩ := putF X155 hx hZ hown (host := "") (Or.inl (wd hw 33 rfl)) Via.refl e155 F173 E174 (Or.inr ⟨(wd hw 34 rfl), rfl, hnm⟩) (wd hw 1 rfl) (ty := (.object zs2)) (by decide) rfl rfl (g := (mkF m 29 #[rv a24] [(.ref b143), (.ref a24)])) rfl rfl (hb hby d1_29)
  refine own_via (fun t k => st175 t k) ?_
  have Fw175 : Fld Z h175 a24 zs1 "refusedDo" zs3 (.ref b143) := F173.same W175
  have N175 := Fr.snoc X175 N155 pG_a24
  show own_Goes p e below (T175.setTop (mkF m 32 #[rv a24] [])) _
  obtain ⟨fs, hr, hrun, hended, hW, hsame⟩ := X175.leave (v := none) (fun _ => rfl)
  refine own_end (t := T175.setFrames fs) ?_ ⟨_, hrun, hended, _, _, rfl, ?_, ⟨_, rfl⟩, hW, hsame.mono (by decide) (by decide)⟩
  · exact X175.returnOut hx Bd.returns (hb hby d1_32) hr
  have E176 : Exa Z h175 a24 zs1 := (E174.wr W175)
  have F177 : Fld Z h175 a24 zs1 "refusedWill" zs3 (.ref b37) := (((Fw141.ext E142).keep K155 (ninS (Nat.ne_of_lt (Nat.lt_of_lt_of_le pE_a24.lt B150)) nin0)).other W175 (Or.inr (slot_ne (Or.inr (wd hw 32 rfl)) (Or.inr (wd hw 34 rfl)) (by decide) (t := (.object zs2)) (t' := (.object zs2)) (by decide) (by decide))))
  have F178 : Fld Z h175 a24 zs1 "gmcpOn" "Z" (.int p25) := ((((((pF_a24_gmcpOn.ext E36).keep K43 (ninS (Nat.ne_of_lt (Nat.lt_of_lt_of_le pE_a24.lt B39)) nin0)).other W141 (Or.inr (slot_ne (Or.inl (wd hw 41 rfl)) (Or.inr (wd hw 32 rfl)) (by decide) (t := .boolean) (t' := (.object zs2)) (by decide) (by decide)))).ext E142).keep K155 (ninS (Nat.ne_of_lt (Nat.lt_of_lt_of_le pE_a24.lt B150)) nin0)).other W175 (Or.inr (slot_ne (Or.inl (wd hw 41 rfl)) (Or.inr (wd hw 34 rfl)) (by decide) (t := .boolean) (t' := (.object zs2)) (by decide) (by decide))))
  have F179 : Fld Z h175 a24 zs1 "gmcpOffered" "Z" (.int p26) := ((((((pF_a24_gmcpOffered.ext E36).keep K43 (ninS (Nat.ne_of_lt (Nat.lt_of_lt_of_le pE_a24.lt B39)) nin0)).other W141 (Or.inr (slot_ne (Or.inl (wd hw 48 rfl)) (Or.inr (wd hw 32 rfl)) (by decide) (t := .boolean) (t' := (.object zs2)) (by decide) (by decide)))).ext E142).keep K155 (ninS (Nat.ne_of_lt (Nat.lt_of_lt_of_le pE_a24.lt B150)) nin0)).other W175 (Or.inr (slot_ne (Or.inl (wd hw 48 rfl)) (Or.inr (wd hw 34 rfl)) (by decide) (t := .boolean) (t' := (.object zs2)) (by decide) (by decide))))
  have F180 : Fld Z h175 a24 zs1 "echoOffered" "Z" (.int p27) := ((((((pF_a24_echoOffered.ext E36).keep K43 (ninS (Nat.ne_of_lt (Nat.lt_of_lt_of_le pE_a24.lt B39)) nin0)).other W141 (Or.inr (slot_ne (Or.inl (wd hw 95 rfl)) (Or.inr (wd hw 32 rfl)) (by decide) (t := .boolean) (t' := (.object zs2)) (by decide) (by decide)))).ext E142).keep K155 (ninS (Nat.ne_of_lt (Nat.lt_of_lt_of_le pE_a24.lt B150)) nin0)).other W175 (Or.inr (slot_ne (Or.inl (wd hw 95 rfl)) (Or.inr (wd hw 34 rfl)) (by decide) (t := .boolean) (t' := (.object zs2)) (by decide) (by decide))))
  have E181 : Exa Z h175 b37 zs2 := ((E166.keep K155).wr W175)
  have F182 : Fld Z h175 b37 zs2 "wordsInUse" "I" (.int (0 : Int32)) := ((((fx130.other W141 (Or.inl (Ne.symm (Nat.ne_of_lt (Nat.lt_of_lt_of_le pE_a24.lt B39))))).ext E142).keep K155 (ninS N144 nin0)).other W175 (Or.inl (Ne.symm (Nat.ne_of_lt (Nat.lt_of_lt_of_le pE_a24.lt B39)))))
  have F183 : Fld Z h175 b37 zs2 zs5 "Z" (.int (1 : Int32)) := ((((fx131.other W141 (Or.inl (Ne.symm (Nat.ne_of_lt (Nat.lt_of_lt_of_le pE_a24.lt B39))))).ext E142).keep K155 (ninS N144 nin0)).other W175 (Or.inl (Ne.symm (Nat.ne_of_lt (Nat.lt_of_lt_of_le pE_a24.lt B39)))))
  have F184 : Fld Z h175 b37 zs2 "words" "[J" (.ref b127) := ((((fx132.other W141 (Or.inl (Ne.symm (Nat.ne_of_lt (Nat.lt_of_lt_of_le pE_a24.lt B39))))).ext E142).keep K155 (ninS N144 nin0)).other W175 (Or.inl (Ne.symm (Nat.ne_of_lt (Nat.lt_of_lt_of_le pE_a24.lt B39)))))
  have V185 : Arv Z h175 b127 k128 .long (4 : Int32) [] (.long (0 : Int64)) := ((V168.keep K155 (ninS N146 nin0)).other W175 (Ne.symm (Nat.ne_of_lt (Nat.lt_of_lt_of_le pE_a24.lt B137))))
  have E186 : Exa Z h175 b143 zs2 := (ex159.wr W175)
  have F187 : Fld Z h175 b143 zs2 "wordsInUse" "I" (.int (0 : Int32)) := (fx160.other W175 (Or.inl (Ne.symm (Nat.ne_of_lt (Nat.lt_of_lt_of_le pE_a24.lt B150)))))
  have F188 : Fld Z h175 b143 zs2 zs5 "Z" (.int (1 : Int32)) := (fx161.other W175 (Or.inl (Ne.symm (Nat.ne_of_lt (Nat.lt_of_lt_of_le pE_a24.lt B150)))))
  have F189 : Fld Z h175 b143 zs2 "words" "[J" (.ref b157) := (fx162.other W175 (Or.inl (Ne.symm (Nat.ne_of_lt (Nat.lt_of_lt_of_le pE_a24.lt B150)))))
  have V190 : Arv Z h175 b157 k158 .long (4 : Int32) [] (.long (0 : Int64)) := (vx164.other W175 (Ne.symm (Nat.ne_of_lt (Nat.lt_of_lt_of_le pE_a24.lt B171))))
  · show Q4 Z a24 p25 p26 p27 h0 n0 _ T175.heap _
    rw [e175]
    exact ⟨b37, b127, k128, b143, b157, k158, rfl, N175, (((((((Keep.refl h0 [a24]).ext E36).trans K43 (allS (Or.inr B39) all0)).wr W141 (Or.inl (List.mem_of_getElem? (i := 0) rfl))).ext E142).trans K155 (allS (Or.inr B150) all0)).wr W175 (Or.inl (List.mem_of_getElem? (i := 0) rfl))), E176, F177, Fw175, F178, F179, F180, B39, E181, F182, F183, F184, B137, V185, B150, E186, F187, F188, F189, B171, V190, N135, N144, N165, N146, N167, N169⟩
theorem pd_3 : parseMethodDescriptor "()V" = some ⟨[], none⟩ := by decide +kernel
theorem d6_0 : decode prog_61_method_4_code 0 = .ok (.aload_n 0, 1) := by decide +kernel
theorem d6_1 : decode prog_61_method_4_code 1 = .ok (.getfield 32, 3) := by decide +kernel
theorem d6_4 : decode prog_61_method_4_code 4 = .ok (.ireturn, 1) := by decide +kernel
theorem ef_5 (m : MethodId) (x0 : Addr) : entryFrame m #[(.ref x0)] 1 = mkF m 0 #[rv x0] [] := by first | (simp [entryFrame, mkF, argsToLocals, Value.category]; done) | rfl
def Q5 (Z : State) (a238 : Addr) (h0 : Heap) (n0 : Nat) (v : Option Value) (h : Heap) (L : List Loc) : Prop := v = some (.int (0 : Int32)) ∧ Fr n0 L ∧ h = h0
set_option maxRecDepth 65536 in
set_option maxHeartbeats 40000000 in
theorem rm5 (l : Launch) (Z : State) (a0 : Array Value) (hw : ∀ d ∈ tables_1, d.before a0 Z = true) (ws : List Jvm.Cond) (a238 : Addr) (h0 : Heap) (n0 : Nat) (O0 : Old Z n0 h0) (pF_a238_gmcpOn : Fld Z h0 a238 zs1 "gmcpOn" "Z" (.int (0 : Int32))) :
    MetFree l (⟨zs1, "gmcpOn", "()Z"⟩ : MethodName) (head1 (Jvm.Cond.code (⟨zs1, "gmcpOn", "()Z"⟩ : MethodName) prog_61_method_4_code 1 (some .boolean) :: ws) ({ frames := 0, cells := 0, slots := 0, locals := 0 } : Room)) (fun a U => a = #[(.ref a238)] ∧ Z.Warmed39 U.vm ∧ U.heap = h0) (fun _ _ _ _ _ => True) (fun _ U o U' => ∃ v L, o = .returned v ∧ Q5 Z a238 h0 n0 v U'.heap L ∧ FrameEnd U o U' L ({ frames := 0, cells := 0, slots := 0, locals := 0 } : Room).cells ({ frames := 0, cells := 0, slots := 0, locals := 0 } : Room).slots) := by
  refine MetFree.of_bodySF (plainFor_of_name pn_2) hisR ?_
  intro p e s m args below meth c s₁ Bd hml0 hP hK
  obtain ⟨rfl, hZ, hh⟩ := hP
  have hx := Bd.exec
  have hby := Bd.bytes
  have hml : c.maxLocals = 1 := hml0
  have hown : s.vm.findClass zs1 = some m.cls := findClass_of_methodNamed Bd.named
  have hnm := (name_of_methodNamed Bd.named Bd.method).1
  have X0 : Stand p l e ({ frames := 0, cells := 0, slots := 0, locals := 0 } : Room) s m #[(.ref a238)] below meth c s₁ [] 0 0 := Stand.of_body Bd
  have e0 : s₁.heap = h0 := by rw [← hh, Bd.state]; rfl
  have N0 := Fr.nil n0
  refine own_out ?_
  refine own_via (fun t k => castTop (ef_5 m a238) (XS.aloadN X0.here hx rfl (hb hby d6_0) rfl rfl k)) ?_
  obtain ⟨T258, X258, e258, st258⟩ := getF X0 hx hZ hown (host := "") (Or.inl (wd hw 40 rfl)) Via.refl e0 pF_a238_gmcpOn (g := (mkF m 1 #[rv a238] [(.ref a238)])) rfl rfl (hb hby d6_1)
  refine own_via (fun t k => st258 t k) ?_
  obtain ⟨fs, hr, hrun, hended, hW, hsame⟩ := X258.leave (v := some (.int (0 : Int32))) (fun h => by rw [Bd.returns] at h; cases h)
  refine own_end (t := T258.setFrames fs) ?_ ⟨_, hrun, hended, _, _, rfl, ?_, ⟨_, rfl⟩, hW, hsame.mono (by decide) (by decide)⟩
  · exact retN X258 hx (t := .boolean) Bd.returns (by simp) (hb hby d6_4) hr
  · show Q5 Z a238 h0 n0 _ T258.heap _
    rw [e258]
    exact ⟨rfl, N0, rfl⟩
theorem pd_4 : parseMethodDescriptor "()Z" = some ⟨[], some .boolean⟩ := by decide +kernel
theorem d7_0 : decode prog_61_method_2_code 0 = .ok (.iload_n 1, 1) := by decide +kernel
theorem d7_1 : decode prog_61_method_2_code 1 = .ok (.sipush 253, 3) := by decide +kernel
theorem d7_4 : decode prog_61_method_2_code 4 = .ok (.if_icmp .ne 19, 3) := by decide +kernel
theorem d7_23 : decode prog_61_method_2_code 23 = .ok (.iload_n 2, 1) := by decide +kernel
theorem d7_24 : decode prog_61_method_2_code 24 = .ok (.sipush 201, 3) := by decide +kernel
theorem d7_27 : decode prog_61_method_2_code 27 = .ok (.if_icmp .ne 48, 3) := by decide +kernel
theorem d7_30 : decode prog_61_method_2_code 30 = .ok (.iload_n 1, 1) := by decide +kernel
theorem d7_31 : decode prog_61_method_2_code 31 = .ok (.sipush 253, 3) := by decide +kernel
theorem d7_34 : decode prog_61_method_2_code 34 = .ok (.if_icmp .eq 10, 3) := by decide +kernel
theorem d7_37 : decode prog_61_method_2_code 37 = .ok (.iload_n 1, 1) := by decide +kernel
theorem d7_38 : decode prog_61_method_2_code 38 = .ok (.sipush 254, 3) := by decide +kernel
theorem d7_41 : decode prog_61_method_2_code 41 = .ok (.if_icmp .ne 34, 3) := by decide +kernel
theorem d7_44 : decode prog_61_method_2_code 44 = .ok (.aload_n 0, 1) := by decide +kernel
theorem d7_45 : decode prog_61_method_2_code 45 = .ok (.getfield 29, 3) := by decide +kernel
theorem d7_48 : decode prog_61_method_2_code 48 = .ok (.ifCond .ne 10, 3) := by decide +kernel
theorem d7_51 : decode prog_61_method_2_code 51 = .ok (.aload_n 0, 1) := by decide +kernel
theorem d7_52 : decode prog_61_method_2_code 52 = .ok (.getfield 32, 3) := by decide +kernel
theorem d7_55 : decode prog_61_method_2_code 55 = .ok (.ifCond .eq 20, 3) := by decide +kernel
theorem d7_75 : decode prog_61_method_2_code 75 = .ok (.iload_n 1, 1) := by decide +kernel
theorem d7_76 : decode prog_61_method_2_code 76 = .ok (.sipush 251, 3) := by decide +kernel
theorem d7_79 : decode prog_61_method_2_code 79 = .ok (.if_icmp .ne 29, 3) := by decide +kernel
theorem d7_108 : decode prog_61_method_2_code 108 = .ok (.iload_n 1, 1) := by decide +kernel
theorem d7_109 : decode prog_61_method_2_code 109 = .ok (.sipush 253, 3) := by decide +kernel
theorem d7_112 : decode prog_61_method_2_code 112 = .ok (.if_icmp .ne 29, 3) := by decide +kernel
theorem d7_141 : decode prog_61_method_2_code 141 = .ok (.getstatic 25, 3) := by decide +kernel
theorem d7_144 : decode prog_61_method_2_code 144 = .ok (.areturn, 1) := by decide +kernel
theorem ef_6 (m : MethodId) (x0 : Addr) (x1 : Int32) (x2 : Int32) : entryFrame m #[(.ref x0), (.int x1), (.int x2)] 4 = mkF m 0 #[rv x0, iv x1, iv x2, .unset] [] := by first | (simp [entryFrame, mkF, argsToLocals, Value.category]; done) | rfl
def Q6 (Z : State) (a262 : Addr) (w6 : Addr) (h0 : Heap) (n0 : Nat) (v : Option Value) (h : Heap) (L : List Loc) : Prop := v = some (.ref w6) ∧ Fr n0 L ∧ h = h0
set_option maxRecDepth 65536 in
set_option maxHeartbeats 40000000 in
theorem rm6 (l : Launch) (Z : State) (a0 : Array Value) (hw : ∀ d ∈ tables_1, d.before a0 Z = true) (ws : List Jvm.Cond) (a262 : Addr) (w6 : Addr) (h0 : Heap) (n0 : Nat) (O0 : Old Z n0 h0) (pF_a262_gmcpOffered : Fld Z h0 a262 zs1 "gmcpOffered" "Z" (.int (0 : Int32))) (pF_a262_gmcpOn : Fld Z h0 a262 zs1 "gmcpOn" "Z" (.int (0 : Int32))) (S_TelnetOptions_NO_ANSWER : Sta Z Z.heap zs1 "NO_ANSWER" "[B" (.ref w6)) :
    MetFree l (⟨zs1, "answer", "(II)[B"⟩ : MethodName) (head1 (Jvm.Cond.code (⟨zs1, "answer", "(II)[B"⟩ : MethodName) prog_61_method_2_code 4 (some (.array .byte)) :: ws) ({ frames := 0, cells := 0, slots := 0, locals := 0 } : Room)) (fun a U => a = #[(.ref a262), (.int (254 : Int32)), (.int (201 : Int32))] ∧ Z.Warmed39 U.vm ∧ U.heap = h0) (fun _ _ _ _ _ => True) (fun _ U o U' => ∃ v L, o = .returned v ∧ Q6 Z a262 w6 h0 n0 v U'.heap L ∧ FrameEnd U o U' L ({ frames := 0, cells := 0, slots := 0, locals := 0 } : Room).cells ({ frames := 0, cells := 0, slots := 0, locals := 0 } : Room).slots) := by
  refine MetFree.of_bodySF (plainFor_of_name pn_2) hisR ?_
  intro p e s m args below meth c s₁ Bd hml0 hP hK
  obtain ⟨rfl, hZ, hh⟩ := hP
  have hx := Bd.exec
  have hby := Bd.bytes
  have hml : c.maxLocals = 4 := hml0
  have hown : s.vm.findClass zs1 = some m.cls := findClass_of_methodNamed Bd.named
  have hnm := (name_of_methodNamed Bd.named Bd.method).1
  have X0 : Stand p l e ({ frames := 0, cells := 0, slots := 0, locals := 0 } : Room) s m #[(.ref a262), (.int (254 : Int32)), (.int (201 : Int32))] below meth c s₁ [] 0 0 := Stand.of_body Bd
  have e0 : s₁.heap = h0 := by rw [← hh, Bd.state]; rfl
  have N0 := Fr.nil n0
  refine own_out ?_
  refine own_via (fun t k => castTop (ef_6 m a262 (254 : Int32) (201 : Int32)) (XS.iloadN X0.here hx rfl (hb hby d7_0) rfl (XS.sipush X0.here hx rfl (hb hby d7_1) (XS.icmpYes X0.here hx rfl (pc0 := 4) (pc' := 23) rfl (hb hby d7_4) rfl (feq (by decide : ¬ ((254 : Int32) = (253 : Int32)))).2 (by decide) (by decide) (XS.iloadN X0.here hx rfl (hb hby d7_23) rfl (XS.sipush X0.here hx rfl (hb hby d7_24) (XS.icmpNo X0.here hx rfl (hb hby d7_27) rfl (teq (by decide : (201 : Int32) = (201 : Int32))).2 (XS.iloadN X0.here hx rfl (hb hby d7_30) rfl (XS.sipush X0.here hx rfl (hb hby d7_31) (XS.icmpNo X0.here hx rfl (hb hby d7_34) rfl (feq (by decide : ¬ ((254 : Int32) = (253 : Int32)))).1 (XS.iloadN X0.here hx rfl (hb hby d7_37) rfl (XS.sipush X0.here hx rfl (hb hby d7_38) k)))))))))))) ?_
  show own_Goes p e below (s₁.setTop (mkF m 41 #[rv a262, iv (254 : Int32), iv (201 : Int32), .unset] [(.int (254 : Int32)), (.int (254 : Int32))])) _
  refine own_via (fun t k => XS.icmpNo X0.here hx rfl (hb hby d7_41) rfl (teq (by decide : (254 : Int32) = (254 : Int32))).2 (XS.aloadN X0.here hx rfl (hb hby d7_44) rfl rfl k)) ?_
  obtain ⟨T281, X281, e281, st281⟩ := getF X0 hx hZ hown (host := "") (Or.inl (wd hw 47 rfl)) Via.refl e0 pF_a262_gmcpOffered (g := (mkF m 45 #[rv a262, iv (254 : Int32), iv (201 : Int32), .unset] [(.ref a262)])) rfl rfl (hb hby d7_45)
  refine own_via (fun t k => st281 t (XS.ifNo X281.here hx rfl (hb hby d7_48) rfl ((if0 _ _).trans (teq (by decide : (0 : Int32) = (0 : Int32))).2) (XS.aloadN X281.here hx rfl (hb hby d7_51) rfl rfl k))) ?_
  show own_Goes p e below (T281.setTop (mkF m 52 #[rv a262, iv (254 : Int32), iv (201 : Int32), .unset] [(.ref a262)])) _
  obtain ⟨T282, X282, e282, st282⟩ := getF X281 hx hZ hown (host := "") (Or.inl (wd hw 40 rfl)) Via.refl e281 pF_a262_gmcpOn (g := (mkF m 52 #[rv a262, iv (254 : Int32), iv (201 : Int32), .unset] [(.ref a262)])) rfl rfl (hb hby d7_52)
  refine own_via (fun t k => st282 t (XS.ifYes X282.here hx rfl (pc0 := 55) (pc' := 75) rfl (hb hby d7_55) rfl ((if0 _ _).trans (teq (by decide : (0 : Int32) = (0 : Int32))).1) (by decide) (by decide) (XS.iloadN X282.here hx rfl (hb hby d7_75) rfl (XS.sipush X282.here hx rfl (hb hby d7_76) (XS.icmpYes X282.here hx rfl (pc0 := 79) (pc' := 108) rfl (hb hby d7_79) rfl (feq (by decide : ¬ ((254 : Int32) = (251 : Int32)))).2 (by decide) (by decide) (XS.iloadN X282.here hx rfl (hb hby d7_108) rfl (XS.sipush X282.here hx rfl (hb hby d7_109) (XS.icmpYes X282.here hx rfl (pc0 := 112) (pc' := 141) rfl (hb hby d7_112) rfl (feq (by decide : ¬ ((254 : Int32) = (253 : Int32)))).2 (by decide) (by decide) k)))))))) ?_
  show own_Goes p e below (T282.setTop (mkF m 141 #[rv a262, iv (254 : Int32), iv (201 : Int32), .unset] [])) _
  obtain ⟨T283, X283, e283, st283⟩ := getS2 X282 hx hZ hown (host := "") (Or.inl (wd hw 49 rfl)) Via.refl e282 (S_TelnetOptions_NO_ANSWER.ext O0.2) (g := (mkF m 141 #[rv a262, iv (254 : Int32), iv (201 : Int32), .unset] [])) rfl (hb hby d7_141)
  refine own_via (fun t k => st283 t k) ?_
  obtain ⟨fs, hr, hrun, hended, hW, hsame⟩ := X283.leave (v := some (.ref w6)) (fun h => by rw [Bd.returns] at h; cases h)
  refine own_end (t := T283.setFrames fs) ?_ ⟨_, hrun, hended, _, _, rfl, ?_, ⟨_, rfl⟩, hW, hsame.mono (by decide) (by decide)⟩
  · jvm_step X283.here [X283.here.top, hx, (hb hby d7_144), X283.method', Bd.returns, Value.isRef, FieldType.isReference]
    first | (intro acts; rw [hr _ acts rfl rfl rfl]) | rw [hr _ _ rfl rfl rfl]
    exact Steps.refl _
  · show Q6 Z a262 w6 h0 n0 _ T283.heap _
    rw [e283]
    exact ⟨rfl, N0, rfl⟩
theorem pd_5 : parseMethodDescriptor "(II)[B" = some ⟨[.int, .int], some (.array .byte)⟩ := by decide +kernel
theorem d7_7 : decode prog_61_method_2_code 7 = .ok (.iload_n 2, 1) := by decide +kernel
theorem d7_8 : decode prog_61_method_2_code 8 = .ok (.iconst 1, 1) := by decide +kernel
theorem d7_9 : decode prog_61_method_2_code 9 = .ok (.if_icmp .ne 14, 3) := by decide +kernel
theorem d7_115 : decode prog_61_method_2_code 115 = .ok (.aload_n 0, 1) := by decide +kernel
theorem d7_116 : decode prog_61_method_2_code 116 = .ok (.getfield 18, 3) := by decide +kernel
theorem d7_119 : decode prog_61_method_2_code 119 = .ok (.iload_n 2, 1) := by decide +kernel
theorem d7_120 : decode prog_61_method_2_code 120 = .ok (.invokevirtual 39, 3) := by decide +kernel
theorem d12_0 : decode jdk_92_method_26_code 0 = .ok (.iload_n 1, 1) := by decide +kernel
theorem d12_1 : decode jdk_92_method_26_code 1 = .ok (.ifCond .ge 30, 3) := by decide +kernel
theorem d12_31 : decode jdk_92_method_26_code 31 = .ok (.aload_n 0, 1) := by decide +kernel
theorem d12_32 : decode jdk_92_method_26_code 32 = .ok (.invokevirtual 56, 3) := by decide +kernel
theorem d13_0 : decode jdk_92_method_2_code 0 = .ok (.getstatic 3, 3) := by decide +kernel
theorem d13_3 : decode jdk_92_method_2_code 3 = .ok (.ifCond .ne 34, 3) := by decide +kernel
theorem d13_37 : decode jdk_92_method_2_code 37 = .ok (.getstatic 3, 3) := by decide +kernel
theorem d13_40 : decode jdk_92_method_2_code 40 = .ok (.ifCond .ne 30, 3) := by decide +kernel
theorem d13_70 : decode jdk_92_method_2_code 70 = .ok (.getstatic 3, 3) := by decide +kernel
theorem d13_73 : decode jdk_92_method_2_code 73 = .ok (.ifCond .ne 37, 3) := by decide +kernel
theorem d13_110 : decode jdk_92_method_2_code 110 = .ok (.return_, 1) := by decide +kernel
theorem ef_7 (m : MethodId) (x0 : Addr) : entryFrame m #[(.ref x0)] 1 = mkF m 0 #[rv x0] [] := by first | (simp [entryFrame, mkF, argsToLocals, Value.category]; done) | rfl
def Q7 (Z : State) (a461 : Addr) (h0 : Heap) (n0 : Nat) (v : Option Value) (h : Heap) (L : List Loc) : Prop := v = none ∧ Fr n0 L ∧ h = h0
set_option maxRecDepth 65536 in
set_option maxHeartbeats 40000000 in
theorem rm7 (l : Launch) (Z : State) (a0 : Array Value) (hw : ∀ d ∈ tables_1, d.before a0 Z = true) (ws : List Jvm.Cond) (a461 : Addr) (h0 : Heap) (n0 : Nat) (O0 : Old Z n0 h0) (S_BitSet__assertionsDisabled : Sta Z Z.heap zs2 zs6 "Z" (.int (1 : Int32))) :
    MetFree l (⟨zs2, zs7, "()V"⟩ : MethodName) (head1 (Jvm.Cond.code (⟨zs2, zs7, "()V"⟩ : MethodName) jdk_92_method_2_code 1 none :: ws) ({ frames := 0, cells := 0, slots := 0, locals := 0 } : Room)) (fun a U => a = #[(.ref a461)] ∧ Z.Warmed39 U.vm ∧ U.heap = h0) (fun _ _ _ _ _ => True) (fun _ U o U' => ∃ v L, o = .returned v ∧ Q7 Z a461 h0 n0 v U'.heap L ∧ FrameEnd U o U' L ({ frames := 0, cells := 0, slots := 0, locals := 0 } : Room).cells ({ frames := 0, cells := 0, slots := 0, locals := 0 } : Room).slots) := by
  refine MetFree.of_bodySF (plainFor_of_name pn_1) hisR ?_
  intro p e s m args below meth c s₁ Bd hml0 hP hK
  obtain ⟨rfl, hZ, hh⟩ := hP
  have hx := Bd.exec
  have hby := Bd.bytes
  have hml : c.maxLocals = 1 := hml0
  have hown : s.vm.findClass zs2 = some m.cls := findClass_of_methodNamed Bd.named
  have hnm := (name_of_methodNamed Bd.named Bd.method).1
  have X0 : Stand p l e ({ frames := 0, cells := 0, slots := 0, locals := 0 } : Room) s m #[(.ref a461)] below meth c s₁ [] 0 0 := Stand.of_body Bd
  have e0 : s₁.heap = h0 := by rw [← hh, Bd.state]; rfl
  have N0 := Fr.nil n0
  refine own_out ?_
  refine own_via (fun t k => castTop (ef_7 m a461) k) ?_
  obtain ⟨T482, X482, e482, st482⟩ := getS2 X0 hx hZ hown (host := "") (Or.inl (wd hw 78 rfl)) Via.refl e0 (S_BitSet__assertionsDisabled.ext O0.2) (g := (mkF m 0 #[rv a461] [])) rfl (hb hby d13_0)
  refine own_via (fun t k => st482 t (XS.ifYes X482.here hx rfl (pc0 := 3) (pc' := 37) rfl (hb hby d13_3) rfl ((if0 _ _).trans (feq (by decide : ¬ ((1 : Int32) = (0 : Int32)))).2) (by decide) (by decide) k)) ?_
  obtain ⟨T483, X483, e483, st483⟩ := getS2 X482 hx hZ hown (host := "") (Or.inl (wd hw 78 rfl)) Via.refl e482 (S_BitSet__assertionsDisabled.ext O0.2) (g := (mkF m 37 #[rv a461] [])) rfl (hb hby d13_37)
  refine own_via (fun t k => st483 t (XS.ifYes X483.here hx rfl (pc0 := 40) (pc' := 70) rfl (hb hby d13_40) rfl ((if0 _ _).trans (feq (by decide : ¬ ((1 : Int32) = (0 : Int32)))).2) (by decide) (by decide) k)) ?_
  obtain ⟨T484, X484, e484, st484⟩ := getS2 X483 hx hZ hown (host := "") (Or.inl (wd hw 78 rfl)) Via.refl e483 (S_BitSet__assertionsDisabled.ext O0.2) (g := (mkF m 70 #[rv a461] [])) rfl (hb hby d13_70)
  refine own_via (fun t k => st484 t (XS.ifYes X484.here hx rfl (pc0 := 73) (pc' := 110) rfl (hb hby d13_73) rfl ((if0 _ _).trans (feq (by decide : ¬ ((1 : Int32) = (0 : Int32)))).2) (by decide) (by decide) k)) ?_
  obtain ⟨fs, hr, hrun, hended, hW, hsame⟩ := X484.leave (v := none) (fun _ => rfl)
  refine own_end (t := T484.setFrames fs) ?_ ⟨_, hrun, hended, _, _, rfl, ?_, ⟨_, rfl⟩, hW, hsame.mono (by decide) (by decide)⟩
  · exact X484.returnOut hx Bd.returns (hb hby d13_110) hr
  · show Q7 Z a461 h0 n0 _ T484.heap _
    rw [e484]
    exact ⟨rfl, N0, rfl⟩
theorem d12_35 : decode jdk_92_method_26_code 35 = .ok (.iload_n 1, 1) := by decide +kernel
theorem d12_36 : decode jdk_92_method_26_code 36 = .ok (.invokestatic 52, 3) := by decide +kernel
def Q8 (Z : State)  (h0 : Heap) (n0 : Nat) (v : Option Value) (h : Heap) (L : List Loc) : Prop := v = some (.int (3 : Int32)) ∧ Fr n0 L ∧ h = h0
set_option maxRecDepth 65536 in
set_option maxHeartbeats 40000000 in
theorem rm8 (l : Launch) (Z : State) (a0 : Array Value) (hw : ∀ d ∈ tables_1, d.before a0 Z = true) (ws : List Jvm.Cond)  (h0 : Heap) (n0 : Nat) (O0 : Old Z n0 h0) :
    MetFree l (⟨zs2, "wordIndex", "(I)I"⟩ : MethodName) (head1 (Jvm.Cond.code (⟨zs2, "wordIndex", "(I)I"⟩ : MethodName) jdk_92_method_1_code 1 (some .int) :: ws) ({ frames := 0, cells := 0, slots := 0, locals := 0 } : Room)) (fun a U => a = #[(.int (201 : Int32))] ∧ Z.Warmed39 U.vm ∧ U.heap = h0) (fun _ _ _ _ _ => True) (fun _ U o U' => ∃ v L, o = .returned v ∧ Q8 Z  h0 n0 v U'.heap L ∧ FrameEnd U o U' L ({ frames := 0, cells := 0, slots := 0, locals := 0 } : Room).cells ({ frames := 0, cells := 0, slots := 0, locals := 0 } : Room).slots) := by
  refine MetFree.of_bodySF (plainFor_of_name pn_1) hisR ?_
  intro p e s m args below meth c s₁ Bd hml0 hP hK
  obtain ⟨rfl, hZ, hh⟩ := hP
  have hx := Bd.exec
  have hby := Bd.bytes
  have hml : c.maxLocals = 1 := hml0
  have hown : s.vm.findClass zs2 = some m.cls := findClass_of_methodNamed Bd.named
  have hnm := (name_of_methodNamed Bd.named Bd.method).1
  have X0 : Stand p l e ({ frames := 0, cells := 0, slots := 0, locals := 0 } : Room) s m #[(.int (201 : Int32))] below meth c s₁ [] 0 0 := Stand.of_body Bd
  have e0 : s₁.heap = h0 := by rw [← hh, Bd.state]; rfl
  have N0 := Fr.nil n0
  refine own_out ?_
  refine own_via (fun t k => castTop (ef_1 m (201 : Int32)) (XS.iloadN X0.here hx rfl (hb hby d5_0) rfl (XS.bipush X0.here hx rfl (hb hby d5_1) (XS.ishr X0.here hx rfl (hb hby d5_3) rfl k)))) ?_
  show own_Goes p e below (s₁.setTop (mkF m 4 #[iv (201 : Int32)] [(.int (3 : Int32))])) _
  obtain ⟨fs, hr, hrun, hended, hW, hsame⟩ := X0.leave (v := some (.int (3 : Int32))) (fun h => by rw [Bd.returns] at h; cases h)
  refine own_end (t := s₁.setFrames fs) ?_ ⟨_, hrun, hended, _, _, rfl, ?_, ⟨_, rfl⟩, hW, hsame.mono (by decide) (by decide)⟩
  · exact retI X0 hx Bd.returns (hb hby d5_4) hr
  · show Q8 Z  h0 n0 _ s₁.heap _
    rw [e0]
    exact ⟨rfl, N0, rfl⟩
theorem d12_39 : decode jdk_92_method_26_code 39 = .ok (.istore_n 2, 1) := by decide +kernel
theorem d12_40 : decode jdk_92_method_26_code 40 = .ok (.iload_n 2, 1) := by decide +kernel
theorem d12_41 : decode jdk_92_method_26_code 41 = .ok (.aload_n 0, 1) := by decide +kernel
theorem d12_42 : decode jdk_92_method_26_code 42 = .ok (.getfield 7, 3) := by decide +kernel
theorem d12_45 : decode jdk_92_method_26_code 45 = .ok (.if_icmp .ge 22, 3) := by decide +kernel
theorem d12_67 : decode jdk_92_method_26_code 67 = .ok (.iconst 0, 1) := by decide +kernel
theorem d12_68 : decode jdk_92_method_26_code 68 = .ok (.ireturn, 1) := by decide +kernel
theorem ef_8 (m : MethodId) (x0 : Addr) (x1 : Int32) : entryFrame m #[(.ref x0), (.int x1)] 3 = mkF m 0 #[rv x0, iv x1, .unset] [] := by first | (simp [entryFrame, mkF, argsToLocals, Value.category]; done) | rfl
def Q9 (Z : State) (a440 : Addr) (h0 : Heap) (n0 : Nat) (v : Option Value) (h : Heap) (L : List Loc) : Prop := v = some (.int (0 : Int32)) ∧ Fr n0 L ∧ h = h0
set_option maxRecDepth 65536 in
set_option maxHeartbeats 40000000 in
theorem rm9 (l : Launch) (Z : State) (a0 : Array Value) (hw : ∀ d ∈ tables_1, d.before a0 Z = true) (ws : List Jvm.Cond) (a440 : Addr) (h0 : Heap) (n0 : Nat) (O0 : Old Z n0 h0) (S_BitSet__assertionsDisabled : Sta Z Z.heap zs2 zs6 "Z" (.int (1 : Int32))) (pE_a440 : Exa Z h0 a440 zs2) (pF_a440_wordsInUse : Fld Z h0 a440 zs2 "wordsInUse" "I" (.int (0 : Int32))) :
    MetFree l (⟨zs2, "get", "(I)Z"⟩ : MethodName) (head1 (Jvm.Cond.code (⟨zs2, "get", "(I)Z"⟩ : MethodName) jdk_92_method_26_code 3 (some .boolean) :: ws) ({ frames := 1, cells := 0, slots := 0, locals := 12 } : Room)) (fun a U => a = #[(.ref a440), (.int (201 : Int32))] ∧ Z.Warmed39 U.vm ∧ U.heap = h0) (fun _ _ _ _ _ => True) (fun _ U o U' => ∃ v L, o = .returned v ∧ Q9 Z a440 h0 n0 v U'.heap L ∧ FrameEnd U o U' L ({ frames := 1, cells := 0, slots := 0, locals := 12 } : Room).cells ({ frames := 1, cells := 0, slots := 0, locals := 12 } : Room).slots) := by
  refine MetFree.of_bodySF (plainFor_of_name pn_1) hisR ?_
  intro p e s m args below meth c s₁ Bd hml0 hP hK
  obtain ⟨rfl, hZ, hh⟩ := hP
  have hx := Bd.exec
  have hby := Bd.bytes
  have hml : c.maxLocals = 3 := hml0
  have hown : s.vm.findClass zs2 = some m.cls := findClass_of_methodNamed Bd.named
  have hnm := (name_of_methodNamed Bd.named Bd.method).1
  have X0 : Stand p l e ({ frames := 1, cells := 0, slots := 0, locals := 12 } : Room) s m #[(.ref a440), (.int (201 : Int32))] below meth c s₁ [] 0 0 := Stand.of_body Bd
  have e0 : s₁.heap = h0 := by rw [← hh, Bd.state]; rfl
  have N0 := Fr.nil n0
  refine own_out ?_
  refine own_via (fun t k => castTop (ef_8 m a440 (201 : Int32)) (XS.iloadN X0.here hx rfl (hb hby d12_0) rfl (XS.ifYes X0.here hx rfl (pc0 := 1) (pc' := 31) rfl (hb hby d12_1) rfl ((if0 _ _).trans (flt (by decide : ¬ ((201 : Int32) < (0 : Int32)))).2.1) (by decide) (by decide) (XS.aloadN X0.here hx rfl (hb hby d12_31) rfl rfl k)))) ?_
  show own_Goes p e below (s₁.setTop (mkF m 32 #[rv a440, iv (201 : Int32), .unset] [(.ref a440)])) _
  obtain ⟨cq460, q460, q460'⟩ := pE_a440.cell
  obtain ⟨_, _, ⟨T460, L460, c460, n460⟩, -, X460, ⟨Lc460, hQ460, l460, y460, z460⟩, st460⟩ := X0.privateBack hx (y := (⟨zs2, zs7, "()V"⟩ : MethodName)) hown (mvT hZ (wd hw 73 rfl)) (mvT hZ (wd hw 74 rfl)) (mvT hZ (wd hw 76 rfl)) (Cond.privateMethod_at (mvP hZ (wd hw 75 rfl) (args := #[]))) (mvT hZ (wd hw 77 rfl)) (by decide) (backOf (W := 0) (rm7 l Z a0 hw [] a440 h0 n0 O0 S_BitSet__assertionsDisabled) hZ (wd hw 77 rfl) (wd hw 11 rfl) (by decide) (by decide)) (g := (mkF m 32 #[rv a440, iv (201 : Int32), .unset] [(.ref a440)])) rfl (by rw [hml]; rfl) (Steps.refl _) (a := a440) (by rw [e0]; exact q460) q460' (argsL := []) (rest := []) (lenOf pd_3 rfl) rfl (by show 2 * 0 + _ ≤ _; exact Nat.le_of_eq rfl) (hb hby d12_32) (fun _ _ => ⟨rfl, e0, (by decide : 0 + 0 ≤ _), (by decide : 0 + 0 ≤ _)⟩)
  dsimp only [Pt.U, Pt.locs, Pt.cells, Pt.slots] at X460 l460 y460 z460 st460 hQ460
  subst l460 y460 z460
  obtain ⟨rfl, Nq460, hh485⟩ := hQ460
  have N460 := Fr.app N0 Nq460
  refine own_via (fun t k => st460.trans (XS.iloadN X460.here hx rfl (hb hby d12_35) rfl k)) ?_
  obtain ⟨_, T486, _, X486, hQ486, st486⟩ := own_cs X460 hx hZ hown (wd hw 25 rfl) (wd hw 26 rfl) (wd hw 27 rfl) (wd hw 11 rfl) (by decide) (rm8 l Z a0 hw []  h0 n0 O0 ) hh485 (g := (mkF m 36 #[rv a440, iv (201 : Int32), .unset] [(.int (201 : Int32))])) rfl (by rw [hml]; rfl) (rest := []) (W := 0) (lenOf pd_1 rfl) rfl (by show 2 * 0 + _ ≤ _; exact Nat.le_of_eq rfl) (hb hby d12_36) (by decide) (by decide) (by decide) (by decide)
  obtain ⟨rfl, Nq486, hh508⟩ := hQ486
  have N486 := Fr.app N460 Nq486
  refine own_via (fun t k => st486 t (XS.istoreN X486.here hx rfl (hb hby d12_39) rfl (l' := #[rv a440, iv (201 : Int32), iv (3 : Int32)]) rfl (XS.iloadN X486.here hx rfl (hb hby d12_40) rfl (XS.aloadN X486.here hx rfl (hb hby d12_41) rfl rfl k)))) ?_
  show own_Goes p e below (T486.setTop (mkF m 42 #[rv a440, iv (201 : Int32), iv (3 : Int32)] [(.ref a440), (.int (3 : Int32))])) _
  obtain ⟨T509, X509, e509, st509⟩ := getF X486 hx hZ hown (host := "") (Or.inl (wd hw 16 rfl)) Via.refl hh508 pF_a440_wordsInUse (g := (mkF m 42 #[rv a440, iv (201 : Int32), iv (3 : Int32)] [(.ref a440), (.int (3 : Int32))])) rfl rfl (hb hby d12_42)
  refine own_via (fun t k => st509 t (XS.icmpYes X509.here hx rfl (pc0 := 45) (pc' := 67) rfl (hb hby d12_45) rfl (flt (by decide : ¬ ((3 : Int32) < (0 : Int32)))).2.1 (by decide) (by decide) (XS.iconst X509.here hx rfl (hb hby d12_67) k))) ?_
  show own_Goes p e below (T509.setTop (mkF m 68 #[rv a440, iv (201 : Int32), iv (3 : Int32)] [(.int (0 : Int32))])) _
  obtain ⟨fs, hr, hrun, hended, hW, hsame⟩ := X509.leave (v := some (.int (0 : Int32))) (fun h => by rw [Bd.returns] at h; cases h)
  refine own_end (t := T509.setFrames fs) ?_ ⟨_, hrun, hended, _, _, rfl, ?_, ⟨_, rfl⟩, hW, hsame.mono (by decide) (by decide)⟩
  · exact retN X509 hx (t := .boolean) Bd.returns (by simp) (hb hby d12_68) hr
  · show Q9 Z a440 h0 n0 _ T509.heap _
    rw [e509]
    exact ⟨rfl, N486, rfl⟩
theorem pd_6 : parseMethodDescriptor "(I)Z" = some ⟨[.int], some .boolean⟩ := by decide +kernel
theorem d7_123 : decode prog_61_method_2_code 123 = .ok (.ifCond .ne 18, 3) := by decide +kernel
theorem d7_126 : decode prog_61_method_2_code 126 = .ok (.aload_n 0, 1) := by decide +kernel
theorem d7_127 : decode prog_61_method_2_code 127 = .ok (.getfield 18, 3) := by decide +kernel
theorem d7_130 : decode prog_61_method_2_code 130 = .ok (.iload_n 2, 1) := by decide +kernel
theorem d7_131 : decode prog_61_method_2_code 131 = .ok (.invokevirtual 43, 3) := by decide +kernel
theorem d14_0 : decode jdk_92_method_19_code 0 = .ok (.iload_n 1, 1) := by decide +kernel
theorem d14_1 : decode jdk_92_method_19_code 1 = .ok (.ifCond .ge 30, 3) := by decide +kernel
theorem d14_31 : decode jdk_92_method_19_code 31 = .ok (.iload_n 1, 1) := by decide +kernel
theorem d14_32 : decode jdk_92_method_19_code 32 = .ok (.invokestatic 52, 3) := by decide +kernel
theorem d14_35 : decode jdk_92_method_19_code 35 = .ok (.istore_n 2, 1) := by decide +kernel
theorem d14_36 : decode jdk_92_method_19_code 36 = .ok (.aload_n 0, 1) := by decide +kernel
theorem d14_37 : decode jdk_92_method_19_code 37 = .ok (.iload_n 2, 1) := by decide +kernel
theorem d14_38 : decode jdk_92_method_19_code 38 = .ok (.invokevirtual 155, 3) := by decide +kernel
theorem d15_0 : decode jdk_92_method_15_code 0 = .ok (.iload_n 1, 1) := by decide +kernel
theorem d15_1 : decode jdk_92_method_15_code 1 = .ok (.iconst 1, 1) := by decide +kernel
theorem d15_2 : decode jdk_92_method_15_code 2 = .ok (.iadd, 1) := by decide +kernel
theorem d15_3 : decode jdk_92_method_15_code 3 = .ok (.istore_n 2, 1) := by decide +kernel
theorem d15_4 : decode jdk_92_method_15_code 4 = .ok (.aload_n 0, 1) := by decide +kernel
theorem d15_5 : decode jdk_92_method_15_code 5 = .ok (.getfield 7, 3) := by decide +kernel
theorem d15_8 : decode jdk_92_method_15_code 8 = .ok (.iload_n 2, 1) := by decide +kernel
theorem d15_9 : decode jdk_92_method_15_code 9 = .ok (.if_icmp .ge 13, 3) := by decide +kernel
theorem d15_12 : decode jdk_92_method_15_code 12 = .ok (.aload_n 0, 1) := by decide +kernel
theorem d15_13 : decode jdk_92_method_15_code 13 = .ok (.iload_n 2, 1) := by decide +kernel
theorem d15_14 : decode jdk_92_method_15_code 14 = .ok (.invokevirtual 139, 3) := by decide +kernel
theorem d16_0 : decode jdk_92_method_14_code 0 = .ok (.aload_n 0, 1) := by decide +kernel
theorem d16_1 : decode jdk_92_method_14_code 1 = .ok (.getfield 11, 3) := by decide +kernel
theorem d16_4 : decode jdk_92_method_14_code 4 = .ok (.arraylength, 1) := by decide +kernel
theorem d16_5 : decode jdk_92_method_14_code 5 = .ok (.iload_n 1, 1) := by decide +kernel
theorem d16_6 : decode jdk_92_method_14_code 6 = .ok (.if_icmp .ge 32, 3) := by decide +kernel
theorem d16_38 : decode jdk_92_method_14_code 38 = .ok (.return_, 1) := by decide +kernel
theorem ef_9 (m : MethodId) (x0 : Addr) (x1 : Int32) : entryFrame m #[(.ref x0), (.int x1)] 3 = mkF m 0 #[rv x0, iv x1, .unset] [] := by first | (simp [entryFrame, mkF, argsToLocals, Value.category]; done) | rfl
def Q10 (Z : State) (a558 : Addr) (a562 : Addr) (h0 : Heap) (n0 : Nat) (v : Option Value) (h : Heap) (L : List Loc) : Prop := v = none ∧ Fr n0 L ∧ h = h0
set_option maxRecDepth 65536 in
set_option maxHeartbeats 40000000 in
theorem rm10 (l : Launch) (Z : State) (a0 : Array Value) (hw : ∀ d ∈ tables_1, d.before a0 Z = true) (ws : List Jvm.Cond) (a558 : Addr) (a562 : Addr) (h0 : Heap) (n0 : Nat) (O0 : Old Z n0 h0) (pF_a558_words : Fld Z h0 a558 zs2 "words" "[J" (.ref a562)) (pL_a562 : own_Len Z h0 a562 .long (4 : Int32)) :
    MetFree l (⟨zs2, "ensureCapacity", "(I)V"⟩ : MethodName) (head1 (Jvm.Cond.code (⟨zs2, "ensureCapacity", "(I)V"⟩ : MethodName) jdk_92_method_14_code 3 none :: ws) ({ frames := 0, cells := 0, slots := 0, locals := 0 } : Room)) (fun a U => a = #[(.ref a558), (.int (4 : Int32))] ∧ Z.Warmed39 U.vm ∧ U.heap = h0) (fun _ _ _ _ _ => True) (fun _ U o U' => ∃ v L, o = .returned v ∧ Q10 Z a558 a562 h0 n0 v U'.heap L ∧ FrameEnd U o U' L ({ frames := 0, cells := 0, slots := 0, locals := 0 } : Room).cells ({ frames := 0, cells := 0, slots := 0, locals := 0 } : Room).slots) := by
  refine MetFree.of_bodySF (plainFor_of_name pn_1) hisR ?_
  intro p e s m args below meth c s₁ Bd hml0 hP hK
  obtain ⟨rfl, hZ, hh⟩ := hP
  have hx := Bd.exec
  have hby := Bd.bytes
  have hml : c.maxLocals = 3 := hml0
  have hown : s.vm.findClass zs2 = some m.cls := findClass_of_methodNamed Bd.named
  have hnm := (name_of_methodNamed Bd.named Bd.method).1
  have X0 : Stand p l e ({ frames := 0, cells := 0, slots := 0, locals := 0 } : Room) s m #[(.ref a558), (.int (4 : Int32))] below meth c s₁ [] 0 0 := Stand.of_body Bd
  have e0 : s₁.heap = h0 := by rw [← hh, Bd.state]; rfl
  have N0 := Fr.nil n0
  refine own_out ?_
  refine own_via (fun t k => castTop (ef_9 m a558 (4 : Int32)) (XS.aloadN X0.here hx rfl (hb hby d16_0) rfl rfl k)) ?_
  obtain ⟨T579, X579, e579, st579⟩ := getF X0 hx hZ hown (host := "") (Or.inl (wd hw 29 rfl)) Via.refl e0 pF_a558_words (g := (mkF m 1 #[rv a558, iv (4 : Int32), .unset] [(.ref a558)])) rfl rfl (hb hby d16_1)
  refine own_via (fun t k => st579 t k) ?_
  obtain ⟨_, _, _, V580⟩ := id (pL_a562)
  obtain ⟨cl580, Ar580, -, S580, M580, -, -⟩ := id (V580)
  refine own_via (fun t k => X579.arraylength hx (by rw [e579]; exact Ar580.1) (State.isArrayOf_alike hZ.alike Ar580.2.1) (g := (mkF m 4 #[rv a558, iv (4 : Int32), .unset] [(.ref a562)])) rfl rfl (hb hby d16_4) t k) ?_
  rw [len_of S580 M580]
  show own_Goes p e below (T579.setTop (mkF m 5 #[rv a558, iv (4 : Int32), .unset] [(.int (4 : Int32))])) _
  refine own_via (fun t k => XS.iloadN X579.here hx rfl (hb hby d16_5) rfl (XS.icmpYes X579.here hx rfl (pc0 := 6) (pc' := 38) rfl (hb hby d16_6) rfl (flt (by decide : ¬ ((4 : Int32) < (4 : Int32)))).2.1 (by decide) (by decide) k)) ?_
  obtain ⟨fs, hr, hrun, hended, hW, hsame⟩ := X579.leave (v := none) (fun _ => rfl)
  refine own_end (t := T579.setFrames fs) ?_ ⟨_, hrun, hended, _, _, rfl, ?_, ⟨_, rfl⟩, hW, hsame.mono (by decide) (by decide)⟩
  · exact X579.returnOut hx Bd.returns (hb hby d16_38) hr
  · show Q10 Z a558 a562 h0 n0 _ T579.heap _
    rw [e579]
    exact ⟨rfl, N0, rfl⟩
theorem d15_17 : decode jdk_92_method_15_code 17 = .ok (.aload_n 0, 1) := by decide +kernel
theorem d15_18 : decode jdk_92_method_15_code 18 = .ok (.iload_n 2, 1) := by decide +kernel
theorem d15_19 : decode jdk_92_method_15_code 19 = .ok (.putfield 7, 3) := by decide +kernel
theorem d15_22 : decode jdk_92_method_15_code 22 = .ok (.return_, 1) := by decide +kernel
theorem ef_10 (m : MethodId) (x0 : Addr) (x1 : Int32) : entryFrame m #[(.ref x0), (.int x1)] 3 = mkF m 0 #[rv x0, iv x1, .unset] [] := by first | (simp [entryFrame, mkF, argsToLocals, Value.category]; done) | rfl
def Q11 (Z : State) (a536 : Addr) (a540 : Addr) (p547 : Int32) (h0 : Heap) (n0 : Nat) (v : Option Value) (h : Heap) (L : List Loc) : Prop := v = none ∧ Fr n0 L ∧ Keep h0 h [a536] ∧ Exa Z h a536 zs2 ∧ Fld Z h a536 zs2 "wordsInUse" "I" (.int (4 : Int32)) ∧ Fld Z h a536 zs2 zs5 "Z" (.int p547) ∧ Fld Z h a536 zs2 "words" "[J" (.ref a540)
set_option maxRecDepth 65536 in
set_option maxHeartbeats 40000000 in
theorem rm11 (l : Launch) (Z : State) (a0 : Array Value) (hw : ∀ d ∈ tables_1, d.before a0 Z = true) (ws : List Jvm.Cond) (a536 : Addr) (a540 : Addr) (p547 : Int32) (h0 : Heap) (n0 : Nat) (O0 : Old Z n0 h0) (pF_a536_wordsInUse : Fld Z h0 a536 zs2 "wordsInUse" "I" (.int (0 : Int32))) (pF_a536_words : Fld Z h0 a536 zs2 "words" "[J" (.ref a540)) (pL_a540 : own_Len Z h0 a540 .long (4 : Int32)) (pE_a536 : Exa Z h0 a536 zs2) (pG_a536 : n0 ≤ a536) (pF_a536_sizeIsSticky : Fld Z h0 a536 zs2 zs5 "Z" (.int p547)) :
    MetFree l (⟨zs2, "expandTo", "(I)V"⟩ : MethodName) (head1 (Jvm.Cond.code (⟨zs2, "expandTo", "(I)V"⟩ : MethodName) jdk_92_method_15_code 3 none :: ws) ({ frames := 1, cells := 0, slots := 0, locals := 14 } : Room)) (fun a U => a = #[(.ref a536), (.int (3 : Int32))] ∧ Z.Warmed39 U.vm ∧ U.heap = h0) (fun _ _ _ _ _ => True) (fun _ U o U' => ∃ v L, o = .returned v ∧ Q11 Z a536 a540 p547 h0 n0 v U'.heap L ∧ FrameEnd U o U' L ({ frames := 1, cells := 0, slots := 0, locals := 14 } : Room).cells ({ frames := 1, cells := 0, slots := 0, locals := 14 } : Room).slots) := by
  refine MetFree.of_bodySF (plainFor_of_name pn_1) hisR ?_
  intro p e s m args below meth c s₁ Bd hml0 hP hK
  obtain ⟨rfl, hZ, hh⟩ := hP
  have hx := Bd.exec
  have hby := Bd.bytes
  have hml : c.maxLocals = 3 := hml0
  have hown : s.vm.findClass zs2 = some m.cls := findClass_of_methodNamed Bd.named
  have hnm := (name_of_methodNamed Bd.named Bd.method).1
  have X0 : Stand p l e ({ frames := 1, cells := 0, slots := 0, locals := 14 } : Room) s m #[(.ref a536), (.int (3 : Int32))] below meth c s₁ [] 0 0 := Stand.of_body Bd
  have e0 : s₁.heap = h0 := by rw [← hh, Bd.state]; rfl
  have N0 := Fr.nil n0
  refine own_out ?_
  refine own_via (fun t k => castTop (ef_10 m a536 (3 : Int32)) (XS.iloadN X0.here hx rfl (hb hby d15_0) rfl (XS.iconst X0.here hx rfl (hb hby d15_1) (XS.iadd X0.here hx rfl (hb hby d15_2) rfl (XS.istoreN X0.here hx rfl (hb hby d15_3) rfl (l' := #[rv a536, iv (3 : Int32), iv (4 : Int32)]) rfl (XS.aloadN X0.here hx rfl (hb hby d15_4) rfl rfl k)))))) ?_
  show own_Goes p e below (s₁.setTop (mkF m 5 #[rv a536, iv (3 : Int32), iv (4 : Int32)] [(.ref a536)])) _
  obtain ⟨T556, X556, e556, st556⟩ := getF X0 hx hZ hown (host := "") (Or.inl (wd hw 16 rfl)) Via.refl e0 pF_a536_wordsInUse (g := (mkF m 5 #[rv a536, iv (3 : Int32), iv (4 : Int32)] [(.ref a536)])) rfl rfl (hb hby d15_5)
  refine own_via (fun t k => st556 t (XS.iloadN X556.here hx rfl (hb hby d15_8) rfl (XS.icmpNo X556.here hx rfl (hb hby d15_9) rfl (tlt (by decide : (0 : Int32) < (4 : Int32))).2.1 (XS.aloadN X556.here hx rfl (hb hby d15_12) rfl rfl (XS.iloadN X556.here hx rfl (hb hby d15_13) rfl k))))) ?_
  show own_Goes p e below (T556.setTop (mkF m 14 #[rv a536, iv (3 : Int32), iv (4 : Int32)] [(.int (4 : Int32)), (.ref a536)])) _
  obtain ⟨cq557, q557, q557'⟩ := pE_a536.cell
  obtain ⟨_, _, ⟨T557, L557, c557, n557⟩, -, X557, ⟨Lc557, hQ557, l557, y557, z557⟩, st557⟩ := X556.privateBack hx (y := (⟨zs2, "ensureCapacity", "(I)V"⟩ : MethodName)) hown (mvT hZ (wd hw 89 rfl)) (mvT hZ (wd hw 90 rfl)) (mvT hZ (wd hw 92 rfl)) (Cond.privateMethod_at (mvP hZ (wd hw 91 rfl) (args := #[]))) (mvT hZ (wd hw 93 rfl)) (by decide) (backOf (W := 0) (rm10 l Z a0 hw [] a536 a540 h0 n0 O0 pF_a536_words pL_a540) hZ (wd hw 93 rfl) (wd hw 11 rfl) (by decide) (by decide)) (g := (mkF m 14 #[rv a536, iv (3 : Int32), iv (4 : Int32)] [(.int (4 : Int32)), (.ref a536)])) rfl (by rw [hml]; rfl) (Steps.refl _) (a := a536) (by rw [e556]; exact q557) q557' (argsL := [(.int (4 : Int32))]) (rest := []) (lenOf pd_2 rfl) rfl (by show 2 * 0 + _ ≤ _; exact Nat.le_of_eq rfl) (hb hby d15_14) (fun _ _ => ⟨rfl, e556, (by decide : 0 + 0 ≤ _), (by decide : 0 + 0 ≤ _)⟩)
  dsimp only [Pt.U, Pt.locs, Pt.cells, Pt.slots] at X557 l557 y557 z557 st557 hQ557
  subst l557 y557 z557
  obtain ⟨rfl, Nq557, hh581⟩ := hQ557
  have N557 := Fr.app N0 Nq557
  refine own_via (fun t k => st557.trans (XS.aloadN X557.here hx rfl (hb hby d15_17) rfl rfl (XS.iloadN X557.here hx rfl (hb hby d15_18) rfl k))) ?_
  show own_Goes p e below (T557.setTop (mkF m 19 #[rv a536, iv (3 : Int32), iv (4 : Int32)] [(.int (4 : Int32)), (.ref a536)])) _
  obtain ⟨T582, h582, X582, e582, W582, st582⟩ := putF X557 hx hZ hown (host := "") (Or.inl (wd hw 16 rfl)) Via.refl hh581 pF_a536_wordsInUse pE_a536 (Or.inl (wd hw 17 rfl)) (wd hw 10 rfl) (ty := .int) (by decide) rfl rfl (g := (mkF m 19 #[rv a536, iv (3 : Int32), iv (4 : Int32)] [(.int (4 : Int32)), (.ref a536)])) rfl rfl (hb hby d15_19)
  refine own_via (fun t k => st582 t k) ?_
  have Fw582 : Fld Z h582 a536 zs2 "wordsInUse" "I" (.int (4 : Int32)) := pF_a536_wordsInUse.same W582
  have N582 := Fr.snoc X582 N557 pG_a536
  show own_Goes p e below (T582.setTop (mkF m 22 #[rv a536, iv (3 : Int32), iv (4 : Int32)] [])) _
  obtain ⟨fs, hr, hrun, hended, hW, hsame⟩ := X582.leave (v := none) (fun _ => rfl)
  refine own_end (t := T582.setFrames fs) ?_ ⟨_, hrun, hended, _, _, rfl, ?_, ⟨_, rfl⟩, hW, hsame.mono (by decide) (by decide)⟩
  · exact X582.returnOut hx Bd.returns (hb hby d15_22) hr
  have E583 : Exa Z h582 a536 zs2 := (pE_a536.wr W582)
  have F584 : Fld Z h582 a536 zs2 zs5 "Z" (.int p547) := (pF_a536_sizeIsSticky.other W582 (Or.inr (slot_ne (Or.inl (wd hw 19 rfl)) (Or.inl (wd hw 17 rfl)) (by decide) (t := .boolean) (t' := .int) (by decide) (by decide))))
  have F585 : Fld Z h582 a536 zs2 "words" "[J" (.ref a540) := (pF_a536_words.other W582 (Or.inr (slot_ne (Or.inl (wd hw 30 rfl)) (Or.inl (wd hw 17 rfl)) (by decide) (t := (.array .long)) (t' := .int) (by decide) (by decide))))
  · show Q11 Z a536 a540 p547 h0 n0 _ T582.heap _
    rw [e582]
    exact ⟨rfl, N582, ((Keep.refl h0 [a536]).wr W582 (Or.inl (List.mem_of_getElem? (i := 0) rfl))), E583, Fw582, F584, F585⟩
theorem d14_41 : decode jdk_92_method_19_code 41 = .ok (.aload_n 0, 1) := by decide +kernel
theorem d14_42 : decode jdk_92_method_19_code 42 = .ok (.getfield 11, 3) := by decide +kernel
theorem d14_45 : decode jdk_92_method_19_code 45 = .ok (.iload_n 2, 1) := by decide +kernel
theorem d14_46 : decode jdk_92_method_19_code 46 = .ok (.dup2, 1) := by decide +kernel
theorem d14_47 : decode jdk_92_method_19_code 47 = .ok (.laload, 1) := by decide +kernel
theorem d14_48 : decode jdk_92_method_19_code 48 = .ok (.lconst 1, 1) := by decide +kernel
theorem d14_49 : decode jdk_92_method_19_code 49 = .ok (.iload_n 1, 1) := by decide +kernel
theorem d14_50 : decode jdk_92_method_19_code 50 = .ok (.lshl, 1) := by decide +kernel
theorem d14_51 : decode jdk_92_method_19_code 51 = .ok (.lor, 1) := by decide +kernel
theorem d14_52 : decode jdk_92_method_19_code 52 = .ok (.lastore, 1) := by decide +kernel
theorem d14_53 : decode jdk_92_method_19_code 53 = .ok (.aload_n 0, 1) := by decide +kernel
theorem d14_54 : decode jdk_92_method_19_code 54 = .ok (.invokevirtual 56, 3) := by decide +kernel
theorem d14_57 : decode jdk_92_method_19_code 57 = .ok (.return_, 1) := by decide +kernel
theorem ef_11 (m : MethodId) (x0 : Addr) (x1 : Int32) : entryFrame m #[(.ref x0), (.int x1)] 3 = mkF m 0 #[rv x0, iv x1, .unset] [] := by first | (simp [entryFrame, mkF, argsToLocals, Value.category]; done) | rfl
def Q12 (Z : State) (a513 : Addr) (a517 : Addr) (p524 : Int32) (k525 : ClassId) (h0 : Heap) (n0 : Nat) (v : Option Value) (h : Heap) (L : List Loc) : Prop := v = none ∧ Fr n0 L ∧ Keep h0 h [a513, a517] ∧ Exa Z h a513 zs2 ∧ Fld Z h a513 zs2 "wordsInUse" "I" (.int (4 : Int32)) ∧ Fld Z h a513 zs2 zs5 "Z" (.int p524) ∧ Fld Z h a513 zs2 "words" "[J" (.ref a517) ∧ Arv Z h a517 k525 .long (4 : Int32) [(.long (0 : Int64)), (.long (0 : Int64)), (.long (0 : Int64)), (.long (512 : Int64))] (.long (0 : Int64))
set_option maxRecDepth 65536 in
set_option maxHeartbeats 40000000 in
theorem rm12 (l : Launch) (Z : State) (a0 : Array Value) (hw : ∀ d ∈ tables_1, d.before a0 Z = true) (ws : List Jvm.Cond) (a513 : Addr) (a517 : Addr) (p524 : Int32) (k525 : ClassId) (h0 : Heap) (n0 : Nat) (O0 : Old Z n0 h0) (pF_a513_wordsInUse : Fld Z h0 a513 zs2 "wordsInUse" "I" (.int (0 : Int32))) (pF_a513_words : Fld Z h0 a513 zs2 "words" "[J" (.ref a517)) (pL_a517 : own_Len Z h0 a517 .long (4 : Int32)) (pE_a513 : Exa Z h0 a513 zs2) (pG_a513 : n0 ≤ a513) (pF_a513_sizeIsSticky : Fld Z h0 a513 zs2 zs5 "Z" (.int p524)) (pV_a517 : Arv Z h0 a517 k525 .long (4 : Int32) [] (.long (0 : Int64))) (pN_a513_a517 : a513 ≠ a517) (pG_a517 : n0 ≤ a517) (S_BitSet__assertionsDisabled : Sta Z Z.heap zs2 zs6 "Z" (.int (1 : Int32))) :
    MetFree l (⟨zs2, "set", "(I)V"⟩ : MethodName) (head1 (Jvm.Cond.code (⟨zs2, "set", "(I)V"⟩ : MethodName) jdk_92_method_19_code 3 none :: ws) ({ frames := 2, cells := 0, slots := 0, locals := 28 } : Room)) (fun a U => a = #[(.ref a513), (.int (201 : Int32))] ∧ Z.Warmed39 U.vm ∧ U.heap = h0) (fun _ _ _ _ _ => True) (fun _ U o U' => ∃ v L, o = .returned v ∧ Q12 Z a513 a517 p524 k525 h0 n0 v U'.heap L ∧ FrameEnd U o U' L ({ frames := 2, cells := 0, slots := 0, locals := 28 } : Room).cells ({ frames := 2, cells := 0, slots := 0, locals := 28 } : Room).slots) := by
  refine MetFree.of_bodySF (plainFor_of_name pn_1) hisR ?_
  intro p e s m args below meth c s₁ Bd hml0 hP hK
  obtain ⟨rfl, hZ, hh⟩ := hP
  have hx := Bd.exec
  have hby := Bd.bytes
  have hml : c.maxLocals = 3 := hml0
  have hown : s.vm.findClass zs2 = some m.cls := findClass_of_methodNamed Bd.named
  have hnm := (name_of_methodNamed Bd.named Bd.method).1
  have X0 : Stand p l e ({ frames := 2, cells := 0, slots := 0, locals := 28 } : Room) s m #[(.ref a513), (.int (201 : Int32))] below meth c s₁ [] 0 0 := Stand.of_body Bd
  have e0 : s₁.heap = h0 := by rw [← hh, Bd.state]; rfl
  have N0 := Fr.nil n0
  refine own_out ?_
  refine own_via (fun t k => castTop (ef_11 m a513 (201 : Int32)) (XS.iloadN X0.here hx rfl (hb hby d14_0) rfl (XS.ifYes X0.here hx rfl (pc0 := 1) (pc' := 31) rfl (hb hby d14_1) rfl ((if0 _ _).trans (flt (by decide : ¬ ((201 : Int32) < (0 : Int32)))).2.1) (by decide) (by decide) (XS.iloadN X0.here hx rfl (hb hby d14_31) rfl k)))) ?_
  show own_Goes p e below (s₁.setTop (mkF m 32 #[rv a513, iv (201 : Int32), .unset] [(.int (201 : Int32))])) _
  obtain ⟨_, T533, _, X533, hQ533, st533⟩ := own_cs X0 hx hZ hown (wd hw 25 rfl) (wd hw 26 rfl) (wd hw 27 rfl) (wd hw 11 rfl) (by decide) (rm8 l Z a0 hw []  h0 n0 O0 ) e0 (g := (mkF m 32 #[rv a513, iv (201 : Int32), .unset] [(.int (201 : Int32))])) rfl (by rw [hml]; rfl) (rest := []) (W := 0) (lenOf pd_1 rfl) rfl (by show 2 * 0 + _ ≤ _; exact Nat.le_of_eq rfl) (hb hby d14_32) (by decide) (by decide) (by decide) (by decide)
  obtain ⟨rfl, Nq533, hh534⟩ := hQ533
  have N533 := Fr.app N0 Nq533
  refine own_via (fun t k => st533 t (XS.istoreN X533.here hx rfl (hb hby d14_35) rfl (l' := #[rv a513, iv (201 : Int32), iv (3 : Int32)]) rfl (XS.aloadN X533.here hx rfl (hb hby d14_36) rfl rfl (XS.iloadN X533.here hx rfl (hb hby d14_37) rfl k)))) ?_
  show own_Goes p e below (T533.setTop (mkF m 38 #[rv a513, iv (201 : Int32), iv (3 : Int32)] [(.int (3 : Int32)), (.ref a513)])) _
  obtain ⟨cq535, q535, q535'⟩ := pE_a513.cell
  obtain ⟨_, _, ⟨T535, L535, c535, n535⟩, -, X535, ⟨Lc535, hQ535, l535, y535, z535⟩, st535⟩ := X533.privateBack hx (y := (⟨zs2, "expandTo", "(I)V"⟩ : MethodName)) hown (mvT hZ (wd hw 84 rfl)) (mvT hZ (wd hw 85 rfl)) (mvT hZ (wd hw 87 rfl)) (Cond.privateMethod_at (mvP hZ (wd hw 86 rfl) (args := #[]))) (mvT hZ (wd hw 88 rfl)) (by decide) (backOf (W := 0) (rm11 l Z a0 hw [] a513 a517 p524 h0 n0 O0 pF_a513_wordsInUse pF_a513_words pL_a517 pE_a513 pG_a513 pF_a513_sizeIsSticky) hZ (wd hw 88 rfl) (wd hw 11 rfl) (by decide) (by decide)) (g := (mkF m 38 #[rv a513, iv (201 : Int32), iv (3 : Int32)] [(.int (3 : Int32)), (.ref a513)])) rfl (by rw [hml]; rfl) (Steps.refl _) (a := a513) (by rw [hh534]; exact q535) q535' (argsL := [(.int (3 : Int32))]) (rest := []) (lenOf pd_2 rfl) rfl (by show 2 * 0 + _ ≤ _; exact Nat.le_of_eq rfl) (hb hby d14_38) (fun _ _ => ⟨rfl, hh534, (by decide : 0 + 0 ≤ _), (by decide : 0 + 0 ≤ _)⟩)
  dsimp only [Pt.U, Pt.locs, Pt.cells, Pt.slots] at X535 l535 y535 z535 st535 hQ535
  subst l535 y535 z535
  obtain ⟨h535, e535⟩ : ∃ z, T535.heap = z := ⟨_, rfl⟩
  rw [e535] at hQ535
  obtain ⟨rfl, Nq535, K535, ex586, fx587, fx588, fx589⟩ := hQ535
  have N535 := Fr.app N533 Nq535
  refine own_via (fun t k => st535.trans (XS.aloadN X535.here hx rfl (hb hby d14_41) rfl rfl k)) ?_
  obtain ⟨T590, X590, e590, st590⟩ := getF X535 hx hZ hown (host := "") (Or.inl (wd hw 29 rfl)) Via.refl e535 fx589 (g := (mkF m 42 #[rv a513, iv (201 : Int32), iv (3 : Int32)] [(.ref a513)])) rfl rfl (hb hby d14_42)
  refine own_via (fun t k => st590 t (XS.iloadN X590.here hx rfl (hb hby d14_45) rfl k)) ?_
  refine own_via (S' := T590.setTop (mkF m 47 #[rv a513, iv (201 : Int32), iv (3 : Int32)] [(.int (3 : Int32)), (.ref a517), (.int (3 : Int32)), (.ref a517)])) (fun t k => by jvm_step X590.here [X590.here.top, hx, (hb hby d14_46), Value.category]; exact k) ?_
  show own_Goes p e below (T590.setTop (mkF m 47 #[rv a513, iv (201 : Int32), iv (3 : Int32)] [(.int (3 : Int32)), (.ref a517), (.int (3 : Int32)), (.ref a517)])) _
  have V591 : Arv Z h535 a517 k525 .long (4 : Int32) [] (.long (0 : Int64)) := (pV_a517.keep K535 (ninS (Ne.symm pN_a513_a517) nin0))
  obtain ⟨cl592, Ar592, qq592, S592, M592, H592, G592⟩ := id (V591)
  have hin592 : ¬ ((3 : Int32) < 0 ∨ cl592.slots.size ≤ ((3 : Int32)).toNatClampNeg) := inb_of S592 ⟨by decide, by decide⟩
  refine own_via (fun t k => X590.laload hx (j := (3 : Int32)) (v := (.long (0 : Int64))) (by rw [e590]; exact Ar592.1) (State.isArrayOf_alike hZ.alike Ar592.2.1) Ar592.2.2 hin592 (Has.at H592 hin592 rfl) (g := (mkF m 47 #[rv a513, iv (201 : Int32), iv (3 : Int32)] [(.int (3 : Int32)), (.ref a517), (.int (3 : Int32)), (.ref a517)])) rfl rfl (hb hby d14_47) t (XS.lconst X590.here hx rfl (hb hby d14_48) (XS.iloadN X590.here hx rfl (hb hby d14_49) rfl (XS.lshl X590.here hx rfl (hb hby d14_50) rfl (XS.lor X590.here hx rfl (hb hby d14_51) rfl k))))) ?_
  show own_Goes p e below (T590.setTop (mkF m 52 #[rv a513, iv (201 : Int32), iv (3 : Int32)] [(.long (512 : Int64)), (.int (3 : Int32)), (.ref a517)])) _
  have V593 : Arv Z h535 a517 k525 .long (4 : Int32) [(.long (0 : Int64)), (.long (0 : Int64)), (.long (0 : Int64)), (.long (0 : Int64))] (.long (0 : Int64)) := V591.pad (pad_rep [] (.long (0 : Int64)) 4)
  obtain ⟨cl594, Ar594, qq594, S594, M594, H594, G594⟩ := id (V593)
  have hin594 : ¬ ((3 : Int32) < 0 ∨ cl594.slots.size ≤ ((3 : Int32)).toNatClampNeg) := inb_of S594 ⟨by decide, by decide⟩
  obtain ⟨T594, h594, X594, e594, W594, st594⟩ := stJ X590 hx hZ e590 Ar594 (j := (3 : Int32)) hin594 (g := (mkF m 52 #[rv a513, iv (201 : Int32), iv (3 : Int32)] [(.long (512 : Int64)), (.int (3 : Int32)), (.ref a517)])) rfl rfl (hb hby d14_52)
  refine own_via (fun t k => st594 t k) ?_
  have V595 : Arv Z h594 a517 k525 .long (4 : Int32) [(.long (0 : Int64)), (.long (0 : Int64)), (.long (0 : Int64)), (.long (512 : Int64))] (.long (0 : Int64)) := Arv.set Ar594 qq594 S594 M594 H594 G594 rfl W594 3 rfl (Nat.le_of_ble_eq_true rfl)
  have N594 := Fr.snoc X594 N535 pG_a517
  show own_Goes p e below (T594.setTop (mkF m 53 #[rv a513, iv (201 : Int32), iv (3 : Int32)] [])) _
  refine own_via (fun t k => XS.aloadN X594.here hx rfl (hb hby d14_53) rfl rfl k) ?_
  have O597 : Old Z n0 h594 := ((O0.keep K535 (allS pG_a513 all0)).wr W594 pG_a517)
  have E598 : Exa Z h594 a513 zs2 := (ex586.wr W594)
  obtain ⟨cq596, q596, q596'⟩ := E598.cell
  obtain ⟨_, _, ⟨T596, L596, c596, n596⟩, -, X596, ⟨Lc596, hQ596, l596, y596, z596⟩, st596⟩ := X594.privateBack hx (y := (⟨zs2, zs7, "()V"⟩ : MethodName)) hown (mvT hZ (wd hw 73 rfl)) (mvT hZ (wd hw 74 rfl)) (mvT hZ (wd hw 76 rfl)) (Cond.privateMethod_at (mvP hZ (wd hw 75 rfl) (args := #[]))) (mvT hZ (wd hw 77 rfl)) (by decide) (backOf (W := 0) (rm7 l Z a0 hw [] a513 h594 n0 O597 S_BitSet__assertionsDisabled) hZ (wd hw 77 rfl) (wd hw 11 rfl) (by decide) (by decide)) (g := (mkF m 54 #[rv a513, iv (201 : Int32), iv (3 : Int32)] [(.ref a513)])) rfl (by rw [hml]; rfl) (Steps.refl _) (a := a513) (by rw [e594]; exact q596) q596' (argsL := []) (rest := []) (lenOf pd_3 rfl) rfl (by show 2 * 0 + _ ≤ _; exact Nat.le_of_eq rfl) (hb hby d14_54) (fun _ _ => ⟨rfl, e594, (by decide : 0 + 0 ≤ _), (by decide : 0 + 0 ≤ _)⟩)
  dsimp only [Pt.U, Pt.locs, Pt.cells, Pt.slots] at X596 l596 y596 z596 st596 hQ596
  subst l596 y596 z596
  obtain ⟨rfl, Nq596, hh599⟩ := hQ596
  have N596 := Fr.app N594 Nq596
  refine own_via (fun t k => st596.trans k) ?_
  obtain ⟨fs, hr, hrun, hended, hW, hsame⟩ := X596.leave (v := none) (fun _ => rfl)
  refine own_end (t := T596.setFrames fs) ?_ ⟨_, hrun, hended, _, _, rfl, ?_, ⟨_, rfl⟩, hW, hsame.mono (by decide) (by decide)⟩
  · exact X596.returnOut hx Bd.returns (hb hby d14_57) hr
  have F600 : Fld Z h594 a513 zs2 "wordsInUse" "I" (.int (4 : Int32)) := (fx587.other W594 (Or.inl pN_a513_a517))
  have F601 : Fld Z h594 a513 zs2 zs5 "Z" (.int p524) := (fx588.other W594 (Or.inl pN_a513_a517))
  have F602 : Fld Z h594 a513 zs2 "words" "[J" (.ref a517) := (fx589.other W594 (Or.inl pN_a513_a517))
  · show Q12 Z a513 a517 p524 k525 h0 n0 _ T596.heap _
    rw [hh599]
    exact ⟨rfl, N596, (((Keep.refl h0 [a513, a517]).trans K535 (allS (Or.inl (List.mem_of_getElem? (i := 0) rfl)) all0)).wr W594 (Or.inl (List.mem_of_getElem? (i := 1) rfl))), E598, F600, F601, F602, V595⟩
theorem d7_134 : decode prog_61_method_2_code 134 = .ok (.sipush 252, 3) := by decide +kernel
theorem d7_137 : decode prog_61_method_2_code 137 = .ok (.istore_n 3, 1) := by decide +kernel
theorem d7_138 : decode prog_61_method_2_code 138 = .ok (.goto 7, 3) := by decide +kernel
theorem d7_145 : decode prog_61_method_2_code 145 = .ok (.iload_n 3, 1) := by decide +kernel
theorem d7_146 : decode prog_61_method_2_code 146 = .ok (.iload_n 2, 1) := by decide +kernel
theorem d7_147 : decode prog_61_method_2_code 147 = .ok (.invokestatic 46, 3) := by decide +kernel
theorem d9_0 : decode prog_61_method_8_code 0 = .ok (.iconst 3, 1) := by decide +kernel
theorem d9_1 : decode prog_61_method_8_code 1 = .ok (.newarray .byte, 2) := by decide +kernel
theorem d9_3 : decode prog_61_method_8_code 3 = .ok (.dup, 1) := by decide +kernel
theorem d9_4 : decode prog_61_method_8_code 4 = .ok (.iconst 0, 1) := by decide +kernel
theorem d9_5 : decode prog_61_method_8_code 5 = .ok (.iconst (-1), 1) := by decide +kernel
theorem d9_6 : decode prog_61_method_8_code 6 = .ok (.bastore, 1) := by decide +kernel
theorem d9_7 : decode prog_61_method_8_code 7 = .ok (.dup, 1) := by decide +kernel
theorem d9_8 : decode prog_61_method_8_code 8 = .ok (.iconst 1, 1) := by decide +kernel
theorem d9_9 : decode prog_61_method_8_code 9 = .ok (.iload_n 0, 1) := by decide +kernel
theorem d9_10 : decode prog_61_method_8_code 10 = .ok (.i2b, 1) := by decide +kernel
theorem d9_11 : decode prog_61_method_8_code 11 = .ok (.bastore, 1) := by decide +kernel
theorem d9_12 : decode prog_61_method_8_code 12 = .ok (.dup, 1) := by decide +kernel
theorem d9_13 : decode prog_61_method_8_code 13 = .ok (.iconst 2, 1) := by decide +kernel
theorem d9_14 : decode prog_61_method_8_code 14 = .ok (.iload_n 1, 1) := by decide +kernel
theorem d9_15 : decode prog_61_method_8_code 15 = .ok (.i2b, 1) := by decide +kernel
theorem d9_16 : decode prog_61_method_8_code 16 = .ok (.bastore, 1) := by decide +kernel
theorem d9_17 : decode prog_61_method_8_code 17 = .ok (.areturn, 1) := by decide +kernel
theorem ef_12 (m : MethodId) (x0 : Int32) (x1 : Int32) : entryFrame m #[(.int x0), (.int x1)] 2 = mkF m 0 #[iv x0, iv x1] [] := by first | (simp [entryFrame, mkF, argsToLocals, Value.category]; done) | rfl
def Q13 (Z : State)  (h0 : Heap) (n0 : Nat) (v : Option Value) (h : Heap) (L : List Loc) : Prop := (∃ (b635 : Addr) (k634 : ClassId), v = some (.ref b635) ∧ Fr n0 L ∧ Keep h0 h [] ∧ h0.size ≤ b635 ∧ Arv Z h b635 k634 .byte (3 : Int32) [(.int (-1 : Int32)), (.int (-4 : Int32)), (.int (-55 : Int32))] (.int (0 : Int32)))
set_option maxRecDepth 65536 in
set_option maxHeartbeats 40000000 in
theorem rm13 (l : Launch) (Z : State) (a0 : Array Value) (hw : ∀ d ∈ tables_1, d.before a0 Z = true) (ws : List Jvm.Cond)  (h0 : Heap) (n0 : Nat) (O0 : Old Z n0 h0) :
    MetFree l (⟨zs1, "command", "(II)[B"⟩ : MethodName) (head1 (Jvm.Cond.code (⟨zs1, "command", "(II)[B"⟩ : MethodName) prog_61_method_8_code 2 (some (.array .byte)) :: ws) ({ frames := 0, cells := 1, slots := 3, locals := 0 } : Room)) (fun a U => a = #[(.int (252 : Int32)), (.int (201 : Int32))] ∧ Z.Warmed39 U.vm ∧ U.heap = h0) (fun _ _ _ _ _ => True) (fun _ U o U' => ∃ v L, o = .returned v ∧ Q13 Z  h0 n0 v U'.heap L ∧ FrameEnd U o U' L ({ frames := 0, cells := 1, slots := 3, locals := 0 } : Room).cells ({ frames := 0, cells := 1, slots := 3, locals := 0 } : Room).slots) := by
  refine MetFree.of_bodySF (plainFor_of_name pn_2) hisR ?_
  intro p e s m args below meth c s₁ Bd hml0 hP hK
  obtain ⟨rfl, hZ, hh⟩ := hP
  have hx := Bd.exec
  have hby := Bd.bytes
  have hml : c.maxLocals = 2 := hml0
  have hown : s.vm.findClass zs1 = some m.cls := findClass_of_methodNamed Bd.named
  have hnm := (name_of_methodNamed Bd.named Bd.method).1
  have X0 : Stand p l e ({ frames := 0, cells := 1, slots := 3, locals := 0 } : Room) s m #[(.int (252 : Int32)), (.int (201 : Int32))] below meth c s₁ [] 0 0 := Stand.of_body Bd
  have e0 : s₁.heap = h0 := by rw [← hh, Bd.state]; rfl
  have N0 := Fr.nil n0
  refine own_out ?_
  refine own_via (fun t k => castTop (ef_12 m (252 : Int32) (201 : Int32)) (XS.iconst X0.here hx rfl (hb hby d9_0) k)) ?_
  obtain ⟨T634, h634, k634, X634, e634, E634, A634, st634⟩ := newP X0 hx hZ (wd hw 59 rfl) e0 (g := (mkF m 1 #[iv (252 : Int32), iv (201 : Int32)] [(.int (3 : Int32))])) rfl (hb hby d9_1) rfl (by decide) (cap := 3) (by decide) (by decide) (by decide) (by decide)
  obtain ⟨b635, q634⟩ : ∃ z, z = h0.size := ⟨_, rfl⟩
  rw [← q634] at A634 st634
  refine own_via (fun t k => st634 t k) ?_
  have g636 : n0 ≤ b635 := Nat.le_trans (own_old O0) (Nat.le_of_eq q634.symm)
  have B637 : h0.size ≤ b635 := Nat.le_trans (Nat.le_refl _) (Nat.le_of_eq q634.symm)
  have V638 : Arv Z h634 b635 k634 .byte (3 : Int32) [] (.int (0 : Int32)) := Arv.new A634 (by decide)
  show own_Goes p e below (T634.setTop (mkF m 3 #[iv (252 : Int32), iv (201 : Int32)] [(.ref b635)])) _
  refine own_via (fun t k => XS.dup X634.here hx rfl (hb hby d9_3) rfl rfl (XS.iconst X634.here hx rfl (hb hby d9_4) (XS.iconst X634.here hx rfl (hb hby d9_5) k))) ?_
  show own_Goes p e below (T634.setTop (mkF m 6 #[iv (252 : Int32), iv (201 : Int32)] [(.int (-1 : Int32)), (.int (0 : Int32)), (.ref b635), (.ref b635)])) _
  have V639 : Arv Z h634 b635 k634 .byte (3 : Int32) [(.int (0 : Int32))] (.int (0 : Int32)) := V638.pad (pad_rep [] (.int (0 : Int32)) 1)
  obtain ⟨cl640, Ar640, qq640, S640, M640, H640, G640⟩ := id (V639)
  have hin640 : ¬ ((0 : Int32) < 0 ∨ cl640.slots.size ≤ ((0 : Int32)).toNatClampNeg) := inb_of S640 ⟨by decide, by decide⟩
  obtain ⟨T640, h640, X640, e640, W640, st640⟩ := stB X634 hx hZ e634 Ar640 (j := (0 : Int32)) hin640 (g := (mkF m 6 #[iv (252 : Int32), iv (201 : Int32)] [(.int (-1 : Int32)), (.int (0 : Int32)), (.ref b635), (.ref b635)])) rfl rfl (hb hby d9_6)
  refine own_via (fun t k => st640 t k) ?_
  have V641 : Arv Z h640 b635 k634 .byte (3 : Int32) [(.int (-1 : Int32))] (.int (0 : Int32)) := Arv.set Ar640 qq640 S640 M640 H640 G640 (by decide) W640 0 rfl (Nat.le_of_ble_eq_true rfl)
  have N640 := Fr.snoc X640 N0 g636
  show own_Goes p e below (T640.setTop (mkF m 7 #[iv (252 : Int32), iv (201 : Int32)] [(.ref b635)])) _
  refine own_via (fun t k => XS.dup X640.here hx rfl (hb hby d9_7) rfl rfl (XS.iconst X640.here hx rfl (hb hby d9_8) (XS.iloadN X640.here hx rfl (hb hby d9_9) rfl (XS.i2b X640.here hx rfl (hb hby d9_10) rfl k)))) ?_
  show own_Goes p e below (T640.setTop (mkF m 11 #[iv (252 : Int32), iv (201 : Int32)] [(.int (-4 : Int32)), (.int (1 : Int32)), (.ref b635), (.ref b635)])) _
  have V642 : Arv Z h640 b635 k634 .byte (3 : Int32) [(.int (-1 : Int32)), (.int (0 : Int32))] (.int (0 : Int32)) := V641.pad (pad_rep [(.int (-1 : Int32))] (.int (0 : Int32)) 1)
  obtain ⟨cl643, Ar643, qq643, S643, M643, H643, G643⟩ := id (V642)
  have hin643 : ¬ ((1 : Int32) < 0 ∨ cl643.slots.size ≤ ((1 : Int32)).toNatClampNeg) := inb_of S643 ⟨by decide, by decide⟩
  obtain ⟨T643, h643, X643, e643, W643, st643⟩ := stB X640 hx hZ e640 Ar643 (j := (1 : Int32)) hin643 (g := (mkF m 11 #[iv (252 : Int32), iv (201 : Int32)] [(.int (-4 : Int32)), (.int (1 : Int32)), (.ref b635), (.ref b635)])) rfl rfl (hb hby d9_11)
  refine own_via (fun t k => st643 t k) ?_
  have V644 : Arv Z h643 b635 k634 .byte (3 : Int32) [(.int (-1 : Int32)), (.int (-4 : Int32))] (.int (0 : Int32)) := Arv.set Ar643 qq643 S643 M643 H643 G643 (by decide) W643 1 rfl (Nat.le_of_ble_eq_true rfl)
  have N643 := Fr.snoc X643 N640 g636
  show own_Goes p e below (T643.setTop (mkF m 12 #[iv (252 : Int32), iv (201 : Int32)] [(.ref b635)])) _
  refine own_via (fun t k => XS.dup X643.here hx rfl (hb hby d9_12) rfl rfl (XS.iconst X643.here hx rfl (hb hby d9_13) (XS.iloadN X643.here hx rfl (hb hby d9_14) rfl (XS.i2b X643.here hx rfl (hb hby d9_15) rfl k)))) ?_
  show own_Goes p e below (T643.setTop (mkF m 16 #[iv (252 : Int32), iv (201 : Int32)] [(.int (-55 : Int32)), (.int (2 : Int32)), (.ref b635), (.ref b635)])) _
  have V645 : Arv Z h643 b635 k634 .byte (3 : Int32) [(.int (-1 : Int32)), (.int (-4 : Int32)), (.int (0 : Int32))] (.int (0 : Int32)) := V644.pad (pad_rep [(.int (-1 : Int32)), (.int (-4 : Int32))] (.int (0 : Int32)) 1)
  obtain ⟨cl646, Ar646, qq646, S646, M646, H646, G646⟩ := id (V645)
  have hin646 : ¬ ((2 : Int32) < 0 ∨ cl646.slots.size ≤ ((2 : Int32)).toNatClampNeg) := inb_of S646 ⟨by decide, by decide⟩
  obtain ⟨T646, h646, X646, e646, W646, st646⟩ := stB X643 hx hZ e643 Ar646 (j := (2 : Int32)) hin646 (g := (mkF m 16 #[iv (252 : Int32), iv (201 : Int32)] [(.int (-55 : Int32)), (.int (2 : Int32)), (.ref b635), (.ref b635)])) rfl rfl (hb hby d9_16)
  refine own_via (fun t k => st646 t k) ?_
  have V647 : Arv Z h646 b635 k634 .byte (3 : Int32) [(.int (-1 : Int32)), (.int (-4 : Int32)), (.int (-55 : Int32))] (.int (0 : Int32)) := Arv.set Ar646 qq646 S646 M646 H646 G646 (by decide) W646 2 rfl (Nat.le_of_ble_eq_true rfl)
  have N646 := Fr.snoc X646 N643 g636
  show own_Goes p e below (T646.setTop (mkF m 17 #[iv (252 : Int32), iv (201 : Int32)] [(.ref b635)])) _
  obtain ⟨fs, hr, hrun, hended, hW, hsame⟩ := X646.leave (v := some (.ref b635)) (fun h => by rw [Bd.returns] at h; cases h)
  refine own_end (t := T646.setFrames fs) ?_ ⟨_, hrun, hended, _, _, rfl, ?_, ⟨_, rfl⟩, hW, hsame.mono (by decide) (by decide)⟩
  · jvm_step X646.here [X646.here.top, hx, (hb hby d9_17), X646.method', Bd.returns, Value.isRef, FieldType.isReference]
    first | (intro acts; rw [hr _ acts rfl rfl rfl]) | rw [hr _ _ rfl rfl rfl]
    exact Steps.refl _
  · show Q13 Z  h0 n0 _ T646.heap _
    rw [e646]
    exact ⟨b635, k634, rfl, N646, (((((Keep.refl h0 []).ext E634).wr W640 (Or.inr B637)).wr W643 (Or.inr B637)).wr W646 (Or.inr B637)), B637, V647⟩
theorem d7_150 : decode prog_61_method_2_code 150 = .ok (.areturn, 1) := by decide +kernel
def Q14 (Z : State) (a418 : Addr) (a421 : Addr) (a422 : Addr) (p427 : Int32) (k428 : ClassId) (h0 : Heap) (n0 : Nat) (v : Option Value) (h : Heap) (L : List Loc) : Prop := (∃ (b649 : Addr) (k650 : ClassId), v = some (.ref b649) ∧ Fr n0 L ∧ Keep h0 h [a421, a422] ∧ Exa Z h a421 zs2 ∧ Fld Z h a421 zs2 "wordsInUse" "I" (.int (4 : Int32)) ∧ Fld Z h a421 zs2 zs5 "Z" (.int p427) ∧ Fld Z h a421 zs2 "words" "[J" (.ref a422) ∧ Arv Z h a422 k428 .long (4 : Int32) [(.long (0 : Int64)), (.long (0 : Int64)), (.long (0 : Int64)), (.long (512 : Int64))] (.long (0 : Int64)) ∧ h0.size ≤ b649 ∧ Arv Z h b649 k650 .byte (3 : Int32) [(.int (-1 : Int32)), (.int (-4 : Int32)), (.int (-55 : Int32))] (.int (0 : Int32)))
set_option maxRecDepth 65536 in
set_option maxHeartbeats 40000000 in
theorem rm14 (l : Launch) (Z : State) (a0 : Array Value) (hw : ∀ d ∈ tables_1, d.before a0 Z = true) (ws : List Jvm.Cond) (a418 : Addr) (a421 : Addr) (a422 : Addr) (p427 : Int32) (k428 : ClassId) (h0 : Heap) (n0 : Nat) (O0 : Old Z n0 h0) (pF_a418_gmcpOffered : Fld Z h0 a418 zs1 "gmcpOffered" "Z" (.int (0 : Int32))) (pF_a418_gmcpOn : Fld Z h0 a418 zs1 "gmcpOn" "Z" (.int (0 : Int32))) (pF_a418_refusedDo : Fld Z h0 a418 zs1 "refusedDo" zs3 (.ref a421)) (S_BitSet__assertionsDisabled : Sta Z Z.heap zs2 zs6 "Z" (.int (1 : Int32))) (pE_a421 : Exa Z h0 a421 zs2) (pF_a421_wordsInUse : Fld Z h0 a421 zs2 "wordsInUse" "I" (.int (0 : Int32))) (pF_a421_words : Fld Z h0 a421 zs2 "words" "[J" (.ref a422)) (pL_a422 : own_Len Z h0 a422 .long (4 : Int32)) (pG_a421 : n0 ≤ a421) (pF_a421_sizeIsSticky : Fld Z h0 a421 zs2 zs5 "Z" (.int p427)) (pV_a422 : Arv Z h0 a422 k428 .long (4 : Int32) [] (.long (0 : Int64))) (pN_a421_a422 : a421 ≠ a422) (pG_a422 : n0 ≤ a422) :
    MetFree l (⟨zs1, "answer", "(II)[B"⟩ : MethodName) (head1 (Jvm.Cond.code (⟨zs1, "answer", "(II)[B"⟩ : MethodName) prog_61_method_2_code 4 (some (.array .byte)) :: ws) ({ frames := 3, cells := 1, slots := 3, locals := 42 } : Room)) (fun a U => a = #[(.ref a418), (.int (253 : Int32)), (.int (201 : Int32))] ∧ Z.Warmed39 U.vm ∧ U.heap = h0) (fun _ _ _ _ _ => True) (fun _ U o U' => ∃ v L, o = .returned v ∧ Q14 Z a418 a421 a422 p427 k428 h0 n0 v U'.heap L ∧ FrameEnd U o U' L ({ frames := 3, cells := 1, slots := 3, locals := 42 } : Room).cells ({ frames := 3, cells := 1, slots := 3, locals := 42 } : Room).slots) := by
  refine MetFree.of_bodySF (plainFor_of_name pn_2) hisR ?_
  intro p e s m args below meth c s₁ Bd hml0 hP hK
  obtain ⟨rfl, hZ, hh⟩ := hP
  have hx := Bd.exec
  have hby := Bd.bytes
  have hml : c.maxLocals = 4 := hml0
  have hown : s.vm.findClass zs1 = some m.cls := findClass_of_methodNamed Bd.named
  have hnm := (name_of_methodNamed Bd.named Bd.method).1
  have X0 : Stand p l e ({ frames := 3, cells := 1, slots := 3, locals := 42 } : Room) s m #[(.ref a418), (.int (253 : Int32)), (.int (201 : Int32))] below meth c s₁ [] 0 0 := Stand.of_body Bd
  have e0 : s₁.heap = h0 := by rw [← hh, Bd.state]; rfl
  have N0 := Fr.nil n0
  refine own_out ?_
  refine own_via (fun t k => castTop (ef_6 m a418 (253 : Int32) (201 : Int32)) (XS.iloadN X0.here hx rfl (hb hby d7_0) rfl (XS.sipush X0.here hx rfl (hb hby d7_1) (XS.icmpNo X0.here hx rfl (hb hby d7_4) rfl (teq (by decide : (253 : Int32) = (253 : Int32))).2 (XS.iloadN X0.here hx rfl (hb hby d7_7) rfl (XS.iconst X0.here hx rfl (hb hby d7_8) (XS.icmpYes X0.here hx rfl (pc0 := 9) (pc' := 23) rfl (hb hby d7_9) rfl (feq (by decide : ¬ ((201 : Int32) = (1 : Int32)))).2 (by decide) (by decide) (XS.iloadN X0.here hx rfl (hb hby d7_23) rfl (XS.sipush X0.here hx rfl (hb hby d7_24) (XS.icmpNo X0.here hx rfl (hb hby d7_27) rfl (teq (by decide : (201 : Int32) = (201 : Int32))).2 (XS.iloadN X0.here hx rfl (hb hby d7_30) rfl (XS.sipush X0.here hx rfl (hb hby d7_31) k)))))))))))) ?_
  show own_Goes p e below (s₁.setTop (mkF m 34 #[rv a418, iv (253 : Int32), iv (201 : Int32), .unset] [(.int (253 : Int32)), (.int (253 : Int32))])) _
  refine own_via (fun t k => XS.icmpYes X0.here hx rfl (pc0 := 34) (pc' := 44) rfl (hb hby d7_34) rfl (teq (by decide : (253 : Int32) = (253 : Int32))).1 (by decide) (by decide) (XS.aloadN X0.here hx rfl (hb hby d7_44) rfl rfl k)) ?_
  obtain ⟨T436, X436, e436, st436⟩ := getF X0 hx hZ hown (host := "") (Or.inl (wd hw 47 rfl)) Via.refl e0 pF_a418_gmcpOffered (g := (mkF m 45 #[rv a418, iv (253 : Int32), iv (201 : Int32), .unset] [(.ref a418)])) rfl rfl (hb hby d7_45)
  refine own_via (fun t k => st436 t (XS.ifNo X436.here hx rfl (hb hby d7_48) rfl ((if0 _ _).trans (teq (by decide : (0 : Int32) = (0 : Int32))).2) (XS.aloadN X436.here hx rfl (hb hby d7_51) rfl rfl k))) ?_
  show own_Goes p e below (T436.setTop (mkF m 52 #[rv a418, iv (253 : Int32), iv (201 : Int32), .unset] [(.ref a418)])) _
  obtain ⟨T437, X437, e437, st437⟩ := getF X436 hx hZ hown (host := "") (Or.inl (wd hw 40 rfl)) Via.refl e436 pF_a418_gmcpOn (g := (mkF m 52 #[rv a418, iv (253 : Int32), iv (201 : Int32), .unset] [(.ref a418)])) rfl rfl (hb hby d7_52)
  refine own_via (fun t k => st437 t (XS.ifYes X437.here hx rfl (pc0 := 55) (pc' := 75) rfl (hb hby d7_55) rfl ((if0 _ _).trans (teq (by decide : (0 : Int32) = (0 : Int32))).1) (by decide) (by decide) (XS.iloadN X437.here hx rfl (hb hby d7_75) rfl (XS.sipush X437.here hx rfl (hb hby d7_76) (XS.icmpYes X437.here hx rfl (pc0 := 79) (pc' := 108) rfl (hb hby d7_79) rfl (feq (by decide : ¬ ((253 : Int32) = (251 : Int32)))).2 (by decide) (by decide) (XS.iloadN X437.here hx rfl (hb hby d7_108) rfl (XS.sipush X437.here hx rfl (hb hby d7_109) (XS.icmpNo X437.here hx rfl (hb hby d7_112) rfl (teq (by decide : (253 : Int32) = (253 : Int32))).2 (XS.aloadN X437.here hx rfl (hb hby d7_115) rfl rfl k))))))))) ?_
  show own_Goes p e below (T437.setTop (mkF m 116 #[rv a418, iv (253 : Int32), iv (201 : Int32), .unset] [(.ref a418)])) _
  obtain ⟨T438, X438, e438, st438⟩ := getF X437 hx hZ hown (host := "") (Or.inl (wd hw 33 rfl)) Via.refl e437 pF_a418_refusedDo (g := (mkF m 116 #[rv a418, iv (253 : Int32), iv (201 : Int32), .unset] [(.ref a418)])) rfl rfl (hb hby d7_116)
  refine own_via (fun t k => st438 t (XS.iloadN X438.here hx rfl (hb hby d7_119) rfl k)) ?_
  obtain ⟨_, T439, _, X439, hQ439, st439⟩ := own_cv X438 hx hZ hown (wd hw 68 rfl) (wd hw 69 rfl) (wd hw 71 rfl) (wd hw 70 rfl) (wd hw 72 rfl) (wd hw 11 rfl) (by decide) (rm9 l Z a0 hw [] a421 h0 n0 O0 S_BitSet__assertionsDisabled pE_a421 pF_a421_wordsInUse) e438 pE_a421 (g := (mkF m 120 #[rv a418, iv (253 : Int32), iv (201 : Int32), .unset] [(.int (201 : Int32)), (.ref a421)])) rfl (by rw [hml]; rfl) (rest := []) (W := 0) (lenOf pd_6 rfl) rfl (by show 2 * 0 + _ ≤ _; exact Nat.le_of_eq rfl) (hb hby d7_120) (by decide) (by decide) (by decide) (by decide)
  obtain ⟨rfl, Nq439, hh510⟩ := hQ439
  have N439 := Fr.app N0 Nq439
  refine own_via (fun t k => st439 t (XS.ifNo X439.here hx rfl (hb hby d7_123) rfl ((if0 _ _).trans (teq (by decide : (0 : Int32) = (0 : Int32))).2) (XS.aloadN X439.here hx rfl (hb hby d7_126) rfl rfl k))) ?_
  show own_Goes p e below (T439.setTop (mkF m 127 #[rv a418, iv (253 : Int32), iv (201 : Int32), .unset] [(.ref a418)])) _
  obtain ⟨T511, X511, e511, st511⟩ := getF X439 hx hZ hown (host := "") (Or.inl (wd hw 33 rfl)) Via.refl hh510 pF_a418_refusedDo (g := (mkF m 127 #[rv a418, iv (253 : Int32), iv (201 : Int32), .unset] [(.ref a418)])) rfl rfl (hb hby d7_127)
  refine own_via (fun t k => st511 t (XS.iloadN X511.here hx rfl (hb hby d7_130) rfl k)) ?_
  obtain ⟨_, T512, _, X512, hQ512, st512⟩ := own_cv X511 hx hZ hown (wd hw 79 rfl) (wd hw 80 rfl) (wd hw 82 rfl) (wd hw 81 rfl) (wd hw 83 rfl) (wd hw 11 rfl) (by decide) (rm12 l Z a0 hw [] a421 a422 p427 k428 h0 n0 O0 pF_a421_wordsInUse pF_a421_words pL_a422 pE_a421 pG_a421 pF_a421_sizeIsSticky pV_a422 pN_a421_a422 pG_a422 S_BitSet__assertionsDisabled) e511 pE_a421 (g := (mkF m 131 #[rv a418, iv (253 : Int32), iv (201 : Int32), .unset] [(.int (201 : Int32)), (.ref a421)])) rfl (by rw [hml]; rfl) (rest := []) (W := 0) (lenOf pd_2 rfl) rfl (by show 2 * 0 + _ ≤ _; exact Nat.le_of_eq rfl) (hb hby d7_131) (by decide) (by decide) (by decide) (by decide)
  obtain ⟨h512, e512⟩ : ∃ z, T512.heap = z := ⟨_, rfl⟩
  rw [e512] at hQ512
  obtain ⟨rfl, Nq512, K512, ex603, fx604, fx605, fx606, vx607⟩ := hQ512
  have N512 := Fr.app N439 Nq512
  refine own_via (fun t k => st512 t (XS.sipush X512.here hx rfl (hb hby d7_134) (XS.istoreN X512.here hx rfl (hb hby d7_137) rfl (l' := #[rv a418, iv (253 : Int32), iv (201 : Int32), iv (252 : Int32)]) rfl (XS.goto X512.here hx rfl (pc0 := 138) (pc' := 145) rfl (hb hby d7_138) (by decide) (by decide) (XS.iloadN X512.here hx rfl (hb hby d7_145) rfl (XS.iloadN X512.here hx rfl (hb hby d7_146) rfl k)))))) ?_
  show own_Goes p e below (T512.setTop (mkF m 147 #[rv a418, iv (253 : Int32), iv (201 : Int32), iv (252 : Int32)] [(.int (201 : Int32)), (.int (252 : Int32))])) _
  have O648 : Old Z n0 h512 := (O0.keep K512 (allS pG_a421 (allS pG_a422 all0)))
  obtain ⟨_, T608, _, X608, hQ608, st608⟩ := own_cs X512 hx hZ hown (wd hw 56 rfl) (wd hw 57 rfl) (wd hw 58 rfl) (wd hw 2 rfl) (by decide) (rm13 l Z a0 hw []  h512 n0 O648 ) e512 (g := (mkF m 147 #[rv a418, iv (253 : Int32), iv (201 : Int32), iv (252 : Int32)] [(.int (201 : Int32)), (.int (252 : Int32))])) rfl (by rw [hml]; rfl) (rest := []) (W := 0) (lenOf pd_5 rfl) rfl (by show 2 * 0 + _ ≤ _; exact Nat.le_of_eq rfl) (hb hby d7_147) (by decide) (by decide) (by decide) (by decide)
  obtain ⟨h608, e608⟩ : ∃ z, T608.heap = z := ⟨_, rfl⟩
  rw [e608] at hQ608
  obtain ⟨b649, k650, rfl, Nq608, K608, bx651, vx652⟩ := hQ608
  have N608 := Fr.app N512 Nq608
  have g653 : n0 ≤ b649 := Nat.le_trans (own_old O648) bx651
  have Z655 : h0.size ≤ h512.size := (Nat.le_trans (Nat.le_refl _) K512.1)
  have B654 : h0.size ≤ b649 := Nat.le_trans Z655 bx651
  refine own_via (fun t k => st608 t k) ?_
  obtain ⟨fs, hr, hrun, hended, hW, hsame⟩ := X608.leave (v := some (.ref b649)) (fun h => by rw [Bd.returns] at h; cases h)
  refine own_end (t := T608.setFrames fs) ?_ ⟨_, hrun, hended, _, _, rfl, ?_, ⟨_, rfl⟩, hW, hsame.mono (by decide) (by decide)⟩
  · jvm_step X608.here [X608.here.top, hx, (hb hby d7_150), X608.method', Bd.returns, Value.isRef, FieldType.isReference]
    first | (intro acts; rw [hr _ acts rfl rfl rfl]) | rw [hr _ _ rfl rfl rfl]
    exact Steps.refl _
  have E656 : Exa Z h608 a421 zs2 := (ex603.keep K608)
  have F657 : Fld Z h608 a421 zs2 "wordsInUse" "I" (.int (4 : Int32)) := (fx604.keep K608 nin0)
  have F658 : Fld Z h608 a421 zs2 zs5 "Z" (.int p427) := (fx605.keep K608 nin0)
  have F659 : Fld Z h608 a421 zs2 "words" "[J" (.ref a422) := (fx606.keep K608 nin0)
  have V660 : Arv Z h608 a422 k428 .long (4 : Int32) [(.long (0 : Int64)), (.long (0 : Int64)), (.long (0 : Int64)), (.long (512 : Int64))] (.long (0 : Int64)) := (vx607.keep K608 nin0)
  · show Q14 Z a418 a421 a422 p427 k428 h0 n0 _ T608.heap _
    rw [e608]
    exact ⟨b649, k650, rfl, N608, (((Keep.refl h0 [a421, a422]).trans K512 (allS (Or.inl (List.mem_of_getElem? (i := 0) rfl)) (allS (Or.inl (List.mem_of_getElem? (i := 1) rfl)) all0))).trans K608 all0), E656, F657, F658, F659, V660, B654, vx652⟩
theorem d10_0 : decode method_2_code 0 = .ok (.aload_n 0, 1) := by decide +kernel
theorem d10_1 : decode method_2_code 1 = .ok (.arraylength, 1) := by decide +kernel
theorem d10_2 : decode method_2_code 2 = .ok (.iconst 3, 1) := by decide +kernel
theorem d10_3 : decode method_2_code 3 = .ok (.if_icmp .ne 30, 3) := by decide +kernel
theorem d10_6 : decode method_2_code 6 = .ok (.aload_n 0, 1) := by decide +kernel
theorem d10_7 : decode method_2_code 7 = .ok (.iconst 0, 1) := by decide +kernel
theorem d10_8 : decode method_2_code 8 = .ok (.baload, 1) := by decide +kernel
theorem d10_9 : decode method_2_code 9 = .ok (.iconst (-1), 1) := by decide +kernel
theorem d10_10 : decode method_2_code 10 = .ok (.if_icmp .ne 23, 3) := by decide +kernel
theorem d10_13 : decode method_2_code 13 = .ok (.aload_n 0, 1) := by decide +kernel
theorem d10_14 : decode method_2_code 14 = .ok (.iconst 1, 1) := by decide +kernel
theorem d10_15 : decode method_2_code 15 = .ok (.baload, 1) := by decide +kernel
theorem d10_16 : decode method_2_code 16 = .ok (.iload_n 1, 1) := by decide +kernel
theorem d10_17 : decode method_2_code 17 = .ok (.i2b, 1) := by decide +kernel
theorem d10_18 : decode method_2_code 18 = .ok (.if_icmp .ne 15, 3) := by decide +kernel
theorem d10_21 : decode method_2_code 21 = .ok (.aload_n 0, 1) := by decide +kernel
theorem d10_22 : decode method_2_code 22 = .ok (.iconst 2, 1) := by decide +kernel
theorem d10_23 : decode method_2_code 23 = .ok (.baload, 1) := by decide +kernel
theorem d10_24 : decode method_2_code 24 = .ok (.bipush (-55), 2) := by decide +kernel
theorem d10_26 : decode method_2_code 26 = .ok (.if_icmp .ne 7, 3) := by decide +kernel
theorem d10_29 : decode method_2_code 29 = .ok (.iconst 1, 1) := by decide +kernel
theorem d10_30 : decode method_2_code 30 = .ok (.goto 4, 3) := by decide +kernel
theorem d10_34 : decode method_2_code 34 = .ok (.ireturn, 1) := by decide +kernel
theorem ef_13 (m : MethodId) (x0 : Addr) (x1 : Int32) : entryFrame m #[(.ref x0), (.int x1)] 2 = mkF m 0 #[rv x0, iv x1] [] := by first | (simp [entryFrame, mkF, argsToLocals, Value.category]; done) | rfl
theorem pn_3 : plainName "com/example/hearthkey/hearthkey/gateway/transport/TelnetOptionsOfferGmcpPinLaw" = true := by first | (simp [plainName, overriddenIn]; done) | decide +kernel
def Q15 (Z : State) (a680 : Addr) (k699 : ClassId) (h0 : Heap) (n0 : Nat) (v : Option Value) (h : Heap) (L : List Loc) : Prop := v = some (.int (1 : Int32)) ∧ Fr n0 L ∧ h = h0
set_option maxRecDepth 65536 in
set_option maxHeartbeats 40000000 in
theorem rm15 (l : Launch) (Z : State) (a0 : Array Value) (hw : ∀ d ∈ tables_1, d.before a0 Z = true) (ws : List Jvm.Cond) (a680 : Addr) (k699 : ClassId) (h0 : Heap) (n0 : Nat) (O0 : Old Z n0 h0) (pL_a680 : own_Len Z h0 a680 .byte (3 : Int32)) (pV_a680 : Arv Z h0 a680 k699 .byte (3 : Int32) [(.int (-1 : Int32)), (.int (-4 : Int32)), (.int (-55 : Int32))] (.int (0 : Int32))) :
    MetFree l (⟨zs4, "isCmd", "([BI)Z"⟩ : MethodName) (head1 (Jvm.Cond.code (⟨zs4, "isCmd", "([BI)Z"⟩ : MethodName) method_2_code 2 (some .boolean) :: ws) ({ frames := 0, cells := 0, slots := 0, locals := 0 } : Room)) (fun a U => a = #[(.ref a680), (.int (252 : Int32))] ∧ Z.Warmed39 U.vm ∧ U.heap = h0) (fun _ _ _ _ _ => True) (fun _ U o U' => ∃ v L, o = .returned v ∧ Q15 Z a680 k699 h0 n0 v U'.heap L ∧ FrameEnd U o U' L ({ frames := 0, cells := 0, slots := 0, locals := 0 } : Room).cells ({ frames := 0, cells := 0, slots := 0, locals := 0 } : Room).slots) := by
  refine MetFree.of_bodySF (plainFor_of_name pn_3) hisR ?_
  intro p e s m args below meth c s₁ Bd hml0 hP hK
  obtain ⟨rfl, hZ, hh⟩ := hP
  have hx := Bd.exec
  have hby := Bd.bytes
  have hml : c.maxLocals = 2 := hml0
  have hown : s.vm.findClass zs4 = some m.cls := findClass_of_methodNamed Bd.named
  have hnm := (name_of_methodNamed Bd.named Bd.method).1
  have X0 : Stand p l e ({ frames := 0, cells := 0, slots := 0, locals := 0 } : Room) s m #[(.ref a680), (.int (252 : Int32))] below meth c s₁ [] 0 0 := Stand.of_body Bd
  have e0 : s₁.heap = h0 := by rw [← hh, Bd.state]; rfl
  have N0 := Fr.nil n0
  refine own_out ?_
  refine own_via (fun t k => castTop (ef_13 m a680 (252 : Int32)) (XS.aloadN X0.here hx rfl (hb hby d10_0) rfl rfl k)) ?_
  obtain ⟨_, _, _, V707⟩ := id (pL_a680)
  obtain ⟨cl707, Ar707, -, S707, M707, -, -⟩ := id (V707)
  refine own_via (fun t k => X0.arraylength hx (by rw [e0]; exact Ar707.1) (State.isArrayOf_alike hZ.alike Ar707.2.1) (g := (mkF m 1 #[rv a680, iv (252 : Int32)] [(.ref a680)])) rfl rfl (hb hby d10_1) t k) ?_
  rw [len_of S707 M707]
  show own_Goes p e below (s₁.setTop (mkF m 2 #[rv a680, iv (252 : Int32)] [(.int (3 : Int32))])) _
  refine own_via (fun t k => XS.iconst X0.here hx rfl (hb hby d10_2) (XS.icmpNo X0.here hx rfl (hb hby d10_3) rfl (teq (by decide : (3 : Int32) = (3 : Int32))).2 (XS.aloadN X0.here hx rfl (hb hby d10_6) rfl rfl (XS.iconst X0.here hx rfl (hb hby d10_7) k)))) ?_
  show own_Goes p e below (s₁.setTop (mkF m 8 #[rv a680, iv (252 : Int32)] [(.int (0 : Int32)), (.ref a680)])) _
  obtain ⟨cl708, Ar708, qq708, S708, M708, H708, G708⟩ := id (pV_a680)
  have hin708 : ¬ ((0 : Int32) < 0 ∨ cl708.slots.size ≤ ((0 : Int32)).toNatClampNeg) := inb_of S708 ⟨by decide, by decide⟩
  refine own_via (fun t k => X0.baloadBytes hx (j := (0 : Int32)) (v := (.int (-1 : Int32))) (by rw [e0]; exact Ar708.1) (State.isArrayOf_alike hZ.alike Ar708.2.1) Ar708.2.2 hin708 (Has.at H708 hin708 rfl) (g := (mkF m 8 #[rv a680, iv (252 : Int32)] [(.int (0 : Int32)), (.ref a680)])) rfl rfl (hb hby d10_8) t (XS.iconst X0.here hx rfl (hb hby d10_9) (XS.icmpNo X0.here hx rfl (hb hby d10_10) rfl (teq (by decide : (-1 : Int32) = (-1 : Int32))).2 (XS.aloadN X0.here hx rfl (hb hby d10_13) rfl rfl (XS.iconst X0.here hx rfl (hb hby d10_14) k))))) ?_
  show own_Goes p e below (s₁.setTop (mkF m 15 #[rv a680, iv (252 : Int32)] [(.int (1 : Int32)), (.ref a680)])) _
  obtain ⟨cl709, Ar709, qq709, S709, M709, H709, G709⟩ := id (pV_a680)
  have hin709 : ¬ ((1 : Int32) < 0 ∨ cl709.slots.size ≤ ((1 : Int32)).toNatClampNeg) := inb_of S709 ⟨by decide, by decide⟩
  refine own_via (fun t k => X0.baloadBytes hx (j := (1 : Int32)) (v := (.int (-4 : Int32))) (by rw [e0]; exact Ar709.1) (State.isArrayOf_alike hZ.alike Ar709.2.1) Ar709.2.2 hin709 (Has.at H709 hin709 rfl) (g := (mkF m 15 #[rv a680, iv (252 : Int32)] [(.int (1 : Int32)), (.ref a680)])) rfl rfl (hb hby d10_15) t (XS.iloadN X0.here hx rfl (hb hby d10_16) rfl (XS.i2b X0.here hx rfl (hb hby d10_17) rfl (XS.icmpNo X0.here hx rfl (hb hby d10_18) rfl (teq (by decide : (-4 : Int32) = (-4 : Int32))).2 (XS.aloadN X0.here hx rfl (hb hby d10_21) rfl rfl (XS.iconst X0.here hx rfl (hb hby d10_22) k)))))) ?_
  show own_Goes p e below (s₁.setTop (mkF m 23 #[rv a680, iv (252 : Int32)] [(.int (2 : Int32)), (.ref a680)])) _
  obtain ⟨cl710, Ar710, qq710, S710, M710, H710, G710⟩ := id (pV_a680)
  have hin710 : ¬ ((2 : Int32) < 0 ∨ cl710.slots.size ≤ ((2 : Int32)).toNatClampNeg) := inb_of S710 ⟨by decide, by decide⟩
  refine own_via (fun t k => X0.baloadBytes hx (j := (2 : Int32)) (v := (.int (-55 : Int32))) (by rw [e0]; exact Ar710.1) (State.isArrayOf_alike hZ.alike Ar710.2.1) Ar710.2.2 hin710 (Has.at H710 hin710 rfl) (g := (mkF m 23 #[rv a680, iv (252 : Int32)] [(.int (2 : Int32)), (.ref a680)])) rfl rfl (hb hby d10_23) t (XS.bipush X0.here hx rfl (hb hby d10_24) (XS.icmpNo X0.here hx rfl (hb hby d10_26) rfl (teq (by decide : (-55 : Int32) = (-55 : Int32))).2 (XS.iconst X0.here hx rfl (hb hby d10_29) (XS.goto X0.here hx rfl (pc0 := 30) (pc' := 34) rfl (hb hby d10_30) (by decide) (by decide) k))))) ?_
  show own_Goes p e below (s₁.setTop (mkF m 34 #[rv a680, iv (252 : Int32)] [(.int (1 : Int32))])) _
  obtain ⟨fs, hr, hrun, hended, hW, hsame⟩ := X0.leave (v := some (.int (1 : Int32))) (fun h => by rw [Bd.returns] at h; cases h)
  refine own_end (t := s₁.setFrames fs) ?_ ⟨_, hrun, hended, _, _, rfl, ?_, ⟨_, rfl⟩, hW, hsame.mono (by decide) (by decide)⟩
  · exact retN X0 hx (t := .boolean) Bd.returns (by simp) (hb hby d10_34) hr
  · show Q15 Z a680 k699 h0 n0 _ s₁.heap _
    rw [e0]
    exact ⟨rfl, N0, rfl⟩
theorem pd_7 : parseMethodDescriptor "([BI)Z" = some ⟨[(.array .byte), .int], some .boolean⟩ := by decide +kernel
theorem d12_48 : decode jdk_92_method_26_code 48 = .ok (.aload_n 0, 1) := by decide +kernel
theorem d12_49 : decode jdk_92_method_26_code 49 = .ok (.getfield 11, 3) := by decide +kernel
theorem d12_52 : decode jdk_92_method_26_code 52 = .ok (.iload_n 2, 1) := by decide +kernel
theorem d12_53 : decode jdk_92_method_26_code 53 = .ok (.laload, 1) := by decide +kernel
theorem d12_54 : decode jdk_92_method_26_code 54 = .ok (.lconst 1, 1) := by decide +kernel
theorem d12_55 : decode jdk_92_method_26_code 55 = .ok (.iload_n 1, 1) := by decide +kernel
theorem d12_56 : decode jdk_92_method_26_code 56 = .ok (.lshl, 1) := by decide +kernel
theorem d12_57 : decode jdk_92_method_26_code 57 = .ok (.land, 1) := by decide +kernel
theorem d12_58 : decode jdk_92_method_26_code 58 = .ok (.lconst 0, 1) := by decide +kernel
theorem d12_59 : decode jdk_92_method_26_code 59 = .ok (.lcmp, 1) := by decide +kernel
theorem d12_60 : decode jdk_92_method_26_code 60 = .ok (.ifCond .eq 7, 3) := by decide +kernel
theorem d12_63 : decode jdk_92_method_26_code 63 = .ok (.iconst 1, 1) := by decide +kernel
theorem d12_64 : decode jdk_92_method_26_code 64 = .ok (.goto 4, 3) := by decide +kernel
def Q16 (Z : State) (a1101 : Addr) (a1105 : Addr) (k1117 : ClassId) (j1114 : Int64) (j1115 : Int64) (j1116 : Int64) (h0 : Heap) (n0 : Nat) (v : Option Value) (h : Heap) (L : List Loc) : Prop := v = some (.int (1 : Int32)) ∧ Fr n0 L ∧ h = h0
set_option maxRecDepth 65536 in
set_option maxHeartbeats 40000000 in
theorem rm16 (l : Launch) (Z : State) (a0 : Array Value) (hw : ∀ d ∈ tables_1, d.before a0 Z = true) (ws : List Jvm.Cond) (a1101 : Addr) (a1105 : Addr) (k1117 : ClassId) (j1114 : Int64) (j1115 : Int64) (j1116 : Int64) (h0 : Heap) (n0 : Nat) (O0 : Old Z n0 h0) (S_BitSet__assertionsDisabled : Sta Z Z.heap zs2 zs6 "Z" (.int (1 : Int32))) (pE_a1101 : Exa Z h0 a1101 zs2) (pF_a1101_wordsInUse : Fld Z h0 a1101 zs2 "wordsInUse" "I" (.int (4 : Int32))) (pF_a1101_words : Fld Z h0 a1101 zs2 "words" "[J" (.ref a1105)) (pV_a1105 : Arv Z h0 a1105 k1117 .long (4 : Int32) [(.long j1114), (.long j1115), (.long j1116), (.long (512 : Int64))] (.long (0 : Int64))) :
    MetFree l (⟨zs2, "get", "(I)Z"⟩ : MethodName) (head1 (Jvm.Cond.code (⟨zs2, "get", "(I)Z"⟩ : MethodName) jdk_92_method_26_code 3 (some .boolean) :: ws) ({ frames := 1, cells := 0, slots := 0, locals := 12 } : Room)) (fun a U => a = #[(.ref a1101), (.int (201 : Int32))] ∧ Z.Warmed39 U.vm ∧ U.heap = h0) (fun _ _ _ _ _ => True) (fun _ U o U' => ∃ v L, o = .returned v ∧ Q16 Z a1101 a1105 k1117 j1114 j1115 j1116 h0 n0 v U'.heap L ∧ FrameEnd U o U' L ({ frames := 1, cells := 0, slots := 0, locals := 12 } : Room).cells ({ frames := 1, cells := 0, slots := 0, locals := 12 } : Room).slots) := by
  refine MetFree.of_bodySF (plainFor_of_name pn_1) hisR ?_
  intro p e s m args below meth c s₁ Bd hml0 hP hK
  obtain ⟨rfl, hZ, hh⟩ := hP
  have hx := Bd.exec
  have hby := Bd.bytes
  have hml : c.maxLocals = 3 := hml0
  have hown : s.vm.findClass zs2 = some m.cls := findClass_of_methodNamed Bd.named
  have hnm := (name_of_methodNamed Bd.named Bd.method).1
  have X0 : Stand p l e ({ frames := 1, cells := 0, slots := 0, locals := 12 } : Room) s m #[(.ref a1101), (.int (201 : Int32))] below meth c s₁ [] 0 0 := Stand.of_body Bd
  have e0 : s₁.heap = h0 := by rw [← hh, Bd.state]; rfl
  have N0 := Fr.nil n0
  refine own_out ?_
  refine own_via (fun t k => castTop (ef_8 m a1101 (201 : Int32)) (XS.iloadN X0.here hx rfl (hb hby d12_0) rfl (XS.ifYes X0.here hx rfl (pc0 := 1) (pc' := 31) rfl (hb hby d12_1) rfl ((if0 _ _).trans (flt (by decide : ¬ ((201 : Int32) < (0 : Int32)))).2.1) (by decide) (by decide) (XS.aloadN X0.here hx rfl (hb hby d12_31) rfl rfl k)))) ?_
  show own_Goes p e below (s₁.setTop (mkF m 32 #[rv a1101, iv (201 : Int32), .unset] [(.ref a1101)])) _
  obtain ⟨cq1129, q1129, q1129'⟩ := pE_a1101.cell
  obtain ⟨_, _, ⟨T1129, L1129, c1129, n1129⟩, -, X1129, ⟨Lc1129, hQ1129, l1129, y1129, z1129⟩, st1129⟩ := X0.privateBack hx (y := (⟨zs2, zs7, "()V"⟩ : MethodName)) hown (mvT hZ (wd hw 73 rfl)) (mvT hZ (wd hw 74 rfl)) (mvT hZ (wd hw 76 rfl)) (Cond.privateMethod_at (mvP hZ (wd hw 75 rfl) (args := #[]))) (mvT hZ (wd hw 77 rfl)) (by decide) (backOf (W := 0) (rm7 l Z a0 hw [] a1101 h0 n0 O0 S_BitSet__assertionsDisabled) hZ (wd hw 77 rfl) (wd hw 11 rfl) (by decide) (by decide)) (g := (mkF m 32 #[rv a1101, iv (201 : Int32), .unset] [(.ref a1101)])) rfl (by rw [hml]; rfl) (Steps.refl _) (a := a1101) (by rw [e0]; exact q1129) q1129' (argsL := []) (rest := []) (lenOf pd_3 rfl) rfl (by show 2 * 0 + _ ≤ _; exact Nat.le_of_eq rfl) (hb hby d12_32) (fun _ _ => ⟨rfl, e0, (by decide : 0 + 0 ≤ _), (by decide : 0 + 0 ≤ _)⟩)
  dsimp only [Pt.U, Pt.locs, Pt.cells, Pt.slots] at X1129 l1129 y1129 z1129 st1129 hQ1129
  subst l1129 y1129 z1129
  obtain ⟨rfl, Nq1129, hh1130⟩ := hQ1129
  have N1129 := Fr.app N0 Nq1129
  refine own_via (fun t k => st1129.trans (XS.iloadN X1129.here hx rfl (hb hby d12_35) rfl k)) ?_
  obtain ⟨_, T1131, _, X1131, hQ1131, st1131⟩ := own_cs X1129 hx hZ hown (wd hw 25 rfl) (wd hw 26 rfl) (wd hw 27 rfl) (wd hw 11 rfl) (by decide) (rm8 l Z a0 hw []  h0 n0 O0 ) hh1130 (g := (mkF m 36 #[rv a1101, iv (201 : Int32), .unset] [(.int (201 : Int32))])) rfl (by rw [hml]; rfl) (rest := []) (W := 0) (lenOf pd_1 rfl) rfl (by show 2 * 0 + _ ≤ _; exact Nat.le_of_eq rfl) (hb hby d12_36) (by decide) (by decide) (by decide) (by decide)
  obtain ⟨rfl, Nq1131, hh1132⟩ := hQ1131
  have N1131 := Fr.app N1129 Nq1131
  refine own_via (fun t k => st1131 t (XS.istoreN X1131.here hx rfl (hb hby d12_39) rfl (l' := #[rv a1101, iv (201 : Int32), iv (3 : Int32)]) rfl (XS.iloadN X1131.here hx rfl (hb hby d12_40) rfl (XS.aloadN X1131.here hx rfl (hb hby d12_41) rfl rfl k)))) ?_
  show own_Goes p e below (T1131.setTop (mkF m 42 #[rv a1101, iv (201 : Int32), iv (3 : Int32)] [(.ref a1101), (.int (3 : Int32))])) _
  obtain ⟨T1133, X1133, e1133, st1133⟩ := getF X1131 hx hZ hown (host := "") (Or.inl (wd hw 16 rfl)) Via.refl hh1132 pF_a1101_wordsInUse (g := (mkF m 42 #[rv a1101, iv (201 : Int32), iv (3 : Int32)] [(.ref a1101), (.int (3 : Int32))])) rfl rfl (hb hby d12_42)
  refine own_via (fun t k => st1133 t (XS.icmpNo X1133.here hx rfl (hb hby d12_45) rfl (tlt (by decide : (3 : Int32) < (4 : Int32))).2.1 (XS.aloadN X1133.here hx rfl (hb hby d12_48) rfl rfl k))) ?_
  show own_Goes p e below (T1133.setTop (mkF m 49 #[rv a1101, iv (201 : Int32), iv (3 : Int32)] [(.ref a1101)])) _
  obtain ⟨T1134, X1134, e1134, st1134⟩ := getF X1133 hx hZ hown (host := "") (Or.inl (wd hw 29 rfl)) Via.refl e1133 pF_a1101_words (g := (mkF m 49 #[rv a1101, iv (201 : Int32), iv (3 : Int32)] [(.ref a1101)])) rfl rfl (hb hby d12_49)
  refine own_via (fun t k => st1134 t (XS.iloadN X1134.here hx rfl (hb hby d12_52) rfl k)) ?_
  obtain ⟨cl1135, Ar1135, qq1135, S1135, M1135, H1135, G1135⟩ := id (pV_a1105)
  have hin1135 : ¬ ((3 : Int32) < 0 ∨ cl1135.slots.size ≤ ((3 : Int32)).toNatClampNeg) := inb_of S1135 ⟨by decide, by decide⟩
  refine own_via (fun t k => X1134.laload hx (j := (3 : Int32)) (v := (.long (512 : Int64))) (by rw [e1134]; exact Ar1135.1) (State.isArrayOf_alike hZ.alike Ar1135.2.1) Ar1135.2.2 hin1135 (Has.at H1135 hin1135 rfl) (g := (mkF m 53 #[rv a1101, iv (201 : Int32), iv (3 : Int32)] [(.int (3 : Int32)), (.ref a1105)])) rfl rfl (hb hby d12_53) t (XS.lconst X1134.here hx rfl (hb hby d12_54) (XS.iloadN X1134.here hx rfl (hb hby d12_55) rfl (XS.lshl X1134.here hx rfl (hb hby d12_56) rfl (XS.land X1134.here hx rfl (hb hby d12_57) rfl (XS.lconst X1134.here hx rfl (hb hby d12_58) (XS.lcmp X1134.here hx rfl (hb hby d12_59) rfl (XS.ifNo X1134.here hx rfl (hb hby d12_60) rfl ((if0 _ _).trans (feq (by decide : ¬ ((1 : Int32) = (0 : Int32)))).1) (XS.iconst X1134.here hx rfl (hb hby d12_63) (XS.goto X1134.here hx rfl (pc0 := 64) (pc' := 68) rfl (hb hby d12_64) (by decide) (by decide) k)))))))))) ?_
  show own_Goes p e below (T1134.setTop (mkF m 68 #[rv a1101, iv (201 : Int32), iv (3 : Int32)] [(.int (1 : Int32))])) _
  obtain ⟨fs, hr, hrun, hended, hW, hsame⟩ := X1134.leave (v := some (.int (1 : Int32))) (fun h => by rw [Bd.returns] at h; cases h)
  refine own_end (t := T1134.setFrames fs) ?_ ⟨_, hrun, hended, _, _, rfl, ?_, ⟨_, rfl⟩, hW, hsame.mono (by decide) (by decide)⟩
  · exact retN X1134 hx (t := .boolean) Bd.returns (by simp) (hb hby d12_68) hr
  · show Q16 Z a1101 a1105 k1117 j1114 j1115 j1116 h0 n0 _ T1134.heap _
    rw [e1134]
    exact ⟨rfl, N1131, rfl⟩
def Q17 (Z : State) (a1071 : Addr) (a1074 : Addr) (a1075 : Addr) (k1085 : ClassId) (j1082 : Int64) (j1083 : Int64) (j1084 : Int64) (w6 : Addr) (h0 : Heap) (n0 : Nat) (v : Option Value) (h : Heap) (L : List Loc) : Prop := v = some (.ref w6) ∧ Fr n0 L ∧ h = h0
set_option maxRecDepth 65536 in
set_option maxHeartbeats 40000000 in
theorem rm17 (l : Launch) (Z : State) (a0 : Array Value) (hw : ∀ d ∈ tables_1, d.before a0 Z = true) (ws : List Jvm.Cond) (a1071 : Addr) (a1074 : Addr) (a1075 : Addr) (k1085 : ClassId) (j1082 : Int64) (j1083 : Int64) (j1084 : Int64) (w6 : Addr) (h0 : Heap) (n0 : Nat) (O0 : Old Z n0 h0) (pF_a1071_gmcpOffered : Fld Z h0 a1071 zs1 "gmcpOffered" "Z" (.int (0 : Int32))) (pF_a1071_gmcpOn : Fld Z h0 a1071 zs1 "gmcpOn" "Z" (.int (0 : Int32))) (pF_a1071_refusedDo : Fld Z h0 a1071 zs1 "refusedDo" zs3 (.ref a1074)) (S_BitSet__assertionsDisabled : Sta Z Z.heap zs2 zs6 "Z" (.int (1 : Int32))) (pE_a1074 : Exa Z h0 a1074 zs2) (pF_a1074_wordsInUse : Fld Z h0 a1074 zs2 "wordsInUse" "I" (.int (4 : Int32))) (pF_a1074_words : Fld Z h0 a1074 zs2 "words" "[J" (.ref a1075)) (pV_a1075 : Arv Z h0 a1075 k1085 .long (4 : Int32) [(.long j1082), (.long j1083), (.long j1084), (.long (512 : Int64))] (.long (0 : Int64))) (S_TelnetOptions_NO_ANSWER : Sta Z Z.heap zs1 "NO_ANSWER" "[B" (.ref w6)) :
    MetFree l (⟨zs1, "answer", "(II)[B"⟩ : MethodName) (head1 (Jvm.Cond.code (⟨zs1, "answer", "(II)[B"⟩ : MethodName) prog_61_method_2_code 4 (some (.array .byte)) :: ws) ({ frames := 2, cells := 0, slots := 0, locals := 26 } : Room)) (fun a U => a = #[(.ref a1071), (.int (253 : Int32)), (.int (201 : Int32))] ∧ Z.Warmed39 U.vm ∧ U.heap = h0) (fun _ _ _ _ _ => True) (fun _ U o U' => ∃ v L, o = .returned v ∧ Q17 Z a1071 a1074 a1075 k1085 j1082 j1083 j1084 w6 h0 n0 v U'.heap L ∧ FrameEnd U o U' L ({ frames := 2, cells := 0, slots := 0, locals := 26 } : Room).cells ({ frames := 2, cells := 0, slots := 0, locals := 26 } : Room).slots) := by
  refine MetFree.of_bodySF (plainFor_of_name pn_2) hisR ?_
  intro p e s m args below meth c s₁ Bd hml0 hP hK
  obtain ⟨rfl, hZ, hh⟩ := hP
  have hx := Bd.exec
  have hby := Bd.bytes
  have hml : c.maxLocals = 4 := hml0
  have hown : s.vm.findClass zs1 = some m.cls := findClass_of_methodNamed Bd.named
  have hnm := (name_of_methodNamed Bd.named Bd.method).1
  have X0 : Stand p l e ({ frames := 2, cells := 0, slots := 0, locals := 26 } : Room) s m #[(.ref a1071), (.int (253 : Int32)), (.int (201 : Int32))] below meth c s₁ [] 0 0 := Stand.of_body Bd
  have e0 : s₁.heap = h0 := by rw [← hh, Bd.state]; rfl
  have N0 := Fr.nil n0
  refine own_out ?_
  refine own_via (fun t k => castTop (ef_6 m a1071 (253 : Int32) (201 : Int32)) (XS.iloadN X0.here hx rfl (hb hby d7_0) rfl (XS.sipush X0.here hx rfl (hb hby d7_1) (XS.icmpNo X0.here hx rfl (hb hby d7_4) rfl (teq (by decide : (253 : Int32) = (253 : Int32))).2 (XS.iloadN X0.here hx rfl (hb hby d7_7) rfl (XS.iconst X0.here hx rfl (hb hby d7_8) (XS.icmpYes X0.here hx rfl (pc0 := 9) (pc' := 23) rfl (hb hby d7_9) rfl (feq (by decide : ¬ ((201 : Int32) = (1 : Int32)))).2 (by decide) (by decide) (XS.iloadN X0.here hx rfl (hb hby d7_23) rfl (XS.sipush X0.here hx rfl (hb hby d7_24) (XS.icmpNo X0.here hx rfl (hb hby d7_27) rfl (teq (by decide : (201 : Int32) = (201 : Int32))).2 (XS.iloadN X0.here hx rfl (hb hby d7_30) rfl (XS.sipush X0.here hx rfl (hb hby d7_31) k)))))))))))) ?_
  show own_Goes p e below (s₁.setTop (mkF m 34 #[rv a1071, iv (253 : Int32), iv (201 : Int32), .unset] [(.int (253 : Int32)), (.int (253 : Int32))])) _
  refine own_via (fun t k => XS.icmpYes X0.here hx rfl (pc0 := 34) (pc' := 44) rfl (hb hby d7_34) rfl (teq (by decide : (253 : Int32) = (253 : Int32))).1 (by decide) (by decide) (XS.aloadN X0.here hx rfl (hb hby d7_44) rfl rfl k)) ?_
  obtain ⟨T1097, X1097, e1097, st1097⟩ := getF X0 hx hZ hown (host := "") (Or.inl (wd hw 47 rfl)) Via.refl e0 pF_a1071_gmcpOffered (g := (mkF m 45 #[rv a1071, iv (253 : Int32), iv (201 : Int32), .unset] [(.ref a1071)])) rfl rfl (hb hby d7_45)
  refine own_via (fun t k => st1097 t (XS.ifNo X1097.here hx rfl (hb hby d7_48) rfl ((if0 _ _).trans (teq (by decide : (0 : Int32) = (0 : Int32))).2) (XS.aloadN X1097.here hx rfl (hb hby d7_51) rfl rfl k))) ?_
  show own_Goes p e below (T1097.setTop (mkF m 52 #[rv a1071, iv (253 : Int32), iv (201 : Int32), .unset] [(.ref a1071)])) _
  obtain ⟨T1098, X1098, e1098, st1098⟩ := getF X1097 hx hZ hown (host := "") (Or.inl (wd hw 40 rfl)) Via.refl e1097 pF_a1071_gmcpOn (g := (mkF m 52 #[rv a1071, iv (253 : Int32), iv (201 : Int32), .unset] [(.ref a1071)])) rfl rfl (hb hby d7_52)
  refine own_via (fun t k => st1098 t (XS.ifYes X1098.here hx rfl (pc0 := 55) (pc' := 75) rfl (hb hby d7_55) rfl ((if0 _ _).trans (teq (by decide : (0 : Int32) = (0 : Int32))).1) (by decide) (by decide) (XS.iloadN X1098.here hx rfl (hb hby d7_75) rfl (XS.sipush X1098.here hx rfl (hb hby d7_76) (XS.icmpYes X1098.here hx rfl (pc0 := 79) (pc' := 108) rfl (hb hby d7_79) rfl (feq (by decide : ¬ ((253 : Int32) = (251 : Int32)))).2 (by decide) (by decide) (XS.iloadN X1098.here hx rfl (hb hby d7_108) rfl (XS.sipush X1098.here hx rfl (hb hby d7_109) (XS.icmpNo X1098.here hx rfl (hb hby d7_112) rfl (teq (by decide : (253 : Int32) = (253 : Int32))).2 (XS.aloadN X1098.here hx rfl (hb hby d7_115) rfl rfl k))))))))) ?_
  show own_Goes p e below (T1098.setTop (mkF m 116 #[rv a1071, iv (253 : Int32), iv (201 : Int32), .unset] [(.ref a1071)])) _
  obtain ⟨T1099, X1099, e1099, st1099⟩ := getF X1098 hx hZ hown (host := "") (Or.inl (wd hw 33 rfl)) Via.refl e1098 pF_a1071_refusedDo (g := (mkF m 116 #[rv a1071, iv (253 : Int32), iv (201 : Int32), .unset] [(.ref a1071)])) rfl rfl (hb hby d7_116)
  refine own_via (fun t k => st1099 t (XS.iloadN X1099.here hx rfl (hb hby d7_119) rfl k)) ?_
  obtain ⟨_, T1100, _, X1100, hQ1100, st1100⟩ := own_cv X1099 hx hZ hown (wd hw 68 rfl) (wd hw 69 rfl) (wd hw 71 rfl) (wd hw 70 rfl) (wd hw 72 rfl) (wd hw 11 rfl) (by decide) (rm16 l Z a0 hw [] a1074 a1075 k1085 j1082 j1083 j1084 h0 n0 O0 S_BitSet__assertionsDisabled pE_a1074 pF_a1074_wordsInUse pF_a1074_words pV_a1075) e1099 pE_a1074 (g := (mkF m 120 #[rv a1071, iv (253 : Int32), iv (201 : Int32), .unset] [(.int (201 : Int32)), (.ref a1074)])) rfl (by rw [hml]; rfl) (rest := []) (W := 0) (lenOf pd_6 rfl) rfl (by show 2 * 0 + _ ≤ _; exact Nat.le_of_eq rfl) (hb hby d7_120) (by decide) (by decide) (by decide) (by decide)
  obtain ⟨rfl, Nq1100, hh1136⟩ := hQ1100
  have N1100 := Fr.app N0 Nq1100
  refine own_via (fun t k => st1100 t (XS.ifYes X1100.here hx rfl (pc0 := 123) (pc' := 141) rfl (hb hby d7_123) rfl ((if0 _ _).trans (feq (by decide : ¬ ((1 : Int32) = (0 : Int32)))).2) (by decide) (by decide) k)) ?_
  obtain ⟨T1137, X1137, e1137, st1137⟩ := getS2 X1100 hx hZ hown (host := "") (Or.inl (wd hw 49 rfl)) Via.refl hh1136 (S_TelnetOptions_NO_ANSWER.ext O0.2) (g := (mkF m 141 #[rv a1071, iv (253 : Int32), iv (201 : Int32), .unset] [])) rfl (hb hby d7_141)
  refine own_via (fun t k => st1137 t k) ?_
  obtain ⟨fs, hr, hrun, hended, hW, hsame⟩ := X1137.leave (v := some (.ref w6)) (fun h => by rw [Bd.returns] at h; cases h)
  refine own_end (t := T1137.setFrames fs) ?_ ⟨_, hrun, hended, _, _, rfl, ?_, ⟨_, rfl⟩, hW, hsame.mono (by decide) (by decide)⟩
  · jvm_step X1137.here [X1137.here.top, hx, (hb hby d7_144), X1137.method', Bd.returns, Value.isRef, FieldType.isReference]
    first | (intro acts; rw [hr _ acts rfl rfl rfl]) | rw [hr _ _ rfl rfl rfl]
    exact Steps.refl _
  · show Q17 Z a1071 a1074 a1075 k1085 j1082 j1083 j1084 w6 h0 n0 _ T1137.heap _
    rw [e1137]
    exact ⟨rfl, N1100, rfl⟩
theorem d8_0 : decode prog_61_method_3_code 0 = .ok (.aload_n 0, 1) := by decide +kernel
theorem d8_1 : decode prog_61_method_3_code 1 = .ok (.iconst 1, 1) := by decide +kernel
theorem d8_2 : decode prog_61_method_3_code 2 = .ok (.putfield 29, 3) := by decide +kernel
theorem d8_5 : decode prog_61_method_3_code 5 = .ok (.sipush 251, 3) := by decide +kernel
theorem d8_8 : decode prog_61_method_3_code 8 = .ok (.sipush 201, 3) := by decide +kernel
theorem d8_11 : decode prog_61_method_3_code 11 = .ok (.invokestatic 46, 3) := by decide +kernel
def Q18 (Z : State)  (h0 : Heap) (n0 : Nat) (v : Option Value) (h : Heap) (L : List Loc) : Prop := (∃ (b1342 : Addr) (k1341 : ClassId), v = some (.ref b1342) ∧ Fr n0 L ∧ Keep h0 h [] ∧ h0.size ≤ b1342 ∧ Arv Z h b1342 k1341 .byte (3 : Int32) [(.int (-1 : Int32)), (.int (-5 : Int32)), (.int (-55 : Int32))] (.int (0 : Int32)))
set_option maxRecDepth 65536 in
set_option maxHeartbeats 40000000 in
theorem rm18 (l : Launch) (Z : State) (a0 : Array Value) (hw : ∀ d ∈ tables_1, d.before a0 Z = true) (ws : List Jvm.Cond)  (h0 : Heap) (n0 : Nat) (O0 : Old Z n0 h0) :
    MetFree l (⟨zs1, "command", "(II)[B"⟩ : MethodName) (head1 (Jvm.Cond.code (⟨zs1, "command", "(II)[B"⟩ : MethodName) prog_61_method_8_code 2 (some (.array .byte)) :: ws) ({ frames := 0, cells := 1, slots := 3, locals := 0 } : Room)) (fun a U => a = #[(.int (251 : Int32)), (.int (201 : Int32))] ∧ Z.Warmed39 U.vm ∧ U.heap = h0) (fun _ _ _ _ _ => True) (fun _ U o U' => ∃ v L, o = .returned v ∧ Q18 Z  h0 n0 v U'.heap L ∧ FrameEnd U o U' L ({ frames := 0, cells := 1, slots := 3, locals := 0 } : Room).cells ({ frames := 0, cells := 1, slots := 3, locals := 0 } : Room).slots) := by
  refine MetFree.of_bodySF (plainFor_of_name pn_2) hisR ?_
  intro p e s m args below meth c s₁ Bd hml0 hP hK
  obtain ⟨rfl, hZ, hh⟩ := hP
  have hx := Bd.exec
  have hby := Bd.bytes
  have hml : c.maxLocals = 2 := hml0
  have hown : s.vm.findClass zs1 = some m.cls := findClass_of_methodNamed Bd.named
  have hnm := (name_of_methodNamed Bd.named Bd.method).1
  have X0 : Stand p l e ({ frames := 0, cells := 1, slots := 3, locals := 0 } : Room) s m #[(.int (251 : Int32)), (.int (201 : Int32))] below meth c s₁ [] 0 0 := Stand.of_body Bd
  have e0 : s₁.heap = h0 := by rw [← hh, Bd.state]; rfl
  have N0 := Fr.nil n0
  refine own_out ?_
  refine own_via (fun t k => castTop (ef_12 m (251 : Int32) (201 : Int32)) (XS.iconst X0.here hx rfl (hb hby d9_0) k)) ?_
  obtain ⟨T1341, h1341, k1341, X1341, e1341, E1341, A1341, st1341⟩ := newP X0 hx hZ (wd hw 59 rfl) e0 (g := (mkF m 1 #[iv (251 : Int32), iv (201 : Int32)] [(.int (3 : Int32))])) rfl (hb hby d9_1) rfl (by decide) (cap := 3) (by decide) (by decide) (by decide) (by decide)
  obtain ⟨b1342, q1341⟩ : ∃ z, z = h0.size := ⟨_, rfl⟩
  rw [← q1341] at A1341 st1341
  refine own_via (fun t k => st1341 t k) ?_
  have g1343 : n0 ≤ b1342 := Nat.le_trans (own_old O0) (Nat.le_of_eq q1341.symm)
  have B1344 : h0.size ≤ b1342 := Nat.le_trans (Nat.le_refl _) (Nat.le_of_eq q1341.symm)
  have V1345 : Arv Z h1341 b1342 k1341 .byte (3 : Int32) [] (.int (0 : Int32)) := Arv.new A1341 (by decide)
  show own_Goes p e below (T1341.setTop (mkF m 3 #[iv (251 : Int32), iv (201 : Int32)] [(.ref b1342)])) _
  refine own_via (fun t k => XS.dup X1341.here hx rfl (hb hby d9_3) rfl rfl (XS.iconst X1341.here hx rfl (hb hby d9_4) (XS.iconst X1341.here hx rfl (hb hby d9_5) k))) ?_
  show own_Goes p e below (T1341.setTop (mkF m 6 #[iv (251 : Int32), iv (201 : Int32)] [(.int (-1 : Int32)), (.int (0 : Int32)), (.ref b1342), (.ref b1342)])) _
  have V1346 : Arv Z h1341 b1342 k1341 .byte (3 : Int32) [(.int (0 : Int32))] (.int (0 : Int32)) := V1345.pad (pad_rep [] (.int (0 : Int32)) 1)
  obtain ⟨cl1347, Ar1347, qq1347, S1347, M1347, H1347, G1347⟩ := id (V1346)
  have hin1347 : ¬ ((0 : Int32) < 0 ∨ cl1347.slots.size ≤ ((0 : Int32)).toNatClampNeg) := inb_of S1347 ⟨by decide, by decide⟩
  obtain ⟨T1347, h1347, X1347, e1347, W1347, st1347⟩ := stB X1341 hx hZ e1341 Ar1347 (j := (0 : Int32)) hin1347 (g := (mkF m 6 #[iv (251 : Int32), iv (201 : Int32)] [(.int (-1 : Int32)), (.int (0 : Int32)), (.ref b1342), (.ref b1342)])) rfl rfl (hb hby d9_6)
  refine own_via (fun t k => st1347 t k) ?_
  have V1348 : Arv Z h1347 b1342 k1341 .byte (3 : Int32) [(.int (-1 : Int32))] (.int (0 : Int32)) := Arv.set Ar1347 qq1347 S1347 M1347 H1347 G1347 (by decide) W1347 0 rfl (Nat.le_of_ble_eq_true rfl)
  have N1347 := Fr.snoc X1347 N0 g1343
  show own_Goes p e below (T1347.setTop (mkF m 7 #[iv (251 : Int32), iv (201 : Int32)] [(.ref b1342)])) _
  refine own_via (fun t k => XS.dup X1347.here hx rfl (hb hby d9_7) rfl rfl (XS.iconst X1347.here hx rfl (hb hby d9_8) (XS.iloadN X1347.here hx rfl (hb hby d9_9) rfl (XS.i2b X1347.here hx rfl (hb hby d9_10) rfl k)))) ?_
  show own_Goes p e below (T1347.setTop (mkF m 11 #[iv (251 : Int32), iv (201 : Int32)] [(.int (-5 : Int32)), (.int (1 : Int32)), (.ref b1342), (.ref b1342)])) _
  have V1349 : Arv Z h1347 b1342 k1341 .byte (3 : Int32) [(.int (-1 : Int32)), (.int (0 : Int32))] (.int (0 : Int32)) := V1348.pad (pad_rep [(.int (-1 : Int32))] (.int (0 : Int32)) 1)
  obtain ⟨cl1350, Ar1350, qq1350, S1350, M1350, H1350, G1350⟩ := id (V1349)
  have hin1350 : ¬ ((1 : Int32) < 0 ∨ cl1350.slots.size ≤ ((1 : Int32)).toNatClampNeg) := inb_of S1350 ⟨by decide, by decide⟩
  obtain ⟨T1350, h1350, X1350, e1350, W1350, st1350⟩ := stB X1347 hx hZ e1347 Ar1350 (j := (1 : Int32)) hin1350 (g := (mkF m 11 #[iv (251 : Int32), iv (201 : Int32)] [(.int (-5 : Int32)), (.int (1 : Int32)), (.ref b1342), (.ref b1342)])) rfl rfl (hb hby d9_11)
  refine own_via (fun t k => st1350 t k) ?_
  have V1351 : Arv Z h1350 b1342 k1341 .byte (3 : Int32) [(.int (-1 : Int32)), (.int (-5 : Int32))] (.int (0 : Int32)) := Arv.set Ar1350 qq1350 S1350 M1350 H1350 G1350 (by decide) W1350 1 rfl (Nat.le_of_ble_eq_true rfl)
  have N1350 := Fr.snoc X1350 N1347 g1343
  show own_Goes p e below (T1350.setTop (mkF m 12 #[iv (251 : Int32), iv (201 : Int32)] [(.ref b1342)])) _
  refine own_via (fun t k => XS.dup X1350.here hx rfl (hb hby d9_12) rfl rfl (XS.iconst X1350.here hx rfl (hb hby d9_13) (XS.iloadN X1350.here hx rfl (hb hby d9_14) rfl (XS.i2b X1350.here hx rfl (hb hby d9_15) rfl k)))) ?_
  show own_Goes p e below (T1350.setTop (mkF m 16 #[iv (251 : Int32), iv (201 : Int32)] [(.int (-55 : Int32)), (.int (2 : Int32)), (.ref b1342), (.ref b1342)])) _
  have V1352 : Arv Z h1350 b1342 k1341 .byte (3 : Int32) [(.int (-1 : Int32)), (.int (-5 : Int32)), (.int (0 : Int32))] (.int (0 : Int32)) := V1351.pad (pad_rep [(.int (-1 : Int32)), (.int (-5 : Int32))] (.int (0 : Int32)) 1)
  obtain ⟨cl1353, Ar1353, qq1353, S1353, M1353, H1353, G1353⟩ := id (V1352)
  have hin1353 : ¬ ((2 : Int32) < 0 ∨ cl1353.slots.size ≤ ((2 : Int32)).toNatClampNeg) := inb_of S1353 ⟨by decide, by decide⟩
  obtain ⟨T1353, h1353, X1353, e1353, W1353, st1353⟩ := stB X1350 hx hZ e1350 Ar1353 (j := (2 : Int32)) hin1353 (g := (mkF m 16 #[iv (251 : Int32), iv (201 : Int32)] [(.int (-55 : Int32)), (.int (2 : Int32)), (.ref b1342), (.ref b1342)])) rfl rfl (hb hby d9_16)
  refine own_via (fun t k => st1353 t k) ?_
  have V1354 : Arv Z h1353 b1342 k1341 .byte (3 : Int32) [(.int (-1 : Int32)), (.int (-5 : Int32)), (.int (-55 : Int32))] (.int (0 : Int32)) := Arv.set Ar1353 qq1353 S1353 M1353 H1353 G1353 (by decide) W1353 2 rfl (Nat.le_of_ble_eq_true rfl)
  have N1353 := Fr.snoc X1353 N1350 g1343
  show own_Goes p e below (T1353.setTop (mkF m 17 #[iv (251 : Int32), iv (201 : Int32)] [(.ref b1342)])) _
  obtain ⟨fs, hr, hrun, hended, hW, hsame⟩ := X1353.leave (v := some (.ref b1342)) (fun h => by rw [Bd.returns] at h; cases h)
  refine own_end (t := T1353.setFrames fs) ?_ ⟨_, hrun, hended, _, _, rfl, ?_, ⟨_, rfl⟩, hW, hsame.mono (by decide) (by decide)⟩
  · jvm_step X1353.here [X1353.here.top, hx, (hb hby d9_17), X1353.method', Bd.returns, Value.isRef, FieldType.isReference]
    first | (intro acts; rw [hr _ acts rfl rfl rfl]) | rw [hr _ _ rfl rfl rfl]
    exact Steps.refl _
  · show Q18 Z  h0 n0 _ T1353.heap _
    rw [e1353]
    exact ⟨b1342, k1341, rfl, N1353, (((((Keep.refl h0 []).ext E1341).wr W1347 (Or.inr B1344)).wr W1350 (Or.inr B1344)).wr W1353 (Or.inr B1344)), B1344, V1354⟩
theorem d8_14 : decode prog_61_method_3_code 14 = .ok (.areturn, 1) := by decide +kernel
theorem ef_14 (m : MethodId) (x0 : Addr) : entryFrame m #[(.ref x0)] 1 = mkF m 0 #[rv x0] [] := by first | (simp [entryFrame, mkF, argsToLocals, Value.category]; done) | rfl
def Q19 (Z : State) (a1297 : Addr) (p1303 : Int32) (a1298 : Addr) (a1300 : Addr) (p1302 : Int32) (p1304 : Int32) (h0 : Heap) (n0 : Nat) (v : Option Value) (h : Heap) (L : List Loc) : Prop := (∃ (b1356 : Addr) (k1357 : ClassId), v = some (.ref b1356) ∧ Fr n0 L ∧ Keep h0 h [a1297] ∧ Exa Z h a1297 zs1 ∧ Fld Z h a1297 zs1 "refusedWill" zs3 (.ref a1298) ∧ Fld Z h a1297 zs1 "refusedDo" zs3 (.ref a1300) ∧ Fld Z h a1297 zs1 "gmcpOn" "Z" (.int p1302) ∧ Fld Z h a1297 zs1 "gmcpOffered" "Z" (.int (1 : Int32)) ∧ Fld Z h a1297 zs1 "echoOffered" "Z" (.int p1304) ∧ h0.size ≤ b1356 ∧ Arv Z h b1356 k1357 .byte (3 : Int32) [(.int (-1 : Int32)), (.int (-5 : Int32)), (.int (-55 : Int32))] (.int (0 : Int32)))
set_option maxRecDepth 65536 in
set_option maxHeartbeats 40000000 in
theorem rm19 (l : Launch) (Z : State) (a0 : Array Value) (hw : ∀ d ∈ tables_1, d.before a0 Z = true) (ws : List Jvm.Cond) (a1297 : Addr) (p1303 : Int32) (a1298 : Addr) (a1300 : Addr) (p1302 : Int32) (p1304 : Int32) (h0 : Heap) (n0 : Nat) (O0 : Old Z n0 h0) (pF_a1297_gmcpOffered : Fld Z h0 a1297 zs1 "gmcpOffered" "Z" (.int p1303)) (pE_a1297 : Exa Z h0 a1297 zs1) (pG_a1297 : n0 ≤ a1297) (pF_a1297_refusedWill : Fld Z h0 a1297 zs1 "refusedWill" zs3 (.ref a1298)) (pF_a1297_refusedDo : Fld Z h0 a1297 zs1 "refusedDo" zs3 (.ref a1300)) (pF_a1297_gmcpOn : Fld Z h0 a1297 zs1 "gmcpOn" "Z" (.int p1302)) (pF_a1297_echoOffered : Fld Z h0 a1297 zs1 "echoOffered" "Z" (.int p1304)) :
    MetFree l (⟨zs1, "offerGmcp", "()[B"⟩ : MethodName) (head1 (Jvm.Cond.code (⟨zs1, "offerGmcp", "()[B"⟩ : MethodName) prog_61_method_3_code 1 (some (.array .byte)) :: ws) ({ frames := 1, cells := 1, slots := 3, locals := 13 } : Room)) (fun a U => a = #[(.ref a1297)] ∧ Z.Warmed39 U.vm ∧ U.heap = h0) (fun _ _ _ _ _ => True) (fun _ U o U' => ∃ v L, o = .returned v ∧ Q19 Z a1297 p1303 a1298 a1300 p1302 p1304 h0 n0 v U'.heap L ∧ FrameEnd U o U' L ({ frames := 1, cells := 1, slots := 3, locals := 13 } : Room).cells ({ frames := 1, cells := 1, slots := 3, locals := 13 } : Room).slots) := by
  refine MetFree.of_bodySF (plainFor_of_name pn_2) hisR ?_
  intro p e s m args below meth c s₁ Bd hml0 hP hK
  obtain ⟨rfl, hZ, hh⟩ := hP
  have hx := Bd.exec
  have hby := Bd.bytes
  have hml : c.maxLocals = 1 := hml0
  have hown : s.vm.findClass zs1 = some m.cls := findClass_of_methodNamed Bd.named
  have hnm := (name_of_methodNamed Bd.named Bd.method).1
  have X0 : Stand p l e ({ frames := 1, cells := 1, slots := 3, locals := 13 } : Room) s m #[(.ref a1297)] below meth c s₁ [] 0 0 := Stand.of_body Bd
  have e0 : s₁.heap = h0 := by rw [← hh, Bd.state]; rfl
  have N0 := Fr.nil n0
  refine own_out ?_
  refine own_via (fun t k => castTop (ef_14 m a1297) (XS.aloadN X0.here hx rfl (hb hby d8_0) rfl rfl (XS.iconst X0.here hx rfl (hb hby d8_1) k))) ?_
  show own_Goes p e below (s₁.setTop (mkF m 2 #[rv a1297] [(.int (1 : Int32)), (.ref a1297)])) _
  obtain ⟨T1318, h1318, X1318, e1318, W1318, st1318⟩ := putFN X0 hx hZ hown (wd hw 47 rfl) Via.refl e0 pF_a1297_gmcpOffered pE_a1297 (Or.inl (wd hw 48 rfl)) (wd hw 1 rfl) (ty := .boolean) (v' := (.int (1 : Int32))) (by decide) rfl (by decide) (g := (mkF m 2 #[rv a1297] [(.int (1 : Int32)), (.ref a1297)])) rfl rfl (hb hby d8_2)
  refine own_via (fun t k => st1318 t k) ?_
  have Fw1318 : Fld Z h1318 a1297 zs1 "gmcpOffered" "Z" (.int (1 : Int32)) := pF_a1297_gmcpOffered.same W1318
  have N1318 := Fr.snoc X1318 N0 pG_a1297
  show own_Goes p e below (T1318.setTop (mkF m 5 #[rv a1297] [])) _
  refine own_via (fun t k => XS.sipush X1318.here hx rfl (hb hby d8_5) (XS.sipush X1318.here hx rfl (hb hby d8_8) k)) ?_
  have O1355 : Old Z n0 h1318 := (O0.wr W1318 pG_a1297)
  obtain ⟨_, T1319, _, X1319, hQ1319, st1319⟩ := own_cs X1318 hx hZ hown (wd hw 56 rfl) (wd hw 57 rfl) (wd hw 58 rfl) (wd hw 2 rfl) (by decide) (rm18 l Z a0 hw []  h1318 n0 O1355 ) e1318 (g := (mkF m 11 #[rv a1297] [(.int (201 : Int32)), (.int (251 : Int32))])) rfl (by rw [hml]; rfl) (rest := []) (W := 0) (lenOf pd_5 rfl) rfl (by show 2 * 0 + _ ≤ _; exact Nat.le_of_eq rfl) (hb hby d8_11) (by decide) (by decide) (by decide) (by decide)
  obtain ⟨h1319, e1319⟩ : ∃ z, T1319.heap = z := ⟨_, rfl⟩
  rw [e1319] at hQ1319
  obtain ⟨b1356, k1357, rfl, Nq1319, K1319, bx1358, vx1359⟩ := hQ1319
  have N1319 := Fr.app N1318 Nq1319
  have g1360 : n0 ≤ b1356 := Nat.le_trans (own_old O1355) bx1358
  have Z1362 : h0.size ≤ h1318.size := (Nat.le_trans (Nat.le_refl _) (Nat.le_of_eq W1318.size.symm))
  have B1361 : h0.size ≤ b1356 := Nat.le_trans Z1362 bx1358
  refine own_via (fun t k => st1319 t k) ?_
  obtain ⟨fs, hr, hrun, hended, hW, hsame⟩ := X1319.leave (v := some (.ref b1356)) (fun h => by rw [Bd.returns] at h; cases h)
  refine own_end (t := T1319.setFrames fs) ?_ ⟨_, hrun, hended, _, _, rfl, ?_, ⟨_, rfl⟩, hW, hsame.mono (by decide) (by decide)⟩
  · jvm_step X1319.here [X1319.here.top, hx, (hb hby d8_14), X1319.method', Bd.returns, Value.isRef, FieldType.isReference]
    first | (intro acts; rw [hr _ acts rfl rfl rfl]) | rw [hr _ _ rfl rfl rfl]
    exact Steps.refl _
  have E1363 : Exa Z h1319 a1297 zs1 := ((pE_a1297.wr W1318).keep K1319)
  have F1364 : Fld Z h1319 a1297 zs1 "refusedWill" zs3 (.ref a1298) := ((pF_a1297_refusedWill.other W1318 (Or.inr (slot_ne (Or.inr (wd hw 32 rfl)) (Or.inl (wd hw 48 rfl)) (by decide) (t := (.object zs2)) (t' := .boolean) (by decide) (by decide)))).keep K1319 nin0)
  have F1365 : Fld Z h1319 a1297 zs1 "refusedDo" zs3 (.ref a1300) := ((pF_a1297_refusedDo.other W1318 (Or.inr (slot_ne (Or.inr (wd hw 34 rfl)) (Or.inl (wd hw 48 rfl)) (by decide) (t := (.object zs2)) (t' := .boolean) (by decide) (by decide)))).keep K1319 nin0)
  have F1366 : Fld Z h1319 a1297 zs1 "gmcpOn" "Z" (.int p1302) := ((pF_a1297_gmcpOn.other W1318 (Or.inr (slot_ne (Or.inl (wd hw 41 rfl)) (Or.inl (wd hw 48 rfl)) (by decide) (t := .boolean) (t' := .boolean) (by decide) (by decide)))).keep K1319 nin0)
  have F1367 : Fld Z h1319 a1297 zs1 "gmcpOffered" "Z" (.int (1 : Int32)) := (Fw1318.keep K1319 nin0)
  have F1368 : Fld Z h1319 a1297 zs1 "echoOffered" "Z" (.int p1304) := ((pF_a1297_echoOffered.other W1318 (Or.inr (slot_ne (Or.inl (wd hw 95 rfl)) (Or.inl (wd hw 48 rfl)) (by decide) (t := .boolean) (t' := .boolean) (by decide) (by decide)))).keep K1319 nin0)
  · show Q19 Z a1297 p1303 a1298 a1300 p1302 p1304 h0 n0 _ T1319.heap _
    rw [e1319]
    exact ⟨b1356, k1357, rfl, N1319, (((Keep.refl h0 [a1297]).wr W1318 (Or.inl (List.mem_of_getElem? (i := 0) rfl))).trans K1319 all0), E1363, F1364, F1365, F1366, F1367, F1368, B1361, vx1359⟩
theorem pd_8 : parseMethodDescriptor "()[B" = some ⟨[], some (.array .byte)⟩ := by decide +kernel
def Q20 (Z : State) (a1389 : Addr) (k1404 : ClassId) (h0 : Heap) (n0 : Nat) (v : Option Value) (h : Heap) (L : List Loc) : Prop := v = some (.int (1 : Int32)) ∧ Fr n0 L ∧ h = h0
set_option maxRecDepth 65536 in
set_option maxHeartbeats 40000000 in
theorem rm20 (l : Launch) (Z : State) (a0 : Array Value) (hw : ∀ d ∈ tables_1, d.before a0 Z = true) (ws : List Jvm.Cond) (a1389 : Addr) (k1404 : ClassId) (h0 : Heap) (n0 : Nat) (O0 : Old Z n0 h0) (pL_a1389 : own_Len Z h0 a1389 .byte (3 : Int32)) (pV_a1389 : Arv Z h0 a1389 k1404 .byte (3 : Int32) [(.int (-1 : Int32)), (.int (-5 : Int32)), (.int (-55 : Int32))] (.int (0 : Int32))) :
    MetFree l (⟨zs4, "isCmd", "([BI)Z"⟩ : MethodName) (head1 (Jvm.Cond.code (⟨zs4, "isCmd", "([BI)Z"⟩ : MethodName) method_2_code 2 (some .boolean) :: ws) ({ frames := 0, cells := 0, slots := 0, locals := 0 } : Room)) (fun a U => a = #[(.ref a1389), (.int (251 : Int32))] ∧ Z.Warmed39 U.vm ∧ U.heap = h0) (fun _ _ _ _ _ => True) (fun _ U o U' => ∃ v L, o = .returned v ∧ Q20 Z a1389 k1404 h0 n0 v U'.heap L ∧ FrameEnd U o U' L ({ frames := 0, cells := 0, slots := 0, locals := 0 } : Room).cells ({ frames := 0, cells := 0, slots := 0, locals := 0 } : Room).slots) := by
  refine MetFree.of_bodySF (plainFor_of_name pn_3) hisR ?_
  intro p e s m args below meth c s₁ Bd hml0 hP hK
  obtain ⟨rfl, hZ, hh⟩ := hP
  have hx := Bd.exec
  have hby := Bd.bytes
  have hml : c.maxLocals = 2 := hml0
  have hown : s.vm.findClass zs4 = some m.cls := findClass_of_methodNamed Bd.named
  have hnm := (name_of_methodNamed Bd.named Bd.method).1
  have X0 : Stand p l e ({ frames := 0, cells := 0, slots := 0, locals := 0 } : Room) s m #[(.ref a1389), (.int (251 : Int32))] below meth c s₁ [] 0 0 := Stand.of_body Bd
  have e0 : s₁.heap = h0 := by rw [← hh, Bd.state]; rfl
  have N0 := Fr.nil n0
  refine own_out ?_
  refine own_via (fun t k => castTop (ef_13 m a1389 (251 : Int32)) (XS.aloadN X0.here hx rfl (hb hby d10_0) rfl rfl k)) ?_
  obtain ⟨_, _, _, V1412⟩ := id (pL_a1389)
  obtain ⟨cl1412, Ar1412, -, S1412, M1412, -, -⟩ := id (V1412)
  refine own_via (fun t k => X0.arraylength hx (by rw [e0]; exact Ar1412.1) (State.isArrayOf_alike hZ.alike Ar1412.2.1) (g := (mkF m 1 #[rv a1389, iv (251 : Int32)] [(.ref a1389)])) rfl rfl (hb hby d10_1) t k) ?_
  rw [len_of S1412 M1412]
  show own_Goes p e below (s₁.setTop (mkF m 2 #[rv a1389, iv (251 : Int32)] [(.int (3 : Int32))])) _
  refine own_via (fun t k => XS.iconst X0.here hx rfl (hb hby d10_2) (XS.icmpNo X0.here hx rfl (hb hby d10_3) rfl (teq (by decide : (3 : Int32) = (3 : Int32))).2 (XS.aloadN X0.here hx rfl (hb hby d10_6) rfl rfl (XS.iconst X0.here hx rfl (hb hby d10_7) k)))) ?_
  show own_Goes p e below (s₁.setTop (mkF m 8 #[rv a1389, iv (251 : Int32)] [(.int (0 : Int32)), (.ref a1389)])) _
  obtain ⟨cl1413, Ar1413, qq1413, S1413, M1413, H1413, G1413⟩ := id (pV_a1389)
  have hin1413 : ¬ ((0 : Int32) < 0 ∨ cl1413.slots.size ≤ ((0 : Int32)).toNatClampNeg) := inb_of S1413 ⟨by decide, by decide⟩
  refine own_via (fun t k => X0.baloadBytes hx (j := (0 : Int32)) (v := (.int (-1 : Int32))) (by rw [e0]; exact Ar1413.1) (State.isArrayOf_alike hZ.alike Ar1413.2.1) Ar1413.2.2 hin1413 (Has.at H1413 hin1413 rfl) (g := (mkF m 8 #[rv a1389, iv (251 : Int32)] [(.int (0 : Int32)), (.ref a1389)])) rfl rfl (hb hby d10_8) t (XS.iconst X0.here hx rfl (hb hby d10_9) (XS.icmpNo X0.here hx rfl (hb hby d10_10) rfl (teq (by decide : (-1 : Int32) = (-1 : Int32))).2 (XS.aloadN X0.here hx rfl (hb hby d10_13) rfl rfl (XS.iconst X0.here hx rfl (hb hby d10_14) k))))) ?_
  show own_Goes p e below (s₁.setTop (mkF m 15 #[rv a1389, iv (251 : Int32)] [(.int (1 : Int32)), (.ref a1389)])) _
  obtain ⟨cl1414, Ar1414, qq1414, S1414, M1414, H1414, G1414⟩ := id (pV_a1389)
  have hin1414 : ¬ ((1 : Int32) < 0 ∨ cl1414.slots.size ≤ ((1 : Int32)).toNatClampNeg) := inb_of S1414 ⟨by decide, by decide⟩
  refine own_via (fun t k => X0.baloadBytes hx (j := (1 : Int32)) (v := (.int (-5 : Int32))) (by rw [e0]; exact Ar1414.1) (State.isArrayOf_alike hZ.alike Ar1414.2.1) Ar1414.2.2 hin1414 (Has.at H1414 hin1414 rfl) (g := (mkF m 15 #[rv a1389, iv (251 : Int32)] [(.int (1 : Int32)), (.ref a1389)])) rfl rfl (hb hby d10_15) t (XS.iloadN X0.here hx rfl (hb hby d10_16) rfl (XS.i2b X0.here hx rfl (hb hby d10_17) rfl (XS.icmpNo X0.here hx rfl (hb hby d10_18) rfl (teq (by decide : (-5 : Int32) = (-5 : Int32))).2 (XS.aloadN X0.here hx rfl (hb hby d10_21) rfl rfl (XS.iconst X0.here hx rfl (hb hby d10_22) k)))))) ?_
  show own_Goes p e below (s₁.setTop (mkF m 23 #[rv a1389, iv (251 : Int32)] [(.int (2 : Int32)), (.ref a1389)])) _
  obtain ⟨cl1415, Ar1415, qq1415, S1415, M1415, H1415, G1415⟩ := id (pV_a1389)
  have hin1415 : ¬ ((2 : Int32) < 0 ∨ cl1415.slots.size ≤ ((2 : Int32)).toNatClampNeg) := inb_of S1415 ⟨by decide, by decide⟩
  refine own_via (fun t k => X0.baloadBytes hx (j := (2 : Int32)) (v := (.int (-55 : Int32))) (by rw [e0]; exact Ar1415.1) (State.isArrayOf_alike hZ.alike Ar1415.2.1) Ar1415.2.2 hin1415 (Has.at H1415 hin1415 rfl) (g := (mkF m 23 #[rv a1389, iv (251 : Int32)] [(.int (2 : Int32)), (.ref a1389)])) rfl rfl (hb hby d10_23) t (XS.bipush X0.here hx rfl (hb hby d10_24) (XS.icmpNo X0.here hx rfl (hb hby d10_26) rfl (teq (by decide : (-55 : Int32) = (-55 : Int32))).2 (XS.iconst X0.here hx rfl (hb hby d10_29) (XS.goto X0.here hx rfl (pc0 := 30) (pc' := 34) rfl (hb hby d10_30) (by decide) (by decide) k))))) ?_
  show own_Goes p e below (s₁.setTop (mkF m 34 #[rv a1389, iv (251 : Int32)] [(.int (1 : Int32))])) _
  obtain ⟨fs, hr, hrun, hended, hW, hsame⟩ := X0.leave (v := some (.int (1 : Int32))) (fun h => by rw [Bd.returns] at h; cases h)
  refine own_end (t := s₁.setFrames fs) ?_ ⟨_, hrun, hended, _, _, rfl, ?_, ⟨_, rfl⟩, hW, hsame.mono (by decide) (by decide)⟩
  · exact retN X0 hx (t := .boolean) Bd.returns (by simp) (hb hby d10_34) hr
  · show Q20 Z a1389 k1404 h0 n0 _ s₁.heap _
    rw [e0]
    exact ⟨rfl, N0, rfl⟩
theorem d7_58 : decode prog_61_method_2_code 58 = .ok (.aload_n 0, 1) := by decide +kernel
theorem d7_59 : decode prog_61_method_2_code 59 = .ok (.iload_n 1, 1) := by decide +kernel
theorem d7_60 : decode prog_61_method_2_code 60 = .ok (.sipush 253, 3) := by decide +kernel
theorem d7_63 : decode prog_61_method_2_code 63 = .ok (.if_icmp .ne 7, 3) := by decide +kernel
theorem d7_70 : decode prog_61_method_2_code 70 = .ok (.iconst 0, 1) := by decide +kernel
theorem d7_71 : decode prog_61_method_2_code 71 = .ok (.invokevirtual 35, 3) := by decide +kernel
theorem d11_0 : decode prog_61_method_7_code 0 = .ok (.aload_n 0, 1) := by decide +kernel
theorem d11_1 : decode prog_61_method_7_code 1 = .ok (.getfield 32, 3) := by decide +kernel
theorem d11_4 : decode prog_61_method_7_code 4 = .ok (.istore_n 2, 1) := by decide +kernel
theorem d11_5 : decode prog_61_method_7_code 5 = .ok (.aload_n 0, 1) := by decide +kernel
theorem d11_6 : decode prog_61_method_7_code 6 = .ok (.iconst 0, 1) := by decide +kernel
theorem d11_7 : decode prog_61_method_7_code 7 = .ok (.putfield 29, 3) := by decide +kernel
theorem d11_10 : decode prog_61_method_7_code 10 = .ok (.aload_n 0, 1) := by decide +kernel
theorem d11_11 : decode prog_61_method_7_code 11 = .ok (.iload_n 1, 1) := by decide +kernel
theorem d11_12 : decode prog_61_method_7_code 12 = .ok (.putfield 32, 3) := by decide +kernel
theorem d11_15 : decode prog_61_method_7_code 15 = .ok (.iload_n 2, 1) := by decide +kernel
theorem d11_16 : decode prog_61_method_7_code 16 = .ok (.ifCond .eq 19, 3) := by decide +kernel
theorem d11_35 : decode prog_61_method_7_code 35 = .ok (.getstatic 25, 3) := by decide +kernel
theorem d11_38 : decode prog_61_method_7_code 38 = .ok (.areturn, 1) := by decide +kernel
theorem ef_15 (m : MethodId) (x0 : Addr) (x1 : Int32) : entryFrame m #[(.ref x0), (.int x1)] 3 = mkF m 0 #[rv x0, iv x1, .unset] [] := by first | (simp [entryFrame, mkF, argsToLocals, Value.category]; done) | rfl
def Q21 (Z : State) (a1448 : Addr) (p1460 : Int32) (w6 : Addr) (a1449 : Addr) (a1451 : Addr) (p1461 : Int32) (h0 : Heap) (n0 : Nat) (v : Option Value) (h : Heap) (L : List Loc) : Prop := v = some (.ref w6) ∧ Fr n0 L ∧ Keep h0 h [a1448] ∧ Exa Z h a1448 zs1 ∧ Fld Z h a1448 zs1 "refusedWill" zs3 (.ref a1449) ∧ Fld Z h a1448 zs1 "refusedDo" zs3 (.ref a1451) ∧ Fld Z h a1448 zs1 "gmcpOn" "Z" (.int (0 : Int32)) ∧ Fld Z h a1448 zs1 "gmcpOffered" "Z" (.int (0 : Int32)) ∧ Fld Z h a1448 zs1 "echoOffered" "Z" (.int p1461)
set_option maxRecDepth 65536 in
set_option maxHeartbeats 40000000 in
theorem rm21 (l : Launch) (Z : State) (a0 : Array Value) (hw : ∀ d ∈ tables_1, d.before a0 Z = true) (ws : List Jvm.Cond) (a1448 : Addr) (p1460 : Int32) (w6 : Addr) (a1449 : Addr) (a1451 : Addr) (p1461 : Int32) (h0 : Heap) (n0 : Nat) (O0 : Old Z n0 h0) (pF_a1448_gmcpOn : Fld Z h0 a1448 zs1 "gmcpOn" "Z" (.int (0 : Int32))) (pF_a1448_gmcpOffered : Fld Z h0 a1448 zs1 "gmcpOffered" "Z" (.int p1460)) (pE_a1448 : Exa Z h0 a1448 zs1) (pG_a1448 : n0 ≤ a1448) (S_TelnetOptions_NO_ANSWER : Sta Z Z.heap zs1 "NO_ANSWER" "[B" (.ref w6)) (pF_a1448_refusedWill : Fld Z h0 a1448 zs1 "refusedWill" zs3 (.ref a1449)) (pF_a1448_refusedDo : Fld Z h0 a1448 zs1 "refusedDo" zs3 (.ref a1451)) (pF_a1448_echoOffered : Fld Z h0 a1448 zs1 "echoOffered" "Z" (.int p1461)) :
    MetFree l (⟨zs1, "settleGmcp", "(Z)[B"⟩ : MethodName) (head1 (Jvm.Cond.code (⟨zs1, "settleGmcp", "(Z)[B"⟩ : MethodName) prog_61_method_7_code 3 (some (.array .byte)) :: ws) ({ frames := 0, cells := 0, slots := 0, locals := 0 } : Room)) (fun a U => a = #[(.ref a1448), (.int (0 : Int32))] ∧ Z.Warmed39 U.vm ∧ U.heap = h0) (fun _ _ _ _ _ => True) (fun _ U o U' => ∃ v L, o = .returned v ∧ Q21 Z a1448 p1460 w6 a1449 a1451 p1461 h0 n0 v U'.heap L ∧ FrameEnd U o U' L ({ frames := 0, cells := 0, slots := 0, locals := 0 } : Room).cells ({ frames := 0, cells := 0, slots := 0, locals := 0 } : Room).slots) := by
  refine MetFree.of_bodySF (plainFor_of_name pn_2) hisR ?_
  intro p e s m args below meth c s₁ Bd hml0 hP hK
  obtain ⟨rfl, hZ, hh⟩ := hP
  have hx := Bd.exec
  have hby := Bd.bytes
  have hml : c.maxLocals = 3 := hml0
  have hown : s.vm.findClass zs1 = some m.cls := findClass_of_methodNamed Bd.named
  have hnm := (name_of_methodNamed Bd.named Bd.method).1
  have X0 : Stand p l e ({ frames := 0, cells := 0, slots := 0, locals := 0 } : Room) s m #[(.ref a1448), (.int (0 : Int32))] below meth c s₁ [] 0 0 := Stand.of_body Bd
  have e0 : s₁.heap = h0 := by rw [← hh, Bd.state]; rfl
  have N0 := Fr.nil n0
  refine own_out ?_
  refine own_via (fun t k => castTop (ef_15 m a1448 (0 : Int32)) (XS.aloadN X0.here hx rfl (hb hby d11_0) rfl rfl k)) ?_
  obtain ⟨T1473, X1473, e1473, st1473⟩ := getF X0 hx hZ hown (host := "") (Or.inl (wd hw 40 rfl)) Via.refl e0 pF_a1448_gmcpOn (g := (mkF m 1 #[rv a1448, iv (0 : Int32), .unset] [(.ref a1448)])) rfl rfl (hb hby d11_1)
  refine own_via (fun t k => st1473 t (XS.istoreN X1473.here hx rfl (hb hby d11_4) rfl (l' := #[rv a1448, iv (0 : Int32), iv (0 : Int32)]) rfl (XS.aloadN X1473.here hx rfl (hb hby d11_5) rfl rfl (XS.iconst X1473.here hx rfl (hb hby d11_6) k)))) ?_
  show own_Goes p e below (T1473.setTop (mkF m 7 #[rv a1448, iv (0 : Int32), iv (0 : Int32)] [(.int (0 : Int32)), (.ref a1448)])) _
  obtain ⟨T1474, h1474, X1474, e1474, W1474, st1474⟩ := putFN X1473 hx hZ hown (wd hw 47 rfl) Via.refl e1473 pF_a1448_gmcpOffered pE_a1448 (Or.inl (wd hw 48 rfl)) (wd hw 1 rfl) (ty := .boolean) (v' := (.int (0 : Int32))) (by decide) rfl (by decide) (g := (mkF m 7 #[rv a1448, iv (0 : Int32), iv (0 : Int32)] [(.int (0 : Int32)), (.ref a1448)])) rfl rfl (hb hby d11_7)
  refine own_via (fun t k => st1474 t k) ?_
  have Fw1474 : Fld Z h1474 a1448 zs1 "gmcpOffered" "Z" (.int (0 : Int32)) := pF_a1448_gmcpOffered.same W1474
  have N1474 := Fr.snoc X1474 N0 pG_a1448
  show own_Goes p e below (T1474.setTop (mkF m 10 #[rv a1448, iv (0 : Int32), iv (0 : Int32)] [])) _
  refine own_via (fun t k => XS.aloadN X1474.here hx rfl (hb hby d11_10) rfl rfl (XS.iloadN X1474.here hx rfl (hb hby d11_11) rfl k)) ?_
  have F1475 : Fld Z h1474 a1448 zs1 "gmcpOn" "Z" (.int (0 : Int32)) := (pF_a1448_gmcpOn.other W1474 (Or.inr (slot_ne (Or.inl (wd hw 41 rfl)) (Or.inl (wd hw 48 rfl)) (by decide) (t := .boolean) (t' := .boolean) (by decide) (by decide))))
  have E1476 : Exa Z h1474 a1448 zs1 := (pE_a1448.wr W1474)
  obtain ⟨T1477, h1477, X1477, e1477, W1477, st1477⟩ := putFN X1474 hx hZ hown (wd hw 40 rfl) Via.refl e1474 F1475 E1476 (Or.inl (wd hw 41 rfl)) (wd hw 1 rfl) (ty := .boolean) (v' := (.int (0 : Int32))) (by decide) rfl (by decide) (g := (mkF m 12 #[rv a1448, iv (0 : Int32), iv (0 : Int32)] [(.int (0 : Int32)), (.ref a1448)])) rfl rfl (hb hby d11_12)
  refine own_via (fun t k => st1477 t k) ?_
  have Fw1477 : Fld Z h1477 a1448 zs1 "gmcpOn" "Z" (.int (0 : Int32)) := F1475.same W1477
  have N1477 := Fr.snoc X1477 N1474 pG_a1448
  show own_Goes p e below (T1477.setTop (mkF m 15 #[rv a1448, iv (0 : Int32), iv (0 : Int32)] [])) _
  refine own_via (fun t k => XS.iloadN X1477.here hx rfl (hb hby d11_15) rfl (XS.ifYes X1477.here hx rfl (pc0 := 16) (pc' := 35) rfl (hb hby d11_16) rfl ((if0 _ _).trans (teq (by decide : (0 : Int32) = (0 : Int32))).1) (by decide) (by decide) k)) ?_
  have O1479 : Old Z n0 h1477 := ((O0.wr W1474 pG_a1448).wr W1477 pG_a1448)
  obtain ⟨T1478, X1478, e1478, st1478⟩ := getS2 X1477 hx hZ hown (host := "") (Or.inl (wd hw 49 rfl)) Via.refl e1477 (S_TelnetOptions_NO_ANSWER.ext O1479.2) (g := (mkF m 35 #[rv a1448, iv (0 : Int32), iv (0 : Int32)] [])) rfl (hb hby d11_35)
  refine own_via (fun t k => st1478 t k) ?_
  obtain ⟨fs, hr, hrun, hended, hW, hsame⟩ := X1478.leave (v := some (.ref w6)) (fun h => by rw [Bd.returns] at h; cases h)
  refine own_end (t := T1478.setFrames fs) ?_ ⟨_, hrun, hended, _, _, rfl, ?_, ⟨_, rfl⟩, hW, hsame.mono (by decide) (by decide)⟩
  · jvm_step X1478.here [X1478.here.top, hx, (hb hby d11_38), X1478.method', Bd.returns, Value.isRef, FieldType.isReference]
    first | (intro acts; rw [hr _ acts rfl rfl rfl]) | rw [hr _ _ rfl rfl rfl]
    exact Steps.refl _
  have E1480 : Exa Z h1477 a1448 zs1 := (E1476.wr W1477)
  have F1481 : Fld Z h1477 a1448 zs1 "refusedWill" zs3 (.ref a1449) := ((pF_a1448_refusedWill.other W1474 (Or.inr (slot_ne (Or.inr (wd hw 32 rfl)) (Or.inl (wd hw 48 rfl)) (by decide) (t := (.object zs2)) (t' := .boolean) (by decide) (by decide)))).other W1477 (Or.inr (slot_ne (Or.inr (wd hw 32 rfl)) (Or.inl (wd hw 41 rfl)) (by decide) (t := (.object zs2)) (t' := .boolean) (by decide) (by decide))))
  have F1482 : Fld Z h1477 a1448 zs1 "refusedDo" zs3 (.ref a1451) := ((pF_a1448_refusedDo.other W1474 (Or.inr (slot_ne (Or.inr (wd hw 34 rfl)) (Or.inl (wd hw 48 rfl)) (by decide) (t := (.object zs2)) (t' := .boolean) (by decide) (by decide)))).other W1477 (Or.inr (slot_ne (Or.inr (wd hw 34 rfl)) (Or.inl (wd hw 41 rfl)) (by decide) (t := (.object zs2)) (t' := .boolean) (by decide) (by decide))))
  have F1483 : Fld Z h1477 a1448 zs1 "gmcpOffered" "Z" (.int (0 : Int32)) := (Fw1474.other W1477 (Or.inr (slot_ne (Or.inl (wd hw 48 rfl)) (Or.inl (wd hw 41 rfl)) (by decide) (t := .boolean) (t' := .boolean) (by decide) (by decide))))
  have F1484 : Fld Z h1477 a1448 zs1 "echoOffered" "Z" (.int p1461) := ((pF_a1448_echoOffered.other W1474 (Or.inr (slot_ne (Or.inl (wd hw 95 rfl)) (Or.inl (wd hw 48 rfl)) (by decide) (t := .boolean) (t' := .boolean) (by decide) (by decide)))).other W1477 (Or.inr (slot_ne (Or.inl (wd hw 95 rfl)) (Or.inl (wd hw 41 rfl)) (by decide) (t := .boolean) (t' := .boolean) (by decide) (by decide))))
  · show Q21 Z a1448 p1460 w6 a1449 a1451 p1461 h0 n0 _ T1478.heap _
    rw [e1478]
    exact ⟨rfl, N1477, (((Keep.refl h0 [a1448]).wr W1474 (Or.inl (List.mem_of_getElem? (i := 0) rfl))).wr W1477 (Or.inl (List.mem_of_getElem? (i := 0) rfl))), E1480, F1481, F1482, Fw1477, F1483, F1484⟩
theorem pd_9 : parseMethodDescriptor "(Z)[B" = some ⟨[.boolean], some (.array .byte)⟩ := by decide +kernel
theorem own_selPriv {args : Array Value} {s : State} {y : MethodName} {n : Nat} (hw : (Jvm.Cond.instantiable y.cls n).before args s = true) (hi : (Jvm.Cond.instanceMethod y).before args s = true) (hp : s.PrivateAt y) (hy : y.cls ≠ "java/lang/invoke/MethodHandle" ∧ y.cls ≠ "java/lang/invoke/VarHandle") : (Jvm.Cond.selects y.cls y y).before args s = true := by
  obtain ⟨c, k, h1, h2, -, h4, -⟩ := Cond.instantiable_spec hw
  exact selects_self_of_private h1 h2 (by cases hk : k.isInterface <;> simp_all) hp hi hy
theorem d7_74 : decode prog_61_method_2_code 74 = .ok (.areturn, 1) := by decide +kernel
def Q22 (Z : State) (a1422 : Addr) (w6 : Addr) (a1423 : Addr) (a1425 : Addr) (p1434 : Int32) (h0 : Heap) (n0 : Nat) (v : Option Value) (h : Heap) (L : List Loc) : Prop := v = some (.ref w6) ∧ Fr n0 L ∧ Keep h0 h [a1422] ∧ Exa Z h a1422 zs1 ∧ Fld Z h a1422 zs1 "refusedWill" zs3 (.ref a1423) ∧ Fld Z h a1422 zs1 "refusedDo" zs3 (.ref a1425) ∧ Fld Z h a1422 zs1 "gmcpOn" "Z" (.int (0 : Int32)) ∧ Fld Z h a1422 zs1 "gmcpOffered" "Z" (.int (0 : Int32)) ∧ Fld Z h a1422 zs1 "echoOffered" "Z" (.int p1434)
set_option maxRecDepth 65536 in
set_option maxHeartbeats 40000000 in
theorem rm22 (l : Launch) (Z : State) (a0 : Array Value) (hw : ∀ d ∈ tables_1, d.before a0 Z = true) (ws : List Jvm.Cond) (a1422 : Addr) (w6 : Addr) (a1423 : Addr) (a1425 : Addr) (p1434 : Int32) (h0 : Heap) (n0 : Nat) (O0 : Old Z n0 h0) (pF_a1422_gmcpOffered : Fld Z h0 a1422 zs1 "gmcpOffered" "Z" (.int (1 : Int32))) (pF_a1422_gmcpOn : Fld Z h0 a1422 zs1 "gmcpOn" "Z" (.int (0 : Int32))) (pE_a1422 : Exa Z h0 a1422 zs1) (pG_a1422 : n0 ≤ a1422) (S_TelnetOptions_NO_ANSWER : Sta Z Z.heap zs1 "NO_ANSWER" "[B" (.ref w6)) (pF_a1422_refusedWill : Fld Z h0 a1422 zs1 "refusedWill" zs3 (.ref a1423)) (pF_a1422_refusedDo : Fld Z h0 a1422 zs1 "refusedDo" zs3 (.ref a1425)) (pF_a1422_echoOffered : Fld Z h0 a1422 zs1 "echoOffered" "Z" (.int p1434)) :
    MetFree l (⟨zs1, "answer", "(II)[B"⟩ : MethodName) (head1 (Jvm.Cond.code (⟨zs1, "answer", "(II)[B"⟩ : MethodName) prog_61_method_2_code 4 (some (.array .byte)) :: ws) ({ frames := 1, cells := 0, slots := 0, locals := 14 } : Room)) (fun a U => a = #[(.ref a1422), (.int (254 : Int32)), (.int (201 : Int32))] ∧ Z.Warmed39 U.vm ∧ U.heap = h0) (fun _ _ _ _ _ => True) (fun _ U o U' => ∃ v L, o = .returned v ∧ Q22 Z a1422 w6 a1423 a1425 p1434 h0 n0 v U'.heap L ∧ FrameEnd U o U' L ({ frames := 1, cells := 0, slots := 0, locals := 14 } : Room).cells ({ frames := 1, cells := 0, slots := 0, locals := 14 } : Room).slots) := by
  refine MetFree.of_bodySF (plainFor_of_name pn_2) hisR ?_
  intro p e s m args below meth c s₁ Bd hml0 hP hK
  obtain ⟨rfl, hZ, hh⟩ := hP
  have hx := Bd.exec
  have hby := Bd.bytes
  have hml : c.maxLocals = 4 := hml0
  have hown : s.vm.findClass zs1 = some m.cls := findClass_of_methodNamed Bd.named
  have hnm := (name_of_methodNamed Bd.named Bd.method).1
  have X0 : Stand p l e ({ frames := 1, cells := 0, slots := 0, locals := 14 } : Room) s m #[(.ref a1422), (.int (254 : Int32)), (.int (201 : Int32))] below meth c s₁ [] 0 0 := Stand.of_body Bd
  have e0 : s₁.heap = h0 := by rw [← hh, Bd.state]; rfl
  have N0 := Fr.nil n0
  refine own_out ?_
  refine own_via (fun t k => castTop (ef_6 m a1422 (254 : Int32) (201 : Int32)) (XS.iloadN X0.here hx rfl (hb hby d7_0) rfl (XS.sipush X0.here hx rfl (hb hby d7_1) (XS.icmpYes X0.here hx rfl (pc0 := 4) (pc' := 23) rfl (hb hby d7_4) rfl (feq (by decide : ¬ ((254 : Int32) = (253 : Int32)))).2 (by decide) (by decide) (XS.iloadN X0.here hx rfl (hb hby d7_23) rfl (XS.sipush X0.here hx rfl (hb hby d7_24) (XS.icmpNo X0.here hx rfl (hb hby d7_27) rfl (teq (by decide : (201 : Int32) = (201 : Int32))).2 (XS.iloadN X0.here hx rfl (hb hby d7_30) rfl (XS.sipush X0.here hx rfl (hb hby d7_31) (XS.icmpNo X0.here hx rfl (hb hby d7_34) rfl (feq (by decide : ¬ ((254 : Int32) = (253 : Int32)))).1 (XS.iloadN X0.here hx rfl (hb hby d7_37) rfl (XS.sipush X0.here hx rfl (hb hby d7_38) k)))))))))))) ?_
  show own_Goes p e below (s₁.setTop (mkF m 41 #[rv a1422, iv (254 : Int32), iv (201 : Int32), .unset] [(.int (254 : Int32)), (.int (254 : Int32))])) _
  refine own_via (fun t k => XS.icmpNo X0.here hx rfl (hb hby d7_41) rfl (teq (by decide : (254 : Int32) = (254 : Int32))).2 (XS.aloadN X0.here hx rfl (hb hby d7_44) rfl rfl k)) ?_
  obtain ⟨T1446, X1446, e1446, st1446⟩ := getF X0 hx hZ hown (host := "") (Or.inl (wd hw 47 rfl)) Via.refl e0 pF_a1422_gmcpOffered (g := (mkF m 45 #[rv a1422, iv (254 : Int32), iv (201 : Int32), .unset] [(.ref a1422)])) rfl rfl (hb hby d7_45)
  refine own_via (fun t k => st1446 t (XS.ifYes X1446.here hx rfl (pc0 := 48) (pc' := 58) rfl (hb hby d7_48) rfl ((if0 _ _).trans (feq (by decide : ¬ ((1 : Int32) = (0 : Int32)))).2) (by decide) (by decide) (XS.aloadN X1446.here hx rfl (hb hby d7_58) rfl rfl (XS.iloadN X1446.here hx rfl (hb hby d7_59) rfl (XS.sipush X1446.here hx rfl (hb hby d7_60) (XS.icmpYes X1446.here hx rfl (pc0 := 63) (pc' := 70) rfl (hb hby d7_63) rfl (feq (by decide : ¬ ((254 : Int32) = (253 : Int32)))).2 (by decide) (by decide) (XS.iconst X1446.here hx rfl (hb hby d7_70) k))))))) ?_
  show own_Goes p e below (T1446.setTop (mkF m 71 #[rv a1422, iv (254 : Int32), iv (201 : Int32), .unset] [(.int (0 : Int32)), (.ref a1422)])) _
  obtain ⟨cq1447, q1447, q1447'⟩ := pE_a1422.cell
  obtain ⟨_, _, ⟨T1447, L1447, c1447, n1447⟩, -, X1447, ⟨Lc1447, hQ1447, l1447, y1447, z1447⟩, st1447⟩ := X1446.privateBack hx (y := (⟨zs1, "settleGmcp", "(Z)[B"⟩ : MethodName)) hown (mvT hZ (wd hw 64 rfl)) (mvT hZ (wd hw 65 rfl)) (own_selPriv (mvT hZ (wd hw 1 rfl)) (mvT hZ (wd hw 65 rfl)) (Cond.privateMethod_at (mvP hZ (wd hw 66 rfl) (args := #[]))) (by decide)) (Cond.privateMethod_at (mvP hZ (wd hw 66 rfl) (args := #[]))) (mvT hZ (wd hw 67 rfl)) (by decide) (backOf (W := 0) (rm21 l Z a0 hw [] a1422 (1 : Int32) w6 a1423 a1425 p1434 h0 n0 O0 pF_a1422_gmcpOn pF_a1422_gmcpOffered pE_a1422 pG_a1422 S_TelnetOptions_NO_ANSWER pF_a1422_refusedWill pF_a1422_refusedDo pF_a1422_echoOffered) hZ (wd hw 67 rfl) (wd hw 2 rfl) (by decide) (by decide)) (g := (mkF m 71 #[rv a1422, iv (254 : Int32), iv (201 : Int32), .unset] [(.int (0 : Int32)), (.ref a1422)])) rfl (by rw [hml]; rfl) (Steps.refl _) (a := a1422) (by rw [e1446]; exact q1447) q1447' (argsL := [(.int (0 : Int32))]) (rest := []) (lenOf pd_9 rfl) rfl (by show 2 * 0 + _ ≤ _; exact Nat.le_of_eq rfl) (hb hby d7_71) (fun _ _ => ⟨rfl, e1446, (by decide : 0 + 0 ≤ _), (by decide : 0 + 0 ≤ _)⟩)
  dsimp only [Pt.U, Pt.locs, Pt.cells, Pt.slots] at X1447 l1447 y1447 z1447 st1447 hQ1447
  subst l1447 y1447 z1447
  obtain ⟨h1447, e1447⟩ : ∃ z, T1447.heap = z := ⟨_, rfl⟩
  rw [e1447] at hQ1447
  obtain ⟨rfl, Nq1447, K1447, ex1485, fx1486, fx1487, fx1488, fx1489, fx1490⟩ := hQ1447
  have N1447 := Fr.app N0 Nq1447
  refine own_via (fun t k => st1447.trans k) ?_
  obtain ⟨fs, hr, hrun, hended, hW, hsame⟩ := X1447.leave (v := some (.ref w6)) (fun h => by rw [Bd.returns] at h; cases h)
  refine own_end (t := T1447.setFrames fs) ?_ ⟨_, hrun, hended, _, _, rfl, ?_, ⟨_, rfl⟩, hW, hsame.mono (by decide) (by decide)⟩
  · jvm_step X1447.here [X1447.here.top, hx, (hb hby d7_74), X1447.method', Bd.returns, Value.isRef, FieldType.isReference]
    first | (intro acts; rw [hr _ acts rfl rfl rfl]) | rw [hr _ _ rfl rfl rfl]
    exact Steps.refl _
  · show Q22 Z a1422 w6 a1423 a1425 p1434 h0 n0 _ T1447.heap _
    rw [e1447]
    exact ⟨rfl, N1447, ((Keep.refl h0 [a1422]).trans K1447 (allS (Or.inl (List.mem_of_getElem? (i := 0) rfl)) all0)), ex1485, fx1486, fx1487, fx1488, fx1489, fx1490⟩
theorem d7_66 : decode prog_61_method_2_code 66 = .ok (.iconst 1, 1) := by decide +kernel
theorem d7_67 : decode prog_61_method_2_code 67 = .ok (.goto 4, 3) := by decide +kernel
def Q23 (Z : State) (a2040 : Addr) (p2052 : Int32) (w6 : Addr) (a2041 : Addr) (a2043 : Addr) (p2053 : Int32) (h0 : Heap) (n0 : Nat) (v : Option Value) (h : Heap) (L : List Loc) : Prop := v = some (.ref w6) ∧ Fr n0 L ∧ Keep h0 h [a2040] ∧ Exa Z h a2040 zs1 ∧ Fld Z h a2040 zs1 "refusedWill" zs3 (.ref a2041) ∧ Fld Z h a2040 zs1 "refusedDo" zs3 (.ref a2043) ∧ Fld Z h a2040 zs1 "gmcpOn" "Z" (.int (1 : Int32)) ∧ Fld Z h a2040 zs1 "gmcpOffered" "Z" (.int (0 : Int32)) ∧ Fld Z h a2040 zs1 "echoOffered" "Z" (.int p2053)
set_option maxRecDepth 65536 in
set_option maxHeartbeats 40000000 in
theorem rm23 (l : Launch) (Z : State) (a0 : Array Value) (hw : ∀ d ∈ tables_1, d.before a0 Z = true) (ws : List Jvm.Cond) (a2040 : Addr) (p2052 : Int32) (w6 : Addr) (a2041 : Addr) (a2043 : Addr) (p2053 : Int32) (h0 : Heap) (n0 : Nat) (O0 : Old Z n0 h0) (pF_a2040_gmcpOn : Fld Z h0 a2040 zs1 "gmcpOn" "Z" (.int (0 : Int32))) (pF_a2040_gmcpOffered : Fld Z h0 a2040 zs1 "gmcpOffered" "Z" (.int p2052)) (pE_a2040 : Exa Z h0 a2040 zs1) (pG_a2040 : n0 ≤ a2040) (S_TelnetOptions_NO_ANSWER : Sta Z Z.heap zs1 "NO_ANSWER" "[B" (.ref w6)) (pF_a2040_refusedWill : Fld Z h0 a2040 zs1 "refusedWill" zs3 (.ref a2041)) (pF_a2040_refusedDo : Fld Z h0 a2040 zs1 "refusedDo" zs3 (.ref a2043)) (pF_a2040_echoOffered : Fld Z h0 a2040 zs1 "echoOffered" "Z" (.int p2053)) :
    MetFree l (⟨zs1, "settleGmcp", "(Z)[B"⟩ : MethodName) (head1 (Jvm.Cond.code (⟨zs1, "settleGmcp", "(Z)[B"⟩ : MethodName) prog_61_method_7_code 3 (some (.array .byte)) :: ws) ({ frames := 0, cells := 0, slots := 0, locals := 0 } : Room)) (fun a U => a = #[(.ref a2040), (.int (1 : Int32))] ∧ Z.Warmed39 U.vm ∧ U.heap = h0) (fun _ _ _ _ _ => True) (fun _ U o U' => ∃ v L, o = .returned v ∧ Q23 Z a2040 p2052 w6 a2041 a2043 p2053 h0 n0 v U'.heap L ∧ FrameEnd U o U' L ({ frames := 0, cells := 0, slots := 0, locals := 0 } : Room).cells ({ frames := 0, cells := 0, slots := 0, locals := 0 } : Room).slots) := by
  refine MetFree.of_bodySF (plainFor_of_name pn_2) hisR ?_
  intro p e s m args below meth c s₁ Bd hml0 hP hK
  obtain ⟨rfl, hZ, hh⟩ := hP
  have hx := Bd.exec
  have hby := Bd.bytes
  have hml : c.maxLocals = 3 := hml0
  have hown : s.vm.findClass zs1 = some m.cls := findClass_of_methodNamed Bd.named
  have hnm := (name_of_methodNamed Bd.named Bd.method).1
  have X0 : Stand p l e ({ frames := 0, cells := 0, slots := 0, locals := 0 } : Room) s m #[(.ref a2040), (.int (1 : Int32))] below meth c s₁ [] 0 0 := Stand.of_body Bd
  have e0 : s₁.heap = h0 := by rw [← hh, Bd.state]; rfl
  have N0 := Fr.nil n0
  refine own_out ?_
  refine own_via (fun t k => castTop (ef_15 m a2040 (1 : Int32)) (XS.aloadN X0.here hx rfl (hb hby d11_0) rfl rfl k)) ?_
  obtain ⟨T2065, X2065, e2065, st2065⟩ := getF X0 hx hZ hown (host := "") (Or.inl (wd hw 40 rfl)) Via.refl e0 pF_a2040_gmcpOn (g := (mkF m 1 #[rv a2040, iv (1 : Int32), .unset] [(.ref a2040)])) rfl rfl (hb hby d11_1)
  refine own_via (fun t k => st2065 t (XS.istoreN X2065.here hx rfl (hb hby d11_4) rfl (l' := #[rv a2040, iv (1 : Int32), iv (0 : Int32)]) rfl (XS.aloadN X2065.here hx rfl (hb hby d11_5) rfl rfl (XS.iconst X2065.here hx rfl (hb hby d11_6) k)))) ?_
  show own_Goes p e below (T2065.setTop (mkF m 7 #[rv a2040, iv (1 : Int32), iv (0 : Int32)] [(.int (0 : Int32)), (.ref a2040)])) _
  obtain ⟨T2066, h2066, X2066, e2066, W2066, st2066⟩ := putFN X2065 hx hZ hown (wd hw 47 rfl) Via.refl e2065 pF_a2040_gmcpOffered pE_a2040 (Or.inl (wd hw 48 rfl)) (wd hw 1 rfl) (ty := .boolean) (v' := (.int (0 : Int32))) (by decide) rfl (by decide) (g := (mkF m 7 #[rv a2040, iv (1 : Int32), iv (0 : Int32)] [(.int (0 : Int32)), (.ref a2040)])) rfl rfl (hb hby d11_7)
  refine own_via (fun t k => st2066 t k) ?_
  have Fw2066 : Fld Z h2066 a2040 zs1 "gmcpOffered" "Z" (.int (0 : Int32)) := pF_a2040_gmcpOffered.same W2066
  have N2066 := Fr.snoc X2066 N0 pG_a2040
  show own_Goes p e below (T2066.setTop (mkF m 10 #[rv a2040, iv (1 : Int32), iv (0 : Int32)] [])) _
  refine own_via (fun t k => XS.aloadN X2066.here hx rfl (hb hby d11_10) rfl rfl (XS.iloadN X2066.here hx rfl (hb hby d11_11) rfl k)) ?_
  have F2067 : Fld Z h2066 a2040 zs1 "gmcpOn" "Z" (.int (0 : Int32)) := (pF_a2040_gmcpOn.other W2066 (Or.inr (slot_ne (Or.inl (wd hw 41 rfl)) (Or.inl (wd hw 48 rfl)) (by decide) (t := .boolean) (t' := .boolean) (by decide) (by decide))))
  have E2068 : Exa Z h2066 a2040 zs1 := (pE_a2040.wr W2066)
  obtain ⟨T2069, h2069, X2069, e2069, W2069, st2069⟩ := putFN X2066 hx hZ hown (wd hw 40 rfl) Via.refl e2066 F2067 E2068 (Or.inl (wd hw 41 rfl)) (wd hw 1 rfl) (ty := .boolean) (v' := (.int (1 : Int32))) (by decide) rfl (by decide) (g := (mkF m 12 #[rv a2040, iv (1 : Int32), iv (0 : Int32)] [(.int (1 : Int32)), (.ref a2040)])) rfl rfl (hb hby d11_12)
  refine own_via (fun t k => st2069 t k) ?_
  have Fw2069 : Fld Z h2069 a2040 zs1 "gmcpOn" "Z" (.int (1 : Int32)) := F2067.same W2069
  have N2069 := Fr.snoc X2069 N2066 pG_a2040
  show own_Goes p e below (T2069.setTop (mkF m 15 #[rv a2040, iv (1 : Int32), iv (0 : Int32)] [])) _
  refine own_via (fun t k => XS.iloadN X2069.here hx rfl (hb hby d11_15) rfl (XS.ifYes X2069.here hx rfl (pc0 := 16) (pc' := 35) rfl (hb hby d11_16) rfl ((if0 _ _).trans (teq (by decide : (0 : Int32) = (0 : Int32))).1) (by decide) (by decide) k)) ?_
  have O2071 : Old Z n0 h2069 := ((O0.wr W2066 pG_a2040).wr W2069 pG_a2040)
  obtain ⟨T2070, X2070, e2070, st2070⟩ := getS2 X2069 hx hZ hown (host := "") (Or.inl (wd hw 49 rfl)) Via.refl e2069 (S_TelnetOptions_NO_ANSWER.ext O2071.2) (g := (mkF m 35 #[rv a2040, iv (1 : Int32), iv (0 : Int32)] [])) rfl (hb hby d11_35)
  refine own_via (fun t k => st2070 t k) ?_
  obtain ⟨fs, hr, hrun, hended, hW, hsame⟩ := X2070.leave (v := some (.ref w6)) (fun h => by rw [Bd.returns] at h; cases h)
  refine own_end (t := T2070.setFrames fs) ?_ ⟨_, hrun, hended, _, _, rfl, ?_, ⟨_, rfl⟩, hW, hsame.mono (by decide) (by decide)⟩
  · jvm_step X2070.here [X2070.here.top, hx, (hb hby d11_38), X2070.method', Bd.returns, Value.isRef, FieldType.isReference]
    first | (intro acts; rw [hr _ acts rfl rfl rfl]) | rw [hr _ _ rfl rfl rfl]
    exact Steps.refl _
  have E2072 : Exa Z h2069 a2040 zs1 := (E2068.wr W2069)
  have F2073 : Fld Z h2069 a2040 zs1 "refusedWill" zs3 (.ref a2041) := ((pF_a2040_refusedWill.other W2066 (Or.inr (slot_ne (Or.inr (wd hw 32 rfl)) (Or.inl (wd hw 48 rfl)) (by decide) (t := (.object zs2)) (t' := .boolean) (by decide) (by decide)))).other W2069 (Or.inr (slot_ne (Or.inr (wd hw 32 rfl)) (Or.inl (wd hw 41 rfl)) (by decide) (t := (.object zs2)) (t' := .boolean) (by decide) (by decide))))
  have F2074 : Fld Z h2069 a2040 zs1 "refusedDo" zs3 (.ref a2043) := ((pF_a2040_refusedDo.other W2066 (Or.inr (slot_ne (Or.inr (wd hw 34 rfl)) (Or.inl (wd hw 48 rfl)) (by decide) (t := (.object zs2)) (t' := .boolean) (by decide) (by decide)))).other W2069 (Or.inr (slot_ne (Or.inr (wd hw 34 rfl)) (Or.inl (wd hw 41 rfl)) (by decide) (t := (.object zs2)) (t' := .boolean) (by decide) (by decide))))
  have F2075 : Fld Z h2069 a2040 zs1 "gmcpOffered" "Z" (.int (0 : Int32)) := (Fw2066.other W2069 (Or.inr (slot_ne (Or.inl (wd hw 48 rfl)) (Or.inl (wd hw 41 rfl)) (by decide) (t := .boolean) (t' := .boolean) (by decide) (by decide))))
  have F2076 : Fld Z h2069 a2040 zs1 "echoOffered" "Z" (.int p2053) := ((pF_a2040_echoOffered.other W2066 (Or.inr (slot_ne (Or.inl (wd hw 95 rfl)) (Or.inl (wd hw 48 rfl)) (by decide) (t := .boolean) (t' := .boolean) (by decide) (by decide)))).other W2069 (Or.inr (slot_ne (Or.inl (wd hw 95 rfl)) (Or.inl (wd hw 41 rfl)) (by decide) (t := .boolean) (t' := .boolean) (by decide) (by decide))))
  · show Q23 Z a2040 p2052 w6 a2041 a2043 p2053 h0 n0 _ T2070.heap _
    rw [e2070]
    exact ⟨rfl, N2069, (((Keep.refl h0 [a2040]).wr W2066 (Or.inl (List.mem_of_getElem? (i := 0) rfl))).wr W2069 (Or.inl (List.mem_of_getElem? (i := 0) rfl))), E2072, F2073, F2074, Fw2069, F2075, F2076⟩
def Q24 (Z : State) (a2014 : Addr) (w6 : Addr) (a2015 : Addr) (a2017 : Addr) (p2026 : Int32) (h0 : Heap) (n0 : Nat) (v : Option Value) (h : Heap) (L : List Loc) : Prop := v = some (.ref w6) ∧ Fr n0 L ∧ Keep h0 h [a2014] ∧ Exa Z h a2014 zs1 ∧ Fld Z h a2014 zs1 "refusedWill" zs3 (.ref a2015) ∧ Fld Z h a2014 zs1 "refusedDo" zs3 (.ref a2017) ∧ Fld Z h a2014 zs1 "gmcpOn" "Z" (.int (1 : Int32)) ∧ Fld Z h a2014 zs1 "gmcpOffered" "Z" (.int (0 : Int32)) ∧ Fld Z h a2014 zs1 "echoOffered" "Z" (.int p2026)
set_option maxRecDepth 65536 in
set_option maxHeartbeats 40000000 in
theorem rm24 (l : Launch) (Z : State) (a0 : Array Value) (hw : ∀ d ∈ tables_1, d.before a0 Z = true) (ws : List Jvm.Cond) (a2014 : Addr) (w6 : Addr) (a2015 : Addr) (a2017 : Addr) (p2026 : Int32) (h0 : Heap) (n0 : Nat) (O0 : Old Z n0 h0) (pF_a2014_gmcpOffered : Fld Z h0 a2014 zs1 "gmcpOffered" "Z" (.int (1 : Int32))) (pF_a2014_gmcpOn : Fld Z h0 a2014 zs1 "gmcpOn" "Z" (.int (0 : Int32))) (pE_a2014 : Exa Z h0 a2014 zs1) (pG_a2014 : n0 ≤ a2014) (S_TelnetOptions_NO_ANSWER : Sta Z Z.heap zs1 "NO_ANSWER" "[B" (.ref w6)) (pF_a2014_refusedWill : Fld Z h0 a2014 zs1 "refusedWill" zs3 (.ref a2015)) (pF_a2014_refusedDo : Fld Z h0 a2014 zs1 "refusedDo" zs3 (.ref a2017)) (pF_a2014_echoOffered : Fld Z h0 a2014 zs1 "echoOffered" "Z" (.int p2026)) :
    MetFree l (⟨zs1, "answer", "(II)[B"⟩ : MethodName) (head1 (Jvm.Cond.code (⟨zs1, "answer", "(II)[B"⟩ : MethodName) prog_61_method_2_code 4 (some (.array .byte)) :: ws) ({ frames := 1, cells := 0, slots := 0, locals := 14 } : Room)) (fun a U => a = #[(.ref a2014), (.int (253 : Int32)), (.int (201 : Int32))] ∧ Z.Warmed39 U.vm ∧ U.heap = h0) (fun _ _ _ _ _ => True) (fun _ U o U' => ∃ v L, o = .returned v ∧ Q24 Z a2014 w6 a2015 a2017 p2026 h0 n0 v U'.heap L ∧ FrameEnd U o U' L ({ frames := 1, cells := 0, slots := 0, locals := 14 } : Room).cells ({ frames := 1, cells := 0, slots := 0, locals := 14 } : Room).slots) := by
  refine MetFree.of_bodySF (plainFor_of_name pn_2) hisR ?_
  intro p e s m args below meth c s₁ Bd hml0 hP hK
  obtain ⟨rfl, hZ, hh⟩ := hP
  have hx := Bd.exec
  have hby := Bd.bytes
  have hml : c.maxLocals = 4 := hml0
  have hown : s.vm.findClass zs1 = some m.cls := findClass_of_methodNamed Bd.named
  have hnm := (name_of_methodNamed Bd.named Bd.method).1
  have X0 : Stand p l e ({ frames := 1, cells := 0, slots := 0, locals := 14 } : Room) s m #[(.ref a2014), (.int (253 : Int32)), (.int (201 : Int32))] below meth c s₁ [] 0 0 := Stand.of_body Bd
  have e0 : s₁.heap = h0 := by rw [← hh, Bd.state]; rfl
  have N0 := Fr.nil n0
  refine own_out ?_
  refine own_via (fun t k => castTop (ef_6 m a2014 (253 : Int32) (201 : Int32)) (XS.iloadN X0.here hx rfl (hb hby d7_0) rfl (XS.sipush X0.here hx rfl (hb hby d7_1) (XS.icmpNo X0.here hx rfl (hb hby d7_4) rfl (teq (by decide : (253 : Int32) = (253 : Int32))).2 (XS.iloadN X0.here hx rfl (hb hby d7_7) rfl (XS.iconst X0.here hx rfl (hb hby d7_8) (XS.icmpYes X0.here hx rfl (pc0 := 9) (pc' := 23) rfl (hb hby d7_9) rfl (feq (by decide : ¬ ((201 : Int32) = (1 : Int32)))).2 (by decide) (by decide) (XS.iloadN X0.here hx rfl (hb hby d7_23) rfl (XS.sipush X0.here hx rfl (hb hby d7_24) (XS.icmpNo X0.here hx rfl (hb hby d7_27) rfl (teq (by decide : (201 : Int32) = (201 : Int32))).2 (XS.iloadN X0.here hx rfl (hb hby d7_30) rfl (XS.sipush X0.here hx rfl (hb hby d7_31) k)))))))))))) ?_
  show own_Goes p e below (s₁.setTop (mkF m 34 #[rv a2014, iv (253 : Int32), iv (201 : Int32), .unset] [(.int (253 : Int32)), (.int (253 : Int32))])) _
  refine own_via (fun t k => XS.icmpYes X0.here hx rfl (pc0 := 34) (pc' := 44) rfl (hb hby d7_34) rfl (teq (by decide : (253 : Int32) = (253 : Int32))).1 (by decide) (by decide) (XS.aloadN X0.here hx rfl (hb hby d7_44) rfl rfl k)) ?_
  obtain ⟨T2038, X2038, e2038, st2038⟩ := getF X0 hx hZ hown (host := "") (Or.inl (wd hw 47 rfl)) Via.refl e0 pF_a2014_gmcpOffered (g := (mkF m 45 #[rv a2014, iv (253 : Int32), iv (201 : Int32), .unset] [(.ref a2014)])) rfl rfl (hb hby d7_45)
  refine own_via (fun t k => st2038 t (XS.ifYes X2038.here hx rfl (pc0 := 48) (pc' := 58) rfl (hb hby d7_48) rfl ((if0 _ _).trans (feq (by decide : ¬ ((1 : Int32) = (0 : Int32)))).2) (by decide) (by decide) (XS.aloadN X2038.here hx rfl (hb hby d7_58) rfl rfl (XS.iloadN X2038.here hx rfl (hb hby d7_59) rfl (XS.sipush X2038.here hx rfl (hb hby d7_60) (XS.icmpNo X2038.here hx rfl (hb hby d7_63) rfl (teq (by decide : (253 : Int32) = (253 : Int32))).2 (XS.iconst X2038.here hx rfl (hb hby d7_66) (XS.goto X2038.here hx rfl (pc0 := 67) (pc' := 71) rfl (hb hby d7_67) (by decide) (by decide) k)))))))) ?_
  show own_Goes p e below (T2038.setTop (mkF m 71 #[rv a2014, iv (253 : Int32), iv (201 : Int32), .unset] [(.int (1 : Int32)), (.ref a2014)])) _
  obtain ⟨cq2039, q2039, q2039'⟩ := pE_a2014.cell
  obtain ⟨_, _, ⟨T2039, L2039, c2039, n2039⟩, -, X2039, ⟨Lc2039, hQ2039, l2039, y2039, z2039⟩, st2039⟩ := X2038.privateBack hx (y := (⟨zs1, "settleGmcp", "(Z)[B"⟩ : MethodName)) hown (mvT hZ (wd hw 64 rfl)) (mvT hZ (wd hw 65 rfl)) (own_selPriv (mvT hZ (wd hw 1 rfl)) (mvT hZ (wd hw 65 rfl)) (Cond.privateMethod_at (mvP hZ (wd hw 66 rfl) (args := #[]))) (by decide)) (Cond.privateMethod_at (mvP hZ (wd hw 66 rfl) (args := #[]))) (mvT hZ (wd hw 67 rfl)) (by decide) (backOf (W := 0) (rm23 l Z a0 hw [] a2014 (1 : Int32) w6 a2015 a2017 p2026 h0 n0 O0 pF_a2014_gmcpOn pF_a2014_gmcpOffered pE_a2014 pG_a2014 S_TelnetOptions_NO_ANSWER pF_a2014_refusedWill pF_a2014_refusedDo pF_a2014_echoOffered) hZ (wd hw 67 rfl) (wd hw 2 rfl) (by decide) (by decide)) (g := (mkF m 71 #[rv a2014, iv (253 : Int32), iv (201 : Int32), .unset] [(.int (1 : Int32)), (.ref a2014)])) rfl (by rw [hml]; rfl) (Steps.refl _) (a := a2014) (by rw [e2038]; exact q2039) q2039' (argsL := [(.int (1 : Int32))]) (rest := []) (lenOf pd_9 rfl) rfl (by show 2 * 0 + _ ≤ _; exact Nat.le_of_eq rfl) (hb hby d7_71) (fun _ _ => ⟨rfl, e2038, (by decide : 0 + 0 ≤ _), (by decide : 0 + 0 ≤ _)⟩)
  dsimp only [Pt.U, Pt.locs, Pt.cells, Pt.slots] at X2039 l2039 y2039 z2039 st2039 hQ2039
  subst l2039 y2039 z2039
  obtain ⟨h2039, e2039⟩ : ∃ z, T2039.heap = z := ⟨_, rfl⟩
  rw [e2039] at hQ2039
  obtain ⟨rfl, Nq2039, K2039, ex2077, fx2078, fx2079, fx2080, fx2081, fx2082⟩ := hQ2039
  have N2039 := Fr.app N0 Nq2039
  refine own_via (fun t k => st2039.trans k) ?_
  obtain ⟨fs, hr, hrun, hended, hW, hsame⟩ := X2039.leave (v := some (.ref w6)) (fun h => by rw [Bd.returns] at h; cases h)
  refine own_end (t := T2039.setFrames fs) ?_ ⟨_, hrun, hended, _, _, rfl, ?_, ⟨_, rfl⟩, hW, hsame.mono (by decide) (by decide)⟩
  · jvm_step X2039.here [X2039.here.top, hx, (hb hby d7_74), X2039.method', Bd.returns, Value.isRef, FieldType.isReference]
    first | (intro acts; rw [hr _ acts rfl rfl rfl]) | rw [hr _ _ rfl rfl rfl]
    exact Steps.refl _
  · show Q24 Z a2014 w6 a2015 a2017 p2026 h0 n0 _ T2039.heap _
    rw [e2039]
    exact ⟨rfl, N2039, ((Keep.refl h0 [a2014]).trans K2039 (allS (Or.inl (List.mem_of_getElem? (i := 0) rfl)) all0)), ex2077, fx2078, fx2079, fx2080, fx2081, fx2082⟩
def Q25 (Z : State) (a2092 : Addr) (h0 : Heap) (n0 : Nat) (v : Option Value) (h : Heap) (L : List Loc) : Prop := v = some (.int (1 : Int32)) ∧ Fr n0 L ∧ h = h0
set_option maxRecDepth 65536 in
set_option maxHeartbeats 40000000 in
theorem rm25 (l : Launch) (Z : State) (a0 : Array Value) (hw : ∀ d ∈ tables_1, d.before a0 Z = true) (ws : List Jvm.Cond) (a2092 : Addr) (h0 : Heap) (n0 : Nat) (O0 : Old Z n0 h0) (pF_a2092_gmcpOn : Fld Z h0 a2092 zs1 "gmcpOn" "Z" (.int (1 : Int32))) :
    MetFree l (⟨zs1, "gmcpOn", "()Z"⟩ : MethodName) (head1 (Jvm.Cond.code (⟨zs1, "gmcpOn", "()Z"⟩ : MethodName) prog_61_method_4_code 1 (some .boolean) :: ws) ({ frames := 0, cells := 0, slots := 0, locals := 0 } : Room)) (fun a U => a = #[(.ref a2092)] ∧ Z.Warmed39 U.vm ∧ U.heap = h0) (fun _ _ _ _ _ => True) (fun _ U o U' => ∃ v L, o = .returned v ∧ Q25 Z a2092 h0 n0 v U'.heap L ∧ FrameEnd U o U' L ({ frames := 0, cells := 0, slots := 0, locals := 0 } : Room).cells ({ frames := 0, cells := 0, slots := 0, locals := 0 } : Room).slots) := by
  refine MetFree.of_bodySF (plainFor_of_name pn_2) hisR ?_
  intro p e s m args below meth c s₁ Bd hml0 hP hK
  obtain ⟨rfl, hZ, hh⟩ := hP
  have hx := Bd.exec
  have hby := Bd.bytes
  have hml : c.maxLocals = 1 := hml0
  have hown : s.vm.findClass zs1 = some m.cls := findClass_of_methodNamed Bd.named
  have hnm := (name_of_methodNamed Bd.named Bd.method).1
  have X0 : Stand p l e ({ frames := 0, cells := 0, slots := 0, locals := 0 } : Room) s m #[(.ref a2092)] below meth c s₁ [] 0 0 := Stand.of_body Bd
  have e0 : s₁.heap = h0 := by rw [← hh, Bd.state]; rfl
  have N0 := Fr.nil n0
  refine own_out ?_
  refine own_via (fun t k => castTop (ef_5 m a2092) (XS.aloadN X0.here hx rfl (hb hby d6_0) rfl rfl k)) ?_
  obtain ⟨T2117, X2117, e2117, st2117⟩ := getF X0 hx hZ hown (host := "") (Or.inl (wd hw 40 rfl)) Via.refl e0 pF_a2092_gmcpOn (g := (mkF m 1 #[rv a2092] [(.ref a2092)])) rfl rfl (hb hby d6_1)
  refine own_via (fun t k => st2117 t k) ?_
  obtain ⟨fs, hr, hrun, hended, hW, hsame⟩ := X2117.leave (v := some (.int (1 : Int32))) (fun h => by rw [Bd.returns] at h; cases h)
  refine own_end (t := T2117.setFrames fs) ?_ ⟨_, hrun, hended, _, _, rfl, ?_, ⟨_, rfl⟩, hW, hsame.mono (by decide) (by decide)⟩
  · exact retN X2117 hx (t := .boolean) Bd.returns (by simp) (hb hby d6_4) hr
  · show Q25 Z a2092 h0 n0 _ T2117.heap _
    rw [e2117]
    exact ⟨rfl, N0, rfl⟩
theorem d11_19 : decode prog_61_method_7_code 19 = .ok (.iload_n 1, 1) := by decide +kernel
theorem d11_20 : decode prog_61_method_7_code 20 = .ok (.ifCond .ne 15, 3) := by decide +kernel
def Q26 (Z : State) (a2371 : Addr) (p2387 : Int32) (w6 : Addr) (a2372 : Addr) (a2374 : Addr) (p2388 : Int32) (h0 : Heap) (n0 : Nat) (v : Option Value) (h : Heap) (L : List Loc) : Prop := v = some (.ref w6) ∧ Fr n0 L ∧ Keep h0 h [a2371] ∧ Exa Z h a2371 zs1 ∧ Fld Z h a2371 zs1 "refusedWill" zs3 (.ref a2372) ∧ Fld Z h a2371 zs1 "refusedDo" zs3 (.ref a2374) ∧ Fld Z h a2371 zs1 "gmcpOn" "Z" (.int (1 : Int32)) ∧ Fld Z h a2371 zs1 "gmcpOffered" "Z" (.int (0 : Int32)) ∧ Fld Z h a2371 zs1 "echoOffered" "Z" (.int p2388)
set_option maxRecDepth 65536 in
set_option maxHeartbeats 40000000 in
theorem rm26 (l : Launch) (Z : State) (a0 : Array Value) (hw : ∀ d ∈ tables_1, d.before a0 Z = true) (ws : List Jvm.Cond) (a2371 : Addr) (p2387 : Int32) (w6 : Addr) (a2372 : Addr) (a2374 : Addr) (p2388 : Int32) (h0 : Heap) (n0 : Nat) (O0 : Old Z n0 h0) (pF_a2371_gmcpOn : Fld Z h0 a2371 zs1 "gmcpOn" "Z" (.int (1 : Int32))) (pF_a2371_gmcpOffered : Fld Z h0 a2371 zs1 "gmcpOffered" "Z" (.int p2387)) (pE_a2371 : Exa Z h0 a2371 zs1) (pG_a2371 : n0 ≤ a2371) (S_TelnetOptions_NO_ANSWER : Sta Z Z.heap zs1 "NO_ANSWER" "[B" (.ref w6)) (pF_a2371_refusedWill : Fld Z h0 a2371 zs1 "refusedWill" zs3 (.ref a2372)) (pF_a2371_refusedDo : Fld Z h0 a2371 zs1 "refusedDo" zs3 (.ref a2374)) (pF_a2371_echoOffered : Fld Z h0 a2371 zs1 "echoOffered" "Z" (.int p2388)) :
    MetFree l (⟨zs1, "settleGmcp", "(Z)[B"⟩ : MethodName) (head1 (Jvm.Cond.code (⟨zs1, "settleGmcp", "(Z)[B"⟩ : MethodName) prog_61_method_7_code 3 (some (.array .byte)) :: ws) ({ frames := 0, cells := 0, slots := 0, locals := 0 } : Room)) (fun a U => a = #[(.ref a2371), (.int (1 : Int32))] ∧ Z.Warmed39 U.vm ∧ U.heap = h0) (fun _ _ _ _ _ => True) (fun _ U o U' => ∃ v L, o = .returned v ∧ Q26 Z a2371 p2387 w6 a2372 a2374 p2388 h0 n0 v U'.heap L ∧ FrameEnd U o U' L ({ frames := 0, cells := 0, slots := 0, locals := 0 } : Room).cells ({ frames := 0, cells := 0, slots := 0, locals := 0 } : Room).slots) := by
  refine MetFree.of_bodySF (plainFor_of_name pn_2) hisR ?_
  intro p e s m args below meth c s₁ Bd hml0 hP hK
  obtain ⟨rfl, hZ, hh⟩ := hP
  have hx := Bd.exec
  have hby := Bd.bytes
  have hml : c.maxLocals = 3 := hml0
  have hown : s.vm.findClass zs1 = some m.cls := findClass_of_methodNamed Bd.named
  have hnm := (name_of_methodNamed Bd.named Bd.method).1
  have X0 : Stand p l e ({ frames := 0, cells := 0, slots := 0, locals := 0 } : Room) s m #[(.ref a2371), (.int (1 : Int32))] below meth c s₁ [] 0 0 := Stand.of_body Bd
  have e0 : s₁.heap = h0 := by rw [← hh, Bd.state]; rfl
  have N0 := Fr.nil n0
  refine own_out ?_
  refine own_via (fun t k => castTop (ef_15 m a2371 (1 : Int32)) (XS.aloadN X0.here hx rfl (hb hby d11_0) rfl rfl k)) ?_
  obtain ⟨T2396, X2396, e2396, st2396⟩ := getF X0 hx hZ hown (host := "") (Or.inl (wd hw 40 rfl)) Via.refl e0 pF_a2371_gmcpOn (g := (mkF m 1 #[rv a2371, iv (1 : Int32), .unset] [(.ref a2371)])) rfl rfl (hb hby d11_1)
  refine own_via (fun t k => st2396 t (XS.istoreN X2396.here hx rfl (hb hby d11_4) rfl (l' := #[rv a2371, iv (1 : Int32), iv (1 : Int32)]) rfl (XS.aloadN X2396.here hx rfl (hb hby d11_5) rfl rfl (XS.iconst X2396.here hx rfl (hb hby d11_6) k)))) ?_
  show own_Goes p e below (T2396.setTop (mkF m 7 #[rv a2371, iv (1 : Int32), iv (1 : Int32)] [(.int (0 : Int32)), (.ref a2371)])) _
  obtain ⟨T2397, h2397, X2397, e2397, W2397, st2397⟩ := putFN X2396 hx hZ hown (wd hw 47 rfl) Via.refl e2396 pF_a2371_gmcpOffered pE_a2371 (Or.inl (wd hw 48 rfl)) (wd hw 1 rfl) (ty := .boolean) (v' := (.int (0 : Int32))) (by decide) rfl (by decide) (g := (mkF m 7 #[rv a2371, iv (1 : Int32), iv (1 : Int32)] [(.int (0 : Int32)), (.ref a2371)])) rfl rfl (hb hby d11_7)
  refine own_via (fun t k => st2397 t k) ?_
  have Fw2397 : Fld Z h2397 a2371 zs1 "gmcpOffered" "Z" (.int (0 : Int32)) := pF_a2371_gmcpOffered.same W2397
  have N2397 := Fr.snoc X2397 N0 pG_a2371
  show own_Goes p e below (T2397.setTop (mkF m 10 #[rv a2371, iv (1 : Int32), iv (1 : Int32)] [])) _
  refine own_via (fun t k => XS.aloadN X2397.here hx rfl (hb hby d11_10) rfl rfl (XS.iloadN X2397.here hx rfl (hb hby d11_11) rfl k)) ?_
  have F2398 : Fld Z h2397 a2371 zs1 "gmcpOn" "Z" (.int (1 : Int32)) := (pF_a2371_gmcpOn.other W2397 (Or.inr (slot_ne (Or.inl (wd hw 41 rfl)) (Or.inl (wd hw 48 rfl)) (by decide) (t := .boolean) (t' := .boolean) (by decide) (by decide))))
  have E2399 : Exa Z h2397 a2371 zs1 := (pE_a2371.wr W2397)
  obtain ⟨T2400, h2400, X2400, e2400, W2400, st2400⟩ := putFN X2397 hx hZ hown (wd hw 40 rfl) Via.refl e2397 F2398 E2399 (Or.inl (wd hw 41 rfl)) (wd hw 1 rfl) (ty := .boolean) (v' := (.int (1 : Int32))) (by decide) rfl (by decide) (g := (mkF m 12 #[rv a2371, iv (1 : Int32), iv (1 : Int32)] [(.int (1 : Int32)), (.ref a2371)])) rfl rfl (hb hby d11_12)
  refine own_via (fun t k => st2400 t k) ?_
  have Fw2400 : Fld Z h2400 a2371 zs1 "gmcpOn" "Z" (.int (1 : Int32)) := F2398.same W2400
  have N2400 := Fr.snoc X2400 N2397 pG_a2371
  show own_Goes p e below (T2400.setTop (mkF m 15 #[rv a2371, iv (1 : Int32), iv (1 : Int32)] [])) _
  refine own_via (fun t k => XS.iloadN X2400.here hx rfl (hb hby d11_15) rfl (XS.ifNo X2400.here hx rfl (hb hby d11_16) rfl ((if0 _ _).trans (feq (by decide : ¬ ((1 : Int32) = (0 : Int32)))).1) (XS.iloadN X2400.here hx rfl (hb hby d11_19) rfl (XS.ifYes X2400.here hx rfl (pc0 := 20) (pc' := 35) rfl (hb hby d11_20) rfl ((if0 _ _).trans (feq (by decide : ¬ ((1 : Int32) = (0 : Int32)))).2) (by decide) (by decide) k)))) ?_
  show own_Goes p e below (T2400.setTop (mkF m 35 #[rv a2371, iv (1 : Int32), iv (1 : Int32)] [])) _
  have O2402 : Old Z n0 h2400 := ((O0.wr W2397 pG_a2371).wr W2400 pG_a2371)
  obtain ⟨T2401, X2401, e2401, st2401⟩ := getS2 X2400 hx hZ hown (host := "") (Or.inl (wd hw 49 rfl)) Via.refl e2400 (S_TelnetOptions_NO_ANSWER.ext O2402.2) (g := (mkF m 35 #[rv a2371, iv (1 : Int32), iv (1 : Int32)] [])) rfl (hb hby d11_35)
  refine own_via (fun t k => st2401 t k) ?_
  obtain ⟨fs, hr, hrun, hended, hW, hsame⟩ := X2401.leave (v := some (.ref w6)) (fun h => by rw [Bd.returns] at h; cases h)
  refine own_end (t := T2401.setFrames fs) ?_ ⟨_, hrun, hended, _, _, rfl, ?_, ⟨_, rfl⟩, hW, hsame.mono (by decide) (by decide)⟩
  · jvm_step X2401.here [X2401.here.top, hx, (hb hby d11_38), X2401.method', Bd.returns, Value.isRef, FieldType.isReference]
    first | (intro acts; rw [hr _ acts rfl rfl rfl]) | rw [hr _ _ rfl rfl rfl]
    exact Steps.refl _
  have E2403 : Exa Z h2400 a2371 zs1 := (E2399.wr W2400)
  have F2404 : Fld Z h2400 a2371 zs1 "refusedWill" zs3 (.ref a2372) := ((pF_a2371_refusedWill.other W2397 (Or.inr (slot_ne (Or.inr (wd hw 32 rfl)) (Or.inl (wd hw 48 rfl)) (by decide) (t := (.object zs2)) (t' := .boolean) (by decide) (by decide)))).other W2400 (Or.inr (slot_ne (Or.inr (wd hw 32 rfl)) (Or.inl (wd hw 41 rfl)) (by decide) (t := (.object zs2)) (t' := .boolean) (by decide) (by decide))))
  have F2405 : Fld Z h2400 a2371 zs1 "refusedDo" zs3 (.ref a2374) := ((pF_a2371_refusedDo.other W2397 (Or.inr (slot_ne (Or.inr (wd hw 34 rfl)) (Or.inl (wd hw 48 rfl)) (by decide) (t := (.object zs2)) (t' := .boolean) (by decide) (by decide)))).other W2400 (Or.inr (slot_ne (Or.inr (wd hw 34 rfl)) (Or.inl (wd hw 41 rfl)) (by decide) (t := (.object zs2)) (t' := .boolean) (by decide) (by decide))))
  have F2406 : Fld Z h2400 a2371 zs1 "gmcpOffered" "Z" (.int (0 : Int32)) := (Fw2397.other W2400 (Or.inr (slot_ne (Or.inl (wd hw 48 rfl)) (Or.inl (wd hw 41 rfl)) (by decide) (t := .boolean) (t' := .boolean) (by decide) (by decide))))
  have F2407 : Fld Z h2400 a2371 zs1 "echoOffered" "Z" (.int p2388) := ((pF_a2371_echoOffered.other W2397 (Or.inr (slot_ne (Or.inl (wd hw 95 rfl)) (Or.inl (wd hw 48 rfl)) (by decide) (t := .boolean) (t' := .boolean) (by decide) (by decide)))).other W2400 (Or.inr (slot_ne (Or.inl (wd hw 95 rfl)) (Or.inl (wd hw 41 rfl)) (by decide) (t := .boolean) (t' := .boolean) (by decide) (by decide))))
  · show Q26 Z a2371 p2387 w6 a2372 a2374 p2388 h0 n0 _ T2401.heap _
    rw [e2401]
    exact ⟨rfl, N2400, (((Keep.refl h0 [a2371]).wr W2397 (Or.inl (List.mem_of_getElem? (i := 0) rfl))).wr W2400 (Or.inl (List.mem_of_getElem? (i := 0) rfl))), E2403, F2404, F2405, Fw2400, F2406, F2407⟩
def Q27 (Z : State) (a2344 : Addr) (w6 : Addr) (a2345 : Addr) (a2347 : Addr) (p2360 : Int32) (h0 : Heap) (n0 : Nat) (v : Option Value) (h : Heap) (L : List Loc) : Prop := v = some (.ref w6) ∧ Fr n0 L ∧ Keep h0 h [a2344] ∧ Exa Z h a2344 zs1 ∧ Fld Z h a2344 zs1 "refusedWill" zs3 (.ref a2345) ∧ Fld Z h a2344 zs1 "refusedDo" zs3 (.ref a2347) ∧ Fld Z h a2344 zs1 "gmcpOn" "Z" (.int (1 : Int32)) ∧ Fld Z h a2344 zs1 "gmcpOffered" "Z" (.int (0 : Int32)) ∧ Fld Z h a2344 zs1 "echoOffered" "Z" (.int p2360)
set_option maxRecDepth 65536 in
set_option maxHeartbeats 40000000 in
theorem rm27 (l : Launch) (Z : State) (a0 : Array Value) (hw : ∀ d ∈ tables_1, d.before a0 Z = true) (ws : List Jvm.Cond) (a2344 : Addr) (w6 : Addr) (a2345 : Addr) (a2347 : Addr) (p2360 : Int32) (h0 : Heap) (n0 : Nat) (O0 : Old Z n0 h0) (pF_a2344_gmcpOffered : Fld Z h0 a2344 zs1 "gmcpOffered" "Z" (.int (0 : Int32))) (pF_a2344_gmcpOn : Fld Z h0 a2344 zs1 "gmcpOn" "Z" (.int (1 : Int32))) (pE_a2344 : Exa Z h0 a2344 zs1) (pG_a2344 : n0 ≤ a2344) (S_TelnetOptions_NO_ANSWER : Sta Z Z.heap zs1 "NO_ANSWER" "[B" (.ref w6)) (pF_a2344_refusedWill : Fld Z h0 a2344 zs1 "refusedWill" zs3 (.ref a2345)) (pF_a2344_refusedDo : Fld Z h0 a2344 zs1 "refusedDo" zs3 (.ref a2347)) (pF_a2344_echoOffered : Fld Z h0 a2344 zs1 "echoOffered" "Z" (.int p2360)) :
    MetFree l (⟨zs1, "answer", "(II)[B"⟩ : MethodName) (head1 (Jvm.Cond.code (⟨zs1, "answer", "(II)[B"⟩ : MethodName) prog_61_method_2_code 4 (some (.array .byte)) :: ws) ({ frames := 1, cells := 0, slots := 0, locals := 14 } : Room)) (fun a U => a = #[(.ref a2344), (.int (253 : Int32)), (.int (201 : Int32))] ∧ Z.Warmed39 U.vm ∧ U.heap = h0) (fun _ _ _ _ _ => True) (fun _ U o U' => ∃ v L, o = .returned v ∧ Q27 Z a2344 w6 a2345 a2347 p2360 h0 n0 v U'.heap L ∧ FrameEnd U o U' L ({ frames := 1, cells := 0, slots := 0, locals := 14 } : Room).cells ({ frames := 1, cells := 0, slots := 0, locals := 14 } : Room).slots) := by
  refine MetFree.of_bodySF (plainFor_of_name pn_2) hisR ?_
  intro p e s m args below meth c s₁ Bd hml0 hP hK
  obtain ⟨rfl, hZ, hh⟩ := hP
  have hx := Bd.exec
  have hby := Bd.bytes
  have hml : c.maxLocals = 4 := hml0
  have hown : s.vm.findClass zs1 = some m.cls := findClass_of_methodNamed Bd.named
  have hnm := (name_of_methodNamed Bd.named Bd.method).1
  have X0 : Stand p l e ({ frames := 1, cells := 0, slots := 0, locals := 14 } : Room) s m #[(.ref a2344), (.int (253 : Int32)), (.int (201 : Int32))] below meth c s₁ [] 0 0 := Stand.of_body Bd
  have e0 : s₁.heap = h0 := by rw [← hh, Bd.state]; rfl
  have N0 := Fr.nil n0
  refine own_out ?_
  refine own_via (fun t k => castTop (ef_6 m a2344 (253 : Int32) (201 : Int32)) (XS.iloadN X0.here hx rfl (hb hby d7_0) rfl (XS.sipush X0.here hx rfl (hb hby d7_1) (XS.icmpNo X0.here hx rfl (hb hby d7_4) rfl (teq (by decide : (253 : Int32) = (253 : Int32))).2 (XS.iloadN X0.here hx rfl (hb hby d7_7) rfl (XS.iconst X0.here hx rfl (hb hby d7_8) (XS.icmpYes X0.here hx rfl (pc0 := 9) (pc' := 23) rfl (hb hby d7_9) rfl (feq (by decide : ¬ ((201 : Int32) = (1 : Int32)))).2 (by decide) (by decide) (XS.iloadN X0.here hx rfl (hb hby d7_23) rfl (XS.sipush X0.here hx rfl (hb hby d7_24) (XS.icmpNo X0.here hx rfl (hb hby d7_27) rfl (teq (by decide : (201 : Int32) = (201 : Int32))).2 (XS.iloadN X0.here hx rfl (hb hby d7_30) rfl (XS.sipush X0.here hx rfl (hb hby d7_31) k)))))))))))) ?_
  show own_Goes p e below (s₁.setTop (mkF m 34 #[rv a2344, iv (253 : Int32), iv (201 : Int32), .unset] [(.int (253 : Int32)), (.int (253 : Int32))])) _
  refine own_via (fun t k => XS.icmpYes X0.here hx rfl (pc0 := 34) (pc' := 44) rfl (hb hby d7_34) rfl (teq (by decide : (253 : Int32) = (253 : Int32))).1 (by decide) (by decide) (XS.aloadN X0.here hx rfl (hb hby d7_44) rfl rfl k)) ?_
  obtain ⟨T2368, X2368, e2368, st2368⟩ := getF X0 hx hZ hown (host := "") (Or.inl (wd hw 47 rfl)) Via.refl e0 pF_a2344_gmcpOffered (g := (mkF m 45 #[rv a2344, iv (253 : Int32), iv (201 : Int32), .unset] [(.ref a2344)])) rfl rfl (hb hby d7_45)
  refine own_via (fun t k => st2368 t (XS.ifNo X2368.here hx rfl (hb hby d7_48) rfl ((if0 _ _).trans (teq (by decide : (0 : Int32) = (0 : Int32))).2) (XS.aloadN X2368.here hx rfl (hb hby d7_51) rfl rfl k))) ?_
  show own_Goes p e below (T2368.setTop (mkF m 52 #[rv a2344, iv (253 : Int32), iv (201 : Int32), .unset] [(.ref a2344)])) _
  obtain ⟨T2369, X2369, e2369, st2369⟩ := getF X2368 hx hZ hown (host := "") (Or.inl (wd hw 40 rfl)) Via.refl e2368 pF_a2344_gmcpOn (g := (mkF m 52 #[rv a2344, iv (253 : Int32), iv (201 : Int32), .unset] [(.ref a2344)])) rfl rfl (hb hby d7_52)
  refine own_via (fun t k => st2369 t (XS.ifNo X2369.here hx rfl (hb hby d7_55) rfl ((if0 _ _).trans (feq (by decide : ¬ ((1 : Int32) = (0 : Int32)))).1) (XS.aloadN X2369.here hx rfl (hb hby d7_58) rfl rfl (XS.iloadN X2369.here hx rfl (hb hby d7_59) rfl (XS.sipush X2369.here hx rfl (hb hby d7_60) (XS.icmpNo X2369.here hx rfl (hb hby d7_63) rfl (teq (by decide : (253 : Int32) = (253 : Int32))).2 (XS.iconst X2369.here hx rfl (hb hby d7_66) (XS.goto X2369.here hx rfl (pc0 := 67) (pc' := 71) rfl (hb hby d7_67) (by decide) (by decide) k)))))))) ?_
  show own_Goes p e below (T2369.setTop (mkF m 71 #[rv a2344, iv (253 : Int32), iv (201 : Int32), .unset] [(.int (1 : Int32)), (.ref a2344)])) _
  obtain ⟨cq2370, q2370, q2370'⟩ := pE_a2344.cell
  obtain ⟨_, _, ⟨T2370, L2370, c2370, n2370⟩, -, X2370, ⟨Lc2370, hQ2370, l2370, y2370, z2370⟩, st2370⟩ := X2369.privateBack hx (y := (⟨zs1, "settleGmcp", "(Z)[B"⟩ : MethodName)) hown (mvT hZ (wd hw 64 rfl)) (mvT hZ (wd hw 65 rfl)) (own_selPriv (mvT hZ (wd hw 1 rfl)) (mvT hZ (wd hw 65 rfl)) (Cond.privateMethod_at (mvP hZ (wd hw 66 rfl) (args := #[]))) (by decide)) (Cond.privateMethod_at (mvP hZ (wd hw 66 rfl) (args := #[]))) (mvT hZ (wd hw 67 rfl)) (by decide) (backOf (W := 0) (rm26 l Z a0 hw [] a2344 (0 : Int32) w6 a2345 a2347 p2360 h0 n0 O0 pF_a2344_gmcpOn pF_a2344_gmcpOffered pE_a2344 pG_a2344 S_TelnetOptions_NO_ANSWER pF_a2344_refusedWill pF_a2344_refusedDo pF_a2344_echoOffered) hZ (wd hw 67 rfl) (wd hw 2 rfl) (by decide) (by decide)) (g := (mkF m 71 #[rv a2344, iv (253 : Int32), iv (201 : Int32), .unset] [(.int (1 : Int32)), (.ref a2344)])) rfl (by rw [hml]; rfl) (Steps.refl _) (a := a2344) (by rw [e2369]; exact q2370) q2370' (argsL := [(.int (1 : Int32))]) (rest := []) (lenOf pd_9 rfl) rfl (by show 2 * 0 + _ ≤ _; exact Nat.le_of_eq rfl) (hb hby d7_71) (fun _ _ => ⟨rfl, e2369, (by decide : 0 + 0 ≤ _), (by decide : 0 + 0 ≤ _)⟩)
  dsimp only [Pt.U, Pt.locs, Pt.cells, Pt.slots] at X2370 l2370 y2370 z2370 st2370 hQ2370
  subst l2370 y2370 z2370
  obtain ⟨h2370, e2370⟩ : ∃ z, T2370.heap = z := ⟨_, rfl⟩
  rw [e2370] at hQ2370
  obtain ⟨rfl, Nq2370, K2370, ex2408, fx2409, fx2410, fx2411, fx2412, fx2413⟩ := hQ2370
  have N2370 := Fr.app N0 Nq2370
  refine own_via (fun t k => st2370.trans k) ?_
  obtain ⟨fs, hr, hrun, hended, hW, hsame⟩ := X2370.leave (v := some (.ref w6)) (fun h => by rw [Bd.returns] at h; cases h)
  refine own_end (t := T2370.setFrames fs) ?_ ⟨_, hrun, hended, _, _, rfl, ?_, ⟨_, rfl⟩, hW, hsame.mono (by decide) (by decide)⟩
  · jvm_step X2370.here [X2370.here.top, hx, (hb hby d7_74), X2370.method', Bd.returns, Value.isRef, FieldType.isReference]
    first | (intro acts; rw [hr _ acts rfl rfl rfl]) | rw [hr _ _ rfl rfl rfl]
    exact Steps.refl _
  · show Q27 Z a2344 w6 a2345 a2347 p2360 h0 n0 _ T2370.heap _
    rw [e2370]
    exact ⟨rfl, N2370, ((Keep.refl h0 [a2344]).trans K2370 (allS (Or.inl (List.mem_of_getElem? (i := 0) rfl)) all0)), ex2408, fx2409, fx2410, fx2411, fx2412, fx2413⟩
theorem ef_16 (m : MethodId) (x0 : Int32) : entryFrame m #[(.int x0)] maxLocals = mkF m 0 #[iv x0, .unset, .unset, .unset, .unset, .unset, .unset, .unset, .unset] [] := by first | (simp [entryFrame, mkF, argsToLocals, Value.category, maxLocals]; done) | rfl
set_option maxRecDepth 65536 in
set_option maxHeartbeats 40000000 in
theorem rm0 (l : Launch) (Z : State) (a0 : Array Value) (hw : ∀ d ∈ tables_1, d.before a0 Z = true) (ws : List Jvm.Cond) (i0 : Int32) (w6 : Addr) (kc_w6 : ClassId) (h0 : Heap) (n0 : Nat) (O0 : Old Z n0 h0) (S_TelnetOptions_NO_ANSWER : Sta Z Z.heap zs1 "NO_ANSWER" "[B" (.ref w6)) (SV_w6 : Arv Z Z.heap w6 kc_w6 .byte (0 : Int32) [] (.int (0 : Int32))) (S_BitSet__assertionsDisabled : Sta Z Z.heap zs2 zs6 "Z" (.int (1 : Int32))) :
    MetFree l x (head1 (Jvm.Cond.code x code maxLocals ret :: ws) room_1) (fun a U => a = #[(.int i0)] ∧ Z.Warmed39 U.vm ∧ U.heap = h0) (fun _ _ _ _ _ => True) (fun _ U o U' => ∃ v L, o = .returned v ∧ own_Q0 n0 v L ∧ FrameEnd U o U' L room_1.cells room_1.slots) := by
  refine MetFree.of_bodySF (plainFor_of_name pn_3) hisR ?_
  intro p e s m args below meth c s₁ Bd hml0 hP hK
  obtain ⟨rfl, hZ, hh⟩ := hP
  have hx := Bd.exec
  have hby := Bd.bytes
  have hml : c.maxLocals = 9 := hml0
  have hown : s.vm.findClass zs4 = some m.cls := findClass_of_methodNamed Bd.named
  have hnm := (name_of_methodNamed Bd.named Bd.method).1
  have X0 : Stand p l e room_1 s m #[(.int i0)] below meth c s₁ [] 0 0 := Stand.of_body Bd
  have e0 : s₁.heap = h0 := by rw [← hh, Bd.state]; rfl
  have N0 := Fr.nil n0
  refine own_out ?_
  show own_Goes p e below _ (own_G s below n0)
  refine own_via (fun t k => castTop (ef_16 m i0) (XS.iloadN X0.here hx rfl (hb hby at_0) rfl (XS.iconst X0.here hx rfl (hb hby at_1) (XS.iand X0.here hx rfl (hb hby at_2) rfl k)))) ?_
  show own_Goes p e below (s₁.setTop (mkF m 3 #[iv i0, .unset, .unset, .unset, .unset, .unset, .unset, .unset, .unset] [(.int (i0 &&& (1 : Int32)))])) _
  by_cases hc10 : (i0 &&& (1 : Int32)) = (0 : Int32)
  · refine own_via (fun t k => XS.ifYes X0.here hx rfl (pc0 := 3) (pc' := 10) rfl (hb hby at_3) rfl ((if0 _ _).trans (teq hc10).1) (by decide) (by decide) (XS.iconst X0.here hx rfl (hb hby at_10) (XS.istoreN X0.here hx rfl (hb hby at_11) rfl (l' := #[iv i0, iv (0 : Int32), .unset, .unset, .unset, .unset, .unset, .unset, .unset]) rfl (XS.iloadN X0.here hx rfl (hb hby at_12) rfl (XS.iconst X0.here hx rfl (hb hby at_13) (XS.iand X0.here hx rfl (hb hby at_14) rfl k)))))) ?_
    show own_Goes p e below (s₁.setTop (mkF m 15 #[iv i0, iv (0 : Int32), .unset, .unset, .unset, .unset, .unset, .unset, .unset] [(.int (i0 &&& (2 : Int32)))])) _
    by_cases hc11 : (i0 &&& (2 : Int32)) = (0 : Int32)
    · refine own_via (fun t k => XS.ifYes X0.here hx rfl (pc0 := 15) (pc' := 22) rfl (hb hby at_15) rfl ((if0 _ _).trans (teq hc11).1) (by decide) (by decide) (XS.iconst X0.here hx rfl (hb hby at_22) (XS.istoreN X0.here hx rfl (hb hby at_23) rfl (l' := #[iv i0, iv (0 : Int32), iv (0 : Int32), .unset, .unset, .unset, .unset, .unset, .unset]) rfl (XS.iloadN X0.here hx rfl (hb hby at_24) rfl (XS.iconst X0.here hx rfl (hb hby at_25) (XS.iand X0.here hx rfl (hb hby at_26) rfl k)))))) ?_
      show own_Goes p e below (s₁.setTop (mkF m 27 #[iv i0, iv (0 : Int32), iv (0 : Int32), .unset, .unset, .unset, .unset, .unset, .unset] [(.int (i0 &&& (4 : Int32)))])) _
      by_cases hc12 : (i0 &&& (4 : Int32)) = (0 : Int32)
      · refine own_via (fun t k => XS.ifYes X0.here hx rfl (pc0 := 27) (pc' := 34) rfl (hb hby at_27) rfl ((if0 _ _).trans (teq hc12).1) (by decide) (by decide) (XS.iconst X0.here hx rfl (hb hby at_34) (XS.istoreN X0.here hx rfl (hb hby at_35) rfl (l' := #[iv i0, iv (0 : Int32), iv (0 : Int32), iv (0 : Int32), .unset, .unset, .unset, .unset, .unset]) rfl (XS.iloadN X0.here hx rfl (hb hby at_36) rfl (XS.bipush X0.here hx rfl (hb hby at_37) (XS.iand X0.here hx rfl (hb hby at_39) rfl k)))))) ?_
        show own_Goes p e below (s₁.setTop (mkF m 40 #[iv i0, iv (0 : Int32), iv (0 : Int32), iv (0 : Int32), .unset, .unset, .unset, .unset, .unset] [(.int (i0 &&& (8 : Int32)))])) _
        by_cases hc13 : (i0 &&& (8 : Int32)) = (0 : Int32)
        · refine own_via (fun t k => XS.ifYes X0.here hx rfl (pc0 := 40) (pc' := 47) rfl (hb hby at_40) rfl ((if0 _ _).trans (teq hc13).1) (by decide) (by decide) (XS.iconst X0.here hx rfl (hb hby at_47) (XS.istore X0.here hx rfl (hb hby at_48) rfl (l' := #[iv i0, iv (0 : Int32), iv (0 : Int32), iv (0 : Int32), iv (0 : Int32), .unset, .unset, .unset, .unset]) rfl k))) ?_
          show own_Goes p e below (s₁.setTop (mkF m 50 #[iv i0, iv (0 : Int32), iv (0 : Int32), iv (0 : Int32), iv (0 : Int32), .unset, .unset, .unset, .unset] [])) _
          obtain ⟨T14, h14, X14, e14, E14, A14, D14, -, st14⟩ := newO X0 hx hZ hown (wd hw 0 rfl) (wd hw 1 rfl) (wd hw 2 rfl) e0 (g := (mkF m 50 #[iv i0, iv (0 : Int32), iv (0 : Int32), iv (0 : Int32), iv (0 : Int32), .unset, .unset, .unset, .unset] [])) rfl (hb hby at_50) (by decide) (by decide)
          obtain ⟨b15, q14⟩ : ∃ z, z = h0.size := ⟨_, rfl⟩
          rw [← q14] at A14 D14 st14
          refine own_via (fun t k => st14 t k) ?_
          have g16 : n0 ≤ b15 := Nat.le_trans (own_old O0) (Nat.le_of_eq q14.symm)
          have B17 : h0.size ≤ b15 := Nat.le_trans (Nat.le_refl _) (Nat.le_of_eq q14.symm)
          have F18 : Fld Z h14 b15 zs1 "refusedWill" zs3 .null := D14 (Or.inr (wd hw 32 rfl)) (ty := (.object zs2)) (by decide)
          have F19 : Fld Z h14 b15 zs1 "refusedDo" zs3 .null := D14 (Or.inr (wd hw 34 rfl)) (ty := (.object zs2)) (by decide)
          have F20 : Fld Z h14 b15 zs1 "gmcpOn" "Z" (.int (0 : Int32)) := D14 (Or.inl (wd hw 41 rfl)) (ty := .boolean) (by decide)
          have F21 : Fld Z h14 b15 zs1 "gmcpOffered" "Z" (.int (0 : Int32)) := D14 (Or.inl (wd hw 48 rfl)) (ty := .boolean) (by decide)
          have F22 : Fld Z h14 b15 zs1 "echoOffered" "Z" (.int (0 : Int32)) := D14 (Or.inl (wd hw 95 rfl)) (ty := .boolean) (by decide)
          show own_Goes p e below (T14.setTop (mkF m 53 #[iv i0, iv (0 : Int32), iv (0 : Int32), iv (0 : Int32), iv (0 : Int32), .unset, .unset, .unset, .unset] [(.ref b15)])) _
          refine own_via (fun t k => XS.dup X14.here hx rfl (hb hby at_53) rfl rfl k) ?_
          have O191 : Old Z n0 h14 := (O0.ext E14)
          obtain ⟨_, T23, _, X23, hQ23, st23⟩ := own_ci X14 hx hZ hown (wd hw 3 rfl) (wd hw 4 rfl) (wd hw 5 rfl) (wd hw 2 rfl) rfl (by decide) (rm4 l Z a0 hw [] b15 (0 : Int32) (0 : Int32) (0 : Int32) h14 n0 O191 F18 A14 g16 F19 F20 F21 F22) e14 (g := (mkF m 54 #[iv i0, iv (0 : Int32), iv (0 : Int32), iv (0 : Int32), iv (0 : Int32), .unset, .unset, .unset, .unset] [(.ref b15), (.ref b15)])) rfl (by rw [hml]; rfl) (rest := [(.ref b15)]) (W := 1) (lenOf pd_3 rfl) rfl (by show 2 * 0 + _ ≤ _; exact Nat.le_of_eq rfl) (hb hby at_54) (by decide) (by decide) (by decide) (by decide)
          obtain ⟨h23, e23⟩ : ∃ z, T23.heap = z := ⟨_, rfl⟩
          rw [e23] at hQ23
          obtain ⟨b192, b193, k194, b195, b196, k197, rfl, Nq23, K23, ex198, fx199, fx200, fx201, fx202, fx203, bx204, ex205, fx206, fx207, fx208, bx209, vx210, bx211, ex212, fx213, fx214, fx215, bx216, vx217, nx218, nx219, nx220, nx221, nx222, nx223⟩ := hQ23
          have N23 := Fr.app N0 Nq23
          have N224 : b15 ≠ b192 := Nat.ne_of_lt (Nat.lt_of_lt_of_le A14.lt bx204)
          have g225 : n0 ≤ b192 := Nat.le_trans (own_old O191) bx204
          have Z227 : h0.size ≤ h14.size := (Nat.le_trans (Nat.le_refl _) E14.1)
          have B226 : h0.size ≤ b192 := Nat.le_trans Z227 bx204
          have N228 : b15 ≠ b193 := Nat.ne_of_lt (Nat.lt_of_lt_of_le A14.lt bx209)
          have g229 : n0 ≤ b193 := Nat.le_trans (own_old O191) bx209
          have B230 : h0.size ≤ b193 := Nat.le_trans Z227 bx209
          have N231 : b15 ≠ b195 := Nat.ne_of_lt (Nat.lt_of_lt_of_le A14.lt bx211)
          have g232 : n0 ≤ b195 := Nat.le_trans (own_old O191) bx211
          have B233 : h0.size ≤ b195 := Nat.le_trans Z227 bx211
          have N234 : b15 ≠ b196 := Nat.ne_of_lt (Nat.lt_of_lt_of_le A14.lt bx216)
          have g235 : n0 ≤ b196 := Nat.le_trans (own_old O191) bx216
          have B236 : h0.size ≤ b196 := Nat.le_trans Z227 bx216
          refine own_via (fun t k => st23 t (XS.astore X23.here hx rfl (hb hby at_57) rfl rfl (l' := #[iv i0, iv (0 : Int32), iv (0 : Int32), iv (0 : Int32), iv (0 : Int32), rv b15, .unset, .unset, .unset]) rfl (XS.iconst X23.here hx rfl (hb hby at_59) (XS.istore X23.here hx rfl (hb hby at_60) rfl (l' := #[iv i0, iv (0 : Int32), iv (0 : Int32), iv (0 : Int32), iv (0 : Int32), rv b15, iv (1 : Int32), .unset, .unset]) rfl (XS.iloadN X23.here hx rfl (hb hby at_62) rfl (XS.ifYes X23.here hx rfl (pc0 := 63) (pc' := 136) rfl (hb hby at_63) rfl ((if0 _ _).trans (teq (by decide : (0 : Int32) = (0 : Int32))).1) (by decide) (by decide) (XS.iload X23.here hx rfl (hb hby at_136) rfl (XS.ifNo X23.here hx rfl (hb hby at_138) rfl ((if0 _ _).trans (feq (by decide : ¬ ((1 : Int32) = (0 : Int32)))).1) (XS.aload X23.here hx rfl (hb hby at_141) rfl rfl k))))))))) ?_
          show own_Goes p e below (T23.setTop (mkF m 143 #[iv i0, iv (0 : Int32), iv (0 : Int32), iv (0 : Int32), iv (0 : Int32), rv b15, iv (1 : Int32), .unset, .unset] [(.ref b15)])) _
          have O259 : Old Z n0 h23 := (O191.keep K23 (allS g16 all0))
          obtain ⟨_, T237, _, X237, hQ237, st237⟩ := own_cv X23 hx hZ hown (wd hw 35 rfl) (wd hw 36 rfl) (wd hw 38 rfl) (wd hw 37 rfl) (wd hw 39 rfl) (wd hw 2 rfl) (by decide) (rm5 l Z a0 hw [] b15 h23 n0 O259 fx201) e23 ex198 (g := (mkF m 143 #[iv i0, iv (0 : Int32), iv (0 : Int32), iv (0 : Int32), iv (0 : Int32), rv b15, iv (1 : Int32), .unset, .unset] [(.ref b15)])) rfl (by rw [hml]; rfl) (rest := []) (W := 0) (lenOf pd_4 rfl) rfl (by show 2 * 0 + _ ≤ _; exact Nat.le_of_eq rfl) (hb hby at_143) (by decide) (by decide) (by decide) (by decide)
          obtain ⟨rfl, Nq237, hh260⟩ := hQ237
          have N237 := Fr.app N23 Nq237
          refine own_via (fun t k => st237 t (XS.ifNo X237.here hx rfl (hb hby at_146) rfl ((if0 _ _).trans (teq (by decide : (0 : Int32) = (0 : Int32))).2) (XS.iconst X237.here hx rfl (hb hby at_149) (XS.goto X237.here hx rfl (pc0 := 150) (pc' := 154) rfl (hb hby at_150) (by decide) (by decide) (XS.istore X237.here hx rfl (hb hby at_154) rfl (l' := #[iv i0, iv (0 : Int32), iv (0 : Int32), iv (0 : Int32), iv (0 : Int32), rv b15, iv (1 : Int32), .unset, .unset]) rfl (XS.aload X237.here hx rfl (hb hby at_156) rfl rfl (XS.iloadN X237.here hx rfl (hb hby at_158) rfl (XS.ifYes X237.here hx rfl (pc0 := 159) (pc' := 168) rfl (hb hby at_159) rfl ((if0 _ _).trans (teq (by decide : (0 : Int32) = (0 : Int32))).1) (by decide) (by decide) (XS.sipush X237.here hx rfl (hb hby at_168) (XS.sipush X237.here hx rfl (hb hby at_171) k)))))))))) ?_
          show own_Goes p e below (T237.setTop (mkF m 174 #[iv i0, iv (0 : Int32), iv (0 : Int32), iv (0 : Int32), iv (0 : Int32), rv b15, iv (1 : Int32), .unset, .unset] [(.int (201 : Int32)), (.int (254 : Int32)), (.ref b15)])) _
          obtain ⟨_, T261, _, X261, hQ261, st261⟩ := own_cv X237 hx hZ hown (wd hw 42 rfl) (wd hw 43 rfl) (wd hw 45 rfl) (wd hw 44 rfl) (wd hw 46 rfl) (wd hw 2 rfl) (by decide) (rm6 l Z a0 hw [] b15 w6 h23 n0 O259 fx202 fx201 S_TelnetOptions_NO_ANSWER) hh260 ex198 (g := (mkF m 174 #[iv i0, iv (0 : Int32), iv (0 : Int32), iv (0 : Int32), iv (0 : Int32), rv b15, iv (1 : Int32), .unset, .unset] [(.int (201 : Int32)), (.int (254 : Int32)), (.ref b15)])) rfl (by rw [hml]; rfl) (rest := []) (W := 0) (lenOf pd_5 rfl) rfl (by show 2 * 0 + _ ≤ _; exact Nat.le_of_eq rfl) (hb hby at_174) (by decide) (by decide) (by decide) (by decide)
          obtain ⟨rfl, Nq261, hh284⟩ := hQ261
          have N261 := Fr.app N237 Nq261
          refine own_via (fun t k => st261 t (XS.astore X261.here hx rfl (hb hby at_177) rfl rfl (l' := #[iv i0, iv (0 : Int32), iv (0 : Int32), iv (0 : Int32), iv (0 : Int32), rv b15, iv (1 : Int32), rv w6, .unset]) rfl (XS.iloadN X261.here hx rfl (hb hby at_179) rfl (XS.ifYes X261.here hx rfl (pc0 := 180) (pc' := 213) rfl (hb hby at_180) rfl ((if0 _ _).trans (teq (by decide : (0 : Int32) = (0 : Int32))).1) (by decide) (by decide) (XS.iload X261.here hx rfl (hb hby at_213) rfl (XS.ifNo X261.here hx rfl (hb hby at_215) rfl ((if0 _ _).trans (feq (by decide : ¬ ((1 : Int32) = (0 : Int32)))).1) (XS.iloadN X261.here hx rfl (hb hby at_218) rfl (XS.ifYes X261.here hx rfl (pc0 := 219) (pc' := 236) rfl (hb hby at_219) rfl ((if0 _ _).trans (teq (by decide : (0 : Int32) = (0 : Int32))).1) (by decide) (by decide) (XS.aload X261.here hx rfl (hb hby at_236) rfl rfl k))))))))) ?_
          show own_Goes p e below (T261.setTop (mkF m 238 #[iv i0, iv (0 : Int32), iv (0 : Int32), iv (0 : Int32), iv (0 : Int32), rv b15, iv (1 : Int32), rv w6, .unset] [(.ref w6)])) _
          obtain ⟨cl285, Ar285, -, S285, M285, -, -⟩ := id ((SV_w6.ext O259.2))
          refine own_via (fun t k => X261.arraylength hx (by rw [hh284]; exact Ar285.1) (State.isArrayOf_alike hZ.alike Ar285.2.1) (g := (mkF m 238 #[iv i0, iv (0 : Int32), iv (0 : Int32), iv (0 : Int32), iv (0 : Int32), rv b15, iv (1 : Int32), rv w6, .unset] [(.ref w6)])) rfl rfl (hb hby at_238) t k) ?_
          rw [len_of S285 M285]
          show own_Goes p e below (T261.setTop (mkF m 239 #[iv i0, iv (0 : Int32), iv (0 : Int32), iv (0 : Int32), iv (0 : Int32), rv b15, iv (1 : Int32), rv w6, .unset] [(.int (0 : Int32))])) _
          refine own_via (fun t k => XS.ifNo X261.here hx rfl (hb hby at_239) rfl ((if0 _ _).trans (teq (by decide : (0 : Int32) = (0 : Int32))).2) (XS.iconst X261.here hx rfl (hb hby at_242) (XS.goto X261.here hx rfl (pc0 := 243) (pc' := 247) rfl (hb hby at_243) (by decide) (by decide) (XS.istore X261.here hx rfl (hb hby at_247) rfl (l' := #[iv i0, iv (0 : Int32), iv (0 : Int32), iv (0 : Int32), iv (0 : Int32), rv b15, iv (1 : Int32), rv w6, .unset]) rfl (XS.iload X261.here hx rfl (hb hby at_249) rfl (XS.ifNo X261.here hx rfl (hb hby at_251) rfl ((if0 _ _).trans (feq (by decide : ¬ ((1 : Int32) = (0 : Int32)))).1) (XS.aload X261.here hx rfl (hb hby at_254) rfl rfl k))))))) ?_
          show own_Goes p e below (T261.setTop (mkF m 256 #[iv i0, iv (0 : Int32), iv (0 : Int32), iv (0 : Int32), iv (0 : Int32), rv b15, iv (1 : Int32), rv w6, .unset] [(.ref b15)])) _
          obtain ⟨_, T286, _, X286, hQ286, st286⟩ := own_cv X261 hx hZ hown (wd hw 35 rfl) (wd hw 36 rfl) (wd hw 38 rfl) (wd hw 37 rfl) (wd hw 39 rfl) (wd hw 2 rfl) (by decide) (rm5 l Z a0 hw [] b15 h23 n0 O259 fx201) hh284 ex198 (g := (mkF m 256 #[iv i0, iv (0 : Int32), iv (0 : Int32), iv (0 : Int32), iv (0 : Int32), rv b15, iv (1 : Int32), rv w6, .unset] [(.ref b15)])) rfl (by rw [hml]; rfl) (rest := []) (W := 0) (lenOf pd_4 rfl) rfl (by show 2 * 0 + _ ≤ _; exact Nat.le_of_eq rfl) (hb hby at_256) (by decide) (by decide) (by decide) (by decide)
          obtain ⟨rfl, Nq286, hh287⟩ := hQ286
          have N286 := Fr.app N261 Nq286
          refine own_via (fun t k => st286 t (XS.ifNo X286.here hx rfl (hb hby at_259) rfl ((if0 _ _).trans (teq (by decide : (0 : Int32) = (0 : Int32))).2) (XS.iconst X286.here hx rfl (hb hby at_262) (XS.goto X286.here hx rfl (pc0 := 263) (pc' := 267) rfl (hb hby at_263) (by decide) (by decide) (XS.istore X286.here hx rfl (hb hby at_267) rfl (l' := #[iv i0, iv (0 : Int32), iv (0 : Int32), iv (0 : Int32), iv (0 : Int32), rv b15, iv (1 : Int32), rv w6, .unset]) rfl (XS.iloadN X286.here hx rfl (hb hby at_269) rfl (XS.ifYes X286.here hx rfl (pc0 := 270) (pc' := 391) rfl (hb hby at_270) rfl ((if0 _ _).trans (teq (by decide : (0 : Int32) = (0 : Int32))).1) (by decide) (by decide) (XS.iload X286.here hx rfl (hb hby at_391) rfl k)))))))) ?_
          show own_Goes p e below (T286.setTop (mkF m 393 #[iv i0, iv (0 : Int32), iv (0 : Int32), iv (0 : Int32), iv (0 : Int32), rv b15, iv (1 : Int32), rv w6, .unset] [(.int (1 : Int32))])) _
          obtain ⟨fs, hr, hrun, hended, hW, hsame⟩ := X286.leave (v := some (.int (1 : Int32))) (fun h => by rw [Bd.returns] at h; cases h)
          refine own_end (t := T286.setFrames fs) ?_ ⟨_, hrun, hended, _, _, rfl, ?_, ⟨_, rfl⟩, hW, hsame.mono (by decide) (by decide)⟩
          · exact retN X286 hx (t := .boolean) Bd.returns (by simp) (hb hby at_393) hr
          · exact ⟨rfl, N286⟩
        · refine own_via (fun t k => XS.ifNo X0.here hx rfl (hb hby at_40) rfl ((if0 _ _).trans (feq hc13).1) (XS.iconst X0.here hx rfl (hb hby at_43) (XS.goto X0.here hx rfl (pc0 := 44) (pc' := 48) rfl (hb hby at_44) (by decide) (by decide) (XS.istore X0.here hx rfl (hb hby at_48) rfl (l' := #[iv i0, iv (0 : Int32), iv (0 : Int32), iv (0 : Int32), iv (1 : Int32), .unset, .unset, .unset, .unset]) rfl k)))) ?_
          show own_Goes p e below (s₁.setTop (mkF m 50 #[iv i0, iv (0 : Int32), iv (0 : Int32), iv (0 : Int32), iv (1 : Int32), .unset, .unset, .unset, .unset] [])) _
          obtain ⟨T288, h288, X288, e288, E288, A288, D288, -, st288⟩ := newO X0 hx hZ hown (wd hw 0 rfl) (wd hw 1 rfl) (wd hw 2 rfl) e0 (g := (mkF m 50 #[iv i0, iv (0 : Int32), iv (0 : Int32), iv (0 : Int32), iv (1 : Int32), .unset, .unset, .unset, .unset] [])) rfl (hb hby at_50) (by decide) (by decide)
          obtain ⟨b289, q288⟩ : ∃ z, z = h0.size := ⟨_, rfl⟩
          rw [← q288] at A288 D288 st288
          refine own_via (fun t k => st288 t k) ?_
          have g290 : n0 ≤ b289 := Nat.le_trans (own_old O0) (Nat.le_of_eq q288.symm)
          have B291 : h0.size ≤ b289 := Nat.le_trans (Nat.le_refl _) (Nat.le_of_eq q288.symm)
          have F292 : Fld Z h288 b289 zs1 "refusedWill" zs3 .null := D288 (Or.inr (wd hw 32 rfl)) (ty := (.object zs2)) (by decide)
          have F293 : Fld Z h288 b289 zs1 "refusedDo" zs3 .null := D288 (Or.inr (wd hw 34 rfl)) (ty := (.object zs2)) (by decide)
          have F294 : Fld Z h288 b289 zs1 "gmcpOn" "Z" (.int (0 : Int32)) := D288 (Or.inl (wd hw 41 rfl)) (ty := .boolean) (by decide)
          have F295 : Fld Z h288 b289 zs1 "gmcpOffered" "Z" (.int (0 : Int32)) := D288 (Or.inl (wd hw 48 rfl)) (ty := .boolean) (by decide)
          have F296 : Fld Z h288 b289 zs1 "echoOffered" "Z" (.int (0 : Int32)) := D288 (Or.inl (wd hw 95 rfl)) (ty := .boolean) (by decide)
          show own_Goes p e below (T288.setTop (mkF m 53 #[iv i0, iv (0 : Int32), iv (0 : Int32), iv (0 : Int32), iv (1 : Int32), .unset, .unset, .unset, .unset] [(.ref b289)])) _
          refine own_via (fun t k => XS.dup X288.here hx rfl (hb hby at_53) rfl rfl k) ?_
          have O298 : Old Z n0 h288 := (O0.ext E288)
          obtain ⟨_, T297, _, X297, hQ297, st297⟩ := own_ci X288 hx hZ hown (wd hw 3 rfl) (wd hw 4 rfl) (wd hw 5 rfl) (wd hw 2 rfl) rfl (by decide) (rm4 l Z a0 hw [] b289 (0 : Int32) (0 : Int32) (0 : Int32) h288 n0 O298 F292 A288 g290 F293 F294 F295 F296) e288 (g := (mkF m 54 #[iv i0, iv (0 : Int32), iv (0 : Int32), iv (0 : Int32), iv (1 : Int32), .unset, .unset, .unset, .unset] [(.ref b289), (.ref b289)])) rfl (by rw [hml]; rfl) (rest := [(.ref b289)]) (W := 1) (lenOf pd_3 rfl) rfl (by show 2 * 0 + _ ≤ _; exact Nat.le_of_eq rfl) (hb hby at_54) (by decide) (by decide) (by decide) (by decide)
          obtain ⟨h297, e297⟩ : ∃ z, T297.heap = z := ⟨_, rfl⟩
          rw [e297] at hQ297
          obtain ⟨b299, b300, k301, b302, b303, k304, rfl, Nq297, K297, ex305, fx306, fx307, fx308, fx309, fx310, bx311, ex312, fx313, fx314, fx315, bx316, vx317, bx318, ex319, fx320, fx321, fx322, bx323, vx324, nx325, nx326, nx327, nx328, nx329, nx330⟩ := hQ297
          have N297 := Fr.app N0 Nq297
          have N331 : b289 ≠ b299 := Nat.ne_of_lt (Nat.lt_of_lt_of_le A288.lt bx311)
          have g332 : n0 ≤ b299 := Nat.le_trans (own_old O298) bx311
          have Z334 : h0.size ≤ h288.size := (Nat.le_trans (Nat.le_refl _) E288.1)
          have B333 : h0.size ≤ b299 := Nat.le_trans Z334 bx311
          have N335 : b289 ≠ b300 := Nat.ne_of_lt (Nat.lt_of_lt_of_le A288.lt bx316)
          have g336 : n0 ≤ b300 := Nat.le_trans (own_old O298) bx316
          have B337 : h0.size ≤ b300 := Nat.le_trans Z334 bx316
          have N338 : b289 ≠ b302 := Nat.ne_of_lt (Nat.lt_of_lt_of_le A288.lt bx318)
          have g339 : n0 ≤ b302 := Nat.le_trans (own_old O298) bx318
          have B340 : h0.size ≤ b302 := Nat.le_trans Z334 bx318
          have N341 : b289 ≠ b303 := Nat.ne_of_lt (Nat.lt_of_lt_of_le A288.lt bx323)
          have g342 : n0 ≤ b303 := Nat.le_trans (own_old O298) bx323
          have B343 : h0.size ≤ b303 := Nat.le_trans Z334 bx323
          refine own_via (fun t k => st297 t (XS.astore X297.here hx rfl (hb hby at_57) rfl rfl (l' := #[iv i0, iv (0 : Int32), iv (0 : Int32), iv (0 : Int32), iv (1 : Int32), rv b289, .unset, .unset, .unset]) rfl (XS.iconst X297.here hx rfl (hb hby at_59) (XS.istore X297.here hx rfl (hb hby at_60) rfl (l' := #[iv i0, iv (0 : Int32), iv (0 : Int32), iv (0 : Int32), iv (1 : Int32), rv b289, iv (1 : Int32), .unset, .unset]) rfl (XS.iloadN X297.here hx rfl (hb hby at_62) rfl (XS.ifYes X297.here hx rfl (pc0 := 63) (pc' := 136) rfl (hb hby at_63) rfl ((if0 _ _).trans (teq (by decide : (0 : Int32) = (0 : Int32))).1) (by decide) (by decide) (XS.iload X297.here hx rfl (hb hby at_136) rfl (XS.ifNo X297.here hx rfl (hb hby at_138) rfl ((if0 _ _).trans (feq (by decide : ¬ ((1 : Int32) = (0 : Int32)))).1) (XS.aload X297.here hx rfl (hb hby at_141) rfl rfl k))))))))) ?_
          show own_Goes p e below (T297.setTop (mkF m 143 #[iv i0, iv (0 : Int32), iv (0 : Int32), iv (0 : Int32), iv (1 : Int32), rv b289, iv (1 : Int32), .unset, .unset] [(.ref b289)])) _
          have O345 : Old Z n0 h297 := (O298.keep K297 (allS g290 all0))
          obtain ⟨_, T344, _, X344, hQ344, st344⟩ := own_cv X297 hx hZ hown (wd hw 35 rfl) (wd hw 36 rfl) (wd hw 38 rfl) (wd hw 37 rfl) (wd hw 39 rfl) (wd hw 2 rfl) (by decide) (rm5 l Z a0 hw [] b289 h297 n0 O345 fx308) e297 ex305 (g := (mkF m 143 #[iv i0, iv (0 : Int32), iv (0 : Int32), iv (0 : Int32), iv (1 : Int32), rv b289, iv (1 : Int32), .unset, .unset] [(.ref b289)])) rfl (by rw [hml]; rfl) (rest := []) (W := 0) (lenOf pd_4 rfl) rfl (by show 2 * 0 + _ ≤ _; exact Nat.le_of_eq rfl) (hb hby at_143) (by decide) (by decide) (by decide) (by decide)
          obtain ⟨rfl, Nq344, hh346⟩ := hQ344
          have N344 := Fr.app N297 Nq344
          refine own_via (fun t k => st344 t (XS.ifNo X344.here hx rfl (hb hby at_146) rfl ((if0 _ _).trans (teq (by decide : (0 : Int32) = (0 : Int32))).2) (XS.iconst X344.here hx rfl (hb hby at_149) (XS.goto X344.here hx rfl (pc0 := 150) (pc' := 154) rfl (hb hby at_150) (by decide) (by decide) (XS.istore X344.here hx rfl (hb hby at_154) rfl (l' := #[iv i0, iv (0 : Int32), iv (0 : Int32), iv (0 : Int32), iv (1 : Int32), rv b289, iv (1 : Int32), .unset, .unset]) rfl (XS.aload X344.here hx rfl (hb hby at_156) rfl rfl (XS.iloadN X344.here hx rfl (hb hby at_158) rfl (XS.ifYes X344.here hx rfl (pc0 := 159) (pc' := 168) rfl (hb hby at_159) rfl ((if0 _ _).trans (teq (by decide : (0 : Int32) = (0 : Int32))).1) (by decide) (by decide) (XS.sipush X344.here hx rfl (hb hby at_168) (XS.sipush X344.here hx rfl (hb hby at_171) k)))))))))) ?_
          show own_Goes p e below (T344.setTop (mkF m 174 #[iv i0, iv (0 : Int32), iv (0 : Int32), iv (0 : Int32), iv (1 : Int32), rv b289, iv (1 : Int32), .unset, .unset] [(.int (201 : Int32)), (.int (254 : Int32)), (.ref b289)])) _
          obtain ⟨_, T347, _, X347, hQ347, st347⟩ := own_cv X344 hx hZ hown (wd hw 42 rfl) (wd hw 43 rfl) (wd hw 45 rfl) (wd hw 44 rfl) (wd hw 46 rfl) (wd hw 2 rfl) (by decide) (rm6 l Z a0 hw [] b289 w6 h297 n0 O345 fx309 fx308 S_TelnetOptions_NO_ANSWER) hh346 ex305 (g := (mkF m 174 #[iv i0, iv (0 : Int32), iv (0 : Int32), iv (0 : Int32), iv (1 : Int32), rv b289, iv (1 : Int32), .unset, .unset] [(.int (201 : Int32)), (.int (254 : Int32)), (.ref b289)])) rfl (by rw [hml]; rfl) (rest := []) (W := 0) (lenOf pd_5 rfl) rfl (by show 2 * 0 + _ ≤ _; exact Nat.le_of_eq rfl) (hb hby at_174) (by decide) (by decide) (by decide) (by decide)
          obtain ⟨rfl, Nq347, hh348⟩ := hQ347
          have N347 := Fr.app N344 Nq347
          refine own_via (fun t k => st347 t (XS.astore X347.here hx rfl (hb hby at_177) rfl rfl (l' := #[iv i0, iv (0 : Int32), iv (0 : Int32), iv (0 : Int32), iv (1 : Int32), rv b289, iv (1 : Int32), rv w6, .unset]) rfl (XS.iloadN X347.here hx rfl (hb hby at_179) rfl (XS.ifYes X347.here hx rfl (pc0 := 180) (pc' := 213) rfl (hb hby at_180) rfl ((if0 _ _).trans (teq (by decide : (0 : Int32) = (0 : Int32))).1) (by decide) (by decide) (XS.iload X347.here hx rfl (hb hby at_213) rfl (XS.ifNo X347.here hx rfl (hb hby at_215) rfl ((if0 _ _).trans (feq (by decide : ¬ ((1 : Int32) = (0 : Int32)))).1) (XS.iloadN X347.here hx rfl (hb hby at_218) rfl (XS.ifYes X347.here hx rfl (pc0 := 219) (pc' := 236) rfl (hb hby at_219) rfl ((if0 _ _).trans (teq (by decide : (0 : Int32) = (0 : Int32))).1) (by decide) (by decide) (XS.aload X347.here hx rfl (hb hby at_236) rfl rfl k))))))))) ?_
          show own_Goes p e below (T347.setTop (mkF m 238 #[iv i0, iv (0 : Int32), iv (0 : Int32), iv (0 : Int32), iv (1 : Int32), rv b289, iv (1 : Int32), rv w6, .unset] [(.ref w6)])) _
          obtain ⟨cl349, Ar349, -, S349, M349, -, -⟩ := id ((SV_w6.ext O345.2))
          refine own_via (fun t k => X347.arraylength hx (by rw [hh348]; exact Ar349.1) (State.isArrayOf_alike hZ.alike Ar349.2.1) (g := (mkF m 238 #[iv i0, iv (0 : Int32), iv (0 : Int32), iv (0 : Int32), iv (1 : Int32), rv b289, iv (1 : Int32), rv w6, .unset] [(.ref w6)])) rfl rfl (hb hby at_238) t k) ?_
          rw [len_of S349 M349]
          show own_Goes p e below (T347.setTop (mkF m 239 #[iv i0, iv (0 : Int32), iv (0 : Int32), iv (0 : Int32), iv (1 : Int32), rv b289, iv (1 : Int32), rv w6, .unset] [(.int (0 : Int32))])) _
          refine own_via (fun t k => XS.ifNo X347.here hx rfl (hb hby at_239) rfl ((if0 _ _).trans (teq (by decide : (0 : Int32) = (0 : Int32))).2) (XS.iconst X347.here hx rfl (hb hby at_242) (XS.goto X347.here hx rfl (pc0 := 243) (pc' := 247) rfl (hb hby at_243) (by decide) (by decide) (XS.istore X347.here hx rfl (hb hby at_247) rfl (l' := #[iv i0, iv (0 : Int32), iv (0 : Int32), iv (0 : Int32), iv (1 : Int32), rv b289, iv (1 : Int32), rv w6, .unset]) rfl (XS.iload X347.here hx rfl (hb hby at_249) rfl (XS.ifNo X347.here hx rfl (hb hby at_251) rfl ((if0 _ _).trans (feq (by decide : ¬ ((1 : Int32) = (0 : Int32)))).1) (XS.aload X347.here hx rfl (hb hby at_254) rfl rfl k))))))) ?_
          show own_Goes p e below (T347.setTop (mkF m 256 #[iv i0, iv (0 : Int32), iv (0 : Int32), iv (0 : Int32), iv (1 : Int32), rv b289, iv (1 : Int32), rv w6, .unset] [(.ref b289)])) _
          obtain ⟨_, T350, _, X350, hQ350, st350⟩ := own_cv X347 hx hZ hown (wd hw 35 rfl) (wd hw 36 rfl) (wd hw 38 rfl) (wd hw 37 rfl) (wd hw 39 rfl) (wd hw 2 rfl) (by decide) (rm5 l Z a0 hw [] b289 h297 n0 O345 fx308) hh348 ex305 (g := (mkF m 256 #[iv i0, iv (0 : Int32), iv (0 : Int32), iv (0 : Int32), iv (1 : Int32), rv b289, iv (1 : Int32), rv w6, .unset] [(.ref b289)])) rfl (by rw [hml]; rfl) (rest := []) (W := 0) (lenOf pd_4 rfl) rfl (by show 2 * 0 + _ ≤ _; exact Nat.le_of_eq rfl) (hb hby at_256) (by decide) (by decide) (by decide) (by decide)
          obtain ⟨rfl, Nq350, hh351⟩ := hQ350
          have N350 := Fr.app N347 Nq350
          refine own_via (fun t k => st350 t (XS.ifNo X350.here hx rfl (hb hby at_259) rfl ((if0 _ _).trans (teq (by decide : (0 : Int32) = (0 : Int32))).2) (XS.iconst X350.here hx rfl (hb hby at_262) (XS.goto X350.here hx rfl (pc0 := 263) (pc' := 267) rfl (hb hby at_263) (by decide) (by decide) (XS.istore X350.here hx rfl (hb hby at_267) rfl (l' := #[iv i0, iv (0 : Int32), iv (0 : Int32), iv (0 : Int32), iv (1 : Int32), rv b289, iv (1 : Int32), rv w6, .unset]) rfl (XS.iloadN X350.here hx rfl (hb hby at_269) rfl (XS.ifYes X350.here hx rfl (pc0 := 270) (pc' := 391) rfl (hb hby at_270) rfl ((if0 _ _).trans (teq (by decide : (0 : Int32) = (0 : Int32))).1) (by decide) (by decide) (XS.iload X350.here hx rfl (hb hby at_391) rfl k)))))))) ?_
          show own_Goes p e below (T350.setTop (mkF m 393 #[iv i0, iv (0 : Int32), iv (0 : Int32), iv (0 : Int32), iv (1 : Int32), rv b289, iv (1 : Int32), rv w6, .unset] [(.int (1 : Int32))])) _
          obtain ⟨fs, hr, hrun, hended, hW, hsame⟩ := X350.leave (v := some (.int (1 : Int32))) (fun h => by rw [Bd.returns] at h; cases h)
          refine own_end (t := T350.setFrames fs) ?_ ⟨_, hrun, hended, _, _, rfl, ?_, ⟨_, rfl⟩, hW, hsame.mono (by decide) (by decide)⟩
          · exact retN X350 hx (t := .boolean) Bd.returns (by simp) (hb hby at_393) hr
          · exact ⟨rfl, N350⟩
      · refine own_via (fun t k => XS.ifNo X0.here hx rfl (hb hby at_27) rfl ((if0 _ _).trans (feq hc12).1) (XS.iconst X0.here hx rfl (hb hby at_30) (XS.goto X0.here hx rfl (pc0 := 31) (pc' := 35) rfl (hb hby at_31) (by decide) (by decide) (XS.istoreN X0.here hx rfl (hb hby at_35) rfl (l' := #[iv i0, iv (0 : Int32), iv (0 : Int32), iv (1 : Int32), .unset, .unset, .unset, .unset, .unset]) rfl (XS.iloadN X0.here hx rfl (hb hby at_36) rfl (XS.bipush X0.here hx rfl (hb hby at_37) (XS.iand X0.here hx rfl (hb hby at_39) rfl k))))))) ?_
        show own_Goes p e below (s₁.setTop (mkF m 40 #[iv i0, iv (0 : Int32), iv (0 : Int32), iv (1 : Int32), .unset, .unset, .unset, .unset, .unset] [(.int (i0 &&& (8 : Int32)))])) _
        by_cases hc352 : (i0 &&& (8 : Int32)) = (0 : Int32)
        · refine own_via (fun t k => XS.ifYes X0.here hx rfl (pc0 := 40) (pc' := 47) rfl (hb hby at_40) rfl ((if0 _ _).trans (teq hc352).1) (by decide) (by decide) (XS.iconst X0.here hx rfl (hb hby at_47) (XS.istore X0.here hx rfl (hb hby at_48) rfl (l' := #[iv i0, iv (0 : Int32), iv (0 : Int32), iv (1 : Int32), iv (0 : Int32), .unset, .unset, .unset, .unset]) rfl k))) ?_
          show own_Goes p e below (s₁.setTop (mkF m 50 #[iv i0, iv (0 : Int32), iv (0 : Int32), iv (1 : Int32), iv (0 : Int32), .unset, .unset, .unset, .unset] [])) _
          obtain ⟨T353, h353, X353, e353, E353, A353, D353, -, st353⟩ := newO X0 hx hZ hown (wd hw 0 rfl) (wd hw 1 rfl) (wd hw 2 rfl) e0 (g := (mkF m 50 #[iv i0, iv (0 : Int32), iv (0 : Int32), iv (1 : Int32), iv (0 : Int32), .unset, .unset, .unset, .unset] [])) rfl (hb hby at_50) (by decide) (by decide)
          obtain ⟨b354, q353⟩ : ∃ z, z = h0.size := ⟨_, rfl⟩
          rw [← q353] at A353 D353 st353
          refine own_via (fun t k => st353 t k) ?_
          have g355 : n0 ≤ b354 := Nat.le_trans (own_old O0) (Nat.le_of_eq q353.symm)
          have B356 : h0.size ≤ b354 := Nat.le_trans (Nat.le_refl _) (Nat.le_of_eq q353.symm)
          have F357 : Fld Z h353 b354 zs1 "refusedWill" zs3 .null := D353 (Or.inr (wd hw 32 rfl)) (ty := (.object zs2)) (by decide)
          have F358 : Fld Z h353 b354 zs1 "refusedDo" zs3 .null := D353 (Or.inr (wd hw 34 rfl)) (ty := (.object zs2)) (by decide)
          have F359 : Fld Z h353 b354 zs1 "gmcpOn" "Z" (.int (0 : Int32)) := D353 (Or.inl (wd hw 41 rfl)) (ty := .boolean) (by decide)
          have F360 : Fld Z h353 b354 zs1 "gmcpOffered" "Z" (.int (0 : Int32)) := D353 (Or.inl (wd hw 48 rfl)) (ty := .boolean) (by decide)
          have F361 : Fld Z h353 b354 zs1 "echoOffered" "Z" (.int (0 : Int32)) := D353 (Or.inl (wd hw 95 rfl)) (ty := .boolean) (by decide)
          show own_Goes p e below (T353.setTop (mkF m 53 #[iv i0, iv (0 : Int32), iv (0 : Int32), iv (1 : Int32), iv (0 : Int32), .unset, .unset, .unset, .unset] [(.ref b354)])) _
          refine own_via (fun t k => XS.dup X353.here hx rfl (hb hby at_53) rfl rfl k) ?_
          have O363 : Old Z n0 h353 := (O0.ext E353)
          obtain ⟨_, T362, _, X362, hQ362, st362⟩ := own_ci X353 hx hZ hown (wd hw 3 rfl) (wd hw 4 rfl) (wd hw 5 rfl) (wd hw 2 rfl) rfl (by decide) (rm4 l Z a0 hw [] b354 (0 : Int32) (0 : Int32) (0 : Int32) h353 n0 O363 F357 A353 g355 F358 F359 F360 F361) e353 (g := (mkF m 54 #[iv i0, iv (0 : Int32), iv (0 : Int32), iv (1 : Int32), iv (0 : Int32), .unset, .unset, .unset, .unset] [(.ref b354), (.ref b354)])) rfl (by rw [hml]; rfl) (rest := [(.ref b354)]) (W := 1) (lenOf pd_3 rfl) rfl (by show 2 * 0 + _ ≤ _; exact Nat.le_of_eq rfl) (hb hby at_54) (by decide) (by decide) (by decide) (by decide)
          obtain ⟨h362, e362⟩ : ∃ z, T362.heap = z := ⟨_, rfl⟩
          rw [e362] at hQ362
          obtain ⟨b364, b365, k366, b367, b368, k369, rfl, Nq362, K362, ex370, fx371, fx372, fx373, fx374, fx375, bx376, ex377, fx378, fx379, fx380, bx381, vx382, bx383, ex384, fx385, fx386, fx387, bx388, vx389, nx390, nx391, nx392, nx393, nx394, nx395⟩ := hQ362
          have N362 := Fr.app N0 Nq362
          have N396 : b354 ≠ b364 := Nat.ne_of_lt (Nat.lt_of_lt_of_le A353.lt bx376)
          have g397 : n0 ≤ b364 := Nat.le_trans (own_old O363) bx376
          have Z399 : h0.size ≤ h353.size := (Nat.le_trans (Nat.le_refl _) E353.1)
          have B398 : h0.size ≤ b364 := Nat.le_trans Z399 bx376
          have N400 : b354 ≠ b365 := Nat.ne_of_lt (Nat.lt_of_lt_of_le A353.lt bx381)
          have g401 : n0 ≤ b365 := Nat.le_trans (own_old O363) bx381
          have B402 : h0.size ≤ b365 := Nat.le_trans Z399 bx381
          have N403 : b354 ≠ b367 := Nat.ne_of_lt (Nat.lt_of_lt_of_le A353.lt bx383)
          have g404 : n0 ≤ b367 := Nat.le_trans (own_old O363) bx383
          have B405 : h0.size ≤ b367 := Nat.le_trans Z399 bx383
          have N406 : b354 ≠ b368 := Nat.ne_of_lt (Nat.lt_of_lt_of_le A353.lt bx388)
          have g407 : n0 ≤ b368 := Nat.le_trans (own_old O363) bx388
          have B408 : h0.size ≤ b368 := Nat.le_trans Z399 bx388
          refine own_via (fun t k => st362 t (XS.astore X362.here hx rfl (hb hby at_57) rfl rfl (l' := #[iv i0, iv (0 : Int32), iv (0 : Int32), iv (1 : Int32), iv (0 : Int32), rv b354, .unset, .unset, .unset]) rfl (XS.iconst X362.here hx rfl (hb hby at_59) (XS.istore X362.here hx rfl (hb hby at_60) rfl (l' := #[iv i0, iv (0 : Int32), iv (0 : Int32), iv (1 : Int32), iv (0 : Int32), rv b354, iv (1 : Int32), .unset, .unset]) rfl (XS.iloadN X362.here hx rfl (hb hby at_62) rfl (XS.ifYes X362.here hx rfl (pc0 := 63) (pc' := 136) rfl (hb hby at_63) rfl ((if0 _ _).trans (teq (by decide : (0 : Int32) = (0 : Int32))).1) (by decide) (by decide) (XS.iload X362.here hx rfl (hb hby at_136) rfl (XS.ifNo X362.here hx rfl (hb hby at_138) rfl ((if0 _ _).trans (feq (by decide : ¬ ((1 : Int32) = (0 : Int32)))).1) (XS.aload X362.here hx rfl (hb hby at_141) rfl rfl k))))))))) ?_
          show own_Goes p e below (T362.setTop (mkF m 143 #[iv i0, iv (0 : Int32), iv (0 : Int32), iv (1 : Int32), iv (0 : Int32), rv b354, iv (1 : Int32), .unset, .unset] [(.ref b354)])) _
          have O410 : Old Z n0 h362 := (O363.keep K362 (allS g355 all0))
          obtain ⟨_, T409, _, X409, hQ409, st409⟩ := own_cv X362 hx hZ hown (wd hw 35 rfl) (wd hw 36 rfl) (wd hw 38 rfl) (wd hw 37 rfl) (wd hw 39 rfl) (wd hw 2 rfl) (by decide) (rm5 l Z a0 hw [] b354 h362 n0 O410 fx373) e362 ex370 (g := (mkF m 143 #[iv i0, iv (0 : Int32), iv (0 : Int32), iv (1 : Int32), iv (0 : Int32), rv b354, iv (1 : Int32), .unset, .unset] [(.ref b354)])) rfl (by rw [hml]; rfl) (rest := []) (W := 0) (lenOf pd_4 rfl) rfl (by show 2 * 0 + _ ≤ _; exact Nat.le_of_eq rfl) (hb hby at_143) (by decide) (by decide) (by decide) (by decide)
          obtain ⟨rfl, Nq409, hh411⟩ := hQ409
          have N409 := Fr.app N362 Nq409
          refine own_via (fun t k => st409 t (XS.ifNo X409.here hx rfl (hb hby at_146) rfl ((if0 _ _).trans (teq (by decide : (0 : Int32) = (0 : Int32))).2) (XS.iconst X409.here hx rfl (hb hby at_149) (XS.goto X409.here hx rfl (pc0 := 150) (pc' := 154) rfl (hb hby at_150) (by decide) (by decide) (XS.istore X409.here hx rfl (hb hby at_154) rfl (l' := #[iv i0, iv (0 : Int32), iv (0 : Int32), iv (1 : Int32), iv (0 : Int32), rv b354, iv (1 : Int32), .unset, .unset]) rfl (XS.aload X409.here hx rfl (hb hby at_156) rfl rfl (XS.iloadN X409.here hx rfl (hb hby at_158) rfl (XS.ifYes X409.here hx rfl (pc0 := 159) (pc' := 168) rfl (hb hby at_159) rfl ((if0 _ _).trans (teq (by decide : (0 : Int32) = (0 : Int32))).1) (by decide) (by decide) (XS.sipush X409.here hx rfl (hb hby at_168) (XS.sipush X409.here hx rfl (hb hby at_171) k)))))))))) ?_
          show own_Goes p e below (T409.setTop (mkF m 174 #[iv i0, iv (0 : Int32), iv (0 : Int32), iv (1 : Int32), iv (0 : Int32), rv b354, iv (1 : Int32), .unset, .unset] [(.int (201 : Int32)), (.int (254 : Int32)), (.ref b354)])) _
          obtain ⟨_, T412, _, X412, hQ412, st412⟩ := own_cv X409 hx hZ hown (wd hw 42 rfl) (wd hw 43 rfl) (wd hw 45 rfl) (wd hw 44 rfl) (wd hw 46 rfl) (wd hw 2 rfl) (by decide) (rm6 l Z a0 hw [] b354 w6 h362 n0 O410 fx374 fx373 S_TelnetOptions_NO_ANSWER) hh411 ex370 (g := (mkF m 174 #[iv i0, iv (0 : Int32), iv (0 : Int32), iv (1 : Int32), iv (0 : Int32), rv b354, iv (1 : Int32), .unset, .unset] [(.int (201 : Int32)), (.int (254 : Int32)), (.ref b354)])) rfl (by rw [hml]; rfl) (rest := []) (W := 0) (lenOf pd_5 rfl) rfl (by show 2 * 0 + _ ≤ _; exact Nat.le_of_eq rfl) (hb hby at_174) (by decide) (by decide) (by decide) (by decide)
          obtain ⟨rfl, Nq412, hh413⟩ := hQ412
          have N412 := Fr.app N409 Nq412
          refine own_via (fun t k => st412 t (XS.astore X412.here hx rfl (hb hby at_177) rfl rfl (l' := #[iv i0, iv (0 : Int32), iv (0 : Int32), iv (1 : Int32), iv (0 : Int32), rv b354, iv (1 : Int32), rv w6, .unset]) rfl (XS.iloadN X412.here hx rfl (hb hby at_179) rfl (XS.ifYes X412.here hx rfl (pc0 := 180) (pc' := 213) rfl (hb hby at_180) rfl ((if0 _ _).trans (teq (by decide : (0 : Int32) = (0 : Int32))).1) (by decide) (by decide) (XS.iload X412.here hx rfl (hb hby at_213) rfl (XS.ifNo X412.here hx rfl (hb hby at_215) rfl ((if0 _ _).trans (feq (by decide : ¬ ((1 : Int32) = (0 : Int32)))).1) (XS.iloadN X412.here hx rfl (hb hby at_218) rfl (XS.ifYes X412.here hx rfl (pc0 := 219) (pc' := 236) rfl (hb hby at_219) rfl ((if0 _ _).trans (teq (by decide : (0 : Int32) = (0 : Int32))).1) (by decide) (by decide) (XS.aload X412.here hx rfl (hb hby at_236) rfl rfl k))))))))) ?_
          show own_Goes p e below (T412.setTop (mkF m 238 #[iv i0, iv (0 : Int32), iv (0 : Int32), iv (1 : Int32), iv (0 : Int32), rv b354, iv (1 : Int32), rv w6, .unset] [(.ref w6)])) _
          obtain ⟨cl414, Ar414, -, S414, M414, -, -⟩ := id ((SV_w6.ext O410.2))
          refine own_via (fun t k => X412.arraylength hx (by rw [hh413]; exact Ar414.1) (State.isArrayOf_alike hZ.alike Ar414.2.1) (g := (mkF m 238 #[iv i0, iv (0 : Int32), iv (0 : Int32), iv (1 : Int32), iv (0 : Int32), rv b354, iv (1 : Int32), rv w6, .unset] [(.ref w6)])) rfl rfl (hb hby at_238) t k) ?_
          rw [len_of S414 M414]
          show own_Goes p e below (T412.setTop (mkF m 239 #[iv i0, iv (0 : Int32), iv (0 : Int32), iv (1 : Int32), iv (0 : Int32), rv b354, iv (1 : Int32), rv w6, .unset] [(.int (0 : Int32))])) _
          refine own_via (fun t k => XS.ifNo X412.here hx rfl (hb hby at_239) rfl ((if0 _ _).trans (teq (by decide : (0 : Int32) = (0 : Int32))).2) (XS.iconst X412.here hx rfl (hb hby at_242) (XS.goto X412.here hx rfl (pc0 := 243) (pc' := 247) rfl (hb hby at_243) (by decide) (by decide) (XS.istore X412.here hx rfl (hb hby at_247) rfl (l' := #[iv i0, iv (0 : Int32), iv (0 : Int32), iv (1 : Int32), iv (0 : Int32), rv b354, iv (1 : Int32), rv w6, .unset]) rfl (XS.iload X412.here hx rfl (hb hby at_249) rfl (XS.ifNo X412.here hx rfl (hb hby at_251) rfl ((if0 _ _).trans (feq (by decide : ¬ ((1 : Int32) = (0 : Int32)))).1) (XS.aload X412.here hx rfl (hb hby at_254) rfl rfl k))))))) ?_
          show own_Goes p e below (T412.setTop (mkF m 256 #[iv i0, iv (0 : Int32), iv (0 : Int32), iv (1 : Int32), iv (0 : Int32), rv b354, iv (1 : Int32), rv w6, .unset] [(.ref b354)])) _
          obtain ⟨_, T415, _, X415, hQ415, st415⟩ := own_cv X412 hx hZ hown (wd hw 35 rfl) (wd hw 36 rfl) (wd hw 38 rfl) (wd hw 37 rfl) (wd hw 39 rfl) (wd hw 2 rfl) (by decide) (rm5 l Z a0 hw [] b354 h362 n0 O410 fx373) hh413 ex370 (g := (mkF m 256 #[iv i0, iv (0 : Int32), iv (0 : Int32), iv (1 : Int32), iv (0 : Int32), rv b354, iv (1 : Int32), rv w6, .unset] [(.ref b354)])) rfl (by rw [hml]; rfl) (rest := []) (W := 0) (lenOf pd_4 rfl) rfl (by show 2 * 0 + _ ≤ _; exact Nat.le_of_eq rfl) (hb hby at_256) (by decide) (by decide) (by decide) (by decide)
          obtain ⟨rfl, Nq415, hh416⟩ := hQ415
          have N415 := Fr.app N412 Nq415
          refine own_via (fun t k => st415 t (XS.ifNo X415.here hx rfl (hb hby at_259) rfl ((if0 _ _).trans (teq (by decide : (0 : Int32) = (0 : Int32))).2) (XS.iconst X415.here hx rfl (hb hby at_262) (XS.goto X415.here hx rfl (pc0 := 263) (pc' := 267) rfl (hb hby at_263) (by decide) (by decide) (XS.istore X415.here hx rfl (hb hby at_267) rfl (l' := #[iv i0, iv (0 : Int32), iv (0 : Int32), iv (1 : Int32), iv (0 : Int32), rv b354, iv (1 : Int32), rv w6, .unset]) rfl (XS.iloadN X415.here hx rfl (hb hby at_269) rfl (XS.ifNo X415.here hx rfl (hb hby at_270) rfl ((if0 _ _).trans (feq (by decide : ¬ ((1 : Int32) = (0 : Int32)))).1) (XS.aload X415.here hx rfl (hb hby at_273) rfl rfl (XS.sipush X415.here hx rfl (hb hby at_275) (XS.sipush X415.here hx rfl (hb hby at_278) k)))))))))) ?_
          show own_Goes p e below (T415.setTop (mkF m 281 #[iv i0, iv (0 : Int32), iv (0 : Int32), iv (1 : Int32), iv (0 : Int32), rv b354, iv (1 : Int32), rv w6, .unset] [(.int (201 : Int32)), (.int (253 : Int32)), (.ref b354)])) _
          have l661 : own_Len Z h362 b368 .long (4 : Int32) := ⟨_, _, _, vx389⟩
          obtain ⟨_, T417, _, X417, hQ417, st417⟩ := own_cv X415 hx hZ hown (wd hw 42 rfl) (wd hw 43 rfl) (wd hw 45 rfl) (wd hw 44 rfl) (wd hw 46 rfl) (wd hw 2 rfl) (by decide) (rm14 l Z a0 hw [] b354 b367 b368 (1 : Int32) k369 h362 n0 O410 fx374 fx373 fx372 S_BitSet__assertionsDisabled ex384 fx385 fx387 l661 g404 fx386 vx389 nx395 g407) hh416 ex370 (g := (mkF m 281 #[iv i0, iv (0 : Int32), iv (0 : Int32), iv (1 : Int32), iv (0 : Int32), rv b354, iv (1 : Int32), rv w6, .unset] [(.int (201 : Int32)), (.int (253 : Int32)), (.ref b354)])) rfl (by rw [hml]; rfl) (rest := []) (W := 0) (lenOf pd_5 rfl) rfl (by show 2 * 0 + _ ≤ _; exact Nat.le_of_eq rfl) (hb hby at_281) (by decide) (by decide) (by decide) (by decide)
          obtain ⟨h417, e417⟩ : ∃ z, T417.heap = z := ⟨_, rfl⟩
          rw [e417] at hQ417
          obtain ⟨b662, k663, rfl, Nq417, K417, ex664, fx665, fx666, fx667, vx668, bx669, vx670⟩ := hQ417
          have N417 := Fr.app N415 Nq417
          have N671 : b354 ≠ b662 := Nat.ne_of_lt (Nat.lt_of_lt_of_le ex370.lt bx669)
          have N672 : b364 ≠ b662 := Nat.ne_of_lt (Nat.lt_of_lt_of_le ex377.lt bx669)
          have N673 : b365 ≠ b662 := Nat.ne_of_lt (Nat.lt_of_lt_of_le vx382.lt bx669)
          have N674 : b367 ≠ b662 := Nat.ne_of_lt (Nat.lt_of_lt_of_le ex384.lt bx669)
          have N675 : b368 ≠ b662 := Nat.ne_of_lt (Nat.lt_of_lt_of_le vx389.lt bx669)
          have g676 : n0 ≤ b662 := Nat.le_trans (own_old O410) bx669
          have Z678 : h0.size ≤ h362.size := (Nat.le_trans Z399 K362.1)
          have B677 : h0.size ≤ b662 := Nat.le_trans Z678 bx669
          refine own_via (fun t k => st417 t (XS.astore X417.here hx rfl (hb hby at_284) rfl rfl (l' := #[iv i0, iv (0 : Int32), iv (0 : Int32), iv (1 : Int32), iv (0 : Int32), rv b354, iv (1 : Int32), rv w6, rv b662]) rfl (XS.iloadN X417.here hx rfl (hb hby at_286) rfl (XS.ifYes X417.here hx rfl (pc0 := 287) (pc' := 323) rfl (hb hby at_287) rfl ((if0 _ _).trans (teq (by decide : (0 : Int32) = (0 : Int32))).1) (by decide) (by decide) (XS.iloadN X417.here hx rfl (hb hby at_323) rfl (XS.ifNo X417.here hx rfl (hb hby at_324) rfl ((if0 _ _).trans (teq (by decide : (0 : Int32) = (0 : Int32))).2) (XS.iloadN X417.here hx rfl (hb hby at_327) rfl (XS.ifYes X417.here hx rfl (pc0 := 328) (pc' := 360) rfl (hb hby at_328) rfl ((if0 _ _).trans (teq (by decide : (0 : Int32) = (0 : Int32))).1) (by decide) (by decide) (XS.iload X417.here hx rfl (hb hby at_360) rfl (XS.ifNo X417.here hx rfl (hb hby at_362) rfl ((if0 _ _).trans (feq (by decide : ¬ ((1 : Int32) = (0 : Int32)))).1) (XS.aload X417.here hx rfl (hb hby at_365) rfl rfl (XS.sipush X417.here hx rfl (hb hby at_367) k)))))))))))) ?_
          show own_Goes p e below (T417.setTop (mkF m 370 #[iv i0, iv (0 : Int32), iv (0 : Int32), iv (1 : Int32), iv (0 : Int32), rv b354, iv (1 : Int32), rv w6, rv b662] [(.int (252 : Int32)), (.ref b662)])) _
          have l711 : own_Len Z h417 b662 .byte (3 : Int32) := ⟨_, _, _, vx670⟩
          have O712 : Old Z n0 h417 := (O410.keep K417 (allS g404 (allS g407 all0)))
          obtain ⟨_, T679, _, X679, hQ679, st679⟩ := own_cs X417 hx hZ hown (wd hw 60 rfl) (wd hw 61 rfl) (wd hw 63 rfl) (wd hw 62 rfl) (by decide) (rm15 l Z a0 hw [] b662 k663 h417 n0 O712 l711 vx670) e417 (g := (mkF m 370 #[iv i0, iv (0 : Int32), iv (0 : Int32), iv (1 : Int32), iv (0 : Int32), rv b354, iv (1 : Int32), rv w6, rv b662] [(.int (252 : Int32)), (.ref b662)])) rfl (by rw [hml]; rfl) (rest := []) (W := 0) (lenOf pd_7 rfl) rfl (by show 2 * 0 + _ ≤ _; exact Nat.le_of_eq rfl) (hb hby at_370) (by decide) (by decide) (by decide) (by decide)
          obtain ⟨rfl, Nq679, hh713⟩ := hQ679
          have N679 := Fr.app N417 Nq679
          refine own_via (fun t k => st679 t (XS.ifNo X679.here hx rfl (hb hby at_373) rfl ((if0 _ _).trans (feq (by decide : ¬ ((1 : Int32) = (0 : Int32)))).1) (XS.aload X679.here hx rfl (hb hby at_376) rfl rfl k))) ?_
          show own_Goes p e below (T679.setTop (mkF m 378 #[iv i0, iv (0 : Int32), iv (0 : Int32), iv (1 : Int32), iv (0 : Int32), rv b354, iv (1 : Int32), rv w6, rv b662] [(.ref b354)])) _
          have F715 : Fld Z h417 b354 zs1 "gmcpOn" "Z" (.int (0 : Int32)) := (fx373.keep K417 (ninS N403 (ninS N406 nin0)))
          have E716 : Exa Z h417 b354 zs1 := (ex370.keep K417)
          obtain ⟨_, T714, _, X714, hQ714, st714⟩ := own_cv X679 hx hZ hown (wd hw 35 rfl) (wd hw 36 rfl) (wd hw 38 rfl) (wd hw 37 rfl) (wd hw 39 rfl) (wd hw 2 rfl) (by decide) (rm5 l Z a0 hw [] b354 h417 n0 O712 F715) hh713 E716 (g := (mkF m 378 #[iv i0, iv (0 : Int32), iv (0 : Int32), iv (1 : Int32), iv (0 : Int32), rv b354, iv (1 : Int32), rv w6, rv b662] [(.ref b354)])) rfl (by rw [hml]; rfl) (rest := []) (W := 0) (lenOf pd_4 rfl) rfl (by show 2 * 0 + _ ≤ _; exact Nat.le_of_eq rfl) (hb hby at_378) (by decide) (by decide) (by decide) (by decide)
          obtain ⟨rfl, Nq714, hh717⟩ := hQ714
          have N714 := Fr.app N679 Nq714
          refine own_via (fun t k => st714 t (XS.ifNo X714.here hx rfl (hb hby at_381) rfl ((if0 _ _).trans (teq (by decide : (0 : Int32) = (0 : Int32))).2) (XS.iconst X714.here hx rfl (hb hby at_384) (XS.goto X714.here hx rfl (pc0 := 385) (pc' := 389) rfl (hb hby at_385) (by decide) (by decide) (XS.istore X714.here hx rfl (hb hby at_389) rfl (l' := #[iv i0, iv (0 : Int32), iv (0 : Int32), iv (1 : Int32), iv (0 : Int32), rv b354, iv (1 : Int32), rv w6, rv b662]) rfl (XS.iload X714.here hx rfl (hb hby at_391) rfl k)))))) ?_
          show own_Goes p e below (T714.setTop (mkF m 393 #[iv i0, iv (0 : Int32), iv (0 : Int32), iv (1 : Int32), iv (0 : Int32), rv b354, iv (1 : Int32), rv w6, rv b662] [(.int (1 : Int32))])) _
          obtain ⟨fs, hr, hrun, hended, hW, hsame⟩ := X714.leave (v := some (.int (1 : Int32))) (fun h => by rw [Bd.returns] at h; cases h)
          refine own_end (t := T714.setFrames fs) ?_ ⟨_, hrun, hended, _, _, rfl, ?_, ⟨_, rfl⟩, hW, hsame.mono (by decide) (by decide)⟩
          · exact retN X714 hx (t := .boolean) Bd.returns (by simp) (hb hby at_393) hr
          · exact ⟨rfl, N714⟩
        · refine own_via (fun t k => XS.ifNo X0.here hx rfl (hb hby at_40) rfl ((if0 _ _).trans (feq hc352).1) (XS.iconst X0.here hx rfl (hb hby at_43) (XS.goto X0.here hx rfl (pc0 := 44) (pc' := 48) rfl (hb hby at_44) (by decide) (by decide) (XS.istore X0.here hx rfl (hb hby at_48) rfl (l' := #[iv i0, iv (0 : Int32), iv (0 : Int32), iv (1 : Int32), iv (1 : Int32), .unset, .unset, .unset, .unset]) rfl k)))) ?_
          show own_Goes p e below (s₁.setTop (mkF m 50 #[iv i0, iv (0 : Int32), iv (0 : Int32), iv (1 : Int32), iv (1 : Int32), .unset, .unset, .unset, .unset] [])) _
          obtain ⟨T718, h718, X718, e718, E718, A718, D718, -, st718⟩ := newO X0 hx hZ hown (wd hw 0 rfl) (wd hw 1 rfl) (wd hw 2 rfl) e0 (g := (mkF m 50 #[iv i0, iv (0 : Int32), iv (0 : Int32), iv (1 : Int32), iv (1 : Int32), .unset, .unset, .unset, .unset] [])) rfl (hb hby at_50) (by decide) (by decide)
          obtain ⟨b719, q718⟩ : ∃ z, z = h0.size := ⟨_, rfl⟩
          rw [← q718] at A718 D718 st718
          refine own_via (fun t k => st718 t k) ?_
          have g720 : n0 ≤ b719 := Nat.le_trans (own_old O0) (Nat.le_of_eq q718.symm)
          have B721 : h0.size ≤ b719 := Nat.le_trans (Nat.le_refl _) (Nat.le_of_eq q718.symm)
          have F722 : Fld Z h718 b719 zs1 "refusedWill" zs3 .null := D718 (Or.inr (wd hw 32 rfl)) (ty := (.object zs2)) (by decide)
          have F723 : Fld Z h718 b719 zs1 "refusedDo" zs3 .null := D718 (Or.inr (wd hw 34 rfl)) (ty := (.object zs2)) (by decide)
          have F724 : Fld Z h718 b719 zs1 "gmcpOn" "Z" (.int (0 : Int32)) := D718 (Or.inl (wd hw 41 rfl)) (ty := .boolean) (by decide)
          have F725 : Fld Z h718 b719 zs1 "gmcpOffered" "Z" (.int (0 : Int32)) := D718 (Or.inl (wd hw 48 rfl)) (ty := .boolean) (by decide)
          have F726 : Fld Z h718 b719 zs1 "echoOffered" "Z" (.int (0 : Int32)) := D718 (Or.inl (wd hw 95 rfl)) (ty := .boolean) (by decide)
          show own_Goes p e below (T718.setTop (mkF m 53 #[iv i0, iv (0 : Int32), iv (0 : Int32), iv (1 : Int32), iv (1 : Int32), .unset, .unset, .unset, .unset] [(.ref b719)])) _
          refine own_via (fun t k => XS.dup X718.here hx rfl (hb hby at_53) rfl rfl k) ?_
          have O728 : Old Z n0 h718 := (O0.ext E718)
          obtain ⟨_, T727, _, X727, hQ727, st727⟩ := own_ci X718 hx hZ hown (wd hw 3 rfl) (wd hw 4 rfl) (wd hw 5 rfl) (wd hw 2 rfl) rfl (by decide) (rm4 l Z a0 hw [] b719 (0 : Int32) (0 : Int32) (0 : Int32) h718 n0 O728 F722 A718 g720 F723 F724 F725 F726) e718 (g := (mkF m 54 #[iv i0, iv (0 : Int32), iv (0 : Int32), iv (1 : Int32), iv (1 : Int32), .unset, .unset, .unset, .unset] [(.ref b719), (.ref b719)])) rfl (by rw [hml]; rfl) (rest := [(.ref b719)]) (W := 1) (lenOf pd_3 rfl) rfl (by show 2 * 0 + _ ≤ _; exact Nat.le_of_eq rfl) (hb hby at_54) (by decide) (by decide) (by decide) (by decide)
          obtain ⟨h727, e727⟩ : ∃ z, T727.heap = z := ⟨_, rfl⟩
          rw [e727] at hQ727
          obtain ⟨b729, b730, k731, b732, b733, k734, rfl, Nq727, K727, ex735, fx736, fx737, fx738, fx739, fx740, bx741, ex742, fx743, fx744, fx745, bx746, vx747, bx748, ex749, fx750, fx751, fx752, bx753, vx754, nx755, nx756, nx757, nx758, nx759, nx760⟩ := hQ727
          have N727 := Fr.app N0 Nq727
          have N761 : b719 ≠ b729 := Nat.ne_of_lt (Nat.lt_of_lt_of_le A718.lt bx741)
          have g762 : n0 ≤ b729 := Nat.le_trans (own_old O728) bx741
          have Z764 : h0.size ≤ h718.size := (Nat.le_trans (Nat.le_refl _) E718.1)
          have B763 : h0.size ≤ b729 := Nat.le_trans Z764 bx741
          have N765 : b719 ≠ b730 := Nat.ne_of_lt (Nat.lt_of_lt_of_le A718.lt bx746)
          have g766 : n0 ≤ b730 := Nat.le_trans (own_old O728) bx746
          have B767 : h0.size ≤ b730 := Nat.le_trans Z764 bx746
          have N768 : b719 ≠ b732 := Nat.ne_of_lt (Nat.lt_of_lt_of_le A718.lt bx748)
          have g769 : n0 ≤ b732 := Nat.le_trans (own_old O728) bx748
          have B770 : h0.size ≤ b732 := Nat.le_trans Z764 bx748
          have N771 : b719 ≠ b733 := Nat.ne_of_lt (Nat.lt_of_lt_of_le A718.lt bx753)
          have g772 : n0 ≤ b733 := Nat.le_trans (own_old O728) bx753
          have B773 : h0.size ≤ b733 := Nat.le_trans Z764 bx753
          refine own_via (fun t k => st727 t (XS.astore X727.here hx rfl (hb hby at_57) rfl rfl (l' := #[iv i0, iv (0 : Int32), iv (0 : Int32), iv (1 : Int32), iv (1 : Int32), rv b719, .unset, .unset, .unset]) rfl (XS.iconst X727.here hx rfl (hb hby at_59) (XS.istore X727.here hx rfl (hb hby at_60) rfl (l' := #[iv i0, iv (0 : Int32), iv (0 : Int32), iv (1 : Int32), iv (1 : Int32), rv b719, iv (1 : Int32), .unset, .unset]) rfl (XS.iloadN X727.here hx rfl (hb hby at_62) rfl (XS.ifYes X727.here hx rfl (pc0 := 63) (pc' := 136) rfl (hb hby at_63) rfl ((if0 _ _).trans (teq (by decide : (0 : Int32) = (0 : Int32))).1) (by decide) (by decide) (XS.iload X727.here hx rfl (hb hby at_136) rfl (XS.ifNo X727.here hx rfl (hb hby at_138) rfl ((if0 _ _).trans (feq (by decide : ¬ ((1 : Int32) = (0 : Int32)))).1) (XS.aload X727.here hx rfl (hb hby at_141) rfl rfl k))))))))) ?_
          show own_Goes p e below (T727.setTop (mkF m 143 #[iv i0, iv (0 : Int32), iv (0 : Int32), iv (1 : Int32), iv (1 : Int32), rv b719, iv (1 : Int32), .unset, .unset] [(.ref b719)])) _
          have O775 : Old Z n0 h727 := (O728.keep K727 (allS g720 all0))
          obtain ⟨_, T774, _, X774, hQ774, st774⟩ := own_cv X727 hx hZ hown (wd hw 35 rfl) (wd hw 36 rfl) (wd hw 38 rfl) (wd hw 37 rfl) (wd hw 39 rfl) (wd hw 2 rfl) (by decide) (rm5 l Z a0 hw [] b719 h727 n0 O775 fx738) e727 ex735 (g := (mkF m 143 #[iv i0, iv (0 : Int32), iv (0 : Int32), iv (1 : Int32), iv (1 : Int32), rv b719, iv (1 : Int32), .unset, .unset] [(.ref b719)])) rfl (by rw [hml]; rfl) (rest := []) (W := 0) (lenOf pd_4 rfl) rfl (by show 2 * 0 + _ ≤ _; exact Nat.le_of_eq rfl) (hb hby at_143) (by decide) (by decide) (by decide) (by decide)
          obtain ⟨rfl, Nq774, hh776⟩ := hQ774
          have N774 := Fr.app N727 Nq774
          refine own_via (fun t k => st774 t (XS.ifNo X774.here hx rfl (hb hby at_146) rfl ((if0 _ _).trans (teq (by decide : (0 : Int32) = (0 : Int32))).2) (XS.iconst X774.here hx rfl (hb hby at_149) (XS.goto X774.here hx rfl (pc0 := 150) (pc' := 154) rfl (hb hby at_150) (by decide) (by decide) (XS.istore X774.here hx rfl (hb hby at_154) rfl (l' := #[iv i0, iv (0 : Int32), iv (0 : Int32), iv (1 : Int32), iv (1 : Int32), rv b719, iv (1 : Int32), .unset, .unset]) rfl (XS.aload X774.here hx rfl (hb hby at_156) rfl rfl (XS.iloadN X774.here hx rfl (hb hby at_158) rfl (XS.ifYes X774.here hx rfl (pc0 := 159) (pc' := 168) rfl (hb hby at_159) rfl ((if0 _ _).trans (teq (by decide : (0 : Int32) = (0 : Int32))).1) (by decide) (by decide) (XS.sipush X774.here hx rfl (hb hby at_168) (XS.sipush X774.here hx rfl (hb hby at_171) k)))))))))) ?_
          show own_Goes p e below (T774.setTop (mkF m 174 #[iv i0, iv (0 : Int32), iv (0 : Int32), iv (1 : Int32), iv (1 : Int32), rv b719, iv (1 : Int32), .unset, .unset] [(.int (201 : Int32)), (.int (254 : Int32)), (.ref b719)])) _
          obtain ⟨_, T777, _, X777, hQ777, st777⟩ := own_cv X774 hx hZ hown (wd hw 42 rfl) (wd hw 43 rfl) (wd hw 45 rfl) (wd hw 44 rfl) (wd hw 46 rfl) (wd hw 2 rfl) (by decide) (rm6 l Z a0 hw [] b719 w6 h727 n0 O775 fx739 fx738 S_TelnetOptions_NO_ANSWER) hh776 ex735 (g := (mkF m 174 #[iv i0, iv (0 : Int32), iv (0 : Int32), iv (1 : Int32), iv (1 : Int32), rv b719, iv (1 : Int32), .unset, .unset] [(.int (201 : Int32)), (.int (254 : Int32)), (.ref b719)])) rfl (by rw [hml]; rfl) (rest := []) (W := 0) (lenOf pd_5 rfl) rfl (by show 2 * 0 + _ ≤ _; exact Nat.le_of_eq rfl) (hb hby at_174) (by decide) (by decide) (by decide) (by decide)
          obtain ⟨rfl, Nq777, hh778⟩ := hQ777
          have N777 := Fr.app N774 Nq777
          refine own_via (fun t k => st777 t (XS.astore X777.here hx rfl (hb hby at_177) rfl rfl (l' := #[iv i0, iv (0 : Int32), iv (0 : Int32), iv (1 : Int32), iv (1 : Int32), rv b719, iv (1 : Int32), rv w6, .unset]) rfl (XS.iloadN X777.here hx rfl (hb hby at_179) rfl (XS.ifYes X777.here hx rfl (pc0 := 180) (pc' := 213) rfl (hb hby at_180) rfl ((if0 _ _).trans (teq (by decide : (0 : Int32) = (0 : Int32))).1) (by decide) (by decide) (XS.iload X777.here hx rfl (hb hby at_213) rfl (XS.ifNo X777.here hx rfl (hb hby at_215) rfl ((if0 _ _).trans (feq (by decide : ¬ ((1 : Int32) = (0 : Int32)))).1) (XS.iloadN X777.here hx rfl (hb hby at_218) rfl (XS.ifYes X777.here hx rfl (pc0 := 219) (pc' := 236) rfl (hb hby at_219) rfl ((if0 _ _).trans (teq (by decide : (0 : Int32) = (0 : Int32))).1) (by decide) (by decide) (XS.aload X777.here hx rfl (hb hby at_236) rfl rfl k))))))))) ?_
          show own_Goes p e below (T777.setTop (mkF m 238 #[iv i0, iv (0 : Int32), iv (0 : Int32), iv (1 : Int32), iv (1 : Int32), rv b719, iv (1 : Int32), rv w6, .unset] [(.ref w6)])) _
          obtain ⟨cl779, Ar779, -, S779, M779, -, -⟩ := id ((SV_w6.ext O775.2))
          refine own_via (fun t k => X777.arraylength hx (by rw [hh778]; exact Ar779.1) (State.isArrayOf_alike hZ.alike Ar779.2.1) (g := (mkF m 238 #[iv i0, iv (0 : Int32), iv (0 : Int32), iv (1 : Int32), iv (1 : Int32), rv b719, iv (1 : Int32), rv w6, .unset] [(.ref w6)])) rfl rfl (hb hby at_238) t k) ?_
          rw [len_of S779 M779]
          show own_Goes p e below (T777.setTop (mkF m 239 #[iv i0, iv (0 : Int32), iv (0 : Int32), iv (1 : Int32), iv (1 : Int32), rv b719, iv (1 : Int32), rv w6, .unset] [(.int (0 : Int32))])) _
          refine own_via (fun t k => XS.ifNo X777.here hx rfl (hb hby at_239) rfl ((if0 _ _).trans (teq (by decide : (0 : Int32) = (0 : Int32))).2) (XS.iconst X777.here hx rfl (hb hby at_242) (XS.goto X777.here hx rfl (pc0 := 243) (pc' := 247) rfl (hb hby at_243) (by decide) (by decide) (XS.istore X777.here hx rfl (hb hby at_247) rfl (l' := #[iv i0, iv (0 : Int32), iv (0 : Int32), iv (1 : Int32), iv (1 : Int32), rv b719, iv (1 : Int32), rv w6, .unset]) rfl (XS.iload X777.here hx rfl (hb hby at_249) rfl (XS.ifNo X777.here hx rfl (hb hby at_251) rfl ((if0 _ _).trans (feq (by decide : ¬ ((1 : Int32) = (0 : Int32)))).1) (XS.aload X777.here hx rfl (hb hby at_254) rfl rfl k))))))) ?_
          show own_Goes p e below (T777.setTop (mkF m 256 #[iv i0, iv (0 : Int32), iv (0 : Int32), iv (1 : Int32), iv (1 : Int32), rv b719, iv (1 : Int32), rv w6, .unset] [(.ref b719)])) _
          obtain ⟨_, T780, _, X780, hQ780, st780⟩ := own_cv X777 hx hZ hown (wd hw 35 rfl) (wd hw 36 rfl) (wd hw 38 rfl) (wd hw 37 rfl) (wd hw 39 rfl) (wd hw 2 rfl) (by decide) (rm5 l Z a0 hw [] b719 h727 n0 O775 fx738) hh778 ex735 (g := (mkF m 256 #[iv i0, iv (0 : Int32), iv (0 : Int32), iv (1 : Int32), iv (1 : Int32), rv b719, iv (1 : Int32), rv w6, .unset] [(.ref b719)])) rfl (by rw [hml]; rfl) (rest := []) (W := 0) (lenOf pd_4 rfl) rfl (by show 2 * 0 + _ ≤ _; exact Nat.le_of_eq rfl) (hb hby at_256) (by decide) (by decide) (by decide) (by decide)
          obtain ⟨rfl, Nq780, hh781⟩ := hQ780
          have N780 := Fr.app N777 Nq780
          refine own_via (fun t k => st780 t (XS.ifNo X780.here hx rfl (hb hby at_259) rfl ((if0 _ _).trans (teq (by decide : (0 : Int32) = (0 : Int32))).2) (XS.iconst X780.here hx rfl (hb hby at_262) (XS.goto X780.here hx rfl (pc0 := 263) (pc' := 267) rfl (hb hby at_263) (by decide) (by decide) (XS.istore X780.here hx rfl (hb hby at_267) rfl (l' := #[iv i0, iv (0 : Int32), iv (0 : Int32), iv (1 : Int32), iv (1 : Int32), rv b719, iv (1 : Int32), rv w6, .unset]) rfl (XS.iloadN X780.here hx rfl (hb hby at_269) rfl (XS.ifNo X780.here hx rfl (hb hby at_270) rfl ((if0 _ _).trans (feq (by decide : ¬ ((1 : Int32) = (0 : Int32)))).1) (XS.aload X780.here hx rfl (hb hby at_273) rfl rfl (XS.sipush X780.here hx rfl (hb hby at_275) (XS.sipush X780.here hx rfl (hb hby at_278) k)))))))))) ?_
          show own_Goes p e below (T780.setTop (mkF m 281 #[iv i0, iv (0 : Int32), iv (0 : Int32), iv (1 : Int32), iv (1 : Int32), rv b719, iv (1 : Int32), rv w6, .unset] [(.int (201 : Int32)), (.int (253 : Int32)), (.ref b719)])) _
          have l783 : own_Len Z h727 b733 .long (4 : Int32) := ⟨_, _, _, vx754⟩
          obtain ⟨_, T782, _, X782, hQ782, st782⟩ := own_cv X780 hx hZ hown (wd hw 42 rfl) (wd hw 43 rfl) (wd hw 45 rfl) (wd hw 44 rfl) (wd hw 46 rfl) (wd hw 2 rfl) (by decide) (rm14 l Z a0 hw [] b719 b732 b733 (1 : Int32) k734 h727 n0 O775 fx739 fx738 fx737 S_BitSet__assertionsDisabled ex749 fx750 fx752 l783 g769 fx751 vx754 nx760 g772) hh781 ex735 (g := (mkF m 281 #[iv i0, iv (0 : Int32), iv (0 : Int32), iv (1 : Int32), iv (1 : Int32), rv b719, iv (1 : Int32), rv w6, .unset] [(.int (201 : Int32)), (.int (253 : Int32)), (.ref b719)])) rfl (by rw [hml]; rfl) (rest := []) (W := 0) (lenOf pd_5 rfl) rfl (by show 2 * 0 + _ ≤ _; exact Nat.le_of_eq rfl) (hb hby at_281) (by decide) (by decide) (by decide) (by decide)
          obtain ⟨h782, e782⟩ : ∃ z, T782.heap = z := ⟨_, rfl⟩
          rw [e782] at hQ782
          obtain ⟨b784, k785, rfl, Nq782, K782, ex786, fx787, fx788, fx789, vx790, bx791, vx792⟩ := hQ782
          have N782 := Fr.app N780 Nq782
          have N793 : b719 ≠ b784 := Nat.ne_of_lt (Nat.lt_of_lt_of_le ex735.lt bx791)
          have N794 : b729 ≠ b784 := Nat.ne_of_lt (Nat.lt_of_lt_of_le ex742.lt bx791)
          have N795 : b730 ≠ b784 := Nat.ne_of_lt (Nat.lt_of_lt_of_le vx747.lt bx791)
          have N796 : b732 ≠ b784 := Nat.ne_of_lt (Nat.lt_of_lt_of_le ex749.lt bx791)
          have N797 : b733 ≠ b784 := Nat.ne_of_lt (Nat.lt_of_lt_of_le vx754.lt bx791)
          have g798 : n0 ≤ b784 := Nat.le_trans (own_old O775) bx791
          have Z800 : h0.size ≤ h727.size := (Nat.le_trans Z764 K727.1)
          have B799 : h0.size ≤ b784 := Nat.le_trans Z800 bx791
          refine own_via (fun t k => st782 t (XS.astore X782.here hx rfl (hb hby at_284) rfl rfl (l' := #[iv i0, iv (0 : Int32), iv (0 : Int32), iv (1 : Int32), iv (1 : Int32), rv b719, iv (1 : Int32), rv w6, rv b784]) rfl (XS.iloadN X782.here hx rfl (hb hby at_286) rfl (XS.ifYes X782.here hx rfl (pc0 := 287) (pc' := 323) rfl (hb hby at_287) rfl ((if0 _ _).trans (teq (by decide : (0 : Int32) = (0 : Int32))).1) (by decide) (by decide) (XS.iloadN X782.here hx rfl (hb hby at_323) rfl (XS.ifNo X782.here hx rfl (hb hby at_324) rfl ((if0 _ _).trans (teq (by decide : (0 : Int32) = (0 : Int32))).2) (XS.iloadN X782.here hx rfl (hb hby at_327) rfl (XS.ifYes X782.here hx rfl (pc0 := 328) (pc' := 360) rfl (hb hby at_328) rfl ((if0 _ _).trans (teq (by decide : (0 : Int32) = (0 : Int32))).1) (by decide) (by decide) (XS.iload X782.here hx rfl (hb hby at_360) rfl (XS.ifNo X782.here hx rfl (hb hby at_362) rfl ((if0 _ _).trans (feq (by decide : ¬ ((1 : Int32) = (0 : Int32)))).1) (XS.aload X782.here hx rfl (hb hby at_365) rfl rfl (XS.sipush X782.here hx rfl (hb hby at_367) k)))))))))))) ?_
          show own_Goes p e below (T782.setTop (mkF m 370 #[iv i0, iv (0 : Int32), iv (0 : Int32), iv (1 : Int32), iv (1 : Int32), rv b719, iv (1 : Int32), rv w6, rv b784] [(.int (252 : Int32)), (.ref b784)])) _
          have l802 : own_Len Z h782 b784 .byte (3 : Int32) := ⟨_, _, _, vx792⟩
          have O803 : Old Z n0 h782 := (O775.keep K782 (allS g769 (allS g772 all0)))
          obtain ⟨_, T801, _, X801, hQ801, st801⟩ := own_cs X782 hx hZ hown (wd hw 60 rfl) (wd hw 61 rfl) (wd hw 63 rfl) (wd hw 62 rfl) (by decide) (rm15 l Z a0 hw [] b784 k785 h782 n0 O803 l802 vx792) e782 (g := (mkF m 370 #[iv i0, iv (0 : Int32), iv (0 : Int32), iv (1 : Int32), iv (1 : Int32), rv b719, iv (1 : Int32), rv w6, rv b784] [(.int (252 : Int32)), (.ref b784)])) rfl (by rw [hml]; rfl) (rest := []) (W := 0) (lenOf pd_7 rfl) rfl (by show 2 * 0 + _ ≤ _; exact Nat.le_of_eq rfl) (hb hby at_370) (by decide) (by decide) (by decide) (by decide)
          obtain ⟨rfl, Nq801, hh804⟩ := hQ801
          have N801 := Fr.app N782 Nq801
          refine own_via (fun t k => st801 t (XS.ifNo X801.here hx rfl (hb hby at_373) rfl ((if0 _ _).trans (feq (by decide : ¬ ((1 : Int32) = (0 : Int32)))).1) (XS.aload X801.here hx rfl (hb hby at_376) rfl rfl k))) ?_
          show own_Goes p e below (T801.setTop (mkF m 378 #[iv i0, iv (0 : Int32), iv (0 : Int32), iv (1 : Int32), iv (1 : Int32), rv b719, iv (1 : Int32), rv w6, rv b784] [(.ref b719)])) _
          have F806 : Fld Z h782 b719 zs1 "gmcpOn" "Z" (.int (0 : Int32)) := (fx738.keep K782 (ninS N768 (ninS N771 nin0)))
          have E807 : Exa Z h782 b719 zs1 := (ex735.keep K782)
          obtain ⟨_, T805, _, X805, hQ805, st805⟩ := own_cv X801 hx hZ hown (wd hw 35 rfl) (wd hw 36 rfl) (wd hw 38 rfl) (wd hw 37 rfl) (wd hw 39 rfl) (wd hw 2 rfl) (by decide) (rm5 l Z a0 hw [] b719 h782 n0 O803 F806) hh804 E807 (g := (mkF m 378 #[iv i0, iv (0 : Int32), iv (0 : Int32), iv (1 : Int32), iv (1 : Int32), rv b719, iv (1 : Int32), rv w6, rv b784] [(.ref b719)])) rfl (by rw [hml]; rfl) (rest := []) (W := 0) (lenOf pd_4 rfl) rfl (by show 2 * 0 + _ ≤ _; exact Nat.le_of_eq rfl) (hb hby at_378) (by decide) (by decide) (by decide) (by decide)
          obtain ⟨rfl, Nq805, hh808⟩ := hQ805
          have N805 := Fr.app N801 Nq805
          refine own_via (fun t k => st805 t (XS.ifNo X805.here hx rfl (hb hby at_381) rfl ((if0 _ _).trans (teq (by decide : (0 : Int32) = (0 : Int32))).2) (XS.iconst X805.here hx rfl (hb hby at_384) (XS.goto X805.here hx rfl (pc0 := 385) (pc' := 389) rfl (hb hby at_385) (by decide) (by decide) (XS.istore X805.here hx rfl (hb hby at_389) rfl (l' := #[iv i0, iv (0 : Int32), iv (0 : Int32), iv (1 : Int32), iv (1 : Int32), rv b719, iv (1 : Int32), rv w6, rv b784]) rfl (XS.iload X805.here hx rfl (hb hby at_391) rfl k)))))) ?_
          show own_Goes p e below (T805.setTop (mkF m 393 #[iv i0, iv (0 : Int32), iv (0 : Int32), iv (1 : Int32), iv (1 : Int32), rv b719, iv (1 : Int32), rv w6, rv b784] [(.int (1 : Int32))])) _
          obtain ⟨fs, hr, hrun, hended, hW, hsame⟩ := X805.leave (v := some (.int (1 : Int32))) (fun h => by rw [Bd.returns] at h; cases h)
          refine own_end (t := T805.setFrames fs) ?_ ⟨_, hrun, hended, _, _, rfl, ?_, ⟨_, rfl⟩, hW, hsame.mono (by decide) (by decide)⟩
          · exact retN X805 hx (t := .boolean) Bd.returns (by simp) (hb hby at_393) hr
          · exact ⟨rfl, N805⟩
    · refine own_via (fun t k => XS.ifNo X0.here hx rfl (hb hby at_15) rfl ((if0 _ _).trans (feq hc11).1) (XS.iconst X0.here hx rfl (hb hby at_18) (XS.goto X0.here hx rfl (pc0 := 19) (pc' := 23) rfl (hb hby at_19) (by decide) (by decide) (XS.istoreN X0.here hx rfl (hb hby at_23) rfl (l' := #[iv i0, iv (0 : Int32), iv (1 : Int32), .unset, .unset, .unset, .unset, .unset, .unset]) rfl (XS.iloadN X0.here hx rfl (hb hby at_24) rfl (XS.iconst X0.here hx rfl (hb hby at_25) (XS.iand X0.here hx rfl (hb hby at_26) rfl k))))))) ?_
      show own_Goes p e below (s₁.setTop (mkF m 27 #[iv i0, iv (0 : Int32), iv (1 : Int32), .unset, .unset, .unset, .unset, .unset, .unset] [(.int (i0 &&& (4 : Int32)))])) _
      by_cases hc809 : (i0 &&& (4 : Int32)) = (0 : Int32)
      · refine own_via (fun t k => XS.ifYes X0.here hx rfl (pc0 := 27) (pc' := 34) rfl (hb hby at_27) rfl ((if0 _ _).trans (teq hc809).1) (by decide) (by decide) (XS.iconst X0.here hx rfl (hb hby at_34) (XS.istoreN X0.here hx rfl (hb hby at_35) rfl (l' := #[iv i0, iv (0 : Int32), iv (1 : Int32), iv (0 : Int32), .unset, .unset, .unset, .unset, .unset]) rfl (XS.iloadN X0.here hx rfl (hb hby at_36) rfl (XS.bipush X0.here hx rfl (hb hby at_37) (XS.iand X0.here hx rfl (hb hby at_39) rfl k)))))) ?_
        show own_Goes p e below (s₁.setTop (mkF m 40 #[iv i0, iv (0 : Int32), iv (1 : Int32), iv (0 : Int32), .unset, .unset, .unset, .unset, .unset] [(.int (i0 &&& (8 : Int32)))])) _
        by_cases hc810 : (i0 &&& (8 : Int32)) = (0 : Int32)
        · refine own_via (fun t k => XS.ifYes X0.here hx rfl (pc0 := 40) (pc' := 47) rfl (hb hby at_40) rfl ((if0 _ _).trans (teq hc810).1) (by decide) (by decide) (XS.iconst X0.here hx rfl (hb hby at_47) (XS.istore X0.here hx rfl (hb hby at_48) rfl (l' := #[iv i0, iv (0 : Int32), iv (1 : Int32), iv (0 : Int32), iv (0 : Int32), .unset, .unset, .unset, .unset]) rfl k))) ?_
          show own_Goes p e below (s₁.setTop (mkF m 50 #[iv i0, iv (0 : Int32), iv (1 : Int32), iv (0 : Int32), iv (0 : Int32), .unset, .unset, .unset, .unset] [])) _
          obtain ⟨T811, h811, X811, e811, E811, A811, D811, -, st811⟩ := newO X0 hx hZ hown (wd hw 0 rfl) (wd hw 1 rfl) (wd hw 2 rfl) e0 (g := (mkF m 50 #[iv i0, iv (0 : Int32), iv (1 : Int32), iv (0 : Int32), iv (0 : Int32), .unset, .unset, .unset, .unset] [])) rfl (hb hby at_50) (by decide) (by decide)
          obtain ⟨b812, q811⟩ : ∃ z, z = h0.size := ⟨_, rfl⟩
          rw [← q811] at A811 D811 st811
          refine own_via (fun t k => st811 t k) ?_
          have g813 : n0 ≤ b812 := Nat.le_trans (own_old O0) (Nat.le_of_eq q811.symm)
          have B814 : h0.size ≤ b812 := Nat.le_trans (Nat.le_refl _) (Nat.le_of_eq q811.symm)
          have F815 : Fld Z h811 b812 zs1 "refusedWill" zs3 .null := D811 (Or.inr (wd hw 32 rfl)) (ty := (.object zs2)) (by decide)
          have F816 : Fld Z h811 b812 zs1 "refusedDo" zs3 .null := D811 (Or.inr (wd hw 34 rfl)) (ty := (.object zs2)) (by decide)
          have F817 : Fld Z h811 b812 zs1 "gmcpOn" "Z" (.int (0 : Int32)) := D811 (Or.inl (wd hw 41 rfl)) (ty := .boolean) (by decide)
          have F818 : Fld Z h811 b812 zs1 "gmcpOffered" "Z" (.int (0 : Int32)) := D811 (Or.inl (wd hw 48 rfl)) (ty := .boolean) (by decide)
          have F819 : Fld Z h811 b812 zs1 "echoOffered" "Z" (.int (0 : Int32)) := D811 (Or.inl (wd hw 95 rfl)) (ty := .boolean) (by decide)
          show own_Goes p e below (T811.setTop (mkF m 53 #[iv i0, iv (0 : Int32), iv (1 : Int32), iv (0 : Int32), iv (0 : Int32), .unset, .unset, .unset, .unset] [(.ref b812)])) _
          refine own_via (fun t k => XS.dup X811.here hx rfl (hb hby at_53) rfl rfl k) ?_
          have O821 : Old Z n0 h811 := (O0.ext E811)
          obtain ⟨_, T820, _, X820, hQ820, st820⟩ := own_ci X811 hx hZ hown (wd hw 3 rfl) (wd hw 4 rfl) (wd hw 5 rfl) (wd hw 2 rfl) rfl (by decide) (rm4 l Z a0 hw [] b812 (0 : Int32) (0 : Int32) (0 : Int32) h811 n0 O821 F815 A811 g813 F816 F817 F818 F819) e811 (g := (mkF m 54 #[iv i0, iv (0 : Int32), iv (1 : Int32), iv (0 : Int32), iv (0 : Int32), .unset, .unset, .unset, .unset] [(.ref b812), (.ref b812)])) rfl (by rw [hml]; rfl) (rest := [(.ref b812)]) (W := 1) (lenOf pd_3 rfl) rfl (by show 2 * 0 + _ ≤ _; exact Nat.le_of_eq rfl) (hb hby at_54) (by decide) (by decide) (by decide) (by decide)
          obtain ⟨h820, e820⟩ : ∃ z, T820.heap = z := ⟨_, rfl⟩
          rw [e820] at hQ820
          obtain ⟨b822, b823, k824, b825, b826, k827, rfl, Nq820, K820, ex828, fx829, fx830, fx831, fx832, fx833, bx834, ex835, fx836, fx837, fx838, bx839, vx840, bx841, ex842, fx843, fx844, fx845, bx846, vx847, nx848, nx849, nx850, nx851, nx852, nx853⟩ := hQ820
          have N820 := Fr.app N0 Nq820
          have N854 : b812 ≠ b822 := Nat.ne_of_lt (Nat.lt_of_lt_of_le A811.lt bx834)
          have g855 : n0 ≤ b822 := Nat.le_trans (own_old O821) bx834
          have Z857 : h0.size ≤ h811.size := (Nat.le_trans (Nat.le_refl _) E811.1)
          have B856 : h0.size ≤ b822 := Nat.le_trans Z857 bx834
          have N858 : b812 ≠ b823 := Nat.ne_of_lt (Nat.lt_of_lt_of_le A811.lt bx839)
          have g859 : n0 ≤ b823 := Nat.le_trans (own_old O821) bx839
          have B860 : h0.size ≤ b823 := Nat.le_trans Z857 bx839
          have N861 : b812 ≠ b825 := Nat.ne_of_lt (Nat.lt_of_lt_of_le A811.lt bx841)
          have g862 : n0 ≤ b825 := Nat.le_trans (own_old O821) bx841
          have B863 : h0.size ≤ b825 := Nat.le_trans Z857 bx841
          have N864 : b812 ≠ b826 := Nat.ne_of_lt (Nat.lt_of_lt_of_le A811.lt bx846)
          have g865 : n0 ≤ b826 := Nat.le_trans (own_old O821) bx846
          have B866 : h0.size ≤ b826 := Nat.le_trans Z857 bx846
          refine own_via (fun t k => st820 t (XS.astore X820.here hx rfl (hb hby at_57) rfl rfl (l' := #[iv i0, iv (0 : Int32), iv (1 : Int32), iv (0 : Int32), iv (0 : Int32), rv b812, .unset, .unset, .unset]) rfl (XS.iconst X820.here hx rfl (hb hby at_59) (XS.istore X820.here hx rfl (hb hby at_60) rfl (l' := #[iv i0, iv (0 : Int32), iv (1 : Int32), iv (0 : Int32), iv (0 : Int32), rv b812, iv (1 : Int32), .unset, .unset]) rfl (XS.iloadN X820.here hx rfl (hb hby at_62) rfl (XS.ifYes X820.here hx rfl (pc0 := 63) (pc' := 136) rfl (hb hby at_63) rfl ((if0 _ _).trans (teq (by decide : (0 : Int32) = (0 : Int32))).1) (by decide) (by decide) (XS.iload X820.here hx rfl (hb hby at_136) rfl (XS.ifNo X820.here hx rfl (hb hby at_138) rfl ((if0 _ _).trans (feq (by decide : ¬ ((1 : Int32) = (0 : Int32)))).1) (XS.aload X820.here hx rfl (hb hby at_141) rfl rfl k))))))))) ?_
          show own_Goes p e below (T820.setTop (mkF m 143 #[iv i0, iv (0 : Int32), iv (1 : Int32), iv (0 : Int32), iv (0 : Int32), rv b812, iv (1 : Int32), .unset, .unset] [(.ref b812)])) _
          have O868 : Old Z n0 h820 := (O821.keep K820 (allS g813 all0))
          obtain ⟨_, T867, _, X867, hQ867, st867⟩ := own_cv X820 hx hZ hown (wd hw 35 rfl) (wd hw 36 rfl) (wd hw 38 rfl) (wd hw 37 rfl) (wd hw 39 rfl) (wd hw 2 rfl) (by decide) (rm5 l Z a0 hw [] b812 h820 n0 O868 fx831) e820 ex828 (g := (mkF m 143 #[iv i0, iv (0 : Int32), iv (1 : Int32), iv (0 : Int32), iv (0 : Int32), rv b812, iv (1 : Int32), .unset, .unset] [(.ref b812)])) rfl (by rw [hml]; rfl) (rest := []) (W := 0) (lenOf pd_4 rfl) rfl (by show 2 * 0 + _ ≤ _; exact Nat.le_of_eq rfl) (hb hby at_143) (by decide) (by decide) (by decide) (by decide)
          obtain ⟨rfl, Nq867, hh869⟩ := hQ867
          have N867 := Fr.app N820 Nq867
          refine own_via (fun t k => st867 t (XS.ifNo X867.here hx rfl (hb hby at_146) rfl ((if0 _ _).trans (teq (by decide : (0 : Int32) = (0 : Int32))).2) (XS.iconst X867.here hx rfl (hb hby at_149) (XS.goto X867.here hx rfl (pc0 := 150) (pc' := 154) rfl (hb hby at_150) (by decide) (by decide) (XS.istore X867.here hx rfl (hb hby at_154) rfl (l' := #[iv i0, iv (0 : Int32), iv (1 : Int32), iv (0 : Int32), iv (0 : Int32), rv b812, iv (1 : Int32), .unset, .unset]) rfl (XS.aload X867.here hx rfl (hb hby at_156) rfl rfl (XS.iloadN X867.here hx rfl (hb hby at_158) rfl (XS.ifNo X867.here hx rfl (hb hby at_159) rfl ((if0 _ _).trans (feq (by decide : ¬ ((1 : Int32) = (0 : Int32)))).1) (XS.sipush X867.here hx rfl (hb hby at_162) (XS.goto X867.here hx rfl (pc0 := 165) (pc' := 171) rfl (hb hby at_165) (by decide) (by decide) (XS.sipush X867.here hx rfl (hb hby at_171) k))))))))))) ?_
          show own_Goes p e below (T867.setTop (mkF m 174 #[iv i0, iv (0 : Int32), iv (1 : Int32), iv (0 : Int32), iv (0 : Int32), rv b812, iv (1 : Int32), .unset, .unset] [(.int (201 : Int32)), (.int (253 : Int32)), (.ref b812)])) _
          have l871 : own_Len Z h820 b826 .long (4 : Int32) := ⟨_, _, _, vx847⟩
          obtain ⟨_, T870, _, X870, hQ870, st870⟩ := own_cv X867 hx hZ hown (wd hw 42 rfl) (wd hw 43 rfl) (wd hw 45 rfl) (wd hw 44 rfl) (wd hw 46 rfl) (wd hw 2 rfl) (by decide) (rm14 l Z a0 hw [] b812 b825 b826 (1 : Int32) k827 h820 n0 O868 fx832 fx831 fx830 S_BitSet__assertionsDisabled ex842 fx843 fx845 l871 g862 fx844 vx847 nx853 g865) hh869 ex828 (g := (mkF m 174 #[iv i0, iv (0 : Int32), iv (1 : Int32), iv (0 : Int32), iv (0 : Int32), rv b812, iv (1 : Int32), .unset, .unset] [(.int (201 : Int32)), (.int (253 : Int32)), (.ref b812)])) rfl (by rw [hml]; rfl) (rest := []) (W := 0) (lenOf pd_5 rfl) rfl (by show 2 * 0 + _ ≤ _; exact Nat.le_of_eq rfl) (hb hby at_174) (by decide) (by decide) (by decide) (by decide)
          obtain ⟨h870, e870⟩ : ∃ z, T870.heap = z := ⟨_, rfl⟩
          rw [e870] at hQ870
          obtain ⟨b872, k873, rfl, Nq870, K870, ex874, fx875, fx876, fx877, vx878, bx879, vx880⟩ := hQ870
          have N870 := Fr.app N867 Nq870
          have N881 : b812 ≠ b872 := Nat.ne_of_lt (Nat.lt_of_lt_of_le ex828.lt bx879)
          have N882 : b822 ≠ b872 := Nat.ne_of_lt (Nat.lt_of_lt_of_le ex835.lt bx879)
          have N883 : b823 ≠ b872 := Nat.ne_of_lt (Nat.lt_of_lt_of_le vx840.lt bx879)
          have N884 : b825 ≠ b872 := Nat.ne_of_lt (Nat.lt_of_lt_of_le ex842.lt bx879)
          have N885 : b826 ≠ b872 := Nat.ne_of_lt (Nat.lt_of_lt_of_le vx847.lt bx879)
          have g886 : n0 ≤ b872 := Nat.le_trans (own_old O868) bx879
          have Z888 : h0.size ≤ h820.size := (Nat.le_trans Z857 K820.1)
          have B887 : h0.size ≤ b872 := Nat.le_trans Z888 bx879
          refine own_via (fun t k => st870 t (XS.astore X870.here hx rfl (hb hby at_177) rfl rfl (l' := #[iv i0, iv (0 : Int32), iv (1 : Int32), iv (0 : Int32), iv (0 : Int32), rv b812, iv (1 : Int32), rv b872, .unset]) rfl (XS.iloadN X870.here hx rfl (hb hby at_179) rfl (XS.ifYes X870.here hx rfl (pc0 := 180) (pc' := 213) rfl (hb hby at_180) rfl ((if0 _ _).trans (teq (by decide : (0 : Int32) = (0 : Int32))).1) (by decide) (by decide) (XS.iload X870.here hx rfl (hb hby at_213) rfl (XS.ifNo X870.here hx rfl (hb hby at_215) rfl ((if0 _ _).trans (feq (by decide : ¬ ((1 : Int32) = (0 : Int32)))).1) (XS.iloadN X870.here hx rfl (hb hby at_218) rfl (XS.ifNo X870.here hx rfl (hb hby at_219) rfl ((if0 _ _).trans (feq (by decide : ¬ ((1 : Int32) = (0 : Int32)))).1) (XS.aload X870.here hx rfl (hb hby at_222) rfl rfl (XS.sipush X870.here hx rfl (hb hby at_224) k)))))))))) ?_
          show own_Goes p e below (T870.setTop (mkF m 227 #[iv i0, iv (0 : Int32), iv (1 : Int32), iv (0 : Int32), iv (0 : Int32), rv b812, iv (1 : Int32), rv b872, .unset] [(.int (252 : Int32)), (.ref b872)])) _
          have l890 : own_Len Z h870 b872 .byte (3 : Int32) := ⟨_, _, _, vx880⟩
          have O891 : Old Z n0 h870 := (O868.keep K870 (allS g862 (allS g865 all0)))
          obtain ⟨_, T889, _, X889, hQ889, st889⟩ := own_cs X870 hx hZ hown (wd hw 60 rfl) (wd hw 61 rfl) (wd hw 63 rfl) (wd hw 62 rfl) (by decide) (rm15 l Z a0 hw [] b872 k873 h870 n0 O891 l890 vx880) e870 (g := (mkF m 227 #[iv i0, iv (0 : Int32), iv (1 : Int32), iv (0 : Int32), iv (0 : Int32), rv b812, iv (1 : Int32), rv b872, .unset] [(.int (252 : Int32)), (.ref b872)])) rfl (by rw [hml]; rfl) (rest := []) (W := 0) (lenOf pd_7 rfl) rfl (by show 2 * 0 + _ ≤ _; exact Nat.le_of_eq rfl) (hb hby at_227) (by decide) (by decide) (by decide) (by decide)
          obtain ⟨rfl, Nq889, hh892⟩ := hQ889
          have N889 := Fr.app N870 Nq889
          refine own_via (fun t k => st889 t (XS.ifNo X889.here hx rfl (hb hby at_230) rfl ((if0 _ _).trans (feq (by decide : ¬ ((1 : Int32) = (0 : Int32)))).1) (XS.goto X889.here hx rfl (pc0 := 233) (pc' := 242) rfl (hb hby at_233) (by decide) (by decide) (XS.iconst X889.here hx rfl (hb hby at_242) (XS.goto X889.here hx rfl (pc0 := 243) (pc' := 247) rfl (hb hby at_243) (by decide) (by decide) (XS.istore X889.here hx rfl (hb hby at_247) rfl (l' := #[iv i0, iv (0 : Int32), iv (1 : Int32), iv (0 : Int32), iv (0 : Int32), rv b812, iv (1 : Int32), rv b872, .unset]) rfl (XS.iload X889.here hx rfl (hb hby at_249) rfl (XS.ifNo X889.here hx rfl (hb hby at_251) rfl ((if0 _ _).trans (feq (by decide : ¬ ((1 : Int32) = (0 : Int32)))).1) (XS.aload X889.here hx rfl (hb hby at_254) rfl rfl k))))))))) ?_
          show own_Goes p e below (T889.setTop (mkF m 256 #[iv i0, iv (0 : Int32), iv (1 : Int32), iv (0 : Int32), iv (0 : Int32), rv b812, iv (1 : Int32), rv b872, .unset] [(.ref b812)])) _
          have F894 : Fld Z h870 b812 zs1 "gmcpOn" "Z" (.int (0 : Int32)) := (fx831.keep K870 (ninS N861 (ninS N864 nin0)))
          have E895 : Exa Z h870 b812 zs1 := (ex828.keep K870)
          obtain ⟨_, T893, _, X893, hQ893, st893⟩ := own_cv X889 hx hZ hown (wd hw 35 rfl) (wd hw 36 rfl) (wd hw 38 rfl) (wd hw 37 rfl) (wd hw 39 rfl) (wd hw 2 rfl) (by decide) (rm5 l Z a0 hw [] b812 h870 n0 O891 F894) hh892 E895 (g := (mkF m 256 #[iv i0, iv (0 : Int32), iv (1 : Int32), iv (0 : Int32), iv (0 : Int32), rv b812, iv (1 : Int32), rv b872, .unset] [(.ref b812)])) rfl (by rw [hml]; rfl) (rest := []) (W := 0) (lenOf pd_4 rfl) rfl (by show 2 * 0 + _ ≤ _; exact Nat.le_of_eq rfl) (hb hby at_256) (by decide) (by decide) (by decide) (by decide)
          obtain ⟨rfl, Nq893, hh896⟩ := hQ893
          have N893 := Fr.app N889 Nq893
          refine own_via (fun t k => st893 t (XS.ifNo X893.here hx rfl (hb hby at_259) rfl ((if0 _ _).trans (teq (by decide : (0 : Int32) = (0 : Int32))).2) (XS.iconst X893.here hx rfl (hb hby at_262) (XS.goto X893.here hx rfl (pc0 := 263) (pc' := 267) rfl (hb hby at_263) (by decide) (by decide) (XS.istore X893.here hx rfl (hb hby at_267) rfl (l' := #[iv i0, iv (0 : Int32), iv (1 : Int32), iv (0 : Int32), iv (0 : Int32), rv b812, iv (1 : Int32), rv b872, .unset]) rfl (XS.iloadN X893.here hx rfl (hb hby at_269) rfl (XS.ifYes X893.here hx rfl (pc0 := 270) (pc' := 391) rfl (hb hby at_270) rfl ((if0 _ _).trans (teq (by decide : (0 : Int32) = (0 : Int32))).1) (by decide) (by decide) (XS.iload X893.here hx rfl (hb hby at_391) rfl k)))))))) ?_
          show own_Goes p e below (T893.setTop (mkF m 393 #[iv i0, iv (0 : Int32), iv (1 : Int32), iv (0 : Int32), iv (0 : Int32), rv b812, iv (1 : Int32), rv b872, .unset] [(.int (1 : Int32))])) _
          obtain ⟨fs, hr, hrun, hended, hW, hsame⟩ := X893.leave (v := some (.int (1 : Int32))) (fun h => by rw [Bd.returns] at h; cases h)
          refine own_end (t := T893.setFrames fs) ?_ ⟨_, hrun, hended, _, _, rfl, ?_, ⟨_, rfl⟩, hW, hsame.mono (by decide) (by decide)⟩
          · exact retN X893 hx (t := .boolean) Bd.returns (by simp) (hb hby at_393) hr
          · exact ⟨rfl, N893⟩
        · refine own_via (fun t k => XS.ifNo X0.here hx rfl (hb hby at_40) rfl ((if0 _ _).trans (feq hc810).1) (XS.iconst X0.here hx rfl (hb hby at_43) (XS.goto X0.here hx rfl (pc0 := 44) (pc' := 48) rfl (hb hby at_44) (by decide) (by decide) (XS.istore X0.here hx rfl (hb hby at_48) rfl (l' := #[iv i0, iv (0 : Int32), iv (1 : Int32), iv (0 : Int32), iv (1 : Int32), .unset, .unset, .unset, .unset]) rfl k)))) ?_
          show own_Goes p e below (s₁.setTop (mkF m 50 #[iv i0, iv (0 : Int32), iv (1 : Int32), iv (0 : Int32), iv (1 : Int32), .unset, .unset, .unset, .unset] [])) _
          obtain ⟨T897, h897, X897, e897, E897, A897, D897, -, st897⟩ := newO X0 hx hZ hown (wd hw 0 rfl) (wd hw 1 rfl) (wd hw 2 rfl) e0 (g := (mkF m 50 #[iv i0, iv (0 : Int32), iv (1 : Int32), iv (0 : Int32), iv (1 : Int32), .unset, .unset, .unset, .unset] [])) rfl (hb hby at_50) (by decide) (by decide)
          obtain ⟨b898, q897⟩ : ∃ z, z = h0.size := ⟨_, rfl⟩
          rw [← q897] at A897 D897 st897
          refine own_via (fun t k => st897 t k) ?_
          have g899 : n0 ≤ b898 := Nat.le_trans (own_old O0) (Nat.le_of_eq q897.symm)
          have B900 : h0.size ≤ b898 := Nat.le_trans (Nat.le_refl _) (Nat.le_of_eq q897.symm)
          have F901 : Fld Z h897 b898 zs1 "refusedWill" zs3 .null := D897 (Or.inr (wd hw 32 rfl)) (ty := (.object zs2)) (by decide)
          have F902 : Fld Z h897 b898 zs1 "refusedDo" zs3 .null := D897 (Or.inr (wd hw 34 rfl)) (ty := (.object zs2)) (by decide)
          have F903 : Fld Z h897 b898 zs1 "gmcpOn" "Z" (.int (0 : Int32)) := D897 (Or.inl (wd hw 41 rfl)) (ty := .boolean) (by decide)
          have F904 : Fld Z h897 b898 zs1 "gmcpOffered" "Z" (.int (0 : Int32)) := D897 (Or.inl (wd hw 48 rfl)) (ty := .boolean) (by decide)
          have F905 : Fld Z h897 b898 zs1 "echoOffered" "Z" (.int (0 : Int32)) := D897 (Or.inl (wd hw 95 rfl)) (ty := .boolean) (by decide)
          show own_Goes p e below (T897.setTop (mkF m 53 #[iv i0, iv (0 : Int32), iv (1 : Int32), iv (0 : Int32), iv (1 : Int32), .unset, .unset, .unset, .unset] [(.ref b898)])) _
          refine own_via (fun t k => XS.dup X897.here hx rfl (hb hby at_53) rfl rfl k) ?_
          have O907 : Old Z n0 h897 := (O0.ext E897)
          obtain ⟨_, T906, _, X906, hQ906, st906⟩ := own_ci X897 hx hZ hown (wd hw 3 rfl) (wd hw 4 rfl) (wd hw 5 rfl) (wd hw 2 rfl) rfl (by decide) (rm4 l Z a0 hw [] b898 (0 : Int32) (0 : Int32) (0 : Int32) h897 n0 O907 F901 A897 g899 F902 F903 F904 F905) e897 (g := (mkF m 54 #[iv i0, iv (0 : Int32), iv (1 : Int32), iv (0 : Int32), iv (1 : Int32), .unset, .unset, .unset, .unset] [(.ref b898), (.ref b898)])) rfl (by rw [hml]; rfl) (rest := [(.ref b898)]) (W := 1) (lenOf pd_3 rfl) rfl (by show 2 * 0 + _ ≤ _; exact Nat.le_of_eq rfl) (hb hby at_54) (by decide) (by decide) (by decide) (by decide)
          obtain ⟨h906, e906⟩ : ∃ z, T906.heap = z := ⟨_, rfl⟩
          rw [e906] at hQ906
          obtain ⟨b908, b909, k910, b911, b912, k913, rfl, Nq906, K906, ex914, fx915, fx916, fx917, fx918, fx919, bx920, ex921, fx922, fx923, fx924, bx925, vx926, bx927, ex928, fx929, fx930, fx931, bx932, vx933, nx934, nx935, nx936, nx937, nx938, nx939⟩ := hQ906
          have N906 := Fr.app N0 Nq906
          have N940 : b898 ≠ b908 := Nat.ne_of_lt (Nat.lt_of_lt_of_le A897.lt bx920)
          have g941 : n0 ≤ b908 := Nat.le_trans (own_old O907) bx920
          have Z943 : h0.size ≤ h897.size := (Nat.le_trans (Nat.le_refl _) E897.1)
          have B942 : h0.size ≤ b908 := Nat.le_trans Z943 bx920
          have N944 : b898 ≠ b909 := Nat.ne_of_lt (Nat.lt_of_lt_of_le A897.lt bx925)
          have g945 : n0 ≤ b909 := Nat.le_trans (own_old O907) bx925
          have B946 : h0.size ≤ b909 := Nat.le_trans Z943 bx925
          have N947 : b898 ≠ b911 := Nat.ne_of_lt (Nat.lt_of_lt_of_le A897.lt bx927)
          have g948 : n0 ≤ b911 := Nat.le_trans (own_old O907) bx927
          have B949 : h0.size ≤ b911 := Nat.le_trans Z943 bx927
          have N950 : b898 ≠ b912 := Nat.ne_of_lt (Nat.lt_of_lt_of_le A897.lt bx932)
          have g951 : n0 ≤ b912 := Nat.le_trans (own_old O907) bx932
          have B952 : h0.size ≤ b912 := Nat.le_trans Z943 bx932
          refine own_via (fun t k => st906 t (XS.astore X906.here hx rfl (hb hby at_57) rfl rfl (l' := #[iv i0, iv (0 : Int32), iv (1 : Int32), iv (0 : Int32), iv (1 : Int32), rv b898, .unset, .unset, .unset]) rfl (XS.iconst X906.here hx rfl (hb hby at_59) (XS.istore X906.here hx rfl (hb hby at_60) rfl (l' := #[iv i0, iv (0 : Int32), iv (1 : Int32), iv (0 : Int32), iv (1 : Int32), rv b898, iv (1 : Int32), .unset, .unset]) rfl (XS.iloadN X906.here hx rfl (hb hby at_62) rfl (XS.ifYes X906.here hx rfl (pc0 := 63) (pc' := 136) rfl (hb hby at_63) rfl ((if0 _ _).trans (teq (by decide : (0 : Int32) = (0 : Int32))).1) (by decide) (by decide) (XS.iload X906.here hx rfl (hb hby at_136) rfl (XS.ifNo X906.here hx rfl (hb hby at_138) rfl ((if0 _ _).trans (feq (by decide : ¬ ((1 : Int32) = (0 : Int32)))).1) (XS.aload X906.here hx rfl (hb hby at_141) rfl rfl k))))))))) ?_
          show own_Goes p e below (T906.setTop (mkF m 143 #[iv i0, iv (0 : Int32), iv (1 : Int32), iv (0 : Int32), iv (1 : Int32), rv b898, iv (1 : Int32), .unset, .unset] [(.ref b898)])) _
          have O954 : Old Z n0 h906 := (O907.keep K906 (allS g899 all0))
          obtain ⟨_, T953, _, X953, hQ953, st953⟩ := own_cv X906 hx hZ hown (wd hw 35 rfl) (wd hw 36 rfl) (wd hw 38 rfl) (wd hw 37 rfl) (wd hw 39 rfl) (wd hw 2 rfl) (by decide) (rm5 l Z a0 hw [] b898 h906 n0 O954 fx917) e906 ex914 (g := (mkF m 143 #[iv i0, iv (0 : Int32), iv (1 : Int32), iv (0 : Int32), iv (1 : Int32), rv b898, iv (1 : Int32), .unset, .unset] [(.ref b898)])) rfl (by rw [hml]; rfl) (rest := []) (W := 0) (lenOf pd_4 rfl) rfl (by show 2 * 0 + _ ≤ _; exact Nat.le_of_eq rfl) (hb hby at_143) (by decide) (by decide) (by decide) (by decide)
          obtain ⟨rfl, Nq953, hh955⟩ := hQ953
          have N953 := Fr.app N906 Nq953
          refine own_via (fun t k => st953 t (XS.ifNo X953.here hx rfl (hb hby at_146) rfl ((if0 _ _).trans (teq (by decide : (0 : Int32) = (0 : Int32))).2) (XS.iconst X953.here hx rfl (hb hby at_149) (XS.goto X953.here hx rfl (pc0 := 150) (pc' := 154) rfl (hb hby at_150) (by decide) (by decide) (XS.istore X953.here hx rfl (hb hby at_154) rfl (l' := #[iv i0, iv (0 : Int32), iv (1 : Int32), iv (0 : Int32), iv (1 : Int32), rv b898, iv (1 : Int32), .unset, .unset]) rfl (XS.aload X953.here hx rfl (hb hby at_156) rfl rfl (XS.iloadN X953.here hx rfl (hb hby at_158) rfl (XS.ifNo X953.here hx rfl (hb hby at_159) rfl ((if0 _ _).trans (feq (by decide : ¬ ((1 : Int32) = (0 : Int32)))).1) (XS.sipush X953.here hx rfl (hb hby at_162) (XS.goto X953.here hx rfl (pc0 := 165) (pc' := 171) rfl (hb hby at_165) (by decide) (by decide) (XS.sipush X953.here hx rfl (hb hby at_171) k))))))))))) ?_
          show own_Goes p e below (T953.setTop (mkF m 174 #[iv i0, iv (0 : Int32), iv (1 : Int32), iv (0 : Int32), iv (1 : Int32), rv b898, iv (1 : Int32), .unset, .unset] [(.int (201 : Int32)), (.int (253 : Int32)), (.ref b898)])) _
          have l957 : own_Len Z h906 b912 .long (4 : Int32) := ⟨_, _, _, vx933⟩
          obtain ⟨_, T956, _, X956, hQ956, st956⟩ := own_cv X953 hx hZ hown (wd hw 42 rfl) (wd hw 43 rfl) (wd hw 45 rfl) (wd hw 44 rfl) (wd hw 46 rfl) (wd hw 2 rfl) (by decide) (rm14 l Z a0 hw [] b898 b911 b912 (1 : Int32) k913 h906 n0 O954 fx918 fx917 fx916 S_BitSet__assertionsDisabled ex928 fx929 fx931 l957 g948 fx930 vx933 nx939 g951) hh955 ex914 (g := (mkF m 174 #[iv i0, iv (0 : Int32), iv (1 : Int32), iv (0 : Int32), iv (1 : Int32), rv b898, iv (1 : Int32), .unset, .unset] [(.int (201 : Int32)), (.int (253 : Int32)), (.ref b898)])) rfl (by rw [hml]; rfl) (rest := []) (W := 0) (lenOf pd_5 rfl) rfl (by show 2 * 0 + _ ≤ _; exact Nat.le_of_eq rfl) (hb hby at_174) (by decide) (by decide) (by decide) (by decide)
          obtain ⟨h956, e956⟩ : ∃ z, T956.heap = z := ⟨_, rfl⟩
          rw [e956] at hQ956
          obtain ⟨b958, k959, rfl, Nq956, K956, ex960, fx961, fx962, fx963, vx964, bx965, vx966⟩ := hQ956
          have N956 := Fr.app N953 Nq956
          have N967 : b898 ≠ b958 := Nat.ne_of_lt (Nat.lt_of_lt_of_le ex914.lt bx965)
          have N968 : b908 ≠ b958 := Nat.ne_of_lt (Nat.lt_of_lt_of_le ex921.lt bx965)
          have N969 : b909 ≠ b958 := Nat.ne_of_lt (Nat.lt_of_lt_of_le vx926.lt bx965)
          have N970 : b911 ≠ b958 := Nat.ne_of_lt (Nat.lt_of_lt_of_le ex928.lt bx965)
          have N971 : b912 ≠ b958 := Nat.ne_of_lt (Nat.lt_of_lt_of_le vx933.lt bx965)
          have g972 : n0 ≤ b958 := Nat.le_trans (own_old O954) bx965
          have Z974 : h0.size ≤ h906.size := (Nat.le_trans Z943 K906.1)
          have B973 : h0.size ≤ b958 := Nat.le_trans Z974 bx965
          refine own_via (fun t k => st956 t (XS.astore X956.here hx rfl (hb hby at_177) rfl rfl (l' := #[iv i0, iv (0 : Int32), iv (1 : Int32), iv (0 : Int32), iv (1 : Int32), rv b898, iv (1 : Int32), rv b958, .unset]) rfl (XS.iloadN X956.here hx rfl (hb hby at_179) rfl (XS.ifYes X956.here hx rfl (pc0 := 180) (pc' := 213) rfl (hb hby at_180) rfl ((if0 _ _).trans (teq (by decide : (0 : Int32) = (0 : Int32))).1) (by decide) (by decide) (XS.iload X956.here hx rfl (hb hby at_213) rfl (XS.ifNo X956.here hx rfl (hb hby at_215) rfl ((if0 _ _).trans (feq (by decide : ¬ ((1 : Int32) = (0 : Int32)))).1) (XS.iloadN X956.here hx rfl (hb hby at_218) rfl (XS.ifNo X956.here hx rfl (hb hby at_219) rfl ((if0 _ _).trans (feq (by decide : ¬ ((1 : Int32) = (0 : Int32)))).1) (XS.aload X956.here hx rfl (hb hby at_222) rfl rfl (XS.sipush X956.here hx rfl (hb hby at_224) k)))))))))) ?_
          show own_Goes p e below (T956.setTop (mkF m 227 #[iv i0, iv (0 : Int32), iv (1 : Int32), iv (0 : Int32), iv (1 : Int32), rv b898, iv (1 : Int32), rv b958, .unset] [(.int (252 : Int32)), (.ref b958)])) _
          have l976 : own_Len Z h956 b958 .byte (3 : Int32) := ⟨_, _, _, vx966⟩
          have O977 : Old Z n0 h956 := (O954.keep K956 (allS g948 (allS g951 all0)))
          obtain ⟨_, T975, _, X975, hQ975, st975⟩ := own_cs X956 hx hZ hown (wd hw 60 rfl) (wd hw 61 rfl) (wd hw 63 rfl) (wd hw 62 rfl) (by decide) (rm15 l Z a0 hw [] b958 k959 h956 n0 O977 l976 vx966) e956 (g := (mkF m 227 #[iv i0, iv (0 : Int32), iv (1 : Int32), iv (0 : Int32), iv (1 : Int32), rv b898, iv (1 : Int32), rv b958, .unset] [(.int (252 : Int32)), (.ref b958)])) rfl (by rw [hml]; rfl) (rest := []) (W := 0) (lenOf pd_7 rfl) rfl (by show 2 * 0 + _ ≤ _; exact Nat.le_of_eq rfl) (hb hby at_227) (by decide) (by decide) (by decide) (by decide)
          obtain ⟨rfl, Nq975, hh978⟩ := hQ975
          have N975 := Fr.app N956 Nq975
          refine own_via (fun t k => st975 t (XS.ifNo X975.here hx rfl (hb hby at_230) rfl ((if0 _ _).trans (feq (by decide : ¬ ((1 : Int32) = (0 : Int32)))).1) (XS.goto X975.here hx rfl (pc0 := 233) (pc' := 242) rfl (hb hby at_233) (by decide) (by decide) (XS.iconst X975.here hx rfl (hb hby at_242) (XS.goto X975.here hx rfl (pc0 := 243) (pc' := 247) rfl (hb hby at_243) (by decide) (by decide) (XS.istore X975.here hx rfl (hb hby at_247) rfl (l' := #[iv i0, iv (0 : Int32), iv (1 : Int32), iv (0 : Int32), iv (1 : Int32), rv b898, iv (1 : Int32), rv b958, .unset]) rfl (XS.iload X975.here hx rfl (hb hby at_249) rfl (XS.ifNo X975.here hx rfl (hb hby at_251) rfl ((if0 _ _).trans (feq (by decide : ¬ ((1 : Int32) = (0 : Int32)))).1) (XS.aload X975.here hx rfl (hb hby at_254) rfl rfl k))))))))) ?_
          show own_Goes p e below (T975.setTop (mkF m 256 #[iv i0, iv (0 : Int32), iv (1 : Int32), iv (0 : Int32), iv (1 : Int32), rv b898, iv (1 : Int32), rv b958, .unset] [(.ref b898)])) _
          have F980 : Fld Z h956 b898 zs1 "gmcpOn" "Z" (.int (0 : Int32)) := (fx917.keep K956 (ninS N947 (ninS N950 nin0)))
          have E981 : Exa Z h956 b898 zs1 := (ex914.keep K956)
          obtain ⟨_, T979, _, X979, hQ979, st979⟩ := own_cv X975 hx hZ hown (wd hw 35 rfl) (wd hw 36 rfl) (wd hw 38 rfl) (wd hw 37 rfl) (wd hw 39 rfl) (wd hw 2 rfl) (by decide) (rm5 l Z a0 hw [] b898 h956 n0 O977 F980) hh978 E981 (g := (mkF m 256 #[iv i0, iv (0 : Int32), iv (1 : Int32), iv (0 : Int32), iv (1 : Int32), rv b898, iv (1 : Int32), rv b958, .unset] [(.ref b898)])) rfl (by rw [hml]; rfl) (rest := []) (W := 0) (lenOf pd_4 rfl) rfl (by show 2 * 0 + _ ≤ _; exact Nat.le_of_eq rfl) (hb hby at_256) (by decide) (by decide) (by decide) (by decide)
          obtain ⟨rfl, Nq979, hh982⟩ := hQ979
          have N979 := Fr.app N975 Nq979
          refine own_via (fun t k => st979 t (XS.ifNo X979.here hx rfl (hb hby at_259) rfl ((if0 _ _).trans (teq (by decide : (0 : Int32) = (0 : Int32))).2) (XS.iconst X979.here hx rfl (hb hby at_262) (XS.goto X979.here hx rfl (pc0 := 263) (pc' := 267) rfl (hb hby at_263) (by decide) (by decide) (XS.istore X979.here hx rfl (hb hby at_267) rfl (l' := #[iv i0, iv (0 : Int32), iv (1 : Int32), iv (0 : Int32), iv (1 : Int32), rv b898, iv (1 : Int32), rv b958, .unset]) rfl (XS.iloadN X979.here hx rfl (hb hby at_269) rfl (XS.ifYes X979.here hx rfl (pc0 := 270) (pc' := 391) rfl (hb hby at_270) rfl ((if0 _ _).trans (teq (by decide : (0 : Int32) = (0 : Int32))).1) (by decide) (by decide) (XS.iload X979.here hx rfl (hb hby at_391) rfl k)))))))) ?_
          show own_Goes p e below (T979.setTop (mkF m 393 #[iv i0, iv (0 : Int32), iv (1 : Int32), iv (0 : Int32), iv (1 : Int32), rv b898, iv (1 : Int32), rv b958, .unset] [(.int (1 : Int32))])) _
          obtain ⟨fs, hr, hrun, hended, hW, hsame⟩ := X979.leave (v := some (.int (1 : Int32))) (fun h => by rw [Bd.returns] at h; cases h)
          refine own_end (t := T979.setFrames fs) ?_ ⟨_, hrun, hended, _, _, rfl, ?_, ⟨_, rfl⟩, hW, hsame.mono (by decide) (by decide)⟩
          · exact retN X979 hx (t := .boolean) Bd.returns (by simp) (hb hby at_393) hr
          · exact ⟨rfl, N979⟩
      · refine own_via (fun t k => XS.ifNo X0.here hx rfl (hb hby at_27) rfl ((if0 _ _).trans (feq hc809).1) (XS.iconst X0.here hx rfl (hb hby at_30) (XS.goto X0.here hx rfl (pc0 := 31) (pc' := 35) rfl (hb hby at_31) (by decide) (by decide) (XS.istoreN X0.here hx rfl (hb hby at_35) rfl (l' := #[iv i0, iv (0 : Int32), iv (1 : Int32), iv (1 : Int32), .unset, .unset, .unset, .unset, .unset]) rfl (XS.iloadN X0.here hx rfl (hb hby at_36) rfl (XS.bipush X0.here hx rfl (hb hby at_37) (XS.iand X0.here hx rfl (hb hby at_39) rfl k))))))) ?_
        show own_Goes p e below (s₁.setTop (mkF m 40 #[iv i0, iv (0 : Int32), iv (1 : Int32), iv (1 : Int32), .unset, .unset, .unset, .unset, .unset] [(.int (i0 &&& (8 : Int32)))])) _
        by_cases hc983 : (i0 &&& (8 : Int32)) = (0 : Int32)
        · refine own_via (fun t k => XS.ifYes X0.here hx rfl (pc0 := 40) (pc' := 47) rfl (hb hby at_40) rfl ((if0 _ _).trans (teq hc983).1) (by decide) (by decide) (XS.iconst X0.here hx rfl (hb hby at_47) (XS.istore X0.here hx rfl (hb hby at_48) rfl (l' := #[iv i0, iv (0 : Int32), iv (1 : Int32), iv (1 : Int32), iv (0 : Int32), .unset, .unset, .unset, .unset]) rfl k))) ?_
          show own_Goes p e below (s₁.setTop (mkF m 50 #[iv i0, iv (0 : Int32), iv (1 : Int32), iv (1 : Int32), iv (0 : Int32), .unset, .unset, .unset, .unset] [])) _
          obtain ⟨T984, h984, X984, e984, E984, A984, D984, -, st984⟩ := newO X0 hx hZ hown (wd hw 0 rfl) (wd hw 1 rfl) (wd hw 2 rfl) e0 (g := (mkF m 50 #[iv i0, iv (0 : Int32), iv (1 : Int32), iv (1 : Int32), iv (0 : Int32), .unset, .unset, .unset, .unset] [])) rfl (hb hby at_50) (by decide) (by decide)
          obtain ⟨b985, q984⟩ : ∃ z, z = h0.size := ⟨_, rfl⟩
          rw [← q984] at A984 D984 st984
          refine own_via (fun t k => st984 t k) ?_
          have g986 : n0 ≤ b985 := Nat.le_trans (own_old O0) (Nat.le_of_eq q984.symm)
          have B987 : h0.size ≤ b985 := Nat.le_trans (Nat.le_refl _) (Nat.le_of_eq q984.symm)
          have F988 : Fld Z h984 b985 zs1 "refusedWill" zs3 .null := D984 (Or.inr (wd hw 32 rfl)) (ty := (.object zs2)) (by decide)
          have F989 : Fld Z h984 b985 zs1 "refusedDo" zs3 .null := D984 (Or.inr (wd hw 34 rfl)) (ty := (.object zs2)) (by decide)
          have F990 : Fld Z h984 b985 zs1 "gmcpOn" "Z" (.int (0 : Int32)) := D984 (Or.inl (wd hw 41 rfl)) (ty := .boolean) (by decide)
          have F991 : Fld Z h984 b985 zs1 "gmcpOffered" "Z" (.int (0 : Int32)) := D984 (Or.inl (wd hw 48 rfl)) (ty := .boolean) (by decide)
          have F992 : Fld Z h984 b985 zs1 "echoOffered" "Z" (.int (0 : Int32)) := D984 (Or.inl (wd hw 95 rfl)) (ty := .boolean) (by decide)
          show own_Goes p e below (T984.setTop (mkF m 53 #[iv i0, iv (0 : Int32), iv (1 : Int32), iv (1 : Int32), iv (0 : Int32), .unset, .unset, .unset, .unset] [(.ref b985)])) _
          refine own_via (fun t k => XS.dup X984.here hx rfl (hb hby at_53) rfl rfl k) ?_
          have O994 : Old Z n0 h984 := (O0.ext E984)
          obtain ⟨_, T993, _, X993, hQ993, st993⟩ := own_ci X984 hx hZ hown (wd hw 3 rfl) (wd hw 4 rfl) (wd hw 5 rfl) (wd hw 2 rfl) rfl (by decide) (rm4 l Z a0 hw [] b985 (0 : Int32) (0 : Int32) (0 : Int32) h984 n0 O994 F988 A984 g986 F989 F990 F991 F992) e984 (g := (mkF m 54 #[iv i0, iv (0 : Int32), iv (1 : Int32), iv (1 : Int32), iv (0 : Int32), .unset, .unset, .unset, .unset] [(.ref b985), (.ref b985)])) rfl (by rw [hml]; rfl) (rest := [(.ref b985)]) (W := 1) (lenOf pd_3 rfl) rfl (by show 2 * 0 + _ ≤ _; exact Nat.le_of_eq rfl) (hb hby at_54) (by decide) (by decide) (by decide) (by decide)
          obtain ⟨h993, e993⟩ : ∃ z, T993.heap = z := ⟨_, rfl⟩
          rw [e993] at hQ993
          obtain ⟨b995, b996, k997, b998, b999, k1000, rfl, Nq993, K993, ex1001, fx1002, fx1003, fx1004, fx1005, fx1006, bx1007, ex1008, fx1009, fx1010, fx1011, bx1012, vx1013, bx1014, ex1015, fx1016, fx1017, fx1018, bx1019, vx1020, nx1021, nx1022, nx1023, nx1024, nx1025, nx1026⟩ := hQ993
          have N993 := Fr.app N0 Nq993
          have N1027 : b985 ≠ b995 := Nat.ne_of_lt (Nat.lt_of_lt_of_le A984.lt bx1007)
          have g1028 : n0 ≤ b995 := Nat.le_trans (own_old O994) bx1007
          have Z1030 : h0.size ≤ h984.size := (Nat.le_trans (Nat.le_refl _) E984.1)
          have B1029 : h0.size ≤ b995 := Nat.le_trans Z1030 bx1007
          have N1031 : b985 ≠ b996 := Nat.ne_of_lt (Nat.lt_of_lt_of_le A984.lt bx1012)
          have g1032 : n0 ≤ b996 := Nat.le_trans (own_old O994) bx1012
          have B1033 : h0.size ≤ b996 := Nat.le_trans Z1030 bx1012
          have N1034 : b985 ≠ b998 := Nat.ne_of_lt (Nat.lt_of_lt_of_le A984.lt bx1014)
          have g1035 : n0 ≤ b998 := Nat.le_trans (own_old O994) bx1014
          have B1036 : h0.size ≤ b998 := Nat.le_trans Z1030 bx1014
          have N1037 : b985 ≠ b999 := Nat.ne_of_lt (Nat.lt_of_lt_of_le A984.lt bx1019)
          have g1038 : n0 ≤ b999 := Nat.le_trans (own_old O994) bx1019
          have B1039 : h0.size ≤ b999 := Nat.le_trans Z1030 bx1019
          refine own_via (fun t k => st993 t (XS.astore X993.here hx rfl (hb hby at_57) rfl rfl (l' := #[iv i0, iv (0 : Int32), iv (1 : Int32), iv (1 : Int32), iv (0 : Int32), rv b985, .unset, .unset, .unset]) rfl (XS.iconst X993.here hx rfl (hb hby at_59) (XS.istore X993.here hx rfl (hb hby at_60) rfl (l' := #[iv i0, iv (0 : Int32), iv (1 : Int32), iv (1 : Int32), iv (0 : Int32), rv b985, iv (1 : Int32), .unset, .unset]) rfl (XS.iloadN X993.here hx rfl (hb hby at_62) rfl (XS.ifYes X993.here hx rfl (pc0 := 63) (pc' := 136) rfl (hb hby at_63) rfl ((if0 _ _).trans (teq (by decide : (0 : Int32) = (0 : Int32))).1) (by decide) (by decide) (XS.iload X993.here hx rfl (hb hby at_136) rfl (XS.ifNo X993.here hx rfl (hb hby at_138) rfl ((if0 _ _).trans (feq (by decide : ¬ ((1 : Int32) = (0 : Int32)))).1) (XS.aload X993.here hx rfl (hb hby at_141) rfl rfl k))))))))) ?_
          show own_Goes p e below (T993.setTop (mkF m 143 #[iv i0, iv (0 : Int32), iv (1 : Int32), iv (1 : Int32), iv (0 : Int32), rv b985, iv (1 : Int32), .unset, .unset] [(.ref b985)])) _
          have O1041 : Old Z n0 h993 := (O994.keep K993 (allS g986 all0))
          obtain ⟨_, T1040, _, X1040, hQ1040, st1040⟩ := own_cv X993 hx hZ hown (wd hw 35 rfl) (wd hw 36 rfl) (wd hw 38 rfl) (wd hw 37 rfl) (wd hw 39 rfl) (wd hw 2 rfl) (by decide) (rm5 l Z a0 hw [] b985 h993 n0 O1041 fx1004) e993 ex1001 (g := (mkF m 143 #[iv i0, iv (0 : Int32), iv (1 : Int32), iv (1 : Int32), iv (0 : Int32), rv b985, iv (1 : Int32), .unset, .unset] [(.ref b985)])) rfl (by rw [hml]; rfl) (rest := []) (W := 0) (lenOf pd_4 rfl) rfl (by show 2 * 0 + _ ≤ _; exact Nat.le_of_eq rfl) (hb hby at_143) (by decide) (by decide) (by decide) (by decide)
          obtain ⟨rfl, Nq1040, hh1042⟩ := hQ1040
          have N1040 := Fr.app N993 Nq1040
          refine own_via (fun t k => st1040 t (XS.ifNo X1040.here hx rfl (hb hby at_146) rfl ((if0 _ _).trans (teq (by decide : (0 : Int32) = (0 : Int32))).2) (XS.iconst X1040.here hx rfl (hb hby at_149) (XS.goto X1040.here hx rfl (pc0 := 150) (pc' := 154) rfl (hb hby at_150) (by decide) (by decide) (XS.istore X1040.here hx rfl (hb hby at_154) rfl (l' := #[iv i0, iv (0 : Int32), iv (1 : Int32), iv (1 : Int32), iv (0 : Int32), rv b985, iv (1 : Int32), .unset, .unset]) rfl (XS.aload X1040.here hx rfl (hb hby at_156) rfl rfl (XS.iloadN X1040.here hx rfl (hb hby at_158) rfl (XS.ifNo X1040.here hx rfl (hb hby at_159) rfl ((if0 _ _).trans (feq (by decide : ¬ ((1 : Int32) = (0 : Int32)))).1) (XS.sipush X1040.here hx rfl (hb hby at_162) (XS.goto X1040.here hx rfl (pc0 := 165) (pc' := 171) rfl (hb hby at_165) (by decide) (by decide) (XS.sipush X1040.here hx rfl (hb hby at_171) k))))))))))) ?_
          show own_Goes p e below (T1040.setTop (mkF m 174 #[iv i0, iv (0 : Int32), iv (1 : Int32), iv (1 : Int32), iv (0 : Int32), rv b985, iv (1 : Int32), .unset, .unset] [(.int (201 : Int32)), (.int (253 : Int32)), (.ref b985)])) _
          have l1044 : own_Len Z h993 b999 .long (4 : Int32) := ⟨_, _, _, vx1020⟩
          obtain ⟨_, T1043, _, X1043, hQ1043, st1043⟩ := own_cv X1040 hx hZ hown (wd hw 42 rfl) (wd hw 43 rfl) (wd hw 45 rfl) (wd hw 44 rfl) (wd hw 46 rfl) (wd hw 2 rfl) (by decide) (rm14 l Z a0 hw [] b985 b998 b999 (1 : Int32) k1000 h993 n0 O1041 fx1005 fx1004 fx1003 S_BitSet__assertionsDisabled ex1015 fx1016 fx1018 l1044 g1035 fx1017 vx1020 nx1026 g1038) hh1042 ex1001 (g := (mkF m 174 #[iv i0, iv (0 : Int32), iv (1 : Int32), iv (1 : Int32), iv (0 : Int32), rv b985, iv (1 : Int32), .unset, .unset] [(.int (201 : Int32)), (.int (253 : Int32)), (.ref b985)])) rfl (by rw [hml]; rfl) (rest := []) (W := 0) (lenOf pd_5 rfl) rfl (by show 2 * 0 + _ ≤ _; exact Nat.le_of_eq rfl) (hb hby at_174) (by decide) (by decide) (by decide) (by decide)
          obtain ⟨h1043, e1043⟩ : ∃ z, T1043.heap = z := ⟨_, rfl⟩
          rw [e1043] at hQ1043
          obtain ⟨b1045, k1046, rfl, Nq1043, K1043, ex1047, fx1048, fx1049, fx1050, vx1051, bx1052, vx1053⟩ := hQ1043
          have N1043 := Fr.app N1040 Nq1043
          have N1054 : b985 ≠ b1045 := Nat.ne_of_lt (Nat.lt_of_lt_of_le ex1001.lt bx1052)
          have N1055 : b995 ≠ b1045 := Nat.ne_of_lt (Nat.lt_of_lt_of_le ex1008.lt bx1052)
          have N1056 : b996 ≠ b1045 := Nat.ne_of_lt (Nat.lt_of_lt_of_le vx1013.lt bx1052)
          have N1057 : b998 ≠ b1045 := Nat.ne_of_lt (Nat.lt_of_lt_of_le ex1015.lt bx1052)
          have N1058 : b999 ≠ b1045 := Nat.ne_of_lt (Nat.lt_of_lt_of_le vx1020.lt bx1052)
          have g1059 : n0 ≤ b1045 := Nat.le_trans (own_old O1041) bx1052
          have Z1061 : h0.size ≤ h993.size := (Nat.le_trans Z1030 K993.1)
          have B1060 : h0.size ≤ b1045 := Nat.le_trans Z1061 bx1052
          refine own_via (fun t k => st1043 t (XS.astore X1043.here hx rfl (hb hby at_177) rfl rfl (l' := #[iv i0, iv (0 : Int32), iv (1 : Int32), iv (1 : Int32), iv (0 : Int32), rv b985, iv (1 : Int32), rv b1045, .unset]) rfl (XS.iloadN X1043.here hx rfl (hb hby at_179) rfl (XS.ifYes X1043.here hx rfl (pc0 := 180) (pc' := 213) rfl (hb hby at_180) rfl ((if0 _ _).trans (teq (by decide : (0 : Int32) = (0 : Int32))).1) (by decide) (by decide) (XS.iload X1043.here hx rfl (hb hby at_213) rfl (XS.ifNo X1043.here hx rfl (hb hby at_215) rfl ((if0 _ _).trans (feq (by decide : ¬ ((1 : Int32) = (0 : Int32)))).1) (XS.iloadN X1043.here hx rfl (hb hby at_218) rfl (XS.ifNo X1043.here hx rfl (hb hby at_219) rfl ((if0 _ _).trans (feq (by decide : ¬ ((1 : Int32) = (0 : Int32)))).1) (XS.aload X1043.here hx rfl (hb hby at_222) rfl rfl (XS.sipush X1043.here hx rfl (hb hby at_224) k)))))))))) ?_
          show own_Goes p e below (T1043.setTop (mkF m 227 #[iv i0, iv (0 : Int32), iv (1 : Int32), iv (1 : Int32), iv (0 : Int32), rv b985, iv (1 : Int32), rv b1045, .unset] [(.int (252 : Int32)), (.ref b1045)])) _
          have l1063 : own_Len Z h1043 b1045 .byte (3 : Int32) := ⟨_, _, _, vx1053⟩
          have O1064 : Old Z n0 h1043 := (O1041.keep K1043 (allS g1035 (allS g1038 all0)))
          obtain ⟨_, T1062, _, X1062, hQ1062, st1062⟩ := own_cs X1043 hx hZ hown (wd hw 60 rfl) (wd hw 61 rfl) (wd hw 63 rfl) (wd hw 62 rfl) (by decide) (rm15 l Z a0 hw [] b1045 k1046 h1043 n0 O1064 l1063 vx1053) e1043 (g := (mkF m 227 #[iv i0, iv (0 : Int32), iv (1 : Int32), iv (1 : Int32), iv (0 : Int32), rv b985, iv (1 : Int32), rv b1045, .unset] [(.int (252 : Int32)), (.ref b1045)])) rfl (by rw [hml]; rfl) (rest := []) (W := 0) (lenOf pd_7 rfl) rfl (by show 2 * 0 + _ ≤ _; exact Nat.le_of_eq rfl) (hb hby at_227) (by decide) (by decide) (by decide) (by decide)
          obtain ⟨rfl, Nq1062, hh1065⟩ := hQ1062
          have N1062 := Fr.app N1043 Nq1062
          refine own_via (fun t k => st1062 t (XS.ifNo X1062.here hx rfl (hb hby at_230) rfl ((if0 _ _).trans (feq (by decide : ¬ ((1 : Int32) = (0 : Int32)))).1) (XS.goto X1062.here hx rfl (pc0 := 233) (pc' := 242) rfl (hb hby at_233) (by decide) (by decide) (XS.iconst X1062.here hx rfl (hb hby at_242) (XS.goto X1062.here hx rfl (pc0 := 243) (pc' := 247) rfl (hb hby at_243) (by decide) (by decide) (XS.istore X1062.here hx rfl (hb hby at_247) rfl (l' := #[iv i0, iv (0 : Int32), iv (1 : Int32), iv (1 : Int32), iv (0 : Int32), rv b985, iv (1 : Int32), rv b1045, .unset]) rfl (XS.iload X1062.here hx rfl (hb hby at_249) rfl (XS.ifNo X1062.here hx rfl (hb hby at_251) rfl ((if0 _ _).trans (feq (by decide : ¬ ((1 : Int32) = (0 : Int32)))).1) (XS.aload X1062.here hx rfl (hb hby at_254) rfl rfl k))))))))) ?_
          show own_Goes p e below (T1062.setTop (mkF m 256 #[iv i0, iv (0 : Int32), iv (1 : Int32), iv (1 : Int32), iv (0 : Int32), rv b985, iv (1 : Int32), rv b1045, .unset] [(.ref b985)])) _
          have F1067 : Fld Z h1043 b985 zs1 "gmcpOn" "Z" (.int (0 : Int32)) := (fx1004.keep K1043 (ninS N1034 (ninS N1037 nin0)))
          have E1068 : Exa Z h1043 b985 zs1 := (ex1001.keep K1043)
          obtain ⟨_, T1066, _, X1066, hQ1066, st1066⟩ := own_cv X1062 hx hZ hown (wd hw 35 rfl) (wd hw 36 rfl) (wd hw 38 rfl) (wd hw 37 rfl) (wd hw 39 rfl) (wd hw 2 rfl) (by decide) (rm5 l Z a0 hw [] b985 h1043 n0 O1064 F1067) hh1065 E1068 (g := (mkF m 256 #[iv i0, iv (0 : Int32), iv (1 : Int32), iv (1 : Int32), iv (0 : Int32), rv b985, iv (1 : Int32), rv b1045, .unset] [(.ref b985)])) rfl (by rw [hml]; rfl) (rest := []) (W := 0) (lenOf pd_4 rfl) rfl (by show 2 * 0 + _ ≤ _; exact Nat.le_of_eq rfl) (hb hby at_256) (by decide) (by decide) (by decide) (by decide)
          obtain ⟨rfl, Nq1066, hh1069⟩ := hQ1066
          have N1066 := Fr.app N1062 Nq1066
          refine own_via (fun t k => st1066 t (XS.ifNo X1066.here hx rfl (hb hby at_259) rfl ((if0 _ _).trans (teq (by decide : (0 : Int32) = (0 : Int32))).2) (XS.iconst X1066.here hx rfl (hb hby at_262) (XS.goto X1066.here hx rfl (pc0 := 263) (pc' := 267) rfl (hb hby at_263) (by decide) (by decide) (XS.istore X1066.here hx rfl (hb hby at_267) rfl (l' := #[iv i0, iv (0 : Int32), iv (1 : Int32), iv (1 : Int32), iv (0 : Int32), rv b985, iv (1 : Int32), rv b1045, .unset]) rfl (XS.iloadN X1066.here hx rfl (hb hby at_269) rfl (XS.ifNo X1066.here hx rfl (hb hby at_270) rfl ((if0 _ _).trans (feq (by decide : ¬ ((1 : Int32) = (0 : Int32)))).1) (XS.aload X1066.here hx rfl (hb hby at_273) rfl rfl (XS.sipush X1066.here hx rfl (hb hby at_275) (XS.sipush X1066.here hx rfl (hb hby at_278) k)))))))))) ?_
          show own_Goes p e below (T1066.setTop (mkF m 281 #[iv i0, iv (0 : Int32), iv (1 : Int32), iv (1 : Int32), iv (0 : Int32), rv b985, iv (1 : Int32), rv b1045, .unset] [(.int (201 : Int32)), (.int (253 : Int32)), (.ref b985)])) _
          have F1138 : Fld Z h1043 b985 zs1 "gmcpOffered" "Z" (.int (0 : Int32)) := (fx1005.keep K1043 (ninS N1034 (ninS N1037 nin0)))
          have F1139 : Fld Z h1043 b985 zs1 "refusedDo" zs3 (.ref b998) := (fx1003.keep K1043 (ninS N1034 (ninS N1037 nin0)))
          obtain ⟨_, T1070, _, X1070, hQ1070, st1070⟩ := own_cv X1066 hx hZ hown (wd hw 42 rfl) (wd hw 43 rfl) (wd hw 45 rfl) (wd hw 44 rfl) (wd hw 46 rfl) (wd hw 2 rfl) (by decide) (rm17 l Z a0 hw [] b985 b998 b999 k1000 (0 : Int64) (0 : Int64) (0 : Int64) w6 h1043 n0 O1064 F1138 F1067 F1139 S_BitSet__assertionsDisabled ex1047 fx1048 fx1050 vx1051 S_TelnetOptions_NO_ANSWER) hh1069 E1068 (g := (mkF m 281 #[iv i0, iv (0 : Int32), iv (1 : Int32), iv (1 : Int32), iv (0 : Int32), rv b985, iv (1 : Int32), rv b1045, .unset] [(.int (201 : Int32)), (.int (253 : Int32)), (.ref b985)])) rfl (by rw [hml]; rfl) (rest := []) (W := 0) (lenOf pd_5 rfl) rfl (by show 2 * 0 + _ ≤ _; exact Nat.le_of_eq rfl) (hb hby at_281) (by decide) (by decide) (by decide) (by decide)
          obtain ⟨rfl, Nq1070, hh1140⟩ := hQ1070
          have N1070 := Fr.app N1066 Nq1070
          refine own_via (fun t k => st1070 t (XS.astore X1070.here hx rfl (hb hby at_284) rfl rfl (l' := #[iv i0, iv (0 : Int32), iv (1 : Int32), iv (1 : Int32), iv (0 : Int32), rv b985, iv (1 : Int32), rv b1045, rv w6]) rfl (XS.iloadN X1070.here hx rfl (hb hby at_286) rfl (XS.ifYes X1070.here hx rfl (pc0 := 287) (pc' := 323) rfl (hb hby at_287) rfl ((if0 _ _).trans (teq (by decide : (0 : Int32) = (0 : Int32))).1) (by decide) (by decide) (XS.iloadN X1070.here hx rfl (hb hby at_323) rfl (XS.ifNo X1070.here hx rfl (hb hby at_324) rfl ((if0 _ _).trans (teq (by decide : (0 : Int32) = (0 : Int32))).2) (XS.iloadN X1070.here hx rfl (hb hby at_327) rfl (XS.ifNo X1070.here hx rfl (hb hby at_328) rfl ((if0 _ _).trans (feq (by decide : ¬ ((1 : Int32) = (0 : Int32)))).1) (XS.iload X1070.here hx rfl (hb hby at_331) rfl (XS.ifNo X1070.here hx rfl (hb hby at_333) rfl ((if0 _ _).trans (feq (by decide : ¬ ((1 : Int32) = (0 : Int32)))).1) (XS.aload X1070.here hx rfl (hb hby at_336) rfl rfl k))))))))))) ?_
          show own_Goes p e below (T1070.setTop (mkF m 338 #[iv i0, iv (0 : Int32), iv (1 : Int32), iv (1 : Int32), iv (0 : Int32), rv b985, iv (1 : Int32), rv b1045, rv w6] [(.ref w6)])) _
          obtain ⟨cl1141, Ar1141, -, S1141, M1141, -, -⟩ := id ((SV_w6.ext O1064.2))
          refine own_via (fun t k => X1070.arraylength hx (by rw [hh1140]; exact Ar1141.1) (State.isArrayOf_alike hZ.alike Ar1141.2.1) (g := (mkF m 338 #[iv i0, iv (0 : Int32), iv (1 : Int32), iv (1 : Int32), iv (0 : Int32), rv b985, iv (1 : Int32), rv b1045, rv w6] [(.ref w6)])) rfl rfl (hb hby at_338) t k) ?_
          rw [len_of S1141 M1141]
          show own_Goes p e below (T1070.setTop (mkF m 339 #[iv i0, iv (0 : Int32), iv (1 : Int32), iv (1 : Int32), iv (0 : Int32), rv b985, iv (1 : Int32), rv b1045, rv w6] [(.int (0 : Int32))])) _
          refine own_via (fun t k => XS.ifNo X1070.here hx rfl (hb hby at_339) rfl ((if0 _ _).trans (teq (by decide : (0 : Int32) = (0 : Int32))).2) (XS.aload X1070.here hx rfl (hb hby at_342) rfl rfl k)) ?_
          obtain ⟨_, T1142, _, X1142, hQ1142, st1142⟩ := own_cv X1070 hx hZ hown (wd hw 35 rfl) (wd hw 36 rfl) (wd hw 38 rfl) (wd hw 37 rfl) (wd hw 39 rfl) (wd hw 2 rfl) (by decide) (rm5 l Z a0 hw [] b985 h1043 n0 O1064 F1067) hh1140 E1068 (g := (mkF m 344 #[iv i0, iv (0 : Int32), iv (1 : Int32), iv (1 : Int32), iv (0 : Int32), rv b985, iv (1 : Int32), rv b1045, rv w6] [(.ref b985)])) rfl (by rw [hml]; rfl) (rest := []) (W := 0) (lenOf pd_4 rfl) rfl (by show 2 * 0 + _ ≤ _; exact Nat.le_of_eq rfl) (hb hby at_344) (by decide) (by decide) (by decide) (by decide)
          obtain ⟨rfl, Nq1142, hh1143⟩ := hQ1142
          have N1142 := Fr.app N1070 Nq1142
          refine own_via (fun t k => st1142 t (XS.ifNo X1142.here hx rfl (hb hby at_347) rfl ((if0 _ _).trans (teq (by decide : (0 : Int32) = (0 : Int32))).2) (XS.iconst X1142.here hx rfl (hb hby at_350) (XS.goto X1142.here hx rfl (pc0 := 351) (pc' := 355) rfl (hb hby at_351) (by decide) (by decide) (XS.istore X1142.here hx rfl (hb hby at_355) rfl (l' := #[iv i0, iv (0 : Int32), iv (1 : Int32), iv (1 : Int32), iv (0 : Int32), rv b985, iv (1 : Int32), rv b1045, rv w6]) rfl (XS.goto X1142.here hx rfl (pc0 := 357) (pc' := 391) rfl (hb hby at_357) (by decide) (by decide) (XS.iload X1142.here hx rfl (hb hby at_391) rfl k))))))) ?_
          show own_Goes p e below (T1142.setTop (mkF m 393 #[iv i0, iv (0 : Int32), iv (1 : Int32), iv (1 : Int32), iv (0 : Int32), rv b985, iv (1 : Int32), rv b1045, rv w6] [(.int (1 : Int32))])) _
          obtain ⟨fs, hr, hrun, hended, hW, hsame⟩ := X1142.leave (v := some (.int (1 : Int32))) (fun h => by rw [Bd.returns] at h; cases h)
          refine own_end (t := T1142.setFrames fs) ?_ ⟨_, hrun, hended, _, _, rfl, ?_, ⟨_, rfl⟩, hW, hsame.mono (by decide) (by decide)⟩
          · exact retN X1142 hx (t := .boolean) Bd.returns (by simp) (hb hby at_393) hr
          · exact ⟨rfl, N1142⟩
        · refine own_via (fun t k => XS.ifNo X0.here hx rfl (hb hby at_40) rfl ((if0 _ _).trans (feq hc983).1) (XS.iconst X0.here hx rfl (hb hby at_43) (XS.goto X0.here hx rfl (pc0 := 44) (pc' := 48) rfl (hb hby at_44) (by decide) (by decide) (XS.istore X0.here hx rfl (hb hby at_48) rfl (l' := #[iv i0, iv (0 : Int32), iv (1 : Int32), iv (1 : Int32), iv (1 : Int32), .unset, .unset, .unset, .unset]) rfl k)))) ?_
          show own_Goes p e below (s₁.setTop (mkF m 50 #[iv i0, iv (0 : Int32), iv (1 : Int32), iv (1 : Int32), iv (1 : Int32), .unset, .unset, .unset, .unset] [])) _
          obtain ⟨T1144, h1144, X1144, e1144, E1144, A1144, D1144, -, st1144⟩ := newO X0 hx hZ hown (wd hw 0 rfl) (wd hw 1 rfl) (wd hw 2 rfl) e0 (g := (mkF m 50 #[iv i0, iv (0 : Int32), iv (1 : Int32), iv (1 : Int32), iv (1 : Int32), .unset, .unset, .unset, .unset] [])) rfl (hb hby at_50) (by decide) (by decide)
          obtain ⟨b1145, q1144⟩ : ∃ z, z = h0.size := ⟨_, rfl⟩
          rw [← q1144] at A1144 D1144 st1144
          refine own_via (fun t k => st1144 t k) ?_
          have g1146 : n0 ≤ b1145 := Nat.le_trans (own_old O0) (Nat.le_of_eq q1144.symm)
          have B1147 : h0.size ≤ b1145 := Nat.le_trans (Nat.le_refl _) (Nat.le_of_eq q1144.symm)
          have F1148 : Fld Z h1144 b1145 zs1 "refusedWill" zs3 .null := D1144 (Or.inr (wd hw 32 rfl)) (ty := (.object zs2)) (by decide)
          have F1149 : Fld Z h1144 b1145 zs1 "refusedDo" zs3 .null := D1144 (Or.inr (wd hw 34 rfl)) (ty := (.object zs2)) (by decide)
          have F1150 : Fld Z h1144 b1145 zs1 "gmcpOn" "Z" (.int (0 : Int32)) := D1144 (Or.inl (wd hw 41 rfl)) (ty := .boolean) (by decide)
          have F1151 : Fld Z h1144 b1145 zs1 "gmcpOffered" "Z" (.int (0 : Int32)) := D1144 (Or.inl (wd hw 48 rfl)) (ty := .boolean) (by decide)
          have F1152 : Fld Z h1144 b1145 zs1 "echoOffered" "Z" (.int (0 : Int32)) := D1144 (Or.inl (wd hw 95 rfl)) (ty := .boolean) (by decide)
          show own_Goes p e below (T1144.setTop (mkF m 53 #[iv i0, iv (0 : Int32), iv (1 : Int32), iv (1 : Int32), iv (1 : Int32), .unset, .unset, .unset, .unset] [(.ref b1145)])) _
          refine own_via (fun t k => XS.dup X1144.here hx rfl (hb hby at_53) rfl rfl k) ?_
          have O1154 : Old Z n0 h1144 := (O0.ext E1144)
          obtain ⟨_, T1153, _, X1153, hQ1153, st1153⟩ := own_ci X1144 hx hZ hown (wd hw 3 rfl) (wd hw 4 rfl) (wd hw 5 rfl) (wd hw 2 rfl) rfl (by decide) (rm4 l Z a0 hw [] b1145 (0 : Int32) (0 : Int32) (0 : Int32) h1144 n0 O1154 F1148 A1144 g1146 F1149 F1150 F1151 F1152) e1144 (g := (mkF m 54 #[iv i0, iv (0 : Int32), iv (1 : Int32), iv (1 : Int32), iv (1 : Int32), .unset, .unset, .unset, .unset] [(.ref b1145), (.ref b1145)])) rfl (by rw [hml]; rfl) (rest := [(.ref b1145)]) (W := 1) (lenOf pd_3 rfl) rfl (by show 2 * 0 + _ ≤ _; exact Nat.le_of_eq rfl) (hb hby at_54) (by decide) (by decide) (by decide) (by decide)
          obtain ⟨h1153, e1153⟩ : ∃ z, T1153.heap = z := ⟨_, rfl⟩
          rw [e1153] at hQ1153
          obtain ⟨b1155, b1156, k1157, b1158, b1159, k1160, rfl, Nq1153, K1153, ex1161, fx1162, fx1163, fx1164, fx1165, fx1166, bx1167, ex1168, fx1169, fx1170, fx1171, bx1172, vx1173, bx1174, ex1175, fx1176, fx1177, fx1178, bx1179, vx1180, nx1181, nx1182, nx1183, nx1184, nx1185, nx1186⟩ := hQ1153
          have N1153 := Fr.app N0 Nq1153
          have N1187 : b1145 ≠ b1155 := Nat.ne_of_lt (Nat.lt_of_lt_of_le A1144.lt bx1167)
          have g1188 : n0 ≤ b1155 := Nat.le_trans (own_old O1154) bx1167
          have Z1190 : h0.size ≤ h1144.size := (Nat.le_trans (Nat.le_refl _) E1144.1)
          have B1189 : h0.size ≤ b1155 := Nat.le_trans Z1190 bx1167
          have N1191 : b1145 ≠ b1156 := Nat.ne_of_lt (Nat.lt_of_lt_of_le A1144.lt bx1172)
          have g1192 : n0 ≤ b1156 := Nat.le_trans (own_old O1154) bx1172
          have B1193 : h0.size ≤ b1156 := Nat.le_trans Z1190 bx1172
          have N1194 : b1145 ≠ b1158 := Nat.ne_of_lt (Nat.lt_of_lt_of_le A1144.lt bx1174)
          have g1195 : n0 ≤ b1158 := Nat.le_trans (own_old O1154) bx1174
          have B1196 : h0.size ≤ b1158 := Nat.le_trans Z1190 bx1174
          have N1197 : b1145 ≠ b1159 := Nat.ne_of_lt (Nat.lt_of_lt_of_le A1144.lt bx1179)
          have g1198 : n0 ≤ b1159 := Nat.le_trans (own_old O1154) bx1179
          have B1199 : h0.size ≤ b1159 := Nat.le_trans Z1190 bx1179
          refine own_via (fun t k => st1153 t (XS.astore X1153.here hx rfl (hb hby at_57) rfl rfl (l' := #[iv i0, iv (0 : Int32), iv (1 : Int32), iv (1 : Int32), iv (1 : Int32), rv b1145, .unset, .unset, .unset]) rfl (XS.iconst X1153.here hx rfl (hb hby at_59) (XS.istore X1153.here hx rfl (hb hby at_60) rfl (l' := #[iv i0, iv (0 : Int32), iv (1 : Int32), iv (1 : Int32), iv (1 : Int32), rv b1145, iv (1 : Int32), .unset, .unset]) rfl (XS.iloadN X1153.here hx rfl (hb hby at_62) rfl (XS.ifYes X1153.here hx rfl (pc0 := 63) (pc' := 136) rfl (hb hby at_63) rfl ((if0 _ _).trans (teq (by decide : (0 : Int32) = (0 : Int32))).1) (by decide) (by decide) (XS.iload X1153.here hx rfl (hb hby at_136) rfl (XS.ifNo X1153.here hx rfl (hb hby at_138) rfl ((if0 _ _).trans (feq (by decide : ¬ ((1 : Int32) = (0 : Int32)))).1) (XS.aload X1153.here hx rfl (hb hby at_141) rfl rfl k))))))))) ?_
          show own_Goes p e below (T1153.setTop (mkF m 143 #[iv i0, iv (0 : Int32), iv (1 : Int32), iv (1 : Int32), iv (1 : Int32), rv b1145, iv (1 : Int32), .unset, .unset] [(.ref b1145)])) _
          have O1201 : Old Z n0 h1153 := (O1154.keep K1153 (allS g1146 all0))
          obtain ⟨_, T1200, _, X1200, hQ1200, st1200⟩ := own_cv X1153 hx hZ hown (wd hw 35 rfl) (wd hw 36 rfl) (wd hw 38 rfl) (wd hw 37 rfl) (wd hw 39 rfl) (wd hw 2 rfl) (by decide) (rm5 l Z a0 hw [] b1145 h1153 n0 O1201 fx1164) e1153 ex1161 (g := (mkF m 143 #[iv i0, iv (0 : Int32), iv (1 : Int32), iv (1 : Int32), iv (1 : Int32), rv b1145, iv (1 : Int32), .unset, .unset] [(.ref b1145)])) rfl (by rw [hml]; rfl) (rest := []) (W := 0) (lenOf pd_4 rfl) rfl (by show 2 * 0 + _ ≤ _; exact Nat.le_of_eq rfl) (hb hby at_143) (by decide) (by decide) (by decide) (by decide)
          obtain ⟨rfl, Nq1200, hh1202⟩ := hQ1200
          have N1200 := Fr.app N1153 Nq1200
          refine own_via (fun t k => st1200 t (XS.ifNo X1200.here hx rfl (hb hby at_146) rfl ((if0 _ _).trans (teq (by decide : (0 : Int32) = (0 : Int32))).2) (XS.iconst X1200.here hx rfl (hb hby at_149) (XS.goto X1200.here hx rfl (pc0 := 150) (pc' := 154) rfl (hb hby at_150) (by decide) (by decide) (XS.istore X1200.here hx rfl (hb hby at_154) rfl (l' := #[iv i0, iv (0 : Int32), iv (1 : Int32), iv (1 : Int32), iv (1 : Int32), rv b1145, iv (1 : Int32), .unset, .unset]) rfl (XS.aload X1200.here hx rfl (hb hby at_156) rfl rfl (XS.iloadN X1200.here hx rfl (hb hby at_158) rfl (XS.ifNo X1200.here hx rfl (hb hby at_159) rfl ((if0 _ _).trans (feq (by decide : ¬ ((1 : Int32) = (0 : Int32)))).1) (XS.sipush X1200.here hx rfl (hb hby at_162) (XS.goto X1200.here hx rfl (pc0 := 165) (pc' := 171) rfl (hb hby at_165) (by decide) (by decide) (XS.sipush X1200.here hx rfl (hb hby at_171) k))))))))))) ?_
          show own_Goes p e below (T1200.setTop (mkF m 174 #[iv i0, iv (0 : Int32), iv (1 : Int32), iv (1 : Int32), iv (1 : Int32), rv b1145, iv (1 : Int32), .unset, .unset] [(.int (201 : Int32)), (.int (253 : Int32)), (.ref b1145)])) _
          have l1204 : own_Len Z h1153 b1159 .long (4 : Int32) := ⟨_, _, _, vx1180⟩
          obtain ⟨_, T1203, _, X1203, hQ1203, st1203⟩ := own_cv X1200 hx hZ hown (wd hw 42 rfl) (wd hw 43 rfl) (wd hw 45 rfl) (wd hw 44 rfl) (wd hw 46 rfl) (wd hw 2 rfl) (by decide) (rm14 l Z a0 hw [] b1145 b1158 b1159 (1 : Int32) k1160 h1153 n0 O1201 fx1165 fx1164 fx1163 S_BitSet__assertionsDisabled ex1175 fx1176 fx1178 l1204 g1195 fx1177 vx1180 nx1186 g1198) hh1202 ex1161 (g := (mkF m 174 #[iv i0, iv (0 : Int32), iv (1 : Int32), iv (1 : Int32), iv (1 : Int32), rv b1145, iv (1 : Int32), .unset, .unset] [(.int (201 : Int32)), (.int (253 : Int32)), (.ref b1145)])) rfl (by rw [hml]; rfl) (rest := []) (W := 0) (lenOf pd_5 rfl) rfl (by show 2 * 0 + _ ≤ _; exact Nat.le_of_eq rfl) (hb hby at_174) (by decide) (by decide) (by decide) (by decide)
          obtain ⟨h1203, e1203⟩ : ∃ z, T1203.heap = z := ⟨_, rfl⟩
          rw [e1203] at hQ1203
          obtain ⟨b1205, k1206, rfl, Nq1203, K1203, ex1207, fx1208, fx1209, fx1210, vx1211, bx1212, vx1213⟩ := hQ1203
          have N1203 := Fr.app N1200 Nq1203
          have N1214 : b1145 ≠ b1205 := Nat.ne_of_lt (Nat.lt_of_lt_of_le ex1161.lt bx1212)
          have N1215 : b1155 ≠ b1205 := Nat.ne_of_lt (Nat.lt_of_lt_of_le ex1168.lt bx1212)
          have N1216 : b1156 ≠ b1205 := Nat.ne_of_lt (Nat.lt_of_lt_of_le vx1173.lt bx1212)
          have N1217 : b1158 ≠ b1205 := Nat.ne_of_lt (Nat.lt_of_lt_of_le ex1175.lt bx1212)
          have N1218 : b1159 ≠ b1205 := Nat.ne_of_lt (Nat.lt_of_lt_of_le vx1180.lt bx1212)
          have g1219 : n0 ≤ b1205 := Nat.le_trans (own_old O1201) bx1212
          have Z1221 : h0.size ≤ h1153.size := (Nat.le_trans Z1190 K1153.1)
          have B1220 : h0.size ≤ b1205 := Nat.le_trans Z1221 bx1212
          refine own_via (fun t k => st1203 t (XS.astore X1203.here hx rfl (hb hby at_177) rfl rfl (l' := #[iv i0, iv (0 : Int32), iv (1 : Int32), iv (1 : Int32), iv (1 : Int32), rv b1145, iv (1 : Int32), rv b1205, .unset]) rfl (XS.iloadN X1203.here hx rfl (hb hby at_179) rfl (XS.ifYes X1203.here hx rfl (pc0 := 180) (pc' := 213) rfl (hb hby at_180) rfl ((if0 _ _).trans (teq (by decide : (0 : Int32) = (0 : Int32))).1) (by decide) (by decide) (XS.iload X1203.here hx rfl (hb hby at_213) rfl (XS.ifNo X1203.here hx rfl (hb hby at_215) rfl ((if0 _ _).trans (feq (by decide : ¬ ((1 : Int32) = (0 : Int32)))).1) (XS.iloadN X1203.here hx rfl (hb hby at_218) rfl (XS.ifNo X1203.here hx rfl (hb hby at_219) rfl ((if0 _ _).trans (feq (by decide : ¬ ((1 : Int32) = (0 : Int32)))).1) (XS.aload X1203.here hx rfl (hb hby at_222) rfl rfl (XS.sipush X1203.here hx rfl (hb hby at_224) k)))))))))) ?_
          show own_Goes p e below (T1203.setTop (mkF m 227 #[iv i0, iv (0 : Int32), iv (1 : Int32), iv (1 : Int32), iv (1 : Int32), rv b1145, iv (1 : Int32), rv b1205, .unset] [(.int (252 : Int32)), (.ref b1205)])) _
          have l1223 : own_Len Z h1203 b1205 .byte (3 : Int32) := ⟨_, _, _, vx1213⟩
          have O1224 : Old Z n0 h1203 := (O1201.keep K1203 (allS g1195 (allS g1198 all0)))
          obtain ⟨_, T1222, _, X1222, hQ1222, st1222⟩ := own_cs X1203 hx hZ hown (wd hw 60 rfl) (wd hw 61 rfl) (wd hw 63 rfl) (wd hw 62 rfl) (by decide) (rm15 l Z a0 hw [] b1205 k1206 h1203 n0 O1224 l1223 vx1213) e1203 (g := (mkF m 227 #[iv i0, iv (0 : Int32), iv (1 : Int32), iv (1 : Int32), iv (1 : Int32), rv b1145, iv (1 : Int32), rv b1205, .unset] [(.int (252 : Int32)), (.ref b1205)])) rfl (by rw [hml]; rfl) (rest := []) (W := 0) (lenOf pd_7 rfl) rfl (by show 2 * 0 + _ ≤ _; exact Nat.le_of_eq rfl) (hb hby at_227) (by decide) (by decide) (by decide) (by decide)
          obtain ⟨rfl, Nq1222, hh1225⟩ := hQ1222
          have N1222 := Fr.app N1203 Nq1222
          refine own_via (fun t k => st1222 t (XS.ifNo X1222.here hx rfl (hb hby at_230) rfl ((if0 _ _).trans (feq (by decide : ¬ ((1 : Int32) = (0 : Int32)))).1) (XS.goto X1222.here hx rfl (pc0 := 233) (pc' := 242) rfl (hb hby at_233) (by decide) (by decide) (XS.iconst X1222.here hx rfl (hb hby at_242) (XS.goto X1222.here hx rfl (pc0 := 243) (pc' := 247) rfl (hb hby at_243) (by decide) (by decide) (XS.istore X1222.here hx rfl (hb hby at_247) rfl (l' := #[iv i0, iv (0 : Int32), iv (1 : Int32), iv (1 : Int32), iv (1 : Int32), rv b1145, iv (1 : Int32), rv b1205, .unset]) rfl (XS.iload X1222.here hx rfl (hb hby at_249) rfl (XS.ifNo X1222.here hx rfl (hb hby at_251) rfl ((if0 _ _).trans (feq (by decide : ¬ ((1 : Int32) = (0 : Int32)))).1) (XS.aload X1222.here hx rfl (hb hby at_254) rfl rfl k))))))))) ?_
          show own_Goes p e below (T1222.setTop (mkF m 256 #[iv i0, iv (0 : Int32), iv (1 : Int32), iv (1 : Int32), iv (1 : Int32), rv b1145, iv (1 : Int32), rv b1205, .unset] [(.ref b1145)])) _
          have F1227 : Fld Z h1203 b1145 zs1 "gmcpOn" "Z" (.int (0 : Int32)) := (fx1164.keep K1203 (ninS N1194 (ninS N1197 nin0)))
          have E1228 : Exa Z h1203 b1145 zs1 := (ex1161.keep K1203)
          obtain ⟨_, T1226, _, X1226, hQ1226, st1226⟩ := own_cv X1222 hx hZ hown (wd hw 35 rfl) (wd hw 36 rfl) (wd hw 38 rfl) (wd hw 37 rfl) (wd hw 39 rfl) (wd hw 2 rfl) (by decide) (rm5 l Z a0 hw [] b1145 h1203 n0 O1224 F1227) hh1225 E1228 (g := (mkF m 256 #[iv i0, iv (0 : Int32), iv (1 : Int32), iv (1 : Int32), iv (1 : Int32), rv b1145, iv (1 : Int32), rv b1205, .unset] [(.ref b1145)])) rfl (by rw [hml]; rfl) (rest := []) (W := 0) (lenOf pd_4 rfl) rfl (by show 2 * 0 + _ ≤ _; exact Nat.le_of_eq rfl) (hb hby at_256) (by decide) (by decide) (by decide) (by decide)
          obtain ⟨rfl, Nq1226, hh1229⟩ := hQ1226
          have N1226 := Fr.app N1222 Nq1226
          refine own_via (fun t k => st1226 t (XS.ifNo X1226.here hx rfl (hb hby at_259) rfl ((if0 _ _).trans (teq (by decide : (0 : Int32) = (0 : Int32))).2) (XS.iconst X1226.here hx rfl (hb hby at_262) (XS.goto X1226.here hx rfl (pc0 := 263) (pc' := 267) rfl (hb hby at_263) (by decide) (by decide) (XS.istore X1226.here hx rfl (hb hby at_267) rfl (l' := #[iv i0, iv (0 : Int32), iv (1 : Int32), iv (1 : Int32), iv (1 : Int32), rv b1145, iv (1 : Int32), rv b1205, .unset]) rfl (XS.iloadN X1226.here hx rfl (hb hby at_269) rfl (XS.ifNo X1226.here hx rfl (hb hby at_270) rfl ((if0 _ _).trans (feq (by decide : ¬ ((1 : Int32) = (0 : Int32)))).1) (XS.aload X1226.here hx rfl (hb hby at_273) rfl rfl (XS.sipush X1226.here hx rfl (hb hby at_275) (XS.sipush X1226.here hx rfl (hb hby at_278) k)))))))))) ?_
          show own_Goes p e below (T1226.setTop (mkF m 281 #[iv i0, iv (0 : Int32), iv (1 : Int32), iv (1 : Int32), iv (1 : Int32), rv b1145, iv (1 : Int32), rv b1205, .unset] [(.int (201 : Int32)), (.int (253 : Int32)), (.ref b1145)])) _
          have F1231 : Fld Z h1203 b1145 zs1 "gmcpOffered" "Z" (.int (0 : Int32)) := (fx1165.keep K1203 (ninS N1194 (ninS N1197 nin0)))
          have F1232 : Fld Z h1203 b1145 zs1 "refusedDo" zs3 (.ref b1158) := (fx1163.keep K1203 (ninS N1194 (ninS N1197 nin0)))
          obtain ⟨_, T1230, _, X1230, hQ1230, st1230⟩ := own_cv X1226 hx hZ hown (wd hw 42 rfl) (wd hw 43 rfl) (wd hw 45 rfl) (wd hw 44 rfl) (wd hw 46 rfl) (wd hw 2 rfl) (by decide) (rm17 l Z a0 hw [] b1145 b1158 b1159 k1160 (0 : Int64) (0 : Int64) (0 : Int64) w6 h1203 n0 O1224 F1231 F1227 F1232 S_BitSet__assertionsDisabled ex1207 fx1208 fx1210 vx1211 S_TelnetOptions_NO_ANSWER) hh1229 E1228 (g := (mkF m 281 #[iv i0, iv (0 : Int32), iv (1 : Int32), iv (1 : Int32), iv (1 : Int32), rv b1145, iv (1 : Int32), rv b1205, .unset] [(.int (201 : Int32)), (.int (253 : Int32)), (.ref b1145)])) rfl (by rw [hml]; rfl) (rest := []) (W := 0) (lenOf pd_5 rfl) rfl (by show 2 * 0 + _ ≤ _; exact Nat.le_of_eq rfl) (hb hby at_281) (by decide) (by decide) (by decide) (by decide)
          obtain ⟨rfl, Nq1230, hh1233⟩ := hQ1230
          have N1230 := Fr.app N1226 Nq1230
          refine own_via (fun t k => st1230 t (XS.astore X1230.here hx rfl (hb hby at_284) rfl rfl (l' := #[iv i0, iv (0 : Int32), iv (1 : Int32), iv (1 : Int32), iv (1 : Int32), rv b1145, iv (1 : Int32), rv b1205, rv w6]) rfl (XS.iloadN X1230.here hx rfl (hb hby at_286) rfl (XS.ifYes X1230.here hx rfl (pc0 := 287) (pc' := 323) rfl (hb hby at_287) rfl ((if0 _ _).trans (teq (by decide : (0 : Int32) = (0 : Int32))).1) (by decide) (by decide) (XS.iloadN X1230.here hx rfl (hb hby at_323) rfl (XS.ifNo X1230.here hx rfl (hb hby at_324) rfl ((if0 _ _).trans (teq (by decide : (0 : Int32) = (0 : Int32))).2) (XS.iloadN X1230.here hx rfl (hb hby at_327) rfl (XS.ifNo X1230.here hx rfl (hb hby at_328) rfl ((if0 _ _).trans (feq (by decide : ¬ ((1 : Int32) = (0 : Int32)))).1) (XS.iload X1230.here hx rfl (hb hby at_331) rfl (XS.ifNo X1230.here hx rfl (hb hby at_333) rfl ((if0 _ _).trans (feq (by decide : ¬ ((1 : Int32) = (0 : Int32)))).1) (XS.aload X1230.here hx rfl (hb hby at_336) rfl rfl k))))))))))) ?_
          show own_Goes p e below (T1230.setTop (mkF m 338 #[iv i0, iv (0 : Int32), iv (1 : Int32), iv (1 : Int32), iv (1 : Int32), rv b1145, iv (1 : Int32), rv b1205, rv w6] [(.ref w6)])) _
          obtain ⟨cl1234, Ar1234, -, S1234, M1234, -, -⟩ := id ((SV_w6.ext O1224.2))
          refine own_via (fun t k => X1230.arraylength hx (by rw [hh1233]; exact Ar1234.1) (State.isArrayOf_alike hZ.alike Ar1234.2.1) (g := (mkF m 338 #[iv i0, iv (0 : Int32), iv (1 : Int32), iv (1 : Int32), iv (1 : Int32), rv b1145, iv (1 : Int32), rv b1205, rv w6] [(.ref w6)])) rfl rfl (hb hby at_338) t k) ?_
          rw [len_of S1234 M1234]
          show own_Goes p e below (T1230.setTop (mkF m 339 #[iv i0, iv (0 : Int32), iv (1 : Int32), iv (1 : Int32), iv (1 : Int32), rv b1145, iv (1 : Int32), rv b1205, rv w6] [(.int (0 : Int32))])) _
          refine own_via (fun t k => XS.ifNo X1230.here hx rfl (hb hby at_339) rfl ((if0 _ _).trans (teq (by decide : (0 : Int32) = (0 : Int32))).2) (XS.aload X1230.here hx rfl (hb hby at_342) rfl rfl k)) ?_
          obtain ⟨_, T1235, _, X1235, hQ1235, st1235⟩ := own_cv X1230 hx hZ hown (wd hw 35 rfl) (wd hw 36 rfl) (wd hw 38 rfl) (wd hw 37 rfl) (wd hw 39 rfl) (wd hw 2 rfl) (by decide) (rm5 l Z a0 hw [] b1145 h1203 n0 O1224 F1227) hh1233 E1228 (g := (mkF m 344 #[iv i0, iv (0 : Int32), iv (1 : Int32), iv (1 : Int32), iv (1 : Int32), rv b1145, iv (1 : Int32), rv b1205, rv w6] [(.ref b1145)])) rfl (by rw [hml]; rfl) (rest := []) (W := 0) (lenOf pd_4 rfl) rfl (by show 2 * 0 + _ ≤ _; exact Nat.le_of_eq rfl) (hb hby at_344) (by decide) (by decide) (by decide) (by decide)
          obtain ⟨rfl, Nq1235, hh1236⟩ := hQ1235
          have N1235 := Fr.app N1230 Nq1235
          refine own_via (fun t k => st1235 t (XS.ifNo X1235.here hx rfl (hb hby at_347) rfl ((if0 _ _).trans (teq (by decide : (0 : Int32) = (0 : Int32))).2) (XS.iconst X1235.here hx rfl (hb hby at_350) (XS.goto X1235.here hx rfl (pc0 := 351) (pc' := 355) rfl (hb hby at_351) (by decide) (by decide) (XS.istore X1235.here hx rfl (hb hby at_355) rfl (l' := #[iv i0, iv (0 : Int32), iv (1 : Int32), iv (1 : Int32), iv (1 : Int32), rv b1145, iv (1 : Int32), rv b1205, rv w6]) rfl (XS.goto X1235.here hx rfl (pc0 := 357) (pc' := 391) rfl (hb hby at_357) (by decide) (by decide) (XS.iload X1235.here hx rfl (hb hby at_391) rfl k))))))) ?_
          show own_Goes p e below (T1235.setTop (mkF m 393 #[iv i0, iv (0 : Int32), iv (1 : Int32), iv (1 : Int32), iv (1 : Int32), rv b1145, iv (1 : Int32), rv b1205, rv w6] [(.int (1 : Int32))])) _
          obtain ⟨fs, hr, hrun, hended, hW, hsame⟩ := X1235.leave (v := some (.int (1 : Int32))) (fun h => by rw [Bd.returns] at h; cases h)
          refine own_end (t := T1235.setFrames fs) ?_ ⟨_, hrun, hended, _, _, rfl, ?_, ⟨_, rfl⟩, hW, hsame.mono (by decide) (by decide)⟩
          · exact retN X1235 hx (t := .boolean) Bd.returns (by simp) (hb hby at_393) hr
          · exact ⟨rfl, N1235⟩
  · refine own_via (fun t k => XS.ifNo X0.here hx rfl (hb hby at_3) rfl ((if0 _ _).trans (feq hc10).1) (XS.iconst X0.here hx rfl (hb hby at_6) (XS.goto X0.here hx rfl (pc0 := 7) (pc' := 11) rfl (hb hby at_7) (by decide) (by decide) (XS.istoreN X0.here hx rfl (hb hby at_11) rfl (l' := #[iv i0, iv (1 : Int32), .unset, .unset, .unset, .unset, .unset, .unset, .unset]) rfl (XS.iloadN X0.here hx rfl (hb hby at_12) rfl (XS.iconst X0.here hx rfl (hb hby at_13) (XS.iand X0.here hx rfl (hb hby at_14) rfl k))))))) ?_
    show own_Goes p e below (s₁.setTop (mkF m 15 #[iv i0, iv (1 : Int32), .unset, .unset, .unset, .unset, .unset, .unset, .unset] [(.int (i0 &&& (2 : Int32)))])) _
    by_cases hc1237 : (i0 &&& (2 : Int32)) = (0 : Int32)
    · refine own_via (fun t k => XS.ifYes X0.here hx rfl (pc0 := 15) (pc' := 22) rfl (hb hby at_15) rfl ((if0 _ _).trans (teq hc1237).1) (by decide) (by decide) (XS.iconst X0.here hx rfl (hb hby at_22) (XS.istoreN X0.here hx rfl (hb hby at_23) rfl (l' := #[iv i0, iv (1 : Int32), iv (0 : Int32), .unset, .unset, .unset, .unset, .unset, .unset]) rfl (XS.iloadN X0.here hx rfl (hb hby at_24) rfl (XS.iconst X0.here hx rfl (hb hby at_25) (XS.iand X0.here hx rfl (hb hby at_26) rfl k)))))) ?_
      show own_Goes p e below (s₁.setTop (mkF m 27 #[iv i0, iv (1 : Int32), iv (0 : Int32), .unset, .unset, .unset, .unset, .unset, .unset] [(.int (i0 &&& (4 : Int32)))])) _
      by_cases hc1238 : (i0 &&& (4 : Int32)) = (0 : Int32)
      · refine own_via (fun t k => XS.ifYes X0.here hx rfl (pc0 := 27) (pc' := 34) rfl (hb hby at_27) rfl ((if0 _ _).trans (teq hc1238).1) (by decide) (by decide) (XS.iconst X0.here hx rfl (hb hby at_34) (XS.istoreN X0.here hx rfl (hb hby at_35) rfl (l' := #[iv i0, iv (1 : Int32), iv (0 : Int32), iv (0 : Int32), .unset, .unset, .unset, .unset, .unset]) rfl (XS.iloadN X0.here hx rfl (hb hby at_36) rfl (XS.bipush X0.here hx rfl (hb hby at_37) (XS.iand X0.here hx rfl (hb hby at_39) rfl k)))))) ?_
        show own_Goes p e below (s₁.setTop (mkF m 40 #[iv i0, iv (1 : Int32), iv (0 : Int32), iv (0 : Int32), .unset, .unset, .unset, .unset, .unset] [(.int (i0 &&& (8 : Int32)))])) _
        by_cases hc1239 : (i0 &&& (8 : Int32)) = (0 : Int32)
        · refine own_via (fun t k => XS.ifYes X0.here hx rfl (pc0 := 40) (pc' := 47) rfl (hb hby at_40) rfl ((if0 _ _).trans (teq hc1239).1) (by decide) (by decide) (XS.iconst X0.here hx rfl (hb hby at_47) (XS.istore X0.here hx rfl (hb hby at_48) rfl (l' := #[iv i0, iv (1 : Int32), iv (0 : Int32), iv (0 : Int32), iv (0 : Int32), .unset, .unset, .unset, .unset]) rfl k))) ?_
          show own_Goes p e below (s₁.setTop (mkF m 50 #[iv i0, iv (1 : Int32), iv (0 : Int32), iv (0 : Int32), iv (0 : Int32), .unset, .unset, .unset, .unset] [])) _
          obtain ⟨T1240, h1240, X1240, e1240, E1240, A1240, D1240, -, st1240⟩ := newO X0 hx hZ hown (wd hw 0 rfl) (wd hw 1 rfl) (wd hw 2 rfl) e0 (g := (mkF m 50 #[iv i0, iv (1 : Int32), iv (0 : Int32), iv (0 : Int32), iv (0 : Int32), .unset, .unset, .unset, .unset] [])) rfl (hb hby at_50) (by decide) (by decide)
          obtain ⟨b1241, q1240⟩ : ∃ z, z = h0.size := ⟨_, rfl⟩
          rw [← q1240] at A1240 D1240 st1240
          refine own_via (fun t k => st1240 t k) ?_
          have g1242 : n0 ≤ b1241 := Nat.le_trans (own_old O0) (Nat.le_of_eq q1240.symm)
          have B1243 : h0.size ≤ b1241 := Nat.le_trans (Nat.le_refl _) (Nat.le_of_eq q1240.symm)
          have F1244 : Fld Z h1240 b1241 zs1 "refusedWill" zs3 .null := D1240 (Or.inr (wd hw 32 rfl)) (ty := (.object zs2)) (by decide)
          have F1245 : Fld Z h1240 b1241 zs1 "refusedDo" zs3 .null := D1240 (Or.inr (wd hw 34 rfl)) (ty := (.object zs2)) (by decide)
          have F1246 : Fld Z h1240 b1241 zs1 "gmcpOn" "Z" (.int (0 : Int32)) := D1240 (Or.inl (wd hw 41 rfl)) (ty := .boolean) (by decide)
          have F1247 : Fld Z h1240 b1241 zs1 "gmcpOffered" "Z" (.int (0 : Int32)) := D1240 (Or.inl (wd hw 48 rfl)) (ty := .boolean) (by decide)
          have F1248 : Fld Z h1240 b1241 zs1 "echoOffered" "Z" (.int (0 : Int32)) := D1240 (Or.inl (wd hw 95 rfl)) (ty := .boolean) (by decide)
          show own_Goes p e below (T1240.setTop (mkF m 53 #[iv i0, iv (1 : Int32), iv (0 : Int32), iv (0 : Int32), iv (0 : Int32), .unset, .unset, .unset, .unset] [(.ref b1241)])) _
          refine own_via (fun t k => XS.dup X1240.here hx rfl (hb hby at_53) rfl rfl k) ?_
          have O1250 : Old Z n0 h1240 := (O0.ext E1240)
          obtain ⟨_, T1249, _, X1249, hQ1249, st1249⟩ := own_ci X1240 hx hZ hown (wd hw 3 rfl) (wd hw 4 rfl) (wd hw 5 rfl) (wd hw 2 rfl) rfl (by decide) (rm4 l Z a0 hw [] b1241 (0 : Int32) (0 : Int32) (0 : Int32) h1240 n0 O1250 F1244 A1240 g1242 F1245 F1246 F1247 F1248) e1240 (g := (mkF m 54 #[iv i0, iv (1 : Int32), iv (0 : Int32), iv (0 : Int32), iv (0 : Int32), .unset, .unset, .unset, .unset] [(.ref b1241), (.ref b1241)])) rfl (by rw [hml]; rfl) (rest := [(.ref b1241)]) (W := 1) (lenOf pd_3 rfl) rfl (by show 2 * 0 + _ ≤ _; exact Nat.le_of_eq rfl) (hb hby at_54) (by decide) (by decide) (by decide) (by decide)
          obtain ⟨h1249, e1249⟩ : ∃ z, T1249.heap = z := ⟨_, rfl⟩
          rw [e1249] at hQ1249
          obtain ⟨b1251, b1252, k1253, b1254, b1255, k1256, rfl, Nq1249, K1249, ex1257, fx1258, fx1259, fx1260, fx1261, fx1262, bx1263, ex1264, fx1265, fx1266, fx1267, bx1268, vx1269, bx1270, ex1271, fx1272, fx1273, fx1274, bx1275, vx1276, nx1277, nx1278, nx1279, nx1280, nx1281, nx1282⟩ := hQ1249
          have N1249 := Fr.app N0 Nq1249
          have N1283 : b1241 ≠ b1251 := Nat.ne_of_lt (Nat.lt_of_lt_of_le A1240.lt bx1263)
          have g1284 : n0 ≤ b1251 := Nat.le_trans (own_old O1250) bx1263
          have Z1286 : h0.size ≤ h1240.size := (Nat.le_trans (Nat.le_refl _) E1240.1)
          have B1285 : h0.size ≤ b1251 := Nat.le_trans Z1286 bx1263
          have N1287 : b1241 ≠ b1252 := Nat.ne_of_lt (Nat.lt_of_lt_of_le A1240.lt bx1268)
          have g1288 : n0 ≤ b1252 := Nat.le_trans (own_old O1250) bx1268
          have B1289 : h0.size ≤ b1252 := Nat.le_trans Z1286 bx1268
          have N1290 : b1241 ≠ b1254 := Nat.ne_of_lt (Nat.lt_of_lt_of_le A1240.lt bx1270)
          have g1291 : n0 ≤ b1254 := Nat.le_trans (own_old O1250) bx1270
          have B1292 : h0.size ≤ b1254 := Nat.le_trans Z1286 bx1270
          have N1293 : b1241 ≠ b1255 := Nat.ne_of_lt (Nat.lt_of_lt_of_le A1240.lt bx1275)
          have g1294 : n0 ≤ b1255 := Nat.le_trans (own_old O1250) bx1275
          have B1295 : h0.size ≤ b1255 := Nat.le_trans Z1286 bx1275
          refine own_via (fun t k => st1249 t (XS.astore X1249.here hx rfl (hb hby at_57) rfl rfl (l' := #[iv i0, iv (1 : Int32), iv (0 : Int32), iv (0 : Int32), iv (0 : Int32), rv b1241, .unset, .unset, .unset]) rfl (XS.iconst X1249.here hx rfl (hb hby at_59) (XS.istore X1249.here hx rfl (hb hby at_60) rfl (l' := #[iv i0, iv (1 : Int32), iv (0 : Int32), iv (0 : Int32), iv (0 : Int32), rv b1241, iv (1 : Int32), .unset, .unset]) rfl (XS.iloadN X1249.here hx rfl (hb hby at_62) rfl (XS.ifNo X1249.here hx rfl (hb hby at_63) rfl ((if0 _ _).trans (feq (by decide : ¬ ((1 : Int32) = (0 : Int32)))).1) (XS.aload X1249.here hx rfl (hb hby at_66) rfl rfl k))))))) ?_
          show own_Goes p e below (T1249.setTop (mkF m 68 #[iv i0, iv (1 : Int32), iv (0 : Int32), iv (0 : Int32), iv (0 : Int32), rv b1241, iv (1 : Int32), .unset, .unset] [(.ref b1241)])) _
          have O1369 : Old Z n0 h1249 := (O1250.keep K1249 (allS g1242 all0))
          obtain ⟨_, T1296, _, X1296, hQ1296, st1296⟩ := own_cv X1249 hx hZ hown (wd hw 51 rfl) (wd hw 52 rfl) (wd hw 54 rfl) (wd hw 53 rfl) (wd hw 55 rfl) (wd hw 2 rfl) (by decide) (rm19 l Z a0 hw [] b1241 (0 : Int32) b1251 b1254 (0 : Int32) (0 : Int32) h1249 n0 O1369 fx1261 ex1257 g1242 fx1258 fx1259 fx1260 fx1262) e1249 ex1257 (g := (mkF m 68 #[iv i0, iv (1 : Int32), iv (0 : Int32), iv (0 : Int32), iv (0 : Int32), rv b1241, iv (1 : Int32), .unset, .unset] [(.ref b1241)])) rfl (by rw [hml]; rfl) (rest := []) (W := 0) (lenOf pd_8 rfl) rfl (by show 2 * 0 + _ ≤ _; exact Nat.le_of_eq rfl) (hb hby at_68) (by decide) (by decide) (by decide) (by decide)
          obtain ⟨h1296, e1296⟩ : ∃ z, T1296.heap = z := ⟨_, rfl⟩
          rw [e1296] at hQ1296
          obtain ⟨b1370, k1371, rfl, Nq1296, K1296, ex1372, fx1373, fx1374, fx1375, fx1376, fx1377, bx1378, vx1379⟩ := hQ1296
          have N1296 := Fr.app N1249 Nq1296
          have N1380 : b1241 ≠ b1370 := Nat.ne_of_lt (Nat.lt_of_lt_of_le ex1257.lt bx1378)
          have N1381 : b1251 ≠ b1370 := Nat.ne_of_lt (Nat.lt_of_lt_of_le ex1264.lt bx1378)
          have N1382 : b1252 ≠ b1370 := Nat.ne_of_lt (Nat.lt_of_lt_of_le vx1269.lt bx1378)
          have N1383 : b1254 ≠ b1370 := Nat.ne_of_lt (Nat.lt_of_lt_of_le ex1271.lt bx1378)
          have N1384 : b1255 ≠ b1370 := Nat.ne_of_lt (Nat.lt_of_lt_of_le vx1276.lt bx1378)
          have g1385 : n0 ≤ b1370 := Nat.le_trans (own_old O1369) bx1378
          have Z1387 : h0.size ≤ h1249.size := (Nat.le_trans Z1286 K1249.1)
          have B1386 : h0.size ≤ b1370 := Nat.le_trans Z1387 bx1378
          refine own_via (fun t k => st1296 t (XS.astore X1296.here hx rfl (hb hby at_71) rfl rfl (l' := #[iv i0, iv (1 : Int32), iv (0 : Int32), iv (0 : Int32), iv (0 : Int32), rv b1241, iv (1 : Int32), rv b1370, .unset]) rfl (XS.iload X1296.here hx rfl (hb hby at_73) rfl (XS.ifNo X1296.here hx rfl (hb hby at_75) rfl ((if0 _ _).trans (feq (by decide : ¬ ((1 : Int32) = (0 : Int32)))).1) (XS.aload X1296.here hx rfl (hb hby at_78) rfl rfl (XS.sipush X1296.here hx rfl (hb hby at_80) k)))))) ?_
          show own_Goes p e below (T1296.setTop (mkF m 83 #[iv i0, iv (1 : Int32), iv (0 : Int32), iv (0 : Int32), iv (0 : Int32), rv b1241, iv (1 : Int32), rv b1370, .unset] [(.int (251 : Int32)), (.ref b1370)])) _
          have l1416 : own_Len Z h1296 b1370 .byte (3 : Int32) := ⟨_, _, _, vx1379⟩
          have O1417 : Old Z n0 h1296 := (O1369.keep K1296 (allS g1242 all0))
          obtain ⟨_, T1388, _, X1388, hQ1388, st1388⟩ := own_cs X1296 hx hZ hown (wd hw 60 rfl) (wd hw 61 rfl) (wd hw 63 rfl) (wd hw 62 rfl) (by decide) (rm20 l Z a0 hw [] b1370 k1371 h1296 n0 O1417 l1416 vx1379) e1296 (g := (mkF m 83 #[iv i0, iv (1 : Int32), iv (0 : Int32), iv (0 : Int32), iv (0 : Int32), rv b1241, iv (1 : Int32), rv b1370, .unset] [(.int (251 : Int32)), (.ref b1370)])) rfl (by rw [hml]; rfl) (rest := []) (W := 0) (lenOf pd_7 rfl) rfl (by show 2 * 0 + _ ≤ _; exact Nat.le_of_eq rfl) (hb hby at_83) (by decide) (by decide) (by decide) (by decide)
          obtain ⟨rfl, Nq1388, hh1418⟩ := hQ1388
          have N1388 := Fr.app N1296 Nq1388
          refine own_via (fun t k => st1388 t (XS.ifNo X1388.here hx rfl (hb hby at_86) rfl ((if0 _ _).trans (feq (by decide : ¬ ((1 : Int32) = (0 : Int32)))).1) (XS.iconst X1388.here hx rfl (hb hby at_89) (XS.goto X1388.here hx rfl (pc0 := 90) (pc' := 94) rfl (hb hby at_90) (by decide) (by decide) (XS.istore X1388.here hx rfl (hb hby at_94) rfl (l' := #[iv i0, iv (1 : Int32), iv (0 : Int32), iv (0 : Int32), iv (0 : Int32), rv b1241, iv (1 : Int32), rv b1370, .unset]) rfl (XS.iload X1388.here hx rfl (hb hby at_96) rfl (XS.ifYes X1388.here hx rfl (pc0 := 98) (pc' := 136) rfl (hb hby at_98) rfl ((if0 _ _).trans (teq (by decide : (0 : Int32) = (0 : Int32))).1) (by decide) (by decide) (XS.iload X1388.here hx rfl (hb hby at_136) rfl (XS.ifNo X1388.here hx rfl (hb hby at_138) rfl ((if0 _ _).trans (feq (by decide : ¬ ((1 : Int32) = (0 : Int32)))).1) (XS.aload X1388.here hx rfl (hb hby at_141) rfl rfl k)))))))))) ?_
          show own_Goes p e below (T1388.setTop (mkF m 143 #[iv i0, iv (1 : Int32), iv (0 : Int32), iv (0 : Int32), iv (0 : Int32), rv b1241, iv (1 : Int32), rv b1370, .unset] [(.ref b1241)])) _
          obtain ⟨_, T1419, _, X1419, hQ1419, st1419⟩ := own_cv X1388 hx hZ hown (wd hw 35 rfl) (wd hw 36 rfl) (wd hw 38 rfl) (wd hw 37 rfl) (wd hw 39 rfl) (wd hw 2 rfl) (by decide) (rm5 l Z a0 hw [] b1241 h1296 n0 O1417 fx1375) hh1418 ex1372 (g := (mkF m 143 #[iv i0, iv (1 : Int32), iv (0 : Int32), iv (0 : Int32), iv (0 : Int32), rv b1241, iv (1 : Int32), rv b1370, .unset] [(.ref b1241)])) rfl (by rw [hml]; rfl) (rest := []) (W := 0) (lenOf pd_4 rfl) rfl (by show 2 * 0 + _ ≤ _; exact Nat.le_of_eq rfl) (hb hby at_143) (by decide) (by decide) (by decide) (by decide)
          obtain ⟨rfl, Nq1419, hh1420⟩ := hQ1419
          have N1419 := Fr.app N1388 Nq1419
          refine own_via (fun t k => st1419 t (XS.ifNo X1419.here hx rfl (hb hby at_146) rfl ((if0 _ _).trans (teq (by decide : (0 : Int32) = (0 : Int32))).2) (XS.iconst X1419.here hx rfl (hb hby at_149) (XS.goto X1419.here hx rfl (pc0 := 150) (pc' := 154) rfl (hb hby at_150) (by decide) (by decide) (XS.istore X1419.here hx rfl (hb hby at_154) rfl (l' := #[iv i0, iv (1 : Int32), iv (0 : Int32), iv (0 : Int32), iv (0 : Int32), rv b1241, iv (1 : Int32), rv b1370, .unset]) rfl (XS.aload X1419.here hx rfl (hb hby at_156) rfl rfl (XS.iloadN X1419.here hx rfl (hb hby at_158) rfl (XS.ifYes X1419.here hx rfl (pc0 := 159) (pc' := 168) rfl (hb hby at_159) rfl ((if0 _ _).trans (teq (by decide : (0 : Int32) = (0 : Int32))).1) (by decide) (by decide) (XS.sipush X1419.here hx rfl (hb hby at_168) (XS.sipush X1419.here hx rfl (hb hby at_171) k)))))))))) ?_
          show own_Goes p e below (T1419.setTop (mkF m 174 #[iv i0, iv (1 : Int32), iv (0 : Int32), iv (0 : Int32), iv (0 : Int32), rv b1241, iv (1 : Int32), rv b1370, .unset] [(.int (201 : Int32)), (.int (254 : Int32)), (.ref b1241)])) _
          obtain ⟨_, T1421, _, X1421, hQ1421, st1421⟩ := own_cv X1419 hx hZ hown (wd hw 42 rfl) (wd hw 43 rfl) (wd hw 45 rfl) (wd hw 44 rfl) (wd hw 46 rfl) (wd hw 2 rfl) (by decide) (rm22 l Z a0 hw [] b1241 w6 b1251 b1254 (0 : Int32) h1296 n0 O1417 fx1376 fx1375 ex1372 g1242 S_TelnetOptions_NO_ANSWER fx1373 fx1374 fx1377) hh1420 ex1372 (g := (mkF m 174 #[iv i0, iv (1 : Int32), iv (0 : Int32), iv (0 : Int32), iv (0 : Int32), rv b1241, iv (1 : Int32), rv b1370, .unset] [(.int (201 : Int32)), (.int (254 : Int32)), (.ref b1241)])) rfl (by rw [hml]; rfl) (rest := []) (W := 0) (lenOf pd_5 rfl) rfl (by show 2 * 0 + _ ≤ _; exact Nat.le_of_eq rfl) (hb hby at_174) (by decide) (by decide) (by decide) (by decide)
          obtain ⟨h1421, e1421⟩ : ∃ z, T1421.heap = z := ⟨_, rfl⟩
          rw [e1421] at hQ1421
          obtain ⟨rfl, Nq1421, K1421, ex1491, fx1492, fx1493, fx1494, fx1495, fx1496⟩ := hQ1421
          have N1421 := Fr.app N1419 Nq1421
          refine own_via (fun t k => st1421 t (XS.astore X1421.here hx rfl (hb hby at_177) rfl rfl (l' := #[iv i0, iv (1 : Int32), iv (0 : Int32), iv (0 : Int32), iv (0 : Int32), rv b1241, iv (1 : Int32), rv w6, .unset]) rfl (XS.iloadN X1421.here hx rfl (hb hby at_179) rfl (XS.ifNo X1421.here hx rfl (hb hby at_180) rfl ((if0 _ _).trans (feq (by decide : ¬ ((1 : Int32) = (0 : Int32)))).1) (XS.iload X1421.here hx rfl (hb hby at_183) rfl (XS.ifNo X1421.here hx rfl (hb hby at_185) rfl ((if0 _ _).trans (feq (by decide : ¬ ((1 : Int32) = (0 : Int32)))).1) (XS.aload X1421.here hx rfl (hb hby at_188) rfl rfl k))))))) ?_
          show own_Goes p e below (T1421.setTop (mkF m 190 #[iv i0, iv (1 : Int32), iv (0 : Int32), iv (0 : Int32), iv (0 : Int32), rv b1241, iv (1 : Int32), rv w6, .unset] [(.ref w6)])) _
          have O1498 : Old Z n0 h1421 := (O1417.keep K1421 (allS g1242 all0))
          obtain ⟨cl1497, Ar1497, -, S1497, M1497, -, -⟩ := id ((SV_w6.ext O1498.2))
          refine own_via (fun t k => X1421.arraylength hx (by rw [e1421]; exact Ar1497.1) (State.isArrayOf_alike hZ.alike Ar1497.2.1) (g := (mkF m 190 #[iv i0, iv (1 : Int32), iv (0 : Int32), iv (0 : Int32), iv (0 : Int32), rv b1241, iv (1 : Int32), rv w6, .unset] [(.ref w6)])) rfl rfl (hb hby at_190) t k) ?_
          rw [len_of S1497 M1497]
          show own_Goes p e below (T1421.setTop (mkF m 191 #[iv i0, iv (1 : Int32), iv (0 : Int32), iv (0 : Int32), iv (0 : Int32), rv b1241, iv (1 : Int32), rv w6, .unset] [(.int (0 : Int32))])) _
          refine own_via (fun t k => XS.ifNo X1421.here hx rfl (hb hby at_191) rfl ((if0 _ _).trans (teq (by decide : (0 : Int32) = (0 : Int32))).2) (XS.aload X1421.here hx rfl (hb hby at_194) rfl rfl k)) ?_
          obtain ⟨_, T1499, _, X1499, hQ1499, st1499⟩ := own_cv X1421 hx hZ hown (wd hw 35 rfl) (wd hw 36 rfl) (wd hw 38 rfl) (wd hw 37 rfl) (wd hw 39 rfl) (wd hw 2 rfl) (by decide) (rm5 l Z a0 hw [] b1241 h1421 n0 O1498 fx1494) e1421 ex1491 (g := (mkF m 196 #[iv i0, iv (1 : Int32), iv (0 : Int32), iv (0 : Int32), iv (0 : Int32), rv b1241, iv (1 : Int32), rv w6, .unset] [(.ref b1241)])) rfl (by rw [hml]; rfl) (rest := []) (W := 0) (lenOf pd_4 rfl) rfl (by show 2 * 0 + _ ≤ _; exact Nat.le_of_eq rfl) (hb hby at_196) (by decide) (by decide) (by decide) (by decide)
          obtain ⟨rfl, Nq1499, hh1500⟩ := hQ1499
          have N1499 := Fr.app N1421 Nq1499
          refine own_via (fun t k => st1499 t (XS.iloadN X1499.here hx rfl (hb hby at_199) rfl (XS.icmpNo X1499.here hx rfl (hb hby at_200) rfl (teq (by decide : (0 : Int32) = (0 : Int32))).2 (XS.iconst X1499.here hx rfl (hb hby at_203) (XS.goto X1499.here hx rfl (pc0 := 204) (pc' := 208) rfl (hb hby at_204) (by decide) (by decide) (XS.istore X1499.here hx rfl (hb hby at_208) rfl (l' := #[iv i0, iv (1 : Int32), iv (0 : Int32), iv (0 : Int32), iv (0 : Int32), rv b1241, iv (1 : Int32), rv w6, .unset]) rfl (XS.goto X1499.here hx rfl (pc0 := 210) (pc' := 269) rfl (hb hby at_210) (by decide) (by decide) (XS.iloadN X1499.here hx rfl (hb hby at_269) rfl (XS.ifYes X1499.here hx rfl (pc0 := 270) (pc' := 391) rfl (hb hby at_270) rfl ((if0 _ _).trans (teq (by decide : (0 : Int32) = (0 : Int32))).1) (by decide) (by decide) (XS.iload X1499.here hx rfl (hb hby at_391) rfl k)))))))))) ?_
          show own_Goes p e below (T1499.setTop (mkF m 393 #[iv i0, iv (1 : Int32), iv (0 : Int32), iv (0 : Int32), iv (0 : Int32), rv b1241, iv (1 : Int32), rv w6, .unset] [(.int (1 : Int32))])) _
          obtain ⟨fs, hr, hrun, hended, hW, hsame⟩ := X1499.leave (v := some (.int (1 : Int32))) (fun h => by rw [Bd.returns] at h; cases h)
          refine own_end (t := T1499.setFrames fs) ?_ ⟨_, hrun, hended, _, _, rfl, ?_, ⟨_, rfl⟩, hW, hsame.mono (by decide) (by decide)⟩
          · exact retN X1499 hx (t := .boolean) Bd.returns (by simp) (hb hby at_393) hr
          · exact ⟨rfl, N1499⟩
        · refine own_via (fun t k => XS.ifNo X0.here hx rfl (hb hby at_40) rfl ((if0 _ _).trans (feq hc1239).1) (XS.iconst X0.here hx rfl (hb hby at_43) (XS.goto X0.here hx rfl (pc0 := 44) (pc' := 48) rfl (hb hby at_44) (by decide) (by decide) (XS.istore X0.here hx rfl (hb hby at_48) rfl (l' := #[iv i0, iv (1 : Int32), iv (0 : Int32), iv (0 : Int32), iv (1 : Int32), .unset, .unset, .unset, .unset]) rfl k)))) ?_
          show own_Goes p e below (s₁.setTop (mkF m 50 #[iv i0, iv (1 : Int32), iv (0 : Int32), iv (0 : Int32), iv (1 : Int32), .unset, .unset, .unset, .unset] [])) _
          obtain ⟨T1501, h1501, X1501, e1501, E1501, A1501, D1501, -, st1501⟩ := newO X0 hx hZ hown (wd hw 0 rfl) (wd hw 1 rfl) (wd hw 2 rfl) e0 (g := (mkF m 50 #[iv i0, iv (1 : Int32), iv (0 : Int32), iv (0 : Int32), iv (1 : Int32), .unset, .unset, .unset, .unset] [])) rfl (hb hby at_50) (by decide) (by decide)
          obtain ⟨b1502, q1501⟩ : ∃ z, z = h0.size := ⟨_, rfl⟩
          rw [← q1501] at A1501 D1501 st1501
          refine own_via (fun t k => st1501 t k) ?_
          have g1503 : n0 ≤ b1502 := Nat.le_trans (own_old O0) (Nat.le_of_eq q1501.symm)
          have B1504 : h0.size ≤ b1502 := Nat.le_trans (Nat.le_refl _) (Nat.le_of_eq q1501.symm)
          have F1505 : Fld Z h1501 b1502 zs1 "refusedWill" zs3 .null := D1501 (Or.inr (wd hw 32 rfl)) (ty := (.object zs2)) (by decide)
          have F1506 : Fld Z h1501 b1502 zs1 "refusedDo" zs3 .null := D1501 (Or.inr (wd hw 34 rfl)) (ty := (.object zs2)) (by decide)
          have F1507 : Fld Z h1501 b1502 zs1 "gmcpOn" "Z" (.int (0 : Int32)) := D1501 (Or.inl (wd hw 41 rfl)) (ty := .boolean) (by decide)
          have F1508 : Fld Z h1501 b1502 zs1 "gmcpOffered" "Z" (.int (0 : Int32)) := D1501 (Or.inl (wd hw 48 rfl)) (ty := .boolean) (by decide)
          have F1509 : Fld Z h1501 b1502 zs1 "echoOffered" "Z" (.int (0 : Int32)) := D1501 (Or.inl (wd hw 95 rfl)) (ty := .boolean) (by decide)
          show own_Goes p e below (T1501.setTop (mkF m 53 #[iv i0, iv (1 : Int32), iv (0 : Int32), iv (0 : Int32), iv (1 : Int32), .unset, .unset, .unset, .unset] [(.ref b1502)])) _
          refine own_via (fun t k => XS.dup X1501.here hx rfl (hb hby at_53) rfl rfl k) ?_
          have O1511 : Old Z n0 h1501 := (O0.ext E1501)
          obtain ⟨_, T1510, _, X1510, hQ1510, st1510⟩ := own_ci X1501 hx hZ hown (wd hw 3 rfl) (wd hw 4 rfl) (wd hw 5 rfl) (wd hw 2 rfl) rfl (by decide) (rm4 l Z a0 hw [] b1502 (0 : Int32) (0 : Int32) (0 : Int32) h1501 n0 O1511 F1505 A1501 g1503 F1506 F1507 F1508 F1509) e1501 (g := (mkF m 54 #[iv i0, iv (1 : Int32), iv (0 : Int32), iv (0 : Int32), iv (1 : Int32), .unset, .unset, .unset, .unset] [(.ref b1502), (.ref b1502)])) rfl (by rw [hml]; rfl) (rest := [(.ref b1502)]) (W := 1) (lenOf pd_3 rfl) rfl (by show 2 * 0 + _ ≤ _; exact Nat.le_of_eq rfl) (hb hby at_54) (by decide) (by decide) (by decide) (by decide)
          obtain ⟨h1510, e1510⟩ : ∃ z, T1510.heap = z := ⟨_, rfl⟩
          rw [e1510] at hQ1510
          obtain ⟨b1512, b1513, k1514, b1515, b1516, k1517, rfl, Nq1510, K1510, ex1518, fx1519, fx1520, fx1521, fx1522, fx1523, bx1524, ex1525, fx1526, fx1527, fx1528, bx1529, vx1530, bx1531, ex1532, fx1533, fx1534, fx1535, bx1536, vx1537, nx1538, nx1539, nx1540, nx1541, nx1542, nx1543⟩ := hQ1510
          have N1510 := Fr.app N0 Nq1510
          have N1544 : b1502 ≠ b1512 := Nat.ne_of_lt (Nat.lt_of_lt_of_le A1501.lt bx1524)
          have g1545 : n0 ≤ b1512 := Nat.le_trans (own_old O1511) bx1524
          have Z1547 : h0.size ≤ h1501.size := (Nat.le_trans (Nat.le_refl _) E1501.1)
          have B1546 : h0.size ≤ b1512 := Nat.le_trans Z1547 bx1524
          have N1548 : b1502 ≠ b1513 := Nat.ne_of_lt (Nat.lt_of_lt_of_le A1501.lt bx1529)
          have g1549 : n0 ≤ b1513 := Nat.le_trans (own_old O1511) bx1529
          have B1550 : h0.size ≤ b1513 := Nat.le_trans Z1547 bx1529
          have N1551 : b1502 ≠ b1515 := Nat.ne_of_lt (Nat.lt_of_lt_of_le A1501.lt bx1531)
          have g1552 : n0 ≤ b1515 := Nat.le_trans (own_old O1511) bx1531
          have B1553 : h0.size ≤ b1515 := Nat.le_trans Z1547 bx1531
          have N1554 : b1502 ≠ b1516 := Nat.ne_of_lt (Nat.lt_of_lt_of_le A1501.lt bx1536)
          have g1555 : n0 ≤ b1516 := Nat.le_trans (own_old O1511) bx1536
          have B1556 : h0.size ≤ b1516 := Nat.le_trans Z1547 bx1536
          refine own_via (fun t k => st1510 t (XS.astore X1510.here hx rfl (hb hby at_57) rfl rfl (l' := #[iv i0, iv (1 : Int32), iv (0 : Int32), iv (0 : Int32), iv (1 : Int32), rv b1502, .unset, .unset, .unset]) rfl (XS.iconst X1510.here hx rfl (hb hby at_59) (XS.istore X1510.here hx rfl (hb hby at_60) rfl (l' := #[iv i0, iv (1 : Int32), iv (0 : Int32), iv (0 : Int32), iv (1 : Int32), rv b1502, iv (1 : Int32), .unset, .unset]) rfl (XS.iloadN X1510.here hx rfl (hb hby at_62) rfl (XS.ifNo X1510.here hx rfl (hb hby at_63) rfl ((if0 _ _).trans (feq (by decide : ¬ ((1 : Int32) = (0 : Int32)))).1) (XS.aload X1510.here hx rfl (hb hby at_66) rfl rfl k))))))) ?_
          show own_Goes p e below (T1510.setTop (mkF m 68 #[iv i0, iv (1 : Int32), iv (0 : Int32), iv (0 : Int32), iv (1 : Int32), rv b1502, iv (1 : Int32), .unset, .unset] [(.ref b1502)])) _
          have O1558 : Old Z n0 h1510 := (O1511.keep K1510 (allS g1503 all0))
          obtain ⟨_, T1557, _, X1557, hQ1557, st1557⟩ := own_cv X1510 hx hZ hown (wd hw 51 rfl) (wd hw 52 rfl) (wd hw 54 rfl) (wd hw 53 rfl) (wd hw 55 rfl) (wd hw 2 rfl) (by decide) (rm19 l Z a0 hw [] b1502 (0 : Int32) b1512 b1515 (0 : Int32) (0 : Int32) h1510 n0 O1558 fx1522 ex1518 g1503 fx1519 fx1520 fx1521 fx1523) e1510 ex1518 (g := (mkF m 68 #[iv i0, iv (1 : Int32), iv (0 : Int32), iv (0 : Int32), iv (1 : Int32), rv b1502, iv (1 : Int32), .unset, .unset] [(.ref b1502)])) rfl (by rw [hml]; rfl) (rest := []) (W := 0) (lenOf pd_8 rfl) rfl (by show 2 * 0 + _ ≤ _; exact Nat.le_of_eq rfl) (hb hby at_68) (by decide) (by decide) (by decide) (by decide)
          obtain ⟨h1557, e1557⟩ : ∃ z, T1557.heap = z := ⟨_, rfl⟩
          rw [e1557] at hQ1557
          obtain ⟨b1559, k1560, rfl, Nq1557, K1557, ex1561, fx1562, fx1563, fx1564, fx1565, fx1566, bx1567, vx1568⟩ := hQ1557
          have N1557 := Fr.app N1510 Nq1557
          have N1569 : b1502 ≠ b1559 := Nat.ne_of_lt (Nat.lt_of_lt_of_le ex1518.lt bx1567)
          have N1570 : b1512 ≠ b1559 := Nat.ne_of_lt (Nat.lt_of_lt_of_le ex1525.lt bx1567)
          have N1571 : b1513 ≠ b1559 := Nat.ne_of_lt (Nat.lt_of_lt_of_le vx1530.lt bx1567)
          have N1572 : b1515 ≠ b1559 := Nat.ne_of_lt (Nat.lt_of_lt_of_le ex1532.lt bx1567)
          have N1573 : b1516 ≠ b1559 := Nat.ne_of_lt (Nat.lt_of_lt_of_le vx1537.lt bx1567)
          have g1574 : n0 ≤ b1559 := Nat.le_trans (own_old O1558) bx1567
          have Z1576 : h0.size ≤ h1510.size := (Nat.le_trans Z1547 K1510.1)
          have B1575 : h0.size ≤ b1559 := Nat.le_trans Z1576 bx1567
          refine own_via (fun t k => st1557 t (XS.astore X1557.here hx rfl (hb hby at_71) rfl rfl (l' := #[iv i0, iv (1 : Int32), iv (0 : Int32), iv (0 : Int32), iv (1 : Int32), rv b1502, iv (1 : Int32), rv b1559, .unset]) rfl (XS.iload X1557.here hx rfl (hb hby at_73) rfl (XS.ifNo X1557.here hx rfl (hb hby at_75) rfl ((if0 _ _).trans (feq (by decide : ¬ ((1 : Int32) = (0 : Int32)))).1) (XS.aload X1557.here hx rfl (hb hby at_78) rfl rfl (XS.sipush X1557.here hx rfl (hb hby at_80) k)))))) ?_
          show own_Goes p e below (T1557.setTop (mkF m 83 #[iv i0, iv (1 : Int32), iv (0 : Int32), iv (0 : Int32), iv (1 : Int32), rv b1502, iv (1 : Int32), rv b1559, .unset] [(.int (251 : Int32)), (.ref b1559)])) _
          have l1578 : own_Len Z h1557 b1559 .byte (3 : Int32) := ⟨_, _, _, vx1568⟩
          have O1579 : Old Z n0 h1557 := (O1558.keep K1557 (allS g1503 all0))
          obtain ⟨_, T1577, _, X1577, hQ1577, st1577⟩ := own_cs X1557 hx hZ hown (wd hw 60 rfl) (wd hw 61 rfl) (wd hw 63 rfl) (wd hw 62 rfl) (by decide) (rm20 l Z a0 hw [] b1559 k1560 h1557 n0 O1579 l1578 vx1568) e1557 (g := (mkF m 83 #[iv i0, iv (1 : Int32), iv (0 : Int32), iv (0 : Int32), iv (1 : Int32), rv b1502, iv (1 : Int32), rv b1559, .unset] [(.int (251 : Int32)), (.ref b1559)])) rfl (by rw [hml]; rfl) (rest := []) (W := 0) (lenOf pd_7 rfl) rfl (by show 2 * 0 + _ ≤ _; exact Nat.le_of_eq rfl) (hb hby at_83) (by decide) (by decide) (by decide) (by decide)
          obtain ⟨rfl, Nq1577, hh1580⟩ := hQ1577
          have N1577 := Fr.app N1557 Nq1577
          refine own_via (fun t k => st1577 t (XS.ifNo X1577.here hx rfl (hb hby at_86) rfl ((if0 _ _).trans (feq (by decide : ¬ ((1 : Int32) = (0 : Int32)))).1) (XS.iconst X1577.here hx rfl (hb hby at_89) (XS.goto X1577.here hx rfl (pc0 := 90) (pc' := 94) rfl (hb hby at_90) (by decide) (by decide) (XS.istore X1577.here hx rfl (hb hby at_94) rfl (l' := #[iv i0, iv (1 : Int32), iv (0 : Int32), iv (0 : Int32), iv (1 : Int32), rv b1502, iv (1 : Int32), rv b1559, .unset]) rfl (XS.iload X1577.here hx rfl (hb hby at_96) rfl (XS.ifNo X1577.here hx rfl (hb hby at_98) rfl ((if0 _ _).trans (feq (by decide : ¬ ((1 : Int32) = (0 : Int32)))).1) (XS.aload X1577.here hx rfl (hb hby at_101) rfl rfl (XS.iconst X1577.here hx rfl (hb hby at_103) (XS.iconst X1577.here hx rfl (hb hby at_104) k)))))))))) ?_
          show own_Goes p e below (T1577.setTop (mkF m 105 #[iv i0, iv (1 : Int32), iv (0 : Int32), iv (0 : Int32), iv (1 : Int32), rv b1502, iv (1 : Int32), rv b1559, .unset] [(.int (0 : Int32)), (.int (1 : Int32)), (.ref b1559)])) _
          obtain ⟨cl1581, Ar1581, qq1581, S1581, M1581, H1581, G1581⟩ := id (vx1568)
          have hin1581 : ¬ ((1 : Int32) < 0 ∨ cl1581.slots.size ≤ ((1 : Int32)).toNatClampNeg) := inb_of S1581 ⟨by decide, by decide⟩
          obtain ⟨T1581, h1581, X1581, e1581, W1581, st1581⟩ := stB X1577 hx hZ hh1580 Ar1581 (j := (1 : Int32)) hin1581 (g := (mkF m 105 #[iv i0, iv (1 : Int32), iv (0 : Int32), iv (0 : Int32), iv (1 : Int32), rv b1502, iv (1 : Int32), rv b1559, .unset] [(.int (0 : Int32)), (.int (1 : Int32)), (.ref b1559)])) rfl rfl (hb hby at_105)
          refine own_via (fun t k => st1581 t k) ?_
          have V1582 : Arv Z h1581 b1559 k1560 .byte (3 : Int32) [(.int (-1 : Int32)), (.int (0 : Int32)), (.int (-55 : Int32))] (.int (0 : Int32)) := Arv.set Ar1581 qq1581 S1581 M1581 H1581 G1581 (by decide) W1581 1 rfl (Nat.le_of_ble_eq_true rfl)
          have N1581 := Fr.snoc X1581 N1577 g1574
          show own_Goes p e below (T1581.setTop (mkF m 106 #[iv i0, iv (1 : Int32), iv (0 : Int32), iv (0 : Int32), iv (1 : Int32), rv b1502, iv (1 : Int32), rv b1559, .unset] [])) _
          refine own_via (fun t k => XS.aload X1581.here hx rfl (hb hby at_106) rfl rfl k) ?_
          have F1584 : Fld Z h1581 b1502 zs1 "gmcpOffered" "Z" (.int (1 : Int32)) := (fx1565.other W1581 (Or.inl N1569))
          have E1585 : Exa Z h1581 b1502 zs1 := (ex1561.wr W1581)
          have F1586 : Fld Z h1581 b1502 zs1 "refusedWill" zs3 (.ref b1512) := (fx1562.other W1581 (Or.inl N1569))
          have F1587 : Fld Z h1581 b1502 zs1 "refusedDo" zs3 (.ref b1515) := (fx1563.other W1581 (Or.inl N1569))
          have F1588 : Fld Z h1581 b1502 zs1 "gmcpOn" "Z" (.int (0 : Int32)) := (fx1564.other W1581 (Or.inl N1569))
          have F1589 : Fld Z h1581 b1502 zs1 "echoOffered" "Z" (.int (0 : Int32)) := (fx1566.other W1581 (Or.inl N1569))
          have O1590 : Old Z n0 h1581 := (O1579.wr W1581 g1574)
          obtain ⟨_, T1583, _, X1583, hQ1583, st1583⟩ := own_cv X1581 hx hZ hown (wd hw 51 rfl) (wd hw 52 rfl) (wd hw 54 rfl) (wd hw 53 rfl) (wd hw 55 rfl) (wd hw 2 rfl) (by decide) (rm19 l Z a0 hw [] b1502 (1 : Int32) b1512 b1515 (0 : Int32) (0 : Int32) h1581 n0 O1590 F1584 E1585 g1503 F1586 F1587 F1588 F1589) e1581 E1585 (g := (mkF m 108 #[iv i0, iv (1 : Int32), iv (0 : Int32), iv (0 : Int32), iv (1 : Int32), rv b1502, iv (1 : Int32), rv b1559, .unset] [(.ref b1502)])) rfl (by rw [hml]; rfl) (rest := []) (W := 0) (lenOf pd_8 rfl) rfl (by show 2 * 0 + _ ≤ _; exact Nat.le_of_eq rfl) (hb hby at_108) (by decide) (by decide) (by decide) (by decide)
          obtain ⟨h1583, e1583⟩ : ∃ z, T1583.heap = z := ⟨_, rfl⟩
          rw [e1583] at hQ1583
          obtain ⟨b1591, k1592, rfl, Nq1583, K1583, ex1593, fx1594, fx1595, fx1596, fx1597, fx1598, bx1599, vx1600⟩ := hQ1583
          have N1583 := Fr.app N1581 Nq1583
          have N1601 : b1502 ≠ b1591 := Nat.ne_of_lt (Nat.lt_of_lt_of_le E1585.lt bx1599)
          have E1603 : Exa Z h1581 b1512 zs2 := ((ex1525.keep K1557).wr W1581)
          have N1602 : b1512 ≠ b1591 := Nat.ne_of_lt (Nat.lt_of_lt_of_le E1603.lt bx1599)
          have V1605 : Arv Z h1581 b1513 k1514 .long (4 : Int32) [] (.long (0 : Int64)) := ((vx1530.keep K1557 (ninS (Ne.symm N1548) nin0)).other W1581 N1571)
          have N1604 : b1513 ≠ b1591 := Nat.ne_of_lt (Nat.lt_of_lt_of_le V1605.lt bx1599)
          have E1607 : Exa Z h1581 b1515 zs2 := ((ex1532.keep K1557).wr W1581)
          have N1606 : b1515 ≠ b1591 := Nat.ne_of_lt (Nat.lt_of_lt_of_le E1607.lt bx1599)
          have V1609 : Arv Z h1581 b1516 k1517 .long (4 : Int32) [] (.long (0 : Int64)) := ((vx1537.keep K1557 (ninS (Ne.symm N1554) nin0)).other W1581 N1573)
          have N1608 : b1516 ≠ b1591 := Nat.ne_of_lt (Nat.lt_of_lt_of_le V1609.lt bx1599)
          have N1610 : b1559 ≠ b1591 := Nat.ne_of_lt (Nat.lt_of_lt_of_le V1582.lt bx1599)
          have g1611 : n0 ≤ b1591 := Nat.le_trans (own_old O1590) bx1599
          have Z1613 : h0.size ≤ h1581.size := (Nat.le_trans (Nat.le_trans Z1576 K1557.1) (Nat.le_of_eq W1581.size.symm))
          have B1612 : h0.size ≤ b1591 := Nat.le_trans Z1613 bx1599
          refine own_via (fun t k => st1583 t (XS.astore X1583.here hx rfl (hb hby at_111) rfl rfl (l' := #[iv i0, iv (1 : Int32), iv (0 : Int32), iv (0 : Int32), iv (1 : Int32), rv b1502, iv (1 : Int32), rv b1559, rv b1591]) rfl (XS.iload X1583.here hx rfl (hb hby at_113) rfl (XS.ifNo X1583.here hx rfl (hb hby at_115) rfl ((if0 _ _).trans (feq (by decide : ¬ ((1 : Int32) = (0 : Int32)))).1) (XS.aload X1583.here hx rfl (hb hby at_118) rfl rfl (XS.sipush X1583.here hx rfl (hb hby at_120) k)))))) ?_
          show own_Goes p e below (T1583.setTop (mkF m 123 #[iv i0, iv (1 : Int32), iv (0 : Int32), iv (0 : Int32), iv (1 : Int32), rv b1502, iv (1 : Int32), rv b1559, rv b1591] [(.int (251 : Int32)), (.ref b1591)])) _
          have l1615 : own_Len Z h1583 b1591 .byte (3 : Int32) := ⟨_, _, _, vx1600⟩
          have O1616 : Old Z n0 h1583 := (O1590.keep K1583 (allS g1503 all0))
          obtain ⟨_, T1614, _, X1614, hQ1614, st1614⟩ := own_cs X1583 hx hZ hown (wd hw 60 rfl) (wd hw 61 rfl) (wd hw 63 rfl) (wd hw 62 rfl) (by decide) (rm20 l Z a0 hw [] b1591 k1592 h1583 n0 O1616 l1615 vx1600) e1583 (g := (mkF m 123 #[iv i0, iv (1 : Int32), iv (0 : Int32), iv (0 : Int32), iv (1 : Int32), rv b1502, iv (1 : Int32), rv b1559, rv b1591] [(.int (251 : Int32)), (.ref b1591)])) rfl (by rw [hml]; rfl) (rest := []) (W := 0) (lenOf pd_7 rfl) rfl (by show 2 * 0 + _ ≤ _; exact Nat.le_of_eq rfl) (hb hby at_123) (by decide) (by decide) (by decide) (by decide)
          obtain ⟨rfl, Nq1614, hh1617⟩ := hQ1614
          have N1614 := Fr.app N1583 Nq1614
          refine own_via (fun t k => st1614 t (XS.ifNo X1614.here hx rfl (hb hby at_126) rfl ((if0 _ _).trans (feq (by decide : ¬ ((1 : Int32) = (0 : Int32)))).1) (XS.iconst X1614.here hx rfl (hb hby at_129) (XS.goto X1614.here hx rfl (pc0 := 130) (pc' := 134) rfl (hb hby at_130) (by decide) (by decide) (XS.istore X1614.here hx rfl (hb hby at_134) rfl (l' := #[iv i0, iv (1 : Int32), iv (0 : Int32), iv (0 : Int32), iv (1 : Int32), rv b1502, iv (1 : Int32), rv b1559, rv b1591]) rfl (XS.iload X1614.here hx rfl (hb hby at_136) rfl (XS.ifNo X1614.here hx rfl (hb hby at_138) rfl ((if0 _ _).trans (feq (by decide : ¬ ((1 : Int32) = (0 : Int32)))).1) (XS.aload X1614.here hx rfl (hb hby at_141) rfl rfl k)))))))) ?_
          show own_Goes p e below (T1614.setTop (mkF m 143 #[iv i0, iv (1 : Int32), iv (0 : Int32), iv (0 : Int32), iv (1 : Int32), rv b1502, iv (1 : Int32), rv b1559, rv b1591] [(.ref b1502)])) _
          obtain ⟨_, T1618, _, X1618, hQ1618, st1618⟩ := own_cv X1614 hx hZ hown (wd hw 35 rfl) (wd hw 36 rfl) (wd hw 38 rfl) (wd hw 37 rfl) (wd hw 39 rfl) (wd hw 2 rfl) (by decide) (rm5 l Z a0 hw [] b1502 h1583 n0 O1616 fx1596) hh1617 ex1593 (g := (mkF m 143 #[iv i0, iv (1 : Int32), iv (0 : Int32), iv (0 : Int32), iv (1 : Int32), rv b1502, iv (1 : Int32), rv b1559, rv b1591] [(.ref b1502)])) rfl (by rw [hml]; rfl) (rest := []) (W := 0) (lenOf pd_4 rfl) rfl (by show 2 * 0 + _ ≤ _; exact Nat.le_of_eq rfl) (hb hby at_143) (by decide) (by decide) (by decide) (by decide)
          obtain ⟨rfl, Nq1618, hh1619⟩ := hQ1618
          have N1618 := Fr.app N1614 Nq1618
          refine own_via (fun t k => st1618 t (XS.ifNo X1618.here hx rfl (hb hby at_146) rfl ((if0 _ _).trans (teq (by decide : (0 : Int32) = (0 : Int32))).2) (XS.iconst X1618.here hx rfl (hb hby at_149) (XS.goto X1618.here hx rfl (pc0 := 150) (pc' := 154) rfl (hb hby at_150) (by decide) (by decide) (XS.istore X1618.here hx rfl (hb hby at_154) rfl (l' := #[iv i0, iv (1 : Int32), iv (0 : Int32), iv (0 : Int32), iv (1 : Int32), rv b1502, iv (1 : Int32), rv b1559, rv b1591]) rfl (XS.aload X1618.here hx rfl (hb hby at_156) rfl rfl (XS.iloadN X1618.here hx rfl (hb hby at_158) rfl (XS.ifYes X1618.here hx rfl (pc0 := 159) (pc' := 168) rfl (hb hby at_159) rfl ((if0 _ _).trans (teq (by decide : (0 : Int32) = (0 : Int32))).1) (by decide) (by decide) (XS.sipush X1618.here hx rfl (hb hby at_168) (XS.sipush X1618.here hx rfl (hb hby at_171) k)))))))))) ?_
          show own_Goes p e below (T1618.setTop (mkF m 174 #[iv i0, iv (1 : Int32), iv (0 : Int32), iv (0 : Int32), iv (1 : Int32), rv b1502, iv (1 : Int32), rv b1559, rv b1591] [(.int (201 : Int32)), (.int (254 : Int32)), (.ref b1502)])) _
          obtain ⟨_, T1620, _, X1620, hQ1620, st1620⟩ := own_cv X1618 hx hZ hown (wd hw 42 rfl) (wd hw 43 rfl) (wd hw 45 rfl) (wd hw 44 rfl) (wd hw 46 rfl) (wd hw 2 rfl) (by decide) (rm22 l Z a0 hw [] b1502 w6 b1512 b1515 (0 : Int32) h1583 n0 O1616 fx1597 fx1596 ex1593 g1503 S_TelnetOptions_NO_ANSWER fx1594 fx1595 fx1598) hh1619 ex1593 (g := (mkF m 174 #[iv i0, iv (1 : Int32), iv (0 : Int32), iv (0 : Int32), iv (1 : Int32), rv b1502, iv (1 : Int32), rv b1559, rv b1591] [(.int (201 : Int32)), (.int (254 : Int32)), (.ref b1502)])) rfl (by rw [hml]; rfl) (rest := []) (W := 0) (lenOf pd_5 rfl) rfl (by show 2 * 0 + _ ≤ _; exact Nat.le_of_eq rfl) (hb hby at_174) (by decide) (by decide) (by decide) (by decide)
          obtain ⟨h1620, e1620⟩ : ∃ z, T1620.heap = z := ⟨_, rfl⟩
          rw [e1620] at hQ1620
          obtain ⟨rfl, Nq1620, K1620, ex1621, fx1622, fx1623, fx1624, fx1625, fx1626⟩ := hQ1620
          have N1620 := Fr.app N1618 Nq1620
          refine own_via (fun t k => st1620 t (XS.astore X1620.here hx rfl (hb hby at_177) rfl rfl (l' := #[iv i0, iv (1 : Int32), iv (0 : Int32), iv (0 : Int32), iv (1 : Int32), rv b1502, iv (1 : Int32), rv w6, rv b1591]) rfl (XS.iloadN X1620.here hx rfl (hb hby at_179) rfl (XS.ifNo X1620.here hx rfl (hb hby at_180) rfl ((if0 _ _).trans (feq (by decide : ¬ ((1 : Int32) = (0 : Int32)))).1) (XS.iload X1620.here hx rfl (hb hby at_183) rfl (XS.ifNo X1620.here hx rfl (hb hby at_185) rfl ((if0 _ _).trans (feq (by decide : ¬ ((1 : Int32) = (0 : Int32)))).1) (XS.aload X1620.here hx rfl (hb hby at_188) rfl rfl k))))))) ?_
          show own_Goes p e below (T1620.setTop (mkF m 190 #[iv i0, iv (1 : Int32), iv (0 : Int32), iv (0 : Int32), iv (1 : Int32), rv b1502, iv (1 : Int32), rv w6, rv b1591] [(.ref w6)])) _
          have O1628 : Old Z n0 h1620 := (O1616.keep K1620 (allS g1503 all0))
          obtain ⟨cl1627, Ar1627, -, S1627, M1627, -, -⟩ := id ((SV_w6.ext O1628.2))
          refine own_via (fun t k => X1620.arraylength hx (by rw [e1620]; exact Ar1627.1) (State.isArrayOf_alike hZ.alike Ar1627.2.1) (g := (mkF m 190 #[iv i0, iv (1 : Int32), iv (0 : Int32), iv (0 : Int32), iv (1 : Int32), rv b1502, iv (1 : Int32), rv w6, rv b1591] [(.ref w6)])) rfl rfl (hb hby at_190) t k) ?_
          rw [len_of S1627 M1627]
          show own_Goes p e below (T1620.setTop (mkF m 191 #[iv i0, iv (1 : Int32), iv (0 : Int32), iv (0 : Int32), iv (1 : Int32), rv b1502, iv (1 : Int32), rv w6, rv b1591] [(.int (0 : Int32))])) _
          refine own_via (fun t k => XS.ifNo X1620.here hx rfl (hb hby at_191) rfl ((if0 _ _).trans (teq (by decide : (0 : Int32) = (0 : Int32))).2) (XS.aload X1620.here hx rfl (hb hby at_194) rfl rfl k)) ?_
          obtain ⟨_, T1629, _, X1629, hQ1629, st1629⟩ := own_cv X1620 hx hZ hown (wd hw 35 rfl) (wd hw 36 rfl) (wd hw 38 rfl) (wd hw 37 rfl) (wd hw 39 rfl) (wd hw 2 rfl) (by decide) (rm5 l Z a0 hw [] b1502 h1620 n0 O1628 fx1624) e1620 ex1621 (g := (mkF m 196 #[iv i0, iv (1 : Int32), iv (0 : Int32), iv (0 : Int32), iv (1 : Int32), rv b1502, iv (1 : Int32), rv w6, rv b1591] [(.ref b1502)])) rfl (by rw [hml]; rfl) (rest := []) (W := 0) (lenOf pd_4 rfl) rfl (by show 2 * 0 + _ ≤ _; exact Nat.le_of_eq rfl) (hb hby at_196) (by decide) (by decide) (by decide) (by decide)
          obtain ⟨rfl, Nq1629, hh1630⟩ := hQ1629
          have N1629 := Fr.app N1620 Nq1629
          refine own_via (fun t k => st1629 t (XS.iloadN X1629.here hx rfl (hb hby at_199) rfl (XS.icmpNo X1629.here hx rfl (hb hby at_200) rfl (teq (by decide : (0 : Int32) = (0 : Int32))).2 (XS.iconst X1629.here hx rfl (hb hby at_203) (XS.goto X1629.here hx rfl (pc0 := 204) (pc' := 208) rfl (hb hby at_204) (by decide) (by decide) (XS.istore X1629.here hx rfl (hb hby at_208) rfl (l' := #[iv i0, iv (1 : Int32), iv (0 : Int32), iv (0 : Int32), iv (1 : Int32), rv b1502, iv (1 : Int32), rv w6, rv b1591]) rfl (XS.goto X1629.here hx rfl (pc0 := 210) (pc' := 269) rfl (hb hby at_210) (by decide) (by decide) (XS.iloadN X1629.here hx rfl (hb hby at_269) rfl (XS.ifYes X1629.here hx rfl (pc0 := 270) (pc' := 391) rfl (hb hby at_270) rfl ((if0 _ _).trans (teq (by decide : (0 : Int32) = (0 : Int32))).1) (by decide) (by decide) (XS.iload X1629.here hx rfl (hb hby at_391) rfl k)))))))))) ?_
          show own_Goes p e below (T1629.setTop (mkF m 393 #[iv i0, iv (1 : Int32), iv (0 : Int32), iv (0 : Int32), iv (1 : Int32), rv b1502, iv (1 : Int32), rv w6, rv b1591] [(.int (1 : Int32))])) _
          obtain ⟨fs, hr, hrun, hended, hW, hsame⟩ := X1629.leave (v := some (.int (1 : Int32))) (fun h => by rw [Bd.returns] at h; cases h)
          refine own_end (t := T1629.setFrames fs) ?_ ⟨_, hrun, hended, _, _, rfl, ?_, ⟨_, rfl⟩, hW, hsame.mono (by decide) (by decide)⟩
          · exact retN X1629 hx (t := .boolean) Bd.returns (by simp) (hb hby at_393) hr
          · exact ⟨rfl, N1629⟩
      · refine own_via (fun t k => XS.ifNo X0.here hx rfl (hb hby at_27) rfl ((if0 _ _).trans (feq hc1238).1) (XS.iconst X0.here hx rfl (hb hby at_30) (XS.goto X0.here hx rfl (pc0 := 31) (pc' := 35) rfl (hb hby at_31) (by decide) (by decide) (XS.istoreN X0.here hx rfl (hb hby at_35) rfl (l' := #[iv i0, iv (1 : Int32), iv (0 : Int32), iv (1 : Int32), .unset, .unset, .unset, .unset, .unset]) rfl (XS.iloadN X0.here hx rfl (hb hby at_36) rfl (XS.bipush X0.here hx rfl (hb hby at_37) (XS.iand X0.here hx rfl (hb hby at_39) rfl k))))))) ?_
        show own_Goes p e below (s₁.setTop (mkF m 40 #[iv i0, iv (1 : Int32), iv (0 : Int32), iv (1 : Int32), .unset, .unset, .unset, .unset, .unset] [(.int (i0 &&& (8 : Int32)))])) _
        by_cases hc1631 : (i0 &&& (8 : Int32)) = (0 : Int32)
        · refine own_via (fun t k => XS.ifYes X0.here hx rfl (pc0 := 40) (pc' := 47) rfl (hb hby at_40) rfl ((if0 _ _).trans (teq hc1631).1) (by decide) (by decide) (XS.iconst X0.here hx rfl (hb hby at_47) (XS.istore X0.here hx rfl (hb hby at_48) rfl (l' := #[iv i0, iv (1 : Int32), iv (0 : Int32), iv (1 : Int32), iv (0 : Int32), .unset, .unset, .unset, .unset]) rfl k))) ?_
          show own_Goes p e below (s₁.setTop (mkF m 50 #[iv i0, iv (1 : Int32), iv (0 : Int32), iv (1 : Int32), iv (0 : Int32), .unset, .unset, .unset, .unset] [])) _
          obtain ⟨T1632, h1632, X1632, e1632, E1632, A1632, D1632, -, st1632⟩ := newO X0 hx hZ hown (wd hw 0 rfl) (wd hw 1 rfl) (wd hw 2 rfl) e0 (g := (mkF m 50 #[iv i0, iv (1 : Int32), iv (0 : Int32), iv (1 : Int32), iv (0 : Int32), .unset, .unset, .unset, .unset] [])) rfl (hb hby at_50) (by decide) (by decide)
          obtain ⟨b1633, q1632⟩ : ∃ z, z = h0.size := ⟨_, rfl⟩
          rw [← q1632] at A1632 D1632 st1632
          refine own_via (fun t k => st1632 t k) ?_
          have g1634 : n0 ≤ b1633 := Nat.le_trans (own_old O0) (Nat.le_of_eq q1632.symm)
          have B1635 : h0.size ≤ b1633 := Nat.le_trans (Nat.le_refl _) (Nat.le_of_eq q1632.symm)
          have F1636 : Fld Z h1632 b1633 zs1 "refusedWill" zs3 .null := D1632 (Or.inr (wd hw 32 rfl)) (ty := (.object zs2)) (by decide)
          have F1637 : Fld Z h1632 b1633 zs1 "refusedDo" zs3 .null := D1632 (Or.inr (wd hw 34 rfl)) (ty := (.object zs2)) (by decide)
          have F1638 : Fld Z h1632 b1633 zs1 "gmcpOn" "Z" (.int (0 : Int32)) := D1632 (Or.inl (wd hw 41 rfl)) (ty := .boolean) (by decide)
          have F1639 : Fld Z h1632 b1633 zs1 "gmcpOffered" "Z" (.int (0 : Int32)) := D1632 (Or.inl (wd hw 48 rfl)) (ty := .boolean) (by decide)
          have F1640 : Fld Z h1632 b1633 zs1 "echoOffered" "Z" (.int (0 : Int32)) := D1632 (Or.inl (wd hw 95 rfl)) (ty := .boolean) (by decide)
          show own_Goes p e below (T1632.setTop (mkF m 53 #[iv i0, iv (1 : Int32), iv (0 : Int32), iv (1 : Int32), iv (0 : Int32), .unset, .unset, .unset, .unset] [(.ref b1633)])) _
          refine own_via (fun t k => XS.dup X1632.here hx rfl (hb hby at_53) rfl rfl k) ?_
          have O1642 : Old Z n0 h1632 := (O0.ext E1632)
          obtain ⟨_, T1641, _, X1641, hQ1641, st1641⟩ := own_ci X1632 hx hZ hown (wd hw 3 rfl) (wd hw 4 rfl) (wd hw 5 rfl) (wd hw 2 rfl) rfl (by decide) (rm4 l Z a0 hw [] b1633 (0 : Int32) (0 : Int32) (0 : Int32) h1632 n0 O1642 F1636 A1632 g1634 F1637 F1638 F1639 F1640) e1632 (g := (mkF m 54 #[iv i0, iv (1 : Int32), iv (0 : Int32), iv (1 : Int32), iv (0 : Int32), .unset, .unset, .unset, .unset] [(.ref b1633), (.ref b1633)])) rfl (by rw [hml]; rfl) (rest := [(.ref b1633)]) (W := 1) (lenOf pd_3 rfl) rfl (by show 2 * 0 + _ ≤ _; exact Nat.le_of_eq rfl) (hb hby at_54) (by decide) (by decide) (by decide) (by decide)
          obtain ⟨h1641, e1641⟩ : ∃ z, T1641.heap = z := ⟨_, rfl⟩
          rw [e1641] at hQ1641
          obtain ⟨b1643, b1644, k1645, b1646, b1647, k1648, rfl, Nq1641, K1641, ex1649, fx1650, fx1651, fx1652, fx1653, fx1654, bx1655, ex1656, fx1657, fx1658, fx1659, bx1660, vx1661, bx1662, ex1663, fx1664, fx1665, fx1666, bx1667, vx1668, nx1669, nx1670, nx1671, nx1672, nx1673, nx1674⟩ := hQ1641
          have N1641 := Fr.app N0 Nq1641
          have N1675 : b1633 ≠ b1643 := Nat.ne_of_lt (Nat.lt_of_lt_of_le A1632.lt bx1655)
          have g1676 : n0 ≤ b1643 := Nat.le_trans (own_old O1642) bx1655
          have Z1678 : h0.size ≤ h1632.size := (Nat.le_trans (Nat.le_refl _) E1632.1)
          have B1677 : h0.size ≤ b1643 := Nat.le_trans Z1678 bx1655
          have N1679 : b1633 ≠ b1644 := Nat.ne_of_lt (Nat.lt_of_lt_of_le A1632.lt bx1660)
          have g1680 : n0 ≤ b1644 := Nat.le_trans (own_old O1642) bx1660
          have B1681 : h0.size ≤ b1644 := Nat.le_trans Z1678 bx1660
          have N1682 : b1633 ≠ b1646 := Nat.ne_of_lt (Nat.lt_of_lt_of_le A1632.lt bx1662)
          have g1683 : n0 ≤ b1646 := Nat.le_trans (own_old O1642) bx1662
          have B1684 : h0.size ≤ b1646 := Nat.le_trans Z1678 bx1662
          have N1685 : b1633 ≠ b1647 := Nat.ne_of_lt (Nat.lt_of_lt_of_le A1632.lt bx1667)
          have g1686 : n0 ≤ b1647 := Nat.le_trans (own_old O1642) bx1667
          have B1687 : h0.size ≤ b1647 := Nat.le_trans Z1678 bx1667
          refine own_via (fun t k => st1641 t (XS.astore X1641.here hx rfl (hb hby at_57) rfl rfl (l' := #[iv i0, iv (1 : Int32), iv (0 : Int32), iv (1 : Int32), iv (0 : Int32), rv b1633, .unset, .unset, .unset]) rfl (XS.iconst X1641.here hx rfl (hb hby at_59) (XS.istore X1641.here hx rfl (hb hby at_60) rfl (l' := #[iv i0, iv (1 : Int32), iv (0 : Int32), iv (1 : Int32), iv (0 : Int32), rv b1633, iv (1 : Int32), .unset, .unset]) rfl (XS.iloadN X1641.here hx rfl (hb hby at_62) rfl (XS.ifNo X1641.here hx rfl (hb hby at_63) rfl ((if0 _ _).trans (feq (by decide : ¬ ((1 : Int32) = (0 : Int32)))).1) (XS.aload X1641.here hx rfl (hb hby at_66) rfl rfl k))))))) ?_
          show own_Goes p e below (T1641.setTop (mkF m 68 #[iv i0, iv (1 : Int32), iv (0 : Int32), iv (1 : Int32), iv (0 : Int32), rv b1633, iv (1 : Int32), .unset, .unset] [(.ref b1633)])) _
          have O1689 : Old Z n0 h1641 := (O1642.keep K1641 (allS g1634 all0))
          obtain ⟨_, T1688, _, X1688, hQ1688, st1688⟩ := own_cv X1641 hx hZ hown (wd hw 51 rfl) (wd hw 52 rfl) (wd hw 54 rfl) (wd hw 53 rfl) (wd hw 55 rfl) (wd hw 2 rfl) (by decide) (rm19 l Z a0 hw [] b1633 (0 : Int32) b1643 b1646 (0 : Int32) (0 : Int32) h1641 n0 O1689 fx1653 ex1649 g1634 fx1650 fx1651 fx1652 fx1654) e1641 ex1649 (g := (mkF m 68 #[iv i0, iv (1 : Int32), iv (0 : Int32), iv (1 : Int32), iv (0 : Int32), rv b1633, iv (1 : Int32), .unset, .unset] [(.ref b1633)])) rfl (by rw [hml]; rfl) (rest := []) (W := 0) (lenOf pd_8 rfl) rfl (by show 2 * 0 + _ ≤ _; exact Nat.le_of_eq rfl) (hb hby at_68) (by decide) (by decide) (by decide) (by decide)
          obtain ⟨h1688, e1688⟩ : ∃ z, T1688.heap = z := ⟨_, rfl⟩
          rw [e1688] at hQ1688
          obtain ⟨b1690, k1691, rfl, Nq1688, K1688, ex1692, fx1693, fx1694, fx1695, fx1696, fx1697, bx1698, vx1699⟩ := hQ1688
          have N1688 := Fr.app N1641 Nq1688
          have N1700 : b1633 ≠ b1690 := Nat.ne_of_lt (Nat.lt_of_lt_of_le ex1649.lt bx1698)
          have N1701 : b1643 ≠ b1690 := Nat.ne_of_lt (Nat.lt_of_lt_of_le ex1656.lt bx1698)
          have N1702 : b1644 ≠ b1690 := Nat.ne_of_lt (Nat.lt_of_lt_of_le vx1661.lt bx1698)
          have N1703 : b1646 ≠ b1690 := Nat.ne_of_lt (Nat.lt_of_lt_of_le ex1663.lt bx1698)
          have N1704 : b1647 ≠ b1690 := Nat.ne_of_lt (Nat.lt_of_lt_of_le vx1668.lt bx1698)
          have g1705 : n0 ≤ b1690 := Nat.le_trans (own_old O1689) bx1698
          have Z1707 : h0.size ≤ h1641.size := (Nat.le_trans Z1678 K1641.1)
          have B1706 : h0.size ≤ b1690 := Nat.le_trans Z1707 bx1698
          refine own_via (fun t k => st1688 t (XS.astore X1688.here hx rfl (hb hby at_71) rfl rfl (l' := #[iv i0, iv (1 : Int32), iv (0 : Int32), iv (1 : Int32), iv (0 : Int32), rv b1633, iv (1 : Int32), rv b1690, .unset]) rfl (XS.iload X1688.here hx rfl (hb hby at_73) rfl (XS.ifNo X1688.here hx rfl (hb hby at_75) rfl ((if0 _ _).trans (feq (by decide : ¬ ((1 : Int32) = (0 : Int32)))).1) (XS.aload X1688.here hx rfl (hb hby at_78) rfl rfl (XS.sipush X1688.here hx rfl (hb hby at_80) k)))))) ?_
          show own_Goes p e below (T1688.setTop (mkF m 83 #[iv i0, iv (1 : Int32), iv (0 : Int32), iv (1 : Int32), iv (0 : Int32), rv b1633, iv (1 : Int32), rv b1690, .unset] [(.int (251 : Int32)), (.ref b1690)])) _
          have l1709 : own_Len Z h1688 b1690 .byte (3 : Int32) := ⟨_, _, _, vx1699⟩
          have O1710 : Old Z n0 h1688 := (O1689.keep K1688 (allS g1634 all0))
          obtain ⟨_, T1708, _, X1708, hQ1708, st1708⟩ := own_cs X1688 hx hZ hown (wd hw 60 rfl) (wd hw 61 rfl) (wd hw 63 rfl) (wd hw 62 rfl) (by decide) (rm20 l Z a0 hw [] b1690 k1691 h1688 n0 O1710 l1709 vx1699) e1688 (g := (mkF m 83 #[iv i0, iv (1 : Int32), iv (0 : Int32), iv (1 : Int32), iv (0 : Int32), rv b1633, iv (1 : Int32), rv b1690, .unset] [(.int (251 : Int32)), (.ref b1690)])) rfl (by rw [hml]; rfl) (rest := []) (W := 0) (lenOf pd_7 rfl) rfl (by show 2 * 0 + _ ≤ _; exact Nat.le_of_eq rfl) (hb hby at_83) (by decide) (by decide) (by decide) (by decide)
          obtain ⟨rfl, Nq1708, hh1711⟩ := hQ1708
          have N1708 := Fr.app N1688 Nq1708
          refine own_via (fun t k => st1708 t (XS.ifNo X1708.here hx rfl (hb hby at_86) rfl ((if0 _ _).trans (feq (by decide : ¬ ((1 : Int32) = (0 : Int32)))).1) (XS.iconst X1708.here hx rfl (hb hby at_89) (XS.goto X1708.here hx rfl (pc0 := 90) (pc' := 94) rfl (hb hby at_90) (by decide) (by decide) (XS.istore X1708.here hx rfl (hb hby at_94) rfl (l' := #[iv i0, iv (1 : Int32), iv (0 : Int32), iv (1 : Int32), iv (0 : Int32), rv b1633, iv (1 : Int32), rv b1690, .unset]) rfl (XS.iload X1708.here hx rfl (hb hby at_96) rfl (XS.ifYes X1708.here hx rfl (pc0 := 98) (pc' := 136) rfl (hb hby at_98) rfl ((if0 _ _).trans (teq (by decide : (0 : Int32) = (0 : Int32))).1) (by decide) (by decide) (XS.iload X1708.here hx rfl (hb hby at_136) rfl (XS.ifNo X1708.here hx rfl (hb hby at_138) rfl ((if0 _ _).trans (feq (by decide : ¬ ((1 : Int32) = (0 : Int32)))).1) (XS.aload X1708.here hx rfl (hb hby at_141) rfl rfl k)))))))))) ?_
          show own_Goes p e below (T1708.setTop (mkF m 143 #[iv i0, iv (1 : Int32), iv (0 : Int32), iv (1 : Int32), iv (0 : Int32), rv b1633, iv (1 : Int32), rv b1690, .unset] [(.ref b1633)])) _
          obtain ⟨_, T1712, _, X1712, hQ1712, st1712⟩ := own_cv X1708 hx hZ hown (wd hw 35 rfl) (wd hw 36 rfl) (wd hw 38 rfl) (wd hw 37 rfl) (wd hw 39 rfl) (wd hw 2 rfl) (by decide) (rm5 l Z a0 hw [] b1633 h1688 n0 O1710 fx1695) hh1711 ex1692 (g := (mkF m 143 #[iv i0, iv (1 : Int32), iv (0 : Int32), iv (1 : Int32), iv (0 : Int32), rv b1633, iv (1 : Int32), rv b1690, .unset] [(.ref b1633)])) rfl (by rw [hml]; rfl) (rest := []) (W := 0) (lenOf pd_4 rfl) rfl (by show 2 * 0 + _ ≤ _; exact Nat.le_of_eq rfl) (hb hby at_143) (by decide) (by decide) (by decide) (by decide)
          obtain ⟨rfl, Nq1712, hh1713⟩ := hQ1712
          have N1712 := Fr.app N1708 Nq1712
          refine own_via (fun t k => st1712 t (XS.ifNo X1712.here hx rfl (hb hby at_146) rfl ((if0 _ _).trans (teq (by decide : (0 : Int32) = (0 : Int32))).2) (XS.iconst X1712.here hx rfl (hb hby at_149) (XS.goto X1712.here hx rfl (pc0 := 150) (pc' := 154) rfl (hb hby at_150) (by decide) (by decide) (XS.istore X1712.here hx rfl (hb hby at_154) rfl (l' := #[iv i0, iv (1 : Int32), iv (0 : Int32), iv (1 : Int32), iv (0 : Int32), rv b1633, iv (1 : Int32), rv b1690, .unset]) rfl (XS.aload X1712.here hx rfl (hb hby at_156) rfl rfl (XS.iloadN X1712.here hx rfl (hb hby at_158) rfl (XS.ifYes X1712.here hx rfl (pc0 := 159) (pc' := 168) rfl (hb hby at_159) rfl ((if0 _ _).trans (teq (by decide : (0 : Int32) = (0 : Int32))).1) (by decide) (by decide) (XS.sipush X1712.here hx rfl (hb hby at_168) (XS.sipush X1712.here hx rfl (hb hby at_171) k)))))))))) ?_
          show own_Goes p e below (T1712.setTop (mkF m 174 #[iv i0, iv (1 : Int32), iv (0 : Int32), iv (1 : Int32), iv (0 : Int32), rv b1633, iv (1 : Int32), rv b1690, .unset] [(.int (201 : Int32)), (.int (254 : Int32)), (.ref b1633)])) _
          obtain ⟨_, T1714, _, X1714, hQ1714, st1714⟩ := own_cv X1712 hx hZ hown (wd hw 42 rfl) (wd hw 43 rfl) (wd hw 45 rfl) (wd hw 44 rfl) (wd hw 46 rfl) (wd hw 2 rfl) (by decide) (rm22 l Z a0 hw [] b1633 w6 b1643 b1646 (0 : Int32) h1688 n0 O1710 fx1696 fx1695 ex1692 g1634 S_TelnetOptions_NO_ANSWER fx1693 fx1694 fx1697) hh1713 ex1692 (g := (mkF m 174 #[iv i0, iv (1 : Int32), iv (0 : Int32), iv (1 : Int32), iv (0 : Int32), rv b1633, iv (1 : Int32), rv b1690, .unset] [(.int (201 : Int32)), (.int (254 : Int32)), (.ref b1633)])) rfl (by rw [hml]; rfl) (rest := []) (W := 0) (lenOf pd_5 rfl) rfl (by show 2 * 0 + _ ≤ _; exact Nat.le_of_eq rfl) (hb hby at_174) (by decide) (by decide) (by decide) (by decide)
          obtain ⟨h1714, e1714⟩ : ∃ z, T1714.heap = z := ⟨_, rfl⟩
          rw [e1714] at hQ1714
          obtain ⟨rfl, Nq1714, K1714, ex1715, fx1716, fx1717, fx1718, fx1719, fx1720⟩ := hQ1714
          have N1714 := Fr.app N1712 Nq1714
          refine own_via (fun t k => st1714 t (XS.astore X1714.here hx rfl (hb hby at_177) rfl rfl (l' := #[iv i0, iv (1 : Int32), iv (0 : Int32), iv (1 : Int32), iv (0 : Int32), rv b1633, iv (1 : Int32), rv w6, .unset]) rfl (XS.iloadN X1714.here hx rfl (hb hby at_179) rfl (XS.ifNo X1714.here hx rfl (hb hby at_180) rfl ((if0 _ _).trans (feq (by decide : ¬ ((1 : Int32) = (0 : Int32)))).1) (XS.iload X1714.here hx rfl (hb hby at_183) rfl (XS.ifNo X1714.here hx rfl (hb hby at_185) rfl ((if0 _ _).trans (feq (by decide : ¬ ((1 : Int32) = (0 : Int32)))).1) (XS.aload X1714.here hx rfl (hb hby at_188) rfl rfl k))))))) ?_
          show own_Goes p e below (T1714.setTop (mkF m 190 #[iv i0, iv (1 : Int32), iv (0 : Int32), iv (1 : Int32), iv (0 : Int32), rv b1633, iv (1 : Int32), rv w6, .unset] [(.ref w6)])) _
          have O1722 : Old Z n0 h1714 := (O1710.keep K1714 (allS g1634 all0))
          obtain ⟨cl1721, Ar1721, -, S1721, M1721, -, -⟩ := id ((SV_w6.ext O1722.2))
          refine own_via (fun t k => X1714.arraylength hx (by rw [e1714]; exact Ar1721.1) (State.isArrayOf_alike hZ.alike Ar1721.2.1) (g := (mkF m 190 #[iv i0, iv (1 : Int32), iv (0 : Int32), iv (1 : Int32), iv (0 : Int32), rv b1633, iv (1 : Int32), rv w6, .unset] [(.ref w6)])) rfl rfl (hb hby at_190) t k) ?_
          rw [len_of S1721 M1721]
          show own_Goes p e below (T1714.setTop (mkF m 191 #[iv i0, iv (1 : Int32), iv (0 : Int32), iv (1 : Int32), iv (0 : Int32), rv b1633, iv (1 : Int32), rv w6, .unset] [(.int (0 : Int32))])) _
          refine own_via (fun t k => XS.ifNo X1714.here hx rfl (hb hby at_191) rfl ((if0 _ _).trans (teq (by decide : (0 : Int32) = (0 : Int32))).2) (XS.aload X1714.here hx rfl (hb hby at_194) rfl rfl k)) ?_
          obtain ⟨_, T1723, _, X1723, hQ1723, st1723⟩ := own_cv X1714 hx hZ hown (wd hw 35 rfl) (wd hw 36 rfl) (wd hw 38 rfl) (wd hw 37 rfl) (wd hw 39 rfl) (wd hw 2 rfl) (by decide) (rm5 l Z a0 hw [] b1633 h1714 n0 O1722 fx1718) e1714 ex1715 (g := (mkF m 196 #[iv i0, iv (1 : Int32), iv (0 : Int32), iv (1 : Int32), iv (0 : Int32), rv b1633, iv (1 : Int32), rv w6, .unset] [(.ref b1633)])) rfl (by rw [hml]; rfl) (rest := []) (W := 0) (lenOf pd_4 rfl) rfl (by show 2 * 0 + _ ≤ _; exact Nat.le_of_eq rfl) (hb hby at_196) (by decide) (by decide) (by decide) (by decide)
          obtain ⟨rfl, Nq1723, hh1724⟩ := hQ1723
          have N1723 := Fr.app N1714 Nq1723
          refine own_via (fun t k => st1723 t (XS.iloadN X1723.here hx rfl (hb hby at_199) rfl (XS.icmpNo X1723.here hx rfl (hb hby at_200) rfl (teq (by decide : (0 : Int32) = (0 : Int32))).2 (XS.iconst X1723.here hx rfl (hb hby at_203) (XS.goto X1723.here hx rfl (pc0 := 204) (pc' := 208) rfl (hb hby at_204) (by decide) (by decide) (XS.istore X1723.here hx rfl (hb hby at_208) rfl (l' := #[iv i0, iv (1 : Int32), iv (0 : Int32), iv (1 : Int32), iv (0 : Int32), rv b1633, iv (1 : Int32), rv w6, .unset]) rfl (XS.goto X1723.here hx rfl (pc0 := 210) (pc' := 269) rfl (hb hby at_210) (by decide) (by decide) (XS.iloadN X1723.here hx rfl (hb hby at_269) rfl (XS.ifNo X1723.here hx rfl (hb hby at_270) rfl ((if0 _ _).trans (feq (by decide : ¬ ((1 : Int32) = (0 : Int32)))).1) (XS.aload X1723.here hx rfl (hb hby at_273) rfl rfl (XS.sipush X1723.here hx rfl (hb hby at_275) (XS.sipush X1723.here hx rfl (hb hby at_278) k)))))))))))) ?_
          show own_Goes p e below (T1723.setTop (mkF m 281 #[iv i0, iv (1 : Int32), iv (0 : Int32), iv (1 : Int32), iv (0 : Int32), rv b1633, iv (1 : Int32), rv w6, .unset] [(.int (201 : Int32)), (.int (253 : Int32)), (.ref b1633)])) _
          have E1726 : Exa Z h1714 b1646 zs2 := ((ex1663.keep K1688).keep K1714)
          have F1727 : Fld Z h1714 b1646 zs2 "wordsInUse" "I" (.int (0 : Int32)) := ((fx1664.keep K1688 (ninS (Ne.symm N1682) nin0)).keep K1714 (ninS (Ne.symm N1682) nin0))
          have F1728 : Fld Z h1714 b1646 zs2 "words" "[J" (.ref b1647) := ((fx1666.keep K1688 (ninS (Ne.symm N1682) nin0)).keep K1714 (ninS (Ne.symm N1682) nin0))
          have V1729 : Arv Z h1714 b1647 k1648 .long (4 : Int32) [] (.long (0 : Int64)) := ((vx1668.keep K1688 (ninS (Ne.symm N1685) nin0)).keep K1714 (ninS (Ne.symm N1685) nin0))
          have l1730 : own_Len Z h1714 b1647 .long (4 : Int32) := ⟨_, _, _, V1729⟩
          have F1731 : Fld Z h1714 b1646 zs2 zs5 "Z" (.int (1 : Int32)) := ((fx1665.keep K1688 (ninS (Ne.symm N1682) nin0)).keep K1714 (ninS (Ne.symm N1682) nin0))
          obtain ⟨_, T1725, _, X1725, hQ1725, st1725⟩ := own_cv X1723 hx hZ hown (wd hw 42 rfl) (wd hw 43 rfl) (wd hw 45 rfl) (wd hw 44 rfl) (wd hw 46 rfl) (wd hw 2 rfl) (by decide) (rm14 l Z a0 hw [] b1633 b1646 b1647 (1 : Int32) k1648 h1714 n0 O1722 fx1719 fx1718 fx1717 S_BitSet__assertionsDisabled E1726 F1727 F1728 l1730 g1683 F1731 V1729 nx1674 g1686) hh1724 ex1715 (g := (mkF m 281 #[iv i0, iv (1 : Int32), iv (0 : Int32), iv (1 : Int32), iv (0 : Int32), rv b1633, iv (1 : Int32), rv w6, .unset] [(.int (201 : Int32)), (.int (253 : Int32)), (.ref b1633)])) rfl (by rw [hml]; rfl) (rest := []) (W := 0) (lenOf pd_5 rfl) rfl (by show 2 * 0 + _ ≤ _; exact Nat.le_of_eq rfl) (hb hby at_281) (by decide) (by decide) (by decide) (by decide)
          obtain ⟨h1725, e1725⟩ : ∃ z, T1725.heap = z := ⟨_, rfl⟩
          rw [e1725] at hQ1725
          obtain ⟨b1732, k1733, rfl, Nq1725, K1725, ex1734, fx1735, fx1736, fx1737, vx1738, bx1739, vx1740⟩ := hQ1725
          have N1725 := Fr.app N1723 Nq1725
          have N1741 : b1633 ≠ b1732 := Nat.ne_of_lt (Nat.lt_of_lt_of_le ex1715.lt bx1739)
          have E1743 : Exa Z h1714 b1643 zs2 := ((ex1656.keep K1688).keep K1714)
          have N1742 : b1643 ≠ b1732 := Nat.ne_of_lt (Nat.lt_of_lt_of_le E1743.lt bx1739)
          have V1745 : Arv Z h1714 b1644 k1645 .long (4 : Int32) [] (.long (0 : Int64)) := ((vx1661.keep K1688 (ninS (Ne.symm N1679) nin0)).keep K1714 (ninS (Ne.symm N1679) nin0))
          have N1744 : b1644 ≠ b1732 := Nat.ne_of_lt (Nat.lt_of_lt_of_le V1745.lt bx1739)
          have N1746 : b1646 ≠ b1732 := Nat.ne_of_lt (Nat.lt_of_lt_of_le E1726.lt bx1739)
          have N1747 : b1647 ≠ b1732 := Nat.ne_of_lt (Nat.lt_of_lt_of_le V1729.lt bx1739)
          have V1749 : Arv Z h1714 b1690 k1691 .byte (3 : Int32) [(.int (-1 : Int32)), (.int (-5 : Int32)), (.int (-55 : Int32))] (.int (0 : Int32)) := (vx1699.keep K1714 (ninS (Ne.symm N1700) nin0))
          have N1748 : b1690 ≠ b1732 := Nat.ne_of_lt (Nat.lt_of_lt_of_le V1749.lt bx1739)
          have g1750 : n0 ≤ b1732 := Nat.le_trans (own_old O1722) bx1739
          have Z1752 : h0.size ≤ h1714.size := (Nat.le_trans (Nat.le_trans Z1707 K1688.1) K1714.1)
          have B1751 : h0.size ≤ b1732 := Nat.le_trans Z1752 bx1739
          refine own_via (fun t k => st1725 t (XS.astore X1725.here hx rfl (hb hby at_284) rfl rfl (l' := #[iv i0, iv (1 : Int32), iv (0 : Int32), iv (1 : Int32), iv (0 : Int32), rv b1633, iv (1 : Int32), rv w6, rv b1732]) rfl (XS.iloadN X1725.here hx rfl (hb hby at_286) rfl (XS.ifNo X1725.here hx rfl (hb hby at_287) rfl ((if0 _ _).trans (feq (by decide : ¬ ((1 : Int32) = (0 : Int32)))).1) (XS.iloadN X1725.here hx rfl (hb hby at_290) rfl (XS.ifYes X1725.here hx rfl (pc0 := 291) (pc' := 323) rfl (hb hby at_291) rfl ((if0 _ _).trans (teq (by decide : (0 : Int32) = (0 : Int32))).1) (by decide) (by decide) (XS.iloadN X1725.here hx rfl (hb hby at_323) rfl (XS.ifYes X1725.here hx rfl (pc0 := 324) (pc' := 360) rfl (hb hby at_324) rfl ((if0 _ _).trans (feq (by decide : ¬ ((1 : Int32) = (0 : Int32)))).2) (by decide) (by decide) (XS.iload X1725.here hx rfl (hb hby at_360) rfl (XS.ifNo X1725.here hx rfl (hb hby at_362) rfl ((if0 _ _).trans (feq (by decide : ¬ ((1 : Int32) = (0 : Int32)))).1) (XS.aload X1725.here hx rfl (hb hby at_365) rfl rfl (XS.sipush X1725.here hx rfl (hb hby at_367) k)))))))))))) ?_
          show own_Goes p e below (T1725.setTop (mkF m 370 #[iv i0, iv (1 : Int32), iv (0 : Int32), iv (1 : Int32), iv (0 : Int32), rv b1633, iv (1 : Int32), rv w6, rv b1732] [(.int (252 : Int32)), (.ref b1732)])) _
          have l1754 : own_Len Z h1725 b1732 .byte (3 : Int32) := ⟨_, _, _, vx1740⟩
          have O1755 : Old Z n0 h1725 := (O1722.keep K1725 (allS g1683 (allS g1686 all0)))
          obtain ⟨_, T1753, _, X1753, hQ1753, st1753⟩ := own_cs X1725 hx hZ hown (wd hw 60 rfl) (wd hw 61 rfl) (wd hw 63 rfl) (wd hw 62 rfl) (by decide) (rm15 l Z a0 hw [] b1732 k1733 h1725 n0 O1755 l1754 vx1740) e1725 (g := (mkF m 370 #[iv i0, iv (1 : Int32), iv (0 : Int32), iv (1 : Int32), iv (0 : Int32), rv b1633, iv (1 : Int32), rv w6, rv b1732] [(.int (252 : Int32)), (.ref b1732)])) rfl (by rw [hml]; rfl) (rest := []) (W := 0) (lenOf pd_7 rfl) rfl (by show 2 * 0 + _ ≤ _; exact Nat.le_of_eq rfl) (hb hby at_370) (by decide) (by decide) (by decide) (by decide)
          obtain ⟨rfl, Nq1753, hh1756⟩ := hQ1753
          have N1753 := Fr.app N1725 Nq1753
          refine own_via (fun t k => st1753 t (XS.ifNo X1753.here hx rfl (hb hby at_373) rfl ((if0 _ _).trans (feq (by decide : ¬ ((1 : Int32) = (0 : Int32)))).1) (XS.aload X1753.here hx rfl (hb hby at_376) rfl rfl k))) ?_
          show own_Goes p e below (T1753.setTop (mkF m 378 #[iv i0, iv (1 : Int32), iv (0 : Int32), iv (1 : Int32), iv (0 : Int32), rv b1633, iv (1 : Int32), rv w6, rv b1732] [(.ref b1633)])) _
          have F1758 : Fld Z h1725 b1633 zs1 "gmcpOn" "Z" (.int (0 : Int32)) := (fx1718.keep K1725 (ninS N1682 (ninS N1685 nin0)))
          have E1759 : Exa Z h1725 b1633 zs1 := (ex1715.keep K1725)
          obtain ⟨_, T1757, _, X1757, hQ1757, st1757⟩ := own_cv X1753 hx hZ hown (wd hw 35 rfl) (wd hw 36 rfl) (wd hw 38 rfl) (wd hw 37 rfl) (wd hw 39 rfl) (wd hw 2 rfl) (by decide) (rm5 l Z a0 hw [] b1633 h1725 n0 O1755 F1758) hh1756 E1759 (g := (mkF m 378 #[iv i0, iv (1 : Int32), iv (0 : Int32), iv (1 : Int32), iv (0 : Int32), rv b1633, iv (1 : Int32), rv w6, rv b1732] [(.ref b1633)])) rfl (by rw [hml]; rfl) (rest := []) (W := 0) (lenOf pd_4 rfl) rfl (by show 2 * 0 + _ ≤ _; exact Nat.le_of_eq rfl) (hb hby at_378) (by decide) (by decide) (by decide) (by decide)
          obtain ⟨rfl, Nq1757, hh1760⟩ := hQ1757
          have N1757 := Fr.app N1753 Nq1757
          refine own_via (fun t k => st1757 t (XS.ifNo X1757.here hx rfl (hb hby at_381) rfl ((if0 _ _).trans (teq (by decide : (0 : Int32) = (0 : Int32))).2) (XS.iconst X1757.here hx rfl (hb hby at_384) (XS.goto X1757.here hx rfl (pc0 := 385) (pc' := 389) rfl (hb hby at_385) (by decide) (by decide) (XS.istore X1757.here hx rfl (hb hby at_389) rfl (l' := #[iv i0, iv (1 : Int32), iv (0 : Int32), iv (1 : Int32), iv (0 : Int32), rv b1633, iv (1 : Int32), rv w6, rv b1732]) rfl (XS.iload X1757.here hx rfl (hb hby at_391) rfl k)))))) ?_
          show own_Goes p e below (T1757.setTop (mkF m 393 #[iv i0, iv (1 : Int32), iv (0 : Int32), iv (1 : Int32), iv (0 : Int32), rv b1633, iv (1 : Int32), rv w6, rv b1732] [(.int (1 : Int32))])) _
          obtain ⟨fs, hr, hrun, hended, hW, hsame⟩ := X1757.leave (v := some (.int (1 : Int32))) (fun h => by rw [Bd.returns] at h; cases h)
          refine own_end (t := T1757.setFrames fs) ?_ ⟨_, hrun, hended, _, _, rfl, ?_, ⟨_, rfl⟩, hW, hsame.mono (by decide) (by decide)⟩
          · exact retN X1757 hx (t := .boolean) Bd.returns (by simp) (hb hby at_393) hr
          · exact ⟨rfl, N1757⟩
        · refine own_via (fun t k => XS.ifNo X0.here hx rfl (hb hby at_40) rfl ((if0 _ _).trans (feq hc1631).1) (XS.iconst X0.here hx rfl (hb hby at_43) (XS.goto X0.here hx rfl (pc0 := 44) (pc' := 48) rfl (hb hby at_44) (by decide) (by decide) (XS.istore X0.here hx rfl (hb hby at_48) rfl (l' := #[iv i0, iv (1 : Int32), iv (0 : Int32), iv (1 : Int32), iv (1 : Int32), .unset, .unset, .unset, .unset]) rfl k)))) ?_
          show own_Goes p e below (s₁.setTop (mkF m 50 #[iv i0, iv (1 : Int32), iv (0 : Int32), iv (1 : Int32), iv (1 : Int32), .unset, .unset, .unset, .unset] [])) _
          obtain ⟨T1761, h1761, X1761, e1761, E1761, A1761, D1761, -, st1761⟩ := newO X0 hx hZ hown (wd hw 0 rfl) (wd hw 1 rfl) (wd hw 2 rfl) e0 (g := (mkF m 50 #[iv i0, iv (1 : Int32), iv (0 : Int32), iv (1 : Int32), iv (1 : Int32), .unset, .unset, .unset, .unset] [])) rfl (hb hby at_50) (by decide) (by decide)
          obtain ⟨b1762, q1761⟩ : ∃ z, z = h0.size := ⟨_, rfl⟩
          rw [← q1761] at A1761 D1761 st1761
          refine own_via (fun t k => st1761 t k) ?_
          have g1763 : n0 ≤ b1762 := Nat.le_trans (own_old O0) (Nat.le_of_eq q1761.symm)
          have B1764 : h0.size ≤ b1762 := Nat.le_trans (Nat.le_refl _) (Nat.le_of_eq q1761.symm)
          have F1765 : Fld Z h1761 b1762 zs1 "refusedWill" zs3 .null := D1761 (Or.inr (wd hw 32 rfl)) (ty := (.object zs2)) (by decide)
          have F1766 : Fld Z h1761 b1762 zs1 "refusedDo" zs3 .null := D1761 (Or.inr (wd hw 34 rfl)) (ty := (.object zs2)) (by decide)
          have F1767 : Fld Z h1761 b1762 zs1 "gmcpOn" "Z" (.int (0 : Int32)) := D1761 (Or.inl (wd hw 41 rfl)) (ty := .boolean) (by decide)
          have F1768 : Fld Z h1761 b1762 zs1 "gmcpOffered" "Z" (.int (0 : Int32)) := D1761 (Or.inl (wd hw 48 rfl)) (ty := .boolean) (by decide)
          have F1769 : Fld Z h1761 b1762 zs1 "echoOffered" "Z" (.int (0 : Int32)) := D1761 (Or.inl (wd hw 95 rfl)) (ty := .boolean) (by decide)
          show own_Goes p e below (T1761.setTop (mkF m 53 #[iv i0, iv (1 : Int32), iv (0 : Int32), iv (1 : Int32), iv (1 : Int32), .unset, .unset, .unset, .unset] [(.ref b1762)])) _
          refine own_via (fun t k => XS.dup X1761.here hx rfl (hb hby at_53) rfl rfl k) ?_
          have O1771 : Old Z n0 h1761 := (O0.ext E1761)
          obtain ⟨_, T1770, _, X1770, hQ1770, st1770⟩ := own_ci X1761 hx hZ hown (wd hw 3 rfl) (wd hw 4 rfl) (wd hw 5 rfl) (wd hw 2 rfl) rfl (by decide) (rm4 l Z a0 hw [] b1762 (0 : Int32) (0 : Int32) (0 : Int32) h1761 n0 O1771 F1765 A1761 g1763 F1766 F1767 F1768 F1769) e1761 (g := (mkF m 54 #[iv i0, iv (1 : Int32), iv (0 : Int32), iv (1 : Int32), iv (1 : Int32), .unset, .unset, .unset, .unset] [(.ref b1762), (.ref b1762)])) rfl (by rw [hml]; rfl) (rest := [(.ref b1762)]) (W := 1) (lenOf pd_3 rfl) rfl (by show 2 * 0 + _ ≤ _; exact Nat.le_of_eq rfl) (hb hby at_54) (by decide) (by decide) (by decide) (by decide)
          obtain ⟨h1770, e1770⟩ : ∃ z, T1770.heap = z := ⟨_, rfl⟩
          rw [e1770] at hQ1770
          obtain ⟨b1772, b1773, k1774, b1775, b1776, k1777, rfl, Nq1770, K1770, ex1778, fx1779, fx1780, fx1781, fx1782, fx1783, bx1784, ex1785, fx1786, fx1787, fx1788, bx1789, vx1790, bx1791, ex1792, fx1793, fx1794, fx1795, bx1796, vx1797, nx1798, nx1799, nx1800, nx1801, nx1802, nx1803⟩ := hQ1770
          have N1770 := Fr.app N0 Nq1770
          have N1804 : b1762 ≠ b1772 := Nat.ne_of_lt (Nat.lt_of_lt_of_le A1761.lt bx1784)
          have g1805 : n0 ≤ b1772 := Nat.le_trans (own_old O1771) bx1784
          have Z1807 : h0.size ≤ h1761.size := (Nat.le_trans (Nat.le_refl _) E1761.1)
          have B1806 : h0.size ≤ b1772 := Nat.le_trans Z1807 bx1784
          have N1808 : b1762 ≠ b1773 := Nat.ne_of_lt (Nat.lt_of_lt_of_le A1761.lt bx1789)
          have g1809 : n0 ≤ b1773 := Nat.le_trans (own_old O1771) bx1789
          have B1810 : h0.size ≤ b1773 := Nat.le_trans Z1807 bx1789
          have N1811 : b1762 ≠ b1775 := Nat.ne_of_lt (Nat.lt_of_lt_of_le A1761.lt bx1791)
          have g1812 : n0 ≤ b1775 := Nat.le_trans (own_old O1771) bx1791
          have B1813 : h0.size ≤ b1775 := Nat.le_trans Z1807 bx1791
          have N1814 : b1762 ≠ b1776 := Nat.ne_of_lt (Nat.lt_of_lt_of_le A1761.lt bx1796)
          have g1815 : n0 ≤ b1776 := Nat.le_trans (own_old O1771) bx1796
          have B1816 : h0.size ≤ b1776 := Nat.le_trans Z1807 bx1796
          refine own_via (fun t k => st1770 t (XS.astore X1770.here hx rfl (hb hby at_57) rfl rfl (l' := #[iv i0, iv (1 : Int32), iv (0 : Int32), iv (1 : Int32), iv (1 : Int32), rv b1762, .unset, .unset, .unset]) rfl (XS.iconst X1770.here hx rfl (hb hby at_59) (XS.istore X1770.here hx rfl (hb hby at_60) rfl (l' := #[iv i0, iv (1 : Int32), iv (0 : Int32), iv (1 : Int32), iv (1 : Int32), rv b1762, iv (1 : Int32), .unset, .unset]) rfl (XS.iloadN X1770.here hx rfl (hb hby at_62) rfl (XS.ifNo X1770.here hx rfl (hb hby at_63) rfl ((if0 _ _).trans (feq (by decide : ¬ ((1 : Int32) = (0 : Int32)))).1) (XS.aload X1770.here hx rfl (hb hby at_66) rfl rfl k))))))) ?_
          show own_Goes p e below (T1770.setTop (mkF m 68 #[iv i0, iv (1 : Int32), iv (0 : Int32), iv (1 : Int32), iv (1 : Int32), rv b1762, iv (1 : Int32), .unset, .unset] [(.ref b1762)])) _
          have O1818 : Old Z n0 h1770 := (O1771.keep K1770 (allS g1763 all0))
          obtain ⟨_, T1817, _, X1817, hQ1817, st1817⟩ := own_cv X1770 hx hZ hown (wd hw 51 rfl) (wd hw 52 rfl) (wd hw 54 rfl) (wd hw 53 rfl) (wd hw 55 rfl) (wd hw 2 rfl) (by decide) (rm19 l Z a0 hw [] b1762 (0 : Int32) b1772 b1775 (0 : Int32) (0 : Int32) h1770 n0 O1818 fx1782 ex1778 g1763 fx1779 fx1780 fx1781 fx1783) e1770 ex1778 (g := (mkF m 68 #[iv i0, iv (1 : Int32), iv (0 : Int32), iv (1 : Int32), iv (1 : Int32), rv b1762, iv (1 : Int32), .unset, .unset] [(.ref b1762)])) rfl (by rw [hml]; rfl) (rest := []) (W := 0) (lenOf pd_8 rfl) rfl (by show 2 * 0 + _ ≤ _; exact Nat.le_of_eq rfl) (hb hby at_68) (by decide) (by decide) (by decide) (by decide)
          obtain ⟨h1817, e1817⟩ : ∃ z, T1817.heap = z := ⟨_, rfl⟩
          rw [e1817] at hQ1817
          obtain ⟨b1819, k1820, rfl, Nq1817, K1817, ex1821, fx1822, fx1823, fx1824, fx1825, fx1826, bx1827, vx1828⟩ := hQ1817
          have N1817 := Fr.app N1770 Nq1817
          have N1829 : b1762 ≠ b1819 := Nat.ne_of_lt (Nat.lt_of_lt_of_le ex1778.lt bx1827)
          have N1830 : b1772 ≠ b1819 := Nat.ne_of_lt (Nat.lt_of_lt_of_le ex1785.lt bx1827)
          have N1831 : b1773 ≠ b1819 := Nat.ne_of_lt (Nat.lt_of_lt_of_le vx1790.lt bx1827)
          have N1832 : b1775 ≠ b1819 := Nat.ne_of_lt (Nat.lt_of_lt_of_le ex1792.lt bx1827)
          have N1833 : b1776 ≠ b1819 := Nat.ne_of_lt (Nat.lt_of_lt_of_le vx1797.lt bx1827)
          have g1834 : n0 ≤ b1819 := Nat.le_trans (own_old O1818) bx1827
          have Z1836 : h0.size ≤ h1770.size := (Nat.le_trans Z1807 K1770.1)
          have B1835 : h0.size ≤ b1819 := Nat.le_trans Z1836 bx1827
          refine own_via (fun t k => st1817 t (XS.astore X1817.here hx rfl (hb hby at_71) rfl rfl (l' := #[iv i0, iv (1 : Int32), iv (0 : Int32), iv (1 : Int32), iv (1 : Int32), rv b1762, iv (1 : Int32), rv b1819, .unset]) rfl (XS.iload X1817.here hx rfl (hb hby at_73) rfl (XS.ifNo X1817.here hx rfl (hb hby at_75) rfl ((if0 _ _).trans (feq (by decide : ¬ ((1 : Int32) = (0 : Int32)))).1) (XS.aload X1817.here hx rfl (hb hby at_78) rfl rfl (XS.sipush X1817.here hx rfl (hb hby at_80) k)))))) ?_
          show own_Goes p e below (T1817.setTop (mkF m 83 #[iv i0, iv (1 : Int32), iv (0 : Int32), iv (1 : Int32), iv (1 : Int32), rv b1762, iv (1 : Int32), rv b1819, .unset] [(.int (251 : Int32)), (.ref b1819)])) _
          have l1838 : own_Len Z h1817 b1819 .byte (3 : Int32) := ⟨_, _, _, vx1828⟩
          have O1839 : Old Z n0 h1817 := (O1818.keep K1817 (allS g1763 all0))
          obtain ⟨_, T1837, _, X1837, hQ1837, st1837⟩ := own_cs X1817 hx hZ hown (wd hw 60 rfl) (wd hw 61 rfl) (wd hw 63 rfl) (wd hw 62 rfl) (by decide) (rm20 l Z a0 hw [] b1819 k1820 h1817 n0 O1839 l1838 vx1828) e1817 (g := (mkF m 83 #[iv i0, iv (1 : Int32), iv (0 : Int32), iv (1 : Int32), iv (1 : Int32), rv b1762, iv (1 : Int32), rv b1819, .unset] [(.int (251 : Int32)), (.ref b1819)])) rfl (by rw [hml]; rfl) (rest := []) (W := 0) (lenOf pd_7 rfl) rfl (by show 2 * 0 + _ ≤ _; exact Nat.le_of_eq rfl) (hb hby at_83) (by decide) (by decide) (by decide) (by decide)
          obtain ⟨rfl, Nq1837, hh1840⟩ := hQ1837
          have N1837 := Fr.app N1817 Nq1837
          refine own_via (fun t k => st1837 t (XS.ifNo X1837.here hx rfl (hb hby at_86) rfl ((if0 _ _).trans (feq (by decide : ¬ ((1 : Int32) = (0 : Int32)))).1) (XS.iconst X1837.here hx rfl (hb hby at_89) (XS.goto X1837.here hx rfl (pc0 := 90) (pc' := 94) rfl (hb hby at_90) (by decide) (by decide) (XS.istore X1837.here hx rfl (hb hby at_94) rfl (l' := #[iv i0, iv (1 : Int32), iv (0 : Int32), iv (1 : Int32), iv (1 : Int32), rv b1762, iv (1 : Int32), rv b1819, .unset]) rfl (XS.iload X1837.here hx rfl (hb hby at_96) rfl (XS.ifNo X1837.here hx rfl (hb hby at_98) rfl ((if0 _ _).trans (feq (by decide : ¬ ((1 : Int32) = (0 : Int32)))).1) (XS.aload X1837.here hx rfl (hb hby at_101) rfl rfl (XS.iconst X1837.here hx rfl (hb hby at_103) (XS.iconst X1837.here hx rfl (hb hby at_104) k)))))))))) ?_
          show own_Goes p e below (T1837.setTop (mkF m 105 #[iv i0, iv (1 : Int32), iv (0 : Int32), iv (1 : Int32), iv (1 : Int32), rv b1762, iv (1 : Int32), rv b1819, .unset] [(.int (0 : Int32)), (.int (1 : Int32)), (.ref b1819)])) _
          obtain ⟨cl1841, Ar1841, qq1841, S1841, M1841, H1841, G1841⟩ := id (vx1828)
          have hin1841 : ¬ ((1 : Int32) < 0 ∨ cl1841.slots.size ≤ ((1 : Int32)).toNatClampNeg) := inb_of S1841 ⟨by decide, by decide⟩
          obtain ⟨T1841, h1841, X1841, e1841, W1841, st1841⟩ := stB X1837 hx hZ hh1840 Ar1841 (j := (1 : Int32)) hin1841 (g := (mkF m 105 #[iv i0, iv (1 : Int32), iv (0 : Int32), iv (1 : Int32), iv (1 : Int32), rv b1762, iv (1 : Int32), rv b1819, .unset] [(.int (0 : Int32)), (.int (1 : Int32)), (.ref b1819)])) rfl rfl (hb hby at_105)
          refine own_via (fun t k => st1841 t k) ?_
          have V1842 : Arv Z h1841 b1819 k1820 .byte (3 : Int32) [(.int (-1 : Int32)), (.int (0 : Int32)), (.int (-55 : Int32))] (.int (0 : Int32)) := Arv.set Ar1841 qq1841 S1841 M1841 H1841 G1841 (by decide) W1841 1 rfl (Nat.le_of_ble_eq_true rfl)
          have N1841 := Fr.snoc X1841 N1837 g1834
          show own_Goes p e below (T1841.setTop (mkF m 106 #[iv i0, iv (1 : Int32), iv (0 : Int32), iv (1 : Int32), iv (1 : Int32), rv b1762, iv (1 : Int32), rv b1819, .unset] [])) _
          refine own_via (fun t k => XS.aload X1841.here hx rfl (hb hby at_106) rfl rfl k) ?_
          have F1844 : Fld Z h1841 b1762 zs1 "gmcpOffered" "Z" (.int (1 : Int32)) := (fx1825.other W1841 (Or.inl N1829))
          have E1845 : Exa Z h1841 b1762 zs1 := (ex1821.wr W1841)
          have F1846 : Fld Z h1841 b1762 zs1 "refusedWill" zs3 (.ref b1772) := (fx1822.other W1841 (Or.inl N1829))
          have F1847 : Fld Z h1841 b1762 zs1 "refusedDo" zs3 (.ref b1775) := (fx1823.other W1841 (Or.inl N1829))
          have F1848 : Fld Z h1841 b1762 zs1 "gmcpOn" "Z" (.int (0 : Int32)) := (fx1824.other W1841 (Or.inl N1829))
          have F1849 : Fld Z h1841 b1762 zs1 "echoOffered" "Z" (.int (0 : Int32)) := (fx1826.other W1841 (Or.inl N1829))
          have O1850 : Old Z n0 h1841 := (O1839.wr W1841 g1834)
          obtain ⟨_, T1843, _, X1843, hQ1843, st1843⟩ := own_cv X1841 hx hZ hown (wd hw 51 rfl) (wd hw 52 rfl) (wd hw 54 rfl) (wd hw 53 rfl) (wd hw 55 rfl) (wd hw 2 rfl) (by decide) (rm19 l Z a0 hw [] b1762 (1 : Int32) b1772 b1775 (0 : Int32) (0 : Int32) h1841 n0 O1850 F1844 E1845 g1763 F1846 F1847 F1848 F1849) e1841 E1845 (g := (mkF m 108 #[iv i0, iv (1 : Int32), iv (0 : Int32), iv (1 : Int32), iv (1 : Int32), rv b1762, iv (1 : Int32), rv b1819, .unset] [(.ref b1762)])) rfl (by rw [hml]; rfl) (rest := []) (W := 0) (lenOf pd_8 rfl) rfl (by show 2 * 0 + _ ≤ _; exact Nat.le_of_eq rfl) (hb hby at_108) (by decide) (by decide) (by decide) (by decide)
          obtain ⟨h1843, e1843⟩ : ∃ z, T1843.heap = z := ⟨_, rfl⟩
          rw [e1843] at hQ1843
          obtain ⟨b1851, k1852, rfl, Nq1843, K1843, ex1853, fx1854, fx1855, fx1856, fx1857, fx1858, bx1859, vx1860⟩ := hQ1843
          have N1843 := Fr.app N1841 Nq1843
          have N1861 : b1762 ≠ b1851 := Nat.ne_of_lt (Nat.lt_of_lt_of_le E1845.lt bx1859)
          have E1863 : Exa Z h1841 b1772 zs2 := ((ex1785.keep K1817).wr W1841)
          have N1862 : b1772 ≠ b1851 := Nat.ne_of_lt (Nat.lt_of_lt_of_le E1863.lt bx1859)
          have V1865 : Arv Z h1841 b1773 k1774 .long (4 : Int32) [] (.long (0 : Int64)) := ((vx1790.keep K1817 (ninS (Ne.symm N1808) nin0)).other W1841 N1831)
          have N1864 : b1773 ≠ b1851 := Nat.ne_of_lt (Nat.lt_of_lt_of_le V1865.lt bx1859)
          have E1867 : Exa Z h1841 b1775 zs2 := ((ex1792.keep K1817).wr W1841)
          have N1866 : b1775 ≠ b1851 := Nat.ne_of_lt (Nat.lt_of_lt_of_le E1867.lt bx1859)
          have V1869 : Arv Z h1841 b1776 k1777 .long (4 : Int32) [] (.long (0 : Int64)) := ((vx1797.keep K1817 (ninS (Ne.symm N1814) nin0)).other W1841 N1833)
          have N1868 : b1776 ≠ b1851 := Nat.ne_of_lt (Nat.lt_of_lt_of_le V1869.lt bx1859)
          have N1870 : b1819 ≠ b1851 := Nat.ne_of_lt (Nat.lt_of_lt_of_le V1842.lt bx1859)
          have g1871 : n0 ≤ b1851 := Nat.le_trans (own_old O1850) bx1859
          have Z1873 : h0.size ≤ h1841.size := (Nat.le_trans (Nat.le_trans Z1836 K1817.1) (Nat.le_of_eq W1841.size.symm))
          have B1872 : h0.size ≤ b1851 := Nat.le_trans Z1873 bx1859
          refine own_via (fun t k => st1843 t (XS.astore X1843.here hx rfl (hb hby at_111) rfl rfl (l' := #[iv i0, iv (1 : Int32), iv (0 : Int32), iv (1 : Int32), iv (1 : Int32), rv b1762, iv (1 : Int32), rv b1819, rv b1851]) rfl (XS.iload X1843.here hx rfl (hb hby at_113) rfl (XS.ifNo X1843.here hx rfl (hb hby at_115) rfl ((if0 _ _).trans (feq (by decide : ¬ ((1 : Int32) = (0 : Int32)))).1) (XS.aload X1843.here hx rfl (hb hby at_118) rfl rfl (XS.sipush X1843.here hx rfl (hb hby at_120) k)))))) ?_
          show own_Goes p e below (T1843.setTop (mkF m 123 #[iv i0, iv (1 : Int32), iv (0 : Int32), iv (1 : Int32), iv (1 : Int32), rv b1762, iv (1 : Int32), rv b1819, rv b1851] [(.int (251 : Int32)), (.ref b1851)])) _
          have l1875 : own_Len Z h1843 b1851 .byte (3 : Int32) := ⟨_, _, _, vx1860⟩
          have O1876 : Old Z n0 h1843 := (O1850.keep K1843 (allS g1763 all0))
          obtain ⟨_, T1874, _, X1874, hQ1874, st1874⟩ := own_cs X1843 hx hZ hown (wd hw 60 rfl) (wd hw 61 rfl) (wd hw 63 rfl) (wd hw 62 rfl) (by decide) (rm20 l Z a0 hw [] b1851 k1852 h1843 n0 O1876 l1875 vx1860) e1843 (g := (mkF m 123 #[iv i0, iv (1 : Int32), iv (0 : Int32), iv (1 : Int32), iv (1 : Int32), rv b1762, iv (1 : Int32), rv b1819, rv b1851] [(.int (251 : Int32)), (.ref b1851)])) rfl (by rw [hml]; rfl) (rest := []) (W := 0) (lenOf pd_7 rfl) rfl (by show 2 * 0 + _ ≤ _; exact Nat.le_of_eq rfl) (hb hby at_123) (by decide) (by decide) (by decide) (by decide)
          obtain ⟨rfl, Nq1874, hh1877⟩ := hQ1874
          have N1874 := Fr.app N1843 Nq1874
          refine own_via (fun t k => st1874 t (XS.ifNo X1874.here hx rfl (hb hby at_126) rfl ((if0 _ _).trans (feq (by decide : ¬ ((1 : Int32) = (0 : Int32)))).1) (XS.iconst X1874.here hx rfl (hb hby at_129) (XS.goto X1874.here hx rfl (pc0 := 130) (pc' := 134) rfl (hb hby at_130) (by decide) (by decide) (XS.istore X1874.here hx rfl (hb hby at_134) rfl (l' := #[iv i0, iv (1 : Int32), iv (0 : Int32), iv (1 : Int32), iv (1 : Int32), rv b1762, iv (1 : Int32), rv b1819, rv b1851]) rfl (XS.iload X1874.here hx rfl (hb hby at_136) rfl (XS.ifNo X1874.here hx rfl (hb hby at_138) rfl ((if0 _ _).trans (feq (by decide : ¬ ((1 : Int32) = (0 : Int32)))).1) (XS.aload X1874.here hx rfl (hb hby at_141) rfl rfl k)))))))) ?_
          show own_Goes p e below (T1874.setTop (mkF m 143 #[iv i0, iv (1 : Int32), iv (0 : Int32), iv (1 : Int32), iv (1 : Int32), rv b1762, iv (1 : Int32), rv b1819, rv b1851] [(.ref b1762)])) _
          obtain ⟨_, T1878, _, X1878, hQ1878, st1878⟩ := own_cv X1874 hx hZ hown (wd hw 35 rfl) (wd hw 36 rfl) (wd hw 38 rfl) (wd hw 37 rfl) (wd hw 39 rfl) (wd hw 2 rfl) (by decide) (rm5 l Z a0 hw [] b1762 h1843 n0 O1876 fx1856) hh1877 ex1853 (g := (mkF m 143 #[iv i0, iv (1 : Int32), iv (0 : Int32), iv (1 : Int32), iv (1 : Int32), rv b1762, iv (1 : Int32), rv b1819, rv b1851] [(.ref b1762)])) rfl (by rw [hml]; rfl) (rest := []) (W := 0) (lenOf pd_4 rfl) rfl (by show 2 * 0 + _ ≤ _; exact Nat.le_of_eq rfl) (hb hby at_143) (by decide) (by decide) (by decide) (by decide)
          obtain ⟨rfl, Nq1878, hh1879⟩ := hQ1878
          have N1878 := Fr.app N1874 Nq1878
          refine own_via (fun t k => st1878 t (XS.ifNo X1878.here hx rfl (hb hby at_146) rfl ((if0 _ _).trans (teq (by decide : (0 : Int32) = (0 : Int32))).2) (XS.iconst X1878.here hx rfl (hb hby at_149) (XS.goto X1878.here hx rfl (pc0 := 150) (pc' := 154) rfl (hb hby at_150) (by decide) (by decide) (XS.istore X1878.here hx rfl (hb hby at_154) rfl (l' := #[iv i0, iv (1 : Int32), iv (0 : Int32), iv (1 : Int32), iv (1 : Int32), rv b1762, iv (1 : Int32), rv b1819, rv b1851]) rfl (XS.aload X1878.here hx rfl (hb hby at_156) rfl rfl (XS.iloadN X1878.here hx rfl (hb hby at_158) rfl (XS.ifYes X1878.here hx rfl (pc0 := 159) (pc' := 168) rfl (hb hby at_159) rfl ((if0 _ _).trans (teq (by decide : (0 : Int32) = (0 : Int32))).1) (by decide) (by decide) (XS.sipush X1878.here hx rfl (hb hby at_168) (XS.sipush X1878.here hx rfl (hb hby at_171) k)))))))))) ?_
          show own_Goes p e below (T1878.setTop (mkF m 174 #[iv i0, iv (1 : Int32), iv (0 : Int32), iv (1 : Int32), iv (1 : Int32), rv b1762, iv (1 : Int32), rv b1819, rv b1851] [(.int (201 : Int32)), (.int (254 : Int32)), (.ref b1762)])) _
          obtain ⟨_, T1880, _, X1880, hQ1880, st1880⟩ := own_cv X1878 hx hZ hown (wd hw 42 rfl) (wd hw 43 rfl) (wd hw 45 rfl) (wd hw 44 rfl) (wd hw 46 rfl) (wd hw 2 rfl) (by decide) (rm22 l Z a0 hw [] b1762 w6 b1772 b1775 (0 : Int32) h1843 n0 O1876 fx1857 fx1856 ex1853 g1763 S_TelnetOptions_NO_ANSWER fx1854 fx1855 fx1858) hh1879 ex1853 (g := (mkF m 174 #[iv i0, iv (1 : Int32), iv (0 : Int32), iv (1 : Int32), iv (1 : Int32), rv b1762, iv (1 : Int32), rv b1819, rv b1851] [(.int (201 : Int32)), (.int (254 : Int32)), (.ref b1762)])) rfl (by rw [hml]; rfl) (rest := []) (W := 0) (lenOf pd_5 rfl) rfl (by show 2 * 0 + _ ≤ _; exact Nat.le_of_eq rfl) (hb hby at_174) (by decide) (by decide) (by decide) (by decide)
          obtain ⟨h1880, e1880⟩ : ∃ z, T1880.heap = z := ⟨_, rfl⟩
          rw [e1880] at hQ1880
          obtain ⟨rfl, Nq1880, K1880, ex1881, fx1882, fx1883, fx1884, fx1885, fx1886⟩ := hQ1880
          have N1880 := Fr.app N1878 Nq1880
          refine own_via (fun t k => st1880 t (XS.astore X1880.here hx rfl (hb hby at_177) rfl rfl (l' := #[iv i0, iv (1 : Int32), iv (0 : Int32), iv (1 : Int32), iv (1 : Int32), rv b1762, iv (1 : Int32), rv w6, rv b1851]) rfl (XS.iloadN X1880.here hx rfl (hb hby at_179) rfl (XS.ifNo X1880.here hx rfl (hb hby at_180) rfl ((if0 _ _).trans (feq (by decide : ¬ ((1 : Int32) = (0 : Int32)))).1) (XS.iload X1880.here hx rfl (hb hby at_183) rfl (XS.ifNo X1880.here hx rfl (hb hby at_185) rfl ((if0 _ _).trans (feq (by decide : ¬ ((1 : Int32) = (0 : Int32)))).1) (XS.aload X1880.here hx rfl (hb hby at_188) rfl rfl k))))))) ?_
          show own_Goes p e below (T1880.setTop (mkF m 190 #[iv i0, iv (1 : Int32), iv (0 : Int32), iv (1 : Int32), iv (1 : Int32), rv b1762, iv (1 : Int32), rv w6, rv b1851] [(.ref w6)])) _
          have O1888 : Old Z n0 h1880 := (O1876.keep K1880 (allS g1763 all0))
          obtain ⟨cl1887, Ar1887, -, S1887, M1887, -, -⟩ := id ((SV_w6.ext O1888.2))
          refine own_via (fun t k => X1880.arraylength hx (by rw [e1880]; exact Ar1887.1) (State.isArrayOf_alike hZ.alike Ar1887.2.1) (g := (mkF m 190 #[iv i0, iv (1 : Int32), iv (0 : Int32), iv (1 : Int32), iv (1 : Int32), rv b1762, iv (1 : Int32), rv w6, rv b1851] [(.ref w6)])) rfl rfl (hb hby at_190) t k) ?_
          rw [len_of S1887 M1887]
          show own_Goes p e below (T1880.setTop (mkF m 191 #[iv i0, iv (1 : Int32), iv (0 : Int32), iv (1 : Int32), iv (1 : Int32), rv b1762, iv (1 : Int32), rv w6, rv b1851] [(.int (0 : Int32))])) _
          refine own_via (fun t k => XS.ifNo X1880.here hx rfl (hb hby at_191) rfl ((if0 _ _).trans (teq (by decide : (0 : Int32) = (0 : Int32))).2) (XS.aload X1880.here hx rfl (hb hby at_194) rfl rfl k)) ?_
          obtain ⟨_, T1889, _, X1889, hQ1889, st1889⟩ := own_cv X1880 hx hZ hown (wd hw 35 rfl) (wd hw 36 rfl) (wd hw 38 rfl) (wd hw 37 rfl) (wd hw 39 rfl) (wd hw 2 rfl) (by decide) (rm5 l Z a0 hw [] b1762 h1880 n0 O1888 fx1884) e1880 ex1881 (g := (mkF m 196 #[iv i0, iv (1 : Int32), iv (0 : Int32), iv (1 : Int32), iv (1 : Int32), rv b1762, iv (1 : Int32), rv w6, rv b1851] [(.ref b1762)])) rfl (by rw [hml]; rfl) (rest := []) (W := 0) (lenOf pd_4 rfl) rfl (by show 2 * 0 + _ ≤ _; exact Nat.le_of_eq rfl) (hb hby at_196) (by decide) (by decide) (by decide) (by decide)
          obtain ⟨rfl, Nq1889, hh1890⟩ := hQ1889
          have N1889 := Fr.app N1880 Nq1889
          refine own_via (fun t k => st1889 t (XS.iloadN X1889.here hx rfl (hb hby at_199) rfl (XS.icmpNo X1889.here hx rfl (hb hby at_200) rfl (teq (by decide : (0 : Int32) = (0 : Int32))).2 (XS.iconst X1889.here hx rfl (hb hby at_203) (XS.goto X1889.here hx rfl (pc0 := 204) (pc' := 208) rfl (hb hby at_204) (by decide) (by decide) (XS.istore X1889.here hx rfl (hb hby at_208) rfl (l' := #[iv i0, iv (1 : Int32), iv (0 : Int32), iv (1 : Int32), iv (1 : Int32), rv b1762, iv (1 : Int32), rv w6, rv b1851]) rfl (XS.goto X1889.here hx rfl (pc0 := 210) (pc' := 269) rfl (hb hby at_210) (by decide) (by decide) (XS.iloadN X1889.here hx rfl (hb hby at_269) rfl (XS.ifNo X1889.here hx rfl (hb hby at_270) rfl ((if0 _ _).trans (feq (by decide : ¬ ((1 : Int32) = (0 : Int32)))).1) (XS.aload X1889.here hx rfl (hb hby at_273) rfl rfl (XS.sipush X1889.here hx rfl (hb hby at_275) (XS.sipush X1889.here hx rfl (hb hby at_278) k)))))))))))) ?_
          show own_Goes p e below (T1889.setTop (mkF m 281 #[iv i0, iv (1 : Int32), iv (0 : Int32), iv (1 : Int32), iv (1 : Int32), rv b1762, iv (1 : Int32), rv w6, rv b1851] [(.int (201 : Int32)), (.int (253 : Int32)), (.ref b1762)])) _
          have E1892 : Exa Z h1880 b1775 zs2 := ((E1867.keep K1843).keep K1880)
          have F1893 : Fld Z h1880 b1775 zs2 "wordsInUse" "I" (.int (0 : Int32)) := ((((fx1793.keep K1817 (ninS (Ne.symm N1811) nin0)).other W1841 (Or.inl N1832)).keep K1843 (ninS (Ne.symm N1811) nin0)).keep K1880 (ninS (Ne.symm N1811) nin0))
          have F1894 : Fld Z h1880 b1775 zs2 "words" "[J" (.ref b1776) := ((((fx1795.keep K1817 (ninS (Ne.symm N1811) nin0)).other W1841 (Or.inl N1832)).keep K1843 (ninS (Ne.symm N1811) nin0)).keep K1880 (ninS (Ne.symm N1811) nin0))
          have V1895 : Arv Z h1880 b1776 k1777 .long (4 : Int32) [] (.long (0 : Int64)) := ((V1869.keep K1843 (ninS (Ne.symm N1814) nin0)).keep K1880 (ninS (Ne.symm N1814) nin0))
          have l1896 : own_Len Z h1880 b1776 .long (4 : Int32) := ⟨_, _, _, V1895⟩
          have F1897 : Fld Z h1880 b1775 zs2 zs5 "Z" (.int (1 : Int32)) := ((((fx1794.keep K1817 (ninS (Ne.symm N1811) nin0)).other W1841 (Or.inl N1832)).keep K1843 (ninS (Ne.symm N1811) nin0)).keep K1880 (ninS (Ne.symm N1811) nin0))
          obtain ⟨_, T1891, _, X1891, hQ1891, st1891⟩ := own_cv X1889 hx hZ hown (wd hw 42 rfl) (wd hw 43 rfl) (wd hw 45 rfl) (wd hw 44 rfl) (wd hw 46 rfl) (wd hw 2 rfl) (by decide) (rm14 l Z a0 hw [] b1762 b1775 b1776 (1 : Int32) k1777 h1880 n0 O1888 fx1885 fx1884 fx1883 S_BitSet__assertionsDisabled E1892 F1893 F1894 l1896 g1812 F1897 V1895 nx1803 g1815) hh1890 ex1881 (g := (mkF m 281 #[iv i0, iv (1 : Int32), iv (0 : Int32), iv (1 : Int32), iv (1 : Int32), rv b1762, iv (1 : Int32), rv w6, rv b1851] [(.int (201 : Int32)), (.int (253 : Int32)), (.ref b1762)])) rfl (by rw [hml]; rfl) (rest := []) (W := 0) (lenOf pd_5 rfl) rfl (by show 2 * 0 + _ ≤ _; exact Nat.le_of_eq rfl) (hb hby at_281) (by decide) (by decide) (by decide) (by decide)
          obtain ⟨h1891, e1891⟩ : ∃ z, T1891.heap = z := ⟨_, rfl⟩
          rw [e1891] at hQ1891
          obtain ⟨b1898, k1899, rfl, Nq1891, K1891, ex1900, fx1901, fx1902, fx1903, vx1904, bx1905, vx1906⟩ := hQ1891
          have N1891 := Fr.app N1889 Nq1891
          have N1907 : b1762 ≠ b1898 := Nat.ne_of_lt (Nat.lt_of_lt_of_le ex1881.lt bx1905)
          have E1909 : Exa Z h1880 b1772 zs2 := ((E1863.keep K1843).keep K1880)
          have N1908 : b1772 ≠ b1898 := Nat.ne_of_lt (Nat.lt_of_lt_of_le E1909.lt bx1905)
          have V1911 : Arv Z h1880 b1773 k1774 .long (4 : Int32) [] (.long (0 : Int64)) := ((V1865.keep K1843 (ninS (Ne.symm N1808) nin0)).keep K1880 (ninS (Ne.symm N1808) nin0))
          have N1910 : b1773 ≠ b1898 := Nat.ne_of_lt (Nat.lt_of_lt_of_le V1911.lt bx1905)
          have N1912 : b1775 ≠ b1898 := Nat.ne_of_lt (Nat.lt_of_lt_of_le E1892.lt bx1905)
          have N1913 : b1776 ≠ b1898 := Nat.ne_of_lt (Nat.lt_of_lt_of_le V1895.lt bx1905)
          have V1915 : Arv Z h1880 b1819 k1820 .byte (3 : Int32) [(.int (-1 : Int32)), (.int (0 : Int32)), (.int (-55 : Int32))] (.int (0 : Int32)) := ((V1842.keep K1843 (ninS (Ne.symm N1829) nin0)).keep K1880 (ninS (Ne.symm N1829) nin0))
          have N1914 : b1819 ≠ b1898 := Nat.ne_of_lt (Nat.lt_of_lt_of_le V1915.lt bx1905)
          have V1917 : Arv Z h1880 b1851 k1852 .byte (3 : Int32) [(.int (-1 : Int32)), (.int (-5 : Int32)), (.int (-55 : Int32))] (.int (0 : Int32)) := (vx1860.keep K1880 (ninS (Ne.symm N1861) nin0))
          have N1916 : b1851 ≠ b1898 := Nat.ne_of_lt (Nat.lt_of_lt_of_le V1917.lt bx1905)
          have g1918 : n0 ≤ b1898 := Nat.le_trans (own_old O1888) bx1905
          have Z1920 : h0.size ≤ h1880.size := (Nat.le_trans (Nat.le_trans Z1873 K1843.1) K1880.1)
          have B1919 : h0.size ≤ b1898 := Nat.le_trans Z1920 bx1905
          refine own_via (fun t k => st1891 t (XS.astore X1891.here hx rfl (hb hby at_284) rfl rfl (l' := #[iv i0, iv (1 : Int32), iv (0 : Int32), iv (1 : Int32), iv (1 : Int32), rv b1762, iv (1 : Int32), rv w6, rv b1898]) rfl (XS.iloadN X1891.here hx rfl (hb hby at_286) rfl (XS.ifNo X1891.here hx rfl (hb hby at_287) rfl ((if0 _ _).trans (feq (by decide : ¬ ((1 : Int32) = (0 : Int32)))).1) (XS.iloadN X1891.here hx rfl (hb hby at_290) rfl (XS.ifYes X1891.here hx rfl (pc0 := 291) (pc' := 323) rfl (hb hby at_291) rfl ((if0 _ _).trans (teq (by decide : (0 : Int32) = (0 : Int32))).1) (by decide) (by decide) (XS.iloadN X1891.here hx rfl (hb hby at_323) rfl (XS.ifYes X1891.here hx rfl (pc0 := 324) (pc' := 360) rfl (hb hby at_324) rfl ((if0 _ _).trans (feq (by decide : ¬ ((1 : Int32) = (0 : Int32)))).2) (by decide) (by decide) (XS.iload X1891.here hx rfl (hb hby at_360) rfl (XS.ifNo X1891.here hx rfl (hb hby at_362) rfl ((if0 _ _).trans (feq (by decide : ¬ ((1 : Int32) = (0 : Int32)))).1) (XS.aload X1891.here hx rfl (hb hby at_365) rfl rfl (XS.sipush X1891.here hx rfl (hb hby at_367) k)))))))))))) ?_
          show own_Goes p e below (T1891.setTop (mkF m 370 #[iv i0, iv (1 : Int32), iv (0 : Int32), iv (1 : Int32), iv (1 : Int32), rv b1762, iv (1 : Int32), rv w6, rv b1898] [(.int (252 : Int32)), (.ref b1898)])) _
          have l1922 : own_Len Z h1891 b1898 .byte (3 : Int32) := ⟨_, _, _, vx1906⟩
          have O1923 : Old Z n0 h1891 := (O1888.keep K1891 (allS g1812 (allS g1815 all0)))
          obtain ⟨_, T1921, _, X1921, hQ1921, st1921⟩ := own_cs X1891 hx hZ hown (wd hw 60 rfl) (wd hw 61 rfl) (wd hw 63 rfl) (wd hw 62 rfl) (by decide) (rm15 l Z a0 hw [] b1898 k1899 h1891 n0 O1923 l1922 vx1906) e1891 (g := (mkF m 370 #[iv i0, iv (1 : Int32), iv (0 : Int32), iv (1 : Int32), iv (1 : Int32), rv b1762, iv (1 : Int32), rv w6, rv b1898] [(.int (252 : Int32)), (.ref b1898)])) rfl (by rw [hml]; rfl) (rest := []) (W := 0) (lenOf pd_7 rfl) rfl (by show 2 * 0 + _ ≤ _; exact Nat.le_of_eq rfl) (hb hby at_370) (by decide) (by decide) (by decide) (by decide)
          obtain ⟨rfl, Nq1921, hh1924⟩ := hQ1921
          have N1921 := Fr.app N1891 Nq1921
          refine own_via (fun t k => st1921 t (XS.ifNo X1921.here hx rfl (hb hby at_373) rfl ((if0 _ _).trans (feq (by decide : ¬ ((1 : Int32) = (0 : Int32)))).1) (XS.aload X1921.here hx rfl (hb hby at_376) rfl rfl k))) ?_
          show own_Goes p e below (T1921.setTop (mkF m 378 #[iv i0, iv (1 : Int32), iv (0 : Int32), iv (1 : Int32), iv (1 : Int32), rv b1762, iv (1 : Int32), rv w6, rv b1898] [(.ref b1762)])) _
          have F1926 : Fld Z h1891 b1762 zs1 "gmcpOn" "Z" (.int (0 : Int32)) := (fx1884.keep K1891 (ninS N1811 (ninS N1814 nin0)))
          have E1927 : Exa Z h1891 b1762 zs1 := (ex1881.keep K1891)
          obtain ⟨_, T1925, _, X1925, hQ1925, st1925⟩ := own_cv X1921 hx hZ hown (wd hw 35 rfl) (wd hw 36 rfl) (wd hw 38 rfl) (wd hw 37 rfl) (wd hw 39 rfl) (wd hw 2 rfl) (by decide) (rm5 l Z a0 hw [] b1762 h1891 n0 O1923 F1926) hh1924 E1927 (g := (mkF m 378 #[iv i0, iv (1 : Int32), iv (0 : Int32), iv (1 : Int32), iv (1 : Int32), rv b1762, iv (1 : Int32), rv w6, rv b1898] [(.ref b1762)])) rfl (by rw [hml]; rfl) (rest := []) (W := 0) (lenOf pd_4 rfl) rfl (by show 2 * 0 + _ ≤ _; exact Nat.le_of_eq rfl) (hb hby at_378) (by decide) (by decide) (by decide) (by decide)
          obtain ⟨rfl, Nq1925, hh1928⟩ := hQ1925
          have N1925 := Fr.app N1921 Nq1925
          refine own_via (fun t k => st1925 t (XS.ifNo X1925.here hx rfl (hb hby at_381) rfl ((if0 _ _).trans (teq (by decide : (0 : Int32) = (0 : Int32))).2) (XS.iconst X1925.here hx rfl (hb hby at_384) (XS.goto X1925.here hx rfl (pc0 := 385) (pc' := 389) rfl (hb hby at_385) (by decide) (by decide) (XS.istore X1925.here hx rfl (hb hby at_389) rfl (l' := #[iv i0, iv (1 : Int32), iv (0 : Int32), iv (1 : Int32), iv (1 : Int32), rv b1762, iv (1 : Int32), rv w6, rv b1898]) rfl (XS.iload X1925.here hx rfl (hb hby at_391) rfl k)))))) ?_
          show own_Goes p e below (T1925.setTop (mkF m 393 #[iv i0, iv (1 : Int32), iv (0 : Int32), iv (1 : Int32), iv (1 : Int32), rv b1762, iv (1 : Int32), rv w6, rv b1898] [(.int (1 : Int32))])) _
          obtain ⟨fs, hr, hrun, hended, hW, hsame⟩ := X1925.leave (v := some (.int (1 : Int32))) (fun h => by rw [Bd.returns] at h; cases h)
          refine own_end (t := T1925.setFrames fs) ?_ ⟨_, hrun, hended, _, _, rfl, ?_, ⟨_, rfl⟩, hW, hsame.mono (by decide) (by decide)⟩
          · exact retN X1925 hx (t := .boolean) Bd.returns (by simp) (hb hby at_393) hr
          · exact ⟨rfl, N1925⟩
    · refine own_via (fun t k => XS.ifNo X0.here hx rfl (hb hby at_15) rfl ((if0 _ _).trans (feq hc1237).1) (XS.iconst X0.here hx rfl (hb hby at_18) (XS.goto X0.here hx rfl (pc0 := 19) (pc' := 23) rfl (hb hby at_19) (by decide) (by decide) (XS.istoreN X0.here hx rfl (hb hby at_23) rfl (l' := #[iv i0, iv (1 : Int32), iv (1 : Int32), .unset, .unset, .unset, .unset, .unset, .unset]) rfl (XS.iloadN X0.here hx rfl (hb hby at_24) rfl (XS.iconst X0.here hx rfl (hb hby at_25) (XS.iand X0.here hx rfl (hb hby at_26) rfl k))))))) ?_
      show own_Goes p e below (s₁.setTop (mkF m 27 #[iv i0, iv (1 : Int32), iv (1 : Int32), .unset, .unset, .unset, .unset, .unset, .unset] [(.int (i0 &&& (4 : Int32)))])) _
      by_cases hc1929 : (i0 &&& (4 : Int32)) = (0 : Int32)
      · refine own_via (fun t k => XS.ifYes X0.here hx rfl (pc0 := 27) (pc' := 34) rfl (hb hby at_27) rfl ((if0 _ _).trans (teq hc1929).1) (by decide) (by decide) (XS.iconst X0.here hx rfl (hb hby at_34) (XS.istoreN X0.here hx rfl (hb hby at_35) rfl (l' := #[iv i0, iv (1 : Int32), iv (1 : Int32), iv (0 : Int32), .unset, .unset, .unset, .unset, .unset]) rfl (XS.iloadN X0.here hx rfl (hb hby at_36) rfl (XS.bipush X0.here hx rfl (hb hby at_37) (XS.iand X0.here hx rfl (hb hby at_39) rfl k)))))) ?_
        show own_Goes p e below (s₁.setTop (mkF m 40 #[iv i0, iv (1 : Int32), iv (1 : Int32), iv (0 : Int32), .unset, .unset, .unset, .unset, .unset] [(.int (i0 &&& (8 : Int32)))])) _
        by_cases hc1930 : (i0 &&& (8 : Int32)) = (0 : Int32)
        · refine own_via (fun t k => XS.ifYes X0.here hx rfl (pc0 := 40) (pc' := 47) rfl (hb hby at_40) rfl ((if0 _ _).trans (teq hc1930).1) (by decide) (by decide) (XS.iconst X0.here hx rfl (hb hby at_47) (XS.istore X0.here hx rfl (hb hby at_48) rfl (l' := #[iv i0, iv (1 : Int32), iv (1 : Int32), iv (0 : Int32), iv (0 : Int32), .unset, .unset, .unset, .unset]) rfl k))) ?_
          show own_Goes p e below (s₁.setTop (mkF m 50 #[iv i0, iv (1 : Int32), iv (1 : Int32), iv (0 : Int32), iv (0 : Int32), .unset, .unset, .unset, .unset] [])) _
          obtain ⟨T1931, h1931, X1931, e1931, E1931, A1931, D1931, -, st1931⟩ := newO X0 hx hZ hown (wd hw 0 rfl) (wd hw 1 rfl) (wd hw 2 rfl) e0 (g := (mkF m 50 #[iv i0, iv (1 : Int32), iv (1 : Int32), iv (0 : Int32), iv (0 : Int32), .unset, .unset, .unset, .unset] [])) rfl (hb hby at_50) (by decide) (by decide)
          obtain ⟨b1932, q1931⟩ : ∃ z, z = h0.size := ⟨_, rfl⟩
          rw [← q1931] at A1931 D1931 st1931
          refine own_via (fun t k => st1931 t k) ?_
          have g1933 : n0 ≤ b1932 := Nat.le_trans (own_old O0) (Nat.le_of_eq q1931.symm)
          have B1934 : h0.size ≤ b1932 := Nat.le_trans (Nat.le_refl _) (Nat.le_of_eq q1931.symm)
          have F1935 : Fld Z h1931 b1932 zs1 "refusedWill" zs3 .null := D1931 (Or.inr (wd hw 32 rfl)) (ty := (.object zs2)) (by decide)
          have F1936 : Fld Z h1931 b1932 zs1 "refusedDo" zs3 .null := D1931 (Or.inr (wd hw 34 rfl)) (ty := (.object zs2)) (by decide)
          have F1937 : Fld Z h1931 b1932 zs1 "gmcpOn" "Z" (.int (0 : Int32)) := D1931 (Or.inl (wd hw 41 rfl)) (ty := .boolean) (by decide)
          have F1938 : Fld Z h1931 b1932 zs1 "gmcpOffered" "Z" (.int (0 : Int32)) := D1931 (Or.inl (wd hw 48 rfl)) (ty := .boolean) (by decide)
          have F1939 : Fld Z h1931 b1932 zs1 "echoOffered" "Z" (.int (0 : Int32)) := D1931 (Or.inl (wd hw 95 rfl)) (ty := .boolean) (by decide)
          show own_Goes p e below (T1931.setTop (mkF m 53 #[iv i0, iv (1 : Int32), iv (1 : Int32), iv (0 : Int32), iv (0 : Int32), .unset, .unset, .unset, .unset] [(.ref b1932)])) _
          refine own_via (fun t k => XS.dup X1931.here hx rfl (hb hby at_53) rfl rfl k) ?_
          have O1941 : Old Z n0 h1931 := (O0.ext E1931)
          obtain ⟨_, T1940, _, X1940, hQ1940, st1940⟩ := own_ci X1931 hx hZ hown (wd hw 3 rfl) (wd hw 4 rfl) (wd hw 5 rfl) (wd hw 2 rfl) rfl (by decide) (rm4 l Z a0 hw [] b1932 (0 : Int32) (0 : Int32) (0 : Int32) h1931 n0 O1941 F1935 A1931 g1933 F1936 F1937 F1938 F1939) e1931 (g := (mkF m 54 #[iv i0, iv (1 : Int32), iv (1 : Int32), iv (0 : Int32), iv (0 : Int32), .unset, .unset, .unset, .unset] [(.ref b1932), (.ref b1932)])) rfl (by rw [hml]; rfl) (rest := [(.ref b1932)]) (W := 1) (lenOf pd_3 rfl) rfl (by show 2 * 0 + _ ≤ _; exact Nat.le_of_eq rfl) (hb hby at_54) (by decide) (by decide) (by decide) (by decide)
          obtain ⟨h1940, e1940⟩ : ∃ z, T1940.heap = z := ⟨_, rfl⟩
          rw [e1940] at hQ1940
          obtain ⟨b1942, b1943, k1944, b1945, b1946, k1947, rfl, Nq1940, K1940, ex1948, fx1949, fx1950, fx1951, fx1952, fx1953, bx1954, ex1955, fx1956, fx1957, fx1958, bx1959, vx1960, bx1961, ex1962, fx1963, fx1964, fx1965, bx1966, vx1967, nx1968, nx1969, nx1970, nx1971, nx1972, nx1973⟩ := hQ1940
          have N1940 := Fr.app N0 Nq1940
          have N1974 : b1932 ≠ b1942 := Nat.ne_of_lt (Nat.lt_of_lt_of_le A1931.lt bx1954)
          have g1975 : n0 ≤ b1942 := Nat.le_trans (own_old O1941) bx1954
          have Z1977 : h0.size ≤ h1931.size := (Nat.le_trans (Nat.le_refl _) E1931.1)
          have B1976 : h0.size ≤ b1942 := Nat.le_trans Z1977 bx1954
          have N1978 : b1932 ≠ b1943 := Nat.ne_of_lt (Nat.lt_of_lt_of_le A1931.lt bx1959)
          have g1979 : n0 ≤ b1943 := Nat.le_trans (own_old O1941) bx1959
          have B1980 : h0.size ≤ b1943 := Nat.le_trans Z1977 bx1959
          have N1981 : b1932 ≠ b1945 := Nat.ne_of_lt (Nat.lt_of_lt_of_le A1931.lt bx1961)
          have g1982 : n0 ≤ b1945 := Nat.le_trans (own_old O1941) bx1961
          have B1983 : h0.size ≤ b1945 := Nat.le_trans Z1977 bx1961
          have N1984 : b1932 ≠ b1946 := Nat.ne_of_lt (Nat.lt_of_lt_of_le A1931.lt bx1966)
          have g1985 : n0 ≤ b1946 := Nat.le_trans (own_old O1941) bx1966
          have B1986 : h0.size ≤ b1946 := Nat.le_trans Z1977 bx1966
          refine own_via (fun t k => st1940 t (XS.astore X1940.here hx rfl (hb hby at_57) rfl rfl (l' := #[iv i0, iv (1 : Int32), iv (1 : Int32), iv (0 : Int32), iv (0 : Int32), rv b1932, .unset, .unset, .unset]) rfl (XS.iconst X1940.here hx rfl (hb hby at_59) (XS.istore X1940.here hx rfl (hb hby at_60) rfl (l' := #[iv i0, iv (1 : Int32), iv (1 : Int32), iv (0 : Int32), iv (0 : Int32), rv b1932, iv (1 : Int32), .unset, .unset]) rfl (XS.iloadN X1940.here hx rfl (hb hby at_62) rfl (XS.ifNo X1940.here hx rfl (hb hby at_63) rfl ((if0 _ _).trans (feq (by decide : ¬ ((1 : Int32) = (0 : Int32)))).1) (XS.aload X1940.here hx rfl (hb hby at_66) rfl rfl k))))))) ?_
          show own_Goes p e below (T1940.setTop (mkF m 68 #[iv i0, iv (1 : Int32), iv (1 : Int32), iv (0 : Int32), iv (0 : Int32), rv b1932, iv (1 : Int32), .unset, .unset] [(.ref b1932)])) _
          have O1988 : Old Z n0 h1940 := (O1941.keep K1940 (allS g1933 all0))
          obtain ⟨_, T1987, _, X1987, hQ1987, st1987⟩ := own_cv X1940 hx hZ hown (wd hw 51 rfl) (wd hw 52 rfl) (wd hw 54 rfl) (wd hw 53 rfl) (wd hw 55 rfl) (wd hw 2 rfl) (by decide) (rm19 l Z a0 hw [] b1932 (0 : Int32) b1942 b1945 (0 : Int32) (0 : Int32) h1940 n0 O1988 fx1952 ex1948 g1933 fx1949 fx1950 fx1951 fx1953) e1940 ex1948 (g := (mkF m 68 #[iv i0, iv (1 : Int32), iv (1 : Int32), iv (0 : Int32), iv (0 : Int32), rv b1932, iv (1 : Int32), .unset, .unset] [(.ref b1932)])) rfl (by rw [hml]; rfl) (rest := []) (W := 0) (lenOf pd_8 rfl) rfl (by show 2 * 0 + _ ≤ _; exact Nat.le_of_eq rfl) (hb hby at_68) (by decide) (by decide) (by decide) (by decide)
          obtain ⟨h1987, e1987⟩ : ∃ z, T1987.heap = z := ⟨_, rfl⟩
          rw [e1987] at hQ1987
          obtain ⟨b1989, k1990, rfl, Nq1987, K1987, ex1991, fx1992, fx1993, fx1994, fx1995, fx1996, bx1997, vx1998⟩ := hQ1987
          have N1987 := Fr.app N1940 Nq1987
          have N1999 : b1932 ≠ b1989 := Nat.ne_of_lt (Nat.lt_of_lt_of_le ex1948.lt bx1997)
          have N2000 : b1942 ≠ b1989 := Nat.ne_of_lt (Nat.lt_of_lt_of_le ex1955.lt bx1997)
          have N2001 : b1943 ≠ b1989 := Nat.ne_of_lt (Nat.lt_of_lt_of_le vx1960.lt bx1997)
          have N2002 : b1945 ≠ b1989 := Nat.ne_of_lt (Nat.lt_of_lt_of_le ex1962.lt bx1997)
          have N2003 : b1946 ≠ b1989 := Nat.ne_of_lt (Nat.lt_of_lt_of_le vx1967.lt bx1997)
          have g2004 : n0 ≤ b1989 := Nat.le_trans (own_old O1988) bx1997
          have Z2006 : h0.size ≤ h1940.size := (Nat.le_trans Z1977 K1940.1)
          have B2005 : h0.size ≤ b1989 := Nat.le_trans Z2006 bx1997
          refine own_via (fun t k => st1987 t (XS.astore X1987.here hx rfl (hb hby at_71) rfl rfl (l' := #[iv i0, iv (1 : Int32), iv (1 : Int32), iv (0 : Int32), iv (0 : Int32), rv b1932, iv (1 : Int32), rv b1989, .unset]) rfl (XS.iload X1987.here hx rfl (hb hby at_73) rfl (XS.ifNo X1987.here hx rfl (hb hby at_75) rfl ((if0 _ _).trans (feq (by decide : ¬ ((1 : Int32) = (0 : Int32)))).1) (XS.aload X1987.here hx rfl (hb hby at_78) rfl rfl (XS.sipush X1987.here hx rfl (hb hby at_80) k)))))) ?_
          show own_Goes p e below (T1987.setTop (mkF m 83 #[iv i0, iv (1 : Int32), iv (1 : Int32), iv (0 : Int32), iv (0 : Int32), rv b1932, iv (1 : Int32), rv b1989, .unset] [(.int (251 : Int32)), (.ref b1989)])) _
          have l2008 : own_Len Z h1987 b1989 .byte (3 : Int32) := ⟨_, _, _, vx1998⟩
          have O2009 : Old Z n0 h1987 := (O1988.keep K1987 (allS g1933 all0))
          obtain ⟨_, T2007, _, X2007, hQ2007, st2007⟩ := own_cs X1987 hx hZ hown (wd hw 60 rfl) (wd hw 61 rfl) (wd hw 63 rfl) (wd hw 62 rfl) (by decide) (rm20 l Z a0 hw [] b1989 k1990 h1987 n0 O2009 l2008 vx1998) e1987 (g := (mkF m 83 #[iv i0, iv (1 : Int32), iv (1 : Int32), iv (0 : Int32), iv (0 : Int32), rv b1932, iv (1 : Int32), rv b1989, .unset] [(.int (251 : Int32)), (.ref b1989)])) rfl (by rw [hml]; rfl) (rest := []) (W := 0) (lenOf pd_7 rfl) rfl (by show 2 * 0 + _ ≤ _; exact Nat.le_of_eq rfl) (hb hby at_83) (by decide) (by decide) (by decide) (by decide)
          obtain ⟨rfl, Nq2007, hh2010⟩ := hQ2007
          have N2007 := Fr.app N1987 Nq2007
          refine own_via (fun t k => st2007 t (XS.ifNo X2007.here hx rfl (hb hby at_86) rfl ((if0 _ _).trans (feq (by decide : ¬ ((1 : Int32) = (0 : Int32)))).1) (XS.iconst X2007.here hx rfl (hb hby at_89) (XS.goto X2007.here hx rfl (pc0 := 90) (pc' := 94) rfl (hb hby at_90) (by decide) (by decide) (XS.istore X2007.here hx rfl (hb hby at_94) rfl (l' := #[iv i0, iv (1 : Int32), iv (1 : Int32), iv (0 : Int32), iv (0 : Int32), rv b1932, iv (1 : Int32), rv b1989, .unset]) rfl (XS.iload X2007.here hx rfl (hb hby at_96) rfl (XS.ifYes X2007.here hx rfl (pc0 := 98) (pc' := 136) rfl (hb hby at_98) rfl ((if0 _ _).trans (teq (by decide : (0 : Int32) = (0 : Int32))).1) (by decide) (by decide) (XS.iload X2007.here hx rfl (hb hby at_136) rfl (XS.ifNo X2007.here hx rfl (hb hby at_138) rfl ((if0 _ _).trans (feq (by decide : ¬ ((1 : Int32) = (0 : Int32)))).1) (XS.aload X2007.here hx rfl (hb hby at_141) rfl rfl k)))))))))) ?_
          show own_Goes p e below (T2007.setTop (mkF m 143 #[iv i0, iv (1 : Int32), iv (1 : Int32), iv (0 : Int32), iv (0 : Int32), rv b1932, iv (1 : Int32), rv b1989, .unset] [(.ref b1932)])) _
          obtain ⟨_, T2011, _, X2011, hQ2011, st2011⟩ := own_cv X2007 hx hZ hown (wd hw 35 rfl) (wd hw 36 rfl) (wd hw 38 rfl) (wd hw 37 rfl) (wd hw 39 rfl) (wd hw 2 rfl) (by decide) (rm5 l Z a0 hw [] b1932 h1987 n0 O2009 fx1994) hh2010 ex1991 (g := (mkF m 143 #[iv i0, iv (1 : Int32), iv (1 : Int32), iv (0 : Int32), iv (0 : Int32), rv b1932, iv (1 : Int32), rv b1989, .unset] [(.ref b1932)])) rfl (by rw [hml]; rfl) (rest := []) (W := 0) (lenOf pd_4 rfl) rfl (by show 2 * 0 + _ ≤ _; exact Nat.le_of_eq rfl) (hb hby at_143) (by decide) (by decide) (by decide) (by decide)
          obtain ⟨rfl, Nq2011, hh2012⟩ := hQ2011
          have N2011 := Fr.app N2007 Nq2011
          refine own_via (fun t k => st2011 t (XS.ifNo X2011.here hx rfl (hb hby at_146) rfl ((if0 _ _).trans (teq (by decide : (0 : Int32) = (0 : Int32))).2) (XS.iconst X2011.here hx rfl (hb hby at_149) (XS.goto X2011.here hx rfl (pc0 := 150) (pc' := 154) rfl (hb hby at_150) (by decide) (by decide) (XS.istore X2011.here hx rfl (hb hby at_154) rfl (l' := #[iv i0, iv (1 : Int32), iv (1 : Int32), iv (0 : Int32), iv (0 : Int32), rv b1932, iv (1 : Int32), rv b1989, .unset]) rfl (XS.aload X2011.here hx rfl (hb hby at_156) rfl rfl (XS.iloadN X2011.here hx rfl (hb hby at_158) rfl (XS.ifNo X2011.here hx rfl (hb hby at_159) rfl ((if0 _ _).trans (feq (by decide : ¬ ((1 : Int32) = (0 : Int32)))).1) (XS.sipush X2011.here hx rfl (hb hby at_162) (XS.goto X2011.here hx rfl (pc0 := 165) (pc' := 171) rfl (hb hby at_165) (by decide) (by decide) (XS.sipush X2011.here hx rfl (hb hby at_171) k))))))))))) ?_
          show own_Goes p e below (T2011.setTop (mkF m 174 #[iv i0, iv (1 : Int32), iv (1 : Int32), iv (0 : Int32), iv (0 : Int32), rv b1932, iv (1 : Int32), rv b1989, .unset] [(.int (201 : Int32)), (.int (253 : Int32)), (.ref b1932)])) _
          obtain ⟨_, T2013, _, X2013, hQ2013, st2013⟩ := own_cv X2011 hx hZ hown (wd hw 42 rfl) (wd hw 43 rfl) (wd hw 45 rfl) (wd hw 44 rfl) (wd hw 46 rfl) (wd hw 2 rfl) (by decide) (rm24 l Z a0 hw [] b1932 w6 b1942 b1945 (0 : Int32) h1987 n0 O2009 fx1995 fx1994 ex1991 g1933 S_TelnetOptions_NO_ANSWER fx1992 fx1993 fx1996) hh2012 ex1991 (g := (mkF m 174 #[iv i0, iv (1 : Int32), iv (1 : Int32), iv (0 : Int32), iv (0 : Int32), rv b1932, iv (1 : Int32), rv b1989, .unset] [(.int (201 : Int32)), (.int (253 : Int32)), (.ref b1932)])) rfl (by rw [hml]; rfl) (rest := []) (W := 0) (lenOf pd_5 rfl) rfl (by show 2 * 0 + _ ≤ _; exact Nat.le_of_eq rfl) (hb hby at_174) (by decide) (by decide) (by decide) (by decide)
          obtain ⟨h2013, e2013⟩ : ∃ z, T2013.heap = z := ⟨_, rfl⟩
          rw [e2013] at hQ2013
          obtain ⟨rfl, Nq2013, K2013, ex2083, fx2084, fx2085, fx2086, fx2087, fx2088⟩ := hQ2013
          have N2013 := Fr.app N2011 Nq2013
          refine own_via (fun t k => st2013 t (XS.astore X2013.here hx rfl (hb hby at_177) rfl rfl (l' := #[iv i0, iv (1 : Int32), iv (1 : Int32), iv (0 : Int32), iv (0 : Int32), rv b1932, iv (1 : Int32), rv w6, .unset]) rfl (XS.iloadN X2013.here hx rfl (hb hby at_179) rfl (XS.ifNo X2013.here hx rfl (hb hby at_180) rfl ((if0 _ _).trans (feq (by decide : ¬ ((1 : Int32) = (0 : Int32)))).1) (XS.iload X2013.here hx rfl (hb hby at_183) rfl (XS.ifNo X2013.here hx rfl (hb hby at_185) rfl ((if0 _ _).trans (feq (by decide : ¬ ((1 : Int32) = (0 : Int32)))).1) (XS.aload X2013.here hx rfl (hb hby at_188) rfl rfl k))))))) ?_
          show own_Goes p e below (T2013.setTop (mkF m 190 #[iv i0, iv (1 : Int32), iv (1 : Int32), iv (0 : Int32), iv (0 : Int32), rv b1932, iv (1 : Int32), rv w6, .unset] [(.ref w6)])) _
          have O2090 : Old Z n0 h2013 := (O2009.keep K2013 (allS g1933 all0))
          obtain ⟨cl2089, Ar2089, -, S2089, M2089, -, -⟩ := id ((SV_w6.ext O2090.2))
          refine own_via (fun t k => X2013.arraylength hx (by rw [e2013]; exact Ar2089.1) (State.isArrayOf_alike hZ.alike Ar2089.2.1) (g := (mkF m 190 #[iv i0, iv (1 : Int32), iv (1 : Int32), iv (0 : Int32), iv (0 : Int32), rv b1932, iv (1 : Int32), rv w6, .unset] [(.ref w6)])) rfl rfl (hb hby at_190) t k) ?_
          rw [len_of S2089 M2089]
          show own_Goes p e below (T2013.setTop (mkF m 191 #[iv i0, iv (1 : Int32), iv (1 : Int32), iv (0 : Int32), iv (0 : Int32), rv b1932, iv (1 : Int32), rv w6, .unset] [(.int (0 : Int32))])) _
          refine own_via (fun t k => XS.ifNo X2013.here hx rfl (hb hby at_191) rfl ((if0 _ _).trans (teq (by decide : (0 : Int32) = (0 : Int32))).2) (XS.aload X2013.here hx rfl (hb hby at_194) rfl rfl k)) ?_
          obtain ⟨_, T2091, _, X2091, hQ2091, st2091⟩ := own_cv X2013 hx hZ hown (wd hw 35 rfl) (wd hw 36 rfl) (wd hw 38 rfl) (wd hw 37 rfl) (wd hw 39 rfl) (wd hw 2 rfl) (by decide) (rm25 l Z a0 hw [] b1932 h2013 n0 O2090 fx2086) e2013 ex2083 (g := (mkF m 196 #[iv i0, iv (1 : Int32), iv (1 : Int32), iv (0 : Int32), iv (0 : Int32), rv b1932, iv (1 : Int32), rv w6, .unset] [(.ref b1932)])) rfl (by rw [hml]; rfl) (rest := []) (W := 0) (lenOf pd_4 rfl) rfl (by show 2 * 0 + _ ≤ _; exact Nat.le_of_eq rfl) (hb hby at_196) (by decide) (by decide) (by decide) (by decide)
          obtain ⟨rfl, Nq2091, hh2118⟩ := hQ2091
          have N2091 := Fr.app N2013 Nq2091
          refine own_via (fun t k => st2091 t (XS.iloadN X2091.here hx rfl (hb hby at_199) rfl (XS.icmpNo X2091.here hx rfl (hb hby at_200) rfl (teq (by decide : (1 : Int32) = (1 : Int32))).2 (XS.iconst X2091.here hx rfl (hb hby at_203) (XS.goto X2091.here hx rfl (pc0 := 204) (pc' := 208) rfl (hb hby at_204) (by decide) (by decide) (XS.istore X2091.here hx rfl (hb hby at_208) rfl (l' := #[iv i0, iv (1 : Int32), iv (1 : Int32), iv (0 : Int32), iv (0 : Int32), rv b1932, iv (1 : Int32), rv w6, .unset]) rfl (XS.goto X2091.here hx rfl (pc0 := 210) (pc' := 269) rfl (hb hby at_210) (by decide) (by decide) (XS.iloadN X2091.here hx rfl (hb hby at_269) rfl (XS.ifYes X2091.here hx rfl (pc0 := 270) (pc' := 391) rfl (hb hby at_270) rfl ((if0 _ _).trans (teq (by decide : (0 : Int32) = (0 : Int32))).1) (by decide) (by decide) (XS.iload X2091.here hx rfl (hb hby at_391) rfl k)))))))))) ?_
          show own_Goes p e below (T2091.setTop (mkF m 393 #[iv i0, iv (1 : Int32), iv (1 : Int32), iv (0 : Int32), iv (0 : Int32), rv b1932, iv (1 : Int32), rv w6, .unset] [(.int (1 : Int32))])) _
          obtain ⟨fs, hr, hrun, hended, hW, hsame⟩ := X2091.leave (v := some (.int (1 : Int32))) (fun h => by rw [Bd.returns] at h; cases h)
          refine own_end (t := T2091.setFrames fs) ?_ ⟨_, hrun, hended, _, _, rfl, ?_, ⟨_, rfl⟩, hW, hsame.mono (by decide) (by decide)⟩
          · exact retN X2091 hx (t := .boolean) Bd.returns (by simp) (hb hby at_393) hr
          · exact ⟨rfl, N2091⟩
        · refine own_via (fun t k => XS.ifNo X0.here hx rfl (hb hby at_40) rfl ((if0 _ _).trans (feq hc1930).1) (XS.iconst X0.here hx rfl (hb hby at_43) (XS.goto X0.here hx rfl (pc0 := 44) (pc' := 48) rfl (hb hby at_44) (by decide) (by decide) (XS.istore X0.here hx rfl (hb hby at_48) rfl (l' := #[iv i0, iv (1 : Int32), iv (1 : Int32), iv (0 : Int32), iv (1 : Int32), .unset, .unset, .unset, .unset]) rfl k)))) ?_
          show own_Goes p e below (s₁.setTop (mkF m 50 #[iv i0, iv (1 : Int32), iv (1 : Int32), iv (0 : Int32), iv (1 : Int32), .unset, .unset, .unset, .unset] [])) _
          obtain ⟨T2119, h2119, X2119, e2119, E2119, A2119, D2119, -, st2119⟩ := newO X0 hx hZ hown (wd hw 0 rfl) (wd hw 1 rfl) (wd hw 2 rfl) e0 (g := (mkF m 50 #[iv i0, iv (1 : Int32), iv (1 : Int32), iv (0 : Int32), iv (1 : Int32), .unset, .unset, .unset, .unset] [])) rfl (hb hby at_50) (by decide) (by decide)
          obtain ⟨b2120, q2119⟩ : ∃ z, z = h0.size := ⟨_, rfl⟩
          rw [← q2119] at A2119 D2119 st2119
          refine own_via (fun t k => st2119 t k) ?_
          have g2121 : n0 ≤ b2120 := Nat.le_trans (own_old O0) (Nat.le_of_eq q2119.symm)
          have B2122 : h0.size ≤ b2120 := Nat.le_trans (Nat.le_refl _) (Nat.le_of_eq q2119.symm)
          have F2123 : Fld Z h2119 b2120 zs1 "refusedWill" zs3 .null := D2119 (Or.inr (wd hw 32 rfl)) (ty := (.object zs2)) (by decide)
          have F2124 : Fld Z h2119 b2120 zs1 "refusedDo" zs3 .null := D2119 (Or.inr (wd hw 34 rfl)) (ty := (.object zs2)) (by decide)
          have F2125 : Fld Z h2119 b2120 zs1 "gmcpOn" "Z" (.int (0 : Int32)) := D2119 (Or.inl (wd hw 41 rfl)) (ty := .boolean) (by decide)
          have F2126 : Fld Z h2119 b2120 zs1 "gmcpOffered" "Z" (.int (0 : Int32)) := D2119 (Or.inl (wd hw 48 rfl)) (ty := .boolean) (by decide)
          have F2127 : Fld Z h2119 b2120 zs1 "echoOffered" "Z" (.int (0 : Int32)) := D2119 (Or.inl (wd hw 95 rfl)) (ty := .boolean) (by decide)
          show own_Goes p e below (T2119.setTop (mkF m 53 #[iv i0, iv (1 : Int32), iv (1 : Int32), iv (0 : Int32), iv (1 : Int32), .unset, .unset, .unset, .unset] [(.ref b2120)])) _
          refine own_via (fun t k => XS.dup X2119.here hx rfl (hb hby at_53) rfl rfl k) ?_
          have O2129 : Old Z n0 h2119 := (O0.ext E2119)
          obtain ⟨_, T2128, _, X2128, hQ2128, st2128⟩ := own_ci X2119 hx hZ hown (wd hw 3 rfl) (wd hw 4 rfl) (wd hw 5 rfl) (wd hw 2 rfl) rfl (by decide) (rm4 l Z a0 hw [] b2120 (0 : Int32) (0 : Int32) (0 : Int32) h2119 n0 O2129 F2123 A2119 g2121 F2124 F2125 F2126 F2127) e2119 (g := (mkF m 54 #[iv i0, iv (1 : Int32), iv (1 : Int32), iv (0 : Int32), iv (1 : Int32), .unset, .unset, .unset, .unset] [(.ref b2120), (.ref b2120)])) rfl (by rw [hml]; rfl) (rest := [(.ref b2120)]) (W := 1) (lenOf pd_3 rfl) rfl (by show 2 * 0 + _ ≤ _; exact Nat.le_of_eq rfl) (hb hby at_54) (by decide) (by decide) (by decide) (by decide)
          obtain ⟨h2128, e2128⟩ : ∃ z, T2128.heap = z := ⟨_, rfl⟩
          rw [e2128] at hQ2128
          obtain ⟨b2130, b2131, k2132, b2133, b2134, k2135, rfl, Nq2128, K2128, ex2136, fx2137, fx2138, fx2139, fx2140, fx2141, bx2142, ex2143, fx2144, fx2145, fx2146, bx2147, vx2148, bx2149, ex2150, fx2151, fx2152, fx2153, bx2154, vx2155, nx2156, nx2157, nx2158, nx2159, nx2160, nx2161⟩ := hQ2128
          have N2128 := Fr.app N0 Nq2128
          have N2162 : b2120 ≠ b2130 := Nat.ne_of_lt (Nat.lt_of_lt_of_le A2119.lt bx2142)
          have g2163 : n0 ≤ b2130 := Nat.le_trans (own_old O2129) bx2142
          have Z2165 : h0.size ≤ h2119.size := (Nat.le_trans (Nat.le_refl _) E2119.1)
          have B2164 : h0.size ≤ b2130 := Nat.le_trans Z2165 bx2142
          have N2166 : b2120 ≠ b2131 := Nat.ne_of_lt (Nat.lt_of_lt_of_le A2119.lt bx2147)
          have g2167 : n0 ≤ b2131 := Nat.le_trans (own_old O2129) bx2147
          have B2168 : h0.size ≤ b2131 := Nat.le_trans Z2165 bx2147
          have N2169 : b2120 ≠ b2133 := Nat.ne_of_lt (Nat.lt_of_lt_of_le A2119.lt bx2149)
          have g2170 : n0 ≤ b2133 := Nat.le_trans (own_old O2129) bx2149
          have B2171 : h0.size ≤ b2133 := Nat.le_trans Z2165 bx2149
          have N2172 : b2120 ≠ b2134 := Nat.ne_of_lt (Nat.lt_of_lt_of_le A2119.lt bx2154)
          have g2173 : n0 ≤ b2134 := Nat.le_trans (own_old O2129) bx2154
          have B2174 : h0.size ≤ b2134 := Nat.le_trans Z2165 bx2154
          refine own_via (fun t k => st2128 t (XS.astore X2128.here hx rfl (hb hby at_57) rfl rfl (l' := #[iv i0, iv (1 : Int32), iv (1 : Int32), iv (0 : Int32), iv (1 : Int32), rv b2120, .unset, .unset, .unset]) rfl (XS.iconst X2128.here hx rfl (hb hby at_59) (XS.istore X2128.here hx rfl (hb hby at_60) rfl (l' := #[iv i0, iv (1 : Int32), iv (1 : Int32), iv (0 : Int32), iv (1 : Int32), rv b2120, iv (1 : Int32), .unset, .unset]) rfl (XS.iloadN X2128.here hx rfl (hb hby at_62) rfl (XS.ifNo X2128.here hx rfl (hb hby at_63) rfl ((if0 _ _).trans (feq (by decide : ¬ ((1 : Int32) = (0 : Int32)))).1) (XS.aload X2128.here hx rfl (hb hby at_66) rfl rfl k))))))) ?_
          show own_Goes p e below (T2128.setTop (mkF m 68 #[iv i0, iv (1 : Int32), iv (1 : Int32), iv (0 : Int32), iv (1 : Int32), rv b2120, iv (1 : Int32), .unset, .unset] [(.ref b2120)])) _
          have O2176 : Old Z n0 h2128 := (O2129.keep K2128 (allS g2121 all0))
          obtain ⟨_, T2175, _, X2175, hQ2175, st2175⟩ := own_cv X2128 hx hZ hown (wd hw 51 rfl) (wd hw 52 rfl) (wd hw 54 rfl) (wd hw 53 rfl) (wd hw 55 rfl) (wd hw 2 rfl) (by decide) (rm19 l Z a0 hw [] b2120 (0 : Int32) b2130 b2133 (0 : Int32) (0 : Int32) h2128 n0 O2176 fx2140 ex2136 g2121 fx2137 fx2138 fx2139 fx2141) e2128 ex2136 (g := (mkF m 68 #[iv i0, iv (1 : Int32), iv (1 : Int32), iv (0 : Int32), iv (1 : Int32), rv b2120, iv (1 : Int32), .unset, .unset] [(.ref b2120)])) rfl (by rw [hml]; rfl) (rest := []) (W := 0) (lenOf pd_8 rfl) rfl (by show 2 * 0 + _ ≤ _; exact Nat.le_of_eq rfl) (hb hby at_68) (by decide) (by decide) (by decide) (by decide)
          obtain ⟨h2175, e2175⟩ : ∃ z, T2175.heap = z := ⟨_, rfl⟩
          rw [e2175] at hQ2175
          obtain ⟨b2177, k2178, rfl, Nq2175, K2175, ex2179, fx2180, fx2181, fx2182, fx2183, fx2184, bx2185, vx2186⟩ := hQ2175
          have N2175 := Fr.app N2128 Nq2175
          have N2187 : b2120 ≠ b2177 := Nat.ne_of_lt (Nat.lt_of_lt_of_le ex2136.lt bx2185)
          have N2188 : b2130 ≠ b2177 := Nat.ne_of_lt (Nat.lt_of_lt_of_le ex2143.lt bx2185)
          have N2189 : b2131 ≠ b2177 := Nat.ne_of_lt (Nat.lt_of_lt_of_le vx2148.lt bx2185)
          have N2190 : b2133 ≠ b2177 := Nat.ne_of_lt (Nat.lt_of_lt_of_le ex2150.lt bx2185)
          have N2191 : b2134 ≠ b2177 := Nat.ne_of_lt (Nat.lt_of_lt_of_le vx2155.lt bx2185)
          have g2192 : n0 ≤ b2177 := Nat.le_trans (own_old O2176) bx2185
          have Z2194 : h0.size ≤ h2128.size := (Nat.le_trans Z2165 K2128.1)
          have B2193 : h0.size ≤ b2177 := Nat.le_trans Z2194 bx2185
          refine own_via (fun t k => st2175 t (XS.astore X2175.here hx rfl (hb hby at_71) rfl rfl (l' := #[iv i0, iv (1 : Int32), iv (1 : Int32), iv (0 : Int32), iv (1 : Int32), rv b2120, iv (1 : Int32), rv b2177, .unset]) rfl (XS.iload X2175.here hx rfl (hb hby at_73) rfl (XS.ifNo X2175.here hx rfl (hb hby at_75) rfl ((if0 _ _).trans (feq (by decide : ¬ ((1 : Int32) = (0 : Int32)))).1) (XS.aload X2175.here hx rfl (hb hby at_78) rfl rfl (XS.sipush X2175.here hx rfl (hb hby at_80) k)))))) ?_
          show own_Goes p e below (T2175.setTop (mkF m 83 #[iv i0, iv (1 : Int32), iv (1 : Int32), iv (0 : Int32), iv (1 : Int32), rv b2120, iv (1 : Int32), rv b2177, .unset] [(.int (251 : Int32)), (.ref b2177)])) _
          have l2196 : own_Len Z h2175 b2177 .byte (3 : Int32) := ⟨_, _, _, vx2186⟩
          have O2197 : Old Z n0 h2175 := (O2176.keep K2175 (allS g2121 all0))
          obtain ⟨_, T2195, _, X2195, hQ2195, st2195⟩ := own_cs X2175 hx hZ hown (wd hw 60 rfl) (wd hw 61 rfl) (wd hw 63 rfl) (wd hw 62 rfl) (by decide) (rm20 l Z a0 hw [] b2177 k2178 h2175 n0 O2197 l2196 vx2186) e2175 (g := (mkF m 83 #[iv i0, iv (1 : Int32), iv (1 : Int32), iv (0 : Int32), iv (1 : Int32), rv b2120, iv (1 : Int32), rv b2177, .unset] [(.int (251 : Int32)), (.ref b2177)])) rfl (by rw [hml]; rfl) (rest := []) (W := 0) (lenOf pd_7 rfl) rfl (by show 2 * 0 + _ ≤ _; exact Nat.le_of_eq rfl) (hb hby at_83) (by decide) (by decide) (by decide) (by decide)
          obtain ⟨rfl, Nq2195, hh2198⟩ := hQ2195
          have N2195 := Fr.app N2175 Nq2195
          refine own_via (fun t k => st2195 t (XS.ifNo X2195.here hx rfl (hb hby at_86) rfl ((if0 _ _).trans (feq (by decide : ¬ ((1 : Int32) = (0 : Int32)))).1) (XS.iconst X2195.here hx rfl (hb hby at_89) (XS.goto X2195.here hx rfl (pc0 := 90) (pc' := 94) rfl (hb hby at_90) (by decide) (by decide) (XS.istore X2195.here hx rfl (hb hby at_94) rfl (l' := #[iv i0, iv (1 : Int32), iv (1 : Int32), iv (0 : Int32), iv (1 : Int32), rv b2120, iv (1 : Int32), rv b2177, .unset]) rfl (XS.iload X2195.here hx rfl (hb hby at_96) rfl (XS.ifNo X2195.here hx rfl (hb hby at_98) rfl ((if0 _ _).trans (feq (by decide : ¬ ((1 : Int32) = (0 : Int32)))).1) (XS.aload X2195.here hx rfl (hb hby at_101) rfl rfl (XS.iconst X2195.here hx rfl (hb hby at_103) (XS.iconst X2195.here hx rfl (hb hby at_104) k)))))))))) ?_
          show own_Goes p e below (T2195.setTop (mkF m 105 #[iv i0, iv (1 : Int32), iv (1 : Int32), iv (0 : Int32), iv (1 : Int32), rv b2120, iv (1 : Int32), rv b2177, .unset] [(.int (0 : Int32)), (.int (1 : Int32)), (.ref b2177)])) _
          obtain ⟨cl2199, Ar2199, qq2199, S2199, M2199, H2199, G2199⟩ := id (vx2186)
          have hin2199 : ¬ ((1 : Int32) < 0 ∨ cl2199.slots.size ≤ ((1 : Int32)).toNatClampNeg) := inb_of S2199 ⟨by decide, by decide⟩
          obtain ⟨T2199, h2199, X2199, e2199, W2199, st2199⟩ := stB X2195 hx hZ hh2198 Ar2199 (j := (1 : Int32)) hin2199 (g := (mkF m 105 #[iv i0, iv (1 : Int32), iv (1 : Int32), iv (0 : Int32), iv (1 : Int32), rv b2120, iv (1 : Int32), rv b2177, .unset] [(.int (0 : Int32)), (.int (1 : Int32)), (.ref b2177)])) rfl rfl (hb hby at_105)
          refine own_via (fun t k => st2199 t k) ?_
          have V2200 : Arv Z h2199 b2177 k2178 .byte (3 : Int32) [(.int (-1 : Int32)), (.int (0 : Int32)), (.int (-55 : Int32))] (.int (0 : Int32)) := Arv.set Ar2199 qq2199 S2199 M2199 H2199 G2199 (by decide) W2199 1 rfl (Nat.le_of_ble_eq_true rfl)
          have N2199 := Fr.snoc X2199 N2195 g2192
          show own_Goes p e below (T2199.setTop (mkF m 106 #[iv i0, iv (1 : Int32), iv (1 : Int32), iv (0 : Int32), iv (1 : Int32), rv b2120, iv (1 : Int32), rv b2177, .unset] [])) _
          refine own_via (fun t k => XS.aload X2199.here hx rfl (hb hby at_106) rfl rfl k) ?_
          have F2202 : Fld Z h2199 b2120 zs1 "gmcpOffered" "Z" (.int (1 : Int32)) := (fx2183.other W2199 (Or.inl N2187))
          have E2203 : Exa Z h2199 b2120 zs1 := (ex2179.wr W2199)
          have F2204 : Fld Z h2199 b2120 zs1 "refusedWill" zs3 (.ref b2130) := (fx2180.other W2199 (Or.inl N2187))
          have F2205 : Fld Z h2199 b2120 zs1 "refusedDo" zs3 (.ref b2133) := (fx2181.other W2199 (Or.inl N2187))
          have F2206 : Fld Z h2199 b2120 zs1 "gmcpOn" "Z" (.int (0 : Int32)) := (fx2182.other W2199 (Or.inl N2187))
          have F2207 : Fld Z h2199 b2120 zs1 "echoOffered" "Z" (.int (0 : Int32)) := (fx2184.other W2199 (Or.inl N2187))
          have O2208 : Old Z n0 h2199 := (O2197.wr W2199 g2192)
          obtain ⟨_, T2201, _, X2201, hQ2201, st2201⟩ := own_cv X2199 hx hZ hown (wd hw 51 rfl) (wd hw 52 rfl) (wd hw 54 rfl) (wd hw 53 rfl) (wd hw 55 rfl) (wd hw 2 rfl) (by decide) (rm19 l Z a0 hw [] b2120 (1 : Int32) b2130 b2133 (0 : Int32) (0 : Int32) h2199 n0 O2208 F2202 E2203 g2121 F2204 F2205 F2206 F2207) e2199 E2203 (g := (mkF m 108 #[iv i0, iv (1 : Int32), iv (1 : Int32), iv (0 : Int32), iv (1 : Int32), rv b2120, iv (1 : Int32), rv b2177, .unset] [(.ref b2120)])) rfl (by rw [hml]; rfl) (rest := []) (W := 0) (lenOf pd_8 rfl) rfl (by show 2 * 0 + _ ≤ _; exact Nat.le_of_eq rfl) (hb hby at_108) (by decide) (by decide) (by decide) (by decide)
          obtain ⟨h2201, e2201⟩ : ∃ z, T2201.heap = z := ⟨_, rfl⟩
          rw [e2201] at hQ2201
          obtain ⟨b2209, k2210, rfl, Nq2201, K2201, ex2211, fx2212, fx2213, fx2214, fx2215, fx2216, bx2217, vx2218⟩ := hQ2201
          have N2201 := Fr.app N2199 Nq2201
          have N2219 : b2120 ≠ b2209 := Nat.ne_of_lt (Nat.lt_of_lt_of_le E2203.lt bx2217)
          have E2221 : Exa Z h2199 b2130 zs2 := ((ex2143.keep K2175).wr W2199)
          have N2220 : b2130 ≠ b2209 := Nat.ne_of_lt (Nat.lt_of_lt_of_le E2221.lt bx2217)
          have V2223 : Arv Z h2199 b2131 k2132 .long (4 : Int32) [] (.long (0 : Int64)) := ((vx2148.keep K2175 (ninS (Ne.symm N2166) nin0)).other W2199 N2189)
          have N2222 : b2131 ≠ b2209 := Nat.ne_of_lt (Nat.lt_of_lt_of_le V2223.lt bx2217)
          have E2225 : Exa Z h2199 b2133 zs2 := ((ex2150.keep K2175).wr W2199)
          have N2224 : b2133 ≠ b2209 := Nat.ne_of_lt (Nat.lt_of_lt_of_le E2225.lt bx2217)
          have V2227 : Arv Z h2199 b2134 k2135 .long (4 : Int32) [] (.long (0 : Int64)) := ((vx2155.keep K2175 (ninS (Ne.symm N2172) nin0)).other W2199 N2191)
          have N2226 : b2134 ≠ b2209 := Nat.ne_of_lt (Nat.lt_of_lt_of_le V2227.lt bx2217)
          have N2228 : b2177 ≠ b2209 := Nat.ne_of_lt (Nat.lt_of_lt_of_le V2200.lt bx2217)
          have g2229 : n0 ≤ b2209 := Nat.le_trans (own_old O2208) bx2217
          have Z2231 : h0.size ≤ h2199.size := (Nat.le_trans (Nat.le_trans Z2194 K2175.1) (Nat.le_of_eq W2199.size.symm))
          have B2230 : h0.size ≤ b2209 := Nat.le_trans Z2231 bx2217
          refine own_via (fun t k => st2201 t (XS.astore X2201.here hx rfl (hb hby at_111) rfl rfl (l' := #[iv i0, iv (1 : Int32), iv (1 : Int32), iv (0 : Int32), iv (1 : Int32), rv b2120, iv (1 : Int32), rv b2177, rv b2209]) rfl (XS.iload X2201.here hx rfl (hb hby at_113) rfl (XS.ifNo X2201.here hx rfl (hb hby at_115) rfl ((if0 _ _).trans (feq (by decide : ¬ ((1 : Int32) = (0 : Int32)))).1) (XS.aload X2201.here hx rfl (hb hby at_118) rfl rfl (XS.sipush X2201.here hx rfl (hb hby at_120) k)))))) ?_
          show own_Goes p e below (T2201.setTop (mkF m 123 #[iv i0, iv (1 : Int32), iv (1 : Int32), iv (0 : Int32), iv (1 : Int32), rv b2120, iv (1 : Int32), rv b2177, rv b2209] [(.int (251 : Int32)), (.ref b2209)])) _
          have l2233 : own_Len Z h2201 b2209 .byte (3 : Int32) := ⟨_, _, _, vx2218⟩
          have O2234 : Old Z n0 h2201 := (O2208.keep K2201 (allS g2121 all0))
          obtain ⟨_, T2232, _, X2232, hQ2232, st2232⟩ := own_cs X2201 hx hZ hown (wd hw 60 rfl) (wd hw 61 rfl) (wd hw 63 rfl) (wd hw 62 rfl) (by decide) (rm20 l Z a0 hw [] b2209 k2210 h2201 n0 O2234 l2233 vx2218) e2201 (g := (mkF m 123 #[iv i0, iv (1 : Int32), iv (1 : Int32), iv (0 : Int32), iv (1 : Int32), rv b2120, iv (1 : Int32), rv b2177, rv b2209] [(.int (251 : Int32)), (.ref b2209)])) rfl (by rw [hml]; rfl) (rest := []) (W := 0) (lenOf pd_7 rfl) rfl (by show 2 * 0 + _ ≤ _; exact Nat.le_of_eq rfl) (hb hby at_123) (by decide) (by decide) (by decide) (by decide)
          obtain ⟨rfl, Nq2232, hh2235⟩ := hQ2232
          have N2232 := Fr.app N2201 Nq2232
          refine own_via (fun t k => st2232 t (XS.ifNo X2232.here hx rfl (hb hby at_126) rfl ((if0 _ _).trans (feq (by decide : ¬ ((1 : Int32) = (0 : Int32)))).1) (XS.iconst X2232.here hx rfl (hb hby at_129) (XS.goto X2232.here hx rfl (pc0 := 130) (pc' := 134) rfl (hb hby at_130) (by decide) (by decide) (XS.istore X2232.here hx rfl (hb hby at_134) rfl (l' := #[iv i0, iv (1 : Int32), iv (1 : Int32), iv (0 : Int32), iv (1 : Int32), rv b2120, iv (1 : Int32), rv b2177, rv b2209]) rfl (XS.iload X2232.here hx rfl (hb hby at_136) rfl (XS.ifNo X2232.here hx rfl (hb hby at_138) rfl ((if0 _ _).trans (feq (by decide : ¬ ((1 : Int32) = (0 : Int32)))).1) (XS.aload X2232.here hx rfl (hb hby at_141) rfl rfl k)))))))) ?_
          show own_Goes p e below (T2232.setTop (mkF m 143 #[iv i0, iv (1 : Int32), iv (1 : Int32), iv (0 : Int32), iv (1 : Int32), rv b2120, iv (1 : Int32), rv b2177, rv b2209] [(.ref b2120)])) _
          obtain ⟨_, T2236, _, X2236, hQ2236, st2236⟩ := own_cv X2232 hx hZ hown (wd hw 35 rfl) (wd hw 36 rfl) (wd hw 38 rfl) (wd hw 37 rfl) (wd hw 39 rfl) (wd hw 2 rfl) (by decide) (rm5 l Z a0 hw [] b2120 h2201 n0 O2234 fx2214) hh2235 ex2211 (g := (mkF m 143 #[iv i0, iv (1 : Int32), iv (1 : Int32), iv (0 : Int32), iv (1 : Int32), rv b2120, iv (1 : Int32), rv b2177, rv b2209] [(.ref b2120)])) rfl (by rw [hml]; rfl) (rest := []) (W := 0) (lenOf pd_4 rfl) rfl (by show 2 * 0 + _ ≤ _; exact Nat.le_of_eq rfl) (hb hby at_143) (by decide) (by decide) (by decide) (by decide)
          obtain ⟨rfl, Nq2236, hh2237⟩ := hQ2236
          have N2236 := Fr.app N2232 Nq2236
          refine own_via (fun t k => st2236 t (XS.ifNo X2236.here hx rfl (hb hby at_146) rfl ((if0 _ _).trans (teq (by decide : (0 : Int32) = (0 : Int32))).2) (XS.iconst X2236.here hx rfl (hb hby at_149) (XS.goto X2236.here hx rfl (pc0 := 150) (pc' := 154) rfl (hb hby at_150) (by decide) (by decide) (XS.istore X2236.here hx rfl (hb hby at_154) rfl (l' := #[iv i0, iv (1 : Int32), iv (1 : Int32), iv (0 : Int32), iv (1 : Int32), rv b2120, iv (1 : Int32), rv b2177, rv b2209]) rfl (XS.aload X2236.here hx rfl (hb hby at_156) rfl rfl (XS.iloadN X2236.here hx rfl (hb hby at_158) rfl (XS.ifNo X2236.here hx rfl (hb hby at_159) rfl ((if0 _ _).trans (feq (by decide : ¬ ((1 : Int32) = (0 : Int32)))).1) (XS.sipush X2236.here hx rfl (hb hby at_162) (XS.goto X2236.here hx rfl (pc0 := 165) (pc' := 171) rfl (hb hby at_165) (by decide) (by decide) (XS.sipush X2236.here hx rfl (hb hby at_171) k))))))))))) ?_
          show own_Goes p e below (T2236.setTop (mkF m 174 #[iv i0, iv (1 : Int32), iv (1 : Int32), iv (0 : Int32), iv (1 : Int32), rv b2120, iv (1 : Int32), rv b2177, rv b2209] [(.int (201 : Int32)), (.int (253 : Int32)), (.ref b2120)])) _
          obtain ⟨_, T2238, _, X2238, hQ2238, st2238⟩ := own_cv X2236 hx hZ hown (wd hw 42 rfl) (wd hw 43 rfl) (wd hw 45 rfl) (wd hw 44 rfl) (wd hw 46 rfl) (wd hw 2 rfl) (by decide) (rm24 l Z a0 hw [] b2120 w6 b2130 b2133 (0 : Int32) h2201 n0 O2234 fx2215 fx2214 ex2211 g2121 S_TelnetOptions_NO_ANSWER fx2212 fx2213 fx2216) hh2237 ex2211 (g := (mkF m 174 #[iv i0, iv (1 : Int32), iv (1 : Int32), iv (0 : Int32), iv (1 : Int32), rv b2120, iv (1 : Int32), rv b2177, rv b2209] [(.int (201 : Int32)), (.int (253 : Int32)), (.ref b2120)])) rfl (by rw [hml]; rfl) (rest := []) (W := 0) (lenOf pd_5 rfl) rfl (by show 2 * 0 + _ ≤ _; exact Nat.le_of_eq rfl) (hb hby at_174) (by decide) (by decide) (by decide) (by decide)
          obtain ⟨h2238, e2238⟩ : ∃ z, T2238.heap = z := ⟨_, rfl⟩
          rw [e2238] at hQ2238
          obtain ⟨rfl, Nq2238, K2238, ex2239, fx2240, fx2241, fx2242, fx2243, fx2244⟩ := hQ2238
          have N2238 := Fr.app N2236 Nq2238
          refine own_via (fun t k => st2238 t (XS.astore X2238.here hx rfl (hb hby at_177) rfl rfl (l' := #[iv i0, iv (1 : Int32), iv (1 : Int32), iv (0 : Int32), iv (1 : Int32), rv b2120, iv (1 : Int32), rv w6, rv b2209]) rfl (XS.iloadN X2238.here hx rfl (hb hby at_179) rfl (XS.ifNo X2238.here hx rfl (hb hby at_180) rfl ((if0 _ _).trans (feq (by decide : ¬ ((1 : Int32) = (0 : Int32)))).1) (XS.iload X2238.here hx rfl (hb hby at_183) rfl (XS.ifNo X2238.here hx rfl (hb hby at_185) rfl ((if0 _ _).trans (feq (by decide : ¬ ((1 : Int32) = (0 : Int32)))).1) (XS.aload X2238.here hx rfl (hb hby at_188) rfl rfl k))))))) ?_
          show own_Goes p e below (T2238.setTop (mkF m 190 #[iv i0, iv (1 : Int32), iv (1 : Int32), iv (0 : Int32), iv (1 : Int32), rv b2120, iv (1 : Int32), rv w6, rv b2209] [(.ref w6)])) _
          have O2246 : Old Z n0 h2238 := (O2234.keep K2238 (allS g2121 all0))
          obtain ⟨cl2245, Ar2245, -, S2245, M2245, -, -⟩ := id ((SV_w6.ext O2246.2))
          refine own_via (fun t k => X2238.arraylength hx (by rw [e2238]; exact Ar2245.1) (State.isArrayOf_alike hZ.alike Ar2245.2.1) (g := (mkF m 190 #[iv i0, iv (1 : Int32), iv (1 : Int32), iv (0 : Int32), iv (1 : Int32), rv b2120, iv (1 : Int32), rv w6, rv b2209] [(.ref w6)])) rfl rfl (hb hby at_190) t k) ?_
          rw [len_of S2245 M2245]
          show own_Goes p e below (T2238.setTop (mkF m 191 #[iv i0, iv (1 : Int32), iv (1 : Int32), iv (0 : Int32), iv (1 : Int32), rv b2120, iv (1 : Int32), rv w6, rv b2209] [(.int (0 : Int32))])) _
          refine own_via (fun t k => XS.ifNo X2238.here hx rfl (hb hby at_191) rfl ((if0 _ _).trans (teq (by decide : (0 : Int32) = (0 : Int32))).2) (XS.aload X2238.here hx rfl (hb hby at_194) rfl rfl k)) ?_
          obtain ⟨_, T2247, _, X2247, hQ2247, st2247⟩ := own_cv X2238 hx hZ hown (wd hw 35 rfl) (wd hw 36 rfl) (wd hw 38 rfl) (wd hw 37 rfl) (wd hw 39 rfl) (wd hw 2 rfl) (by decide) (rm25 l Z a0 hw [] b2120 h2238 n0 O2246 fx2242) e2238 ex2239 (g := (mkF m 196 #[iv i0, iv (1 : Int32), iv (1 : Int32), iv (0 : Int32), iv (1 : Int32), rv b2120, iv (1 : Int32), rv w6, rv b2209] [(.ref b2120)])) rfl (by rw [hml]; rfl) (rest := []) (W := 0) (lenOf pd_4 rfl) rfl (by show 2 * 0 + _ ≤ _; exact Nat.le_of_eq rfl) (hb hby at_196) (by decide) (by decide) (by decide) (by decide)
          obtain ⟨rfl, Nq2247, hh2248⟩ := hQ2247
          have N2247 := Fr.app N2238 Nq2247
          refine own_via (fun t k => st2247 t (XS.iloadN X2247.here hx rfl (hb hby at_199) rfl (XS.icmpNo X2247.here hx rfl (hb hby at_200) rfl (teq (by decide : (1 : Int32) = (1 : Int32))).2 (XS.iconst X2247.here hx rfl (hb hby at_203) (XS.goto X2247.here hx rfl (pc0 := 204) (pc' := 208) rfl (hb hby at_204) (by decide) (by decide) (XS.istore X2247.here hx rfl (hb hby at_208) rfl (l' := #[iv i0, iv (1 : Int32), iv (1 : Int32), iv (0 : Int32), iv (1 : Int32), rv b2120, iv (1 : Int32), rv w6, rv b2209]) rfl (XS.goto X2247.here hx rfl (pc0 := 210) (pc' := 269) rfl (hb hby at_210) (by decide) (by decide) (XS.iloadN X2247.here hx rfl (hb hby at_269) rfl (XS.ifYes X2247.here hx rfl (pc0 := 270) (pc' := 391) rfl (hb hby at_270) rfl ((if0 _ _).trans (teq (by decide : (0 : Int32) = (0 : Int32))).1) (by decide) (by decide) (XS.iload X2247.here hx rfl (hb hby at_391) rfl k)))))))))) ?_
          show own_Goes p e below (T2247.setTop (mkF m 393 #[iv i0, iv (1 : Int32), iv (1 : Int32), iv (0 : Int32), iv (1 : Int32), rv b2120, iv (1 : Int32), rv w6, rv b2209] [(.int (1 : Int32))])) _
          obtain ⟨fs, hr, hrun, hended, hW, hsame⟩ := X2247.leave (v := some (.int (1 : Int32))) (fun h => by rw [Bd.returns] at h; cases h)
          refine own_end (t := T2247.setFrames fs) ?_ ⟨_, hrun, hended, _, _, rfl, ?_, ⟨_, rfl⟩, hW, hsame.mono (by decide) (by decide)⟩
          · exact retN X2247 hx (t := .boolean) Bd.returns (by simp) (hb hby at_393) hr
          · exact ⟨rfl, N2247⟩
      · refine own_via (fun t k => XS.ifNo X0.here hx rfl (hb hby at_27) rfl ((if0 _ _).trans (feq hc1929).1) (XS.iconst X0.here hx rfl (hb hby at_30) (XS.goto X0.here hx rfl (pc0 := 31) (pc' := 35) rfl (hb hby at_31) (by decide) (by decide) (XS.istoreN X0.here hx rfl (hb hby at_35) rfl (l' := #[iv i0, iv (1 : Int32), iv (1 : Int32), iv (1 : Int32), .unset, .unset, .unset, .unset, .unset]) rfl (XS.iloadN X0.here hx rfl (hb hby at_36) rfl (XS.bipush X0.here hx rfl (hb hby at_37) (XS.iand X0.here hx rfl (hb hby at_39) rfl k))))))) ?_
        show own_Goes p e below (s₁.setTop (mkF m 40 #[iv i0, iv (1 : Int32), iv (1 : Int32), iv (1 : Int32), .unset, .unset, .unset, .unset, .unset] [(.int (i0 &&& (8 : Int32)))])) _
        by_cases hc2249 : (i0 &&& (8 : Int32)) = (0 : Int32)
        · refine own_via (fun t k => XS.ifYes X0.here hx rfl (pc0 := 40) (pc' := 47) rfl (hb hby at_40) rfl ((if0 _ _).trans (teq hc2249).1) (by decide) (by decide) (XS.iconst X0.here hx rfl (hb hby at_47) (XS.istore X0.here hx rfl (hb hby at_48) rfl (l' := #[iv i0, iv (1 : Int32), iv (1 : Int32), iv (1 : Int32), iv (0 : Int32), .unset, .unset, .unset, .unset]) rfl k))) ?_
          show own_Goes p e below (s₁.setTop (mkF m 50 #[iv i0, iv (1 : Int32), iv (1 : Int32), iv (1 : Int32), iv (0 : Int32), .unset, .unset, .unset, .unset] [])) _
          obtain ⟨T2250, h2250, X2250, e2250, E2250, A2250, D2250, -, st2250⟩ := newO X0 hx hZ hown (wd hw 0 rfl) (wd hw 1 rfl) (wd hw 2 rfl) e0 (g := (mkF m 50 #[iv i0, iv (1 : Int32), iv (1 : Int32), iv (1 : Int32), iv (0 : Int32), .unset, .unset, .unset, .unset] [])) rfl (hb hby at_50) (by decide) (by decide)
          obtain ⟨b2251, q2250⟩ : ∃ z, z = h0.size := ⟨_, rfl⟩
          rw [← q2250] at A2250 D2250 st2250
          refine own_via (fun t k => st2250 t k) ?_
          have g2252 : n0 ≤ b2251 := Nat.le_trans (own_old O0) (Nat.le_of_eq q2250.symm)
          have B2253 : h0.size ≤ b2251 := Nat.le_trans (Nat.le_refl _) (Nat.le_of_eq q2250.symm)
          have F2254 : Fld Z h2250 b2251 zs1 "refusedWill" zs3 .null := D2250 (Or.inr (wd hw 32 rfl)) (ty := (.object zs2)) (by decide)
          have F2255 : Fld Z h2250 b2251 zs1 "refusedDo" zs3 .null := D2250 (Or.inr (wd hw 34 rfl)) (ty := (.object zs2)) (by decide)
          have F2256 : Fld Z h2250 b2251 zs1 "gmcpOn" "Z" (.int (0 : Int32)) := D2250 (Or.inl (wd hw 41 rfl)) (ty := .boolean) (by decide)
          have F2257 : Fld Z h2250 b2251 zs1 "gmcpOffered" "Z" (.int (0 : Int32)) := D2250 (Or.inl (wd hw 48 rfl)) (ty := .boolean) (by decide)
          have F2258 : Fld Z h2250 b2251 zs1 "echoOffered" "Z" (.int (0 : Int32)) := D2250 (Or.inl (wd hw 95 rfl)) (ty := .boolean) (by decide)
          show own_Goes p e below (T2250.setTop (mkF m 53 #[iv i0, iv (1 : Int32), iv (1 : Int32), iv (1 : Int32), iv (0 : Int32), .unset, .unset, .unset, .unset] [(.ref b2251)])) _
          refine own_via (fun t k => XS.dup X2250.here hx rfl (hb hby at_53) rfl rfl k) ?_
          have O2260 : Old Z n0 h2250 := (O0.ext E2250)
          obtain ⟨_, T2259, _, X2259, hQ2259, st2259⟩ := own_ci X2250 hx hZ hown (wd hw 3 rfl) (wd hw 4 rfl) (wd hw 5 rfl) (wd hw 2 rfl) rfl (by decide) (rm4 l Z a0 hw [] b2251 (0 : Int32) (0 : Int32) (0 : Int32) h2250 n0 O2260 F2254 A2250 g2252 F2255 F2256 F2257 F2258) e2250 (g := (mkF m 54 #[iv i0, iv (1 : Int32), iv (1 : Int32), iv (1 : Int32), iv (0 : Int32), .unset, .unset, .unset, .unset] [(.ref b2251), (.ref b2251)])) rfl (by rw [hml]; rfl) (rest := [(.ref b2251)]) (W := 1) (lenOf pd_3 rfl) rfl (by show 2 * 0 + _ ≤ _; exact Nat.le_of_eq rfl) (hb hby at_54) (by decide) (by decide) (by decide) (by decide)
          obtain ⟨h2259, e2259⟩ : ∃ z, T2259.heap = z := ⟨_, rfl⟩
          rw [e2259] at hQ2259
          obtain ⟨b2261, b2262, k2263, b2264, b2265, k2266, rfl, Nq2259, K2259, ex2267, fx2268, fx2269, fx2270, fx2271, fx2272, bx2273, ex2274, fx2275, fx2276, fx2277, bx2278, vx2279, bx2280, ex2281, fx2282, fx2283, fx2284, bx2285, vx2286, nx2287, nx2288, nx2289, nx2290, nx2291, nx2292⟩ := hQ2259
          have N2259 := Fr.app N0 Nq2259
          have N2293 : b2251 ≠ b2261 := Nat.ne_of_lt (Nat.lt_of_lt_of_le A2250.lt bx2273)
          have g2294 : n0 ≤ b2261 := Nat.le_trans (own_old O2260) bx2273
          have Z2296 : h0.size ≤ h2250.size := (Nat.le_trans (Nat.le_refl _) E2250.1)
          have B2295 : h0.size ≤ b2261 := Nat.le_trans Z2296 bx2273
          have N2297 : b2251 ≠ b2262 := Nat.ne_of_lt (Nat.lt_of_lt_of_le A2250.lt bx2278)
          have g2298 : n0 ≤ b2262 := Nat.le_trans (own_old O2260) bx2278
          have B2299 : h0.size ≤ b2262 := Nat.le_trans Z2296 bx2278
          have N2300 : b2251 ≠ b2264 := Nat.ne_of_lt (Nat.lt_of_lt_of_le A2250.lt bx2280)
          have g2301 : n0 ≤ b2264 := Nat.le_trans (own_old O2260) bx2280
          have B2302 : h0.size ≤ b2264 := Nat.le_trans Z2296 bx2280
          have N2303 : b2251 ≠ b2265 := Nat.ne_of_lt (Nat.lt_of_lt_of_le A2250.lt bx2285)
          have g2304 : n0 ≤ b2265 := Nat.le_trans (own_old O2260) bx2285
          have B2305 : h0.size ≤ b2265 := Nat.le_trans Z2296 bx2285
          refine own_via (fun t k => st2259 t (XS.astore X2259.here hx rfl (hb hby at_57) rfl rfl (l' := #[iv i0, iv (1 : Int32), iv (1 : Int32), iv (1 : Int32), iv (0 : Int32), rv b2251, .unset, .unset, .unset]) rfl (XS.iconst X2259.here hx rfl (hb hby at_59) (XS.istore X2259.here hx rfl (hb hby at_60) rfl (l' := #[iv i0, iv (1 : Int32), iv (1 : Int32), iv (1 : Int32), iv (0 : Int32), rv b2251, iv (1 : Int32), .unset, .unset]) rfl (XS.iloadN X2259.here hx rfl (hb hby at_62) rfl (XS.ifNo X2259.here hx rfl (hb hby at_63) rfl ((if0 _ _).trans (feq (by decide : ¬ ((1 : Int32) = (0 : Int32)))).1) (XS.aload X2259.here hx rfl (hb hby at_66) rfl rfl k))))))) ?_
          show own_Goes p e below (T2259.setTop (mkF m 68 #[iv i0, iv (1 : Int32), iv (1 : Int32), iv (1 : Int32), iv (0 : Int32), rv b2251, iv (1 : Int32), .unset, .unset] [(.ref b2251)])) _
          have O2307 : Old Z n0 h2259 := (O2260.keep K2259 (allS g2252 all0))
          obtain ⟨_, T2306, _, X2306, hQ2306, st2306⟩ := own_cv X2259 hx hZ hown (wd hw 51 rfl) (wd hw 52 rfl) (wd hw 54 rfl) (wd hw 53 rfl) (wd hw 55 rfl) (wd hw 2 rfl) (by decide) (rm19 l Z a0 hw [] b2251 (0 : Int32) b2261 b2264 (0 : Int32) (0 : Int32) h2259 n0 O2307 fx2271 ex2267 g2252 fx2268 fx2269 fx2270 fx2272) e2259 ex2267 (g := (mkF m 68 #[iv i0, iv (1 : Int32), iv (1 : Int32), iv (1 : Int32), iv (0 : Int32), rv b2251, iv (1 : Int32), .unset, .unset] [(.ref b2251)])) rfl (by rw [hml]; rfl) (rest := []) (W := 0) (lenOf pd_8 rfl) rfl (by show 2 * 0 + _ ≤ _; exact Nat.le_of_eq rfl) (hb hby at_68) (by decide) (by decide) (by decide) (by decide)
          obtain ⟨h2306, e2306⟩ : ∃ z, T2306.heap = z := ⟨_, rfl⟩
          rw [e2306] at hQ2306
          obtain ⟨b2308, k2309, rfl, Nq2306, K2306, ex2310, fx2311, fx2312, fx2313, fx2314, fx2315, bx2316, vx2317⟩ := hQ2306
          have N2306 := Fr.app N2259 Nq2306
          have N2318 : b2251 ≠ b2308 := Nat.ne_of_lt (Nat.lt_of_lt_of_le ex2267.lt bx2316)
          have N2319 : b2261 ≠ b2308 := Nat.ne_of_lt (Nat.lt_of_lt_of_le ex2274.lt bx2316)
          have N2320 : b2262 ≠ b2308 := Nat.ne_of_lt (Nat.lt_of_lt_of_le vx2279.lt bx2316)
          have N2321 : b2264 ≠ b2308 := Nat.ne_of_lt (Nat.lt_of_lt_of_le ex2281.lt bx2316)
          have N2322 : b2265 ≠ b2308 := Nat.ne_of_lt (Nat.lt_of_lt_of_le vx2286.lt bx2316)
          have g2323 : n0 ≤ b2308 := Nat.le_trans (own_old O2307) bx2316
          have Z2325 : h0.size ≤ h2259.size := (Nat.le_trans Z2296 K2259.1)
          have B2324 : h0.size ≤ b2308 := Nat.le_trans Z2325 bx2316
          refine own_via (fun t k => st2306 t (XS.astore X2306.here hx rfl (hb hby at_71) rfl rfl (l' := #[iv i0, iv (1 : Int32), iv (1 : Int32), iv (1 : Int32), iv (0 : Int32), rv b2251, iv (1 : Int32), rv b2308, .unset]) rfl (XS.iload X2306.here hx rfl (hb hby at_73) rfl (XS.ifNo X2306.here hx rfl (hb hby at_75) rfl ((if0 _ _).trans (feq (by decide : ¬ ((1 : Int32) = (0 : Int32)))).1) (XS.aload X2306.here hx rfl (hb hby at_78) rfl rfl (XS.sipush X2306.here hx rfl (hb hby at_80) k)))))) ?_
          show own_Goes p e below (T2306.setTop (mkF m 83 #[iv i0, iv (1 : Int32), iv (1 : Int32), iv (1 : Int32), iv (0 : Int32), rv b2251, iv (1 : Int32), rv b2308, .unset] [(.int (251 : Int32)), (.ref b2308)])) _
          have l2327 : own_Len Z h2306 b2308 .byte (3 : Int32) := ⟨_, _, _, vx2317⟩
          have O2328 : Old Z n0 h2306 := (O2307.keep K2306 (allS g2252 all0))
          obtain ⟨_, T2326, _, X2326, hQ2326, st2326⟩ := own_cs X2306 hx hZ hown (wd hw 60 rfl) (wd hw 61 rfl) (wd hw 63 rfl) (wd hw 62 rfl) (by decide) (rm20 l Z a0 hw [] b2308 k2309 h2306 n0 O2328 l2327 vx2317) e2306 (g := (mkF m 83 #[iv i0, iv (1 : Int32), iv (1 : Int32), iv (1 : Int32), iv (0 : Int32), rv b2251, iv (1 : Int32), rv b2308, .unset] [(.int (251 : Int32)), (.ref b2308)])) rfl (by rw [hml]; rfl) (rest := []) (W := 0) (lenOf pd_7 rfl) rfl (by show 2 * 0 + _ ≤ _; exact Nat.le_of_eq rfl) (hb hby at_83) (by decide) (by decide) (by decide) (by decide)
          obtain ⟨rfl, Nq2326, hh2329⟩ := hQ2326
          have N2326 := Fr.app N2306 Nq2326
          refine own_via (fun t k => st2326 t (XS.ifNo X2326.here hx rfl (hb hby at_86) rfl ((if0 _ _).trans (feq (by decide : ¬ ((1 : Int32) = (0 : Int32)))).1) (XS.iconst X2326.here hx rfl (hb hby at_89) (XS.goto X2326.here hx rfl (pc0 := 90) (pc' := 94) rfl (hb hby at_90) (by decide) (by decide) (XS.istore X2326.here hx rfl (hb hby at_94) rfl (l' := #[iv i0, iv (1 : Int32), iv (1 : Int32), iv (1 : Int32), iv (0 : Int32), rv b2251, iv (1 : Int32), rv b2308, .unset]) rfl (XS.iload X2326.here hx rfl (hb hby at_96) rfl (XS.ifYes X2326.here hx rfl (pc0 := 98) (pc' := 136) rfl (hb hby at_98) rfl ((if0 _ _).trans (teq (by decide : (0 : Int32) = (0 : Int32))).1) (by decide) (by decide) (XS.iload X2326.here hx rfl (hb hby at_136) rfl (XS.ifNo X2326.here hx rfl (hb hby at_138) rfl ((if0 _ _).trans (feq (by decide : ¬ ((1 : Int32) = (0 : Int32)))).1) (XS.aload X2326.here hx rfl (hb hby at_141) rfl rfl k)))))))))) ?_
          show own_Goes p e below (T2326.setTop (mkF m 143 #[iv i0, iv (1 : Int32), iv (1 : Int32), iv (1 : Int32), iv (0 : Int32), rv b2251, iv (1 : Int32), rv b2308, .unset] [(.ref b2251)])) _
          obtain ⟨_, T2330, _, X2330, hQ2330, st2330⟩ := own_cv X2326 hx hZ hown (wd hw 35 rfl) (wd hw 36 rfl) (wd hw 38 rfl) (wd hw 37 rfl) (wd hw 39 rfl) (wd hw 2 rfl) (by decide) (rm5 l Z a0 hw [] b2251 h2306 n0 O2328 fx2313) hh2329 ex2310 (g := (mkF m 143 #[iv i0, iv (1 : Int32), iv (1 : Int32), iv (1 : Int32), iv (0 : Int32), rv b2251, iv (1 : Int32), rv b2308, .unset] [(.ref b2251)])) rfl (by rw [hml]; rfl) (rest := []) (W := 0) (lenOf pd_4 rfl) rfl (by show 2 * 0 + _ ≤ _; exact Nat.le_of_eq rfl) (hb hby at_143) (by decide) (by decide) (by decide) (by decide)
          obtain ⟨rfl, Nq2330, hh2331⟩ := hQ2330
          have N2330 := Fr.app N2326 Nq2330
          refine own_via (fun t k => st2330 t (XS.ifNo X2330.here hx rfl (hb hby at_146) rfl ((if0 _ _).trans (teq (by decide : (0 : Int32) = (0 : Int32))).2) (XS.iconst X2330.here hx rfl (hb hby at_149) (XS.goto X2330.here hx rfl (pc0 := 150) (pc' := 154) rfl (hb hby at_150) (by decide) (by decide) (XS.istore X2330.here hx rfl (hb hby at_154) rfl (l' := #[iv i0, iv (1 : Int32), iv (1 : Int32), iv (1 : Int32), iv (0 : Int32), rv b2251, iv (1 : Int32), rv b2308, .unset]) rfl (XS.aload X2330.here hx rfl (hb hby at_156) rfl rfl (XS.iloadN X2330.here hx rfl (hb hby at_158) rfl (XS.ifNo X2330.here hx rfl (hb hby at_159) rfl ((if0 _ _).trans (feq (by decide : ¬ ((1 : Int32) = (0 : Int32)))).1) (XS.sipush X2330.here hx rfl (hb hby at_162) (XS.goto X2330.here hx rfl (pc0 := 165) (pc' := 171) rfl (hb hby at_165) (by decide) (by decide) (XS.sipush X2330.here hx rfl (hb hby at_171) k))))))))))) ?_
          show own_Goes p e below (T2330.setTop (mkF m 174 #[iv i0, iv (1 : Int32), iv (1 : Int32), iv (1 : Int32), iv (0 : Int32), rv b2251, iv (1 : Int32), rv b2308, .unset] [(.int (201 : Int32)), (.int (253 : Int32)), (.ref b2251)])) _
          obtain ⟨_, T2332, _, X2332, hQ2332, st2332⟩ := own_cv X2330 hx hZ hown (wd hw 42 rfl) (wd hw 43 rfl) (wd hw 45 rfl) (wd hw 44 rfl) (wd hw 46 rfl) (wd hw 2 rfl) (by decide) (rm24 l Z a0 hw [] b2251 w6 b2261 b2264 (0 : Int32) h2306 n0 O2328 fx2314 fx2313 ex2310 g2252 S_TelnetOptions_NO_ANSWER fx2311 fx2312 fx2315) hh2331 ex2310 (g := (mkF m 174 #[iv i0, iv (1 : Int32), iv (1 : Int32), iv (1 : Int32), iv (0 : Int32), rv b2251, iv (1 : Int32), rv b2308, .unset] [(.int (201 : Int32)), (.int (253 : Int32)), (.ref b2251)])) rfl (by rw [hml]; rfl) (rest := []) (W := 0) (lenOf pd_5 rfl) rfl (by show 2 * 0 + _ ≤ _; exact Nat.le_of_eq rfl) (hb hby at_174) (by decide) (by decide) (by decide) (by decide)
          obtain ⟨h2332, e2332⟩ : ∃ z, T2332.heap = z := ⟨_, rfl⟩
          rw [e2332] at hQ2332
          obtain ⟨rfl, Nq2332, K2332, ex2333, fx2334, fx2335, fx2336, fx2337, fx2338⟩ := hQ2332
          have N2332 := Fr.app N2330 Nq2332
          refine own_via (fun t k => st2332 t (XS.astore X2332.here hx rfl (hb hby at_177) rfl rfl (l' := #[iv i0, iv (1 : Int32), iv (1 : Int32), iv (1 : Int32), iv (0 : Int32), rv b2251, iv (1 : Int32), rv w6, .unset]) rfl (XS.iloadN X2332.here hx rfl (hb hby at_179) rfl (XS.ifNo X2332.here hx rfl (hb hby at_180) rfl ((if0 _ _).trans (feq (by decide : ¬ ((1 : Int32) = (0 : Int32)))).1) (XS.iload X2332.here hx rfl (hb hby at_183) rfl (XS.ifNo X2332.here hx rfl (hb hby at_185) rfl ((if0 _ _).trans (feq (by decide : ¬ ((1 : Int32) = (0 : Int32)))).1) (XS.aload X2332.here hx rfl (hb hby at_188) rfl rfl k))))))) ?_
          show own_Goes p e below (T2332.setTop (mkF m 190 #[iv i0, iv (1 : Int32), iv (1 : Int32), iv (1 : Int32), iv (0 : Int32), rv b2251, iv (1 : Int32), rv w6, .unset] [(.ref w6)])) _
          have O2340 : Old Z n0 h2332 := (O2328.keep K2332 (allS g2252 all0))
          obtain ⟨cl2339, Ar2339, -, S2339, M2339, -, -⟩ := id ((SV_w6.ext O2340.2))
          refine own_via (fun t k => X2332.arraylength hx (by rw [e2332]; exact Ar2339.1) (State.isArrayOf_alike hZ.alike Ar2339.2.1) (g := (mkF m 190 #[iv i0, iv (1 : Int32), iv (1 : Int32), iv (1 : Int32), iv (0 : Int32), rv b2251, iv (1 : Int32), rv w6, .unset] [(.ref w6)])) rfl rfl (hb hby at_190) t k) ?_
          rw [len_of S2339 M2339]
          show own_Goes p e below (T2332.setTop (mkF m 191 #[iv i0, iv (1 : Int32), iv (1 : Int32), iv (1 : Int32), iv (0 : Int32), rv b2251, iv (1 : Int32), rv w6, .unset] [(.int (0 : Int32))])) _
          refine own_via (fun t k => XS.ifNo X2332.here hx rfl (hb hby at_191) rfl ((if0 _ _).trans (teq (by decide : (0 : Int32) = (0 : Int32))).2) (XS.aload X2332.here hx rfl (hb hby at_194) rfl rfl k)) ?_
          obtain ⟨_, T2341, _, X2341, hQ2341, st2341⟩ := own_cv X2332 hx hZ hown (wd hw 35 rfl) (wd hw 36 rfl) (wd hw 38 rfl) (wd hw 37 rfl) (wd hw 39 rfl) (wd hw 2 rfl) (by decide) (rm25 l Z a0 hw [] b2251 h2332 n0 O2340 fx2336) e2332 ex2333 (g := (mkF m 196 #[iv i0, iv (1 : Int32), iv (1 : Int32), iv (1 : Int32), iv (0 : Int32), rv b2251, iv (1 : Int32), rv w6, .unset] [(.ref b2251)])) rfl (by rw [hml]; rfl) (rest := []) (W := 0) (lenOf pd_4 rfl) rfl (by show 2 * 0 + _ ≤ _; exact Nat.le_of_eq rfl) (hb hby at_196) (by decide) (by decide) (by decide) (by decide)
          obtain ⟨rfl, Nq2341, hh2342⟩ := hQ2341
          have N2341 := Fr.app N2332 Nq2341
          refine own_via (fun t k => st2341 t (XS.iloadN X2341.here hx rfl (hb hby at_199) rfl (XS.icmpNo X2341.here hx rfl (hb hby at_200) rfl (teq (by decide : (1 : Int32) = (1 : Int32))).2 (XS.iconst X2341.here hx rfl (hb hby at_203) (XS.goto X2341.here hx rfl (pc0 := 204) (pc' := 208) rfl (hb hby at_204) (by decide) (by decide) (XS.istore X2341.here hx rfl (hb hby at_208) rfl (l' := #[iv i0, iv (1 : Int32), iv (1 : Int32), iv (1 : Int32), iv (0 : Int32), rv b2251, iv (1 : Int32), rv w6, .unset]) rfl (XS.goto X2341.here hx rfl (pc0 := 210) (pc' := 269) rfl (hb hby at_210) (by decide) (by decide) (XS.iloadN X2341.here hx rfl (hb hby at_269) rfl (XS.ifNo X2341.here hx rfl (hb hby at_270) rfl ((if0 _ _).trans (feq (by decide : ¬ ((1 : Int32) = (0 : Int32)))).1) (XS.aload X2341.here hx rfl (hb hby at_273) rfl rfl (XS.sipush X2341.here hx rfl (hb hby at_275) (XS.sipush X2341.here hx rfl (hb hby at_278) k)))))))))))) ?_
          show own_Goes p e below (T2341.setTop (mkF m 281 #[iv i0, iv (1 : Int32), iv (1 : Int32), iv (1 : Int32), iv (0 : Int32), rv b2251, iv (1 : Int32), rv w6, .unset] [(.int (201 : Int32)), (.int (253 : Int32)), (.ref b2251)])) _
          obtain ⟨_, T2343, _, X2343, hQ2343, st2343⟩ := own_cv X2341 hx hZ hown (wd hw 42 rfl) (wd hw 43 rfl) (wd hw 45 rfl) (wd hw 44 rfl) (wd hw 46 rfl) (wd hw 2 rfl) (by decide) (rm27 l Z a0 hw [] b2251 w6 b2261 b2264 (0 : Int32) h2332 n0 O2340 fx2337 fx2336 ex2333 g2252 S_TelnetOptions_NO_ANSWER fx2334 fx2335 fx2338) hh2342 ex2333 (g := (mkF m 281 #[iv i0, iv (1 : Int32), iv (1 : Int32), iv (1 : Int32), iv (0 : Int32), rv b2251, iv (1 : Int32), rv w6, .unset] [(.int (201 : Int32)), (.int (253 : Int32)), (.ref b2251)])) rfl (by rw [hml]; rfl) (rest := []) (W := 0) (lenOf pd_5 rfl) rfl (by show 2 * 0 + _ ≤ _; exact Nat.le_of_eq rfl) (hb hby at_281) (by decide) (by decide) (by decide) (by decide)
          obtain ⟨h2343, e2343⟩ : ∃ z, T2343.heap = z := ⟨_, rfl⟩
          rw [e2343] at hQ2343
          obtain ⟨rfl, Nq2343, K2343, ex2414, fx2415, fx2416, fx2417, fx2418, fx2419⟩ := hQ2343
          have N2343 := Fr.app N2341 Nq2343
          refine own_via (fun t k => st2343 t (XS.astore X2343.here hx rfl (hb hby at_284) rfl rfl (l' := #[iv i0, iv (1 : Int32), iv (1 : Int32), iv (1 : Int32), iv (0 : Int32), rv b2251, iv (1 : Int32), rv w6, rv w6]) rfl (XS.iloadN X2343.here hx rfl (hb hby at_286) rfl (XS.ifNo X2343.here hx rfl (hb hby at_287) rfl ((if0 _ _).trans (feq (by decide : ¬ ((1 : Int32) = (0 : Int32)))).1) (XS.iloadN X2343.here hx rfl (hb hby at_290) rfl (XS.ifNo X2343.here hx rfl (hb hby at_291) rfl ((if0 _ _).trans (feq (by decide : ¬ ((1 : Int32) = (0 : Int32)))).1) (XS.iload X2343.here hx rfl (hb hby at_294) rfl (XS.ifNo X2343.here hx rfl (hb hby at_296) rfl ((if0 _ _).trans (feq (by decide : ¬ ((1 : Int32) = (0 : Int32)))).1) (XS.aload X2343.here hx rfl (hb hby at_299) rfl rfl k))))))))) ?_
          show own_Goes p e below (T2343.setTop (mkF m 301 #[iv i0, iv (1 : Int32), iv (1 : Int32), iv (1 : Int32), iv (0 : Int32), rv b2251, iv (1 : Int32), rv w6, rv w6] [(.ref w6)])) _
          have O2421 : Old Z n0 h2343 := (O2340.keep K2343 (allS g2252 all0))
          obtain ⟨cl2420, Ar2420, -, S2420, M2420, -, -⟩ := id ((SV_w6.ext O2421.2))
          refine own_via (fun t k => X2343.arraylength hx (by rw [e2343]; exact Ar2420.1) (State.isArrayOf_alike hZ.alike Ar2420.2.1) (g := (mkF m 301 #[iv i0, iv (1 : Int32), iv (1 : Int32), iv (1 : Int32), iv (0 : Int32), rv b2251, iv (1 : Int32), rv w6, rv w6] [(.ref w6)])) rfl rfl (hb hby at_301) t k) ?_
          rw [len_of S2420 M2420]
          show own_Goes p e below (T2343.setTop (mkF m 302 #[iv i0, iv (1 : Int32), iv (1 : Int32), iv (1 : Int32), iv (0 : Int32), rv b2251, iv (1 : Int32), rv w6, rv w6] [(.int (0 : Int32))])) _
          refine own_via (fun t k => XS.ifNo X2343.here hx rfl (hb hby at_302) rfl ((if0 _ _).trans (teq (by decide : (0 : Int32) = (0 : Int32))).2) (XS.aload X2343.here hx rfl (hb hby at_305) rfl rfl k)) ?_
          obtain ⟨_, T2422, _, X2422, hQ2422, st2422⟩ := own_cv X2343 hx hZ hown (wd hw 35 rfl) (wd hw 36 rfl) (wd hw 38 rfl) (wd hw 37 rfl) (wd hw 39 rfl) (wd hw 2 rfl) (by decide) (rm25 l Z a0 hw [] b2251 h2343 n0 O2421 fx2417) e2343 ex2414 (g := (mkF m 307 #[iv i0, iv (1 : Int32), iv (1 : Int32), iv (1 : Int32), iv (0 : Int32), rv b2251, iv (1 : Int32), rv w6, rv w6] [(.ref b2251)])) rfl (by rw [hml]; rfl) (rest := []) (W := 0) (lenOf pd_4 rfl) rfl (by show 2 * 0 + _ ≤ _; exact Nat.le_of_eq rfl) (hb hby at_307) (by decide) (by decide) (by decide) (by decide)
          obtain ⟨rfl, Nq2422, hh2423⟩ := hQ2422
          have N2422 := Fr.app N2343 Nq2422
          refine own_via (fun t k => st2422 t (XS.ifNo X2422.here hx rfl (hb hby at_310) rfl ((if0 _ _).trans (feq (by decide : ¬ ((1 : Int32) = (0 : Int32)))).1) (XS.iconst X2422.here hx rfl (hb hby at_313) (XS.goto X2422.here hx rfl (pc0 := 314) (pc' := 318) rfl (hb hby at_314) (by decide) (by decide) (XS.istore X2422.here hx rfl (hb hby at_318) rfl (l' := #[iv i0, iv (1 : Int32), iv (1 : Int32), iv (1 : Int32), iv (0 : Int32), rv b2251, iv (1 : Int32), rv w6, rv w6]) rfl (XS.goto X2422.here hx rfl (pc0 := 320) (pc' := 391) rfl (hb hby at_320) (by decide) (by decide) (XS.iload X2422.here hx rfl (hb hby at_391) rfl k))))))) ?_
          show own_Goes p e below (T2422.setTop (mkF m 393 #[iv i0, iv (1 : Int32), iv (1 : Int32), iv (1 : Int32), iv (0 : Int32), rv b2251, iv (1 : Int32), rv w6, rv w6] [(.int (1 : Int32))])) _
          obtain ⟨fs, hr, hrun, hended, hW, hsame⟩ := X2422.leave (v := some (.int (1 : Int32))) (fun h => by rw [Bd.returns] at h; cases h)
          refine own_end (t := T2422.setFrames fs) ?_ ⟨_, hrun, hended, _, _, rfl, ?_, ⟨_, rfl⟩, hW, hsame.mono (by decide) (by decide)⟩
          · exact retN X2422 hx (t := .boolean) Bd.returns (by simp) (hb hby at_393) hr
          · exact ⟨rfl, N2422⟩
        · refine own_via (fun t k => XS.ifNo X0.here hx rfl (hb hby at_40) rfl ((if0 _ _).trans (feq hc2249).1) (XS.iconst X0.here hx rfl (hb hby at_43) (XS.goto X0.here hx rfl (pc0 := 44) (pc' := 48) rfl (hb hby at_44) (by decide) (by decide) (XS.istore X0.here hx rfl (hb hby at_48) rfl (l' := #[iv i0, iv (1 : Int32), iv (1 : Int32), iv (1 : Int32), iv (1 : Int32), .unset, .unset, .unset, .unset]) rfl k)))) ?_
          show own_Goes p e below (s₁.setTop (mkF m 50 #[iv i0, iv (1 : Int32), iv (1 : Int32), iv (1 : Int32), iv (1 : Int32), .unset, .unset, .unset, .unset] [])) _
          obtain ⟨T2424, h2424, X2424, e2424, E2424, A2424, D2424, -, st2424⟩ := newO X0 hx hZ hown (wd hw 0 rfl) (wd hw 1 rfl) (wd hw 2 rfl) e0 (g := (mkF m 50 #[iv i0, iv (1 : Int32), iv (1 : Int32), iv (1 : Int32), iv (1 : Int32), .unset, .unset, .unset, .unset] [])) rfl (hb hby at_50) (by decide) (by decide)
          obtain ⟨b2425, q2424⟩ : ∃ z, z = h0.size := ⟨_, rfl⟩
          rw [← q2424] at A2424 D2424 st2424
          refine own_via (fun t k => st2424 t k) ?_
          have g2426 : n0 ≤ b2425 := Nat.le_trans (own_old O0) (Nat.le_of_eq q2424.symm)
          have B2427 : h0.size ≤ b2425 := Nat.le_trans (Nat.le_refl _) (Nat.le_of_eq q2424.symm)
          have F2428 : Fld Z h2424 b2425 zs1 "refusedWill" zs3 .null := D2424 (Or.inr (wd hw 32 rfl)) (ty := (.object zs2)) (by decide)
          have F2429 : Fld Z h2424 b2425 zs1 "refusedDo" zs3 .null := D2424 (Or.inr (wd hw 34 rfl)) (ty := (.object zs2)) (by decide)
          have F2430 : Fld Z h2424 b2425 zs1 "gmcpOn" "Z" (.int (0 : Int32)) := D2424 (Or.inl (wd hw 41 rfl)) (ty := .boolean) (by decide)
          have F2431 : Fld Z h2424 b2425 zs1 "gmcpOffered" "Z" (.int (0 : Int32)) := D2424 (Or.inl (wd hw 48 rfl)) (ty := .boolean) (by decide)
          have F2432 : Fld Z h2424 b2425 zs1 "echoOffered" "Z" (.int (0 : Int32)) := D2424 (Or.inl (wd hw 95 rfl)) (ty := .boolean) (by decide)
          show own_Goes p e below (T2424.setTop (mkF m 53 #[iv i0, iv (1 : Int32), iv (1 : Int32), iv (1 : Int32), iv (1 : Int32), .unset, .unset, .unset, .unset] [(.ref b2425)])) _
          refine own_via (fun t k => XS.dup X2424.here hx rfl (hb hby at_53) rfl rfl k) ?_
          have O2434 : Old Z n0 h2424 := (O0.ext E2424)
          obtain ⟨_, T2433, _, X2433, hQ2433, st2433⟩ := own_ci X2424 hx hZ hown (wd hw 3 rfl) (wd hw 4 rfl) (wd hw 5 rfl) (wd hw 2 rfl) rfl (by decide) (rm4 l Z a0 hw [] b2425 (0 : Int32) (0 : Int32) (0 : Int32) h2424 n0 O2434 F2428 A2424 g2426 F2429 F2430 F2431 F2432) e2424 (g := (mkF m 54 #[iv i0, iv (1 : Int32), iv (1 : Int32), iv (1 : Int32), iv (1 : Int32), .unset, .unset, .unset, .unset] [(.ref b2425), (.ref b2425)])) rfl (by rw [hml]; rfl) (rest := [(.ref b2425)]) (W := 1) (lenOf pd_3 rfl) rfl (by show 2 * 0 + _ ≤ _; exact Nat.le_of_eq rfl) (hb hby at_54) (by decide) (by decide) (by decide) (by decide)
          obtain ⟨h2433, e2433⟩ : ∃ z, T2433.heap = z := ⟨_, rfl⟩
          rw [e2433] at hQ2433
          obtain ⟨b2435, b2436, k2437, b2438, b2439, k2440, rfl, Nq2433, K2433, ex2441, fx2442, fx2443, fx2444, fx2445, fx2446, bx2447, ex2448, fx2449, fx2450, fx2451, bx2452, vx2453, bx2454, ex2455, fx2456, fx2457, fx2458, bx2459, vx2460, nx2461, nx2462, nx2463, nx2464, nx2465, nx2466⟩ := hQ2433
          have N2433 := Fr.app N0 Nq2433
          have N2467 : b2425 ≠ b2435 := Nat.ne_of_lt (Nat.lt_of_lt_of_le A2424.lt bx2447)
          have g2468 : n0 ≤ b2435 := Nat.le_trans (own_old O2434) bx2447
          have Z2470 : h0.size ≤ h2424.size := (Nat.le_trans (Nat.le_refl _) E2424.1)
          have B2469 : h0.size ≤ b2435 := Nat.le_trans Z2470 bx2447
          have N2471 : b2425 ≠ b2436 := Nat.ne_of_lt (Nat.lt_of_lt_of_le A2424.lt bx2452)
          have g2472 : n0 ≤ b2436 := Nat.le_trans (own_old O2434) bx2452
          have B2473 : h0.size ≤ b2436 := Nat.le_trans Z2470 bx2452
          have N2474 : b2425 ≠ b2438 := Nat.ne_of_lt (Nat.lt_of_lt_of_le A2424.lt bx2454)
          have g2475 : n0 ≤ b2438 := Nat.le_trans (own_old O2434) bx2454
          have B2476 : h0.size ≤ b2438 := Nat.le_trans Z2470 bx2454
          have N2477 : b2425 ≠ b2439 := Nat.ne_of_lt (Nat.lt_of_lt_of_le A2424.lt bx2459)
          have g2478 : n0 ≤ b2439 := Nat.le_trans (own_old O2434) bx2459
          have B2479 : h0.size ≤ b2439 := Nat.le_trans Z2470 bx2459
          refine own_via (fun t k => st2433 t (XS.astore X2433.here hx rfl (hb hby at_57) rfl rfl (l' := #[iv i0, iv (1 : Int32), iv (1 : Int32), iv (1 : Int32), iv (1 : Int32), rv b2425, .unset, .unset, .unset]) rfl (XS.iconst X2433.here hx rfl (hb hby at_59) (XS.istore X2433.here hx rfl (hb hby at_60) rfl (l' := #[iv i0, iv (1 : Int32), iv (1 : Int32), iv (1 : Int32), iv (1 : Int32), rv b2425, iv (1 : Int32), .unset, .unset]) rfl (XS.iloadN X2433.here hx rfl (hb hby at_62) rfl (XS.ifNo X2433.here hx rfl (hb hby at_63) rfl ((if0 _ _).trans (feq (by decide : ¬ ((1 : Int32) = (0 : Int32)))).1) (XS.aload X2433.here hx rfl (hb hby at_66) rfl rfl k))))))) ?_
          show own_Goes p e below (T2433.setTop (mkF m 68 #[iv i0, iv (1 : Int32), iv (1 : Int32), iv (1 : Int32), iv (1 : Int32), rv b2425, iv (1 : Int32), .unset, .unset] [(.ref b2425)])) _
          have O2481 : Old Z n0 h2433 := (O2434.keep K2433 (allS g2426 all0))
          obtain ⟨_, T2480, _, X2480, hQ2480, st2480⟩ := own_cv X2433 hx hZ hown (wd hw 51 rfl) (wd hw 52 rfl) (wd hw 54 rfl) (wd hw 53 rfl) (wd hw 55 rfl) (wd hw 2 rfl) (by decide) (rm19 l Z a0 hw [] b2425 (0 : Int32) b2435 b2438 (0 : Int32) (0 : Int32) h2433 n0 O2481 fx2445 ex2441 g2426 fx2442 fx2443 fx2444 fx2446) e2433 ex2441 (g := (mkF m 68 #[iv i0, iv (1 : Int32), iv (1 : Int32), iv (1 : Int32), iv (1 : Int32), rv b2425, iv (1 : Int32), .unset, .unset] [(.ref b2425)])) rfl (by rw [hml]; rfl) (rest := []) (W := 0) (lenOf pd_8 rfl) rfl (by show 2 * 0 + _ ≤ _; exact Nat.le_of_eq rfl) (hb hby at_68) (by decide) (by decide) (by decide) (by decide)
          obtain ⟨h2480, e2480⟩ : ∃ z, T2480.heap = z := ⟨_, rfl⟩
          rw [e2480] at hQ2480
          obtain ⟨b2482, k2483, rfl, Nq2480, K2480, ex2484, fx2485, fx2486, fx2487, fx2488, fx2489, bx2490, vx2491⟩ := hQ2480
          have N2480 := Fr.app N2433 Nq2480
          have N2492 : b2425 ≠ b2482 := Nat.ne_of_lt (Nat.lt_of_lt_of_le ex2441.lt bx2490)
          have N2493 : b2435 ≠ b2482 := Nat.ne_of_lt (Nat.lt_of_lt_of_le ex2448.lt bx2490)
          have N2494 : b2436 ≠ b2482 := Nat.ne_of_lt (Nat.lt_of_lt_of_le vx2453.lt bx2490)
          have N2495 : b2438 ≠ b2482 := Nat.ne_of_lt (Nat.lt_of_lt_of_le ex2455.lt bx2490)
          have N2496 : b2439 ≠ b2482 := Nat.ne_of_lt (Nat.lt_of_lt_of_le vx2460.lt bx2490)
          have g2497 : n0 ≤ b2482 := Nat.le_trans (own_old O2481) bx2490
          have Z2499 : h0.size ≤ h2433.size := (Nat.le_trans Z2470 K2433.1)
          have B2498 : h0.size ≤ b2482 := Nat.le_trans Z2499 bx2490
          refine own_via (fun t k => st2480 t (XS.astore X2480.here hx rfl (hb hby at_71) rfl rfl (l' := #[iv i0, iv (1 : Int32), iv (1 : Int32), iv (1 : Int32), iv (1 : Int32), rv b2425, iv (1 : Int32), rv b2482, .unset]) rfl (XS.iload X2480.here hx rfl (hb hby at_73) rfl (XS.ifNo X2480.here hx rfl (hb hby at_75) rfl ((if0 _ _).trans (feq (by decide : ¬ ((1 : Int32) = (0 : Int32)))).1) (XS.aload X2480.here hx rfl (hb hby at_78) rfl rfl (XS.sipush X2480.here hx rfl (hb hby at_80) k)))))) ?_
          show own_Goes p e below (T2480.setTop (mkF m 83 #[iv i0, iv (1 : Int32), iv (1 : Int32), iv (1 : Int32), iv (1 : Int32), rv b2425, iv (1 : Int32), rv b2482, .unset] [(.int (251 : Int32)), (.ref b2482)])) _
          have l2501 : own_Len Z h2480 b2482 .byte (3 : Int32) := ⟨_, _, _, vx2491⟩
          have O2502 : Old Z n0 h2480 := (O2481.keep K2480 (allS g2426 all0))
          obtain ⟨_, T2500, _, X2500, hQ2500, st2500⟩ := own_cs X2480 hx hZ hown (wd hw 60 rfl) (wd hw 61 rfl) (wd hw 63 rfl) (wd hw 62 rfl) (by decide) (rm20 l Z a0 hw [] b2482 k2483 h2480 n0 O2502 l2501 vx2491) e2480 (g := (mkF m 83 #[iv i0, iv (1 : Int32), iv (1 : Int32), iv (1 : Int32), iv (1 : Int32), rv b2425, iv (1 : Int32), rv b2482, .unset] [(.int (251 : Int32)), (.ref b2482)])) rfl (by rw [hml]; rfl) (rest := []) (W := 0) (lenOf pd_7 rfl) rfl (by show 2 * 0 + _ ≤ _; exact Nat.le_of_eq rfl) (hb hby at_83) (by decide) (by decide) (by decide) (by decide)
          obtain ⟨rfl, Nq2500, hh2503⟩ := hQ2500
          have N2500 := Fr.app N2480 Nq2500
          refine own_via (fun t k => st2500 t (XS.ifNo X2500.here hx rfl (hb hby at_86) rfl ((if0 _ _).trans (feq (by decide : ¬ ((1 : Int32) = (0 : Int32)))).1) (XS.iconst X2500.here hx rfl (hb hby at_89) (XS.goto X2500.here hx rfl (pc0 := 90) (pc' := 94) rfl (hb hby at_90) (by decide) (by decide) (XS.istore X2500.here hx rfl (hb hby at_94) rfl (l' := #[iv i0, iv (1 : Int32), iv (1 : Int32), iv (1 : Int32), iv (1 : Int32), rv b2425, iv (1 : Int32), rv b2482, .unset]) rfl (XS.iload X2500.here hx rfl (hb hby at_96) rfl (XS.ifNo X2500.here hx rfl (hb hby at_98) rfl ((if0 _ _).trans (feq (by decide : ¬ ((1 : Int32) = (0 : Int32)))).1) (XS.aload X2500.here hx rfl (hb hby at_101) rfl rfl (XS.iconst X2500.here hx rfl (hb hby at_103) (XS.iconst X2500.here hx rfl (hb hby at_104) k)))))))))) ?_
          show own_Goes p e below (T2500.setTop (mkF m 105 #[iv i0, iv (1 : Int32), iv (1 : Int32), iv (1 : Int32), iv (1 : Int32), rv b2425, iv (1 : Int32), rv b2482, .unset] [(.int (0 : Int32)), (.int (1 : Int32)), (.ref b2482)])) _
          obtain ⟨cl2504, Ar2504, qq2504, S2504, M2504, H2504, G2504⟩ := id (vx2491)
          have hin2504 : ¬ ((1 : Int32) < 0 ∨ cl2504.slots.size ≤ ((1 : Int32)).toNatClampNeg) := inb_of S2504 ⟨by decide, by decide⟩
          obtain ⟨T2504, h2504, X2504, e2504, W2504, st2504⟩ := stB X2500 hx hZ hh2503 Ar2504 (j := (1 : Int32)) hin2504 (g := (mkF m 105 #[iv i0, iv (1 : Int32), iv (1 : Int32), iv (1 : Int32), iv (1 : Int32), rv b2425, iv (1 : Int32), rv b2482, .unset] [(.int (0 : Int32)), (.int (1 : Int32)), (.ref b2482)])) rfl rfl (hb hby at_105)
          refine own_via (fun t k => st2504 t k) ?_
          have V2505 : Arv Z h2504 b2482 k2483 .byte (3 : Int32) [(.int (-1 : Int32)), (.int (0 : Int32)), (.int (-55 : Int32))] (.int (0 : Int32)) := Arv.set Ar2504 qq2504 S2504 M2504 H2504 G2504 (by decide) W2504 1 rfl (Nat.le_of_ble_eq_true rfl)
          have N2504 := Fr.snoc X2504 N2500 g2497
          show own_Goes p e below (T2504.setTop (mkF m 106 #[iv i0, iv (1 : Int32), iv (1 : Int32), iv (1 : Int32), iv (1 : Int32), rv b2425, iv (1 : Int32), rv b2482, .unset] [])) _
          refine own_via (fun t k => XS.aload X2504.here hx rfl (hb hby at_106) rfl rfl k) ?_
          have F2507 : Fld Z h2504 b2425 zs1 "gmcpOffered" "Z" (.int (1 : Int32)) := (fx2488.other W2504 (Or.inl N2492))
          have E2508 : Exa Z h2504 b2425 zs1 := (ex2484.wr W2504)
          have F2509 : Fld Z h2504 b2425 zs1 "refusedWill" zs3 (.ref b2435) := (fx2485.other W2504 (Or.inl N2492))
          have F2510 : Fld Z h2504 b2425 zs1 "refusedDo" zs3 (.ref b2438) := (fx2486.other W2504 (Or.inl N2492))
          have F2511 : Fld Z h2504 b2425 zs1 "gmcpOn" "Z" (.int (0 : Int32)) := (fx2487.other W2504 (Or.inl N2492))
          have F2512 : Fld Z h2504 b2425 zs1 "echoOffered" "Z" (.int (0 : Int32)) := (fx2489.other W2504 (Or.inl N2492))
          have O2513 : Old Z n0 h2504 := (O2502.wr W2504 g2497)
          obtain ⟨_, T2506, _, X2506, hQ2506, st2506⟩ := own_cv X2504 hx hZ hown (wd hw 51 rfl) (wd hw 52 rfl) (wd hw 54 rfl) (wd hw 53 rfl) (wd hw 55 rfl) (wd hw 2 rfl) (by decide) (rm19 l Z a0 hw [] b2425 (1 : Int32) b2435 b2438 (0 : Int32) (0 : Int32) h2504 n0 O2513 F2507 E2508 g2426 F2509 F2510 F2511 F2512) e2504 E2508 (g := (mkF m 108 #[iv i0, iv (1 : Int32), iv (1 : Int32), iv (1 : Int32), iv (1 : Int32), rv b2425, iv (1 : Int32), rv b2482, .unset] [(.ref b2425)])) rfl (by rw [hml]; rfl) (rest := []) (W := 0) (lenOf pd_8 rfl) rfl (by show 2 * 0 + _ ≤ _; exact Nat.le_of_eq rfl) (hb hby at_108) (by decide) (by decide) (by decide) (by decide)
          obtain ⟨h2506, e2506⟩ : ∃ z, T2506.heap = z := ⟨_, rfl⟩
          rw [e2506] at hQ2506
          obtain ⟨b2514, k2515, rfl, Nq2506, K2506, ex2516, fx2517, fx2518, fx2519, fx2520, fx2521, bx2522, vx2523⟩ := hQ2506
          have N2506 := Fr.app N2504 Nq2506
          have N2524 : b2425 ≠ b2514 := Nat.ne_of_lt (Nat.lt_of_lt_of_le E2508.lt bx2522)
          have E2526 : Exa Z h2504 b2435 zs2 := ((ex2448.keep K2480).wr W2504)
          have N2525 : b2435 ≠ b2514 := Nat.ne_of_lt (Nat.lt_of_lt_of_le E2526.lt bx2522)
          have V2528 : Arv Z h2504 b2436 k2437 .long (4 : Int32) [] (.long (0 : Int64)) := ((vx2453.keep K2480 (ninS (Ne.symm N2471) nin0)).other W2504 N2494)
          have N2527 : b2436 ≠ b2514 := Nat.ne_of_lt (Nat.lt_of_lt_of_le V2528.lt bx2522)
          have E2530 : Exa Z h2504 b2438 zs2 := ((ex2455.keep K2480).wr W2504)
          have N2529 : b2438 ≠ b2514 := Nat.ne_of_lt (Nat.lt_of_lt_of_le E2530.lt bx2522)
          have V2532 : Arv Z h2504 b2439 k2440 .long (4 : Int32) [] (.long (0 : Int64)) := ((vx2460.keep K2480 (ninS (Ne.symm N2477) nin0)).other W2504 N2496)
          have N2531 : b2439 ≠ b2514 := Nat.ne_of_lt (Nat.lt_of_lt_of_le V2532.lt bx2522)
          have N2533 : b2482 ≠ b2514 := Nat.ne_of_lt (Nat.lt_of_lt_of_le V2505.lt bx2522)
          have g2534 : n0 ≤ b2514 := Nat.le_trans (own_old O2513) bx2522
          have Z2536 : h0.size ≤ h2504.size := (Nat.le_trans (Nat.le_trans Z2499 K2480.1) (Nat.le_of_eq W2504.size.symm))
          have B2535 : h0.size ≤ b2514 := Nat.le_trans Z2536 bx2522
          refine own_via (fun t k => st2506 t (XS.astore X2506.here hx rfl (hb hby at_111) rfl rfl (l' := #[iv i0, iv (1 : Int32), iv (1 : Int32), iv (1 : Int32), iv (1 : Int32), rv b2425, iv (1 : Int32), rv b2482, rv b2514]) rfl (XS.iload X2506.here hx rfl (hb hby at_113) rfl (XS.ifNo X2506.here hx rfl (hb hby at_115) rfl ((if0 _ _).trans (feq (by decide : ¬ ((1 : Int32) = (0 : Int32)))).1) (XS.aload X2506.here hx rfl (hb hby at_118) rfl rfl (XS.sipush X2506.here hx rfl (hb hby at_120) k)))))) ?_
          show own_Goes p e below (T2506.setTop (mkF m 123 #[iv i0, iv (1 : Int32), iv (1 : Int32), iv (1 : Int32), iv (1 : Int32), rv b2425, iv (1 : Int32), rv b2482, rv b2514] [(.int (251 : Int32)), (.ref b2514)])) _
          have l2538 : own_Len Z h2506 b2514 .byte (3 : Int32) := ⟨_, _, _, vx2523⟩
          have O2539 : Old Z n0 h2506 := (O2513.keep K2506 (allS g2426 all0))
          obtain ⟨_, T2537, _, X2537, hQ2537, st2537⟩ := own_cs X2506 hx hZ hown (wd hw 60 rfl) (wd hw 61 rfl) (wd hw 63 rfl) (wd hw 62 rfl) (by decide) (rm20 l Z a0 hw [] b2514 k2515 h2506 n0 O2539 l2538 vx2523) e2506 (g := (mkF m 123 #[iv i0, iv (1 : Int32), iv (1 : Int32), iv (1 : Int32), iv (1 : Int32), rv b2425, iv (1 : Int32), rv b2482, rv b2514] [(.int (251 : Int32)), (.ref b2514)])) rfl (by rw [hml]; rfl) (rest := []) (W := 0) (lenOf pd_7 rfl) rfl (by show 2 * 0 + _ ≤ _; exact Nat.le_of_eq rfl) (hb hby at_123) (by decide) (by decide) (by decide) (by decide)
          obtain ⟨rfl, Nq2537, hh2540⟩ := hQ2537
          have N2537 := Fr.app N2506 Nq2537
          refine own_via (fun t k => st2537 t (XS.ifNo X2537.here hx rfl (hb hby at_126) rfl ((if0 _ _).trans (feq (by decide : ¬ ((1 : Int32) = (0 : Int32)))).1) (XS.iconst X2537.here hx rfl (hb hby at_129) (XS.goto X2537.here hx rfl (pc0 := 130) (pc' := 134) rfl (hb hby at_130) (by decide) (by decide) (XS.istore X2537.here hx rfl (hb hby at_134) rfl (l' := #[iv i0, iv (1 : Int32), iv (1 : Int32), iv (1 : Int32), iv (1 : Int32), rv b2425, iv (1 : Int32), rv b2482, rv b2514]) rfl (XS.iload X2537.here hx rfl (hb hby at_136) rfl (XS.ifNo X2537.here hx rfl (hb hby at_138) rfl ((if0 _ _).trans (feq (by decide : ¬ ((1 : Int32) = (0 : Int32)))).1) (XS.aload X2537.here hx rfl (hb hby at_141) rfl rfl k)))))))) ?_
          show own_Goes p e below (T2537.setTop (mkF m 143 #[iv i0, iv (1 : Int32), iv (1 : Int32), iv (1 : Int32), iv (1 : Int32), rv b2425, iv (1 : Int32), rv b2482, rv b2514] [(.ref b2425)])) _
          obtain ⟨_, T2541, _, X2541, hQ2541, st2541⟩ := own_cv X2537 hx hZ hown (wd hw 35 rfl) (wd hw 36 rfl) (wd hw 38 rfl) (wd hw 37 rfl) (wd hw 39 rfl) (wd hw 2 rfl) (by decide) (rm5 l Z a0 hw [] b2425 h2506 n0 O2539 fx2519) hh2540 ex2516 (g := (mkF m 143 #[iv i0, iv (1 : Int32), iv (1 : Int32), iv (1 : Int32), iv (1 : Int32), rv b2425, iv (1 : Int32), rv b2482, rv b2514] [(.ref b2425)])) rfl (by rw [hml]; rfl) (rest := []) (W := 0) (lenOf pd_4 rfl) rfl (by show 2 * 0 + _ ≤ _; exact Nat.le_of_eq rfl) (hb hby at_143) (by decide) (by decide) (by decide) (by decide)
          obtain ⟨rfl, Nq2541, hh2542⟩ := hQ2541
          have N2541 := Fr.app N2537 Nq2541
          refine own_via (fun t k => st2541 t (XS.ifNo X2541.here hx rfl (hb hby at_146) rfl ((if0 _ _).trans (teq (by decide : (0 : Int32) = (0 : Int32))).2) (XS.iconst X2541.here hx rfl (hb hby at_149) (XS.goto X2541.here hx rfl (pc0 := 150) (pc' := 154) rfl (hb hby at_150) (by decide) (by decide) (XS.istore X2541.here hx rfl (hb hby at_154) rfl (l' := #[iv i0, iv (1 : Int32), iv (1 : Int32), iv (1 : Int32), iv (1 : Int32), rv b2425, iv (1 : Int32), rv b2482, rv b2514]) rfl (XS.aload X2541.here hx rfl (hb hby at_156) rfl rfl (XS.iloadN X2541.here hx rfl (hb hby at_158) rfl (XS.ifNo X2541.here hx rfl (hb hby at_159) rfl ((if0 _ _).trans (feq (by decide : ¬ ((1 : Int32) = (0 : Int32)))).1) (XS.sipush X2541.here hx rfl (hb hby at_162) (XS.goto X2541.here hx rfl (pc0 := 165) (pc' := 171) rfl (hb hby at_165) (by decide) (by decide) (XS.sipush X2541.here hx rfl (hb hby at_171) k))))))))))) ?_
          show own_Goes p e below (T2541.setTop (mkF m 174 #[iv i0, iv (1 : Int32), iv (1 : Int32), iv (1 : Int32), iv (1 : Int32), rv b2425, iv (1 : Int32), rv b2482, rv b2514] [(.int (201 : Int32)), (.int (253 : Int32)), (.ref b2425)])) _
          obtain ⟨_, T2543, _, X2543, hQ2543, st2543⟩ := own_cv X2541 hx hZ hown (wd hw 42 rfl) (wd hw 43 rfl) (wd hw 45 rfl) (wd hw 44 rfl) (wd hw 46 rfl) (wd hw 2 rfl) (by decide) (rm24 l Z a0 hw [] b2425 w6 b2435 b2438 (0 : Int32) h2506 n0 O2539 fx2520 fx2519 ex2516 g2426 S_TelnetOptions_NO_ANSWER fx2517 fx2518 fx2521) hh2542 ex2516 (g := (mkF m 174 #[iv i0, iv (1 : Int32), iv (1 : Int32), iv (1 : Int32), iv (1 : Int32), rv b2425, iv (1 : Int32), rv b2482, rv b2514] [(.int (201 : Int32)), (.int (253 : Int32)), (.ref b2425)])) rfl (by rw [hml]; rfl) (rest := []) (W := 0) (lenOf pd_5 rfl) rfl (by show 2 * 0 + _ ≤ _; exact Nat.le_of_eq rfl) (hb hby at_174) (by decide) (by decide) (by decide) (by decide)
          obtain ⟨h2543, e2543⟩ : ∃ z, T2543.heap = z := ⟨_, rfl⟩
          rw [e2543] at hQ2543
          obtain ⟨rfl, Nq2543, K2543, ex2544, fx2545, fx2546, fx2547, fx2548, fx2549⟩ := hQ2543
          have N2543 := Fr.app N2541 Nq2543
          refine own_via (fun t k => st2543 t (XS.astore X2543.here hx rfl (hb hby at_177) rfl rfl (l' := #[iv i0, iv (1 : Int32), iv (1 : Int32), iv (1 : Int32), iv (1 : Int32), rv b2425, iv (1 : Int32), rv w6, rv b2514]) rfl (XS.iloadN X2543.here hx rfl (hb hby at_179) rfl (XS.ifNo X2543.here hx rfl (hb hby at_180) rfl ((if0 _ _).trans (feq (by decide : ¬ ((1 : Int32) = (0 : Int32)))).1) (XS.iload X2543.here hx rfl (hb hby at_183) rfl (XS.ifNo X2543.here hx rfl (hb hby at_185) rfl ((if0 _ _).trans (feq (by decide : ¬ ((1 : Int32) = (0 : Int32)))).1) (XS.aload X2543.here hx rfl (hb hby at_188) rfl rfl k))))))) ?_
          show own_Goes p e below (T2543.setTop (mkF m 190 #[iv i0, iv (1 : Int32), iv (1 : Int32), iv (1 : Int32), iv (1 : Int32), rv b2425, iv (1 : Int32), rv w6, rv b2514] [(.ref w6)])) _
          have O2551 : Old Z n0 h2543 := (O2539.keep K2543 (allS g2426 all0))
          obtain ⟨cl2550, Ar2550, -, S2550, M2550, -, -⟩ := id ((SV_w6.ext O2551.2))
          refine own_via (fun t k => X2543.arraylength hx (by rw [e2543]; exact Ar2550.1) (State.isArrayOf_alike hZ.alike Ar2550.2.1) (g := (mkF m 190 #[iv i0, iv (1 : Int32), iv (1 : Int32), iv (1 : Int32), iv (1 : Int32), rv b2425, iv (1 : Int32), rv w6, rv b2514] [(.ref w6)])) rfl rfl (hb hby at_190) t k) ?_
          rw [len_of S2550 M2550]
          show own_Goes p e below (T2543.setTop (mkF m 191 #[iv i0, iv (1 : Int32), iv (1 : Int32), iv (1 : Int32), iv (1 : Int32), rv b2425, iv (1 : Int32), rv w6, rv b2514] [(.int (0 : Int32))])) _
          refine own_via (fun t k => XS.ifNo X2543.here hx rfl (hb hby at_191) rfl ((if0 _ _).trans (teq (by decide : (0 : Int32) = (0 : Int32))).2) (XS.aload X2543.here hx rfl (hb hby at_194) rfl rfl k)) ?_
          obtain ⟨_, T2552, _, X2552, hQ2552, st2552⟩ := own_cv X2543 hx hZ hown (wd hw 35 rfl) (wd hw 36 rfl) (wd hw 38 rfl) (wd hw 37 rfl) (wd hw 39 rfl) (wd hw 2 rfl) (by decide) (rm25 l Z a0 hw [] b2425 h2543 n0 O2551 fx2547) e2543 ex2544 (g := (mkF m 196 #[iv i0, iv (1 : Int32), iv (1 : Int32), iv (1 : Int32), iv (1 : Int32), rv b2425, iv (1 : Int32), rv w6, rv b2514] [(.ref b2425)])) rfl (by rw [hml]; rfl) (rest := []) (W := 0) (lenOf pd_4 rfl) rfl (by show 2 * 0 + _ ≤ _; exact Nat.le_of_eq rfl) (hb hby at_196) (by decide) (by decide) (by decide) (by decide)
          obtain ⟨rfl, Nq2552, hh2553⟩ := hQ2552
          have N2552 := Fr.app N2543 Nq2552
          refine own_via (fun t k => st2552 t (XS.iloadN X2552.here hx rfl (hb hby at_199) rfl (XS.icmpNo X2552.here hx rfl (hb hby at_200) rfl (teq (by decide : (1 : Int32) = (1 : Int32))).2 (XS.iconst X2552.here hx rfl (hb hby at_203) (XS.goto X2552.here hx rfl (pc0 := 204) (pc' := 208) rfl (hb hby at_204) (by decide) (by decide) (XS.istore X2552.here hx rfl (hb hby at_208) rfl (l' := #[iv i0, iv (1 : Int32), iv (1 : Int32), iv (1 : Int32), iv (1 : Int32), rv b2425, iv (1 : Int32), rv w6, rv b2514]) rfl (XS.goto X2552.here hx rfl (pc0 := 210) (pc' := 269) rfl (hb hby at_210) (by decide) (by decide) (XS.iloadN X2552.here hx rfl (hb hby at_269) rfl (XS.ifNo X2552.here hx rfl (hb hby at_270) rfl ((if0 _ _).trans (feq (by decide : ¬ ((1 : Int32) = (0 : Int32)))).1) (XS.aload X2552.here hx rfl (hb hby at_273) rfl rfl (XS.sipush X2552.here hx rfl (hb hby at_275) (XS.sipush X2552.here hx rfl (hb hby at_278) k)))))))))))) ?_
          show own_Goes p e below (T2552.setTop (mkF m 281 #[iv i0, iv (1 : Int32), iv (1 : Int32), iv (1 : Int32), iv (1 : Int32), rv b2425, iv (1 : Int32), rv w6, rv b2514] [(.int (201 : Int32)), (.int (253 : Int32)), (.ref b2425)])) _
          obtain ⟨_, T2554, _, X2554, hQ2554, st2554⟩ := own_cv X2552 hx hZ hown (wd hw 42 rfl) (wd hw 43 rfl) (wd hw 45 rfl) (wd hw 44 rfl) (wd hw 46 rfl) (wd hw 2 rfl) (by decide) (rm27 l Z a0 hw [] b2425 w6 b2435 b2438 (0 : Int32) h2543 n0 O2551 fx2548 fx2547 ex2544 g2426 S_TelnetOptions_NO_ANSWER fx2545 fx2546 fx2549) hh2553 ex2544 (g := (mkF m 281 #[iv i0, iv (1 : Int32), iv (1 : Int32), iv (1 : Int32), iv (1 : Int32), rv b2425, iv (1 : Int32), rv w6, rv b2514] [(.int (201 : Int32)), (.int (253 : Int32)), (.ref b2425)])) rfl (by rw [hml]; rfl) (rest := []) (W := 0) (lenOf pd_5 rfl) rfl (by show 2 * 0 + _ ≤ _; exact Nat.le_of_eq rfl) (hb hby at_281) (by decide) (by decide) (by decide) (by decide)
          obtain ⟨h2554, e2554⟩ : ∃ z, T2554.heap = z := ⟨_, rfl⟩
          rw [e2554] at hQ2554
          obtain ⟨rfl, Nq2554, K2554, ex2555, fx2556, fx2557, fx2558, fx2559, fx2560⟩ := hQ2554
          have N2554 := Fr.app N2552 Nq2554
          refine own_via (fun t k => st2554 t (XS.astore X2554.here hx rfl (hb hby at_284) rfl rfl (l' := #[iv i0, iv (1 : Int32), iv (1 : Int32), iv (1 : Int32), iv (1 : Int32), rv b2425, iv (1 : Int32), rv w6, rv w6]) rfl (XS.iloadN X2554.here hx rfl (hb hby at_286) rfl (XS.ifNo X2554.here hx rfl (hb hby at_287) rfl ((if0 _ _).trans (feq (by decide : ¬ ((1 : Int32) = (0 : Int32)))).1) (XS.iloadN X2554.here hx rfl (hb hby at_290) rfl (XS.ifNo X2554.here hx rfl (hb hby at_291) rfl ((if0 _ _).trans (feq (by decide : ¬ ((1 : Int32) = (0 : Int32)))).1) (XS.iload X2554.here hx rfl (hb hby at_294) rfl (XS.ifNo X2554.here hx rfl (hb hby at_296) rfl ((if0 _ _).trans (feq (by decide : ¬ ((1 : Int32) = (0 : Int32)))).1) (XS.aload X2554.here hx rfl (hb hby at_299) rfl rfl k))))))))) ?_
          show own_Goes p e below (T2554.setTop (mkF m 301 #[iv i0, iv (1 : Int32), iv (1 : Int32), iv (1 : Int32), iv (1 : Int32), rv b2425, iv (1 : Int32), rv w6, rv w6] [(.ref w6)])) _
          have O2562 : Old Z n0 h2554 := (O2551.keep K2554 (allS g2426 all0))
          obtain ⟨cl2561, Ar2561, -, S2561, M2561, -, -⟩ := id ((SV_w6.ext O2562.2))
          refine own_via (fun t k => X2554.arraylength hx (by rw [e2554]; exact Ar2561.1) (State.isArrayOf_alike hZ.alike Ar2561.2.1) (g := (mkF m 301 #[iv i0, iv (1 : Int32), iv (1 : Int32), iv (1 : Int32), iv (1 : Int32), rv b2425, iv (1 : Int32), rv w6, rv w6] [(.ref w6)])) rfl rfl (hb hby at_301) t k) ?_
          rw [len_of S2561 M2561]
          show own_Goes p e below (T2554.setTop (mkF m 302 #[iv i0, iv (1 : Int32), iv (1 : Int32), iv (1 : Int32), iv (1 : Int32), rv b2425, iv (1 : Int32), rv w6, rv w6] [(.int (0 : Int32))])) _
          refine own_via (fun t k => XS.ifNo X2554.here hx rfl (hb hby at_302) rfl ((if0 _ _).trans (teq (by decide : (0 : Int32) = (0 : Int32))).2) (XS.aload X2554.here hx rfl (hb hby at_305) rfl rfl k)) ?_
          obtain ⟨_, T2563, _, X2563, hQ2563, st2563⟩ := own_cv X2554 hx hZ hown (wd hw 35 rfl) (wd hw 36 rfl) (wd hw 38 rfl) (wd hw 37 rfl) (wd hw 39 rfl) (wd hw 2 rfl) (by decide) (rm25 l Z a0 hw [] b2425 h2554 n0 O2562 fx2558) e2554 ex2555 (g := (mkF m 307 #[iv i0, iv (1 : Int32), iv (1 : Int32), iv (1 : Int32), iv (1 : Int32), rv b2425, iv (1 : Int32), rv w6, rv w6] [(.ref b2425)])) rfl (by rw [hml]; rfl) (rest := []) (W := 0) (lenOf pd_4 rfl) rfl (by show 2 * 0 + _ ≤ _; exact Nat.le_of_eq rfl) (hb hby at_307) (by decide) (by decide) (by decide) (by decide)
          obtain ⟨rfl, Nq2563, hh2564⟩ := hQ2563
          have N2563 := Fr.app N2554 Nq2563
          refine own_via (fun t k => st2563 t (XS.ifNo X2563.here hx rfl (hb hby at_310) rfl ((if0 _ _).trans (feq (by decide : ¬ ((1 : Int32) = (0 : Int32)))).1) (XS.iconst X2563.here hx rfl (hb hby at_313) (XS.goto X2563.here hx rfl (pc0 := 314) (pc' := 318) rfl (hb hby at_314) (by decide) (by decide) (XS.istore X2563.here hx rfl (hb hby at_318) rfl (l' := #[iv i0, iv (1 : Int32), iv (1 : Int32), iv (1 : Int32), iv (1 : Int32), rv b2425, iv (1 : Int32), rv w6, rv w6]) rfl (XS.goto X2563.here hx rfl (pc0 := 320) (pc' := 391) rfl (hb hby at_320) (by decide) (by decide) (XS.iload X2563.here hx rfl (hb hby at_391) rfl k))))))) ?_
          show own_Goes p e below (T2563.setTop (mkF m 393 #[iv i0, iv (1 : Int32), iv (1 : Int32), iv (1 : Int32), iv (1 : Int32), rv b2425, iv (1 : Int32), rv w6, rv w6] [(.int (1 : Int32))])) _
          obtain ⟨fs, hr, hrun, hended, hW, hsame⟩ := X2563.leave (v := some (.int (1 : Int32))) (fun h => by rw [Bd.returns] at h; cases h)
          refine own_end (t := T2563.setFrames fs) ?_ ⟨_, hrun, hended, _, _, rfl, ?_, ⟨_, rfl⟩, hW, hsame.mono (by decide) (by decide)⟩
          · exact retN X2563 hx (t := .boolean) Bd.returns (by simp) (hb hby at_393) hr
          · exact ⟨rfl, N2563⟩
set_option maxRecDepth 65536 in
set_option maxHeartbeats 40000000 in
theorem comes_1 {Post : Tables → Env → Array Value → State → Outcome → State → Prop} (hpost : ∀ tb e args s v u, (limb_1_1.after args s (.returned v) u = true ∧ limb_1_2.after args s (.returned v) u = true ∧ True) → FrameEnd s (.returned v) u (Jvm.fieldLocs frame_1_writes args s ++ Jvm.arrayLocs frame_1_arrays args s ++ Jvm.staticLocs frame_1_statics s) 24 128 → Post tb e args s (.returned v) u) :
    ArmFor flags0 classFile x code maxLocals ret World_1 tables_1 room_1 Calls_1 rest_1 Pre_1 Post := by
  intro l hfl _ _ p e ha hc hk s m args below hf hA hF happ hP
  obtain ⟨hcalls, hrest, hpre⟩ := hP
  obtain ⟨-, -, -, hnamed, -, -, -, hat⟩ := (Spec.applies_iff hf).mp happ
  obtain ⟨hg, hn⟩ := and_e (Cond.before_iff.mp (show (Jvm.Cond.and given_1 narrow_1).before args s = true from hpre))
  obtain ⟨g2565, g2566⟩ := and_e hg
  obtain ⟨w0, rfl⟩ : ∃ w0 : Value, args = #[w0] := by
    have hs : args.size = 1 := by simpa [Cond.value, given_1] using g2565
    obtain ⟨L⟩ := args
    match L, hs with
    | [w0], _ => exact ⟨w0, rfl⟩
  have hw := fun d (hd : d ∈ tables_1) => atoms_spec (ws := Jvm.Cond.code x code maxLocals ret :: tables_1) hat d (List.mem_cons_of_mem _ hd)
  have hfit : Fit s := fun {y c} hc i hi => by
    obtain ⟨ha, rfl⟩ := Array.getElem?_eq_some_iff.mp hc
    have q := List.all_eq_true.mp ((Array.all_eq_true_iff_forall_mem.mp hF) _ (Array.getElem_mem ha)) i (List.mem_range.mpr hi)
    simpa [Array.getElem?_eq_getElem hi] using q
  obtain ⟨hsets, hown0⟩ := atoms_of _ (rest_1_c_eq ▸ (show rest_1_c.before _ s = true from hrest))
  obtain ⟨n1, n2⟩ := and_e hn
  have u3 := Cond.before_iff.mp (hsets _ (List.mem_of_getElem? (i := 0) rfl))
  have u4 := Cond.before_iff.mp (hsets _ (List.mem_of_getElem? (i := 1) rfl))
  have u5 := Cond.before_iff.mp (hsets _ (List.mem_of_getElem? (i := 2) rfl))
  obtain ⟨w6, ev7⟩ := arr_v n1
  have S_TelnetOptions_NO_ANSWER : Sta s s.heap zs1 "NO_ANSWER" "[B" (.ref w6) := Sta.start ev7 (Or.inr ⟨(wd hw 2 rfl), (wd hw 50 rfl)⟩)
  obtain ⟨cl8, Acl8⟩ := Arr.start ev7 n1
  obtain ⟨kc_w6, SV_w6⟩ : ∃ kc, Arv s s.heap w6 kc .byte (0 : Int32) [] (.int (0 : Int32)) := ⟨_, own_arv0 hfit Acl8 ev7 n2⟩
  have ev9 := Cond.eq_int (show (Jvm.Cond.eq _ _).holds _ _ _ _ _ = true from Cond.before_iff.mpr u5) rfl
  have S_BitSet__assertionsDisabled : Sta s s.heap zs2 zs6 "Z" (.int (1 : Int32)) := Sta.start ev9 (Or.inl (hsets _ (List.mem_of_getElem? (i := 1) rfl)))
  obtain ⟨i0, ei0⟩ := is_v g2566
  obtain rfl : w0 = (.int i0) := Option.some.inj ei0
  obtain ⟨n, o, h1, h2, h3, _, L, rfl, ⟨rfl, N⟩, hq⟩ := rm0 l s _ hw tables_1 i0 w6 kc_w6 s.heap s.heap.size (Old.start s) S_TelnetOptions_NO_ANSWER SV_w6 S_BitSet__assertionsDisabled p e ha hc hk s m _ below hf ((Spec.applies_iff_loose hf).mp happ).1 ⟨rfl, State.Warmed39.refl s, rfl⟩ trivial
  refine ⟨n, _, h1, h2, h3, hpost _ _ _ _ _ _ ⟨Cond.after_iff.mpr rfl, Cond.after_iff.mpr (eq_i res_at (Term.int_eval (1)) rfl), trivial⟩ ⟨hq.1, hq.2.1, (hq.2.2.sift fun y hy => Or.inr (N y hy)).mono (by decide) (by decide)⟩⟩
theorem main_1_1 : Claimed_1_1 := comes_1 fun _ _ _ _ _ _ h hF => ⟨h.1, hF⟩
theorem main_1_2 : Claimed_1_2 := comes_1 fun _ _ _ _ _ _ h hF => ⟨h.2.1, hF⟩
end Jvm.Pilot.@@N@@
namespace Jvm.Pilot.@@N@@
open Jvm Jvm.ClassFile Sem Op Lib Jvm.Free Jvm.Stand Jvm.Pilot.@@N@@.Jvm.D
/-! MADE BY PROGRAM (witnessworld.py) out of the Statement's table words and the real class files: 12 classes; the members and pool entries that the words name. The judged class is class 1, her method 2. -/
namespace start1
open Jvm.ClassFile
def u (s : String) : CpInfo := .utf8 (stringToUtf16 s)
/-- a pool by its gaps: so many unusable entries, then the entry; so many at the end -/
def gap : Nat → List CpInfo → List CpInfo
  | 0, r => r
  | n + 1, r => .unusable :: gap n r
def poolList (es : List (Nat × CpInfo)) (last : Nat) : List CpInfo := es.foldr (fun e r => gap e.1 (e.2 :: r)) (gap last [])
def pool (es : List (Nat × CpInfo)) (last : Nat) : Array CpInfo := ⟨poolList es last⟩
def fileOf (pool : Array CpInfo) (this : Nat) (attrs : Array Attribute := #[]) (ms : Array MethodInfo := #[]) (fl : Nat := 33) (sup : Nat := 0) (ifs : Array Nat := #[]) (fds : Array FieldInfo := #[]) : ClassFile where
  minorVersion := 0
  majorVersion := 65
  constantPool := pool
  accessFlags := fl
  thisClass := this
  superClass := sup
  interfaces := ifs
  fields := fds
  methods := ms
  attributes := attrs
def plain (name : String) (sup : Option ClassId) : Class where
  name := name
  kind := .ordinary
  loader := none
  accessFlags := 33
  super := sup
  interfaces := #[]
  cf := none
  fields := #[]
  methods := #[]
  instanceTypes := #[]
  staticTypes := #[]
  resolved := #[]
  callSites := []
  init := .initialized
  statics := none
  mirror := none

def pool0 : Array CpInfo := pool [(5, u "<init>"), (0, u "()V"), (1, .class_ 10), (1, u "java/lang/Object")] 113

def k0c0 : Code := { maxStack := 0, maxLocals := 1, code := object_method_1_code, exceptionTable := #[], attributes := #[] }
def k0m0 : Method := { name := "<init>", desc := "()V", sig := { parameters := [], returnType := none }, accessFlags := 1, code := some k0c0 }
/-- java/lang/Object -/
def k0 : Class := { plain "java/lang/Object" none with
  accessFlags := 33
  interfaces := #[]
  cf := some (fileOf pool0 8 #[] #[{ accessFlags := 1, nameIndex := 5, descriptorIndex := 6, attributes := #[] }] 33 0 #[] #[])
  fields := #[]
  methods := #[k0m0]
  instanceTypes := #[]
  staticTypes := #[]
  resolved := Array.replicate 124 none
  statics := none }

def pool1 : Array CpInfo := pool [(2, .class_ 4), (0, .nameAndType 5 6), (0, u "java/lang/Object"), (0, u "<init>"), (0, u "()V"), (0, .class_ 8), (0, u "com/example/hearthkey/hearthkey/gateway/transport/TelnetOptions"), (0, .methodref 7 3), (0, .methodref 7 11), (0, .nameAndType 12 13), (0, u "offerGmcp"), (0, u "()[B"), (0, .methodref 15 16), (0, .class_ 17), (0, .nameAndType 18 19), (0, u "com/example/hearthkey/hearthkey/gateway/transport/TelnetOptionsOfferGmcpPinLaw"), (0, u "isCmd"), (0, u "([BI)Z"), (0, .methodref 7 21), (0, .nameAndType 22 23), (0, u "gmcpOn"), (0, u "()Z"), (0, .methodref 7 25), (0, .nameAndType 26 27), (0, u "answer"), (0, u "(II)[B"), (3, u "law"), (0, u "(I)Z")] 4

def k1m0 : Method := { name := "<init>", desc := "()V", sig := { parameters := [], returnType := none }, accessFlags := 1, code := none }
def k1c1 : Code := { maxStack := 2, maxLocals := 2, code := method_2_code, exceptionTable := #[], attributes := #[] }
def k1m1 : Method := { name := "isCmd", desc := "([BI)Z", sig := { parameters := [(.array .byte), .int], returnType := some .boolean }, accessFlags := 10, code := some k1c1 }
def k1c2 : Code := { maxStack := 3, maxLocals := 9, code := code, exceptionTable := #[], attributes := #[] }
def k1m2 : Method := { name := "law", desc := "(I)Z", sig := { parameters := [.int], returnType := some .boolean }, accessFlags := 9, code := some k1c2 }
/-- com/example/hearthkey/hearthkey/gateway/transport/TelnetOptionsOfferGmcpPinLaw -/
def k1 : Class := { plain "com/example/hearthkey/hearthkey/gateway/transport/TelnetOptionsOfferGmcpPinLaw" (some 0) with
  accessFlags := 49
  interfaces := #[]
  cf := some (fileOf pool1 15 #[] #[{ accessFlags := 1, nameIndex := 5, descriptorIndex := 6, attributes := #[] }, { accessFlags := 10, nameIndex := 18, descriptorIndex := 19, attributes := #[] }, { accessFlags := 9, nameIndex := 31, descriptorIndex := 32, attributes := #[] }] 49 2 #[] #[])
  fields := #[]
  methods := #[k1m0, k1m1, k1m2]
  instanceTypes := #[]
  staticTypes := #[]
  resolved := Array.replicate 37 none
  statics := none }

def pool2 : Array CpInfo := pool [(1, .methodref 2 3), (0, .class_ 4), (0, .nameAndType 5 6), (0, u "java/lang/Object"), (0, u "<init>"), (0, u "()V"), (0, .class_ 8), (0, u "java/util/BitSet"), (0, .methodref 7 10), (0, .nameAndType 5 11), (0, u "(I)V"), (0, .fieldref 13 14), (0, .class_ 15), (0, .nameAndType 16 17), (0, u "com/example/hearthkey/hearthkey/gateway/transport/TelnetOptions"), (0, u "refusedWill"), (0, u "Ljava/util/BitSet;"), (0, .fieldref 13 19), (0, .nameAndType 20 17), (0, u "refusedDo"), (0, .fieldref 13 22), (0, .nameAndType 23 24), (0, u "echoOffered"), (0, u "Z"), (0, .fieldref 13 26), (0, .nameAndType 27 28), (0, u "NO_ANSWER"), (0, u "[B"), (0, .fieldref 13 30), (0, .nameAndType 31 24), (0, u "gmcpOffered"), (0, .fieldref 13 33), (0, .nameAndType 34 24), (0, u "gmcpOn"), (0, .methodref 13 36), (0, .nameAndType 37 38), (0, u "settleGmcp"), (0, u "(Z)[B"), (0, .methodref 7 40), (0, .nameAndType 41 42), (0, u "get"), (0, u "(I)Z"), (0, .methodref 7 44), (0, .nameAndType 45 11), (0, u "set"), (0, .methodref 13 47), (0, .nameAndType 48 49), (0, u "command"), (0, u "(II)[B"), (0, u "IAC"), (0, u "I"), (2, u "DONT"), (1, u "DO"), (1, u "WONT"), (1, u "WILL"), (1, u "ECHO"), (1, u "GMCP"), (3, u "answer"), (1, u "offerGmcp"), (0, u "()[B"), (0, u "()Z")] 6

def k2c0 : Code := { maxStack := 4, maxLocals := 1, code := prog_61_method_1_code, exceptionTable := #[], attributes := #[] }
def k2m0 : Method := { name := "<init>", desc := "()V", sig := { parameters := [], returnType := none }, accessFlags := 0, code := some k2c0 }
def k2c1 : Code := { maxStack := 3, maxLocals := 4, code := prog_61_method_2_code, exceptionTable := #[], attributes := #[] }
def k2m1 : Method := { name := "answer", desc := "(II)[B", sig := { parameters := [.int, .int], returnType := some (.array .byte) }, accessFlags := 0, code := some k2c1 }
def k2c2 : Code := { maxStack := 2, maxLocals := 1, code := prog_61_method_3_code, exceptionTable := #[], attributes := #[] }
def k2m2 : Method := { name := "offerGmcp", desc := "()[B", sig := { parameters := [], returnType := some (.array .byte) }, accessFlags := 0, code := some k2c2 }
def k2c3 : Code := { maxStack := 1, maxLocals := 1, code := prog_61_method_4_code, exceptionTable := #[], attributes := #[] }
def k2m3 : Method := { name := "gmcpOn", desc := "()Z", sig := { parameters := [], returnType := some .boolean }, accessFlags := 0, code := some k2c3 }
def k2c4 : Code := { maxStack := 2, maxLocals := 3, code := prog_61_method_7_code, exceptionTable := #[], attributes := #[] }
def k2m4 : Method := { name := "settleGmcp", desc := "(Z)[B", sig := { parameters := [.boolean], returnType := some (.array .byte) }, accessFlags := 2, code := some k2c4 }
def k2c5 : Code := { maxStack := 4, maxLocals := 2, code := prog_61_method_8_code, exceptionTable := #[], attributes := #[] }
def k2m5 : Method := { name := "command", desc := "(II)[B", sig := { parameters := [.int, .int], returnType := some (.array .byte) }, accessFlags := 10, code := some k2c5 }
/-- com/example/hearthkey/hearthkey/gateway/transport/TelnetOptions -/
def k2 : Class := { plain "com/example/hearthkey/hearthkey/gateway/transport/TelnetOptions" (some 0) with
  accessFlags := 48
  interfaces := #[]
  cf := some (fileOf pool2 13 #[] #[{ accessFlags := 0, nameIndex := 5, descriptorIndex := 6, attributes := #[] }, { accessFlags := 0, nameIndex := 68, descriptorIndex := 49, attributes := #[] }, { accessFlags := 0, nameIndex := 70, descriptorIndex := 71, attributes := #[] }, { accessFlags := 0, nameIndex := 34, descriptorIndex := 72, attributes := #[] }, { accessFlags := 2, nameIndex := 37, descriptorIndex := 38, attributes := #[] }, { accessFlags := 10, nameIndex := 48, descriptorIndex := 49, attributes := #[] }] 48 2 #[] #[{ accessFlags := 24, nameIndex := 50, descriptorIndex := 51, attributes := #[] }, { accessFlags := 24, nameIndex := 54, descriptorIndex := 51, attributes := #[] }, { accessFlags := 24, nameIndex := 56, descriptorIndex := 51, attributes := #[] }, { accessFlags := 24, nameIndex := 58, descriptorIndex := 51, attributes := #[] }, { accessFlags := 24, nameIndex := 60, descriptorIndex := 51, attributes := #[] }, { accessFlags := 24, nameIndex := 62, descriptorIndex := 51, attributes := #[] }, { accessFlags := 24, nameIndex := 64, descriptorIndex := 51, attributes := #[] }, { accessFlags := 26, nameIndex := 27, descriptorIndex := 28, attributes := #[] }, { accessFlags := 18, nameIndex := 16, descriptorIndex := 17, attributes := #[] }, { accessFlags := 18, nameIndex := 20, descriptorIndex := 17, attributes := #[] }, { accessFlags := 2, nameIndex := 23, descriptorIndex := 24, attributes := #[] }, { accessFlags := 2, nameIndex := 31, descriptorIndex := 24, attributes := #[] }, { accessFlags := 2, nameIndex := 34, descriptorIndex := 24, attributes := #[] }])
  fields := #[{ name := "IAC", type := .int, accessFlags := 24, slot := 0, constantValue := 0 }, { name := "DONT", type := .int, accessFlags := 24, slot := 1, constantValue := 0 }, { name := "DO", type := .int, accessFlags := 24, slot := 2, constantValue := 0 }, { name := "WONT", type := .int, accessFlags := 24, slot := 3, constantValue := 0 }, { name := "WILL", type := .int, accessFlags := 24, slot := 4, constantValue := 0 }, { name := "ECHO", type := .int, accessFlags := 24, slot := 5, constantValue := 0 }, { name := "GMCP", type := .int, accessFlags := 24, slot := 6, constantValue := 0 }, { name := "NO_ANSWER", type := (.array .byte), accessFlags := 26, slot := 7, constantValue := 0 }, { name := "refusedWill", type := (.object "java/util/BitSet"), accessFlags := 18, slot := 0, constantValue := 0 }, { name := "refusedDo", type := (.object "java/util/BitSet"), accessFlags := 18, slot := 1, constantValue := 0 }, { name := "echoOffered", type := .boolean, accessFlags := 2, slot := 2, constantValue := 0 }, { name := "gmcpOffered", type := .boolean, accessFlags := 2, slot := 3, constantValue := 0 }, { name := "gmcpOn", type := .boolean, accessFlags := 2, slot := 4, constantValue := 0 }]
  methods := #[k2m0, k2m1, k2m2, k2m3, k2m4, k2m5]
  instanceTypes := #[(.object "java/util/BitSet"), (.object "java/util/BitSet"), .boolean, .boolean, .boolean]
  staticTypes := #[.int, .int, .int, .int, .int, .int, .int, (.array .byte)]
  resolved := Array.replicate 79 none
  statics := some 0 }

def pool3 : Array CpInfo := pool [(1, .class_ 2), (0, u "java/lang/Cloneable"), (0, .class_ 4), (0, u "java/lang/Object")] 2

/-- java/lang/Cloneable -/
def k3 : Class := { plain "java/lang/Cloneable" (some 0) with
  accessFlags := 1537
  interfaces := #[]
  cf := some (fileOf pool3 1 #[] #[] 1537 3 #[] #[])
  fields := #[]
  methods := #[]
  instanceTypes := #[]
  staticTypes := #[]
  resolved := Array.replicate 7 none
  statics := none }

def pool4 : Array CpInfo := pool [(1, .class_ 2), (0, u "java/io/Serializable"), (0, .class_ 4), (0, u "java/lang/Object")] 2

/-- java/io/Serializable -/
def k4 : Class := { plain "java/io/Serializable" (some 0) with
  accessFlags := 1537
  interfaces := #[]
  cf := some (fileOf pool4 1 #[] #[] 1537 3 #[] #[])
  fields := #[]
  methods := #[]
  instanceTypes := #[]
  staticTypes := #[]
  resolved := Array.replicate 7 none
  statics := none }

def pool5 : Array CpInfo := pool [(1, .class_ 2), (0, u "java/util/BitSet"), (0, .fieldref 1 4), (0, .nameAndType 5 6), (0, u "$assertionsDisabled"), (0, u "Z"), (0, .fieldref 1 8), (0, .nameAndType 9 10), (0, u "wordsInUse"), (0, u "I"), (0, .fieldref 1 12), (0, .nameAndType 13 14), (0, u "words"), (0, u "[J"), (3, .nameAndType 19 20), (0, u "<init>"), (0, u "()V"), (0, .methodref 22 18), (0, .class_ 23), (0, u "java/lang/Object"), (0, .fieldref 1 25), (0, .nameAndType 26 6), (0, u "sizeIsSticky"), (0, .methodref 1 28), (0, .nameAndType 29 30), (0, u "initWords"), (0, u "(I)V"), (21, .methodref 1 53), (0, .nameAndType 54 55), (0, u "wordIndex"), (0, u "(I)I"), (0, .methodref 1 57), (0, .nameAndType 58 20), (0, u "checkInvariants"), (21, u "get"), (58, .methodref 1 140), (0, .nameAndType 141 30), (0, u "ensureCapacity"), (13, .methodref 1 156), (0, .nameAndType 157 30), (0, u "expandTo"), (11, u "set"), (99, .class_ 270), (0, u "java/util/BitSet$1BitSetSpliterator"), (22, u "serialPersistentFields"), (0, u "[Ljava/io/ObjectStreamField;"), (0, .class_ 296), (0, u "java/lang/Cloneable"), (0, .class_ 298), (0, u "java/io/Serializable"), (0, u "ADDRESS_BITS_PER_WORD"), (2, u "BITS_PER_WORD"), (1, u "BIT_INDEX_MASK"), (1, u "WORD_MASK"), (0, u "J"), (0, u "serialVersionUID"), (42, u "(I)Z")] 65

def k5c0 : Code := { maxStack := 2, maxLocals := 1, code := jdk_92_method_1_code, exceptionTable := #[], attributes := #[] }
def k5m0 : Method := { name := "wordIndex", desc := "(I)I", sig := { parameters := [.int], returnType := some .int }, accessFlags := 10, code := some k5c0 }
def k5c1 : Code := { maxStack := 4, maxLocals := 1, code := jdk_92_method_2_code, exceptionTable := #[], attributes := #[] }
def k5m1 : Method := { name := "checkInvariants", desc := "()V", sig := { parameters := [], returnType := none }, accessFlags := 2, code := some k5c1 }
def k5m2 : Method := { name := "<init>", desc := "()V", sig := { parameters := [], returnType := none }, accessFlags := 1, code := none }
def k5c3 : Code := { maxStack := 4, maxLocals := 2, code := jdk_92_method_5_code, exceptionTable := #[], attributes := #[] }
def k5m3 : Method := { name := "<init>", desc := "(I)V", sig := { parameters := [.int], returnType := none }, accessFlags := 1, code := some k5c3 }
def k5c4 : Code := { maxStack := 3, maxLocals := 2, code := jdk_92_method_6_code, exceptionTable := #[], attributes := #[] }
def k5m4 : Method := { name := "initWords", desc := "(I)V", sig := { parameters := [.int], returnType := none }, accessFlags := 2, code := some k5c4 }
def k5c5 : Code := { maxStack := 3, maxLocals := 3, code := jdk_92_method_14_code, exceptionTable := #[], attributes := #[] }
def k5m5 : Method := { name := "ensureCapacity", desc := "(I)V", sig := { parameters := [.int], returnType := none }, accessFlags := 2, code := some k5c5 }
def k5c6 : Code := { maxStack := 2, maxLocals := 3, code := jdk_92_method_15_code, exceptionTable := #[], attributes := #[] }
def k5m6 : Method := { name := "expandTo", desc := "(I)V", sig := { parameters := [.int], returnType := none }, accessFlags := 2, code := some k5c6 }
def k5c7 : Code := { maxStack := 7, maxLocals := 3, code := jdk_92_method_19_code, exceptionTable := #[], attributes := #[] }
def k5m7 : Method := { name := "set", desc := "(I)V", sig := { parameters := [.int], returnType := none }, accessFlags := 1, code := some k5c7 }
def k5c8 : Code := { maxStack := 5, maxLocals := 3, code := jdk_92_method_26_code, exceptionTable := #[], attributes := #[] }
def k5m8 : Method := { name := "get", desc := "(I)Z", sig := { parameters := [.int], returnType := some .boolean }, accessFlags := 1, code := some k5c8 }
/-- java/util/BitSet -/
def k5 : Class := { plain "java/util/BitSet" (some 0) with
  accessFlags := 33
  interfaces := #[3, 4]
  cf := some (fileOf pool5 1 #[.nestMembers #[269]] #[{ accessFlags := 10, nameIndex := 54, descriptorIndex := 55, attributes := #[] }, { accessFlags := 2, nameIndex := 58, descriptorIndex := 20, attributes := #[] }, { accessFlags := 1, nameIndex := 19, descriptorIndex := 20, attributes := #[] }, { accessFlags := 1, nameIndex := 19, descriptorIndex := 30, attributes := #[] }, { accessFlags := 2, nameIndex := 29, descriptorIndex := 30, attributes := #[] }, { accessFlags := 2, nameIndex := 141, descriptorIndex := 30, attributes := #[] }, { accessFlags := 2, nameIndex := 157, descriptorIndex := 30, attributes := #[] }, { accessFlags := 1, nameIndex := 169, descriptorIndex := 30, attributes := #[] }, { accessFlags := 1, nameIndex := 80, descriptorIndex := 351, attributes := #[] }] 33 22 #[295, 297] #[{ accessFlags := 26, nameIndex := 299, descriptorIndex := 10, attributes := #[] }, { accessFlags := 26, nameIndex := 302, descriptorIndex := 10, attributes := #[] }, { accessFlags := 26, nameIndex := 304, descriptorIndex := 10, attributes := #[] }, { accessFlags := 26, nameIndex := 306, descriptorIndex := 307, attributes := #[] }, { accessFlags := 26, nameIndex := 293, descriptorIndex := 294, attributes := #[] }, { accessFlags := 2, nameIndex := 13, descriptorIndex := 14, attributes := #[] }, { accessFlags := 130, nameIndex := 9, descriptorIndex := 10, attributes := #[] }, { accessFlags := 130, nameIndex := 26, descriptorIndex := 6, attributes := #[] }, { accessFlags := 26, nameIndex := 308, descriptorIndex := 307, attributes := #[] }, { accessFlags := 4120, nameIndex := 5, descriptorIndex := 6, attributes := #[] }])
  fields := #[{ name := "ADDRESS_BITS_PER_WORD", type := .int, accessFlags := 26, slot := 0, constantValue := 0 }, { name := "BITS_PER_WORD", type := .int, accessFlags := 26, slot := 1, constantValue := 0 }, { name := "BIT_INDEX_MASK", type := .int, accessFlags := 26, slot := 2, constantValue := 0 }, { name := "WORD_MASK", type := .long, accessFlags := 26, slot := 3, constantValue := 0 }, { name := "serialPersistentFields", type := (.array (.object "java/io/ObjectStreamField")), accessFlags := 26, slot := 4, constantValue := 0 }, { name := "words", type := (.array .long), accessFlags := 2, slot := 0, constantValue := 0 }, { name := "wordsInUse", type := .int, accessFlags := 130, slot := 1, constantValue := 0 }, { name := "sizeIsSticky", type := .boolean, accessFlags := 130, slot := 2, constantValue := 0 }, { name := "serialVersionUID", type := .long, accessFlags := 26, slot := 5, constantValue := 0 }, { name := "$assertionsDisabled", type := .boolean, accessFlags := 4120, slot := 6, constantValue := 0 }]
  methods := #[k5m0, k5m1, k5m2, k5m3, k5m4, k5m5, k5m6, k5m7, k5m8]
  instanceTypes := #[(.array .long), .int, .boolean]
  staticTypes := #[.int, .int, .int, .long, (.array (.object "java/io/ObjectStreamField")), .long, .boolean]
  resolved := Array.replicate 417 none
  statics := some 1 }

/-- the primitive byte -/
def k6 : Class := { plain "byte" none with kind := .primitive 'B', accessFlags := 0x411 }
/-- [B -/
def k7 : Class := { plain "[B" (some 0) with kind := .array 6 .byte, interfaces := #[3, 4], accessFlags := 1041 }

/-- the primitive int -/
def k8 : Class := { plain "int" none with kind := .primitive 'I', accessFlags := 0x411 }
/-- [I -/
def k9 : Class := { plain "[I" (some 0) with kind := .array 8 .int, interfaces := #[3, 4], accessFlags := 1041 }

/-- the primitive long -/
def k10 : Class := { plain "long" none with kind := .primitive 'J', accessFlags := 0x411 }
/-- [J -/
def k11 : Class := { plain "[J" (some 0) with kind := .array 10 .long, interfaces := #[3, 4], accessFlags := 1041 }

def heap : Heap := #[{ cls := 2, slots := #[.int 0, .int 0, .int 0, .int 0, .int 0, .int 0, .int 0, .ref 2], vm := .statics 2 },
  { cls := 5, slots := #[.int 0, .int 0, .int 0, .long 0, .null, .long 0, .int 1], vm := .statics 5 },
  { cls := 7, slots := #[], vm := .none }]
def classes : Array Class := #[k0, k1, k2, k3, k4, k5, k6, k7, k8, k9, k10, k11]
def interned : List (Array UInt16 × Addr) := []
def slotsUsed : Nat := 15
def theMethod : MethodId := ⟨1, 2⟩
def args0 : Array Value := #[.int 5]
def aboutOver (below : List Frame) : State where
  vm := { classes := classes, interned := interned.toArray }
  heap := heap
  slotsUsed := slotsUsed
  threads := #[{ frames := .invoking theMethod args0 :: below }]
def below0 : List Frame := [.native { method := ⟨0, 0⟩, args := #[] }]
def about1 : State := aboutOver below0
def p0 : Program := .bare "" "" ""
def e0 : Env := launch0.env 0 0 0
theorem w_frames : about1.frames = Frame.invoking theMethod args0 :: below0 := rfl
set_option maxRecDepth 65536 in
theorem w_args : argsFit about1.vm theMethod args0 = true := by decide +kernel
set_option maxRecDepth 65536 in
theorem w_heap : heapFits about1 = true := by decide +kernel
set_option maxRecDepth 65536 in
theorem w_runnable : about1.curStatus? = some .runnable := by decide +kernel
set_option maxRecDepth 65536 in
theorem w_alone : about1.alone = true := by decide +kernel
set_option maxRecDepth 65536 in
theorem w_named : about1.methodNamed? x = some theMethod := by decide +kernel
set_option maxRecDepth 65536 in
theorem w_hears : about1.hears theMethod below0 = true := by decide +kernel
set_option maxRecDepth 65536 in
theorem w_ripe : about1.ripe theMethod args0 below0 = true := by decide +kernel
theorem w_running : about1.status = .running := rfl
set_option maxRecDepth 65536 in
theorem w_room : about1.hasRoom e0.platform room_1 = true :=
  launch0.hasRoom_least _ room_1 (by decide +kernel) (by decide +kernel) (by decide +kernel) (by decide +kernel) (by decide +kernel) (by decide +kernel)
theorem allAtoms_all (ts : List Jvm.Cond) (a : Array Jvm.Value) (st : Jvm.State) : (allAtoms ts).before a st = ts.all (fun c => c.before a st) := by
  induction ts with
  | nil => rfl
  | cons c t ih =>
    show (Jvm.Cond.and c (allAtoms t)).before a st = _
    rw [Jvm.Cond.before_and, ih, List.all_cons]
def words1 : List Jvm.Cond := Jvm.Cond.code x code maxLocals ret :: tables_1
/-- a 'code' word, met by the world's own term for the bytes: nothing is compared byte by byte -/
theorem code_word {y : MethodName} {bytes : ByteArray} {mx : Nat} {rt : Option FieldType} {a : Array Value} {s : State} {m : MethodId} {meth : Method} {c : Code} (h1 : s.methodNamed? y = some m) (h2 : s.vm.method? m = some meth) (h3 : meth.code = some c) (h4 : c.code = bytes)
    (h5 : (c.maxLocals == mx && c.exceptionTable.isEmpty && decide (c.maxStack ≤ mostOperands) && decide (meth.sig.returnType = rt) && !meth.locks && decide (parseMethodDescriptor y.desc = some meth.sig)) = true) : (Jvm.Cond.code y bytes mx rt).before a s = true := by
  simp only [Bool.and_eq_true, beq_iff_eq, Bool.not_eq_true', decide_eq_true_eq] at h5
  obtain ⟨⟨⟨⟨⟨g1, g2⟩, g3⟩, g4⟩, g5⟩, g6⟩ := h5
  simp [Cond.before, Cond.holds, Cond.value, h1, h2, h3, h4, g1, g2, g3, g4, g5, g6]
def isCode : Jvm.Cond → Bool
  | .code _ _ _ _ => true
  | _ => false
theorem all_split {L : List Jvm.Cond} {P : Jvm.Cond → Bool} (h1 : L.all (fun c => isCode c || P c) = true) (h2 : ∀ c ∈ L.filter isCode, P c = true) : L.all P = true := by
  refine List.all_eq_true.mpr fun c hc => ?_
  have h := List.all_eq_true.mp h1 c hc
  rcases Bool.eq_false_or_eq_true (isCode c) with hi | hi
  · exact h2 c (List.mem_filter.mpr ⟨hc, hi⟩)
  · simpa [hi] using h
set_option maxRecDepth 65536 in
theorem w_c0 : (Jvm.Cond.code x code maxLocals ret).before args0 about1 = true := code_word (m := ⟨1, 2⟩) (meth := k1m2) (c := k1c2) (by decide +kernel) rfl rfl rfl (by decide +kernel)
set_option maxRecDepth 65536 in
theorem w_c1 : (Jvm.Cond.code ({ cls := "com/example/hearthkey/hearthkey/gateway/transport/TelnetOptions", name := "<init>", desc := "()V" } : Jvm.MethodName) prog_61_method_1_code (1 : Nat) (Option.none : Option Jvm.ClassFile.FieldType)).before args0 about1 = true := code_word (m := ⟨2, 0⟩) (meth := k2m0) (c := k2c0) (by decide +kernel) rfl rfl rfl (by decide +kernel)
set_option maxRecDepth 65536 in
theorem w_c2 : (Jvm.Cond.code ({ cls := "java/lang/Object", name := "<init>", desc := "()V" } : Jvm.MethodName) object_method_1_code (1 : Nat) (Option.none : Option Jvm.ClassFile.FieldType)).before args0 about1 = true := code_word (m := ⟨0, 0⟩) (meth := k0m0) (c := k0c0) (by decide +kernel) rfl rfl rfl (by decide +kernel)
set_option maxRecDepth 65536 in
theorem w_c3 : (Jvm.Cond.code ({ cls := "java/util/BitSet", name := "<init>", desc := "(I)V" } : Jvm.MethodName) jdk_92_method_5_code (2 : Nat) (Option.none : Option Jvm.ClassFile.FieldType)).before args0 about1 = true := code_word (m := ⟨5, 3⟩) (meth := k5m3) (c := k5c3) (by decide +kernel) rfl rfl rfl (by decide +kernel)
set_option maxRecDepth 65536 in
theorem w_c4 : (Jvm.Cond.code ({ cls := "java/util/BitSet", name := "initWords", desc := "(I)V" } : Jvm.MethodName) jdk_92_method_6_code (2 : Nat) (Option.none : Option Jvm.ClassFile.FieldType)).before args0 about1 = true := code_word (m := ⟨5, 4⟩) (meth := k5m4) (c := k5c4) (by decide +kernel) rfl rfl rfl (by decide +kernel)
set_option maxRecDepth 65536 in
theorem w_c5 : (Jvm.Cond.code ({ cls := "java/util/BitSet", name := "wordIndex", desc := "(I)I" } : Jvm.MethodName) jdk_92_method_1_code (1 : Nat) (Option.some Jvm.ClassFile.FieldType.int)).before args0 about1 = true := code_word (m := ⟨5, 0⟩) (meth := k5m0) (c := k5c0) (by decide +kernel) rfl rfl rfl (by decide +kernel)
set_option maxRecDepth 65536 in
theorem w_c6 : (Jvm.Cond.code ({ cls := "com/example/hearthkey/hearthkey/gateway/transport/TelnetOptions", name := "gmcpOn", desc := "()Z" } : Jvm.MethodName) prog_61_method_4_code (1 : Nat) (Option.some Jvm.ClassFile.FieldType.boolean)).before args0 about1 = true := code_word (m := ⟨2, 3⟩) (meth := k2m3) (c := k2c3) (by decide +kernel) rfl rfl rfl (by decide +kernel)
set_option maxRecDepth 65536 in
theorem w_c7 : (Jvm.Cond.code ({ cls := "com/example/hearthkey/hearthkey/gateway/transport/TelnetOptions", name := "answer", desc := "(II)[B" } : Jvm.MethodName) prog_61_method_2_code (4 : Nat) (Option.some (Jvm.ClassFile.FieldType.array Jvm.ClassFile.FieldType.byte))).before args0 about1 = true := code_word (m := ⟨2, 1⟩) (meth := k2m1) (c := k2c1) (by decide +kernel) rfl rfl rfl (by decide +kernel)
set_option maxRecDepth 65536 in
theorem w_c8 : (Jvm.Cond.code ({ cls := "com/example/hearthkey/hearthkey/gateway/transport/TelnetOptions", name := "offerGmcp", desc := "()[B" } : Jvm.MethodName) prog_61_method_3_code (1 : Nat) (Option.some (Jvm.ClassFile.FieldType.array Jvm.ClassFile.FieldType.byte))).before args0 about1 = true := code_word (m := ⟨2, 2⟩) (meth := k2m2) (c := k2c2) (by decide +kernel) rfl rfl rfl (by decide +kernel)
set_option maxRecDepth 65536 in
theorem w_c9 : (Jvm.Cond.code ({ cls := "com/example/hearthkey/hearthkey/gateway/transport/TelnetOptions", name := "command", desc := "(II)[B" } : Jvm.MethodName) prog_61_method_8_code (2 : Nat) (Option.some (Jvm.ClassFile.FieldType.array Jvm.ClassFile.FieldType.byte))).before args0 about1 = true := code_word (m := ⟨2, 5⟩) (meth := k2m5) (c := k2c5) (by decide +kernel) rfl rfl rfl (by decide +kernel)
set_option maxRecDepth 65536 in
theorem w_c10 : (Jvm.Cond.code ({ cls := "com/example/hearthkey/hearthkey/gateway/transport/TelnetOptionsOfferGmcpPinLaw", name := "isCmd", desc := "([BI)Z" } : Jvm.MethodName) method_2_code (2 : Nat) (Option.some Jvm.ClassFile.FieldType.boolean)).before args0 about1 = true := code_word (m := ⟨1, 1⟩) (meth := k1m1) (c := k1c1) (by decide +kernel) rfl rfl rfl (by decide +kernel)
set_option maxRecDepth 65536 in
theorem w_c11 : (Jvm.Cond.code ({ cls := "com/example/hearthkey/hearthkey/gateway/transport/TelnetOptions", name := "settleGmcp", desc := "(Z)[B" } : Jvm.MethodName) prog_61_method_7_code (3 : Nat) (Option.some (Jvm.ClassFile.FieldType.array Jvm.ClassFile.FieldType.byte))).before args0 about1 = true := code_word (m := ⟨2, 4⟩) (meth := k2m4) (c := k2c4) (by decide +kernel) rfl rfl rfl (by decide +kernel)
set_option maxRecDepth 65536 in
theorem w_c12 : (Jvm.Cond.code ({ cls := "java/util/BitSet", name := "get", desc := "(I)Z" } : Jvm.MethodName) jdk_92_method_26_code (3 : Nat) (Option.some Jvm.ClassFile.FieldType.boolean)).before args0 about1 = true := code_word (m := ⟨5, 8⟩) (meth := k5m8) (c := k5c8) (by decide +kernel) rfl rfl rfl (by decide +kernel)
set_option maxRecDepth 65536 in
theorem w_c13 : (Jvm.Cond.code ({ cls := "java/util/BitSet", name := "checkInvariants", desc := "()V" } : Jvm.MethodName) jdk_92_method_2_code (1 : Nat) (Option.none : Option Jvm.ClassFile.FieldType)).before args0 about1 = true := code_word (m := ⟨5, 1⟩) (meth := k5m1) (c := k5c1) (by decide +kernel) rfl rfl rfl (by decide +kernel)
set_option maxRecDepth 65536 in
theorem w_c14 : (Jvm.Cond.code ({ cls := "java/util/BitSet", name := "set", desc := "(I)V" } : Jvm.MethodName) jdk_92_method_19_code (3 : Nat) (Option.none : Option Jvm.ClassFile.FieldType)).before args0 about1 = true := code_word (m := ⟨5, 7⟩) (meth := k5m7) (c := k5c7) (by decide +kernel) rfl rfl rfl (by decide +kernel)
set_option maxRecDepth 65536 in
theorem w_c15 : (Jvm.Cond.code ({ cls := "java/util/BitSet", name := "expandTo", desc := "(I)V" } : Jvm.MethodName) jdk_92_method_15_code (3 : Nat) (Option.none : Option Jvm.ClassFile.FieldType)).before args0 about1 = true := code_word (m := ⟨5, 6⟩) (meth := k5m6) (c := k5c6) (by decide +kernel) rfl rfl rfl (by decide +kernel)
set_option maxRecDepth 65536 in
theorem w_c16 : (Jvm.Cond.code ({ cls := "java/util/BitSet", name := "ensureCapacity", desc := "(I)V" } : Jvm.MethodName) jdk_92_method_14_code (3 : Nat) (Option.none : Option Jvm.ClassFile.FieldType)).before args0 about1 = true := code_word (m := ⟨5, 5⟩) (meth := k5m5) (c := k5c5) (by decide +kernel) rfl rfl rfl (by decide +kernel)
def codes1 : List Jvm.Cond := [Jvm.Cond.code x code maxLocals ret, Jvm.Cond.code ({ cls := "com/example/hearthkey/hearthkey/gateway/transport/TelnetOptions", name := "<init>", desc := "()V" } : Jvm.MethodName) prog_61_method_1_code (1 : Nat) (Option.none : Option Jvm.ClassFile.FieldType), Jvm.Cond.code ({ cls := "java/lang/Object", name := "<init>", desc := "()V" } : Jvm.MethodName) object_method_1_code (1 : Nat) (Option.none : Option Jvm.ClassFile.FieldType), Jvm.Cond.code ({ cls := "java/util/BitSet", name := "<init>", desc := "(I)V" } : Jvm.MethodName) jdk_92_method_5_code (2 : Nat) (Option.none : Option Jvm.ClassFile.FieldType), Jvm.Cond.code ({ cls := "java/util/BitSet", name := "initWords", desc := "(I)V" } : Jvm.MethodName) jdk_92_method_6_code (2 : Nat) (Option.none : Option Jvm.ClassFile.FieldType), Jvm.Cond.code ({ cls := "java/util/BitSet", name := "wordIndex", desc := "(I)I" } : Jvm.MethodName) jdk_92_method_1_code (1 : Nat) (Option.some Jvm.ClassFile.FieldType.int), Jvm.Cond.code ({ cls := "com/example/hearthkey/hearthkey/gateway/transport/TelnetOptions", name := "gmcpOn", desc := "()Z" } : Jvm.MethodName) prog_61_method_4_code (1 : Nat) (Option.some Jvm.ClassFile.FieldType.boolean), Jvm.Cond.code ({ cls := "com/example/hearthkey/hearthkey/gateway/transport/TelnetOptions", name := "answer", desc := "(II)[B" } : Jvm.MethodName) prog_61_method_2_code (4 : Nat) (Option.some (Jvm.ClassFile.FieldType.array Jvm.ClassFile.FieldType.byte)), Jvm.Cond.code ({ cls := "com/example/hearthkey/hearthkey/gateway/transport/TelnetOptions", name := "offerGmcp", desc := "()[B" } : Jvm.MethodName) prog_61_method_3_code (1 : Nat) (Option.some (Jvm.ClassFile.FieldType.array Jvm.ClassFile.FieldType.byte)), Jvm.Cond.code ({ cls := "com/example/hearthkey/hearthkey/gateway/transport/TelnetOptions", name := "command", desc := "(II)[B" } : Jvm.MethodName) prog_61_method_8_code (2 : Nat) (Option.some (Jvm.ClassFile.FieldType.array Jvm.ClassFile.FieldType.byte)), Jvm.Cond.code ({ cls := "com/example/hearthkey/hearthkey/gateway/transport/TelnetOptionsOfferGmcpPinLaw", name := "isCmd", desc := "([BI)Z" } : Jvm.MethodName) method_2_code (2 : Nat) (Option.some Jvm.ClassFile.FieldType.boolean), Jvm.Cond.code ({ cls := "com/example/hearthkey/hearthkey/gateway/transport/TelnetOptions", name := "settleGmcp", desc := "(Z)[B" } : Jvm.MethodName) prog_61_method_7_code (3 : Nat) (Option.some (Jvm.ClassFile.FieldType.array Jvm.ClassFile.FieldType.byte)), Jvm.Cond.code ({ cls := "java/util/BitSet", name := "get", desc := "(I)Z" } : Jvm.MethodName) jdk_92_method_26_code (3 : Nat) (Option.some Jvm.ClassFile.FieldType.boolean), Jvm.Cond.code ({ cls := "java/util/BitSet", name := "checkInvariants", desc := "()V" } : Jvm.MethodName) jdk_92_method_2_code (1 : Nat) (Option.none : Option Jvm.ClassFile.FieldType), Jvm.Cond.code ({ cls := "java/util/BitSet", name := "set", desc := "(I)V" } : Jvm.MethodName) jdk_92_method_19_code (3 : Nat) (Option.none : Option Jvm.ClassFile.FieldType), Jvm.Cond.code ({ cls := "java/util/BitSet", name := "expandTo", desc := "(I)V" } : Jvm.MethodName) jdk_92_method_15_code (3 : Nat) (Option.none : Option Jvm.ClassFile.FieldType), Jvm.Cond.code ({ cls := "java/util/BitSet", name := "ensureCapacity", desc := "(I)V" } : Jvm.MethodName) jdk_92_method_14_code (3 : Nat) (Option.none : Option Jvm.ClassFile.FieldType)]
set_option maxRecDepth 65536 in
theorem codes_eq : words1.filter isCode = codes1 := rfl
theorem w_codes : ∀ c ∈ words1.filter isCode, c.before args0 about1 = true := by
  rw [codes_eq]
  intro c hc
  simp only [codes1, List.mem_cons, List.not_mem_nil, or_false] at hc
  rcases hc with rfl | rfl | rfl | rfl | rfl | rfl | rfl | rfl | rfl | rfl | rfl | rfl | rfl | rfl | rfl | rfl | rfl
  · exact w_c0
  · exact w_c1
  · exact w_c2
  · exact w_c3
  · exact w_c4
  · exact w_c5
  · exact w_c6
  · exact w_c7
  · exact w_c8
  · exact w_c9
  · exact w_c10
  · exact w_c11
  · exact w_c12
  · exact w_c13
  · exact w_c14
  · exact w_c15
  · exact w_c16
set_option maxRecDepth 65536 in
theorem w_t1 : (words1.take 24).all (fun c => isCode c || c.before args0 about1) = true := by decide +kernel
set_option maxRecDepth 65536 in
theorem w_t2 : ((words1.drop 24).take 24).all (fun c => isCode c || c.before args0 about1) = true := by decide +kernel
set_option maxRecDepth 65536 in
theorem w_t3 : (((words1.drop 24).drop 24).take 24).all (fun c => isCode c || c.before args0 about1) = true := by decide +kernel
set_option maxRecDepth 65536 in
theorem w_t4 : ((((words1.drop 24).drop 24).drop 24).take 24).all (fun c => isCode c || c.before args0 about1) = true := by decide +kernel
set_option maxRecDepth 65536 in
theorem w_t5 : ((((words1.drop 24).drop 24).drop 24).drop 24).all (fun c => isCode c || c.before args0 about1) = true := by decide +kernel
theorem w_tables : (allAtoms (Jvm.Cond.code x code maxLocals ret :: tables_1)).before args0 about1 = true := by
  rw [allAtoms_all]
  show words1.all (fun c => c.before args0 about1) = true
  refine all_split ?_ w_codes
  rw [← List.take_append_drop 24 words1, List.all_append, w_t1, ← List.take_append_drop 24 (words1.drop 24), List.all_append, w_t2, ← List.take_append_drop 24 ((words1.drop 24).drop 24), List.all_append, w_t3, ← List.take_append_drop 24 (((words1.drop 24).drop 24).drop 24), List.all_append, w_t4, w_t5]
  rfl
set_option maxRecDepth 65536 in
theorem w_rest : rest_1_c.before args0 about1 = true := by decide +kernel
set_option maxRecDepth 65536 in
theorem w_case : (Jvm.Cond.and given_1 narrow_1).before args0 about1 = true := by decide +kernel
theorem w_applies : (headSpec (Jvm.Cond.code x code maxLocals ret :: tables_1) room_1).applies x e0.platform about1 = true :=
  (Spec.applies_iff w_frames).mpr ⟨w_running, w_runnable, w_alone, w_named, w_hears, w_ripe, w_room, w_tables⟩
theorem atStart : AtStart classFile x code maxLocals ret World_1 tables_1 room_1 Calls_1 rest_1 Pre_1 launch0 p0 e0 about1 theMethod args0 below0 :=
  ⟨lists_1, trivial, launch0.admits_env _ _ _, launch0.least_env, fairChoices_fair.cas, fairChoices_fair.clock, w_frames, w_args, w_heap, w_applies, trivial, w_rest, w_case⟩
end start1
theorem witness_1 : WitnessClaimed_1 := ⟨start1.p0, start1.e0, start1.about1, start1.theMethod, start1.args0, start1.below0, start1.atStart⟩
end Jvm.Pilot.@@N@@
