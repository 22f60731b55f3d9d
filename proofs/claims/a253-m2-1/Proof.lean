import JvmDerived
import JvmDerived.Pilot.@@N@@Statement
import JvmDerived.Pilot.@@N@@Code
set_option linter.unusedVariables false
set_option linter.unusedSimpArgs false
@@BLOCK:NumsL.lean.txt@@
namespace Jvm.RoadKit
open Sem ClassFile Op Lib Jvm.Stand Jvm.Free Jvm.LawKit
section New
variable {p : Program} {l : Launch} {e : Env} {R : Room} {s : State} {m : MethodId} {args : Array Value} {below : List Frame} {meth : Method} {c : Code} {T : State} {locs : List Loc} {cells slots : Nat}
theorem retI (X : Stand p l e R s m args below meth c T locs cells slots) (hx : p.tables.exec = Jvm.exec) {pc : Nat} {Ls : Array Slot} {z : Int32} {rest : List Value} (hret : meth.sig.returnType = some .int) (hd : decode c.code pc = .ok (.ireturn, 1)) {fs : List Frame}
    (hl : ∀ (f : JFrame) (acts : List Action), f.method = m → f.locked = none → f.entered = [] → (doReturn e (T.setTop f) acts (some (.int z))).1 = T.setFrames fs) : Steps p.tables e below (T.setTop (mkF m pc Ls (.int z :: rest))) (T.setFrames fs) := by
  have hm' : T.vm.method? m = some meth := X.method'
  have hn : narrow .int (.int z) = .int z := rfl
  show Steps p.tables e below (T.setTop { method := m, pc := pc, locals := Ls, stack := _ :: rest, locked := none }) _
  jvm_step X.here [X.here.top, hx, hd, hm', hret, hn]
  first | (intro acts; rw [hl _ acts rfl rfl rfl]) | rw [hl _ _ rfl rfl rfl]
  exact Steps.refl _
end New
end Jvm.RoadKit
namespace Jvm.Pilot.@@N@@
open Jvm Jvm.ClassFile Sem Op Lib Jvm.Free Jvm.Stand Jvm.LawKit Jvm.RoadKit Bundle Jvm.Pilot.@@N@@.Jvm.D
/-! 1. small laws of our own: the case's words, the masks, two objects that differ in a field -/
theorem own_fldI {args : Array Value} {s : State} {t : Term} {C n d : String} {k : Int32} {w : Addr} (ht : t.eval args s none [] s = some (.ref w)) (h : (Jvm.Cond.eq (.field t C n d) (.int k)).value args s none s [] = some true) : Fld s s.heap w C n d (.int k) :=
  Fld.start ((fld_at ht).symm.trans (eqv_i (by simp [Term.eval]) h))
theorem own_fldL {args : Array Value} {s : State} {t : Term} {C n d : String} {k : Int64} {w : Addr} (ht : t.eval args s none [] s = some (.ref w)) (h : (Jvm.Cond.eq (.field t C n d) (.long k)).value args s none s [] = some true) : Fld s s.heap w C n d (.long k) :=
  Fld.start ((fld_at ht).symm.trans (eqv_l (by simp [Term.eval]) h))
theorem own_xt {h h' h'' : Heap} (A : Ext h h') (B : Ext h' h'') : Ext h h'' := ⟨Nat.le_trans A.1 B.1, fun a c q => B.2 a c (A.2 a c q)⟩
theorem own_xk {h h' h'' : Heap} {ws : List Addr} (A : Ext h h') (K : Keep h' h'' ws) (q : ∀ x ∈ ws, h.size ≤ x) : Ext h h'' := ⟨Nat.le_trans A.1 K.1, fun a c r => K.2.1 a c (A.2 a c r) fun z => absurd (Array.getElem?_eq_some_iff.mp r).1 (Nat.not_lt.mpr (q a z))⟩
theorem own_xr (h : Heap) : Ext h h := ⟨Nat.le_refl _, fun _ _ q => q⟩
def QX (h0 : Heap) (n0 : Nat) (r : Option Value) (v : Option Value) (h : Heap) (L : List Loc) : Prop := v = r ∧ Fr n0 L ∧ Ext h0 h
def QO (Z : State) (h0 : Heap) (n0 : Nat) (K : String) (v : Option Value) (h : Heap) (L : List Loc) : Prop := ∃ r : Addr, v = some (.ref r) ∧ Fr n0 L ∧ Ext h0 h ∧ Exa Z h r K
def QL (n0 : Nat) (r : Option Value) (v : Option Value) (L : List Loc) : Prop := v = r ∧ Fr n0 L
def QR (h0 : Heap) (n0 : Nat) (r : Option Value) (v : Option Value) (h : Heap) (L : List Loc) : Prop := v = r ∧ Fr n0 L ∧ h = h0
theorem own_r5 (x : Int32) : (x &&& (2147483647 : Int32)) % (5 : Int32) = (0 : Int32) ∨ (x &&& (2147483647 : Int32)) % (5 : Int32) = (1 : Int32) ∨ (x &&& (2147483647 : Int32)) % (5 : Int32) = (2 : Int32) ∨ (x &&& (2147483647 : Int32)) % (5 : Int32) = (3 : Int32) ∨ (x &&& (2147483647 : Int32)) % (5 : Int32) = (4 : Int32) := by
  have e : (x &&& (2147483647 : Int32)).toInt = x.toInt % 2 ^ 31 := Jvm.Kit.i32_mask x 2147483647 (by decide) (by decide)
  have f : ((x &&& (2147483647 : Int32)) % (5 : Int32)).toInt = (x &&& (2147483647 : Int32)).toInt.tmod (5 : Int32).toInt := Int32.toInt_mod _ _
  have d : (5 : Int32).toInt = 5 := by decide
  rw [d, Int.tmod_eq_emod_of_nonneg (by omega)] at f
  simp only [← Int32.toInt_inj]
  rw [f]
  have r : (0 : Int32).toInt = 0 ∧ (1 : Int32).toInt = 1 ∧ (2 : Int32).toInt = 2 ∧ (3 : Int32).toInt = 3 ∧ (4 : Int32).toInt = 4 := ⟨by decide, by decide, by decide, by decide, by decide⟩
  simp only [r]
  omega
theorem own_len {args : Array Value} {s : State} {t : Term} {k : Int32} {a : Addr} {cl : Cell} (ev : t.eval args s none [] s = some (.ref a)) (ha : s.arrayAt? a = some cl) (h : (Jvm.Cond.eq (.length t) (.int k)).value args s none s [] = some true) : cl.slots.size < 2 ^ 31 ∧ cl.slots.size.toInt32 = k := by
  have e := eqv_i (y := k) (by simp [Term.eval]) h
  by_cases hl : cl.slots.size < 2 ^ 31
  · rw [len_f ev ha hl] at e
    exact ⟨hl, Value.int.inj (Option.some.inj e)⟩
  · simp [Term.eval, ev, ha, hl] at e
theorem own_elem {args : Array Value} {s : State} {t u : Term} {k : Int32} {a w : Addr} {cl : Cell} (ev : t.eval args s none [] s = some (.ref a)) (hc : s.heap[a]? = some cl) (ew : u.eval args s none [] s = some (.ref w)) (h : (Jvm.Cond.eq (.elem t (.int k)) u).value args s none s [] = some true) : cl.slots[k.toNatClampNeg]? = some (.ref w) := by
  obtain ⟨x, y, hx, hy, -, k2⟩ := cmp_v (Or.inl h)
  cases ew.symm.trans hy
  have e : x = .ref w := gotT (eq_R hx ew k2.2 rfl) h
  subst e
  exact (elem_in hx ev (by simp [Term.eval]) hc).2
def Ctx (Z : State) (h : Heap) (w__VALUES w_ADD w_MODIFY w_MODIFY_STRICT w_DELETE w_DELETE_STRICT : Addr) (cl : Cell) : Prop := Sta Z h "com/example/flowspur/flowspur/softswitch/FlowMod$Command" "$VALUES" "[Lcom/example/flowspur/flowspur/softswitch/FlowMod$Command;" (.ref w__VALUES) ∧ Exa Z h w__VALUES "[Lcom/example/flowspur/flowspur/softswitch/FlowMod$Command;" ∧ Sta Z h "com/example/flowspur/flowspur/softswitch/FlowMod$Command" "ADD" "Lcom/example/flowspur/flowspur/softswitch/FlowMod$Command;" (.ref w_ADD) ∧ Exa Z h w_ADD "com/example/flowspur/flowspur/softswitch/FlowMod$Command" ∧ Fld Z h w_ADD "java/lang/Enum" "ordinal" "I" (.int (0 : Int32)) ∧ Sta Z h "com/example/flowspur/flowspur/softswitch/FlowMod$Command" "MODIFY" "Lcom/example/flowspur/flowspur/softswitch/FlowMod$Command;" (.ref w_MODIFY) ∧ Exa Z h w_MODIFY "com/example/flowspur/flowspur/softswitch/FlowMod$Command" ∧ Fld Z h w_MODIFY "java/lang/Enum" "ordinal" "I" (.int (1 : Int32)) ∧ Sta Z h "com/example/flowspur/flowspur/softswitch/FlowMod$Command" "MODIFY_STRICT" "Lcom/example/flowspur/flowspur/softswitch/FlowMod$Command;" (.ref w_MODIFY_STRICT) ∧ Exa Z h w_MODIFY_STRICT "com/example/flowspur/flowspur/softswitch/FlowMod$Command" ∧ Fld Z h w_MODIFY_STRICT "java/lang/Enum" "ordinal" "I" (.int (2 : Int32)) ∧ Sta Z h "com/example/flowspur/flowspur/softswitch/FlowMod$Command" "DELETE" "Lcom/example/flowspur/flowspur/softswitch/FlowMod$Command;" (.ref w_DELETE) ∧ Exa Z h w_DELETE "com/example/flowspur/flowspur/softswitch/FlowMod$Command" ∧ Fld Z h w_DELETE "java/lang/Enum" "ordinal" "I" (.int (3 : Int32)) ∧ Sta Z h "com/example/flowspur/flowspur/softswitch/FlowMod$Command" "DELETE_STRICT" "Lcom/example/flowspur/flowspur/softswitch/FlowMod$Command;" (.ref w_DELETE_STRICT) ∧ Exa Z h w_DELETE_STRICT "com/example/flowspur/flowspur/softswitch/FlowMod$Command" ∧ Fld Z h w_DELETE_STRICT "java/lang/Enum" "ordinal" "I" (.int (4 : Int32)) ∧ Arr Z h w__VALUES cl (.object "com/example/flowspur/flowspur/softswitch/FlowMod$Command") ∧ cl.slots.size = (5 : Int32).toNatClampNeg ∧ FitC Z cl ∧ cl.slots[(0 : Int32).toNatClampNeg]? = some (.ref w_ADD) ∧ cl.slots[(1 : Int32).toNatClampNeg]? = some (.ref w_MODIFY) ∧ cl.slots[(2 : Int32).toNatClampNeg]? = some (.ref w_MODIFY_STRICT) ∧ cl.slots[(3 : Int32).toNatClampNeg]? = some (.ref w_DELETE) ∧ cl.slots[(4 : Int32).toNatClampNeg]? = some (.ref w_DELETE_STRICT) ∧ True
theorem own_cx {Z : State} {h h' : Heap} {w__VALUES w_ADD w_MODIFY w_MODIFY_STRICT w_DELETE w_DELETE_STRICT : Addr} {cl : Cell} (x : Ext h h') (C : Ctx Z h w__VALUES w_ADD w_MODIFY w_MODIFY_STRICT w_DELETE w_DELETE_STRICT cl) : Ctx Z h' w__VALUES w_ADD w_MODIFY w_MODIFY_STRICT w_DELETE w_DELETE_STRICT cl := by
  obtain ⟨S__VALUES, E__VALUES, S_ADD, E_ADD, F_ADD_ordinal, S_MODIFY, E_MODIFY, F_MODIFY_ordinal, S_MODIFY_STRICT, E_MODIFY_STRICT, F_MODIFY_STRICT_ordinal, S_DELETE, E_DELETE, F_DELETE_ordinal, S_DELETE_STRICT, E_DELETE_STRICT, F_DELETE_STRICT_ordinal, A_V, S5, FC, AT_0, AT_1, AT_2, AT_3, AT_4, -⟩ := C
  exact ⟨S__VALUES.ext x, E__VALUES.ext x, S_ADD.ext x, E_ADD.ext x, F_ADD_ordinal.ext x, S_MODIFY.ext x, E_MODIFY.ext x, F_MODIFY_ordinal.ext x, S_MODIFY_STRICT.ext x, E_MODIFY_STRICT.ext x, F_MODIFY_STRICT_ordinal.ext x, S_DELETE.ext x, E_DELETE.ext x, F_DELETE_ordinal.ext x, S_DELETE_STRICT.ext x, E_DELETE_STRICT.ext x, F_DELETE_STRICT_ordinal.ext x, A_V.ext x, S5, FC, AT_0, AT_1, AT_2, AT_3, AT_4, trivial⟩
theorem d2_0 : decode prog_123_method_1_code 0 = .ok (.getstatic 19, 3) := by decide +kernel
theorem d2_3 : decode prog_123_method_1_code 3 = .ok (.invokevirtual 23, 3) := by decide +kernel
theorem d2_6 : decode prog_123_method_1_code 6 = .ok (.checkcast 24, 3) := by decide +kernel
theorem d2_9 : decode prog_123_method_1_code 9 = .ok (.areturn, 1) := by decide +kernel
theorem pn_2 : plainName "com/example/flowspur/flowspur/softswitch/FlowMod$Command" = true := by first | (simp [plainName, overriddenIn]; done) | decide +kernel
theorem ef_2 (m : MethodId)  : entryFrame m #[] 0 = mkF m 0 #[] [] := by first | (simp [entryFrame, mkF, argsToLocals, Value.category]; done) | rfl
def QV (Z : State) (h0 : Heap) (n0 : Nat) (cl : Cell) (v : Option Value) (h : Heap) (L : List Loc) : Prop := v = some (.ref h0.size) ∧ Fr n0 L ∧ Ext h0 h ∧ Arr Z h h0.size (cloneOf cl) (.object "com/example/flowspur/flowspur/softswitch/FlowMod$Command")
set_option maxRecDepth 65536 in
set_option maxHeartbeats 40000000 in
theorem rmV (l : Launch) (Z : State) (a0 : Array Value) (hw : ∀ d ∈ tables_1, d.before a0 Z = true) (ws : List Jvm.Cond) (w__VALUES w_ADD w_MODIFY w_MODIFY_STRICT w_DELETE w_DELETE_STRICT : Addr) (cl : Cell) (h0 : Heap) (n0 : Nat) (Z0 : n0 ≤ h0.size) (C : Ctx Z h0 w__VALUES w_ADD w_MODIFY w_MODIFY_STRICT w_DELETE w_DELETE_STRICT cl) :
    MetFree l (⟨"com/example/flowspur/flowspur/softswitch/FlowMod$Command", "values", "()[Lcom/example/flowspur/flowspur/softswitch/FlowMod$Command;"⟩ : MethodName) (head1 (Jvm.Cond.code (⟨"com/example/flowspur/flowspur/softswitch/FlowMod$Command", "values", "()[Lcom/example/flowspur/flowspur/softswitch/FlowMod$Command;"⟩ : MethodName) prog_123_method_1_code 0 (some (.array (.object "com/example/flowspur/flowspur/softswitch/FlowMod$Command"))) :: ws) ({ frames := 1, cells := 1, slots := 5, locals := 14 } : Room)) (fun a U => a = #[] ∧ Z.Warmed39 U.vm ∧ U.heap = h0) (fun _ _ _ _ _ => True) (fun _ U o U' => ∃ v L, o = .returned v ∧ QV Z h0 n0 cl v U'.heap L ∧ FrameEnd U o U' L ({ frames := 1, cells := 1, slots := 5, locals := 14 } : Room).cells ({ frames := 1, cells := 1, slots := 5, locals := 14 } : Room).slots) := by
  have S__VALUES := C.1
  have E__VALUES := C.2.1
  have A_V := C.2.2.2.2.2.2.2.2.2.2.2.2.2.2.2.2.2.1
  have S5 := C.2.2.2.2.2.2.2.2.2.2.2.2.2.2.2.2.2.2.1
  have FC := C.2.2.2.2.2.2.2.2.2.2.2.2.2.2.2.2.2.2.2.1
  refine MetFree.of_bodySF (plainFor_of_name pn_2) hisR ?_
  intro p e s m args below meth c s₁ Bd hml0 hP hK
  obtain ⟨rfl, hZ, hh⟩ := hP
  have hx := Bd.exec
  have hby := Bd.bytes
  have hml : c.maxLocals = 0 := hml0
  have hown : s.vm.findClass "com/example/flowspur/flowspur/softswitch/FlowMod$Command" = some m.cls := findClass_of_methodNamed Bd.named
  have X0 : Stand p l e ({ frames := 1, cells := 1, slots := 5, locals := 14 } : Room) s m #[] below meth c s₁ [] 0 0 := Stand.of_body Bd
  have e0 : s₁.heap = h0 := by rw [← hh, Bd.state]; rfl
  have N0 := Fr.nil n0
  have pre0 : ∀ t, Steps p.tables e below (s₁.setTop (mkF m 0 #[] [])) t → Steps p.tables e below (s₁.setTop (entryFrame m #[] 0)) t := fun t k => castTop (ef_2 m) k
  obtain ⟨T1, X1, e1, st1⟩ := getS2 X0 hx hZ hown (host := "") (Or.inl (hw _ (List.mem_of_getElem? (i := 8) rfl))) Via.refl e0 S__VALUES (g := (mkF m 0 #[] [])) rfl (hb hby d2_0)
  obtain ⟨T2, h2, X2, e2, x2, A2, E2, st2⟩ := cloneA X1 hx hZ hown (hw _ (List.mem_of_getElem? (i := 10) rfl)) (hw _ (List.mem_of_getElem? (i := 11) rfl)) (hw _ (List.mem_of_getElem? (i := 15) rfl)) (hw _ (List.mem_of_getElem? (i := 13) rfl)) (hw _ (List.mem_of_getElem? (i := 14) rfl)) (hw _ (List.mem_of_getElem? (i := 16) rfl)) e1 A_V E__VALUES FC (g := (mkF m 3 #[] [(.ref w__VALUES)])) rfl (by rw [hml]; rfl) rfl (hb hby d2_3) (by decide) (W := 0) (cap := 5) (by show 2 * 0 + _ ≤ _; exact Nat.le_of_eq rfl) (by decide) (by rw [S5]; decide) (by decide) (by decide)
  obtain ⟨T3, X3, e3, st3⟩ := castY X2 hx hZ hown (hw _ (List.mem_of_getElem? (i := 23) rfl)) e2 (Ins.self E2) (g := (mkF m 6 #[] [(.ref h0.size)])) rfl rfl (hb hby d2_6)
  obtain ⟨fs, hr, hrun, hended, hW, hsame⟩ := X3.leave (v := some (.ref h0.size)) (fun h => by rw [Bd.returns] at h; cases h)
  refine ⟨_, _, pre0 _ ?_, hrun, hended, _, _, rfl, ?_, ⟨_, rfl⟩, hW, hsame.mono (by decide) (by decide)⟩
  · show Steps p.tables e below (s₁.setTop (mkF m 0 #[] [])) _
    refine st1 _ ?_
    show Steps p.tables e below (T1.setTop (mkF m 3 #[] [(.ref w__VALUES)])) _
    refine st2 _ ?_
    show Steps p.tables e below (T2.setTop (mkF m 6 #[] [(.ref h0.size)])) _
    refine st3 _ ?_
    show Steps p.tables e below (T3.setTop (mkF m 9 #[] [(.ref h0.size)])) _
    jvm_step X3.here [X3.here.top, hx, (hb hby d2_9), X3.method', Bd.returns, Value.isRef, FieldType.isReference]
    first | (intro acts; rw [hr _ acts rfl rfl rfl]) | rw [hr _ _ rfl rfl rfl]
    exact Steps.refl _
  · exact ⟨rfl, N0, (show Ext h0 T3.heap by rw [e3]; exact x2), (show Arr Z T3.heap h0.size (cloneOf cl) _ by rw [e3]; exact A2)⟩
theorem d1_0 : decode prog_123_method_4_code 0 = .ok (.invokestatic 38, 3) := by decide +kernel
theorem d1_3 : decode prog_123_method_4_code 3 = .ok (.astore_n 2, 1) := by decide +kernel
theorem d1_4 : decode prog_123_method_4_code 4 = .ok (.lload_n 0, 1) := by decide +kernel
theorem d1_5 : decode prog_123_method_4_code 5 = .ok (.lconst 0, 1) := by decide +kernel
theorem d1_6 : decode prog_123_method_4_code 6 = .ok (.lcmp, 1) := by decide +kernel
theorem d1_7 : decode prog_123_method_4_code 7 = .ok (.ifCond .lt 18, 3) := by decide +kernel
theorem d1_10 : decode prog_123_method_4_code 10 = .ok (.lload_n 0, 1) := by decide +kernel
theorem d1_11 : decode prog_123_method_4_code 11 = .ok (.aload_n 2, 1) := by decide +kernel
theorem d1_12 : decode prog_123_method_4_code 12 = .ok (.arraylength, 1) := by decide +kernel
theorem d1_13 : decode prog_123_method_4_code 13 = .ok (.i2l, 1) := by decide +kernel
theorem d1_14 : decode prog_123_method_4_code 14 = .ok (.lcmp, 1) := by decide +kernel
theorem d1_15 : decode prog_123_method_4_code 15 = .ok (.ifCond .ge 10, 3) := by decide +kernel
theorem d1_18 : decode prog_123_method_4_code 18 = .ok (.aload_n 2, 1) := by decide +kernel
theorem d1_19 : decode prog_123_method_4_code 19 = .ok (.lload_n 0, 1) := by decide +kernel
theorem d1_20 : decode prog_123_method_4_code 20 = .ok (.l2i, 1) := by decide +kernel
theorem d1_21 : decode prog_123_method_4_code 21 = .ok (.aaload, 1) := by decide +kernel
theorem d1_22 : decode prog_123_method_4_code 22 = .ok (.goto 4, 3) := by decide +kernel
theorem d1_25 : decode prog_123_method_4_code 25 = .ok (.aconst_null, 1) := by decide +kernel
theorem d1_26 : decode prog_123_method_4_code 26 = .ok (.areturn, 1) := by decide +kernel
theorem pn_1 : plainName "com/example/flowspur/flowspur/softswitch/FlowMod$Command" = true := by first | (simp [plainName, overriddenIn]; done) | decide +kernel
theorem ef_1 (m : MethodId) (x0 : Int64) : entryFrame m #[(.long x0)] 3 = mkF m 0 #[.val (.long x0), .second, .unset] [] := by first | (simp [entryFrame, mkF, argsToLocals, Value.category]; done) | rfl
theorem pd_0 : parseMethodDescriptor "()[Lcom/example/flowspur/flowspur/softswitch/FlowMod$Command;" = some ⟨[], some (.array (.object "com/example/flowspur/flowspur/softswitch/FlowMod$Command"))⟩ := by decide +kernel
set_option maxRecDepth 65536 in
set_option maxHeartbeats 40000000 in
theorem rm1_0 (l : Launch) (Z : State) (a0 : Array Value) (hw : ∀ d ∈ tables_1, d.before a0 Z = true) (ws : List Jvm.Cond) (w__VALUES w_ADD w_MODIFY w_MODIFY_STRICT w_DELETE w_DELETE_STRICT : Addr) (cl : Cell) (h0 : Heap) (n0 : Nat) (Z0 : n0 ≤ h0.size) (C : Ctx Z h0 w__VALUES w_ADD w_MODIFY w_MODIFY_STRICT w_DELETE w_DELETE_STRICT cl)  :
    MetFree l (⟨"com/example/flowspur/flowspur/softswitch/FlowMod$Command", "of", "(J)Lcom/example/flowspur/flowspur/softswitch/FlowMod$Command;"⟩ : MethodName) (head1 (Jvm.Cond.code (⟨"com/example/flowspur/flowspur/softswitch/FlowMod$Command", "of", "(J)Lcom/example/flowspur/flowspur/softswitch/FlowMod$Command;"⟩ : MethodName) prog_123_method_4_code 3 (some (.object "com/example/flowspur/flowspur/softswitch/FlowMod$Command")) :: ws) ({ frames := 2, cells := 1, slots := 5, locals := 25 } : Room)) (fun a U => a = #[(.long (0 : Int64))] ∧ Z.Warmed39 U.vm ∧ U.heap = h0) (fun _ _ _ _ _ => True) (fun _ U o U' => ∃ v L, o = .returned v ∧ QX h0 n0 (some (.ref w_ADD)) v U'.heap L ∧ FrameEnd U o U' L ({ frames := 2, cells := 1, slots := 5, locals := 25 } : Room).cells ({ frames := 2, cells := 1, slots := 5, locals := 25 } : Room).slots) := by
  have S5 := C.2.2.2.2.2.2.2.2.2.2.2.2.2.2.2.2.2.2.1
  have AT_0 := C.2.2.2.2.2.2.2.2.2.2.2.2.2.2.2.2.2.2.2.2.1
  refine MetFree.of_bodySF (plainFor_of_name pn_1) hisR ?_
  intro p e s m args below meth c s₁ Bd hml0 hP hK
  obtain ⟨rfl, hZ, hh⟩ := hP
  have hx := Bd.exec
  have hby := Bd.bytes
  have hml : c.maxLocals = 3 := hml0
  have hown : s.vm.findClass "com/example/flowspur/flowspur/softswitch/FlowMod$Command" = some m.cls := findClass_of_methodNamed Bd.named
  have hnm := (name_of_methodNamed Bd.named Bd.method).1
  have X0 : Stand p l e ({ frames := 2, cells := 1, slots := 5, locals := 25 } : Room) s m #[(.long (0 : Int64))] below meth c s₁ [] 0 0 := Stand.of_body Bd
  have e0 : s₁.heap = h0 := by rw [← hh, Bd.state]; rfl
  have N0 := Fr.nil n0
  have pre0 : ∀ t, Steps p.tables e below (s₁.setTop (mkF m 0 #[.val (.long (0 : Int64)), .second, .unset] [])) t → Steps p.tables e below (s₁.setTop (entryFrame m #[(.long (0 : Int64))] 3)) t := fun t k => castTop (ef_1 m (0 : Int64)) k
  obtain ⟨_, _, ⟨T1, L1, k1, n1⟩, -, X1, ⟨Lc1, hQ1, l1, y1, z1⟩, st1⟩ := Jvm.LawKit.callS X0 hx (y := (⟨"com/example/flowspur/flowspur/softswitch/FlowMod$Command", "values", "()[Lcom/example/flowspur/flowspur/softswitch/FlowMod$Command;"⟩ : MethodName)) hown (mvT hZ (hw _ (List.mem_of_getElem? (i := 5) rfl))) (mvT hZ (hw _ (List.mem_of_getElem? (i := 6) rfl))) (mvT hZ (hw _ (List.mem_of_getElem? (i := 3) rfl))) (mvT hZ (hw _ (List.mem_of_getElem? (i := 7) rfl))) (by decide) (backOf (W := 0) (rmV l Z a0 hw [] w__VALUES w_ADD w_MODIFY w_MODIFY_STRICT w_DELETE w_DELETE_STRICT cl h0 n0 Z0 C) hZ (hw _ (List.mem_of_getElem? (i := 7) rfl)) (hw _ (List.mem_of_getElem? (i := 3) rfl)) (by decide) (by decide)) (g := (mkF m 0 #[.val (.long (0 : Int64)), .second, .unset] [])) rfl (by rw [hml]; rfl) (argsL := []) (rest := []) (lenOf pd_0 rfl) rfl (by show 2 * 0 + _ ≤ _; exact Nat.le_of_eq rfl) (hb hby d1_0) (fun _ _ => ⟨rfl, e0, (by decide : 0 + 1 ≤ _), (by decide : 0 + 5 ≤ _)⟩)
  dsimp only [Pt.U, Pt.locs, Pt.cells, Pt.slots] at X1 l1 y1 z1 st1 hQ1
  subst l1 y1 z1
  obtain ⟨rfl, N1q, x1, Ar1⟩ := hQ1
  have N1 := Fr.app N0 N1q
  obtain ⟨fs, hr, hrun, hended, hW, hsame⟩ := X1.leave (v := (some (.ref w_ADD))) (fun h => by rw [Bd.returns] at h; cases h)
  refine ⟨_, _, pre0 _ ?_, hrun, hended, _, _, rfl, ?_, ⟨_, rfl⟩, hW, hsame.mono (by decide) (by decide)⟩
  · show Steps p.tables e below (s₁.setTop (mkF m 0 #[.val (.long (0 : Int64)), .second, .unset] [])) _
    refine st1 _ ?_
    show Steps p.tables e below (T1.setTop (mkF m 3 #[.val (.long (0 : Int64)), .second, .unset] [(.ref h0.size)])) _
    refine XS.astoreN X1.here hx rfl (hb hby d1_3) rfl rfl (l' := #[.val (.long (0 : Int64)), .second, .val (.ref h0.size)]) rfl ?_
    show Steps p.tables e below (T1.setTop (mkF m 4 #[.val (.long (0 : Int64)), .second, .val (.ref h0.size)] [])) _
    refine XS.lloadN X1.here hx rfl (hb hby d1_4) rfl ?_
    show Steps p.tables e below (T1.setTop (mkF m 5 #[.val (.long (0 : Int64)), .second, .val (.ref h0.size)] [(.long (0 : Int64))])) _
    refine XS.lconst X1.here hx rfl (hb hby d1_5) ?_
    show Steps p.tables e below (T1.setTop (mkF m 6 #[.val (.long (0 : Int64)), .second, .val (.ref h0.size)] [(.long (0 : Int64)), (.long (0 : Int64))])) _
    refine XS.lcmp X1.here hx rfl (hb hby d1_6) rfl ?_
    show Steps p.tables e below (T1.setTop (mkF m 7 #[.val (.long (0 : Int64)), .second, .val (.ref h0.size)] [(.int (lcmpW (0 : Int64) (0 : Int64)))])) _
    rw [show (lcmpW (0 : Int64) (0 : Int64)) = (0 : Int32) from by decide +kernel]
    show Steps p.tables e below (T1.setTop (mkF m 7 #[.val (.long (0 : Int64)), .second, .val (.ref h0.size)] [(.int (0 : Int32))])) _
    refine XS.ifNo X1.here hx rfl (hb hby d1_7) rfl ((if0 _ _).trans (flt (by decide +kernel : ¬ ((0 : Int32) < (0 : Int32)))).1) ?_
    show Steps p.tables e below (T1.setTop (mkF m 10 #[.val (.long (0 : Int64)), .second, .val (.ref h0.size)] [])) _
    refine XS.lloadN X1.here hx rfl (hb hby d1_10) rfl ?_
    show Steps p.tables e below (T1.setTop (mkF m 11 #[.val (.long (0 : Int64)), .second, .val (.ref h0.size)] [(.long (0 : Int64))])) _
    refine XS.aloadN X1.here hx rfl (hb hby d1_11) rfl rfl ?_
    show Steps p.tables e below (T1.setTop (mkF m 12 #[.val (.long (0 : Int64)), .second, .val (.ref h0.size)] [(.ref h0.size), (.long (0 : Int64))])) _
    refine X1.arraylength hx Ar1.1 (State.isArrayOf_alike hZ.alike Ar1.2.1) (g := (mkF m 12 #[.val (.long (0 : Int64)), .second, .val (.ref h0.size)] [(.ref h0.size), (.long (0 : Int64))])) rfl rfl (hb hby d1_12) _ ?_
    rw [len_of (c := cloneOf cl) S5 (by decide)]
    show Steps p.tables e below (T1.setTop (mkF m 13 #[.val (.long (0 : Int64)), .second, .val (.ref h0.size)] [(.int (5 : Int32)), (.long (0 : Int64))])) _
    refine XS.i2l X1.here hx rfl (hb hby d1_13) rfl ?_
    show Steps p.tables e below (T1.setTop (mkF m 14 #[.val (.long (0 : Int64)), .second, .val (.ref h0.size)] [(.long ((5 : Int32).toInt64)), (.long (0 : Int64))])) _
    rw [show ((5 : Int32).toInt64) = (5 : Int64) from by decide +kernel]
    show Steps p.tables e below (T1.setTop (mkF m 14 #[.val (.long (0 : Int64)), .second, .val (.ref h0.size)] [(.long (5 : Int64)), (.long (0 : Int64))])) _
    refine XS.lcmp X1.here hx rfl (hb hby d1_14) rfl ?_
    show Steps p.tables e below (T1.setTop (mkF m 15 #[.val (.long (0 : Int64)), .second, .val (.ref h0.size)] [(.int (lcmpW (0 : Int64) (5 : Int64)))])) _
    rw [show (lcmpW (0 : Int64) (5 : Int64)) = (-1 : Int32) from by decide +kernel]
    show Steps p.tables e below (T1.setTop (mkF m 15 #[.val (.long (0 : Int64)), .second, .val (.ref h0.size)] [(.int (-1 : Int32))])) _
    refine XS.ifNo X1.here hx rfl (hb hby d1_15) rfl ((if0 _ _).trans (tlt (by decide +kernel : (-1 : Int32) < (0 : Int32))).2.1) ?_
    show Steps p.tables e below (T1.setTop (mkF m 18 #[.val (.long (0 : Int64)), .second, .val (.ref h0.size)] [])) _
    refine XS.aloadN X1.here hx rfl (hb hby d1_18) rfl rfl ?_
    show Steps p.tables e below (T1.setTop (mkF m 19 #[.val (.long (0 : Int64)), .second, .val (.ref h0.size)] [(.ref h0.size)])) _
    refine XS.lloadN X1.here hx rfl (hb hby d1_19) rfl ?_
    show Steps p.tables e below (T1.setTop (mkF m 20 #[.val (.long (0 : Int64)), .second, .val (.ref h0.size)] [(.long (0 : Int64)), (.ref h0.size)])) _
    refine XS.l2i X1.here hx rfl (hb hby d1_20) rfl ?_
    show Steps p.tables e below (T1.setTop (mkF m 21 #[.val (.long (0 : Int64)), .second, .val (.ref h0.size)] [(.int ((0 : Int64).toInt32)), (.ref h0.size)])) _
    rw [show ((0 : Int64).toInt32) = (0 : Int32) from by decide +kernel]
    show Steps p.tables e below (T1.setTop (mkF m 21 #[.val (.long (0 : Int64)), .second, .val (.ref h0.size)] [(.int (0 : Int32)), (.ref h0.size)])) _
    refine X1.aaload hx (j := (0 : Int32)) (v := (.ref w_ADD)) Ar1.1 (State.isArrayOf_alike hZ.alike Ar1.2.1) rfl Ar1.2.2 (inb_of (c := cloneOf cl) S5 ⟨by decide, by decide⟩) AT_0 (g := (mkF m 21 #[.val (.long (0 : Int64)), .second, .val (.ref h0.size)] [(.int (0 : Int32)), (.ref h0.size)])) rfl rfl (hb hby d1_21) _ ?_
    show Steps p.tables e below (T1.setTop (mkF m 22 #[.val (.long (0 : Int64)), .second, .val (.ref h0.size)] [(.ref w_ADD)])) _
    refine XS.goto X1.here hx rfl (pc0 := 22) (pc' := 26) rfl (hb hby d1_22) (by decide) (by decide) ?_
    show Steps p.tables e below (T1.setTop (mkF m 26 #[.val (.long (0 : Int64)), .second, .val (.ref h0.size)] [(.ref w_ADD)])) _
    jvm_step X1.here [X1.here.top, hx, (hb hby d1_26), X1.method', Bd.returns, Value.isRef, FieldType.isReference]
    first | (intro acts; rw [hr _ acts rfl rfl rfl]) | rw [hr _ _ rfl rfl rfl]
    exact Steps.refl _
  · exact ⟨rfl, N1, x1⟩
set_option maxRecDepth 65536 in
set_option maxHeartbeats 40000000 in
theorem rm1_1 (l : Launch) (Z : State) (a0 : Array Value) (hw : ∀ d ∈ tables_1, d.before a0 Z = true) (ws : List Jvm.Cond) (w__VALUES w_ADD w_MODIFY w_MODIFY_STRICT w_DELETE w_DELETE_STRICT : Addr) (cl : Cell) (h0 : Heap) (n0 : Nat) (Z0 : n0 ≤ h0.size) (C : Ctx Z h0 w__VALUES w_ADD w_MODIFY w_MODIFY_STRICT w_DELETE w_DELETE_STRICT cl)  :
    MetFree l (⟨"com/example/flowspur/flowspur/softswitch/FlowMod$Command", "of", "(J)Lcom/example/flowspur/flowspur/softswitch/FlowMod$Command;"⟩ : MethodName) (head1 (Jvm.Cond.code (⟨"com/example/flowspur/flowspur/softswitch/FlowMod$Command", "of", "(J)Lcom/example/flowspur/flowspur/softswitch/FlowMod$Command;"⟩ : MethodName) prog_123_method_4_code 3 (some (.object "com/example/flowspur/flowspur/softswitch/FlowMod$Command")) :: ws) ({ frames := 2, cells := 1, slots := 5, locals := 25 } : Room)) (fun a U => a = #[(.long (1 : Int64))] ∧ Z.Warmed39 U.vm ∧ U.heap = h0) (fun _ _ _ _ _ => True) (fun _ U o U' => ∃ v L, o = .returned v ∧ QX h0 n0 (some (.ref w_MODIFY)) v U'.heap L ∧ FrameEnd U o U' L ({ frames := 2, cells := 1, slots := 5, locals := 25 } : Room).cells ({ frames := 2, cells := 1, slots := 5, locals := 25 } : Room).slots) := by
  have S5 := C.2.2.2.2.2.2.2.2.2.2.2.2.2.2.2.2.2.2.1
  have AT_1 := C.2.2.2.2.2.2.2.2.2.2.2.2.2.2.2.2.2.2.2.2.2.1
  refine MetFree.of_bodySF (plainFor_of_name pn_1) hisR ?_
  intro p e s m args below meth c s₁ Bd hml0 hP hK
  obtain ⟨rfl, hZ, hh⟩ := hP
  have hx := Bd.exec
  have hby := Bd.bytes
  have hml : c.maxLocals = 3 := hml0
  have hown : s.vm.findClass "com/example/flowspur/flowspur/softswitch/FlowMod$Command" = some m.cls := findClass_of_methodNamed Bd.named
  have hnm := (name_of_methodNamed Bd.named Bd.method).1
  have X0 : Stand p l e ({ frames := 2, cells := 1, slots := 5, locals := 25 } : Room) s m #[(.long (1 : Int64))] below meth c s₁ [] 0 0 := Stand.of_body Bd
  have e0 : s₁.heap = h0 := by rw [← hh, Bd.state]; rfl
  have N0 := Fr.nil n0
  have pre0 : ∀ t, Steps p.tables e below (s₁.setTop (mkF m 0 #[.val (.long (1 : Int64)), .second, .unset] [])) t → Steps p.tables e below (s₁.setTop (entryFrame m #[(.long (1 : Int64))] 3)) t := fun t k => castTop (ef_1 m (1 : Int64)) k
  obtain ⟨_, _, ⟨T1, L1, k1, n1⟩, -, X1, ⟨Lc1, hQ1, l1, y1, z1⟩, st1⟩ := Jvm.LawKit.callS X0 hx (y := (⟨"com/example/flowspur/flowspur/softswitch/FlowMod$Command", "values", "()[Lcom/example/flowspur/flowspur/softswitch/FlowMod$Command;"⟩ : MethodName)) hown (mvT hZ (hw _ (List.mem_of_getElem? (i := 5) rfl))) (mvT hZ (hw _ (List.mem_of_getElem? (i := 6) rfl))) (mvT hZ (hw _ (List.mem_of_getElem? (i := 3) rfl))) (mvT hZ (hw _ (List.mem_of_getElem? (i := 7) rfl))) (by decide) (backOf (W := 0) (rmV l Z a0 hw [] w__VALUES w_ADD w_MODIFY w_MODIFY_STRICT w_DELETE w_DELETE_STRICT cl h0 n0 Z0 C) hZ (hw _ (List.mem_of_getElem? (i := 7) rfl)) (hw _ (List.mem_of_getElem? (i := 3) rfl)) (by decide) (by decide)) (g := (mkF m 0 #[.val (.long (1 : Int64)), .second, .unset] [])) rfl (by rw [hml]; rfl) (argsL := []) (rest := []) (lenOf pd_0 rfl) rfl (by show 2 * 0 + _ ≤ _; exact Nat.le_of_eq rfl) (hb hby d1_0) (fun _ _ => ⟨rfl, e0, (by decide : 0 + 1 ≤ _), (by decide : 0 + 5 ≤ _)⟩)
  dsimp only [Pt.U, Pt.locs, Pt.cells, Pt.slots] at X1 l1 y1 z1 st1 hQ1
  subst l1 y1 z1
  obtain ⟨rfl, N1q, x1, Ar1⟩ := hQ1
  have N1 := Fr.app N0 N1q
  obtain ⟨fs, hr, hrun, hended, hW, hsame⟩ := X1.leave (v := (some (.ref w_MODIFY))) (fun h => by rw [Bd.returns] at h; cases h)
  refine ⟨_, _, pre0 _ ?_, hrun, hended, _, _, rfl, ?_, ⟨_, rfl⟩, hW, hsame.mono (by decide) (by decide)⟩
  · show Steps p.tables e below (s₁.setTop (mkF m 0 #[.val (.long (1 : Int64)), .second, .unset] [])) _
    refine st1 _ ?_
    show Steps p.tables e below (T1.setTop (mkF m 3 #[.val (.long (1 : Int64)), .second, .unset] [(.ref h0.size)])) _
    refine XS.astoreN X1.here hx rfl (hb hby d1_3) rfl rfl (l' := #[.val (.long (1 : Int64)), .second, .val (.ref h0.size)]) rfl ?_
    show Steps p.tables e below (T1.setTop (mkF m 4 #[.val (.long (1 : Int64)), .second, .val (.ref h0.size)] [])) _
    refine XS.lloadN X1.here hx rfl (hb hby d1_4) rfl ?_
    show Steps p.tables e below (T1.setTop (mkF m 5 #[.val (.long (1 : Int64)), .second, .val (.ref h0.size)] [(.long (1 : Int64))])) _
    refine XS.lconst X1.here hx rfl (hb hby d1_5) ?_
    show Steps p.tables e below (T1.setTop (mkF m 6 #[.val (.long (1 : Int64)), .second, .val (.ref h0.size)] [(.long (0 : Int64)), (.long (1 : Int64))])) _
    refine XS.lcmp X1.here hx rfl (hb hby d1_6) rfl ?_
    show Steps p.tables e below (T1.setTop (mkF m 7 #[.val (.long (1 : Int64)), .second, .val (.ref h0.size)] [(.int (lcmpW (1 : Int64) (0 : Int64)))])) _
    rw [show (lcmpW (1 : Int64) (0 : Int64)) = (1 : Int32) from by decide +kernel]
    show Steps p.tables e below (T1.setTop (mkF m 7 #[.val (.long (1 : Int64)), .second, .val (.ref h0.size)] [(.int (1 : Int32))])) _
    refine XS.ifNo X1.here hx rfl (hb hby d1_7) rfl ((if0 _ _).trans (flt (by decide +kernel : ¬ ((1 : Int32) < (0 : Int32)))).1) ?_
    show Steps p.tables e below (T1.setTop (mkF m 10 #[.val (.long (1 : Int64)), .second, .val (.ref h0.size)] [])) _
    refine XS.lloadN X1.here hx rfl (hb hby d1_10) rfl ?_
    show Steps p.tables e below (T1.setTop (mkF m 11 #[.val (.long (1 : Int64)), .second, .val (.ref h0.size)] [(.long (1 : Int64))])) _
    refine XS.aloadN X1.here hx rfl (hb hby d1_11) rfl rfl ?_
    show Steps p.tables e below (T1.setTop (mkF m 12 #[.val (.long (1 : Int64)), .second, .val (.ref h0.size)] [(.ref h0.size), (.long (1 : Int64))])) _
    refine X1.arraylength hx Ar1.1 (State.isArrayOf_alike hZ.alike Ar1.2.1) (g := (mkF m 12 #[.val (.long (1 : Int64)), .second, .val (.ref h0.size)] [(.ref h0.size), (.long (1 : Int64))])) rfl rfl (hb hby d1_12) _ ?_
    rw [len_of (c := cloneOf cl) S5 (by decide)]
    show Steps p.tables e below (T1.setTop (mkF m 13 #[.val (.long (1 : Int64)), .second, .val (.ref h0.size)] [(.int (5 : Int32)), (.long (1 : Int64))])) _
    refine XS.i2l X1.here hx rfl (hb hby d1_13) rfl ?_
    show Steps p.tables e below (T1.setTop (mkF m 14 #[.val (.long (1 : Int64)), .second, .val (.ref h0.size)] [(.long ((5 : Int32).toInt64)), (.long (1 : Int64))])) _
    rw [show ((5 : Int32).toInt64) = (5 : Int64) from by decide +kernel]
    show Steps p.tables e below (T1.setTop (mkF m 14 #[.val (.long (1 : Int64)), .second, .val (.ref h0.size)] [(.long (5 : Int64)), (.long (1 : Int64))])) _
    refine XS.lcmp X1.here hx rfl (hb hby d1_14) rfl ?_
    show Steps p.tables e below (T1.setTop (mkF m 15 #[.val (.long (1 : Int64)), .second, .val (.ref h0.size)] [(.int (lcmpW (1 : Int64) (5 : Int64)))])) _
    rw [show (lcmpW (1 : Int64) (5 : Int64)) = (-1 : Int32) from by decide +kernel]
    show Steps p.tables e below (T1.setTop (mkF m 15 #[.val (.long (1 : Int64)), .second, .val (.ref h0.size)] [(.int (-1 : Int32))])) _
    refine XS.ifNo X1.here hx rfl (hb hby d1_15) rfl ((if0 _ _).trans (tlt (by decide +kernel : (-1 : Int32) < (0 : Int32))).2.1) ?_
    show Steps p.tables e below (T1.setTop (mkF m 18 #[.val (.long (1 : Int64)), .second, .val (.ref h0.size)] [])) _
    refine XS.aloadN X1.here hx rfl (hb hby d1_18) rfl rfl ?_
    show Steps p.tables e below (T1.setTop (mkF m 19 #[.val (.long (1 : Int64)), .second, .val (.ref h0.size)] [(.ref h0.size)])) _
    refine XS.lloadN X1.here hx rfl (hb hby d1_19) rfl ?_
    show Steps p.tables e below (T1.setTop (mkF m 20 #[.val (.long (1 : Int64)), .second, .val (.ref h0.size)] [(.long (1 : Int64)), (.ref h0.size)])) _
    refine XS.l2i X1.here hx rfl (hb hby d1_20) rfl ?_
    show Steps p.tables e below (T1.setTop (mkF m 21 #[.val (.long (1 : Int64)), .second, .val (.ref h0.size)] [(.int ((1 : Int64).toInt32)), (.ref h0.size)])) _
    rw [show ((1 : Int64).toInt32) = (1 : Int32) from by decide +kernel]
    show Steps p.tables e below (T1.setTop (mkF m 21 #[.val (.long (1 : Int64)), .second, .val (.ref h0.size)] [(.int (1 : Int32)), (.ref h0.size)])) _
    refine X1.aaload hx (j := (1 : Int32)) (v := (.ref w_MODIFY)) Ar1.1 (State.isArrayOf_alike hZ.alike Ar1.2.1) rfl Ar1.2.2 (inb_of (c := cloneOf cl) S5 ⟨by decide, by decide⟩) AT_1 (g := (mkF m 21 #[.val (.long (1 : Int64)), .second, .val (.ref h0.size)] [(.int (1 : Int32)), (.ref h0.size)])) rfl rfl (hb hby d1_21) _ ?_
    show Steps p.tables e below (T1.setTop (mkF m 22 #[.val (.long (1 : Int64)), .second, .val (.ref h0.size)] [(.ref w_MODIFY)])) _
    refine XS.goto X1.here hx rfl (pc0 := 22) (pc' := 26) rfl (hb hby d1_22) (by decide) (by decide) ?_
    show Steps p.tables e below (T1.setTop (mkF m 26 #[.val (.long (1 : Int64)), .second, .val (.ref h0.size)] [(.ref w_MODIFY)])) _
    jvm_step X1.here [X1.here.top, hx, (hb hby d1_26), X1.method', Bd.returns, Value.isRef, FieldType.isReference]
    first | (intro acts; rw [hr _ acts rfl rfl rfl]) | rw [hr _ _ rfl rfl rfl]
    exact Steps.refl _
  · exact ⟨rfl, N1, x1⟩
set_option maxRecDepth 65536 in
set_option maxHeartbeats 40000000 in
theorem rm1_2 (l : Launch) (Z : State) (a0 : Array Value) (hw : ∀ d ∈ tables_1, d.before a0 Z = true) (ws : List Jvm.Cond) (w__VALUES w_ADD w_MODIFY w_MODIFY_STRICT w_DELETE w_DELETE_STRICT : Addr) (cl : Cell) (h0 : Heap) (n0 : Nat) (Z0 : n0 ≤ h0.size) (C : Ctx Z h0 w__VALUES w_ADD w_MODIFY w_MODIFY_STRICT w_DELETE w_DELETE_STRICT cl)  :
    MetFree l (⟨"com/example/flowspur/flowspur/softswitch/FlowMod$Command", "of", "(J)Lcom/example/flowspur/flowspur/softswitch/FlowMod$Command;"⟩ : MethodName) (head1 (Jvm.Cond.code (⟨"com/example/flowspur/flowspur/softswitch/FlowMod$Command", "of", "(J)Lcom/example/flowspur/flowspur/softswitch/FlowMod$Command;"⟩ : MethodName) prog_123_method_4_code 3 (some (.object "com/example/flowspur/flowspur/softswitch/FlowMod$Command")) :: ws) ({ frames := 2, cells := 1, slots := 5, locals := 25 } : Room)) (fun a U => a = #[(.long (2 : Int64))] ∧ Z.Warmed39 U.vm ∧ U.heap = h0) (fun _ _ _ _ _ => True) (fun _ U o U' => ∃ v L, o = .returned v ∧ QX h0 n0 (some (.ref w_MODIFY_STRICT)) v U'.heap L ∧ FrameEnd U o U' L ({ frames := 2, cells := 1, slots := 5, locals := 25 } : Room).cells ({ frames := 2, cells := 1, slots := 5, locals := 25 } : Room).slots) := by
  have S5 := C.2.2.2.2.2.2.2.2.2.2.2.2.2.2.2.2.2.2.1
  have AT_2 := C.2.2.2.2.2.2.2.2.2.2.2.2.2.2.2.2.2.2.2.2.2.2.1
  refine MetFree.of_bodySF (plainFor_of_name pn_1) hisR ?_
  intro p e s m args below meth c s₁ Bd hml0 hP hK
  obtain ⟨rfl, hZ, hh⟩ := hP
  have hx := Bd.exec
  have hby := Bd.bytes
  have hml : c.maxLocals = 3 := hml0
  have hown : s.vm.findClass "com/example/flowspur/flowspur/softswitch/FlowMod$Command" = some m.cls := findClass_of_methodNamed Bd.named
  have hnm := (name_of_methodNamed Bd.named Bd.method).1
  have X0 : Stand p l e ({ frames := 2, cells := 1, slots := 5, locals := 25 } : Room) s m #[(.long (2 : Int64))] below meth c s₁ [] 0 0 := Stand.of_body Bd
  have e0 : s₁.heap = h0 := by rw [← hh, Bd.state]; rfl
  have N0 := Fr.nil n0
  have pre0 : ∀ t, Steps p.tables e below (s₁.setTop (mkF m 0 #[.val (.long (2 : Int64)), .second, .unset] [])) t → Steps p.tables e below (s₁.setTop (entryFrame m #[(.long (2 : Int64))] 3)) t := fun t k => castTop (ef_1 m (2 : Int64)) k
  obtain ⟨_, _, ⟨T1, L1, k1, n1⟩, -, X1, ⟨Lc1, hQ1, l1, y1, z1⟩, st1⟩ := Jvm.LawKit.callS X0 hx (y := (⟨"com/example/flowspur/flowspur/softswitch/FlowMod$Command", "values", "()[Lcom/example/flowspur/flowspur/softswitch/FlowMod$Command;"⟩ : MethodName)) hown (mvT hZ (hw _ (List.mem_of_getElem? (i := 5) rfl))) (mvT hZ (hw _ (List.mem_of_getElem? (i := 6) rfl))) (mvT hZ (hw _ (List.mem_of_getElem? (i := 3) rfl))) (mvT hZ (hw _ (List.mem_of_getElem? (i := 7) rfl))) (by decide) (backOf (W := 0) (rmV l Z a0 hw [] w__VALUES w_ADD w_MODIFY w_MODIFY_STRICT w_DELETE w_DELETE_STRICT cl h0 n0 Z0 C) hZ (hw _ (List.mem_of_getElem? (i := 7) rfl)) (hw _ (List.mem_of_getElem? (i := 3) rfl)) (by decide) (by decide)) (g := (mkF m 0 #[.val (.long (2 : Int64)), .second, .unset] [])) rfl (by rw [hml]; rfl) (argsL := []) (rest := []) (lenOf pd_0 rfl) rfl (by show 2 * 0 + _ ≤ _; exact Nat.le_of_eq rfl) (hb hby d1_0) (fun _ _ => ⟨rfl, e0, (by decide : 0 + 1 ≤ _), (by decide : 0 + 5 ≤ _)⟩)
  dsimp only [Pt.U, Pt.locs, Pt.cells, Pt.slots] at X1 l1 y1 z1 st1 hQ1
  subst l1 y1 z1
  obtain ⟨rfl, N1q, x1, Ar1⟩ := hQ1
  have N1 := Fr.app N0 N1q
  obtain ⟨fs, hr, hrun, hended, hW, hsame⟩ := X1.leave (v := (some (.ref w_MODIFY_STRICT))) (fun h => by rw [Bd.returns] at h; cases h)
  refine ⟨_, _, pre0 _ ?_, hrun, hended, _, _, rfl, ?_, ⟨_, rfl⟩, hW, hsame.mono (by decide) (by decide)⟩
  · show Steps p.tables e below (s₁.setTop (mkF m 0 #[.val (.long (2 : Int64)), .second, .unset] [])) _
    refine st1 _ ?_
    show Steps p.tables e below (T1.setTop (mkF m 3 #[.val (.long (2 : Int64)), .second, .unset] [(.ref h0.size)])) _
    refine XS.astoreN X1.here hx rfl (hb hby d1_3) rfl rfl (l' := #[.val (.long (2 : Int64)), .second, .val (.ref h0.size)]) rfl ?_
    show Steps p.tables e below (T1.setTop (mkF m 4 #[.val (.long (2 : Int64)), .second, .val (.ref h0.size)] [])) _
    refine XS.lloadN X1.here hx rfl (hb hby d1_4) rfl ?_
    show Steps p.tables e below (T1.setTop (mkF m 5 #[.val (.long (2 : Int64)), .second, .val (.ref h0.size)] [(.long (2 : Int64))])) _
    refine XS.lconst X1.here hx rfl (hb hby d1_5) ?_
    show Steps p.tables e below (T1.setTop (mkF m 6 #[.val (.long (2 : Int64)), .second, .val (.ref h0.size)] [(.long (0 : Int64)), (.long (2 : Int64))])) _
    refine XS.lcmp X1.here hx rfl (hb hby d1_6) rfl ?_
    show Steps p.tables e below (T1.setTop (mkF m 7 #[.val (.long (2 : Int64)), .second, .val (.ref h0.size)] [(.int (lcmpW (2 : Int64) (0 : Int64)))])) _
    rw [show (lcmpW (2 : Int64) (0 : Int64)) = (1 : Int32) from by decide +kernel]
    show Steps p.tables e below (T1.setTop (mkF m 7 #[.val (.long (2 : Int64)), .second, .val (.ref h0.size)] [(.int (1 : Int32))])) _
    refine XS.ifNo X1.here hx rfl (hb hby d1_7) rfl ((if0 _ _).trans (flt (by decide +kernel : ¬ ((1 : Int32) < (0 : Int32)))).1) ?_
    show Steps p.tables e below (T1.setTop (mkF m 10 #[.val (.long (2 : Int64)), .second, .val (.ref h0.size)] [])) _
    refine XS.lloadN X1.here hx rfl (hb hby d1_10) rfl ?_
    show Steps p.tables e below (T1.setTop (mkF m 11 #[.val (.long (2 : Int64)), .second, .val (.ref h0.size)] [(.long (2 : Int64))])) _
    refine XS.aloadN X1.here hx rfl (hb hby d1_11) rfl rfl ?_
    show Steps p.tables e below (T1.setTop (mkF m 12 #[.val (.long (2 : Int64)), .second, .val (.ref h0.size)] [(.ref h0.size), (.long (2 : Int64))])) _
    refine X1.arraylength hx Ar1.1 (State.isArrayOf_alike hZ.alike Ar1.2.1) (g := (mkF m 12 #[.val (.long (2 : Int64)), .second, .val (.ref h0.size)] [(.ref h0.size), (.long (2 : Int64))])) rfl rfl (hb hby d1_12) _ ?_
    rw [len_of (c := cloneOf cl) S5 (by decide)]
    show Steps p.tables e below (T1.setTop (mkF m 13 #[.val (.long (2 : Int64)), .second, .val (.ref h0.size)] [(.int (5 : Int32)), (.long (2 : Int64))])) _
    refine XS.i2l X1.here hx rfl (hb hby d1_13) rfl ?_
    show Steps p.tables e below (T1.setTop (mkF m 14 #[.val (.long (2 : Int64)), .second, .val (.ref h0.size)] [(.long ((5 : Int32).toInt64)), (.long (2 : Int64))])) _
    rw [show ((5 : Int32).toInt64) = (5 : Int64) from by decide +kernel]
    show Steps p.tables e below (T1.setTop (mkF m 14 #[.val (.long (2 : Int64)), .second, .val (.ref h0.size)] [(.long (5 : Int64)), (.long (2 : Int64))])) _
    refine XS.lcmp X1.here hx rfl (hb hby d1_14) rfl ?_
    show Steps p.tables e below (T1.setTop (mkF m 15 #[.val (.long (2 : Int64)), .second, .val (.ref h0.size)] [(.int (lcmpW (2 : Int64) (5 : Int64)))])) _
    rw [show (lcmpW (2 : Int64) (5 : Int64)) = (-1 : Int32) from by decide +kernel]
    show Steps p.tables e below (T1.setTop (mkF m 15 #[.val (.long (2 : Int64)), .second, .val (.ref h0.size)] [(.int (-1 : Int32))])) _
    refine XS.ifNo X1.here hx rfl (hb hby d1_15) rfl ((if0 _ _).trans (tlt (by decide +kernel : (-1 : Int32) < (0 : Int32))).2.1) ?_
    show Steps p.tables e below (T1.setTop (mkF m 18 #[.val (.long (2 : Int64)), .second, .val (.ref h0.size)] [])) _
    refine XS.aloadN X1.here hx rfl (hb hby d1_18) rfl rfl ?_
    show Steps p.tables e below (T1.setTop (mkF m 19 #[.val (.long (2 : Int64)), .second, .val (.ref h0.size)] [(.ref h0.size)])) _
    refine XS.lloadN X1.here hx rfl (hb hby d1_19) rfl ?_
    show Steps p.tables e below (T1.setTop (mkF m 20 #[.val (.long (2 : Int64)), .second, .val (.ref h0.size)] [(.long (2 : Int64)), (.ref h0.size)])) _
    refine XS.l2i X1.here hx rfl (hb hby d1_20) rfl ?_
    show Steps p.tables e below (T1.setTop (mkF m 21 #[.val (.long (2 : Int64)), .second, .val (.ref h0.size)] [(.int ((2 : Int64).toInt32)), (.ref h0.size)])) _
    rw [show ((2 : Int64).toInt32) = (2 : Int32) from by decide +kernel]
    show Steps p.tables e below (T1.setTop (mkF m 21 #[.val (.long (2 : Int64)), .second, .val (.ref h0.size)] [(.int (2 : Int32)), (.ref h0.size)])) _
    refine X1.aaload hx (j := (2 : Int32)) (v := (.ref w_MODIFY_STRICT)) Ar1.1 (State.isArrayOf_alike hZ.alike Ar1.2.1) rfl Ar1.2.2 (inb_of (c := cloneOf cl) S5 ⟨by decide, by decide⟩) AT_2 (g := (mkF m 21 #[.val (.long (2 : Int64)), .second, .val (.ref h0.size)] [(.int (2 : Int32)), (.ref h0.size)])) rfl rfl (hb hby d1_21) _ ?_
    show Steps p.tables e below (T1.setTop (mkF m 22 #[.val (.long (2 : Int64)), .second, .val (.ref h0.size)] [(.ref w_MODIFY_STRICT)])) _
    refine XS.goto X1.here hx rfl (pc0 := 22) (pc' := 26) rfl (hb hby d1_22) (by decide) (by decide) ?_
    show Steps p.tables e below (T1.setTop (mkF m 26 #[.val (.long (2 : Int64)), .second, .val (.ref h0.size)] [(.ref w_MODIFY_STRICT)])) _
    jvm_step X1.here [X1.here.top, hx, (hb hby d1_26), X1.method', Bd.returns, Value.isRef, FieldType.isReference]
    first | (intro acts; rw [hr _ acts rfl rfl rfl]) | rw [hr _ _ rfl rfl rfl]
    exact Steps.refl _
  · exact ⟨rfl, N1, x1⟩
set_option maxRecDepth 65536 in
set_option maxHeartbeats 40000000 in
theorem rm1_3 (l : Launch) (Z : State) (a0 : Array Value) (hw : ∀ d ∈ tables_1, d.before a0 Z = true) (ws : List Jvm.Cond) (w__VALUES w_ADD w_MODIFY w_MODIFY_STRICT w_DELETE w_DELETE_STRICT : Addr) (cl : Cell) (h0 : Heap) (n0 : Nat) (Z0 : n0 ≤ h0.size) (C : Ctx Z h0 w__VALUES w_ADD w_MODIFY w_MODIFY_STRICT w_DELETE w_DELETE_STRICT cl)  :
    MetFree l (⟨"com/example/flowspur/flowspur/softswitch/FlowMod$Command", "of", "(J)Lcom/example/flowspur/flowspur/softswitch/FlowMod$Command;"⟩ : MethodName) (head1 (Jvm.Cond.code (⟨"com/example/flowspur/flowspur/softswitch/FlowMod$Command", "of", "(J)Lcom/example/flowspur/flowspur/softswitch/FlowMod$Command;"⟩ : MethodName) prog_123_method_4_code 3 (some (.object "com/example/flowspur/flowspur/softswitch/FlowMod$Command")) :: ws) ({ frames := 2, cells := 1, slots := 5, locals := 25 } : Room)) (fun a U => a = #[(.long (3 : Int64))] ∧ Z.Warmed39 U.vm ∧ U.heap = h0) (fun _ _ _ _ _ => True) (fun _ U o U' => ∃ v L, o = .returned v ∧ QX h0 n0 (some (.ref w_DELETE)) v U'.heap L ∧ FrameEnd U o U' L ({ frames := 2, cells := 1, slots := 5, locals := 25 } : Room).cells ({ frames := 2, cells := 1, slots := 5, locals := 25 } : Room).slots) := by
  have S5 := C.2.2.2.2.2.2.2.2.2.2.2.2.2.2.2.2.2.2.1
  have AT_3 := C.2.2.2.2.2.2.2.2.2.2.2.2.2.2.2.2.2.2.2.2.2.2.2.1
  refine MetFree.of_bodySF (plainFor_of_name pn_1) hisR ?_
  intro p e s m args below meth c s₁ Bd hml0 hP hK
  obtain ⟨rfl, hZ, hh⟩ := hP
  have hx := Bd.exec
  have hby := Bd.bytes
  have hml : c.maxLocals = 3 := hml0
  have hown : s.vm.findClass "com/example/flowspur/flowspur/softswitch/FlowMod$Command" = some m.cls := findClass_of_methodNamed Bd.named
  have hnm := (name_of_methodNamed Bd.named Bd.method).1
  have X0 : Stand p l e ({ frames := 2, cells := 1, slots := 5, locals := 25 } : Room) s m #[(.long (3 : Int64))] below meth c s₁ [] 0 0 := Stand.of_body Bd
  have e0 : s₁.heap = h0 := by rw [← hh, Bd.state]; rfl
  have N0 := Fr.nil n0
  have pre0 : ∀ t, Steps p.tables e below (s₁.setTop (mkF m 0 #[.val (.long (3 : Int64)), .second, .unset] [])) t → Steps p.tables e below (s₁.setTop (entryFrame m #[(.long (3 : Int64))] 3)) t := fun t k => castTop (ef_1 m (3 : Int64)) k
  obtain ⟨_, _, ⟨T1, L1, k1, n1⟩, -, X1, ⟨Lc1, hQ1, l1, y1, z1⟩, st1⟩ := Jvm.LawKit.callS X0 hx (y := (⟨"com/example/flowspur/flowspur/softswitch/FlowMod$Command", "values", "()[Lcom/example/flowspur/flowspur/softswitch/FlowMod$Command;"⟩ : MethodName)) hown (mvT hZ (hw _ (List.mem_of_getElem? (i := 5) rfl))) (mvT hZ (hw _ (List.mem_of_getElem? (i := 6) rfl))) (mvT hZ (hw _ (List.mem_of_getElem? (i := 3) rfl))) (mvT hZ (hw _ (List.mem_of_getElem? (i := 7) rfl))) (by decide) (backOf (W := 0) (rmV l Z a0 hw [] w__VALUES w_ADD w_MODIFY w_MODIFY_STRICT w_DELETE w_DELETE_STRICT cl h0 n0 Z0 C) hZ (hw _ (List.mem_of_getElem? (i := 7) rfl)) (hw _ (List.mem_of_getElem? (i := 3) rfl)) (by decide) (by decide)) (g := (mkF m 0 #[.val (.long (3 : Int64)), .second, .unset] [])) rfl (by rw [hml]; rfl) (argsL := []) (rest := []) (lenOf pd_0 rfl) rfl (by show 2 * 0 + _ ≤ _; exact Nat.le_of_eq rfl) (hb hby d1_0) (fun _ _ => ⟨rfl, e0, (by decide : 0 + 1 ≤ _), (by decide : 0 + 5 ≤ _)⟩)
  dsimp only [Pt.U, Pt.locs, Pt.cells, Pt.slots] at X1 l1 y1 z1 st1 hQ1
  subst l1 y1 z1
  obtain ⟨rfl, N1q, x1, Ar1⟩ := hQ1
  have N1 := Fr.app N0 N1q
  obtain ⟨fs, hr, hrun, hended, hW, hsame⟩ := X1.leave (v := (some (.ref w_DELETE))) (fun h => by rw [Bd.returns] at h; cases h)
  refine ⟨_, _, pre0 _ ?_, hrun, hended, _, _, rfl, ?_, ⟨_, rfl⟩, hW, hsame.mono (by decide) (by decide)⟩
  · show Steps p.tables e below (s₁.setTop (mkF m 0 #[.val (.long (3 : Int64)), .second, .unset] [])) _
    refine st1 _ ?_
    show Steps p.tables e below (T1.setTop (mkF m 3 #[.val (.long (3 : Int64)), .second, .unset] [(.ref h0.size)])) _
    refine XS.astoreN X1.here hx rfl (hb hby d1_3) rfl rfl (l' := #[.val (.long (3 : Int64)), .second, .val (.ref h0.size)]) rfl ?_
    show Steps p.tables e below (T1.setTop (mkF m 4 #[.val (.long (3 : Int64)), .second, .val (.ref h0.size)] [])) _
    refine XS.lloadN X1.here hx rfl (hb hby d1_4) rfl ?_
    show Steps p.tables e below (T1.setTop (mkF m 5 #[.val (.long (3 : Int64)), .second, .val (.ref h0.size)] [(.long (3 : Int64))])) _
    refine XS.lconst X1.here hx rfl (hb hby d1_5) ?_
    show Steps p.tables e below (T1.setTop (mkF m 6 #[.val (.long (3 : Int64)), .second, .val (.ref h0.size)] [(.long (0 : Int64)), (.long (3 : Int64))])) _
    refine XS.lcmp X1.here hx rfl (hb hby d1_6) rfl ?_
    show Steps p.tables e below (T1.setTop (mkF m 7 #[.val (.long (3 : Int64)), .second, .val (.ref h0.size)] [(.int (lcmpW (3 : Int64) (0 : Int64)))])) _
    rw [show (lcmpW (3 : Int64) (0 : Int64)) = (1 : Int32) from by decide +kernel]
    show Steps p.tables e below (T1.setTop (mkF m 7 #[.val (.long (3 : Int64)), .second, .val (.ref h0.size)] [(.int (1 : Int32))])) _
    refine XS.ifNo X1.here hx rfl (hb hby d1_7) rfl ((if0 _ _).trans (flt (by decide +kernel : ¬ ((1 : Int32) < (0 : Int32)))).1) ?_
    show Steps p.tables e below (T1.setTop (mkF m 10 #[.val (.long (3 : Int64)), .second, .val (.ref h0.size)] [])) _
    refine XS.lloadN X1.here hx rfl (hb hby d1_10) rfl ?_
    show Steps p.tables e below (T1.setTop (mkF m 11 #[.val (.long (3 : Int64)), .second, .val (.ref h0.size)] [(.long (3 : Int64))])) _
    refine XS.aloadN X1.here hx rfl (hb hby d1_11) rfl rfl ?_
    show Steps p.tables e below (T1.setTop (mkF m 12 #[.val (.long (3 : Int64)), .second, .val (.ref h0.size)] [(.ref h0.size), (.long (3 : Int64))])) _
    refine X1.arraylength hx Ar1.1 (State.isArrayOf_alike hZ.alike Ar1.2.1) (g := (mkF m 12 #[.val (.long (3 : Int64)), .second, .val (.ref h0.size)] [(.ref h0.size), (.long (3 : Int64))])) rfl rfl (hb hby d1_12) _ ?_
    rw [len_of (c := cloneOf cl) S5 (by decide)]
    show Steps p.tables e below (T1.setTop (mkF m 13 #[.val (.long (3 : Int64)), .second, .val (.ref h0.size)] [(.int (5 : Int32)), (.long (3 : Int64))])) _
    refine XS.i2l X1.here hx rfl (hb hby d1_13) rfl ?_
    show Steps p.tables e below (T1.setTop (mkF m 14 #[.val (.long (3 : Int64)), .second, .val (.ref h0.size)] [(.long ((5 : Int32).toInt64)), (.long (3 : Int64))])) _
    rw [show ((5 : Int32).toInt64) = (5 : Int64) from by decide +kernel]
    show Steps p.tables e below (T1.setTop (mkF m 14 #[.val (.long (3 : Int64)), .second, .val (.ref h0.size)] [(.long (5 : Int64)), (.long (3 : Int64))])) _
    refine XS.lcmp X1.here hx rfl (hb hby d1_14) rfl ?_
    show Steps p.tables e below (T1.setTop (mkF m 15 #[.val (.long (3 : Int64)), .second, .val (.ref h0.size)] [(.int (lcmpW (3 : Int64) (5 : Int64)))])) _
    rw [show (lcmpW (3 : Int64) (5 : Int64)) = (-1 : Int32) from by decide +kernel]
    show Steps p.tables e below (T1.setTop (mkF m 15 #[.val (.long (3 : Int64)), .second, .val (.ref h0.size)] [(.int (-1 : Int32))])) _
    refine XS.ifNo X1.here hx rfl (hb hby d1_15) rfl ((if0 _ _).trans (tlt (by decide +kernel : (-1 : Int32) < (0 : Int32))).2.1) ?_
    show Steps p.tables e below (T1.setTop (mkF m 18 #[.val (.long (3 : Int64)), .second, .val (.ref h0.size)] [])) _
    refine XS.aloadN X1.here hx rfl (hb hby d1_18) rfl rfl ?_
    show Steps p.tables e below (T1.setTop (mkF m 19 #[.val (.long (3 : Int64)), .second, .val (.ref h0.size)] [(.ref h0.size)])) _
    refine XS.lloadN X1.here hx rfl (hb hby d1_19) rfl ?_
    show Steps p.tables e below (T1.setTop (mkF m 20 #[.val (.long (3 : Int64)), .second, .val (.ref h0.size)] [(.long (3 : Int64)), (.ref h0.size)])) _
    refine XS.l2i X1.here hx rfl (hb hby d1_20) rfl ?_
    show Steps p.tables e below (T1.setTop (mkF m 21 #[.val (.long (3 : Int64)), .second, .val (.ref h0.size)] [(.int ((3 : Int64).toInt32)), (.ref h0.size)])) _
    rw [show ((3 : Int64).toInt32) = (3 : Int32) from by decide +kernel]
    show Steps p.tables e below (T1.setTop (mkF m 21 #[.val (.long (3 : Int64)), .second, .val (.ref h0.size)] [(.int (3 : Int32)), (.ref h0.size)])) _
    refine X1.aaload hx (j := (3 : Int32)) (v := (.ref w_DELETE)) Ar1.1 (State.isArrayOf_alike hZ.alike Ar1.2.1) rfl Ar1.2.2 (inb_of (c := cloneOf cl) S5 ⟨by decide, by decide⟩) AT_3 (g := (mkF m 21 #[.val (.long (3 : Int64)), .second, .val (.ref h0.size)] [(.int (3 : Int32)), (.ref h0.size)])) rfl rfl (hb hby d1_21) _ ?_
    show Steps p.tables e below (T1.setTop (mkF m 22 #[.val (.long (3 : Int64)), .second, .val (.ref h0.size)] [(.ref w_DELETE)])) _
    refine XS.goto X1.here hx rfl (pc0 := 22) (pc' := 26) rfl (hb hby d1_22) (by decide) (by decide) ?_
    show Steps p.tables e below (T1.setTop (mkF m 26 #[.val (.long (3 : Int64)), .second, .val (.ref h0.size)] [(.ref w_DELETE)])) _
    jvm_step X1.here [X1.here.top, hx, (hb hby d1_26), X1.method', Bd.returns, Value.isRef, FieldType.isReference]
    first | (intro acts; rw [hr _ acts rfl rfl rfl]) | rw [hr _ _ rfl rfl rfl]
    exact Steps.refl _
  · exact ⟨rfl, N1, x1⟩
set_option maxRecDepth 65536 in
set_option maxHeartbeats 40000000 in
theorem rm1_4 (l : Launch) (Z : State) (a0 : Array Value) (hw : ∀ d ∈ tables_1, d.before a0 Z = true) (ws : List Jvm.Cond) (w__VALUES w_ADD w_MODIFY w_MODIFY_STRICT w_DELETE w_DELETE_STRICT : Addr) (cl : Cell) (h0 : Heap) (n0 : Nat) (Z0 : n0 ≤ h0.size) (C : Ctx Z h0 w__VALUES w_ADD w_MODIFY w_MODIFY_STRICT w_DELETE w_DELETE_STRICT cl)  :
    MetFree l (⟨"com/example/flowspur/flowspur/softswitch/FlowMod$Command", "of", "(J)Lcom/example/flowspur/flowspur/softswitch/FlowMod$Command;"⟩ : MethodName) (head1 (Jvm.Cond.code (⟨"com/example/flowspur/flowspur/softswitch/FlowMod$Command", "of", "(J)Lcom/example/flowspur/flowspur/softswitch/FlowMod$Command;"⟩ : MethodName) prog_123_method_4_code 3 (some (.object "com/example/flowspur/flowspur/softswitch/FlowMod$Command")) :: ws) ({ frames := 2, cells := 1, slots := 5, locals := 25 } : Room)) (fun a U => a = #[(.long (4 : Int64))] ∧ Z.Warmed39 U.vm ∧ U.heap = h0) (fun _ _ _ _ _ => True) (fun _ U o U' => ∃ v L, o = .returned v ∧ QX h0 n0 (some (.ref w_DELETE_STRICT)) v U'.heap L ∧ FrameEnd U o U' L ({ frames := 2, cells := 1, slots := 5, locals := 25 } : Room).cells ({ frames := 2, cells := 1, slots := 5, locals := 25 } : Room).slots) := by
  have S5 := C.2.2.2.2.2.2.2.2.2.2.2.2.2.2.2.2.2.2.1
  have AT_4 := C.2.2.2.2.2.2.2.2.2.2.2.2.2.2.2.2.2.2.2.2.2.2.2.2.1
  refine MetFree.of_bodySF (plainFor_of_name pn_1) hisR ?_
  intro p e s m args below meth c s₁ Bd hml0 hP hK
  obtain ⟨rfl, hZ, hh⟩ := hP
  have hx := Bd.exec
  have hby := Bd.bytes
  have hml : c.maxLocals = 3 := hml0
  have hown : s.vm.findClass "com/example/flowspur/flowspur/softswitch/FlowMod$Command" = some m.cls := findClass_of_methodNamed Bd.named
  have hnm := (name_of_methodNamed Bd.named Bd.method).1
  have X0 : Stand p l e ({ frames := 2, cells := 1, slots := 5, locals := 25 } : Room) s m #[(.long (4 : Int64))] below meth c s₁ [] 0 0 := Stand.of_body Bd
  have e0 : s₁.heap = h0 := by rw [← hh, Bd.state]; rfl
  have N0 := Fr.nil n0
  have pre0 : ∀ t, Steps p.tables e below (s₁.setTop (mkF m 0 #[.val (.long (4 : Int64)), .second, .unset] [])) t → Steps p.tables e below (s₁.setTop (entryFrame m #[(.long (4 : Int64))] 3)) t := fun t k => castTop (ef_1 m (4 : Int64)) k
  obtain ⟨_, _, ⟨T1, L1, k1, n1⟩, -, X1, ⟨Lc1, hQ1, l1, y1, z1⟩, st1⟩ := Jvm.LawKit.callS X0 hx (y := (⟨"com/example/flowspur/flowspur/softswitch/FlowMod$Command", "values", "()[Lcom/example/flowspur/flowspur/softswitch/FlowMod$Command;"⟩ : MethodName)) hown (mvT hZ (hw _ (List.mem_of_getElem? (i := 5) rfl))) (mvT hZ (hw _ (List.mem_of_getElem? (i := 6) rfl))) (mvT hZ (hw _ (List.mem_of_getElem? (i := 3) rfl))) (mvT hZ (hw _ (List.mem_of_getElem? (i := 7) rfl))) (by decide) (backOf (W := 0) (rmV l Z a0 hw [] w__VALUES w_ADD w_MODIFY w_MODIFY_STRICT w_DELETE w_DELETE_STRICT cl h0 n0 Z0 C) hZ (hw _ (List.mem_of_getElem? (i := 7) rfl)) (hw _ (List.mem_of_getElem? (i := 3) rfl)) (by decide) (by decide)) (g := (mkF m 0 #[.val (.long (4 : Int64)), .second, .unset] [])) rfl (by rw [hml]; rfl) (argsL := []) (rest := []) (lenOf pd_0 rfl) rfl (by show 2 * 0 + _ ≤ _; exact Nat.le_of_eq rfl) (hb hby d1_0) (fun _ _ => ⟨rfl, e0, (by decide : 0 + 1 ≤ _), (by decide : 0 + 5 ≤ _)⟩)
  dsimp only [Pt.U, Pt.locs, Pt.cells, Pt.slots] at X1 l1 y1 z1 st1 hQ1
  subst l1 y1 z1
  obtain ⟨rfl, N1q, x1, Ar1⟩ := hQ1
  have N1 := Fr.app N0 N1q
  obtain ⟨fs, hr, hrun, hended, hW, hsame⟩ := X1.leave (v := (some (.ref w_DELETE_STRICT))) (fun h => by rw [Bd.returns] at h; cases h)
  refine ⟨_, _, pre0 _ ?_, hrun, hended, _, _, rfl, ?_, ⟨_, rfl⟩, hW, hsame.mono (by decide) (by decide)⟩
  · show Steps p.tables e below (s₁.setTop (mkF m 0 #[.val (.long (4 : Int64)), .second, .unset] [])) _
    refine st1 _ ?_
    show Steps p.tables e below (T1.setTop (mkF m 3 #[.val (.long (4 : Int64)), .second, .unset] [(.ref h0.size)])) _
    refine XS.astoreN X1.here hx rfl (hb hby d1_3) rfl rfl (l' := #[.val (.long (4 : Int64)), .second, .val (.ref h0.size)]) rfl ?_
    show Steps p.tables e below (T1.setTop (mkF m 4 #[.val (.long (4 : Int64)), .second, .val (.ref h0.size)] [])) _
    refine XS.lloadN X1.here hx rfl (hb hby d1_4) rfl ?_
    show Steps p.tables e below (T1.setTop (mkF m 5 #[.val (.long (4 : Int64)), .second, .val (.ref h0.size)] [(.long (4 : Int64))])) _
    refine XS.lconst X1.here hx rfl (hb hby d1_5) ?_
    show Steps p.tables e below (T1.setTop (mkF m 6 #[.val (.long (4 : Int64)), .second, .val (.ref h0.size)] [(.long (0 : Int64)), (.long (4 : Int64))])) _
    refine XS.lcmp X1.here hx rfl (hb hby d1_6) rfl ?_
    show Steps p.tables e below (T1.setTop (mkF m 7 #[.val (.long (4 : Int64)), .second, .val (.ref h0.size)] [(.int (lcmpW (4 : Int64) (0 : Int64)))])) _
    rw [show (lcmpW (4 : Int64) (0 : Int64)) = (1 : Int32) from by decide +kernel]
    show Steps p.tables e below (T1.setTop (mkF m 7 #[.val (.long (4 : Int64)), .second, .val (.ref h0.size)] [(.int (1 : Int32))])) _
    refine XS.ifNo X1.here hx rfl (hb hby d1_7) rfl ((if0 _ _).trans (flt (by decide +kernel : ¬ ((1 : Int32) < (0 : Int32)))).1) ?_
    show Steps p.tables e below (T1.setTop (mkF m 10 #[.val (.long (4 : Int64)), .second, .val (.ref h0.size)] [])) _
    refine XS.lloadN X1.here hx rfl (hb hby d1_10) rfl ?_
    show Steps p.tables e below (T1.setTop (mkF m 11 #[.val (.long (4 : Int64)), .second, .val (.ref h0.size)] [(.long (4 : Int64))])) _
    refine XS.aloadN X1.here hx rfl (hb hby d1_11) rfl rfl ?_
    show Steps p.tables e below (T1.setTop (mkF m 12 #[.val (.long (4 : Int64)), .second, .val (.ref h0.size)] [(.ref h0.size), (.long (4 : Int64))])) _
    refine X1.arraylength hx Ar1.1 (State.isArrayOf_alike hZ.alike Ar1.2.1) (g := (mkF m 12 #[.val (.long (4 : Int64)), .second, .val (.ref h0.size)] [(.ref h0.size), (.long (4 : Int64))])) rfl rfl (hb hby d1_12) _ ?_
    rw [len_of (c := cloneOf cl) S5 (by decide)]
    show Steps p.tables e below (T1.setTop (mkF m 13 #[.val (.long (4 : Int64)), .second, .val (.ref h0.size)] [(.int (5 : Int32)), (.long (4 : Int64))])) _
    refine XS.i2l X1.here hx rfl (hb hby d1_13) rfl ?_
    show Steps p.tables e below (T1.setTop (mkF m 14 #[.val (.long (4 : Int64)), .second, .val (.ref h0.size)] [(.long ((5 : Int32).toInt64)), (.long (4 : Int64))])) _
    rw [show ((5 : Int32).toInt64) = (5 : Int64) from by decide +kernel]
    show Steps p.tables e below (T1.setTop (mkF m 14 #[.val (.long (4 : Int64)), .second, .val (.ref h0.size)] [(.long (5 : Int64)), (.long (4 : Int64))])) _
    refine XS.lcmp X1.here hx rfl (hb hby d1_14) rfl ?_
    show Steps p.tables e below (T1.setTop (mkF m 15 #[.val (.long (4 : Int64)), .second, .val (.ref h0.size)] [(.int (lcmpW (4 : Int64) (5 : Int64)))])) _
    rw [show (lcmpW (4 : Int64) (5 : Int64)) = (-1 : Int32) from by decide +kernel]
    show Steps p.tables e below (T1.setTop (mkF m 15 #[.val (.long (4 : Int64)), .second, .val (.ref h0.size)] [(.int (-1 : Int32))])) _
    refine XS.ifNo X1.here hx rfl (hb hby d1_15) rfl ((if0 _ _).trans (tlt (by decide +kernel : (-1 : Int32) < (0 : Int32))).2.1) ?_
    show Steps p.tables e below (T1.setTop (mkF m 18 #[.val (.long (4 : Int64)), .second, .val (.ref h0.size)] [])) _
    refine XS.aloadN X1.here hx rfl (hb hby d1_18) rfl rfl ?_
    show Steps p.tables e below (T1.setTop (mkF m 19 #[.val (.long (4 : Int64)), .second, .val (.ref h0.size)] [(.ref h0.size)])) _
    refine XS.lloadN X1.here hx rfl (hb hby d1_19) rfl ?_
    show Steps p.tables e below (T1.setTop (mkF m 20 #[.val (.long (4 : Int64)), .second, .val (.ref h0.size)] [(.long (4 : Int64)), (.ref h0.size)])) _
    refine XS.l2i X1.here hx rfl (hb hby d1_20) rfl ?_
    show Steps p.tables e below (T1.setTop (mkF m 21 #[.val (.long (4 : Int64)), .second, .val (.ref h0.size)] [(.int ((4 : Int64).toInt32)), (.ref h0.size)])) _
    rw [show ((4 : Int64).toInt32) = (4 : Int32) from by decide +kernel]
    show Steps p.tables e below (T1.setTop (mkF m 21 #[.val (.long (4 : Int64)), .second, .val (.ref h0.size)] [(.int (4 : Int32)), (.ref h0.size)])) _
    refine X1.aaload hx (j := (4 : Int32)) (v := (.ref w_DELETE_STRICT)) Ar1.1 (State.isArrayOf_alike hZ.alike Ar1.2.1) rfl Ar1.2.2 (inb_of (c := cloneOf cl) S5 ⟨by decide, by decide⟩) AT_4 (g := (mkF m 21 #[.val (.long (4 : Int64)), .second, .val (.ref h0.size)] [(.int (4 : Int32)), (.ref h0.size)])) rfl rfl (hb hby d1_21) _ ?_
    show Steps p.tables e below (T1.setTop (mkF m 22 #[.val (.long (4 : Int64)), .second, .val (.ref h0.size)] [(.ref w_DELETE_STRICT)])) _
    refine XS.goto X1.here hx rfl (pc0 := 22) (pc' := 26) rfl (hb hby d1_22) (by decide) (by decide) ?_
    show Steps p.tables e below (T1.setTop (mkF m 26 #[.val (.long (4 : Int64)), .second, .val (.ref h0.size)] [(.ref w_DELETE_STRICT)])) _
    jvm_step X1.here [X1.here.top, hx, (hb hby d1_26), X1.method', Bd.returns, Value.isRef, FieldType.isReference]
    first | (intro acts; rw [hr _ acts rfl rfl rfl]) | rw [hr _ _ rfl rfl rfl]
    exact Steps.refl _
  · exact ⟨rfl, N1, x1⟩
theorem pn_0 : plainName "com/example/flowspur/flowspur/softswitch/CommandStrictPinLaw" = true := by first | (simp [plainName, overriddenIn]; done) | decide +kernel
theorem ef_0 (m : MethodId) (x0 : Int32) : entryFrame m #[(.int x0)] maxLocals = mkF m 0 #[.val (.int x0), .unset, .unset, .unset] [] := by first | (simp [entryFrame, mkF, argsToLocals, Value.category, maxLocals]; done) | rfl
theorem d3_0 : decode prog_123_method_6_code 0 = .ok (.aload_n 0, 1) := by decide +kernel
theorem d3_1 : decode prog_123_method_6_code 1 = .ok (.getstatic 10, 3) := by decide +kernel
theorem d3_4 : decode prog_123_method_6_code 4 = .ok (.if_acmp .eq 10, 3) := by decide +kernel
theorem d3_7 : decode prog_123_method_6_code 7 = .ok (.aload_n 0, 1) := by decide +kernel
theorem d3_8 : decode prog_123_method_6_code 8 = .ok (.getstatic 16, 3) := by decide +kernel
theorem d3_11 : decode prog_123_method_6_code 11 = .ok (.if_acmp .ne 7, 3) := by decide +kernel
theorem d3_14 : decode prog_123_method_6_code 14 = .ok (.iconst 1, 1) := by decide +kernel
theorem d3_15 : decode prog_123_method_6_code 15 = .ok (.goto 4, 3) := by decide +kernel
theorem d3_18 : decode prog_123_method_6_code 18 = .ok (.iconst 0, 1) := by decide +kernel
theorem d3_19 : decode prog_123_method_6_code 19 = .ok (.ireturn, 1) := by decide +kernel
theorem pn_3 : plainName "com/example/flowspur/flowspur/softswitch/FlowMod$Command" = true := by first | (simp [plainName, overriddenIn]; done) | decide +kernel
theorem ef_3 (m : MethodId) (x0 : Addr) : entryFrame m #[(.ref x0)] 1 = mkF m 0 #[.val (.ref x0)] [] := by first | (simp [entryFrame, mkF, argsToLocals, Value.category]; done) | rfl
theorem pd_1 : parseMethodDescriptor "(J)Lcom/example/flowspur/flowspur/softswitch/FlowMod$Command;" = some ⟨[.long], some (.object "com/example/flowspur/flowspur/softswitch/FlowMod$Command")⟩ := by decide +kernel
set_option maxRecDepth 65536 in
set_option maxHeartbeats 40000000 in
theorem rm3_0 (l : Launch) (Z : State) (a0 : Array Value) (hw : ∀ d ∈ tables_1, d.before a0 Z = true) (ws : List Jvm.Cond) (w__VALUES w_ADD w_MODIFY w_MODIFY_STRICT w_DELETE w_DELETE_STRICT : Addr) (cl : Cell) (h0 : Heap) (n0 : Nat) (Z0 : n0 ≤ h0.size) (C : Ctx Z h0 w__VALUES w_ADD w_MODIFY w_MODIFY_STRICT w_DELETE w_DELETE_STRICT cl)  :
    MetFree l (⟨"com/example/flowspur/flowspur/softswitch/FlowMod$Command", "strict", "()Z"⟩ : MethodName) (head1 (Jvm.Cond.code (⟨"com/example/flowspur/flowspur/softswitch/FlowMod$Command", "strict", "()Z"⟩ : MethodName) prog_123_method_6_code 1 (some .boolean) :: ws) ({ frames := 0, cells := 0, slots := 0, locals := 0 } : Room)) (fun a U => a = #[(.ref w_ADD)] ∧ Z.Warmed39 U.vm ∧ U.heap = h0) (fun _ _ _ _ _ => True) (fun _ U o U' => ∃ v L, o = .returned v ∧ QR h0 n0 (some (.int (0 : Int32))) v U'.heap L ∧ FrameEnd U o U' L ({ frames := 0, cells := 0, slots := 0, locals := 0 } : Room).cells ({ frames := 0, cells := 0, slots := 0, locals := 0 } : Room).slots) := by
  have F_ADD_ordinal := C.2.2.2.2.1
  have S_MODIFY_STRICT := C.2.2.2.2.2.2.2.2.1
  have F_MODIFY_STRICT_ordinal := C.2.2.2.2.2.2.2.2.2.2.1
  have S_DELETE_STRICT := C.2.2.2.2.2.2.2.2.2.2.2.2.2.2.1
  have F_DELETE_STRICT_ordinal := C.2.2.2.2.2.2.2.2.2.2.2.2.2.2.2.2.1
  refine MetFree.of_bodySF (plainFor_of_name pn_3) hisR ?_
  intro p e s m args below meth c s₁ Bd hml0 hP hK
  obtain ⟨rfl, hZ, hh⟩ := hP
  have hx := Bd.exec
  have hby := Bd.bytes
  have hml : c.maxLocals = 1 := hml0
  have hown : s.vm.findClass "com/example/flowspur/flowspur/softswitch/FlowMod$Command" = some m.cls := findClass_of_methodNamed Bd.named
  have hnm := (name_of_methodNamed Bd.named Bd.method).1
  have X0 : Stand p l e ({ frames := 0, cells := 0, slots := 0, locals := 0 } : Room) s m #[(.ref w_ADD)] below meth c s₁ [] 0 0 := Stand.of_body Bd
  have e0 : s₁.heap = h0 := by rw [← hh, Bd.state]; rfl
  have N0 := Fr.nil n0
  have pre0 : ∀ t, Steps p.tables e below (s₁.setTop (mkF m 0 #[.val (.ref w_ADD)] [])) t → Steps p.tables e below (s₁.setTop (entryFrame m #[(.ref w_ADD)] 1)) t := fun t k => castTop (ef_3 m w_ADD) k
  obtain ⟨T1, X1, e1, st1⟩ := getS2 X0 hx hZ hown (host := "") (Or.inl (hw _ (List.mem_of_getElem? (i := 30) rfl))) Via.refl e0 S_MODIFY_STRICT (g := (mkF m 1 #[.val (.ref w_ADD)] [(.ref w_ADD)])) rfl (hb hby d3_1)
  obtain ⟨T2, X2, e2, st2⟩ := getS2 X1 hx hZ hown (host := "") (Or.inl (hw _ (List.mem_of_getElem? (i := 31) rfl))) Via.refl e1 S_DELETE_STRICT (g := (mkF m 8 #[.val (.ref w_ADD)] [(.ref w_ADD)])) rfl (hb hby d3_8)
  obtain ⟨fs, hr, hrun, hended, hW, hsame⟩ := X2.leave (v := (some (.int (0 : Int32)))) (fun h => by rw [Bd.returns] at h; cases h)
  refine ⟨_, _, pre0 _ ?_, hrun, hended, _, _, rfl, ?_, ⟨_, rfl⟩, hW, hsame.mono (by decide) (by decide)⟩
  · show Steps p.tables e below (s₁.setTop (mkF m 0 #[.val (.ref w_ADD)] [])) _
    refine XS.aloadN X0.here hx rfl (hb hby d3_0) rfl rfl ?_
    show Steps p.tables e below (s₁.setTop (mkF m 1 #[.val (.ref w_ADD)] [(.ref w_ADD)])) _
    refine st1 _ ?_
    show Steps p.tables e below (T1.setTop (mkF m 4 #[.val (.ref w_ADD)] [(.ref w_MODIFY_STRICT), (.ref w_ADD)])) _
    refine Jvm.RoadKit.acmp (g := (mkF m 4 #[.val (.ref w_ADD)] [(.ref w_MODIFY_STRICT), (.ref w_ADD)])) X1 hx rfl rfl rfl (pc0 := 4) (pc' := 7) (same := false) rfl (hb hby d3_4) rfl (decide_eq_false fun q => (Fld.ne F_ADD_ordinal F_MODIFY_STRICT_ordinal (by simp)) (Value.ref.inj q)) (by decide) (by decide) ?_
    show Steps p.tables e below (T1.setTop (mkF m 7 #[.val (.ref w_ADD)] [])) _
    refine XS.aloadN X1.here hx rfl (hb hby d3_7) rfl rfl ?_
    show Steps p.tables e below (T1.setTop (mkF m 8 #[.val (.ref w_ADD)] [(.ref w_ADD)])) _
    refine st2 _ ?_
    show Steps p.tables e below (T2.setTop (mkF m 11 #[.val (.ref w_ADD)] [(.ref w_DELETE_STRICT), (.ref w_ADD)])) _
    refine Jvm.RoadKit.acmp (g := (mkF m 11 #[.val (.ref w_ADD)] [(.ref w_DELETE_STRICT), (.ref w_ADD)])) X2 hx rfl rfl rfl (pc0 := 11) (pc' := 18) (same := false) rfl (hb hby d3_11) rfl (decide_eq_false fun q => (Fld.ne F_ADD_ordinal F_DELETE_STRICT_ordinal (by simp)) (Value.ref.inj q)) (by decide) (by decide) ?_
    show Steps p.tables e below (T2.setTop (mkF m 18 #[.val (.ref w_ADD)] [])) _
    refine XS.iconst X2.here hx rfl (hb hby d3_18) ?_
    show Steps p.tables e below (T2.setTop (mkF m 19 #[.val (.ref w_ADD)] [(.int (0 : Int32))])) _
    exact retN X2 hx (t := .boolean) Bd.returns (by simp) (hb hby d3_19) hr
  · exact ⟨rfl, N0, e2⟩
theorem pd_2 : parseMethodDescriptor "()Z" = some ⟨[], some .boolean⟩ := by decide +kernel
set_option maxRecDepth 65536 in
set_option maxHeartbeats 40000000 in
theorem rm0_0 (l : Launch) (Z : State) (a0 : Array Value) (hw : ∀ d ∈ tables_1, d.before a0 Z = true) (ws : List Jvm.Cond) (w__VALUES w_ADD w_MODIFY w_MODIFY_STRICT w_DELETE w_DELETE_STRICT : Addr) (cl : Cell) (i0 : Int32) (h0 : Heap) (n0 : Nat) (Z0 : n0 ≤ h0.size) (C : Ctx Z h0 w__VALUES w_ADD w_MODIFY w_MODIFY_STRICT w_DELETE w_DELETE_STRICT cl) (hv0 : ((i0 &&& (2147483647 : Int32)) % (5 : Int32)) = (0 : Int32)) :
    MetFree l x (head1 (Jvm.Cond.code x code maxLocals ret :: ws) room_1) (fun a U => a = #[(.int i0)] ∧ Z.Warmed39 U.vm ∧ U.heap = h0) (fun _ _ _ _ _ => True) (fun _ U o U' => ∃ v L, o = .returned v ∧ QL n0 (some (.int (1 : Int32))) v L ∧ FrameEnd U o U' L room_1.cells room_1.slots) := by
  have E_ADD := C.2.2.2.1
  refine MetFree.of_bodySF (plainFor_of_name pn_0) hisR ?_
  intro p e s m args below meth c s₁ Bd hml0 hP hK
  obtain ⟨rfl, hZ, hh⟩ := hP
  have hx := Bd.exec
  have hby := Bd.bytes
  have hml : c.maxLocals = 4 := hml0
  have hown : s.vm.findClass "com/example/flowspur/flowspur/softswitch/CommandStrictPinLaw" = some m.cls := findClass_of_methodNamed Bd.named
  have hnm := (name_of_methodNamed Bd.named Bd.method).1
  have X0 : Stand p l e room_1 s m #[(.int i0)] below meth c s₁ [] 0 0 := Stand.of_body Bd
  have e0 : s₁.heap = h0 := by rw [← hh, Bd.state]; rfl
  have N0 := Fr.nil n0
  have pre0 : ∀ t, Steps p.tables e below (s₁.setTop (mkF m 0 #[.val (.int i0), .unset, .unset, .unset] [])) t → Steps p.tables e below (s₁.setTop (entryFrame m #[(.int i0)] maxLocals)) t := fun t k => castTop (ef_0 m i0) k
  obtain ⟨_, _, ⟨T1, L1, k1, n1⟩, -, X1, ⟨Lc1, hQ1, l1, y1, z1⟩, st1⟩ := Jvm.LawKit.callS X0 hx (y := (⟨"com/example/flowspur/flowspur/softswitch/FlowMod$Command", "of", "(J)Lcom/example/flowspur/flowspur/softswitch/FlowMod$Command;"⟩ : MethodName)) hown (mvT hZ (hw _ (List.mem_of_getElem? (i := 1) rfl))) (mvT hZ (hw _ (List.mem_of_getElem? (i := 2) rfl))) (mvT hZ (hw _ (List.mem_of_getElem? (i := 3) rfl))) (mvT hZ (hw _ (List.mem_of_getElem? (i := 4) rfl))) (by decide) (backOf (W := 0) (rm1_0 l Z a0 hw [] w__VALUES w_ADD w_MODIFY w_MODIFY_STRICT w_DELETE w_DELETE_STRICT cl h0 n0 Z0 C) hZ (hw _ (List.mem_of_getElem? (i := 4) rfl)) (hw _ (List.mem_of_getElem? (i := 3) rfl)) (by decide) (by decide)) (g := (mkF m 9 #[.val (.int i0), .val (.int (0 : Int32)), .unset, .unset] [(.long (0 : Int64))])) rfl (by rw [hml]; rfl) (argsL := [(.long (0 : Int64))]) (rest := []) (lenOf pd_1 rfl) rfl (by show 2 * 0 + _ ≤ _; exact Nat.le_of_eq rfl) (hb hby at_9) (fun _ _ => ⟨rfl, e0, (by decide : 0 + 1 ≤ _), (by decide : 0 + 5 ≤ _)⟩)
  dsimp only [Pt.U, Pt.locs, Pt.cells, Pt.slots] at X1 l1 y1 z1 st1 hQ1
  subst l1 y1 z1
  obtain ⟨rfl, N1q, x1⟩ := hQ1
  have N1 := Fr.app N0 N1q
  obtain ⟨cq2, kq2, q2a, q2b, q2c⟩ := isOf hZ rfl (E_ADD.ext x1)
  obtain ⟨_, _, ⟨T2, L2, k2, n2⟩, -, X2, ⟨Lc2, hQ2, l2, y2, z2⟩, st2⟩ := X1.virtualBack hx (y := (⟨"com/example/flowspur/flowspur/softswitch/FlowMod$Command", "strict", "()Z"⟩ : MethodName)) (z := (⟨"com/example/flowspur/flowspur/softswitch/FlowMod$Command", "strict", "()Z"⟩ : MethodName)) hown (mvT hZ (hw _ (List.mem_of_getElem? (i := 25) rfl))) (mvT hZ (hw _ (List.mem_of_getElem? (i := 26) rfl))) (notFace_of_selects (args := #[]) (mvT hZ (hw _ (List.mem_of_getElem? (i := 28) rfl)))) (mvT hZ (hw _ (List.mem_of_getElem? (i := 28) rfl))) (mvT hZ (hw _ (List.mem_of_getElem? (i := 27) rfl))) (by decide) (backOf (W := 0) (rm3_0 l Z a0 hw [] w__VALUES w_ADD w_MODIFY w_MODIFY_STRICT w_DELETE w_DELETE_STRICT cl  T1.heap n0 (Nat.le_trans Z0 x1.1) (own_cx x1 C) ) hZ (hw _ (List.mem_of_getElem? (i := 29) rfl)) (hw _ (List.mem_of_getElem? (i := 3) rfl)) (by decide) (by decide)) q2a q2c (g := (mkF m 36 #[.val (.int i0), .val (.int (0 : Int32)), .val (.ref w_ADD), .val (.int (0 : Int32))] [(.ref w_ADD)])) rfl (by rw [hml]; rfl) (Steps.refl _) (argsL := []) (rest := []) (lenOf pd_2 rfl) rfl (by show 2 * 0 + _ ≤ _; exact Nat.le_of_eq rfl) (hb hby at_36) (fun _ _ => ⟨rfl, rfl, (by decide : 1 + 0 ≤ _), (by decide : 5 + 0 ≤ _)⟩)
  dsimp only [Pt.U, Pt.locs, Pt.cells, Pt.slots] at X2 l2 y2 z2 st2 hQ2
  subst l2 y2 z2
  obtain ⟨rfl, N2q, e2⟩ := hQ2
  have N2 := Fr.app N1 N2q
  obtain ⟨fs, hr, hrun, hended, hW, hsame⟩ := X2.leave (v := (some (.int (1 : Int32)))) (fun h => by rw [Bd.returns] at h; cases h)
  refine ⟨_, _, pre0 _ ?_, hrun, hended, _, _, rfl, ?_, ⟨_, rfl⟩, hW, hsame.mono (by decide) (by decide)⟩
  · show Steps p.tables e below (s₁.setTop (mkF m 0 #[.val (.int i0), .unset, .unset, .unset] [])) _
    refine XS.iloadN X0.here hx rfl (hb hby at_0) rfl ?_
    show Steps p.tables e below (s₁.setTop (mkF m 1 #[.val (.int i0), .unset, .unset, .unset] [(.int i0)])) _
    refine X0.ldcInt hx hown (mvT hZ (hw _ (List.mem_of_getElem? (i := 0) rfl))) (g := (mkF m 1 #[.val (.int i0), .unset, .unset, .unset] [(.int i0)])) rfl (hb hby at_1) _ ?_
    show Steps p.tables e below (s₁.setTop (mkF m 3 #[.val (.int i0), .unset, .unset, .unset] [(.int (2147483647 : Int32)), (.int i0)])) _
    refine XS.iand X0.here hx rfl (hb hby at_3) rfl ?_
    show Steps p.tables e below (s₁.setTop (mkF m 4 #[.val (.int i0), .unset, .unset, .unset] [(.int (i0 &&& (2147483647 : Int32)))])) _
    refine XS.iconst X0.here hx rfl (hb hby at_4) ?_
    show Steps p.tables e below (s₁.setTop (mkF m 5 #[.val (.int i0), .unset, .unset, .unset] [(.int (5 : Int32)), (.int (i0 &&& (2147483647 : Int32)))])) _
    refine iremM (g := (mkF m 5 #[.val (.int i0), .unset, .unset, .unset] [(.int (5 : Int32)), (.int (i0 &&& (2147483647 : Int32)))])) X0 hx rfl (hb hby at_5) rfl (by decide) ?_
    show Steps p.tables e below (s₁.setTop (mkF m 6 #[.val (.int i0), .unset, .unset, .unset] [(.int ((i0 &&& (2147483647 : Int32)) % (5 : Int32)))])) _
    rw [hv0]
    show Steps p.tables e below (s₁.setTop (mkF m 6 #[.val (.int i0), .unset, .unset, .unset] [(.int (0 : Int32))])) _
    refine XS.istoreN X0.here hx rfl (hb hby at_6) rfl (l' := #[.val (.int i0), .val (.int (0 : Int32)), .unset, .unset]) rfl ?_
    show Steps p.tables e below (s₁.setTop (mkF m 7 #[.val (.int i0), .val (.int (0 : Int32)), .unset, .unset] [])) _
    refine XS.iloadN X0.here hx rfl (hb hby at_7) rfl ?_
    show Steps p.tables e below (s₁.setTop (mkF m 8 #[.val (.int i0), .val (.int (0 : Int32)), .unset, .unset] [(.int (0 : Int32))])) _
    refine XS.i2l X0.here hx rfl (hb hby at_8) rfl ?_
    show Steps p.tables e below (s₁.setTop (mkF m 9 #[.val (.int i0), .val (.int (0 : Int32)), .unset, .unset] [(.long ((0 : Int32).toInt64))])) _
    rw [show ((0 : Int32).toInt64) = (0 : Int64) from by decide +kernel]
    show Steps p.tables e below (s₁.setTop (mkF m 9 #[.val (.int i0), .val (.int (0 : Int32)), .unset, .unset] [(.long (0 : Int64))])) _
    refine st1 _ ?_
    show Steps p.tables e below (T1.setTop (mkF m 12 #[.val (.int i0), .val (.int (0 : Int32)), .unset, .unset] [(.ref w_ADD)])) _
    refine XS.astoreN X1.here hx rfl (hb hby at_12) rfl rfl (l' := #[.val (.int i0), .val (.int (0 : Int32)), .val (.ref w_ADD), .unset]) rfl ?_
    show Steps p.tables e below (T1.setTop (mkF m 13 #[.val (.int i0), .val (.int (0 : Int32)), .val (.ref w_ADD), .unset] [])) _
    refine XS.aloadN X1.here hx rfl (hb hby at_13) rfl rfl ?_
    show Steps p.tables e below (T1.setTop (mkF m 14 #[.val (.int i0), .val (.int (0 : Int32)), .val (.ref w_ADD), .unset] [(.ref w_ADD)])) _
    refine XS.ifnonnullYes X1.here hx rfl (pc0 := 14) (pc' := 19) rfl (hb hby at_14) rfl (by decide) (by decide) ?_
    show Steps p.tables e below (T1.setTop (mkF m 19 #[.val (.int i0), .val (.int (0 : Int32)), .val (.ref w_ADD), .unset] [])) _
    refine XS.iloadN X1.here hx rfl (hb hby at_19) rfl ?_
    show Steps p.tables e below (T1.setTop (mkF m 20 #[.val (.int i0), .val (.int (0 : Int32)), .val (.ref w_ADD), .unset] [(.int (0 : Int32))])) _
    refine XS.iconst X1.here hx rfl (hb hby at_20) ?_
    show Steps p.tables e below (T1.setTop (mkF m 21 #[.val (.int i0), .val (.int (0 : Int32)), .val (.ref w_ADD), .unset] [(.int (2 : Int32)), (.int (0 : Int32))])) _
    refine XS.icmpNo X1.here hx rfl (hb hby at_21) rfl (feq (by decide +kernel : ¬ ((0 : Int32) = (2 : Int32)))).1 ?_
    show Steps p.tables e below (T1.setTop (mkF m 24 #[.val (.int i0), .val (.int (0 : Int32)), .val (.ref w_ADD), .unset] [])) _
    refine XS.iloadN X1.here hx rfl (hb hby at_24) rfl ?_
    show Steps p.tables e below (T1.setTop (mkF m 25 #[.val (.int i0), .val (.int (0 : Int32)), .val (.ref w_ADD), .unset] [(.int (0 : Int32))])) _
    refine XS.iconst X1.here hx rfl (hb hby at_25) ?_
    show Steps p.tables e below (T1.setTop (mkF m 26 #[.val (.int i0), .val (.int (0 : Int32)), .val (.ref w_ADD), .unset] [(.int (4 : Int32)), (.int (0 : Int32))])) _
    refine XS.icmpYes X1.here hx rfl (pc0 := 26) (pc' := 33) rfl (hb hby at_26) rfl (feq (by decide +kernel : ¬ ((0 : Int32) = (4 : Int32)))).2 (by decide) (by decide) ?_
    show Steps p.tables e below (T1.setTop (mkF m 33 #[.val (.int i0), .val (.int (0 : Int32)), .val (.ref w_ADD), .unset] [])) _
    refine XS.iconst X1.here hx rfl (hb hby at_33) ?_
    show Steps p.tables e below (T1.setTop (mkF m 34 #[.val (.int i0), .val (.int (0 : Int32)), .val (.ref w_ADD), .unset] [(.int (0 : Int32))])) _
    refine XS.istoreN X1.here hx rfl (hb hby at_34) rfl (l' := #[.val (.int i0), .val (.int (0 : Int32)), .val (.ref w_ADD), .val (.int (0 : Int32))]) rfl ?_
    show Steps p.tables e below (T1.setTop (mkF m 35 #[.val (.int i0), .val (.int (0 : Int32)), .val (.ref w_ADD), .val (.int (0 : Int32))] [])) _
    refine XS.aloadN X1.here hx rfl (hb hby at_35) rfl rfl ?_
    show Steps p.tables e below (T1.setTop (mkF m 36 #[.val (.int i0), .val (.int (0 : Int32)), .val (.ref w_ADD), .val (.int (0 : Int32))] [(.ref w_ADD)])) _
    refine st2.trans ?_
    show Steps p.tables e below (T2.setTop (mkF m 39 #[.val (.int i0), .val (.int (0 : Int32)), .val (.ref w_ADD), .val (.int (0 : Int32))] [(.int (0 : Int32))])) _
    refine XS.iloadN X2.here hx rfl (hb hby at_39) rfl ?_
    show Steps p.tables e below (T2.setTop (mkF m 40 #[.val (.int i0), .val (.int (0 : Int32)), .val (.ref w_ADD), .val (.int (0 : Int32))] [(.int (0 : Int32)), (.int (0 : Int32))])) _
    refine XS.icmpNo X2.here hx rfl (hb hby at_40) rfl (teq (by decide +kernel : (0 : Int32) = (0 : Int32))).2 ?_
    show Steps p.tables e below (T2.setTop (mkF m 43 #[.val (.int i0), .val (.int (0 : Int32)), .val (.ref w_ADD), .val (.int (0 : Int32))] [])) _
    refine XS.iconst X2.here hx rfl (hb hby at_43) ?_
    show Steps p.tables e below (T2.setTop (mkF m 44 #[.val (.int i0), .val (.int (0 : Int32)), .val (.ref w_ADD), .val (.int (0 : Int32))] [(.int (1 : Int32))])) _
    refine XS.goto X2.here hx rfl (pc0 := 44) (pc' := 48) rfl (hb hby at_44) (by decide) (by decide) ?_
    show Steps p.tables e below (T2.setTop (mkF m 48 #[.val (.int i0), .val (.int (0 : Int32)), .val (.ref w_ADD), .val (.int (0 : Int32))] [(.int (1 : Int32))])) _
    exact retN X2 hx (t := .boolean) Bd.returns (by simp) (hb hby at_48) hr
  · exact ⟨rfl, N2⟩
set_option maxRecDepth 65536 in
set_option maxHeartbeats 40000000 in
theorem rm3_1 (l : Launch) (Z : State) (a0 : Array Value) (hw : ∀ d ∈ tables_1, d.before a0 Z = true) (ws : List Jvm.Cond) (w__VALUES w_ADD w_MODIFY w_MODIFY_STRICT w_DELETE w_DELETE_STRICT : Addr) (cl : Cell) (h0 : Heap) (n0 : Nat) (Z0 : n0 ≤ h0.size) (C : Ctx Z h0 w__VALUES w_ADD w_MODIFY w_MODIFY_STRICT w_DELETE w_DELETE_STRICT cl)  :
    MetFree l (⟨"com/example/flowspur/flowspur/softswitch/FlowMod$Command", "strict", "()Z"⟩ : MethodName) (head1 (Jvm.Cond.code (⟨"com/example/flowspur/flowspur/softswitch/FlowMod$Command", "strict", "()Z"⟩ : MethodName) prog_123_method_6_code 1 (some .boolean) :: ws) ({ frames := 0, cells := 0, slots := 0, locals := 0 } : Room)) (fun a U => a = #[(.ref w_MODIFY)] ∧ Z.Warmed39 U.vm ∧ U.heap = h0) (fun _ _ _ _ _ => True) (fun _ U o U' => ∃ v L, o = .returned v ∧ QR h0 n0 (some (.int (0 : Int32))) v U'.heap L ∧ FrameEnd U o U' L ({ frames := 0, cells := 0, slots := 0, locals := 0 } : Room).cells ({ frames := 0, cells := 0, slots := 0, locals := 0 } : Room).slots) := by
  have F_MODIFY_ordinal := C.2.2.2.2.2.2.2.1
  have S_MODIFY_STRICT := C.2.2.2.2.2.2.2.2.1
  have F_MODIFY_STRICT_ordinal := C.2.2.2.2.2.2.2.2.2.2.1
  have S_DELETE_STRICT := C.2.2.2.2.2.2.2.2.2.2.2.2.2.2.1
  have F_DELETE_STRICT_ordinal := C.2.2.2.2.2.2.2.2.2.2.2.2.2.2.2.2.1
  refine MetFree.of_bodySF (plainFor_of_name pn_3) hisR ?_
  intro p e s m args below meth c s₁ Bd hml0 hP hK
  obtain ⟨rfl, hZ, hh⟩ := hP
  have hx := Bd.exec
  have hby := Bd.bytes
  have hml : c.maxLocals = 1 := hml0
  have hown : s.vm.findClass "com/example/flowspur/flowspur/softswitch/FlowMod$Command" = some m.cls := findClass_of_methodNamed Bd.named
  have hnm := (name_of_methodNamed Bd.named Bd.method).1
  have X0 : Stand p l e ({ frames := 0, cells := 0, slots := 0, locals := 0 } : Room) s m #[(.ref w_MODIFY)] below meth c s₁ [] 0 0 := Stand.of_body Bd
  have e0 : s₁.heap = h0 := by rw [← hh, Bd.state]; rfl
  have N0 := Fr.nil n0
  have pre0 : ∀ t, Steps p.tables e below (s₁.setTop (mkF m 0 #[.val (.ref w_MODIFY)] [])) t → Steps p.tables e below (s₁.setTop (entryFrame m #[(.ref w_MODIFY)] 1)) t := fun t k => castTop (ef_3 m w_MODIFY) k
  obtain ⟨T1, X1, e1, st1⟩ := getS2 X0 hx hZ hown (host := "") (Or.inl (hw _ (List.mem_of_getElem? (i := 30) rfl))) Via.refl e0 S_MODIFY_STRICT (g := (mkF m 1 #[.val (.ref w_MODIFY)] [(.ref w_MODIFY)])) rfl (hb hby d3_1)
  obtain ⟨T2, X2, e2, st2⟩ := getS2 X1 hx hZ hown (host := "") (Or.inl (hw _ (List.mem_of_getElem? (i := 31) rfl))) Via.refl e1 S_DELETE_STRICT (g := (mkF m 8 #[.val (.ref w_MODIFY)] [(.ref w_MODIFY)])) rfl (hb hby d3_8)
  obtain ⟨fs, hr, hrun, hended, hW, hsame⟩ := X2.leave (v := (some (.int (0 : Int32)))) (fun h => by rw [Bd.returns] at h; cases h)
  refine ⟨_, _, pre0 _ ?_, hrun, hended, _, _, rfl, ?_, ⟨_, rfl⟩, hW, hsame.mono (by decide) (by decide)⟩
  · show Steps p.tables e below (s₁.setTop (mkF m 0 #[.val (.ref w_MODIFY)] [])) _
    refine XS.aloadN X0.here hx rfl (hb hby d3_0) rfl rfl ?_
    show Steps p.tables e below (s₁.setTop (mkF m 1 #[.val (.ref w_MODIFY)] [(.ref w_MODIFY)])) _
    refine st1 _ ?_
    show Steps p.tables e below (T1.setTop (mkF m 4 #[.val (.ref w_MODIFY)] [(.ref w_MODIFY_STRICT), (.ref w_MODIFY)])) _
    refine Jvm.RoadKit.acmp (g := (mkF m 4 #[.val (.ref w_MODIFY)] [(.ref w_MODIFY_STRICT), (.ref w_MODIFY)])) X1 hx rfl rfl rfl (pc0 := 4) (pc' := 7) (same := false) rfl (hb hby d3_4) rfl (decide_eq_false fun q => (Fld.ne F_MODIFY_ordinal F_MODIFY_STRICT_ordinal (by simp)) (Value.ref.inj q)) (by decide) (by decide) ?_
    show Steps p.tables e below (T1.setTop (mkF m 7 #[.val (.ref w_MODIFY)] [])) _
    refine XS.aloadN X1.here hx rfl (hb hby d3_7) rfl rfl ?_
    show Steps p.tables e below (T1.setTop (mkF m 8 #[.val (.ref w_MODIFY)] [(.ref w_MODIFY)])) _
    refine st2 _ ?_
    show Steps p.tables e below (T2.setTop (mkF m 11 #[.val (.ref w_MODIFY)] [(.ref w_DELETE_STRICT), (.ref w_MODIFY)])) _
    refine Jvm.RoadKit.acmp (g := (mkF m 11 #[.val (.ref w_MODIFY)] [(.ref w_DELETE_STRICT), (.ref w_MODIFY)])) X2 hx rfl rfl rfl (pc0 := 11) (pc' := 18) (same := false) rfl (hb hby d3_11) rfl (decide_eq_false fun q => (Fld.ne F_MODIFY_ordinal F_DELETE_STRICT_ordinal (by simp)) (Value.ref.inj q)) (by decide) (by decide) ?_
    show Steps p.tables e below (T2.setTop (mkF m 18 #[.val (.ref w_MODIFY)] [])) _
    refine XS.iconst X2.here hx rfl (hb hby d3_18) ?_
    show Steps p.tables e below (T2.setTop (mkF m 19 #[.val (.ref w_MODIFY)] [(.int (0 : Int32))])) _
    exact retN X2 hx (t := .boolean) Bd.returns (by simp) (hb hby d3_19) hr
  · exact ⟨rfl, N0, e2⟩
set_option maxRecDepth 65536 in
set_option maxHeartbeats 40000000 in
theorem rm0_1 (l : Launch) (Z : State) (a0 : Array Value) (hw : ∀ d ∈ tables_1, d.before a0 Z = true) (ws : List Jvm.Cond) (w__VALUES w_ADD w_MODIFY w_MODIFY_STRICT w_DELETE w_DELETE_STRICT : Addr) (cl : Cell) (i0 : Int32) (h0 : Heap) (n0 : Nat) (Z0 : n0 ≤ h0.size) (C : Ctx Z h0 w__VALUES w_ADD w_MODIFY w_MODIFY_STRICT w_DELETE w_DELETE_STRICT cl) (hv0 : ((i0 &&& (2147483647 : Int32)) % (5 : Int32)) = (1 : Int32)) :
    MetFree l x (head1 (Jvm.Cond.code x code maxLocals ret :: ws) room_1) (fun a U => a = #[(.int i0)] ∧ Z.Warmed39 U.vm ∧ U.heap = h0) (fun _ _ _ _ _ => True) (fun _ U o U' => ∃ v L, o = .returned v ∧ QL n0 (some (.int (1 : Int32))) v L ∧ FrameEnd U o U' L room_1.cells room_1.slots) := by
  have E_MODIFY := C.2.2.2.2.2.2.1
  refine MetFree.of_bodySF (plainFor_of_name pn_0) hisR ?_
  intro p e s m args below meth c s₁ Bd hml0 hP hK
  obtain ⟨rfl, hZ, hh⟩ := hP
  have hx := Bd.exec
  have hby := Bd.bytes
  have hml : c.maxLocals = 4 := hml0
  have hown : s.vm.findClass "com/example/flowspur/flowspur/softswitch/CommandStrictPinLaw" = some m.cls := findClass_of_methodNamed Bd.named
  have hnm := (name_of_methodNamed Bd.named Bd.method).1
  have X0 : Stand p l e room_1 s m #[(.int i0)] below meth c s₁ [] 0 0 := Stand.of_body Bd
  have e0 : s₁.heap = h0 := by rw [← hh, Bd.state]; rfl
  have N0 := Fr.nil n0
  have pre0 : ∀ t, Steps p.tables e below (s₁.setTop (mkF m 0 #[.val (.int i0), .unset, .unset, .unset] [])) t → Steps p.tables e below (s₁.setTop (entryFrame m #[(.int i0)] maxLocals)) t := fun t k => castTop (ef_0 m i0) k
  obtain ⟨_, _, ⟨T1, L1, k1, n1⟩, -, X1, ⟨Lc1, hQ1, l1, y1, z1⟩, st1⟩ := Jvm.LawKit.callS X0 hx (y := (⟨"com/example/flowspur/flowspur/softswitch/FlowMod$Command", "of", "(J)Lcom/example/flowspur/flowspur/softswitch/FlowMod$Command;"⟩ : MethodName)) hown (mvT hZ (hw _ (List.mem_of_getElem? (i := 1) rfl))) (mvT hZ (hw _ (List.mem_of_getElem? (i := 2) rfl))) (mvT hZ (hw _ (List.mem_of_getElem? (i := 3) rfl))) (mvT hZ (hw _ (List.mem_of_getElem? (i := 4) rfl))) (by decide) (backOf (W := 0) (rm1_1 l Z a0 hw [] w__VALUES w_ADD w_MODIFY w_MODIFY_STRICT w_DELETE w_DELETE_STRICT cl h0 n0 Z0 C) hZ (hw _ (List.mem_of_getElem? (i := 4) rfl)) (hw _ (List.mem_of_getElem? (i := 3) rfl)) (by decide) (by decide)) (g := (mkF m 9 #[.val (.int i0), .val (.int (1 : Int32)), .unset, .unset] [(.long (1 : Int64))])) rfl (by rw [hml]; rfl) (argsL := [(.long (1 : Int64))]) (rest := []) (lenOf pd_1 rfl) rfl (by show 2 * 0 + _ ≤ _; exact Nat.le_of_eq rfl) (hb hby at_9) (fun _ _ => ⟨rfl, e0, (by decide : 0 + 1 ≤ _), (by decide : 0 + 5 ≤ _)⟩)
  dsimp only [Pt.U, Pt.locs, Pt.cells, Pt.slots] at X1 l1 y1 z1 st1 hQ1
  subst l1 y1 z1
  obtain ⟨rfl, N1q, x1⟩ := hQ1
  have N1 := Fr.app N0 N1q
  obtain ⟨cq2, kq2, q2a, q2b, q2c⟩ := isOf hZ rfl (E_MODIFY.ext x1)
  obtain ⟨_, _, ⟨T2, L2, k2, n2⟩, -, X2, ⟨Lc2, hQ2, l2, y2, z2⟩, st2⟩ := X1.virtualBack hx (y := (⟨"com/example/flowspur/flowspur/softswitch/FlowMod$Command", "strict", "()Z"⟩ : MethodName)) (z := (⟨"com/example/flowspur/flowspur/softswitch/FlowMod$Command", "strict", "()Z"⟩ : MethodName)) hown (mvT hZ (hw _ (List.mem_of_getElem? (i := 25) rfl))) (mvT hZ (hw _ (List.mem_of_getElem? (i := 26) rfl))) (notFace_of_selects (args := #[]) (mvT hZ (hw _ (List.mem_of_getElem? (i := 28) rfl)))) (mvT hZ (hw _ (List.mem_of_getElem? (i := 28) rfl))) (mvT hZ (hw _ (List.mem_of_getElem? (i := 27) rfl))) (by decide) (backOf (W := 0) (rm3_1 l Z a0 hw [] w__VALUES w_ADD w_MODIFY w_MODIFY_STRICT w_DELETE w_DELETE_STRICT cl  T1.heap n0 (Nat.le_trans Z0 x1.1) (own_cx x1 C) ) hZ (hw _ (List.mem_of_getElem? (i := 29) rfl)) (hw _ (List.mem_of_getElem? (i := 3) rfl)) (by decide) (by decide)) q2a q2c (g := (mkF m 36 #[.val (.int i0), .val (.int (1 : Int32)), .val (.ref w_MODIFY), .val (.int (0 : Int32))] [(.ref w_MODIFY)])) rfl (by rw [hml]; rfl) (Steps.refl _) (argsL := []) (rest := []) (lenOf pd_2 rfl) rfl (by show 2 * 0 + _ ≤ _; exact Nat.le_of_eq rfl) (hb hby at_36) (fun _ _ => ⟨rfl, rfl, (by decide : 1 + 0 ≤ _), (by decide : 5 + 0 ≤ _)⟩)
  dsimp only [Pt.U, Pt.locs, Pt.cells, Pt.slots] at X2 l2 y2 z2 st2 hQ2
  subst l2 y2 z2
  obtain ⟨rfl, N2q, e2⟩ := hQ2
  have N2 := Fr.app N1 N2q
  obtain ⟨fs, hr, hrun, hended, hW, hsame⟩ := X2.leave (v := (some (.int (1 : Int32)))) (fun h => by rw [Bd.returns] at h; cases h)
  refine ⟨_, _, pre0 _ ?_, hrun, hended, _, _, rfl, ?_, ⟨_, rfl⟩, hW, hsame.mono (by decide) (by decide)⟩
  · show Steps p.tables e below (s₁.setTop (mkF m 0 #[.val (.int i0), .unset, .unset, .unset] [])) _
    refine XS.iloadN X0.here hx rfl (hb hby at_0) rfl ?_
    show Steps p.tables e below (s₁.setTop (mkF m 1 #[.val (.int i0), .unset, .unset, .unset] [(.int i0)])) _
    refine X0.ldcInt hx hown (mvT hZ (hw _ (List.mem_of_getElem? (i := 0) rfl))) (g := (mkF m 1 #[.val (.int i0), .unset, .unset, .unset] [(.int i0)])) rfl (hb hby at_1) _ ?_
    show Steps p.tables e below (s₁.setTop (mkF m 3 #[.val (.int i0), .unset, .unset, .unset] [(.int (2147483647 : Int32)), (.int i0)])) _
    refine XS.iand X0.here hx rfl (hb hby at_3) rfl ?_
    show Steps p.tables e below (s₁.setTop (mkF m 4 #[.val (.int i0), .unset, .unset, .unset] [(.int (i0 &&& (2147483647 : Int32)))])) _
    refine XS.iconst X0.here hx rfl (hb hby at_4) ?_
    show Steps p.tables e below (s₁.setTop (mkF m 5 #[.val (.int i0), .unset, .unset, .unset] [(.int (5 : Int32)), (.int (i0 &&& (2147483647 : Int32)))])) _
    refine iremM (g := (mkF m 5 #[.val (.int i0), .unset, .unset, .unset] [(.int (5 : Int32)), (.int (i0 &&& (2147483647 : Int32)))])) X0 hx rfl (hb hby at_5) rfl (by decide) ?_
    show Steps p.tables e below (s₁.setTop (mkF m 6 #[.val (.int i0), .unset, .unset, .unset] [(.int ((i0 &&& (2147483647 : Int32)) % (5 : Int32)))])) _
    rw [hv0]
    show Steps p.tables e below (s₁.setTop (mkF m 6 #[.val (.int i0), .unset, .unset, .unset] [(.int (1 : Int32))])) _
    refine XS.istoreN X0.here hx rfl (hb hby at_6) rfl (l' := #[.val (.int i0), .val (.int (1 : Int32)), .unset, .unset]) rfl ?_
    show Steps p.tables e below (s₁.setTop (mkF m 7 #[.val (.int i0), .val (.int (1 : Int32)), .unset, .unset] [])) _
    refine XS.iloadN X0.here hx rfl (hb hby at_7) rfl ?_
    show Steps p.tables e below (s₁.setTop (mkF m 8 #[.val (.int i0), .val (.int (1 : Int32)), .unset, .unset] [(.int (1 : Int32))])) _
    refine XS.i2l X0.here hx rfl (hb hby at_8) rfl ?_
    show Steps p.tables e below (s₁.setTop (mkF m 9 #[.val (.int i0), .val (.int (1 : Int32)), .unset, .unset] [(.long ((1 : Int32).toInt64))])) _
    rw [show ((1 : Int32).toInt64) = (1 : Int64) from by decide +kernel]
    show Steps p.tables e below (s₁.setTop (mkF m 9 #[.val (.int i0), .val (.int (1 : Int32)), .unset, .unset] [(.long (1 : Int64))])) _
    refine st1 _ ?_
    show Steps p.tables e below (T1.setTop (mkF m 12 #[.val (.int i0), .val (.int (1 : Int32)), .unset, .unset] [(.ref w_MODIFY)])) _
    refine XS.astoreN X1.here hx rfl (hb hby at_12) rfl rfl (l' := #[.val (.int i0), .val (.int (1 : Int32)), .val (.ref w_MODIFY), .unset]) rfl ?_
    show Steps p.tables e below (T1.setTop (mkF m 13 #[.val (.int i0), .val (.int (1 : Int32)), .val (.ref w_MODIFY), .unset] [])) _
    refine XS.aloadN X1.here hx rfl (hb hby at_13) rfl rfl ?_
    show Steps p.tables e below (T1.setTop (mkF m 14 #[.val (.int i0), .val (.int (1 : Int32)), .val (.ref w_MODIFY), .unset] [(.ref w_MODIFY)])) _
    refine XS.ifnonnullYes X1.here hx rfl (pc0 := 14) (pc' := 19) rfl (hb hby at_14) rfl (by decide) (by decide) ?_
    show Steps p.tables e below (T1.setTop (mkF m 19 #[.val (.int i0), .val (.int (1 : Int32)), .val (.ref w_MODIFY), .unset] [])) _
    refine XS.iloadN X1.here hx rfl (hb hby at_19) rfl ?_
    show Steps p.tables e below (T1.setTop (mkF m 20 #[.val (.int i0), .val (.int (1 : Int32)), .val (.ref w_MODIFY), .unset] [(.int (1 : Int32))])) _
    refine XS.iconst X1.here hx rfl (hb hby at_20) ?_
    show Steps p.tables e below (T1.setTop (mkF m 21 #[.val (.int i0), .val (.int (1 : Int32)), .val (.ref w_MODIFY), .unset] [(.int (2 : Int32)), (.int (1 : Int32))])) _
    refine XS.icmpNo X1.here hx rfl (hb hby at_21) rfl (feq (by decide +kernel : ¬ ((1 : Int32) = (2 : Int32)))).1 ?_
    show Steps p.tables e below (T1.setTop (mkF m 24 #[.val (.int i0), .val (.int (1 : Int32)), .val (.ref w_MODIFY), .unset] [])) _
    refine XS.iloadN X1.here hx rfl (hb hby at_24) rfl ?_
    show Steps p.tables e below (T1.setTop (mkF m 25 #[.val (.int i0), .val (.int (1 : Int32)), .val (.ref w_MODIFY), .unset] [(.int (1 : Int32))])) _
    refine XS.iconst X1.here hx rfl (hb hby at_25) ?_
    show Steps p.tables e below (T1.setTop (mkF m 26 #[.val (.int i0), .val (.int (1 : Int32)), .val (.ref w_MODIFY), .unset] [(.int (4 : Int32)), (.int (1 : Int32))])) _
    refine XS.icmpYes X1.here hx rfl (pc0 := 26) (pc' := 33) rfl (hb hby at_26) rfl (feq (by decide +kernel : ¬ ((1 : Int32) = (4 : Int32)))).2 (by decide) (by decide) ?_
    show Steps p.tables e below (T1.setTop (mkF m 33 #[.val (.int i0), .val (.int (1 : Int32)), .val (.ref w_MODIFY), .unset] [])) _
    refine XS.iconst X1.here hx rfl (hb hby at_33) ?_
    show Steps p.tables e below (T1.setTop (mkF m 34 #[.val (.int i0), .val (.int (1 : Int32)), .val (.ref w_MODIFY), .unset] [(.int (0 : Int32))])) _
    refine XS.istoreN X1.here hx rfl (hb hby at_34) rfl (l' := #[.val (.int i0), .val (.int (1 : Int32)), .val (.ref w_MODIFY), .val (.int (0 : Int32))]) rfl ?_
    show Steps p.tables e below (T1.setTop (mkF m 35 #[.val (.int i0), .val (.int (1 : Int32)), .val (.ref w_MODIFY), .val (.int (0 : Int32))] [])) _
    refine XS.aloadN X1.here hx rfl (hb hby at_35) rfl rfl ?_
    show Steps p.tables e below (T1.setTop (mkF m 36 #[.val (.int i0), .val (.int (1 : Int32)), .val (.ref w_MODIFY), .val (.int (0 : Int32))] [(.ref w_MODIFY)])) _
    refine st2.trans ?_
    show Steps p.tables e below (T2.setTop (mkF m 39 #[.val (.int i0), .val (.int (1 : Int32)), .val (.ref w_MODIFY), .val (.int (0 : Int32))] [(.int (0 : Int32))])) _
    refine XS.iloadN X2.here hx rfl (hb hby at_39) rfl ?_
    show Steps p.tables e below (T2.setTop (mkF m 40 #[.val (.int i0), .val (.int (1 : Int32)), .val (.ref w_MODIFY), .val (.int (0 : Int32))] [(.int (0 : Int32)), (.int (0 : Int32))])) _
    refine XS.icmpNo X2.here hx rfl (hb hby at_40) rfl (teq (by decide +kernel : (0 : Int32) = (0 : Int32))).2 ?_
    show Steps p.tables e below (T2.setTop (mkF m 43 #[.val (.int i0), .val (.int (1 : Int32)), .val (.ref w_MODIFY), .val (.int (0 : Int32))] [])) _
    refine XS.iconst X2.here hx rfl (hb hby at_43) ?_
    show Steps p.tables e below (T2.setTop (mkF m 44 #[.val (.int i0), .val (.int (1 : Int32)), .val (.ref w_MODIFY), .val (.int (0 : Int32))] [(.int (1 : Int32))])) _
    refine XS.goto X2.here hx rfl (pc0 := 44) (pc' := 48) rfl (hb hby at_44) (by decide) (by decide) ?_
    show Steps p.tables e below (T2.setTop (mkF m 48 #[.val (.int i0), .val (.int (1 : Int32)), .val (.ref w_MODIFY), .val (.int (0 : Int32))] [(.int (1 : Int32))])) _
    exact retN X2 hx (t := .boolean) Bd.returns (by simp) (hb hby at_48) hr
  · exact ⟨rfl, N2⟩
set_option maxRecDepth 65536 in
set_option maxHeartbeats 40000000 in
theorem rm3_2 (l : Launch) (Z : State) (a0 : Array Value) (hw : ∀ d ∈ tables_1, d.before a0 Z = true) (ws : List Jvm.Cond) (w__VALUES w_ADD w_MODIFY w_MODIFY_STRICT w_DELETE w_DELETE_STRICT : Addr) (cl : Cell) (h0 : Heap) (n0 : Nat) (Z0 : n0 ≤ h0.size) (C : Ctx Z h0 w__VALUES w_ADD w_MODIFY w_MODIFY_STRICT w_DELETE w_DELETE_STRICT cl)  :
    MetFree l (⟨"com/example/flowspur/flowspur/softswitch/FlowMod$Command", "strict", "()Z"⟩ : MethodName) (head1 (Jvm.Cond.code (⟨"com/example/flowspur/flowspur/softswitch/FlowMod$Command", "strict", "()Z"⟩ : MethodName) prog_123_method_6_code 1 (some .boolean) :: ws) ({ frames := 0, cells := 0, slots := 0, locals := 0 } : Room)) (fun a U => a = #[(.ref w_MODIFY_STRICT)] ∧ Z.Warmed39 U.vm ∧ U.heap = h0) (fun _ _ _ _ _ => True) (fun _ U o U' => ∃ v L, o = .returned v ∧ QR h0 n0 (some (.int (1 : Int32))) v U'.heap L ∧ FrameEnd U o U' L ({ frames := 0, cells := 0, slots := 0, locals := 0 } : Room).cells ({ frames := 0, cells := 0, slots := 0, locals := 0 } : Room).slots) := by
  have S_MODIFY_STRICT := C.2.2.2.2.2.2.2.2.1
  refine MetFree.of_bodySF (plainFor_of_name pn_3) hisR ?_
  intro p e s m args below meth c s₁ Bd hml0 hP hK
  obtain ⟨rfl, hZ, hh⟩ := hP
  have hx := Bd.exec
  have hby := Bd.bytes
  have hml : c.maxLocals = 1 := hml0
  have hown : s.vm.findClass "com/example/flowspur/flowspur/softswitch/FlowMod$Command" = some m.cls := findClass_of_methodNamed Bd.named
  have hnm := (name_of_methodNamed Bd.named Bd.method).1
  have X0 : Stand p l e ({ frames := 0, cells := 0, slots := 0, locals := 0 } : Room) s m #[(.ref w_MODIFY_STRICT)] below meth c s₁ [] 0 0 := Stand.of_body Bd
  have e0 : s₁.heap = h0 := by rw [← hh, Bd.state]; rfl
  have N0 := Fr.nil n0
  have pre0 : ∀ t, Steps p.tables e below (s₁.setTop (mkF m 0 #[.val (.ref w_MODIFY_STRICT)] [])) t → Steps p.tables e below (s₁.setTop (entryFrame m #[(.ref w_MODIFY_STRICT)] 1)) t := fun t k => castTop (ef_3 m w_MODIFY_STRICT) k
  obtain ⟨T1, X1, e1, st1⟩ := getS2 X0 hx hZ hown (host := "") (Or.inl (hw _ (List.mem_of_getElem? (i := 30) rfl))) Via.refl e0 S_MODIFY_STRICT (g := (mkF m 1 #[.val (.ref w_MODIFY_STRICT)] [(.ref w_MODIFY_STRICT)])) rfl (hb hby d3_1)
  obtain ⟨fs, hr, hrun, hended, hW, hsame⟩ := X1.leave (v := (some (.int (1 : Int32)))) (fun h => by rw [Bd.returns] at h; cases h)
  refine ⟨_, _, pre0 _ ?_, hrun, hended, _, _, rfl, ?_, ⟨_, rfl⟩, hW, hsame.mono (by decide) (by decide)⟩
  · show Steps p.tables e below (s₁.setTop (mkF m 0 #[.val (.ref w_MODIFY_STRICT)] [])) _
    refine XS.aloadN X0.here hx rfl (hb hby d3_0) rfl rfl ?_
    show Steps p.tables e below (s₁.setTop (mkF m 1 #[.val (.ref w_MODIFY_STRICT)] [(.ref w_MODIFY_STRICT)])) _
    refine st1 _ ?_
    show Steps p.tables e below (T1.setTop (mkF m 4 #[.val (.ref w_MODIFY_STRICT)] [(.ref w_MODIFY_STRICT), (.ref w_MODIFY_STRICT)])) _
    refine Jvm.RoadKit.acmp (g := (mkF m 4 #[.val (.ref w_MODIFY_STRICT)] [(.ref w_MODIFY_STRICT), (.ref w_MODIFY_STRICT)])) X1 hx rfl rfl rfl (pc0 := 4) (pc' := 14) (same := true) rfl (hb hby d3_4) rfl (decide_eq_true rfl) (by decide) (by decide) ?_
    show Steps p.tables e below (T1.setTop (mkF m 14 #[.val (.ref w_MODIFY_STRICT)] [])) _
    refine XS.iconst X1.here hx rfl (hb hby d3_14) ?_
    show Steps p.tables e below (T1.setTop (mkF m 15 #[.val (.ref w_MODIFY_STRICT)] [(.int (1 : Int32))])) _
    refine XS.goto X1.here hx rfl (pc0 := 15) (pc' := 19) rfl (hb hby d3_15) (by decide) (by decide) ?_
    show Steps p.tables e below (T1.setTop (mkF m 19 #[.val (.ref w_MODIFY_STRICT)] [(.int (1 : Int32))])) _
    exact retN X1 hx (t := .boolean) Bd.returns (by simp) (hb hby d3_19) hr
  · exact ⟨rfl, N0, e1⟩
set_option maxRecDepth 65536 in
set_option maxHeartbeats 40000000 in
theorem rm0_2 (l : Launch) (Z : State) (a0 : Array Value) (hw : ∀ d ∈ tables_1, d.before a0 Z = true) (ws : List Jvm.Cond) (w__VALUES w_ADD w_MODIFY w_MODIFY_STRICT w_DELETE w_DELETE_STRICT : Addr) (cl : Cell) (i0 : Int32) (h0 : Heap) (n0 : Nat) (Z0 : n0 ≤ h0.size) (C : Ctx Z h0 w__VALUES w_ADD w_MODIFY w_MODIFY_STRICT w_DELETE w_DELETE_STRICT cl) (hv0 : ((i0 &&& (2147483647 : Int32)) % (5 : Int32)) = (2 : Int32)) :
    MetFree l x (head1 (Jvm.Cond.code x code maxLocals ret :: ws) room_1) (fun a U => a = #[(.int i0)] ∧ Z.Warmed39 U.vm ∧ U.heap = h0) (fun _ _ _ _ _ => True) (fun _ U o U' => ∃ v L, o = .returned v ∧ QL n0 (some (.int (1 : Int32))) v L ∧ FrameEnd U o U' L room_1.cells room_1.slots) := by
  have E_MODIFY_STRICT := C.2.2.2.2.2.2.2.2.2.1
  refine MetFree.of_bodySF (plainFor_of_name pn_0) hisR ?_
  intro p e s m args below meth c s₁ Bd hml0 hP hK
  obtain ⟨rfl, hZ, hh⟩ := hP
  have hx := Bd.exec
  have hby := Bd.bytes
  have hml : c.maxLocals = 4 := hml0
  have hown : s.vm.findClass "com/example/flowspur/flowspur/softswitch/CommandStrictPinLaw" = some m.cls := findClass_of_methodNamed Bd.named
  have hnm := (name_of_methodNamed Bd.named Bd.method).1
  have X0 : Stand p l e room_1 s m #[(.int i0)] below meth c s₁ [] 0 0 := Stand.of_body Bd
  have e0 : s₁.heap = h0 := by rw [← hh, Bd.state]; rfl
  have N0 := Fr.nil n0
  have pre0 : ∀ t, Steps p.tables e below (s₁.setTop (mkF m 0 #[.val (.int i0), .unset, .unset, .unset] [])) t → Steps p.tables e below (s₁.setTop (entryFrame m #[(.int i0)] maxLocals)) t := fun t k => castTop (ef_0 m i0) k
  obtain ⟨_, _, ⟨T1, L1, k1, n1⟩, -, X1, ⟨Lc1, hQ1, l1, y1, z1⟩, st1⟩ := Jvm.LawKit.callS X0 hx (y := (⟨"com/example/flowspur/flowspur/softswitch/FlowMod$Command", "of", "(J)Lcom/example/flowspur/flowspur/softswitch/FlowMod$Command;"⟩ : MethodName)) hown (mvT hZ (hw _ (List.mem_of_getElem? (i := 1) rfl))) (mvT hZ (hw _ (List.mem_of_getElem? (i := 2) rfl))) (mvT hZ (hw _ (List.mem_of_getElem? (i := 3) rfl))) (mvT hZ (hw _ (List.mem_of_getElem? (i := 4) rfl))) (by decide) (backOf (W := 0) (rm1_2 l Z a0 hw [] w__VALUES w_ADD w_MODIFY w_MODIFY_STRICT w_DELETE w_DELETE_STRICT cl h0 n0 Z0 C) hZ (hw _ (List.mem_of_getElem? (i := 4) rfl)) (hw _ (List.mem_of_getElem? (i := 3) rfl)) (by decide) (by decide)) (g := (mkF m 9 #[.val (.int i0), .val (.int (2 : Int32)), .unset, .unset] [(.long (2 : Int64))])) rfl (by rw [hml]; rfl) (argsL := [(.long (2 : Int64))]) (rest := []) (lenOf pd_1 rfl) rfl (by show 2 * 0 + _ ≤ _; exact Nat.le_of_eq rfl) (hb hby at_9) (fun _ _ => ⟨rfl, e0, (by decide : 0 + 1 ≤ _), (by decide : 0 + 5 ≤ _)⟩)
  dsimp only [Pt.U, Pt.locs, Pt.cells, Pt.slots] at X1 l1 y1 z1 st1 hQ1
  subst l1 y1 z1
  obtain ⟨rfl, N1q, x1⟩ := hQ1
  have N1 := Fr.app N0 N1q
  obtain ⟨cq2, kq2, q2a, q2b, q2c⟩ := isOf hZ rfl (E_MODIFY_STRICT.ext x1)
  obtain ⟨_, _, ⟨T2, L2, k2, n2⟩, -, X2, ⟨Lc2, hQ2, l2, y2, z2⟩, st2⟩ := X1.virtualBack hx (y := (⟨"com/example/flowspur/flowspur/softswitch/FlowMod$Command", "strict", "()Z"⟩ : MethodName)) (z := (⟨"com/example/flowspur/flowspur/softswitch/FlowMod$Command", "strict", "()Z"⟩ : MethodName)) hown (mvT hZ (hw _ (List.mem_of_getElem? (i := 25) rfl))) (mvT hZ (hw _ (List.mem_of_getElem? (i := 26) rfl))) (notFace_of_selects (args := #[]) (mvT hZ (hw _ (List.mem_of_getElem? (i := 28) rfl)))) (mvT hZ (hw _ (List.mem_of_getElem? (i := 28) rfl))) (mvT hZ (hw _ (List.mem_of_getElem? (i := 27) rfl))) (by decide) (backOf (W := 0) (rm3_2 l Z a0 hw [] w__VALUES w_ADD w_MODIFY w_MODIFY_STRICT w_DELETE w_DELETE_STRICT cl  T1.heap n0 (Nat.le_trans Z0 x1.1) (own_cx x1 C) ) hZ (hw _ (List.mem_of_getElem? (i := 29) rfl)) (hw _ (List.mem_of_getElem? (i := 3) rfl)) (by decide) (by decide)) q2a q2c (g := (mkF m 36 #[.val (.int i0), .val (.int (2 : Int32)), .val (.ref w_MODIFY_STRICT), .val (.int (1 : Int32))] [(.ref w_MODIFY_STRICT)])) rfl (by rw [hml]; rfl) (Steps.refl _) (argsL := []) (rest := []) (lenOf pd_2 rfl) rfl (by show 2 * 0 + _ ≤ _; exact Nat.le_of_eq rfl) (hb hby at_36) (fun _ _ => ⟨rfl, rfl, (by decide : 1 + 0 ≤ _), (by decide : 5 + 0 ≤ _)⟩)
  dsimp only [Pt.U, Pt.locs, Pt.cells, Pt.slots] at X2 l2 y2 z2 st2 hQ2
  subst l2 y2 z2
  obtain ⟨rfl, N2q, e2⟩ := hQ2
  have N2 := Fr.app N1 N2q
  obtain ⟨fs, hr, hrun, hended, hW, hsame⟩ := X2.leave (v := (some (.int (1 : Int32)))) (fun h => by rw [Bd.returns] at h; cases h)
  refine ⟨_, _, pre0 _ ?_, hrun, hended, _, _, rfl, ?_, ⟨_, rfl⟩, hW, hsame.mono (by decide) (by decide)⟩
  · show Steps p.tables e below (s₁.setTop (mkF m 0 #[.val (.int i0), .unset, .unset, .unset] [])) _
    refine XS.iloadN X0.here hx rfl (hb hby at_0) rfl ?_
    show Steps p.tables e below (s₁.setTop (mkF m 1 #[.val (.int i0), .unset, .unset, .unset] [(.int i0)])) _
    refine X0.ldcInt hx hown (mvT hZ (hw _ (List.mem_of_getElem? (i := 0) rfl))) (g := (mkF m 1 #[.val (.int i0), .unset, .unset, .unset] [(.int i0)])) rfl (hb hby at_1) _ ?_
    show Steps p.tables e below (s₁.setTop (mkF m 3 #[.val (.int i0), .unset, .unset, .unset] [(.int (2147483647 : Int32)), (.int i0)])) _
    refine XS.iand X0.here hx rfl (hb hby at_3) rfl ?_
    show Steps p.tables e below (s₁.setTop (mkF m 4 #[.val (.int i0), .unset, .unset, .unset] [(.int (i0 &&& (2147483647 : Int32)))])) _
    refine XS.iconst X0.here hx rfl (hb hby at_4) ?_
    show Steps p.tables e below (s₁.setTop (mkF m 5 #[.val (.int i0), .unset, .unset, .unset] [(.int (5 : Int32)), (.int (i0 &&& (2147483647 : Int32)))])) _
    refine iremM (g := (mkF m 5 #[.val (.int i0), .unset, .unset, .unset] [(.int (5 : Int32)), (.int (i0 &&& (2147483647 : Int32)))])) X0 hx rfl (hb hby at_5) rfl (by decide) ?_
    show Steps p.tables e below (s₁.setTop (mkF m 6 #[.val (.int i0), .unset, .unset, .unset] [(.int ((i0 &&& (2147483647 : Int32)) % (5 : Int32)))])) _
    rw [hv0]
    show Steps p.tables e below (s₁.setTop (mkF m 6 #[.val (.int i0), .unset, .unset, .unset] [(.int (2 : Int32))])) _
    refine XS.istoreN X0.here hx rfl (hb hby at_6) rfl (l' := #[.val (.int i0), .val (.int (2 : Int32)), .unset, .unset]) rfl ?_
    show Steps p.tables e below (s₁.setTop (mkF m 7 #[.val (.int i0), .val (.int (2 : Int32)), .unset, .unset] [])) _
    refine XS.iloadN X0.here hx rfl (hb hby at_7) rfl ?_
    show Steps p.tables e below (s₁.setTop (mkF m 8 #[.val (.int i0), .val (.int (2 : Int32)), .unset, .unset] [(.int (2 : Int32))])) _
    refine XS.i2l X0.here hx rfl (hb hby at_8) rfl ?_
    show Steps p.tables e below (s₁.setTop (mkF m 9 #[.val (.int i0), .val (.int (2 : Int32)), .unset, .unset] [(.long ((2 : Int32).toInt64))])) _
    rw [show ((2 : Int32).toInt64) = (2 : Int64) from by decide +kernel]
    show Steps p.tables e below (s₁.setTop (mkF m 9 #[.val (.int i0), .val (.int (2 : Int32)), .unset, .unset] [(.long (2 : Int64))])) _
    refine st1 _ ?_
    show Steps p.tables e below (T1.setTop (mkF m 12 #[.val (.int i0), .val (.int (2 : Int32)), .unset, .unset] [(.ref w_MODIFY_STRICT)])) _
    refine XS.astoreN X1.here hx rfl (hb hby at_12) rfl rfl (l' := #[.val (.int i0), .val (.int (2 : Int32)), .val (.ref w_MODIFY_STRICT), .unset]) rfl ?_
    show Steps p.tables e below (T1.setTop (mkF m 13 #[.val (.int i0), .val (.int (2 : Int32)), .val (.ref w_MODIFY_STRICT), .unset] [])) _
    refine XS.aloadN X1.here hx rfl (hb hby at_13) rfl rfl ?_
    show Steps p.tables e below (T1.setTop (mkF m 14 #[.val (.int i0), .val (.int (2 : Int32)), .val (.ref w_MODIFY_STRICT), .unset] [(.ref w_MODIFY_STRICT)])) _
    refine XS.ifnonnullYes X1.here hx rfl (pc0 := 14) (pc' := 19) rfl (hb hby at_14) rfl (by decide) (by decide) ?_
    show Steps p.tables e below (T1.setTop (mkF m 19 #[.val (.int i0), .val (.int (2 : Int32)), .val (.ref w_MODIFY_STRICT), .unset] [])) _
    refine XS.iloadN X1.here hx rfl (hb hby at_19) rfl ?_
    show Steps p.tables e below (T1.setTop (mkF m 20 #[.val (.int i0), .val (.int (2 : Int32)), .val (.ref w_MODIFY_STRICT), .unset] [(.int (2 : Int32))])) _
    refine XS.iconst X1.here hx rfl (hb hby at_20) ?_
    show Steps p.tables e below (T1.setTop (mkF m 21 #[.val (.int i0), .val (.int (2 : Int32)), .val (.ref w_MODIFY_STRICT), .unset] [(.int (2 : Int32)), (.int (2 : Int32))])) _
    refine XS.icmpYes X1.here hx rfl (pc0 := 21) (pc' := 29) rfl (hb hby at_21) rfl (teq (by decide +kernel : (2 : Int32) = (2 : Int32))).1 (by decide) (by decide) ?_
    show Steps p.tables e below (T1.setTop (mkF m 29 #[.val (.int i0), .val (.int (2 : Int32)), .val (.ref w_MODIFY_STRICT), .unset] [])) _
    refine XS.iconst X1.here hx rfl (hb hby at_29) ?_
    show Steps p.tables e below (T1.setTop (mkF m 30 #[.val (.int i0), .val (.int (2 : Int32)), .val (.ref w_MODIFY_STRICT), .unset] [(.int (1 : Int32))])) _
    refine XS.goto X1.here hx rfl (pc0 := 30) (pc' := 34) rfl (hb hby at_30) (by decide) (by decide) ?_
    show Steps p.tables e below (T1.setTop (mkF m 34 #[.val (.int i0), .val (.int (2 : Int32)), .val (.ref w_MODIFY_STRICT), .unset] [(.int (1 : Int32))])) _
    refine XS.istoreN X1.here hx rfl (hb hby at_34) rfl (l' := #[.val (.int i0), .val (.int (2 : Int32)), .val (.ref w_MODIFY_STRICT), .val (.int (1 : Int32))]) rfl ?_
    show Steps p.tables e below (T1.setTop (mkF m 35 #[.val (.int i0), .val (.int (2 : Int32)), .val (.ref w_MODIFY_STRICT), .val (.int (1 : Int32))] [])) _
    refine XS.aloadN X1.here hx rfl (hb hby at_35) rfl rfl ?_
    show Steps p.tables e below (T1.setTop (mkF m 36 #[.val (.int i0), .val (.int (2 : Int32)), .val (.ref w_MODIFY_STRICT), .val (.int (1 : Int32))] [(.ref w_MODIFY_STRICT)])) _
    refine st2.trans ?_
    show Steps p.tables e below (T2.setTop (mkF m 39 #[.val (.int i0), .val (.int (2 : Int32)), .val (.ref w_MODIFY_STRICT), .val (.int (1 : Int32))] [(.int (1 : Int32))])) _
    refine XS.iloadN X2.here hx rfl (hb hby at_39) rfl ?_
    show Steps p.tables e below (T2.setTop (mkF m 40 #[.val (.int i0), .val (.int (2 : Int32)), .val (.ref w_MODIFY_STRICT), .val (.int (1 : Int32))] [(.int (1 : Int32)), (.int (1 : Int32))])) _
    refine XS.icmpNo X2.here hx rfl (hb hby at_40) rfl (teq (by decide +kernel : (1 : Int32) = (1 : Int32))).2 ?_
    show Steps p.tables e below (T2.setTop (mkF m 43 #[.val (.int i0), .val (.int (2 : Int32)), .val (.ref w_MODIFY_STRICT), .val (.int (1 : Int32))] [])) _
    refine XS.iconst X2.here hx rfl (hb hby at_43) ?_
    show Steps p.tables e below (T2.setTop (mkF m 44 #[.val (.int i0), .val (.int (2 : Int32)), .val (.ref w_MODIFY_STRICT), .val (.int (1 : Int32))] [(.int (1 : Int32))])) _
    refine XS.goto X2.here hx rfl (pc0 := 44) (pc' := 48) rfl (hb hby at_44) (by decide) (by decide) ?_
    show Steps p.tables e below (T2.setTop (mkF m 48 #[.val (.int i0), .val (.int (2 : Int32)), .val (.ref w_MODIFY_STRICT), .val (.int (1 : Int32))] [(.int (1 : Int32))])) _
    exact retN X2 hx (t := .boolean) Bd.returns (by simp) (hb hby at_48) hr
  · exact ⟨rfl, N2⟩
set_option maxRecDepth 65536 in
set_option maxHeartbeats 40000000 in
theorem rm3_3 (l : Launch) (Z : State) (a0 : Array Value) (hw : ∀ d ∈ tables_1, d.before a0 Z = true) (ws : List Jvm.Cond) (w__VALUES w_ADD w_MODIFY w_MODIFY_STRICT w_DELETE w_DELETE_STRICT : Addr) (cl : Cell) (h0 : Heap) (n0 : Nat) (Z0 : n0 ≤ h0.size) (C : Ctx Z h0 w__VALUES w_ADD w_MODIFY w_MODIFY_STRICT w_DELETE w_DELETE_STRICT cl)  :
    MetFree l (⟨"com/example/flowspur/flowspur/softswitch/FlowMod$Command", "strict", "()Z"⟩ : MethodName) (head1 (Jvm.Cond.code (⟨"com/example/flowspur/flowspur/softswitch/FlowMod$Command", "strict", "()Z"⟩ : MethodName) prog_123_method_6_code 1 (some .boolean) :: ws) ({ frames := 0, cells := 0, slots := 0, locals := 0 } : Room)) (fun a U => a = #[(.ref w_DELETE)] ∧ Z.Warmed39 U.vm ∧ U.heap = h0) (fun _ _ _ _ _ => True) (fun _ U o U' => ∃ v L, o = .returned v ∧ QR h0 n0 (some (.int (0 : Int32))) v U'.heap L ∧ FrameEnd U o U' L ({ frames := 0, cells := 0, slots := 0, locals := 0 } : Room).cells ({ frames := 0, cells := 0, slots := 0, locals := 0 } : Room).slots) := by
  have S_MODIFY_STRICT := C.2.2.2.2.2.2.2.2.1
  have F_MODIFY_STRICT_ordinal := C.2.2.2.2.2.2.2.2.2.2.1
  have F_DELETE_ordinal := C.2.2.2.2.2.2.2.2.2.2.2.2.2.1
  have S_DELETE_STRICT := C.2.2.2.2.2.2.2.2.2.2.2.2.2.2.1
  have F_DELETE_STRICT_ordinal := C.2.2.2.2.2.2.2.2.2.2.2.2.2.2.2.2.1
  refine MetFree.of_bodySF (plainFor_of_name pn_3) hisR ?_
  intro p e s m args below meth c s₁ Bd hml0 hP hK
  obtain ⟨rfl, hZ, hh⟩ := hP
  have hx := Bd.exec
  have hby := Bd.bytes
  have hml : c.maxLocals = 1 := hml0
  have hown : s.vm.findClass "com/example/flowspur/flowspur/softswitch/FlowMod$Command" = some m.cls := findClass_of_methodNamed Bd.named
  have hnm := (name_of_methodNamed Bd.named Bd.method).1
  have X0 : Stand p l e ({ frames := 0, cells := 0, slots := 0, locals := 0 } : Room) s m #[(.ref w_DELETE)] below meth c s₁ [] 0 0 := Stand.of_body Bd
  have e0 : s₁.heap = h0 := by rw [← hh, Bd.state]; rfl
  have N0 := Fr.nil n0
  have pre0 : ∀ t, Steps p.tables e below (s₁.setTop (mkF m 0 #[.val (.ref w_DELETE)] [])) t → Steps p.tables e below (s₁.setTop (entryFrame m #[(.ref w_DELETE)] 1)) t := fun t k => castTop (ef_3 m w_DELETE) k
  obtain ⟨T1, X1, e1, st1⟩ := getS2 X0 hx hZ hown (host := "") (Or.inl (hw _ (List.mem_of_getElem? (i := 30) rfl))) Via.refl e0 S_MODIFY_STRICT (g := (mkF m 1 #[.val (.ref w_DELETE)] [(.ref w_DELETE)])) rfl (hb hby d3_1)
  obtain ⟨T2, X2, e2, st2⟩ := getS2 X1 hx hZ hown (host := "") (Or.inl (hw _ (List.mem_of_getElem? (i := 31) rfl))) Via.refl e1 S_DELETE_STRICT (g := (mkF m 8 #[.val (.ref w_DELETE)] [(.ref w_DELETE)])) rfl (hb hby d3_8)
  obtain ⟨fs, hr, hrun, hended, hW, hsame⟩ := X2.leave (v := (some (.int (0 : Int32)))) (fun h => by rw [Bd.returns] at h; cases h)
  refine ⟨_, _, pre0 _ ?_, hrun, hended, _, _, rfl, ?_, ⟨_, rfl⟩, hW, hsame.mono (by decide) (by decide)⟩
  · show Steps p.tables e below (s₁.setTop (mkF m 0 #[.val (.ref w_DELETE)] [])) _
    refine XS.aloadN X0.here hx rfl (hb hby d3_0) rfl rfl ?_
    show Steps p.tables e below (s₁.setTop (mkF m 1 #[.val (.ref w_DELETE)] [(.ref w_DELETE)])) _
    refine st1 _ ?_
    show Steps p.tables e below (T1.setTop (mkF m 4 #[.val (.ref w_DELETE)] [(.ref w_MODIFY_STRICT), (.ref w_DELETE)])) _
    refine Jvm.RoadKit.acmp (g := (mkF m 4 #[.val (.ref w_DELETE)] [(.ref w_MODIFY_STRICT), (.ref w_DELETE)])) X1 hx rfl rfl rfl (pc0 := 4) (pc' := 7) (same := false) rfl (hb hby d3_4) rfl (decide_eq_false fun q => (Fld.ne F_DELETE_ordinal F_MODIFY_STRICT_ordinal (by simp)) (Value.ref.inj q)) (by decide) (by decide) ?_
    show Steps p.tables e below (T1.setTop (mkF m 7 #[.val (.ref w_DELETE)] [])) _
    refine XS.aloadN X1.here hx rfl (hb hby d3_7) rfl rfl ?_
    show Steps p.tables e below (T1.setTop (mkF m 8 #[.val (.ref w_DELETE)] [(.ref w_DELETE)])) _
    refine st2 _ ?_
    show Steps p.tables e below (T2.setTop (mkF m 11 #[.val (.ref w_DELETE)] [(.ref w_DELETE_STRICT), (.ref w_DELETE)])) _
    refine Jvm.RoadKit.acmp (g := (mkF m 11 #[.val (.ref w_DELETE)] [(.ref w_DELETE_STRICT), (.ref w_DELETE)])) X2 hx rfl rfl rfl (pc0 := 11) (pc' := 18) (same := false) rfl (hb hby d3_11) rfl (decide_eq_false fun q => (Fld.ne F_DELETE_ordinal F_DELETE_STRICT_ordinal (by simp)) (Value.ref.inj q)) (by decide) (by decide) ?_
    show Steps p.tables e below (T2.setTop (mkF m 18 #[.val (.ref w_DELETE)] [])) _
    refine XS.iconst X2.here hx rfl (hb hby d3_18) ?_
    show Steps p.tables e below (T2.setTop (mkF m 19 #[.val (.ref w_DELETE)] [(.int (0 : Int32))])) _
    exact retN X2 hx (t := .boolean) Bd.returns (by simp) (hb hby d3_19) hr
  · exact ⟨rfl, N0, e2⟩
set_option maxRecDepth 65536 in
set_option maxHeartbeats 40000000 in
theorem rm0_3 (l : Launch) (Z : State) (a0 : Array Value) (hw : ∀ d ∈ tables_1, d.before a0 Z = true) (ws : List Jvm.Cond) (w__VALUES w_ADD w_MODIFY w_MODIFY_STRICT w_DELETE w_DELETE_STRICT : Addr) (cl : Cell) (i0 : Int32) (h0 : Heap) (n0 : Nat) (Z0 : n0 ≤ h0.size) (C : Ctx Z h0 w__VALUES w_ADD w_MODIFY w_MODIFY_STRICT w_DELETE w_DELETE_STRICT cl) (hv0 : ((i0 &&& (2147483647 : Int32)) % (5 : Int32)) = (3 : Int32)) :
    MetFree l x (head1 (Jvm.Cond.code x code maxLocals ret :: ws) room_1) (fun a U => a = #[(.int i0)] ∧ Z.Warmed39 U.vm ∧ U.heap = h0) (fun _ _ _ _ _ => True) (fun _ U o U' => ∃ v L, o = .returned v ∧ QL n0 (some (.int (1 : Int32))) v L ∧ FrameEnd U o U' L room_1.cells room_1.slots) := by
  have E_DELETE := C.2.2.2.2.2.2.2.2.2.2.2.2.1
  refine MetFree.of_bodySF (plainFor_of_name pn_0) hisR ?_
  intro p e s m args below meth c s₁ Bd hml0 hP hK
  obtain ⟨rfl, hZ, hh⟩ := hP
  have hx := Bd.exec
  have hby := Bd.bytes
  have hml : c.maxLocals = 4 := hml0
  have hown : s.vm.findClass "com/example/flowspur/flowspur/softswitch/CommandStrictPinLaw" = some m.cls := findClass_of_methodNamed Bd.named
  have hnm := (name_of_methodNamed Bd.named Bd.method).1
  have X0 : Stand p l e room_1 s m #[(.int i0)] below meth c s₁ [] 0 0 := Stand.of_body Bd
  have e0 : s₁.heap = h0 := by rw [← hh, Bd.state]; rfl
  have N0 := Fr.nil n0
  have pre0 : ∀ t, Steps p.tables e below (s₁.setTop (mkF m 0 #[.val (.int i0), .unset, .unset, .unset] [])) t → Steps p.tables e below (s₁.setTop (entryFrame m #[(.int i0)] maxLocals)) t := fun t k => castTop (ef_0 m i0) k
  obtain ⟨_, _, ⟨T1, L1, k1, n1⟩, -, X1, ⟨Lc1, hQ1, l1, y1, z1⟩, st1⟩ := Jvm.LawKit.callS X0 hx (y := (⟨"com/example/flowspur/flowspur/softswitch/FlowMod$Command", "of", "(J)Lcom/example/flowspur/flowspur/softswitch/FlowMod$Command;"⟩ : MethodName)) hown (mvT hZ (hw _ (List.mem_of_getElem? (i := 1) rfl))) (mvT hZ (hw _ (List.mem_of_getElem? (i := 2) rfl))) (mvT hZ (hw _ (List.mem_of_getElem? (i := 3) rfl))) (mvT hZ (hw _ (List.mem_of_getElem? (i := 4) rfl))) (by decide) (backOf (W := 0) (rm1_3 l Z a0 hw [] w__VALUES w_ADD w_MODIFY w_MODIFY_STRICT w_DELETE w_DELETE_STRICT cl h0 n0 Z0 C) hZ (hw _ (List.mem_of_getElem? (i := 4) rfl)) (hw _ (List.mem_of_getElem? (i := 3) rfl)) (by decide) (by decide)) (g := (mkF m 9 #[.val (.int i0), .val (.int (3 : Int32)), .unset, .unset] [(.long (3 : Int64))])) rfl (by rw [hml]; rfl) (argsL := [(.long (3 : Int64))]) (rest := []) (lenOf pd_1 rfl) rfl (by show 2 * 0 + _ ≤ _; exact Nat.le_of_eq rfl) (hb hby at_9) (fun _ _ => ⟨rfl, e0, (by decide : 0 + 1 ≤ _), (by decide : 0 + 5 ≤ _)⟩)
  dsimp only [Pt.U, Pt.locs, Pt.cells, Pt.slots] at X1 l1 y1 z1 st1 hQ1
  subst l1 y1 z1
  obtain ⟨rfl, N1q, x1⟩ := hQ1
  have N1 := Fr.app N0 N1q
  obtain ⟨cq2, kq2, q2a, q2b, q2c⟩ := isOf hZ rfl (E_DELETE.ext x1)
  obtain ⟨_, _, ⟨T2, L2, k2, n2⟩, -, X2, ⟨Lc2, hQ2, l2, y2, z2⟩, st2⟩ := X1.virtualBack hx (y := (⟨"com/example/flowspur/flowspur/softswitch/FlowMod$Command", "strict", "()Z"⟩ : MethodName)) (z := (⟨"com/example/flowspur/flowspur/softswitch/FlowMod$Command", "strict", "()Z"⟩ : MethodName)) hown (mvT hZ (hw _ (List.mem_of_getElem? (i := 25) rfl))) (mvT hZ (hw _ (List.mem_of_getElem? (i := 26) rfl))) (notFace_of_selects (args := #[]) (mvT hZ (hw _ (List.mem_of_getElem? (i := 28) rfl)))) (mvT hZ (hw _ (List.mem_of_getElem? (i := 28) rfl))) (mvT hZ (hw _ (List.mem_of_getElem? (i := 27) rfl))) (by decide) (backOf (W := 0) (rm3_3 l Z a0 hw [] w__VALUES w_ADD w_MODIFY w_MODIFY_STRICT w_DELETE w_DELETE_STRICT cl  T1.heap n0 (Nat.le_trans Z0 x1.1) (own_cx x1 C) ) hZ (hw _ (List.mem_of_getElem? (i := 29) rfl)) (hw _ (List.mem_of_getElem? (i := 3) rfl)) (by decide) (by decide)) q2a q2c (g := (mkF m 36 #[.val (.int i0), .val (.int (3 : Int32)), .val (.ref w_DELETE), .val (.int (0 : Int32))] [(.ref w_DELETE)])) rfl (by rw [hml]; rfl) (Steps.refl _) (argsL := []) (rest := []) (lenOf pd_2 rfl) rfl (by show 2 * 0 + _ ≤ _; exact Nat.le_of_eq rfl) (hb hby at_36) (fun _ _ => ⟨rfl, rfl, (by decide : 1 + 0 ≤ _), (by decide : 5 + 0 ≤ _)⟩)
  dsimp only [Pt.U, Pt.locs, Pt.cells, Pt.slots] at X2 l2 y2 z2 st2 hQ2
  subst l2 y2 z2
  obtain ⟨rfl, N2q, e2⟩ := hQ2
  have N2 := Fr.app N1 N2q
  obtain ⟨fs, hr, hrun, hended, hW, hsame⟩ := X2.leave (v := (some (.int (1 : Int32)))) (fun h => by rw [Bd.returns] at h; cases h)
  refine ⟨_, _, pre0 _ ?_, hrun, hended, _, _, rfl, ?_, ⟨_, rfl⟩, hW, hsame.mono (by decide) (by decide)⟩
  · show Steps p.tables e below (s₁.setTop (mkF m 0 #[.val (.int i0), .unset, .unset, .unset] [])) _
    refine XS.iloadN X0.here hx rfl (hb hby at_0) rfl ?_
    show Steps p.tables e below (s₁.setTop (mkF m 1 #[.val (.int i0), .unset, .unset, .unset] [(.int i0)])) _
    refine X0.ldcInt hx hown (mvT hZ (hw _ (List.mem_of_getElem? (i := 0) rfl))) (g := (mkF m 1 #[.val (.int i0), .unset, .unset, .unset] [(.int i0)])) rfl (hb hby at_1) _ ?_
    show Steps p.tables e below (s₁.setTop (mkF m 3 #[.val (.int i0), .unset, .unset, .unset] [(.int (2147483647 : Int32)), (.int i0)])) _
    refine XS.iand X0.here hx rfl (hb hby at_3) rfl ?_
    show Steps p.tables e below (s₁.setTop (mkF m 4 #[.val (.int i0), .unset, .unset, .unset] [(.int (i0 &&& (2147483647 : Int32)))])) _
    refine XS.iconst X0.here hx rfl (hb hby at_4) ?_
    show Steps p.tables e below (s₁.setTop (mkF m 5 #[.val (.int i0), .unset, .unset, .unset] [(.int (5 : Int32)), (.int (i0 &&& (2147483647 : Int32)))])) _
    refine iremM (g := (mkF m 5 #[.val (.int i0), .unset, .unset, .unset] [(.int (5 : Int32)), (.int (i0 &&& (2147483647 : Int32)))])) X0 hx rfl (hb hby at_5) rfl (by decide) ?_
    show Steps p.tables e below (s₁.setTop (mkF m 6 #[.val (.int i0), .unset, .unset, .unset] [(.int ((i0 &&& (2147483647 : Int32)) % (5 : Int32)))])) _
    rw [hv0]
    show Steps p.tables e below (s₁.setTop (mkF m 6 #[.val (.int i0), .unset, .unset, .unset] [(.int (3 : Int32))])) _
    refine XS.istoreN X0.here hx rfl (hb hby at_6) rfl (l' := #[.val (.int i0), .val (.int (3 : Int32)), .unset, .unset]) rfl ?_
    show Steps p.tables e below (s₁.setTop (mkF m 7 #[.val (.int i0), .val (.int (3 : Int32)), .unset, .unset] [])) _
    refine XS.iloadN X0.here hx rfl (hb hby at_7) rfl ?_
    show Steps p.tables e below (s₁.setTop (mkF m 8 #[.val (.int i0), .val (.int (3 : Int32)), .unset, .unset] [(.int (3 : Int32))])) _
    refine XS.i2l X0.here hx rfl (hb hby at_8) rfl ?_
    show Steps p.tables e below (s₁.setTop (mkF m 9 #[.val (.int i0), .val (.int (3 : Int32)), .unset, .unset] [(.long ((3 : Int32).toInt64))])) _
    rw [show ((3 : Int32).toInt64) = (3 : Int64) from by decide +kernel]
    show Steps p.tables e below (s₁.setTop (mkF m 9 #[.val (.int i0), .val (.int (3 : Int32)), .unset, .unset] [(.long (3 : Int64))])) _
    refine st1 _ ?_
    show Steps p.tables e below (T1.setTop (mkF m 12 #[.val (.int i0), .val (.int (3 : Int32)), .unset, .unset] [(.ref w_DELETE)])) _
    refine XS.astoreN X1.here hx rfl (hb hby at_12) rfl rfl (l' := #[.val (.int i0), .val (.int (3 : Int32)), .val (.ref w_DELETE), .unset]) rfl ?_
    show Steps p.tables e below (T1.setTop (mkF m 13 #[.val (.int i0), .val (.int (3 : Int32)), .val (.ref w_DELETE), .unset] [])) _
    refine XS.aloadN X1.here hx rfl (hb hby at_13) rfl rfl ?_
    show Steps p.tables e below (T1.setTop (mkF m 14 #[.val (.int i0), .val (.int (3 : Int32)), .val (.ref w_DELETE), .unset] [(.ref w_DELETE)])) _
    refine XS.ifnonnullYes X1.here hx rfl (pc0 := 14) (pc' := 19) rfl (hb hby at_14) rfl (by decide) (by decide) ?_
    show Steps p.tables e below (T1.setTop (mkF m 19 #[.val (.int i0), .val (.int (3 : Int32)), .val (.ref w_DELETE), .unset] [])) _
    refine XS.iloadN X1.here hx rfl (hb hby at_19) rfl ?_
    show Steps p.tables e below (T1.setTop (mkF m 20 #[.val (.int i0), .val (.int (3 : Int32)), .val (.ref w_DELETE), .unset] [(.int (3 : Int32))])) _
    refine XS.iconst X1.here hx rfl (hb hby at_20) ?_
    show Steps p.tables e below (T1.setTop (mkF m 21 #[.val (.int i0), .val (.int (3 : Int32)), .val (.ref w_DELETE), .unset] [(.int (2 : Int32)), (.int (3 : Int32))])) _
    refine XS.icmpNo X1.here hx rfl (hb hby at_21) rfl (feq (by decide +kernel : ¬ ((3 : Int32) = (2 : Int32)))).1 ?_
    show Steps p.tables e below (T1.setTop (mkF m 24 #[.val (.int i0), .val (.int (3 : Int32)), .val (.ref w_DELETE), .unset] [])) _
    refine XS.iloadN X1.here hx rfl (hb hby at_24) rfl ?_
    show Steps p.tables e below (T1.setTop (mkF m 25 #[.val (.int i0), .val (.int (3 : Int32)), .val (.ref w_DELETE), .unset] [(.int (3 : Int32))])) _
    refine XS.iconst X1.here hx rfl (hb hby at_25) ?_
    show Steps p.tables e below (T1.setTop (mkF m 26 #[.val (.int i0), .val (.int (3 : Int32)), .val (.ref w_DELETE), .unset] [(.int (4 : Int32)), (.int (3 : Int32))])) _
    refine XS.icmpYes X1.here hx rfl (pc0 := 26) (pc' := 33) rfl (hb hby at_26) rfl (feq (by decide +kernel : ¬ ((3 : Int32) = (4 : Int32)))).2 (by decide) (by decide) ?_
    show Steps p.tables e below (T1.setTop (mkF m 33 #[.val (.int i0), .val (.int (3 : Int32)), .val (.ref w_DELETE), .unset] [])) _
    refine XS.iconst X1.here hx rfl (hb hby at_33) ?_
    show Steps p.tables e below (T1.setTop (mkF m 34 #[.val (.int i0), .val (.int (3 : Int32)), .val (.ref w_DELETE), .unset] [(.int (0 : Int32))])) _
    refine XS.istoreN X1.here hx rfl (hb hby at_34) rfl (l' := #[.val (.int i0), .val (.int (3 : Int32)), .val (.ref w_DELETE), .val (.int (0 : Int32))]) rfl ?_
    show Steps p.tables e below (T1.setTop (mkF m 35 #[.val (.int i0), .val (.int (3 : Int32)), .val (.ref w_DELETE), .val (.int (0 : Int32))] [])) _
    refine XS.aloadN X1.here hx rfl (hb hby at_35) rfl rfl ?_
    show Steps p.tables e below (T1.setTop (mkF m 36 #[.val (.int i0), .val (.int (3 : Int32)), .val (.ref w_DELETE), .val (.int (0 : Int32))] [(.ref w_DELETE)])) _
    refine st2.trans ?_
    show Steps p.tables e below (T2.setTop (mkF m 39 #[.val (.int i0), .val (.int (3 : Int32)), .val (.ref w_DELETE), .val (.int (0 : Int32))] [(.int (0 : Int32))])) _
    refine XS.iloadN X2.here hx rfl (hb hby at_39) rfl ?_
    show Steps p.tables e below (T2.setTop (mkF m 40 #[.val (.int i0), .val (.int (3 : Int32)), .val (.ref w_DELETE), .val (.int (0 : Int32))] [(.int (0 : Int32)), (.int (0 : Int32))])) _
    refine XS.icmpNo X2.here hx rfl (hb hby at_40) rfl (teq (by decide +kernel : (0 : Int32) = (0 : Int32))).2 ?_
    show Steps p.tables e below (T2.setTop (mkF m 43 #[.val (.int i0), .val (.int (3 : Int32)), .val (.ref w_DELETE), .val (.int (0 : Int32))] [])) _
    refine XS.iconst X2.here hx rfl (hb hby at_43) ?_
    show Steps p.tables e below (T2.setTop (mkF m 44 #[.val (.int i0), .val (.int (3 : Int32)), .val (.ref w_DELETE), .val (.int (0 : Int32))] [(.int (1 : Int32))])) _
    refine XS.goto X2.here hx rfl (pc0 := 44) (pc' := 48) rfl (hb hby at_44) (by decide) (by decide) ?_
    show Steps p.tables e below (T2.setTop (mkF m 48 #[.val (.int i0), .val (.int (3 : Int32)), .val (.ref w_DELETE), .val (.int (0 : Int32))] [(.int (1 : Int32))])) _
    exact retN X2 hx (t := .boolean) Bd.returns (by simp) (hb hby at_48) hr
  · exact ⟨rfl, N2⟩
set_option maxRecDepth 65536 in
set_option maxHeartbeats 40000000 in
theorem rm3_4 (l : Launch) (Z : State) (a0 : Array Value) (hw : ∀ d ∈ tables_1, d.before a0 Z = true) (ws : List Jvm.Cond) (w__VALUES w_ADD w_MODIFY w_MODIFY_STRICT w_DELETE w_DELETE_STRICT : Addr) (cl : Cell) (h0 : Heap) (n0 : Nat) (Z0 : n0 ≤ h0.size) (C : Ctx Z h0 w__VALUES w_ADD w_MODIFY w_MODIFY_STRICT w_DELETE w_DELETE_STRICT cl)  :
    MetFree l (⟨"com/example/flowspur/flowspur/softswitch/FlowMod$Command", "strict", "()Z"⟩ : MethodName) (head1 (Jvm.Cond.code (⟨"com/example/flowspur/flowspur/softswitch/FlowMod$Command", "strict", "()Z"⟩ : MethodName) prog_123_method_6_code 1 (some .boolean) :: ws) ({ frames := 0, cells := 0, slots := 0, locals := 0 } : Room)) (fun a U => a = #[(.ref w_DELETE_STRICT)] ∧ Z.Warmed39 U.vm ∧ U.heap = h0) (fun _ _ _ _ _ => True) (fun _ U o U' => ∃ v L, o = .returned v ∧ QR h0 n0 (some (.int (1 : Int32))) v U'.heap L ∧ FrameEnd U o U' L ({ frames := 0, cells := 0, slots := 0, locals := 0 } : Room).cells ({ frames := 0, cells := 0, slots := 0, locals := 0 } : Room).slots) := by
  have S_MODIFY_STRICT := C.2.2.2.2.2.2.2.2.1
  have F_MODIFY_STRICT_ordinal := C.2.2.2.2.2.2.2.2.2.2.1
  have S_DELETE_STRICT := C.2.2.2.2.2.2.2.2.2.2.2.2.2.2.1
  have F_DELETE_STRICT_ordinal := C.2.2.2.2.2.2.2.2.2.2.2.2.2.2.2.2.1
  refine MetFree.of_bodySF (plainFor_of_name pn_3) hisR ?_
  intro p e s m args below meth c s₁ Bd hml0 hP hK
  obtain ⟨rfl, hZ, hh⟩ := hP
  have hx := Bd.exec
  have hby := Bd.bytes
  have hml : c.maxLocals = 1 := hml0
  have hown : s.vm.findClass "com/example/flowspur/flowspur/softswitch/FlowMod$Command" = some m.cls := findClass_of_methodNamed Bd.named
  have hnm := (name_of_methodNamed Bd.named Bd.method).1
  have X0 : Stand p l e ({ frames := 0, cells := 0, slots := 0, locals := 0 } : Room) s m #[(.ref w_DELETE_STRICT)] below meth c s₁ [] 0 0 := Stand.of_body Bd
  have e0 : s₁.heap = h0 := by rw [← hh, Bd.state]; rfl
  have N0 := Fr.nil n0
  have pre0 : ∀ t, Steps p.tables e below (s₁.setTop (mkF m 0 #[.val (.ref w_DELETE_STRICT)] [])) t → Steps p.tables e below (s₁.setTop (entryFrame m #[(.ref w_DELETE_STRICT)] 1)) t := fun t k => castTop (ef_3 m w_DELETE_STRICT) k
  obtain ⟨T1, X1, e1, st1⟩ := getS2 X0 hx hZ hown (host := "") (Or.inl (hw _ (List.mem_of_getElem? (i := 30) rfl))) Via.refl e0 S_MODIFY_STRICT (g := (mkF m 1 #[.val (.ref w_DELETE_STRICT)] [(.ref w_DELETE_STRICT)])) rfl (hb hby d3_1)
  obtain ⟨T2, X2, e2, st2⟩ := getS2 X1 hx hZ hown (host := "") (Or.inl (hw _ (List.mem_of_getElem? (i := 31) rfl))) Via.refl e1 S_DELETE_STRICT (g := (mkF m 8 #[.val (.ref w_DELETE_STRICT)] [(.ref w_DELETE_STRICT)])) rfl (hb hby d3_8)
  obtain ⟨fs, hr, hrun, hended, hW, hsame⟩ := X2.leave (v := (some (.int (1 : Int32)))) (fun h => by rw [Bd.returns] at h; cases h)
  refine ⟨_, _, pre0 _ ?_, hrun, hended, _, _, rfl, ?_, ⟨_, rfl⟩, hW, hsame.mono (by decide) (by decide)⟩
  · show Steps p.tables e below (s₁.setTop (mkF m 0 #[.val (.ref w_DELETE_STRICT)] [])) _
    refine XS.aloadN X0.here hx rfl (hb hby d3_0) rfl rfl ?_
    show Steps p.tables e below (s₁.setTop (mkF m 1 #[.val (.ref w_DELETE_STRICT)] [(.ref w_DELETE_STRICT)])) _
    refine st1 _ ?_
    show Steps p.tables e below (T1.setTop (mkF m 4 #[.val (.ref w_DELETE_STRICT)] [(.ref w_MODIFY_STRICT), (.ref w_DELETE_STRICT)])) _
    refine Jvm.RoadKit.acmp (g := (mkF m 4 #[.val (.ref w_DELETE_STRICT)] [(.ref w_MODIFY_STRICT), (.ref w_DELETE_STRICT)])) X1 hx rfl rfl rfl (pc0 := 4) (pc' := 7) (same := false) rfl (hb hby d3_4) rfl (decide_eq_false fun q => (Fld.ne F_DELETE_STRICT_ordinal F_MODIFY_STRICT_ordinal (by simp)) (Value.ref.inj q)) (by decide) (by decide) ?_
    show Steps p.tables e below (T1.setTop (mkF m 7 #[.val (.ref w_DELETE_STRICT)] [])) _
    refine XS.aloadN X1.here hx rfl (hb hby d3_7) rfl rfl ?_
    show Steps p.tables e below (T1.setTop (mkF m 8 #[.val (.ref w_DELETE_STRICT)] [(.ref w_DELETE_STRICT)])) _
    refine st2 _ ?_
    show Steps p.tables e below (T2.setTop (mkF m 11 #[.val (.ref w_DELETE_STRICT)] [(.ref w_DELETE_STRICT), (.ref w_DELETE_STRICT)])) _
    refine Jvm.RoadKit.acmp (g := (mkF m 11 #[.val (.ref w_DELETE_STRICT)] [(.ref w_DELETE_STRICT), (.ref w_DELETE_STRICT)])) X2 hx rfl rfl rfl (pc0 := 11) (pc' := 14) (same := true) rfl (hb hby d3_11) rfl (decide_eq_true rfl) (by decide) (by decide) ?_
    show Steps p.tables e below (T2.setTop (mkF m 14 #[.val (.ref w_DELETE_STRICT)] [])) _
    refine XS.iconst X2.here hx rfl (hb hby d3_14) ?_
    show Steps p.tables e below (T2.setTop (mkF m 15 #[.val (.ref w_DELETE_STRICT)] [(.int (1 : Int32))])) _
    refine XS.goto X2.here hx rfl (pc0 := 15) (pc' := 19) rfl (hb hby d3_15) (by decide) (by decide) ?_
    show Steps p.tables e below (T2.setTop (mkF m 19 #[.val (.ref w_DELETE_STRICT)] [(.int (1 : Int32))])) _
    exact retN X2 hx (t := .boolean) Bd.returns (by simp) (hb hby d3_19) hr
  · exact ⟨rfl, N0, e2⟩
set_option maxRecDepth 65536 in
set_option maxHeartbeats 40000000 in
theorem rm0_4 (l : Launch) (Z : State) (a0 : Array Value) (hw : ∀ d ∈ tables_1, d.before a0 Z = true) (ws : List Jvm.Cond) (w__VALUES w_ADD w_MODIFY w_MODIFY_STRICT w_DELETE w_DELETE_STRICT : Addr) (cl : Cell) (i0 : Int32) (h0 : Heap) (n0 : Nat) (Z0 : n0 ≤ h0.size) (C : Ctx Z h0 w__VALUES w_ADD w_MODIFY w_MODIFY_STRICT w_DELETE w_DELETE_STRICT cl) (hv0 : ((i0 &&& (2147483647 : Int32)) % (5 : Int32)) = (4 : Int32)) :
    MetFree l x (head1 (Jvm.Cond.code x code maxLocals ret :: ws) room_1) (fun a U => a = #[(.int i0)] ∧ Z.Warmed39 U.vm ∧ U.heap = h0) (fun _ _ _ _ _ => True) (fun _ U o U' => ∃ v L, o = .returned v ∧ QL n0 (some (.int (1 : Int32))) v L ∧ FrameEnd U o U' L room_1.cells room_1.slots) := by
  have E_DELETE_STRICT := C.2.2.2.2.2.2.2.2.2.2.2.2.2.2.2.1
  refine MetFree.of_bodySF (plainFor_of_name pn_0) hisR ?_
  intro p e s m args below meth c s₁ Bd hml0 hP hK
  obtain ⟨rfl, hZ, hh⟩ := hP
  have hx := Bd.exec
  have hby := Bd.bytes
  have hml : c.maxLocals = 4 := hml0
  have hown : s.vm.findClass "com/example/flowspur/flowspur/softswitch/CommandStrictPinLaw" = some m.cls := findClass_of_methodNamed Bd.named
  have hnm := (name_of_methodNamed Bd.named Bd.method).1
  have X0 : Stand p l e room_1 s m #[(.int i0)] below meth c s₁ [] 0 0 := Stand.of_body Bd
  have e0 : s₁.heap = h0 := by rw [← hh, Bd.state]; rfl
  have N0 := Fr.nil n0
  have pre0 : ∀ t, Steps p.tables e below (s₁.setTop (mkF m 0 #[.val (.int i0), .unset, .unset, .unset] [])) t → Steps p.tables e below (s₁.setTop (entryFrame m #[(.int i0)] maxLocals)) t := fun t k => castTop (ef_0 m i0) k
  obtain ⟨_, _, ⟨T1, L1, k1, n1⟩, -, X1, ⟨Lc1, hQ1, l1, y1, z1⟩, st1⟩ := Jvm.LawKit.callS X0 hx (y := (⟨"com/example/flowspur/flowspur/softswitch/FlowMod$Command", "of", "(J)Lcom/example/flowspur/flowspur/softswitch/FlowMod$Command;"⟩ : MethodName)) hown (mvT hZ (hw _ (List.mem_of_getElem? (i := 1) rfl))) (mvT hZ (hw _ (List.mem_of_getElem? (i := 2) rfl))) (mvT hZ (hw _ (List.mem_of_getElem? (i := 3) rfl))) (mvT hZ (hw _ (List.mem_of_getElem? (i := 4) rfl))) (by decide) (backOf (W := 0) (rm1_4 l Z a0 hw [] w__VALUES w_ADD w_MODIFY w_MODIFY_STRICT w_DELETE w_DELETE_STRICT cl h0 n0 Z0 C) hZ (hw _ (List.mem_of_getElem? (i := 4) rfl)) (hw _ (List.mem_of_getElem? (i := 3) rfl)) (by decide) (by decide)) (g := (mkF m 9 #[.val (.int i0), .val (.int (4 : Int32)), .unset, .unset] [(.long (4 : Int64))])) rfl (by rw [hml]; rfl) (argsL := [(.long (4 : Int64))]) (rest := []) (lenOf pd_1 rfl) rfl (by show 2 * 0 + _ ≤ _; exact Nat.le_of_eq rfl) (hb hby at_9) (fun _ _ => ⟨rfl, e0, (by decide : 0 + 1 ≤ _), (by decide : 0 + 5 ≤ _)⟩)
  dsimp only [Pt.U, Pt.locs, Pt.cells, Pt.slots] at X1 l1 y1 z1 st1 hQ1
  subst l1 y1 z1
  obtain ⟨rfl, N1q, x1⟩ := hQ1
  have N1 := Fr.app N0 N1q
  obtain ⟨cq2, kq2, q2a, q2b, q2c⟩ := isOf hZ rfl (E_DELETE_STRICT.ext x1)
  obtain ⟨_, _, ⟨T2, L2, k2, n2⟩, -, X2, ⟨Lc2, hQ2, l2, y2, z2⟩, st2⟩ := X1.virtualBack hx (y := (⟨"com/example/flowspur/flowspur/softswitch/FlowMod$Command", "strict", "()Z"⟩ : MethodName)) (z := (⟨"com/example/flowspur/flowspur/softswitch/FlowMod$Command", "strict", "()Z"⟩ : MethodName)) hown (mvT hZ (hw _ (List.mem_of_getElem? (i := 25) rfl))) (mvT hZ (hw _ (List.mem_of_getElem? (i := 26) rfl))) (notFace_of_selects (args := #[]) (mvT hZ (hw _ (List.mem_of_getElem? (i := 28) rfl)))) (mvT hZ (hw _ (List.mem_of_getElem? (i := 28) rfl))) (mvT hZ (hw _ (List.mem_of_getElem? (i := 27) rfl))) (by decide) (backOf (W := 0) (rm3_4 l Z a0 hw [] w__VALUES w_ADD w_MODIFY w_MODIFY_STRICT w_DELETE w_DELETE_STRICT cl  T1.heap n0 (Nat.le_trans Z0 x1.1) (own_cx x1 C) ) hZ (hw _ (List.mem_of_getElem? (i := 29) rfl)) (hw _ (List.mem_of_getElem? (i := 3) rfl)) (by decide) (by decide)) q2a q2c (g := (mkF m 36 #[.val (.int i0), .val (.int (4 : Int32)), .val (.ref w_DELETE_STRICT), .val (.int (1 : Int32))] [(.ref w_DELETE_STRICT)])) rfl (by rw [hml]; rfl) (Steps.refl _) (argsL := []) (rest := []) (lenOf pd_2 rfl) rfl (by show 2 * 0 + _ ≤ _; exact Nat.le_of_eq rfl) (hb hby at_36) (fun _ _ => ⟨rfl, rfl, (by decide : 1 + 0 ≤ _), (by decide : 5 + 0 ≤ _)⟩)
  dsimp only [Pt.U, Pt.locs, Pt.cells, Pt.slots] at X2 l2 y2 z2 st2 hQ2
  subst l2 y2 z2
  obtain ⟨rfl, N2q, e2⟩ := hQ2
  have N2 := Fr.app N1 N2q
  obtain ⟨fs, hr, hrun, hended, hW, hsame⟩ := X2.leave (v := (some (.int (1 : Int32)))) (fun h => by rw [Bd.returns] at h; cases h)
  refine ⟨_, _, pre0 _ ?_, hrun, hended, _, _, rfl, ?_, ⟨_, rfl⟩, hW, hsame.mono (by decide) (by decide)⟩
  · show Steps p.tables e below (s₁.setTop (mkF m 0 #[.val (.int i0), .unset, .unset, .unset] [])) _
    refine XS.iloadN X0.here hx rfl (hb hby at_0) rfl ?_
    show Steps p.tables e below (s₁.setTop (mkF m 1 #[.val (.int i0), .unset, .unset, .unset] [(.int i0)])) _
    refine X0.ldcInt hx hown (mvT hZ (hw _ (List.mem_of_getElem? (i := 0) rfl))) (g := (mkF m 1 #[.val (.int i0), .unset, .unset, .unset] [(.int i0)])) rfl (hb hby at_1) _ ?_
    show Steps p.tables e below (s₁.setTop (mkF m 3 #[.val (.int i0), .unset, .unset, .unset] [(.int (2147483647 : Int32)), (.int i0)])) _
    refine XS.iand X0.here hx rfl (hb hby at_3) rfl ?_
    show Steps p.tables e below (s₁.setTop (mkF m 4 #[.val (.int i0), .unset, .unset, .unset] [(.int (i0 &&& (2147483647 : Int32)))])) _
    refine XS.iconst X0.here hx rfl (hb hby at_4) ?_
    show Steps p.tables e below (s₁.setTop (mkF m 5 #[.val (.int i0), .unset, .unset, .unset] [(.int (5 : Int32)), (.int (i0 &&& (2147483647 : Int32)))])) _
    refine iremM (g := (mkF m 5 #[.val (.int i0), .unset, .unset, .unset] [(.int (5 : Int32)), (.int (i0 &&& (2147483647 : Int32)))])) X0 hx rfl (hb hby at_5) rfl (by decide) ?_
    show Steps p.tables e below (s₁.setTop (mkF m 6 #[.val (.int i0), .unset, .unset, .unset] [(.int ((i0 &&& (2147483647 : Int32)) % (5 : Int32)))])) _
    rw [hv0]
    show Steps p.tables e below (s₁.setTop (mkF m 6 #[.val (.int i0), .unset, .unset, .unset] [(.int (4 : Int32))])) _
    refine XS.istoreN X0.here hx rfl (hb hby at_6) rfl (l' := #[.val (.int i0), .val (.int (4 : Int32)), .unset, .unset]) rfl ?_
    show Steps p.tables e below (s₁.setTop (mkF m 7 #[.val (.int i0), .val (.int (4 : Int32)), .unset, .unset] [])) _
    refine XS.iloadN X0.here hx rfl (hb hby at_7) rfl ?_
    show Steps p.tables e below (s₁.setTop (mkF m 8 #[.val (.int i0), .val (.int (4 : Int32)), .unset, .unset] [(.int (4 : Int32))])) _
    refine XS.i2l X0.here hx rfl (hb hby at_8) rfl ?_
    show Steps p.tables e below (s₁.setTop (mkF m 9 #[.val (.int i0), .val (.int (4 : Int32)), .unset, .unset] [(.long ((4 : Int32).toInt64))])) _
    rw [show ((4 : Int32).toInt64) = (4 : Int64) from by decide +kernel]
    show Steps p.tables e below (s₁.setTop (mkF m 9 #[.val (.int i0), .val (.int (4 : Int32)), .unset, .unset] [(.long (4 : Int64))])) _
    refine st1 _ ?_
    show Steps p.tables e below (T1.setTop (mkF m 12 #[.val (.int i0), .val (.int (4 : Int32)), .unset, .unset] [(.ref w_DELETE_STRICT)])) _
    refine XS.astoreN X1.here hx rfl (hb hby at_12) rfl rfl (l' := #[.val (.int i0), .val (.int (4 : Int32)), .val (.ref w_DELETE_STRICT), .unset]) rfl ?_
    show Steps p.tables e below (T1.setTop (mkF m 13 #[.val (.int i0), .val (.int (4 : Int32)), .val (.ref w_DELETE_STRICT), .unset] [])) _
    refine XS.aloadN X1.here hx rfl (hb hby at_13) rfl rfl ?_
    show Steps p.tables e below (T1.setTop (mkF m 14 #[.val (.int i0), .val (.int (4 : Int32)), .val (.ref w_DELETE_STRICT), .unset] [(.ref w_DELETE_STRICT)])) _
    refine XS.ifnonnullYes X1.here hx rfl (pc0 := 14) (pc' := 19) rfl (hb hby at_14) rfl (by decide) (by decide) ?_
    show Steps p.tables e below (T1.setTop (mkF m 19 #[.val (.int i0), .val (.int (4 : Int32)), .val (.ref w_DELETE_STRICT), .unset] [])) _
    refine XS.iloadN X1.here hx rfl (hb hby at_19) rfl ?_
    show Steps p.tables e below (T1.setTop (mkF m 20 #[.val (.int i0), .val (.int (4 : Int32)), .val (.ref w_DELETE_STRICT), .unset] [(.int (4 : Int32))])) _
    refine XS.iconst X1.here hx rfl (hb hby at_20) ?_
    show Steps p.tables e below (T1.setTop (mkF m 21 #[.val (.int i0), .val (.int (4 : Int32)), .val (.ref w_DELETE_STRICT), .unset] [(.int (2 : Int32)), (.int (4 : Int32))])) _
    refine XS.icmpNo X1.here hx rfl (hb hby at_21) rfl (feq (by decide +kernel : ¬ ((4 : Int32) = (2 : Int32)))).1 ?_
    show Steps p.tables e below (T1.setTop (mkF m 24 #[.val (.int i0), .val (.int (4 : Int32)), .val (.ref w_DELETE_STRICT), .unset] [])) _
    refine XS.iloadN X1.here hx rfl (hb hby at_24) rfl ?_
    show Steps p.tables e below (T1.setTop (mkF m 25 #[.val (.int i0), .val (.int (4 : Int32)), .val (.ref w_DELETE_STRICT), .unset] [(.int (4 : Int32))])) _
    refine XS.iconst X1.here hx rfl (hb hby at_25) ?_
    show Steps p.tables e below (T1.setTop (mkF m 26 #[.val (.int i0), .val (.int (4 : Int32)), .val (.ref w_DELETE_STRICT), .unset] [(.int (4 : Int32)), (.int (4 : Int32))])) _
    refine XS.icmpNo X1.here hx rfl (hb hby at_26) rfl (teq (by decide +kernel : (4 : Int32) = (4 : Int32))).2 ?_
    show Steps p.tables e below (T1.setTop (mkF m 29 #[.val (.int i0), .val (.int (4 : Int32)), .val (.ref w_DELETE_STRICT), .unset] [])) _
    refine XS.iconst X1.here hx rfl (hb hby at_29) ?_
    show Steps p.tables e below (T1.setTop (mkF m 30 #[.val (.int i0), .val (.int (4 : Int32)), .val (.ref w_DELETE_STRICT), .unset] [(.int (1 : Int32))])) _
    refine XS.goto X1.here hx rfl (pc0 := 30) (pc' := 34) rfl (hb hby at_30) (by decide) (by decide) ?_
    show Steps p.tables e below (T1.setTop (mkF m 34 #[.val (.int i0), .val (.int (4 : Int32)), .val (.ref w_DELETE_STRICT), .unset] [(.int (1 : Int32))])) _
    refine XS.istoreN X1.here hx rfl (hb hby at_34) rfl (l' := #[.val (.int i0), .val (.int (4 : Int32)), .val (.ref w_DELETE_STRICT), .val (.int (1 : Int32))]) rfl ?_
    show Steps p.tables e below (T1.setTop (mkF m 35 #[.val (.int i0), .val (.int (4 : Int32)), .val (.ref w_DELETE_STRICT), .val (.int (1 : Int32))] [])) _
    refine XS.aloadN X1.here hx rfl (hb hby at_35) rfl rfl ?_
    show Steps p.tables e below (T1.setTop (mkF m 36 #[.val (.int i0), .val (.int (4 : Int32)), .val (.ref w_DELETE_STRICT), .val (.int (1 : Int32))] [(.ref w_DELETE_STRICT)])) _
    refine st2.trans ?_
    show Steps p.tables e below (T2.setTop (mkF m 39 #[.val (.int i0), .val (.int (4 : Int32)), .val (.ref w_DELETE_STRICT), .val (.int (1 : Int32))] [(.int (1 : Int32))])) _
    refine XS.iloadN X2.here hx rfl (hb hby at_39) rfl ?_
    show Steps p.tables e below (T2.setTop (mkF m 40 #[.val (.int i0), .val (.int (4 : Int32)), .val (.ref w_DELETE_STRICT), .val (.int (1 : Int32))] [(.int (1 : Int32)), (.int (1 : Int32))])) _
    refine XS.icmpNo X2.here hx rfl (hb hby at_40) rfl (teq (by decide +kernel : (1 : Int32) = (1 : Int32))).2 ?_
    show Steps p.tables e below (T2.setTop (mkF m 43 #[.val (.int i0), .val (.int (4 : Int32)), .val (.ref w_DELETE_STRICT), .val (.int (1 : Int32))] [])) _
    refine XS.iconst X2.here hx rfl (hb hby at_43) ?_
    show Steps p.tables e below (T2.setTop (mkF m 44 #[.val (.int i0), .val (.int (4 : Int32)), .val (.ref w_DELETE_STRICT), .val (.int (1 : Int32))] [(.int (1 : Int32))])) _
    refine XS.goto X2.here hx rfl (pc0 := 44) (pc' := 48) rfl (hb hby at_44) (by decide) (by decide) ?_
    show Steps p.tables e below (T2.setTop (mkF m 48 #[.val (.int i0), .val (.int (4 : Int32)), .val (.ref w_DELETE_STRICT), .val (.int (1 : Int32))] [(.int (1 : Int32))])) _
    exact retN X2 hx (t := .boolean) Bd.returns (by simp) (hb hby at_48) hr
  · exact ⟨rfl, N2⟩
set_option maxRecDepth 65536 in
set_option maxHeartbeats 40000000 in
theorem comes_1 {Post : Tables → Env → Array Value → State → Outcome → State → Prop} (hpost : ∀ tb e args s v u, (limb_1_1.after args s (.returned v) u = true ∧ limb_1_2.after args s (.returned v) u = true ∧ True) → FrameEnd s (.returned v) u (Jvm.fieldLocs frame_1_writes args s ++ Jvm.arrayLocs frame_1_arrays args s ++ Jvm.staticLocs frame_1_statics s) 16 128 → Post tb e args s (.returned v) u) :
    ArmFor flags0 classFile x code maxLocals ret World_1 tables_1 room_1 Calls_1 rest_1 Pre_1 Post := by
  intro l hfl _ _ p e ha hc hk s m args below hf hA hF happ hP
  obtain ⟨hcalls, hrest, hpre⟩ := hP
  obtain ⟨-, -, -, hnamed, -, -, -, hat⟩ := (Spec.applies_iff hf).mp happ
  obtain ⟨hg, hn⟩ := and_e (Cond.before_iff.mp (show (Jvm.Cond.and given_1 narrow_1).before args s = true from hpre))
  obtain ⟨gc, g0⟩ := and_e hg
  obtain ⟨v0, rfl⟩ : ∃ v0 : Value, args = #[v0] := by
    have hs : args.size = 1 := by simpa [Cond.value, given_1] using gc
    obtain ⟨L⟩ := args
    match L, hs with
    | [v0], _ => exact ⟨v0, rfl⟩
  have hw := fun d (hd : d ∈ tables_1) => atoms_spec (ws := Jvm.Cond.code x code maxLocals ret :: tables_1) hat d (List.mem_cons_of_mem _ hd)
  obtain ⟨i0, ei0⟩ := is_v g0
  obtain rfl : v0 = (.int i0) := Option.some.inj ei0
  obtain ⟨n0, n1⟩ := and_e hn
  obtain ⟨n2, n3⟩ := and_e n1
  obtain ⟨n4, n5⟩ := and_e n3
  obtain ⟨n6, n7⟩ := and_e n5
  obtain ⟨n8, n9⟩ := and_e n7
  obtain ⟨n10, n11⟩ := and_e n9
  obtain ⟨n12, n13⟩ := and_e n11
  obtain ⟨n14, n15⟩ := and_e n13
  obtain ⟨n16, n17⟩ := and_e n15
  obtain ⟨n18, n19⟩ := and_e n17
  obtain ⟨n20, n21⟩ := and_e n19
  obtain ⟨n22, n23⟩ := and_e n21
  obtain ⟨n24, n25⟩ := and_e n23
  obtain ⟨n26, n27⟩ := and_e n25
  obtain ⟨n28, n29⟩ := and_e n27
  obtain ⟨n30, n31⟩ := and_e n29
  obtain ⟨n32, n33⟩ := and_e n31
  obtain ⟨w__VALUES, ev__VALUES⟩ := exa_v n2
  have E__VALUES := Exa.start ev__VALUES n2
  have S__VALUES := Sta.start ev__VALUES (Or.inr ⟨(hw _ (List.mem_of_getElem? (i := 3) rfl)), (hw _ (List.mem_of_getElem? (i := 9) rfl))⟩)
  obtain ⟨w_ADD, ev_ADD⟩ := exa_v n6
  have E_ADD := Exa.start ev_ADD n6
  have S_ADD := Sta.start ev_ADD (Or.inr ⟨(hw _ (List.mem_of_getElem? (i := 3) rfl)), (hw _ (List.mem_of_getElem? (i := 17) rfl))⟩)
  obtain ⟨w_MODIFY, ev_MODIFY⟩ := exa_v n10
  have E_MODIFY := Exa.start ev_MODIFY n10
  have S_MODIFY := Sta.start ev_MODIFY (Or.inr ⟨(hw _ (List.mem_of_getElem? (i := 3) rfl)), (hw _ (List.mem_of_getElem? (i := 18) rfl))⟩)
  obtain ⟨w_MODIFY_STRICT, ev_MODIFY_STRICT⟩ := exa_v n14
  have E_MODIFY_STRICT := Exa.start ev_MODIFY_STRICT n14
  have S_MODIFY_STRICT := Sta.start ev_MODIFY_STRICT (Or.inr ⟨(hw _ (List.mem_of_getElem? (i := 3) rfl)), (hw _ (List.mem_of_getElem? (i := 19) rfl))⟩)
  obtain ⟨w_DELETE, ev_DELETE⟩ := exa_v n18
  have E_DELETE := Exa.start ev_DELETE n18
  have S_DELETE := Sta.start ev_DELETE (Or.inr ⟨(hw _ (List.mem_of_getElem? (i := 3) rfl)), (hw _ (List.mem_of_getElem? (i := 20) rfl))⟩)
  obtain ⟨w_DELETE_STRICT, ev_DELETE_STRICT⟩ := exa_v n22
  have E_DELETE_STRICT := Exa.start ev_DELETE_STRICT n22
  have S_DELETE_STRICT := Sta.start ev_DELETE_STRICT (Or.inr ⟨(hw _ (List.mem_of_getElem? (i := 3) rfl)), (hw _ (List.mem_of_getElem? (i := 21) rfl))⟩)
  have F_ADD_ordinal := own_fldI ev_ADD n26
  have F_MODIFY_STRICT_ordinal := own_fldI ev_MODIFY_STRICT n28
  have F_DELETE_STRICT_ordinal := own_fldI ev_DELETE_STRICT n30
  have F_DELETE_ordinal := own_fldI ev_DELETE n32
  have F_MODIFY_ordinal := own_fldI ev_MODIFY n33
  have hfit : Fit s := fun {y c} hc i hi => by
    obtain ⟨ha, rfl⟩ := Array.getElem?_eq_some_iff.mp hc
    have q := List.all_eq_true.mp ((Array.all_eq_true_iff_forall_mem.mp hF) _ (Array.getElem_mem ha)) i (List.mem_range.mpr hi)
    simpa [Array.getElem?_eq_getElem hi] using q
  obtain ⟨cl, A_V⟩ := Arr.start ev__VALUES n0
  obtain ⟨hq5, he5⟩ := own_len ev__VALUES (A_V.fin (Vm.Alike.refl _)) n4
  have S5 : cl.slots.size = (5 : Int32).toNatClampNeg := by rw [← he5]; simp only [Int32.toNatClampNeg, len_toInt hq5]; rfl
  have FC := FitC.start hfit A_V
  have AT_0 := own_elem ev__VALUES A_V.1 ev_ADD n8
  have AT_1 := own_elem ev__VALUES A_V.1 ev_MODIFY n12
  have AT_2 := own_elem ev__VALUES A_V.1 ev_MODIFY_STRICT n16
  have AT_3 := own_elem ev__VALUES A_V.1 ev_DELETE n20
  have AT_4 := own_elem ev__VALUES A_V.1 ev_DELETE_STRICT n24
  have ctx : Ctx s s.heap w__VALUES w_ADD w_MODIFY w_MODIFY_STRICT w_DELETE w_DELETE_STRICT cl := ⟨S__VALUES, E__VALUES, S_ADD, E_ADD, F_ADD_ordinal, S_MODIFY, E_MODIFY, F_MODIFY_ordinal, S_MODIFY_STRICT, E_MODIFY_STRICT, F_MODIFY_STRICT_ordinal, S_DELETE, E_DELETE, F_DELETE_ordinal, S_DELETE_STRICT, E_DELETE_STRICT, F_DELETE_STRICT_ordinal, A_V, S5, FC, AT_0, AT_1, AT_2, AT_3, AT_4, trivial⟩
  suffices M : MetFree l x (head1 (Jvm.Cond.code x code maxLocals ret :: tables_1) room_1) (fun a U => a = #[(.int i0)] ∧ s.Warmed39 U.vm ∧ U.heap = s.heap) (fun _ _ _ _ _ => True) (fun _ U o U' => ∃ v L, o = .returned v ∧ QL s.heap.size (some (.int (1 : Int32))) v L ∧ FrameEnd U o U' L room_1.cells room_1.slots) by
    obtain ⟨n, o, h1, h2, h3, _, L, rfl, ⟨rfl, N⟩, hq⟩ := M p e ha hc hk s m _ below hf ((Spec.applies_iff_loose hf).mp happ).1 ⟨rfl, State.Warmed39.refl s, rfl⟩ trivial
    exact ⟨n, _, h1, h2, h3, hpost _ _ _ _ _ _ ⟨Cond.after_iff.mpr rfl, Cond.after_iff.mpr (eq_i res_at (Term.int_eval (1)) rfl), trivial⟩ ⟨hq.1, hq.2.1, (hq.2.2.sift fun y hy => Or.inr (N y hy)).mono (by decide) (by decide)⟩⟩
  rcases own_r5 i0 with hv0 | hv0 | hv0 | hv0 | hv0
  ·
    exact rm0_0 l s _ hw tables_1 w__VALUES w_ADD w_MODIFY w_MODIFY_STRICT w_DELETE w_DELETE_STRICT cl i0 s.heap s.heap.size (Nat.le_refl _) ctx hv0
  ·
    exact rm0_1 l s _ hw tables_1 w__VALUES w_ADD w_MODIFY w_MODIFY_STRICT w_DELETE w_DELETE_STRICT cl i0 s.heap s.heap.size (Nat.le_refl _) ctx hv0
  ·
    exact rm0_2 l s _ hw tables_1 w__VALUES w_ADD w_MODIFY w_MODIFY_STRICT w_DELETE w_DELETE_STRICT cl i0 s.heap s.heap.size (Nat.le_refl _) ctx hv0
  ·
    exact rm0_3 l s _ hw tables_1 w__VALUES w_ADD w_MODIFY w_MODIFY_STRICT w_DELETE w_DELETE_STRICT cl i0 s.heap s.heap.size (Nat.le_refl _) ctx hv0
  ·
    exact rm0_4 l s _ hw tables_1 w__VALUES w_ADD w_MODIFY w_MODIFY_STRICT w_DELETE w_DELETE_STRICT cl i0 s.heap s.heap.size (Nat.le_refl _) ctx hv0
theorem main_1_1 : Claimed_1_1 := comes_1 fun _ _ _ _ _ _ h hF => ⟨h.1, hF⟩
theorem main_1_2 : Claimed_1_2 := comes_1 fun _ _ _ _ _ _ h hF => ⟨h.2.1, hF⟩
end Jvm.Pilot.@@N@@
namespace Jvm.Pilot.@@N@@
open Jvm Jvm.ClassFile Sem Op Lib Jvm.Free Jvm.Stand Jvm.Pilot.@@N@@.Jvm.D
/-! MADE BY PROGRAM (witnessworld.py) out of the Statement's table words and the real class files: 13 classes; the members and pool entries that the words name. The judged class is class 1, her method 1. -/
namespace start1
open Jvm.ClassFile
def u (s : String) : CpInfo := .utf8 (stringToUtf16 s)
/-- a pool by its gaps: so many unusable entries, then the entry; so many at the end -/
def gap : Nat → List CpInfo → List CpInfo
  | 0, r => r
  | n + 1, r => .unusable :: gap n r
def poolList (es : List (Nat × CpInfo)) (last : Nat) : List CpInfo := es.foldr (fun e r => gap e.1 (e.2 :: r)) (gap last [])
def pool (es : List (Nat × CpInfo)) (last : Nat) : Array CpInfo := ⟨poolList es last⟩
def fileOf (pool : Array CpInfo) (this : Nat) (attrs : Array Attribute := #[]) (ms : Array MethodInfo := #[]) (fl : Nat := 33) (sup : Nat := 0) (ifs : Array Nat := #[]) (fds : Array FieldInfo := #[]) : ClassFile where
  minorVersion := 0
  majorVersion := 65
  constantPool := pool
  accessFlags := fl
  thisClass := this
  superClass := sup
  interfaces := ifs
  fields := fds
  methods := ms
  attributes := attrs
def plain (name : String) (sup : Option ClassId) : Class where
  name := name
  kind := .ordinary
  loader := none
  accessFlags := 33
  super := sup
  interfaces := #[]
  cf := none
  fields := #[]
  methods := #[]
  instanceTypes := #[]
  staticTypes := #[]
  resolved := #[]
  callSites := []
  init := .initialized
  statics := none
  mirror := none

def pool0 : Array CpInfo := pool [(5, u "<init>"), (0, u "()V"), (1, .class_ 10), (1, u "java/lang/Object"), (85, u "clone"), (0, u "()Ljava/lang/Object;")] 26

def k0m0 : Method := { name := "<init>", desc := "()V", sig := { parameters := [], returnType := none }, accessFlags := 1, code := none }
def k0m1 : Method := { name := "clone", desc := "()Ljava/lang/Object;", sig := { parameters := [], returnType := some (.object "java/lang/Object") }, accessFlags := 260, code := none }
/-- java/lang/Object -/
def k0 : Class := { plain "java/lang/Object" none with
  accessFlags := 33
  interfaces := #[]
  cf := some (fileOf pool0 8 #[] #[{ accessFlags := 1, nameIndex := 5, descriptorIndex := 6, attributes := #[] }, { accessFlags := 260, nameIndex := 96, descriptorIndex := 97, attributes := #[] }] 33 0 #[] #[])
  fields := #[]
  methods := #[k0m0, k0m1]
  instanceTypes := #[]
  staticTypes := #[]
  resolved := Array.replicate 124 none
  statics := none }

def pool1 : Array CpInfo := pool [(2, .class_ 4), (1, u "java/lang/Object"), (0, u "<init>"), (0, u "()V"), (0, .integer 2147483647), (0, .methodref 9 10), (0, .class_ 11), (0, .nameAndType 12 13), (0, u "com/example/flowspur/flowspur/softswitch/FlowMod$Command"), (0, u "of"), (0, u "(J)Lcom/example/flowspur/flowspur/softswitch/FlowMod$Command;"), (0, .methodref 9 15), (0, .nameAndType 16 17), (0, u "strict"), (0, u "()Z"), (0, .class_ 19), (0, u "com/example/flowspur/flowspur/softswitch/CommandStrictPinLaw"), (2, u "law"), (0, u "(I)Z")] 7

def k1m0 : Method := { name := "<init>", desc := "()V", sig := { parameters := [], returnType := none }, accessFlags := 1, code := none }
def k1c1 : Code := { maxStack := 2, maxLocals := 4, code := code, exceptionTable := #[], attributes := #[] }
def k1m1 : Method := { name := "law", desc := "(I)Z", sig := { parameters := [.int], returnType := some .boolean }, accessFlags := 9, code := some k1c1 }
/-- com/example/flowspur/flowspur/softswitch/CommandStrictPinLaw -/
def k1 : Class := { plain "com/example/flowspur/flowspur/softswitch/CommandStrictPinLaw" (some 0) with
  accessFlags := 49
  interfaces := #[]
  cf := some (fileOf pool1 18 #[] #[{ accessFlags := 1, nameIndex := 5, descriptorIndex := 6, attributes := #[] }, { accessFlags := 9, nameIndex := 22, descriptorIndex := 23, attributes := #[] }] 49 2 #[] #[])
  fields := #[]
  methods := #[k1m0, k1m1]
  instanceTypes := #[]
  staticTypes := #[]
  resolved := Array.replicate 31 none
  statics := none }

def pool2 : Array CpInfo := pool [(1, .class_ 2), (0, u "java/lang/constant/Constable"), (0, .class_ 4), (0, u "java/lang/Object")] 6

/-- java/lang/constant/Constable -/
def k2 : Class := { plain "java/lang/constant/Constable" (some 0) with
  accessFlags := 1537
  interfaces := #[]
  cf := some (fileOf pool2 1 #[] #[] 1537 3 #[] #[])
  fields := #[]
  methods := #[]
  instanceTypes := #[]
  staticTypes := #[]
  resolved := Array.replicate 11 none
  statics := none }

def pool3 : Array CpInfo := pool [(1, .class_ 2), (0, u "java/lang/Comparable"), (0, .class_ 4), (0, u "java/lang/Object")] 7

/-- java/lang/Comparable -/
def k3 : Class := { plain "java/lang/Comparable" (some 0) with
  accessFlags := 1537
  interfaces := #[]
  cf := some (fileOf pool3 1 #[] #[] 1537 3 #[] #[])
  fields := #[]
  methods := #[]
  instanceTypes := #[]
  staticTypes := #[]
  resolved := Array.replicate 12 none
  statics := none }

def pool4 : Array CpInfo := pool [(1, .class_ 2), (0, u "java/io/Serializable"), (0, .class_ 4), (0, u "java/lang/Object")] 2

/-- java/io/Serializable -/
def k4 : Class := { plain "java/io/Serializable" (some 0) with
  accessFlags := 1537
  interfaces := #[]
  cf := some (fileOf pool4 1 #[] #[] 1537 3 #[] #[])
  fields := #[]
  methods := #[]
  instanceTypes := #[]
  staticTypes := #[]
  resolved := Array.replicate 7 none
  statics := none }

def pool5 : Array CpInfo := pool [(2, .class_ 4), (1, u "java/lang/Enum"), (0, u "name"), (0, u "Ljava/lang/String;"), (2, u "ordinal"), (0, u "I"), (1, .class_ 14), (1, u "java/lang/Object"), (4, u "hash"), (86, .class_ 108), (1, u "java/lang/Enum$EnumDesc"), (2, .class_ 112), (0, u "java/lang/constant/Constable"), (0, .class_ 114), (0, u "java/lang/Comparable"), (0, .class_ 116), (0, u "java/io/Serializable")] 87

/-- java/lang/Enum -/
def k5 : Class := { plain "java/lang/Enum" (some 0) with
  accessFlags := 1057
  interfaces := #[2, 3, 4]
  cf := some (fileOf pool5 2 #[.nestMembers #[106]] #[] 1057 12 #[111, 113, 115] #[{ accessFlags := 18, nameIndex := 5, descriptorIndex := 6, attributes := #[] }, { accessFlags := 18, nameIndex := 9, descriptorIndex := 10, attributes := #[] }, { accessFlags := 2, nameIndex := 19, descriptorIndex := 10, attributes := #[] }])
  fields := #[{ name := "name", type := (.object "java/lang/String"), accessFlags := 18, slot := 0, constantValue := 0 }, { name := "ordinal", type := .int, accessFlags := 18, slot := 1, constantValue := 0 }, { name := "hash", type := .int, accessFlags := 2, slot := 2, constantValue := 0 }]
  methods := #[]
  instanceTypes := #[(.object "java/lang/String"), .int, .int]
  staticTypes := #[]
  resolved := Array.replicate 204 none
  statics := none }

def pool6 : Array CpInfo := pool [(1, .class_ 2), (0, u "com/example/flowspur/flowspur/softswitch/FlowMod$Command"), (2, u "ADD"), (0, u "Lcom/example/flowspur/flowspur/softswitch/FlowMod$Command;"), (2, u "MODIFY"), (0, .fieldref 1 11), (0, .nameAndType 12 6), (0, u "MODIFY_STRICT"), (2, u "DELETE"), (0, .fieldref 1 17), (0, .nameAndType 18 6), (0, u "DELETE_STRICT"), (0, .fieldref 1 20), (0, .nameAndType 21 22), (0, u "$VALUES"), (0, u "[Lcom/example/flowspur/flowspur/softswitch/FlowMod$Command;"), (0, .methodref 24 25), (0, .class_ 22), (0, .nameAndType 26 27), (0, u "clone"), (0, u "()Ljava/lang/Object;"), (1, .class_ 31), (1, u "java/lang/Enum"), (6, .methodref 1 39), (0, .nameAndType 40 41), (0, u "values"), (0, u "()[Lcom/example/flowspur/flowspur/softswitch/FlowMod$Command;"), (15, u "of"), (0, u "(J)Lcom/example/flowspur/flowspur/softswitch/FlowMod$Command;"), (2, u "()Z"), (0, u "strict"), (5, .class_ 69), (0, u "com/example/flowspur/flowspur/softswitch/FlowMod")] 2

def k6c0 : Code := { maxStack := 1, maxLocals := 0, code := prog_123_method_1_code, exceptionTable := #[], attributes := #[] }
def k6m0 : Method := { name := "values", desc := "()[Lcom/example/flowspur/flowspur/softswitch/FlowMod$Command;", sig := { parameters := [], returnType := some (.array (.object "com/example/flowspur/flowspur/softswitch/FlowMod$Command")) }, accessFlags := 9, code := some k6c0 }
def k6c1 : Code := { maxStack := 4, maxLocals := 3, code := prog_123_method_4_code, exceptionTable := #[], attributes := #[] }
def k6m1 : Method := { name := "of", desc := "(J)Lcom/example/flowspur/flowspur/softswitch/FlowMod$Command;", sig := { parameters := [.long], returnType := some (.object "com/example/flowspur/flowspur/softswitch/FlowMod$Command") }, accessFlags := 8, code := some k6c1 }
def k6c2 : Code := { maxStack := 2, maxLocals := 1, code := prog_123_method_6_code, exceptionTable := #[], attributes := #[] }
def k6m2 : Method := { name := "strict", desc := "()Z", sig := { parameters := [], returnType := some .boolean }, accessFlags := 0, code := some k6c2 }
/-- com/example/flowspur/flowspur/softswitch/FlowMod$Command -/
def k6 : Class := { plain "com/example/flowspur/flowspur/softswitch/FlowMod$Command" (some 5) with
  accessFlags := 16432
  interfaces := #[]
  cf := some (fileOf pool6 1 #[.nestHost 68] #[{ accessFlags := 9, nameIndex := 40, descriptorIndex := 41, attributes := #[] }, { accessFlags := 8, nameIndex := 57, descriptorIndex := 58, attributes := #[] }, { accessFlags := 0, nameIndex := 62, descriptorIndex := 61, attributes := #[] }] 16432 29 #[] #[{ accessFlags := 16409, nameIndex := 5, descriptorIndex := 6, attributes := #[] }, { accessFlags := 16409, nameIndex := 9, descriptorIndex := 6, attributes := #[] }, { accessFlags := 16409, nameIndex := 12, descriptorIndex := 6, attributes := #[] }, { accessFlags := 16409, nameIndex := 15, descriptorIndex := 6, attributes := #[] }, { accessFlags := 16409, nameIndex := 18, descriptorIndex := 6, attributes := #[] }, { accessFlags := 4122, nameIndex := 21, descriptorIndex := 22, attributes := #[] }])
  fields := #[{ name := "ADD", type := (.object "com/example/flowspur/flowspur/softswitch/FlowMod$Command"), accessFlags := 16409, slot := 0, constantValue := 0 }, { name := "MODIFY", type := (.object "com/example/flowspur/flowspur/softswitch/FlowMod$Command"), accessFlags := 16409, slot := 1, constantValue := 0 }, { name := "MODIFY_STRICT", type := (.object "com/example/flowspur/flowspur/softswitch/FlowMod$Command"), accessFlags := 16409, slot := 2, constantValue := 0 }, { name := "DELETE", type := (.object "com/example/flowspur/flowspur/softswitch/FlowMod$Command"), accessFlags := 16409, slot := 3, constantValue := 0 }, { name := "DELETE_STRICT", type := (.object "com/example/flowspur/flowspur/softswitch/FlowMod$Command"), accessFlags := 16409, slot := 4, constantValue := 0 }, { name := "$VALUES", type := (.array (.object "com/example/flowspur/flowspur/softswitch/FlowMod$Command")), accessFlags := 4122, slot := 5, constantValue := 0 }]
  methods := #[k6m0, k6m1, k6m2]
  instanceTypes := #[(.object "java/lang/String"), .int, .int]
  staticTypes := #[(.object "com/example/flowspur/flowspur/softswitch/FlowMod$Command"), (.object "com/example/flowspur/flowspur/softswitch/FlowMod$Command"), (.object "com/example/flowspur/flowspur/softswitch/FlowMod$Command"), (.object "com/example/flowspur/flowspur/softswitch/FlowMod$Command"), (.object "com/example/flowspur/flowspur/softswitch/FlowMod$Command"), (.array (.object "com/example/flowspur/flowspur/softswitch/FlowMod$Command"))]
  resolved := Array.replicate 72 none
  statics := some 0 }

def pool7 : Array CpInfo := pool [(1, .class_ 2), (0, u "java/lang/Cloneable"), (0, .class_ 4), (0, u "java/lang/Object")] 2

/-- java/lang/Cloneable -/
def k7 : Class := { plain "java/lang/Cloneable" (some 0) with
  accessFlags := 1537
  interfaces := #[]
  cf := some (fileOf pool7 1 #[] #[] 1537 3 #[] #[])
  fields := #[]
  methods := #[]
  instanceTypes := #[]
  staticTypes := #[]
  resolved := Array.replicate 7 none
  statics := none }

/-- the primitive byte -/
def k8 : Class := { plain "byte" none with kind := .primitive 'B', accessFlags := 0x411 }
/-- [B -/
def k9 : Class := { plain "[B" (some 0) with kind := .array 8 .byte, interfaces := #[7, 4], accessFlags := 1041 }

/-- the primitive int -/
def k10 : Class := { plain "int" none with kind := .primitive 'I', accessFlags := 0x411 }
/-- [I -/
def k11 : Class := { plain "[I" (some 0) with kind := .array 10 .int, interfaces := #[7, 4], accessFlags := 1041 }

/-- [Lcom/example/flowspur/flowspur/softswitch/FlowMod$Command; -/
def k12 : Class := { plain "[Lcom/example/flowspur/flowspur/softswitch/FlowMod$Command;" (some 0) with kind := .array 6 (.object "com/example/flowspur/flowspur/softswitch/FlowMod$Command"), interfaces := #[7, 4], accessFlags := 1041 }

def heap : Heap := #[{ cls := 6, slots := #[.ref 2, .ref 3, .ref 4, .ref 5, .ref 6, .ref 1], vm := .statics 6 },
  { cls := 12, slots := #[.ref 2, .ref 3, .ref 4, .ref 5, .ref 6], vm := .none },
  { cls := 6, slots := #[.null, .int 0, .int 0], vm := .none },
  { cls := 6, slots := #[.null, .int 1, .int 0], vm := .none },
  { cls := 6, slots := #[.null, .int 2, .int 0], vm := .none },
  { cls := 6, slots := #[.null, .int 3, .int 0], vm := .none },
  { cls := 6, slots := #[.null, .int 4, .int 0], vm := .none }]
def classes : Array Class := #[k0, k1, k2, k3, k4, k5, k6, k7, k8, k9, k10, k11, k12]
def interned : List (Array UInt16 × Addr) := []
def slotsUsed : Nat := 26
def theMethod : MethodId := ⟨1, 1⟩
def args0 : Array Value := #[.int 5]
def aboutOver (below : List Frame) : State where
  vm := { classes := classes, interned := interned.toArray }
  heap := heap
  slotsUsed := slotsUsed
  threads := #[{ frames := .invoking theMethod args0 :: below }]
def below0 : List Frame := [.native { method := ⟨0, 0⟩, args := #[] }]
def about1 : State := aboutOver below0
def p0 : Program := .bare "" "" ""
def e0 : Env := launch0.env 0 0 0
theorem w_frames : about1.frames = Frame.invoking theMethod args0 :: below0 := rfl
set_option maxRecDepth 65536 in
theorem w_args : argsFit about1.vm theMethod args0 = true := by decide +kernel
set_option maxRecDepth 65536 in
theorem w_heap : heapFits about1 = true := by decide +kernel
set_option maxRecDepth 65536 in
theorem w_runnable : about1.curStatus? = some .runnable := by decide +kernel
set_option maxRecDepth 65536 in
theorem w_alone : about1.alone = true := by decide +kernel
set_option maxRecDepth 65536 in
theorem w_named : about1.methodNamed? x = some theMethod := by decide +kernel
set_option maxRecDepth 65536 in
theorem w_hears : about1.hears theMethod below0 = true := by decide +kernel
set_option maxRecDepth 65536 in
theorem w_ripe : about1.ripe theMethod args0 below0 = true := by decide +kernel
theorem w_running : about1.status = .running := rfl
set_option maxRecDepth 65536 in
theorem w_room : about1.hasRoom e0.platform room_1 = true :=
  launch0.hasRoom_least _ room_1 (by decide +kernel) (by decide +kernel) (by decide +kernel) (by decide +kernel) (by decide +kernel) (by decide +kernel)
theorem allAtoms_all (ts : List Jvm.Cond) (a : Array Jvm.Value) (st : Jvm.State) : (allAtoms ts).before a st = ts.all (fun c => c.before a st) := by
  induction ts with
  | nil => rfl
  | cons c t ih =>
    show (Jvm.Cond.and c (allAtoms t)).before a st = _
    rw [Jvm.Cond.before_and, ih, List.all_cons]
def words1 : List Jvm.Cond := Jvm.Cond.code x code maxLocals ret :: tables_1
/-- a 'code' word, met by the world's own term for the bytes: nothing is compared byte by byte -/
theorem code_word {y : MethodName} {bytes : ByteArray} {mx : Nat} {rt : Option FieldType} {a : Array Value} {s : State} {m : MethodId} {meth : Method} {c : Code} (h1 : s.methodNamed? y = some m) (h2 : s.vm.method? m = some meth) (h3 : meth.code = some c) (h4 : c.code = bytes)
    (h5 : (c.maxLocals == mx && c.exceptionTable.isEmpty && decide (c.maxStack ≤ mostOperands) && decide (meth.sig.returnType = rt) && !meth.locks && decide (parseMethodDescriptor y.desc = some meth.sig)) = true) : (Jvm.Cond.code y bytes mx rt).before a s = true := by
  simp only [Bool.and_eq_true, beq_iff_eq, Bool.not_eq_true', decide_eq_true_eq] at h5
  obtain ⟨⟨⟨⟨⟨g1, g2⟩, g3⟩, g4⟩, g5⟩, g6⟩ := h5
  simp [Cond.before, Cond.holds, Cond.value, h1, h2, h3, h4, g1, g2, g3, g4, g5, g6]
def isCode : Jvm.Cond → Bool
  | .code _ _ _ _ => true
  | _ => false
theorem all_split {L : List Jvm.Cond} {P : Jvm.Cond → Bool} (h1 : L.all (fun c => isCode c || P c) = true) (h2 : ∀ c ∈ L.filter isCode, P c = true) : L.all P = true := by
  refine List.all_eq_true.mpr fun c hc => ?_
  have h := List.all_eq_true.mp h1 c hc
  rcases Bool.eq_false_or_eq_true (isCode c) with hi | hi
  · exact h2 c (List.mem_filter.mpr ⟨hc, hi⟩)
  · simpa [hi] using h
set_option maxRecDepth 65536 in
theorem w_c0 : (Jvm.Cond.code x code maxLocals ret).before args0 about1 = true := code_word (m := ⟨1, 1⟩) (meth := k1m1) (c := k1c1) (by decide +kernel) rfl rfl rfl (by decide +kernel)
set_option maxRecDepth 65536 in
theorem w_c1 : (Jvm.Cond.code ({ cls := "com/example/flowspur/flowspur/softswitch/FlowMod$Command", name := "of", desc := "(J)Lcom/example/flowspur/flowspur/softswitch/FlowMod$Command;" } : Jvm.MethodName) prog_123_method_4_code (3 : Nat) (Option.some (Jvm.ClassFile.FieldType.object "com/example/flowspur/flowspur/softswitch/FlowMod$Command"))).before args0 about1 = true := code_word (m := ⟨6, 1⟩) (meth := k6m1) (c := k6c1) (by decide +kernel) rfl rfl rfl (by decide +kernel)
set_option maxRecDepth 65536 in
theorem w_c2 : (Jvm.Cond.code ({ cls := "com/example/flowspur/flowspur/softswitch/FlowMod$Command", name := "values", desc := "()[Lcom/example/flowspur/flowspur/softswitch/FlowMod$Command;" } : Jvm.MethodName) prog_123_method_1_code (0 : Nat) (Option.some (Jvm.ClassFile.FieldType.array (Jvm.ClassFile.FieldType.object "com/example/flowspur/flowspur/softswitch/FlowMod$Command")))).before args0 about1 = true := code_word (m := ⟨6, 0⟩) (meth := k6m0) (c := k6c0) (by decide +kernel) rfl rfl rfl (by decide +kernel)
set_option maxRecDepth 65536 in
theorem w_c3 : (Jvm.Cond.code ({ cls := "com/example/flowspur/flowspur/softswitch/FlowMod$Command", name := "strict", desc := "()Z" } : Jvm.MethodName) prog_123_method_6_code (1 : Nat) (Option.some Jvm.ClassFile.FieldType.boolean)).before args0 about1 = true := code_word (m := ⟨6, 2⟩) (meth := k6m2) (c := k6c2) (by decide +kernel) rfl rfl rfl (by decide +kernel)
def codes1 : List Jvm.Cond := [Jvm.Cond.code x code maxLocals ret, Jvm.Cond.code ({ cls := "com/example/flowspur/flowspur/softswitch/FlowMod$Command", name := "of", desc := "(J)Lcom/example/flowspur/flowspur/softswitch/FlowMod$Command;" } : Jvm.MethodName) prog_123_method_4_code (3 : Nat) (Option.some (Jvm.ClassFile.FieldType.object "com/example/flowspur/flowspur/softswitch/FlowMod$Command")), Jvm.Cond.code ({ cls := "com/example/flowspur/flowspur/softswitch/FlowMod$Command", name := "values", desc := "()[Lcom/example/flowspur/flowspur/softswitch/FlowMod$Command;" } : Jvm.MethodName) prog_123_method_1_code (0 : Nat) (Option.some (Jvm.ClassFile.FieldType.array (Jvm.ClassFile.FieldType.object "com/example/flowspur/flowspur/softswitch/FlowMod$Command"))), Jvm.Cond.code ({ cls := "com/example/flowspur/flowspur/softswitch/FlowMod$Command", name := "strict", desc := "()Z" } : Jvm.MethodName) prog_123_method_6_code (1 : Nat) (Option.some Jvm.ClassFile.FieldType.boolean)]
set_option maxRecDepth 65536 in
theorem codes_eq : words1.filter isCode = codes1 := rfl
theorem w_codes : ∀ c ∈ words1.filter isCode, c.before args0 about1 = true := by
  rw [codes_eq]
  intro c hc
  simp only [codes1, List.mem_cons, List.not_mem_nil, or_false] at hc
  rcases hc with rfl | rfl | rfl | rfl
  · exact w_c0
  · exact w_c1
  · exact w_c2
  · exact w_c3
set_option maxRecDepth 65536 in
theorem w_t1 : (words1.take 24).all (fun c => isCode c || c.before args0 about1) = true := by decide +kernel
set_option maxRecDepth 65536 in
theorem w_t2 : (words1.drop 24).all (fun c => isCode c || c.before args0 about1) = true := by decide +kernel
theorem w_tables : (allAtoms (Jvm.Cond.code x code maxLocals ret :: tables_1)).before args0 about1 = true := by
  rw [allAtoms_all]
  show words1.all (fun c => c.before args0 about1) = true
  refine all_split ?_ w_codes
  rw [← List.take_append_drop 24 words1, List.all_append, w_t1, w_t2]
  rfl
set_option maxRecDepth 65536 in
theorem w_case : (Jvm.Cond.and given_1 narrow_1).before args0 about1 = true := by decide +kernel
theorem w_applies : (headSpec (Jvm.Cond.code x code maxLocals ret :: tables_1) room_1).applies x e0.platform about1 = true :=
  (Spec.applies_iff w_frames).mpr ⟨w_running, w_runnable, w_alone, w_named, w_hears, w_ripe, w_room, w_tables⟩
theorem atStart : AtStart classFile x code maxLocals ret World_1 tables_1 room_1 Calls_1 rest_1 Pre_1 launch0 p0 e0 about1 theMethod args0 below0 :=
  ⟨lists_1, trivial, launch0.admits_env _ _ _, launch0.least_env, fairChoices_fair.cas, fairChoices_fair.clock, w_frames, w_args, w_heap, w_applies, trivial, trivial, w_case⟩
end start1
theorem witness_1 : WitnessClaimed_1 := ⟨start1.p0, start1.e0, start1.about1, start1.theMethod, start1.args0, start1.below0, start1.atStart⟩
end Jvm.Pilot.@@N@@
