import JvmDerived
import JvmDerived.Pilot.@@N@@Statement
import JvmDerived.Pilot.@@N@@Code
set_option linter.unusedVariables false
set_option linter.unusedSimpArgs false
@@BLOCK:NumsL.lean.txt@@
namespace Jvm.RoadKit
open Sem ClassFile Op Lib Jvm.Stand Jvm.Free Jvm.LawKit
section New
variable {p : Program} {l : Launch} {e : Env} {R : Room} {s : State} {m : MethodId} {args : Array Value} {below : List Frame} {meth : Method} {c : Code} {T : State} {locs : List Loc} {cells slots : Nat}
theorem retI (X : Stand p l e R s m args below meth c T locs cells slots) (hx : p.tables.exec = Jvm.exec) {pc : Nat} {Ls : Array Slot} {z : Int32} {rest : List Value} (hret : meth.sig.returnType = some .int) (hd : decode c.code pc = .ok (.ireturn, 1)) {fs : List Frame}
    (hl : ∀ (f : JFrame) (acts : List Action), f.method = m → f.locked = none → f.entered = [] → (doReturn e (T.setTop f) acts (some (.int z))).1 = T.setFrames fs) : Steps p.tables e below (T.setTop (mkF m pc Ls (.int z :: rest))) (T.setFrames fs) := by
  have hm' : T.vm.method? m = some meth := X.method'
  have hn : narrow .int (.int z) = .int z := rfl
  show Steps p.tables e below (T.setTop { method := m, pc := pc, locals := Ls, stack := _ :: rest, locked := none }) _
  jvm_step X.here [X.here.top, hx, hd, hm', hret, hn]
  first | (intro acts; rw [hl _ acts rfl rfl rfl]) | rw [hl _ _ rfl rfl rfl]
  exact Steps.refl _
end New
end Jvm.RoadKit
namespace Jvm.Pilot.@@N@@
open Jvm Jvm.ClassFile Sem Op Lib Jvm.Free Jvm.Stand Jvm.LawKit Jvm.RoadKit Bundle Jvm.Pilot.@@N@@.Jvm.D
/-! 1. small laws of our own: the case's words, the masks, two objects that differ in a field -/
theorem own_fldI {args : Array Value} {s : State} {t : Term} {C n d : String} {k : Int32} {w : Addr} (ht : t.eval args s none [] s = some (.ref w)) (h : (Jvm.Cond.eq (.field t C n d) (.int k)).value args s none s [] = some true) : Fld s s.heap w C n d (.int k) :=
  Fld.start ((fld_at ht).symm.trans (eqv_i (by simp [Term.eval]) h))
theorem own_fldL {args : Array Value} {s : State} {t : Term} {C n d : String} {k : Int64} {w : Addr} (ht : t.eval args s none [] s = some (.ref w)) (h : (Jvm.Cond.eq (.field t C n d) (.long k)).value args s none s [] = some true) : Fld s s.heap w C n d (.long k) :=
  Fld.start ((fld_at ht).symm.trans (eqv_l (by simp [Term.eval]) h))
theorem own_xt {h h' h'' : Heap} (A : Ext h h') (B : Ext h' h'') : Ext h h'' := ⟨Nat.le_trans A.1 B.1, fun a c q => B.2 a c (A.2 a c q)⟩
theorem own_xk {h h' h'' : Heap} {ws : List Addr} (A : Ext h h') (K : Keep h' h'' ws) (q : ∀ x ∈ ws, h.size ≤ x) : Ext h h'' := ⟨Nat.le_trans A.1 K.1, fun a c r => K.2.1 a c (A.2 a c r) fun z => absurd (Array.getElem?_eq_some_iff.mp r).1 (Nat.not_lt.mpr (q a z))⟩
theorem own_xr (h : Heap) : Ext h h := ⟨Nat.le_refl _, fun _ _ q => q⟩
def QX (h0 : Heap) (n0 : Nat) (r : Option Value) (v : Option Value) (h : Heap) (L : List Loc) : Prop := v = r ∧ Fr n0 L ∧ Ext h0 h
def QO (Z : State) (h0 : Heap) (n0 : Nat) (K : String) (v : Option Value) (h : Heap) (L : List Loc) : Prop := ∃ r : Addr, v = some (.ref r) ∧ Fr n0 L ∧ Ext h0 h ∧ Exa Z h r K
def QL (n0 : Nat) (r : Option Value) (v : Option Value) (L : List Loc) : Prop := v = r ∧ Fr n0 L
def QR (h0 : Heap) (n0 : Nat) (r : Option Value) (v : Option Value) (h : Heap) (L : List Loc) : Prop := v = r ∧ Fr n0 L ∧ h = h0
theorem own_r6 (x : Int32) : (x &&& (2147483647 : Int32)) % (6 : Int32) = (0 : Int32) ∨ (x &&& (2147483647 : Int32)) % (6 : Int32) = (1 : Int32) ∨ (x &&& (2147483647 : Int32)) % (6 : Int32) = (2 : Int32) ∨ (x &&& (2147483647 : Int32)) % (6 : Int32) = (3 : Int32) ∨ (x &&& (2147483647 : Int32)) % (6 : Int32) = (4 : Int32) ∨ (x &&& (2147483647 : Int32)) % (6 : Int32) = (5 : Int32) := by
  have e : (x &&& (2147483647 : Int32)).toInt = x.toInt % 2 ^ 31 := Jvm.Kit.i32_mask x 2147483647 (by decide) (by decide)
  have f : ((x &&& (2147483647 : Int32)) % (6 : Int32)).toInt = (x &&& (2147483647 : Int32)).toInt.tmod (6 : Int32).toInt := Int32.toInt_mod _ _
  have d : (6 : Int32).toInt = 6 := by decide
  rw [d, Int.tmod_eq_emod_of_nonneg (by omega)] at f
  simp only [← Int32.toInt_inj]
  rw [f]
  have r : (0 : Int32).toInt = 0 ∧ (1 : Int32).toInt = 1 ∧ (2 : Int32).toInt = 2 ∧ (3 : Int32).toInt = 3 ∧ (4 : Int32).toInt = 4 ∧ (5 : Int32).toInt = 5 := ⟨by decide, by decide, by decide, by decide, by decide, by decide⟩
  simp only [r]
  omega
def Ctx (Z : State) (h : Heap) (w_BRANCH w_SENSOR w_ACTUATOR w_ATTRIBUTE w_STRUCT w_PROPERTY : Addr) : Prop := Sta Z h "com/example/telemetree/telemetree/catalog/NodeType" "BRANCH" "Lcom/example/telemetree/telemetree/catalog/NodeType;" (.ref w_BRANCH) ∧ Exa Z h w_BRANCH "com/example/telemetree/telemetree/catalog/NodeType" ∧ Fld Z h w_BRANCH "java/lang/Enum" "ordinal" "I" (.int (0 : Int32)) ∧ Sta Z h "com/example/telemetree/telemetree/catalog/NodeType" "SENSOR" "Lcom/example/telemetree/telemetree/catalog/NodeType;" (.ref w_SENSOR) ∧ Exa Z h w_SENSOR "com/example/telemetree/telemetree/catalog/NodeType" ∧ Fld Z h w_SENSOR "java/lang/Enum" "ordinal" "I" (.int (1 : Int32)) ∧ Sta Z h "com/example/telemetree/telemetree/catalog/NodeType" "ACTUATOR" "Lcom/example/telemetree/telemetree/catalog/NodeType;" (.ref w_ACTUATOR) ∧ Exa Z h w_ACTUATOR "com/example/telemetree/telemetree/catalog/NodeType" ∧ Fld Z h w_ACTUATOR "java/lang/Enum" "ordinal" "I" (.int (2 : Int32)) ∧ Sta Z h "com/example/telemetree/telemetree/catalog/NodeType" "ATTRIBUTE" "Lcom/example/telemetree/telemetree/catalog/NodeType;" (.ref w_ATTRIBUTE) ∧ Exa Z h w_ATTRIBUTE "com/example/telemetree/telemetree/catalog/NodeType" ∧ Fld Z h w_ATTRIBUTE "java/lang/Enum" "ordinal" "I" (.int (3 : Int32)) ∧ Sta Z h "com/example/telemetree/telemetree/catalog/NodeType" "STRUCT" "Lcom/example/telemetree/telemetree/catalog/NodeType;" (.ref w_STRUCT) ∧ Exa Z h w_STRUCT "com/example/telemetree/telemetree/catalog/NodeType" ∧ Fld Z h w_STRUCT "java/lang/Enum" "ordinal" "I" (.int (4 : Int32)) ∧ Sta Z h "com/example/telemetree/telemetree/catalog/NodeType" "PROPERTY" "Lcom/example/telemetree/telemetree/catalog/NodeType;" (.ref w_PROPERTY) ∧ Exa Z h w_PROPERTY "com/example/telemetree/telemetree/catalog/NodeType" ∧ Fld Z h w_PROPERTY "java/lang/Enum" "ordinal" "I" (.int (5 : Int32)) ∧ True
theorem pn_0 : plainName "com/example/telemetree/telemetree/catalog/NodeTypeIsLeafPinLaw" = true := by first | (simp [plainName, overriddenIn]; done) | decide +kernel
theorem ef_0 (m : MethodId) (x0 : Int32) : entryFrame m #[(.int x0)] maxLocals = mkF m 0 #[.val (.int x0), .unset, .unset, .unset, .unset, .unset] [] := by first | (simp [entryFrame, mkF, argsToLocals, Value.category, maxLocals]; done) | rfl
theorem d1_0 : decode method_3_code 0 = .ok (.iload_n 0, 1) := by decide +kernel
theorem d1_1 : decode method_3_code 1 = .ok (.ifCond .ne 7, 3) := by decide +kernel
theorem d1_4 : decode method_3_code 4 = .ok (.getstatic 23, 3) := by decide +kernel
theorem d1_7 : decode method_3_code 7 = .ok (.areturn, 1) := by decide +kernel
theorem d1_8 : decode method_3_code 8 = .ok (.iload_n 0, 1) := by decide +kernel
theorem d1_9 : decode method_3_code 9 = .ok (.iconst 1, 1) := by decide +kernel
theorem d1_10 : decode method_3_code 10 = .ok (.if_icmp .ne 7, 3) := by decide +kernel
theorem d1_13 : decode method_3_code 13 = .ok (.getstatic 27, 3) := by decide +kernel
theorem d1_16 : decode method_3_code 16 = .ok (.areturn, 1) := by decide +kernel
theorem d1_17 : decode method_3_code 17 = .ok (.iload_n 0, 1) := by decide +kernel
theorem d1_18 : decode method_3_code 18 = .ok (.iconst 2, 1) := by decide +kernel
theorem d1_19 : decode method_3_code 19 = .ok (.if_icmp .ne 7, 3) := by decide +kernel
theorem d1_22 : decode method_3_code 22 = .ok (.getstatic 30, 3) := by decide +kernel
theorem d1_25 : decode method_3_code 25 = .ok (.areturn, 1) := by decide +kernel
theorem d1_26 : decode method_3_code 26 = .ok (.iload_n 0, 1) := by decide +kernel
theorem d1_27 : decode method_3_code 27 = .ok (.iconst 3, 1) := by decide +kernel
theorem d1_28 : decode method_3_code 28 = .ok (.if_icmp .ne 7, 3) := by decide +kernel
theorem d1_31 : decode method_3_code 31 = .ok (.getstatic 33, 3) := by decide +kernel
theorem d1_34 : decode method_3_code 34 = .ok (.areturn, 1) := by decide +kernel
theorem d1_35 : decode method_3_code 35 = .ok (.iload_n 0, 1) := by decide +kernel
theorem d1_36 : decode method_3_code 36 = .ok (.iconst 4, 1) := by decide +kernel
theorem d1_37 : decode method_3_code 37 = .ok (.if_icmp .ne 7, 3) := by decide +kernel
theorem d1_40 : decode method_3_code 40 = .ok (.getstatic 36, 3) := by decide +kernel
theorem d1_43 : decode method_3_code 43 = .ok (.areturn, 1) := by decide +kernel
theorem d1_44 : decode method_3_code 44 = .ok (.getstatic 39, 3) := by decide +kernel
theorem d1_47 : decode method_3_code 47 = .ok (.areturn, 1) := by decide +kernel
theorem pn_1 : plainName "com/example/telemetree/telemetree/catalog/NodeTypeIsLeafPinLaw" = true := by first | (simp [plainName, overriddenIn]; done) | decide +kernel
theorem ef_1 (m : MethodId) (x0 : Int32) : entryFrame m #[(.int x0)] 1 = mkF m 0 #[.val (.int x0)] [] := by first | (simp [entryFrame, mkF, argsToLocals, Value.category]; done) | rfl
set_option maxRecDepth 65536 in
set_option maxHeartbeats 40000000 in
theorem rm1_0 (l : Launch) (Z : State) (a0 : Array Value) (hw : ∀ d ∈ tables_1, d.before a0 Z = true) (ws : List Jvm.Cond) (w_BRANCH w_SENSOR w_ACTUATOR w_ATTRIBUTE w_STRUCT w_PROPERTY : Addr) (h0 : Heap) (n0 : Nat) (Z0 : n0 ≤ h0.size) (C : Ctx Z h0 w_BRANCH w_SENSOR w_ACTUATOR w_ATTRIBUTE w_STRUCT w_PROPERTY)  :
    MetFree l (⟨"com/example/telemetree/telemetree/catalog/NodeTypeIsLeafPinLaw", "pick", "(I)Lcom/example/telemetree/telemetree/catalog/NodeType;"⟩ : MethodName) (head1 (Jvm.Cond.code (⟨"com/example/telemetree/telemetree/catalog/NodeTypeIsLeafPinLaw", "pick", "(I)Lcom/example/telemetree/telemetree/catalog/NodeType;"⟩ : MethodName) method_3_code 1 (some (.object "com/example/telemetree/telemetree/catalog/NodeType")) :: ws) ({ frames := 0, cells := 0, slots := 0, locals := 0 } : Room)) (fun a U => a = #[(.int (0 : Int32))] ∧ Z.Warmed39 U.vm ∧ U.heap = h0) (fun _ _ _ _ _ => True) (fun _ U o U' => ∃ v L, o = .returned v ∧ QR h0 n0 (some (.ref w_BRANCH)) v U'.heap L ∧ FrameEnd U o U' L ({ frames := 0, cells := 0, slots := 0, locals := 0 } : Room).cells ({ frames := 0, cells := 0, slots := 0, locals := 0 } : Room).slots) := by
  have S_BRANCH := C.1
  refine MetFree.of_bodySF (plainFor_of_name pn_1) hisR ?_
  intro p e s m args below meth c s₁ Bd hml0 hP hK
  obtain ⟨rfl, hZ, hh⟩ := hP
  have hx := Bd.exec
  have hby := Bd.bytes
  have hml : c.maxLocals = 1 := hml0
  have hown : s.vm.findClass "com/example/telemetree/telemetree/catalog/NodeTypeIsLeafPinLaw" = some m.cls := findClass_of_methodNamed Bd.named
  have hnm := (name_of_methodNamed Bd.named Bd.method).1
  have X0 : Stand p l e ({ frames := 0, cells := 0, slots := 0, locals := 0 } : Room) s m #[(.int (0 : Int32))] below meth c s₁ [] 0 0 := Stand.of_body Bd
  have e0 : s₁.heap = h0 := by rw [← hh, Bd.state]; rfl
  have N0 := Fr.nil n0
  have pre0 : ∀ t, Steps p.tables e below (s₁.setTop (mkF m 0 #[.val (.int (0 : Int32))] [])) t → Steps p.tables e below (s₁.setTop (entryFrame m #[(.int (0 : Int32))] 1)) t := fun t k => castTop (ef_1 m (0 : Int32)) k
  obtain ⟨T1, X1, e1, st1⟩ := getS2 X0 hx hZ hown (host := "") (Or.inl (hw _ (List.mem_of_getElem? (i := 5) rfl))) Via.refl e0 S_BRANCH (g := (mkF m 4 #[.val (.int (0 : Int32))] [])) rfl (hb hby d1_4)
  obtain ⟨fs, hr, hrun, hended, hW, hsame⟩ := X1.leave (v := (some (.ref w_BRANCH))) (fun h => by rw [Bd.returns] at h; cases h)
  refine ⟨_, _, pre0 _ ?_, hrun, hended, _, _, rfl, ?_, ⟨_, rfl⟩, hW, hsame.mono (by decide) (by decide)⟩
  · show Steps p.tables e below (s₁.setTop (mkF m 0 #[.val (.int (0 : Int32))] [])) _
    refine XS.iloadN X0.here hx rfl (hb hby d1_0) rfl ?_
    show Steps p.tables e below (s₁.setTop (mkF m 1 #[.val (.int (0 : Int32))] [(.int (0 : Int32))])) _
    refine XS.ifNo X0.here hx rfl (hb hby d1_1) rfl ((if0 _ _).trans (teq (by decide +kernel : (0 : Int32) = (0 : Int32))).2) ?_
    show Steps p.tables e below (s₁.setTop (mkF m 4 #[.val (.int (0 : Int32))] [])) _
    refine st1 _ ?_
    show Steps p.tables e below (T1.setTop (mkF m 7 #[.val (.int (0 : Int32))] [(.ref w_BRANCH)])) _
    jvm_step X1.here [X1.here.top, hx, (hb hby d1_7), X1.method', Bd.returns, Value.isRef, FieldType.isReference]
    first | (intro acts; rw [hr _ acts rfl rfl rfl]) | rw [hr _ _ rfl rfl rfl]
    exact Steps.refl _
  · exact ⟨rfl, N0, e1⟩
theorem d2_0 : decode prog_6_method_5_code 0 = .ok (.aload_n 0, 1) := by decide +kernel
theorem d2_1 : decode prog_6_method_5_code 1 = .ok (.getstatic 7, 3) := by decide +kernel
theorem d2_4 : decode prog_6_method_5_code 4 = .ok (.if_acmp .eq 17, 3) := by decide +kernel
theorem d2_7 : decode prog_6_method_5_code 7 = .ok (.aload_n 0, 1) := by decide +kernel
theorem d2_8 : decode prog_6_method_5_code 8 = .ok (.getstatic 10, 3) := by decide +kernel
theorem d2_11 : decode prog_6_method_5_code 11 = .ok (.if_acmp .eq 10, 3) := by decide +kernel
theorem d2_14 : decode prog_6_method_5_code 14 = .ok (.aload_n 0, 1) := by decide +kernel
theorem d2_15 : decode prog_6_method_5_code 15 = .ok (.getstatic 13, 3) := by decide +kernel
theorem d2_18 : decode prog_6_method_5_code 18 = .ok (.if_acmp .ne 7, 3) := by decide +kernel
theorem d2_21 : decode prog_6_method_5_code 21 = .ok (.iconst 1, 1) := by decide +kernel
theorem d2_22 : decode prog_6_method_5_code 22 = .ok (.goto 4, 3) := by decide +kernel
theorem d2_25 : decode prog_6_method_5_code 25 = .ok (.iconst 0, 1) := by decide +kernel
theorem d2_26 : decode prog_6_method_5_code 26 = .ok (.ireturn, 1) := by decide +kernel
theorem pn_2 : plainName "com/example/telemetree/telemetree/catalog/NodeType" = true := by first | (simp [plainName, overriddenIn]; done) | decide +kernel
theorem ef_2 (m : MethodId) (x0 : Addr) : entryFrame m #[(.ref x0)] 1 = mkF m 0 #[.val (.ref x0)] [] := by first | (simp [entryFrame, mkF, argsToLocals, Value.category]; done) | rfl
theorem pd_0 : parseMethodDescriptor "(I)Lcom/example/telemetree/telemetree/catalog/NodeType;" = some ⟨[.int], some (.object "com/example/telemetree/telemetree/catalog/NodeType")⟩ := by decide +kernel
set_option maxRecDepth 65536 in
set_option maxHeartbeats 40000000 in
theorem rm2_0 (l : Launch) (Z : State) (a0 : Array Value) (hw : ∀ d ∈ tables_1, d.before a0 Z = true) (ws : List Jvm.Cond) (w_BRANCH w_SENSOR w_ACTUATOR w_ATTRIBUTE w_STRUCT w_PROPERTY : Addr) (h0 : Heap) (n0 : Nat) (Z0 : n0 ≤ h0.size) (C : Ctx Z h0 w_BRANCH w_SENSOR w_ACTUATOR w_ATTRIBUTE w_STRUCT w_PROPERTY)  :
    MetFree l (⟨"com/example/telemetree/telemetree/catalog/NodeType", "isLeaf", "()Z"⟩ : MethodName) (head1 (Jvm.Cond.code (⟨"com/example/telemetree/telemetree/catalog/NodeType", "isLeaf", "()Z"⟩ : MethodName) prog_6_method_5_code 1 (some .boolean) :: ws) ({ frames := 0, cells := 0, slots := 0, locals := 0 } : Room)) (fun a U => a = #[(.ref w_BRANCH)] ∧ Z.Warmed39 U.vm ∧ U.heap = h0) (fun _ _ _ _ _ => True) (fun _ U o U' => ∃ v L, o = .returned v ∧ QR h0 n0 (some (.int (0 : Int32))) v U'.heap L ∧ FrameEnd U o U' L ({ frames := 0, cells := 0, slots := 0, locals := 0 } : Room).cells ({ frames := 0, cells := 0, slots := 0, locals := 0 } : Room).slots) := by
  have F_BRANCH_ordinal := C.2.2.1
  have S_SENSOR := C.2.2.2.1
  have F_SENSOR_ordinal := C.2.2.2.2.2.1
  have S_ACTUATOR := C.2.2.2.2.2.2.1
  have F_ACTUATOR_ordinal := C.2.2.2.2.2.2.2.2.1
  have S_ATTRIBUTE := C.2.2.2.2.2.2.2.2.2.1
  have F_ATTRIBUTE_ordinal := C.2.2.2.2.2.2.2.2.2.2.2.1
  refine MetFree.of_bodySF (plainFor_of_name pn_2) hisR ?_
  intro p e s m args below meth c s₁ Bd hml0 hP hK
  obtain ⟨rfl, hZ, hh⟩ := hP
  have hx := Bd.exec
  have hby := Bd.bytes
  have hml : c.maxLocals = 1 := hml0
  have hown : s.vm.findClass "com/example/telemetree/telemetree/catalog/NodeType" = some m.cls := findClass_of_methodNamed Bd.named
  have hnm := (name_of_methodNamed Bd.named Bd.method).1
  have X0 : Stand p l e ({ frames := 0, cells := 0, slots := 0, locals := 0 } : Room) s m #[(.ref w_BRANCH)] below meth c s₁ [] 0 0 := Stand.of_body Bd
  have e0 : s₁.heap = h0 := by rw [← hh, Bd.state]; rfl
  have N0 := Fr.nil n0
  have pre0 : ∀ t, Steps p.tables e below (s₁.setTop (mkF m 0 #[.val (.ref w_BRANCH)] [])) t → Steps p.tables e below (s₁.setTop (entryFrame m #[(.ref w_BRANCH)] 1)) t := fun t k => castTop (ef_2 m w_BRANCH) k
  obtain ⟨T1, X1, e1, st1⟩ := getS2 X0 hx hZ hown (host := "") (Or.inl (hw _ (List.mem_of_getElem? (i := 13) rfl))) Via.refl e0 S_SENSOR (g := (mkF m 1 #[.val (.ref w_BRANCH)] [(.ref w_BRANCH)])) rfl (hb hby d2_1)
  obtain ⟨T2, X2, e2, st2⟩ := getS2 X1 hx hZ hown (host := "") (Or.inl (hw _ (List.mem_of_getElem? (i := 15) rfl))) Via.refl e1 S_ACTUATOR (g := (mkF m 8 #[.val (.ref w_BRANCH)] [(.ref w_BRANCH)])) rfl (hb hby d2_8)
  obtain ⟨T3, X3, e3, st3⟩ := getS2 X2 hx hZ hown (host := "") (Or.inl (hw _ (List.mem_of_getElem? (i := 17) rfl))) Via.refl e2 S_ATTRIBUTE (g := (mkF m 15 #[.val (.ref w_BRANCH)] [(.ref w_BRANCH)])) rfl (hb hby d2_15)
  obtain ⟨fs, hr, hrun, hended, hW, hsame⟩ := X3.leave (v := (some (.int (0 : Int32)))) (fun h => by rw [Bd.returns] at h; cases h)
  refine ⟨_, _, pre0 _ ?_, hrun, hended, _, _, rfl, ?_, ⟨_, rfl⟩, hW, hsame.mono (by decide) (by decide)⟩
  · show Steps p.tables e below (s₁.setTop (mkF m 0 #[.val (.ref w_BRANCH)] [])) _
    refine XS.aloadN X0.here hx rfl (hb hby d2_0) rfl rfl ?_
    show Steps p.tables e below (s₁.setTop (mkF m 1 #[.val (.ref w_BRANCH)] [(.ref w_BRANCH)])) _
    refine st1 _ ?_
    show Steps p.tables e below (T1.setTop (mkF m 4 #[.val (.ref w_BRANCH)] [(.ref w_SENSOR), (.ref w_BRANCH)])) _
    refine Jvm.RoadKit.acmp (g := (mkF m 4 #[.val (.ref w_BRANCH)] [(.ref w_SENSOR), (.ref w_BRANCH)])) X1 hx rfl rfl rfl (pc0 := 4) (pc' := 7) (same := false) rfl (hb hby d2_4) rfl (decide_eq_false fun q => (Fld.ne F_BRANCH_ordinal F_SENSOR_ordinal (by simp)) (Value.ref.inj q)) (by decide) (by decide) ?_
    show Steps p.tables e below (T1.setTop (mkF m 7 #[.val (.ref w_BRANCH)] [])) _
    refine XS.aloadN X1.here hx rfl (hb hby d2_7) rfl rfl ?_
    show Steps p.tables e below (T1.setTop (mkF m 8 #[.val (.ref w_BRANCH)] [(.ref w_BRANCH)])) _
    refine st2 _ ?_
    show Steps p.tables e below (T2.setTop (mkF m 11 #[.val (.ref w_BRANCH)] [(.ref w_ACTUATOR), (.ref w_BRANCH)])) _
    refine Jvm.RoadKit.acmp (g := (mkF m 11 #[.val (.ref w_BRANCH)] [(.ref w_ACTUATOR), (.ref w_BRANCH)])) X2 hx rfl rfl rfl (pc0 := 11) (pc' := 14) (same := false) rfl (hb hby d2_11) rfl (decide_eq_false fun q => (Fld.ne F_BRANCH_ordinal F_ACTUATOR_ordinal (by simp)) (Value.ref.inj q)) (by decide) (by decide) ?_
    show Steps p.tables e below (T2.setTop (mkF m 14 #[.val (.ref w_BRANCH)] [])) _
    refine XS.aloadN X2.here hx rfl (hb hby d2_14) rfl rfl ?_
    show Steps p.tables e below (T2.setTop (mkF m 15 #[.val (.ref w_BRANCH)] [(.ref w_BRANCH)])) _
    refine st3 _ ?_
    show Steps p.tables e below (T3.setTop (mkF m 18 #[.val (.ref w_BRANCH)] [(.ref w_ATTRIBUTE), (.ref w_BRANCH)])) _
    refine Jvm.RoadKit.acmp (g := (mkF m 18 #[.val (.ref w_BRANCH)] [(.ref w_ATTRIBUTE), (.ref w_BRANCH)])) X3 hx rfl rfl rfl (pc0 := 18) (pc' := 25) (same := false) rfl (hb hby d2_18) rfl (decide_eq_false fun q => (Fld.ne F_BRANCH_ordinal F_ATTRIBUTE_ordinal (by simp)) (Value.ref.inj q)) (by decide) (by decide) ?_
    show Steps p.tables e below (T3.setTop (mkF m 25 #[.val (.ref w_BRANCH)] [])) _
    refine XS.iconst X3.here hx rfl (hb hby d2_25) ?_
    show Steps p.tables e below (T3.setTop (mkF m 26 #[.val (.ref w_BRANCH)] [(.int (0 : Int32))])) _
    exact retN X3 hx (t := .boolean) Bd.returns (by simp) (hb hby d2_26) hr
  · exact ⟨rfl, N0, e3⟩
theorem d3_0 : decode prog_6_method_6_code 0 = .ok (.aload_n 0, 1) := by decide +kernel
theorem d3_1 : decode prog_6_method_6_code 1 = .ok (.getstatic 3, 3) := by decide +kernel
theorem d3_4 : decode prog_6_method_6_code 4 = .ok (.if_acmp .eq 10, 3) := by decide +kernel
theorem d3_7 : decode prog_6_method_6_code 7 = .ok (.aload_n 0, 1) := by decide +kernel
theorem d3_8 : decode prog_6_method_6_code 8 = .ok (.getstatic 16, 3) := by decide +kernel
theorem d3_11 : decode prog_6_method_6_code 11 = .ok (.if_acmp .ne 7, 3) := by decide +kernel
theorem d3_14 : decode prog_6_method_6_code 14 = .ok (.iconst 1, 1) := by decide +kernel
theorem d3_15 : decode prog_6_method_6_code 15 = .ok (.goto 4, 3) := by decide +kernel
theorem d3_18 : decode prog_6_method_6_code 18 = .ok (.iconst 0, 1) := by decide +kernel
theorem d3_19 : decode prog_6_method_6_code 19 = .ok (.ireturn, 1) := by decide +kernel
theorem pn_3 : plainName "com/example/telemetree/telemetree/catalog/NodeType" = true := by first | (simp [plainName, overriddenIn]; done) | decide +kernel
theorem ef_3 (m : MethodId) (x0 : Addr) : entryFrame m #[(.ref x0)] 1 = mkF m 0 #[.val (.ref x0)] [] := by first | (simp [entryFrame, mkF, argsToLocals, Value.category]; done) | rfl
theorem pd_1 : parseMethodDescriptor "()Z" = some ⟨[], some .boolean⟩ := by decide +kernel
set_option maxRecDepth 65536 in
set_option maxHeartbeats 40000000 in
theorem rm3_0 (l : Launch) (Z : State) (a0 : Array Value) (hw : ∀ d ∈ tables_1, d.before a0 Z = true) (ws : List Jvm.Cond) (w_BRANCH w_SENSOR w_ACTUATOR w_ATTRIBUTE w_STRUCT w_PROPERTY : Addr) (h0 : Heap) (n0 : Nat) (Z0 : n0 ≤ h0.size) (C : Ctx Z h0 w_BRANCH w_SENSOR w_ACTUATOR w_ATTRIBUTE w_STRUCT w_PROPERTY)  :
    MetFree l (⟨"com/example/telemetree/telemetree/catalog/NodeType", "holdsNodes", "()Z"⟩ : MethodName) (head1 (Jvm.Cond.code (⟨"com/example/telemetree/telemetree/catalog/NodeType", "holdsNodes", "()Z"⟩ : MethodName) prog_6_method_6_code 1 (some .boolean) :: ws) ({ frames := 0, cells := 0, slots := 0, locals := 0 } : Room)) (fun a U => a = #[(.ref w_BRANCH)] ∧ Z.Warmed39 U.vm ∧ U.heap = h0) (fun _ _ _ _ _ => True) (fun _ U o U' => ∃ v L, o = .returned v ∧ QR h0 n0 (some (.int (1 : Int32))) v U'.heap L ∧ FrameEnd U o U' L ({ frames := 0, cells := 0, slots := 0, locals := 0 } : Room).cells ({ frames := 0, cells := 0, slots := 0, locals := 0 } : Room).slots) := by
  have S_BRANCH := C.1
  refine MetFree.of_bodySF (plainFor_of_name pn_3) hisR ?_
  intro p e s m args below meth c s₁ Bd hml0 hP hK
  obtain ⟨rfl, hZ, hh⟩ := hP
  have hx := Bd.exec
  have hby := Bd.bytes
  have hml : c.maxLocals = 1 := hml0
  have hown : s.vm.findClass "com/example/telemetree/telemetree/catalog/NodeType" = some m.cls := findClass_of_methodNamed Bd.named
  have hnm := (name_of_methodNamed Bd.named Bd.method).1
  have X0 : Stand p l e ({ frames := 0, cells := 0, slots := 0, locals := 0 } : Room) s m #[(.ref w_BRANCH)] below meth c s₁ [] 0 0 := Stand.of_body Bd
  have e0 : s₁.heap = h0 := by rw [← hh, Bd.state]; rfl
  have N0 := Fr.nil n0
  have pre0 : ∀ t, Steps p.tables e below (s₁.setTop (mkF m 0 #[.val (.ref w_BRANCH)] [])) t → Steps p.tables e below (s₁.setTop (entryFrame m #[(.ref w_BRANCH)] 1)) t := fun t k => castTop (ef_3 m w_BRANCH) k
  obtain ⟨T1, X1, e1, st1⟩ := getS2 X0 hx hZ hown (host := "") (Or.inl (hw _ (List.mem_of_getElem? (i := 24) rfl))) Via.refl e0 S_BRANCH (g := (mkF m 1 #[.val (.ref w_BRANCH)] [(.ref w_BRANCH)])) rfl (hb hby d3_1)
  obtain ⟨fs, hr, hrun, hended, hW, hsame⟩ := X1.leave (v := (some (.int (1 : Int32)))) (fun h => by rw [Bd.returns] at h; cases h)
  refine ⟨_, _, pre0 _ ?_, hrun, hended, _, _, rfl, ?_, ⟨_, rfl⟩, hW, hsame.mono (by decide) (by decide)⟩
  · show Steps p.tables e below (s₁.setTop (mkF m 0 #[.val (.ref w_BRANCH)] [])) _
    refine XS.aloadN X0.here hx rfl (hb hby d3_0) rfl rfl ?_
    show Steps p.tables e below (s₁.setTop (mkF m 1 #[.val (.ref w_BRANCH)] [(.ref w_BRANCH)])) _
    refine st1 _ ?_
    show Steps p.tables e below (T1.setTop (mkF m 4 #[.val (.ref w_BRANCH)] [(.ref w_BRANCH), (.ref w_BRANCH)])) _
    refine Jvm.RoadKit.acmp (g := (mkF m 4 #[.val (.ref w_BRANCH)] [(.ref w_BRANCH), (.ref w_BRANCH)])) X1 hx rfl rfl rfl (pc0 := 4) (pc' := 14) (same := true) rfl (hb hby d3_4) rfl (decide_eq_true rfl) (by decide) (by decide) ?_
    show Steps p.tables e below (T1.setTop (mkF m 14 #[.val (.ref w_BRANCH)] [])) _
    refine XS.iconst X1.here hx rfl (hb hby d3_14) ?_
    show Steps p.tables e below (T1.setTop (mkF m 15 #[.val (.ref w_BRANCH)] [(.int (1 : Int32))])) _
    refine XS.goto X1.here hx rfl (pc0 := 15) (pc' := 19) rfl (hb hby d3_15) (by decide) (by decide) ?_
    show Steps p.tables e below (T1.setTop (mkF m 19 #[.val (.ref w_BRANCH)] [(.int (1 : Int32))])) _
    exact retN X1 hx (t := .boolean) Bd.returns (by simp) (hb hby d3_19) hr
  · exact ⟨rfl, N0, e1⟩
set_option maxRecDepth 65536 in
set_option maxHeartbeats 40000000 in
theorem rm0_0 (l : Launch) (Z : State) (a0 : Array Value) (hw : ∀ d ∈ tables_1, d.before a0 Z = true) (ws : List Jvm.Cond) (w_BRANCH w_SENSOR w_ACTUATOR w_ATTRIBUTE w_STRUCT w_PROPERTY : Addr) (i0 : Int32) (h0 : Heap) (n0 : Nat) (Z0 : n0 ≤ h0.size) (C : Ctx Z h0 w_BRANCH w_SENSOR w_ACTUATOR w_ATTRIBUTE w_STRUCT w_PROPERTY) (hv0 : ((i0 &&& (2147483647 : Int32)) % (6 : Int32)) = (0 : Int32)) :
    MetFree l x (head1 (Jvm.Cond.code x code maxLocals ret :: ws) room_1) (fun a U => a = #[(.int i0)] ∧ Z.Warmed39 U.vm ∧ U.heap = h0) (fun _ _ _ _ _ => True) (fun _ U o U' => ∃ v L, o = .returned v ∧ QR h0 n0 (some (.int (1 : Int32))) v U'.heap L ∧ FrameEnd U o U' L room_1.cells room_1.slots) := by
  have E_BRANCH := C.2.1
  refine MetFree.of_bodySF (plainFor_of_name pn_0) hisR ?_
  intro p e s m args below meth c s₁ Bd hml0 hP hK
  obtain ⟨rfl, hZ, hh⟩ := hP
  have hx := Bd.exec
  have hby := Bd.bytes
  have hml : c.maxLocals = 6 := hml0
  have hown : s.vm.findClass "com/example/telemetree/telemetree/catalog/NodeTypeIsLeafPinLaw" = some m.cls := findClass_of_methodNamed Bd.named
  have hnm := (name_of_methodNamed Bd.named Bd.method).1
  have X0 : Stand p l e room_1 s m #[(.int i0)] below meth c s₁ [] 0 0 := Stand.of_body Bd
  have e0 : s₁.heap = h0 := by rw [← hh, Bd.state]; rfl
  have N0 := Fr.nil n0
  have pre0 : ∀ t, Steps p.tables e below (s₁.setTop (mkF m 0 #[.val (.int i0), .unset, .unset, .unset, .unset, .unset] [])) t → Steps p.tables e below (s₁.setTop (entryFrame m #[(.int i0)] maxLocals)) t := fun t k => castTop (ef_0 m i0) k
  obtain ⟨_, _, ⟨T1, L1, k1, n1⟩, -, X1, ⟨Lc1, hQ1, l1, y1, z1⟩, st1⟩ := Jvm.LawKit.callS X0 hx (y := (⟨"com/example/telemetree/telemetree/catalog/NodeTypeIsLeafPinLaw", "pick", "(I)Lcom/example/telemetree/telemetree/catalog/NodeType;"⟩ : MethodName)) hown (mvT hZ (hw _ (List.mem_of_getElem? (i := 1) rfl))) (mvT hZ (hw _ (List.mem_of_getElem? (i := 2) rfl))) (mvT hZ (hw _ (List.mem_of_getElem? (i := 3) rfl))) (mvT hZ (hw _ (List.mem_of_getElem? (i := 4) rfl))) (by decide) (backOf (W := 0) (rm1_0 l Z a0 hw [] w_BRANCH w_SENSOR w_ACTUATOR w_ATTRIBUTE w_STRUCT w_PROPERTY  h0 n0 Z0 C ) hZ (hw _ (List.mem_of_getElem? (i := 4) rfl)) (hw _ (List.mem_of_getElem? (i := 3) rfl)) (by decide) (by decide)) (g := (mkF m 9 #[.val (.int i0), .val (.int (0 : Int32)), .unset, .unset, .unset, .unset] [(.int (0 : Int32))])) rfl (by rw [hml]; rfl) (argsL := [(.int (0 : Int32))]) (rest := []) (lenOf pd_0 rfl) rfl (by show 2 * 0 + _ ≤ _; exact Nat.le_of_eq rfl) (hb hby at_9) (fun _ _ => ⟨rfl, e0, (by decide : 0 + 0 ≤ _), (by decide : 0 + 0 ≤ _)⟩)
  dsimp only [Pt.U, Pt.locs, Pt.cells, Pt.slots] at X1 l1 y1 z1 st1 hQ1
  subst l1 y1 z1
  obtain ⟨rfl, N1q, e1⟩ := hQ1
  have N1 := Fr.app N0 N1q
  obtain ⟨cq2, kq2, q2a, q2b, q2c⟩ := isOf hZ e1 E_BRANCH
  obtain ⟨_, _, ⟨T2, L2, k2, n2⟩, -, X2, ⟨Lc2, hQ2, l2, y2, z2⟩, st2⟩ := X1.virtualBack hx (y := (⟨"com/example/telemetree/telemetree/catalog/NodeType", "isLeaf", "()Z"⟩ : MethodName)) (z := (⟨"com/example/telemetree/telemetree/catalog/NodeType", "isLeaf", "()Z"⟩ : MethodName)) hown (mvT hZ (hw _ (List.mem_of_getElem? (i := 8) rfl))) (mvT hZ (hw _ (List.mem_of_getElem? (i := 9) rfl))) (notFace_of_selects (args := #[]) (mvT hZ (hw _ (List.mem_of_getElem? (i := 11) rfl)))) (mvT hZ (hw _ (List.mem_of_getElem? (i := 11) rfl))) (mvT hZ (hw _ (List.mem_of_getElem? (i := 10) rfl))) (by decide) (backOf (W := 0) (rm2_0 l Z a0 hw [] w_BRANCH w_SENSOR w_ACTUATOR w_ATTRIBUTE w_STRUCT w_PROPERTY  h0 n0 Z0 C ) hZ (hw _ (List.mem_of_getElem? (i := 12) rfl)) (hw _ (List.mem_of_getElem? (i := 6) rfl)) (by decide) (by decide)) q2a q2c (g := (mkF m 30 #[.val (.int i0), .val (.int (0 : Int32)), .val (.ref w_BRANCH), .val (.int (0 : Int32)), .unset, .unset] [(.ref w_BRANCH)])) rfl (by rw [hml]; rfl) (Steps.refl _) (argsL := []) (rest := []) (lenOf pd_1 rfl) rfl (by show 2 * 0 + _ ≤ _; exact Nat.le_of_eq rfl) (hb hby at_30) (fun _ _ => ⟨rfl, e1, (by decide : 0 + 0 ≤ _), (by decide : 0 + 0 ≤ _)⟩)
  dsimp only [Pt.U, Pt.locs, Pt.cells, Pt.slots] at X2 l2 y2 z2 st2 hQ2
  subst l2 y2 z2
  obtain ⟨rfl, N2q, e2⟩ := hQ2
  have N2 := Fr.app N1 N2q
  obtain ⟨cq3, kq3, q3a, q3b, q3c⟩ := isOf hZ e2 E_BRANCH
  obtain ⟨_, _, ⟨T3, L3, k3, n3⟩, -, X3, ⟨Lc3, hQ3, l3, y3, z3⟩, st3⟩ := X2.virtualBack hx (y := (⟨"com/example/telemetree/telemetree/catalog/NodeType", "holdsNodes", "()Z"⟩ : MethodName)) (z := (⟨"com/example/telemetree/telemetree/catalog/NodeType", "holdsNodes", "()Z"⟩ : MethodName)) hown (mvT hZ (hw _ (List.mem_of_getElem? (i := 19) rfl))) (mvT hZ (hw _ (List.mem_of_getElem? (i := 20) rfl))) (notFace_of_selects (args := #[]) (mvT hZ (hw _ (List.mem_of_getElem? (i := 22) rfl)))) (mvT hZ (hw _ (List.mem_of_getElem? (i := 22) rfl))) (mvT hZ (hw _ (List.mem_of_getElem? (i := 21) rfl))) (by decide) (backOf (W := 0) (rm3_0 l Z a0 hw [] w_BRANCH w_SENSOR w_ACTUATOR w_ATTRIBUTE w_STRUCT w_PROPERTY  h0 n0 Z0 C ) hZ (hw _ (List.mem_of_getElem? (i := 23) rfl)) (hw _ (List.mem_of_getElem? (i := 6) rfl)) (by decide) (by decide)) q3a q3c (g := (mkF m 36 #[.val (.int i0), .val (.int (0 : Int32)), .val (.ref w_BRANCH), .val (.int (0 : Int32)), .val (.int (0 : Int32)), .unset] [(.ref w_BRANCH)])) rfl (by rw [hml]; rfl) (Steps.refl _) (argsL := []) (rest := []) (lenOf pd_1 rfl) rfl (by show 2 * 0 + _ ≤ _; exact Nat.le_of_eq rfl) (hb hby at_36) (fun _ _ => ⟨rfl, e2, (by decide : 0 + 0 ≤ _), (by decide : 0 + 0 ≤ _)⟩)
  dsimp only [Pt.U, Pt.locs, Pt.cells, Pt.slots] at X3 l3 y3 z3 st3 hQ3
  subst l3 y3 z3
  obtain ⟨rfl, N3q, e3⟩ := hQ3
  have N3 := Fr.app N2 N3q
  obtain ⟨fs, hr, hrun, hended, hW, hsame⟩ := X3.leave (v := (some (.int (1 : Int32)))) (fun h => by rw [Bd.returns] at h; cases h)
  refine ⟨_, _, pre0 _ ?_, hrun, hended, _, _, rfl, ?_, ⟨_, rfl⟩, hW, hsame.mono (by decide) (by decide)⟩
  · show Steps p.tables e below (s₁.setTop (mkF m 0 #[.val (.int i0), .unset, .unset, .unset, .unset, .unset] [])) _
    refine XS.iloadN X0.here hx rfl (hb hby at_0) rfl ?_
    show Steps p.tables e below (s₁.setTop (mkF m 1 #[.val (.int i0), .unset, .unset, .unset, .unset, .unset] [(.int i0)])) _
    refine X0.ldcInt hx hown (mvT hZ (hw _ (List.mem_of_getElem? (i := 0) rfl))) (g := (mkF m 1 #[.val (.int i0), .unset, .unset, .unset, .unset, .unset] [(.int i0)])) rfl (hb hby at_1) _ ?_
    show Steps p.tables e below (s₁.setTop (mkF m 3 #[.val (.int i0), .unset, .unset, .unset, .unset, .unset] [(.int (2147483647 : Int32)), (.int i0)])) _
    refine XS.iand X0.here hx rfl (hb hby at_3) rfl ?_
    show Steps p.tables e below (s₁.setTop (mkF m 4 #[.val (.int i0), .unset, .unset, .unset, .unset, .unset] [(.int (i0 &&& (2147483647 : Int32)))])) _
    refine XS.bipush X0.here hx rfl (hb hby at_4) ?_
    show Steps p.tables e below (s₁.setTop (mkF m 6 #[.val (.int i0), .unset, .unset, .unset, .unset, .unset] [(.int (6 : Int32)), (.int (i0 &&& (2147483647 : Int32)))])) _
    refine iremM (g := (mkF m 6 #[.val (.int i0), .unset, .unset, .unset, .unset, .unset] [(.int (6 : Int32)), (.int (i0 &&& (2147483647 : Int32)))])) X0 hx rfl (hb hby at_6) rfl (by decide) ?_
    show Steps p.tables e below (s₁.setTop (mkF m 7 #[.val (.int i0), .unset, .unset, .unset, .unset, .unset] [(.int ((i0 &&& (2147483647 : Int32)) % (6 : Int32)))])) _
    rw [hv0]
    show Steps p.tables e below (s₁.setTop (mkF m 7 #[.val (.int i0), .unset, .unset, .unset, .unset, .unset] [(.int (0 : Int32))])) _
    refine XS.istoreN X0.here hx rfl (hb hby at_7) rfl (l' := #[.val (.int i0), .val (.int (0 : Int32)), .unset, .unset, .unset, .unset]) rfl ?_
    show Steps p.tables e below (s₁.setTop (mkF m 8 #[.val (.int i0), .val (.int (0 : Int32)), .unset, .unset, .unset, .unset] [])) _
    refine XS.iloadN X0.here hx rfl (hb hby at_8) rfl ?_
    show Steps p.tables e below (s₁.setTop (mkF m 9 #[.val (.int i0), .val (.int (0 : Int32)), .unset, .unset, .unset, .unset] [(.int (0 : Int32))])) _
    refine st1 _ ?_
    show Steps p.tables e below (T1.setTop (mkF m 12 #[.val (.int i0), .val (.int (0 : Int32)), .unset, .unset, .unset, .unset] [(.ref w_BRANCH)])) _
    refine XS.astoreN X1.here hx rfl (hb hby at_12) rfl rfl (l' := #[.val (.int i0), .val (.int (0 : Int32)), .val (.ref w_BRANCH), .unset, .unset, .unset]) rfl ?_
    show Steps p.tables e below (T1.setTop (mkF m 13 #[.val (.int i0), .val (.int (0 : Int32)), .val (.ref w_BRANCH), .unset, .unset, .unset] [])) _
    refine XS.iloadN X1.here hx rfl (hb hby at_13) rfl ?_
    show Steps p.tables e below (T1.setTop (mkF m 14 #[.val (.int i0), .val (.int (0 : Int32)), .val (.ref w_BRANCH), .unset, .unset, .unset] [(.int (0 : Int32))])) _
    refine XS.iconst X1.here hx rfl (hb hby at_14) ?_
    show Steps p.tables e below (T1.setTop (mkF m 15 #[.val (.int i0), .val (.int (0 : Int32)), .val (.ref w_BRANCH), .unset, .unset, .unset] [(.int (1 : Int32)), (.int (0 : Int32))])) _
    refine XS.icmpYes X1.here hx rfl (pc0 := 15) (pc' := 27) rfl (hb hby at_15) rfl (tlt (by decide +kernel : (0 : Int32) < (1 : Int32))).1 (by decide) (by decide) ?_
    show Steps p.tables e below (T1.setTop (mkF m 27 #[.val (.int i0), .val (.int (0 : Int32)), .val (.ref w_BRANCH), .unset, .unset, .unset] [])) _
    refine XS.iconst X1.here hx rfl (hb hby at_27) ?_
    show Steps p.tables e below (T1.setTop (mkF m 28 #[.val (.int i0), .val (.int (0 : Int32)), .val (.ref w_BRANCH), .unset, .unset, .unset] [(.int (0 : Int32))])) _
    refine XS.istoreN X1.here hx rfl (hb hby at_28) rfl (l' := #[.val (.int i0), .val (.int (0 : Int32)), .val (.ref w_BRANCH), .val (.int (0 : Int32)), .unset, .unset]) rfl ?_
    show Steps p.tables e below (T1.setTop (mkF m 29 #[.val (.int i0), .val (.int (0 : Int32)), .val (.ref w_BRANCH), .val (.int (0 : Int32)), .unset, .unset] [])) _
    refine XS.aloadN X1.here hx rfl (hb hby at_29) rfl rfl ?_
    show Steps p.tables e below (T1.setTop (mkF m 30 #[.val (.int i0), .val (.int (0 : Int32)), .val (.ref w_BRANCH), .val (.int (0 : Int32)), .unset, .unset] [(.ref w_BRANCH)])) _
    refine st2.trans ?_
    show Steps p.tables e below (T2.setTop (mkF m 33 #[.val (.int i0), .val (.int (0 : Int32)), .val (.ref w_BRANCH), .val (.int (0 : Int32)), .unset, .unset] [(.int (0 : Int32))])) _
    refine XS.istore X2.here hx rfl (hb hby at_33) rfl (l' := #[.val (.int i0), .val (.int (0 : Int32)), .val (.ref w_BRANCH), .val (.int (0 : Int32)), .val (.int (0 : Int32)), .unset]) rfl ?_
    show Steps p.tables e below (T2.setTop (mkF m 35 #[.val (.int i0), .val (.int (0 : Int32)), .val (.ref w_BRANCH), .val (.int (0 : Int32)), .val (.int (0 : Int32)), .unset] [])) _
    refine XS.aloadN X2.here hx rfl (hb hby at_35) rfl rfl ?_
    show Steps p.tables e below (T2.setTop (mkF m 36 #[.val (.int i0), .val (.int (0 : Int32)), .val (.ref w_BRANCH), .val (.int (0 : Int32)), .val (.int (0 : Int32)), .unset] [(.ref w_BRANCH)])) _
    refine st3.trans ?_
    show Steps p.tables e below (T3.setTop (mkF m 39 #[.val (.int i0), .val (.int (0 : Int32)), .val (.ref w_BRANCH), .val (.int (0 : Int32)), .val (.int (0 : Int32)), .unset] [(.int (1 : Int32))])) _
    refine XS.istore X3.here hx rfl (hb hby at_39) rfl (l' := #[.val (.int i0), .val (.int (0 : Int32)), .val (.ref w_BRANCH), .val (.int (0 : Int32)), .val (.int (0 : Int32)), .val (.int (1 : Int32))]) rfl ?_
    show Steps p.tables e below (T3.setTop (mkF m 41 #[.val (.int i0), .val (.int (0 : Int32)), .val (.ref w_BRANCH), .val (.int (0 : Int32)), .val (.int (0 : Int32)), .val (.int (1 : Int32))] [])) _
    refine XS.iload X3.here hx rfl (hb hby at_41) rfl ?_
    show Steps p.tables e below (T3.setTop (mkF m 43 #[.val (.int i0), .val (.int (0 : Int32)), .val (.ref w_BRANCH), .val (.int (0 : Int32)), .val (.int (0 : Int32)), .val (.int (1 : Int32))] [(.int (0 : Int32))])) _
    refine XS.iloadN X3.here hx rfl (hb hby at_43) rfl ?_
    show Steps p.tables e below (T3.setTop (mkF m 44 #[.val (.int i0), .val (.int (0 : Int32)), .val (.ref w_BRANCH), .val (.int (0 : Int32)), .val (.int (0 : Int32)), .val (.int (1 : Int32))] [(.int (0 : Int32)), (.int (0 : Int32))])) _
    refine XS.icmpNo X3.here hx rfl (hb hby at_44) rfl (teq (by decide +kernel : (0 : Int32) = (0 : Int32))).2 ?_
    show Steps p.tables e below (T3.setTop (mkF m 47 #[.val (.int i0), .val (.int (0 : Int32)), .val (.ref w_BRANCH), .val (.int (0 : Int32)), .val (.int (0 : Int32)), .val (.int (1 : Int32))] [])) _
    refine XS.iload X3.here hx rfl (hb hby at_47) rfl ?_
    show Steps p.tables e below (T3.setTop (mkF m 49 #[.val (.int i0), .val (.int (0 : Int32)), .val (.ref w_BRANCH), .val (.int (0 : Int32)), .val (.int (0 : Int32)), .val (.int (1 : Int32))] [(.int (0 : Int32))])) _
    refine XS.ifYes X3.here hx rfl (pc0 := 49) (pc' := 57) rfl (hb hby at_49) rfl ((if0 _ _).trans (teq (by decide +kernel : (0 : Int32) = (0 : Int32))).1) (by decide) (by decide) ?_
    show Steps p.tables e below (T3.setTop (mkF m 57 #[.val (.int i0), .val (.int (0 : Int32)), .val (.ref w_BRANCH), .val (.int (0 : Int32)), .val (.int (0 : Int32)), .val (.int (1 : Int32))] [])) _
    refine XS.iconst X3.here hx rfl (hb hby at_57) ?_
    show Steps p.tables e below (T3.setTop (mkF m 58 #[.val (.int i0), .val (.int (0 : Int32)), .val (.ref w_BRANCH), .val (.int (0 : Int32)), .val (.int (0 : Int32)), .val (.int (1 : Int32))] [(.int (1 : Int32))])) _
    refine XS.goto X3.here hx rfl (pc0 := 58) (pc' := 62) rfl (hb hby at_58) (by decide) (by decide) ?_
    show Steps p.tables e below (T3.setTop (mkF m 62 #[.val (.int i0), .val (.int (0 : Int32)), .val (.ref w_BRANCH), .val (.int (0 : Int32)), .val (.int (0 : Int32)), .val (.int (1 : Int32))] [(.int (1 : Int32))])) _
    exact retN X3 hx (t := .boolean) Bd.returns (by simp) (hb hby at_62) hr
  · exact ⟨rfl, N3, e3⟩
set_option maxRecDepth 65536 in
set_option maxHeartbeats 40000000 in
theorem rm1_1 (l : Launch) (Z : State) (a0 : Array Value) (hw : ∀ d ∈ tables_1, d.before a0 Z = true) (ws : List Jvm.Cond) (w_BRANCH w_SENSOR w_ACTUATOR w_ATTRIBUTE w_STRUCT w_PROPERTY : Addr) (h0 : Heap) (n0 : Nat) (Z0 : n0 ≤ h0.size) (C : Ctx Z h0 w_BRANCH w_SENSOR w_ACTUATOR w_ATTRIBUTE w_STRUCT w_PROPERTY)  :
    MetFree l (⟨"com/example/telemetree/telemetree/catalog/NodeTypeIsLeafPinLaw", "pick", "(I)Lcom/example/telemetree/telemetree/catalog/NodeType;"⟩ : MethodName) (head1 (Jvm.Cond.code (⟨"com/example/telemetree/telemetree/catalog/NodeTypeIsLeafPinLaw", "pick", "(I)Lcom/example/telemetree/telemetree/catalog/NodeType;"⟩ : MethodName) method_3_code 1 (some (.object "com/example/telemetree/telemetree/catalog/NodeType")) :: ws) ({ frames := 0, cells := 0, slots := 0, locals := 0 } : Room)) (fun a U => a = #[(.int (1 : Int32))] ∧ Z.Warmed39 U.vm ∧ U.heap = h0) (fun _ _ _ _ _ => True) (fun _ U o U' => ∃ v L, o = .returned v ∧ QR h0 n0 (some (.ref w_SENSOR)) v U'.heap L ∧ FrameEnd U o U' L ({ frames := 0, cells := 0, slots := 0, locals := 0 } : Room).cells ({ frames := 0, cells := 0, slots := 0, locals := 0 } : Room).slots) := by
  have S_SENSOR := C.2.2.2.1
  refine MetFree.of_bodySF (plainFor_of_name pn_1) hisR ?_
  intro p e s m args below meth c s₁ Bd hml0 hP hK
  obtain ⟨rfl, hZ, hh⟩ := hP
  have hx := Bd.exec
  have hby := Bd.bytes
  have hml : c.maxLocals = 1 := hml0
  have hown : s.vm.findClass "com/example/telemetree/telemetree/catalog/NodeTypeIsLeafPinLaw" = some m.cls := findClass_of_methodNamed Bd.named
  have hnm := (name_of_methodNamed Bd.named Bd.method).1
  have X0 : Stand p l e ({ frames := 0, cells := 0, slots := 0, locals := 0 } : Room) s m #[(.int (1 : Int32))] below meth c s₁ [] 0 0 := Stand.of_body Bd
  have e0 : s₁.heap = h0 := by rw [← hh, Bd.state]; rfl
  have N0 := Fr.nil n0
  have pre0 : ∀ t, Steps p.tables e below (s₁.setTop (mkF m 0 #[.val (.int (1 : Int32))] [])) t → Steps p.tables e below (s₁.setTop (entryFrame m #[(.int (1 : Int32))] 1)) t := fun t k => castTop (ef_1 m (1 : Int32)) k
  obtain ⟨T1, X1, e1, st1⟩ := getS2 X0 hx hZ hown (host := "") (Or.inl (hw _ (List.mem_of_getElem? (i := 29) rfl))) Via.refl e0 S_SENSOR (g := (mkF m 13 #[.val (.int (1 : Int32))] [])) rfl (hb hby d1_13)
  obtain ⟨fs, hr, hrun, hended, hW, hsame⟩ := X1.leave (v := (some (.ref w_SENSOR))) (fun h => by rw [Bd.returns] at h; cases h)
  refine ⟨_, _, pre0 _ ?_, hrun, hended, _, _, rfl, ?_, ⟨_, rfl⟩, hW, hsame.mono (by decide) (by decide)⟩
  · show Steps p.tables e below (s₁.setTop (mkF m 0 #[.val (.int (1 : Int32))] [])) _
    refine XS.iloadN X0.here hx rfl (hb hby d1_0) rfl ?_
    show Steps p.tables e below (s₁.setTop (mkF m 1 #[.val (.int (1 : Int32))] [(.int (1 : Int32))])) _
    refine XS.ifYes X0.here hx rfl (pc0 := 1) (pc' := 8) rfl (hb hby d1_1) rfl ((if0 _ _).trans (feq (by decide +kernel : ¬ ((1 : Int32) = (0 : Int32)))).2) (by decide) (by decide) ?_
    show Steps p.tables e below (s₁.setTop (mkF m 8 #[.val (.int (1 : Int32))] [])) _
    refine XS.iloadN X0.here hx rfl (hb hby d1_8) rfl ?_
    show Steps p.tables e below (s₁.setTop (mkF m 9 #[.val (.int (1 : Int32))] [(.int (1 : Int32))])) _
    refine XS.iconst X0.here hx rfl (hb hby d1_9) ?_
    show Steps p.tables e below (s₁.setTop (mkF m 10 #[.val (.int (1 : Int32))] [(.int (1 : Int32)), (.int (1 : Int32))])) _
    refine XS.icmpNo X0.here hx rfl (hb hby d1_10) rfl (teq (by decide +kernel : (1 : Int32) = (1 : Int32))).2 ?_
    show Steps p.tables e below (s₁.setTop (mkF m 13 #[.val (.int (1 : Int32))] [])) _
    refine st1 _ ?_
    show Steps p.tables e below (T1.setTop (mkF m 16 #[.val (.int (1 : Int32))] [(.ref w_SENSOR)])) _
    jvm_step X1.here [X1.here.top, hx, (hb hby d1_16), X1.method', Bd.returns, Value.isRef, FieldType.isReference]
    first | (intro acts; rw [hr _ acts rfl rfl rfl]) | rw [hr _ _ rfl rfl rfl]
    exact Steps.refl _
  · exact ⟨rfl, N0, e1⟩
set_option maxRecDepth 65536 in
set_option maxHeartbeats 40000000 in
theorem rm2_1 (l : Launch) (Z : State) (a0 : Array Value) (hw : ∀ d ∈ tables_1, d.before a0 Z = true) (ws : List Jvm.Cond) (w_BRANCH w_SENSOR w_ACTUATOR w_ATTRIBUTE w_STRUCT w_PROPERTY : Addr) (h0 : Heap) (n0 : Nat) (Z0 : n0 ≤ h0.size) (C : Ctx Z h0 w_BRANCH w_SENSOR w_ACTUATOR w_ATTRIBUTE w_STRUCT w_PROPERTY)  :
    MetFree l (⟨"com/example/telemetree/telemetree/catalog/NodeType", "isLeaf", "()Z"⟩ : MethodName) (head1 (Jvm.Cond.code (⟨"com/example/telemetree/telemetree/catalog/NodeType", "isLeaf", "()Z"⟩ : MethodName) prog_6_method_5_code 1 (some .boolean) :: ws) ({ frames := 0, cells := 0, slots := 0, locals := 0 } : Room)) (fun a U => a = #[(.ref w_SENSOR)] ∧ Z.Warmed39 U.vm ∧ U.heap = h0) (fun _ _ _ _ _ => True) (fun _ U o U' => ∃ v L, o = .returned v ∧ QR h0 n0 (some (.int (1 : Int32))) v U'.heap L ∧ FrameEnd U o U' L ({ frames := 0, cells := 0, slots := 0, locals := 0 } : Room).cells ({ frames := 0, cells := 0, slots := 0, locals := 0 } : Room).slots) := by
  have S_SENSOR := C.2.2.2.1
  refine MetFree.of_bodySF (plainFor_of_name pn_2) hisR ?_
  intro p e s m args below meth c s₁ Bd hml0 hP hK
  obtain ⟨rfl, hZ, hh⟩ := hP
  have hx := Bd.exec
  have hby := Bd.bytes
  have hml : c.maxLocals = 1 := hml0
  have hown : s.vm.findClass "com/example/telemetree/telemetree/catalog/NodeType" = some m.cls := findClass_of_methodNamed Bd.named
  have hnm := (name_of_methodNamed Bd.named Bd.method).1
  have X0 : Stand p l e ({ frames := 0, cells := 0, slots := 0, locals := 0 } : Room) s m #[(.ref w_SENSOR)] below meth c s₁ [] 0 0 := Stand.of_body Bd
  have e0 : s₁.heap = h0 := by rw [← hh, Bd.state]; rfl
  have N0 := Fr.nil n0
  have pre0 : ∀ t, Steps p.tables e below (s₁.setTop (mkF m 0 #[.val (.ref w_SENSOR)] [])) t → Steps p.tables e below (s₁.setTop (entryFrame m #[(.ref w_SENSOR)] 1)) t := fun t k => castTop (ef_2 m w_SENSOR) k
  obtain ⟨T1, X1, e1, st1⟩ := getS2 X0 hx hZ hown (host := "") (Or.inl (hw _ (List.mem_of_getElem? (i := 13) rfl))) Via.refl e0 S_SENSOR (g := (mkF m 1 #[.val (.ref w_SENSOR)] [(.ref w_SENSOR)])) rfl (hb hby d2_1)
  obtain ⟨fs, hr, hrun, hended, hW, hsame⟩ := X1.leave (v := (some (.int (1 : Int32)))) (fun h => by rw [Bd.returns] at h; cases h)
  refine ⟨_, _, pre0 _ ?_, hrun, hended, _, _, rfl, ?_, ⟨_, rfl⟩, hW, hsame.mono (by decide) (by decide)⟩
  · show Steps p.tables e below (s₁.setTop (mkF m 0 #[.val (.ref w_SENSOR)] [])) _
    refine XS.aloadN X0.here hx rfl (hb hby d2_0) rfl rfl ?_
    show Steps p.tables e below (s₁.setTop (mkF m 1 #[.val (.ref w_SENSOR)] [(.ref w_SENSOR)])) _
    refine st1 _ ?_
    show Steps p.tables e below (T1.setTop (mkF m 4 #[.val (.ref w_SENSOR)] [(.ref w_SENSOR), (.ref w_SENSOR)])) _
    refine Jvm.RoadKit.acmp (g := (mkF m 4 #[.val (.ref w_SENSOR)] [(.ref w_SENSOR), (.ref w_SENSOR)])) X1 hx rfl rfl rfl (pc0 := 4) (pc' := 21) (same := true) rfl (hb hby d2_4) rfl (decide_eq_true rfl) (by decide) (by decide) ?_
    show Steps p.tables e below (T1.setTop (mkF m 21 #[.val (.ref w_SENSOR)] [])) _
    refine XS.iconst X1.here hx rfl (hb hby d2_21) ?_
    show Steps p.tables e below (T1.setTop (mkF m 22 #[.val (.ref w_SENSOR)] [(.int (1 : Int32))])) _
    refine XS.goto X1.here hx rfl (pc0 := 22) (pc' := 26) rfl (hb hby d2_22) (by decide) (by decide) ?_
    show Steps p.tables e below (T1.setTop (mkF m 26 #[.val (.ref w_SENSOR)] [(.int (1 : Int32))])) _
    exact retN X1 hx (t := .boolean) Bd.returns (by simp) (hb hby d2_26) hr
  · exact ⟨rfl, N0, e1⟩
set_option maxRecDepth 65536 in
set_option maxHeartbeats 40000000 in
theorem rm3_1 (l : Launch) (Z : State) (a0 : Array Value) (hw : ∀ d ∈ tables_1, d.before a0 Z = true) (ws : List Jvm.Cond) (w_BRANCH w_SENSOR w_ACTUATOR w_ATTRIBUTE w_STRUCT w_PROPERTY : Addr) (h0 : Heap) (n0 : Nat) (Z0 : n0 ≤ h0.size) (C : Ctx Z h0 w_BRANCH w_SENSOR w_ACTUATOR w_ATTRIBUTE w_STRUCT w_PROPERTY)  :
    MetFree l (⟨"com/example/telemetree/telemetree/catalog/NodeType", "holdsNodes", "()Z"⟩ : MethodName) (head1 (Jvm.Cond.code (⟨"com/example/telemetree/telemetree/catalog/NodeType", "holdsNodes", "()Z"⟩ : MethodName) prog_6_method_6_code 1 (some .boolean) :: ws) ({ frames := 0, cells := 0, slots := 0, locals := 0 } : Room)) (fun a U => a = #[(.ref w_SENSOR)] ∧ Z.Warmed39 U.vm ∧ U.heap = h0) (fun _ _ _ _ _ => True) (fun _ U o U' => ∃ v L, o = .returned v ∧ QR h0 n0 (some (.int (0 : Int32))) v U'.heap L ∧ FrameEnd U o U' L ({ frames := 0, cells := 0, slots := 0, locals := 0 } : Room).cells ({ frames := 0, cells := 0, slots := 0, locals := 0 } : Room).slots) := by
  have S_BRANCH := C.1
  have F_BRANCH_ordinal := C.2.2.1
  have F_SENSOR_ordinal := C.2.2.2.2.2.1
  have S_STRUCT := C.2.2.2.2.2.2.2.2.2.2.2.2.1
  have F_STRUCT_ordinal := C.2.2.2.2.2.2.2.2.2.2.2.2.2.2.1
  refine MetFree.of_bodySF (plainFor_of_name pn_3) hisR ?_
  intro p e s m args below meth c s₁ Bd hml0 hP hK
  obtain ⟨rfl, hZ, hh⟩ := hP
  have hx := Bd.exec
  have hby := Bd.bytes
  have hml : c.maxLocals = 1 := hml0
  have hown : s.vm.findClass "com/example/telemetree/telemetree/catalog/NodeType" = some m.cls := findClass_of_methodNamed Bd.named
  have hnm := (name_of_methodNamed Bd.named Bd.method).1
  have X0 : Stand p l e ({ frames := 0, cells := 0, slots := 0, locals := 0 } : Room) s m #[(.ref w_SENSOR)] below meth c s₁ [] 0 0 := Stand.of_body Bd
  have e0 : s₁.heap = h0 := by rw [← hh, Bd.state]; rfl
  have N0 := Fr.nil n0
  have pre0 : ∀ t, Steps p.tables e below (s₁.setTop (mkF m 0 #[.val (.ref w_SENSOR)] [])) t → Steps p.tables e below (s₁.setTop (entryFrame m #[(.ref w_SENSOR)] 1)) t := fun t k => castTop (ef_3 m w_SENSOR) k
  obtain ⟨T1, X1, e1, st1⟩ := getS2 X0 hx hZ hown (host := "") (Or.inl (hw _ (List.mem_of_getElem? (i := 24) rfl))) Via.refl e0 S_BRANCH (g := (mkF m 1 #[.val (.ref w_SENSOR)] [(.ref w_SENSOR)])) rfl (hb hby d3_1)
  obtain ⟨T2, X2, e2, st2⟩ := getS2 X1 hx hZ hown (host := "") (Or.inl (hw _ (List.mem_of_getElem? (i := 26) rfl))) Via.refl e1 S_STRUCT (g := (mkF m 8 #[.val (.ref w_SENSOR)] [(.ref w_SENSOR)])) rfl (hb hby d3_8)
  obtain ⟨fs, hr, hrun, hended, hW, hsame⟩ := X2.leave (v := (some (.int (0 : Int32)))) (fun h => by rw [Bd.returns] at h; cases h)
  refine ⟨_, _, pre0 _ ?_, hrun, hended, _, _, rfl, ?_, ⟨_, rfl⟩, hW, hsame.mono (by decide) (by decide)⟩
  · show Steps p.tables e below (s₁.setTop (mkF m 0 #[.val (.ref w_SENSOR)] [])) _
    refine XS.aloadN X0.here hx rfl (hb hby d3_0) rfl rfl ?_
    show Steps p.tables e below (s₁.setTop (mkF m 1 #[.val (.ref w_SENSOR)] [(.ref w_SENSOR)])) _
    refine st1 _ ?_
    show Steps p.tables e below (T1.setTop (mkF m 4 #[.val (.ref w_SENSOR)] [(.ref w_BRANCH), (.ref w_SENSOR)])) _
    refine Jvm.RoadKit.acmp (g := (mkF m 4 #[.val (.ref w_SENSOR)] [(.ref w_BRANCH), (.ref w_SENSOR)])) X1 hx rfl rfl rfl (pc0 := 4) (pc' := 7) (same := false) rfl (hb hby d3_4) rfl (decide_eq_false fun q => (Fld.ne F_SENSOR_ordinal F_BRANCH_ordinal (by simp)) (Value.ref.inj q)) (by decide) (by decide) ?_
    show Steps p.tables e below (T1.setTop (mkF m 7 #[.val (.ref w_SENSOR)] [])) _
    refine XS.aloadN X1.here hx rfl (hb hby d3_7) rfl rfl ?_
    show Steps p.tables e below (T1.setTop (mkF m 8 #[.val (.ref w_SENSOR)] [(.ref w_SENSOR)])) _
    refine st2 _ ?_
    show Steps p.tables e below (T2.setTop (mkF m 11 #[.val (.ref w_SENSOR)] [(.ref w_STRUCT), (.ref w_SENSOR)])) _
    refine Jvm.RoadKit.acmp (g := (mkF m 11 #[.val (.ref w_SENSOR)] [(.ref w_STRUCT), (.ref w_SENSOR)])) X2 hx rfl rfl rfl (pc0 := 11) (pc' := 18) (same := false) rfl (hb hby d3_11) rfl (decide_eq_false fun q => (Fld.ne F_SENSOR_ordinal F_STRUCT_ordinal (by simp)) (Value.ref.inj q)) (by decide) (by decide) ?_
    show Steps p.tables e below (T2.setTop (mkF m 18 #[.val (.ref w_SENSOR)] [])) _
    refine XS.iconst X2.here hx rfl (hb hby d3_18) ?_
    show Steps p.tables e below (T2.setTop (mkF m 19 #[.val (.ref w_SENSOR)] [(.int (0 : Int32))])) _
    exact retN X2 hx (t := .boolean) Bd.returns (by simp) (hb hby d3_19) hr
  · exact ⟨rfl, N0, e2⟩
set_option maxRecDepth 65536 in
set_option maxHeartbeats 40000000 in
theorem rm0_1 (l : Launch) (Z : State) (a0 : Array Value) (hw : ∀ d ∈ tables_1, d.before a0 Z = true) (ws : List Jvm.Cond) (w_BRANCH w_SENSOR w_ACTUATOR w_ATTRIBUTE w_STRUCT w_PROPERTY : Addr) (i0 : Int32) (h0 : Heap) (n0 : Nat) (Z0 : n0 ≤ h0.size) (C : Ctx Z h0 w_BRANCH w_SENSOR w_ACTUATOR w_ATTRIBUTE w_STRUCT w_PROPERTY) (hv0 : ((i0 &&& (2147483647 : Int32)) % (6 : Int32)) = (1 : Int32)) :
    MetFree l x (head1 (Jvm.Cond.code x code maxLocals ret :: ws) room_1) (fun a U => a = #[(.int i0)] ∧ Z.Warmed39 U.vm ∧ U.heap = h0) (fun _ _ _ _ _ => True) (fun _ U o U' => ∃ v L, o = .returned v ∧ QR h0 n0 (some (.int (1 : Int32))) v U'.heap L ∧ FrameEnd U o U' L room_1.cells room_1.slots) := by
  have E_SENSOR := C.2.2.2.2.1
  refine MetFree.of_bodySF (plainFor_of_name pn_0) hisR ?_
  intro p e s m args below meth c s₁ Bd hml0 hP hK
  obtain ⟨rfl, hZ, hh⟩ := hP
  have hx := Bd.exec
  have hby := Bd.bytes
  have hml : c.maxLocals = 6 := hml0
  have hown : s.vm.findClass "com/example/telemetree/telemetree/catalog/NodeTypeIsLeafPinLaw" = some m.cls := findClass_of_methodNamed Bd.named
  have hnm := (name_of_methodNamed Bd.named Bd.method).1
  have X0 : Stand p l e room_1 s m #[(.int i0)] below meth c s₁ [] 0 0 := Stand.of_body Bd
  have e0 : s₁.heap = h0 := by rw [← hh, Bd.state]; rfl
  have N0 := Fr.nil n0
  have pre0 : ∀ t, Steps p.tables e below (s₁.setTop (mkF m 0 #[.val (.int i0), .unset, .unset, .unset, .unset, .unset] [])) t → Steps p.tables e below (s₁.setTop (entryFrame m #[(.int i0)] maxLocals)) t := fun t k => castTop (ef_0 m i0) k
  obtain ⟨_, _, ⟨T1, L1, k1, n1⟩, -, X1, ⟨Lc1, hQ1, l1, y1, z1⟩, st1⟩ := Jvm.LawKit.callS X0 hx (y := (⟨"com/example/telemetree/telemetree/catalog/NodeTypeIsLeafPinLaw", "pick", "(I)Lcom/example/telemetree/telemetree/catalog/NodeType;"⟩ : MethodName)) hown (mvT hZ (hw _ (List.mem_of_getElem? (i := 1) rfl))) (mvT hZ (hw _ (List.mem_of_getElem? (i := 2) rfl))) (mvT hZ (hw _ (List.mem_of_getElem? (i := 3) rfl))) (mvT hZ (hw _ (List.mem_of_getElem? (i := 4) rfl))) (by decide) (backOf (W := 0) (rm1_1 l Z a0 hw [] w_BRANCH w_SENSOR w_ACTUATOR w_ATTRIBUTE w_STRUCT w_PROPERTY  h0 n0 Z0 C ) hZ (hw _ (List.mem_of_getElem? (i := 4) rfl)) (hw _ (List.mem_of_getElem? (i := 3) rfl)) (by decide) (by decide)) (g := (mkF m 9 #[.val (.int i0), .val (.int (1 : Int32)), .unset, .unset, .unset, .unset] [(.int (1 : Int32))])) rfl (by rw [hml]; rfl) (argsL := [(.int (1 : Int32))]) (rest := []) (lenOf pd_0 rfl) rfl (by show 2 * 0 + _ ≤ _; exact Nat.le_of_eq rfl) (hb hby at_9) (fun _ _ => ⟨rfl, e0, (by decide : 0 + 0 ≤ _), (by decide : 0 + 0 ≤ _)⟩)
  dsimp only [Pt.U, Pt.locs, Pt.cells, Pt.slots] at X1 l1 y1 z1 st1 hQ1
  subst l1 y1 z1
  obtain ⟨rfl, N1q, e1⟩ := hQ1
  have N1 := Fr.app N0 N1q
  obtain ⟨cq2, kq2, q2a, q2b, q2c⟩ := isOf hZ e1 E_SENSOR
  obtain ⟨_, _, ⟨T2, L2, k2, n2⟩, -, X2, ⟨Lc2, hQ2, l2, y2, z2⟩, st2⟩ := X1.virtualBack hx (y := (⟨"com/example/telemetree/telemetree/catalog/NodeType", "isLeaf", "()Z"⟩ : MethodName)) (z := (⟨"com/example/telemetree/telemetree/catalog/NodeType", "isLeaf", "()Z"⟩ : MethodName)) hown (mvT hZ (hw _ (List.mem_of_getElem? (i := 8) rfl))) (mvT hZ (hw _ (List.mem_of_getElem? (i := 9) rfl))) (notFace_of_selects (args := #[]) (mvT hZ (hw _ (List.mem_of_getElem? (i := 11) rfl)))) (mvT hZ (hw _ (List.mem_of_getElem? (i := 11) rfl))) (mvT hZ (hw _ (List.mem_of_getElem? (i := 10) rfl))) (by decide) (backOf (W := 0) (rm2_1 l Z a0 hw [] w_BRANCH w_SENSOR w_ACTUATOR w_ATTRIBUTE w_STRUCT w_PROPERTY  h0 n0 Z0 C ) hZ (hw _ (List.mem_of_getElem? (i := 12) rfl)) (hw _ (List.mem_of_getElem? (i := 6) rfl)) (by decide) (by decide)) q2a q2c (g := (mkF m 30 #[.val (.int i0), .val (.int (1 : Int32)), .val (.ref w_SENSOR), .val (.int (1 : Int32)), .unset, .unset] [(.ref w_SENSOR)])) rfl (by rw [hml]; rfl) (Steps.refl _) (argsL := []) (rest := []) (lenOf pd_1 rfl) rfl (by show 2 * 0 + _ ≤ _; exact Nat.le_of_eq rfl) (hb hby at_30) (fun _ _ => ⟨rfl, e1, (by decide : 0 + 0 ≤ _), (by decide : 0 + 0 ≤ _)⟩)
  dsimp only [Pt.U, Pt.locs, Pt.cells, Pt.slots] at X2 l2 y2 z2 st2 hQ2
  subst l2 y2 z2
  obtain ⟨rfl, N2q, e2⟩ := hQ2
  have N2 := Fr.app N1 N2q
  obtain ⟨cq3, kq3, q3a, q3b, q3c⟩ := isOf hZ e2 E_SENSOR
  obtain ⟨_, _, ⟨T3, L3, k3, n3⟩, -, X3, ⟨Lc3, hQ3, l3, y3, z3⟩, st3⟩ := X2.virtualBack hx (y := (⟨"com/example/telemetree/telemetree/catalog/NodeType", "holdsNodes", "()Z"⟩ : MethodName)) (z := (⟨"com/example/telemetree/telemetree/catalog/NodeType", "holdsNodes", "()Z"⟩ : MethodName)) hown (mvT hZ (hw _ (List.mem_of_getElem? (i := 19) rfl))) (mvT hZ (hw _ (List.mem_of_getElem? (i := 20) rfl))) (notFace_of_selects (args := #[]) (mvT hZ (hw _ (List.mem_of_getElem? (i := 22) rfl)))) (mvT hZ (hw _ (List.mem_of_getElem? (i := 22) rfl))) (mvT hZ (hw _ (List.mem_of_getElem? (i := 21) rfl))) (by decide) (backOf (W := 0) (rm3_1 l Z a0 hw [] w_BRANCH w_SENSOR w_ACTUATOR w_ATTRIBUTE w_STRUCT w_PROPERTY  h0 n0 Z0 C ) hZ (hw _ (List.mem_of_getElem? (i := 23) rfl)) (hw _ (List.mem_of_getElem? (i := 6) rfl)) (by decide) (by decide)) q3a q3c (g := (mkF m 36 #[.val (.int i0), .val (.int (1 : Int32)), .val (.ref w_SENSOR), .val (.int (1 : Int32)), .val (.int (1 : Int32)), .unset] [(.ref w_SENSOR)])) rfl (by rw [hml]; rfl) (Steps.refl _) (argsL := []) (rest := []) (lenOf pd_1 rfl) rfl (by show 2 * 0 + _ ≤ _; exact Nat.le_of_eq rfl) (hb hby at_36) (fun _ _ => ⟨rfl, e2, (by decide : 0 + 0 ≤ _), (by decide : 0 + 0 ≤ _)⟩)
  dsimp only [Pt.U, Pt.locs, Pt.cells, Pt.slots] at X3 l3 y3 z3 st3 hQ3
  subst l3 y3 z3
  obtain ⟨rfl, N3q, e3⟩ := hQ3
  have N3 := Fr.app N2 N3q
  obtain ⟨fs, hr, hrun, hended, hW, hsame⟩ := X3.leave (v := (some (.int (1 : Int32)))) (fun h => by rw [Bd.returns] at h; cases h)
  refine ⟨_, _, pre0 _ ?_, hrun, hended, _, _, rfl, ?_, ⟨_, rfl⟩, hW, hsame.mono (by decide) (by decide)⟩
  · show Steps p.tables e below (s₁.setTop (mkF m 0 #[.val (.int i0), .unset, .unset, .unset, .unset, .unset] [])) _
    refine XS.iloadN X0.here hx rfl (hb hby at_0) rfl ?_
    show Steps p.tables e below (s₁.setTop (mkF m 1 #[.val (.int i0), .unset, .unset, .unset, .unset, .unset] [(.int i0)])) _
    refine X0.ldcInt hx hown (mvT hZ (hw _ (List.mem_of_getElem? (i := 0) rfl))) (g := (mkF m 1 #[.val (.int i0), .unset, .unset, .unset, .unset, .unset] [(.int i0)])) rfl (hb hby at_1) _ ?_
    show Steps p.tables e below (s₁.setTop (mkF m 3 #[.val (.int i0), .unset, .unset, .unset, .unset, .unset] [(.int (2147483647 : Int32)), (.int i0)])) _
    refine XS.iand X0.here hx rfl (hb hby at_3) rfl ?_
    show Steps p.tables e below (s₁.setTop (mkF m 4 #[.val (.int i0), .unset, .unset, .unset, .unset, .unset] [(.int (i0 &&& (2147483647 : Int32)))])) _
    refine XS.bipush X0.here hx rfl (hb hby at_4) ?_
    show Steps p.tables e below (s₁.setTop (mkF m 6 #[.val (.int i0), .unset, .unset, .unset, .unset, .unset] [(.int (6 : Int32)), (.int (i0 &&& (2147483647 : Int32)))])) _
    refine iremM (g := (mkF m 6 #[.val (.int i0), .unset, .unset, .unset, .unset, .unset] [(.int (6 : Int32)), (.int (i0 &&& (2147483647 : Int32)))])) X0 hx rfl (hb hby at_6) rfl (by decide) ?_
    show Steps p.tables e below (s₁.setTop (mkF m 7 #[.val (.int i0), .unset, .unset, .unset, .unset, .unset] [(.int ((i0 &&& (2147483647 : Int32)) % (6 : Int32)))])) _
    rw [hv0]
    show Steps p.tables e below (s₁.setTop (mkF m 7 #[.val (.int i0), .unset, .unset, .unset, .unset, .unset] [(.int (1 : Int32))])) _
    refine XS.istoreN X0.here hx rfl (hb hby at_7) rfl (l' := #[.val (.int i0), .val (.int (1 : Int32)), .unset, .unset, .unset, .unset]) rfl ?_
    show Steps p.tables e below (s₁.setTop (mkF m 8 #[.val (.int i0), .val (.int (1 : Int32)), .unset, .unset, .unset, .unset] [])) _
    refine XS.iloadN X0.here hx rfl (hb hby at_8) rfl ?_
    show Steps p.tables e below (s₁.setTop (mkF m 9 #[.val (.int i0), .val (.int (1 : Int32)), .unset, .unset, .unset, .unset] [(.int (1 : Int32))])) _
    refine st1 _ ?_
    show Steps p.tables e below (T1.setTop (mkF m 12 #[.val (.int i0), .val (.int (1 : Int32)), .unset, .unset, .unset, .unset] [(.ref w_SENSOR)])) _
    refine XS.astoreN X1.here hx rfl (hb hby at_12) rfl rfl (l' := #[.val (.int i0), .val (.int (1 : Int32)), .val (.ref w_SENSOR), .unset, .unset, .unset]) rfl ?_
    show Steps p.tables e below (T1.setTop (mkF m 13 #[.val (.int i0), .val (.int (1 : Int32)), .val (.ref w_SENSOR), .unset, .unset, .unset] [])) _
    refine XS.iloadN X1.here hx rfl (hb hby at_13) rfl ?_
    show Steps p.tables e below (T1.setTop (mkF m 14 #[.val (.int i0), .val (.int (1 : Int32)), .val (.ref w_SENSOR), .unset, .unset, .unset] [(.int (1 : Int32))])) _
    refine XS.iconst X1.here hx rfl (hb hby at_14) ?_
    show Steps p.tables e below (T1.setTop (mkF m 15 #[.val (.int i0), .val (.int (1 : Int32)), .val (.ref w_SENSOR), .unset, .unset, .unset] [(.int (1 : Int32)), (.int (1 : Int32))])) _
    refine XS.icmpNo X1.here hx rfl (hb hby at_15) rfl (flt (by decide +kernel : ¬ ((1 : Int32) < (1 : Int32)))).1 ?_
    show Steps p.tables e below (T1.setTop (mkF m 18 #[.val (.int i0), .val (.int (1 : Int32)), .val (.ref w_SENSOR), .unset, .unset, .unset] [])) _
    refine XS.iloadN X1.here hx rfl (hb hby at_18) rfl ?_
    show Steps p.tables e below (T1.setTop (mkF m 19 #[.val (.int i0), .val (.int (1 : Int32)), .val (.ref w_SENSOR), .unset, .unset, .unset] [(.int (1 : Int32))])) _
    refine XS.iconst X1.here hx rfl (hb hby at_19) ?_
    show Steps p.tables e below (T1.setTop (mkF m 20 #[.val (.int i0), .val (.int (1 : Int32)), .val (.ref w_SENSOR), .unset, .unset, .unset] [(.int (3 : Int32)), (.int (1 : Int32))])) _
    refine XS.icmpNo X1.here hx rfl (hb hby at_20) rfl (flt (by decide +kernel : ¬ ((3 : Int32) < (1 : Int32)))).2.2.1 ?_
    show Steps p.tables e below (T1.setTop (mkF m 23 #[.val (.int i0), .val (.int (1 : Int32)), .val (.ref w_SENSOR), .unset, .unset, .unset] [])) _
    refine XS.iconst X1.here hx rfl (hb hby at_23) ?_
    show Steps p.tables e below (T1.setTop (mkF m 24 #[.val (.int i0), .val (.int (1 : Int32)), .val (.ref w_SENSOR), .unset, .unset, .unset] [(.int (1 : Int32))])) _
    refine XS.goto X1.here hx rfl (pc0 := 24) (pc' := 28) rfl (hb hby at_24) (by decide) (by decide) ?_
    show Steps p.tables e below (T1.setTop (mkF m 28 #[.val (.int i0), .val (.int (1 : Int32)), .val (.ref w_SENSOR), .unset, .unset, .unset] [(.int (1 : Int32))])) _
    refine XS.istoreN X1.here hx rfl (hb hby at_28) rfl (l' := #[.val (.int i0), .val (.int (1 : Int32)), .val (.ref w_SENSOR), .val (.int (1 : Int32)), .unset, .unset]) rfl ?_
    show Steps p.tables e below (T1.setTop (mkF m 29 #[.val (.int i0), .val (.int (1 : Int32)), .val (.ref w_SENSOR), .val (.int (1 : Int32)), .unset, .unset] [])) _
    refine XS.aloadN X1.here hx rfl (hb hby at_29) rfl rfl ?_
    show Steps p.tables e below (T1.setTop (mkF m 30 #[.val (.int i0), .val (.int (1 : Int32)), .val (.ref w_SENSOR), .val (.int (1 : Int32)), .unset, .unset] [(.ref w_SENSOR)])) _
    refine st2.trans ?_
    show Steps p.tables e below (T2.setTop (mkF m 33 #[.val (.int i0), .val (.int (1 : Int32)), .val (.ref w_SENSOR), .val (.int (1 : Int32)), .unset, .unset] [(.int (1 : Int32))])) _
    refine XS.istore X2.here hx rfl (hb hby at_33) rfl (l' := #[.val (.int i0), .val (.int (1 : Int32)), .val (.ref w_SENSOR), .val (.int (1 : Int32)), .val (.int (1 : Int32)), .unset]) rfl ?_
    show Steps p.tables e below (T2.setTop (mkF m 35 #[.val (.int i0), .val (.int (1 : Int32)), .val (.ref w_SENSOR), .val (.int (1 : Int32)), .val (.int (1 : Int32)), .unset] [])) _
    refine XS.aloadN X2.here hx rfl (hb hby at_35) rfl rfl ?_
    show Steps p.tables e below (T2.setTop (mkF m 36 #[.val (.int i0), .val (.int (1 : Int32)), .val (.ref w_SENSOR), .val (.int (1 : Int32)), .val (.int (1 : Int32)), .unset] [(.ref w_SENSOR)])) _
    refine st3.trans ?_
    show Steps p.tables e below (T3.setTop (mkF m 39 #[.val (.int i0), .val (.int (1 : Int32)), .val (.ref w_SENSOR), .val (.int (1 : Int32)), .val (.int (1 : Int32)), .unset] [(.int (0 : Int32))])) _
    refine XS.istore X3.here hx rfl (hb hby at_39) rfl (l' := #[.val (.int i0), .val (.int (1 : Int32)), .val (.ref w_SENSOR), .val (.int (1 : Int32)), .val (.int (1 : Int32)), .val (.int (0 : Int32))]) rfl ?_
    show Steps p.tables e below (T3.setTop (mkF m 41 #[.val (.int i0), .val (.int (1 : Int32)), .val (.ref w_SENSOR), .val (.int (1 : Int32)), .val (.int (1 : Int32)), .val (.int (0 : Int32))] [])) _
    refine XS.iload X3.here hx rfl (hb hby at_41) rfl ?_
    show Steps p.tables e below (T3.setTop (mkF m 43 #[.val (.int i0), .val (.int (1 : Int32)), .val (.ref w_SENSOR), .val (.int (1 : Int32)), .val (.int (1 : Int32)), .val (.int (0 : Int32))] [(.int (1 : Int32))])) _
    refine XS.iloadN X3.here hx rfl (hb hby at_43) rfl ?_
    show Steps p.tables e below (T3.setTop (mkF m 44 #[.val (.int i0), .val (.int (1 : Int32)), .val (.ref w_SENSOR), .val (.int (1 : Int32)), .val (.int (1 : Int32)), .val (.int (0 : Int32))] [(.int (1 : Int32)), (.int (1 : Int32))])) _
    refine XS.icmpNo X3.here hx rfl (hb hby at_44) rfl (teq (by decide +kernel : (1 : Int32) = (1 : Int32))).2 ?_
    show Steps p.tables e below (T3.setTop (mkF m 47 #[.val (.int i0), .val (.int (1 : Int32)), .val (.ref w_SENSOR), .val (.int (1 : Int32)), .val (.int (1 : Int32)), .val (.int (0 : Int32))] [])) _
    refine XS.iload X3.here hx rfl (hb hby at_47) rfl ?_
    show Steps p.tables e below (T3.setTop (mkF m 49 #[.val (.int i0), .val (.int (1 : Int32)), .val (.ref w_SENSOR), .val (.int (1 : Int32)), .val (.int (1 : Int32)), .val (.int (0 : Int32))] [(.int (1 : Int32))])) _
    refine XS.ifNo X3.here hx rfl (hb hby at_49) rfl ((if0 _ _).trans (feq (by decide +kernel : ¬ ((1 : Int32) = (0 : Int32)))).1) ?_
    show Steps p.tables e below (T3.setTop (mkF m 52 #[.val (.int i0), .val (.int (1 : Int32)), .val (.ref w_SENSOR), .val (.int (1 : Int32)), .val (.int (1 : Int32)), .val (.int (0 : Int32))] [])) _
    refine XS.iload X3.here hx rfl (hb hby at_52) rfl ?_
    show Steps p.tables e below (T3.setTop (mkF m 54 #[.val (.int i0), .val (.int (1 : Int32)), .val (.ref w_SENSOR), .val (.int (1 : Int32)), .val (.int (1 : Int32)), .val (.int (0 : Int32))] [(.int (0 : Int32))])) _
    refine XS.ifNo X3.here hx rfl (hb hby at_54) rfl ((if0 _ _).trans (teq (by decide +kernel : (0 : Int32) = (0 : Int32))).2) ?_
    show Steps p.tables e below (T3.setTop (mkF m 57 #[.val (.int i0), .val (.int (1 : Int32)), .val (.ref w_SENSOR), .val (.int (1 : Int32)), .val (.int (1 : Int32)), .val (.int (0 : Int32))] [])) _
    refine XS.iconst X3.here hx rfl (hb hby at_57) ?_
    show Steps p.tables e below (T3.setTop (mkF m 58 #[.val (.int i0), .val (.int (1 : Int32)), .val (.ref w_SENSOR), .val (.int (1 : Int32)), .val (.int (1 : Int32)), .val (.int (0 : Int32))] [(.int (1 : Int32))])) _
    refine XS.goto X3.here hx rfl (pc0 := 58) (pc' := 62) rfl (hb hby at_58) (by decide) (by decide) ?_
    show Steps p.tables e below (T3.setTop (mkF m 62 #[.val (.int i0), .val (.int (1 : Int32)), .val (.ref w_SENSOR), .val (.int (1 : Int32)), .val (.int (1 : Int32)), .val (.int (0 : Int32))] [(.int (1 : Int32))])) _
    exact retN X3 hx (t := .boolean) Bd.returns (by simp) (hb hby at_62) hr
  · exact ⟨rfl, N3, e3⟩
set_option maxRecDepth 65536 in
set_option maxHeartbeats 40000000 in
theorem rm1_2 (l : Launch) (Z : State) (a0 : Array Value) (hw : ∀ d ∈ tables_1, d.before a0 Z = true) (ws : List Jvm.Cond) (w_BRANCH w_SENSOR w_ACTUATOR w_ATTRIBUTE w_STRUCT w_PROPERTY : Addr) (h0 : Heap) (n0 : Nat) (Z0 : n0 ≤ h0.size) (C : Ctx Z h0 w_BRANCH w_SENSOR w_ACTUATOR w_ATTRIBUTE w_STRUCT w_PROPERTY)  :
    MetFree l (⟨"com/example/telemetree/telemetree/catalog/NodeTypeIsLeafPinLaw", "pick", "(I)Lcom/example/telemetree/telemetree/catalog/NodeType;"⟩ : MethodName) (head1 (Jvm.Cond.code (⟨"com/example/telemetree/telemetree/catalog/NodeTypeIsLeafPinLaw", "pick", "(I)Lcom/example/telemetree/telemetree/catalog/NodeType;"⟩ : MethodName) method_3_code 1 (some (.object "com/example/telemetree/telemetree/catalog/NodeType")) :: ws) ({ frames := 0, cells := 0, slots := 0, locals := 0 } : Room)) (fun a U => a = #[(.int (2 : Int32))] ∧ Z.Warmed39 U.vm ∧ U.heap = h0) (fun _ _ _ _ _ => True) (fun _ U o U' => ∃ v L, o = .returned v ∧ QR h0 n0 (some (.ref w_ACTUATOR)) v U'.heap L ∧ FrameEnd U o U' L ({ frames := 0, cells := 0, slots := 0, locals := 0 } : Room).cells ({ frames := 0, cells := 0, slots := 0, locals := 0 } : Room).slots) := by
  have S_ACTUATOR := C.2.2.2.2.2.2.1
  refine MetFree.of_bodySF (plainFor_of_name pn_1) hisR ?_
  intro p e s m args below meth c s₁ Bd hml0 hP hK
  obtain ⟨rfl, hZ, hh⟩ := hP
  have hx := Bd.exec
  have hby := Bd.bytes
  have hml : c.maxLocals = 1 := hml0
  have hown : s.vm.findClass "com/example/telemetree/telemetree/catalog/NodeTypeIsLeafPinLaw" = some m.cls := findClass_of_methodNamed Bd.named
  have hnm := (name_of_methodNamed Bd.named Bd.method).1
  have X0 : Stand p l e ({ frames := 0, cells := 0, slots := 0, locals := 0 } : Room) s m #[(.int (2 : Int32))] below meth c s₁ [] 0 0 := Stand.of_body Bd
  have e0 : s₁.heap = h0 := by rw [← hh, Bd.state]; rfl
  have N0 := Fr.nil n0
  have pre0 : ∀ t, Steps p.tables e below (s₁.setTop (mkF m 0 #[.val (.int (2 : Int32))] [])) t → Steps p.tables e below (s₁.setTop (entryFrame m #[(.int (2 : Int32))] 1)) t := fun t k => castTop (ef_1 m (2 : Int32)) k
  obtain ⟨T1, X1, e1, st1⟩ := getS2 X0 hx hZ hown (host := "") (Or.inl (hw _ (List.mem_of_getElem? (i := 28) rfl))) Via.refl e0 S_ACTUATOR (g := (mkF m 22 #[.val (.int (2 : Int32))] [])) rfl (hb hby d1_22)
  obtain ⟨fs, hr, hrun, hended, hW, hsame⟩ := X1.leave (v := (some (.ref w_ACTUATOR))) (fun h => by rw [Bd.returns] at h; cases h)
  refine ⟨_, _, pre0 _ ?_, hrun, hended, _, _, rfl, ?_, ⟨_, rfl⟩, hW, hsame.mono (by decide) (by decide)⟩
  · show Steps p.tables e below (s₁.setTop (mkF m 0 #[.val (.int (2 : Int32))] [])) _
    refine XS.iloadN X0.here hx rfl (hb hby d1_0) rfl ?_
    show Steps p.tables e below (s₁.setTop (mkF m 1 #[.val (.int (2 : Int32))] [(.int (2 : Int32))])) _
    refine XS.ifYes X0.here hx rfl (pc0 := 1) (pc' := 8) rfl (hb hby d1_1) rfl ((if0 _ _).trans (feq (by decide +kernel : ¬ ((2 : Int32) = (0 : Int32)))).2) (by decide) (by decide) ?_
    show Steps p.tables e below (s₁.setTop (mkF m 8 #[.val (.int (2 : Int32))] [])) _
    refine XS.iloadN X0.here hx rfl (hb hby d1_8) rfl ?_
    show Steps p.tables e below (s₁.setTop (mkF m 9 #[.val (.int (2 : Int32))] [(.int (2 : Int32))])) _
    refine XS.iconst X0.here hx rfl (hb hby d1_9) ?_
    show Steps p.tables e below (s₁.setTop (mkF m 10 #[.val (.int (2 : Int32))] [(.int (1 : Int32)), (.int (2 : Int32))])) _
    refine XS.icmpYes X0.here hx rfl (pc0 := 10) (pc' := 17) rfl (hb hby d1_10) rfl (feq (by decide +kernel : ¬ ((2 : Int32) = (1 : Int32)))).2 (by decide) (by decide) ?_
    show Steps p.tables e below (s₁.setTop (mkF m 17 #[.val (.int (2 : Int32))] [])) _
    refine XS.iloadN X0.here hx rfl (hb hby d1_17) rfl ?_
    show Steps p.tables e below (s₁.setTop (mkF m 18 #[.val (.int (2 : Int32))] [(.int (2 : Int32))])) _
    refine XS.iconst X0.here hx rfl (hb hby d1_18) ?_
    show Steps p.tables e below (s₁.setTop (mkF m 19 #[.val (.int (2 : Int32))] [(.int (2 : Int32)), (.int (2 : Int32))])) _
    refine XS.icmpNo X0.here hx rfl (hb hby d1_19) rfl (teq (by decide +kernel : (2 : Int32) = (2 : Int32))).2 ?_
    show Steps p.tables e below (s₁.setTop (mkF m 22 #[.val (.int (2 : Int32))] [])) _
    refine st1 _ ?_
    show Steps p.tables e below (T1.setTop (mkF m 25 #[.val (.int (2 : Int32))] [(.ref w_ACTUATOR)])) _
    jvm_step X1.here [X1.here.top, hx, (hb hby d1_25), X1.method', Bd.returns, Value.isRef, FieldType.isReference]
    first | (intro acts; rw [hr _ acts rfl rfl rfl]) | rw [hr _ _ rfl rfl rfl]
    exact Steps.refl _
  · exact ⟨rfl, N0, e1⟩
set_option maxRecDepth 65536 in
set_option maxHeartbeats 40000000 in
theorem rm2_2 (l : Launch) (Z : State) (a0 : Array Value) (hw : ∀ d ∈ tables_1, d.before a0 Z = true) (ws : List Jvm.Cond) (w_BRANCH w_SENSOR w_ACTUATOR w_ATTRIBUTE w_STRUCT w_PROPERTY : Addr) (h0 : Heap) (n0 : Nat) (Z0 : n0 ≤ h0.size) (C : Ctx Z h0 w_BRANCH w_SENSOR w_ACTUATOR w_ATTRIBUTE w_STRUCT w_PROPERTY)  :
    MetFree l (⟨"com/example/telemetree/telemetree/catalog/NodeType", "isLeaf", "()Z"⟩ : MethodName) (head1 (Jvm.Cond.code (⟨"com/example/telemetree/telemetree/catalog/NodeType", "isLeaf", "()Z"⟩ : MethodName) prog_6_method_5_code 1 (some .boolean) :: ws) ({ frames := 0, cells := 0, slots := 0, locals := 0 } : Room)) (fun a U => a = #[(.ref w_ACTUATOR)] ∧ Z.Warmed39 U.vm ∧ U.heap = h0) (fun _ _ _ _ _ => True) (fun _ U o U' => ∃ v L, o = .returned v ∧ QR h0 n0 (some (.int (1 : Int32))) v U'.heap L ∧ FrameEnd U o U' L ({ frames := 0, cells := 0, slots := 0, locals := 0 } : Room).cells ({ frames := 0, cells := 0, slots := 0, locals := 0 } : Room).slots) := by
  have S_SENSOR := C.2.2.2.1
  have F_SENSOR_ordinal := C.2.2.2.2.2.1
  have S_ACTUATOR := C.2.2.2.2.2.2.1
  have F_ACTUATOR_ordinal := C.2.2.2.2.2.2.2.2.1
  refine MetFree.of_bodySF (plainFor_of_name pn_2) hisR ?_
  intro p e s m args below meth c s₁ Bd hml0 hP hK
  obtain ⟨rfl, hZ, hh⟩ := hP
  have hx := Bd.exec
  have hby := Bd.bytes
  have hml : c.maxLocals = 1 := hml0
  have hown : s.vm.findClass "com/example/telemetree/telemetree/catalog/NodeType" = some m.cls := findClass_of_methodNamed Bd.named
  have hnm := (name_of_methodNamed Bd.named Bd.method).1
  have X0 : Stand p l e ({ frames := 0, cells := 0, slots := 0, locals := 0 } : Room) s m #[(.ref w_ACTUATOR)] below meth c s₁ [] 0 0 := Stand.of_body Bd
  have e0 : s₁.heap = h0 := by rw [← hh, Bd.state]; rfl
  have N0 := Fr.nil n0
  have pre0 : ∀ t, Steps p.tables e below (s₁.setTop (mkF m 0 #[.val (.ref w_ACTUATOR)] [])) t → Steps p.tables e below (s₁.setTop (entryFrame m #[(.ref w_ACTUATOR)] 1)) t := fun t k => castTop (ef_2 m w_ACTUATOR) k
  obtain ⟨T1, X1, e1, st1⟩ := getS2 X0 hx hZ hown (host := "") (Or.inl (hw _ (List.mem_of_getElem? (i := 13) rfl))) Via.refl e0 S_SENSOR (g := (mkF m 1 #[.val (.ref w_ACTUATOR)] [(.ref w_ACTUATOR)])) rfl (hb hby d2_1)
  obtain ⟨T2, X2, e2, st2⟩ := getS2 X1 hx hZ hown (host := "") (Or.inl (hw _ (List.mem_of_getElem? (i := 15) rfl))) Via.refl e1 S_ACTUATOR (g := (mkF m 8 #[.val (.ref w_ACTUATOR)] [(.ref w_ACTUATOR)])) rfl (hb hby d2_8)
  obtain ⟨fs, hr, hrun, hended, hW, hsame⟩ := X2.leave (v := (some (.int (1 : Int32)))) (fun h => by rw [Bd.returns] at h; cases h)
  refine ⟨_, _, pre0 _ ?_, hrun, hended, _, _, rfl, ?_, ⟨_, rfl⟩, hW, hsame.mono (by decide) (by decide)⟩
  · show Steps p.tables e below (s₁.setTop (mkF m 0 #[.val (.ref w_ACTUATOR)] [])) _
    refine XS.aloadN X0.here hx rfl (hb hby d2_0) rfl rfl ?_
    show Steps p.tables e below (s₁.setTop (mkF m 1 #[.val (.ref w_ACTUATOR)] [(.ref w_ACTUATOR)])) _
    refine st1 _ ?_
    show Steps p.tables e below (T1.setTop (mkF m 4 #[.val (.ref w_ACTUATOR)] [(.ref w_SENSOR), (.ref w_ACTUATOR)])) _
    refine Jvm.RoadKit.acmp (g := (mkF m 4 #[.val (.ref w_ACTUATOR)] [(.ref w_SENSOR), (.ref w_ACTUATOR)])) X1 hx rfl rfl rfl (pc0 := 4) (pc' := 7) (same := false) rfl (hb hby d2_4) rfl (decide_eq_false fun q => (Fld.ne F_ACTUATOR_ordinal F_SENSOR_ordinal (by simp)) (Value.ref.inj q)) (by decide) (by decide) ?_
    show Steps p.tables e below (T1.setTop (mkF m 7 #[.val (.ref w_ACTUATOR)] [])) _
    refine XS.aloadN X1.here hx rfl (hb hby d2_7) rfl rfl ?_
    show Steps p.tables e below (T1.setTop (mkF m 8 #[.val (.ref w_ACTUATOR)] [(.ref w_ACTUATOR)])) _
    refine st2 _ ?_
    show Steps p.tables e below (T2.setTop (mkF m 11 #[.val (.ref w_ACTUATOR)] [(.ref w_ACTUATOR), (.ref w_ACTUATOR)])) _
    refine Jvm.RoadKit.acmp (g := (mkF m 11 #[.val (.ref w_ACTUATOR)] [(.ref w_ACTUATOR), (.ref w_ACTUATOR)])) X2 hx rfl rfl rfl (pc0 := 11) (pc' := 21) (same := true) rfl (hb hby d2_11) rfl (decide_eq_true rfl) (by decide) (by decide) ?_
    show Steps p.tables e below (T2.setTop (mkF m 21 #[.val (.ref w_ACTUATOR)] [])) _
    refine XS.iconst X2.here hx rfl (hb hby d2_21) ?_
    show Steps p.tables e below (T2.setTop (mkF m 22 #[.val (.ref w_ACTUATOR)] [(.int (1 : Int32))])) _
    refine XS.goto X2.here hx rfl (pc0 := 22) (pc' := 26) rfl (hb hby d2_22) (by decide) (by decide) ?_
    show Steps p.tables e below (T2.setTop (mkF m 26 #[.val (.ref w_ACTUATOR)] [(.int (1 : Int32))])) _
    exact retN X2 hx (t := .boolean) Bd.returns (by simp) (hb hby d2_26) hr
  · exact ⟨rfl, N0, e2⟩
set_option maxRecDepth 65536 in
set_option maxHeartbeats 40000000 in
theorem rm3_2 (l : Launch) (Z : State) (a0 : Array Value) (hw : ∀ d ∈ tables_1, d.before a0 Z = true) (ws : List Jvm.Cond) (w_BRANCH w_SENSOR w_ACTUATOR w_ATTRIBUTE w_STRUCT w_PROPERTY : Addr) (h0 : Heap) (n0 : Nat) (Z0 : n0 ≤ h0.size) (C : Ctx Z h0 w_BRANCH w_SENSOR w_ACTUATOR w_ATTRIBUTE w_STRUCT w_PROPERTY)  :
    MetFree l (⟨"com/example/telemetree/telemetree/catalog/NodeType", "holdsNodes", "()Z"⟩ : MethodName) (head1 (Jvm.Cond.code (⟨"com/example/telemetree/telemetree/catalog/NodeType", "holdsNodes", "()Z"⟩ : MethodName) prog_6_method_6_code 1 (some .boolean) :: ws) ({ frames := 0, cells := 0, slots := 0, locals := 0 } : Room)) (fun a U => a = #[(.ref w_ACTUATOR)] ∧ Z.Warmed39 U.vm ∧ U.heap = h0) (fun _ _ _ _ _ => True) (fun _ U o U' => ∃ v L, o = .returned v ∧ QR h0 n0 (some (.int (0 : Int32))) v U'.heap L ∧ FrameEnd U o U' L ({ frames := 0, cells := 0, slots := 0, locals := 0 } : Room).cells ({ frames := 0, cells := 0, slots := 0, locals := 0 } : Room).slots) := by
  have S_BRANCH := C.1
  have F_BRANCH_ordinal := C.2.2.1
  have F_ACTUATOR_ordinal := C.2.2.2.2.2.2.2.2.1
  have S_STRUCT := C.2.2.2.2.2.2.2.2.2.2.2.2.1
  have F_STRUCT_ordinal := C.2.2.2.2.2.2.2.2.2.2.2.2.2.2.1
  refine MetFree.of_bodySF (plainFor_of_name pn_3) hisR ?_
  intro p e s m args below meth c s₁ Bd hml0 hP hK
  obtain ⟨rfl, hZ, hh⟩ := hP
  have hx := Bd.exec
  have hby := Bd.bytes
  have hml : c.maxLocals = 1 := hml0
  have hown : s.vm.findClass "com/example/telemetree/telemetree/catalog/NodeType" = some m.cls := findClass_of_methodNamed Bd.named
  have hnm := (name_of_methodNamed Bd.named Bd.method).1
  have X0 : Stand p l e ({ frames := 0, cells := 0, slots := 0, locals := 0 } : Room) s m #[(.ref w_ACTUATOR)] below meth c s₁ [] 0 0 := Stand.of_body Bd
  have e0 : s₁.heap = h0 := by rw [← hh, Bd.state]; rfl
  have N0 := Fr.nil n0
  have pre0 : ∀ t, Steps p.tables e below (s₁.setTop (mkF m 0 #[.val (.ref w_ACTUATOR)] [])) t → Steps p.tables e below (s₁.setTop (entryFrame m #[(.ref w_ACTUATOR)] 1)) t := fun t k => castTop (ef_3 m w_ACTUATOR) k
  obtain ⟨T1, X1, e1, st1⟩ := getS2 X0 hx hZ hown (host := "") (Or.inl (hw _ (List.mem_of_getElem? (i := 24) rfl))) Via.refl e0 S_BRANCH (g := (mkF m 1 #[.val (.ref w_ACTUATOR)] [(.ref w_ACTUATOR)])) rfl (hb hby d3_1)
  obtain ⟨T2, X2, e2, st2⟩ := getS2 X1 hx hZ hown (host := "") (Or.inl (hw _ (List.mem_of_getElem? (i := 26) rfl))) Via.refl e1 S_STRUCT (g := (mkF m 8 #[.val (.ref w_ACTUATOR)] [(.ref w_ACTUATOR)])) rfl (hb hby d3_8)
  obtain ⟨fs, hr, hrun, hended, hW, hsame⟩ := X2.leave (v := (some (.int (0 : Int32)))) (fun h => by rw [Bd.returns] at h; cases h)
  refine ⟨_, _, pre0 _ ?_, hrun, hended, _, _, rfl, ?_, ⟨_, rfl⟩, hW, hsame.mono (by decide) (by decide)⟩
  · show Steps p.tables e below (s₁.setTop (mkF m 0 #[.val (.ref w_ACTUATOR)] [])) _
    refine XS.aloadN X0.here hx rfl (hb hby d3_0) rfl rfl ?_
    show Steps p.tables e below (s₁.setTop (mkF m 1 #[.val (.ref w_ACTUATOR)] [(.ref w_ACTUATOR)])) _
    refine st1 _ ?_
    show Steps p.tables e below (T1.setTop (mkF m 4 #[.val (.ref w_ACTUATOR)] [(.ref w_BRANCH), (.ref w_ACTUATOR)])) _
    refine Jvm.RoadKit.acmp (g := (mkF m 4 #[.val (.ref w_ACTUATOR)] [(.ref w_BRANCH), (.ref w_ACTUATOR)])) X1 hx rfl rfl rfl (pc0 := 4) (pc' := 7) (same := false) rfl (hb hby d3_4) rfl (decide_eq_false fun q => (Fld.ne F_ACTUATOR_ordinal F_BRANCH_ordinal (by simp)) (Value.ref.inj q)) (by decide) (by decide) ?_
    show Steps p.tables e below (T1.setTop (mkF m 7 #[.val (.ref w_ACTUATOR)] [])) _
    refine XS.aloadN X1.here hx rfl (hb hby d3_7) rfl rfl ?_
    show Steps p.tables e below (T1.setTop (mkF m 8 #[.val (.ref w_ACTUATOR)] [(.ref w_ACTUATOR)])) _
    refine st2 _ ?_
    show Steps p.tables e below (T2.setTop (mkF m 11 #[.val (.ref w_ACTUATOR)] [(.ref w_STRUCT), (.ref w_ACTUATOR)])) _
    refine Jvm.RoadKit.acmp (g := (mkF m 11 #[.val (.ref w_ACTUATOR)] [(.ref w_STRUCT), (.ref w_ACTUATOR)])) X2 hx rfl rfl rfl (pc0 := 11) (pc' := 18) (same := false) rfl (hb hby d3_11) rfl (decide_eq_false fun q => (Fld.ne F_ACTUATOR_ordinal F_STRUCT_ordinal (by simp)) (Value.ref.inj q)) (by decide) (by decide) ?_
    show Steps p.tables e below (T2.setTop (mkF m 18 #[.val (.ref w_ACTUATOR)] [])) _
    refine XS.iconst X2.here hx rfl (hb hby d3_18) ?_
    show Steps p.tables e below (T2.setTop (mkF m 19 #[.val (.ref w_ACTUATOR)] [(.int (0 : Int32))])) _
    exact retN X2 hx (t := .boolean) Bd.returns (by simp) (hb hby d3_19) hr
  · exact ⟨rfl, N0, e2⟩
set_option maxRecDepth 65536 in
set_option maxHeartbeats 40000000 in
theorem rm0_2 (l : Launch) (Z : State) (a0 : Array Value) (hw : ∀ d ∈ tables_1, d.before a0 Z = true) (ws : List Jvm.Cond) (w_BRANCH w_SENSOR w_ACTUATOR w_ATTRIBUTE w_STRUCT w_PROPERTY : Addr) (i0 : Int32) (h0 : Heap) (n0 : Nat) (Z0 : n0 ≤ h0.size) (C : Ctx Z h0 w_BRANCH w_SENSOR w_ACTUATOR w_ATTRIBUTE w_STRUCT w_PROPERTY) (hv0 : ((i0 &&& (2147483647 : Int32)) % (6 : Int32)) = (2 : Int32)) :
    MetFree l x (head1 (Jvm.Cond.code x code maxLocals ret :: ws) room_1) (fun a U => a = #[(.int i0)] ∧ Z.Warmed39 U.vm ∧ U.heap = h0) (fun _ _ _ _ _ => True) (fun _ U o U' => ∃ v L, o = .returned v ∧ QR h0 n0 (some (.int (1 : Int32))) v U'.heap L ∧ FrameEnd U o U' L room_1.cells room_1.slots) := by
  have E_ACTUATOR := C.2.2.2.2.2.2.2.1
  refine MetFree.of_bodySF (plainFor_of_name pn_0) hisR ?_
  intro p e s m args below meth c s₁ Bd hml0 hP hK
  obtain ⟨rfl, hZ, hh⟩ := hP
  have hx := Bd.exec
  have hby := Bd.bytes
  have hml : c.maxLocals = 6 := hml0
  have hown : s.vm.findClass "com/example/telemetree/telemetree/catalog/NodeTypeIsLeafPinLaw" = some m.cls := findClass_of_methodNamed Bd.named
  have hnm := (name_of_methodNamed Bd.named Bd.method).1
  have X0 : Stand p l e room_1 s m #[(.int i0)] below meth c s₁ [] 0 0 := Stand.of_body Bd
  have e0 : s₁.heap = h0 := by rw [← hh, Bd.state]; rfl
  have N0 := Fr.nil n0
  have pre0 : ∀ t, Steps p.tables e below (s₁.setTop (mkF m 0 #[.val (.int i0), .unset, .unset, .unset, .unset, .unset] [])) t → Steps p.tables e below (s₁.setTop (entryFrame m #[(.int i0)] maxLocals)) t := fun t k => castTop (ef_0 m i0) k
  obtain ⟨_, _, ⟨T1, L1, k1, n1⟩, -, X1, ⟨Lc1, hQ1, l1, y1, z1⟩, st1⟩ := Jvm.LawKit.callS X0 hx (y := (⟨"com/example/telemetree/telemetree/catalog/NodeTypeIsLeafPinLaw", "pick", "(I)Lcom/example/telemetree/telemetree/catalog/NodeType;"⟩ : MethodName)) hown (mvT hZ (hw _ (List.mem_of_getElem? (i := 1) rfl))) (mvT hZ (hw _ (List.mem_of_getElem? (i := 2) rfl))) (mvT hZ (hw _ (List.mem_of_getElem? (i := 3) rfl))) (mvT hZ (hw _ (List.mem_of_getElem? (i := 4) rfl))) (by decide) (backOf (W := 0) (rm1_2 l Z a0 hw [] w_BRANCH w_SENSOR w_ACTUATOR w_ATTRIBUTE w_STRUCT w_PROPERTY  h0 n0 Z0 C ) hZ (hw _ (List.mem_of_getElem? (i := 4) rfl)) (hw _ (List.mem_of_getElem? (i := 3) rfl)) (by decide) (by decide)) (g := (mkF m 9 #[.val (.int i0), .val (.int (2 : Int32)), .unset, .unset, .unset, .unset] [(.int (2 : Int32))])) rfl (by rw [hml]; rfl) (argsL := [(.int (2 : Int32))]) (rest := []) (lenOf pd_0 rfl) rfl (by show 2 * 0 + _ ≤ _; exact Nat.le_of_eq rfl) (hb hby at_9) (fun _ _ => ⟨rfl, e0, (by decide : 0 + 0 ≤ _), (by decide : 0 + 0 ≤ _)⟩)
  dsimp only [Pt.U, Pt.locs, Pt.cells, Pt.slots] at X1 l1 y1 z1 st1 hQ1
  subst l1 y1 z1
  obtain ⟨rfl, N1q, e1⟩ := hQ1
  have N1 := Fr.app N0 N1q
  obtain ⟨cq2, kq2, q2a, q2b, q2c⟩ := isOf hZ e1 E_ACTUATOR
  obtain ⟨_, _, ⟨T2, L2, k2, n2⟩, -, X2, ⟨Lc2, hQ2, l2, y2, z2⟩, st2⟩ := X1.virtualBack hx (y := (⟨"com/example/telemetree/telemetree/catalog/NodeType", "isLeaf", "()Z"⟩ : MethodName)) (z := (⟨"com/example/telemetree/telemetree/catalog/NodeType", "isLeaf", "()Z"⟩ : MethodName)) hown (mvT hZ (hw _ (List.mem_of_getElem? (i := 8) rfl))) (mvT hZ (hw _ (List.mem_of_getElem? (i := 9) rfl))) (notFace_of_selects (args := #[]) (mvT hZ (hw _ (List.mem_of_getElem? (i := 11) rfl)))) (mvT hZ (hw _ (List.mem_of_getElem? (i := 11) rfl))) (mvT hZ (hw _ (List.mem_of_getElem? (i := 10) rfl))) (by decide) (backOf (W := 0) (rm2_2 l Z a0 hw [] w_BRANCH w_SENSOR w_ACTUATOR w_ATTRIBUTE w_STRUCT w_PROPERTY  h0 n0 Z0 C ) hZ (hw _ (List.mem_of_getElem? (i := 12) rfl)) (hw _ (List.mem_of_getElem? (i := 6) rfl)) (by decide) (by decide)) q2a q2c (g := (mkF m 30 #[.val (.int i0), .val (.int (2 : Int32)), .val (.ref w_ACTUATOR), .val (.int (1 : Int32)), .unset, .unset] [(.ref w_ACTUATOR)])) rfl (by rw [hml]; rfl) (Steps.refl _) (argsL := []) (rest := []) (lenOf pd_1 rfl) rfl (by show 2 * 0 + _ ≤ _; exact Nat.le_of_eq rfl) (hb hby at_30) (fun _ _ => ⟨rfl, e1, (by decide : 0 + 0 ≤ _), (by decide : 0 + 0 ≤ _)⟩)
  dsimp only [Pt.U, Pt.locs, Pt.cells, Pt.slots] at X2 l2 y2 z2 st2 hQ2
  subst l2 y2 z2
  obtain ⟨rfl, N2q, e2⟩ := hQ2
  have N2 := Fr.app N1 N2q
  obtain ⟨cq3, kq3, q3a, q3b, q3c⟩ := isOf hZ e2 E_ACTUATOR
  obtain ⟨_, _, ⟨T3, L3, k3, n3⟩, -, X3, ⟨Lc3, hQ3, l3, y3, z3⟩, st3⟩ := X2.virtualBack hx (y := (⟨"com/example/telemetree/telemetree/catalog/NodeType", "holdsNodes", "()Z"⟩ : MethodName)) (z := (⟨"com/example/telemetree/telemetree/catalog/NodeType", "holdsNodes", "()Z"⟩ : MethodName)) hown (mvT hZ (hw _ (List.mem_of_getElem? (i := 19) rfl))) (mvT hZ (hw _ (List.mem_of_getElem? (i := 20) rfl))) (notFace_of_selects (args := #[]) (mvT hZ (hw _ (List.mem_of_getElem? (i := 22) rfl)))) (mvT hZ (hw _ (List.mem_of_getElem? (i := 22) rfl))) (mvT hZ (hw _ (List.mem_of_getElem? (i := 21) rfl))) (by decide) (backOf (W := 0) (rm3_2 l Z a0 hw [] w_BRANCH w_SENSOR w_ACTUATOR w_ATTRIBUTE w_STRUCT w_PROPERTY  h0 n0 Z0 C ) hZ (hw _ (List.mem_of_getElem? (i := 23) rfl)) (hw _ (List.mem_of_getElem? (i := 6) rfl)) (by decide) (by decide)) q3a q3c (g := (mkF m 36 #[.val (.int i0), .val (.int (2 : Int32)), .val (.ref w_ACTUATOR), .val (.int (1 : Int32)), .val (.int (1 : Int32)), .unset] [(.ref w_ACTUATOR)])) rfl (by rw [hml]; rfl) (Steps.refl _) (argsL := []) (rest := []) (lenOf pd_1 rfl) rfl (by show 2 * 0 + _ ≤ _; exact Nat.le_of_eq rfl) (hb hby at_36) (fun _ _ => ⟨rfl, e2, (by decide : 0 + 0 ≤ _), (by decide : 0 + 0 ≤ _)⟩)
  dsimp only [Pt.U, Pt.locs, Pt.cells, Pt.slots] at X3 l3 y3 z3 st3 hQ3
  subst l3 y3 z3
  obtain ⟨rfl, N3q, e3⟩ := hQ3
  have N3 := Fr.app N2 N3q
  obtain ⟨fs, hr, hrun, hended, hW, hsame⟩ := X3.leave (v := (some (.int (1 : Int32)))) (fun h => by rw [Bd.returns] at h; cases h)
  refine ⟨_, _, pre0 _ ?_, hrun, hended, _, _, rfl, ?_, ⟨_, rfl⟩, hW, hsame.mono (by decide) (by decide)⟩
  · show Steps p.tables e below (s₁.setTop (mkF m 0 #[.val (.int i0), .unset, .unset, .unset, .unset, .unset] [])) _
    refine XS.iloadN X0.here hx rfl (hb hby at_0) rfl ?_
    show Steps p.tables e below (s₁.setTop (mkF m 1 #[.val (.int i0), .unset, .unset, .unset, .unset, .unset] [(.int i0)])) _
    refine X0.ldcInt hx hown (mvT hZ (hw _ (List.mem_of_getElem? (i := 0) rfl))) (g := (mkF m 1 #[.val (.int i0), .unset, .unset, .unset, .unset, .unset] [(.int i0)])) rfl (hb hby at_1) _ ?_
    show Steps p.tables e below (s₁.setTop (mkF m 3 #[.val (.int i0), .unset, .unset, .unset, .unset, .unset] [(.int (2147483647 : Int32)), (.int i0)])) _
    refine XS.iand X0.here hx rfl (hb hby at_3) rfl ?_
    show Steps p.tables e below (s₁.setTop (mkF m 4 #[.val (.int i0), .unset, .unset, .unset, .unset, .unset] [(.int (i0 &&& (2147483647 : Int32)))])) _
    refine XS.bipush X0.here hx rfl (hb hby at_4) ?_
    show Steps p.tables e below (s₁.setTop (mkF m 6 #[.val (.int i0), .unset, .unset, .unset, .unset, .unset] [(.int (6 : Int32)), (.int (i0 &&& (2147483647 : Int32)))])) _
    refine iremM (g := (mkF m 6 #[.val (.int i0), .unset, .unset, .unset, .unset, .unset] [(.int (6 : Int32)), (.int (i0 &&& (2147483647 : Int32)))])) X0 hx rfl (hb hby at_6) rfl (by decide) ?_
    show Steps p.tables e below (s₁.setTop (mkF m 7 #[.val (.int i0), .unset, .unset, .unset, .unset, .unset] [(.int ((i0 &&& (2147483647 : Int32)) % (6 : Int32)))])) _
    rw [hv0]
    show Steps p.tables e below (s₁.setTop (mkF m 7 #[.val (.int i0), .unset, .unset, .unset, .unset, .unset] [(.int (2 : Int32))])) _
    refine XS.istoreN X0.here hx rfl (hb hby at_7) rfl (l' := #[.val (.int i0), .val (.int (2 : Int32)), .unset, .unset, .unset, .unset]) rfl ?_
    show Steps p.tables e below (s₁.setTop (mkF m 8 #[.val (.int i0), .val (.int (2 : Int32)), .unset, .unset, .unset, .unset] [])) _
    refine XS.iloadN X0.here hx rfl (hb hby at_8) rfl ?_
    show Steps p.tables e below (s₁.setTop (mkF m 9 #[.val (.int i0), .val (.int (2 : Int32)), .unset, .unset, .unset, .unset] [(.int (2 : Int32))])) _
    refine st1 _ ?_
    show Steps p.tables e below (T1.setTop (mkF m 12 #[.val (.int i0), .val (.int (2 : Int32)), .unset, .unset, .unset, .unset] [(.ref w_ACTUATOR)])) _
    refine XS.astoreN X1.here hx rfl (hb hby at_12) rfl rfl (l' := #[.val (.int i0), .val (.int (2 : Int32)), .val (.ref w_ACTUATOR), .unset, .unset, .unset]) rfl ?_
    show Steps p.tables e below (T1.setTop (mkF m 13 #[.val (.int i0), .val (.int (2 : Int32)), .val (.ref w_ACTUATOR), .unset, .unset, .unset] [])) _
    refine XS.iloadN X1.here hx rfl (hb hby at_13) rfl ?_
    show Steps p.tables e below (T1.setTop (mkF m 14 #[.val (.int i0), .val (.int (2 : Int32)), .val (.ref w_ACTUATOR), .unset, .unset, .unset] [(.int (2 : Int32))])) _
    refine XS.iconst X1.here hx rfl (hb hby at_14) ?_
    show Steps p.tables e below (T1.setTop (mkF m 15 #[.val (.int i0), .val (.int (2 : Int32)), .val (.ref w_ACTUATOR), .unset, .unset, .unset] [(.int (1 : Int32)), (.int (2 : Int32))])) _
    refine XS.icmpNo X1.here hx rfl (hb hby at_15) rfl (flt (by decide +kernel : ¬ ((2 : Int32) < (1 : Int32)))).1 ?_
    show Steps p.tables e below (T1.setTop (mkF m 18 #[.val (.int i0), .val (.int (2 : Int32)), .val (.ref w_ACTUATOR), .unset, .unset, .unset] [])) _
    refine XS.iloadN X1.here hx rfl (hb hby at_18) rfl ?_
    show Steps p.tables e below (T1.setTop (mkF m 19 #[.val (.int i0), .val (.int (2 : Int32)), .val (.ref w_ACTUATOR), .unset, .unset, .unset] [(.int (2 : Int32))])) _
    refine XS.iconst X1.here hx rfl (hb hby at_19) ?_
    show Steps p.tables e below (T1.setTop (mkF m 20 #[.val (.int i0), .val (.int (2 : Int32)), .val (.ref w_ACTUATOR), .unset, .unset, .unset] [(.int (3 : Int32)), (.int (2 : Int32))])) _
    refine XS.icmpNo X1.here hx rfl (hb hby at_20) rfl (flt (by decide +kernel : ¬ ((3 : Int32) < (2 : Int32)))).2.2.1 ?_
    show Steps p.tables e below (T1.setTop (mkF m 23 #[.val (.int i0), .val (.int (2 : Int32)), .val (.ref w_ACTUATOR), .unset, .unset, .unset] [])) _
    refine XS.iconst X1.here hx rfl (hb hby at_23) ?_
    show Steps p.tables e below (T1.setTop (mkF m 24 #[.val (.int i0), .val (.int (2 : Int32)), .val (.ref w_ACTUATOR), .unset, .unset, .unset] [(.int (1 : Int32))])) _
    refine XS.goto X1.here hx rfl (pc0 := 24) (pc' := 28) rfl (hb hby at_24) (by decide) (by decide) ?_
    show Steps p.tables e below (T1.setTop (mkF m 28 #[.val (.int i0), .val (.int (2 : Int32)), .val (.ref w_ACTUATOR), .unset, .unset, .unset] [(.int (1 : Int32))])) _
    refine XS.istoreN X1.here hx rfl (hb hby at_28) rfl (l' := #[.val (.int i0), .val (.int (2 : Int32)), .val (.ref w_ACTUATOR), .val (.int (1 : Int32)), .unset, .unset]) rfl ?_
    show Steps p.tables e below (T1.setTop (mkF m 29 #[.val (.int i0), .val (.int (2 : Int32)), .val (.ref w_ACTUATOR), .val (.int (1 : Int32)), .unset, .unset] [])) _
    refine XS.aloadN X1.here hx rfl (hb hby at_29) rfl rfl ?_
    show Steps p.tables e below (T1.setTop (mkF m 30 #[.val (.int i0), .val (.int (2 : Int32)), .val (.ref w_ACTUATOR), .val (.int (1 : Int32)), .unset, .unset] [(.ref w_ACTUATOR)])) _
    refine st2.trans ?_
    show Steps p.tables e below (T2.setTop (mkF m 33 #[.val (.int i0), .val (.int (2 : Int32)), .val (.ref w_ACTUATOR), .val (.int (1 : Int32)), .unset, .unset] [(.int (1 : Int32))])) _
    refine XS.istore X2.here hx rfl (hb hby at_33) rfl (l' := #[.val (.int i0), .val (.int (2 : Int32)), .val (.ref w_ACTUATOR), .val (.int (1 : Int32)), .val (.int (1 : Int32)), .unset]) rfl ?_
    show Steps p.tables e below (T2.setTop (mkF m 35 #[.val (.int i0), .val (.int (2 : Int32)), .val (.ref w_ACTUATOR), .val (.int (1 : Int32)), .val (.int (1 : Int32)), .unset] [])) _
    refine XS.aloadN X2.here hx rfl (hb hby at_35) rfl rfl ?_
    show Steps p.tables e below (T2.setTop (mkF m 36 #[.val (.int i0), .val (.int (2 : Int32)), .val (.ref w_ACTUATOR), .val (.int (1 : Int32)), .val (.int (1 : Int32)), .unset] [(.ref w_ACTUATOR)])) _
    refine st3.trans ?_
    show Steps p.tables e below (T3.setTop (mkF m 39 #[.val (.int i0), .val (.int (2 : Int32)), .val (.ref w_ACTUATOR), .val (.int (1 : Int32)), .val (.int (1 : Int32)), .unset] [(.int (0 : Int32))])) _
    refine XS.istore X3.here hx rfl (hb hby at_39) rfl (l' := #[.val (.int i0), .val (.int (2 : Int32)), .val (.ref w_ACTUATOR), .val (.int (1 : Int32)), .val (.int (1 : Int32)), .val (.int (0 : Int32))]) rfl ?_
    show Steps p.tables e below (T3.setTop (mkF m 41 #[.val (.int i0), .val (.int (2 : Int32)), .val (.ref w_ACTUATOR), .val (.int (1 : Int32)), .val (.int (1 : Int32)), .val (.int (0 : Int32))] [])) _
    refine XS.iload X3.here hx rfl (hb hby at_41) rfl ?_
    show Steps p.tables e below (T3.setTop (mkF m 43 #[.val (.int i0), .val (.int (2 : Int32)), .val (.ref w_ACTUATOR), .val (.int (1 : Int32)), .val (.int (1 : Int32)), .val (.int (0 : Int32))] [(.int (1 : Int32))])) _
    refine XS.iloadN X3.here hx rfl (hb hby at_43) rfl ?_
    show Steps p.tables e below (T3.setTop (mkF m 44 #[.val (.int i0), .val (.int (2 : Int32)), .val (.ref w_ACTUATOR), .val (.int (1 : Int32)), .val (.int (1 : Int32)), .val (.int (0 : Int32))] [(.int (1 : Int32)), (.int (1 : Int32))])) _
    refine XS.icmpNo X3.here hx rfl (hb hby at_44) rfl (teq (by decide +kernel : (1 : Int32) = (1 : Int32))).2 ?_
    show Steps p.tables e below (T3.setTop (mkF m 47 #[.val (.int i0), .val (.int (2 : Int32)), .val (.ref w_ACTUATOR), .val (.int (1 : Int32)), .val (.int (1 : Int32)), .val (.int (0 : Int32))] [])) _
    refine XS.iload X3.here hx rfl (hb hby at_47) rfl ?_
    show Steps p.tables e below (T3.setTop (mkF m 49 #[.val (.int i0), .val (.int (2 : Int32)), .val (.ref w_ACTUATOR), .val (.int (1 : Int32)), .val (.int (1 : Int32)), .val (.int (0 : Int32))] [(.int (1 : Int32))])) _
    refine XS.ifNo X3.here hx rfl (hb hby at_49) rfl ((if0 _ _).trans (feq (by decide +kernel : ¬ ((1 : Int32) = (0 : Int32)))).1) ?_
    show Steps p.tables e below (T3.setTop (mkF m 52 #[.val (.int i0), .val (.int (2 : Int32)), .val (.ref w_ACTUATOR), .val (.int (1 : Int32)), .val (.int (1 : Int32)), .val (.int (0 : Int32))] [])) _
    refine XS.iload X3.here hx rfl (hb hby at_52) rfl ?_
    show Steps p.tables e below (T3.setTop (mkF m 54 #[.val (.int i0), .val (.int (2 : Int32)), .val (.ref w_ACTUATOR), .val (.int (1 : Int32)), .val (.int (1 : Int32)), .val (.int (0 : Int32))] [(.int (0 : Int32))])) _
    refine XS.ifNo X3.here hx rfl (hb hby at_54) rfl ((if0 _ _).trans (teq (by decide +kernel : (0 : Int32) = (0 : Int32))).2) ?_
    show Steps p.tables e below (T3.setTop (mkF m 57 #[.val (.int i0), .val (.int (2 : Int32)), .val (.ref w_ACTUATOR), .val (.int (1 : Int32)), .val (.int (1 : Int32)), .val (.int (0 : Int32))] [])) _
    refine XS.iconst X3.here hx rfl (hb hby at_57) ?_
    show Steps p.tables e below (T3.setTop (mkF m 58 #[.val (.int i0), .val (.int (2 : Int32)), .val (.ref w_ACTUATOR), .val (.int (1 : Int32)), .val (.int (1 : Int32)), .val (.int (0 : Int32))] [(.int (1 : Int32))])) _
    refine XS.goto X3.here hx rfl (pc0 := 58) (pc' := 62) rfl (hb hby at_58) (by decide) (by decide) ?_
    show Steps p.tables e below (T3.setTop (mkF m 62 #[.val (.int i0), .val (.int (2 : Int32)), .val (.ref w_ACTUATOR), .val (.int (1 : Int32)), .val (.int (1 : Int32)), .val (.int (0 : Int32))] [(.int (1 : Int32))])) _
    exact retN X3 hx (t := .boolean) Bd.returns (by simp) (hb hby at_62) hr
  · exact ⟨rfl, N3, e3⟩
set_option maxRecDepth 65536 in
set_option maxHeartbeats 40000000 in
theorem rm1_3 (l : Launch) (Z : State) (a0 : Array Value) (hw : ∀ d ∈ tables_1, d.before a0 Z = true) (ws : List Jvm.Cond) (w_BRANCH w_SENSOR w_ACTUATOR w_ATTRIBUTE w_STRUCT w_PROPERTY : Addr) (h0 : Heap) (n0 : Nat) (Z0 : n0 ≤ h0.size) (C : Ctx Z h0 w_BRANCH w_SENSOR w_ACTUATOR w_ATTRIBUTE w_STRUCT w_PROPERTY)  :
    MetFree l (⟨"com/example/telemetree/telemetree/catalog/NodeTypeIsLeafPinLaw", "pick", "(I)Lcom/example/telemetree/telemetree/catalog/NodeType;"⟩ : MethodName) (head1 (Jvm.Cond.code (⟨"com/example/telemetree/telemetree/catalog/NodeTypeIsLeafPinLaw", "pick", "(I)Lcom/example/telemetree/telemetree/catalog/NodeType;"⟩ : MethodName) method_3_code 1 (some (.object "com/example/telemetree/telemetree/catalog/NodeType")) :: ws) ({ frames := 0, cells := 0, slots := 0, locals := 0 } : Room)) (fun a U => a = #[(.int (3 : Int32))] ∧ Z.Warmed39 U.vm ∧ U.heap = h0) (fun _ _ _ _ _ => True) (fun _ U o U' => ∃ v L, o = .returned v ∧ QR h0 n0 (some (.ref w_ATTRIBUTE)) v U'.heap L ∧ FrameEnd U o U' L ({ frames := 0, cells := 0, slots := 0, locals := 0 } : Room).cells ({ frames := 0, cells := 0, slots := 0, locals := 0 } : Room).slots) := by
  have S_ATTRIBUTE := C.2.2.2.2.2.2.2.2.2.1
  refine MetFree.of_bodySF (plainFor_of_name pn_1) hisR ?_
  intro p e s m args below meth c s₁ Bd hml0 hP hK
  obtain ⟨rfl, hZ, hh⟩ := hP
  have hx := Bd.exec
  have hby := Bd.bytes
  have hml : c.maxLocals = 1 := hml0
  have hown : s.vm.findClass "com/example/telemetree/telemetree/catalog/NodeTypeIsLeafPinLaw" = some m.cls := findClass_of_methodNamed Bd.named
  have hnm := (name_of_methodNamed Bd.named Bd.method).1
  have X0 : Stand p l e ({ frames := 0, cells := 0, slots := 0, locals := 0 } : Room) s m #[(.int (3 : Int32))] below meth c s₁ [] 0 0 := Stand.of_body Bd
  have e0 : s₁.heap = h0 := by rw [← hh, Bd.state]; rfl
  have N0 := Fr.nil n0
  have pre0 : ∀ t, Steps p.tables e below (s₁.setTop (mkF m 0 #[.val (.int (3 : Int32))] [])) t → Steps p.tables e below (s₁.setTop (entryFrame m #[(.int (3 : Int32))] 1)) t := fun t k => castTop (ef_1 m (3 : Int32)) k
  obtain ⟨T1, X1, e1, st1⟩ := getS2 X0 hx hZ hown (host := "") (Or.inl (hw _ (List.mem_of_getElem? (i := 25) rfl))) Via.refl e0 S_ATTRIBUTE (g := (mkF m 31 #[.val (.int (3 : Int32))] [])) rfl (hb hby d1_31)
  obtain ⟨fs, hr, hrun, hended, hW, hsame⟩ := X1.leave (v := (some (.ref w_ATTRIBUTE))) (fun h => by rw [Bd.returns] at h; cases h)
  refine ⟨_, _, pre0 _ ?_, hrun, hended, _, _, rfl, ?_, ⟨_, rfl⟩, hW, hsame.mono (by decide) (by decide)⟩
  · show Steps p.tables e below (s₁.setTop (mkF m 0 #[.val (.int (3 : Int32))] [])) _
    refine XS.iloadN X0.here hx rfl (hb hby d1_0) rfl ?_
    show Steps p.tables e below (s₁.setTop (mkF m 1 #[.val (.int (3 : Int32))] [(.int (3 : Int32))])) _
    refine XS.ifYes X0.here hx rfl (pc0 := 1) (pc' := 8) rfl (hb hby d1_1) rfl ((if0 _ _).trans (feq (by decide +kernel : ¬ ((3 : Int32) = (0 : Int32)))).2) (by decide) (by decide) ?_
    show Steps p.tables e below (s₁.setTop (mkF m 8 #[.val (.int (3 : Int32))] [])) _
    refine XS.iloadN X0.here hx rfl (hb hby d1_8) rfl ?_
    show Steps p.tables e below (s₁.setTop (mkF m 9 #[.val (.int (3 : Int32))] [(.int (3 : Int32))])) _
    refine XS.iconst X0.here hx rfl (hb hby d1_9) ?_
    show Steps p.tables e below (s₁.setTop (mkF m 10 #[.val (.int (3 : Int32))] [(.int (1 : Int32)), (.int (3 : Int32))])) _
    refine XS.icmpYes X0.here hx rfl (pc0 := 10) (pc' := 17) rfl (hb hby d1_10) rfl (feq (by decide +kernel : ¬ ((3 : Int32) = (1 : Int32)))).2 (by decide) (by decide) ?_
    show Steps p.tables e below (s₁.setTop (mkF m 17 #[.val (.int (3 : Int32))] [])) _
    refine XS.iloadN X0.here hx rfl (hb hby d1_17) rfl ?_
    show Steps p.tables e below (s₁.setTop (mkF m 18 #[.val (.int (3 : Int32))] [(.int (3 : Int32))])) _
    refine XS.iconst X0.here hx rfl (hb hby d1_18) ?_
    show Steps p.tables e below (s₁.setTop (mkF m 19 #[.val (.int (3 : Int32))] [(.int (2 : Int32)), (.int (3 : Int32))])) _
    refine XS.icmpYes X0.here hx rfl (pc0 := 19) (pc' := 26) rfl (hb hby d1_19) rfl (feq (by decide +kernel : ¬ ((3 : Int32) = (2 : Int32)))).2 (by decide) (by decide) ?_
    show Steps p.tables e below (s₁.setTop (mkF m 26 #[.val (.int (3 : Int32))] [])) _
    refine XS.iloadN X0.here hx rfl (hb hby d1_26) rfl ?_
    show Steps p.tables e below (s₁.setTop (mkF m 27 #[.val (.int (3 : Int32))] [(.int (3 : Int32))])) _
    refine XS.iconst X0.here hx rfl (hb hby d1_27) ?_
    show Steps p.tables e below (s₁.setTop (mkF m 28 #[.val (.int (3 : Int32))] [(.int (3 : Int32)), (.int (3 : Int32))])) _
    refine XS.icmpNo X0.here hx rfl (hb hby d1_28) rfl (teq (by decide +kernel : (3 : Int32) = (3 : Int32))).2 ?_
    show Steps p.tables e below (s₁.setTop (mkF m 31 #[.val (.int (3 : Int32))] [])) _
    refine st1 _ ?_
    show Steps p.tables e below (T1.setTop (mkF m 34 #[.val (.int (3 : Int32))] [(.ref w_ATTRIBUTE)])) _
    jvm_step X1.here [X1.here.top, hx, (hb hby d1_34), X1.method', Bd.returns, Value.isRef, FieldType.isReference]
    first | (intro acts; rw [hr _ acts rfl rfl rfl]) | rw [hr _ _ rfl rfl rfl]
    exact Steps.refl _
  · exact ⟨rfl, N0, e1⟩
set_option maxRecDepth 65536 in
set_option maxHeartbeats 40000000 in
theorem rm2_3 (l : Launch) (Z : State) (a0 : Array Value) (hw : ∀ d ∈ tables_1, d.before a0 Z = true) (ws : List Jvm.Cond) (w_BRANCH w_SENSOR w_ACTUATOR w_ATTRIBUTE w_STRUCT w_PROPERTY : Addr) (h0 : Heap) (n0 : Nat) (Z0 : n0 ≤ h0.size) (C : Ctx Z h0 w_BRANCH w_SENSOR w_ACTUATOR w_ATTRIBUTE w_STRUCT w_PROPERTY)  :
    MetFree l (⟨"com/example/telemetree/telemetree/catalog/NodeType", "isLeaf", "()Z"⟩ : MethodName) (head1 (Jvm.Cond.code (⟨"com/example/telemetree/telemetree/catalog/NodeType", "isLeaf", "()Z"⟩ : MethodName) prog_6_method_5_code 1 (some .boolean) :: ws) ({ frames := 0, cells := 0, slots := 0, locals := 0 } : Room)) (fun a U => a = #[(.ref w_ATTRIBUTE)] ∧ Z.Warmed39 U.vm ∧ U.heap = h0) (fun _ _ _ _ _ => True) (fun _ U o U' => ∃ v L, o = .returned v ∧ QR h0 n0 (some (.int (1 : Int32))) v U'.heap L ∧ FrameEnd U o U' L ({ frames := 0, cells := 0, slots := 0, locals := 0 } : Room).cells ({ frames := 0, cells := 0, slots := 0, locals := 0 } : Room).slots) := by
  have S_SENSOR := C.2.2.2.1
  have F_SENSOR_ordinal := C.2.2.2.2.2.1
  have S_ACTUATOR := C.2.2.2.2.2.2.1
  have F_ACTUATOR_ordinal := C.2.2.2.2.2.2.2.2.1
  have S_ATTRIBUTE := C.2.2.2.2.2.2.2.2.2.1
  have F_ATTRIBUTE_ordinal := C.2.2.2.2.2.2.2.2.2.2.2.1
  refine MetFree.of_bodySF (plainFor_of_name pn_2) hisR ?_
  intro p e s m args below meth c s₁ Bd hml0 hP hK
  obtain ⟨rfl, hZ, hh⟩ := hP
  have hx := Bd.exec
  have hby := Bd.bytes
  have hml : c.maxLocals = 1 := hml0
  have hown : s.vm.findClass "com/example/telemetree/telemetree/catalog/NodeType" = some m.cls := findClass_of_methodNamed Bd.named
  have hnm := (name_of_methodNamed Bd.named Bd.method).1
  have X0 : Stand p l e ({ frames := 0, cells := 0, slots := 0, locals := 0 } : Room) s m #[(.ref w_ATTRIBUTE)] below meth c s₁ [] 0 0 := Stand.of_body Bd
  have e0 : s₁.heap = h0 := by rw [← hh, Bd.state]; rfl
  have N0 := Fr.nil n0
  have pre0 : ∀ t, Steps p.tables e below (s₁.setTop (mkF m 0 #[.val (.ref w_ATTRIBUTE)] [])) t → Steps p.tables e below (s₁.setTop (entryFrame m #[(.ref w_ATTRIBUTE)] 1)) t := fun t k => castTop (ef_2 m w_ATTRIBUTE) k
  obtain ⟨T1, X1, e1, st1⟩ := getS2 X0 hx hZ hown (host := "") (Or.inl (hw _ (List.mem_of_getElem? (i := 13) rfl))) Via.refl e0 S_SENSOR (g := (mkF m 1 #[.val (.ref w_ATTRIBUTE)] [(.ref w_ATTRIBUTE)])) rfl (hb hby d2_1)
  obtain ⟨T2, X2, e2, st2⟩ := getS2 X1 hx hZ hown (host := "") (Or.inl (hw _ (List.mem_of_getElem? (i := 15) rfl))) Via.refl e1 S_ACTUATOR (g := (mkF m 8 #[.val (.ref w_ATTRIBUTE)] [(.ref w_ATTRIBUTE)])) rfl (hb hby d2_8)
  obtain ⟨T3, X3, e3, st3⟩ := getS2 X2 hx hZ hown (host := "") (Or.inl (hw _ (List.mem_of_getElem? (i := 17) rfl))) Via.refl e2 S_ATTRIBUTE (g := (mkF m 15 #[.val (.ref w_ATTRIBUTE)] [(.ref w_ATTRIBUTE)])) rfl (hb hby d2_15)
  obtain ⟨fs, hr, hrun, hended, hW, hsame⟩ := X3.leave (v := (some (.int (1 : Int32)))) (fun h => by rw [Bd.returns] at h; cases h)
  refine ⟨_, _, pre0 _ ?_, hrun, hended, _, _, rfl, ?_, ⟨_, rfl⟩, hW, hsame.mono (by decide) (by decide)⟩
  · show Steps p.tables e below (s₁.setTop (mkF m 0 #[.val (.ref w_ATTRIBUTE)] [])) _
    refine XS.aloadN X0.here hx rfl (hb hby d2_0) rfl rfl ?_
    show Steps p.tables e below (s₁.setTop (mkF m 1 #[.val (.ref w_ATTRIBUTE)] [(.ref w_ATTRIBUTE)])) _
    refine st1 _ ?_
    show Steps p.tables e below (T1.setTop (mkF m 4 #[.val (.ref w_ATTRIBUTE)] [(.ref w_SENSOR), (.ref w_ATTRIBUTE)])) _
    refine Jvm.RoadKit.acmp (g := (mkF m 4 #[.val (.ref w_ATTRIBUTE)] [(.ref w_SENSOR), (.ref w_ATTRIBUTE)])) X1 hx rfl rfl rfl (pc0 := 4) (pc' := 7) (same := false) rfl (hb hby d2_4) rfl (decide_eq_false fun q => (Fld.ne F_ATTRIBUTE_ordinal F_SENSOR_ordinal (by simp)) (Value.ref.inj q)) (by decide) (by decide) ?_
    show Steps p.tables e below (T1.setTop (mkF m 7 #[.val (.ref w_ATTRIBUTE)] [])) _
    refine XS.aloadN X1.here hx rfl (hb hby d2_7) rfl rfl ?_
    show Steps p.tables e below (T1.setTop (mkF m 8 #[.val (.ref w_ATTRIBUTE)] [(.ref w_ATTRIBUTE)])) _
    refine st2 _ ?_
    show Steps p.tables e below (T2.setTop (mkF m 11 #[.val (.ref w_ATTRIBUTE)] [(.ref w_ACTUATOR), (.ref w_ATTRIBUTE)])) _
    refine Jvm.RoadKit.acmp (g := (mkF m 11 #[.val (.ref w_ATTRIBUTE)] [(.ref w_ACTUATOR), (.ref w_ATTRIBUTE)])) X2 hx rfl rfl rfl (pc0 := 11) (pc' := 14) (same := false) rfl (hb hby d2_11) rfl (decide_eq_false fun q => (Fld.ne F_ATTRIBUTE_ordinal F_ACTUATOR_ordinal (by simp)) (Value.ref.inj q)) (by decide) (by decide) ?_
    show Steps p.tables e below (T2.setTop (mkF m 14 #[.val (.ref w_ATTRIBUTE)] [])) _
    refine XS.aloadN X2.here hx rfl (hb hby d2_14) rfl rfl ?_
    show Steps p.tables e below (T2.setTop (mkF m 15 #[.val (.ref w_ATTRIBUTE)] [(.ref w_ATTRIBUTE)])) _
    refine st3 _ ?_
    show Steps p.tables e below (T3.setTop (mkF m 18 #[.val (.ref w_ATTRIBUTE)] [(.ref w_ATTRIBUTE), (.ref w_ATTRIBUTE)])) _
    refine Jvm.RoadKit.acmp (g := (mkF m 18 #[.val (.ref w_ATTRIBUTE)] [(.ref w_ATTRIBUTE), (.ref w_ATTRIBUTE)])) X3 hx rfl rfl rfl (pc0 := 18) (pc' := 21) (same := true) rfl (hb hby d2_18) rfl (decide_eq_true rfl) (by decide) (by decide) ?_
    show Steps p.tables e below (T3.setTop (mkF m 21 #[.val (.ref w_ATTRIBUTE)] [])) _
    refine XS.iconst X3.here hx rfl (hb hby d2_21) ?_
    show Steps p.tables e below (T3.setTop (mkF m 22 #[.val (.ref w_ATTRIBUTE)] [(.int (1 : Int32))])) _
    refine XS.goto X3.here hx rfl (pc0 := 22) (pc' := 26) rfl (hb hby d2_22) (by decide) (by decide) ?_
    show Steps p.tables e below (T3.setTop (mkF m 26 #[.val (.ref w_ATTRIBUTE)] [(.int (1 : Int32))])) _
    exact retN X3 hx (t := .boolean) Bd.returns (by simp) (hb hby d2_26) hr
  · exact ⟨rfl, N0, e3⟩
set_option maxRecDepth 65536 in
set_option maxHeartbeats 40000000 in
theorem rm3_3 (l : Launch) (Z : State) (a0 : Array Value) (hw : ∀ d ∈ tables_1, d.before a0 Z = true) (ws : List Jvm.Cond) (w_BRANCH w_SENSOR w_ACTUATOR w_ATTRIBUTE w_STRUCT w_PROPERTY : Addr) (h0 : Heap) (n0 : Nat) (Z0 : n0 ≤ h0.size) (C : Ctx Z h0 w_BRANCH w_SENSOR w_ACTUATOR w_ATTRIBUTE w_STRUCT w_PROPERTY)  :
    MetFree l (⟨"com/example/telemetree/telemetree/catalog/NodeType", "holdsNodes", "()Z"⟩ : MethodName) (head1 (Jvm.Cond.code (⟨"com/example/telemetree/telemetree/catalog/NodeType", "holdsNodes", "()Z"⟩ : MethodName) prog_6_method_6_code 1 (some .boolean) :: ws) ({ frames := 0, cells := 0, slots := 0, locals := 0 } : Room)) (fun a U => a = #[(.ref w_ATTRIBUTE)] ∧ Z.Warmed39 U.vm ∧ U.heap = h0) (fun _ _ _ _ _ => True) (fun _ U o U' => ∃ v L, o = .returned v ∧ QR h0 n0 (some (.int (0 : Int32))) v U'.heap L ∧ FrameEnd U o U' L ({ frames := 0, cells := 0, slots := 0, locals := 0 } : Room).cells ({ frames := 0, cells := 0, slots := 0, locals := 0 } : Room).slots) := by
  have S_BRANCH := C.1
  have F_BRANCH_ordinal := C.2.2.1
  have F_ATTRIBUTE_ordinal := C.2.2.2.2.2.2.2.2.2.2.2.1
  have S_STRUCT := C.2.2.2.2.2.2.2.2.2.2.2.2.1
  have F_STRUCT_ordinal := C.2.2.2.2.2.2.2.2.2.2.2.2.2.2.1
  refine MetFree.of_bodySF (plainFor_of_name pn_3) hisR ?_
  intro p e s m args below meth c s₁ Bd hml0 hP hK
  obtain ⟨rfl, hZ, hh⟩ := hP
  have hx := Bd.exec
  have hby := Bd.bytes
  have hml : c.maxLocals = 1 := hml0
  have hown : s.vm.findClass "com/example/telemetree/telemetree/catalog/NodeType" = some m.cls := findClass_of_methodNamed Bd.named
  have hnm := (name_of_methodNamed Bd.named Bd.method).1
  have X0 : Stand p l e ({ frames := 0, cells := 0, slots := 0, locals := 0 } : Room) s m #[(.ref w_ATTRIBUTE)] below meth c s₁ [] 0 0 := Stand.of_body Bd
  have e0 : s₁.heap = h0 := by rw [← hh, Bd.state]; rfl
  have N0 := Fr.nil n0
  have pre0 : ∀ t, Steps p.tables e below (s₁.setTop (mkF m 0 #[.val (.ref w_ATTRIBUTE)] [])) t → Steps p.tables e below (s₁.setTop (entryFrame m #[(.ref w_ATTRIBUTE)] 1)) t := fun t k => castTop (ef_3 m w_ATTRIBUTE) k
  obtain ⟨T1, X1, e1, st1⟩ := getS2 X0 hx hZ hown (host := "") (Or.inl (hw _ (List.mem_of_getElem? (i := 24) rfl))) Via.refl e0 S_BRANCH (g := (mkF m 1 #[.val (.ref w_ATTRIBUTE)] [(.ref w_ATTRIBUTE)])) rfl (hb hby d3_1)
  obtain ⟨T2, X2, e2, st2⟩ := getS2 X1 hx hZ hown (host := "") (Or.inl (hw _ (List.mem_of_getElem? (i := 26) rfl))) Via.refl e1 S_STRUCT (g := (mkF m 8 #[.val (.ref w_ATTRIBUTE)] [(.ref w_ATTRIBUTE)])) rfl (hb hby d3_8)
  obtain ⟨fs, hr, hrun, hended, hW, hsame⟩ := X2.leave (v := (some (.int (0 : Int32)))) (fun h => by rw [Bd.returns] at h; cases h)
  refine ⟨_, _, pre0 _ ?_, hrun, hended, _, _, rfl, ?_, ⟨_, rfl⟩, hW, hsame.mono (by decide) (by decide)⟩
  · show Steps p.tables e below (s₁.setTop (mkF m 0 #[.val (.ref w_ATTRIBUTE)] [])) _
    refine XS.aloadN X0.here hx rfl (hb hby d3_0) rfl rfl ?_
    show Steps p.tables e below (s₁.setTop (mkF m 1 #[.val (.ref w_ATTRIBUTE)] [(.ref w_ATTRIBUTE)])) _
    refine st1 _ ?_
    show Steps p.tables e below (T1.setTop (mkF m 4 #[.val (.ref w_ATTRIBUTE)] [(.ref w_BRANCH), (.ref w_ATTRIBUTE)])) _
    refine Jvm.RoadKit.acmp (g := (mkF m 4 #[.val (.ref w_ATTRIBUTE)] [(.ref w_BRANCH), (.ref w_ATTRIBUTE)])) X1 hx rfl rfl rfl (pc0 := 4) (pc' := 7) (same := false) rfl (hb hby d3_4) rfl (decide_eq_false fun q => (Fld.ne F_ATTRIBUTE_ordinal F_BRANCH_ordinal (by simp)) (Value.ref.inj q)) (by decide) (by decide) ?_
    show Steps p.tables e below (T1.setTop (mkF m 7 #[.val (.ref w_ATTRIBUTE)] [])) _
    refine XS.aloadN X1.here hx rfl (hb hby d3_7) rfl rfl ?_
    show Steps p.tables e below (T1.setTop (mkF m 8 #[.val (.ref w_ATTRIBUTE)] [(.ref w_ATTRIBUTE)])) _
    refine st2 _ ?_
    show Steps p.tables e below (T2.setTop (mkF m 11 #[.val (.ref w_ATTRIBUTE)] [(.ref w_STRUCT), (.ref w_ATTRIBUTE)])) _
    refine Jvm.RoadKit.acmp (g := (mkF m 11 #[.val (.ref w_ATTRIBUTE)] [(.ref w_STRUCT), (.ref w_ATTRIBUTE)])) X2 hx rfl rfl rfl (pc0 := 11) (pc' := 18) (same := false) rfl (hb hby d3_11) rfl (decide_eq_false fun q => (Fld.ne F_ATTRIBUTE_ordinal F_STRUCT_ordinal (by simp)) (Value.ref.inj q)) (by decide) (by decide) ?_
    show Steps p.tables e below (T2.setTop (mkF m 18 #[.val (.ref w_ATTRIBUTE)] [])) _
    refine XS.iconst X2.here hx rfl (hb hby d3_18) ?_
    show Steps p.tables e below (T2.setTop (mkF m 19 #[.val (.ref w_ATTRIBUTE)] [(.int (0 : Int32))])) _
    exact retN X2 hx (t := .boolean) Bd.returns (by simp) (hb hby d3_19) hr
  · exact ⟨rfl, N0, e2⟩
set_option maxRecDepth 65536 in
set_option maxHeartbeats 40000000 in
theorem rm0_3 (l : Launch) (Z : State) (a0 : Array Value) (hw : ∀ d ∈ tables_1, d.before a0 Z = true) (ws : List Jvm.Cond) (w_BRANCH w_SENSOR w_ACTUATOR w_ATTRIBUTE w_STRUCT w_PROPERTY : Addr) (i0 : Int32) (h0 : Heap) (n0 : Nat) (Z0 : n0 ≤ h0.size) (C : Ctx Z h0 w_BRANCH w_SENSOR w_ACTUATOR w_ATTRIBUTE w_STRUCT w_PROPERTY) (hv0 : ((i0 &&& (2147483647 : Int32)) % (6 : Int32)) = (3 : Int32)) :
    MetFree l x (head1 (Jvm.Cond.code x code maxLocals ret :: ws) room_1) (fun a U => a = #[(.int i0)] ∧ Z.Warmed39 U.vm ∧ U.heap = h0) (fun _ _ _ _ _ => True) (fun _ U o U' => ∃ v L, o = .returned v ∧ QR h0 n0 (some (.int (1 : Int32))) v U'.heap L ∧ FrameEnd U o U' L room_1.cells room_1.slots) := by
  have E_ATTRIBUTE := C.2.2.2.2.2.2.2.2.2.2.1
  refine MetFree.of_bodySF (plainFor_of_name pn_0) hisR ?_
  intro p e s m args below meth c s₁ Bd hml0 hP hK
  obtain ⟨rfl, hZ, hh⟩ := hP
  have hx := Bd.exec
  have hby := Bd.bytes
  have hml : c.maxLocals = 6 := hml0
  have hown : s.vm.findClass "com/example/telemetree/telemetree/catalog/NodeTypeIsLeafPinLaw" = some m.cls := findClass_of_methodNamed Bd.named
  have hnm := (name_of_methodNamed Bd.named Bd.method).1
  have X0 : Stand p l e room_1 s m #[(.int i0)] below meth c s₁ [] 0 0 := Stand.of_body Bd
  have e0 : s₁.heap = h0 := by rw [← hh, Bd.state]; rfl
  have N0 := Fr.nil n0
  have pre0 : ∀ t, Steps p.tables e below (s₁.setTop (mkF m 0 #[.val (.int i0), .unset, .unset, .unset, .unset, .unset] [])) t → Steps p.tables e below (s₁.setTop (entryFrame m #[(.int i0)] maxLocals)) t := fun t k => castTop (ef_0 m i0) k
  obtain ⟨_, _, ⟨T1, L1, k1, n1⟩, -, X1, ⟨Lc1, hQ1, l1, y1, z1⟩, st1⟩ := Jvm.LawKit.callS X0 hx (y := (⟨"com/example/telemetree/telemetree/catalog/NodeTypeIsLeafPinLaw", "pick", "(I)Lcom/example/telemetree/telemetree/catalog/NodeType;"⟩ : MethodName)) hown (mvT hZ (hw _ (List.mem_of_getElem? (i := 1) rfl))) (mvT hZ (hw _ (List.mem_of_getElem? (i := 2) rfl))) (mvT hZ (hw _ (List.mem_of_getElem? (i := 3) rfl))) (mvT hZ (hw _ (List.mem_of_getElem? (i := 4) rfl))) (by decide) (backOf (W := 0) (rm1_3 l Z a0 hw [] w_BRANCH w_SENSOR w_ACTUATOR w_ATTRIBUTE w_STRUCT w_PROPERTY  h0 n0 Z0 C ) hZ (hw _ (List.mem_of_getElem? (i := 4) rfl)) (hw _ (List.mem_of_getElem? (i := 3) rfl)) (by decide) (by decide)) (g := (mkF m 9 #[.val (.int i0), .val (.int (3 : Int32)), .unset, .unset, .unset, .unset] [(.int (3 : Int32))])) rfl (by rw [hml]; rfl) (argsL := [(.int (3 : Int32))]) (rest := []) (lenOf pd_0 rfl) rfl (by show 2 * 0 + _ ≤ _; exact Nat.le_of_eq rfl) (hb hby at_9) (fun _ _ => ⟨rfl, e0, (by decide : 0 + 0 ≤ _), (by decide : 0 + 0 ≤ _)⟩)
  dsimp only [Pt.U, Pt.locs, Pt.cells, Pt.slots] at X1 l1 y1 z1 st1 hQ1
  subst l1 y1 z1
  obtain ⟨rfl, N1q, e1⟩ := hQ1
  have N1 := Fr.app N0 N1q
  obtain ⟨cq2, kq2, q2a, q2b, q2c⟩ := isOf hZ e1 E_ATTRIBUTE
  obtain ⟨_, _, ⟨T2, L2, k2, n2⟩, -, X2, ⟨Lc2, hQ2, l2, y2, z2⟩, st2⟩ := X1.virtualBack hx (y := (⟨"com/example/telemetree/telemetree/catalog/NodeType", "isLeaf", "()Z"⟩ : MethodName)) (z := (⟨"com/example/telemetree/telemetree/catalog/NodeType", "isLeaf", "()Z"⟩ : MethodName)) hown (mvT hZ (hw _ (List.mem_of_getElem? (i := 8) rfl))) (mvT hZ (hw _ (List.mem_of_getElem? (i := 9) rfl))) (notFace_of_selects (args := #[]) (mvT hZ (hw _ (List.mem_of_getElem? (i := 11) rfl)))) (mvT hZ (hw _ (List.mem_of_getElem? (i := 11) rfl))) (mvT hZ (hw _ (List.mem_of_getElem? (i := 10) rfl))) (by decide) (backOf (W := 0) (rm2_3 l Z a0 hw [] w_BRANCH w_SENSOR w_ACTUATOR w_ATTRIBUTE w_STRUCT w_PROPERTY  h0 n0 Z0 C ) hZ (hw _ (List.mem_of_getElem? (i := 12) rfl)) (hw _ (List.mem_of_getElem? (i := 6) rfl)) (by decide) (by decide)) q2a q2c (g := (mkF m 30 #[.val (.int i0), .val (.int (3 : Int32)), .val (.ref w_ATTRIBUTE), .val (.int (1 : Int32)), .unset, .unset] [(.ref w_ATTRIBUTE)])) rfl (by rw [hml]; rfl) (Steps.refl _) (argsL := []) (rest := []) (lenOf pd_1 rfl) rfl (by show 2 * 0 + _ ≤ _; exact Nat.le_of_eq rfl) (hb hby at_30) (fun _ _ => ⟨rfl, e1, (by decide : 0 + 0 ≤ _), (by decide : 0 + 0 ≤ _)⟩)
  dsimp only [Pt.U, Pt.locs, Pt.cells, Pt.slots] at X2 l2 y2 z2 st2 hQ2
  subst l2 y2 z2
  obtain ⟨rfl, N2q, e2⟩ := hQ2
  have N2 := Fr.app N1 N2q
  obtain ⟨cq3, kq3, q3a, q3b, q3c⟩ := isOf hZ e2 E_ATTRIBUTE
  obtain ⟨_, _, ⟨T3, L3, k3, n3⟩, -, X3, ⟨Lc3, hQ3, l3, y3, z3⟩, st3⟩ := X2.virtualBack hx (y := (⟨"com/example/telemetree/telemetree/catalog/NodeType", "holdsNodes", "()Z"⟩ : MethodName)) (z := (⟨"com/example/telemetree/telemetree/catalog/NodeType", "holdsNodes", "()Z"⟩ : MethodName)) hown (mvT hZ (hw _ (List.mem_of_getElem? (i := 19) rfl))) (mvT hZ (hw _ (List.mem_of_getElem? (i := 20) rfl))) (notFace_of_selects (args := #[]) (mvT hZ (hw _ (List.mem_of_getElem? (i := 22) rfl)))) (mvT hZ (hw _ (List.mem_of_getElem? (i := 22) rfl))) (mvT hZ (hw _ (List.mem_of_getElem? (i := 21) rfl))) (by decide) (backOf (W := 0) (rm3_3 l Z a0 hw [] w_BRANCH w_SENSOR w_ACTUATOR w_ATTRIBUTE w_STRUCT w_PROPERTY  h0 n0 Z0 C ) hZ (hw _ (List.mem_of_getElem? (i := 23) rfl)) (hw _ (List.mem_of_getElem? (i := 6) rfl)) (by decide) (by decide)) q3a q3c (g := (mkF m 36 #[.val (.int i0), .val (.int (3 : Int32)), .val (.ref w_ATTRIBUTE), .val (.int (1 : Int32)), .val (.int (1 : Int32)), .unset] [(.ref w_ATTRIBUTE)])) rfl (by rw [hml]; rfl) (Steps.refl _) (argsL := []) (rest := []) (lenOf pd_1 rfl) rfl (by show 2 * 0 + _ ≤ _; exact Nat.le_of_eq rfl) (hb hby at_36) (fun _ _ => ⟨rfl, e2, (by decide : 0 + 0 ≤ _), (by decide : 0 + 0 ≤ _)⟩)
  dsimp only [Pt.U, Pt.locs, Pt.cells, Pt.slots] at X3 l3 y3 z3 st3 hQ3
  subst l3 y3 z3
  obtain ⟨rfl, N3q, e3⟩ := hQ3
  have N3 := Fr.app N2 N3q
  obtain ⟨fs, hr, hrun, hended, hW, hsame⟩ := X3.leave (v := (some (.int (1 : Int32)))) (fun h => by rw [Bd.returns] at h; cases h)
  refine ⟨_, _, pre0 _ ?_, hrun, hended, _, _, rfl, ?_, ⟨_, rfl⟩, hW, hsame.mono (by decide) (by decide)⟩
  · show Steps p.tables e below (s₁.setTop (mkF m 0 #[.val (.int i0), .unset, .unset, .unset, .unset, .unset] [])) _
    refine XS.iloadN X0.here hx rfl (hb hby at_0) rfl ?_
    show Steps p.tables e below (s₁.setTop (mkF m 1 #[.val (.int i0), .unset, .unset, .unset, .unset, .unset] [(.int i0)])) _
    refine X0.ldcInt hx hown (mvT hZ (hw _ (List.mem_of_getElem? (i := 0) rfl))) (g := (mkF m 1 #[.val (.int i0), .unset, .unset, .unset, .unset, .unset] [(.int i0)])) rfl (hb hby at_1) _ ?_
    show Steps p.tables e below (s₁.setTop (mkF m 3 #[.val (.int i0), .unset, .unset, .unset, .unset, .unset] [(.int (2147483647 : Int32)), (.int i0)])) _
    refine XS.iand X0.here hx rfl (hb hby at_3) rfl ?_
    show Steps p.tables e below (s₁.setTop (mkF m 4 #[.val (.int i0), .unset, .unset, .unset, .unset, .unset] [(.int (i0 &&& (2147483647 : Int32)))])) _
    refine XS.bipush X0.here hx rfl (hb hby at_4) ?_
    show Steps p.tables e below (s₁.setTop (mkF m 6 #[.val (.int i0), .unset, .unset, .unset, .unset, .unset] [(.int (6 : Int32)), (.int (i0 &&& (2147483647 : Int32)))])) _
    refine iremM (g := (mkF m 6 #[.val (.int i0), .unset, .unset, .unset, .unset, .unset] [(.int (6 : Int32)), (.int (i0 &&& (2147483647 : Int32)))])) X0 hx rfl (hb hby at_6) rfl (by decide) ?_
    show Steps p.tables e below (s₁.setTop (mkF m 7 #[.val (.int i0), .unset, .unset, .unset, .unset, .unset] [(.int ((i0 &&& (2147483647 : Int32)) % (6 : Int32)))])) _
    rw [hv0]
    show Steps p.tables e below (s₁.setTop (mkF m 7 #[.val (.int i0), .unset, .unset, .unset, .unset, .unset] [(.int (3 : Int32))])) _
    refine XS.istoreN X0.here hx rfl (hb hby at_7) rfl (l' := #[.val (.int i0), .val (.int (3 : Int32)), .unset, .unset, .unset, .unset]) rfl ?_
    show Steps p.tables e below (s₁.setTop (mkF m 8 #[.val (.int i0), .val (.int (3 : Int32)), .unset, .unset, .unset, .unset] [])) _
    refine XS.iloadN X0.here hx rfl (hb hby at_8) rfl ?_
    show Steps p.tables e below (s₁.setTop (mkF m 9 #[.val (.int i0), .val (.int (3 : Int32)), .unset, .unset, .unset, .unset] [(.int (3 : Int32))])) _
    refine st1 _ ?_
    show Steps p.tables e below (T1.setTop (mkF m 12 #[.val (.int i0), .val (.int (3 : Int32)), .unset, .unset, .unset, .unset] [(.ref w_ATTRIBUTE)])) _
    refine XS.astoreN X1.here hx rfl (hb hby at_12) rfl rfl (l' := #[.val (.int i0), .val (.int (3 : Int32)), .val (.ref w_ATTRIBUTE), .unset, .unset, .unset]) rfl ?_
    show Steps p.tables e below (T1.setTop (mkF m 13 #[.val (.int i0), .val (.int (3 : Int32)), .val (.ref w_ATTRIBUTE), .unset, .unset, .unset] [])) _
    refine XS.iloadN X1.here hx rfl (hb hby at_13) rfl ?_
    show Steps p.tables e below (T1.setTop (mkF m 14 #[.val (.int i0), .val (.int (3 : Int32)), .val (.ref w_ATTRIBUTE), .unset, .unset, .unset] [(.int (3 : Int32))])) _
    refine XS.iconst X1.here hx rfl (hb hby at_14) ?_
    show Steps p.tables e below (T1.setTop (mkF m 15 #[.val (.int i0), .val (.int (3 : Int32)), .val (.ref w_ATTRIBUTE), .unset, .unset, .unset] [(.int (1 : Int32)), (.int (3 : Int32))])) _
    refine XS.icmpNo X1.here hx rfl (hb hby at_15) rfl (flt (by decide +kernel : ¬ ((3 : Int32) < (1 : Int32)))).1 ?_
    show Steps p.tables e below (T1.setTop (mkF m 18 #[.val (.int i0), .val (.int (3 : Int32)), .val (.ref w_ATTRIBUTE), .unset, .unset, .unset] [])) _
    refine XS.iloadN X1.here hx rfl (hb hby at_18) rfl ?_
    show Steps p.tables e below (T1.setTop (mkF m 19 #[.val (.int i0), .val (.int (3 : Int32)), .val (.ref w_ATTRIBUTE), .unset, .unset, .unset] [(.int (3 : Int32))])) _
    refine XS.iconst X1.here hx rfl (hb hby at_19) ?_
    show Steps p.tables e below (T1.setTop (mkF m 20 #[.val (.int i0), .val (.int (3 : Int32)), .val (.ref w_ATTRIBUTE), .unset, .unset, .unset] [(.int (3 : Int32)), (.int (3 : Int32))])) _
    refine XS.icmpNo X1.here hx rfl (hb hby at_20) rfl (flt (by decide +kernel : ¬ ((3 : Int32) < (3 : Int32)))).2.2.1 ?_
    show Steps p.tables e below (T1.setTop (mkF m 23 #[.val (.int i0), .val (.int (3 : Int32)), .val (.ref w_ATTRIBUTE), .unset, .unset, .unset] [])) _
    refine XS.iconst X1.here hx rfl (hb hby at_23) ?_
    show Steps p.tables e below (T1.setTop (mkF m 24 #[.val (.int i0), .val (.int (3 : Int32)), .val (.ref w_ATTRIBUTE), .unset, .unset, .unset] [(.int (1 : Int32))])) _
    refine XS.goto X1.here hx rfl (pc0 := 24) (pc' := 28) rfl (hb hby at_24) (by decide) (by decide) ?_
    show Steps p.tables e below (T1.setTop (mkF m 28 #[.val (.int i0), .val (.int (3 : Int32)), .val (.ref w_ATTRIBUTE), .unset, .unset, .unset] [(.int (1 : Int32))])) _
    refine XS.istoreN X1.here hx rfl (hb hby at_28) rfl (l' := #[.val (.int i0), .val (.int (3 : Int32)), .val (.ref w_ATTRIBUTE), .val (.int (1 : Int32)), .unset, .unset]) rfl ?_
    show Steps p.tables e below (T1.setTop (mkF m 29 #[.val (.int i0), .val (.int (3 : Int32)), .val (.ref w_ATTRIBUTE), .val (.int (1 : Int32)), .unset, .unset] [])) _
    refine XS.aloadN X1.here hx rfl (hb hby at_29) rfl rfl ?_
    show Steps p.tables e below (T1.setTop (mkF m 30 #[.val (.int i0), .val (.int (3 : Int32)), .val (.ref w_ATTRIBUTE), .val (.int (1 : Int32)), .unset, .unset] [(.ref w_ATTRIBUTE)])) _
    refine st2.trans ?_
    show Steps p.tables e below (T2.setTop (mkF m 33 #[.val (.int i0), .val (.int (3 : Int32)), .val (.ref w_ATTRIBUTE), .val (.int (1 : Int32)), .unset, .unset] [(.int (1 : Int32))])) _
    refine XS.istore X2.here hx rfl (hb hby at_33) rfl (l' := #[.val (.int i0), .val (.int (3 : Int32)), .val (.ref w_ATTRIBUTE), .val (.int (1 : Int32)), .val (.int (1 : Int32)), .unset]) rfl ?_
    show Steps p.tables e below (T2.setTop (mkF m 35 #[.val (.int i0), .val (.int (3 : Int32)), .val (.ref w_ATTRIBUTE), .val (.int (1 : Int32)), .val (.int (1 : Int32)), .unset] [])) _
    refine XS.aloadN X2.here hx rfl (hb hby at_35) rfl rfl ?_
    show Steps p.tables e below (T2.setTop (mkF m 36 #[.val (.int i0), .val (.int (3 : Int32)), .val (.ref w_ATTRIBUTE), .val (.int (1 : Int32)), .val (.int (1 : Int32)), .unset] [(.ref w_ATTRIBUTE)])) _
    refine st3.trans ?_
    show Steps p.tables e below (T3.setTop (mkF m 39 #[.val (.int i0), .val (.int (3 : Int32)), .val (.ref w_ATTRIBUTE), .val (.int (1 : Int32)), .val (.int (1 : Int32)), .unset] [(.int (0 : Int32))])) _
    refine XS.istore X3.here hx rfl (hb hby at_39) rfl (l' := #[.val (.int i0), .val (.int (3 : Int32)), .val (.ref w_ATTRIBUTE), .val (.int (1 : Int32)), .val (.int (1 : Int32)), .val (.int (0 : Int32))]) rfl ?_
    show Steps p.tables e below (T3.setTop (mkF m 41 #[.val (.int i0), .val (.int (3 : Int32)), .val (.ref w_ATTRIBUTE), .val (.int (1 : Int32)), .val (.int (1 : Int32)), .val (.int (0 : Int32))] [])) _
    refine XS.iload X3.here hx rfl (hb hby at_41) rfl ?_
    show Steps p.tables e below (T3.setTop (mkF m 43 #[.val (.int i0), .val (.int (3 : Int32)), .val (.ref w_ATTRIBUTE), .val (.int (1 : Int32)), .val (.int (1 : Int32)), .val (.int (0 : Int32))] [(.int (1 : Int32))])) _
    refine XS.iloadN X3.here hx rfl (hb hby at_43) rfl ?_
    show Steps p.tables e below (T3.setTop (mkF m 44 #[.val (.int i0), .val (.int (3 : Int32)), .val (.ref w_ATTRIBUTE), .val (.int (1 : Int32)), .val (.int (1 : Int32)), .val (.int (0 : Int32))] [(.int (1 : Int32)), (.int (1 : Int32))])) _
    refine XS.icmpNo X3.here hx rfl (hb hby at_44) rfl (teq (by decide +kernel : (1 : Int32) = (1 : Int32))).2 ?_
    show Steps p.tables e below (T3.setTop (mkF m 47 #[.val (.int i0), .val (.int (3 : Int32)), .val (.ref w_ATTRIBUTE), .val (.int (1 : Int32)), .val (.int (1 : Int32)), .val (.int (0 : Int32))] [])) _
    refine XS.iload X3.here hx rfl (hb hby at_47) rfl ?_
    show Steps p.tables e below (T3.setTop (mkF m 49 #[.val (.int i0), .val (.int (3 : Int32)), .val (.ref w_ATTRIBUTE), .val (.int (1 : Int32)), .val (.int (1 : Int32)), .val (.int (0 : Int32))] [(.int (1 : Int32))])) _
    refine XS.ifNo X3.here hx rfl (hb hby at_49) rfl ((if0 _ _).trans (feq (by decide +kernel : ¬ ((1 : Int32) = (0 : Int32)))).1) ?_
    show Steps p.tables e below (T3.setTop (mkF m 52 #[.val (.int i0), .val (.int (3 : Int32)), .val (.ref w_ATTRIBUTE), .val (.int (1 : Int32)), .val (.int (1 : Int32)), .val (.int (0 : Int32))] [])) _
    refine XS.iload X3.here hx rfl (hb hby at_52) rfl ?_
    show Steps p.tables e below (T3.setTop (mkF m 54 #[.val (.int i0), .val (.int (3 : Int32)), .val (.ref w_ATTRIBUTE), .val (.int (1 : Int32)), .val (.int (1 : Int32)), .val (.int (0 : Int32))] [(.int (0 : Int32))])) _
    refine XS.ifNo X3.here hx rfl (hb hby at_54) rfl ((if0 _ _).trans (teq (by decide +kernel : (0 : Int32) = (0 : Int32))).2) ?_
    show Steps p.tables e below (T3.setTop (mkF m 57 #[.val (.int i0), .val (.int (3 : Int32)), .val (.ref w_ATTRIBUTE), .val (.int (1 : Int32)), .val (.int (1 : Int32)), .val (.int (0 : Int32))] [])) _
    refine XS.iconst X3.here hx rfl (hb hby at_57) ?_
    show Steps p.tables e below (T3.setTop (mkF m 58 #[.val (.int i0), .val (.int (3 : Int32)), .val (.ref w_ATTRIBUTE), .val (.int (1 : Int32)), .val (.int (1 : Int32)), .val (.int (0 : Int32))] [(.int (1 : Int32))])) _
    refine XS.goto X3.here hx rfl (pc0 := 58) (pc' := 62) rfl (hb hby at_58) (by decide) (by decide) ?_
    show Steps p.tables e below (T3.setTop (mkF m 62 #[.val (.int i0), .val (.int (3 : Int32)), .val (.ref w_ATTRIBUTE), .val (.int (1 : Int32)), .val (.int (1 : Int32)), .val (.int (0 : Int32))] [(.int (1 : Int32))])) _
    exact retN X3 hx (t := .boolean) Bd.returns (by simp) (hb hby at_62) hr
  · exact ⟨rfl, N3, e3⟩
set_option maxRecDepth 65536 in
set_option maxHeartbeats 40000000 in
theorem rm1_4 (l : Launch) (Z : State) (a0 : Array Value) (hw : ∀ d ∈ tables_1, d.before a0 Z = true) (ws : List Jvm.Cond) (w_BRANCH w_SENSOR w_ACTUATOR w_ATTRIBUTE w_STRUCT w_PROPERTY : Addr) (h0 : Heap) (n0 : Nat) (Z0 : n0 ≤ h0.size) (C : Ctx Z h0 w_BRANCH w_SENSOR w_ACTUATOR w_ATTRIBUTE w_STRUCT w_PROPERTY)  :
    MetFree l (⟨"com/example/telemetree/telemetree/catalog/NodeTypeIsLeafPinLaw", "pick", "(I)Lcom/example/telemetree/telemetree/catalog/NodeType;"⟩ : MethodName) (head1 (Jvm.Cond.code (⟨"com/example/telemetree/telemetree/catalog/NodeTypeIsLeafPinLaw", "pick", "(I)Lcom/example/telemetree/telemetree/catalog/NodeType;"⟩ : MethodName) method_3_code 1 (some (.object "com/example/telemetree/telemetree/catalog/NodeType")) :: ws) ({ frames := 0, cells := 0, slots := 0, locals := 0 } : Room)) (fun a U => a = #[(.int (4 : Int32))] ∧ Z.Warmed39 U.vm ∧ U.heap = h0) (fun _ _ _ _ _ => True) (fun _ U o U' => ∃ v L, o = .returned v ∧ QR h0 n0 (some (.ref w_STRUCT)) v U'.heap L ∧ FrameEnd U o U' L ({ frames := 0, cells := 0, slots := 0, locals := 0 } : Room).cells ({ frames := 0, cells := 0, slots := 0, locals := 0 } : Room).slots) := by
  have S_STRUCT := C.2.2.2.2.2.2.2.2.2.2.2.2.1
  refine MetFree.of_bodySF (plainFor_of_name pn_1) hisR ?_
  intro p e s m args below meth c s₁ Bd hml0 hP hK
  obtain ⟨rfl, hZ, hh⟩ := hP
  have hx := Bd.exec
  have hby := Bd.bytes
  have hml : c.maxLocals = 1 := hml0
  have hown : s.vm.findClass "com/example/telemetree/telemetree/catalog/NodeTypeIsLeafPinLaw" = some m.cls := findClass_of_methodNamed Bd.named
  have hnm := (name_of_methodNamed Bd.named Bd.method).1
  have X0 : Stand p l e ({ frames := 0, cells := 0, slots := 0, locals := 0 } : Room) s m #[(.int (4 : Int32))] below meth c s₁ [] 0 0 := Stand.of_body Bd
  have e0 : s₁.heap = h0 := by rw [← hh, Bd.state]; rfl
  have N0 := Fr.nil n0
  have pre0 : ∀ t, Steps p.tables e below (s₁.setTop (mkF m 0 #[.val (.int (4 : Int32))] [])) t → Steps p.tables e below (s₁.setTop (entryFrame m #[(.int (4 : Int32))] 1)) t := fun t k => castTop (ef_1 m (4 : Int32)) k
  obtain ⟨T1, X1, e1, st1⟩ := getS2 X0 hx hZ hown (host := "") (Or.inl (hw _ (List.mem_of_getElem? (i := 32) rfl))) Via.refl e0 S_STRUCT (g := (mkF m 40 #[.val (.int (4 : Int32))] [])) rfl (hb hby d1_40)
  obtain ⟨fs, hr, hrun, hended, hW, hsame⟩ := X1.leave (v := (some (.ref w_STRUCT))) (fun h => by rw [Bd.returns] at h; cases h)
  refine ⟨_, _, pre0 _ ?_, hrun, hended, _, _, rfl, ?_, ⟨_, rfl⟩, hW, hsame.mono (by decide) (by decide)⟩
  · show Steps p.tables e below (s₁.setTop (mkF m 0 #[.val (.int (4 : Int32))] [])) _
    refine XS.iloadN X0.here hx rfl (hb hby d1_0) rfl ?_
    show Steps p.tables e below (s₁.setTop (mkF m 1 #[.val (.int (4 : Int32))] [(.int (4 : Int32))])) _
    refine XS.ifYes X0.here hx rfl (pc0 := 1) (pc' := 8) rfl (hb hby d1_1) rfl ((if0 _ _).trans (feq (by decide +kernel : ¬ ((4 : Int32) = (0 : Int32)))).2) (by decide) (by decide) ?_
    show Steps p.tables e below (s₁.setTop (mkF m 8 #[.val (.int (4 : Int32))] [])) _
    refine XS.iloadN X0.here hx rfl (hb hby d1_8) rfl ?_
    show Steps p.tables e below (s₁.setTop (mkF m 9 #[.val (.int (4 : Int32))] [(.int (4 : Int32))])) _
    refine XS.iconst X0.here hx rfl (hb hby d1_9) ?_
    show Steps p.tables e below (s₁.setTop (mkF m 10 #[.val (.int (4 : Int32))] [(.int (1 : Int32)), (.int (4 : Int32))])) _
    refine XS.icmpYes X0.here hx rfl (pc0 := 10) (pc' := 17) rfl (hb hby d1_10) rfl (feq (by decide +kernel : ¬ ((4 : Int32) = (1 : Int32)))).2 (by decide) (by decide) ?_
    show Steps p.tables e below (s₁.setTop (mkF m 17 #[.val (.int (4 : Int32))] [])) _
    refine XS.iloadN X0.here hx rfl (hb hby d1_17) rfl ?_
    show Steps p.tables e below (s₁.setTop (mkF m 18 #[.val (.int (4 : Int32))] [(.int (4 : Int32))])) _
    refine XS.iconst X0.here hx rfl (hb hby d1_18) ?_
    show Steps p.tables e below (s₁.setTop (mkF m 19 #[.val (.int (4 : Int32))] [(.int (2 : Int32)), (.int (4 : Int32))])) _
    refine XS.icmpYes X0.here hx rfl (pc0 := 19) (pc' := 26) rfl (hb hby d1_19) rfl (feq (by decide +kernel : ¬ ((4 : Int32) = (2 : Int32)))).2 (by decide) (by decide) ?_
    show Steps p.tables e below (s₁.setTop (mkF m 26 #[.val (.int (4 : Int32))] [])) _
    refine XS.iloadN X0.here hx rfl (hb hby d1_26) rfl ?_
    show Steps p.tables e below (s₁.setTop (mkF m 27 #[.val (.int (4 : Int32))] [(.int (4 : Int32))])) _
    refine XS.iconst X0.here hx rfl (hb hby d1_27) ?_
    show Steps p.tables e below (s₁.setTop (mkF m 28 #[.val (.int (4 : Int32))] [(.int (3 : Int32)), (.int (4 : Int32))])) _
    refine XS.icmpYes X0.here hx rfl (pc0 := 28) (pc' := 35) rfl (hb hby d1_28) rfl (feq (by decide +kernel : ¬ ((4 : Int32) = (3 : Int32)))).2 (by decide) (by decide) ?_
    show Steps p.tables e below (s₁.setTop (mkF m 35 #[.val (.int (4 : Int32))] [])) _
    refine XS.iloadN X0.here hx rfl (hb hby d1_35) rfl ?_
    show Steps p.tables e below (s₁.setTop (mkF m 36 #[.val (.int (4 : Int32))] [(.int (4 : Int32))])) _
    refine XS.iconst X0.here hx rfl (hb hby d1_36) ?_
    show Steps p.tables e below (s₁.setTop (mkF m 37 #[.val (.int (4 : Int32))] [(.int (4 : Int32)), (.int (4 : Int32))])) _
    refine XS.icmpNo X0.here hx rfl (hb hby d1_37) rfl (teq (by decide +kernel : (4 : Int32) = (4 : Int32))).2 ?_
    show Steps p.tables e below (s₁.setTop (mkF m 40 #[.val (.int (4 : Int32))] [])) _
    refine st1 _ ?_
    show Steps p.tables e below (T1.setTop (mkF m 43 #[.val (.int (4 : Int32))] [(.ref w_STRUCT)])) _
    jvm_step X1.here [X1.here.top, hx, (hb hby d1_43), X1.method', Bd.returns, Value.isRef, FieldType.isReference]
    first | (intro acts; rw [hr _ acts rfl rfl rfl]) | rw [hr _ _ rfl rfl rfl]
    exact Steps.refl _
  · exact ⟨rfl, N0, e1⟩
set_option maxRecDepth 65536 in
set_option maxHeartbeats 40000000 in
theorem rm2_4 (l : Launch) (Z : State) (a0 : Array Value) (hw : ∀ d ∈ tables_1, d.before a0 Z = true) (ws : List Jvm.Cond) (w_BRANCH w_SENSOR w_ACTUATOR w_ATTRIBUTE w_STRUCT w_PROPERTY : Addr) (h0 : Heap) (n0 : Nat) (Z0 : n0 ≤ h0.size) (C : Ctx Z h0 w_BRANCH w_SENSOR w_ACTUATOR w_ATTRIBUTE w_STRUCT w_PROPERTY)  :
    MetFree l (⟨"com/example/telemetree/telemetree/catalog/NodeType", "isLeaf", "()Z"⟩ : MethodName) (head1 (Jvm.Cond.code (⟨"com/example/telemetree/telemetree/catalog/NodeType", "isLeaf", "()Z"⟩ : MethodName) prog_6_method_5_code 1 (some .boolean) :: ws) ({ frames := 0, cells := 0, slots := 0, locals := 0 } : Room)) (fun a U => a = #[(.ref w_STRUCT)] ∧ Z.Warmed39 U.vm ∧ U.heap = h0) (fun _ _ _ _ _ => True) (fun _ U o U' => ∃ v L, o = .returned v ∧ QR h0 n0 (some (.int (0 : Int32))) v U'.heap L ∧ FrameEnd U o U' L ({ frames := 0, cells := 0, slots := 0, locals := 0 } : Room).cells ({ frames := 0, cells := 0, slots := 0, locals := 0 } : Room).slots) := by
  have S_SENSOR := C.2.2.2.1
  have F_SENSOR_ordinal := C.2.2.2.2.2.1
  have S_ACTUATOR := C.2.2.2.2.2.2.1
  have F_ACTUATOR_ordinal := C.2.2.2.2.2.2.2.2.1
  have S_ATTRIBUTE := C.2.2.2.2.2.2.2.2.2.1
  have F_ATTRIBUTE_ordinal := C.2.2.2.2.2.2.2.2.2.2.2.1
  have F_STRUCT_ordinal := C.2.2.2.2.2.2.2.2.2.2.2.2.2.2.1
  refine MetFree.of_bodySF (plainFor_of_name pn_2) hisR ?_
  intro p e s m args below meth c s₁ Bd hml0 hP hK
  obtain ⟨rfl, hZ, hh⟩ := hP
  have hx := Bd.exec
  have hby := Bd.bytes
  have hml : c.maxLocals = 1 := hml0
  have hown : s.vm.findClass "com/example/telemetree/telemetree/catalog/NodeType" = some m.cls := findClass_of_methodNamed Bd.named
  have hnm := (name_of_methodNamed Bd.named Bd.method).1
  have X0 : Stand p l e ({ frames := 0, cells := 0, slots := 0, locals := 0 } : Room) s m #[(.ref w_STRUCT)] below meth c s₁ [] 0 0 := Stand.of_body Bd
  have e0 : s₁.heap = h0 := by rw [← hh, Bd.state]; rfl
  have N0 := Fr.nil n0
  have pre0 : ∀ t, Steps p.tables e below (s₁.setTop (mkF m 0 #[.val (.ref w_STRUCT)] [])) t → Steps p.tables e below (s₁.setTop (entryFrame m #[(.ref w_STRUCT)] 1)) t := fun t k => castTop (ef_2 m w_STRUCT) k
  obtain ⟨T1, X1, e1, st1⟩ := getS2 X0 hx hZ hown (host := "") (Or.inl (hw _ (List.mem_of_getElem? (i := 13) rfl))) Via.refl e0 S_SENSOR (g := (mkF m 1 #[.val (.ref w_STRUCT)] [(.ref w_STRUCT)])) rfl (hb hby d2_1)
  obtain ⟨T2, X2, e2, st2⟩ := getS2 X1 hx hZ hown (host := "") (Or.inl (hw _ (List.mem_of_getElem? (i := 15) rfl))) Via.refl e1 S_ACTUATOR (g := (mkF m 8 #[.val (.ref w_STRUCT)] [(.ref w_STRUCT)])) rfl (hb hby d2_8)
  obtain ⟨T3, X3, e3, st3⟩ := getS2 X2 hx hZ hown (host := "") (Or.inl (hw _ (List.mem_of_getElem? (i := 17) rfl))) Via.refl e2 S_ATTRIBUTE (g := (mkF m 15 #[.val (.ref w_STRUCT)] [(.ref w_STRUCT)])) rfl (hb hby d2_15)
  obtain ⟨fs, hr, hrun, hended, hW, hsame⟩ := X3.leave (v := (some (.int (0 : Int32)))) (fun h => by rw [Bd.returns] at h; cases h)
  refine ⟨_, _, pre0 _ ?_, hrun, hended, _, _, rfl, ?_, ⟨_, rfl⟩, hW, hsame.mono (by decide) (by decide)⟩
  · show Steps p.tables e below (s₁.setTop (mkF m 0 #[.val (.ref w_STRUCT)] [])) _
    refine XS.aloadN X0.here hx rfl (hb hby d2_0) rfl rfl ?_
    show Steps p.tables e below (s₁.setTop (mkF m 1 #[.val (.ref w_STRUCT)] [(.ref w_STRUCT)])) _
    refine st1 _ ?_
    show Steps p.tables e below (T1.setTop (mkF m 4 #[.val (.ref w_STRUCT)] [(.ref w_SENSOR), (.ref w_STRUCT)])) _
    refine Jvm.RoadKit.acmp (g := (mkF m 4 #[.val (.ref w_STRUCT)] [(.ref w_SENSOR), (.ref w_STRUCT)])) X1 hx rfl rfl rfl (pc0 := 4) (pc' := 7) (same := false) rfl (hb hby d2_4) rfl (decide_eq_false fun q => (Fld.ne F_STRUCT_ordinal F_SENSOR_ordinal (by simp)) (Value.ref.inj q)) (by decide) (by decide) ?_
    show Steps p.tables e below (T1.setTop (mkF m 7 #[.val (.ref w_STRUCT)] [])) _
    refine XS.aloadN X1.here hx rfl (hb hby d2_7) rfl rfl ?_
    show Steps p.tables e below (T1.setTop (mkF m 8 #[.val (.ref w_STRUCT)] [(.ref w_STRUCT)])) _
    refine st2 _ ?_
    show Steps p.tables e below (T2.setTop (mkF m 11 #[.val (.ref w_STRUCT)] [(.ref w_ACTUATOR), (.ref w_STRUCT)])) _
    refine Jvm.RoadKit.acmp (g := (mkF m 11 #[.val (.ref w_STRUCT)] [(.ref w_ACTUATOR), (.ref w_STRUCT)])) X2 hx rfl rfl rfl (pc0 := 11) (pc' := 14) (same := false) rfl (hb hby d2_11) rfl (decide_eq_false fun q => (Fld.ne F_STRUCT_ordinal F_ACTUATOR_ordinal (by simp)) (Value.ref.inj q)) (by decide) (by decide) ?_
    show Steps p.tables e below (T2.setTop (mkF m 14 #[.val (.ref w_STRUCT)] [])) _
    refine XS.aloadN X2.here hx rfl (hb hby d2_14) rfl rfl ?_
    show Steps p.tables e below (T2.setTop (mkF m 15 #[.val (.ref w_STRUCT)] [(.ref w_STRUCT)])) _
    refine st3 _ ?_
    show Steps p.tables e below (T3.setTop (mkF m 18 #[.val (.ref w_STRUCT)] [(.ref w_ATTRIBUTE), (.ref w_STRUCT)])) _
    refine Jvm.RoadKit.acmp (g := (mkF m 18 #[.val (.ref w_STRUCT)] [(.ref w_ATTRIBUTE), (.ref w_STRUCT)])) X3 hx rfl rfl rfl (pc0 := 18) (pc' := 25) (same := false) rfl (hb hby d2_18) rfl (decide_eq_false fun q => (Fld.ne F_STRUCT_ordinal F_ATTRIBUTE_ordinal (by simp)) (Value.ref.inj q)) (by decide) (by decide) ?_
    show Steps p.tables e below (T3.setTop (mkF m 25 #[.val (.ref w_STRUCT)] [])) _
    refine XS.iconst X3.here hx rfl (hb hby d2_25) ?_
    show Steps p.tables e below (T3.setTop (mkF m 26 #[.val (.ref w_STRUCT)] [(.int (0 : Int32))])) _
    exact retN X3 hx (t := .boolean) Bd.returns (by simp) (hb hby d2_26) hr
  · exact ⟨rfl, N0, e3⟩
set_option maxRecDepth 65536 in
set_option maxHeartbeats 40000000 in
theorem rm3_4 (l : Launch) (Z : State) (a0 : Array Value) (hw : ∀ d ∈ tables_1, d.before a0 Z = true) (ws : List Jvm.Cond) (w_BRANCH w_SENSOR w_ACTUATOR w_ATTRIBUTE w_STRUCT w_PROPERTY : Addr) (h0 : Heap) (n0 : Nat) (Z0 : n0 ≤ h0.size) (C : Ctx Z h0 w_BRANCH w_SENSOR w_ACTUATOR w_ATTRIBUTE w_STRUCT w_PROPERTY)  :
    MetFree l (⟨"com/example/telemetree/telemetree/catalog/NodeType", "holdsNodes", "()Z"⟩ : MethodName) (head1 (Jvm.Cond.code (⟨"com/example/telemetree/telemetree/catalog/NodeType", "holdsNodes", "()Z"⟩ : MethodName) prog_6_method_6_code 1 (some .boolean) :: ws) ({ frames := 0, cells := 0, slots := 0, locals := 0 } : Room)) (fun a U => a = #[(.ref w_STRUCT)] ∧ Z.Warmed39 U.vm ∧ U.heap = h0) (fun _ _ _ _ _ => True) (fun _ U o U' => ∃ v L, o = .returned v ∧ QR h0 n0 (some (.int (1 : Int32))) v U'.heap L ∧ FrameEnd U o U' L ({ frames := 0, cells := 0, slots := 0, locals := 0 } : Room).cells ({ frames := 0, cells := 0, slots := 0, locals := 0 } : Room).slots) := by
  have S_BRANCH := C.1
  have F_BRANCH_ordinal := C.2.2.1
  have S_STRUCT := C.2.2.2.2.2.2.2.2.2.2.2.2.1
  have F_STRUCT_ordinal := C.2.2.2.2.2.2.2.2.2.2.2.2.2.2.1
  refine MetFree.of_bodySF (plainFor_of_name pn_3) hisR ?_
  intro p e s m args below meth c s₁ Bd hml0 hP hK
  obtain ⟨rfl, hZ, hh⟩ := hP
  have hx := Bd.exec
  have hby := Bd.bytes
  have hml : c.maxLocals = 1 := hml0
  have hown : s.vm.findClass "com/example/telemetree/telemetree/catalog/NodeType" = some m.cls := findClass_of_methodNamed Bd.named
  have hnm := (name_of_methodNamed Bd.named Bd.method).1
  have X0 : Stand p l e ({ frames := 0, cells := 0, slots := 0, locals := 0 } : Room) s m #[(.ref w_STRUCT)] below meth c s₁ [] 0 0 := Stand.of_body Bd
  have e0 : s₁.heap = h0 := by rw [← hh, Bd.state]; rfl
  have N0 := Fr.nil n0
  have pre0 : ∀ t, Steps p.tables e below (s₁.setTop (mkF m 0 #[.val (.ref w_STRUCT)] [])) t → Steps p.tables e below (s₁.setTop (entryFrame m #[(.ref w_STRUCT)] 1)) t := fun t k => castTop (ef_3 m w_STRUCT) k
  obtain ⟨T1, X1, e1, st1⟩ := getS2 X0 hx hZ hown (host := "") (Or.inl (hw _ (List.mem_of_getElem? (i := 24) rfl))) Via.refl e0 S_BRANCH (g := (mkF m 1 #[.val (.ref w_STRUCT)] [(.ref w_STRUCT)])) rfl (hb hby d3_1)
  obtain ⟨T2, X2, e2, st2⟩ := getS2 X1 hx hZ hown (host := "") (Or.inl (hw _ (List.mem_of_getElem? (i := 26) rfl))) Via.refl e1 S_STRUCT (g := (mkF m 8 #[.val (.ref w_STRUCT)] [(.ref w_STRUCT)])) rfl (hb hby d3_8)
  obtain ⟨fs, hr, hrun, hended, hW, hsame⟩ := X2.leave (v := (some (.int (1 : Int32)))) (fun h => by rw [Bd.returns] at h; cases h)
  refine ⟨_, _, pre0 _ ?_, hrun, hended, _, _, rfl, ?_, ⟨_, rfl⟩, hW, hsame.mono (by decide) (by decide)⟩
  · show Steps p.tables e below (s₁.setTop (mkF m 0 #[.val (.ref w_STRUCT)] [])) _
    refine XS.aloadN X0.here hx rfl (hb hby d3_0) rfl rfl ?_
    show Steps p.tables e below (s₁.setTop (mkF m 1 #[.val (.ref w_STRUCT)] [(.ref w_STRUCT)])) _
    refine st1 _ ?_
    show Steps p.tables e below (T1.setTop (mkF m 4 #[.val (.ref w_STRUCT)] [(.ref w_BRANCH), (.ref w_STRUCT)])) _
    refine Jvm.RoadKit.acmp (g := (mkF m 4 #[.val (.ref w_STRUCT)] [(.ref w_BRANCH), (.ref w_STRUCT)])) X1 hx rfl rfl rfl (pc0 := 4) (pc' := 7) (same := false) rfl (hb hby d3_4) rfl (decide_eq_false fun q => (Fld.ne F_STRUCT_ordinal F_BRANCH_ordinal (by simp)) (Value.ref.inj q)) (by decide) (by decide) ?_
    show Steps p.tables e below (T1.setTop (mkF m 7 #[.val (.ref w_STRUCT)] [])) _
    refine XS.aloadN X1.here hx rfl (hb hby d3_7) rfl rfl ?_
    show Steps p.tables e below (T1.setTop (mkF m 8 #[.val (.ref w_STRUCT)] [(.ref w_STRUCT)])) _
    refine st2 _ ?_
    show Steps p.tables e below (T2.setTop (mkF m 11 #[.val (.ref w_STRUCT)] [(.ref w_STRUCT), (.ref w_STRUCT)])) _
    refine Jvm.RoadKit.acmp (g := (mkF m 11 #[.val (.ref w_STRUCT)] [(.ref w_STRUCT), (.ref w_STRUCT)])) X2 hx rfl rfl rfl (pc0 := 11) (pc' := 14) (same := true) rfl (hb hby d3_11) rfl (decide_eq_true rfl) (by decide) (by decide) ?_
    show Steps p.tables e below (T2.setTop (mkF m 14 #[.val (.ref w_STRUCT)] [])) _
    refine XS.iconst X2.here hx rfl (hb hby d3_14) ?_
    show Steps p.tables e below (T2.setTop (mkF m 15 #[.val (.ref w_STRUCT)] [(.int (1 : Int32))])) _
    refine XS.goto X2.here hx rfl (pc0 := 15) (pc' := 19) rfl (hb hby d3_15) (by decide) (by decide) ?_
    show Steps p.tables e below (T2.setTop (mkF m 19 #[.val (.ref w_STRUCT)] [(.int (1 : Int32))])) _
    exact retN X2 hx (t := .boolean) Bd.returns (by simp) (hb hby d3_19) hr
  · exact ⟨rfl, N0, e2⟩
set_option maxRecDepth 65536 in
set_option maxHeartbeats 40000000 in
theorem rm0_4 (l : Launch) (Z : State) (a0 : Array Value) (hw : ∀ d ∈ tables_1, d.before a0 Z = true) (ws : List Jvm.Cond) (w_BRANCH w_SENSOR w_ACTUATOR w_ATTRIBUTE w_STRUCT w_PROPERTY : Addr) (i0 : Int32) (h0 : Heap) (n0 : Nat) (Z0 : n0 ≤ h0.size) (C : Ctx Z h0 w_BRANCH w_SENSOR w_ACTUATOR w_ATTRIBUTE w_STRUCT w_PROPERTY) (hv0 : ((i0 &&& (2147483647 : Int32)) % (6 : Int32)) = (4 : Int32)) :
    MetFree l x (head1 (Jvm.Cond.code x code maxLocals ret :: ws) room_1) (fun a U => a = #[(.int i0)] ∧ Z.Warmed39 U.vm ∧ U.heap = h0) (fun _ _ _ _ _ => True) (fun _ U o U' => ∃ v L, o = .returned v ∧ QR h0 n0 (some (.int (1 : Int32))) v U'.heap L ∧ FrameEnd U o U' L room_1.cells room_1.slots) := by
  have E_STRUCT := C.2.2.2.2.2.2.2.2.2.2.2.2.2.1
  refine MetFree.of_bodySF (plainFor_of_name pn_0) hisR ?_
  intro p e s m args below meth c s₁ Bd hml0 hP hK
  obtain ⟨rfl, hZ, hh⟩ := hP
  have hx := Bd.exec
  have hby := Bd.bytes
  have hml : c.maxLocals = 6 := hml0
  have hown : s.vm.findClass "com/example/telemetree/telemetree/catalog/NodeTypeIsLeafPinLaw" = some m.cls := findClass_of_methodNamed Bd.named
  have hnm := (name_of_methodNamed Bd.named Bd.method).1
  have X0 : Stand p l e room_1 s m #[(.int i0)] below meth c s₁ [] 0 0 := Stand.of_body Bd
  have e0 : s₁.heap = h0 := by rw [← hh, Bd.state]; rfl
  have N0 := Fr.nil n0
  have pre0 : ∀ t, Steps p.tables e below (s₁.setTop (mkF m 0 #[.val (.int i0), .unset, .unset, .unset, .unset, .unset] [])) t → Steps p.tables e below (s₁.setTop (entryFrame m #[(.int i0)] maxLocals)) t := fun t k => castTop (ef_0 m i0) k
  obtain ⟨_, _, ⟨T1, L1, k1, n1⟩, -, X1, ⟨Lc1, hQ1, l1, y1, z1⟩, st1⟩ := Jvm.LawKit.callS X0 hx (y := (⟨"com/example/telemetree/telemetree/catalog/NodeTypeIsLeafPinLaw", "pick", "(I)Lcom/example/telemetree/telemetree/catalog/NodeType;"⟩ : MethodName)) hown (mvT hZ (hw _ (List.mem_of_getElem? (i := 1) rfl))) (mvT hZ (hw _ (List.mem_of_getElem? (i := 2) rfl))) (mvT hZ (hw _ (List.mem_of_getElem? (i := 3) rfl))) (mvT hZ (hw _ (List.mem_of_getElem? (i := 4) rfl))) (by decide) (backOf (W := 0) (rm1_4 l Z a0 hw [] w_BRANCH w_SENSOR w_ACTUATOR w_ATTRIBUTE w_STRUCT w_PROPERTY  h0 n0 Z0 C ) hZ (hw _ (List.mem_of_getElem? (i := 4) rfl)) (hw _ (List.mem_of_getElem? (i := 3) rfl)) (by decide) (by decide)) (g := (mkF m 9 #[.val (.int i0), .val (.int (4 : Int32)), .unset, .unset, .unset, .unset] [(.int (4 : Int32))])) rfl (by rw [hml]; rfl) (argsL := [(.int (4 : Int32))]) (rest := []) (lenOf pd_0 rfl) rfl (by show 2 * 0 + _ ≤ _; exact Nat.le_of_eq rfl) (hb hby at_9) (fun _ _ => ⟨rfl, e0, (by decide : 0 + 0 ≤ _), (by decide : 0 + 0 ≤ _)⟩)
  dsimp only [Pt.U, Pt.locs, Pt.cells, Pt.slots] at X1 l1 y1 z1 st1 hQ1
  subst l1 y1 z1
  obtain ⟨rfl, N1q, e1⟩ := hQ1
  have N1 := Fr.app N0 N1q
  obtain ⟨cq2, kq2, q2a, q2b, q2c⟩ := isOf hZ e1 E_STRUCT
  obtain ⟨_, _, ⟨T2, L2, k2, n2⟩, -, X2, ⟨Lc2, hQ2, l2, y2, z2⟩, st2⟩ := X1.virtualBack hx (y := (⟨"com/example/telemetree/telemetree/catalog/NodeType", "isLeaf", "()Z"⟩ : MethodName)) (z := (⟨"com/example/telemetree/telemetree/catalog/NodeType", "isLeaf", "()Z"⟩ : MethodName)) hown (mvT hZ (hw _ (List.mem_of_getElem? (i := 8) rfl))) (mvT hZ (hw _ (List.mem_of_getElem? (i := 9) rfl))) (notFace_of_selects (args := #[]) (mvT hZ (hw _ (List.mem_of_getElem? (i := 11) rfl)))) (mvT hZ (hw _ (List.mem_of_getElem? (i := 11) rfl))) (mvT hZ (hw _ (List.mem_of_getElem? (i := 10) rfl))) (by decide) (backOf (W := 0) (rm2_4 l Z a0 hw [] w_BRANCH w_SENSOR w_ACTUATOR w_ATTRIBUTE w_STRUCT w_PROPERTY  h0 n0 Z0 C ) hZ (hw _ (List.mem_of_getElem? (i := 12) rfl)) (hw _ (List.mem_of_getElem? (i := 6) rfl)) (by decide) (by decide)) q2a q2c (g := (mkF m 30 #[.val (.int i0), .val (.int (4 : Int32)), .val (.ref w_STRUCT), .val (.int (0 : Int32)), .unset, .unset] [(.ref w_STRUCT)])) rfl (by rw [hml]; rfl) (Steps.refl _) (argsL := []) (rest := []) (lenOf pd_1 rfl) rfl (by show 2 * 0 + _ ≤ _; exact Nat.le_of_eq rfl) (hb hby at_30) (fun _ _ => ⟨rfl, e1, (by decide : 0 + 0 ≤ _), (by decide : 0 + 0 ≤ _)⟩)
  dsimp only [Pt.U, Pt.locs, Pt.cells, Pt.slots] at X2 l2 y2 z2 st2 hQ2
  subst l2 y2 z2
  obtain ⟨rfl, N2q, e2⟩ := hQ2
  have N2 := Fr.app N1 N2q
  obtain ⟨cq3, kq3, q3a, q3b, q3c⟩ := isOf hZ e2 E_STRUCT
  obtain ⟨_, _, ⟨T3, L3, k3, n3⟩, -, X3, ⟨Lc3, hQ3, l3, y3, z3⟩, st3⟩ := X2.virtualBack hx (y := (⟨"com/example/telemetree/telemetree/catalog/NodeType", "holdsNodes", "()Z"⟩ : MethodName)) (z := (⟨"com/example/telemetree/telemetree/catalog/NodeType", "holdsNodes", "()Z"⟩ : MethodName)) hown (mvT hZ (hw _ (List.mem_of_getElem? (i := 19) rfl))) (mvT hZ (hw _ (List.mem_of_getElem? (i := 20) rfl))) (notFace_of_selects (args := #[]) (mvT hZ (hw _ (List.mem_of_getElem? (i := 22) rfl)))) (mvT hZ (hw _ (List.mem_of_getElem? (i := 22) rfl))) (mvT hZ (hw _ (List.mem_of_getElem? (i := 21) rfl))) (by decide) (backOf (W := 0) (rm3_4 l Z a0 hw [] w_BRANCH w_SENSOR w_ACTUATOR w_ATTRIBUTE w_STRUCT w_PROPERTY  h0 n0 Z0 C ) hZ (hw _ (List.mem_of_getElem? (i := 23) rfl)) (hw _ (List.mem_of_getElem? (i := 6) rfl)) (by decide) (by decide)) q3a q3c (g := (mkF m 36 #[.val (.int i0), .val (.int (4 : Int32)), .val (.ref w_STRUCT), .val (.int (0 : Int32)), .val (.int (0 : Int32)), .unset] [(.ref w_STRUCT)])) rfl (by rw [hml]; rfl) (Steps.refl _) (argsL := []) (rest := []) (lenOf pd_1 rfl) rfl (by show 2 * 0 + _ ≤ _; exact Nat.le_of_eq rfl) (hb hby at_36) (fun _ _ => ⟨rfl, e2, (by decide : 0 + 0 ≤ _), (by decide : 0 + 0 ≤ _)⟩)
  dsimp only [Pt.U, Pt.locs, Pt.cells, Pt.slots] at X3 l3 y3 z3 st3 hQ3
  subst l3 y3 z3
  obtain ⟨rfl, N3q, e3⟩ := hQ3
  have N3 := Fr.app N2 N3q
  obtain ⟨fs, hr, hrun, hended, hW, hsame⟩ := X3.leave (v := (some (.int (1 : Int32)))) (fun h => by rw [Bd.returns] at h; cases h)
  refine ⟨_, _, pre0 _ ?_, hrun, hended, _, _, rfl, ?_, ⟨_, rfl⟩, hW, hsame.mono (by decide) (by decide)⟩
  · show Steps p.tables e below (s₁.setTop (mkF m 0 #[.val (.int i0), .unset, .unset, .unset, .unset, .unset] [])) _
    refine XS.iloadN X0.here hx rfl (hb hby at_0) rfl ?_
    show Steps p.tables e below (s₁.setTop (mkF m 1 #[.val (.int i0), .unset, .unset, .unset, .unset, .unset] [(.int i0)])) _
    refine X0.ldcInt hx hown (mvT hZ (hw _ (List.mem_of_getElem? (i := 0) rfl))) (g := (mkF m 1 #[.val (.int i0), .unset, .unset, .unset, .unset, .unset] [(.int i0)])) rfl (hb hby at_1) _ ?_
    show Steps p.tables e below (s₁.setTop (mkF m 3 #[.val (.int i0), .unset, .unset, .unset, .unset, .unset] [(.int (2147483647 : Int32)), (.int i0)])) _
    refine XS.iand X0.here hx rfl (hb hby at_3) rfl ?_
    show Steps p.tables e below (s₁.setTop (mkF m 4 #[.val (.int i0), .unset, .unset, .unset, .unset, .unset] [(.int (i0 &&& (2147483647 : Int32)))])) _
    refine XS.bipush X0.here hx rfl (hb hby at_4) ?_
    show Steps p.tables e below (s₁.setTop (mkF m 6 #[.val (.int i0), .unset, .unset, .unset, .unset, .unset] [(.int (6 : Int32)), (.int (i0 &&& (2147483647 : Int32)))])) _
    refine iremM (g := (mkF m 6 #[.val (.int i0), .unset, .unset, .unset, .unset, .unset] [(.int (6 : Int32)), (.int (i0 &&& (2147483647 : Int32)))])) X0 hx rfl (hb hby at_6) rfl (by decide) ?_
    show Steps p.tables e below (s₁.setTop (mkF m 7 #[.val (.int i0), .unset, .unset, .unset, .unset, .unset] [(.int ((i0 &&& (2147483647 : Int32)) % (6 : Int32)))])) _
    rw [hv0]
    show Steps p.tables e below (s₁.setTop (mkF m 7 #[.val (.int i0), .unset, .unset, .unset, .unset, .unset] [(.int (4 : Int32))])) _
    refine XS.istoreN X0.here hx rfl (hb hby at_7) rfl (l' := #[.val (.int i0), .val (.int (4 : Int32)), .unset, .unset, .unset, .unset]) rfl ?_
    show Steps p.tables e below (s₁.setTop (mkF m 8 #[.val (.int i0), .val (.int (4 : Int32)), .unset, .unset, .unset, .unset] [])) _
    refine XS.iloadN X0.here hx rfl (hb hby at_8) rfl ?_
    show Steps p.tables e below (s₁.setTop (mkF m 9 #[.val (.int i0), .val (.int (4 : Int32)), .unset, .unset, .unset, .unset] [(.int (4 : Int32))])) _
    refine st1 _ ?_
    show Steps p.tables e below (T1.setTop (mkF m 12 #[.val (.int i0), .val (.int (4 : Int32)), .unset, .unset, .unset, .unset] [(.ref w_STRUCT)])) _
    refine XS.astoreN X1.here hx rfl (hb hby at_12) rfl rfl (l' := #[.val (.int i0), .val (.int (4 : Int32)), .val (.ref w_STRUCT), .unset, .unset, .unset]) rfl ?_
    show Steps p.tables e below (T1.setTop (mkF m 13 #[.val (.int i0), .val (.int (4 : Int32)), .val (.ref w_STRUCT), .unset, .unset, .unset] [])) _
    refine XS.iloadN X1.here hx rfl (hb hby at_13) rfl ?_
    show Steps p.tables e below (T1.setTop (mkF m 14 #[.val (.int i0), .val (.int (4 : Int32)), .val (.ref w_STRUCT), .unset, .unset, .unset] [(.int (4 : Int32))])) _
    refine XS.iconst X1.here hx rfl (hb hby at_14) ?_
    show Steps p.tables e below (T1.setTop (mkF m 15 #[.val (.int i0), .val (.int (4 : Int32)), .val (.ref w_STRUCT), .unset, .unset, .unset] [(.int (1 : Int32)), (.int (4 : Int32))])) _
    refine XS.icmpNo X1.here hx rfl (hb hby at_15) rfl (flt (by decide +kernel : ¬ ((4 : Int32) < (1 : Int32)))).1 ?_
    show Steps p.tables e below (T1.setTop (mkF m 18 #[.val (.int i0), .val (.int (4 : Int32)), .val (.ref w_STRUCT), .unset, .unset, .unset] [])) _
    refine XS.iloadN X1.here hx rfl (hb hby at_18) rfl ?_
    show Steps p.tables e below (T1.setTop (mkF m 19 #[.val (.int i0), .val (.int (4 : Int32)), .val (.ref w_STRUCT), .unset, .unset, .unset] [(.int (4 : Int32))])) _
    refine XS.iconst X1.here hx rfl (hb hby at_19) ?_
    show Steps p.tables e below (T1.setTop (mkF m 20 #[.val (.int i0), .val (.int (4 : Int32)), .val (.ref w_STRUCT), .unset, .unset, .unset] [(.int (3 : Int32)), (.int (4 : Int32))])) _
    refine XS.icmpYes X1.here hx rfl (pc0 := 20) (pc' := 27) rfl (hb hby at_20) rfl (tlt (by decide +kernel : (3 : Int32) < (4 : Int32))).2.2.1 (by decide) (by decide) ?_
    show Steps p.tables e below (T1.setTop (mkF m 27 #[.val (.int i0), .val (.int (4 : Int32)), .val (.ref w_STRUCT), .unset, .unset, .unset] [])) _
    refine XS.iconst X1.here hx rfl (hb hby at_27) ?_
    show Steps p.tables e below (T1.setTop (mkF m 28 #[.val (.int i0), .val (.int (4 : Int32)), .val (.ref w_STRUCT), .unset, .unset, .unset] [(.int (0 : Int32))])) _
    refine XS.istoreN X1.here hx rfl (hb hby at_28) rfl (l' := #[.val (.int i0), .val (.int (4 : Int32)), .val (.ref w_STRUCT), .val (.int (0 : Int32)), .unset, .unset]) rfl ?_
    show Steps p.tables e below (T1.setTop (mkF m 29 #[.val (.int i0), .val (.int (4 : Int32)), .val (.ref w_STRUCT), .val (.int (0 : Int32)), .unset, .unset] [])) _
    refine XS.aloadN X1.here hx rfl (hb hby at_29) rfl rfl ?_
    show Steps p.tables e below (T1.setTop (mkF m 30 #[.val (.int i0), .val (.int (4 : Int32)), .val (.ref w_STRUCT), .val (.int (0 : Int32)), .unset, .unset] [(.ref w_STRUCT)])) _
    refine st2.trans ?_
    show Steps p.tables e below (T2.setTop (mkF m 33 #[.val (.int i0), .val (.int (4 : Int32)), .val (.ref w_STRUCT), .val (.int (0 : Int32)), .unset, .unset] [(.int (0 : Int32))])) _
    refine XS.istore X2.here hx rfl (hb hby at_33) rfl (l' := #[.val (.int i0), .val (.int (4 : Int32)), .val (.ref w_STRUCT), .val (.int (0 : Int32)), .val (.int (0 : Int32)), .unset]) rfl ?_
    show Steps p.tables e below (T2.setTop (mkF m 35 #[.val (.int i0), .val (.int (4 : Int32)), .val (.ref w_STRUCT), .val (.int (0 : Int32)), .val (.int (0 : Int32)), .unset] [])) _
    refine XS.aloadN X2.here hx rfl (hb hby at_35) rfl rfl ?_
    show Steps p.tables e below (T2.setTop (mkF m 36 #[.val (.int i0), .val (.int (4 : Int32)), .val (.ref w_STRUCT), .val (.int (0 : Int32)), .val (.int (0 : Int32)), .unset] [(.ref w_STRUCT)])) _
    refine st3.trans ?_
    show Steps p.tables e below (T3.setTop (mkF m 39 #[.val (.int i0), .val (.int (4 : Int32)), .val (.ref w_STRUCT), .val (.int (0 : Int32)), .val (.int (0 : Int32)), .unset] [(.int (1 : Int32))])) _
    refine XS.istore X3.here hx rfl (hb hby at_39) rfl (l' := #[.val (.int i0), .val (.int (4 : Int32)), .val (.ref w_STRUCT), .val (.int (0 : Int32)), .val (.int (0 : Int32)), .val (.int (1 : Int32))]) rfl ?_
    show Steps p.tables e below (T3.setTop (mkF m 41 #[.val (.int i0), .val (.int (4 : Int32)), .val (.ref w_STRUCT), .val (.int (0 : Int32)), .val (.int (0 : Int32)), .val (.int (1 : Int32))] [])) _
    refine XS.iload X3.here hx rfl (hb hby at_41) rfl ?_
    show Steps p.tables e below (T3.setTop (mkF m 43 #[.val (.int i0), .val (.int (4 : Int32)), .val (.ref w_STRUCT), .val (.int (0 : Int32)), .val (.int (0 : Int32)), .val (.int (1 : Int32))] [(.int (0 : Int32))])) _
    refine XS.iloadN X3.here hx rfl (hb hby at_43) rfl ?_
    show Steps p.tables e below (T3.setTop (mkF m 44 #[.val (.int i0), .val (.int (4 : Int32)), .val (.ref w_STRUCT), .val (.int (0 : Int32)), .val (.int (0 : Int32)), .val (.int (1 : Int32))] [(.int (0 : Int32)), (.int (0 : Int32))])) _
    refine XS.icmpNo X3.here hx rfl (hb hby at_44) rfl (teq (by decide +kernel : (0 : Int32) = (0 : Int32))).2 ?_
    show Steps p.tables e below (T3.setTop (mkF m 47 #[.val (.int i0), .val (.int (4 : Int32)), .val (.ref w_STRUCT), .val (.int (0 : Int32)), .val (.int (0 : Int32)), .val (.int (1 : Int32))] [])) _
    refine XS.iload X3.here hx rfl (hb hby at_47) rfl ?_
    show Steps p.tables e below (T3.setTop (mkF m 49 #[.val (.int i0), .val (.int (4 : Int32)), .val (.ref w_STRUCT), .val (.int (0 : Int32)), .val (.int (0 : Int32)), .val (.int (1 : Int32))] [(.int (0 : Int32))])) _
    refine XS.ifYes X3.here hx rfl (pc0 := 49) (pc' := 57) rfl (hb hby at_49) rfl ((if0 _ _).trans (teq (by decide +kernel : (0 : Int32) = (0 : Int32))).1) (by decide) (by decide) ?_
    show Steps p.tables e below (T3.setTop (mkF m 57 #[.val (.int i0), .val (.int (4 : Int32)), .val (.ref w_STRUCT), .val (.int (0 : Int32)), .val (.int (0 : Int32)), .val (.int (1 : Int32))] [])) _
    refine XS.iconst X3.here hx rfl (hb hby at_57) ?_
    show Steps p.tables e below (T3.setTop (mkF m 58 #[.val (.int i0), .val (.int (4 : Int32)), .val (.ref w_STRUCT), .val (.int (0 : Int32)), .val (.int (0 : Int32)), .val (.int (1 : Int32))] [(.int (1 : Int32))])) _
    refine XS.goto X3.here hx rfl (pc0 := 58) (pc' := 62) rfl (hb hby at_58) (by decide) (by decide) ?_
    show Steps p.tables e below (T3.setTop (mkF m 62 #[.val (.int i0), .val (.int (4 : Int32)), .val (.ref w_STRUCT), .val (.int (0 : Int32)), .val (.int (0 : Int32)), .val (.int (1 : Int32))] [(.int (1 : Int32))])) _
    exact retN X3 hx (t := .boolean) Bd.returns (by simp) (hb hby at_62) hr
  · exact ⟨rfl, N3, e3⟩
set_option maxRecDepth 65536 in
set_option maxHeartbeats 40000000 in
theorem rm1_5 (l : Launch) (Z : State) (a0 : Array Value) (hw : ∀ d ∈ tables_1, d.before a0 Z = true) (ws : List Jvm.Cond) (w_BRANCH w_SENSOR w_ACTUATOR w_ATTRIBUTE w_STRUCT w_PROPERTY : Addr) (h0 : Heap) (n0 : Nat) (Z0 : n0 ≤ h0.size) (C : Ctx Z h0 w_BRANCH w_SENSOR w_ACTUATOR w_ATTRIBUTE w_STRUCT w_PROPERTY)  :
    MetFree l (⟨"com/example/telemetree/telemetree/catalog/NodeTypeIsLeafPinLaw", "pick", "(I)Lcom/example/telemetree/telemetree/catalog/NodeType;"⟩ : MethodName) (head1 (Jvm.Cond.code (⟨"com/example/telemetree/telemetree/catalog/NodeTypeIsLeafPinLaw", "pick", "(I)Lcom/example/telemetree/telemetree/catalog/NodeType;"⟩ : MethodName) method_3_code 1 (some (.object "com/example/telemetree/telemetree/catalog/NodeType")) :: ws) ({ frames := 0, cells := 0, slots := 0, locals := 0 } : Room)) (fun a U => a = #[(.int (5 : Int32))] ∧ Z.Warmed39 U.vm ∧ U.heap = h0) (fun _ _ _ _ _ => True) (fun _ U o U' => ∃ v L, o = .returned v ∧ QR h0 n0 (some (.ref w_PROPERTY)) v U'.heap L ∧ FrameEnd U o U' L ({ frames := 0, cells := 0, slots := 0, locals := 0 } : Room).cells ({ frames := 0, cells := 0, slots := 0, locals := 0 } : Room).slots) := by
  have S_PROPERTY := C.2.2.2.2.2.2.2.2.2.2.2.2.2.2.2.1
  refine MetFree.of_bodySF (plainFor_of_name pn_1) hisR ?_
  intro p e s m args below meth c s₁ Bd hml0 hP hK
  obtain ⟨rfl, hZ, hh⟩ := hP
  have hx := Bd.exec
  have hby := Bd.bytes
  have hml : c.maxLocals = 1 := hml0
  have hown : s.vm.findClass "com/example/telemetree/telemetree/catalog/NodeTypeIsLeafPinLaw" = some m.cls := findClass_of_methodNamed Bd.named
  have hnm := (name_of_methodNamed Bd.named Bd.method).1
  have X0 : Stand p l e ({ frames := 0, cells := 0, slots := 0, locals := 0 } : Room) s m #[(.int (5 : Int32))] below meth c s₁ [] 0 0 := Stand.of_body Bd
  have e0 : s₁.heap = h0 := by rw [← hh, Bd.state]; rfl
  have N0 := Fr.nil n0
  have pre0 : ∀ t, Steps p.tables e below (s₁.setTop (mkF m 0 #[.val (.int (5 : Int32))] [])) t → Steps p.tables e below (s₁.setTop (entryFrame m #[(.int (5 : Int32))] 1)) t := fun t k => castTop (ef_1 m (5 : Int32)) k
  obtain ⟨T1, X1, e1, st1⟩ := getS2 X0 hx hZ hown (host := "") (Or.inl (hw _ (List.mem_of_getElem? (i := 30) rfl))) Via.refl e0 S_PROPERTY (g := (mkF m 44 #[.val (.int (5 : Int32))] [])) rfl (hb hby d1_44)
  obtain ⟨fs, hr, hrun, hended, hW, hsame⟩ := X1.leave (v := (some (.ref w_PROPERTY))) (fun h => by rw [Bd.returns] at h; cases h)
  refine ⟨_, _, pre0 _ ?_, hrun, hended, _, _, rfl, ?_, ⟨_, rfl⟩, hW, hsame.mono (by decide) (by decide)⟩
  · show Steps p.tables e below (s₁.setTop (mkF m 0 #[.val (.int (5 : Int32))] [])) _
    refine XS.iloadN X0.here hx rfl (hb hby d1_0) rfl ?_
    show Steps p.tables e below (s₁.setTop (mkF m 1 #[.val (.int (5 : Int32))] [(.int (5 : Int32))])) _
    refine XS.ifYes X0.here hx rfl (pc0 := 1) (pc' := 8) rfl (hb hby d1_1) rfl ((if0 _ _).trans (feq (by decide +kernel : ¬ ((5 : Int32) = (0 : Int32)))).2) (by decide) (by decide) ?_
    show Steps p.tables e below (s₁.setTop (mkF m 8 #[.val (.int (5 : Int32))] [])) _
    refine XS.iloadN X0.here hx rfl (hb hby d1_8) rfl ?_
    show Steps p.tables e below (s₁.setTop (mkF m 9 #[.val (.int (5 : Int32))] [(.int (5 : Int32))])) _
    refine XS.iconst X0.here hx rfl (hb hby d1_9) ?_
    show Steps p.tables e below (s₁.setTop (mkF m 10 #[.val (.int (5 : Int32))] [(.int (1 : Int32)), (.int (5 : Int32))])) _
    refine XS.icmpYes X0.here hx rfl (pc0 := 10) (pc' := 17) rfl (hb hby d1_10) rfl (feq (by decide +kernel : ¬ ((5 : Int32) = (1 : Int32)))).2 (by decide) (by decide) ?_
    show Steps p.tables e below (s₁.setTop (mkF m 17 #[.val (.int (5 : Int32))] [])) _
    refine XS.iloadN X0.here hx rfl (hb hby d1_17) rfl ?_
    show Steps p.tables e below (s₁.setTop (mkF m 18 #[.val (.int (5 : Int32))] [(.int (5 : Int32))])) _
    refine XS.iconst X0.here hx rfl (hb hby d1_18) ?_
    show Steps p.tables e below (s₁.setTop (mkF m 19 #[.val (.int (5 : Int32))] [(.int (2 : Int32)), (.int (5 : Int32))])) _
    refine XS.icmpYes X0.here hx rfl (pc0 := 19) (pc' := 26) rfl (hb hby d1_19) rfl (feq (by decide +kernel : ¬ ((5 : Int32) = (2 : Int32)))).2 (by decide) (by decide) ?_
    show Steps p.tables e below (s₁.setTop (mkF m 26 #[.val (.int (5 : Int32))] [])) _
    refine XS.iloadN X0.here hx rfl (hb hby d1_26) rfl ?_
    show Steps p.tables e below (s₁.setTop (mkF m 27 #[.val (.int (5 : Int32))] [(.int (5 : Int32))])) _
    refine XS.iconst X0.here hx rfl (hb hby d1_27) ?_
    show Steps p.tables e below (s₁.setTop (mkF m 28 #[.val (.int (5 : Int32))] [(.int (3 : Int32)), (.int (5 : Int32))])) _
    refine XS.icmpYes X0.here hx rfl (pc0 := 28) (pc' := 35) rfl (hb hby d1_28) rfl (feq (by decide +kernel : ¬ ((5 : Int32) = (3 : Int32)))).2 (by decide) (by decide) ?_
    show Steps p.tables e below (s₁.setTop (mkF m 35 #[.val (.int (5 : Int32))] [])) _
    refine XS.iloadN X0.here hx rfl (hb hby d1_35) rfl ?_
    show Steps p.tables e below (s₁.setTop (mkF m 36 #[.val (.int (5 : Int32))] [(.int (5 : Int32))])) _
    refine XS.iconst X0.here hx rfl (hb hby d1_36) ?_
    show Steps p.tables e below (s₁.setTop (mkF m 37 #[.val (.int (5 : Int32))] [(.int (4 : Int32)), (.int (5 : Int32))])) _
    refine XS.icmpYes X0.here hx rfl (pc0 := 37) (pc' := 44) rfl (hb hby d1_37) rfl (feq (by decide +kernel : ¬ ((5 : Int32) = (4 : Int32)))).2 (by decide) (by decide) ?_
    show Steps p.tables e below (s₁.setTop (mkF m 44 #[.val (.int (5 : Int32))] [])) _
    refine st1 _ ?_
    show Steps p.tables e below (T1.setTop (mkF m 47 #[.val (.int (5 : Int32))] [(.ref w_PROPERTY)])) _
    jvm_step X1.here [X1.here.top, hx, (hb hby d1_47), X1.method', Bd.returns, Value.isRef, FieldType.isReference]
    first | (intro acts; rw [hr _ acts rfl rfl rfl]) | rw [hr _ _ rfl rfl rfl]
    exact Steps.refl _
  · exact ⟨rfl, N0, e1⟩
set_option maxRecDepth 65536 in
set_option maxHeartbeats 40000000 in
theorem rm2_5 (l : Launch) (Z : State) (a0 : Array Value) (hw : ∀ d ∈ tables_1, d.before a0 Z = true) (ws : List Jvm.Cond) (w_BRANCH w_SENSOR w_ACTUATOR w_ATTRIBUTE w_STRUCT w_PROPERTY : Addr) (h0 : Heap) (n0 : Nat) (Z0 : n0 ≤ h0.size) (C : Ctx Z h0 w_BRANCH w_SENSOR w_ACTUATOR w_ATTRIBUTE w_STRUCT w_PROPERTY)  :
    MetFree l (⟨"com/example/telemetree/telemetree/catalog/NodeType", "isLeaf", "()Z"⟩ : MethodName) (head1 (Jvm.Cond.code (⟨"com/example/telemetree/telemetree/catalog/NodeType", "isLeaf", "()Z"⟩ : MethodName) prog_6_method_5_code 1 (some .boolean) :: ws) ({ frames := 0, cells := 0, slots := 0, locals := 0 } : Room)) (fun a U => a = #[(.ref w_PROPERTY)] ∧ Z.Warmed39 U.vm ∧ U.heap = h0) (fun _ _ _ _ _ => True) (fun _ U o U' => ∃ v L, o = .returned v ∧ QR h0 n0 (some (.int (0 : Int32))) v U'.heap L ∧ FrameEnd U o U' L ({ frames := 0, cells := 0, slots := 0, locals := 0 } : Room).cells ({ frames := 0, cells := 0, slots := 0, locals := 0 } : Room).slots) := by
  have S_SENSOR := C.2.2.2.1
  have F_SENSOR_ordinal := C.2.2.2.2.2.1
  have S_ACTUATOR := C.2.2.2.2.2.2.1
  have F_ACTUATOR_ordinal := C.2.2.2.2.2.2.2.2.1
  have S_ATTRIBUTE := C.2.2.2.2.2.2.2.2.2.1
  have F_ATTRIBUTE_ordinal := C.2.2.2.2.2.2.2.2.2.2.2.1
  have F_PROPERTY_ordinal := C.2.2.2.2.2.2.2.2.2.2.2.2.2.2.2.2.2.1
  refine MetFree.of_bodySF (plainFor_of_name pn_2) hisR ?_
  intro p e s m args below meth c s₁ Bd hml0 hP hK
  obtain ⟨rfl, hZ, hh⟩ := hP
  have hx := Bd.exec
  have hby := Bd.bytes
  have hml : c.maxLocals = 1 := hml0
  have hown : s.vm.findClass "com/example/telemetree/telemetree/catalog/NodeType" = some m.cls := findClass_of_methodNamed Bd.named
  have hnm := (name_of_methodNamed Bd.named Bd.method).1
  have X0 : Stand p l e ({ frames := 0, cells := 0, slots := 0, locals := 0 } : Room) s m #[(.ref w_PROPERTY)] below meth c s₁ [] 0 0 := Stand.of_body Bd
  have e0 : s₁.heap = h0 := by rw [← hh, Bd.state]; rfl
  have N0 := Fr.nil n0
  have pre0 : ∀ t, Steps p.tables e below (s₁.setTop (mkF m 0 #[.val (.ref w_PROPERTY)] [])) t → Steps p.tables e below (s₁.setTop (entryFrame m #[(.ref w_PROPERTY)] 1)) t := fun t k => castTop (ef_2 m w_PROPERTY) k
  obtain ⟨T1, X1, e1, st1⟩ := getS2 X0 hx hZ hown (host := "") (Or.inl (hw _ (List.mem_of_getElem? (i := 13) rfl))) Via.refl e0 S_SENSOR (g := (mkF m 1 #[.val (.ref w_PROPERTY)] [(.ref w_PROPERTY)])) rfl (hb hby d2_1)
  obtain ⟨T2, X2, e2, st2⟩ := getS2 X1 hx hZ hown (host := "") (Or.inl (hw _ (List.mem_of_getElem? (i := 15) rfl))) Via.refl e1 S_ACTUATOR (g := (mkF m 8 #[.val (.ref w_PROPERTY)] [(.ref w_PROPERTY)])) rfl (hb hby d2_8)
  obtain ⟨T3, X3, e3, st3⟩ := getS2 X2 hx hZ hown (host := "") (Or.inl (hw _ (List.mem_of_getElem? (i := 17) rfl))) Via.refl e2 S_ATTRIBUTE (g := (mkF m 15 #[.val (.ref w_PROPERTY)] [(.ref w_PROPERTY)])) rfl (hb hby d2_15)
  obtain ⟨fs, hr, hrun, hended, hW, hsame⟩ := X3.leave (v := (some (.int (0 : Int32)))) (fun h => by rw [Bd.returns] at h; cases h)
  refine ⟨_, _, pre0 _ ?_, hrun, hended, _, _, rfl, ?_, ⟨_, rfl⟩, hW, hsame.mono (by decide) (by decide)⟩
  · show Steps p.tables e below (s₁.setTop (mkF m 0 #[.val (.ref w_PROPERTY)] [])) _
    refine XS.aloadN X0.here hx rfl (hb hby d2_0) rfl rfl ?_
    show Steps p.tables e below (s₁.setTop (mkF m 1 #[.val (.ref w_PROPERTY)] [(.ref w_PROPERTY)])) _
    refine st1 _ ?_
    show Steps p.tables e below (T1.setTop (mkF m 4 #[.val (.ref w_PROPERTY)] [(.ref w_SENSOR), (.ref w_PROPERTY)])) _
    refine Jvm.RoadKit.acmp (g := (mkF m 4 #[.val (.ref w_PROPERTY)] [(.ref w_SENSOR), (.ref w_PROPERTY)])) X1 hx rfl rfl rfl (pc0 := 4) (pc' := 7) (same := false) rfl (hb hby d2_4) rfl (decide_eq_false fun q => (Fld.ne F_PROPERTY_ordinal F_SENSOR_ordinal (by simp)) (Value.ref.inj q)) (by decide) (by decide) ?_
    show Steps p.tables e below (T1.setTop (mkF m 7 #[.val (.ref w_PROPERTY)] [])) _
    refine XS.aloadN X1.here hx rfl (hb hby d2_7) rfl rfl ?_
    show Steps p.tables e below (T1.setTop (mkF m 8 #[.val (.ref w_PROPERTY)] [(.ref w_PROPERTY)])) _
    refine st2 _ ?_
    show Steps p.tables e below (T2.setTop (mkF m 11 #[.val (.ref w_PROPERTY)] [(.ref w_ACTUATOR), (.ref w_PROPERTY)])) _
    refine Jvm.RoadKit.acmp (g := (mkF m 11 #[.val (.ref w_PROPERTY)] [(.ref w_ACTUATOR), (.ref w_PROPERTY)])) X2 hx rfl rfl rfl (pc0 := 11) (pc' := 14) (same := false) rfl (hb hby d2_11) rfl (decide_eq_false fun q => (Fld.ne F_PROPERTY_ordinal F_ACTUATOR_ordinal (by simp)) (Value.ref.inj q)) (by decide) (by decide) ?_
    show Steps p.tables e below (T2.setTop (mkF m 14 #[.val (.ref w_PROPERTY)] [])) _
    refine XS.aloadN X2.here hx rfl (hb hby d2_14) rfl rfl ?_
    show Steps p.tables e below (T2.setTop (mkF m 15 #[.val (.ref w_PROPERTY)] [(.ref w_PROPERTY)])) _
    refine st3 _ ?_
    show Steps p.tables e below (T3.setTop (mkF m 18 #[.val (.ref w_PROPERTY)] [(.ref w_ATTRIBUTE), (.ref w_PROPERTY)])) _
    refine Jvm.RoadKit.acmp (g := (mkF m 18 #[.val (.ref w_PROPERTY)] [(.ref w_ATTRIBUTE), (.ref w_PROPERTY)])) X3 hx rfl rfl rfl (pc0 := 18) (pc' := 25) (same := false) rfl (hb hby d2_18) rfl (decide_eq_false fun q => (Fld.ne F_PROPERTY_ordinal F_ATTRIBUTE_ordinal (by simp)) (Value.ref.inj q)) (by decide) (by decide) ?_
    show Steps p.tables e below (T3.setTop (mkF m 25 #[.val (.ref w_PROPERTY)] [])) _
    refine XS.iconst X3.here hx rfl (hb hby d2_25) ?_
    show Steps p.tables e below (T3.setTop (mkF m 26 #[.val (.ref w_PROPERTY)] [(.int (0 : Int32))])) _
    exact retN X3 hx (t := .boolean) Bd.returns (by simp) (hb hby d2_26) hr
  · exact ⟨rfl, N0, e3⟩
set_option maxRecDepth 65536 in
set_option maxHeartbeats 40000000 in
theorem rm3_5 (l : Launch) (Z : State) (a0 : Array Value) (hw : ∀ d ∈ tables_1, d.before a0 Z = true) (ws : List Jvm.Cond) (w_BRANCH w_SENSOR w_ACTUATOR w_ATTRIBUTE w_STRUCT w_PROPERTY : Addr) (h0 : Heap) (n0 : Nat) (Z0 : n0 ≤ h0.size) (C : Ctx Z h0 w_BRANCH w_SENSOR w_ACTUATOR w_ATTRIBUTE w_STRUCT w_PROPERTY)  :
    MetFree l (⟨"com/example/telemetree/telemetree/catalog/NodeType", "holdsNodes", "()Z"⟩ : MethodName) (head1 (Jvm.Cond.code (⟨"com/example/telemetree/telemetree/catalog/NodeType", "holdsNodes", "()Z"⟩ : MethodName) prog_6_method_6_code 1 (some .boolean) :: ws) ({ frames := 0, cells := 0, slots := 0, locals := 0 } : Room)) (fun a U => a = #[(.ref w_PROPERTY)] ∧ Z.Warmed39 U.vm ∧ U.heap = h0) (fun _ _ _ _ _ => True) (fun _ U o U' => ∃ v L, o = .returned v ∧ QR h0 n0 (some (.int (0 : Int32))) v U'.heap L ∧ FrameEnd U o U' L ({ frames := 0, cells := 0, slots := 0, locals := 0 } : Room).cells ({ frames := 0, cells := 0, slots := 0, locals := 0 } : Room).slots) := by
  have S_BRANCH := C.1
  have F_BRANCH_ordinal := C.2.2.1
  have S_STRUCT := C.2.2.2.2.2.2.2.2.2.2.2.2.1
  have F_STRUCT_ordinal := C.2.2.2.2.2.2.2.2.2.2.2.2.2.2.1
  have F_PROPERTY_ordinal := C.2.2.2.2.2.2.2.2.2.2.2.2.2.2.2.2.2.1
  refine MetFree.of_bodySF (plainFor_of_name pn_3) hisR ?_
  intro p e s m args below meth c s₁ Bd hml0 hP hK
  obtain ⟨rfl, hZ, hh⟩ := hP
  have hx := Bd.exec
  have hby := Bd.bytes
  have hml : c.maxLocals = 1 := hml0
  have hown : s.vm.findClass "com/example/telemetree/telemetree/catalog/NodeType" = some m.cls := findClass_of_methodNamed Bd.named
  have hnm := (name_of_methodNamed Bd.named Bd.method).1
  have X0 : Stand p l e ({ frames := 0, cells := 0, slots := 0, locals := 0 } : Room) s m #[(.ref w_PROPERTY)] below meth c s₁ [] 0 0 := Stand.of_body Bd
  have e0 : s₁.heap = h0 := by rw [← hh, Bd.state]; rfl
  have N0 := Fr.nil n0
  have pre0 : ∀ t, Steps p.tables e below (s₁.setTop (mkF m 0 #[.val (.ref w_PROPERTY)] [])) t → Steps p.tables e below (s₁.setTop (entryFrame m #[(.ref w_PROPERTY)] 1)) t := fun t k => castTop (ef_3 m w_PROPERTY) k
  obtain ⟨T1, X1, e1, st1⟩ := getS2 X0 hx hZ hown (host := "") (Or.inl (hw _ (List.mem_of_getElem? (i := 24) rfl))) Via.refl e0 S_BRANCH (g := (mkF m 1 #[.val (.ref w_PROPERTY)] [(.ref w_PROPERTY)])) rfl (hb hby d3_1)
  obtain ⟨T2, X2, e2, st2⟩ := getS2 X1 hx hZ hown (host := "") (Or.inl (hw _ (List.mem_of_getElem? (i := 26) rfl))) Via.refl e1 S_STRUCT (g := (mkF m 8 #[.val (.ref w_PROPERTY)] [(.ref w_PROPERTY)])) rfl (hb hby d3_8)
  obtain ⟨fs, hr, hrun, hended, hW, hsame⟩ := X2.leave (v := (some (.int (0 : Int32)))) (fun h => by rw [Bd.returns] at h; cases h)
  refine ⟨_, _, pre0 _ ?_, hrun, hended, _, _, rfl, ?_, ⟨_, rfl⟩, hW, hsame.mono (by decide) (by decide)⟩
  · show Steps p.tables e below (s₁.setTop (mkF m 0 #[.val (.ref w_PROPERTY)] [])) _
    refine XS.aloadN X0.here hx rfl (hb hby d3_0) rfl rfl ?_
    show Steps p.tables e below (s₁.setTop (mkF m 1 #[.val (.ref w_PROPERTY)] [(.ref w_PROPERTY)])) _
    refine st1 _ ?_
    show Steps p.tables e below (T1.setTop (mkF m 4 #[.val (.ref w_PROPERTY)] [(.ref w_BRANCH), (.ref w_PROPERTY)])) _
    refine Jvm.RoadKit.acmp (g := (mkF m 4 #[.val (.ref w_PROPERTY)] [(.ref w_BRANCH), (.ref w_PROPERTY)])) X1 hx rfl rfl rfl (pc0 := 4) (pc' := 7) (same := false) rfl (hb hby d3_4) rfl (decide_eq_false fun q => (Fld.ne F_PROPERTY_ordinal F_BRANCH_ordinal (by simp)) (Value.ref.inj q)) (by decide) (by decide) ?_
    show Steps p.tables e below (T1.setTop (mkF m 7 #[.val (.ref w_PROPERTY)] [])) _
    refine XS.aloadN X1.here hx rfl (hb hby d3_7) rfl rfl ?_
    show Steps p.tables e below (T1.setTop (mkF m 8 #[.val (.ref w_PROPERTY)] [(.ref w_PROPERTY)])) _
    refine st2 _ ?_
    show Steps p.tables e below (T2.setTop (mkF m 11 #[.val (.ref w_PROPERTY)] [(.ref w_STRUCT), (.ref w_PROPERTY)])) _
    refine Jvm.RoadKit.acmp (g := (mkF m 11 #[.val (.ref w_PROPERTY)] [(.ref w_STRUCT), (.ref w_PROPERTY)])) X2 hx rfl rfl rfl (pc0 := 11) (pc' := 18) (same := false) rfl (hb hby d3_11) rfl (decide_eq_false fun q => (Fld.ne F_PROPERTY_ordinal F_STRUCT_ordinal (by simp)) (Value.ref.inj q)) (by decide) (by decide) ?_
    show Steps p.tables e below (T2.setTop (mkF m 18 #[.val (.ref w_PROPERTY)] [])) _
    refine XS.iconst X2.here hx rfl (hb hby d3_18) ?_
    show Steps p.tables e below (T2.setTop (mkF m 19 #[.val (.ref w_PROPERTY)] [(.int (0 : Int32))])) _
    exact retN X2 hx (t := .boolean) Bd.returns (by simp) (hb hby d3_19) hr
  · exact ⟨rfl, N0, e2⟩
set_option maxRecDepth 65536 in
set_option maxHeartbeats 40000000 in
theorem rm0_5 (l : Launch) (Z : State) (a0 : Array Value) (hw : ∀ d ∈ tables_1, d.before a0 Z = true) (ws : List Jvm.Cond) (w_BRANCH w_SENSOR w_ACTUATOR w_ATTRIBUTE w_STRUCT w_PROPERTY : Addr) (i0 : Int32) (h0 : Heap) (n0 : Nat) (Z0 : n0 ≤ h0.size) (C : Ctx Z h0 w_BRANCH w_SENSOR w_ACTUATOR w_ATTRIBUTE w_STRUCT w_PROPERTY) (hv0 : ((i0 &&& (2147483647 : Int32)) % (6 : Int32)) = (5 : Int32)) :
    MetFree l x (head1 (Jvm.Cond.code x code maxLocals ret :: ws) room_1) (fun a U => a = #[(.int i0)] ∧ Z.Warmed39 U.vm ∧ U.heap = h0) (fun _ _ _ _ _ => True) (fun _ U o U' => ∃ v L, o = .returned v ∧ QR h0 n0 (some (.int (1 : Int32))) v U'.heap L ∧ FrameEnd U o U' L room_1.cells room_1.slots) := by
  have E_PROPERTY := C.2.2.2.2.2.2.2.2.2.2.2.2.2.2.2.2.1
  refine MetFree.of_bodySF (plainFor_of_name pn_0) hisR ?_
  intro p e s m args below meth c s₁ Bd hml0 hP hK
  obtain ⟨rfl, hZ, hh⟩ := hP
  have hx := Bd.exec
  have hby := Bd.bytes
  have hml : c.maxLocals = 6 := hml0
  have hown : s.vm.findClass "com/example/telemetree/telemetree/catalog/NodeTypeIsLeafPinLaw" = some m.cls := findClass_of_methodNamed Bd.named
  have hnm := (name_of_methodNamed Bd.named Bd.method).1
  have X0 : Stand p l e room_1 s m #[(.int i0)] below meth c s₁ [] 0 0 := Stand.of_body Bd
  have e0 : s₁.heap = h0 := by rw [← hh, Bd.state]; rfl
  have N0 := Fr.nil n0
  have pre0 : ∀ t, Steps p.tables e below (s₁.setTop (mkF m 0 #[.val (.int i0), .unset, .unset, .unset, .unset, .unset] [])) t → Steps p.tables e below (s₁.setTop (entryFrame m #[(.int i0)] maxLocals)) t := fun t k => castTop (ef_0 m i0) k
  obtain ⟨_, _, ⟨T1, L1, k1, n1⟩, -, X1, ⟨Lc1, hQ1, l1, y1, z1⟩, st1⟩ := Jvm.LawKit.callS X0 hx (y := (⟨"com/example/telemetree/telemetree/catalog/NodeTypeIsLeafPinLaw", "pick", "(I)Lcom/example/telemetree/telemetree/catalog/NodeType;"⟩ : MethodName)) hown (mvT hZ (hw _ (List.mem_of_getElem? (i := 1) rfl))) (mvT hZ (hw _ (List.mem_of_getElem? (i := 2) rfl))) (mvT hZ (hw _ (List.mem_of_getElem? (i := 3) rfl))) (mvT hZ (hw _ (List.mem_of_getElem? (i := 4) rfl))) (by decide) (backOf (W := 0) (rm1_5 l Z a0 hw [] w_BRANCH w_SENSOR w_ACTUATOR w_ATTRIBUTE w_STRUCT w_PROPERTY  h0 n0 Z0 C ) hZ (hw _ (List.mem_of_getElem? (i := 4) rfl)) (hw _ (List.mem_of_getElem? (i := 3) rfl)) (by decide) (by decide)) (g := (mkF m 9 #[.val (.int i0), .val (.int (5 : Int32)), .unset, .unset, .unset, .unset] [(.int (5 : Int32))])) rfl (by rw [hml]; rfl) (argsL := [(.int (5 : Int32))]) (rest := []) (lenOf pd_0 rfl) rfl (by show 2 * 0 + _ ≤ _; exact Nat.le_of_eq rfl) (hb hby at_9) (fun _ _ => ⟨rfl, e0, (by decide : 0 + 0 ≤ _), (by decide : 0 + 0 ≤ _)⟩)
  dsimp only [Pt.U, Pt.locs, Pt.cells, Pt.slots] at X1 l1 y1 z1 st1 hQ1
  subst l1 y1 z1
  obtain ⟨rfl, N1q, e1⟩ := hQ1
  have N1 := Fr.app N0 N1q
  obtain ⟨cq2, kq2, q2a, q2b, q2c⟩ := isOf hZ e1 E_PROPERTY
  obtain ⟨_, _, ⟨T2, L2, k2, n2⟩, -, X2, ⟨Lc2, hQ2, l2, y2, z2⟩, st2⟩ := X1.virtualBack hx (y := (⟨"com/example/telemetree/telemetree/catalog/NodeType", "isLeaf", "()Z"⟩ : MethodName)) (z := (⟨"com/example/telemetree/telemetree/catalog/NodeType", "isLeaf", "()Z"⟩ : MethodName)) hown (mvT hZ (hw _ (List.mem_of_getElem? (i := 8) rfl))) (mvT hZ (hw _ (List.mem_of_getElem? (i := 9) rfl))) (notFace_of_selects (args := #[]) (mvT hZ (hw _ (List.mem_of_getElem? (i := 11) rfl)))) (mvT hZ (hw _ (List.mem_of_getElem? (i := 11) rfl))) (mvT hZ (hw _ (List.mem_of_getElem? (i := 10) rfl))) (by decide) (backOf (W := 0) (rm2_5 l Z a0 hw [] w_BRANCH w_SENSOR w_ACTUATOR w_ATTRIBUTE w_STRUCT w_PROPERTY  h0 n0 Z0 C ) hZ (hw _ (List.mem_of_getElem? (i := 12) rfl)) (hw _ (List.mem_of_getElem? (i := 6) rfl)) (by decide) (by decide)) q2a q2c (g := (mkF m 30 #[.val (.int i0), .val (.int (5 : Int32)), .val (.ref w_PROPERTY), .val (.int (0 : Int32)), .unset, .unset] [(.ref w_PROPERTY)])) rfl (by rw [hml]; rfl) (Steps.refl _) (argsL := []) (rest := []) (lenOf pd_1 rfl) rfl (by show 2 * 0 + _ ≤ _; exact Nat.le_of_eq rfl) (hb hby at_30) (fun _ _ => ⟨rfl, e1, (by decide : 0 + 0 ≤ _), (by decide : 0 + 0 ≤ _)⟩)
  dsimp only [Pt.U, Pt.locs, Pt.cells, Pt.slots] at X2 l2 y2 z2 st2 hQ2
  subst l2 y2 z2
  obtain ⟨rfl, N2q, e2⟩ := hQ2
  have N2 := Fr.app N1 N2q
  obtain ⟨cq3, kq3, q3a, q3b, q3c⟩ := isOf hZ e2 E_PROPERTY
  obtain ⟨_, _, ⟨T3, L3, k3, n3⟩, -, X3, ⟨Lc3, hQ3, l3, y3, z3⟩, st3⟩ := X2.virtualBack hx (y := (⟨"com/example/telemetree/telemetree/catalog/NodeType", "holdsNodes", "()Z"⟩ : MethodName)) (z := (⟨"com/example/telemetree/telemetree/catalog/NodeType", "holdsNodes", "()Z"⟩ : MethodName)) hown (mvT hZ (hw _ (List.mem_of_getElem? (i := 19) rfl))) (mvT hZ (hw _ (List.mem_of_getElem? (i := 20) rfl))) (notFace_of_selects (args := #[]) (mvT hZ (hw _ (List.mem_of_getElem? (i := 22) rfl)))) (mvT hZ (hw _ (List.mem_of_getElem? (i := 22) rfl))) (mvT hZ (hw _ (List.mem_of_getElem? (i := 21) rfl))) (by decide) (backOf (W := 0) (rm3_5 l Z a0 hw [] w_BRANCH w_SENSOR w_ACTUATOR w_ATTRIBUTE w_STRUCT w_PROPERTY  h0 n0 Z0 C ) hZ (hw _ (List.mem_of_getElem? (i := 23) rfl)) (hw _ (List.mem_of_getElem? (i := 6) rfl)) (by decide) (by decide)) q3a q3c (g := (mkF m 36 #[.val (.int i0), .val (.int (5 : Int32)), .val (.ref w_PROPERTY), .val (.int (0 : Int32)), .val (.int (0 : Int32)), .unset] [(.ref w_PROPERTY)])) rfl (by rw [hml]; rfl) (Steps.refl _) (argsL := []) (rest := []) (lenOf pd_1 rfl) rfl (by show 2 * 0 + _ ≤ _; exact Nat.le_of_eq rfl) (hb hby at_36) (fun _ _ => ⟨rfl, e2, (by decide : 0 + 0 ≤ _), (by decide : 0 + 0 ≤ _)⟩)
  dsimp only [Pt.U, Pt.locs, Pt.cells, Pt.slots] at X3 l3 y3 z3 st3 hQ3
  subst l3 y3 z3
  obtain ⟨rfl, N3q, e3⟩ := hQ3
  have N3 := Fr.app N2 N3q
  obtain ⟨fs, hr, hrun, hended, hW, hsame⟩ := X3.leave (v := (some (.int (1 : Int32)))) (fun h => by rw [Bd.returns] at h; cases h)
  refine ⟨_, _, pre0 _ ?_, hrun, hended, _, _, rfl, ?_, ⟨_, rfl⟩, hW, hsame.mono (by decide) (by decide)⟩
  · show Steps p.tables e below (s₁.setTop (mkF m 0 #[.val (.int i0), .unset, .unset, .unset, .unset, .unset] [])) _
    refine XS.iloadN X0.here hx rfl (hb hby at_0) rfl ?_
    show Steps p.tables e below (s₁.setTop (mkF m 1 #[.val (.int i0), .unset, .unset, .unset, .unset, .unset] [(.int i0)])) _
    refine X0.ldcInt hx hown (mvT hZ (hw _ (List.mem_of_getElem? (i := 0) rfl))) (g := (mkF m 1 #[.val (.int i0), .unset, .unset, .unset, .unset, .unset] [(.int i0)])) rfl (hb hby at_1) _ ?_
    show Steps p.tables e below (s₁.setTop (mkF m 3 #[.val (.int i0), .unset, .unset, .unset, .unset, .unset] [(.int (2147483647 : Int32)), (.int i0)])) _
    refine XS.iand X0.here hx rfl (hb hby at_3) rfl ?_
    show Steps p.tables e below (s₁.setTop (mkF m 4 #[.val (.int i0), .unset, .unset, .unset, .unset, .unset] [(.int (i0 &&& (2147483647 : Int32)))])) _
    refine XS.bipush X0.here hx rfl (hb hby at_4) ?_
    show Steps p.tables e below (s₁.setTop (mkF m 6 #[.val (.int i0), .unset, .unset, .unset, .unset, .unset] [(.int (6 : Int32)), (.int (i0 &&& (2147483647 : Int32)))])) _
    refine iremM (g := (mkF m 6 #[.val (.int i0), .unset, .unset, .unset, .unset, .unset] [(.int (6 : Int32)), (.int (i0 &&& (2147483647 : Int32)))])) X0 hx rfl (hb hby at_6) rfl (by decide) ?_
    show Steps p.tables e below (s₁.setTop (mkF m 7 #[.val (.int i0), .unset, .unset, .unset, .unset, .unset] [(.int ((i0 &&& (2147483647 : Int32)) % (6 : Int32)))])) _
    rw [hv0]
    show Steps p.tables e below (s₁.setTop (mkF m 7 #[.val (.int i0), .unset, .unset, .unset, .unset, .unset] [(.int (5 : Int32))])) _
    refine XS.istoreN X0.here hx rfl (hb hby at_7) rfl (l' := #[.val (.int i0), .val (.int (5 : Int32)), .unset, .unset, .unset, .unset]) rfl ?_
    show Steps p.tables e below (s₁.setTop (mkF m 8 #[.val (.int i0), .val (.int (5 : Int32)), .unset, .unset, .unset, .unset] [])) _
    refine XS.iloadN X0.here hx rfl (hb hby at_8) rfl ?_
    show Steps p.tables e below (s₁.setTop (mkF m 9 #[.val (.int i0), .val (.int (5 : Int32)), .unset, .unset, .unset, .unset] [(.int (5 : Int32))])) _
    refine st1 _ ?_
    show Steps p.tables e below (T1.setTop (mkF m 12 #[.val (.int i0), .val (.int (5 : Int32)), .unset, .unset, .unset, .unset] [(.ref w_PROPERTY)])) _
    refine XS.astoreN X1.here hx rfl (hb hby at_12) rfl rfl (l' := #[.val (.int i0), .val (.int (5 : Int32)), .val (.ref w_PROPERTY), .unset, .unset, .unset]) rfl ?_
    show Steps p.tables e below (T1.setTop (mkF m 13 #[.val (.int i0), .val (.int (5 : Int32)), .val (.ref w_PROPERTY), .unset, .unset, .unset] [])) _
    refine XS.iloadN X1.here hx rfl (hb hby at_13) rfl ?_
    show Steps p.tables e below (T1.setTop (mkF m 14 #[.val (.int i0), .val (.int (5 : Int32)), .val (.ref w_PROPERTY), .unset, .unset, .unset] [(.int (5 : Int32))])) _
    refine XS.iconst X1.here hx rfl (hb hby at_14) ?_
    show Steps p.tables e below (T1.setTop (mkF m 15 #[.val (.int i0), .val (.int (5 : Int32)), .val (.ref w_PROPERTY), .unset, .unset, .unset] [(.int (1 : Int32)), (.int (5 : Int32))])) _
    refine XS.icmpNo X1.here hx rfl (hb hby at_15) rfl (flt (by decide +kernel : ¬ ((5 : Int32) < (1 : Int32)))).1 ?_
    show Steps p.tables e below (T1.setTop (mkF m 18 #[.val (.int i0), .val (.int (5 : Int32)), .val (.ref w_PROPERTY), .unset, .unset, .unset] [])) _
    refine XS.iloadN X1.here hx rfl (hb hby at_18) rfl ?_
    show Steps p.tables e below (T1.setTop (mkF m 19 #[.val (.int i0), .val (.int (5 : Int32)), .val (.ref w_PROPERTY), .unset, .unset, .unset] [(.int (5 : Int32))])) _
    refine XS.iconst X1.here hx rfl (hb hby at_19) ?_
    show Steps p.tables e below (T1.setTop (mkF m 20 #[.val (.int i0), .val (.int (5 : Int32)), .val (.ref w_PROPERTY), .unset, .unset, .unset] [(.int (3 : Int32)), (.int (5 : Int32))])) _
    refine XS.icmpYes X1.here hx rfl (pc0 := 20) (pc' := 27) rfl (hb hby at_20) rfl (tlt (by decide +kernel : (3 : Int32) < (5 : Int32))).2.2.1 (by decide) (by decide) ?_
    show Steps p.tables e below (T1.setTop (mkF m 27 #[.val (.int i0), .val (.int (5 : Int32)), .val (.ref w_PROPERTY), .unset, .unset, .unset] [])) _
    refine XS.iconst X1.here hx rfl (hb hby at_27) ?_
    show Steps p.tables e below (T1.setTop (mkF m 28 #[.val (.int i0), .val (.int (5 : Int32)), .val (.ref w_PROPERTY), .unset, .unset, .unset] [(.int (0 : Int32))])) _
    refine XS.istoreN X1.here hx rfl (hb hby at_28) rfl (l' := #[.val (.int i0), .val (.int (5 : Int32)), .val (.ref w_PROPERTY), .val (.int (0 : Int32)), .unset, .unset]) rfl ?_
    show Steps p.tables e below (T1.setTop (mkF m 29 #[.val (.int i0), .val (.int (5 : Int32)), .val (.ref w_PROPERTY), .val (.int (0 : Int32)), .unset, .unset] [])) _
    refine XS.aloadN X1.here hx rfl (hb hby at_29) rfl rfl ?_
    show Steps p.tables e below (T1.setTop (mkF m 30 #[.val (.int i0), .val (.int (5 : Int32)), .val (.ref w_PROPERTY), .val (.int (0 : Int32)), .unset, .unset] [(.ref w_PROPERTY)])) _
    refine st2.trans ?_
    show Steps p.tables e below (T2.setTop (mkF m 33 #[.val (.int i0), .val (.int (5 : Int32)), .val (.ref w_PROPERTY), .val (.int (0 : Int32)), .unset, .unset] [(.int (0 : Int32))])) _
    refine XS.istore X2.here hx rfl (hb hby at_33) rfl (l' := #[.val (.int i0), .val (.int (5 : Int32)), .val (.ref w_PROPERTY), .val (.int (0 : Int32)), .val (.int (0 : Int32)), .unset]) rfl ?_
    show Steps p.tables e below (T2.setTop (mkF m 35 #[.val (.int i0), .val (.int (5 : Int32)), .val (.ref w_PROPERTY), .val (.int (0 : Int32)), .val (.int (0 : Int32)), .unset] [])) _
    refine XS.aloadN X2.here hx rfl (hb hby at_35) rfl rfl ?_
    show Steps p.tables e below (T2.setTop (mkF m 36 #[.val (.int i0), .val (.int (5 : Int32)), .val (.ref w_PROPERTY), .val (.int (0 : Int32)), .val (.int (0 : Int32)), .unset] [(.ref w_PROPERTY)])) _
    refine st3.trans ?_
    show Steps p.tables e below (T3.setTop (mkF m 39 #[.val (.int i0), .val (.int (5 : Int32)), .val (.ref w_PROPERTY), .val (.int (0 : Int32)), .val (.int (0 : Int32)), .unset] [(.int (0 : Int32))])) _
    refine XS.istore X3.here hx rfl (hb hby at_39) rfl (l' := #[.val (.int i0), .val (.int (5 : Int32)), .val (.ref w_PROPERTY), .val (.int (0 : Int32)), .val (.int (0 : Int32)), .val (.int (0 : Int32))]) rfl ?_
    show Steps p.tables e below (T3.setTop (mkF m 41 #[.val (.int i0), .val (.int (5 : Int32)), .val (.ref w_PROPERTY), .val (.int (0 : Int32)), .val (.int (0 : Int32)), .val (.int (0 : Int32))] [])) _
    refine XS.iload X3.here hx rfl (hb hby at_41) rfl ?_
    show Steps p.tables e below (T3.setTop (mkF m 43 #[.val (.int i0), .val (.int (5 : Int32)), .val (.ref w_PROPERTY), .val (.int (0 : Int32)), .val (.int (0 : Int32)), .val (.int (0 : Int32))] [(.int (0 : Int32))])) _
    refine XS.iloadN X3.here hx rfl (hb hby at_43) rfl ?_
    show Steps p.tables e below (T3.setTop (mkF m 44 #[.val (.int i0), .val (.int (5 : Int32)), .val (.ref w_PROPERTY), .val (.int (0 : Int32)), .val (.int (0 : Int32)), .val (.int (0 : Int32))] [(.int (0 : Int32)), (.int (0 : Int32))])) _
    refine XS.icmpNo X3.here hx rfl (hb hby at_44) rfl (teq (by decide +kernel : (0 : Int32) = (0 : Int32))).2 ?_
    show Steps p.tables e below (T3.setTop (mkF m 47 #[.val (.int i0), .val (.int (5 : Int32)), .val (.ref w_PROPERTY), .val (.int (0 : Int32)), .val (.int (0 : Int32)), .val (.int (0 : Int32))] [])) _
    refine XS.iload X3.here hx rfl (hb hby at_47) rfl ?_
    show Steps p.tables e below (T3.setTop (mkF m 49 #[.val (.int i0), .val (.int (5 : Int32)), .val (.ref w_PROPERTY), .val (.int (0 : Int32)), .val (.int (0 : Int32)), .val (.int (0 : Int32))] [(.int (0 : Int32))])) _
    refine XS.ifYes X3.here hx rfl (pc0 := 49) (pc' := 57) rfl (hb hby at_49) rfl ((if0 _ _).trans (teq (by decide +kernel : (0 : Int32) = (0 : Int32))).1) (by decide) (by decide) ?_
    show Steps p.tables e below (T3.setTop (mkF m 57 #[.val (.int i0), .val (.int (5 : Int32)), .val (.ref w_PROPERTY), .val (.int (0 : Int32)), .val (.int (0 : Int32)), .val (.int (0 : Int32))] [])) _
    refine XS.iconst X3.here hx rfl (hb hby at_57) ?_
    show Steps p.tables e below (T3.setTop (mkF m 58 #[.val (.int i0), .val (.int (5 : Int32)), .val (.ref w_PROPERTY), .val (.int (0 : Int32)), .val (.int (0 : Int32)), .val (.int (0 : Int32))] [(.int (1 : Int32))])) _
    refine XS.goto X3.here hx rfl (pc0 := 58) (pc' := 62) rfl (hb hby at_58) (by decide) (by decide) ?_
    show Steps p.tables e below (T3.setTop (mkF m 62 #[.val (.int i0), .val (.int (5 : Int32)), .val (.ref w_PROPERTY), .val (.int (0 : Int32)), .val (.int (0 : Int32)), .val (.int (0 : Int32))] [(.int (1 : Int32))])) _
    exact retN X3 hx (t := .boolean) Bd.returns (by simp) (hb hby at_62) hr
  · exact ⟨rfl, N3, e3⟩
set_option maxRecDepth 65536 in
set_option maxHeartbeats 40000000 in
theorem comes_1 {Post : Tables → Env → Array Value → State → Outcome → State → Prop} (hpost : ∀ tb e args s v u, (limb_1_1.after args s (.returned v) u = true ∧ limb_1_2.after args s (.returned v) u = true ∧ True) → FrameEnd s (.returned v) u (Jvm.fieldLocs frame_1_writes args s ++ Jvm.arrayLocs frame_1_arrays args s ++ Jvm.staticLocs frame_1_statics s) 0 0 → Post tb e args s (.returned v) u) :
    ArmFor flags0 classFile x code maxLocals ret World_1 tables_1 room_1 Calls_1 rest_1 Pre_1 Post := by
  intro l hfl _ _ p e ha hc hk s m args below hf hA hF happ hP
  obtain ⟨hcalls, hrest, hpre⟩ := hP
  obtain ⟨-, -, -, hnamed, -, -, -, hat⟩ := (Spec.applies_iff hf).mp happ
  obtain ⟨hg, hn⟩ := and_e (Cond.before_iff.mp (show (Jvm.Cond.and given_1 narrow_1).before args s = true from hpre))
  obtain ⟨gc, g0⟩ := and_e hg
  obtain ⟨v0, rfl⟩ : ∃ v0 : Value, args = #[v0] := by
    have hs : args.size = 1 := by simpa [Cond.value, given_1] using gc
    obtain ⟨L⟩ := args
    match L, hs with
    | [v0], _ => exact ⟨v0, rfl⟩
  have hw := fun d (hd : d ∈ tables_1) => atoms_spec (ws := Jvm.Cond.code x code maxLocals ret :: tables_1) hat d (List.mem_cons_of_mem _ hd)
  obtain ⟨i0, ei0⟩ := is_v g0
  obtain rfl : v0 = (.int i0) := Option.some.inj ei0
  obtain ⟨n0, n1⟩ := and_e hn
  obtain ⟨n2, n3⟩ := and_e n1
  obtain ⟨n4, n5⟩ := and_e n3
  obtain ⟨n6, n7⟩ := and_e n5
  obtain ⟨n8, n9⟩ := and_e n7
  obtain ⟨n10, n11⟩ := and_e n9
  obtain ⟨n12, n13⟩ := and_e n11
  obtain ⟨n14, n15⟩ := and_e n13
  obtain ⟨n16, n17⟩ := and_e n15
  obtain ⟨n18, n19⟩ := and_e n17
  obtain ⟨n20, n21⟩ := and_e n19
  obtain ⟨w_BRANCH, ev_BRANCH⟩ := exa_v n0
  have E_BRANCH := Exa.start ev_BRANCH n0
  have S_BRANCH := Sta.start ev_BRANCH (Or.inr ⟨(hw _ (List.mem_of_getElem? (i := 6) rfl)), (hw _ (List.mem_of_getElem? (i := 7) rfl))⟩)
  obtain ⟨w_SENSOR, ev_SENSOR⟩ := exa_v n2
  have E_SENSOR := Exa.start ev_SENSOR n2
  have S_SENSOR := Sta.start ev_SENSOR (Or.inr ⟨(hw _ (List.mem_of_getElem? (i := 6) rfl)), (hw _ (List.mem_of_getElem? (i := 14) rfl))⟩)
  obtain ⟨w_ACTUATOR, ev_ACTUATOR⟩ := exa_v n8
  have E_ACTUATOR := Exa.start ev_ACTUATOR n8
  have S_ACTUATOR := Sta.start ev_ACTUATOR (Or.inr ⟨(hw _ (List.mem_of_getElem? (i := 6) rfl)), (hw _ (List.mem_of_getElem? (i := 16) rfl))⟩)
  obtain ⟨w_ATTRIBUTE, ev_ATTRIBUTE⟩ := exa_v n12
  have E_ATTRIBUTE := Exa.start ev_ATTRIBUTE n12
  have S_ATTRIBUTE := Sta.start ev_ATTRIBUTE (Or.inr ⟨(hw _ (List.mem_of_getElem? (i := 6) rfl)), (hw _ (List.mem_of_getElem? (i := 18) rfl))⟩)
  obtain ⟨w_STRUCT, ev_STRUCT⟩ := exa_v n16
  have E_STRUCT := Exa.start ev_STRUCT n16
  have S_STRUCT := Sta.start ev_STRUCT (Or.inr ⟨(hw _ (List.mem_of_getElem? (i := 6) rfl)), (hw _ (List.mem_of_getElem? (i := 27) rfl))⟩)
  obtain ⟨w_PROPERTY, ev_PROPERTY⟩ := exa_v n20
  have E_PROPERTY := Exa.start ev_PROPERTY n20
  have S_PROPERTY := Sta.start ev_PROPERTY (Or.inr ⟨(hw _ (List.mem_of_getElem? (i := 6) rfl)), (hw _ (List.mem_of_getElem? (i := 31) rfl))⟩)
  have F_BRANCH_ordinal := own_fldI ev_BRANCH n4
  have F_SENSOR_ordinal := own_fldI ev_SENSOR n6
  have F_ACTUATOR_ordinal := own_fldI ev_ACTUATOR n10
  have F_ATTRIBUTE_ordinal := own_fldI ev_ATTRIBUTE n14
  have F_STRUCT_ordinal := own_fldI ev_STRUCT n18
  have F_PROPERTY_ordinal := own_fldI ev_PROPERTY n21
  have ctx : Ctx s s.heap w_BRANCH w_SENSOR w_ACTUATOR w_ATTRIBUTE w_STRUCT w_PROPERTY := ⟨S_BRANCH, E_BRANCH, F_BRANCH_ordinal, S_SENSOR, E_SENSOR, F_SENSOR_ordinal, S_ACTUATOR, E_ACTUATOR, F_ACTUATOR_ordinal, S_ATTRIBUTE, E_ATTRIBUTE, F_ATTRIBUTE_ordinal, S_STRUCT, E_STRUCT, F_STRUCT_ordinal, S_PROPERTY, E_PROPERTY, F_PROPERTY_ordinal, trivial⟩
  suffices M : MetFree l x (head1 (Jvm.Cond.code x code maxLocals ret :: tables_1) room_1) (fun a U => a = #[(.int i0)] ∧ s.Warmed39 U.vm ∧ U.heap = s.heap) (fun _ _ _ _ _ => True) (fun _ U o U' => ∃ v L, o = .returned v ∧ QR s.heap s.heap.size (some (.int (1 : Int32))) v U'.heap L ∧ FrameEnd U o U' L room_1.cells room_1.slots) by
    obtain ⟨n, o, h1, h2, h3, _, L, rfl, ⟨rfl, N, -⟩, hq⟩ := M p e ha hc hk s m _ below hf ((Spec.applies_iff_loose hf).mp happ).1 ⟨rfl, State.Warmed39.refl s, rfl⟩ trivial
    exact ⟨n, _, h1, h2, h3, hpost _ _ _ _ _ _ ⟨Cond.after_iff.mpr rfl, Cond.after_iff.mpr (eq_i res_at (Term.int_eval (1)) rfl), trivial⟩ ⟨hq.1, hq.2.1, (hq.2.2.sift fun y hy => Or.inr (N y hy)).mono (by decide) (by decide)⟩⟩
  rcases own_r6 i0 with hv0 | hv0 | hv0 | hv0 | hv0 | hv0
  ·
    exact rm0_0 l s _ hw tables_1 w_BRANCH w_SENSOR w_ACTUATOR w_ATTRIBUTE w_STRUCT w_PROPERTY i0 s.heap s.heap.size (Nat.le_refl _) ctx hv0
  ·
    exact rm0_1 l s _ hw tables_1 w_BRANCH w_SENSOR w_ACTUATOR w_ATTRIBUTE w_STRUCT w_PROPERTY i0 s.heap s.heap.size (Nat.le_refl _) ctx hv0
  ·
    exact rm0_2 l s _ hw tables_1 w_BRANCH w_SENSOR w_ACTUATOR w_ATTRIBUTE w_STRUCT w_PROPERTY i0 s.heap s.heap.size (Nat.le_refl _) ctx hv0
  ·
    exact rm0_3 l s _ hw tables_1 w_BRANCH w_SENSOR w_ACTUATOR w_ATTRIBUTE w_STRUCT w_PROPERTY i0 s.heap s.heap.size (Nat.le_refl _) ctx hv0
  ·
    exact rm0_4 l s _ hw tables_1 w_BRANCH w_SENSOR w_ACTUATOR w_ATTRIBUTE w_STRUCT w_PROPERTY i0 s.heap s.heap.size (Nat.le_refl _) ctx hv0
  ·
    exact rm0_5 l s _ hw tables_1 w_BRANCH w_SENSOR w_ACTUATOR w_ATTRIBUTE w_STRUCT w_PROPERTY i0 s.heap s.heap.size (Nat.le_refl _) ctx hv0
theorem main_1_1 : Claimed_1_1 := comes_1 fun _ _ _ _ _ _ h hF => ⟨h.1, hF⟩
theorem main_1_2 : Claimed_1_2 := comes_1 fun _ _ _ _ _ _ h hF => ⟨h.2.1, hF⟩
end Jvm.Pilot.@@N@@
namespace Jvm.Pilot.@@N@@
open Jvm Jvm.ClassFile Sem Op Lib Jvm.Free Jvm.Stand Jvm.Pilot.@@N@@.Jvm.D
/-! MADE BY PROGRAM (witnessworld.py) out of the Statement's table words and the real class files: 12 classes; the members and pool entries that the words name. The judged class is class 1, her method 1. -/
namespace start1
open Jvm.ClassFile
def u (s : String) : CpInfo := .utf8 (stringToUtf16 s)
/-- a pool by its gaps: so many unusable entries, then the entry; so many at the end -/
def gap : Nat → List CpInfo → List CpInfo
  | 0, r => r
  | n + 1, r => .unusable :: gap n r
def poolList (es : List (Nat × CpInfo)) (last : Nat) : List CpInfo := es.foldr (fun e r => gap e.1 (e.2 :: r)) (gap last [])
def pool (es : List (Nat × CpInfo)) (last : Nat) : Array CpInfo := ⟨poolList es last⟩
def fileOf (pool : Array CpInfo) (this : Nat) (attrs : Array Attribute := #[]) (ms : Array MethodInfo := #[]) (fl : Nat := 33) (sup : Nat := 0) (ifs : Array Nat := #[]) (fds : Array FieldInfo := #[]) : ClassFile where
  minorVersion := 0
  majorVersion := 65
  constantPool := pool
  accessFlags := fl
  thisClass := this
  superClass := sup
  interfaces := ifs
  fields := fds
  methods := ms
  attributes := attrs
def plain (name : String) (sup : Option ClassId) : Class where
  name := name
  kind := .ordinary
  loader := none
  accessFlags := 33
  super := sup
  interfaces := #[]
  cf := none
  fields := #[]
  methods := #[]
  instanceTypes := #[]
  staticTypes := #[]
  resolved := #[]
  callSites := []
  init := .initialized
  statics := none
  mirror := none

def pool0 : Array CpInfo := pool [(5, u "<init>"), (0, u "()V"), (1, .class_ 10), (1, u "java/lang/Object")] 113

def k0m0 : Method := { name := "<init>", desc := "()V", sig := { parameters := [], returnType := none }, accessFlags := 1, code := none }
/-- java/lang/Object -/
def k0 : Class := { plain "java/lang/Object" none with
  accessFlags := 33
  interfaces := #[]
  cf := some (fileOf pool0 8 #[] #[{ accessFlags := 1, nameIndex := 5, descriptorIndex := 6, attributes := #[] }] 33 0 #[] #[])
  fields := #[]
  methods := #[k0m0]
  instanceTypes := #[]
  staticTypes := #[]
  resolved := Array.replicate 124 none
  statics := none }

def pool1 : Array CpInfo := pool [(2, .class_ 4), (1, u "java/lang/Object"), (0, u "<init>"), (0, u "()V"), (0, .integer 2147483647), (0, .methodref 9 10), (0, .class_ 11), (0, .nameAndType 12 13), (0, u "com/example/telemetree/telemetree/catalog/NodeTypeIsLeafPinLaw"), (0, u "pick"), (0, u "(I)Lcom/example/telemetree/telemetree/catalog/NodeType;"), (0, .methodref 15 16), (0, .class_ 17), (0, .nameAndType 18 19), (0, u "com/example/telemetree/telemetree/catalog/NodeType"), (0, u "isLeaf"), (0, u "()Z"), (0, .methodref 15 21), (0, .nameAndType 22 19), (0, u "holdsNodes"), (0, .fieldref 15 24), (0, .nameAndType 25 26), (0, u "BRANCH"), (0, u "Lcom/example/telemetree/telemetree/catalog/NodeType;"), (0, .fieldref 15 28), (0, .nameAndType 29 26), (0, u "SENSOR"), (0, .fieldref 15 31), (0, .nameAndType 32 26), (0, u "ACTUATOR"), (0, .fieldref 15 34), (0, .nameAndType 35 26), (0, u "ATTRIBUTE"), (0, .fieldref 15 37), (0, .nameAndType 38 26), (0, u "STRUCT"), (0, .fieldref 15 40), (0, .nameAndType 41 26), (0, u "PROPERTY"), (2, u "law"), (0, u "(I)Z")] 3

def k1m0 : Method := { name := "<init>", desc := "()V", sig := { parameters := [], returnType := none }, accessFlags := 1, code := none }
def k1c1 : Code := { maxStack := 2, maxLocals := 6, code := code, exceptionTable := #[], attributes := #[] }
def k1m1 : Method := { name := "law", desc := "(I)Z", sig := { parameters := [.int], returnType := some .boolean }, accessFlags := 9, code := some k1c1 }
def k1c2 : Code := { maxStack := 2, maxLocals := 1, code := method_3_code, exceptionTable := #[], attributes := #[] }
def k1m2 : Method := { name := "pick", desc := "(I)Lcom/example/telemetree/telemetree/catalog/NodeType;", sig := { parameters := [.int], returnType := some (.object "com/example/telemetree/telemetree/catalog/NodeType") }, accessFlags := 10, code := some k1c2 }
/-- com/example/telemetree/telemetree/catalog/NodeTypeIsLeafPinLaw -/
def k1 : Class := { plain "com/example/telemetree/telemetree/catalog/NodeTypeIsLeafPinLaw" (some 0) with
  accessFlags := 49
  interfaces := #[]
  cf := some (fileOf pool1 9 #[] #[{ accessFlags := 1, nameIndex := 5, descriptorIndex := 6, attributes := #[] }, { accessFlags := 9, nameIndex := 44, descriptorIndex := 45, attributes := #[] }, { accessFlags := 10, nameIndex := 12, descriptorIndex := 13, attributes := #[] }] 49 2 #[] #[])
  fields := #[]
  methods := #[k1m0, k1m1, k1m2]
  instanceTypes := #[]
  staticTypes := #[]
  resolved := Array.replicate 49 none
  statics := none }

def pool2 : Array CpInfo := pool [(1, .class_ 2), (0, u "java/lang/constant/Constable"), (0, .class_ 4), (0, u "java/lang/Object")] 6

/-- java/lang/constant/Constable -/
def k2 : Class := { plain "java/lang/constant/Constable" (some 0) with
  accessFlags := 1537
  interfaces := #[]
  cf := some (fileOf pool2 1 #[] #[] 1537 3 #[] #[])
  fields := #[]
  methods := #[]
  instanceTypes := #[]
  staticTypes := #[]
  resolved := Array.replicate 11 none
  statics := none }

def pool3 : Array CpInfo := pool [(1, .class_ 2), (0, u "java/lang/Comparable"), (0, .class_ 4), (0, u "java/lang/Object")] 7

/-- java/lang/Comparable -/
def k3 : Class := { plain "java/lang/Comparable" (some 0) with
  accessFlags := 1537
  interfaces := #[]
  cf := some (fileOf pool3 1 #[] #[] 1537 3 #[] #[])
  fields := #[]
  methods := #[]
  instanceTypes := #[]
  staticTypes := #[]
  resolved := Array.replicate 12 none
  statics := none }

def pool4 : Array CpInfo := pool [(1, .class_ 2), (0, u "java/io/Serializable"), (0, .class_ 4), (0, u "java/lang/Object")] 2

/-- java/io/Serializable -/
def k4 : Class := { plain "java/io/Serializable" (some 0) with
  accessFlags := 1537
  interfaces := #[]
  cf := some (fileOf pool4 1 #[] #[] 1537 3 #[] #[])
  fields := #[]
  methods := #[]
  instanceTypes := #[]
  staticTypes := #[]
  resolved := Array.replicate 7 none
  statics := none }

def pool5 : Array CpInfo := pool [(2, .class_ 4), (1, u "java/lang/Enum"), (0, u "name"), (0, u "Ljava/lang/String;"), (2, u "ordinal"), (0, u "I"), (1, .class_ 14), (1, u "java/lang/Object"), (4, u "hash"), (86, .class_ 108), (1, u "java/lang/Enum$EnumDesc"), (2, .class_ 112), (0, u "java/lang/constant/Constable"), (0, .class_ 114), (0, u "java/lang/Comparable"), (0, .class_ 116), (0, u "java/io/Serializable")] 87

/-- java/lang/Enum -/
def k5 : Class := { plain "java/lang/Enum" (some 0) with
  accessFlags := 1057
  interfaces := #[2, 3, 4]
  cf := some (fileOf pool5 2 #[.nestMembers #[106]] #[] 1057 12 #[111, 113, 115] #[{ accessFlags := 18, nameIndex := 5, descriptorIndex := 6, attributes := #[] }, { accessFlags := 18, nameIndex := 9, descriptorIndex := 10, attributes := #[] }, { accessFlags := 2, nameIndex := 19, descriptorIndex := 10, attributes := #[] }])
  fields := #[{ name := "name", type := (.object "java/lang/String"), accessFlags := 18, slot := 0, constantValue := 0 }, { name := "ordinal", type := .int, accessFlags := 18, slot := 1, constantValue := 0 }, { name := "hash", type := .int, accessFlags := 2, slot := 2, constantValue := 0 }]
  methods := #[]
  instanceTypes := #[(.object "java/lang/String"), .int, .int]
  staticTypes := #[]
  resolved := Array.replicate 204 none
  statics := none }

def pool6 : Array CpInfo := pool [(1, .class_ 2), (0, u "com/example/telemetree/telemetree/catalog/NodeType"), (0, .fieldref 1 4), (0, .nameAndType 5 6), (0, u "BRANCH"), (0, u "Lcom/example/telemetree/telemetree/catalog/NodeType;"), (0, .fieldref 1 8), (0, .nameAndType 9 6), (0, u "SENSOR"), (0, .fieldref 1 11), (0, .nameAndType 12 6), (0, u "ACTUATOR"), (0, .fieldref 1 14), (0, .nameAndType 15 6), (0, u "ATTRIBUTE"), (0, .fieldref 1 17), (0, .nameAndType 18 6), (0, u "STRUCT"), (2, u "PROPERTY"), (2, u "$VALUES"), (0, u "[Lcom/example/telemetree/telemetree/catalog/NodeType;"), (6, .class_ 34), (1, u "java/lang/Enum"), (8, u "catalogName"), (0, u "Ljava/lang/String;"), (51, u "isLeaf"), (0, u "()Z"), (1, u "holdsNodes")] 8

def k6c0 : Code := { maxStack := 2, maxLocals := 1, code := prog_6_method_5_code, exceptionTable := #[], attributes := #[] }
def k6m0 : Method := { name := "isLeaf", desc := "()Z", sig := { parameters := [], returnType := some .boolean }, accessFlags := 1, code := some k6c0 }
def k6c1 : Code := { maxStack := 2, maxLocals := 1, code := prog_6_method_6_code, exceptionTable := #[], attributes := #[] }
def k6m1 : Method := { name := "holdsNodes", desc := "()Z", sig := { parameters := [], returnType := some .boolean }, accessFlags := 1, code := some k6c1 }
/-- com/example/telemetree/telemetree/catalog/NodeType -/
def k6 : Class := { plain "com/example/telemetree/telemetree/catalog/NodeType" (some 5) with
  accessFlags := 16433
  interfaces := #[]
  cf := some (fileOf pool6 1 #[] #[{ accessFlags := 1, nameIndex := 96, descriptorIndex := 97, attributes := #[] }, { accessFlags := 1, nameIndex := 99, descriptorIndex := 97, attributes := #[] }] 16433 32 #[] #[{ accessFlags := 16409, nameIndex := 5, descriptorIndex := 6, attributes := #[] }, { accessFlags := 16409, nameIndex := 9, descriptorIndex := 6, attributes := #[] }, { accessFlags := 16409, nameIndex := 12, descriptorIndex := 6, attributes := #[] }, { accessFlags := 16409, nameIndex := 15, descriptorIndex := 6, attributes := #[] }, { accessFlags := 16409, nameIndex := 18, descriptorIndex := 6, attributes := #[] }, { accessFlags := 16409, nameIndex := 21, descriptorIndex := 6, attributes := #[] }, { accessFlags := 18, nameIndex := 43, descriptorIndex := 44, attributes := #[] }, { accessFlags := 4122, nameIndex := 24, descriptorIndex := 25, attributes := #[] }])
  fields := #[{ name := "BRANCH", type := (.object "com/example/telemetree/telemetree/catalog/NodeType"), accessFlags := 16409, slot := 0, constantValue := 0 }, { name := "SENSOR", type := (.object "com/example/telemetree/telemetree/catalog/NodeType"), accessFlags := 16409, slot := 1, constantValue := 0 }, { name := "ACTUATOR", type := (.object "com/example/telemetree/telemetree/catalog/NodeType"), accessFlags := 16409, slot := 2, constantValue := 0 }, { name := "ATTRIBUTE", type := (.object "com/example/telemetree/telemetree/catalog/NodeType"), accessFlags := 16409, slot := 3, constantValue := 0 }, { name := "STRUCT", type := (.object "com/example/telemetree/telemetree/catalog/NodeType"), accessFlags := 16409, slot := 4, constantValue := 0 }, { name := "PROPERTY", type := (.object "com/example/telemetree/telemetree/catalog/NodeType"), accessFlags := 16409, slot := 5, constantValue := 0 }, { name := "catalogName", type := (.object "java/lang/String"), accessFlags := 18, slot := 3, constantValue := 0 }, { name := "$VALUES", type := (.array (.object "com/example/telemetree/telemetree/catalog/NodeType")), accessFlags := 4122, slot := 6, constantValue := 0 }]
  methods := #[k6m0, k6m1]
  instanceTypes := #[(.object "java/lang/String"), .int, .int, (.object "java/lang/String")]
  staticTypes := #[(.object "com/example/telemetree/telemetree/catalog/NodeType"), (.object "com/example/telemetree/telemetree/catalog/NodeType"), (.object "com/example/telemetree/telemetree/catalog/NodeType"), (.object "com/example/telemetree/telemetree/catalog/NodeType"), (.object "com/example/telemetree/telemetree/catalog/NodeType"), (.object "com/example/telemetree/telemetree/catalog/NodeType"), (.array (.object "com/example/telemetree/telemetree/catalog/NodeType"))]
  resolved := Array.replicate 108 none
  statics := some 0 }

def pool7 : Array CpInfo := pool [(1, u "java/lang/Cloneable"), (0, .class_ 1), (0, u "java/lang/Object"), (0, .class_ 3)] 3

/-- java/lang/Cloneable -/
def k7 : Class := { plain "java/lang/Cloneable" (some 0) with
  accessFlags := 1537
  interfaces := #[]
  cf := some (fileOf pool7 2 #[] #[] 1537 4 #[] #[])
  fields := #[]
  methods := #[]
  instanceTypes := #[]
  staticTypes := #[]
  resolved := Array.replicate 8 none
  statics := none }

/-- the primitive byte -/
def k8 : Class := { plain "byte" none with kind := .primitive 'B', accessFlags := 0x411 }
/-- [B -/
def k9 : Class := { plain "[B" (some 0) with kind := .array 8 .byte, interfaces := #[7, 4], accessFlags := 1041 }

/-- the primitive int -/
def k10 : Class := { plain "int" none with kind := .primitive 'I', accessFlags := 0x411 }
/-- [I -/
def k11 : Class := { plain "[I" (some 0) with kind := .array 10 .int, interfaces := #[7, 4], accessFlags := 1041 }

def heap : Heap := #[{ cls := 6, slots := #[.ref 1, .ref 2, .ref 3, .ref 4, .ref 5, .ref 6, .null], vm := .statics 6 },
  { cls := 6, slots := #[.null, .int 0, .int 0, .null], vm := .none },
  { cls := 6, slots := #[.null, .int 1, .int 0, .null], vm := .none },
  { cls := 6, slots := #[.null, .int 2, .int 0, .null], vm := .none },
  { cls := 6, slots := #[.null, .int 3, .int 0, .null], vm := .none },
  { cls := 6, slots := #[.null, .int 4, .int 0, .null], vm := .none },
  { cls := 6, slots := #[.null, .int 5, .int 0, .null], vm := .none }]
def classes : Array Class := #[k0, k1, k2, k3, k4, k5, k6, k7, k8, k9, k10, k11]
def interned : List (Array UInt16 × Addr) := []
def slotsUsed : Nat := 31
def theMethod : MethodId := ⟨1, 1⟩
def args0 : Array Value := #[.int 5]
def aboutOver (below : List Frame) : State where
  vm := { classes := classes, interned := interned.toArray }
  heap := heap
  slotsUsed := slotsUsed
  threads := #[{ frames := .invoking theMethod args0 :: below }]
def below0 : List Frame := [.native { method := ⟨0, 0⟩, args := #[] }]
def about1 : State := aboutOver below0
def p0 : Program := .bare "" "" ""
def e0 : Env := launch0.env 0 0 0
theorem w_frames : about1.frames = Frame.invoking theMethod args0 :: below0 := rfl
set_option maxRecDepth 65536 in
theorem w_args : argsFit about1.vm theMethod args0 = true := by decide +kernel
set_option maxRecDepth 65536 in
theorem w_heap : heapFits about1 = true := by decide +kernel
set_option maxRecDepth 65536 in
theorem w_runnable : about1.curStatus? = some .runnable := by decide +kernel
set_option maxRecDepth 65536 in
theorem w_alone : about1.alone = true := by decide +kernel
set_option maxRecDepth 65536 in
theorem w_named : about1.methodNamed? x = some theMethod := by decide +kernel
set_option maxRecDepth 65536 in
theorem w_hears : about1.hears theMethod below0 = true := by decide +kernel
set_option maxRecDepth 65536 in
theorem w_ripe : about1.ripe theMethod args0 below0 = true := by decide +kernel
theorem w_running : about1.status = .running := rfl
set_option maxRecDepth 65536 in
theorem w_room : about1.hasRoom e0.platform room_1 = true :=
  launch0.hasRoom_least _ room_1 (by decide +kernel) (by decide +kernel) (by decide +kernel) (by decide +kernel) (by decide +kernel) (by decide +kernel)
theorem allAtoms_all (ts : List Jvm.Cond) (a : Array Jvm.Value) (st : Jvm.State) : (allAtoms ts).before a st = ts.all (fun c => c.before a st) := by
  induction ts with
  | nil => rfl
  | cons c t ih =>
    show (Jvm.Cond.and c (allAtoms t)).before a st = _
    rw [Jvm.Cond.before_and, ih, List.all_cons]
def words1 : List Jvm.Cond := Jvm.Cond.code x code maxLocals ret :: tables_1
/-- a 'code' word, met by the world's own term for the bytes: nothing is compared byte by byte -/
theorem code_word {y : MethodName} {bytes : ByteArray} {mx : Nat} {rt : Option FieldType} {a : Array Value} {s : State} {m : MethodId} {meth : Method} {c : Code} (h1 : s.methodNamed? y = some m) (h2 : s.vm.method? m = some meth) (h3 : meth.code = some c) (h4 : c.code = bytes)
    (h5 : (c.maxLocals == mx && c.exceptionTable.isEmpty && decide (c.maxStack ≤ mostOperands) && decide (meth.sig.returnType = rt) && !meth.locks && decide (parseMethodDescriptor y.desc = some meth.sig)) = true) : (Jvm.Cond.code y bytes mx rt).before a s = true := by
  simp only [Bool.and_eq_true, beq_iff_eq, Bool.not_eq_true', decide_eq_true_eq] at h5
  obtain ⟨⟨⟨⟨⟨g1, g2⟩, g3⟩, g4⟩, g5⟩, g6⟩ := h5
  simp [Cond.before, Cond.holds, Cond.value, h1, h2, h3, h4, g1, g2, g3, g4, g5, g6]
def isCode : Jvm.Cond → Bool
  | .code _ _ _ _ => true
  | _ => false
theorem all_split {L : List Jvm.Cond} {P : Jvm.Cond → Bool} (h1 : L.all (fun c => isCode c || P c) = true) (h2 : ∀ c ∈ L.filter isCode, P c = true) : L.all P = true := by
  refine List.all_eq_true.mpr fun c hc => ?_
  have h := List.all_eq_true.mp h1 c hc
  rcases Bool.eq_false_or_eq_true (isCode c) with hi | hi
  · exact h2 c (List.mem_filter.mpr ⟨hc, hi⟩)
  · simpa [hi] using h
set_option maxRecDepth 65536 in
theorem w_c0 : (Jvm.Cond.code x code maxLocals ret).before args0 about1 = true := code_word (m := ⟨1, 1⟩) (meth := k1m1) (c := k1c1) (by decide +kernel) rfl rfl rfl (by decide +kernel)
set_option maxRecDepth 65536 in
theorem w_c1 : (Jvm.Cond.code ({ cls := "com/example/telemetree/telemetree/catalog/NodeTypeIsLeafPinLaw", name := "pick", desc := "(I)Lcom/example/telemetree/telemetree/catalog/NodeType;" } : Jvm.MethodName) method_3_code (1 : Nat) (Option.some (Jvm.ClassFile.FieldType.object "com/example/telemetree/telemetree/catalog/NodeType"))).before args0 about1 = true := code_word (m := ⟨1, 2⟩) (meth := k1m2) (c := k1c2) (by decide +kernel) rfl rfl rfl (by decide +kernel)
set_option maxRecDepth 65536 in
theorem w_c2 : (Jvm.Cond.code ({ cls := "com/example/telemetree/telemetree/catalog/NodeType", name := "isLeaf", desc := "()Z" } : Jvm.MethodName) prog_6_method_5_code (1 : Nat) (Option.some Jvm.ClassFile.FieldType.boolean)).before args0 about1 = true := code_word (m := ⟨6, 0⟩) (meth := k6m0) (c := k6c0) (by decide +kernel) rfl rfl rfl (by decide +kernel)
set_option maxRecDepth 65536 in
theorem w_c3 : (Jvm.Cond.code ({ cls := "com/example/telemetree/telemetree/catalog/NodeType", name := "holdsNodes", desc := "()Z" } : Jvm.MethodName) prog_6_method_6_code (1 : Nat) (Option.some Jvm.ClassFile.FieldType.boolean)).before args0 about1 = true := code_word (m := ⟨6, 1⟩) (meth := k6m1) (c := k6c1) (by decide +kernel) rfl rfl rfl (by decide +kernel)
def codes1 : List Jvm.Cond := [Jvm.Cond.code x code maxLocals ret, Jvm.Cond.code ({ cls := "com/example/telemetree/telemetree/catalog/NodeTypeIsLeafPinLaw", name := "pick", desc := "(I)Lcom/example/telemetree/telemetree/catalog/NodeType;" } : Jvm.MethodName) method_3_code (1 : Nat) (Option.some (Jvm.ClassFile.FieldType.object "com/example/telemetree/telemetree/catalog/NodeType")), Jvm.Cond.code ({ cls := "com/example/telemetree/telemetree/catalog/NodeType", name := "isLeaf", desc := "()Z" } : Jvm.MethodName) prog_6_method_5_code (1 : Nat) (Option.some Jvm.ClassFile.FieldType.boolean), Jvm.Cond.code ({ cls := "com/example/telemetree/telemetree/catalog/NodeType", name := "holdsNodes", desc := "()Z" } : Jvm.MethodName) prog_6_method_6_code (1 : Nat) (Option.some Jvm.ClassFile.FieldType.boolean)]
set_option maxRecDepth 65536 in
theorem codes_eq : words1.filter isCode = codes1 := rfl
theorem w_codes : ∀ c ∈ words1.filter isCode, c.before args0 about1 = true := by
  rw [codes_eq]
  intro c hc
  simp only [codes1, List.mem_cons, List.not_mem_nil, or_false] at hc
  rcases hc with rfl | rfl | rfl | rfl
  · exact w_c0
  · exact w_c1
  · exact w_c2
  · exact w_c3
set_option maxRecDepth 65536 in
theorem w_t1 : (words1.take 24).all (fun c => isCode c || c.before args0 about1) = true := by decide +kernel
set_option maxRecDepth 65536 in
theorem w_t2 : (words1.drop 24).all (fun c => isCode c || c.before args0 about1) = true := by decide +kernel
theorem w_tables : (allAtoms (Jvm.Cond.code x code maxLocals ret :: tables_1)).before args0 about1 = true := by
  rw [allAtoms_all]
  show words1.all (fun c => c.before args0 about1) = true
  refine all_split ?_ w_codes
  rw [← List.take_append_drop 24 words1, List.all_append, w_t1, w_t2]
  rfl
set_option maxRecDepth 65536 in
theorem w_case : (Jvm.Cond.and given_1 narrow_1).before args0 about1 = true := by decide +kernel
theorem w_applies : (headSpec (Jvm.Cond.code x code maxLocals ret :: tables_1) room_1).applies x e0.platform about1 = true :=
  (Spec.applies_iff w_frames).mpr ⟨w_running, w_runnable, w_alone, w_named, w_hears, w_ripe, w_room, w_tables⟩
theorem atStart : AtStart classFile x code maxLocals ret World_1 tables_1 room_1 Calls_1 rest_1 Pre_1 launch0 p0 e0 about1 theMethod args0 below0 :=
  ⟨lists_1, trivial, launch0.admits_env _ _ _, launch0.least_env, fairChoices_fair.cas, fairChoices_fair.clock, w_frames, w_args, w_heap, w_applies, trivial, trivial, w_case⟩
end start1
theorem witness_1 : WitnessClaimed_1 := ⟨start1.p0, start1.e0, start1.about1, start1.theMethod, start1.args0, start1.below0, start1.atStart⟩
end Jvm.Pilot.@@N@@
