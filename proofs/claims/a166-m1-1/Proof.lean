import JvmDerived
import JvmDerived.Pilot.@@N@@Statement
import JvmDerived.Pilot.@@N@@Code
set_option linter.unusedVariables false
set_option linter.unusedSimpArgs false
@@BLOCK:NumsL.lean.txt@@
namespace Jvm.RoadKit
open Sem ClassFile Op Lib Jvm.Stand Jvm.Free Jvm.LawKit
section New
variable {p : Program} {l : Launch} {e : Env} {R : Room} {s : State} {m : MethodId} {args : Array Value} {below : List Frame} {meth : Method} {c : Code} {T : State} {locs : List Loc} {cells slots : Nat}
theorem retI (X : Stand p l e R s m args below meth c T locs cells slots) (hx : p.tables.exec = Jvm.exec) {pc : Nat} {Ls : Array Slot} {z : Int32} {rest : List Value} (hret : meth.sig.returnType = some .int) (hd : decode c.code pc = .ok (.ireturn, 1)) {fs : List Frame}
    (hl : ∀ (f : JFrame) (acts : List Action), f.method = m → f.locked = none → f.entered = [] → (doReturn e (T.setTop f) acts (some (.int z))).1 = T.setFrames fs) : Steps p.tables e below (T.setTop (mkF m pc Ls (.int z :: rest))) (T.setFrames fs) := by
  have hm' : T.vm.method? m = some meth := X.method'
  have hn : narrow .int (.int z) = .int z := rfl
  show Steps p.tables e below (T.setTop { method := m, pc := pc, locals := Ls, stack := _ :: rest, locked := none }) _
  jvm_step X.here [X.here.top, hx, hd, hm', hret, hn]
  first | (intro acts; rw [hl _ acts rfl rfl rfl]) | rw [hl _ _ rfl rfl rfl]
  exact Steps.refl _
end New
end Jvm.RoadKit
namespace Jvm.Pilot.@@N@@
open Jvm Jvm.ClassFile Sem Op Lib Jvm.Free Jvm.Stand Jvm.LawKit Jvm.RoadKit Bundle Jvm.Pilot.@@N@@.Jvm.D
/-! 1. small laws of our own: the case's words, the masks, two objects that differ in a field -/
theorem own_fldI {args : Array Value} {s : State} {t : Term} {C n d : String} {k : Int32} {w : Addr} (ht : t.eval args s none [] s = some (.ref w)) (h : (Jvm.Cond.eq (.field t C n d) (.int k)).value args s none s [] = some true) : Fld s s.heap w C n d (.int k) :=
  Fld.start ((fld_at ht).symm.trans (eqv_i (by simp [Term.eval]) h))
theorem own_fldL {args : Array Value} {s : State} {t : Term} {C n d : String} {k : Int64} {w : Addr} (ht : t.eval args s none [] s = some (.ref w)) (h : (Jvm.Cond.eq (.field t C n d) (.long k)).value args s none s [] = some true) : Fld s s.heap w C n d (.long k) :=
  Fld.start ((fld_at ht).symm.trans (eqv_l (by simp [Term.eval]) h))
theorem own_xt {h h' h'' : Heap} (A : Ext h h') (B : Ext h' h'') : Ext h h'' := ⟨Nat.le_trans A.1 B.1, fun a c q => B.2 a c (A.2 a c q)⟩
theorem own_xk {h h' h'' : Heap} {ws : List Addr} (A : Ext h h') (K : Keep h' h'' ws) (q : ∀ x ∈ ws, h.size ≤ x) : Ext h h'' := ⟨Nat.le_trans A.1 K.1, fun a c r => K.2.1 a c (A.2 a c r) fun z => absurd (Array.getElem?_eq_some_iff.mp r).1 (Nat.not_lt.mpr (q a z))⟩
theorem own_xr (h : Heap) : Ext h h := ⟨Nat.le_refl _, fun _ _ q => q⟩
def QX (h0 : Heap) (n0 : Nat) (r : Option Value) (v : Option Value) (h : Heap) (L : List Loc) : Prop := v = r ∧ Fr n0 L ∧ Ext h0 h
def QO (Z : State) (h0 : Heap) (n0 : Nat) (K : String) (v : Option Value) (h : Heap) (L : List Loc) : Prop := ∃ r : Addr, v = some (.ref r) ∧ Fr n0 L ∧ Ext h0 h ∧ Exa Z h r K
def QL (n0 : Nat) (r : Option Value) (v : Option Value) (L : List Loc) : Prop := v = r ∧ Fr n0 L
def QR (h0 : Heap) (n0 : Nat) (r : Option Value) (v : Option Value) (h : Heap) (L : List Loc) : Prop := v = r ∧ Fr n0 L ∧ h = h0
theorem own_r7 (x : Int32) : (x &&& (2147483647 : Int32)) % (7 : Int32) = (0 : Int32) ∨ (x &&& (2147483647 : Int32)) % (7 : Int32) = (1 : Int32) ∨ (x &&& (2147483647 : Int32)) % (7 : Int32) = (2 : Int32) ∨ (x &&& (2147483647 : Int32)) % (7 : Int32) = (3 : Int32) ∨ (x &&& (2147483647 : Int32)) % (7 : Int32) = (4 : Int32) ∨ (x &&& (2147483647 : Int32)) % (7 : Int32) = (5 : Int32) ∨ (x &&& (2147483647 : Int32)) % (7 : Int32) = (6 : Int32) := by
  have e : (x &&& (2147483647 : Int32)).toInt = x.toInt % 2 ^ 31 := Jvm.Kit.i32_mask x 2147483647 (by decide) (by decide)
  have f : ((x &&& (2147483647 : Int32)) % (7 : Int32)).toInt = (x &&& (2147483647 : Int32)).toInt.tmod (7 : Int32).toInt := Int32.toInt_mod _ _
  have d : (7 : Int32).toInt = 7 := by decide
  rw [d, Int.tmod_eq_emod_of_nonneg (by omega)] at f
  simp only [← Int32.toInt_inj]
  rw [f]
  have r : (0 : Int32).toInt = 0 ∧ (1 : Int32).toInt = 1 ∧ (2 : Int32).toInt = 2 ∧ (3 : Int32).toInt = 3 ∧ (4 : Int32).toInt = 4 ∧ (5 : Int32).toInt = 5 ∧ (6 : Int32).toInt = 6 := ⟨by decide, by decide, by decide, by decide, by decide, by decide, by decide⟩
  simp only [r]
  omega
def Ctx (Z : State) (h : Heap) (w_RUNS w_RESULTS w_LOCATIONS w_THREAD_FLOW_LOCATIONS w_RULES w_EXTENSIONS w_TAGS : Addr) : Prop := Sta Z h "com/example/verdictlint/verdictlint/sarif/Cap" "RUNS" "Lcom/example/verdictlint/verdictlint/sarif/Cap;" (.ref w_RUNS) ∧ Exa Z h w_RUNS "com/example/verdictlint/verdictlint/sarif/Cap" ∧ Fld Z h w_RUNS "com/example/verdictlint/verdictlint/sarif/Cap" "kept" "J" (.long (20 : Int64)) ∧ Sta Z h "com/example/verdictlint/verdictlint/sarif/Cap" "RESULTS" "Lcom/example/verdictlint/verdictlint/sarif/Cap;" (.ref w_RESULTS) ∧ Exa Z h w_RESULTS "com/example/verdictlint/verdictlint/sarif/Cap" ∧ Fld Z h w_RESULTS "com/example/verdictlint/verdictlint/sarif/Cap" "kept" "J" (.long (25000 : Int64)) ∧ Sta Z h "com/example/verdictlint/verdictlint/sarif/Cap" "LOCATIONS" "Lcom/example/verdictlint/verdictlint/sarif/Cap;" (.ref w_LOCATIONS) ∧ Exa Z h w_LOCATIONS "com/example/verdictlint/verdictlint/sarif/Cap" ∧ Fld Z h w_LOCATIONS "com/example/verdictlint/verdictlint/sarif/Cap" "kept" "J" (.long (100 : Int64)) ∧ Sta Z h "com/example/verdictlint/verdictlint/sarif/Cap" "THREAD_FLOW_LOCATIONS" "Lcom/example/verdictlint/verdictlint/sarif/Cap;" (.ref w_THREAD_FLOW_LOCATIONS) ∧ Exa Z h w_THREAD_FLOW_LOCATIONS "com/example/verdictlint/verdictlint/sarif/Cap" ∧ Fld Z h w_THREAD_FLOW_LOCATIONS "com/example/verdictlint/verdictlint/sarif/Cap" "kept" "J" (.long (1000 : Int64)) ∧ Sta Z h "com/example/verdictlint/verdictlint/sarif/Cap" "RULES" "Lcom/example/verdictlint/verdictlint/sarif/Cap;" (.ref w_RULES) ∧ Exa Z h w_RULES "com/example/verdictlint/verdictlint/sarif/Cap" ∧ Fld Z h w_RULES "com/example/verdictlint/verdictlint/sarif/Cap" "kept" "J" (.long (25000 : Int64)) ∧ Sta Z h "com/example/verdictlint/verdictlint/sarif/Cap" "EXTENSIONS" "Lcom/example/verdictlint/verdictlint/sarif/Cap;" (.ref w_EXTENSIONS) ∧ Exa Z h w_EXTENSIONS "com/example/verdictlint/verdictlint/sarif/Cap" ∧ Fld Z h w_EXTENSIONS "com/example/verdictlint/verdictlint/sarif/Cap" "kept" "J" (.long (100 : Int64)) ∧ Sta Z h "com/example/verdictlint/verdictlint/sarif/Cap" "TAGS" "Lcom/example/verdictlint/verdictlint/sarif/Cap;" (.ref w_TAGS) ∧ Exa Z h w_TAGS "com/example/verdictlint/verdictlint/sarif/Cap" ∧ Fld Z h w_TAGS "com/example/verdictlint/verdictlint/sarif/Cap" "kept" "J" (.long (10 : Int64)) ∧ True
theorem pn_0 : plainName "com/example/verdictlint/verdictlint/sarif/CapDropsSomeOfPinLaw" = true := by first | (simp [plainName, overriddenIn]; done) | decide +kernel
theorem ef_0 (m : MethodId) (x0 : Int32) (x1 : Int64) : entryFrame m #[(.int x0), (.long x1)] maxLocals = mkF m 0 #[.val (.int x0), .val (.long x1), .second, .unset, .unset, .unset, .unset, .unset, .unset, .unset] [] := by first | (simp [entryFrame, mkF, argsToLocals, Value.category, maxLocals]; done) | rfl
theorem d1_0 : decode prog_26_method_8_code 0 = .ok (.lload_n 1, 1) := by decide +kernel
theorem d1_1 : decode prog_26_method_8_code 1 = .ok (.aload_n 0, 1) := by decide +kernel
theorem d1_2 : decode prog_26_method_8_code 2 = .ok (.getfield 55, 3) := by decide +kernel
theorem d1_5 : decode prog_26_method_8_code 5 = .ok (.lcmp, 1) := by decide +kernel
theorem d1_6 : decode prog_26_method_8_code 6 = .ok (.ifCond .le 7, 3) := by decide +kernel
theorem d1_9 : decode prog_26_method_8_code 9 = .ok (.iconst 1, 1) := by decide +kernel
theorem d1_10 : decode prog_26_method_8_code 10 = .ok (.goto 4, 3) := by decide +kernel
theorem d1_13 : decode prog_26_method_8_code 13 = .ok (.iconst 0, 1) := by decide +kernel
theorem d1_14 : decode prog_26_method_8_code 14 = .ok (.ireturn, 1) := by decide +kernel
theorem pn_1 : plainName "com/example/verdictlint/verdictlint/sarif/Cap" = true := by first | (simp [plainName, overriddenIn]; done) | decide +kernel
theorem ef_1 (m : MethodId) (x0 : Addr) (x1 : Int64) : entryFrame m #[(.ref x0), (.long x1)] 3 = mkF m 0 #[.val (.ref x0), .val (.long x1), .second] [] := by first | (simp [entryFrame, mkF, argsToLocals, Value.category]; done) | rfl
set_option maxRecDepth 65536 in
set_option maxHeartbeats 40000000 in
theorem rm1_0 (l : Launch) (Z : State) (a0 : Array Value) (hw : ∀ d ∈ tables_1, d.before a0 Z = true) (ws : List Jvm.Cond) (w_RUNS w_RESULTS w_LOCATIONS w_THREAD_FLOW_LOCATIONS w_RULES w_EXTENSIONS w_TAGS : Addr) (i0 : Int32) (i1 : Int64) (h0 : Heap) (n0 : Nat) (Z0 : n0 ≤ h0.size) (C : Ctx Z h0 w_RUNS w_RESULTS w_LOCATIONS w_THREAD_FLOW_LOCATIONS w_RULES w_EXTENSIONS w_TAGS) (hv0 : ((i0 &&& (2147483647 : Int32)) % (7 : Int32)) = (0 : Int32)) (hv1 : (0 : Int32) < (lcmpW i1 (20 : Int64))) :
    MetFree l (⟨"com/example/verdictlint/verdictlint/sarif/Cap", "dropsSomeOf", "(J)Z"⟩ : MethodName) (head1 (Jvm.Cond.code (⟨"com/example/verdictlint/verdictlint/sarif/Cap", "dropsSomeOf", "(J)Z"⟩ : MethodName) prog_26_method_8_code 3 (some .boolean) :: ws) ({ frames := 0, cells := 0, slots := 0, locals := 0 } : Room)) (fun a U => a = #[(.ref w_RUNS), (.long i1)] ∧ Z.Warmed39 U.vm ∧ U.heap = h0) (fun _ _ _ _ _ => True) (fun _ U o U' => ∃ v L, o = .returned v ∧ QR h0 n0 (some (.int (1 : Int32))) v U'.heap L ∧ FrameEnd U o U' L ({ frames := 0, cells := 0, slots := 0, locals := 0 } : Room).cells ({ frames := 0, cells := 0, slots := 0, locals := 0 } : Room).slots) := by
  have F_RUNS_kept := C.2.2.1
  refine MetFree.of_bodySF (plainFor_of_name pn_1) hisR ?_
  intro p e s m args below meth c s₁ Bd hml0 hP hK
  obtain ⟨rfl, hZ, hh⟩ := hP
  have hx := Bd.exec
  have hby := Bd.bytes
  have hml : c.maxLocals = 3 := hml0
  have hown : s.vm.findClass "com/example/verdictlint/verdictlint/sarif/Cap" = some m.cls := findClass_of_methodNamed Bd.named
  have hnm := (name_of_methodNamed Bd.named Bd.method).1
  have X0 : Stand p l e ({ frames := 0, cells := 0, slots := 0, locals := 0 } : Room) s m #[(.ref w_RUNS), (.long i1)] below meth c s₁ [] 0 0 := Stand.of_body Bd
  have e0 : s₁.heap = h0 := by rw [← hh, Bd.state]; rfl
  have N0 := Fr.nil n0
  have pre0 : ∀ t, Steps p.tables e below (s₁.setTop (mkF m 0 #[.val (.ref w_RUNS), .val (.long i1), .second] [])) t → Steps p.tables e below (s₁.setTop (entryFrame m #[(.ref w_RUNS), (.long i1)] 3)) t := fun t k => castTop (ef_1 m w_RUNS i1) k
  obtain ⟨T1, X1, e1, st1⟩ := getF X0 hx hZ hown (host := "") (Or.inl (hw _ (List.mem_of_getElem? (i := 10) rfl))) Via.refl e0 F_RUNS_kept (g := (mkF m 2 #[.val (.ref w_RUNS), .val (.long i1), .second] [(.ref w_RUNS), (.long i1)])) rfl rfl (hb hby d1_2)
  obtain ⟨fs, hr, hrun, hended, hW, hsame⟩ := X1.leave (v := (some (.int (1 : Int32)))) (fun h => by rw [Bd.returns] at h; cases h)
  refine ⟨_, _, pre0 _ ?_, hrun, hended, _, _, rfl, ?_, ⟨_, rfl⟩, hW, hsame.mono (by decide) (by decide)⟩
  · show Steps p.tables e below (s₁.setTop (mkF m 0 #[.val (.ref w_RUNS), .val (.long i1), .second] [])) _
    refine XS.lloadN X0.here hx rfl (hb hby d1_0) rfl ?_
    show Steps p.tables e below (s₁.setTop (mkF m 1 #[.val (.ref w_RUNS), .val (.long i1), .second] [(.long i1)])) _
    refine XS.aloadN X0.here hx rfl (hb hby d1_1) rfl rfl ?_
    show Steps p.tables e below (s₁.setTop (mkF m 2 #[.val (.ref w_RUNS), .val (.long i1), .second] [(.ref w_RUNS), (.long i1)])) _
    refine st1 _ ?_
    show Steps p.tables e below (T1.setTop (mkF m 5 #[.val (.ref w_RUNS), .val (.long i1), .second] [(.long (20 : Int64)), (.long i1)])) _
    refine XS.lcmp X1.here hx rfl (hb hby d1_5) rfl ?_
    show Steps p.tables e below (T1.setTop (mkF m 6 #[.val (.ref w_RUNS), .val (.long i1), .second] [(.int (lcmpW i1 (20 : Int64)))])) _
    refine XS.ifNo X1.here hx rfl (hb hby d1_6) rfl ((if0 _ _).trans (tlt hv1).2.2.2) ?_
    show Steps p.tables e below (T1.setTop (mkF m 9 #[.val (.ref w_RUNS), .val (.long i1), .second] [])) _
    refine XS.iconst X1.here hx rfl (hb hby d1_9) ?_
    show Steps p.tables e below (T1.setTop (mkF m 10 #[.val (.ref w_RUNS), .val (.long i1), .second] [(.int (1 : Int32))])) _
    refine XS.goto X1.here hx rfl (pc0 := 10) (pc' := 14) rfl (hb hby d1_10) (by decide) (by decide) ?_
    show Steps p.tables e below (T1.setTop (mkF m 14 #[.val (.ref w_RUNS), .val (.long i1), .second] [(.int (1 : Int32))])) _
    exact retN X1 hx (t := .boolean) Bd.returns (by simp) (hb hby d1_14) hr
  · exact ⟨rfl, N0, e1⟩
theorem pd_0 : parseMethodDescriptor "(J)Z" = some ⟨[.long], some .boolean⟩ := by decide +kernel
set_option maxRecDepth 65536 in
set_option maxHeartbeats 40000000 in
theorem rm1_1 (l : Launch) (Z : State) (a0 : Array Value) (hw : ∀ d ∈ tables_1, d.before a0 Z = true) (ws : List Jvm.Cond) (w_RUNS w_RESULTS w_LOCATIONS w_THREAD_FLOW_LOCATIONS w_RULES w_EXTENSIONS w_TAGS : Addr) (h0 : Heap) (n0 : Nat) (Z0 : n0 ≤ h0.size) (C : Ctx Z h0 w_RUNS w_RESULTS w_LOCATIONS w_THREAD_FLOW_LOCATIONS w_RULES w_EXTENSIONS w_TAGS)  :
    MetFree l (⟨"com/example/verdictlint/verdictlint/sarif/Cap", "dropsSomeOf", "(J)Z"⟩ : MethodName) (head1 (Jvm.Cond.code (⟨"com/example/verdictlint/verdictlint/sarif/Cap", "dropsSomeOf", "(J)Z"⟩ : MethodName) prog_26_method_8_code 3 (some .boolean) :: ws) ({ frames := 0, cells := 0, slots := 0, locals := 0 } : Room)) (fun a U => a = #[(.ref w_RUNS), (.long (20 : Int64))] ∧ Z.Warmed39 U.vm ∧ U.heap = h0) (fun _ _ _ _ _ => True) (fun _ U o U' => ∃ v L, o = .returned v ∧ QR h0 n0 (some (.int (0 : Int32))) v U'.heap L ∧ FrameEnd U o U' L ({ frames := 0, cells := 0, slots := 0, locals := 0 } : Room).cells ({ frames := 0, cells := 0, slots := 0, locals := 0 } : Room).slots) := by
  have F_RUNS_kept := C.2.2.1
  refine MetFree.of_bodySF (plainFor_of_name pn_1) hisR ?_
  intro p e s m args below meth c s₁ Bd hml0 hP hK
  obtain ⟨rfl, hZ, hh⟩ := hP
  have hx := Bd.exec
  have hby := Bd.bytes
  have hml : c.maxLocals = 3 := hml0
  have hown : s.vm.findClass "com/example/verdictlint/verdictlint/sarif/Cap" = some m.cls := findClass_of_methodNamed Bd.named
  have hnm := (name_of_methodNamed Bd.named Bd.method).1
  have X0 : Stand p l e ({ frames := 0, cells := 0, slots := 0, locals := 0 } : Room) s m #[(.ref w_RUNS), (.long (20 : Int64))] below meth c s₁ [] 0 0 := Stand.of_body Bd
  have e0 : s₁.heap = h0 := by rw [← hh, Bd.state]; rfl
  have N0 := Fr.nil n0
  have pre0 : ∀ t, Steps p.tables e below (s₁.setTop (mkF m 0 #[.val (.ref w_RUNS), .val (.long (20 : Int64)), .second] [])) t → Steps p.tables e below (s₁.setTop (entryFrame m #[(.ref w_RUNS), (.long (20 : Int64))] 3)) t := fun t k => castTop (ef_1 m w_RUNS (20 : Int64)) k
  obtain ⟨T1, X1, e1, st1⟩ := getF X0 hx hZ hown (host := "") (Or.inl (hw _ (List.mem_of_getElem? (i := 10) rfl))) Via.refl e0 F_RUNS_kept (g := (mkF m 2 #[.val (.ref w_RUNS), .val (.long (20 : Int64)), .second] [(.ref w_RUNS), (.long (20 : Int64))])) rfl rfl (hb hby d1_2)
  obtain ⟨fs, hr, hrun, hended, hW, hsame⟩ := X1.leave (v := (some (.int (0 : Int32)))) (fun h => by rw [Bd.returns] at h; cases h)
  refine ⟨_, _, pre0 _ ?_, hrun, hended, _, _, rfl, ?_, ⟨_, rfl⟩, hW, hsame.mono (by decide) (by decide)⟩
  · show Steps p.tables e below (s₁.setTop (mkF m 0 #[.val (.ref w_RUNS), .val (.long (20 : Int64)), .second] [])) _
    refine XS.lloadN X0.here hx rfl (hb hby d1_0) rfl ?_
    show Steps p.tables e below (s₁.setTop (mkF m 1 #[.val (.ref w_RUNS), .val (.long (20 : Int64)), .second] [(.long (20 : Int64))])) _
    refine XS.aloadN X0.here hx rfl (hb hby d1_1) rfl rfl ?_
    show Steps p.tables e below (s₁.setTop (mkF m 2 #[.val (.ref w_RUNS), .val (.long (20 : Int64)), .second] [(.ref w_RUNS), (.long (20 : Int64))])) _
    refine st1 _ ?_
    show Steps p.tables e below (T1.setTop (mkF m 5 #[.val (.ref w_RUNS), .val (.long (20 : Int64)), .second] [(.long (20 : Int64)), (.long (20 : Int64))])) _
    refine XS.lcmp X1.here hx rfl (hb hby d1_5) rfl ?_
    show Steps p.tables e below (T1.setTop (mkF m 6 #[.val (.ref w_RUNS), .val (.long (20 : Int64)), .second] [(.int (lcmpW (20 : Int64) (20 : Int64)))])) _
    rw [show (lcmpW (20 : Int64) (20 : Int64)) = (0 : Int32) from by decide +kernel]
    show Steps p.tables e below (T1.setTop (mkF m 6 #[.val (.ref w_RUNS), .val (.long (20 : Int64)), .second] [(.int (0 : Int32))])) _
    refine XS.ifYes X1.here hx rfl (pc0 := 6) (pc' := 13) rfl (hb hby d1_6) rfl ((if0 _ _).trans (flt (by decide +kernel : ¬ ((0 : Int32) < (0 : Int32)))).2.2.2) (by decide) (by decide) ?_
    show Steps p.tables e below (T1.setTop (mkF m 13 #[.val (.ref w_RUNS), .val (.long (20 : Int64)), .second] [])) _
    refine XS.iconst X1.here hx rfl (hb hby d1_13) ?_
    show Steps p.tables e below (T1.setTop (mkF m 14 #[.val (.ref w_RUNS), .val (.long (20 : Int64)), .second] [(.int (0 : Int32))])) _
    exact retN X1 hx (t := .boolean) Bd.returns (by simp) (hb hby d1_14) hr
  · exact ⟨rfl, N0, e1⟩
set_option maxRecDepth 65536 in
set_option maxHeartbeats 40000000 in
theorem rm1_2 (l : Launch) (Z : State) (a0 : Array Value) (hw : ∀ d ∈ tables_1, d.before a0 Z = true) (ws : List Jvm.Cond) (w_RUNS w_RESULTS w_LOCATIONS w_THREAD_FLOW_LOCATIONS w_RULES w_EXTENSIONS w_TAGS : Addr) (h0 : Heap) (n0 : Nat) (Z0 : n0 ≤ h0.size) (C : Ctx Z h0 w_RUNS w_RESULTS w_LOCATIONS w_THREAD_FLOW_LOCATIONS w_RULES w_EXTENSIONS w_TAGS)  :
    MetFree l (⟨"com/example/verdictlint/verdictlint/sarif/Cap", "dropsSomeOf", "(J)Z"⟩ : MethodName) (head1 (Jvm.Cond.code (⟨"com/example/verdictlint/verdictlint/sarif/Cap", "dropsSomeOf", "(J)Z"⟩ : MethodName) prog_26_method_8_code 3 (some .boolean) :: ws) ({ frames := 0, cells := 0, slots := 0, locals := 0 } : Room)) (fun a U => a = #[(.ref w_RUNS), (.long (21 : Int64))] ∧ Z.Warmed39 U.vm ∧ U.heap = h0) (fun _ _ _ _ _ => True) (fun _ U o U' => ∃ v L, o = .returned v ∧ QR h0 n0 (some (.int (1 : Int32))) v U'.heap L ∧ FrameEnd U o U' L ({ frames := 0, cells := 0, slots := 0, locals := 0 } : Room).cells ({ frames := 0, cells := 0, slots := 0, locals := 0 } : Room).slots) := by
  have F_RUNS_kept := C.2.2.1
  refine MetFree.of_bodySF (plainFor_of_name pn_1) hisR ?_
  intro p e s m args below meth c s₁ Bd hml0 hP hK
  obtain ⟨rfl, hZ, hh⟩ := hP
  have hx := Bd.exec
  have hby := Bd.bytes
  have hml : c.maxLocals = 3 := hml0
  have hown : s.vm.findClass "com/example/verdictlint/verdictlint/sarif/Cap" = some m.cls := findClass_of_methodNamed Bd.named
  have hnm := (name_of_methodNamed Bd.named Bd.method).1
  have X0 : Stand p l e ({ frames := 0, cells := 0, slots := 0, locals := 0 } : Room) s m #[(.ref w_RUNS), (.long (21 : Int64))] below meth c s₁ [] 0 0 := Stand.of_body Bd
  have e0 : s₁.heap = h0 := by rw [← hh, Bd.state]; rfl
  have N0 := Fr.nil n0
  have pre0 : ∀ t, Steps p.tables e below (s₁.setTop (mkF m 0 #[.val (.ref w_RUNS), .val (.long (21 : Int64)), .second] [])) t → Steps p.tables e below (s₁.setTop (entryFrame m #[(.ref w_RUNS), (.long (21 : Int64))] 3)) t := fun t k => castTop (ef_1 m w_RUNS (21 : Int64)) k
  obtain ⟨T1, X1, e1, st1⟩ := getF X0 hx hZ hown (host := "") (Or.inl (hw _ (List.mem_of_getElem? (i := 10) rfl))) Via.refl e0 F_RUNS_kept (g := (mkF m 2 #[.val (.ref w_RUNS), .val (.long (21 : Int64)), .second] [(.ref w_RUNS), (.long (21 : Int64))])) rfl rfl (hb hby d1_2)
  obtain ⟨fs, hr, hrun, hended, hW, hsame⟩ := X1.leave (v := (some (.int (1 : Int32)))) (fun h => by rw [Bd.returns] at h; cases h)
  refine ⟨_, _, pre0 _ ?_, hrun, hended, _, _, rfl, ?_, ⟨_, rfl⟩, hW, hsame.mono (by decide) (by decide)⟩
  · show Steps p.tables e below (s₁.setTop (mkF m 0 #[.val (.ref w_RUNS), .val (.long (21 : Int64)), .second] [])) _
    refine XS.lloadN X0.here hx rfl (hb hby d1_0) rfl ?_
    show Steps p.tables e below (s₁.setTop (mkF m 1 #[.val (.ref w_RUNS), .val (.long (21 : Int64)), .second] [(.long (21 : Int64))])) _
    refine XS.aloadN X0.here hx rfl (hb hby d1_1) rfl rfl ?_
    show Steps p.tables e below (s₁.setTop (mkF m 2 #[.val (.ref w_RUNS), .val (.long (21 : Int64)), .second] [(.ref w_RUNS), (.long (21 : Int64))])) _
    refine st1 _ ?_
    show Steps p.tables e below (T1.setTop (mkF m 5 #[.val (.ref w_RUNS), .val (.long (21 : Int64)), .second] [(.long (20 : Int64)), (.long (21 : Int64))])) _
    refine XS.lcmp X1.here hx rfl (hb hby d1_5) rfl ?_
    show Steps p.tables e below (T1.setTop (mkF m 6 #[.val (.ref w_RUNS), .val (.long (21 : Int64)), .second] [(.int (lcmpW (21 : Int64) (20 : Int64)))])) _
    rw [show (lcmpW (21 : Int64) (20 : Int64)) = (1 : Int32) from by decide +kernel]
    show Steps p.tables e below (T1.setTop (mkF m 6 #[.val (.ref w_RUNS), .val (.long (21 : Int64)), .second] [(.int (1 : Int32))])) _
    refine XS.ifNo X1.here hx rfl (hb hby d1_6) rfl ((if0 _ _).trans (tlt (by decide +kernel : (0 : Int32) < (1 : Int32))).2.2.2) ?_
    show Steps p.tables e below (T1.setTop (mkF m 9 #[.val (.ref w_RUNS), .val (.long (21 : Int64)), .second] [])) _
    refine XS.iconst X1.here hx rfl (hb hby d1_9) ?_
    show Steps p.tables e below (T1.setTop (mkF m 10 #[.val (.ref w_RUNS), .val (.long (21 : Int64)), .second] [(.int (1 : Int32))])) _
    refine XS.goto X1.here hx rfl (pc0 := 10) (pc' := 14) rfl (hb hby d1_10) (by decide) (by decide) ?_
    show Steps p.tables e below (T1.setTop (mkF m 14 #[.val (.ref w_RUNS), .val (.long (21 : Int64)), .second] [(.int (1 : Int32))])) _
    exact retN X1 hx (t := .boolean) Bd.returns (by simp) (hb hby d1_14) hr
  · exact ⟨rfl, N0, e1⟩
set_option maxRecDepth 65536 in
set_option maxHeartbeats 40000000 in
theorem rm0_0 (l : Launch) (Z : State) (a0 : Array Value) (hw : ∀ d ∈ tables_1, d.before a0 Z = true) (ws : List Jvm.Cond) (w_RUNS w_RESULTS w_LOCATIONS w_THREAD_FLOW_LOCATIONS w_RULES w_EXTENSIONS w_TAGS : Addr) (i0 : Int32) (i1 : Int64) (h0 : Heap) (n0 : Nat) (Z0 : n0 ≤ h0.size) (C : Ctx Z h0 w_RUNS w_RESULTS w_LOCATIONS w_THREAD_FLOW_LOCATIONS w_RULES w_EXTENSIONS w_TAGS) (hv0 : ((i0 &&& (2147483647 : Int32)) % (7 : Int32)) = (0 : Int32)) (hv1 : (0 : Int32) < (lcmpW i1 (20 : Int64))) :
    MetFree l x (head1 (Jvm.Cond.code x code maxLocals ret :: ws) room_1) (fun a U => a = #[(.int i0), (.long i1)] ∧ Z.Warmed39 U.vm ∧ U.heap = h0) (fun _ _ _ _ _ => True) (fun _ U o U' => ∃ v L, o = .returned v ∧ QR h0 n0 (some (.int (1 : Int32))) v U'.heap L ∧ FrameEnd U o U' L room_1.cells room_1.slots) := by
  have S_RUNS := C.1
  have E_RUNS := C.2.1
  refine MetFree.of_bodySF (plainFor_of_name pn_0) hisR ?_
  intro p e s m args below meth c s₁ Bd hml0 hP hK
  obtain ⟨rfl, hZ, hh⟩ := hP
  have hx := Bd.exec
  have hby := Bd.bytes
  have hml : c.maxLocals = 10 := hml0
  have hown : s.vm.findClass "com/example/verdictlint/verdictlint/sarif/CapDropsSomeOfPinLaw" = some m.cls := findClass_of_methodNamed Bd.named
  have hnm := (name_of_methodNamed Bd.named Bd.method).1
  have X0 : Stand p l e room_1 s m #[(.int i0), (.long i1)] below meth c s₁ [] 0 0 := Stand.of_body Bd
  have e0 : s₁.heap = h0 := by rw [← hh, Bd.state]; rfl
  have N0 := Fr.nil n0
  have pre0 : ∀ t, Steps p.tables e below (s₁.setTop (mkF m 0 #[.val (.int i0), .val (.long i1), .second, .unset, .unset, .unset, .unset, .unset, .unset, .unset] [])) t → Steps p.tables e below (s₁.setTop (entryFrame m #[(.int i0), (.long i1)] maxLocals)) t := fun t k => castTop (ef_0 m i0 i1) k
  obtain ⟨T1, X1, e1, st1⟩ := getS2 X0 hx hZ hown (host := "") (Or.inl (hw _ (List.mem_of_getElem? (i := 1) rfl))) Via.refl e0 S_RUNS (g := (mkF m 12 #[.val (.int i0), .val (.long i1), .second, .val (.int (0 : Int32)), .unset, .unset, .unset, .unset, .unset, .unset] [])) rfl (hb hby at_12)
  obtain ⟨cq2, kq2, q2a, q2b, q2c⟩ := isOf hZ e1 E_RUNS
  obtain ⟨_, _, ⟨T2, L2, k2, n2⟩, -, X2, ⟨Lc2, hQ2, l2, y2, z2⟩, st2⟩ := X1.virtualBack hx (y := (⟨"com/example/verdictlint/verdictlint/sarif/Cap", "dropsSomeOf", "(J)Z"⟩ : MethodName)) (z := (⟨"com/example/verdictlint/verdictlint/sarif/Cap", "dropsSomeOf", "(J)Z"⟩ : MethodName)) hown (mvT hZ (hw _ (List.mem_of_getElem? (i := 5) rfl))) (mvT hZ (hw _ (List.mem_of_getElem? (i := 6) rfl))) (notFace_of_selects (args := #[]) (mvT hZ (hw _ (List.mem_of_getElem? (i := 8) rfl)))) (mvT hZ (hw _ (List.mem_of_getElem? (i := 8) rfl))) (mvT hZ (hw _ (List.mem_of_getElem? (i := 7) rfl))) (by decide) (backOf (W := 0) (rm1_0 l Z a0 hw [] w_RUNS w_RESULTS w_LOCATIONS w_THREAD_FLOW_LOCATIONS w_RULES w_EXTENSIONS w_TAGS i0 i1 h0 n0 Z0 C hv0 hv1) hZ (hw _ (List.mem_of_getElem? (i := 9) rfl)) (hw _ (List.mem_of_getElem? (i := 2) rfl)) (by decide) (by decide)) q2a q2c (g := (mkF m 128 #[.val (.int i0), .val (.long i1), .second, .val (.int (0 : Int32)), .val (.ref w_RUNS), .val (.long (20 : Int64)), .second, .unset, .unset, .unset] [(.long i1), (.ref w_RUNS)])) rfl (by rw [hml]; rfl) (Steps.refl _) (argsL := [(.long i1)]) (rest := []) (lenOf pd_0 rfl) rfl (by show 2 * 0 + _ ≤ _; exact Nat.le_of_eq rfl) (hb hby at_128) (fun _ _ => ⟨rfl, e1, (by decide : 0 + 0 ≤ _), (by decide : 0 + 0 ≤ _)⟩)
  dsimp only [Pt.U, Pt.locs, Pt.cells, Pt.slots] at X2 l2 y2 z2 st2 hQ2
  subst l2 y2 z2
  obtain ⟨rfl, N2q, e2⟩ := hQ2
  have N2 := Fr.app N0 N2q
  obtain ⟨cq3, kq3, q3a, q3b, q3c⟩ := isOf hZ e2 E_RUNS
  obtain ⟨_, _, ⟨T3, L3, k3, n3⟩, -, X3, ⟨Lc3, hQ3, l3, y3, z3⟩, st3⟩ := X2.virtualBack hx (y := (⟨"com/example/verdictlint/verdictlint/sarif/Cap", "dropsSomeOf", "(J)Z"⟩ : MethodName)) (z := (⟨"com/example/verdictlint/verdictlint/sarif/Cap", "dropsSomeOf", "(J)Z"⟩ : MethodName)) hown (mvT hZ (hw _ (List.mem_of_getElem? (i := 5) rfl))) (mvT hZ (hw _ (List.mem_of_getElem? (i := 6) rfl))) (notFace_of_selects (args := #[]) (mvT hZ (hw _ (List.mem_of_getElem? (i := 8) rfl)))) (mvT hZ (hw _ (List.mem_of_getElem? (i := 8) rfl))) (mvT hZ (hw _ (List.mem_of_getElem? (i := 7) rfl))) (by decide) (backOf (W := 0) (rm1_1 l Z a0 hw [] w_RUNS w_RESULTS w_LOCATIONS w_THREAD_FLOW_LOCATIONS w_RULES w_EXTENSIONS w_TAGS  h0 n0 Z0 C ) hZ (hw _ (List.mem_of_getElem? (i := 9) rfl)) (hw _ (List.mem_of_getElem? (i := 2) rfl)) (by decide) (by decide)) q3a q3c (g := (mkF m 157 #[.val (.int i0), .val (.long i1), .second, .val (.int (0 : Int32)), .val (.ref w_RUNS), .val (.long (20 : Int64)), .second, .val (.int (1 : Int32)), .unset, .unset] [(.long (20 : Int64)), (.ref w_RUNS)])) rfl (by rw [hml]; rfl) (Steps.refl _) (argsL := [(.long (20 : Int64))]) (rest := []) (lenOf pd_0 rfl) rfl (by show 2 * 0 + _ ≤ _; exact Nat.le_of_eq rfl) (hb hby at_157) (fun _ _ => ⟨rfl, e2, (by decide : 0 + 0 ≤ _), (by decide : 0 + 0 ≤ _)⟩)
  dsimp only [Pt.U, Pt.locs, Pt.cells, Pt.slots] at X3 l3 y3 z3 st3 hQ3
  subst l3 y3 z3
  obtain ⟨rfl, N3q, e3⟩ := hQ3
  have N3 := Fr.app N2 N3q
  obtain ⟨cq4, kq4, q4a, q4b, q4c⟩ := isOf hZ e3 E_RUNS
  obtain ⟨_, _, ⟨T4, L4, k4, n4⟩, -, X4, ⟨Lc4, hQ4, l4, y4, z4⟩, st4⟩ := X3.virtualBack hx (y := (⟨"com/example/verdictlint/verdictlint/sarif/Cap", "dropsSomeOf", "(J)Z"⟩ : MethodName)) (z := (⟨"com/example/verdictlint/verdictlint/sarif/Cap", "dropsSomeOf", "(J)Z"⟩ : MethodName)) hown (mvT hZ (hw _ (List.mem_of_getElem? (i := 5) rfl))) (mvT hZ (hw _ (List.mem_of_getElem? (i := 6) rfl))) (notFace_of_selects (args := #[]) (mvT hZ (hw _ (List.mem_of_getElem? (i := 8) rfl)))) (mvT hZ (hw _ (List.mem_of_getElem? (i := 8) rfl))) (mvT hZ (hw _ (List.mem_of_getElem? (i := 7) rfl))) (by decide) (backOf (W := 0) (rm1_2 l Z a0 hw [] w_RUNS w_RESULTS w_LOCATIONS w_THREAD_FLOW_LOCATIONS w_RULES w_EXTENSIONS w_TAGS  h0 n0 Z0 C ) hZ (hw _ (List.mem_of_getElem? (i := 9) rfl)) (hw _ (List.mem_of_getElem? (i := 2) rfl)) (by decide) (by decide)) q4a q4c (g := (mkF m 176 #[.val (.int i0), .val (.long i1), .second, .val (.int (0 : Int32)), .val (.ref w_RUNS), .val (.long (20 : Int64)), .second, .val (.int (1 : Int32)), .val (.int (1 : Int32)), .unset] [(.long (21 : Int64)), (.ref w_RUNS)])) rfl (by rw [hml]; rfl) (Steps.refl _) (argsL := [(.long (21 : Int64))]) (rest := []) (lenOf pd_0 rfl) rfl (by show 2 * 0 + _ ≤ _; exact Nat.le_of_eq rfl) (hb hby at_176) (fun _ _ => ⟨rfl, e3, (by decide : 0 + 0 ≤ _), (by decide : 0 + 0 ≤ _)⟩)
  dsimp only [Pt.U, Pt.locs, Pt.cells, Pt.slots] at X4 l4 y4 z4 st4 hQ4
  subst l4 y4 z4
  obtain ⟨rfl, N4q, e4⟩ := hQ4
  have N4 := Fr.app N3 N4q
  obtain ⟨fs, hr, hrun, hended, hW, hsame⟩ := X4.leave (v := (some (.int (1 : Int32)))) (fun h => by rw [Bd.returns] at h; cases h)
  refine ⟨_, _, pre0 _ ?_, hrun, hended, _, _, rfl, ?_, ⟨_, rfl⟩, hW, hsame.mono (by decide) (by decide)⟩
  · show Steps p.tables e below (s₁.setTop (mkF m 0 #[.val (.int i0), .val (.long i1), .second, .unset, .unset, .unset, .unset, .unset, .unset, .unset] [])) _
    refine XS.iloadN X0.here hx rfl (hb hby at_0) rfl ?_
    show Steps p.tables e below (s₁.setTop (mkF m 1 #[.val (.int i0), .val (.long i1), .second, .unset, .unset, .unset, .unset, .unset, .unset, .unset] [(.int i0)])) _
    refine X0.ldcInt hx hown (mvT hZ (hw _ (List.mem_of_getElem? (i := 0) rfl))) (g := (mkF m 1 #[.val (.int i0), .val (.long i1), .second, .unset, .unset, .unset, .unset, .unset, .unset, .unset] [(.int i0)])) rfl (hb hby at_1) _ ?_
    show Steps p.tables e below (s₁.setTop (mkF m 3 #[.val (.int i0), .val (.long i1), .second, .unset, .unset, .unset, .unset, .unset, .unset, .unset] [(.int (2147483647 : Int32)), (.int i0)])) _
    refine XS.iand X0.here hx rfl (hb hby at_3) rfl ?_
    show Steps p.tables e below (s₁.setTop (mkF m 4 #[.val (.int i0), .val (.long i1), .second, .unset, .unset, .unset, .unset, .unset, .unset, .unset] [(.int (i0 &&& (2147483647 : Int32)))])) _
    refine XS.bipush X0.here hx rfl (hb hby at_4) ?_
    show Steps p.tables e below (s₁.setTop (mkF m 6 #[.val (.int i0), .val (.long i1), .second, .unset, .unset, .unset, .unset, .unset, .unset, .unset] [(.int (7 : Int32)), (.int (i0 &&& (2147483647 : Int32)))])) _
    refine iremM (g := (mkF m 6 #[.val (.int i0), .val (.long i1), .second, .unset, .unset, .unset, .unset, .unset, .unset, .unset] [(.int (7 : Int32)), (.int (i0 &&& (2147483647 : Int32)))])) X0 hx rfl (hb hby at_6) rfl (by decide) ?_
    show Steps p.tables e below (s₁.setTop (mkF m 7 #[.val (.int i0), .val (.long i1), .second, .unset, .unset, .unset, .unset, .unset, .unset, .unset] [(.int ((i0 &&& (2147483647 : Int32)) % (7 : Int32)))])) _
    rw [hv0]
    show Steps p.tables e below (s₁.setTop (mkF m 7 #[.val (.int i0), .val (.long i1), .second, .unset, .unset, .unset, .unset, .unset, .unset, .unset] [(.int (0 : Int32))])) _
    refine XS.istoreN X0.here hx rfl (hb hby at_7) rfl (l' := #[.val (.int i0), .val (.long i1), .second, .val (.int (0 : Int32)), .unset, .unset, .unset, .unset, .unset, .unset]) rfl ?_
    show Steps p.tables e below (s₁.setTop (mkF m 8 #[.val (.int i0), .val (.long i1), .second, .val (.int (0 : Int32)), .unset, .unset, .unset, .unset, .unset, .unset] [])) _
    refine XS.iloadN X0.here hx rfl (hb hby at_8) rfl ?_
    show Steps p.tables e below (s₁.setTop (mkF m 9 #[.val (.int i0), .val (.long i1), .second, .val (.int (0 : Int32)), .unset, .unset, .unset, .unset, .unset, .unset] [(.int (0 : Int32))])) _
    refine XS.ifNo X0.here hx rfl (hb hby at_9) rfl ((if0 _ _).trans (teq (by decide +kernel : (0 : Int32) = (0 : Int32))).2) ?_
    show Steps p.tables e below (s₁.setTop (mkF m 12 #[.val (.int i0), .val (.long i1), .second, .val (.int (0 : Int32)), .unset, .unset, .unset, .unset, .unset, .unset] [])) _
    refine st1 _ ?_
    show Steps p.tables e below (T1.setTop (mkF m 15 #[.val (.int i0), .val (.long i1), .second, .val (.int (0 : Int32)), .unset, .unset, .unset, .unset, .unset, .unset] [(.ref w_RUNS)])) _
    refine XS.astore X1.here hx rfl (hb hby at_15) rfl rfl (l' := #[.val (.int i0), .val (.long i1), .second, .val (.int (0 : Int32)), .val (.ref w_RUNS), .unset, .unset, .unset, .unset, .unset]) rfl ?_
    show Steps p.tables e below (T1.setTop (mkF m 17 #[.val (.int i0), .val (.long i1), .second, .val (.int (0 : Int32)), .val (.ref w_RUNS), .unset, .unset, .unset, .unset, .unset] [])) _
    refine X1.ldc2Long hx hown (mvT hZ (hw _ (List.mem_of_getElem? (i := 4) rfl))) (g := (mkF m 17 #[.val (.int i0), .val (.long i1), .second, .val (.int (0 : Int32)), .val (.ref w_RUNS), .unset, .unset, .unset, .unset, .unset] [])) rfl (hb hby at_17) _ ?_
    show Steps p.tables e below (T1.setTop (mkF m 20 #[.val (.int i0), .val (.long i1), .second, .val (.int (0 : Int32)), .val (.ref w_RUNS), .unset, .unset, .unset, .unset, .unset] [(.long (20 : Int64))])) _
    refine XS.lstore X1.here hx rfl (hb hby at_20) rfl (l' := #[.val (.int i0), .val (.long i1), .second, .val (.int (0 : Int32)), .val (.ref w_RUNS), .val (.long (20 : Int64)), .second, .unset, .unset, .unset]) rfl ?_
    show Steps p.tables e below (T1.setTop (mkF m 22 #[.val (.int i0), .val (.long i1), .second, .val (.int (0 : Int32)), .val (.ref w_RUNS), .val (.long (20 : Int64)), .second, .unset, .unset, .unset] [])) _
    refine XS.goto X1.here hx rfl (pc0 := 22) (pc' := 125) rfl (hb hby at_22) (by decide) (by decide) ?_
    show Steps p.tables e below (T1.setTop (mkF m 125 #[.val (.int i0), .val (.long i1), .second, .val (.int (0 : Int32)), .val (.ref w_RUNS), .val (.long (20 : Int64)), .second, .unset, .unset, .unset] [])) _
    refine XS.aload X1.here hx rfl (hb hby at_125) rfl rfl ?_
    show Steps p.tables e below (T1.setTop (mkF m 127 #[.val (.int i0), .val (.long i1), .second, .val (.int (0 : Int32)), .val (.ref w_RUNS), .val (.long (20 : Int64)), .second, .unset, .unset, .unset] [(.ref w_RUNS)])) _
    refine XS.lloadN X1.here hx rfl (hb hby at_127) rfl ?_
    show Steps p.tables e below (T1.setTop (mkF m 128 #[.val (.int i0), .val (.long i1), .second, .val (.int (0 : Int32)), .val (.ref w_RUNS), .val (.long (20 : Int64)), .second, .unset, .unset, .unset] [(.long i1), (.ref w_RUNS)])) _
    refine st2.trans ?_
    show Steps p.tables e below (T2.setTop (mkF m 131 #[.val (.int i0), .val (.long i1), .second, .val (.int (0 : Int32)), .val (.ref w_RUNS), .val (.long (20 : Int64)), .second, .unset, .unset, .unset] [(.int (1 : Int32))])) _
    refine XS.lloadN X2.here hx rfl (hb hby at_131) rfl ?_
    show Steps p.tables e below (T2.setTop (mkF m 132 #[.val (.int i0), .val (.long i1), .second, .val (.int (0 : Int32)), .val (.ref w_RUNS), .val (.long (20 : Int64)), .second, .unset, .unset, .unset] [(.long i1), (.int (1 : Int32))])) _
    refine XS.lload X2.here hx rfl (hb hby at_132) rfl ?_
    show Steps p.tables e below (T2.setTop (mkF m 134 #[.val (.int i0), .val (.long i1), .second, .val (.int (0 : Int32)), .val (.ref w_RUNS), .val (.long (20 : Int64)), .second, .unset, .unset, .unset] [(.long (20 : Int64)), (.long i1), (.int (1 : Int32))])) _
    refine XS.lcmp X2.here hx rfl (hb hby at_134) rfl ?_
    show Steps p.tables e below (T2.setTop (mkF m 135 #[.val (.int i0), .val (.long i1), .second, .val (.int (0 : Int32)), .val (.ref w_RUNS), .val (.long (20 : Int64)), .second, .unset, .unset, .unset] [(.int (lcmpW i1 (20 : Int64))), (.int (1 : Int32))])) _
    refine XS.ifNo X2.here hx rfl (hb hby at_135) rfl ((if0 _ _).trans (tlt hv1).2.2.2) ?_
    show Steps p.tables e below (T2.setTop (mkF m 138 #[.val (.int i0), .val (.long i1), .second, .val (.int (0 : Int32)), .val (.ref w_RUNS), .val (.long (20 : Int64)), .second, .unset, .unset, .unset] [(.int (1 : Int32))])) _
    refine XS.iconst X2.here hx rfl (hb hby at_138) ?_
    show Steps p.tables e below (T2.setTop (mkF m 139 #[.val (.int i0), .val (.long i1), .second, .val (.int (0 : Int32)), .val (.ref w_RUNS), .val (.long (20 : Int64)), .second, .unset, .unset, .unset] [(.int (1 : Int32)), (.int (1 : Int32))])) _
    refine XS.goto X2.here hx rfl (pc0 := 139) (pc' := 143) rfl (hb hby at_139) (by decide) (by decide) ?_
    show Steps p.tables e below (T2.setTop (mkF m 143 #[.val (.int i0), .val (.long i1), .second, .val (.int (0 : Int32)), .val (.ref w_RUNS), .val (.long (20 : Int64)), .second, .unset, .unset, .unset] [(.int (1 : Int32)), (.int (1 : Int32))])) _
    refine XS.icmpNo X2.here hx rfl (hb hby at_143) rfl (teq (by decide +kernel : (1 : Int32) = (1 : Int32))).2 ?_
    show Steps p.tables e below (T2.setTop (mkF m 146 #[.val (.int i0), .val (.long i1), .second, .val (.int (0 : Int32)), .val (.ref w_RUNS), .val (.long (20 : Int64)), .second, .unset, .unset, .unset] [])) _
    refine XS.iconst X2.here hx rfl (hb hby at_146) ?_
    show Steps p.tables e below (T2.setTop (mkF m 147 #[.val (.int i0), .val (.long i1), .second, .val (.int (0 : Int32)), .val (.ref w_RUNS), .val (.long (20 : Int64)), .second, .unset, .unset, .unset] [(.int (1 : Int32))])) _
    refine XS.goto X2.here hx rfl (pc0 := 147) (pc' := 151) rfl (hb hby at_147) (by decide) (by decide) ?_
    show Steps p.tables e below (T2.setTop (mkF m 151 #[.val (.int i0), .val (.long i1), .second, .val (.int (0 : Int32)), .val (.ref w_RUNS), .val (.long (20 : Int64)), .second, .unset, .unset, .unset] [(.int (1 : Int32))])) _
    refine XS.istore X2.here hx rfl (hb hby at_151) rfl (l' := #[.val (.int i0), .val (.long i1), .second, .val (.int (0 : Int32)), .val (.ref w_RUNS), .val (.long (20 : Int64)), .second, .val (.int (1 : Int32)), .unset, .unset]) rfl ?_
    show Steps p.tables e below (T2.setTop (mkF m 153 #[.val (.int i0), .val (.long i1), .second, .val (.int (0 : Int32)), .val (.ref w_RUNS), .val (.long (20 : Int64)), .second, .val (.int (1 : Int32)), .unset, .unset] [])) _
    refine XS.aload X2.here hx rfl (hb hby at_153) rfl rfl ?_
    show Steps p.tables e below (T2.setTop (mkF m 155 #[.val (.int i0), .val (.long i1), .second, .val (.int (0 : Int32)), .val (.ref w_RUNS), .val (.long (20 : Int64)), .second, .val (.int (1 : Int32)), .unset, .unset] [(.ref w_RUNS)])) _
    refine XS.lload X2.here hx rfl (hb hby at_155) rfl ?_
    show Steps p.tables e below (T2.setTop (mkF m 157 #[.val (.int i0), .val (.long i1), .second, .val (.int (0 : Int32)), .val (.ref w_RUNS), .val (.long (20 : Int64)), .second, .val (.int (1 : Int32)), .unset, .unset] [(.long (20 : Int64)), (.ref w_RUNS)])) _
    refine st3.trans ?_
    show Steps p.tables e below (T3.setTop (mkF m 160 #[.val (.int i0), .val (.long i1), .second, .val (.int (0 : Int32)), .val (.ref w_RUNS), .val (.long (20 : Int64)), .second, .val (.int (1 : Int32)), .unset, .unset] [(.int (0 : Int32))])) _
    refine XS.ifNo X3.here hx rfl (hb hby at_160) rfl ((if0 _ _).trans (teq (by decide +kernel : (0 : Int32) = (0 : Int32))).2) ?_
    show Steps p.tables e below (T3.setTop (mkF m 163 #[.val (.int i0), .val (.long i1), .second, .val (.int (0 : Int32)), .val (.ref w_RUNS), .val (.long (20 : Int64)), .second, .val (.int (1 : Int32)), .unset, .unset] [])) _
    refine XS.iconst X3.here hx rfl (hb hby at_163) ?_
    show Steps p.tables e below (T3.setTop (mkF m 164 #[.val (.int i0), .val (.long i1), .second, .val (.int (0 : Int32)), .val (.ref w_RUNS), .val (.long (20 : Int64)), .second, .val (.int (1 : Int32)), .unset, .unset] [(.int (1 : Int32))])) _
    refine XS.goto X3.here hx rfl (pc0 := 164) (pc' := 168) rfl (hb hby at_164) (by decide) (by decide) ?_
    show Steps p.tables e below (T3.setTop (mkF m 168 #[.val (.int i0), .val (.long i1), .second, .val (.int (0 : Int32)), .val (.ref w_RUNS), .val (.long (20 : Int64)), .second, .val (.int (1 : Int32)), .unset, .unset] [(.int (1 : Int32))])) _
    refine XS.istore X3.here hx rfl (hb hby at_168) rfl (l' := #[.val (.int i0), .val (.long i1), .second, .val (.int (0 : Int32)), .val (.ref w_RUNS), .val (.long (20 : Int64)), .second, .val (.int (1 : Int32)), .val (.int (1 : Int32)), .unset]) rfl ?_
    show Steps p.tables e below (T3.setTop (mkF m 170 #[.val (.int i0), .val (.long i1), .second, .val (.int (0 : Int32)), .val (.ref w_RUNS), .val (.long (20 : Int64)), .second, .val (.int (1 : Int32)), .val (.int (1 : Int32)), .unset] [])) _
    refine XS.aload X3.here hx rfl (hb hby at_170) rfl rfl ?_
    show Steps p.tables e below (T3.setTop (mkF m 172 #[.val (.int i0), .val (.long i1), .second, .val (.int (0 : Int32)), .val (.ref w_RUNS), .val (.long (20 : Int64)), .second, .val (.int (1 : Int32)), .val (.int (1 : Int32)), .unset] [(.ref w_RUNS)])) _
    refine XS.lload X3.here hx rfl (hb hby at_172) rfl ?_
    show Steps p.tables e below (T3.setTop (mkF m 174 #[.val (.int i0), .val (.long i1), .second, .val (.int (0 : Int32)), .val (.ref w_RUNS), .val (.long (20 : Int64)), .second, .val (.int (1 : Int32)), .val (.int (1 : Int32)), .unset] [(.long (20 : Int64)), (.ref w_RUNS)])) _
    refine XS.lconst X3.here hx rfl (hb hby at_174) ?_
    show Steps p.tables e below (T3.setTop (mkF m 175 #[.val (.int i0), .val (.long i1), .second, .val (.int (0 : Int32)), .val (.ref w_RUNS), .val (.long (20 : Int64)), .second, .val (.int (1 : Int32)), .val (.int (1 : Int32)), .unset] [(.long (1 : Int64)), (.long (20 : Int64)), (.ref w_RUNS)])) _
    refine XS.ladd X3.here hx rfl (hb hby at_175) rfl ?_
    show Steps p.tables e below (T3.setTop (mkF m 176 #[.val (.int i0), .val (.long i1), .second, .val (.int (0 : Int32)), .val (.ref w_RUNS), .val (.long (20 : Int64)), .second, .val (.int (1 : Int32)), .val (.int (1 : Int32)), .unset] [(.long ((20 : Int64) + (1 : Int64))), (.ref w_RUNS)])) _
    rw [show ((20 : Int64) + (1 : Int64)) = (21 : Int64) from by decide +kernel]
    show Steps p.tables e below (T3.setTop (mkF m 176 #[.val (.int i0), .val (.long i1), .second, .val (.int (0 : Int32)), .val (.ref w_RUNS), .val (.long (20 : Int64)), .second, .val (.int (1 : Int32)), .val (.int (1 : Int32)), .unset] [(.long (21 : Int64)), (.ref w_RUNS)])) _
    refine st4.trans ?_
    show Steps p.tables e below (T4.setTop (mkF m 179 #[.val (.int i0), .val (.long i1), .second, .val (.int (0 : Int32)), .val (.ref w_RUNS), .val (.long (20 : Int64)), .second, .val (.int (1 : Int32)), .val (.int (1 : Int32)), .unset] [(.int (1 : Int32))])) _
    refine XS.istore X4.here hx rfl (hb hby at_179) rfl (l' := #[.val (.int i0), .val (.long i1), .second, .val (.int (0 : Int32)), .val (.ref w_RUNS), .val (.long (20 : Int64)), .second, .val (.int (1 : Int32)), .val (.int (1 : Int32)), .val (.int (1 : Int32))]) rfl ?_
    show Steps p.tables e below (T4.setTop (mkF m 181 #[.val (.int i0), .val (.long i1), .second, .val (.int (0 : Int32)), .val (.ref w_RUNS), .val (.long (20 : Int64)), .second, .val (.int (1 : Int32)), .val (.int (1 : Int32)), .val (.int (1 : Int32))] [])) _
    refine XS.iload X4.here hx rfl (hb hby at_181) rfl ?_
    show Steps p.tables e below (T4.setTop (mkF m 183 #[.val (.int i0), .val (.long i1), .second, .val (.int (0 : Int32)), .val (.ref w_RUNS), .val (.long (20 : Int64)), .second, .val (.int (1 : Int32)), .val (.int (1 : Int32)), .val (.int (1 : Int32))] [(.int (1 : Int32))])) _
    refine XS.ifNo X4.here hx rfl (hb hby at_183) rfl ((if0 _ _).trans (feq (by decide +kernel : ¬ ((1 : Int32) = (0 : Int32)))).1) ?_
    show Steps p.tables e below (T4.setTop (mkF m 186 #[.val (.int i0), .val (.long i1), .second, .val (.int (0 : Int32)), .val (.ref w_RUNS), .val (.long (20 : Int64)), .second, .val (.int (1 : Int32)), .val (.int (1 : Int32)), .val (.int (1 : Int32))] [])) _
    refine XS.iload X4.here hx rfl (hb hby at_186) rfl ?_
    show Steps p.tables e below (T4.setTop (mkF m 188 #[.val (.int i0), .val (.long i1), .second, .val (.int (0 : Int32)), .val (.ref w_RUNS), .val (.long (20 : Int64)), .second, .val (.int (1 : Int32)), .val (.int (1 : Int32)), .val (.int (1 : Int32))] [(.int (1 : Int32))])) _
    refine XS.ifNo X4.here hx rfl (hb hby at_188) rfl ((if0 _ _).trans (feq (by decide +kernel : ¬ ((1 : Int32) = (0 : Int32)))).1) ?_
    show Steps p.tables e below (T4.setTop (mkF m 191 #[.val (.int i0), .val (.long i1), .second, .val (.int (0 : Int32)), .val (.ref w_RUNS), .val (.long (20 : Int64)), .second, .val (.int (1 : Int32)), .val (.int (1 : Int32)), .val (.int (1 : Int32))] [])) _
    refine XS.iload X4.here hx rfl (hb hby at_191) rfl ?_
    show Steps p.tables e below (T4.setTop (mkF m 193 #[.val (.int i0), .val (.long i1), .second, .val (.int (0 : Int32)), .val (.ref w_RUNS), .val (.long (20 : Int64)), .second, .val (.int (1 : Int32)), .val (.int (1 : Int32)), .val (.int (1 : Int32))] [(.int (1 : Int32))])) _
    refine XS.ifNo X4.here hx rfl (hb hby at_193) rfl ((if0 _ _).trans (feq (by decide +kernel : ¬ ((1 : Int32) = (0 : Int32)))).1) ?_
    show Steps p.tables e below (T4.setTop (mkF m 196 #[.val (.int i0), .val (.long i1), .second, .val (.int (0 : Int32)), .val (.ref w_RUNS), .val (.long (20 : Int64)), .second, .val (.int (1 : Int32)), .val (.int (1 : Int32)), .val (.int (1 : Int32))] [])) _
    refine XS.iconst X4.here hx rfl (hb hby at_196) ?_
    show Steps p.tables e below (T4.setTop (mkF m 197 #[.val (.int i0), .val (.long i1), .second, .val (.int (0 : Int32)), .val (.ref w_RUNS), .val (.long (20 : Int64)), .second, .val (.int (1 : Int32)), .val (.int (1 : Int32)), .val (.int (1 : Int32))] [(.int (1 : Int32))])) _
    refine XS.goto X4.here hx rfl (pc0 := 197) (pc' := 201) rfl (hb hby at_197) (by decide) (by decide) ?_
    show Steps p.tables e below (T4.setTop (mkF m 201 #[.val (.int i0), .val (.long i1), .second, .val (.int (0 : Int32)), .val (.ref w_RUNS), .val (.long (20 : Int64)), .second, .val (.int (1 : Int32)), .val (.int (1 : Int32)), .val (.int (1 : Int32))] [(.int (1 : Int32))])) _
    exact retN X4 hx (t := .boolean) Bd.returns (by simp) (hb hby at_201) hr
  · exact ⟨rfl, N4, e4⟩
set_option maxRecDepth 65536 in
set_option maxHeartbeats 40000000 in
theorem rm1_3 (l : Launch) (Z : State) (a0 : Array Value) (hw : ∀ d ∈ tables_1, d.before a0 Z = true) (ws : List Jvm.Cond) (w_RUNS w_RESULTS w_LOCATIONS w_THREAD_FLOW_LOCATIONS w_RULES w_EXTENSIONS w_TAGS : Addr) (i0 : Int32) (i1 : Int64) (h0 : Heap) (n0 : Nat) (Z0 : n0 ≤ h0.size) (C : Ctx Z h0 w_RUNS w_RESULTS w_LOCATIONS w_THREAD_FLOW_LOCATIONS w_RULES w_EXTENSIONS w_TAGS) (hv0 : ((i0 &&& (2147483647 : Int32)) % (7 : Int32)) = (0 : Int32)) (hv1 : ¬ ((0 : Int32) < (lcmpW i1 (20 : Int64)))) :
    MetFree l (⟨"com/example/verdictlint/verdictlint/sarif/Cap", "dropsSomeOf", "(J)Z"⟩ : MethodName) (head1 (Jvm.Cond.code (⟨"com/example/verdictlint/verdictlint/sarif/Cap", "dropsSomeOf", "(J)Z"⟩ : MethodName) prog_26_method_8_code 3 (some .boolean) :: ws) ({ frames := 0, cells := 0, slots := 0, locals := 0 } : Room)) (fun a U => a = #[(.ref w_RUNS), (.long i1)] ∧ Z.Warmed39 U.vm ∧ U.heap = h0) (fun _ _ _ _ _ => True) (fun _ U o U' => ∃ v L, o = .returned v ∧ QR h0 n0 (some (.int (0 : Int32))) v U'.heap L ∧ FrameEnd U o U' L ({ frames := 0, cells := 0, slots := 0, locals := 0 } : Room).cells ({ frames := 0, cells := 0, slots := 0, locals := 0 } : Room).slots) := by
  have F_RUNS_kept := C.2.2.1
  refine MetFree.of_bodySF (plainFor_of_name pn_1) hisR ?_
  intro p e s m args below meth c s₁ Bd hml0 hP hK
  obtain ⟨rfl, hZ, hh⟩ := hP
  have hx := Bd.exec
  have hby := Bd.bytes
  have hml : c.maxLocals = 3 := hml0
  have hown : s.vm.findClass "com/example/verdictlint/verdictlint/sarif/Cap" = some m.cls := findClass_of_methodNamed Bd.named
  have hnm := (name_of_methodNamed Bd.named Bd.method).1
  have X0 : Stand p l e ({ frames := 0, cells := 0, slots := 0, locals := 0 } : Room) s m #[(.ref w_RUNS), (.long i1)] below meth c s₁ [] 0 0 := Stand.of_body Bd
  have e0 : s₁.heap = h0 := by rw [← hh, Bd.state]; rfl
  have N0 := Fr.nil n0
  have pre0 : ∀ t, Steps p.tables e below (s₁.setTop (mkF m 0 #[.val (.ref w_RUNS), .val (.long i1), .second] [])) t → Steps p.tables e below (s₁.setTop (entryFrame m #[(.ref w_RUNS), (.long i1)] 3)) t := fun t k => castTop (ef_1 m w_RUNS i1) k
  obtain ⟨T1, X1, e1, st1⟩ := getF X0 hx hZ hown (host := "") (Or.inl (hw _ (List.mem_of_getElem? (i := 10) rfl))) Via.refl e0 F_RUNS_kept (g := (mkF m 2 #[.val (.ref w_RUNS), .val (.long i1), .second] [(.ref w_RUNS), (.long i1)])) rfl rfl (hb hby d1_2)
  obtain ⟨fs, hr, hrun, hended, hW, hsame⟩ := X1.leave (v := (some (.int (0 : Int32)))) (fun h => by rw [Bd.returns] at h; cases h)
  refine ⟨_, _, pre0 _ ?_, hrun, hended, _, _, rfl, ?_, ⟨_, rfl⟩, hW, hsame.mono (by decide) (by decide)⟩
  · show Steps p.tables e below (s₁.setTop (mkF m 0 #[.val (.ref w_RUNS), .val (.long i1), .second] [])) _
    refine XS.lloadN X0.here hx rfl (hb hby d1_0) rfl ?_
    show Steps p.tables e below (s₁.setTop (mkF m 1 #[.val (.ref w_RUNS), .val (.long i1), .second] [(.long i1)])) _
    refine XS.aloadN X0.here hx rfl (hb hby d1_1) rfl rfl ?_
    show Steps p.tables e below (s₁.setTop (mkF m 2 #[.val (.ref w_RUNS), .val (.long i1), .second] [(.ref w_RUNS), (.long i1)])) _
    refine st1 _ ?_
    show Steps p.tables e below (T1.setTop (mkF m 5 #[.val (.ref w_RUNS), .val (.long i1), .second] [(.long (20 : Int64)), (.long i1)])) _
    refine XS.lcmp X1.here hx rfl (hb hby d1_5) rfl ?_
    show Steps p.tables e below (T1.setTop (mkF m 6 #[.val (.ref w_RUNS), .val (.long i1), .second] [(.int (lcmpW i1 (20 : Int64)))])) _
    refine XS.ifYes X1.here hx rfl (pc0 := 6) (pc' := 13) rfl (hb hby d1_6) rfl ((if0 _ _).trans (flt hv1).2.2.2) (by decide) (by decide) ?_
    show Steps p.tables e below (T1.setTop (mkF m 13 #[.val (.ref w_RUNS), .val (.long i1), .second] [])) _
    refine XS.iconst X1.here hx rfl (hb hby d1_13) ?_
    show Steps p.tables e below (T1.setTop (mkF m 14 #[.val (.ref w_RUNS), .val (.long i1), .second] [(.int (0 : Int32))])) _
    exact retN X1 hx (t := .boolean) Bd.returns (by simp) (hb hby d1_14) hr
  · exact ⟨rfl, N0, e1⟩
set_option maxRecDepth 65536 in
set_option maxHeartbeats 40000000 in
theorem rm0_1 (l : Launch) (Z : State) (a0 : Array Value) (hw : ∀ d ∈ tables_1, d.before a0 Z = true) (ws : List Jvm.Cond) (w_RUNS w_RESULTS w_LOCATIONS w_THREAD_FLOW_LOCATIONS w_RULES w_EXTENSIONS w_TAGS : Addr) (i0 : Int32) (i1 : Int64) (h0 : Heap) (n0 : Nat) (Z0 : n0 ≤ h0.size) (C : Ctx Z h0 w_RUNS w_RESULTS w_LOCATIONS w_THREAD_FLOW_LOCATIONS w_RULES w_EXTENSIONS w_TAGS) (hv0 : ((i0 &&& (2147483647 : Int32)) % (7 : Int32)) = (0 : Int32)) (hv1 : ¬ ((0 : Int32) < (lcmpW i1 (20 : Int64)))) :
    MetFree l x (head1 (Jvm.Cond.code x code maxLocals ret :: ws) room_1) (fun a U => a = #[(.int i0), (.long i1)] ∧ Z.Warmed39 U.vm ∧ U.heap = h0) (fun _ _ _ _ _ => True) (fun _ U o U' => ∃ v L, o = .returned v ∧ QR h0 n0 (some (.int (1 : Int32))) v U'.heap L ∧ FrameEnd U o U' L room_1.cells room_1.slots) := by
  have S_RUNS := C.1
  have E_RUNS := C.2.1
  refine MetFree.of_bodySF (plainFor_of_name pn_0) hisR ?_
  intro p e s m args below meth c s₁ Bd hml0 hP hK
  obtain ⟨rfl, hZ, hh⟩ := hP
  have hx := Bd.exec
  have hby := Bd.bytes
  have hml : c.maxLocals = 10 := hml0
  have hown : s.vm.findClass "com/example/verdictlint/verdictlint/sarif/CapDropsSomeOfPinLaw" = some m.cls := findClass_of_methodNamed Bd.named
  have hnm := (name_of_methodNamed Bd.named Bd.method).1
  have X0 : Stand p l e room_1 s m #[(.int i0), (.long i1)] below meth c s₁ [] 0 0 := Stand.of_body Bd
  have e0 : s₁.heap = h0 := by rw [← hh, Bd.state]; rfl
  have N0 := Fr.nil n0
  have pre0 : ∀ t, Steps p.tables e below (s₁.setTop (mkF m 0 #[.val (.int i0), .val (.long i1), .second, .unset, .unset, .unset, .unset, .unset, .unset, .unset] [])) t → Steps p.tables e below (s₁.setTop (entryFrame m #[(.int i0), (.long i1)] maxLocals)) t := fun t k => castTop (ef_0 m i0 i1) k
  obtain ⟨T1, X1, e1, st1⟩ := getS2 X0 hx hZ hown (host := "") (Or.inl (hw _ (List.mem_of_getElem? (i := 1) rfl))) Via.refl e0 S_RUNS (g := (mkF m 12 #[.val (.int i0), .val (.long i1), .second, .val (.int (0 : Int32)), .unset, .unset, .unset, .unset, .unset, .unset] [])) rfl (hb hby at_12)
  obtain ⟨cq2, kq2, q2a, q2b, q2c⟩ := isOf hZ e1 E_RUNS
  obtain ⟨_, _, ⟨T2, L2, k2, n2⟩, -, X2, ⟨Lc2, hQ2, l2, y2, z2⟩, st2⟩ := X1.virtualBack hx (y := (⟨"com/example/verdictlint/verdictlint/sarif/Cap", "dropsSomeOf", "(J)Z"⟩ : MethodName)) (z := (⟨"com/example/verdictlint/verdictlint/sarif/Cap", "dropsSomeOf", "(J)Z"⟩ : MethodName)) hown (mvT hZ (hw _ (List.mem_of_getElem? (i := 5) rfl))) (mvT hZ (hw _ (List.mem_of_getElem? (i := 6) rfl))) (notFace_of_selects (args := #[]) (mvT hZ (hw _ (List.mem_of_getElem? (i := 8) rfl)))) (mvT hZ (hw _ (List.mem_of_getElem? (i := 8) rfl))) (mvT hZ (hw _ (List.mem_of_getElem? (i := 7) rfl))) (by decide) (backOf (W := 0) (rm1_3 l Z a0 hw [] w_RUNS w_RESULTS w_LOCATIONS w_THREAD_FLOW_LOCATIONS w_RULES w_EXTENSIONS w_TAGS i0 i1 h0 n0 Z0 C hv0 hv1) hZ (hw _ (List.mem_of_getElem? (i := 9) rfl)) (hw _ (List.mem_of_getElem? (i := 2) rfl)) (by decide) (by decide)) q2a q2c (g := (mkF m 128 #[.val (.int i0), .val (.long i1), .second, .val (.int (0 : Int32)), .val (.ref w_RUNS), .val (.long (20 : Int64)), .second, .unset, .unset, .unset] [(.long i1), (.ref w_RUNS)])) rfl (by rw [hml]; rfl) (Steps.refl _) (argsL := [(.long i1)]) (rest := []) (lenOf pd_0 rfl) rfl (by show 2 * 0 + _ ≤ _; exact Nat.le_of_eq rfl) (hb hby at_128) (fun _ _ => ⟨rfl, e1, (by decide : 0 + 0 ≤ _), (by decide : 0 + 0 ≤ _)⟩)
  dsimp only [Pt.U, Pt.locs, Pt.cells, Pt.slots] at X2 l2 y2 z2 st2 hQ2
  subst l2 y2 z2
  obtain ⟨rfl, N2q, e2⟩ := hQ2
  have N2 := Fr.app N0 N2q
  obtain ⟨cq3, kq3, q3a, q3b, q3c⟩ := isOf hZ e2 E_RUNS
  obtain ⟨_, _, ⟨T3, L3, k3, n3⟩, -, X3, ⟨Lc3, hQ3, l3, y3, z3⟩, st3⟩ := X2.virtualBack hx (y := (⟨"com/example/verdictlint/verdictlint/sarif/Cap", "dropsSomeOf", "(J)Z"⟩ : MethodName)) (z := (⟨"com/example/verdictlint/verdictlint/sarif/Cap", "dropsSomeOf", "(J)Z"⟩ : MethodName)) hown (mvT hZ (hw _ (List.mem_of_getElem? (i := 5) rfl))) (mvT hZ (hw _ (List.mem_of_getElem? (i := 6) rfl))) (notFace_of_selects (args := #[]) (mvT hZ (hw _ (List.mem_of_getElem? (i := 8) rfl)))) (mvT hZ (hw _ (List.mem_of_getElem? (i := 8) rfl))) (mvT hZ (hw _ (List.mem_of_getElem? (i := 7) rfl))) (by decide) (backOf (W := 0) (rm1_1 l Z a0 hw [] w_RUNS w_RESULTS w_LOCATIONS w_THREAD_FLOW_LOCATIONS w_RULES w_EXTENSIONS w_TAGS  h0 n0 Z0 C ) hZ (hw _ (List.mem_of_getElem? (i := 9) rfl)) (hw _ (List.mem_of_getElem? (i := 2) rfl)) (by decide) (by decide)) q3a q3c (g := (mkF m 157 #[.val (.int i0), .val (.long i1), .second, .val (.int (0 : Int32)), .val (.ref w_RUNS), .val (.long (20 : Int64)), .second, .val (.int (1 : Int32)), .unset, .unset] [(.long (20 : Int64)), (.ref w_RUNS)])) rfl (by rw [hml]; rfl) (Steps.refl _) (argsL := [(.long (20 : Int64))]) (rest := []) (lenOf pd_0 rfl) rfl (by show 2 * 0 + _ ≤ _; exact Nat.le_of_eq rfl) (hb hby at_157) (fun _ _ => ⟨rfl, e2, (by decide : 0 + 0 ≤ _), (by decide : 0 + 0 ≤ _)⟩)
  dsimp only [Pt.U, Pt.locs, Pt.cells, Pt.slots] at X3 l3 y3 z3 st3 hQ3
  subst l3 y3 z3
  obtain ⟨rfl, N3q, e3⟩ := hQ3
  have N3 := Fr.app N2 N3q
  obtain ⟨cq4, kq4, q4a, q4b, q4c⟩ := isOf hZ e3 E_RUNS
  obtain ⟨_, _, ⟨T4, L4, k4, n4⟩, -, X4, ⟨Lc4, hQ4, l4, y4, z4⟩, st4⟩ := X3.virtualBack hx (y := (⟨"com/example/verdictlint/verdictlint/sarif/Cap", "dropsSomeOf", "(J)Z"⟩ : MethodName)) (z := (⟨"com/example/verdictlint/verdictlint/sarif/Cap", "dropsSomeOf", "(J)Z"⟩ : MethodName)) hown (mvT hZ (hw _ (List.mem_of_getElem? (i := 5) rfl))) (mvT hZ (hw _ (List.mem_of_getElem? (i := 6) rfl))) (notFace_of_selects (args := #[]) (mvT hZ (hw _ (List.mem_of_getElem? (i := 8) rfl)))) (mvT hZ (hw _ (List.mem_of_getElem? (i := 8) rfl))) (mvT hZ (hw _ (List.mem_of_getElem? (i := 7) rfl))) (by decide) (backOf (W := 0) (rm1_2 l Z a0 hw [] w_RUNS w_RESULTS w_LOCATIONS w_THREAD_FLOW_LOCATIONS w_RULES w_EXTENSIONS w_TAGS  h0 n0 Z0 C ) hZ (hw _ (List.mem_of_getElem? (i := 9) rfl)) (hw _ (List.mem_of_getElem? (i := 2) rfl)) (by decide) (by decide)) q4a q4c (g := (mkF m 176 #[.val (.int i0), .val (.long i1), .second, .val (.int (0 : Int32)), .val (.ref w_RUNS), .val (.long (20 : Int64)), .second, .val (.int (1 : Int32)), .val (.int (1 : Int32)), .unset] [(.long (21 : Int64)), (.ref w_RUNS)])) rfl (by rw [hml]; rfl) (Steps.refl _) (argsL := [(.long (21 : Int64))]) (rest := []) (lenOf pd_0 rfl) rfl (by show 2 * 0 + _ ≤ _; exact Nat.le_of_eq rfl) (hb hby at_176) (fun _ _ => ⟨rfl, e3, (by decide : 0 + 0 ≤ _), (by decide : 0 + 0 ≤ _)⟩)
  dsimp only [Pt.U, Pt.locs, Pt.cells, Pt.slots] at X4 l4 y4 z4 st4 hQ4
  subst l4 y4 z4
  obtain ⟨rfl, N4q, e4⟩ := hQ4
  have N4 := Fr.app N3 N4q
  obtain ⟨fs, hr, hrun, hended, hW, hsame⟩ := X4.leave (v := (some (.int (1 : Int32)))) (fun h => by rw [Bd.returns] at h; cases h)
  refine ⟨_, _, pre0 _ ?_, hrun, hended, _, _, rfl, ?_, ⟨_, rfl⟩, hW, hsame.mono (by decide) (by decide)⟩
  · show Steps p.tables e below (s₁.setTop (mkF m 0 #[.val (.int i0), .val (.long i1), .second, .unset, .unset, .unset, .unset, .unset, .unset, .unset] [])) _
    refine XS.iloadN X0.here hx rfl (hb hby at_0) rfl ?_
    show Steps p.tables e below (s₁.setTop (mkF m 1 #[.val (.int i0), .val (.long i1), .second, .unset, .unset, .unset, .unset, .unset, .unset, .unset] [(.int i0)])) _
    refine X0.ldcInt hx hown (mvT hZ (hw _ (List.mem_of_getElem? (i := 0) rfl))) (g := (mkF m 1 #[.val (.int i0), .val (.long i1), .second, .unset, .unset, .unset, .unset, .unset, .unset, .unset] [(.int i0)])) rfl (hb hby at_1) _ ?_
    show Steps p.tables e below (s₁.setTop (mkF m 3 #[.val (.int i0), .val (.long i1), .second, .unset, .unset, .unset, .unset, .unset, .unset, .unset] [(.int (2147483647 : Int32)), (.int i0)])) _
    refine XS.iand X0.here hx rfl (hb hby at_3) rfl ?_
    show Steps p.tables e below (s₁.setTop (mkF m 4 #[.val (.int i0), .val (.long i1), .second, .unset, .unset, .unset, .unset, .unset, .unset, .unset] [(.int (i0 &&& (2147483647 : Int32)))])) _
    refine XS.bipush X0.here hx rfl (hb hby at_4) ?_
    show Steps p.tables e below (s₁.setTop (mkF m 6 #[.val (.int i0), .val (.long i1), .second, .unset, .unset, .unset, .unset, .unset, .unset, .unset] [(.int (7 : Int32)), (.int (i0 &&& (2147483647 : Int32)))])) _
    refine iremM (g := (mkF m 6 #[.val (.int i0), .val (.long i1), .second, .unset, .unset, .unset, .unset, .unset, .unset, .unset] [(.int (7 : Int32)), (.int (i0 &&& (2147483647 : Int32)))])) X0 hx rfl (hb hby at_6) rfl (by decide) ?_
    show Steps p.tables e below (s₁.setTop (mkF m 7 #[.val (.int i0), .val (.long i1), .second, .unset, .unset, .unset, .unset, .unset, .unset, .unset] [(.int ((i0 &&& (2147483647 : Int32)) % (7 : Int32)))])) _
    rw [hv0]
    show Steps p.tables e below (s₁.setTop (mkF m 7 #[.val (.int i0), .val (.long i1), .second, .unset, .unset, .unset, .unset, .unset, .unset, .unset] [(.int (0 : Int32))])) _
    refine XS.istoreN X0.here hx rfl (hb hby at_7) rfl (l' := #[.val (.int i0), .val (.long i1), .second, .val (.int (0 : Int32)), .unset, .unset, .unset, .unset, .unset, .unset]) rfl ?_
    show Steps p.tables e below (s₁.setTop (mkF m 8 #[.val (.int i0), .val (.long i1), .second, .val (.int (0 : Int32)), .unset, .unset, .unset, .unset, .unset, .unset] [])) _
    refine XS.iloadN X0.here hx rfl (hb hby at_8) rfl ?_
    show Steps p.tables e below (s₁.setTop (mkF m 9 #[.val (.int i0), .val (.long i1), .second, .val (.int (0 : Int32)), .unset, .unset, .unset, .unset, .unset, .unset] [(.int (0 : Int32))])) _
    refine XS.ifNo X0.here hx rfl (hb hby at_9) rfl ((if0 _ _).trans (teq (by decide +kernel : (0 : Int32) = (0 : Int32))).2) ?_
    show Steps p.tables e below (s₁.setTop (mkF m 12 #[.val (.int i0), .val (.long i1), .second, .val (.int (0 : Int32)), .unset, .unset, .unset, .unset, .unset, .unset] [])) _
    refine st1 _ ?_
    show Steps p.tables e below (T1.setTop (mkF m 15 #[.val (.int i0), .val (.long i1), .second, .val (.int (0 : Int32)), .unset, .unset, .unset, .unset, .unset, .unset] [(.ref w_RUNS)])) _
    refine XS.astore X1.here hx rfl (hb hby at_15) rfl rfl (l' := #[.val (.int i0), .val (.long i1), .second, .val (.int (0 : Int32)), .val (.ref w_RUNS), .unset, .unset, .unset, .unset, .unset]) rfl ?_
    show Steps p.tables e below (T1.setTop (mkF m 17 #[.val (.int i0), .val (.long i1), .second, .val (.int (0 : Int32)), .val (.ref w_RUNS), .unset, .unset, .unset, .unset, .unset] [])) _
    refine X1.ldc2Long hx hown (mvT hZ (hw _ (List.mem_of_getElem? (i := 4) rfl))) (g := (mkF m 17 #[.val (.int i0), .val (.long i1), .second, .val (.int (0 : Int32)), .val (.ref w_RUNS), .unset, .unset, .unset, .unset, .unset] [])) rfl (hb hby at_17) _ ?_
    show Steps p.tables e below (T1.setTop (mkF m 20 #[.val (.int i0), .val (.long i1), .second, .val (.int (0 : Int32)), .val (.ref w_RUNS), .unset, .unset, .unset, .unset, .unset] [(.long (20 : Int64))])) _
    refine XS.lstore X1.here hx rfl (hb hby at_20) rfl (l' := #[.val (.int i0), .val (.long i1), .second, .val (.int (0 : Int32)), .val (.ref w_RUNS), .val (.long (20 : Int64)), .second, .unset, .unset, .unset]) rfl ?_
    show Steps p.tables e below (T1.setTop (mkF m 22 #[.val (.int i0), .val (.long i1), .second, .val (.int (0 : Int32)), .val (.ref w_RUNS), .val (.long (20 : Int64)), .second, .unset, .unset, .unset] [])) _
    refine XS.goto X1.here hx rfl (pc0 := 22) (pc' := 125) rfl (hb hby at_22) (by decide) (by decide) ?_
    show Steps p.tables e below (T1.setTop (mkF m 125 #[.val (.int i0), .val (.long i1), .second, .val (.int (0 : Int32)), .val (.ref w_RUNS), .val (.long (20 : Int64)), .second, .unset, .unset, .unset] [])) _
    refine XS.aload X1.here hx rfl (hb hby at_125) rfl rfl ?_
    show Steps p.tables e below (T1.setTop (mkF m 127 #[.val (.int i0), .val (.long i1), .second, .val (.int (0 : Int32)), .val (.ref w_RUNS), .val (.long (20 : Int64)), .second, .unset, .unset, .unset] [(.ref w_RUNS)])) _
    refine XS.lloadN X1.here hx rfl (hb hby at_127) rfl ?_
    show Steps p.tables e below (T1.setTop (mkF m 128 #[.val (.int i0), .val (.long i1), .second, .val (.int (0 : Int32)), .val (.ref w_RUNS), .val (.long (20 : Int64)), .second, .unset, .unset, .unset] [(.long i1), (.ref w_RUNS)])) _
    refine st2.trans ?_
    show Steps p.tables e below (T2.setTop (mkF m 131 #[.val (.int i0), .val (.long i1), .second, .val (.int (0 : Int32)), .val (.ref w_RUNS), .val (.long (20 : Int64)), .second, .unset, .unset, .unset] [(.int (0 : Int32))])) _
    refine XS.lloadN X2.here hx rfl (hb hby at_131) rfl ?_
    show Steps p.tables e below (T2.setTop (mkF m 132 #[.val (.int i0), .val (.long i1), .second, .val (.int (0 : Int32)), .val (.ref w_RUNS), .val (.long (20 : Int64)), .second, .unset, .unset, .unset] [(.long i1), (.int (0 : Int32))])) _
    refine XS.lload X2.here hx rfl (hb hby at_132) rfl ?_
    show Steps p.tables e below (T2.setTop (mkF m 134 #[.val (.int i0), .val (.long i1), .second, .val (.int (0 : Int32)), .val (.ref w_RUNS), .val (.long (20 : Int64)), .second, .unset, .unset, .unset] [(.long (20 : Int64)), (.long i1), (.int (0 : Int32))])) _
    refine XS.lcmp X2.here hx rfl (hb hby at_134) rfl ?_
    show Steps p.tables e below (T2.setTop (mkF m 135 #[.val (.int i0), .val (.long i1), .second, .val (.int (0 : Int32)), .val (.ref w_RUNS), .val (.long (20 : Int64)), .second, .unset, .unset, .unset] [(.int (lcmpW i1 (20 : Int64))), (.int (0 : Int32))])) _
    refine XS.ifYes X2.here hx rfl (pc0 := 135) (pc' := 142) rfl (hb hby at_135) rfl ((if0 _ _).trans (flt hv1).2.2.2) (by decide) (by decide) ?_
    show Steps p.tables e below (T2.setTop (mkF m 142 #[.val (.int i0), .val (.long i1), .second, .val (.int (0 : Int32)), .val (.ref w_RUNS), .val (.long (20 : Int64)), .second, .unset, .unset, .unset] [(.int (0 : Int32))])) _
    refine XS.iconst X2.here hx rfl (hb hby at_142) ?_
    show Steps p.tables e below (T2.setTop (mkF m 143 #[.val (.int i0), .val (.long i1), .second, .val (.int (0 : Int32)), .val (.ref w_RUNS), .val (.long (20 : Int64)), .second, .unset, .unset, .unset] [(.int (0 : Int32)), (.int (0 : Int32))])) _
    refine XS.icmpNo X2.here hx rfl (hb hby at_143) rfl (teq (by decide +kernel : (0 : Int32) = (0 : Int32))).2 ?_
    show Steps p.tables e below (T2.setTop (mkF m 146 #[.val (.int i0), .val (.long i1), .second, .val (.int (0 : Int32)), .val (.ref w_RUNS), .val (.long (20 : Int64)), .second, .unset, .unset, .unset] [])) _
    refine XS.iconst X2.here hx rfl (hb hby at_146) ?_
    show Steps p.tables e below (T2.setTop (mkF m 147 #[.val (.int i0), .val (.long i1), .second, .val (.int (0 : Int32)), .val (.ref w_RUNS), .val (.long (20 : Int64)), .second, .unset, .unset, .unset] [(.int (1 : Int32))])) _
    refine XS.goto X2.here hx rfl (pc0 := 147) (pc' := 151) rfl (hb hby at_147) (by decide) (by decide) ?_
    show Steps p.tables e below (T2.setTop (mkF m 151 #[.val (.int i0), .val (.long i1), .second, .val (.int (0 : Int32)), .val (.ref w_RUNS), .val (.long (20 : Int64)), .second, .unset, .unset, .unset] [(.int (1 : Int32))])) _
    refine XS.istore X2.here hx rfl (hb hby at_151) rfl (l' := #[.val (.int i0), .val (.long i1), .second, .val (.int (0 : Int32)), .val (.ref w_RUNS), .val (.long (20 : Int64)), .second, .val (.int (1 : Int32)), .unset, .unset]) rfl ?_
    show Steps p.tables e below (T2.setTop (mkF m 153 #[.val (.int i0), .val (.long i1), .second, .val (.int (0 : Int32)), .val (.ref w_RUNS), .val (.long (20 : Int64)), .second, .val (.int (1 : Int32)), .unset, .unset] [])) _
    refine XS.aload X2.here hx rfl (hb hby at_153) rfl rfl ?_
    show Steps p.tables e below (T2.setTop (mkF m 155 #[.val (.int i0), .val (.long i1), .second, .val (.int (0 : Int32)), .val (.ref w_RUNS), .val (.long (20 : Int64)), .second, .val (.int (1 : Int32)), .unset, .unset] [(.ref w_RUNS)])) _
    refine XS.lload X2.here hx rfl (hb hby at_155) rfl ?_
    show Steps p.tables e below (T2.setTop (mkF m 157 #[.val (.int i0), .val (.long i1), .second, .val (.int (0 : Int32)), .val (.ref w_RUNS), .val (.long (20 : Int64)), .second, .val (.int (1 : Int32)), .unset, .unset] [(.long (20 : Int64)), (.ref w_RUNS)])) _
    refine st3.trans ?_
    show Steps p.tables e below (T3.setTop (mkF m 160 #[.val (.int i0), .val (.long i1), .second, .val (.int (0 : Int32)), .val (.ref w_RUNS), .val (.long (20 : Int64)), .second, .val (.int (1 : Int32)), .unset, .unset] [(.int (0 : Int32))])) _
    refine XS.ifNo X3.here hx rfl (hb hby at_160) rfl ((if0 _ _).trans (teq (by decide +kernel : (0 : Int32) = (0 : Int32))).2) ?_
    show Steps p.tables e below (T3.setTop (mkF m 163 #[.val (.int i0), .val (.long i1), .second, .val (.int (0 : Int32)), .val (.ref w_RUNS), .val (.long (20 : Int64)), .second, .val (.int (1 : Int32)), .unset, .unset] [])) _
    refine XS.iconst X3.here hx rfl (hb hby at_163) ?_
    show Steps p.tables e below (T3.setTop (mkF m 164 #[.val (.int i0), .val (.long i1), .second, .val (.int (0 : Int32)), .val (.ref w_RUNS), .val (.long (20 : Int64)), .second, .val (.int (1 : Int32)), .unset, .unset] [(.int (1 : Int32))])) _
    refine XS.goto X3.here hx rfl (pc0 := 164) (pc' := 168) rfl (hb hby at_164) (by decide) (by decide) ?_
    show Steps p.tables e below (T3.setTop (mkF m 168 #[.val (.int i0), .val (.long i1), .second, .val (.int (0 : Int32)), .val (.ref w_RUNS), .val (.long (20 : Int64)), .second, .val (.int (1 : Int32)), .unset, .unset] [(.int (1 : Int32))])) _
    refine XS.istore X3.here hx rfl (hb hby at_168) rfl (l' := #[.val (.int i0), .val (.long i1), .second, .val (.int (0 : Int32)), .val (.ref w_RUNS), .val (.long (20 : Int64)), .second, .val (.int (1 : Int32)), .val (.int (1 : Int32)), .unset]) rfl ?_
    show Steps p.tables e below (T3.setTop (mkF m 170 #[.val (.int i0), .val (.long i1), .second, .val (.int (0 : Int32)), .val (.ref w_RUNS), .val (.long (20 : Int64)), .second, .val (.int (1 : Int32)), .val (.int (1 : Int32)), .unset] [])) _
    refine XS.aload X3.here hx rfl (hb hby at_170) rfl rfl ?_
    show Steps p.tables e below (T3.setTop (mkF m 172 #[.val (.int i0), .val (.long i1), .second, .val (.int (0 : Int32)), .val (.ref w_RUNS), .val (.long (20 : Int64)), .second, .val (.int (1 : Int32)), .val (.int (1 : Int32)), .unset] [(.ref w_RUNS)])) _
    refine XS.lload X3.here hx rfl (hb hby at_172) rfl ?_
    show Steps p.tables e below (T3.setTop (mkF m 174 #[.val (.int i0), .val (.long i1), .second, .val (.int (0 : Int32)), .val (.ref w_RUNS), .val (.long (20 : Int64)), .second, .val (.int (1 : Int32)), .val (.int (1 : Int32)), .unset] [(.long (20 : Int64)), (.ref w_RUNS)])) _
    refine XS.lconst X3.here hx rfl (hb hby at_174) ?_
    show Steps p.tables e below (T3.setTop (mkF m 175 #[.val (.int i0), .val (.long i1), .second, .val (.int (0 : Int32)), .val (.ref w_RUNS), .val (.long (20 : Int64)), .second, .val (.int (1 : Int32)), .val (.int (1 : Int32)), .unset] [(.long (1 : Int64)), (.long (20 : Int64)), (.ref w_RUNS)])) _
    refine XS.ladd X3.here hx rfl (hb hby at_175) rfl ?_
    show Steps p.tables e below (T3.setTop (mkF m 176 #[.val (.int i0), .val (.long i1), .second, .val (.int (0 : Int32)), .val (.ref w_RUNS), .val (.long (20 : Int64)), .second, .val (.int (1 : Int32)), .val (.int (1 : Int32)), .unset] [(.long ((20 : Int64) + (1 : Int64))), (.ref w_RUNS)])) _
    rw [show ((20 : Int64) + (1 : Int64)) = (21 : Int64) from by decide +kernel]
    show Steps p.tables e below (T3.setTop (mkF m 176 #[.val (.int i0), .val (.long i1), .second, .val (.int (0 : Int32)), .val (.ref w_RUNS), .val (.long (20 : Int64)), .second, .val (.int (1 : Int32)), .val (.int (1 : Int32)), .unset] [(.long (21 : Int64)), (.ref w_RUNS)])) _
    refine st4.trans ?_
    show Steps p.tables e below (T4.setTop (mkF m 179 #[.val (.int i0), .val (.long i1), .second, .val (.int (0 : Int32)), .val (.ref w_RUNS), .val (.long (20 : Int64)), .second, .val (.int (1 : Int32)), .val (.int (1 : Int32)), .unset] [(.int (1 : Int32))])) _
    refine XS.istore X4.here hx rfl (hb hby at_179) rfl (l' := #[.val (.int i0), .val (.long i1), .second, .val (.int (0 : Int32)), .val (.ref w_RUNS), .val (.long (20 : Int64)), .second, .val (.int (1 : Int32)), .val (.int (1 : Int32)), .val (.int (1 : Int32))]) rfl ?_
    show Steps p.tables e below (T4.setTop (mkF m 181 #[.val (.int i0), .val (.long i1), .second, .val (.int (0 : Int32)), .val (.ref w_RUNS), .val (.long (20 : Int64)), .second, .val (.int (1 : Int32)), .val (.int (1 : Int32)), .val (.int (1 : Int32))] [])) _
    refine XS.iload X4.here hx rfl (hb hby at_181) rfl ?_
    show Steps p.tables e below (T4.setTop (mkF m 183 #[.val (.int i0), .val (.long i1), .second, .val (.int (0 : Int32)), .val (.ref w_RUNS), .val (.long (20 : Int64)), .second, .val (.int (1 : Int32)), .val (.int (1 : Int32)), .val (.int (1 : Int32))] [(.int (1 : Int32))])) _
    refine XS.ifNo X4.here hx rfl (hb hby at_183) rfl ((if0 _ _).trans (feq (by decide +kernel : ¬ ((1 : Int32) = (0 : Int32)))).1) ?_
    show Steps p.tables e below (T4.setTop (mkF m 186 #[.val (.int i0), .val (.long i1), .second, .val (.int (0 : Int32)), .val (.ref w_RUNS), .val (.long (20 : Int64)), .second, .val (.int (1 : Int32)), .val (.int (1 : Int32)), .val (.int (1 : Int32))] [])) _
    refine XS.iload X4.here hx rfl (hb hby at_186) rfl ?_
    show Steps p.tables e below (T4.setTop (mkF m 188 #[.val (.int i0), .val (.long i1), .second, .val (.int (0 : Int32)), .val (.ref w_RUNS), .val (.long (20 : Int64)), .second, .val (.int (1 : Int32)), .val (.int (1 : Int32)), .val (.int (1 : Int32))] [(.int (1 : Int32))])) _
    refine XS.ifNo X4.here hx rfl (hb hby at_188) rfl ((if0 _ _).trans (feq (by decide +kernel : ¬ ((1 : Int32) = (0 : Int32)))).1) ?_
    show Steps p.tables e below (T4.setTop (mkF m 191 #[.val (.int i0), .val (.long i1), .second, .val (.int (0 : Int32)), .val (.ref w_RUNS), .val (.long (20 : Int64)), .second, .val (.int (1 : Int32)), .val (.int (1 : Int32)), .val (.int (1 : Int32))] [])) _
    refine XS.iload X4.here hx rfl (hb hby at_191) rfl ?_
    show Steps p.tables e below (T4.setTop (mkF m 193 #[.val (.int i0), .val (.long i1), .second, .val (.int (0 : Int32)), .val (.ref w_RUNS), .val (.long (20 : Int64)), .second, .val (.int (1 : Int32)), .val (.int (1 : Int32)), .val (.int (1 : Int32))] [(.int (1 : Int32))])) _
    refine XS.ifNo X4.here hx rfl (hb hby at_193) rfl ((if0 _ _).trans (feq (by decide +kernel : ¬ ((1 : Int32) = (0 : Int32)))).1) ?_
    show Steps p.tables e below (T4.setTop (mkF m 196 #[.val (.int i0), .val (.long i1), .second, .val (.int (0 : Int32)), .val (.ref w_RUNS), .val (.long (20 : Int64)), .second, .val (.int (1 : Int32)), .val (.int (1 : Int32)), .val (.int (1 : Int32))] [])) _
    refine XS.iconst X4.here hx rfl (hb hby at_196) ?_
    show Steps p.tables e below (T4.setTop (mkF m 197 #[.val (.int i0), .val (.long i1), .second, .val (.int (0 : Int32)), .val (.ref w_RUNS), .val (.long (20 : Int64)), .second, .val (.int (1 : Int32)), .val (.int (1 : Int32)), .val (.int (1 : Int32))] [(.int (1 : Int32))])) _
    refine XS.goto X4.here hx rfl (pc0 := 197) (pc' := 201) rfl (hb hby at_197) (by decide) (by decide) ?_
    show Steps p.tables e below (T4.setTop (mkF m 201 #[.val (.int i0), .val (.long i1), .second, .val (.int (0 : Int32)), .val (.ref w_RUNS), .val (.long (20 : Int64)), .second, .val (.int (1 : Int32)), .val (.int (1 : Int32)), .val (.int (1 : Int32))] [(.int (1 : Int32))])) _
    exact retN X4 hx (t := .boolean) Bd.returns (by simp) (hb hby at_201) hr
  · exact ⟨rfl, N4, e4⟩
set_option maxRecDepth 65536 in
set_option maxHeartbeats 40000000 in
theorem rm1_4 (l : Launch) (Z : State) (a0 : Array Value) (hw : ∀ d ∈ tables_1, d.before a0 Z = true) (ws : List Jvm.Cond) (w_RUNS w_RESULTS w_LOCATIONS w_THREAD_FLOW_LOCATIONS w_RULES w_EXTENSIONS w_TAGS : Addr) (i0 : Int32) (i1 : Int64) (h0 : Heap) (n0 : Nat) (Z0 : n0 ≤ h0.size) (C : Ctx Z h0 w_RUNS w_RESULTS w_LOCATIONS w_THREAD_FLOW_LOCATIONS w_RULES w_EXTENSIONS w_TAGS) (hv0 : ((i0 &&& (2147483647 : Int32)) % (7 : Int32)) = (1 : Int32)) (hv1 : (0 : Int32) < (lcmpW i1 (25000 : Int64))) :
    MetFree l (⟨"com/example/verdictlint/verdictlint/sarif/Cap", "dropsSomeOf", "(J)Z"⟩ : MethodName) (head1 (Jvm.Cond.code (⟨"com/example/verdictlint/verdictlint/sarif/Cap", "dropsSomeOf", "(J)Z"⟩ : MethodName) prog_26_method_8_code 3 (some .boolean) :: ws) ({ frames := 0, cells := 0, slots := 0, locals := 0 } : Room)) (fun a U => a = #[(.ref w_RESULTS), (.long i1)] ∧ Z.Warmed39 U.vm ∧ U.heap = h0) (fun _ _ _ _ _ => True) (fun _ U o U' => ∃ v L, o = .returned v ∧ QR h0 n0 (some (.int (1 : Int32))) v U'.heap L ∧ FrameEnd U o U' L ({ frames := 0, cells := 0, slots := 0, locals := 0 } : Room).cells ({ frames := 0, cells := 0, slots := 0, locals := 0 } : Room).slots) := by
  have F_RESULTS_kept := C.2.2.2.2.2.1
  refine MetFree.of_bodySF (plainFor_of_name pn_1) hisR ?_
  intro p e s m args below meth c s₁ Bd hml0 hP hK
  obtain ⟨rfl, hZ, hh⟩ := hP
  have hx := Bd.exec
  have hby := Bd.bytes
  have hml : c.maxLocals = 3 := hml0
  have hown : s.vm.findClass "com/example/verdictlint/verdictlint/sarif/Cap" = some m.cls := findClass_of_methodNamed Bd.named
  have hnm := (name_of_methodNamed Bd.named Bd.method).1
  have X0 : Stand p l e ({ frames := 0, cells := 0, slots := 0, locals := 0 } : Room) s m #[(.ref w_RESULTS), (.long i1)] below meth c s₁ [] 0 0 := Stand.of_body Bd
  have e0 : s₁.heap = h0 := by rw [← hh, Bd.state]; rfl
  have N0 := Fr.nil n0
  have pre0 : ∀ t, Steps p.tables e below (s₁.setTop (mkF m 0 #[.val (.ref w_RESULTS), .val (.long i1), .second] [])) t → Steps p.tables e below (s₁.setTop (entryFrame m #[(.ref w_RESULTS), (.long i1)] 3)) t := fun t k => castTop (ef_1 m w_RESULTS i1) k
  obtain ⟨T1, X1, e1, st1⟩ := getF X0 hx hZ hown (host := "") (Or.inl (hw _ (List.mem_of_getElem? (i := 10) rfl))) Via.refl e0 F_RESULTS_kept (g := (mkF m 2 #[.val (.ref w_RESULTS), .val (.long i1), .second] [(.ref w_RESULTS), (.long i1)])) rfl rfl (hb hby d1_2)
  obtain ⟨fs, hr, hrun, hended, hW, hsame⟩ := X1.leave (v := (some (.int (1 : Int32)))) (fun h => by rw [Bd.returns] at h; cases h)
  refine ⟨_, _, pre0 _ ?_, hrun, hended, _, _, rfl, ?_, ⟨_, rfl⟩, hW, hsame.mono (by decide) (by decide)⟩
  · show Steps p.tables e below (s₁.setTop (mkF m 0 #[.val (.ref w_RESULTS), .val (.long i1), .second] [])) _
    refine XS.lloadN X0.here hx rfl (hb hby d1_0) rfl ?_
    show Steps p.tables e below (s₁.setTop (mkF m 1 #[.val (.ref w_RESULTS), .val (.long i1), .second] [(.long i1)])) _
    refine XS.aloadN X0.here hx rfl (hb hby d1_1) rfl rfl ?_
    show Steps p.tables e below (s₁.setTop (mkF m 2 #[.val (.ref w_RESULTS), .val (.long i1), .second] [(.ref w_RESULTS), (.long i1)])) _
    refine st1 _ ?_
    show Steps p.tables e below (T1.setTop (mkF m 5 #[.val (.ref w_RESULTS), .val (.long i1), .second] [(.long (25000 : Int64)), (.long i1)])) _
    refine XS.lcmp X1.here hx rfl (hb hby d1_5) rfl ?_
    show Steps p.tables e below (T1.setTop (mkF m 6 #[.val (.ref w_RESULTS), .val (.long i1), .second] [(.int (lcmpW i1 (25000 : Int64)))])) _
    refine XS.ifNo X1.here hx rfl (hb hby d1_6) rfl ((if0 _ _).trans (tlt hv1).2.2.2) ?_
    show Steps p.tables e below (T1.setTop (mkF m 9 #[.val (.ref w_RESULTS), .val (.long i1), .second] [])) _
    refine XS.iconst X1.here hx rfl (hb hby d1_9) ?_
    show Steps p.tables e below (T1.setTop (mkF m 10 #[.val (.ref w_RESULTS), .val (.long i1), .second] [(.int (1 : Int32))])) _
    refine XS.goto X1.here hx rfl (pc0 := 10) (pc' := 14) rfl (hb hby d1_10) (by decide) (by decide) ?_
    show Steps p.tables e below (T1.setTop (mkF m 14 #[.val (.ref w_RESULTS), .val (.long i1), .second] [(.int (1 : Int32))])) _
    exact retN X1 hx (t := .boolean) Bd.returns (by simp) (hb hby d1_14) hr
  · exact ⟨rfl, N0, e1⟩
set_option maxRecDepth 65536 in
set_option maxHeartbeats 40000000 in
theorem rm1_5 (l : Launch) (Z : State) (a0 : Array Value) (hw : ∀ d ∈ tables_1, d.before a0 Z = true) (ws : List Jvm.Cond) (w_RUNS w_RESULTS w_LOCATIONS w_THREAD_FLOW_LOCATIONS w_RULES w_EXTENSIONS w_TAGS : Addr) (h0 : Heap) (n0 : Nat) (Z0 : n0 ≤ h0.size) (C : Ctx Z h0 w_RUNS w_RESULTS w_LOCATIONS w_THREAD_FLOW_LOCATIONS w_RULES w_EXTENSIONS w_TAGS)  :
    MetFree l (⟨"com/example/verdictlint/verdictlint/sarif/Cap", "dropsSomeOf", "(J)Z"⟩ : MethodName) (head1 (Jvm.Cond.code (⟨"com/example/verdictlint/verdictlint/sarif/Cap", "dropsSomeOf", "(J)Z"⟩ : MethodName) prog_26_method_8_code 3 (some .boolean) :: ws) ({ frames := 0, cells := 0, slots := 0, locals := 0 } : Room)) (fun a U => a = #[(.ref w_RESULTS), (.long (25000 : Int64))] ∧ Z.Warmed39 U.vm ∧ U.heap = h0) (fun _ _ _ _ _ => True) (fun _ U o U' => ∃ v L, o = .returned v ∧ QR h0 n0 (some (.int (0 : Int32))) v U'.heap L ∧ FrameEnd U o U' L ({ frames := 0, cells := 0, slots := 0, locals := 0 } : Room).cells ({ frames := 0, cells := 0, slots := 0, locals := 0 } : Room).slots) := by
  have F_RESULTS_kept := C.2.2.2.2.2.1
  refine MetFree.of_bodySF (plainFor_of_name pn_1) hisR ?_
  intro p e s m args below meth c s₁ Bd hml0 hP hK
  obtain ⟨rfl, hZ, hh⟩ := hP
  have hx := Bd.exec
  have hby := Bd.bytes
  have hml : c.maxLocals = 3 := hml0
  have hown : s.vm.findClass "com/example/verdictlint/verdictlint/sarif/Cap" = some m.cls := findClass_of_methodNamed Bd.named
  have hnm := (name_of_methodNamed Bd.named Bd.method).1
  have X0 : Stand p l e ({ frames := 0, cells := 0, slots := 0, locals := 0 } : Room) s m #[(.ref w_RESULTS), (.long (25000 : Int64))] below meth c s₁ [] 0 0 := Stand.of_body Bd
  have e0 : s₁.heap = h0 := by rw [← hh, Bd.state]; rfl
  have N0 := Fr.nil n0
  have pre0 : ∀ t, Steps p.tables e below (s₁.setTop (mkF m 0 #[.val (.ref w_RESULTS), .val (.long (25000 : Int64)), .second] [])) t → Steps p.tables e below (s₁.setTop (entryFrame m #[(.ref w_RESULTS), (.long (25000 : Int64))] 3)) t := fun t k => castTop (ef_1 m w_RESULTS (25000 : Int64)) k
  obtain ⟨T1, X1, e1, st1⟩ := getF X0 hx hZ hown (host := "") (Or.inl (hw _ (List.mem_of_getElem? (i := 10) rfl))) Via.refl e0 F_RESULTS_kept (g := (mkF m 2 #[.val (.ref w_RESULTS), .val (.long (25000 : Int64)), .second] [(.ref w_RESULTS), (.long (25000 : Int64))])) rfl rfl (hb hby d1_2)
  obtain ⟨fs, hr, hrun, hended, hW, hsame⟩ := X1.leave (v := (some (.int (0 : Int32)))) (fun h => by rw [Bd.returns] at h; cases h)
  refine ⟨_, _, pre0 _ ?_, hrun, hended, _, _, rfl, ?_, ⟨_, rfl⟩, hW, hsame.mono (by decide) (by decide)⟩
  · show Steps p.tables e below (s₁.setTop (mkF m 0 #[.val (.ref w_RESULTS), .val (.long (25000 : Int64)), .second] [])) _
    refine XS.lloadN X0.here hx rfl (hb hby d1_0) rfl ?_
    show Steps p.tables e below (s₁.setTop (mkF m 1 #[.val (.ref w_RESULTS), .val (.long (25000 : Int64)), .second] [(.long (25000 : Int64))])) _
    refine XS.aloadN X0.here hx rfl (hb hby d1_1) rfl rfl ?_
    show Steps p.tables e below (s₁.setTop (mkF m 2 #[.val (.ref w_RESULTS), .val (.long (25000 : Int64)), .second] [(.ref w_RESULTS), (.long (25000 : Int64))])) _
    refine st1 _ ?_
    show Steps p.tables e below (T1.setTop (mkF m 5 #[.val (.ref w_RESULTS), .val (.long (25000 : Int64)), .second] [(.long (25000 : Int64)), (.long (25000 : Int64))])) _
    refine XS.lcmp X1.here hx rfl (hb hby d1_5) rfl ?_
    show Steps p.tables e below (T1.setTop (mkF m 6 #[.val (.ref w_RESULTS), .val (.long (25000 : Int64)), .second] [(.int (lcmpW (25000 : Int64) (25000 : Int64)))])) _
    rw [show (lcmpW (25000 : Int64) (25000 : Int64)) = (0 : Int32) from by decide +kernel]
    show Steps p.tables e below (T1.setTop (mkF m 6 #[.val (.ref w_RESULTS), .val (.long (25000 : Int64)), .second] [(.int (0 : Int32))])) _
    refine XS.ifYes X1.here hx rfl (pc0 := 6) (pc' := 13) rfl (hb hby d1_6) rfl ((if0 _ _).trans (flt (by decide +kernel : ¬ ((0 : Int32) < (0 : Int32)))).2.2.2) (by decide) (by decide) ?_
    show Steps p.tables e below (T1.setTop (mkF m 13 #[.val (.ref w_RESULTS), .val (.long (25000 : Int64)), .second] [])) _
    refine XS.iconst X1.here hx rfl (hb hby d1_13) ?_
    show Steps p.tables e below (T1.setTop (mkF m 14 #[.val (.ref w_RESULTS), .val (.long (25000 : Int64)), .second] [(.int (0 : Int32))])) _
    exact retN X1 hx (t := .boolean) Bd.returns (by simp) (hb hby d1_14) hr
  · exact ⟨rfl, N0, e1⟩
set_option maxRecDepth 65536 in
set_option maxHeartbeats 40000000 in
theorem rm1_6 (l : Launch) (Z : State) (a0 : Array Value) (hw : ∀ d ∈ tables_1, d.before a0 Z = true) (ws : List Jvm.Cond) (w_RUNS w_RESULTS w_LOCATIONS w_THREAD_FLOW_LOCATIONS w_RULES w_EXTENSIONS w_TAGS : Addr) (h0 : Heap) (n0 : Nat) (Z0 : n0 ≤ h0.size) (C : Ctx Z h0 w_RUNS w_RESULTS w_LOCATIONS w_THREAD_FLOW_LOCATIONS w_RULES w_EXTENSIONS w_TAGS)  :
    MetFree l (⟨"com/example/verdictlint/verdictlint/sarif/Cap", "dropsSomeOf", "(J)Z"⟩ : MethodName) (head1 (Jvm.Cond.code (⟨"com/example/verdictlint/verdictlint/sarif/Cap", "dropsSomeOf", "(J)Z"⟩ : MethodName) prog_26_method_8_code 3 (some .boolean) :: ws) ({ frames := 0, cells := 0, slots := 0, locals := 0 } : Room)) (fun a U => a = #[(.ref w_RESULTS), (.long (25001 : Int64))] ∧ Z.Warmed39 U.vm ∧ U.heap = h0) (fun _ _ _ _ _ => True) (fun _ U o U' => ∃ v L, o = .returned v ∧ QR h0 n0 (some (.int (1 : Int32))) v U'.heap L ∧ FrameEnd U o U' L ({ frames := 0, cells := 0, slots := 0, locals := 0 } : Room).cells ({ frames := 0, cells := 0, slots := 0, locals := 0 } : Room).slots) := by
  have F_RESULTS_kept := C.2.2.2.2.2.1
  refine MetFree.of_bodySF (plainFor_of_name pn_1) hisR ?_
  intro p e s m args below meth c s₁ Bd hml0 hP hK
  obtain ⟨rfl, hZ, hh⟩ := hP
  have hx := Bd.exec
  have hby := Bd.bytes
  have hml : c.maxLocals = 3 := hml0
  have hown : s.vm.findClass "com/example/verdictlint/verdictlint/sarif/Cap" = some m.cls := findClass_of_methodNamed Bd.named
  have hnm := (name_of_methodNamed Bd.named Bd.method).1
  have X0 : Stand p l e ({ frames := 0, cells := 0, slots := 0, locals := 0 } : Room) s m #[(.ref w_RESULTS), (.long (25001 : Int64))] below meth c s₁ [] 0 0 := Stand.of_body Bd
  have e0 : s₁.heap = h0 := by rw [← hh, Bd.state]; rfl
  have N0 := Fr.nil n0
  have pre0 : ∀ t, Steps p.tables e below (s₁.setTop (mkF m 0 #[.val (.ref w_RESULTS), .val (.long (25001 : Int64)), .second] [])) t → Steps p.tables e below (s₁.setTop (entryFrame m #[(.ref w_RESULTS), (.long (25001 : Int64))] 3)) t := fun t k => castTop (ef_1 m w_RESULTS (25001 : Int64)) k
  obtain ⟨T1, X1, e1, st1⟩ := getF X0 hx hZ hown (host := "") (Or.inl (hw _ (List.mem_of_getElem? (i := 10) rfl))) Via.refl e0 F_RESULTS_kept (g := (mkF m 2 #[.val (.ref w_RESULTS), .val (.long (25001 : Int64)), .second] [(.ref w_RESULTS), (.long (25001 : Int64))])) rfl rfl (hb hby d1_2)
  obtain ⟨fs, hr, hrun, hended, hW, hsame⟩ := X1.leave (v := (some (.int (1 : Int32)))) (fun h => by rw [Bd.returns] at h; cases h)
  refine ⟨_, _, pre0 _ ?_, hrun, hended, _, _, rfl, ?_, ⟨_, rfl⟩, hW, hsame.mono (by decide) (by decide)⟩
  · show Steps p.tables e below (s₁.setTop (mkF m 0 #[.val (.ref w_RESULTS), .val (.long (25001 : Int64)), .second] [])) _
    refine XS.lloadN X0.here hx rfl (hb hby d1_0) rfl ?_
    show Steps p.tables e below (s₁.setTop (mkF m 1 #[.val (.ref w_RESULTS), .val (.long (25001 : Int64)), .second] [(.long (25001 : Int64))])) _
    refine XS.aloadN X0.here hx rfl (hb hby d1_1) rfl rfl ?_
    show Steps p.tables e below (s₁.setTop (mkF m 2 #[.val (.ref w_RESULTS), .val (.long (25001 : Int64)), .second] [(.ref w_RESULTS), (.long (25001 : Int64))])) _
    refine st1 _ ?_
    show Steps p.tables e below (T1.setTop (mkF m 5 #[.val (.ref w_RESULTS), .val (.long (25001 : Int64)), .second] [(.long (25000 : Int64)), (.long (25001 : Int64))])) _
    refine XS.lcmp X1.here hx rfl (hb hby d1_5) rfl ?_
    show Steps p.tables e below (T1.setTop (mkF m 6 #[.val (.ref w_RESULTS), .val (.long (25001 : Int64)), .second] [(.int (lcmpW (25001 : Int64) (25000 : Int64)))])) _
    rw [show (lcmpW (25001 : Int64) (25000 : Int64)) = (1 : Int32) from by decide +kernel]
    show Steps p.tables e below (T1.setTop (mkF m 6 #[.val (.ref w_RESULTS), .val (.long (25001 : Int64)), .second] [(.int (1 : Int32))])) _
    refine XS.ifNo X1.here hx rfl (hb hby d1_6) rfl ((if0 _ _).trans (tlt (by decide +kernel : (0 : Int32) < (1 : Int32))).2.2.2) ?_
    show Steps p.tables e below (T1.setTop (mkF m 9 #[.val (.ref w_RESULTS), .val (.long (25001 : Int64)), .second] [])) _
    refine XS.iconst X1.here hx rfl (hb hby d1_9) ?_
    show Steps p.tables e below (T1.setTop (mkF m 10 #[.val (.ref w_RESULTS), .val (.long (25001 : Int64)), .second] [(.int (1 : Int32))])) _
    refine XS.goto X1.here hx rfl (pc0 := 10) (pc' := 14) rfl (hb hby d1_10) (by decide) (by decide) ?_
    show Steps p.tables e below (T1.setTop (mkF m 14 #[.val (.ref w_RESULTS), .val (.long (25001 : Int64)), .second] [(.int (1 : Int32))])) _
    exact retN X1 hx (t := .boolean) Bd.returns (by simp) (hb hby d1_14) hr
  · exact ⟨rfl, N0, e1⟩
set_option maxRecDepth 65536 in
set_option maxHeartbeats 40000000 in
theorem rm0_2 (l : Launch) (Z : State) (a0 : Array Value) (hw : ∀ d ∈ tables_1, d.before a0 Z = true) (ws : List Jvm.Cond) (w_RUNS w_RESULTS w_LOCATIONS w_THREAD_FLOW_LOCATIONS w_RULES w_EXTENSIONS w_TAGS : Addr) (i0 : Int32) (i1 : Int64) (h0 : Heap) (n0 : Nat) (Z0 : n0 ≤ h0.size) (C : Ctx Z h0 w_RUNS w_RESULTS w_LOCATIONS w_THREAD_FLOW_LOCATIONS w_RULES w_EXTENSIONS w_TAGS) (hv0 : ((i0 &&& (2147483647 : Int32)) % (7 : Int32)) = (1 : Int32)) (hv1 : (0 : Int32) < (lcmpW i1 (25000 : Int64))) :
    MetFree l x (head1 (Jvm.Cond.code x code maxLocals ret :: ws) room_1) (fun a U => a = #[(.int i0), (.long i1)] ∧ Z.Warmed39 U.vm ∧ U.heap = h0) (fun _ _ _ _ _ => True) (fun _ U o U' => ∃ v L, o = .returned v ∧ QR h0 n0 (some (.int (1 : Int32))) v U'.heap L ∧ FrameEnd U o U' L room_1.cells room_1.slots) := by
  have S_RESULTS := C.2.2.2.1
  have E_RESULTS := C.2.2.2.2.1
  refine MetFree.of_bodySF (plainFor_of_name pn_0) hisR ?_
  intro p e s m args below meth c s₁ Bd hml0 hP hK
  obtain ⟨rfl, hZ, hh⟩ := hP
  have hx := Bd.exec
  have hby := Bd.bytes
  have hml : c.maxLocals = 10 := hml0
  have hown : s.vm.findClass "com/example/verdictlint/verdictlint/sarif/CapDropsSomeOfPinLaw" = some m.cls := findClass_of_methodNamed Bd.named
  have hnm := (name_of_methodNamed Bd.named Bd.method).1
  have X0 : Stand p l e room_1 s m #[(.int i0), (.long i1)] below meth c s₁ [] 0 0 := Stand.of_body Bd
  have e0 : s₁.heap = h0 := by rw [← hh, Bd.state]; rfl
  have N0 := Fr.nil n0
  have pre0 : ∀ t, Steps p.tables e below (s₁.setTop (mkF m 0 #[.val (.int i0), .val (.long i1), .second, .unset, .unset, .unset, .unset, .unset, .unset, .unset] [])) t → Steps p.tables e below (s₁.setTop (entryFrame m #[(.int i0), (.long i1)] maxLocals)) t := fun t k => castTop (ef_0 m i0 i1) k
  obtain ⟨T1, X1, e1, st1⟩ := getS2 X0 hx hZ hown (host := "") (Or.inl (hw _ (List.mem_of_getElem? (i := 12) rfl))) Via.refl e0 S_RESULTS (g := (mkF m 30 #[.val (.int i0), .val (.long i1), .second, .val (.int (1 : Int32)), .unset, .unset, .unset, .unset, .unset, .unset] [])) rfl (hb hby at_30)
  obtain ⟨cq2, kq2, q2a, q2b, q2c⟩ := isOf hZ e1 E_RESULTS
  obtain ⟨_, _, ⟨T2, L2, k2, n2⟩, -, X2, ⟨Lc2, hQ2, l2, y2, z2⟩, st2⟩ := X1.virtualBack hx (y := (⟨"com/example/verdictlint/verdictlint/sarif/Cap", "dropsSomeOf", "(J)Z"⟩ : MethodName)) (z := (⟨"com/example/verdictlint/verdictlint/sarif/Cap", "dropsSomeOf", "(J)Z"⟩ : MethodName)) hown (mvT hZ (hw _ (List.mem_of_getElem? (i := 5) rfl))) (mvT hZ (hw _ (List.mem_of_getElem? (i := 6) rfl))) (notFace_of_selects (args := #[]) (mvT hZ (hw _ (List.mem_of_getElem? (i := 8) rfl)))) (mvT hZ (hw _ (List.mem_of_getElem? (i := 8) rfl))) (mvT hZ (hw _ (List.mem_of_getElem? (i := 7) rfl))) (by decide) (backOf (W := 0) (rm1_4 l Z a0 hw [] w_RUNS w_RESULTS w_LOCATIONS w_THREAD_FLOW_LOCATIONS w_RULES w_EXTENSIONS w_TAGS i0 i1 h0 n0 Z0 C hv0 hv1) hZ (hw _ (List.mem_of_getElem? (i := 9) rfl)) (hw _ (List.mem_of_getElem? (i := 2) rfl)) (by decide) (by decide)) q2a q2c (g := (mkF m 128 #[.val (.int i0), .val (.long i1), .second, .val (.int (1 : Int32)), .val (.ref w_RESULTS), .val (.long (25000 : Int64)), .second, .unset, .unset, .unset] [(.long i1), (.ref w_RESULTS)])) rfl (by rw [hml]; rfl) (Steps.refl _) (argsL := [(.long i1)]) (rest := []) (lenOf pd_0 rfl) rfl (by show 2 * 0 + _ ≤ _; exact Nat.le_of_eq rfl) (hb hby at_128) (fun _ _ => ⟨rfl, e1, (by decide : 0 + 0 ≤ _), (by decide : 0 + 0 ≤ _)⟩)
  dsimp only [Pt.U, Pt.locs, Pt.cells, Pt.slots] at X2 l2 y2 z2 st2 hQ2
  subst l2 y2 z2
  obtain ⟨rfl, N2q, e2⟩ := hQ2
  have N2 := Fr.app N0 N2q
  obtain ⟨cq3, kq3, q3a, q3b, q3c⟩ := isOf hZ e2 E_RESULTS
  obtain ⟨_, _, ⟨T3, L3, k3, n3⟩, -, X3, ⟨Lc3, hQ3, l3, y3, z3⟩, st3⟩ := X2.virtualBack hx (y := (⟨"com/example/verdictlint/verdictlint/sarif/Cap", "dropsSomeOf", "(J)Z"⟩ : MethodName)) (z := (⟨"com/example/verdictlint/verdictlint/sarif/Cap", "dropsSomeOf", "(J)Z"⟩ : MethodName)) hown (mvT hZ (hw _ (List.mem_of_getElem? (i := 5) rfl))) (mvT hZ (hw _ (List.mem_of_getElem? (i := 6) rfl))) (notFace_of_selects (args := #[]) (mvT hZ (hw _ (List.mem_of_getElem? (i := 8) rfl)))) (mvT hZ (hw _ (List.mem_of_getElem? (i := 8) rfl))) (mvT hZ (hw _ (List.mem_of_getElem? (i := 7) rfl))) (by decide) (backOf (W := 0) (rm1_5 l Z a0 hw [] w_RUNS w_RESULTS w_LOCATIONS w_THREAD_FLOW_LOCATIONS w_RULES w_EXTENSIONS w_TAGS  h0 n0 Z0 C ) hZ (hw _ (List.mem_of_getElem? (i := 9) rfl)) (hw _ (List.mem_of_getElem? (i := 2) rfl)) (by decide) (by decide)) q3a q3c (g := (mkF m 157 #[.val (.int i0), .val (.long i1), .second, .val (.int (1 : Int32)), .val (.ref w_RESULTS), .val (.long (25000 : Int64)), .second, .val (.int (1 : Int32)), .unset, .unset] [(.long (25000 : Int64)), (.ref w_RESULTS)])) rfl (by rw [hml]; rfl) (Steps.refl _) (argsL := [(.long (25000 : Int64))]) (rest := []) (lenOf pd_0 rfl) rfl (by show 2 * 0 + _ ≤ _; exact Nat.le_of_eq rfl) (hb hby at_157) (fun _ _ => ⟨rfl, e2, (by decide : 0 + 0 ≤ _), (by decide : 0 + 0 ≤ _)⟩)
  dsimp only [Pt.U, Pt.locs, Pt.cells, Pt.slots] at X3 l3 y3 z3 st3 hQ3
  subst l3 y3 z3
  obtain ⟨rfl, N3q, e3⟩ := hQ3
  have N3 := Fr.app N2 N3q
  obtain ⟨cq4, kq4, q4a, q4b, q4c⟩ := isOf hZ e3 E_RESULTS
  obtain ⟨_, _, ⟨T4, L4, k4, n4⟩, -, X4, ⟨Lc4, hQ4, l4, y4, z4⟩, st4⟩ := X3.virtualBack hx (y := (⟨"com/example/verdictlint/verdictlint/sarif/Cap", "dropsSomeOf", "(J)Z"⟩ : MethodName)) (z := (⟨"com/example/verdictlint/verdictlint/sarif/Cap", "dropsSomeOf", "(J)Z"⟩ : MethodName)) hown (mvT hZ (hw _ (List.mem_of_getElem? (i := 5) rfl))) (mvT hZ (hw _ (List.mem_of_getElem? (i := 6) rfl))) (notFace_of_selects (args := #[]) (mvT hZ (hw _ (List.mem_of_getElem? (i := 8) rfl)))) (mvT hZ (hw _ (List.mem_of_getElem? (i := 8) rfl))) (mvT hZ (hw _ (List.mem_of_getElem? (i := 7) rfl))) (by decide) (backOf (W := 0) (rm1_6 l Z a0 hw [] w_RUNS w_RESULTS w_LOCATIONS w_THREAD_FLOW_LOCATIONS w_RULES w_EXTENSIONS w_TAGS  h0 n0 Z0 C ) hZ (hw _ (List.mem_of_getElem? (i := 9) rfl)) (hw _ (List.mem_of_getElem? (i := 2) rfl)) (by decide) (by decide)) q4a q4c (g := (mkF m 176 #[.val (.int i0), .val (.long i1), .second, .val (.int (1 : Int32)), .val (.ref w_RESULTS), .val (.long (25000 : Int64)), .second, .val (.int (1 : Int32)), .val (.int (1 : Int32)), .unset] [(.long (25001 : Int64)), (.ref w_RESULTS)])) rfl (by rw [hml]; rfl) (Steps.refl _) (argsL := [(.long (25001 : Int64))]) (rest := []) (lenOf pd_0 rfl) rfl (by show 2 * 0 + _ ≤ _; exact Nat.le_of_eq rfl) (hb hby at_176) (fun _ _ => ⟨rfl, e3, (by decide : 0 + 0 ≤ _), (by decide : 0 + 0 ≤ _)⟩)
  dsimp only [Pt.U, Pt.locs, Pt.cells, Pt.slots] at X4 l4 y4 z4 st4 hQ4
  subst l4 y4 z4
  obtain ⟨rfl, N4q, e4⟩ := hQ4
  have N4 := Fr.app N3 N4q
  obtain ⟨fs, hr, hrun, hended, hW, hsame⟩ := X4.leave (v := (some (.int (1 : Int32)))) (fun h => by rw [Bd.returns] at h; cases h)
  refine ⟨_, _, pre0 _ ?_, hrun, hended, _, _, rfl, ?_, ⟨_, rfl⟩, hW, hsame.mono (by decide) (by decide)⟩
  · show Steps p.tables e below (s₁.setTop (mkF m 0 #[.val (.int i0), .val (.long i1), .second, .unset, .unset, .unset, .unset, .unset, .unset, .unset] [])) _
    refine XS.iloadN X0.here hx rfl (hb hby at_0) rfl ?_
    show Steps p.tables e below (s₁.setTop (mkF m 1 #[.val (.int i0), .val (.long i1), .second, .unset, .unset, .unset, .unset, .unset, .unset, .unset] [(.int i0)])) _
    refine X0.ldcInt hx hown (mvT hZ (hw _ (List.mem_of_getElem? (i := 0) rfl))) (g := (mkF m 1 #[.val (.int i0), .val (.long i1), .second, .unset, .unset, .unset, .unset, .unset, .unset, .unset] [(.int i0)])) rfl (hb hby at_1) _ ?_
    show Steps p.tables e below (s₁.setTop (mkF m 3 #[.val (.int i0), .val (.long i1), .second, .unset, .unset, .unset, .unset, .unset, .unset, .unset] [(.int (2147483647 : Int32)), (.int i0)])) _
    refine XS.iand X0.here hx rfl (hb hby at_3) rfl ?_
    show Steps p.tables e below (s₁.setTop (mkF m 4 #[.val (.int i0), .val (.long i1), .second, .unset, .unset, .unset, .unset, .unset, .unset, .unset] [(.int (i0 &&& (2147483647 : Int32)))])) _
    refine XS.bipush X0.here hx rfl (hb hby at_4) ?_
    show Steps p.tables e below (s₁.setTop (mkF m 6 #[.val (.int i0), .val (.long i1), .second, .unset, .unset, .unset, .unset, .unset, .unset, .unset] [(.int (7 : Int32)), (.int (i0 &&& (2147483647 : Int32)))])) _
    refine iremM (g := (mkF m 6 #[.val (.int i0), .val (.long i1), .second, .unset, .unset, .unset, .unset, .unset, .unset, .unset] [(.int (7 : Int32)), (.int (i0 &&& (2147483647 : Int32)))])) X0 hx rfl (hb hby at_6) rfl (by decide) ?_
    show Steps p.tables e below (s₁.setTop (mkF m 7 #[.val (.int i0), .val (.long i1), .second, .unset, .unset, .unset, .unset, .unset, .unset, .unset] [(.int ((i0 &&& (2147483647 : Int32)) % (7 : Int32)))])) _
    rw [hv0]
    show Steps p.tables e below (s₁.setTop (mkF m 7 #[.val (.int i0), .val (.long i1), .second, .unset, .unset, .unset, .unset, .unset, .unset, .unset] [(.int (1 : Int32))])) _
    refine XS.istoreN X0.here hx rfl (hb hby at_7) rfl (l' := #[.val (.int i0), .val (.long i1), .second, .val (.int (1 : Int32)), .unset, .unset, .unset, .unset, .unset, .unset]) rfl ?_
    show Steps p.tables e below (s₁.setTop (mkF m 8 #[.val (.int i0), .val (.long i1), .second, .val (.int (1 : Int32)), .unset, .unset, .unset, .unset, .unset, .unset] [])) _
    refine XS.iloadN X0.here hx rfl (hb hby at_8) rfl ?_
    show Steps p.tables e below (s₁.setTop (mkF m 9 #[.val (.int i0), .val (.long i1), .second, .val (.int (1 : Int32)), .unset, .unset, .unset, .unset, .unset, .unset] [(.int (1 : Int32))])) _
    refine XS.ifYes X0.here hx rfl (pc0 := 9) (pc' := 25) rfl (hb hby at_9) rfl ((if0 _ _).trans (feq (by decide +kernel : ¬ ((1 : Int32) = (0 : Int32)))).2) (by decide) (by decide) ?_
    show Steps p.tables e below (s₁.setTop (mkF m 25 #[.val (.int i0), .val (.long i1), .second, .val (.int (1 : Int32)), .unset, .unset, .unset, .unset, .unset, .unset] [])) _
    refine XS.iloadN X0.here hx rfl (hb hby at_25) rfl ?_
    show Steps p.tables e below (s₁.setTop (mkF m 26 #[.val (.int i0), .val (.long i1), .second, .val (.int (1 : Int32)), .unset, .unset, .unset, .unset, .unset, .unset] [(.int (1 : Int32))])) _
    refine XS.iconst X0.here hx rfl (hb hby at_26) ?_
    show Steps p.tables e below (s₁.setTop (mkF m 27 #[.val (.int i0), .val (.long i1), .second, .val (.int (1 : Int32)), .unset, .unset, .unset, .unset, .unset, .unset] [(.int (1 : Int32)), (.int (1 : Int32))])) _
    refine XS.icmpNo X0.here hx rfl (hb hby at_27) rfl (teq (by decide +kernel : (1 : Int32) = (1 : Int32))).2 ?_
    show Steps p.tables e below (s₁.setTop (mkF m 30 #[.val (.int i0), .val (.long i1), .second, .val (.int (1 : Int32)), .unset, .unset, .unset, .unset, .unset, .unset] [])) _
    refine st1 _ ?_
    show Steps p.tables e below (T1.setTop (mkF m 33 #[.val (.int i0), .val (.long i1), .second, .val (.int (1 : Int32)), .unset, .unset, .unset, .unset, .unset, .unset] [(.ref w_RESULTS)])) _
    refine XS.astore X1.here hx rfl (hb hby at_33) rfl rfl (l' := #[.val (.int i0), .val (.long i1), .second, .val (.int (1 : Int32)), .val (.ref w_RESULTS), .unset, .unset, .unset, .unset, .unset]) rfl ?_
    show Steps p.tables e below (T1.setTop (mkF m 35 #[.val (.int i0), .val (.long i1), .second, .val (.int (1 : Int32)), .val (.ref w_RESULTS), .unset, .unset, .unset, .unset, .unset] [])) _
    refine X1.ldc2Long hx hown (mvT hZ (hw _ (List.mem_of_getElem? (i := 14) rfl))) (g := (mkF m 35 #[.val (.int i0), .val (.long i1), .second, .val (.int (1 : Int32)), .val (.ref w_RESULTS), .unset, .unset, .unset, .unset, .unset] [])) rfl (hb hby at_35) _ ?_
    show Steps p.tables e below (T1.setTop (mkF m 38 #[.val (.int i0), .val (.long i1), .second, .val (.int (1 : Int32)), .val (.ref w_RESULTS), .unset, .unset, .unset, .unset, .unset] [(.long (25000 : Int64))])) _
    refine XS.lstore X1.here hx rfl (hb hby at_38) rfl (l' := #[.val (.int i0), .val (.long i1), .second, .val (.int (1 : Int32)), .val (.ref w_RESULTS), .val (.long (25000 : Int64)), .second, .unset, .unset, .unset]) rfl ?_
    show Steps p.tables e below (T1.setTop (mkF m 40 #[.val (.int i0), .val (.long i1), .second, .val (.int (1 : Int32)), .val (.ref w_RESULTS), .val (.long (25000 : Int64)), .second, .unset, .unset, .unset] [])) _
    refine XS.goto X1.here hx rfl (pc0 := 40) (pc' := 125) rfl (hb hby at_40) (by decide) (by decide) ?_
    show Steps p.tables e below (T1.setTop (mkF m 125 #[.val (.int i0), .val (.long i1), .second, .val (.int (1 : Int32)), .val (.ref w_RESULTS), .val (.long (25000 : Int64)), .second, .unset, .unset, .unset] [])) _
    refine XS.aload X1.here hx rfl (hb hby at_125) rfl rfl ?_
    show Steps p.tables e below (T1.setTop (mkF m 127 #[.val (.int i0), .val (.long i1), .second, .val (.int (1 : Int32)), .val (.ref w_RESULTS), .val (.long (25000 : Int64)), .second, .unset, .unset, .unset] [(.ref w_RESULTS)])) _
    refine XS.lloadN X1.here hx rfl (hb hby at_127) rfl ?_
    show Steps p.tables e below (T1.setTop (mkF m 128 #[.val (.int i0), .val (.long i1), .second, .val (.int (1 : Int32)), .val (.ref w_RESULTS), .val (.long (25000 : Int64)), .second, .unset, .unset, .unset] [(.long i1), (.ref w_RESULTS)])) _
    refine st2.trans ?_
    show Steps p.tables e below (T2.setTop (mkF m 131 #[.val (.int i0), .val (.long i1), .second, .val (.int (1 : Int32)), .val (.ref w_RESULTS), .val (.long (25000 : Int64)), .second, .unset, .unset, .unset] [(.int (1 : Int32))])) _
    refine XS.lloadN X2.here hx rfl (hb hby at_131) rfl ?_
    show Steps p.tables e below (T2.setTop (mkF m 132 #[.val (.int i0), .val (.long i1), .second, .val (.int (1 : Int32)), .val (.ref w_RESULTS), .val (.long (25000 : Int64)), .second, .unset, .unset, .unset] [(.long i1), (.int (1 : Int32))])) _
    refine XS.lload X2.here hx rfl (hb hby at_132) rfl ?_
    show Steps p.tables e below (T2.setTop (mkF m 134 #[.val (.int i0), .val (.long i1), .second, .val (.int (1 : Int32)), .val (.ref w_RESULTS), .val (.long (25000 : Int64)), .second, .unset, .unset, .unset] [(.long (25000 : Int64)), (.long i1), (.int (1 : Int32))])) _
    refine XS.lcmp X2.here hx rfl (hb hby at_134) rfl ?_
    show Steps p.tables e below (T2.setTop (mkF m 135 #[.val (.int i0), .val (.long i1), .second, .val (.int (1 : Int32)), .val (.ref w_RESULTS), .val (.long (25000 : Int64)), .second, .unset, .unset, .unset] [(.int (lcmpW i1 (25000 : Int64))), (.int (1 : Int32))])) _
    refine XS.ifNo X2.here hx rfl (hb hby at_135) rfl ((if0 _ _).trans (tlt hv1).2.2.2) ?_
    show Steps p.tables e below (T2.setTop (mkF m 138 #[.val (.int i0), .val (.long i1), .second, .val (.int (1 : Int32)), .val (.ref w_RESULTS), .val (.long (25000 : Int64)), .second, .unset, .unset, .unset] [(.int (1 : Int32))])) _
    refine XS.iconst X2.here hx rfl (hb hby at_138) ?_
    show Steps p.tables e below (T2.setTop (mkF m 139 #[.val (.int i0), .val (.long i1), .second, .val (.int (1 : Int32)), .val (.ref w_RESULTS), .val (.long (25000 : Int64)), .second, .unset, .unset, .unset] [(.int (1 : Int32)), (.int (1 : Int32))])) _
    refine XS.goto X2.here hx rfl (pc0 := 139) (pc' := 143) rfl (hb hby at_139) (by decide) (by decide) ?_
    show Steps p.tables e below (T2.setTop (mkF m 143 #[.val (.int i0), .val (.long i1), .second, .val (.int (1 : Int32)), .val (.ref w_RESULTS), .val (.long (25000 : Int64)), .second, .unset, .unset, .unset] [(.int (1 : Int32)), (.int (1 : Int32))])) _
    refine XS.icmpNo X2.here hx rfl (hb hby at_143) rfl (teq (by decide +kernel : (1 : Int32) = (1 : Int32))).2 ?_
    show Steps p.tables e below (T2.setTop (mkF m 146 #[.val (.int i0), .val (.long i1), .second, .val (.int (1 : Int32)), .val (.ref w_RESULTS), .val (.long (25000 : Int64)), .second, .unset, .unset, .unset] [])) _
    refine XS.iconst X2.here hx rfl (hb hby at_146) ?_
    show Steps p.tables e below (T2.setTop (mkF m 147 #[.val (.int i0), .val (.long i1), .second, .val (.int (1 : Int32)), .val (.ref w_RESULTS), .val (.long (25000 : Int64)), .second, .unset, .unset, .unset] [(.int (1 : Int32))])) _
    refine XS.goto X2.here hx rfl (pc0 := 147) (pc' := 151) rfl (hb hby at_147) (by decide) (by decide) ?_
    show Steps p.tables e below (T2.setTop (mkF m 151 #[.val (.int i0), .val (.long i1), .second, .val (.int (1 : Int32)), .val (.ref w_RESULTS), .val (.long (25000 : Int64)), .second, .unset, .unset, .unset] [(.int (1 : Int32))])) _
    refine XS.istore X2.here hx rfl (hb hby at_151) rfl (l' := #[.val (.int i0), .val (.long i1), .second, .val (.int (1 : Int32)), .val (.ref w_RESULTS), .val (.long (25000 : Int64)), .second, .val (.int (1 : Int32)), .unset, .unset]) rfl ?_
    show Steps p.tables e below (T2.setTop (mkF m 153 #[.val (.int i0), .val (.long i1), .second, .val (.int (1 : Int32)), .val (.ref w_RESULTS), .val (.long (25000 : Int64)), .second, .val (.int (1 : Int32)), .unset, .unset] [])) _
    refine XS.aload X2.here hx rfl (hb hby at_153) rfl rfl ?_
    show Steps p.tables e below (T2.setTop (mkF m 155 #[.val (.int i0), .val (.long i1), .second, .val (.int (1 : Int32)), .val (.ref w_RESULTS), .val (.long (25000 : Int64)), .second, .val (.int (1 : Int32)), .unset, .unset] [(.ref w_RESULTS)])) _
    refine XS.lload X2.here hx rfl (hb hby at_155) rfl ?_
    show Steps p.tables e below (T2.setTop (mkF m 157 #[.val (.int i0), .val (.long i1), .second, .val (.int (1 : Int32)), .val (.ref w_RESULTS), .val (.long (25000 : Int64)), .second, .val (.int (1 : Int32)), .unset, .unset] [(.long (25000 : Int64)), (.ref w_RESULTS)])) _
    refine st3.trans ?_
    show Steps p.tables e below (T3.setTop (mkF m 160 #[.val (.int i0), .val (.long i1), .second, .val (.int (1 : Int32)), .val (.ref w_RESULTS), .val (.long (25000 : Int64)), .second, .val (.int (1 : Int32)), .unset, .unset] [(.int (0 : Int32))])) _
    refine XS.ifNo X3.here hx rfl (hb hby at_160) rfl ((if0 _ _).trans (teq (by decide +kernel : (0 : Int32) = (0 : Int32))).2) ?_
    show Steps p.tables e below (T3.setTop (mkF m 163 #[.val (.int i0), .val (.long i1), .second, .val (.int (1 : Int32)), .val (.ref w_RESULTS), .val (.long (25000 : Int64)), .second, .val (.int (1 : Int32)), .unset, .unset] [])) _
    refine XS.iconst X3.here hx rfl (hb hby at_163) ?_
    show Steps p.tables e below (T3.setTop (mkF m 164 #[.val (.int i0), .val (.long i1), .second, .val (.int (1 : Int32)), .val (.ref w_RESULTS), .val (.long (25000 : Int64)), .second, .val (.int (1 : Int32)), .unset, .unset] [(.int (1 : Int32))])) _
    refine XS.goto X3.here hx rfl (pc0 := 164) (pc' := 168) rfl (hb hby at_164) (by decide) (by decide) ?_
    show Steps p.tables e below (T3.setTop (mkF m 168 #[.val (.int i0), .val (.long i1), .second, .val (.int (1 : Int32)), .val (.ref w_RESULTS), .val (.long (25000 : Int64)), .second, .val (.int (1 : Int32)), .unset, .unset] [(.int (1 : Int32))])) _
    refine XS.istore X3.here hx rfl (hb hby at_168) rfl (l' := #[.val (.int i0), .val (.long i1), .second, .val (.int (1 : Int32)), .val (.ref w_RESULTS), .val (.long (25000 : Int64)), .second, .val (.int (1 : Int32)), .val (.int (1 : Int32)), .unset]) rfl ?_
    show Steps p.tables e below (T3.setTop (mkF m 170 #[.val (.int i0), .val (.long i1), .second, .val (.int (1 : Int32)), .val (.ref w_RESULTS), .val (.long (25000 : Int64)), .second, .val (.int (1 : Int32)), .val (.int (1 : Int32)), .unset] [])) _
    refine XS.aload X3.here hx rfl (hb hby at_170) rfl rfl ?_
    show Steps p.tables e below (T3.setTop (mkF m 172 #[.val (.int i0), .val (.long i1), .second, .val (.int (1 : Int32)), .val (.ref w_RESULTS), .val (.long (25000 : Int64)), .second, .val (.int (1 : Int32)), .val (.int (1 : Int32)), .unset] [(.ref w_RESULTS)])) _
    refine XS.lload X3.here hx rfl (hb hby at_172) rfl ?_
    show Steps p.tables e below (T3.setTop (mkF m 174 #[.val (.int i0), .val (.long i1), .second, .val (.int (1 : Int32)), .val (.ref w_RESULTS), .val (.long (25000 : Int64)), .second, .val (.int (1 : Int32)), .val (.int (1 : Int32)), .unset] [(.long (25000 : Int64)), (.ref w_RESULTS)])) _
    refine XS.lconst X3.here hx rfl (hb hby at_174) ?_
    show Steps p.tables e below (T3.setTop (mkF m 175 #[.val (.int i0), .val (.long i1), .second, .val (.int (1 : Int32)), .val (.ref w_RESULTS), .val (.long (25000 : Int64)), .second, .val (.int (1 : Int32)), .val (.int (1 : Int32)), .unset] [(.long (1 : Int64)), (.long (25000 : Int64)), (.ref w_RESULTS)])) _
    refine XS.ladd X3.here hx rfl (hb hby at_175) rfl ?_
    show Steps p.tables e below (T3.setTop (mkF m 176 #[.val (.int i0), .val (.long i1), .second, .val (.int (1 : Int32)), .val (.ref w_RESULTS), .val (.long (25000 : Int64)), .second, .val (.int (1 : Int32)), .val (.int (1 : Int32)), .unset] [(.long ((25000 : Int64) + (1 : Int64))), (.ref w_RESULTS)])) _
    rw [show ((25000 : Int64) + (1 : Int64)) = (25001 : Int64) from by decide +kernel]
    show Steps p.tables e below (T3.setTop (mkF m 176 #[.val (.int i0), .val (.long i1), .second, .val (.int (1 : Int32)), .val (.ref w_RESULTS), .val (.long (25000 : Int64)), .second, .val (.int (1 : Int32)), .val (.int (1 : Int32)), .unset] [(.long (25001 : Int64)), (.ref w_RESULTS)])) _
    refine st4.trans ?_
    show Steps p.tables e below (T4.setTop (mkF m 179 #[.val (.int i0), .val (.long i1), .second, .val (.int (1 : Int32)), .val (.ref w_RESULTS), .val (.long (25000 : Int64)), .second, .val (.int (1 : Int32)), .val (.int (1 : Int32)), .unset] [(.int (1 : Int32))])) _
    refine XS.istore X4.here hx rfl (hb hby at_179) rfl (l' := #[.val (.int i0), .val (.long i1), .second, .val (.int (1 : Int32)), .val (.ref w_RESULTS), .val (.long (25000 : Int64)), .second, .val (.int (1 : Int32)), .val (.int (1 : Int32)), .val (.int (1 : Int32))]) rfl ?_
    show Steps p.tables e below (T4.setTop (mkF m 181 #[.val (.int i0), .val (.long i1), .second, .val (.int (1 : Int32)), .val (.ref w_RESULTS), .val (.long (25000 : Int64)), .second, .val (.int (1 : Int32)), .val (.int (1 : Int32)), .val (.int (1 : Int32))] [])) _
    refine XS.iload X4.here hx rfl (hb hby at_181) rfl ?_
    show Steps p.tables e below (T4.setTop (mkF m 183 #[.val (.int i0), .val (.long i1), .second, .val (.int (1 : Int32)), .val (.ref w_RESULTS), .val (.long (25000 : Int64)), .second, .val (.int (1 : Int32)), .val (.int (1 : Int32)), .val (.int (1 : Int32))] [(.int (1 : Int32))])) _
    refine XS.ifNo X4.here hx rfl (hb hby at_183) rfl ((if0 _ _).trans (feq (by decide +kernel : ¬ ((1 : Int32) = (0 : Int32)))).1) ?_
    show Steps p.tables e below (T4.setTop (mkF m 186 #[.val (.int i0), .val (.long i1), .second, .val (.int (1 : Int32)), .val (.ref w_RESULTS), .val (.long (25000 : Int64)), .second, .val (.int (1 : Int32)), .val (.int (1 : Int32)), .val (.int (1 : Int32))] [])) _
    refine XS.iload X4.here hx rfl (hb hby at_186) rfl ?_
    show Steps p.tables e below (T4.setTop (mkF m 188 #[.val (.int i0), .val (.long i1), .second, .val (.int (1 : Int32)), .val (.ref w_RESULTS), .val (.long (25000 : Int64)), .second, .val (.int (1 : Int32)), .val (.int (1 : Int32)), .val (.int (1 : Int32))] [(.int (1 : Int32))])) _
    refine XS.ifNo X4.here hx rfl (hb hby at_188) rfl ((if0 _ _).trans (feq (by decide +kernel : ¬ ((1 : Int32) = (0 : Int32)))).1) ?_
    show Steps p.tables e below (T4.setTop (mkF m 191 #[.val (.int i0), .val (.long i1), .second, .val (.int (1 : Int32)), .val (.ref w_RESULTS), .val (.long (25000 : Int64)), .second, .val (.int (1 : Int32)), .val (.int (1 : Int32)), .val (.int (1 : Int32))] [])) _
    refine XS.iload X4.here hx rfl (hb hby at_191) rfl ?_
    show Steps p.tables e below (T4.setTop (mkF m 193 #[.val (.int i0), .val (.long i1), .second, .val (.int (1 : Int32)), .val (.ref w_RESULTS), .val (.long (25000 : Int64)), .second, .val (.int (1 : Int32)), .val (.int (1 : Int32)), .val (.int (1 : Int32))] [(.int (1 : Int32))])) _
    refine XS.ifNo X4.here hx rfl (hb hby at_193) rfl ((if0 _ _).trans (feq (by decide +kernel : ¬ ((1 : Int32) = (0 : Int32)))).1) ?_
    show Steps p.tables e below (T4.setTop (mkF m 196 #[.val (.int i0), .val (.long i1), .second, .val (.int (1 : Int32)), .val (.ref w_RESULTS), .val (.long (25000 : Int64)), .second, .val (.int (1 : Int32)), .val (.int (1 : Int32)), .val (.int (1 : Int32))] [])) _
    refine XS.iconst X4.here hx rfl (hb hby at_196) ?_
    show Steps p.tables e below (T4.setTop (mkF m 197 #[.val (.int i0), .val (.long i1), .second, .val (.int (1 : Int32)), .val (.ref w_RESULTS), .val (.long (25000 : Int64)), .second, .val (.int (1 : Int32)), .val (.int (1 : Int32)), .val (.int (1 : Int32))] [(.int (1 : Int32))])) _
    refine XS.goto X4.here hx rfl (pc0 := 197) (pc' := 201) rfl (hb hby at_197) (by decide) (by decide) ?_
    show Steps p.tables e below (T4.setTop (mkF m 201 #[.val (.int i0), .val (.long i1), .second, .val (.int (1 : Int32)), .val (.ref w_RESULTS), .val (.long (25000 : Int64)), .second, .val (.int (1 : Int32)), .val (.int (1 : Int32)), .val (.int (1 : Int32))] [(.int (1 : Int32))])) _
    exact retN X4 hx (t := .boolean) Bd.returns (by simp) (hb hby at_201) hr
  · exact ⟨rfl, N4, e4⟩
set_option maxRecDepth 65536 in
set_option maxHeartbeats 40000000 in
theorem rm1_7 (l : Launch) (Z : State) (a0 : Array Value) (hw : ∀ d ∈ tables_1, d.before a0 Z = true) (ws : List Jvm.Cond) (w_RUNS w_RESULTS w_LOCATIONS w_THREAD_FLOW_LOCATIONS w_RULES w_EXTENSIONS w_TAGS : Addr) (i0 : Int32) (i1 : Int64) (h0 : Heap) (n0 : Nat) (Z0 : n0 ≤ h0.size) (C : Ctx Z h0 w_RUNS w_RESULTS w_LOCATIONS w_THREAD_FLOW_LOCATIONS w_RULES w_EXTENSIONS w_TAGS) (hv0 : ((i0 &&& (2147483647 : Int32)) % (7 : Int32)) = (1 : Int32)) (hv1 : ¬ ((0 : Int32) < (lcmpW i1 (25000 : Int64)))) :
    MetFree l (⟨"com/example/verdictlint/verdictlint/sarif/Cap", "dropsSomeOf", "(J)Z"⟩ : MethodName) (head1 (Jvm.Cond.code (⟨"com/example/verdictlint/verdictlint/sarif/Cap", "dropsSomeOf", "(J)Z"⟩ : MethodName) prog_26_method_8_code 3 (some .boolean) :: ws) ({ frames := 0, cells := 0, slots := 0, locals := 0 } : Room)) (fun a U => a = #[(.ref w_RESULTS), (.long i1)] ∧ Z.Warmed39 U.vm ∧ U.heap = h0) (fun _ _ _ _ _ => True) (fun _ U o U' => ∃ v L, o = .returned v ∧ QR h0 n0 (some (.int (0 : Int32))) v U'.heap L ∧ FrameEnd U o U' L ({ frames := 0, cells := 0, slots := 0, locals := 0 } : Room).cells ({ frames := 0, cells := 0, slots := 0, locals := 0 } : Room).slots) := by
  have F_RESULTS_kept := C.2.2.2.2.2.1
  refine MetFree.of_bodySF (plainFor_of_name pn_1) hisR ?_
  intro p e s m args below meth c s₁ Bd hml0 hP hK
  obtain ⟨rfl, hZ, hh⟩ := hP
  have hx := Bd.exec
  have hby := Bd.bytes
  have hml : c.maxLocals = 3 := hml0
  have hown : s.vm.findClass "com/example/verdictlint/verdictlint/sarif/Cap" = some m.cls := findClass_of_methodNamed Bd.named
  have hnm := (name_of_methodNamed Bd.named Bd.method).1
  have X0 : Stand p l e ({ frames := 0, cells := 0, slots := 0, locals := 0 } : Room) s m #[(.ref w_RESULTS), (.long i1)] below meth c s₁ [] 0 0 := Stand.of_body Bd
  have e0 : s₁.heap = h0 := by rw [← hh, Bd.state]; rfl
  have N0 := Fr.nil n0
  have pre0 : ∀ t, Steps p.tables e below (s₁.setTop (mkF m 0 #[.val (.ref w_RESULTS), .val (.long i1), .second] [])) t → Steps p.tables e below (s₁.setTop (entryFrame m #[(.ref w_RESULTS), (.long i1)] 3)) t := fun t k => castTop (ef_1 m w_RESULTS i1) k
  obtain ⟨T1, X1, e1, st1⟩ := getF X0 hx hZ hown (host := "") (Or.inl (hw _ (List.mem_of_getElem? (i := 10) rfl))) Via.refl e0 F_RESULTS_kept (g := (mkF m 2 #[.val (.ref w_RESULTS), .val (.long i1), .second] [(.ref w_RESULTS), (.long i1)])) rfl rfl (hb hby d1_2)
  obtain ⟨fs, hr, hrun, hended, hW, hsame⟩ := X1.leave (v := (some (.int (0 : Int32)))) (fun h => by rw [Bd.returns] at h; cases h)
  refine ⟨_, _, pre0 _ ?_, hrun, hended, _, _, rfl, ?_, ⟨_, rfl⟩, hW, hsame.mono (by decide) (by decide)⟩
  · show Steps p.tables e below (s₁.setTop (mkF m 0 #[.val (.ref w_RESULTS), .val (.long i1), .second] [])) _
    refine XS.lloadN X0.here hx rfl (hb hby d1_0) rfl ?_
    show Steps p.tables e below (s₁.setTop (mkF m 1 #[.val (.ref w_RESULTS), .val (.long i1), .second] [(.long i1)])) _
    refine XS.aloadN X0.here hx rfl (hb hby d1_1) rfl rfl ?_
    show Steps p.tables e below (s₁.setTop (mkF m 2 #[.val (.ref w_RESULTS), .val (.long i1), .second] [(.ref w_RESULTS), (.long i1)])) _
    refine st1 _ ?_
    show Steps p.tables e below (T1.setTop (mkF m 5 #[.val (.ref w_RESULTS), .val (.long i1), .second] [(.long (25000 : Int64)), (.long i1)])) _
    refine XS.lcmp X1.here hx rfl (hb hby d1_5) rfl ?_
    show Steps p.tables e below (T1.setTop (mkF m 6 #[.val (.ref w_RESULTS), .val (.long i1), .second] [(.int (lcmpW i1 (25000 : Int64)))])) _
    refine XS.ifYes X1.here hx rfl (pc0 := 6) (pc' := 13) rfl (hb hby d1_6) rfl ((if0 _ _).trans (flt hv1).2.2.2) (by decide) (by decide) ?_
    show Steps p.tables e below (T1.setTop (mkF m 13 #[.val (.ref w_RESULTS), .val (.long i1), .second] [])) _
    refine XS.iconst X1.here hx rfl (hb hby d1_13) ?_
    show Steps p.tables e below (T1.setTop (mkF m 14 #[.val (.ref w_RESULTS), .val (.long i1), .second] [(.int (0 : Int32))])) _
    exact retN X1 hx (t := .boolean) Bd.returns (by simp) (hb hby d1_14) hr
  · exact ⟨rfl, N0, e1⟩
set_option maxRecDepth 65536 in
set_option maxHeartbeats 40000000 in
theorem rm0_3 (l : Launch) (Z : State) (a0 : Array Value) (hw : ∀ d ∈ tables_1, d.before a0 Z = true) (ws : List Jvm.Cond) (w_RUNS w_RESULTS w_LOCATIONS w_THREAD_FLOW_LOCATIONS w_RULES w_EXTENSIONS w_TAGS : Addr) (i0 : Int32) (i1 : Int64) (h0 : Heap) (n0 : Nat) (Z0 : n0 ≤ h0.size) (C : Ctx Z h0 w_RUNS w_RESULTS w_LOCATIONS w_THREAD_FLOW_LOCATIONS w_RULES w_EXTENSIONS w_TAGS) (hv0 : ((i0 &&& (2147483647 : Int32)) % (7 : Int32)) = (1 : Int32)) (hv1 : ¬ ((0 : Int32) < (lcmpW i1 (25000 : Int64)))) :
    MetFree l x (head1 (Jvm.Cond.code x code maxLocals ret :: ws) room_1) (fun a U => a = #[(.int i0), (.long i1)] ∧ Z.Warmed39 U.vm ∧ U.heap = h0) (fun _ _ _ _ _ => True) (fun _ U o U' => ∃ v L, o = .returned v ∧ QR h0 n0 (some (.int (1 : Int32))) v U'.heap L ∧ FrameEnd U o U' L room_1.cells room_1.slots) := by
  have S_RESULTS := C.2.2.2.1
  have E_RESULTS := C.2.2.2.2.1
  refine MetFree.of_bodySF (plainFor_of_name pn_0) hisR ?_
  intro p e s m args below meth c s₁ Bd hml0 hP hK
  obtain ⟨rfl, hZ, hh⟩ := hP
  have hx := Bd.exec
  have hby := Bd.bytes
  have hml : c.maxLocals = 10 := hml0
  have hown : s.vm.findClass "com/example/verdictlint/verdictlint/sarif/CapDropsSomeOfPinLaw" = some m.cls := findClass_of_methodNamed Bd.named
  have hnm := (name_of_methodNamed Bd.named Bd.method).1
  have X0 : Stand p l e room_1 s m #[(.int i0), (.long i1)] below meth c s₁ [] 0 0 := Stand.of_body Bd
  have e0 : s₁.heap = h0 := by rw [← hh, Bd.state]; rfl
  have N0 := Fr.nil n0
  have pre0 : ∀ t, Steps p.tables e below (s₁.setTop (mkF m 0 #[.val (.int i0), .val (.long i1), .second, .unset, .unset, .unset, .unset, .unset, .unset, .unset] [])) t → Steps p.tables e below (s₁.setTop (entryFrame m #[(.int i0), (.long i1)] maxLocals)) t := fun t k => castTop (ef_0 m i0 i1) k
  obtain ⟨T1, X1, e1, st1⟩ := getS2 X0 hx hZ hown (host := "") (Or.inl (hw _ (List.mem_of_getElem? (i := 12) rfl))) Via.refl e0 S_RESULTS (g := (mkF m 30 #[.val (.int i0), .val (.long i1), .second, .val (.int (1 : Int32)), .unset, .unset, .unset, .unset, .unset, .unset] [])) rfl (hb hby at_30)
  obtain ⟨cq2, kq2, q2a, q2b, q2c⟩ := isOf hZ e1 E_RESULTS
  obtain ⟨_, _, ⟨T2, L2, k2, n2⟩, -, X2, ⟨Lc2, hQ2, l2, y2, z2⟩, st2⟩ := X1.virtualBack hx (y := (⟨"com/example/verdictlint/verdictlint/sarif/Cap", "dropsSomeOf", "(J)Z"⟩ : MethodName)) (z := (⟨"com/example/verdictlint/verdictlint/sarif/Cap", "dropsSomeOf", "(J)Z"⟩ : MethodName)) hown (mvT hZ (hw _ (List.mem_of_getElem? (i := 5) rfl))) (mvT hZ (hw _ (List.mem_of_getElem? (i := 6) rfl))) (notFace_of_selects (args := #[]) (mvT hZ (hw _ (List.mem_of_getElem? (i := 8) rfl)))) (mvT hZ (hw _ (List.mem_of_getElem? (i := 8) rfl))) (mvT hZ (hw _ (List.mem_of_getElem? (i := 7) rfl))) (by decide) (backOf (W := 0) (rm1_7 l Z a0 hw [] w_RUNS w_RESULTS w_LOCATIONS w_THREAD_FLOW_LOCATIONS w_RULES w_EXTENSIONS w_TAGS i0 i1 h0 n0 Z0 C hv0 hv1) hZ (hw _ (List.mem_of_getElem? (i := 9) rfl)) (hw _ (List.mem_of_getElem? (i := 2) rfl)) (by decide) (by decide)) q2a q2c (g := (mkF m 128 #[.val (.int i0), .val (.long i1), .second, .val (.int (1 : Int32)), .val (.ref w_RESULTS), .val (.long (25000 : Int64)), .second, .unset, .unset, .unset] [(.long i1), (.ref w_RESULTS)])) rfl (by rw [hml]; rfl) (Steps.refl _) (argsL := [(.long i1)]) (rest := []) (lenOf pd_0 rfl) rfl (by show 2 * 0 + _ ≤ _; exact Nat.le_of_eq rfl) (hb hby at_128) (fun _ _ => ⟨rfl, e1, (by decide : 0 + 0 ≤ _), (by decide : 0 + 0 ≤ _)⟩)
  dsimp only [Pt.U, Pt.locs, Pt.cells, Pt.slots] at X2 l2 y2 z2 st2 hQ2
  subst l2 y2 z2
  obtain ⟨rfl, N2q, e2⟩ := hQ2
  have N2 := Fr.app N0 N2q
  obtain ⟨cq3, kq3, q3a, q3b, q3c⟩ := isOf hZ e2 E_RESULTS
  obtain ⟨_, _, ⟨T3, L3, k3, n3⟩, -, X3, ⟨Lc3, hQ3, l3, y3, z3⟩, st3⟩ := X2.virtualBack hx (y := (⟨"com/example/verdictlint/verdictlint/sarif/Cap", "dropsSomeOf", "(J)Z"⟩ : MethodName)) (z := (⟨"com/example/verdictlint/verdictlint/sarif/Cap", "dropsSomeOf", "(J)Z"⟩ : MethodName)) hown (mvT hZ (hw _ (List.mem_of_getElem? (i := 5) rfl))) (mvT hZ (hw _ (List.mem_of_getElem? (i := 6) rfl))) (notFace_of_selects (args := #[]) (mvT hZ (hw _ (List.mem_of_getElem? (i := 8) rfl)))) (mvT hZ (hw _ (List.mem_of_getElem? (i := 8) rfl))) (mvT hZ (hw _ (List.mem_of_getElem? (i := 7) rfl))) (by decide) (backOf (W := 0) (rm1_5 l Z a0 hw [] w_RUNS w_RESULTS w_LOCATIONS w_THREAD_FLOW_LOCATIONS w_RULES w_EXTENSIONS w_TAGS  h0 n0 Z0 C ) hZ (hw _ (List.mem_of_getElem? (i := 9) rfl)) (hw _ (List.mem_of_getElem? (i := 2) rfl)) (by decide) (by decide)) q3a q3c (g := (mkF m 157 #[.val (.int i0), .val (.long i1), .second, .val (.int (1 : Int32)), .val (.ref w_RESULTS), .val (.long (25000 : Int64)), .second, .val (.int (1 : Int32)), .unset, .unset] [(.long (25000 : Int64)), (.ref w_RESULTS)])) rfl (by rw [hml]; rfl) (Steps.refl _) (argsL := [(.long (25000 : Int64))]) (rest := []) (lenOf pd_0 rfl) rfl (by show 2 * 0 + _ ≤ _; exact Nat.le_of_eq rfl) (hb hby at_157) (fun _ _ => ⟨rfl, e2, (by decide : 0 + 0 ≤ _), (by decide : 0 + 0 ≤ _)⟩)
  dsimp only [Pt.U, Pt.locs, Pt.cells, Pt.slots] at X3 l3 y3 z3 st3 hQ3
  subst l3 y3 z3
  obtain ⟨rfl, N3q, e3⟩ := hQ3
  have N3 := Fr.app N2 N3q
  obtain ⟨cq4, kq4, q4a, q4b, q4c⟩ := isOf hZ e3 E_RESULTS
  obtain ⟨_, _, ⟨T4, L4, k4, n4⟩, -, X4, ⟨Lc4, hQ4, l4, y4, z4⟩, st4⟩ := X3.virtualBack hx (y := (⟨"com/example/verdictlint/verdictlint/sarif/Cap", "dropsSomeOf", "(J)Z"⟩ : MethodName)) (z := (⟨"com/example/verdictlint/verdictlint/sarif/Cap", "dropsSomeOf", "(J)Z"⟩ : MethodName)) hown (mvT hZ (hw _ (List.mem_of_getElem? (i := 5) rfl))) (mvT hZ (hw _ (List.mem_of_getElem? (i := 6) rfl))) (notFace_of_selects (args := #[]) (mvT hZ (hw _ (List.mem_of_getElem? (i := 8) rfl)))) (mvT hZ (hw _ (List.mem_of_getElem? (i := 8) rfl))) (mvT hZ (hw _ (List.mem_of_getElem? (i := 7) rfl))) (by decide) (backOf (W := 0) (rm1_6 l Z a0 hw [] w_RUNS w_RESULTS w_LOCATIONS w_THREAD_FLOW_LOCATIONS w_RULES w_EXTENSIONS w_TAGS  h0 n0 Z0 C ) hZ (hw _ (List.mem_of_getElem? (i := 9) rfl)) (hw _ (List.mem_of_getElem? (i := 2) rfl)) (by decide) (by decide)) q4a q4c (g := (mkF m 176 #[.val (.int i0), .val (.long i1), .second, .val (.int (1 : Int32)), .val (.ref w_RESULTS), .val (.long (25000 : Int64)), .second, .val (.int (1 : Int32)), .val (.int (1 : Int32)), .unset] [(.long (25001 : Int64)), (.ref w_RESULTS)])) rfl (by rw [hml]; rfl) (Steps.refl _) (argsL := [(.long (25001 : Int64))]) (rest := []) (lenOf pd_0 rfl) rfl (by show 2 * 0 + _ ≤ _; exact Nat.le_of_eq rfl) (hb hby at_176) (fun _ _ => ⟨rfl, e3, (by decide : 0 + 0 ≤ _), (by decide : 0 + 0 ≤ _)⟩)
  dsimp only [Pt.U, Pt.locs, Pt.cells, Pt.slots] at X4 l4 y4 z4 st4 hQ4
  subst l4 y4 z4
  obtain ⟨rfl, N4q, e4⟩ := hQ4
  have N4 := Fr.app N3 N4q
  obtain ⟨fs, hr, hrun, hended, hW, hsame⟩ := X4.leave (v := (some (.int (1 : Int32)))) (fun h => by rw [Bd.returns] at h; cases h)
  refine ⟨_, _, pre0 _ ?_, hrun, hended, _, _, rfl, ?_, ⟨_, rfl⟩, hW, hsame.mono (by decide) (by decide)⟩
  · show Steps p.tables e below (s₁.setTop (mkF m 0 #[.val (.int i0), .val (.long i1), .second, .unset, .unset, .unset, .unset, .unset, .unset, .unset] [])) _
    refine XS.iloadN X0.here hx rfl (hb hby at_0) rfl ?_
    show Steps p.tables e below (s₁.setTop (mkF m 1 #[.val (.int i0), .val (.long i1), .second, .unset, .unset, .unset, .unset, .unset, .unset, .unset] [(.int i0)])) _
    refine X0.ldcInt hx hown (mvT hZ (hw _ (List.mem_of_getElem? (i := 0) rfl))) (g := (mkF m 1 #[.val (.int i0), .val (.long i1), .second, .unset, .unset, .unset, .unset, .unset, .unset, .unset] [(.int i0)])) rfl (hb hby at_1) _ ?_
    show Steps p.tables e below (s₁.setTop (mkF m 3 #[.val (.int i0), .val (.long i1), .second, .unset, .unset, .unset, .unset, .unset, .unset, .unset] [(.int (2147483647 : Int32)), (.int i0)])) _
    refine XS.iand X0.here hx rfl (hb hby at_3) rfl ?_
    show Steps p.tables e below (s₁.setTop (mkF m 4 #[.val (.int i0), .val (.long i1), .second, .unset, .unset, .unset, .unset, .unset, .unset, .unset] [(.int (i0 &&& (2147483647 : Int32)))])) _
    refine XS.bipush X0.here hx rfl (hb hby at_4) ?_
    show Steps p.tables e below (s₁.setTop (mkF m 6 #[.val (.int i0), .val (.long i1), .second, .unset, .unset, .unset, .unset, .unset, .unset, .unset] [(.int (7 : Int32)), (.int (i0 &&& (2147483647 : Int32)))])) _
    refine iremM (g := (mkF m 6 #[.val (.int i0), .val (.long i1), .second, .unset, .unset, .unset, .unset, .unset, .unset, .unset] [(.int (7 : Int32)), (.int (i0 &&& (2147483647 : Int32)))])) X0 hx rfl (hb hby at_6) rfl (by decide) ?_
    show Steps p.tables e below (s₁.setTop (mkF m 7 #[.val (.int i0), .val (.long i1), .second, .unset, .unset, .unset, .unset, .unset, .unset, .unset] [(.int ((i0 &&& (2147483647 : Int32)) % (7 : Int32)))])) _
    rw [hv0]
    show Steps p.tables e below (s₁.setTop (mkF m 7 #[.val (.int i0), .val (.long i1), .second, .unset, .unset, .unset, .unset, .unset, .unset, .unset] [(.int (1 : Int32))])) _
    refine XS.istoreN X0.here hx rfl (hb hby at_7) rfl (l' := #[.val (.int i0), .val (.long i1), .second, .val (.int (1 : Int32)), .unset, .unset, .unset, .unset, .unset, .unset]) rfl ?_
    show Steps p.tables e below (s₁.setTop (mkF m 8 #[.val (.int i0), .val (.long i1), .second, .val (.int (1 : Int32)), .unset, .unset, .unset, .unset, .unset, .unset] [])) _
    refine XS.iloadN X0.here hx rfl (hb hby at_8) rfl ?_
    show Steps p.tables e below (s₁.setTop (mkF m 9 #[.val (.int i0), .val (.long i1), .second, .val (.int (1 : Int32)), .unset, .unset, .unset, .unset, .unset, .unset] [(.int (1 : Int32))])) _
    refine XS.ifYes X0.here hx rfl (pc0 := 9) (pc' := 25) rfl (hb hby at_9) rfl ((if0 _ _).trans (feq (by decide +kernel : ¬ ((1 : Int32) = (0 : Int32)))).2) (by decide) (by decide) ?_
    show Steps p.tables e below (s₁.setTop (mkF m 25 #[.val (.int i0), .val (.long i1), .second, .val (.int (1 : Int32)), .unset, .unset, .unset, .unset, .unset, .unset] [])) _
    refine XS.iloadN X0.here hx rfl (hb hby at_25) rfl ?_
    show Steps p.tables e below (s₁.setTop (mkF m 26 #[.val (.int i0), .val (.long i1), .second, .val (.int (1 : Int32)), .unset, .unset, .unset, .unset, .unset, .unset] [(.int (1 : Int32))])) _
    refine XS.iconst X0.here hx rfl (hb hby at_26) ?_
    show Steps p.tables e below (s₁.setTop (mkF m 27 #[.val (.int i0), .val (.long i1), .second, .val (.int (1 : Int32)), .unset, .unset, .unset, .unset, .unset, .unset] [(.int (1 : Int32)), (.int (1 : Int32))])) _
    refine XS.icmpNo X0.here hx rfl (hb hby at_27) rfl (teq (by decide +kernel : (1 : Int32) = (1 : Int32))).2 ?_
    show Steps p.tables e below (s₁.setTop (mkF m 30 #[.val (.int i0), .val (.long i1), .second, .val (.int (1 : Int32)), .unset, .unset, .unset, .unset, .unset, .unset] [])) _
    refine st1 _ ?_
    show Steps p.tables e below (T1.setTop (mkF m 33 #[.val (.int i0), .val (.long i1), .second, .val (.int (1 : Int32)), .unset, .unset, .unset, .unset, .unset, .unset] [(.ref w_RESULTS)])) _
    refine XS.astore X1.here hx rfl (hb hby at_33) rfl rfl (l' := #[.val (.int i0), .val (.long i1), .second, .val (.int (1 : Int32)), .val (.ref w_RESULTS), .unset, .unset, .unset, .unset, .unset]) rfl ?_
    show Steps p.tables e below (T1.setTop (mkF m 35 #[.val (.int i0), .val (.long i1), .second, .val (.int (1 : Int32)), .val (.ref w_RESULTS), .unset, .unset, .unset, .unset, .unset] [])) _
    refine X1.ldc2Long hx hown (mvT hZ (hw _ (List.mem_of_getElem? (i := 14) rfl))) (g := (mkF m 35 #[.val (.int i0), .val (.long i1), .second, .val (.int (1 : Int32)), .val (.ref w_RESULTS), .unset, .unset, .unset, .unset, .unset] [])) rfl (hb hby at_35) _ ?_
    show Steps p.tables e below (T1.setTop (mkF m 38 #[.val (.int i0), .val (.long i1), .second, .val (.int (1 : Int32)), .val (.ref w_RESULTS), .unset, .unset, .unset, .unset, .unset] [(.long (25000 : Int64))])) _
    refine XS.lstore X1.here hx rfl (hb hby at_38) rfl (l' := #[.val (.int i0), .val (.long i1), .second, .val (.int (1 : Int32)), .val (.ref w_RESULTS), .val (.long (25000 : Int64)), .second, .unset, .unset, .unset]) rfl ?_
    show Steps p.tables e below (T1.setTop (mkF m 40 #[.val (.int i0), .val (.long i1), .second, .val (.int (1 : Int32)), .val (.ref w_RESULTS), .val (.long (25000 : Int64)), .second, .unset, .unset, .unset] [])) _
    refine XS.goto X1.here hx rfl (pc0 := 40) (pc' := 125) rfl (hb hby at_40) (by decide) (by decide) ?_
    show Steps p.tables e below (T1.setTop (mkF m 125 #[.val (.int i0), .val (.long i1), .second, .val (.int (1 : Int32)), .val (.ref w_RESULTS), .val (.long (25000 : Int64)), .second, .unset, .unset, .unset] [])) _
    refine XS.aload X1.here hx rfl (hb hby at_125) rfl rfl ?_
    show Steps p.tables e below (T1.setTop (mkF m 127 #[.val (.int i0), .val (.long i1), .second, .val (.int (1 : Int32)), .val (.ref w_RESULTS), .val (.long (25000 : Int64)), .second, .unset, .unset, .unset] [(.ref w_RESULTS)])) _
    refine XS.lloadN X1.here hx rfl (hb hby at_127) rfl ?_
    show Steps p.tables e below (T1.setTop (mkF m 128 #[.val (.int i0), .val (.long i1), .second, .val (.int (1 : Int32)), .val (.ref w_RESULTS), .val (.long (25000 : Int64)), .second, .unset, .unset, .unset] [(.long i1), (.ref w_RESULTS)])) _
    refine st2.trans ?_
    show Steps p.tables e below (T2.setTop (mkF m 131 #[.val (.int i0), .val (.long i1), .second, .val (.int (1 : Int32)), .val (.ref w_RESULTS), .val (.long (25000 : Int64)), .second, .unset, .unset, .unset] [(.int (0 : Int32))])) _
    refine XS.lloadN X2.here hx rfl (hb hby at_131) rfl ?_
    show Steps p.tables e below (T2.setTop (mkF m 132 #[.val (.int i0), .val (.long i1), .second, .val (.int (1 : Int32)), .val (.ref w_RESULTS), .val (.long (25000 : Int64)), .second, .unset, .unset, .unset] [(.long i1), (.int (0 : Int32))])) _
    refine XS.lload X2.here hx rfl (hb hby at_132) rfl ?_
    show Steps p.tables e below (T2.setTop (mkF m 134 #[.val (.int i0), .val (.long i1), .second, .val (.int (1 : Int32)), .val (.ref w_RESULTS), .val (.long (25000 : Int64)), .second, .unset, .unset, .unset] [(.long (25000 : Int64)), (.long i1), (.int (0 : Int32))])) _
    refine XS.lcmp X2.here hx rfl (hb hby at_134) rfl ?_
    show Steps p.tables e below (T2.setTop (mkF m 135 #[.val (.int i0), .val (.long i1), .second, .val (.int (1 : Int32)), .val (.ref w_RESULTS), .val (.long (25000 : Int64)), .second, .unset, .unset, .unset] [(.int (lcmpW i1 (25000 : Int64))), (.int (0 : Int32))])) _
    refine XS.ifYes X2.here hx rfl (pc0 := 135) (pc' := 142) rfl (hb hby at_135) rfl ((if0 _ _).trans (flt hv1).2.2.2) (by decide) (by decide) ?_
    show Steps p.tables e below (T2.setTop (mkF m 142 #[.val (.int i0), .val (.long i1), .second, .val (.int (1 : Int32)), .val (.ref w_RESULTS), .val (.long (25000 : Int64)), .second, .unset, .unset, .unset] [(.int (0 : Int32))])) _
    refine XS.iconst X2.here hx rfl (hb hby at_142) ?_
    show Steps p.tables e below (T2.setTop (mkF m 143 #[.val (.int i0), .val (.long i1), .second, .val (.int (1 : Int32)), .val (.ref w_RESULTS), .val (.long (25000 : Int64)), .second, .unset, .unset, .unset] [(.int (0 : Int32)), (.int (0 : Int32))])) _
    refine XS.icmpNo X2.here hx rfl (hb hby at_143) rfl (teq (by decide +kernel : (0 : Int32) = (0 : Int32))).2 ?_
    show Steps p.tables e below (T2.setTop (mkF m 146 #[.val (.int i0), .val (.long i1), .second, .val (.int (1 : Int32)), .val (.ref w_RESULTS), .val (.long (25000 : Int64)), .second, .unset, .unset, .unset] [])) _
    refine XS.iconst X2.here hx rfl (hb hby at_146) ?_
    show Steps p.tables e below (T2.setTop (mkF m 147 #[.val (.int i0), .val (.long i1), .second, .val (.int (1 : Int32)), .val (.ref w_RESULTS), .val (.long (25000 : Int64)), .second, .unset, .unset, .unset] [(.int (1 : Int32))])) _
    refine XS.goto X2.here hx rfl (pc0 := 147) (pc' := 151) rfl (hb hby at_147) (by decide) (by decide) ?_
    show Steps p.tables e below (T2.setTop (mkF m 151 #[.val (.int i0), .val (.long i1), .second, .val (.int (1 : Int32)), .val (.ref w_RESULTS), .val (.long (25000 : Int64)), .second, .unset, .unset, .unset] [(.int (1 : Int32))])) _
    refine XS.istore X2.here hx rfl (hb hby at_151) rfl (l' := #[.val (.int i0), .val (.long i1), .second, .val (.int (1 : Int32)), .val (.ref w_RESULTS), .val (.long (25000 : Int64)), .second, .val (.int (1 : Int32)), .unset, .unset]) rfl ?_
    show Steps p.tables e below (T2.setTop (mkF m 153 #[.val (.int i0), .val (.long i1), .second, .val (.int (1 : Int32)), .val (.ref w_RESULTS), .val (.long (25000 : Int64)), .second, .val (.int (1 : Int32)), .unset, .unset] [])) _
    refine XS.aload X2.here hx rfl (hb hby at_153) rfl rfl ?_
    show Steps p.tables e below (T2.setTop (mkF m 155 #[.val (.int i0), .val (.long i1), .second, .val (.int (1 : Int32)), .val (.ref w_RESULTS), .val (.long (25000 : Int64)), .second, .val (.int (1 : Int32)), .unset, .unset] [(.ref w_RESULTS)])) _
    refine XS.lload X2.here hx rfl (hb hby at_155) rfl ?_
    show Steps p.tables e below (T2.setTop (mkF m 157 #[.val (.int i0), .val (.long i1), .second, .val (.int (1 : Int32)), .val (.ref w_RESULTS), .val (.long (25000 : Int64)), .second, .val (.int (1 : Int32)), .unset, .unset] [(.long (25000 : Int64)), (.ref w_RESULTS)])) _
    refine st3.trans ?_
    show Steps p.tables e below (T3.setTop (mkF m 160 #[.val (.int i0), .val (.long i1), .second, .val (.int (1 : Int32)), .val (.ref w_RESULTS), .val (.long (25000 : Int64)), .second, .val (.int (1 : Int32)), .unset, .unset] [(.int (0 : Int32))])) _
    refine XS.ifNo X3.here hx rfl (hb hby at_160) rfl ((if0 _ _).trans (teq (by decide +kernel : (0 : Int32) = (0 : Int32))).2) ?_
    show Steps p.tables e below (T3.setTop (mkF m 163 #[.val (.int i0), .val (.long i1), .second, .val (.int (1 : Int32)), .val (.ref w_RESULTS), .val (.long (25000 : Int64)), .second, .val (.int (1 : Int32)), .unset, .unset] [])) _
    refine XS.iconst X3.here hx rfl (hb hby at_163) ?_
    show Steps p.tables e below (T3.setTop (mkF m 164 #[.val (.int i0), .val (.long i1), .second, .val (.int (1 : Int32)), .val (.ref w_RESULTS), .val (.long (25000 : Int64)), .second, .val (.int (1 : Int32)), .unset, .unset] [(.int (1 : Int32))])) _
    refine XS.goto X3.here hx rfl (pc0 := 164) (pc' := 168) rfl (hb hby at_164) (by decide) (by decide) ?_
    show Steps p.tables e below (T3.setTop (mkF m 168 #[.val (.int i0), .val (.long i1), .second, .val (.int (1 : Int32)), .val (.ref w_RESULTS), .val (.long (25000 : Int64)), .second, .val (.int (1 : Int32)), .unset, .unset] [(.int (1 : Int32))])) _
    refine XS.istore X3.here hx rfl (hb hby at_168) rfl (l' := #[.val (.int i0), .val (.long i1), .second, .val (.int (1 : Int32)), .val (.ref w_RESULTS), .val (.long (25000 : Int64)), .second, .val (.int (1 : Int32)), .val (.int (1 : Int32)), .unset]) rfl ?_
    show Steps p.tables e below (T3.setTop (mkF m 170 #[.val (.int i0), .val (.long i1), .second, .val (.int (1 : Int32)), .val (.ref w_RESULTS), .val (.long (25000 : Int64)), .second, .val (.int (1 : Int32)), .val (.int (1 : Int32)), .unset] [])) _
    refine XS.aload X3.here hx rfl (hb hby at_170) rfl rfl ?_
    show Steps p.tables e below (T3.setTop (mkF m 172 #[.val (.int i0), .val (.long i1), .second, .val (.int (1 : Int32)), .val (.ref w_RESULTS), .val (.long (25000 : Int64)), .second, .val (.int (1 : Int32)), .val (.int (1 : Int32)), .unset] [(.ref w_RESULTS)])) _
    refine XS.lload X3.here hx rfl (hb hby at_172) rfl ?_
    show Steps p.tables e below (T3.setTop (mkF m 174 #[.val (.int i0), .val (.long i1), .second, .val (.int (1 : Int32)), .val (.ref w_RESULTS), .val (.long (25000 : Int64)), .second, .val (.int (1 : Int32)), .val (.int (1 : Int32)), .unset] [(.long (25000 : Int64)), (.ref w_RESULTS)])) _
    refine XS.lconst X3.here hx rfl (hb hby at_174) ?_
    show Steps p.tables e below (T3.setTop (mkF m 175 #[.val (.int i0), .val (.long i1), .second, .val (.int (1 : Int32)), .val (.ref w_RESULTS), .val (.long (25000 : Int64)), .second, .val (.int (1 : Int32)), .val (.int (1 : Int32)), .unset] [(.long (1 : Int64)), (.long (25000 : Int64)), (.ref w_RESULTS)])) _
    refine XS.ladd X3.here hx rfl (hb hby at_175) rfl ?_
    show Steps p.tables e below (T3.setTop (mkF m 176 #[.val (.int i0), .val (.long i1), .second, .val (.int (1 : Int32)), .val (.ref w_RESULTS), .val (.long (25000 : Int64)), .second, .val (.int (1 : Int32)), .val (.int (1 : Int32)), .unset] [(.long ((25000 : Int64) + (1 : Int64))), (.ref w_RESULTS)])) _
    rw [show ((25000 : Int64) + (1 : Int64)) = (25001 : Int64) from by decide +kernel]
    show Steps p.tables e below (T3.setTop (mkF m 176 #[.val (.int i0), .val (.long i1), .second, .val (.int (1 : Int32)), .val (.ref w_RESULTS), .val (.long (25000 : Int64)), .second, .val (.int (1 : Int32)), .val (.int (1 : Int32)), .unset] [(.long (25001 : Int64)), (.ref w_RESULTS)])) _
    refine st4.trans ?_
    show Steps p.tables e below (T4.setTop (mkF m 179 #[.val (.int i0), .val (.long i1), .second, .val (.int (1 : Int32)), .val (.ref w_RESULTS), .val (.long (25000 : Int64)), .second, .val (.int (1 : Int32)), .val (.int (1 : Int32)), .unset] [(.int (1 : Int32))])) _
    refine XS.istore X4.here hx rfl (hb hby at_179) rfl (l' := #[.val (.int i0), .val (.long i1), .second, .val (.int (1 : Int32)), .val (.ref w_RESULTS), .val (.long (25000 : Int64)), .second, .val (.int (1 : Int32)), .val (.int (1 : Int32)), .val (.int (1 : Int32))]) rfl ?_
    show Steps p.tables e below (T4.setTop (mkF m 181 #[.val (.int i0), .val (.long i1), .second, .val (.int (1 : Int32)), .val (.ref w_RESULTS), .val (.long (25000 : Int64)), .second, .val (.int (1 : Int32)), .val (.int (1 : Int32)), .val (.int (1 : Int32))] [])) _
    refine XS.iload X4.here hx rfl (hb hby at_181) rfl ?_
    show Steps p.tables e below (T4.setTop (mkF m 183 #[.val (.int i0), .val (.long i1), .second, .val (.int (1 : Int32)), .val (.ref w_RESULTS), .val (.long (25000 : Int64)), .second, .val (.int (1 : Int32)), .val (.int (1 : Int32)), .val (.int (1 : Int32))] [(.int (1 : Int32))])) _
    refine XS.ifNo X4.here hx rfl (hb hby at_183) rfl ((if0 _ _).trans (feq (by decide +kernel : ¬ ((1 : Int32) = (0 : Int32)))).1) ?_
    show Steps p.tables e below (T4.setTop (mkF m 186 #[.val (.int i0), .val (.long i1), .second, .val (.int (1 : Int32)), .val (.ref w_RESULTS), .val (.long (25000 : Int64)), .second, .val (.int (1 : Int32)), .val (.int (1 : Int32)), .val (.int (1 : Int32))] [])) _
    refine XS.iload X4.here hx rfl (hb hby at_186) rfl ?_
    show Steps p.tables e below (T4.setTop (mkF m 188 #[.val (.int i0), .val (.long i1), .second, .val (.int (1 : Int32)), .val (.ref w_RESULTS), .val (.long (25000 : Int64)), .second, .val (.int (1 : Int32)), .val (.int (1 : Int32)), .val (.int (1 : Int32))] [(.int (1 : Int32))])) _
    refine XS.ifNo X4.here hx rfl (hb hby at_188) rfl ((if0 _ _).trans (feq (by decide +kernel : ¬ ((1 : Int32) = (0 : Int32)))).1) ?_
    show Steps p.tables e below (T4.setTop (mkF m 191 #[.val (.int i0), .val (.long i1), .second, .val (.int (1 : Int32)), .val (.ref w_RESULTS), .val (.long (25000 : Int64)), .second, .val (.int (1 : Int32)), .val (.int (1 : Int32)), .val (.int (1 : Int32))] [])) _
    refine XS.iload X4.here hx rfl (hb hby at_191) rfl ?_
    show Steps p.tables e below (T4.setTop (mkF m 193 #[.val (.int i0), .val (.long i1), .second, .val (.int (1 : Int32)), .val (.ref w_RESULTS), .val (.long (25000 : Int64)), .second, .val (.int (1 : Int32)), .val (.int (1 : Int32)), .val (.int (1 : Int32))] [(.int (1 : Int32))])) _
    refine XS.ifNo X4.here hx rfl (hb hby at_193) rfl ((if0 _ _).trans (feq (by decide +kernel : ¬ ((1 : Int32) = (0 : Int32)))).1) ?_
    show Steps p.tables e below (T4.setTop (mkF m 196 #[.val (.int i0), .val (.long i1), .second, .val (.int (1 : Int32)), .val (.ref w_RESULTS), .val (.long (25000 : Int64)), .second, .val (.int (1 : Int32)), .val (.int (1 : Int32)), .val (.int (1 : Int32))] [])) _
    refine XS.iconst X4.here hx rfl (hb hby at_196) ?_
    show Steps p.tables e below (T4.setTop (mkF m 197 #[.val (.int i0), .val (.long i1), .second, .val (.int (1 : Int32)), .val (.ref w_RESULTS), .val (.long (25000 : Int64)), .second, .val (.int (1 : Int32)), .val (.int (1 : Int32)), .val (.int (1 : Int32))] [(.int (1 : Int32))])) _
    refine XS.goto X4.here hx rfl (pc0 := 197) (pc' := 201) rfl (hb hby at_197) (by decide) (by decide) ?_
    show Steps p.tables e below (T4.setTop (mkF m 201 #[.val (.int i0), .val (.long i1), .second, .val (.int (1 : Int32)), .val (.ref w_RESULTS), .val (.long (25000 : Int64)), .second, .val (.int (1 : Int32)), .val (.int (1 : Int32)), .val (.int (1 : Int32))] [(.int (1 : Int32))])) _
    exact retN X4 hx (t := .boolean) Bd.returns (by simp) (hb hby at_201) hr
  · exact ⟨rfl, N4, e4⟩
set_option maxRecDepth 65536 in
set_option maxHeartbeats 40000000 in
theorem rm1_8 (l : Launch) (Z : State) (a0 : Array Value) (hw : ∀ d ∈ tables_1, d.before a0 Z = true) (ws : List Jvm.Cond) (w_RUNS w_RESULTS w_LOCATIONS w_THREAD_FLOW_LOCATIONS w_RULES w_EXTENSIONS w_TAGS : Addr) (i0 : Int32) (i1 : Int64) (h0 : Heap) (n0 : Nat) (Z0 : n0 ≤ h0.size) (C : Ctx Z h0 w_RUNS w_RESULTS w_LOCATIONS w_THREAD_FLOW_LOCATIONS w_RULES w_EXTENSIONS w_TAGS) (hv0 : ((i0 &&& (2147483647 : Int32)) % (7 : Int32)) = (2 : Int32)) (hv1 : (0 : Int32) < (lcmpW i1 (25000 : Int64))) :
    MetFree l (⟨"com/example/verdictlint/verdictlint/sarif/Cap", "dropsSomeOf", "(J)Z"⟩ : MethodName) (head1 (Jvm.Cond.code (⟨"com/example/verdictlint/verdictlint/sarif/Cap", "dropsSomeOf", "(J)Z"⟩ : MethodName) prog_26_method_8_code 3 (some .boolean) :: ws) ({ frames := 0, cells := 0, slots := 0, locals := 0 } : Room)) (fun a U => a = #[(.ref w_RULES), (.long i1)] ∧ Z.Warmed39 U.vm ∧ U.heap = h0) (fun _ _ _ _ _ => True) (fun _ U o U' => ∃ v L, o = .returned v ∧ QR h0 n0 (some (.int (1 : Int32))) v U'.heap L ∧ FrameEnd U o U' L ({ frames := 0, cells := 0, slots := 0, locals := 0 } : Room).cells ({ frames := 0, cells := 0, slots := 0, locals := 0 } : Room).slots) := by
  have F_RULES_kept := C.2.2.2.2.2.2.2.2.2.2.2.2.2.2.1
  refine MetFree.of_bodySF (plainFor_of_name pn_1) hisR ?_
  intro p e s m args below meth c s₁ Bd hml0 hP hK
  obtain ⟨rfl, hZ, hh⟩ := hP
  have hx := Bd.exec
  have hby := Bd.bytes
  have hml : c.maxLocals = 3 := hml0
  have hown : s.vm.findClass "com/example/verdictlint/verdictlint/sarif/Cap" = some m.cls := findClass_of_methodNamed Bd.named
  have hnm := (name_of_methodNamed Bd.named Bd.method).1
  have X0 : Stand p l e ({ frames := 0, cells := 0, slots := 0, locals := 0 } : Room) s m #[(.ref w_RULES), (.long i1)] below meth c s₁ [] 0 0 := Stand.of_body Bd
  have e0 : s₁.heap = h0 := by rw [← hh, Bd.state]; rfl
  have N0 := Fr.nil n0
  have pre0 : ∀ t, Steps p.tables e below (s₁.setTop (mkF m 0 #[.val (.ref w_RULES), .val (.long i1), .second] [])) t → Steps p.tables e below (s₁.setTop (entryFrame m #[(.ref w_RULES), (.long i1)] 3)) t := fun t k => castTop (ef_1 m w_RULES i1) k
  obtain ⟨T1, X1, e1, st1⟩ := getF X0 hx hZ hown (host := "") (Or.inl (hw _ (List.mem_of_getElem? (i := 10) rfl))) Via.refl e0 F_RULES_kept (g := (mkF m 2 #[.val (.ref w_RULES), .val (.long i1), .second] [(.ref w_RULES), (.long i1)])) rfl rfl (hb hby d1_2)
  obtain ⟨fs, hr, hrun, hended, hW, hsame⟩ := X1.leave (v := (some (.int (1 : Int32)))) (fun h => by rw [Bd.returns] at h; cases h)
  refine ⟨_, _, pre0 _ ?_, hrun, hended, _, _, rfl, ?_, ⟨_, rfl⟩, hW, hsame.mono (by decide) (by decide)⟩
  · show Steps p.tables e below (s₁.setTop (mkF m 0 #[.val (.ref w_RULES), .val (.long i1), .second] [])) _
    refine XS.lloadN X0.here hx rfl (hb hby d1_0) rfl ?_
    show Steps p.tables e below (s₁.setTop (mkF m 1 #[.val (.ref w_RULES), .val (.long i1), .second] [(.long i1)])) _
    refine XS.aloadN X0.here hx rfl (hb hby d1_1) rfl rfl ?_
    show Steps p.tables e below (s₁.setTop (mkF m 2 #[.val (.ref w_RULES), .val (.long i1), .second] [(.ref w_RULES), (.long i1)])) _
    refine st1 _ ?_
    show Steps p.tables e below (T1.setTop (mkF m 5 #[.val (.ref w_RULES), .val (.long i1), .second] [(.long (25000 : Int64)), (.long i1)])) _
    refine XS.lcmp X1.here hx rfl (hb hby d1_5) rfl ?_
    show Steps p.tables e below (T1.setTop (mkF m 6 #[.val (.ref w_RULES), .val (.long i1), .second] [(.int (lcmpW i1 (25000 : Int64)))])) _
    refine XS.ifNo X1.here hx rfl (hb hby d1_6) rfl ((if0 _ _).trans (tlt hv1).2.2.2) ?_
    show Steps p.tables e below (T1.setTop (mkF m 9 #[.val (.ref w_RULES), .val (.long i1), .second] [])) _
    refine XS.iconst X1.here hx rfl (hb hby d1_9) ?_
    show Steps p.tables e below (T1.setTop (mkF m 10 #[.val (.ref w_RULES), .val (.long i1), .second] [(.int (1 : Int32))])) _
    refine XS.goto X1.here hx rfl (pc0 := 10) (pc' := 14) rfl (hb hby d1_10) (by decide) (by decide) ?_
    show Steps p.tables e below (T1.setTop (mkF m 14 #[.val (.ref w_RULES), .val (.long i1), .second] [(.int (1 : Int32))])) _
    exact retN X1 hx (t := .boolean) Bd.returns (by simp) (hb hby d1_14) hr
  · exact ⟨rfl, N0, e1⟩
set_option maxRecDepth 65536 in
set_option maxHeartbeats 40000000 in
theorem rm1_9 (l : Launch) (Z : State) (a0 : Array Value) (hw : ∀ d ∈ tables_1, d.before a0 Z = true) (ws : List Jvm.Cond) (w_RUNS w_RESULTS w_LOCATIONS w_THREAD_FLOW_LOCATIONS w_RULES w_EXTENSIONS w_TAGS : Addr) (h0 : Heap) (n0 : Nat) (Z0 : n0 ≤ h0.size) (C : Ctx Z h0 w_RUNS w_RESULTS w_LOCATIONS w_THREAD_FLOW_LOCATIONS w_RULES w_EXTENSIONS w_TAGS)  :
    MetFree l (⟨"com/example/verdictlint/verdictlint/sarif/Cap", "dropsSomeOf", "(J)Z"⟩ : MethodName) (head1 (Jvm.Cond.code (⟨"com/example/verdictlint/verdictlint/sarif/Cap", "dropsSomeOf", "(J)Z"⟩ : MethodName) prog_26_method_8_code 3 (some .boolean) :: ws) ({ frames := 0, cells := 0, slots := 0, locals := 0 } : Room)) (fun a U => a = #[(.ref w_RULES), (.long (25000 : Int64))] ∧ Z.Warmed39 U.vm ∧ U.heap = h0) (fun _ _ _ _ _ => True) (fun _ U o U' => ∃ v L, o = .returned v ∧ QR h0 n0 (some (.int (0 : Int32))) v U'.heap L ∧ FrameEnd U o U' L ({ frames := 0, cells := 0, slots := 0, locals := 0 } : Room).cells ({ frames := 0, cells := 0, slots := 0, locals := 0 } : Room).slots) := by
  have F_RULES_kept := C.2.2.2.2.2.2.2.2.2.2.2.2.2.2.1
  refine MetFree.of_bodySF (plainFor_of_name pn_1) hisR ?_
  intro p e s m args below meth c s₁ Bd hml0 hP hK
  obtain ⟨rfl, hZ, hh⟩ := hP
  have hx := Bd.exec
  have hby := Bd.bytes
  have hml : c.maxLocals = 3 := hml0
  have hown : s.vm.findClass "com/example/verdictlint/verdictlint/sarif/Cap" = some m.cls := findClass_of_methodNamed Bd.named
  have hnm := (name_of_methodNamed Bd.named Bd.method).1
  have X0 : Stand p l e ({ frames := 0, cells := 0, slots := 0, locals := 0 } : Room) s m #[(.ref w_RULES), (.long (25000 : Int64))] below meth c s₁ [] 0 0 := Stand.of_body Bd
  have e0 : s₁.heap = h0 := by rw [← hh, Bd.state]; rfl
  have N0 := Fr.nil n0
  have pre0 : ∀ t, Steps p.tables e below (s₁.setTop (mkF m 0 #[.val (.ref w_RULES), .val (.long (25000 : Int64)), .second] [])) t → Steps p.tables e below (s₁.setTop (entryFrame m #[(.ref w_RULES), (.long (25000 : Int64))] 3)) t := fun t k => castTop (ef_1 m w_RULES (25000 : Int64)) k
  obtain ⟨T1, X1, e1, st1⟩ := getF X0 hx hZ hown (host := "") (Or.inl (hw _ (List.mem_of_getElem? (i := 10) rfl))) Via.refl e0 F_RULES_kept (g := (mkF m 2 #[.val (.ref w_RULES), .val (.long (25000 : Int64)), .second] [(.ref w_RULES), (.long (25000 : Int64))])) rfl rfl (hb hby d1_2)
  obtain ⟨fs, hr, hrun, hended, hW, hsame⟩ := X1.leave (v := (some (.int (0 : Int32)))) (fun h => by rw [Bd.returns] at h; cases h)
  refine ⟨_, _, pre0 _ ?_, hrun, hended, _, _, rfl, ?_, ⟨_, rfl⟩, hW, hsame.mono (by decide) (by decide)⟩
  · show Steps p.tables e below (s₁.setTop (mkF m 0 #[.val (.ref w_RULES), .val (.long (25000 : Int64)), .second] [])) _
    refine XS.lloadN X0.here hx rfl (hb hby d1_0) rfl ?_
    show Steps p.tables e below (s₁.setTop (mkF m 1 #[.val (.ref w_RULES), .val (.long (25000 : Int64)), .second] [(.long (25000 : Int64))])) _
    refine XS.aloadN X0.here hx rfl (hb hby d1_1) rfl rfl ?_
    show Steps p.tables e below (s₁.setTop (mkF m 2 #[.val (.ref w_RULES), .val (.long (25000 : Int64)), .second] [(.ref w_RULES), (.long (25000 : Int64))])) _
    refine st1 _ ?_
    show Steps p.tables e below (T1.setTop (mkF m 5 #[.val (.ref w_RULES), .val (.long (25000 : Int64)), .second] [(.long (25000 : Int64)), (.long (25000 : Int64))])) _
    refine XS.lcmp X1.here hx rfl (hb hby d1_5) rfl ?_
    show Steps p.tables e below (T1.setTop (mkF m 6 #[.val (.ref w_RULES), .val (.long (25000 : Int64)), .second] [(.int (lcmpW (25000 : Int64) (25000 : Int64)))])) _
    rw [show (lcmpW (25000 : Int64) (25000 : Int64)) = (0 : Int32) from by decide +kernel]
    show Steps p.tables e below (T1.setTop (mkF m 6 #[.val (.ref w_RULES), .val (.long (25000 : Int64)), .second] [(.int (0 : Int32))])) _
    refine XS.ifYes X1.here hx rfl (pc0 := 6) (pc' := 13) rfl (hb hby d1_6) rfl ((if0 _ _).trans (flt (by decide +kernel : ¬ ((0 : Int32) < (0 : Int32)))).2.2.2) (by decide) (by decide) ?_
    show Steps p.tables e below (T1.setTop (mkF m 13 #[.val (.ref w_RULES), .val (.long (25000 : Int64)), .second] [])) _
    refine XS.iconst X1.here hx rfl (hb hby d1_13) ?_
    show Steps p.tables e below (T1.setTop (mkF m 14 #[.val (.ref w_RULES), .val (.long (25000 : Int64)), .second] [(.int (0 : Int32))])) _
    exact retN X1 hx (t := .boolean) Bd.returns (by simp) (hb hby d1_14) hr
  · exact ⟨rfl, N0, e1⟩
set_option maxRecDepth 65536 in
set_option maxHeartbeats 40000000 in
theorem rm1_10 (l : Launch) (Z : State) (a0 : Array Value) (hw : ∀ d ∈ tables_1, d.before a0 Z = true) (ws : List Jvm.Cond) (w_RUNS w_RESULTS w_LOCATIONS w_THREAD_FLOW_LOCATIONS w_RULES w_EXTENSIONS w_TAGS : Addr) (h0 : Heap) (n0 : Nat) (Z0 : n0 ≤ h0.size) (C : Ctx Z h0 w_RUNS w_RESULTS w_LOCATIONS w_THREAD_FLOW_LOCATIONS w_RULES w_EXTENSIONS w_TAGS)  :
    MetFree l (⟨"com/example/verdictlint/verdictlint/sarif/Cap", "dropsSomeOf", "(J)Z"⟩ : MethodName) (head1 (Jvm.Cond.code (⟨"com/example/verdictlint/verdictlint/sarif/Cap", "dropsSomeOf", "(J)Z"⟩ : MethodName) prog_26_method_8_code 3 (some .boolean) :: ws) ({ frames := 0, cells := 0, slots := 0, locals := 0 } : Room)) (fun a U => a = #[(.ref w_RULES), (.long (25001 : Int64))] ∧ Z.Warmed39 U.vm ∧ U.heap = h0) (fun _ _ _ _ _ => True) (fun _ U o U' => ∃ v L, o = .returned v ∧ QR h0 n0 (some (.int (1 : Int32))) v U'.heap L ∧ FrameEnd U o U' L ({ frames := 0, cells := 0, slots := 0, locals := 0 } : Room).cells ({ frames := 0, cells := 0, slots := 0, locals := 0 } : Room).slots) := by
  have F_RULES_kept := C.2.2.2.2.2.2.2.2.2.2.2.2.2.2.1
  refine MetFree.of_bodySF (plainFor_of_name pn_1) hisR ?_
  intro p e s m args below meth c s₁ Bd hml0 hP hK
  obtain ⟨rfl, hZ, hh⟩ := hP
  have hx := Bd.exec
  have hby := Bd.bytes
  have hml : c.maxLocals = 3 := hml0
  have hown : s.vm.findClass "com/example/verdictlint/verdictlint/sarif/Cap" = some m.cls := findClass_of_methodNamed Bd.named
  have hnm := (name_of_methodNamed Bd.named Bd.method).1
  have X0 : Stand p l e ({ frames := 0, cells := 0, slots := 0, locals := 0 } : Room) s m #[(.ref w_RULES), (.long (25001 : Int64))] below meth c s₁ [] 0 0 := Stand.of_body Bd
  have e0 : s₁.heap = h0 := by rw [← hh, Bd.state]; rfl
  have N0 := Fr.nil n0
  have pre0 : ∀ t, Steps p.tables e below (s₁.setTop (mkF m 0 #[.val (.ref w_RULES), .val (.long (25001 : Int64)), .second] [])) t → Steps p.tables e below (s₁.setTop (entryFrame m #[(.ref w_RULES), (.long (25001 : Int64))] 3)) t := fun t k => castTop (ef_1 m w_RULES (25001 : Int64)) k
  obtain ⟨T1, X1, e1, st1⟩ := getF X0 hx hZ hown (host := "") (Or.inl (hw _ (List.mem_of_getElem? (i := 10) rfl))) Via.refl e0 F_RULES_kept (g := (mkF m 2 #[.val (.ref w_RULES), .val (.long (25001 : Int64)), .second] [(.ref w_RULES), (.long (25001 : Int64))])) rfl rfl (hb hby d1_2)
  obtain ⟨fs, hr, hrun, hended, hW, hsame⟩ := X1.leave (v := (some (.int (1 : Int32)))) (fun h => by rw [Bd.returns] at h; cases h)
  refine ⟨_, _, pre0 _ ?_, hrun, hended, _, _, rfl, ?_, ⟨_, rfl⟩, hW, hsame.mono (by decide) (by decide)⟩
  · show Steps p.tables e below (s₁.setTop (mkF m 0 #[.val (.ref w_RULES), .val (.long (25001 : Int64)), .second] [])) _
    refine XS.lloadN X0.here hx rfl (hb hby d1_0) rfl ?_
    show Steps p.tables e below (s₁.setTop (mkF m 1 #[.val (.ref w_RULES), .val (.long (25001 : Int64)), .second] [(.long (25001 : Int64))])) _
    refine XS.aloadN X0.here hx rfl (hb hby d1_1) rfl rfl ?_
    show Steps p.tables e below (s₁.setTop (mkF m 2 #[.val (.ref w_RULES), .val (.long (25001 : Int64)), .second] [(.ref w_RULES), (.long (25001 : Int64))])) _
    refine st1 _ ?_
    show Steps p.tables e below (T1.setTop (mkF m 5 #[.val (.ref w_RULES), .val (.long (25001 : Int64)), .second] [(.long (25000 : Int64)), (.long (25001 : Int64))])) _
    refine XS.lcmp X1.here hx rfl (hb hby d1_5) rfl ?_
    show Steps p.tables e below (T1.setTop (mkF m 6 #[.val (.ref w_RULES), .val (.long (25001 : Int64)), .second] [(.int (lcmpW (25001 : Int64) (25000 : Int64)))])) _
    rw [show (lcmpW (25001 : Int64) (25000 : Int64)) = (1 : Int32) from by decide +kernel]
    show Steps p.tables e below (T1.setTop (mkF m 6 #[.val (.ref w_RULES), .val (.long (25001 : Int64)), .second] [(.int (1 : Int32))])) _
    refine XS.ifNo X1.here hx rfl (hb hby d1_6) rfl ((if0 _ _).trans (tlt (by decide +kernel : (0 : Int32) < (1 : Int32))).2.2.2) ?_
    show Steps p.tables e below (T1.setTop (mkF m 9 #[.val (.ref w_RULES), .val (.long (25001 : Int64)), .second] [])) _
    refine XS.iconst X1.here hx rfl (hb hby d1_9) ?_
    show Steps p.tables e below (T1.setTop (mkF m 10 #[.val (.ref w_RULES), .val (.long (25001 : Int64)), .second] [(.int (1 : Int32))])) _
    refine XS.goto X1.here hx rfl (pc0 := 10) (pc' := 14) rfl (hb hby d1_10) (by decide) (by decide) ?_
    show Steps p.tables e below (T1.setTop (mkF m 14 #[.val (.ref w_RULES), .val (.long (25001 : Int64)), .second] [(.int (1 : Int32))])) _
    exact retN X1 hx (t := .boolean) Bd.returns (by simp) (hb hby d1_14) hr
  · exact ⟨rfl, N0, e1⟩
set_option maxRecDepth 65536 in
set_option maxHeartbeats 40000000 in
theorem rm0_4 (l : Launch) (Z : State) (a0 : Array Value) (hw : ∀ d ∈ tables_1, d.before a0 Z = true) (ws : List Jvm.Cond) (w_RUNS w_RESULTS w_LOCATIONS w_THREAD_FLOW_LOCATIONS w_RULES w_EXTENSIONS w_TAGS : Addr) (i0 : Int32) (i1 : Int64) (h0 : Heap) (n0 : Nat) (Z0 : n0 ≤ h0.size) (C : Ctx Z h0 w_RUNS w_RESULTS w_LOCATIONS w_THREAD_FLOW_LOCATIONS w_RULES w_EXTENSIONS w_TAGS) (hv0 : ((i0 &&& (2147483647 : Int32)) % (7 : Int32)) = (2 : Int32)) (hv1 : (0 : Int32) < (lcmpW i1 (25000 : Int64))) :
    MetFree l x (head1 (Jvm.Cond.code x code maxLocals ret :: ws) room_1) (fun a U => a = #[(.int i0), (.long i1)] ∧ Z.Warmed39 U.vm ∧ U.heap = h0) (fun _ _ _ _ _ => True) (fun _ U o U' => ∃ v L, o = .returned v ∧ QR h0 n0 (some (.int (1 : Int32))) v U'.heap L ∧ FrameEnd U o U' L room_1.cells room_1.slots) := by
  have S_RULES := C.2.2.2.2.2.2.2.2.2.2.2.2.1
  have E_RULES := C.2.2.2.2.2.2.2.2.2.2.2.2.2.1
  refine MetFree.of_bodySF (plainFor_of_name pn_0) hisR ?_
  intro p e s m args below meth c s₁ Bd hml0 hP hK
  obtain ⟨rfl, hZ, hh⟩ := hP
  have hx := Bd.exec
  have hby := Bd.bytes
  have hml : c.maxLocals = 10 := hml0
  have hown : s.vm.findClass "com/example/verdictlint/verdictlint/sarif/CapDropsSomeOfPinLaw" = some m.cls := findClass_of_methodNamed Bd.named
  have hnm := (name_of_methodNamed Bd.named Bd.method).1
  have X0 : Stand p l e room_1 s m #[(.int i0), (.long i1)] below meth c s₁ [] 0 0 := Stand.of_body Bd
  have e0 : s₁.heap = h0 := by rw [← hh, Bd.state]; rfl
  have N0 := Fr.nil n0
  have pre0 : ∀ t, Steps p.tables e below (s₁.setTop (mkF m 0 #[.val (.int i0), .val (.long i1), .second, .unset, .unset, .unset, .unset, .unset, .unset, .unset] [])) t → Steps p.tables e below (s₁.setTop (entryFrame m #[(.int i0), (.long i1)] maxLocals)) t := fun t k => castTop (ef_0 m i0 i1) k
  obtain ⟨T1, X1, e1, st1⟩ := getS2 X0 hx hZ hown (host := "") (Or.inl (hw _ (List.mem_of_getElem? (i := 21) rfl))) Via.refl e0 S_RULES (g := (mkF m 48 #[.val (.int i0), .val (.long i1), .second, .val (.int (2 : Int32)), .unset, .unset, .unset, .unset, .unset, .unset] [])) rfl (hb hby at_48)
  obtain ⟨cq2, kq2, q2a, q2b, q2c⟩ := isOf hZ e1 E_RULES
  obtain ⟨_, _, ⟨T2, L2, k2, n2⟩, -, X2, ⟨Lc2, hQ2, l2, y2, z2⟩, st2⟩ := X1.virtualBack hx (y := (⟨"com/example/verdictlint/verdictlint/sarif/Cap", "dropsSomeOf", "(J)Z"⟩ : MethodName)) (z := (⟨"com/example/verdictlint/verdictlint/sarif/Cap", "dropsSomeOf", "(J)Z"⟩ : MethodName)) hown (mvT hZ (hw _ (List.mem_of_getElem? (i := 5) rfl))) (mvT hZ (hw _ (List.mem_of_getElem? (i := 6) rfl))) (notFace_of_selects (args := #[]) (mvT hZ (hw _ (List.mem_of_getElem? (i := 8) rfl)))) (mvT hZ (hw _ (List.mem_of_getElem? (i := 8) rfl))) (mvT hZ (hw _ (List.mem_of_getElem? (i := 7) rfl))) (by decide) (backOf (W := 0) (rm1_8 l Z a0 hw [] w_RUNS w_RESULTS w_LOCATIONS w_THREAD_FLOW_LOCATIONS w_RULES w_EXTENSIONS w_TAGS i0 i1 h0 n0 Z0 C hv0 hv1) hZ (hw _ (List.mem_of_getElem? (i := 9) rfl)) (hw _ (List.mem_of_getElem? (i := 2) rfl)) (by decide) (by decide)) q2a q2c (g := (mkF m 128 #[.val (.int i0), .val (.long i1), .second, .val (.int (2 : Int32)), .val (.ref w_RULES), .val (.long (25000 : Int64)), .second, .unset, .unset, .unset] [(.long i1), (.ref w_RULES)])) rfl (by rw [hml]; rfl) (Steps.refl _) (argsL := [(.long i1)]) (rest := []) (lenOf pd_0 rfl) rfl (by show 2 * 0 + _ ≤ _; exact Nat.le_of_eq rfl) (hb hby at_128) (fun _ _ => ⟨rfl, e1, (by decide : 0 + 0 ≤ _), (by decide : 0 + 0 ≤ _)⟩)
  dsimp only [Pt.U, Pt.locs, Pt.cells, Pt.slots] at X2 l2 y2 z2 st2 hQ2
  subst l2 y2 z2
  obtain ⟨rfl, N2q, e2⟩ := hQ2
  have N2 := Fr.app N0 N2q
  obtain ⟨cq3, kq3, q3a, q3b, q3c⟩ := isOf hZ e2 E_RULES
  obtain ⟨_, _, ⟨T3, L3, k3, n3⟩, -, X3, ⟨Lc3, hQ3, l3, y3, z3⟩, st3⟩ := X2.virtualBack hx (y := (⟨"com/example/verdictlint/verdictlint/sarif/Cap", "dropsSomeOf", "(J)Z"⟩ : MethodName)) (z := (⟨"com/example/verdictlint/verdictlint/sarif/Cap", "dropsSomeOf", "(J)Z"⟩ : MethodName)) hown (mvT hZ (hw _ (List.mem_of_getElem? (i := 5) rfl))) (mvT hZ (hw _ (List.mem_of_getElem? (i := 6) rfl))) (notFace_of_selects (args := #[]) (mvT hZ (hw _ (List.mem_of_getElem? (i := 8) rfl)))) (mvT hZ (hw _ (List.mem_of_getElem? (i := 8) rfl))) (mvT hZ (hw _ (List.mem_of_getElem? (i := 7) rfl))) (by decide) (backOf (W := 0) (rm1_9 l Z a0 hw [] w_RUNS w_RESULTS w_LOCATIONS w_THREAD_FLOW_LOCATIONS w_RULES w_EXTENSIONS w_TAGS  h0 n0 Z0 C ) hZ (hw _ (List.mem_of_getElem? (i := 9) rfl)) (hw _ (List.mem_of_getElem? (i := 2) rfl)) (by decide) (by decide)) q3a q3c (g := (mkF m 157 #[.val (.int i0), .val (.long i1), .second, .val (.int (2 : Int32)), .val (.ref w_RULES), .val (.long (25000 : Int64)), .second, .val (.int (1 : Int32)), .unset, .unset] [(.long (25000 : Int64)), (.ref w_RULES)])) rfl (by rw [hml]; rfl) (Steps.refl _) (argsL := [(.long (25000 : Int64))]) (rest := []) (lenOf pd_0 rfl) rfl (by show 2 * 0 + _ ≤ _; exact Nat.le_of_eq rfl) (hb hby at_157) (fun _ _ => ⟨rfl, e2, (by decide : 0 + 0 ≤ _), (by decide : 0 + 0 ≤ _)⟩)
  dsimp only [Pt.U, Pt.locs, Pt.cells, Pt.slots] at X3 l3 y3 z3 st3 hQ3
  subst l3 y3 z3
  obtain ⟨rfl, N3q, e3⟩ := hQ3
  have N3 := Fr.app N2 N3q
  obtain ⟨cq4, kq4, q4a, q4b, q4c⟩ := isOf hZ e3 E_RULES
  obtain ⟨_, _, ⟨T4, L4, k4, n4⟩, -, X4, ⟨Lc4, hQ4, l4, y4, z4⟩, st4⟩ := X3.virtualBack hx (y := (⟨"com/example/verdictlint/verdictlint/sarif/Cap", "dropsSomeOf", "(J)Z"⟩ : MethodName)) (z := (⟨"com/example/verdictlint/verdictlint/sarif/Cap", "dropsSomeOf", "(J)Z"⟩ : MethodName)) hown (mvT hZ (hw _ (List.mem_of_getElem? (i := 5) rfl))) (mvT hZ (hw _ (List.mem_of_getElem? (i := 6) rfl))) (notFace_of_selects (args := #[]) (mvT hZ (hw _ (List.mem_of_getElem? (i := 8) rfl)))) (mvT hZ (hw _ (List.mem_of_getElem? (i := 8) rfl))) (mvT hZ (hw _ (List.mem_of_getElem? (i := 7) rfl))) (by decide) (backOf (W := 0) (rm1_10 l Z a0 hw [] w_RUNS w_RESULTS w_LOCATIONS w_THREAD_FLOW_LOCATIONS w_RULES w_EXTENSIONS w_TAGS  h0 n0 Z0 C ) hZ (hw _ (List.mem_of_getElem? (i := 9) rfl)) (hw _ (List.mem_of_getElem? (i := 2) rfl)) (by decide) (by decide)) q4a q4c (g := (mkF m 176 #[.val (.int i0), .val (.long i1), .second, .val (.int (2 : Int32)), .val (.ref w_RULES), .val (.long (25000 : Int64)), .second, .val (.int (1 : Int32)), .val (.int (1 : Int32)), .unset] [(.long (25001 : Int64)), (.ref w_RULES)])) rfl (by rw [hml]; rfl) (Steps.refl _) (argsL := [(.long (25001 : Int64))]) (rest := []) (lenOf pd_0 rfl) rfl (by show 2 * 0 + _ ≤ _; exact Nat.le_of_eq rfl) (hb hby at_176) (fun _ _ => ⟨rfl, e3, (by decide : 0 + 0 ≤ _), (by decide : 0 + 0 ≤ _)⟩)
  dsimp only [Pt.U, Pt.locs, Pt.cells, Pt.slots] at X4 l4 y4 z4 st4 hQ4
  subst l4 y4 z4
  obtain ⟨rfl, N4q, e4⟩ := hQ4
  have N4 := Fr.app N3 N4q
  obtain ⟨fs, hr, hrun, hended, hW, hsame⟩ := X4.leave (v := (some (.int (1 : Int32)))) (fun h => by rw [Bd.returns] at h; cases h)
  refine ⟨_, _, pre0 _ ?_, hrun, hended, _, _, rfl, ?_, ⟨_, rfl⟩, hW, hsame.mono (by decide) (by decide)⟩
  · show Steps p.tables e below (s₁.setTop (mkF m 0 #[.val (.int i0), .val (.long i1), .second, .unset, .unset, .unset, .unset, .unset, .unset, .unset] [])) _
    refine XS.iloadN X0.here hx rfl (hb hby at_0) rfl ?_
    show Steps p.tables e below (s₁.setTop (mkF m 1 #[.val (.int i0), .val (.long i1), .second, .unset, .unset, .unset, .unset, .unset, .unset, .unset] [(.int i0)])) _
    refine X0.ldcInt hx hown (mvT hZ (hw _ (List.mem_of_getElem? (i := 0) rfl))) (g := (mkF m 1 #[.val (.int i0), .val (.long i1), .second, .unset, .unset, .unset, .unset, .unset, .unset, .unset] [(.int i0)])) rfl (hb hby at_1) _ ?_
    show Steps p.tables e below (s₁.setTop (mkF m 3 #[.val (.int i0), .val (.long i1), .second, .unset, .unset, .unset, .unset, .unset, .unset, .unset] [(.int (2147483647 : Int32)), (.int i0)])) _
    refine XS.iand X0.here hx rfl (hb hby at_3) rfl ?_
    show Steps p.tables e below (s₁.setTop (mkF m 4 #[.val (.int i0), .val (.long i1), .second, .unset, .unset, .unset, .unset, .unset, .unset, .unset] [(.int (i0 &&& (2147483647 : Int32)))])) _
    refine XS.bipush X0.here hx rfl (hb hby at_4) ?_
    show Steps p.tables e below (s₁.setTop (mkF m 6 #[.val (.int i0), .val (.long i1), .second, .unset, .unset, .unset, .unset, .unset, .unset, .unset] [(.int (7 : Int32)), (.int (i0 &&& (2147483647 : Int32)))])) _
    refine iremM (g := (mkF m 6 #[.val (.int i0), .val (.long i1), .second, .unset, .unset, .unset, .unset, .unset, .unset, .unset] [(.int (7 : Int32)), (.int (i0 &&& (2147483647 : Int32)))])) X0 hx rfl (hb hby at_6) rfl (by decide) ?_
    show Steps p.tables e below (s₁.setTop (mkF m 7 #[.val (.int i0), .val (.long i1), .second, .unset, .unset, .unset, .unset, .unset, .unset, .unset] [(.int ((i0 &&& (2147483647 : Int32)) % (7 : Int32)))])) _
    rw [hv0]
    show Steps p.tables e below (s₁.setTop (mkF m 7 #[.val (.int i0), .val (.long i1), .second, .unset, .unset, .unset, .unset, .unset, .unset, .unset] [(.int (2 : Int32))])) _
    refine XS.istoreN X0.here hx rfl (hb hby at_7) rfl (l' := #[.val (.int i0), .val (.long i1), .second, .val (.int (2 : Int32)), .unset, .unset, .unset, .unset, .unset, .unset]) rfl ?_
    show Steps p.tables e below (s₁.setTop (mkF m 8 #[.val (.int i0), .val (.long i1), .second, .val (.int (2 : Int32)), .unset, .unset, .unset, .unset, .unset, .unset] [])) _
    refine XS.iloadN X0.here hx rfl (hb hby at_8) rfl ?_
    show Steps p.tables e below (s₁.setTop (mkF m 9 #[.val (.int i0), .val (.long i1), .second, .val (.int (2 : Int32)), .unset, .unset, .unset, .unset, .unset, .unset] [(.int (2 : Int32))])) _
    refine XS.ifYes X0.here hx rfl (pc0 := 9) (pc' := 25) rfl (hb hby at_9) rfl ((if0 _ _).trans (feq (by decide +kernel : ¬ ((2 : Int32) = (0 : Int32)))).2) (by decide) (by decide) ?_
    show Steps p.tables e below (s₁.setTop (mkF m 25 #[.val (.int i0), .val (.long i1), .second, .val (.int (2 : Int32)), .unset, .unset, .unset, .unset, .unset, .unset] [])) _
    refine XS.iloadN X0.here hx rfl (hb hby at_25) rfl ?_
    show Steps p.tables e below (s₁.setTop (mkF m 26 #[.val (.int i0), .val (.long i1), .second, .val (.int (2 : Int32)), .unset, .unset, .unset, .unset, .unset, .unset] [(.int (2 : Int32))])) _
    refine XS.iconst X0.here hx rfl (hb hby at_26) ?_
    show Steps p.tables e below (s₁.setTop (mkF m 27 #[.val (.int i0), .val (.long i1), .second, .val (.int (2 : Int32)), .unset, .unset, .unset, .unset, .unset, .unset] [(.int (1 : Int32)), (.int (2 : Int32))])) _
    refine XS.icmpYes X0.here hx rfl (pc0 := 27) (pc' := 43) rfl (hb hby at_27) rfl (feq (by decide +kernel : ¬ ((2 : Int32) = (1 : Int32)))).2 (by decide) (by decide) ?_
    show Steps p.tables e below (s₁.setTop (mkF m 43 #[.val (.int i0), .val (.long i1), .second, .val (.int (2 : Int32)), .unset, .unset, .unset, .unset, .unset, .unset] [])) _
    refine XS.iloadN X0.here hx rfl (hb hby at_43) rfl ?_
    show Steps p.tables e below (s₁.setTop (mkF m 44 #[.val (.int i0), .val (.long i1), .second, .val (.int (2 : Int32)), .unset, .unset, .unset, .unset, .unset, .unset] [(.int (2 : Int32))])) _
    refine XS.iconst X0.here hx rfl (hb hby at_44) ?_
    show Steps p.tables e below (s₁.setTop (mkF m 45 #[.val (.int i0), .val (.long i1), .second, .val (.int (2 : Int32)), .unset, .unset, .unset, .unset, .unset, .unset] [(.int (2 : Int32)), (.int (2 : Int32))])) _
    refine XS.icmpNo X0.here hx rfl (hb hby at_45) rfl (teq (by decide +kernel : (2 : Int32) = (2 : Int32))).2 ?_
    show Steps p.tables e below (s₁.setTop (mkF m 48 #[.val (.int i0), .val (.long i1), .second, .val (.int (2 : Int32)), .unset, .unset, .unset, .unset, .unset, .unset] [])) _
    refine st1 _ ?_
    show Steps p.tables e below (T1.setTop (mkF m 51 #[.val (.int i0), .val (.long i1), .second, .val (.int (2 : Int32)), .unset, .unset, .unset, .unset, .unset, .unset] [(.ref w_RULES)])) _
    refine XS.astore X1.here hx rfl (hb hby at_51) rfl rfl (l' := #[.val (.int i0), .val (.long i1), .second, .val (.int (2 : Int32)), .val (.ref w_RULES), .unset, .unset, .unset, .unset, .unset]) rfl ?_
    show Steps p.tables e below (T1.setTop (mkF m 53 #[.val (.int i0), .val (.long i1), .second, .val (.int (2 : Int32)), .val (.ref w_RULES), .unset, .unset, .unset, .unset, .unset] [])) _
    refine X1.ldc2Long hx hown (mvT hZ (hw _ (List.mem_of_getElem? (i := 14) rfl))) (g := (mkF m 53 #[.val (.int i0), .val (.long i1), .second, .val (.int (2 : Int32)), .val (.ref w_RULES), .unset, .unset, .unset, .unset, .unset] [])) rfl (hb hby at_53) _ ?_
    show Steps p.tables e below (T1.setTop (mkF m 56 #[.val (.int i0), .val (.long i1), .second, .val (.int (2 : Int32)), .val (.ref w_RULES), .unset, .unset, .unset, .unset, .unset] [(.long (25000 : Int64))])) _
    refine XS.lstore X1.here hx rfl (hb hby at_56) rfl (l' := #[.val (.int i0), .val (.long i1), .second, .val (.int (2 : Int32)), .val (.ref w_RULES), .val (.long (25000 : Int64)), .second, .unset, .unset, .unset]) rfl ?_
    show Steps p.tables e below (T1.setTop (mkF m 58 #[.val (.int i0), .val (.long i1), .second, .val (.int (2 : Int32)), .val (.ref w_RULES), .val (.long (25000 : Int64)), .second, .unset, .unset, .unset] [])) _
    refine XS.goto X1.here hx rfl (pc0 := 58) (pc' := 125) rfl (hb hby at_58) (by decide) (by decide) ?_
    show Steps p.tables e below (T1.setTop (mkF m 125 #[.val (.int i0), .val (.long i1), .second, .val (.int (2 : Int32)), .val (.ref w_RULES), .val (.long (25000 : Int64)), .second, .unset, .unset, .unset] [])) _
    refine XS.aload X1.here hx rfl (hb hby at_125) rfl rfl ?_
    show Steps p.tables e below (T1.setTop (mkF m 127 #[.val (.int i0), .val (.long i1), .second, .val (.int (2 : Int32)), .val (.ref w_RULES), .val (.long (25000 : Int64)), .second, .unset, .unset, .unset] [(.ref w_RULES)])) _
    refine XS.lloadN X1.here hx rfl (hb hby at_127) rfl ?_
    show Steps p.tables e below (T1.setTop (mkF m 128 #[.val (.int i0), .val (.long i1), .second, .val (.int (2 : Int32)), .val (.ref w_RULES), .val (.long (25000 : Int64)), .second, .unset, .unset, .unset] [(.long i1), (.ref w_RULES)])) _
    refine st2.trans ?_
    show Steps p.tables e below (T2.setTop (mkF m 131 #[.val (.int i0), .val (.long i1), .second, .val (.int (2 : Int32)), .val (.ref w_RULES), .val (.long (25000 : Int64)), .second, .unset, .unset, .unset] [(.int (1 : Int32))])) _
    refine XS.lloadN X2.here hx rfl (hb hby at_131) rfl ?_
    show Steps p.tables e below (T2.setTop (mkF m 132 #[.val (.int i0), .val (.long i1), .second, .val (.int (2 : Int32)), .val (.ref w_RULES), .val (.long (25000 : Int64)), .second, .unset, .unset, .unset] [(.long i1), (.int (1 : Int32))])) _
    refine XS.lload X2.here hx rfl (hb hby at_132) rfl ?_
    show Steps p.tables e below (T2.setTop (mkF m 134 #[.val (.int i0), .val (.long i1), .second, .val (.int (2 : Int32)), .val (.ref w_RULES), .val (.long (25000 : Int64)), .second, .unset, .unset, .unset] [(.long (25000 : Int64)), (.long i1), (.int (1 : Int32))])) _
    refine XS.lcmp X2.here hx rfl (hb hby at_134) rfl ?_
    show Steps p.tables e below (T2.setTop (mkF m 135 #[.val (.int i0), .val (.long i1), .second, .val (.int (2 : Int32)), .val (.ref w_RULES), .val (.long (25000 : Int64)), .second, .unset, .unset, .unset] [(.int (lcmpW i1 (25000 : Int64))), (.int (1 : Int32))])) _
    refine XS.ifNo X2.here hx rfl (hb hby at_135) rfl ((if0 _ _).trans (tlt hv1).2.2.2) ?_
    show Steps p.tables e below (T2.setTop (mkF m 138 #[.val (.int i0), .val (.long i1), .second, .val (.int (2 : Int32)), .val (.ref w_RULES), .val (.long (25000 : Int64)), .second, .unset, .unset, .unset] [(.int (1 : Int32))])) _
    refine XS.iconst X2.here hx rfl (hb hby at_138) ?_
    show Steps p.tables e below (T2.setTop (mkF m 139 #[.val (.int i0), .val (.long i1), .second, .val (.int (2 : Int32)), .val (.ref w_RULES), .val (.long (25000 : Int64)), .second, .unset, .unset, .unset] [(.int (1 : Int32)), (.int (1 : Int32))])) _
    refine XS.goto X2.here hx rfl (pc0 := 139) (pc' := 143) rfl (hb hby at_139) (by decide) (by decide) ?_
    show Steps p.tables e below (T2.setTop (mkF m 143 #[.val (.int i0), .val (.long i1), .second, .val (.int (2 : Int32)), .val (.ref w_RULES), .val (.long (25000 : Int64)), .second, .unset, .unset, .unset] [(.int (1 : Int32)), (.int (1 : Int32))])) _
    refine XS.icmpNo X2.here hx rfl (hb hby at_143) rfl (teq (by decide +kernel : (1 : Int32) = (1 : Int32))).2 ?_
    show Steps p.tables e below (T2.setTop (mkF m 146 #[.val (.int i0), .val (.long i1), .second, .val (.int (2 : Int32)), .val (.ref w_RULES), .val (.long (25000 : Int64)), .second, .unset, .unset, .unset] [])) _
    refine XS.iconst X2.here hx rfl (hb hby at_146) ?_
    show Steps p.tables e below (T2.setTop (mkF m 147 #[.val (.int i0), .val (.long i1), .second, .val (.int (2 : Int32)), .val (.ref w_RULES), .val (.long (25000 : Int64)), .second, .unset, .unset, .unset] [(.int (1 : Int32))])) _
    refine XS.goto X2.here hx rfl (pc0 := 147) (pc' := 151) rfl (hb hby at_147) (by decide) (by decide) ?_
    show Steps p.tables e below (T2.setTop (mkF m 151 #[.val (.int i0), .val (.long i1), .second, .val (.int (2 : Int32)), .val (.ref w_RULES), .val (.long (25000 : Int64)), .second, .unset, .unset, .unset] [(.int (1 : Int32))])) _
    refine XS.istore X2.here hx rfl (hb hby at_151) rfl (l' := #[.val (.int i0), .val (.long i1), .second, .val (.int (2 : Int32)), .val (.ref w_RULES), .val (.long (25000 : Int64)), .second, .val (.int (1 : Int32)), .unset, .unset]) rfl ?_
    show Steps p.tables e below (T2.setTop (mkF m 153 #[.val (.int i0), .val (.long i1), .second, .val (.int (2 : Int32)), .val (.ref w_RULES), .val (.long (25000 : Int64)), .second, .val (.int (1 : Int32)), .unset, .unset] [])) _
    refine XS.aload X2.here hx rfl (hb hby at_153) rfl rfl ?_
    show Steps p.tables e below (T2.setTop (mkF m 155 #[.val (.int i0), .val (.long i1), .second, .val (.int (2 : Int32)), .val (.ref w_RULES), .val (.long (25000 : Int64)), .second, .val (.int (1 : Int32)), .unset, .unset] [(.ref w_RULES)])) _
    refine XS.lload X2.here hx rfl (hb hby at_155) rfl ?_
    show Steps p.tables e below (T2.setTop (mkF m 157 #[.val (.int i0), .val (.long i1), .second, .val (.int (2 : Int32)), .val (.ref w_RULES), .val (.long (25000 : Int64)), .second, .val (.int (1 : Int32)), .unset, .unset] [(.long (25000 : Int64)), (.ref w_RULES)])) _
    refine st3.trans ?_
    show Steps p.tables e below (T3.setTop (mkF m 160 #[.val (.int i0), .val (.long i1), .second, .val (.int (2 : Int32)), .val (.ref w_RULES), .val (.long (25000 : Int64)), .second, .val (.int (1 : Int32)), .unset, .unset] [(.int (0 : Int32))])) _
    refine XS.ifNo X3.here hx rfl (hb hby at_160) rfl ((if0 _ _).trans (teq (by decide +kernel : (0 : Int32) = (0 : Int32))).2) ?_
    show Steps p.tables e below (T3.setTop (mkF m 163 #[.val (.int i0), .val (.long i1), .second, .val (.int (2 : Int32)), .val (.ref w_RULES), .val (.long (25000 : Int64)), .second, .val (.int (1 : Int32)), .unset, .unset] [])) _
    refine XS.iconst X3.here hx rfl (hb hby at_163) ?_
    show Steps p.tables e below (T3.setTop (mkF m 164 #[.val (.int i0), .val (.long i1), .second, .val (.int (2 : Int32)), .val (.ref w_RULES), .val (.long (25000 : Int64)), .second, .val (.int (1 : Int32)), .unset, .unset] [(.int (1 : Int32))])) _
    refine XS.goto X3.here hx rfl (pc0 := 164) (pc' := 168) rfl (hb hby at_164) (by decide) (by decide) ?_
    show Steps p.tables e below (T3.setTop (mkF m 168 #[.val (.int i0), .val (.long i1), .second, .val (.int (2 : Int32)), .val (.ref w_RULES), .val (.long (25000 : Int64)), .second, .val (.int (1 : Int32)), .unset, .unset] [(.int (1 : Int32))])) _
    refine XS.istore X3.here hx rfl (hb hby at_168) rfl (l' := #[.val (.int i0), .val (.long i1), .second, .val (.int (2 : Int32)), .val (.ref w_RULES), .val (.long (25000 : Int64)), .second, .val (.int (1 : Int32)), .val (.int (1 : Int32)), .unset]) rfl ?_
    show Steps p.tables e below (T3.setTop (mkF m 170 #[.val (.int i0), .val (.long i1), .second, .val (.int (2 : Int32)), .val (.ref w_RULES), .val (.long (25000 : Int64)), .second, .val (.int (1 : Int32)), .val (.int (1 : Int32)), .unset] [])) _
    refine XS.aload X3.here hx rfl (hb hby at_170) rfl rfl ?_
    show Steps p.tables e below (T3.setTop (mkF m 172 #[.val (.int i0), .val (.long i1), .second, .val (.int (2 : Int32)), .val (.ref w_RULES), .val (.long (25000 : Int64)), .second, .val (.int (1 : Int32)), .val (.int (1 : Int32)), .unset] [(.ref w_RULES)])) _
    refine XS.lload X3.here hx rfl (hb hby at_172) rfl ?_
    show Steps p.tables e below (T3.setTop (mkF m 174 #[.val (.int i0), .val (.long i1), .second, .val (.int (2 : Int32)), .val (.ref w_RULES), .val (.long (25000 : Int64)), .second, .val (.int (1 : Int32)), .val (.int (1 : Int32)), .unset] [(.long (25000 : Int64)), (.ref w_RULES)])) _
    refine XS.lconst X3.here hx rfl (hb hby at_174) ?_
    show Steps p.tables e below (T3.setTop (mkF m 175 #[.val (.int i0), .val (.long i1), .second, .val (.int (2 : Int32)), .val (.ref w_RULES), .val (.long (25000 : Int64)), .second, .val (.int (1 : Int32)), .val (.int (1 : Int32)), .unset] [(.long (1 : Int64)), (.long (25000 : Int64)), (.ref w_RULES)])) _
    refine XS.ladd X3.here hx rfl (hb hby at_175) rfl ?_
    show Steps p.tables e below (T3.setTop (mkF m 176 #[.val (.int i0), .val (.long i1), .second, .val (.int (2 : Int32)), .val (.ref w_RULES), .val (.long (25000 : Int64)), .second, .val (.int (1 : Int32)), .val (.int (1 : Int32)), .unset] [(.long ((25000 : Int64) + (1 : Int64))), (.ref w_RULES)])) _
    rw [show ((25000 : Int64) + (1 : Int64)) = (25001 : Int64) from by decide +kernel]
    show Steps p.tables e below (T3.setTop (mkF m 176 #[.val (.int i0), .val (.long i1), .second, .val (.int (2 : Int32)), .val (.ref w_RULES), .val (.long (25000 : Int64)), .second, .val (.int (1 : Int32)), .val (.int (1 : Int32)), .unset] [(.long (25001 : Int64)), (.ref w_RULES)])) _
    refine st4.trans ?_
    show Steps p.tables e below (T4.setTop (mkF m 179 #[.val (.int i0), .val (.long i1), .second, .val (.int (2 : Int32)), .val (.ref w_RULES), .val (.long (25000 : Int64)), .second, .val (.int (1 : Int32)), .val (.int (1 : Int32)), .unset] [(.int (1 : Int32))])) _
    refine XS.istore X4.here hx rfl (hb hby at_179) rfl (l' := #[.val (.int i0), .val (.long i1), .second, .val (.int (2 : Int32)), .val (.ref w_RULES), .val (.long (25000 : Int64)), .second, .val (.int (1 : Int32)), .val (.int (1 : Int32)), .val (.int (1 : Int32))]) rfl ?_
    show Steps p.tables e below (T4.setTop (mkF m 181 #[.val (.int i0), .val (.long i1), .second, .val (.int (2 : Int32)), .val (.ref w_RULES), .val (.long (25000 : Int64)), .second, .val (.int (1 : Int32)), .val (.int (1 : Int32)), .val (.int (1 : Int32))] [])) _
    refine XS.iload X4.here hx rfl (hb hby at_181) rfl ?_
    show Steps p.tables e below (T4.setTop (mkF m 183 #[.val (.int i0), .val (.long i1), .second, .val (.int (2 : Int32)), .val (.ref w_RULES), .val (.long (25000 : Int64)), .second, .val (.int (1 : Int32)), .val (.int (1 : Int32)), .val (.int (1 : Int32))] [(.int (1 : Int32))])) _
    refine XS.ifNo X4.here hx rfl (hb hby at_183) rfl ((if0 _ _).trans (feq (by decide +kernel : ¬ ((1 : Int32) = (0 : Int32)))).1) ?_
    show Steps p.tables e below (T4.setTop (mkF m 186 #[.val (.int i0), .val (.long i1), .second, .val (.int (2 : Int32)), .val (.ref w_RULES), .val (.long (25000 : Int64)), .second, .val (.int (1 : Int32)), .val (.int (1 : Int32)), .val (.int (1 : Int32))] [])) _
    refine XS.iload X4.here hx rfl (hb hby at_186) rfl ?_
    show Steps p.tables e below (T4.setTop (mkF m 188 #[.val (.int i0), .val (.long i1), .second, .val (.int (2 : Int32)), .val (.ref w_RULES), .val (.long (25000 : Int64)), .second, .val (.int (1 : Int32)), .val (.int (1 : Int32)), .val (.int (1 : Int32))] [(.int (1 : Int32))])) _
    refine XS.ifNo X4.here hx rfl (hb hby at_188) rfl ((if0 _ _).trans (feq (by decide +kernel : ¬ ((1 : Int32) = (0 : Int32)))).1) ?_
    show Steps p.tables e below (T4.setTop (mkF m 191 #[.val (.int i0), .val (.long i1), .second, .val (.int (2 : Int32)), .val (.ref w_RULES), .val (.long (25000 : Int64)), .second, .val (.int (1 : Int32)), .val (.int (1 : Int32)), .val (.int (1 : Int32))] [])) _
    refine XS.iload X4.here hx rfl (hb hby at_191) rfl ?_
    show Steps p.tables e below (T4.setTop (mkF m 193 #[.val (.int i0), .val (.long i1), .second, .val (.int (2 : Int32)), .val (.ref w_RULES), .val (.long (25000 : Int64)), .second, .val (.int (1 : Int32)), .val (.int (1 : Int32)), .val (.int (1 : Int32))] [(.int (1 : Int32))])) _
    refine XS.ifNo X4.here hx rfl (hb hby at_193) rfl ((if0 _ _).trans (feq (by decide +kernel : ¬ ((1 : Int32) = (0 : Int32)))).1) ?_
    show Steps p.tables e below (T4.setTop (mkF m 196 #[.val (.int i0), .val (.long i1), .second, .val (.int (2 : Int32)), .val (.ref w_RULES), .val (.long (25000 : Int64)), .second, .val (.int (1 : Int32)), .val (.int (1 : Int32)), .val (.int (1 : Int32))] [])) _
    refine XS.iconst X4.here hx rfl (hb hby at_196) ?_
    show Steps p.tables e below (T4.setTop (mkF m 197 #[.val (.int i0), .val (.long i1), .second, .val (.int (2 : Int32)), .val (.ref w_RULES), .val (.long (25000 : Int64)), .second, .val (.int (1 : Int32)), .val (.int (1 : Int32)), .val (.int (1 : Int32))] [(.int (1 : Int32))])) _
    refine XS.goto X4.here hx rfl (pc0 := 197) (pc' := 201) rfl (hb hby at_197) (by decide) (by decide) ?_
    show Steps p.tables e below (T4.setTop (mkF m 201 #[.val (.int i0), .val (.long i1), .second, .val (.int (2 : Int32)), .val (.ref w_RULES), .val (.long (25000 : Int64)), .second, .val (.int (1 : Int32)), .val (.int (1 : Int32)), .val (.int (1 : Int32))] [(.int (1 : Int32))])) _
    exact retN X4 hx (t := .boolean) Bd.returns (by simp) (hb hby at_201) hr
  · exact ⟨rfl, N4, e4⟩
set_option maxRecDepth 65536 in
set_option maxHeartbeats 40000000 in
theorem rm1_11 (l : Launch) (Z : State) (a0 : Array Value) (hw : ∀ d ∈ tables_1, d.before a0 Z = true) (ws : List Jvm.Cond) (w_RUNS w_RESULTS w_LOCATIONS w_THREAD_FLOW_LOCATIONS w_RULES w_EXTENSIONS w_TAGS : Addr) (i0 : Int32) (i1 : Int64) (h0 : Heap) (n0 : Nat) (Z0 : n0 ≤ h0.size) (C : Ctx Z h0 w_RUNS w_RESULTS w_LOCATIONS w_THREAD_FLOW_LOCATIONS w_RULES w_EXTENSIONS w_TAGS) (hv0 : ((i0 &&& (2147483647 : Int32)) % (7 : Int32)) = (2 : Int32)) (hv1 : ¬ ((0 : Int32) < (lcmpW i1 (25000 : Int64)))) :
    MetFree l (⟨"com/example/verdictlint/verdictlint/sarif/Cap", "dropsSomeOf", "(J)Z"⟩ : MethodName) (head1 (Jvm.Cond.code (⟨"com/example/verdictlint/verdictlint/sarif/Cap", "dropsSomeOf", "(J)Z"⟩ : MethodName) prog_26_method_8_code 3 (some .boolean) :: ws) ({ frames := 0, cells := 0, slots := 0, locals := 0 } : Room)) (fun a U => a = #[(.ref w_RULES), (.long i1)] ∧ Z.Warmed39 U.vm ∧ U.heap = h0) (fun _ _ _ _ _ => True) (fun _ U o U' => ∃ v L, o = .returned v ∧ QR h0 n0 (some (.int (0 : Int32))) v U'.heap L ∧ FrameEnd U o U' L ({ frames := 0, cells := 0, slots := 0, locals := 0 } : Room).cells ({ frames := 0, cells := 0, slots := 0, locals := 0 } : Room).slots) := by
  have F_RULES_kept := C.2.2.2.2.2.2.2.2.2.2.2.2.2.2.1
  refine MetFree.of_bodySF (plainFor_of_name pn_1) hisR ?_
  intro p e s m args below meth c s₁ Bd hml0 hP hK
  obtain ⟨rfl, hZ, hh⟩ := hP
  have hx := Bd.exec
  have hby := Bd.bytes
  have hml : c.maxLocals = 3 := hml0
  have hown : s.vm.findClass "com/example/verdictlint/verdictlint/sarif/Cap" = some m.cls := findClass_of_methodNamed Bd.named
  have hnm := (name_of_methodNamed Bd.named Bd.method).1
  have X0 : Stand p l e ({ frames := 0, cells := 0, slots := 0, locals := 0 } : Room) s m #[(.ref w_RULES), (.long i1)] below meth c s₁ [] 0 0 := Stand.of_body Bd
  have e0 : s₁.heap = h0 := by rw [← hh, Bd.state]; rfl
  have N0 := Fr.nil n0
  have pre0 : ∀ t, Steps p.tables e below (s₁.setTop (mkF m 0 #[.val (.ref w_RULES), .val (.long i1), .second] [])) t → Steps p.tables e below (s₁.setTop (entryFrame m #[(.ref w_RULES), (.long i1)] 3)) t := fun t k => castTop (ef_1 m w_RULES i1) k
  obtain ⟨T1, X1, e1, st1⟩ := getF X0 hx hZ hown (host := "") (Or.inl (hw _ (List.mem_of_getElem? (i := 10) rfl))) Via.refl e0 F_RULES_kept (g := (mkF m 2 #[.val (.ref w_RULES), .val (.long i1), .second] [(.ref w_RULES), (.long i1)])) rfl rfl (hb hby d1_2)
  obtain ⟨fs, hr, hrun, hended, hW, hsame⟩ := X1.leave (v := (some (.int (0 : Int32)))) (fun h => by rw [Bd.returns] at h; cases h)
  refine ⟨_, _, pre0 _ ?_, hrun, hended, _, _, rfl, ?_, ⟨_, rfl⟩, hW, hsame.mono (by decide) (by decide)⟩
  · show Steps p.tables e below (s₁.setTop (mkF m 0 #[.val (.ref w_RULES), .val (.long i1), .second] [])) _
    refine XS.lloadN X0.here hx rfl (hb hby d1_0) rfl ?_
    show Steps p.tables e below (s₁.setTop (mkF m 1 #[.val (.ref w_RULES), .val (.long i1), .second] [(.long i1)])) _
    refine XS.aloadN X0.here hx rfl (hb hby d1_1) rfl rfl ?_
    show Steps p.tables e below (s₁.setTop (mkF m 2 #[.val (.ref w_RULES), .val (.long i1), .second] [(.ref w_RULES), (.long i1)])) _
    refine st1 _ ?_
    show Steps p.tables e below (T1.setTop (mkF m 5 #[.val (.ref w_RULES), .val (.long i1), .second] [(.long (25000 : Int64)), (.long i1)])) _
    refine XS.lcmp X1.here hx rfl (hb hby d1_5) rfl ?_
    show Steps p.tables e below (T1.setTop (mkF m 6 #[.val (.ref w_RULES), .val (.long i1), .second] [(.int (lcmpW i1 (25000 : Int64)))])) _
    refine XS.ifYes X1.here hx rfl (pc0 := 6) (pc' := 13) rfl (hb hby d1_6) rfl ((if0 _ _).trans (flt hv1).2.2.2) (by decide) (by decide) ?_
    show Steps p.tables e below (T1.setTop (mkF m 13 #[.val (.ref w_RULES), .val (.long i1), .second] [])) _
    refine XS.iconst X1.here hx rfl (hb hby d1_13) ?_
    show Steps p.tables e below (T1.setTop (mkF m 14 #[.val (.ref w_RULES), .val (.long i1), .second] [(.int (0 : Int32))])) _
    exact retN X1 hx (t := .boolean) Bd.returns (by simp) (hb hby d1_14) hr
  · exact ⟨rfl, N0, e1⟩
set_option maxRecDepth 65536 in
set_option maxHeartbeats 40000000 in
theorem rm0_5 (l : Launch) (Z : State) (a0 : Array Value) (hw : ∀ d ∈ tables_1, d.before a0 Z = true) (ws : List Jvm.Cond) (w_RUNS w_RESULTS w_LOCATIONS w_THREAD_FLOW_LOCATIONS w_RULES w_EXTENSIONS w_TAGS : Addr) (i0 : Int32) (i1 : Int64) (h0 : Heap) (n0 : Nat) (Z0 : n0 ≤ h0.size) (C : Ctx Z h0 w_RUNS w_RESULTS w_LOCATIONS w_THREAD_FLOW_LOCATIONS w_RULES w_EXTENSIONS w_TAGS) (hv0 : ((i0 &&& (2147483647 : Int32)) % (7 : Int32)) = (2 : Int32)) (hv1 : ¬ ((0 : Int32) < (lcmpW i1 (25000 : Int64)))) :
    MetFree l x (head1 (Jvm.Cond.code x code maxLocals ret :: ws) room_1) (fun a U => a = #[(.int i0), (.long i1)] ∧ Z.Warmed39 U.vm ∧ U.heap = h0) (fun _ _ _ _ _ => True) (fun _ U o U' => ∃ v L, o = .returned v ∧ QR h0 n0 (some (.int (1 : Int32))) v U'.heap L ∧ FrameEnd U o U' L room_1.cells room_1.slots) := by
  have S_RULES := C.2.2.2.2.2.2.2.2.2.2.2.2.1
  have E_RULES := C.2.2.2.2.2.2.2.2.2.2.2.2.2.1
  refine MetFree.of_bodySF (plainFor_of_name pn_0) hisR ?_
  intro p e s m args below meth c s₁ Bd hml0 hP hK
  obtain ⟨rfl, hZ, hh⟩ := hP
  have hx := Bd.exec
  have hby := Bd.bytes
  have hml : c.maxLocals = 10 := hml0
  have hown : s.vm.findClass "com/example/verdictlint/verdictlint/sarif/CapDropsSomeOfPinLaw" = some m.cls := findClass_of_methodNamed Bd.named
  have hnm := (name_of_methodNamed Bd.named Bd.method).1
  have X0 : Stand p l e room_1 s m #[(.int i0), (.long i1)] below meth c s₁ [] 0 0 := Stand.of_body Bd
  have e0 : s₁.heap = h0 := by rw [← hh, Bd.state]; rfl
  have N0 := Fr.nil n0
  have pre0 : ∀ t, Steps p.tables e below (s₁.setTop (mkF m 0 #[.val (.int i0), .val (.long i1), .second, .unset, .unset, .unset, .unset, .unset, .unset, .unset] [])) t → Steps p.tables e below (s₁.setTop (entryFrame m #[(.int i0), (.long i1)] maxLocals)) t := fun t k => castTop (ef_0 m i0 i1) k
  obtain ⟨T1, X1, e1, st1⟩ := getS2 X0 hx hZ hown (host := "") (Or.inl (hw _ (List.mem_of_getElem? (i := 21) rfl))) Via.refl e0 S_RULES (g := (mkF m 48 #[.val (.int i0), .val (.long i1), .second, .val (.int (2 : Int32)), .unset, .unset, .unset, .unset, .unset, .unset] [])) rfl (hb hby at_48)
  obtain ⟨cq2, kq2, q2a, q2b, q2c⟩ := isOf hZ e1 E_RULES
  obtain ⟨_, _, ⟨T2, L2, k2, n2⟩, -, X2, ⟨Lc2, hQ2, l2, y2, z2⟩, st2⟩ := X1.virtualBack hx (y := (⟨"com/example/verdictlint/verdictlint/sarif/Cap", "dropsSomeOf", "(J)Z"⟩ : MethodName)) (z := (⟨"com/example/verdictlint/verdictlint/sarif/Cap", "dropsSomeOf", "(J)Z"⟩ : MethodName)) hown (mvT hZ (hw _ (List.mem_of_getElem? (i := 5) rfl))) (mvT hZ (hw _ (List.mem_of_getElem? (i := 6) rfl))) (notFace_of_selects (args := #[]) (mvT hZ (hw _ (List.mem_of_getElem? (i := 8) rfl)))) (mvT hZ (hw _ (List.mem_of_getElem? (i := 8) rfl))) (mvT hZ (hw _ (List.mem_of_getElem? (i := 7) rfl))) (by decide) (backOf (W := 0) (rm1_11 l Z a0 hw [] w_RUNS w_RESULTS w_LOCATIONS w_THREAD_FLOW_LOCATIONS w_RULES w_EXTENSIONS w_TAGS i0 i1 h0 n0 Z0 C hv0 hv1) hZ (hw _ (List.mem_of_getElem? (i := 9) rfl)) (hw _ (List.mem_of_getElem? (i := 2) rfl)) (by decide) (by decide)) q2a q2c (g := (mkF m 128 #[.val (.int i0), .val (.long i1), .second, .val (.int (2 : Int32)), .val (.ref w_RULES), .val (.long (25000 : Int64)), .second, .unset, .unset, .unset] [(.long i1), (.ref w_RULES)])) rfl (by rw [hml]; rfl) (Steps.refl _) (argsL := [(.long i1)]) (rest := []) (lenOf pd_0 rfl) rfl (by show 2 * 0 + _ ≤ _; exact Nat.le_of_eq rfl) (hb hby at_128) (fun _ _ => ⟨rfl, e1, (by decide : 0 + 0 ≤ _), (by decide : 0 + 0 ≤ _)⟩)
  dsimp only [Pt.U, Pt.locs, Pt.cells, Pt.slots] at X2 l2 y2 z2 st2 hQ2
  subst l2 y2 z2
  obtain ⟨rfl, N2q, e2⟩ := hQ2
  have N2 := Fr.app N0 N2q
  obtain ⟨cq3, kq3, q3a, q3b, q3c⟩ := isOf hZ e2 E_RULES
  obtain ⟨_, _, ⟨T3, L3, k3, n3⟩, -, X3, ⟨Lc3, hQ3, l3, y3, z3⟩, st3⟩ := X2.virtualBack hx (y := (⟨"com/example/verdictlint/verdictlint/sarif/Cap", "dropsSomeOf", "(J)Z"⟩ : MethodName)) (z := (⟨"com/example/verdictlint/verdictlint/sarif/Cap", "dropsSomeOf", "(J)Z"⟩ : MethodName)) hown (mvT hZ (hw _ (List.mem_of_getElem? (i := 5) rfl))) (mvT hZ (hw _ (List.mem_of_getElem? (i := 6) rfl))) (notFace_of_selects (args := #[]) (mvT hZ (hw _ (List.mem_of_getElem? (i := 8) rfl)))) (mvT hZ (hw _ (List.mem_of_getElem? (i := 8) rfl))) (mvT hZ (hw _ (List.mem_of_getElem? (i := 7) rfl))) (by decide) (backOf (W := 0) (rm1_9 l Z a0 hw [] w_RUNS w_RESULTS w_LOCATIONS w_THREAD_FLOW_LOCATIONS w_RULES w_EXTENSIONS w_TAGS  h0 n0 Z0 C ) hZ (hw _ (List.mem_of_getElem? (i := 9) rfl)) (hw _ (List.mem_of_getElem? (i := 2) rfl)) (by decide) (by decide)) q3a q3c (g := (mkF m 157 #[.val (.int i0), .val (.long i1), .second, .val (.int (2 : Int32)), .val (.ref w_RULES), .val (.long (25000 : Int64)), .second, .val (.int (1 : Int32)), .unset, .unset] [(.long (25000 : Int64)), (.ref w_RULES)])) rfl (by rw [hml]; rfl) (Steps.refl _) (argsL := [(.long (25000 : Int64))]) (rest := []) (lenOf pd_0 rfl) rfl (by show 2 * 0 + _ ≤ _; exact Nat.le_of_eq rfl) (hb hby at_157) (fun _ _ => ⟨rfl, e2, (by decide : 0 + 0 ≤ _), (by decide : 0 + 0 ≤ _)⟩)
  dsimp only [Pt.U, Pt.locs, Pt.cells, Pt.slots] at X3 l3 y3 z3 st3 hQ3
  subst l3 y3 z3
  obtain ⟨rfl, N3q, e3⟩ := hQ3
  have N3 := Fr.app N2 N3q
  obtain ⟨cq4, kq4, q4a, q4b, q4c⟩ := isOf hZ e3 E_RULES
  obtain ⟨_, _, ⟨T4, L4, k4, n4⟩, -, X4, ⟨Lc4, hQ4, l4, y4, z4⟩, st4⟩ := X3.virtualBack hx (y := (⟨"com/example/verdictlint/verdictlint/sarif/Cap", "dropsSomeOf", "(J)Z"⟩ : MethodName)) (z := (⟨"com/example/verdictlint/verdictlint/sarif/Cap", "dropsSomeOf", "(J)Z"⟩ : MethodName)) hown (mvT hZ (hw _ (List.mem_of_getElem? (i := 5) rfl))) (mvT hZ (hw _ (List.mem_of_getElem? (i := 6) rfl))) (notFace_of_selects (args := #[]) (mvT hZ (hw _ (List.mem_of_getElem? (i := 8) rfl)))) (mvT hZ (hw _ (List.mem_of_getElem? (i := 8) rfl))) (mvT hZ (hw _ (List.mem_of_getElem? (i := 7) rfl))) (by decide) (backOf (W := 0) (rm1_10 l Z a0 hw [] w_RUNS w_RESULTS w_LOCATIONS w_THREAD_FLOW_LOCATIONS w_RULES w_EXTENSIONS w_TAGS  h0 n0 Z0 C ) hZ (hw _ (List.mem_of_getElem? (i := 9) rfl)) (hw _ (List.mem_of_getElem? (i := 2) rfl)) (by decide) (by decide)) q4a q4c (g := (mkF m 176 #[.val (.int i0), .val (.long i1), .second, .val (.int (2 : Int32)), .val (.ref w_RULES), .val (.long (25000 : Int64)), .second, .val (.int (1 : Int32)), .val (.int (1 : Int32)), .unset] [(.long (25001 : Int64)), (.ref w_RULES)])) rfl (by rw [hml]; rfl) (Steps.refl _) (argsL := [(.long (25001 : Int64))]) (rest := []) (lenOf pd_0 rfl) rfl (by show 2 * 0 + _ ≤ _; exact Nat.le_of_eq rfl) (hb hby at_176) (fun _ _ => ⟨rfl, e3, (by decide : 0 + 0 ≤ _), (by decide : 0 + 0 ≤ _)⟩)
  dsimp only [Pt.U, Pt.locs, Pt.cells, Pt.slots] at X4 l4 y4 z4 st4 hQ4
  subst l4 y4 z4
  obtain ⟨rfl, N4q, e4⟩ := hQ4
  have N4 := Fr.app N3 N4q
  obtain ⟨fs, hr, hrun, hended, hW, hsame⟩ := X4.leave (v := (some (.int (1 : Int32)))) (fun h => by rw [Bd.returns] at h; cases h)
  refine ⟨_, _, pre0 _ ?_, hrun, hended, _, _, rfl, ?_, ⟨_, rfl⟩, hW, hsame.mono (by decide) (by decide)⟩
  · show Steps p.tables e below (s₁.setTop (mkF m 0 #[.val (.int i0), .val (.long i1), .second, .unset, .unset, .unset, .unset, .unset, .unset, .unset] [])) _
    refine XS.iloadN X0.here hx rfl (hb hby at_0) rfl ?_
    show Steps p.tables e below (s₁.setTop (mkF m 1 #[.val (.int i0), .val (.long i1), .second, .unset, .unset, .unset, .unset, .unset, .unset, .unset] [(.int i0)])) _
    refine X0.ldcInt hx hown (mvT hZ (hw _ (List.mem_of_getElem? (i := 0) rfl))) (g := (mkF m 1 #[.val (.int i0), .val (.long i1), .second, .unset, .unset, .unset, .unset, .unset, .unset, .unset] [(.int i0)])) rfl (hb hby at_1) _ ?_
    show Steps p.tables e below (s₁.setTop (mkF m 3 #[.val (.int i0), .val (.long i1), .second, .unset, .unset, .unset, .unset, .unset, .unset, .unset] [(.int (2147483647 : Int32)), (.int i0)])) _
    refine XS.iand X0.here hx rfl (hb hby at_3) rfl ?_
    show Steps p.tables e below (s₁.setTop (mkF m 4 #[.val (.int i0), .val (.long i1), .second, .unset, .unset, .unset, .unset, .unset, .unset, .unset] [(.int (i0 &&& (2147483647 : Int32)))])) _
    refine XS.bipush X0.here hx rfl (hb hby at_4) ?_
    show Steps p.tables e below (s₁.setTop (mkF m 6 #[.val (.int i0), .val (.long i1), .second, .unset, .unset, .unset, .unset, .unset, .unset, .unset] [(.int (7 : Int32)), (.int (i0 &&& (2147483647 : Int32)))])) _
    refine iremM (g := (mkF m 6 #[.val (.int i0), .val (.long i1), .second, .unset, .unset, .unset, .unset, .unset, .unset, .unset] [(.int (7 : Int32)), (.int (i0 &&& (2147483647 : Int32)))])) X0 hx rfl (hb hby at_6) rfl (by decide) ?_
    show Steps p.tables e below (s₁.setTop (mkF m 7 #[.val (.int i0), .val (.long i1), .second, .unset, .unset, .unset, .unset, .unset, .unset, .unset] [(.int ((i0 &&& (2147483647 : Int32)) % (7 : Int32)))])) _
    rw [hv0]
    show Steps p.tables e below (s₁.setTop (mkF m 7 #[.val (.int i0), .val (.long i1), .second, .unset, .unset, .unset, .unset, .unset, .unset, .unset] [(.int (2 : Int32))])) _
    refine XS.istoreN X0.here hx rfl (hb hby at_7) rfl (l' := #[.val (.int i0), .val (.long i1), .second, .val (.int (2 : Int32)), .unset, .unset, .unset, .unset, .unset, .unset]) rfl ?_
    show Steps p.tables e below (s₁.setTop (mkF m 8 #[.val (.int i0), .val (.long i1), .second, .val (.int (2 : Int32)), .unset, .unset, .unset, .unset, .unset, .unset] [])) _
    refine XS.iloadN X0.here hx rfl (hb hby at_8) rfl ?_
    show Steps p.tables e below (s₁.setTop (mkF m 9 #[.val (.int i0), .val (.long i1), .second, .val (.int (2 : Int32)), .unset, .unset, .unset, .unset, .unset, .unset] [(.int (2 : Int32))])) _
    refine XS.ifYes X0.here hx rfl (pc0 := 9) (pc' := 25) rfl (hb hby at_9) rfl ((if0 _ _).trans (feq (by decide +kernel : ¬ ((2 : Int32) = (0 : Int32)))).2) (by decide) (by decide) ?_
    show Steps p.tables e below (s₁.setTop (mkF m 25 #[.val (.int i0), .val (.long i1), .second, .val (.int (2 : Int32)), .unset, .unset, .unset, .unset, .unset, .unset] [])) _
    refine XS.iloadN X0.here hx rfl (hb hby at_25) rfl ?_
    show Steps p.tables e below (s₁.setTop (mkF m 26 #[.val (.int i0), .val (.long i1), .second, .val (.int (2 : Int32)), .unset, .unset, .unset, .unset, .unset, .unset] [(.int (2 : Int32))])) _
    refine XS.iconst X0.here hx rfl (hb hby at_26) ?_
    show Steps p.tables e below (s₁.setTop (mkF m 27 #[.val (.int i0), .val (.long i1), .second, .val (.int (2 : Int32)), .unset, .unset, .unset, .unset, .unset, .unset] [(.int (1 : Int32)), (.int (2 : Int32))])) _
    refine XS.icmpYes X0.here hx rfl (pc0 := 27) (pc' := 43) rfl (hb hby at_27) rfl (feq (by decide +kernel : ¬ ((2 : Int32) = (1 : Int32)))).2 (by decide) (by decide) ?_
    show Steps p.tables e below (s₁.setTop (mkF m 43 #[.val (.int i0), .val (.long i1), .second, .val (.int (2 : Int32)), .unset, .unset, .unset, .unset, .unset, .unset] [])) _
    refine XS.iloadN X0.here hx rfl (hb hby at_43) rfl ?_
    show Steps p.tables e below (s₁.setTop (mkF m 44 #[.val (.int i0), .val (.long i1), .second, .val (.int (2 : Int32)), .unset, .unset, .unset, .unset, .unset, .unset] [(.int (2 : Int32))])) _
    refine XS.iconst X0.here hx rfl (hb hby at_44) ?_
    show Steps p.tables e below (s₁.setTop (mkF m 45 #[.val (.int i0), .val (.long i1), .second, .val (.int (2 : Int32)), .unset, .unset, .unset, .unset, .unset, .unset] [(.int (2 : Int32)), (.int (2 : Int32))])) _
    refine XS.icmpNo X0.here hx rfl (hb hby at_45) rfl (teq (by decide +kernel : (2 : Int32) = (2 : Int32))).2 ?_
    show Steps p.tables e below (s₁.setTop (mkF m 48 #[.val (.int i0), .val (.long i1), .second, .val (.int (2 : Int32)), .unset, .unset, .unset, .unset, .unset, .unset] [])) _
    refine st1 _ ?_
    show Steps p.tables e below (T1.setTop (mkF m 51 #[.val (.int i0), .val (.long i1), .second, .val (.int (2 : Int32)), .unset, .unset, .unset, .unset, .unset, .unset] [(.ref w_RULES)])) _
    refine XS.astore X1.here hx rfl (hb hby at_51) rfl rfl (l' := #[.val (.int i0), .val (.long i1), .second, .val (.int (2 : Int32)), .val (.ref w_RULES), .unset, .unset, .unset, .unset, .unset]) rfl ?_
    show Steps p.tables e below (T1.setTop (mkF m 53 #[.val (.int i0), .val (.long i1), .second, .val (.int (2 : Int32)), .val (.ref w_RULES), .unset, .unset, .unset, .unset, .unset] [])) _
    refine X1.ldc2Long hx hown (mvT hZ (hw _ (List.mem_of_getElem? (i := 14) rfl))) (g := (mkF m 53 #[.val (.int i0), .val (.long i1), .second, .val (.int (2 : Int32)), .val (.ref w_RULES), .unset, .unset, .unset, .unset, .unset] [])) rfl (hb hby at_53) _ ?_
    show Steps p.tables e below (T1.setTop (mkF m 56 #[.val (.int i0), .val (.long i1), .second, .val (.int (2 : Int32)), .val (.ref w_RULES), .unset, .unset, .unset, .unset, .unset] [(.long (25000 : Int64))])) _
    refine XS.lstore X1.here hx rfl (hb hby at_56) rfl (l' := #[.val (.int i0), .val (.long i1), .second, .val (.int (2 : Int32)), .val (.ref w_RULES), .val (.long (25000 : Int64)), .second, .unset, .unset, .unset]) rfl ?_
    show Steps p.tables e below (T1.setTop (mkF m 58 #[.val (.int i0), .val (.long i1), .second, .val (.int (2 : Int32)), .val (.ref w_RULES), .val (.long (25000 : Int64)), .second, .unset, .unset, .unset] [])) _
    refine XS.goto X1.here hx rfl (pc0 := 58) (pc' := 125) rfl (hb hby at_58) (by decide) (by decide) ?_
    show Steps p.tables e below (T1.setTop (mkF m 125 #[.val (.int i0), .val (.long i1), .second, .val (.int (2 : Int32)), .val (.ref w_RULES), .val (.long (25000 : Int64)), .second, .unset, .unset, .unset] [])) _
    refine XS.aload X1.here hx rfl (hb hby at_125) rfl rfl ?_
    show Steps p.tables e below (T1.setTop (mkF m 127 #[.val (.int i0), .val (.long i1), .second, .val (.int (2 : Int32)), .val (.ref w_RULES), .val (.long (25000 : Int64)), .second, .unset, .unset, .unset] [(.ref w_RULES)])) _
    refine XS.lloadN X1.here hx rfl (hb hby at_127) rfl ?_
    show Steps p.tables e below (T1.setTop (mkF m 128 #[.val (.int i0), .val (.long i1), .second, .val (.int (2 : Int32)), .val (.ref w_RULES), .val (.long (25000 : Int64)), .second, .unset, .unset, .unset] [(.long i1), (.ref w_RULES)])) _
    refine st2.trans ?_
    show Steps p.tables e below (T2.setTop (mkF m 131 #[.val (.int i0), .val (.long i1), .second, .val (.int (2 : Int32)), .val (.ref w_RULES), .val (.long (25000 : Int64)), .second, .unset, .unset, .unset] [(.int (0 : Int32))])) _
    refine XS.lloadN X2.here hx rfl (hb hby at_131) rfl ?_
    show Steps p.tables e below (T2.setTop (mkF m 132 #[.val (.int i0), .val (.long i1), .second, .val (.int (2 : Int32)), .val (.ref w_RULES), .val (.long (25000 : Int64)), .second, .unset, .unset, .unset] [(.long i1), (.int (0 : Int32))])) _
    refine XS.lload X2.here hx rfl (hb hby at_132) rfl ?_
    show Steps p.tables e below (T2.setTop (mkF m 134 #[.val (.int i0), .val (.long i1), .second, .val (.int (2 : Int32)), .val (.ref w_RULES), .val (.long (25000 : Int64)), .second, .unset, .unset, .unset] [(.long (25000 : Int64)), (.long i1), (.int (0 : Int32))])) _
    refine XS.lcmp X2.here hx rfl (hb hby at_134) rfl ?_
    show Steps p.tables e below (T2.setTop (mkF m 135 #[.val (.int i0), .val (.long i1), .second, .val (.int (2 : Int32)), .val (.ref w_RULES), .val (.long (25000 : Int64)), .second, .unset, .unset, .unset] [(.int (lcmpW i1 (25000 : Int64))), (.int (0 : Int32))])) _
    refine XS.ifYes X2.here hx rfl (pc0 := 135) (pc' := 142) rfl (hb hby at_135) rfl ((if0 _ _).trans (flt hv1).2.2.2) (by decide) (by decide) ?_
    show Steps p.tables e below (T2.setTop (mkF m 142 #[.val (.int i0), .val (.long i1), .second, .val (.int (2 : Int32)), .val (.ref w_RULES), .val (.long (25000 : Int64)), .second, .unset, .unset, .unset] [(.int (0 : Int32))])) _
    refine XS.iconst X2.here hx rfl (hb hby at_142) ?_
    show Steps p.tables e below (T2.setTop (mkF m 143 #[.val (.int i0), .val (.long i1), .second, .val (.int (2 : Int32)), .val (.ref w_RULES), .val (.long (25000 : Int64)), .second, .unset, .unset, .unset] [(.int (0 : Int32)), (.int (0 : Int32))])) _
    refine XS.icmpNo X2.here hx rfl (hb hby at_143) rfl (teq (by decide +kernel : (0 : Int32) = (0 : Int32))).2 ?_
    show Steps p.tables e below (T2.setTop (mkF m 146 #[.val (.int i0), .val (.long i1), .second, .val (.int (2 : Int32)), .val (.ref w_RULES), .val (.long (25000 : Int64)), .second, .unset, .unset, .unset] [])) _
    refine XS.iconst X2.here hx rfl (hb hby at_146) ?_
    show Steps p.tables e below (T2.setTop (mkF m 147 #[.val (.int i0), .val (.long i1), .second, .val (.int (2 : Int32)), .val (.ref w_RULES), .val (.long (25000 : Int64)), .second, .unset, .unset, .unset] [(.int (1 : Int32))])) _
    refine XS.goto X2.here hx rfl (pc0 := 147) (pc' := 151) rfl (hb hby at_147) (by decide) (by decide) ?_
    show Steps p.tables e below (T2.setTop (mkF m 151 #[.val (.int i0), .val (.long i1), .second, .val (.int (2 : Int32)), .val (.ref w_RULES), .val (.long (25000 : Int64)), .second, .unset, .unset, .unset] [(.int (1 : Int32))])) _
    refine XS.istore X2.here hx rfl (hb hby at_151) rfl (l' := #[.val (.int i0), .val (.long i1), .second, .val (.int (2 : Int32)), .val (.ref w_RULES), .val (.long (25000 : Int64)), .second, .val (.int (1 : Int32)), .unset, .unset]) rfl ?_
    show Steps p.tables e below (T2.setTop (mkF m 153 #[.val (.int i0), .val (.long i1), .second, .val (.int (2 : Int32)), .val (.ref w_RULES), .val (.long (25000 : Int64)), .second, .val (.int (1 : Int32)), .unset, .unset] [])) _
    refine XS.aload X2.here hx rfl (hb hby at_153) rfl rfl ?_
    show Steps p.tables e below (T2.setTop (mkF m 155 #[.val (.int i0), .val (.long i1), .second, .val (.int (2 : Int32)), .val (.ref w_RULES), .val (.long (25000 : Int64)), .second, .val (.int (1 : Int32)), .unset, .unset] [(.ref w_RULES)])) _
    refine XS.lload X2.here hx rfl (hb hby at_155) rfl ?_
    show Steps p.tables e below (T2.setTop (mkF m 157 #[.val (.int i0), .val (.long i1), .second, .val (.int (2 : Int32)), .val (.ref w_RULES), .val (.long (25000 : Int64)), .second, .val (.int (1 : Int32)), .unset, .unset] [(.long (25000 : Int64)), (.ref w_RULES)])) _
    refine st3.trans ?_
    show Steps p.tables e below (T3.setTop (mkF m 160 #[.val (.int i0), .val (.long i1), .second, .val (.int (2 : Int32)), .val (.ref w_RULES), .val (.long (25000 : Int64)), .second, .val (.int (1 : Int32)), .unset, .unset] [(.int (0 : Int32))])) _
    refine XS.ifNo X3.here hx rfl (hb hby at_160) rfl ((if0 _ _).trans (teq (by decide +kernel : (0 : Int32) = (0 : Int32))).2) ?_
    show Steps p.tables e below (T3.setTop (mkF m 163 #[.val (.int i0), .val (.long i1), .second, .val (.int (2 : Int32)), .val (.ref w_RULES), .val (.long (25000 : Int64)), .second, .val (.int (1 : Int32)), .unset, .unset] [])) _
    refine XS.iconst X3.here hx rfl (hb hby at_163) ?_
    show Steps p.tables e below (T3.setTop (mkF m 164 #[.val (.int i0), .val (.long i1), .second, .val (.int (2 : Int32)), .val (.ref w_RULES), .val (.long (25000 : Int64)), .second, .val (.int (1 : Int32)), .unset, .unset] [(.int (1 : Int32))])) _
    refine XS.goto X3.here hx rfl (pc0 := 164) (pc' := 168) rfl (hb hby at_164) (by decide) (by decide) ?_
    show Steps p.tables e below (T3.setTop (mkF m 168 #[.val (.int i0), .val (.long i1), .second, .val (.int (2 : Int32)), .val (.ref w_RULES), .val (.long (25000 : Int64)), .second, .val (.int (1 : Int32)), .unset, .unset] [(.int (1 : Int32))])) _
    refine XS.istore X3.here hx rfl (hb hby at_168) rfl (l' := #[.val (.int i0), .val (.long i1), .second, .val (.int (2 : Int32)), .val (.ref w_RULES), .val (.long (25000 : Int64)), .second, .val (.int (1 : Int32)), .val (.int (1 : Int32)), .unset]) rfl ?_
    show Steps p.tables e below (T3.setTop (mkF m 170 #[.val (.int i0), .val (.long i1), .second, .val (.int (2 : Int32)), .val (.ref w_RULES), .val (.long (25000 : Int64)), .second, .val (.int (1 : Int32)), .val (.int (1 : Int32)), .unset] [])) _
    refine XS.aload X3.here hx rfl (hb hby at_170) rfl rfl ?_
    show Steps p.tables e below (T3.setTop (mkF m 172 #[.val (.int i0), .val (.long i1), .second, .val (.int (2 : Int32)), .val (.ref w_RULES), .val (.long (25000 : Int64)), .second, .val (.int (1 : Int32)), .val (.int (1 : Int32)), .unset] [(.ref w_RULES)])) _
    refine XS.lload X3.here hx rfl (hb hby at_172) rfl ?_
    show Steps p.tables e below (T3.setTop (mkF m 174 #[.val (.int i0), .val (.long i1), .second, .val (.int (2 : Int32)), .val (.ref w_RULES), .val (.long (25000 : Int64)), .second, .val (.int (1 : Int32)), .val (.int (1 : Int32)), .unset] [(.long (25000 : Int64)), (.ref w_RULES)])) _
    refine XS.lconst X3.here hx rfl (hb hby at_174) ?_
    show Steps p.tables e below (T3.setTop (mkF m 175 #[.val (.int i0), .val (.long i1), .second, .val (.int (2 : Int32)), .val (.ref w_RULES), .val (.long (25000 : Int64)), .second, .val (.int (1 : Int32)), .val (.int (1 : Int32)), .unset] [(.long (1 : Int64)), (.long (25000 : Int64)), (.ref w_RULES)])) _
    refine XS.ladd X3.here hx rfl (hb hby at_175) rfl ?_
    show Steps p.tables e below (T3.setTop (mkF m 176 #[.val (.int i0), .val (.long i1), .second, .val (.int (2 : Int32)), .val (.ref w_RULES), .val (.long (25000 : Int64)), .second, .val (.int (1 : Int32)), .val (.int (1 : Int32)), .unset] [(.long ((25000 : Int64) + (1 : Int64))), (.ref w_RULES)])) _
    rw [show ((25000 : Int64) + (1 : Int64)) = (25001 : Int64) from by decide +kernel]
    show Steps p.tables e below (T3.setTop (mkF m 176 #[.val (.int i0), .val (.long i1), .second, .val (.int (2 : Int32)), .val (.ref w_RULES), .val (.long (25000 : Int64)), .second, .val (.int (1 : Int32)), .val (.int (1 : Int32)), .unset] [(.long (25001 : Int64)), (.ref w_RULES)])) _
    refine st4.trans ?_
    show Steps p.tables e below (T4.setTop (mkF m 179 #[.val (.int i0), .val (.long i1), .second, .val (.int (2 : Int32)), .val (.ref w_RULES), .val (.long (25000 : Int64)), .second, .val (.int (1 : Int32)), .val (.int (1 : Int32)), .unset] [(.int (1 : Int32))])) _
    refine XS.istore X4.here hx rfl (hb hby at_179) rfl (l' := #[.val (.int i0), .val (.long i1), .second, .val (.int (2 : Int32)), .val (.ref w_RULES), .val (.long (25000 : Int64)), .second, .val (.int (1 : Int32)), .val (.int (1 : Int32)), .val (.int (1 : Int32))]) rfl ?_
    show Steps p.tables e below (T4.setTop (mkF m 181 #[.val (.int i0), .val (.long i1), .second, .val (.int (2 : Int32)), .val (.ref w_RULES), .val (.long (25000 : Int64)), .second, .val (.int (1 : Int32)), .val (.int (1 : Int32)), .val (.int (1 : Int32))] [])) _
    refine XS.iload X4.here hx rfl (hb hby at_181) rfl ?_
    show Steps p.tables e below (T4.setTop (mkF m 183 #[.val (.int i0), .val (.long i1), .second, .val (.int (2 : Int32)), .val (.ref w_RULES), .val (.long (25000 : Int64)), .second, .val (.int (1 : Int32)), .val (.int (1 : Int32)), .val (.int (1 : Int32))] [(.int (1 : Int32))])) _
    refine XS.ifNo X4.here hx rfl (hb hby at_183) rfl ((if0 _ _).trans (feq (by decide +kernel : ¬ ((1 : Int32) = (0 : Int32)))).1) ?_
    show Steps p.tables e below (T4.setTop (mkF m 186 #[.val (.int i0), .val (.long i1), .second, .val (.int (2 : Int32)), .val (.ref w_RULES), .val (.long (25000 : Int64)), .second, .val (.int (1 : Int32)), .val (.int (1 : Int32)), .val (.int (1 : Int32))] [])) _
    refine XS.iload X4.here hx rfl (hb hby at_186) rfl ?_
    show Steps p.tables e below (T4.setTop (mkF m 188 #[.val (.int i0), .val (.long i1), .second, .val (.int (2 : Int32)), .val (.ref w_RULES), .val (.long (25000 : Int64)), .second, .val (.int (1 : Int32)), .val (.int (1 : Int32)), .val (.int (1 : Int32))] [(.int (1 : Int32))])) _
    refine XS.ifNo X4.here hx rfl (hb hby at_188) rfl ((if0 _ _).trans (feq (by decide +kernel : ¬ ((1 : Int32) = (0 : Int32)))).1) ?_
    show Steps p.tables e below (T4.setTop (mkF m 191 #[.val (.int i0), .val (.long i1), .second, .val (.int (2 : Int32)), .val (.ref w_RULES), .val (.long (25000 : Int64)), .second, .val (.int (1 : Int32)), .val (.int (1 : Int32)), .val (.int (1 : Int32))] [])) _
    refine XS.iload X4.here hx rfl (hb hby at_191) rfl ?_
    show Steps p.tables e below (T4.setTop (mkF m 193 #[.val (.int i0), .val (.long i1), .second, .val (.int (2 : Int32)), .val (.ref w_RULES), .val (.long (25000 : Int64)), .second, .val (.int (1 : Int32)), .val (.int (1 : Int32)), .val (.int (1 : Int32))] [(.int (1 : Int32))])) _
    refine XS.ifNo X4.here hx rfl (hb hby at_193) rfl ((if0 _ _).trans (feq (by decide +kernel : ¬ ((1 : Int32) = (0 : Int32)))).1) ?_
    show Steps p.tables e below (T4.setTop (mkF m 196 #[.val (.int i0), .val (.long i1), .second, .val (.int (2 : Int32)), .val (.ref w_RULES), .val (.long (25000 : Int64)), .second, .val (.int (1 : Int32)), .val (.int (1 : Int32)), .val (.int (1 : Int32))] [])) _
    refine XS.iconst X4.here hx rfl (hb hby at_196) ?_
    show Steps p.tables e below (T4.setTop (mkF m 197 #[.val (.int i0), .val (.long i1), .second, .val (.int (2 : Int32)), .val (.ref w_RULES), .val (.long (25000 : Int64)), .second, .val (.int (1 : Int32)), .val (.int (1 : Int32)), .val (.int (1 : Int32))] [(.int (1 : Int32))])) _
    refine XS.goto X4.here hx rfl (pc0 := 197) (pc' := 201) rfl (hb hby at_197) (by decide) (by decide) ?_
    show Steps p.tables e below (T4.setTop (mkF m 201 #[.val (.int i0), .val (.long i1), .second, .val (.int (2 : Int32)), .val (.ref w_RULES), .val (.long (25000 : Int64)), .second, .val (.int (1 : Int32)), .val (.int (1 : Int32)), .val (.int (1 : Int32))] [(.int (1 : Int32))])) _
    exact retN X4 hx (t := .boolean) Bd.returns (by simp) (hb hby at_201) hr
  · exact ⟨rfl, N4, e4⟩
set_option maxRecDepth 65536 in
set_option maxHeartbeats 40000000 in
theorem rm1_12 (l : Launch) (Z : State) (a0 : Array Value) (hw : ∀ d ∈ tables_1, d.before a0 Z = true) (ws : List Jvm.Cond) (w_RUNS w_RESULTS w_LOCATIONS w_THREAD_FLOW_LOCATIONS w_RULES w_EXTENSIONS w_TAGS : Addr) (i0 : Int32) (i1 : Int64) (h0 : Heap) (n0 : Nat) (Z0 : n0 ≤ h0.size) (C : Ctx Z h0 w_RUNS w_RESULTS w_LOCATIONS w_THREAD_FLOW_LOCATIONS w_RULES w_EXTENSIONS w_TAGS) (hv0 : ((i0 &&& (2147483647 : Int32)) % (7 : Int32)) = (3 : Int32)) (hv1 : (0 : Int32) < (lcmpW i1 (100 : Int64))) :
    MetFree l (⟨"com/example/verdictlint/verdictlint/sarif/Cap", "dropsSomeOf", "(J)Z"⟩ : MethodName) (head1 (Jvm.Cond.code (⟨"com/example/verdictlint/verdictlint/sarif/Cap", "dropsSomeOf", "(J)Z"⟩ : MethodName) prog_26_method_8_code 3 (some .boolean) :: ws) ({ frames := 0, cells := 0, slots := 0, locals := 0 } : Room)) (fun a U => a = #[(.ref w_EXTENSIONS), (.long i1)] ∧ Z.Warmed39 U.vm ∧ U.heap = h0) (fun _ _ _ _ _ => True) (fun _ U o U' => ∃ v L, o = .returned v ∧ QR h0 n0 (some (.int (1 : Int32))) v U'.heap L ∧ FrameEnd U o U' L ({ frames := 0, cells := 0, slots := 0, locals := 0 } : Room).cells ({ frames := 0, cells := 0, slots := 0, locals := 0 } : Room).slots) := by
  have F_EXTENSIONS_kept := C.2.2.2.2.2.2.2.2.2.2.2.2.2.2.2.2.2.1
  refine MetFree.of_bodySF (plainFor_of_name pn_1) hisR ?_
  intro p e s m args below meth c s₁ Bd hml0 hP hK
  obtain ⟨rfl, hZ, hh⟩ := hP
  have hx := Bd.exec
  have hby := Bd.bytes
  have hml : c.maxLocals = 3 := hml0
  have hown : s.vm.findClass "com/example/verdictlint/verdictlint/sarif/Cap" = some m.cls := findClass_of_methodNamed Bd.named
  have hnm := (name_of_methodNamed Bd.named Bd.method).1
  have X0 : Stand p l e ({ frames := 0, cells := 0, slots := 0, locals := 0 } : Room) s m #[(.ref w_EXTENSIONS), (.long i1)] below meth c s₁ [] 0 0 := Stand.of_body Bd
  have e0 : s₁.heap = h0 := by rw [← hh, Bd.state]; rfl
  have N0 := Fr.nil n0
  have pre0 : ∀ t, Steps p.tables e below (s₁.setTop (mkF m 0 #[.val (.ref w_EXTENSIONS), .val (.long i1), .second] [])) t → Steps p.tables e below (s₁.setTop (entryFrame m #[(.ref w_EXTENSIONS), (.long i1)] 3)) t := fun t k => castTop (ef_1 m w_EXTENSIONS i1) k
  obtain ⟨T1, X1, e1, st1⟩ := getF X0 hx hZ hown (host := "") (Or.inl (hw _ (List.mem_of_getElem? (i := 10) rfl))) Via.refl e0 F_EXTENSIONS_kept (g := (mkF m 2 #[.val (.ref w_EXTENSIONS), .val (.long i1), .second] [(.ref w_EXTENSIONS), (.long i1)])) rfl rfl (hb hby d1_2)
  obtain ⟨fs, hr, hrun, hended, hW, hsame⟩ := X1.leave (v := (some (.int (1 : Int32)))) (fun h => by rw [Bd.returns] at h; cases h)
  refine ⟨_, _, pre0 _ ?_, hrun, hended, _, _, rfl, ?_, ⟨_, rfl⟩, hW, hsame.mono (by decide) (by decide)⟩
  · show Steps p.tables e below (s₁.setTop (mkF m 0 #[.val (.ref w_EXTENSIONS), .val (.long i1), .second] [])) _
    refine XS.lloadN X0.here hx rfl (hb hby d1_0) rfl ?_
    show Steps p.tables e below (s₁.setTop (mkF m 1 #[.val (.ref w_EXTENSIONS), .val (.long i1), .second] [(.long i1)])) _
    refine XS.aloadN X0.here hx rfl (hb hby d1_1) rfl rfl ?_
    show Steps p.tables e below (s₁.setTop (mkF m 2 #[.val (.ref w_EXTENSIONS), .val (.long i1), .second] [(.ref w_EXTENSIONS), (.long i1)])) _
    refine st1 _ ?_
    show Steps p.tables e below (T1.setTop (mkF m 5 #[.val (.ref w_EXTENSIONS), .val (.long i1), .second] [(.long (100 : Int64)), (.long i1)])) _
    refine XS.lcmp X1.here hx rfl (hb hby d1_5) rfl ?_
    show Steps p.tables e below (T1.setTop (mkF m 6 #[.val (.ref w_EXTENSIONS), .val (.long i1), .second] [(.int (lcmpW i1 (100 : Int64)))])) _
    refine XS.ifNo X1.here hx rfl (hb hby d1_6) rfl ((if0 _ _).trans (tlt hv1).2.2.2) ?_
    show Steps p.tables e below (T1.setTop (mkF m 9 #[.val (.ref w_EXTENSIONS), .val (.long i1), .second] [])) _
    refine XS.iconst X1.here hx rfl (hb hby d1_9) ?_
    show Steps p.tables e below (T1.setTop (mkF m 10 #[.val (.ref w_EXTENSIONS), .val (.long i1), .second] [(.int (1 : Int32))])) _
    refine XS.goto X1.here hx rfl (pc0 := 10) (pc' := 14) rfl (hb hby d1_10) (by decide) (by decide) ?_
    show Steps p.tables e below (T1.setTop (mkF m 14 #[.val (.ref w_EXTENSIONS), .val (.long i1), .second] [(.int (1 : Int32))])) _
    exact retN X1 hx (t := .boolean) Bd.returns (by simp) (hb hby d1_14) hr
  · exact ⟨rfl, N0, e1⟩
set_option maxRecDepth 65536 in
set_option maxHeartbeats 40000000 in
theorem rm1_13 (l : Launch) (Z : State) (a0 : Array Value) (hw : ∀ d ∈ tables_1, d.before a0 Z = true) (ws : List Jvm.Cond) (w_RUNS w_RESULTS w_LOCATIONS w_THREAD_FLOW_LOCATIONS w_RULES w_EXTENSIONS w_TAGS : Addr) (h0 : Heap) (n0 : Nat) (Z0 : n0 ≤ h0.size) (C : Ctx Z h0 w_RUNS w_RESULTS w_LOCATIONS w_THREAD_FLOW_LOCATIONS w_RULES w_EXTENSIONS w_TAGS)  :
    MetFree l (⟨"com/example/verdictlint/verdictlint/sarif/Cap", "dropsSomeOf", "(J)Z"⟩ : MethodName) (head1 (Jvm.Cond.code (⟨"com/example/verdictlint/verdictlint/sarif/Cap", "dropsSomeOf", "(J)Z"⟩ : MethodName) prog_26_method_8_code 3 (some .boolean) :: ws) ({ frames := 0, cells := 0, slots := 0, locals := 0 } : Room)) (fun a U => a = #[(.ref w_EXTENSIONS), (.long (100 : Int64))] ∧ Z.Warmed39 U.vm ∧ U.heap = h0) (fun _ _ _ _ _ => True) (fun _ U o U' => ∃ v L, o = .returned v ∧ QR h0 n0 (some (.int (0 : Int32))) v U'.heap L ∧ FrameEnd U o U' L ({ frames := 0, cells := 0, slots := 0, locals := 0 } : Room).cells ({ frames := 0, cells := 0, slots := 0, locals := 0 } : Room).slots) := by
  have F_EXTENSIONS_kept := C.2.2.2.2.2.2.2.2.2.2.2.2.2.2.2.2.2.1
  refine MetFree.of_bodySF (plainFor_of_name pn_1) hisR ?_
  intro p e s m args below meth c s₁ Bd hml0 hP hK
  obtain ⟨rfl, hZ, hh⟩ := hP
  have hx := Bd.exec
  have hby := Bd.bytes
  have hml : c.maxLocals = 3 := hml0
  have hown : s.vm.findClass "com/example/verdictlint/verdictlint/sarif/Cap" = some m.cls := findClass_of_methodNamed Bd.named
  have hnm := (name_of_methodNamed Bd.named Bd.method).1
  have X0 : Stand p l e ({ frames := 0, cells := 0, slots := 0, locals := 0 } : Room) s m #[(.ref w_EXTENSIONS), (.long (100 : Int64))] below meth c s₁ [] 0 0 := Stand.of_body Bd
  have e0 : s₁.heap = h0 := by rw [← hh, Bd.state]; rfl
  have N0 := Fr.nil n0
  have pre0 : ∀ t, Steps p.tables e below (s₁.setTop (mkF m 0 #[.val (.ref w_EXTENSIONS), .val (.long (100 : Int64)), .second] [])) t → Steps p.tables e below (s₁.setTop (entryFrame m #[(.ref w_EXTENSIONS), (.long (100 : Int64))] 3)) t := fun t k => castTop (ef_1 m w_EXTENSIONS (100 : Int64)) k
  obtain ⟨T1, X1, e1, st1⟩ := getF X0 hx hZ hown (host := "") (Or.inl (hw _ (List.mem_of_getElem? (i := 10) rfl))) Via.refl e0 F_EXTENSIONS_kept (g := (mkF m 2 #[.val (.ref w_EXTENSIONS), .val (.long (100 : Int64)), .second] [(.ref w_EXTENSIONS), (.long (100 : Int64))])) rfl rfl (hb hby d1_2)
  obtain ⟨fs, hr, hrun, hended, hW, hsame⟩ := X1.leave (v := (some (.int (0 : Int32)))) (fun h => by rw [Bd.returns] at h; cases h)
  refine ⟨_, _, pre0 _ ?_, hrun, hended, _, _, rfl, ?_, ⟨_, rfl⟩, hW, hsame.mono (by decide) (by decide)⟩
  · show Steps p.tables e below (s₁.setTop (mkF m 0 #[.val (.ref w_EXTENSIONS), .val (.long (100 : Int64)), .second] [])) _
    refine XS.lloadN X0.here hx rfl (hb hby d1_0) rfl ?_
    show Steps p.tables e below (s₁.setTop (mkF m 1 #[.val (.ref w_EXTENSIONS), .val (.long (100 : Int64)), .second] [(.long (100 : Int64))])) _
    refine XS.aloadN X0.here hx rfl (hb hby d1_1) rfl rfl ?_
    show Steps p.tables e below (s₁.setTop (mkF m 2 #[.val (.ref w_EXTENSIONS), .val (.long (100 : Int64)), .second] [(.ref w_EXTENSIONS), (.long (100 : Int64))])) _
    refine st1 _ ?_
    show Steps p.tables e below (T1.setTop (mkF m 5 #[.val (.ref w_EXTENSIONS), .val (.long (100 : Int64)), .second] [(.long (100 : Int64)), (.long (100 : Int64))])) _
    refine XS.lcmp X1.here hx rfl (hb hby d1_5) rfl ?_
    show Steps p.tables e below (T1.setTop (mkF m 6 #[.val (.ref w_EXTENSIONS), .val (.long (100 : Int64)), .second] [(.int (lcmpW (100 : Int64) (100 : Int64)))])) _
    rw [show (lcmpW (100 : Int64) (100 : Int64)) = (0 : Int32) from by decide +kernel]
    show Steps p.tables e below (T1.setTop (mkF m 6 #[.val (.ref w_EXTENSIONS), .val (.long (100 : Int64)), .second] [(.int (0 : Int32))])) _
    refine XS.ifYes X1.here hx rfl (pc0 := 6) (pc' := 13) rfl (hb hby d1_6) rfl ((if0 _ _).trans (flt (by decide +kernel : ¬ ((0 : Int32) < (0 : Int32)))).2.2.2) (by decide) (by decide) ?_
    show Steps p.tables e below (T1.setTop (mkF m 13 #[.val (.ref w_EXTENSIONS), .val (.long (100 : Int64)), .second] [])) _
    refine XS.iconst X1.here hx rfl (hb hby d1_13) ?_
    show Steps p.tables e below (T1.setTop (mkF m 14 #[.val (.ref w_EXTENSIONS), .val (.long (100 : Int64)), .second] [(.int (0 : Int32))])) _
    exact retN X1 hx (t := .boolean) Bd.returns (by simp) (hb hby d1_14) hr
  · exact ⟨rfl, N0, e1⟩
set_option maxRecDepth 65536 in
set_option maxHeartbeats 40000000 in
theorem rm1_14 (l : Launch) (Z : State) (a0 : Array Value) (hw : ∀ d ∈ tables_1, d.before a0 Z = true) (ws : List Jvm.Cond) (w_RUNS w_RESULTS w_LOCATIONS w_THREAD_FLOW_LOCATIONS w_RULES w_EXTENSIONS w_TAGS : Addr) (h0 : Heap) (n0 : Nat) (Z0 : n0 ≤ h0.size) (C : Ctx Z h0 w_RUNS w_RESULTS w_LOCATIONS w_THREAD_FLOW_LOCATIONS w_RULES w_EXTENSIONS w_TAGS)  :
    MetFree l (⟨"com/example/verdictlint/verdictlint/sarif/Cap", "dropsSomeOf", "(J)Z"⟩ : MethodName) (head1 (Jvm.Cond.code (⟨"com/example/verdictlint/verdictlint/sarif/Cap", "dropsSomeOf", "(J)Z"⟩ : MethodName) prog_26_method_8_code 3 (some .boolean) :: ws) ({ frames := 0, cells := 0, slots := 0, locals := 0 } : Room)) (fun a U => a = #[(.ref w_EXTENSIONS), (.long (101 : Int64))] ∧ Z.Warmed39 U.vm ∧ U.heap = h0) (fun _ _ _ _ _ => True) (fun _ U o U' => ∃ v L, o = .returned v ∧ QR h0 n0 (some (.int (1 : Int32))) v U'.heap L ∧ FrameEnd U o U' L ({ frames := 0, cells := 0, slots := 0, locals := 0 } : Room).cells ({ frames := 0, cells := 0, slots := 0, locals := 0 } : Room).slots) := by
  have F_EXTENSIONS_kept := C.2.2.2.2.2.2.2.2.2.2.2.2.2.2.2.2.2.1
  refine MetFree.of_bodySF (plainFor_of_name pn_1) hisR ?_
  intro p e s m args below meth c s₁ Bd hml0 hP hK
  obtain ⟨rfl, hZ, hh⟩ := hP
  have hx := Bd.exec
  have hby := Bd.bytes
  have hml : c.maxLocals = 3 := hml0
  have hown : s.vm.findClass "com/example/verdictlint/verdictlint/sarif/Cap" = some m.cls := findClass_of_methodNamed Bd.named
  have hnm := (name_of_methodNamed Bd.named Bd.method).1
  have X0 : Stand p l e ({ frames := 0, cells := 0, slots := 0, locals := 0 } : Room) s m #[(.ref w_EXTENSIONS), (.long (101 : Int64))] below meth c s₁ [] 0 0 := Stand.of_body Bd
  have e0 : s₁.heap = h0 := by rw [← hh, Bd.state]; rfl
  have N0 := Fr.nil n0
  have pre0 : ∀ t, Steps p.tables e below (s₁.setTop (mkF m 0 #[.val (.ref w_EXTENSIONS), .val (.long (101 : Int64)), .second] [])) t → Steps p.tables e below (s₁.setTop (entryFrame m #[(.ref w_EXTENSIONS), (.long (101 : Int64))] 3)) t := fun t k => castTop (ef_1 m w_EXTENSIONS (101 : Int64)) k
  obtain ⟨T1, X1, e1, st1⟩ := getF X0 hx hZ hown (host := "") (Or.inl (hw _ (List.mem_of_getElem? (i := 10) rfl))) Via.refl e0 F_EXTENSIONS_kept (g := (mkF m 2 #[.val (.ref w_EXTENSIONS), .val (.long (101 : Int64)), .second] [(.ref w_EXTENSIONS), (.long (101 : Int64))])) rfl rfl (hb hby d1_2)
  obtain ⟨fs, hr, hrun, hended, hW, hsame⟩ := X1.leave (v := (some (.int (1 : Int32)))) (fun h => by rw [Bd.returns] at h; cases h)
  refine ⟨_, _, pre0 _ ?_, hrun, hended, _, _, rfl, ?_, ⟨_, rfl⟩, hW, hsame.mono (by decide) (by decide)⟩
  · show Steps p.tables e below (s₁.setTop (mkF m 0 #[.val (.ref w_EXTENSIONS), .val (.long (101 : Int64)), .second] [])) _
    refine XS.lloadN X0.here hx rfl (hb hby d1_0) rfl ?_
    show Steps p.tables e below (s₁.setTop (mkF m 1 #[.val (.ref w_EXTENSIONS), .val (.long (101 : Int64)), .second] [(.long (101 : Int64))])) _
    refine XS.aloadN X0.here hx rfl (hb hby d1_1) rfl rfl ?_
    show Steps p.tables e below (s₁.setTop (mkF m 2 #[.val (.ref w_EXTENSIONS), .val (.long (101 : Int64)), .second] [(.ref w_EXTENSIONS), (.long (101 : Int64))])) _
    refine st1 _ ?_
    show Steps p.tables e below (T1.setTop (mkF m 5 #[.val (.ref w_EXTENSIONS), .val (.long (101 : Int64)), .second] [(.long (100 : Int64)), (.long (101 : Int64))])) _
    refine XS.lcmp X1.here hx rfl (hb hby d1_5) rfl ?_
    show Steps p.tables e below (T1.setTop (mkF m 6 #[.val (.ref w_EXTENSIONS), .val (.long (101 : Int64)), .second] [(.int (lcmpW (101 : Int64) (100 : Int64)))])) _
    rw [show (lcmpW (101 : Int64) (100 : Int64)) = (1 : Int32) from by decide +kernel]
    show Steps p.tables e below (T1.setTop (mkF m 6 #[.val (.ref w_EXTENSIONS), .val (.long (101 : Int64)), .second] [(.int (1 : Int32))])) _
    refine XS.ifNo X1.here hx rfl (hb hby d1_6) rfl ((if0 _ _).trans (tlt (by decide +kernel : (0 : Int32) < (1 : Int32))).2.2.2) ?_
    show Steps p.tables e below (T1.setTop (mkF m 9 #[.val (.ref w_EXTENSIONS), .val (.long (101 : Int64)), .second] [])) _
    refine XS.iconst X1.here hx rfl (hb hby d1_9) ?_
    show Steps p.tables e below (T1.setTop (mkF m 10 #[.val (.ref w_EXTENSIONS), .val (.long (101 : Int64)), .second] [(.int (1 : Int32))])) _
    refine XS.goto X1.here hx rfl (pc0 := 10) (pc' := 14) rfl (hb hby d1_10) (by decide) (by decide) ?_
    show Steps p.tables e below (T1.setTop (mkF m 14 #[.val (.ref w_EXTENSIONS), .val (.long (101 : Int64)), .second] [(.int (1 : Int32))])) _
    exact retN X1 hx (t := .boolean) Bd.returns (by simp) (hb hby d1_14) hr
  · exact ⟨rfl, N0, e1⟩
set_option maxRecDepth 65536 in
set_option maxHeartbeats 40000000 in
theorem rm0_6 (l : Launch) (Z : State) (a0 : Array Value) (hw : ∀ d ∈ tables_1, d.before a0 Z = true) (ws : List Jvm.Cond) (w_RUNS w_RESULTS w_LOCATIONS w_THREAD_FLOW_LOCATIONS w_RULES w_EXTENSIONS w_TAGS : Addr) (i0 : Int32) (i1 : Int64) (h0 : Heap) (n0 : Nat) (Z0 : n0 ≤ h0.size) (C : Ctx Z h0 w_RUNS w_RESULTS w_LOCATIONS w_THREAD_FLOW_LOCATIONS w_RULES w_EXTENSIONS w_TAGS) (hv0 : ((i0 &&& (2147483647 : Int32)) % (7 : Int32)) = (3 : Int32)) (hv1 : (0 : Int32) < (lcmpW i1 (100 : Int64))) :
    MetFree l x (head1 (Jvm.Cond.code x code maxLocals ret :: ws) room_1) (fun a U => a = #[(.int i0), (.long i1)] ∧ Z.Warmed39 U.vm ∧ U.heap = h0) (fun _ _ _ _ _ => True) (fun _ U o U' => ∃ v L, o = .returned v ∧ QR h0 n0 (some (.int (1 : Int32))) v U'.heap L ∧ FrameEnd U o U' L room_1.cells room_1.slots) := by
  have S_EXTENSIONS := C.2.2.2.2.2.2.2.2.2.2.2.2.2.2.2.1
  have E_EXTENSIONS := C.2.2.2.2.2.2.2.2.2.2.2.2.2.2.2.2.1
  refine MetFree.of_bodySF (plainFor_of_name pn_0) hisR ?_
  intro p e s m args below meth c s₁ Bd hml0 hP hK
  obtain ⟨rfl, hZ, hh⟩ := hP
  have hx := Bd.exec
  have hby := Bd.bytes
  have hml : c.maxLocals = 10 := hml0
  have hown : s.vm.findClass "com/example/verdictlint/verdictlint/sarif/CapDropsSomeOfPinLaw" = some m.cls := findClass_of_methodNamed Bd.named
  have hnm := (name_of_methodNamed Bd.named Bd.method).1
  have X0 : Stand p l e room_1 s m #[(.int i0), (.long i1)] below meth c s₁ [] 0 0 := Stand.of_body Bd
  have e0 : s₁.heap = h0 := by rw [← hh, Bd.state]; rfl
  have N0 := Fr.nil n0
  have pre0 : ∀ t, Steps p.tables e below (s₁.setTop (mkF m 0 #[.val (.int i0), .val (.long i1), .second, .unset, .unset, .unset, .unset, .unset, .unset, .unset] [])) t → Steps p.tables e below (s₁.setTop (entryFrame m #[(.int i0), (.long i1)] maxLocals)) t := fun t k => castTop (ef_0 m i0 i1) k
  obtain ⟨T1, X1, e1, st1⟩ := getS2 X0 hx hZ hown (host := "") (Or.inl (hw _ (List.mem_of_getElem? (i := 23) rfl))) Via.refl e0 S_EXTENSIONS (g := (mkF m 66 #[.val (.int i0), .val (.long i1), .second, .val (.int (3 : Int32)), .unset, .unset, .unset, .unset, .unset, .unset] [])) rfl (hb hby at_66)
  obtain ⟨cq2, kq2, q2a, q2b, q2c⟩ := isOf hZ e1 E_EXTENSIONS
  obtain ⟨_, _, ⟨T2, L2, k2, n2⟩, -, X2, ⟨Lc2, hQ2, l2, y2, z2⟩, st2⟩ := X1.virtualBack hx (y := (⟨"com/example/verdictlint/verdictlint/sarif/Cap", "dropsSomeOf", "(J)Z"⟩ : MethodName)) (z := (⟨"com/example/verdictlint/verdictlint/sarif/Cap", "dropsSomeOf", "(J)Z"⟩ : MethodName)) hown (mvT hZ (hw _ (List.mem_of_getElem? (i := 5) rfl))) (mvT hZ (hw _ (List.mem_of_getElem? (i := 6) rfl))) (notFace_of_selects (args := #[]) (mvT hZ (hw _ (List.mem_of_getElem? (i := 8) rfl)))) (mvT hZ (hw _ (List.mem_of_getElem? (i := 8) rfl))) (mvT hZ (hw _ (List.mem_of_getElem? (i := 7) rfl))) (by decide) (backOf (W := 0) (rm1_12 l Z a0 hw [] w_RUNS w_RESULTS w_LOCATIONS w_THREAD_FLOW_LOCATIONS w_RULES w_EXTENSIONS w_TAGS i0 i1 h0 n0 Z0 C hv0 hv1) hZ (hw _ (List.mem_of_getElem? (i := 9) rfl)) (hw _ (List.mem_of_getElem? (i := 2) rfl)) (by decide) (by decide)) q2a q2c (g := (mkF m 128 #[.val (.int i0), .val (.long i1), .second, .val (.int (3 : Int32)), .val (.ref w_EXTENSIONS), .val (.long (100 : Int64)), .second, .unset, .unset, .unset] [(.long i1), (.ref w_EXTENSIONS)])) rfl (by rw [hml]; rfl) (Steps.refl _) (argsL := [(.long i1)]) (rest := []) (lenOf pd_0 rfl) rfl (by show 2 * 0 + _ ≤ _; exact Nat.le_of_eq rfl) (hb hby at_128) (fun _ _ => ⟨rfl, e1, (by decide : 0 + 0 ≤ _), (by decide : 0 + 0 ≤ _)⟩)
  dsimp only [Pt.U, Pt.locs, Pt.cells, Pt.slots] at X2 l2 y2 z2 st2 hQ2
  subst l2 y2 z2
  obtain ⟨rfl, N2q, e2⟩ := hQ2
  have N2 := Fr.app N0 N2q
  obtain ⟨cq3, kq3, q3a, q3b, q3c⟩ := isOf hZ e2 E_EXTENSIONS
  obtain ⟨_, _, ⟨T3, L3, k3, n3⟩, -, X3, ⟨Lc3, hQ3, l3, y3, z3⟩, st3⟩ := X2.virtualBack hx (y := (⟨"com/example/verdictlint/verdictlint/sarif/Cap", "dropsSomeOf", "(J)Z"⟩ : MethodName)) (z := (⟨"com/example/verdictlint/verdictlint/sarif/Cap", "dropsSomeOf", "(J)Z"⟩ : MethodName)) hown (mvT hZ (hw _ (List.mem_of_getElem? (i := 5) rfl))) (mvT hZ (hw _ (List.mem_of_getElem? (i := 6) rfl))) (notFace_of_selects (args := #[]) (mvT hZ (hw _ (List.mem_of_getElem? (i := 8) rfl)))) (mvT hZ (hw _ (List.mem_of_getElem? (i := 8) rfl))) (mvT hZ (hw _ (List.mem_of_getElem? (i := 7) rfl))) (by decide) (backOf (W := 0) (rm1_13 l Z a0 hw [] w_RUNS w_RESULTS w_LOCATIONS w_THREAD_FLOW_LOCATIONS w_RULES w_EXTENSIONS w_TAGS  h0 n0 Z0 C ) hZ (hw _ (List.mem_of_getElem? (i := 9) rfl)) (hw _ (List.mem_of_getElem? (i := 2) rfl)) (by decide) (by decide)) q3a q3c (g := (mkF m 157 #[.val (.int i0), .val (.long i1), .second, .val (.int (3 : Int32)), .val (.ref w_EXTENSIONS), .val (.long (100 : Int64)), .second, .val (.int (1 : Int32)), .unset, .unset] [(.long (100 : Int64)), (.ref w_EXTENSIONS)])) rfl (by rw [hml]; rfl) (Steps.refl _) (argsL := [(.long (100 : Int64))]) (rest := []) (lenOf pd_0 rfl) rfl (by show 2 * 0 + _ ≤ _; exact Nat.le_of_eq rfl) (hb hby at_157) (fun _ _ => ⟨rfl, e2, (by decide : 0 + 0 ≤ _), (by decide : 0 + 0 ≤ _)⟩)
  dsimp only [Pt.U, Pt.locs, Pt.cells, Pt.slots] at X3 l3 y3 z3 st3 hQ3
  subst l3 y3 z3
  obtain ⟨rfl, N3q, e3⟩ := hQ3
  have N3 := Fr.app N2 N3q
  obtain ⟨cq4, kq4, q4a, q4b, q4c⟩ := isOf hZ e3 E_EXTENSIONS
  obtain ⟨_, _, ⟨T4, L4, k4, n4⟩, -, X4, ⟨Lc4, hQ4, l4, y4, z4⟩, st4⟩ := X3.virtualBack hx (y := (⟨"com/example/verdictlint/verdictlint/sarif/Cap", "dropsSomeOf", "(J)Z"⟩ : MethodName)) (z := (⟨"com/example/verdictlint/verdictlint/sarif/Cap", "dropsSomeOf", "(J)Z"⟩ : MethodName)) hown (mvT hZ (hw _ (List.mem_of_getElem? (i := 5) rfl))) (mvT hZ (hw _ (List.mem_of_getElem? (i := 6) rfl))) (notFace_of_selects (args := #[]) (mvT hZ (hw _ (List.mem_of_getElem? (i := 8) rfl)))) (mvT hZ (hw _ (List.mem_of_getElem? (i := 8) rfl))) (mvT hZ (hw _ (List.mem_of_getElem? (i := 7) rfl))) (by decide) (backOf (W := 0) (rm1_14 l Z a0 hw [] w_RUNS w_RESULTS w_LOCATIONS w_THREAD_FLOW_LOCATIONS w_RULES w_EXTENSIONS w_TAGS  h0 n0 Z0 C ) hZ (hw _ (List.mem_of_getElem? (i := 9) rfl)) (hw _ (List.mem_of_getElem? (i := 2) rfl)) (by decide) (by decide)) q4a q4c (g := (mkF m 176 #[.val (.int i0), .val (.long i1), .second, .val (.int (3 : Int32)), .val (.ref w_EXTENSIONS), .val (.long (100 : Int64)), .second, .val (.int (1 : Int32)), .val (.int (1 : Int32)), .unset] [(.long (101 : Int64)), (.ref w_EXTENSIONS)])) rfl (by rw [hml]; rfl) (Steps.refl _) (argsL := [(.long (101 : Int64))]) (rest := []) (lenOf pd_0 rfl) rfl (by show 2 * 0 + _ ≤ _; exact Nat.le_of_eq rfl) (hb hby at_176) (fun _ _ => ⟨rfl, e3, (by decide : 0 + 0 ≤ _), (by decide : 0 + 0 ≤ _)⟩)
  dsimp only [Pt.U, Pt.locs, Pt.cells, Pt.slots] at X4 l4 y4 z4 st4 hQ4
  subst l4 y4 z4
  obtain ⟨rfl, N4q, e4⟩ := hQ4
  have N4 := Fr.app N3 N4q
  obtain ⟨fs, hr, hrun, hended, hW, hsame⟩ := X4.leave (v := (some (.int (1 : Int32)))) (fun h => by rw [Bd.returns] at h; cases h)
  refine ⟨_, _, pre0 _ ?_, hrun, hended, _, _, rfl, ?_, ⟨_, rfl⟩, hW, hsame.mono (by decide) (by decide)⟩
  · show Steps p.tables e below (s₁.setTop (mkF m 0 #[.val (.int i0), .val (.long i1), .second, .unset, .unset, .unset, .unset, .unset, .unset, .unset] [])) _
    refine XS.iloadN X0.here hx rfl (hb hby at_0) rfl ?_
    show Steps p.tables e below (s₁.setTop (mkF m 1 #[.val (.int i0), .val (.long i1), .second, .unset, .unset, .unset, .unset, .unset, .unset, .unset] [(.int i0)])) _
    refine X0.ldcInt hx hown (mvT hZ (hw _ (List.mem_of_getElem? (i := 0) rfl))) (g := (mkF m 1 #[.val (.int i0), .val (.long i1), .second, .unset, .unset, .unset, .unset, .unset, .unset, .unset] [(.int i0)])) rfl (hb hby at_1) _ ?_
    show Steps p.tables e below (s₁.setTop (mkF m 3 #[.val (.int i0), .val (.long i1), .second, .unset, .unset, .unset, .unset, .unset, .unset, .unset] [(.int (2147483647 : Int32)), (.int i0)])) _
    refine XS.iand X0.here hx rfl (hb hby at_3) rfl ?_
    show Steps p.tables e below (s₁.setTop (mkF m 4 #[.val (.int i0), .val (.long i1), .second, .unset, .unset, .unset, .unset, .unset, .unset, .unset] [(.int (i0 &&& (2147483647 : Int32)))])) _
    refine XS.bipush X0.here hx rfl (hb hby at_4) ?_
    show Steps p.tables e below (s₁.setTop (mkF m 6 #[.val (.int i0), .val (.long i1), .second, .unset, .unset, .unset, .unset, .unset, .unset, .unset] [(.int (7 : Int32)), (.int (i0 &&& (2147483647 : Int32)))])) _
    refine iremM (g := (mkF m 6 #[.val (.int i0), .val (.long i1), .second, .unset, .unset, .unset, .unset, .unset, .unset, .unset] [(.int (7 : Int32)), (.int (i0 &&& (2147483647 : Int32)))])) X0 hx rfl (hb hby at_6) rfl (by decide) ?_
    show Steps p.tables e below (s₁.setTop (mkF m 7 #[.val (.int i0), .val (.long i1), .second, .unset, .unset, .unset, .unset, .unset, .unset, .unset] [(.int ((i0 &&& (2147483647 : Int32)) % (7 : Int32)))])) _
    rw [hv0]
    show Steps p.tables e below (s₁.setTop (mkF m 7 #[.val (.int i0), .val (.long i1), .second, .unset, .unset, .unset, .unset, .unset, .unset, .unset] [(.int (3 : Int32))])) _
    refine XS.istoreN X0.here hx rfl (hb hby at_7) rfl (l' := #[.val (.int i0), .val (.long i1), .second, .val (.int (3 : Int32)), .unset, .unset, .unset, .unset, .unset, .unset]) rfl ?_
    show Steps p.tables e below (s₁.setTop (mkF m 8 #[.val (.int i0), .val (.long i1), .second, .val (.int (3 : Int32)), .unset, .unset, .unset, .unset, .unset, .unset] [])) _
    refine XS.iloadN X0.here hx rfl (hb hby at_8) rfl ?_
    show Steps p.tables e below (s₁.setTop (mkF m 9 #[.val (.int i0), .val (.long i1), .second, .val (.int (3 : Int32)), .unset, .unset, .unset, .unset, .unset, .unset] [(.int (3 : Int32))])) _
    refine XS.ifYes X0.here hx rfl (pc0 := 9) (pc' := 25) rfl (hb hby at_9) rfl ((if0 _ _).trans (feq (by decide +kernel : ¬ ((3 : Int32) = (0 : Int32)))).2) (by decide) (by decide) ?_
    show Steps p.tables e below (s₁.setTop (mkF m 25 #[.val (.int i0), .val (.long i1), .second, .val (.int (3 : Int32)), .unset, .unset, .unset, .unset, .unset, .unset] [])) _
    refine XS.iloadN X0.here hx rfl (hb hby at_25) rfl ?_
    show Steps p.tables e below (s₁.setTop (mkF m 26 #[.val (.int i0), .val (.long i1), .second, .val (.int (3 : Int32)), .unset, .unset, .unset, .unset, .unset, .unset] [(.int (3 : Int32))])) _
    refine XS.iconst X0.here hx rfl (hb hby at_26) ?_
    show Steps p.tables e below (s₁.setTop (mkF m 27 #[.val (.int i0), .val (.long i1), .second, .val (.int (3 : Int32)), .unset, .unset, .unset, .unset, .unset, .unset] [(.int (1 : Int32)), (.int (3 : Int32))])) _
    refine XS.icmpYes X0.here hx rfl (pc0 := 27) (pc' := 43) rfl (hb hby at_27) rfl (feq (by decide +kernel : ¬ ((3 : Int32) = (1 : Int32)))).2 (by decide) (by decide) ?_
    show Steps p.tables e below (s₁.setTop (mkF m 43 #[.val (.int i0), .val (.long i1), .second, .val (.int (3 : Int32)), .unset, .unset, .unset, .unset, .unset, .unset] [])) _
    refine XS.iloadN X0.here hx rfl (hb hby at_43) rfl ?_
    show Steps p.tables e below (s₁.setTop (mkF m 44 #[.val (.int i0), .val (.long i1), .second, .val (.int (3 : Int32)), .unset, .unset, .unset, .unset, .unset, .unset] [(.int (3 : Int32))])) _
    refine XS.iconst X0.here hx rfl (hb hby at_44) ?_
    show Steps p.tables e below (s₁.setTop (mkF m 45 #[.val (.int i0), .val (.long i1), .second, .val (.int (3 : Int32)), .unset, .unset, .unset, .unset, .unset, .unset] [(.int (2 : Int32)), (.int (3 : Int32))])) _
    refine XS.icmpYes X0.here hx rfl (pc0 := 45) (pc' := 61) rfl (hb hby at_45) rfl (feq (by decide +kernel : ¬ ((3 : Int32) = (2 : Int32)))).2 (by decide) (by decide) ?_
    show Steps p.tables e below (s₁.setTop (mkF m 61 #[.val (.int i0), .val (.long i1), .second, .val (.int (3 : Int32)), .unset, .unset, .unset, .unset, .unset, .unset] [])) _
    refine XS.iloadN X0.here hx rfl (hb hby at_61) rfl ?_
    show Steps p.tables e below (s₁.setTop (mkF m 62 #[.val (.int i0), .val (.long i1), .second, .val (.int (3 : Int32)), .unset, .unset, .unset, .unset, .unset, .unset] [(.int (3 : Int32))])) _
    refine XS.iconst X0.here hx rfl (hb hby at_62) ?_
    show Steps p.tables e below (s₁.setTop (mkF m 63 #[.val (.int i0), .val (.long i1), .second, .val (.int (3 : Int32)), .unset, .unset, .unset, .unset, .unset, .unset] [(.int (3 : Int32)), (.int (3 : Int32))])) _
    refine XS.icmpNo X0.here hx rfl (hb hby at_63) rfl (teq (by decide +kernel : (3 : Int32) = (3 : Int32))).2 ?_
    show Steps p.tables e below (s₁.setTop (mkF m 66 #[.val (.int i0), .val (.long i1), .second, .val (.int (3 : Int32)), .unset, .unset, .unset, .unset, .unset, .unset] [])) _
    refine st1 _ ?_
    show Steps p.tables e below (T1.setTop (mkF m 69 #[.val (.int i0), .val (.long i1), .second, .val (.int (3 : Int32)), .unset, .unset, .unset, .unset, .unset, .unset] [(.ref w_EXTENSIONS)])) _
    refine XS.astore X1.here hx rfl (hb hby at_69) rfl rfl (l' := #[.val (.int i0), .val (.long i1), .second, .val (.int (3 : Int32)), .val (.ref w_EXTENSIONS), .unset, .unset, .unset, .unset, .unset]) rfl ?_
    show Steps p.tables e below (T1.setTop (mkF m 71 #[.val (.int i0), .val (.long i1), .second, .val (.int (3 : Int32)), .val (.ref w_EXTENSIONS), .unset, .unset, .unset, .unset, .unset] [])) _
    refine X1.ldc2Long hx hown (mvT hZ (hw _ (List.mem_of_getElem? (i := 17) rfl))) (g := (mkF m 71 #[.val (.int i0), .val (.long i1), .second, .val (.int (3 : Int32)), .val (.ref w_EXTENSIONS), .unset, .unset, .unset, .unset, .unset] [])) rfl (hb hby at_71) _ ?_
    show Steps p.tables e below (T1.setTop (mkF m 74 #[.val (.int i0), .val (.long i1), .second, .val (.int (3 : Int32)), .val (.ref w_EXTENSIONS), .unset, .unset, .unset, .unset, .unset] [(.long (100 : Int64))])) _
    refine XS.lstore X1.here hx rfl (hb hby at_74) rfl (l' := #[.val (.int i0), .val (.long i1), .second, .val (.int (3 : Int32)), .val (.ref w_EXTENSIONS), .val (.long (100 : Int64)), .second, .unset, .unset, .unset]) rfl ?_
    show Steps p.tables e below (T1.setTop (mkF m 76 #[.val (.int i0), .val (.long i1), .second, .val (.int (3 : Int32)), .val (.ref w_EXTENSIONS), .val (.long (100 : Int64)), .second, .unset, .unset, .unset] [])) _
    refine XS.goto X1.here hx rfl (pc0 := 76) (pc' := 125) rfl (hb hby at_76) (by decide) (by decide) ?_
    show Steps p.tables e below (T1.setTop (mkF m 125 #[.val (.int i0), .val (.long i1), .second, .val (.int (3 : Int32)), .val (.ref w_EXTENSIONS), .val (.long (100 : Int64)), .second, .unset, .unset, .unset] [])) _
    refine XS.aload X1.here hx rfl (hb hby at_125) rfl rfl ?_
    show Steps p.tables e below (T1.setTop (mkF m 127 #[.val (.int i0), .val (.long i1), .second, .val (.int (3 : Int32)), .val (.ref w_EXTENSIONS), .val (.long (100 : Int64)), .second, .unset, .unset, .unset] [(.ref w_EXTENSIONS)])) _
    refine XS.lloadN X1.here hx rfl (hb hby at_127) rfl ?_
    show Steps p.tables e below (T1.setTop (mkF m 128 #[.val (.int i0), .val (.long i1), .second, .val (.int (3 : Int32)), .val (.ref w_EXTENSIONS), .val (.long (100 : Int64)), .second, .unset, .unset, .unset] [(.long i1), (.ref w_EXTENSIONS)])) _
    refine st2.trans ?_
    show Steps p.tables e below (T2.setTop (mkF m 131 #[.val (.int i0), .val (.long i1), .second, .val (.int (3 : Int32)), .val (.ref w_EXTENSIONS), .val (.long (100 : Int64)), .second, .unset, .unset, .unset] [(.int (1 : Int32))])) _
    refine XS.lloadN X2.here hx rfl (hb hby at_131) rfl ?_
    show Steps p.tables e below (T2.setTop (mkF m 132 #[.val (.int i0), .val (.long i1), .second, .val (.int (3 : Int32)), .val (.ref w_EXTENSIONS), .val (.long (100 : Int64)), .second, .unset, .unset, .unset] [(.long i1), (.int (1 : Int32))])) _
    refine XS.lload X2.here hx rfl (hb hby at_132) rfl ?_
    show Steps p.tables e below (T2.setTop (mkF m 134 #[.val (.int i0), .val (.long i1), .second, .val (.int (3 : Int32)), .val (.ref w_EXTENSIONS), .val (.long (100 : Int64)), .second, .unset, .unset, .unset] [(.long (100 : Int64)), (.long i1), (.int (1 : Int32))])) _
    refine XS.lcmp X2.here hx rfl (hb hby at_134) rfl ?_
    show Steps p.tables e below (T2.setTop (mkF m 135 #[.val (.int i0), .val (.long i1), .second, .val (.int (3 : Int32)), .val (.ref w_EXTENSIONS), .val (.long (100 : Int64)), .second, .unset, .unset, .unset] [(.int (lcmpW i1 (100 : Int64))), (.int (1 : Int32))])) _
    refine XS.ifNo X2.here hx rfl (hb hby at_135) rfl ((if0 _ _).trans (tlt hv1).2.2.2) ?_
    show Steps p.tables e below (T2.setTop (mkF m 138 #[.val (.int i0), .val (.long i1), .second, .val (.int (3 : Int32)), .val (.ref w_EXTENSIONS), .val (.long (100 : Int64)), .second, .unset, .unset, .unset] [(.int (1 : Int32))])) _
    refine XS.iconst X2.here hx rfl (hb hby at_138) ?_
    show Steps p.tables e below (T2.setTop (mkF m 139 #[.val (.int i0), .val (.long i1), .second, .val (.int (3 : Int32)), .val (.ref w_EXTENSIONS), .val (.long (100 : Int64)), .second, .unset, .unset, .unset] [(.int (1 : Int32)), (.int (1 : Int32))])) _
    refine XS.goto X2.here hx rfl (pc0 := 139) (pc' := 143) rfl (hb hby at_139) (by decide) (by decide) ?_
    show Steps p.tables e below (T2.setTop (mkF m 143 #[.val (.int i0), .val (.long i1), .second, .val (.int (3 : Int32)), .val (.ref w_EXTENSIONS), .val (.long (100 : Int64)), .second, .unset, .unset, .unset] [(.int (1 : Int32)), (.int (1 : Int32))])) _
    refine XS.icmpNo X2.here hx rfl (hb hby at_143) rfl (teq (by decide +kernel : (1 : Int32) = (1 : Int32))).2 ?_
    show Steps p.tables e below (T2.setTop (mkF m 146 #[.val (.int i0), .val (.long i1), .second, .val (.int (3 : Int32)), .val (.ref w_EXTENSIONS), .val (.long (100 : Int64)), .second, .unset, .unset, .unset] [])) _
    refine XS.iconst X2.here hx rfl (hb hby at_146) ?_
    show Steps p.tables e below (T2.setTop (mkF m 147 #[.val (.int i0), .val (.long i1), .second, .val (.int (3 : Int32)), .val (.ref w_EXTENSIONS), .val (.long (100 : Int64)), .second, .unset, .unset, .unset] [(.int (1 : Int32))])) _
    refine XS.goto X2.here hx rfl (pc0 := 147) (pc' := 151) rfl (hb hby at_147) (by decide) (by decide) ?_
    show Steps p.tables e below (T2.setTop (mkF m 151 #[.val (.int i0), .val (.long i1), .second, .val (.int (3 : Int32)), .val (.ref w_EXTENSIONS), .val (.long (100 : Int64)), .second, .unset, .unset, .unset] [(.int (1 : Int32))])) _
    refine XS.istore X2.here hx rfl (hb hby at_151) rfl (l' := #[.val (.int i0), .val (.long i1), .second, .val (.int (3 : Int32)), .val (.ref w_EXTENSIONS), .val (.long (100 : Int64)), .second, .val (.int (1 : Int32)), .unset, .unset]) rfl ?_
    show Steps p.tables e below (T2.setTop (mkF m 153 #[.val (.int i0), .val (.long i1), .second, .val (.int (3 : Int32)), .val (.ref w_EXTENSIONS), .val (.long (100 : Int64)), .second, .val (.int (1 : Int32)), .unset, .unset] [])) _
    refine XS.aload X2.here hx rfl (hb hby at_153) rfl rfl ?_
    show Steps p.tables e below (T2.setTop (mkF m 155 #[.val (.int i0), .val (.long i1), .second, .val (.int (3 : Int32)), .val (.ref w_EXTENSIONS), .val (.long (100 : Int64)), .second, .val (.int (1 : Int32)), .unset, .unset] [(.ref w_EXTENSIONS)])) _
    refine XS.lload X2.here hx rfl (hb hby at_155) rfl ?_
    show Steps p.tables e below (T2.setTop (mkF m 157 #[.val (.int i0), .val (.long i1), .second, .val (.int (3 : Int32)), .val (.ref w_EXTENSIONS), .val (.long (100 : Int64)), .second, .val (.int (1 : Int32)), .unset, .unset] [(.long (100 : Int64)), (.ref w_EXTENSIONS)])) _
    refine st3.trans ?_
    show Steps p.tables e below (T3.setTop (mkF m 160 #[.val (.int i0), .val (.long i1), .second, .val (.int (3 : Int32)), .val (.ref w_EXTENSIONS), .val (.long (100 : Int64)), .second, .val (.int (1 : Int32)), .unset, .unset] [(.int (0 : Int32))])) _
    refine XS.ifNo X3.here hx rfl (hb hby at_160) rfl ((if0 _ _).trans (teq (by decide +kernel : (0 : Int32) = (0 : Int32))).2) ?_
    show Steps p.tables e below (T3.setTop (mkF m 163 #[.val (.int i0), .val (.long i1), .second, .val (.int (3 : Int32)), .val (.ref w_EXTENSIONS), .val (.long (100 : Int64)), .second, .val (.int (1 : Int32)), .unset, .unset] [])) _
    refine XS.iconst X3.here hx rfl (hb hby at_163) ?_
    show Steps p.tables e below (T3.setTop (mkF m 164 #[.val (.int i0), .val (.long i1), .second, .val (.int (3 : Int32)), .val (.ref w_EXTENSIONS), .val (.long (100 : Int64)), .second, .val (.int (1 : Int32)), .unset, .unset] [(.int (1 : Int32))])) _
    refine XS.goto X3.here hx rfl (pc0 := 164) (pc' := 168) rfl (hb hby at_164) (by decide) (by decide) ?_
    show Steps p.tables e below (T3.setTop (mkF m 168 #[.val (.int i0), .val (.long i1), .second, .val (.int (3 : Int32)), .val (.ref w_EXTENSIONS), .val (.long (100 : Int64)), .second, .val (.int (1 : Int32)), .unset, .unset] [(.int (1 : Int32))])) _
    refine XS.istore X3.here hx rfl (hb hby at_168) rfl (l' := #[.val (.int i0), .val (.long i1), .second, .val (.int (3 : Int32)), .val (.ref w_EXTENSIONS), .val (.long (100 : Int64)), .second, .val (.int (1 : Int32)), .val (.int (1 : Int32)), .unset]) rfl ?_
    show Steps p.tables e below (T3.setTop (mkF m 170 #[.val (.int i0), .val (.long i1), .second, .val (.int (3 : Int32)), .val (.ref w_EXTENSIONS), .val (.long (100 : Int64)), .second, .val (.int (1 : Int32)), .val (.int (1 : Int32)), .unset] [])) _
    refine XS.aload X3.here hx rfl (hb hby at_170) rfl rfl ?_
    show Steps p.tables e below (T3.setTop (mkF m 172 #[.val (.int i0), .val (.long i1), .second, .val (.int (3 : Int32)), .val (.ref w_EXTENSIONS), .val (.long (100 : Int64)), .second, .val (.int (1 : Int32)), .val (.int (1 : Int32)), .unset] [(.ref w_EXTENSIONS)])) _
    refine XS.lload X3.here hx rfl (hb hby at_172) rfl ?_
    show Steps p.tables e below (T3.setTop (mkF m 174 #[.val (.int i0), .val (.long i1), .second, .val (.int (3 : Int32)), .val (.ref w_EXTENSIONS), .val (.long (100 : Int64)), .second, .val (.int (1 : Int32)), .val (.int (1 : Int32)), .unset] [(.long (100 : Int64)), (.ref w_EXTENSIONS)])) _
    refine XS.lconst X3.here hx rfl (hb hby at_174) ?_
    show Steps p.tables e below (T3.setTop (mkF m 175 #[.val (.int i0), .val (.long i1), .second, .val (.int (3 : Int32)), .val (.ref w_EXTENSIONS), .val (.long (100 : Int64)), .second, .val (.int (1 : Int32)), .val (.int (1 : Int32)), .unset] [(.long (1 : Int64)), (.long (100 : Int64)), (.ref w_EXTENSIONS)])) _
    refine XS.ladd X3.here hx rfl (hb hby at_175) rfl ?_
    show Steps p.tables e below (T3.setTop (mkF m 176 #[.val (.int i0), .val (.long i1), .second, .val (.int (3 : Int32)), .val (.ref w_EXTENSIONS), .val (.long (100 : Int64)), .second, .val (.int (1 : Int32)), .val (.int (1 : Int32)), .unset] [(.long ((100 : Int64) + (1 : Int64))), (.ref w_EXTENSIONS)])) _
    rw [show ((100 : Int64) + (1 : Int64)) = (101 : Int64) from by decide +kernel]
    show Steps p.tables e below (T3.setTop (mkF m 176 #[.val (.int i0), .val (.long i1), .second, .val (.int (3 : Int32)), .val (.ref w_EXTENSIONS), .val (.long (100 : Int64)), .second, .val (.int (1 : Int32)), .val (.int (1 : Int32)), .unset] [(.long (101 : Int64)), (.ref w_EXTENSIONS)])) _
    refine st4.trans ?_
    show Steps p.tables e below (T4.setTop (mkF m 179 #[.val (.int i0), .val (.long i1), .second, .val (.int (3 : Int32)), .val (.ref w_EXTENSIONS), .val (.long (100 : Int64)), .second, .val (.int (1 : Int32)), .val (.int (1 : Int32)), .unset] [(.int (1 : Int32))])) _
    refine XS.istore X4.here hx rfl (hb hby at_179) rfl (l' := #[.val (.int i0), .val (.long i1), .second, .val (.int (3 : Int32)), .val (.ref w_EXTENSIONS), .val (.long (100 : Int64)), .second, .val (.int (1 : Int32)), .val (.int (1 : Int32)), .val (.int (1 : Int32))]) rfl ?_
    show Steps p.tables e below (T4.setTop (mkF m 181 #[.val (.int i0), .val (.long i1), .second, .val (.int (3 : Int32)), .val (.ref w_EXTENSIONS), .val (.long (100 : Int64)), .second, .val (.int (1 : Int32)), .val (.int (1 : Int32)), .val (.int (1 : Int32))] [])) _
    refine XS.iload X4.here hx rfl (hb hby at_181) rfl ?_
    show Steps p.tables e below (T4.setTop (mkF m 183 #[.val (.int i0), .val (.long i1), .second, .val (.int (3 : Int32)), .val (.ref w_EXTENSIONS), .val (.long (100 : Int64)), .second, .val (.int (1 : Int32)), .val (.int (1 : Int32)), .val (.int (1 : Int32))] [(.int (1 : Int32))])) _
    refine XS.ifNo X4.here hx rfl (hb hby at_183) rfl ((if0 _ _).trans (feq (by decide +kernel : ¬ ((1 : Int32) = (0 : Int32)))).1) ?_
    show Steps p.tables e below (T4.setTop (mkF m 186 #[.val (.int i0), .val (.long i1), .second, .val (.int (3 : Int32)), .val (.ref w_EXTENSIONS), .val (.long (100 : Int64)), .second, .val (.int (1 : Int32)), .val (.int (1 : Int32)), .val (.int (1 : Int32))] [])) _
    refine XS.iload X4.here hx rfl (hb hby at_186) rfl ?_
    show Steps p.tables e below (T4.setTop (mkF m 188 #[.val (.int i0), .val (.long i1), .second, .val (.int (3 : Int32)), .val (.ref w_EXTENSIONS), .val (.long (100 : Int64)), .second, .val (.int (1 : Int32)), .val (.int (1 : Int32)), .val (.int (1 : Int32))] [(.int (1 : Int32))])) _
    refine XS.ifNo X4.here hx rfl (hb hby at_188) rfl ((if0 _ _).trans (feq (by decide +kernel : ¬ ((1 : Int32) = (0 : Int32)))).1) ?_
    show Steps p.tables e below (T4.setTop (mkF m 191 #[.val (.int i0), .val (.long i1), .second, .val (.int (3 : Int32)), .val (.ref w_EXTENSIONS), .val (.long (100 : Int64)), .second, .val (.int (1 : Int32)), .val (.int (1 : Int32)), .val (.int (1 : Int32))] [])) _
    refine XS.iload X4.here hx rfl (hb hby at_191) rfl ?_
    show Steps p.tables e below (T4.setTop (mkF m 193 #[.val (.int i0), .val (.long i1), .second, .val (.int (3 : Int32)), .val (.ref w_EXTENSIONS), .val (.long (100 : Int64)), .second, .val (.int (1 : Int32)), .val (.int (1 : Int32)), .val (.int (1 : Int32))] [(.int (1 : Int32))])) _
    refine XS.ifNo X4.here hx rfl (hb hby at_193) rfl ((if0 _ _).trans (feq (by decide +kernel : ¬ ((1 : Int32) = (0 : Int32)))).1) ?_
    show Steps p.tables e below (T4.setTop (mkF m 196 #[.val (.int i0), .val (.long i1), .second, .val (.int (3 : Int32)), .val (.ref w_EXTENSIONS), .val (.long (100 : Int64)), .second, .val (.int (1 : Int32)), .val (.int (1 : Int32)), .val (.int (1 : Int32))] [])) _
    refine XS.iconst X4.here hx rfl (hb hby at_196) ?_
    show Steps p.tables e below (T4.setTop (mkF m 197 #[.val (.int i0), .val (.long i1), .second, .val (.int (3 : Int32)), .val (.ref w_EXTENSIONS), .val (.long (100 : Int64)), .second, .val (.int (1 : Int32)), .val (.int (1 : Int32)), .val (.int (1 : Int32))] [(.int (1 : Int32))])) _
    refine XS.goto X4.here hx rfl (pc0 := 197) (pc' := 201) rfl (hb hby at_197) (by decide) (by decide) ?_
    show Steps p.tables e below (T4.setTop (mkF m 201 #[.val (.int i0), .val (.long i1), .second, .val (.int (3 : Int32)), .val (.ref w_EXTENSIONS), .val (.long (100 : Int64)), .second, .val (.int (1 : Int32)), .val (.int (1 : Int32)), .val (.int (1 : Int32))] [(.int (1 : Int32))])) _
    exact retN X4 hx (t := .boolean) Bd.returns (by simp) (hb hby at_201) hr
  · exact ⟨rfl, N4, e4⟩
set_option maxRecDepth 65536 in
set_option maxHeartbeats 40000000 in
theorem rm1_15 (l : Launch) (Z : State) (a0 : Array Value) (hw : ∀ d ∈ tables_1, d.before a0 Z = true) (ws : List Jvm.Cond) (w_RUNS w_RESULTS w_LOCATIONS w_THREAD_FLOW_LOCATIONS w_RULES w_EXTENSIONS w_TAGS : Addr) (i0 : Int32) (i1 : Int64) (h0 : Heap) (n0 : Nat) (Z0 : n0 ≤ h0.size) (C : Ctx Z h0 w_RUNS w_RESULTS w_LOCATIONS w_THREAD_FLOW_LOCATIONS w_RULES w_EXTENSIONS w_TAGS) (hv0 : ((i0 &&& (2147483647 : Int32)) % (7 : Int32)) = (3 : Int32)) (hv1 : ¬ ((0 : Int32) < (lcmpW i1 (100 : Int64)))) :
    MetFree l (⟨"com/example/verdictlint/verdictlint/sarif/Cap", "dropsSomeOf", "(J)Z"⟩ : MethodName) (head1 (Jvm.Cond.code (⟨"com/example/verdictlint/verdictlint/sarif/Cap", "dropsSomeOf", "(J)Z"⟩ : MethodName) prog_26_method_8_code 3 (some .boolean) :: ws) ({ frames := 0, cells := 0, slots := 0, locals := 0 } : Room)) (fun a U => a = #[(.ref w_EXTENSIONS), (.long i1)] ∧ Z.Warmed39 U.vm ∧ U.heap = h0) (fun _ _ _ _ _ => True) (fun _ U o U' => ∃ v L, o = .returned v ∧ QR h0 n0 (some (.int (0 : Int32))) v U'.heap L ∧ FrameEnd U o U' L ({ frames := 0, cells := 0, slots := 0, locals := 0 } : Room).cells ({ frames := 0, cells := 0, slots := 0, locals := 0 } : Room).slots) := by
  have F_EXTENSIONS_kept := C.2.2.2.2.2.2.2.2.2.2.2.2.2.2.2.2.2.1
  refine MetFree.of_bodySF (plainFor_of_name pn_1) hisR ?_
  intro p e s m args below meth c s₁ Bd hml0 hP hK
  obtain ⟨rfl, hZ, hh⟩ := hP
  have hx := Bd.exec
  have hby := Bd.bytes
  have hml : c.maxLocals = 3 := hml0
  have hown : s.vm.findClass "com/example/verdictlint/verdictlint/sarif/Cap" = some m.cls := findClass_of_methodNamed Bd.named
  have hnm := (name_of_methodNamed Bd.named Bd.method).1
  have X0 : Stand p l e ({ frames := 0, cells := 0, slots := 0, locals := 0 } : Room) s m #[(.ref w_EXTENSIONS), (.long i1)] below meth c s₁ [] 0 0 := Stand.of_body Bd
  have e0 : s₁.heap = h0 := by rw [← hh, Bd.state]; rfl
  have N0 := Fr.nil n0
  have pre0 : ∀ t, Steps p.tables e below (s₁.setTop (mkF m 0 #[.val (.ref w_EXTENSIONS), .val (.long i1), .second] [])) t → Steps p.tables e below (s₁.setTop (entryFrame m #[(.ref w_EXTENSIONS), (.long i1)] 3)) t := fun t k => castTop (ef_1 m w_EXTENSIONS i1) k
  obtain ⟨T1, X1, e1, st1⟩ := getF X0 hx hZ hown (host := "") (Or.inl (hw _ (List.mem_of_getElem? (i := 10) rfl))) Via.refl e0 F_EXTENSIONS_kept (g := (mkF m 2 #[.val (.ref w_EXTENSIONS), .val (.long i1), .second] [(.ref w_EXTENSIONS), (.long i1)])) rfl rfl (hb hby d1_2)
  obtain ⟨fs, hr, hrun, hended, hW, hsame⟩ := X1.leave (v := (some (.int (0 : Int32)))) (fun h => by rw [Bd.returns] at h; cases h)
  refine ⟨_, _, pre0 _ ?_, hrun, hended, _, _, rfl, ?_, ⟨_, rfl⟩, hW, hsame.mono (by decide) (by decide)⟩
  · show Steps p.tables e below (s₁.setTop (mkF m 0 #[.val (.ref w_EXTENSIONS), .val (.long i1), .second] [])) _
    refine XS.lloadN X0.here hx rfl (hb hby d1_0) rfl ?_
    show Steps p.tables e below (s₁.setTop (mkF m 1 #[.val (.ref w_EXTENSIONS), .val (.long i1), .second] [(.long i1)])) _
    refine XS.aloadN X0.here hx rfl (hb hby d1_1) rfl rfl ?_
    show Steps p.tables e below (s₁.setTop (mkF m 2 #[.val (.ref w_EXTENSIONS), .val (.long i1), .second] [(.ref w_EXTENSIONS), (.long i1)])) _
    refine st1 _ ?_
    show Steps p.tables e below (T1.setTop (mkF m 5 #[.val (.ref w_EXTENSIONS), .val (.long i1), .second] [(.long (100 : Int64)), (.long i1)])) _
    refine XS.lcmp X1.here hx rfl (hb hby d1_5) rfl ?_
    show Steps p.tables e below (T1.setTop (mkF m 6 #[.val (.ref w_EXTENSIONS), .val (.long i1), .second] [(.int (lcmpW i1 (100 : Int64)))])) _
    refine XS.ifYes X1.here hx rfl (pc0 := 6) (pc' := 13) rfl (hb hby d1_6) rfl ((if0 _ _).trans (flt hv1).2.2.2) (by decide) (by decide) ?_
    show Steps p.tables e below (T1.setTop (mkF m 13 #[.val (.ref w_EXTENSIONS), .val (.long i1), .second] [])) _
    refine XS.iconst X1.here hx rfl (hb hby d1_13) ?_
    show Steps p.tables e below (T1.setTop (mkF m 14 #[.val (.ref w_EXTENSIONS), .val (.long i1), .second] [(.int (0 : Int32))])) _
    exact retN X1 hx (t := .boolean) Bd.returns (by simp) (hb hby d1_14) hr
  · exact ⟨rfl, N0, e1⟩
set_option maxRecDepth 65536 in
set_option maxHeartbeats 40000000 in
theorem rm0_7 (l : Launch) (Z : State) (a0 : Array Value) (hw : ∀ d ∈ tables_1, d.before a0 Z = true) (ws : List Jvm.Cond) (w_RUNS w_RESULTS w_LOCATIONS w_THREAD_FLOW_LOCATIONS w_RULES w_EXTENSIONS w_TAGS : Addr) (i0 : Int32) (i1 : Int64) (h0 : Heap) (n0 : Nat) (Z0 : n0 ≤ h0.size) (C : Ctx Z h0 w_RUNS w_RESULTS w_LOCATIONS w_THREAD_FLOW_LOCATIONS w_RULES w_EXTENSIONS w_TAGS) (hv0 : ((i0 &&& (2147483647 : Int32)) % (7 : Int32)) = (3 : Int32)) (hv1 : ¬ ((0 : Int32) < (lcmpW i1 (100 : Int64)))) :
    MetFree l x (head1 (Jvm.Cond.code x code maxLocals ret :: ws) room_1) (fun a U => a = #[(.int i0), (.long i1)] ∧ Z.Warmed39 U.vm ∧ U.heap = h0) (fun _ _ _ _ _ => True) (fun _ U o U' => ∃ v L, o = .returned v ∧ QR h0 n0 (some (.int (1 : Int32))) v U'.heap L ∧ FrameEnd U o U' L room_1.cells room_1.slots) := by
  have S_EXTENSIONS := C.2.2.2.2.2.2.2.2.2.2.2.2.2.2.2.1
  have E_EXTENSIONS := C.2.2.2.2.2.2.2.2.2.2.2.2.2.2.2.2.1
  refine MetFree.of_bodySF (plainFor_of_name pn_0) hisR ?_
  intro p e s m args below meth c s₁ Bd hml0 hP hK
  obtain ⟨rfl, hZ, hh⟩ := hP
  have hx := Bd.exec
  have hby := Bd.bytes
  have hml : c.maxLocals = 10 := hml0
  have hown : s.vm.findClass "com/example/verdictlint/verdictlint/sarif/CapDropsSomeOfPinLaw" = some m.cls := findClass_of_methodNamed Bd.named
  have hnm := (name_of_methodNamed Bd.named Bd.method).1
  have X0 : Stand p l e room_1 s m #[(.int i0), (.long i1)] below meth c s₁ [] 0 0 := Stand.of_body Bd
  have e0 : s₁.heap = h0 := by rw [← hh, Bd.state]; rfl
  have N0 := Fr.nil n0
  have pre0 : ∀ t, Steps p.tables e below (s₁.setTop (mkF m 0 #[.val (.int i0), .val (.long i1), .second, .unset, .unset, .unset, .unset, .unset, .unset, .unset] [])) t → Steps p.tables e below (s₁.setTop (entryFrame m #[(.int i0), (.long i1)] maxLocals)) t := fun t k => castTop (ef_0 m i0 i1) k
  obtain ⟨T1, X1, e1, st1⟩ := getS2 X0 hx hZ hown (host := "") (Or.inl (hw _ (List.mem_of_getElem? (i := 23) rfl))) Via.refl e0 S_EXTENSIONS (g := (mkF m 66 #[.val (.int i0), .val (.long i1), .second, .val (.int (3 : Int32)), .unset, .unset, .unset, .unset, .unset, .unset] [])) rfl (hb hby at_66)
  obtain ⟨cq2, kq2, q2a, q2b, q2c⟩ := isOf hZ e1 E_EXTENSIONS
  obtain ⟨_, _, ⟨T2, L2, k2, n2⟩, -, X2, ⟨Lc2, hQ2, l2, y2, z2⟩, st2⟩ := X1.virtualBack hx (y := (⟨"com/example/verdictlint/verdictlint/sarif/Cap", "dropsSomeOf", "(J)Z"⟩ : MethodName)) (z := (⟨"com/example/verdictlint/verdictlint/sarif/Cap", "dropsSomeOf", "(J)Z"⟩ : MethodName)) hown (mvT hZ (hw _ (List.mem_of_getElem? (i := 5) rfl))) (mvT hZ (hw _ (List.mem_of_getElem? (i := 6) rfl))) (notFace_of_selects (args := #[]) (mvT hZ (hw _ (List.mem_of_getElem? (i := 8) rfl)))) (mvT hZ (hw _ (List.mem_of_getElem? (i := 8) rfl))) (mvT hZ (hw _ (List.mem_of_getElem? (i := 7) rfl))) (by decide) (backOf (W := 0) (rm1_15 l Z a0 hw [] w_RUNS w_RESULTS w_LOCATIONS w_THREAD_FLOW_LOCATIONS w_RULES w_EXTENSIONS w_TAGS i0 i1 h0 n0 Z0 C hv0 hv1) hZ (hw _ (List.mem_of_getElem? (i := 9) rfl)) (hw _ (List.mem_of_getElem? (i := 2) rfl)) (by decide) (by decide)) q2a q2c (g := (mkF m 128 #[.val (.int i0), .val (.long i1), .second, .val (.int (3 : Int32)), .val (.ref w_EXTENSIONS), .val (.long (100 : Int64)), .second, .unset, .unset, .unset] [(.long i1), (.ref w_EXTENSIONS)])) rfl (by rw [hml]; rfl) (Steps.refl _) (argsL := [(.long i1)]) (rest := []) (lenOf pd_0 rfl) rfl (by show 2 * 0 + _ ≤ _; exact Nat.le_of_eq rfl) (hb hby at_128) (fun _ _ => ⟨rfl, e1, (by decide : 0 + 0 ≤ _), (by decide : 0 + 0 ≤ _)⟩)
  dsimp only [Pt.U, Pt.locs, Pt.cells, Pt.slots] at X2 l2 y2 z2 st2 hQ2
  subst l2 y2 z2
  obtain ⟨rfl, N2q, e2⟩ := hQ2
  have N2 := Fr.app N0 N2q
  obtain ⟨cq3, kq3, q3a, q3b, q3c⟩ := isOf hZ e2 E_EXTENSIONS
  obtain ⟨_, _, ⟨T3, L3, k3, n3⟩, -, X3, ⟨Lc3, hQ3, l3, y3, z3⟩, st3⟩ := X2.virtualBack hx (y := (⟨"com/example/verdictlint/verdictlint/sarif/Cap", "dropsSomeOf", "(J)Z"⟩ : MethodName)) (z := (⟨"com/example/verdictlint/verdictlint/sarif/Cap", "dropsSomeOf", "(J)Z"⟩ : MethodName)) hown (mvT hZ (hw _ (List.mem_of_getElem? (i := 5) rfl))) (mvT hZ (hw _ (List.mem_of_getElem? (i := 6) rfl))) (notFace_of_selects (args := #[]) (mvT hZ (hw _ (List.mem_of_getElem? (i := 8) rfl)))) (mvT hZ (hw _ (List.mem_of_getElem? (i := 8) rfl))) (mvT hZ (hw _ (List.mem_of_getElem? (i := 7) rfl))) (by decide) (backOf (W := 0) (rm1_13 l Z a0 hw [] w_RUNS w_RESULTS w_LOCATIONS w_THREAD_FLOW_LOCATIONS w_RULES w_EXTENSIONS w_TAGS  h0 n0 Z0 C ) hZ (hw _ (List.mem_of_getElem? (i := 9) rfl)) (hw _ (List.mem_of_getElem? (i := 2) rfl)) (by decide) (by decide)) q3a q3c (g := (mkF m 157 #[.val (.int i0), .val (.long i1), .second, .val (.int (3 : Int32)), .val (.ref w_EXTENSIONS), .val (.long (100 : Int64)), .second, .val (.int (1 : Int32)), .unset, .unset] [(.long (100 : Int64)), (.ref w_EXTENSIONS)])) rfl (by rw [hml]; rfl) (Steps.refl _) (argsL := [(.long (100 : Int64))]) (rest := []) (lenOf pd_0 rfl) rfl (by show 2 * 0 + _ ≤ _; exact Nat.le_of_eq rfl) (hb hby at_157) (fun _ _ => ⟨rfl, e2, (by decide : 0 + 0 ≤ _), (by decide : 0 + 0 ≤ _)⟩)
  dsimp only [Pt.U, Pt.locs, Pt.cells, Pt.slots] at X3 l3 y3 z3 st3 hQ3
  subst l3 y3 z3
  obtain ⟨rfl, N3q, e3⟩ := hQ3
  have N3 := Fr.app N2 N3q
  obtain ⟨cq4, kq4, q4a, q4b, q4c⟩ := isOf hZ e3 E_EXTENSIONS
  obtain ⟨_, _, ⟨T4, L4, k4, n4⟩, -, X4, ⟨Lc4, hQ4, l4, y4, z4⟩, st4⟩ := X3.virtualBack hx (y := (⟨"com/example/verdictlint/verdictlint/sarif/Cap", "dropsSomeOf", "(J)Z"⟩ : MethodName)) (z := (⟨"com/example/verdictlint/verdictlint/sarif/Cap", "dropsSomeOf", "(J)Z"⟩ : MethodName)) hown (mvT hZ (hw _ (List.mem_of_getElem? (i := 5) rfl))) (mvT hZ (hw _ (List.mem_of_getElem? (i := 6) rfl))) (notFace_of_selects (args := #[]) (mvT hZ (hw _ (List.mem_of_getElem? (i := 8) rfl)))) (mvT hZ (hw _ (List.mem_of_getElem? (i := 8) rfl))) (mvT hZ (hw _ (List.mem_of_getElem? (i := 7) rfl))) (by decide) (backOf (W := 0) (rm1_14 l Z a0 hw [] w_RUNS w_RESULTS w_LOCATIONS w_THREAD_FLOW_LOCATIONS w_RULES w_EXTENSIONS w_TAGS  h0 n0 Z0 C ) hZ (hw _ (List.mem_of_getElem? (i := 9) rfl)) (hw _ (List.mem_of_getElem? (i := 2) rfl)) (by decide) (by decide)) q4a q4c (g := (mkF m 176 #[.val (.int i0), .val (.long i1), .second, .val (.int (3 : Int32)), .val (.ref w_EXTENSIONS), .val (.long (100 : Int64)), .second, .val (.int (1 : Int32)), .val (.int (1 : Int32)), .unset] [(.long (101 : Int64)), (.ref w_EXTENSIONS)])) rfl (by rw [hml]; rfl) (Steps.refl _) (argsL := [(.long (101 : Int64))]) (rest := []) (lenOf pd_0 rfl) rfl (by show 2 * 0 + _ ≤ _; exact Nat.le_of_eq rfl) (hb hby at_176) (fun _ _ => ⟨rfl, e3, (by decide : 0 + 0 ≤ _), (by decide : 0 + 0 ≤ _)⟩)
  dsimp only [Pt.U, Pt.locs, Pt.cells, Pt.slots] at X4 l4 y4 z4 st4 hQ4
  subst l4 y4 z4
  obtain ⟨rfl, N4q, e4⟩ := hQ4
  have N4 := Fr.app N3 N4q
  obtain ⟨fs, hr, hrun, hended, hW, hsame⟩ := X4.leave (v := (some (.int (1 : Int32)))) (fun h => by rw [Bd.returns] at h; cases h)
  refine ⟨_, _, pre0 _ ?_, hrun, hended, _, _, rfl, ?_, ⟨_, rfl⟩, hW, hsame.mono (by decide) (by decide)⟩
  · show Steps p.tables e below (s₁.setTop (mkF m 0 #[.val (.int i0), .val (.long i1), .second, .unset, .unset, .unset, .unset, .unset, .unset, .unset] [])) _
    refine XS.iloadN X0.here hx rfl (hb hby at_0) rfl ?_
    show Steps p.tables e below (s₁.setTop (mkF m 1 #[.val (.int i0), .val (.long i1), .second, .unset, .unset, .unset, .unset, .unset, .unset, .unset] [(.int i0)])) _
    refine X0.ldcInt hx hown (mvT hZ (hw _ (List.mem_of_getElem? (i := 0) rfl))) (g := (mkF m 1 #[.val (.int i0), .val (.long i1), .second, .unset, .unset, .unset, .unset, .unset, .unset, .unset] [(.int i0)])) rfl (hb hby at_1) _ ?_
    show Steps p.tables e below (s₁.setTop (mkF m 3 #[.val (.int i0), .val (.long i1), .second, .unset, .unset, .unset, .unset, .unset, .unset, .unset] [(.int (2147483647 : Int32)), (.int i0)])) _
    refine XS.iand X0.here hx rfl (hb hby at_3) rfl ?_
    show Steps p.tables e below (s₁.setTop (mkF m 4 #[.val (.int i0), .val (.long i1), .second, .unset, .unset, .unset, .unset, .unset, .unset, .unset] [(.int (i0 &&& (2147483647 : Int32)))])) _
    refine XS.bipush X0.here hx rfl (hb hby at_4) ?_
    show Steps p.tables e below (s₁.setTop (mkF m 6 #[.val (.int i0), .val (.long i1), .second, .unset, .unset, .unset, .unset, .unset, .unset, .unset] [(.int (7 : Int32)), (.int (i0 &&& (2147483647 : Int32)))])) _
    refine iremM (g := (mkF m 6 #[.val (.int i0), .val (.long i1), .second, .unset, .unset, .unset, .unset, .unset, .unset, .unset] [(.int (7 : Int32)), (.int (i0 &&& (2147483647 : Int32)))])) X0 hx rfl (hb hby at_6) rfl (by decide) ?_
    show Steps p.tables e below (s₁.setTop (mkF m 7 #[.val (.int i0), .val (.long i1), .second, .unset, .unset, .unset, .unset, .unset, .unset, .unset] [(.int ((i0 &&& (2147483647 : Int32)) % (7 : Int32)))])) _
    rw [hv0]
    show Steps p.tables e below (s₁.setTop (mkF m 7 #[.val (.int i0), .val (.long i1), .second, .unset, .unset, .unset, .unset, .unset, .unset, .unset] [(.int (3 : Int32))])) _
    refine XS.istoreN X0.here hx rfl (hb hby at_7) rfl (l' := #[.val (.int i0), .val (.long i1), .second, .val (.int (3 : Int32)), .unset, .unset, .unset, .unset, .unset, .unset]) rfl ?_
    show Steps p.tables e below (s₁.setTop (mkF m 8 #[.val (.int i0), .val (.long i1), .second, .val (.int (3 : Int32)), .unset, .unset, .unset, .unset, .unset, .unset] [])) _
    refine XS.iloadN X0.here hx rfl (hb hby at_8) rfl ?_
    show Steps p.tables e below (s₁.setTop (mkF m 9 #[.val (.int i0), .val (.long i1), .second, .val (.int (3 : Int32)), .unset, .unset, .unset, .unset, .unset, .unset] [(.int (3 : Int32))])) _
    refine XS.ifYes X0.here hx rfl (pc0 := 9) (pc' := 25) rfl (hb hby at_9) rfl ((if0 _ _).trans (feq (by decide +kernel : ¬ ((3 : Int32) = (0 : Int32)))).2) (by decide) (by decide) ?_
    show Steps p.tables e below (s₁.setTop (mkF m 25 #[.val (.int i0), .val (.long i1), .second, .val (.int (3 : Int32)), .unset, .unset, .unset, .unset, .unset, .unset] [])) _
    refine XS.iloadN X0.here hx rfl (hb hby at_25) rfl ?_
    show Steps p.tables e below (s₁.setTop (mkF m 26 #[.val (.int i0), .val (.long i1), .second, .val (.int (3 : Int32)), .unset, .unset, .unset, .unset, .unset, .unset] [(.int (3 : Int32))])) _
    refine XS.iconst X0.here hx rfl (hb hby at_26) ?_
    show Steps p.tables e below (s₁.setTop (mkF m 27 #[.val (.int i0), .val (.long i1), .second, .val (.int (3 : Int32)), .unset, .unset, .unset, .unset, .unset, .unset] [(.int (1 : Int32)), (.int (3 : Int32))])) _
    refine XS.icmpYes X0.here hx rfl (pc0 := 27) (pc' := 43) rfl (hb hby at_27) rfl (feq (by decide +kernel : ¬ ((3 : Int32) = (1 : Int32)))).2 (by decide) (by decide) ?_
    show Steps p.tables e below (s₁.setTop (mkF m 43 #[.val (.int i0), .val (.long i1), .second, .val (.int (3 : Int32)), .unset, .unset, .unset, .unset, .unset, .unset] [])) _
    refine XS.iloadN X0.here hx rfl (hb hby at_43) rfl ?_
    show Steps p.tables e below (s₁.setTop (mkF m 44 #[.val (.int i0), .val (.long i1), .second, .val (.int (3 : Int32)), .unset, .unset, .unset, .unset, .unset, .unset] [(.int (3 : Int32))])) _
    refine XS.iconst X0.here hx rfl (hb hby at_44) ?_
    show Steps p.tables e below (s₁.setTop (mkF m 45 #[.val (.int i0), .val (.long i1), .second, .val (.int (3 : Int32)), .unset, .unset, .unset, .unset, .unset, .unset] [(.int (2 : Int32)), (.int (3 : Int32))])) _
    refine XS.icmpYes X0.here hx rfl (pc0 := 45) (pc' := 61) rfl (hb hby at_45) rfl (feq (by decide +kernel : ¬ ((3 : Int32) = (2 : Int32)))).2 (by decide) (by decide) ?_
    show Steps p.tables e below (s₁.setTop (mkF m 61 #[.val (.int i0), .val (.long i1), .second, .val (.int (3 : Int32)), .unset, .unset, .unset, .unset, .unset, .unset] [])) _
    refine XS.iloadN X0.here hx rfl (hb hby at_61) rfl ?_
    show Steps p.tables e below (s₁.setTop (mkF m 62 #[.val (.int i0), .val (.long i1), .second, .val (.int (3 : Int32)), .unset, .unset, .unset, .unset, .unset, .unset] [(.int (3 : Int32))])) _
    refine XS.iconst X0.here hx rfl (hb hby at_62) ?_
    show Steps p.tables e below (s₁.setTop (mkF m 63 #[.val (.int i0), .val (.long i1), .second, .val (.int (3 : Int32)), .unset, .unset, .unset, .unset, .unset, .unset] [(.int (3 : Int32)), (.int (3 : Int32))])) _
    refine XS.icmpNo X0.here hx rfl (hb hby at_63) rfl (teq (by decide +kernel : (3 : Int32) = (3 : Int32))).2 ?_
    show Steps p.tables e below (s₁.setTop (mkF m 66 #[.val (.int i0), .val (.long i1), .second, .val (.int (3 : Int32)), .unset, .unset, .unset, .unset, .unset, .unset] [])) _
    refine st1 _ ?_
    show Steps p.tables e below (T1.setTop (mkF m 69 #[.val (.int i0), .val (.long i1), .second, .val (.int (3 : Int32)), .unset, .unset, .unset, .unset, .unset, .unset] [(.ref w_EXTENSIONS)])) _
    refine XS.astore X1.here hx rfl (hb hby at_69) rfl rfl (l' := #[.val (.int i0), .val (.long i1), .second, .val (.int (3 : Int32)), .val (.ref w_EXTENSIONS), .unset, .unset, .unset, .unset, .unset]) rfl ?_
    show Steps p.tables e below (T1.setTop (mkF m 71 #[.val (.int i0), .val (.long i1), .second, .val (.int (3 : Int32)), .val (.ref w_EXTENSIONS), .unset, .unset, .unset, .unset, .unset] [])) _
    refine X1.ldc2Long hx hown (mvT hZ (hw _ (List.mem_of_getElem? (i := 17) rfl))) (g := (mkF m 71 #[.val (.int i0), .val (.long i1), .second, .val (.int (3 : Int32)), .val (.ref w_EXTENSIONS), .unset, .unset, .unset, .unset, .unset] [])) rfl (hb hby at_71) _ ?_
    show Steps p.tables e below (T1.setTop (mkF m 74 #[.val (.int i0), .val (.long i1), .second, .val (.int (3 : Int32)), .val (.ref w_EXTENSIONS), .unset, .unset, .unset, .unset, .unset] [(.long (100 : Int64))])) _
    refine XS.lstore X1.here hx rfl (hb hby at_74) rfl (l' := #[.val (.int i0), .val (.long i1), .second, .val (.int (3 : Int32)), .val (.ref w_EXTENSIONS), .val (.long (100 : Int64)), .second, .unset, .unset, .unset]) rfl ?_
    show Steps p.tables e below (T1.setTop (mkF m 76 #[.val (.int i0), .val (.long i1), .second, .val (.int (3 : Int32)), .val (.ref w_EXTENSIONS), .val (.long (100 : Int64)), .second, .unset, .unset, .unset] [])) _
    refine XS.goto X1.here hx rfl (pc0 := 76) (pc' := 125) rfl (hb hby at_76) (by decide) (by decide) ?_
    show Steps p.tables e below (T1.setTop (mkF m 125 #[.val (.int i0), .val (.long i1), .second, .val (.int (3 : Int32)), .val (.ref w_EXTENSIONS), .val (.long (100 : Int64)), .second, .unset, .unset, .unset] [])) _
    refine XS.aload X1.here hx rfl (hb hby at_125) rfl rfl ?_
    show Steps p.tables e below (T1.setTop (mkF m 127 #[.val (.int i0), .val (.long i1), .second, .val (.int (3 : Int32)), .val (.ref w_EXTENSIONS), .val (.long (100 : Int64)), .second, .unset, .unset, .unset] [(.ref w_EXTENSIONS)])) _
    refine XS.lloadN X1.here hx rfl (hb hby at_127) rfl ?_
    show Steps p.tables e below (T1.setTop (mkF m 128 #[.val (.int i0), .val (.long i1), .second, .val (.int (3 : Int32)), .val (.ref w_EXTENSIONS), .val (.long (100 : Int64)), .second, .unset, .unset, .unset] [(.long i1), (.ref w_EXTENSIONS)])) _
    refine st2.trans ?_
    show Steps p.tables e below (T2.setTop (mkF m 131 #[.val (.int i0), .val (.long i1), .second, .val (.int (3 : Int32)), .val (.ref w_EXTENSIONS), .val (.long (100 : Int64)), .second, .unset, .unset, .unset] [(.int (0 : Int32))])) _
    refine XS.lloadN X2.here hx rfl (hb hby at_131) rfl ?_
    show Steps p.tables e below (T2.setTop (mkF m 132 #[.val (.int i0), .val (.long i1), .second, .val (.int (3 : Int32)), .val (.ref w_EXTENSIONS), .val (.long (100 : Int64)), .second, .unset, .unset, .unset] [(.long i1), (.int (0 : Int32))])) _
    refine XS.lload X2.here hx rfl (hb hby at_132) rfl ?_
    show Steps p.tables e below (T2.setTop (mkF m 134 #[.val (.int i0), .val (.long i1), .second, .val (.int (3 : Int32)), .val (.ref w_EXTENSIONS), .val (.long (100 : Int64)), .second, .unset, .unset, .unset] [(.long (100 : Int64)), (.long i1), (.int (0 : Int32))])) _
    refine XS.lcmp X2.here hx rfl (hb hby at_134) rfl ?_
    show Steps p.tables e below (T2.setTop (mkF m 135 #[.val (.int i0), .val (.long i1), .second, .val (.int (3 : Int32)), .val (.ref w_EXTENSIONS), .val (.long (100 : Int64)), .second, .unset, .unset, .unset] [(.int (lcmpW i1 (100 : Int64))), (.int (0 : Int32))])) _
    refine XS.ifYes X2.here hx rfl (pc0 := 135) (pc' := 142) rfl (hb hby at_135) rfl ((if0 _ _).trans (flt hv1).2.2.2) (by decide) (by decide) ?_
    show Steps p.tables e below (T2.setTop (mkF m 142 #[.val (.int i0), .val (.long i1), .second, .val (.int (3 : Int32)), .val (.ref w_EXTENSIONS), .val (.long (100 : Int64)), .second, .unset, .unset, .unset] [(.int (0 : Int32))])) _
    refine XS.iconst X2.here hx rfl (hb hby at_142) ?_
    show Steps p.tables e below (T2.setTop (mkF m 143 #[.val (.int i0), .val (.long i1), .second, .val (.int (3 : Int32)), .val (.ref w_EXTENSIONS), .val (.long (100 : Int64)), .second, .unset, .unset, .unset] [(.int (0 : Int32)), (.int (0 : Int32))])) _
    refine XS.icmpNo X2.here hx rfl (hb hby at_143) rfl (teq (by decide +kernel : (0 : Int32) = (0 : Int32))).2 ?_
    show Steps p.tables e below (T2.setTop (mkF m 146 #[.val (.int i0), .val (.long i1), .second, .val (.int (3 : Int32)), .val (.ref w_EXTENSIONS), .val (.long (100 : Int64)), .second, .unset, .unset, .unset] [])) _
    refine XS.iconst X2.here hx rfl (hb hby at_146) ?_
    show Steps p.tables e below (T2.setTop (mkF m 147 #[.val (.int i0), .val (.long i1), .second, .val (.int (3 : Int32)), .val (.ref w_EXTENSIONS), .val (.long (100 : Int64)), .second, .unset, .unset, .unset] [(.int (1 : Int32))])) _
    refine XS.goto X2.here hx rfl (pc0 := 147) (pc' := 151) rfl (hb hby at_147) (by decide) (by decide) ?_
    show Steps p.tables e below (T2.setTop (mkF m 151 #[.val (.int i0), .val (.long i1), .second, .val (.int (3 : Int32)), .val (.ref w_EXTENSIONS), .val (.long (100 : Int64)), .second, .unset, .unset, .unset] [(.int (1 : Int32))])) _
    refine XS.istore X2.here hx rfl (hb hby at_151) rfl (l' := #[.val (.int i0), .val (.long i1), .second, .val (.int (3 : Int32)), .val (.ref w_EXTENSIONS), .val (.long (100 : Int64)), .second, .val (.int (1 : Int32)), .unset, .unset]) rfl ?_
    show Steps p.tables e below (T2.setTop (mkF m 153 #[.val (.int i0), .val (.long i1), .second, .val (.int (3 : Int32)), .val (.ref w_EXTENSIONS), .val (.long (100 : Int64)), .second, .val (.int (1 : Int32)), .unset, .unset] [])) _
    refine XS.aload X2.here hx rfl (hb hby at_153) rfl rfl ?_
    show Steps p.tables e below (T2.setTop (mkF m 155 #[.val (.int i0), .val (.long i1), .second, .val (.int (3 : Int32)), .val (.ref w_EXTENSIONS), .val (.long (100 : Int64)), .second, .val (.int (1 : Int32)), .unset, .unset] [(.ref w_EXTENSIONS)])) _
    refine XS.lload X2.here hx rfl (hb hby at_155) rfl ?_
    show Steps p.tables e below (T2.setTop (mkF m 157 #[.val (.int i0), .val (.long i1), .second, .val (.int (3 : Int32)), .val (.ref w_EXTENSIONS), .val (.long (100 : Int64)), .second, .val (.int (1 : Int32)), .unset, .unset] [(.long (100 : Int64)), (.ref w_EXTENSIONS)])) _
    refine st3.trans ?_
    show Steps p.tables e below (T3.setTop (mkF m 160 #[.val (.int i0), .val (.long i1), .second, .val (.int (3 : Int32)), .val (.ref w_EXTENSIONS), .val (.long (100 : Int64)), .second, .val (.int (1 : Int32)), .unset, .unset] [(.int (0 : Int32))])) _
    refine XS.ifNo X3.here hx rfl (hb hby at_160) rfl ((if0 _ _).trans (teq (by decide +kernel : (0 : Int32) = (0 : Int32))).2) ?_
    show Steps p.tables e below (T3.setTop (mkF m 163 #[.val (.int i0), .val (.long i1), .second, .val (.int (3 : Int32)), .val (.ref w_EXTENSIONS), .val (.long (100 : Int64)), .second, .val (.int (1 : Int32)), .unset, .unset] [])) _
    refine XS.iconst X3.here hx rfl (hb hby at_163) ?_
    show Steps p.tables e below (T3.setTop (mkF m 164 #[.val (.int i0), .val (.long i1), .second, .val (.int (3 : Int32)), .val (.ref w_EXTENSIONS), .val (.long (100 : Int64)), .second, .val (.int (1 : Int32)), .unset, .unset] [(.int (1 : Int32))])) _
    refine XS.goto X3.here hx rfl (pc0 := 164) (pc' := 168) rfl (hb hby at_164) (by decide) (by decide) ?_
    show Steps p.tables e below (T3.setTop (mkF m 168 #[.val (.int i0), .val (.long i1), .second, .val (.int (3 : Int32)), .val (.ref w_EXTENSIONS), .val (.long (100 : Int64)), .second, .val (.int (1 : Int32)), .unset, .unset] [(.int (1 : Int32))])) _
    refine XS.istore X3.here hx rfl (hb hby at_168) rfl (l' := #[.val (.int i0), .val (.long i1), .second, .val (.int (3 : Int32)), .val (.ref w_EXTENSIONS), .val (.long (100 : Int64)), .second, .val (.int (1 : Int32)), .val (.int (1 : Int32)), .unset]) rfl ?_
    show Steps p.tables e below (T3.setTop (mkF m 170 #[.val (.int i0), .val (.long i1), .second, .val (.int (3 : Int32)), .val (.ref w_EXTENSIONS), .val (.long (100 : Int64)), .second, .val (.int (1 : Int32)), .val (.int (1 : Int32)), .unset] [])) _
    refine XS.aload X3.here hx rfl (hb hby at_170) rfl rfl ?_
    show Steps p.tables e below (T3.setTop (mkF m 172 #[.val (.int i0), .val (.long i1), .second, .val (.int (3 : Int32)), .val (.ref w_EXTENSIONS), .val (.long (100 : Int64)), .second, .val (.int (1 : Int32)), .val (.int (1 : Int32)), .unset] [(.ref w_EXTENSIONS)])) _
    refine XS.lload X3.here hx rfl (hb hby at_172) rfl ?_
    show Steps p.tables e below (T3.setTop (mkF m 174 #[.val (.int i0), .val (.long i1), .second, .val (.int (3 : Int32)), .val (.ref w_EXTENSIONS), .val (.long (100 : Int64)), .second, .val (.int (1 : Int32)), .val (.int (1 : Int32)), .unset] [(.long (100 : Int64)), (.ref w_EXTENSIONS)])) _
    refine XS.lconst X3.here hx rfl (hb hby at_174) ?_
    show Steps p.tables e below (T3.setTop (mkF m 175 #[.val (.int i0), .val (.long i1), .second, .val (.int (3 : Int32)), .val (.ref w_EXTENSIONS), .val (.long (100 : Int64)), .second, .val (.int (1 : Int32)), .val (.int (1 : Int32)), .unset] [(.long (1 : Int64)), (.long (100 : Int64)), (.ref w_EXTENSIONS)])) _
    refine XS.ladd X3.here hx rfl (hb hby at_175) rfl ?_
    show Steps p.tables e below (T3.setTop (mkF m 176 #[.val (.int i0), .val (.long i1), .second, .val (.int (3 : Int32)), .val (.ref w_EXTENSIONS), .val (.long (100 : Int64)), .second, .val (.int (1 : Int32)), .val (.int (1 : Int32)), .unset] [(.long ((100 : Int64) + (1 : Int64))), (.ref w_EXTENSIONS)])) _
    rw [show ((100 : Int64) + (1 : Int64)) = (101 : Int64) from by decide +kernel]
    show Steps p.tables e below (T3.setTop (mkF m 176 #[.val (.int i0), .val (.long i1), .second, .val (.int (3 : Int32)), .val (.ref w_EXTENSIONS), .val (.long (100 : Int64)), .second, .val (.int (1 : Int32)), .val (.int (1 : Int32)), .unset] [(.long (101 : Int64)), (.ref w_EXTENSIONS)])) _
    refine st4.trans ?_
    show Steps p.tables e below (T4.setTop (mkF m 179 #[.val (.int i0), .val (.long i1), .second, .val (.int (3 : Int32)), .val (.ref w_EXTENSIONS), .val (.long (100 : Int64)), .second, .val (.int (1 : Int32)), .val (.int (1 : Int32)), .unset] [(.int (1 : Int32))])) _
    refine XS.istore X4.here hx rfl (hb hby at_179) rfl (l' := #[.val (.int i0), .val (.long i1), .second, .val (.int (3 : Int32)), .val (.ref w_EXTENSIONS), .val (.long (100 : Int64)), .second, .val (.int (1 : Int32)), .val (.int (1 : Int32)), .val (.int (1 : Int32))]) rfl ?_
    show Steps p.tables e below (T4.setTop (mkF m 181 #[.val (.int i0), .val (.long i1), .second, .val (.int (3 : Int32)), .val (.ref w_EXTENSIONS), .val (.long (100 : Int64)), .second, .val (.int (1 : Int32)), .val (.int (1 : Int32)), .val (.int (1 : Int32))] [])) _
    refine XS.iload X4.here hx rfl (hb hby at_181) rfl ?_
    show Steps p.tables e below (T4.setTop (mkF m 183 #[.val (.int i0), .val (.long i1), .second, .val (.int (3 : Int32)), .val (.ref w_EXTENSIONS), .val (.long (100 : Int64)), .second, .val (.int (1 : Int32)), .val (.int (1 : Int32)), .val (.int (1 : Int32))] [(.int (1 : Int32))])) _
    refine XS.ifNo X4.here hx rfl (hb hby at_183) rfl ((if0 _ _).trans (feq (by decide +kernel : ¬ ((1 : Int32) = (0 : Int32)))).1) ?_
    show Steps p.tables e below (T4.setTop (mkF m 186 #[.val (.int i0), .val (.long i1), .second, .val (.int (3 : Int32)), .val (.ref w_EXTENSIONS), .val (.long (100 : Int64)), .second, .val (.int (1 : Int32)), .val (.int (1 : Int32)), .val (.int (1 : Int32))] [])) _
    refine XS.iload X4.here hx rfl (hb hby at_186) rfl ?_
    show Steps p.tables e below (T4.setTop (mkF m 188 #[.val (.int i0), .val (.long i1), .second, .val (.int (3 : Int32)), .val (.ref w_EXTENSIONS), .val (.long (100 : Int64)), .second, .val (.int (1 : Int32)), .val (.int (1 : Int32)), .val (.int (1 : Int32))] [(.int (1 : Int32))])) _
    refine XS.ifNo X4.here hx rfl (hb hby at_188) rfl ((if0 _ _).trans (feq (by decide +kernel : ¬ ((1 : Int32) = (0 : Int32)))).1) ?_
    show Steps p.tables e below (T4.setTop (mkF m 191 #[.val (.int i0), .val (.long i1), .second, .val (.int (3 : Int32)), .val (.ref w_EXTENSIONS), .val (.long (100 : Int64)), .second, .val (.int (1 : Int32)), .val (.int (1 : Int32)), .val (.int (1 : Int32))] [])) _
    refine XS.iload X4.here hx rfl (hb hby at_191) rfl ?_
    show Steps p.tables e below (T4.setTop (mkF m 193 #[.val (.int i0), .val (.long i1), .second, .val (.int (3 : Int32)), .val (.ref w_EXTENSIONS), .val (.long (100 : Int64)), .second, .val (.int (1 : Int32)), .val (.int (1 : Int32)), .val (.int (1 : Int32))] [(.int (1 : Int32))])) _
    refine XS.ifNo X4.here hx rfl (hb hby at_193) rfl ((if0 _ _).trans (feq (by decide +kernel : ¬ ((1 : Int32) = (0 : Int32)))).1) ?_
    show Steps p.tables e below (T4.setTop (mkF m 196 #[.val (.int i0), .val (.long i1), .second, .val (.int (3 : Int32)), .val (.ref w_EXTENSIONS), .val (.long (100 : Int64)), .second, .val (.int (1 : Int32)), .val (.int (1 : Int32)), .val (.int (1 : Int32))] [])) _
    refine XS.iconst X4.here hx rfl (hb hby at_196) ?_
    show Steps p.tables e below (T4.setTop (mkF m 197 #[.val (.int i0), .val (.long i1), .second, .val (.int (3 : Int32)), .val (.ref w_EXTENSIONS), .val (.long (100 : Int64)), .second, .val (.int (1 : Int32)), .val (.int (1 : Int32)), .val (.int (1 : Int32))] [(.int (1 : Int32))])) _
    refine XS.goto X4.here hx rfl (pc0 := 197) (pc' := 201) rfl (hb hby at_197) (by decide) (by decide) ?_
    show Steps p.tables e below (T4.setTop (mkF m 201 #[.val (.int i0), .val (.long i1), .second, .val (.int (3 : Int32)), .val (.ref w_EXTENSIONS), .val (.long (100 : Int64)), .second, .val (.int (1 : Int32)), .val (.int (1 : Int32)), .val (.int (1 : Int32))] [(.int (1 : Int32))])) _
    exact retN X4 hx (t := .boolean) Bd.returns (by simp) (hb hby at_201) hr
  · exact ⟨rfl, N4, e4⟩
set_option maxRecDepth 65536 in
set_option maxHeartbeats 40000000 in
theorem rm1_16 (l : Launch) (Z : State) (a0 : Array Value) (hw : ∀ d ∈ tables_1, d.before a0 Z = true) (ws : List Jvm.Cond) (w_RUNS w_RESULTS w_LOCATIONS w_THREAD_FLOW_LOCATIONS w_RULES w_EXTENSIONS w_TAGS : Addr) (i0 : Int32) (i1 : Int64) (h0 : Heap) (n0 : Nat) (Z0 : n0 ≤ h0.size) (C : Ctx Z h0 w_RUNS w_RESULTS w_LOCATIONS w_THREAD_FLOW_LOCATIONS w_RULES w_EXTENSIONS w_TAGS) (hv0 : ((i0 &&& (2147483647 : Int32)) % (7 : Int32)) = (4 : Int32)) (hv1 : (0 : Int32) < (lcmpW i1 (100 : Int64))) :
    MetFree l (⟨"com/example/verdictlint/verdictlint/sarif/Cap", "dropsSomeOf", "(J)Z"⟩ : MethodName) (head1 (Jvm.Cond.code (⟨"com/example/verdictlint/verdictlint/sarif/Cap", "dropsSomeOf", "(J)Z"⟩ : MethodName) prog_26_method_8_code 3 (some .boolean) :: ws) ({ frames := 0, cells := 0, slots := 0, locals := 0 } : Room)) (fun a U => a = #[(.ref w_LOCATIONS), (.long i1)] ∧ Z.Warmed39 U.vm ∧ U.heap = h0) (fun _ _ _ _ _ => True) (fun _ U o U' => ∃ v L, o = .returned v ∧ QR h0 n0 (some (.int (1 : Int32))) v U'.heap L ∧ FrameEnd U o U' L ({ frames := 0, cells := 0, slots := 0, locals := 0 } : Room).cells ({ frames := 0, cells := 0, slots := 0, locals := 0 } : Room).slots) := by
  have F_LOCATIONS_kept := C.2.2.2.2.2.2.2.2.1
  refine MetFree.of_bodySF (plainFor_of_name pn_1) hisR ?_
  intro p e s m args below meth c s₁ Bd hml0 hP hK
  obtain ⟨rfl, hZ, hh⟩ := hP
  have hx := Bd.exec
  have hby := Bd.bytes
  have hml : c.maxLocals = 3 := hml0
  have hown : s.vm.findClass "com/example/verdictlint/verdictlint/sarif/Cap" = some m.cls := findClass_of_methodNamed Bd.named
  have hnm := (name_of_methodNamed Bd.named Bd.method).1
  have X0 : Stand p l e ({ frames := 0, cells := 0, slots := 0, locals := 0 } : Room) s m #[(.ref w_LOCATIONS), (.long i1)] below meth c s₁ [] 0 0 := Stand.of_body Bd
  have e0 : s₁.heap = h0 := by rw [← hh, Bd.state]; rfl
  have N0 := Fr.nil n0
  have pre0 : ∀ t, Steps p.tables e below (s₁.setTop (mkF m 0 #[.val (.ref w_LOCATIONS), .val (.long i1), .second] [])) t → Steps p.tables e below (s₁.setTop (entryFrame m #[(.ref w_LOCATIONS), (.long i1)] 3)) t := fun t k => castTop (ef_1 m w_LOCATIONS i1) k
  obtain ⟨T1, X1, e1, st1⟩ := getF X0 hx hZ hown (host := "") (Or.inl (hw _ (List.mem_of_getElem? (i := 10) rfl))) Via.refl e0 F_LOCATIONS_kept (g := (mkF m 2 #[.val (.ref w_LOCATIONS), .val (.long i1), .second] [(.ref w_LOCATIONS), (.long i1)])) rfl rfl (hb hby d1_2)
  obtain ⟨fs, hr, hrun, hended, hW, hsame⟩ := X1.leave (v := (some (.int (1 : Int32)))) (fun h => by rw [Bd.returns] at h; cases h)
  refine ⟨_, _, pre0 _ ?_, hrun, hended, _, _, rfl, ?_, ⟨_, rfl⟩, hW, hsame.mono (by decide) (by decide)⟩
  · show Steps p.tables e below (s₁.setTop (mkF m 0 #[.val (.ref w_LOCATIONS), .val (.long i1), .second] [])) _
    refine XS.lloadN X0.here hx rfl (hb hby d1_0) rfl ?_
    show Steps p.tables e below (s₁.setTop (mkF m 1 #[.val (.ref w_LOCATIONS), .val (.long i1), .second] [(.long i1)])) _
    refine XS.aloadN X0.here hx rfl (hb hby d1_1) rfl rfl ?_
    show Steps p.tables e below (s₁.setTop (mkF m 2 #[.val (.ref w_LOCATIONS), .val (.long i1), .second] [(.ref w_LOCATIONS), (.long i1)])) _
    refine st1 _ ?_
    show Steps p.tables e below (T1.setTop (mkF m 5 #[.val (.ref w_LOCATIONS), .val (.long i1), .second] [(.long (100 : Int64)), (.long i1)])) _
    refine XS.lcmp X1.here hx rfl (hb hby d1_5) rfl ?_
    show Steps p.tables e below (T1.setTop (mkF m 6 #[.val (.ref w_LOCATIONS), .val (.long i1), .second] [(.int (lcmpW i1 (100 : Int64)))])) _
    refine XS.ifNo X1.here hx rfl (hb hby d1_6) rfl ((if0 _ _).trans (tlt hv1).2.2.2) ?_
    show Steps p.tables e below (T1.setTop (mkF m 9 #[.val (.ref w_LOCATIONS), .val (.long i1), .second] [])) _
    refine XS.iconst X1.here hx rfl (hb hby d1_9) ?_
    show Steps p.tables e below (T1.setTop (mkF m 10 #[.val (.ref w_LOCATIONS), .val (.long i1), .second] [(.int (1 : Int32))])) _
    refine XS.goto X1.here hx rfl (pc0 := 10) (pc' := 14) rfl (hb hby d1_10) (by decide) (by decide) ?_
    show Steps p.tables e below (T1.setTop (mkF m 14 #[.val (.ref w_LOCATIONS), .val (.long i1), .second] [(.int (1 : Int32))])) _
    exact retN X1 hx (t := .boolean) Bd.returns (by simp) (hb hby d1_14) hr
  · exact ⟨rfl, N0, e1⟩
set_option maxRecDepth 65536 in
set_option maxHeartbeats 40000000 in
theorem rm1_17 (l : Launch) (Z : State) (a0 : Array Value) (hw : ∀ d ∈ tables_1, d.before a0 Z = true) (ws : List Jvm.Cond) (w_RUNS w_RESULTS w_LOCATIONS w_THREAD_FLOW_LOCATIONS w_RULES w_EXTENSIONS w_TAGS : Addr) (h0 : Heap) (n0 : Nat) (Z0 : n0 ≤ h0.size) (C : Ctx Z h0 w_RUNS w_RESULTS w_LOCATIONS w_THREAD_FLOW_LOCATIONS w_RULES w_EXTENSIONS w_TAGS)  :
    MetFree l (⟨"com/example/verdictlint/verdictlint/sarif/Cap", "dropsSomeOf", "(J)Z"⟩ : MethodName) (head1 (Jvm.Cond.code (⟨"com/example/verdictlint/verdictlint/sarif/Cap", "dropsSomeOf", "(J)Z"⟩ : MethodName) prog_26_method_8_code 3 (some .boolean) :: ws) ({ frames := 0, cells := 0, slots := 0, locals := 0 } : Room)) (fun a U => a = #[(.ref w_LOCATIONS), (.long (100 : Int64))] ∧ Z.Warmed39 U.vm ∧ U.heap = h0) (fun _ _ _ _ _ => True) (fun _ U o U' => ∃ v L, o = .returned v ∧ QR h0 n0 (some (.int (0 : Int32))) v U'.heap L ∧ FrameEnd U o U' L ({ frames := 0, cells := 0, slots := 0, locals := 0 } : Room).cells ({ frames := 0, cells := 0, slots := 0, locals := 0 } : Room).slots) := by
  have F_LOCATIONS_kept := C.2.2.2.2.2.2.2.2.1
  refine MetFree.of_bodySF (plainFor_of_name pn_1) hisR ?_
  intro p e s m args below meth c s₁ Bd hml0 hP hK
  obtain ⟨rfl, hZ, hh⟩ := hP
  have hx := Bd.exec
  have hby := Bd.bytes
  have hml : c.maxLocals = 3 := hml0
  have hown : s.vm.findClass "com/example/verdictlint/verdictlint/sarif/Cap" = some m.cls := findClass_of_methodNamed Bd.named
  have hnm := (name_of_methodNamed Bd.named Bd.method).1
  have X0 : Stand p l e ({ frames := 0, cells := 0, slots := 0, locals := 0 } : Room) s m #[(.ref w_LOCATIONS), (.long (100 : Int64))] below meth c s₁ [] 0 0 := Stand.of_body Bd
  have e0 : s₁.heap = h0 := by rw [← hh, Bd.state]; rfl
  have N0 := Fr.nil n0
  have pre0 : ∀ t, Steps p.tables e below (s₁.setTop (mkF m 0 #[.val (.ref w_LOCATIONS), .val (.long (100 : Int64)), .second] [])) t → Steps p.tables e below (s₁.setTop (entryFrame m #[(.ref w_LOCATIONS), (.long (100 : Int64))] 3)) t := fun t k => castTop (ef_1 m w_LOCATIONS (100 : Int64)) k
  obtain ⟨T1, X1, e1, st1⟩ := getF X0 hx hZ hown (host := "") (Or.inl (hw _ (List.mem_of_getElem? (i := 10) rfl))) Via.refl e0 F_LOCATIONS_kept (g := (mkF m 2 #[.val (.ref w_LOCATIONS), .val (.long (100 : Int64)), .second] [(.ref w_LOCATIONS), (.long (100 : Int64))])) rfl rfl (hb hby d1_2)
  obtain ⟨fs, hr, hrun, hended, hW, hsame⟩ := X1.leave (v := (some (.int (0 : Int32)))) (fun h => by rw [Bd.returns] at h; cases h)
  refine ⟨_, _, pre0 _ ?_, hrun, hended, _, _, rfl, ?_, ⟨_, rfl⟩, hW, hsame.mono (by decide) (by decide)⟩
  · show Steps p.tables e below (s₁.setTop (mkF m 0 #[.val (.ref w_LOCATIONS), .val (.long (100 : Int64)), .second] [])) _
    refine XS.lloadN X0.here hx rfl (hb hby d1_0) rfl ?_
    show Steps p.tables e below (s₁.setTop (mkF m 1 #[.val (.ref w_LOCATIONS), .val (.long (100 : Int64)), .second] [(.long (100 : Int64))])) _
    refine XS.aloadN X0.here hx rfl (hb hby d1_1) rfl rfl ?_
    show Steps p.tables e below (s₁.setTop (mkF m 2 #[.val (.ref w_LOCATIONS), .val (.long (100 : Int64)), .second] [(.ref w_LOCATIONS), (.long (100 : Int64))])) _
    refine st1 _ ?_
    show Steps p.tables e below (T1.setTop (mkF m 5 #[.val (.ref w_LOCATIONS), .val (.long (100 : Int64)), .second] [(.long (100 : Int64)), (.long (100 : Int64))])) _
    refine XS.lcmp X1.here hx rfl (hb hby d1_5) rfl ?_
    show Steps p.tables e below (T1.setTop (mkF m 6 #[.val (.ref w_LOCATIONS), .val (.long (100 : Int64)), .second] [(.int (lcmpW (100 : Int64) (100 : Int64)))])) _
    rw [show (lcmpW (100 : Int64) (100 : Int64)) = (0 : Int32) from by decide +kernel]
    show Steps p.tables e below (T1.setTop (mkF m 6 #[.val (.ref w_LOCATIONS), .val (.long (100 : Int64)), .second] [(.int (0 : Int32))])) _
    refine XS.ifYes X1.here hx rfl (pc0 := 6) (pc' := 13) rfl (hb hby d1_6) rfl ((if0 _ _).trans (flt (by decide +kernel : ¬ ((0 : Int32) < (0 : Int32)))).2.2.2) (by decide) (by decide) ?_
    show Steps p.tables e below (T1.setTop (mkF m 13 #[.val (.ref w_LOCATIONS), .val (.long (100 : Int64)), .second] [])) _
    refine XS.iconst X1.here hx rfl (hb hby d1_13) ?_
    show Steps p.tables e below (T1.setTop (mkF m 14 #[.val (.ref w_LOCATIONS), .val (.long (100 : Int64)), .second] [(.int (0 : Int32))])) _
    exact retN X1 hx (t := .boolean) Bd.returns (by simp) (hb hby d1_14) hr
  · exact ⟨rfl, N0, e1⟩
set_option maxRecDepth 65536 in
set_option maxHeartbeats 40000000 in
theorem rm1_18 (l : Launch) (Z : State) (a0 : Array Value) (hw : ∀ d ∈ tables_1, d.before a0 Z = true) (ws : List Jvm.Cond) (w_RUNS w_RESULTS w_LOCATIONS w_THREAD_FLOW_LOCATIONS w_RULES w_EXTENSIONS w_TAGS : Addr) (h0 : Heap) (n0 : Nat) (Z0 : n0 ≤ h0.size) (C : Ctx Z h0 w_RUNS w_RESULTS w_LOCATIONS w_THREAD_FLOW_LOCATIONS w_RULES w_EXTENSIONS w_TAGS)  :
    MetFree l (⟨"com/example/verdictlint/verdictlint/sarif/Cap", "dropsSomeOf", "(J)Z"⟩ : MethodName) (head1 (Jvm.Cond.code (⟨"com/example/verdictlint/verdictlint/sarif/Cap", "dropsSomeOf", "(J)Z"⟩ : MethodName) prog_26_method_8_code 3 (some .boolean) :: ws) ({ frames := 0, cells := 0, slots := 0, locals := 0 } : Room)) (fun a U => a = #[(.ref w_LOCATIONS), (.long (101 : Int64))] ∧ Z.Warmed39 U.vm ∧ U.heap = h0) (fun _ _ _ _ _ => True) (fun _ U o U' => ∃ v L, o = .returned v ∧ QR h0 n0 (some (.int (1 : Int32))) v U'.heap L ∧ FrameEnd U o U' L ({ frames := 0, cells := 0, slots := 0, locals := 0 } : Room).cells ({ frames := 0, cells := 0, slots := 0, locals := 0 } : Room).slots) := by
  have F_LOCATIONS_kept := C.2.2.2.2.2.2.2.2.1
  refine MetFree.of_bodySF (plainFor_of_name pn_1) hisR ?_
  intro p e s m args below meth c s₁ Bd hml0 hP hK
  obtain ⟨rfl, hZ, hh⟩ := hP
  have hx := Bd.exec
  have hby := Bd.bytes
  have hml : c.maxLocals = 3 := hml0
  have hown : s.vm.findClass "com/example/verdictlint/verdictlint/sarif/Cap" = some m.cls := findClass_of_methodNamed Bd.named
  have hnm := (name_of_methodNamed Bd.named Bd.method).1
  have X0 : Stand p l e ({ frames := 0, cells := 0, slots := 0, locals := 0 } : Room) s m #[(.ref w_LOCATIONS), (.long (101 : Int64))] below meth c s₁ [] 0 0 := Stand.of_body Bd
  have e0 : s₁.heap = h0 := by rw [← hh, Bd.state]; rfl
  have N0 := Fr.nil n0
  have pre0 : ∀ t, Steps p.tables e below (s₁.setTop (mkF m 0 #[.val (.ref w_LOCATIONS), .val (.long (101 : Int64)), .second] [])) t → Steps p.tables e below (s₁.setTop (entryFrame m #[(.ref w_LOCATIONS), (.long (101 : Int64))] 3)) t := fun t k => castTop (ef_1 m w_LOCATIONS (101 : Int64)) k
  obtain ⟨T1, X1, e1, st1⟩ := getF X0 hx hZ hown (host := "") (Or.inl (hw _ (List.mem_of_getElem? (i := 10) rfl))) Via.refl e0 F_LOCATIONS_kept (g := (mkF m 2 #[.val (.ref w_LOCATIONS), .val (.long (101 : Int64)), .second] [(.ref w_LOCATIONS), (.long (101 : Int64))])) rfl rfl (hb hby d1_2)
  obtain ⟨fs, hr, hrun, hended, hW, hsame⟩ := X1.leave (v := (some (.int (1 : Int32)))) (fun h => by rw [Bd.returns] at h; cases h)
  refine ⟨_, _, pre0 _ ?_, hrun, hended, _, _, rfl, ?_, ⟨_, rfl⟩, hW, hsame.mono (by decide) (by decide)⟩
  · show Steps p.tables e below (s₁.setTop (mkF m 0 #[.val (.ref w_LOCATIONS), .val (.long (101 : Int64)), .second] [])) _
    refine XS.lloadN X0.here hx rfl (hb hby d1_0) rfl ?_
    show Steps p.tables e below (s₁.setTop (mkF m 1 #[.val (.ref w_LOCATIONS), .val (.long (101 : Int64)), .second] [(.long (101 : Int64))])) _
    refine XS.aloadN X0.here hx rfl (hb hby d1_1) rfl rfl ?_
    show Steps p.tables e below (s₁.setTop (mkF m 2 #[.val (.ref w_LOCATIONS), .val (.long (101 : Int64)), .second] [(.ref w_LOCATIONS), (.long (101 : Int64))])) _
    refine st1 _ ?_
    show Steps p.tables e below (T1.setTop (mkF m 5 #[.val (.ref w_LOCATIONS), .val (.long (101 : Int64)), .second] [(.long (100 : Int64)), (.long (101 : Int64))])) _
    refine XS.lcmp X1.here hx rfl (hb hby d1_5) rfl ?_
    show Steps p.tables e below (T1.setTop (mkF m 6 #[.val (.ref w_LOCATIONS), .val (.long (101 : Int64)), .second] [(.int (lcmpW (101 : Int64) (100 : Int64)))])) _
    rw [show (lcmpW (101 : Int64) (100 : Int64)) = (1 : Int32) from by decide +kernel]
    show Steps p.tables e below (T1.setTop (mkF m 6 #[.val (.ref w_LOCATIONS), .val (.long (101 : Int64)), .second] [(.int (1 : Int32))])) _
    refine XS.ifNo X1.here hx rfl (hb hby d1_6) rfl ((if0 _ _).trans (tlt (by decide +kernel : (0 : Int32) < (1 : Int32))).2.2.2) ?_
    show Steps p.tables e below (T1.setTop (mkF m 9 #[.val (.ref w_LOCATIONS), .val (.long (101 : Int64)), .second] [])) _
    refine XS.iconst X1.here hx rfl (hb hby d1_9) ?_
    show Steps p.tables e below (T1.setTop (mkF m 10 #[.val (.ref w_LOCATIONS), .val (.long (101 : Int64)), .second] [(.int (1 : Int32))])) _
    refine XS.goto X1.here hx rfl (pc0 := 10) (pc' := 14) rfl (hb hby d1_10) (by decide) (by decide) ?_
    show Steps p.tables e below (T1.setTop (mkF m 14 #[.val (.ref w_LOCATIONS), .val (.long (101 : Int64)), .second] [(.int (1 : Int32))])) _
    exact retN X1 hx (t := .boolean) Bd.returns (by simp) (hb hby d1_14) hr
  · exact ⟨rfl, N0, e1⟩
set_option maxRecDepth 65536 in
set_option maxHeartbeats 40000000 in
theorem rm0_8 (l : Launch) (Z : State) (a0 : Array Value) (hw : ∀ d ∈ tables_1, d.before a0 Z = true) (ws : List Jvm.Cond) (w_RUNS w_RESULTS w_LOCATIONS w_THREAD_FLOW_LOCATIONS w_RULES w_EXTENSIONS w_TAGS : Addr) (i0 : Int32) (i1 : Int64) (h0 : Heap) (n0 : Nat) (Z0 : n0 ≤ h0.size) (C : Ctx Z h0 w_RUNS w_RESULTS w_LOCATIONS w_THREAD_FLOW_LOCATIONS w_RULES w_EXTENSIONS w_TAGS) (hv0 : ((i0 &&& (2147483647 : Int32)) % (7 : Int32)) = (4 : Int32)) (hv1 : (0 : Int32) < (lcmpW i1 (100 : Int64))) :
    MetFree l x (head1 (Jvm.Cond.code x code maxLocals ret :: ws) room_1) (fun a U => a = #[(.int i0), (.long i1)] ∧ Z.Warmed39 U.vm ∧ U.heap = h0) (fun _ _ _ _ _ => True) (fun _ U o U' => ∃ v L, o = .returned v ∧ QR h0 n0 (some (.int (1 : Int32))) v U'.heap L ∧ FrameEnd U o U' L room_1.cells room_1.slots) := by
  have S_LOCATIONS := C.2.2.2.2.2.2.1
  have E_LOCATIONS := C.2.2.2.2.2.2.2.1
  refine MetFree.of_bodySF (plainFor_of_name pn_0) hisR ?_
  intro p e s m args below meth c s₁ Bd hml0 hP hK
  obtain ⟨rfl, hZ, hh⟩ := hP
  have hx := Bd.exec
  have hby := Bd.bytes
  have hml : c.maxLocals = 10 := hml0
  have hown : s.vm.findClass "com/example/verdictlint/verdictlint/sarif/CapDropsSomeOfPinLaw" = some m.cls := findClass_of_methodNamed Bd.named
  have hnm := (name_of_methodNamed Bd.named Bd.method).1
  have X0 : Stand p l e room_1 s m #[(.int i0), (.long i1)] below meth c s₁ [] 0 0 := Stand.of_body Bd
  have e0 : s₁.heap = h0 := by rw [← hh, Bd.state]; rfl
  have N0 := Fr.nil n0
  have pre0 : ∀ t, Steps p.tables e below (s₁.setTop (mkF m 0 #[.val (.int i0), .val (.long i1), .second, .unset, .unset, .unset, .unset, .unset, .unset, .unset] [])) t → Steps p.tables e below (s₁.setTop (entryFrame m #[(.int i0), (.long i1)] maxLocals)) t := fun t k => castTop (ef_0 m i0 i1) k
  obtain ⟨T1, X1, e1, st1⟩ := getS2 X0 hx hZ hown (host := "") (Or.inl (hw _ (List.mem_of_getElem? (i := 15) rfl))) Via.refl e0 S_LOCATIONS (g := (mkF m 84 #[.val (.int i0), .val (.long i1), .second, .val (.int (4 : Int32)), .unset, .unset, .unset, .unset, .unset, .unset] [])) rfl (hb hby at_84)
  obtain ⟨cq2, kq2, q2a, q2b, q2c⟩ := isOf hZ e1 E_LOCATIONS
  obtain ⟨_, _, ⟨T2, L2, k2, n2⟩, -, X2, ⟨Lc2, hQ2, l2, y2, z2⟩, st2⟩ := X1.virtualBack hx (y := (⟨"com/example/verdictlint/verdictlint/sarif/Cap", "dropsSomeOf", "(J)Z"⟩ : MethodName)) (z := (⟨"com/example/verdictlint/verdictlint/sarif/Cap", "dropsSomeOf", "(J)Z"⟩ : MethodName)) hown (mvT hZ (hw _ (List.mem_of_getElem? (i := 5) rfl))) (mvT hZ (hw _ (List.mem_of_getElem? (i := 6) rfl))) (notFace_of_selects (args := #[]) (mvT hZ (hw _ (List.mem_of_getElem? (i := 8) rfl)))) (mvT hZ (hw _ (List.mem_of_getElem? (i := 8) rfl))) (mvT hZ (hw _ (List.mem_of_getElem? (i := 7) rfl))) (by decide) (backOf (W := 0) (rm1_16 l Z a0 hw [] w_RUNS w_RESULTS w_LOCATIONS w_THREAD_FLOW_LOCATIONS w_RULES w_EXTENSIONS w_TAGS i0 i1 h0 n0 Z0 C hv0 hv1) hZ (hw _ (List.mem_of_getElem? (i := 9) rfl)) (hw _ (List.mem_of_getElem? (i := 2) rfl)) (by decide) (by decide)) q2a q2c (g := (mkF m 128 #[.val (.int i0), .val (.long i1), .second, .val (.int (4 : Int32)), .val (.ref w_LOCATIONS), .val (.long (100 : Int64)), .second, .unset, .unset, .unset] [(.long i1), (.ref w_LOCATIONS)])) rfl (by rw [hml]; rfl) (Steps.refl _) (argsL := [(.long i1)]) (rest := []) (lenOf pd_0 rfl) rfl (by show 2 * 0 + _ ≤ _; exact Nat.le_of_eq rfl) (hb hby at_128) (fun _ _ => ⟨rfl, e1, (by decide : 0 + 0 ≤ _), (by decide : 0 + 0 ≤ _)⟩)
  dsimp only [Pt.U, Pt.locs, Pt.cells, Pt.slots] at X2 l2 y2 z2 st2 hQ2
  subst l2 y2 z2
  obtain ⟨rfl, N2q, e2⟩ := hQ2
  have N2 := Fr.app N0 N2q
  obtain ⟨cq3, kq3, q3a, q3b, q3c⟩ := isOf hZ e2 E_LOCATIONS
  obtain ⟨_, _, ⟨T3, L3, k3, n3⟩, -, X3, ⟨Lc3, hQ3, l3, y3, z3⟩, st3⟩ := X2.virtualBack hx (y := (⟨"com/example/verdictlint/verdictlint/sarif/Cap", "dropsSomeOf", "(J)Z"⟩ : MethodName)) (z := (⟨"com/example/verdictlint/verdictlint/sarif/Cap", "dropsSomeOf", "(J)Z"⟩ : MethodName)) hown (mvT hZ (hw _ (List.mem_of_getElem? (i := 5) rfl))) (mvT hZ (hw _ (List.mem_of_getElem? (i := 6) rfl))) (notFace_of_selects (args := #[]) (mvT hZ (hw _ (List.mem_of_getElem? (i := 8) rfl)))) (mvT hZ (hw _ (List.mem_of_getElem? (i := 8) rfl))) (mvT hZ (hw _ (List.mem_of_getElem? (i := 7) rfl))) (by decide) (backOf (W := 0) (rm1_17 l Z a0 hw [] w_RUNS w_RESULTS w_LOCATIONS w_THREAD_FLOW_LOCATIONS w_RULES w_EXTENSIONS w_TAGS  h0 n0 Z0 C ) hZ (hw _ (List.mem_of_getElem? (i := 9) rfl)) (hw _ (List.mem_of_getElem? (i := 2) rfl)) (by decide) (by decide)) q3a q3c (g := (mkF m 157 #[.val (.int i0), .val (.long i1), .second, .val (.int (4 : Int32)), .val (.ref w_LOCATIONS), .val (.long (100 : Int64)), .second, .val (.int (1 : Int32)), .unset, .unset] [(.long (100 : Int64)), (.ref w_LOCATIONS)])) rfl (by rw [hml]; rfl) (Steps.refl _) (argsL := [(.long (100 : Int64))]) (rest := []) (lenOf pd_0 rfl) rfl (by show 2 * 0 + _ ≤ _; exact Nat.le_of_eq rfl) (hb hby at_157) (fun _ _ => ⟨rfl, e2, (by decide : 0 + 0 ≤ _), (by decide : 0 + 0 ≤ _)⟩)
  dsimp only [Pt.U, Pt.locs, Pt.cells, Pt.slots] at X3 l3 y3 z3 st3 hQ3
  subst l3 y3 z3
  obtain ⟨rfl, N3q, e3⟩ := hQ3
  have N3 := Fr.app N2 N3q
  obtain ⟨cq4, kq4, q4a, q4b, q4c⟩ := isOf hZ e3 E_LOCATIONS
  obtain ⟨_, _, ⟨T4, L4, k4, n4⟩, -, X4, ⟨Lc4, hQ4, l4, y4, z4⟩, st4⟩ := X3.virtualBack hx (y := (⟨"com/example/verdictlint/verdictlint/sarif/Cap", "dropsSomeOf", "(J)Z"⟩ : MethodName)) (z := (⟨"com/example/verdictlint/verdictlint/sarif/Cap", "dropsSomeOf", "(J)Z"⟩ : MethodName)) hown (mvT hZ (hw _ (List.mem_of_getElem? (i := 5) rfl))) (mvT hZ (hw _ (List.mem_of_getElem? (i := 6) rfl))) (notFace_of_selects (args := #[]) (mvT hZ (hw _ (List.mem_of_getElem? (i := 8) rfl)))) (mvT hZ (hw _ (List.mem_of_getElem? (i := 8) rfl))) (mvT hZ (hw _ (List.mem_of_getElem? (i := 7) rfl))) (by decide) (backOf (W := 0) (rm1_18 l Z a0 hw [] w_RUNS w_RESULTS w_LOCATIONS w_THREAD_FLOW_LOCATIONS w_RULES w_EXTENSIONS w_TAGS  h0 n0 Z0 C ) hZ (hw _ (List.mem_of_getElem? (i := 9) rfl)) (hw _ (List.mem_of_getElem? (i := 2) rfl)) (by decide) (by decide)) q4a q4c (g := (mkF m 176 #[.val (.int i0), .val (.long i1), .second, .val (.int (4 : Int32)), .val (.ref w_LOCATIONS), .val (.long (100 : Int64)), .second, .val (.int (1 : Int32)), .val (.int (1 : Int32)), .unset] [(.long (101 : Int64)), (.ref w_LOCATIONS)])) rfl (by rw [hml]; rfl) (Steps.refl _) (argsL := [(.long (101 : Int64))]) (rest := []) (lenOf pd_0 rfl) rfl (by show 2 * 0 + _ ≤ _; exact Nat.le_of_eq rfl) (hb hby at_176) (fun _ _ => ⟨rfl, e3, (by decide : 0 + 0 ≤ _), (by decide : 0 + 0 ≤ _)⟩)
  dsimp only [Pt.U, Pt.locs, Pt.cells, Pt.slots] at X4 l4 y4 z4 st4 hQ4
  subst l4 y4 z4
  obtain ⟨rfl, N4q, e4⟩ := hQ4
  have N4 := Fr.app N3 N4q
  obtain ⟨fs, hr, hrun, hended, hW, hsame⟩ := X4.leave (v := (some (.int (1 : Int32)))) (fun h => by rw [Bd.returns] at h; cases h)
  refine ⟨_, _, pre0 _ ?_, hrun, hended, _, _, rfl, ?_, ⟨_, rfl⟩, hW, hsame.mono (by decide) (by decide)⟩
  · show Steps p.tables e below (s₁.setTop (mkF m 0 #[.val (.int i0), .val (.long i1), .second, .unset, .unset, .unset, .unset, .unset, .unset, .unset] [])) _
    refine XS.iloadN X0.here hx rfl (hb hby at_0) rfl ?_
    show Steps p.tables e below (s₁.setTop (mkF m 1 #[.val (.int i0), .val (.long i1), .second, .unset, .unset, .unset, .unset, .unset, .unset, .unset] [(.int i0)])) _
    refine X0.ldcInt hx hown (mvT hZ (hw _ (List.mem_of_getElem? (i := 0) rfl))) (g := (mkF m 1 #[.val (.int i0), .val (.long i1), .second, .unset, .unset, .unset, .unset, .unset, .unset, .unset] [(.int i0)])) rfl (hb hby at_1) _ ?_
    show Steps p.tables e below (s₁.setTop (mkF m 3 #[.val (.int i0), .val (.long i1), .second, .unset, .unset, .unset, .unset, .unset, .unset, .unset] [(.int (2147483647 : Int32)), (.int i0)])) _
    refine XS.iand X0.here hx rfl (hb hby at_3) rfl ?_
    show Steps p.tables e below (s₁.setTop (mkF m 4 #[.val (.int i0), .val (.long i1), .second, .unset, .unset, .unset, .unset, .unset, .unset, .unset] [(.int (i0 &&& (2147483647 : Int32)))])) _
    refine XS.bipush X0.here hx rfl (hb hby at_4) ?_
    show Steps p.tables e below (s₁.setTop (mkF m 6 #[.val (.int i0), .val (.long i1), .second, .unset, .unset, .unset, .unset, .unset, .unset, .unset] [(.int (7 : Int32)), (.int (i0 &&& (2147483647 : Int32)))])) _
    refine iremM (g := (mkF m 6 #[.val (.int i0), .val (.long i1), .second, .unset, .unset, .unset, .unset, .unset, .unset, .unset] [(.int (7 : Int32)), (.int (i0 &&& (2147483647 : Int32)))])) X0 hx rfl (hb hby at_6) rfl (by decide) ?_
    show Steps p.tables e below (s₁.setTop (mkF m 7 #[.val (.int i0), .val (.long i1), .second, .unset, .unset, .unset, .unset, .unset, .unset, .unset] [(.int ((i0 &&& (2147483647 : Int32)) % (7 : Int32)))])) _
    rw [hv0]
    show Steps p.tables e below (s₁.setTop (mkF m 7 #[.val (.int i0), .val (.long i1), .second, .unset, .unset, .unset, .unset, .unset, .unset, .unset] [(.int (4 : Int32))])) _
    refine XS.istoreN X0.here hx rfl (hb hby at_7) rfl (l' := #[.val (.int i0), .val (.long i1), .second, .val (.int (4 : Int32)), .unset, .unset, .unset, .unset, .unset, .unset]) rfl ?_
    show Steps p.tables e below (s₁.setTop (mkF m 8 #[.val (.int i0), .val (.long i1), .second, .val (.int (4 : Int32)), .unset, .unset, .unset, .unset, .unset, .unset] [])) _
    refine XS.iloadN X0.here hx rfl (hb hby at_8) rfl ?_
    show Steps p.tables e below (s₁.setTop (mkF m 9 #[.val (.int i0), .val (.long i1), .second, .val (.int (4 : Int32)), .unset, .unset, .unset, .unset, .unset, .unset] [(.int (4 : Int32))])) _
    refine XS.ifYes X0.here hx rfl (pc0 := 9) (pc' := 25) rfl (hb hby at_9) rfl ((if0 _ _).trans (feq (by decide +kernel : ¬ ((4 : Int32) = (0 : Int32)))).2) (by decide) (by decide) ?_
    show Steps p.tables e below (s₁.setTop (mkF m 25 #[.val (.int i0), .val (.long i1), .second, .val (.int (4 : Int32)), .unset, .unset, .unset, .unset, .unset, .unset] [])) _
    refine XS.iloadN X0.here hx rfl (hb hby at_25) rfl ?_
    show Steps p.tables e below (s₁.setTop (mkF m 26 #[.val (.int i0), .val (.long i1), .second, .val (.int (4 : Int32)), .unset, .unset, .unset, .unset, .unset, .unset] [(.int (4 : Int32))])) _
    refine XS.iconst X0.here hx rfl (hb hby at_26) ?_
    show Steps p.tables e below (s₁.setTop (mkF m 27 #[.val (.int i0), .val (.long i1), .second, .val (.int (4 : Int32)), .unset, .unset, .unset, .unset, .unset, .unset] [(.int (1 : Int32)), (.int (4 : Int32))])) _
    refine XS.icmpYes X0.here hx rfl (pc0 := 27) (pc' := 43) rfl (hb hby at_27) rfl (feq (by decide +kernel : ¬ ((4 : Int32) = (1 : Int32)))).2 (by decide) (by decide) ?_
    show Steps p.tables e below (s₁.setTop (mkF m 43 #[.val (.int i0), .val (.long i1), .second, .val (.int (4 : Int32)), .unset, .unset, .unset, .unset, .unset, .unset] [])) _
    refine XS.iloadN X0.here hx rfl (hb hby at_43) rfl ?_
    show Steps p.tables e below (s₁.setTop (mkF m 44 #[.val (.int i0), .val (.long i1), .second, .val (.int (4 : Int32)), .unset, .unset, .unset, .unset, .unset, .unset] [(.int (4 : Int32))])) _
    refine XS.iconst X0.here hx rfl (hb hby at_44) ?_
    show Steps p.tables e below (s₁.setTop (mkF m 45 #[.val (.int i0), .val (.long i1), .second, .val (.int (4 : Int32)), .unset, .unset, .unset, .unset, .unset, .unset] [(.int (2 : Int32)), (.int (4 : Int32))])) _
    refine XS.icmpYes X0.here hx rfl (pc0 := 45) (pc' := 61) rfl (hb hby at_45) rfl (feq (by decide +kernel : ¬ ((4 : Int32) = (2 : Int32)))).2 (by decide) (by decide) ?_
    show Steps p.tables e below (s₁.setTop (mkF m 61 #[.val (.int i0), .val (.long i1), .second, .val (.int (4 : Int32)), .unset, .unset, .unset, .unset, .unset, .unset] [])) _
    refine XS.iloadN X0.here hx rfl (hb hby at_61) rfl ?_
    show Steps p.tables e below (s₁.setTop (mkF m 62 #[.val (.int i0), .val (.long i1), .second, .val (.int (4 : Int32)), .unset, .unset, .unset, .unset, .unset, .unset] [(.int (4 : Int32))])) _
    refine XS.iconst X0.here hx rfl (hb hby at_62) ?_
    show Steps p.tables e below (s₁.setTop (mkF m 63 #[.val (.int i0), .val (.long i1), .second, .val (.int (4 : Int32)), .unset, .unset, .unset, .unset, .unset, .unset] [(.int (3 : Int32)), (.int (4 : Int32))])) _
    refine XS.icmpYes X0.here hx rfl (pc0 := 63) (pc' := 79) rfl (hb hby at_63) rfl (feq (by decide +kernel : ¬ ((4 : Int32) = (3 : Int32)))).2 (by decide) (by decide) ?_
    show Steps p.tables e below (s₁.setTop (mkF m 79 #[.val (.int i0), .val (.long i1), .second, .val (.int (4 : Int32)), .unset, .unset, .unset, .unset, .unset, .unset] [])) _
    refine XS.iloadN X0.here hx rfl (hb hby at_79) rfl ?_
    show Steps p.tables e below (s₁.setTop (mkF m 80 #[.val (.int i0), .val (.long i1), .second, .val (.int (4 : Int32)), .unset, .unset, .unset, .unset, .unset, .unset] [(.int (4 : Int32))])) _
    refine XS.iconst X0.here hx rfl (hb hby at_80) ?_
    show Steps p.tables e below (s₁.setTop (mkF m 81 #[.val (.int i0), .val (.long i1), .second, .val (.int (4 : Int32)), .unset, .unset, .unset, .unset, .unset, .unset] [(.int (4 : Int32)), (.int (4 : Int32))])) _
    refine XS.icmpNo X0.here hx rfl (hb hby at_81) rfl (teq (by decide +kernel : (4 : Int32) = (4 : Int32))).2 ?_
    show Steps p.tables e below (s₁.setTop (mkF m 84 #[.val (.int i0), .val (.long i1), .second, .val (.int (4 : Int32)), .unset, .unset, .unset, .unset, .unset, .unset] [])) _
    refine st1 _ ?_
    show Steps p.tables e below (T1.setTop (mkF m 87 #[.val (.int i0), .val (.long i1), .second, .val (.int (4 : Int32)), .unset, .unset, .unset, .unset, .unset, .unset] [(.ref w_LOCATIONS)])) _
    refine XS.astore X1.here hx rfl (hb hby at_87) rfl rfl (l' := #[.val (.int i0), .val (.long i1), .second, .val (.int (4 : Int32)), .val (.ref w_LOCATIONS), .unset, .unset, .unset, .unset, .unset]) rfl ?_
    show Steps p.tables e below (T1.setTop (mkF m 89 #[.val (.int i0), .val (.long i1), .second, .val (.int (4 : Int32)), .val (.ref w_LOCATIONS), .unset, .unset, .unset, .unset, .unset] [])) _
    refine X1.ldc2Long hx hown (mvT hZ (hw _ (List.mem_of_getElem? (i := 17) rfl))) (g := (mkF m 89 #[.val (.int i0), .val (.long i1), .second, .val (.int (4 : Int32)), .val (.ref w_LOCATIONS), .unset, .unset, .unset, .unset, .unset] [])) rfl (hb hby at_89) _ ?_
    show Steps p.tables e below (T1.setTop (mkF m 92 #[.val (.int i0), .val (.long i1), .second, .val (.int (4 : Int32)), .val (.ref w_LOCATIONS), .unset, .unset, .unset, .unset, .unset] [(.long (100 : Int64))])) _
    refine XS.lstore X1.here hx rfl (hb hby at_92) rfl (l' := #[.val (.int i0), .val (.long i1), .second, .val (.int (4 : Int32)), .val (.ref w_LOCATIONS), .val (.long (100 : Int64)), .second, .unset, .unset, .unset]) rfl ?_
    show Steps p.tables e below (T1.setTop (mkF m 94 #[.val (.int i0), .val (.long i1), .second, .val (.int (4 : Int32)), .val (.ref w_LOCATIONS), .val (.long (100 : Int64)), .second, .unset, .unset, .unset] [])) _
    refine XS.goto X1.here hx rfl (pc0 := 94) (pc' := 125) rfl (hb hby at_94) (by decide) (by decide) ?_
    show Steps p.tables e below (T1.setTop (mkF m 125 #[.val (.int i0), .val (.long i1), .second, .val (.int (4 : Int32)), .val (.ref w_LOCATIONS), .val (.long (100 : Int64)), .second, .unset, .unset, .unset] [])) _
    refine XS.aload X1.here hx rfl (hb hby at_125) rfl rfl ?_
    show Steps p.tables e below (T1.setTop (mkF m 127 #[.val (.int i0), .val (.long i1), .second, .val (.int (4 : Int32)), .val (.ref w_LOCATIONS), .val (.long (100 : Int64)), .second, .unset, .unset, .unset] [(.ref w_LOCATIONS)])) _
    refine XS.lloadN X1.here hx rfl (hb hby at_127) rfl ?_
    show Steps p.tables e below (T1.setTop (mkF m 128 #[.val (.int i0), .val (.long i1), .second, .val (.int (4 : Int32)), .val (.ref w_LOCATIONS), .val (.long (100 : Int64)), .second, .unset, .unset, .unset] [(.long i1), (.ref w_LOCATIONS)])) _
    refine st2.trans ?_
    show Steps p.tables e below (T2.setTop (mkF m 131 #[.val (.int i0), .val (.long i1), .second, .val (.int (4 : Int32)), .val (.ref w_LOCATIONS), .val (.long (100 : Int64)), .second, .unset, .unset, .unset] [(.int (1 : Int32))])) _
    refine XS.lloadN X2.here hx rfl (hb hby at_131) rfl ?_
    show Steps p.tables e below (T2.setTop (mkF m 132 #[.val (.int i0), .val (.long i1), .second, .val (.int (4 : Int32)), .val (.ref w_LOCATIONS), .val (.long (100 : Int64)), .second, .unset, .unset, .unset] [(.long i1), (.int (1 : Int32))])) _
    refine XS.lload X2.here hx rfl (hb hby at_132) rfl ?_
    show Steps p.tables e below (T2.setTop (mkF m 134 #[.val (.int i0), .val (.long i1), .second, .val (.int (4 : Int32)), .val (.ref w_LOCATIONS), .val (.long (100 : Int64)), .second, .unset, .unset, .unset] [(.long (100 : Int64)), (.long i1), (.int (1 : Int32))])) _
    refine XS.lcmp X2.here hx rfl (hb hby at_134) rfl ?_
    show Steps p.tables e below (T2.setTop (mkF m 135 #[.val (.int i0), .val (.long i1), .second, .val (.int (4 : Int32)), .val (.ref w_LOCATIONS), .val (.long (100 : Int64)), .second, .unset, .unset, .unset] [(.int (lcmpW i1 (100 : Int64))), (.int (1 : Int32))])) _
    refine XS.ifNo X2.here hx rfl (hb hby at_135) rfl ((if0 _ _).trans (tlt hv1).2.2.2) ?_
    show Steps p.tables e below (T2.setTop (mkF m 138 #[.val (.int i0), .val (.long i1), .second, .val (.int (4 : Int32)), .val (.ref w_LOCATIONS), .val (.long (100 : Int64)), .second, .unset, .unset, .unset] [(.int (1 : Int32))])) _
    refine XS.iconst X2.here hx rfl (hb hby at_138) ?_
    show Steps p.tables e below (T2.setTop (mkF m 139 #[.val (.int i0), .val (.long i1), .second, .val (.int (4 : Int32)), .val (.ref w_LOCATIONS), .val (.long (100 : Int64)), .second, .unset, .unset, .unset] [(.int (1 : Int32)), (.int (1 : Int32))])) _
    refine XS.goto X2.here hx rfl (pc0 := 139) (pc' := 143) rfl (hb hby at_139) (by decide) (by decide) ?_
    show Steps p.tables e below (T2.setTop (mkF m 143 #[.val (.int i0), .val (.long i1), .second, .val (.int (4 : Int32)), .val (.ref w_LOCATIONS), .val (.long (100 : Int64)), .second, .unset, .unset, .unset] [(.int (1 : Int32)), (.int (1 : Int32))])) _
    refine XS.icmpNo X2.here hx rfl (hb hby at_143) rfl (teq (by decide +kernel : (1 : Int32) = (1 : Int32))).2 ?_
    show Steps p.tables e below (T2.setTop (mkF m 146 #[.val (.int i0), .val (.long i1), .second, .val (.int (4 : Int32)), .val (.ref w_LOCATIONS), .val (.long (100 : Int64)), .second, .unset, .unset, .unset] [])) _
    refine XS.iconst X2.here hx rfl (hb hby at_146) ?_
    show Steps p.tables e below (T2.setTop (mkF m 147 #[.val (.int i0), .val (.long i1), .second, .val (.int (4 : Int32)), .val (.ref w_LOCATIONS), .val (.long (100 : Int64)), .second, .unset, .unset, .unset] [(.int (1 : Int32))])) _
    refine XS.goto X2.here hx rfl (pc0 := 147) (pc' := 151) rfl (hb hby at_147) (by decide) (by decide) ?_
    show Steps p.tables e below (T2.setTop (mkF m 151 #[.val (.int i0), .val (.long i1), .second, .val (.int (4 : Int32)), .val (.ref w_LOCATIONS), .val (.long (100 : Int64)), .second, .unset, .unset, .unset] [(.int (1 : Int32))])) _
    refine XS.istore X2.here hx rfl (hb hby at_151) rfl (l' := #[.val (.int i0), .val (.long i1), .second, .val (.int (4 : Int32)), .val (.ref w_LOCATIONS), .val (.long (100 : Int64)), .second, .val (.int (1 : Int32)), .unset, .unset]) rfl ?_
    show Steps p.tables e below (T2.setTop (mkF m 153 #[.val (.int i0), .val (.long i1), .second, .val (.int (4 : Int32)), .val (.ref w_LOCATIONS), .val (.long (100 : Int64)), .second, .val (.int (1 : Int32)), .unset, .unset] [])) _
    refine XS.aload X2.here hx rfl (hb hby at_153) rfl rfl ?_
    show Steps p.tables e below (T2.setTop (mkF m 155 #[.val (.int i0), .val (.long i1), .second, .val (.int (4 : Int32)), .val (.ref w_LOCATIONS), .val (.long (100 : Int64)), .second, .val (.int (1 : Int32)), .unset, .unset] [(.ref w_LOCATIONS)])) _
    refine XS.lload X2.here hx rfl (hb hby at_155) rfl ?_
    show Steps p.tables e below (T2.setTop (mkF m 157 #[.val (.int i0), .val (.long i1), .second, .val (.int (4 : Int32)), .val (.ref w_LOCATIONS), .val (.long (100 : Int64)), .second, .val (.int (1 : Int32)), .unset, .unset] [(.long (100 : Int64)), (.ref w_LOCATIONS)])) _
    refine st3.trans ?_
    show Steps p.tables e below (T3.setTop (mkF m 160 #[.val (.int i0), .val (.long i1), .second, .val (.int (4 : Int32)), .val (.ref w_LOCATIONS), .val (.long (100 : Int64)), .second, .val (.int (1 : Int32)), .unset, .unset] [(.int (0 : Int32))])) _
    refine XS.ifNo X3.here hx rfl (hb hby at_160) rfl ((if0 _ _).trans (teq (by decide +kernel : (0 : Int32) = (0 : Int32))).2) ?_
    show Steps p.tables e below (T3.setTop (mkF m 163 #[.val (.int i0), .val (.long i1), .second, .val (.int (4 : Int32)), .val (.ref w_LOCATIONS), .val (.long (100 : Int64)), .second, .val (.int (1 : Int32)), .unset, .unset] [])) _
    refine XS.iconst X3.here hx rfl (hb hby at_163) ?_
    show Steps p.tables e below (T3.setTop (mkF m 164 #[.val (.int i0), .val (.long i1), .second, .val (.int (4 : Int32)), .val (.ref w_LOCATIONS), .val (.long (100 : Int64)), .second, .val (.int (1 : Int32)), .unset, .unset] [(.int (1 : Int32))])) _
    refine XS.goto X3.here hx rfl (pc0 := 164) (pc' := 168) rfl (hb hby at_164) (by decide) (by decide) ?_
    show Steps p.tables e below (T3.setTop (mkF m 168 #[.val (.int i0), .val (.long i1), .second, .val (.int (4 : Int32)), .val (.ref w_LOCATIONS), .val (.long (100 : Int64)), .second, .val (.int (1 : Int32)), .unset, .unset] [(.int (1 : Int32))])) _
    refine XS.istore X3.here hx rfl (hb hby at_168) rfl (l' := #[.val (.int i0), .val (.long i1), .second, .val (.int (4 : Int32)), .val (.ref w_LOCATIONS), .val (.long (100 : Int64)), .second, .val (.int (1 : Int32)), .val (.int (1 : Int32)), .unset]) rfl ?_
    show Steps p.tables e below (T3.setTop (mkF m 170 #[.val (.int i0), .val (.long i1), .second, .val (.int (4 : Int32)), .val (.ref w_LOCATIONS), .val (.long (100 : Int64)), .second, .val (.int (1 : Int32)), .val (.int (1 : Int32)), .unset] [])) _
    refine XS.aload X3.here hx rfl (hb hby at_170) rfl rfl ?_
    show Steps p.tables e below (T3.setTop (mkF m 172 #[.val (.int i0), .val (.long i1), .second, .val (.int (4 : Int32)), .val (.ref w_LOCATIONS), .val (.long (100 : Int64)), .second, .val (.int (1 : Int32)), .val (.int (1 : Int32)), .unset] [(.ref w_LOCATIONS)])) _
    refine XS.lload X3.here hx rfl (hb hby at_172) rfl ?_
    show Steps p.tables e below (T3.setTop (mkF m 174 #[.val (.int i0), .val (.long i1), .second, .val (.int (4 : Int32)), .val (.ref w_LOCATIONS), .val (.long (100 : Int64)), .second, .val (.int (1 : Int32)), .val (.int (1 : Int32)), .unset] [(.long (100 : Int64)), (.ref w_LOCATIONS)])) _
    refine XS.lconst X3.here hx rfl (hb hby at_174) ?_
    show Steps p.tables e below (T3.setTop (mkF m 175 #[.val (.int i0), .val (.long i1), .second, .val (.int (4 : Int32)), .val (.ref w_LOCATIONS), .val (.long (100 : Int64)), .second, .val (.int (1 : Int32)), .val (.int (1 : Int32)), .unset] [(.long (1 : Int64)), (.long (100 : Int64)), (.ref w_LOCATIONS)])) _
    refine XS.ladd X3.here hx rfl (hb hby at_175) rfl ?_
    show Steps p.tables e below (T3.setTop (mkF m 176 #[.val (.int i0), .val (.long i1), .second, .val (.int (4 : Int32)), .val (.ref w_LOCATIONS), .val (.long (100 : Int64)), .second, .val (.int (1 : Int32)), .val (.int (1 : Int32)), .unset] [(.long ((100 : Int64) + (1 : Int64))), (.ref w_LOCATIONS)])) _
    rw [show ((100 : Int64) + (1 : Int64)) = (101 : Int64) from by decide +kernel]
    show Steps p.tables e below (T3.setTop (mkF m 176 #[.val (.int i0), .val (.long i1), .second, .val (.int (4 : Int32)), .val (.ref w_LOCATIONS), .val (.long (100 : Int64)), .second, .val (.int (1 : Int32)), .val (.int (1 : Int32)), .unset] [(.long (101 : Int64)), (.ref w_LOCATIONS)])) _
    refine st4.trans ?_
    show Steps p.tables e below (T4.setTop (mkF m 179 #[.val (.int i0), .val (.long i1), .second, .val (.int (4 : Int32)), .val (.ref w_LOCATIONS), .val (.long (100 : Int64)), .second, .val (.int (1 : Int32)), .val (.int (1 : Int32)), .unset] [(.int (1 : Int32))])) _
    refine XS.istore X4.here hx rfl (hb hby at_179) rfl (l' := #[.val (.int i0), .val (.long i1), .second, .val (.int (4 : Int32)), .val (.ref w_LOCATIONS), .val (.long (100 : Int64)), .second, .val (.int (1 : Int32)), .val (.int (1 : Int32)), .val (.int (1 : Int32))]) rfl ?_
    show Steps p.tables e below (T4.setTop (mkF m 181 #[.val (.int i0), .val (.long i1), .second, .val (.int (4 : Int32)), .val (.ref w_LOCATIONS), .val (.long (100 : Int64)), .second, .val (.int (1 : Int32)), .val (.int (1 : Int32)), .val (.int (1 : Int32))] [])) _
    refine XS.iload X4.here hx rfl (hb hby at_181) rfl ?_
    show Steps p.tables e below (T4.setTop (mkF m 183 #[.val (.int i0), .val (.long i1), .second, .val (.int (4 : Int32)), .val (.ref w_LOCATIONS), .val (.long (100 : Int64)), .second, .val (.int (1 : Int32)), .val (.int (1 : Int32)), .val (.int (1 : Int32))] [(.int (1 : Int32))])) _
    refine XS.ifNo X4.here hx rfl (hb hby at_183) rfl ((if0 _ _).trans (feq (by decide +kernel : ¬ ((1 : Int32) = (0 : Int32)))).1) ?_
    show Steps p.tables e below (T4.setTop (mkF m 186 #[.val (.int i0), .val (.long i1), .second, .val (.int (4 : Int32)), .val (.ref w_LOCATIONS), .val (.long (100 : Int64)), .second, .val (.int (1 : Int32)), .val (.int (1 : Int32)), .val (.int (1 : Int32))] [])) _
    refine XS.iload X4.here hx rfl (hb hby at_186) rfl ?_
    show Steps p.tables e below (T4.setTop (mkF m 188 #[.val (.int i0), .val (.long i1), .second, .val (.int (4 : Int32)), .val (.ref w_LOCATIONS), .val (.long (100 : Int64)), .second, .val (.int (1 : Int32)), .val (.int (1 : Int32)), .val (.int (1 : Int32))] [(.int (1 : Int32))])) _
    refine XS.ifNo X4.here hx rfl (hb hby at_188) rfl ((if0 _ _).trans (feq (by decide +kernel : ¬ ((1 : Int32) = (0 : Int32)))).1) ?_
    show Steps p.tables e below (T4.setTop (mkF m 191 #[.val (.int i0), .val (.long i1), .second, .val (.int (4 : Int32)), .val (.ref w_LOCATIONS), .val (.long (100 : Int64)), .second, .val (.int (1 : Int32)), .val (.int (1 : Int32)), .val (.int (1 : Int32))] [])) _
    refine XS.iload X4.here hx rfl (hb hby at_191) rfl ?_
    show Steps p.tables e below (T4.setTop (mkF m 193 #[.val (.int i0), .val (.long i1), .second, .val (.int (4 : Int32)), .val (.ref w_LOCATIONS), .val (.long (100 : Int64)), .second, .val (.int (1 : Int32)), .val (.int (1 : Int32)), .val (.int (1 : Int32))] [(.int (1 : Int32))])) _
    refine XS.ifNo X4.here hx rfl (hb hby at_193) rfl ((if0 _ _).trans (feq (by decide +kernel : ¬ ((1 : Int32) = (0 : Int32)))).1) ?_
    show Steps p.tables e below (T4.setTop (mkF m 196 #[.val (.int i0), .val (.long i1), .second, .val (.int (4 : Int32)), .val (.ref w_LOCATIONS), .val (.long (100 : Int64)), .second, .val (.int (1 : Int32)), .val (.int (1 : Int32)), .val (.int (1 : Int32))] [])) _
    refine XS.iconst X4.here hx rfl (hb hby at_196) ?_
    show Steps p.tables e below (T4.setTop (mkF m 197 #[.val (.int i0), .val (.long i1), .second, .val (.int (4 : Int32)), .val (.ref w_LOCATIONS), .val (.long (100 : Int64)), .second, .val (.int (1 : Int32)), .val (.int (1 : Int32)), .val (.int (1 : Int32))] [(.int (1 : Int32))])) _
    refine XS.goto X4.here hx rfl (pc0 := 197) (pc' := 201) rfl (hb hby at_197) (by decide) (by decide) ?_
    show Steps p.tables e below (T4.setTop (mkF m 201 #[.val (.int i0), .val (.long i1), .second, .val (.int (4 : Int32)), .val (.ref w_LOCATIONS), .val (.long (100 : Int64)), .second, .val (.int (1 : Int32)), .val (.int (1 : Int32)), .val (.int (1 : Int32))] [(.int (1 : Int32))])) _
    exact retN X4 hx (t := .boolean) Bd.returns (by simp) (hb hby at_201) hr
  · exact ⟨rfl, N4, e4⟩
set_option maxRecDepth 65536 in
set_option maxHeartbeats 40000000 in
theorem rm1_19 (l : Launch) (Z : State) (a0 : Array Value) (hw : ∀ d ∈ tables_1, d.before a0 Z = true) (ws : List Jvm.Cond) (w_RUNS w_RESULTS w_LOCATIONS w_THREAD_FLOW_LOCATIONS w_RULES w_EXTENSIONS w_TAGS : Addr) (i0 : Int32) (i1 : Int64) (h0 : Heap) (n0 : Nat) (Z0 : n0 ≤ h0.size) (C : Ctx Z h0 w_RUNS w_RESULTS w_LOCATIONS w_THREAD_FLOW_LOCATIONS w_RULES w_EXTENSIONS w_TAGS) (hv0 : ((i0 &&& (2147483647 : Int32)) % (7 : Int32)) = (4 : Int32)) (hv1 : ¬ ((0 : Int32) < (lcmpW i1 (100 : Int64)))) :
    MetFree l (⟨"com/example/verdictlint/verdictlint/sarif/Cap", "dropsSomeOf", "(J)Z"⟩ : MethodName) (head1 (Jvm.Cond.code (⟨"com/example/verdictlint/verdictlint/sarif/Cap", "dropsSomeOf", "(J)Z"⟩ : MethodName) prog_26_method_8_code 3 (some .boolean) :: ws) ({ frames := 0, cells := 0, slots := 0, locals := 0 } : Room)) (fun a U => a = #[(.ref w_LOCATIONS), (.long i1)] ∧ Z.Warmed39 U.vm ∧ U.heap = h0) (fun _ _ _ _ _ => True) (fun _ U o U' => ∃ v L, o = .returned v ∧ QR h0 n0 (some (.int (0 : Int32))) v U'.heap L ∧ FrameEnd U o U' L ({ frames := 0, cells := 0, slots := 0, locals := 0 } : Room).cells ({ frames := 0, cells := 0, slots := 0, locals := 0 } : Room).slots) := by
  have F_LOCATIONS_kept := C.2.2.2.2.2.2.2.2.1
  refine MetFree.of_bodySF (plainFor_of_name pn_1) hisR ?_
  intro p e s m args below meth c s₁ Bd hml0 hP hK
  obtain ⟨rfl, hZ, hh⟩ := hP
  have hx := Bd.exec
  have hby := Bd.bytes
  have hml : c.maxLocals = 3 := hml0
  have hown : s.vm.findClass "com/example/verdictlint/verdictlint/sarif/Cap" = some m.cls := findClass_of_methodNamed Bd.named
  have hnm := (name_of_methodNamed Bd.named Bd.method).1
  have X0 : Stand p l e ({ frames := 0, cells := 0, slots := 0, locals := 0 } : Room) s m #[(.ref w_LOCATIONS), (.long i1)] below meth c s₁ [] 0 0 := Stand.of_body Bd
  have e0 : s₁.heap = h0 := by rw [← hh, Bd.state]; rfl
  have N0 := Fr.nil n0
  have pre0 : ∀ t, Steps p.tables e below (s₁.setTop (mkF m 0 #[.val (.ref w_LOCATIONS), .val (.long i1), .second] [])) t → Steps p.tables e below (s₁.setTop (entryFrame m #[(.ref w_LOCATIONS), (.long i1)] 3)) t := fun t k => castTop (ef_1 m w_LOCATIONS i1) k
  obtain ⟨T1, X1, e1, st1⟩ := getF X0 hx hZ hown (host := "") (Or.inl (hw _ (List.mem_of_getElem? (i := 10) rfl))) Via.refl e0 F_LOCATIONS_kept (g := (mkF m 2 #[.val (.ref w_LOCATIONS), .val (.long i1), .second] [(.ref w_LOCATIONS), (.long i1)])) rfl rfl (hb hby d1_2)
  obtain ⟨fs, hr, hrun, hended, hW, hsame⟩ := X1.leave (v := (some (.int (0 : Int32)))) (fun h => by rw [Bd.returns] at h; cases h)
  refine ⟨_, _, pre0 _ ?_, hrun, hended, _, _, rfl, ?_, ⟨_, rfl⟩, hW, hsame.mono (by decide) (by decide)⟩
  · show Steps p.tables e below (s₁.setTop (mkF m 0 #[.val (.ref w_LOCATIONS), .val (.long i1), .second] [])) _
    refine XS.lloadN X0.here hx rfl (hb hby d1_0) rfl ?_
    show Steps p.tables e below (s₁.setTop (mkF m 1 #[.val (.ref w_LOCATIONS), .val (.long i1), .second] [(.long i1)])) _
    refine XS.aloadN X0.here hx rfl (hb hby d1_1) rfl rfl ?_
    show Steps p.tables e below (s₁.setTop (mkF m 2 #[.val (.ref w_LOCATIONS), .val (.long i1), .second] [(.ref w_LOCATIONS), (.long i1)])) _
    refine st1 _ ?_
    show Steps p.tables e below (T1.setTop (mkF m 5 #[.val (.ref w_LOCATIONS), .val (.long i1), .second] [(.long (100 : Int64)), (.long i1)])) _
    refine XS.lcmp X1.here hx rfl (hb hby d1_5) rfl ?_
    show Steps p.tables e below (T1.setTop (mkF m 6 #[.val (.ref w_LOCATIONS), .val (.long i1), .second] [(.int (lcmpW i1 (100 : Int64)))])) _
    refine XS.ifYes X1.here hx rfl (pc0 := 6) (pc' := 13) rfl (hb hby d1_6) rfl ((if0 _ _).trans (flt hv1).2.2.2) (by decide) (by decide) ?_
    show Steps p.tables e below (T1.setTop (mkF m 13 #[.val (.ref w_LOCATIONS), .val (.long i1), .second] [])) _
    refine XS.iconst X1.here hx rfl (hb hby d1_13) ?_
    show Steps p.tables e below (T1.setTop (mkF m 14 #[.val (.ref w_LOCATIONS), .val (.long i1), .second] [(.int (0 : Int32))])) _
    exact retN X1 hx (t := .boolean) Bd.returns (by simp) (hb hby d1_14) hr
  · exact ⟨rfl, N0, e1⟩
set_option maxRecDepth 65536 in
set_option maxHeartbeats 40000000 in
theorem rm0_9 (l : Launch) (Z : State) (a0 : Array Value) (hw : ∀ d ∈ tables_1, d.before a0 Z = true) (ws : List Jvm.Cond) (w_RUNS w_RESULTS w_LOCATIONS w_THREAD_FLOW_LOCATIONS w_RULES w_EXTENSIONS w_TAGS : Addr) (i0 : Int32) (i1 : Int64) (h0 : Heap) (n0 : Nat) (Z0 : n0 ≤ h0.size) (C : Ctx Z h0 w_RUNS w_RESULTS w_LOCATIONS w_THREAD_FLOW_LOCATIONS w_RULES w_EXTENSIONS w_TAGS) (hv0 : ((i0 &&& (2147483647 : Int32)) % (7 : Int32)) = (4 : Int32)) (hv1 : ¬ ((0 : Int32) < (lcmpW i1 (100 : Int64)))) :
    MetFree l x (head1 (Jvm.Cond.code x code maxLocals ret :: ws) room_1) (fun a U => a = #[(.int i0), (.long i1)] ∧ Z.Warmed39 U.vm ∧ U.heap = h0) (fun _ _ _ _ _ => True) (fun _ U o U' => ∃ v L, o = .returned v ∧ QR h0 n0 (some (.int (1 : Int32))) v U'.heap L ∧ FrameEnd U o U' L room_1.cells room_1.slots) := by
  have S_LOCATIONS := C.2.2.2.2.2.2.1
  have E_LOCATIONS := C.2.2.2.2.2.2.2.1
  refine MetFree.of_bodySF (plainFor_of_name pn_0) hisR ?_
  intro p e s m args below meth c s₁ Bd hml0 hP hK
  obtain ⟨rfl, hZ, hh⟩ := hP
  have hx := Bd.exec
  have hby := Bd.bytes
  have hml : c.maxLocals = 10 := hml0
  have hown : s.vm.findClass "com/example/verdictlint/verdictlint/sarif/CapDropsSomeOfPinLaw" = some m.cls := findClass_of_methodNamed Bd.named
  have hnm := (name_of_methodNamed Bd.named Bd.method).1
  have X0 : Stand p l e room_1 s m #[(.int i0), (.long i1)] below meth c s₁ [] 0 0 := Stand.of_body Bd
  have e0 : s₁.heap = h0 := by rw [← hh, Bd.state]; rfl
  have N0 := Fr.nil n0
  have pre0 : ∀ t, Steps p.tables e below (s₁.setTop (mkF m 0 #[.val (.int i0), .val (.long i1), .second, .unset, .unset, .unset, .unset, .unset, .unset, .unset] [])) t → Steps p.tables e below (s₁.setTop (entryFrame m #[(.int i0), (.long i1)] maxLocals)) t := fun t k => castTop (ef_0 m i0 i1) k
  obtain ⟨T1, X1, e1, st1⟩ := getS2 X0 hx hZ hown (host := "") (Or.inl (hw _ (List.mem_of_getElem? (i := 15) rfl))) Via.refl e0 S_LOCATIONS (g := (mkF m 84 #[.val (.int i0), .val (.long i1), .second, .val (.int (4 : Int32)), .unset, .unset, .unset, .unset, .unset, .unset] [])) rfl (hb hby at_84)
  obtain ⟨cq2, kq2, q2a, q2b, q2c⟩ := isOf hZ e1 E_LOCATIONS
  obtain ⟨_, _, ⟨T2, L2, k2, n2⟩, -, X2, ⟨Lc2, hQ2, l2, y2, z2⟩, st2⟩ := X1.virtualBack hx (y := (⟨"com/example/verdictlint/verdictlint/sarif/Cap", "dropsSomeOf", "(J)Z"⟩ : MethodName)) (z := (⟨"com/example/verdictlint/verdictlint/sarif/Cap", "dropsSomeOf", "(J)Z"⟩ : MethodName)) hown (mvT hZ (hw _ (List.mem_of_getElem? (i := 5) rfl))) (mvT hZ (hw _ (List.mem_of_getElem? (i := 6) rfl))) (notFace_of_selects (args := #[]) (mvT hZ (hw _ (List.mem_of_getElem? (i := 8) rfl)))) (mvT hZ (hw _ (List.mem_of_getElem? (i := 8) rfl))) (mvT hZ (hw _ (List.mem_of_getElem? (i := 7) rfl))) (by decide) (backOf (W := 0) (rm1_19 l Z a0 hw [] w_RUNS w_RESULTS w_LOCATIONS w_THREAD_FLOW_LOCATIONS w_RULES w_EXTENSIONS w_TAGS i0 i1 h0 n0 Z0 C hv0 hv1) hZ (hw _ (List.mem_of_getElem? (i := 9) rfl)) (hw _ (List.mem_of_getElem? (i := 2) rfl)) (by decide) (by decide)) q2a q2c (g := (mkF m 128 #[.val (.int i0), .val (.long i1), .second, .val (.int (4 : Int32)), .val (.ref w_LOCATIONS), .val (.long (100 : Int64)), .second, .unset, .unset, .unset] [(.long i1), (.ref w_LOCATIONS)])) rfl (by rw [hml]; rfl) (Steps.refl _) (argsL := [(.long i1)]) (rest := []) (lenOf pd_0 rfl) rfl (by show 2 * 0 + _ ≤ _; exact Nat.le_of_eq rfl) (hb hby at_128) (fun _ _ => ⟨rfl, e1, (by decide : 0 + 0 ≤ _), (by decide : 0 + 0 ≤ _)⟩)
  dsimp only [Pt.U, Pt.locs, Pt.cells, Pt.slots] at X2 l2 y2 z2 st2 hQ2
  subst l2 y2 z2
  obtain ⟨rfl, N2q, e2⟩ := hQ2
  have N2 := Fr.app N0 N2q
  obtain ⟨cq3, kq3, q3a, q3b, q3c⟩ := isOf hZ e2 E_LOCATIONS
  obtain ⟨_, _, ⟨T3, L3, k3, n3⟩, -, X3, ⟨Lc3, hQ3, l3, y3, z3⟩, st3⟩ := X2.virtualBack hx (y := (⟨"com/example/verdictlint/verdictlint/sarif/Cap", "dropsSomeOf", "(J)Z"⟩ : MethodName)) (z := (⟨"com/example/verdictlint/verdictlint/sarif/Cap", "dropsSomeOf", "(J)Z"⟩ : MethodName)) hown (mvT hZ (hw _ (List.mem_of_getElem? (i := 5) rfl))) (mvT hZ (hw _ (List.mem_of_getElem? (i := 6) rfl))) (notFace_of_selects (args := #[]) (mvT hZ (hw _ (List.mem_of_getElem? (i := 8) rfl)))) (mvT hZ (hw _ (List.mem_of_getElem? (i := 8) rfl))) (mvT hZ (hw _ (List.mem_of_getElem? (i := 7) rfl))) (by decide) (backOf (W := 0) (rm1_17 l Z a0 hw [] w_RUNS w_RESULTS w_LOCATIONS w_THREAD_FLOW_LOCATIONS w_RULES w_EXTENSIONS w_TAGS  h0 n0 Z0 C ) hZ (hw _ (List.mem_of_getElem? (i := 9) rfl)) (hw _ (List.mem_of_getElem? (i := 2) rfl)) (by decide) (by decide)) q3a q3c (g := (mkF m 157 #[.val (.int i0), .val (.long i1), .second, .val (.int (4 : Int32)), .val (.ref w_LOCATIONS), .val (.long (100 : Int64)), .second, .val (.int (1 : Int32)), .unset, .unset] [(.long (100 : Int64)), (.ref w_LOCATIONS)])) rfl (by rw [hml]; rfl) (Steps.refl _) (argsL := [(.long (100 : Int64))]) (rest := []) (lenOf pd_0 rfl) rfl (by show 2 * 0 + _ ≤ _; exact Nat.le_of_eq rfl) (hb hby at_157) (fun _ _ => ⟨rfl, e2, (by decide : 0 + 0 ≤ _), (by decide : 0 + 0 ≤ _)⟩)
  dsimp only [Pt.U, Pt.locs, Pt.cells, Pt.slots] at X3 l3 y3 z3 st3 hQ3
  subst l3 y3 z3
  obtain ⟨rfl, N3q, e3⟩ := hQ3
  have N3 := Fr.app N2 N3q
  obtain ⟨cq4, kq4, q4a, q4b, q4c⟩ := isOf hZ e3 E_LOCATIONS
  obtain ⟨_, _, ⟨T4, L4, k4, n4⟩, -, X4, ⟨Lc4, hQ4, l4, y4, z4⟩, st4⟩ := X3.virtualBack hx (y := (⟨"com/example/verdictlint/verdictlint/sarif/Cap", "dropsSomeOf", "(J)Z"⟩ : MethodName)) (z := (⟨"com/example/verdictlint/verdictlint/sarif/Cap", "dropsSomeOf", "(J)Z"⟩ : MethodName)) hown (mvT hZ (hw _ (List.mem_of_getElem? (i := 5) rfl))) (mvT hZ (hw _ (List.mem_of_getElem? (i := 6) rfl))) (notFace_of_selects (args := #[]) (mvT hZ (hw _ (List.mem_of_getElem? (i := 8) rfl)))) (mvT hZ (hw _ (List.mem_of_getElem? (i := 8) rfl))) (mvT hZ (hw _ (List.mem_of_getElem? (i := 7) rfl))) (by decide) (backOf (W := 0) (rm1_18 l Z a0 hw [] w_RUNS w_RESULTS w_LOCATIONS w_THREAD_FLOW_LOCATIONS w_RULES w_EXTENSIONS w_TAGS  h0 n0 Z0 C ) hZ (hw _ (List.mem_of_getElem? (i := 9) rfl)) (hw _ (List.mem_of_getElem? (i := 2) rfl)) (by decide) (by decide)) q4a q4c (g := (mkF m 176 #[.val (.int i0), .val (.long i1), .second, .val (.int (4 : Int32)), .val (.ref w_LOCATIONS), .val (.long (100 : Int64)), .second, .val (.int (1 : Int32)), .val (.int (1 : Int32)), .unset] [(.long (101 : Int64)), (.ref w_LOCATIONS)])) rfl (by rw [hml]; rfl) (Steps.refl _) (argsL := [(.long (101 : Int64))]) (rest := []) (lenOf pd_0 rfl) rfl (by show 2 * 0 + _ ≤ _; exact Nat.le_of_eq rfl) (hb hby at_176) (fun _ _ => ⟨rfl, e3, (by decide : 0 + 0 ≤ _), (by decide : 0 + 0 ≤ _)⟩)
  dsimp only [Pt.U, Pt.locs, Pt.cells, Pt.slots] at X4 l4 y4 z4 st4 hQ4
  subst l4 y4 z4
  obtain ⟨rfl, N4q, e4⟩ := hQ4
  have N4 := Fr.app N3 N4q
  obtain ⟨fs, hr, hrun, hended, hW, hsame⟩ := X4.leave (v := (some (.int (1 : Int32)))) (fun h => by rw [Bd.returns] at h; cases h)
  refine ⟨_, _, pre0 _ ?_, hrun, hended, _, _, rfl, ?_, ⟨_, rfl⟩, hW, hsame.mono (by decide) (by decide)⟩
  · show Steps p.tables e below (s₁.setTop (mkF m 0 #[.val (.int i0), .val (.long i1), .second, .unset, .unset, .unset, .unset, .unset, .unset, .unset] [])) _
    refine XS.iloadN X0.here hx rfl (hb hby at_0) rfl ?_
    show Steps p.tables e below (s₁.setTop (mkF m 1 #[.val (.int i0), .val (.long i1), .second, .unset, .unset, .unset, .unset, .unset, .unset, .unset] [(.int i0)])) _
    refine X0.ldcInt hx hown (mvT hZ (hw _ (List.mem_of_getElem? (i := 0) rfl))) (g := (mkF m 1 #[.val (.int i0), .val (.long i1), .second, .unset, .unset, .unset, .unset, .unset, .unset, .unset] [(.int i0)])) rfl (hb hby at_1) _ ?_
    show Steps p.tables e below (s₁.setTop (mkF m 3 #[.val (.int i0), .val (.long i1), .second, .unset, .unset, .unset, .unset, .unset, .unset, .unset] [(.int (2147483647 : Int32)), (.int i0)])) _
    refine XS.iand X0.here hx rfl (hb hby at_3) rfl ?_
    show Steps p.tables e below (s₁.setTop (mkF m 4 #[.val (.int i0), .val (.long i1), .second, .unset, .unset, .unset, .unset, .unset, .unset, .unset] [(.int (i0 &&& (2147483647 : Int32)))])) _
    refine XS.bipush X0.here hx rfl (hb hby at_4) ?_
    show Steps p.tables e below (s₁.setTop (mkF m 6 #[.val (.int i0), .val (.long i1), .second, .unset, .unset, .unset, .unset, .unset, .unset, .unset] [(.int (7 : Int32)), (.int (i0 &&& (2147483647 : Int32)))])) _
    refine iremM (g := (mkF m 6 #[.val (.int i0), .val (.long i1), .second, .unset, .unset, .unset, .unset, .unset, .unset, .unset] [(.int (7 : Int32)), (.int (i0 &&& (2147483647 : Int32)))])) X0 hx rfl (hb hby at_6) rfl (by decide) ?_
    show Steps p.tables e below (s₁.setTop (mkF m 7 #[.val (.int i0), .val (.long i1), .second, .unset, .unset, .unset, .unset, .unset, .unset, .unset] [(.int ((i0 &&& (2147483647 : Int32)) % (7 : Int32)))])) _
    rw [hv0]
    show Steps p.tables e below (s₁.setTop (mkF m 7 #[.val (.int i0), .val (.long i1), .second, .unset, .unset, .unset, .unset, .unset, .unset, .unset] [(.int (4 : Int32))])) _
    refine XS.istoreN X0.here hx rfl (hb hby at_7) rfl (l' := #[.val (.int i0), .val (.long i1), .second, .val (.int (4 : Int32)), .unset, .unset, .unset, .unset, .unset, .unset]) rfl ?_
    show Steps p.tables e below (s₁.setTop (mkF m 8 #[.val (.int i0), .val (.long i1), .second, .val (.int (4 : Int32)), .unset, .unset, .unset, .unset, .unset, .unset] [])) _
    refine XS.iloadN X0.here hx rfl (hb hby at_8) rfl ?_
    show Steps p.tables e below (s₁.setTop (mkF m 9 #[.val (.int i0), .val (.long i1), .second, .val (.int (4 : Int32)), .unset, .unset, .unset, .unset, .unset, .unset] [(.int (4 : Int32))])) _
    refine XS.ifYes X0.here hx rfl (pc0 := 9) (pc' := 25) rfl (hb hby at_9) rfl ((if0 _ _).trans (feq (by decide +kernel : ¬ ((4 : Int32) = (0 : Int32)))).2) (by decide) (by decide) ?_
    show Steps p.tables e below (s₁.setTop (mkF m 25 #[.val (.int i0), .val (.long i1), .second, .val (.int (4 : Int32)), .unset, .unset, .unset, .unset, .unset, .unset] [])) _
    refine XS.iloadN X0.here hx rfl (hb hby at_25) rfl ?_
    show Steps p.tables e below (s₁.setTop (mkF m 26 #[.val (.int i0), .val (.long i1), .second, .val (.int (4 : Int32)), .unset, .unset, .unset, .unset, .unset, .unset] [(.int (4 : Int32))])) _
    refine XS.iconst X0.here hx rfl (hb hby at_26) ?_
    show Steps p.tables e below (s₁.setTop (mkF m 27 #[.val (.int i0), .val (.long i1), .second, .val (.int (4 : Int32)), .unset, .unset, .unset, .unset, .unset, .unset] [(.int (1 : Int32)), (.int (4 : Int32))])) _
    refine XS.icmpYes X0.here hx rfl (pc0 := 27) (pc' := 43) rfl (hb hby at_27) rfl (feq (by decide +kernel : ¬ ((4 : Int32) = (1 : Int32)))).2 (by decide) (by decide) ?_
    show Steps p.tables e below (s₁.setTop (mkF m 43 #[.val (.int i0), .val (.long i1), .second, .val (.int (4 : Int32)), .unset, .unset, .unset, .unset, .unset, .unset] [])) _
    refine XS.iloadN X0.here hx rfl (hb hby at_43) rfl ?_
    show Steps p.tables e below (s₁.setTop (mkF m 44 #[.val (.int i0), .val (.long i1), .second, .val (.int (4 : Int32)), .unset, .unset, .unset, .unset, .unset, .unset] [(.int (4 : Int32))])) _
    refine XS.iconst X0.here hx rfl (hb hby at_44) ?_
    show Steps p.tables e below (s₁.setTop (mkF m 45 #[.val (.int i0), .val (.long i1), .second, .val (.int (4 : Int32)), .unset, .unset, .unset, .unset, .unset, .unset] [(.int (2 : Int32)), (.int (4 : Int32))])) _
    refine XS.icmpYes X0.here hx rfl (pc0 := 45) (pc' := 61) rfl (hb hby at_45) rfl (feq (by decide +kernel : ¬ ((4 : Int32) = (2 : Int32)))).2 (by decide) (by decide) ?_
    show Steps p.tables e below (s₁.setTop (mkF m 61 #[.val (.int i0), .val (.long i1), .second, .val (.int (4 : Int32)), .unset, .unset, .unset, .unset, .unset, .unset] [])) _
    refine XS.iloadN X0.here hx rfl (hb hby at_61) rfl ?_
    show Steps p.tables e below (s₁.setTop (mkF m 62 #[.val (.int i0), .val (.long i1), .second, .val (.int (4 : Int32)), .unset, .unset, .unset, .unset, .unset, .unset] [(.int (4 : Int32))])) _
    refine XS.iconst X0.here hx rfl (hb hby at_62) ?_
    show Steps p.tables e below (s₁.setTop (mkF m 63 #[.val (.int i0), .val (.long i1), .second, .val (.int (4 : Int32)), .unset, .unset, .unset, .unset, .unset, .unset] [(.int (3 : Int32)), (.int (4 : Int32))])) _
    refine XS.icmpYes X0.here hx rfl (pc0 := 63) (pc' := 79) rfl (hb hby at_63) rfl (feq (by decide +kernel : ¬ ((4 : Int32) = (3 : Int32)))).2 (by decide) (by decide) ?_
    show Steps p.tables e below (s₁.setTop (mkF m 79 #[.val (.int i0), .val (.long i1), .second, .val (.int (4 : Int32)), .unset, .unset, .unset, .unset, .unset, .unset] [])) _
    refine XS.iloadN X0.here hx rfl (hb hby at_79) rfl ?_
    show Steps p.tables e below (s₁.setTop (mkF m 80 #[.val (.int i0), .val (.long i1), .second, .val (.int (4 : Int32)), .unset, .unset, .unset, .unset, .unset, .unset] [(.int (4 : Int32))])) _
    refine XS.iconst X0.here hx rfl (hb hby at_80) ?_
    show Steps p.tables e below (s₁.setTop (mkF m 81 #[.val (.int i0), .val (.long i1), .second, .val (.int (4 : Int32)), .unset, .unset, .unset, .unset, .unset, .unset] [(.int (4 : Int32)), (.int (4 : Int32))])) _
    refine XS.icmpNo X0.here hx rfl (hb hby at_81) rfl (teq (by decide +kernel : (4 : Int32) = (4 : Int32))).2 ?_
    show Steps p.tables e below (s₁.setTop (mkF m 84 #[.val (.int i0), .val (.long i1), .second, .val (.int (4 : Int32)), .unset, .unset, .unset, .unset, .unset, .unset] [])) _
    refine st1 _ ?_
    show Steps p.tables e below (T1.setTop (mkF m 87 #[.val (.int i0), .val (.long i1), .second, .val (.int (4 : Int32)), .unset, .unset, .unset, .unset, .unset, .unset] [(.ref w_LOCATIONS)])) _
    refine XS.astore X1.here hx rfl (hb hby at_87) rfl rfl (l' := #[.val (.int i0), .val (.long i1), .second, .val (.int (4 : Int32)), .val (.ref w_LOCATIONS), .unset, .unset, .unset, .unset, .unset]) rfl ?_
    show Steps p.tables e below (T1.setTop (mkF m 89 #[.val (.int i0), .val (.long i1), .second, .val (.int (4 : Int32)), .val (.ref w_LOCATIONS), .unset, .unset, .unset, .unset, .unset] [])) _
    refine X1.ldc2Long hx hown (mvT hZ (hw _ (List.mem_of_getElem? (i := 17) rfl))) (g := (mkF m 89 #[.val (.int i0), .val (.long i1), .second, .val (.int (4 : Int32)), .val (.ref w_LOCATIONS), .unset, .unset, .unset, .unset, .unset] [])) rfl (hb hby at_89) _ ?_
    show Steps p.tables e below (T1.setTop (mkF m 92 #[.val (.int i0), .val (.long i1), .second, .val (.int (4 : Int32)), .val (.ref w_LOCATIONS), .unset, .unset, .unset, .unset, .unset] [(.long (100 : Int64))])) _
    refine XS.lstore X1.here hx rfl (hb hby at_92) rfl (l' := #[.val (.int i0), .val (.long i1), .second, .val (.int (4 : Int32)), .val (.ref w_LOCATIONS), .val (.long (100 : Int64)), .second, .unset, .unset, .unset]) rfl ?_
    show Steps p.tables e below (T1.setTop (mkF m 94 #[.val (.int i0), .val (.long i1), .second, .val (.int (4 : Int32)), .val (.ref w_LOCATIONS), .val (.long (100 : Int64)), .second, .unset, .unset, .unset] [])) _
    refine XS.goto X1.here hx rfl (pc0 := 94) (pc' := 125) rfl (hb hby at_94) (by decide) (by decide) ?_
    show Steps p.tables e below (T1.setTop (mkF m 125 #[.val (.int i0), .val (.long i1), .second, .val (.int (4 : Int32)), .val (.ref w_LOCATIONS), .val (.long (100 : Int64)), .second, .unset, .unset, .unset] [])) _
    refine XS.aload X1.here hx rfl (hb hby at_125) rfl rfl ?_
    show Steps p.tables e below (T1.setTop (mkF m 127 #[.val (.int i0), .val (.long i1), .second, .val (.int (4 : Int32)), .val (.ref w_LOCATIONS), .val (.long (100 : Int64)), .second, .unset, .unset, .unset] [(.ref w_LOCATIONS)])) _
    refine XS.lloadN X1.here hx rfl (hb hby at_127) rfl ?_
    show Steps p.tables e below (T1.setTop (mkF m 128 #[.val (.int i0), .val (.long i1), .second, .val (.int (4 : Int32)), .val (.ref w_LOCATIONS), .val (.long (100 : Int64)), .second, .unset, .unset, .unset] [(.long i1), (.ref w_LOCATIONS)])) _
    refine st2.trans ?_
    show Steps p.tables e below (T2.setTop (mkF m 131 #[.val (.int i0), .val (.long i1), .second, .val (.int (4 : Int32)), .val (.ref w_LOCATIONS), .val (.long (100 : Int64)), .second, .unset, .unset, .unset] [(.int (0 : Int32))])) _
    refine XS.lloadN X2.here hx rfl (hb hby at_131) rfl ?_
    show Steps p.tables e below (T2.setTop (mkF m 132 #[.val (.int i0), .val (.long i1), .second, .val (.int (4 : Int32)), .val (.ref w_LOCATIONS), .val (.long (100 : Int64)), .second, .unset, .unset, .unset] [(.long i1), (.int (0 : Int32))])) _
    refine XS.lload X2.here hx rfl (hb hby at_132) rfl ?_
    show Steps p.tables e below (T2.setTop (mkF m 134 #[.val (.int i0), .val (.long i1), .second, .val (.int (4 : Int32)), .val (.ref w_LOCATIONS), .val (.long (100 : Int64)), .second, .unset, .unset, .unset] [(.long (100 : Int64)), (.long i1), (.int (0 : Int32))])) _
    refine XS.lcmp X2.here hx rfl (hb hby at_134) rfl ?_
    show Steps p.tables e below (T2.setTop (mkF m 135 #[.val (.int i0), .val (.long i1), .second, .val (.int (4 : Int32)), .val (.ref w_LOCATIONS), .val (.long (100 : Int64)), .second, .unset, .unset, .unset] [(.int (lcmpW i1 (100 : Int64))), (.int (0 : Int32))])) _
    refine XS.ifYes X2.here hx rfl (pc0 := 135) (pc' := 142) rfl (hb hby at_135) rfl ((if0 _ _).trans (flt hv1).2.2.2) (by decide) (by decide) ?_
    show Steps p.tables e below (T2.setTop (mkF m 142 #[.val (.int i0), .val (.long i1), .second, .val (.int (4 : Int32)), .val (.ref w_LOCATIONS), .val (.long (100 : Int64)), .second, .unset, .unset, .unset] [(.int (0 : Int32))])) _
    refine XS.iconst X2.here hx rfl (hb hby at_142) ?_
    show Steps p.tables e below (T2.setTop (mkF m 143 #[.val (.int i0), .val (.long i1), .second, .val (.int (4 : Int32)), .val (.ref w_LOCATIONS), .val (.long (100 : Int64)), .second, .unset, .unset, .unset] [(.int (0 : Int32)), (.int (0 : Int32))])) _
    refine XS.icmpNo X2.here hx rfl (hb hby at_143) rfl (teq (by decide +kernel : (0 : Int32) = (0 : Int32))).2 ?_
    show Steps p.tables e below (T2.setTop (mkF m 146 #[.val (.int i0), .val (.long i1), .second, .val (.int (4 : Int32)), .val (.ref w_LOCATIONS), .val (.long (100 : Int64)), .second, .unset, .unset, .unset] [])) _
    refine XS.iconst X2.here hx rfl (hb hby at_146) ?_
    show Steps p.tables e below (T2.setTop (mkF m 147 #[.val (.int i0), .val (.long i1), .second, .val (.int (4 : Int32)), .val (.ref w_LOCATIONS), .val (.long (100 : Int64)), .second, .unset, .unset, .unset] [(.int (1 : Int32))])) _
    refine XS.goto X2.here hx rfl (pc0 := 147) (pc' := 151) rfl (hb hby at_147) (by decide) (by decide) ?_
    show Steps p.tables e below (T2.setTop (mkF m 151 #[.val (.int i0), .val (.long i1), .second, .val (.int (4 : Int32)), .val (.ref w_LOCATIONS), .val (.long (100 : Int64)), .second, .unset, .unset, .unset] [(.int (1 : Int32))])) _
    refine XS.istore X2.here hx rfl (hb hby at_151) rfl (l' := #[.val (.int i0), .val (.long i1), .second, .val (.int (4 : Int32)), .val (.ref w_LOCATIONS), .val (.long (100 : Int64)), .second, .val (.int (1 : Int32)), .unset, .unset]) rfl ?_
    show Steps p.tables e below (T2.setTop (mkF m 153 #[.val (.int i0), .val (.long i1), .second, .val (.int (4 : Int32)), .val (.ref w_LOCATIONS), .val (.long (100 : Int64)), .second, .val (.int (1 : Int32)), .unset, .unset] [])) _
    refine XS.aload X2.here hx rfl (hb hby at_153) rfl rfl ?_
    show Steps p.tables e below (T2.setTop (mkF m 155 #[.val (.int i0), .val (.long i1), .second, .val (.int (4 : Int32)), .val (.ref w_LOCATIONS), .val (.long (100 : Int64)), .second, .val (.int (1 : Int32)), .unset, .unset] [(.ref w_LOCATIONS)])) _
    refine XS.lload X2.here hx rfl (hb hby at_155) rfl ?_
    show Steps p.tables e below (T2.setTop (mkF m 157 #[.val (.int i0), .val (.long i1), .second, .val (.int (4 : Int32)), .val (.ref w_LOCATIONS), .val (.long (100 : Int64)), .second, .val (.int (1 : Int32)), .unset, .unset] [(.long (100 : Int64)), (.ref w_LOCATIONS)])) _
    refine st3.trans ?_
    show Steps p.tables e below (T3.setTop (mkF m 160 #[.val (.int i0), .val (.long i1), .second, .val (.int (4 : Int32)), .val (.ref w_LOCATIONS), .val (.long (100 : Int64)), .second, .val (.int (1 : Int32)), .unset, .unset] [(.int (0 : Int32))])) _
    refine XS.ifNo X3.here hx rfl (hb hby at_160) rfl ((if0 _ _).trans (teq (by decide +kernel : (0 : Int32) = (0 : Int32))).2) ?_
    show Steps p.tables e below (T3.setTop (mkF m 163 #[.val (.int i0), .val (.long i1), .second, .val (.int (4 : Int32)), .val (.ref w_LOCATIONS), .val (.long (100 : Int64)), .second, .val (.int (1 : Int32)), .unset, .unset] [])) _
    refine XS.iconst X3.here hx rfl (hb hby at_163) ?_
    show Steps p.tables e below (T3.setTop (mkF m 164 #[.val (.int i0), .val (.long i1), .second, .val (.int (4 : Int32)), .val (.ref w_LOCATIONS), .val (.long (100 : Int64)), .second, .val (.int (1 : Int32)), .unset, .unset] [(.int (1 : Int32))])) _
    refine XS.goto X3.here hx rfl (pc0 := 164) (pc' := 168) rfl (hb hby at_164) (by decide) (by decide) ?_
    show Steps p.tables e below (T3.setTop (mkF m 168 #[.val (.int i0), .val (.long i1), .second, .val (.int (4 : Int32)), .val (.ref w_LOCATIONS), .val (.long (100 : Int64)), .second, .val (.int (1 : Int32)), .unset, .unset] [(.int (1 : Int32))])) _
    refine XS.istore X3.here hx rfl (hb hby at_168) rfl (l' := #[.val (.int i0), .val (.long i1), .second, .val (.int (4 : Int32)), .val (.ref w_LOCATIONS), .val (.long (100 : Int64)), .second, .val (.int (1 : Int32)), .val (.int (1 : Int32)), .unset]) rfl ?_
    show Steps p.tables e below (T3.setTop (mkF m 170 #[.val (.int i0), .val (.long i1), .second, .val (.int (4 : Int32)), .val (.ref w_LOCATIONS), .val (.long (100 : Int64)), .second, .val (.int (1 : Int32)), .val (.int (1 : Int32)), .unset] [])) _
    refine XS.aload X3.here hx rfl (hb hby at_170) rfl rfl ?_
    show Steps p.tables e below (T3.setTop (mkF m 172 #[.val (.int i0), .val (.long i1), .second, .val (.int (4 : Int32)), .val (.ref w_LOCATIONS), .val (.long (100 : Int64)), .second, .val (.int (1 : Int32)), .val (.int (1 : Int32)), .unset] [(.ref w_LOCATIONS)])) _
    refine XS.lload X3.here hx rfl (hb hby at_172) rfl ?_
    show Steps p.tables e below (T3.setTop (mkF m 174 #[.val (.int i0), .val (.long i1), .second, .val (.int (4 : Int32)), .val (.ref w_LOCATIONS), .val (.long (100 : Int64)), .second, .val (.int (1 : Int32)), .val (.int (1 : Int32)), .unset] [(.long (100 : Int64)), (.ref w_LOCATIONS)])) _
    refine XS.lconst X3.here hx rfl (hb hby at_174) ?_
    show Steps p.tables e below (T3.setTop (mkF m 175 #[.val (.int i0), .val (.long i1), .second, .val (.int (4 : Int32)), .val (.ref w_LOCATIONS), .val (.long (100 : Int64)), .second, .val (.int (1 : Int32)), .val (.int (1 : Int32)), .unset] [(.long (1 : Int64)), (.long (100 : Int64)), (.ref w_LOCATIONS)])) _
    refine XS.ladd X3.here hx rfl (hb hby at_175) rfl ?_
    show Steps p.tables e below (T3.setTop (mkF m 176 #[.val (.int i0), .val (.long i1), .second, .val (.int (4 : Int32)), .val (.ref w_LOCATIONS), .val (.long (100 : Int64)), .second, .val (.int (1 : Int32)), .val (.int (1 : Int32)), .unset] [(.long ((100 : Int64) + (1 : Int64))), (.ref w_LOCATIONS)])) _
    rw [show ((100 : Int64) + (1 : Int64)) = (101 : Int64) from by decide +kernel]
    show Steps p.tables e below (T3.setTop (mkF m 176 #[.val (.int i0), .val (.long i1), .second, .val (.int (4 : Int32)), .val (.ref w_LOCATIONS), .val (.long (100 : Int64)), .second, .val (.int (1 : Int32)), .val (.int (1 : Int32)), .unset] [(.long (101 : Int64)), (.ref w_LOCATIONS)])) _
    refine st4.trans ?_
    show Steps p.tables e below (T4.setTop (mkF m 179 #[.val (.int i0), .val (.long i1), .second, .val (.int (4 : Int32)), .val (.ref w_LOCATIONS), .val (.long (100 : Int64)), .second, .val (.int (1 : Int32)), .val (.int (1 : Int32)), .unset] [(.int (1 : Int32))])) _
    refine XS.istore X4.here hx rfl (hb hby at_179) rfl (l' := #[.val (.int i0), .val (.long i1), .second, .val (.int (4 : Int32)), .val (.ref w_LOCATIONS), .val (.long (100 : Int64)), .second, .val (.int (1 : Int32)), .val (.int (1 : Int32)), .val (.int (1 : Int32))]) rfl ?_
    show Steps p.tables e below (T4.setTop (mkF m 181 #[.val (.int i0), .val (.long i1), .second, .val (.int (4 : Int32)), .val (.ref w_LOCATIONS), .val (.long (100 : Int64)), .second, .val (.int (1 : Int32)), .val (.int (1 : Int32)), .val (.int (1 : Int32))] [])) _
    refine XS.iload X4.here hx rfl (hb hby at_181) rfl ?_
    show Steps p.tables e below (T4.setTop (mkF m 183 #[.val (.int i0), .val (.long i1), .second, .val (.int (4 : Int32)), .val (.ref w_LOCATIONS), .val (.long (100 : Int64)), .second, .val (.int (1 : Int32)), .val (.int (1 : Int32)), .val (.int (1 : Int32))] [(.int (1 : Int32))])) _
    refine XS.ifNo X4.here hx rfl (hb hby at_183) rfl ((if0 _ _).trans (feq (by decide +kernel : ¬ ((1 : Int32) = (0 : Int32)))).1) ?_
    show Steps p.tables e below (T4.setTop (mkF m 186 #[.val (.int i0), .val (.long i1), .second, .val (.int (4 : Int32)), .val (.ref w_LOCATIONS), .val (.long (100 : Int64)), .second, .val (.int (1 : Int32)), .val (.int (1 : Int32)), .val (.int (1 : Int32))] [])) _
    refine XS.iload X4.here hx rfl (hb hby at_186) rfl ?_
    show Steps p.tables e below (T4.setTop (mkF m 188 #[.val (.int i0), .val (.long i1), .second, .val (.int (4 : Int32)), .val (.ref w_LOCATIONS), .val (.long (100 : Int64)), .second, .val (.int (1 : Int32)), .val (.int (1 : Int32)), .val (.int (1 : Int32))] [(.int (1 : Int32))])) _
    refine XS.ifNo X4.here hx rfl (hb hby at_188) rfl ((if0 _ _).trans (feq (by decide +kernel : ¬ ((1 : Int32) = (0 : Int32)))).1) ?_
    show Steps p.tables e below (T4.setTop (mkF m 191 #[.val (.int i0), .val (.long i1), .second, .val (.int (4 : Int32)), .val (.ref w_LOCATIONS), .val (.long (100 : Int64)), .second, .val (.int (1 : Int32)), .val (.int (1 : Int32)), .val (.int (1 : Int32))] [])) _
    refine XS.iload X4.here hx rfl (hb hby at_191) rfl ?_
    show Steps p.tables e below (T4.setTop (mkF m 193 #[.val (.int i0), .val (.long i1), .second, .val (.int (4 : Int32)), .val (.ref w_LOCATIONS), .val (.long (100 : Int64)), .second, .val (.int (1 : Int32)), .val (.int (1 : Int32)), .val (.int (1 : Int32))] [(.int (1 : Int32))])) _
    refine XS.ifNo X4.here hx rfl (hb hby at_193) rfl ((if0 _ _).trans (feq (by decide +kernel : ¬ ((1 : Int32) = (0 : Int32)))).1) ?_
    show Steps p.tables e below (T4.setTop (mkF m 196 #[.val (.int i0), .val (.long i1), .second, .val (.int (4 : Int32)), .val (.ref w_LOCATIONS), .val (.long (100 : Int64)), .second, .val (.int (1 : Int32)), .val (.int (1 : Int32)), .val (.int (1 : Int32))] [])) _
    refine XS.iconst X4.here hx rfl (hb hby at_196) ?_
    show Steps p.tables e below (T4.setTop (mkF m 197 #[.val (.int i0), .val (.long i1), .second, .val (.int (4 : Int32)), .val (.ref w_LOCATIONS), .val (.long (100 : Int64)), .second, .val (.int (1 : Int32)), .val (.int (1 : Int32)), .val (.int (1 : Int32))] [(.int (1 : Int32))])) _
    refine XS.goto X4.here hx rfl (pc0 := 197) (pc' := 201) rfl (hb hby at_197) (by decide) (by decide) ?_
    show Steps p.tables e below (T4.setTop (mkF m 201 #[.val (.int i0), .val (.long i1), .second, .val (.int (4 : Int32)), .val (.ref w_LOCATIONS), .val (.long (100 : Int64)), .second, .val (.int (1 : Int32)), .val (.int (1 : Int32)), .val (.int (1 : Int32))] [(.int (1 : Int32))])) _
    exact retN X4 hx (t := .boolean) Bd.returns (by simp) (hb hby at_201) hr
  · exact ⟨rfl, N4, e4⟩
set_option maxRecDepth 65536 in
set_option maxHeartbeats 40000000 in
theorem rm1_20 (l : Launch) (Z : State) (a0 : Array Value) (hw : ∀ d ∈ tables_1, d.before a0 Z = true) (ws : List Jvm.Cond) (w_RUNS w_RESULTS w_LOCATIONS w_THREAD_FLOW_LOCATIONS w_RULES w_EXTENSIONS w_TAGS : Addr) (i0 : Int32) (i1 : Int64) (h0 : Heap) (n0 : Nat) (Z0 : n0 ≤ h0.size) (C : Ctx Z h0 w_RUNS w_RESULTS w_LOCATIONS w_THREAD_FLOW_LOCATIONS w_RULES w_EXTENSIONS w_TAGS) (hv0 : ((i0 &&& (2147483647 : Int32)) % (7 : Int32)) = (5 : Int32)) (hv1 : (0 : Int32) < (lcmpW i1 (1000 : Int64))) :
    MetFree l (⟨"com/example/verdictlint/verdictlint/sarif/Cap", "dropsSomeOf", "(J)Z"⟩ : MethodName) (head1 (Jvm.Cond.code (⟨"com/example/verdictlint/verdictlint/sarif/Cap", "dropsSomeOf", "(J)Z"⟩ : MethodName) prog_26_method_8_code 3 (some .boolean) :: ws) ({ frames := 0, cells := 0, slots := 0, locals := 0 } : Room)) (fun a U => a = #[(.ref w_THREAD_FLOW_LOCATIONS), (.long i1)] ∧ Z.Warmed39 U.vm ∧ U.heap = h0) (fun _ _ _ _ _ => True) (fun _ U o U' => ∃ v L, o = .returned v ∧ QR h0 n0 (some (.int (1 : Int32))) v U'.heap L ∧ FrameEnd U o U' L ({ frames := 0, cells := 0, slots := 0, locals := 0 } : Room).cells ({ frames := 0, cells := 0, slots := 0, locals := 0 } : Room).slots) := by
  have F_THREAD_FLOW_LOCATIONS_kept := C.2.2.2.2.2.2.2.2.2.2.2.1
  refine MetFree.of_bodySF (plainFor_of_name pn_1) hisR ?_
  intro p e s m args below meth c s₁ Bd hml0 hP hK
  obtain ⟨rfl, hZ, hh⟩ := hP
  have hx := Bd.exec
  have hby := Bd.bytes
  have hml : c.maxLocals = 3 := hml0
  have hown : s.vm.findClass "com/example/verdictlint/verdictlint/sarif/Cap" = some m.cls := findClass_of_methodNamed Bd.named
  have hnm := (name_of_methodNamed Bd.named Bd.method).1
  have X0 : Stand p l e ({ frames := 0, cells := 0, slots := 0, locals := 0 } : Room) s m #[(.ref w_THREAD_FLOW_LOCATIONS), (.long i1)] below meth c s₁ [] 0 0 := Stand.of_body Bd
  have e0 : s₁.heap = h0 := by rw [← hh, Bd.state]; rfl
  have N0 := Fr.nil n0
  have pre0 : ∀ t, Steps p.tables e below (s₁.setTop (mkF m 0 #[.val (.ref w_THREAD_FLOW_LOCATIONS), .val (.long i1), .second] [])) t → Steps p.tables e below (s₁.setTop (entryFrame m #[(.ref w_THREAD_FLOW_LOCATIONS), (.long i1)] 3)) t := fun t k => castTop (ef_1 m w_THREAD_FLOW_LOCATIONS i1) k
  obtain ⟨T1, X1, e1, st1⟩ := getF X0 hx hZ hown (host := "") (Or.inl (hw _ (List.mem_of_getElem? (i := 10) rfl))) Via.refl e0 F_THREAD_FLOW_LOCATIONS_kept (g := (mkF m 2 #[.val (.ref w_THREAD_FLOW_LOCATIONS), .val (.long i1), .second] [(.ref w_THREAD_FLOW_LOCATIONS), (.long i1)])) rfl rfl (hb hby d1_2)
  obtain ⟨fs, hr, hrun, hended, hW, hsame⟩ := X1.leave (v := (some (.int (1 : Int32)))) (fun h => by rw [Bd.returns] at h; cases h)
  refine ⟨_, _, pre0 _ ?_, hrun, hended, _, _, rfl, ?_, ⟨_, rfl⟩, hW, hsame.mono (by decide) (by decide)⟩
  · show Steps p.tables e below (s₁.setTop (mkF m 0 #[.val (.ref w_THREAD_FLOW_LOCATIONS), .val (.long i1), .second] [])) _
    refine XS.lloadN X0.here hx rfl (hb hby d1_0) rfl ?_
    show Steps p.tables e below (s₁.setTop (mkF m 1 #[.val (.ref w_THREAD_FLOW_LOCATIONS), .val (.long i1), .second] [(.long i1)])) _
    refine XS.aloadN X0.here hx rfl (hb hby d1_1) rfl rfl ?_
    show Steps p.tables e below (s₁.setTop (mkF m 2 #[.val (.ref w_THREAD_FLOW_LOCATIONS), .val (.long i1), .second] [(.ref w_THREAD_FLOW_LOCATIONS), (.long i1)])) _
    refine st1 _ ?_
    show Steps p.tables e below (T1.setTop (mkF m 5 #[.val (.ref w_THREAD_FLOW_LOCATIONS), .val (.long i1), .second] [(.long (1000 : Int64)), (.long i1)])) _
    refine XS.lcmp X1.here hx rfl (hb hby d1_5) rfl ?_
    show Steps p.tables e below (T1.setTop (mkF m 6 #[.val (.ref w_THREAD_FLOW_LOCATIONS), .val (.long i1), .second] [(.int (lcmpW i1 (1000 : Int64)))])) _
    refine XS.ifNo X1.here hx rfl (hb hby d1_6) rfl ((if0 _ _).trans (tlt hv1).2.2.2) ?_
    show Steps p.tables e below (T1.setTop (mkF m 9 #[.val (.ref w_THREAD_FLOW_LOCATIONS), .val (.long i1), .second] [])) _
    refine XS.iconst X1.here hx rfl (hb hby d1_9) ?_
    show Steps p.tables e below (T1.setTop (mkF m 10 #[.val (.ref w_THREAD_FLOW_LOCATIONS), .val (.long i1), .second] [(.int (1 : Int32))])) _
    refine XS.goto X1.here hx rfl (pc0 := 10) (pc' := 14) rfl (hb hby d1_10) (by decide) (by decide) ?_
    show Steps p.tables e below (T1.setTop (mkF m 14 #[.val (.ref w_THREAD_FLOW_LOCATIONS), .val (.long i1), .second] [(.int (1 : Int32))])) _
    exact retN X1 hx (t := .boolean) Bd.returns (by simp) (hb hby d1_14) hr
  · exact ⟨rfl, N0, e1⟩
set_option maxRecDepth 65536 in
set_option maxHeartbeats 40000000 in
theorem rm1_21 (l : Launch) (Z : State) (a0 : Array Value) (hw : ∀ d ∈ tables_1, d.before a0 Z = true) (ws : List Jvm.Cond) (w_RUNS w_RESULTS w_LOCATIONS w_THREAD_FLOW_LOCATIONS w_RULES w_EXTENSIONS w_TAGS : Addr) (h0 : Heap) (n0 : Nat) (Z0 : n0 ≤ h0.size) (C : Ctx Z h0 w_RUNS w_RESULTS w_LOCATIONS w_THREAD_FLOW_LOCATIONS w_RULES w_EXTENSIONS w_TAGS)  :
    MetFree l (⟨"com/example/verdictlint/verdictlint/sarif/Cap", "dropsSomeOf", "(J)Z"⟩ : MethodName) (head1 (Jvm.Cond.code (⟨"com/example/verdictlint/verdictlint/sarif/Cap", "dropsSomeOf", "(J)Z"⟩ : MethodName) prog_26_method_8_code 3 (some .boolean) :: ws) ({ frames := 0, cells := 0, slots := 0, locals := 0 } : Room)) (fun a U => a = #[(.ref w_THREAD_FLOW_LOCATIONS), (.long (1000 : Int64))] ∧ Z.Warmed39 U.vm ∧ U.heap = h0) (fun _ _ _ _ _ => True) (fun _ U o U' => ∃ v L, o = .returned v ∧ QR h0 n0 (some (.int (0 : Int32))) v U'.heap L ∧ FrameEnd U o U' L ({ frames := 0, cells := 0, slots := 0, locals := 0 } : Room).cells ({ frames := 0, cells := 0, slots := 0, locals := 0 } : Room).slots) := by
  have F_THREAD_FLOW_LOCATIONS_kept := C.2.2.2.2.2.2.2.2.2.2.2.1
  refine MetFree.of_bodySF (plainFor_of_name pn_1) hisR ?_
  intro p e s m args below meth c s₁ Bd hml0 hP hK
  obtain ⟨rfl, hZ, hh⟩ := hP
  have hx := Bd.exec
  have hby := Bd.bytes
  have hml : c.maxLocals = 3 := hml0
  have hown : s.vm.findClass "com/example/verdictlint/verdictlint/sarif/Cap" = some m.cls := findClass_of_methodNamed Bd.named
  have hnm := (name_of_methodNamed Bd.named Bd.method).1
  have X0 : Stand p l e ({ frames := 0, cells := 0, slots := 0, locals := 0 } : Room) s m #[(.ref w_THREAD_FLOW_LOCATIONS), (.long (1000 : Int64))] below meth c s₁ [] 0 0 := Stand.of_body Bd
  have e0 : s₁.heap = h0 := by rw [← hh, Bd.state]; rfl
  have N0 := Fr.nil n0
  have pre0 : ∀ t, Steps p.tables e below (s₁.setTop (mkF m 0 #[.val (.ref w_THREAD_FLOW_LOCATIONS), .val (.long (1000 : Int64)), .second] [])) t → Steps p.tables e below (s₁.setTop (entryFrame m #[(.ref w_THREAD_FLOW_LOCATIONS), (.long (1000 : Int64))] 3)) t := fun t k => castTop (ef_1 m w_THREAD_FLOW_LOCATIONS (1000 : Int64)) k
  obtain ⟨T1, X1, e1, st1⟩ := getF X0 hx hZ hown (host := "") (Or.inl (hw _ (List.mem_of_getElem? (i := 10) rfl))) Via.refl e0 F_THREAD_FLOW_LOCATIONS_kept (g := (mkF m 2 #[.val (.ref w_THREAD_FLOW_LOCATIONS), .val (.long (1000 : Int64)), .second] [(.ref w_THREAD_FLOW_LOCATIONS), (.long (1000 : Int64))])) rfl rfl (hb hby d1_2)
  obtain ⟨fs, hr, hrun, hended, hW, hsame⟩ := X1.leave (v := (some (.int (0 : Int32)))) (fun h => by rw [Bd.returns] at h; cases h)
  refine ⟨_, _, pre0 _ ?_, hrun, hended, _, _, rfl, ?_, ⟨_, rfl⟩, hW, hsame.mono (by decide) (by decide)⟩
  · show Steps p.tables e below (s₁.setTop (mkF m 0 #[.val (.ref w_THREAD_FLOW_LOCATIONS), .val (.long (1000 : Int64)), .second] [])) _
    refine XS.lloadN X0.here hx rfl (hb hby d1_0) rfl ?_
    show Steps p.tables e below (s₁.setTop (mkF m 1 #[.val (.ref w_THREAD_FLOW_LOCATIONS), .val (.long (1000 : Int64)), .second] [(.long (1000 : Int64))])) _
    refine XS.aloadN X0.here hx rfl (hb hby d1_1) rfl rfl ?_
    show Steps p.tables e below (s₁.setTop (mkF m 2 #[.val (.ref w_THREAD_FLOW_LOCATIONS), .val (.long (1000 : Int64)), .second] [(.ref w_THREAD_FLOW_LOCATIONS), (.long (1000 : Int64))])) _
    refine st1 _ ?_
    show Steps p.tables e below (T1.setTop (mkF m 5 #[.val (.ref w_THREAD_FLOW_LOCATIONS), .val (.long (1000 : Int64)), .second] [(.long (1000 : Int64)), (.long (1000 : Int64))])) _
    refine XS.lcmp X1.here hx rfl (hb hby d1_5) rfl ?_
    show Steps p.tables e below (T1.setTop (mkF m 6 #[.val (.ref w_THREAD_FLOW_LOCATIONS), .val (.long (1000 : Int64)), .second] [(.int (lcmpW (1000 : Int64) (1000 : Int64)))])) _
    rw [show (lcmpW (1000 : Int64) (1000 : Int64)) = (0 : Int32) from by decide +kernel]
    show Steps p.tables e below (T1.setTop (mkF m 6 #[.val (.ref w_THREAD_FLOW_LOCATIONS), .val (.long (1000 : Int64)), .second] [(.int (0 : Int32))])) _
    refine XS.ifYes X1.here hx rfl (pc0 := 6) (pc' := 13) rfl (hb hby d1_6) rfl ((if0 _ _).trans (flt (by decide +kernel : ¬ ((0 : Int32) < (0 : Int32)))).2.2.2) (by decide) (by decide) ?_
    show Steps p.tables e below (T1.setTop (mkF m 13 #[.val (.ref w_THREAD_FLOW_LOCATIONS), .val (.long (1000 : Int64)), .second] [])) _
    refine XS.iconst X1.here hx rfl (hb hby d1_13) ?_
    show Steps p.tables e below (T1.setTop (mkF m 14 #[.val (.ref w_THREAD_FLOW_LOCATIONS), .val (.long (1000 : Int64)), .second] [(.int (0 : Int32))])) _
    exact retN X1 hx (t := .boolean) Bd.returns (by simp) (hb hby d1_14) hr
  · exact ⟨rfl, N0, e1⟩
set_option maxRecDepth 65536 in
set_option maxHeartbeats 40000000 in
theorem rm1_22 (l : Launch) (Z : State) (a0 : Array Value) (hw : ∀ d ∈ tables_1, d.before a0 Z = true) (ws : List Jvm.Cond) (w_RUNS w_RESULTS w_LOCATIONS w_THREAD_FLOW_LOCATIONS w_RULES w_EXTENSIONS w_TAGS : Addr) (h0 : Heap) (n0 : Nat) (Z0 : n0 ≤ h0.size) (C : Ctx Z h0 w_RUNS w_RESULTS w_LOCATIONS w_THREAD_FLOW_LOCATIONS w_RULES w_EXTENSIONS w_TAGS)  :
    MetFree l (⟨"com/example/verdictlint/verdictlint/sarif/Cap", "dropsSomeOf", "(J)Z"⟩ : MethodName) (head1 (Jvm.Cond.code (⟨"com/example/verdictlint/verdictlint/sarif/Cap", "dropsSomeOf", "(J)Z"⟩ : MethodName) prog_26_method_8_code 3 (some .boolean) :: ws) ({ frames := 0, cells := 0, slots := 0, locals := 0 } : Room)) (fun a U => a = #[(.ref w_THREAD_FLOW_LOCATIONS), (.long (1001 : Int64))] ∧ Z.Warmed39 U.vm ∧ U.heap = h0) (fun _ _ _ _ _ => True) (fun _ U o U' => ∃ v L, o = .returned v ∧ QR h0 n0 (some (.int (1 : Int32))) v U'.heap L ∧ FrameEnd U o U' L ({ frames := 0, cells := 0, slots := 0, locals := 0 } : Room).cells ({ frames := 0, cells := 0, slots := 0, locals := 0 } : Room).slots) := by
  have F_THREAD_FLOW_LOCATIONS_kept := C.2.2.2.2.2.2.2.2.2.2.2.1
  refine MetFree.of_bodySF (plainFor_of_name pn_1) hisR ?_
  intro p e s m args below meth c s₁ Bd hml0 hP hK
  obtain ⟨rfl, hZ, hh⟩ := hP
  have hx := Bd.exec
  have hby := Bd.bytes
  have hml : c.maxLocals = 3 := hml0
  have hown : s.vm.findClass "com/example/verdictlint/verdictlint/sarif/Cap" = some m.cls := findClass_of_methodNamed Bd.named
  have hnm := (name_of_methodNamed Bd.named Bd.method).1
  have X0 : Stand p l e ({ frames := 0, cells := 0, slots := 0, locals := 0 } : Room) s m #[(.ref w_THREAD_FLOW_LOCATIONS), (.long (1001 : Int64))] below meth c s₁ [] 0 0 := Stand.of_body Bd
  have e0 : s₁.heap = h0 := by rw [← hh, Bd.state]; rfl
  have N0 := Fr.nil n0
  have pre0 : ∀ t, Steps p.tables e below (s₁.setTop (mkF m 0 #[.val (.ref w_THREAD_FLOW_LOCATIONS), .val (.long (1001 : Int64)), .second] [])) t → Steps p.tables e below (s₁.setTop (entryFrame m #[(.ref w_THREAD_FLOW_LOCATIONS), (.long (1001 : Int64))] 3)) t := fun t k => castTop (ef_1 m w_THREAD_FLOW_LOCATIONS (1001 : Int64)) k
  obtain ⟨T1, X1, e1, st1⟩ := getF X0 hx hZ hown (host := "") (Or.inl (hw _ (List.mem_of_getElem? (i := 10) rfl))) Via.refl e0 F_THREAD_FLOW_LOCATIONS_kept (g := (mkF m 2 #[.val (.ref w_THREAD_FLOW_LOCATIONS), .val (.long (1001 : Int64)), .second] [(.ref w_THREAD_FLOW_LOCATIONS), (.long (1001 : Int64))])) rfl rfl (hb hby d1_2)
  obtain ⟨fs, hr, hrun, hended, hW, hsame⟩ := X1.leave (v := (some (.int (1 : Int32)))) (fun h => by rw [Bd.returns] at h; cases h)
  refine ⟨_, _, pre0 _ ?_, hrun, hended, _, _, rfl, ?_, ⟨_, rfl⟩, hW, hsame.mono (by decide) (by decide)⟩
  · show Steps p.tables e below (s₁.setTop (mkF m 0 #[.val (.ref w_THREAD_FLOW_LOCATIONS), .val (.long (1001 : Int64)), .second] [])) _
    refine XS.lloadN X0.here hx rfl (hb hby d1_0) rfl ?_
    show Steps p.tables e below (s₁.setTop (mkF m 1 #[.val (.ref w_THREAD_FLOW_LOCATIONS), .val (.long (1001 : Int64)), .second] [(.long (1001 : Int64))])) _
    refine XS.aloadN X0.here hx rfl (hb hby d1_1) rfl rfl ?_
    show Steps p.tables e below (s₁.setTop (mkF m 2 #[.val (.ref w_THREAD_FLOW_LOCATIONS), .val (.long (1001 : Int64)), .second] [(.ref w_THREAD_FLOW_LOCATIONS), (.long (1001 : Int64))])) _
    refine st1 _ ?_
    show Steps p.tables e below (T1.setTop (mkF m 5 #[.val (.ref w_THREAD_FLOW_LOCATIONS), .val (.long (1001 : Int64)), .second] [(.long (1000 : Int64)), (.long (1001 : Int64))])) _
    refine XS.lcmp X1.here hx rfl (hb hby d1_5) rfl ?_
    show Steps p.tables e below (T1.setTop (mkF m 6 #[.val (.ref w_THREAD_FLOW_LOCATIONS), .val (.long (1001 : Int64)), .second] [(.int (lcmpW (1001 : Int64) (1000 : Int64)))])) _
    rw [show (lcmpW (1001 : Int64) (1000 : Int64)) = (1 : Int32) from by decide +kernel]
    show Steps p.tables e below (T1.setTop (mkF m 6 #[.val (.ref w_THREAD_FLOW_LOCATIONS), .val (.long (1001 : Int64)), .second] [(.int (1 : Int32))])) _
    refine XS.ifNo X1.here hx rfl (hb hby d1_6) rfl ((if0 _ _).trans (tlt (by decide +kernel : (0 : Int32) < (1 : Int32))).2.2.2) ?_
    show Steps p.tables e below (T1.setTop (mkF m 9 #[.val (.ref w_THREAD_FLOW_LOCATIONS), .val (.long (1001 : Int64)), .second] [])) _
    refine XS.iconst X1.here hx rfl (hb hby d1_9) ?_
    show Steps p.tables e below (T1.setTop (mkF m 10 #[.val (.ref w_THREAD_FLOW_LOCATIONS), .val (.long (1001 : Int64)), .second] [(.int (1 : Int32))])) _
    refine XS.goto X1.here hx rfl (pc0 := 10) (pc' := 14) rfl (hb hby d1_10) (by decide) (by decide) ?_
    show Steps p.tables e below (T1.setTop (mkF m 14 #[.val (.ref w_THREAD_FLOW_LOCATIONS), .val (.long (1001 : Int64)), .second] [(.int (1 : Int32))])) _
    exact retN X1 hx (t := .boolean) Bd.returns (by simp) (hb hby d1_14) hr
  · exact ⟨rfl, N0, e1⟩
set_option maxRecDepth 65536 in
set_option maxHeartbeats 40000000 in
theorem rm0_10 (l : Launch) (Z : State) (a0 : Array Value) (hw : ∀ d ∈ tables_1, d.before a0 Z = true) (ws : List Jvm.Cond) (w_RUNS w_RESULTS w_LOCATIONS w_THREAD_FLOW_LOCATIONS w_RULES w_EXTENSIONS w_TAGS : Addr) (i0 : Int32) (i1 : Int64) (h0 : Heap) (n0 : Nat) (Z0 : n0 ≤ h0.size) (C : Ctx Z h0 w_RUNS w_RESULTS w_LOCATIONS w_THREAD_FLOW_LOCATIONS w_RULES w_EXTENSIONS w_TAGS) (hv0 : ((i0 &&& (2147483647 : Int32)) % (7 : Int32)) = (5 : Int32)) (hv1 : (0 : Int32) < (lcmpW i1 (1000 : Int64))) :
    MetFree l x (head1 (Jvm.Cond.code x code maxLocals ret :: ws) room_1) (fun a U => a = #[(.int i0), (.long i1)] ∧ Z.Warmed39 U.vm ∧ U.heap = h0) (fun _ _ _ _ _ => True) (fun _ U o U' => ∃ v L, o = .returned v ∧ QR h0 n0 (some (.int (1 : Int32))) v U'.heap L ∧ FrameEnd U o U' L room_1.cells room_1.slots) := by
  have S_THREAD_FLOW_LOCATIONS := C.2.2.2.2.2.2.2.2.2.1
  have E_THREAD_FLOW_LOCATIONS := C.2.2.2.2.2.2.2.2.2.2.1
  refine MetFree.of_bodySF (plainFor_of_name pn_0) hisR ?_
  intro p e s m args below meth c s₁ Bd hml0 hP hK
  obtain ⟨rfl, hZ, hh⟩ := hP
  have hx := Bd.exec
  have hby := Bd.bytes
  have hml : c.maxLocals = 10 := hml0
  have hown : s.vm.findClass "com/example/verdictlint/verdictlint/sarif/CapDropsSomeOfPinLaw" = some m.cls := findClass_of_methodNamed Bd.named
  have hnm := (name_of_methodNamed Bd.named Bd.method).1
  have X0 : Stand p l e room_1 s m #[(.int i0), (.long i1)] below meth c s₁ [] 0 0 := Stand.of_body Bd
  have e0 : s₁.heap = h0 := by rw [← hh, Bd.state]; rfl
  have N0 := Fr.nil n0
  have pre0 : ∀ t, Steps p.tables e below (s₁.setTop (mkF m 0 #[.val (.int i0), .val (.long i1), .second, .unset, .unset, .unset, .unset, .unset, .unset, .unset] [])) t → Steps p.tables e below (s₁.setTop (entryFrame m #[(.int i0), (.long i1)] maxLocals)) t := fun t k => castTop (ef_0 m i0 i1) k
  obtain ⟨T1, X1, e1, st1⟩ := getS2 X0 hx hZ hown (host := "") (Or.inl (hw _ (List.mem_of_getElem? (i := 18) rfl))) Via.refl e0 S_THREAD_FLOW_LOCATIONS (g := (mkF m 102 #[.val (.int i0), .val (.long i1), .second, .val (.int (5 : Int32)), .unset, .unset, .unset, .unset, .unset, .unset] [])) rfl (hb hby at_102)
  obtain ⟨cq2, kq2, q2a, q2b, q2c⟩ := isOf hZ e1 E_THREAD_FLOW_LOCATIONS
  obtain ⟨_, _, ⟨T2, L2, k2, n2⟩, -, X2, ⟨Lc2, hQ2, l2, y2, z2⟩, st2⟩ := X1.virtualBack hx (y := (⟨"com/example/verdictlint/verdictlint/sarif/Cap", "dropsSomeOf", "(J)Z"⟩ : MethodName)) (z := (⟨"com/example/verdictlint/verdictlint/sarif/Cap", "dropsSomeOf", "(J)Z"⟩ : MethodName)) hown (mvT hZ (hw _ (List.mem_of_getElem? (i := 5) rfl))) (mvT hZ (hw _ (List.mem_of_getElem? (i := 6) rfl))) (notFace_of_selects (args := #[]) (mvT hZ (hw _ (List.mem_of_getElem? (i := 8) rfl)))) (mvT hZ (hw _ (List.mem_of_getElem? (i := 8) rfl))) (mvT hZ (hw _ (List.mem_of_getElem? (i := 7) rfl))) (by decide) (backOf (W := 0) (rm1_20 l Z a0 hw [] w_RUNS w_RESULTS w_LOCATIONS w_THREAD_FLOW_LOCATIONS w_RULES w_EXTENSIONS w_TAGS i0 i1 h0 n0 Z0 C hv0 hv1) hZ (hw _ (List.mem_of_getElem? (i := 9) rfl)) (hw _ (List.mem_of_getElem? (i := 2) rfl)) (by decide) (by decide)) q2a q2c (g := (mkF m 128 #[.val (.int i0), .val (.long i1), .second, .val (.int (5 : Int32)), .val (.ref w_THREAD_FLOW_LOCATIONS), .val (.long (1000 : Int64)), .second, .unset, .unset, .unset] [(.long i1), (.ref w_THREAD_FLOW_LOCATIONS)])) rfl (by rw [hml]; rfl) (Steps.refl _) (argsL := [(.long i1)]) (rest := []) (lenOf pd_0 rfl) rfl (by show 2 * 0 + _ ≤ _; exact Nat.le_of_eq rfl) (hb hby at_128) (fun _ _ => ⟨rfl, e1, (by decide : 0 + 0 ≤ _), (by decide : 0 + 0 ≤ _)⟩)
  dsimp only [Pt.U, Pt.locs, Pt.cells, Pt.slots] at X2 l2 y2 z2 st2 hQ2
  subst l2 y2 z2
  obtain ⟨rfl, N2q, e2⟩ := hQ2
  have N2 := Fr.app N0 N2q
  obtain ⟨cq3, kq3, q3a, q3b, q3c⟩ := isOf hZ e2 E_THREAD_FLOW_LOCATIONS
  obtain ⟨_, _, ⟨T3, L3, k3, n3⟩, -, X3, ⟨Lc3, hQ3, l3, y3, z3⟩, st3⟩ := X2.virtualBack hx (y := (⟨"com/example/verdictlint/verdictlint/sarif/Cap", "dropsSomeOf", "(J)Z"⟩ : MethodName)) (z := (⟨"com/example/verdictlint/verdictlint/sarif/Cap", "dropsSomeOf", "(J)Z"⟩ : MethodName)) hown (mvT hZ (hw _ (List.mem_of_getElem? (i := 5) rfl))) (mvT hZ (hw _ (List.mem_of_getElem? (i := 6) rfl))) (notFace_of_selects (args := #[]) (mvT hZ (hw _ (List.mem_of_getElem? (i := 8) rfl)))) (mvT hZ (hw _ (List.mem_of_getElem? (i := 8) rfl))) (mvT hZ (hw _ (List.mem_of_getElem? (i := 7) rfl))) (by decide) (backOf (W := 0) (rm1_21 l Z a0 hw [] w_RUNS w_RESULTS w_LOCATIONS w_THREAD_FLOW_LOCATIONS w_RULES w_EXTENSIONS w_TAGS  h0 n0 Z0 C ) hZ (hw _ (List.mem_of_getElem? (i := 9) rfl)) (hw _ (List.mem_of_getElem? (i := 2) rfl)) (by decide) (by decide)) q3a q3c (g := (mkF m 157 #[.val (.int i0), .val (.long i1), .second, .val (.int (5 : Int32)), .val (.ref w_THREAD_FLOW_LOCATIONS), .val (.long (1000 : Int64)), .second, .val (.int (1 : Int32)), .unset, .unset] [(.long (1000 : Int64)), (.ref w_THREAD_FLOW_LOCATIONS)])) rfl (by rw [hml]; rfl) (Steps.refl _) (argsL := [(.long (1000 : Int64))]) (rest := []) (lenOf pd_0 rfl) rfl (by show 2 * 0 + _ ≤ _; exact Nat.le_of_eq rfl) (hb hby at_157) (fun _ _ => ⟨rfl, e2, (by decide : 0 + 0 ≤ _), (by decide : 0 + 0 ≤ _)⟩)
  dsimp only [Pt.U, Pt.locs, Pt.cells, Pt.slots] at X3 l3 y3 z3 st3 hQ3
  subst l3 y3 z3
  obtain ⟨rfl, N3q, e3⟩ := hQ3
  have N3 := Fr.app N2 N3q
  obtain ⟨cq4, kq4, q4a, q4b, q4c⟩ := isOf hZ e3 E_THREAD_FLOW_LOCATIONS
  obtain ⟨_, _, ⟨T4, L4, k4, n4⟩, -, X4, ⟨Lc4, hQ4, l4, y4, z4⟩, st4⟩ := X3.virtualBack hx (y := (⟨"com/example/verdictlint/verdictlint/sarif/Cap", "dropsSomeOf", "(J)Z"⟩ : MethodName)) (z := (⟨"com/example/verdictlint/verdictlint/sarif/Cap", "dropsSomeOf", "(J)Z"⟩ : MethodName)) hown (mvT hZ (hw _ (List.mem_of_getElem? (i := 5) rfl))) (mvT hZ (hw _ (List.mem_of_getElem? (i := 6) rfl))) (notFace_of_selects (args := #[]) (mvT hZ (hw _ (List.mem_of_getElem? (i := 8) rfl)))) (mvT hZ (hw _ (List.mem_of_getElem? (i := 8) rfl))) (mvT hZ (hw _ (List.mem_of_getElem? (i := 7) rfl))) (by decide) (backOf (W := 0) (rm1_22 l Z a0 hw [] w_RUNS w_RESULTS w_LOCATIONS w_THREAD_FLOW_LOCATIONS w_RULES w_EXTENSIONS w_TAGS  h0 n0 Z0 C ) hZ (hw _ (List.mem_of_getElem? (i := 9) rfl)) (hw _ (List.mem_of_getElem? (i := 2) rfl)) (by decide) (by decide)) q4a q4c (g := (mkF m 176 #[.val (.int i0), .val (.long i1), .second, .val (.int (5 : Int32)), .val (.ref w_THREAD_FLOW_LOCATIONS), .val (.long (1000 : Int64)), .second, .val (.int (1 : Int32)), .val (.int (1 : Int32)), .unset] [(.long (1001 : Int64)), (.ref w_THREAD_FLOW_LOCATIONS)])) rfl (by rw [hml]; rfl) (Steps.refl _) (argsL := [(.long (1001 : Int64))]) (rest := []) (lenOf pd_0 rfl) rfl (by show 2 * 0 + _ ≤ _; exact Nat.le_of_eq rfl) (hb hby at_176) (fun _ _ => ⟨rfl, e3, (by decide : 0 + 0 ≤ _), (by decide : 0 + 0 ≤ _)⟩)
  dsimp only [Pt.U, Pt.locs, Pt.cells, Pt.slots] at X4 l4 y4 z4 st4 hQ4
  subst l4 y4 z4
  obtain ⟨rfl, N4q, e4⟩ := hQ4
  have N4 := Fr.app N3 N4q
  obtain ⟨fs, hr, hrun, hended, hW, hsame⟩ := X4.leave (v := (some (.int (1 : Int32)))) (fun h => by rw [Bd.returns] at h; cases h)
  refine ⟨_, _, pre0 _ ?_, hrun, hended, _, _, rfl, ?_, ⟨_, rfl⟩, hW, hsame.mono (by decide) (by decide)⟩
  · show Steps p.tables e below (s₁.setTop (mkF m 0 #[.val (.int i0), .val (.long i1), .second, .unset, .unset, .unset, .unset, .unset, .unset, .unset] [])) _
    refine XS.iloadN X0.here hx rfl (hb hby at_0) rfl ?_
    show Steps p.tables e below (s₁.setTop (mkF m 1 #[.val (.int i0), .val (.long i1), .second, .unset, .unset, .unset, .unset, .unset, .unset, .unset] [(.int i0)])) _
    refine X0.ldcInt hx hown (mvT hZ (hw _ (List.mem_of_getElem? (i := 0) rfl))) (g := (mkF m 1 #[.val (.int i0), .val (.long i1), .second, .unset, .unset, .unset, .unset, .unset, .unset, .unset] [(.int i0)])) rfl (hb hby at_1) _ ?_
    show Steps p.tables e below (s₁.setTop (mkF m 3 #[.val (.int i0), .val (.long i1), .second, .unset, .unset, .unset, .unset, .unset, .unset, .unset] [(.int (2147483647 : Int32)), (.int i0)])) _
    refine XS.iand X0.here hx rfl (hb hby at_3) rfl ?_
    show Steps p.tables e below (s₁.setTop (mkF m 4 #[.val (.int i0), .val (.long i1), .second, .unset, .unset, .unset, .unset, .unset, .unset, .unset] [(.int (i0 &&& (2147483647 : Int32)))])) _
    refine XS.bipush X0.here hx rfl (hb hby at_4) ?_
    show Steps p.tables e below (s₁.setTop (mkF m 6 #[.val (.int i0), .val (.long i1), .second, .unset, .unset, .unset, .unset, .unset, .unset, .unset] [(.int (7 : Int32)), (.int (i0 &&& (2147483647 : Int32)))])) _
    refine iremM (g := (mkF m 6 #[.val (.int i0), .val (.long i1), .second, .unset, .unset, .unset, .unset, .unset, .unset, .unset] [(.int (7 : Int32)), (.int (i0 &&& (2147483647 : Int32)))])) X0 hx rfl (hb hby at_6) rfl (by decide) ?_
    show Steps p.tables e below (s₁.setTop (mkF m 7 #[.val (.int i0), .val (.long i1), .second, .unset, .unset, .unset, .unset, .unset, .unset, .unset] [(.int ((i0 &&& (2147483647 : Int32)) % (7 : Int32)))])) _
    rw [hv0]
    show Steps p.tables e below (s₁.setTop (mkF m 7 #[.val (.int i0), .val (.long i1), .second, .unset, .unset, .unset, .unset, .unset, .unset, .unset] [(.int (5 : Int32))])) _
    refine XS.istoreN X0.here hx rfl (hb hby at_7) rfl (l' := #[.val (.int i0), .val (.long i1), .second, .val (.int (5 : Int32)), .unset, .unset, .unset, .unset, .unset, .unset]) rfl ?_
    show Steps p.tables e below (s₁.setTop (mkF m 8 #[.val (.int i0), .val (.long i1), .second, .val (.int (5 : Int32)), .unset, .unset, .unset, .unset, .unset, .unset] [])) _
    refine XS.iloadN X0.here hx rfl (hb hby at_8) rfl ?_
    show Steps p.tables e below (s₁.setTop (mkF m 9 #[.val (.int i0), .val (.long i1), .second, .val (.int (5 : Int32)), .unset, .unset, .unset, .unset, .unset, .unset] [(.int (5 : Int32))])) _
    refine XS.ifYes X0.here hx rfl (pc0 := 9) (pc' := 25) rfl (hb hby at_9) rfl ((if0 _ _).trans (feq (by decide +kernel : ¬ ((5 : Int32) = (0 : Int32)))).2) (by decide) (by decide) ?_
    show Steps p.tables e below (s₁.setTop (mkF m 25 #[.val (.int i0), .val (.long i1), .second, .val (.int (5 : Int32)), .unset, .unset, .unset, .unset, .unset, .unset] [])) _
    refine XS.iloadN X0.here hx rfl (hb hby at_25) rfl ?_
    show Steps p.tables e below (s₁.setTop (mkF m 26 #[.val (.int i0), .val (.long i1), .second, .val (.int (5 : Int32)), .unset, .unset, .unset, .unset, .unset, .unset] [(.int (5 : Int32))])) _
    refine XS.iconst X0.here hx rfl (hb hby at_26) ?_
    show Steps p.tables e below (s₁.setTop (mkF m 27 #[.val (.int i0), .val (.long i1), .second, .val (.int (5 : Int32)), .unset, .unset, .unset, .unset, .unset, .unset] [(.int (1 : Int32)), (.int (5 : Int32))])) _
    refine XS.icmpYes X0.here hx rfl (pc0 := 27) (pc' := 43) rfl (hb hby at_27) rfl (feq (by decide +kernel : ¬ ((5 : Int32) = (1 : Int32)))).2 (by decide) (by decide) ?_
    show Steps p.tables e below (s₁.setTop (mkF m 43 #[.val (.int i0), .val (.long i1), .second, .val (.int (5 : Int32)), .unset, .unset, .unset, .unset, .unset, .unset] [])) _
    refine XS.iloadN X0.here hx rfl (hb hby at_43) rfl ?_
    show Steps p.tables e below (s₁.setTop (mkF m 44 #[.val (.int i0), .val (.long i1), .second, .val (.int (5 : Int32)), .unset, .unset, .unset, .unset, .unset, .unset] [(.int (5 : Int32))])) _
    refine XS.iconst X0.here hx rfl (hb hby at_44) ?_
    show Steps p.tables e below (s₁.setTop (mkF m 45 #[.val (.int i0), .val (.long i1), .second, .val (.int (5 : Int32)), .unset, .unset, .unset, .unset, .unset, .unset] [(.int (2 : Int32)), (.int (5 : Int32))])) _
    refine XS.icmpYes X0.here hx rfl (pc0 := 45) (pc' := 61) rfl (hb hby at_45) rfl (feq (by decide +kernel : ¬ ((5 : Int32) = (2 : Int32)))).2 (by decide) (by decide) ?_
    show Steps p.tables e below (s₁.setTop (mkF m 61 #[.val (.int i0), .val (.long i1), .second, .val (.int (5 : Int32)), .unset, .unset, .unset, .unset, .unset, .unset] [])) _
    refine XS.iloadN X0.here hx rfl (hb hby at_61) rfl ?_
    show Steps p.tables e below (s₁.setTop (mkF m 62 #[.val (.int i0), .val (.long i1), .second, .val (.int (5 : Int32)), .unset, .unset, .unset, .unset, .unset, .unset] [(.int (5 : Int32))])) _
    refine XS.iconst X0.here hx rfl (hb hby at_62) ?_
    show Steps p.tables e below (s₁.setTop (mkF m 63 #[.val (.int i0), .val (.long i1), .second, .val (.int (5 : Int32)), .unset, .unset, .unset, .unset, .unset, .unset] [(.int (3 : Int32)), (.int (5 : Int32))])) _
    refine XS.icmpYes X0.here hx rfl (pc0 := 63) (pc' := 79) rfl (hb hby at_63) rfl (feq (by decide +kernel : ¬ ((5 : Int32) = (3 : Int32)))).2 (by decide) (by decide) ?_
    show Steps p.tables e below (s₁.setTop (mkF m 79 #[.val (.int i0), .val (.long i1), .second, .val (.int (5 : Int32)), .unset, .unset, .unset, .unset, .unset, .unset] [])) _
    refine XS.iloadN X0.here hx rfl (hb hby at_79) rfl ?_
    show Steps p.tables e below (s₁.setTop (mkF m 80 #[.val (.int i0), .val (.long i1), .second, .val (.int (5 : Int32)), .unset, .unset, .unset, .unset, .unset, .unset] [(.int (5 : Int32))])) _
    refine XS.iconst X0.here hx rfl (hb hby at_80) ?_
    show Steps p.tables e below (s₁.setTop (mkF m 81 #[.val (.int i0), .val (.long i1), .second, .val (.int (5 : Int32)), .unset, .unset, .unset, .unset, .unset, .unset] [(.int (4 : Int32)), (.int (5 : Int32))])) _
    refine XS.icmpYes X0.here hx rfl (pc0 := 81) (pc' := 97) rfl (hb hby at_81) rfl (feq (by decide +kernel : ¬ ((5 : Int32) = (4 : Int32)))).2 (by decide) (by decide) ?_
    show Steps p.tables e below (s₁.setTop (mkF m 97 #[.val (.int i0), .val (.long i1), .second, .val (.int (5 : Int32)), .unset, .unset, .unset, .unset, .unset, .unset] [])) _
    refine XS.iloadN X0.here hx rfl (hb hby at_97) rfl ?_
    show Steps p.tables e below (s₁.setTop (mkF m 98 #[.val (.int i0), .val (.long i1), .second, .val (.int (5 : Int32)), .unset, .unset, .unset, .unset, .unset, .unset] [(.int (5 : Int32))])) _
    refine XS.iconst X0.here hx rfl (hb hby at_98) ?_
    show Steps p.tables e below (s₁.setTop (mkF m 99 #[.val (.int i0), .val (.long i1), .second, .val (.int (5 : Int32)), .unset, .unset, .unset, .unset, .unset, .unset] [(.int (5 : Int32)), (.int (5 : Int32))])) _
    refine XS.icmpNo X0.here hx rfl (hb hby at_99) rfl (teq (by decide +kernel : (5 : Int32) = (5 : Int32))).2 ?_
    show Steps p.tables e below (s₁.setTop (mkF m 102 #[.val (.int i0), .val (.long i1), .second, .val (.int (5 : Int32)), .unset, .unset, .unset, .unset, .unset, .unset] [])) _
    refine st1 _ ?_
    show Steps p.tables e below (T1.setTop (mkF m 105 #[.val (.int i0), .val (.long i1), .second, .val (.int (5 : Int32)), .unset, .unset, .unset, .unset, .unset, .unset] [(.ref w_THREAD_FLOW_LOCATIONS)])) _
    refine XS.astore X1.here hx rfl (hb hby at_105) rfl rfl (l' := #[.val (.int i0), .val (.long i1), .second, .val (.int (5 : Int32)), .val (.ref w_THREAD_FLOW_LOCATIONS), .unset, .unset, .unset, .unset, .unset]) rfl ?_
    show Steps p.tables e below (T1.setTop (mkF m 107 #[.val (.int i0), .val (.long i1), .second, .val (.int (5 : Int32)), .val (.ref w_THREAD_FLOW_LOCATIONS), .unset, .unset, .unset, .unset, .unset] [])) _
    refine X1.ldc2Long hx hown (mvT hZ (hw _ (List.mem_of_getElem? (i := 20) rfl))) (g := (mkF m 107 #[.val (.int i0), .val (.long i1), .second, .val (.int (5 : Int32)), .val (.ref w_THREAD_FLOW_LOCATIONS), .unset, .unset, .unset, .unset, .unset] [])) rfl (hb hby at_107) _ ?_
    show Steps p.tables e below (T1.setTop (mkF m 110 #[.val (.int i0), .val (.long i1), .second, .val (.int (5 : Int32)), .val (.ref w_THREAD_FLOW_LOCATIONS), .unset, .unset, .unset, .unset, .unset] [(.long (1000 : Int64))])) _
    refine XS.lstore X1.here hx rfl (hb hby at_110) rfl (l' := #[.val (.int i0), .val (.long i1), .second, .val (.int (5 : Int32)), .val (.ref w_THREAD_FLOW_LOCATIONS), .val (.long (1000 : Int64)), .second, .unset, .unset, .unset]) rfl ?_
    show Steps p.tables e below (T1.setTop (mkF m 112 #[.val (.int i0), .val (.long i1), .second, .val (.int (5 : Int32)), .val (.ref w_THREAD_FLOW_LOCATIONS), .val (.long (1000 : Int64)), .second, .unset, .unset, .unset] [])) _
    refine XS.goto X1.here hx rfl (pc0 := 112) (pc' := 125) rfl (hb hby at_112) (by decide) (by decide) ?_
    show Steps p.tables e below (T1.setTop (mkF m 125 #[.val (.int i0), .val (.long i1), .second, .val (.int (5 : Int32)), .val (.ref w_THREAD_FLOW_LOCATIONS), .val (.long (1000 : Int64)), .second, .unset, .unset, .unset] [])) _
    refine XS.aload X1.here hx rfl (hb hby at_125) rfl rfl ?_
    show Steps p.tables e below (T1.setTop (mkF m 127 #[.val (.int i0), .val (.long i1), .second, .val (.int (5 : Int32)), .val (.ref w_THREAD_FLOW_LOCATIONS), .val (.long (1000 : Int64)), .second, .unset, .unset, .unset] [(.ref w_THREAD_FLOW_LOCATIONS)])) _
    refine XS.lloadN X1.here hx rfl (hb hby at_127) rfl ?_
    show Steps p.tables e below (T1.setTop (mkF m 128 #[.val (.int i0), .val (.long i1), .second, .val (.int (5 : Int32)), .val (.ref w_THREAD_FLOW_LOCATIONS), .val (.long (1000 : Int64)), .second, .unset, .unset, .unset] [(.long i1), (.ref w_THREAD_FLOW_LOCATIONS)])) _
    refine st2.trans ?_
    show Steps p.tables e below (T2.setTop (mkF m 131 #[.val (.int i0), .val (.long i1), .second, .val (.int (5 : Int32)), .val (.ref w_THREAD_FLOW_LOCATIONS), .val (.long (1000 : Int64)), .second, .unset, .unset, .unset] [(.int (1 : Int32))])) _
    refine XS.lloadN X2.here hx rfl (hb hby at_131) rfl ?_
    show Steps p.tables e below (T2.setTop (mkF m 132 #[.val (.int i0), .val (.long i1), .second, .val (.int (5 : Int32)), .val (.ref w_THREAD_FLOW_LOCATIONS), .val (.long (1000 : Int64)), .second, .unset, .unset, .unset] [(.long i1), (.int (1 : Int32))])) _
    refine XS.lload X2.here hx rfl (hb hby at_132) rfl ?_
    show Steps p.tables e below (T2.setTop (mkF m 134 #[.val (.int i0), .val (.long i1), .second, .val (.int (5 : Int32)), .val (.ref w_THREAD_FLOW_LOCATIONS), .val (.long (1000 : Int64)), .second, .unset, .unset, .unset] [(.long (1000 : Int64)), (.long i1), (.int (1 : Int32))])) _
    refine XS.lcmp X2.here hx rfl (hb hby at_134) rfl ?_
    show Steps p.tables e below (T2.setTop (mkF m 135 #[.val (.int i0), .val (.long i1), .second, .val (.int (5 : Int32)), .val (.ref w_THREAD_FLOW_LOCATIONS), .val (.long (1000 : Int64)), .second, .unset, .unset, .unset] [(.int (lcmpW i1 (1000 : Int64))), (.int (1 : Int32))])) _
    refine XS.ifNo X2.here hx rfl (hb hby at_135) rfl ((if0 _ _).trans (tlt hv1).2.2.2) ?_
    show Steps p.tables e below (T2.setTop (mkF m 138 #[.val (.int i0), .val (.long i1), .second, .val (.int (5 : Int32)), .val (.ref w_THREAD_FLOW_LOCATIONS), .val (.long (1000 : Int64)), .second, .unset, .unset, .unset] [(.int (1 : Int32))])) _
    refine XS.iconst X2.here hx rfl (hb hby at_138) ?_
    show Steps p.tables e below (T2.setTop (mkF m 139 #[.val (.int i0), .val (.long i1), .second, .val (.int (5 : Int32)), .val (.ref w_THREAD_FLOW_LOCATIONS), .val (.long (1000 : Int64)), .second, .unset, .unset, .unset] [(.int (1 : Int32)), (.int (1 : Int32))])) _
    refine XS.goto X2.here hx rfl (pc0 := 139) (pc' := 143) rfl (hb hby at_139) (by decide) (by decide) ?_
    show Steps p.tables e below (T2.setTop (mkF m 143 #[.val (.int i0), .val (.long i1), .second, .val (.int (5 : Int32)), .val (.ref w_THREAD_FLOW_LOCATIONS), .val (.long (1000 : Int64)), .second, .unset, .unset, .unset] [(.int (1 : Int32)), (.int (1 : Int32))])) _
    refine XS.icmpNo X2.here hx rfl (hb hby at_143) rfl (teq (by decide +kernel : (1 : Int32) = (1 : Int32))).2 ?_
    show Steps p.tables e below (T2.setTop (mkF m 146 #[.val (.int i0), .val (.long i1), .second, .val (.int (5 : Int32)), .val (.ref w_THREAD_FLOW_LOCATIONS), .val (.long (1000 : Int64)), .second, .unset, .unset, .unset] [])) _
    refine XS.iconst X2.here hx rfl (hb hby at_146) ?_
    show Steps p.tables e below (T2.setTop (mkF m 147 #[.val (.int i0), .val (.long i1), .second, .val (.int (5 : Int32)), .val (.ref w_THREAD_FLOW_LOCATIONS), .val (.long (1000 : Int64)), .second, .unset, .unset, .unset] [(.int (1 : Int32))])) _
    refine XS.goto X2.here hx rfl (pc0 := 147) (pc' := 151) rfl (hb hby at_147) (by decide) (by decide) ?_
    show Steps p.tables e below (T2.setTop (mkF m 151 #[.val (.int i0), .val (.long i1), .second, .val (.int (5 : Int32)), .val (.ref w_THREAD_FLOW_LOCATIONS), .val (.long (1000 : Int64)), .second, .unset, .unset, .unset] [(.int (1 : Int32))])) _
    refine XS.istore X2.here hx rfl (hb hby at_151) rfl (l' := #[.val (.int i0), .val (.long i1), .second, .val (.int (5 : Int32)), .val (.ref w_THREAD_FLOW_LOCATIONS), .val (.long (1000 : Int64)), .second, .val (.int (1 : Int32)), .unset, .unset]) rfl ?_
    show Steps p.tables e below (T2.setTop (mkF m 153 #[.val (.int i0), .val (.long i1), .second, .val (.int (5 : Int32)), .val (.ref w_THREAD_FLOW_LOCATIONS), .val (.long (1000 : Int64)), .second, .val (.int (1 : Int32)), .unset, .unset] [])) _
    refine XS.aload X2.here hx rfl (hb hby at_153) rfl rfl ?_
    show Steps p.tables e below (T2.setTop (mkF m 155 #[.val (.int i0), .val (.long i1), .second, .val (.int (5 : Int32)), .val (.ref w_THREAD_FLOW_LOCATIONS), .val (.long (1000 : Int64)), .second, .val (.int (1 : Int32)), .unset, .unset] [(.ref w_THREAD_FLOW_LOCATIONS)])) _
    refine XS.lload X2.here hx rfl (hb hby at_155) rfl ?_
    show Steps p.tables e below (T2.setTop (mkF m 157 #[.val (.int i0), .val (.long i1), .second, .val (.int (5 : Int32)), .val (.ref w_THREAD_FLOW_LOCATIONS), .val (.long (1000 : Int64)), .second, .val (.int (1 : Int32)), .unset, .unset] [(.long (1000 : Int64)), (.ref w_THREAD_FLOW_LOCATIONS)])) _
    refine st3.trans ?_
    show Steps p.tables e below (T3.setTop (mkF m 160 #[.val (.int i0), .val (.long i1), .second, .val (.int (5 : Int32)), .val (.ref w_THREAD_FLOW_LOCATIONS), .val (.long (1000 : Int64)), .second, .val (.int (1 : Int32)), .unset, .unset] [(.int (0 : Int32))])) _
    refine XS.ifNo X3.here hx rfl (hb hby at_160) rfl ((if0 _ _).trans (teq (by decide +kernel : (0 : Int32) = (0 : Int32))).2) ?_
    show Steps p.tables e below (T3.setTop (mkF m 163 #[.val (.int i0), .val (.long i1), .second, .val (.int (5 : Int32)), .val (.ref w_THREAD_FLOW_LOCATIONS), .val (.long (1000 : Int64)), .second, .val (.int (1 : Int32)), .unset, .unset] [])) _
    refine XS.iconst X3.here hx rfl (hb hby at_163) ?_
    show Steps p.tables e below (T3.setTop (mkF m 164 #[.val (.int i0), .val (.long i1), .second, .val (.int (5 : Int32)), .val (.ref w_THREAD_FLOW_LOCATIONS), .val (.long (1000 : Int64)), .second, .val (.int (1 : Int32)), .unset, .unset] [(.int (1 : Int32))])) _
    refine XS.goto X3.here hx rfl (pc0 := 164) (pc' := 168) rfl (hb hby at_164) (by decide) (by decide) ?_
    show Steps p.tables e below (T3.setTop (mkF m 168 #[.val (.int i0), .val (.long i1), .second, .val (.int (5 : Int32)), .val (.ref w_THREAD_FLOW_LOCATIONS), .val (.long (1000 : Int64)), .second, .val (.int (1 : Int32)), .unset, .unset] [(.int (1 : Int32))])) _
    refine XS.istore X3.here hx rfl (hb hby at_168) rfl (l' := #[.val (.int i0), .val (.long i1), .second, .val (.int (5 : Int32)), .val (.ref w_THREAD_FLOW_LOCATIONS), .val (.long (1000 : Int64)), .second, .val (.int (1 : Int32)), .val (.int (1 : Int32)), .unset]) rfl ?_
    show Steps p.tables e below (T3.setTop (mkF m 170 #[.val (.int i0), .val (.long i1), .second, .val (.int (5 : Int32)), .val (.ref w_THREAD_FLOW_LOCATIONS), .val (.long (1000 : Int64)), .second, .val (.int (1 : Int32)), .val (.int (1 : Int32)), .unset] [])) _
    refine XS.aload X3.here hx rfl (hb hby at_170) rfl rfl ?_
    show Steps p.tables e below (T3.setTop (mkF m 172 #[.val (.int i0), .val (.long i1), .second, .val (.int (5 : Int32)), .val (.ref w_THREAD_FLOW_LOCATIONS), .val (.long (1000 : Int64)), .second, .val (.int (1 : Int32)), .val (.int (1 : Int32)), .unset] [(.ref w_THREAD_FLOW_LOCATIONS)])) _
    refine XS.lload X3.here hx rfl (hb hby at_172) rfl ?_
    show Steps p.tables e below (T3.setTop (mkF m 174 #[.val (.int i0), .val (.long i1), .second, .val (.int (5 : Int32)), .val (.ref w_THREAD_FLOW_LOCATIONS), .val (.long (1000 : Int64)), .second, .val (.int (1 : Int32)), .val (.int (1 : Int32)), .unset] [(.long (1000 : Int64)), (.ref w_THREAD_FLOW_LOCATIONS)])) _
    refine XS.lconst X3.here hx rfl (hb hby at_174) ?_
    show Steps p.tables e below (T3.setTop (mkF m 175 #[.val (.int i0), .val (.long i1), .second, .val (.int (5 : Int32)), .val (.ref w_THREAD_FLOW_LOCATIONS), .val (.long (1000 : Int64)), .second, .val (.int (1 : Int32)), .val (.int (1 : Int32)), .unset] [(.long (1 : Int64)), (.long (1000 : Int64)), (.ref w_THREAD_FLOW_LOCATIONS)])) _
    refine XS.ladd X3.here hx rfl (hb hby at_175) rfl ?_
    show Steps p.tables e below (T3.setTop (mkF m 176 #[.val (.int i0), .val (.long i1), .second, .val (.int (5 : Int32)), .val (.ref w_THREAD_FLOW_LOCATIONS), .val (.long (1000 : Int64)), .second, .val (.int (1 : Int32)), .val (.int (1 : Int32)), .unset] [(.long ((1000 : Int64) + (1 : Int64))), (.ref w_THREAD_FLOW_LOCATIONS)])) _
    rw [show ((1000 : Int64) + (1 : Int64)) = (1001 : Int64) from by decide +kernel]
    show Steps p.tables e below (T3.setTop (mkF m 176 #[.val (.int i0), .val (.long i1), .second, .val (.int (5 : Int32)), .val (.ref w_THREAD_FLOW_LOCATIONS), .val (.long (1000 : Int64)), .second, .val (.int (1 : Int32)), .val (.int (1 : Int32)), .unset] [(.long (1001 : Int64)), (.ref w_THREAD_FLOW_LOCATIONS)])) _
    refine st4.trans ?_
    show Steps p.tables e below (T4.setTop (mkF m 179 #[.val (.int i0), .val (.long i1), .second, .val (.int (5 : Int32)), .val (.ref w_THREAD_FLOW_LOCATIONS), .val (.long (1000 : Int64)), .second, .val (.int (1 : Int32)), .val (.int (1 : Int32)), .unset] [(.int (1 : Int32))])) _
    refine XS.istore X4.here hx rfl (hb hby at_179) rfl (l' := #[.val (.int i0), .val (.long i1), .second, .val (.int (5 : Int32)), .val (.ref w_THREAD_FLOW_LOCATIONS), .val (.long (1000 : Int64)), .second, .val (.int (1 : Int32)), .val (.int (1 : Int32)), .val (.int (1 : Int32))]) rfl ?_
    show Steps p.tables e below (T4.setTop (mkF m 181 #[.val (.int i0), .val (.long i1), .second, .val (.int (5 : Int32)), .val (.ref w_THREAD_FLOW_LOCATIONS), .val (.long (1000 : Int64)), .second, .val (.int (1 : Int32)), .val (.int (1 : Int32)), .val (.int (1 : Int32))] [])) _
    refine XS.iload X4.here hx rfl (hb hby at_181) rfl ?_
    show Steps p.tables e below (T4.setTop (mkF m 183 #[.val (.int i0), .val (.long i1), .second, .val (.int (5 : Int32)), .val (.ref w_THREAD_FLOW_LOCATIONS), .val (.long (1000 : Int64)), .second, .val (.int (1 : Int32)), .val (.int (1 : Int32)), .val (.int (1 : Int32))] [(.int (1 : Int32))])) _
    refine XS.ifNo X4.here hx rfl (hb hby at_183) rfl ((if0 _ _).trans (feq (by decide +kernel : ¬ ((1 : Int32) = (0 : Int32)))).1) ?_
    show Steps p.tables e below (T4.setTop (mkF m 186 #[.val (.int i0), .val (.long i1), .second, .val (.int (5 : Int32)), .val (.ref w_THREAD_FLOW_LOCATIONS), .val (.long (1000 : Int64)), .second, .val (.int (1 : Int32)), .val (.int (1 : Int32)), .val (.int (1 : Int32))] [])) _
    refine XS.iload X4.here hx rfl (hb hby at_186) rfl ?_
    show Steps p.tables e below (T4.setTop (mkF m 188 #[.val (.int i0), .val (.long i1), .second, .val (.int (5 : Int32)), .val (.ref w_THREAD_FLOW_LOCATIONS), .val (.long (1000 : Int64)), .second, .val (.int (1 : Int32)), .val (.int (1 : Int32)), .val (.int (1 : Int32))] [(.int (1 : Int32))])) _
    refine XS.ifNo X4.here hx rfl (hb hby at_188) rfl ((if0 _ _).trans (feq (by decide +kernel : ¬ ((1 : Int32) = (0 : Int32)))).1) ?_
    show Steps p.tables e below (T4.setTop (mkF m 191 #[.val (.int i0), .val (.long i1), .second, .val (.int (5 : Int32)), .val (.ref w_THREAD_FLOW_LOCATIONS), .val (.long (1000 : Int64)), .second, .val (.int (1 : Int32)), .val (.int (1 : Int32)), .val (.int (1 : Int32))] [])) _
    refine XS.iload X4.here hx rfl (hb hby at_191) rfl ?_
    show Steps p.tables e below (T4.setTop (mkF m 193 #[.val (.int i0), .val (.long i1), .second, .val (.int (5 : Int32)), .val (.ref w_THREAD_FLOW_LOCATIONS), .val (.long (1000 : Int64)), .second, .val (.int (1 : Int32)), .val (.int (1 : Int32)), .val (.int (1 : Int32))] [(.int (1 : Int32))])) _
    refine XS.ifNo X4.here hx rfl (hb hby at_193) rfl ((if0 _ _).trans (feq (by decide +kernel : ¬ ((1 : Int32) = (0 : Int32)))).1) ?_
    show Steps p.tables e below (T4.setTop (mkF m 196 #[.val (.int i0), .val (.long i1), .second, .val (.int (5 : Int32)), .val (.ref w_THREAD_FLOW_LOCATIONS), .val (.long (1000 : Int64)), .second, .val (.int (1 : Int32)), .val (.int (1 : Int32)), .val (.int (1 : Int32))] [])) _
    refine XS.iconst X4.here hx rfl (hb hby at_196) ?_
    show Steps p.tables e below (T4.setTop (mkF m 197 #[.val (.int i0), .val (.long i1), .second, .val (.int (5 : Int32)), .val (.ref w_THREAD_FLOW_LOCATIONS), .val (.long (1000 : Int64)), .second, .val (.int (1 : Int32)), .val (.int (1 : Int32)), .val (.int (1 : Int32))] [(.int (1 : Int32))])) _
    refine XS.goto X4.here hx rfl (pc0 := 197) (pc' := 201) rfl (hb hby at_197) (by decide) (by decide) ?_
    show Steps p.tables e below (T4.setTop (mkF m 201 #[.val (.int i0), .val (.long i1), .second, .val (.int (5 : Int32)), .val (.ref w_THREAD_FLOW_LOCATIONS), .val (.long (1000 : Int64)), .second, .val (.int (1 : Int32)), .val (.int (1 : Int32)), .val (.int (1 : Int32))] [(.int (1 : Int32))])) _
    exact retN X4 hx (t := .boolean) Bd.returns (by simp) (hb hby at_201) hr
  · exact ⟨rfl, N4, e4⟩
set_option maxRecDepth 65536 in
set_option maxHeartbeats 40000000 in
theorem rm1_23 (l : Launch) (Z : State) (a0 : Array Value) (hw : ∀ d ∈ tables_1, d.before a0 Z = true) (ws : List Jvm.Cond) (w_RUNS w_RESULTS w_LOCATIONS w_THREAD_FLOW_LOCATIONS w_RULES w_EXTENSIONS w_TAGS : Addr) (i0 : Int32) (i1 : Int64) (h0 : Heap) (n0 : Nat) (Z0 : n0 ≤ h0.size) (C : Ctx Z h0 w_RUNS w_RESULTS w_LOCATIONS w_THREAD_FLOW_LOCATIONS w_RULES w_EXTENSIONS w_TAGS) (hv0 : ((i0 &&& (2147483647 : Int32)) % (7 : Int32)) = (5 : Int32)) (hv1 : ¬ ((0 : Int32) < (lcmpW i1 (1000 : Int64)))) :
    MetFree l (⟨"com/example/verdictlint/verdictlint/sarif/Cap", "dropsSomeOf", "(J)Z"⟩ : MethodName) (head1 (Jvm.Cond.code (⟨"com/example/verdictlint/verdictlint/sarif/Cap", "dropsSomeOf", "(J)Z"⟩ : MethodName) prog_26_method_8_code 3 (some .boolean) :: ws) ({ frames := 0, cells := 0, slots := 0, locals := 0 } : Room)) (fun a U => a = #[(.ref w_THREAD_FLOW_LOCATIONS), (.long i1)] ∧ Z.Warmed39 U.vm ∧ U.heap = h0) (fun _ _ _ _ _ => True) (fun _ U o U' => ∃ v L, o = .returned v ∧ QR h0 n0 (some (.int (0 : Int32))) v U'.heap L ∧ FrameEnd U o U' L ({ frames := 0, cells := 0, slots := 0, locals := 0 } : Room).cells ({ frames := 0, cells := 0, slots := 0, locals := 0 } : Room).slots) := by
  have F_THREAD_FLOW_LOCATIONS_kept := C.2.2.2.2.2.2.2.2.2.2.2.1
  refine MetFree.of_bodySF (plainFor_of_name pn_1) hisR ?_
  intro p e s m args below meth c s₁ Bd hml0 hP hK
  obtain ⟨rfl, hZ, hh⟩ := hP
  have hx := Bd.exec
  have hby := Bd.bytes
  have hml : c.maxLocals = 3 := hml0
  have hown : s.vm.findClass "com/example/verdictlint/verdictlint/sarif/Cap" = some m.cls := findClass_of_methodNamed Bd.named
  have hnm := (name_of_methodNamed Bd.named Bd.method).1
  have X0 : Stand p l e ({ frames := 0, cells := 0, slots := 0, locals := 0 } : Room) s m #[(.ref w_THREAD_FLOW_LOCATIONS), (.long i1)] below meth c s₁ [] 0 0 := Stand.of_body Bd
  have e0 : s₁.heap = h0 := by rw [← hh, Bd.state]; rfl
  have N0 := Fr.nil n0
  have pre0 : ∀ t, Steps p.tables e below (s₁.setTop (mkF m 0 #[.val (.ref w_THREAD_FLOW_LOCATIONS), .val (.long i1), .second] [])) t → Steps p.tables e below (s₁.setTop (entryFrame m #[(.ref w_THREAD_FLOW_LOCATIONS), (.long i1)] 3)) t := fun t k => castTop (ef_1 m w_THREAD_FLOW_LOCATIONS i1) k
  obtain ⟨T1, X1, e1, st1⟩ := getF X0 hx hZ hown (host := "") (Or.inl (hw _ (List.mem_of_getElem? (i := 10) rfl))) Via.refl e0 F_THREAD_FLOW_LOCATIONS_kept (g := (mkF m 2 #[.val (.ref w_THREAD_FLOW_LOCATIONS), .val (.long i1), .second] [(.ref w_THREAD_FLOW_LOCATIONS), (.long i1)])) rfl rfl (hb hby d1_2)
  obtain ⟨fs, hr, hrun, hended, hW, hsame⟩ := X1.leave (v := (some (.int (0 : Int32)))) (fun h => by rw [Bd.returns] at h; cases h)
  refine ⟨_, _, pre0 _ ?_, hrun, hended, _, _, rfl, ?_, ⟨_, rfl⟩, hW, hsame.mono (by decide) (by decide)⟩
  · show Steps p.tables e below (s₁.setTop (mkF m 0 #[.val (.ref w_THREAD_FLOW_LOCATIONS), .val (.long i1), .second] [])) _
    refine XS.lloadN X0.here hx rfl (hb hby d1_0) rfl ?_
    show Steps p.tables e below (s₁.setTop (mkF m 1 #[.val (.ref w_THREAD_FLOW_LOCATIONS), .val (.long i1), .second] [(.long i1)])) _
    refine XS.aloadN X0.here hx rfl (hb hby d1_1) rfl rfl ?_
    show Steps p.tables e below (s₁.setTop (mkF m 2 #[.val (.ref w_THREAD_FLOW_LOCATIONS), .val (.long i1), .second] [(.ref w_THREAD_FLOW_LOCATIONS), (.long i1)])) _
    refine st1 _ ?_
    show Steps p.tables e below (T1.setTop (mkF m 5 #[.val (.ref w_THREAD_FLOW_LOCATIONS), .val (.long i1), .second] [(.long (1000 : Int64)), (.long i1)])) _
    refine XS.lcmp X1.here hx rfl (hb hby d1_5) rfl ?_
    show Steps p.tables e below (T1.setTop (mkF m 6 #[.val (.ref w_THREAD_FLOW_LOCATIONS), .val (.long i1), .second] [(.int (lcmpW i1 (1000 : Int64)))])) _
    refine XS.ifYes X1.here hx rfl (pc0 := 6) (pc' := 13) rfl (hb hby d1_6) rfl ((if0 _ _).trans (flt hv1).2.2.2) (by decide) (by decide) ?_
    show Steps p.tables e below (T1.setTop (mkF m 13 #[.val (.ref w_THREAD_FLOW_LOCATIONS), .val (.long i1), .second] [])) _
    refine XS.iconst X1.here hx rfl (hb hby d1_13) ?_
    show Steps p.tables e below (T1.setTop (mkF m 14 #[.val (.ref w_THREAD_FLOW_LOCATIONS), .val (.long i1), .second] [(.int (0 : Int32))])) _
    exact retN X1 hx (t := .boolean) Bd.returns (by simp) (hb hby d1_14) hr
  · exact ⟨rfl, N0, e1⟩
set_option maxRecDepth 65536 in
set_option maxHeartbeats 40000000 in
theorem rm0_11 (l : Launch) (Z : State) (a0 : Array Value) (hw : ∀ d ∈ tables_1, d.before a0 Z = true) (ws : List Jvm.Cond) (w_RUNS w_RESULTS w_LOCATIONS w_THREAD_FLOW_LOCATIONS w_RULES w_EXTENSIONS w_TAGS : Addr) (i0 : Int32) (i1 : Int64) (h0 : Heap) (n0 : Nat) (Z0 : n0 ≤ h0.size) (C : Ctx Z h0 w_RUNS w_RESULTS w_LOCATIONS w_THREAD_FLOW_LOCATIONS w_RULES w_EXTENSIONS w_TAGS) (hv0 : ((i0 &&& (2147483647 : Int32)) % (7 : Int32)) = (5 : Int32)) (hv1 : ¬ ((0 : Int32) < (lcmpW i1 (1000 : Int64)))) :
    MetFree l x (head1 (Jvm.Cond.code x code maxLocals ret :: ws) room_1) (fun a U => a = #[(.int i0), (.long i1)] ∧ Z.Warmed39 U.vm ∧ U.heap = h0) (fun _ _ _ _ _ => True) (fun _ U o U' => ∃ v L, o = .returned v ∧ QR h0 n0 (some (.int (1 : Int32))) v U'.heap L ∧ FrameEnd U o U' L room_1.cells room_1.slots) := by
  have S_THREAD_FLOW_LOCATIONS := C.2.2.2.2.2.2.2.2.2.1
  have E_THREAD_FLOW_LOCATIONS := C.2.2.2.2.2.2.2.2.2.2.1
  refine MetFree.of_bodySF (plainFor_of_name pn_0) hisR ?_
  intro p e s m args below meth c s₁ Bd hml0 hP hK
  obtain ⟨rfl, hZ, hh⟩ := hP
  have hx := Bd.exec
  have hby := Bd.bytes
  have hml : c.maxLocals = 10 := hml0
  have hown : s.vm.findClass "com/example/verdictlint/verdictlint/sarif/CapDropsSomeOfPinLaw" = some m.cls := findClass_of_methodNamed Bd.named
  have hnm := (name_of_methodNamed Bd.named Bd.method).1
  have X0 : Stand p l e room_1 s m #[(.int i0), (.long i1)] below meth c s₁ [] 0 0 := Stand.of_body Bd
  have e0 : s₁.heap = h0 := by rw [← hh, Bd.state]; rfl
  have N0 := Fr.nil n0
  have pre0 : ∀ t, Steps p.tables e below (s₁.setTop (mkF m 0 #[.val (.int i0), .val (.long i1), .second, .unset, .unset, .unset, .unset, .unset, .unset, .unset] [])) t → Steps p.tables e below (s₁.setTop (entryFrame m #[(.int i0), (.long i1)] maxLocals)) t := fun t k => castTop (ef_0 m i0 i1) k
  obtain ⟨T1, X1, e1, st1⟩ := getS2 X0 hx hZ hown (host := "") (Or.inl (hw _ (List.mem_of_getElem? (i := 18) rfl))) Via.refl e0 S_THREAD_FLOW_LOCATIONS (g := (mkF m 102 #[.val (.int i0), .val (.long i1), .second, .val (.int (5 : Int32)), .unset, .unset, .unset, .unset, .unset, .unset] [])) rfl (hb hby at_102)
  obtain ⟨cq2, kq2, q2a, q2b, q2c⟩ := isOf hZ e1 E_THREAD_FLOW_LOCATIONS
  obtain ⟨_, _, ⟨T2, L2, k2, n2⟩, -, X2, ⟨Lc2, hQ2, l2, y2, z2⟩, st2⟩ := X1.virtualBack hx (y := (⟨"com/example/verdictlint/verdictlint/sarif/Cap", "dropsSomeOf", "(J)Z"⟩ : MethodName)) (z := (⟨"com/example/verdictlint/verdictlint/sarif/Cap", "dropsSomeOf", "(J)Z"⟩ : MethodName)) hown (mvT hZ (hw _ (List.mem_of_getElem? (i := 5) rfl))) (mvT hZ (hw _ (List.mem_of_getElem? (i := 6) rfl))) (notFace_of_selects (args := #[]) (mvT hZ (hw _ (List.mem_of_getElem? (i := 8) rfl)))) (mvT hZ (hw _ (List.mem_of_getElem? (i := 8) rfl))) (mvT hZ (hw _ (List.mem_of_getElem? (i := 7) rfl))) (by decide) (backOf (W := 0) (rm1_23 l Z a0 hw [] w_RUNS w_RESULTS w_LOCATIONS w_THREAD_FLOW_LOCATIONS w_RULES w_EXTENSIONS w_TAGS i0 i1 h0 n0 Z0 C hv0 hv1) hZ (hw _ (List.mem_of_getElem? (i := 9) rfl)) (hw _ (List.mem_of_getElem? (i := 2) rfl)) (by decide) (by decide)) q2a q2c (g := (mkF m 128 #[.val (.int i0), .val (.long i1), .second, .val (.int (5 : Int32)), .val (.ref w_THREAD_FLOW_LOCATIONS), .val (.long (1000 : Int64)), .second, .unset, .unset, .unset] [(.long i1), (.ref w_THREAD_FLOW_LOCATIONS)])) rfl (by rw [hml]; rfl) (Steps.refl _) (argsL := [(.long i1)]) (rest := []) (lenOf pd_0 rfl) rfl (by show 2 * 0 + _ ≤ _; exact Nat.le_of_eq rfl) (hb hby at_128) (fun _ _ => ⟨rfl, e1, (by decide : 0 + 0 ≤ _), (by decide : 0 + 0 ≤ _)⟩)
  dsimp only [Pt.U, Pt.locs, Pt.cells, Pt.slots] at X2 l2 y2 z2 st2 hQ2
  subst l2 y2 z2
  obtain ⟨rfl, N2q, e2⟩ := hQ2
  have N2 := Fr.app N0 N2q
  obtain ⟨cq3, kq3, q3a, q3b, q3c⟩ := isOf hZ e2 E_THREAD_FLOW_LOCATIONS
  obtain ⟨_, _, ⟨T3, L3, k3, n3⟩, -, X3, ⟨Lc3, hQ3, l3, y3, z3⟩, st3⟩ := X2.virtualBack hx (y := (⟨"com/example/verdictlint/verdictlint/sarif/Cap", "dropsSomeOf", "(J)Z"⟩ : MethodName)) (z := (⟨"com/example/verdictlint/verdictlint/sarif/Cap", "dropsSomeOf", "(J)Z"⟩ : MethodName)) hown (mvT hZ (hw _ (List.mem_of_getElem? (i := 5) rfl))) (mvT hZ (hw _ (List.mem_of_getElem? (i := 6) rfl))) (notFace_of_selects (args := #[]) (mvT hZ (hw _ (List.mem_of_getElem? (i := 8) rfl)))) (mvT hZ (hw _ (List.mem_of_getElem? (i := 8) rfl))) (mvT hZ (hw _ (List.mem_of_getElem? (i := 7) rfl))) (by decide) (backOf (W := 0) (rm1_21 l Z a0 hw [] w_RUNS w_RESULTS w_LOCATIONS w_THREAD_FLOW_LOCATIONS w_RULES w_EXTENSIONS w_TAGS  h0 n0 Z0 C ) hZ (hw _ (List.mem_of_getElem? (i := 9) rfl)) (hw _ (List.mem_of_getElem? (i := 2) rfl)) (by decide) (by decide)) q3a q3c (g := (mkF m 157 #[.val (.int i0), .val (.long i1), .second, .val (.int (5 : Int32)), .val (.ref w_THREAD_FLOW_LOCATIONS), .val (.long (1000 : Int64)), .second, .val (.int (1 : Int32)), .unset, .unset] [(.long (1000 : Int64)), (.ref w_THREAD_FLOW_LOCATIONS)])) rfl (by rw [hml]; rfl) (Steps.refl _) (argsL := [(.long (1000 : Int64))]) (rest := []) (lenOf pd_0 rfl) rfl (by show 2 * 0 + _ ≤ _; exact Nat.le_of_eq rfl) (hb hby at_157) (fun _ _ => ⟨rfl, e2, (by decide : 0 + 0 ≤ _), (by decide : 0 + 0 ≤ _)⟩)
  dsimp only [Pt.U, Pt.locs, Pt.cells, Pt.slots] at X3 l3 y3 z3 st3 hQ3
  subst l3 y3 z3
  obtain ⟨rfl, N3q, e3⟩ := hQ3
  have N3 := Fr.app N2 N3q
  obtain ⟨cq4, kq4, q4a, q4b, q4c⟩ := isOf hZ e3 E_THREAD_FLOW_LOCATIONS
  obtain ⟨_, _, ⟨T4, L4, k4, n4⟩, -, X4, ⟨Lc4, hQ4, l4, y4, z4⟩, st4⟩ := X3.virtualBack hx (y := (⟨"com/example/verdictlint/verdictlint/sarif/Cap", "dropsSomeOf", "(J)Z"⟩ : MethodName)) (z := (⟨"com/example/verdictlint/verdictlint/sarif/Cap", "dropsSomeOf", "(J)Z"⟩ : MethodName)) hown (mvT hZ (hw _ (List.mem_of_getElem? (i := 5) rfl))) (mvT hZ (hw _ (List.mem_of_getElem? (i := 6) rfl))) (notFace_of_selects (args := #[]) (mvT hZ (hw _ (List.mem_of_getElem? (i := 8) rfl)))) (mvT hZ (hw _ (List.mem_of_getElem? (i := 8) rfl))) (mvT hZ (hw _ (List.mem_of_getElem? (i := 7) rfl))) (by decide) (backOf (W := 0) (rm1_22 l Z a0 hw [] w_RUNS w_RESULTS w_LOCATIONS w_THREAD_FLOW_LOCATIONS w_RULES w_EXTENSIONS w_TAGS  h0 n0 Z0 C ) hZ (hw _ (List.mem_of_getElem? (i := 9) rfl)) (hw _ (List.mem_of_getElem? (i := 2) rfl)) (by decide) (by decide)) q4a q4c (g := (mkF m 176 #[.val (.int i0), .val (.long i1), .second, .val (.int (5 : Int32)), .val (.ref w_THREAD_FLOW_LOCATIONS), .val (.long (1000 : Int64)), .second, .val (.int (1 : Int32)), .val (.int (1 : Int32)), .unset] [(.long (1001 : Int64)), (.ref w_THREAD_FLOW_LOCATIONS)])) rfl (by rw [hml]; rfl) (Steps.refl _) (argsL := [(.long (1001 : Int64))]) (rest := []) (lenOf pd_0 rfl) rfl (by show 2 * 0 + _ ≤ _; exact Nat.le_of_eq rfl) (hb hby at_176) (fun _ _ => ⟨rfl, e3, (by decide : 0 + 0 ≤ _), (by decide : 0 + 0 ≤ _)⟩)
  dsimp only [Pt.U, Pt.locs, Pt.cells, Pt.slots] at X4 l4 y4 z4 st4 hQ4
  subst l4 y4 z4
  obtain ⟨rfl, N4q, e4⟩ := hQ4
  have N4 := Fr.app N3 N4q
  obtain ⟨fs, hr, hrun, hended, hW, hsame⟩ := X4.leave (v := (some (.int (1 : Int32)))) (fun h => by rw [Bd.returns] at h; cases h)
  refine ⟨_, _, pre0 _ ?_, hrun, hended, _, _, rfl, ?_, ⟨_, rfl⟩, hW, hsame.mono (by decide) (by decide)⟩
  · show Steps p.tables e below (s₁.setTop (mkF m 0 #[.val (.int i0), .val (.long i1), .second, .unset, .unset, .unset, .unset, .unset, .unset, .unset] [])) _
    refine XS.iloadN X0.here hx rfl (hb hby at_0) rfl ?_
    show Steps p.tables e below (s₁.setTop (mkF m 1 #[.val (.int i0), .val (.long i1), .second, .unset, .unset, .unset, .unset, .unset, .unset, .unset] [(.int i0)])) _
    refine X0.ldcInt hx hown (mvT hZ (hw _ (List.mem_of_getElem? (i := 0) rfl))) (g := (mkF m 1 #[.val (.int i0), .val (.long i1), .second, .unset, .unset, .unset, .unset, .unset, .unset, .unset] [(.int i0)])) rfl (hb hby at_1) _ ?_
    show Steps p.tables e below (s₁.setTop (mkF m 3 #[.val (.int i0), .val (.long i1), .second, .unset, .unset, .unset, .unset, .unset, .unset, .unset] [(.int (2147483647 : Int32)), (.int i0)])) _
    refine XS.iand X0.here hx rfl (hb hby at_3) rfl ?_
    show Steps p.tables e below (s₁.setTop (mkF m 4 #[.val (.int i0), .val (.long i1), .second, .unset, .unset, .unset, .unset, .unset, .unset, .unset] [(.int (i0 &&& (2147483647 : Int32)))])) _
    refine XS.bipush X0.here hx rfl (hb hby at_4) ?_
    show Steps p.tables e below (s₁.setTop (mkF m 6 #[.val (.int i0), .val (.long i1), .second, .unset, .unset, .unset, .unset, .unset, .unset, .unset] [(.int (7 : Int32)), (.int (i0 &&& (2147483647 : Int32)))])) _
    refine iremM (g := (mkF m 6 #[.val (.int i0), .val (.long i1), .second, .unset, .unset, .unset, .unset, .unset, .unset, .unset] [(.int (7 : Int32)), (.int (i0 &&& (2147483647 : Int32)))])) X0 hx rfl (hb hby at_6) rfl (by decide) ?_
    show Steps p.tables e below (s₁.setTop (mkF m 7 #[.val (.int i0), .val (.long i1), .second, .unset, .unset, .unset, .unset, .unset, .unset, .unset] [(.int ((i0 &&& (2147483647 : Int32)) % (7 : Int32)))])) _
    rw [hv0]
    show Steps p.tables e below (s₁.setTop (mkF m 7 #[.val (.int i0), .val (.long i1), .second, .unset, .unset, .unset, .unset, .unset, .unset, .unset] [(.int (5 : Int32))])) _
    refine XS.istoreN X0.here hx rfl (hb hby at_7) rfl (l' := #[.val (.int i0), .val (.long i1), .second, .val (.int (5 : Int32)), .unset, .unset, .unset, .unset, .unset, .unset]) rfl ?_
    show Steps p.tables e below (s₁.setTop (mkF m 8 #[.val (.int i0), .val (.long i1), .second, .val (.int (5 : Int32)), .unset, .unset, .unset, .unset, .unset, .unset] [])) _
    refine XS.iloadN X0.here hx rfl (hb hby at_8) rfl ?_
    show Steps p.tables e below (s₁.setTop (mkF m 9 #[.val (.int i0), .val (.long i1), .second, .val (.int (5 : Int32)), .unset, .unset, .unset, .unset, .unset, .unset] [(.int (5 : Int32))])) _
    refine XS.ifYes X0.here hx rfl (pc0 := 9) (pc' := 25) rfl (hb hby at_9) rfl ((if0 _ _).trans (feq (by decide +kernel : ¬ ((5 : Int32) = (0 : Int32)))).2) (by decide) (by decide) ?_
    show Steps p.tables e below (s₁.setTop (mkF m 25 #[.val (.int i0), .val (.long i1), .second, .val (.int (5 : Int32)), .unset, .unset, .unset, .unset, .unset, .unset] [])) _
    refine XS.iloadN X0.here hx rfl (hb hby at_25) rfl ?_
    show Steps p.tables e below (s₁.setTop (mkF m 26 #[.val (.int i0), .val (.long i1), .second, .val (.int (5 : Int32)), .unset, .unset, .unset, .unset, .unset, .unset] [(.int (5 : Int32))])) _
    refine XS.iconst X0.here hx rfl (hb hby at_26) ?_
    show Steps p.tables e below (s₁.setTop (mkF m 27 #[.val (.int i0), .val (.long i1), .second, .val (.int (5 : Int32)), .unset, .unset, .unset, .unset, .unset, .unset] [(.int (1 : Int32)), (.int (5 : Int32))])) _
    refine XS.icmpYes X0.here hx rfl (pc0 := 27) (pc' := 43) rfl (hb hby at_27) rfl (feq (by decide +kernel : ¬ ((5 : Int32) = (1 : Int32)))).2 (by decide) (by decide) ?_
    show Steps p.tables e below (s₁.setTop (mkF m 43 #[.val (.int i0), .val (.long i1), .second, .val (.int (5 : Int32)), .unset, .unset, .unset, .unset, .unset, .unset] [])) _
    refine XS.iloadN X0.here hx rfl (hb hby at_43) rfl ?_
    show Steps p.tables e below (s₁.setTop (mkF m 44 #[.val (.int i0), .val (.long i1), .second, .val (.int (5 : Int32)), .unset, .unset, .unset, .unset, .unset, .unset] [(.int (5 : Int32))])) _
    refine XS.iconst X0.here hx rfl (hb hby at_44) ?_
    show Steps p.tables e below (s₁.setTop (mkF m 45 #[.val (.int i0), .val (.long i1), .second, .val (.int (5 : Int32)), .unset, .unset, .unset, .unset, .unset, .unset] [(.int (2 : Int32)), (.int (5 : Int32))])) _
    refine XS.icmpYes X0.here hx rfl (pc0 := 45) (pc' := 61) rfl (hb hby at_45) rfl (feq (by decide +kernel : ¬ ((5 : Int32) = (2 : Int32)))).2 (by decide) (by decide) ?_
    show Steps p.tables e below (s₁.setTop (mkF m 61 #[.val (.int i0), .val (.long i1), .second, .val (.int (5 : Int32)), .unset, .unset, .unset, .unset, .unset, .unset] [])) _
    refine XS.iloadN X0.here hx rfl (hb hby at_61) rfl ?_
    show Steps p.tables e below (s₁.setTop (mkF m 62 #[.val (.int i0), .val (.long i1), .second, .val (.int (5 : Int32)), .unset, .unset, .unset, .unset, .unset, .unset] [(.int (5 : Int32))])) _
    refine XS.iconst X0.here hx rfl (hb hby at_62) ?_
    show Steps p.tables e below (s₁.setTop (mkF m 63 #[.val (.int i0), .val (.long i1), .second, .val (.int (5 : Int32)), .unset, .unset, .unset, .unset, .unset, .unset] [(.int (3 : Int32)), (.int (5 : Int32))])) _
    refine XS.icmpYes X0.here hx rfl (pc0 := 63) (pc' := 79) rfl (hb hby at_63) rfl (feq (by decide +kernel : ¬ ((5 : Int32) = (3 : Int32)))).2 (by decide) (by decide) ?_
    show Steps p.tables e below (s₁.setTop (mkF m 79 #[.val (.int i0), .val (.long i1), .second, .val (.int (5 : Int32)), .unset, .unset, .unset, .unset, .unset, .unset] [])) _
    refine XS.iloadN X0.here hx rfl (hb hby at_79) rfl ?_
    show Steps p.tables e below (s₁.setTop (mkF m 80 #[.val (.int i0), .val (.long i1), .second, .val (.int (5 : Int32)), .unset, .unset, .unset, .unset, .unset, .unset] [(.int (5 : Int32))])) _
    refine XS.iconst X0.here hx rfl (hb hby at_80) ?_
    show Steps p.tables e below (s₁.setTop (mkF m 81 #[.val (.int i0), .val (.long i1), .second, .val (.int (5 : Int32)), .unset, .unset, .unset, .unset, .unset, .unset] [(.int (4 : Int32)), (.int (5 : Int32))])) _
    refine XS.icmpYes X0.here hx rfl (pc0 := 81) (pc' := 97) rfl (hb hby at_81) rfl (feq (by decide +kernel : ¬ ((5 : Int32) = (4 : Int32)))).2 (by decide) (by decide) ?_
    show Steps p.tables e below (s₁.setTop (mkF m 97 #[.val (.int i0), .val (.long i1), .second, .val (.int (5 : Int32)), .unset, .unset, .unset, .unset, .unset, .unset] [])) _
    refine XS.iloadN X0.here hx rfl (hb hby at_97) rfl ?_
    show Steps p.tables e below (s₁.setTop (mkF m 98 #[.val (.int i0), .val (.long i1), .second, .val (.int (5 : Int32)), .unset, .unset, .unset, .unset, .unset, .unset] [(.int (5 : Int32))])) _
    refine XS.iconst X0.here hx rfl (hb hby at_98) ?_
    show Steps p.tables e below (s₁.setTop (mkF m 99 #[.val (.int i0), .val (.long i1), .second, .val (.int (5 : Int32)), .unset, .unset, .unset, .unset, .unset, .unset] [(.int (5 : Int32)), (.int (5 : Int32))])) _
    refine XS.icmpNo X0.here hx rfl (hb hby at_99) rfl (teq (by decide +kernel : (5 : Int32) = (5 : Int32))).2 ?_
    show Steps p.tables e below (s₁.setTop (mkF m 102 #[.val (.int i0), .val (.long i1), .second, .val (.int (5 : Int32)), .unset, .unset, .unset, .unset, .unset, .unset] [])) _
    refine st1 _ ?_
    show Steps p.tables e below (T1.setTop (mkF m 105 #[.val (.int i0), .val (.long i1), .second, .val (.int (5 : Int32)), .unset, .unset, .unset, .unset, .unset, .unset] [(.ref w_THREAD_FLOW_LOCATIONS)])) _
    refine XS.astore X1.here hx rfl (hb hby at_105) rfl rfl (l' := #[.val (.int i0), .val (.long i1), .second, .val (.int (5 : Int32)), .val (.ref w_THREAD_FLOW_LOCATIONS), .unset, .unset, .unset, .unset, .unset]) rfl ?_
    show Steps p.tables e below (T1.setTop (mkF m 107 #[.val (.int i0), .val (.long i1), .second, .val (.int (5 : Int32)), .val (.ref w_THREAD_FLOW_LOCATIONS), .unset, .unset, .unset, .unset, .unset] [])) _
    refine X1.ldc2Long hx hown (mvT hZ (hw _ (List.mem_of_getElem? (i := 20) rfl))) (g := (mkF m 107 #[.val (.int i0), .val (.long i1), .second, .val (.int (5 : Int32)), .val (.ref w_THREAD_FLOW_LOCATIONS), .unset, .unset, .unset, .unset, .unset] [])) rfl (hb hby at_107) _ ?_
    show Steps p.tables e below (T1.setTop (mkF m 110 #[.val (.int i0), .val (.long i1), .second, .val (.int (5 : Int32)), .val (.ref w_THREAD_FLOW_LOCATIONS), .unset, .unset, .unset, .unset, .unset] [(.long (1000 : Int64))])) _
    refine XS.lstore X1.here hx rfl (hb hby at_110) rfl (l' := #[.val (.int i0), .val (.long i1), .second, .val (.int (5 : Int32)), .val (.ref w_THREAD_FLOW_LOCATIONS), .val (.long (1000 : Int64)), .second, .unset, .unset, .unset]) rfl ?_
    show Steps p.tables e below (T1.setTop (mkF m 112 #[.val (.int i0), .val (.long i1), .second, .val (.int (5 : Int32)), .val (.ref w_THREAD_FLOW_LOCATIONS), .val (.long (1000 : Int64)), .second, .unset, .unset, .unset] [])) _
    refine XS.goto X1.here hx rfl (pc0 := 112) (pc' := 125) rfl (hb hby at_112) (by decide) (by decide) ?_
    show Steps p.tables e below (T1.setTop (mkF m 125 #[.val (.int i0), .val (.long i1), .second, .val (.int (5 : Int32)), .val (.ref w_THREAD_FLOW_LOCATIONS), .val (.long (1000 : Int64)), .second, .unset, .unset, .unset] [])) _
    refine XS.aload X1.here hx rfl (hb hby at_125) rfl rfl ?_
    show Steps p.tables e below (T1.setTop (mkF m 127 #[.val (.int i0), .val (.long i1), .second, .val (.int (5 : Int32)), .val (.ref w_THREAD_FLOW_LOCATIONS), .val (.long (1000 : Int64)), .second, .unset, .unset, .unset] [(.ref w_THREAD_FLOW_LOCATIONS)])) _
    refine XS.lloadN X1.here hx rfl (hb hby at_127) rfl ?_
    show Steps p.tables e below (T1.setTop (mkF m 128 #[.val (.int i0), .val (.long i1), .second, .val (.int (5 : Int32)), .val (.ref w_THREAD_FLOW_LOCATIONS), .val (.long (1000 : Int64)), .second, .unset, .unset, .unset] [(.long i1), (.ref w_THREAD_FLOW_LOCATIONS)])) _
    refine st2.trans ?_
    show Steps p.tables e below (T2.setTop (mkF m 131 #[.val (.int i0), .val (.long i1), .second, .val (.int (5 : Int32)), .val (.ref w_THREAD_FLOW_LOCATIONS), .val (.long (1000 : Int64)), .second, .unset, .unset, .unset] [(.int (0 : Int32))])) _
    refine XS.lloadN X2.here hx rfl (hb hby at_131) rfl ?_
    show Steps p.tables e below (T2.setTop (mkF m 132 #[.val (.int i0), .val (.long i1), .second, .val (.int (5 : Int32)), .val (.ref w_THREAD_FLOW_LOCATIONS), .val (.long (1000 : Int64)), .second, .unset, .unset, .unset] [(.long i1), (.int (0 : Int32))])) _
    refine XS.lload X2.here hx rfl (hb hby at_132) rfl ?_
    show Steps p.tables e below (T2.setTop (mkF m 134 #[.val (.int i0), .val (.long i1), .second, .val (.int (5 : Int32)), .val (.ref w_THREAD_FLOW_LOCATIONS), .val (.long (1000 : Int64)), .second, .unset, .unset, .unset] [(.long (1000 : Int64)), (.long i1), (.int (0 : Int32))])) _
    refine XS.lcmp X2.here hx rfl (hb hby at_134) rfl ?_
    show Steps p.tables e below (T2.setTop (mkF m 135 #[.val (.int i0), .val (.long i1), .second, .val (.int (5 : Int32)), .val (.ref w_THREAD_FLOW_LOCATIONS), .val (.long (1000 : Int64)), .second, .unset, .unset, .unset] [(.int (lcmpW i1 (1000 : Int64))), (.int (0 : Int32))])) _
    refine XS.ifYes X2.here hx rfl (pc0 := 135) (pc' := 142) rfl (hb hby at_135) rfl ((if0 _ _).trans (flt hv1).2.2.2) (by decide) (by decide) ?_
    show Steps p.tables e below (T2.setTop (mkF m 142 #[.val (.int i0), .val (.long i1), .second, .val (.int (5 : Int32)), .val (.ref w_THREAD_FLOW_LOCATIONS), .val (.long (1000 : Int64)), .second, .unset, .unset, .unset] [(.int (0 : Int32))])) _
    refine XS.iconst X2.here hx rfl (hb hby at_142) ?_
    show Steps p.tables e below (T2.setTop (mkF m 143 #[.val (.int i0), .val (.long i1), .second, .val (.int (5 : Int32)), .val (.ref w_THREAD_FLOW_LOCATIONS), .val (.long (1000 : Int64)), .second, .unset, .unset, .unset] [(.int (0 : Int32)), (.int (0 : Int32))])) _
    refine XS.icmpNo X2.here hx rfl (hb hby at_143) rfl (teq (by decide +kernel : (0 : Int32) = (0 : Int32))).2 ?_
    show Steps p.tables e below (T2.setTop (mkF m 146 #[.val (.int i0), .val (.long i1), .second, .val (.int (5 : Int32)), .val (.ref w_THREAD_FLOW_LOCATIONS), .val (.long (1000 : Int64)), .second, .unset, .unset, .unset] [])) _
    refine XS.iconst X2.here hx rfl (hb hby at_146) ?_
    show Steps p.tables e below (T2.setTop (mkF m 147 #[.val (.int i0), .val (.long i1), .second, .val (.int (5 : Int32)), .val (.ref w_THREAD_FLOW_LOCATIONS), .val (.long (1000 : Int64)), .second, .unset, .unset, .unset] [(.int (1 : Int32))])) _
    refine XS.goto X2.here hx rfl (pc0 := 147) (pc' := 151) rfl (hb hby at_147) (by decide) (by decide) ?_
    show Steps p.tables e below (T2.setTop (mkF m 151 #[.val (.int i0), .val (.long i1), .second, .val (.int (5 : Int32)), .val (.ref w_THREAD_FLOW_LOCATIONS), .val (.long (1000 : Int64)), .second, .unset, .unset, .unset] [(.int (1 : Int32))])) _
    refine XS.istore X2.here hx rfl (hb hby at_151) rfl (l' := #[.val (.int i0), .val (.long i1), .second, .val (.int (5 : Int32)), .val (.ref w_THREAD_FLOW_LOCATIONS), .val (.long (1000 : Int64)), .second, .val (.int (1 : Int32)), .unset, .unset]) rfl ?_
    show Steps p.tables e below (T2.setTop (mkF m 153 #[.val (.int i0), .val (.long i1), .second, .val (.int (5 : Int32)), .val (.ref w_THREAD_FLOW_LOCATIONS), .val (.long (1000 : Int64)), .second, .val (.int (1 : Int32)), .unset, .unset] [])) _
    refine XS.aload X2.here hx rfl (hb hby at_153) rfl rfl ?_
    show Steps p.tables e below (T2.setTop (mkF m 155 #[.val (.int i0), .val (.long i1), .second, .val (.int (5 : Int32)), .val (.ref w_THREAD_FLOW_LOCATIONS), .val (.long (1000 : Int64)), .second, .val (.int (1 : Int32)), .unset, .unset] [(.ref w_THREAD_FLOW_LOCATIONS)])) _
    refine XS.lload X2.here hx rfl (hb hby at_155) rfl ?_
    show Steps p.tables e below (T2.setTop (mkF m 157 #[.val (.int i0), .val (.long i1), .second, .val (.int (5 : Int32)), .val (.ref w_THREAD_FLOW_LOCATIONS), .val (.long (1000 : Int64)), .second, .val (.int (1 : Int32)), .unset, .unset] [(.long (1000 : Int64)), (.ref w_THREAD_FLOW_LOCATIONS)])) _
    refine st3.trans ?_
    show Steps p.tables e below (T3.setTop (mkF m 160 #[.val (.int i0), .val (.long i1), .second, .val (.int (5 : Int32)), .val (.ref w_THREAD_FLOW_LOCATIONS), .val (.long (1000 : Int64)), .second, .val (.int (1 : Int32)), .unset, .unset] [(.int (0 : Int32))])) _
    refine XS.ifNo X3.here hx rfl (hb hby at_160) rfl ((if0 _ _).trans (teq (by decide +kernel : (0 : Int32) = (0 : Int32))).2) ?_
    show Steps p.tables e below (T3.setTop (mkF m 163 #[.val (.int i0), .val (.long i1), .second, .val (.int (5 : Int32)), .val (.ref w_THREAD_FLOW_LOCATIONS), .val (.long (1000 : Int64)), .second, .val (.int (1 : Int32)), .unset, .unset] [])) _
    refine XS.iconst X3.here hx rfl (hb hby at_163) ?_
    show Steps p.tables e below (T3.setTop (mkF m 164 #[.val (.int i0), .val (.long i1), .second, .val (.int (5 : Int32)), .val (.ref w_THREAD_FLOW_LOCATIONS), .val (.long (1000 : Int64)), .second, .val (.int (1 : Int32)), .unset, .unset] [(.int (1 : Int32))])) _
    refine XS.goto X3.here hx rfl (pc0 := 164) (pc' := 168) rfl (hb hby at_164) (by decide) (by decide) ?_
    show Steps p.tables e below (T3.setTop (mkF m 168 #[.val (.int i0), .val (.long i1), .second, .val (.int (5 : Int32)), .val (.ref w_THREAD_FLOW_LOCATIONS), .val (.long (1000 : Int64)), .second, .val (.int (1 : Int32)), .unset, .unset] [(.int (1 : Int32))])) _
    refine XS.istore X3.here hx rfl (hb hby at_168) rfl (l' := #[.val (.int i0), .val (.long i1), .second, .val (.int (5 : Int32)), .val (.ref w_THREAD_FLOW_LOCATIONS), .val (.long (1000 : Int64)), .second, .val (.int (1 : Int32)), .val (.int (1 : Int32)), .unset]) rfl ?_
    show Steps p.tables e below (T3.setTop (mkF m 170 #[.val (.int i0), .val (.long i1), .second, .val (.int (5 : Int32)), .val (.ref w_THREAD_FLOW_LOCATIONS), .val (.long (1000 : Int64)), .second, .val (.int (1 : Int32)), .val (.int (1 : Int32)), .unset] [])) _
    refine XS.aload X3.here hx rfl (hb hby at_170) rfl rfl ?_
    show Steps p.tables e below (T3.setTop (mkF m 172 #[.val (.int i0), .val (.long i1), .second, .val (.int (5 : Int32)), .val (.ref w_THREAD_FLOW_LOCATIONS), .val (.long (1000 : Int64)), .second, .val (.int (1 : Int32)), .val (.int (1 : Int32)), .unset] [(.ref w_THREAD_FLOW_LOCATIONS)])) _
    refine XS.lload X3.here hx rfl (hb hby at_172) rfl ?_
    show Steps p.tables e below (T3.setTop (mkF m 174 #[.val (.int i0), .val (.long i1), .second, .val (.int (5 : Int32)), .val (.ref w_THREAD_FLOW_LOCATIONS), .val (.long (1000 : Int64)), .second, .val (.int (1 : Int32)), .val (.int (1 : Int32)), .unset] [(.long (1000 : Int64)), (.ref w_THREAD_FLOW_LOCATIONS)])) _
    refine XS.lconst X3.here hx rfl (hb hby at_174) ?_
    show Steps p.tables e below (T3.setTop (mkF m 175 #[.val (.int i0), .val (.long i1), .second, .val (.int (5 : Int32)), .val (.ref w_THREAD_FLOW_LOCATIONS), .val (.long (1000 : Int64)), .second, .val (.int (1 : Int32)), .val (.int (1 : Int32)), .unset] [(.long (1 : Int64)), (.long (1000 : Int64)), (.ref w_THREAD_FLOW_LOCATIONS)])) _
    refine XS.ladd X3.here hx rfl (hb hby at_175) rfl ?_
    show Steps p.tables e below (T3.setTop (mkF m 176 #[.val (.int i0), .val (.long i1), .second, .val (.int (5 : Int32)), .val (.ref w_THREAD_FLOW_LOCATIONS), .val (.long (1000 : Int64)), .second, .val (.int (1 : Int32)), .val (.int (1 : Int32)), .unset] [(.long ((1000 : Int64) + (1 : Int64))), (.ref w_THREAD_FLOW_LOCATIONS)])) _
    rw [show ((1000 : Int64) + (1 : Int64)) = (1001 : Int64) from by decide +kernel]
    show Steps p.tables e below (T3.setTop (mkF m 176 #[.val (.int i0), .val (.long i1), .second, .val (.int (5 : Int32)), .val (.ref w_THREAD_FLOW_LOCATIONS), .val (.long (1000 : Int64)), .second, .val (.int (1 : Int32)), .val (.int (1 : Int32)), .unset] [(.long (1001 : Int64)), (.ref w_THREAD_FLOW_LOCATIONS)])) _
    refine st4.trans ?_
    show Steps p.tables e below (T4.setTop (mkF m 179 #[.val (.int i0), .val (.long i1), .second, .val (.int (5 : Int32)), .val (.ref w_THREAD_FLOW_LOCATIONS), .val (.long (1000 : Int64)), .second, .val (.int (1 : Int32)), .val (.int (1 : Int32)), .unset] [(.int (1 : Int32))])) _
    refine XS.istore X4.here hx rfl (hb hby at_179) rfl (l' := #[.val (.int i0), .val (.long i1), .second, .val (.int (5 : Int32)), .val (.ref w_THREAD_FLOW_LOCATIONS), .val (.long (1000 : Int64)), .second, .val (.int (1 : Int32)), .val (.int (1 : Int32)), .val (.int (1 : Int32))]) rfl ?_
    show Steps p.tables e below (T4.setTop (mkF m 181 #[.val (.int i0), .val (.long i1), .second, .val (.int (5 : Int32)), .val (.ref w_THREAD_FLOW_LOCATIONS), .val (.long (1000 : Int64)), .second, .val (.int (1 : Int32)), .val (.int (1 : Int32)), .val (.int (1 : Int32))] [])) _
    refine XS.iload X4.here hx rfl (hb hby at_181) rfl ?_
    show Steps p.tables e below (T4.setTop (mkF m 183 #[.val (.int i0), .val (.long i1), .second, .val (.int (5 : Int32)), .val (.ref w_THREAD_FLOW_LOCATIONS), .val (.long (1000 : Int64)), .second, .val (.int (1 : Int32)), .val (.int (1 : Int32)), .val (.int (1 : Int32))] [(.int (1 : Int32))])) _
    refine XS.ifNo X4.here hx rfl (hb hby at_183) rfl ((if0 _ _).trans (feq (by decide +kernel : ¬ ((1 : Int32) = (0 : Int32)))).1) ?_
    show Steps p.tables e below (T4.setTop (mkF m 186 #[.val (.int i0), .val (.long i1), .second, .val (.int (5 : Int32)), .val (.ref w_THREAD_FLOW_LOCATIONS), .val (.long (1000 : Int64)), .second, .val (.int (1 : Int32)), .val (.int (1 : Int32)), .val (.int (1 : Int32))] [])) _
    refine XS.iload X4.here hx rfl (hb hby at_186) rfl ?_
    show Steps p.tables e below (T4.setTop (mkF m 188 #[.val (.int i0), .val (.long i1), .second, .val (.int (5 : Int32)), .val (.ref w_THREAD_FLOW_LOCATIONS), .val (.long (1000 : Int64)), .second, .val (.int (1 : Int32)), .val (.int (1 : Int32)), .val (.int (1 : Int32))] [(.int (1 : Int32))])) _
    refine XS.ifNo X4.here hx rfl (hb hby at_188) rfl ((if0 _ _).trans (feq (by decide +kernel : ¬ ((1 : Int32) = (0 : Int32)))).1) ?_
    show Steps p.tables e below (T4.setTop (mkF m 191 #[.val (.int i0), .val (.long i1), .second, .val (.int (5 : Int32)), .val (.ref w_THREAD_FLOW_LOCATIONS), .val (.long (1000 : Int64)), .second, .val (.int (1 : Int32)), .val (.int (1 : Int32)), .val (.int (1 : Int32))] [])) _
    refine XS.iload X4.here hx rfl (hb hby at_191) rfl ?_
    show Steps p.tables e below (T4.setTop (mkF m 193 #[.val (.int i0), .val (.long i1), .second, .val (.int (5 : Int32)), .val (.ref w_THREAD_FLOW_LOCATIONS), .val (.long (1000 : Int64)), .second, .val (.int (1 : Int32)), .val (.int (1 : Int32)), .val (.int (1 : Int32))] [(.int (1 : Int32))])) _
    refine XS.ifNo X4.here hx rfl (hb hby at_193) rfl ((if0 _ _).trans (feq (by decide +kernel : ¬ ((1 : Int32) = (0 : Int32)))).1) ?_
    show Steps p.tables e below (T4.setTop (mkF m 196 #[.val (.int i0), .val (.long i1), .second, .val (.int (5 : Int32)), .val (.ref w_THREAD_FLOW_LOCATIONS), .val (.long (1000 : Int64)), .second, .val (.int (1 : Int32)), .val (.int (1 : Int32)), .val (.int (1 : Int32))] [])) _
    refine XS.iconst X4.here hx rfl (hb hby at_196) ?_
    show Steps p.tables e below (T4.setTop (mkF m 197 #[.val (.int i0), .val (.long i1), .second, .val (.int (5 : Int32)), .val (.ref w_THREAD_FLOW_LOCATIONS), .val (.long (1000 : Int64)), .second, .val (.int (1 : Int32)), .val (.int (1 : Int32)), .val (.int (1 : Int32))] [(.int (1 : Int32))])) _
    refine XS.goto X4.here hx rfl (pc0 := 197) (pc' := 201) rfl (hb hby at_197) (by decide) (by decide) ?_
    show Steps p.tables e below (T4.setTop (mkF m 201 #[.val (.int i0), .val (.long i1), .second, .val (.int (5 : Int32)), .val (.ref w_THREAD_FLOW_LOCATIONS), .val (.long (1000 : Int64)), .second, .val (.int (1 : Int32)), .val (.int (1 : Int32)), .val (.int (1 : Int32))] [(.int (1 : Int32))])) _
    exact retN X4 hx (t := .boolean) Bd.returns (by simp) (hb hby at_201) hr
  · exact ⟨rfl, N4, e4⟩
set_option maxRecDepth 65536 in
set_option maxHeartbeats 40000000 in
theorem rm1_24 (l : Launch) (Z : State) (a0 : Array Value) (hw : ∀ d ∈ tables_1, d.before a0 Z = true) (ws : List Jvm.Cond) (w_RUNS w_RESULTS w_LOCATIONS w_THREAD_FLOW_LOCATIONS w_RULES w_EXTENSIONS w_TAGS : Addr) (i0 : Int32) (i1 : Int64) (h0 : Heap) (n0 : Nat) (Z0 : n0 ≤ h0.size) (C : Ctx Z h0 w_RUNS w_RESULTS w_LOCATIONS w_THREAD_FLOW_LOCATIONS w_RULES w_EXTENSIONS w_TAGS) (hv0 : ((i0 &&& (2147483647 : Int32)) % (7 : Int32)) = (6 : Int32)) (hv1 : (0 : Int32) < (lcmpW i1 (10 : Int64))) :
    MetFree l (⟨"com/example/verdictlint/verdictlint/sarif/Cap", "dropsSomeOf", "(J)Z"⟩ : MethodName) (head1 (Jvm.Cond.code (⟨"com/example/verdictlint/verdictlint/sarif/Cap", "dropsSomeOf", "(J)Z"⟩ : MethodName) prog_26_method_8_code 3 (some .boolean) :: ws) ({ frames := 0, cells := 0, slots := 0, locals := 0 } : Room)) (fun a U => a = #[(.ref w_TAGS), (.long i1)] ∧ Z.Warmed39 U.vm ∧ U.heap = h0) (fun _ _ _ _ _ => True) (fun _ U o U' => ∃ v L, o = .returned v ∧ QR h0 n0 (some (.int (1 : Int32))) v U'.heap L ∧ FrameEnd U o U' L ({ frames := 0, cells := 0, slots := 0, locals := 0 } : Room).cells ({ frames := 0, cells := 0, slots := 0, locals := 0 } : Room).slots) := by
  have F_TAGS_kept := C.2.2.2.2.2.2.2.2.2.2.2.2.2.2.2.2.2.2.2.2.1
  refine MetFree.of_bodySF (plainFor_of_name pn_1) hisR ?_
  intro p e s m args below meth c s₁ Bd hml0 hP hK
  obtain ⟨rfl, hZ, hh⟩ := hP
  have hx := Bd.exec
  have hby := Bd.bytes
  have hml : c.maxLocals = 3 := hml0
  have hown : s.vm.findClass "com/example/verdictlint/verdictlint/sarif/Cap" = some m.cls := findClass_of_methodNamed Bd.named
  have hnm := (name_of_methodNamed Bd.named Bd.method).1
  have X0 : Stand p l e ({ frames := 0, cells := 0, slots := 0, locals := 0 } : Room) s m #[(.ref w_TAGS), (.long i1)] below meth c s₁ [] 0 0 := Stand.of_body Bd
  have e0 : s₁.heap = h0 := by rw [← hh, Bd.state]; rfl
  have N0 := Fr.nil n0
  have pre0 : ∀ t, Steps p.tables e below (s₁.setTop (mkF m 0 #[.val (.ref w_TAGS), .val (.long i1), .second] [])) t → Steps p.tables e below (s₁.setTop (entryFrame m #[(.ref w_TAGS), (.long i1)] 3)) t := fun t k => castTop (ef_1 m w_TAGS i1) k
  obtain ⟨T1, X1, e1, st1⟩ := getF X0 hx hZ hown (host := "") (Or.inl (hw _ (List.mem_of_getElem? (i := 10) rfl))) Via.refl e0 F_TAGS_kept (g := (mkF m 2 #[.val (.ref w_TAGS), .val (.long i1), .second] [(.ref w_TAGS), (.long i1)])) rfl rfl (hb hby d1_2)
  obtain ⟨fs, hr, hrun, hended, hW, hsame⟩ := X1.leave (v := (some (.int (1 : Int32)))) (fun h => by rw [Bd.returns] at h; cases h)
  refine ⟨_, _, pre0 _ ?_, hrun, hended, _, _, rfl, ?_, ⟨_, rfl⟩, hW, hsame.mono (by decide) (by decide)⟩
  · show Steps p.tables e below (s₁.setTop (mkF m 0 #[.val (.ref w_TAGS), .val (.long i1), .second] [])) _
    refine XS.lloadN X0.here hx rfl (hb hby d1_0) rfl ?_
    show Steps p.tables e below (s₁.setTop (mkF m 1 #[.val (.ref w_TAGS), .val (.long i1), .second] [(.long i1)])) _
    refine XS.aloadN X0.here hx rfl (hb hby d1_1) rfl rfl ?_
    show Steps p.tables e below (s₁.setTop (mkF m 2 #[.val (.ref w_TAGS), .val (.long i1), .second] [(.ref w_TAGS), (.long i1)])) _
    refine st1 _ ?_
    show Steps p.tables e below (T1.setTop (mkF m 5 #[.val (.ref w_TAGS), .val (.long i1), .second] [(.long (10 : Int64)), (.long i1)])) _
    refine XS.lcmp X1.here hx rfl (hb hby d1_5) rfl ?_
    show Steps p.tables e below (T1.setTop (mkF m 6 #[.val (.ref w_TAGS), .val (.long i1), .second] [(.int (lcmpW i1 (10 : Int64)))])) _
    refine XS.ifNo X1.here hx rfl (hb hby d1_6) rfl ((if0 _ _).trans (tlt hv1).2.2.2) ?_
    show Steps p.tables e below (T1.setTop (mkF m 9 #[.val (.ref w_TAGS), .val (.long i1), .second] [])) _
    refine XS.iconst X1.here hx rfl (hb hby d1_9) ?_
    show Steps p.tables e below (T1.setTop (mkF m 10 #[.val (.ref w_TAGS), .val (.long i1), .second] [(.int (1 : Int32))])) _
    refine XS.goto X1.here hx rfl (pc0 := 10) (pc' := 14) rfl (hb hby d1_10) (by decide) (by decide) ?_
    show Steps p.tables e below (T1.setTop (mkF m 14 #[.val (.ref w_TAGS), .val (.long i1), .second] [(.int (1 : Int32))])) _
    exact retN X1 hx (t := .boolean) Bd.returns (by simp) (hb hby d1_14) hr
  · exact ⟨rfl, N0, e1⟩
set_option maxRecDepth 65536 in
set_option maxHeartbeats 40000000 in
theorem rm1_25 (l : Launch) (Z : State) (a0 : Array Value) (hw : ∀ d ∈ tables_1, d.before a0 Z = true) (ws : List Jvm.Cond) (w_RUNS w_RESULTS w_LOCATIONS w_THREAD_FLOW_LOCATIONS w_RULES w_EXTENSIONS w_TAGS : Addr) (h0 : Heap) (n0 : Nat) (Z0 : n0 ≤ h0.size) (C : Ctx Z h0 w_RUNS w_RESULTS w_LOCATIONS w_THREAD_FLOW_LOCATIONS w_RULES w_EXTENSIONS w_TAGS)  :
    MetFree l (⟨"com/example/verdictlint/verdictlint/sarif/Cap", "dropsSomeOf", "(J)Z"⟩ : MethodName) (head1 (Jvm.Cond.code (⟨"com/example/verdictlint/verdictlint/sarif/Cap", "dropsSomeOf", "(J)Z"⟩ : MethodName) prog_26_method_8_code 3 (some .boolean) :: ws) ({ frames := 0, cells := 0, slots := 0, locals := 0 } : Room)) (fun a U => a = #[(.ref w_TAGS), (.long (10 : Int64))] ∧ Z.Warmed39 U.vm ∧ U.heap = h0) (fun _ _ _ _ _ => True) (fun _ U o U' => ∃ v L, o = .returned v ∧ QR h0 n0 (some (.int (0 : Int32))) v U'.heap L ∧ FrameEnd U o U' L ({ frames := 0, cells := 0, slots := 0, locals := 0 } : Room).cells ({ frames := 0, cells := 0, slots := 0, locals := 0 } : Room).slots) := by
  have F_TAGS_kept := C.2.2.2.2.2.2.2.2.2.2.2.2.2.2.2.2.2.2.2.2.1
  refine MetFree.of_bodySF (plainFor_of_name pn_1) hisR ?_
  intro p e s m args below meth c s₁ Bd hml0 hP hK
  obtain ⟨rfl, hZ, hh⟩ := hP
  have hx := Bd.exec
  have hby := Bd.bytes
  have hml : c.maxLocals = 3 := hml0
  have hown : s.vm.findClass "com/example/verdictlint/verdictlint/sarif/Cap" = some m.cls := findClass_of_methodNamed Bd.named
  have hnm := (name_of_methodNamed Bd.named Bd.method).1
  have X0 : Stand p l e ({ frames := 0, cells := 0, slots := 0, locals := 0 } : Room) s m #[(.ref w_TAGS), (.long (10 : Int64))] below meth c s₁ [] 0 0 := Stand.of_body Bd
  have e0 : s₁.heap = h0 := by rw [← hh, Bd.state]; rfl
  have N0 := Fr.nil n0
  have pre0 : ∀ t, Steps p.tables e below (s₁.setTop (mkF m 0 #[.val (.ref w_TAGS), .val (.long (10 : Int64)), .second] [])) t → Steps p.tables e below (s₁.setTop (entryFrame m #[(.ref w_TAGS), (.long (10 : Int64))] 3)) t := fun t k => castTop (ef_1 m w_TAGS (10 : Int64)) k
  obtain ⟨T1, X1, e1, st1⟩ := getF X0 hx hZ hown (host := "") (Or.inl (hw _ (List.mem_of_getElem? (i := 10) rfl))) Via.refl e0 F_TAGS_kept (g := (mkF m 2 #[.val (.ref w_TAGS), .val (.long (10 : Int64)), .second] [(.ref w_TAGS), (.long (10 : Int64))])) rfl rfl (hb hby d1_2)
  obtain ⟨fs, hr, hrun, hended, hW, hsame⟩ := X1.leave (v := (some (.int (0 : Int32)))) (fun h => by rw [Bd.returns] at h; cases h)
  refine ⟨_, _, pre0 _ ?_, hrun, hended, _, _, rfl, ?_, ⟨_, rfl⟩, hW, hsame.mono (by decide) (by decide)⟩
  · show Steps p.tables e below (s₁.setTop (mkF m 0 #[.val (.ref w_TAGS), .val (.long (10 : Int64)), .second] [])) _
    refine XS.lloadN X0.here hx rfl (hb hby d1_0) rfl ?_
    show Steps p.tables e below (s₁.setTop (mkF m 1 #[.val (.ref w_TAGS), .val (.long (10 : Int64)), .second] [(.long (10 : Int64))])) _
    refine XS.aloadN X0.here hx rfl (hb hby d1_1) rfl rfl ?_
    show Steps p.tables e below (s₁.setTop (mkF m 2 #[.val (.ref w_TAGS), .val (.long (10 : Int64)), .second] [(.ref w_TAGS), (.long (10 : Int64))])) _
    refine st1 _ ?_
    show Steps p.tables e below (T1.setTop (mkF m 5 #[.val (.ref w_TAGS), .val (.long (10 : Int64)), .second] [(.long (10 : Int64)), (.long (10 : Int64))])) _
    refine XS.lcmp X1.here hx rfl (hb hby d1_5) rfl ?_
    show Steps p.tables e below (T1.setTop (mkF m 6 #[.val (.ref w_TAGS), .val (.long (10 : Int64)), .second] [(.int (lcmpW (10 : Int64) (10 : Int64)))])) _
    rw [show (lcmpW (10 : Int64) (10 : Int64)) = (0 : Int32) from by decide +kernel]
    show Steps p.tables e below (T1.setTop (mkF m 6 #[.val (.ref w_TAGS), .val (.long (10 : Int64)), .second] [(.int (0 : Int32))])) _
    refine XS.ifYes X1.here hx rfl (pc0 := 6) (pc' := 13) rfl (hb hby d1_6) rfl ((if0 _ _).trans (flt (by decide +kernel : ¬ ((0 : Int32) < (0 : Int32)))).2.2.2) (by decide) (by decide) ?_
    show Steps p.tables e below (T1.setTop (mkF m 13 #[.val (.ref w_TAGS), .val (.long (10 : Int64)), .second] [])) _
    refine XS.iconst X1.here hx rfl (hb hby d1_13) ?_
    show Steps p.tables e below (T1.setTop (mkF m 14 #[.val (.ref w_TAGS), .val (.long (10 : Int64)), .second] [(.int (0 : Int32))])) _
    exact retN X1 hx (t := .boolean) Bd.returns (by simp) (hb hby d1_14) hr
  · exact ⟨rfl, N0, e1⟩
set_option maxRecDepth 65536 in
set_option maxHeartbeats 40000000 in
theorem rm1_26 (l : Launch) (Z : State) (a0 : Array Value) (hw : ∀ d ∈ tables_1, d.before a0 Z = true) (ws : List Jvm.Cond) (w_RUNS w_RESULTS w_LOCATIONS w_THREAD_FLOW_LOCATIONS w_RULES w_EXTENSIONS w_TAGS : Addr) (h0 : Heap) (n0 : Nat) (Z0 : n0 ≤ h0.size) (C : Ctx Z h0 w_RUNS w_RESULTS w_LOCATIONS w_THREAD_FLOW_LOCATIONS w_RULES w_EXTENSIONS w_TAGS)  :
    MetFree l (⟨"com/example/verdictlint/verdictlint/sarif/Cap", "dropsSomeOf", "(J)Z"⟩ : MethodName) (head1 (Jvm.Cond.code (⟨"com/example/verdictlint/verdictlint/sarif/Cap", "dropsSomeOf", "(J)Z"⟩ : MethodName) prog_26_method_8_code 3 (some .boolean) :: ws) ({ frames := 0, cells := 0, slots := 0, locals := 0 } : Room)) (fun a U => a = #[(.ref w_TAGS), (.long (11 : Int64))] ∧ Z.Warmed39 U.vm ∧ U.heap = h0) (fun _ _ _ _ _ => True) (fun _ U o U' => ∃ v L, o = .returned v ∧ QR h0 n0 (some (.int (1 : Int32))) v U'.heap L ∧ FrameEnd U o U' L ({ frames := 0, cells := 0, slots := 0, locals := 0 } : Room).cells ({ frames := 0, cells := 0, slots := 0, locals := 0 } : Room).slots) := by
  have F_TAGS_kept := C.2.2.2.2.2.2.2.2.2.2.2.2.2.2.2.2.2.2.2.2.1
  refine MetFree.of_bodySF (plainFor_of_name pn_1) hisR ?_
  intro p e s m args below meth c s₁ Bd hml0 hP hK
  obtain ⟨rfl, hZ, hh⟩ := hP
  have hx := Bd.exec
  have hby := Bd.bytes
  have hml : c.maxLocals = 3 := hml0
  have hown : s.vm.findClass "com/example/verdictlint/verdictlint/sarif/Cap" = some m.cls := findClass_of_methodNamed Bd.named
  have hnm := (name_of_methodNamed Bd.named Bd.method).1
  have X0 : Stand p l e ({ frames := 0, cells := 0, slots := 0, locals := 0 } : Room) s m #[(.ref w_TAGS), (.long (11 : Int64))] below meth c s₁ [] 0 0 := Stand.of_body Bd
  have e0 : s₁.heap = h0 := by rw [← hh, Bd.state]; rfl
  have N0 := Fr.nil n0
  have pre0 : ∀ t, Steps p.tables e below (s₁.setTop (mkF m 0 #[.val (.ref w_TAGS), .val (.long (11 : Int64)), .second] [])) t → Steps p.tables e below (s₁.setTop (entryFrame m #[(.ref w_TAGS), (.long (11 : Int64))] 3)) t := fun t k => castTop (ef_1 m w_TAGS (11 : Int64)) k
  obtain ⟨T1, X1, e1, st1⟩ := getF X0 hx hZ hown (host := "") (Or.inl (hw _ (List.mem_of_getElem? (i := 10) rfl))) Via.refl e0 F_TAGS_kept (g := (mkF m 2 #[.val (.ref w_TAGS), .val (.long (11 : Int64)), .second] [(.ref w_TAGS), (.long (11 : Int64))])) rfl rfl (hb hby d1_2)
  obtain ⟨fs, hr, hrun, hended, hW, hsame⟩ := X1.leave (v := (some (.int (1 : Int32)))) (fun h => by rw [Bd.returns] at h; cases h)
  refine ⟨_, _, pre0 _ ?_, hrun, hended, _, _, rfl, ?_, ⟨_, rfl⟩, hW, hsame.mono (by decide) (by decide)⟩
  · show Steps p.tables e below (s₁.setTop (mkF m 0 #[.val (.ref w_TAGS), .val (.long (11 : Int64)), .second] [])) _
    refine XS.lloadN X0.here hx rfl (hb hby d1_0) rfl ?_
    show Steps p.tables e below (s₁.setTop (mkF m 1 #[.val (.ref w_TAGS), .val (.long (11 : Int64)), .second] [(.long (11 : Int64))])) _
    refine XS.aloadN X0.here hx rfl (hb hby d1_1) rfl rfl ?_
    show Steps p.tables e below (s₁.setTop (mkF m 2 #[.val (.ref w_TAGS), .val (.long (11 : Int64)), .second] [(.ref w_TAGS), (.long (11 : Int64))])) _
    refine st1 _ ?_
    show Steps p.tables e below (T1.setTop (mkF m 5 #[.val (.ref w_TAGS), .val (.long (11 : Int64)), .second] [(.long (10 : Int64)), (.long (11 : Int64))])) _
    refine XS.lcmp X1.here hx rfl (hb hby d1_5) rfl ?_
    show Steps p.tables e below (T1.setTop (mkF m 6 #[.val (.ref w_TAGS), .val (.long (11 : Int64)), .second] [(.int (lcmpW (11 : Int64) (10 : Int64)))])) _
    rw [show (lcmpW (11 : Int64) (10 : Int64)) = (1 : Int32) from by decide +kernel]
    show Steps p.tables e below (T1.setTop (mkF m 6 #[.val (.ref w_TAGS), .val (.long (11 : Int64)), .second] [(.int (1 : Int32))])) _
    refine XS.ifNo X1.here hx rfl (hb hby d1_6) rfl ((if0 _ _).trans (tlt (by decide +kernel : (0 : Int32) < (1 : Int32))).2.2.2) ?_
    show Steps p.tables e below (T1.setTop (mkF m 9 #[.val (.ref w_TAGS), .val (.long (11 : Int64)), .second] [])) _
    refine XS.iconst X1.here hx rfl (hb hby d1_9) ?_
    show Steps p.tables e below (T1.setTop (mkF m 10 #[.val (.ref w_TAGS), .val (.long (11 : Int64)), .second] [(.int (1 : Int32))])) _
    refine XS.goto X1.here hx rfl (pc0 := 10) (pc' := 14) rfl (hb hby d1_10) (by decide) (by decide) ?_
    show Steps p.tables e below (T1.setTop (mkF m 14 #[.val (.ref w_TAGS), .val (.long (11 : Int64)), .second] [(.int (1 : Int32))])) _
    exact retN X1 hx (t := .boolean) Bd.returns (by simp) (hb hby d1_14) hr
  · exact ⟨rfl, N0, e1⟩
set_option maxRecDepth 65536 in
set_option maxHeartbeats 40000000 in
theorem rm0_12 (l : Launch) (Z : State) (a0 : Array Value) (hw : ∀ d ∈ tables_1, d.before a0 Z = true) (ws : List Jvm.Cond) (w_RUNS w_RESULTS w_LOCATIONS w_THREAD_FLOW_LOCATIONS w_RULES w_EXTENSIONS w_TAGS : Addr) (i0 : Int32) (i1 : Int64) (h0 : Heap) (n0 : Nat) (Z0 : n0 ≤ h0.size) (C : Ctx Z h0 w_RUNS w_RESULTS w_LOCATIONS w_THREAD_FLOW_LOCATIONS w_RULES w_EXTENSIONS w_TAGS) (hv0 : ((i0 &&& (2147483647 : Int32)) % (7 : Int32)) = (6 : Int32)) (hv1 : (0 : Int32) < (lcmpW i1 (10 : Int64))) :
    MetFree l x (head1 (Jvm.Cond.code x code maxLocals ret :: ws) room_1) (fun a U => a = #[(.int i0), (.long i1)] ∧ Z.Warmed39 U.vm ∧ U.heap = h0) (fun _ _ _ _ _ => True) (fun _ U o U' => ∃ v L, o = .returned v ∧ QR h0 n0 (some (.int (1 : Int32))) v U'.heap L ∧ FrameEnd U o U' L room_1.cells room_1.slots) := by
  have S_TAGS := C.2.2.2.2.2.2.2.2.2.2.2.2.2.2.2.2.2.2.1
  have E_TAGS := C.2.2.2.2.2.2.2.2.2.2.2.2.2.2.2.2.2.2.2.1
  refine MetFree.of_bodySF (plainFor_of_name pn_0) hisR ?_
  intro p e s m args below meth c s₁ Bd hml0 hP hK
  obtain ⟨rfl, hZ, hh⟩ := hP
  have hx := Bd.exec
  have hby := Bd.bytes
  have hml : c.maxLocals = 10 := hml0
  have hown : s.vm.findClass "com/example/verdictlint/verdictlint/sarif/CapDropsSomeOfPinLaw" = some m.cls := findClass_of_methodNamed Bd.named
  have hnm := (name_of_methodNamed Bd.named Bd.method).1
  have X0 : Stand p l e room_1 s m #[(.int i0), (.long i1)] below meth c s₁ [] 0 0 := Stand.of_body Bd
  have e0 : s₁.heap = h0 := by rw [← hh, Bd.state]; rfl
  have N0 := Fr.nil n0
  have pre0 : ∀ t, Steps p.tables e below (s₁.setTop (mkF m 0 #[.val (.int i0), .val (.long i1), .second, .unset, .unset, .unset, .unset, .unset, .unset, .unset] [])) t → Steps p.tables e below (s₁.setTop (entryFrame m #[(.int i0), (.long i1)] maxLocals)) t := fun t k => castTop (ef_0 m i0 i1) k
  obtain ⟨T1, X1, e1, st1⟩ := getS2 X0 hx hZ hown (host := "") (Or.inl (hw _ (List.mem_of_getElem? (i := 25) rfl))) Via.refl e0 S_TAGS (g := (mkF m 115 #[.val (.int i0), .val (.long i1), .second, .val (.int (6 : Int32)), .unset, .unset, .unset, .unset, .unset, .unset] [])) rfl (hb hby at_115)
  obtain ⟨cq2, kq2, q2a, q2b, q2c⟩ := isOf hZ e1 E_TAGS
  obtain ⟨_, _, ⟨T2, L2, k2, n2⟩, -, X2, ⟨Lc2, hQ2, l2, y2, z2⟩, st2⟩ := X1.virtualBack hx (y := (⟨"com/example/verdictlint/verdictlint/sarif/Cap", "dropsSomeOf", "(J)Z"⟩ : MethodName)) (z := (⟨"com/example/verdictlint/verdictlint/sarif/Cap", "dropsSomeOf", "(J)Z"⟩ : MethodName)) hown (mvT hZ (hw _ (List.mem_of_getElem? (i := 5) rfl))) (mvT hZ (hw _ (List.mem_of_getElem? (i := 6) rfl))) (notFace_of_selects (args := #[]) (mvT hZ (hw _ (List.mem_of_getElem? (i := 8) rfl)))) (mvT hZ (hw _ (List.mem_of_getElem? (i := 8) rfl))) (mvT hZ (hw _ (List.mem_of_getElem? (i := 7) rfl))) (by decide) (backOf (W := 0) (rm1_24 l Z a0 hw [] w_RUNS w_RESULTS w_LOCATIONS w_THREAD_FLOW_LOCATIONS w_RULES w_EXTENSIONS w_TAGS i0 i1 h0 n0 Z0 C hv0 hv1) hZ (hw _ (List.mem_of_getElem? (i := 9) rfl)) (hw _ (List.mem_of_getElem? (i := 2) rfl)) (by decide) (by decide)) q2a q2c (g := (mkF m 128 #[.val (.int i0), .val (.long i1), .second, .val (.int (6 : Int32)), .val (.ref w_TAGS), .val (.long (10 : Int64)), .second, .unset, .unset, .unset] [(.long i1), (.ref w_TAGS)])) rfl (by rw [hml]; rfl) (Steps.refl _) (argsL := [(.long i1)]) (rest := []) (lenOf pd_0 rfl) rfl (by show 2 * 0 + _ ≤ _; exact Nat.le_of_eq rfl) (hb hby at_128) (fun _ _ => ⟨rfl, e1, (by decide : 0 + 0 ≤ _), (by decide : 0 + 0 ≤ _)⟩)
  dsimp only [Pt.U, Pt.locs, Pt.cells, Pt.slots] at X2 l2 y2 z2 st2 hQ2
  subst l2 y2 z2
  obtain ⟨rfl, N2q, e2⟩ := hQ2
  have N2 := Fr.app N0 N2q
  obtain ⟨cq3, kq3, q3a, q3b, q3c⟩ := isOf hZ e2 E_TAGS
  obtain ⟨_, _, ⟨T3, L3, k3, n3⟩, -, X3, ⟨Lc3, hQ3, l3, y3, z3⟩, st3⟩ := X2.virtualBack hx (y := (⟨"com/example/verdictlint/verdictlint/sarif/Cap", "dropsSomeOf", "(J)Z"⟩ : MethodName)) (z := (⟨"com/example/verdictlint/verdictlint/sarif/Cap", "dropsSomeOf", "(J)Z"⟩ : MethodName)) hown (mvT hZ (hw _ (List.mem_of_getElem? (i := 5) rfl))) (mvT hZ (hw _ (List.mem_of_getElem? (i := 6) rfl))) (notFace_of_selects (args := #[]) (mvT hZ (hw _ (List.mem_of_getElem? (i := 8) rfl)))) (mvT hZ (hw _ (List.mem_of_getElem? (i := 8) rfl))) (mvT hZ (hw _ (List.mem_of_getElem? (i := 7) rfl))) (by decide) (backOf (W := 0) (rm1_25 l Z a0 hw [] w_RUNS w_RESULTS w_LOCATIONS w_THREAD_FLOW_LOCATIONS w_RULES w_EXTENSIONS w_TAGS  h0 n0 Z0 C ) hZ (hw _ (List.mem_of_getElem? (i := 9) rfl)) (hw _ (List.mem_of_getElem? (i := 2) rfl)) (by decide) (by decide)) q3a q3c (g := (mkF m 157 #[.val (.int i0), .val (.long i1), .second, .val (.int (6 : Int32)), .val (.ref w_TAGS), .val (.long (10 : Int64)), .second, .val (.int (1 : Int32)), .unset, .unset] [(.long (10 : Int64)), (.ref w_TAGS)])) rfl (by rw [hml]; rfl) (Steps.refl _) (argsL := [(.long (10 : Int64))]) (rest := []) (lenOf pd_0 rfl) rfl (by show 2 * 0 + _ ≤ _; exact Nat.le_of_eq rfl) (hb hby at_157) (fun _ _ => ⟨rfl, e2, (by decide : 0 + 0 ≤ _), (by decide : 0 + 0 ≤ _)⟩)
  dsimp only [Pt.U, Pt.locs, Pt.cells, Pt.slots] at X3 l3 y3 z3 st3 hQ3
  subst l3 y3 z3
  obtain ⟨rfl, N3q, e3⟩ := hQ3
  have N3 := Fr.app N2 N3q
  obtain ⟨cq4, kq4, q4a, q4b, q4c⟩ := isOf hZ e3 E_TAGS
  obtain ⟨_, _, ⟨T4, L4, k4, n4⟩, -, X4, ⟨Lc4, hQ4, l4, y4, z4⟩, st4⟩ := X3.virtualBack hx (y := (⟨"com/example/verdictlint/verdictlint/sarif/Cap", "dropsSomeOf", "(J)Z"⟩ : MethodName)) (z := (⟨"com/example/verdictlint/verdictlint/sarif/Cap", "dropsSomeOf", "(J)Z"⟩ : MethodName)) hown (mvT hZ (hw _ (List.mem_of_getElem? (i := 5) rfl))) (mvT hZ (hw _ (List.mem_of_getElem? (i := 6) rfl))) (notFace_of_selects (args := #[]) (mvT hZ (hw _ (List.mem_of_getElem? (i := 8) rfl)))) (mvT hZ (hw _ (List.mem_of_getElem? (i := 8) rfl))) (mvT hZ (hw _ (List.mem_of_getElem? (i := 7) rfl))) (by decide) (backOf (W := 0) (rm1_26 l Z a0 hw [] w_RUNS w_RESULTS w_LOCATIONS w_THREAD_FLOW_LOCATIONS w_RULES w_EXTENSIONS w_TAGS  h0 n0 Z0 C ) hZ (hw _ (List.mem_of_getElem? (i := 9) rfl)) (hw _ (List.mem_of_getElem? (i := 2) rfl)) (by decide) (by decide)) q4a q4c (g := (mkF m 176 #[.val (.int i0), .val (.long i1), .second, .val (.int (6 : Int32)), .val (.ref w_TAGS), .val (.long (10 : Int64)), .second, .val (.int (1 : Int32)), .val (.int (1 : Int32)), .unset] [(.long (11 : Int64)), (.ref w_TAGS)])) rfl (by rw [hml]; rfl) (Steps.refl _) (argsL := [(.long (11 : Int64))]) (rest := []) (lenOf pd_0 rfl) rfl (by show 2 * 0 + _ ≤ _; exact Nat.le_of_eq rfl) (hb hby at_176) (fun _ _ => ⟨rfl, e3, (by decide : 0 + 0 ≤ _), (by decide : 0 + 0 ≤ _)⟩)
  dsimp only [Pt.U, Pt.locs, Pt.cells, Pt.slots] at X4 l4 y4 z4 st4 hQ4
  subst l4 y4 z4
  obtain ⟨rfl, N4q, e4⟩ := hQ4
  have N4 := Fr.app N3 N4q
  obtain ⟨fs, hr, hrun, hended, hW, hsame⟩ := X4.leave (v := (some (.int (1 : Int32)))) (fun h => by rw [Bd.returns] at h; cases h)
  refine ⟨_, _, pre0 _ ?_, hrun, hended, _, _, rfl, ?_, ⟨_, rfl⟩, hW, hsame.mono (by decide) (by decide)⟩
  · show Steps p.tables e below (s₁.setTop (mkF m 0 #[.val (.int i0), .val (.long i1), .second, .unset, .unset, .unset, .unset, .unset, .unset, .unset] [])) _
    refine XS.iloadN X0.here hx rfl (hb hby at_0) rfl ?_
    show Steps p.tables e below (s₁.setTop (mkF m 1 #[.val (.int i0), .val (.long i1), .second, .unset, .unset, .unset, .unset, .unset, .unset, .unset] [(.int i0)])) _
    refine X0.ldcInt hx hown (mvT hZ (hw _ (List.mem_of_getElem? (i := 0) rfl))) (g := (mkF m 1 #[.val (.int i0), .val (.long i1), .second, .unset, .unset, .unset, .unset, .unset, .unset, .unset] [(.int i0)])) rfl (hb hby at_1) _ ?_
    show Steps p.tables e below (s₁.setTop (mkF m 3 #[.val (.int i0), .val (.long i1), .second, .unset, .unset, .unset, .unset, .unset, .unset, .unset] [(.int (2147483647 : Int32)), (.int i0)])) _
    refine XS.iand X0.here hx rfl (hb hby at_3) rfl ?_
    show Steps p.tables e below (s₁.setTop (mkF m 4 #[.val (.int i0), .val (.long i1), .second, .unset, .unset, .unset, .unset, .unset, .unset, .unset] [(.int (i0 &&& (2147483647 : Int32)))])) _
    refine XS.bipush X0.here hx rfl (hb hby at_4) ?_
    show Steps p.tables e below (s₁.setTop (mkF m 6 #[.val (.int i0), .val (.long i1), .second, .unset, .unset, .unset, .unset, .unset, .unset, .unset] [(.int (7 : Int32)), (.int (i0 &&& (2147483647 : Int32)))])) _
    refine iremM (g := (mkF m 6 #[.val (.int i0), .val (.long i1), .second, .unset, .unset, .unset, .unset, .unset, .unset, .unset] [(.int (7 : Int32)), (.int (i0 &&& (2147483647 : Int32)))])) X0 hx rfl (hb hby at_6) rfl (by decide) ?_
    show Steps p.tables e below (s₁.setTop (mkF m 7 #[.val (.int i0), .val (.long i1), .second, .unset, .unset, .unset, .unset, .unset, .unset, .unset] [(.int ((i0 &&& (2147483647 : Int32)) % (7 : Int32)))])) _
    rw [hv0]
    show Steps p.tables e below (s₁.setTop (mkF m 7 #[.val (.int i0), .val (.long i1), .second, .unset, .unset, .unset, .unset, .unset, .unset, .unset] [(.int (6 : Int32))])) _
    refine XS.istoreN X0.here hx rfl (hb hby at_7) rfl (l' := #[.val (.int i0), .val (.long i1), .second, .val (.int (6 : Int32)), .unset, .unset, .unset, .unset, .unset, .unset]) rfl ?_
    show Steps p.tables e below (s₁.setTop (mkF m 8 #[.val (.int i0), .val (.long i1), .second, .val (.int (6 : Int32)), .unset, .unset, .unset, .unset, .unset, .unset] [])) _
    refine XS.iloadN X0.here hx rfl (hb hby at_8) rfl ?_
    show Steps p.tables e below (s₁.setTop (mkF m 9 #[.val (.int i0), .val (.long i1), .second, .val (.int (6 : Int32)), .unset, .unset, .unset, .unset, .unset, .unset] [(.int (6 : Int32))])) _
    refine XS.ifYes X0.here hx rfl (pc0 := 9) (pc' := 25) rfl (hb hby at_9) rfl ((if0 _ _).trans (feq (by decide +kernel : ¬ ((6 : Int32) = (0 : Int32)))).2) (by decide) (by decide) ?_
    show Steps p.tables e below (s₁.setTop (mkF m 25 #[.val (.int i0), .val (.long i1), .second, .val (.int (6 : Int32)), .unset, .unset, .unset, .unset, .unset, .unset] [])) _
    refine XS.iloadN X0.here hx rfl (hb hby at_25) rfl ?_
    show Steps p.tables e below (s₁.setTop (mkF m 26 #[.val (.int i0), .val (.long i1), .second, .val (.int (6 : Int32)), .unset, .unset, .unset, .unset, .unset, .unset] [(.int (6 : Int32))])) _
    refine XS.iconst X0.here hx rfl (hb hby at_26) ?_
    show Steps p.tables e below (s₁.setTop (mkF m 27 #[.val (.int i0), .val (.long i1), .second, .val (.int (6 : Int32)), .unset, .unset, .unset, .unset, .unset, .unset] [(.int (1 : Int32)), (.int (6 : Int32))])) _
    refine XS.icmpYes X0.here hx rfl (pc0 := 27) (pc' := 43) rfl (hb hby at_27) rfl (feq (by decide +kernel : ¬ ((6 : Int32) = (1 : Int32)))).2 (by decide) (by decide) ?_
    show Steps p.tables e below (s₁.setTop (mkF m 43 #[.val (.int i0), .val (.long i1), .second, .val (.int (6 : Int32)), .unset, .unset, .unset, .unset, .unset, .unset] [])) _
    refine XS.iloadN X0.here hx rfl (hb hby at_43) rfl ?_
    show Steps p.tables e below (s₁.setTop (mkF m 44 #[.val (.int i0), .val (.long i1), .second, .val (.int (6 : Int32)), .unset, .unset, .unset, .unset, .unset, .unset] [(.int (6 : Int32))])) _
    refine XS.iconst X0.here hx rfl (hb hby at_44) ?_
    show Steps p.tables e below (s₁.setTop (mkF m 45 #[.val (.int i0), .val (.long i1), .second, .val (.int (6 : Int32)), .unset, .unset, .unset, .unset, .unset, .unset] [(.int (2 : Int32)), (.int (6 : Int32))])) _
    refine XS.icmpYes X0.here hx rfl (pc0 := 45) (pc' := 61) rfl (hb hby at_45) rfl (feq (by decide +kernel : ¬ ((6 : Int32) = (2 : Int32)))).2 (by decide) (by decide) ?_
    show Steps p.tables e below (s₁.setTop (mkF m 61 #[.val (.int i0), .val (.long i1), .second, .val (.int (6 : Int32)), .unset, .unset, .unset, .unset, .unset, .unset] [])) _
    refine XS.iloadN X0.here hx rfl (hb hby at_61) rfl ?_
    show Steps p.tables e below (s₁.setTop (mkF m 62 #[.val (.int i0), .val (.long i1), .second, .val (.int (6 : Int32)), .unset, .unset, .unset, .unset, .unset, .unset] [(.int (6 : Int32))])) _
    refine XS.iconst X0.here hx rfl (hb hby at_62) ?_
    show Steps p.tables e below (s₁.setTop (mkF m 63 #[.val (.int i0), .val (.long i1), .second, .val (.int (6 : Int32)), .unset, .unset, .unset, .unset, .unset, .unset] [(.int (3 : Int32)), (.int (6 : Int32))])) _
    refine XS.icmpYes X0.here hx rfl (pc0 := 63) (pc' := 79) rfl (hb hby at_63) rfl (feq (by decide +kernel : ¬ ((6 : Int32) = (3 : Int32)))).2 (by decide) (by decide) ?_
    show Steps p.tables e below (s₁.setTop (mkF m 79 #[.val (.int i0), .val (.long i1), .second, .val (.int (6 : Int32)), .unset, .unset, .unset, .unset, .unset, .unset] [])) _
    refine XS.iloadN X0.here hx rfl (hb hby at_79) rfl ?_
    show Steps p.tables e below (s₁.setTop (mkF m 80 #[.val (.int i0), .val (.long i1), .second, .val (.int (6 : Int32)), .unset, .unset, .unset, .unset, .unset, .unset] [(.int (6 : Int32))])) _
    refine XS.iconst X0.here hx rfl (hb hby at_80) ?_
    show Steps p.tables e below (s₁.setTop (mkF m 81 #[.val (.int i0), .val (.long i1), .second, .val (.int (6 : Int32)), .unset, .unset, .unset, .unset, .unset, .unset] [(.int (4 : Int32)), (.int (6 : Int32))])) _
    refine XS.icmpYes X0.here hx rfl (pc0 := 81) (pc' := 97) rfl (hb hby at_81) rfl (feq (by decide +kernel : ¬ ((6 : Int32) = (4 : Int32)))).2 (by decide) (by decide) ?_
    show Steps p.tables e below (s₁.setTop (mkF m 97 #[.val (.int i0), .val (.long i1), .second, .val (.int (6 : Int32)), .unset, .unset, .unset, .unset, .unset, .unset] [])) _
    refine XS.iloadN X0.here hx rfl (hb hby at_97) rfl ?_
    show Steps p.tables e below (s₁.setTop (mkF m 98 #[.val (.int i0), .val (.long i1), .second, .val (.int (6 : Int32)), .unset, .unset, .unset, .unset, .unset, .unset] [(.int (6 : Int32))])) _
    refine XS.iconst X0.here hx rfl (hb hby at_98) ?_
    show Steps p.tables e below (s₁.setTop (mkF m 99 #[.val (.int i0), .val (.long i1), .second, .val (.int (6 : Int32)), .unset, .unset, .unset, .unset, .unset, .unset] [(.int (5 : Int32)), (.int (6 : Int32))])) _
    refine XS.icmpYes X0.here hx rfl (pc0 := 99) (pc' := 115) rfl (hb hby at_99) rfl (feq (by decide +kernel : ¬ ((6 : Int32) = (5 : Int32)))).2 (by decide) (by decide) ?_
    show Steps p.tables e below (s₁.setTop (mkF m 115 #[.val (.int i0), .val (.long i1), .second, .val (.int (6 : Int32)), .unset, .unset, .unset, .unset, .unset, .unset] [])) _
    refine st1 _ ?_
    show Steps p.tables e below (T1.setTop (mkF m 118 #[.val (.int i0), .val (.long i1), .second, .val (.int (6 : Int32)), .unset, .unset, .unset, .unset, .unset, .unset] [(.ref w_TAGS)])) _
    refine XS.astore X1.here hx rfl (hb hby at_118) rfl rfl (l' := #[.val (.int i0), .val (.long i1), .second, .val (.int (6 : Int32)), .val (.ref w_TAGS), .unset, .unset, .unset, .unset, .unset]) rfl ?_
    show Steps p.tables e below (T1.setTop (mkF m 120 #[.val (.int i0), .val (.long i1), .second, .val (.int (6 : Int32)), .val (.ref w_TAGS), .unset, .unset, .unset, .unset, .unset] [])) _
    refine X1.ldc2Long hx hown (mvT hZ (hw _ (List.mem_of_getElem? (i := 27) rfl))) (g := (mkF m 120 #[.val (.int i0), .val (.long i1), .second, .val (.int (6 : Int32)), .val (.ref w_TAGS), .unset, .unset, .unset, .unset, .unset] [])) rfl (hb hby at_120) _ ?_
    show Steps p.tables e below (T1.setTop (mkF m 123 #[.val (.int i0), .val (.long i1), .second, .val (.int (6 : Int32)), .val (.ref w_TAGS), .unset, .unset, .unset, .unset, .unset] [(.long (10 : Int64))])) _
    refine XS.lstore X1.here hx rfl (hb hby at_123) rfl (l' := #[.val (.int i0), .val (.long i1), .second, .val (.int (6 : Int32)), .val (.ref w_TAGS), .val (.long (10 : Int64)), .second, .unset, .unset, .unset]) rfl ?_
    show Steps p.tables e below (T1.setTop (mkF m 125 #[.val (.int i0), .val (.long i1), .second, .val (.int (6 : Int32)), .val (.ref w_TAGS), .val (.long (10 : Int64)), .second, .unset, .unset, .unset] [])) _
    refine XS.aload X1.here hx rfl (hb hby at_125) rfl rfl ?_
    show Steps p.tables e below (T1.setTop (mkF m 127 #[.val (.int i0), .val (.long i1), .second, .val (.int (6 : Int32)), .val (.ref w_TAGS), .val (.long (10 : Int64)), .second, .unset, .unset, .unset] [(.ref w_TAGS)])) _
    refine XS.lloadN X1.here hx rfl (hb hby at_127) rfl ?_
    show Steps p.tables e below (T1.setTop (mkF m 128 #[.val (.int i0), .val (.long i1), .second, .val (.int (6 : Int32)), .val (.ref w_TAGS), .val (.long (10 : Int64)), .second, .unset, .unset, .unset] [(.long i1), (.ref w_TAGS)])) _
    refine st2.trans ?_
    show Steps p.tables e below (T2.setTop (mkF m 131 #[.val (.int i0), .val (.long i1), .second, .val (.int (6 : Int32)), .val (.ref w_TAGS), .val (.long (10 : Int64)), .second, .unset, .unset, .unset] [(.int (1 : Int32))])) _
    refine XS.lloadN X2.here hx rfl (hb hby at_131) rfl ?_
    show Steps p.tables e below (T2.setTop (mkF m 132 #[.val (.int i0), .val (.long i1), .second, .val (.int (6 : Int32)), .val (.ref w_TAGS), .val (.long (10 : Int64)), .second, .unset, .unset, .unset] [(.long i1), (.int (1 : Int32))])) _
    refine XS.lload X2.here hx rfl (hb hby at_132) rfl ?_
    show Steps p.tables e below (T2.setTop (mkF m 134 #[.val (.int i0), .val (.long i1), .second, .val (.int (6 : Int32)), .val (.ref w_TAGS), .val (.long (10 : Int64)), .second, .unset, .unset, .unset] [(.long (10 : Int64)), (.long i1), (.int (1 : Int32))])) _
    refine XS.lcmp X2.here hx rfl (hb hby at_134) rfl ?_
    show Steps p.tables e below (T2.setTop (mkF m 135 #[.val (.int i0), .val (.long i1), .second, .val (.int (6 : Int32)), .val (.ref w_TAGS), .val (.long (10 : Int64)), .second, .unset, .unset, .unset] [(.int (lcmpW i1 (10 : Int64))), (.int (1 : Int32))])) _
    refine XS.ifNo X2.here hx rfl (hb hby at_135) rfl ((if0 _ _).trans (tlt hv1).2.2.2) ?_
    show Steps p.tables e below (T2.setTop (mkF m 138 #[.val (.int i0), .val (.long i1), .second, .val (.int (6 : Int32)), .val (.ref w_TAGS), .val (.long (10 : Int64)), .second, .unset, .unset, .unset] [(.int (1 : Int32))])) _
    refine XS.iconst X2.here hx rfl (hb hby at_138) ?_
    show Steps p.tables e below (T2.setTop (mkF m 139 #[.val (.int i0), .val (.long i1), .second, .val (.int (6 : Int32)), .val (.ref w_TAGS), .val (.long (10 : Int64)), .second, .unset, .unset, .unset] [(.int (1 : Int32)), (.int (1 : Int32))])) _
    refine XS.goto X2.here hx rfl (pc0 := 139) (pc' := 143) rfl (hb hby at_139) (by decide) (by decide) ?_
    show Steps p.tables e below (T2.setTop (mkF m 143 #[.val (.int i0), .val (.long i1), .second, .val (.int (6 : Int32)), .val (.ref w_TAGS), .val (.long (10 : Int64)), .second, .unset, .unset, .unset] [(.int (1 : Int32)), (.int (1 : Int32))])) _
    refine XS.icmpNo X2.here hx rfl (hb hby at_143) rfl (teq (by decide +kernel : (1 : Int32) = (1 : Int32))).2 ?_
    show Steps p.tables e below (T2.setTop (mkF m 146 #[.val (.int i0), .val (.long i1), .second, .val (.int (6 : Int32)), .val (.ref w_TAGS), .val (.long (10 : Int64)), .second, .unset, .unset, .unset] [])) _
    refine XS.iconst X2.here hx rfl (hb hby at_146) ?_
    show Steps p.tables e below (T2.setTop (mkF m 147 #[.val (.int i0), .val (.long i1), .second, .val (.int (6 : Int32)), .val (.ref w_TAGS), .val (.long (10 : Int64)), .second, .unset, .unset, .unset] [(.int (1 : Int32))])) _
    refine XS.goto X2.here hx rfl (pc0 := 147) (pc' := 151) rfl (hb hby at_147) (by decide) (by decide) ?_
    show Steps p.tables e below (T2.setTop (mkF m 151 #[.val (.int i0), .val (.long i1), .second, .val (.int (6 : Int32)), .val (.ref w_TAGS), .val (.long (10 : Int64)), .second, .unset, .unset, .unset] [(.int (1 : Int32))])) _
    refine XS.istore X2.here hx rfl (hb hby at_151) rfl (l' := #[.val (.int i0), .val (.long i1), .second, .val (.int (6 : Int32)), .val (.ref w_TAGS), .val (.long (10 : Int64)), .second, .val (.int (1 : Int32)), .unset, .unset]) rfl ?_
    show Steps p.tables e below (T2.setTop (mkF m 153 #[.val (.int i0), .val (.long i1), .second, .val (.int (6 : Int32)), .val (.ref w_TAGS), .val (.long (10 : Int64)), .second, .val (.int (1 : Int32)), .unset, .unset] [])) _
    refine XS.aload X2.here hx rfl (hb hby at_153) rfl rfl ?_
    show Steps p.tables e below (T2.setTop (mkF m 155 #[.val (.int i0), .val (.long i1), .second, .val (.int (6 : Int32)), .val (.ref w_TAGS), .val (.long (10 : Int64)), .second, .val (.int (1 : Int32)), .unset, .unset] [(.ref w_TAGS)])) _
    refine XS.lload X2.here hx rfl (hb hby at_155) rfl ?_
    show Steps p.tables e below (T2.setTop (mkF m 157 #[.val (.int i0), .val (.long i1), .second, .val (.int (6 : Int32)), .val (.ref w_TAGS), .val (.long (10 : Int64)), .second, .val (.int (1 : Int32)), .unset, .unset] [(.long (10 : Int64)), (.ref w_TAGS)])) _
    refine st3.trans ?_
    show Steps p.tables e below (T3.setTop (mkF m 160 #[.val (.int i0), .val (.long i1), .second, .val (.int (6 : Int32)), .val (.ref w_TAGS), .val (.long (10 : Int64)), .second, .val (.int (1 : Int32)), .unset, .unset] [(.int (0 : Int32))])) _
    refine XS.ifNo X3.here hx rfl (hb hby at_160) rfl ((if0 _ _).trans (teq (by decide +kernel : (0 : Int32) = (0 : Int32))).2) ?_
    show Steps p.tables e below (T3.setTop (mkF m 163 #[.val (.int i0), .val (.long i1), .second, .val (.int (6 : Int32)), .val (.ref w_TAGS), .val (.long (10 : Int64)), .second, .val (.int (1 : Int32)), .unset, .unset] [])) _
    refine XS.iconst X3.here hx rfl (hb hby at_163) ?_
    show Steps p.tables e below (T3.setTop (mkF m 164 #[.val (.int i0), .val (.long i1), .second, .val (.int (6 : Int32)), .val (.ref w_TAGS), .val (.long (10 : Int64)), .second, .val (.int (1 : Int32)), .unset, .unset] [(.int (1 : Int32))])) _
    refine XS.goto X3.here hx rfl (pc0 := 164) (pc' := 168) rfl (hb hby at_164) (by decide) (by decide) ?_
    show Steps p.tables e below (T3.setTop (mkF m 168 #[.val (.int i0), .val (.long i1), .second, .val (.int (6 : Int32)), .val (.ref w_TAGS), .val (.long (10 : Int64)), .second, .val (.int (1 : Int32)), .unset, .unset] [(.int (1 : Int32))])) _
    refine XS.istore X3.here hx rfl (hb hby at_168) rfl (l' := #[.val (.int i0), .val (.long i1), .second, .val (.int (6 : Int32)), .val (.ref w_TAGS), .val (.long (10 : Int64)), .second, .val (.int (1 : Int32)), .val (.int (1 : Int32)), .unset]) rfl ?_
    show Steps p.tables e below (T3.setTop (mkF m 170 #[.val (.int i0), .val (.long i1), .second, .val (.int (6 : Int32)), .val (.ref w_TAGS), .val (.long (10 : Int64)), .second, .val (.int (1 : Int32)), .val (.int (1 : Int32)), .unset] [])) _
    refine XS.aload X3.here hx rfl (hb hby at_170) rfl rfl ?_
    show Steps p.tables e below (T3.setTop (mkF m 172 #[.val (.int i0), .val (.long i1), .second, .val (.int (6 : Int32)), .val (.ref w_TAGS), .val (.long (10 : Int64)), .second, .val (.int (1 : Int32)), .val (.int (1 : Int32)), .unset] [(.ref w_TAGS)])) _
    refine XS.lload X3.here hx rfl (hb hby at_172) rfl ?_
    show Steps p.tables e below (T3.setTop (mkF m 174 #[.val (.int i0), .val (.long i1), .second, .val (.int (6 : Int32)), .val (.ref w_TAGS), .val (.long (10 : Int64)), .second, .val (.int (1 : Int32)), .val (.int (1 : Int32)), .unset] [(.long (10 : Int64)), (.ref w_TAGS)])) _
    refine XS.lconst X3.here hx rfl (hb hby at_174) ?_
    show Steps p.tables e below (T3.setTop (mkF m 175 #[.val (.int i0), .val (.long i1), .second, .val (.int (6 : Int32)), .val (.ref w_TAGS), .val (.long (10 : Int64)), .second, .val (.int (1 : Int32)), .val (.int (1 : Int32)), .unset] [(.long (1 : Int64)), (.long (10 : Int64)), (.ref w_TAGS)])) _
    refine XS.ladd X3.here hx rfl (hb hby at_175) rfl ?_
    show Steps p.tables e below (T3.setTop (mkF m 176 #[.val (.int i0), .val (.long i1), .second, .val (.int (6 : Int32)), .val (.ref w_TAGS), .val (.long (10 : Int64)), .second, .val (.int (1 : Int32)), .val (.int (1 : Int32)), .unset] [(.long ((10 : Int64) + (1 : Int64))), (.ref w_TAGS)])) _
    rw [show ((10 : Int64) + (1 : Int64)) = (11 : Int64) from by decide +kernel]
    show Steps p.tables e below (T3.setTop (mkF m 176 #[.val (.int i0), .val (.long i1), .second, .val (.int (6 : Int32)), .val (.ref w_TAGS), .val (.long (10 : Int64)), .second, .val (.int (1 : Int32)), .val (.int (1 : Int32)), .unset] [(.long (11 : Int64)), (.ref w_TAGS)])) _
    refine st4.trans ?_
    show Steps p.tables e below (T4.setTop (mkF m 179 #[.val (.int i0), .val (.long i1), .second, .val (.int (6 : Int32)), .val (.ref w_TAGS), .val (.long (10 : Int64)), .second, .val (.int (1 : Int32)), .val (.int (1 : Int32)), .unset] [(.int (1 : Int32))])) _
    refine XS.istore X4.here hx rfl (hb hby at_179) rfl (l' := #[.val (.int i0), .val (.long i1), .second, .val (.int (6 : Int32)), .val (.ref w_TAGS), .val (.long (10 : Int64)), .second, .val (.int (1 : Int32)), .val (.int (1 : Int32)), .val (.int (1 : Int32))]) rfl ?_
    show Steps p.tables e below (T4.setTop (mkF m 181 #[.val (.int i0), .val (.long i1), .second, .val (.int (6 : Int32)), .val (.ref w_TAGS), .val (.long (10 : Int64)), .second, .val (.int (1 : Int32)), .val (.int (1 : Int32)), .val (.int (1 : Int32))] [])) _
    refine XS.iload X4.here hx rfl (hb hby at_181) rfl ?_
    show Steps p.tables e below (T4.setTop (mkF m 183 #[.val (.int i0), .val (.long i1), .second, .val (.int (6 : Int32)), .val (.ref w_TAGS), .val (.long (10 : Int64)), .second, .val (.int (1 : Int32)), .val (.int (1 : Int32)), .val (.int (1 : Int32))] [(.int (1 : Int32))])) _
    refine XS.ifNo X4.here hx rfl (hb hby at_183) rfl ((if0 _ _).trans (feq (by decide +kernel : ¬ ((1 : Int32) = (0 : Int32)))).1) ?_
    show Steps p.tables e below (T4.setTop (mkF m 186 #[.val (.int i0), .val (.long i1), .second, .val (.int (6 : Int32)), .val (.ref w_TAGS), .val (.long (10 : Int64)), .second, .val (.int (1 : Int32)), .val (.int (1 : Int32)), .val (.int (1 : Int32))] [])) _
    refine XS.iload X4.here hx rfl (hb hby at_186) rfl ?_
    show Steps p.tables e below (T4.setTop (mkF m 188 #[.val (.int i0), .val (.long i1), .second, .val (.int (6 : Int32)), .val (.ref w_TAGS), .val (.long (10 : Int64)), .second, .val (.int (1 : Int32)), .val (.int (1 : Int32)), .val (.int (1 : Int32))] [(.int (1 : Int32))])) _
    refine XS.ifNo X4.here hx rfl (hb hby at_188) rfl ((if0 _ _).trans (feq (by decide +kernel : ¬ ((1 : Int32) = (0 : Int32)))).1) ?_
    show Steps p.tables e below (T4.setTop (mkF m 191 #[.val (.int i0), .val (.long i1), .second, .val (.int (6 : Int32)), .val (.ref w_TAGS), .val (.long (10 : Int64)), .second, .val (.int (1 : Int32)), .val (.int (1 : Int32)), .val (.int (1 : Int32))] [])) _
    refine XS.iload X4.here hx rfl (hb hby at_191) rfl ?_
    show Steps p.tables e below (T4.setTop (mkF m 193 #[.val (.int i0), .val (.long i1), .second, .val (.int (6 : Int32)), .val (.ref w_TAGS), .val (.long (10 : Int64)), .second, .val (.int (1 : Int32)), .val (.int (1 : Int32)), .val (.int (1 : Int32))] [(.int (1 : Int32))])) _
    refine XS.ifNo X4.here hx rfl (hb hby at_193) rfl ((if0 _ _).trans (feq (by decide +kernel : ¬ ((1 : Int32) = (0 : Int32)))).1) ?_
    show Steps p.tables e below (T4.setTop (mkF m 196 #[.val (.int i0), .val (.long i1), .second, .val (.int (6 : Int32)), .val (.ref w_TAGS), .val (.long (10 : Int64)), .second, .val (.int (1 : Int32)), .val (.int (1 : Int32)), .val (.int (1 : Int32))] [])) _
    refine XS.iconst X4.here hx rfl (hb hby at_196) ?_
    show Steps p.tables e below (T4.setTop (mkF m 197 #[.val (.int i0), .val (.long i1), .second, .val (.int (6 : Int32)), .val (.ref w_TAGS), .val (.long (10 : Int64)), .second, .val (.int (1 : Int32)), .val (.int (1 : Int32)), .val (.int (1 : Int32))] [(.int (1 : Int32))])) _
    refine XS.goto X4.here hx rfl (pc0 := 197) (pc' := 201) rfl (hb hby at_197) (by decide) (by decide) ?_
    show Steps p.tables e below (T4.setTop (mkF m 201 #[.val (.int i0), .val (.long i1), .second, .val (.int (6 : Int32)), .val (.ref w_TAGS), .val (.long (10 : Int64)), .second, .val (.int (1 : Int32)), .val (.int (1 : Int32)), .val (.int (1 : Int32))] [(.int (1 : Int32))])) _
    exact retN X4 hx (t := .boolean) Bd.returns (by simp) (hb hby at_201) hr
  · exact ⟨rfl, N4, e4⟩
set_option maxRecDepth 65536 in
set_option maxHeartbeats 40000000 in
theorem rm1_27 (l : Launch) (Z : State) (a0 : Array Value) (hw : ∀ d ∈ tables_1, d.before a0 Z = true) (ws : List Jvm.Cond) (w_RUNS w_RESULTS w_LOCATIONS w_THREAD_FLOW_LOCATIONS w_RULES w_EXTENSIONS w_TAGS : Addr) (i0 : Int32) (i1 : Int64) (h0 : Heap) (n0 : Nat) (Z0 : n0 ≤ h0.size) (C : Ctx Z h0 w_RUNS w_RESULTS w_LOCATIONS w_THREAD_FLOW_LOCATIONS w_RULES w_EXTENSIONS w_TAGS) (hv0 : ((i0 &&& (2147483647 : Int32)) % (7 : Int32)) = (6 : Int32)) (hv1 : ¬ ((0 : Int32) < (lcmpW i1 (10 : Int64)))) :
    MetFree l (⟨"com/example/verdictlint/verdictlint/sarif/Cap", "dropsSomeOf", "(J)Z"⟩ : MethodName) (head1 (Jvm.Cond.code (⟨"com/example/verdictlint/verdictlint/sarif/Cap", "dropsSomeOf", "(J)Z"⟩ : MethodName) prog_26_method_8_code 3 (some .boolean) :: ws) ({ frames := 0, cells := 0, slots := 0, locals := 0 } : Room)) (fun a U => a = #[(.ref w_TAGS), (.long i1)] ∧ Z.Warmed39 U.vm ∧ U.heap = h0) (fun _ _ _ _ _ => True) (fun _ U o U' => ∃ v L, o = .returned v ∧ QR h0 n0 (some (.int (0 : Int32))) v U'.heap L ∧ FrameEnd U o U' L ({ frames := 0, cells := 0, slots := 0, locals := 0 } : Room).cells ({ frames := 0, cells := 0, slots := 0, locals := 0 } : Room).slots) := by
  have F_TAGS_kept := C.2.2.2.2.2.2.2.2.2.2.2.2.2.2.2.2.2.2.2.2.1
  refine MetFree.of_bodySF (plainFor_of_name pn_1) hisR ?_
  intro p e s m args below meth c s₁ Bd hml0 hP hK
  obtain ⟨rfl, hZ, hh⟩ := hP
  have hx := Bd.exec
  have hby := Bd.bytes
  have hml : c.maxLocals = 3 := hml0
  have hown : s.vm.findClass "com/example/verdictlint/verdictlint/sarif/Cap" = some m.cls := findClass_of_methodNamed Bd.named
  have hnm := (name_of_methodNamed Bd.named Bd.method).1
  have X0 : Stand p l e ({ frames := 0, cells := 0, slots := 0, locals := 0 } : Room) s m #[(.ref w_TAGS), (.long i1)] below meth c s₁ [] 0 0 := Stand.of_body Bd
  have e0 : s₁.heap = h0 := by rw [← hh, Bd.state]; rfl
  have N0 := Fr.nil n0
  have pre0 : ∀ t, Steps p.tables e below (s₁.setTop (mkF m 0 #[.val (.ref w_TAGS), .val (.long i1), .second] [])) t → Steps p.tables e below (s₁.setTop (entryFrame m #[(.ref w_TAGS), (.long i1)] 3)) t := fun t k => castTop (ef_1 m w_TAGS i1) k
  obtain ⟨T1, X1, e1, st1⟩ := getF X0 hx hZ hown (host := "") (Or.inl (hw _ (List.mem_of_getElem? (i := 10) rfl))) Via.refl e0 F_TAGS_kept (g := (mkF m 2 #[.val (.ref w_TAGS), .val (.long i1), .second] [(.ref w_TAGS), (.long i1)])) rfl rfl (hb hby d1_2)
  obtain ⟨fs, hr, hrun, hended, hW, hsame⟩ := X1.leave (v := (some (.int (0 : Int32)))) (fun h => by rw [Bd.returns] at h; cases h)
  refine ⟨_, _, pre0 _ ?_, hrun, hended, _, _, rfl, ?_, ⟨_, rfl⟩, hW, hsame.mono (by decide) (by decide)⟩
  · show Steps p.tables e below (s₁.setTop (mkF m 0 #[.val (.ref w_TAGS), .val (.long i1), .second] [])) _
    refine XS.lloadN X0.here hx rfl (hb hby d1_0) rfl ?_
    show Steps p.tables e below (s₁.setTop (mkF m 1 #[.val (.ref w_TAGS), .val (.long i1), .second] [(.long i1)])) _
    refine XS.aloadN X0.here hx rfl (hb hby d1_1) rfl rfl ?_
    show Steps p.tables e below (s₁.setTop (mkF m 2 #[.val (.ref w_TAGS), .val (.long i1), .second] [(.ref w_TAGS), (.long i1)])) _
    refine st1 _ ?_
    show Steps p.tables e below (T1.setTop (mkF m 5 #[.val (.ref w_TAGS), .val (.long i1), .second] [(.long (10 : Int64)), (.long i1)])) _
    refine XS.lcmp X1.here hx rfl (hb hby d1_5) rfl ?_
    show Steps p.tables e below (T1.setTop (mkF m 6 #[.val (.ref w_TAGS), .val (.long i1), .second] [(.int (lcmpW i1 (10 : Int64)))])) _
    refine XS.ifYes X1.here hx rfl (pc0 := 6) (pc' := 13) rfl (hb hby d1_6) rfl ((if0 _ _).trans (flt hv1).2.2.2) (by decide) (by decide) ?_
    show Steps p.tables e below (T1.setTop (mkF m 13 #[.val (.ref w_TAGS), .val (.long i1), .second] [])) _
    refine XS.iconst X1.here hx rfl (hb hby d1_13) ?_
    show Steps p.tables e below (T1.setTop (mkF m 14 #[.val (.ref w_TAGS), .val (.long i1), .second] [(.int (0 : Int32))])) _
    exact retN X1 hx (t := .boolean) Bd.returns (by simp) (hb hby d1_14) hr
  · exact ⟨rfl, N0, e1⟩
set_option maxRecDepth 65536 in
set_option maxHeartbeats 40000000 in
theorem rm0_13 (l : Launch) (Z : State) (a0 : Array Value) (hw : ∀ d ∈ tables_1, d.before a0 Z = true) (ws : List Jvm.Cond) (w_RUNS w_RESULTS w_LOCATIONS w_THREAD_FLOW_LOCATIONS w_RULES w_EXTENSIONS w_TAGS : Addr) (i0 : Int32) (i1 : Int64) (h0 : Heap) (n0 : Nat) (Z0 : n0 ≤ h0.size) (C : Ctx Z h0 w_RUNS w_RESULTS w_LOCATIONS w_THREAD_FLOW_LOCATIONS w_RULES w_EXTENSIONS w_TAGS) (hv0 : ((i0 &&& (2147483647 : Int32)) % (7 : Int32)) = (6 : Int32)) (hv1 : ¬ ((0 : Int32) < (lcmpW i1 (10 : Int64)))) :
    MetFree l x (head1 (Jvm.Cond.code x code maxLocals ret :: ws) room_1) (fun a U => a = #[(.int i0), (.long i1)] ∧ Z.Warmed39 U.vm ∧ U.heap = h0) (fun _ _ _ _ _ => True) (fun _ U o U' => ∃ v L, o = .returned v ∧ QR h0 n0 (some (.int (1 : Int32))) v U'.heap L ∧ FrameEnd U o U' L room_1.cells room_1.slots) := by
  have S_TAGS := C.2.2.2.2.2.2.2.2.2.2.2.2.2.2.2.2.2.2.1
  have E_TAGS := C.2.2.2.2.2.2.2.2.2.2.2.2.2.2.2.2.2.2.2.1
  refine MetFree.of_bodySF (plainFor_of_name pn_0) hisR ?_
  intro p e s m args below meth c s₁ Bd hml0 hP hK
  obtain ⟨rfl, hZ, hh⟩ := hP
  have hx := Bd.exec
  have hby := Bd.bytes
  have hml : c.maxLocals = 10 := hml0
  have hown : s.vm.findClass "com/example/verdictlint/verdictlint/sarif/CapDropsSomeOfPinLaw" = some m.cls := findClass_of_methodNamed Bd.named
  have hnm := (name_of_methodNamed Bd.named Bd.method).1
  have X0 : Stand p l e room_1 s m #[(.int i0), (.long i1)] below meth c s₁ [] 0 0 := Stand.of_body Bd
  have e0 : s₁.heap = h0 := by rw [← hh, Bd.state]; rfl
  have N0 := Fr.nil n0
  have pre0 : ∀ t, Steps p.tables e below (s₁.setTop (mkF m 0 #[.val (.int i0), .val (.long i1), .second, .unset, .unset, .unset, .unset, .unset, .unset, .unset] [])) t → Steps p.tables e below (s₁.setTop (entryFrame m #[(.int i0), (.long i1)] maxLocals)) t := fun t k => castTop (ef_0 m i0 i1) k
  obtain ⟨T1, X1, e1, st1⟩ := getS2 X0 hx hZ hown (host := "") (Or.inl (hw _ (List.mem_of_getElem? (i := 25) rfl))) Via.refl e0 S_TAGS (g := (mkF m 115 #[.val (.int i0), .val (.long i1), .second, .val (.int (6 : Int32)), .unset, .unset, .unset, .unset, .unset, .unset] [])) rfl (hb hby at_115)
  obtain ⟨cq2, kq2, q2a, q2b, q2c⟩ := isOf hZ e1 E_TAGS
  obtain ⟨_, _, ⟨T2, L2, k2, n2⟩, -, X2, ⟨Lc2, hQ2, l2, y2, z2⟩, st2⟩ := X1.virtualBack hx (y := (⟨"com/example/verdictlint/verdictlint/sarif/Cap", "dropsSomeOf", "(J)Z"⟩ : MethodName)) (z := (⟨"com/example/verdictlint/verdictlint/sarif/Cap", "dropsSomeOf", "(J)Z"⟩ : MethodName)) hown (mvT hZ (hw _ (List.mem_of_getElem? (i := 5) rfl))) (mvT hZ (hw _ (List.mem_of_getElem? (i := 6) rfl))) (notFace_of_selects (args := #[]) (mvT hZ (hw _ (List.mem_of_getElem? (i := 8) rfl)))) (mvT hZ (hw _ (List.mem_of_getElem? (i := 8) rfl))) (mvT hZ (hw _ (List.mem_of_getElem? (i := 7) rfl))) (by decide) (backOf (W := 0) (rm1_27 l Z a0 hw [] w_RUNS w_RESULTS w_LOCATIONS w_THREAD_FLOW_LOCATIONS w_RULES w_EXTENSIONS w_TAGS i0 i1 h0 n0 Z0 C hv0 hv1) hZ (hw _ (List.mem_of_getElem? (i := 9) rfl)) (hw _ (List.mem_of_getElem? (i := 2) rfl)) (by decide) (by decide)) q2a q2c (g := (mkF m 128 #[.val (.int i0), .val (.long i1), .second, .val (.int (6 : Int32)), .val (.ref w_TAGS), .val (.long (10 : Int64)), .second, .unset, .unset, .unset] [(.long i1), (.ref w_TAGS)])) rfl (by rw [hml]; rfl) (Steps.refl _) (argsL := [(.long i1)]) (rest := []) (lenOf pd_0 rfl) rfl (by show 2 * 0 + _ ≤ _; exact Nat.le_of_eq rfl) (hb hby at_128) (fun _ _ => ⟨rfl, e1, (by decide : 0 + 0 ≤ _), (by decide : 0 + 0 ≤ _)⟩)
  dsimp only [Pt.U, Pt.locs, Pt.cells, Pt.slots] at X2 l2 y2 z2 st2 hQ2
  subst l2 y2 z2
  obtain ⟨rfl, N2q, e2⟩ := hQ2
  have N2 := Fr.app N0 N2q
  obtain ⟨cq3, kq3, q3a, q3b, q3c⟩ := isOf hZ e2 E_TAGS
  obtain ⟨_, _, ⟨T3, L3, k3, n3⟩, -, X3, ⟨Lc3, hQ3, l3, y3, z3⟩, st3⟩ := X2.virtualBack hx (y := (⟨"com/example/verdictlint/verdictlint/sarif/Cap", "dropsSomeOf", "(J)Z"⟩ : MethodName)) (z := (⟨"com/example/verdictlint/verdictlint/sarif/Cap", "dropsSomeOf", "(J)Z"⟩ : MethodName)) hown (mvT hZ (hw _ (List.mem_of_getElem? (i := 5) rfl))) (mvT hZ (hw _ (List.mem_of_getElem? (i := 6) rfl))) (notFace_of_selects (args := #[]) (mvT hZ (hw _ (List.mem_of_getElem? (i := 8) rfl)))) (mvT hZ (hw _ (List.mem_of_getElem? (i := 8) rfl))) (mvT hZ (hw _ (List.mem_of_getElem? (i := 7) rfl))) (by decide) (backOf (W := 0) (rm1_25 l Z a0 hw [] w_RUNS w_RESULTS w_LOCATIONS w_THREAD_FLOW_LOCATIONS w_RULES w_EXTENSIONS w_TAGS  h0 n0 Z0 C ) hZ (hw _ (List.mem_of_getElem? (i := 9) rfl)) (hw _ (List.mem_of_getElem? (i := 2) rfl)) (by decide) (by decide)) q3a q3c (g := (mkF m 157 #[.val (.int i0), .val (.long i1), .second, .val (.int (6 : Int32)), .val (.ref w_TAGS), .val (.long (10 : Int64)), .second, .val (.int (1 : Int32)), .unset, .unset] [(.long (10 : Int64)), (.ref w_TAGS)])) rfl (by rw [hml]; rfl) (Steps.refl _) (argsL := [(.long (10 : Int64))]) (rest := []) (lenOf pd_0 rfl) rfl (by show 2 * 0 + _ ≤ _; exact Nat.le_of_eq rfl) (hb hby at_157) (fun _ _ => ⟨rfl, e2, (by decide : 0 + 0 ≤ _), (by decide : 0 + 0 ≤ _)⟩)
  dsimp only [Pt.U, Pt.locs, Pt.cells, Pt.slots] at X3 l3 y3 z3 st3 hQ3
  subst l3 y3 z3
  obtain ⟨rfl, N3q, e3⟩ := hQ3
  have N3 := Fr.app N2 N3q
  obtain ⟨cq4, kq4, q4a, q4b, q4c⟩ := isOf hZ e3 E_TAGS
  obtain ⟨_, _, ⟨T4, L4, k4, n4⟩, -, X4, ⟨Lc4, hQ4, l4, y4, z4⟩, st4⟩ := X3.virtualBack hx (y := (⟨"com/example/verdictlint/verdictlint/sarif/Cap", "dropsSomeOf", "(J)Z"⟩ : MethodName)) (z := (⟨"com/example/verdictlint/verdictlint/sarif/Cap", "dropsSomeOf", "(J)Z"⟩ : MethodName)) hown (mvT hZ (hw _ (List.mem_of_getElem? (i := 5) rfl))) (mvT hZ (hw _ (List.mem_of_getElem? (i := 6) rfl))) (notFace_of_selects (args := #[]) (mvT hZ (hw _ (List.mem_of_getElem? (i := 8) rfl)))) (mvT hZ (hw _ (List.mem_of_getElem? (i := 8) rfl))) (mvT hZ (hw _ (List.mem_of_getElem? (i := 7) rfl))) (by decide) (backOf (W := 0) (rm1_26 l Z a0 hw [] w_RUNS w_RESULTS w_LOCATIONS w_THREAD_FLOW_LOCATIONS w_RULES w_EXTENSIONS w_TAGS  h0 n0 Z0 C ) hZ (hw _ (List.mem_of_getElem? (i := 9) rfl)) (hw _ (List.mem_of_getElem? (i := 2) rfl)) (by decide) (by decide)) q4a q4c (g := (mkF m 176 #[.val (.int i0), .val (.long i1), .second, .val (.int (6 : Int32)), .val (.ref w_TAGS), .val (.long (10 : Int64)), .second, .val (.int (1 : Int32)), .val (.int (1 : Int32)), .unset] [(.long (11 : Int64)), (.ref w_TAGS)])) rfl (by rw [hml]; rfl) (Steps.refl _) (argsL := [(.long (11 : Int64))]) (rest := []) (lenOf pd_0 rfl) rfl (by show 2 * 0 + _ ≤ _; exact Nat.le_of_eq rfl) (hb hby at_176) (fun _ _ => ⟨rfl, e3, (by decide : 0 + 0 ≤ _), (by decide : 0 + 0 ≤ _)⟩)
  dsimp only [Pt.U, Pt.locs, Pt.cells, Pt.slots] at X4 l4 y4 z4 st4 hQ4
  subst l4 y4 z4
  obtain ⟨rfl, N4q, e4⟩ := hQ4
  have N4 := Fr.app N3 N4q
  obtain ⟨fs, hr, hrun, hended, hW, hsame⟩ := X4.leave (v := (some (.int (1 : Int32)))) (fun h => by rw [Bd.returns] at h; cases h)
  refine ⟨_, _, pre0 _ ?_, hrun, hended, _, _, rfl, ?_, ⟨_, rfl⟩, hW, hsame.mono (by decide) (by decide)⟩
  · show Steps p.tables e below (s₁.setTop (mkF m 0 #[.val (.int i0), .val (.long i1), .second, .unset, .unset, .unset, .unset, .unset, .unset, .unset] [])) _
    refine XS.iloadN X0.here hx rfl (hb hby at_0) rfl ?_
    show Steps p.tables e below (s₁.setTop (mkF m 1 #[.val (.int i0), .val (.long i1), .second, .unset, .unset, .unset, .unset, .unset, .unset, .unset] [(.int i0)])) _
    refine X0.ldcInt hx hown (mvT hZ (hw _ (List.mem_of_getElem? (i := 0) rfl))) (g := (mkF m 1 #[.val (.int i0), .val (.long i1), .second, .unset, .unset, .unset, .unset, .unset, .unset, .unset] [(.int i0)])) rfl (hb hby at_1) _ ?_
    show Steps p.tables e below (s₁.setTop (mkF m 3 #[.val (.int i0), .val (.long i1), .second, .unset, .unset, .unset, .unset, .unset, .unset, .unset] [(.int (2147483647 : Int32)), (.int i0)])) _
    refine XS.iand X0.here hx rfl (hb hby at_3) rfl ?_
    show Steps p.tables e below (s₁.setTop (mkF m 4 #[.val (.int i0), .val (.long i1), .second, .unset, .unset, .unset, .unset, .unset, .unset, .unset] [(.int (i0 &&& (2147483647 : Int32)))])) _
    refine XS.bipush X0.here hx rfl (hb hby at_4) ?_
    show Steps p.tables e below (s₁.setTop (mkF m 6 #[.val (.int i0), .val (.long i1), .second, .unset, .unset, .unset, .unset, .unset, .unset, .unset] [(.int (7 : Int32)), (.int (i0 &&& (2147483647 : Int32)))])) _
    refine iremM (g := (mkF m 6 #[.val (.int i0), .val (.long i1), .second, .unset, .unset, .unset, .unset, .unset, .unset, .unset] [(.int (7 : Int32)), (.int (i0 &&& (2147483647 : Int32)))])) X0 hx rfl (hb hby at_6) rfl (by decide) ?_
    show Steps p.tables e below (s₁.setTop (mkF m 7 #[.val (.int i0), .val (.long i1), .second, .unset, .unset, .unset, .unset, .unset, .unset, .unset] [(.int ((i0 &&& (2147483647 : Int32)) % (7 : Int32)))])) _
    rw [hv0]
    show Steps p.tables e below (s₁.setTop (mkF m 7 #[.val (.int i0), .val (.long i1), .second, .unset, .unset, .unset, .unset, .unset, .unset, .unset] [(.int (6 : Int32))])) _
    refine XS.istoreN X0.here hx rfl (hb hby at_7) rfl (l' := #[.val (.int i0), .val (.long i1), .second, .val (.int (6 : Int32)), .unset, .unset, .unset, .unset, .unset, .unset]) rfl ?_
    show Steps p.tables e below (s₁.setTop (mkF m 8 #[.val (.int i0), .val (.long i1), .second, .val (.int (6 : Int32)), .unset, .unset, .unset, .unset, .unset, .unset] [])) _
    refine XS.iloadN X0.here hx rfl (hb hby at_8) rfl ?_
    show Steps p.tables e below (s₁.setTop (mkF m 9 #[.val (.int i0), .val (.long i1), .second, .val (.int (6 : Int32)), .unset, .unset, .unset, .unset, .unset, .unset] [(.int (6 : Int32))])) _
    refine XS.ifYes X0.here hx rfl (pc0 := 9) (pc' := 25) rfl (hb hby at_9) rfl ((if0 _ _).trans (feq (by decide +kernel : ¬ ((6 : Int32) = (0 : Int32)))).2) (by decide) (by decide) ?_
    show Steps p.tables e below (s₁.setTop (mkF m 25 #[.val (.int i0), .val (.long i1), .second, .val (.int (6 : Int32)), .unset, .unset, .unset, .unset, .unset, .unset] [])) _
    refine XS.iloadN X0.here hx rfl (hb hby at_25) rfl ?_
    show Steps p.tables e below (s₁.setTop (mkF m 26 #[.val (.int i0), .val (.long i1), .second, .val (.int (6 : Int32)), .unset, .unset, .unset, .unset, .unset, .unset] [(.int (6 : Int32))])) _
    refine XS.iconst X0.here hx rfl (hb hby at_26) ?_
    show Steps p.tables e below (s₁.setTop (mkF m 27 #[.val (.int i0), .val (.long i1), .second, .val (.int (6 : Int32)), .unset, .unset, .unset, .unset, .unset, .unset] [(.int (1 : Int32)), (.int (6 : Int32))])) _
    refine XS.icmpYes X0.here hx rfl (pc0 := 27) (pc' := 43) rfl (hb hby at_27) rfl (feq (by decide +kernel : ¬ ((6 : Int32) = (1 : Int32)))).2 (by decide) (by decide) ?_
    show Steps p.tables e below (s₁.setTop (mkF m 43 #[.val (.int i0), .val (.long i1), .second, .val (.int (6 : Int32)), .unset, .unset, .unset, .unset, .unset, .unset] [])) _
    refine XS.iloadN X0.here hx rfl (hb hby at_43) rfl ?_
    show Steps p.tables e below (s₁.setTop (mkF m 44 #[.val (.int i0), .val (.long i1), .second, .val (.int (6 : Int32)), .unset, .unset, .unset, .unset, .unset, .unset] [(.int (6 : Int32))])) _
    refine XS.iconst X0.here hx rfl (hb hby at_44) ?_
    show Steps p.tables e below (s₁.setTop (mkF m 45 #[.val (.int i0), .val (.long i1), .second, .val (.int (6 : Int32)), .unset, .unset, .unset, .unset, .unset, .unset] [(.int (2 : Int32)), (.int (6 : Int32))])) _
    refine XS.icmpYes X0.here hx rfl (pc0 := 45) (pc' := 61) rfl (hb hby at_45) rfl (feq (by decide +kernel : ¬ ((6 : Int32) = (2 : Int32)))).2 (by decide) (by decide) ?_
    show Steps p.tables e below (s₁.setTop (mkF m 61 #[.val (.int i0), .val (.long i1), .second, .val (.int (6 : Int32)), .unset, .unset, .unset, .unset, .unset, .unset] [])) _
    refine XS.iloadN X0.here hx rfl (hb hby at_61) rfl ?_
    show Steps p.tables e below (s₁.setTop (mkF m 62 #[.val (.int i0), .val (.long i1), .second, .val (.int (6 : Int32)), .unset, .unset, .unset, .unset, .unset, .unset] [(.int (6 : Int32))])) _
    refine XS.iconst X0.here hx rfl (hb hby at_62) ?_
    show Steps p.tables e below (s₁.setTop (mkF m 63 #[.val (.int i0), .val (.long i1), .second, .val (.int (6 : Int32)), .unset, .unset, .unset, .unset, .unset, .unset] [(.int (3 : Int32)), (.int (6 : Int32))])) _
    refine XS.icmpYes X0.here hx rfl (pc0 := 63) (pc' := 79) rfl (hb hby at_63) rfl (feq (by decide +kernel : ¬ ((6 : Int32) = (3 : Int32)))).2 (by decide) (by decide) ?_
    show Steps p.tables e below (s₁.setTop (mkF m 79 #[.val (.int i0), .val (.long i1), .second, .val (.int (6 : Int32)), .unset, .unset, .unset, .unset, .unset, .unset] [])) _
    refine XS.iloadN X0.here hx rfl (hb hby at_79) rfl ?_
    show Steps p.tables e below (s₁.setTop (mkF m 80 #[.val (.int i0), .val (.long i1), .second, .val (.int (6 : Int32)), .unset, .unset, .unset, .unset, .unset, .unset] [(.int (6 : Int32))])) _
    refine XS.iconst X0.here hx rfl (hb hby at_80) ?_
    show Steps p.tables e below (s₁.setTop (mkF m 81 #[.val (.int i0), .val (.long i1), .second, .val (.int (6 : Int32)), .unset, .unset, .unset, .unset, .unset, .unset] [(.int (4 : Int32)), (.int (6 : Int32))])) _
    refine XS.icmpYes X0.here hx rfl (pc0 := 81) (pc' := 97) rfl (hb hby at_81) rfl (feq (by decide +kernel : ¬ ((6 : Int32) = (4 : Int32)))).2 (by decide) (by decide) ?_
    show Steps p.tables e below (s₁.setTop (mkF m 97 #[.val (.int i0), .val (.long i1), .second, .val (.int (6 : Int32)), .unset, .unset, .unset, .unset, .unset, .unset] [])) _
    refine XS.iloadN X0.here hx rfl (hb hby at_97) rfl ?_
    show Steps p.tables e below (s₁.setTop (mkF m 98 #[.val (.int i0), .val (.long i1), .second, .val (.int (6 : Int32)), .unset, .unset, .unset, .unset, .unset, .unset] [(.int (6 : Int32))])) _
    refine XS.iconst X0.here hx rfl (hb hby at_98) ?_
    show Steps p.tables e below (s₁.setTop (mkF m 99 #[.val (.int i0), .val (.long i1), .second, .val (.int (6 : Int32)), .unset, .unset, .unset, .unset, .unset, .unset] [(.int (5 : Int32)), (.int (6 : Int32))])) _
    refine XS.icmpYes X0.here hx rfl (pc0 := 99) (pc' := 115) rfl (hb hby at_99) rfl (feq (by decide +kernel : ¬ ((6 : Int32) = (5 : Int32)))).2 (by decide) (by decide) ?_
    show Steps p.tables e below (s₁.setTop (mkF m 115 #[.val (.int i0), .val (.long i1), .second, .val (.int (6 : Int32)), .unset, .unset, .unset, .unset, .unset, .unset] [])) _
    refine st1 _ ?_
    show Steps p.tables e below (T1.setTop (mkF m 118 #[.val (.int i0), .val (.long i1), .second, .val (.int (6 : Int32)), .unset, .unset, .unset, .unset, .unset, .unset] [(.ref w_TAGS)])) _
    refine XS.astore X1.here hx rfl (hb hby at_118) rfl rfl (l' := #[.val (.int i0), .val (.long i1), .second, .val (.int (6 : Int32)), .val (.ref w_TAGS), .unset, .unset, .unset, .unset, .unset]) rfl ?_
    show Steps p.tables e below (T1.setTop (mkF m 120 #[.val (.int i0), .val (.long i1), .second, .val (.int (6 : Int32)), .val (.ref w_TAGS), .unset, .unset, .unset, .unset, .unset] [])) _
    refine X1.ldc2Long hx hown (mvT hZ (hw _ (List.mem_of_getElem? (i := 27) rfl))) (g := (mkF m 120 #[.val (.int i0), .val (.long i1), .second, .val (.int (6 : Int32)), .val (.ref w_TAGS), .unset, .unset, .unset, .unset, .unset] [])) rfl (hb hby at_120) _ ?_
    show Steps p.tables e below (T1.setTop (mkF m 123 #[.val (.int i0), .val (.long i1), .second, .val (.int (6 : Int32)), .val (.ref w_TAGS), .unset, .unset, .unset, .unset, .unset] [(.long (10 : Int64))])) _
    refine XS.lstore X1.here hx rfl (hb hby at_123) rfl (l' := #[.val (.int i0), .val (.long i1), .second, .val (.int (6 : Int32)), .val (.ref w_TAGS), .val (.long (10 : Int64)), .second, .unset, .unset, .unset]) rfl ?_
    show Steps p.tables e below (T1.setTop (mkF m 125 #[.val (.int i0), .val (.long i1), .second, .val (.int (6 : Int32)), .val (.ref w_TAGS), .val (.long (10 : Int64)), .second, .unset, .unset, .unset] [])) _
    refine XS.aload X1.here hx rfl (hb hby at_125) rfl rfl ?_
    show Steps p.tables e below (T1.setTop (mkF m 127 #[.val (.int i0), .val (.long i1), .second, .val (.int (6 : Int32)), .val (.ref w_TAGS), .val (.long (10 : Int64)), .second, .unset, .unset, .unset] [(.ref w_TAGS)])) _
    refine XS.lloadN X1.here hx rfl (hb hby at_127) rfl ?_
    show Steps p.tables e below (T1.setTop (mkF m 128 #[.val (.int i0), .val (.long i1), .second, .val (.int (6 : Int32)), .val (.ref w_TAGS), .val (.long (10 : Int64)), .second, .unset, .unset, .unset] [(.long i1), (.ref w_TAGS)])) _
    refine st2.trans ?_
    show Steps p.tables e below (T2.setTop (mkF m 131 #[.val (.int i0), .val (.long i1), .second, .val (.int (6 : Int32)), .val (.ref w_TAGS), .val (.long (10 : Int64)), .second, .unset, .unset, .unset] [(.int (0 : Int32))])) _
    refine XS.lloadN X2.here hx rfl (hb hby at_131) rfl ?_
    show Steps p.tables e below (T2.setTop (mkF m 132 #[.val (.int i0), .val (.long i1), .second, .val (.int (6 : Int32)), .val (.ref w_TAGS), .val (.long (10 : Int64)), .second, .unset, .unset, .unset] [(.long i1), (.int (0 : Int32))])) _
    refine XS.lload X2.here hx rfl (hb hby at_132) rfl ?_
    show Steps p.tables e below (T2.setTop (mkF m 134 #[.val (.int i0), .val (.long i1), .second, .val (.int (6 : Int32)), .val (.ref w_TAGS), .val (.long (10 : Int64)), .second, .unset, .unset, .unset] [(.long (10 : Int64)), (.long i1), (.int (0 : Int32))])) _
    refine XS.lcmp X2.here hx rfl (hb hby at_134) rfl ?_
    show Steps p.tables e below (T2.setTop (mkF m 135 #[.val (.int i0), .val (.long i1), .second, .val (.int (6 : Int32)), .val (.ref w_TAGS), .val (.long (10 : Int64)), .second, .unset, .unset, .unset] [(.int (lcmpW i1 (10 : Int64))), (.int (0 : Int32))])) _
    refine XS.ifYes X2.here hx rfl (pc0 := 135) (pc' := 142) rfl (hb hby at_135) rfl ((if0 _ _).trans (flt hv1).2.2.2) (by decide) (by decide) ?_
    show Steps p.tables e below (T2.setTop (mkF m 142 #[.val (.int i0), .val (.long i1), .second, .val (.int (6 : Int32)), .val (.ref w_TAGS), .val (.long (10 : Int64)), .second, .unset, .unset, .unset] [(.int (0 : Int32))])) _
    refine XS.iconst X2.here hx rfl (hb hby at_142) ?_
    show Steps p.tables e below (T2.setTop (mkF m 143 #[.val (.int i0), .val (.long i1), .second, .val (.int (6 : Int32)), .val (.ref w_TAGS), .val (.long (10 : Int64)), .second, .unset, .unset, .unset] [(.int (0 : Int32)), (.int (0 : Int32))])) _
    refine XS.icmpNo X2.here hx rfl (hb hby at_143) rfl (teq (by decide +kernel : (0 : Int32) = (0 : Int32))).2 ?_
    show Steps p.tables e below (T2.setTop (mkF m 146 #[.val (.int i0), .val (.long i1), .second, .val (.int (6 : Int32)), .val (.ref w_TAGS), .val (.long (10 : Int64)), .second, .unset, .unset, .unset] [])) _
    refine XS.iconst X2.here hx rfl (hb hby at_146) ?_
    show Steps p.tables e below (T2.setTop (mkF m 147 #[.val (.int i0), .val (.long i1), .second, .val (.int (6 : Int32)), .val (.ref w_TAGS), .val (.long (10 : Int64)), .second, .unset, .unset, .unset] [(.int (1 : Int32))])) _
    refine XS.goto X2.here hx rfl (pc0 := 147) (pc' := 151) rfl (hb hby at_147) (by decide) (by decide) ?_
    show Steps p.tables e below (T2.setTop (mkF m 151 #[.val (.int i0), .val (.long i1), .second, .val (.int (6 : Int32)), .val (.ref w_TAGS), .val (.long (10 : Int64)), .second, .unset, .unset, .unset] [(.int (1 : Int32))])) _
    refine XS.istore X2.here hx rfl (hb hby at_151) rfl (l' := #[.val (.int i0), .val (.long i1), .second, .val (.int (6 : Int32)), .val (.ref w_TAGS), .val (.long (10 : Int64)), .second, .val (.int (1 : Int32)), .unset, .unset]) rfl ?_
    show Steps p.tables e below (T2.setTop (mkF m 153 #[.val (.int i0), .val (.long i1), .second, .val (.int (6 : Int32)), .val (.ref w_TAGS), .val (.long (10 : Int64)), .second, .val (.int (1 : Int32)), .unset, .unset] [])) _
    refine XS.aload X2.here hx rfl (hb hby at_153) rfl rfl ?_
    show Steps p.tables e below (T2.setTop (mkF m 155 #[.val (.int i0), .val (.long i1), .second, .val (.int (6 : Int32)), .val (.ref w_TAGS), .val (.long (10 : Int64)), .second, .val (.int (1 : Int32)), .unset, .unset] [(.ref w_TAGS)])) _
    refine XS.lload X2.here hx rfl (hb hby at_155) rfl ?_
    show Steps p.tables e below (T2.setTop (mkF m 157 #[.val (.int i0), .val (.long i1), .second, .val (.int (6 : Int32)), .val (.ref w_TAGS), .val (.long (10 : Int64)), .second, .val (.int (1 : Int32)), .unset, .unset] [(.long (10 : Int64)), (.ref w_TAGS)])) _
    refine st3.trans ?_
    show Steps p.tables e below (T3.setTop (mkF m 160 #[.val (.int i0), .val (.long i1), .second, .val (.int (6 : Int32)), .val (.ref w_TAGS), .val (.long (10 : Int64)), .second, .val (.int (1 : Int32)), .unset, .unset] [(.int (0 : Int32))])) _
    refine XS.ifNo X3.here hx rfl (hb hby at_160) rfl ((if0 _ _).trans (teq (by decide +kernel : (0 : Int32) = (0 : Int32))).2) ?_
    show Steps p.tables e below (T3.setTop (mkF m 163 #[.val (.int i0), .val (.long i1), .second, .val (.int (6 : Int32)), .val (.ref w_TAGS), .val (.long (10 : Int64)), .second, .val (.int (1 : Int32)), .unset, .unset] [])) _
    refine XS.iconst X3.here hx rfl (hb hby at_163) ?_
    show Steps p.tables e below (T3.setTop (mkF m 164 #[.val (.int i0), .val (.long i1), .second, .val (.int (6 : Int32)), .val (.ref w_TAGS), .val (.long (10 : Int64)), .second, .val (.int (1 : Int32)), .unset, .unset] [(.int (1 : Int32))])) _
    refine XS.goto X3.here hx rfl (pc0 := 164) (pc' := 168) rfl (hb hby at_164) (by decide) (by decide) ?_
    show Steps p.tables e below (T3.setTop (mkF m 168 #[.val (.int i0), .val (.long i1), .second, .val (.int (6 : Int32)), .val (.ref w_TAGS), .val (.long (10 : Int64)), .second, .val (.int (1 : Int32)), .unset, .unset] [(.int (1 : Int32))])) _
    refine XS.istore X3.here hx rfl (hb hby at_168) rfl (l' := #[.val (.int i0), .val (.long i1), .second, .val (.int (6 : Int32)), .val (.ref w_TAGS), .val (.long (10 : Int64)), .second, .val (.int (1 : Int32)), .val (.int (1 : Int32)), .unset]) rfl ?_
    show Steps p.tables e below (T3.setTop (mkF m 170 #[.val (.int i0), .val (.long i1), .second, .val (.int (6 : Int32)), .val (.ref w_TAGS), .val (.long (10 : Int64)), .second, .val (.int (1 : Int32)), .val (.int (1 : Int32)), .unset] [])) _
    refine XS.aload X3.here hx rfl (hb hby at_170) rfl rfl ?_
    show Steps p.tables e below (T3.setTop (mkF m 172 #[.val (.int i0), .val (.long i1), .second, .val (.int (6 : Int32)), .val (.ref w_TAGS), .val (.long (10 : Int64)), .second, .val (.int (1 : Int32)), .val (.int (1 : Int32)), .unset] [(.ref w_TAGS)])) _
    refine XS.lload X3.here hx rfl (hb hby at_172) rfl ?_
    show Steps p.tables e below (T3.setTop (mkF m 174 #[.val (.int i0), .val (.long i1), .second, .val (.int (6 : Int32)), .val (.ref w_TAGS), .val (.long (10 : Int64)), .second, .val (.int (1 : Int32)), .val (.int (1 : Int32)), .unset] [(.long (10 : Int64)), (.ref w_TAGS)])) _
    refine XS.lconst X3.here hx rfl (hb hby at_174) ?_
    show Steps p.tables e below (T3.setTop (mkF m 175 #[.val (.int i0), .val (.long i1), .second, .val (.int (6 : Int32)), .val (.ref w_TAGS), .val (.long (10 : Int64)), .second, .val (.int (1 : Int32)), .val (.int (1 : Int32)), .unset] [(.long (1 : Int64)), (.long (10 : Int64)), (.ref w_TAGS)])) _
    refine XS.ladd X3.here hx rfl (hb hby at_175) rfl ?_
    show Steps p.tables e below (T3.setTop (mkF m 176 #[.val (.int i0), .val (.long i1), .second, .val (.int (6 : Int32)), .val (.ref w_TAGS), .val (.long (10 : Int64)), .second, .val (.int (1 : Int32)), .val (.int (1 : Int32)), .unset] [(.long ((10 : Int64) + (1 : Int64))), (.ref w_TAGS)])) _
    rw [show ((10 : Int64) + (1 : Int64)) = (11 : Int64) from by decide +kernel]
    show Steps p.tables e below (T3.setTop (mkF m 176 #[.val (.int i0), .val (.long i1), .second, .val (.int (6 : Int32)), .val (.ref w_TAGS), .val (.long (10 : Int64)), .second, .val (.int (1 : Int32)), .val (.int (1 : Int32)), .unset] [(.long (11 : Int64)), (.ref w_TAGS)])) _
    refine st4.trans ?_
    show Steps p.tables e below (T4.setTop (mkF m 179 #[.val (.int i0), .val (.long i1), .second, .val (.int (6 : Int32)), .val (.ref w_TAGS), .val (.long (10 : Int64)), .second, .val (.int (1 : Int32)), .val (.int (1 : Int32)), .unset] [(.int (1 : Int32))])) _
    refine XS.istore X4.here hx rfl (hb hby at_179) rfl (l' := #[.val (.int i0), .val (.long i1), .second, .val (.int (6 : Int32)), .val (.ref w_TAGS), .val (.long (10 : Int64)), .second, .val (.int (1 : Int32)), .val (.int (1 : Int32)), .val (.int (1 : Int32))]) rfl ?_
    show Steps p.tables e below (T4.setTop (mkF m 181 #[.val (.int i0), .val (.long i1), .second, .val (.int (6 : Int32)), .val (.ref w_TAGS), .val (.long (10 : Int64)), .second, .val (.int (1 : Int32)), .val (.int (1 : Int32)), .val (.int (1 : Int32))] [])) _
    refine XS.iload X4.here hx rfl (hb hby at_181) rfl ?_
    show Steps p.tables e below (T4.setTop (mkF m 183 #[.val (.int i0), .val (.long i1), .second, .val (.int (6 : Int32)), .val (.ref w_TAGS), .val (.long (10 : Int64)), .second, .val (.int (1 : Int32)), .val (.int (1 : Int32)), .val (.int (1 : Int32))] [(.int (1 : Int32))])) _
    refine XS.ifNo X4.here hx rfl (hb hby at_183) rfl ((if0 _ _).trans (feq (by decide +kernel : ¬ ((1 : Int32) = (0 : Int32)))).1) ?_
    show Steps p.tables e below (T4.setTop (mkF m 186 #[.val (.int i0), .val (.long i1), .second, .val (.int (6 : Int32)), .val (.ref w_TAGS), .val (.long (10 : Int64)), .second, .val (.int (1 : Int32)), .val (.int (1 : Int32)), .val (.int (1 : Int32))] [])) _
    refine XS.iload X4.here hx rfl (hb hby at_186) rfl ?_
    show Steps p.tables e below (T4.setTop (mkF m 188 #[.val (.int i0), .val (.long i1), .second, .val (.int (6 : Int32)), .val (.ref w_TAGS), .val (.long (10 : Int64)), .second, .val (.int (1 : Int32)), .val (.int (1 : Int32)), .val (.int (1 : Int32))] [(.int (1 : Int32))])) _
    refine XS.ifNo X4.here hx rfl (hb hby at_188) rfl ((if0 _ _).trans (feq (by decide +kernel : ¬ ((1 : Int32) = (0 : Int32)))).1) ?_
    show Steps p.tables e below (T4.setTop (mkF m 191 #[.val (.int i0), .val (.long i1), .second, .val (.int (6 : Int32)), .val (.ref w_TAGS), .val (.long (10 : Int64)), .second, .val (.int (1 : Int32)), .val (.int (1 : Int32)), .val (.int (1 : Int32))] [])) _
    refine XS.iload X4.here hx rfl (hb hby at_191) rfl ?_
    show Steps p.tables e below (T4.setTop (mkF m 193 #[.val (.int i0), .val (.long i1), .second, .val (.int (6 : Int32)), .val (.ref w_TAGS), .val (.long (10 : Int64)), .second, .val (.int (1 : Int32)), .val (.int (1 : Int32)), .val (.int (1 : Int32))] [(.int (1 : Int32))])) _
    refine XS.ifNo X4.here hx rfl (hb hby at_193) rfl ((if0 _ _).trans (feq (by decide +kernel : ¬ ((1 : Int32) = (0 : Int32)))).1) ?_
    show Steps p.tables e below (T4.setTop (mkF m 196 #[.val (.int i0), .val (.long i1), .second, .val (.int (6 : Int32)), .val (.ref w_TAGS), .val (.long (10 : Int64)), .second, .val (.int (1 : Int32)), .val (.int (1 : Int32)), .val (.int (1 : Int32))] [])) _
    refine XS.iconst X4.here hx rfl (hb hby at_196) ?_
    show Steps p.tables e below (T4.setTop (mkF m 197 #[.val (.int i0), .val (.long i1), .second, .val (.int (6 : Int32)), .val (.ref w_TAGS), .val (.long (10 : Int64)), .second, .val (.int (1 : Int32)), .val (.int (1 : Int32)), .val (.int (1 : Int32))] [(.int (1 : Int32))])) _
    refine XS.goto X4.here hx rfl (pc0 := 197) (pc' := 201) rfl (hb hby at_197) (by decide) (by decide) ?_
    show Steps p.tables e below (T4.setTop (mkF m 201 #[.val (.int i0), .val (.long i1), .second, .val (.int (6 : Int32)), .val (.ref w_TAGS), .val (.long (10 : Int64)), .second, .val (.int (1 : Int32)), .val (.int (1 : Int32)), .val (.int (1 : Int32))] [(.int (1 : Int32))])) _
    exact retN X4 hx (t := .boolean) Bd.returns (by simp) (hb hby at_201) hr
  · exact ⟨rfl, N4, e4⟩
set_option maxRecDepth 65536 in
set_option maxHeartbeats 40000000 in
theorem comes_1 {Post : Tables → Env → Array Value → State → Outcome → State → Prop} (hpost : ∀ tb e args s v u, (limb_1_1.after args s (.returned v) u = true ∧ limb_1_2.after args s (.returned v) u = true ∧ True) → FrameEnd s (.returned v) u (Jvm.fieldLocs frame_1_writes args s ++ Jvm.arrayLocs frame_1_arrays args s ++ Jvm.staticLocs frame_1_statics s) 0 0 → Post tb e args s (.returned v) u) :
    ArmFor flags0 classFile x code maxLocals ret World_1 tables_1 room_1 Calls_1 rest_1 Pre_1 Post := by
  intro l hfl _ _ p e ha hc hk s m args below hf hA hF happ hP
  obtain ⟨hcalls, hrest, hpre⟩ := hP
  obtain ⟨-, -, -, hnamed, -, -, -, hat⟩ := (Spec.applies_iff hf).mp happ
  obtain ⟨hg, hn⟩ := and_e (Cond.before_iff.mp (show (Jvm.Cond.and given_1 narrow_1).before args s = true from hpre))
  obtain ⟨gc, g0⟩ := and_e hg
  obtain ⟨a0, g1⟩ := and_e g0
  obtain ⟨v0, v1, rfl⟩ : ∃ v0 v1 : Value, args = #[v0, v1] := by
    have hs : args.size = 2 := by simpa [Cond.value, given_1] using gc
    obtain ⟨L⟩ := args
    match L, hs with
    | [v0, v1], _ => exact ⟨v0, v1, rfl⟩
  have hw := fun d (hd : d ∈ tables_1) => atoms_spec (ws := Jvm.Cond.code x code maxLocals ret :: tables_1) hat d (List.mem_cons_of_mem _ hd)
  obtain ⟨i0, ei0⟩ := is_v a0
  obtain rfl : v0 = (.int i0) := Option.some.inj ei0
  obtain ⟨i1, ei1⟩ := isL_v g1
  obtain rfl : v1 = (.long i1) := Option.some.inj ei1
  obtain ⟨n0, n1⟩ := and_e hn
  obtain ⟨n2, n3⟩ := and_e n1
  obtain ⟨n4, n5⟩ := and_e n3
  obtain ⟨n6, n7⟩ := and_e n5
  obtain ⟨n8, n9⟩ := and_e n7
  obtain ⟨n10, n11⟩ := and_e n9
  obtain ⟨n12, n13⟩ := and_e n11
  obtain ⟨n14, n15⟩ := and_e n13
  obtain ⟨n16, n17⟩ := and_e n15
  obtain ⟨n18, n19⟩ := and_e n17
  obtain ⟨n20, n21⟩ := and_e n19
  obtain ⟨n22, n23⟩ := and_e n21
  obtain ⟨n24, n25⟩ := and_e n23
  obtain ⟨w_RUNS, ev_RUNS⟩ := exa_v n0
  have E_RUNS := Exa.start ev_RUNS n0
  have S_RUNS := Sta.start ev_RUNS (Or.inr ⟨(hw _ (List.mem_of_getElem? (i := 2) rfl)), (hw _ (List.mem_of_getElem? (i := 3) rfl))⟩)
  obtain ⟨w_RESULTS, ev_RESULTS⟩ := exa_v n4
  have E_RESULTS := Exa.start ev_RESULTS n4
  have S_RESULTS := Sta.start ev_RESULTS (Or.inr ⟨(hw _ (List.mem_of_getElem? (i := 2) rfl)), (hw _ (List.mem_of_getElem? (i := 13) rfl))⟩)
  obtain ⟨w_LOCATIONS, ev_LOCATIONS⟩ := exa_v n8
  have E_LOCATIONS := Exa.start ev_LOCATIONS n8
  have S_LOCATIONS := Sta.start ev_LOCATIONS (Or.inr ⟨(hw _ (List.mem_of_getElem? (i := 2) rfl)), (hw _ (List.mem_of_getElem? (i := 16) rfl))⟩)
  obtain ⟨w_THREAD_FLOW_LOCATIONS, ev_THREAD_FLOW_LOCATIONS⟩ := exa_v n12
  have E_THREAD_FLOW_LOCATIONS := Exa.start ev_THREAD_FLOW_LOCATIONS n12
  have S_THREAD_FLOW_LOCATIONS := Sta.start ev_THREAD_FLOW_LOCATIONS (Or.inr ⟨(hw _ (List.mem_of_getElem? (i := 2) rfl)), (hw _ (List.mem_of_getElem? (i := 19) rfl))⟩)
  obtain ⟨w_RULES, ev_RULES⟩ := exa_v n16
  have E_RULES := Exa.start ev_RULES n16
  have S_RULES := Sta.start ev_RULES (Or.inr ⟨(hw _ (List.mem_of_getElem? (i := 2) rfl)), (hw _ (List.mem_of_getElem? (i := 22) rfl))⟩)
  obtain ⟨w_EXTENSIONS, ev_EXTENSIONS⟩ := exa_v n20
  have E_EXTENSIONS := Exa.start ev_EXTENSIONS n20
  have S_EXTENSIONS := Sta.start ev_EXTENSIONS (Or.inr ⟨(hw _ (List.mem_of_getElem? (i := 2) rfl)), (hw _ (List.mem_of_getElem? (i := 24) rfl))⟩)
  obtain ⟨w_TAGS, ev_TAGS⟩ := exa_v n24
  have E_TAGS := Exa.start ev_TAGS n24
  have S_TAGS := Sta.start ev_TAGS (Or.inr ⟨(hw _ (List.mem_of_getElem? (i := 2) rfl)), (hw _ (List.mem_of_getElem? (i := 26) rfl))⟩)
  have F_RUNS_kept := own_fldL ev_RUNS n2
  have F_RESULTS_kept := own_fldL ev_RESULTS n6
  have F_LOCATIONS_kept := own_fldL ev_LOCATIONS n10
  have F_THREAD_FLOW_LOCATIONS_kept := own_fldL ev_THREAD_FLOW_LOCATIONS n14
  have F_RULES_kept := own_fldL ev_RULES n18
  have F_EXTENSIONS_kept := own_fldL ev_EXTENSIONS n22
  have F_TAGS_kept := own_fldL ev_TAGS n25
  have ctx : Ctx s s.heap w_RUNS w_RESULTS w_LOCATIONS w_THREAD_FLOW_LOCATIONS w_RULES w_EXTENSIONS w_TAGS := ⟨S_RUNS, E_RUNS, F_RUNS_kept, S_RESULTS, E_RESULTS, F_RESULTS_kept, S_LOCATIONS, E_LOCATIONS, F_LOCATIONS_kept, S_THREAD_FLOW_LOCATIONS, E_THREAD_FLOW_LOCATIONS, F_THREAD_FLOW_LOCATIONS_kept, S_RULES, E_RULES, F_RULES_kept, S_EXTENSIONS, E_EXTENSIONS, F_EXTENSIONS_kept, S_TAGS, E_TAGS, F_TAGS_kept, trivial⟩
  suffices M : MetFree l x (head1 (Jvm.Cond.code x code maxLocals ret :: tables_1) room_1) (fun a U => a = #[(.int i0), (.long i1)] ∧ s.Warmed39 U.vm ∧ U.heap = s.heap) (fun _ _ _ _ _ => True) (fun _ U o U' => ∃ v L, o = .returned v ∧ QR s.heap s.heap.size (some (.int (1 : Int32))) v U'.heap L ∧ FrameEnd U o U' L room_1.cells room_1.slots) by
    obtain ⟨n, o, h1, h2, h3, _, L, rfl, ⟨rfl, N, -⟩, hq⟩ := M p e ha hc hk s m _ below hf ((Spec.applies_iff_loose hf).mp happ).1 ⟨rfl, State.Warmed39.refl s, rfl⟩ trivial
    exact ⟨n, _, h1, h2, h3, hpost _ _ _ _ _ _ ⟨Cond.after_iff.mpr rfl, Cond.after_iff.mpr (eq_i res_at (Term.int_eval (1)) rfl), trivial⟩ ⟨hq.1, hq.2.1, (hq.2.2.sift fun y hy => Or.inr (N y hy)).mono (by decide) (by decide)⟩⟩
  rcases own_r7 i0 with hv0 | hv0 | hv0 | hv0 | hv0 | hv0 | hv0
  ·
    rcases Decidable.em ((0 : Int32) < (lcmpW i1 (20 : Int64))) with hv1 | hv1
    ·
      exact rm0_0 l s _ hw tables_1 w_RUNS w_RESULTS w_LOCATIONS w_THREAD_FLOW_LOCATIONS w_RULES w_EXTENSIONS w_TAGS i0 i1 s.heap s.heap.size (Nat.le_refl _) ctx hv0 hv1
    ·
      exact rm0_1 l s _ hw tables_1 w_RUNS w_RESULTS w_LOCATIONS w_THREAD_FLOW_LOCATIONS w_RULES w_EXTENSIONS w_TAGS i0 i1 s.heap s.heap.size (Nat.le_refl _) ctx hv0 hv1
  ·
    rcases Decidable.em ((0 : Int32) < (lcmpW i1 (25000 : Int64))) with hv1 | hv1
    ·
      exact rm0_2 l s _ hw tables_1 w_RUNS w_RESULTS w_LOCATIONS w_THREAD_FLOW_LOCATIONS w_RULES w_EXTENSIONS w_TAGS i0 i1 s.heap s.heap.size (Nat.le_refl _) ctx hv0 hv1
    ·
      exact rm0_3 l s _ hw tables_1 w_RUNS w_RESULTS w_LOCATIONS w_THREAD_FLOW_LOCATIONS w_RULES w_EXTENSIONS w_TAGS i0 i1 s.heap s.heap.size (Nat.le_refl _) ctx hv0 hv1
  ·
    rcases Decidable.em ((0 : Int32) < (lcmpW i1 (25000 : Int64))) with hv1 | hv1
    ·
      exact rm0_4 l s _ hw tables_1 w_RUNS w_RESULTS w_LOCATIONS w_THREAD_FLOW_LOCATIONS w_RULES w_EXTENSIONS w_TAGS i0 i1 s.heap s.heap.size (Nat.le_refl _) ctx hv0 hv1
    ·
      exact rm0_5 l s _ hw tables_1 w_RUNS w_RESULTS w_LOCATIONS w_THREAD_FLOW_LOCATIONS w_RULES w_EXTENSIONS w_TAGS i0 i1 s.heap s.heap.size (Nat.le_refl _) ctx hv0 hv1
  ·
    rcases Decidable.em ((0 : Int32) < (lcmpW i1 (100 : Int64))) with hv1 | hv1
    ·
      exact rm0_6 l s _ hw tables_1 w_RUNS w_RESULTS w_LOCATIONS w_THREAD_FLOW_LOCATIONS w_RULES w_EXTENSIONS w_TAGS i0 i1 s.heap s.heap.size (Nat.le_refl _) ctx hv0 hv1
    ·
      exact rm0_7 l s _ hw tables_1 w_RUNS w_RESULTS w_LOCATIONS w_THREAD_FLOW_LOCATIONS w_RULES w_EXTENSIONS w_TAGS i0 i1 s.heap s.heap.size (Nat.le_refl _) ctx hv0 hv1
  ·
    rcases Decidable.em ((0 : Int32) < (lcmpW i1 (100 : Int64))) with hv1 | hv1
    ·
      exact rm0_8 l s _ hw tables_1 w_RUNS w_RESULTS w_LOCATIONS w_THREAD_FLOW_LOCATIONS w_RULES w_EXTENSIONS w_TAGS i0 i1 s.heap s.heap.size (Nat.le_refl _) ctx hv0 hv1
    ·
      exact rm0_9 l s _ hw tables_1 w_RUNS w_RESULTS w_LOCATIONS w_THREAD_FLOW_LOCATIONS w_RULES w_EXTENSIONS w_TAGS i0 i1 s.heap s.heap.size (Nat.le_refl _) ctx hv0 hv1
  ·
    rcases Decidable.em ((0 : Int32) < (lcmpW i1 (1000 : Int64))) with hv1 | hv1
    ·
      exact rm0_10 l s _ hw tables_1 w_RUNS w_RESULTS w_LOCATIONS w_THREAD_FLOW_LOCATIONS w_RULES w_EXTENSIONS w_TAGS i0 i1 s.heap s.heap.size (Nat.le_refl _) ctx hv0 hv1
    ·
      exact rm0_11 l s _ hw tables_1 w_RUNS w_RESULTS w_LOCATIONS w_THREAD_FLOW_LOCATIONS w_RULES w_EXTENSIONS w_TAGS i0 i1 s.heap s.heap.size (Nat.le_refl _) ctx hv0 hv1
  ·
    rcases Decidable.em ((0 : Int32) < (lcmpW i1 (10 : Int64))) with hv1 | hv1
    ·
      exact rm0_12 l s _ hw tables_1 w_RUNS w_RESULTS w_LOCATIONS w_THREAD_FLOW_LOCATIONS w_RULES w_EXTENSIONS w_TAGS i0 i1 s.heap s.heap.size (Nat.le_refl _) ctx hv0 hv1
    ·
      exact rm0_13 l s _ hw tables_1 w_RUNS w_RESULTS w_LOCATIONS w_THREAD_FLOW_LOCATIONS w_RULES w_EXTENSIONS w_TAGS i0 i1 s.heap s.heap.size (Nat.le_refl _) ctx hv0 hv1
theorem main_1_1 : Claimed_1_1 := comes_1 fun _ _ _ _ _ _ h hF => ⟨h.1, hF⟩
theorem main_1_2 : Claimed_1_2 := comes_1 fun _ _ _ _ _ _ h hF => ⟨h.2.1, hF⟩
end Jvm.Pilot.@@N@@
namespace Jvm.Pilot.@@N@@
open Jvm Jvm.ClassFile Sem Op Lib Jvm.Free Jvm.Stand Jvm.Pilot.@@N@@.Jvm.D
/-! MADE BY PROGRAM (witnessworld.py) out of the Statement's table words and the real class files: 10 classes; the members and pool entries that the words name. The judged class is class 1, her method 1. -/
namespace start1
open Jvm.ClassFile
def u (s : String) : CpInfo := .utf8 (stringToUtf16 s)
/-- a pool by its gaps: so many unusable entries, then the entry; so many at the end -/
def gap : Nat → List CpInfo → List CpInfo
  | 0, r => r
  | n + 1, r => .unusable :: gap n r
def poolList (es : List (Nat × CpInfo)) (last : Nat) : List CpInfo := es.foldr (fun e r => gap e.1 (e.2 :: r)) (gap last [])
def pool (es : List (Nat × CpInfo)) (last : Nat) : Array CpInfo := ⟨poolList es last⟩
def fileOf (pool : Array CpInfo) (this : Nat) (attrs : Array Attribute := #[]) (ms : Array MethodInfo := #[]) (fl : Nat := 33) (sup : Nat := 0) (ifs : Array Nat := #[]) (fds : Array FieldInfo := #[]) : ClassFile where
  minorVersion := 0
  majorVersion := 65
  constantPool := pool
  accessFlags := fl
  thisClass := this
  superClass := sup
  interfaces := ifs
  fields := fds
  methods := ms
  attributes := attrs
def plain (name : String) (sup : Option ClassId) : Class where
  name := name
  kind := .ordinary
  loader := none
  accessFlags := 33
  super := sup
  interfaces := #[]
  cf := none
  fields := #[]
  methods := #[]
  instanceTypes := #[]
  staticTypes := #[]
  resolved := #[]
  callSites := []
  init := .initialized
  statics := none
  mirror := none

def pool0 : Array CpInfo := pool [(5, u "<init>"), (0, u "()V"), (1, .class_ 10), (1, u "java/lang/Object")] 113

def k0m0 : Method := { name := "<init>", desc := "()V", sig := { parameters := [], returnType := none }, accessFlags := 1, code := none }
/-- java/lang/Object -/
def k0 : Class := { plain "java/lang/Object" none with
  accessFlags := 33
  interfaces := #[]
  cf := some (fileOf pool0 8 #[] #[{ accessFlags := 1, nameIndex := 5, descriptorIndex := 6, attributes := #[] }] 33 0 #[] #[])
  fields := #[]
  methods := #[k0m0]
  instanceTypes := #[]
  staticTypes := #[]
  resolved := Array.replicate 124 none
  statics := none }

def pool1 : Array CpInfo := pool [(2, .class_ 4), (1, u "java/lang/Object"), (0, u "<init>"), (0, u "()V"), (0, .integer 2147483647), (0, .fieldref 9 10), (0, .class_ 11), (0, .nameAndType 12 13), (0, u "com/example/verdictlint/verdictlint/sarif/Cap"), (0, u "RUNS"), (0, u "Lcom/example/verdictlint/verdictlint/sarif/Cap;"), (0, .long 20), (1, .fieldref 9 17), (0, .nameAndType 18 13), (0, u "RESULTS"), (0, .long 25000), (1, .fieldref 9 22), (0, .nameAndType 23 13), (0, u "RULES"), (0, .fieldref 9 25), (0, .nameAndType 26 13), (0, u "EXTENSIONS"), (0, .long 100), (1, .fieldref 9 30), (0, .nameAndType 31 13), (0, u "LOCATIONS"), (0, .fieldref 9 33), (0, .nameAndType 34 13), (0, u "THREAD_FLOW_LOCATIONS"), (0, .long 1000), (1, .fieldref 9 38), (0, .nameAndType 39 13), (0, u "TAGS"), (0, .long 10), (1, .methodref 9 43), (0, .nameAndType 44 45), (0, u "dropsSomeOf"), (0, u "(J)Z"), (0, .class_ 47), (0, u "com/example/verdictlint/verdictlint/sarif/CapDropsSomeOfPinLaw"), (2, u "law"), (0, u "(IJ)Z")] 3

def k1m0 : Method := { name := "<init>", desc := "()V", sig := { parameters := [], returnType := none }, accessFlags := 2, code := none }
def k1c1 : Code := { maxStack := 5, maxLocals := 10, code := code, exceptionTable := #[], attributes := #[] }
def k1m1 : Method := { name := "law", desc := "(IJ)Z", sig := { parameters := [.int, .long], returnType := some .boolean }, accessFlags := 9, code := some k1c1 }
/-- com/example/verdictlint/verdictlint/sarif/CapDropsSomeOfPinLaw -/
def k1 : Class := { plain "com/example/verdictlint/verdictlint/sarif/CapDropsSomeOfPinLaw" (some 0) with
  accessFlags := 49
  interfaces := #[]
  cf := some (fileOf pool1 46 #[] #[{ accessFlags := 2, nameIndex := 5, descriptorIndex := 6, attributes := #[] }, { accessFlags := 9, nameIndex := 50, descriptorIndex := 51, attributes := #[] }] 49 2 #[] #[])
  fields := #[]
  methods := #[k1m0, k1m1]
  instanceTypes := #[]
  staticTypes := #[]
  resolved := Array.replicate 55 none
  statics := none }

def pool2 : Array CpInfo := pool [(1, .class_ 2), (0, u "java/lang/constant/Constable"), (0, .class_ 4), (0, u "java/lang/Object")] 6

/-- java/lang/constant/Constable -/
def k2 : Class := { plain "java/lang/constant/Constable" (some 0) with
  accessFlags := 1537
  interfaces := #[]
  cf := some (fileOf pool2 1 #[] #[] 1537 3 #[] #[])
  fields := #[]
  methods := #[]
  instanceTypes := #[]
  staticTypes := #[]
  resolved := Array.replicate 11 none
  statics := none }

def pool3 : Array CpInfo := pool [(1, .class_ 2), (0, u "java/lang/Comparable"), (0, .class_ 4), (0, u "java/lang/Object")] 7

/-- java/lang/Comparable -/
def k3 : Class := { plain "java/lang/Comparable" (some 0) with
  accessFlags := 1537
  interfaces := #[]
  cf := some (fileOf pool3 1 #[] #[] 1537 3 #[] #[])
  fields := #[]
  methods := #[]
  instanceTypes := #[]
  staticTypes := #[]
  resolved := Array.replicate 12 none
  statics := none }

def pool4 : Array CpInfo := pool [(1, .class_ 2), (0, u "java/io/Serializable"), (0, .class_ 4), (0, u "java/lang/Object")] 2

/-- java/io/Serializable -/
def k4 : Class := { plain "java/io/Serializable" (some 0) with
  accessFlags := 1537
  interfaces := #[]
  cf := some (fileOf pool4 1 #[] #[] 1537 3 #[] #[])
  fields := #[]
  methods := #[]
  instanceTypes := #[]
  staticTypes := #[]
  resolved := Array.replicate 7 none
  statics := none }

def pool5 : Array CpInfo := pool [(2, .class_ 4), (1, u "java/lang/Enum"), (0, u "name"), (0, u "Ljava/lang/String;"), (2, u "ordinal"), (0, u "I"), (1, .class_ 14), (1, u "java/lang/Object"), (4, u "hash"), (86, .class_ 108), (1, u "java/lang/Enum$EnumDesc"), (2, .class_ 112), (0, u "java/lang/constant/Constable"), (0, .class_ 114), (0, u "java/lang/Comparable"), (0, .class_ 116), (0, u "java/io/Serializable")] 87

/-- java/lang/Enum -/
def k5 : Class := { plain "java/lang/Enum" (some 0) with
  accessFlags := 1057
  interfaces := #[2, 3, 4]
  cf := some (fileOf pool5 2 #[.nestMembers #[106]] #[] 1057 12 #[111, 113, 115] #[{ accessFlags := 18, nameIndex := 5, descriptorIndex := 6, attributes := #[] }, { accessFlags := 18, nameIndex := 9, descriptorIndex := 10, attributes := #[] }, { accessFlags := 2, nameIndex := 19, descriptorIndex := 10, attributes := #[] }])
  fields := #[{ name := "name", type := (.object "java/lang/String"), accessFlags := 18, slot := 0, constantValue := 0 }, { name := "ordinal", type := .int, accessFlags := 18, slot := 1, constantValue := 0 }, { name := "hash", type := .int, accessFlags := 2, slot := 2, constantValue := 0 }]
  methods := #[]
  instanceTypes := #[(.object "java/lang/String"), .int, .int]
  staticTypes := #[]
  resolved := Array.replicate 204 none
  statics := none }

def pool6 : Array CpInfo := pool [(1, .class_ 2), (0, u "com/example/verdictlint/verdictlint/sarif/Cap"), (2, u "RUNS"), (0, u "Lcom/example/verdictlint/verdictlint/sarif/Cap;"), (2, u "RESULTS"), (2, u "RULES"), (2, u "EXTENSIONS"), (2, u "LOCATIONS"), (2, u "THREAD_FLOW_LOCATIONS"), (2, u "TAGS"), (2, u "$VALUES"), (0, u "[Lcom/example/verdictlint/verdictlint/sarif/Cap;"), (6, .class_ 37), (1, u "java/lang/Enum"), (11, u "rule"), (0, u "Lcom/example/verdictlint/verdictlint/findings/Rule;"), (2, u "most"), (0, u "J"), (0, .fieldref 1 56), (0, .nameAndType 57 54), (0, u "kept"), (2, u "counted"), (0, u "Ljava/lang/String;"), (2, u "holder"), (105, u "(J)Z"), (1, u "dropsSomeOf")] 8

def k6c0 : Code := { maxStack := 4, maxLocals := 3, code := prog_26_method_8_code, exceptionTable := #[], attributes := #[] }
def k6m0 : Method := { name := "dropsSomeOf", desc := "(J)Z", sig := { parameters := [.long], returnType := some .boolean }, accessFlags := 0, code := some k6c0 }
/-- com/example/verdictlint/verdictlint/sarif/Cap -/
def k6 : Class := { plain "com/example/verdictlint/verdictlint/sarif/Cap" (some 5) with
  accessFlags := 16433
  interfaces := #[]
  cf := some (fileOf pool6 1 #[] #[{ accessFlags := 0, nameIndex := 172, descriptorIndex := 170, attributes := #[] }] 16433 35 #[] #[{ accessFlags := 16409, nameIndex := 5, descriptorIndex := 6, attributes := #[] }, { accessFlags := 16409, nameIndex := 9, descriptorIndex := 6, attributes := #[] }, { accessFlags := 16409, nameIndex := 12, descriptorIndex := 6, attributes := #[] }, { accessFlags := 16409, nameIndex := 15, descriptorIndex := 6, attributes := #[] }, { accessFlags := 16409, nameIndex := 18, descriptorIndex := 6, attributes := #[] }, { accessFlags := 16409, nameIndex := 21, descriptorIndex := 6, attributes := #[] }, { accessFlags := 16409, nameIndex := 24, descriptorIndex := 6, attributes := #[] }, { accessFlags := 18, nameIndex := 49, descriptorIndex := 50, attributes := #[] }, { accessFlags := 18, nameIndex := 53, descriptorIndex := 54, attributes := #[] }, { accessFlags := 18, nameIndex := 57, descriptorIndex := 54, attributes := #[] }, { accessFlags := 18, nameIndex := 60, descriptorIndex := 61, attributes := #[] }, { accessFlags := 18, nameIndex := 64, descriptorIndex := 61, attributes := #[] }, { accessFlags := 4122, nameIndex := 27, descriptorIndex := 28, attributes := #[] }])
  fields := #[{ name := "RUNS", type := (.object "com/example/verdictlint/verdictlint/sarif/Cap"), accessFlags := 16409, slot := 0, constantValue := 0 }, { name := "RESULTS", type := (.object "com/example/verdictlint/verdictlint/sarif/Cap"), accessFlags := 16409, slot := 1, constantValue := 0 }, { name := "RULES", type := (.object "com/example/verdictlint/verdictlint/sarif/Cap"), accessFlags := 16409, slot := 2, constantValue := 0 }, { name := "EXTENSIONS", type := (.object "com/example/verdictlint/verdictlint/sarif/Cap"), accessFlags := 16409, slot := 3, constantValue := 0 }, { name := "LOCATIONS", type := (.object "com/example/verdictlint/verdictlint/sarif/Cap"), accessFlags := 16409, slot := 4, constantValue := 0 }, { name := "THREAD_FLOW_LOCATIONS", type := (.object "com/example/verdictlint/verdictlint/sarif/Cap"), accessFlags := 16409, slot := 5, constantValue := 0 }, { name := "TAGS", type := (.object "com/example/verdictlint/verdictlint/sarif/Cap"), accessFlags := 16409, slot := 6, constantValue := 0 }, { name := "rule", type := (.object "com/example/verdictlint/verdictlint/findings/Rule"), accessFlags := 18, slot := 3, constantValue := 0 }, { name := "most", type := .long, accessFlags := 18, slot := 4, constantValue := 0 }, { name := "kept", type := .long, accessFlags := 18, slot := 5, constantValue := 0 }, { name := "counted", type := (.object "java/lang/String"), accessFlags := 18, slot := 6, constantValue := 0 }, { name := "holder", type := (.object "java/lang/String"), accessFlags := 18, slot := 7, constantValue := 0 }, { name := "$VALUES", type := (.array (.object "com/example/verdictlint/verdictlint/sarif/Cap")), accessFlags := 4122, slot := 7, constantValue := 0 }]
  methods := #[k6m0]
  instanceTypes := #[(.object "java/lang/String"), .int, .int, (.object "com/example/verdictlint/verdictlint/findings/Rule"), .long, .long, (.object "java/lang/String"), (.object "java/lang/String")]
  staticTypes := #[(.object "com/example/verdictlint/verdictlint/sarif/Cap"), (.object "com/example/verdictlint/verdictlint/sarif/Cap"), (.object "com/example/verdictlint/verdictlint/sarif/Cap"), (.object "com/example/verdictlint/verdictlint/sarif/Cap"), (.object "com/example/verdictlint/verdictlint/sarif/Cap"), (.object "com/example/verdictlint/verdictlint/sarif/Cap"), (.object "com/example/verdictlint/verdictlint/sarif/Cap"), (.array (.object "com/example/verdictlint/verdictlint/sarif/Cap"))]
  resolved := Array.replicate 181 none
  statics := some 0 }

def pool7 : Array CpInfo := pool [(1, u "java/lang/Cloneable"), (0, .class_ 1), (0, u "java/lang/Object"), (0, .class_ 3)] 3

/-- java/lang/Cloneable -/
def k7 : Class := { plain "java/lang/Cloneable" (some 0) with
  accessFlags := 1537
  interfaces := #[]
  cf := some (fileOf pool7 2 #[] #[] 1537 4 #[] #[])
  fields := #[]
  methods := #[]
  instanceTypes := #[]
  staticTypes := #[]
  resolved := Array.replicate 8 none
  statics := none }

/-- the primitive byte -/
def k8 : Class := { plain "byte" none with kind := .primitive 'B', accessFlags := 0x411 }
/-- [B -/
def k9 : Class := { plain "[B" (some 0) with kind := .array 8 .byte, interfaces := #[7, 4], accessFlags := 1041 }

def heap : Heap := #[{ cls := 6, slots := #[.ref 1, .ref 2, .ref 5, .ref 6, .ref 3, .ref 4, .ref 7, .null], vm := .statics 6 },
  { cls := 6, slots := #[.null, .int 0, .int 0, .null, .long 0, .long 20, .null, .null], vm := .none },
  { cls := 6, slots := #[.null, .int 0, .int 0, .null, .long 0, .long 25000, .null, .null], vm := .none },
  { cls := 6, slots := #[.null, .int 0, .int 0, .null, .long 0, .long 100, .null, .null], vm := .none },
  { cls := 6, slots := #[.null, .int 0, .int 0, .null, .long 0, .long 1000, .null, .null], vm := .none },
  { cls := 6, slots := #[.null, .int 0, .int 0, .null, .long 0, .long 25000, .null, .null], vm := .none },
  { cls := 6, slots := #[.null, .int 0, .int 0, .null, .long 0, .long 100, .null, .null], vm := .none },
  { cls := 6, slots := #[.null, .int 0, .int 0, .null, .long 0, .long 10, .null, .null], vm := .none }]
def classes : Array Class := #[k0, k1, k2, k3, k4, k5, k6, k7, k8, k9]
def interned : List (Array UInt16 × Addr) := []
def slotsUsed : Nat := 64
def theMethod : MethodId := ⟨1, 1⟩
def args0 : Array Value := #[.int 5, .long 6]
def aboutOver (below : List Frame) : State where
  vm := { classes := classes, interned := interned.toArray }
  heap := heap
  slotsUsed := slotsUsed
  threads := #[{ frames := .invoking theMethod args0 :: below }]
def below0 : List Frame := [.native { method := ⟨0, 0⟩, args := #[] }]
def about1 : State := aboutOver below0
def p0 : Program := .bare "" "" ""
def e0 : Env := launch0.env 0 0 0
theorem w_frames : about1.frames = Frame.invoking theMethod args0 :: below0 := rfl
set_option maxRecDepth 65536 in
theorem w_args : argsFit about1.vm theMethod args0 = true := by decide +kernel
set_option maxRecDepth 65536 in
theorem w_heap : heapFits about1 = true := by decide +kernel
set_option maxRecDepth 65536 in
theorem w_runnable : about1.curStatus? = some .runnable := by decide +kernel
set_option maxRecDepth 65536 in
theorem w_alone : about1.alone = true := by decide +kernel
set_option maxRecDepth 65536 in
theorem w_named : about1.methodNamed? x = some theMethod := by decide +kernel
set_option maxRecDepth 65536 in
theorem w_hears : about1.hears theMethod below0 = true := by decide +kernel
set_option maxRecDepth 65536 in
theorem w_ripe : about1.ripe theMethod args0 below0 = true := by decide +kernel
theorem w_running : about1.status = .running := rfl
set_option maxRecDepth 65536 in
theorem w_room : about1.hasRoom e0.platform room_1 = true :=
  launch0.hasRoom_least _ room_1 (by decide +kernel) (by decide +kernel) (by decide +kernel) (by decide +kernel) (by decide +kernel) (by decide +kernel)
theorem allAtoms_all (ts : List Jvm.Cond) (a : Array Jvm.Value) (st : Jvm.State) : (allAtoms ts).before a st = ts.all (fun c => c.before a st) := by
  induction ts with
  | nil => rfl
  | cons c t ih =>
    show (Jvm.Cond.and c (allAtoms t)).before a st = _
    rw [Jvm.Cond.before_and, ih, List.all_cons]
def words1 : List Jvm.Cond := Jvm.Cond.code x code maxLocals ret :: tables_1
/-- a 'code' word, met by the world's own term for the bytes: nothing is compared byte by byte -/
theorem code_word {y : MethodName} {bytes : ByteArray} {mx : Nat} {rt : Option FieldType} {a : Array Value} {s : State} {m : MethodId} {meth : Method} {c : Code} (h1 : s.methodNamed? y = some m) (h2 : s.vm.method? m = some meth) (h3 : meth.code = some c) (h4 : c.code = bytes)
    (h5 : (c.maxLocals == mx && c.exceptionTable.isEmpty && decide (c.maxStack ≤ mostOperands) && decide (meth.sig.returnType = rt) && !meth.locks && decide (parseMethodDescriptor y.desc = some meth.sig)) = true) : (Jvm.Cond.code y bytes mx rt).before a s = true := by
  simp only [Bool.and_eq_true, beq_iff_eq, Bool.not_eq_true', decide_eq_true_eq] at h5
  obtain ⟨⟨⟨⟨⟨g1, g2⟩, g3⟩, g4⟩, g5⟩, g6⟩ := h5
  simp [Cond.before, Cond.holds, Cond.value, h1, h2, h3, h4, g1, g2, g3, g4, g5, g6]
def isCode : Jvm.Cond → Bool
  | .code _ _ _ _ => true
  | _ => false
theorem all_split {L : List Jvm.Cond} {P : Jvm.Cond → Bool} (h1 : L.all (fun c => isCode c || P c) = true) (h2 : ∀ c ∈ L.filter isCode, P c = true) : L.all P = true := by
  refine List.all_eq_true.mpr fun c hc => ?_
  have h := List.all_eq_true.mp h1 c hc
  rcases Bool.eq_false_or_eq_true (isCode c) with hi | hi
  · exact h2 c (List.mem_filter.mpr ⟨hc, hi⟩)
  · simpa [hi] using h
set_option maxRecDepth 65536 in
theorem w_c0 : (Jvm.Cond.code x code maxLocals ret).before args0 about1 = true := code_word (m := ⟨1, 1⟩) (meth := k1m1) (c := k1c1) (by decide +kernel) rfl rfl rfl (by decide +kernel)
set_option maxRecDepth 65536 in
theorem w_c1 : (Jvm.Cond.code ({ cls := "com/example/verdictlint/verdictlint/sarif/Cap", name := "dropsSomeOf", desc := "(J)Z" } : Jvm.MethodName) prog_26_method_8_code (3 : Nat) (Option.some Jvm.ClassFile.FieldType.boolean)).before args0 about1 = true := code_word (m := ⟨6, 0⟩) (meth := k6m0) (c := k6c0) (by decide +kernel) rfl rfl rfl (by decide +kernel)
def codes1 : List Jvm.Cond := [Jvm.Cond.code x code maxLocals ret, Jvm.Cond.code ({ cls := "com/example/verdictlint/verdictlint/sarif/Cap", name := "dropsSomeOf", desc := "(J)Z" } : Jvm.MethodName) prog_26_method_8_code (3 : Nat) (Option.some Jvm.ClassFile.FieldType.boolean)]
set_option maxRecDepth 65536 in
theorem codes_eq : words1.filter isCode = codes1 := rfl
theorem w_codes : ∀ c ∈ words1.filter isCode, c.before args0 about1 = true := by
  rw [codes_eq]
  intro c hc
  simp only [codes1, List.mem_cons, List.not_mem_nil, or_false] at hc
  rcases hc with rfl | rfl
  · exact w_c0
  · exact w_c1
set_option maxRecDepth 65536 in
theorem w_t1 : (words1.take 24).all (fun c => isCode c || c.before args0 about1) = true := by decide +kernel
set_option maxRecDepth 65536 in
theorem w_t2 : (words1.drop 24).all (fun c => isCode c || c.before args0 about1) = true := by decide +kernel
theorem w_tables : (allAtoms (Jvm.Cond.code x code maxLocals ret :: tables_1)).before args0 about1 = true := by
  rw [allAtoms_all]
  show words1.all (fun c => c.before args0 about1) = true
  refine all_split ?_ w_codes
  rw [← List.take_append_drop 24 words1, List.all_append, w_t1, w_t2]
  rfl
set_option maxRecDepth 65536 in
theorem w_case : (Jvm.Cond.and given_1 narrow_1).before args0 about1 = true := by decide +kernel
theorem w_applies : (headSpec (Jvm.Cond.code x code maxLocals ret :: tables_1) room_1).applies x e0.platform about1 = true :=
  (Spec.applies_iff w_frames).mpr ⟨w_running, w_runnable, w_alone, w_named, w_hears, w_ripe, w_room, w_tables⟩
theorem atStart : AtStart classFile x code maxLocals ret World_1 tables_1 room_1 Calls_1 rest_1 Pre_1 launch0 p0 e0 about1 theMethod args0 below0 :=
  ⟨lists_1, trivial, launch0.admits_env _ _ _, launch0.least_env, fairChoices_fair.cas, fairChoices_fair.clock, w_frames, w_args, w_heap, w_applies, trivial, trivial, w_case⟩
end start1
theorem witness_1 : WitnessClaimed_1 := ⟨start1.p0, start1.e0, start1.about1, start1.theMethod, start1.args0, start1.below0, start1.atStart⟩
end Jvm.Pilot.@@N@@
