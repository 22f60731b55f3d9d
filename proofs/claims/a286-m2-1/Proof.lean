import JvmDerived
import JvmDerived.Pilot.@@N@@Statement
import JvmDerived.Pilot.@@N@@Code
set_option linter.unusedVariables false
set_option linter.unusedSimpArgs false
@@BLOCK:NumsL.lean.txt@@
namespace Jvm.RoadKit
open Sem ClassFile Op Lib Jvm.Stand Jvm.Free Jvm.LawKit
section New
variable {p : Program} {l : Launch} {e : Env} {R : Room} {s : State} {m : MethodId} {args : Array Value} {below : List Frame} {meth : Method} {c : Code} {T : State} {locs : List Loc} {cells slots : Nat}
theorem retI (X : Stand p l e R s m args below meth c T locs cells slots) (hx : p.tables.exec = Jvm.exec) {pc : Nat} {Ls : Array Slot} {z : Int32} {rest : List Value} (hret : meth.sig.returnType = some .int) (hd : decode c.code pc = .ok (.ireturn, 1)) {fs : List Frame}
    (hl : ∀ (f : JFrame) (acts : List Action), f.method = m → f.locked = none → f.entered = [] → (doReturn e (T.setTop f) acts (some (.int z))).1 = T.setFrames fs) : Steps p.tables e below (T.setTop (mkF m pc Ls (.int z :: rest))) (T.setFrames fs) := by
  have hm' : T.vm.method? m = some meth := X.method'
  have hn : narrow .int (.int z) = .int z := rfl
  show Steps p.tables e below (T.setTop { method := m, pc := pc, locals := Ls, stack := _ :: rest, locked := none }) _
  jvm_step X.here [X.here.top, hx, hd, hm', hret, hn]
  first | (intro acts; rw [hl _ acts rfl rfl rfl]) | rw [hl _ _ rfl rfl rfl]
  exact Steps.refl _
end New
end Jvm.RoadKit
namespace Jvm.Pilot.@@N@@
open Jvm Jvm.ClassFile Sem Op Lib Jvm.Free Jvm.Stand Jvm.LawKit Jvm.RoadKit Bundle Jvm.Pilot.@@N@@.Jvm.D
/-! 1. small laws of our own: the case's words, the masks, two objects that differ in a field -/
theorem own_fldI {args : Array Value} {s : State} {t : Term} {C n d : String} {k : Int32} {w : Addr} (ht : t.eval args s none [] s = some (.ref w)) (h : (Jvm.Cond.eq (.field t C n d) (.int k)).value args s none s [] = some true) : Fld s s.heap w C n d (.int k) :=
  Fld.start ((fld_at ht).symm.trans (eqv_i (by simp [Term.eval]) h))
theorem own_fldL {args : Array Value} {s : State} {t : Term} {C n d : String} {k : Int64} {w : Addr} (ht : t.eval args s none [] s = some (.ref w)) (h : (Jvm.Cond.eq (.field t C n d) (.long k)).value args s none s [] = some true) : Fld s s.heap w C n d (.long k) :=
  Fld.start ((fld_at ht).symm.trans (eqv_l (by simp [Term.eval]) h))
theorem own_xt {h h' h'' : Heap} (A : Ext h h') (B : Ext h' h'') : Ext h h'' := ⟨Nat.le_trans A.1 B.1, fun a c q => B.2 a c (A.2 a c q)⟩
theorem own_xk {h h' h'' : Heap} {ws : List Addr} (A : Ext h h') (K : Keep h' h'' ws) (q : ∀ x ∈ ws, h.size ≤ x) : Ext h h'' := ⟨Nat.le_trans A.1 K.1, fun a c r => K.2.1 a c (A.2 a c r) fun z => absurd (Array.getElem?_eq_some_iff.mp r).1 (Nat.not_lt.mpr (q a z))⟩
theorem own_xr (h : Heap) : Ext h h := ⟨Nat.le_refl _, fun _ _ q => q⟩
def QX (h0 : Heap) (n0 : Nat) (r : Option Value) (v : Option Value) (h : Heap) (L : List Loc) : Prop := v = r ∧ Fr n0 L ∧ Ext h0 h
def QO (Z : State) (h0 : Heap) (n0 : Nat) (K : String) (v : Option Value) (h : Heap) (L : List Loc) : Prop := ∃ r : Addr, v = some (.ref r) ∧ Fr n0 L ∧ Ext h0 h ∧ Exa Z h r K
def QL (n0 : Nat) (r : Option Value) (v : Option Value) (L : List Loc) : Prop := v = r ∧ Fr n0 L
def QR (h0 : Heap) (n0 : Nat) (r : Option Value) (v : Option Value) (h : Heap) (L : List Loc) : Prop := v = r ∧ Fr n0 L ∧ h = h0
theorem own_r12 (x : Int32) : (x &&& (2147483647 : Int32)) % (12 : Int32) = (0 : Int32) ∨ (x &&& (2147483647 : Int32)) % (12 : Int32) = (1 : Int32) ∨ (x &&& (2147483647 : Int32)) % (12 : Int32) = (2 : Int32) ∨ (x &&& (2147483647 : Int32)) % (12 : Int32) = (3 : Int32) ∨ (x &&& (2147483647 : Int32)) % (12 : Int32) = (4 : Int32) ∨ (x &&& (2147483647 : Int32)) % (12 : Int32) = (5 : Int32) ∨ (x &&& (2147483647 : Int32)) % (12 : Int32) = (6 : Int32) ∨ (x &&& (2147483647 : Int32)) % (12 : Int32) = (7 : Int32) ∨ (x &&& (2147483647 : Int32)) % (12 : Int32) = (8 : Int32) ∨ (x &&& (2147483647 : Int32)) % (12 : Int32) = (9 : Int32) ∨ (x &&& (2147483647 : Int32)) % (12 : Int32) = (10 : Int32) ∨ (x &&& (2147483647 : Int32)) % (12 : Int32) = (11 : Int32) := by
  have e : (x &&& (2147483647 : Int32)).toInt = x.toInt % 2 ^ 31 := Jvm.Kit.i32_mask x 2147483647 (by decide) (by decide)
  have f : ((x &&& (2147483647 : Int32)) % (12 : Int32)).toInt = (x &&& (2147483647 : Int32)).toInt.tmod (12 : Int32).toInt := Int32.toInt_mod _ _
  have d : (12 : Int32).toInt = 12 := by decide
  rw [d, Int.tmod_eq_emod_of_nonneg (by omega)] at f
  simp only [← Int32.toInt_inj]
  rw [f]
  have r : (0 : Int32).toInt = 0 ∧ (1 : Int32).toInt = 1 ∧ (2 : Int32).toInt = 2 ∧ (3 : Int32).toInt = 3 ∧ (4 : Int32).toInt = 4 ∧ (5 : Int32).toInt = 5 ∧ (6 : Int32).toInt = 6 ∧ (7 : Int32).toInt = 7 ∧ (8 : Int32).toInt = 8 ∧ (9 : Int32).toInt = 9 ∧ (10 : Int32).toInt = 10 ∧ (11 : Int32).toInt = 11 := ⟨by decide, by decide, by decide, by decide, by decide, by decide, by decide, by decide, by decide, by decide, by decide, by decide⟩
  simp only [r]
  omega
def Ctx (Z : State) (h : Heap) (w_MUSHROOM_SOUP w_CAESAR_SALAD w_ICE_CREAM w_BARBECUE_RIBS w_TAPAS w_CHRISTMAS_PASTA w_CHAMPAGNE w_T_BONE_STEAK w_ZERO_COLA w_CHOCOLATE_CAKE w_RED_WINE w_SEAFOOD_PASTA : Addr) : Prop := Sta Z h "com/example/tinsel_tally/tinseltally/model/Dish" "MUSHROOM_SOUP" "Lcom/example/tinsel_tally/tinseltally/model/Dish;" (.ref w_MUSHROOM_SOUP) ∧ Exa Z h w_MUSHROOM_SOUP "com/example/tinsel_tally/tinseltally/model/Dish" ∧ Fld Z h w_MUSHROOM_SOUP "com/example/tinsel_tally/tinseltally/model/Dish" "price" "I" (.int (6000 : Int32)) ∧ Sta Z h "com/example/tinsel_tally/tinseltally/model/Dish" "CAESAR_SALAD" "Lcom/example/tinsel_tally/tinseltally/model/Dish;" (.ref w_CAESAR_SALAD) ∧ Exa Z h w_CAESAR_SALAD "com/example/tinsel_tally/tinseltally/model/Dish" ∧ Fld Z h w_CAESAR_SALAD "com/example/tinsel_tally/tinseltally/model/Dish" "price" "I" (.int (8000 : Int32)) ∧ Sta Z h "com/example/tinsel_tally/tinseltally/model/Dish" "ICE_CREAM" "Lcom/example/tinsel_tally/tinseltally/model/Dish;" (.ref w_ICE_CREAM) ∧ Exa Z h w_ICE_CREAM "com/example/tinsel_tally/tinseltally/model/Dish" ∧ Fld Z h w_ICE_CREAM "com/example/tinsel_tally/tinseltally/model/Dish" "price" "I" (.int (5000 : Int32)) ∧ Sta Z h "com/example/tinsel_tally/tinseltally/model/Dish" "BARBECUE_RIBS" "Lcom/example/tinsel_tally/tinseltally/model/Dish;" (.ref w_BARBECUE_RIBS) ∧ Exa Z h w_BARBECUE_RIBS "com/example/tinsel_tally/tinseltally/model/Dish" ∧ Fld Z h w_BARBECUE_RIBS "com/example/tinsel_tally/tinseltally/model/Dish" "price" "I" (.int (54000 : Int32)) ∧ Sta Z h "com/example/tinsel_tally/tinseltally/model/Dish" "TAPAS" "Lcom/example/tinsel_tally/tinseltally/model/Dish;" (.ref w_TAPAS) ∧ Exa Z h w_TAPAS "com/example/tinsel_tally/tinseltally/model/Dish" ∧ Fld Z h w_TAPAS "com/example/tinsel_tally/tinseltally/model/Dish" "price" "I" (.int (5500 : Int32)) ∧ Sta Z h "com/example/tinsel_tally/tinseltally/model/Dish" "CHRISTMAS_PASTA" "Lcom/example/tinsel_tally/tinseltally/model/Dish;" (.ref w_CHRISTMAS_PASTA) ∧ Exa Z h w_CHRISTMAS_PASTA "com/example/tinsel_tally/tinseltally/model/Dish" ∧ Fld Z h w_CHRISTMAS_PASTA "com/example/tinsel_tally/tinseltally/model/Dish" "price" "I" (.int (25000 : Int32)) ∧ Sta Z h "com/example/tinsel_tally/tinseltally/model/Dish" "CHAMPAGNE" "Lcom/example/tinsel_tally/tinseltally/model/Dish;" (.ref w_CHAMPAGNE) ∧ Exa Z h w_CHAMPAGNE "com/example/tinsel_tally/tinseltally/model/Dish" ∧ Fld Z h w_CHAMPAGNE "com/example/tinsel_tally/tinseltally/model/Dish" "price" "I" (.int (25000 : Int32)) ∧ Sta Z h "com/example/tinsel_tally/tinseltally/model/Dish" "T_BONE_STEAK" "Lcom/example/tinsel_tally/tinseltally/model/Dish;" (.ref w_T_BONE_STEAK) ∧ Exa Z h w_T_BONE_STEAK "com/example/tinsel_tally/tinseltally/model/Dish" ∧ Fld Z h w_T_BONE_STEAK "com/example/tinsel_tally/tinseltally/model/Dish" "price" "I" (.int (55000 : Int32)) ∧ Sta Z h "com/example/tinsel_tally/tinseltally/model/Dish" "ZERO_COLA" "Lcom/example/tinsel_tally/tinseltally/model/Dish;" (.ref w_ZERO_COLA) ∧ Exa Z h w_ZERO_COLA "com/example/tinsel_tally/tinseltally/model/Dish" ∧ Fld Z h w_ZERO_COLA "com/example/tinsel_tally/tinseltally/model/Dish" "price" "I" (.int (3000 : Int32)) ∧ Sta Z h "com/example/tinsel_tally/tinseltally/model/Dish" "CHOCOLATE_CAKE" "Lcom/example/tinsel_tally/tinseltally/model/Dish;" (.ref w_CHOCOLATE_CAKE) ∧ Exa Z h w_CHOCOLATE_CAKE "com/example/tinsel_tally/tinseltally/model/Dish" ∧ Fld Z h w_CHOCOLATE_CAKE "com/example/tinsel_tally/tinseltally/model/Dish" "price" "I" (.int (15000 : Int32)) ∧ Sta Z h "com/example/tinsel_tally/tinseltally/model/Dish" "RED_WINE" "Lcom/example/tinsel_tally/tinseltally/model/Dish;" (.ref w_RED_WINE) ∧ Exa Z h w_RED_WINE "com/example/tinsel_tally/tinseltally/model/Dish" ∧ Fld Z h w_RED_WINE "com/example/tinsel_tally/tinseltally/model/Dish" "price" "I" (.int (60000 : Int32)) ∧ Sta Z h "com/example/tinsel_tally/tinseltally/model/Dish" "SEAFOOD_PASTA" "Lcom/example/tinsel_tally/tinseltally/model/Dish;" (.ref w_SEAFOOD_PASTA) ∧ Exa Z h w_SEAFOOD_PASTA "com/example/tinsel_tally/tinseltally/model/Dish" ∧ Fld Z h w_SEAFOOD_PASTA "com/example/tinsel_tally/tinseltally/model/Dish" "price" "I" (.int (35000 : Int32)) ∧ True
theorem own_cx {Z : State} {h h' : Heap} {w_MUSHROOM_SOUP w_CAESAR_SALAD w_ICE_CREAM w_BARBECUE_RIBS w_TAPAS w_CHRISTMAS_PASTA w_CHAMPAGNE w_T_BONE_STEAK w_ZERO_COLA w_CHOCOLATE_CAKE w_RED_WINE w_SEAFOOD_PASTA : Addr} (x : Ext h h') (C : Ctx Z h w_MUSHROOM_SOUP w_CAESAR_SALAD w_ICE_CREAM w_BARBECUE_RIBS w_TAPAS w_CHRISTMAS_PASTA w_CHAMPAGNE w_T_BONE_STEAK w_ZERO_COLA w_CHOCOLATE_CAKE w_RED_WINE w_SEAFOOD_PASTA) : Ctx Z h' w_MUSHROOM_SOUP w_CAESAR_SALAD w_ICE_CREAM w_BARBECUE_RIBS w_TAPAS w_CHRISTMAS_PASTA w_CHAMPAGNE w_T_BONE_STEAK w_ZERO_COLA w_CHOCOLATE_CAKE w_RED_WINE w_SEAFOOD_PASTA := by
  obtain ⟨S_MUSHROOM_SOUP, E_MUSHROOM_SOUP, F_MUSHROOM_SOUP_price, S_CAESAR_SALAD, E_CAESAR_SALAD, F_CAESAR_SALAD_price, S_ICE_CREAM, E_ICE_CREAM, F_ICE_CREAM_price, S_BARBECUE_RIBS, E_BARBECUE_RIBS, F_BARBECUE_RIBS_price, S_TAPAS, E_TAPAS, F_TAPAS_price, S_CHRISTMAS_PASTA, E_CHRISTMAS_PASTA, F_CHRISTMAS_PASTA_price, S_CHAMPAGNE, E_CHAMPAGNE, F_CHAMPAGNE_price, S_T_BONE_STEAK, E_T_BONE_STEAK, F_T_BONE_STEAK_price, S_ZERO_COLA, E_ZERO_COLA, F_ZERO_COLA_price, S_CHOCOLATE_CAKE, E_CHOCOLATE_CAKE, F_CHOCOLATE_CAKE_price, S_RED_WINE, E_RED_WINE, F_RED_WINE_price, S_SEAFOOD_PASTA, E_SEAFOOD_PASTA, F_SEAFOOD_PASTA_price, -⟩ := C
  exact ⟨S_MUSHROOM_SOUP.ext x, E_MUSHROOM_SOUP.ext x, F_MUSHROOM_SOUP_price.ext x, S_CAESAR_SALAD.ext x, E_CAESAR_SALAD.ext x, F_CAESAR_SALAD_price.ext x, S_ICE_CREAM.ext x, E_ICE_CREAM.ext x, F_ICE_CREAM_price.ext x, S_BARBECUE_RIBS.ext x, E_BARBECUE_RIBS.ext x, F_BARBECUE_RIBS_price.ext x, S_TAPAS.ext x, E_TAPAS.ext x, F_TAPAS_price.ext x, S_CHRISTMAS_PASTA.ext x, E_CHRISTMAS_PASTA.ext x, F_CHRISTMAS_PASTA_price.ext x, S_CHAMPAGNE.ext x, E_CHAMPAGNE.ext x, F_CHAMPAGNE_price.ext x, S_T_BONE_STEAK.ext x, E_T_BONE_STEAK.ext x, F_T_BONE_STEAK_price.ext x, S_ZERO_COLA.ext x, E_ZERO_COLA.ext x, F_ZERO_COLA_price.ext x, S_CHOCOLATE_CAKE.ext x, E_CHOCOLATE_CAKE.ext x, F_CHOCOLATE_CAKE_price.ext x, S_RED_WINE.ext x, E_RED_WINE.ext x, F_RED_WINE_price.ext x, S_SEAFOOD_PASTA.ext x, E_SEAFOOD_PASTA.ext x, F_SEAFOOD_PASTA_price.ext x, trivial⟩
theorem own_price (U x : Int32) (hU : (0 : Int32) < U) : U ≠ 0 ∧ (2147483647 : Int32) / U ≠ 0 ∧ ¬ (((1 : Int32) + ((x &&& (2147483647 : Int32)) % ((2147483647 : Int32) / U))) < (1 : Int32)) ∧ (lcmpW ((U * ((1 : Int32) + ((x &&& (2147483647 : Int32)) % ((2147483647 : Int32) / U)))).toInt64) ((U.toInt64) * (((1 : Int32) + ((x &&& (2147483647 : Int32)) % ((2147483647 : Int32) / U))).toInt64))) = (0 : Int32) := by
  have m1 : (2147483647 : Int32).toInt = 2147483647 := by decide
  have o1 : (1 : Int32).toInt = 1 := by decide
  have z1 : (0 : Int32).toInt = 0 := by decide
  have u0 : 0 < U.toInt := by rw [Int32.lt_iff_toInt_lt, z1] at hU; exact hU
  have u1 : U.toInt < 2 ^ 31 := U.toInt_lt
  have dv : ((2147483647 : Int32) / U).toInt = 2147483647 / U.toInt := by
    rw [Jvm.Kit.i32_div (by rw [m1]; omega), m1, Int.tdiv_eq_ediv_of_nonneg (by omega)]
  have mk : (x &&& (2147483647 : Int32)).toInt = x.toInt % 2 ^ 31 := Jvm.Kit.i32_mask x 2147483647 (by decide) (by decide)
  have rm : ((x &&& (2147483647 : Int32)) % ((2147483647 : Int32) / U)).toInt = (x &&& (2147483647 : Int32)).toInt % ((2147483647 : Int32) / U).toInt := Jvm.Kit.i32_rem_nonneg (by omega)
  have le1 : U.toInt * (2147483647 / U.toInt) ≤ 2147483647 := Int.mul_ediv_self_le (by omega)
  have d0 : 0 < 2147483647 / U.toInt := by
    have := Int.ediv_le_ediv u0 (show U.toInt ≤ 2147483647 by omega)
    rw [Int.ediv_self (by omega)] at this
    omega
  generalize hD : (2147483647 : Int32) / U = D at *
  rw [← dv] at d0 le1
  have r0 : 0 ≤ ((x &&& (2147483647 : Int32)) % D).toInt := by rw [rm]; exact Int.emod_nonneg _ (by omega)
  have r1 : ((x &&& (2147483647 : Int32)) % D).toInt < D.toInt := by rw [rm]; exact Int.emod_lt_of_pos _ d0
  have dl : D.toInt < 2 ^ 31 := D.toInt_lt
  generalize (x &&& (2147483647 : Int32)) % D = r at *
  have ct : ((1 : Int32) + r).toInt = 1 + r.toInt := by rw [Jvm.Kit.i32_add (by rw [o1]; omega) (by rw [o1]; omega), o1]
  have pr : U.toInt * (1 + r.toInt) ≤ 2147483647 := Int.le_trans (Int.mul_le_mul_of_nonneg_left (show 1 + r.toInt ≤ D.toInt by omega) (by omega)) le1
  have pn : 0 ≤ U.toInt * (1 + r.toInt) := Int.mul_nonneg (by omega) (by omega)
  refine ⟨fun q => ?_, fun q => ?_, fun q => ?_, ?_⟩
  · rw [q, z1] at u0; omega
  · rw [q, z1] at d0; omega
  · rw [Int32.lt_iff_toInt_lt, ct, o1] at q; omega
  · rw [lw_eq, ← Int64.toInt_inj, Jvm.Kit.i64_of_i32, Jvm.Kit.i32_mul (by rw [ct]; omega) (by rw [ct]; omega), Jvm.Kit.i64_mul (by rw [Jvm.Kit.i64_of_i32, Jvm.Kit.i64_of_i32, ct]; omega) (by rw [Jvm.Kit.i64_of_i32, Jvm.Kit.i64_of_i32, ct]; omega), Jvm.Kit.i64_of_i32, Jvm.Kit.i64_of_i32]
theorem d1_0 : decode method_2_code 0 = .ok (.iload_n 0, 1) := by decide +kernel
theorem d1_1 : decode method_2_code 1 = .ok (.ifCond .ne 7, 3) := by decide +kernel
theorem d1_4 : decode method_2_code 4 = .ok (.getstatic 7, 3) := by decide +kernel
theorem d1_7 : decode method_2_code 7 = .ok (.areturn, 1) := by decide +kernel
theorem d1_8 : decode method_2_code 8 = .ok (.iload_n 0, 1) := by decide +kernel
theorem d1_9 : decode method_2_code 9 = .ok (.iconst 1, 1) := by decide +kernel
theorem d1_10 : decode method_2_code 10 = .ok (.if_icmp .ne 7, 3) := by decide +kernel
theorem d1_13 : decode method_2_code 13 = .ok (.getstatic 13, 3) := by decide +kernel
theorem d1_16 : decode method_2_code 16 = .ok (.areturn, 1) := by decide +kernel
theorem d1_17 : decode method_2_code 17 = .ok (.iload_n 0, 1) := by decide +kernel
theorem d1_18 : decode method_2_code 18 = .ok (.iconst 2, 1) := by decide +kernel
theorem d1_19 : decode method_2_code 19 = .ok (.if_icmp .ne 7, 3) := by decide +kernel
theorem d1_22 : decode method_2_code 22 = .ok (.getstatic 16, 3) := by decide +kernel
theorem d1_25 : decode method_2_code 25 = .ok (.areturn, 1) := by decide +kernel
theorem d1_26 : decode method_2_code 26 = .ok (.iload_n 0, 1) := by decide +kernel
theorem d1_27 : decode method_2_code 27 = .ok (.iconst 3, 1) := by decide +kernel
theorem d1_28 : decode method_2_code 28 = .ok (.if_icmp .ne 7, 3) := by decide +kernel
theorem d1_31 : decode method_2_code 31 = .ok (.getstatic 19, 3) := by decide +kernel
theorem d1_34 : decode method_2_code 34 = .ok (.areturn, 1) := by decide +kernel
theorem d1_35 : decode method_2_code 35 = .ok (.iload_n 0, 1) := by decide +kernel
theorem d1_36 : decode method_2_code 36 = .ok (.iconst 4, 1) := by decide +kernel
theorem d1_37 : decode method_2_code 37 = .ok (.if_icmp .ne 7, 3) := by decide +kernel
theorem d1_40 : decode method_2_code 40 = .ok (.getstatic 22, 3) := by decide +kernel
theorem d1_43 : decode method_2_code 43 = .ok (.areturn, 1) := by decide +kernel
theorem d1_44 : decode method_2_code 44 = .ok (.iload_n 0, 1) := by decide +kernel
theorem d1_45 : decode method_2_code 45 = .ok (.iconst 5, 1) := by decide +kernel
theorem d1_46 : decode method_2_code 46 = .ok (.if_icmp .ne 7, 3) := by decide +kernel
theorem d1_49 : decode method_2_code 49 = .ok (.getstatic 25, 3) := by decide +kernel
theorem d1_52 : decode method_2_code 52 = .ok (.areturn, 1) := by decide +kernel
theorem d1_53 : decode method_2_code 53 = .ok (.iload_n 0, 1) := by decide +kernel
theorem d1_54 : decode method_2_code 54 = .ok (.bipush 6, 2) := by decide +kernel
theorem d1_56 : decode method_2_code 56 = .ok (.if_icmp .ne 7, 3) := by decide +kernel
theorem d1_59 : decode method_2_code 59 = .ok (.getstatic 28, 3) := by decide +kernel
theorem d1_62 : decode method_2_code 62 = .ok (.areturn, 1) := by decide +kernel
theorem d1_63 : decode method_2_code 63 = .ok (.iload_n 0, 1) := by decide +kernel
theorem d1_64 : decode method_2_code 64 = .ok (.bipush 7, 2) := by decide +kernel
theorem d1_66 : decode method_2_code 66 = .ok (.if_icmp .ne 7, 3) := by decide +kernel
theorem d1_69 : decode method_2_code 69 = .ok (.getstatic 31, 3) := by decide +kernel
theorem d1_72 : decode method_2_code 72 = .ok (.areturn, 1) := by decide +kernel
theorem d1_73 : decode method_2_code 73 = .ok (.iload_n 0, 1) := by decide +kernel
theorem d1_74 : decode method_2_code 74 = .ok (.bipush 8, 2) := by decide +kernel
theorem d1_76 : decode method_2_code 76 = .ok (.if_icmp .ne 7, 3) := by decide +kernel
theorem d1_79 : decode method_2_code 79 = .ok (.getstatic 34, 3) := by decide +kernel
theorem d1_82 : decode method_2_code 82 = .ok (.areturn, 1) := by decide +kernel
theorem d1_83 : decode method_2_code 83 = .ok (.iload_n 0, 1) := by decide +kernel
theorem d1_84 : decode method_2_code 84 = .ok (.bipush 9, 2) := by decide +kernel
theorem d1_86 : decode method_2_code 86 = .ok (.if_icmp .ne 7, 3) := by decide +kernel
theorem d1_89 : decode method_2_code 89 = .ok (.getstatic 37, 3) := by decide +kernel
theorem d1_92 : decode method_2_code 92 = .ok (.areturn, 1) := by decide +kernel
theorem d1_93 : decode method_2_code 93 = .ok (.iload_n 0, 1) := by decide +kernel
theorem d1_94 : decode method_2_code 94 = .ok (.bipush 10, 2) := by decide +kernel
theorem d1_96 : decode method_2_code 96 = .ok (.if_icmp .ne 7, 3) := by decide +kernel
theorem d1_99 : decode method_2_code 99 = .ok (.getstatic 40, 3) := by decide +kernel
theorem d1_102 : decode method_2_code 102 = .ok (.areturn, 1) := by decide +kernel
theorem d1_103 : decode method_2_code 103 = .ok (.getstatic 43, 3) := by decide +kernel
theorem d1_106 : decode method_2_code 106 = .ok (.areturn, 1) := by decide +kernel
theorem pn_1 : plainName "com/example/tinsel_tally/tinseltally/model/OrderLinePricePinLaw" = true := by first | (simp [plainName, overriddenIn]; done) | decide +kernel
theorem ef_1 (m : MethodId) (x0 : Int32) : entryFrame m #[(.int x0)] 1 = mkF m 0 #[.val (.int x0)] [] := by first | (simp [entryFrame, mkF, argsToLocals, Value.category]; done) | rfl
set_option maxRecDepth 65536 in
set_option maxHeartbeats 40000000 in
theorem rm1_0 (l : Launch) (Z : State) (a0 : Array Value) (hw : ∀ d ∈ tables_1, d.before a0 Z = true) (ws : List Jvm.Cond) (w_MUSHROOM_SOUP w_CAESAR_SALAD w_ICE_CREAM w_BARBECUE_RIBS w_TAPAS w_CHRISTMAS_PASTA w_CHAMPAGNE w_T_BONE_STEAK w_ZERO_COLA w_CHOCOLATE_CAKE w_RED_WINE w_SEAFOOD_PASTA : Addr) (h0 : Heap) (n0 : Nat) (Z0 : n0 ≤ h0.size) (C : Ctx Z h0 w_MUSHROOM_SOUP w_CAESAR_SALAD w_ICE_CREAM w_BARBECUE_RIBS w_TAPAS w_CHRISTMAS_PASTA w_CHAMPAGNE w_T_BONE_STEAK w_ZERO_COLA w_CHOCOLATE_CAKE w_RED_WINE w_SEAFOOD_PASTA)  :
    MetFree l (⟨"com/example/tinsel_tally/tinseltally/model/OrderLinePricePinLaw", "dishOf", "(I)Lcom/example/tinsel_tally/tinseltally/model/Dish;"⟩ : MethodName) (head1 (Jvm.Cond.code (⟨"com/example/tinsel_tally/tinseltally/model/OrderLinePricePinLaw", "dishOf", "(I)Lcom/example/tinsel_tally/tinseltally/model/Dish;"⟩ : MethodName) method_2_code 1 (some (.object "com/example/tinsel_tally/tinseltally/model/Dish")) :: ws) ({ frames := 0, cells := 0, slots := 0, locals := 0 } : Room)) (fun a U => a = #[(.int (0 : Int32))] ∧ Z.Warmed39 U.vm ∧ U.heap = h0) (fun _ _ _ _ _ => True) (fun _ U o U' => ∃ v L, o = .returned v ∧ QR h0 n0 (some (.ref w_MUSHROOM_SOUP)) v U'.heap L ∧ FrameEnd U o U' L ({ frames := 0, cells := 0, slots := 0, locals := 0 } : Room).cells ({ frames := 0, cells := 0, slots := 0, locals := 0 } : Room).slots) := by
  have S_MUSHROOM_SOUP := C.1
  refine MetFree.of_bodySF (plainFor_of_name pn_1) hisR ?_
  intro p e s m args below meth c s₁ Bd hml0 hP hK
  obtain ⟨rfl, hZ, hh⟩ := hP
  have hx := Bd.exec
  have hby := Bd.bytes
  have hml : c.maxLocals = 1 := hml0
  have hown : s.vm.findClass "com/example/tinsel_tally/tinseltally/model/OrderLinePricePinLaw" = some m.cls := findClass_of_methodNamed Bd.named
  have hnm := (name_of_methodNamed Bd.named Bd.method).1
  have X0 : Stand p l e ({ frames := 0, cells := 0, slots := 0, locals := 0 } : Room) s m #[(.int (0 : Int32))] below meth c s₁ [] 0 0 := Stand.of_body Bd
  have e0 : s₁.heap = h0 := by rw [← hh, Bd.state]; rfl
  have N0 := Fr.nil n0
  have pre0 : ∀ t, Steps p.tables e below (s₁.setTop (mkF m 0 #[.val (.int (0 : Int32))] [])) t → Steps p.tables e below (s₁.setTop (entryFrame m #[(.int (0 : Int32))] 1)) t := fun t k => castTop (ef_1 m (0 : Int32)) k
  obtain ⟨T1, X1, e1, st1⟩ := getS2 X0 hx hZ hown (host := "") (Or.inl (hw _ (List.mem_of_getElem? (i := 5) rfl))) Via.refl e0 S_MUSHROOM_SOUP (g := (mkF m 4 #[.val (.int (0 : Int32))] [])) rfl (hb hby d1_4)
  obtain ⟨fs, hr, hrun, hended, hW, hsame⟩ := X1.leave (v := (some (.ref w_MUSHROOM_SOUP))) (fun h => by rw [Bd.returns] at h; cases h)
  refine ⟨_, _, pre0 _ ?_, hrun, hended, _, _, rfl, ?_, ⟨_, rfl⟩, hW, hsame.mono (by decide) (by decide)⟩
  · show Steps p.tables e below (s₁.setTop (mkF m 0 #[.val (.int (0 : Int32))] [])) _
    refine XS.iloadN X0.here hx rfl (hb hby d1_0) rfl ?_
    show Steps p.tables e below (s₁.setTop (mkF m 1 #[.val (.int (0 : Int32))] [(.int (0 : Int32))])) _
    refine XS.ifNo X0.here hx rfl (hb hby d1_1) rfl ((if0 _ _).trans (teq (by decide +kernel : (0 : Int32) = (0 : Int32))).2) ?_
    show Steps p.tables e below (s₁.setTop (mkF m 4 #[.val (.int (0 : Int32))] [])) _
    refine st1 _ ?_
    show Steps p.tables e below (T1.setTop (mkF m 7 #[.val (.int (0 : Int32))] [(.ref w_MUSHROOM_SOUP)])) _
    jvm_step X1.here [X1.here.top, hx, (hb hby d1_7), X1.method', Bd.returns, Value.isRef, FieldType.isReference]
    first | (intro acts; rw [hr _ acts rfl rfl rfl]) | rw [hr _ _ rfl rfl rfl]
    exact Steps.refl _
  · exact ⟨rfl, N0, e1⟩
set_option maxRecDepth 65536 in
set_option maxHeartbeats 40000000 in
theorem rm1_1 (l : Launch) (Z : State) (a0 : Array Value) (hw : ∀ d ∈ tables_1, d.before a0 Z = true) (ws : List Jvm.Cond) (w_MUSHROOM_SOUP w_CAESAR_SALAD w_ICE_CREAM w_BARBECUE_RIBS w_TAPAS w_CHRISTMAS_PASTA w_CHAMPAGNE w_T_BONE_STEAK w_ZERO_COLA w_CHOCOLATE_CAKE w_RED_WINE w_SEAFOOD_PASTA : Addr) (h0 : Heap) (n0 : Nat) (Z0 : n0 ≤ h0.size) (C : Ctx Z h0 w_MUSHROOM_SOUP w_CAESAR_SALAD w_ICE_CREAM w_BARBECUE_RIBS w_TAPAS w_CHRISTMAS_PASTA w_CHAMPAGNE w_T_BONE_STEAK w_ZERO_COLA w_CHOCOLATE_CAKE w_RED_WINE w_SEAFOOD_PASTA)  :
    MetFree l (⟨"com/example/tinsel_tally/tinseltally/model/OrderLinePricePinLaw", "dishOf", "(I)Lcom/example/tinsel_tally/tinseltally/model/Dish;"⟩ : MethodName) (head1 (Jvm.Cond.code (⟨"com/example/tinsel_tally/tinseltally/model/OrderLinePricePinLaw", "dishOf", "(I)Lcom/example/tinsel_tally/tinseltally/model/Dish;"⟩ : MethodName) method_2_code 1 (some (.object "com/example/tinsel_tally/tinseltally/model/Dish")) :: ws) ({ frames := 0, cells := 0, slots := 0, locals := 0 } : Room)) (fun a U => a = #[(.int (1 : Int32))] ∧ Z.Warmed39 U.vm ∧ U.heap = h0) (fun _ _ _ _ _ => True) (fun _ U o U' => ∃ v L, o = .returned v ∧ QR h0 n0 (some (.ref w_TAPAS)) v U'.heap L ∧ FrameEnd U o U' L ({ frames := 0, cells := 0, slots := 0, locals := 0 } : Room).cells ({ frames := 0, cells := 0, slots := 0, locals := 0 } : Room).slots) := by
  have S_TAPAS := C.2.2.2.2.2.2.2.2.2.2.2.2.1
  refine MetFree.of_bodySF (plainFor_of_name pn_1) hisR ?_
  intro p e s m args below meth c s₁ Bd hml0 hP hK
  obtain ⟨rfl, hZ, hh⟩ := hP
  have hx := Bd.exec
  have hby := Bd.bytes
  have hml : c.maxLocals = 1 := hml0
  have hown : s.vm.findClass "com/example/tinsel_tally/tinseltally/model/OrderLinePricePinLaw" = some m.cls := findClass_of_methodNamed Bd.named
  have hnm := (name_of_methodNamed Bd.named Bd.method).1
  have X0 : Stand p l e ({ frames := 0, cells := 0, slots := 0, locals := 0 } : Room) s m #[(.int (1 : Int32))] below meth c s₁ [] 0 0 := Stand.of_body Bd
  have e0 : s₁.heap = h0 := by rw [← hh, Bd.state]; rfl
  have N0 := Fr.nil n0
  have pre0 : ∀ t, Steps p.tables e below (s₁.setTop (mkF m 0 #[.val (.int (1 : Int32))] [])) t → Steps p.tables e below (s₁.setTop (entryFrame m #[(.int (1 : Int32))] 1)) t := fun t k => castTop (ef_1 m (1 : Int32)) k
  obtain ⟨T1, X1, e1, st1⟩ := getS2 X0 hx hZ hown (host := "") (Or.inl (hw _ (List.mem_of_getElem? (i := 58) rfl))) Via.refl e0 S_TAPAS (g := (mkF m 13 #[.val (.int (1 : Int32))] [])) rfl (hb hby d1_13)
  obtain ⟨fs, hr, hrun, hended, hW, hsame⟩ := X1.leave (v := (some (.ref w_TAPAS))) (fun h => by rw [Bd.returns] at h; cases h)
  refine ⟨_, _, pre0 _ ?_, hrun, hended, _, _, rfl, ?_, ⟨_, rfl⟩, hW, hsame.mono (by decide) (by decide)⟩
  · show Steps p.tables e below (s₁.setTop (mkF m 0 #[.val (.int (1 : Int32))] [])) _
    refine XS.iloadN X0.here hx rfl (hb hby d1_0) rfl ?_
    show Steps p.tables e below (s₁.setTop (mkF m 1 #[.val (.int (1 : Int32))] [(.int (1 : Int32))])) _
    refine XS.ifYes X0.here hx rfl (pc0 := 1) (pc' := 8) rfl (hb hby d1_1) rfl ((if0 _ _).trans (feq (by decide +kernel : ¬ ((1 : Int32) = (0 : Int32)))).2) (by decide) (by decide) ?_
    show Steps p.tables e below (s₁.setTop (mkF m 8 #[.val (.int (1 : Int32))] [])) _
    refine XS.iloadN X0.here hx rfl (hb hby d1_8) rfl ?_
    show Steps p.tables e below (s₁.setTop (mkF m 9 #[.val (.int (1 : Int32))] [(.int (1 : Int32))])) _
    refine XS.iconst X0.here hx rfl (hb hby d1_9) ?_
    show Steps p.tables e below (s₁.setTop (mkF m 10 #[.val (.int (1 : Int32))] [(.int (1 : Int32)), (.int (1 : Int32))])) _
    refine XS.icmpNo X0.here hx rfl (hb hby d1_10) rfl (teq (by decide +kernel : (1 : Int32) = (1 : Int32))).2 ?_
    show Steps p.tables e below (s₁.setTop (mkF m 13 #[.val (.int (1 : Int32))] [])) _
    refine st1 _ ?_
    show Steps p.tables e below (T1.setTop (mkF m 16 #[.val (.int (1 : Int32))] [(.ref w_TAPAS)])) _
    jvm_step X1.here [X1.here.top, hx, (hb hby d1_16), X1.method', Bd.returns, Value.isRef, FieldType.isReference]
    first | (intro acts; rw [hr _ acts rfl rfl rfl]) | rw [hr _ _ rfl rfl rfl]
    exact Steps.refl _
  · exact ⟨rfl, N0, e1⟩
set_option maxRecDepth 65536 in
set_option maxHeartbeats 40000000 in
theorem rm1_2 (l : Launch) (Z : State) (a0 : Array Value) (hw : ∀ d ∈ tables_1, d.before a0 Z = true) (ws : List Jvm.Cond) (w_MUSHROOM_SOUP w_CAESAR_SALAD w_ICE_CREAM w_BARBECUE_RIBS w_TAPAS w_CHRISTMAS_PASTA w_CHAMPAGNE w_T_BONE_STEAK w_ZERO_COLA w_CHOCOLATE_CAKE w_RED_WINE w_SEAFOOD_PASTA : Addr) (h0 : Heap) (n0 : Nat) (Z0 : n0 ≤ h0.size) (C : Ctx Z h0 w_MUSHROOM_SOUP w_CAESAR_SALAD w_ICE_CREAM w_BARBECUE_RIBS w_TAPAS w_CHRISTMAS_PASTA w_CHAMPAGNE w_T_BONE_STEAK w_ZERO_COLA w_CHOCOLATE_CAKE w_RED_WINE w_SEAFOOD_PASTA)  :
    MetFree l (⟨"com/example/tinsel_tally/tinseltally/model/OrderLinePricePinLaw", "dishOf", "(I)Lcom/example/tinsel_tally/tinseltally/model/Dish;"⟩ : MethodName) (head1 (Jvm.Cond.code (⟨"com/example/tinsel_tally/tinseltally/model/OrderLinePricePinLaw", "dishOf", "(I)Lcom/example/tinsel_tally/tinseltally/model/Dish;"⟩ : MethodName) method_2_code 1 (some (.object "com/example/tinsel_tally/tinseltally/model/Dish")) :: ws) ({ frames := 0, cells := 0, slots := 0, locals := 0 } : Room)) (fun a U => a = #[(.int (2 : Int32))] ∧ Z.Warmed39 U.vm ∧ U.heap = h0) (fun _ _ _ _ _ => True) (fun _ U o U' => ∃ v L, o = .returned v ∧ QR h0 n0 (some (.ref w_CAESAR_SALAD)) v U'.heap L ∧ FrameEnd U o U' L ({ frames := 0, cells := 0, slots := 0, locals := 0 } : Room).cells ({ frames := 0, cells := 0, slots := 0, locals := 0 } : Room).slots) := by
  have S_CAESAR_SALAD := C.2.2.2.1
  refine MetFree.of_bodySF (plainFor_of_name pn_1) hisR ?_
  intro p e s m args below meth c s₁ Bd hml0 hP hK
  obtain ⟨rfl, hZ, hh⟩ := hP
  have hx := Bd.exec
  have hby := Bd.bytes
  have hml : c.maxLocals = 1 := hml0
  have hown : s.vm.findClass "com/example/tinsel_tally/tinseltally/model/OrderLinePricePinLaw" = some m.cls := findClass_of_methodNamed Bd.named
  have hnm := (name_of_methodNamed Bd.named Bd.method).1
  have X0 : Stand p l e ({ frames := 0, cells := 0, slots := 0, locals := 0 } : Room) s m #[(.int (2 : Int32))] below meth c s₁ [] 0 0 := Stand.of_body Bd
  have e0 : s₁.heap = h0 := by rw [← hh, Bd.state]; rfl
  have N0 := Fr.nil n0
  have pre0 : ∀ t, Steps p.tables e below (s₁.setTop (mkF m 0 #[.val (.int (2 : Int32))] [])) t → Steps p.tables e below (s₁.setTop (entryFrame m #[(.int (2 : Int32))] 1)) t := fun t k => castTop (ef_1 m (2 : Int32)) k
  obtain ⟨T1, X1, e1, st1⟩ := getS2 X0 hx hZ hown (host := "") (Or.inl (hw _ (List.mem_of_getElem? (i := 51) rfl))) Via.refl e0 S_CAESAR_SALAD (g := (mkF m 22 #[.val (.int (2 : Int32))] [])) rfl (hb hby d1_22)
  obtain ⟨fs, hr, hrun, hended, hW, hsame⟩ := X1.leave (v := (some (.ref w_CAESAR_SALAD))) (fun h => by rw [Bd.returns] at h; cases h)
  refine ⟨_, _, pre0 _ ?_, hrun, hended, _, _, rfl, ?_, ⟨_, rfl⟩, hW, hsame.mono (by decide) (by decide)⟩
  · show Steps p.tables e below (s₁.setTop (mkF m 0 #[.val (.int (2 : Int32))] [])) _
    refine XS.iloadN X0.here hx rfl (hb hby d1_0) rfl ?_
    show Steps p.tables e below (s₁.setTop (mkF m 1 #[.val (.int (2 : Int32))] [(.int (2 : Int32))])) _
    refine XS.ifYes X0.here hx rfl (pc0 := 1) (pc' := 8) rfl (hb hby d1_1) rfl ((if0 _ _).trans (feq (by decide +kernel : ¬ ((2 : Int32) = (0 : Int32)))).2) (by decide) (by decide) ?_
    show Steps p.tables e below (s₁.setTop (mkF m 8 #[.val (.int (2 : Int32))] [])) _
    refine XS.iloadN X0.here hx rfl (hb hby d1_8) rfl ?_
    show Steps p.tables e below (s₁.setTop (mkF m 9 #[.val (.int (2 : Int32))] [(.int (2 : Int32))])) _
    refine XS.iconst X0.here hx rfl (hb hby d1_9) ?_
    show Steps p.tables e below (s₁.setTop (mkF m 10 #[.val (.int (2 : Int32))] [(.int (1 : Int32)), (.int (2 : Int32))])) _
    refine XS.icmpYes X0.here hx rfl (pc0 := 10) (pc' := 17) rfl (hb hby d1_10) rfl (feq (by decide +kernel : ¬ ((2 : Int32) = (1 : Int32)))).2 (by decide) (by decide) ?_
    show Steps p.tables e below (s₁.setTop (mkF m 17 #[.val (.int (2 : Int32))] [])) _
    refine XS.iloadN X0.here hx rfl (hb hby d1_17) rfl ?_
    show Steps p.tables e below (s₁.setTop (mkF m 18 #[.val (.int (2 : Int32))] [(.int (2 : Int32))])) _
    refine XS.iconst X0.here hx rfl (hb hby d1_18) ?_
    show Steps p.tables e below (s₁.setTop (mkF m 19 #[.val (.int (2 : Int32))] [(.int (2 : Int32)), (.int (2 : Int32))])) _
    refine XS.icmpNo X0.here hx rfl (hb hby d1_19) rfl (teq (by decide +kernel : (2 : Int32) = (2 : Int32))).2 ?_
    show Steps p.tables e below (s₁.setTop (mkF m 22 #[.val (.int (2 : Int32))] [])) _
    refine st1 _ ?_
    show Steps p.tables e below (T1.setTop (mkF m 25 #[.val (.int (2 : Int32))] [(.ref w_CAESAR_SALAD)])) _
    jvm_step X1.here [X1.here.top, hx, (hb hby d1_25), X1.method', Bd.returns, Value.isRef, FieldType.isReference]
    first | (intro acts; rw [hr _ acts rfl rfl rfl]) | rw [hr _ _ rfl rfl rfl]
    exact Steps.refl _
  · exact ⟨rfl, N0, e1⟩
set_option maxRecDepth 65536 in
set_option maxHeartbeats 40000000 in
theorem rm1_3 (l : Launch) (Z : State) (a0 : Array Value) (hw : ∀ d ∈ tables_1, d.before a0 Z = true) (ws : List Jvm.Cond) (w_MUSHROOM_SOUP w_CAESAR_SALAD w_ICE_CREAM w_BARBECUE_RIBS w_TAPAS w_CHRISTMAS_PASTA w_CHAMPAGNE w_T_BONE_STEAK w_ZERO_COLA w_CHOCOLATE_CAKE w_RED_WINE w_SEAFOOD_PASTA : Addr) (h0 : Heap) (n0 : Nat) (Z0 : n0 ≤ h0.size) (C : Ctx Z h0 w_MUSHROOM_SOUP w_CAESAR_SALAD w_ICE_CREAM w_BARBECUE_RIBS w_TAPAS w_CHRISTMAS_PASTA w_CHAMPAGNE w_T_BONE_STEAK w_ZERO_COLA w_CHOCOLATE_CAKE w_RED_WINE w_SEAFOOD_PASTA)  :
    MetFree l (⟨"com/example/tinsel_tally/tinseltally/model/OrderLinePricePinLaw", "dishOf", "(I)Lcom/example/tinsel_tally/tinseltally/model/Dish;"⟩ : MethodName) (head1 (Jvm.Cond.code (⟨"com/example/tinsel_tally/tinseltally/model/OrderLinePricePinLaw", "dishOf", "(I)Lcom/example/tinsel_tally/tinseltally/model/Dish;"⟩ : MethodName) method_2_code 1 (some (.object "com/example/tinsel_tally/tinseltally/model/Dish")) :: ws) ({ frames := 0, cells := 0, slots := 0, locals := 0 } : Room)) (fun a U => a = #[(.int (3 : Int32))] ∧ Z.Warmed39 U.vm ∧ U.heap = h0) (fun _ _ _ _ _ => True) (fun _ U o U' => ∃ v L, o = .returned v ∧ QR h0 n0 (some (.ref w_T_BONE_STEAK)) v U'.heap L ∧ FrameEnd U o U' L ({ frames := 0, cells := 0, slots := 0, locals := 0 } : Room).cells ({ frames := 0, cells := 0, slots := 0, locals := 0 } : Room).slots) := by
  have S_T_BONE_STEAK := C.2.2.2.2.2.2.2.2.2.2.2.2.2.2.2.2.2.2.2.2.2.1
  refine MetFree.of_bodySF (plainFor_of_name pn_1) hisR ?_
  intro p e s m args below meth c s₁ Bd hml0 hP hK
  obtain ⟨rfl, hZ, hh⟩ := hP
  have hx := Bd.exec
  have hby := Bd.bytes
  have hml : c.maxLocals = 1 := hml0
  have hown : s.vm.findClass "com/example/tinsel_tally/tinseltally/model/OrderLinePricePinLaw" = some m.cls := findClass_of_methodNamed Bd.named
  have hnm := (name_of_methodNamed Bd.named Bd.method).1
  have X0 : Stand p l e ({ frames := 0, cells := 0, slots := 0, locals := 0 } : Room) s m #[(.int (3 : Int32))] below meth c s₁ [] 0 0 := Stand.of_body Bd
  have e0 : s₁.heap = h0 := by rw [← hh, Bd.state]; rfl
  have N0 := Fr.nil n0
  have pre0 : ∀ t, Steps p.tables e below (s₁.setTop (mkF m 0 #[.val (.int (3 : Int32))] [])) t → Steps p.tables e below (s₁.setTop (entryFrame m #[(.int (3 : Int32))] 1)) t := fun t k => castTop (ef_1 m (3 : Int32)) k
  obtain ⟨T1, X1, e1, st1⟩ := getS2 X0 hx hZ hown (host := "") (Or.inl (hw _ (List.mem_of_getElem? (i := 64) rfl))) Via.refl e0 S_T_BONE_STEAK (g := (mkF m 31 #[.val (.int (3 : Int32))] [])) rfl (hb hby d1_31)
  obtain ⟨fs, hr, hrun, hended, hW, hsame⟩ := X1.leave (v := (some (.ref w_T_BONE_STEAK))) (fun h => by rw [Bd.returns] at h; cases h)
  refine ⟨_, _, pre0 _ ?_, hrun, hended, _, _, rfl, ?_, ⟨_, rfl⟩, hW, hsame.mono (by decide) (by decide)⟩
  · show Steps p.tables e below (s₁.setTop (mkF m 0 #[.val (.int (3 : Int32))] [])) _
    refine XS.iloadN X0.here hx rfl (hb hby d1_0) rfl ?_
    show Steps p.tables e below (s₁.setTop (mkF m 1 #[.val (.int (3 : Int32))] [(.int (3 : Int32))])) _
    refine XS.ifYes X0.here hx rfl (pc0 := 1) (pc' := 8) rfl (hb hby d1_1) rfl ((if0 _ _).trans (feq (by decide +kernel : ¬ ((3 : Int32) = (0 : Int32)))).2) (by decide) (by decide) ?_
    show Steps p.tables e below (s₁.setTop (mkF m 8 #[.val (.int (3 : Int32))] [])) _
    refine XS.iloadN X0.here hx rfl (hb hby d1_8) rfl ?_
    show Steps p.tables e below (s₁.setTop (mkF m 9 #[.val (.int (3 : Int32))] [(.int (3 : Int32))])) _
    refine XS.iconst X0.here hx rfl (hb hby d1_9) ?_
    show Steps p.tables e below (s₁.setTop (mkF m 10 #[.val (.int (3 : Int32))] [(.int (1 : Int32)), (.int (3 : Int32))])) _
    refine XS.icmpYes X0.here hx rfl (pc0 := 10) (pc' := 17) rfl (hb hby d1_10) rfl (feq (by decide +kernel : ¬ ((3 : Int32) = (1 : Int32)))).2 (by decide) (by decide) ?_
    show Steps p.tables e below (s₁.setTop (mkF m 17 #[.val (.int (3 : Int32))] [])) _
    refine XS.iloadN X0.here hx rfl (hb hby d1_17) rfl ?_
    show Steps p.tables e below (s₁.setTop (mkF m 18 #[.val (.int (3 : Int32))] [(.int (3 : Int32))])) _
    refine XS.iconst X0.here hx rfl (hb hby d1_18) ?_
    show Steps p.tables e below (s₁.setTop (mkF m 19 #[.val (.int (3 : Int32))] [(.int (2 : Int32)), (.int (3 : Int32))])) _
    refine XS.icmpYes X0.here hx rfl (pc0 := 19) (pc' := 26) rfl (hb hby d1_19) rfl (feq (by decide +kernel : ¬ ((3 : Int32) = (2 : Int32)))).2 (by decide) (by decide) ?_
    show Steps p.tables e below (s₁.setTop (mkF m 26 #[.val (.int (3 : Int32))] [])) _
    refine XS.iloadN X0.here hx rfl (hb hby d1_26) rfl ?_
    show Steps p.tables e below (s₁.setTop (mkF m 27 #[.val (.int (3 : Int32))] [(.int (3 : Int32))])) _
    refine XS.iconst X0.here hx rfl (hb hby d1_27) ?_
    show Steps p.tables e below (s₁.setTop (mkF m 28 #[.val (.int (3 : Int32))] [(.int (3 : Int32)), (.int (3 : Int32))])) _
    refine XS.icmpNo X0.here hx rfl (hb hby d1_28) rfl (teq (by decide +kernel : (3 : Int32) = (3 : Int32))).2 ?_
    show Steps p.tables e below (s₁.setTop (mkF m 31 #[.val (.int (3 : Int32))] [])) _
    refine st1 _ ?_
    show Steps p.tables e below (T1.setTop (mkF m 34 #[.val (.int (3 : Int32))] [(.ref w_T_BONE_STEAK)])) _
    jvm_step X1.here [X1.here.top, hx, (hb hby d1_34), X1.method', Bd.returns, Value.isRef, FieldType.isReference]
    first | (intro acts; rw [hr _ acts rfl rfl rfl]) | rw [hr _ _ rfl rfl rfl]
    exact Steps.refl _
  · exact ⟨rfl, N0, e1⟩
set_option maxRecDepth 65536 in
set_option maxHeartbeats 40000000 in
theorem rm1_4 (l : Launch) (Z : State) (a0 : Array Value) (hw : ∀ d ∈ tables_1, d.before a0 Z = true) (ws : List Jvm.Cond) (w_MUSHROOM_SOUP w_CAESAR_SALAD w_ICE_CREAM w_BARBECUE_RIBS w_TAPAS w_CHRISTMAS_PASTA w_CHAMPAGNE w_T_BONE_STEAK w_ZERO_COLA w_CHOCOLATE_CAKE w_RED_WINE w_SEAFOOD_PASTA : Addr) (h0 : Heap) (n0 : Nat) (Z0 : n0 ≤ h0.size) (C : Ctx Z h0 w_MUSHROOM_SOUP w_CAESAR_SALAD w_ICE_CREAM w_BARBECUE_RIBS w_TAPAS w_CHRISTMAS_PASTA w_CHAMPAGNE w_T_BONE_STEAK w_ZERO_COLA w_CHOCOLATE_CAKE w_RED_WINE w_SEAFOOD_PASTA)  :
    MetFree l (⟨"com/example/tinsel_tally/tinseltally/model/OrderLinePricePinLaw", "dishOf", "(I)Lcom/example/tinsel_tally/tinseltally/model/Dish;"⟩ : MethodName) (head1 (Jvm.Cond.code (⟨"com/example/tinsel_tally/tinseltally/model/OrderLinePricePinLaw", "dishOf", "(I)Lcom/example/tinsel_tally/tinseltally/model/Dish;"⟩ : MethodName) method_2_code 1 (some (.object "com/example/tinsel_tally/tinseltally/model/Dish")) :: ws) ({ frames := 0, cells := 0, slots := 0, locals := 0 } : Room)) (fun a U => a = #[(.int (4 : Int32))] ∧ Z.Warmed39 U.vm ∧ U.heap = h0) (fun _ _ _ _ _ => True) (fun _ U o U' => ∃ v L, o = .returned v ∧ QR h0 n0 (some (.ref w_BARBECUE_RIBS)) v U'.heap L ∧ FrameEnd U o U' L ({ frames := 0, cells := 0, slots := 0, locals := 0 } : Room).cells ({ frames := 0, cells := 0, slots := 0, locals := 0 } : Room).slots) := by
  have S_BARBECUE_RIBS := C.2.2.2.2.2.2.2.2.2.1
  refine MetFree.of_bodySF (plainFor_of_name pn_1) hisR ?_
  intro p e s m args below meth c s₁ Bd hml0 hP hK
  obtain ⟨rfl, hZ, hh⟩ := hP
  have hx := Bd.exec
  have hby := Bd.bytes
  have hml : c.maxLocals = 1 := hml0
  have hown : s.vm.findClass "com/example/tinsel_tally/tinseltally/model/OrderLinePricePinLaw" = some m.cls := findClass_of_methodNamed Bd.named
  have hnm := (name_of_methodNamed Bd.named Bd.method).1
  have X0 : Stand p l e ({ frames := 0, cells := 0, slots := 0, locals := 0 } : Room) s m #[(.int (4 : Int32))] below meth c s₁ [] 0 0 := Stand.of_body Bd
  have e0 : s₁.heap = h0 := by rw [← hh, Bd.state]; rfl
  have N0 := Fr.nil n0
  have pre0 : ∀ t, Steps p.tables e below (s₁.setTop (mkF m 0 #[.val (.int (4 : Int32))] [])) t → Steps p.tables e below (s₁.setTop (entryFrame m #[(.int (4 : Int32))] 1)) t := fun t k => castTop (ef_1 m (4 : Int32)) k
  obtain ⟨T1, X1, e1, st1⟩ := getS2 X0 hx hZ hown (host := "") (Or.inl (hw _ (List.mem_of_getElem? (i := 55) rfl))) Via.refl e0 S_BARBECUE_RIBS (g := (mkF m 40 #[.val (.int (4 : Int32))] [])) rfl (hb hby d1_40)
  obtain ⟨fs, hr, hrun, hended, hW, hsame⟩ := X1.leave (v := (some (.ref w_BARBECUE_RIBS))) (fun h => by rw [Bd.returns] at h; cases h)
  refine ⟨_, _, pre0 _ ?_, hrun, hended, _, _, rfl, ?_, ⟨_, rfl⟩, hW, hsame.mono (by decide) (by decide)⟩
  · show Steps p.tables e below (s₁.setTop (mkF m 0 #[.val (.int (4 : Int32))] [])) _
    refine XS.iloadN X0.here hx rfl (hb hby d1_0) rfl ?_
    show Steps p.tables e below (s₁.setTop (mkF m 1 #[.val (.int (4 : Int32))] [(.int (4 : Int32))])) _
    refine XS.ifYes X0.here hx rfl (pc0 := 1) (pc' := 8) rfl (hb hby d1_1) rfl ((if0 _ _).trans (feq (by decide +kernel : ¬ ((4 : Int32) = (0 : Int32)))).2) (by decide) (by decide) ?_
    show Steps p.tables e below (s₁.setTop (mkF m 8 #[.val (.int (4 : Int32))] [])) _
    refine XS.iloadN X0.here hx rfl (hb hby d1_8) rfl ?_
    show Steps p.tables e below (s₁.setTop (mkF m 9 #[.val (.int (4 : Int32))] [(.int (4 : Int32))])) _
    refine XS.iconst X0.here hx rfl (hb hby d1_9) ?_
    show Steps p.tables e below (s₁.setTop (mkF m 10 #[.val (.int (4 : Int32))] [(.int (1 : Int32)), (.int (4 : Int32))])) _
    refine XS.icmpYes X0.here hx rfl (pc0 := 10) (pc' := 17) rfl (hb hby d1_10) rfl (feq (by decide +kernel : ¬ ((4 : Int32) = (1 : Int32)))).2 (by decide) (by decide) ?_
    show Steps p.tables e below (s₁.setTop (mkF m 17 #[.val (.int (4 : Int32))] [])) _
    refine XS.iloadN X0.here hx rfl (hb hby d1_17) rfl ?_
    show Steps p.tables e below (s₁.setTop (mkF m 18 #[.val (.int (4 : Int32))] [(.int (4 : Int32))])) _
    refine XS.iconst X0.here hx rfl (hb hby d1_18) ?_
    show Steps p.tables e below (s₁.setTop (mkF m 19 #[.val (.int (4 : Int32))] [(.int (2 : Int32)), (.int (4 : Int32))])) _
    refine XS.icmpYes X0.here hx rfl (pc0 := 19) (pc' := 26) rfl (hb hby d1_19) rfl (feq (by decide +kernel : ¬ ((4 : Int32) = (2 : Int32)))).2 (by decide) (by decide) ?_
    show Steps p.tables e below (s₁.setTop (mkF m 26 #[.val (.int (4 : Int32))] [])) _
    refine XS.iloadN X0.here hx rfl (hb hby d1_26) rfl ?_
    show Steps p.tables e below (s₁.setTop (mkF m 27 #[.val (.int (4 : Int32))] [(.int (4 : Int32))])) _
    refine XS.iconst X0.here hx rfl (hb hby d1_27) ?_
    show Steps p.tables e below (s₁.setTop (mkF m 28 #[.val (.int (4 : Int32))] [(.int (3 : Int32)), (.int (4 : Int32))])) _
    refine XS.icmpYes X0.here hx rfl (pc0 := 28) (pc' := 35) rfl (hb hby d1_28) rfl (feq (by decide +kernel : ¬ ((4 : Int32) = (3 : Int32)))).2 (by decide) (by decide) ?_
    show Steps p.tables e below (s₁.setTop (mkF m 35 #[.val (.int (4 : Int32))] [])) _
    refine XS.iloadN X0.here hx rfl (hb hby d1_35) rfl ?_
    show Steps p.tables e below (s₁.setTop (mkF m 36 #[.val (.int (4 : Int32))] [(.int (4 : Int32))])) _
    refine XS.iconst X0.here hx rfl (hb hby d1_36) ?_
    show Steps p.tables e below (s₁.setTop (mkF m 37 #[.val (.int (4 : Int32))] [(.int (4 : Int32)), (.int (4 : Int32))])) _
    refine XS.icmpNo X0.here hx rfl (hb hby d1_37) rfl (teq (by decide +kernel : (4 : Int32) = (4 : Int32))).2 ?_
    show Steps p.tables e below (s₁.setTop (mkF m 40 #[.val (.int (4 : Int32))] [])) _
    refine st1 _ ?_
    show Steps p.tables e below (T1.setTop (mkF m 43 #[.val (.int (4 : Int32))] [(.ref w_BARBECUE_RIBS)])) _
    jvm_step X1.here [X1.here.top, hx, (hb hby d1_43), X1.method', Bd.returns, Value.isRef, FieldType.isReference]
    first | (intro acts; rw [hr _ acts rfl rfl rfl]) | rw [hr _ _ rfl rfl rfl]
    exact Steps.refl _
  · exact ⟨rfl, N0, e1⟩
set_option maxRecDepth 65536 in
set_option maxHeartbeats 40000000 in
theorem rm1_5 (l : Launch) (Z : State) (a0 : Array Value) (hw : ∀ d ∈ tables_1, d.before a0 Z = true) (ws : List Jvm.Cond) (w_MUSHROOM_SOUP w_CAESAR_SALAD w_ICE_CREAM w_BARBECUE_RIBS w_TAPAS w_CHRISTMAS_PASTA w_CHAMPAGNE w_T_BONE_STEAK w_ZERO_COLA w_CHOCOLATE_CAKE w_RED_WINE w_SEAFOOD_PASTA : Addr) (h0 : Heap) (n0 : Nat) (Z0 : n0 ≤ h0.size) (C : Ctx Z h0 w_MUSHROOM_SOUP w_CAESAR_SALAD w_ICE_CREAM w_BARBECUE_RIBS w_TAPAS w_CHRISTMAS_PASTA w_CHAMPAGNE w_T_BONE_STEAK w_ZERO_COLA w_CHOCOLATE_CAKE w_RED_WINE w_SEAFOOD_PASTA)  :
    MetFree l (⟨"com/example/tinsel_tally/tinseltally/model/OrderLinePricePinLaw", "dishOf", "(I)Lcom/example/tinsel_tally/tinseltally/model/Dish;"⟩ : MethodName) (head1 (Jvm.Cond.code (⟨"com/example/tinsel_tally/tinseltally/model/OrderLinePricePinLaw", "dishOf", "(I)Lcom/example/tinsel_tally/tinseltally/model/Dish;"⟩ : MethodName) method_2_code 1 (some (.object "com/example/tinsel_tally/tinseltally/model/Dish")) :: ws) ({ frames := 0, cells := 0, slots := 0, locals := 0 } : Room)) (fun a U => a = #[(.int (5 : Int32))] ∧ Z.Warmed39 U.vm ∧ U.heap = h0) (fun _ _ _ _ _ => True) (fun _ U o U' => ∃ v L, o = .returned v ∧ QR h0 n0 (some (.ref w_SEAFOOD_PASTA)) v U'.heap L ∧ FrameEnd U o U' L ({ frames := 0, cells := 0, slots := 0, locals := 0 } : Room).cells ({ frames := 0, cells := 0, slots := 0, locals := 0 } : Room).slots) := by
  have S_SEAFOOD_PASTA := C.2.2.2.2.2.2.2.2.2.2.2.2.2.2.2.2.2.2.2.2.2.2.2.2.2.2.2.2.2.2.2.2.2.1
  refine MetFree.of_bodySF (plainFor_of_name pn_1) hisR ?_
  intro p e s m args below meth c s₁ Bd hml0 hP hK
  obtain ⟨rfl, hZ, hh⟩ := hP
  have hx := Bd.exec
  have hby := Bd.bytes
  have hml : c.maxLocals = 1 := hml0
  have hown : s.vm.findClass "com/example/tinsel_tally/tinseltally/model/OrderLinePricePinLaw" = some m.cls := findClass_of_methodNamed Bd.named
  have hnm := (name_of_methodNamed Bd.named Bd.method).1
  have X0 : Stand p l e ({ frames := 0, cells := 0, slots := 0, locals := 0 } : Room) s m #[(.int (5 : Int32))] below meth c s₁ [] 0 0 := Stand.of_body Bd
  have e0 : s₁.heap = h0 := by rw [← hh, Bd.state]; rfl
  have N0 := Fr.nil n0
  have pre0 : ∀ t, Steps p.tables e below (s₁.setTop (mkF m 0 #[.val (.int (5 : Int32))] [])) t → Steps p.tables e below (s₁.setTop (entryFrame m #[(.int (5 : Int32))] 1)) t := fun t k => castTop (ef_1 m (5 : Int32)) k
  obtain ⟨T1, X1, e1, st1⟩ := getS2 X0 hx hZ hown (host := "") (Or.inl (hw _ (List.mem_of_getElem? (i := 74) rfl))) Via.refl e0 S_SEAFOOD_PASTA (g := (mkF m 49 #[.val (.int (5 : Int32))] [])) rfl (hb hby d1_49)
  obtain ⟨fs, hr, hrun, hended, hW, hsame⟩ := X1.leave (v := (some (.ref w_SEAFOOD_PASTA))) (fun h => by rw [Bd.returns] at h; cases h)
  refine ⟨_, _, pre0 _ ?_, hrun, hended, _, _, rfl, ?_, ⟨_, rfl⟩, hW, hsame.mono (by decide) (by decide)⟩
  · show Steps p.tables e below (s₁.setTop (mkF m 0 #[.val (.int (5 : Int32))] [])) _
    refine XS.iloadN X0.here hx rfl (hb hby d1_0) rfl ?_
    show Steps p.tables e below (s₁.setTop (mkF m 1 #[.val (.int (5 : Int32))] [(.int (5 : Int32))])) _
    refine XS.ifYes X0.here hx rfl (pc0 := 1) (pc' := 8) rfl (hb hby d1_1) rfl ((if0 _ _).trans (feq (by decide +kernel : ¬ ((5 : Int32) = (0 : Int32)))).2) (by decide) (by decide) ?_
    show Steps p.tables e below (s₁.setTop (mkF m 8 #[.val (.int (5 : Int32))] [])) _
    refine XS.iloadN X0.here hx rfl (hb hby d1_8) rfl ?_
    show Steps p.tables e below (s₁.setTop (mkF m 9 #[.val (.int (5 : Int32))] [(.int (5 : Int32))])) _
    refine XS.iconst X0.here hx rfl (hb hby d1_9) ?_
    show Steps p.tables e below (s₁.setTop (mkF m 10 #[.val (.int (5 : Int32))] [(.int (1 : Int32)), (.int (5 : Int32))])) _
    refine XS.icmpYes X0.here hx rfl (pc0 := 10) (pc' := 17) rfl (hb hby d1_10) rfl (feq (by decide +kernel : ¬ ((5 : Int32) = (1 : Int32)))).2 (by decide) (by decide) ?_
    show Steps p.tables e below (s₁.setTop (mkF m 17 #[.val (.int (5 : Int32))] [])) _
    refine XS.iloadN X0.here hx rfl (hb hby d1_17) rfl ?_
    show Steps p.tables e below (s₁.setTop (mkF m 18 #[.val (.int (5 : Int32))] [(.int (5 : Int32))])) _
    refine XS.iconst X0.here hx rfl (hb hby d1_18) ?_
    show Steps p.tables e below (s₁.setTop (mkF m 19 #[.val (.int (5 : Int32))] [(.int (2 : Int32)), (.int (5 : Int32))])) _
    refine XS.icmpYes X0.here hx rfl (pc0 := 19) (pc' := 26) rfl (hb hby d1_19) rfl (feq (by decide +kernel : ¬ ((5 : Int32) = (2 : Int32)))).2 (by decide) (by decide) ?_
    show Steps p.tables e below (s₁.setTop (mkF m 26 #[.val (.int (5 : Int32))] [])) _
    refine XS.iloadN X0.here hx rfl (hb hby d1_26) rfl ?_
    show Steps p.tables e below (s₁.setTop (mkF m 27 #[.val (.int (5 : Int32))] [(.int (5 : Int32))])) _
    refine XS.iconst X0.here hx rfl (hb hby d1_27) ?_
    show Steps p.tables e below (s₁.setTop (mkF m 28 #[.val (.int (5 : Int32))] [(.int (3 : Int32)), (.int (5 : Int32))])) _
    refine XS.icmpYes X0.here hx rfl (pc0 := 28) (pc' := 35) rfl (hb hby d1_28) rfl (feq (by decide +kernel : ¬ ((5 : Int32) = (3 : Int32)))).2 (by decide) (by decide) ?_
    show Steps p.tables e below (s₁.setTop (mkF m 35 #[.val (.int (5 : Int32))] [])) _
    refine XS.iloadN X0.here hx rfl (hb hby d1_35) rfl ?_
    show Steps p.tables e below (s₁.setTop (mkF m 36 #[.val (.int (5 : Int32))] [(.int (5 : Int32))])) _
    refine XS.iconst X0.here hx rfl (hb hby d1_36) ?_
    show Steps p.tables e below (s₁.setTop (mkF m 37 #[.val (.int (5 : Int32))] [(.int (4 : Int32)), (.int (5 : Int32))])) _
    refine XS.icmpYes X0.here hx rfl (pc0 := 37) (pc' := 44) rfl (hb hby d1_37) rfl (feq (by decide +kernel : ¬ ((5 : Int32) = (4 : Int32)))).2 (by decide) (by decide) ?_
    show Steps p.tables e below (s₁.setTop (mkF m 44 #[.val (.int (5 : Int32))] [])) _
    refine XS.iloadN X0.here hx rfl (hb hby d1_44) rfl ?_
    show Steps p.tables e below (s₁.setTop (mkF m 45 #[.val (.int (5 : Int32))] [(.int (5 : Int32))])) _
    refine XS.iconst X0.here hx rfl (hb hby d1_45) ?_
    show Steps p.tables e below (s₁.setTop (mkF m 46 #[.val (.int (5 : Int32))] [(.int (5 : Int32)), (.int (5 : Int32))])) _
    refine XS.icmpNo X0.here hx rfl (hb hby d1_46) rfl (teq (by decide +kernel : (5 : Int32) = (5 : Int32))).2 ?_
    show Steps p.tables e below (s₁.setTop (mkF m 49 #[.val (.int (5 : Int32))] [])) _
    refine st1 _ ?_
    show Steps p.tables e below (T1.setTop (mkF m 52 #[.val (.int (5 : Int32))] [(.ref w_SEAFOOD_PASTA)])) _
    jvm_step X1.here [X1.here.top, hx, (hb hby d1_52), X1.method', Bd.returns, Value.isRef, FieldType.isReference]
    first | (intro acts; rw [hr _ acts rfl rfl rfl]) | rw [hr _ _ rfl rfl rfl]
    exact Steps.refl _
  · exact ⟨rfl, N0, e1⟩
set_option maxRecDepth 65536 in
set_option maxHeartbeats 40000000 in
theorem rm1_6 (l : Launch) (Z : State) (a0 : Array Value) (hw : ∀ d ∈ tables_1, d.before a0 Z = true) (ws : List Jvm.Cond) (w_MUSHROOM_SOUP w_CAESAR_SALAD w_ICE_CREAM w_BARBECUE_RIBS w_TAPAS w_CHRISTMAS_PASTA w_CHAMPAGNE w_T_BONE_STEAK w_ZERO_COLA w_CHOCOLATE_CAKE w_RED_WINE w_SEAFOOD_PASTA : Addr) (h0 : Heap) (n0 : Nat) (Z0 : n0 ≤ h0.size) (C : Ctx Z h0 w_MUSHROOM_SOUP w_CAESAR_SALAD w_ICE_CREAM w_BARBECUE_RIBS w_TAPAS w_CHRISTMAS_PASTA w_CHAMPAGNE w_T_BONE_STEAK w_ZERO_COLA w_CHOCOLATE_CAKE w_RED_WINE w_SEAFOOD_PASTA)  :
    MetFree l (⟨"com/example/tinsel_tally/tinseltally/model/OrderLinePricePinLaw", "dishOf", "(I)Lcom/example/tinsel_tally/tinseltally/model/Dish;"⟩ : MethodName) (head1 (Jvm.Cond.code (⟨"com/example/tinsel_tally/tinseltally/model/OrderLinePricePinLaw", "dishOf", "(I)Lcom/example/tinsel_tally/tinseltally/model/Dish;"⟩ : MethodName) method_2_code 1 (some (.object "com/example/tinsel_tally/tinseltally/model/Dish")) :: ws) ({ frames := 0, cells := 0, slots := 0, locals := 0 } : Room)) (fun a U => a = #[(.int (6 : Int32))] ∧ Z.Warmed39 U.vm ∧ U.heap = h0) (fun _ _ _ _ _ => True) (fun _ U o U' => ∃ v L, o = .returned v ∧ QR h0 n0 (some (.ref w_CHRISTMAS_PASTA)) v U'.heap L ∧ FrameEnd U o U' L ({ frames := 0, cells := 0, slots := 0, locals := 0 } : Room).cells ({ frames := 0, cells := 0, slots := 0, locals := 0 } : Room).slots) := by
  have S_CHRISTMAS_PASTA := C.2.2.2.2.2.2.2.2.2.2.2.2.2.2.2.1
  refine MetFree.of_bodySF (plainFor_of_name pn_1) hisR ?_
  intro p e s m args below meth c s₁ Bd hml0 hP hK
  obtain ⟨rfl, hZ, hh⟩ := hP
  have hx := Bd.exec
  have hby := Bd.bytes
  have hml : c.maxLocals = 1 := hml0
  have hown : s.vm.findClass "com/example/tinsel_tally/tinseltally/model/OrderLinePricePinLaw" = some m.cls := findClass_of_methodNamed Bd.named
  have hnm := (name_of_methodNamed Bd.named Bd.method).1
  have X0 : Stand p l e ({ frames := 0, cells := 0, slots := 0, locals := 0 } : Room) s m #[(.int (6 : Int32))] below meth c s₁ [] 0 0 := Stand.of_body Bd
  have e0 : s₁.heap = h0 := by rw [← hh, Bd.state]; rfl
  have N0 := Fr.nil n0
  have pre0 : ∀ t, Steps p.tables e below (s₁.setTop (mkF m 0 #[.val (.int (6 : Int32))] [])) t → Steps p.tables e below (s₁.setTop (entryFrame m #[(.int (6 : Int32))] 1)) t := fun t k => castTop (ef_1 m (6 : Int32)) k
  obtain ⟨T1, X1, e1, st1⟩ := getS2 X0 hx hZ hown (host := "") (Or.inl (hw _ (List.mem_of_getElem? (i := 60) rfl))) Via.refl e0 S_CHRISTMAS_PASTA (g := (mkF m 59 #[.val (.int (6 : Int32))] [])) rfl (hb hby d1_59)
  obtain ⟨fs, hr, hrun, hended, hW, hsame⟩ := X1.leave (v := (some (.ref w_CHRISTMAS_PASTA))) (fun h => by rw [Bd.returns] at h; cases h)
  refine ⟨_, _, pre0 _ ?_, hrun, hended, _, _, rfl, ?_, ⟨_, rfl⟩, hW, hsame.mono (by decide) (by decide)⟩
  · show Steps p.tables e below (s₁.setTop (mkF m 0 #[.val (.int (6 : Int32))] [])) _
    refine XS.iloadN X0.here hx rfl (hb hby d1_0) rfl ?_
    show Steps p.tables e below (s₁.setTop (mkF m 1 #[.val (.int (6 : Int32))] [(.int (6 : Int32))])) _
    refine XS.ifYes X0.here hx rfl (pc0 := 1) (pc' := 8) rfl (hb hby d1_1) rfl ((if0 _ _).trans (feq (by decide +kernel : ¬ ((6 : Int32) = (0 : Int32)))).2) (by decide) (by decide) ?_
    show Steps p.tables e below (s₁.setTop (mkF m 8 #[.val (.int (6 : Int32))] [])) _
    refine XS.iloadN X0.here hx rfl (hb hby d1_8) rfl ?_
    show Steps p.tables e below (s₁.setTop (mkF m 9 #[.val (.int (6 : Int32))] [(.int (6 : Int32))])) _
    refine XS.iconst X0.here hx rfl (hb hby d1_9) ?_
    show Steps p.tables e below (s₁.setTop (mkF m 10 #[.val (.int (6 : Int32))] [(.int (1 : Int32)), (.int (6 : Int32))])) _
    refine XS.icmpYes X0.here hx rfl (pc0 := 10) (pc' := 17) rfl (hb hby d1_10) rfl (feq (by decide +kernel : ¬ ((6 : Int32) = (1 : Int32)))).2 (by decide) (by decide) ?_
    show Steps p.tables e below (s₁.setTop (mkF m 17 #[.val (.int (6 : Int32))] [])) _
    refine XS.iloadN X0.here hx rfl (hb hby d1_17) rfl ?_
    show Steps p.tables e below (s₁.setTop (mkF m 18 #[.val (.int (6 : Int32))] [(.int (6 : Int32))])) _
    refine XS.iconst X0.here hx rfl (hb hby d1_18) ?_
    show Steps p.tables e below (s₁.setTop (mkF m 19 #[.val (.int (6 : Int32))] [(.int (2 : Int32)), (.int (6 : Int32))])) _
    refine XS.icmpYes X0.here hx rfl (pc0 := 19) (pc' := 26) rfl (hb hby d1_19) rfl (feq (by decide +kernel : ¬ ((6 : Int32) = (2 : Int32)))).2 (by decide) (by decide) ?_
    show Steps p.tables e below (s₁.setTop (mkF m 26 #[.val (.int (6 : Int32))] [])) _
    refine XS.iloadN X0.here hx rfl (hb hby d1_26) rfl ?_
    show Steps p.tables e below (s₁.setTop (mkF m 27 #[.val (.int (6 : Int32))] [(.int (6 : Int32))])) _
    refine XS.iconst X0.here hx rfl (hb hby d1_27) ?_
    show Steps p.tables e below (s₁.setTop (mkF m 28 #[.val (.int (6 : Int32))] [(.int (3 : Int32)), (.int (6 : Int32))])) _
    refine XS.icmpYes X0.here hx rfl (pc0 := 28) (pc' := 35) rfl (hb hby d1_28) rfl (feq (by decide +kernel : ¬ ((6 : Int32) = (3 : Int32)))).2 (by decide) (by decide) ?_
    show Steps p.tables e below (s₁.setTop (mkF m 35 #[.val (.int (6 : Int32))] [])) _
    refine XS.iloadN X0.here hx rfl (hb hby d1_35) rfl ?_
    show Steps p.tables e below (s₁.setTop (mkF m 36 #[.val (.int (6 : Int32))] [(.int (6 : Int32))])) _
    refine XS.iconst X0.here hx rfl (hb hby d1_36) ?_
    show Steps p.tables e below (s₁.setTop (mkF m 37 #[.val (.int (6 : Int32))] [(.int (4 : Int32)), (.int (6 : Int32))])) _
    refine XS.icmpYes X0.here hx rfl (pc0 := 37) (pc' := 44) rfl (hb hby d1_37) rfl (feq (by decide +kernel : ¬ ((6 : Int32) = (4 : Int32)))).2 (by decide) (by decide) ?_
    show Steps p.tables e below (s₁.setTop (mkF m 44 #[.val (.int (6 : Int32))] [])) _
    refine XS.iloadN X0.here hx rfl (hb hby d1_44) rfl ?_
    show Steps p.tables e below (s₁.setTop (mkF m 45 #[.val (.int (6 : Int32))] [(.int (6 : Int32))])) _
    refine XS.iconst X0.here hx rfl (hb hby d1_45) ?_
    show Steps p.tables e below (s₁.setTop (mkF m 46 #[.val (.int (6 : Int32))] [(.int (5 : Int32)), (.int (6 : Int32))])) _
    refine XS.icmpYes X0.here hx rfl (pc0 := 46) (pc' := 53) rfl (hb hby d1_46) rfl (feq (by decide +kernel : ¬ ((6 : Int32) = (5 : Int32)))).2 (by decide) (by decide) ?_
    show Steps p.tables e below (s₁.setTop (mkF m 53 #[.val (.int (6 : Int32))] [])) _
    refine XS.iloadN X0.here hx rfl (hb hby d1_53) rfl ?_
    show Steps p.tables e below (s₁.setTop (mkF m 54 #[.val (.int (6 : Int32))] [(.int (6 : Int32))])) _
    refine XS.bipush X0.here hx rfl (hb hby d1_54) ?_
    show Steps p.tables e below (s₁.setTop (mkF m 56 #[.val (.int (6 : Int32))] [(.int (6 : Int32)), (.int (6 : Int32))])) _
    refine XS.icmpNo X0.here hx rfl (hb hby d1_56) rfl (teq (by decide +kernel : (6 : Int32) = (6 : Int32))).2 ?_
    show Steps p.tables e below (s₁.setTop (mkF m 59 #[.val (.int (6 : Int32))] [])) _
    refine st1 _ ?_
    show Steps p.tables e below (T1.setTop (mkF m 62 #[.val (.int (6 : Int32))] [(.ref w_CHRISTMAS_PASTA)])) _
    jvm_step X1.here [X1.here.top, hx, (hb hby d1_62), X1.method', Bd.returns, Value.isRef, FieldType.isReference]
    first | (intro acts; rw [hr _ acts rfl rfl rfl]) | rw [hr _ _ rfl rfl rfl]
    exact Steps.refl _
  · exact ⟨rfl, N0, e1⟩
set_option maxRecDepth 65536 in
set_option maxHeartbeats 40000000 in
theorem rm1_7 (l : Launch) (Z : State) (a0 : Array Value) (hw : ∀ d ∈ tables_1, d.before a0 Z = true) (ws : List Jvm.Cond) (w_MUSHROOM_SOUP w_CAESAR_SALAD w_ICE_CREAM w_BARBECUE_RIBS w_TAPAS w_CHRISTMAS_PASTA w_CHAMPAGNE w_T_BONE_STEAK w_ZERO_COLA w_CHOCOLATE_CAKE w_RED_WINE w_SEAFOOD_PASTA : Addr) (h0 : Heap) (n0 : Nat) (Z0 : n0 ≤ h0.size) (C : Ctx Z h0 w_MUSHROOM_SOUP w_CAESAR_SALAD w_ICE_CREAM w_BARBECUE_RIBS w_TAPAS w_CHRISTMAS_PASTA w_CHAMPAGNE w_T_BONE_STEAK w_ZERO_COLA w_CHOCOLATE_CAKE w_RED_WINE w_SEAFOOD_PASTA)  :
    MetFree l (⟨"com/example/tinsel_tally/tinseltally/model/OrderLinePricePinLaw", "dishOf", "(I)Lcom/example/tinsel_tally/tinseltally/model/Dish;"⟩ : MethodName) (head1 (Jvm.Cond.code (⟨"com/example/tinsel_tally/tinseltally/model/OrderLinePricePinLaw", "dishOf", "(I)Lcom/example/tinsel_tally/tinseltally/model/Dish;"⟩ : MethodName) method_2_code 1 (some (.object "com/example/tinsel_tally/tinseltally/model/Dish")) :: ws) ({ frames := 0, cells := 0, slots := 0, locals := 0 } : Room)) (fun a U => a = #[(.int (7 : Int32))] ∧ Z.Warmed39 U.vm ∧ U.heap = h0) (fun _ _ _ _ _ => True) (fun _ U o U' => ∃ v L, o = .returned v ∧ QR h0 n0 (some (.ref w_CHOCOLATE_CAKE)) v U'.heap L ∧ FrameEnd U o U' L ({ frames := 0, cells := 0, slots := 0, locals := 0 } : Room).cells ({ frames := 0, cells := 0, slots := 0, locals := 0 } : Room).slots) := by
  have S_CHOCOLATE_CAKE := C.2.2.2.2.2.2.2.2.2.2.2.2.2.2.2.2.2.2.2.2.2.2.2.2.2.2.2.1
  refine MetFree.of_bodySF (plainFor_of_name pn_1) hisR ?_
  intro p e s m args below meth c s₁ Bd hml0 hP hK
  obtain ⟨rfl, hZ, hh⟩ := hP
  have hx := Bd.exec
  have hby := Bd.bytes
  have hml : c.maxLocals = 1 := hml0
  have hown : s.vm.findClass "com/example/tinsel_tally/tinseltally/model/OrderLinePricePinLaw" = some m.cls := findClass_of_methodNamed Bd.named
  have hnm := (name_of_methodNamed Bd.named Bd.method).1
  have X0 : Stand p l e ({ frames := 0, cells := 0, slots := 0, locals := 0 } : Room) s m #[(.int (7 : Int32))] below meth c s₁ [] 0 0 := Stand.of_body Bd
  have e0 : s₁.heap = h0 := by rw [← hh, Bd.state]; rfl
  have N0 := Fr.nil n0
  have pre0 : ∀ t, Steps p.tables e below (s₁.setTop (mkF m 0 #[.val (.int (7 : Int32))] [])) t → Steps p.tables e below (s₁.setTop (entryFrame m #[(.int (7 : Int32))] 1)) t := fun t k => castTop (ef_1 m (7 : Int32)) k
  obtain ⟨T1, X1, e1, st1⟩ := getS2 X0 hx hZ hown (host := "") (Or.inl (hw _ (List.mem_of_getElem? (i := 69) rfl))) Via.refl e0 S_CHOCOLATE_CAKE (g := (mkF m 69 #[.val (.int (7 : Int32))] [])) rfl (hb hby d1_69)
  obtain ⟨fs, hr, hrun, hended, hW, hsame⟩ := X1.leave (v := (some (.ref w_CHOCOLATE_CAKE))) (fun h => by rw [Bd.returns] at h; cases h)
  refine ⟨_, _, pre0 _ ?_, hrun, hended, _, _, rfl, ?_, ⟨_, rfl⟩, hW, hsame.mono (by decide) (by decide)⟩
  · show Steps p.tables e below (s₁.setTop (mkF m 0 #[.val (.int (7 : Int32))] [])) _
    refine XS.iloadN X0.here hx rfl (hb hby d1_0) rfl ?_
    show Steps p.tables e below (s₁.setTop (mkF m 1 #[.val (.int (7 : Int32))] [(.int (7 : Int32))])) _
    refine XS.ifYes X0.here hx rfl (pc0 := 1) (pc' := 8) rfl (hb hby d1_1) rfl ((if0 _ _).trans (feq (by decide +kernel : ¬ ((7 : Int32) = (0 : Int32)))).2) (by decide) (by decide) ?_
    show Steps p.tables e below (s₁.setTop (mkF m 8 #[.val (.int (7 : Int32))] [])) _
    refine XS.iloadN X0.here hx rfl (hb hby d1_8) rfl ?_
    show Steps p.tables e below (s₁.setTop (mkF m 9 #[.val (.int (7 : Int32))] [(.int (7 : Int32))])) _
    refine XS.iconst X0.here hx rfl (hb hby d1_9) ?_
    show Steps p.tables e below (s₁.setTop (mkF m 10 #[.val (.int (7 : Int32))] [(.int (1 : Int32)), (.int (7 : Int32))])) _
    refine XS.icmpYes X0.here hx rfl (pc0 := 10) (pc' := 17) rfl (hb hby d1_10) rfl (feq (by decide +kernel : ¬ ((7 : Int32) = (1 : Int32)))).2 (by decide) (by decide) ?_
    show Steps p.tables e below (s₁.setTop (mkF m 17 #[.val (.int (7 : Int32))] [])) _
    refine XS.iloadN X0.here hx rfl (hb hby d1_17) rfl ?_
    show Steps p.tables e below (s₁.setTop (mkF m 18 #[.val (.int (7 : Int32))] [(.int (7 : Int32))])) _
    refine XS.iconst X0.here hx rfl (hb hby d1_18) ?_
    show Steps p.tables e below (s₁.setTop (mkF m 19 #[.val (.int (7 : Int32))] [(.int (2 : Int32)), (.int (7 : Int32))])) _
    refine XS.icmpYes X0.here hx rfl (pc0 := 19) (pc' := 26) rfl (hb hby d1_19) rfl (feq (by decide +kernel : ¬ ((7 : Int32) = (2 : Int32)))).2 (by decide) (by decide) ?_
    show Steps p.tables e below (s₁.setTop (mkF m 26 #[.val (.int (7 : Int32))] [])) _
    refine XS.iloadN X0.here hx rfl (hb hby d1_26) rfl ?_
    show Steps p.tables e below (s₁.setTop (mkF m 27 #[.val (.int (7 : Int32))] [(.int (7 : Int32))])) _
    refine XS.iconst X0.here hx rfl (hb hby d1_27) ?_
    show Steps p.tables e below (s₁.setTop (mkF m 28 #[.val (.int (7 : Int32))] [(.int (3 : Int32)), (.int (7 : Int32))])) _
    refine XS.icmpYes X0.here hx rfl (pc0 := 28) (pc' := 35) rfl (hb hby d1_28) rfl (feq (by decide +kernel : ¬ ((7 : Int32) = (3 : Int32)))).2 (by decide) (by decide) ?_
    show Steps p.tables e below (s₁.setTop (mkF m 35 #[.val (.int (7 : Int32))] [])) _
    refine XS.iloadN X0.here hx rfl (hb hby d1_35) rfl ?_
    show Steps p.tables e below (s₁.setTop (mkF m 36 #[.val (.int (7 : Int32))] [(.int (7 : Int32))])) _
    refine XS.iconst X0.here hx rfl (hb hby d1_36) ?_
    show Steps p.tables e below (s₁.setTop (mkF m 37 #[.val (.int (7 : Int32))] [(.int (4 : Int32)), (.int (7 : Int32))])) _
    refine XS.icmpYes X0.here hx rfl (pc0 := 37) (pc' := 44) rfl (hb hby d1_37) rfl (feq (by decide +kernel : ¬ ((7 : Int32) = (4 : Int32)))).2 (by decide) (by decide) ?_
    show Steps p.tables e below (s₁.setTop (mkF m 44 #[.val (.int (7 : Int32))] [])) _
    refine XS.iloadN X0.here hx rfl (hb hby d1_44) rfl ?_
    show Steps p.tables e below (s₁.setTop (mkF m 45 #[.val (.int (7 : Int32))] [(.int (7 : Int32))])) _
    refine XS.iconst X0.here hx rfl (hb hby d1_45) ?_
    show Steps p.tables e below (s₁.setTop (mkF m 46 #[.val (.int (7 : Int32))] [(.int (5 : Int32)), (.int (7 : Int32))])) _
    refine XS.icmpYes X0.here hx rfl (pc0 := 46) (pc' := 53) rfl (hb hby d1_46) rfl (feq (by decide +kernel : ¬ ((7 : Int32) = (5 : Int32)))).2 (by decide) (by decide) ?_
    show Steps p.tables e below (s₁.setTop (mkF m 53 #[.val (.int (7 : Int32))] [])) _
    refine XS.iloadN X0.here hx rfl (hb hby d1_53) rfl ?_
    show Steps p.tables e below (s₁.setTop (mkF m 54 #[.val (.int (7 : Int32))] [(.int (7 : Int32))])) _
    refine XS.bipush X0.here hx rfl (hb hby d1_54) ?_
    show Steps p.tables e below (s₁.setTop (mkF m 56 #[.val (.int (7 : Int32))] [(.int (6 : Int32)), (.int (7 : Int32))])) _
    refine XS.icmpYes X0.here hx rfl (pc0 := 56) (pc' := 63) rfl (hb hby d1_56) rfl (feq (by decide +kernel : ¬ ((7 : Int32) = (6 : Int32)))).2 (by decide) (by decide) ?_
    show Steps p.tables e below (s₁.setTop (mkF m 63 #[.val (.int (7 : Int32))] [])) _
    refine XS.iloadN X0.here hx rfl (hb hby d1_63) rfl ?_
    show Steps p.tables e below (s₁.setTop (mkF m 64 #[.val (.int (7 : Int32))] [(.int (7 : Int32))])) _
    refine XS.bipush X0.here hx rfl (hb hby d1_64) ?_
    show Steps p.tables e below (s₁.setTop (mkF m 66 #[.val (.int (7 : Int32))] [(.int (7 : Int32)), (.int (7 : Int32))])) _
    refine XS.icmpNo X0.here hx rfl (hb hby d1_66) rfl (teq (by decide +kernel : (7 : Int32) = (7 : Int32))).2 ?_
    show Steps p.tables e below (s₁.setTop (mkF m 69 #[.val (.int (7 : Int32))] [])) _
    refine st1 _ ?_
    show Steps p.tables e below (T1.setTop (mkF m 72 #[.val (.int (7 : Int32))] [(.ref w_CHOCOLATE_CAKE)])) _
    jvm_step X1.here [X1.here.top, hx, (hb hby d1_72), X1.method', Bd.returns, Value.isRef, FieldType.isReference]
    first | (intro acts; rw [hr _ acts rfl rfl rfl]) | rw [hr _ _ rfl rfl rfl]
    exact Steps.refl _
  · exact ⟨rfl, N0, e1⟩
set_option maxRecDepth 65536 in
set_option maxHeartbeats 40000000 in
theorem rm1_8 (l : Launch) (Z : State) (a0 : Array Value) (hw : ∀ d ∈ tables_1, d.before a0 Z = true) (ws : List Jvm.Cond) (w_MUSHROOM_SOUP w_CAESAR_SALAD w_ICE_CREAM w_BARBECUE_RIBS w_TAPAS w_CHRISTMAS_PASTA w_CHAMPAGNE w_T_BONE_STEAK w_ZERO_COLA w_CHOCOLATE_CAKE w_RED_WINE w_SEAFOOD_PASTA : Addr) (h0 : Heap) (n0 : Nat) (Z0 : n0 ≤ h0.size) (C : Ctx Z h0 w_MUSHROOM_SOUP w_CAESAR_SALAD w_ICE_CREAM w_BARBECUE_RIBS w_TAPAS w_CHRISTMAS_PASTA w_CHAMPAGNE w_T_BONE_STEAK w_ZERO_COLA w_CHOCOLATE_CAKE w_RED_WINE w_SEAFOOD_PASTA)  :
    MetFree l (⟨"com/example/tinsel_tally/tinseltally/model/OrderLinePricePinLaw", "dishOf", "(I)Lcom/example/tinsel_tally/tinseltally/model/Dish;"⟩ : MethodName) (head1 (Jvm.Cond.code (⟨"com/example/tinsel_tally/tinseltally/model/OrderLinePricePinLaw", "dishOf", "(I)Lcom/example/tinsel_tally/tinseltally/model/Dish;"⟩ : MethodName) method_2_code 1 (some (.object "com/example/tinsel_tally/tinseltally/model/Dish")) :: ws) ({ frames := 0, cells := 0, slots := 0, locals := 0 } : Room)) (fun a U => a = #[(.int (8 : Int32))] ∧ Z.Warmed39 U.vm ∧ U.heap = h0) (fun _ _ _ _ _ => True) (fun _ U o U' => ∃ v L, o = .returned v ∧ QR h0 n0 (some (.ref w_ICE_CREAM)) v U'.heap L ∧ FrameEnd U o U' L ({ frames := 0, cells := 0, slots := 0, locals := 0 } : Room).cells ({ frames := 0, cells := 0, slots := 0, locals := 0 } : Room).slots) := by
  have S_ICE_CREAM := C.2.2.2.2.2.2.1
  refine MetFree.of_bodySF (plainFor_of_name pn_1) hisR ?_
  intro p e s m args below meth c s₁ Bd hml0 hP hK
  obtain ⟨rfl, hZ, hh⟩ := hP
  have hx := Bd.exec
  have hby := Bd.bytes
  have hml : c.maxLocals = 1 := hml0
  have hown : s.vm.findClass "com/example/tinsel_tally/tinseltally/model/OrderLinePricePinLaw" = some m.cls := findClass_of_methodNamed Bd.named
  have hnm := (name_of_methodNamed Bd.named Bd.method).1
  have X0 : Stand p l e ({ frames := 0, cells := 0, slots := 0, locals := 0 } : Room) s m #[(.int (8 : Int32))] below meth c s₁ [] 0 0 := Stand.of_body Bd
  have e0 : s₁.heap = h0 := by rw [← hh, Bd.state]; rfl
  have N0 := Fr.nil n0
  have pre0 : ∀ t, Steps p.tables e below (s₁.setTop (mkF m 0 #[.val (.int (8 : Int32))] [])) t → Steps p.tables e below (s₁.setTop (entryFrame m #[(.int (8 : Int32))] 1)) t := fun t k => castTop (ef_1 m (8 : Int32)) k
  obtain ⟨T1, X1, e1, st1⟩ := getS2 X0 hx hZ hown (host := "") (Or.inl (hw _ (List.mem_of_getElem? (i := 53) rfl))) Via.refl e0 S_ICE_CREAM (g := (mkF m 79 #[.val (.int (8 : Int32))] [])) rfl (hb hby d1_79)
  obtain ⟨fs, hr, hrun, hended, hW, hsame⟩ := X1.leave (v := (some (.ref w_ICE_CREAM))) (fun h => by rw [Bd.returns] at h; cases h)
  refine ⟨_, _, pre0 _ ?_, hrun, hended, _, _, rfl, ?_, ⟨_, rfl⟩, hW, hsame.mono (by decide) (by decide)⟩
  · show Steps p.tables e below (s₁.setTop (mkF m 0 #[.val (.int (8 : Int32))] [])) _
    refine XS.iloadN X0.here hx rfl (hb hby d1_0) rfl ?_
    show Steps p.tables e below (s₁.setTop (mkF m 1 #[.val (.int (8 : Int32))] [(.int (8 : Int32))])) _
    refine XS.ifYes X0.here hx rfl (pc0 := 1) (pc' := 8) rfl (hb hby d1_1) rfl ((if0 _ _).trans (feq (by decide +kernel : ¬ ((8 : Int32) = (0 : Int32)))).2) (by decide) (by decide) ?_
    show Steps p.tables e below (s₁.setTop (mkF m 8 #[.val (.int (8 : Int32))] [])) _
    refine XS.iloadN X0.here hx rfl (hb hby d1_8) rfl ?_
    show Steps p.tables e below (s₁.setTop (mkF m 9 #[.val (.int (8 : Int32))] [(.int (8 : Int32))])) _
    refine XS.iconst X0.here hx rfl (hb hby d1_9) ?_
    show Steps p.tables e below (s₁.setTop (mkF m 10 #[.val (.int (8 : Int32))] [(.int (1 : Int32)), (.int (8 : Int32))])) _
    refine XS.icmpYes X0.here hx rfl (pc0 := 10) (pc' := 17) rfl (hb hby d1_10) rfl (feq (by decide +kernel : ¬ ((8 : Int32) = (1 : Int32)))).2 (by decide) (by decide) ?_
    show Steps p.tables e below (s₁.setTop (mkF m 17 #[.val (.int (8 : Int32))] [])) _
    refine XS.iloadN X0.here hx rfl (hb hby d1_17) rfl ?_
    show Steps p.tables e below (s₁.setTop (mkF m 18 #[.val (.int (8 : Int32))] [(.int (8 : Int32))])) _
    refine XS.iconst X0.here hx rfl (hb hby d1_18) ?_
    show Steps p.tables e below (s₁.setTop (mkF m 19 #[.val (.int (8 : Int32))] [(.int (2 : Int32)), (.int (8 : Int32))])) _
    refine XS.icmpYes X0.here hx rfl (pc0 := 19) (pc' := 26) rfl (hb hby d1_19) rfl (feq (by decide +kernel : ¬ ((8 : Int32) = (2 : Int32)))).2 (by decide) (by decide) ?_
    show Steps p.tables e below (s₁.setTop (mkF m 26 #[.val (.int (8 : Int32))] [])) _
    refine XS.iloadN X0.here hx rfl (hb hby d1_26) rfl ?_
    show Steps p.tables e below (s₁.setTop (mkF m 27 #[.val (.int (8 : Int32))] [(.int (8 : Int32))])) _
    refine XS.iconst X0.here hx rfl (hb hby d1_27) ?_
    show Steps p.tables e below (s₁.setTop (mkF m 28 #[.val (.int (8 : Int32))] [(.int (3 : Int32)), (.int (8 : Int32))])) _
    refine XS.icmpYes X0.here hx rfl (pc0 := 28) (pc' := 35) rfl (hb hby d1_28) rfl (feq (by decide +kernel : ¬ ((8 : Int32) = (3 : Int32)))).2 (by decide) (by decide) ?_
    show Steps p.tables e below (s₁.setTop (mkF m 35 #[.val (.int (8 : Int32))] [])) _
    refine XS.iloadN X0.here hx rfl (hb hby d1_35) rfl ?_
    show Steps p.tables e below (s₁.setTop (mkF m 36 #[.val (.int (8 : Int32))] [(.int (8 : Int32))])) _
    refine XS.iconst X0.here hx rfl (hb hby d1_36) ?_
    show Steps p.tables e below (s₁.setTop (mkF m 37 #[.val (.int (8 : Int32))] [(.int (4 : Int32)), (.int (8 : Int32))])) _
    refine XS.icmpYes X0.here hx rfl (pc0 := 37) (pc' := 44) rfl (hb hby d1_37) rfl (feq (by decide +kernel : ¬ ((8 : Int32) = (4 : Int32)))).2 (by decide) (by decide) ?_
    show Steps p.tables e below (s₁.setTop (mkF m 44 #[.val (.int (8 : Int32))] [])) _
    refine XS.iloadN X0.here hx rfl (hb hby d1_44) rfl ?_
    show Steps p.tables e below (s₁.setTop (mkF m 45 #[.val (.int (8 : Int32))] [(.int (8 : Int32))])) _
    refine XS.iconst X0.here hx rfl (hb hby d1_45) ?_
    show Steps p.tables e below (s₁.setTop (mkF m 46 #[.val (.int (8 : Int32))] [(.int (5 : Int32)), (.int (8 : Int32))])) _
    refine XS.icmpYes X0.here hx rfl (pc0 := 46) (pc' := 53) rfl (hb hby d1_46) rfl (feq (by decide +kernel : ¬ ((8 : Int32) = (5 : Int32)))).2 (by decide) (by decide) ?_
    show Steps p.tables e below (s₁.setTop (mkF m 53 #[.val (.int (8 : Int32))] [])) _
    refine XS.iloadN X0.here hx rfl (hb hby d1_53) rfl ?_
    show Steps p.tables e below (s₁.setTop (mkF m 54 #[.val (.int (8 : Int32))] [(.int (8 : Int32))])) _
    refine XS.bipush X0.here hx rfl (hb hby d1_54) ?_
    show Steps p.tables e below (s₁.setTop (mkF m 56 #[.val (.int (8 : Int32))] [(.int (6 : Int32)), (.int (8 : Int32))])) _
    refine XS.icmpYes X0.here hx rfl (pc0 := 56) (pc' := 63) rfl (hb hby d1_56) rfl (feq (by decide +kernel : ¬ ((8 : Int32) = (6 : Int32)))).2 (by decide) (by decide) ?_
    show Steps p.tables e below (s₁.setTop (mkF m 63 #[.val (.int (8 : Int32))] [])) _
    refine XS.iloadN X0.here hx rfl (hb hby d1_63) rfl ?_
    show Steps p.tables e below (s₁.setTop (mkF m 64 #[.val (.int (8 : Int32))] [(.int (8 : Int32))])) _
    refine XS.bipush X0.here hx rfl (hb hby d1_64) ?_
    show Steps p.tables e below (s₁.setTop (mkF m 66 #[.val (.int (8 : Int32))] [(.int (7 : Int32)), (.int (8 : Int32))])) _
    refine XS.icmpYes X0.here hx rfl (pc0 := 66) (pc' := 73) rfl (hb hby d1_66) rfl (feq (by decide +kernel : ¬ ((8 : Int32) = (7 : Int32)))).2 (by decide) (by decide) ?_
    show Steps p.tables e below (s₁.setTop (mkF m 73 #[.val (.int (8 : Int32))] [])) _
    refine XS.iloadN X0.here hx rfl (hb hby d1_73) rfl ?_
    show Steps p.tables e below (s₁.setTop (mkF m 74 #[.val (.int (8 : Int32))] [(.int (8 : Int32))])) _
    refine XS.bipush X0.here hx rfl (hb hby d1_74) ?_
    show Steps p.tables e below (s₁.setTop (mkF m 76 #[.val (.int (8 : Int32))] [(.int (8 : Int32)), (.int (8 : Int32))])) _
    refine XS.icmpNo X0.here hx rfl (hb hby d1_76) rfl (teq (by decide +kernel : (8 : Int32) = (8 : Int32))).2 ?_
    show Steps p.tables e below (s₁.setTop (mkF m 79 #[.val (.int (8 : Int32))] [])) _
    refine st1 _ ?_
    show Steps p.tables e below (T1.setTop (mkF m 82 #[.val (.int (8 : Int32))] [(.ref w_ICE_CREAM)])) _
    jvm_step X1.here [X1.here.top, hx, (hb hby d1_82), X1.method', Bd.returns, Value.isRef, FieldType.isReference]
    first | (intro acts; rw [hr _ acts rfl rfl rfl]) | rw [hr _ _ rfl rfl rfl]
    exact Steps.refl _
  · exact ⟨rfl, N0, e1⟩
set_option maxRecDepth 65536 in
set_option maxHeartbeats 40000000 in
theorem rm1_9 (l : Launch) (Z : State) (a0 : Array Value) (hw : ∀ d ∈ tables_1, d.before a0 Z = true) (ws : List Jvm.Cond) (w_MUSHROOM_SOUP w_CAESAR_SALAD w_ICE_CREAM w_BARBECUE_RIBS w_TAPAS w_CHRISTMAS_PASTA w_CHAMPAGNE w_T_BONE_STEAK w_ZERO_COLA w_CHOCOLATE_CAKE w_RED_WINE w_SEAFOOD_PASTA : Addr) (h0 : Heap) (n0 : Nat) (Z0 : n0 ≤ h0.size) (C : Ctx Z h0 w_MUSHROOM_SOUP w_CAESAR_SALAD w_ICE_CREAM w_BARBECUE_RIBS w_TAPAS w_CHRISTMAS_PASTA w_CHAMPAGNE w_T_BONE_STEAK w_ZERO_COLA w_CHOCOLATE_CAKE w_RED_WINE w_SEAFOOD_PASTA)  :
    MetFree l (⟨"com/example/tinsel_tally/tinseltally/model/OrderLinePricePinLaw", "dishOf", "(I)Lcom/example/tinsel_tally/tinseltally/model/Dish;"⟩ : MethodName) (head1 (Jvm.Cond.code (⟨"com/example/tinsel_tally/tinseltally/model/OrderLinePricePinLaw", "dishOf", "(I)Lcom/example/tinsel_tally/tinseltally/model/Dish;"⟩ : MethodName) method_2_code 1 (some (.object "com/example/tinsel_tally/tinseltally/model/Dish")) :: ws) ({ frames := 0, cells := 0, slots := 0, locals := 0 } : Room)) (fun a U => a = #[(.int (9 : Int32))] ∧ Z.Warmed39 U.vm ∧ U.heap = h0) (fun _ _ _ _ _ => True) (fun _ U o U' => ∃ v L, o = .returned v ∧ QR h0 n0 (some (.ref w_ZERO_COLA)) v U'.heap L ∧ FrameEnd U o U' L ({ frames := 0, cells := 0, slots := 0, locals := 0 } : Room).cells ({ frames := 0, cells := 0, slots := 0, locals := 0 } : Room).slots) := by
  have S_ZERO_COLA := C.2.2.2.2.2.2.2.2.2.2.2.2.2.2.2.2.2.2.2.2.2.2.2.2.1
  refine MetFree.of_bodySF (plainFor_of_name pn_1) hisR ?_
  intro p e s m args below meth c s₁ Bd hml0 hP hK
  obtain ⟨rfl, hZ, hh⟩ := hP
  have hx := Bd.exec
  have hby := Bd.bytes
  have hml : c.maxLocals = 1 := hml0
  have hown : s.vm.findClass "com/example/tinsel_tally/tinseltally/model/OrderLinePricePinLaw" = some m.cls := findClass_of_methodNamed Bd.named
  have hnm := (name_of_methodNamed Bd.named Bd.method).1
  have X0 : Stand p l e ({ frames := 0, cells := 0, slots := 0, locals := 0 } : Room) s m #[(.int (9 : Int32))] below meth c s₁ [] 0 0 := Stand.of_body Bd
  have e0 : s₁.heap = h0 := by rw [← hh, Bd.state]; rfl
  have N0 := Fr.nil n0
  have pre0 : ∀ t, Steps p.tables e below (s₁.setTop (mkF m 0 #[.val (.int (9 : Int32))] [])) t → Steps p.tables e below (s₁.setTop (entryFrame m #[(.int (9 : Int32))] 1)) t := fun t k => castTop (ef_1 m (9 : Int32)) k
  obtain ⟨T1, X1, e1, st1⟩ := getS2 X0 hx hZ hown (host := "") (Or.inl (hw _ (List.mem_of_getElem? (i := 67) rfl))) Via.refl e0 S_ZERO_COLA (g := (mkF m 89 #[.val (.int (9 : Int32))] [])) rfl (hb hby d1_89)
  obtain ⟨fs, hr, hrun, hended, hW, hsame⟩ := X1.leave (v := (some (.ref w_ZERO_COLA))) (fun h => by rw [Bd.returns] at h; cases h)
  refine ⟨_, _, pre0 _ ?_, hrun, hended, _, _, rfl, ?_, ⟨_, rfl⟩, hW, hsame.mono (by decide) (by decide)⟩
  · show Steps p.tables e below (s₁.setTop (mkF m 0 #[.val (.int (9 : Int32))] [])) _
    refine XS.iloadN X0.here hx rfl (hb hby d1_0) rfl ?_
    show Steps p.tables e below (s₁.setTop (mkF m 1 #[.val (.int (9 : Int32))] [(.int (9 : Int32))])) _
    refine XS.ifYes X0.here hx rfl (pc0 := 1) (pc' := 8) rfl (hb hby d1_1) rfl ((if0 _ _).trans (feq (by decide +kernel : ¬ ((9 : Int32) = (0 : Int32)))).2) (by decide) (by decide) ?_
    show Steps p.tables e below (s₁.setTop (mkF m 8 #[.val (.int (9 : Int32))] [])) _
    refine XS.iloadN X0.here hx rfl (hb hby d1_8) rfl ?_
    show Steps p.tables e below (s₁.setTop (mkF m 9 #[.val (.int (9 : Int32))] [(.int (9 : Int32))])) _
    refine XS.iconst X0.here hx rfl (hb hby d1_9) ?_
    show Steps p.tables e below (s₁.setTop (mkF m 10 #[.val (.int (9 : Int32))] [(.int (1 : Int32)), (.int (9 : Int32))])) _
    refine XS.icmpYes X0.here hx rfl (pc0 := 10) (pc' := 17) rfl (hb hby d1_10) rfl (feq (by decide +kernel : ¬ ((9 : Int32) = (1 : Int32)))).2 (by decide) (by decide) ?_
    show Steps p.tables e below (s₁.setTop (mkF m 17 #[.val (.int (9 : Int32))] [])) _
    refine XS.iloadN X0.here hx rfl (hb hby d1_17) rfl ?_
    show Steps p.tables e below (s₁.setTop (mkF m 18 #[.val (.int (9 : Int32))] [(.int (9 : Int32))])) _
    refine XS.iconst X0.here hx rfl (hb hby d1_18) ?_
    show Steps p.tables e below (s₁.setTop (mkF m 19 #[.val (.int (9 : Int32))] [(.int (2 : Int32)), (.int (9 : Int32))])) _
    refine XS.icmpYes X0.here hx rfl (pc0 := 19) (pc' := 26) rfl (hb hby d1_19) rfl (feq (by decide +kernel : ¬ ((9 : Int32) = (2 : Int32)))).2 (by decide) (by decide) ?_
    show Steps p.tables e below (s₁.setTop (mkF m 26 #[.val (.int (9 : Int32))] [])) _
    refine XS.iloadN X0.here hx rfl (hb hby d1_26) rfl ?_
    show Steps p.tables e below (s₁.setTop (mkF m 27 #[.val (.int (9 : Int32))] [(.int (9 : Int32))])) _
    refine XS.iconst X0.here hx rfl (hb hby d1_27) ?_
    show Steps p.tables e below (s₁.setTop (mkF m 28 #[.val (.int (9 : Int32))] [(.int (3 : Int32)), (.int (9 : Int32))])) _
    refine XS.icmpYes X0.here hx rfl (pc0 := 28) (pc' := 35) rfl (hb hby d1_28) rfl (feq (by decide +kernel : ¬ ((9 : Int32) = (3 : Int32)))).2 (by decide) (by decide) ?_
    show Steps p.tables e below (s₁.setTop (mkF m 35 #[.val (.int (9 : Int32))] [])) _
    refine XS.iloadN X0.here hx rfl (hb hby d1_35) rfl ?_
    show Steps p.tables e below (s₁.setTop (mkF m 36 #[.val (.int (9 : Int32))] [(.int (9 : Int32))])) _
    refine XS.iconst X0.here hx rfl (hb hby d1_36) ?_
    show Steps p.tables e below (s₁.setTop (mkF m 37 #[.val (.int (9 : Int32))] [(.int (4 : Int32)), (.int (9 : Int32))])) _
    refine XS.icmpYes X0.here hx rfl (pc0 := 37) (pc' := 44) rfl (hb hby d1_37) rfl (feq (by decide +kernel : ¬ ((9 : Int32) = (4 : Int32)))).2 (by decide) (by decide) ?_
    show Steps p.tables e below (s₁.setTop (mkF m 44 #[.val (.int (9 : Int32))] [])) _
    refine XS.iloadN X0.here hx rfl (hb hby d1_44) rfl ?_
    show Steps p.tables e below (s₁.setTop (mkF m 45 #[.val (.int (9 : Int32))] [(.int (9 : Int32))])) _
    refine XS.iconst X0.here hx rfl (hb hby d1_45) ?_
    show Steps p.tables e below (s₁.setTop (mkF m 46 #[.val (.int (9 : Int32))] [(.int (5 : Int32)), (.int (9 : Int32))])) _
    refine XS.icmpYes X0.here hx rfl (pc0 := 46) (pc' := 53) rfl (hb hby d1_46) rfl (feq (by decide +kernel : ¬ ((9 : Int32) = (5 : Int32)))).2 (by decide) (by decide) ?_
    show Steps p.tables e below (s₁.setTop (mkF m 53 #[.val (.int (9 : Int32))] [])) _
    refine XS.iloadN X0.here hx rfl (hb hby d1_53) rfl ?_
    show Steps p.tables e below (s₁.setTop (mkF m 54 #[.val (.int (9 : Int32))] [(.int (9 : Int32))])) _
    refine XS.bipush X0.here hx rfl (hb hby d1_54) ?_
    show Steps p.tables e below (s₁.setTop (mkF m 56 #[.val (.int (9 : Int32))] [(.int (6 : Int32)), (.int (9 : Int32))])) _
    refine XS.icmpYes X0.here hx rfl (pc0 := 56) (pc' := 63) rfl (hb hby d1_56) rfl (feq (by decide +kernel : ¬ ((9 : Int32) = (6 : Int32)))).2 (by decide) (by decide) ?_
    show Steps p.tables e below (s₁.setTop (mkF m 63 #[.val (.int (9 : Int32))] [])) _
    refine XS.iloadN X0.here hx rfl (hb hby d1_63) rfl ?_
    show Steps p.tables e below (s₁.setTop (mkF m 64 #[.val (.int (9 : Int32))] [(.int (9 : Int32))])) _
    refine XS.bipush X0.here hx rfl (hb hby d1_64) ?_
    show Steps p.tables e below (s₁.setTop (mkF m 66 #[.val (.int (9 : Int32))] [(.int (7 : Int32)), (.int (9 : Int32))])) _
    refine XS.icmpYes X0.here hx rfl (pc0 := 66) (pc' := 73) rfl (hb hby d1_66) rfl (feq (by decide +kernel : ¬ ((9 : Int32) = (7 : Int32)))).2 (by decide) (by decide) ?_
    show Steps p.tables e below (s₁.setTop (mkF m 73 #[.val (.int (9 : Int32))] [])) _
    refine XS.iloadN X0.here hx rfl (hb hby d1_73) rfl ?_
    show Steps p.tables e below (s₁.setTop (mkF m 74 #[.val (.int (9 : Int32))] [(.int (9 : Int32))])) _
    refine XS.bipush X0.here hx rfl (hb hby d1_74) ?_
    show Steps p.tables e below (s₁.setTop (mkF m 76 #[.val (.int (9 : Int32))] [(.int (8 : Int32)), (.int (9 : Int32))])) _
    refine XS.icmpYes X0.here hx rfl (pc0 := 76) (pc' := 83) rfl (hb hby d1_76) rfl (feq (by decide +kernel : ¬ ((9 : Int32) = (8 : Int32)))).2 (by decide) (by decide) ?_
    show Steps p.tables e below (s₁.setTop (mkF m 83 #[.val (.int (9 : Int32))] [])) _
    refine XS.iloadN X0.here hx rfl (hb hby d1_83) rfl ?_
    show Steps p.tables e below (s₁.setTop (mkF m 84 #[.val (.int (9 : Int32))] [(.int (9 : Int32))])) _
    refine XS.bipush X0.here hx rfl (hb hby d1_84) ?_
    show Steps p.tables e below (s₁.setTop (mkF m 86 #[.val (.int (9 : Int32))] [(.int (9 : Int32)), (.int (9 : Int32))])) _
    refine XS.icmpNo X0.here hx rfl (hb hby d1_86) rfl (teq (by decide +kernel : (9 : Int32) = (9 : Int32))).2 ?_
    show Steps p.tables e below (s₁.setTop (mkF m 89 #[.val (.int (9 : Int32))] [])) _
    refine st1 _ ?_
    show Steps p.tables e below (T1.setTop (mkF m 92 #[.val (.int (9 : Int32))] [(.ref w_ZERO_COLA)])) _
    jvm_step X1.here [X1.here.top, hx, (hb hby d1_92), X1.method', Bd.returns, Value.isRef, FieldType.isReference]
    first | (intro acts; rw [hr _ acts rfl rfl rfl]) | rw [hr _ _ rfl rfl rfl]
    exact Steps.refl _
  · exact ⟨rfl, N0, e1⟩
set_option maxRecDepth 65536 in
set_option maxHeartbeats 40000000 in
theorem rm1_10 (l : Launch) (Z : State) (a0 : Array Value) (hw : ∀ d ∈ tables_1, d.before a0 Z = true) (ws : List Jvm.Cond) (w_MUSHROOM_SOUP w_CAESAR_SALAD w_ICE_CREAM w_BARBECUE_RIBS w_TAPAS w_CHRISTMAS_PASTA w_CHAMPAGNE w_T_BONE_STEAK w_ZERO_COLA w_CHOCOLATE_CAKE w_RED_WINE w_SEAFOOD_PASTA : Addr) (h0 : Heap) (n0 : Nat) (Z0 : n0 ≤ h0.size) (C : Ctx Z h0 w_MUSHROOM_SOUP w_CAESAR_SALAD w_ICE_CREAM w_BARBECUE_RIBS w_TAPAS w_CHRISTMAS_PASTA w_CHAMPAGNE w_T_BONE_STEAK w_ZERO_COLA w_CHOCOLATE_CAKE w_RED_WINE w_SEAFOOD_PASTA)  :
    MetFree l (⟨"com/example/tinsel_tally/tinseltally/model/OrderLinePricePinLaw", "dishOf", "(I)Lcom/example/tinsel_tally/tinseltally/model/Dish;"⟩ : MethodName) (head1 (Jvm.Cond.code (⟨"com/example/tinsel_tally/tinseltally/model/OrderLinePricePinLaw", "dishOf", "(I)Lcom/example/tinsel_tally/tinseltally/model/Dish;"⟩ : MethodName) method_2_code 1 (some (.object "com/example/tinsel_tally/tinseltally/model/Dish")) :: ws) ({ frames := 0, cells := 0, slots := 0, locals := 0 } : Room)) (fun a U => a = #[(.int (10 : Int32))] ∧ Z.Warmed39 U.vm ∧ U.heap = h0) (fun _ _ _ _ _ => True) (fun _ U o U' => ∃ v L, o = .returned v ∧ QR h0 n0 (some (.ref w_RED_WINE)) v U'.heap L ∧ FrameEnd U o U' L ({ frames := 0, cells := 0, slots := 0, locals := 0 } : Room).cells ({ frames := 0, cells := 0, slots := 0, locals := 0 } : Room).slots) := by
  have S_RED_WINE := C.2.2.2.2.2.2.2.2.2.2.2.2.2.2.2.2.2.2.2.2.2.2.2.2.2.2.2.2.2.2.1
  refine MetFree.of_bodySF (plainFor_of_name pn_1) hisR ?_
  intro p e s m args below meth c s₁ Bd hml0 hP hK
  obtain ⟨rfl, hZ, hh⟩ := hP
  have hx := Bd.exec
  have hby := Bd.bytes
  have hml : c.maxLocals = 1 := hml0
  have hown : s.vm.findClass "com/example/tinsel_tally/tinseltally/model/OrderLinePricePinLaw" = some m.cls := findClass_of_methodNamed Bd.named
  have hnm := (name_of_methodNamed Bd.named Bd.method).1
  have X0 : Stand p l e ({ frames := 0, cells := 0, slots := 0, locals := 0 } : Room) s m #[(.int (10 : Int32))] below meth c s₁ [] 0 0 := Stand.of_body Bd
  have e0 : s₁.heap = h0 := by rw [← hh, Bd.state]; rfl
  have N0 := Fr.nil n0
  have pre0 : ∀ t, Steps p.tables e below (s₁.setTop (mkF m 0 #[.val (.int (10 : Int32))] [])) t → Steps p.tables e below (s₁.setTop (entryFrame m #[(.int (10 : Int32))] 1)) t := fun t k => castTop (ef_1 m (10 : Int32)) k
  obtain ⟨T1, X1, e1, st1⟩ := getS2 X0 hx hZ hown (host := "") (Or.inl (hw _ (List.mem_of_getElem? (i := 71) rfl))) Via.refl e0 S_RED_WINE (g := (mkF m 99 #[.val (.int (10 : Int32))] [])) rfl (hb hby d1_99)
  obtain ⟨fs, hr, hrun, hended, hW, hsame⟩ := X1.leave (v := (some (.ref w_RED_WINE))) (fun h => by rw [Bd.returns] at h; cases h)
  refine ⟨_, _, pre0 _ ?_, hrun, hended, _, _, rfl, ?_, ⟨_, rfl⟩, hW, hsame.mono (by decide) (by decide)⟩
  · show Steps p.tables e below (s₁.setTop (mkF m 0 #[.val (.int (10 : Int32))] [])) _
    refine XS.iloadN X0.here hx rfl (hb hby d1_0) rfl ?_
    show Steps p.tables e below (s₁.setTop (mkF m 1 #[.val (.int (10 : Int32))] [(.int (10 : Int32))])) _
    refine XS.ifYes X0.here hx rfl (pc0 := 1) (pc' := 8) rfl (hb hby d1_1) rfl ((if0 _ _).trans (feq (by decide +kernel : ¬ ((10 : Int32) = (0 : Int32)))).2) (by decide) (by decide) ?_
    show Steps p.tables e below (s₁.setTop (mkF m 8 #[.val (.int (10 : Int32))] [])) _
    refine XS.iloadN X0.here hx rfl (hb hby d1_8) rfl ?_
    show Steps p.tables e below (s₁.setTop (mkF m 9 #[.val (.int (10 : Int32))] [(.int (10 : Int32))])) _
    refine XS.iconst X0.here hx rfl (hb hby d1_9) ?_
    show Steps p.tables e below (s₁.setTop (mkF m 10 #[.val (.int (10 : Int32))] [(.int (1 : Int32)), (.int (10 : Int32))])) _
    refine XS.icmpYes X0.here hx rfl (pc0 := 10) (pc' := 17) rfl (hb hby d1_10) rfl (feq (by decide +kernel : ¬ ((10 : Int32) = (1 : Int32)))).2 (by decide) (by decide) ?_
    show Steps p.tables e below (s₁.setTop (mkF m 17 #[.val (.int (10 : Int32))] [])) _
    refine XS.iloadN X0.here hx rfl (hb hby d1_17) rfl ?_
    show Steps p.tables e below (s₁.setTop (mkF m 18 #[.val (.int (10 : Int32))] [(.int (10 : Int32))])) _
    refine XS.iconst X0.here hx rfl (hb hby d1_18) ?_
    show Steps p.tables e below (s₁.setTop (mkF m 19 #[.val (.int (10 : Int32))] [(.int (2 : Int32)), (.int (10 : Int32))])) _
    refine XS.icmpYes X0.here hx rfl (pc0 := 19) (pc' := 26) rfl (hb hby d1_19) rfl (feq (by decide +kernel : ¬ ((10 : Int32) = (2 : Int32)))).2 (by decide) (by decide) ?_
    show Steps p.tables e below (s₁.setTop (mkF m 26 #[.val (.int (10 : Int32))] [])) _
    refine XS.iloadN X0.here hx rfl (hb hby d1_26) rfl ?_
    show Steps p.tables e below (s₁.setTop (mkF m 27 #[.val (.int (10 : Int32))] [(.int (10 : Int32))])) _
    refine XS.iconst X0.here hx rfl (hb hby d1_27) ?_
    show Steps p.tables e below (s₁.setTop (mkF m 28 #[.val (.int (10 : Int32))] [(.int (3 : Int32)), (.int (10 : Int32))])) _
    refine XS.icmpYes X0.here hx rfl (pc0 := 28) (pc' := 35) rfl (hb hby d1_28) rfl (feq (by decide +kernel : ¬ ((10 : Int32) = (3 : Int32)))).2 (by decide) (by decide) ?_
    show Steps p.tables e below (s₁.setTop (mkF m 35 #[.val (.int (10 : Int32))] [])) _
    refine XS.iloadN X0.here hx rfl (hb hby d1_35) rfl ?_
    show Steps p.tables e below (s₁.setTop (mkF m 36 #[.val (.int (10 : Int32))] [(.int (10 : Int32))])) _
    refine XS.iconst X0.here hx rfl (hb hby d1_36) ?_
    show Steps p.tables e below (s₁.setTop (mkF m 37 #[.val (.int (10 : Int32))] [(.int (4 : Int32)), (.int (10 : Int32))])) _
    refine XS.icmpYes X0.here hx rfl (pc0 := 37) (pc' := 44) rfl (hb hby d1_37) rfl (feq (by decide +kernel : ¬ ((10 : Int32) = (4 : Int32)))).2 (by decide) (by decide) ?_
    show Steps p.tables e below (s₁.setTop (mkF m 44 #[.val (.int (10 : Int32))] [])) _
    refine XS.iloadN X0.here hx rfl (hb hby d1_44) rfl ?_
    show Steps p.tables e below (s₁.setTop (mkF m 45 #[.val (.int (10 : Int32))] [(.int (10 : Int32))])) _
    refine XS.iconst X0.here hx rfl (hb hby d1_45) ?_
    show Steps p.tables e below (s₁.setTop (mkF m 46 #[.val (.int (10 : Int32))] [(.int (5 : Int32)), (.int (10 : Int32))])) _
    refine XS.icmpYes X0.here hx rfl (pc0 := 46) (pc' := 53) rfl (hb hby d1_46) rfl (feq (by decide +kernel : ¬ ((10 : Int32) = (5 : Int32)))).2 (by decide) (by decide) ?_
    show Steps p.tables e below (s₁.setTop (mkF m 53 #[.val (.int (10 : Int32))] [])) _
    refine XS.iloadN X0.here hx rfl (hb hby d1_53) rfl ?_
    show Steps p.tables e below (s₁.setTop (mkF m 54 #[.val (.int (10 : Int32))] [(.int (10 : Int32))])) _
    refine XS.bipush X0.here hx rfl (hb hby d1_54) ?_
    show Steps p.tables e below (s₁.setTop (mkF m 56 #[.val (.int (10 : Int32))] [(.int (6 : Int32)), (.int (10 : Int32))])) _
    refine XS.icmpYes X0.here hx rfl (pc0 := 56) (pc' := 63) rfl (hb hby d1_56) rfl (feq (by decide +kernel : ¬ ((10 : Int32) = (6 : Int32)))).2 (by decide) (by decide) ?_
    show Steps p.tables e below (s₁.setTop (mkF m 63 #[.val (.int (10 : Int32))] [])) _
    refine XS.iloadN X0.here hx rfl (hb hby d1_63) rfl ?_
    show Steps p.tables e below (s₁.setTop (mkF m 64 #[.val (.int (10 : Int32))] [(.int (10 : Int32))])) _
    refine XS.bipush X0.here hx rfl (hb hby d1_64) ?_
    show Steps p.tables e below (s₁.setTop (mkF m 66 #[.val (.int (10 : Int32))] [(.int (7 : Int32)), (.int (10 : Int32))])) _
    refine XS.icmpYes X0.here hx rfl (pc0 := 66) (pc' := 73) rfl (hb hby d1_66) rfl (feq (by decide +kernel : ¬ ((10 : Int32) = (7 : Int32)))).2 (by decide) (by decide) ?_
    show Steps p.tables e below (s₁.setTop (mkF m 73 #[.val (.int (10 : Int32))] [])) _
    refine XS.iloadN X0.here hx rfl (hb hby d1_73) rfl ?_
    show Steps p.tables e below (s₁.setTop (mkF m 74 #[.val (.int (10 : Int32))] [(.int (10 : Int32))])) _
    refine XS.bipush X0.here hx rfl (hb hby d1_74) ?_
    show Steps p.tables e below (s₁.setTop (mkF m 76 #[.val (.int (10 : Int32))] [(.int (8 : Int32)), (.int (10 : Int32))])) _
    refine XS.icmpYes X0.here hx rfl (pc0 := 76) (pc' := 83) rfl (hb hby d1_76) rfl (feq (by decide +kernel : ¬ ((10 : Int32) = (8 : Int32)))).2 (by decide) (by decide) ?_
    show Steps p.tables e below (s₁.setTop (mkF m 83 #[.val (.int (10 : Int32))] [])) _
    refine XS.iloadN X0.here hx rfl (hb hby d1_83) rfl ?_
    show Steps p.tables e below (s₁.setTop (mkF m 84 #[.val (.int (10 : Int32))] [(.int (10 : Int32))])) _
    refine XS.bipush X0.here hx rfl (hb hby d1_84) ?_
    show Steps p.tables e below (s₁.setTop (mkF m 86 #[.val (.int (10 : Int32))] [(.int (9 : Int32)), (.int (10 : Int32))])) _
    refine XS.icmpYes X0.here hx rfl (pc0 := 86) (pc' := 93) rfl (hb hby d1_86) rfl (feq (by decide +kernel : ¬ ((10 : Int32) = (9 : Int32)))).2 (by decide) (by decide) ?_
    show Steps p.tables e below (s₁.setTop (mkF m 93 #[.val (.int (10 : Int32))] [])) _
    refine XS.iloadN X0.here hx rfl (hb hby d1_93) rfl ?_
    show Steps p.tables e below (s₁.setTop (mkF m 94 #[.val (.int (10 : Int32))] [(.int (10 : Int32))])) _
    refine XS.bipush X0.here hx rfl (hb hby d1_94) ?_
    show Steps p.tables e below (s₁.setTop (mkF m 96 #[.val (.int (10 : Int32))] [(.int (10 : Int32)), (.int (10 : Int32))])) _
    refine XS.icmpNo X0.here hx rfl (hb hby d1_96) rfl (teq (by decide +kernel : (10 : Int32) = (10 : Int32))).2 ?_
    show Steps p.tables e below (s₁.setTop (mkF m 99 #[.val (.int (10 : Int32))] [])) _
    refine st1 _ ?_
    show Steps p.tables e below (T1.setTop (mkF m 102 #[.val (.int (10 : Int32))] [(.ref w_RED_WINE)])) _
    jvm_step X1.here [X1.here.top, hx, (hb hby d1_102), X1.method', Bd.returns, Value.isRef, FieldType.isReference]
    first | (intro acts; rw [hr _ acts rfl rfl rfl]) | rw [hr _ _ rfl rfl rfl]
    exact Steps.refl _
  · exact ⟨rfl, N0, e1⟩
set_option maxRecDepth 65536 in
set_option maxHeartbeats 40000000 in
theorem rm1_11 (l : Launch) (Z : State) (a0 : Array Value) (hw : ∀ d ∈ tables_1, d.before a0 Z = true) (ws : List Jvm.Cond) (w_MUSHROOM_SOUP w_CAESAR_SALAD w_ICE_CREAM w_BARBECUE_RIBS w_TAPAS w_CHRISTMAS_PASTA w_CHAMPAGNE w_T_BONE_STEAK w_ZERO_COLA w_CHOCOLATE_CAKE w_RED_WINE w_SEAFOOD_PASTA : Addr) (h0 : Heap) (n0 : Nat) (Z0 : n0 ≤ h0.size) (C : Ctx Z h0 w_MUSHROOM_SOUP w_CAESAR_SALAD w_ICE_CREAM w_BARBECUE_RIBS w_TAPAS w_CHRISTMAS_PASTA w_CHAMPAGNE w_T_BONE_STEAK w_ZERO_COLA w_CHOCOLATE_CAKE w_RED_WINE w_SEAFOOD_PASTA)  :
    MetFree l (⟨"com/example/tinsel_tally/tinseltally/model/OrderLinePricePinLaw", "dishOf", "(I)Lcom/example/tinsel_tally/tinseltally/model/Dish;"⟩ : MethodName) (head1 (Jvm.Cond.code (⟨"com/example/tinsel_tally/tinseltally/model/OrderLinePricePinLaw", "dishOf", "(I)Lcom/example/tinsel_tally/tinseltally/model/Dish;"⟩ : MethodName) method_2_code 1 (some (.object "com/example/tinsel_tally/tinseltally/model/Dish")) :: ws) ({ frames := 0, cells := 0, slots := 0, locals := 0 } : Room)) (fun a U => a = #[(.int (11 : Int32))] ∧ Z.Warmed39 U.vm ∧ U.heap = h0) (fun _ _ _ _ _ => True) (fun _ U o U' => ∃ v L, o = .returned v ∧ QR h0 n0 (some (.ref w_CHAMPAGNE)) v U'.heap L ∧ FrameEnd U o U' L ({ frames := 0, cells := 0, slots := 0, locals := 0 } : Room).cells ({ frames := 0, cells := 0, slots := 0, locals := 0 } : Room).slots) := by
  have S_CHAMPAGNE := C.2.2.2.2.2.2.2.2.2.2.2.2.2.2.2.2.2.2.1
  refine MetFree.of_bodySF (plainFor_of_name pn_1) hisR ?_
  intro p e s m args below meth c s₁ Bd hml0 hP hK
  obtain ⟨rfl, hZ, hh⟩ := hP
  have hx := Bd.exec
  have hby := Bd.bytes
  have hml : c.maxLocals = 1 := hml0
  have hown : s.vm.findClass "com/example/tinsel_tally/tinseltally/model/OrderLinePricePinLaw" = some m.cls := findClass_of_methodNamed Bd.named
  have hnm := (name_of_methodNamed Bd.named Bd.method).1
  have X0 : Stand p l e ({ frames := 0, cells := 0, slots := 0, locals := 0 } : Room) s m #[(.int (11 : Int32))] below meth c s₁ [] 0 0 := Stand.of_body Bd
  have e0 : s₁.heap = h0 := by rw [← hh, Bd.state]; rfl
  have N0 := Fr.nil n0
  have pre0 : ∀ t, Steps p.tables e below (s₁.setTop (mkF m 0 #[.val (.int (11 : Int32))] [])) t → Steps p.tables e below (s₁.setTop (entryFrame m #[(.int (11 : Int32))] 1)) t := fun t k => castTop (ef_1 m (11 : Int32)) k
  obtain ⟨T1, X1, e1, st1⟩ := getS2 X0 hx hZ hown (host := "") (Or.inl (hw _ (List.mem_of_getElem? (i := 62) rfl))) Via.refl e0 S_CHAMPAGNE (g := (mkF m 103 #[.val (.int (11 : Int32))] [])) rfl (hb hby d1_103)
  obtain ⟨fs, hr, hrun, hended, hW, hsame⟩ := X1.leave (v := (some (.ref w_CHAMPAGNE))) (fun h => by rw [Bd.returns] at h; cases h)
  refine ⟨_, _, pre0 _ ?_, hrun, hended, _, _, rfl, ?_, ⟨_, rfl⟩, hW, hsame.mono (by decide) (by decide)⟩
  · show Steps p.tables e below (s₁.setTop (mkF m 0 #[.val (.int (11 : Int32))] [])) _
    refine XS.iloadN X0.here hx rfl (hb hby d1_0) rfl ?_
    show Steps p.tables e below (s₁.setTop (mkF m 1 #[.val (.int (11 : Int32))] [(.int (11 : Int32))])) _
    refine XS.ifYes X0.here hx rfl (pc0 := 1) (pc' := 8) rfl (hb hby d1_1) rfl ((if0 _ _).trans (feq (by decide +kernel : ¬ ((11 : Int32) = (0 : Int32)))).2) (by decide) (by decide) ?_
    show Steps p.tables e below (s₁.setTop (mkF m 8 #[.val (.int (11 : Int32))] [])) _
    refine XS.iloadN X0.here hx rfl (hb hby d1_8) rfl ?_
    show Steps p.tables e below (s₁.setTop (mkF m 9 #[.val (.int (11 : Int32))] [(.int (11 : Int32))])) _
    refine XS.iconst X0.here hx rfl (hb hby d1_9) ?_
    show Steps p.tables e below (s₁.setTop (mkF m 10 #[.val (.int (11 : Int32))] [(.int (1 : Int32)), (.int (11 : Int32))])) _
    refine XS.icmpYes X0.here hx rfl (pc0 := 10) (pc' := 17) rfl (hb hby d1_10) rfl (feq (by decide +kernel : ¬ ((11 : Int32) = (1 : Int32)))).2 (by decide) (by decide) ?_
    show Steps p.tables e below (s₁.setTop (mkF m 17 #[.val (.int (11 : Int32))] [])) _
    refine XS.iloadN X0.here hx rfl (hb hby d1_17) rfl ?_
    show Steps p.tables e below (s₁.setTop (mkF m 18 #[.val (.int (11 : Int32))] [(.int (11 : Int32))])) _
    refine XS.iconst X0.here hx rfl (hb hby d1_18) ?_
    show Steps p.tables e below (s₁.setTop (mkF m 19 #[.val (.int (11 : Int32))] [(.int (2 : Int32)), (.int (11 : Int32))])) _
    refine XS.icmpYes X0.here hx rfl (pc0 := 19) (pc' := 26) rfl (hb hby d1_19) rfl (feq (by decide +kernel : ¬ ((11 : Int32) = (2 : Int32)))).2 (by decide) (by decide) ?_
    show Steps p.tables e below (s₁.setTop (mkF m 26 #[.val (.int (11 : Int32))] [])) _
    refine XS.iloadN X0.here hx rfl (hb hby d1_26) rfl ?_
    show Steps p.tables e below (s₁.setTop (mkF m 27 #[.val (.int (11 : Int32))] [(.int (11 : Int32))])) _
    refine XS.iconst X0.here hx rfl (hb hby d1_27) ?_
    show Steps p.tables e below (s₁.setTop (mkF m 28 #[.val (.int (11 : Int32))] [(.int (3 : Int32)), (.int (11 : Int32))])) _
    refine XS.icmpYes X0.here hx rfl (pc0 := 28) (pc' := 35) rfl (hb hby d1_28) rfl (feq (by decide +kernel : ¬ ((11 : Int32) = (3 : Int32)))).2 (by decide) (by decide) ?_
    show Steps p.tables e below (s₁.setTop (mkF m 35 #[.val (.int (11 : Int32))] [])) _
    refine XS.iloadN X0.here hx rfl (hb hby d1_35) rfl ?_
    show Steps p.tables e below (s₁.setTop (mkF m 36 #[.val (.int (11 : Int32))] [(.int (11 : Int32))])) _
    refine XS.iconst X0.here hx rfl (hb hby d1_36) ?_
    show Steps p.tables e below (s₁.setTop (mkF m 37 #[.val (.int (11 : Int32))] [(.int (4 : Int32)), (.int (11 : Int32))])) _
    refine XS.icmpYes X0.here hx rfl (pc0 := 37) (pc' := 44) rfl (hb hby d1_37) rfl (feq (by decide +kernel : ¬ ((11 : Int32) = (4 : Int32)))).2 (by decide) (by decide) ?_
    show Steps p.tables e below (s₁.setTop (mkF m 44 #[.val (.int (11 : Int32))] [])) _
    refine XS.iloadN X0.here hx rfl (hb hby d1_44) rfl ?_
    show Steps p.tables e below (s₁.setTop (mkF m 45 #[.val (.int (11 : Int32))] [(.int (11 : Int32))])) _
    refine XS.iconst X0.here hx rfl (hb hby d1_45) ?_
    show Steps p.tables e below (s₁.setTop (mkF m 46 #[.val (.int (11 : Int32))] [(.int (5 : Int32)), (.int (11 : Int32))])) _
    refine XS.icmpYes X0.here hx rfl (pc0 := 46) (pc' := 53) rfl (hb hby d1_46) rfl (feq (by decide +kernel : ¬ ((11 : Int32) = (5 : Int32)))).2 (by decide) (by decide) ?_
    show Steps p.tables e below (s₁.setTop (mkF m 53 #[.val (.int (11 : Int32))] [])) _
    refine XS.iloadN X0.here hx rfl (hb hby d1_53) rfl ?_
    show Steps p.tables e below (s₁.setTop (mkF m 54 #[.val (.int (11 : Int32))] [(.int (11 : Int32))])) _
    refine XS.bipush X0.here hx rfl (hb hby d1_54) ?_
    show Steps p.tables e below (s₁.setTop (mkF m 56 #[.val (.int (11 : Int32))] [(.int (6 : Int32)), (.int (11 : Int32))])) _
    refine XS.icmpYes X0.here hx rfl (pc0 := 56) (pc' := 63) rfl (hb hby d1_56) rfl (feq (by decide +kernel : ¬ ((11 : Int32) = (6 : Int32)))).2 (by decide) (by decide) ?_
    show Steps p.tables e below (s₁.setTop (mkF m 63 #[.val (.int (11 : Int32))] [])) _
    refine XS.iloadN X0.here hx rfl (hb hby d1_63) rfl ?_
    show Steps p.tables e below (s₁.setTop (mkF m 64 #[.val (.int (11 : Int32))] [(.int (11 : Int32))])) _
    refine XS.bipush X0.here hx rfl (hb hby d1_64) ?_
    show Steps p.tables e below (s₁.setTop (mkF m 66 #[.val (.int (11 : Int32))] [(.int (7 : Int32)), (.int (11 : Int32))])) _
    refine XS.icmpYes X0.here hx rfl (pc0 := 66) (pc' := 73) rfl (hb hby d1_66) rfl (feq (by decide +kernel : ¬ ((11 : Int32) = (7 : Int32)))).2 (by decide) (by decide) ?_
    show Steps p.tables e below (s₁.setTop (mkF m 73 #[.val (.int (11 : Int32))] [])) _
    refine XS.iloadN X0.here hx rfl (hb hby d1_73) rfl ?_
    show Steps p.tables e below (s₁.setTop (mkF m 74 #[.val (.int (11 : Int32))] [(.int (11 : Int32))])) _
    refine XS.bipush X0.here hx rfl (hb hby d1_74) ?_
    show Steps p.tables e below (s₁.setTop (mkF m 76 #[.val (.int (11 : Int32))] [(.int (8 : Int32)), (.int (11 : Int32))])) _
    refine XS.icmpYes X0.here hx rfl (pc0 := 76) (pc' := 83) rfl (hb hby d1_76) rfl (feq (by decide +kernel : ¬ ((11 : Int32) = (8 : Int32)))).2 (by decide) (by decide) ?_
    show Steps p.tables e below (s₁.setTop (mkF m 83 #[.val (.int (11 : Int32))] [])) _
    refine XS.iloadN X0.here hx rfl (hb hby d1_83) rfl ?_
    show Steps p.tables e below (s₁.setTop (mkF m 84 #[.val (.int (11 : Int32))] [(.int (11 : Int32))])) _
    refine XS.bipush X0.here hx rfl (hb hby d1_84) ?_
    show Steps p.tables e below (s₁.setTop (mkF m 86 #[.val (.int (11 : Int32))] [(.int (9 : Int32)), (.int (11 : Int32))])) _
    refine XS.icmpYes X0.here hx rfl (pc0 := 86) (pc' := 93) rfl (hb hby d1_86) rfl (feq (by decide +kernel : ¬ ((11 : Int32) = (9 : Int32)))).2 (by decide) (by decide) ?_
    show Steps p.tables e below (s₁.setTop (mkF m 93 #[.val (.int (11 : Int32))] [])) _
    refine XS.iloadN X0.here hx rfl (hb hby d1_93) rfl ?_
    show Steps p.tables e below (s₁.setTop (mkF m 94 #[.val (.int (11 : Int32))] [(.int (11 : Int32))])) _
    refine XS.bipush X0.here hx rfl (hb hby d1_94) ?_
    show Steps p.tables e below (s₁.setTop (mkF m 96 #[.val (.int (11 : Int32))] [(.int (10 : Int32)), (.int (11 : Int32))])) _
    refine XS.icmpYes X0.here hx rfl (pc0 := 96) (pc' := 103) rfl (hb hby d1_96) rfl (feq (by decide +kernel : ¬ ((11 : Int32) = (10 : Int32)))).2 (by decide) (by decide) ?_
    show Steps p.tables e below (s₁.setTop (mkF m 103 #[.val (.int (11 : Int32))] [])) _
    refine st1 _ ?_
    show Steps p.tables e below (T1.setTop (mkF m 106 #[.val (.int (11 : Int32))] [(.ref w_CHAMPAGNE)])) _
    jvm_step X1.here [X1.here.top, hx, (hb hby d1_106), X1.method', Bd.returns, Value.isRef, FieldType.isReference]
    first | (intro acts; rw [hr _ acts rfl rfl rfl]) | rw [hr _ _ rfl rfl rfl]
    exact Steps.refl _
  · exact ⟨rfl, N0, e1⟩
theorem d2_0 : decode method_3_code 0 = .ok (.iload_n 0, 1) := by decide +kernel
theorem d2_1 : decode method_3_code 1 = .ok (.ifCond .ne 7, 3) := by decide +kernel
theorem d2_4 : decode method_3_code 4 = .ok (.sipush 6000, 3) := by decide +kernel
theorem d2_7 : decode method_3_code 7 = .ok (.ireturn, 1) := by decide +kernel
theorem d2_8 : decode method_3_code 8 = .ok (.iload_n 0, 1) := by decide +kernel
theorem d2_9 : decode method_3_code 9 = .ok (.iconst 1, 1) := by decide +kernel
theorem d2_10 : decode method_3_code 10 = .ok (.if_icmp .ne 7, 3) := by decide +kernel
theorem d2_13 : decode method_3_code 13 = .ok (.sipush 5500, 3) := by decide +kernel
theorem d2_16 : decode method_3_code 16 = .ok (.ireturn, 1) := by decide +kernel
theorem d2_17 : decode method_3_code 17 = .ok (.iload_n 0, 1) := by decide +kernel
theorem d2_18 : decode method_3_code 18 = .ok (.iconst 2, 1) := by decide +kernel
theorem d2_19 : decode method_3_code 19 = .ok (.if_icmp .ne 7, 3) := by decide +kernel
theorem d2_22 : decode method_3_code 22 = .ok (.sipush 8000, 3) := by decide +kernel
theorem d2_25 : decode method_3_code 25 = .ok (.ireturn, 1) := by decide +kernel
theorem d2_26 : decode method_3_code 26 = .ok (.iload_n 0, 1) := by decide +kernel
theorem d2_27 : decode method_3_code 27 = .ok (.iconst 3, 1) := by decide +kernel
theorem d2_28 : decode method_3_code 28 = .ok (.if_icmp .ne 6, 3) := by decide +kernel
theorem d2_31 : decode method_3_code 31 = .ok (.ldc 46, 2) := by decide +kernel
theorem d2_33 : decode method_3_code 33 = .ok (.ireturn, 1) := by decide +kernel
theorem d2_34 : decode method_3_code 34 = .ok (.iload_n 0, 1) := by decide +kernel
theorem d2_35 : decode method_3_code 35 = .ok (.iconst 4, 1) := by decide +kernel
theorem d2_36 : decode method_3_code 36 = .ok (.if_icmp .ne 6, 3) := by decide +kernel
theorem d2_39 : decode method_3_code 39 = .ok (.ldc 47, 2) := by decide +kernel
theorem d2_41 : decode method_3_code 41 = .ok (.ireturn, 1) := by decide +kernel
theorem d2_42 : decode method_3_code 42 = .ok (.iload_n 0, 1) := by decide +kernel
theorem d2_43 : decode method_3_code 43 = .ok (.iconst 5, 1) := by decide +kernel
theorem d2_44 : decode method_3_code 44 = .ok (.if_icmp .ne 6, 3) := by decide +kernel
theorem d2_47 : decode method_3_code 47 = .ok (.ldc 48, 2) := by decide +kernel
theorem d2_49 : decode method_3_code 49 = .ok (.ireturn, 1) := by decide +kernel
theorem d2_50 : decode method_3_code 50 = .ok (.iload_n 0, 1) := by decide +kernel
theorem d2_51 : decode method_3_code 51 = .ok (.bipush 6, 2) := by decide +kernel
theorem d2_53 : decode method_3_code 53 = .ok (.if_icmp .ne 7, 3) := by decide +kernel
theorem d2_56 : decode method_3_code 56 = .ok (.sipush 25000, 3) := by decide +kernel
theorem d2_59 : decode method_3_code 59 = .ok (.ireturn, 1) := by decide +kernel
theorem d2_60 : decode method_3_code 60 = .ok (.iload_n 0, 1) := by decide +kernel
theorem d2_61 : decode method_3_code 61 = .ok (.bipush 7, 2) := by decide +kernel
theorem d2_63 : decode method_3_code 63 = .ok (.if_icmp .ne 7, 3) := by decide +kernel
theorem d2_66 : decode method_3_code 66 = .ok (.sipush 15000, 3) := by decide +kernel
theorem d2_69 : decode method_3_code 69 = .ok (.ireturn, 1) := by decide +kernel
theorem d2_70 : decode method_3_code 70 = .ok (.iload_n 0, 1) := by decide +kernel
theorem d2_71 : decode method_3_code 71 = .ok (.bipush 8, 2) := by decide +kernel
theorem d2_73 : decode method_3_code 73 = .ok (.if_icmp .ne 7, 3) := by decide +kernel
theorem d2_76 : decode method_3_code 76 = .ok (.sipush 5000, 3) := by decide +kernel
theorem d2_79 : decode method_3_code 79 = .ok (.ireturn, 1) := by decide +kernel
theorem d2_80 : decode method_3_code 80 = .ok (.iload_n 0, 1) := by decide +kernel
theorem d2_81 : decode method_3_code 81 = .ok (.bipush 9, 2) := by decide +kernel
theorem d2_83 : decode method_3_code 83 = .ok (.if_icmp .ne 7, 3) := by decide +kernel
theorem d2_86 : decode method_3_code 86 = .ok (.sipush 3000, 3) := by decide +kernel
theorem d2_89 : decode method_3_code 89 = .ok (.ireturn, 1) := by decide +kernel
theorem d2_90 : decode method_3_code 90 = .ok (.iload_n 0, 1) := by decide +kernel
theorem d2_91 : decode method_3_code 91 = .ok (.bipush 10, 2) := by decide +kernel
theorem d2_93 : decode method_3_code 93 = .ok (.if_icmp .ne 6, 3) := by decide +kernel
theorem d2_96 : decode method_3_code 96 = .ok (.ldc 49, 2) := by decide +kernel
theorem d2_98 : decode method_3_code 98 = .ok (.ireturn, 1) := by decide +kernel
theorem d2_99 : decode method_3_code 99 = .ok (.sipush 25000, 3) := by decide +kernel
theorem d2_102 : decode method_3_code 102 = .ok (.ireturn, 1) := by decide +kernel
theorem pn_2 : plainName "com/example/tinsel_tally/tinseltally/model/OrderLinePricePinLaw" = true := by first | (simp [plainName, overriddenIn]; done) | decide +kernel
theorem ef_2 (m : MethodId) (x0 : Int32) : entryFrame m #[(.int x0)] 1 = mkF m 0 #[.val (.int x0)] [] := by first | (simp [entryFrame, mkF, argsToLocals, Value.category]; done) | rfl
set_option maxRecDepth 65536 in
set_option maxHeartbeats 40000000 in
theorem rm2_0 (l : Launch) (Z : State) (a0 : Array Value) (hw : ∀ d ∈ tables_1, d.before a0 Z = true) (ws : List Jvm.Cond) (w_MUSHROOM_SOUP w_CAESAR_SALAD w_ICE_CREAM w_BARBECUE_RIBS w_TAPAS w_CHRISTMAS_PASTA w_CHAMPAGNE w_T_BONE_STEAK w_ZERO_COLA w_CHOCOLATE_CAKE w_RED_WINE w_SEAFOOD_PASTA : Addr) (h0 : Heap) (n0 : Nat) (Z0 : n0 ≤ h0.size) (C : Ctx Z h0 w_MUSHROOM_SOUP w_CAESAR_SALAD w_ICE_CREAM w_BARBECUE_RIBS w_TAPAS w_CHRISTMAS_PASTA w_CHAMPAGNE w_T_BONE_STEAK w_ZERO_COLA w_CHOCOLATE_CAKE w_RED_WINE w_SEAFOOD_PASTA)  :
    MetFree l (⟨"com/example/tinsel_tally/tinseltally/model/OrderLinePricePinLaw", "unitOf", "(I)I"⟩ : MethodName) (head1 (Jvm.Cond.code (⟨"com/example/tinsel_tally/tinseltally/model/OrderLinePricePinLaw", "unitOf", "(I)I"⟩ : MethodName) method_3_code 1 (some .int) :: ws) ({ frames := 0, cells := 0, slots := 0, locals := 0 } : Room)) (fun a U => a = #[(.int (0 : Int32))] ∧ Z.Warmed39 U.vm ∧ U.heap = h0) (fun _ _ _ _ _ => True) (fun _ U o U' => ∃ v L, o = .returned v ∧ QR h0 n0 (some (.int (6000 : Int32))) v U'.heap L ∧ FrameEnd U o U' L ({ frames := 0, cells := 0, slots := 0, locals := 0 } : Room).cells ({ frames := 0, cells := 0, slots := 0, locals := 0 } : Room).slots) := by
  refine MetFree.of_bodySF (plainFor_of_name pn_2) hisR ?_
  intro p e s m args below meth c s₁ Bd hml0 hP hK
  obtain ⟨rfl, hZ, hh⟩ := hP
  have hx := Bd.exec
  have hby := Bd.bytes
  have hml : c.maxLocals = 1 := hml0
  have hown : s.vm.findClass "com/example/tinsel_tally/tinseltally/model/OrderLinePricePinLaw" = some m.cls := findClass_of_methodNamed Bd.named
  have hnm := (name_of_methodNamed Bd.named Bd.method).1
  have X0 : Stand p l e ({ frames := 0, cells := 0, slots := 0, locals := 0 } : Room) s m #[(.int (0 : Int32))] below meth c s₁ [] 0 0 := Stand.of_body Bd
  have e0 : s₁.heap = h0 := by rw [← hh, Bd.state]; rfl
  have N0 := Fr.nil n0
  have pre0 : ∀ t, Steps p.tables e below (s₁.setTop (mkF m 0 #[.val (.int (0 : Int32))] [])) t → Steps p.tables e below (s₁.setTop (entryFrame m #[(.int (0 : Int32))] 1)) t := fun t k => castTop (ef_2 m (0 : Int32)) k
  obtain ⟨fs, hr, hrun, hended, hW, hsame⟩ := X0.leave (v := (some (.int (6000 : Int32)))) (fun h => by rw [Bd.returns] at h; cases h)
  refine ⟨_, _, pre0 _ ?_, hrun, hended, _, _, rfl, ?_, ⟨_, rfl⟩, hW, hsame.mono (by decide) (by decide)⟩
  · show Steps p.tables e below (s₁.setTop (mkF m 0 #[.val (.int (0 : Int32))] [])) _
    refine XS.iloadN X0.here hx rfl (hb hby d2_0) rfl ?_
    show Steps p.tables e below (s₁.setTop (mkF m 1 #[.val (.int (0 : Int32))] [(.int (0 : Int32))])) _
    refine XS.ifNo X0.here hx rfl (hb hby d2_1) rfl ((if0 _ _).trans (teq (by decide +kernel : (0 : Int32) = (0 : Int32))).2) ?_
    show Steps p.tables e below (s₁.setTop (mkF m 4 #[.val (.int (0 : Int32))] [])) _
    refine XS.sipush X0.here hx rfl (hb hby d2_4) ?_
    show Steps p.tables e below (s₁.setTop (mkF m 7 #[.val (.int (0 : Int32))] [(.int (6000 : Int32))])) _
    exact retI X0 hx Bd.returns (hb hby d2_7) hr
  · exact ⟨rfl, N0, e0⟩
set_option maxRecDepth 65536 in
set_option maxHeartbeats 40000000 in
theorem rm2_1 (l : Launch) (Z : State) (a0 : Array Value) (hw : ∀ d ∈ tables_1, d.before a0 Z = true) (ws : List Jvm.Cond) (w_MUSHROOM_SOUP w_CAESAR_SALAD w_ICE_CREAM w_BARBECUE_RIBS w_TAPAS w_CHRISTMAS_PASTA w_CHAMPAGNE w_T_BONE_STEAK w_ZERO_COLA w_CHOCOLATE_CAKE w_RED_WINE w_SEAFOOD_PASTA : Addr) (h0 : Heap) (n0 : Nat) (Z0 : n0 ≤ h0.size) (C : Ctx Z h0 w_MUSHROOM_SOUP w_CAESAR_SALAD w_ICE_CREAM w_BARBECUE_RIBS w_TAPAS w_CHRISTMAS_PASTA w_CHAMPAGNE w_T_BONE_STEAK w_ZERO_COLA w_CHOCOLATE_CAKE w_RED_WINE w_SEAFOOD_PASTA)  :
    MetFree l (⟨"com/example/tinsel_tally/tinseltally/model/OrderLinePricePinLaw", "unitOf", "(I)I"⟩ : MethodName) (head1 (Jvm.Cond.code (⟨"com/example/tinsel_tally/tinseltally/model/OrderLinePricePinLaw", "unitOf", "(I)I"⟩ : MethodName) method_3_code 1 (some .int) :: ws) ({ frames := 0, cells := 0, slots := 0, locals := 0 } : Room)) (fun a U => a = #[(.int (1 : Int32))] ∧ Z.Warmed39 U.vm ∧ U.heap = h0) (fun _ _ _ _ _ => True) (fun _ U o U' => ∃ v L, o = .returned v ∧ QR h0 n0 (some (.int (5500 : Int32))) v U'.heap L ∧ FrameEnd U o U' L ({ frames := 0, cells := 0, slots := 0, locals := 0 } : Room).cells ({ frames := 0, cells := 0, slots := 0, locals := 0 } : Room).slots) := by
  refine MetFree.of_bodySF (plainFor_of_name pn_2) hisR ?_
  intro p e s m args below meth c s₁ Bd hml0 hP hK
  obtain ⟨rfl, hZ, hh⟩ := hP
  have hx := Bd.exec
  have hby := Bd.bytes
  have hml : c.maxLocals = 1 := hml0
  have hown : s.vm.findClass "com/example/tinsel_tally/tinseltally/model/OrderLinePricePinLaw" = some m.cls := findClass_of_methodNamed Bd.named
  have hnm := (name_of_methodNamed Bd.named Bd.method).1
  have X0 : Stand p l e ({ frames := 0, cells := 0, slots := 0, locals := 0 } : Room) s m #[(.int (1 : Int32))] below meth c s₁ [] 0 0 := Stand.of_body Bd
  have e0 : s₁.heap = h0 := by rw [← hh, Bd.state]; rfl
  have N0 := Fr.nil n0
  have pre0 : ∀ t, Steps p.tables e below (s₁.setTop (mkF m 0 #[.val (.int (1 : Int32))] [])) t → Steps p.tables e below (s₁.setTop (entryFrame m #[(.int (1 : Int32))] 1)) t := fun t k => castTop (ef_2 m (1 : Int32)) k
  obtain ⟨fs, hr, hrun, hended, hW, hsame⟩ := X0.leave (v := (some (.int (5500 : Int32)))) (fun h => by rw [Bd.returns] at h; cases h)
  refine ⟨_, _, pre0 _ ?_, hrun, hended, _, _, rfl, ?_, ⟨_, rfl⟩, hW, hsame.mono (by decide) (by decide)⟩
  · show Steps p.tables e below (s₁.setTop (mkF m 0 #[.val (.int (1 : Int32))] [])) _
    refine XS.iloadN X0.here hx rfl (hb hby d2_0) rfl ?_
    show Steps p.tables e below (s₁.setTop (mkF m 1 #[.val (.int (1 : Int32))] [(.int (1 : Int32))])) _
    refine XS.ifYes X0.here hx rfl (pc0 := 1) (pc' := 8) rfl (hb hby d2_1) rfl ((if0 _ _).trans (feq (by decide +kernel : ¬ ((1 : Int32) = (0 : Int32)))).2) (by decide) (by decide) ?_
    show Steps p.tables e below (s₁.setTop (mkF m 8 #[.val (.int (1 : Int32))] [])) _
    refine XS.iloadN X0.here hx rfl (hb hby d2_8) rfl ?_
    show Steps p.tables e below (s₁.setTop (mkF m 9 #[.val (.int (1 : Int32))] [(.int (1 : Int32))])) _
    refine XS.iconst X0.here hx rfl (hb hby d2_9) ?_
    show Steps p.tables e below (s₁.setTop (mkF m 10 #[.val (.int (1 : Int32))] [(.int (1 : Int32)), (.int (1 : Int32))])) _
    refine XS.icmpNo X0.here hx rfl (hb hby d2_10) rfl (teq (by decide +kernel : (1 : Int32) = (1 : Int32))).2 ?_
    show Steps p.tables e below (s₁.setTop (mkF m 13 #[.val (.int (1 : Int32))] [])) _
    refine XS.sipush X0.here hx rfl (hb hby d2_13) ?_
    show Steps p.tables e below (s₁.setTop (mkF m 16 #[.val (.int (1 : Int32))] [(.int (5500 : Int32))])) _
    exact retI X0 hx Bd.returns (hb hby d2_16) hr
  · exact ⟨rfl, N0, e0⟩
set_option maxRecDepth 65536 in
set_option maxHeartbeats 40000000 in
theorem rm2_2 (l : Launch) (Z : State) (a0 : Array Value) (hw : ∀ d ∈ tables_1, d.before a0 Z = true) (ws : List Jvm.Cond) (w_MUSHROOM_SOUP w_CAESAR_SALAD w_ICE_CREAM w_BARBECUE_RIBS w_TAPAS w_CHRISTMAS_PASTA w_CHAMPAGNE w_T_BONE_STEAK w_ZERO_COLA w_CHOCOLATE_CAKE w_RED_WINE w_SEAFOOD_PASTA : Addr) (h0 : Heap) (n0 : Nat) (Z0 : n0 ≤ h0.size) (C : Ctx Z h0 w_MUSHROOM_SOUP w_CAESAR_SALAD w_ICE_CREAM w_BARBECUE_RIBS w_TAPAS w_CHRISTMAS_PASTA w_CHAMPAGNE w_T_BONE_STEAK w_ZERO_COLA w_CHOCOLATE_CAKE w_RED_WINE w_SEAFOOD_PASTA)  :
    MetFree l (⟨"com/example/tinsel_tally/tinseltally/model/OrderLinePricePinLaw", "unitOf", "(I)I"⟩ : MethodName) (head1 (Jvm.Cond.code (⟨"com/example/tinsel_tally/tinseltally/model/OrderLinePricePinLaw", "unitOf", "(I)I"⟩ : MethodName) method_3_code 1 (some .int) :: ws) ({ frames := 0, cells := 0, slots := 0, locals := 0 } : Room)) (fun a U => a = #[(.int (2 : Int32))] ∧ Z.Warmed39 U.vm ∧ U.heap = h0) (fun _ _ _ _ _ => True) (fun _ U o U' => ∃ v L, o = .returned v ∧ QR h0 n0 (some (.int (8000 : Int32))) v U'.heap L ∧ FrameEnd U o U' L ({ frames := 0, cells := 0, slots := 0, locals := 0 } : Room).cells ({ frames := 0, cells := 0, slots := 0, locals := 0 } : Room).slots) := by
  refine MetFree.of_bodySF (plainFor_of_name pn_2) hisR ?_
  intro p e s m args below meth c s₁ Bd hml0 hP hK
  obtain ⟨rfl, hZ, hh⟩ := hP
  have hx := Bd.exec
  have hby := Bd.bytes
  have hml : c.maxLocals = 1 := hml0
  have hown : s.vm.findClass "com/example/tinsel_tally/tinseltally/model/OrderLinePricePinLaw" = some m.cls := findClass_of_methodNamed Bd.named
  have hnm := (name_of_methodNamed Bd.named Bd.method).1
  have X0 : Stand p l e ({ frames := 0, cells := 0, slots := 0, locals := 0 } : Room) s m #[(.int (2 : Int32))] below meth c s₁ [] 0 0 := Stand.of_body Bd
  have e0 : s₁.heap = h0 := by rw [← hh, Bd.state]; rfl
  have N0 := Fr.nil n0
  have pre0 : ∀ t, Steps p.tables e below (s₁.setTop (mkF m 0 #[.val (.int (2 : Int32))] [])) t → Steps p.tables e below (s₁.setTop (entryFrame m #[(.int (2 : Int32))] 1)) t := fun t k => castTop (ef_2 m (2 : Int32)) k
  obtain ⟨fs, hr, hrun, hended, hW, hsame⟩ := X0.leave (v := (some (.int (8000 : Int32)))) (fun h => by rw [Bd.returns] at h; cases h)
  refine ⟨_, _, pre0 _ ?_, hrun, hended, _, _, rfl, ?_, ⟨_, rfl⟩, hW, hsame.mono (by decide) (by decide)⟩
  · show Steps p.tables e below (s₁.setTop (mkF m 0 #[.val (.int (2 : Int32))] [])) _
    refine XS.iloadN X0.here hx rfl (hb hby d2_0) rfl ?_
    show Steps p.tables e below (s₁.setTop (mkF m 1 #[.val (.int (2 : Int32))] [(.int (2 : Int32))])) _
    refine XS.ifYes X0.here hx rfl (pc0 := 1) (pc' := 8) rfl (hb hby d2_1) rfl ((if0 _ _).trans (feq (by decide +kernel : ¬ ((2 : Int32) = (0 : Int32)))).2) (by decide) (by decide) ?_
    show Steps p.tables e below (s₁.setTop (mkF m 8 #[.val (.int (2 : Int32))] [])) _
    refine XS.iloadN X0.here hx rfl (hb hby d2_8) rfl ?_
    show Steps p.tables e below (s₁.setTop (mkF m 9 #[.val (.int (2 : Int32))] [(.int (2 : Int32))])) _
    refine XS.iconst X0.here hx rfl (hb hby d2_9) ?_
    show Steps p.tables e below (s₁.setTop (mkF m 10 #[.val (.int (2 : Int32))] [(.int (1 : Int32)), (.int (2 : Int32))])) _
    refine XS.icmpYes X0.here hx rfl (pc0 := 10) (pc' := 17) rfl (hb hby d2_10) rfl (feq (by decide +kernel : ¬ ((2 : Int32) = (1 : Int32)))).2 (by decide) (by decide) ?_
    show Steps p.tables e below (s₁.setTop (mkF m 17 #[.val (.int (2 : Int32))] [])) _
    refine XS.iloadN X0.here hx rfl (hb hby d2_17) rfl ?_
    show Steps p.tables e below (s₁.setTop (mkF m 18 #[.val (.int (2 : Int32))] [(.int (2 : Int32))])) _
    refine XS.iconst X0.here hx rfl (hb hby d2_18) ?_
    show Steps p.tables e below (s₁.setTop (mkF m 19 #[.val (.int (2 : Int32))] [(.int (2 : Int32)), (.int (2 : Int32))])) _
    refine XS.icmpNo X0.here hx rfl (hb hby d2_19) rfl (teq (by decide +kernel : (2 : Int32) = (2 : Int32))).2 ?_
    show Steps p.tables e below (s₁.setTop (mkF m 22 #[.val (.int (2 : Int32))] [])) _
    refine XS.sipush X0.here hx rfl (hb hby d2_22) ?_
    show Steps p.tables e below (s₁.setTop (mkF m 25 #[.val (.int (2 : Int32))] [(.int (8000 : Int32))])) _
    exact retI X0 hx Bd.returns (hb hby d2_25) hr
  · exact ⟨rfl, N0, e0⟩
set_option maxRecDepth 65536 in
set_option maxHeartbeats 40000000 in
theorem rm2_3 (l : Launch) (Z : State) (a0 : Array Value) (hw : ∀ d ∈ tables_1, d.before a0 Z = true) (ws : List Jvm.Cond) (w_MUSHROOM_SOUP w_CAESAR_SALAD w_ICE_CREAM w_BARBECUE_RIBS w_TAPAS w_CHRISTMAS_PASTA w_CHAMPAGNE w_T_BONE_STEAK w_ZERO_COLA w_CHOCOLATE_CAKE w_RED_WINE w_SEAFOOD_PASTA : Addr) (h0 : Heap) (n0 : Nat) (Z0 : n0 ≤ h0.size) (C : Ctx Z h0 w_MUSHROOM_SOUP w_CAESAR_SALAD w_ICE_CREAM w_BARBECUE_RIBS w_TAPAS w_CHRISTMAS_PASTA w_CHAMPAGNE w_T_BONE_STEAK w_ZERO_COLA w_CHOCOLATE_CAKE w_RED_WINE w_SEAFOOD_PASTA)  :
    MetFree l (⟨"com/example/tinsel_tally/tinseltally/model/OrderLinePricePinLaw", "unitOf", "(I)I"⟩ : MethodName) (head1 (Jvm.Cond.code (⟨"com/example/tinsel_tally/tinseltally/model/OrderLinePricePinLaw", "unitOf", "(I)I"⟩ : MethodName) method_3_code 1 (some .int) :: ws) ({ frames := 0, cells := 0, slots := 0, locals := 0 } : Room)) (fun a U => a = #[(.int (3 : Int32))] ∧ Z.Warmed39 U.vm ∧ U.heap = h0) (fun _ _ _ _ _ => True) (fun _ U o U' => ∃ v L, o = .returned v ∧ QR h0 n0 (some (.int (55000 : Int32))) v U'.heap L ∧ FrameEnd U o U' L ({ frames := 0, cells := 0, slots := 0, locals := 0 } : Room).cells ({ frames := 0, cells := 0, slots := 0, locals := 0 } : Room).slots) := by
  refine MetFree.of_bodySF (plainFor_of_name pn_2) hisR ?_
  intro p e s m args below meth c s₁ Bd hml0 hP hK
  obtain ⟨rfl, hZ, hh⟩ := hP
  have hx := Bd.exec
  have hby := Bd.bytes
  have hml : c.maxLocals = 1 := hml0
  have hown : s.vm.findClass "com/example/tinsel_tally/tinseltally/model/OrderLinePricePinLaw" = some m.cls := findClass_of_methodNamed Bd.named
  have hnm := (name_of_methodNamed Bd.named Bd.method).1
  have X0 : Stand p l e ({ frames := 0, cells := 0, slots := 0, locals := 0 } : Room) s m #[(.int (3 : Int32))] below meth c s₁ [] 0 0 := Stand.of_body Bd
  have e0 : s₁.heap = h0 := by rw [← hh, Bd.state]; rfl
  have N0 := Fr.nil n0
  have pre0 : ∀ t, Steps p.tables e below (s₁.setTop (mkF m 0 #[.val (.int (3 : Int32))] [])) t → Steps p.tables e below (s₁.setTop (entryFrame m #[(.int (3 : Int32))] 1)) t := fun t k => castTop (ef_2 m (3 : Int32)) k
  obtain ⟨fs, hr, hrun, hended, hW, hsame⟩ := X0.leave (v := (some (.int (55000 : Int32)))) (fun h => by rw [Bd.returns] at h; cases h)
  refine ⟨_, _, pre0 _ ?_, hrun, hended, _, _, rfl, ?_, ⟨_, rfl⟩, hW, hsame.mono (by decide) (by decide)⟩
  · show Steps p.tables e below (s₁.setTop (mkF m 0 #[.val (.int (3 : Int32))] [])) _
    refine XS.iloadN X0.here hx rfl (hb hby d2_0) rfl ?_
    show Steps p.tables e below (s₁.setTop (mkF m 1 #[.val (.int (3 : Int32))] [(.int (3 : Int32))])) _
    refine XS.ifYes X0.here hx rfl (pc0 := 1) (pc' := 8) rfl (hb hby d2_1) rfl ((if0 _ _).trans (feq (by decide +kernel : ¬ ((3 : Int32) = (0 : Int32)))).2) (by decide) (by decide) ?_
    show Steps p.tables e below (s₁.setTop (mkF m 8 #[.val (.int (3 : Int32))] [])) _
    refine XS.iloadN X0.here hx rfl (hb hby d2_8) rfl ?_
    show Steps p.tables e below (s₁.setTop (mkF m 9 #[.val (.int (3 : Int32))] [(.int (3 : Int32))])) _
    refine XS.iconst X0.here hx rfl (hb hby d2_9) ?_
    show Steps p.tables e below (s₁.setTop (mkF m 10 #[.val (.int (3 : Int32))] [(.int (1 : Int32)), (.int (3 : Int32))])) _
    refine XS.icmpYes X0.here hx rfl (pc0 := 10) (pc' := 17) rfl (hb hby d2_10) rfl (feq (by decide +kernel : ¬ ((3 : Int32) = (1 : Int32)))).2 (by decide) (by decide) ?_
    show Steps p.tables e below (s₁.setTop (mkF m 17 #[.val (.int (3 : Int32))] [])) _
    refine XS.iloadN X0.here hx rfl (hb hby d2_17) rfl ?_
    show Steps p.tables e below (s₁.setTop (mkF m 18 #[.val (.int (3 : Int32))] [(.int (3 : Int32))])) _
    refine XS.iconst X0.here hx rfl (hb hby d2_18) ?_
    show Steps p.tables e below (s₁.setTop (mkF m 19 #[.val (.int (3 : Int32))] [(.int (2 : Int32)), (.int (3 : Int32))])) _
    refine XS.icmpYes X0.here hx rfl (pc0 := 19) (pc' := 26) rfl (hb hby d2_19) rfl (feq (by decide +kernel : ¬ ((3 : Int32) = (2 : Int32)))).2 (by decide) (by decide) ?_
    show Steps p.tables e below (s₁.setTop (mkF m 26 #[.val (.int (3 : Int32))] [])) _
    refine XS.iloadN X0.here hx rfl (hb hby d2_26) rfl ?_
    show Steps p.tables e below (s₁.setTop (mkF m 27 #[.val (.int (3 : Int32))] [(.int (3 : Int32))])) _
    refine XS.iconst X0.here hx rfl (hb hby d2_27) ?_
    show Steps p.tables e below (s₁.setTop (mkF m 28 #[.val (.int (3 : Int32))] [(.int (3 : Int32)), (.int (3 : Int32))])) _
    refine XS.icmpNo X0.here hx rfl (hb hby d2_28) rfl (teq (by decide +kernel : (3 : Int32) = (3 : Int32))).2 ?_
    show Steps p.tables e below (s₁.setTop (mkF m 31 #[.val (.int (3 : Int32))] [])) _
    refine X0.ldcInt hx hown (mvT hZ (hw _ (List.mem_of_getElem? (i := 66) rfl))) (g := (mkF m 31 #[.val (.int (3 : Int32))] [])) rfl (hb hby d2_31) _ ?_
    show Steps p.tables e below (s₁.setTop (mkF m 33 #[.val (.int (3 : Int32))] [(.int (55000 : Int32))])) _
    exact retI X0 hx Bd.returns (hb hby d2_33) hr
  · exact ⟨rfl, N0, e0⟩
set_option maxRecDepth 65536 in
set_option maxHeartbeats 40000000 in
theorem rm2_4 (l : Launch) (Z : State) (a0 : Array Value) (hw : ∀ d ∈ tables_1, d.before a0 Z = true) (ws : List Jvm.Cond) (w_MUSHROOM_SOUP w_CAESAR_SALAD w_ICE_CREAM w_BARBECUE_RIBS w_TAPAS w_CHRISTMAS_PASTA w_CHAMPAGNE w_T_BONE_STEAK w_ZERO_COLA w_CHOCOLATE_CAKE w_RED_WINE w_SEAFOOD_PASTA : Addr) (h0 : Heap) (n0 : Nat) (Z0 : n0 ≤ h0.size) (C : Ctx Z h0 w_MUSHROOM_SOUP w_CAESAR_SALAD w_ICE_CREAM w_BARBECUE_RIBS w_TAPAS w_CHRISTMAS_PASTA w_CHAMPAGNE w_T_BONE_STEAK w_ZERO_COLA w_CHOCOLATE_CAKE w_RED_WINE w_SEAFOOD_PASTA)  :
    MetFree l (⟨"com/example/tinsel_tally/tinseltally/model/OrderLinePricePinLaw", "unitOf", "(I)I"⟩ : MethodName) (head1 (Jvm.Cond.code (⟨"com/example/tinsel_tally/tinseltally/model/OrderLinePricePinLaw", "unitOf", "(I)I"⟩ : MethodName) method_3_code 1 (some .int) :: ws) ({ frames := 0, cells := 0, slots := 0, locals := 0 } : Room)) (fun a U => a = #[(.int (4 : Int32))] ∧ Z.Warmed39 U.vm ∧ U.heap = h0) (fun _ _ _ _ _ => True) (fun _ U o U' => ∃ v L, o = .returned v ∧ QR h0 n0 (some (.int (54000 : Int32))) v U'.heap L ∧ FrameEnd U o U' L ({ frames := 0, cells := 0, slots := 0, locals := 0 } : Room).cells ({ frames := 0, cells := 0, slots := 0, locals := 0 } : Room).slots) := by
  refine MetFree.of_bodySF (plainFor_of_name pn_2) hisR ?_
  intro p e s m args below meth c s₁ Bd hml0 hP hK
  obtain ⟨rfl, hZ, hh⟩ := hP
  have hx := Bd.exec
  have hby := Bd.bytes
  have hml : c.maxLocals = 1 := hml0
  have hown : s.vm.findClass "com/example/tinsel_tally/tinseltally/model/OrderLinePricePinLaw" = some m.cls := findClass_of_methodNamed Bd.named
  have hnm := (name_of_methodNamed Bd.named Bd.method).1
  have X0 : Stand p l e ({ frames := 0, cells := 0, slots := 0, locals := 0 } : Room) s m #[(.int (4 : Int32))] below meth c s₁ [] 0 0 := Stand.of_body Bd
  have e0 : s₁.heap = h0 := by rw [← hh, Bd.state]; rfl
  have N0 := Fr.nil n0
  have pre0 : ∀ t, Steps p.tables e below (s₁.setTop (mkF m 0 #[.val (.int (4 : Int32))] [])) t → Steps p.tables e below (s₁.setTop (entryFrame m #[(.int (4 : Int32))] 1)) t := fun t k => castTop (ef_2 m (4 : Int32)) k
  obtain ⟨fs, hr, hrun, hended, hW, hsame⟩ := X0.leave (v := (some (.int (54000 : Int32)))) (fun h => by rw [Bd.returns] at h; cases h)
  refine ⟨_, _, pre0 _ ?_, hrun, hended, _, _, rfl, ?_, ⟨_, rfl⟩, hW, hsame.mono (by decide) (by decide)⟩
  · show Steps p.tables e below (s₁.setTop (mkF m 0 #[.val (.int (4 : Int32))] [])) _
    refine XS.iloadN X0.here hx rfl (hb hby d2_0) rfl ?_
    show Steps p.tables e below (s₁.setTop (mkF m 1 #[.val (.int (4 : Int32))] [(.int (4 : Int32))])) _
    refine XS.ifYes X0.here hx rfl (pc0 := 1) (pc' := 8) rfl (hb hby d2_1) rfl ((if0 _ _).trans (feq (by decide +kernel : ¬ ((4 : Int32) = (0 : Int32)))).2) (by decide) (by decide) ?_
    show Steps p.tables e below (s₁.setTop (mkF m 8 #[.val (.int (4 : Int32))] [])) _
    refine XS.iloadN X0.here hx rfl (hb hby d2_8) rfl ?_
    show Steps p.tables e below (s₁.setTop (mkF m 9 #[.val (.int (4 : Int32))] [(.int (4 : Int32))])) _
    refine XS.iconst X0.here hx rfl (hb hby d2_9) ?_
    show Steps p.tables e below (s₁.setTop (mkF m 10 #[.val (.int (4 : Int32))] [(.int (1 : Int32)), (.int (4 : Int32))])) _
    refine XS.icmpYes X0.here hx rfl (pc0 := 10) (pc' := 17) rfl (hb hby d2_10) rfl (feq (by decide +kernel : ¬ ((4 : Int32) = (1 : Int32)))).2 (by decide) (by decide) ?_
    show Steps p.tables e below (s₁.setTop (mkF m 17 #[.val (.int (4 : Int32))] [])) _
    refine XS.iloadN X0.here hx rfl (hb hby d2_17) rfl ?_
    show Steps p.tables e below (s₁.setTop (mkF m 18 #[.val (.int (4 : Int32))] [(.int (4 : Int32))])) _
    refine XS.iconst X0.here hx rfl (hb hby d2_18) ?_
    show Steps p.tables e below (s₁.setTop (mkF m 19 #[.val (.int (4 : Int32))] [(.int (2 : Int32)), (.int (4 : Int32))])) _
    refine XS.icmpYes X0.here hx rfl (pc0 := 19) (pc' := 26) rfl (hb hby d2_19) rfl (feq (by decide +kernel : ¬ ((4 : Int32) = (2 : Int32)))).2 (by decide) (by decide) ?_
    show Steps p.tables e below (s₁.setTop (mkF m 26 #[.val (.int (4 : Int32))] [])) _
    refine XS.iloadN X0.here hx rfl (hb hby d2_26) rfl ?_
    show Steps p.tables e below (s₁.setTop (mkF m 27 #[.val (.int (4 : Int32))] [(.int (4 : Int32))])) _
    refine XS.iconst X0.here hx rfl (hb hby d2_27) ?_
    show Steps p.tables e below (s₁.setTop (mkF m 28 #[.val (.int (4 : Int32))] [(.int (3 : Int32)), (.int (4 : Int32))])) _
    refine XS.icmpYes X0.here hx rfl (pc0 := 28) (pc' := 34) rfl (hb hby d2_28) rfl (feq (by decide +kernel : ¬ ((4 : Int32) = (3 : Int32)))).2 (by decide) (by decide) ?_
    show Steps p.tables e below (s₁.setTop (mkF m 34 #[.val (.int (4 : Int32))] [])) _
    refine XS.iloadN X0.here hx rfl (hb hby d2_34) rfl ?_
    show Steps p.tables e below (s₁.setTop (mkF m 35 #[.val (.int (4 : Int32))] [(.int (4 : Int32))])) _
    refine XS.iconst X0.here hx rfl (hb hby d2_35) ?_
    show Steps p.tables e below (s₁.setTop (mkF m 36 #[.val (.int (4 : Int32))] [(.int (4 : Int32)), (.int (4 : Int32))])) _
    refine XS.icmpNo X0.here hx rfl (hb hby d2_36) rfl (teq (by decide +kernel : (4 : Int32) = (4 : Int32))).2 ?_
    show Steps p.tables e below (s₁.setTop (mkF m 39 #[.val (.int (4 : Int32))] [])) _
    refine X0.ldcInt hx hown (mvT hZ (hw _ (List.mem_of_getElem? (i := 57) rfl))) (g := (mkF m 39 #[.val (.int (4 : Int32))] [])) rfl (hb hby d2_39) _ ?_
    show Steps p.tables e below (s₁.setTop (mkF m 41 #[.val (.int (4 : Int32))] [(.int (54000 : Int32))])) _
    exact retI X0 hx Bd.returns (hb hby d2_41) hr
  · exact ⟨rfl, N0, e0⟩
set_option maxRecDepth 65536 in
set_option maxHeartbeats 40000000 in
theorem rm2_5 (l : Launch) (Z : State) (a0 : Array Value) (hw : ∀ d ∈ tables_1, d.before a0 Z = true) (ws : List Jvm.Cond) (w_MUSHROOM_SOUP w_CAESAR_SALAD w_ICE_CREAM w_BARBECUE_RIBS w_TAPAS w_CHRISTMAS_PASTA w_CHAMPAGNE w_T_BONE_STEAK w_ZERO_COLA w_CHOCOLATE_CAKE w_RED_WINE w_SEAFOOD_PASTA : Addr) (h0 : Heap) (n0 : Nat) (Z0 : n0 ≤ h0.size) (C : Ctx Z h0 w_MUSHROOM_SOUP w_CAESAR_SALAD w_ICE_CREAM w_BARBECUE_RIBS w_TAPAS w_CHRISTMAS_PASTA w_CHAMPAGNE w_T_BONE_STEAK w_ZERO_COLA w_CHOCOLATE_CAKE w_RED_WINE w_SEAFOOD_PASTA)  :
    MetFree l (⟨"com/example/tinsel_tally/tinseltally/model/OrderLinePricePinLaw", "unitOf", "(I)I"⟩ : MethodName) (head1 (Jvm.Cond.code (⟨"com/example/tinsel_tally/tinseltally/model/OrderLinePricePinLaw", "unitOf", "(I)I"⟩ : MethodName) method_3_code 1 (some .int) :: ws) ({ frames := 0, cells := 0, slots := 0, locals := 0 } : Room)) (fun a U => a = #[(.int (5 : Int32))] ∧ Z.Warmed39 U.vm ∧ U.heap = h0) (fun _ _ _ _ _ => True) (fun _ U o U' => ∃ v L, o = .returned v ∧ QR h0 n0 (some (.int (35000 : Int32))) v U'.heap L ∧ FrameEnd U o U' L ({ frames := 0, cells := 0, slots := 0, locals := 0 } : Room).cells ({ frames := 0, cells := 0, slots := 0, locals := 0 } : Room).slots) := by
  refine MetFree.of_bodySF (plainFor_of_name pn_2) hisR ?_
  intro p e s m args below meth c s₁ Bd hml0 hP hK
  obtain ⟨rfl, hZ, hh⟩ := hP
  have hx := Bd.exec
  have hby := Bd.bytes
  have hml : c.maxLocals = 1 := hml0
  have hown : s.vm.findClass "com/example/tinsel_tally/tinseltally/model/OrderLinePricePinLaw" = some m.cls := findClass_of_methodNamed Bd.named
  have hnm := (name_of_methodNamed Bd.named Bd.method).1
  have X0 : Stand p l e ({ frames := 0, cells := 0, slots := 0, locals := 0 } : Room) s m #[(.int (5 : Int32))] below meth c s₁ [] 0 0 := Stand.of_body Bd
  have e0 : s₁.heap = h0 := by rw [← hh, Bd.state]; rfl
  have N0 := Fr.nil n0
  have pre0 : ∀ t, Steps p.tables e below (s₁.setTop (mkF m 0 #[.val (.int (5 : Int32))] [])) t → Steps p.tables e below (s₁.setTop (entryFrame m #[(.int (5 : Int32))] 1)) t := fun t k => castTop (ef_2 m (5 : Int32)) k
  obtain ⟨fs, hr, hrun, hended, hW, hsame⟩ := X0.leave (v := (some (.int (35000 : Int32)))) (fun h => by rw [Bd.returns] at h; cases h)
  refine ⟨_, _, pre0 _ ?_, hrun, hended, _, _, rfl, ?_, ⟨_, rfl⟩, hW, hsame.mono (by decide) (by decide)⟩
  · show Steps p.tables e below (s₁.setTop (mkF m 0 #[.val (.int (5 : Int32))] [])) _
    refine XS.iloadN X0.here hx rfl (hb hby d2_0) rfl ?_
    show Steps p.tables e below (s₁.setTop (mkF m 1 #[.val (.int (5 : Int32))] [(.int (5 : Int32))])) _
    refine XS.ifYes X0.here hx rfl (pc0 := 1) (pc' := 8) rfl (hb hby d2_1) rfl ((if0 _ _).trans (feq (by decide +kernel : ¬ ((5 : Int32) = (0 : Int32)))).2) (by decide) (by decide) ?_
    show Steps p.tables e below (s₁.setTop (mkF m 8 #[.val (.int (5 : Int32))] [])) _
    refine XS.iloadN X0.here hx rfl (hb hby d2_8) rfl ?_
    show Steps p.tables e below (s₁.setTop (mkF m 9 #[.val (.int (5 : Int32))] [(.int (5 : Int32))])) _
    refine XS.iconst X0.here hx rfl (hb hby d2_9) ?_
    show Steps p.tables e below (s₁.setTop (mkF m 10 #[.val (.int (5 : Int32))] [(.int (1 : Int32)), (.int (5 : Int32))])) _
    refine XS.icmpYes X0.here hx rfl (pc0 := 10) (pc' := 17) rfl (hb hby d2_10) rfl (feq (by decide +kernel : ¬ ((5 : Int32) = (1 : Int32)))).2 (by decide) (by decide) ?_
    show Steps p.tables e below (s₁.setTop (mkF m 17 #[.val (.int (5 : Int32))] [])) _
    refine XS.iloadN X0.here hx rfl (hb hby d2_17) rfl ?_
    show Steps p.tables e below (s₁.setTop (mkF m 18 #[.val (.int (5 : Int32))] [(.int (5 : Int32))])) _
    refine XS.iconst X0.here hx rfl (hb hby d2_18) ?_
    show Steps p.tables e below (s₁.setTop (mkF m 19 #[.val (.int (5 : Int32))] [(.int (2 : Int32)), (.int (5 : Int32))])) _
    refine XS.icmpYes X0.here hx rfl (pc0 := 19) (pc' := 26) rfl (hb hby d2_19) rfl (feq (by decide +kernel : ¬ ((5 : Int32) = (2 : Int32)))).2 (by decide) (by decide) ?_
    show Steps p.tables e below (s₁.setTop (mkF m 26 #[.val (.int (5 : Int32))] [])) _
    refine XS.iloadN X0.here hx rfl (hb hby d2_26) rfl ?_
    show Steps p.tables e below (s₁.setTop (mkF m 27 #[.val (.int (5 : Int32))] [(.int (5 : Int32))])) _
    refine XS.iconst X0.here hx rfl (hb hby d2_27) ?_
    show Steps p.tables e below (s₁.setTop (mkF m 28 #[.val (.int (5 : Int32))] [(.int (3 : Int32)), (.int (5 : Int32))])) _
    refine XS.icmpYes X0.here hx rfl (pc0 := 28) (pc' := 34) rfl (hb hby d2_28) rfl (feq (by decide +kernel : ¬ ((5 : Int32) = (3 : Int32)))).2 (by decide) (by decide) ?_
    show Steps p.tables e below (s₁.setTop (mkF m 34 #[.val (.int (5 : Int32))] [])) _
    refine XS.iloadN X0.here hx rfl (hb hby d2_34) rfl ?_
    show Steps p.tables e below (s₁.setTop (mkF m 35 #[.val (.int (5 : Int32))] [(.int (5 : Int32))])) _
    refine XS.iconst X0.here hx rfl (hb hby d2_35) ?_
    show Steps p.tables e below (s₁.setTop (mkF m 36 #[.val (.int (5 : Int32))] [(.int (4 : Int32)), (.int (5 : Int32))])) _
    refine XS.icmpYes X0.here hx rfl (pc0 := 36) (pc' := 42) rfl (hb hby d2_36) rfl (feq (by decide +kernel : ¬ ((5 : Int32) = (4 : Int32)))).2 (by decide) (by decide) ?_
    show Steps p.tables e below (s₁.setTop (mkF m 42 #[.val (.int (5 : Int32))] [])) _
    refine XS.iloadN X0.here hx rfl (hb hby d2_42) rfl ?_
    show Steps p.tables e below (s₁.setTop (mkF m 43 #[.val (.int (5 : Int32))] [(.int (5 : Int32))])) _
    refine XS.iconst X0.here hx rfl (hb hby d2_43) ?_
    show Steps p.tables e below (s₁.setTop (mkF m 44 #[.val (.int (5 : Int32))] [(.int (5 : Int32)), (.int (5 : Int32))])) _
    refine XS.icmpNo X0.here hx rfl (hb hby d2_44) rfl (teq (by decide +kernel : (5 : Int32) = (5 : Int32))).2 ?_
    show Steps p.tables e below (s₁.setTop (mkF m 47 #[.val (.int (5 : Int32))] [])) _
    refine X0.ldcInt hx hown (mvT hZ (hw _ (List.mem_of_getElem? (i := 76) rfl))) (g := (mkF m 47 #[.val (.int (5 : Int32))] [])) rfl (hb hby d2_47) _ ?_
    show Steps p.tables e below (s₁.setTop (mkF m 49 #[.val (.int (5 : Int32))] [(.int (35000 : Int32))])) _
    exact retI X0 hx Bd.returns (hb hby d2_49) hr
  · exact ⟨rfl, N0, e0⟩
set_option maxRecDepth 65536 in
set_option maxHeartbeats 40000000 in
theorem rm2_6 (l : Launch) (Z : State) (a0 : Array Value) (hw : ∀ d ∈ tables_1, d.before a0 Z = true) (ws : List Jvm.Cond) (w_MUSHROOM_SOUP w_CAESAR_SALAD w_ICE_CREAM w_BARBECUE_RIBS w_TAPAS w_CHRISTMAS_PASTA w_CHAMPAGNE w_T_BONE_STEAK w_ZERO_COLA w_CHOCOLATE_CAKE w_RED_WINE w_SEAFOOD_PASTA : Addr) (h0 : Heap) (n0 : Nat) (Z0 : n0 ≤ h0.size) (C : Ctx Z h0 w_MUSHROOM_SOUP w_CAESAR_SALAD w_ICE_CREAM w_BARBECUE_RIBS w_TAPAS w_CHRISTMAS_PASTA w_CHAMPAGNE w_T_BONE_STEAK w_ZERO_COLA w_CHOCOLATE_CAKE w_RED_WINE w_SEAFOOD_PASTA)  :
    MetFree l (⟨"com/example/tinsel_tally/tinseltally/model/OrderLinePricePinLaw", "unitOf", "(I)I"⟩ : MethodName) (head1 (Jvm.Cond.code (⟨"com/example/tinsel_tally/tinseltally/model/OrderLinePricePinLaw", "unitOf", "(I)I"⟩ : MethodName) method_3_code 1 (some .int) :: ws) ({ frames := 0, cells := 0, slots := 0, locals := 0 } : Room)) (fun a U => a = #[(.int (6 : Int32))] ∧ Z.Warmed39 U.vm ∧ U.heap = h0) (fun _ _ _ _ _ => True) (fun _ U o U' => ∃ v L, o = .returned v ∧ QR h0 n0 (some (.int (25000 : Int32))) v U'.heap L ∧ FrameEnd U o U' L ({ frames := 0, cells := 0, slots := 0, locals := 0 } : Room).cells ({ frames := 0, cells := 0, slots := 0, locals := 0 } : Room).slots) := by
  refine MetFree.of_bodySF (plainFor_of_name pn_2) hisR ?_
  intro p e s m args below meth c s₁ Bd hml0 hP hK
  obtain ⟨rfl, hZ, hh⟩ := hP
  have hx := Bd.exec
  have hby := Bd.bytes
  have hml : c.maxLocals = 1 := hml0
  have hown : s.vm.findClass "com/example/tinsel_tally/tinseltally/model/OrderLinePricePinLaw" = some m.cls := findClass_of_methodNamed Bd.named
  have hnm := (name_of_methodNamed Bd.named Bd.method).1
  have X0 : Stand p l e ({ frames := 0, cells := 0, slots := 0, locals := 0 } : Room) s m #[(.int (6 : Int32))] below meth c s₁ [] 0 0 := Stand.of_body Bd
  have e0 : s₁.heap = h0 := by rw [← hh, Bd.state]; rfl
  have N0 := Fr.nil n0
  have pre0 : ∀ t, Steps p.tables e below (s₁.setTop (mkF m 0 #[.val (.int (6 : Int32))] [])) t → Steps p.tables e below (s₁.setTop (entryFrame m #[(.int (6 : Int32))] 1)) t := fun t k => castTop (ef_2 m (6 : Int32)) k
  obtain ⟨fs, hr, hrun, hended, hW, hsame⟩ := X0.leave (v := (some (.int (25000 : Int32)))) (fun h => by rw [Bd.returns] at h; cases h)
  refine ⟨_, _, pre0 _ ?_, hrun, hended, _, _, rfl, ?_, ⟨_, rfl⟩, hW, hsame.mono (by decide) (by decide)⟩
  · show Steps p.tables e below (s₁.setTop (mkF m 0 #[.val (.int (6 : Int32))] [])) _
    refine XS.iloadN X0.here hx rfl (hb hby d2_0) rfl ?_
    show Steps p.tables e below (s₁.setTop (mkF m 1 #[.val (.int (6 : Int32))] [(.int (6 : Int32))])) _
    refine XS.ifYes X0.here hx rfl (pc0 := 1) (pc' := 8) rfl (hb hby d2_1) rfl ((if0 _ _).trans (feq (by decide +kernel : ¬ ((6 : Int32) = (0 : Int32)))).2) (by decide) (by decide) ?_
    show Steps p.tables e below (s₁.setTop (mkF m 8 #[.val (.int (6 : Int32))] [])) _
    refine XS.iloadN X0.here hx rfl (hb hby d2_8) rfl ?_
    show Steps p.tables e below (s₁.setTop (mkF m 9 #[.val (.int (6 : Int32))] [(.int (6 : Int32))])) _
    refine XS.iconst X0.here hx rfl (hb hby d2_9) ?_
    show Steps p.tables e below (s₁.setTop (mkF m 10 #[.val (.int (6 : Int32))] [(.int (1 : Int32)), (.int (6 : Int32))])) _
    refine XS.icmpYes X0.here hx rfl (pc0 := 10) (pc' := 17) rfl (hb hby d2_10) rfl (feq (by decide +kernel : ¬ ((6 : Int32) = (1 : Int32)))).2 (by decide) (by decide) ?_
    show Steps p.tables e below (s₁.setTop (mkF m 17 #[.val (.int (6 : Int32))] [])) _
    refine XS.iloadN X0.here hx rfl (hb hby d2_17) rfl ?_
    show Steps p.tables e below (s₁.setTop (mkF m 18 #[.val (.int (6 : Int32))] [(.int (6 : Int32))])) _
    refine XS.iconst X0.here hx rfl (hb hby d2_18) ?_
    show Steps p.tables e below (s₁.setTop (mkF m 19 #[.val (.int (6 : Int32))] [(.int (2 : Int32)), (.int (6 : Int32))])) _
    refine XS.icmpYes X0.here hx rfl (pc0 := 19) (pc' := 26) rfl (hb hby d2_19) rfl (feq (by decide +kernel : ¬ ((6 : Int32) = (2 : Int32)))).2 (by decide) (by decide) ?_
    show Steps p.tables e below (s₁.setTop (mkF m 26 #[.val (.int (6 : Int32))] [])) _
    refine XS.iloadN X0.here hx rfl (hb hby d2_26) rfl ?_
    show Steps p.tables e below (s₁.setTop (mkF m 27 #[.val (.int (6 : Int32))] [(.int (6 : Int32))])) _
    refine XS.iconst X0.here hx rfl (hb hby d2_27) ?_
    show Steps p.tables e below (s₁.setTop (mkF m 28 #[.val (.int (6 : Int32))] [(.int (3 : Int32)), (.int (6 : Int32))])) _
    refine XS.icmpYes X0.here hx rfl (pc0 := 28) (pc' := 34) rfl (hb hby d2_28) rfl (feq (by decide +kernel : ¬ ((6 : Int32) = (3 : Int32)))).2 (by decide) (by decide) ?_
    show Steps p.tables e below (s₁.setTop (mkF m 34 #[.val (.int (6 : Int32))] [])) _
    refine XS.iloadN X0.here hx rfl (hb hby d2_34) rfl ?_
    show Steps p.tables e below (s₁.setTop (mkF m 35 #[.val (.int (6 : Int32))] [(.int (6 : Int32))])) _
    refine XS.iconst X0.here hx rfl (hb hby d2_35) ?_
    show Steps p.tables e below (s₁.setTop (mkF m 36 #[.val (.int (6 : Int32))] [(.int (4 : Int32)), (.int (6 : Int32))])) _
    refine XS.icmpYes X0.here hx rfl (pc0 := 36) (pc' := 42) rfl (hb hby d2_36) rfl (feq (by decide +kernel : ¬ ((6 : Int32) = (4 : Int32)))).2 (by decide) (by decide) ?_
    show Steps p.tables e below (s₁.setTop (mkF m 42 #[.val (.int (6 : Int32))] [])) _
    refine XS.iloadN X0.here hx rfl (hb hby d2_42) rfl ?_
    show Steps p.tables e below (s₁.setTop (mkF m 43 #[.val (.int (6 : Int32))] [(.int (6 : Int32))])) _
    refine XS.iconst X0.here hx rfl (hb hby d2_43) ?_
    show Steps p.tables e below (s₁.setTop (mkF m 44 #[.val (.int (6 : Int32))] [(.int (5 : Int32)), (.int (6 : Int32))])) _
    refine XS.icmpYes X0.here hx rfl (pc0 := 44) (pc' := 50) rfl (hb hby d2_44) rfl (feq (by decide +kernel : ¬ ((6 : Int32) = (5 : Int32)))).2 (by decide) (by decide) ?_
    show Steps p.tables e below (s₁.setTop (mkF m 50 #[.val (.int (6 : Int32))] [])) _
    refine XS.iloadN X0.here hx rfl (hb hby d2_50) rfl ?_
    show Steps p.tables e below (s₁.setTop (mkF m 51 #[.val (.int (6 : Int32))] [(.int (6 : Int32))])) _
    refine XS.bipush X0.here hx rfl (hb hby d2_51) ?_
    show Steps p.tables e below (s₁.setTop (mkF m 53 #[.val (.int (6 : Int32))] [(.int (6 : Int32)), (.int (6 : Int32))])) _
    refine XS.icmpNo X0.here hx rfl (hb hby d2_53) rfl (teq (by decide +kernel : (6 : Int32) = (6 : Int32))).2 ?_
    show Steps p.tables e below (s₁.setTop (mkF m 56 #[.val (.int (6 : Int32))] [])) _
    refine XS.sipush X0.here hx rfl (hb hby d2_56) ?_
    show Steps p.tables e below (s₁.setTop (mkF m 59 #[.val (.int (6 : Int32))] [(.int (25000 : Int32))])) _
    exact retI X0 hx Bd.returns (hb hby d2_59) hr
  · exact ⟨rfl, N0, e0⟩
set_option maxRecDepth 65536 in
set_option maxHeartbeats 40000000 in
theorem rm2_7 (l : Launch) (Z : State) (a0 : Array Value) (hw : ∀ d ∈ tables_1, d.before a0 Z = true) (ws : List Jvm.Cond) (w_MUSHROOM_SOUP w_CAESAR_SALAD w_ICE_CREAM w_BARBECUE_RIBS w_TAPAS w_CHRISTMAS_PASTA w_CHAMPAGNE w_T_BONE_STEAK w_ZERO_COLA w_CHOCOLATE_CAKE w_RED_WINE w_SEAFOOD_PASTA : Addr) (h0 : Heap) (n0 : Nat) (Z0 : n0 ≤ h0.size) (C : Ctx Z h0 w_MUSHROOM_SOUP w_CAESAR_SALAD w_ICE_CREAM w_BARBECUE_RIBS w_TAPAS w_CHRISTMAS_PASTA w_CHAMPAGNE w_T_BONE_STEAK w_ZERO_COLA w_CHOCOLATE_CAKE w_RED_WINE w_SEAFOOD_PASTA)  :
    MetFree l (⟨"com/example/tinsel_tally/tinseltally/model/OrderLinePricePinLaw", "unitOf", "(I)I"⟩ : MethodName) (head1 (Jvm.Cond.code (⟨"com/example/tinsel_tally/tinseltally/model/OrderLinePricePinLaw", "unitOf", "(I)I"⟩ : MethodName) method_3_code 1 (some .int) :: ws) ({ frames := 0, cells := 0, slots := 0, locals := 0 } : Room)) (fun a U => a = #[(.int (7 : Int32))] ∧ Z.Warmed39 U.vm ∧ U.heap = h0) (fun _ _ _ _ _ => True) (fun _ U o U' => ∃ v L, o = .returned v ∧ QR h0 n0 (some (.int (15000 : Int32))) v U'.heap L ∧ FrameEnd U o U' L ({ frames := 0, cells := 0, slots := 0, locals := 0 } : Room).cells ({ frames := 0, cells := 0, slots := 0, locals := 0 } : Room).slots) := by
  refine MetFree.of_bodySF (plainFor_of_name pn_2) hisR ?_
  intro p e s m args below meth c s₁ Bd hml0 hP hK
  obtain ⟨rfl, hZ, hh⟩ := hP
  have hx := Bd.exec
  have hby := Bd.bytes
  have hml : c.maxLocals = 1 := hml0
  have hown : s.vm.findClass "com/example/tinsel_tally/tinseltally/model/OrderLinePricePinLaw" = some m.cls := findClass_of_methodNamed Bd.named
  have hnm := (name_of_methodNamed Bd.named Bd.method).1
  have X0 : Stand p l e ({ frames := 0, cells := 0, slots := 0, locals := 0 } : Room) s m #[(.int (7 : Int32))] below meth c s₁ [] 0 0 := Stand.of_body Bd
  have e0 : s₁.heap = h0 := by rw [← hh, Bd.state]; rfl
  have N0 := Fr.nil n0
  have pre0 : ∀ t, Steps p.tables e below (s₁.setTop (mkF m 0 #[.val (.int (7 : Int32))] [])) t → Steps p.tables e below (s₁.setTop (entryFrame m #[(.int (7 : Int32))] 1)) t := fun t k => castTop (ef_2 m (7 : Int32)) k
  obtain ⟨fs, hr, hrun, hended, hW, hsame⟩ := X0.leave (v := (some (.int (15000 : Int32)))) (fun h => by rw [Bd.returns] at h; cases h)
  refine ⟨_, _, pre0 _ ?_, hrun, hended, _, _, rfl, ?_, ⟨_, rfl⟩, hW, hsame.mono (by decide) (by decide)⟩
  · show Steps p.tables e below (s₁.setTop (mkF m 0 #[.val (.int (7 : Int32))] [])) _
    refine XS.iloadN X0.here hx rfl (hb hby d2_0) rfl ?_
    show Steps p.tables e below (s₁.setTop (mkF m 1 #[.val (.int (7 : Int32))] [(.int (7 : Int32))])) _
    refine XS.ifYes X0.here hx rfl (pc0 := 1) (pc' := 8) rfl (hb hby d2_1) rfl ((if0 _ _).trans (feq (by decide +kernel : ¬ ((7 : Int32) = (0 : Int32)))).2) (by decide) (by decide) ?_
    show Steps p.tables e below (s₁.setTop (mkF m 8 #[.val (.int (7 : Int32))] [])) _
    refine XS.iloadN X0.here hx rfl (hb hby d2_8) rfl ?_
    show Steps p.tables e below (s₁.setTop (mkF m 9 #[.val (.int (7 : Int32))] [(.int (7 : Int32))])) _
    refine XS.iconst X0.here hx rfl (hb hby d2_9) ?_
    show Steps p.tables e below (s₁.setTop (mkF m 10 #[.val (.int (7 : Int32))] [(.int (1 : Int32)), (.int (7 : Int32))])) _
    refine XS.icmpYes X0.here hx rfl (pc0 := 10) (pc' := 17) rfl (hb hby d2_10) rfl (feq (by decide +kernel : ¬ ((7 : Int32) = (1 : Int32)))).2 (by decide) (by decide) ?_
    show Steps p.tables e below (s₁.setTop (mkF m 17 #[.val (.int (7 : Int32))] [])) _
    refine XS.iloadN X0.here hx rfl (hb hby d2_17) rfl ?_
    show Steps p.tables e below (s₁.setTop (mkF m 18 #[.val (.int (7 : Int32))] [(.int (7 : Int32))])) _
    refine XS.iconst X0.here hx rfl (hb hby d2_18) ?_
    show Steps p.tables e below (s₁.setTop (mkF m 19 #[.val (.int (7 : Int32))] [(.int (2 : Int32)), (.int (7 : Int32))])) _
    refine XS.icmpYes X0.here hx rfl (pc0 := 19) (pc' := 26) rfl (hb hby d2_19) rfl (feq (by decide +kernel : ¬ ((7 : Int32) = (2 : Int32)))).2 (by decide) (by decide) ?_
    show Steps p.tables e below (s₁.setTop (mkF m 26 #[.val (.int (7 : Int32))] [])) _
    refine XS.iloadN X0.here hx rfl (hb hby d2_26) rfl ?_
    show Steps p.tables e below (s₁.setTop (mkF m 27 #[.val (.int (7 : Int32))] [(.int (7 : Int32))])) _
    refine XS.iconst X0.here hx rfl (hb hby d2_27) ?_
    show Steps p.tables e below (s₁.setTop (mkF m 28 #[.val (.int (7 : Int32))] [(.int (3 : Int32)), (.int (7 : Int32))])) _
    refine XS.icmpYes X0.here hx rfl (pc0 := 28) (pc' := 34) rfl (hb hby d2_28) rfl (feq (by decide +kernel : ¬ ((7 : Int32) = (3 : Int32)))).2 (by decide) (by decide) ?_
    show Steps p.tables e below (s₁.setTop (mkF m 34 #[.val (.int (7 : Int32))] [])) _
    refine XS.iloadN X0.here hx rfl (hb hby d2_34) rfl ?_
    show Steps p.tables e below (s₁.setTop (mkF m 35 #[.val (.int (7 : Int32))] [(.int (7 : Int32))])) _
    refine XS.iconst X0.here hx rfl (hb hby d2_35) ?_
    show Steps p.tables e below (s₁.setTop (mkF m 36 #[.val (.int (7 : Int32))] [(.int (4 : Int32)), (.int (7 : Int32))])) _
    refine XS.icmpYes X0.here hx rfl (pc0 := 36) (pc' := 42) rfl (hb hby d2_36) rfl (feq (by decide +kernel : ¬ ((7 : Int32) = (4 : Int32)))).2 (by decide) (by decide) ?_
    show Steps p.tables e below (s₁.setTop (mkF m 42 #[.val (.int (7 : Int32))] [])) _
    refine XS.iloadN X0.here hx rfl (hb hby d2_42) rfl ?_
    show Steps p.tables e below (s₁.setTop (mkF m 43 #[.val (.int (7 : Int32))] [(.int (7 : Int32))])) _
    refine XS.iconst X0.here hx rfl (hb hby d2_43) ?_
    show Steps p.tables e below (s₁.setTop (mkF m 44 #[.val (.int (7 : Int32))] [(.int (5 : Int32)), (.int (7 : Int32))])) _
    refine XS.icmpYes X0.here hx rfl (pc0 := 44) (pc' := 50) rfl (hb hby d2_44) rfl (feq (by decide +kernel : ¬ ((7 : Int32) = (5 : Int32)))).2 (by decide) (by decide) ?_
    show Steps p.tables e below (s₁.setTop (mkF m 50 #[.val (.int (7 : Int32))] [])) _
    refine XS.iloadN X0.here hx rfl (hb hby d2_50) rfl ?_
    show Steps p.tables e below (s₁.setTop (mkF m 51 #[.val (.int (7 : Int32))] [(.int (7 : Int32))])) _
    refine XS.bipush X0.here hx rfl (hb hby d2_51) ?_
    show Steps p.tables e below (s₁.setTop (mkF m 53 #[.val (.int (7 : Int32))] [(.int (6 : Int32)), (.int (7 : Int32))])) _
    refine XS.icmpYes X0.here hx rfl (pc0 := 53) (pc' := 60) rfl (hb hby d2_53) rfl (feq (by decide +kernel : ¬ ((7 : Int32) = (6 : Int32)))).2 (by decide) (by decide) ?_
    show Steps p.tables e below (s₁.setTop (mkF m 60 #[.val (.int (7 : Int32))] [])) _
    refine XS.iloadN X0.here hx rfl (hb hby d2_60) rfl ?_
    show Steps p.tables e below (s₁.setTop (mkF m 61 #[.val (.int (7 : Int32))] [(.int (7 : Int32))])) _
    refine XS.bipush X0.here hx rfl (hb hby d2_61) ?_
    show Steps p.tables e below (s₁.setTop (mkF m 63 #[.val (.int (7 : Int32))] [(.int (7 : Int32)), (.int (7 : Int32))])) _
    refine XS.icmpNo X0.here hx rfl (hb hby d2_63) rfl (teq (by decide +kernel : (7 : Int32) = (7 : Int32))).2 ?_
    show Steps p.tables e below (s₁.setTop (mkF m 66 #[.val (.int (7 : Int32))] [])) _
    refine XS.sipush X0.here hx rfl (hb hby d2_66) ?_
    show Steps p.tables e below (s₁.setTop (mkF m 69 #[.val (.int (7 : Int32))] [(.int (15000 : Int32))])) _
    exact retI X0 hx Bd.returns (hb hby d2_69) hr
  · exact ⟨rfl, N0, e0⟩
set_option maxRecDepth 65536 in
set_option maxHeartbeats 40000000 in
theorem rm2_8 (l : Launch) (Z : State) (a0 : Array Value) (hw : ∀ d ∈ tables_1, d.before a0 Z = true) (ws : List Jvm.Cond) (w_MUSHROOM_SOUP w_CAESAR_SALAD w_ICE_CREAM w_BARBECUE_RIBS w_TAPAS w_CHRISTMAS_PASTA w_CHAMPAGNE w_T_BONE_STEAK w_ZERO_COLA w_CHOCOLATE_CAKE w_RED_WINE w_SEAFOOD_PASTA : Addr) (h0 : Heap) (n0 : Nat) (Z0 : n0 ≤ h0.size) (C : Ctx Z h0 w_MUSHROOM_SOUP w_CAESAR_SALAD w_ICE_CREAM w_BARBECUE_RIBS w_TAPAS w_CHRISTMAS_PASTA w_CHAMPAGNE w_T_BONE_STEAK w_ZERO_COLA w_CHOCOLATE_CAKE w_RED_WINE w_SEAFOOD_PASTA)  :
    MetFree l (⟨"com/example/tinsel_tally/tinseltally/model/OrderLinePricePinLaw", "unitOf", "(I)I"⟩ : MethodName) (head1 (Jvm.Cond.code (⟨"com/example/tinsel_tally/tinseltally/model/OrderLinePricePinLaw", "unitOf", "(I)I"⟩ : MethodName) method_3_code 1 (some .int) :: ws) ({ frames := 0, cells := 0, slots := 0, locals := 0 } : Room)) (fun a U => a = #[(.int (8 : Int32))] ∧ Z.Warmed39 U.vm ∧ U.heap = h0) (fun _ _ _ _ _ => True) (fun _ U o U' => ∃ v L, o = .returned v ∧ QR h0 n0 (some (.int (5000 : Int32))) v U'.heap L ∧ FrameEnd U o U' L ({ frames := 0, cells := 0, slots := 0, locals := 0 } : Room).cells ({ frames := 0, cells := 0, slots := 0, locals := 0 } : Room).slots) := by
  refine MetFree.of_bodySF (plainFor_of_name pn_2) hisR ?_
  intro p e s m args below meth c s₁ Bd hml0 hP hK
  obtain ⟨rfl, hZ, hh⟩ := hP
  have hx := Bd.exec
  have hby := Bd.bytes
  have hml : c.maxLocals = 1 := hml0
  have hown : s.vm.findClass "com/example/tinsel_tally/tinseltally/model/OrderLinePricePinLaw" = some m.cls := findClass_of_methodNamed Bd.named
  have hnm := (name_of_methodNamed Bd.named Bd.method).1
  have X0 : Stand p l e ({ frames := 0, cells := 0, slots := 0, locals := 0 } : Room) s m #[(.int (8 : Int32))] below meth c s₁ [] 0 0 := Stand.of_body Bd
  have e0 : s₁.heap = h0 := by rw [← hh, Bd.state]; rfl
  have N0 := Fr.nil n0
  have pre0 : ∀ t, Steps p.tables e below (s₁.setTop (mkF m 0 #[.val (.int (8 : Int32))] [])) t → Steps p.tables e below (s₁.setTop (entryFrame m #[(.int (8 : Int32))] 1)) t := fun t k => castTop (ef_2 m (8 : Int32)) k
  obtain ⟨fs, hr, hrun, hended, hW, hsame⟩ := X0.leave (v := (some (.int (5000 : Int32)))) (fun h => by rw [Bd.returns] at h; cases h)
  refine ⟨_, _, pre0 _ ?_, hrun, hended, _, _, rfl, ?_, ⟨_, rfl⟩, hW, hsame.mono (by decide) (by decide)⟩
  · show Steps p.tables e below (s₁.setTop (mkF m 0 #[.val (.int (8 : Int32))] [])) _
    refine XS.iloadN X0.here hx rfl (hb hby d2_0) rfl ?_
    show Steps p.tables e below (s₁.setTop (mkF m 1 #[.val (.int (8 : Int32))] [(.int (8 : Int32))])) _
    refine XS.ifYes X0.here hx rfl (pc0 := 1) (pc' := 8) rfl (hb hby d2_1) rfl ((if0 _ _).trans (feq (by decide +kernel : ¬ ((8 : Int32) = (0 : Int32)))).2) (by decide) (by decide) ?_
    show Steps p.tables e below (s₁.setTop (mkF m 8 #[.val (.int (8 : Int32))] [])) _
    refine XS.iloadN X0.here hx rfl (hb hby d2_8) rfl ?_
    show Steps p.tables e below (s₁.setTop (mkF m 9 #[.val (.int (8 : Int32))] [(.int (8 : Int32))])) _
    refine XS.iconst X0.here hx rfl (hb hby d2_9) ?_
    show Steps p.tables e below (s₁.setTop (mkF m 10 #[.val (.int (8 : Int32))] [(.int (1 : Int32)), (.int (8 : Int32))])) _
    refine XS.icmpYes X0.here hx rfl (pc0 := 10) (pc' := 17) rfl (hb hby d2_10) rfl (feq (by decide +kernel : ¬ ((8 : Int32) = (1 : Int32)))).2 (by decide) (by decide) ?_
    show Steps p.tables e below (s₁.setTop (mkF m 17 #[.val (.int (8 : Int32))] [])) _
    refine XS.iloadN X0.here hx rfl (hb hby d2_17) rfl ?_
    show Steps p.tables e below (s₁.setTop (mkF m 18 #[.val (.int (8 : Int32))] [(.int (8 : Int32))])) _
    refine XS.iconst X0.here hx rfl (hb hby d2_18) ?_
    show Steps p.tables e below (s₁.setTop (mkF m 19 #[.val (.int (8 : Int32))] [(.int (2 : Int32)), (.int (8 : Int32))])) _
    refine XS.icmpYes X0.here hx rfl (pc0 := 19) (pc' := 26) rfl (hb hby d2_19) rfl (feq (by decide +kernel : ¬ ((8 : Int32) = (2 : Int32)))).2 (by decide) (by decide) ?_
    show Steps p.tables e below (s₁.setTop (mkF m 26 #[.val (.int (8 : Int32))] [])) _
    refine XS.iloadN X0.here hx rfl (hb hby d2_26) rfl ?_
    show Steps p.tables e below (s₁.setTop (mkF m 27 #[.val (.int (8 : Int32))] [(.int (8 : Int32))])) _
    refine XS.iconst X0.here hx rfl (hb hby d2_27) ?_
    show Steps p.tables e below (s₁.setTop (mkF m 28 #[.val (.int (8 : Int32))] [(.int (3 : Int32)), (.int (8 : Int32))])) _
    refine XS.icmpYes X0.here hx rfl (pc0 := 28) (pc' := 34) rfl (hb hby d2_28) rfl (feq (by decide +kernel : ¬ ((8 : Int32) = (3 : Int32)))).2 (by decide) (by decide) ?_
    show Steps p.tables e below (s₁.setTop (mkF m 34 #[.val (.int (8 : Int32))] [])) _
    refine XS.iloadN X0.here hx rfl (hb hby d2_34) rfl ?_
    show Steps p.tables e below (s₁.setTop (mkF m 35 #[.val (.int (8 : Int32))] [(.int (8 : Int32))])) _
    refine XS.iconst X0.here hx rfl (hb hby d2_35) ?_
    show Steps p.tables e below (s₁.setTop (mkF m 36 #[.val (.int (8 : Int32))] [(.int (4 : Int32)), (.int (8 : Int32))])) _
    refine XS.icmpYes X0.here hx rfl (pc0 := 36) (pc' := 42) rfl (hb hby d2_36) rfl (feq (by decide +kernel : ¬ ((8 : Int32) = (4 : Int32)))).2 (by decide) (by decide) ?_
    show Steps p.tables e below (s₁.setTop (mkF m 42 #[.val (.int (8 : Int32))] [])) _
    refine XS.iloadN X0.here hx rfl (hb hby d2_42) rfl ?_
    show Steps p.tables e below (s₁.setTop (mkF m 43 #[.val (.int (8 : Int32))] [(.int (8 : Int32))])) _
    refine XS.iconst X0.here hx rfl (hb hby d2_43) ?_
    show Steps p.tables e below (s₁.setTop (mkF m 44 #[.val (.int (8 : Int32))] [(.int (5 : Int32)), (.int (8 : Int32))])) _
    refine XS.icmpYes X0.here hx rfl (pc0 := 44) (pc' := 50) rfl (hb hby d2_44) rfl (feq (by decide +kernel : ¬ ((8 : Int32) = (5 : Int32)))).2 (by decide) (by decide) ?_
    show Steps p.tables e below (s₁.setTop (mkF m 50 #[.val (.int (8 : Int32))] [])) _
    refine XS.iloadN X0.here hx rfl (hb hby d2_50) rfl ?_
    show Steps p.tables e below (s₁.setTop (mkF m 51 #[.val (.int (8 : Int32))] [(.int (8 : Int32))])) _
    refine XS.bipush X0.here hx rfl (hb hby d2_51) ?_
    show Steps p.tables e below (s₁.setTop (mkF m 53 #[.val (.int (8 : Int32))] [(.int (6 : Int32)), (.int (8 : Int32))])) _
    refine XS.icmpYes X0.here hx rfl (pc0 := 53) (pc' := 60) rfl (hb hby d2_53) rfl (feq (by decide +kernel : ¬ ((8 : Int32) = (6 : Int32)))).2 (by decide) (by decide) ?_
    show Steps p.tables e below (s₁.setTop (mkF m 60 #[.val (.int (8 : Int32))] [])) _
    refine XS.iloadN X0.here hx rfl (hb hby d2_60) rfl ?_
    show Steps p.tables e below (s₁.setTop (mkF m 61 #[.val (.int (8 : Int32))] [(.int (8 : Int32))])) _
    refine XS.bipush X0.here hx rfl (hb hby d2_61) ?_
    show Steps p.tables e below (s₁.setTop (mkF m 63 #[.val (.int (8 : Int32))] [(.int (7 : Int32)), (.int (8 : Int32))])) _
    refine XS.icmpYes X0.here hx rfl (pc0 := 63) (pc' := 70) rfl (hb hby d2_63) rfl (feq (by decide +kernel : ¬ ((8 : Int32) = (7 : Int32)))).2 (by decide) (by decide) ?_
    show Steps p.tables e below (s₁.setTop (mkF m 70 #[.val (.int (8 : Int32))] [])) _
    refine XS.iloadN X0.here hx rfl (hb hby d2_70) rfl ?_
    show Steps p.tables e below (s₁.setTop (mkF m 71 #[.val (.int (8 : Int32))] [(.int (8 : Int32))])) _
    refine XS.bipush X0.here hx rfl (hb hby d2_71) ?_
    show Steps p.tables e below (s₁.setTop (mkF m 73 #[.val (.int (8 : Int32))] [(.int (8 : Int32)), (.int (8 : Int32))])) _
    refine XS.icmpNo X0.here hx rfl (hb hby d2_73) rfl (teq (by decide +kernel : (8 : Int32) = (8 : Int32))).2 ?_
    show Steps p.tables e below (s₁.setTop (mkF m 76 #[.val (.int (8 : Int32))] [])) _
    refine XS.sipush X0.here hx rfl (hb hby d2_76) ?_
    show Steps p.tables e below (s₁.setTop (mkF m 79 #[.val (.int (8 : Int32))] [(.int (5000 : Int32))])) _
    exact retI X0 hx Bd.returns (hb hby d2_79) hr
  · exact ⟨rfl, N0, e0⟩
set_option maxRecDepth 65536 in
set_option maxHeartbeats 40000000 in
theorem rm2_9 (l : Launch) (Z : State) (a0 : Array Value) (hw : ∀ d ∈ tables_1, d.before a0 Z = true) (ws : List Jvm.Cond) (w_MUSHROOM_SOUP w_CAESAR_SALAD w_ICE_CREAM w_BARBECUE_RIBS w_TAPAS w_CHRISTMAS_PASTA w_CHAMPAGNE w_T_BONE_STEAK w_ZERO_COLA w_CHOCOLATE_CAKE w_RED_WINE w_SEAFOOD_PASTA : Addr) (h0 : Heap) (n0 : Nat) (Z0 : n0 ≤ h0.size) (C : Ctx Z h0 w_MUSHROOM_SOUP w_CAESAR_SALAD w_ICE_CREAM w_BARBECUE_RIBS w_TAPAS w_CHRISTMAS_PASTA w_CHAMPAGNE w_T_BONE_STEAK w_ZERO_COLA w_CHOCOLATE_CAKE w_RED_WINE w_SEAFOOD_PASTA)  :
    MetFree l (⟨"com/example/tinsel_tally/tinseltally/model/OrderLinePricePinLaw", "unitOf", "(I)I"⟩ : MethodName) (head1 (Jvm.Cond.code (⟨"com/example/tinsel_tally/tinseltally/model/OrderLinePricePinLaw", "unitOf", "(I)I"⟩ : MethodName) method_3_code 1 (some .int) :: ws) ({ frames := 0, cells := 0, slots := 0, locals := 0 } : Room)) (fun a U => a = #[(.int (9 : Int32))] ∧ Z.Warmed39 U.vm ∧ U.heap = h0) (fun _ _ _ _ _ => True) (fun _ U o U' => ∃ v L, o = .returned v ∧ QR h0 n0 (some (.int (3000 : Int32))) v U'.heap L ∧ FrameEnd U o U' L ({ frames := 0, cells := 0, slots := 0, locals := 0 } : Room).cells ({ frames := 0, cells := 0, slots := 0, locals := 0 } : Room).slots) := by
  refine MetFree.of_bodySF (plainFor_of_name pn_2) hisR ?_
  intro p e s m args below meth c s₁ Bd hml0 hP hK
  obtain ⟨rfl, hZ, hh⟩ := hP
  have hx := Bd.exec
  have hby := Bd.bytes
  have hml : c.maxLocals = 1 := hml0
  have hown : s.vm.findClass "com/example/tinsel_tally/tinseltally/model/OrderLinePricePinLaw" = some m.cls := findClass_of_methodNamed Bd.named
  have hnm := (name_of_methodNamed Bd.named Bd.method).1
  have X0 : Stand p l e ({ frames := 0, cells := 0, slots := 0, locals := 0 } : Room) s m #[(.int (9 : Int32))] below meth c s₁ [] 0 0 := Stand.of_body Bd
  have e0 : s₁.heap = h0 := by rw [← hh, Bd.state]; rfl
  have N0 := Fr.nil n0
  have pre0 : ∀ t, Steps p.tables e below (s₁.setTop (mkF m 0 #[.val (.int (9 : Int32))] [])) t → Steps p.tables e below (s₁.setTop (entryFrame m #[(.int (9 : Int32))] 1)) t := fun t k => castTop (ef_2 m (9 : Int32)) k
  obtain ⟨fs, hr, hrun, hended, hW, hsame⟩ := X0.leave (v := (some (.int (3000 : Int32)))) (fun h => by rw [Bd.returns] at h; cases h)
  refine ⟨_, _, pre0 _ ?_, hrun, hended, _, _, rfl, ?_, ⟨_, rfl⟩, hW, hsame.mono (by decide) (by decide)⟩
  · show Steps p.tables e below (s₁.setTop (mkF m 0 #[.val (.int (9 : Int32))] [])) _
    refine XS.iloadN X0.here hx rfl (hb hby d2_0) rfl ?_
    show Steps p.tables e below (s₁.setTop (mkF m 1 #[.val (.int (9 : Int32))] [(.int (9 : Int32))])) _
    refine XS.ifYes X0.here hx rfl (pc0 := 1) (pc' := 8) rfl (hb hby d2_1) rfl ((if0 _ _).trans (feq (by decide +kernel : ¬ ((9 : Int32) = (0 : Int32)))).2) (by decide) (by decide) ?_
    show Steps p.tables e below (s₁.setTop (mkF m 8 #[.val (.int (9 : Int32))] [])) _
    refine XS.iloadN X0.here hx rfl (hb hby d2_8) rfl ?_
    show Steps p.tables e below (s₁.setTop (mkF m 9 #[.val (.int (9 : Int32))] [(.int (9 : Int32))])) _
    refine XS.iconst X0.here hx rfl (hb hby d2_9) ?_
    show Steps p.tables e below (s₁.setTop (mkF m 10 #[.val (.int (9 : Int32))] [(.int (1 : Int32)), (.int (9 : Int32))])) _
    refine XS.icmpYes X0.here hx rfl (pc0 := 10) (pc' := 17) rfl (hb hby d2_10) rfl (feq (by decide +kernel : ¬ ((9 : Int32) = (1 : Int32)))).2 (by decide) (by decide) ?_
    show Steps p.tables e below (s₁.setTop (mkF m 17 #[.val (.int (9 : Int32))] [])) _
    refine XS.iloadN X0.here hx rfl (hb hby d2_17) rfl ?_
    show Steps p.tables e below (s₁.setTop (mkF m 18 #[.val (.int (9 : Int32))] [(.int (9 : Int32))])) _
    refine XS.iconst X0.here hx rfl (hb hby d2_18) ?_
    show Steps p.tables e below (s₁.setTop (mkF m 19 #[.val (.int (9 : Int32))] [(.int (2 : Int32)), (.int (9 : Int32))])) _
    refine XS.icmpYes X0.here hx rfl (pc0 := 19) (pc' := 26) rfl (hb hby d2_19) rfl (feq (by decide +kernel : ¬ ((9 : Int32) = (2 : Int32)))).2 (by decide) (by decide) ?_
    show Steps p.tables e below (s₁.setTop (mkF m 26 #[.val (.int (9 : Int32))] [])) _
    refine XS.iloadN X0.here hx rfl (hb hby d2_26) rfl ?_
    show Steps p.tables e below (s₁.setTop (mkF m 27 #[.val (.int (9 : Int32))] [(.int (9 : Int32))])) _
    refine XS.iconst X0.here hx rfl (hb hby d2_27) ?_
    show Steps p.tables e below (s₁.setTop (mkF m 28 #[.val (.int (9 : Int32))] [(.int (3 : Int32)), (.int (9 : Int32))])) _
    refine XS.icmpYes X0.here hx rfl (pc0 := 28) (pc' := 34) rfl (hb hby d2_28) rfl (feq (by decide +kernel : ¬ ((9 : Int32) = (3 : Int32)))).2 (by decide) (by decide) ?_
    show Steps p.tables e below (s₁.setTop (mkF m 34 #[.val (.int (9 : Int32))] [])) _
    refine XS.iloadN X0.here hx rfl (hb hby d2_34) rfl ?_
    show Steps p.tables e below (s₁.setTop (mkF m 35 #[.val (.int (9 : Int32))] [(.int (9 : Int32))])) _
    refine XS.iconst X0.here hx rfl (hb hby d2_35) ?_
    show Steps p.tables e below (s₁.setTop (mkF m 36 #[.val (.int (9 : Int32))] [(.int (4 : Int32)), (.int (9 : Int32))])) _
    refine XS.icmpYes X0.here hx rfl (pc0 := 36) (pc' := 42) rfl (hb hby d2_36) rfl (feq (by decide +kernel : ¬ ((9 : Int32) = (4 : Int32)))).2 (by decide) (by decide) ?_
    show Steps p.tables e below (s₁.setTop (mkF m 42 #[.val (.int (9 : Int32))] [])) _
    refine XS.iloadN X0.here hx rfl (hb hby d2_42) rfl ?_
    show Steps p.tables e below (s₁.setTop (mkF m 43 #[.val (.int (9 : Int32))] [(.int (9 : Int32))])) _
    refine XS.iconst X0.here hx rfl (hb hby d2_43) ?_
    show Steps p.tables e below (s₁.setTop (mkF m 44 #[.val (.int (9 : Int32))] [(.int (5 : Int32)), (.int (9 : Int32))])) _
    refine XS.icmpYes X0.here hx rfl (pc0 := 44) (pc' := 50) rfl (hb hby d2_44) rfl (feq (by decide +kernel : ¬ ((9 : Int32) = (5 : Int32)))).2 (by decide) (by decide) ?_
    show Steps p.tables e below (s₁.setTop (mkF m 50 #[.val (.int (9 : Int32))] [])) _
    refine XS.iloadN X0.here hx rfl (hb hby d2_50) rfl ?_
    show Steps p.tables e below (s₁.setTop (mkF m 51 #[.val (.int (9 : Int32))] [(.int (9 : Int32))])) _
    refine XS.bipush X0.here hx rfl (hb hby d2_51) ?_
    show Steps p.tables e below (s₁.setTop (mkF m 53 #[.val (.int (9 : Int32))] [(.int (6 : Int32)), (.int (9 : Int32))])) _
    refine XS.icmpYes X0.here hx rfl (pc0 := 53) (pc' := 60) rfl (hb hby d2_53) rfl (feq (by decide +kernel : ¬ ((9 : Int32) = (6 : Int32)))).2 (by decide) (by decide) ?_
    show Steps p.tables e below (s₁.setTop (mkF m 60 #[.val (.int (9 : Int32))] [])) _
    refine XS.iloadN X0.here hx rfl (hb hby d2_60) rfl ?_
    show Steps p.tables e below (s₁.setTop (mkF m 61 #[.val (.int (9 : Int32))] [(.int (9 : Int32))])) _
    refine XS.bipush X0.here hx rfl (hb hby d2_61) ?_
    show Steps p.tables e below (s₁.setTop (mkF m 63 #[.val (.int (9 : Int32))] [(.int (7 : Int32)), (.int (9 : Int32))])) _
    refine XS.icmpYes X0.here hx rfl (pc0 := 63) (pc' := 70) rfl (hb hby d2_63) rfl (feq (by decide +kernel : ¬ ((9 : Int32) = (7 : Int32)))).2 (by decide) (by decide) ?_
    show Steps p.tables e below (s₁.setTop (mkF m 70 #[.val (.int (9 : Int32))] [])) _
    refine XS.iloadN X0.here hx rfl (hb hby d2_70) rfl ?_
    show Steps p.tables e below (s₁.setTop (mkF m 71 #[.val (.int (9 : Int32))] [(.int (9 : Int32))])) _
    refine XS.bipush X0.here hx rfl (hb hby d2_71) ?_
    show Steps p.tables e below (s₁.setTop (mkF m 73 #[.val (.int (9 : Int32))] [(.int (8 : Int32)), (.int (9 : Int32))])) _
    refine XS.icmpYes X0.here hx rfl (pc0 := 73) (pc' := 80) rfl (hb hby d2_73) rfl (feq (by decide +kernel : ¬ ((9 : Int32) = (8 : Int32)))).2 (by decide) (by decide) ?_
    show Steps p.tables e below (s₁.setTop (mkF m 80 #[.val (.int (9 : Int32))] [])) _
    refine XS.iloadN X0.here hx rfl (hb hby d2_80) rfl ?_
    show Steps p.tables e below (s₁.setTop (mkF m 81 #[.val (.int (9 : Int32))] [(.int (9 : Int32))])) _
    refine XS.bipush X0.here hx rfl (hb hby d2_81) ?_
    show Steps p.tables e below (s₁.setTop (mkF m 83 #[.val (.int (9 : Int32))] [(.int (9 : Int32)), (.int (9 : Int32))])) _
    refine XS.icmpNo X0.here hx rfl (hb hby d2_83) rfl (teq (by decide +kernel : (9 : Int32) = (9 : Int32))).2 ?_
    show Steps p.tables e below (s₁.setTop (mkF m 86 #[.val (.int (9 : Int32))] [])) _
    refine XS.sipush X0.here hx rfl (hb hby d2_86) ?_
    show Steps p.tables e below (s₁.setTop (mkF m 89 #[.val (.int (9 : Int32))] [(.int (3000 : Int32))])) _
    exact retI X0 hx Bd.returns (hb hby d2_89) hr
  · exact ⟨rfl, N0, e0⟩
set_option maxRecDepth 65536 in
set_option maxHeartbeats 40000000 in
theorem rm2_10 (l : Launch) (Z : State) (a0 : Array Value) (hw : ∀ d ∈ tables_1, d.before a0 Z = true) (ws : List Jvm.Cond) (w_MUSHROOM_SOUP w_CAESAR_SALAD w_ICE_CREAM w_BARBECUE_RIBS w_TAPAS w_CHRISTMAS_PASTA w_CHAMPAGNE w_T_BONE_STEAK w_ZERO_COLA w_CHOCOLATE_CAKE w_RED_WINE w_SEAFOOD_PASTA : Addr) (h0 : Heap) (n0 : Nat) (Z0 : n0 ≤ h0.size) (C : Ctx Z h0 w_MUSHROOM_SOUP w_CAESAR_SALAD w_ICE_CREAM w_BARBECUE_RIBS w_TAPAS w_CHRISTMAS_PASTA w_CHAMPAGNE w_T_BONE_STEAK w_ZERO_COLA w_CHOCOLATE_CAKE w_RED_WINE w_SEAFOOD_PASTA)  :
    MetFree l (⟨"com/example/tinsel_tally/tinseltally/model/OrderLinePricePinLaw", "unitOf", "(I)I"⟩ : MethodName) (head1 (Jvm.Cond.code (⟨"com/example/tinsel_tally/tinseltally/model/OrderLinePricePinLaw", "unitOf", "(I)I"⟩ : MethodName) method_3_code 1 (some .int) :: ws) ({ frames := 0, cells := 0, slots := 0, locals := 0 } : Room)) (fun a U => a = #[(.int (10 : Int32))] ∧ Z.Warmed39 U.vm ∧ U.heap = h0) (fun _ _ _ _ _ => True) (fun _ U o U' => ∃ v L, o = .returned v ∧ QR h0 n0 (some (.int (60000 : Int32))) v U'.heap L ∧ FrameEnd U o U' L ({ frames := 0, cells := 0, slots := 0, locals := 0 } : Room).cells ({ frames := 0, cells := 0, slots := 0, locals := 0 } : Room).slots) := by
  refine MetFree.of_bodySF (plainFor_of_name pn_2) hisR ?_
  intro p e s m args below meth c s₁ Bd hml0 hP hK
  obtain ⟨rfl, hZ, hh⟩ := hP
  have hx := Bd.exec
  have hby := Bd.bytes
  have hml : c.maxLocals = 1 := hml0
  have hown : s.vm.findClass "com/example/tinsel_tally/tinseltally/model/OrderLinePricePinLaw" = some m.cls := findClass_of_methodNamed Bd.named
  have hnm := (name_of_methodNamed Bd.named Bd.method).1
  have X0 : Stand p l e ({ frames := 0, cells := 0, slots := 0, locals := 0 } : Room) s m #[(.int (10 : Int32))] below meth c s₁ [] 0 0 := Stand.of_body Bd
  have e0 : s₁.heap = h0 := by rw [← hh, Bd.state]; rfl
  have N0 := Fr.nil n0
  have pre0 : ∀ t, Steps p.tables e below (s₁.setTop (mkF m 0 #[.val (.int (10 : Int32))] [])) t → Steps p.tables e below (s₁.setTop (entryFrame m #[(.int (10 : Int32))] 1)) t := fun t k => castTop (ef_2 m (10 : Int32)) k
  obtain ⟨fs, hr, hrun, hended, hW, hsame⟩ := X0.leave (v := (some (.int (60000 : Int32)))) (fun h => by rw [Bd.returns] at h; cases h)
  refine ⟨_, _, pre0 _ ?_, hrun, hended, _, _, rfl, ?_, ⟨_, rfl⟩, hW, hsame.mono (by decide) (by decide)⟩
  · show Steps p.tables e below (s₁.setTop (mkF m 0 #[.val (.int (10 : Int32))] [])) _
    refine XS.iloadN X0.here hx rfl (hb hby d2_0) rfl ?_
    show Steps p.tables e below (s₁.setTop (mkF m 1 #[.val (.int (10 : Int32))] [(.int (10 : Int32))])) _
    refine XS.ifYes X0.here hx rfl (pc0 := 1) (pc' := 8) rfl (hb hby d2_1) rfl ((if0 _ _).trans (feq (by decide +kernel : ¬ ((10 : Int32) = (0 : Int32)))).2) (by decide) (by decide) ?_
    show Steps p.tables e below (s₁.setTop (mkF m 8 #[.val (.int (10 : Int32))] [])) _
    refine XS.iloadN X0.here hx rfl (hb hby d2_8) rfl ?_
    show Steps p.tables e below (s₁.setTop (mkF m 9 #[.val (.int (10 : Int32))] [(.int (10 : Int32))])) _
    refine XS.iconst X0.here hx rfl (hb hby d2_9) ?_
    show Steps p.tables e below (s₁.setTop (mkF m 10 #[.val (.int (10 : Int32))] [(.int (1 : Int32)), (.int (10 : Int32))])) _
    refine XS.icmpYes X0.here hx rfl (pc0 := 10) (pc' := 17) rfl (hb hby d2_10) rfl (feq (by decide +kernel : ¬ ((10 : Int32) = (1 : Int32)))).2 (by decide) (by decide) ?_
    show Steps p.tables e below (s₁.setTop (mkF m 17 #[.val (.int (10 : Int32))] [])) _
    refine XS.iloadN X0.here hx rfl (hb hby d2_17) rfl ?_
    show Steps p.tables e below (s₁.setTop (mkF m 18 #[.val (.int (10 : Int32))] [(.int (10 : Int32))])) _
    refine XS.iconst X0.here hx rfl (hb hby d2_18) ?_
    show Steps p.tables e below (s₁.setTop (mkF m 19 #[.val (.int (10 : Int32))] [(.int (2 : Int32)), (.int (10 : Int32))])) _
    refine XS.icmpYes X0.here hx rfl (pc0 := 19) (pc' := 26) rfl (hb hby d2_19) rfl (feq (by decide +kernel : ¬ ((10 : Int32) = (2 : Int32)))).2 (by decide) (by decide) ?_
    show Steps p.tables e below (s₁.setTop (mkF m 26 #[.val (.int (10 : Int32))] [])) _
    refine XS.iloadN X0.here hx rfl (hb hby d2_26) rfl ?_
    show Steps p.tables e below (s₁.setTop (mkF m 27 #[.val (.int (10 : Int32))] [(.int (10 : Int32))])) _
    refine XS.iconst X0.here hx rfl (hb hby d2_27) ?_
    show Steps p.tables e below (s₁.setTop (mkF m 28 #[.val (.int (10 : Int32))] [(.int (3 : Int32)), (.int (10 : Int32))])) _
    refine XS.icmpYes X0.here hx rfl (pc0 := 28) (pc' := 34) rfl (hb hby d2_28) rfl (feq (by decide +kernel : ¬ ((10 : Int32) = (3 : Int32)))).2 (by decide) (by decide) ?_
    show Steps p.tables e below (s₁.setTop (mkF m 34 #[.val (.int (10 : Int32))] [])) _
    refine XS.iloadN X0.here hx rfl (hb hby d2_34) rfl ?_
    show Steps p.tables e below (s₁.setTop (mkF m 35 #[.val (.int (10 : Int32))] [(.int (10 : Int32))])) _
    refine XS.iconst X0.here hx rfl (hb hby d2_35) ?_
    show Steps p.tables e below (s₁.setTop (mkF m 36 #[.val (.int (10 : Int32))] [(.int (4 : Int32)), (.int (10 : Int32))])) _
    refine XS.icmpYes X0.here hx rfl (pc0 := 36) (pc' := 42) rfl (hb hby d2_36) rfl (feq (by decide +kernel : ¬ ((10 : Int32) = (4 : Int32)))).2 (by decide) (by decide) ?_
    show Steps p.tables e below (s₁.setTop (mkF m 42 #[.val (.int (10 : Int32))] [])) _
    refine XS.iloadN X0.here hx rfl (hb hby d2_42) rfl ?_
    show Steps p.tables e below (s₁.setTop (mkF m 43 #[.val (.int (10 : Int32))] [(.int (10 : Int32))])) _
    refine XS.iconst X0.here hx rfl (hb hby d2_43) ?_
    show Steps p.tables e below (s₁.setTop (mkF m 44 #[.val (.int (10 : Int32))] [(.int (5 : Int32)), (.int (10 : Int32))])) _
    refine XS.icmpYes X0.here hx rfl (pc0 := 44) (pc' := 50) rfl (hb hby d2_44) rfl (feq (by decide +kernel : ¬ ((10 : Int32) = (5 : Int32)))).2 (by decide) (by decide) ?_
    show Steps p.tables e below (s₁.setTop (mkF m 50 #[.val (.int (10 : Int32))] [])) _
    refine XS.iloadN X0.here hx rfl (hb hby d2_50) rfl ?_
    show Steps p.tables e below (s₁.setTop (mkF m 51 #[.val (.int (10 : Int32))] [(.int (10 : Int32))])) _
    refine XS.bipush X0.here hx rfl (hb hby d2_51) ?_
    show Steps p.tables e below (s₁.setTop (mkF m 53 #[.val (.int (10 : Int32))] [(.int (6 : Int32)), (.int (10 : Int32))])) _
    refine XS.icmpYes X0.here hx rfl (pc0 := 53) (pc' := 60) rfl (hb hby d2_53) rfl (feq (by decide +kernel : ¬ ((10 : Int32) = (6 : Int32)))).2 (by decide) (by decide) ?_
    show Steps p.tables e below (s₁.setTop (mkF m 60 #[.val (.int (10 : Int32))] [])) _
    refine XS.iloadN X0.here hx rfl (hb hby d2_60) rfl ?_
    show Steps p.tables e below (s₁.setTop (mkF m 61 #[.val (.int (10 : Int32))] [(.int (10 : Int32))])) _
    refine XS.bipush X0.here hx rfl (hb hby d2_61) ?_
    show Steps p.tables e below (s₁.setTop (mkF m 63 #[.val (.int (10 : Int32))] [(.int (7 : Int32)), (.int (10 : Int32))])) _
    refine XS.icmpYes X0.here hx rfl (pc0 := 63) (pc' := 70) rfl (hb hby d2_63) rfl (feq (by decide +kernel : ¬ ((10 : Int32) = (7 : Int32)))).2 (by decide) (by decide) ?_
    show Steps p.tables e below (s₁.setTop (mkF m 70 #[.val (.int (10 : Int32))] [])) _
    refine XS.iloadN X0.here hx rfl (hb hby d2_70) rfl ?_
    show Steps p.tables e below (s₁.setTop (mkF m 71 #[.val (.int (10 : Int32))] [(.int (10 : Int32))])) _
    refine XS.bipush X0.here hx rfl (hb hby d2_71) ?_
    show Steps p.tables e below (s₁.setTop (mkF m 73 #[.val (.int (10 : Int32))] [(.int (8 : Int32)), (.int (10 : Int32))])) _
    refine XS.icmpYes X0.here hx rfl (pc0 := 73) (pc' := 80) rfl (hb hby d2_73) rfl (feq (by decide +kernel : ¬ ((10 : Int32) = (8 : Int32)))).2 (by decide) (by decide) ?_
    show Steps p.tables e below (s₁.setTop (mkF m 80 #[.val (.int (10 : Int32))] [])) _
    refine XS.iloadN X0.here hx rfl (hb hby d2_80) rfl ?_
    show Steps p.tables e below (s₁.setTop (mkF m 81 #[.val (.int (10 : Int32))] [(.int (10 : Int32))])) _
    refine XS.bipush X0.here hx rfl (hb hby d2_81) ?_
    show Steps p.tables e below (s₁.setTop (mkF m 83 #[.val (.int (10 : Int32))] [(.int (9 : Int32)), (.int (10 : Int32))])) _
    refine XS.icmpYes X0.here hx rfl (pc0 := 83) (pc' := 90) rfl (hb hby d2_83) rfl (feq (by decide +kernel : ¬ ((10 : Int32) = (9 : Int32)))).2 (by decide) (by decide) ?_
    show Steps p.tables e below (s₁.setTop (mkF m 90 #[.val (.int (10 : Int32))] [])) _
    refine XS.iloadN X0.here hx rfl (hb hby d2_90) rfl ?_
    show Steps p.tables e below (s₁.setTop (mkF m 91 #[.val (.int (10 : Int32))] [(.int (10 : Int32))])) _
    refine XS.bipush X0.here hx rfl (hb hby d2_91) ?_
    show Steps p.tables e below (s₁.setTop (mkF m 93 #[.val (.int (10 : Int32))] [(.int (10 : Int32)), (.int (10 : Int32))])) _
    refine XS.icmpNo X0.here hx rfl (hb hby d2_93) rfl (teq (by decide +kernel : (10 : Int32) = (10 : Int32))).2 ?_
    show Steps p.tables e below (s₁.setTop (mkF m 96 #[.val (.int (10 : Int32))] [])) _
    refine X0.ldcInt hx hown (mvT hZ (hw _ (List.mem_of_getElem? (i := 73) rfl))) (g := (mkF m 96 #[.val (.int (10 : Int32))] [])) rfl (hb hby d2_96) _ ?_
    show Steps p.tables e below (s₁.setTop (mkF m 98 #[.val (.int (10 : Int32))] [(.int (60000 : Int32))])) _
    exact retI X0 hx Bd.returns (hb hby d2_98) hr
  · exact ⟨rfl, N0, e0⟩
set_option maxRecDepth 65536 in
set_option maxHeartbeats 40000000 in
theorem rm2_11 (l : Launch) (Z : State) (a0 : Array Value) (hw : ∀ d ∈ tables_1, d.before a0 Z = true) (ws : List Jvm.Cond) (w_MUSHROOM_SOUP w_CAESAR_SALAD w_ICE_CREAM w_BARBECUE_RIBS w_TAPAS w_CHRISTMAS_PASTA w_CHAMPAGNE w_T_BONE_STEAK w_ZERO_COLA w_CHOCOLATE_CAKE w_RED_WINE w_SEAFOOD_PASTA : Addr) (h0 : Heap) (n0 : Nat) (Z0 : n0 ≤ h0.size) (C : Ctx Z h0 w_MUSHROOM_SOUP w_CAESAR_SALAD w_ICE_CREAM w_BARBECUE_RIBS w_TAPAS w_CHRISTMAS_PASTA w_CHAMPAGNE w_T_BONE_STEAK w_ZERO_COLA w_CHOCOLATE_CAKE w_RED_WINE w_SEAFOOD_PASTA)  :
    MetFree l (⟨"com/example/tinsel_tally/tinseltally/model/OrderLinePricePinLaw", "unitOf", "(I)I"⟩ : MethodName) (head1 (Jvm.Cond.code (⟨"com/example/tinsel_tally/tinseltally/model/OrderLinePricePinLaw", "unitOf", "(I)I"⟩ : MethodName) method_3_code 1 (some .int) :: ws) ({ frames := 0, cells := 0, slots := 0, locals := 0 } : Room)) (fun a U => a = #[(.int (11 : Int32))] ∧ Z.Warmed39 U.vm ∧ U.heap = h0) (fun _ _ _ _ _ => True) (fun _ U o U' => ∃ v L, o = .returned v ∧ QR h0 n0 (some (.int (25000 : Int32))) v U'.heap L ∧ FrameEnd U o U' L ({ frames := 0, cells := 0, slots := 0, locals := 0 } : Room).cells ({ frames := 0, cells := 0, slots := 0, locals := 0 } : Room).slots) := by
  refine MetFree.of_bodySF (plainFor_of_name pn_2) hisR ?_
  intro p e s m args below meth c s₁ Bd hml0 hP hK
  obtain ⟨rfl, hZ, hh⟩ := hP
  have hx := Bd.exec
  have hby := Bd.bytes
  have hml : c.maxLocals = 1 := hml0
  have hown : s.vm.findClass "com/example/tinsel_tally/tinseltally/model/OrderLinePricePinLaw" = some m.cls := findClass_of_methodNamed Bd.named
  have hnm := (name_of_methodNamed Bd.named Bd.method).1
  have X0 : Stand p l e ({ frames := 0, cells := 0, slots := 0, locals := 0 } : Room) s m #[(.int (11 : Int32))] below meth c s₁ [] 0 0 := Stand.of_body Bd
  have e0 : s₁.heap = h0 := by rw [← hh, Bd.state]; rfl
  have N0 := Fr.nil n0
  have pre0 : ∀ t, Steps p.tables e below (s₁.setTop (mkF m 0 #[.val (.int (11 : Int32))] [])) t → Steps p.tables e below (s₁.setTop (entryFrame m #[(.int (11 : Int32))] 1)) t := fun t k => castTop (ef_2 m (11 : Int32)) k
  obtain ⟨fs, hr, hrun, hended, hW, hsame⟩ := X0.leave (v := (some (.int (25000 : Int32)))) (fun h => by rw [Bd.returns] at h; cases h)
  refine ⟨_, _, pre0 _ ?_, hrun, hended, _, _, rfl, ?_, ⟨_, rfl⟩, hW, hsame.mono (by decide) (by decide)⟩
  · show Steps p.tables e below (s₁.setTop (mkF m 0 #[.val (.int (11 : Int32))] [])) _
    refine XS.iloadN X0.here hx rfl (hb hby d2_0) rfl ?_
    show Steps p.tables e below (s₁.setTop (mkF m 1 #[.val (.int (11 : Int32))] [(.int (11 : Int32))])) _
    refine XS.ifYes X0.here hx rfl (pc0 := 1) (pc' := 8) rfl (hb hby d2_1) rfl ((if0 _ _).trans (feq (by decide +kernel : ¬ ((11 : Int32) = (0 : Int32)))).2) (by decide) (by decide) ?_
    show Steps p.tables e below (s₁.setTop (mkF m 8 #[.val (.int (11 : Int32))] [])) _
    refine XS.iloadN X0.here hx rfl (hb hby d2_8) rfl ?_
    show Steps p.tables e below (s₁.setTop (mkF m 9 #[.val (.int (11 : Int32))] [(.int (11 : Int32))])) _
    refine XS.iconst X0.here hx rfl (hb hby d2_9) ?_
    show Steps p.tables e below (s₁.setTop (mkF m 10 #[.val (.int (11 : Int32))] [(.int (1 : Int32)), (.int (11 : Int32))])) _
    refine XS.icmpYes X0.here hx rfl (pc0 := 10) (pc' := 17) rfl (hb hby d2_10) rfl (feq (by decide +kernel : ¬ ((11 : Int32) = (1 : Int32)))).2 (by decide) (by decide) ?_
    show Steps p.tables e below (s₁.setTop (mkF m 17 #[.val (.int (11 : Int32))] [])) _
    refine XS.iloadN X0.here hx rfl (hb hby d2_17) rfl ?_
    show Steps p.tables e below (s₁.setTop (mkF m 18 #[.val (.int (11 : Int32))] [(.int (11 : Int32))])) _
    refine XS.iconst X0.here hx rfl (hb hby d2_18) ?_
    show Steps p.tables e below (s₁.setTop (mkF m 19 #[.val (.int (11 : Int32))] [(.int (2 : Int32)), (.int (11 : Int32))])) _
    refine XS.icmpYes X0.here hx rfl (pc0 := 19) (pc' := 26) rfl (hb hby d2_19) rfl (feq (by decide +kernel : ¬ ((11 : Int32) = (2 : Int32)))).2 (by decide) (by decide) ?_
    show Steps p.tables e below (s₁.setTop (mkF m 26 #[.val (.int (11 : Int32))] [])) _
    refine XS.iloadN X0.here hx rfl (hb hby d2_26) rfl ?_
    show Steps p.tables e below (s₁.setTop (mkF m 27 #[.val (.int (11 : Int32))] [(.int (11 : Int32))])) _
    refine XS.iconst X0.here hx rfl (hb hby d2_27) ?_
    show Steps p.tables e below (s₁.setTop (mkF m 28 #[.val (.int (11 : Int32))] [(.int (3 : Int32)), (.int (11 : Int32))])) _
    refine XS.icmpYes X0.here hx rfl (pc0 := 28) (pc' := 34) rfl (hb hby d2_28) rfl (feq (by decide +kernel : ¬ ((11 : Int32) = (3 : Int32)))).2 (by decide) (by decide) ?_
    show Steps p.tables e below (s₁.setTop (mkF m 34 #[.val (.int (11 : Int32))] [])) _
    refine XS.iloadN X0.here hx rfl (hb hby d2_34) rfl ?_
    show Steps p.tables e below (s₁.setTop (mkF m 35 #[.val (.int (11 : Int32))] [(.int (11 : Int32))])) _
    refine XS.iconst X0.here hx rfl (hb hby d2_35) ?_
    show Steps p.tables e below (s₁.setTop (mkF m 36 #[.val (.int (11 : Int32))] [(.int (4 : Int32)), (.int (11 : Int32))])) _
    refine XS.icmpYes X0.here hx rfl (pc0 := 36) (pc' := 42) rfl (hb hby d2_36) rfl (feq (by decide +kernel : ¬ ((11 : Int32) = (4 : Int32)))).2 (by decide) (by decide) ?_
    show Steps p.tables e below (s₁.setTop (mkF m 42 #[.val (.int (11 : Int32))] [])) _
    refine XS.iloadN X0.here hx rfl (hb hby d2_42) rfl ?_
    show Steps p.tables e below (s₁.setTop (mkF m 43 #[.val (.int (11 : Int32))] [(.int (11 : Int32))])) _
    refine XS.iconst X0.here hx rfl (hb hby d2_43) ?_
    show Steps p.tables e below (s₁.setTop (mkF m 44 #[.val (.int (11 : Int32))] [(.int (5 : Int32)), (.int (11 : Int32))])) _
    refine XS.icmpYes X0.here hx rfl (pc0 := 44) (pc' := 50) rfl (hb hby d2_44) rfl (feq (by decide +kernel : ¬ ((11 : Int32) = (5 : Int32)))).2 (by decide) (by decide) ?_
    show Steps p.tables e below (s₁.setTop (mkF m 50 #[.val (.int (11 : Int32))] [])) _
    refine XS.iloadN X0.here hx rfl (hb hby d2_50) rfl ?_
    show Steps p.tables e below (s₁.setTop (mkF m 51 #[.val (.int (11 : Int32))] [(.int (11 : Int32))])) _
    refine XS.bipush X0.here hx rfl (hb hby d2_51) ?_
    show Steps p.tables e below (s₁.setTop (mkF m 53 #[.val (.int (11 : Int32))] [(.int (6 : Int32)), (.int (11 : Int32))])) _
    refine XS.icmpYes X0.here hx rfl (pc0 := 53) (pc' := 60) rfl (hb hby d2_53) rfl (feq (by decide +kernel : ¬ ((11 : Int32) = (6 : Int32)))).2 (by decide) (by decide) ?_
    show Steps p.tables e below (s₁.setTop (mkF m 60 #[.val (.int (11 : Int32))] [])) _
    refine XS.iloadN X0.here hx rfl (hb hby d2_60) rfl ?_
    show Steps p.tables e below (s₁.setTop (mkF m 61 #[.val (.int (11 : Int32))] [(.int (11 : Int32))])) _
    refine XS.bipush X0.here hx rfl (hb hby d2_61) ?_
    show Steps p.tables e below (s₁.setTop (mkF m 63 #[.val (.int (11 : Int32))] [(.int (7 : Int32)), (.int (11 : Int32))])) _
    refine XS.icmpYes X0.here hx rfl (pc0 := 63) (pc' := 70) rfl (hb hby d2_63) rfl (feq (by decide +kernel : ¬ ((11 : Int32) = (7 : Int32)))).2 (by decide) (by decide) ?_
    show Steps p.tables e below (s₁.setTop (mkF m 70 #[.val (.int (11 : Int32))] [])) _
    refine XS.iloadN X0.here hx rfl (hb hby d2_70) rfl ?_
    show Steps p.tables e below (s₁.setTop (mkF m 71 #[.val (.int (11 : Int32))] [(.int (11 : Int32))])) _
    refine XS.bipush X0.here hx rfl (hb hby d2_71) ?_
    show Steps p.tables e below (s₁.setTop (mkF m 73 #[.val (.int (11 : Int32))] [(.int (8 : Int32)), (.int (11 : Int32))])) _
    refine XS.icmpYes X0.here hx rfl (pc0 := 73) (pc' := 80) rfl (hb hby d2_73) rfl (feq (by decide +kernel : ¬ ((11 : Int32) = (8 : Int32)))).2 (by decide) (by decide) ?_
    show Steps p.tables e below (s₁.setTop (mkF m 80 #[.val (.int (11 : Int32))] [])) _
    refine XS.iloadN X0.here hx rfl (hb hby d2_80) rfl ?_
    show Steps p.tables e below (s₁.setTop (mkF m 81 #[.val (.int (11 : Int32))] [(.int (11 : Int32))])) _
    refine XS.bipush X0.here hx rfl (hb hby d2_81) ?_
    show Steps p.tables e below (s₁.setTop (mkF m 83 #[.val (.int (11 : Int32))] [(.int (9 : Int32)), (.int (11 : Int32))])) _
    refine XS.icmpYes X0.here hx rfl (pc0 := 83) (pc' := 90) rfl (hb hby d2_83) rfl (feq (by decide +kernel : ¬ ((11 : Int32) = (9 : Int32)))).2 (by decide) (by decide) ?_
    show Steps p.tables e below (s₁.setTop (mkF m 90 #[.val (.int (11 : Int32))] [])) _
    refine XS.iloadN X0.here hx rfl (hb hby d2_90) rfl ?_
    show Steps p.tables e below (s₁.setTop (mkF m 91 #[.val (.int (11 : Int32))] [(.int (11 : Int32))])) _
    refine XS.bipush X0.here hx rfl (hb hby d2_91) ?_
    show Steps p.tables e below (s₁.setTop (mkF m 93 #[.val (.int (11 : Int32))] [(.int (10 : Int32)), (.int (11 : Int32))])) _
    refine XS.icmpYes X0.here hx rfl (pc0 := 93) (pc' := 99) rfl (hb hby d2_93) rfl (feq (by decide +kernel : ¬ ((11 : Int32) = (10 : Int32)))).2 (by decide) (by decide) ?_
    show Steps p.tables e below (s₁.setTop (mkF m 99 #[.val (.int (11 : Int32))] [])) _
    refine XS.sipush X0.here hx rfl (hb hby d2_99) ?_
    show Steps p.tables e below (s₁.setTop (mkF m 102 #[.val (.int (11 : Int32))] [(.int (25000 : Int32))])) _
    exact retI X0 hx Bd.returns (hb hby d2_102) hr
  · exact ⟨rfl, N0, e0⟩
abbrev DishM (l : Launch) (Z : State) (h0 : Heap) (n0 : Nat) (k : Int32) (w : Addr) : Prop := MetFree l (⟨"com/example/tinsel_tally/tinseltally/model/OrderLinePricePinLaw", "dishOf", "(I)Lcom/example/tinsel_tally/tinseltally/model/Dish;"⟩ : MethodName) (head1 (Jvm.Cond.code (⟨"com/example/tinsel_tally/tinseltally/model/OrderLinePricePinLaw", "dishOf", "(I)Lcom/example/tinsel_tally/tinseltally/model/Dish;"⟩ : MethodName) method_2_code 1 (some (.object "com/example/tinsel_tally/tinseltally/model/Dish")) :: []) ({ frames := 0, cells := 0, slots := 0, locals := 0 } : Room)) (fun a U => a = #[(.int k)] ∧ Z.Warmed39 U.vm ∧ U.heap = h0) (fun _ _ _ _ _ => True) (fun _ U o U' => ∃ v L, o = .returned v ∧ QR h0 n0 (some (.ref w)) v U'.heap L ∧ FrameEnd U o U' L ({ frames := 0, cells := 0, slots := 0, locals := 0 } : Room).cells ({ frames := 0, cells := 0, slots := 0, locals := 0 } : Room).slots)
abbrev UnitM (l : Launch) (Z : State) (h0 : Heap) (n0 : Nat) (k z : Int32) : Prop := MetFree l (⟨"com/example/tinsel_tally/tinseltally/model/OrderLinePricePinLaw", "unitOf", "(I)I"⟩ : MethodName) (head1 (Jvm.Cond.code (⟨"com/example/tinsel_tally/tinseltally/model/OrderLinePricePinLaw", "unitOf", "(I)I"⟩ : MethodName) method_3_code 1 (some .int) :: []) ({ frames := 0, cells := 0, slots := 0, locals := 0 } : Room)) (fun a U => a = #[(.int k)] ∧ Z.Warmed39 U.vm ∧ U.heap = h0) (fun _ _ _ _ _ => True) (fun _ U o U' => ∃ v L, o = .returned v ∧ QR h0 n0 (some (.int z)) v U'.heap L ∧ FrameEnd U o U' L ({ frames := 0, cells := 0, slots := 0, locals := 0 } : Room).cells ({ frames := 0, cells := 0, slots := 0, locals := 0 } : Room).slots)
theorem d4_0 : decode jdk_30_method_1_code 0 = .ok (.aload_n 0, 1) := by decide +kernel
theorem d4_1 : decode jdk_30_method_1_code 1 = .ok (.invokespecial 1, 3) := by decide +kernel
theorem d4_4 : decode jdk_30_method_1_code 4 = .ok (.return_, 1) := by decide +kernel
theorem pn_4 : plainName "java/lang/Record" = true := by first | (simp [plainName, overriddenIn]; done) | decide +kernel
theorem ef_4 (m : MethodId) (x0 : Addr) : entryFrame m #[(.ref x0)] 1 = mkF m 0 #[.val (.ref x0)] [] := by first | (simp [entryFrame, mkF, argsToLocals, Value.category]; done) | rfl
def Q4 (Z : State) (a1 : Addr) (h0 : Heap) (n0 : Nat) (v : Option Value) (h : Heap) (L : List Loc) : Prop := v = none ∧ Fr n0 L ∧ h = h0
set_option maxRecDepth 65536 in
set_option maxHeartbeats 40000000 in
theorem rm4 (l : Launch) (Z : State) (a0 : Array Value) (hw : ∀ d ∈ tables_1, d.before a0 Z = true) (ws : List Jvm.Cond) (a1 : Addr) (h0 : Heap) (n0 : Nat) (Z0 : n0 ≤ h0.size) :
    MetFree l (⟨"java/lang/Record", "<init>", "()V"⟩ : MethodName) (head1 (Jvm.Cond.code (⟨"java/lang/Record", "<init>", "()V"⟩ : MethodName) jdk_30_method_1_code 1 none :: ws) ({ frames := 1, cells := 0, slots := 0, locals := 12 } : Room)) (fun a U => a = #[(.ref a1)] ∧ Z.Warmed39 U.vm ∧ U.heap = h0) (fun _ _ _ _ _ => True) (fun _ U o U' => ∃ v L, o = .returned v ∧ Q4 Z a1 h0 n0 v U'.heap L ∧ FrameEnd U o U' L ({ frames := 1, cells := 0, slots := 0, locals := 12 } : Room).cells ({ frames := 1, cells := 0, slots := 0, locals := 12 } : Room).slots) := by
  refine MetFree.of_bodySF (plainFor_of_name pn_4) hisR ?_
  intro p e s m args below meth c s₁ Bd hml0 hP hK
  obtain ⟨rfl, hZ, hh⟩ := hP
  have hx := Bd.exec
  have hby := Bd.bytes
  have hml : c.maxLocals = 1 := hml0
  have hown : s.vm.findClass "java/lang/Record" = some m.cls := findClass_of_methodNamed Bd.named
  have hnm := (name_of_methodNamed Bd.named Bd.method).1
  have X0 : Stand p l e ({ frames := 1, cells := 0, slots := 0, locals := 12 } : Room) s m #[(.ref a1)] below meth c s₁ [] 0 0 := Stand.of_body Bd
  have e0 : s₁.heap = h0 := by rw [← hh, Bd.state]; rfl
  have N0 := Fr.nil n0
  have pre0 : ∀ t, Steps p.tables e below (s₁.setTop (mkF m 0 #[.val (.ref a1)] [])) t → Steps p.tables e below (s₁.setTop (entryFrame m #[(.ref a1)] 1)) t := fun t k => castTop (ef_4 m a1) k
  obtain ⟨T2, X2, e2, st2⟩ := initO X0 hx hZ hown (hw _ (List.mem_of_getElem? (i := 22) rfl)) (hw _ (List.mem_of_getElem? (i := 23) rfl)) (hw _ (List.mem_of_getElem? (i := 24) rfl)) e0 (g := (mkF m 1 #[.val (.ref a1)] [(.ref a1)])) rfl (by rw [hml]; rfl) rfl (hb hby d4_1) (by decide) (W := 0) (by show 2 * 0 + _ ≤ _; exact Nat.le_of_eq rfl) (by decide)
  obtain ⟨fs, hr, hrun, hended, hW, hsame⟩ := X2.leave (v := none) (fun _ => rfl)
  refine ⟨_, _, pre0 _ ?_, hrun, hended, _, _, rfl, ?_, ⟨_, rfl⟩, hW, hsame.mono (by decide) (by decide)⟩
  · show Steps p.tables e below (s₁.setTop (mkF m 0 #[.val (.ref a1)] [])) _
    refine XS.aloadN X0.here hx rfl (hb hby d4_0) rfl rfl ?_
    show Steps p.tables e below (s₁.setTop (mkF m 1 #[.val (.ref a1)] [(.ref a1)])) _
    refine st2 _ ?_
    show Steps p.tables e below (T2.setTop (mkF m 4 #[.val (.ref a1)] [])) _
    exact X2.returnOut hx Bd.returns (hb hby d4_4) hr
  · show Q4 Z a1 h0 n0 _ T2.heap _
    rw [e2]
    exact ⟨rfl, N0, rfl⟩
theorem d3_0 : decode prog_13_method_1_code 0 = .ok (.aload_n 0, 1) := by decide +kernel
theorem d3_1 : decode prog_13_method_1_code 1 = .ok (.invokespecial 1, 3) := by decide +kernel
theorem d3_4 : decode prog_13_method_1_code 4 = .ok (.iload_n 2, 1) := by decide +kernel
theorem d3_5 : decode prog_13_method_1_code 5 = .ok (.iconst 1, 1) := by decide +kernel
theorem d3_6 : decode prog_13_method_1_code 6 = .ok (.if_icmp .ge 17, 3) := by decide +kernel
theorem d3_23 : decode prog_13_method_1_code 23 = .ok (.aload_n 0, 1) := by decide +kernel
theorem d3_24 : decode prog_13_method_1_code 24 = .ok (.aload_n 1, 1) := by decide +kernel
theorem d3_25 : decode prog_13_method_1_code 25 = .ok (.putfield 16, 3) := by decide +kernel
theorem d3_28 : decode prog_13_method_1_code 28 = .ok (.aload_n 0, 1) := by decide +kernel
theorem d3_29 : decode prog_13_method_1_code 29 = .ok (.iload_n 2, 1) := by decide +kernel
theorem d3_30 : decode prog_13_method_1_code 30 = .ok (.putfield 22, 3) := by decide +kernel
theorem d3_33 : decode prog_13_method_1_code 33 = .ok (.return_, 1) := by decide +kernel
theorem pn_3 : plainName "com/example/tinsel_tally/tinseltally/model/OrderLine" = true := by first | (simp [plainName, overriddenIn]; done) | decide +kernel
theorem pd_3_3 : parseMethodDescriptor "()V" = some ⟨[], none⟩ := by decide +kernel
theorem ef_3 (m : MethodId) (x0 : Addr) (x1 : Addr) (x2 : Int32) : entryFrame m #[(.ref x0), (.ref x1), (.int x2)] 3 = mkF m 0 #[.val (.ref x0), .val (.ref x1), .val (.int x2)] [] := by first | (simp [entryFrame, mkF, argsToLocals, Value.category]; done) | rfl
def Q3 (Z : State) (a1 : Addr) (a2 : Addr) (p3 : Int32) (u_dish_a1 : Value) (u_count_a1 : Value) (h0 : Heap) (n0 : Nat) (v : Option Value) (h : Heap) (L : List Loc) : Prop := v = none ∧ Fr n0 L ∧ Keep h0 h [a1] ∧ Exa Z h a1 "com/example/tinsel_tally/tinseltally/model/OrderLine" ∧ Fld Z h a1 "com/example/tinsel_tally/tinseltally/model/OrderLine" "dish" "Lcom/example/tinsel_tally/tinseltally/model/Dish;" (.ref a2) ∧ Fld Z h a1 "com/example/tinsel_tally/tinseltally/model/OrderLine" "count" "I" (.int p3)
set_option maxRecDepth 65536 in
set_option maxHeartbeats 40000000 in
theorem rm3 (l : Launch) (Z : State) (a0 : Array Value) (hw : ∀ d ∈ tables_1, d.before a0 Z = true) (ws : List Jvm.Cond) (a1 : Addr) (a2 : Addr) (p3 : Int32) (u_dish_a1 : Value) (u_count_a1 : Value) (h0 : Heap) (n0 : Nat) (Z0 : n0 ≤ h0.size) (E_a1 : Exa Z h0 a1 "com/example/tinsel_tally/tinseltally/model/OrderLine") (F_dish_a1 : Fld Z h0 a1 "com/example/tinsel_tally/tinseltally/model/OrderLine" "dish" "Lcom/example/tinsel_tally/tinseltally/model/Dish;" u_dish_a1) (g_a1 : n0 ≤ a1) (F_count_a1 : Fld Z h0 a1 "com/example/tinsel_tally/tinseltally/model/OrderLine" "count" "I" u_count_a1) (hc6 : ¬ (p3 < (1 : Int32))) :
    MetFree l (⟨"com/example/tinsel_tally/tinseltally/model/OrderLine", "<init>", "(Lcom/example/tinsel_tally/tinseltally/model/Dish;I)V"⟩ : MethodName) (head1 (Jvm.Cond.code (⟨"com/example/tinsel_tally/tinseltally/model/OrderLine", "<init>", "(Lcom/example/tinsel_tally/tinseltally/model/Dish;I)V"⟩ : MethodName) prog_13_method_1_code 3 none :: ws) ({ frames := 2, cells := 0, slots := 0, locals := 24 } : Room)) (fun a U => a = #[(.ref a1), (.ref a2), (.int p3)] ∧ Z.Warmed39 U.vm ∧ U.heap = h0) (fun _ _ _ _ _ => True) (fun _ U o U' => ∃ v L, o = .returned v ∧ Q3 Z a1 a2 p3 u_dish_a1 u_count_a1 h0 n0 v U'.heap L ∧ FrameEnd U o U' L ({ frames := 2, cells := 0, slots := 0, locals := 24 } : Room).cells ({ frames := 2, cells := 0, slots := 0, locals := 24 } : Room).slots) := by
  refine MetFree.of_bodySF (plainFor_of_name pn_3) hisR ?_
  intro p e s m args below meth c s₁ Bd hml0 hP hK
  obtain ⟨rfl, hZ, hh⟩ := hP
  have hx := Bd.exec
  have hby := Bd.bytes
  have hml : c.maxLocals = 3 := hml0
  have hown : s.vm.findClass "com/example/tinsel_tally/tinseltally/model/OrderLine" = some m.cls := findClass_of_methodNamed Bd.named
  have hnm := (name_of_methodNamed Bd.named Bd.method).1
  have X0 : Stand p l e ({ frames := 2, cells := 0, slots := 0, locals := 24 } : Room) s m #[(.ref a1), (.ref a2), (.int p3)] below meth c s₁ [] 0 0 := Stand.of_body Bd
  have e0 : s₁.heap = h0 := by rw [← hh, Bd.state]; rfl
  have N0 := Fr.nil n0
  have pre0 : ∀ t, Steps p.tables e below (s₁.setTop (mkF m 0 #[.val (.ref a1), .val (.ref a2), .val (.int p3)] [])) t → Steps p.tables e below (s₁.setTop (entryFrame m #[(.ref a1), (.ref a2), (.int p3)] 3)) t := fun t k => castTop (ef_3 m a1 a2 p3) k
  obtain ⟨_, _, ⟨T4, L4, k4, n4⟩, -, X4, ⟨Lc4, hQ4, l4, y4, z4⟩, st4⟩ := X0.specialBack hx (y := (⟨"java/lang/Record", "<init>", "()V"⟩ : MethodName)) rfl hown (mvT hZ (hw _ (List.mem_of_getElem? (i := 17) rfl))) (mvT hZ (hw _ (List.mem_of_getElem? (i := 18) rfl))) (mvT hZ (hw _ (List.mem_of_getElem? (i := 21) rfl))) (by decide) (backOf (W := 0) (rm4 l Z a0 hw [] a1 h0 n0 Z0) hZ (hw _ (List.mem_of_getElem? (i := 21) rfl)) (hw _ (List.mem_of_getElem? (i := 20) rfl)) (by decide) (by decide)) (g := (mkF m 1 #[.val (.ref a1), .val (.ref a2), .val (.int p3)] [(.ref a1)])) rfl (by rw [hml]; rfl) (Steps.refl _) (a := a1) (argsL := []) (rest := []) (lenOf pd_3_3 rfl) rfl (by show 2 * 0 + _ ≤ _; exact Nat.le_of_eq rfl) (hb hby d3_1) (fun _ _ => ⟨rfl, e0, (by decide : 0 + 0 ≤ _), (by decide : 0 + 0 ≤ _)⟩)
  dsimp only [Pt.U, Pt.locs, Pt.cells, Pt.slots] at X4 l4 y4 z4 st4 hQ4
  subst l4 y4 z4
  obtain ⟨rfl, N4q, e4⟩ := hQ4
  have N4 := Fr.app N0 N4q
  obtain ⟨T5, h5, X5, e5, W5, st5⟩ := putF X4 hx hZ hown (host := "") (Or.inl (hw _ (List.mem_of_getElem? (i := 25) rfl))) Via.refl e4 F_dish_a1 E_a1 (Or.inr ⟨(hw _ (List.mem_of_getElem? (i := 26) rfl)), rfl, hnm⟩) (hw _ (List.mem_of_getElem? (i := 12) rfl)) (ty := (.object "com/example/tinsel_tally/tinseltally/model/Dish")) (by decide) rfl rfl (g := (mkF m 25 #[.val (.ref a1), .val (.ref a2), .val (.int p3)] [(.ref a2), (.ref a1)])) rfl rfl (hb hby d3_25)
  have Fw5 := F_dish_a1.same W5
  have K5 : Keep h0 h5 [a1] := (Keep.refl h0 [a1]).wr W5 (Or.inl (List.mem_of_getElem? (i := 0) rfl))
  have N5 := Fr.snoc X5 N4 g_a1
  obtain ⟨T6, h6, X6, e6, W6, st6⟩ := putF X5 hx hZ hown (host := "") (Or.inl (hw _ (List.mem_of_getElem? (i := 27) rfl))) Via.refl e5 (F_count_a1.other W5 (Or.inr (slot_ne (Or.inr (hw _ (List.mem_of_getElem? (i := 28) rfl))) (Or.inr (hw _ (List.mem_of_getElem? (i := 26) rfl))) (by decide) (t := .int) (t' := (.object "com/example/tinsel_tally/tinseltally/model/Dish")) (by decide) (by decide)))) (E_a1.wr W5) (Or.inr ⟨(hw _ (List.mem_of_getElem? (i := 28) rfl)), rfl, hnm⟩) (hw _ (List.mem_of_getElem? (i := 12) rfl)) (ty := .int) (by decide) rfl rfl (g := (mkF m 30 #[.val (.ref a1), .val (.ref a2), .val (.int p3)] [(.int p3), (.ref a1)])) rfl rfl (hb hby d3_30)
  have Fw6 := (F_count_a1.other W5 (Or.inr (slot_ne (Or.inr (hw _ (List.mem_of_getElem? (i := 28) rfl))) (Or.inr (hw _ (List.mem_of_getElem? (i := 26) rfl))) (by decide) (t := .int) (t' := (.object "com/example/tinsel_tally/tinseltally/model/Dish")) (by decide) (by decide)))).same W6
  have K6 : Keep h0 h6 [a1] := K5.wr W6 (Or.inl (List.mem_of_getElem? (i := 0) rfl))
  have N6 := Fr.snoc X6 N5 g_a1
  obtain ⟨fs, hr, hrun, hended, hW, hsame⟩ := X6.leave (v := none) (fun _ => rfl)
  refine ⟨_, _, pre0 _ ?_, hrun, hended, _, _, rfl, ?_, ⟨_, rfl⟩, hW, hsame.mono (by decide) (by decide)⟩
  · show Steps p.tables e below (s₁.setTop (mkF m 0 #[.val (.ref a1), .val (.ref a2), .val (.int p3)] [])) _
    refine XS.aloadN X0.here hx rfl (hb hby d3_0) rfl rfl ?_
    show Steps p.tables e below (s₁.setTop (mkF m 1 #[.val (.ref a1), .val (.ref a2), .val (.int p3)] [(.ref a1)])) _
    refine st4.trans ?_
    show Steps p.tables e below (T4.setTop (mkF m 4 #[.val (.ref a1), .val (.ref a2), .val (.int p3)] [])) _
    refine XS.iloadN X4.here hx rfl (hb hby d3_4) rfl ?_
    show Steps p.tables e below (T4.setTop (mkF m 5 #[.val (.ref a1), .val (.ref a2), .val (.int p3)] [(.int p3)])) _
    refine XS.iconst X4.here hx rfl (hb hby d3_5) ?_
    show Steps p.tables e below (T4.setTop (mkF m 6 #[.val (.ref a1), .val (.ref a2), .val (.int p3)] [(.int (1 : Int32)), (.int p3)])) _
    refine XS.icmpYes X4.here hx rfl (pc0 := 6) (pc' := 23) rfl (hb hby d3_6) rfl (flt hc6).2.1 (by decide) (by decide) ?_
    show Steps p.tables e below (T4.setTop (mkF m 23 #[.val (.ref a1), .val (.ref a2), .val (.int p3)] [])) _
    refine XS.aloadN X4.here hx rfl (hb hby d3_23) rfl rfl ?_
    show Steps p.tables e below (T4.setTop (mkF m 24 #[.val (.ref a1), .val (.ref a2), .val (.int p3)] [(.ref a1)])) _
    refine XS.aloadN X4.here hx rfl (hb hby d3_24) rfl rfl ?_
    show Steps p.tables e below (T4.setTop (mkF m 25 #[.val (.ref a1), .val (.ref a2), .val (.int p3)] [(.ref a2), (.ref a1)])) _
    refine st5 _ ?_
    show Steps p.tables e below (T5.setTop (mkF m 28 #[.val (.ref a1), .val (.ref a2), .val (.int p3)] [])) _
    refine XS.aloadN X5.here hx rfl (hb hby d3_28) rfl rfl ?_
    show Steps p.tables e below (T5.setTop (mkF m 29 #[.val (.ref a1), .val (.ref a2), .val (.int p3)] [(.ref a1)])) _
    refine XS.iloadN X5.here hx rfl (hb hby d3_29) rfl ?_
    show Steps p.tables e below (T5.setTop (mkF m 30 #[.val (.ref a1), .val (.ref a2), .val (.int p3)] [(.int p3), (.ref a1)])) _
    refine st6 _ ?_
    show Steps p.tables e below (T6.setTop (mkF m 33 #[.val (.ref a1), .val (.ref a2), .val (.int p3)] [])) _
    exact X6.returnOut hx Bd.returns (hb hby d3_33) hr
  · show Q3 Z a1 a2 p3 u_dish_a1 u_count_a1 h0 n0 _ T6.heap _
    rw [e6]
    exact ⟨rfl, N6, K6, (E_a1.wr W5).wr W6, Fw5.other W6 (Or.inr (slot_ne (Or.inr (hw _ (List.mem_of_getElem? (i := 26) rfl))) (Or.inr (hw _ (List.mem_of_getElem? (i := 28) rfl))) (by decide) (t := (.object "com/example/tinsel_tally/tinseltally/model/Dish")) (t' := .int) (by decide) (by decide))), Fw6⟩
theorem d7_0 : decode prog_10_method_7_code 0 = .ok (.aload_n 0, 1) := by decide +kernel
theorem d7_1 : decode prog_10_method_7_code 1 = .ok (.getfield 67, 3) := by decide +kernel
theorem d7_4 : decode prog_10_method_7_code 4 = .ok (.ireturn, 1) := by decide +kernel
theorem pn_7 : plainName "com/example/tinsel_tally/tinseltally/model/Dish" = true := by first | (simp [plainName, overriddenIn]; done) | decide +kernel
theorem ef_7 (m : MethodId) (x0 : Addr) : entryFrame m #[(.ref x0)] 1 = mkF m 0 #[.val (.ref x0)] [] := by first | (simp [entryFrame, mkF, argsToLocals, Value.category]; done) | rfl
set_option maxRecDepth 65536 in
set_option maxHeartbeats 40000000 in
theorem rm7_0 (l : Launch) (Z : State) (a0 : Array Value) (hw : ∀ d ∈ tables_1, d.before a0 Z = true) (ws : List Jvm.Cond) (w_MUSHROOM_SOUP w_CAESAR_SALAD w_ICE_CREAM w_BARBECUE_RIBS w_TAPAS w_CHRISTMAS_PASTA w_CHAMPAGNE w_T_BONE_STEAK w_ZERO_COLA w_CHOCOLATE_CAKE w_RED_WINE w_SEAFOOD_PASTA : Addr) (oa : Addr) (va : Int32) (h0 : Heap) (n0 : Nat) (Z0 : n0 ≤ h0.size) (C : Ctx Z h0 w_MUSHROOM_SOUP w_CAESAR_SALAD w_ICE_CREAM w_BARBECUE_RIBS w_TAPAS w_CHRISTMAS_PASTA w_CHAMPAGNE w_T_BONE_STEAK w_ZERO_COLA w_CHOCOLATE_CAKE w_RED_WINE w_SEAFOOD_PASTA) (Fa : Fld Z h0 oa "com/example/tinsel_tally/tinseltally/model/Dish" "price" "I" (.int va)) :
    MetFree l (⟨"com/example/tinsel_tally/tinseltally/model/Dish", "price", "()I"⟩ : MethodName) (head1 (Jvm.Cond.code (⟨"com/example/tinsel_tally/tinseltally/model/Dish", "price", "()I"⟩ : MethodName) prog_10_method_7_code 1 (some .int) :: ws) ({ frames := 0, cells := 0, slots := 0, locals := 0 } : Room)) (fun a U => a = #[(.ref oa)] ∧ Z.Warmed39 U.vm ∧ U.heap = h0) (fun _ _ _ _ _ => True) (fun _ U o U' => ∃ v L, o = .returned v ∧ QR h0 n0 (some (.int va)) v U'.heap L ∧ FrameEnd U o U' L ({ frames := 0, cells := 0, slots := 0, locals := 0 } : Room).cells ({ frames := 0, cells := 0, slots := 0, locals := 0 } : Room).slots) := by
  refine MetFree.of_bodySF (plainFor_of_name pn_7) hisR ?_
  intro p e s m args below meth c s₁ Bd hml0 hP hK
  obtain ⟨rfl, hZ, hh⟩ := hP
  have hx := Bd.exec
  have hby := Bd.bytes
  have hml : c.maxLocals = 1 := hml0
  have hown : s.vm.findClass "com/example/tinsel_tally/tinseltally/model/Dish" = some m.cls := findClass_of_methodNamed Bd.named
  have hnm := (name_of_methodNamed Bd.named Bd.method).1
  have X0 : Stand p l e ({ frames := 0, cells := 0, slots := 0, locals := 0 } : Room) s m #[(.ref oa)] below meth c s₁ [] 0 0 := Stand.of_body Bd
  have e0 : s₁.heap = h0 := by rw [← hh, Bd.state]; rfl
  have N0 := Fr.nil n0
  have pre0 : ∀ t, Steps p.tables e below (s₁.setTop (mkF m 0 #[.val (.ref oa)] [])) t → Steps p.tables e below (s₁.setTop (entryFrame m #[(.ref oa)] 1)) t := fun t k => castTop (ef_7 m oa) k
  obtain ⟨T1, X1, e1, st1⟩ := getF X0 hx hZ hown (host := "") (Or.inl (hw _ (List.mem_of_getElem? (i := 39) rfl))) Via.refl e0 Fa (g := (mkF m 1 #[.val (.ref oa)] [(.ref oa)])) rfl rfl (hb hby d7_1)
  obtain ⟨fs, hr, hrun, hended, hW, hsame⟩ := X1.leave (v := (some (.int va))) (fun h => by rw [Bd.returns] at h; cases h)
  refine ⟨_, _, pre0 _ ?_, hrun, hended, _, _, rfl, ?_, ⟨_, rfl⟩, hW, hsame.mono (by decide) (by decide)⟩
  · show Steps p.tables e below (s₁.setTop (mkF m 0 #[.val (.ref oa)] [])) _
    refine XS.aloadN X0.here hx rfl (hb hby d7_0) rfl rfl ?_
    show Steps p.tables e below (s₁.setTop (mkF m 1 #[.val (.ref oa)] [(.ref oa)])) _
    refine st1 _ ?_
    show Steps p.tables e below (T1.setTop (mkF m 4 #[.val (.ref oa)] [(.int va)])) _
    exact retI X1 hx Bd.returns (hb hby d7_4) hr
  · exact ⟨rfl, N0, e1⟩
theorem d8_0 : decode prog_13_method_7_code 0 = .ok (.aload_n 0, 1) := by decide +kernel
theorem d8_1 : decode prog_13_method_7_code 1 = .ok (.getfield 22, 3) := by decide +kernel
theorem d8_4 : decode prog_13_method_7_code 4 = .ok (.ireturn, 1) := by decide +kernel
theorem pn_8 : plainName "com/example/tinsel_tally/tinseltally/model/OrderLine" = true := by first | (simp [plainName, overriddenIn]; done) | decide +kernel
theorem ef_8 (m : MethodId) (x0 : Addr) : entryFrame m #[(.ref x0)] 1 = mkF m 0 #[.val (.ref x0)] [] := by first | (simp [entryFrame, mkF, argsToLocals, Value.category]; done) | rfl
set_option maxRecDepth 65536 in
set_option maxHeartbeats 40000000 in
theorem rm8_0 (l : Launch) (Z : State) (a0 : Array Value) (hw : ∀ d ∈ tables_1, d.before a0 Z = true) (ws : List Jvm.Cond) (w_MUSHROOM_SOUP w_CAESAR_SALAD w_ICE_CREAM w_BARBECUE_RIBS w_TAPAS w_CHRISTMAS_PASTA w_CHAMPAGNE w_T_BONE_STEAK w_ZERO_COLA w_CHOCOLATE_CAKE w_RED_WINE w_SEAFOOD_PASTA : Addr) (oa : Addr) (va : Int32) (h0 : Heap) (n0 : Nat) (Z0 : n0 ≤ h0.size) (C : Ctx Z h0 w_MUSHROOM_SOUP w_CAESAR_SALAD w_ICE_CREAM w_BARBECUE_RIBS w_TAPAS w_CHRISTMAS_PASTA w_CHAMPAGNE w_T_BONE_STEAK w_ZERO_COLA w_CHOCOLATE_CAKE w_RED_WINE w_SEAFOOD_PASTA) (Fa : Fld Z h0 oa "com/example/tinsel_tally/tinseltally/model/OrderLine" "count" "I" (.int va)) :
    MetFree l (⟨"com/example/tinsel_tally/tinseltally/model/OrderLine", "count", "()I"⟩ : MethodName) (head1 (Jvm.Cond.code (⟨"com/example/tinsel_tally/tinseltally/model/OrderLine", "count", "()I"⟩ : MethodName) prog_13_method_7_code 1 (some .int) :: ws) ({ frames := 0, cells := 0, slots := 0, locals := 0 } : Room)) (fun a U => a = #[(.ref oa)] ∧ Z.Warmed39 U.vm ∧ U.heap = h0) (fun _ _ _ _ _ => True) (fun _ U o U' => ∃ v L, o = .returned v ∧ QR h0 n0 (some (.int va)) v U'.heap L ∧ FrameEnd U o U' L ({ frames := 0, cells := 0, slots := 0, locals := 0 } : Room).cells ({ frames := 0, cells := 0, slots := 0, locals := 0 } : Room).slots) := by
  refine MetFree.of_bodySF (plainFor_of_name pn_8) hisR ?_
  intro p e s m args below meth c s₁ Bd hml0 hP hK
  obtain ⟨rfl, hZ, hh⟩ := hP
  have hx := Bd.exec
  have hby := Bd.bytes
  have hml : c.maxLocals = 1 := hml0
  have hown : s.vm.findClass "com/example/tinsel_tally/tinseltally/model/OrderLine" = some m.cls := findClass_of_methodNamed Bd.named
  have hnm := (name_of_methodNamed Bd.named Bd.method).1
  have X0 : Stand p l e ({ frames := 0, cells := 0, slots := 0, locals := 0 } : Room) s m #[(.ref oa)] below meth c s₁ [] 0 0 := Stand.of_body Bd
  have e0 : s₁.heap = h0 := by rw [← hh, Bd.state]; rfl
  have N0 := Fr.nil n0
  have pre0 : ∀ t, Steps p.tables e below (s₁.setTop (mkF m 0 #[.val (.ref oa)] [])) t → Steps p.tables e below (s₁.setTop (entryFrame m #[(.ref oa)] 1)) t := fun t k => castTop (ef_8 m oa) k
  obtain ⟨T1, X1, e1, st1⟩ := getF X0 hx hZ hown (host := "") (Or.inl (hw _ (List.mem_of_getElem? (i := 27) rfl))) Via.refl e0 Fa (g := (mkF m 1 #[.val (.ref oa)] [(.ref oa)])) rfl rfl (hb hby d8_1)
  obtain ⟨fs, hr, hrun, hended, hW, hsame⟩ := X1.leave (v := (some (.int va))) (fun h => by rw [Bd.returns] at h; cases h)
  refine ⟨_, _, pre0 _ ?_, hrun, hended, _, _, rfl, ?_, ⟨_, rfl⟩, hW, hsame.mono (by decide) (by decide)⟩
  · show Steps p.tables e below (s₁.setTop (mkF m 0 #[.val (.ref oa)] [])) _
    refine XS.aloadN X0.here hx rfl (hb hby d8_0) rfl rfl ?_
    show Steps p.tables e below (s₁.setTop (mkF m 1 #[.val (.ref oa)] [(.ref oa)])) _
    refine st1 _ ?_
    show Steps p.tables e below (T1.setTop (mkF m 4 #[.val (.ref oa)] [(.int va)])) _
    exact retI X1 hx Bd.returns (hb hby d8_4) hr
  · exact ⟨rfl, N0, e1⟩
theorem d9_0 : decode prog_13_method_6_code 0 = .ok (.aload_n 0, 1) := by decide +kernel
theorem d9_1 : decode prog_13_method_6_code 1 = .ok (.getfield 16, 3) := by decide +kernel
theorem d9_4 : decode prog_13_method_6_code 4 = .ok (.areturn, 1) := by decide +kernel
theorem pn_9 : plainName "com/example/tinsel_tally/tinseltally/model/OrderLine" = true := by first | (simp [plainName, overriddenIn]; done) | decide +kernel
theorem ef_9 (m : MethodId) (x0 : Addr) : entryFrame m #[(.ref x0)] 1 = mkF m 0 #[.val (.ref x0)] [] := by first | (simp [entryFrame, mkF, argsToLocals, Value.category]; done) | rfl
set_option maxRecDepth 65536 in
set_option maxHeartbeats 40000000 in
theorem rm9_0 (l : Launch) (Z : State) (a0 : Array Value) (hw : ∀ d ∈ tables_1, d.before a0 Z = true) (ws : List Jvm.Cond) (w_MUSHROOM_SOUP w_CAESAR_SALAD w_ICE_CREAM w_BARBECUE_RIBS w_TAPAS w_CHRISTMAS_PASTA w_CHAMPAGNE w_T_BONE_STEAK w_ZERO_COLA w_CHOCOLATE_CAKE w_RED_WINE w_SEAFOOD_PASTA : Addr) (oa : Addr) (va : Addr) (h0 : Heap) (n0 : Nat) (Z0 : n0 ≤ h0.size) (C : Ctx Z h0 w_MUSHROOM_SOUP w_CAESAR_SALAD w_ICE_CREAM w_BARBECUE_RIBS w_TAPAS w_CHRISTMAS_PASTA w_CHAMPAGNE w_T_BONE_STEAK w_ZERO_COLA w_CHOCOLATE_CAKE w_RED_WINE w_SEAFOOD_PASTA) (Fa : Fld Z h0 oa "com/example/tinsel_tally/tinseltally/model/OrderLine" "dish" "Lcom/example/tinsel_tally/tinseltally/model/Dish;" (.ref va)) :
    MetFree l (⟨"com/example/tinsel_tally/tinseltally/model/OrderLine", "dish", "()Lcom/example/tinsel_tally/tinseltally/model/Dish;"⟩ : MethodName) (head1 (Jvm.Cond.code (⟨"com/example/tinsel_tally/tinseltally/model/OrderLine", "dish", "()Lcom/example/tinsel_tally/tinseltally/model/Dish;"⟩ : MethodName) prog_13_method_6_code 1 (some (.object "com/example/tinsel_tally/tinseltally/model/Dish")) :: ws) ({ frames := 0, cells := 0, slots := 0, locals := 0 } : Room)) (fun a U => a = #[(.ref oa)] ∧ Z.Warmed39 U.vm ∧ U.heap = h0) (fun _ _ _ _ _ => True) (fun _ U o U' => ∃ v L, o = .returned v ∧ QR h0 n0 (some (.ref va)) v U'.heap L ∧ FrameEnd U o U' L ({ frames := 0, cells := 0, slots := 0, locals := 0 } : Room).cells ({ frames := 0, cells := 0, slots := 0, locals := 0 } : Room).slots) := by
  refine MetFree.of_bodySF (plainFor_of_name pn_9) hisR ?_
  intro p e s m args below meth c s₁ Bd hml0 hP hK
  obtain ⟨rfl, hZ, hh⟩ := hP
  have hx := Bd.exec
  have hby := Bd.bytes
  have hml : c.maxLocals = 1 := hml0
  have hown : s.vm.findClass "com/example/tinsel_tally/tinseltally/model/OrderLine" = some m.cls := findClass_of_methodNamed Bd.named
  have hnm := (name_of_methodNamed Bd.named Bd.method).1
  have X0 : Stand p l e ({ frames := 0, cells := 0, slots := 0, locals := 0 } : Room) s m #[(.ref oa)] below meth c s₁ [] 0 0 := Stand.of_body Bd
  have e0 : s₁.heap = h0 := by rw [← hh, Bd.state]; rfl
  have N0 := Fr.nil n0
  have pre0 : ∀ t, Steps p.tables e below (s₁.setTop (mkF m 0 #[.val (.ref oa)] [])) t → Steps p.tables e below (s₁.setTop (entryFrame m #[(.ref oa)] 1)) t := fun t k => castTop (ef_9 m oa) k
  obtain ⟨T1, X1, e1, st1⟩ := getF X0 hx hZ hown (host := "") (Or.inl (hw _ (List.mem_of_getElem? (i := 25) rfl))) Via.refl e0 Fa (g := (mkF m 1 #[.val (.ref oa)] [(.ref oa)])) rfl rfl (hb hby d9_1)
  obtain ⟨fs, hr, hrun, hended, hW, hsame⟩ := X1.leave (v := (some (.ref va))) (fun h => by rw [Bd.returns] at h; cases h)
  refine ⟨_, _, pre0 _ ?_, hrun, hended, _, _, rfl, ?_, ⟨_, rfl⟩, hW, hsame.mono (by decide) (by decide)⟩
  · show Steps p.tables e below (s₁.setTop (mkF m 0 #[.val (.ref oa)] [])) _
    refine XS.aloadN X0.here hx rfl (hb hby d9_0) rfl rfl ?_
    show Steps p.tables e below (s₁.setTop (mkF m 1 #[.val (.ref oa)] [(.ref oa)])) _
    refine st1 _ ?_
    show Steps p.tables e below (T1.setTop (mkF m 4 #[.val (.ref oa)] [(.ref va)])) _
    jvm_step X1.here [X1.here.top, hx, (hb hby d9_4), X1.method', Bd.returns, Value.isRef, FieldType.isReference]
    first | (intro acts; rw [hr _ acts rfl rfl rfl]) | rw [hr _ _ rfl rfl rfl]
    exact Steps.refl _
  · exact ⟨rfl, N0, e1⟩
theorem d6_0 : decode prog_13_method_2_code 0 = .ok (.aload_n 0, 1) := by decide +kernel
theorem d6_1 : decode prog_13_method_2_code 1 = .ok (.getfield 16, 3) := by decide +kernel
theorem d6_4 : decode prog_13_method_2_code 4 = .ok (.invokevirtual 26, 3) := by decide +kernel
theorem d6_7 : decode prog_13_method_2_code 7 = .ok (.aload_n 0, 1) := by decide +kernel
theorem d6_8 : decode prog_13_method_2_code 8 = .ok (.getfield 22, 3) := by decide +kernel
theorem d6_11 : decode prog_13_method_2_code 11 = .ok (.imul, 1) := by decide +kernel
theorem d6_12 : decode prog_13_method_2_code 12 = .ok (.ireturn, 1) := by decide +kernel
theorem pn_6 : plainName "com/example/tinsel_tally/tinseltally/model/OrderLine" = true := by first | (simp [plainName, overriddenIn]; done) | decide +kernel
theorem ef_6 (m : MethodId) (x0 : Addr) : entryFrame m #[(.ref x0)] 1 = mkF m 0 #[.val (.ref x0)] [] := by first | (simp [entryFrame, mkF, argsToLocals, Value.category]; done) | rfl
theorem pd_0 : parseMethodDescriptor "()I" = some ⟨[], some .int⟩ := by decide +kernel
set_option maxRecDepth 65536 in
set_option maxHeartbeats 40000000 in
theorem rm6_0 (l : Launch) (Z : State) (a0 : Array Value) (hw : ∀ d ∈ tables_1, d.before a0 Z = true) (ws : List Jvm.Cond) (w_MUSHROOM_SOUP w_CAESAR_SALAD w_ICE_CREAM w_BARBECUE_RIBS w_TAPAS w_CHRISTMAS_PASTA w_CHAMPAGNE w_T_BONE_STEAK w_ZERO_COLA w_CHOCOLATE_CAKE w_RED_WINE w_SEAFOOD_PASTA : Addr) (oa : Addr) (wd : Addr) (uu : Int32) (ct : Int32) (h0 : Heap) (n0 : Nat) (Z0 : n0 ≤ h0.size) (C : Ctx Z h0 w_MUSHROOM_SOUP w_CAESAR_SALAD w_ICE_CREAM w_BARBECUE_RIBS w_TAPAS w_CHRISTMAS_PASTA w_CHAMPAGNE w_T_BONE_STEAK w_ZERO_COLA w_CHOCOLATE_CAKE w_RED_WINE w_SEAFOOD_PASTA) (Fd : Fld Z h0 oa "com/example/tinsel_tally/tinseltally/model/OrderLine" "dish" "Lcom/example/tinsel_tally/tinseltally/model/Dish;" (.ref wd)) (Fc : Fld Z h0 oa "com/example/tinsel_tally/tinseltally/model/OrderLine" "count" "I" (.int ct)) (Ew : Exa Z h0 wd "com/example/tinsel_tally/tinseltally/model/Dish") (Fw : Fld Z h0 wd "com/example/tinsel_tally/tinseltally/model/Dish" "price" "I" (.int uu)) :
    MetFree l (⟨"com/example/tinsel_tally/tinseltally/model/OrderLine", "price", "()I"⟩ : MethodName) (head1 (Jvm.Cond.code (⟨"com/example/tinsel_tally/tinseltally/model/OrderLine", "price", "()I"⟩ : MethodName) prog_13_method_2_code 1 (some .int) :: ws) ({ frames := 1, cells := 0, slots := 0, locals := 12 } : Room)) (fun a U => a = #[(.ref oa)] ∧ Z.Warmed39 U.vm ∧ U.heap = h0) (fun _ _ _ _ _ => True) (fun _ U o U' => ∃ v L, o = .returned v ∧ QR h0 n0 (some (.int (uu * ct))) v U'.heap L ∧ FrameEnd U o U' L ({ frames := 1, cells := 0, slots := 0, locals := 12 } : Room).cells ({ frames := 1, cells := 0, slots := 0, locals := 12 } : Room).slots) := by
  refine MetFree.of_bodySF (plainFor_of_name pn_6) hisR ?_
  intro p e s m args below meth c s₁ Bd hml0 hP hK
  obtain ⟨rfl, hZ, hh⟩ := hP
  have hx := Bd.exec
  have hby := Bd.bytes
  have hml : c.maxLocals = 1 := hml0
  have hown : s.vm.findClass "com/example/tinsel_tally/tinseltally/model/OrderLine" = some m.cls := findClass_of_methodNamed Bd.named
  have hnm := (name_of_methodNamed Bd.named Bd.method).1
  have X0 : Stand p l e ({ frames := 1, cells := 0, slots := 0, locals := 12 } : Room) s m #[(.ref oa)] below meth c s₁ [] 0 0 := Stand.of_body Bd
  have e0 : s₁.heap = h0 := by rw [← hh, Bd.state]; rfl
  have N0 := Fr.nil n0
  have pre0 : ∀ t, Steps p.tables e below (s₁.setTop (mkF m 0 #[.val (.ref oa)] [])) t → Steps p.tables e below (s₁.setTop (entryFrame m #[(.ref oa)] 1)) t := fun t k => castTop (ef_6 m oa) k
  obtain ⟨T1, X1, e1, st1⟩ := getF X0 hx hZ hown (host := "") (Or.inl (hw _ (List.mem_of_getElem? (i := 25) rfl))) Via.refl e0 Fd (g := (mkF m 1 #[.val (.ref oa)] [(.ref oa)])) rfl rfl (hb hby d6_1)
  obtain ⟨cq2, kq2, q2a, q2b, q2c⟩ := isOf hZ e1 Ew
  obtain ⟨_, _, ⟨T2, L2, k2, n2⟩, -, X2, ⟨Lc2, hQ2, l2, y2, z2⟩, st2⟩ := X1.virtualBack hx (y := (⟨"com/example/tinsel_tally/tinseltally/model/Dish", "price", "()I"⟩ : MethodName)) (z := (⟨"com/example/tinsel_tally/tinseltally/model/Dish", "price", "()I"⟩ : MethodName)) hown (mvT hZ (hw _ (List.mem_of_getElem? (i := 34) rfl))) (mvT hZ (hw _ (List.mem_of_getElem? (i := 35) rfl))) (notFace_of_selects (args := #[]) (mvT hZ (hw _ (List.mem_of_getElem? (i := 37) rfl)))) (mvT hZ (hw _ (List.mem_of_getElem? (i := 37) rfl))) (mvT hZ (hw _ (List.mem_of_getElem? (i := 36) rfl))) (by decide) (backOf (W := 0) (rm7_0 l Z a0 hw [] w_MUSHROOM_SOUP w_CAESAR_SALAD w_ICE_CREAM w_BARBECUE_RIBS w_TAPAS w_CHRISTMAS_PASTA w_CHAMPAGNE w_T_BONE_STEAK w_ZERO_COLA w_CHOCOLATE_CAKE w_RED_WINE w_SEAFOOD_PASTA wd uu h0 n0 Z0 C Fw) hZ (hw _ (List.mem_of_getElem? (i := 38) rfl)) (hw _ (List.mem_of_getElem? (i := 6) rfl)) (by decide) (by decide)) q2a q2c (g := (mkF m 4 #[.val (.ref oa)] [(.ref wd)])) rfl (by rw [hml]; rfl) (Steps.refl _) (argsL := []) (rest := []) (lenOf pd_0 rfl) rfl (by show 2 * 0 + _ ≤ _; exact Nat.le_of_eq rfl) (hb hby d6_4) (fun _ _ => ⟨rfl, e1, (by decide : 0 + 0 ≤ _), (by decide : 0 + 0 ≤ _)⟩)
  dsimp only [Pt.U, Pt.locs, Pt.cells, Pt.slots] at X2 l2 y2 z2 st2 hQ2
  subst l2 y2 z2
  obtain ⟨rfl, N2q, e2⟩ := hQ2
  have N2 := Fr.app N0 N2q
  obtain ⟨T3, X3, e3, st3⟩ := getF X2 hx hZ hown (host := "") (Or.inl (hw _ (List.mem_of_getElem? (i := 27) rfl))) Via.refl e2 Fc (g := (mkF m 8 #[.val (.ref oa)] [(.ref oa), (.int uu)])) rfl rfl (hb hby d6_8)
  obtain ⟨fs, hr, hrun, hended, hW, hsame⟩ := X3.leave (v := (some (.int (uu * ct)))) (fun h => by rw [Bd.returns] at h; cases h)
  refine ⟨_, _, pre0 _ ?_, hrun, hended, _, _, rfl, ?_, ⟨_, rfl⟩, hW, hsame.mono (by decide) (by decide)⟩
  · show Steps p.tables e below (s₁.setTop (mkF m 0 #[.val (.ref oa)] [])) _
    refine XS.aloadN X0.here hx rfl (hb hby d6_0) rfl rfl ?_
    show Steps p.tables e below (s₁.setTop (mkF m 1 #[.val (.ref oa)] [(.ref oa)])) _
    refine st1 _ ?_
    show Steps p.tables e below (T1.setTop (mkF m 4 #[.val (.ref oa)] [(.ref wd)])) _
    refine st2.trans ?_
    show Steps p.tables e below (T2.setTop (mkF m 7 #[.val (.ref oa)] [(.int uu)])) _
    refine XS.aloadN X2.here hx rfl (hb hby d6_7) rfl rfl ?_
    show Steps p.tables e below (T2.setTop (mkF m 8 #[.val (.ref oa)] [(.ref oa), (.int uu)])) _
    refine st3 _ ?_
    show Steps p.tables e below (T3.setTop (mkF m 11 #[.val (.ref oa)] [(.int ct), (.int uu)])) _
    refine XS.imul X3.here hx rfl (hb hby d6_11) rfl ?_
    show Steps p.tables e below (T3.setTop (mkF m 12 #[.val (.ref oa)] [(.int (uu * ct))])) _
    exact retI X3 hx Bd.returns (hb hby d6_12) hr
  · exact ⟨rfl, N2, e3⟩
theorem pn_0 : plainName "com/example/tinsel_tally/tinseltally/model/OrderLinePricePinLaw" = true := by first | (simp [plainName, overriddenIn]; done) | decide +kernel
theorem ef_0 (m : MethodId) (x0 : Int32) (x1 : Int32) : entryFrame m #[(.int x0), (.int x1)] maxLocals = mkF m 0 #[.val (.int x0), .val (.int x1), .unset, .unset, .unset, .unset, .unset, .unset, .unset, .unset, .unset] [] := by first | (simp [entryFrame, mkF, argsToLocals, Value.category, maxLocals]; done) | rfl
theorem pd_1 : parseMethodDescriptor "(I)Lcom/example/tinsel_tally/tinseltally/model/Dish;" = some ⟨[.int], some (.object "com/example/tinsel_tally/tinseltally/model/Dish")⟩ := by decide +kernel
theorem pd_2 : parseMethodDescriptor "(I)I" = some ⟨[.int], some .int⟩ := by decide +kernel
theorem pd_3 : parseMethodDescriptor "(Lcom/example/tinsel_tally/tinseltally/model/Dish;I)V" = some ⟨[(.object "com/example/tinsel_tally/tinseltally/model/Dish"), .int], none⟩ := by decide +kernel
theorem pd_4 : parseMethodDescriptor "()Lcom/example/tinsel_tally/tinseltally/model/Dish;" = some ⟨[], some (.object "com/example/tinsel_tally/tinseltally/model/Dish")⟩ := by decide +kernel
set_option maxRecDepth 65536 in
set_option maxHeartbeats 40000000 in
theorem rm0_0 (l : Launch) (Z : State) (a0 : Array Value) (hw : ∀ d ∈ tables_1, d.before a0 Z = true) (ws : List Jvm.Cond) (w_MUSHROOM_SOUP w_CAESAR_SALAD w_ICE_CREAM w_BARBECUE_RIBS w_TAPAS w_CHRISTMAS_PASTA w_CHAMPAGNE w_T_BONE_STEAK w_ZERO_COLA w_CHOCOLATE_CAKE w_RED_WINE w_SEAFOOD_PASTA : Addr) (i0 : Int32) (i1 : Int32) (ka : Int32) (wd : Addr) (uu : Int32) (ct : Int32) (h0 : Heap) (n0 : Nat) (Z0 : n0 ≤ h0.size) (C : Ctx Z h0 w_MUSHROOM_SOUP w_CAESAR_SALAD w_ICE_CREAM w_BARBECUE_RIBS w_TAPAS w_CHRISTMAS_PASTA w_CHAMPAGNE w_T_BONE_STEAK w_ZERO_COLA w_CHOCOLATE_CAKE w_RED_WINE w_SEAFOOD_PASTA) (hv0 : ((i0 &&& (2147483647 : Int32)) % (12 : Int32)) = ka) (PA : DishM l Z h0 n0 ka wd) (PB : UnitM l Z h0 n0 ka uu) (E_wd : Exa Z h0 wd "com/example/tinsel_tally/tinseltally/model/Dish") (F_wd : Fld Z h0 wd "com/example/tinsel_tally/tinseltally/model/Dish" "price" "I" (.int uu)) (nU : uu ≠ 0) (nD : (2147483647 : Int32) / uu ≠ 0) (hct : ((1 : Int32) + ((i1 &&& (2147483647 : Int32)) % ((2147483647 : Int32) / uu))) = ct) (c1 : ¬ (ct < (1 : Int32))) (cm : (lcmpW ((uu * ct).toInt64) ((uu.toInt64) * (ct.toInt64))) = (0 : Int32)) :
    MetFree l x (head1 (Jvm.Cond.code x code maxLocals ret :: ws) room_1) (fun a U => a = #[(.int i0), (.int i1)] ∧ Z.Warmed39 U.vm ∧ U.heap = h0) (fun _ _ _ _ _ => True) (fun _ U o U' => ∃ v L, o = .returned v ∧ QL n0 (some (.int (1 : Int32))) v L ∧ FrameEnd U o U' L room_1.cells room_1.slots) := by
  refine MetFree.of_bodySF (plainFor_of_name pn_0) hisR ?_
  intro p e s m args below meth c s₁ Bd hml0 hP hK
  obtain ⟨rfl, hZ, hh⟩ := hP
  have hx := Bd.exec
  have hby := Bd.bytes
  have hml : c.maxLocals = 11 := hml0
  have hown : s.vm.findClass "com/example/tinsel_tally/tinseltally/model/OrderLinePricePinLaw" = some m.cls := findClass_of_methodNamed Bd.named
  have hnm := (name_of_methodNamed Bd.named Bd.method).1
  have X0 : Stand p l e room_1 s m #[(.int i0), (.int i1)] below meth c s₁ [] 0 0 := Stand.of_body Bd
  have e0 : s₁.heap = h0 := by rw [← hh, Bd.state]; rfl
  have N0 := Fr.nil n0
  have pre0 : ∀ t, Steps p.tables e below (s₁.setTop (mkF m 0 #[.val (.int i0), .val (.int i1), .unset, .unset, .unset, .unset, .unset, .unset, .unset, .unset, .unset] [])) t → Steps p.tables e below (s₁.setTop (entryFrame m #[(.int i0), (.int i1)] maxLocals)) t := fun t k => castTop (ef_0 m i0 i1) k
  obtain ⟨_, _, ⟨T1, L1, k1, n1⟩, -, X1, ⟨Lc1, hQ1, l1, y1, z1⟩, st1⟩ := Jvm.LawKit.callS X0 hx (y := (⟨"com/example/tinsel_tally/tinseltally/model/OrderLinePricePinLaw", "dishOf", "(I)Lcom/example/tinsel_tally/tinseltally/model/Dish;"⟩ : MethodName)) hown (mvT hZ (hw _ (List.mem_of_getElem? (i := 1) rfl))) (mvT hZ (hw _ (List.mem_of_getElem? (i := 2) rfl))) (mvT hZ (hw _ (List.mem_of_getElem? (i := 3) rfl))) (mvT hZ (hw _ (List.mem_of_getElem? (i := 4) rfl))) (by decide) (backOf (W := 0) (PA) hZ (hw _ (List.mem_of_getElem? (i := 4) rfl)) (hw _ (List.mem_of_getElem? (i := 3) rfl)) (by decide) (by decide)) (g := (mkF m 9 #[.val (.int i0), .val (.int i1), .val (.int ka), .unset, .unset, .unset, .unset, .unset, .unset, .unset, .unset] [(.int ka)])) rfl (by rw [hml]; rfl) (argsL := [(.int ka)]) (rest := []) (lenOf pd_1 rfl) rfl (by show 2 * 0 + _ ≤ _; exact Nat.le_of_eq rfl) (hb hby at_9) (fun _ _ => ⟨rfl, e0, (by decide : 0 + 0 ≤ _), (by decide : 0 + 0 ≤ _)⟩)
  dsimp only [Pt.U, Pt.locs, Pt.cells, Pt.slots] at X1 l1 y1 z1 st1 hQ1
  subst l1 y1 z1
  obtain ⟨rfl, N1q, e1⟩ := hQ1
  have N1 := Fr.app N0 N1q
  obtain ⟨_, _, ⟨T2, L2, k2, n2⟩, -, X2, ⟨Lc2, hQ2, l2, y2, z2⟩, st2⟩ := Jvm.LawKit.callS X1 hx (y := (⟨"com/example/tinsel_tally/tinseltally/model/OrderLinePricePinLaw", "unitOf", "(I)I"⟩ : MethodName)) hown (mvT hZ (hw _ (List.mem_of_getElem? (i := 8) rfl))) (mvT hZ (hw _ (List.mem_of_getElem? (i := 9) rfl))) (mvT hZ (hw _ (List.mem_of_getElem? (i := 3) rfl))) (mvT hZ (hw _ (List.mem_of_getElem? (i := 10) rfl))) (by decide) (backOf (W := 0) (PB) hZ (hw _ (List.mem_of_getElem? (i := 10) rfl)) (hw _ (List.mem_of_getElem? (i := 3) rfl)) (by decide) (by decide)) (g := (mkF m 14 #[.val (.int i0), .val (.int i1), .val (.int ka), .val (.ref wd), .unset, .unset, .unset, .unset, .unset, .unset, .unset] [(.int ka)])) rfl (by rw [hml]; rfl) (argsL := [(.int ka)]) (rest := []) (lenOf pd_2 rfl) rfl (by show 2 * 0 + _ ≤ _; exact Nat.le_of_eq rfl) (hb hby at_14) (fun _ _ => ⟨rfl, e1, (by decide : 0 + 0 ≤ _), (by decide : 0 + 0 ≤ _)⟩)
  dsimp only [Pt.U, Pt.locs, Pt.cells, Pt.slots] at X2 l2 y2 z2 st2 hQ2
  subst l2 y2 z2
  obtain ⟨rfl, N2q, e2⟩ := hQ2
  have N2 := Fr.app N1 N2q
  obtain ⟨T3, h3, X3, e3, E3, A3, D3, -, st3⟩ := newO X2 hx hZ hown (hw _ (List.mem_of_getElem? (i := 11) rfl)) (hw _ (List.mem_of_getElem? (i := 12) rfl)) (hw _ (List.mem_of_getElem? (i := 13) rfl)) e2 (g := (mkF m 33 #[.val (.int i0), .val (.int i1), .val (.int ka), .val (.ref wd), .val (.int uu), .val (.int ct), .unset, .unset, .unset, .unset, .unset] [])) rfl (hb hby at_33) (by decide) (by decide)
  obtain ⟨b3, g3⟩ : ∃ z, z = h0.size := ⟨_, rfl⟩
  rw [← g3] at A3 D3 st3
  have sz_b3 : h0.size ≤ b3 := Nat.le_of_eq g3.symm
  have gn_b3 : n0 ≤ b3 := Nat.le_trans Z0 sz_b3
  have ne_wd_b3 : wd ≠ b3 := Nat.ne_of_lt (Nat.lt_of_lt_of_le E_wd.lt (Nat.le_of_eq g3.symm))
  have F0_b3_dish : Fld Z h3 b3 "com/example/tinsel_tally/tinseltally/model/OrderLine" "dish" "Lcom/example/tinsel_tally/tinseltally/model/Dish;" .null := D3 (Or.inr (hw _ (List.mem_of_getElem? (i := 26) rfl))) (ty := (.object "com/example/tinsel_tally/tinseltally/model/Dish")) (by decide)
  have F0_b3_count : Fld Z h3 b3 "com/example/tinsel_tally/tinseltally/model/OrderLine" "count" "I" (.int (0 : Int32)) := D3 (Or.inr (hw _ (List.mem_of_getElem? (i := 28) rfl))) (ty := .int) (by decide)
  obtain ⟨_, _, ⟨T4, L4, k4, n4⟩, -, X4, ⟨Lc4, hQ4, l4, y4, z4⟩, st4⟩ := X3.specialBack hx (y := (⟨"com/example/tinsel_tally/tinseltally/model/OrderLine", "<init>", "(Lcom/example/tinsel_tally/tinseltally/model/Dish;I)V"⟩ : MethodName)) rfl hown (mvT hZ (hw _ (List.mem_of_getElem? (i := 14) rfl))) (mvT hZ (hw _ (List.mem_of_getElem? (i := 15) rfl))) (mvT hZ (hw _ (List.mem_of_getElem? (i := 16) rfl))) (by decide) (backOf (W := 1) (rm3 l Z a0 hw [] b3 wd ct .null (.int (0 : Int32)) h3 n0 (Nat.le_trans Z0 E3.1) A3 F0_b3_dish gn_b3 F0_b3_count c1) hZ (hw _ (List.mem_of_getElem? (i := 16) rfl)) (hw _ (List.mem_of_getElem? (i := 13) rfl)) (by decide) (by decide)) (g := (mkF m 40 #[.val (.int i0), .val (.int i1), .val (.int ka), .val (.ref wd), .val (.int uu), .val (.int ct), .unset, .unset, .unset, .unset, .unset] [(.int ct), (.ref wd), (.ref b3), (.ref b3)])) rfl (by rw [hml]; rfl) (Steps.refl _) (a := b3) (argsL := [(.ref wd), (.int ct)]) (rest := [(.ref b3)]) (lenOf pd_3 rfl) rfl (by show 2 * 0 + _ ≤ _; exact Nat.le_of_eq rfl) (hb hby at_40) (fun _ _ => ⟨rfl, e3, (by decide : 1 + 0 ≤ _), (by decide : 2 + 0 ≤ _)⟩)
  dsimp only [Pt.U, Pt.locs, Pt.cells, Pt.slots] at X4 l4 y4 z4 st4 hQ4
  subst l4 y4 z4
  obtain ⟨rfl, N4q, K4, Ec4, Fd4, Fc4⟩ := hQ4
  have N4 := Fr.app N2 N4q
  obtain ⟨cq5, kq5, q5a, q5b, q5c⟩ := isOf hZ rfl Ec4
  obtain ⟨_, _, ⟨T5, L5, k5, n5⟩, -, X5, ⟨Lc5, hQ5, l5, y5, z5⟩, st5⟩ := X4.virtualBack hx (y := (⟨"com/example/tinsel_tally/tinseltally/model/OrderLine", "price", "()I"⟩ : MethodName)) (z := (⟨"com/example/tinsel_tally/tinseltally/model/OrderLine", "price", "()I"⟩ : MethodName)) hown (mvT hZ (hw _ (List.mem_of_getElem? (i := 29) rfl))) (mvT hZ (hw _ (List.mem_of_getElem? (i := 30) rfl))) (notFace_of_selects (args := #[]) (mvT hZ (hw _ (List.mem_of_getElem? (i := 32) rfl)))) (mvT hZ (hw _ (List.mem_of_getElem? (i := 32) rfl))) (mvT hZ (hw _ (List.mem_of_getElem? (i := 31) rfl))) (by decide) (backOf (W := 0) (rm6_0 l Z a0 hw [] w_MUSHROOM_SOUP w_CAESAR_SALAD w_ICE_CREAM w_BARBECUE_RIBS w_TAPAS w_CHRISTMAS_PASTA w_CHAMPAGNE w_T_BONE_STEAK w_ZERO_COLA w_CHOCOLATE_CAKE w_RED_WINE w_SEAFOOD_PASTA b3 wd uu ct T4.heap n0 (Nat.le_trans Z0 (own_xk E3 K4 (allS sz_b3 all0)).1) (own_cx (own_xk E3 K4 (allS sz_b3 all0)) C) Fd4 Fc4 ((E_wd.ext E3).keep K4) ((F_wd.ext E3).keep K4 (ninS ne_wd_b3 nin0))) hZ (hw _ (List.mem_of_getElem? (i := 33) rfl)) (hw _ (List.mem_of_getElem? (i := 13) rfl)) (by decide) (by decide)) q5a q5c (g := (mkF m 56 #[.val (.int i0), .val (.int i1), .val (.int ka), .val (.ref wd), .val (.int uu), .val (.int ct), .val (.ref b3), .val (.long ((uu.toInt64) * (ct.toInt64))), .second, .unset, .unset] [(.ref b3)])) rfl (by rw [hml]; rfl) (Steps.refl _) (argsL := []) (rest := []) (lenOf pd_0 rfl) rfl (by show 2 * 0 + _ ≤ _; exact Nat.le_of_eq rfl) (hb hby at_56) (fun _ _ => ⟨rfl, rfl, (by decide : 1 + 0 ≤ _), (by decide : 2 + 0 ≤ _)⟩)
  dsimp only [Pt.U, Pt.locs, Pt.cells, Pt.slots] at X5 l5 y5 z5 st5 hQ5
  subst l5 y5 z5
  obtain ⟨rfl, N5q, e5⟩ := hQ5
  have N5 := Fr.app N4 N5q
  obtain ⟨cq6, kq6, q6a, q6b, q6c⟩ := isOf hZ e5 Ec4
  obtain ⟨_, _, ⟨T6, L6, k6, n6⟩, -, X6, ⟨Lc6, hQ6, l6, y6, z6⟩, st6⟩ := X5.virtualBack hx (y := (⟨"com/example/tinsel_tally/tinseltally/model/OrderLine", "count", "()I"⟩ : MethodName)) (z := (⟨"com/example/tinsel_tally/tinseltally/model/OrderLine", "count", "()I"⟩ : MethodName)) hown (mvT hZ (hw _ (List.mem_of_getElem? (i := 41) rfl))) (mvT hZ (hw _ (List.mem_of_getElem? (i := 42) rfl))) (notFace_of_selects (args := #[]) (mvT hZ (hw _ (List.mem_of_getElem? (i := 44) rfl)))) (mvT hZ (hw _ (List.mem_of_getElem? (i := 44) rfl))) (mvT hZ (hw _ (List.mem_of_getElem? (i := 43) rfl))) (by decide) (backOf (W := 0) (rm8_0 l Z a0 hw [] w_MUSHROOM_SOUP w_CAESAR_SALAD w_ICE_CREAM w_BARBECUE_RIBS w_TAPAS w_CHRISTMAS_PASTA w_CHAMPAGNE w_T_BONE_STEAK w_ZERO_COLA w_CHOCOLATE_CAKE w_RED_WINE w_SEAFOOD_PASTA b3 ct T4.heap n0 (Nat.le_trans Z0 (own_xk E3 K4 (allS sz_b3 all0)).1) (own_cx (own_xk E3 K4 (allS sz_b3 all0)) C) Fc4) hZ (hw _ (List.mem_of_getElem? (i := 45) rfl)) (hw _ (List.mem_of_getElem? (i := 13) rfl)) (by decide) (by decide)) q6a q6c (g := (mkF m 72 #[.val (.int i0), .val (.int i1), .val (.int ka), .val (.ref wd), .val (.int uu), .val (.int ct), .val (.ref b3), .val (.long ((uu.toInt64) * (ct.toInt64))), .second, .val (.long ((uu * ct).toInt64)), .second] [(.ref b3)])) rfl (by rw [hml]; rfl) (Steps.refl _) (argsL := []) (rest := []) (lenOf pd_0 rfl) rfl (by show 2 * 0 + _ ≤ _; exact Nat.le_of_eq rfl) (hb hby at_72) (fun _ _ => ⟨rfl, e5, (by decide : 1 + 0 ≤ _), (by decide : 2 + 0 ≤ _)⟩)
  dsimp only [Pt.U, Pt.locs, Pt.cells, Pt.slots] at X6 l6 y6 z6 st6 hQ6
  subst l6 y6 z6
  obtain ⟨rfl, N6q, e6⟩ := hQ6
  have N6 := Fr.app N5 N6q
  obtain ⟨cq7, kq7, q7a, q7b, q7c⟩ := isOf hZ e6 Ec4
  obtain ⟨_, _, ⟨T7, L7, k7, n7⟩, -, X7, ⟨Lc7, hQ7, l7, y7, z7⟩, st7⟩ := X6.virtualBack hx (y := (⟨"com/example/tinsel_tally/tinseltally/model/OrderLine", "dish", "()Lcom/example/tinsel_tally/tinseltally/model/Dish;"⟩ : MethodName)) (z := (⟨"com/example/tinsel_tally/tinseltally/model/OrderLine", "dish", "()Lcom/example/tinsel_tally/tinseltally/model/Dish;"⟩ : MethodName)) hown (mvT hZ (hw _ (List.mem_of_getElem? (i := 46) rfl))) (mvT hZ (hw _ (List.mem_of_getElem? (i := 47) rfl))) (notFace_of_selects (args := #[]) (mvT hZ (hw _ (List.mem_of_getElem? (i := 49) rfl)))) (mvT hZ (hw _ (List.mem_of_getElem? (i := 49) rfl))) (mvT hZ (hw _ (List.mem_of_getElem? (i := 48) rfl))) (by decide) (backOf (W := 0) (rm9_0 l Z a0 hw [] w_MUSHROOM_SOUP w_CAESAR_SALAD w_ICE_CREAM w_BARBECUE_RIBS w_TAPAS w_CHRISTMAS_PASTA w_CHAMPAGNE w_T_BONE_STEAK w_ZERO_COLA w_CHOCOLATE_CAKE w_RED_WINE w_SEAFOOD_PASTA b3 wd T4.heap n0 (Nat.le_trans Z0 (own_xk E3 K4 (allS sz_b3 all0)).1) (own_cx (own_xk E3 K4 (allS sz_b3 all0)) C) Fd4) hZ (hw _ (List.mem_of_getElem? (i := 50) rfl)) (hw _ (List.mem_of_getElem? (i := 13) rfl)) (by decide) (by decide)) q7a q7c (g := (mkF m 82 #[.val (.int i0), .val (.int i1), .val (.int ka), .val (.ref wd), .val (.int uu), .val (.int ct), .val (.ref b3), .val (.long ((uu.toInt64) * (ct.toInt64))), .second, .val (.long ((uu * ct).toInt64)), .second] [(.ref b3)])) rfl (by rw [hml]; rfl) (Steps.refl _) (argsL := []) (rest := []) (lenOf pd_4 rfl) rfl (by show 2 * 0 + _ ≤ _; exact Nat.le_of_eq rfl) (hb hby at_82) (fun _ _ => ⟨rfl, e6, (by decide : 1 + 0 ≤ _), (by decide : 2 + 0 ≤ _)⟩)
  dsimp only [Pt.U, Pt.locs, Pt.cells, Pt.slots] at X7 l7 y7 z7 st7 hQ7
  subst l7 y7 z7
  obtain ⟨rfl, N7q, e7⟩ := hQ7
  have N7 := Fr.app N6 N7q
  obtain ⟨fs, hr, hrun, hended, hW, hsame⟩ := X7.leave (v := (some (.int (1 : Int32)))) (fun h => by rw [Bd.returns] at h; cases h)
  refine ⟨_, _, pre0 _ ?_, hrun, hended, _, _, rfl, ?_, ⟨_, rfl⟩, hW, hsame.mono (by decide) (by decide)⟩
  · show Steps p.tables e below (s₁.setTop (mkF m 0 #[.val (.int i0), .val (.int i1), .unset, .unset, .unset, .unset, .unset, .unset, .unset, .unset, .unset] [])) _
    refine XS.iloadN X0.here hx rfl (hb hby at_0) rfl ?_
    show Steps p.tables e below (s₁.setTop (mkF m 1 #[.val (.int i0), .val (.int i1), .unset, .unset, .unset, .unset, .unset, .unset, .unset, .unset, .unset] [(.int i0)])) _
    refine X0.ldcInt hx hown (mvT hZ (hw _ (List.mem_of_getElem? (i := 0) rfl))) (g := (mkF m 1 #[.val (.int i0), .val (.int i1), .unset, .unset, .unset, .unset, .unset, .unset, .unset, .unset, .unset] [(.int i0)])) rfl (hb hby at_1) _ ?_
    show Steps p.tables e below (s₁.setTop (mkF m 3 #[.val (.int i0), .val (.int i1), .unset, .unset, .unset, .unset, .unset, .unset, .unset, .unset, .unset] [(.int (2147483647 : Int32)), (.int i0)])) _
    refine XS.iand X0.here hx rfl (hb hby at_3) rfl ?_
    show Steps p.tables e below (s₁.setTop (mkF m 4 #[.val (.int i0), .val (.int i1), .unset, .unset, .unset, .unset, .unset, .unset, .unset, .unset, .unset] [(.int (i0 &&& (2147483647 : Int32)))])) _
    refine XS.bipush X0.here hx rfl (hb hby at_4) ?_
    show Steps p.tables e below (s₁.setTop (mkF m 6 #[.val (.int i0), .val (.int i1), .unset, .unset, .unset, .unset, .unset, .unset, .unset, .unset, .unset] [(.int (12 : Int32)), (.int (i0 &&& (2147483647 : Int32)))])) _
    refine iremM (g := (mkF m 6 #[.val (.int i0), .val (.int i1), .unset, .unset, .unset, .unset, .unset, .unset, .unset, .unset, .unset] [(.int (12 : Int32)), (.int (i0 &&& (2147483647 : Int32)))])) X0 hx rfl (hb hby at_6) rfl (by decide) ?_
    show Steps p.tables e below (s₁.setTop (mkF m 7 #[.val (.int i0), .val (.int i1), .unset, .unset, .unset, .unset, .unset, .unset, .unset, .unset, .unset] [(.int ((i0 &&& (2147483647 : Int32)) % (12 : Int32)))])) _
    rw [hv0]
    show Steps p.tables e below (s₁.setTop (mkF m 7 #[.val (.int i0), .val (.int i1), .unset, .unset, .unset, .unset, .unset, .unset, .unset, .unset, .unset] [(.int ka)])) _
    refine XS.istoreN X0.here hx rfl (hb hby at_7) rfl (l' := #[.val (.int i0), .val (.int i1), .val (.int ka), .unset, .unset, .unset, .unset, .unset, .unset, .unset, .unset]) rfl ?_
    show Steps p.tables e below (s₁.setTop (mkF m 8 #[.val (.int i0), .val (.int i1), .val (.int ka), .unset, .unset, .unset, .unset, .unset, .unset, .unset, .unset] [])) _
    refine XS.iloadN X0.here hx rfl (hb hby at_8) rfl ?_
    show Steps p.tables e below (s₁.setTop (mkF m 9 #[.val (.int i0), .val (.int i1), .val (.int ka), .unset, .unset, .unset, .unset, .unset, .unset, .unset, .unset] [(.int ka)])) _
    refine st1 _ ?_
    show Steps p.tables e below (T1.setTop (mkF m 12 #[.val (.int i0), .val (.int i1), .val (.int ka), .unset, .unset, .unset, .unset, .unset, .unset, .unset, .unset] [(.ref wd)])) _
    refine XS.astoreN X1.here hx rfl (hb hby at_12) rfl rfl (l' := #[.val (.int i0), .val (.int i1), .val (.int ka), .val (.ref wd), .unset, .unset, .unset, .unset, .unset, .unset, .unset]) rfl ?_
    show Steps p.tables e below (T1.setTop (mkF m 13 #[.val (.int i0), .val (.int i1), .val (.int ka), .val (.ref wd), .unset, .unset, .unset, .unset, .unset, .unset, .unset] [])) _
    refine XS.iloadN X1.here hx rfl (hb hby at_13) rfl ?_
    show Steps p.tables e below (T1.setTop (mkF m 14 #[.val (.int i0), .val (.int i1), .val (.int ka), .val (.ref wd), .unset, .unset, .unset, .unset, .unset, .unset, .unset] [(.int ka)])) _
    refine st2 _ ?_
    show Steps p.tables e below (T2.setTop (mkF m 17 #[.val (.int i0), .val (.int i1), .val (.int ka), .val (.ref wd), .unset, .unset, .unset, .unset, .unset, .unset, .unset] [(.int uu)])) _
    refine XS.istore X2.here hx rfl (hb hby at_17) rfl (l' := #[.val (.int i0), .val (.int i1), .val (.int ka), .val (.ref wd), .val (.int uu), .unset, .unset, .unset, .unset, .unset, .unset]) rfl ?_
    show Steps p.tables e below (T2.setTop (mkF m 19 #[.val (.int i0), .val (.int i1), .val (.int ka), .val (.ref wd), .val (.int uu), .unset, .unset, .unset, .unset, .unset, .unset] [])) _
    refine XS.iconst X2.here hx rfl (hb hby at_19) ?_
    show Steps p.tables e below (T2.setTop (mkF m 20 #[.val (.int i0), .val (.int i1), .val (.int ka), .val (.ref wd), .val (.int uu), .unset, .unset, .unset, .unset, .unset, .unset] [(.int (1 : Int32))])) _
    refine XS.iloadN X2.here hx rfl (hb hby at_20) rfl ?_
    show Steps p.tables e below (T2.setTop (mkF m 21 #[.val (.int i0), .val (.int i1), .val (.int ka), .val (.ref wd), .val (.int uu), .unset, .unset, .unset, .unset, .unset, .unset] [(.int i1), (.int (1 : Int32))])) _
    refine X2.ldcInt hx hown (mvT hZ (hw _ (List.mem_of_getElem? (i := 0) rfl))) (g := (mkF m 21 #[.val (.int i0), .val (.int i1), .val (.int ka), .val (.ref wd), .val (.int uu), .unset, .unset, .unset, .unset, .unset, .unset] [(.int i1), (.int (1 : Int32))])) rfl (hb hby at_21) _ ?_
    show Steps p.tables e below (T2.setTop (mkF m 23 #[.val (.int i0), .val (.int i1), .val (.int ka), .val (.ref wd), .val (.int uu), .unset, .unset, .unset, .unset, .unset, .unset] [(.int (2147483647 : Int32)), (.int i1), (.int (1 : Int32))])) _
    refine XS.iand X2.here hx rfl (hb hby at_23) rfl ?_
    show Steps p.tables e below (T2.setTop (mkF m 24 #[.val (.int i0), .val (.int i1), .val (.int ka), .val (.ref wd), .val (.int uu), .unset, .unset, .unset, .unset, .unset, .unset] [(.int (i1 &&& (2147483647 : Int32))), (.int (1 : Int32))])) _
    refine X2.ldcInt hx hown (mvT hZ (hw _ (List.mem_of_getElem? (i := 0) rfl))) (g := (mkF m 24 #[.val (.int i0), .val (.int i1), .val (.int ka), .val (.ref wd), .val (.int uu), .unset, .unset, .unset, .unset, .unset, .unset] [(.int (i1 &&& (2147483647 : Int32))), (.int (1 : Int32))])) rfl (hb hby at_24) _ ?_
    show Steps p.tables e below (T2.setTop (mkF m 26 #[.val (.int i0), .val (.int i1), .val (.int ka), .val (.ref wd), .val (.int uu), .unset, .unset, .unset, .unset, .unset, .unset] [(.int (2147483647 : Int32)), (.int (i1 &&& (2147483647 : Int32))), (.int (1 : Int32))])) _
    refine XS.iload X2.here hx rfl (hb hby at_26) rfl ?_
    show Steps p.tables e below (T2.setTop (mkF m 28 #[.val (.int i0), .val (.int i1), .val (.int ka), .val (.ref wd), .val (.int uu), .unset, .unset, .unset, .unset, .unset, .unset] [(.int uu), (.int (2147483647 : Int32)), (.int (i1 &&& (2147483647 : Int32))), (.int (1 : Int32))])) _
    refine XS.idiv X2.here hx rfl (hb hby at_28) rfl nU ?_
    show Steps p.tables e below (T2.setTop (mkF m 29 #[.val (.int i0), .val (.int i1), .val (.int ka), .val (.ref wd), .val (.int uu), .unset, .unset, .unset, .unset, .unset, .unset] [(.int ((2147483647 : Int32) / uu)), (.int (i1 &&& (2147483647 : Int32))), (.int (1 : Int32))])) _
    refine iremM (g := (mkF m 29 #[.val (.int i0), .val (.int i1), .val (.int ka), .val (.ref wd), .val (.int uu), .unset, .unset, .unset, .unset, .unset, .unset] [(.int ((2147483647 : Int32) / uu)), (.int (i1 &&& (2147483647 : Int32))), (.int (1 : Int32))])) X2 hx rfl (hb hby at_29) rfl nD ?_
    show Steps p.tables e below (T2.setTop (mkF m 30 #[.val (.int i0), .val (.int i1), .val (.int ka), .val (.ref wd), .val (.int uu), .unset, .unset, .unset, .unset, .unset, .unset] [(.int ((i1 &&& (2147483647 : Int32)) % ((2147483647 : Int32) / uu))), (.int (1 : Int32))])) _
    refine XS.iadd X2.here hx rfl (hb hby at_30) rfl ?_
    show Steps p.tables e below (T2.setTop (mkF m 31 #[.val (.int i0), .val (.int i1), .val (.int ka), .val (.ref wd), .val (.int uu), .unset, .unset, .unset, .unset, .unset, .unset] [(.int ((1 : Int32) + ((i1 &&& (2147483647 : Int32)) % ((2147483647 : Int32) / uu))))])) _
    rw [hct]
    show Steps p.tables e below (T2.setTop (mkF m 31 #[.val (.int i0), .val (.int i1), .val (.int ka), .val (.ref wd), .val (.int uu), .unset, .unset, .unset, .unset, .unset, .unset] [(.int ct)])) _
    refine XS.istore X2.here hx rfl (hb hby at_31) rfl (l' := #[.val (.int i0), .val (.int i1), .val (.int ka), .val (.ref wd), .val (.int uu), .val (.int ct), .unset, .unset, .unset, .unset, .unset]) rfl ?_
    show Steps p.tables e below (T2.setTop (mkF m 33 #[.val (.int i0), .val (.int i1), .val (.int ka), .val (.ref wd), .val (.int uu), .val (.int ct), .unset, .unset, .unset, .unset, .unset] [])) _
    refine st3 _ ?_
    show Steps p.tables e below (T3.setTop (mkF m 36 #[.val (.int i0), .val (.int i1), .val (.int ka), .val (.ref wd), .val (.int uu), .val (.int ct), .unset, .unset, .unset, .unset, .unset] [(.ref b3)])) _
    refine XS.dup X3.here hx rfl (hb hby at_36) rfl rfl ?_
    show Steps p.tables e below (T3.setTop (mkF m 37 #[.val (.int i0), .val (.int i1), .val (.int ka), .val (.ref wd), .val (.int uu), .val (.int ct), .unset, .unset, .unset, .unset, .unset] [(.ref b3), (.ref b3)])) _
    refine XS.aloadN X3.here hx rfl (hb hby at_37) rfl rfl ?_
    show Steps p.tables e below (T3.setTop (mkF m 38 #[.val (.int i0), .val (.int i1), .val (.int ka), .val (.ref wd), .val (.int uu), .val (.int ct), .unset, .unset, .unset, .unset, .unset] [(.ref wd), (.ref b3), (.ref b3)])) _
    refine XS.iload X3.here hx rfl (hb hby at_38) rfl ?_
    show Steps p.tables e below (T3.setTop (mkF m 40 #[.val (.int i0), .val (.int i1), .val (.int ka), .val (.ref wd), .val (.int uu), .val (.int ct), .unset, .unset, .unset, .unset, .unset] [(.int ct), (.ref wd), (.ref b3), (.ref b3)])) _
    refine st4.trans ?_
    show Steps p.tables e below (T4.setTop (mkF m 43 #[.val (.int i0), .val (.int i1), .val (.int ka), .val (.ref wd), .val (.int uu), .val (.int ct), .unset, .unset, .unset, .unset, .unset] [(.ref b3)])) _
    refine XS.astore X4.here hx rfl (hb hby at_43) rfl rfl (l' := #[.val (.int i0), .val (.int i1), .val (.int ka), .val (.ref wd), .val (.int uu), .val (.int ct), .val (.ref b3), .unset, .unset, .unset, .unset]) rfl ?_
    show Steps p.tables e below (T4.setTop (mkF m 45 #[.val (.int i0), .val (.int i1), .val (.int ka), .val (.ref wd), .val (.int uu), .val (.int ct), .val (.ref b3), .unset, .unset, .unset, .unset] [])) _
    refine XS.iload X4.here hx rfl (hb hby at_45) rfl ?_
    show Steps p.tables e below (T4.setTop (mkF m 47 #[.val (.int i0), .val (.int i1), .val (.int ka), .val (.ref wd), .val (.int uu), .val (.int ct), .val (.ref b3), .unset, .unset, .unset, .unset] [(.int uu)])) _
    refine XS.i2l X4.here hx rfl (hb hby at_47) rfl ?_
    show Steps p.tables e below (T4.setTop (mkF m 48 #[.val (.int i0), .val (.int i1), .val (.int ka), .val (.ref wd), .val (.int uu), .val (.int ct), .val (.ref b3), .unset, .unset, .unset, .unset] [(.long (uu.toInt64))])) _
    refine XS.iload X4.here hx rfl (hb hby at_48) rfl ?_
    show Steps p.tables e below (T4.setTop (mkF m 50 #[.val (.int i0), .val (.int i1), .val (.int ka), .val (.ref wd), .val (.int uu), .val (.int ct), .val (.ref b3), .unset, .unset, .unset, .unset] [(.int ct), (.long (uu.toInt64))])) _
    refine XS.i2l X4.here hx rfl (hb hby at_50) rfl ?_
    show Steps p.tables e below (T4.setTop (mkF m 51 #[.val (.int i0), .val (.int i1), .val (.int ka), .val (.ref wd), .val (.int uu), .val (.int ct), .val (.ref b3), .unset, .unset, .unset, .unset] [(.long (ct.toInt64)), (.long (uu.toInt64))])) _
    refine XS.lmul X4.here hx rfl (hb hby at_51) rfl ?_
    show Steps p.tables e below (T4.setTop (mkF m 52 #[.val (.int i0), .val (.int i1), .val (.int ka), .val (.ref wd), .val (.int uu), .val (.int ct), .val (.ref b3), .unset, .unset, .unset, .unset] [(.long ((uu.toInt64) * (ct.toInt64)))])) _
    refine XS.lstore X4.here hx rfl (hb hby at_52) rfl (l' := #[.val (.int i0), .val (.int i1), .val (.int ka), .val (.ref wd), .val (.int uu), .val (.int ct), .val (.ref b3), .val (.long ((uu.toInt64) * (ct.toInt64))), .second, .unset, .unset]) rfl ?_
    show Steps p.tables e below (T4.setTop (mkF m 54 #[.val (.int i0), .val (.int i1), .val (.int ka), .val (.ref wd), .val (.int uu), .val (.int ct), .val (.ref b3), .val (.long ((uu.toInt64) * (ct.toInt64))), .second, .unset, .unset] [])) _
    refine XS.aload X4.here hx rfl (hb hby at_54) rfl rfl ?_
    show Steps p.tables e below (T4.setTop (mkF m 56 #[.val (.int i0), .val (.int i1), .val (.int ka), .val (.ref wd), .val (.int uu), .val (.int ct), .val (.ref b3), .val (.long ((uu.toInt64) * (ct.toInt64))), .second, .unset, .unset] [(.ref b3)])) _
    refine st5.trans ?_
    show Steps p.tables e below (T5.setTop (mkF m 59 #[.val (.int i0), .val (.int i1), .val (.int ka), .val (.ref wd), .val (.int uu), .val (.int ct), .val (.ref b3), .val (.long ((uu.toInt64) * (ct.toInt64))), .second, .unset, .unset] [(.int (uu * ct))])) _
    refine XS.i2l X5.here hx rfl (hb hby at_59) rfl ?_
    show Steps p.tables e below (T5.setTop (mkF m 60 #[.val (.int i0), .val (.int i1), .val (.int ka), .val (.ref wd), .val (.int uu), .val (.int ct), .val (.ref b3), .val (.long ((uu.toInt64) * (ct.toInt64))), .second, .unset, .unset] [(.long ((uu * ct).toInt64))])) _
    refine XS.lstore X5.here hx rfl (hb hby at_60) rfl (l' := #[.val (.int i0), .val (.int i1), .val (.int ka), .val (.ref wd), .val (.int uu), .val (.int ct), .val (.ref b3), .val (.long ((uu.toInt64) * (ct.toInt64))), .second, .val (.long ((uu * ct).toInt64)), .second]) rfl ?_
    show Steps p.tables e below (T5.setTop (mkF m 62 #[.val (.int i0), .val (.int i1), .val (.int ka), .val (.ref wd), .val (.int uu), .val (.int ct), .val (.ref b3), .val (.long ((uu.toInt64) * (ct.toInt64))), .second, .val (.long ((uu * ct).toInt64)), .second] [])) _
    refine XS.lload X5.here hx rfl (hb hby at_62) rfl ?_
    show Steps p.tables e below (T5.setTop (mkF m 64 #[.val (.int i0), .val (.int i1), .val (.int ka), .val (.ref wd), .val (.int uu), .val (.int ct), .val (.ref b3), .val (.long ((uu.toInt64) * (ct.toInt64))), .second, .val (.long ((uu * ct).toInt64)), .second] [(.long ((uu * ct).toInt64))])) _
    refine XS.lload X5.here hx rfl (hb hby at_64) rfl ?_
    show Steps p.tables e below (T5.setTop (mkF m 66 #[.val (.int i0), .val (.int i1), .val (.int ka), .val (.ref wd), .val (.int uu), .val (.int ct), .val (.ref b3), .val (.long ((uu.toInt64) * (ct.toInt64))), .second, .val (.long ((uu * ct).toInt64)), .second] [(.long ((uu.toInt64) * (ct.toInt64))), (.long ((uu * ct).toInt64))])) _
    refine XS.lcmp X5.here hx rfl (hb hby at_66) rfl ?_
    show Steps p.tables e below (T5.setTop (mkF m 67 #[.val (.int i0), .val (.int i1), .val (.int ka), .val (.ref wd), .val (.int uu), .val (.int ct), .val (.ref b3), .val (.long ((uu.toInt64) * (ct.toInt64))), .second, .val (.long ((uu * ct).toInt64)), .second] [(.int (lcmpW ((uu * ct).toInt64) ((uu.toInt64) * (ct.toInt64))))])) _
    refine XS.ifNo X5.here hx rfl (hb hby at_67) rfl ((if0 _ _).trans (teq cm).2) ?_
    show Steps p.tables e below (T5.setTop (mkF m 70 #[.val (.int i0), .val (.int i1), .val (.int ka), .val (.ref wd), .val (.int uu), .val (.int ct), .val (.ref b3), .val (.long ((uu.toInt64) * (ct.toInt64))), .second, .val (.long ((uu * ct).toInt64)), .second] [])) _
    refine XS.aload X5.here hx rfl (hb hby at_70) rfl rfl ?_
    show Steps p.tables e below (T5.setTop (mkF m 72 #[.val (.int i0), .val (.int i1), .val (.int ka), .val (.ref wd), .val (.int uu), .val (.int ct), .val (.ref b3), .val (.long ((uu.toInt64) * (ct.toInt64))), .second, .val (.long ((uu * ct).toInt64)), .second] [(.ref b3)])) _
    refine st6.trans ?_
    show Steps p.tables e below (T6.setTop (mkF m 75 #[.val (.int i0), .val (.int i1), .val (.int ka), .val (.ref wd), .val (.int uu), .val (.int ct), .val (.ref b3), .val (.long ((uu.toInt64) * (ct.toInt64))), .second, .val (.long ((uu * ct).toInt64)), .second] [(.int ct)])) _
    refine XS.iload X6.here hx rfl (hb hby at_75) rfl ?_
    show Steps p.tables e below (T6.setTop (mkF m 77 #[.val (.int i0), .val (.int i1), .val (.int ka), .val (.ref wd), .val (.int uu), .val (.int ct), .val (.ref b3), .val (.long ((uu.toInt64) * (ct.toInt64))), .second, .val (.long ((uu * ct).toInt64)), .second] [(.int ct), (.int ct)])) _
    refine XS.icmpNo X6.here hx rfl (hb hby at_77) rfl (teq rfl).2 ?_
    show Steps p.tables e below (T6.setTop (mkF m 80 #[.val (.int i0), .val (.int i1), .val (.int ka), .val (.ref wd), .val (.int uu), .val (.int ct), .val (.ref b3), .val (.long ((uu.toInt64) * (ct.toInt64))), .second, .val (.long ((uu * ct).toInt64)), .second] [])) _
    refine XS.aload X6.here hx rfl (hb hby at_80) rfl rfl ?_
    show Steps p.tables e below (T6.setTop (mkF m 82 #[.val (.int i0), .val (.int i1), .val (.int ka), .val (.ref wd), .val (.int uu), .val (.int ct), .val (.ref b3), .val (.long ((uu.toInt64) * (ct.toInt64))), .second, .val (.long ((uu * ct).toInt64)), .second] [(.ref b3)])) _
    refine st7.trans ?_
    show Steps p.tables e below (T7.setTop (mkF m 85 #[.val (.int i0), .val (.int i1), .val (.int ka), .val (.ref wd), .val (.int uu), .val (.int ct), .val (.ref b3), .val (.long ((uu.toInt64) * (ct.toInt64))), .second, .val (.long ((uu * ct).toInt64)), .second] [(.ref wd)])) _
    refine XS.aloadN X7.here hx rfl (hb hby at_85) rfl rfl ?_
    show Steps p.tables e below (T7.setTop (mkF m 86 #[.val (.int i0), .val (.int i1), .val (.int ka), .val (.ref wd), .val (.int uu), .val (.int ct), .val (.ref b3), .val (.long ((uu.toInt64) * (ct.toInt64))), .second, .val (.long ((uu * ct).toInt64)), .second] [(.ref wd), (.ref wd)])) _
    refine Jvm.RoadKit.acmp (g := (mkF m 86 #[.val (.int i0), .val (.int i1), .val (.int ka), .val (.ref wd), .val (.int uu), .val (.int ct), .val (.ref b3), .val (.long ((uu.toInt64) * (ct.toInt64))), .second, .val (.long ((uu * ct).toInt64)), .second] [(.ref wd), (.ref wd)])) X7 hx rfl rfl rfl (pc0 := 86) (pc' := 89) (same := true) rfl (hb hby at_86) rfl (decide_eq_true rfl) (by decide) (by decide) ?_
    show Steps p.tables e below (T7.setTop (mkF m 89 #[.val (.int i0), .val (.int i1), .val (.int ka), .val (.ref wd), .val (.int uu), .val (.int ct), .val (.ref b3), .val (.long ((uu.toInt64) * (ct.toInt64))), .second, .val (.long ((uu * ct).toInt64)), .second] [])) _
    refine XS.iconst X7.here hx rfl (hb hby at_89) ?_
    show Steps p.tables e below (T7.setTop (mkF m 90 #[.val (.int i0), .val (.int i1), .val (.int ka), .val (.ref wd), .val (.int uu), .val (.int ct), .val (.ref b3), .val (.long ((uu.toInt64) * (ct.toInt64))), .second, .val (.long ((uu * ct).toInt64)), .second] [(.int (1 : Int32))])) _
    refine XS.goto X7.here hx rfl (pc0 := 90) (pc' := 94) rfl (hb hby at_90) (by decide) (by decide) ?_
    show Steps p.tables e below (T7.setTop (mkF m 94 #[.val (.int i0), .val (.int i1), .val (.int ka), .val (.ref wd), .val (.int uu), .val (.int ct), .val (.ref b3), .val (.long ((uu.toInt64) * (ct.toInt64))), .second, .val (.long ((uu * ct).toInt64)), .second] [(.int (1 : Int32))])) _
    exact retN X7 hx (t := .boolean) Bd.returns (by simp) (hb hby at_94) hr
  · exact ⟨rfl, N7⟩
set_option maxRecDepth 65536 in
set_option maxHeartbeats 40000000 in
theorem comes_1 {Post : Tables → Env → Array Value → State → Outcome → State → Prop} (hpost : ∀ tb e args s v u, (limb_1_1.after args s (.returned v) u = true ∧ limb_1_2.after args s (.returned v) u = true ∧ True) → FrameEnd s (.returned v) u (Jvm.fieldLocs frame_1_writes args s ++ Jvm.arrayLocs frame_1_arrays args s ++ Jvm.staticLocs frame_1_statics s) 16 128 → Post tb e args s (.returned v) u) :
    ArmFor flags0 classFile x code maxLocals ret World_1 tables_1 room_1 Calls_1 rest_1 Pre_1 Post := by
  intro l hfl _ _ p e ha hc hk s m args below hf hA hF happ hP
  obtain ⟨hcalls, hrest, hpre⟩ := hP
  obtain ⟨-, -, -, hnamed, -, -, -, hat⟩ := (Spec.applies_iff hf).mp happ
  obtain ⟨hg, hn⟩ := and_e (Cond.before_iff.mp (show (Jvm.Cond.and given_1 narrow_1).before args s = true from hpre))
  obtain ⟨gc, g0⟩ := and_e hg
  obtain ⟨a0, g1⟩ := and_e g0
  obtain ⟨v0, v1, rfl⟩ : ∃ v0 v1 : Value, args = #[v0, v1] := by
    have hs : args.size = 2 := by simpa [Cond.value, given_1] using gc
    obtain ⟨L⟩ := args
    match L, hs with
    | [v0, v1], _ => exact ⟨v0, v1, rfl⟩
  have hw := fun d (hd : d ∈ tables_1) => atoms_spec (ws := Jvm.Cond.code x code maxLocals ret :: tables_1) hat d (List.mem_cons_of_mem _ hd)
  obtain ⟨i0, ei0⟩ := is_v a0
  obtain rfl : v0 = (.int i0) := Option.some.inj ei0
  obtain ⟨i1, ei1⟩ := is_v g1
  obtain rfl : v1 = (.int i1) := Option.some.inj ei1
  obtain ⟨n0, n1⟩ := and_e hn
  obtain ⟨n2, n3⟩ := and_e n1
  obtain ⟨n4, n5⟩ := and_e n3
  obtain ⟨n6, n7⟩ := and_e n5
  obtain ⟨n8, n9⟩ := and_e n7
  obtain ⟨n10, n11⟩ := and_e n9
  obtain ⟨n12, n13⟩ := and_e n11
  obtain ⟨n14, n15⟩ := and_e n13
  obtain ⟨n16, n17⟩ := and_e n15
  obtain ⟨n18, n19⟩ := and_e n17
  obtain ⟨n20, n21⟩ := and_e n19
  obtain ⟨n22, n23⟩ := and_e n21
  obtain ⟨n24, n25⟩ := and_e n23
  obtain ⟨n26, n27⟩ := and_e n25
  obtain ⟨n28, n29⟩ := and_e n27
  obtain ⟨n30, n31⟩ := and_e n29
  obtain ⟨n32, n33⟩ := and_e n31
  obtain ⟨n34, n35⟩ := and_e n33
  obtain ⟨n36, n37⟩ := and_e n35
  obtain ⟨n38, n39⟩ := and_e n37
  obtain ⟨n40, n41⟩ := and_e n39
  obtain ⟨n42, n43⟩ := and_e n41
  obtain ⟨n44, n45⟩ := and_e n43
  obtain ⟨w_MUSHROOM_SOUP, ev_MUSHROOM_SOUP⟩ := exa_v n0
  have E_MUSHROOM_SOUP := Exa.start ev_MUSHROOM_SOUP n0
  have S_MUSHROOM_SOUP := Sta.start ev_MUSHROOM_SOUP (Or.inr ⟨(hw _ (List.mem_of_getElem? (i := 6) rfl)), (hw _ (List.mem_of_getElem? (i := 7) rfl))⟩)
  obtain ⟨w_CAESAR_SALAD, ev_CAESAR_SALAD⟩ := exa_v n4
  have E_CAESAR_SALAD := Exa.start ev_CAESAR_SALAD n4
  have S_CAESAR_SALAD := Sta.start ev_CAESAR_SALAD (Or.inr ⟨(hw _ (List.mem_of_getElem? (i := 6) rfl)), (hw _ (List.mem_of_getElem? (i := 52) rfl))⟩)
  obtain ⟨w_ICE_CREAM, ev_ICE_CREAM⟩ := exa_v n8
  have E_ICE_CREAM := Exa.start ev_ICE_CREAM n8
  have S_ICE_CREAM := Sta.start ev_ICE_CREAM (Or.inr ⟨(hw _ (List.mem_of_getElem? (i := 6) rfl)), (hw _ (List.mem_of_getElem? (i := 54) rfl))⟩)
  obtain ⟨w_BARBECUE_RIBS, ev_BARBECUE_RIBS⟩ := exa_v n12
  have E_BARBECUE_RIBS := Exa.start ev_BARBECUE_RIBS n12
  have S_BARBECUE_RIBS := Sta.start ev_BARBECUE_RIBS (Or.inr ⟨(hw _ (List.mem_of_getElem? (i := 6) rfl)), (hw _ (List.mem_of_getElem? (i := 56) rfl))⟩)
  obtain ⟨w_TAPAS, ev_TAPAS⟩ := exa_v n16
  have E_TAPAS := Exa.start ev_TAPAS n16
  have S_TAPAS := Sta.start ev_TAPAS (Or.inr ⟨(hw _ (List.mem_of_getElem? (i := 6) rfl)), (hw _ (List.mem_of_getElem? (i := 59) rfl))⟩)
  obtain ⟨w_CHRISTMAS_PASTA, ev_CHRISTMAS_PASTA⟩ := exa_v n20
  have E_CHRISTMAS_PASTA := Exa.start ev_CHRISTMAS_PASTA n20
  have S_CHRISTMAS_PASTA := Sta.start ev_CHRISTMAS_PASTA (Or.inr ⟨(hw _ (List.mem_of_getElem? (i := 6) rfl)), (hw _ (List.mem_of_getElem? (i := 61) rfl))⟩)
  obtain ⟨w_CHAMPAGNE, ev_CHAMPAGNE⟩ := exa_v n24
  have E_CHAMPAGNE := Exa.start ev_CHAMPAGNE n24
  have S_CHAMPAGNE := Sta.start ev_CHAMPAGNE (Or.inr ⟨(hw _ (List.mem_of_getElem? (i := 6) rfl)), (hw _ (List.mem_of_getElem? (i := 63) rfl))⟩)
  obtain ⟨w_T_BONE_STEAK, ev_T_BONE_STEAK⟩ := exa_v n28
  have E_T_BONE_STEAK := Exa.start ev_T_BONE_STEAK n28
  have S_T_BONE_STEAK := Sta.start ev_T_BONE_STEAK (Or.inr ⟨(hw _ (List.mem_of_getElem? (i := 6) rfl)), (hw _ (List.mem_of_getElem? (i := 65) rfl))⟩)
  obtain ⟨w_ZERO_COLA, ev_ZERO_COLA⟩ := exa_v n32
  have E_ZERO_COLA := Exa.start ev_ZERO_COLA n32
  have S_ZERO_COLA := Sta.start ev_ZERO_COLA (Or.inr ⟨(hw _ (List.mem_of_getElem? (i := 6) rfl)), (hw _ (List.mem_of_getElem? (i := 68) rfl))⟩)
  obtain ⟨w_CHOCOLATE_CAKE, ev_CHOCOLATE_CAKE⟩ := exa_v n36
  have E_CHOCOLATE_CAKE := Exa.start ev_CHOCOLATE_CAKE n36
  have S_CHOCOLATE_CAKE := Sta.start ev_CHOCOLATE_CAKE (Or.inr ⟨(hw _ (List.mem_of_getElem? (i := 6) rfl)), (hw _ (List.mem_of_getElem? (i := 70) rfl))⟩)
  obtain ⟨w_RED_WINE, ev_RED_WINE⟩ := exa_v n40
  have E_RED_WINE := Exa.start ev_RED_WINE n40
  have S_RED_WINE := Sta.start ev_RED_WINE (Or.inr ⟨(hw _ (List.mem_of_getElem? (i := 6) rfl)), (hw _ (List.mem_of_getElem? (i := 72) rfl))⟩)
  obtain ⟨w_SEAFOOD_PASTA, ev_SEAFOOD_PASTA⟩ := exa_v n44
  have E_SEAFOOD_PASTA := Exa.start ev_SEAFOOD_PASTA n44
  have S_SEAFOOD_PASTA := Sta.start ev_SEAFOOD_PASTA (Or.inr ⟨(hw _ (List.mem_of_getElem? (i := 6) rfl)), (hw _ (List.mem_of_getElem? (i := 75) rfl))⟩)
  have F_MUSHROOM_SOUP_price := own_fldI ev_MUSHROOM_SOUP n2
  have F_CAESAR_SALAD_price := own_fldI ev_CAESAR_SALAD n6
  have F_ICE_CREAM_price := own_fldI ev_ICE_CREAM n10
  have F_BARBECUE_RIBS_price := own_fldI ev_BARBECUE_RIBS n14
  have F_TAPAS_price := own_fldI ev_TAPAS n18
  have F_CHRISTMAS_PASTA_price := own_fldI ev_CHRISTMAS_PASTA n22
  have F_CHAMPAGNE_price := own_fldI ev_CHAMPAGNE n26
  have F_T_BONE_STEAK_price := own_fldI ev_T_BONE_STEAK n30
  have F_ZERO_COLA_price := own_fldI ev_ZERO_COLA n34
  have F_CHOCOLATE_CAKE_price := own_fldI ev_CHOCOLATE_CAKE n38
  have F_RED_WINE_price := own_fldI ev_RED_WINE n42
  have F_SEAFOOD_PASTA_price := own_fldI ev_SEAFOOD_PASTA n45
  have ctx : Ctx s s.heap w_MUSHROOM_SOUP w_CAESAR_SALAD w_ICE_CREAM w_BARBECUE_RIBS w_TAPAS w_CHRISTMAS_PASTA w_CHAMPAGNE w_T_BONE_STEAK w_ZERO_COLA w_CHOCOLATE_CAKE w_RED_WINE w_SEAFOOD_PASTA := ⟨S_MUSHROOM_SOUP, E_MUSHROOM_SOUP, F_MUSHROOM_SOUP_price, S_CAESAR_SALAD, E_CAESAR_SALAD, F_CAESAR_SALAD_price, S_ICE_CREAM, E_ICE_CREAM, F_ICE_CREAM_price, S_BARBECUE_RIBS, E_BARBECUE_RIBS, F_BARBECUE_RIBS_price, S_TAPAS, E_TAPAS, F_TAPAS_price, S_CHRISTMAS_PASTA, E_CHRISTMAS_PASTA, F_CHRISTMAS_PASTA_price, S_CHAMPAGNE, E_CHAMPAGNE, F_CHAMPAGNE_price, S_T_BONE_STEAK, E_T_BONE_STEAK, F_T_BONE_STEAK_price, S_ZERO_COLA, E_ZERO_COLA, F_ZERO_COLA_price, S_CHOCOLATE_CAKE, E_CHOCOLATE_CAKE, F_CHOCOLATE_CAKE_price, S_RED_WINE, E_RED_WINE, F_RED_WINE_price, S_SEAFOOD_PASTA, E_SEAFOOD_PASTA, F_SEAFOOD_PASTA_price, trivial⟩
  suffices M : MetFree l x (head1 (Jvm.Cond.code x code maxLocals ret :: tables_1) room_1) (fun a U => a = #[(.int i0), (.int i1)] ∧ s.Warmed39 U.vm ∧ U.heap = s.heap) (fun _ _ _ _ _ => True) (fun _ U o U' => ∃ v L, o = .returned v ∧ QL s.heap.size (some (.int (1 : Int32))) v L ∧ FrameEnd U o U' L room_1.cells room_1.slots) by
    obtain ⟨n, o, h1, h2, h3, _, L, rfl, ⟨rfl, N⟩, hq⟩ := M p e ha hc hk s m _ below hf ((Spec.applies_iff_loose hf).mp happ).1 ⟨rfl, State.Warmed39.refl s, rfl⟩ trivial
    exact ⟨n, _, h1, h2, h3, hpost _ _ _ _ _ _ ⟨Cond.after_iff.mpr rfl, Cond.after_iff.mpr (eq_i res_at (Term.int_eval (1)) rfl), trivial⟩ ⟨hq.1, hq.2.1, (hq.2.2.sift fun y hy => Or.inr (N y hy)).mono (by decide) (by decide)⟩⟩
  rcases own_r12 i0 with hv0 | hv0 | hv0 | hv0 | hv0 | hv0 | hv0 | hv0 | hv0 | hv0 | hv0 | hv0
  ·
    have pr := own_price (6000 : Int32) i1 (by decide)
    exact rm0_0 l s _ hw tables_1 w_MUSHROOM_SOUP w_CAESAR_SALAD w_ICE_CREAM w_BARBECUE_RIBS w_TAPAS w_CHRISTMAS_PASTA w_CHAMPAGNE w_T_BONE_STEAK w_ZERO_COLA w_CHOCOLATE_CAKE w_RED_WINE w_SEAFOOD_PASTA i0 i1 (0 : Int32) w_MUSHROOM_SOUP (6000 : Int32) _ s.heap s.heap.size (Nat.le_refl _) ctx hv0 (rm1_0 l s _ hw [] w_MUSHROOM_SOUP w_CAESAR_SALAD w_ICE_CREAM w_BARBECUE_RIBS w_TAPAS w_CHRISTMAS_PASTA w_CHAMPAGNE w_T_BONE_STEAK w_ZERO_COLA w_CHOCOLATE_CAKE w_RED_WINE w_SEAFOOD_PASTA s.heap s.heap.size (Nat.le_refl _) ctx) (rm2_0 l s _ hw [] w_MUSHROOM_SOUP w_CAESAR_SALAD w_ICE_CREAM w_BARBECUE_RIBS w_TAPAS w_CHRISTMAS_PASTA w_CHAMPAGNE w_T_BONE_STEAK w_ZERO_COLA w_CHOCOLATE_CAKE w_RED_WINE w_SEAFOOD_PASTA s.heap s.heap.size (Nat.le_refl _) ctx) E_MUSHROOM_SOUP F_MUSHROOM_SOUP_price pr.1 pr.2.1 rfl pr.2.2.1 pr.2.2.2
  ·
    have pr := own_price (5500 : Int32) i1 (by decide)
    exact rm0_0 l s _ hw tables_1 w_MUSHROOM_SOUP w_CAESAR_SALAD w_ICE_CREAM w_BARBECUE_RIBS w_TAPAS w_CHRISTMAS_PASTA w_CHAMPAGNE w_T_BONE_STEAK w_ZERO_COLA w_CHOCOLATE_CAKE w_RED_WINE w_SEAFOOD_PASTA i0 i1 (1 : Int32) w_TAPAS (5500 : Int32) _ s.heap s.heap.size (Nat.le_refl _) ctx hv0 (rm1_1 l s _ hw [] w_MUSHROOM_SOUP w_CAESAR_SALAD w_ICE_CREAM w_BARBECUE_RIBS w_TAPAS w_CHRISTMAS_PASTA w_CHAMPAGNE w_T_BONE_STEAK w_ZERO_COLA w_CHOCOLATE_CAKE w_RED_WINE w_SEAFOOD_PASTA s.heap s.heap.size (Nat.le_refl _) ctx) (rm2_1 l s _ hw [] w_MUSHROOM_SOUP w_CAESAR_SALAD w_ICE_CREAM w_BARBECUE_RIBS w_TAPAS w_CHRISTMAS_PASTA w_CHAMPAGNE w_T_BONE_STEAK w_ZERO_COLA w_CHOCOLATE_CAKE w_RED_WINE w_SEAFOOD_PASTA s.heap s.heap.size (Nat.le_refl _) ctx) E_TAPAS F_TAPAS_price pr.1 pr.2.1 rfl pr.2.2.1 pr.2.2.2
  ·
    have pr := own_price (8000 : Int32) i1 (by decide)
    exact rm0_0 l s _ hw tables_1 w_MUSHROOM_SOUP w_CAESAR_SALAD w_ICE_CREAM w_BARBECUE_RIBS w_TAPAS w_CHRISTMAS_PASTA w_CHAMPAGNE w_T_BONE_STEAK w_ZERO_COLA w_CHOCOLATE_CAKE w_RED_WINE w_SEAFOOD_PASTA i0 i1 (2 : Int32) w_CAESAR_SALAD (8000 : Int32) _ s.heap s.heap.size (Nat.le_refl _) ctx hv0 (rm1_2 l s _ hw [] w_MUSHROOM_SOUP w_CAESAR_SALAD w_ICE_CREAM w_BARBECUE_RIBS w_TAPAS w_CHRISTMAS_PASTA w_CHAMPAGNE w_T_BONE_STEAK w_ZERO_COLA w_CHOCOLATE_CAKE w_RED_WINE w_SEAFOOD_PASTA s.heap s.heap.size (Nat.le_refl _) ctx) (rm2_2 l s _ hw [] w_MUSHROOM_SOUP w_CAESAR_SALAD w_ICE_CREAM w_BARBECUE_RIBS w_TAPAS w_CHRISTMAS_PASTA w_CHAMPAGNE w_T_BONE_STEAK w_ZERO_COLA w_CHOCOLATE_CAKE w_RED_WINE w_SEAFOOD_PASTA s.heap s.heap.size (Nat.le_refl _) ctx) E_CAESAR_SALAD F_CAESAR_SALAD_price pr.1 pr.2.1 rfl pr.2.2.1 pr.2.2.2
  ·
    have pr := own_price (55000 : Int32) i1 (by decide)
    exact rm0_0 l s _ hw tables_1 w_MUSHROOM_SOUP w_CAESAR_SALAD w_ICE_CREAM w_BARBECUE_RIBS w_TAPAS w_CHRISTMAS_PASTA w_CHAMPAGNE w_T_BONE_STEAK w_ZERO_COLA w_CHOCOLATE_CAKE w_RED_WINE w_SEAFOOD_PASTA i0 i1 (3 : Int32) w_T_BONE_STEAK (55000 : Int32) _ s.heap s.heap.size (Nat.le_refl _) ctx hv0 (rm1_3 l s _ hw [] w_MUSHROOM_SOUP w_CAESAR_SALAD w_ICE_CREAM w_BARBECUE_RIBS w_TAPAS w_CHRISTMAS_PASTA w_CHAMPAGNE w_T_BONE_STEAK w_ZERO_COLA w_CHOCOLATE_CAKE w_RED_WINE w_SEAFOOD_PASTA s.heap s.heap.size (Nat.le_refl _) ctx) (rm2_3 l s _ hw [] w_MUSHROOM_SOUP w_CAESAR_SALAD w_ICE_CREAM w_BARBECUE_RIBS w_TAPAS w_CHRISTMAS_PASTA w_CHAMPAGNE w_T_BONE_STEAK w_ZERO_COLA w_CHOCOLATE_CAKE w_RED_WINE w_SEAFOOD_PASTA s.heap s.heap.size (Nat.le_refl _) ctx) E_T_BONE_STEAK F_T_BONE_STEAK_price pr.1 pr.2.1 rfl pr.2.2.1 pr.2.2.2
  ·
    have pr := own_price (54000 : Int32) i1 (by decide)
    exact rm0_0 l s _ hw tables_1 w_MUSHROOM_SOUP w_CAESAR_SALAD w_ICE_CREAM w_BARBECUE_RIBS w_TAPAS w_CHRISTMAS_PASTA w_CHAMPAGNE w_T_BONE_STEAK w_ZERO_COLA w_CHOCOLATE_CAKE w_RED_WINE w_SEAFOOD_PASTA i0 i1 (4 : Int32) w_BARBECUE_RIBS (54000 : Int32) _ s.heap s.heap.size (Nat.le_refl _) ctx hv0 (rm1_4 l s _ hw [] w_MUSHROOM_SOUP w_CAESAR_SALAD w_ICE_CREAM w_BARBECUE_RIBS w_TAPAS w_CHRISTMAS_PASTA w_CHAMPAGNE w_T_BONE_STEAK w_ZERO_COLA w_CHOCOLATE_CAKE w_RED_WINE w_SEAFOOD_PASTA s.heap s.heap.size (Nat.le_refl _) ctx) (rm2_4 l s _ hw [] w_MUSHROOM_SOUP w_CAESAR_SALAD w_ICE_CREAM w_BARBECUE_RIBS w_TAPAS w_CHRISTMAS_PASTA w_CHAMPAGNE w_T_BONE_STEAK w_ZERO_COLA w_CHOCOLATE_CAKE w_RED_WINE w_SEAFOOD_PASTA s.heap s.heap.size (Nat.le_refl _) ctx) E_BARBECUE_RIBS F_BARBECUE_RIBS_price pr.1 pr.2.1 rfl pr.2.2.1 pr.2.2.2
  ·
    have pr := own_price (35000 : Int32) i1 (by decide)
    exact rm0_0 l s _ hw tables_1 w_MUSHROOM_SOUP w_CAESAR_SALAD w_ICE_CREAM w_BARBECUE_RIBS w_TAPAS w_CHRISTMAS_PASTA w_CHAMPAGNE w_T_BONE_STEAK w_ZERO_COLA w_CHOCOLATE_CAKE w_RED_WINE w_SEAFOOD_PASTA i0 i1 (5 : Int32) w_SEAFOOD_PASTA (35000 : Int32) _ s.heap s.heap.size (Nat.le_refl _) ctx hv0 (rm1_5 l s _ hw [] w_MUSHROOM_SOUP w_CAESAR_SALAD w_ICE_CREAM w_BARBECUE_RIBS w_TAPAS w_CHRISTMAS_PASTA w_CHAMPAGNE w_T_BONE_STEAK w_ZERO_COLA w_CHOCOLATE_CAKE w_RED_WINE w_SEAFOOD_PASTA s.heap s.heap.size (Nat.le_refl _) ctx) (rm2_5 l s _ hw [] w_MUSHROOM_SOUP w_CAESAR_SALAD w_ICE_CREAM w_BARBECUE_RIBS w_TAPAS w_CHRISTMAS_PASTA w_CHAMPAGNE w_T_BONE_STEAK w_ZERO_COLA w_CHOCOLATE_CAKE w_RED_WINE w_SEAFOOD_PASTA s.heap s.heap.size (Nat.le_refl _) ctx) E_SEAFOOD_PASTA F_SEAFOOD_PASTA_price pr.1 pr.2.1 rfl pr.2.2.1 pr.2.2.2
  ·
    have pr := own_price (25000 : Int32) i1 (by decide)
    exact rm0_0 l s _ hw tables_1 w_MUSHROOM_SOUP w_CAESAR_SALAD w_ICE_CREAM w_BARBECUE_RIBS w_TAPAS w_CHRISTMAS_PASTA w_CHAMPAGNE w_T_BONE_STEAK w_ZERO_COLA w_CHOCOLATE_CAKE w_RED_WINE w_SEAFOOD_PASTA i0 i1 (6 : Int32) w_CHRISTMAS_PASTA (25000 : Int32) _ s.heap s.heap.size (Nat.le_refl _) ctx hv0 (rm1_6 l s _ hw [] w_MUSHROOM_SOUP w_CAESAR_SALAD w_ICE_CREAM w_BARBECUE_RIBS w_TAPAS w_CHRISTMAS_PASTA w_CHAMPAGNE w_T_BONE_STEAK w_ZERO_COLA w_CHOCOLATE_CAKE w_RED_WINE w_SEAFOOD_PASTA s.heap s.heap.size (Nat.le_refl _) ctx) (rm2_6 l s _ hw [] w_MUSHROOM_SOUP w_CAESAR_SALAD w_ICE_CREAM w_BARBECUE_RIBS w_TAPAS w_CHRISTMAS_PASTA w_CHAMPAGNE w_T_BONE_STEAK w_ZERO_COLA w_CHOCOLATE_CAKE w_RED_WINE w_SEAFOOD_PASTA s.heap s.heap.size (Nat.le_refl _) ctx) E_CHRISTMAS_PASTA F_CHRISTMAS_PASTA_price pr.1 pr.2.1 rfl pr.2.2.1 pr.2.2.2
  ·
    have pr := own_price (15000 : Int32) i1 (by decide)
    exact rm0_0 l s _ hw tables_1 w_MUSHROOM_SOUP w_CAESAR_SALAD w_ICE_CREAM w_BARBECUE_RIBS w_TAPAS w_CHRISTMAS_PASTA w_CHAMPAGNE w_T_BONE_STEAK w_ZERO_COLA w_CHOCOLATE_CAKE w_RED_WINE w_SEAFOOD_PASTA i0 i1 (7 : Int32) w_CHOCOLATE_CAKE (15000 : Int32) _ s.heap s.heap.size (Nat.le_refl _) ctx hv0 (rm1_7 l s _ hw [] w_MUSHROOM_SOUP w_CAESAR_SALAD w_ICE_CREAM w_BARBECUE_RIBS w_TAPAS w_CHRISTMAS_PASTA w_CHAMPAGNE w_T_BONE_STEAK w_ZERO_COLA w_CHOCOLATE_CAKE w_RED_WINE w_SEAFOOD_PASTA s.heap s.heap.size (Nat.le_refl _) ctx) (rm2_7 l s _ hw [] w_MUSHROOM_SOUP w_CAESAR_SALAD w_ICE_CREAM w_BARBECUE_RIBS w_TAPAS w_CHRISTMAS_PASTA w_CHAMPAGNE w_T_BONE_STEAK w_ZERO_COLA w_CHOCOLATE_CAKE w_RED_WINE w_SEAFOOD_PASTA s.heap s.heap.size (Nat.le_refl _) ctx) E_CHOCOLATE_CAKE F_CHOCOLATE_CAKE_price pr.1 pr.2.1 rfl pr.2.2.1 pr.2.2.2
  ·
    have pr := own_price (5000 : Int32) i1 (by decide)
    exact rm0_0 l s _ hw tables_1 w_MUSHROOM_SOUP w_CAESAR_SALAD w_ICE_CREAM w_BARBECUE_RIBS w_TAPAS w_CHRISTMAS_PASTA w_CHAMPAGNE w_T_BONE_STEAK w_ZERO_COLA w_CHOCOLATE_CAKE w_RED_WINE w_SEAFOOD_PASTA i0 i1 (8 : Int32) w_ICE_CREAM (5000 : Int32) _ s.heap s.heap.size (Nat.le_refl _) ctx hv0 (rm1_8 l s _ hw [] w_MUSHROOM_SOUP w_CAESAR_SALAD w_ICE_CREAM w_BARBECUE_RIBS w_TAPAS w_CHRISTMAS_PASTA w_CHAMPAGNE w_T_BONE_STEAK w_ZERO_COLA w_CHOCOLATE_CAKE w_RED_WINE w_SEAFOOD_PASTA s.heap s.heap.size (Nat.le_refl _) ctx) (rm2_8 l s _ hw [] w_MUSHROOM_SOUP w_CAESAR_SALAD w_ICE_CREAM w_BARBECUE_RIBS w_TAPAS w_CHRISTMAS_PASTA w_CHAMPAGNE w_T_BONE_STEAK w_ZERO_COLA w_CHOCOLATE_CAKE w_RED_WINE w_SEAFOOD_PASTA s.heap s.heap.size (Nat.le_refl _) ctx) E_ICE_CREAM F_ICE_CREAM_price pr.1 pr.2.1 rfl pr.2.2.1 pr.2.2.2
  ·
    have pr := own_price (3000 : Int32) i1 (by decide)
    exact rm0_0 l s _ hw tables_1 w_MUSHROOM_SOUP w_CAESAR_SALAD w_ICE_CREAM w_BARBECUE_RIBS w_TAPAS w_CHRISTMAS_PASTA w_CHAMPAGNE w_T_BONE_STEAK w_ZERO_COLA w_CHOCOLATE_CAKE w_RED_WINE w_SEAFOOD_PASTA i0 i1 (9 : Int32) w_ZERO_COLA (3000 : Int32) _ s.heap s.heap.size (Nat.le_refl _) ctx hv0 (rm1_9 l s _ hw [] w_MUSHROOM_SOUP w_CAESAR_SALAD w_ICE_CREAM w_BARBECUE_RIBS w_TAPAS w_CHRISTMAS_PASTA w_CHAMPAGNE w_T_BONE_STEAK w_ZERO_COLA w_CHOCOLATE_CAKE w_RED_WINE w_SEAFOOD_PASTA s.heap s.heap.size (Nat.le_refl _) ctx) (rm2_9 l s _ hw [] w_MUSHROOM_SOUP w_CAESAR_SALAD w_ICE_CREAM w_BARBECUE_RIBS w_TAPAS w_CHRISTMAS_PASTA w_CHAMPAGNE w_T_BONE_STEAK w_ZERO_COLA w_CHOCOLATE_CAKE w_RED_WINE w_SEAFOOD_PASTA s.heap s.heap.size (Nat.le_refl _) ctx) E_ZERO_COLA F_ZERO_COLA_price pr.1 pr.2.1 rfl pr.2.2.1 pr.2.2.2
  ·
    have pr := own_price (60000 : Int32) i1 (by decide)
    exact rm0_0 l s _ hw tables_1 w_MUSHROOM_SOUP w_CAESAR_SALAD w_ICE_CREAM w_BARBECUE_RIBS w_TAPAS w_CHRISTMAS_PASTA w_CHAMPAGNE w_T_BONE_STEAK w_ZERO_COLA w_CHOCOLATE_CAKE w_RED_WINE w_SEAFOOD_PASTA i0 i1 (10 : Int32) w_RED_WINE (60000 : Int32) _ s.heap s.heap.size (Nat.le_refl _) ctx hv0 (rm1_10 l s _ hw [] w_MUSHROOM_SOUP w_CAESAR_SALAD w_ICE_CREAM w_BARBECUE_RIBS w_TAPAS w_CHRISTMAS_PASTA w_CHAMPAGNE w_T_BONE_STEAK w_ZERO_COLA w_CHOCOLATE_CAKE w_RED_WINE w_SEAFOOD_PASTA s.heap s.heap.size (Nat.le_refl _) ctx) (rm2_10 l s _ hw [] w_MUSHROOM_SOUP w_CAESAR_SALAD w_ICE_CREAM w_BARBECUE_RIBS w_TAPAS w_CHRISTMAS_PASTA w_CHAMPAGNE w_T_BONE_STEAK w_ZERO_COLA w_CHOCOLATE_CAKE w_RED_WINE w_SEAFOOD_PASTA s.heap s.heap.size (Nat.le_refl _) ctx) E_RED_WINE F_RED_WINE_price pr.1 pr.2.1 rfl pr.2.2.1 pr.2.2.2
  ·
    have pr := own_price (25000 : Int32) i1 (by decide)
    exact rm0_0 l s _ hw tables_1 w_MUSHROOM_SOUP w_CAESAR_SALAD w_ICE_CREAM w_BARBECUE_RIBS w_TAPAS w_CHRISTMAS_PASTA w_CHAMPAGNE w_T_BONE_STEAK w_ZERO_COLA w_CHOCOLATE_CAKE w_RED_WINE w_SEAFOOD_PASTA i0 i1 (11 : Int32) w_CHAMPAGNE (25000 : Int32) _ s.heap s.heap.size (Nat.le_refl _) ctx hv0 (rm1_11 l s _ hw [] w_MUSHROOM_SOUP w_CAESAR_SALAD w_ICE_CREAM w_BARBECUE_RIBS w_TAPAS w_CHRISTMAS_PASTA w_CHAMPAGNE w_T_BONE_STEAK w_ZERO_COLA w_CHOCOLATE_CAKE w_RED_WINE w_SEAFOOD_PASTA s.heap s.heap.size (Nat.le_refl _) ctx) (rm2_11 l s _ hw [] w_MUSHROOM_SOUP w_CAESAR_SALAD w_ICE_CREAM w_BARBECUE_RIBS w_TAPAS w_CHRISTMAS_PASTA w_CHAMPAGNE w_T_BONE_STEAK w_ZERO_COLA w_CHOCOLATE_CAKE w_RED_WINE w_SEAFOOD_PASTA s.heap s.heap.size (Nat.le_refl _) ctx) E_CHAMPAGNE F_CHAMPAGNE_price pr.1 pr.2.1 rfl pr.2.2.1 pr.2.2.2
theorem main_1_1 : Claimed_1_1 := comes_1 fun _ _ _ _ _ _ h hF => ⟨h.1, hF⟩
theorem main_1_2 : Claimed_1_2 := comes_1 fun _ _ _ _ _ _ h hF => ⟨h.2.1, hF⟩
end Jvm.Pilot.@@N@@
namespace Jvm.Pilot.@@N@@
open Jvm Jvm.ClassFile Sem Op Lib Jvm.Free Jvm.Stand Jvm.Pilot.@@N@@.Jvm.D
/-! MADE BY PROGRAM (witnessworld.py) out of the Statement's table words and the real class files: 14 classes; the members and pool entries that the words name. The judged class is class 1, her method 3. -/
namespace start1
open Jvm.ClassFile
def u (s : String) : CpInfo := .utf8 (stringToUtf16 s)
/-- a pool by its gaps: so many unusable entries, then the entry; so many at the end -/
def gap : Nat → List CpInfo → List CpInfo
  | 0, r => r
  | n + 1, r => .unusable :: gap n r
def poolList (es : List (Nat × CpInfo)) (last : Nat) : List CpInfo := es.foldr (fun e r => gap e.1 (e.2 :: r)) (gap last [])
def pool (es : List (Nat × CpInfo)) (last : Nat) : Array CpInfo := ⟨poolList es last⟩
def fileOf (pool : Array CpInfo) (this : Nat) (attrs : Array Attribute := #[]) (ms : Array MethodInfo := #[]) (fl : Nat := 33) (sup : Nat := 0) (ifs : Array Nat := #[]) (fds : Array FieldInfo := #[]) : ClassFile where
  minorVersion := 0
  majorVersion := 65
  constantPool := pool
  accessFlags := fl
  thisClass := this
  superClass := sup
  interfaces := ifs
  fields := fds
  methods := ms
  attributes := attrs
def plain (name : String) (sup : Option ClassId) : Class where
  name := name
  kind := .ordinary
  loader := none
  accessFlags := 33
  super := sup
  interfaces := #[]
  cf := none
  fields := #[]
  methods := #[]
  instanceTypes := #[]
  staticTypes := #[]
  resolved := #[]
  callSites := []
  init := .initialized
  statics := none
  mirror := none

def pool0 : Array CpInfo := pool [(5, u "<init>"), (0, u "()V"), (1, .class_ 10), (1, u "java/lang/Object")] 113

def k0c0 : Code := { maxStack := 0, maxLocals := 1, code := object_method_1_code, exceptionTable := #[], attributes := #[] }
def k0m0 : Method := { name := "<init>", desc := "()V", sig := { parameters := [], returnType := none }, accessFlags := 1, code := some k0c0 }
/-- java/lang/Object -/
def k0 : Class := { plain "java/lang/Object" none with
  accessFlags := 33
  interfaces := #[]
  cf := some (fileOf pool0 8 #[] #[{ accessFlags := 1, nameIndex := 5, descriptorIndex := 6, attributes := #[] }] 33 0 #[] #[])
  fields := #[]
  methods := #[k0m0]
  instanceTypes := #[]
  staticTypes := #[]
  resolved := Array.replicate 124 none
  statics := none }

def pool1 : Array CpInfo := pool [(2, .class_ 4), (1, u "java/lang/Object"), (0, u "<init>"), (0, u "()V"), (0, .fieldref 8 9), (0, .class_ 10), (0, .nameAndType 11 12), (0, u "com/example/tinsel_tally/tinseltally/model/Dish"), (0, u "MUSHROOM_SOUP"), (0, u "Lcom/example/tinsel_tally/tinseltally/model/Dish;"), (0, .fieldref 8 14), (0, .nameAndType 15 12), (0, u "TAPAS"), (0, .fieldref 8 17), (0, .nameAndType 18 12), (0, u "CAESAR_SALAD"), (0, .fieldref 8 20), (0, .nameAndType 21 12), (0, u "T_BONE_STEAK"), (0, .fieldref 8 23), (0, .nameAndType 24 12), (0, u "BARBECUE_RIBS"), (0, .fieldref 8 26), (0, .nameAndType 27 12), (0, u "SEAFOOD_PASTA"), (0, .fieldref 8 29), (0, .nameAndType 30 12), (0, u "CHRISTMAS_PASTA"), (0, .fieldref 8 32), (0, .nameAndType 33 12), (0, u "CHOCOLATE_CAKE"), (0, .fieldref 8 35), (0, .nameAndType 36 12), (0, u "ICE_CREAM"), (0, .fieldref 8 38), (0, .nameAndType 39 12), (0, u "ZERO_COLA"), (0, .fieldref 8 41), (0, .nameAndType 42 12), (0, u "RED_WINE"), (0, .fieldref 8 44), (0, .nameAndType 45 12), (0, u "CHAMPAGNE"), (0, .integer 55000), (0, .integer 54000), (0, .integer 35000), (0, .integer 60000), (0, .integer 2147483647), (0, .methodref 52 53), (0, .class_ 54), (0, .nameAndType 55 56), (0, u "com/example/tinsel_tally/tinseltally/model/OrderLinePricePinLaw"), (0, u "dishOf"), (0, u "(I)Lcom/example/tinsel_tally/tinseltally/model/Dish;"), (0, .methodref 52 58), (0, .nameAndType 59 60), (0, u "unitOf"), (0, u "(I)I"), (2, .class_ 64), (0, u "com/example/tinsel_tally/tinseltally/model/OrderLine"), (0, .methodref 63 66), (0, .nameAndType 5 67), (0, u "(Lcom/example/tinsel_tally/tinseltally/model/Dish;I)V"), (0, .methodref 63 69), (0, .nameAndType 70 71), (0, u "price"), (0, u "()I"), (0, .methodref 63 73), (0, .nameAndType 74 71), (0, u "count"), (0, .methodref 63 76), (0, .nameAndType 77 78), (0, u "dish"), (0, u "()Lcom/example/tinsel_tally/tinseltally/model/Dish;"), (3, u "law"), (0, u "(II)Z")] 2

def k1m0 : Method := { name := "<init>", desc := "()V", sig := { parameters := [], returnType := none }, accessFlags := 1, code := none }
def k1c1 : Code := { maxStack := 2, maxLocals := 1, code := method_2_code, exceptionTable := #[], attributes := #[] }
def k1m1 : Method := { name := "dishOf", desc := "(I)Lcom/example/tinsel_tally/tinseltally/model/Dish;", sig := { parameters := [.int], returnType := some (.object "com/example/tinsel_tally/tinseltally/model/Dish") }, accessFlags := 10, code := some k1c1 }
def k1c2 : Code := { maxStack := 2, maxLocals := 1, code := method_3_code, exceptionTable := #[], attributes := #[] }
def k1m2 : Method := { name := "unitOf", desc := "(I)I", sig := { parameters := [.int], returnType := some .int }, accessFlags := 10, code := some k1c2 }
def k1c3 : Code := { maxStack := 4, maxLocals := 11, code := code, exceptionTable := #[], attributes := #[] }
def k1m3 : Method := { name := "law", desc := "(II)Z", sig := { parameters := [.int, .int], returnType := some .boolean }, accessFlags := 9, code := some k1c3 }
/-- com/example/tinsel_tally/tinseltally/model/OrderLinePricePinLaw -/
def k1 : Class := { plain "com/example/tinsel_tally/tinseltally/model/OrderLinePricePinLaw" (some 0) with
  accessFlags := 49
  interfaces := #[]
  cf := some (fileOf pool1 52 #[] #[{ accessFlags := 1, nameIndex := 5, descriptorIndex := 6, attributes := #[] }, { accessFlags := 10, nameIndex := 55, descriptorIndex := 56, attributes := #[] }, { accessFlags := 10, nameIndex := 59, descriptorIndex := 60, attributes := #[] }, { accessFlags := 9, nameIndex := 82, descriptorIndex := 83, attributes := #[] }] 49 2 #[] #[])
  fields := #[]
  methods := #[k1m0, k1m1, k1m2, k1m3]
  instanceTypes := #[]
  staticTypes := #[]
  resolved := Array.replicate 86 none
  statics := none }

def pool2 : Array CpInfo := pool [(1, .class_ 2), (0, u "java/lang/constant/Constable"), (0, .class_ 4), (0, u "java/lang/Object")] 6

/-- java/lang/constant/Constable -/
def k2 : Class := { plain "java/lang/constant/Constable" (some 0) with
  accessFlags := 1537
  interfaces := #[]
  cf := some (fileOf pool2 1 #[] #[] 1537 3 #[] #[])
  fields := #[]
  methods := #[]
  instanceTypes := #[]
  staticTypes := #[]
  resolved := Array.replicate 11 none
  statics := none }

def pool3 : Array CpInfo := pool [(1, .class_ 2), (0, u "java/lang/Comparable"), (0, .class_ 4), (0, u "java/lang/Object")] 7

/-- java/lang/Comparable -/
def k3 : Class := { plain "java/lang/Comparable" (some 0) with
  accessFlags := 1537
  interfaces := #[]
  cf := some (fileOf pool3 1 #[] #[] 1537 3 #[] #[])
  fields := #[]
  methods := #[]
  instanceTypes := #[]
  staticTypes := #[]
  resolved := Array.replicate 12 none
  statics := none }

def pool4 : Array CpInfo := pool [(1, .class_ 2), (0, u "java/io/Serializable"), (0, .class_ 4), (0, u "java/lang/Object")] 2

/-- java/io/Serializable -/
def k4 : Class := { plain "java/io/Serializable" (some 0) with
  accessFlags := 1537
  interfaces := #[]
  cf := some (fileOf pool4 1 #[] #[] 1537 3 #[] #[])
  fields := #[]
  methods := #[]
  instanceTypes := #[]
  staticTypes := #[]
  resolved := Array.replicate 7 none
  statics := none }

def pool5 : Array CpInfo := pool [(2, .class_ 4), (1, u "java/lang/Enum"), (0, u "name"), (0, u "Ljava/lang/String;"), (2, u "ordinal"), (0, u "I"), (1, .class_ 14), (1, u "java/lang/Object"), (4, u "hash"), (86, .class_ 108), (1, u "java/lang/Enum$EnumDesc"), (2, .class_ 112), (0, u "java/lang/constant/Constable"), (0, .class_ 114), (0, u "java/lang/Comparable"), (0, .class_ 116), (0, u "java/io/Serializable")] 87

/-- java/lang/Enum -/
def k5 : Class := { plain "java/lang/Enum" (some 0) with
  accessFlags := 1057
  interfaces := #[2, 3, 4]
  cf := some (fileOf pool5 2 #[.nestMembers #[106]] #[] 1057 12 #[111, 113, 115] #[{ accessFlags := 18, nameIndex := 5, descriptorIndex := 6, attributes := #[] }, { accessFlags := 18, nameIndex := 9, descriptorIndex := 10, attributes := #[] }, { accessFlags := 2, nameIndex := 19, descriptorIndex := 10, attributes := #[] }])
  fields := #[{ name := "name", type := (.object "java/lang/String"), accessFlags := 18, slot := 0, constantValue := 0 }, { name := "ordinal", type := .int, accessFlags := 18, slot := 1, constantValue := 0 }, { name := "hash", type := .int, accessFlags := 2, slot := 2, constantValue := 0 }]
  methods := #[]
  instanceTypes := #[(.object "java/lang/String"), .int, .int]
  staticTypes := #[]
  resolved := Array.replicate 204 none
  statics := none }

def pool6 : Array CpInfo := pool [(1, .class_ 2), (0, u "com/example/tinsel_tally/tinseltally/model/Dish"), (2, u "MUSHROOM_SOUP"), (0, u "Lcom/example/tinsel_tally/tinseltally/model/Dish;"), (2, u "TAPAS"), (2, u "CAESAR_SALAD"), (2, u "T_BONE_STEAK"), (2, u "BARBECUE_RIBS"), (2, u "SEAFOOD_PASTA"), (2, u "CHRISTMAS_PASTA"), (2, u "CHOCOLATE_CAKE"), (2, u "ICE_CREAM"), (2, u "ZERO_COLA"), (2, u "RED_WINE"), (2, u "CHAMPAGNE"), (2, u "$VALUES"), (0, u "[Lcom/example/tinsel_tally/tinseltally/model/Dish;"), (6, .class_ 52), (1, u "java/lang/Enum"), (8, u "menuName"), (0, u "Ljava/lang/String;"), (2, u "category"), (0, u "Lcom/example/tinsel_tally/tinseltally/model/MenuCategory;"), (0, .fieldref 1 68), (0, .nameAndType 69 70), (0, u "price"), (0, u "I"), (2, u "BY_MENU_NAME"), (0, u "Ljava/util/Map;"), (105, u "()I")] 6

def k6c0 : Code := { maxStack := 1, maxLocals := 1, code := prog_10_method_7_code, exceptionTable := #[], attributes := #[] }
def k6m0 : Method := { name := "price", desc := "()I", sig := { parameters := [], returnType := some .int }, accessFlags := 1, code := some k6c0 }
/-- com/example/tinsel_tally/tinseltally/model/Dish -/
def k6 : Class := { plain "com/example/tinsel_tally/tinseltally/model/Dish" (some 5) with
  accessFlags := 16433
  interfaces := #[]
  cf := some (fileOf pool6 1 #[] #[{ accessFlags := 1, nameIndex := 69, descriptorIndex := 180, attributes := #[] }] 16433 50 #[] #[{ accessFlags := 16409, nameIndex := 5, descriptorIndex := 6, attributes := #[] }, { accessFlags := 16409, nameIndex := 9, descriptorIndex := 6, attributes := #[] }, { accessFlags := 16409, nameIndex := 12, descriptorIndex := 6, attributes := #[] }, { accessFlags := 16409, nameIndex := 15, descriptorIndex := 6, attributes := #[] }, { accessFlags := 16409, nameIndex := 18, descriptorIndex := 6, attributes := #[] }, { accessFlags := 16409, nameIndex := 21, descriptorIndex := 6, attributes := #[] }, { accessFlags := 16409, nameIndex := 24, descriptorIndex := 6, attributes := #[] }, { accessFlags := 16409, nameIndex := 27, descriptorIndex := 6, attributes := #[] }, { accessFlags := 16409, nameIndex := 30, descriptorIndex := 6, attributes := #[] }, { accessFlags := 16409, nameIndex := 33, descriptorIndex := 6, attributes := #[] }, { accessFlags := 16409, nameIndex := 36, descriptorIndex := 6, attributes := #[] }, { accessFlags := 16409, nameIndex := 39, descriptorIndex := 6, attributes := #[] }, { accessFlags := 26, nameIndex := 73, descriptorIndex := 74, attributes := #[] }, { accessFlags := 18, nameIndex := 61, descriptorIndex := 62, attributes := #[] }, { accessFlags := 18, nameIndex := 65, descriptorIndex := 66, attributes := #[] }, { accessFlags := 18, nameIndex := 69, descriptorIndex := 70, attributes := #[] }, { accessFlags := 4122, nameIndex := 42, descriptorIndex := 43, attributes := #[] }])
  fields := #[{ name := "MUSHROOM_SOUP", type := (.object "com/example/tinsel_tally/tinseltally/model/Dish"), accessFlags := 16409, slot := 0, constantValue := 0 }, { name := "TAPAS", type := (.object "com/example/tinsel_tally/tinseltally/model/Dish"), accessFlags := 16409, slot := 1, constantValue := 0 }, { name := "CAESAR_SALAD", type := (.object "com/example/tinsel_tally/tinseltally/model/Dish"), accessFlags := 16409, slot := 2, constantValue := 0 }, { name := "T_BONE_STEAK", type := (.object "com/example/tinsel_tally/tinseltally/model/Dish"), accessFlags := 16409, slot := 3, constantValue := 0 }, { name := "BARBECUE_RIBS", type := (.object "com/example/tinsel_tally/tinseltally/model/Dish"), accessFlags := 16409, slot := 4, constantValue := 0 }, { name := "SEAFOOD_PASTA", type := (.object "com/example/tinsel_tally/tinseltally/model/Dish"), accessFlags := 16409, slot := 5, constantValue := 0 }, { name := "CHRISTMAS_PASTA", type := (.object "com/example/tinsel_tally/tinseltally/model/Dish"), accessFlags := 16409, slot := 6, constantValue := 0 }, { name := "CHOCOLATE_CAKE", type := (.object "com/example/tinsel_tally/tinseltally/model/Dish"), accessFlags := 16409, slot := 7, constantValue := 0 }, { name := "ICE_CREAM", type := (.object "com/example/tinsel_tally/tinseltally/model/Dish"), accessFlags := 16409, slot := 8, constantValue := 0 }, { name := "ZERO_COLA", type := (.object "com/example/tinsel_tally/tinseltally/model/Dish"), accessFlags := 16409, slot := 9, constantValue := 0 }, { name := "RED_WINE", type := (.object "com/example/tinsel_tally/tinseltally/model/Dish"), accessFlags := 16409, slot := 10, constantValue := 0 }, { name := "CHAMPAGNE", type := (.object "com/example/tinsel_tally/tinseltally/model/Dish"), accessFlags := 16409, slot := 11, constantValue := 0 }, { name := "BY_MENU_NAME", type := (.object "java/util/Map"), accessFlags := 26, slot := 12, constantValue := 0 }, { name := "menuName", type := (.object "java/lang/String"), accessFlags := 18, slot := 3, constantValue := 0 }, { name := "category", type := (.object "com/example/tinsel_tally/tinseltally/model/MenuCategory"), accessFlags := 18, slot := 4, constantValue := 0 }, { name := "price", type := .int, accessFlags := 18, slot := 5, constantValue := 0 }, { name := "$VALUES", type := (.array (.object "com/example/tinsel_tally/tinseltally/model/Dish")), accessFlags := 4122, slot := 13, constantValue := 0 }]
  methods := #[k6m0]
  instanceTypes := #[(.object "java/lang/String"), .int, .int, (.object "java/lang/String"), (.object "com/example/tinsel_tally/tinseltally/model/MenuCategory"), .int]
  staticTypes := #[(.object "com/example/tinsel_tally/tinseltally/model/Dish"), (.object "com/example/tinsel_tally/tinseltally/model/Dish"), (.object "com/example/tinsel_tally/tinseltally/model/Dish"), (.object "com/example/tinsel_tally/tinseltally/model/Dish"), (.object "com/example/tinsel_tally/tinseltally/model/Dish"), (.object "com/example/tinsel_tally/tinseltally/model/Dish"), (.object "com/example/tinsel_tally/tinseltally/model/Dish"), (.object "com/example/tinsel_tally/tinseltally/model/Dish"), (.object "com/example/tinsel_tally/tinseltally/model/Dish"), (.object "com/example/tinsel_tally/tinseltally/model/Dish"), (.object "com/example/tinsel_tally/tinseltally/model/Dish"), (.object "com/example/tinsel_tally/tinseltally/model/Dish"), (.object "java/util/Map"), (.array (.object "com/example/tinsel_tally/tinseltally/model/Dish"))]
  resolved := Array.replicate 187 none
  statics := some 0 }

def pool7 : Array CpInfo := pool [(1, .methodref 2 3), (0, .class_ 4), (0, .nameAndType 5 6), (0, u "java/lang/Object"), (0, u "<init>"), (0, u "()V"), (0, .class_ 8), (0, u "java/lang/Record")] 13

def k7c0 : Code := { maxStack := 1, maxLocals := 1, code := jdk_30_method_1_code, exceptionTable := #[], attributes := #[] }
def k7m0 : Method := { name := "<init>", desc := "()V", sig := { parameters := [], returnType := none }, accessFlags := 4, code := some k7c0 }
/-- java/lang/Record -/
def k7 : Class := { plain "java/lang/Record" (some 0) with
  accessFlags := 1057
  interfaces := #[]
  cf := some (fileOf pool7 7 #[] #[{ accessFlags := 4, nameIndex := 5, descriptorIndex := 6, attributes := #[] }] 1057 2 #[] #[])
  fields := #[]
  methods := #[k7m0]
  instanceTypes := #[]
  staticTypes := #[]
  resolved := Array.replicate 22 none
  statics := none }

def pool8 : Array CpInfo := pool [(1, .methodref 2 3), (0, .class_ 4), (0, .nameAndType 5 6), (0, u "java/lang/Record"), (0, u "<init>"), (0, u "()V"), (9, .fieldref 17 18), (0, .class_ 19), (0, .nameAndType 20 21), (0, u "com/example/tinsel_tally/tinseltally/model/OrderLine"), (0, u "dish"), (0, u "Lcom/example/tinsel_tally/tinseltally/model/Dish;"), (0, .fieldref 17 23), (0, .nameAndType 24 25), (0, u "count"), (0, u "I"), (0, .methodref 27 28), (0, .class_ 29), (0, .nameAndType 30 31), (0, u "com/example/tinsel_tally/tinseltally/model/Dish"), (0, u "price"), (0, u "()I"), (12, u "(Lcom/example/tinsel_tally/tinseltally/model/Dish;I)V"), (6, u "()Lcom/example/tinsel_tally/tinseltally/model/Dish;")] 29

def k8c0 : Code := { maxStack := 3, maxLocals := 3, code := prog_13_method_1_code, exceptionTable := #[], attributes := #[] }
def k8m0 : Method := { name := "<init>", desc := "(Lcom/example/tinsel_tally/tinseltally/model/Dish;I)V", sig := { parameters := [(.object "com/example/tinsel_tally/tinseltally/model/Dish"), .int], returnType := none }, accessFlags := 1, code := some k8c0 }
def k8c1 : Code := { maxStack := 2, maxLocals := 1, code := prog_13_method_2_code, exceptionTable := #[], attributes := #[] }
def k8m1 : Method := { name := "price", desc := "()I", sig := { parameters := [], returnType := some .int }, accessFlags := 1, code := some k8c1 }
def k8c2 : Code := { maxStack := 1, maxLocals := 1, code := prog_13_method_6_code, exceptionTable := #[], attributes := #[] }
def k8m2 : Method := { name := "dish", desc := "()Lcom/example/tinsel_tally/tinseltally/model/Dish;", sig := { parameters := [], returnType := some (.object "com/example/tinsel_tally/tinseltally/model/Dish") }, accessFlags := 1, code := some k8c2 }
def k8c3 : Code := { maxStack := 1, maxLocals := 1, code := prog_13_method_7_code, exceptionTable := #[], attributes := #[] }
def k8m3 : Method := { name := "count", desc := "()I", sig := { parameters := [], returnType := some .int }, accessFlags := 1, code := some k8c3 }
/-- com/example/tinsel_tally/tinseltally/model/OrderLine -/
def k8 : Class := { plain "com/example/tinsel_tally/tinseltally/model/OrderLine" (some 7) with
  accessFlags := 49
  interfaces := #[]
  cf := some (fileOf pool8 17 #[] #[{ accessFlags := 1, nameIndex := 5, descriptorIndex := 44, attributes := #[] }, { accessFlags := 1, nameIndex := 30, descriptorIndex := 31, attributes := #[] }, { accessFlags := 1, nameIndex := 20, descriptorIndex := 51, attributes := #[] }, { accessFlags := 1, nameIndex := 24, descriptorIndex := 31, attributes := #[] }] 49 2 #[] #[{ accessFlags := 18, nameIndex := 20, descriptorIndex := 21, attributes := #[] }, { accessFlags := 18, nameIndex := 24, descriptorIndex := 25, attributes := #[] }])
  fields := #[{ name := "dish", type := (.object "com/example/tinsel_tally/tinseltally/model/Dish"), accessFlags := 18, slot := 0, constantValue := 0 }, { name := "count", type := .int, accessFlags := 18, slot := 1, constantValue := 0 }]
  methods := #[k8m0, k8m1, k8m2, k8m3]
  instanceTypes := #[(.object "com/example/tinsel_tally/tinseltally/model/Dish"), .int]
  staticTypes := #[]
  resolved := Array.replicate 81 none
  statics := none }

def pool9 : Array CpInfo := pool [(1, u "java/lang/Cloneable"), (0, .class_ 1), (0, u "java/lang/Object"), (0, .class_ 3)] 3

/-- java/lang/Cloneable -/
def k9 : Class := { plain "java/lang/Cloneable" (some 0) with
  accessFlags := 1537
  interfaces := #[]
  cf := some (fileOf pool9 2 #[] #[] 1537 4 #[] #[])
  fields := #[]
  methods := #[]
  instanceTypes := #[]
  staticTypes := #[]
  resolved := Array.replicate 8 none
  statics := none }

/-- the primitive byte -/
def k10 : Class := { plain "byte" none with kind := .primitive 'B', accessFlags := 0x411 }
/-- [B -/
def k11 : Class := { plain "[B" (some 0) with kind := .array 10 .byte, interfaces := #[9, 4], accessFlags := 1041 }

/-- the primitive int -/
def k12 : Class := { plain "int" none with kind := .primitive 'I', accessFlags := 0x411 }
/-- [I -/
def k13 : Class := { plain "[I" (some 0) with kind := .array 12 .int, interfaces := #[9, 4], accessFlags := 1041 }

def heap : Heap := #[{ cls := 6, slots := #[.ref 1, .ref 5, .ref 2, .ref 8, .ref 4, .ref 12, .ref 6, .ref 10, .ref 3, .ref 9, .ref 11, .ref 7, .null, .null], vm := .statics 6 },
  { cls := 6, slots := #[.null, .int 0, .int 0, .null, .null, .int 6000], vm := .none },
  { cls := 6, slots := #[.null, .int 0, .int 0, .null, .null, .int 8000], vm := .none },
  { cls := 6, slots := #[.null, .int 0, .int 0, .null, .null, .int 5000], vm := .none },
  { cls := 6, slots := #[.null, .int 0, .int 0, .null, .null, .int 54000], vm := .none },
  { cls := 6, slots := #[.null, .int 0, .int 0, .null, .null, .int 5500], vm := .none },
  { cls := 6, slots := #[.null, .int 0, .int 0, .null, .null, .int 25000], vm := .none },
  { cls := 6, slots := #[.null, .int 0, .int 0, .null, .null, .int 25000], vm := .none },
  { cls := 6, slots := #[.null, .int 0, .int 0, .null, .null, .int 55000], vm := .none },
  { cls := 6, slots := #[.null, .int 0, .int 0, .null, .null, .int 3000], vm := .none },
  { cls := 6, slots := #[.null, .int 0, .int 0, .null, .null, .int 15000], vm := .none },
  { cls := 6, slots := #[.null, .int 0, .int 0, .null, .null, .int 60000], vm := .none },
  { cls := 6, slots := #[.null, .int 0, .int 0, .null, .null, .int 35000], vm := .none }]
def classes : Array Class := #[k0, k1, k2, k3, k4, k5, k6, k7, k8, k9, k10, k11, k12, k13]
def interned : List (Array UInt16 × Addr) := []
def slotsUsed : Nat := 86
def theMethod : MethodId := ⟨1, 3⟩
def args0 : Array Value := #[.int 5, .int 6]
def aboutOver (below : List Frame) : State where
  vm := { classes := classes, interned := interned.toArray }
  heap := heap
  slotsUsed := slotsUsed
  threads := #[{ frames := .invoking theMethod args0 :: below }]
def below0 : List Frame := [.native { method := ⟨0, 0⟩, args := #[] }]
def about1 : State := aboutOver below0
def p0 : Program := .bare "" "" ""
def e0 : Env := launch0.env 0 0 0
theorem w_frames : about1.frames = Frame.invoking theMethod args0 :: below0 := rfl
set_option maxRecDepth 65536 in
theorem w_args : argsFit about1.vm theMethod args0 = true := by decide +kernel
set_option maxRecDepth 65536 in
theorem w_heap : heapFits about1 = true := by decide +kernel
set_option maxRecDepth 65536 in
theorem w_runnable : about1.curStatus? = some .runnable := by decide +kernel
set_option maxRecDepth 65536 in
theorem w_alone : about1.alone = true := by decide +kernel
set_option maxRecDepth 65536 in
theorem w_named : about1.methodNamed? x = some theMethod := by decide +kernel
set_option maxRecDepth 65536 in
theorem w_hears : about1.hears theMethod below0 = true := by decide +kernel
set_option maxRecDepth 65536 in
theorem w_ripe : about1.ripe theMethod args0 below0 = true := by decide +kernel
theorem w_running : about1.status = .running := rfl
set_option maxRecDepth 65536 in
theorem w_room : about1.hasRoom e0.platform room_1 = true :=
  launch0.hasRoom_least _ room_1 (by decide +kernel) (by decide +kernel) (by decide +kernel) (by decide +kernel) (by decide +kernel) (by decide +kernel)
theorem allAtoms_all (ts : List Jvm.Cond) (a : Array Jvm.Value) (st : Jvm.State) : (allAtoms ts).before a st = ts.all (fun c => c.before a st) := by
  induction ts with
  | nil => rfl
  | cons c t ih =>
    show (Jvm.Cond.and c (allAtoms t)).before a st = _
    rw [Jvm.Cond.before_and, ih, List.all_cons]
def words1 : List Jvm.Cond := Jvm.Cond.code x code maxLocals ret :: tables_1
/-- a 'code' word, met by the world's own term for the bytes: nothing is compared byte by byte -/
theorem code_word {y : MethodName} {bytes : ByteArray} {mx : Nat} {rt : Option FieldType} {a : Array Value} {s : State} {m : MethodId} {meth : Method} {c : Code} (h1 : s.methodNamed? y = some m) (h2 : s.vm.method? m = some meth) (h3 : meth.code = some c) (h4 : c.code = bytes)
    (h5 : (c.maxLocals == mx && c.exceptionTable.isEmpty && decide (c.maxStack ≤ mostOperands) && decide (meth.sig.returnType = rt) && !meth.locks && decide (parseMethodDescriptor y.desc = some meth.sig)) = true) : (Jvm.Cond.code y bytes mx rt).before a s = true := by
  simp only [Bool.and_eq_true, beq_iff_eq, Bool.not_eq_true', decide_eq_true_eq] at h5
  obtain ⟨⟨⟨⟨⟨g1, g2⟩, g3⟩, g4⟩, g5⟩, g6⟩ := h5
  simp [Cond.before, Cond.holds, Cond.value, h1, h2, h3, h4, g1, g2, g3, g4, g5, g6]
def isCode : Jvm.Cond → Bool
  | .code _ _ _ _ => true
  | _ => false
theorem all_split {L : List Jvm.Cond} {P : Jvm.Cond → Bool} (h1 : L.all (fun c => isCode c || P c) = true) (h2 : ∀ c ∈ L.filter isCode, P c = true) : L.all P = true := by
  refine List.all_eq_true.mpr fun c hc => ?_
  have h := List.all_eq_true.mp h1 c hc
  rcases Bool.eq_false_or_eq_true (isCode c) with hi | hi
  · exact h2 c (List.mem_filter.mpr ⟨hc, hi⟩)
  · simpa [hi] using h
set_option maxRecDepth 65536 in
theorem w_c0 : (Jvm.Cond.code x code maxLocals ret).before args0 about1 = true := code_word (m := ⟨1, 3⟩) (meth := k1m3) (c := k1c3) (by decide +kernel) rfl rfl rfl (by decide +kernel)
set_option maxRecDepth 65536 in
theorem w_c1 : (Jvm.Cond.code ({ cls := "com/example/tinsel_tally/tinseltally/model/OrderLinePricePinLaw", name := "dishOf", desc := "(I)Lcom/example/tinsel_tally/tinseltally/model/Dish;" } : Jvm.MethodName) method_2_code (1 : Nat) (Option.some (Jvm.ClassFile.FieldType.object "com/example/tinsel_tally/tinseltally/model/Dish"))).before args0 about1 = true := code_word (m := ⟨1, 1⟩) (meth := k1m1) (c := k1c1) (by decide +kernel) rfl rfl rfl (by decide +kernel)
set_option maxRecDepth 65536 in
theorem w_c2 : (Jvm.Cond.code ({ cls := "com/example/tinsel_tally/tinseltally/model/OrderLinePricePinLaw", name := "unitOf", desc := "(I)I" } : Jvm.MethodName) method_3_code (1 : Nat) (Option.some Jvm.ClassFile.FieldType.int)).before args0 about1 = true := code_word (m := ⟨1, 2⟩) (meth := k1m2) (c := k1c2) (by decide +kernel) rfl rfl rfl (by decide +kernel)
set_option maxRecDepth 65536 in
theorem w_c3 : (Jvm.Cond.code ({ cls := "com/example/tinsel_tally/tinseltally/model/OrderLine", name := "<init>", desc := "(Lcom/example/tinsel_tally/tinseltally/model/Dish;I)V" } : Jvm.MethodName) prog_13_method_1_code (3 : Nat) (Option.none : Option Jvm.ClassFile.FieldType)).before args0 about1 = true := code_word (m := ⟨8, 0⟩) (meth := k8m0) (c := k8c0) (by decide +kernel) rfl rfl rfl (by decide +kernel)
set_option maxRecDepth 65536 in
theorem w_c4 : (Jvm.Cond.code ({ cls := "java/lang/Record", name := "<init>", desc := "()V" } : Jvm.MethodName) jdk_30_method_1_code (1 : Nat) (Option.none : Option Jvm.ClassFile.FieldType)).before args0 about1 = true := code_word (m := ⟨7, 0⟩) (meth := k7m0) (c := k7c0) (by decide +kernel) rfl rfl rfl (by decide +kernel)
set_option maxRecDepth 65536 in
theorem w_c5 : (Jvm.Cond.code ({ cls := "java/lang/Object", name := "<init>", desc := "()V" } : Jvm.MethodName) object_method_1_code (1 : Nat) (Option.none : Option Jvm.ClassFile.FieldType)).before args0 about1 = true := code_word (m := ⟨0, 0⟩) (meth := k0m0) (c := k0c0) (by decide +kernel) rfl rfl rfl (by decide +kernel)
set_option maxRecDepth 65536 in
theorem w_c6 : (Jvm.Cond.code ({ cls := "com/example/tinsel_tally/tinseltally/model/OrderLine", name := "price", desc := "()I" } : Jvm.MethodName) prog_13_method_2_code (1 : Nat) (Option.some Jvm.ClassFile.FieldType.int)).before args0 about1 = true := code_word (m := ⟨8, 1⟩) (meth := k8m1) (c := k8c1) (by decide +kernel) rfl rfl rfl (by decide +kernel)
set_option maxRecDepth 65536 in
theorem w_c7 : (Jvm.Cond.code ({ cls := "com/example/tinsel_tally/tinseltally/model/Dish", name := "price", desc := "()I" } : Jvm.MethodName) prog_10_method_7_code (1 : Nat) (Option.some Jvm.ClassFile.FieldType.int)).before args0 about1 = true := code_word (m := ⟨6, 0⟩) (meth := k6m0) (c := k6c0) (by decide +kernel) rfl rfl rfl (by decide +kernel)
set_option maxRecDepth 65536 in
theorem w_c8 : (Jvm.Cond.code ({ cls := "com/example/tinsel_tally/tinseltally/model/OrderLine", name := "count", desc := "()I" } : Jvm.MethodName) prog_13_method_7_code (1 : Nat) (Option.some Jvm.ClassFile.FieldType.int)).before args0 about1 = true := code_word (m := ⟨8, 3⟩) (meth := k8m3) (c := k8c3) (by decide +kernel) rfl rfl rfl (by decide +kernel)
set_option maxRecDepth 65536 in
theorem w_c9 : (Jvm.Cond.code ({ cls := "com/example/tinsel_tally/tinseltally/model/OrderLine", name := "dish", desc := "()Lcom/example/tinsel_tally/tinseltally/model/Dish;" } : Jvm.MethodName) prog_13_method_6_code (1 : Nat) (Option.some (Jvm.ClassFile.FieldType.object "com/example/tinsel_tally/tinseltally/model/Dish"))).before args0 about1 = true := code_word (m := ⟨8, 2⟩) (meth := k8m2) (c := k8c2) (by decide +kernel) rfl rfl rfl (by decide +kernel)
def codes1 : List Jvm.Cond := [Jvm.Cond.code x code maxLocals ret, Jvm.Cond.code ({ cls := "com/example/tinsel_tally/tinseltally/model/OrderLinePricePinLaw", name := "dishOf", desc := "(I)Lcom/example/tinsel_tally/tinseltally/model/Dish;" } : Jvm.MethodName) method_2_code (1 : Nat) (Option.some (Jvm.ClassFile.FieldType.object "com/example/tinsel_tally/tinseltally/model/Dish")), Jvm.Cond.code ({ cls := "com/example/tinsel_tally/tinseltally/model/OrderLinePricePinLaw", name := "unitOf", desc := "(I)I" } : Jvm.MethodName) method_3_code (1 : Nat) (Option.some Jvm.ClassFile.FieldType.int), Jvm.Cond.code ({ cls := "com/example/tinsel_tally/tinseltally/model/OrderLine", name := "<init>", desc := "(Lcom/example/tinsel_tally/tinseltally/model/Dish;I)V" } : Jvm.MethodName) prog_13_method_1_code (3 : Nat) (Option.none : Option Jvm.ClassFile.FieldType), Jvm.Cond.code ({ cls := "java/lang/Record", name := "<init>", desc := "()V" } : Jvm.MethodName) jdk_30_method_1_code (1 : Nat) (Option.none : Option Jvm.ClassFile.FieldType), Jvm.Cond.code ({ cls := "java/lang/Object", name := "<init>", desc := "()V" } : Jvm.MethodName) object_method_1_code (1 : Nat) (Option.none : Option Jvm.ClassFile.FieldType), Jvm.Cond.code ({ cls := "com/example/tinsel_tally/tinseltally/model/OrderLine", name := "price", desc := "()I" } : Jvm.MethodName) prog_13_method_2_code (1 : Nat) (Option.some Jvm.ClassFile.FieldType.int), Jvm.Cond.code ({ cls := "com/example/tinsel_tally/tinseltally/model/Dish", name := "price", desc := "()I" } : Jvm.MethodName) prog_10_method_7_code (1 : Nat) (Option.some Jvm.ClassFile.FieldType.int), Jvm.Cond.code ({ cls := "com/example/tinsel_tally/tinseltally/model/OrderLine", name := "count", desc := "()I" } : Jvm.MethodName) prog_13_method_7_code (1 : Nat) (Option.some Jvm.ClassFile.FieldType.int), Jvm.Cond.code ({ cls := "com/example/tinsel_tally/tinseltally/model/OrderLine", name := "dish", desc := "()Lcom/example/tinsel_tally/tinseltally/model/Dish;" } : Jvm.MethodName) prog_13_method_6_code (1 : Nat) (Option.some (Jvm.ClassFile.FieldType.object "com/example/tinsel_tally/tinseltally/model/Dish"))]
set_option maxRecDepth 65536 in
theorem codes_eq : words1.filter isCode = codes1 := rfl
theorem w_codes : ∀ c ∈ words1.filter isCode, c.before args0 about1 = true := by
  rw [codes_eq]
  intro c hc
  simp only [codes1, List.mem_cons, List.not_mem_nil, or_false] at hc
  rcases hc with rfl | rfl | rfl | rfl | rfl | rfl | rfl | rfl | rfl | rfl
  · exact w_c0
  · exact w_c1
  · exact w_c2
  · exact w_c3
  · exact w_c4
  · exact w_c5
  · exact w_c6
  · exact w_c7
  · exact w_c8
  · exact w_c9
set_option maxRecDepth 65536 in
theorem w_t1 : (words1.take 24).all (fun c => isCode c || c.before args0 about1) = true := by decide +kernel
set_option maxRecDepth 65536 in
theorem w_t2 : ((words1.drop 24).take 24).all (fun c => isCode c || c.before args0 about1) = true := by decide +kernel
set_option maxRecDepth 65536 in
theorem w_t3 : (((words1.drop 24).drop 24).take 24).all (fun c => isCode c || c.before args0 about1) = true := by decide +kernel
set_option maxRecDepth 65536 in
theorem w_t4 : (((words1.drop 24).drop 24).drop 24).all (fun c => isCode c || c.before args0 about1) = true := by decide +kernel
theorem w_tables : (allAtoms (Jvm.Cond.code x code maxLocals ret :: tables_1)).before args0 about1 = true := by
  rw [allAtoms_all]
  show words1.all (fun c => c.before args0 about1) = true
  refine all_split ?_ w_codes
  rw [← List.take_append_drop 24 words1, List.all_append, w_t1, ← List.take_append_drop 24 (words1.drop 24), List.all_append, w_t2, ← List.take_append_drop 24 ((words1.drop 24).drop 24), List.all_append, w_t3, w_t4]
  rfl
set_option maxRecDepth 65536 in
theorem w_case : (Jvm.Cond.and given_1 narrow_1).before args0 about1 = true := by decide +kernel
theorem w_applies : (headSpec (Jvm.Cond.code x code maxLocals ret :: tables_1) room_1).applies x e0.platform about1 = true :=
  (Spec.applies_iff w_frames).mpr ⟨w_running, w_runnable, w_alone, w_named, w_hears, w_ripe, w_room, w_tables⟩
theorem atStart : AtStart classFile x code maxLocals ret World_1 tables_1 room_1 Calls_1 rest_1 Pre_1 launch0 p0 e0 about1 theMethod args0 below0 :=
  ⟨lists_1, trivial, launch0.admits_env _ _ _, launch0.least_env, fairChoices_fair.cas, fairChoices_fair.clock, w_frames, w_args, w_heap, w_applies, trivial, trivial, w_case⟩
end start1
theorem witness_1 : WitnessClaimed_1 := ⟨start1.p0, start1.e0, start1.about1, start1.theMethod, start1.args0, start1.below0, start1.atStart⟩
end Jvm.Pilot.@@N@@
