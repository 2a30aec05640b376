import JvmDerived
import JvmDerived.Pilot.@@N@@Statement
import JvmDerived.Pilot.@@N@@Code
set_option linter.unusedVariables false
set_option linter.unusedSimpArgs false
@@BLOCK:NumsL.lean.txt@@
namespace Jvm.RoadKit
open Sem ClassFile Op Lib Jvm.Stand Jvm.Free Jvm.LawKit
section New
variable {p : Program} {l : Launch} {e : Env} {R : Room} {s : State} {m : MethodId} {args : Array Value} {below : List Frame} {meth : Method} {c : Code} {T : State} {locs : List Loc} {cells slots : Nat}
theorem retI (X : Stand p l e R s m args below meth c T locs cells slots) (hx : p.tables.exec = Jvm.exec) {pc : Nat} {Ls : Array Slot} {z : Int32} {rest : List Value} (hret : meth.sig.returnType = some .int) (hd : decode c.code pc = .ok (.ireturn, 1)) {fs : List Frame}
    (hl : ∀ (f : JFrame) (acts : List Action), f.method = m → f.locked = none → f.entered = [] → (doReturn e (T.setTop f) acts (some (.int z))).1 = T.setFrames fs) : Steps p.tables e below (T.setTop (mkF m pc Ls (.int z :: rest))) (T.setFrames fs) := by
  have hm' : T.vm.method? m = some meth := X.method'
  have hn : narrow .int (.int z) = .int z := rfl
  show Steps p.tables e below (T.setTop { method := m, pc := pc, locals := Ls, stack := _ :: rest, locked := none }) _
  jvm_step X.here [X.here.top, hx, hd, hm', hret, hn]
  first | (intro acts; rw [hl _ acts rfl rfl rfl]) | rw [hl _ _ rfl rfl rfl]
  exact Steps.refl _
end New
end Jvm.RoadKit
namespace Jvm.Pilot.@@N@@
open Jvm Jvm.ClassFile Sem Op Lib Jvm.Free Jvm.Stand Jvm.LawKit Jvm.RoadKit Bundle Jvm.Pilot.@@N@@.Jvm.D

-- numbers
def own_hund (C L : Int32) : Int64 := if 0 < L then (((C.toInt64) * (20000 : Int64)) + (L.toInt64)) / ((2 : Int64) * (L.toInt64)) else (0 : Int64)
theorem own_l1 : (1 : Int64).toInt = 1 := rfl
theorem own_l2 : (2 : Int64).toInt = 2 := rfl
theorem own_l20 : (20000 : Int64).toInt = 20000 := rfl
theorem own_pos {L : Int32} (h : 0 < L) : 0 < L.toInt := by
  rw [Int32.lt_iff_toInt_lt] at h; exact h
theorem own_nz {L : Int32} (h : (0 : Int32) < L) : ¬ (((2 : Int64) * (L.toInt64)) = (0 : Int64)) := by
  have h1 := own_pos h
  have h2 := L.toInt_lt
  have h3 := Jvm.Kit.i64_of_i32 L
  have h4 : ((2 : Int64) * L.toInt64).toInt = 2 * L.toInt := by
    rw [Jvm.Kit.i64_mul (by rw [own_l2]; omega) (by rw [own_l2]; omega), own_l2, h3]
  intro q
  rw [q] at h4
  have h5 : (0 : Int64).toInt = 0 := rfl
  omega
theorem own_nb {L : Int32} (h : 0 ≤ L.toInt) : ¬ (((L.toInt64) + (1 : Int64)) = (0 : Int64)) := by
  have h2 := L.toInt_lt
  have h3 := Jvm.Kit.i64_of_i32 L
  have h4 : (L.toInt64 + (1 : Int64)).toInt = L.toInt + 1 := by
    rw [Jvm.Kit.i64_add (by rw [own_l1]; omega) (by rw [own_l1]; omega), own_l1, h3]
  intro q
  rw [q] at h4
  have h5 : (0 : Int64).toInt = 0 := rfl
  omega
theorem own_cov (c L : Int32) (h : 0 < L.toInt) (C : Int32) (hC : C = ((((c.toInt64) &&& (2147483647 : Int64)) - (((c.toInt64) &&& (2147483647 : Int64)) / ((L.toInt64) + (1 : Int64))) * ((L.toInt64) + (1 : Int64))).toInt32)) : 0 ≤ C.toInt ∧ C.toInt ≤ L.toInt := by
  have hA : (c.toInt64 &&& 2147483647).toInt = c.toInt64.toInt % 2 ^ 31 := Jvm.Kit.i64_mask c.toInt64 2147483647 (k := 31) (by decide) (by decide)
  have hL := Jvm.Kit.i64_of_i32 L
  have hl2 := L.toInt_lt
  have hB : (L.toInt64 + 1).toInt = L.toInt + 1 := by
    rw [Jvm.Kit.i64_add (by rw [own_l1]; omega) (by rw [own_l1]; omega), own_l1, hL]
  have hr := Jvm.Kit.i64_rem_nonneg (x := c.toInt64 &&& 2147483647) (y := L.toInt64 + 1) (by rw [hA]; omega)
  have m0 : 0 ≤ (c.toInt64 &&& 2147483647).toInt % (L.toInt64 + 1).toInt := Int.emod_nonneg _ (by omega)
  have m1 : (c.toInt64 &&& 2147483647).toInt % (L.toInt64 + 1).toInt < (L.toInt64 + 1).toInt := Int.emod_lt_of_pos _ (by omega)
  rw [← hr, hB] at m1
  rw [← hr] at m0
  rw [hC, Jvm.Kit.i32_of_i64 (by omega) (by omega)]
  omega
theorem own_int (c n h : Int) (hn : 0 < n) (hc : 0 ≤ c) (hcn : c ≤ n) (hh : h = (c * 20000 + n) / (2 * n)) : 0 ≤ h ∧ h ≤ 10000 ∧ (2 * h - 1) * n ≤ 20000 * c ∧ 20000 * c < (2 * h + 1) * n := by
  have e1 := Int.ediv_mul_le (c * 20000 + n) (b := 2 * n) (by omega)
  have e2 := Int.lt_ediv_add_one_mul_self (c * 20000 + n) (b := 2 * n) (by omega)
  have e0 : 0 ≤ h := by rw [hh]; exact Int.ediv_nonneg (by omega) (by omega)
  rw [← hh] at e1 e2
  have q1 : h * (2 * n) = 2 * (h * n) := Int.mul_left_comm h 2 n
  have q2 : (h + 1) * (2 * n) = 2 * (h * n) + 2 * n := by rw [Int.add_mul, q1, Int.one_mul]
  have q3 : (2 * h - 1) * n = 2 * (h * n) - n := by rw [Int.sub_mul, Int.mul_assoc, Int.one_mul]
  have q4 : (2 * h + 1) * n = 2 * (h * n) + n := by rw [Int.add_mul, Int.mul_assoc, Int.one_mul]
  rw [q1] at e1
  rw [q2] at e2
  rw [q3, q4]
  refine ⟨e0, ?_, by omega, by omega⟩
  refine Int.not_lt.mp fun q => ?_
  have k := Int.mul_le_mul_of_nonneg_right (show 10001 ≤ h by omega) (Int.le_of_lt hn)
  omega
theorem own_main (C L : Int32) (hL : 0 < L.toInt) (h0 : 0 ≤ C.toInt) (h1 : C.toInt ≤ L.toInt) :
    ¬ (own_hund C L < 0) ∧ ¬ ((10000 : Int64) < own_hund C L) ∧ ¬ ((20000 : Int64) * (C.toInt64) < (((2 : Int64) * (own_hund C L)) - (1 : Int64)) * (L.toInt64)) ∧ (20000 : Int64) * (C.toInt64) < (((2 : Int64) * (own_hund C L)) + (1 : Int64)) * (L.toInt64) := by
  have hL' : (0 : Int32) < L := by rw [Int32.lt_iff_toInt_lt]; exact hL
  have b1 := L.toInt_lt
  have b2 := Jvm.Kit.i64_of_i32 L
  have b3 := Jvm.Kit.i64_of_i32 C
  have b4 : (C.toInt64 * (20000 : Int64)).toInt = C.toInt * 20000 := by
    rw [Jvm.Kit.i64_mul (by rw [own_l20]; omega) (by rw [own_l20]; omega), own_l20, b3]
  have b5 : (C.toInt64 * (20000 : Int64) + L.toInt64).toInt = C.toInt * 20000 + L.toInt := by
    rw [Jvm.Kit.i64_add (by omega) (by omega), b4, b2]
  have b6 : ((2 : Int64) * L.toInt64).toInt = 2 * L.toInt := by
    rw [Jvm.Kit.i64_mul (by rw [own_l2]; omega) (by rw [own_l2]; omega), own_l2, b2]
  have b7 : (own_hund C L).toInt = (C.toInt * 20000 + L.toInt) / (2 * L.toInt) := by
    rw [own_hund, if_pos hL', Jvm.Kit.i64_div (by omega), b5, b6]
    exact Int.tdiv_eq_ediv_of_nonneg (by omega)
  obtain ⟨k1, k2, k3, k4⟩ := own_int C.toInt L.toInt (own_hund C L).toInt hL h0 h1 b7
  generalize own_hund C L = H at *
  have c1 : ((20000 : Int64) * C.toInt64).toInt = 20000 * C.toInt := by
    rw [Jvm.Kit.i64_mul (by rw [own_l20]; omega) (by rw [own_l20]; omega), own_l20, b3]
  have c2 : ((2 : Int64) * H).toInt = 2 * H.toInt := by
    rw [Jvm.Kit.i64_mul (by rw [own_l2]; omega) (by rw [own_l2]; omega), own_l2]
  have c3 : ((2 : Int64) * H - 1).toInt = 2 * H.toInt - 1 := by
    rw [Jvm.Kit.i64_sub (by rw [own_l1]; omega) (by rw [own_l1]; omega), own_l1, c2]
  have c4 : ((2 : Int64) * H + 1).toInt = 2 * H.toInt + 1 := by
    rw [Jvm.Kit.i64_add (by rw [own_l1]; omega) (by rw [own_l1]; omega), own_l1, c2]
  have m1 : (2 * H.toInt - 1) * L.toInt = 2 * (H.toInt * L.toInt) - L.toInt := by rw [Int.sub_mul, Int.mul_assoc, Int.one_mul]
  have m2 : (2 * H.toInt + 1) * L.toInt = 2 * (H.toInt * L.toInt) + L.toInt := by rw [Int.add_mul, Int.mul_assoc, Int.one_mul]
  have m3 := Int.mul_nonneg k1 (Int.le_of_lt hL)
  have m4 := Int.mul_le_mul_of_nonneg_right k2 (Int.le_of_lt hL)
  have c5 : (((2 : Int64) * H - 1) * L.toInt64).toInt = (2 * H.toInt - 1) * L.toInt := by
    rw [Jvm.Kit.i64_mul (by rw [c3, b2, m1]; omega) (by rw [c3, b2, m1]; omega), c3, b2]
  have c6 : (((2 : Int64) * H + 1) * L.toInt64).toInt = (2 * H.toInt + 1) * L.toInt := by
    rw [Jvm.Kit.i64_mul (by rw [c4, b2, m2]; omega) (by rw [c4, b2, m2]; omega), c4, b2]
  have z0 : (0 : Int64).toInt = 0 := rfl
  have z1 : (10000 : Int64).toInt = 10000 := rfl
  simp only [Int64.lt_iff_toInt_lt, c1, c5, c6, z0, z1]
  omega

theorem d2_0 : decode jdk_30_method_1_code 0 = .ok (.aload_n 0, 1) := by decide +kernel
theorem d2_1 : decode jdk_30_method_1_code 1 = .ok (.invokespecial 1, 3) := by decide +kernel
theorem d2_4 : decode jdk_30_method_1_code 4 = .ok (.return_, 1) := by decide +kernel
theorem pn_2 : plainName "java/lang/Record" = true := by first | (simp [plainName, overriddenIn]; done) | decide +kernel
theorem ef_2 (m : MethodId) (x0 : Addr) : entryFrame m #[(.ref x0)] 1 = mkF m 0 #[.val (.ref x0)] [] := by first | (simp [entryFrame, mkF, argsToLocals, Value.category]; done) | rfl
theorem d1_0 : decode prog_16_method_1_code 0 = .ok (.aload_n 0, 1) := by decide +kernel
theorem d1_1 : decode prog_16_method_1_code 1 = .ok (.invokespecial 1, 3) := by decide +kernel
theorem d1_4 : decode prog_16_method_1_code 4 = .ok (.aload_n 0, 1) := by decide +kernel
theorem d1_5 : decode prog_16_method_1_code 5 = .ok (.iload_n 1, 1) := by decide +kernel
theorem d1_6 : decode prog_16_method_1_code 6 = .ok (.putfield 7, 3) := by decide +kernel
theorem d1_9 : decode prog_16_method_1_code 9 = .ok (.aload_n 0, 1) := by decide +kernel
theorem d1_10 : decode prog_16_method_1_code 10 = .ok (.iload_n 2, 1) := by decide +kernel
theorem d1_11 : decode prog_16_method_1_code 11 = .ok (.putfield 13, 3) := by decide +kernel
theorem d1_14 : decode prog_16_method_1_code 14 = .ok (.return_, 1) := by decide +kernel
theorem pn_1 : plainName "com/example/whorl/whorl/compare/Share" = true := by first | (simp [plainName, overriddenIn]; done) | decide +kernel
theorem pdq_0 : parseMethodDescriptor "()V" = some ⟨[], none⟩ := by decide +kernel
theorem ef_1 (m : MethodId) (x0 : Addr) (x1 : Int32) (x2 : Int32) : entryFrame m #[(.ref x0), (.int x1), (.int x2)] 3 = mkF m 0 #[.val (.ref x0), .val (.int x1), .val (.int x2)] [] := by first | (simp [entryFrame, mkF, argsToLocals, Value.category]; done) | rfl
theorem d4_0 : decode prog_16_method_3_code 0 = .ok (.lconst 0, 1) := by decide +kernel
theorem d4_1 : decode prog_16_method_3_code 1 = .ok (.lstore_n 1, 1) := by decide +kernel
theorem d4_2 : decode prog_16_method_3_code 2 = .ok (.aload_n 0, 1) := by decide +kernel
theorem d4_3 : decode prog_16_method_3_code 3 = .ok (.getfield 13, 3) := by decide +kernel
theorem d4_6 : decode prog_16_method_3_code 6 = .ok (.ifCond .le 29, 3) := by decide +kernel
theorem d4_9 : decode prog_16_method_3_code 9 = .ok (.aload_n 0, 1) := by decide +kernel
theorem d4_10 : decode prog_16_method_3_code 10 = .ok (.getfield 7, 3) := by decide +kernel
theorem d4_13 : decode prog_16_method_3_code 13 = .ok (.i2l, 1) := by decide +kernel
theorem d4_14 : decode prog_16_method_3_code 14 = .ok (.ldc2_w 20, 3) := by decide +kernel
theorem d4_17 : decode prog_16_method_3_code 17 = .ok (.lmul, 1) := by decide +kernel
theorem d4_18 : decode prog_16_method_3_code 18 = .ok (.aload_n 0, 1) := by decide +kernel
theorem d4_19 : decode prog_16_method_3_code 19 = .ok (.getfield 13, 3) := by decide +kernel
theorem d4_22 : decode prog_16_method_3_code 22 = .ok (.i2l, 1) := by decide +kernel
theorem d4_23 : decode prog_16_method_3_code 23 = .ok (.ladd, 1) := by decide +kernel
theorem d4_24 : decode prog_16_method_3_code 24 = .ok (.ldc2_w 22, 3) := by decide +kernel
theorem d4_27 : decode prog_16_method_3_code 27 = .ok (.aload_n 0, 1) := by decide +kernel
theorem d4_28 : decode prog_16_method_3_code 28 = .ok (.getfield 13, 3) := by decide +kernel
theorem d4_31 : decode prog_16_method_3_code 31 = .ok (.i2l, 1) := by decide +kernel
theorem d4_32 : decode prog_16_method_3_code 32 = .ok (.lmul, 1) := by decide +kernel
theorem d4_33 : decode prog_16_method_3_code 33 = .ok (.ldiv, 1) := by decide +kernel
theorem d4_34 : decode prog_16_method_3_code 34 = .ok (.lstore_n 1, 1) := by decide +kernel
theorem d4_35 : decode prog_16_method_3_code 35 = .ok (.lload_n 1, 1) := by decide +kernel
theorem d4_36 : decode prog_16_method_3_code 36 = .ok (.lreturn, 1) := by decide +kernel
theorem pn_4 : plainName "com/example/whorl/whorl/compare/Share" = true := by first | (simp [plainName, overriddenIn]; done) | decide +kernel
theorem ef_4 (m : MethodId) (x0 : Addr) : entryFrame m #[(.ref x0)] 3 = mkF m 0 #[.val (.ref x0), .unset, .unset] [] := by first | (simp [entryFrame, mkF, argsToLocals, Value.category]; done) | rfl
theorem os0_3_5 {s0 : Slot} {s1 : Slot} {z2 : Value} {s3 : Slot} {s4 : Slot} {s5 : Slot} {s6 : Slot} {s7 : Slot} {s8 : Slot} {s9 : Slot} {v : Int32} (h : One s3) : storeLocals #[s0, s1, .val z2, s3, s4, s5, s6, s7, s8, s9] 3 (.int v) = some #[s0, s1, .val z2, .val (.int v), s4, s5, s6, s7, s8, s9] := by
  rcases h with rfl | ⟨w, rfl, hw⟩
  · rfl
  · cases w <;> first | rfl | (simp [Value.category] at hw)
theorem os0_9_5 {s0 : Slot} {s1 : Slot} {z2 : Value} {z3 : Value} {s4 : Slot} {s5 : Slot} {s6 : Slot} {s7 : Slot} {s8 : Slot} {s9 : Slot} {v : Int32} (h : One s4) : storeLocals #[s0, s1, .val z2, .val z3, s4, s5, s6, s7, s8, s9] 4 (.int v) = some #[s0, s1, .val z2, .val z3, .val (.int v), s5, s6, s7, s8, s9] := by
  rcases h with rfl | ⟨w, rfl, hw⟩
  · rfl
  · cases w <;> first | rfl | (simp [Value.category] at hw)
theorem os0_3_6 {s0 : Slot} {z1 : Value} {z2 : Value} {s3 : Slot} {s4 : Slot} {s5 : Slot} {s6 : Slot} {s7 : Slot} {s8 : Slot} {s9 : Slot} {v : Int32} (h : One s3) : storeLocals #[s0, .val z1, .val z2, s3, s4, s5, s6, s7, s8, s9] 3 (.int v) = some #[s0, .val z1, .val z2, .val (.int v), s4, s5, s6, s7, s8, s9] := by
  rcases h with rfl | ⟨w, rfl, hw⟩
  · rfl
  · cases w <;> first | rfl | (simp [Value.category] at hw)
theorem os0_24_6 {s0 : Slot} {z1 : Value} {z2 : Value} {z3 : Value} {s4 : Slot} {s5 : Slot} {s6 : Slot} {s7 : Slot} {s8 : Slot} {s9 : Slot} {v : Int32} (h : One s4) : storeLocals #[s0, .val z1, .val z2, .val z3, s4, s5, s6, s7, s8, s9] 4 (.int v) = some #[s0, .val z1, .val z2, .val z3, .val (.int v), s5, s6, s7, s8, s9] := by
  rcases h with rfl | ⟨w, rfl, hw⟩
  · rfl
  · cases w <;> first | rfl | (simp [Value.category] at hw)
theorem os0_3_7 {s0 : Slot} {z1 : Value} {z2 : Value} {s3 : Slot} {s4 : Slot} {s5 : Slot} {s6 : Slot} {s7 : Slot} {s8 : Slot} {s9 : Slot} {v : Int32} (h : One s3) : storeLocals #[s0, .val z1, .val z2, s3, s4, s5, s6, s7, s8, s9] 3 (.int v) = some #[s0, .val z1, .val z2, .val (.int v), s4, s5, s6, s7, s8, s9] := by
  rcases h with rfl | ⟨w, rfl, hw⟩
  · rfl
  · cases w <;> first | rfl | (simp [Value.category] at hw)
theorem os0_33_7 {s0 : Slot} {z1 : Value} {z2 : Value} {z3 : Value} {s4 : Slot} {s5 : Slot} {s6 : Slot} {s7 : Slot} {s8 : Slot} {s9 : Slot} {v : Int32} (h : One s4) : storeLocals #[s0, .val z1, .val z2, .val z3, s4, s5, s6, s7, s8, s9] 4 (.int v) = some #[s0, .val z1, .val z2, .val z3, .val (.int v), s5, s6, s7, s8, s9] := by
  rcases h with rfl | ⟨w, rfl, hw⟩
  · rfl
  · cases w <;> first | rfl | (simp [Value.category] at hw)
theorem os0_41_8 {z0 : Value} {s1 : Slot} {s2 : Slot} {s3 : Slot} {z4 : Value} {s5 : Slot} {s6 : Slot} {s7 : Slot} {s8 : Slot} {s9 : Slot} {v : Int32} (h : One s5) : storeLocals #[.val z0, s1, s2, s3, .val z4, s5, s6, s7, s8, s9] 5 (.int v) = some #[.val z0, s1, s2, s3, .val z4, .val (.int v), s6, s7, s8, s9] := by
  rcases h with rfl | ⟨w, rfl, hw⟩
  · rfl
  · cases w <;> first | rfl | (simp [Value.category] at hw)
theorem os0_59_9 {z0 : Value} {s1 : Slot} {s2 : Slot} {s3 : Slot} {z4 : Value} {s5 : Slot} {s6 : Slot} {s7 : Slot} {s8 : Slot} {s9 : Slot} {v : Int32} (h : One s5) : storeLocals #[.val z0, s1, s2, s3, .val z4, s5, s6, s7, s8, s9] 5 (.int v) = some #[.val z0, s1, s2, s3, .val z4, .val (.int v), s6, s7, s8, s9] := by
  rcases h with rfl | ⟨w, rfl, hw⟩
  · rfl
  · cases w <;> first | rfl | (simp [Value.category] at hw)
theorem pdq_1 : parseMethodDescriptor "(II)V" = some ⟨[.int, .int], none⟩ := by decide +kernel
theorem pdq_2 : parseMethodDescriptor "()J" = some ⟨[], some .long⟩ := by decide +kernel
theorem pn_0 : plainName "com/example/whorl/whorl/compare/ShareHundredthsPinLaw" = true := by first | (simp [plainName, overriddenIn]; done) | decide +kernel
theorem ef_0 (m : MethodId) (x0 : Int32) (x1 : Int32) (x2 : Int32) : entryFrame m #[(.int x0), (.int x1), (.int x2)] maxLocals = mkF m 0 #[.val (.int x0), .val (.int x1), .val (.int x2), .unset, .unset, .unset, .unset, .unset, .unset, .unset] [] := by first | (simp [entryFrame, mkF, argsToLocals, Value.category, maxLocals]; done) | rfl

def Q2 (Z : State) (a1 : Addr) (h0 : Heap) (n0 : Nat) (v : Option Value) (h : Heap) (L : List Loc) : Prop := v = none ∧ Fr n0 L ∧ h = h0
set_option maxRecDepth 65536 in
set_option maxHeartbeats 40000000 in
theorem rm2 (l : Launch) (Z : State) (a0 : Array Value) (hw : ∀ d ∈ tables_1, d.before a0 Z = true) (ws : List Jvm.Cond) (a1 : Addr) (h0 : Heap) (n0 : Nat) (Z0 : n0 ≤ h0.size) :
    MetFree l (⟨"java/lang/Record", "<init>", "()V"⟩ : MethodName) (head1 (Jvm.Cond.code (⟨"java/lang/Record", "<init>", "()V"⟩ : MethodName) jdk_30_method_1_code 1 none :: ws) ({ frames := 1, cells := 0, slots := 0, locals := 12 } : Room)) (fun a U => a = #[(.ref a1)] ∧ Z.Warmed39 U.vm ∧ U.heap = h0) (fun _ _ _ _ _ => True) (fun _ U o U' => ∃ v L, o = .returned v ∧ Q2 Z a1 h0 n0 v U'.heap L ∧ FrameEnd U o U' L ({ frames := 1, cells := 0, slots := 0, locals := 12 } : Room).cells ({ frames := 1, cells := 0, slots := 0, locals := 12 } : Room).slots) := by
  refine MetFree.of_bodySF (plainFor_of_name pn_2) hisR ?_
  intro p e s m args below meth c s₁ Bd hml0 hP hK
  obtain ⟨rfl, hZ, hh⟩ := hP
  have hx := Bd.exec
  have hby := Bd.bytes
  have hml : c.maxLocals = 1 := hml0
  have hown : s.vm.findClass "java/lang/Record" = some m.cls := findClass_of_methodNamed Bd.named
  have hnm := (name_of_methodNamed Bd.named Bd.method).1
  have X0 : Stand p l e ({ frames := 1, cells := 0, slots := 0, locals := 12 } : Room) s m #[(.ref a1)] below meth c s₁ [] 0 0 := Stand.of_body Bd
  have e0 : s₁.heap = h0 := by rw [← hh, Bd.state]; rfl
  have N0 := Fr.nil n0
  have pre0 : ∀ t, Steps p.tables e below (s₁.setTop (mkF m 0 #[.val (.ref a1)] [])) t → Steps p.tables e below (s₁.setTop (entryFrame m #[(.ref a1)] 1)) t := fun t k => castTop (ef_2 m a1) k
  obtain ⟨T2, X2, e2, st2⟩ := initO X0 hx hZ hown (hw _ (List.mem_of_getElem? (i := 13) rfl)) (hw _ (List.mem_of_getElem? (i := 14) rfl)) (hw _ (List.mem_of_getElem? (i := 15) rfl)) e0 (g := (mkF m 1 #[.val (.ref a1)] [(.ref a1)])) rfl (by rw [hml]; rfl) rfl (hb hby d2_1) (by decide) (W := 0) (by show 2 * 0 + _ ≤ _; exact Nat.le_of_eq rfl) (by decide)
  obtain ⟨fs, hr, hrun, hended, hW, hsame⟩ := X2.leave (v := none) (fun _ => rfl)
  refine ⟨_, _, pre0 _ ?_, hrun, hended, _, _, rfl, ?_, ⟨_, rfl⟩, hW, hsame.mono (by decide) (by decide)⟩
  · show Steps p.tables e below (s₁.setTop (mkF m 0 #[.val (.ref a1)] [])) _
    refine XS.aloadN X0.here hx rfl (hb hby d2_0) rfl rfl ?_
    show Steps p.tables e below (s₁.setTop (mkF m 1 #[.val (.ref a1)] [(.ref a1)])) _
    refine st2 _ ?_
    show Steps p.tables e below (T2.setTop (mkF m 4 #[.val (.ref a1)] [])) _
    exact X2.returnOut hx Bd.returns (hb hby d2_4) hr
  · show Q2 Z a1 h0 n0 _ T2.heap _
    rw [e2]
    exact ⟨rfl, N0, rfl⟩
def Q1 (Z : State) (a1 : Addr) (p2 : Int32) (p3 : Int32) (u_covered_a1 : Value) (u_length_a1 : Value) (h0 : Heap) (n0 : Nat) (v : Option Value) (h : Heap) (L : List Loc) : Prop := v = none ∧ Fr n0 L ∧ Keep h0 h [a1] ∧ Exa Z h a1 "com/example/whorl/whorl/compare/Share" ∧ Fld Z h a1 "com/example/whorl/whorl/compare/Share" "covered" "I" (.int p2) ∧ Fld Z h a1 "com/example/whorl/whorl/compare/Share" "length" "I" (.int p3)
set_option maxRecDepth 65536 in
set_option maxHeartbeats 40000000 in
theorem rm1 (l : Launch) (Z : State) (a0 : Array Value) (hw : ∀ d ∈ tables_1, d.before a0 Z = true) (ws : List Jvm.Cond) (a1 : Addr) (p2 : Int32) (p3 : Int32) (u_covered_a1 : Value) (u_length_a1 : Value) (h0 : Heap) (n0 : Nat) (Z0 : n0 ≤ h0.size) (E_a1 : Exa Z h0 a1 "com/example/whorl/whorl/compare/Share") (F_covered_a1 : Fld Z h0 a1 "com/example/whorl/whorl/compare/Share" "covered" "I" u_covered_a1) (g_a1 : n0 ≤ a1) (F_length_a1 : Fld Z h0 a1 "com/example/whorl/whorl/compare/Share" "length" "I" u_length_a1) :
    MetFree l (⟨"com/example/whorl/whorl/compare/Share", "<init>", "(II)V"⟩ : MethodName) (head1 (Jvm.Cond.code (⟨"com/example/whorl/whorl/compare/Share", "<init>", "(II)V"⟩ : MethodName) prog_16_method_1_code 3 none :: ws) ({ frames := 2, cells := 0, slots := 0, locals := 24 } : Room)) (fun a U => a = #[(.ref a1), (.int p2), (.int p3)] ∧ Z.Warmed39 U.vm ∧ U.heap = h0) (fun _ _ _ _ _ => True) (fun _ U o U' => ∃ v L, o = .returned v ∧ Q1 Z a1 p2 p3 u_covered_a1 u_length_a1 h0 n0 v U'.heap L ∧ FrameEnd U o U' L ({ frames := 2, cells := 0, slots := 0, locals := 24 } : Room).cells ({ frames := 2, cells := 0, slots := 0, locals := 24 } : Room).slots) := by
  refine MetFree.of_bodySF (plainFor_of_name pn_1) hisR ?_
  intro p e s m args below meth c s₁ Bd hml0 hP hK
  obtain ⟨rfl, hZ, hh⟩ := hP
  have hx := Bd.exec
  have hby := Bd.bytes
  have hml : c.maxLocals = 3 := hml0
  have hown : s.vm.findClass "com/example/whorl/whorl/compare/Share" = some m.cls := findClass_of_methodNamed Bd.named
  have hnm := (name_of_methodNamed Bd.named Bd.method).1
  have X0 : Stand p l e ({ frames := 2, cells := 0, slots := 0, locals := 24 } : Room) s m #[(.ref a1), (.int p2), (.int p3)] below meth c s₁ [] 0 0 := Stand.of_body Bd
  have e0 : s₁.heap = h0 := by rw [← hh, Bd.state]; rfl
  have N0 := Fr.nil n0
  have pre0 : ∀ t, Steps p.tables e below (s₁.setTop (mkF m 0 #[.val (.ref a1), .val (.int p2), .val (.int p3)] [])) t → Steps p.tables e below (s₁.setTop (entryFrame m #[(.ref a1), (.int p2), (.int p3)] 3)) t := fun t k => castTop (ef_1 m a1 p2 p3) k
  obtain ⟨_, _, ⟨T4, L4, k4, n4⟩, -, X4, ⟨Lc4, hQ4, l4, y4, z4⟩, st4⟩ := X0.specialBack hx (y := (⟨"java/lang/Record", "<init>", "()V"⟩ : MethodName)) rfl hown (mvT hZ (hw _ (List.mem_of_getElem? (i := 8) rfl))) (mvT hZ (hw _ (List.mem_of_getElem? (i := 9) rfl))) (mvT hZ (hw _ (List.mem_of_getElem? (i := 12) rfl))) (by decide) (backOf (W := 0) (rm2 l Z a0 hw [] a1 h0 n0 Z0) hZ (hw _ (List.mem_of_getElem? (i := 12) rfl)) (hw _ (List.mem_of_getElem? (i := 11) rfl)) (by decide) (by decide)) (g := (mkF m 1 #[.val (.ref a1), .val (.int p2), .val (.int p3)] [(.ref a1)])) rfl (by rw [hml]; rfl) (Steps.refl _) (a := a1) (argsL := []) (rest := []) (lenOf pdq_0 rfl) rfl (by show 2 * 0 + _ ≤ _; exact Nat.le_of_eq rfl) (hb hby d1_1) (fun _ _ => ⟨rfl, e0, (by decide : 0 + 0 ≤ _), (by decide : 0 + 0 ≤ _)⟩)
  dsimp only [Pt.U, Pt.locs, Pt.cells, Pt.slots] at X4 l4 y4 z4 st4 hQ4
  subst l4 y4 z4
  obtain ⟨rfl, N4q, e4⟩ := hQ4
  have N4 := Fr.app N0 N4q
  obtain ⟨T5, h5, X5, e5, W5, st5⟩ := putF X4 hx hZ hown (host := "") (Or.inl (hw _ (List.mem_of_getElem? (i := 16) rfl))) Via.refl e4 F_covered_a1 E_a1 (Or.inr ⟨(hw _ (List.mem_of_getElem? (i := 17) rfl)), rfl, hnm⟩) (hw _ (List.mem_of_getElem? (i := 3) rfl)) (ty := .int) (by decide) rfl rfl (g := (mkF m 6 #[.val (.ref a1), .val (.int p2), .val (.int p3)] [(.int p2), (.ref a1)])) rfl rfl (hb hby d1_6)
  have Fw5 := F_covered_a1.same W5
  have K5 : Keep h0 h5 [a1] := (Keep.refl h0 [a1]).wr W5 (Or.inl (List.mem_of_getElem? (i := 0) rfl))
  have N5 := Fr.snoc X5 N4 g_a1
  obtain ⟨T6, h6, X6, e6, W6, st6⟩ := putF X5 hx hZ hown (host := "") (Or.inl (hw _ (List.mem_of_getElem? (i := 18) rfl))) Via.refl e5 (F_length_a1.other W5 (Or.inr (slot_ne (Or.inr (hw _ (List.mem_of_getElem? (i := 19) rfl))) (Or.inr (hw _ (List.mem_of_getElem? (i := 17) rfl))) (by decide) (t := .int) (t' := .int) (by decide) (by decide)))) (E_a1.wr W5) (Or.inr ⟨(hw _ (List.mem_of_getElem? (i := 19) rfl)), rfl, hnm⟩) (hw _ (List.mem_of_getElem? (i := 3) rfl)) (ty := .int) (by decide) rfl rfl (g := (mkF m 11 #[.val (.ref a1), .val (.int p2), .val (.int p3)] [(.int p3), (.ref a1)])) rfl rfl (hb hby d1_11)
  have Fw6 := (F_length_a1.other W5 (Or.inr (slot_ne (Or.inr (hw _ (List.mem_of_getElem? (i := 19) rfl))) (Or.inr (hw _ (List.mem_of_getElem? (i := 17) rfl))) (by decide) (t := .int) (t' := .int) (by decide) (by decide)))).same W6
  have K6 : Keep h0 h6 [a1] := K5.wr W6 (Or.inl (List.mem_of_getElem? (i := 0) rfl))
  have N6 := Fr.snoc X6 N5 g_a1
  obtain ⟨fs, hr, hrun, hended, hW, hsame⟩ := X6.leave (v := none) (fun _ => rfl)
  refine ⟨_, _, pre0 _ ?_, hrun, hended, _, _, rfl, ?_, ⟨_, rfl⟩, hW, hsame.mono (by decide) (by decide)⟩
  · show Steps p.tables e below (s₁.setTop (mkF m 0 #[.val (.ref a1), .val (.int p2), .val (.int p3)] [])) _
    refine XS.aloadN X0.here hx rfl (hb hby d1_0) rfl rfl ?_
    show Steps p.tables e below (s₁.setTop (mkF m 1 #[.val (.ref a1), .val (.int p2), .val (.int p3)] [(.ref a1)])) _
    refine st4.trans ?_
    show Steps p.tables e below (T4.setTop (mkF m 4 #[.val (.ref a1), .val (.int p2), .val (.int p3)] [])) _
    refine XS.aloadN X4.here hx rfl (hb hby d1_4) rfl rfl ?_
    show Steps p.tables e below (T4.setTop (mkF m 5 #[.val (.ref a1), .val (.int p2), .val (.int p3)] [(.ref a1)])) _
    refine XS.iloadN X4.here hx rfl (hb hby d1_5) rfl ?_
    show Steps p.tables e below (T4.setTop (mkF m 6 #[.val (.ref a1), .val (.int p2), .val (.int p3)] [(.int p2), (.ref a1)])) _
    refine st5 _ ?_
    show Steps p.tables e below (T5.setTop (mkF m 9 #[.val (.ref a1), .val (.int p2), .val (.int p3)] [])) _
    refine XS.aloadN X5.here hx rfl (hb hby d1_9) rfl rfl ?_
    show Steps p.tables e below (T5.setTop (mkF m 10 #[.val (.ref a1), .val (.int p2), .val (.int p3)] [(.ref a1)])) _
    refine XS.iloadN X5.here hx rfl (hb hby d1_10) rfl ?_
    show Steps p.tables e below (T5.setTop (mkF m 11 #[.val (.ref a1), .val (.int p2), .val (.int p3)] [(.int p3), (.ref a1)])) _
    refine st6 _ ?_
    show Steps p.tables e below (T6.setTop (mkF m 14 #[.val (.ref a1), .val (.int p2), .val (.int p3)] [])) _
    exact X6.returnOut hx Bd.returns (hb hby d1_14) hr
  · show Q1 Z a1 p2 p3 u_covered_a1 u_length_a1 h0 n0 _ T6.heap _
    rw [e6]
    exact ⟨rfl, N6, K6, (E_a1.wr W5).wr W6, Fw5.other W6 (Or.inr (slot_ne (Or.inr (hw _ (List.mem_of_getElem? (i := 17) rfl))) (Or.inr (hw _ (List.mem_of_getElem? (i := 19) rfl))) (by decide) (t := .int) (t' := .int) (by decide) (by decide))), Fw6⟩
def Q4 (Z : State) (a1 : Addr) (w2 : Int32) (w4 : Int32) (h0 : Heap) (n0 : Nat) (v : Option Value) (h : Heap) (L : List Loc) : Prop := v = some (.long (own_hund w4 w2)) ∧ Fr n0 L ∧ h = h0
set_option maxRecDepth 65536 in
set_option maxHeartbeats 40000000 in
theorem rm4f (l : Launch) (Z : State) (a0 : Array Value) (hw : ∀ d ∈ tables_1, d.before a0 Z = true) (ws : List Jvm.Cond) (a1 : Addr) (w2 : Int32) (w4 : Int32) (h0 : Heap) (n0 : Nat) (Z0 : n0 ≤ h0.size) (F_length_a1 : Fld Z h0 a1 "com/example/whorl/whorl/compare/Share" "length" "I" (.int w2)) (F_covered_a1 : Fld Z h0 a1 "com/example/whorl/whorl/compare/Share" "covered" "I" (.int w4)) (hc6 : (0 : Int32) < w2) (hnz33 : ¬ (((2 : Int64) * (w2.toInt64)) = (0 : Int64))) :
    MetFree l (⟨"com/example/whorl/whorl/compare/Share", "hundredths", "()J"⟩ : MethodName) (head1 (Jvm.Cond.code (⟨"com/example/whorl/whorl/compare/Share", "hundredths", "()J"⟩ : MethodName) prog_16_method_3_code 3 (some .long) :: ws) ({ frames := 0, cells := 0, slots := 0, locals := 0 } : Room)) (fun a U => a = #[(.ref a1)] ∧ Z.Warmed39 U.vm ∧ U.heap = h0) (fun _ _ _ _ _ => True) (fun _ U o U' => ∃ v L, o = .returned v ∧ Q4 Z a1 w2 w4 h0 n0 v U'.heap L ∧ FrameEnd U o U' L ({ frames := 0, cells := 0, slots := 0, locals := 0 } : Room).cells ({ frames := 0, cells := 0, slots := 0, locals := 0 } : Room).slots) := by
  refine MetFree.of_bodySF (plainFor_of_name pn_4) hisR ?_
  intro p e s m args below meth c s₁ Bd hml0 hP hK
  obtain ⟨rfl, hZ, hh⟩ := hP
  have hx := Bd.exec
  have hby := Bd.bytes
  have hml : c.maxLocals = 3 := hml0
  have hown : s.vm.findClass "com/example/whorl/whorl/compare/Share" = some m.cls := findClass_of_methodNamed Bd.named
  have hnm := (name_of_methodNamed Bd.named Bd.method).1
  have X0 : Stand p l e ({ frames := 0, cells := 0, slots := 0, locals := 0 } : Room) s m #[(.ref a1)] below meth c s₁ [] 0 0 := Stand.of_body Bd
  have e0 : s₁.heap = h0 := by rw [← hh, Bd.state]; rfl
  have N0 := Fr.nil n0
  have pre0 : ∀ t, Steps p.tables e below (s₁.setTop (mkF m 0 #[.val (.ref a1), .unset, .unset] [])) t → Steps p.tables e below (s₁.setTop (entryFrame m #[(.ref a1)] 3)) t := fun t k => castTop (ef_4 m a1) k
  obtain ⟨T3, X3, e3, st3⟩ := getF X0 hx hZ hown (host := "") (Or.inl (hw _ (List.mem_of_getElem? (i := 18) rfl))) Via.refl e0 F_length_a1 (g := (mkF m 3 #[.val (.ref a1), .val (.long (0 : Int64)), .second] [(.ref a1)])) rfl rfl (hb hby d4_3)
  obtain ⟨T5, X5, e5, st5⟩ := getF X3 hx hZ hown (host := "") (Or.inl (hw _ (List.mem_of_getElem? (i := 16) rfl))) Via.refl e3 F_covered_a1 (g := (mkF m 10 #[.val (.ref a1), .val (.long (0 : Int64)), .second] [(.ref a1)])) rfl rfl (hb hby d4_10)
  obtain ⟨T6, X6, e6, st6⟩ := getF X5 hx hZ hown (host := "") (Or.inl (hw _ (List.mem_of_getElem? (i := 18) rfl))) Via.refl e5 F_length_a1 (g := (mkF m 19 #[.val (.ref a1), .val (.long (0 : Int64)), .second] [(.ref a1), (.long ((w4.toInt64) * (20000 : Int64)))])) rfl rfl (hb hby d4_19)
  obtain ⟨T7, X7, e7, st7⟩ := getF X6 hx hZ hown (host := "") (Or.inl (hw _ (List.mem_of_getElem? (i := 18) rfl))) Via.refl e6 F_length_a1 (g := (mkF m 28 #[.val (.ref a1), .val (.long (0 : Int64)), .second] [(.ref a1), (.long (2 : Int64)), (.long (((w4.toInt64) * (20000 : Int64)) + (w2.toInt64)))])) rfl rfl (hb hby d4_28)
  obtain ⟨fs, hr, hrun, hended, hW, hsame⟩ := X7.leave (v := some (.long ((((w4.toInt64) * (20000 : Int64)) + (w2.toInt64)) / ((2 : Int64) * (w2.toInt64))))) (fun h => by rw [Bd.returns] at h; cases h)
  refine ⟨_, _, pre0 _ ?_, hrun, hended, _, _, rfl, ?_, ⟨_, rfl⟩, hW, hsame.mono (by decide) (by decide)⟩
  · show Steps p.tables e below (s₁.setTop (mkF m 0 #[.val (.ref a1), .unset, .unset] [])) _
    refine XS.lconst X0.here hx rfl (hb hby d4_0) ?_
    show Steps p.tables e below (s₁.setTop (mkF m 1 #[.val (.ref a1), .unset, .unset] [(.long (0 : Int64))])) _
    refine XS.lstoreN X0.here hx rfl (hb hby d4_1) rfl (l' := #[.val (.ref a1), .val (.long (0 : Int64)), .second]) rfl ?_
    show Steps p.tables e below (s₁.setTop (mkF m 2 #[.val (.ref a1), .val (.long (0 : Int64)), .second] [])) _
    refine XS.aloadN X0.here hx rfl (hb hby d4_2) rfl rfl ?_
    show Steps p.tables e below (s₁.setTop (mkF m 3 #[.val (.ref a1), .val (.long (0 : Int64)), .second] [(.ref a1)])) _
    refine st3 _ ?_
    show Steps p.tables e below (T3.setTop (mkF m 6 #[.val (.ref a1), .val (.long (0 : Int64)), .second] [(.int w2)])) _
    refine XS.ifNo X3.here hx rfl (hb hby d4_6) rfl ((if0 _ _).trans (tlt hc6).2.2.2) ?_
    show Steps p.tables e below (T3.setTop (mkF m 9 #[.val (.ref a1), .val (.long (0 : Int64)), .second] [])) _
    refine XS.aloadN X3.here hx rfl (hb hby d4_9) rfl rfl ?_
    show Steps p.tables e below (T3.setTop (mkF m 10 #[.val (.ref a1), .val (.long (0 : Int64)), .second] [(.ref a1)])) _
    refine st5 _ ?_
    show Steps p.tables e below (T5.setTop (mkF m 13 #[.val (.ref a1), .val (.long (0 : Int64)), .second] [(.int w4)])) _
    refine XS.i2l X5.here hx rfl (hb hby d4_13) rfl ?_
    show Steps p.tables e below (T5.setTop (mkF m 14 #[.val (.ref a1), .val (.long (0 : Int64)), .second] [(.long (w4.toInt64))])) _
    refine X5.ldc2Long hx hown (mvT hZ (hw _ (List.mem_of_getElem? (i := 25) rfl))) (g := (mkF m 14 #[.val (.ref a1), .val (.long (0 : Int64)), .second] [(.long (w4.toInt64))])) rfl (hb hby d4_14) _ ?_
    show Steps p.tables e below (T5.setTop (mkF m 17 #[.val (.ref a1), .val (.long (0 : Int64)), .second] [(.long (20000 : Int64)), (.long (w4.toInt64))])) _
    refine XS.lmul X5.here hx rfl (hb hby d4_17) rfl ?_
    show Steps p.tables e below (T5.setTop (mkF m 18 #[.val (.ref a1), .val (.long (0 : Int64)), .second] [(.long ((w4.toInt64) * (20000 : Int64)))])) _
    refine XS.aloadN X5.here hx rfl (hb hby d4_18) rfl rfl ?_
    show Steps p.tables e below (T5.setTop (mkF m 19 #[.val (.ref a1), .val (.long (0 : Int64)), .second] [(.ref a1), (.long ((w4.toInt64) * (20000 : Int64)))])) _
    refine st6 _ ?_
    show Steps p.tables e below (T6.setTop (mkF m 22 #[.val (.ref a1), .val (.long (0 : Int64)), .second] [(.int w2), (.long ((w4.toInt64) * (20000 : Int64)))])) _
    refine XS.i2l X6.here hx rfl (hb hby d4_22) rfl ?_
    show Steps p.tables e below (T6.setTop (mkF m 23 #[.val (.ref a1), .val (.long (0 : Int64)), .second] [(.long (w2.toInt64)), (.long ((w4.toInt64) * (20000 : Int64)))])) _
    refine XS.ladd X6.here hx rfl (hb hby d4_23) rfl ?_
    show Steps p.tables e below (T6.setTop (mkF m 24 #[.val (.ref a1), .val (.long (0 : Int64)), .second] [(.long (((w4.toInt64) * (20000 : Int64)) + (w2.toInt64)))])) _
    refine X6.ldc2Long hx hown (mvT hZ (hw _ (List.mem_of_getElem? (i := 26) rfl))) (g := (mkF m 24 #[.val (.ref a1), .val (.long (0 : Int64)), .second] [(.long (((w4.toInt64) * (20000 : Int64)) + (w2.toInt64)))])) rfl (hb hby d4_24) _ ?_
    show Steps p.tables e below (T6.setTop (mkF m 27 #[.val (.ref a1), .val (.long (0 : Int64)), .second] [(.long (2 : Int64)), (.long (((w4.toInt64) * (20000 : Int64)) + (w2.toInt64)))])) _
    refine XS.aloadN X6.here hx rfl (hb hby d4_27) rfl rfl ?_
    show Steps p.tables e below (T6.setTop (mkF m 28 #[.val (.ref a1), .val (.long (0 : Int64)), .second] [(.ref a1), (.long (2 : Int64)), (.long (((w4.toInt64) * (20000 : Int64)) + (w2.toInt64)))])) _
    refine st7 _ ?_
    show Steps p.tables e below (T7.setTop (mkF m 31 #[.val (.ref a1), .val (.long (0 : Int64)), .second] [(.int w2), (.long (2 : Int64)), (.long (((w4.toInt64) * (20000 : Int64)) + (w2.toInt64)))])) _
    refine XS.i2l X7.here hx rfl (hb hby d4_31) rfl ?_
    show Steps p.tables e below (T7.setTop (mkF m 32 #[.val (.ref a1), .val (.long (0 : Int64)), .second] [(.long (w2.toInt64)), (.long (2 : Int64)), (.long (((w4.toInt64) * (20000 : Int64)) + (w2.toInt64)))])) _
    refine XS.lmul X7.here hx rfl (hb hby d4_32) rfl ?_
    show Steps p.tables e below (T7.setTop (mkF m 33 #[.val (.ref a1), .val (.long (0 : Int64)), .second] [(.long ((2 : Int64) * (w2.toInt64))), (.long (((w4.toInt64) * (20000 : Int64)) + (w2.toInt64)))])) _
    refine XS.ldiv X7.here hx rfl (hb hby d4_33) rfl hnz33 ?_
    show Steps p.tables e below (T7.setTop (mkF m 34 #[.val (.ref a1), .val (.long (0 : Int64)), .second] [(.long ((((w4.toInt64) * (20000 : Int64)) + (w2.toInt64)) / ((2 : Int64) * (w2.toInt64))))])) _
    refine XS.lstoreN X7.here hx rfl (hb hby d4_34) rfl (l' := #[.val (.ref a1), .val (.long ((((w4.toInt64) * (20000 : Int64)) + (w2.toInt64)) / ((2 : Int64) * (w2.toInt64)))), .second]) rfl ?_
    show Steps p.tables e below (T7.setTop (mkF m 35 #[.val (.ref a1), .val (.long ((((w4.toInt64) * (20000 : Int64)) + (w2.toInt64)) / ((2 : Int64) * (w2.toInt64)))), .second] [])) _
    refine XS.lloadN X7.here hx rfl (hb hby d4_35) rfl ?_
    show Steps p.tables e below (T7.setTop (mkF m 36 #[.val (.ref a1), .val (.long ((((w4.toInt64) * (20000 : Int64)) + (w2.toInt64)) / ((2 : Int64) * (w2.toInt64)))), .second] [(.long ((((w4.toInt64) * (20000 : Int64)) + (w2.toInt64)) / ((2 : Int64) * (w2.toInt64))))])) _
    jvm_step X7.here [X7.here.top, hx, (hb hby d4_36), X7.method', Bd.returns, narrow]
    first | (intro acts; rw [hr _ acts rfl rfl rfl]) | rw [hr _ _ rfl rfl rfl]
    exact Steps.refl _
  · show Q4 Z a1 w2 w4 h0 n0 _ T7.heap _
    rw [e7]
    exact ⟨by rw [own_hund, if_pos hc6], N0, rfl⟩
set_option maxRecDepth 65536 in
set_option maxHeartbeats 40000000 in
theorem rm4t (l : Launch) (Z : State) (a0 : Array Value) (hw : ∀ d ∈ tables_1, d.before a0 Z = true) (ws : List Jvm.Cond) (a1 : Addr) (w2 : Int32) (w4 : Int32) (h0 : Heap) (n0 : Nat) (Z0 : n0 ≤ h0.size) (F_length_a1 : Fld Z h0 a1 "com/example/whorl/whorl/compare/Share" "length" "I" (.int w2)) (hc6 : ¬ ((0 : Int32) < w2)) :
    MetFree l (⟨"com/example/whorl/whorl/compare/Share", "hundredths", "()J"⟩ : MethodName) (head1 (Jvm.Cond.code (⟨"com/example/whorl/whorl/compare/Share", "hundredths", "()J"⟩ : MethodName) prog_16_method_3_code 3 (some .long) :: ws) ({ frames := 0, cells := 0, slots := 0, locals := 0 } : Room)) (fun a U => a = #[(.ref a1)] ∧ Z.Warmed39 U.vm ∧ U.heap = h0) (fun _ _ _ _ _ => True) (fun _ U o U' => ∃ v L, o = .returned v ∧ Q4 Z a1 w2 w4 h0 n0 v U'.heap L ∧ FrameEnd U o U' L ({ frames := 0, cells := 0, slots := 0, locals := 0 } : Room).cells ({ frames := 0, cells := 0, slots := 0, locals := 0 } : Room).slots) := by
  refine MetFree.of_bodySF (plainFor_of_name pn_4) hisR ?_
  intro p e s m args below meth c s₁ Bd hml0 hP hK
  obtain ⟨rfl, hZ, hh⟩ := hP
  have hx := Bd.exec
  have hby := Bd.bytes
  have hml : c.maxLocals = 3 := hml0
  have hown : s.vm.findClass "com/example/whorl/whorl/compare/Share" = some m.cls := findClass_of_methodNamed Bd.named
  have hnm := (name_of_methodNamed Bd.named Bd.method).1
  have X0 : Stand p l e ({ frames := 0, cells := 0, slots := 0, locals := 0 } : Room) s m #[(.ref a1)] below meth c s₁ [] 0 0 := Stand.of_body Bd
  have e0 : s₁.heap = h0 := by rw [← hh, Bd.state]; rfl
  have N0 := Fr.nil n0
  have pre0 : ∀ t, Steps p.tables e below (s₁.setTop (mkF m 0 #[.val (.ref a1), .unset, .unset] [])) t → Steps p.tables e below (s₁.setTop (entryFrame m #[(.ref a1)] 3)) t := fun t k => castTop (ef_4 m a1) k
  obtain ⟨T3, X3, e3, st3⟩ := getF X0 hx hZ hown (host := "") (Or.inl (hw _ (List.mem_of_getElem? (i := 18) rfl))) Via.refl e0 F_length_a1 (g := (mkF m 3 #[.val (.ref a1), .val (.long (0 : Int64)), .second] [(.ref a1)])) rfl rfl (hb hby d4_3)
  obtain ⟨fs, hr, hrun, hended, hW, hsame⟩ := X3.leave (v := some (.long (0 : Int64))) (fun h => by rw [Bd.returns] at h; cases h)
  refine ⟨_, _, pre0 _ ?_, hrun, hended, _, _, rfl, ?_, ⟨_, rfl⟩, hW, hsame.mono (by decide) (by decide)⟩
  · show Steps p.tables e below (s₁.setTop (mkF m 0 #[.val (.ref a1), .unset, .unset] [])) _
    refine XS.lconst X0.here hx rfl (hb hby d4_0) ?_
    show Steps p.tables e below (s₁.setTop (mkF m 1 #[.val (.ref a1), .unset, .unset] [(.long (0 : Int64))])) _
    refine XS.lstoreN X0.here hx rfl (hb hby d4_1) rfl (l' := #[.val (.ref a1), .val (.long (0 : Int64)), .second]) rfl ?_
    show Steps p.tables e below (s₁.setTop (mkF m 2 #[.val (.ref a1), .val (.long (0 : Int64)), .second] [])) _
    refine XS.aloadN X0.here hx rfl (hb hby d4_2) rfl rfl ?_
    show Steps p.tables e below (s₁.setTop (mkF m 3 #[.val (.ref a1), .val (.long (0 : Int64)), .second] [(.ref a1)])) _
    refine st3 _ ?_
    show Steps p.tables e below (T3.setTop (mkF m 6 #[.val (.ref a1), .val (.long (0 : Int64)), .second] [(.int w2)])) _
    refine XS.ifYes X3.here hx rfl (pc0 := 6) (pc' := 35) rfl (hb hby d4_6) rfl ((if0 _ _).trans (flt hc6).2.2.2) (by decide) (by decide) ?_
    show Steps p.tables e below (T3.setTop (mkF m 35 #[.val (.ref a1), .val (.long (0 : Int64)), .second] [])) _
    refine XS.lloadN X3.here hx rfl (hb hby d4_35) rfl ?_
    show Steps p.tables e below (T3.setTop (mkF m 36 #[.val (.ref a1), .val (.long (0 : Int64)), .second] [(.long (0 : Int64))])) _
    jvm_step X3.here [X3.here.top, hx, (hb hby d4_36), X3.method', Bd.returns, narrow]
    first | (intro acts; rw [hr _ acts rfl rfl rfl]) | rw [hr _ _ rfl rfl rfl]
    exact Steps.refl _
  · show Q4 Z a1 w2 w4 h0 n0 _ T3.heap _
    rw [e3]
    exact ⟨by rw [own_hund, if_neg hc6], N0, rfl⟩
theorem rm4 (l : Launch) (Z : State) (a0 : Array Value) (hw : ∀ d ∈ tables_1, d.before a0 Z = true) (ws : List Jvm.Cond) (a1 : Addr) (w2 : Int32) (w4 : Int32) (h0 : Heap) (n0 : Nat) (Z0 : n0 ≤ h0.size) (F_length_a1 : Fld Z h0 a1 "com/example/whorl/whorl/compare/Share" "length" "I" (.int w2)) (F_covered_a1 : Fld Z h0 a1 "com/example/whorl/whorl/compare/Share" "covered" "I" (.int w4)) :
    MetFree l (⟨"com/example/whorl/whorl/compare/Share", "hundredths", "()J"⟩ : MethodName) (head1 (Jvm.Cond.code (⟨"com/example/whorl/whorl/compare/Share", "hundredths", "()J"⟩ : MethodName) prog_16_method_3_code 3 (some .long) :: ws) ({ frames := 0, cells := 0, slots := 0, locals := 0 } : Room)) (fun a U => a = #[(.ref a1)] ∧ Z.Warmed39 U.vm ∧ U.heap = h0) (fun _ _ _ _ _ => True) (fun _ U o U' => ∃ v L, o = .returned v ∧ Q4 Z a1 w2 w4 h0 n0 v U'.heap L ∧ FrameEnd U o U' L ({ frames := 0, cells := 0, slots := 0, locals := 0 } : Room).cells ({ frames := 0, cells := 0, slots := 0, locals := 0 } : Room).slots) := by
  by_cases hc6 : (0 : Int32) < w2
  · exact rm4f l Z a0 hw ws a1 w2 w4 h0 n0 Z0 F_length_a1 F_covered_a1 hc6 (own_nz hc6)
  · exact rm4t l Z a0 hw ws a1 w2 w4 h0 n0 Z0 F_length_a1 hc6

set_option maxRecDepth 65536 in
set_option maxHeartbeats 40000000 in
theorem tn_m0 {p : Program} {l : Launch} {e : Env} {R : Room} {s : State} {m : MethodId} {args : Array Value} {below : List Frame} {meth : Method} {c : Code} {T0 : State} {locs : List Loc} {cells slots : Nat} {Z : State} {a0 : Array Value} {h0 : Heap} (s0 : Slot) (s1 : Slot) (i2 : Int32) (s3 : Slot) (s4 : Slot) (s5 : Slot) (s6 : Slot) (s7 : Slot) (s8 : Slot) (s9 : Slot)
    (X0 : Stand p l e R s m args below meth c T0 locs cells slots) (hx : p.tables.exec = Jvm.exec) (hZ : Z.Warmed39 s.vm) (hw : ∀ d ∈ tables_1, d.before a0 Z = true) (hby : c.code = code) (hml : c.maxLocals = 10) (hown : s.vm.findClass "com/example/whorl/whorl/compare/ShareHundredthsPinLaw" = some m.cls) (e0 : T0.heap = h0) (hs3 : One s3) (hs4 : One s4) (hc5 : (i2 &&& (3 : Int32)) = (0 : Int32)) :
    ∀ target, Steps p.tables e below (T0.setTop (mkF m 35 #[s0, s1, .val (.int i2), .val (.int (i2 &&& (3 : Int32))), .val (.int (0 : Int32)), s5, s6, s7, s8, s9] [])) target → Steps p.tables e below (T0.setTop (mkF m 0 #[s0, s1, .val (.int i2), s3, s4, s5, s6, s7, s8, s9] [])) target := by
  intro target kt
  show Steps p.tables e below (T0.setTop (mkF m 0 #[s0, s1, .val (.int i2), s3, s4, s5, s6, s7, s8, s9] [])) _
  refine XS.iloadN X0.here hx rfl (hb hby at_0) rfl ?_
  show Steps p.tables e below (T0.setTop (mkF m 1 #[s0, s1, .val (.int i2), s3, s4, s5, s6, s7, s8, s9] [(.int i2)])) _
  refine XS.iconst X0.here hx rfl (hb hby at_1) ?_
  show Steps p.tables e below (T0.setTop (mkF m 2 #[s0, s1, .val (.int i2), s3, s4, s5, s6, s7, s8, s9] [(.int (3 : Int32)), (.int i2)])) _
  refine XS.iand X0.here hx rfl (hb hby at_2) rfl ?_
  show Steps p.tables e below (T0.setTop (mkF m 3 #[s0, s1, .val (.int i2), s3, s4, s5, s6, s7, s8, s9] [(.int (i2 &&& (3 : Int32)))])) _
  refine XS.istoreN X0.here hx rfl (hb hby at_3) rfl (l' := #[s0, s1, .val (.int i2), .val (.int (i2 &&& (3 : Int32))), s4, s5, s6, s7, s8, s9]) (os0_3_5 hs3) ?_
  show Steps p.tables e below (T0.setTop (mkF m 4 #[s0, s1, .val (.int i2), .val (.int (i2 &&& (3 : Int32))), s4, s5, s6, s7, s8, s9] [])) _
  refine XS.iloadN X0.here hx rfl (hb hby at_4) rfl ?_
  show Steps p.tables e below (T0.setTop (mkF m 5 #[s0, s1, .val (.int i2), .val (.int (i2 &&& (3 : Int32))), s4, s5, s6, s7, s8, s9] [(.int (i2 &&& (3 : Int32)))])) _
  refine XS.ifNo X0.here hx rfl (hb hby at_5) rfl ((if0 _ _).trans (teq hc5).2) ?_
  show Steps p.tables e below (T0.setTop (mkF m 8 #[s0, s1, .val (.int i2), .val (.int (i2 &&& (3 : Int32))), s4, s5, s6, s7, s8, s9] [])) _
  refine XS.iconst X0.here hx rfl (hb hby at_8) ?_
  show Steps p.tables e below (T0.setTop (mkF m 9 #[s0, s1, .val (.int i2), .val (.int (i2 &&& (3 : Int32))), s4, s5, s6, s7, s8, s9] [(.int (0 : Int32))])) _
  refine XS.istore X0.here hx rfl (hb hby at_9) rfl (l' := #[s0, s1, .val (.int i2), .val (.int (i2 &&& (3 : Int32))), .val (.int (0 : Int32)), s5, s6, s7, s8, s9]) (os0_9_5 hs4) ?_
  show Steps p.tables e below (T0.setTop (mkF m 11 #[s0, s1, .val (.int i2), .val (.int (i2 &&& (3 : Int32))), .val (.int (0 : Int32)), s5, s6, s7, s8, s9] [])) _
  refine XS.goto X0.here hx rfl (pc0 := 11) (pc' := 35) rfl (hb hby at_11) (by decide) (by decide) ?_
  exact kt
set_option maxRecDepth 65536 in
set_option maxHeartbeats 40000000 in
theorem tn_m1 {p : Program} {l : Launch} {e : Env} {R : Room} {s : State} {m : MethodId} {args : Array Value} {below : List Frame} {meth : Method} {c : Code} {T0 : State} {locs : List Loc} {cells slots : Nat} {Z : State} {a0 : Array Value} {h0 : Heap} (s0 : Slot) (i1 : Int32) (i2 : Int32) (s3 : Slot) (s4 : Slot) (s5 : Slot) (s6 : Slot) (s7 : Slot) (s8 : Slot) (s9 : Slot)
    (X0 : Stand p l e R s m args below meth c T0 locs cells slots) (hx : p.tables.exec = Jvm.exec) (hZ : Z.Warmed39 s.vm) (hw : ∀ d ∈ tables_1, d.before a0 Z = true) (hby : c.code = code) (hml : c.maxLocals = 10) (hown : s.vm.findClass "com/example/whorl/whorl/compare/ShareHundredthsPinLaw" = some m.cls) (e0 : T0.heap = h0) (hs3 : One s3) (hs4 : One s4) (hc5 : ¬ ((i2 &&& (3 : Int32)) = (0 : Int32))) (hc16 : (i2 &&& (3 : Int32)) = (1 : Int32)) :
    ∀ target, Steps p.tables e below (T0.setTop (mkF m 35 #[s0, .val (.int i1), .val (.int i2), .val (.int (i2 &&& (3 : Int32))), .val (.int (i1 &&& (255 : Int32))), s5, s6, s7, s8, s9] [])) target → Steps p.tables e below (T0.setTop (mkF m 0 #[s0, .val (.int i1), .val (.int i2), s3, s4, s5, s6, s7, s8, s9] [])) target := by
  intro target kt
  show Steps p.tables e below (T0.setTop (mkF m 0 #[s0, .val (.int i1), .val (.int i2), s3, s4, s5, s6, s7, s8, s9] [])) _
  refine XS.iloadN X0.here hx rfl (hb hby at_0) rfl ?_
  show Steps p.tables e below (T0.setTop (mkF m 1 #[s0, .val (.int i1), .val (.int i2), s3, s4, s5, s6, s7, s8, s9] [(.int i2)])) _
  refine XS.iconst X0.here hx rfl (hb hby at_1) ?_
  show Steps p.tables e below (T0.setTop (mkF m 2 #[s0, .val (.int i1), .val (.int i2), s3, s4, s5, s6, s7, s8, s9] [(.int (3 : Int32)), (.int i2)])) _
  refine XS.iand X0.here hx rfl (hb hby at_2) rfl ?_
  show Steps p.tables e below (T0.setTop (mkF m 3 #[s0, .val (.int i1), .val (.int i2), s3, s4, s5, s6, s7, s8, s9] [(.int (i2 &&& (3 : Int32)))])) _
  refine XS.istoreN X0.here hx rfl (hb hby at_3) rfl (l' := #[s0, .val (.int i1), .val (.int i2), .val (.int (i2 &&& (3 : Int32))), s4, s5, s6, s7, s8, s9]) (os0_3_6 hs3) ?_
  show Steps p.tables e below (T0.setTop (mkF m 4 #[s0, .val (.int i1), .val (.int i2), .val (.int (i2 &&& (3 : Int32))), s4, s5, s6, s7, s8, s9] [])) _
  refine XS.iloadN X0.here hx rfl (hb hby at_4) rfl ?_
  show Steps p.tables e below (T0.setTop (mkF m 5 #[s0, .val (.int i1), .val (.int i2), .val (.int (i2 &&& (3 : Int32))), s4, s5, s6, s7, s8, s9] [(.int (i2 &&& (3 : Int32)))])) _
  refine XS.ifYes X0.here hx rfl (pc0 := 5) (pc' := 14) rfl (hb hby at_5) rfl ((if0 _ _).trans (feq hc5).2) (by decide) (by decide) ?_
  show Steps p.tables e below (T0.setTop (mkF m 14 #[s0, .val (.int i1), .val (.int i2), .val (.int (i2 &&& (3 : Int32))), s4, s5, s6, s7, s8, s9] [])) _
  refine XS.iloadN X0.here hx rfl (hb hby at_14) rfl ?_
  show Steps p.tables e below (T0.setTop (mkF m 15 #[s0, .val (.int i1), .val (.int i2), .val (.int (i2 &&& (3 : Int32))), s4, s5, s6, s7, s8, s9] [(.int (i2 &&& (3 : Int32)))])) _
  refine XS.iconst X0.here hx rfl (hb hby at_15) ?_
  show Steps p.tables e below (T0.setTop (mkF m 16 #[s0, .val (.int i1), .val (.int i2), .val (.int (i2 &&& (3 : Int32))), s4, s5, s6, s7, s8, s9] [(.int (1 : Int32)), (.int (i2 &&& (3 : Int32)))])) _
  refine XS.icmpNo X0.here hx rfl (hb hby at_16) rfl (teq hc16).2 ?_
  show Steps p.tables e below (T0.setTop (mkF m 19 #[s0, .val (.int i1), .val (.int i2), .val (.int (i2 &&& (3 : Int32))), s4, s5, s6, s7, s8, s9] [])) _
  refine XS.iloadN X0.here hx rfl (hb hby at_19) rfl ?_
  show Steps p.tables e below (T0.setTop (mkF m 20 #[s0, .val (.int i1), .val (.int i2), .val (.int (i2 &&& (3 : Int32))), s4, s5, s6, s7, s8, s9] [(.int i1)])) _
  refine XS.sipush X0.here hx rfl (hb hby at_20) ?_
  show Steps p.tables e below (T0.setTop (mkF m 23 #[s0, .val (.int i1), .val (.int i2), .val (.int (i2 &&& (3 : Int32))), s4, s5, s6, s7, s8, s9] [(.int (255 : Int32)), (.int i1)])) _
  refine XS.iand X0.here hx rfl (hb hby at_23) rfl ?_
  show Steps p.tables e below (T0.setTop (mkF m 24 #[s0, .val (.int i1), .val (.int i2), .val (.int (i2 &&& (3 : Int32))), s4, s5, s6, s7, s8, s9] [(.int (i1 &&& (255 : Int32)))])) _
  refine XS.istore X0.here hx rfl (hb hby at_24) rfl (l' := #[s0, .val (.int i1), .val (.int i2), .val (.int (i2 &&& (3 : Int32))), .val (.int (i1 &&& (255 : Int32))), s5, s6, s7, s8, s9]) (os0_24_6 hs4) ?_
  show Steps p.tables e below (T0.setTop (mkF m 26 #[s0, .val (.int i1), .val (.int i2), .val (.int (i2 &&& (3 : Int32))), .val (.int (i1 &&& (255 : Int32))), s5, s6, s7, s8, s9] [])) _
  refine XS.goto X0.here hx rfl (pc0 := 26) (pc' := 35) rfl (hb hby at_26) (by decide) (by decide) ?_
  exact kt
set_option maxRecDepth 65536 in
set_option maxHeartbeats 40000000 in
theorem tn_m2 {p : Program} {l : Launch} {e : Env} {R : Room} {s : State} {m : MethodId} {args : Array Value} {below : List Frame} {meth : Method} {c : Code} {T0 : State} {locs : List Loc} {cells slots : Nat} {Z : State} {a0 : Array Value} {h0 : Heap} (s0 : Slot) (i1 : Int32) (i2 : Int32) (s3 : Slot) (s4 : Slot) (s5 : Slot) (s6 : Slot) (s7 : Slot) (s8 : Slot) (s9 : Slot)
    (X0 : Stand p l e R s m args below meth c T0 locs cells slots) (hx : p.tables.exec = Jvm.exec) (hZ : Z.Warmed39 s.vm) (hw : ∀ d ∈ tables_1, d.before a0 Z = true) (hby : c.code = code) (hml : c.maxLocals = 10) (hown : s.vm.findClass "com/example/whorl/whorl/compare/ShareHundredthsPinLaw" = some m.cls) (e0 : T0.heap = h0) (hs3 : One s3) (hs4 : One s4) (hc5 : ¬ ((i2 &&& (3 : Int32)) = (0 : Int32))) (hc16 : ¬ ((i2 &&& (3 : Int32)) = (1 : Int32))) :
    ∀ target, Steps p.tables e below (T0.setTop (mkF m 35 #[s0, .val (.int i1), .val (.int i2), .val (.int (i2 &&& (3 : Int32))), .val (.int (i1 &&& (2147483647 : Int32))), s5, s6, s7, s8, s9] [])) target → Steps p.tables e below (T0.setTop (mkF m 0 #[s0, .val (.int i1), .val (.int i2), s3, s4, s5, s6, s7, s8, s9] [])) target := by
  intro target kt
  show Steps p.tables e below (T0.setTop (mkF m 0 #[s0, .val (.int i1), .val (.int i2), s3, s4, s5, s6, s7, s8, s9] [])) _
  refine XS.iloadN X0.here hx rfl (hb hby at_0) rfl ?_
  show Steps p.tables e below (T0.setTop (mkF m 1 #[s0, .val (.int i1), .val (.int i2), s3, s4, s5, s6, s7, s8, s9] [(.int i2)])) _
  refine XS.iconst X0.here hx rfl (hb hby at_1) ?_
  show Steps p.tables e below (T0.setTop (mkF m 2 #[s0, .val (.int i1), .val (.int i2), s3, s4, s5, s6, s7, s8, s9] [(.int (3 : Int32)), (.int i2)])) _
  refine XS.iand X0.here hx rfl (hb hby at_2) rfl ?_
  show Steps p.tables e below (T0.setTop (mkF m 3 #[s0, .val (.int i1), .val (.int i2), s3, s4, s5, s6, s7, s8, s9] [(.int (i2 &&& (3 : Int32)))])) _
  refine XS.istoreN X0.here hx rfl (hb hby at_3) rfl (l' := #[s0, .val (.int i1), .val (.int i2), .val (.int (i2 &&& (3 : Int32))), s4, s5, s6, s7, s8, s9]) (os0_3_7 hs3) ?_
  show Steps p.tables e below (T0.setTop (mkF m 4 #[s0, .val (.int i1), .val (.int i2), .val (.int (i2 &&& (3 : Int32))), s4, s5, s6, s7, s8, s9] [])) _
  refine XS.iloadN X0.here hx rfl (hb hby at_4) rfl ?_
  show Steps p.tables e below (T0.setTop (mkF m 5 #[s0, .val (.int i1), .val (.int i2), .val (.int (i2 &&& (3 : Int32))), s4, s5, s6, s7, s8, s9] [(.int (i2 &&& (3 : Int32)))])) _
  refine XS.ifYes X0.here hx rfl (pc0 := 5) (pc' := 14) rfl (hb hby at_5) rfl ((if0 _ _).trans (feq hc5).2) (by decide) (by decide) ?_
  show Steps p.tables e below (T0.setTop (mkF m 14 #[s0, .val (.int i1), .val (.int i2), .val (.int (i2 &&& (3 : Int32))), s4, s5, s6, s7, s8, s9] [])) _
  refine XS.iloadN X0.here hx rfl (hb hby at_14) rfl ?_
  show Steps p.tables e below (T0.setTop (mkF m 15 #[s0, .val (.int i1), .val (.int i2), .val (.int (i2 &&& (3 : Int32))), s4, s5, s6, s7, s8, s9] [(.int (i2 &&& (3 : Int32)))])) _
  refine XS.iconst X0.here hx rfl (hb hby at_15) ?_
  show Steps p.tables e below (T0.setTop (mkF m 16 #[s0, .val (.int i1), .val (.int i2), .val (.int (i2 &&& (3 : Int32))), s4, s5, s6, s7, s8, s9] [(.int (1 : Int32)), (.int (i2 &&& (3 : Int32)))])) _
  refine XS.icmpYes X0.here hx rfl (pc0 := 16) (pc' := 29) rfl (hb hby at_16) rfl (feq hc16).2 (by decide) (by decide) ?_
  show Steps p.tables e below (T0.setTop (mkF m 29 #[s0, .val (.int i1), .val (.int i2), .val (.int (i2 &&& (3 : Int32))), s4, s5, s6, s7, s8, s9] [])) _
  refine XS.iloadN X0.here hx rfl (hb hby at_29) rfl ?_
  show Steps p.tables e below (T0.setTop (mkF m 30 #[s0, .val (.int i1), .val (.int i2), .val (.int (i2 &&& (3 : Int32))), s4, s5, s6, s7, s8, s9] [(.int i1)])) _
  refine X0.ldcInt hx hown (mvT hZ (hw _ (List.mem_of_getElem? (i := 0) rfl))) (g := (mkF m 30 #[s0, .val (.int i1), .val (.int i2), .val (.int (i2 &&& (3 : Int32))), s4, s5, s6, s7, s8, s9] [(.int i1)])) rfl (hb hby at_30) _ ?_
  show Steps p.tables e below (T0.setTop (mkF m 32 #[s0, .val (.int i1), .val (.int i2), .val (.int (i2 &&& (3 : Int32))), s4, s5, s6, s7, s8, s9] [(.int (2147483647 : Int32)), (.int i1)])) _
  refine XS.iand X0.here hx rfl (hb hby at_32) rfl ?_
  show Steps p.tables e below (T0.setTop (mkF m 33 #[s0, .val (.int i1), .val (.int i2), .val (.int (i2 &&& (3 : Int32))), s4, s5, s6, s7, s8, s9] [(.int (i1 &&& (2147483647 : Int32)))])) _
  refine XS.istore X0.here hx rfl (hb hby at_33) rfl (l' := #[s0, .val (.int i1), .val (.int i2), .val (.int (i2 &&& (3 : Int32))), .val (.int (i1 &&& (2147483647 : Int32))), s5, s6, s7, s8, s9]) (os0_33_7 hs4) ?_
  exact kt
set_option maxRecDepth 65536 in
set_option maxHeartbeats 40000000 in
theorem tn_z {p : Program} {l : Launch} {e : Env} {R : Room} {s : State} {m : MethodId} {args : Array Value} {below : List Frame} {meth : Method} {c : Code} {T0 : State} {locs : List Loc} {cells slots : Nat} {Z : State} {a0 : Array Value} {h0 : Heap} (i0 : Int32) (s1 : Slot) (s2 : Slot) (s3 : Slot) (i4 : Int32) (s5 : Slot) (s6 : Slot) (s7 : Slot) (s8 : Slot) (s9 : Slot)
    (X0 : Stand p l e R s m args below meth c T0 locs cells slots) (hx : p.tables.exec = Jvm.exec) (hZ : Z.Warmed39 s.vm) (hw : ∀ d ∈ tables_1, d.before a0 Z = true) (hby : c.code = code) (hml : c.maxLocals = 10) (hown : s.vm.findClass "com/example/whorl/whorl/compare/ShareHundredthsPinLaw" = some m.cls) (e0 : T0.heap = h0) (hs5 : One s5) (hc37 : i4 = (0 : Int32)) :
    ∀ target, Steps p.tables e below (T0.setTop (mkF m 61 #[.val (.int i0), s1, s2, s3, .val (.int i4), .val (.int i0), s6, s7, s8, s9] [])) target → Steps p.tables e below (T0.setTop (mkF m 35 #[.val (.int i0), s1, s2, s3, .val (.int i4), s5, s6, s7, s8, s9] [])) target := by
  intro target kt
  show Steps p.tables e below (T0.setTop (mkF m 35 #[.val (.int i0), s1, s2, s3, .val (.int i4), s5, s6, s7, s8, s9] [])) _
  refine XS.iload X0.here hx rfl (hb hby at_35) rfl ?_
  show Steps p.tables e below (T0.setTop (mkF m 37 #[.val (.int i0), s1, s2, s3, .val (.int i4), s5, s6, s7, s8, s9] [(.int i4)])) _
  refine XS.ifNo X0.here hx rfl (hb hby at_37) rfl ((if0 _ _).trans (teq hc37).2) ?_
  show Steps p.tables e below (T0.setTop (mkF m 40 #[.val (.int i0), s1, s2, s3, .val (.int i4), s5, s6, s7, s8, s9] [])) _
  refine XS.iloadN X0.here hx rfl (hb hby at_40) rfl ?_
  show Steps p.tables e below (T0.setTop (mkF m 41 #[.val (.int i0), s1, s2, s3, .val (.int i4), s5, s6, s7, s8, s9] [(.int i0)])) _
  refine XS.istore X0.here hx rfl (hb hby at_41) rfl (l' := #[.val (.int i0), s1, s2, s3, .val (.int i4), .val (.int i0), s6, s7, s8, s9]) (os0_41_8 hs5) ?_
  show Steps p.tables e below (T0.setTop (mkF m 43 #[.val (.int i0), s1, s2, s3, .val (.int i4), .val (.int i0), s6, s7, s8, s9] [])) _
  refine XS.goto X0.here hx rfl (pc0 := 43) (pc' := 61) rfl (hb hby at_43) (by decide) (by decide) ?_
  exact kt
set_option maxRecDepth 65536 in
set_option maxHeartbeats 40000000 in
theorem tn_c {p : Program} {l : Launch} {e : Env} {R : Room} {s : State} {m : MethodId} {args : Array Value} {below : List Frame} {meth : Method} {c : Code} {T0 : State} {locs : List Loc} {cells slots : Nat} {Z : State} {a0 : Array Value} {h0 : Heap} (i0 : Int32) (s1 : Slot) (s2 : Slot) (s3 : Slot) (i4 : Int32) (s5 : Slot) (s6 : Slot) (s7 : Slot) (s8 : Slot) (s9 : Slot)
    (X0 : Stand p l e R s m args below meth c T0 locs cells slots) (hx : p.tables.exec = Jvm.exec) (hZ : Z.Warmed39 s.vm) (hw : ∀ d ∈ tables_1, d.before a0 Z = true) (hby : c.code = code) (hml : c.maxLocals = 10) (hown : s.vm.findClass "com/example/whorl/whorl/compare/ShareHundredthsPinLaw" = some m.cls) (e0 : T0.heap = h0) (hs5 : One s5) (hc37 : ¬ (i4 = (0 : Int32))) (hnz57 : ¬ (((i4.toInt64) + (1 : Int64)) = (0 : Int64))) :
    ∀ target, Steps p.tables e below (T0.setTop (mkF m 61 #[.val (.int i0), s1, s2, s3, .val (.int i4), .val (.int ((((i0.toInt64) &&& (2147483647 : Int64)) - (((i0.toInt64) &&& (2147483647 : Int64)) / ((i4.toInt64) + (1 : Int64))) * ((i4.toInt64) + (1 : Int64))).toInt32)), s6, s7, s8, s9] [])) target → Steps p.tables e below (T0.setTop (mkF m 35 #[.val (.int i0), s1, s2, s3, .val (.int i4), s5, s6, s7, s8, s9] [])) target := by
  intro target kt
  show Steps p.tables e below (T0.setTop (mkF m 35 #[.val (.int i0), s1, s2, s3, .val (.int i4), s5, s6, s7, s8, s9] [])) _
  refine XS.iload X0.here hx rfl (hb hby at_35) rfl ?_
  show Steps p.tables e below (T0.setTop (mkF m 37 #[.val (.int i0), s1, s2, s3, .val (.int i4), s5, s6, s7, s8, s9] [(.int i4)])) _
  refine XS.ifYes X0.here hx rfl (pc0 := 37) (pc' := 46) rfl (hb hby at_37) rfl ((if0 _ _).trans (feq hc37).2) (by decide) (by decide) ?_
  show Steps p.tables e below (T0.setTop (mkF m 46 #[.val (.int i0), s1, s2, s3, .val (.int i4), s5, s6, s7, s8, s9] [])) _
  refine XS.iloadN X0.here hx rfl (hb hby at_46) rfl ?_
  show Steps p.tables e below (T0.setTop (mkF m 47 #[.val (.int i0), s1, s2, s3, .val (.int i4), s5, s6, s7, s8, s9] [(.int i0)])) _
  refine XS.i2l X0.here hx rfl (hb hby at_47) rfl ?_
  show Steps p.tables e below (T0.setTop (mkF m 48 #[.val (.int i0), s1, s2, s3, .val (.int i4), s5, s6, s7, s8, s9] [(.long (i0.toInt64))])) _
  refine X0.ldc2Long hx hown (mvT hZ (hw _ (List.mem_of_getElem? (i := 1) rfl))) (g := (mkF m 48 #[.val (.int i0), s1, s2, s3, .val (.int i4), s5, s6, s7, s8, s9] [(.long (i0.toInt64))])) rfl (hb hby at_48) _ ?_
  show Steps p.tables e below (T0.setTop (mkF m 51 #[.val (.int i0), s1, s2, s3, .val (.int i4), s5, s6, s7, s8, s9] [(.long (2147483647 : Int64)), (.long (i0.toInt64))])) _
  refine XS.land X0.here hx rfl (hb hby at_51) rfl ?_
  show Steps p.tables e below (T0.setTop (mkF m 52 #[.val (.int i0), s1, s2, s3, .val (.int i4), s5, s6, s7, s8, s9] [(.long ((i0.toInt64) &&& (2147483647 : Int64)))])) _
  refine XS.iload X0.here hx rfl (hb hby at_52) rfl ?_
  show Steps p.tables e below (T0.setTop (mkF m 54 #[.val (.int i0), s1, s2, s3, .val (.int i4), s5, s6, s7, s8, s9] [(.int i4), (.long ((i0.toInt64) &&& (2147483647 : Int64)))])) _
  refine XS.i2l X0.here hx rfl (hb hby at_54) rfl ?_
  show Steps p.tables e below (T0.setTop (mkF m 55 #[.val (.int i0), s1, s2, s3, .val (.int i4), s5, s6, s7, s8, s9] [(.long (i4.toInt64)), (.long ((i0.toInt64) &&& (2147483647 : Int64)))])) _
  refine XS.lconst X0.here hx rfl (hb hby at_55) ?_
  show Steps p.tables e below (T0.setTop (mkF m 56 #[.val (.int i0), s1, s2, s3, .val (.int i4), s5, s6, s7, s8, s9] [(.long (1 : Int64)), (.long (i4.toInt64)), (.long ((i0.toInt64) &&& (2147483647 : Int64)))])) _
  refine XS.ladd X0.here hx rfl (hb hby at_56) rfl ?_
  show Steps p.tables e below (T0.setTop (mkF m 57 #[.val (.int i0), s1, s2, s3, .val (.int i4), s5, s6, s7, s8, s9] [(.long ((i4.toInt64) + (1 : Int64))), (.long ((i0.toInt64) &&& (2147483647 : Int64)))])) _
  refine XS.lrem X0.here hx rfl (hb hby at_57) rfl hnz57 ?_
  show Steps p.tables e below (T0.setTop (mkF m 58 #[.val (.int i0), s1, s2, s3, .val (.int i4), s5, s6, s7, s8, s9] [(.long (((i0.toInt64) &&& (2147483647 : Int64)) - (((i0.toInt64) &&& (2147483647 : Int64)) / ((i4.toInt64) + (1 : Int64))) * ((i4.toInt64) + (1 : Int64))))])) _
  refine XS.l2i X0.here hx rfl (hb hby at_58) rfl ?_
  show Steps p.tables e below (T0.setTop (mkF m 59 #[.val (.int i0), s1, s2, s3, .val (.int i4), s5, s6, s7, s8, s9] [(.int ((((i0.toInt64) &&& (2147483647 : Int64)) - (((i0.toInt64) &&& (2147483647 : Int64)) / ((i4.toInt64) + (1 : Int64))) * ((i4.toInt64) + (1 : Int64))).toInt32))])) _
  refine XS.istore X0.here hx rfl (hb hby at_59) rfl (l' := #[.val (.int i0), s1, s2, s3, .val (.int i4), .val (.int ((((i0.toInt64) &&& (2147483647 : Int64)) - (((i0.toInt64) &&& (2147483647 : Int64)) / ((i4.toInt64) + (1 : Int64))) * ((i4.toInt64) + (1 : Int64))).toInt32)), s6, s7, s8, s9]) (os0_59_9 hs5) ?_
  exact kt
set_option maxRecDepth 65536 in
set_option maxHeartbeats 40000000 in
theorem tn_94 {p : Program} {l : Launch} {e : Env} {s : State} {m : MethodId} {args : Array Value} {below : List Frame} {meth : Method} {c : Code} {T0 : State} {Z : State} {a0 : Array Value} {h0 : Heap} (s0 : Slot) (s1 : Slot) (s2 : Slot) (s3 : Slot) (i4 : Int32) (i5 : Int32)
    (X0 : Stand p l e room_1 s m args below meth c T0 [] 0 0) (hx : p.tables.exec = Jvm.exec) (hZ : Z.Warmed39 s.vm) (hw : ∀ d ∈ tables_1, d.before a0 Z = true) (hby : c.code = code) (hml : c.maxLocals = 10) (hown : s.vm.findClass "com/example/whorl/whorl/compare/ShareHundredthsPinLaw" = some m.cls) (e0 : T0.heap = h0) (n0 : Nat) (Z0 : n0 ≤ h0.size) (hc79 : i4 = (0 : Int32)) :
    ∃ (T' : State) (L' : List Loc), Stand p l e room_1 s m args below meth c T' L' 1 2 ∧ Fr n0 L' ∧
      ∀ target, Steps p.tables e below (T'.setTop (mkF m 94 #[s0, s1, s2, s3, .val (.int i4), .val (.int i5), .val (.long (own_hund i5 i4)), .second, .unset, .unset] [(.int (1 : Int32))])) target → Steps p.tables e below (T0.setTop (mkF m 61 #[s0, s1, s2, s3, .val (.int i4), .val (.int i5), .unset, .unset, .unset, .unset] [])) target := by
  have N0 := Fr.nil n0
  obtain ⟨T4, h4, X4, e4, E4, A4, D4, -, st4⟩ := newO X0 hx hZ hown (hw _ (List.mem_of_getElem? (i := 2) rfl)) (hw _ (List.mem_of_getElem? (i := 3) rfl)) (hw _ (List.mem_of_getElem? (i := 4) rfl)) e0 (g := (mkF m 61 #[s0, s1, s2, s3, .val (.int i4), .val (.int i5), .unset, .unset, .unset, .unset] [])) rfl (hb hby at_61) (by decide) (by decide)
  obtain ⟨b4, g4⟩ : ∃ z, z = h0.size := ⟨_, rfl⟩
  rw [← g4] at A4 D4 st4
  have F_covered_b4 : Fld Z h4 b4 "com/example/whorl/whorl/compare/Share" "covered" "I" (.int (0 : Int32)) := D4 (Or.inr (hw _ (List.mem_of_getElem? (i := 17) rfl))) (ty := .int) (by decide)
  have F_length_b4 : Fld Z h4 b4 "com/example/whorl/whorl/compare/Share" "length" "I" (.int (0 : Int32)) := D4 (Or.inr (hw _ (List.mem_of_getElem? (i := 19) rfl))) (ty := .int) (by decide)
  have E_b4 := A4
  have g_b4 : n0 ≤ b4 := Nat.le_trans Z0 (Nat.le_of_eq g4.symm)
  have sz_b4 : h0.size ≤ b4 := (Nat.le_trans (Keep.refl h0 []).1 (Nat.le_of_eq g4.symm))
  have K4 : Keep h0 h4 [] := (Keep.refl h0 []).ext E4
  obtain ⟨_, _, ⟨T5, L5, k5, n5⟩, -, X5, ⟨Lc5, hQ5, l5, y5, z5⟩, st5⟩ := X4.specialBack hx (y := (⟨"com/example/whorl/whorl/compare/Share", "<init>", "(II)V"⟩ : MethodName)) rfl hown (mvT hZ (hw _ (List.mem_of_getElem? (i := 5) rfl))) (mvT hZ (hw _ (List.mem_of_getElem? (i := 6) rfl))) (mvT hZ (hw _ (List.mem_of_getElem? (i := 7) rfl))) (by decide) (backOf (W := 1) (rm1 l Z a0 hw [] b4 i5 i4 (.int (0 : Int32)) (.int (0 : Int32)) h4 n0 (Nat.le_trans Z0 E4.1) E_b4 F_covered_b4 g_b4 F_length_b4) hZ (hw _ (List.mem_of_getElem? (i := 7) rfl)) (hw _ (List.mem_of_getElem? (i := 4) rfl)) (by decide) (by decide)) (g := (mkF m 69 #[s0, s1, s2, s3, .val (.int i4), .val (.int i5), .unset, .unset, .unset, .unset] [(.int i4), (.int i5), (.ref b4), (.ref b4)])) rfl (by rw [hml]; rfl) (Steps.refl _) (a := b4) (argsL := [(.int i5), (.int i4)]) (rest := [(.ref b4)]) (lenOf pdq_1 rfl) rfl (by show 2 * 0 + _ ≤ _; exact Nat.le_of_eq rfl) (hb hby at_69) (fun _ _ => ⟨rfl, e4, (by decide : 0 + 1 + 0 ≤ _), (by decide : 0 + 2 + 0 ≤ _)⟩)
  dsimp only [Pt.U, Pt.locs, Pt.cells, Pt.slots] at X5 l5 y5 z5 st5 hQ5
  subst l5 y5 z5
  obtain ⟨rfl, N5q, K5, E5, Fc5, Fl5⟩ := hQ5
  have N5 := Fr.app N0 N5q
  obtain ⟨cq6, kq6, q6a, q6b, q6c⟩ := isOf hZ rfl E5
  obtain ⟨_, _, ⟨T6, L6, k6, n6⟩, -, X6, ⟨Lc6, hQ6, l6, y6, z6⟩, st6⟩ := X5.virtualBack hx (y := (⟨"com/example/whorl/whorl/compare/Share", "hundredths", "()J"⟩ : MethodName)) (z := (⟨"com/example/whorl/whorl/compare/Share", "hundredths", "()J"⟩ : MethodName)) hown (mvT hZ (hw _ (List.mem_of_getElem? (i := 20) rfl))) (mvT hZ (hw _ (List.mem_of_getElem? (i := 21) rfl))) (notFace_of_selects (args := #[]) (mvT hZ (hw _ (List.mem_of_getElem? (i := 23) rfl)))) (mvT hZ (hw _ (List.mem_of_getElem? (i := 23) rfl))) (mvT hZ (hw _ (List.mem_of_getElem? (i := 22) rfl))) (by decide) (backOf (W := 0) (rm4 l Z a0 hw [] b4 i4 i5 T5.heap n0 (Nat.le_trans (Nat.le_trans Z0 E4.1) K5.1) Fl5 Fc5) hZ (hw _ (List.mem_of_getElem? (i := 24) rfl)) (hw _ (List.mem_of_getElem? (i := 4) rfl)) (by decide) (by decide)) q6a q6c (g := (mkF m 72 #[s0, s1, s2, s3, .val (.int i4), .val (.int i5), .unset, .unset, .unset, .unset] [(.ref b4)])) rfl (by rw [hml]; rfl) (Steps.refl _) (argsL := []) (rest := []) (lenOf pdq_2 rfl) rfl (by show 2 * 0 + _ ≤ _; exact Nat.le_of_eq rfl) (hb hby at_72) (fun _ _ => ⟨rfl, rfl, (by decide : 0 + 1 + 0 ≤ _), (by decide : 0 + 2 + 0 ≤ _)⟩)
  dsimp only [Pt.U, Pt.locs, Pt.cells, Pt.slots] at X6 l6 y6 z6 st6 hQ6
  subst l6 y6 z6
  obtain ⟨rfl, N6q, e6⟩ := hQ6
  have N6 := Fr.app N5 N6q
  refine ⟨T6, _, X6, N6, fun target kt => ?_⟩
  show Steps p.tables e below (T0.setTop (mkF m 61 #[s0, s1, s2, s3, .val (.int i4), .val (.int i5), .unset, .unset, .unset, .unset] [])) _
  refine st4 _ ?_
  show Steps p.tables e below (T4.setTop (mkF m 64 #[s0, s1, s2, s3, .val (.int i4), .val (.int i5), .unset, .unset, .unset, .unset] [(.ref b4)])) _
  refine XS.dup X4.here hx rfl (hb hby at_64) rfl rfl ?_
  show Steps p.tables e below (T4.setTop (mkF m 65 #[s0, s1, s2, s3, .val (.int i4), .val (.int i5), .unset, .unset, .unset, .unset] [(.ref b4), (.ref b4)])) _
  refine XS.iload X4.here hx rfl (hb hby at_65) rfl ?_
  show Steps p.tables e below (T4.setTop (mkF m 67 #[s0, s1, s2, s3, .val (.int i4), .val (.int i5), .unset, .unset, .unset, .unset] [(.int i5), (.ref b4), (.ref b4)])) _
  refine XS.iload X4.here hx rfl (hb hby at_67) rfl ?_
  show Steps p.tables e below (T4.setTop (mkF m 69 #[s0, s1, s2, s3, .val (.int i4), .val (.int i5), .unset, .unset, .unset, .unset] [(.int i4), (.int i5), (.ref b4), (.ref b4)])) _
  refine st5.trans ?_
  show Steps p.tables e below (T5.setTop (mkF m 72 #[s0, s1, s2, s3, .val (.int i4), .val (.int i5), .unset, .unset, .unset, .unset] [(.ref b4)])) _
  refine st6.trans ?_
  show Steps p.tables e below (T6.setTop (mkF m 75 #[s0, s1, s2, s3, .val (.int i4), .val (.int i5), .unset, .unset, .unset, .unset] [(.long (own_hund i5 i4))])) _
  refine XS.lstore X6.here hx rfl (hb hby at_75) rfl (l' := #[s0, s1, s2, s3, .val (.int i4), .val (.int i5), .val (.long (own_hund i5 i4)), .second, .unset, .unset]) rfl ?_
  show Steps p.tables e below (T6.setTop (mkF m 77 #[s0, s1, s2, s3, .val (.int i4), .val (.int i5), .val (.long (own_hund i5 i4)), .second, .unset, .unset] [])) _
  refine XS.iload X6.here hx rfl (hb hby at_77) rfl ?_
  show Steps p.tables e below (T6.setTop (mkF m 79 #[s0, s1, s2, s3, .val (.int i4), .val (.int i5), .val (.long (own_hund i5 i4)), .second, .unset, .unset] [(.int i4)])) _
  refine XS.ifNo X6.here hx rfl (hb hby at_79) rfl ((if0 _ _).trans (teq hc79).2) ?_
  show Steps p.tables e below (T6.setTop (mkF m 82 #[s0, s1, s2, s3, .val (.int i4), .val (.int i5), .val (.long (own_hund i5 i4)), .second, .unset, .unset] [])) _
  refine XS.lload X6.here hx rfl (hb hby at_82) rfl ?_
  show Steps p.tables e below (T6.setTop (mkF m 84 #[s0, s1, s2, s3, .val (.int i4), .val (.int i5), .val (.long (own_hund i5 i4)), .second, .unset, .unset] [(.long (own_hund i5 i4))])) _
  refine XS.lconst X6.here hx rfl (hb hby at_84) ?_
  show Steps p.tables e below (T6.setTop (mkF m 85 #[s0, s1, s2, s3, .val (.int i4), .val (.int i5), .val (.long (own_hund i5 i4)), .second, .unset, .unset] [(.long (0 : Int64)), (.long (own_hund i5 i4))])) _
  refine XS.lcmp X6.here hx rfl (hb hby at_85) rfl ?_
  show Steps p.tables e below (T6.setTop (mkF m 86 #[s0, s1, s2, s3, .val (.int i4), .val (.int i5), .val (.long (own_hund i5 i4)), .second, .unset, .unset] [(.int (lcmpW (own_hund i5 i4) (0 : Int64)))])) _
  refine XS.ifNo X6.here hx rfl (hb hby at_86) rfl ((if0 _ _).trans (teq ((lw_eq _ _).mpr (by rw [own_hund, hc79, if_neg Int32.lt_irrefl]) : (lcmpW (own_hund i5 i4) (0 : Int64)) = (0 : Int32))).2) ?_
  show Steps p.tables e below (T6.setTop (mkF m 89 #[s0, s1, s2, s3, .val (.int i4), .val (.int i5), .val (.long (own_hund i5 i4)), .second, .unset, .unset] [])) _
  refine XS.iconst X6.here hx rfl (hb hby at_89) ?_
  show Steps p.tables e below (T6.setTop (mkF m 90 #[s0, s1, s2, s3, .val (.int i4), .val (.int i5), .val (.long (own_hund i5 i4)), .second, .unset, .unset] [(.int (1 : Int32))])) _
  refine XS.goto X6.here hx rfl (pc0 := 90) (pc' := 94) rfl (hb hby at_90) (by decide) (by decide) ?_
  exact kt
set_option maxRecDepth 65536 in
set_option maxHeartbeats 40000000 in
theorem tn_163 {p : Program} {l : Launch} {e : Env} {s : State} {m : MethodId} {args : Array Value} {below : List Frame} {meth : Method} {c : Code} {T0 : State} {Z : State} {a0 : Array Value} {h0 : Heap} (s0 : Slot) (s1 : Slot) (s2 : Slot) (s3 : Slot) (i4 : Int32) (i5 : Int32)
    (X0 : Stand p l e room_1 s m args below meth c T0 [] 0 0) (hx : p.tables.exec = Jvm.exec) (hZ : Z.Warmed39 s.vm) (hw : ∀ d ∈ tables_1, d.before a0 Z = true) (hby : c.code = code) (hml : c.maxLocals = 10) (hown : s.vm.findClass "com/example/whorl/whorl/compare/ShareHundredthsPinLaw" = some m.cls) (e0 : T0.heap = h0) (n0 : Nat) (Z0 : n0 ≤ h0.size) (hM : ¬ (own_hund i5 i4 < 0) ∧ ¬ ((10000 : Int64) < own_hund i5 i4) ∧ ¬ ((20000 : Int64) * (i5.toInt64) < (((2 : Int64) * (own_hund i5 i4)) - (1 : Int64)) * (i4.toInt64)) ∧ (20000 : Int64) * (i5.toInt64) < (((2 : Int64) * (own_hund i5 i4)) + (1 : Int64)) * (i4.toInt64)) (hc79 : ¬ (i4 = (0 : Int32))) :
    ∃ (T' : State) (L' : List Loc), Stand p l e room_1 s m args below meth c T' L' 1 2 ∧ Fr n0 L' ∧
      ∀ target, Steps p.tables e below (T'.setTop (mkF m 163 #[s0, s1, s2, s3, .val (.int i4), .val (.int i5), .val (.long (own_hund i5 i4)), .second, .val (.long ((20000 : Int64) * (i5.toInt64))), .second] [(.int (1 : Int32))])) target → Steps p.tables e below (T0.setTop (mkF m 61 #[s0, s1, s2, s3, .val (.int i4), .val (.int i5), .unset, .unset, .unset, .unset] [])) target := by
  have N0 := Fr.nil n0
  obtain ⟨T4, h4, X4, e4, E4, A4, D4, -, st4⟩ := newO X0 hx hZ hown (hw _ (List.mem_of_getElem? (i := 2) rfl)) (hw _ (List.mem_of_getElem? (i := 3) rfl)) (hw _ (List.mem_of_getElem? (i := 4) rfl)) e0 (g := (mkF m 61 #[s0, s1, s2, s3, .val (.int i4), .val (.int i5), .unset, .unset, .unset, .unset] [])) rfl (hb hby at_61) (by decide) (by decide)
  obtain ⟨b4, g4⟩ : ∃ z, z = h0.size := ⟨_, rfl⟩
  rw [← g4] at A4 D4 st4
  have F_covered_b4 : Fld Z h4 b4 "com/example/whorl/whorl/compare/Share" "covered" "I" (.int (0 : Int32)) := D4 (Or.inr (hw _ (List.mem_of_getElem? (i := 17) rfl))) (ty := .int) (by decide)
  have F_length_b4 : Fld Z h4 b4 "com/example/whorl/whorl/compare/Share" "length" "I" (.int (0 : Int32)) := D4 (Or.inr (hw _ (List.mem_of_getElem? (i := 19) rfl))) (ty := .int) (by decide)
  have E_b4 := A4
  have g_b4 : n0 ≤ b4 := Nat.le_trans Z0 (Nat.le_of_eq g4.symm)
  have sz_b4 : h0.size ≤ b4 := (Nat.le_trans (Keep.refl h0 []).1 (Nat.le_of_eq g4.symm))
  have K4 : Keep h0 h4 [] := (Keep.refl h0 []).ext E4
  obtain ⟨_, _, ⟨T5, L5, k5, n5⟩, -, X5, ⟨Lc5, hQ5, l5, y5, z5⟩, st5⟩ := X4.specialBack hx (y := (⟨"com/example/whorl/whorl/compare/Share", "<init>", "(II)V"⟩ : MethodName)) rfl hown (mvT hZ (hw _ (List.mem_of_getElem? (i := 5) rfl))) (mvT hZ (hw _ (List.mem_of_getElem? (i := 6) rfl))) (mvT hZ (hw _ (List.mem_of_getElem? (i := 7) rfl))) (by decide) (backOf (W := 1) (rm1 l Z a0 hw [] b4 i5 i4 (.int (0 : Int32)) (.int (0 : Int32)) h4 n0 (Nat.le_trans Z0 E4.1) E_b4 F_covered_b4 g_b4 F_length_b4) hZ (hw _ (List.mem_of_getElem? (i := 7) rfl)) (hw _ (List.mem_of_getElem? (i := 4) rfl)) (by decide) (by decide)) (g := (mkF m 69 #[s0, s1, s2, s3, .val (.int i4), .val (.int i5), .unset, .unset, .unset, .unset] [(.int i4), (.int i5), (.ref b4), (.ref b4)])) rfl (by rw [hml]; rfl) (Steps.refl _) (a := b4) (argsL := [(.int i5), (.int i4)]) (rest := [(.ref b4)]) (lenOf pdq_1 rfl) rfl (by show 2 * 0 + _ ≤ _; exact Nat.le_of_eq rfl) (hb hby at_69) (fun _ _ => ⟨rfl, e4, (by decide : 0 + 1 + 0 ≤ _), (by decide : 0 + 2 + 0 ≤ _)⟩)
  dsimp only [Pt.U, Pt.locs, Pt.cells, Pt.slots] at X5 l5 y5 z5 st5 hQ5
  subst l5 y5 z5
  obtain ⟨rfl, N5q, K5, E5, Fc5, Fl5⟩ := hQ5
  have N5 := Fr.app N0 N5q
  obtain ⟨cq6, kq6, q6a, q6b, q6c⟩ := isOf hZ rfl E5
  obtain ⟨_, _, ⟨T6, L6, k6, n6⟩, -, X6, ⟨Lc6, hQ6, l6, y6, z6⟩, st6⟩ := X5.virtualBack hx (y := (⟨"com/example/whorl/whorl/compare/Share", "hundredths", "()J"⟩ : MethodName)) (z := (⟨"com/example/whorl/whorl/compare/Share", "hundredths", "()J"⟩ : MethodName)) hown (mvT hZ (hw _ (List.mem_of_getElem? (i := 20) rfl))) (mvT hZ (hw _ (List.mem_of_getElem? (i := 21) rfl))) (notFace_of_selects (args := #[]) (mvT hZ (hw _ (List.mem_of_getElem? (i := 23) rfl)))) (mvT hZ (hw _ (List.mem_of_getElem? (i := 23) rfl))) (mvT hZ (hw _ (List.mem_of_getElem? (i := 22) rfl))) (by decide) (backOf (W := 0) (rm4 l Z a0 hw [] b4 i4 i5 T5.heap n0 (Nat.le_trans (Nat.le_trans Z0 E4.1) K5.1) Fl5 Fc5) hZ (hw _ (List.mem_of_getElem? (i := 24) rfl)) (hw _ (List.mem_of_getElem? (i := 4) rfl)) (by decide) (by decide)) q6a q6c (g := (mkF m 72 #[s0, s1, s2, s3, .val (.int i4), .val (.int i5), .unset, .unset, .unset, .unset] [(.ref b4)])) rfl (by rw [hml]; rfl) (Steps.refl _) (argsL := []) (rest := []) (lenOf pdq_2 rfl) rfl (by show 2 * 0 + _ ≤ _; exact Nat.le_of_eq rfl) (hb hby at_72) (fun _ _ => ⟨rfl, rfl, (by decide : 0 + 1 + 0 ≤ _), (by decide : 0 + 2 + 0 ≤ _)⟩)
  dsimp only [Pt.U, Pt.locs, Pt.cells, Pt.slots] at X6 l6 y6 z6 st6 hQ6
  subst l6 y6 z6
  obtain ⟨rfl, N6q, e6⟩ := hQ6
  have N6 := Fr.app N5 N6q
  refine ⟨T6, _, X6, N6, fun target kt => ?_⟩
  show Steps p.tables e below (T0.setTop (mkF m 61 #[s0, s1, s2, s3, .val (.int i4), .val (.int i5), .unset, .unset, .unset, .unset] [])) _
  refine st4 _ ?_
  show Steps p.tables e below (T4.setTop (mkF m 64 #[s0, s1, s2, s3, .val (.int i4), .val (.int i5), .unset, .unset, .unset, .unset] [(.ref b4)])) _
  refine XS.dup X4.here hx rfl (hb hby at_64) rfl rfl ?_
  show Steps p.tables e below (T4.setTop (mkF m 65 #[s0, s1, s2, s3, .val (.int i4), .val (.int i5), .unset, .unset, .unset, .unset] [(.ref b4), (.ref b4)])) _
  refine XS.iload X4.here hx rfl (hb hby at_65) rfl ?_
  show Steps p.tables e below (T4.setTop (mkF m 67 #[s0, s1, s2, s3, .val (.int i4), .val (.int i5), .unset, .unset, .unset, .unset] [(.int i5), (.ref b4), (.ref b4)])) _
  refine XS.iload X4.here hx rfl (hb hby at_67) rfl ?_
  show Steps p.tables e below (T4.setTop (mkF m 69 #[s0, s1, s2, s3, .val (.int i4), .val (.int i5), .unset, .unset, .unset, .unset] [(.int i4), (.int i5), (.ref b4), (.ref b4)])) _
  refine st5.trans ?_
  show Steps p.tables e below (T5.setTop (mkF m 72 #[s0, s1, s2, s3, .val (.int i4), .val (.int i5), .unset, .unset, .unset, .unset] [(.ref b4)])) _
  refine st6.trans ?_
  show Steps p.tables e below (T6.setTop (mkF m 75 #[s0, s1, s2, s3, .val (.int i4), .val (.int i5), .unset, .unset, .unset, .unset] [(.long (own_hund i5 i4))])) _
  refine XS.lstore X6.here hx rfl (hb hby at_75) rfl (l' := #[s0, s1, s2, s3, .val (.int i4), .val (.int i5), .val (.long (own_hund i5 i4)), .second, .unset, .unset]) rfl ?_
  show Steps p.tables e below (T6.setTop (mkF m 77 #[s0, s1, s2, s3, .val (.int i4), .val (.int i5), .val (.long (own_hund i5 i4)), .second, .unset, .unset] [])) _
  refine XS.iload X6.here hx rfl (hb hby at_77) rfl ?_
  show Steps p.tables e below (T6.setTop (mkF m 79 #[s0, s1, s2, s3, .val (.int i4), .val (.int i5), .val (.long (own_hund i5 i4)), .second, .unset, .unset] [(.int i4)])) _
  refine XS.ifYes X6.here hx rfl (pc0 := 79) (pc' := 95) rfl (hb hby at_79) rfl ((if0 _ _).trans (feq hc79).2) (by decide) (by decide) ?_
  show Steps p.tables e below (T6.setTop (mkF m 95 #[s0, s1, s2, s3, .val (.int i4), .val (.int i5), .val (.long (own_hund i5 i4)), .second, .unset, .unset] [])) _
  refine XS.lload X6.here hx rfl (hb hby at_95) rfl ?_
  show Steps p.tables e below (T6.setTop (mkF m 97 #[s0, s1, s2, s3, .val (.int i4), .val (.int i5), .val (.long (own_hund i5 i4)), .second, .unset, .unset] [(.long (own_hund i5 i4))])) _
  refine XS.lconst X6.here hx rfl (hb hby at_97) ?_
  show Steps p.tables e below (T6.setTop (mkF m 98 #[s0, s1, s2, s3, .val (.int i4), .val (.int i5), .val (.long (own_hund i5 i4)), .second, .unset, .unset] [(.long (0 : Int64)), (.long (own_hund i5 i4))])) _
  refine XS.lcmp X6.here hx rfl (hb hby at_98) rfl ?_
  show Steps p.tables e below (T6.setTop (mkF m 99 #[s0, s1, s2, s3, .val (.int i4), .val (.int i5), .val (.long (own_hund i5 i4)), .second, .unset, .unset] [(.int (lcmpW (own_hund i5 i4) (0 : Int64)))])) _
  refine XS.ifNo X6.here hx rfl (hb hby at_99) rfl ((if0 _ _).trans (flt (fun q => hM.1 ((lw_lt _ _).mp q) : ¬ ((lcmpW (own_hund i5 i4) (0 : Int64)) < (0 : Int32)))).1) ?_
  show Steps p.tables e below (T6.setTop (mkF m 102 #[s0, s1, s2, s3, .val (.int i4), .val (.int i5), .val (.long (own_hund i5 i4)), .second, .unset, .unset] [])) _
  refine XS.lload X6.here hx rfl (hb hby at_102) rfl ?_
  show Steps p.tables e below (T6.setTop (mkF m 104 #[s0, s1, s2, s3, .val (.int i4), .val (.int i5), .val (.long (own_hund i5 i4)), .second, .unset, .unset] [(.long (own_hund i5 i4))])) _
  refine X6.ldc2Long hx hown (mvT hZ (hw _ (List.mem_of_getElem? (i := 27) rfl))) (g := (mkF m 104 #[s0, s1, s2, s3, .val (.int i4), .val (.int i5), .val (.long (own_hund i5 i4)), .second, .unset, .unset] [(.long (own_hund i5 i4))])) rfl (hb hby at_104) _ ?_
  show Steps p.tables e below (T6.setTop (mkF m 107 #[s0, s1, s2, s3, .val (.int i4), .val (.int i5), .val (.long (own_hund i5 i4)), .second, .unset, .unset] [(.long (10000 : Int64)), (.long (own_hund i5 i4))])) _
  refine XS.lcmp X6.here hx rfl (hb hby at_107) rfl ?_
  show Steps p.tables e below (T6.setTop (mkF m 108 #[s0, s1, s2, s3, .val (.int i4), .val (.int i5), .val (.long (own_hund i5 i4)), .second, .unset, .unset] [(.int (lcmpW (own_hund i5 i4) (10000 : Int64)))])) _
  refine XS.ifYes X6.here hx rfl (pc0 := 108) (pc' := 113) rfl (hb hby at_108) rfl ((if0 _ _).trans (flt (fun q => hM.2.1 ((lw_gt _ _).mp q) : ¬ ((0 : Int32) < (lcmpW (own_hund i5 i4) (10000 : Int64))))).2.2.2) (by decide) (by decide) ?_
  show Steps p.tables e below (T6.setTop (mkF m 113 #[s0, s1, s2, s3, .val (.int i4), .val (.int i5), .val (.long (own_hund i5 i4)), .second, .unset, .unset] [])) _
  refine X6.ldc2Long hx hown (mvT hZ (hw _ (List.mem_of_getElem? (i := 28) rfl))) (g := (mkF m 113 #[s0, s1, s2, s3, .val (.int i4), .val (.int i5), .val (.long (own_hund i5 i4)), .second, .unset, .unset] [])) rfl (hb hby at_113) _ ?_
  show Steps p.tables e below (T6.setTop (mkF m 116 #[s0, s1, s2, s3, .val (.int i4), .val (.int i5), .val (.long (own_hund i5 i4)), .second, .unset, .unset] [(.long (20000 : Int64))])) _
  refine XS.iload X6.here hx rfl (hb hby at_116) rfl ?_
  show Steps p.tables e below (T6.setTop (mkF m 118 #[s0, s1, s2, s3, .val (.int i4), .val (.int i5), .val (.long (own_hund i5 i4)), .second, .unset, .unset] [(.int i5), (.long (20000 : Int64))])) _
  refine XS.i2l X6.here hx rfl (hb hby at_118) rfl ?_
  show Steps p.tables e below (T6.setTop (mkF m 119 #[s0, s1, s2, s3, .val (.int i4), .val (.int i5), .val (.long (own_hund i5 i4)), .second, .unset, .unset] [(.long (i5.toInt64)), (.long (20000 : Int64))])) _
  refine XS.lmul X6.here hx rfl (hb hby at_119) rfl ?_
  show Steps p.tables e below (T6.setTop (mkF m 120 #[s0, s1, s2, s3, .val (.int i4), .val (.int i5), .val (.long (own_hund i5 i4)), .second, .unset, .unset] [(.long ((20000 : Int64) * (i5.toInt64)))])) _
  refine XS.lstore X6.here hx rfl (hb hby at_120) rfl (l' := #[s0, s1, s2, s3, .val (.int i4), .val (.int i5), .val (.long (own_hund i5 i4)), .second, .val (.long ((20000 : Int64) * (i5.toInt64))), .second]) rfl ?_
  show Steps p.tables e below (T6.setTop (mkF m 122 #[s0, s1, s2, s3, .val (.int i4), .val (.int i5), .val (.long (own_hund i5 i4)), .second, .val (.long ((20000 : Int64) * (i5.toInt64))), .second] [])) _
  refine X6.ldc2Long hx hown (mvT hZ (hw _ (List.mem_of_getElem? (i := 29) rfl))) (g := (mkF m 122 #[s0, s1, s2, s3, .val (.int i4), .val (.int i5), .val (.long (own_hund i5 i4)), .second, .val (.long ((20000 : Int64) * (i5.toInt64))), .second] [])) rfl (hb hby at_122) _ ?_
  show Steps p.tables e below (T6.setTop (mkF m 125 #[s0, s1, s2, s3, .val (.int i4), .val (.int i5), .val (.long (own_hund i5 i4)), .second, .val (.long ((20000 : Int64) * (i5.toInt64))), .second] [(.long (2 : Int64))])) _
  refine XS.lload X6.here hx rfl (hb hby at_125) rfl ?_
  show Steps p.tables e below (T6.setTop (mkF m 127 #[s0, s1, s2, s3, .val (.int i4), .val (.int i5), .val (.long (own_hund i5 i4)), .second, .val (.long ((20000 : Int64) * (i5.toInt64))), .second] [(.long (own_hund i5 i4)), (.long (2 : Int64))])) _
  refine XS.lmul X6.here hx rfl (hb hby at_127) rfl ?_
  show Steps p.tables e below (T6.setTop (mkF m 128 #[s0, s1, s2, s3, .val (.int i4), .val (.int i5), .val (.long (own_hund i5 i4)), .second, .val (.long ((20000 : Int64) * (i5.toInt64))), .second] [(.long ((2 : Int64) * (own_hund i5 i4)))])) _
  refine XS.lconst X6.here hx rfl (hb hby at_128) ?_
  show Steps p.tables e below (T6.setTop (mkF m 129 #[s0, s1, s2, s3, .val (.int i4), .val (.int i5), .val (.long (own_hund i5 i4)), .second, .val (.long ((20000 : Int64) * (i5.toInt64))), .second] [(.long (1 : Int64)), (.long ((2 : Int64) * (own_hund i5 i4)))])) _
  refine XS.lsub X6.here hx rfl (hb hby at_129) rfl ?_
  show Steps p.tables e below (T6.setTop (mkF m 130 #[s0, s1, s2, s3, .val (.int i4), .val (.int i5), .val (.long (own_hund i5 i4)), .second, .val (.long ((20000 : Int64) * (i5.toInt64))), .second] [(.long (((2 : Int64) * (own_hund i5 i4)) - (1 : Int64)))])) _
  refine XS.iload X6.here hx rfl (hb hby at_130) rfl ?_
  show Steps p.tables e below (T6.setTop (mkF m 132 #[s0, s1, s2, s3, .val (.int i4), .val (.int i5), .val (.long (own_hund i5 i4)), .second, .val (.long ((20000 : Int64) * (i5.toInt64))), .second] [(.int i4), (.long (((2 : Int64) * (own_hund i5 i4)) - (1 : Int64)))])) _
  refine XS.i2l X6.here hx rfl (hb hby at_132) rfl ?_
  show Steps p.tables e below (T6.setTop (mkF m 133 #[s0, s1, s2, s3, .val (.int i4), .val (.int i5), .val (.long (own_hund i5 i4)), .second, .val (.long ((20000 : Int64) * (i5.toInt64))), .second] [(.long (i4.toInt64)), (.long (((2 : Int64) * (own_hund i5 i4)) - (1 : Int64)))])) _
  refine XS.lmul X6.here hx rfl (hb hby at_133) rfl ?_
  show Steps p.tables e below (T6.setTop (mkF m 134 #[s0, s1, s2, s3, .val (.int i4), .val (.int i5), .val (.long (own_hund i5 i4)), .second, .val (.long ((20000 : Int64) * (i5.toInt64))), .second] [(.long ((((2 : Int64) * (own_hund i5 i4)) - (1 : Int64)) * (i4.toInt64)))])) _
  refine XS.lload X6.here hx rfl (hb hby at_134) rfl ?_
  show Steps p.tables e below (T6.setTop (mkF m 136 #[s0, s1, s2, s3, .val (.int i4), .val (.int i5), .val (.long (own_hund i5 i4)), .second, .val (.long ((20000 : Int64) * (i5.toInt64))), .second] [(.long ((20000 : Int64) * (i5.toInt64))), (.long ((((2 : Int64) * (own_hund i5 i4)) - (1 : Int64)) * (i4.toInt64)))])) _
  refine XS.lcmp X6.here hx rfl (hb hby at_136) rfl ?_
  show Steps p.tables e below (T6.setTop (mkF m 137 #[s0, s1, s2, s3, .val (.int i4), .val (.int i5), .val (.long (own_hund i5 i4)), .second, .val (.long ((20000 : Int64) * (i5.toInt64))), .second] [(.int (lcmpW ((((2 : Int64) * (own_hund i5 i4)) - (1 : Int64)) * (i4.toInt64)) ((20000 : Int64) * (i5.toInt64))))])) _
  refine XS.ifNo X6.here hx rfl (hb hby at_137) rfl ((if0 _ _).trans (flt (fun q => hM.2.2.1 ((lw_gt _ _).mp q) : ¬ ((0 : Int32) < (lcmpW ((((2 : Int64) * (own_hund i5 i4)) - (1 : Int64)) * (i4.toInt64)) ((20000 : Int64) * (i5.toInt64)))))).2.2.1) ?_
  show Steps p.tables e below (T6.setTop (mkF m 140 #[s0, s1, s2, s3, .val (.int i4), .val (.int i5), .val (.long (own_hund i5 i4)), .second, .val (.long ((20000 : Int64) * (i5.toInt64))), .second] [])) _
  refine XS.lload X6.here hx rfl (hb hby at_140) rfl ?_
  show Steps p.tables e below (T6.setTop (mkF m 142 #[s0, s1, s2, s3, .val (.int i4), .val (.int i5), .val (.long (own_hund i5 i4)), .second, .val (.long ((20000 : Int64) * (i5.toInt64))), .second] [(.long ((20000 : Int64) * (i5.toInt64)))])) _
  refine X6.ldc2Long hx hown (mvT hZ (hw _ (List.mem_of_getElem? (i := 29) rfl))) (g := (mkF m 142 #[s0, s1, s2, s3, .val (.int i4), .val (.int i5), .val (.long (own_hund i5 i4)), .second, .val (.long ((20000 : Int64) * (i5.toInt64))), .second] [(.long ((20000 : Int64) * (i5.toInt64)))])) rfl (hb hby at_142) _ ?_
  show Steps p.tables e below (T6.setTop (mkF m 145 #[s0, s1, s2, s3, .val (.int i4), .val (.int i5), .val (.long (own_hund i5 i4)), .second, .val (.long ((20000 : Int64) * (i5.toInt64))), .second] [(.long (2 : Int64)), (.long ((20000 : Int64) * (i5.toInt64)))])) _
  refine XS.lload X6.here hx rfl (hb hby at_145) rfl ?_
  show Steps p.tables e below (T6.setTop (mkF m 147 #[s0, s1, s2, s3, .val (.int i4), .val (.int i5), .val (.long (own_hund i5 i4)), .second, .val (.long ((20000 : Int64) * (i5.toInt64))), .second] [(.long (own_hund i5 i4)), (.long (2 : Int64)), (.long ((20000 : Int64) * (i5.toInt64)))])) _
  refine XS.lmul X6.here hx rfl (hb hby at_147) rfl ?_
  show Steps p.tables e below (T6.setTop (mkF m 148 #[s0, s1, s2, s3, .val (.int i4), .val (.int i5), .val (.long (own_hund i5 i4)), .second, .val (.long ((20000 : Int64) * (i5.toInt64))), .second] [(.long ((2 : Int64) * (own_hund i5 i4))), (.long ((20000 : Int64) * (i5.toInt64)))])) _
  refine XS.lconst X6.here hx rfl (hb hby at_148) ?_
  show Steps p.tables e below (T6.setTop (mkF m 149 #[s0, s1, s2, s3, .val (.int i4), .val (.int i5), .val (.long (own_hund i5 i4)), .second, .val (.long ((20000 : Int64) * (i5.toInt64))), .second] [(.long (1 : Int64)), (.long ((2 : Int64) * (own_hund i5 i4))), (.long ((20000 : Int64) * (i5.toInt64)))])) _
  refine XS.ladd X6.here hx rfl (hb hby at_149) rfl ?_
  show Steps p.tables e below (T6.setTop (mkF m 150 #[s0, s1, s2, s3, .val (.int i4), .val (.int i5), .val (.long (own_hund i5 i4)), .second, .val (.long ((20000 : Int64) * (i5.toInt64))), .second] [(.long (((2 : Int64) * (own_hund i5 i4)) + (1 : Int64))), (.long ((20000 : Int64) * (i5.toInt64)))])) _
  refine XS.iload X6.here hx rfl (hb hby at_150) rfl ?_
  show Steps p.tables e below (T6.setTop (mkF m 152 #[s0, s1, s2, s3, .val (.int i4), .val (.int i5), .val (.long (own_hund i5 i4)), .second, .val (.long ((20000 : Int64) * (i5.toInt64))), .second] [(.int i4), (.long (((2 : Int64) * (own_hund i5 i4)) + (1 : Int64))), (.long ((20000 : Int64) * (i5.toInt64)))])) _
  refine XS.i2l X6.here hx rfl (hb hby at_152) rfl ?_
  show Steps p.tables e below (T6.setTop (mkF m 153 #[s0, s1, s2, s3, .val (.int i4), .val (.int i5), .val (.long (own_hund i5 i4)), .second, .val (.long ((20000 : Int64) * (i5.toInt64))), .second] [(.long (i4.toInt64)), (.long (((2 : Int64) * (own_hund i5 i4)) + (1 : Int64))), (.long ((20000 : Int64) * (i5.toInt64)))])) _
  refine XS.lmul X6.here hx rfl (hb hby at_153) rfl ?_
  show Steps p.tables e below (T6.setTop (mkF m 154 #[s0, s1, s2, s3, .val (.int i4), .val (.int i5), .val (.long (own_hund i5 i4)), .second, .val (.long ((20000 : Int64) * (i5.toInt64))), .second] [(.long ((((2 : Int64) * (own_hund i5 i4)) + (1 : Int64)) * (i4.toInt64))), (.long ((20000 : Int64) * (i5.toInt64)))])) _
  refine XS.lcmp X6.here hx rfl (hb hby at_154) rfl ?_
  show Steps p.tables e below (T6.setTop (mkF m 155 #[s0, s1, s2, s3, .val (.int i4), .val (.int i5), .val (.long (own_hund i5 i4)), .second, .val (.long ((20000 : Int64) * (i5.toInt64))), .second] [(.int (lcmpW ((20000 : Int64) * (i5.toInt64)) ((((2 : Int64) * (own_hund i5 i4)) + (1 : Int64)) * (i4.toInt64))))])) _
  refine XS.ifNo X6.here hx rfl (hb hby at_155) rfl ((if0 _ _).trans (tlt ((lw_lt _ _).mpr hM.2.2.2 : (lcmpW ((20000 : Int64) * (i5.toInt64)) ((((2 : Int64) * (own_hund i5 i4)) + (1 : Int64)) * (i4.toInt64))) < (0 : Int32))).2.1) ?_
  show Steps p.tables e below (T6.setTop (mkF m 158 #[s0, s1, s2, s3, .val (.int i4), .val (.int i5), .val (.long (own_hund i5 i4)), .second, .val (.long ((20000 : Int64) * (i5.toInt64))), .second] [])) _
  refine XS.iconst X6.here hx rfl (hb hby at_158) ?_
  show Steps p.tables e below (T6.setTop (mkF m 159 #[s0, s1, s2, s3, .val (.int i4), .val (.int i5), .val (.long (own_hund i5 i4)), .second, .val (.long ((20000 : Int64) * (i5.toInt64))), .second] [(.int (1 : Int32))])) _
  refine XS.goto X6.here hx rfl (pc0 := 159) (pc' := 163) rfl (hb hby at_159) (by decide) (by decide) ?_
  exact kt
def Q0 (Z : State) (p1 : Int32) (p2 : Int32) (p3 : Int32) (h0 : Heap) (n0 : Nat) (v : Option Value) (h : Heap) (L : List Loc) : Prop := v = some (.int (1 : Int32)) ∧ Fr n0 L
set_option maxRecDepth 65536 in
set_option maxHeartbeats 40000000 in
theorem rm0 (l : Launch) (Z : State) (a0 : Array Value) (hw : ∀ d ∈ tables_1, d.before a0 Z = true) (ws : List Jvm.Cond) (p1 : Int32) (p2 : Int32) (p3 : Int32) (h0 : Heap) (n0 : Nat) (Z0 : n0 ≤ h0.size) :
    MetFree l x (head1 (Jvm.Cond.code x code maxLocals ret :: ws) room_1) (fun a U => a = #[(.int p1), (.int p2), (.int p3)] ∧ Z.Warmed39 U.vm ∧ U.heap = h0) (fun _ _ _ _ _ => True) (fun _ U o U' => ∃ v L, o = .returned v ∧ Q0 Z p1 p2 p3 h0 n0 v U'.heap L ∧ FrameEnd U o U' L room_1.cells room_1.slots) := by
  refine MetFree.of_bodySF (plainFor_of_name pn_0) hisR ?_
  intro p e s m args below meth c s₁ Bd hml0 hP hK
  obtain ⟨rfl, hZ, hh⟩ := hP
  have hx := Bd.exec
  have hby := Bd.bytes
  have hml : c.maxLocals = 10 := hml0
  have hown : s.vm.findClass "com/example/whorl/whorl/compare/ShareHundredthsPinLaw" = some m.cls := findClass_of_methodNamed Bd.named
  have hnm := (name_of_methodNamed Bd.named Bd.method).1
  have X0 : Stand p l e room_1 s m #[(.int p1), (.int p2), (.int p3)] below meth c s₁ [] 0 0 := Stand.of_body Bd
  have e0 : s₁.heap = h0 := by rw [← hh, Bd.state]; rfl
  have N0 := Fr.nil n0
  have pre0 : ∀ t, Steps p.tables e below (s₁.setTop (mkF m 0 #[.val (.int p1), .val (.int p2), .val (.int p3), .unset, .unset, .unset, .unset, .unset, .unset, .unset] [])) t → Steps p.tables e below (s₁.setTop (entryFrame m #[(.int p1), (.int p2), (.int p3)] maxLocals)) t := fun t k => castTop (ef_0 m p1 p2 p3) k
  obtain ⟨C, L, hCL, go⟩ : ∃ (C L : Int32), (L = 0 ∨ (0 < L.toInt ∧ 0 ≤ C.toInt ∧ C.toInt ≤ L.toInt)) ∧ ∀ target, Steps p.tables e below (s₁.setTop (mkF m 61 #[.val (.int p1), .val (.int p2), .val (.int p3), .val (.int (p3 &&& (3 : Int32))), .val (.int L), .val (.int C), .unset, .unset, .unset, .unset] [])) target → Steps p.tables e below (s₁.setTop (mkF m 0 #[.val (.int p1), .val (.int p2), .val (.int p3), .unset, .unset, .unset, .unset, .unset, .unset, .unset] [])) target := by
    obtain ⟨L, hL, goL⟩ : ∃ L : Int32, 0 ≤ L.toInt ∧ ∀ target, Steps p.tables e below (s₁.setTop (mkF m 35 #[.val (.int p1), .val (.int p2), .val (.int p3), .val (.int (p3 &&& (3 : Int32))), .val (.int L), .unset, .unset, .unset, .unset, .unset] [])) target → Steps p.tables e below (s₁.setTop (mkF m 0 #[.val (.int p1), .val (.int p2), .val (.int p3), .unset, .unset, .unset, .unset, .unset, .unset, .unset] [])) target := by
      by_cases h1 : (p3 &&& (3 : Int32)) = (0 : Int32)
      · exact ⟨0, by decide, tn_m0 _ _ _ _ _ _ _ _ _ _ X0 hx hZ hw hby hml hown e0 One.u One.u h1⟩
      · by_cases h2 : (p3 &&& (3 : Int32)) = (1 : Int32)
        · exact ⟨p2 &&& (255 : Int32), by rw [Jvm.Kit.i32_mask p2 255 (k := 8) (by decide) (by decide)]; omega, tn_m1 _ _ _ _ _ _ _ _ _ _ X0 hx hZ hw hby hml hown e0 One.u One.u h1 h2⟩
        · exact ⟨p2 &&& (2147483647 : Int32), by rw [Jvm.Kit.i32_mask p2 2147483647 (k := 31) (by decide) (by decide)]; omega, tn_m2 _ _ _ _ _ _ _ _ _ _ X0 hx hZ hw hby hml hown e0 One.u One.u h1 h2⟩
    by_cases h : L = (0 : Int32)
    · exact ⟨p1, L, Or.inl h, fun target k => goL target (tn_z _ _ _ _ _ _ _ _ _ _ X0 hx hZ hw hby hml hown e0 One.u h target k)⟩
    · have hp : 0 < L.toInt := by
        rcases Int.lt_or_eq_of_le hL with q | q
        · exact q
        · exact absurd (Int32.toInt_inj.mp q.symm) h
      exact ⟨_, L, Or.inr ⟨hp, own_cov p1 L hp _ rfl⟩, fun target k => goL target (tn_c _ _ _ _ _ _ _ _ _ _ X0 hx hZ hw hby hml hown e0 One.u h (own_nb hL) target k)⟩
  by_cases hz : L = (0 : Int32)
  · obtain ⟨T', L', X', N', st'⟩ := tn_94 (.val (.int p1)) (.val (.int p2)) (.val (.int p3)) (.val (.int (p3 &&& (3 : Int32)))) L C X0 hx hZ hw hby hml hown e0 n0 Z0 hz
    obtain ⟨fs, hr, hrun, hended, hW, hsame⟩ := X'.leave (v := some (.int (1 : Int32))) (fun h => by rw [Bd.returns] at h; cases h)
    refine ⟨_, _, pre0 _ ?_, hrun, hended, _, _, rfl, ?_, ⟨_, rfl⟩, hW, hsame.mono (by decide) (by decide)⟩
    · exact go _ (st' _ (retN X' hx (t := .boolean) Bd.returns (by simp) (hb hby at_94) hr))
    · exact ⟨rfl, N'⟩
  · obtain ⟨T', L', X', N', st'⟩ := tn_163 (.val (.int p1)) (.val (.int p2)) (.val (.int p3)) (.val (.int (p3 &&& (3 : Int32)))) L C X0 hx hZ hw hby hml hown e0 n0 Z0 (by rcases hCL with q | ⟨q1, q2, q3⟩; exact absurd q hz; exact own_main C L q1 q2 q3) hz
    obtain ⟨fs, hr, hrun, hended, hW, hsame⟩ := X'.leave (v := some (.int (1 : Int32))) (fun h => by rw [Bd.returns] at h; cases h)
    refine ⟨_, _, pre0 _ ?_, hrun, hended, _, _, rfl, ?_, ⟨_, rfl⟩, hW, hsame.mono (by decide) (by decide)⟩
    · exact go _ (st' _ (retN X' hx (t := .boolean) Bd.returns (by simp) (hb hby at_163) hr))
    · exact ⟨rfl, N'⟩

set_option maxRecDepth 65536 in
set_option maxHeartbeats 40000000 in
theorem comes_1 {Post : Tables → Env → Array Value → State → Outcome → State → Prop} (hpost : ∀ tb e args s v u, (limb_1_1.after args s (.returned v) u = true ∧ limb_1_2.after args s (.returned v) u = true ∧ True) → FrameEnd s (.returned v) u (Jvm.fieldLocs frame_1_writes args s ++ Jvm.arrayLocs frame_1_arrays args s ++ Jvm.staticLocs frame_1_statics s) 16 128 → Post tb e args s (.returned v) u) :
    ArmFor flags0 classFile x code maxLocals ret World_1 tables_1 room_1 Calls_1 rest_1 Pre_1 Post := by
  intro l hfl _ _ p e ha hc hk s m args below hf hA hF happ hP
  obtain ⟨hcalls, hrest, hpre⟩ := hP
  obtain ⟨-, -, -, hnamed, -, -, -, hat⟩ := (Spec.applies_iff hf).mp happ
  obtain ⟨hg, hn⟩ := and_e (Cond.before_iff.mp (show (Jvm.Cond.and given_1 narrow_1).before args s = true from hpre))
  obtain ⟨g7, g8⟩ := and_e hg
  obtain ⟨g9, g10⟩ := and_e g8
  obtain ⟨g11, g12⟩ := and_e g10
  obtain ⟨w0, w1, w2, rfl⟩ : ∃ w0 w1 w2 : Value, args = #[w0, w1, w2] := by
    have hs : args.size = 3 := by simpa [Cond.value, given_1] using g7
    obtain ⟨L⟩ := args
    match L, hs with
    | [w0, w1, w2], _ => exact ⟨w0, w1, w2, rfl⟩
  have hw := fun d (hd : d ∈ tables_1) => atoms_spec (ws := Jvm.Cond.code x code maxLocals ret :: tables_1) hat d (List.mem_cons_of_mem _ hd)
  have hfit : Fit s := fun {y c} hc i hi => by
    obtain ⟨ha, rfl⟩ := Array.getElem?_eq_some_iff.mp hc
    have q := List.all_eq_true.mp ((Array.all_eq_true_iff_forall_mem.mp hF) _ (Array.getElem_mem ha)) i (List.mem_range.mpr hi)
    simpa [Array.getElem?_eq_getElem hi] using q
  obtain ⟨i0, ei0⟩ := is_v g9
  obtain rfl : w0 = (.int i0) := Option.some.inj ei0
  obtain ⟨i1, ei1⟩ := is_v g11
  obtain rfl : w1 = (.int i1) := Option.some.inj ei1
  obtain ⟨i2, ei2⟩ := is_v g12
  obtain rfl : w2 = (.int i2) := Option.some.inj ei2
  obtain ⟨n, o, h1, h2, h3, _, L, rfl, ⟨rfl, N⟩, hq⟩ := rm0 l s _ hw tables_1 i0 i1 i2 s.heap s.heap.size (Nat.le_refl _) p e ha hc hk s m _ below hf ((Spec.applies_iff_loose hf).mp happ).1 ⟨rfl, State.Warmed39.refl s, rfl⟩ trivial
  refine ⟨n, _, h1, h2, h3, hpost _ _ _ _ _ _ ⟨Cond.after_iff.mpr rfl, Cond.after_iff.mpr (eq_i res_at (Term.int_eval (1)) rfl), trivial⟩ ⟨hq.1, hq.2.1, (hq.2.2.sift fun y hy => Or.inr (N y hy)).mono (by decide) (by decide)⟩⟩
theorem main_1_1 : Claimed_1_1 := comes_1 fun _ _ _ _ _ _ h hF => ⟨h.1, hF⟩
theorem main_1_2 : Claimed_1_2 := comes_1 fun _ _ _ _ _ _ h hF => ⟨h.2.1, hF⟩
end Jvm.Pilot.@@N@@
namespace Jvm.Pilot.@@N@@
open Jvm Jvm.ClassFile Sem Op Lib Jvm.Free Jvm.Stand Jvm.Pilot.@@N@@.Jvm.D
/-! MADE BY PROGRAM (witnessworld.py) out of the Statement's table words and the real class files: 8 classes; the members and pool entries that the words name. The judged class is class 1, her method 1. -/
namespace start1
open Jvm.ClassFile
def u (s : String) : CpInfo := .utf8 (stringToUtf16 s)
/-- a pool by its gaps: so many unusable entries, then the entry; so many at the end -/
def gap : Nat → List CpInfo → List CpInfo
  | 0, r => r
  | n + 1, r => .unusable :: gap n r
def poolList (es : List (Nat × CpInfo)) (last : Nat) : List CpInfo := es.foldr (fun e r => gap e.1 (e.2 :: r)) (gap last [])
def pool (es : List (Nat × CpInfo)) (last : Nat) : Array CpInfo := ⟨poolList es last⟩
def fileOf (pool : Array CpInfo) (this : Nat) (attrs : Array Attribute := #[]) (ms : Array MethodInfo := #[]) (fl : Nat := 33) (sup : Nat := 0) (ifs : Array Nat := #[]) (fds : Array FieldInfo := #[]) : ClassFile where
  minorVersion := 0
  majorVersion := 65
  constantPool := pool
  accessFlags := fl
  thisClass := this
  superClass := sup
  interfaces := ifs
  fields := fds
  methods := ms
  attributes := attrs
def plain (name : String) (sup : Option ClassId) : Class where
  name := name
  kind := .ordinary
  loader := none
  accessFlags := 33
  super := sup
  interfaces := #[]
  cf := none
  fields := #[]
  methods := #[]
  instanceTypes := #[]
  staticTypes := #[]
  resolved := #[]
  callSites := []
  init := .initialized
  statics := none
  mirror := none

def pool0 : Array CpInfo := pool [(5, u "<init>"), (0, u "()V"), (1, .class_ 10), (1, u "java/lang/Object")] 113

def k0c0 : Code := { maxStack := 0, maxLocals := 1, code := object_method_1_code, exceptionTable := #[], attributes := #[] }
def k0m0 : Method := { name := "<init>", desc := "()V", sig := { parameters := [], returnType := none }, accessFlags := 1, code := some k0c0 }
/-- java/lang/Object -/
def k0 : Class := { plain "java/lang/Object" none with
  accessFlags := 33
  interfaces := #[]
  cf := some (fileOf pool0 8 #[] #[{ accessFlags := 1, nameIndex := 5, descriptorIndex := 6, attributes := #[] }] 33 0 #[] #[])
  fields := #[]
  methods := #[k0m0]
  instanceTypes := #[]
  staticTypes := #[]
  resolved := Array.replicate 124 none
  statics := none }

def pool1 : Array CpInfo := pool [(2, .class_ 4), (1, u "java/lang/Object"), (0, u "<init>"), (0, u "()V"), (0, .integer 2147483647), (0, .long 2147483647), (1, .class_ 11), (0, u "com/example/whorl/whorl/compare/Share"), (0, .methodref 10 13), (0, .nameAndType 5 14), (0, u "(II)V"), (0, .methodref 10 16), (0, .nameAndType 17 18), (0, u "hundredths"), (0, u "()J"), (0, .long 10000), (1, .long 20000), (1, .long 2), (1, .class_ 26), (0, u "com/example/whorl/whorl/compare/ShareHundredthsPinLaw"), (2, u "law"), (0, u "(III)Z")] 3

def k1m0 : Method := { name := "<init>", desc := "()V", sig := { parameters := [], returnType := none }, accessFlags := 1, code := none }
def k1c1 : Code := { maxStack := 6, maxLocals := 10, code := code, exceptionTable := #[], attributes := #[] }
def k1m1 : Method := { name := "law", desc := "(III)Z", sig := { parameters := [.int, .int, .int], returnType := some .boolean }, accessFlags := 9, code := some k1c1 }
/-- com/example/whorl/whorl/compare/ShareHundredthsPinLaw -/
def k1 : Class := { plain "com/example/whorl/whorl/compare/ShareHundredthsPinLaw" (some 0) with
  accessFlags := 49
  interfaces := #[]
  cf := some (fileOf pool1 25 #[] #[{ accessFlags := 1, nameIndex := 5, descriptorIndex := 6, attributes := #[] }, { accessFlags := 9, nameIndex := 29, descriptorIndex := 30, attributes := #[] }] 49 2 #[] #[])
  fields := #[]
  methods := #[k1m0, k1m1]
  instanceTypes := #[]
  staticTypes := #[]
  resolved := Array.replicate 34 none
  statics := none }

def pool2 : Array CpInfo := pool [(1, .methodref 2 3), (0, .class_ 4), (0, .nameAndType 5 6), (0, u "java/lang/Object"), (0, u "<init>"), (0, u "()V"), (0, .class_ 8), (0, u "java/lang/Record")] 13

def k2c0 : Code := { maxStack := 1, maxLocals := 1, code := jdk_30_method_1_code, exceptionTable := #[], attributes := #[] }
def k2m0 : Method := { name := "<init>", desc := "()V", sig := { parameters := [], returnType := none }, accessFlags := 4, code := some k2c0 }
/-- java/lang/Record -/
def k2 : Class := { plain "java/lang/Record" (some 0) with
  accessFlags := 1057
  interfaces := #[]
  cf := some (fileOf pool2 7 #[] #[{ accessFlags := 4, nameIndex := 5, descriptorIndex := 6, attributes := #[] }] 1057 2 #[] #[])
  fields := #[]
  methods := #[k2m0]
  instanceTypes := #[]
  staticTypes := #[]
  resolved := Array.replicate 22 none
  statics := none }

def pool3 : Array CpInfo := pool [(1, .methodref 2 3), (0, .class_ 4), (0, .nameAndType 5 6), (0, u "java/lang/Record"), (0, u "<init>"), (0, u "()V"), (0, .fieldref 8 9), (0, .class_ 10), (0, .nameAndType 11 12), (0, u "com/example/whorl/whorl/compare/Share"), (0, u "covered"), (0, u "I"), (0, .fieldref 8 14), (0, .nameAndType 15 12), (0, u "length"), (2, u "hundredths"), (0, u "()J"), (0, .long 20000), (1, .long 2), (37, u "(II)V")] 31

def k3c0 : Code := { maxStack := 2, maxLocals := 3, code := prog_16_method_1_code, exceptionTable := #[], attributes := #[] }
def k3m0 : Method := { name := "<init>", desc := "(II)V", sig := { parameters := [.int, .int], returnType := none }, accessFlags := 1, code := some k3c0 }
def k3c1 : Code := { maxStack := 6, maxLocals := 3, code := prog_16_method_3_code, exceptionTable := #[], attributes := #[] }
def k3m1 : Method := { name := "hundredths", desc := "()J", sig := { parameters := [], returnType := some .long }, accessFlags := 1, code := some k3c1 }
/-- com/example/whorl/whorl/compare/Share -/
def k3 : Class := { plain "com/example/whorl/whorl/compare/Share" (some 2) with
  accessFlags := 49
  interfaces := #[]
  cf := some (fileOf pool3 8 #[] #[{ accessFlags := 1, nameIndex := 5, descriptorIndex := 60, attributes := #[] }, { accessFlags := 1, nameIndex := 18, descriptorIndex := 19, attributes := #[] }] 49 2 #[] #[{ accessFlags := 18, nameIndex := 11, descriptorIndex := 12, attributes := #[] }, { accessFlags := 18, nameIndex := 15, descriptorIndex := 12, attributes := #[] }])
  fields := #[{ name := "covered", type := .int, accessFlags := 18, slot := 0, constantValue := 0 }, { name := "length", type := .int, accessFlags := 18, slot := 1, constantValue := 0 }]
  methods := #[k3m0, k3m1]
  instanceTypes := #[.int, .int]
  staticTypes := #[]
  resolved := Array.replicate 92 none
  statics := none }

def pool4 : Array CpInfo := pool [(1, u "java/lang/Cloneable"), (0, .class_ 1), (0, u "java/lang/Object"), (0, .class_ 3)] 3

/-- java/lang/Cloneable -/
def k4 : Class := { plain "java/lang/Cloneable" (some 0) with
  accessFlags := 1537
  interfaces := #[]
  cf := some (fileOf pool4 2 #[] #[] 1537 4 #[] #[])
  fields := #[]
  methods := #[]
  instanceTypes := #[]
  staticTypes := #[]
  resolved := Array.replicate 8 none
  statics := none }

def pool5 : Array CpInfo := pool [(1, u "java/io/Serializable"), (0, .class_ 1), (0, u "java/lang/Object"), (0, .class_ 3)] 3

/-- java/io/Serializable -/
def k5 : Class := { plain "java/io/Serializable" (some 0) with
  accessFlags := 1537
  interfaces := #[]
  cf := some (fileOf pool5 2 #[] #[] 1537 4 #[] #[])
  fields := #[]
  methods := #[]
  instanceTypes := #[]
  staticTypes := #[]
  resolved := Array.replicate 8 none
  statics := none }

/-- the primitive byte -/
def k6 : Class := { plain "byte" none with kind := .primitive 'B', accessFlags := 0x411 }
/-- [B -/
def k7 : Class := { plain "[B" (some 0) with kind := .array 6 .byte, interfaces := #[4, 5], accessFlags := 1041 }

def heap : Heap := #[]
def classes : Array Class := #[k0, k1, k2, k3, k4, k5, k6, k7]
def interned : List (Array UInt16 × Addr) := []
def slotsUsed : Nat := 0
def theMethod : MethodId := ⟨1, 1⟩
def args0 : Array Value := #[.int 5, .int 7, .int 2]
def aboutOver (below : List Frame) : State where
  vm := { classes := classes, interned := interned.toArray }
  heap := heap
  slotsUsed := slotsUsed
  threads := #[{ frames := .invoking theMethod args0 :: below }]
def below0 : List Frame := [.native { method := ⟨0, 0⟩, args := #[] }]
def about1 : State := aboutOver below0
def p0 : Program := .bare "" "" ""
def e0 : Env := launch0.env 0 0 0
theorem w_frames : about1.frames = Frame.invoking theMethod args0 :: below0 := rfl
set_option maxRecDepth 65536 in
theorem w_args : argsFit about1.vm theMethod args0 = true := by decide +kernel
set_option maxRecDepth 65536 in
theorem w_heap : heapFits about1 = true := by decide +kernel
set_option maxRecDepth 65536 in
theorem w_runnable : about1.curStatus? = some .runnable := by decide +kernel
set_option maxRecDepth 65536 in
theorem w_alone : about1.alone = true := by decide +kernel
set_option maxRecDepth 65536 in
theorem w_named : about1.methodNamed? x = some theMethod := by decide +kernel
set_option maxRecDepth 65536 in
theorem w_hears : about1.hears theMethod below0 = true := by decide +kernel
set_option maxRecDepth 65536 in
theorem w_ripe : about1.ripe theMethod args0 below0 = true := by decide +kernel
theorem w_running : about1.status = .running := rfl
set_option maxRecDepth 65536 in
theorem w_room : about1.hasRoom e0.platform room_1 = true :=
  launch0.hasRoom_least _ room_1 (by decide +kernel) (by decide +kernel) (by decide +kernel) (by decide +kernel) (by decide +kernel) (by decide +kernel)
theorem allAtoms_all (ts : List Jvm.Cond) (a : Array Jvm.Value) (st : Jvm.State) : (allAtoms ts).before a st = ts.all (fun c => c.before a st) := by
  induction ts with
  | nil => rfl
  | cons c t ih =>
    show (Jvm.Cond.and c (allAtoms t)).before a st = _
    rw [Jvm.Cond.before_and, ih, List.all_cons]
def words1 : List Jvm.Cond := Jvm.Cond.code x code maxLocals ret :: tables_1
/-- a 'code' word, met by the world's own term for the bytes: nothing is compared byte by byte -/
theorem code_word {y : MethodName} {bytes : ByteArray} {mx : Nat} {rt : Option FieldType} {a : Array Value} {s : State} {m : MethodId} {meth : Method} {c : Code} (h1 : s.methodNamed? y = some m) (h2 : s.vm.method? m = some meth) (h3 : meth.code = some c) (h4 : c.code = bytes)
    (h5 : (c.maxLocals == mx && c.exceptionTable.isEmpty && decide (c.maxStack ≤ mostOperands) && decide (meth.sig.returnType = rt) && !meth.locks && decide (parseMethodDescriptor y.desc = some meth.sig)) = true) : (Jvm.Cond.code y bytes mx rt).before a s = true := by
  simp only [Bool.and_eq_true, beq_iff_eq, Bool.not_eq_true', decide_eq_true_eq] at h5
  obtain ⟨⟨⟨⟨⟨g1, g2⟩, g3⟩, g4⟩, g5⟩, g6⟩ := h5
  simp [Cond.before, Cond.holds, Cond.value, h1, h2, h3, h4, g1, g2, g3, g4, g5, g6]
def isCode : Jvm.Cond → Bool
  | .code _ _ _ _ => true
  | _ => false
theorem all_split {L : List Jvm.Cond} {P : Jvm.Cond → Bool} (h1 : L.all (fun c => isCode c || P c) = true) (h2 : ∀ c ∈ L.filter isCode, P c = true) : L.all P = true := by
  refine List.all_eq_true.mpr fun c hc => ?_
  have h := List.all_eq_true.mp h1 c hc
  rcases Bool.eq_false_or_eq_true (isCode c) with hi | hi
  · exact h2 c (List.mem_filter.mpr ⟨hc, hi⟩)
  · simpa [hi] using h
set_option maxRecDepth 65536 in
theorem w_c0 : (Jvm.Cond.code x code maxLocals ret).before args0 about1 = true := code_word (m := ⟨1, 1⟩) (meth := k1m1) (c := k1c1) (by decide +kernel) rfl rfl rfl (by decide +kernel)
set_option maxRecDepth 65536 in
theorem w_c1 : (Jvm.Cond.code ({ cls := "com/example/whorl/whorl/compare/Share", name := "<init>", desc := "(II)V" } : Jvm.MethodName) prog_16_method_1_code (3 : Nat) (Option.none : Option Jvm.ClassFile.FieldType)).before args0 about1 = true := code_word (m := ⟨3, 0⟩) (meth := k3m0) (c := k3c0) (by decide +kernel) rfl rfl rfl (by decide +kernel)
set_option maxRecDepth 65536 in
theorem w_c2 : (Jvm.Cond.code ({ cls := "java/lang/Record", name := "<init>", desc := "()V" } : Jvm.MethodName) jdk_30_method_1_code (1 : Nat) (Option.none : Option Jvm.ClassFile.FieldType)).before args0 about1 = true := code_word (m := ⟨2, 0⟩) (meth := k2m0) (c := k2c0) (by decide +kernel) rfl rfl rfl (by decide +kernel)
set_option maxRecDepth 65536 in
theorem w_c3 : (Jvm.Cond.code ({ cls := "java/lang/Object", name := "<init>", desc := "()V" } : Jvm.MethodName) object_method_1_code (1 : Nat) (Option.none : Option Jvm.ClassFile.FieldType)).before args0 about1 = true := code_word (m := ⟨0, 0⟩) (meth := k0m0) (c := k0c0) (by decide +kernel) rfl rfl rfl (by decide +kernel)
set_option maxRecDepth 65536 in
theorem w_c4 : (Jvm.Cond.code ({ cls := "com/example/whorl/whorl/compare/Share", name := "hundredths", desc := "()J" } : Jvm.MethodName) prog_16_method_3_code (3 : Nat) (Option.some Jvm.ClassFile.FieldType.long)).before args0 about1 = true := code_word (m := ⟨3, 1⟩) (meth := k3m1) (c := k3c1) (by decide +kernel) rfl rfl rfl (by decide +kernel)
def codes1 : List Jvm.Cond := [Jvm.Cond.code x code maxLocals ret, Jvm.Cond.code ({ cls := "com/example/whorl/whorl/compare/Share", name := "<init>", desc := "(II)V" } : Jvm.MethodName) prog_16_method_1_code (3 : Nat) (Option.none : Option Jvm.ClassFile.FieldType), Jvm.Cond.code ({ cls := "java/lang/Record", name := "<init>", desc := "()V" } : Jvm.MethodName) jdk_30_method_1_code (1 : Nat) (Option.none : Option Jvm.ClassFile.FieldType), Jvm.Cond.code ({ cls := "java/lang/Object", name := "<init>", desc := "()V" } : Jvm.MethodName) object_method_1_code (1 : Nat) (Option.none : Option Jvm.ClassFile.FieldType), Jvm.Cond.code ({ cls := "com/example/whorl/whorl/compare/Share", name := "hundredths", desc := "()J" } : Jvm.MethodName) prog_16_method_3_code (3 : Nat) (Option.some Jvm.ClassFile.FieldType.long)]
set_option maxRecDepth 65536 in
theorem codes_eq : words1.filter isCode = codes1 := rfl
theorem w_codes : ∀ c ∈ words1.filter isCode, c.before args0 about1 = true := by
  rw [codes_eq]
  intro c hc
  simp only [codes1, List.mem_cons, List.not_mem_nil, or_false] at hc
  rcases hc with rfl | rfl | rfl | rfl | rfl
  · exact w_c0
  · exact w_c1
  · exact w_c2
  · exact w_c3
  · exact w_c4
set_option maxRecDepth 65536 in
theorem w_t1 : (words1.take 24).all (fun c => isCode c || c.before args0 about1) = true := by decide +kernel
set_option maxRecDepth 65536 in
theorem w_t2 : (words1.drop 24).all (fun c => isCode c || c.before args0 about1) = true := by decide +kernel
theorem w_tables : (allAtoms (Jvm.Cond.code x code maxLocals ret :: tables_1)).before args0 about1 = true := by
  rw [allAtoms_all]
  show words1.all (fun c => c.before args0 about1) = true
  refine all_split ?_ w_codes
  rw [← List.take_append_drop 24 words1, List.all_append, w_t1, w_t2]
  rfl
set_option maxRecDepth 65536 in
theorem w_case : (Jvm.Cond.and given_1 narrow_1).before args0 about1 = true := by decide +kernel
theorem w_applies : (headSpec (Jvm.Cond.code x code maxLocals ret :: tables_1) room_1).applies x e0.platform about1 = true :=
  (Spec.applies_iff w_frames).mpr ⟨w_running, w_runnable, w_alone, w_named, w_hears, w_ripe, w_room, w_tables⟩
theorem atStart : AtStart classFile x code maxLocals ret World_1 tables_1 room_1 Calls_1 rest_1 Pre_1 launch0 p0 e0 about1 theMethod args0 below0 :=
  ⟨lists_1, trivial, launch0.admits_env _ _ _, launch0.least_env, fairChoices_fair.cas, fairChoices_fair.clock, w_frames, w_args, w_heap, w_applies, trivial, trivial, w_case⟩
end start1
theorem witness_1 : WitnessClaimed_1 := ⟨start1.p0, start1.e0, start1.about1, start1.theMethod, start1.args0, start1.below0, start1.atStart⟩
end Jvm.Pilot.@@N@@
