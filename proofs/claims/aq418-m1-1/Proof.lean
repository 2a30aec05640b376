import JvmDerived
import JvmDerived.Pilot.@@N@@Statement
import JvmDerived.Pilot.@@N@@Code
set_option linter.unusedVariables false
set_option linter.unusedSimpArgs false
@@BLOCK:NumsL.lean.txt@@
namespace Jvm.RoadKit
open Sem ClassFile Op Lib Jvm.Stand Jvm.Free Jvm.LawKit
section New
variable {p : Program} {l : Launch} {e : Env} {R : Room} {s : State} {m : MethodId} {args : Array Value} {below : List Frame} {meth : Method} {c : Code} {T : State} {locs : List Loc} {cells slots : Nat}
theorem retI (X : Stand p l e R s m args below meth c T locs cells slots) (hx : p.tables.exec = Jvm.exec) {pc : Nat} {Ls : Array Slot} {z : Int32} {rest : List Value} (hret : meth.sig.returnType = some .int) (hd : decode c.code pc = .ok (.ireturn, 1)) {fs : List Frame}
    (hl : ∀ (f : JFrame) (acts : List Action), f.method = m → f.locked = none → f.entered = [] → (doReturn e (T.setTop f) acts (some (.int z))).1 = T.setFrames fs) : Steps p.tables e below (T.setTop (mkF m pc Ls (.int z :: rest))) (T.setFrames fs) := by
  have hm' : T.vm.method? m = some meth := X.method'
  have hn : narrow .int (.int z) = .int z := rfl
  show Steps p.tables e below (T.setTop { method := m, pc := pc, locals := Ls, stack := _ :: rest, locked := none }) _
  jvm_step X.here [X.here.top, hx, hd, hm', hret, hn]
  first | (intro acts; rw [hl _ acts rfl rfl rfl]) | rw [hl _ _ rfl rfl rfl]
  exact Steps.refl _
end New
end Jvm.RoadKit
namespace Jvm.Pilot.@@N@@
open Jvm Jvm.ClassFile Sem Op Lib Jvm.Free Jvm.Stand Jvm.LawKit Jvm.RoadKit Bundle Jvm.Pilot.@@N@@.Jvm.D

-- numbers: a char's code, the bit that folds case
theorem own_c (a : Int32) : (a.toUInt32.toUInt16.toUInt32.toInt32).toBitVec.toNat < 65536 := by
  have e : (a.toUInt32.toUInt16.toUInt32.toInt32).toBitVec = (a.toBitVec.setWidth 16).setWidth 32 := rfl
  rw [e, BitVec.toNat_setWidth]
  exact Nat.lt_of_le_of_lt (Nat.mod_le _ _) (a.toBitVec.setWidth 16).isLt
theorem own_toInt {c : Int32} (h : c.toBitVec.toNat < 2 ^ 31) : c.toInt = (c.toBitVec.toNat : Int) := by
  have e : c.toInt = c.toBitVec.toInt := rfl
  rw [e, BitVec.toInt_eq_toNat_cond, if_pos (by omega)]
theorem own_or32 (n : Nat) : (n ||| 32) = if n % 64 < 32 then n + 32 else n := by
  have h1 : (n ||| 32) / 2 ^ 6 = n / 2 ^ 6 := by rw [Nat.or_div_two_pow]; exact Nat.or_zero _
  have h2 : (n ||| 32) % 2 ^ 6 = (n % 2 ^ 6) ||| 32 := by rw [Nat.or_mod_two_pow]
  have h3 : ∀ r : Fin 64, (r.val ||| 32) = if r.val < 32 then r.val + 32 else r.val := by decide +kernel
  have h4 := h3 ⟨n % 2 ^ 6, Nat.mod_lt _ (by decide)⟩
  simp only at h4
  rw [h4] at h2
  split at h2 <;> split <;> omega
theorem own_fold {c : Int32} (h : c.toBitVec.toNat < 65536) : (c ||| 32).toInt = if c.toBitVec.toNat % 64 < 32 then (c.toBitVec.toNat : Int) + 32 else (c.toBitVec.toNat : Int) := by
  have e : (c ||| 32).toBitVec.toNat = c.toBitVec.toNat ||| 32 := by
    show (c.toBitVec ||| (32 : Int32).toBitVec).toNat = _
    rw [BitVec.toNat_or]; rfl
  rw [own_or32] at e
  rw [own_toInt (by rw [e]; split <;> omega), e]
  split <;> simp

def own_b (c : Int32) : Int32 := if (((97 ≤ c.toInt ∧ c.toInt ≤ 122) ∨ (65 ≤ c.toInt ∧ c.toInt ≤ 90)) ∨ (48 ≤ c.toInt ∧ c.toInt ≤ 57)) then 1 else 0

theorem d1_0 : decode prog_14_method_2_code 0 = .ok (.iload_n 0, 1) := by decide +kernel
theorem d1_1 : decode prog_14_method_2_code 1 = .ok (.bipush 97, 2) := by decide +kernel
theorem d1_3 : decode prog_14_method_2_code 3 = .ok (.if_icmp .lt 9, 3) := by decide +kernel
theorem d1_6 : decode prog_14_method_2_code 6 = .ok (.iload_n 0, 1) := by decide +kernel
theorem d1_7 : decode prog_14_method_2_code 7 = .ok (.bipush 122, 2) := by decide +kernel
theorem d1_9 : decode prog_14_method_2_code 9 = .ok (.if_icmp .le 27, 3) := by decide +kernel
theorem d1_36 : decode prog_14_method_2_code 36 = .ok (.iconst 1, 1) := by decide +kernel
theorem d1_37 : decode prog_14_method_2_code 37 = .ok (.goto 4, 3) := by decide +kernel
theorem d1_41 : decode prog_14_method_2_code 41 = .ok (.ireturn, 1) := by decide +kernel
theorem pn_1 : plainName "com/example/railbook/railbook/http/Syntax" = true := by first | (simp [plainName, overriddenIn]; done) | decide +kernel
theorem ef_1 (m : MethodId) (x0 : Int32) : entryFrame m #[(.int x0)] 1 = mkF m 0 #[.val (.int x0)] [] := by first | (simp [entryFrame, mkF, argsToLocals, Value.category]; done) | rfl
theorem d1_12 : decode prog_14_method_2_code 12 = .ok (.iload_n 0, 1) := by decide +kernel
theorem d1_13 : decode prog_14_method_2_code 13 = .ok (.bipush 65, 2) := by decide +kernel
theorem d1_15 : decode prog_14_method_2_code 15 = .ok (.if_icmp .lt 9, 3) := by decide +kernel
theorem d1_24 : decode prog_14_method_2_code 24 = .ok (.iload_n 0, 1) := by decide +kernel
theorem d1_25 : decode prog_14_method_2_code 25 = .ok (.bipush 48, 2) := by decide +kernel
theorem d1_27 : decode prog_14_method_2_code 27 = .ok (.if_icmp .lt 13, 3) := by decide +kernel
theorem d1_40 : decode prog_14_method_2_code 40 = .ok (.iconst 0, 1) := by decide +kernel
theorem d1_30 : decode prog_14_method_2_code 30 = .ok (.iload_n 0, 1) := by decide +kernel
theorem d1_31 : decode prog_14_method_2_code 31 = .ok (.bipush 57, 2) := by decide +kernel
theorem d1_33 : decode prog_14_method_2_code 33 = .ok (.if_icmp .gt 7, 3) := by decide +kernel
theorem d1_18 : decode prog_14_method_2_code 18 = .ok (.iload_n 0, 1) := by decide +kernel
theorem d1_19 : decode prog_14_method_2_code 19 = .ok (.bipush 90, 2) := by decide +kernel
theorem d1_21 : decode prog_14_method_2_code 21 = .ok (.if_icmp .le 15, 3) := by decide +kernel
theorem os0_2_8 {z0 : Value} {s1 : Slot} {s2 : Slot} {s3 : Slot} {s4 : Slot} {s5 : Slot} {s6 : Slot} {s7 : Slot} {v : Int32} (h : One s1) : storeLocals #[.val z0, s1, s2, s3, s4, s5, s6, s7] 1 (.int v) = some #[.val z0, .val (.int v), s2, s3, s4, s5, s6, s7] := by
  rcases h with rfl | ⟨w, rfl, hw⟩
  · rfl
  · cases w <;> first | rfl | (simp [Value.category] at hw)
theorem os0_7_8 {z0 : Value} {z1 : Value} {s2 : Slot} {s3 : Slot} {s4 : Slot} {s5 : Slot} {s6 : Slot} {s7 : Slot} {v : Int32} (h : One s2) : storeLocals #[.val z0, .val z1, s2, s3, s4, s5, s6, s7] 2 (.int v) = some #[.val z0, .val z1, .val (.int v), s3, s4, s5, s6, s7] := by
  rcases h with rfl | ⟨w, rfl, hw⟩
  · rfl
  · cases w <;> first | rfl | (simp [Value.category] at hw)
theorem os0_12_8 {z0 : Value} {z1 : Value} {z2 : Value} {s3 : Slot} {s4 : Slot} {s5 : Slot} {s6 : Slot} {s7 : Slot} {v : Int32} (h : One s3) : storeLocals #[.val z0, .val z1, .val z2, s3, s4, s5, s6, s7] 3 (.int v) = some #[.val z0, .val z1, .val z2, .val (.int v), s4, s5, s6, s7] := by
  rcases h with rfl | ⟨w, rfl, hw⟩
  · rfl
  · cases w <;> first | rfl | (simp [Value.category] at hw)
theorem os0_17_8 {z0 : Value} {z1 : Value} {z2 : Value} {z3 : Value} {s4 : Slot} {s5 : Slot} {s6 : Slot} {s7 : Slot} {v : Int32} (h : One s4) : storeLocals #[.val z0, .val z1, .val z2, .val z3, s4, s5, s6, s7] 4 (.int v) = some #[.val z0, .val z1, .val z2, .val z3, .val (.int v), s5, s6, s7] := by
  rcases h with rfl | ⟨w, rfl, hw⟩
  · rfl
  · cases w <;> first | rfl | (simp [Value.category] at hw)
theorem os0_34_9 {s0 : Slot} {s1 : Slot} {s2 : Slot} {z3 : Value} {s4 : Slot} {s5 : Slot} {s6 : Slot} {s7 : Slot} {v : Int32} (h : One s5) : storeLocals #[s0, s1, s2, .val z3, s4, s5, s6, s7] 5 (.int v) = some #[s0, s1, s2, .val z3, s4, .val (.int v), s6, s7] := by
  rcases h with rfl | ⟨w, rfl, hw⟩
  · rfl
  · cases w <;> first | rfl | (simp [Value.category] at hw)
theorem os0_34_10 {s0 : Slot} {s1 : Slot} {s2 : Slot} {z3 : Value} {s4 : Slot} {s5 : Slot} {s6 : Slot} {s7 : Slot} {v : Int32} (h : One s5) : storeLocals #[s0, s1, s2, .val z3, s4, s5, s6, s7] 5 (.int v) = some #[s0, s1, s2, .val z3, s4, .val (.int v), s6, s7] := by
  rcases h with rfl | ⟨w, rfl, hw⟩
  · rfl
  · cases w <;> first | rfl | (simp [Value.category] at hw)
theorem os0_34_11 {s0 : Slot} {s1 : Slot} {s2 : Slot} {z3 : Value} {s4 : Slot} {s5 : Slot} {s6 : Slot} {s7 : Slot} {v : Int32} (h : One s5) : storeLocals #[s0, s1, s2, .val z3, s4, s5, s6, s7] 5 (.int v) = some #[s0, s1, s2, .val z3, s4, .val (.int v), s6, s7] := by
  rcases h with rfl | ⟨w, rfl, hw⟩
  · rfl
  · cases w <;> first | rfl | (simp [Value.category] at hw)
theorem os0_53_12 {s0 : Slot} {s1 : Slot} {s2 : Slot} {s3 : Slot} {z4 : Value} {s5 : Slot} {s6 : Slot} {s7 : Slot} {v : Int32} (h : One s6) : storeLocals #[s0, s1, s2, s3, .val z4, s5, s6, s7] 6 (.int v) = some #[s0, s1, s2, s3, .val z4, s5, .val (.int v), s7] := by
  rcases h with rfl | ⟨w, rfl, hw⟩
  · rfl
  · cases w <;> first | rfl | (simp [Value.category] at hw)
theorem os0_53_13 {s0 : Slot} {s1 : Slot} {s2 : Slot} {s3 : Slot} {z4 : Value} {s5 : Slot} {s6 : Slot} {s7 : Slot} {v : Int32} (h : One s6) : storeLocals #[s0, s1, s2, s3, .val z4, s5, s6, s7] 6 (.int v) = some #[s0, s1, s2, s3, .val z4, s5, .val (.int v), s7] := by
  rcases h with rfl | ⟨w, rfl, hw⟩
  · rfl
  · cases w <;> first | rfl | (simp [Value.category] at hw)
theorem os0_53_14 {s0 : Slot} {s1 : Slot} {s2 : Slot} {s3 : Slot} {z4 : Value} {s5 : Slot} {s6 : Slot} {s7 : Slot} {v : Int32} (h : One s6) : storeLocals #[s0, s1, s2, s3, .val z4, s5, s6, s7] 6 (.int v) = some #[s0, s1, s2, s3, .val z4, s5, .val (.int v), s7] := by
  rcases h with rfl | ⟨w, rfl, hw⟩
  · rfl
  · cases w <;> first | rfl | (simp [Value.category] at hw)
theorem os0_70_15 {s0 : Slot} {s1 : Slot} {s2 : Slot} {s3 : Slot} {s4 : Slot} {z5 : Value} {s6 : Slot} {s7 : Slot} {v : Int32} (h : One s7) : storeLocals #[s0, s1, s2, s3, s4, .val z5, s6, s7] 7 (.int v) = some #[s0, s1, s2, s3, s4, .val z5, s6, .val (.int v)] := by
  rcases h with rfl | ⟨w, rfl, hw⟩
  · rfl
  · cases w <;> first | rfl | (simp [Value.category] at hw)
theorem os0_70_16 {s0 : Slot} {s1 : Slot} {s2 : Slot} {s3 : Slot} {s4 : Slot} {z5 : Value} {z6 : Value} {s7 : Slot} {v : Int32} (h : One s7) : storeLocals #[s0, s1, s2, s3, s4, .val z5, .val z6, s7] 7 (.int v) = some #[s0, s1, s2, s3, s4, .val z5, .val z6, .val (.int v)] := by
  rcases h with rfl | ⟨w, rfl, hw⟩
  · rfl
  · cases w <;> first | rfl | (simp [Value.category] at hw)
theorem os0_70_17 {s0 : Slot} {s1 : Slot} {s2 : Slot} {s3 : Slot} {s4 : Slot} {z5 : Value} {z6 : Value} {s7 : Slot} {v : Int32} (h : One s7) : storeLocals #[s0, s1, s2, s3, s4, .val z5, .val z6, s7] 7 (.int v) = some #[s0, s1, s2, s3, s4, .val z5, .val z6, .val (.int v)] := by
  rcases h with rfl | ⟨w, rfl, hw⟩
  · rfl
  · cases w <;> first | rfl | (simp [Value.category] at hw)
theorem pdq_0 : parseMethodDescriptor "(C)Z" = some ⟨[.char], some .boolean⟩ := by decide +kernel
theorem pn_0 : plainName "com/example/railbook/railbook/http/SyntaxIsLetterOrDigitPinLaw" = true := by first | (simp [plainName, overriddenIn]; done) | decide +kernel
theorem ef_0 (m : MethodId) (x0 : Int32) : entryFrame m #[(.int x0)] maxLocals = mkF m 0 #[.val (.int x0), .unset, .unset, .unset, .unset, .unset, .unset, .unset] [] := by first | (simp [entryFrame, mkF, argsToLocals, Value.category, maxLocals]; done) | rfl

def Q1 (Z : State) (r : Int32) (h0 : Heap) (n0 : Nat) (v : Option Value) (h : Heap) (L : List Loc) : Prop := v = some (.int r) ∧ Fr n0 L ∧ h = h0
set_option maxRecDepth 65536 in
set_option maxHeartbeats 40000000 in
theorem rm1_ft (l : Launch) (Z : State) (a0 : Array Value) (hw : ∀ d ∈ tables_1, d.before a0 Z = true) (ws : List Jvm.Cond) (p1 : Int32) (h0 : Heap) (n0 : Nat) (Z0 : n0 ≤ h0.size) (hc3 : ¬ (p1 < (97 : Int32))) (hc9 : ¬ ((122 : Int32) < p1)) :
    MetFree l (⟨"com/example/railbook/railbook/http/Syntax", "isLetterOrDigit", "(C)Z"⟩ : MethodName) (head1 (Jvm.Cond.code (⟨"com/example/railbook/railbook/http/Syntax", "isLetterOrDigit", "(C)Z"⟩ : MethodName) prog_14_method_2_code 1 (some .boolean) :: ws) ({ frames := 0, cells := 0, slots := 0, locals := 0 } : Room)) (fun a U => a = #[(.int p1)] ∧ Z.Warmed39 U.vm ∧ U.heap = h0) (fun _ _ _ _ _ => True) (fun _ U o U' => ∃ v L, o = .returned v ∧ Q1 Z (1 : Int32) h0 n0 v U'.heap L ∧ FrameEnd U o U' L ({ frames := 0, cells := 0, slots := 0, locals := 0 } : Room).cells ({ frames := 0, cells := 0, slots := 0, locals := 0 } : Room).slots) := by
  refine MetFree.of_bodySF (plainFor_of_name pn_1) hisR ?_
  intro p e s m args below meth c s₁ Bd hml0 hP hK
  obtain ⟨rfl, hZ, hh⟩ := hP
  have hx := Bd.exec
  have hby := Bd.bytes
  have hml : c.maxLocals = 1 := hml0
  have hown : s.vm.findClass "com/example/railbook/railbook/http/Syntax" = some m.cls := findClass_of_methodNamed Bd.named
  have hnm := (name_of_methodNamed Bd.named Bd.method).1
  have X0 : Stand p l e ({ frames := 0, cells := 0, slots := 0, locals := 0 } : Room) s m #[(.int p1)] below meth c s₁ [] 0 0 := Stand.of_body Bd
  have e0 : s₁.heap = h0 := by rw [← hh, Bd.state]; rfl
  have N0 := Fr.nil n0
  have pre0 : ∀ t, Steps p.tables e below (s₁.setTop (mkF m 0 #[.val (.int p1)] [])) t → Steps p.tables e below (s₁.setTop (entryFrame m #[(.int p1)] 1)) t := fun t k => castTop (ef_1 m p1) k
  obtain ⟨fs, hr, hrun, hended, hW, hsame⟩ := X0.leave (v := some (.int (1 : Int32))) (fun h => by rw [Bd.returns] at h; cases h)
  refine ⟨_, _, pre0 _ ?_, hrun, hended, _, _, rfl, ?_, ⟨_, rfl⟩, hW, hsame.mono (by decide) (by decide)⟩
  · show Steps p.tables e below (s₁.setTop (mkF m 0 #[.val (.int p1)] [])) _
    refine XS.iloadN X0.here hx rfl (hb hby d1_0) rfl ?_
    show Steps p.tables e below (s₁.setTop (mkF m 1 #[.val (.int p1)] [(.int p1)])) _
    refine XS.bipush X0.here hx rfl (hb hby d1_1) ?_
    show Steps p.tables e below (s₁.setTop (mkF m 3 #[.val (.int p1)] [(.int (97 : Int32)), (.int p1)])) _
    refine XS.icmpNo X0.here hx rfl (hb hby d1_3) rfl (flt hc3).1 ?_
    show Steps p.tables e below (s₁.setTop (mkF m 6 #[.val (.int p1)] [])) _
    refine XS.iloadN X0.here hx rfl (hb hby d1_6) rfl ?_
    show Steps p.tables e below (s₁.setTop (mkF m 7 #[.val (.int p1)] [(.int p1)])) _
    refine XS.bipush X0.here hx rfl (hb hby d1_7) ?_
    show Steps p.tables e below (s₁.setTop (mkF m 9 #[.val (.int p1)] [(.int (122 : Int32)), (.int p1)])) _
    refine XS.icmpYes X0.here hx rfl (pc0 := 9) (pc' := 36) rfl (hb hby d1_9) rfl (flt hc9).2.2.2 (by decide) (by decide) ?_
    show Steps p.tables e below (s₁.setTop (mkF m 36 #[.val (.int p1)] [])) _
    refine XS.iconst X0.here hx rfl (hb hby d1_36) ?_
    show Steps p.tables e below (s₁.setTop (mkF m 37 #[.val (.int p1)] [(.int (1 : Int32))])) _
    refine XS.goto X0.here hx rfl (pc0 := 37) (pc' := 41) rfl (hb hby d1_37) (by decide) (by decide) ?_
    show Steps p.tables e below (s₁.setTop (mkF m 41 #[.val (.int p1)] [(.int (1 : Int32))])) _
    exact retN X0 hx (t := .boolean) Bd.returns (by simp) (hb hby d1_41) hr
  · show Q1 Z (1 : Int32) h0 n0 _ s₁.heap _
    rw [e0]
    exact ⟨rfl, N0, rfl⟩
set_option maxRecDepth 65536 in
set_option maxHeartbeats 40000000 in
theorem rm1_ttt (l : Launch) (Z : State) (a0 : Array Value) (hw : ∀ d ∈ tables_1, d.before a0 Z = true) (ws : List Jvm.Cond) (p1 : Int32) (h0 : Heap) (n0 : Nat) (Z0 : n0 ≤ h0.size) (hc3 : p1 < (97 : Int32)) (hc15 : p1 < (65 : Int32)) (hc27 : p1 < (48 : Int32)) :
    MetFree l (⟨"com/example/railbook/railbook/http/Syntax", "isLetterOrDigit", "(C)Z"⟩ : MethodName) (head1 (Jvm.Cond.code (⟨"com/example/railbook/railbook/http/Syntax", "isLetterOrDigit", "(C)Z"⟩ : MethodName) prog_14_method_2_code 1 (some .boolean) :: ws) ({ frames := 0, cells := 0, slots := 0, locals := 0 } : Room)) (fun a U => a = #[(.int p1)] ∧ Z.Warmed39 U.vm ∧ U.heap = h0) (fun _ _ _ _ _ => True) (fun _ U o U' => ∃ v L, o = .returned v ∧ Q1 Z (0 : Int32) h0 n0 v U'.heap L ∧ FrameEnd U o U' L ({ frames := 0, cells := 0, slots := 0, locals := 0 } : Room).cells ({ frames := 0, cells := 0, slots := 0, locals := 0 } : Room).slots) := by
  refine MetFree.of_bodySF (plainFor_of_name pn_1) hisR ?_
  intro p e s m args below meth c s₁ Bd hml0 hP hK
  obtain ⟨rfl, hZ, hh⟩ := hP
  have hx := Bd.exec
  have hby := Bd.bytes
  have hml : c.maxLocals = 1 := hml0
  have hown : s.vm.findClass "com/example/railbook/railbook/http/Syntax" = some m.cls := findClass_of_methodNamed Bd.named
  have hnm := (name_of_methodNamed Bd.named Bd.method).1
  have X0 : Stand p l e ({ frames := 0, cells := 0, slots := 0, locals := 0 } : Room) s m #[(.int p1)] below meth c s₁ [] 0 0 := Stand.of_body Bd
  have e0 : s₁.heap = h0 := by rw [← hh, Bd.state]; rfl
  have N0 := Fr.nil n0
  have pre0 : ∀ t, Steps p.tables e below (s₁.setTop (mkF m 0 #[.val (.int p1)] [])) t → Steps p.tables e below (s₁.setTop (entryFrame m #[(.int p1)] 1)) t := fun t k => castTop (ef_1 m p1) k
  obtain ⟨fs, hr, hrun, hended, hW, hsame⟩ := X0.leave (v := some (.int (0 : Int32))) (fun h => by rw [Bd.returns] at h; cases h)
  refine ⟨_, _, pre0 _ ?_, hrun, hended, _, _, rfl, ?_, ⟨_, rfl⟩, hW, hsame.mono (by decide) (by decide)⟩
  · show Steps p.tables e below (s₁.setTop (mkF m 0 #[.val (.int p1)] [])) _
    refine XS.iloadN X0.here hx rfl (hb hby d1_0) rfl ?_
    show Steps p.tables e below (s₁.setTop (mkF m 1 #[.val (.int p1)] [(.int p1)])) _
    refine XS.bipush X0.here hx rfl (hb hby d1_1) ?_
    show Steps p.tables e below (s₁.setTop (mkF m 3 #[.val (.int p1)] [(.int (97 : Int32)), (.int p1)])) _
    refine XS.icmpYes X0.here hx rfl (pc0 := 3) (pc' := 12) rfl (hb hby d1_3) rfl (tlt hc3).1 (by decide) (by decide) ?_
    show Steps p.tables e below (s₁.setTop (mkF m 12 #[.val (.int p1)] [])) _
    refine XS.iloadN X0.here hx rfl (hb hby d1_12) rfl ?_
    show Steps p.tables e below (s₁.setTop (mkF m 13 #[.val (.int p1)] [(.int p1)])) _
    refine XS.bipush X0.here hx rfl (hb hby d1_13) ?_
    show Steps p.tables e below (s₁.setTop (mkF m 15 #[.val (.int p1)] [(.int (65 : Int32)), (.int p1)])) _
    refine XS.icmpYes X0.here hx rfl (pc0 := 15) (pc' := 24) rfl (hb hby d1_15) rfl (tlt hc15).1 (by decide) (by decide) ?_
    show Steps p.tables e below (s₁.setTop (mkF m 24 #[.val (.int p1)] [])) _
    refine XS.iloadN X0.here hx rfl (hb hby d1_24) rfl ?_
    show Steps p.tables e below (s₁.setTop (mkF m 25 #[.val (.int p1)] [(.int p1)])) _
    refine XS.bipush X0.here hx rfl (hb hby d1_25) ?_
    show Steps p.tables e below (s₁.setTop (mkF m 27 #[.val (.int p1)] [(.int (48 : Int32)), (.int p1)])) _
    refine XS.icmpYes X0.here hx rfl (pc0 := 27) (pc' := 40) rfl (hb hby d1_27) rfl (tlt hc27).1 (by decide) (by decide) ?_
    show Steps p.tables e below (s₁.setTop (mkF m 40 #[.val (.int p1)] [])) _
    refine XS.iconst X0.here hx rfl (hb hby d1_40) ?_
    show Steps p.tables e below (s₁.setTop (mkF m 41 #[.val (.int p1)] [(.int (0 : Int32))])) _
    exact retN X0 hx (t := .boolean) Bd.returns (by simp) (hb hby d1_41) hr
  · show Q1 Z (0 : Int32) h0 n0 _ s₁.heap _
    rw [e0]
    exact ⟨rfl, N0, rfl⟩
set_option maxRecDepth 65536 in
set_option maxHeartbeats 40000000 in
theorem rm1_ttft (l : Launch) (Z : State) (a0 : Array Value) (hw : ∀ d ∈ tables_1, d.before a0 Z = true) (ws : List Jvm.Cond) (p1 : Int32) (h0 : Heap) (n0 : Nat) (Z0 : n0 ≤ h0.size) (hc3 : p1 < (97 : Int32)) (hc15 : p1 < (65 : Int32)) (hc27 : ¬ (p1 < (48 : Int32))) (hc33 : (57 : Int32) < p1) :
    MetFree l (⟨"com/example/railbook/railbook/http/Syntax", "isLetterOrDigit", "(C)Z"⟩ : MethodName) (head1 (Jvm.Cond.code (⟨"com/example/railbook/railbook/http/Syntax", "isLetterOrDigit", "(C)Z"⟩ : MethodName) prog_14_method_2_code 1 (some .boolean) :: ws) ({ frames := 0, cells := 0, slots := 0, locals := 0 } : Room)) (fun a U => a = #[(.int p1)] ∧ Z.Warmed39 U.vm ∧ U.heap = h0) (fun _ _ _ _ _ => True) (fun _ U o U' => ∃ v L, o = .returned v ∧ Q1 Z (0 : Int32) h0 n0 v U'.heap L ∧ FrameEnd U o U' L ({ frames := 0, cells := 0, slots := 0, locals := 0 } : Room).cells ({ frames := 0, cells := 0, slots := 0, locals := 0 } : Room).slots) := by
  refine MetFree.of_bodySF (plainFor_of_name pn_1) hisR ?_
  intro p e s m args below meth c s₁ Bd hml0 hP hK
  obtain ⟨rfl, hZ, hh⟩ := hP
  have hx := Bd.exec
  have hby := Bd.bytes
  have hml : c.maxLocals = 1 := hml0
  have hown : s.vm.findClass "com/example/railbook/railbook/http/Syntax" = some m.cls := findClass_of_methodNamed Bd.named
  have hnm := (name_of_methodNamed Bd.named Bd.method).1
  have X0 : Stand p l e ({ frames := 0, cells := 0, slots := 0, locals := 0 } : Room) s m #[(.int p1)] below meth c s₁ [] 0 0 := Stand.of_body Bd
  have e0 : s₁.heap = h0 := by rw [← hh, Bd.state]; rfl
  have N0 := Fr.nil n0
  have pre0 : ∀ t, Steps p.tables e below (s₁.setTop (mkF m 0 #[.val (.int p1)] [])) t → Steps p.tables e below (s₁.setTop (entryFrame m #[(.int p1)] 1)) t := fun t k => castTop (ef_1 m p1) k
  obtain ⟨fs, hr, hrun, hended, hW, hsame⟩ := X0.leave (v := some (.int (0 : Int32))) (fun h => by rw [Bd.returns] at h; cases h)
  refine ⟨_, _, pre0 _ ?_, hrun, hended, _, _, rfl, ?_, ⟨_, rfl⟩, hW, hsame.mono (by decide) (by decide)⟩
  · show Steps p.tables e below (s₁.setTop (mkF m 0 #[.val (.int p1)] [])) _
    refine XS.iloadN X0.here hx rfl (hb hby d1_0) rfl ?_
    show Steps p.tables e below (s₁.setTop (mkF m 1 #[.val (.int p1)] [(.int p1)])) _
    refine XS.bipush X0.here hx rfl (hb hby d1_1) ?_
    show Steps p.tables e below (s₁.setTop (mkF m 3 #[.val (.int p1)] [(.int (97 : Int32)), (.int p1)])) _
    refine XS.icmpYes X0.here hx rfl (pc0 := 3) (pc' := 12) rfl (hb hby d1_3) rfl (tlt hc3).1 (by decide) (by decide) ?_
    show Steps p.tables e below (s₁.setTop (mkF m 12 #[.val (.int p1)] [])) _
    refine XS.iloadN X0.here hx rfl (hb hby d1_12) rfl ?_
    show Steps p.tables e below (s₁.setTop (mkF m 13 #[.val (.int p1)] [(.int p1)])) _
    refine XS.bipush X0.here hx rfl (hb hby d1_13) ?_
    show Steps p.tables e below (s₁.setTop (mkF m 15 #[.val (.int p1)] [(.int (65 : Int32)), (.int p1)])) _
    refine XS.icmpYes X0.here hx rfl (pc0 := 15) (pc' := 24) rfl (hb hby d1_15) rfl (tlt hc15).1 (by decide) (by decide) ?_
    show Steps p.tables e below (s₁.setTop (mkF m 24 #[.val (.int p1)] [])) _
    refine XS.iloadN X0.here hx rfl (hb hby d1_24) rfl ?_
    show Steps p.tables e below (s₁.setTop (mkF m 25 #[.val (.int p1)] [(.int p1)])) _
    refine XS.bipush X0.here hx rfl (hb hby d1_25) ?_
    show Steps p.tables e below (s₁.setTop (mkF m 27 #[.val (.int p1)] [(.int (48 : Int32)), (.int p1)])) _
    refine XS.icmpNo X0.here hx rfl (hb hby d1_27) rfl (flt hc27).1 ?_
    show Steps p.tables e below (s₁.setTop (mkF m 30 #[.val (.int p1)] [])) _
    refine XS.iloadN X0.here hx rfl (hb hby d1_30) rfl ?_
    show Steps p.tables e below (s₁.setTop (mkF m 31 #[.val (.int p1)] [(.int p1)])) _
    refine XS.bipush X0.here hx rfl (hb hby d1_31) ?_
    show Steps p.tables e below (s₁.setTop (mkF m 33 #[.val (.int p1)] [(.int (57 : Int32)), (.int p1)])) _
    refine XS.icmpYes X0.here hx rfl (pc0 := 33) (pc' := 40) rfl (hb hby d1_33) rfl (tlt hc33).2.2.1 (by decide) (by decide) ?_
    show Steps p.tables e below (s₁.setTop (mkF m 40 #[.val (.int p1)] [])) _
    refine XS.iconst X0.here hx rfl (hb hby d1_40) ?_
    show Steps p.tables e below (s₁.setTop (mkF m 41 #[.val (.int p1)] [(.int (0 : Int32))])) _
    exact retN X0 hx (t := .boolean) Bd.returns (by simp) (hb hby d1_41) hr
  · show Q1 Z (0 : Int32) h0 n0 _ s₁.heap _
    rw [e0]
    exact ⟨rfl, N0, rfl⟩
set_option maxRecDepth 65536 in
set_option maxHeartbeats 40000000 in
theorem rm1_ttff (l : Launch) (Z : State) (a0 : Array Value) (hw : ∀ d ∈ tables_1, d.before a0 Z = true) (ws : List Jvm.Cond) (p1 : Int32) (h0 : Heap) (n0 : Nat) (Z0 : n0 ≤ h0.size) (hc3 : p1 < (97 : Int32)) (hc15 : p1 < (65 : Int32)) (hc27 : ¬ (p1 < (48 : Int32))) (hc33 : ¬ ((57 : Int32) < p1)) :
    MetFree l (⟨"com/example/railbook/railbook/http/Syntax", "isLetterOrDigit", "(C)Z"⟩ : MethodName) (head1 (Jvm.Cond.code (⟨"com/example/railbook/railbook/http/Syntax", "isLetterOrDigit", "(C)Z"⟩ : MethodName) prog_14_method_2_code 1 (some .boolean) :: ws) ({ frames := 0, cells := 0, slots := 0, locals := 0 } : Room)) (fun a U => a = #[(.int p1)] ∧ Z.Warmed39 U.vm ∧ U.heap = h0) (fun _ _ _ _ _ => True) (fun _ U o U' => ∃ v L, o = .returned v ∧ Q1 Z (1 : Int32) h0 n0 v U'.heap L ∧ FrameEnd U o U' L ({ frames := 0, cells := 0, slots := 0, locals := 0 } : Room).cells ({ frames := 0, cells := 0, slots := 0, locals := 0 } : Room).slots) := by
  refine MetFree.of_bodySF (plainFor_of_name pn_1) hisR ?_
  intro p e s m args below meth c s₁ Bd hml0 hP hK
  obtain ⟨rfl, hZ, hh⟩ := hP
  have hx := Bd.exec
  have hby := Bd.bytes
  have hml : c.maxLocals = 1 := hml0
  have hown : s.vm.findClass "com/example/railbook/railbook/http/Syntax" = some m.cls := findClass_of_methodNamed Bd.named
  have hnm := (name_of_methodNamed Bd.named Bd.method).1
  have X0 : Stand p l e ({ frames := 0, cells := 0, slots := 0, locals := 0 } : Room) s m #[(.int p1)] below meth c s₁ [] 0 0 := Stand.of_body Bd
  have e0 : s₁.heap = h0 := by rw [← hh, Bd.state]; rfl
  have N0 := Fr.nil n0
  have pre0 : ∀ t, Steps p.tables e below (s₁.setTop (mkF m 0 #[.val (.int p1)] [])) t → Steps p.tables e below (s₁.setTop (entryFrame m #[(.int p1)] 1)) t := fun t k => castTop (ef_1 m p1) k
  obtain ⟨fs, hr, hrun, hended, hW, hsame⟩ := X0.leave (v := some (.int (1 : Int32))) (fun h => by rw [Bd.returns] at h; cases h)
  refine ⟨_, _, pre0 _ ?_, hrun, hended, _, _, rfl, ?_, ⟨_, rfl⟩, hW, hsame.mono (by decide) (by decide)⟩
  · show Steps p.tables e below (s₁.setTop (mkF m 0 #[.val (.int p1)] [])) _
    refine XS.iloadN X0.here hx rfl (hb hby d1_0) rfl ?_
    show Steps p.tables e below (s₁.setTop (mkF m 1 #[.val (.int p1)] [(.int p1)])) _
    refine XS.bipush X0.here hx rfl (hb hby d1_1) ?_
    show Steps p.tables e below (s₁.setTop (mkF m 3 #[.val (.int p1)] [(.int (97 : Int32)), (.int p1)])) _
    refine XS.icmpYes X0.here hx rfl (pc0 := 3) (pc' := 12) rfl (hb hby d1_3) rfl (tlt hc3).1 (by decide) (by decide) ?_
    show Steps p.tables e below (s₁.setTop (mkF m 12 #[.val (.int p1)] [])) _
    refine XS.iloadN X0.here hx rfl (hb hby d1_12) rfl ?_
    show Steps p.tables e below (s₁.setTop (mkF m 13 #[.val (.int p1)] [(.int p1)])) _
    refine XS.bipush X0.here hx rfl (hb hby d1_13) ?_
    show Steps p.tables e below (s₁.setTop (mkF m 15 #[.val (.int p1)] [(.int (65 : Int32)), (.int p1)])) _
    refine XS.icmpYes X0.here hx rfl (pc0 := 15) (pc' := 24) rfl (hb hby d1_15) rfl (tlt hc15).1 (by decide) (by decide) ?_
    show Steps p.tables e below (s₁.setTop (mkF m 24 #[.val (.int p1)] [])) _
    refine XS.iloadN X0.here hx rfl (hb hby d1_24) rfl ?_
    show Steps p.tables e below (s₁.setTop (mkF m 25 #[.val (.int p1)] [(.int p1)])) _
    refine XS.bipush X0.here hx rfl (hb hby d1_25) ?_
    show Steps p.tables e below (s₁.setTop (mkF m 27 #[.val (.int p1)] [(.int (48 : Int32)), (.int p1)])) _
    refine XS.icmpNo X0.here hx rfl (hb hby d1_27) rfl (flt hc27).1 ?_
    show Steps p.tables e below (s₁.setTop (mkF m 30 #[.val (.int p1)] [])) _
    refine XS.iloadN X0.here hx rfl (hb hby d1_30) rfl ?_
    show Steps p.tables e below (s₁.setTop (mkF m 31 #[.val (.int p1)] [(.int p1)])) _
    refine XS.bipush X0.here hx rfl (hb hby d1_31) ?_
    show Steps p.tables e below (s₁.setTop (mkF m 33 #[.val (.int p1)] [(.int (57 : Int32)), (.int p1)])) _
    refine XS.icmpNo X0.here hx rfl (hb hby d1_33) rfl (flt hc33).2.2.1 ?_
    show Steps p.tables e below (s₁.setTop (mkF m 36 #[.val (.int p1)] [])) _
    refine XS.iconst X0.here hx rfl (hb hby d1_36) ?_
    show Steps p.tables e below (s₁.setTop (mkF m 37 #[.val (.int p1)] [(.int (1 : Int32))])) _
    refine XS.goto X0.here hx rfl (pc0 := 37) (pc' := 41) rfl (hb hby d1_37) (by decide) (by decide) ?_
    show Steps p.tables e below (s₁.setTop (mkF m 41 #[.val (.int p1)] [(.int (1 : Int32))])) _
    exact retN X0 hx (t := .boolean) Bd.returns (by simp) (hb hby d1_41) hr
  · show Q1 Z (1 : Int32) h0 n0 _ s₁.heap _
    rw [e0]
    exact ⟨rfl, N0, rfl⟩
set_option maxRecDepth 65536 in
set_option maxHeartbeats 40000000 in
theorem rm1_tft (l : Launch) (Z : State) (a0 : Array Value) (hw : ∀ d ∈ tables_1, d.before a0 Z = true) (ws : List Jvm.Cond) (p1 : Int32) (h0 : Heap) (n0 : Nat) (Z0 : n0 ≤ h0.size) (hc3 : p1 < (97 : Int32)) (hc15 : ¬ (p1 < (65 : Int32))) (hc21 : ¬ ((90 : Int32) < p1)) :
    MetFree l (⟨"com/example/railbook/railbook/http/Syntax", "isLetterOrDigit", "(C)Z"⟩ : MethodName) (head1 (Jvm.Cond.code (⟨"com/example/railbook/railbook/http/Syntax", "isLetterOrDigit", "(C)Z"⟩ : MethodName) prog_14_method_2_code 1 (some .boolean) :: ws) ({ frames := 0, cells := 0, slots := 0, locals := 0 } : Room)) (fun a U => a = #[(.int p1)] ∧ Z.Warmed39 U.vm ∧ U.heap = h0) (fun _ _ _ _ _ => True) (fun _ U o U' => ∃ v L, o = .returned v ∧ Q1 Z (1 : Int32) h0 n0 v U'.heap L ∧ FrameEnd U o U' L ({ frames := 0, cells := 0, slots := 0, locals := 0 } : Room).cells ({ frames := 0, cells := 0, slots := 0, locals := 0 } : Room).slots) := by
  refine MetFree.of_bodySF (plainFor_of_name pn_1) hisR ?_
  intro p e s m args below meth c s₁ Bd hml0 hP hK
  obtain ⟨rfl, hZ, hh⟩ := hP
  have hx := Bd.exec
  have hby := Bd.bytes
  have hml : c.maxLocals = 1 := hml0
  have hown : s.vm.findClass "com/example/railbook/railbook/http/Syntax" = some m.cls := findClass_of_methodNamed Bd.named
  have hnm := (name_of_methodNamed Bd.named Bd.method).1
  have X0 : Stand p l e ({ frames := 0, cells := 0, slots := 0, locals := 0 } : Room) s m #[(.int p1)] below meth c s₁ [] 0 0 := Stand.of_body Bd
  have e0 : s₁.heap = h0 := by rw [← hh, Bd.state]; rfl
  have N0 := Fr.nil n0
  have pre0 : ∀ t, Steps p.tables e below (s₁.setTop (mkF m 0 #[.val (.int p1)] [])) t → Steps p.tables e below (s₁.setTop (entryFrame m #[(.int p1)] 1)) t := fun t k => castTop (ef_1 m p1) k
  obtain ⟨fs, hr, hrun, hended, hW, hsame⟩ := X0.leave (v := some (.int (1 : Int32))) (fun h => by rw [Bd.returns] at h; cases h)
  refine ⟨_, _, pre0 _ ?_, hrun, hended, _, _, rfl, ?_, ⟨_, rfl⟩, hW, hsame.mono (by decide) (by decide)⟩
  · show Steps p.tables e below (s₁.setTop (mkF m 0 #[.val (.int p1)] [])) _
    refine XS.iloadN X0.here hx rfl (hb hby d1_0) rfl ?_
    show Steps p.tables e below (s₁.setTop (mkF m 1 #[.val (.int p1)] [(.int p1)])) _
    refine XS.bipush X0.here hx rfl (hb hby d1_1) ?_
    show Steps p.tables e below (s₁.setTop (mkF m 3 #[.val (.int p1)] [(.int (97 : Int32)), (.int p1)])) _
    refine XS.icmpYes X0.here hx rfl (pc0 := 3) (pc' := 12) rfl (hb hby d1_3) rfl (tlt hc3).1 (by decide) (by decide) ?_
    show Steps p.tables e below (s₁.setTop (mkF m 12 #[.val (.int p1)] [])) _
    refine XS.iloadN X0.here hx rfl (hb hby d1_12) rfl ?_
    show Steps p.tables e below (s₁.setTop (mkF m 13 #[.val (.int p1)] [(.int p1)])) _
    refine XS.bipush X0.here hx rfl (hb hby d1_13) ?_
    show Steps p.tables e below (s₁.setTop (mkF m 15 #[.val (.int p1)] [(.int (65 : Int32)), (.int p1)])) _
    refine XS.icmpNo X0.here hx rfl (hb hby d1_15) rfl (flt hc15).1 ?_
    show Steps p.tables e below (s₁.setTop (mkF m 18 #[.val (.int p1)] [])) _
    refine XS.iloadN X0.here hx rfl (hb hby d1_18) rfl ?_
    show Steps p.tables e below (s₁.setTop (mkF m 19 #[.val (.int p1)] [(.int p1)])) _
    refine XS.bipush X0.here hx rfl (hb hby d1_19) ?_
    show Steps p.tables e below (s₁.setTop (mkF m 21 #[.val (.int p1)] [(.int (90 : Int32)), (.int p1)])) _
    refine XS.icmpYes X0.here hx rfl (pc0 := 21) (pc' := 36) rfl (hb hby d1_21) rfl (flt hc21).2.2.2 (by decide) (by decide) ?_
    show Steps p.tables e below (s₁.setTop (mkF m 36 #[.val (.int p1)] [])) _
    refine XS.iconst X0.here hx rfl (hb hby d1_36) ?_
    show Steps p.tables e below (s₁.setTop (mkF m 37 #[.val (.int p1)] [(.int (1 : Int32))])) _
    refine XS.goto X0.here hx rfl (pc0 := 37) (pc' := 41) rfl (hb hby d1_37) (by decide) (by decide) ?_
    show Steps p.tables e below (s₁.setTop (mkF m 41 #[.val (.int p1)] [(.int (1 : Int32))])) _
    exact retN X0 hx (t := .boolean) Bd.returns (by simp) (hb hby d1_41) hr
  · show Q1 Z (1 : Int32) h0 n0 _ s₁.heap _
    rw [e0]
    exact ⟨rfl, N0, rfl⟩
set_option maxRecDepth 65536 in
set_option maxHeartbeats 40000000 in
theorem rm1_tffft (l : Launch) (Z : State) (a0 : Array Value) (hw : ∀ d ∈ tables_1, d.before a0 Z = true) (ws : List Jvm.Cond) (p1 : Int32) (h0 : Heap) (n0 : Nat) (Z0 : n0 ≤ h0.size) (hc3 : p1 < (97 : Int32)) (hc15 : ¬ (p1 < (65 : Int32))) (hc21 : (90 : Int32) < p1) (hc27 : ¬ (p1 < (48 : Int32))) (hc33 : (57 : Int32) < p1) :
    MetFree l (⟨"com/example/railbook/railbook/http/Syntax", "isLetterOrDigit", "(C)Z"⟩ : MethodName) (head1 (Jvm.Cond.code (⟨"com/example/railbook/railbook/http/Syntax", "isLetterOrDigit", "(C)Z"⟩ : MethodName) prog_14_method_2_code 1 (some .boolean) :: ws) ({ frames := 0, cells := 0, slots := 0, locals := 0 } : Room)) (fun a U => a = #[(.int p1)] ∧ Z.Warmed39 U.vm ∧ U.heap = h0) (fun _ _ _ _ _ => True) (fun _ U o U' => ∃ v L, o = .returned v ∧ Q1 Z (0 : Int32) h0 n0 v U'.heap L ∧ FrameEnd U o U' L ({ frames := 0, cells := 0, slots := 0, locals := 0 } : Room).cells ({ frames := 0, cells := 0, slots := 0, locals := 0 } : Room).slots) := by
  refine MetFree.of_bodySF (plainFor_of_name pn_1) hisR ?_
  intro p e s m args below meth c s₁ Bd hml0 hP hK
  obtain ⟨rfl, hZ, hh⟩ := hP
  have hx := Bd.exec
  have hby := Bd.bytes
  have hml : c.maxLocals = 1 := hml0
  have hown : s.vm.findClass "com/example/railbook/railbook/http/Syntax" = some m.cls := findClass_of_methodNamed Bd.named
  have hnm := (name_of_methodNamed Bd.named Bd.method).1
  have X0 : Stand p l e ({ frames := 0, cells := 0, slots := 0, locals := 0 } : Room) s m #[(.int p1)] below meth c s₁ [] 0 0 := Stand.of_body Bd
  have e0 : s₁.heap = h0 := by rw [← hh, Bd.state]; rfl
  have N0 := Fr.nil n0
  have pre0 : ∀ t, Steps p.tables e below (s₁.setTop (mkF m 0 #[.val (.int p1)] [])) t → Steps p.tables e below (s₁.setTop (entryFrame m #[(.int p1)] 1)) t := fun t k => castTop (ef_1 m p1) k
  obtain ⟨fs, hr, hrun, hended, hW, hsame⟩ := X0.leave (v := some (.int (0 : Int32))) (fun h => by rw [Bd.returns] at h; cases h)
  refine ⟨_, _, pre0 _ ?_, hrun, hended, _, _, rfl, ?_, ⟨_, rfl⟩, hW, hsame.mono (by decide) (by decide)⟩
  · show Steps p.tables e below (s₁.setTop (mkF m 0 #[.val (.int p1)] [])) _
    refine XS.iloadN X0.here hx rfl (hb hby d1_0) rfl ?_
    show Steps p.tables e below (s₁.setTop (mkF m 1 #[.val (.int p1)] [(.int p1)])) _
    refine XS.bipush X0.here hx rfl (hb hby d1_1) ?_
    show Steps p.tables e below (s₁.setTop (mkF m 3 #[.val (.int p1)] [(.int (97 : Int32)), (.int p1)])) _
    refine XS.icmpYes X0.here hx rfl (pc0 := 3) (pc' := 12) rfl (hb hby d1_3) rfl (tlt hc3).1 (by decide) (by decide) ?_
    show Steps p.tables e below (s₁.setTop (mkF m 12 #[.val (.int p1)] [])) _
    refine XS.iloadN X0.here hx rfl (hb hby d1_12) rfl ?_
    show Steps p.tables e below (s₁.setTop (mkF m 13 #[.val (.int p1)] [(.int p1)])) _
    refine XS.bipush X0.here hx rfl (hb hby d1_13) ?_
    show Steps p.tables e below (s₁.setTop (mkF m 15 #[.val (.int p1)] [(.int (65 : Int32)), (.int p1)])) _
    refine XS.icmpNo X0.here hx rfl (hb hby d1_15) rfl (flt hc15).1 ?_
    show Steps p.tables e below (s₁.setTop (mkF m 18 #[.val (.int p1)] [])) _
    refine XS.iloadN X0.here hx rfl (hb hby d1_18) rfl ?_
    show Steps p.tables e below (s₁.setTop (mkF m 19 #[.val (.int p1)] [(.int p1)])) _
    refine XS.bipush X0.here hx rfl (hb hby d1_19) ?_
    show Steps p.tables e below (s₁.setTop (mkF m 21 #[.val (.int p1)] [(.int (90 : Int32)), (.int p1)])) _
    refine XS.icmpNo X0.here hx rfl (hb hby d1_21) rfl (tlt hc21).2.2.2 ?_
    show Steps p.tables e below (s₁.setTop (mkF m 24 #[.val (.int p1)] [])) _
    refine XS.iloadN X0.here hx rfl (hb hby d1_24) rfl ?_
    show Steps p.tables e below (s₁.setTop (mkF m 25 #[.val (.int p1)] [(.int p1)])) _
    refine XS.bipush X0.here hx rfl (hb hby d1_25) ?_
    show Steps p.tables e below (s₁.setTop (mkF m 27 #[.val (.int p1)] [(.int (48 : Int32)), (.int p1)])) _
    refine XS.icmpNo X0.here hx rfl (hb hby d1_27) rfl (flt hc27).1 ?_
    show Steps p.tables e below (s₁.setTop (mkF m 30 #[.val (.int p1)] [])) _
    refine XS.iloadN X0.here hx rfl (hb hby d1_30) rfl ?_
    show Steps p.tables e below (s₁.setTop (mkF m 31 #[.val (.int p1)] [(.int p1)])) _
    refine XS.bipush X0.here hx rfl (hb hby d1_31) ?_
    show Steps p.tables e below (s₁.setTop (mkF m 33 #[.val (.int p1)] [(.int (57 : Int32)), (.int p1)])) _
    refine XS.icmpYes X0.here hx rfl (pc0 := 33) (pc' := 40) rfl (hb hby d1_33) rfl (tlt hc33).2.2.1 (by decide) (by decide) ?_
    show Steps p.tables e below (s₁.setTop (mkF m 40 #[.val (.int p1)] [])) _
    refine XS.iconst X0.here hx rfl (hb hby d1_40) ?_
    show Steps p.tables e below (s₁.setTop (mkF m 41 #[.val (.int p1)] [(.int (0 : Int32))])) _
    exact retN X0 hx (t := .boolean) Bd.returns (by simp) (hb hby d1_41) hr
  · show Q1 Z (0 : Int32) h0 n0 _ s₁.heap _
    rw [e0]
    exact ⟨rfl, N0, rfl⟩
set_option maxRecDepth 65536 in
set_option maxHeartbeats 40000000 in
theorem rm1_ffffft (l : Launch) (Z : State) (a0 : Array Value) (hw : ∀ d ∈ tables_1, d.before a0 Z = true) (ws : List Jvm.Cond) (p1 : Int32) (h0 : Heap) (n0 : Nat) (Z0 : n0 ≤ h0.size) (hc3 : ¬ (p1 < (97 : Int32))) (hc9 : (122 : Int32) < p1) (hc15 : ¬ (p1 < (65 : Int32))) (hc21 : (90 : Int32) < p1) (hc27 : ¬ (p1 < (48 : Int32))) (hc33 : (57 : Int32) < p1) :
    MetFree l (⟨"com/example/railbook/railbook/http/Syntax", "isLetterOrDigit", "(C)Z"⟩ : MethodName) (head1 (Jvm.Cond.code (⟨"com/example/railbook/railbook/http/Syntax", "isLetterOrDigit", "(C)Z"⟩ : MethodName) prog_14_method_2_code 1 (some .boolean) :: ws) ({ frames := 0, cells := 0, slots := 0, locals := 0 } : Room)) (fun a U => a = #[(.int p1)] ∧ Z.Warmed39 U.vm ∧ U.heap = h0) (fun _ _ _ _ _ => True) (fun _ U o U' => ∃ v L, o = .returned v ∧ Q1 Z (0 : Int32) h0 n0 v U'.heap L ∧ FrameEnd U o U' L ({ frames := 0, cells := 0, slots := 0, locals := 0 } : Room).cells ({ frames := 0, cells := 0, slots := 0, locals := 0 } : Room).slots) := by
  refine MetFree.of_bodySF (plainFor_of_name pn_1) hisR ?_
  intro p e s m args below meth c s₁ Bd hml0 hP hK
  obtain ⟨rfl, hZ, hh⟩ := hP
  have hx := Bd.exec
  have hby := Bd.bytes
  have hml : c.maxLocals = 1 := hml0
  have hown : s.vm.findClass "com/example/railbook/railbook/http/Syntax" = some m.cls := findClass_of_methodNamed Bd.named
  have hnm := (name_of_methodNamed Bd.named Bd.method).1
  have X0 : Stand p l e ({ frames := 0, cells := 0, slots := 0, locals := 0 } : Room) s m #[(.int p1)] below meth c s₁ [] 0 0 := Stand.of_body Bd
  have e0 : s₁.heap = h0 := by rw [← hh, Bd.state]; rfl
  have N0 := Fr.nil n0
  have pre0 : ∀ t, Steps p.tables e below (s₁.setTop (mkF m 0 #[.val (.int p1)] [])) t → Steps p.tables e below (s₁.setTop (entryFrame m #[(.int p1)] 1)) t := fun t k => castTop (ef_1 m p1) k
  obtain ⟨fs, hr, hrun, hended, hW, hsame⟩ := X0.leave (v := some (.int (0 : Int32))) (fun h => by rw [Bd.returns] at h; cases h)
  refine ⟨_, _, pre0 _ ?_, hrun, hended, _, _, rfl, ?_, ⟨_, rfl⟩, hW, hsame.mono (by decide) (by decide)⟩
  · show Steps p.tables e below (s₁.setTop (mkF m 0 #[.val (.int p1)] [])) _
    refine XS.iloadN X0.here hx rfl (hb hby d1_0) rfl ?_
    show Steps p.tables e below (s₁.setTop (mkF m 1 #[.val (.int p1)] [(.int p1)])) _
    refine XS.bipush X0.here hx rfl (hb hby d1_1) ?_
    show Steps p.tables e below (s₁.setTop (mkF m 3 #[.val (.int p1)] [(.int (97 : Int32)), (.int p1)])) _
    refine XS.icmpNo X0.here hx rfl (hb hby d1_3) rfl (flt hc3).1 ?_
    show Steps p.tables e below (s₁.setTop (mkF m 6 #[.val (.int p1)] [])) _
    refine XS.iloadN X0.here hx rfl (hb hby d1_6) rfl ?_
    show Steps p.tables e below (s₁.setTop (mkF m 7 #[.val (.int p1)] [(.int p1)])) _
    refine XS.bipush X0.here hx rfl (hb hby d1_7) ?_
    show Steps p.tables e below (s₁.setTop (mkF m 9 #[.val (.int p1)] [(.int (122 : Int32)), (.int p1)])) _
    refine XS.icmpNo X0.here hx rfl (hb hby d1_9) rfl (tlt hc9).2.2.2 ?_
    show Steps p.tables e below (s₁.setTop (mkF m 12 #[.val (.int p1)] [])) _
    refine XS.iloadN X0.here hx rfl (hb hby d1_12) rfl ?_
    show Steps p.tables e below (s₁.setTop (mkF m 13 #[.val (.int p1)] [(.int p1)])) _
    refine XS.bipush X0.here hx rfl (hb hby d1_13) ?_
    show Steps p.tables e below (s₁.setTop (mkF m 15 #[.val (.int p1)] [(.int (65 : Int32)), (.int p1)])) _
    refine XS.icmpNo X0.here hx rfl (hb hby d1_15) rfl (flt hc15).1 ?_
    show Steps p.tables e below (s₁.setTop (mkF m 18 #[.val (.int p1)] [])) _
    refine XS.iloadN X0.here hx rfl (hb hby d1_18) rfl ?_
    show Steps p.tables e below (s₁.setTop (mkF m 19 #[.val (.int p1)] [(.int p1)])) _
    refine XS.bipush X0.here hx rfl (hb hby d1_19) ?_
    show Steps p.tables e below (s₁.setTop (mkF m 21 #[.val (.int p1)] [(.int (90 : Int32)), (.int p1)])) _
    refine XS.icmpNo X0.here hx rfl (hb hby d1_21) rfl (tlt hc21).2.2.2 ?_
    show Steps p.tables e below (s₁.setTop (mkF m 24 #[.val (.int p1)] [])) _
    refine XS.iloadN X0.here hx rfl (hb hby d1_24) rfl ?_
    show Steps p.tables e below (s₁.setTop (mkF m 25 #[.val (.int p1)] [(.int p1)])) _
    refine XS.bipush X0.here hx rfl (hb hby d1_25) ?_
    show Steps p.tables e below (s₁.setTop (mkF m 27 #[.val (.int p1)] [(.int (48 : Int32)), (.int p1)])) _
    refine XS.icmpNo X0.here hx rfl (hb hby d1_27) rfl (flt hc27).1 ?_
    show Steps p.tables e below (s₁.setTop (mkF m 30 #[.val (.int p1)] [])) _
    refine XS.iloadN X0.here hx rfl (hb hby d1_30) rfl ?_
    show Steps p.tables e below (s₁.setTop (mkF m 31 #[.val (.int p1)] [(.int p1)])) _
    refine XS.bipush X0.here hx rfl (hb hby d1_31) ?_
    show Steps p.tables e below (s₁.setTop (mkF m 33 #[.val (.int p1)] [(.int (57 : Int32)), (.int p1)])) _
    refine XS.icmpYes X0.here hx rfl (pc0 := 33) (pc' := 40) rfl (hb hby d1_33) rfl (tlt hc33).2.2.1 (by decide) (by decide) ?_
    show Steps p.tables e below (s₁.setTop (mkF m 40 #[.val (.int p1)] [])) _
    refine XS.iconst X0.here hx rfl (hb hby d1_40) ?_
    show Steps p.tables e below (s₁.setTop (mkF m 41 #[.val (.int p1)] [(.int (0 : Int32))])) _
    exact retN X0 hx (t := .boolean) Bd.returns (by simp) (hb hby d1_41) hr
  · show Q1 Z (0 : Int32) h0 n0 _ s₁.heap _
    rw [e0]
    exact ⟨rfl, N0, rfl⟩
theorem rm1 (l : Launch) (Z : State) (a0 : Array Value) (hw : ∀ d ∈ tables_1, d.before a0 Z = true) (ws : List Jvm.Cond) (p1 : Int32) (h0 : Heap) (n0 : Nat) (Z0 : n0 ≤ h0.size) :
    MetFree l (⟨"com/example/railbook/railbook/http/Syntax", "isLetterOrDigit", "(C)Z"⟩ : MethodName) (head1 (Jvm.Cond.code (⟨"com/example/railbook/railbook/http/Syntax", "isLetterOrDigit", "(C)Z"⟩ : MethodName) prog_14_method_2_code 1 (some .boolean) :: ws) ({ frames := 0, cells := 0, slots := 0, locals := 0 } : Room)) (fun a U => a = #[(.int p1)] ∧ Z.Warmed39 U.vm ∧ U.heap = h0) (fun _ _ _ _ _ => True) (fun _ U o U' => ∃ v L, o = .returned v ∧ Q1 Z (own_b p1) h0 n0 v U'.heap L ∧ FrameEnd U o U' L ({ frames := 0, cells := 0, slots := 0, locals := 0 } : Room).cells ({ frames := 0, cells := 0, slots := 0, locals := 0 } : Room).slots) := by
  have own_l48 : (48 : Int32).toInt = 48 := rfl
  have own_l57 : (57 : Int32).toInt = 57 := rfl
  have own_l65 : (65 : Int32).toInt = 65 := rfl
  have own_l90 : (90 : Int32).toInt = 90 := rfl
  have own_l97 : (97 : Int32).toInt = 97 := rfl
  have own_l122 : (122 : Int32).toInt = 122 := rfl
  by_cases h3 : p1.toInt < 97
  · by_cases h15 : p1.toInt < 65
    · by_cases h27 : p1.toInt < 48
      · rw [show own_b p1 = (0 : Int32) from if_neg (by omega)]; exact rm1_ttt l Z a0 hw ws p1 h0 n0 Z0 (by rw [Int32.lt_iff_toInt_lt]; omega) (by rw [Int32.lt_iff_toInt_lt]; omega) (by rw [Int32.lt_iff_toInt_lt]; omega)
      · by_cases h33 : 57 < p1.toInt
        · rw [show own_b p1 = (0 : Int32) from if_neg (by omega)]; exact rm1_ttft l Z a0 hw ws p1 h0 n0 Z0 (by rw [Int32.lt_iff_toInt_lt]; omega) (by rw [Int32.lt_iff_toInt_lt]; omega) (by rw [Int32.lt_iff_toInt_lt]; omega) (by rw [Int32.lt_iff_toInt_lt]; omega)
        · rw [show own_b p1 = (1 : Int32) from if_pos (by omega)]; exact rm1_ttff l Z a0 hw ws p1 h0 n0 Z0 (by rw [Int32.lt_iff_toInt_lt]; omega) (by rw [Int32.lt_iff_toInt_lt]; omega) (by rw [Int32.lt_iff_toInt_lt]; omega) (by rw [Int32.lt_iff_toInt_lt]; omega)
    · by_cases h21 : 90 < p1.toInt
      · rw [show own_b p1 = (0 : Int32) from if_neg (by omega)]; exact rm1_tffft l Z a0 hw ws p1 h0 n0 Z0 (by rw [Int32.lt_iff_toInt_lt]; omega) (by rw [Int32.lt_iff_toInt_lt]; omega) (by rw [Int32.lt_iff_toInt_lt]; omega) (by rw [Int32.lt_iff_toInt_lt]; omega) (by rw [Int32.lt_iff_toInt_lt]; omega)
      · rw [show own_b p1 = (1 : Int32) from if_pos (by omega)]; exact rm1_tft l Z a0 hw ws p1 h0 n0 Z0 (by rw [Int32.lt_iff_toInt_lt]; omega) (by rw [Int32.lt_iff_toInt_lt]; omega) (by rw [Int32.lt_iff_toInt_lt]; omega)
  · by_cases h9 : 122 < p1.toInt
    · rw [show own_b p1 = (0 : Int32) from if_neg (by omega)]; exact rm1_ffffft l Z a0 hw ws p1 h0 n0 Z0 (by rw [Int32.lt_iff_toInt_lt]; omega) (by rw [Int32.lt_iff_toInt_lt]; omega) (by rw [Int32.lt_iff_toInt_lt]; omega) (by rw [Int32.lt_iff_toInt_lt]; omega) (by rw [Int32.lt_iff_toInt_lt]; omega) (by rw [Int32.lt_iff_toInt_lt]; omega)
    · rw [show own_b p1 = (1 : Int32) from if_pos (by omega)]; exact rm1_ft l Z a0 hw ws p1 h0 n0 Z0 (by rw [Int32.lt_iff_toInt_lt]; omega) (by rw [Int32.lt_iff_toInt_lt]; omega)

set_option maxRecDepth 65536 in
set_option maxHeartbeats 40000000 in
theorem tl_a {p : Program} {l : Launch} {e : Env} {R : Room} {s : State} {m : MethodId} {args : Array Value} {below : List Frame} {meth : Method} {c : Code} {T0 : State} {locs : List Loc} {cells slots : Nat} {Z : State} {a0 : Array Value} {h0 : Heap} (i0 : Int32) (s1 : Slot) (s2 : Slot) (s3 : Slot) (s4 : Slot) (s5 : Slot) (s6 : Slot) (s7 : Slot)
    (X0 : Stand p l e R s m args below meth c T0 locs cells slots) (hx : p.tables.exec = Jvm.exec) (hZ : Z.Warmed39 s.vm) (hw : ∀ d ∈ tables_1, d.before a0 Z = true) (hby : c.code = code) (hml : c.maxLocals = 8) (hown : s.vm.findClass "com/example/railbook/railbook/http/SyntaxIsLetterOrDigitPinLaw" = some m.cls) (e0 : T0.heap = h0) (hs1 : One s1) (hs2 : One s2) (hs3 : One s3) (hs4 : One s4) :
    ∀ target, Steps p.tables e below (T0.setTop (mkF m 19 #[.val (.int i0), .val (.int (i0.toUInt32.toUInt16.toUInt32.toInt32)), .val (.int ((i0.toUInt32.toUInt16.toUInt32.toInt32) ||| (32 : Int32))), .val (.int (((i0.toUInt32.toUInt16.toUInt32.toInt32) ||| (32 : Int32)) - (97 : Int32))), .val (.int ((i0.toUInt32.toUInt16.toUInt32.toInt32) - (48 : Int32))), s5, s6, s7] [])) target → Steps p.tables e below (T0.setTop (mkF m 0 #[.val (.int i0), s1, s2, s3, s4, s5, s6, s7] [])) target := by
  intro target kt
  show Steps p.tables e below (T0.setTop (mkF m 0 #[.val (.int i0), s1, s2, s3, s4, s5, s6, s7] [])) _
  refine XS.iloadN X0.here hx rfl (hb hby at_0) rfl ?_
  show Steps p.tables e below (T0.setTop (mkF m 1 #[.val (.int i0), s1, s2, s3, s4, s5, s6, s7] [(.int i0)])) _
  refine XS.i2c X0.here hx rfl (hb hby at_1) rfl ?_
  show Steps p.tables e below (T0.setTop (mkF m 2 #[.val (.int i0), s1, s2, s3, s4, s5, s6, s7] [(.int (i0.toUInt32.toUInt16.toUInt32.toInt32))])) _
  refine XS.istoreN X0.here hx rfl (hb hby at_2) rfl (l' := #[.val (.int i0), .val (.int (i0.toUInt32.toUInt16.toUInt32.toInt32)), s2, s3, s4, s5, s6, s7]) (os0_2_8 hs1) ?_
  show Steps p.tables e below (T0.setTop (mkF m 3 #[.val (.int i0), .val (.int (i0.toUInt32.toUInt16.toUInt32.toInt32)), s2, s3, s4, s5, s6, s7] [])) _
  refine XS.iloadN X0.here hx rfl (hb hby at_3) rfl ?_
  show Steps p.tables e below (T0.setTop (mkF m 4 #[.val (.int i0), .val (.int (i0.toUInt32.toUInt16.toUInt32.toInt32)), s2, s3, s4, s5, s6, s7] [(.int (i0.toUInt32.toUInt16.toUInt32.toInt32))])) _
  refine XS.bipush X0.here hx rfl (hb hby at_4) ?_
  show Steps p.tables e below (T0.setTop (mkF m 6 #[.val (.int i0), .val (.int (i0.toUInt32.toUInt16.toUInt32.toInt32)), s2, s3, s4, s5, s6, s7] [(.int (32 : Int32)), (.int (i0.toUInt32.toUInt16.toUInt32.toInt32))])) _
  refine XS.ior X0.here hx rfl (hb hby at_6) rfl ?_
  show Steps p.tables e below (T0.setTop (mkF m 7 #[.val (.int i0), .val (.int (i0.toUInt32.toUInt16.toUInt32.toInt32)), s2, s3, s4, s5, s6, s7] [(.int ((i0.toUInt32.toUInt16.toUInt32.toInt32) ||| (32 : Int32)))])) _
  refine XS.istoreN X0.here hx rfl (hb hby at_7) rfl (l' := #[.val (.int i0), .val (.int (i0.toUInt32.toUInt16.toUInt32.toInt32)), .val (.int ((i0.toUInt32.toUInt16.toUInt32.toInt32) ||| (32 : Int32))), s3, s4, s5, s6, s7]) (os0_7_8 hs2) ?_
  show Steps p.tables e below (T0.setTop (mkF m 8 #[.val (.int i0), .val (.int (i0.toUInt32.toUInt16.toUInt32.toInt32)), .val (.int ((i0.toUInt32.toUInt16.toUInt32.toInt32) ||| (32 : Int32))), s3, s4, s5, s6, s7] [])) _
  refine XS.iloadN X0.here hx rfl (hb hby at_8) rfl ?_
  show Steps p.tables e below (T0.setTop (mkF m 9 #[.val (.int i0), .val (.int (i0.toUInt32.toUInt16.toUInt32.toInt32)), .val (.int ((i0.toUInt32.toUInt16.toUInt32.toInt32) ||| (32 : Int32))), s3, s4, s5, s6, s7] [(.int ((i0.toUInt32.toUInt16.toUInt32.toInt32) ||| (32 : Int32)))])) _
  refine XS.bipush X0.here hx rfl (hb hby at_9) ?_
  show Steps p.tables e below (T0.setTop (mkF m 11 #[.val (.int i0), .val (.int (i0.toUInt32.toUInt16.toUInt32.toInt32)), .val (.int ((i0.toUInt32.toUInt16.toUInt32.toInt32) ||| (32 : Int32))), s3, s4, s5, s6, s7] [(.int (97 : Int32)), (.int ((i0.toUInt32.toUInt16.toUInt32.toInt32) ||| (32 : Int32)))])) _
  refine XS.isub X0.here hx rfl (hb hby at_11) rfl ?_
  show Steps p.tables e below (T0.setTop (mkF m 12 #[.val (.int i0), .val (.int (i0.toUInt32.toUInt16.toUInt32.toInt32)), .val (.int ((i0.toUInt32.toUInt16.toUInt32.toInt32) ||| (32 : Int32))), s3, s4, s5, s6, s7] [(.int (((i0.toUInt32.toUInt16.toUInt32.toInt32) ||| (32 : Int32)) - (97 : Int32)))])) _
  refine XS.istoreN X0.here hx rfl (hb hby at_12) rfl (l' := #[.val (.int i0), .val (.int (i0.toUInt32.toUInt16.toUInt32.toInt32)), .val (.int ((i0.toUInt32.toUInt16.toUInt32.toInt32) ||| (32 : Int32))), .val (.int (((i0.toUInt32.toUInt16.toUInt32.toInt32) ||| (32 : Int32)) - (97 : Int32))), s4, s5, s6, s7]) (os0_12_8 hs3) ?_
  show Steps p.tables e below (T0.setTop (mkF m 13 #[.val (.int i0), .val (.int (i0.toUInt32.toUInt16.toUInt32.toInt32)), .val (.int ((i0.toUInt32.toUInt16.toUInt32.toInt32) ||| (32 : Int32))), .val (.int (((i0.toUInt32.toUInt16.toUInt32.toInt32) ||| (32 : Int32)) - (97 : Int32))), s4, s5, s6, s7] [])) _
  refine XS.iloadN X0.here hx rfl (hb hby at_13) rfl ?_
  show Steps p.tables e below (T0.setTop (mkF m 14 #[.val (.int i0), .val (.int (i0.toUInt32.toUInt16.toUInt32.toInt32)), .val (.int ((i0.toUInt32.toUInt16.toUInt32.toInt32) ||| (32 : Int32))), .val (.int (((i0.toUInt32.toUInt16.toUInt32.toInt32) ||| (32 : Int32)) - (97 : Int32))), s4, s5, s6, s7] [(.int (i0.toUInt32.toUInt16.toUInt32.toInt32))])) _
  refine XS.bipush X0.here hx rfl (hb hby at_14) ?_
  show Steps p.tables e below (T0.setTop (mkF m 16 #[.val (.int i0), .val (.int (i0.toUInt32.toUInt16.toUInt32.toInt32)), .val (.int ((i0.toUInt32.toUInt16.toUInt32.toInt32) ||| (32 : Int32))), .val (.int (((i0.toUInt32.toUInt16.toUInt32.toInt32) ||| (32 : Int32)) - (97 : Int32))), s4, s5, s6, s7] [(.int (48 : Int32)), (.int (i0.toUInt32.toUInt16.toUInt32.toInt32))])) _
  refine XS.isub X0.here hx rfl (hb hby at_16) rfl ?_
  show Steps p.tables e below (T0.setTop (mkF m 17 #[.val (.int i0), .val (.int (i0.toUInt32.toUInt16.toUInt32.toInt32)), .val (.int ((i0.toUInt32.toUInt16.toUInt32.toInt32) ||| (32 : Int32))), .val (.int (((i0.toUInt32.toUInt16.toUInt32.toInt32) ||| (32 : Int32)) - (97 : Int32))), s4, s5, s6, s7] [(.int ((i0.toUInt32.toUInt16.toUInt32.toInt32) - (48 : Int32)))])) _
  refine XS.istore X0.here hx rfl (hb hby at_17) rfl (l' := #[.val (.int i0), .val (.int (i0.toUInt32.toUInt16.toUInt32.toInt32)), .val (.int ((i0.toUInt32.toUInt16.toUInt32.toInt32) ||| (32 : Int32))), .val (.int (((i0.toUInt32.toUInt16.toUInt32.toInt32) ||| (32 : Int32)) - (97 : Int32))), .val (.int ((i0.toUInt32.toUInt16.toUInt32.toInt32) - (48 : Int32))), s5, s6, s7]) (os0_17_8 hs4) ?_
  exact kt
set_option maxRecDepth 65536 in
set_option maxHeartbeats 40000000 in
theorem tl_bt {p : Program} {l : Launch} {e : Env} {R : Room} {s : State} {m : MethodId} {args : Array Value} {below : List Frame} {meth : Method} {c : Code} {T0 : State} {locs : List Loc} {cells slots : Nat} {Z : State} {a0 : Array Value} {h0 : Heap} (s0 : Slot) (s1 : Slot) (s2 : Slot) (i3 : Int32) (s4 : Slot) (s5 : Slot) (s6 : Slot) (s7 : Slot)
    (X0 : Stand p l e R s m args below meth c T0 locs cells slots) (hx : p.tables.exec = Jvm.exec) (hZ : Z.Warmed39 s.vm) (hw : ∀ d ∈ tables_1, d.before a0 Z = true) (hby : c.code = code) (hml : c.maxLocals = 8) (hown : s.vm.findClass "com/example/railbook/railbook/http/SyntaxIsLetterOrDigitPinLaw" = some m.cls) (e0 : T0.heap = h0) (hs5 : One s5) (hc20 : i3 < (0 : Int32)) :
    ∀ target, Steps p.tables e below (T0.setTop (mkF m 36 #[s0, s1, s2, .val (.int i3), s4, .val (.int (0 : Int32)), s6, s7] [])) target → Steps p.tables e below (T0.setTop (mkF m 19 #[s0, s1, s2, .val (.int i3), s4, s5, s6, s7] [])) target := by
  intro target kt
  show Steps p.tables e below (T0.setTop (mkF m 19 #[s0, s1, s2, .val (.int i3), s4, s5, s6, s7] [])) _
  refine XS.iloadN X0.here hx rfl (hb hby at_19) rfl ?_
  show Steps p.tables e below (T0.setTop (mkF m 20 #[s0, s1, s2, .val (.int i3), s4, s5, s6, s7] [(.int i3)])) _
  refine XS.ifYes X0.here hx rfl (pc0 := 20) (pc' := 33) rfl (hb hby at_20) rfl ((if0 _ _).trans (tlt hc20).1) (by decide) (by decide) ?_
  show Steps p.tables e below (T0.setTop (mkF m 33 #[s0, s1, s2, .val (.int i3), s4, s5, s6, s7] [])) _
  refine XS.iconst X0.here hx rfl (hb hby at_33) ?_
  show Steps p.tables e below (T0.setTop (mkF m 34 #[s0, s1, s2, .val (.int i3), s4, s5, s6, s7] [(.int (0 : Int32))])) _
  refine XS.istore X0.here hx rfl (hb hby at_34) rfl (l' := #[s0, s1, s2, .val (.int i3), s4, .val (.int (0 : Int32)), s6, s7]) (os0_34_9 hs5) ?_
  exact kt
set_option maxRecDepth 65536 in
set_option maxHeartbeats 40000000 in
theorem tl_bft {p : Program} {l : Launch} {e : Env} {R : Room} {s : State} {m : MethodId} {args : Array Value} {below : List Frame} {meth : Method} {c : Code} {T0 : State} {locs : List Loc} {cells slots : Nat} {Z : State} {a0 : Array Value} {h0 : Heap} (s0 : Slot) (s1 : Slot) (s2 : Slot) (i3 : Int32) (s4 : Slot) (s5 : Slot) (s6 : Slot) (s7 : Slot)
    (X0 : Stand p l e R s m args below meth c T0 locs cells slots) (hx : p.tables.exec = Jvm.exec) (hZ : Z.Warmed39 s.vm) (hw : ∀ d ∈ tables_1, d.before a0 Z = true) (hby : c.code = code) (hml : c.maxLocals = 8) (hown : s.vm.findClass "com/example/railbook/railbook/http/SyntaxIsLetterOrDigitPinLaw" = some m.cls) (e0 : T0.heap = h0) (hs5 : One s5) (hc20 : ¬ (i3 < (0 : Int32))) (hc26 : ¬ (i3 < (26 : Int32))) :
    ∀ target, Steps p.tables e below (T0.setTop (mkF m 36 #[s0, s1, s2, .val (.int i3), s4, .val (.int (0 : Int32)), s6, s7] [])) target → Steps p.tables e below (T0.setTop (mkF m 19 #[s0, s1, s2, .val (.int i3), s4, s5, s6, s7] [])) target := by
  intro target kt
  show Steps p.tables e below (T0.setTop (mkF m 19 #[s0, s1, s2, .val (.int i3), s4, s5, s6, s7] [])) _
  refine XS.iloadN X0.here hx rfl (hb hby at_19) rfl ?_
  show Steps p.tables e below (T0.setTop (mkF m 20 #[s0, s1, s2, .val (.int i3), s4, s5, s6, s7] [(.int i3)])) _
  refine XS.ifNo X0.here hx rfl (hb hby at_20) rfl ((if0 _ _).trans (flt hc20).1) ?_
  show Steps p.tables e below (T0.setTop (mkF m 23 #[s0, s1, s2, .val (.int i3), s4, s5, s6, s7] [])) _
  refine XS.iloadN X0.here hx rfl (hb hby at_23) rfl ?_
  show Steps p.tables e below (T0.setTop (mkF m 24 #[s0, s1, s2, .val (.int i3), s4, s5, s6, s7] [(.int i3)])) _
  refine XS.bipush X0.here hx rfl (hb hby at_24) ?_
  show Steps p.tables e below (T0.setTop (mkF m 26 #[s0, s1, s2, .val (.int i3), s4, s5, s6, s7] [(.int (26 : Int32)), (.int i3)])) _
  refine XS.icmpYes X0.here hx rfl (pc0 := 26) (pc' := 33) rfl (hb hby at_26) rfl (flt hc26).2.1 (by decide) (by decide) ?_
  show Steps p.tables e below (T0.setTop (mkF m 33 #[s0, s1, s2, .val (.int i3), s4, s5, s6, s7] [])) _
  refine XS.iconst X0.here hx rfl (hb hby at_33) ?_
  show Steps p.tables e below (T0.setTop (mkF m 34 #[s0, s1, s2, .val (.int i3), s4, s5, s6, s7] [(.int (0 : Int32))])) _
  refine XS.istore X0.here hx rfl (hb hby at_34) rfl (l' := #[s0, s1, s2, .val (.int i3), s4, .val (.int (0 : Int32)), s6, s7]) (os0_34_10 hs5) ?_
  exact kt
set_option maxRecDepth 65536 in
set_option maxHeartbeats 40000000 in
theorem tl_bff {p : Program} {l : Launch} {e : Env} {R : Room} {s : State} {m : MethodId} {args : Array Value} {below : List Frame} {meth : Method} {c : Code} {T0 : State} {locs : List Loc} {cells slots : Nat} {Z : State} {a0 : Array Value} {h0 : Heap} (s0 : Slot) (s1 : Slot) (s2 : Slot) (i3 : Int32) (s4 : Slot) (s5 : Slot) (s6 : Slot) (s7 : Slot)
    (X0 : Stand p l e R s m args below meth c T0 locs cells slots) (hx : p.tables.exec = Jvm.exec) (hZ : Z.Warmed39 s.vm) (hw : ∀ d ∈ tables_1, d.before a0 Z = true) (hby : c.code = code) (hml : c.maxLocals = 8) (hown : s.vm.findClass "com/example/railbook/railbook/http/SyntaxIsLetterOrDigitPinLaw" = some m.cls) (e0 : T0.heap = h0) (hs5 : One s5) (hc20 : ¬ (i3 < (0 : Int32))) (hc26 : i3 < (26 : Int32)) :
    ∀ target, Steps p.tables e below (T0.setTop (mkF m 36 #[s0, s1, s2, .val (.int i3), s4, .val (.int (1 : Int32)), s6, s7] [])) target → Steps p.tables e below (T0.setTop (mkF m 19 #[s0, s1, s2, .val (.int i3), s4, s5, s6, s7] [])) target := by
  intro target kt
  show Steps p.tables e below (T0.setTop (mkF m 19 #[s0, s1, s2, .val (.int i3), s4, s5, s6, s7] [])) _
  refine XS.iloadN X0.here hx rfl (hb hby at_19) rfl ?_
  show Steps p.tables e below (T0.setTop (mkF m 20 #[s0, s1, s2, .val (.int i3), s4, s5, s6, s7] [(.int i3)])) _
  refine XS.ifNo X0.here hx rfl (hb hby at_20) rfl ((if0 _ _).trans (flt hc20).1) ?_
  show Steps p.tables e below (T0.setTop (mkF m 23 #[s0, s1, s2, .val (.int i3), s4, s5, s6, s7] [])) _
  refine XS.iloadN X0.here hx rfl (hb hby at_23) rfl ?_
  show Steps p.tables e below (T0.setTop (mkF m 24 #[s0, s1, s2, .val (.int i3), s4, s5, s6, s7] [(.int i3)])) _
  refine XS.bipush X0.here hx rfl (hb hby at_24) ?_
  show Steps p.tables e below (T0.setTop (mkF m 26 #[s0, s1, s2, .val (.int i3), s4, s5, s6, s7] [(.int (26 : Int32)), (.int i3)])) _
  refine XS.icmpNo X0.here hx rfl (hb hby at_26) rfl (tlt hc26).2.1 ?_
  show Steps p.tables e below (T0.setTop (mkF m 29 #[s0, s1, s2, .val (.int i3), s4, s5, s6, s7] [])) _
  refine XS.iconst X0.here hx rfl (hb hby at_29) ?_
  show Steps p.tables e below (T0.setTop (mkF m 30 #[s0, s1, s2, .val (.int i3), s4, s5, s6, s7] [(.int (1 : Int32))])) _
  refine XS.goto X0.here hx rfl (pc0 := 30) (pc' := 34) rfl (hb hby at_30) (by decide) (by decide) ?_
  show Steps p.tables e below (T0.setTop (mkF m 34 #[s0, s1, s2, .val (.int i3), s4, s5, s6, s7] [(.int (1 : Int32))])) _
  refine XS.istore X0.here hx rfl (hb hby at_34) rfl (l' := #[s0, s1, s2, .val (.int i3), s4, .val (.int (1 : Int32)), s6, s7]) (os0_34_11 hs5) ?_
  exact kt
set_option maxRecDepth 65536 in
set_option maxHeartbeats 40000000 in
theorem tl_ct {p : Program} {l : Launch} {e : Env} {R : Room} {s : State} {m : MethodId} {args : Array Value} {below : List Frame} {meth : Method} {c : Code} {T0 : State} {locs : List Loc} {cells slots : Nat} {Z : State} {a0 : Array Value} {h0 : Heap} (s0 : Slot) (s1 : Slot) (s2 : Slot) (s3 : Slot) (i4 : Int32) (s5 : Slot) (s6 : Slot) (s7 : Slot)
    (X0 : Stand p l e R s m args below meth c T0 locs cells slots) (hx : p.tables.exec = Jvm.exec) (hZ : Z.Warmed39 s.vm) (hw : ∀ d ∈ tables_1, d.before a0 Z = true) (hby : c.code = code) (hml : c.maxLocals = 8) (hown : s.vm.findClass "com/example/railbook/railbook/http/SyntaxIsLetterOrDigitPinLaw" = some m.cls) (e0 : T0.heap = h0) (hs6 : One s6) (hc38 : i4 < (0 : Int32)) :
    ∀ target, Steps p.tables e below (T0.setTop (mkF m 55 #[s0, s1, s2, s3, .val (.int i4), s5, .val (.int (0 : Int32)), s7] [])) target → Steps p.tables e below (T0.setTop (mkF m 36 #[s0, s1, s2, s3, .val (.int i4), s5, s6, s7] [])) target := by
  intro target kt
  show Steps p.tables e below (T0.setTop (mkF m 36 #[s0, s1, s2, s3, .val (.int i4), s5, s6, s7] [])) _
  refine XS.iload X0.here hx rfl (hb hby at_36) rfl ?_
  show Steps p.tables e below (T0.setTop (mkF m 38 #[s0, s1, s2, s3, .val (.int i4), s5, s6, s7] [(.int i4)])) _
  refine XS.ifYes X0.here hx rfl (pc0 := 38) (pc' := 52) rfl (hb hby at_38) rfl ((if0 _ _).trans (tlt hc38).1) (by decide) (by decide) ?_
  show Steps p.tables e below (T0.setTop (mkF m 52 #[s0, s1, s2, s3, .val (.int i4), s5, s6, s7] [])) _
  refine XS.iconst X0.here hx rfl (hb hby at_52) ?_
  show Steps p.tables e below (T0.setTop (mkF m 53 #[s0, s1, s2, s3, .val (.int i4), s5, s6, s7] [(.int (0 : Int32))])) _
  refine XS.istore X0.here hx rfl (hb hby at_53) rfl (l' := #[s0, s1, s2, s3, .val (.int i4), s5, .val (.int (0 : Int32)), s7]) (os0_53_12 hs6) ?_
  exact kt
set_option maxRecDepth 65536 in
set_option maxHeartbeats 40000000 in
theorem tl_cft {p : Program} {l : Launch} {e : Env} {R : Room} {s : State} {m : MethodId} {args : Array Value} {below : List Frame} {meth : Method} {c : Code} {T0 : State} {locs : List Loc} {cells slots : Nat} {Z : State} {a0 : Array Value} {h0 : Heap} (s0 : Slot) (s1 : Slot) (s2 : Slot) (s3 : Slot) (i4 : Int32) (s5 : Slot) (s6 : Slot) (s7 : Slot)
    (X0 : Stand p l e R s m args below meth c T0 locs cells slots) (hx : p.tables.exec = Jvm.exec) (hZ : Z.Warmed39 s.vm) (hw : ∀ d ∈ tables_1, d.before a0 Z = true) (hby : c.code = code) (hml : c.maxLocals = 8) (hown : s.vm.findClass "com/example/railbook/railbook/http/SyntaxIsLetterOrDigitPinLaw" = some m.cls) (e0 : T0.heap = h0) (hs6 : One s6) (hc38 : ¬ (i4 < (0 : Int32))) (hc45 : ¬ (i4 < (10 : Int32))) :
    ∀ target, Steps p.tables e below (T0.setTop (mkF m 55 #[s0, s1, s2, s3, .val (.int i4), s5, .val (.int (0 : Int32)), s7] [])) target → Steps p.tables e below (T0.setTop (mkF m 36 #[s0, s1, s2, s3, .val (.int i4), s5, s6, s7] [])) target := by
  intro target kt
  show Steps p.tables e below (T0.setTop (mkF m 36 #[s0, s1, s2, s3, .val (.int i4), s5, s6, s7] [])) _
  refine XS.iload X0.here hx rfl (hb hby at_36) rfl ?_
  show Steps p.tables e below (T0.setTop (mkF m 38 #[s0, s1, s2, s3, .val (.int i4), s5, s6, s7] [(.int i4)])) _
  refine XS.ifNo X0.here hx rfl (hb hby at_38) rfl ((if0 _ _).trans (flt hc38).1) ?_
  show Steps p.tables e below (T0.setTop (mkF m 41 #[s0, s1, s2, s3, .val (.int i4), s5, s6, s7] [])) _
  refine XS.iload X0.here hx rfl (hb hby at_41) rfl ?_
  show Steps p.tables e below (T0.setTop (mkF m 43 #[s0, s1, s2, s3, .val (.int i4), s5, s6, s7] [(.int i4)])) _
  refine XS.bipush X0.here hx rfl (hb hby at_43) ?_
  show Steps p.tables e below (T0.setTop (mkF m 45 #[s0, s1, s2, s3, .val (.int i4), s5, s6, s7] [(.int (10 : Int32)), (.int i4)])) _
  refine XS.icmpYes X0.here hx rfl (pc0 := 45) (pc' := 52) rfl (hb hby at_45) rfl (flt hc45).2.1 (by decide) (by decide) ?_
  show Steps p.tables e below (T0.setTop (mkF m 52 #[s0, s1, s2, s3, .val (.int i4), s5, s6, s7] [])) _
  refine XS.iconst X0.here hx rfl (hb hby at_52) ?_
  show Steps p.tables e below (T0.setTop (mkF m 53 #[s0, s1, s2, s3, .val (.int i4), s5, s6, s7] [(.int (0 : Int32))])) _
  refine XS.istore X0.here hx rfl (hb hby at_53) rfl (l' := #[s0, s1, s2, s3, .val (.int i4), s5, .val (.int (0 : Int32)), s7]) (os0_53_13 hs6) ?_
  exact kt
set_option maxRecDepth 65536 in
set_option maxHeartbeats 40000000 in
theorem tl_cff {p : Program} {l : Launch} {e : Env} {R : Room} {s : State} {m : MethodId} {args : Array Value} {below : List Frame} {meth : Method} {c : Code} {T0 : State} {locs : List Loc} {cells slots : Nat} {Z : State} {a0 : Array Value} {h0 : Heap} (s0 : Slot) (s1 : Slot) (s2 : Slot) (s3 : Slot) (i4 : Int32) (s5 : Slot) (s6 : Slot) (s7 : Slot)
    (X0 : Stand p l e R s m args below meth c T0 locs cells slots) (hx : p.tables.exec = Jvm.exec) (hZ : Z.Warmed39 s.vm) (hw : ∀ d ∈ tables_1, d.before a0 Z = true) (hby : c.code = code) (hml : c.maxLocals = 8) (hown : s.vm.findClass "com/example/railbook/railbook/http/SyntaxIsLetterOrDigitPinLaw" = some m.cls) (e0 : T0.heap = h0) (hs6 : One s6) (hc38 : ¬ (i4 < (0 : Int32))) (hc45 : i4 < (10 : Int32)) :
    ∀ target, Steps p.tables e below (T0.setTop (mkF m 55 #[s0, s1, s2, s3, .val (.int i4), s5, .val (.int (1 : Int32)), s7] [])) target → Steps p.tables e below (T0.setTop (mkF m 36 #[s0, s1, s2, s3, .val (.int i4), s5, s6, s7] [])) target := by
  intro target kt
  show Steps p.tables e below (T0.setTop (mkF m 36 #[s0, s1, s2, s3, .val (.int i4), s5, s6, s7] [])) _
  refine XS.iload X0.here hx rfl (hb hby at_36) rfl ?_
  show Steps p.tables e below (T0.setTop (mkF m 38 #[s0, s1, s2, s3, .val (.int i4), s5, s6, s7] [(.int i4)])) _
  refine XS.ifNo X0.here hx rfl (hb hby at_38) rfl ((if0 _ _).trans (flt hc38).1) ?_
  show Steps p.tables e below (T0.setTop (mkF m 41 #[s0, s1, s2, s3, .val (.int i4), s5, s6, s7] [])) _
  refine XS.iload X0.here hx rfl (hb hby at_41) rfl ?_
  show Steps p.tables e below (T0.setTop (mkF m 43 #[s0, s1, s2, s3, .val (.int i4), s5, s6, s7] [(.int i4)])) _
  refine XS.bipush X0.here hx rfl (hb hby at_43) ?_
  show Steps p.tables e below (T0.setTop (mkF m 45 #[s0, s1, s2, s3, .val (.int i4), s5, s6, s7] [(.int (10 : Int32)), (.int i4)])) _
  refine XS.icmpNo X0.here hx rfl (hb hby at_45) rfl (tlt hc45).2.1 ?_
  show Steps p.tables e below (T0.setTop (mkF m 48 #[s0, s1, s2, s3, .val (.int i4), s5, s6, s7] [])) _
  refine XS.iconst X0.here hx rfl (hb hby at_48) ?_
  show Steps p.tables e below (T0.setTop (mkF m 49 #[s0, s1, s2, s3, .val (.int i4), s5, s6, s7] [(.int (1 : Int32))])) _
  refine XS.goto X0.here hx rfl (pc0 := 49) (pc' := 53) rfl (hb hby at_49) (by decide) (by decide) ?_
  show Steps p.tables e below (T0.setTop (mkF m 53 #[s0, s1, s2, s3, .val (.int i4), s5, s6, s7] [(.int (1 : Int32))])) _
  refine XS.istore X0.here hx rfl (hb hby at_53) rfl (l' := #[s0, s1, s2, s3, .val (.int i4), s5, .val (.int (1 : Int32)), s7]) (os0_53_14 hs6) ?_
  exact kt
set_option maxRecDepth 65536 in
set_option maxHeartbeats 40000000 in
theorem tl_dt {p : Program} {l : Launch} {e : Env} {R : Room} {s : State} {m : MethodId} {args : Array Value} {below : List Frame} {meth : Method} {c : Code} {T0 : State} {locs : List Loc} {cells slots : Nat} {Z : State} {a0 : Array Value} {h0 : Heap} (s0 : Slot) (s1 : Slot) (s2 : Slot) (s3 : Slot) (s4 : Slot) (i5 : Int32) (s6 : Slot) (s7 : Slot)
    (X0 : Stand p l e R s m args below meth c T0 locs cells slots) (hx : p.tables.exec = Jvm.exec) (hZ : Z.Warmed39 s.vm) (hw : ∀ d ∈ tables_1, d.before a0 Z = true) (hby : c.code = code) (hml : c.maxLocals = 8) (hown : s.vm.findClass "com/example/railbook/railbook/http/SyntaxIsLetterOrDigitPinLaw" = some m.cls) (e0 : T0.heap = h0) (hs7 : One s7) (hc57 : ¬ (i5 = (0 : Int32))) :
    ∀ target, Steps p.tables e below (T0.setTop (mkF m 72 #[s0, s1, s2, s3, s4, .val (.int i5), s6, .val (.int (1 : Int32))] [])) target → Steps p.tables e below (T0.setTop (mkF m 55 #[s0, s1, s2, s3, s4, .val (.int i5), s6, s7] [])) target := by
  intro target kt
  show Steps p.tables e below (T0.setTop (mkF m 55 #[s0, s1, s2, s3, s4, .val (.int i5), s6, s7] [])) _
  refine XS.iload X0.here hx rfl (hb hby at_55) rfl ?_
  show Steps p.tables e below (T0.setTop (mkF m 57 #[s0, s1, s2, s3, s4, .val (.int i5), s6, s7] [(.int i5)])) _
  refine XS.ifYes X0.here hx rfl (pc0 := 57) (pc' := 65) rfl (hb hby at_57) rfl ((if0 _ _).trans (feq hc57).2) (by decide) (by decide) ?_
  show Steps p.tables e below (T0.setTop (mkF m 65 #[s0, s1, s2, s3, s4, .val (.int i5), s6, s7] [])) _
  refine XS.iconst X0.here hx rfl (hb hby at_65) ?_
  show Steps p.tables e below (T0.setTop (mkF m 66 #[s0, s1, s2, s3, s4, .val (.int i5), s6, s7] [(.int (1 : Int32))])) _
  refine XS.goto X0.here hx rfl (pc0 := 66) (pc' := 70) rfl (hb hby at_66) (by decide) (by decide) ?_
  show Steps p.tables e below (T0.setTop (mkF m 70 #[s0, s1, s2, s3, s4, .val (.int i5), s6, s7] [(.int (1 : Int32))])) _
  refine XS.istore X0.here hx rfl (hb hby at_70) rfl (l' := #[s0, s1, s2, s3, s4, .val (.int i5), s6, .val (.int (1 : Int32))]) (os0_70_15 hs7) ?_
  exact kt
set_option maxRecDepth 65536 in
set_option maxHeartbeats 40000000 in
theorem tl_dff {p : Program} {l : Launch} {e : Env} {R : Room} {s : State} {m : MethodId} {args : Array Value} {below : List Frame} {meth : Method} {c : Code} {T0 : State} {locs : List Loc} {cells slots : Nat} {Z : State} {a0 : Array Value} {h0 : Heap} (s0 : Slot) (s1 : Slot) (s2 : Slot) (s3 : Slot) (s4 : Slot) (i5 : Int32) (i6 : Int32) (s7 : Slot)
    (X0 : Stand p l e R s m args below meth c T0 locs cells slots) (hx : p.tables.exec = Jvm.exec) (hZ : Z.Warmed39 s.vm) (hw : ∀ d ∈ tables_1, d.before a0 Z = true) (hby : c.code = code) (hml : c.maxLocals = 8) (hown : s.vm.findClass "com/example/railbook/railbook/http/SyntaxIsLetterOrDigitPinLaw" = some m.cls) (e0 : T0.heap = h0) (hs7 : One s7) (hc57 : i5 = (0 : Int32)) (hc62 : ¬ (i6 = (0 : Int32))) :
    ∀ target, Steps p.tables e below (T0.setTop (mkF m 72 #[s0, s1, s2, s3, s4, .val (.int i5), .val (.int i6), .val (.int (1 : Int32))] [])) target → Steps p.tables e below (T0.setTop (mkF m 55 #[s0, s1, s2, s3, s4, .val (.int i5), .val (.int i6), s7] [])) target := by
  intro target kt
  show Steps p.tables e below (T0.setTop (mkF m 55 #[s0, s1, s2, s3, s4, .val (.int i5), .val (.int i6), s7] [])) _
  refine XS.iload X0.here hx rfl (hb hby at_55) rfl ?_
  show Steps p.tables e below (T0.setTop (mkF m 57 #[s0, s1, s2, s3, s4, .val (.int i5), .val (.int i6), s7] [(.int i5)])) _
  refine XS.ifNo X0.here hx rfl (hb hby at_57) rfl ((if0 _ _).trans (teq hc57).2) ?_
  show Steps p.tables e below (T0.setTop (mkF m 60 #[s0, s1, s2, s3, s4, .val (.int i5), .val (.int i6), s7] [])) _
  refine XS.iload X0.here hx rfl (hb hby at_60) rfl ?_
  show Steps p.tables e below (T0.setTop (mkF m 62 #[s0, s1, s2, s3, s4, .val (.int i5), .val (.int i6), s7] [(.int i6)])) _
  refine XS.ifNo X0.here hx rfl (hb hby at_62) rfl ((if0 _ _).trans (feq hc62).1) ?_
  show Steps p.tables e below (T0.setTop (mkF m 65 #[s0, s1, s2, s3, s4, .val (.int i5), .val (.int i6), s7] [])) _
  refine XS.iconst X0.here hx rfl (hb hby at_65) ?_
  show Steps p.tables e below (T0.setTop (mkF m 66 #[s0, s1, s2, s3, s4, .val (.int i5), .val (.int i6), s7] [(.int (1 : Int32))])) _
  refine XS.goto X0.here hx rfl (pc0 := 66) (pc' := 70) rfl (hb hby at_66) (by decide) (by decide) ?_
  show Steps p.tables e below (T0.setTop (mkF m 70 #[s0, s1, s2, s3, s4, .val (.int i5), .val (.int i6), s7] [(.int (1 : Int32))])) _
  refine XS.istore X0.here hx rfl (hb hby at_70) rfl (l' := #[s0, s1, s2, s3, s4, .val (.int i5), .val (.int i6), .val (.int (1 : Int32))]) (os0_70_16 hs7) ?_
  exact kt
set_option maxRecDepth 65536 in
set_option maxHeartbeats 40000000 in
theorem tl_dft {p : Program} {l : Launch} {e : Env} {R : Room} {s : State} {m : MethodId} {args : Array Value} {below : List Frame} {meth : Method} {c : Code} {T0 : State} {locs : List Loc} {cells slots : Nat} {Z : State} {a0 : Array Value} {h0 : Heap} (s0 : Slot) (s1 : Slot) (s2 : Slot) (s3 : Slot) (s4 : Slot) (i5 : Int32) (i6 : Int32) (s7 : Slot)
    (X0 : Stand p l e R s m args below meth c T0 locs cells slots) (hx : p.tables.exec = Jvm.exec) (hZ : Z.Warmed39 s.vm) (hw : ∀ d ∈ tables_1, d.before a0 Z = true) (hby : c.code = code) (hml : c.maxLocals = 8) (hown : s.vm.findClass "com/example/railbook/railbook/http/SyntaxIsLetterOrDigitPinLaw" = some m.cls) (e0 : T0.heap = h0) (hs7 : One s7) (hc57 : i5 = (0 : Int32)) (hc62 : i6 = (0 : Int32)) :
    ∀ target, Steps p.tables e below (T0.setTop (mkF m 72 #[s0, s1, s2, s3, s4, .val (.int i5), .val (.int i6), .val (.int (0 : Int32))] [])) target → Steps p.tables e below (T0.setTop (mkF m 55 #[s0, s1, s2, s3, s4, .val (.int i5), .val (.int i6), s7] [])) target := by
  intro target kt
  show Steps p.tables e below (T0.setTop (mkF m 55 #[s0, s1, s2, s3, s4, .val (.int i5), .val (.int i6), s7] [])) _
  refine XS.iload X0.here hx rfl (hb hby at_55) rfl ?_
  show Steps p.tables e below (T0.setTop (mkF m 57 #[s0, s1, s2, s3, s4, .val (.int i5), .val (.int i6), s7] [(.int i5)])) _
  refine XS.ifNo X0.here hx rfl (hb hby at_57) rfl ((if0 _ _).trans (teq hc57).2) ?_
  show Steps p.tables e below (T0.setTop (mkF m 60 #[s0, s1, s2, s3, s4, .val (.int i5), .val (.int i6), s7] [])) _
  refine XS.iload X0.here hx rfl (hb hby at_60) rfl ?_
  show Steps p.tables e below (T0.setTop (mkF m 62 #[s0, s1, s2, s3, s4, .val (.int i5), .val (.int i6), s7] [(.int i6)])) _
  refine XS.ifYes X0.here hx rfl (pc0 := 62) (pc' := 69) rfl (hb hby at_62) rfl ((if0 _ _).trans (teq hc62).1) (by decide) (by decide) ?_
  show Steps p.tables e below (T0.setTop (mkF m 69 #[s0, s1, s2, s3, s4, .val (.int i5), .val (.int i6), s7] [])) _
  refine XS.iconst X0.here hx rfl (hb hby at_69) ?_
  show Steps p.tables e below (T0.setTop (mkF m 70 #[s0, s1, s2, s3, s4, .val (.int i5), .val (.int i6), s7] [(.int (0 : Int32))])) _
  refine XS.istore X0.here hx rfl (hb hby at_70) rfl (l' := #[s0, s1, s2, s3, s4, .val (.int i5), .val (.int i6), .val (.int (0 : Int32))]) (os0_70_17 hs7) ?_
  exact kt
set_option maxRecDepth 65536 in
set_option maxHeartbeats 40000000 in
theorem tl_e {p : Program} {l : Launch} {e : Env} {s : State} {m : MethodId} {args : Array Value} {below : List Frame} {meth : Method} {c : Code} {T0 : State} {locs : List Loc} {Z : State} {a0 : Array Value} {h0 : Heap} (s0 : Slot) (i1 : Int32) (s2 : Slot) (s3 : Slot) (s4 : Slot) (s5 : Slot) (s6 : Slot) (i7 : Int32)
    (X0 : Stand p l e room_1 s m args below meth c T0 locs 0 0) (hx : p.tables.exec = Jvm.exec) (hZ : Z.Warmed39 s.vm) (hw : ∀ d ∈ tables_1, d.before a0 Z = true) (hby : c.code = code) (hml : c.maxLocals = 8) (hown : s.vm.findClass "com/example/railbook/railbook/http/SyntaxIsLetterOrDigitPinLaw" = some m.cls) (e0 : T0.heap = h0) (n0 : Nat) (Z0 : n0 ≤ h0.size) (N0 : Fr n0 locs) (hb' : own_b i1 = i7) :
    ∃ (T' : State) (L' : List Loc), Stand p l e room_1 s m args below meth c T' L' 0 0 ∧ T'.heap = h0 ∧ Fr n0 L' ∧
      ∀ target, Steps p.tables e below (T'.setTop (mkF m 86 #[s0, .val (.int i1), s2, s3, s4, s5, s6, .val (.int i7)] [(.int (1 : Int32))])) target → Steps p.tables e below (T0.setTop (mkF m 72 #[s0, .val (.int i1), s2, s3, s4, s5, s6, .val (.int i7)] [])) target := by
  obtain ⟨_, _, ⟨T2, L2, k2, n2⟩, -, X2, ⟨Lc2, hQ2, l2, y2, z2⟩, st2⟩ := Jvm.LawKit.callS X0 hx (y := (⟨"com/example/railbook/railbook/http/Syntax", "isLetterOrDigit", "(C)Z"⟩ : MethodName)) hown (mvT hZ (hw _ (List.mem_of_getElem? (i := 0) rfl))) (mvT hZ (hw _ (List.mem_of_getElem? (i := 1) rfl))) (mvT hZ (hw _ (List.mem_of_getElem? (i := 2) rfl))) (mvT hZ (hw _ (List.mem_of_getElem? (i := 3) rfl))) (by decide) (backOf (W := 0) (rm1 l Z a0 hw [] i1 h0 n0 Z0) hZ (hw _ (List.mem_of_getElem? (i := 3) rfl)) (hw _ (List.mem_of_getElem? (i := 2) rfl)) (by decide) (by decide)) (g := (mkF m 73 #[s0, .val (.int i1), s2, s3, s4, s5, s6, .val (.int i7)] [(.int i1)])) rfl (by rw [hml]; rfl) (argsL := [(.int i1)]) (rest := []) (lenOf pdq_0 rfl) rfl (by show 2 * 0 + _ ≤ _; exact Nat.le_of_eq rfl) (hb hby at_73) (fun _ _ => ⟨rfl, e0, (by decide : 0 + 0 ≤ _), (by decide : 0 + 0 ≤ _)⟩)
  dsimp only [Pt.U, Pt.locs, Pt.cells, Pt.slots] at X2 l2 y2 z2 st2 hQ2
  subst l2 y2 z2
  obtain ⟨rfl, N2q, e2⟩ := hQ2
  have N2 := Fr.app N0 N2q
  refine ⟨T2, _, X2, e2, N2, fun target kt => ?_⟩
  show Steps p.tables e below (T0.setTop (mkF m 72 #[s0, .val (.int i1), s2, s3, s4, s5, s6, .val (.int i7)] [])) _
  refine XS.iloadN X0.here hx rfl (hb hby at_72) rfl ?_
  show Steps p.tables e below (T0.setTop (mkF m 73 #[s0, .val (.int i1), s2, s3, s4, s5, s6, .val (.int i7)] [(.int i1)])) _
  refine st2 _ ?_
  show Steps p.tables e below (T2.setTop (mkF m 76 #[s0, .val (.int i1), s2, s3, s4, s5, s6, .val (.int i7)] [(.int (own_b i1))])) _
  refine XS.iload X2.here hx rfl (hb hby at_76) rfl ?_
  show Steps p.tables e below (T2.setTop (mkF m 78 #[s0, .val (.int i1), s2, s3, s4, s5, s6, .val (.int i7)] [(.int i7), (.int (own_b i1))])) _
  refine XS.icmpNo X2.here hx rfl (hb hby at_78) rfl (teq (hb' : (own_b i1) = i7)).2 ?_
  show Steps p.tables e below (T2.setTop (mkF m 81 #[s0, .val (.int i1), s2, s3, s4, s5, s6, .val (.int i7)] [])) _
  refine XS.iconst X2.here hx rfl (hb hby at_81) ?_
  show Steps p.tables e below (T2.setTop (mkF m 82 #[s0, .val (.int i1), s2, s3, s4, s5, s6, .val (.int i7)] [(.int (1 : Int32))])) _
  refine XS.goto X2.here hx rfl (pc0 := 82) (pc' := 86) rfl (hb hby at_82) (by decide) (by decide) ?_
  exact kt
def Q0 (Z : State)  (n0 : Nat) (v : Option Value) (h : Heap) (L : List Loc) : Prop := v = some (.int (1 : Int32)) ∧ Fr n0 L
set_option maxRecDepth 65536 in
set_option maxHeartbeats 40000000 in
theorem rm0 (l : Launch) (Z : State) (a0 : Array Value) (hw : ∀ d ∈ tables_1, d.before a0 Z = true) (ws : List Jvm.Cond) (p1 : Int32) (h0 : Heap) (n0 : Nat) (Z0 : n0 ≤ h0.size) :
    MetFree l x (head1 (Jvm.Cond.code x code maxLocals ret :: ws) room_1) (fun a U => a = #[(.int p1)] ∧ Z.Warmed39 U.vm ∧ U.heap = h0) (fun _ _ _ _ _ => True) (fun _ U o U' => ∃ v L, o = .returned v ∧ Q0 Z  n0 v U'.heap L ∧ FrameEnd U o U' L room_1.cells room_1.slots) := by
  refine MetFree.of_bodySF (plainFor_of_name pn_0) hisR ?_
  intro p e s m args below meth c s₁ Bd hml0 hP hK
  obtain ⟨rfl, hZ, hh⟩ := hP
  have hx := Bd.exec
  have hby := Bd.bytes
  have hml : c.maxLocals = 8 := hml0
  have hown : s.vm.findClass "com/example/railbook/railbook/http/SyntaxIsLetterOrDigitPinLaw" = some m.cls := findClass_of_methodNamed Bd.named
  have hnm := (name_of_methodNamed Bd.named Bd.method).1
  have X0 : Stand p l e room_1 s m #[(.int p1)] below meth c s₁ [] 0 0 := Stand.of_body Bd
  have e0 : s₁.heap = h0 := by rw [← hh, Bd.state]; rfl
  have N0 := Fr.nil n0
  have pre0 : ∀ t, Steps p.tables e below (s₁.setTop (mkF m 0 #[.val (.int p1), .unset, .unset, .unset, .unset, .unset, .unset, .unset] [])) t → Steps p.tables e below (s₁.setTop (entryFrame m #[(.int p1)] maxLocals)) t := fun t k => castTop (ef_0 m p1) k
  have hc := own_c p1
  have hf := own_fold hc
  have hi := own_toInt (c := (p1.toUInt32.toUInt16.toUInt32.toInt32)) (by omega)
  have own_l0 : (0 : Int32).toInt = 0 := rfl
  have own_l10 : (10 : Int32).toInt = 10 := rfl
  have own_l26 : (26 : Int32).toInt = 26 := rfl
  have own_l48 : (48 : Int32).toInt = 48 := rfl
  have own_l57 : (57 : Int32).toInt = 57 := rfl
  have own_l65 : (65 : Int32).toInt = 65 := rfl
  have own_l90 : (90 : Int32).toInt = 90 := rfl
  have own_l97 : (97 : Int32).toInt = 97 := rfl
  have own_l122 : (122 : Int32).toInt = 122 := rfl
  have stA := tl_a p1 .unset .unset .unset .unset .unset .unset .unset X0 hx hZ hw hby hml hown e0 One.u One.u One.u One.u
  generalize (p1.toUInt32.toUInt16.toUInt32.toInt32) = c at *
  have hl : ((c ||| 32) - 97).toInt = (c ||| 32).toInt - 97 := by rw [Jvm.Kit.i32_sub (by rw [own_l97, hf]; split <;> omega) (by rw [own_l97, hf]; split <;> omega), own_l97]
  have hd : (c - 48).toInt = c.toInt - 48 := by rw [Jvm.Kit.i32_sub (by rw [own_l48]; omega) (by rw [own_l48]; omega), own_l48]
  obtain ⟨t5, ht5, stB⟩ : ∃ t5 : Int32, ((t5 = 1 ∧ ((97 ≤ c.toInt ∧ c.toInt ≤ 122) ∨ (65 ≤ c.toInt ∧ c.toInt ≤ 90))) ∨ (t5 = 0 ∧ ¬ ((97 ≤ c.toInt ∧ c.toInt ≤ 122) ∨ (65 ≤ c.toInt ∧ c.toInt ≤ 90)))) ∧ ∀ target, Steps p.tables e below (s₁.setTop (mkF m 36 #[.val (.int p1), .val (.int c), .val (.int (c ||| 32)), .val (.int ((c ||| 32) - 97)), .val (.int (c - 48)), .val (.int t5), .unset, .unset] [])) target → Steps p.tables e below (s₁.setTop (mkF m 19 #[.val (.int p1), .val (.int c), .val (.int (c ||| 32)), .val (.int ((c ||| 32) - 97)), .val (.int (c - 48)), .unset, .unset, .unset] [])) target := by
    by_cases q1 : (c ||| 32).toInt - 97 < 0
    · exact ⟨0, Or.inr ⟨rfl, by split at hf <;> omega⟩, tl_bt (.val (.int p1)) (.val (.int c)) (.val (.int (c ||| 32))) ((c ||| 32) - 97) (.val (.int (c - 48))) .unset .unset .unset X0 hx hZ hw hby hml hown e0 One.u (by rw [Int32.lt_iff_toInt_lt]; omega)⟩
    · by_cases q2 : (c ||| 32).toInt - 97 < 26
      · exact ⟨1, Or.inl ⟨rfl, by split at hf <;> omega⟩, tl_bff (.val (.int p1)) (.val (.int c)) (.val (.int (c ||| 32))) ((c ||| 32) - 97) (.val (.int (c - 48))) .unset .unset .unset X0 hx hZ hw hby hml hown e0 One.u (by rw [Int32.lt_iff_toInt_lt]; omega) (by rw [Int32.lt_iff_toInt_lt]; omega)⟩
      · exact ⟨0, Or.inr ⟨rfl, by split at hf <;> omega⟩, tl_bft (.val (.int p1)) (.val (.int c)) (.val (.int (c ||| 32))) ((c ||| 32) - 97) (.val (.int (c - 48))) .unset .unset .unset X0 hx hZ hw hby hml hown e0 One.u (by rw [Int32.lt_iff_toInt_lt]; omega) (by rw [Int32.lt_iff_toInt_lt]; omega)⟩
  obtain ⟨t6, ht6, stC⟩ : ∃ t6 : Int32, ((t6 = 1 ∧ (48 ≤ c.toInt ∧ c.toInt ≤ 57)) ∨ (t6 = 0 ∧ ¬ (48 ≤ c.toInt ∧ c.toInt ≤ 57))) ∧ ∀ target, Steps p.tables e below (s₁.setTop (mkF m 55 #[.val (.int p1), .val (.int c), .val (.int (c ||| 32)), .val (.int ((c ||| 32) - 97)), .val (.int (c - 48)), .val (.int t5), .val (.int t6), .unset] [])) target → Steps p.tables e below (s₁.setTop (mkF m 36 #[.val (.int p1), .val (.int c), .val (.int (c ||| 32)), .val (.int ((c ||| 32) - 97)), .val (.int (c - 48)), .val (.int t5), .unset, .unset] [])) target := by
    by_cases q1 : c.toInt - 48 < 0
    · exact ⟨0, Or.inr ⟨rfl, by omega⟩, tl_ct (.val (.int p1)) (.val (.int c)) (.val (.int (c ||| 32))) (.val (.int ((c ||| 32) - 97))) (c - 48) (.val (.int t5)) .unset .unset X0 hx hZ hw hby hml hown e0 One.u (by rw [Int32.lt_iff_toInt_lt]; omega)⟩
    · by_cases q2 : c.toInt - 48 < 10
      · exact ⟨1, Or.inl ⟨rfl, by omega⟩, tl_cff (.val (.int p1)) (.val (.int c)) (.val (.int (c ||| 32))) (.val (.int ((c ||| 32) - 97))) (c - 48) (.val (.int t5)) .unset .unset X0 hx hZ hw hby hml hown e0 One.u (by rw [Int32.lt_iff_toInt_lt]; omega) (by rw [Int32.lt_iff_toInt_lt]; omega)⟩
      · exact ⟨0, Or.inr ⟨rfl, by omega⟩, tl_cft (.val (.int p1)) (.val (.int c)) (.val (.int (c ||| 32))) (.val (.int ((c ||| 32) - 97))) (c - 48) (.val (.int t5)) .unset .unset X0 hx hZ hw hby hml hown e0 One.u (by rw [Int32.lt_iff_toInt_lt]; omega) (by rw [Int32.lt_iff_toInt_lt]; omega)⟩
  obtain ⟨t7, ht7, stD⟩ : ∃ t7 : Int32, own_b c = t7 ∧ ∀ target, Steps p.tables e below (s₁.setTop (mkF m 72 #[.val (.int p1), .val (.int c), .val (.int (c ||| 32)), .val (.int ((c ||| 32) - 97)), .val (.int (c - 48)), .val (.int t5), .val (.int t6), .val (.int t7)] [])) target → Steps p.tables e below (s₁.setTop (mkF m 55 #[.val (.int p1), .val (.int c), .val (.int (c ||| 32)), .val (.int ((c ||| 32) - 97)), .val (.int (c - 48)), .val (.int t5), .val (.int t6), .unset] [])) target := by
    rcases ht5 with ⟨rfl, k5⟩ | ⟨rfl, k5⟩
    · exact ⟨1, if_pos (by omega), tl_dt (.val (.int p1)) (.val (.int c)) (.val (.int (c ||| 32))) (.val (.int ((c ||| 32) - 97))) (.val (.int (c - 48))) 1 (.val (.int t6)) .unset X0 hx hZ hw hby hml hown e0 One.u (by decide)⟩
    · rcases ht6 with ⟨rfl, k6⟩ | ⟨rfl, k6⟩
      · exact ⟨1, if_pos (by omega), tl_dff (.val (.int p1)) (.val (.int c)) (.val (.int (c ||| 32))) (.val (.int ((c ||| 32) - 97))) (.val (.int (c - 48))) 0 1 .unset X0 hx hZ hw hby hml hown e0 One.u rfl (by decide)⟩
      · exact ⟨0, if_neg (by omega), tl_dft (.val (.int p1)) (.val (.int c)) (.val (.int (c ||| 32))) (.val (.int ((c ||| 32) - 97))) (.val (.int (c - 48))) 0 0 .unset X0 hx hZ hw hby hml hown e0 One.u rfl rfl⟩
  obtain ⟨T1, L1, X1, e1, N1, st1⟩ := tl_e (.val (.int p1)) c (.val (.int (c ||| 32))) (.val (.int ((c ||| 32) - 97))) (.val (.int (c - 48))) (.val (.int t5)) (.val (.int t6)) t7 X0 hx hZ hw hby hml hown e0 n0 Z0 N0 ht7
  obtain ⟨fs, hr, hrun, hended, hW, hsame⟩ := X1.leave (v := some (.int (1 : Int32))) (fun h => by rw [Bd.returns] at h; cases h)
  refine ⟨_, _, pre0 _ ?_, hrun, hended, _, _, rfl, ?_, ⟨_, rfl⟩, hW, hsame.mono (by decide) (by decide)⟩
  · refine stA _ ?_
    refine stB _ ?_
    refine stC _ ?_
    refine stD _ ?_
    refine st1 _ ?_
    exact retN X1 hx (t := .boolean) Bd.returns (by simp) (hb hby at_86) hr
  · exact ⟨rfl, N1⟩

set_option maxRecDepth 65536 in
set_option maxHeartbeats 40000000 in
theorem comes_1 {Post : Tables → Env → Array Value → State → Outcome → State → Prop} (hpost : ∀ tb e args s v u, (limb_1_1.after args s (.returned v) u = true ∧ limb_1_2.after args s (.returned v) u = true ∧ True) → FrameEnd s (.returned v) u (Jvm.fieldLocs frame_1_writes args s ++ Jvm.arrayLocs frame_1_arrays args s ++ Jvm.staticLocs frame_1_statics s) 0 0 → Post tb e args s (.returned v) u) :
    ArmFor flags0 classFile x code maxLocals ret World_1 tables_1 room_1 Calls_1 rest_1 Pre_1 Post := by
  intro l hfl _ _ p e ha hc hk s m args below hf hA hF happ hP
  obtain ⟨hcalls, hrest, hpre⟩ := hP
  obtain ⟨-, -, -, hnamed, -, -, -, hat⟩ := (Spec.applies_iff hf).mp happ
  obtain ⟨hg, hn⟩ := and_e (Cond.before_iff.mp (show (Jvm.Cond.and given_1 narrow_1).before args s = true from hpre))
  obtain ⟨g3, g4⟩ := and_e hg
  obtain ⟨w0, rfl⟩ : ∃ w0 : Value, args = #[w0] := by
    have hs : args.size = 1 := by simpa [Cond.value, given_1] using g3
    obtain ⟨L⟩ := args
    match L, hs with
    | [w0], _ => exact ⟨w0, rfl⟩
  have hw := fun d (hd : d ∈ tables_1) => atoms_spec (ws := Jvm.Cond.code x code maxLocals ret :: tables_1) hat d (List.mem_cons_of_mem _ hd)
  have hfit : Fit s := fun {y c} hc i hi => by
    obtain ⟨ha, rfl⟩ := Array.getElem?_eq_some_iff.mp hc
    have q := List.all_eq_true.mp ((Array.all_eq_true_iff_forall_mem.mp hF) _ (Array.getElem_mem ha)) i (List.mem_range.mpr hi)
    simpa [Array.getElem?_eq_getElem hi] using q
  obtain ⟨i0, ei0⟩ := is_v g4
  obtain rfl : w0 = (.int i0) := Option.some.inj ei0
  obtain ⟨n, o, h1, h2, h3, _, L, rfl, ⟨rfl, N⟩, hq⟩ := rm0 l s _ hw tables_1 i0 s.heap s.heap.size (Nat.le_refl _) p e ha hc hk s m _ below hf ((Spec.applies_iff_loose hf).mp happ).1 ⟨rfl, State.Warmed39.refl s, rfl⟩ trivial
  refine ⟨n, _, h1, h2, h3, hpost _ _ _ _ _ _ ⟨Cond.after_iff.mpr rfl, Cond.after_iff.mpr (eq_i res_at (Term.int_eval (1)) rfl), trivial⟩ ⟨hq.1, hq.2.1, (hq.2.2.sift fun y hy => Or.inr (N y hy)).mono (by decide) (by decide)⟩⟩
theorem main_1_1 : Claimed_1_1 := comes_1 fun _ _ _ _ _ _ h hF => ⟨h.1, hF⟩
theorem main_1_2 : Claimed_1_2 := comes_1 fun _ _ _ _ _ _ h hF => ⟨h.2.1, hF⟩
end Jvm.Pilot.@@N@@
namespace Jvm.Pilot.@@N@@
open Jvm Jvm.ClassFile Sem Op Lib Jvm.Free Jvm.Stand Jvm.Pilot.@@N@@.Jvm.D
/-! MADE BY PROGRAM (witnessworld.py) out of the Statement's table words and the real class files: 7 classes; the members and pool entries that the words name. The judged class is class 1, her method 1. -/
namespace start1
open Jvm.ClassFile
def u (s : String) : CpInfo := .utf8 (stringToUtf16 s)
/-- a pool by its gaps: so many unusable entries, then the entry; so many at the end -/
def gap : Nat → List CpInfo → List CpInfo
  | 0, r => r
  | n + 1, r => .unusable :: gap n r
def poolList (es : List (Nat × CpInfo)) (last : Nat) : List CpInfo := es.foldr (fun e r => gap e.1 (e.2 :: r)) (gap last [])
def pool (es : List (Nat × CpInfo)) (last : Nat) : Array CpInfo := ⟨poolList es last⟩
def fileOf (pool : Array CpInfo) (this : Nat) (attrs : Array Attribute := #[]) (ms : Array MethodInfo := #[]) (fl : Nat := 33) (sup : Nat := 0) (ifs : Array Nat := #[]) (fds : Array FieldInfo := #[]) : ClassFile where
  minorVersion := 0
  majorVersion := 65
  constantPool := pool
  accessFlags := fl
  thisClass := this
  superClass := sup
  interfaces := ifs
  fields := fds
  methods := ms
  attributes := attrs
def plain (name : String) (sup : Option ClassId) : Class where
  name := name
  kind := .ordinary
  loader := none
  accessFlags := 33
  super := sup
  interfaces := #[]
  cf := none
  fields := #[]
  methods := #[]
  instanceTypes := #[]
  staticTypes := #[]
  resolved := #[]
  callSites := []
  init := .initialized
  statics := none
  mirror := none

def pool0 : Array CpInfo := pool [(5, u "<init>"), (0, u "()V"), (1, .class_ 10), (1, u "java/lang/Object")] 113

def k0m0 : Method := { name := "<init>", desc := "()V", sig := { parameters := [], returnType := none }, accessFlags := 1, code := none }
/-- java/lang/Object -/
def k0 : Class := { plain "java/lang/Object" none with
  accessFlags := 33
  interfaces := #[]
  cf := some (fileOf pool0 8 #[] #[{ accessFlags := 1, nameIndex := 5, descriptorIndex := 6, attributes := #[] }] 33 0 #[] #[])
  fields := #[]
  methods := #[k0m0]
  instanceTypes := #[]
  staticTypes := #[]
  resolved := Array.replicate 124 none
  statics := none }

def pool1 : Array CpInfo := pool [(2, .class_ 4), (1, u "java/lang/Object"), (0, u "<init>"), (0, u "()V"), (0, .methodref 8 9), (0, .class_ 10), (0, .nameAndType 11 12), (0, u "com/example/railbook/railbook/http/Syntax"), (0, u "isLetterOrDigit"), (0, u "(C)Z"), (0, .class_ 14), (0, u "com/example/railbook/railbook/http/SyntaxIsLetterOrDigitPinLaw"), (2, u "law"), (0, u "(I)Z")] 3

def k1m0 : Method := { name := "<init>", desc := "()V", sig := { parameters := [], returnType := none }, accessFlags := 2, code := none }
def k1c1 : Code := { maxStack := 2, maxLocals := 8, code := code, exceptionTable := #[], attributes := #[] }
def k1m1 : Method := { name := "law", desc := "(I)Z", sig := { parameters := [.int], returnType := some .boolean }, accessFlags := 9, code := some k1c1 }
/-- com/example/railbook/railbook/http/SyntaxIsLetterOrDigitPinLaw -/
def k1 : Class := { plain "com/example/railbook/railbook/http/SyntaxIsLetterOrDigitPinLaw" (some 0) with
  accessFlags := 49
  interfaces := #[]
  cf := some (fileOf pool1 13 #[] #[{ accessFlags := 2, nameIndex := 5, descriptorIndex := 6, attributes := #[] }, { accessFlags := 9, nameIndex := 17, descriptorIndex := 18, attributes := #[] }] 49 2 #[] #[])
  fields := #[]
  methods := #[k1m0, k1m1]
  instanceTypes := #[]
  staticTypes := #[]
  resolved := Array.replicate 22 none
  statics := none }

def pool2 : Array CpInfo := pool [(2, .class_ 4), (1, u "java/lang/Object"), (0, u "<init>"), (0, u "()V"), (16, .class_ 24), (0, u "com/example/railbook/railbook/http/Syntax"), (2, u "isLetterOrDigit"), (0, u "(C)Z")] 5

def k2m0 : Method := { name := "<init>", desc := "()V", sig := { parameters := [], returnType := none }, accessFlags := 2, code := none }
def k2c1 : Code := { maxStack := 2, maxLocals := 1, code := prog_14_method_2_code, exceptionTable := #[], attributes := #[] }
def k2m1 : Method := { name := "isLetterOrDigit", desc := "(C)Z", sig := { parameters := [.char], returnType := some .boolean }, accessFlags := 8, code := some k2c1 }
/-- com/example/railbook/railbook/http/Syntax -/
def k2 : Class := { plain "com/example/railbook/railbook/http/Syntax" (some 0) with
  accessFlags := 48
  interfaces := #[]
  cf := some (fileOf pool2 23 #[] #[{ accessFlags := 2, nameIndex := 5, descriptorIndex := 6, attributes := #[] }, { accessFlags := 8, nameIndex := 27, descriptorIndex := 28, attributes := #[] }] 48 2 #[] #[])
  fields := #[]
  methods := #[k2m0, k2m1]
  instanceTypes := #[]
  staticTypes := #[]
  resolved := Array.replicate 34 none
  statics := none }

def pool3 : Array CpInfo := pool [(1, u "java/lang/Cloneable"), (0, .class_ 1), (0, u "java/lang/Object"), (0, .class_ 3)] 3

/-- java/lang/Cloneable -/
def k3 : Class := { plain "java/lang/Cloneable" (some 0) with
  accessFlags := 1537
  interfaces := #[]
  cf := some (fileOf pool3 2 #[] #[] 1537 4 #[] #[])
  fields := #[]
  methods := #[]
  instanceTypes := #[]
  staticTypes := #[]
  resolved := Array.replicate 8 none
  statics := none }

def pool4 : Array CpInfo := pool [(1, u "java/io/Serializable"), (0, .class_ 1), (0, u "java/lang/Object"), (0, .class_ 3)] 3

/-- java/io/Serializable -/
def k4 : Class := { plain "java/io/Serializable" (some 0) with
  accessFlags := 1537
  interfaces := #[]
  cf := some (fileOf pool4 2 #[] #[] 1537 4 #[] #[])
  fields := #[]
  methods := #[]
  instanceTypes := #[]
  staticTypes := #[]
  resolved := Array.replicate 8 none
  statics := none }

/-- the primitive byte -/
def k5 : Class := { plain "byte" none with kind := .primitive 'B', accessFlags := 0x411 }
/-- [B -/
def k6 : Class := { plain "[B" (some 0) with kind := .array 5 .byte, interfaces := #[3, 4], accessFlags := 1041 }

def heap : Heap := #[]
def classes : Array Class := #[k0, k1, k2, k3, k4, k5, k6]
def interned : List (Array UInt16 × Addr) := []
def slotsUsed : Nat := 0
def theMethod : MethodId := ⟨1, 1⟩
def args0 : Array Value := #[.int 65]
def aboutOver (below : List Frame) : State where
  vm := { classes := classes, interned := interned.toArray }
  heap := heap
  slotsUsed := slotsUsed
  threads := #[{ frames := .invoking theMethod args0 :: below }]
def below0 : List Frame := [.native { method := ⟨0, 0⟩, args := #[] }]
def about1 : State := aboutOver below0
def p0 : Program := .bare "" "" ""
def e0 : Env := launch0.env 0 0 0
theorem w_frames : about1.frames = Frame.invoking theMethod args0 :: below0 := rfl
set_option maxRecDepth 65536 in
theorem w_args : argsFit about1.vm theMethod args0 = true := by decide +kernel
set_option maxRecDepth 65536 in
theorem w_heap : heapFits about1 = true := by decide +kernel
set_option maxRecDepth 65536 in
theorem w_runnable : about1.curStatus? = some .runnable := by decide +kernel
set_option maxRecDepth 65536 in
theorem w_alone : about1.alone = true := by decide +kernel
set_option maxRecDepth 65536 in
theorem w_named : about1.methodNamed? x = some theMethod := by decide +kernel
set_option maxRecDepth 65536 in
theorem w_hears : about1.hears theMethod below0 = true := by decide +kernel
set_option maxRecDepth 65536 in
theorem w_ripe : about1.ripe theMethod args0 below0 = true := by decide +kernel
theorem w_running : about1.status = .running := rfl
set_option maxRecDepth 65536 in
theorem w_room : about1.hasRoom e0.platform room_1 = true :=
  launch0.hasRoom_least _ room_1 (by decide +kernel) (by decide +kernel) (by decide +kernel) (by decide +kernel) (by decide +kernel) (by decide +kernel)
theorem allAtoms_all (ts : List Jvm.Cond) (a : Array Jvm.Value) (st : Jvm.State) : (allAtoms ts).before a st = ts.all (fun c => c.before a st) := by
  induction ts with
  | nil => rfl
  | cons c t ih =>
    show (Jvm.Cond.and c (allAtoms t)).before a st = _
    rw [Jvm.Cond.before_and, ih, List.all_cons]
def words1 : List Jvm.Cond := Jvm.Cond.code x code maxLocals ret :: tables_1
/-- a 'code' word, met by the world's own term for the bytes: nothing is compared byte by byte -/
theorem code_word {y : MethodName} {bytes : ByteArray} {mx : Nat} {rt : Option FieldType} {a : Array Value} {s : State} {m : MethodId} {meth : Method} {c : Code} (h1 : s.methodNamed? y = some m) (h2 : s.vm.method? m = some meth) (h3 : meth.code = some c) (h4 : c.code = bytes)
    (h5 : (c.maxLocals == mx && c.exceptionTable.isEmpty && decide (c.maxStack ≤ mostOperands) && decide (meth.sig.returnType = rt) && !meth.locks && decide (parseMethodDescriptor y.desc = some meth.sig)) = true) : (Jvm.Cond.code y bytes mx rt).before a s = true := by
  simp only [Bool.and_eq_true, beq_iff_eq, Bool.not_eq_true', decide_eq_true_eq] at h5
  obtain ⟨⟨⟨⟨⟨g1, g2⟩, g3⟩, g4⟩, g5⟩, g6⟩ := h5
  simp [Cond.before, Cond.holds, Cond.value, h1, h2, h3, h4, g1, g2, g3, g4, g5, g6]
def isCode : Jvm.Cond → Bool
  | .code _ _ _ _ => true
  | _ => false
theorem all_split {L : List Jvm.Cond} {P : Jvm.Cond → Bool} (h1 : L.all (fun c => isCode c || P c) = true) (h2 : ∀ c ∈ L.filter isCode, P c = true) : L.all P = true := by
  refine List.all_eq_true.mpr fun c hc => ?_
  have h := List.all_eq_true.mp h1 c hc
  rcases Bool.eq_false_or_eq_true (isCode c) with hi | hi
  · exact h2 c (List.mem_filter.mpr ⟨hc, hi⟩)
  · simpa [hi] using h
set_option maxRecDepth 65536 in
theorem w_c0 : (Jvm.Cond.code x code maxLocals ret).before args0 about1 = true := code_word (m := ⟨1, 1⟩) (meth := k1m1) (c := k1c1) (by decide +kernel) rfl rfl rfl (by decide +kernel)
set_option maxRecDepth 65536 in
theorem w_c1 : (Jvm.Cond.code ({ cls := "com/example/railbook/railbook/http/Syntax", name := "isLetterOrDigit", desc := "(C)Z" } : Jvm.MethodName) prog_14_method_2_code (1 : Nat) (Option.some Jvm.ClassFile.FieldType.boolean)).before args0 about1 = true := code_word (m := ⟨2, 1⟩) (meth := k2m1) (c := k2c1) (by decide +kernel) rfl rfl rfl (by decide +kernel)
def codes1 : List Jvm.Cond := [Jvm.Cond.code x code maxLocals ret, Jvm.Cond.code ({ cls := "com/example/railbook/railbook/http/Syntax", name := "isLetterOrDigit", desc := "(C)Z" } : Jvm.MethodName) prog_14_method_2_code (1 : Nat) (Option.some Jvm.ClassFile.FieldType.boolean)]
set_option maxRecDepth 65536 in
theorem codes_eq : words1.filter isCode = codes1 := rfl
theorem w_codes : ∀ c ∈ words1.filter isCode, c.before args0 about1 = true := by
  rw [codes_eq]
  intro c hc
  simp only [codes1, List.mem_cons, List.not_mem_nil, or_false] at hc
  rcases hc with rfl | rfl
  · exact w_c0
  · exact w_c1
set_option maxRecDepth 65536 in
theorem w_t1 : words1.all (fun c => isCode c || c.before args0 about1) = true := by decide +kernel
theorem w_tables : (allAtoms (Jvm.Cond.code x code maxLocals ret :: tables_1)).before args0 about1 = true := by
  rw [allAtoms_all]
  show words1.all (fun c => c.before args0 about1) = true
  refine all_split ?_ w_codes
  rw [w_t1]
set_option maxRecDepth 65536 in
theorem w_case : (Jvm.Cond.and given_1 narrow_1).before args0 about1 = true := by decide +kernel
theorem w_applies : (headSpec (Jvm.Cond.code x code maxLocals ret :: tables_1) room_1).applies x e0.platform about1 = true :=
  (Spec.applies_iff w_frames).mpr ⟨w_running, w_runnable, w_alone, w_named, w_hears, w_ripe, w_room, w_tables⟩
theorem atStart : AtStart classFile x code maxLocals ret World_1 tables_1 room_1 Calls_1 rest_1 Pre_1 launch0 p0 e0 about1 theMethod args0 below0 :=
  ⟨lists_1, trivial, launch0.admits_env _ _ _, launch0.least_env, fairChoices_fair.cas, fairChoices_fair.clock, w_frames, w_args, w_heap, w_applies, trivial, trivial, w_case⟩
end start1
theorem witness_1 : WitnessClaimed_1 := ⟨start1.p0, start1.e0, start1.about1, start1.theMethod, start1.args0, start1.below0, start1.atStart⟩
end Jvm.Pilot.@@N@@
