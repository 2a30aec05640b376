import JvmDerived
import JvmDerived.Pilot.@@N@@Statement
import JvmDerived.Pilot.@@N@@Code
set_option linter.unusedVariables false
set_option linter.unusedSimpArgs false
@@BLOCK:NumsL.lean.txt@@
namespace Jvm.RoadKit
open Sem ClassFile Op Lib Jvm.Stand Jvm.Free Jvm.LawKit
section New
variable {p : Program} {l : Launch} {e : Env} {R : Room} {s : State} {m : MethodId} {args : Array Value} {below : List Frame} {meth : Method} {c : Code} {T : State} {locs : List Loc} {cells slots : Nat}
theorem retI (X : Stand p l e R s m args below meth c T locs cells slots) (hx : p.tables.exec = Jvm.exec) {pc : Nat} {Ls : Array Slot} {z : Int32} {rest : List Value} (hret : meth.sig.returnType = some .int) (hd : decode c.code pc = .ok (.ireturn, 1)) {fs : List Frame}
    (hl : ∀ (f : JFrame) (acts : List Action), f.method = m → f.locked = none → f.entered = [] → (doReturn e (T.setTop f) acts (some (.int z))).1 = T.setFrames fs) : Steps p.tables e below (T.setTop (mkF m pc Ls (.int z :: rest))) (T.setFrames fs) := by
  have hm' : T.vm.method? m = some meth := X.method'
  have hn : narrow .int (.int z) = .int z := rfl
  show Steps p.tables e below (T.setTop { method := m, pc := pc, locals := Ls, stack := _ :: rest, locked := none }) _
  jvm_step X.here [X.here.top, hx, hd, hm', hret, hn]
  first | (intro acts; rw [hl _ acts rfl rfl rfl]) | rw [hl _ _ rfl rfl rfl]
  exact Steps.refl _
end New
end Jvm.RoadKit
namespace Jvm.Pilot.@@N@@
open Jvm Jvm.ClassFile Sem Op Lib Jvm.Free Jvm.Stand Jvm.LawKit Jvm.RoadKit Bundle Jvm.Pilot.@@N@@.Jvm.D

-- small naturals as ints
theorem own_lt {i n : Nat} (h : i < n) (hn : n ≤ 255) : Int32.ofNat i < Int32.ofNat n := by
  rw [Int32.lt_iff_toInt_lt, Int32.toInt_ofNat_of_lt (by omega), Int32.toInt_ofNat_of_lt (by omega)]
  omega
theorem own_nlt {i n : Nat} (h : ¬ i < n) (hi : i ≤ 255) (hn : n ≤ 255) : ¬ Int32.ofNat i < Int32.ofNat n := by
  rw [Int32.lt_iff_toInt_lt, Int32.toInt_ofNat_of_lt (by omega), Int32.toInt_ofNat_of_lt (by omega)]
  omega
theorem own_nn {n : Nat} (hn : n ≤ 255) : ¬ Int32.ofNat n < 0 := by
  rw [Int32.lt_iff_toInt_lt, Int32.toInt_ofNat_of_lt (by omega), show (0 : Int32).toInt = 0 from rfl]
  omega
theorem own_n32 {n : Nat} (hn : n ≤ 255) : (Int32.ofNat n).toNatClampNeg = n := by
  rw [Int32.toNatClampNeg, Int32.toInt_ofNat_of_lt (by omega)]; rfl
theorem own_ne {i j : Nat} (h : i ≠ j) (hi : i ≤ 255) (hj : j ≤ 255) : ¬ Int32.ofNat i = Int32.ofNat j := fun q => h (by
  have u := congrArg Int32.toNatClampNeg q
  rwa [own_n32 hi, own_n32 hj] at u)
theorem own_m3 (x : Int32) : ∃ a : Nat, a < 4 ∧ (x &&& (3 : Int32)) = Int32.ofNat a := by
  have h := Jvm.Kit.i32_mask x 3 (k := 2) (by decide) (by decide)
  refine ⟨(x.toInt % 2 ^ 2).toNat, by omega, ?_⟩
  apply Int32.toInt_inj.mp
  rw [h, Int32.toInt_ofNat_of_lt (by omega)]; omega
-- roots in plain words: parents and labels as lists of four naturals
def own_get (P : List Nat) (i : Nat) : Nat := P.getD i 0
def own_find (P : List Nat) : Nat → Nat → Nat
  | 0, i => i
  | k + 1, i => if own_get P i = i then i else own_find P k (own_get P i)
def own_fnd (P : List Nat) (i : Nat) : Nat := own_find P 4 i
def own_merge (P : List Nat) (a b : Nat) : List Nat := if own_fnd P a = own_fnd P b then P else P.set (max (own_fnd P a) (own_fnd P b)) (min (own_fnd P a) (own_fnd P b))
def own_re (L : List Nat) (x y m i : Nat) : List Nat := if own_get L i = x ∨ own_get L i = y then L.set i m else L
def own_lbl (L : List Nat) (x y : Nat) : List Nat := own_re (own_re (own_re (own_re L x y (min x y) 0) x y (min x y) 1) x y (min x y) 2) x y (min x y) 3
def OK (P L : List Nat) : Prop := P.length = 4 ∧ (∀ j, j < 4 → own_get P j ≤ j) ∧ L = (List.range 4).map (own_fnd P)
theorem own_chk : ∀ (x : Fin 2) (y : Fin 3) (z : Fin 4) (a b : Fin 4), (own_merge [0, x.val, y.val, z.val] a.val b.val).length = 4 ∧ (∀ j : Fin 4, own_get (own_merge [0, x.val, y.val, z.val] a.val b.val) j.val ≤ j.val) ∧ own_lbl ((List.range 4).map (own_fnd [0, x.val, y.val, z.val])) (own_fnd [0, x.val, y.val, z.val] a.val) (own_fnd [0, x.val, y.val, z.val] b.val) = (List.range 4).map (own_fnd (own_merge [0, x.val, y.val, z.val] a.val b.val)) := by decide +kernel
theorem own_le : ∀ (x : Fin 2) (y : Fin 3) (z : Fin 4) (a : Fin 4), own_fnd [0, x.val, y.val, z.val] a.val ≤ a.val := by decide +kernel
theorem own_shape {P : List Nat} (h : P.length = 4) (hv : ∀ j, j < 4 → own_get P j ≤ j) : ∃ x y z : Nat, x < 2 ∧ y < 3 ∧ z < 4 ∧ P = [0, x, y, z] := by
  match P, h with
  | [p, x, y, z], _ =>
    have h0 : p ≤ 0 := hv 0 (by omega)
    have h1 : x ≤ 1 := hv 1 (by omega)
    have h2 : y ≤ 2 := hv 2 (by omega)
    have h3 : z ≤ 3 := hv 3 (by omega)
    have e : p = 0 := by omega
    subst e
    exact ⟨x, y, z, by omega, by omega, by omega, rfl⟩
theorem OK.at {P L : List Nat} (h : OK P L) {i : Nat} (hi : i < 4) : own_get L i = own_fnd P i := by
  rw [h.2.2]
  have : i = 0 ∨ i = 1 ∨ i = 2 ∨ i = 3 := by omega
  rcases this with rfl | rfl | rfl | rfl <;> rfl
theorem OK.fnd {P L : List Nat} (h : OK P L) {i : Nat} (hi : i < 4) : own_fnd P i ≤ i := by
  obtain ⟨x, y, z, h1, h2, h3, rfl⟩ := own_shape h.1 h.2.1
  exact own_le ⟨x, h1⟩ ⟨y, h2⟩ ⟨z, h3⟩ ⟨i, hi⟩
theorem OK.len {P L : List Nat} (h : OK P L) : L.length = 4 := by rw [h.2.2]; rfl
theorem OK.step {P L : List Nat} (h : OK P L) {a b : Nat} (ha : a < 4) (hb : b < 4) : OK (own_merge P a b) (own_lbl L (own_get L a) (own_get L b)) := by
  rw [h.at ha, h.at hb]
  obtain ⟨k1, k2, k3⟩ := h
  obtain ⟨x, y, z, h1, h2, h3, rfl⟩ := own_shape k1 k2
  obtain ⟨q1, q2, q3⟩ := own_chk ⟨x, h1⟩ ⟨y, h2⟩ ⟨z, h3⟩ ⟨a, ha⟩ ⟨b, hb⟩
  refine ⟨q1, fun j hj => q2 ⟨j, hj⟩, ?_⟩
  rw [k3]; exact q3
theorem own_get_set {P : List Nat} {i : Nat} (h : i < P.length) (x j : Nat) : own_get (P.set i x) j = if j = i then x else own_get P j := by
  unfold own_get
  simp only [List.getD_eq_getElem?_getD]
  by_cases q : j = i
  · subst q; rw [List.getElem?_set_self h, if_pos rfl]; rfl
  · rw [List.getElem?_set_ne (fun u => q u.symm), if_neg q]
theorem own_re_len (L : List Nat) (x y m i : Nat) : (own_re L x y m i).length = L.length := by
  unfold own_re; split
  · exact List.length_set
  · rfl
-- what is known of an int array of four, of the classes' object, of all together
def IA (Z : State) (h : Heap) (v : Addr) (P : List Nat) : Prop := ∃ c : Cell, Arr Z h v c .int ∧ c.slots.size = 4 ∧ ∀ j, j < 4 → c.slots[j]? = some (.int (Int32.ofNat (own_get P j)))
def RC (Z : State) (h : Heap) (n0 : Nat) (r v : Addr) (P : List Nat) : Prop := n0 ≤ r ∧ n0 ≤ v ∧ r ≠ v ∧ Exa Z h r "org/refold/RootClasses" ∧ Fld Z h r "org/refold/RootClasses" "parent" "[I" (.ref v) ∧ IA Z h v P
def LS (Z : State) (h : Heap) (n0 : Nat) (r v b : Addr) (P L : List Nat) : Prop := OK P L ∧ RC Z h n0 r v P ∧ IA Z h b L ∧ n0 ≤ b ∧ r ≠ b ∧ v ≠ b
theorem IA.lt {Z : State} {h : Heap} {v : Addr} {P : List Nat} (H : IA Z h v P) : v < h.size := by obtain ⟨c, A, -⟩ := H; exact A.lt
theorem IA.keep {Z : State} {h h' : Heap} {v : Addr} {P : List Nat} {ws : List Addr} (H : IA Z h v P) (K : Keep h h' ws) (q : v ∉ ws) : IA Z h' v P := by
  obtain ⟨c, A, r⟩ := H; exact ⟨c, ⟨K.2.1 v c A.1 q, A.2⟩, r⟩
theorem IA.ext {Z : State} {h h' : Heap} {v : Addr} {P : List Nat} (H : IA Z h v P) (E : Ext h h') : IA Z h' v P := by
  obtain ⟨c, A, r⟩ := H; exact ⟨c, A.ext E, r⟩
theorem IA.other {Z : State} {h h' : Heap} {v a : Addr} {P : List Nat} {sl : Nat} {x : Value} (H : IA Z h v P) (W : Wr h h' a sl x) (q : v ≠ a) : IA Z h' v P := by
  obtain ⟨c, A, r⟩ := H; exact ⟨c, A.other W q, r⟩
theorem own_slot (c : Cell) (n k : Nat) (v : Value) (hn : n < c.slots.size) : (c.setSlot n v).slots[k]? = if k = n then some v else c.slots[k]? := by
  show (c.slots.setIfInBounds n v)[k]? = _
  rw [Array.getElem?_setIfInBounds]
  by_cases q : k = n
  · subst q; rw [if_pos rfl, if_pos rfl, if_pos hn]
  · rw [if_neg (fun u => q u.symm), if_neg q]
theorem IA.set {Z : State} {h h' : Heap} {v : Addr} {P : List Nat} {c : Cell} {i x n : Nat} (hP : P.length = 4) (hi : i < 4) (A : Arr Z h v c .int) (S : c.slots.size = 4) (H : ∀ j, j < 4 → c.slots[j]? = some (.int (Int32.ofNat (own_get P j)))) (hn : n = i) (W : Wr h h' v n (.int (Int32.ofNat x))) : IA Z h' v (P.set i x) := by
  subst hn
  refine ⟨_, A.same W, by rw [sz_set]; exact S, fun j hj => ?_⟩
  rw [own_slot c n j _ (by omega), own_get_set (by omega) x j]
  by_cases q : j = n
  · rw [if_pos q, if_pos q]
  · rw [if_neg q, if_neg q]; exact H j hj
theorem IA.of {Z : State} {h : Heap} {v : Addr} {k : ClassId} {vs : List Value} {P : List Nat} (V : Arv Z h v k .int (4 : Int32) vs (.int (0 : Int32))) (q : ∀ j, j < 4 → vs.getD j (.int (0 : Int32)) = .int (Int32.ofNat (own_get P j))) : IA Z h v P := by
  obtain ⟨c, A, -, S, -, H, -⟩ := V
  have S4 : c.slots.size = 4 := by rw [S]; decide
  exact ⟨c, A, S4, fun j hj => by rw [H j (by omega), q j hj]⟩
theorem RC.sz {Z : State} {h : Heap} {n0 : Nat} {r v : Addr} {P : List Nat} (H : RC Z h n0 r v P) : n0 ≤ h.size := Nat.le_trans H.1 (Nat.le_of_lt H.2.2.2.1.lt)
theorem RC.keep {Z : State} {h h' : Heap} {n0 : Nat} {r v : Addr} {P : List Nat} {ws : List Addr} (H : RC Z h n0 r v P) (K : Keep h h' ws) (q1 : r ∉ ws) (q2 : v ∉ ws) : RC Z h' n0 r v P := by
  obtain ⟨a1, a2, a3, a4, a5, a6⟩ := H; exact ⟨a1, a2, a3, a4.keep K, a5.keep K q1, a6.keep K q2⟩
theorem RC.ext {Z : State} {h h' : Heap} {n0 : Nat} {r v : Addr} {P : List Nat} (H : RC Z h n0 r v P) (E : Ext h h') : RC Z h' n0 r v P := by
  obtain ⟨a1, a2, a3, a4, a5, a6⟩ := H; exact ⟨a1, a2, a3, a4.ext E, a5.ext E, a6.ext E⟩
theorem RC.other {Z : State} {h h' : Heap} {n0 : Nat} {r v a : Addr} {P : List Nat} {sl : Nat} {x : Value} (H : RC Z h n0 r v P) (W : Wr h h' a sl x) (q1 : r ≠ a) (q2 : v ≠ a) : RC Z h' n0 r v P := by
  obtain ⟨a1, a2, a3, a4, a5, a6⟩ := H; exact ⟨a1, a2, a3, a4.wr W, a5.other W (Or.inl q1), a6.other W q2⟩

theorem d1_0 : decode prog_24_method_1_code 0 = .ok (.aload_n 0, 1) := by decide +kernel
theorem d1_1 : decode prog_24_method_1_code 1 = .ok (.invokespecial 1, 3) := by decide +kernel
theorem d1_4 : decode prog_24_method_1_code 4 = .ok (.aload_n 0, 1) := by decide +kernel
theorem d1_5 : decode prog_24_method_1_code 5 = .ok (.iload_n 1, 1) := by decide +kernel
theorem d1_6 : decode prog_24_method_1_code 6 = .ok (.newarray .int, 2) := by decide +kernel
theorem d1_8 : decode prog_24_method_1_code 8 = .ok (.putfield 7, 3) := by decide +kernel
theorem d1_11 : decode prog_24_method_1_code 11 = .ok (.iconst 0, 1) := by decide +kernel
theorem d1_12 : decode prog_24_method_1_code 12 = .ok (.istore_n 2, 1) := by decide +kernel
theorem d1_13 : decode prog_24_method_1_code 13 = .ok (.iload_n 2, 1) := by decide +kernel
theorem d1_14 : decode prog_24_method_1_code 14 = .ok (.iload_n 1, 1) := by decide +kernel
theorem d1_15 : decode prog_24_method_1_code 15 = .ok (.if_icmp .ge 16, 3) := by decide +kernel
theorem d1_18 : decode prog_24_method_1_code 18 = .ok (.aload_n 0, 1) := by decide +kernel
theorem d1_19 : decode prog_24_method_1_code 19 = .ok (.getfield 7, 3) := by decide +kernel
theorem d1_22 : decode prog_24_method_1_code 22 = .ok (.iload_n 2, 1) := by decide +kernel
theorem d1_23 : decode prog_24_method_1_code 23 = .ok (.iload_n 2, 1) := by decide +kernel
theorem d1_24 : decode prog_24_method_1_code 24 = .ok (.iastore, 1) := by decide +kernel
theorem d1_25 : decode prog_24_method_1_code 25 = .ok (.iinc 2 1, 3) := by decide +kernel
theorem d1_28 : decode prog_24_method_1_code 28 = .ok (.goto (-15), 3) := by decide +kernel
theorem d1_31 : decode prog_24_method_1_code 31 = .ok (.return_, 1) := by decide +kernel
theorem pn_1 : plainName "org/refold/RootClasses" = true := by first | (simp [plainName, overriddenIn]; done) | decide +kernel
theorem ef_1 (m : MethodId) (x0 : Addr) (x1 : Int32) : entryFrame m #[(.ref x0), (.int x1)] 3 = mkF m 0 #[.val (.ref x0), .val (.int x1), .unset] [] := by first | (simp [entryFrame, mkF, argsToLocals, Value.category]; done) | rfl
theorem d4_0 : decode jdk_29_method_69_code 0 = .ok (.iload_n 0, 1) := by decide +kernel
theorem d4_1 : decode jdk_29_method_69_code 1 = .ok (.iload_n 1, 1) := by decide +kernel
theorem d4_2 : decode jdk_29_method_69_code 2 = .ok (.if_icmp .gt 7, 3) := by decide +kernel
theorem d4_5 : decode jdk_29_method_69_code 5 = .ok (.iload_n 0, 1) := by decide +kernel
theorem d4_6 : decode jdk_29_method_69_code 6 = .ok (.goto 4, 3) := by decide +kernel
theorem d4_10 : decode jdk_29_method_69_code 10 = .ok (.ireturn, 1) := by decide +kernel
theorem ef_4 (m : MethodId) (x0 : Int32) (x1 : Int32) : entryFrame m #[(.int x0), (.int x1)] 2 = mkF m 0 #[.val (.int x0), .val (.int x1)] [] := by first | (simp [entryFrame, mkF, argsToLocals, Value.category]; done) | rfl
theorem d4_9 : decode jdk_29_method_69_code 9 = .ok (.iload_n 1, 1) := by decide +kernel
theorem d7_0 : decode jdk_29_method_65_code 0 = .ok (.iload_n 0, 1) := by decide +kernel
theorem d7_1 : decode jdk_29_method_65_code 1 = .ok (.iload_n 1, 1) := by decide +kernel
theorem d7_2 : decode jdk_29_method_65_code 2 = .ok (.if_icmp .lt 7, 3) := by decide +kernel
theorem d7_5 : decode jdk_29_method_65_code 5 = .ok (.iload_n 0, 1) := by decide +kernel
theorem d7_6 : decode jdk_29_method_65_code 6 = .ok (.goto 4, 3) := by decide +kernel
theorem d7_10 : decode jdk_29_method_65_code 10 = .ok (.ireturn, 1) := by decide +kernel
theorem ef_7 (m : MethodId) (x0 : Int32) (x1 : Int32) : entryFrame m #[(.int x0), (.int x1)] 2 = mkF m 0 #[.val (.int x0), .val (.int x1)] [] := by first | (simp [entryFrame, mkF, argsToLocals, Value.category]; done) | rfl
theorem d7_9 : decode jdk_29_method_65_code 9 = .ok (.iload_n 1, 1) := by decide +kernel
theorem d6_2 : decode prog_24_method_2_code 2 = .ok (.aload_n 0, 1) := by decide +kernel
theorem d6_3 : decode prog_24_method_2_code 3 = .ok (.getfield 7, 3) := by decide +kernel
theorem d6_6 : decode prog_24_method_2_code 6 = .ok (.iload_n 2, 1) := by decide +kernel
theorem d6_7 : decode prog_24_method_2_code 7 = .ok (.iaload, 1) := by decide +kernel
theorem d6_8 : decode prog_24_method_2_code 8 = .ok (.iload_n 2, 1) := by decide +kernel
theorem d6_9 : decode prog_24_method_2_code 9 = .ok (.if_icmp .eq 13, 3) := by decide +kernel
theorem d6_12 : decode prog_24_method_2_code 12 = .ok (.aload_n 0, 1) := by decide +kernel
theorem d6_13 : decode prog_24_method_2_code 13 = .ok (.getfield 7, 3) := by decide +kernel
theorem d6_16 : decode prog_24_method_2_code 16 = .ok (.iload_n 2, 1) := by decide +kernel
theorem d6_17 : decode prog_24_method_2_code 17 = .ok (.iaload, 1) := by decide +kernel
theorem d6_18 : decode prog_24_method_2_code 18 = .ok (.istore_n 2, 1) := by decide +kernel
theorem d6_19 : decode prog_24_method_2_code 19 = .ok (.goto (-17), 3) := by decide +kernel
theorem d6_0 : decode prog_24_method_2_code 0 = .ok (.iload_n 1, 1) := by decide +kernel
theorem d6_1 : decode prog_24_method_2_code 1 = .ok (.istore_n 2, 1) := by decide +kernel
theorem os6_1_8 {s0 : Slot} {z1 : Value} {s2 : Slot} {v : Int32} (h : One s2) : storeLocals #[s0, .val z1, s2] 2 (.int v) = some #[s0, .val z1, .val (.int v)] := by
  rcases h with rfl | ⟨w, rfl, hw⟩
  · rfl
  · cases w <;> first | rfl | (simp [Value.category] at hw)
theorem d6_22 : decode prog_24_method_2_code 22 = .ok (.iload_n 2, 1) := by decide +kernel
theorem d6_23 : decode prog_24_method_2_code 23 = .ok (.ireturn, 1) := by decide +kernel
theorem pn_6 : plainName "org/refold/RootClasses" = true := by first | (simp [plainName, overriddenIn]; done) | decide +kernel
theorem ef_6 (m : MethodId) (x0 : Addr) (x1 : Int32) : entryFrame m #[(.ref x0), (.int x1)] 3 = mkF m 0 #[.val (.ref x0), .val (.int x1), .unset] [] := by first | (simp [entryFrame, mkF, argsToLocals, Value.category]; done) | rfl
theorem d5_0 : decode prog_24_method_3_code 0 = .ok (.aload_n 0, 1) := by decide +kernel
theorem d5_1 : decode prog_24_method_3_code 1 = .ok (.iload_n 1, 1) := by decide +kernel
theorem d5_2 : decode prog_24_method_3_code 2 = .ok (.invokevirtual 13, 3) := by decide +kernel
theorem d5_5 : decode prog_24_method_3_code 5 = .ok (.istore_n 3, 1) := by decide +kernel
theorem d5_6 : decode prog_24_method_3_code 6 = .ok (.aload_n 0, 1) := by decide +kernel
theorem d5_7 : decode prog_24_method_3_code 7 = .ok (.iload_n 2, 1) := by decide +kernel
theorem d5_8 : decode prog_24_method_3_code 8 = .ok (.invokevirtual 13, 3) := by decide +kernel
theorem d5_11 : decode prog_24_method_3_code 11 = .ok (.istore 4, 2) := by decide +kernel
theorem d5_13 : decode prog_24_method_3_code 13 = .ok (.iload_n 3, 1) := by decide +kernel
theorem d5_14 : decode prog_24_method_3_code 14 = .ok (.iload 4, 2) := by decide +kernel
theorem d5_16 : decode prog_24_method_3_code 16 = .ok (.if_icmp .ne 5, 3) := by decide +kernel
theorem d5_19 : decode prog_24_method_3_code 19 = .ok (.iconst 0, 1) := by decide +kernel
theorem d5_20 : decode prog_24_method_3_code 20 = .ok (.ireturn, 1) := by decide +kernel
theorem pn_5 : plainName "org/refold/RootClasses" = true := by first | (simp [plainName, overriddenIn]; done) | decide +kernel
theorem pdq_0 : parseMethodDescriptor "(I)I" = some ⟨[.int], some .int⟩ := by decide +kernel
theorem ef_5 (m : MethodId) (x0 : Addr) (x1 : Int32) (x2 : Int32) : entryFrame m #[(.ref x0), (.int x1), (.int x2)] 5 = mkF m 0 #[.val (.ref x0), .val (.int x1), .val (.int x2), .unset, .unset] [] := by first | (simp [entryFrame, mkF, argsToLocals, Value.category]; done) | rfl
theorem d5_21 : decode prog_24_method_3_code 21 = .ok (.aload_n 0, 1) := by decide +kernel
theorem d5_22 : decode prog_24_method_3_code 22 = .ok (.getfield 7, 3) := by decide +kernel
theorem d5_25 : decode prog_24_method_3_code 25 = .ok (.iload_n 3, 1) := by decide +kernel
theorem d5_26 : decode prog_24_method_3_code 26 = .ok (.iload 4, 2) := by decide +kernel
theorem d5_28 : decode prog_24_method_3_code 28 = .ok (.invokestatic 17, 3) := by decide +kernel
theorem d5_31 : decode prog_24_method_3_code 31 = .ok (.iload_n 3, 1) := by decide +kernel
theorem d5_32 : decode prog_24_method_3_code 32 = .ok (.iload 4, 2) := by decide +kernel
theorem d5_34 : decode prog_24_method_3_code 34 = .ok (.invokestatic 23, 3) := by decide +kernel
theorem d5_37 : decode prog_24_method_3_code 37 = .ok (.iastore, 1) := by decide +kernel
theorem d5_38 : decode prog_24_method_3_code 38 = .ok (.iconst 1, 1) := by decide +kernel
theorem d5_39 : decode prog_24_method_3_code 39 = .ok (.ireturn, 1) := by decide +kernel
theorem pdq_1 : parseMethodDescriptor "(II)I" = some ⟨[.int, .int], some .int⟩ := by decide +kernel
theorem d3_0 : decode method_3_code 0 = .ok (.iload_n 2, 1) := by decide +kernel
theorem d3_1 : decode method_3_code 1 = .ok (.iconst 3, 1) := by decide +kernel
theorem d3_2 : decode method_3_code 2 = .ok (.iand, 1) := by decide +kernel
theorem d3_3 : decode method_3_code 3 = .ok (.istore_n 3, 1) := by decide +kernel
theorem d3_4 : decode method_3_code 4 = .ok (.iload_n 2, 1) := by decide +kernel
theorem d3_5 : decode method_3_code 5 = .ok (.iconst 2, 1) := by decide +kernel
theorem d3_6 : decode method_3_code 6 = .ok (.iushr, 1) := by decide +kernel
theorem d3_7 : decode method_3_code 7 = .ok (.iconst 3, 1) := by decide +kernel
theorem d3_8 : decode method_3_code 8 = .ok (.iand, 1) := by decide +kernel
theorem d3_9 : decode method_3_code 9 = .ok (.istore 4, 2) := by decide +kernel
theorem d3_11 : decode method_3_code 11 = .ok (.aload_n 1, 1) := by decide +kernel
theorem d3_12 : decode method_3_code 12 = .ok (.iload_n 3, 1) := by decide +kernel
theorem d3_13 : decode method_3_code 13 = .ok (.iaload, 1) := by decide +kernel
theorem d3_14 : decode method_3_code 14 = .ok (.istore 5, 2) := by decide +kernel
theorem d3_16 : decode method_3_code 16 = .ok (.aload_n 1, 1) := by decide +kernel
theorem d3_17 : decode method_3_code 17 = .ok (.iload 4, 2) := by decide +kernel
theorem d3_19 : decode method_3_code 19 = .ok (.iaload, 1) := by decide +kernel
theorem d3_20 : decode method_3_code 20 = .ok (.istore 6, 2) := by decide +kernel
theorem os3_3_13 {s0 : Slot} {z1 : Value} {z2 : Value} {s3 : Slot} {s4 : Slot} {s5 : Slot} {s6 : Slot} {s7 : Slot} {s8 : Slot} {s9 : Slot} {v : Int32} (h : One s3) : storeLocals #[s0, .val z1, .val z2, s3, s4, s5, s6, s7, s8, s9] 3 (.int v) = some #[s0, .val z1, .val z2, .val (.int v), s4, s5, s6, s7, s8, s9] := by
  rcases h with rfl | ⟨w, rfl, hw⟩
  · rfl
  · cases w <;> first | rfl | (simp [Value.category] at hw)
theorem os3_9_13 {s0 : Slot} {z1 : Value} {z2 : Value} {z3 : Value} {s4 : Slot} {s5 : Slot} {s6 : Slot} {s7 : Slot} {s8 : Slot} {s9 : Slot} {v : Int32} (h : One s4) : storeLocals #[s0, .val z1, .val z2, .val z3, s4, s5, s6, s7, s8, s9] 4 (.int v) = some #[s0, .val z1, .val z2, .val z3, .val (.int v), s5, s6, s7, s8, s9] := by
  rcases h with rfl | ⟨w, rfl, hw⟩
  · rfl
  · cases w <;> first | rfl | (simp [Value.category] at hw)
theorem os3_14_13 {s0 : Slot} {z1 : Value} {z2 : Value} {z3 : Value} {z4 : Value} {s5 : Slot} {s6 : Slot} {s7 : Slot} {s8 : Slot} {s9 : Slot} {v : Int32} (h : One s5) : storeLocals #[s0, .val z1, .val z2, .val z3, .val z4, s5, s6, s7, s8, s9] 5 (.int v) = some #[s0, .val z1, .val z2, .val z3, .val z4, .val (.int v), s6, s7, s8, s9] := by
  rcases h with rfl | ⟨w, rfl, hw⟩
  · rfl
  · cases w <;> first | rfl | (simp [Value.category] at hw)
theorem os3_20_13 {s0 : Slot} {z1 : Value} {z2 : Value} {z3 : Value} {z4 : Value} {z5 : Value} {s6 : Slot} {s7 : Slot} {s8 : Slot} {s9 : Slot} {v : Int32} (h : One s6) : storeLocals #[s0, .val z1, .val z2, .val z3, .val z4, .val z5, s6, s7, s8, s9] 6 (.int v) = some #[s0, .val z1, .val z2, .val z3, .val z4, .val z5, .val (.int v), s7, s8, s9] := by
  rcases h with rfl | ⟨w, rfl, hw⟩
  · rfl
  · cases w <;> first | rfl | (simp [Value.category] at hw)
theorem d3_22 : decode method_3_code 22 = .ok (.iload 5, 2) := by decide +kernel
theorem d3_24 : decode method_3_code 24 = .ok (.iload 6, 2) := by decide +kernel
theorem d3_26 : decode method_3_code 26 = .ok (.if_icmp .eq 7, 3) := by decide +kernel
theorem d3_29 : decode method_3_code 29 = .ok (.iconst 1, 1) := by decide +kernel
theorem d3_30 : decode method_3_code 30 = .ok (.goto 4, 3) := by decide +kernel
theorem d3_34 : decode method_3_code 34 = .ok (.istore 7, 2) := by decide +kernel
theorem os3_34_14 {s0 : Slot} {s1 : Slot} {s2 : Slot} {s3 : Slot} {s4 : Slot} {z5 : Value} {z6 : Value} {s7 : Slot} {s8 : Slot} {s9 : Slot} {v : Int32} (h : One s7) : storeLocals #[s0, s1, s2, s3, s4, .val z5, .val z6, s7, s8, s9] 7 (.int v) = some #[s0, s1, s2, s3, s4, .val z5, .val z6, .val (.int v), s8, s9] := by
  rcases h with rfl | ⟨w, rfl, hw⟩
  · rfl
  · cases w <;> first | rfl | (simp [Value.category] at hw)
theorem d3_33 : decode method_3_code 33 = .ok (.iconst 0, 1) := by decide +kernel
theorem os3_34_15 {s0 : Slot} {s1 : Slot} {s2 : Slot} {s3 : Slot} {s4 : Slot} {z5 : Value} {z6 : Value} {s7 : Slot} {s8 : Slot} {s9 : Slot} {v : Int32} (h : One s7) : storeLocals #[s0, s1, s2, s3, s4, .val z5, .val z6, s7, s8, s9] 7 (.int v) = some #[s0, s1, s2, s3, s4, .val z5, .val z6, .val (.int v), s8, s9] := by
  rcases h with rfl | ⟨w, rfl, hw⟩
  · rfl
  · cases w <;> first | rfl | (simp [Value.category] at hw)
theorem d3_36 : decode method_3_code 36 = .ok (.iload 5, 2) := by decide +kernel
theorem d3_38 : decode method_3_code 38 = .ok (.iload 6, 2) := by decide +kernel
theorem d3_40 : decode method_3_code 40 = .ok (.invokestatic 22, 3) := by decide +kernel
theorem d3_43 : decode method_3_code 43 = .ok (.istore 8, 2) := by decide +kernel
theorem os3_43_16 {s0 : Slot} {s1 : Slot} {s2 : Slot} {s3 : Slot} {s4 : Slot} {z5 : Value} {z6 : Value} {s7 : Slot} {s8 : Slot} {s9 : Slot} {v : Int32} (h : One s8) : storeLocals #[s0, s1, s2, s3, s4, .val z5, .val z6, s7, s8, s9] 8 (.int v) = some #[s0, s1, s2, s3, s4, .val z5, .val z6, s7, .val (.int v), s9] := by
  rcases h with rfl | ⟨w, rfl, hw⟩
  · rfl
  · cases w <;> first | rfl | (simp [Value.category] at hw)
theorem d3_45 : decode method_3_code 45 = .ok (.aload_n 1, 1) := by decide +kernel
theorem d3_46 : decode method_3_code 46 = .ok (.iconst 0, 1) := by decide +kernel
theorem d3_47 : decode method_3_code 47 = .ok (.iaload, 1) := by decide +kernel
theorem d3_48 : decode method_3_code 48 = .ok (.iload 5, 2) := by decide +kernel
theorem d3_50 : decode method_3_code 50 = .ok (.if_icmp .eq 11, 3) := by decide +kernel
theorem d3_53 : decode method_3_code 53 = .ok (.aload_n 1, 1) := by decide +kernel
theorem d3_54 : decode method_3_code 54 = .ok (.iconst 0, 1) := by decide +kernel
theorem d3_55 : decode method_3_code 55 = .ok (.iaload, 1) := by decide +kernel
theorem d3_56 : decode method_3_code 56 = .ok (.iload 6, 2) := by decide +kernel
theorem d3_58 : decode method_3_code 58 = .ok (.if_icmp .ne 8, 3) := by decide +kernel
theorem d3_61 : decode method_3_code 61 = .ok (.aload_n 1, 1) := by decide +kernel
theorem d3_62 : decode method_3_code 62 = .ok (.iconst 0, 1) := by decide +kernel
theorem d3_63 : decode method_3_code 63 = .ok (.iload 8, 2) := by decide +kernel
theorem d3_65 : decode method_3_code 65 = .ok (.iastore, 1) := by decide +kernel
theorem d3_66 : decode method_3_code 66 = .ok (.aload_n 1, 1) := by decide +kernel
theorem d3_67 : decode method_3_code 67 = .ok (.iconst 1, 1) := by decide +kernel
theorem d3_68 : decode method_3_code 68 = .ok (.iaload, 1) := by decide +kernel
theorem d3_69 : decode method_3_code 69 = .ok (.iload 5, 2) := by decide +kernel
theorem d3_71 : decode method_3_code 71 = .ok (.if_icmp .eq 11, 3) := by decide +kernel
theorem d3_74 : decode method_3_code 74 = .ok (.aload_n 1, 1) := by decide +kernel
theorem d3_75 : decode method_3_code 75 = .ok (.iconst 1, 1) := by decide +kernel
theorem d3_76 : decode method_3_code 76 = .ok (.iaload, 1) := by decide +kernel
theorem d3_77 : decode method_3_code 77 = .ok (.iload 6, 2) := by decide +kernel
theorem d3_79 : decode method_3_code 79 = .ok (.if_icmp .ne 8, 3) := by decide +kernel
theorem d3_82 : decode method_3_code 82 = .ok (.aload_n 1, 1) := by decide +kernel
theorem d3_83 : decode method_3_code 83 = .ok (.iconst 1, 1) := by decide +kernel
theorem d3_84 : decode method_3_code 84 = .ok (.iload 8, 2) := by decide +kernel
theorem d3_86 : decode method_3_code 86 = .ok (.iastore, 1) := by decide +kernel
theorem d3_87 : decode method_3_code 87 = .ok (.aload_n 1, 1) := by decide +kernel
theorem d3_88 : decode method_3_code 88 = .ok (.iconst 2, 1) := by decide +kernel
theorem d3_89 : decode method_3_code 89 = .ok (.iaload, 1) := by decide +kernel
theorem d3_90 : decode method_3_code 90 = .ok (.iload 5, 2) := by decide +kernel
theorem d3_92 : decode method_3_code 92 = .ok (.if_icmp .eq 11, 3) := by decide +kernel
theorem d3_95 : decode method_3_code 95 = .ok (.aload_n 1, 1) := by decide +kernel
theorem d3_96 : decode method_3_code 96 = .ok (.iconst 2, 1) := by decide +kernel
theorem d3_97 : decode method_3_code 97 = .ok (.iaload, 1) := by decide +kernel
theorem d3_98 : decode method_3_code 98 = .ok (.iload 6, 2) := by decide +kernel
theorem d3_100 : decode method_3_code 100 = .ok (.if_icmp .ne 8, 3) := by decide +kernel
theorem d3_103 : decode method_3_code 103 = .ok (.aload_n 1, 1) := by decide +kernel
theorem d3_104 : decode method_3_code 104 = .ok (.iconst 2, 1) := by decide +kernel
theorem d3_105 : decode method_3_code 105 = .ok (.iload 8, 2) := by decide +kernel
theorem d3_107 : decode method_3_code 107 = .ok (.iastore, 1) := by decide +kernel
theorem d3_108 : decode method_3_code 108 = .ok (.aload_n 1, 1) := by decide +kernel
theorem d3_109 : decode method_3_code 109 = .ok (.iconst 3, 1) := by decide +kernel
theorem d3_110 : decode method_3_code 110 = .ok (.iaload, 1) := by decide +kernel
theorem d3_111 : decode method_3_code 111 = .ok (.iload 5, 2) := by decide +kernel
theorem d3_113 : decode method_3_code 113 = .ok (.if_icmp .eq 11, 3) := by decide +kernel
theorem d3_116 : decode method_3_code 116 = .ok (.aload_n 1, 1) := by decide +kernel
theorem d3_117 : decode method_3_code 117 = .ok (.iconst 3, 1) := by decide +kernel
theorem d3_118 : decode method_3_code 118 = .ok (.iaload, 1) := by decide +kernel
theorem d3_119 : decode method_3_code 119 = .ok (.iload 6, 2) := by decide +kernel
theorem d3_121 : decode method_3_code 121 = .ok (.if_icmp .ne 8, 3) := by decide +kernel
theorem d3_124 : decode method_3_code 124 = .ok (.aload_n 1, 1) := by decide +kernel
theorem d3_125 : decode method_3_code 125 = .ok (.iconst 3, 1) := by decide +kernel
theorem d3_126 : decode method_3_code 126 = .ok (.iload 8, 2) := by decide +kernel
theorem d3_128 : decode method_3_code 128 = .ok (.iastore, 1) := by decide +kernel
theorem d3_129 : decode method_3_code 129 = .ok (.aload_n 0, 1) := by decide +kernel
theorem d3_130 : decode method_3_code 130 = .ok (.iload_n 3, 1) := by decide +kernel
theorem d3_131 : decode method_3_code 131 = .ok (.iload 4, 2) := by decide +kernel
theorem d3_133 : decode method_3_code 133 = .ok (.invokevirtual 28, 3) := by decide +kernel
theorem d3_136 : decode method_3_code 136 = .ok (.istore 9, 2) := by decide +kernel
theorem pdq_2 : parseMethodDescriptor "(II)Z" = some ⟨[.int, .int], some .boolean⟩ := by decide +kernel
theorem os3_136_33 {z0 : Value} {s1 : Slot} {s2 : Slot} {z3 : Value} {z4 : Value} {s5 : Slot} {s6 : Slot} {s7 : Slot} {s8 : Slot} {s9 : Slot} {v : Int32} (h : One s9) : storeLocals #[.val z0, s1, s2, .val z3, .val z4, s5, s6, s7, s8, s9] 9 (.int v) = some #[.val z0, s1, s2, .val z3, .val z4, s5, s6, s7, s8, .val (.int v)] := by
  rcases h with rfl | ⟨w, rfl, hw⟩
  · rfl
  · cases w <;> first | rfl | (simp [Value.category] at hw)
theorem d3_138 : decode method_3_code 138 = .ok (.iload 9, 2) := by decide +kernel
theorem d3_140 : decode method_3_code 140 = .ok (.iload 7, 2) := by decide +kernel
theorem d3_142 : decode method_3_code 142 = .ok (.if_icmp .ne 7, 3) := by decide +kernel
theorem d3_145 : decode method_3_code 145 = .ok (.iconst 1, 1) := by decide +kernel
theorem d3_146 : decode method_3_code 146 = .ok (.goto 4, 3) := by decide +kernel
theorem d3_150 : decode method_3_code 150 = .ok (.ireturn, 1) := by decide +kernel
theorem pn_3 : plainName "org/refold/RootClassesFindPinLaw" = true := by first | (simp [plainName, overriddenIn]; done) | decide +kernel
theorem ef_3 (m : MethodId) (x0 : Addr) (x1 : Addr) (x2 : Int32) : entryFrame m #[(.ref x0), (.ref x1), (.int x2)] 10 = mkF m 0 #[.val (.ref x0), .val (.ref x1), .val (.int x2), .unset, .unset, .unset, .unset, .unset, .unset, .unset] [] := by first | (simp [entryFrame, mkF, argsToLocals, Value.category]; done) | rfl
theorem pn_0 : plainName "org/refold/RootClassesFindPinLaw" = true := by first | (simp [plainName, overriddenIn]; done) | decide +kernel
theorem pdq_3 : parseMethodDescriptor "(I)V" = some ⟨[.int], none⟩ := by decide +kernel
theorem pdq_4 : parseMethodDescriptor "(Lorg/refold/RootClasses;[II)Z" = some ⟨[(.object "org/refold/RootClasses"), (.array .int), .int], some .boolean⟩ := by decide +kernel
theorem ef_0 (m : MethodId) (x0 : Int32) (x1 : Int32) (x2 : Int32) : entryFrame m #[(.int x0), (.int x1), (.int x2)] maxLocals = mkF m 0 #[.val (.int x0), .val (.int x1), .val (.int x2), .unset, .unset, .unset, .unset, .unset, .unset, .unset, .unset, .unset] [] := by first | (simp [entryFrame, mkF, argsToLocals, Value.category, maxLocals]; done) | rfl

def Q1 (Z : State) (a1 : Addr) (n0 : Nat) (v : Option Value) (h : Heap) (L : List Loc) : Prop := v = none ∧ Fr n0 L ∧ ∃ b, RC Z h n0 a1 b [0, 1, 2, 3]
set_option maxRecDepth 65536 in
set_option maxHeartbeats 40000000 in
theorem rm1 (l : Launch) (Z : State) (a0 : Array Value) (hw : ∀ d ∈ tables_1, d.before a0 Z = true) (ws : List Jvm.Cond) (a1 : Addr) (h0 : Heap) (n0 : Nat) (Z0 : n0 ≤ h0.size) (E_a1 : Exa Z h0 a1 "org/refold/RootClasses") (F_parent_a1 : Fld Z h0 a1 "org/refold/RootClasses" "parent" "[I" .null) (g_a1 : n0 ≤ a1) :
    MetFree l (⟨"org/refold/RootClasses", "<init>", "(I)V"⟩ : MethodName) (head1 (Jvm.Cond.code (⟨"org/refold/RootClasses", "<init>", "(I)V"⟩ : MethodName) prog_24_method_1_code 3 none :: ws) ({ frames := 1, cells := 1, slots := 4, locals := 12 } : Room)) (fun a U => a = #[(.ref a1), (.int (4 : Int32))] ∧ Z.Warmed39 U.vm ∧ U.heap = h0) (fun _ _ _ _ _ => True) (fun _ U o U' => ∃ v L, o = .returned v ∧ Q1 Z a1 n0 v U'.heap L ∧ FrameEnd U o U' L ({ frames := 1, cells := 1, slots := 4, locals := 12 } : Room).cells ({ frames := 1, cells := 1, slots := 4, locals := 12 } : Room).slots) := by
  refine MetFree.of_bodySF (plainFor_of_name pn_1) hisR ?_
  intro p e s m args below meth c s₁ Bd hml0 hP hK
  obtain ⟨rfl, hZ, hh⟩ := hP
  have hx := Bd.exec
  have hby := Bd.bytes
  have hml : c.maxLocals = 3 := hml0
  have hown : s.vm.findClass "org/refold/RootClasses" = some m.cls := findClass_of_methodNamed Bd.named
  have hnm := (name_of_methodNamed Bd.named Bd.method).1
  have X0 : Stand p l e ({ frames := 1, cells := 1, slots := 4, locals := 12 } : Room) s m #[(.ref a1), (.int (4 : Int32))] below meth c s₁ [] 0 0 := Stand.of_body Bd
  have e0 : s₁.heap = h0 := by rw [← hh, Bd.state]; rfl
  have N0 := Fr.nil n0
  have pre0 : ∀ t, Steps p.tables e below (s₁.setTop (mkF m 0 #[.val (.ref a1), .val (.int (4 : Int32)), .unset] [])) t → Steps p.tables e below (s₁.setTop (entryFrame m #[(.ref a1), (.int (4 : Int32))] 3)) t := fun t k => castTop (ef_1 m a1 (4 : Int32)) k
  obtain ⟨T3, X3, e3, st3⟩ := initO X0 hx hZ hown (hw _ (List.mem_of_getElem? (i := 6) rfl)) (hw _ (List.mem_of_getElem? (i := 7) rfl)) (hw _ (List.mem_of_getElem? (i := 8) rfl)) e0 (g := (mkF m 1 #[.val (.ref a1), .val (.int (4 : Int32)), .unset] [(.ref a1)])) rfl (by rw [hml]; rfl) rfl (hb hby d1_1) (by decide) (W := 0) (by show 2 * 0 + _ ≤ _; exact Nat.le_of_eq rfl) (by decide)
  obtain ⟨T4, h4, k4, X4, e4, E4, A4, st4⟩ := newP X3 hx hZ (hw _ (List.mem_of_getElem? (i := 9) rfl)) e3 (g := (mkF m 6 #[.val (.ref a1), .val (.int (4 : Int32)), .unset] [(.int (4 : Int32)), (.ref a1)])) rfl (hb hby d1_6) rfl (by decide) (cap := 4) (by decide) (by decide) (by decide) (by decide)
  obtain ⟨b4, g4⟩ : ∃ z, z = h0.size := ⟨_, rfl⟩
  rw [← g4] at A4 st4
  have V_b4 : Arv Z h4 b4 k4 .int (4 : Int32) [(.int (0 : Int32)), (.int (0 : Int32)), (.int (0 : Int32)), (.int (0 : Int32))] (.int (0 : Int32)) := (Arv.new A4 (by decide)).pad (pad_rep [] (.int (0 : Int32)) 4)
  have g_b4 : n0 ≤ b4 := Nat.le_trans Z0 (Nat.le_of_eq g4.symm)
  have sz_b4 : h0.size ≤ b4 := (Nat.le_trans (Keep.refl h0 [a1]).1 (Nat.le_of_eq g4.symm))
  have K4 : Keep h0 h4 [a1] := (Keep.refl h0 [a1]).ext E4
  obtain ⟨T5, h5, X5, e5, W5, st5⟩ := putF X4 hx hZ hown (host := "") (Or.inl (hw _ (List.mem_of_getElem? (i := 10) rfl))) Via.refl e4 (F_parent_a1.ext E4) (E_a1.ext E4) (Or.inr ⟨(hw _ (List.mem_of_getElem? (i := 11) rfl)), rfl, hnm⟩) (hw _ (List.mem_of_getElem? (i := 1) rfl)) (ty := (.array .int)) (by decide) rfl rfl (g := (mkF m 8 #[.val (.ref a1), .val (.int (4 : Int32)), .unset] [(.ref b4), (.ref a1)])) rfl rfl (hb hby d1_8)
  have Fw5 := (F_parent_a1.ext E4).same W5
  have K5 : Keep h0 h5 [a1] := K4.wr W5 (Or.inl (List.mem_of_getElem? (i := 0) rfl))
  have N5 := Fr.snoc X5 N0 g_a1
  obtain ⟨T6, X6, e6, st6⟩ := getF X5 hx hZ hown (host := "") (Or.inl (hw _ (List.mem_of_getElem? (i := 10) rfl))) Via.refl e5 Fw5 (g := (mkF m 19 #[.val (.ref a1), .val (.int (4 : Int32)), .val (.int (0 : Int32))] [(.ref a1)])) rfl rfl (hb hby d1_19)
  obtain ⟨cl_b4_24, Ar_b4, q_b4, S_b4, N_b4, H_b4, G_b4⟩ := (V_b4.other W5 (Ne.symm (Nat.ne_of_lt (Nat.lt_of_lt_of_le E_a1.lt (Nat.le_of_eq g4.symm)))))
  have hin24 : ¬ ((0 : Int32) < 0 ∨ cl_b4_24.slots.size ≤ ((0 : Int32)).toNatClampNeg) := inb_of S_b4 ⟨by decide, by decide⟩
  obtain ⟨T7, h7, X7, e7, W7, st7⟩ := stI X6 hx hZ e6 Ar_b4 (j := (0 : Int32)) hin24 (g := (mkF m 24 #[.val (.ref a1), .val (.int (4 : Int32)), .val (.int (0 : Int32))] [(.int (0 : Int32)), (.int (0 : Int32)), (.ref b4)])) rfl rfl (hb hby d1_24)
  have V_b4_7 := Arv.set Ar_b4 q_b4 S_b4 N_b4 H_b4 G_b4 rfl W7 0 rfl (Nat.le_of_ble_eq_true rfl)
  have K7 : Keep h0 h7 [a1] := K5.wr W7 (Or.inr sz_b4)
  have N7 := Fr.snoc X7 N5 g_b4
  obtain ⟨T8, X8, e8, st8⟩ := getF X7 hx hZ hown (host := "") (Or.inl (hw _ (List.mem_of_getElem? (i := 10) rfl))) Via.refl e7 (Fw5.other W7 (Or.inl (Nat.ne_of_lt (Nat.lt_of_lt_of_le E_a1.lt (Nat.le_of_eq g4.symm))))) (g := (mkF m 19 #[.val (.ref a1), .val (.int (4 : Int32)), .val (.int ((0 : Int32) + (1 : Int32)))] [(.ref a1)])) rfl rfl (hb hby d1_19)
  obtain ⟨cl_b4_24, Ar_b4, q_b4, S_b4, N_b4, H_b4, G_b4⟩ := V_b4_7
  have hin24 : ¬ (((0 : Int32) + (1 : Int32)) < 0 ∨ cl_b4_24.slots.size ≤ (((0 : Int32) + (1 : Int32))).toNatClampNeg) := inb_of S_b4 ⟨by decide, by decide⟩
  obtain ⟨T9, h9, X9, e9, W9, st9⟩ := stI X8 hx hZ e8 Ar_b4 (j := ((0 : Int32) + (1 : Int32))) hin24 (g := (mkF m 24 #[.val (.ref a1), .val (.int (4 : Int32)), .val (.int ((0 : Int32) + (1 : Int32)))] [(.int ((0 : Int32) + (1 : Int32))), (.int ((0 : Int32) + (1 : Int32))), (.ref b4)])) rfl rfl (hb hby d1_24)
  have V_b4_9 := Arv.set Ar_b4 q_b4 S_b4 N_b4 H_b4 G_b4 rfl W9 1 rfl (Nat.le_of_ble_eq_true rfl)
  have K9 : Keep h0 h9 [a1] := K7.wr W9 (Or.inr sz_b4)
  have N9 := Fr.snoc X9 N7 g_b4
  obtain ⟨T10, X10, e10, st10⟩ := getF X9 hx hZ hown (host := "") (Or.inl (hw _ (List.mem_of_getElem? (i := 10) rfl))) Via.refl e9 ((Fw5.other W7 (Or.inl (Nat.ne_of_lt (Nat.lt_of_lt_of_le E_a1.lt (Nat.le_of_eq g4.symm))))).other W9 (Or.inl (Nat.ne_of_lt (Nat.lt_of_lt_of_le E_a1.lt (Nat.le_of_eq g4.symm))))) (g := (mkF m 19 #[.val (.ref a1), .val (.int (4 : Int32)), .val (.int (((0 : Int32) + (1 : Int32)) + (1 : Int32)))] [(.ref a1)])) rfl rfl (hb hby d1_19)
  obtain ⟨cl_b4_24, Ar_b4, q_b4, S_b4, N_b4, H_b4, G_b4⟩ := V_b4_9
  have hin24 : ¬ ((((0 : Int32) + (1 : Int32)) + (1 : Int32)) < 0 ∨ cl_b4_24.slots.size ≤ ((((0 : Int32) + (1 : Int32)) + (1 : Int32))).toNatClampNeg) := inb_of S_b4 ⟨by decide, by decide⟩
  obtain ⟨T11, h11, X11, e11, W11, st11⟩ := stI X10 hx hZ e10 Ar_b4 (j := (((0 : Int32) + (1 : Int32)) + (1 : Int32))) hin24 (g := (mkF m 24 #[.val (.ref a1), .val (.int (4 : Int32)), .val (.int (((0 : Int32) + (1 : Int32)) + (1 : Int32)))] [(.int (((0 : Int32) + (1 : Int32)) + (1 : Int32))), (.int (((0 : Int32) + (1 : Int32)) + (1 : Int32))), (.ref b4)])) rfl rfl (hb hby d1_24)
  have V_b4_11 := Arv.set Ar_b4 q_b4 S_b4 N_b4 H_b4 G_b4 rfl W11 2 rfl (Nat.le_of_ble_eq_true rfl)
  have K11 : Keep h0 h11 [a1] := K9.wr W11 (Or.inr sz_b4)
  have N11 := Fr.snoc X11 N9 g_b4
  obtain ⟨T12, X12, e12, st12⟩ := getF X11 hx hZ hown (host := "") (Or.inl (hw _ (List.mem_of_getElem? (i := 10) rfl))) Via.refl e11 (((Fw5.other W7 (Or.inl (Nat.ne_of_lt (Nat.lt_of_lt_of_le E_a1.lt (Nat.le_of_eq g4.symm))))).other W9 (Or.inl (Nat.ne_of_lt (Nat.lt_of_lt_of_le E_a1.lt (Nat.le_of_eq g4.symm))))).other W11 (Or.inl (Nat.ne_of_lt (Nat.lt_of_lt_of_le E_a1.lt (Nat.le_of_eq g4.symm))))) (g := (mkF m 19 #[.val (.ref a1), .val (.int (4 : Int32)), .val (.int ((((0 : Int32) + (1 : Int32)) + (1 : Int32)) + (1 : Int32)))] [(.ref a1)])) rfl rfl (hb hby d1_19)
  obtain ⟨cl_b4_24, Ar_b4, q_b4, S_b4, N_b4, H_b4, G_b4⟩ := V_b4_11
  have hin24 : ¬ (((((0 : Int32) + (1 : Int32)) + (1 : Int32)) + (1 : Int32)) < 0 ∨ cl_b4_24.slots.size ≤ (((((0 : Int32) + (1 : Int32)) + (1 : Int32)) + (1 : Int32))).toNatClampNeg) := inb_of S_b4 ⟨by decide, by decide⟩
  obtain ⟨T13, h13, X13, e13, W13, st13⟩ := stI X12 hx hZ e12 Ar_b4 (j := ((((0 : Int32) + (1 : Int32)) + (1 : Int32)) + (1 : Int32))) hin24 (g := (mkF m 24 #[.val (.ref a1), .val (.int (4 : Int32)), .val (.int ((((0 : Int32) + (1 : Int32)) + (1 : Int32)) + (1 : Int32)))] [(.int ((((0 : Int32) + (1 : Int32)) + (1 : Int32)) + (1 : Int32))), (.int ((((0 : Int32) + (1 : Int32)) + (1 : Int32)) + (1 : Int32))), (.ref b4)])) rfl rfl (hb hby d1_24)
  have V_b4_13 := Arv.set Ar_b4 q_b4 S_b4 N_b4 H_b4 G_b4 rfl W13 3 rfl (Nat.le_of_ble_eq_true rfl)
  have K13 : Keep h0 h13 [a1] := K11.wr W13 (Or.inr sz_b4)
  have N13 := Fr.snoc X13 N11 g_b4
  obtain ⟨fs, hr, hrun, hended, hW, hsame⟩ := X13.leave (v := none) (fun _ => rfl)
  refine ⟨_, _, pre0 _ ?_, hrun, hended, _, _, rfl, ?_, ⟨_, rfl⟩, hW, hsame.mono (by decide) (by decide)⟩
  · show Steps p.tables e below (s₁.setTop (mkF m 0 #[.val (.ref a1), .val (.int (4 : Int32)), .unset] [])) _
    refine XS.aloadN X0.here hx rfl (hb hby d1_0) rfl rfl ?_
    show Steps p.tables e below (s₁.setTop (mkF m 1 #[.val (.ref a1), .val (.int (4 : Int32)), .unset] [(.ref a1)])) _
    refine st3 _ ?_
    show Steps p.tables e below (T3.setTop (mkF m 4 #[.val (.ref a1), .val (.int (4 : Int32)), .unset] [])) _
    refine XS.aloadN X3.here hx rfl (hb hby d1_4) rfl rfl ?_
    show Steps p.tables e below (T3.setTop (mkF m 5 #[.val (.ref a1), .val (.int (4 : Int32)), .unset] [(.ref a1)])) _
    refine XS.iloadN X3.here hx rfl (hb hby d1_5) rfl ?_
    show Steps p.tables e below (T3.setTop (mkF m 6 #[.val (.ref a1), .val (.int (4 : Int32)), .unset] [(.int (4 : Int32)), (.ref a1)])) _
    refine st4 _ ?_
    show Steps p.tables e below (T4.setTop (mkF m 8 #[.val (.ref a1), .val (.int (4 : Int32)), .unset] [(.ref b4), (.ref a1)])) _
    refine st5 _ ?_
    show Steps p.tables e below (T5.setTop (mkF m 11 #[.val (.ref a1), .val (.int (4 : Int32)), .unset] [])) _
    refine XS.iconst X5.here hx rfl (hb hby d1_11) ?_
    show Steps p.tables e below (T5.setTop (mkF m 12 #[.val (.ref a1), .val (.int (4 : Int32)), .unset] [(.int (0 : Int32))])) _
    refine XS.istoreN X5.here hx rfl (hb hby d1_12) rfl (l' := #[.val (.ref a1), .val (.int (4 : Int32)), .val (.int (0 : Int32))]) rfl ?_
    show Steps p.tables e below (T5.setTop (mkF m 13 #[.val (.ref a1), .val (.int (4 : Int32)), .val (.int (0 : Int32))] [])) _
    refine XS.iloadN X5.here hx rfl (hb hby d1_13) rfl ?_
    show Steps p.tables e below (T5.setTop (mkF m 14 #[.val (.ref a1), .val (.int (4 : Int32)), .val (.int (0 : Int32))] [(.int (0 : Int32))])) _
    refine XS.iloadN X5.here hx rfl (hb hby d1_14) rfl ?_
    show Steps p.tables e below (T5.setTop (mkF m 15 #[.val (.ref a1), .val (.int (4 : Int32)), .val (.int (0 : Int32))] [(.int (4 : Int32)), (.int (0 : Int32))])) _
    refine XS.icmpNo X5.here hx rfl (hb hby d1_15) rfl (tlt (by decide : (0 : Int32) < (4 : Int32))).2.1 ?_
    show Steps p.tables e below (T5.setTop (mkF m 18 #[.val (.ref a1), .val (.int (4 : Int32)), .val (.int (0 : Int32))] [])) _
    refine XS.aloadN X5.here hx rfl (hb hby d1_18) rfl rfl ?_
    show Steps p.tables e below (T5.setTop (mkF m 19 #[.val (.ref a1), .val (.int (4 : Int32)), .val (.int (0 : Int32))] [(.ref a1)])) _
    refine st6 _ ?_
    show Steps p.tables e below (T6.setTop (mkF m 22 #[.val (.ref a1), .val (.int (4 : Int32)), .val (.int (0 : Int32))] [(.ref b4)])) _
    refine XS.iloadN X6.here hx rfl (hb hby d1_22) rfl ?_
    show Steps p.tables e below (T6.setTop (mkF m 23 #[.val (.ref a1), .val (.int (4 : Int32)), .val (.int (0 : Int32))] [(.int (0 : Int32)), (.ref b4)])) _
    refine XS.iloadN X6.here hx rfl (hb hby d1_23) rfl ?_
    show Steps p.tables e below (T6.setTop (mkF m 24 #[.val (.ref a1), .val (.int (4 : Int32)), .val (.int (0 : Int32))] [(.int (0 : Int32)), (.int (0 : Int32)), (.ref b4)])) _
    refine st7 _ ?_
    show Steps p.tables e below (T7.setTop (mkF m 25 #[.val (.ref a1), .val (.int (4 : Int32)), .val (.int (0 : Int32))] [])) _
    refine XS.iinc X7.here hx rfl (hb hby d1_25) rfl (l' := #[.val (.ref a1), .val (.int (4 : Int32)), .val (.int ((0 : Int32) + (1 : Int32)))]) rfl ?_
    show Steps p.tables e below (T7.setTop (mkF m 28 #[.val (.ref a1), .val (.int (4 : Int32)), .val (.int ((0 : Int32) + (1 : Int32)))] [])) _
    refine XS.goto X7.here hx rfl (pc0 := 28) (pc' := 13) rfl (hb hby d1_28) (by decide) (by decide) ?_
    show Steps p.tables e below (T7.setTop (mkF m 13 #[.val (.ref a1), .val (.int (4 : Int32)), .val (.int ((0 : Int32) + (1 : Int32)))] [])) _
    refine XS.iloadN X7.here hx rfl (hb hby d1_13) rfl ?_
    show Steps p.tables e below (T7.setTop (mkF m 14 #[.val (.ref a1), .val (.int (4 : Int32)), .val (.int ((0 : Int32) + (1 : Int32)))] [(.int ((0 : Int32) + (1 : Int32)))])) _
    refine XS.iloadN X7.here hx rfl (hb hby d1_14) rfl ?_
    show Steps p.tables e below (T7.setTop (mkF m 15 #[.val (.ref a1), .val (.int (4 : Int32)), .val (.int ((0 : Int32) + (1 : Int32)))] [(.int (4 : Int32)), (.int ((0 : Int32) + (1 : Int32)))])) _
    refine XS.icmpNo X7.here hx rfl (hb hby d1_15) rfl (tlt (by decide : ((0 : Int32) + (1 : Int32)) < (4 : Int32))).2.1 ?_
    show Steps p.tables e below (T7.setTop (mkF m 18 #[.val (.ref a1), .val (.int (4 : Int32)), .val (.int ((0 : Int32) + (1 : Int32)))] [])) _
    refine XS.aloadN X7.here hx rfl (hb hby d1_18) rfl rfl ?_
    show Steps p.tables e below (T7.setTop (mkF m 19 #[.val (.ref a1), .val (.int (4 : Int32)), .val (.int ((0 : Int32) + (1 : Int32)))] [(.ref a1)])) _
    refine st8 _ ?_
    show Steps p.tables e below (T8.setTop (mkF m 22 #[.val (.ref a1), .val (.int (4 : Int32)), .val (.int ((0 : Int32) + (1 : Int32)))] [(.ref b4)])) _
    refine XS.iloadN X8.here hx rfl (hb hby d1_22) rfl ?_
    show Steps p.tables e below (T8.setTop (mkF m 23 #[.val (.ref a1), .val (.int (4 : Int32)), .val (.int ((0 : Int32) + (1 : Int32)))] [(.int ((0 : Int32) + (1 : Int32))), (.ref b4)])) _
    refine XS.iloadN X8.here hx rfl (hb hby d1_23) rfl ?_
    show Steps p.tables e below (T8.setTop (mkF m 24 #[.val (.ref a1), .val (.int (4 : Int32)), .val (.int ((0 : Int32) + (1 : Int32)))] [(.int ((0 : Int32) + (1 : Int32))), (.int ((0 : Int32) + (1 : Int32))), (.ref b4)])) _
    refine st9 _ ?_
    show Steps p.tables e below (T9.setTop (mkF m 25 #[.val (.ref a1), .val (.int (4 : Int32)), .val (.int ((0 : Int32) + (1 : Int32)))] [])) _
    refine XS.iinc X9.here hx rfl (hb hby d1_25) rfl (l' := #[.val (.ref a1), .val (.int (4 : Int32)), .val (.int (((0 : Int32) + (1 : Int32)) + (1 : Int32)))]) rfl ?_
    show Steps p.tables e below (T9.setTop (mkF m 28 #[.val (.ref a1), .val (.int (4 : Int32)), .val (.int (((0 : Int32) + (1 : Int32)) + (1 : Int32)))] [])) _
    refine XS.goto X9.here hx rfl (pc0 := 28) (pc' := 13) rfl (hb hby d1_28) (by decide) (by decide) ?_
    show Steps p.tables e below (T9.setTop (mkF m 13 #[.val (.ref a1), .val (.int (4 : Int32)), .val (.int (((0 : Int32) + (1 : Int32)) + (1 : Int32)))] [])) _
    refine XS.iloadN X9.here hx rfl (hb hby d1_13) rfl ?_
    show Steps p.tables e below (T9.setTop (mkF m 14 #[.val (.ref a1), .val (.int (4 : Int32)), .val (.int (((0 : Int32) + (1 : Int32)) + (1 : Int32)))] [(.int (((0 : Int32) + (1 : Int32)) + (1 : Int32)))])) _
    refine XS.iloadN X9.here hx rfl (hb hby d1_14) rfl ?_
    show Steps p.tables e below (T9.setTop (mkF m 15 #[.val (.ref a1), .val (.int (4 : Int32)), .val (.int (((0 : Int32) + (1 : Int32)) + (1 : Int32)))] [(.int (4 : Int32)), (.int (((0 : Int32) + (1 : Int32)) + (1 : Int32)))])) _
    refine XS.icmpNo X9.here hx rfl (hb hby d1_15) rfl (tlt (by decide : (((0 : Int32) + (1 : Int32)) + (1 : Int32)) < (4 : Int32))).2.1 ?_
    show Steps p.tables e below (T9.setTop (mkF m 18 #[.val (.ref a1), .val (.int (4 : Int32)), .val (.int (((0 : Int32) + (1 : Int32)) + (1 : Int32)))] [])) _
    refine XS.aloadN X9.here hx rfl (hb hby d1_18) rfl rfl ?_
    show Steps p.tables e below (T9.setTop (mkF m 19 #[.val (.ref a1), .val (.int (4 : Int32)), .val (.int (((0 : Int32) + (1 : Int32)) + (1 : Int32)))] [(.ref a1)])) _
    refine st10 _ ?_
    show Steps p.tables e below (T10.setTop (mkF m 22 #[.val (.ref a1), .val (.int (4 : Int32)), .val (.int (((0 : Int32) + (1 : Int32)) + (1 : Int32)))] [(.ref b4)])) _
    refine XS.iloadN X10.here hx rfl (hb hby d1_22) rfl ?_
    show Steps p.tables e below (T10.setTop (mkF m 23 #[.val (.ref a1), .val (.int (4 : Int32)), .val (.int (((0 : Int32) + (1 : Int32)) + (1 : Int32)))] [(.int (((0 : Int32) + (1 : Int32)) + (1 : Int32))), (.ref b4)])) _
    refine XS.iloadN X10.here hx rfl (hb hby d1_23) rfl ?_
    show Steps p.tables e below (T10.setTop (mkF m 24 #[.val (.ref a1), .val (.int (4 : Int32)), .val (.int (((0 : Int32) + (1 : Int32)) + (1 : Int32)))] [(.int (((0 : Int32) + (1 : Int32)) + (1 : Int32))), (.int (((0 : Int32) + (1 : Int32)) + (1 : Int32))), (.ref b4)])) _
    refine st11 _ ?_
    show Steps p.tables e below (T11.setTop (mkF m 25 #[.val (.ref a1), .val (.int (4 : Int32)), .val (.int (((0 : Int32) + (1 : Int32)) + (1 : Int32)))] [])) _
    refine XS.iinc X11.here hx rfl (hb hby d1_25) rfl (l' := #[.val (.ref a1), .val (.int (4 : Int32)), .val (.int ((((0 : Int32) + (1 : Int32)) + (1 : Int32)) + (1 : Int32)))]) rfl ?_
    show Steps p.tables e below (T11.setTop (mkF m 28 #[.val (.ref a1), .val (.int (4 : Int32)), .val (.int ((((0 : Int32) + (1 : Int32)) + (1 : Int32)) + (1 : Int32)))] [])) _
    refine XS.goto X11.here hx rfl (pc0 := 28) (pc' := 13) rfl (hb hby d1_28) (by decide) (by decide) ?_
    show Steps p.tables e below (T11.setTop (mkF m 13 #[.val (.ref a1), .val (.int (4 : Int32)), .val (.int ((((0 : Int32) + (1 : Int32)) + (1 : Int32)) + (1 : Int32)))] [])) _
    refine XS.iloadN X11.here hx rfl (hb hby d1_13) rfl ?_
    show Steps p.tables e below (T11.setTop (mkF m 14 #[.val (.ref a1), .val (.int (4 : Int32)), .val (.int ((((0 : Int32) + (1 : Int32)) + (1 : Int32)) + (1 : Int32)))] [(.int ((((0 : Int32) + (1 : Int32)) + (1 : Int32)) + (1 : Int32)))])) _
    refine XS.iloadN X11.here hx rfl (hb hby d1_14) rfl ?_
    show Steps p.tables e below (T11.setTop (mkF m 15 #[.val (.ref a1), .val (.int (4 : Int32)), .val (.int ((((0 : Int32) + (1 : Int32)) + (1 : Int32)) + (1 : Int32)))] [(.int (4 : Int32)), (.int ((((0 : Int32) + (1 : Int32)) + (1 : Int32)) + (1 : Int32)))])) _
    refine XS.icmpNo X11.here hx rfl (hb hby d1_15) rfl (tlt (by decide : ((((0 : Int32) + (1 : Int32)) + (1 : Int32)) + (1 : Int32)) < (4 : Int32))).2.1 ?_
    show Steps p.tables e below (T11.setTop (mkF m 18 #[.val (.ref a1), .val (.int (4 : Int32)), .val (.int ((((0 : Int32) + (1 : Int32)) + (1 : Int32)) + (1 : Int32)))] [])) _
    refine XS.aloadN X11.here hx rfl (hb hby d1_18) rfl rfl ?_
    show Steps p.tables e below (T11.setTop (mkF m 19 #[.val (.ref a1), .val (.int (4 : Int32)), .val (.int ((((0 : Int32) + (1 : Int32)) + (1 : Int32)) + (1 : Int32)))] [(.ref a1)])) _
    refine st12 _ ?_
    show Steps p.tables e below (T12.setTop (mkF m 22 #[.val (.ref a1), .val (.int (4 : Int32)), .val (.int ((((0 : Int32) + (1 : Int32)) + (1 : Int32)) + (1 : Int32)))] [(.ref b4)])) _
    refine XS.iloadN X12.here hx rfl (hb hby d1_22) rfl ?_
    show Steps p.tables e below (T12.setTop (mkF m 23 #[.val (.ref a1), .val (.int (4 : Int32)), .val (.int ((((0 : Int32) + (1 : Int32)) + (1 : Int32)) + (1 : Int32)))] [(.int ((((0 : Int32) + (1 : Int32)) + (1 : Int32)) + (1 : Int32))), (.ref b4)])) _
    refine XS.iloadN X12.here hx rfl (hb hby d1_23) rfl ?_
    show Steps p.tables e below (T12.setTop (mkF m 24 #[.val (.ref a1), .val (.int (4 : Int32)), .val (.int ((((0 : Int32) + (1 : Int32)) + (1 : Int32)) + (1 : Int32)))] [(.int ((((0 : Int32) + (1 : Int32)) + (1 : Int32)) + (1 : Int32))), (.int ((((0 : Int32) + (1 : Int32)) + (1 : Int32)) + (1 : Int32))), (.ref b4)])) _
    refine st13 _ ?_
    show Steps p.tables e below (T13.setTop (mkF m 25 #[.val (.ref a1), .val (.int (4 : Int32)), .val (.int ((((0 : Int32) + (1 : Int32)) + (1 : Int32)) + (1 : Int32)))] [])) _
    refine XS.iinc X13.here hx rfl (hb hby d1_25) rfl (l' := #[.val (.ref a1), .val (.int (4 : Int32)), .val (.int (((((0 : Int32) + (1 : Int32)) + (1 : Int32)) + (1 : Int32)) + (1 : Int32)))]) rfl ?_
    show Steps p.tables e below (T13.setTop (mkF m 28 #[.val (.ref a1), .val (.int (4 : Int32)), .val (.int (((((0 : Int32) + (1 : Int32)) + (1 : Int32)) + (1 : Int32)) + (1 : Int32)))] [])) _
    refine XS.goto X13.here hx rfl (pc0 := 28) (pc' := 13) rfl (hb hby d1_28) (by decide) (by decide) ?_
    show Steps p.tables e below (T13.setTop (mkF m 13 #[.val (.ref a1), .val (.int (4 : Int32)), .val (.int (((((0 : Int32) + (1 : Int32)) + (1 : Int32)) + (1 : Int32)) + (1 : Int32)))] [])) _
    refine XS.iloadN X13.here hx rfl (hb hby d1_13) rfl ?_
    show Steps p.tables e below (T13.setTop (mkF m 14 #[.val (.ref a1), .val (.int (4 : Int32)), .val (.int (((((0 : Int32) + (1 : Int32)) + (1 : Int32)) + (1 : Int32)) + (1 : Int32)))] [(.int (((((0 : Int32) + (1 : Int32)) + (1 : Int32)) + (1 : Int32)) + (1 : Int32)))])) _
    refine XS.iloadN X13.here hx rfl (hb hby d1_14) rfl ?_
    show Steps p.tables e below (T13.setTop (mkF m 15 #[.val (.ref a1), .val (.int (4 : Int32)), .val (.int (((((0 : Int32) + (1 : Int32)) + (1 : Int32)) + (1 : Int32)) + (1 : Int32)))] [(.int (4 : Int32)), (.int (((((0 : Int32) + (1 : Int32)) + (1 : Int32)) + (1 : Int32)) + (1 : Int32)))])) _
    refine XS.icmpYes X13.here hx rfl (pc0 := 15) (pc' := 31) rfl (hb hby d1_15) rfl (flt (by decide : ¬ ((((((0 : Int32) + (1 : Int32)) + (1 : Int32)) + (1 : Int32)) + (1 : Int32)) < (4 : Int32)))).2.1 (by decide) (by decide) ?_
    show Steps p.tables e below (T13.setTop (mkF m 31 #[.val (.ref a1), .val (.int (4 : Int32)), .val (.int (((((0 : Int32) + (1 : Int32)) + (1 : Int32)) + (1 : Int32)) + (1 : Int32)))] [])) _
    exact X13.returnOut hx Bd.returns (hb hby d1_31) hr
  · show Q1 Z a1 n0 _ T13.heap _
    rw [e13]
    have ne : a1 ≠ b4 := (Nat.ne_of_lt (Nat.lt_of_lt_of_le E_a1.lt (Nat.le_of_eq g4.symm)))
    refine ⟨rfl, N13, b4, g_a1, g_b4, ne, (((((E_a1.ext E4).wr W5).wr W7).wr W9).wr W11).wr W13, (((Fw5.other W7 (Or.inl ne)).other W9 (Or.inl ne)).other W11 (Or.inl ne)).other W13 (Or.inl ne), IA.of V_b4_13 (fun j hj => ?_)⟩
    have : j = 0 ∨ j = 1 ∨ j = 2 ∨ j = 3 := by omega
    rcases this with rfl | rfl | rfl | rfl <;> rfl
def Q4 (Z : State) (r : Int32) (h0 : Heap) (n0 : Nat) (v : Option Value) (h : Heap) (L : List Loc) : Prop := v = some (.int r) ∧ Fr n0 L ∧ h = h0
set_option maxRecDepth 65536 in
set_option maxHeartbeats 40000000 in
theorem rm4f (l : Launch) (Z : State) (a0 : Array Value) (hw : ∀ d ∈ tables_1, d.before a0 Z = true) (ws : List Jvm.Cond) (p1 p2 : Int32) (h0 : Heap) (n0 : Nat) (Z0 : n0 ≤ h0.size) (hc2 : ¬ (p2 < p1)) :
    MetFree l (⟨"java/lang/Math", "min", "(II)I"⟩ : MethodName) (head1 (Jvm.Cond.code (⟨"java/lang/Math", "min", "(II)I"⟩ : MethodName) jdk_29_method_69_code 2 (some .int) :: ws) ({ frames := 0, cells := 0, slots := 0, locals := 0 } : Room)) (fun a U => a = #[(.int p1), (.int p2)] ∧ Z.Warmed39 U.vm ∧ U.heap = h0) (fun _ _ _ _ _ => True) (fun _ U o U' => ∃ v L, o = .returned v ∧ Q4 Z p1 h0 n0 v U'.heap L ∧ FrameEnd U o U' L ({ frames := 0, cells := 0, slots := 0, locals := 0 } : Room).cells ({ frames := 0, cells := 0, slots := 0, locals := 0 } : Room).slots) := by
  refine MetFree.of_bodySF (Jvm.Free.JP.mathPlain rfl (by decide +kernel)) hisR ?_
  intro p e s m args below meth c s₁ Bd hml0 hP hK
  obtain ⟨rfl, hZ, hh⟩ := hP
  have hx := Bd.exec
  have hby := Bd.bytes
  have hml : c.maxLocals = 2 := hml0
  have hown : s.vm.findClass "java/lang/Math" = some m.cls := findClass_of_methodNamed Bd.named
  have hnm := (name_of_methodNamed Bd.named Bd.method).1
  have X0 : Stand p l e ({ frames := 0, cells := 0, slots := 0, locals := 0 } : Room) s m #[(.int p1), (.int p2)] below meth c s₁ [] 0 0 := Stand.of_body Bd
  have e0 : s₁.heap = h0 := by rw [← hh, Bd.state]; rfl
  have N0 := Fr.nil n0
  have pre0 : ∀ t, Steps p.tables e below (s₁.setTop (mkF m 0 #[.val (.int p1), .val (.int p2)] [])) t → Steps p.tables e below (s₁.setTop (entryFrame m #[(.int p1), (.int p2)] 2)) t := fun t k => castTop (ef_4 m p1 p2) k
  obtain ⟨fs, hr, hrun, hended, hW, hsame⟩ := X0.leave (v := some (.int p1)) (fun h => by rw [Bd.returns] at h; cases h)
  refine ⟨_, _, pre0 _ ?_, hrun, hended, _, _, rfl, ?_, ⟨_, rfl⟩, hW, hsame.mono (by decide) (by decide)⟩
  · show Steps p.tables e below (s₁.setTop (mkF m 0 #[.val (.int p1), .val (.int p2)] [])) _
    refine XS.iloadN X0.here hx rfl (hb hby d4_0) rfl ?_
    show Steps p.tables e below (s₁.setTop (mkF m 1 #[.val (.int p1), .val (.int p2)] [(.int p1)])) _
    refine XS.iloadN X0.here hx rfl (hb hby d4_1) rfl ?_
    show Steps p.tables e below (s₁.setTop (mkF m 2 #[.val (.int p1), .val (.int p2)] [(.int p2), (.int p1)])) _
    refine XS.icmpNo X0.here hx rfl (hb hby d4_2) rfl (flt hc2).2.2.1 ?_
    show Steps p.tables e below (s₁.setTop (mkF m 5 #[.val (.int p1), .val (.int p2)] [])) _
    refine XS.iloadN X0.here hx rfl (hb hby d4_5) rfl ?_
    show Steps p.tables e below (s₁.setTop (mkF m 6 #[.val (.int p1), .val (.int p2)] [(.int p1)])) _
    refine XS.goto X0.here hx rfl (pc0 := 6) (pc' := 10) rfl (hb hby d4_6) (by decide) (by decide) ?_
    show Steps p.tables e below (s₁.setTop (mkF m 10 #[.val (.int p1), .val (.int p2)] [(.int p1)])) _
    exact retI X0 hx Bd.returns (hb hby d4_10) hr
  · show Q4 Z p1 h0 n0 _ s₁.heap _
    rw [e0]
    exact ⟨rfl, N0, rfl⟩
set_option maxRecDepth 65536 in
set_option maxHeartbeats 40000000 in
theorem rm4t (l : Launch) (Z : State) (a0 : Array Value) (hw : ∀ d ∈ tables_1, d.before a0 Z = true) (ws : List Jvm.Cond) (p1 p2 : Int32) (h0 : Heap) (n0 : Nat) (Z0 : n0 ≤ h0.size) (hc2 : p2 < p1) :
    MetFree l (⟨"java/lang/Math", "min", "(II)I"⟩ : MethodName) (head1 (Jvm.Cond.code (⟨"java/lang/Math", "min", "(II)I"⟩ : MethodName) jdk_29_method_69_code 2 (some .int) :: ws) ({ frames := 0, cells := 0, slots := 0, locals := 0 } : Room)) (fun a U => a = #[(.int p1), (.int p2)] ∧ Z.Warmed39 U.vm ∧ U.heap = h0) (fun _ _ _ _ _ => True) (fun _ U o U' => ∃ v L, o = .returned v ∧ Q4 Z p2 h0 n0 v U'.heap L ∧ FrameEnd U o U' L ({ frames := 0, cells := 0, slots := 0, locals := 0 } : Room).cells ({ frames := 0, cells := 0, slots := 0, locals := 0 } : Room).slots) := by
  refine MetFree.of_bodySF (Jvm.Free.JP.mathPlain rfl (by decide +kernel)) hisR ?_
  intro p e s m args below meth c s₁ Bd hml0 hP hK
  obtain ⟨rfl, hZ, hh⟩ := hP
  have hx := Bd.exec
  have hby := Bd.bytes
  have hml : c.maxLocals = 2 := hml0
  have hown : s.vm.findClass "java/lang/Math" = some m.cls := findClass_of_methodNamed Bd.named
  have hnm := (name_of_methodNamed Bd.named Bd.method).1
  have X0 : Stand p l e ({ frames := 0, cells := 0, slots := 0, locals := 0 } : Room) s m #[(.int p1), (.int p2)] below meth c s₁ [] 0 0 := Stand.of_body Bd
  have e0 : s₁.heap = h0 := by rw [← hh, Bd.state]; rfl
  have N0 := Fr.nil n0
  have pre0 : ∀ t, Steps p.tables e below (s₁.setTop (mkF m 0 #[.val (.int p1), .val (.int p2)] [])) t → Steps p.tables e below (s₁.setTop (entryFrame m #[(.int p1), (.int p2)] 2)) t := fun t k => castTop (ef_4 m p1 p2) k
  obtain ⟨fs, hr, hrun, hended, hW, hsame⟩ := X0.leave (v := some (.int p2)) (fun h => by rw [Bd.returns] at h; cases h)
  refine ⟨_, _, pre0 _ ?_, hrun, hended, _, _, rfl, ?_, ⟨_, rfl⟩, hW, hsame.mono (by decide) (by decide)⟩
  · show Steps p.tables e below (s₁.setTop (mkF m 0 #[.val (.int p1), .val (.int p2)] [])) _
    refine XS.iloadN X0.here hx rfl (hb hby d4_0) rfl ?_
    show Steps p.tables e below (s₁.setTop (mkF m 1 #[.val (.int p1), .val (.int p2)] [(.int p1)])) _
    refine XS.iloadN X0.here hx rfl (hb hby d4_1) rfl ?_
    show Steps p.tables e below (s₁.setTop (mkF m 2 #[.val (.int p1), .val (.int p2)] [(.int p2), (.int p1)])) _
    refine XS.icmpYes X0.here hx rfl (pc0 := 2) (pc' := 9) rfl (hb hby d4_2) rfl (tlt hc2).2.2.1 (by decide) (by decide) ?_
    show Steps p.tables e below (s₁.setTop (mkF m 9 #[.val (.int p1), .val (.int p2)] [])) _
    refine XS.iloadN X0.here hx rfl (hb hby d4_9) rfl ?_
    show Steps p.tables e below (s₁.setTop (mkF m 10 #[.val (.int p1), .val (.int p2)] [(.int p2)])) _
    exact retI X0 hx Bd.returns (hb hby d4_10) hr
  · show Q4 Z p2 h0 n0 _ s₁.heap _
    rw [e0]
    exact ⟨rfl, N0, rfl⟩
theorem rm4 (l : Launch) (Z : State) (a0 : Array Value) (hw : ∀ d ∈ tables_1, d.before a0 Z = true) (ws : List Jvm.Cond) (p1 p2 : Int32) (x y : Nat) (hx' : x ≤ 255) (hy' : y ≤ 255) (e1 : p1 = Int32.ofNat x) (e2 : p2 = Int32.ofNat y) (h0 : Heap) (n0 : Nat) (Z0 : n0 ≤ h0.size) :
    MetFree l (⟨"java/lang/Math", "min", "(II)I"⟩ : MethodName) (head1 (Jvm.Cond.code (⟨"java/lang/Math", "min", "(II)I"⟩ : MethodName) jdk_29_method_69_code 2 (some .int) :: ws) ({ frames := 0, cells := 0, slots := 0, locals := 0 } : Room)) (fun a U => a = #[(.int p1), (.int p2)] ∧ Z.Warmed39 U.vm ∧ U.heap = h0) (fun _ _ _ _ _ => True) (fun _ U o U' => ∃ v L, o = .returned v ∧ Q4 Z (Int32.ofNat (min x y)) h0 n0 v U'.heap L ∧ FrameEnd U o U' L ({ frames := 0, cells := 0, slots := 0, locals := 0 } : Room).cells ({ frames := 0, cells := 0, slots := 0, locals := 0 } : Room).slots) := by
  by_cases q : y < x
  · rw [show min x y = y by omega, ← e2]; exact rm4t l Z a0 hw ws p1 p2 h0 n0 Z0 (by rw [e1, e2]; exact own_lt q hx')
  · rw [show min x y = x by omega, ← e1]; exact rm4f l Z a0 hw ws p1 p2 h0 n0 Z0 (by rw [e1, e2]; exact own_nlt q hy' hx')

def Q7 (Z : State) (r : Int32) (h0 : Heap) (n0 : Nat) (v : Option Value) (h : Heap) (L : List Loc) : Prop := v = some (.int r) ∧ Fr n0 L ∧ h = h0
set_option maxRecDepth 65536 in
set_option maxHeartbeats 40000000 in
theorem rm7f (l : Launch) (Z : State) (a0 : Array Value) (hw : ∀ d ∈ tables_1, d.before a0 Z = true) (ws : List Jvm.Cond) (p1 p2 : Int32) (h0 : Heap) (n0 : Nat) (Z0 : n0 ≤ h0.size) (hc2 : ¬ (p1 < p2)) :
    MetFree l (⟨"java/lang/Math", "max", "(II)I"⟩ : MethodName) (head1 (Jvm.Cond.code (⟨"java/lang/Math", "max", "(II)I"⟩ : MethodName) jdk_29_method_65_code 2 (some .int) :: ws) ({ frames := 0, cells := 0, slots := 0, locals := 0 } : Room)) (fun a U => a = #[(.int p1), (.int p2)] ∧ Z.Warmed39 U.vm ∧ U.heap = h0) (fun _ _ _ _ _ => True) (fun _ U o U' => ∃ v L, o = .returned v ∧ Q7 Z p1 h0 n0 v U'.heap L ∧ FrameEnd U o U' L ({ frames := 0, cells := 0, slots := 0, locals := 0 } : Room).cells ({ frames := 0, cells := 0, slots := 0, locals := 0 } : Room).slots) := by
  refine MetFree.of_bodySF (Jvm.Free.JP.mathPlain rfl (by decide +kernel)) hisR ?_
  intro p e s m args below meth c s₁ Bd hml0 hP hK
  obtain ⟨rfl, hZ, hh⟩ := hP
  have hx := Bd.exec
  have hby := Bd.bytes
  have hml : c.maxLocals = 2 := hml0
  have hown : s.vm.findClass "java/lang/Math" = some m.cls := findClass_of_methodNamed Bd.named
  have hnm := (name_of_methodNamed Bd.named Bd.method).1
  have X0 : Stand p l e ({ frames := 0, cells := 0, slots := 0, locals := 0 } : Room) s m #[(.int p1), (.int p2)] below meth c s₁ [] 0 0 := Stand.of_body Bd
  have e0 : s₁.heap = h0 := by rw [← hh, Bd.state]; rfl
  have N0 := Fr.nil n0
  have pre0 : ∀ t, Steps p.tables e below (s₁.setTop (mkF m 0 #[.val (.int p1), .val (.int p2)] [])) t → Steps p.tables e below (s₁.setTop (entryFrame m #[(.int p1), (.int p2)] 2)) t := fun t k => castTop (ef_7 m p1 p2) k
  obtain ⟨fs, hr, hrun, hended, hW, hsame⟩ := X0.leave (v := some (.int p1)) (fun h => by rw [Bd.returns] at h; cases h)
  refine ⟨_, _, pre0 _ ?_, hrun, hended, _, _, rfl, ?_, ⟨_, rfl⟩, hW, hsame.mono (by decide) (by decide)⟩
  · show Steps p.tables e below (s₁.setTop (mkF m 0 #[.val (.int p1), .val (.int p2)] [])) _
    refine XS.iloadN X0.here hx rfl (hb hby d7_0) rfl ?_
    show Steps p.tables e below (s₁.setTop (mkF m 1 #[.val (.int p1), .val (.int p2)] [(.int p1)])) _
    refine XS.iloadN X0.here hx rfl (hb hby d7_1) rfl ?_
    show Steps p.tables e below (s₁.setTop (mkF m 2 #[.val (.int p1), .val (.int p2)] [(.int p2), (.int p1)])) _
    refine XS.icmpNo X0.here hx rfl (hb hby d7_2) rfl (flt hc2).1 ?_
    show Steps p.tables e below (s₁.setTop (mkF m 5 #[.val (.int p1), .val (.int p2)] [])) _
    refine XS.iloadN X0.here hx rfl (hb hby d7_5) rfl ?_
    show Steps p.tables e below (s₁.setTop (mkF m 6 #[.val (.int p1), .val (.int p2)] [(.int p1)])) _
    refine XS.goto X0.here hx rfl (pc0 := 6) (pc' := 10) rfl (hb hby d7_6) (by decide) (by decide) ?_
    show Steps p.tables e below (s₁.setTop (mkF m 10 #[.val (.int p1), .val (.int p2)] [(.int p1)])) _
    exact retI X0 hx Bd.returns (hb hby d7_10) hr
  · show Q7 Z p1 h0 n0 _ s₁.heap _
    rw [e0]
    exact ⟨rfl, N0, rfl⟩
set_option maxRecDepth 65536 in
set_option maxHeartbeats 40000000 in
theorem rm7t (l : Launch) (Z : State) (a0 : Array Value) (hw : ∀ d ∈ tables_1, d.before a0 Z = true) (ws : List Jvm.Cond) (p1 p2 : Int32) (h0 : Heap) (n0 : Nat) (Z0 : n0 ≤ h0.size) (hc2 : p1 < p2) :
    MetFree l (⟨"java/lang/Math", "max", "(II)I"⟩ : MethodName) (head1 (Jvm.Cond.code (⟨"java/lang/Math", "max", "(II)I"⟩ : MethodName) jdk_29_method_65_code 2 (some .int) :: ws) ({ frames := 0, cells := 0, slots := 0, locals := 0 } : Room)) (fun a U => a = #[(.int p1), (.int p2)] ∧ Z.Warmed39 U.vm ∧ U.heap = h0) (fun _ _ _ _ _ => True) (fun _ U o U' => ∃ v L, o = .returned v ∧ Q7 Z p2 h0 n0 v U'.heap L ∧ FrameEnd U o U' L ({ frames := 0, cells := 0, slots := 0, locals := 0 } : Room).cells ({ frames := 0, cells := 0, slots := 0, locals := 0 } : Room).slots) := by
  refine MetFree.of_bodySF (Jvm.Free.JP.mathPlain rfl (by decide +kernel)) hisR ?_
  intro p e s m args below meth c s₁ Bd hml0 hP hK
  obtain ⟨rfl, hZ, hh⟩ := hP
  have hx := Bd.exec
  have hby := Bd.bytes
  have hml : c.maxLocals = 2 := hml0
  have hown : s.vm.findClass "java/lang/Math" = some m.cls := findClass_of_methodNamed Bd.named
  have hnm := (name_of_methodNamed Bd.named Bd.method).1
  have X0 : Stand p l e ({ frames := 0, cells := 0, slots := 0, locals := 0 } : Room) s m #[(.int p1), (.int p2)] below meth c s₁ [] 0 0 := Stand.of_body Bd
  have e0 : s₁.heap = h0 := by rw [← hh, Bd.state]; rfl
  have N0 := Fr.nil n0
  have pre0 : ∀ t, Steps p.tables e below (s₁.setTop (mkF m 0 #[.val (.int p1), .val (.int p2)] [])) t → Steps p.tables e below (s₁.setTop (entryFrame m #[(.int p1), (.int p2)] 2)) t := fun t k => castTop (ef_7 m p1 p2) k
  obtain ⟨fs, hr, hrun, hended, hW, hsame⟩ := X0.leave (v := some (.int p2)) (fun h => by rw [Bd.returns] at h; cases h)
  refine ⟨_, _, pre0 _ ?_, hrun, hended, _, _, rfl, ?_, ⟨_, rfl⟩, hW, hsame.mono (by decide) (by decide)⟩
  · show Steps p.tables e below (s₁.setTop (mkF m 0 #[.val (.int p1), .val (.int p2)] [])) _
    refine XS.iloadN X0.here hx rfl (hb hby d7_0) rfl ?_
    show Steps p.tables e below (s₁.setTop (mkF m 1 #[.val (.int p1), .val (.int p2)] [(.int p1)])) _
    refine XS.iloadN X0.here hx rfl (hb hby d7_1) rfl ?_
    show Steps p.tables e below (s₁.setTop (mkF m 2 #[.val (.int p1), .val (.int p2)] [(.int p2), (.int p1)])) _
    refine XS.icmpYes X0.here hx rfl (pc0 := 2) (pc' := 9) rfl (hb hby d7_2) rfl (tlt hc2).1 (by decide) (by decide) ?_
    show Steps p.tables e below (s₁.setTop (mkF m 9 #[.val (.int p1), .val (.int p2)] [])) _
    refine XS.iloadN X0.here hx rfl (hb hby d7_9) rfl ?_
    show Steps p.tables e below (s₁.setTop (mkF m 10 #[.val (.int p1), .val (.int p2)] [(.int p2)])) _
    exact retI X0 hx Bd.returns (hb hby d7_10) hr
  · show Q7 Z p2 h0 n0 _ s₁.heap _
    rw [e0]
    exact ⟨rfl, N0, rfl⟩
theorem rm7 (l : Launch) (Z : State) (a0 : Array Value) (hw : ∀ d ∈ tables_1, d.before a0 Z = true) (ws : List Jvm.Cond) (p1 p2 : Int32) (x y : Nat) (hx' : x ≤ 255) (hy' : y ≤ 255) (e1 : p1 = Int32.ofNat x) (e2 : p2 = Int32.ofNat y) (h0 : Heap) (n0 : Nat) (Z0 : n0 ≤ h0.size) :
    MetFree l (⟨"java/lang/Math", "max", "(II)I"⟩ : MethodName) (head1 (Jvm.Cond.code (⟨"java/lang/Math", "max", "(II)I"⟩ : MethodName) jdk_29_method_65_code 2 (some .int) :: ws) ({ frames := 0, cells := 0, slots := 0, locals := 0 } : Room)) (fun a U => a = #[(.int p1), (.int p2)] ∧ Z.Warmed39 U.vm ∧ U.heap = h0) (fun _ _ _ _ _ => True) (fun _ U o U' => ∃ v L, o = .returned v ∧ Q7 Z (Int32.ofNat (max x y)) h0 n0 v U'.heap L ∧ FrameEnd U o U' L ({ frames := 0, cells := 0, slots := 0, locals := 0 } : Room).cells ({ frames := 0, cells := 0, slots := 0, locals := 0 } : Room).slots) := by
  by_cases q : x < y
  · rw [show max x y = y by omega, ← e2]; exact rm7t l Z a0 hw ws p1 p2 h0 n0 Z0 (by rw [e1, e2]; exact own_lt q hy')
  · rw [show max x y = x by omega, ← e1]; exact rm7f l Z a0 hw ws p1 p2 h0 n0 Z0 (by rw [e1, e2]; exact own_nlt q hx' hy')

set_option maxRecDepth 65536 in
set_option maxHeartbeats 40000000 in
theorem tn_turn6 {p : Program} {l : Launch} {e : Env} {R : Room} {s : State} {m : MethodId} {args : Array Value} {below : List Frame} {meth : Method} {c : Code} {T0 : State} {locs : List Loc} {cells slots : Nat} {Z : State} {a0 : Array Value} {h0 : Heap} (o0 : Addr) (s1 : Slot) (i2 : Int32) (w3 : Addr) (w5 : Int32) (cl_w3 : Cell) (w7 : Int32)
    (X0 : Stand p l e R s m args below meth c T0 locs cells slots) (hx : p.tables.exec = Jvm.exec) (hZ : Z.Warmed39 s.vm) (hw : ∀ d ∈ tables_1, d.before a0 Z = true) (hby : c.code = prog_24_method_2_code) (hml : c.maxLocals = 3) (hown : s.vm.findClass "org/refold/RootClasses" = some m.cls) (e0 : T0.heap = h0) (F_parent_o0 : Fld Z h0 o0 "org/refold/RootClasses" "parent" "[I" (.ref w3)) (Ar_w3 : Arr Z h0 w3 cl_w3 .int) (hin7 : ¬ (i2 < 0 ∨ cl_w3.slots.size ≤ (i2).toNatClampNeg)) (hat7 : cl_w3.slots[(i2).toNatClampNeg]? = some (.int w5)) (hin17 : ¬ (i2 < 0 ∨ cl_w3.slots.size ≤ (i2).toNatClampNeg)) (hat17 : cl_w3.slots[(i2).toNatClampNeg]? = some (.int w7)) (hc9 : ¬ (w5 = i2)) :
    ∃ (T' : State), Stand p l e R s m args below meth c T' locs cells slots ∧ T'.heap = h0 ∧
      ∀ target, Steps p.tables e below (T'.setTop (mkF m 2 #[.val (.ref o0), s1, .val (.int w7)] [])) target → Steps p.tables e below (T0.setTop (mkF m 2 #[.val (.ref o0), s1, .val (.int i2)] [])) target := by
  obtain ⟨T4, X4, e4, st4⟩ := getF X0 hx hZ hown (host := "") (Or.inl (hw _ (List.mem_of_getElem? (i := 10) rfl))) Via.refl e0 F_parent_o0 (g := (mkF m 3 #[.val (.ref o0), s1, .val (.int i2)] [(.ref o0)])) rfl rfl (hb hby d6_3)
  obtain ⟨T6, X6, e6, st6⟩ := getF X4 hx hZ hown (host := "") (Or.inl (hw _ (List.mem_of_getElem? (i := 10) rfl))) Via.refl e4 F_parent_o0 (g := (mkF m 13 #[.val (.ref o0), s1, .val (.int i2)] [(.ref o0)])) rfl rfl (hb hby d6_13)
  refine ⟨T6, X6, e6, fun target kt => ?_⟩
  show Steps p.tables e below (T0.setTop (mkF m 2 #[.val (.ref o0), s1, .val (.int i2)] [])) _
  refine XS.aloadN X0.here hx rfl (hb hby d6_2) rfl rfl ?_
  show Steps p.tables e below (T0.setTop (mkF m 3 #[.val (.ref o0), s1, .val (.int i2)] [(.ref o0)])) _
  refine st4 _ ?_
  show Steps p.tables e below (T4.setTop (mkF m 6 #[.val (.ref o0), s1, .val (.int i2)] [(.ref w3)])) _
  refine XS.iloadN X4.here hx rfl (hb hby d6_6) rfl ?_
  show Steps p.tables e below (T4.setTop (mkF m 7 #[.val (.ref o0), s1, .val (.int i2)] [(.int i2), (.ref w3)])) _
  refine X4.iaload hx (j := i2) (v := (.int w5)) (by rw [e4]; exact Ar_w3.1) (State.isArrayOf_alike hZ.alike Ar_w3.2.1) Ar_w3.2.2 hin7 hat7 (g := (mkF m 7 #[.val (.ref o0), s1, .val (.int i2)] [(.int i2), (.ref w3)])) rfl rfl (hb hby d6_7) _ ?_
  show Steps p.tables e below (T4.setTop (mkF m 8 #[.val (.ref o0), s1, .val (.int i2)] [(.int w5)])) _
  refine XS.iloadN X4.here hx rfl (hb hby d6_8) rfl ?_
  show Steps p.tables e below (T4.setTop (mkF m 9 #[.val (.ref o0), s1, .val (.int i2)] [(.int i2), (.int w5)])) _
  refine XS.icmpNo X4.here hx rfl (hb hby d6_9) rfl (feq hc9).1 ?_
  show Steps p.tables e below (T4.setTop (mkF m 12 #[.val (.ref o0), s1, .val (.int i2)] [])) _
  refine XS.aloadN X4.here hx rfl (hb hby d6_12) rfl rfl ?_
  show Steps p.tables e below (T4.setTop (mkF m 13 #[.val (.ref o0), s1, .val (.int i2)] [(.ref o0)])) _
  refine st6 _ ?_
  show Steps p.tables e below (T6.setTop (mkF m 16 #[.val (.ref o0), s1, .val (.int i2)] [(.ref w3)])) _
  refine XS.iloadN X6.here hx rfl (hb hby d6_16) rfl ?_
  show Steps p.tables e below (T6.setTop (mkF m 17 #[.val (.ref o0), s1, .val (.int i2)] [(.int i2), (.ref w3)])) _
  refine X6.iaload hx (j := i2) (v := (.int w7)) (by rw [e6]; exact Ar_w3.1) (State.isArrayOf_alike hZ.alike Ar_w3.2.1) Ar_w3.2.2 hin17 hat17 (g := (mkF m 17 #[.val (.ref o0), s1, .val (.int i2)] [(.int i2), (.ref w3)])) rfl rfl (hb hby d6_17) _ ?_
  show Steps p.tables e below (T6.setTop (mkF m 18 #[.val (.ref o0), s1, .val (.int i2)] [(.int w7)])) _
  refine XS.istoreN X6.here hx rfl (hb hby d6_18) rfl (l' := #[.val (.ref o0), s1, .val (.int w7)]) rfl ?_
  show Steps p.tables e below (T6.setTop (mkF m 19 #[.val (.ref o0), s1, .val (.int w7)] [])) _
  refine XS.goto X6.here hx rfl (pc0 := 19) (pc' := 2) rfl (hb hby d6_19) (by decide) (by decide) ?_
  exact kt
set_option maxRecDepth 65536 in
set_option maxHeartbeats 40000000 in
theorem tn_leave6 {p : Program} {l : Launch} {e : Env} {R : Room} {s : State} {m : MethodId} {args : Array Value} {below : List Frame} {meth : Method} {c : Code} {T0 : State} {locs : List Loc} {cells slots : Nat} {Z : State} {a0 : Array Value} {h0 : Heap} (o0 : Addr) (s1 : Slot) (i2 : Int32) (w3 : Addr) (w5 : Int32) (cl_w3 : Cell)
    (X0 : Stand p l e R s m args below meth c T0 locs cells slots) (hx : p.tables.exec = Jvm.exec) (hZ : Z.Warmed39 s.vm) (hw : ∀ d ∈ tables_1, d.before a0 Z = true) (hby : c.code = prog_24_method_2_code) (hml : c.maxLocals = 3) (hown : s.vm.findClass "org/refold/RootClasses" = some m.cls) (e0 : T0.heap = h0) (F_parent_o0 : Fld Z h0 o0 "org/refold/RootClasses" "parent" "[I" (.ref w3)) (Ar_w3 : Arr Z h0 w3 cl_w3 .int) (hin7 : ¬ (i2 < 0 ∨ cl_w3.slots.size ≤ (i2).toNatClampNeg)) (hat7 : cl_w3.slots[(i2).toNatClampNeg]? = some (.int w5)) (hc9 : w5 = i2) :
    ∃ (T' : State), Stand p l e R s m args below meth c T' locs cells slots ∧ T'.heap = h0 ∧
      ∀ target, Steps p.tables e below (T'.setTop (mkF m 22 #[.val (.ref o0), s1, .val (.int i2)] [])) target → Steps p.tables e below (T0.setTop (mkF m 2 #[.val (.ref o0), s1, .val (.int i2)] [])) target := by
  obtain ⟨T4, X4, e4, st4⟩ := getF X0 hx hZ hown (host := "") (Or.inl (hw _ (List.mem_of_getElem? (i := 10) rfl))) Via.refl e0 F_parent_o0 (g := (mkF m 3 #[.val (.ref o0), s1, .val (.int i2)] [(.ref o0)])) rfl rfl (hb hby d6_3)
  refine ⟨T4, X4, e4, fun target kt => ?_⟩
  show Steps p.tables e below (T0.setTop (mkF m 2 #[.val (.ref o0), s1, .val (.int i2)] [])) _
  refine XS.aloadN X0.here hx rfl (hb hby d6_2) rfl rfl ?_
  show Steps p.tables e below (T0.setTop (mkF m 3 #[.val (.ref o0), s1, .val (.int i2)] [(.ref o0)])) _
  refine st4 _ ?_
  show Steps p.tables e below (T4.setTop (mkF m 6 #[.val (.ref o0), s1, .val (.int i2)] [(.ref w3)])) _
  refine XS.iloadN X4.here hx rfl (hb hby d6_6) rfl ?_
  show Steps p.tables e below (T4.setTop (mkF m 7 #[.val (.ref o0), s1, .val (.int i2)] [(.int i2), (.ref w3)])) _
  refine X4.iaload hx (j := i2) (v := (.int w5)) (by rw [e4]; exact Ar_w3.1) (State.isArrayOf_alike hZ.alike Ar_w3.2.1) Ar_w3.2.2 hin7 hat7 (g := (mkF m 7 #[.val (.ref o0), s1, .val (.int i2)] [(.int i2), (.ref w3)])) rfl rfl (hb hby d6_7) _ ?_
  show Steps p.tables e below (T4.setTop (mkF m 8 #[.val (.ref o0), s1, .val (.int i2)] [(.int w5)])) _
  refine XS.iloadN X4.here hx rfl (hb hby d6_8) rfl ?_
  show Steps p.tables e below (T4.setTop (mkF m 9 #[.val (.ref o0), s1, .val (.int i2)] [(.int i2), (.int w5)])) _
  refine XS.icmpYes X4.here hx rfl (pc0 := 9) (pc' := 22) rfl (hb hby d6_9) rfl (teq hc9).1 (by decide) (by decide) ?_
  exact kt
set_option maxRecDepth 65536 in
set_option maxHeartbeats 40000000 in
theorem tn_in6 {p : Program} {l : Launch} {e : Env} {R : Room} {s : State} {m : MethodId} {args : Array Value} {below : List Frame} {meth : Method} {c : Code} {T0 : State} {locs : List Loc} {cells slots : Nat} {Z : State} {a0 : Array Value} {h0 : Heap} (s0 : Slot) (i1 : Int32) (s2 : Slot)
    (X0 : Stand p l e R s m args below meth c T0 locs cells slots) (hx : p.tables.exec = Jvm.exec) (hZ : Z.Warmed39 s.vm) (hw : ∀ d ∈ tables_1, d.before a0 Z = true) (hby : c.code = prog_24_method_2_code) (hml : c.maxLocals = 3) (hown : s.vm.findClass "org/refold/RootClasses" = some m.cls) (e0 : T0.heap = h0) (hs2 : One s2) :
    ∀ target, Steps p.tables e below (T0.setTop (mkF m 2 #[s0, .val (.int i1), .val (.int i1)] [])) target → Steps p.tables e below (T0.setTop (mkF m 0 #[s0, .val (.int i1), s2] [])) target := by
  intro target kt
  show Steps p.tables e below (T0.setTop (mkF m 0 #[s0, .val (.int i1), s2] [])) _
  refine XS.iloadN X0.here hx rfl (hb hby d6_0) rfl ?_
  show Steps p.tables e below (T0.setTop (mkF m 1 #[s0, .val (.int i1), s2] [(.int i1)])) _
  refine XS.istoreN X0.here hx rfl (hb hby d6_1) rfl (l' := #[s0, .val (.int i1), .val (.int i1)]) (os6_1_8 hs2) ?_
  exact kt
set_option maxRecDepth 65536 in
set_option maxHeartbeats 40000000 in
theorem tn_out6 {p : Program} {l : Launch} {e : Env} {R : Room} {s : State} {m : MethodId} {args : Array Value} {below : List Frame} {meth : Method} {c : Code} {T0 : State} {locs : List Loc} {cells slots : Nat} {Z : State} {a0 : Array Value} {h0 : Heap} (s0 : Slot) (s1 : Slot) (i2 : Int32)
    (X0 : Stand p l e R s m args below meth c T0 locs cells slots) (hx : p.tables.exec = Jvm.exec) (hZ : Z.Warmed39 s.vm) (hw : ∀ d ∈ tables_1, d.before a0 Z = true) (hby : c.code = prog_24_method_2_code) (hml : c.maxLocals = 3) (hown : s.vm.findClass "org/refold/RootClasses" = some m.cls) (e0 : T0.heap = h0) :
    ∀ target, Steps p.tables e below (T0.setTop (mkF m 23 #[s0, s1, .val (.int i2)] [(.int i2)])) target → Steps p.tables e below (T0.setTop (mkF m 22 #[s0, s1, .val (.int i2)] [])) target := by
  intro target kt
  show Steps p.tables e below (T0.setTop (mkF m 22 #[s0, s1, .val (.int i2)] [])) _
  refine XS.iloadN X0.here hx rfl (hb hby d6_22) rfl ?_
  exact kt
/-- **find's LOOP, WHOLE** -/
theorem own_loop6 {p : Program} {l : Launch} {e : Env} {R : Room} {s : State} {m : MethodId} {args : Array Value} {below : List Frame} {meth : Method} {c : Code} {cells slots : Nat} {Z : State} {a0 : Array Value} {locs : List Loc} {h0 : Heap} (o0 w3 : Addr) (s1 : Slot) (P : List Nat) (hv : ∀ j, j < 4 → own_get P j ≤ j) (n0 : Nat) (HR : RC Z h0 n0 o0 w3 P) (hx : p.tables.exec = Jvm.exec) (hZ : Z.Warmed39 s.vm) (hw : ∀ d ∈ tables_1, d.before a0 Z = true) (hby : c.code = prog_24_method_2_code) (hml : c.maxLocals = 3) (hown : s.vm.findClass "org/refold/RootClasses" = some m.cls) :
    ∀ (k a : Nat) (T0 : State), a < k → a < 4 → Stand p l e R s m args below meth c T0 locs cells slots → T0.heap = h0 →
      ∃ (T' : State), Stand p l e R s m args below meth c T' locs cells slots ∧ T'.heap = h0 ∧
        ∀ target, Steps p.tables e below (T'.setTop (mkF m 22 #[.val (.ref o0), s1, .val (.int (Int32.ofNat (own_find P k a)))] [])) target → Steps p.tables e below (T0.setTop (mkF m 2 #[.val (.ref o0), s1, .val (.int (Int32.ofNat a))] [])) target := by
  obtain ⟨g1, g2, ne, E, F, cl, Ar, Sz, H⟩ := id HR
  intro k
  induction k with
  | zero => intro a T0 hk; omega
  | succ k ih =>
    intro a T0 hk ha X0 e0
    have hin : ¬ (Int32.ofNat a < 0 ∨ cl.slots.size ≤ (Int32.ofNat a).toNatClampNeg) := by
      rw [Sz, own_n32 (by omega)]; exact fun q => q.elim (own_nn (by omega)) (fun q => by omega)
    have hat : cl.slots[(Int32.ofNat a).toNatClampNeg]? = some (.int (Int32.ofNat (own_get P a))) := by rw [own_n32 (by omega)]; exact H a ha
    have hva := hv a ha
    by_cases h : own_get P a = a
    · obtain ⟨T1, X1, e1, st1⟩ := tn_leave6 o0 s1 (Int32.ofNat a) w3 (Int32.ofNat (own_get P a)) cl X0 hx hZ hw hby hml hown e0 F Ar hin hat (by rw [h])
      have q : own_find P (k + 1) a = a := by rw [own_find, if_pos h]
      rw [q]
      exact ⟨T1, X1, e1, st1⟩
    · obtain ⟨T1, X1, e1, st1⟩ := tn_turn6 o0 s1 (Int32.ofNat a) w3 (Int32.ofNat (own_get P a)) cl (Int32.ofNat (own_get P a)) X0 hx hZ hw hby hml hown e0 F Ar hin hat hin hat (own_ne h (by omega) (by omega))
      obtain ⟨T2, X2, e2, st2⟩ := ih (own_get P a) T1 (by omega) (by omega) X1 e1
      have q : own_find P (k + 1) a = own_find P k (own_get P a) := by rw [own_find, if_neg h]
      rw [q]
      exact ⟨T2, X2, e2, fun target u => st1 target (st2 target u)⟩

def Q6 (Z : State) (r : Int32) (h0 : Heap) (n0 : Nat) (v : Option Value) (h : Heap) (L : List Loc) : Prop := v = some (.int r) ∧ Fr n0 L ∧ h = h0
set_option maxRecDepth 65536 in
set_option maxHeartbeats 40000000 in
theorem rm6 (l : Launch) (Z : State) (a0 : Array Value) (hw : ∀ d ∈ tables_1, d.before a0 Z = true) (ws : List Jvm.Cond) (a1 : Addr) (p2 : Int32) (w3 : Addr) (P : List Nat) (i : Nat) (hi : i < 4) (hp : p2 = Int32.ofNat i) (hv : ∀ j, j < 4 → own_get P j ≤ j) (h0 : Heap) (n0 : Nat) (HR : RC Z h0 n0 a1 w3 P) :
    MetFree l (⟨"org/refold/RootClasses", "find", "(I)I"⟩ : MethodName) (head1 (Jvm.Cond.code (⟨"org/refold/RootClasses", "find", "(I)I"⟩ : MethodName) prog_24_method_2_code 3 (some .int) :: ws) ({ frames := 0, cells := 0, slots := 0, locals := 0 } : Room)) (fun a U => a = #[(.ref a1), (.int p2)] ∧ Z.Warmed39 U.vm ∧ U.heap = h0) (fun _ _ _ _ _ => True) (fun _ U o U' => ∃ v L, o = .returned v ∧ Q6 Z (Int32.ofNat (own_fnd P i)) h0 n0 v U'.heap L ∧ FrameEnd U o U' L ({ frames := 0, cells := 0, slots := 0, locals := 0 } : Room).cells ({ frames := 0, cells := 0, slots := 0, locals := 0 } : Room).slots) := by
  refine MetFree.of_bodySF (plainFor_of_name pn_6) hisR ?_
  intro p e s m args below meth c s₁ Bd hml0 hP hK
  obtain ⟨rfl, hZ, hh⟩ := hP
  have hx := Bd.exec
  have hby := Bd.bytes
  have hml : c.maxLocals = 3 := hml0
  have hown : s.vm.findClass "org/refold/RootClasses" = some m.cls := findClass_of_methodNamed Bd.named
  have hnm := (name_of_methodNamed Bd.named Bd.method).1
  have X0 : Stand p l e ({ frames := 0, cells := 0, slots := 0, locals := 0 } : Room) s m #[(.ref a1), (.int p2)] below meth c s₁ [] 0 0 := Stand.of_body Bd
  have e0 : s₁.heap = h0 := by rw [← hh, Bd.state]; rfl
  have N0 := Fr.nil n0
  have pre0 : ∀ t, Steps p.tables e below (s₁.setTop (mkF m 0 #[.val (.ref a1), .val (.int p2), .unset] [])) t → Steps p.tables e below (s₁.setTop (entryFrame m #[(.ref a1), (.int p2)] 3)) t := fun t k => castTop (ef_6 m a1 p2) k
  obtain ⟨T1, X1, e1, st1⟩ := own_loop6 a1 w3 (.val (.int p2)) P hv n0 HR hx hZ hw hby hml hown 4 i s₁ (by omega) hi X0 e0
  obtain ⟨fs, hr, hrun, hended, hW, hsame⟩ := X1.leave (v := some (.int (Int32.ofNat (own_fnd P i)))) (fun h => by rw [Bd.returns] at h; cases h)
  refine ⟨_, _, pre0 _ ?_, hrun, hended, _, _, rfl, ?_, ⟨_, rfl⟩, hW, hsame.mono (by decide) (by decide)⟩
  · show Steps p.tables e below (s₁.setTop (mkF m 0 #[.val (.ref a1), .val (.int p2), .unset] [])) _
    refine tn_in6 (.val (.ref a1)) p2 .unset X0 hx hZ hw hby hml hown e0 One.u _ ?_
    have st2 := st1
    rw [← hp] at st2
    refine st2 _ ?_
    refine tn_out6 (.val (.ref a1)) (.val (.int p2)) (Int32.ofNat (own_fnd P i)) X1 hx hZ hw hby hml hown e1 _ ?_
    exact retI X1 hx Bd.returns (hb hby d6_23) hr
  · show Q6 Z (Int32.ofNat (own_fnd P i)) h0 n0 _ T1.heap _
    rw [e1]
    exact ⟨rfl, N0, rfl⟩

def Q5 (Z : State) (h0 : Heap) (a1 w6 : Addr) (r : Int32) (P : List Nat) (n0 : Nat) (v : Option Value) (h : Heap) (L : List Loc) : Prop := v = some (.int r) ∧ Fr n0 L ∧ Keep h0 h [w6] ∧ RC Z h n0 a1 w6 P
set_option maxRecDepth 65536 in
set_option maxHeartbeats 40000000 in
theorem rm5f (l : Launch) (Z : State) (a0 : Array Value) (hw : ∀ d ∈ tables_1, d.before a0 Z = true) (ws : List Jvm.Cond) (a1 : Addr) (p2 : Int32) (p3 : Int32) (w6 : Addr) (P Lb : List Nat) (hok : OK P Lb) (i j : Nat) (hi : i < 4) (hj : j < 4) (hp2 : p2 = Int32.ofNat i) (hp3 : p3 = Int32.ofNat j) (h0 : Heap) (n0 : Nat) (HR : RC Z h0 n0 a1 w6 P) (he : own_fnd P i = own_fnd P j) :
    MetFree l (⟨"org/refold/RootClasses", "merge", "(II)Z"⟩ : MethodName) (head1 (Jvm.Cond.code (⟨"org/refold/RootClasses", "merge", "(II)Z"⟩ : MethodName) prog_24_method_3_code 5 (some .boolean) :: ws) ({ frames := 1, cells := 0, slots := 0, locals := 32 } : Room)) (fun a U => a = #[(.ref a1), (.int p2), (.int p3)] ∧ Z.Warmed39 U.vm ∧ U.heap = h0) (fun _ _ _ _ _ => True) (fun _ U o U' => ∃ v L, o = .returned v ∧ Q5 Z h0 a1 w6 (0 : Int32) P n0 v U'.heap L ∧ FrameEnd U o U' L ({ frames := 1, cells := 0, slots := 0, locals := 32 } : Room).cells ({ frames := 1, cells := 0, slots := 0, locals := 32 } : Room).slots) := by
  refine MetFree.of_bodySF (plainFor_of_name pn_5) hisR ?_
  intro p e s m args below meth c s₁ Bd hml0 hP hK
  obtain ⟨rfl, hZ, hh⟩ := hP
  have hx := Bd.exec
  have hby := Bd.bytes
  have hml : c.maxLocals = 5 := hml0
  have hown : s.vm.findClass "org/refold/RootClasses" = some m.cls := findClass_of_methodNamed Bd.named
  have hnm := (name_of_methodNamed Bd.named Bd.method).1
  have X0 : Stand p l e ({ frames := 1, cells := 0, slots := 0, locals := 32 } : Room) s m #[(.ref a1), (.int p2), (.int p3)] below meth c s₁ [] 0 0 := Stand.of_body Bd
  have e0 : s₁.heap = h0 := by rw [← hh, Bd.state]; rfl
  have N0 := Fr.nil n0
  have Z0 := HR.sz
  obtain ⟨g_a1, g_w6, ne, E_a1, F_parent_a1, HI⟩ := id HR
  have fi := hok.fnd hi
  have fj := hok.fnd hj
  have pre0 : ∀ t, Steps p.tables e below (s₁.setTop (mkF m 0 #[.val (.ref a1), .val (.int p2), .val (.int p3), .unset, .unset] [])) t → Steps p.tables e below (s₁.setTop (entryFrame m #[(.ref a1), (.int p2), (.int p3)] 5)) t := fun t k => castTop (ef_5 m a1 p2 p3) k
  obtain ⟨cq4, kq4, q4a, q4b, q4c⟩ := isOf hZ e0 E_a1
  obtain ⟨_, _, ⟨T4, L4, k4, n4⟩, -, X4, ⟨Lc4, hQ4, l4, y4, z4⟩, st4⟩ := X0.virtualBack hx (y := (⟨"org/refold/RootClasses", "find", "(I)I"⟩ : MethodName)) (z := (⟨"org/refold/RootClasses", "find", "(I)I"⟩ : MethodName)) hown (mvT hZ (hw _ (List.mem_of_getElem? (i := 25) rfl))) (mvT hZ (hw _ (List.mem_of_getElem? (i := 26) rfl))) (notFace_of_selects (args := #[]) (mvT hZ (hw _ (List.mem_of_getElem? (i := 28) rfl)))) (mvT hZ (hw _ (List.mem_of_getElem? (i := 28) rfl))) (mvT hZ (hw _ (List.mem_of_getElem? (i := 27) rfl))) (by decide) (backOf (W := 0) (rm6 l Z a0 hw [] a1 p2 w6 P i hi hp2 hok.2.1 h0 n0 HR) hZ (hw _ (List.mem_of_getElem? (i := 29) rfl)) (hw _ (List.mem_of_getElem? (i := 2) rfl)) (by decide) (by decide)) q4a q4c (g := (mkF m 2 #[.val (.ref a1), .val (.int p2), .val (.int p3), .unset, .unset] [(.int p2), (.ref a1)])) rfl (by rw [hml]; rfl) (Steps.refl _) (argsL := [(.int p2)]) (rest := []) (lenOf pdq_0 rfl) rfl (by show 2 * 0 + _ ≤ _; exact Nat.le_of_eq rfl) (hb hby d5_2) (fun _ _ => ⟨rfl, e0, (by decide : 0 + 0 ≤ _), (by decide : 0 + 0 ≤ _)⟩)
  dsimp only [Pt.U, Pt.locs, Pt.cells, Pt.slots] at X4 l4 y4 z4 st4 hQ4
  subst l4 y4 z4
  obtain ⟨rfl, N4q, e4⟩ := hQ4
  have HR4 : RC Z T4.heap n0 a1 w6 P := by rw [e4]; exact HR
  have N4 := Fr.app N0 N4q
  obtain ⟨cq5, kq5, q5a, q5b, q5c⟩ := isOf hZ rfl HR4.2.2.2.1
  obtain ⟨_, _, ⟨T5, L5, k5, n5⟩, -, X5, ⟨Lc5, hQ5, l5, y5, z5⟩, st5⟩ := X4.virtualBack hx (y := (⟨"org/refold/RootClasses", "find", "(I)I"⟩ : MethodName)) (z := (⟨"org/refold/RootClasses", "find", "(I)I"⟩ : MethodName)) hown (mvT hZ (hw _ (List.mem_of_getElem? (i := 25) rfl))) (mvT hZ (hw _ (List.mem_of_getElem? (i := 26) rfl))) (notFace_of_selects (args := #[]) (mvT hZ (hw _ (List.mem_of_getElem? (i := 28) rfl)))) (mvT hZ (hw _ (List.mem_of_getElem? (i := 28) rfl))) (mvT hZ (hw _ (List.mem_of_getElem? (i := 27) rfl))) (by decide) (backOf (W := 0) (rm6 l Z a0 hw [] a1 p3 w6 P j hj hp3 hok.2.1 T4.heap n0 HR4) hZ (hw _ (List.mem_of_getElem? (i := 29) rfl)) (hw _ (List.mem_of_getElem? (i := 2) rfl)) (by decide) (by decide)) q5a q5c (g := (mkF m 8 #[.val (.ref a1), .val (.int p2), .val (.int p3), .val (.int (Int32.ofNat (own_fnd P i))), .unset] [(.int p3), (.ref a1)])) rfl (by rw [hml]; rfl) (Steps.refl _) (argsL := [(.int p3)]) (rest := []) (lenOf pdq_0 rfl) rfl (by show 2 * 0 + _ ≤ _; exact Nat.le_of_eq rfl) (hb hby d5_8) (fun _ _ => ⟨rfl, rfl, (by decide : 0 + 0 ≤ _), (by decide : 0 + 0 ≤ _)⟩)
  dsimp only [Pt.U, Pt.locs, Pt.cells, Pt.slots] at X5 l5 y5 z5 st5 hQ5
  subst l5 y5 z5
  obtain ⟨rfl, N5q, e5⟩ := hQ5
  have HR5 : RC Z T5.heap n0 a1 w6 P := by rw [e5]; exact HR4
  have N5 := Fr.app N4 N5q
  obtain ⟨fs, hr, hrun, hended, hW, hsame⟩ := X5.leave (v := some (.int (0 : Int32))) (fun h => by rw [Bd.returns] at h; cases h)
  refine ⟨_, _, pre0 _ ?_, hrun, hended, _, _, rfl, ?_, ⟨_, rfl⟩, hW, hsame.mono (by decide) (by decide)⟩
  · show Steps p.tables e below (s₁.setTop (mkF m 0 #[.val (.ref a1), .val (.int p2), .val (.int p3), .unset, .unset] [])) _
    refine XS.aloadN X0.here hx rfl (hb hby d5_0) rfl rfl ?_
    show Steps p.tables e below (s₁.setTop (mkF m 1 #[.val (.ref a1), .val (.int p2), .val (.int p3), .unset, .unset] [(.ref a1)])) _
    refine XS.iloadN X0.here hx rfl (hb hby d5_1) rfl ?_
    show Steps p.tables e below (s₁.setTop (mkF m 2 #[.val (.ref a1), .val (.int p2), .val (.int p3), .unset, .unset] [(.int p2), (.ref a1)])) _
    refine st4.trans ?_
    show Steps p.tables e below (T4.setTop (mkF m 5 #[.val (.ref a1), .val (.int p2), .val (.int p3), .unset, .unset] [(.int (Int32.ofNat (own_fnd P i)))])) _
    refine XS.istoreN X4.here hx rfl (hb hby d5_5) rfl (l' := #[.val (.ref a1), .val (.int p2), .val (.int p3), .val (.int (Int32.ofNat (own_fnd P i))), .unset]) rfl ?_
    show Steps p.tables e below (T4.setTop (mkF m 6 #[.val (.ref a1), .val (.int p2), .val (.int p3), .val (.int (Int32.ofNat (own_fnd P i))), .unset] [])) _
    refine XS.aloadN X4.here hx rfl (hb hby d5_6) rfl rfl ?_
    show Steps p.tables e below (T4.setTop (mkF m 7 #[.val (.ref a1), .val (.int p2), .val (.int p3), .val (.int (Int32.ofNat (own_fnd P i))), .unset] [(.ref a1)])) _
    refine XS.iloadN X4.here hx rfl (hb hby d5_7) rfl ?_
    show Steps p.tables e below (T4.setTop (mkF m 8 #[.val (.ref a1), .val (.int p2), .val (.int p3), .val (.int (Int32.ofNat (own_fnd P i))), .unset] [(.int p3), (.ref a1)])) _
    refine st5.trans ?_
    show Steps p.tables e below (T5.setTop (mkF m 11 #[.val (.ref a1), .val (.int p2), .val (.int p3), .val (.int (Int32.ofNat (own_fnd P i))), .unset] [(.int (Int32.ofNat (own_fnd P j)))])) _
    refine XS.istore X5.here hx rfl (hb hby d5_11) rfl (l' := #[.val (.ref a1), .val (.int p2), .val (.int p3), .val (.int (Int32.ofNat (own_fnd P i))), .val (.int (Int32.ofNat (own_fnd P j)))]) rfl ?_
    show Steps p.tables e below (T5.setTop (mkF m 13 #[.val (.ref a1), .val (.int p2), .val (.int p3), .val (.int (Int32.ofNat (own_fnd P i))), .val (.int (Int32.ofNat (own_fnd P j)))] [])) _
    refine XS.iloadN X5.here hx rfl (hb hby d5_13) rfl ?_
    show Steps p.tables e below (T5.setTop (mkF m 14 #[.val (.ref a1), .val (.int p2), .val (.int p3), .val (.int (Int32.ofNat (own_fnd P i))), .val (.int (Int32.ofNat (own_fnd P j)))] [(.int (Int32.ofNat (own_fnd P i)))])) _
    refine XS.iload X5.here hx rfl (hb hby d5_14) rfl ?_
    show Steps p.tables e below (T5.setTop (mkF m 16 #[.val (.ref a1), .val (.int p2), .val (.int p3), .val (.int (Int32.ofNat (own_fnd P i))), .val (.int (Int32.ofNat (own_fnd P j)))] [(.int (Int32.ofNat (own_fnd P j))), (.int (Int32.ofNat (own_fnd P i)))])) _
    refine XS.icmpNo X5.here hx rfl (hb hby d5_16) rfl (teq ((congrArg Int32.ofNat he) : (Int32.ofNat (own_fnd P i)) = (Int32.ofNat (own_fnd P j)))).2 ?_
    show Steps p.tables e below (T5.setTop (mkF m 19 #[.val (.ref a1), .val (.int p2), .val (.int p3), .val (.int (Int32.ofNat (own_fnd P i))), .val (.int (Int32.ofNat (own_fnd P j)))] [])) _
    refine XS.iconst X5.here hx rfl (hb hby d5_19) ?_
    show Steps p.tables e below (T5.setTop (mkF m 20 #[.val (.ref a1), .val (.int p2), .val (.int p3), .val (.int (Int32.ofNat (own_fnd P i))), .val (.int (Int32.ofNat (own_fnd P j)))] [(.int (0 : Int32))])) _
    exact retN X5 hx (t := .boolean) Bd.returns (by simp) (hb hby d5_20) hr
  · show Q5 Z h0 a1 w6 (0 : Int32) P n0 _ T5.heap _
    rw [e5, e4]
    exact ⟨rfl, N5, Keep.refl _ _, HR⟩

set_option maxRecDepth 65536 in
set_option maxHeartbeats 40000000 in
theorem rm5t (l : Launch) (Z : State) (a0 : Array Value) (hw : ∀ d ∈ tables_1, d.before a0 Z = true) (ws : List Jvm.Cond) (a1 : Addr) (p2 : Int32) (p3 : Int32) (w6 : Addr) (P Lb : List Nat) (hok : OK P Lb) (i j : Nat) (hi : i < 4) (hj : j < 4) (hp2 : p2 = Int32.ofNat i) (hp3 : p3 = Int32.ofNat j) (h0 : Heap) (n0 : Nat) (HR : RC Z h0 n0 a1 w6 P) (he : ¬ own_fnd P i = own_fnd P j) :
    MetFree l (⟨"org/refold/RootClasses", "merge", "(II)Z"⟩ : MethodName) (head1 (Jvm.Cond.code (⟨"org/refold/RootClasses", "merge", "(II)Z"⟩ : MethodName) prog_24_method_3_code 5 (some .boolean) :: ws) ({ frames := 1, cells := 0, slots := 0, locals := 32 } : Room)) (fun a U => a = #[(.ref a1), (.int p2), (.int p3)] ∧ Z.Warmed39 U.vm ∧ U.heap = h0) (fun _ _ _ _ _ => True) (fun _ U o U' => ∃ v L, o = .returned v ∧ Q5 Z h0 a1 w6 (1 : Int32) (P.set (max (own_fnd P i) (own_fnd P j)) (min (own_fnd P i) (own_fnd P j))) n0 v U'.heap L ∧ FrameEnd U o U' L ({ frames := 1, cells := 0, slots := 0, locals := 32 } : Room).cells ({ frames := 1, cells := 0, slots := 0, locals := 32 } : Room).slots) := by
  refine MetFree.of_bodySF (plainFor_of_name pn_5) hisR ?_
  intro p e s m args below meth c s₁ Bd hml0 hP hK
  obtain ⟨rfl, hZ, hh⟩ := hP
  have hx := Bd.exec
  have hby := Bd.bytes
  have hml : c.maxLocals = 5 := hml0
  have hown : s.vm.findClass "org/refold/RootClasses" = some m.cls := findClass_of_methodNamed Bd.named
  have hnm := (name_of_methodNamed Bd.named Bd.method).1
  have X0 : Stand p l e ({ frames := 1, cells := 0, slots := 0, locals := 32 } : Room) s m #[(.ref a1), (.int p2), (.int p3)] below meth c s₁ [] 0 0 := Stand.of_body Bd
  have e0 : s₁.heap = h0 := by rw [← hh, Bd.state]; rfl
  have N0 := Fr.nil n0
  have Z0 := HR.sz
  obtain ⟨g_a1, g_w6, ne, E_a1, F_parent_a1, HI⟩ := id HR
  have fi := hok.fnd hi
  have fj := hok.fnd hj
  have pre0 : ∀ t, Steps p.tables e below (s₁.setTop (mkF m 0 #[.val (.ref a1), .val (.int p2), .val (.int p3), .unset, .unset] [])) t → Steps p.tables e below (s₁.setTop (entryFrame m #[(.ref a1), (.int p2), (.int p3)] 5)) t := fun t k => castTop (ef_5 m a1 p2 p3) k
  obtain ⟨cq4, kq4, q4a, q4b, q4c⟩ := isOf hZ e0 E_a1
  obtain ⟨_, _, ⟨T4, L4, k4, n4⟩, -, X4, ⟨Lc4, hQ4, l4, y4, z4⟩, st4⟩ := X0.virtualBack hx (y := (⟨"org/refold/RootClasses", "find", "(I)I"⟩ : MethodName)) (z := (⟨"org/refold/RootClasses", "find", "(I)I"⟩ : MethodName)) hown (mvT hZ (hw _ (List.mem_of_getElem? (i := 25) rfl))) (mvT hZ (hw _ (List.mem_of_getElem? (i := 26) rfl))) (notFace_of_selects (args := #[]) (mvT hZ (hw _ (List.mem_of_getElem? (i := 28) rfl)))) (mvT hZ (hw _ (List.mem_of_getElem? (i := 28) rfl))) (mvT hZ (hw _ (List.mem_of_getElem? (i := 27) rfl))) (by decide) (backOf (W := 0) (rm6 l Z a0 hw [] a1 p2 w6 P i hi hp2 hok.2.1 h0 n0 HR) hZ (hw _ (List.mem_of_getElem? (i := 29) rfl)) (hw _ (List.mem_of_getElem? (i := 2) rfl)) (by decide) (by decide)) q4a q4c (g := (mkF m 2 #[.val (.ref a1), .val (.int p2), .val (.int p3), .unset, .unset] [(.int p2), (.ref a1)])) rfl (by rw [hml]; rfl) (Steps.refl _) (argsL := [(.int p2)]) (rest := []) (lenOf pdq_0 rfl) rfl (by show 2 * 0 + _ ≤ _; exact Nat.le_of_eq rfl) (hb hby d5_2) (fun _ _ => ⟨rfl, e0, (by decide : 0 + 0 ≤ _), (by decide : 0 + 0 ≤ _)⟩)
  dsimp only [Pt.U, Pt.locs, Pt.cells, Pt.slots] at X4 l4 y4 z4 st4 hQ4
  subst l4 y4 z4
  obtain ⟨rfl, N4q, e4⟩ := hQ4
  have HR4 : RC Z T4.heap n0 a1 w6 P := by rw [e4]; exact HR
  have N4 := Fr.app N0 N4q
  obtain ⟨cq5, kq5, q5a, q5b, q5c⟩ := isOf hZ rfl HR4.2.2.2.1
  obtain ⟨_, _, ⟨T5, L5, k5, n5⟩, -, X5, ⟨Lc5, hQ5, l5, y5, z5⟩, st5⟩ := X4.virtualBack hx (y := (⟨"org/refold/RootClasses", "find", "(I)I"⟩ : MethodName)) (z := (⟨"org/refold/RootClasses", "find", "(I)I"⟩ : MethodName)) hown (mvT hZ (hw _ (List.mem_of_getElem? (i := 25) rfl))) (mvT hZ (hw _ (List.mem_of_getElem? (i := 26) rfl))) (notFace_of_selects (args := #[]) (mvT hZ (hw _ (List.mem_of_getElem? (i := 28) rfl)))) (mvT hZ (hw _ (List.mem_of_getElem? (i := 28) rfl))) (mvT hZ (hw _ (List.mem_of_getElem? (i := 27) rfl))) (by decide) (backOf (W := 0) (rm6 l Z a0 hw [] a1 p3 w6 P j hj hp3 hok.2.1 T4.heap n0 HR4) hZ (hw _ (List.mem_of_getElem? (i := 29) rfl)) (hw _ (List.mem_of_getElem? (i := 2) rfl)) (by decide) (by decide)) q5a q5c (g := (mkF m 8 #[.val (.ref a1), .val (.int p2), .val (.int p3), .val (.int (Int32.ofNat (own_fnd P i))), .unset] [(.int p3), (.ref a1)])) rfl (by rw [hml]; rfl) (Steps.refl _) (argsL := [(.int p3)]) (rest := []) (lenOf pdq_0 rfl) rfl (by show 2 * 0 + _ ≤ _; exact Nat.le_of_eq rfl) (hb hby d5_8) (fun _ _ => ⟨rfl, rfl, (by decide : 0 + 0 ≤ _), (by decide : 0 + 0 ≤ _)⟩)
  dsimp only [Pt.U, Pt.locs, Pt.cells, Pt.slots] at X5 l5 y5 z5 st5 hQ5
  subst l5 y5 z5
  obtain ⟨rfl, N5q, e5⟩ := hQ5
  have HR5 : RC Z T5.heap n0 a1 w6 P := by rw [e5]; exact HR4
  have N5 := Fr.app N4 N5q
  obtain ⟨T7, X7, e7, st7⟩ := getF X5 hx hZ hown (host := "") (Or.inl (hw _ (List.mem_of_getElem? (i := 10) rfl))) Via.refl rfl HR5.2.2.2.2.1 (g := (mkF m 22 #[.val (.ref a1), .val (.int p2), .val (.int p3), .val (.int (Int32.ofNat (own_fnd P i))), .val (.int (Int32.ofNat (own_fnd P j)))] [(.ref a1)])) rfl rfl (hb hby d5_22)
  obtain ⟨_, _, ⟨T8, L8, k8, n8⟩, -, X8, ⟨Lc8, hQ8, l8, y8, z8⟩, st8⟩ := Jvm.LawKit.callS X7 hx (y := (⟨"java/lang/Math", "max", "(II)I"⟩ : MethodName)) hown (mvT hZ (hw _ (List.mem_of_getElem? (i := 30) rfl))) (mvT hZ (hw _ (List.mem_of_getElem? (i := 31) rfl))) (mvT hZ (hw _ (List.mem_of_getElem? (i := 18) rfl))) (mvT hZ (hw _ (List.mem_of_getElem? (i := 32) rfl))) (by decide) (backOf (W := 1) (rm7 l Z a0 hw [] (Int32.ofNat (own_fnd P i)) (Int32.ofNat (own_fnd P j)) (own_fnd P i) (own_fnd P j) (by omega) (by omega) rfl rfl T5.heap n0 HR5.sz) hZ (hw _ (List.mem_of_getElem? (i := 32) rfl)) (hw _ (List.mem_of_getElem? (i := 18) rfl)) (by decide) (by decide)) (g := (mkF m 28 #[.val (.ref a1), .val (.int p2), .val (.int p3), .val (.int (Int32.ofNat (own_fnd P i))), .val (.int (Int32.ofNat (own_fnd P j)))] [(.int (Int32.ofNat (own_fnd P j))), (.int (Int32.ofNat (own_fnd P i))), (.ref w6)])) rfl (by rw [hml]; rfl) (argsL := [(.int (Int32.ofNat (own_fnd P i))), (.int (Int32.ofNat (own_fnd P j)))]) (rest := [(.ref w6)]) (lenOf pdq_1 rfl) rfl (by show 2 * 0 + _ ≤ _; exact Nat.le_of_eq rfl) (hb hby d5_28) (fun _ _ => ⟨rfl, e7, (by decide : 0 + 0 ≤ _), (by decide : 0 + 0 ≤ _)⟩)
  dsimp only [Pt.U, Pt.locs, Pt.cells, Pt.slots] at X8 l8 y8 z8 st8 hQ8
  subst l8 y8 z8
  obtain ⟨rfl, N8q, e8⟩ := hQ8
  have N8 := Fr.app N5 N8q
  obtain ⟨_, _, ⟨T9, L9, k9, n9⟩, -, X9, ⟨Lc9, hQ9, l9, y9, z9⟩, st9⟩ := Jvm.LawKit.callS X8 hx (y := (⟨"java/lang/Math", "min", "(II)I"⟩ : MethodName)) hown (mvT hZ (hw _ (List.mem_of_getElem? (i := 33) rfl))) (mvT hZ (hw _ (List.mem_of_getElem? (i := 17) rfl))) (mvT hZ (hw _ (List.mem_of_getElem? (i := 18) rfl))) (mvT hZ (hw _ (List.mem_of_getElem? (i := 19) rfl))) (by decide) (backOf (W := 2) (rm4 l Z a0 hw [] (Int32.ofNat (own_fnd P i)) (Int32.ofNat (own_fnd P j)) (own_fnd P i) (own_fnd P j) (by omega) (by omega) rfl rfl T8.heap n0 (by rw [e8]; exact HR5.sz)) hZ (hw _ (List.mem_of_getElem? (i := 19) rfl)) (hw _ (List.mem_of_getElem? (i := 18) rfl)) (by decide) (by decide)) (g := (mkF m 34 #[.val (.ref a1), .val (.int p2), .val (.int p3), .val (.int (Int32.ofNat (own_fnd P i))), .val (.int (Int32.ofNat (own_fnd P j)))] [(.int (Int32.ofNat (own_fnd P j))), (.int (Int32.ofNat (own_fnd P i))), (.int (Int32.ofNat (max (own_fnd P i) (own_fnd P j)))), (.ref w6)])) rfl (by rw [hml]; rfl) (argsL := [(.int (Int32.ofNat (own_fnd P i))), (.int (Int32.ofNat (own_fnd P j)))]) (rest := [(.int (Int32.ofNat (max (own_fnd P i) (own_fnd P j)))), (.ref w6)]) (lenOf pdq_1 rfl) rfl (by show 2 * 0 + _ ≤ _; exact Nat.le_of_eq rfl) (hb hby d5_34) (fun _ _ => ⟨rfl, rfl, (by decide : 0 + 0 ≤ _), (by decide : 0 + 0 ≤ _)⟩)
  dsimp only [Pt.U, Pt.locs, Pt.cells, Pt.slots] at X9 l9 y9 z9 st9 hQ9
  subst l9 y9 z9
  obtain ⟨rfl, N9q, e9⟩ := hQ9
  have e95 : T9.heap = T5.heap := by rw [e9, e8]
  obtain ⟨cl_w6, Ar_w6, S_w6, H_w6⟩ := HR5.2.2.2.2.2
  have hin37 : ¬ ((Int32.ofNat (max (own_fnd P i) (own_fnd P j))) < 0 ∨ cl_w6.slots.size ≤ ((Int32.ofNat (max (own_fnd P i) (own_fnd P j)))).toNatClampNeg) := by
    rw [S_w6, own_n32 (by omega)]; exact fun q => q.elim (own_nn (by omega)) (fun q => by omega)
  have N9 := Fr.app N8 N9q
  obtain ⟨T10, h10, X10, e10, W10, st10⟩ := stI X9 hx hZ e95 Ar_w6 (j := (Int32.ofNat (max (own_fnd P i) (own_fnd P j)))) hin37 (g := (mkF m 37 #[.val (.ref a1), .val (.int p2), .val (.int p3), .val (.int (Int32.ofNat (own_fnd P i))), .val (.int (Int32.ofNat (own_fnd P j)))] [(.int (Int32.ofNat (min (own_fnd P i) (own_fnd P j)))), (.int (Int32.ofNat (max (own_fnd P i) (own_fnd P j)))), (.ref w6)])) rfl rfl (hb hby d5_37)
  have N10 := Fr.snoc X10 N9 g_w6
  obtain ⟨fs, hr, hrun, hended, hW, hsame⟩ := X10.leave (v := some (.int (1 : Int32))) (fun h => by rw [Bd.returns] at h; cases h)
  refine ⟨_, _, pre0 _ ?_, hrun, hended, _, _, rfl, ?_, ⟨_, rfl⟩, hW, hsame.mono (by decide) (by decide)⟩
  · show Steps p.tables e below (s₁.setTop (mkF m 0 #[.val (.ref a1), .val (.int p2), .val (.int p3), .unset, .unset] [])) _
    refine XS.aloadN X0.here hx rfl (hb hby d5_0) rfl rfl ?_
    show Steps p.tables e below (s₁.setTop (mkF m 1 #[.val (.ref a1), .val (.int p2), .val (.int p3), .unset, .unset] [(.ref a1)])) _
    refine XS.iloadN X0.here hx rfl (hb hby d5_1) rfl ?_
    show Steps p.tables e below (s₁.setTop (mkF m 2 #[.val (.ref a1), .val (.int p2), .val (.int p3), .unset, .unset] [(.int p2), (.ref a1)])) _
    refine st4.trans ?_
    show Steps p.tables e below (T4.setTop (mkF m 5 #[.val (.ref a1), .val (.int p2), .val (.int p3), .unset, .unset] [(.int (Int32.ofNat (own_fnd P i)))])) _
    refine XS.istoreN X4.here hx rfl (hb hby d5_5) rfl (l' := #[.val (.ref a1), .val (.int p2), .val (.int p3), .val (.int (Int32.ofNat (own_fnd P i))), .unset]) rfl ?_
    show Steps p.tables e below (T4.setTop (mkF m 6 #[.val (.ref a1), .val (.int p2), .val (.int p3), .val (.int (Int32.ofNat (own_fnd P i))), .unset] [])) _
    refine XS.aloadN X4.here hx rfl (hb hby d5_6) rfl rfl ?_
    show Steps p.tables e below (T4.setTop (mkF m 7 #[.val (.ref a1), .val (.int p2), .val (.int p3), .val (.int (Int32.ofNat (own_fnd P i))), .unset] [(.ref a1)])) _
    refine XS.iloadN X4.here hx rfl (hb hby d5_7) rfl ?_
    show Steps p.tables e below (T4.setTop (mkF m 8 #[.val (.ref a1), .val (.int p2), .val (.int p3), .val (.int (Int32.ofNat (own_fnd P i))), .unset] [(.int p3), (.ref a1)])) _
    refine st5.trans ?_
    show Steps p.tables e below (T5.setTop (mkF m 11 #[.val (.ref a1), .val (.int p2), .val (.int p3), .val (.int (Int32.ofNat (own_fnd P i))), .unset] [(.int (Int32.ofNat (own_fnd P j)))])) _
    refine XS.istore X5.here hx rfl (hb hby d5_11) rfl (l' := #[.val (.ref a1), .val (.int p2), .val (.int p3), .val (.int (Int32.ofNat (own_fnd P i))), .val (.int (Int32.ofNat (own_fnd P j)))]) rfl ?_
    show Steps p.tables e below (T5.setTop (mkF m 13 #[.val (.ref a1), .val (.int p2), .val (.int p3), .val (.int (Int32.ofNat (own_fnd P i))), .val (.int (Int32.ofNat (own_fnd P j)))] [])) _
    refine XS.iloadN X5.here hx rfl (hb hby d5_13) rfl ?_
    show Steps p.tables e below (T5.setTop (mkF m 14 #[.val (.ref a1), .val (.int p2), .val (.int p3), .val (.int (Int32.ofNat (own_fnd P i))), .val (.int (Int32.ofNat (own_fnd P j)))] [(.int (Int32.ofNat (own_fnd P i)))])) _
    refine XS.iload X5.here hx rfl (hb hby d5_14) rfl ?_
    show Steps p.tables e below (T5.setTop (mkF m 16 #[.val (.ref a1), .val (.int p2), .val (.int p3), .val (.int (Int32.ofNat (own_fnd P i))), .val (.int (Int32.ofNat (own_fnd P j)))] [(.int (Int32.ofNat (own_fnd P j))), (.int (Int32.ofNat (own_fnd P i)))])) _
    refine XS.icmpYes X5.here hx rfl (pc0 := 16) (pc' := 21) rfl (hb hby d5_16) rfl (feq ((own_ne he (by omega) (by omega)) : ¬ ((Int32.ofNat (own_fnd P i)) = (Int32.ofNat (own_fnd P j))))).2 (by decide) (by decide) ?_
    show Steps p.tables e below (T5.setTop (mkF m 21 #[.val (.ref a1), .val (.int p2), .val (.int p3), .val (.int (Int32.ofNat (own_fnd P i))), .val (.int (Int32.ofNat (own_fnd P j)))] [])) _
    refine XS.aloadN X5.here hx rfl (hb hby d5_21) rfl rfl ?_
    show Steps p.tables e below (T5.setTop (mkF m 22 #[.val (.ref a1), .val (.int p2), .val (.int p3), .val (.int (Int32.ofNat (own_fnd P i))), .val (.int (Int32.ofNat (own_fnd P j)))] [(.ref a1)])) _
    refine st7 _ ?_
    show Steps p.tables e below (T7.setTop (mkF m 25 #[.val (.ref a1), .val (.int p2), .val (.int p3), .val (.int (Int32.ofNat (own_fnd P i))), .val (.int (Int32.ofNat (own_fnd P j)))] [(.ref w6)])) _
    refine XS.iloadN X7.here hx rfl (hb hby d5_25) rfl ?_
    show Steps p.tables e below (T7.setTop (mkF m 26 #[.val (.ref a1), .val (.int p2), .val (.int p3), .val (.int (Int32.ofNat (own_fnd P i))), .val (.int (Int32.ofNat (own_fnd P j)))] [(.int (Int32.ofNat (own_fnd P i))), (.ref w6)])) _
    refine XS.iload X7.here hx rfl (hb hby d5_26) rfl ?_
    show Steps p.tables e below (T7.setTop (mkF m 28 #[.val (.ref a1), .val (.int p2), .val (.int p3), .val (.int (Int32.ofNat (own_fnd P i))), .val (.int (Int32.ofNat (own_fnd P j)))] [(.int (Int32.ofNat (own_fnd P j))), (.int (Int32.ofNat (own_fnd P i))), (.ref w6)])) _
    refine st8 _ ?_
    show Steps p.tables e below (T8.setTop (mkF m 31 #[.val (.ref a1), .val (.int p2), .val (.int p3), .val (.int (Int32.ofNat (own_fnd P i))), .val (.int (Int32.ofNat (own_fnd P j)))] [(.int (Int32.ofNat (max (own_fnd P i) (own_fnd P j)))), (.ref w6)])) _
    refine XS.iloadN X8.here hx rfl (hb hby d5_31) rfl ?_
    show Steps p.tables e below (T8.setTop (mkF m 32 #[.val (.ref a1), .val (.int p2), .val (.int p3), .val (.int (Int32.ofNat (own_fnd P i))), .val (.int (Int32.ofNat (own_fnd P j)))] [(.int (Int32.ofNat (own_fnd P i))), (.int (Int32.ofNat (max (own_fnd P i) (own_fnd P j)))), (.ref w6)])) _
    refine XS.iload X8.here hx rfl (hb hby d5_32) rfl ?_
    show Steps p.tables e below (T8.setTop (mkF m 34 #[.val (.ref a1), .val (.int p2), .val (.int p3), .val (.int (Int32.ofNat (own_fnd P i))), .val (.int (Int32.ofNat (own_fnd P j)))] [(.int (Int32.ofNat (own_fnd P j))), (.int (Int32.ofNat (own_fnd P i))), (.int (Int32.ofNat (max (own_fnd P i) (own_fnd P j)))), (.ref w6)])) _
    refine st9 _ ?_
    show Steps p.tables e below (T9.setTop (mkF m 37 #[.val (.ref a1), .val (.int p2), .val (.int p3), .val (.int (Int32.ofNat (own_fnd P i))), .val (.int (Int32.ofNat (own_fnd P j)))] [(.int (Int32.ofNat (min (own_fnd P i) (own_fnd P j)))), (.int (Int32.ofNat (max (own_fnd P i) (own_fnd P j)))), (.ref w6)])) _
    refine st10 _ ?_
    show Steps p.tables e below (T10.setTop (mkF m 38 #[.val (.ref a1), .val (.int p2), .val (.int p3), .val (.int (Int32.ofNat (own_fnd P i))), .val (.int (Int32.ofNat (own_fnd P j)))] [])) _
    refine XS.iconst X10.here hx rfl (hb hby d5_38) ?_
    show Steps p.tables e below (T10.setTop (mkF m 39 #[.val (.ref a1), .val (.int p2), .val (.int p3), .val (.int (Int32.ofNat (own_fnd P i))), .val (.int (Int32.ofNat (own_fnd P j)))] [(.int (1 : Int32))])) _
    exact retN X10 hx (t := .boolean) Bd.returns (by simp) (hb hby d5_39) hr
  · show Q5 Z h0 a1 w6 (1 : Int32) (P.set (max (own_fnd P i) (own_fnd P j)) (min (own_fnd P i) (own_fnd P j))) n0 _ T10.heap _
    rw [e10]
    have K10 : Keep h0 h10 [w6] := by have q := (Keep.refl T5.heap [w6]).wr W10 (Or.inl (List.mem_of_getElem? (i := 0) rfl)); rw [e5, e4] at q; exact q
    exact ⟨rfl, N10, K10, g_a1, g_w6, ne, HR5.2.2.2.1.wr W10, HR5.2.2.2.2.1.other W10 (Or.inl ne), IA.set hok.1 (by omega) Ar_w6 S_w6 H_w6 (own_n32 (by omega)) W10⟩
theorem rm5 (l : Launch) (Z : State) (a0 : Array Value) (hw : ∀ d ∈ tables_1, d.before a0 Z = true) (ws : List Jvm.Cond) (a1 : Addr) (p2 : Int32) (p3 : Int32) (w6 : Addr) (P Lb : List Nat) (hok : OK P Lb) (i j : Nat) (hi : i < 4) (hj : j < 4) (hp2 : p2 = Int32.ofNat i) (hp3 : p3 = Int32.ofNat j) (h0 : Heap) (n0 : Nat) (HR : RC Z h0 n0 a1 w6 P) :
    MetFree l (⟨"org/refold/RootClasses", "merge", "(II)Z"⟩ : MethodName) (head1 (Jvm.Cond.code (⟨"org/refold/RootClasses", "merge", "(II)Z"⟩ : MethodName) prog_24_method_3_code 5 (some .boolean) :: ws) ({ frames := 1, cells := 0, slots := 0, locals := 32 } : Room)) (fun a U => a = #[(.ref a1), (.int p2), (.int p3)] ∧ Z.Warmed39 U.vm ∧ U.heap = h0) (fun _ _ _ _ _ => True) (fun _ U o U' => ∃ v L, o = .returned v ∧ Q5 Z h0 a1 w6 (if own_fnd P i = own_fnd P j then (0 : Int32) else (1 : Int32)) (own_merge P i j) n0 v U'.heap L ∧ FrameEnd U o U' L ({ frames := 1, cells := 0, slots := 0, locals := 32 } : Room).cells ({ frames := 1, cells := 0, slots := 0, locals := 32 } : Room).slots) := by
  by_cases he : own_fnd P i = own_fnd P j
  · rw [if_pos he, own_merge, if_pos he]; exact rm5f l Z a0 hw ws a1 p2 p3 w6 P Lb hok i j hi hj hp2 hp3 h0 n0 HR he
  · rw [if_neg he, own_merge, if_neg he]; exact rm5t l Z a0 hw ws a1 p2 p3 w6 P Lb hok i j hi hj hp2 hp3 h0 n0 HR he

set_option maxRecDepth 65536 in
set_option maxHeartbeats 40000000 in
theorem tp_a {p : Program} {l : Launch} {e : Env} {R : Room} {s : State} {m : MethodId} {args : Array Value} {below : List Frame} {meth : Method} {c : Code} {T0 : State} {locs : List Loc} {cells slots : Nat} {Z : State} {a0 : Array Value} {h0 : Heap} (s0 : Slot) (o1 : Addr) (i2 : Int32) (s3 : Slot) (s4 : Slot) (s5 : Slot) (s6 : Slot) (s7 : Slot) (s8 : Slot) (s9 : Slot) (w4 : Int32) (cl_o1 : Cell) (w5 : Int32)
    (X0 : Stand p l e R s m args below meth c T0 locs cells slots) (hx : p.tables.exec = Jvm.exec) (hZ : Z.Warmed39 s.vm) (hw : ∀ d ∈ tables_1, d.before a0 Z = true) (hby : c.code = method_3_code) (hml : c.maxLocals = 10) (hown : s.vm.findClass "org/refold/RootClassesFindPinLaw" = some m.cls) (e0 : T0.heap = h0) (hs3 : One s3) (hs4 : One s4) (Ar_o1 : Arr Z h0 o1 cl_o1 .int) (hin13 : ¬ ((i2 &&& (3 : Int32)) < 0 ∨ cl_o1.slots.size ≤ ((i2 &&& (3 : Int32))).toNatClampNeg)) (hat13 : cl_o1.slots[((i2 &&& (3 : Int32))).toNatClampNeg]? = some (.int w4)) (hs5 : One s5) (hin19 : ¬ ((((i2.toUInt32 >>> ((2 : Int32) &&& 31).toUInt32).toInt32) &&& (3 : Int32)) < 0 ∨ cl_o1.slots.size ≤ ((((i2.toUInt32 >>> ((2 : Int32) &&& 31).toUInt32).toInt32) &&& (3 : Int32))).toNatClampNeg)) (hat19 : cl_o1.slots[((((i2.toUInt32 >>> ((2 : Int32) &&& 31).toUInt32).toInt32) &&& (3 : Int32))).toNatClampNeg]? = some (.int w5)) (hs6 : One s6) :
    ∀ target, Steps p.tables e below (T0.setTop (mkF m 22 #[s0, .val (.ref o1), .val (.int i2), .val (.int (i2 &&& (3 : Int32))), .val (.int (((i2.toUInt32 >>> ((2 : Int32) &&& 31).toUInt32).toInt32) &&& (3 : Int32))), .val (.int w4), .val (.int w5), s7, s8, s9] [])) target → Steps p.tables e below (T0.setTop (mkF m 0 #[s0, .val (.ref o1), .val (.int i2), s3, s4, s5, s6, s7, s8, s9] [])) target := by
  intro target kt
  show Steps p.tables e below (T0.setTop (mkF m 0 #[s0, .val (.ref o1), .val (.int i2), s3, s4, s5, s6, s7, s8, s9] [])) _
  refine XS.iloadN X0.here hx rfl (hb hby d3_0) rfl ?_
  show Steps p.tables e below (T0.setTop (mkF m 1 #[s0, .val (.ref o1), .val (.int i2), s3, s4, s5, s6, s7, s8, s9] [(.int i2)])) _
  refine XS.iconst X0.here hx rfl (hb hby d3_1) ?_
  show Steps p.tables e below (T0.setTop (mkF m 2 #[s0, .val (.ref o1), .val (.int i2), s3, s4, s5, s6, s7, s8, s9] [(.int (3 : Int32)), (.int i2)])) _
  refine XS.iand X0.here hx rfl (hb hby d3_2) rfl ?_
  show Steps p.tables e below (T0.setTop (mkF m 3 #[s0, .val (.ref o1), .val (.int i2), s3, s4, s5, s6, s7, s8, s9] [(.int (i2 &&& (3 : Int32)))])) _
  refine XS.istoreN X0.here hx rfl (hb hby d3_3) rfl (l' := #[s0, .val (.ref o1), .val (.int i2), .val (.int (i2 &&& (3 : Int32))), s4, s5, s6, s7, s8, s9]) (os3_3_13 hs3) ?_
  show Steps p.tables e below (T0.setTop (mkF m 4 #[s0, .val (.ref o1), .val (.int i2), .val (.int (i2 &&& (3 : Int32))), s4, s5, s6, s7, s8, s9] [])) _
  refine XS.iloadN X0.here hx rfl (hb hby d3_4) rfl ?_
  show Steps p.tables e below (T0.setTop (mkF m 5 #[s0, .val (.ref o1), .val (.int i2), .val (.int (i2 &&& (3 : Int32))), s4, s5, s6, s7, s8, s9] [(.int i2)])) _
  refine XS.iconst X0.here hx rfl (hb hby d3_5) ?_
  show Steps p.tables e below (T0.setTop (mkF m 6 #[s0, .val (.ref o1), .val (.int i2), .val (.int (i2 &&& (3 : Int32))), s4, s5, s6, s7, s8, s9] [(.int (2 : Int32)), (.int i2)])) _
  refine XS.iushr X0.here hx rfl (hb hby d3_6) rfl ?_
  show Steps p.tables e below (T0.setTop (mkF m 7 #[s0, .val (.ref o1), .val (.int i2), .val (.int (i2 &&& (3 : Int32))), s4, s5, s6, s7, s8, s9] [(.int ((i2.toUInt32 >>> ((2 : Int32) &&& 31).toUInt32).toInt32))])) _
  refine XS.iconst X0.here hx rfl (hb hby d3_7) ?_
  show Steps p.tables e below (T0.setTop (mkF m 8 #[s0, .val (.ref o1), .val (.int i2), .val (.int (i2 &&& (3 : Int32))), s4, s5, s6, s7, s8, s9] [(.int (3 : Int32)), (.int ((i2.toUInt32 >>> ((2 : Int32) &&& 31).toUInt32).toInt32))])) _
  refine XS.iand X0.here hx rfl (hb hby d3_8) rfl ?_
  show Steps p.tables e below (T0.setTop (mkF m 9 #[s0, .val (.ref o1), .val (.int i2), .val (.int (i2 &&& (3 : Int32))), s4, s5, s6, s7, s8, s9] [(.int (((i2.toUInt32 >>> ((2 : Int32) &&& 31).toUInt32).toInt32) &&& (3 : Int32)))])) _
  refine XS.istore X0.here hx rfl (hb hby d3_9) rfl (l' := #[s0, .val (.ref o1), .val (.int i2), .val (.int (i2 &&& (3 : Int32))), .val (.int (((i2.toUInt32 >>> ((2 : Int32) &&& 31).toUInt32).toInt32) &&& (3 : Int32))), s5, s6, s7, s8, s9]) (os3_9_13 hs4) ?_
  show Steps p.tables e below (T0.setTop (mkF m 11 #[s0, .val (.ref o1), .val (.int i2), .val (.int (i2 &&& (3 : Int32))), .val (.int (((i2.toUInt32 >>> ((2 : Int32) &&& 31).toUInt32).toInt32) &&& (3 : Int32))), s5, s6, s7, s8, s9] [])) _
  refine XS.aloadN X0.here hx rfl (hb hby d3_11) rfl rfl ?_
  show Steps p.tables e below (T0.setTop (mkF m 12 #[s0, .val (.ref o1), .val (.int i2), .val (.int (i2 &&& (3 : Int32))), .val (.int (((i2.toUInt32 >>> ((2 : Int32) &&& 31).toUInt32).toInt32) &&& (3 : Int32))), s5, s6, s7, s8, s9] [(.ref o1)])) _
  refine XS.iloadN X0.here hx rfl (hb hby d3_12) rfl ?_
  show Steps p.tables e below (T0.setTop (mkF m 13 #[s0, .val (.ref o1), .val (.int i2), .val (.int (i2 &&& (3 : Int32))), .val (.int (((i2.toUInt32 >>> ((2 : Int32) &&& 31).toUInt32).toInt32) &&& (3 : Int32))), s5, s6, s7, s8, s9] [(.int (i2 &&& (3 : Int32))), (.ref o1)])) _
  refine X0.iaload hx (j := (i2 &&& (3 : Int32))) (v := (.int w4)) (by rw [e0]; exact Ar_o1.1) (State.isArrayOf_alike hZ.alike Ar_o1.2.1) Ar_o1.2.2 hin13 hat13 (g := (mkF m 13 #[s0, .val (.ref o1), .val (.int i2), .val (.int (i2 &&& (3 : Int32))), .val (.int (((i2.toUInt32 >>> ((2 : Int32) &&& 31).toUInt32).toInt32) &&& (3 : Int32))), s5, s6, s7, s8, s9] [(.int (i2 &&& (3 : Int32))), (.ref o1)])) rfl rfl (hb hby d3_13) _ ?_
  show Steps p.tables e below (T0.setTop (mkF m 14 #[s0, .val (.ref o1), .val (.int i2), .val (.int (i2 &&& (3 : Int32))), .val (.int (((i2.toUInt32 >>> ((2 : Int32) &&& 31).toUInt32).toInt32) &&& (3 : Int32))), s5, s6, s7, s8, s9] [(.int w4)])) _
  refine XS.istore X0.here hx rfl (hb hby d3_14) rfl (l' := #[s0, .val (.ref o1), .val (.int i2), .val (.int (i2 &&& (3 : Int32))), .val (.int (((i2.toUInt32 >>> ((2 : Int32) &&& 31).toUInt32).toInt32) &&& (3 : Int32))), .val (.int w4), s6, s7, s8, s9]) (os3_14_13 hs5) ?_
  show Steps p.tables e below (T0.setTop (mkF m 16 #[s0, .val (.ref o1), .val (.int i2), .val (.int (i2 &&& (3 : Int32))), .val (.int (((i2.toUInt32 >>> ((2 : Int32) &&& 31).toUInt32).toInt32) &&& (3 : Int32))), .val (.int w4), s6, s7, s8, s9] [])) _
  refine XS.aloadN X0.here hx rfl (hb hby d3_16) rfl rfl ?_
  show Steps p.tables e below (T0.setTop (mkF m 17 #[s0, .val (.ref o1), .val (.int i2), .val (.int (i2 &&& (3 : Int32))), .val (.int (((i2.toUInt32 >>> ((2 : Int32) &&& 31).toUInt32).toInt32) &&& (3 : Int32))), .val (.int w4), s6, s7, s8, s9] [(.ref o1)])) _
  refine XS.iload X0.here hx rfl (hb hby d3_17) rfl ?_
  show Steps p.tables e below (T0.setTop (mkF m 19 #[s0, .val (.ref o1), .val (.int i2), .val (.int (i2 &&& (3 : Int32))), .val (.int (((i2.toUInt32 >>> ((2 : Int32) &&& 31).toUInt32).toInt32) &&& (3 : Int32))), .val (.int w4), s6, s7, s8, s9] [(.int (((i2.toUInt32 >>> ((2 : Int32) &&& 31).toUInt32).toInt32) &&& (3 : Int32))), (.ref o1)])) _
  refine X0.iaload hx (j := (((i2.toUInt32 >>> ((2 : Int32) &&& 31).toUInt32).toInt32) &&& (3 : Int32))) (v := (.int w5)) (by rw [e0]; exact Ar_o1.1) (State.isArrayOf_alike hZ.alike Ar_o1.2.1) Ar_o1.2.2 hin19 hat19 (g := (mkF m 19 #[s0, .val (.ref o1), .val (.int i2), .val (.int (i2 &&& (3 : Int32))), .val (.int (((i2.toUInt32 >>> ((2 : Int32) &&& 31).toUInt32).toInt32) &&& (3 : Int32))), .val (.int w4), s6, s7, s8, s9] [(.int (((i2.toUInt32 >>> ((2 : Int32) &&& 31).toUInt32).toInt32) &&& (3 : Int32))), (.ref o1)])) rfl rfl (hb hby d3_19) _ ?_
  show Steps p.tables e below (T0.setTop (mkF m 20 #[s0, .val (.ref o1), .val (.int i2), .val (.int (i2 &&& (3 : Int32))), .val (.int (((i2.toUInt32 >>> ((2 : Int32) &&& 31).toUInt32).toInt32) &&& (3 : Int32))), .val (.int w4), s6, s7, s8, s9] [(.int w5)])) _
  refine XS.istore X0.here hx rfl (hb hby d3_20) rfl (l' := #[s0, .val (.ref o1), .val (.int i2), .val (.int (i2 &&& (3 : Int32))), .val (.int (((i2.toUInt32 >>> ((2 : Int32) &&& 31).toUInt32).toInt32) &&& (3 : Int32))), .val (.int w4), .val (.int w5), s7, s8, s9]) (os3_20_13 hs6) ?_
  exact kt
set_option maxRecDepth 65536 in
set_option maxHeartbeats 40000000 in
theorem tp_bf {p : Program} {l : Launch} {e : Env} {R : Room} {s : State} {m : MethodId} {args : Array Value} {below : List Frame} {meth : Method} {c : Code} {T0 : State} {locs : List Loc} {cells slots : Nat} {Z : State} {a0 : Array Value} {h0 : Heap} (s0 : Slot) (s1 : Slot) (s2 : Slot) (s3 : Slot) (s4 : Slot) (i5 : Int32) (i6 : Int32) (s7 : Slot) (s8 : Slot) (s9 : Slot)
    (X0 : Stand p l e R s m args below meth c T0 locs cells slots) (hx : p.tables.exec = Jvm.exec) (hZ : Z.Warmed39 s.vm) (hw : ∀ d ∈ tables_1, d.before a0 Z = true) (hby : c.code = method_3_code) (hml : c.maxLocals = 10) (hown : s.vm.findClass "org/refold/RootClassesFindPinLaw" = some m.cls) (e0 : T0.heap = h0) (hs7 : One s7) (hc26 : ¬ (i5 = i6)) :
    ∀ target, Steps p.tables e below (T0.setTop (mkF m 36 #[s0, s1, s2, s3, s4, .val (.int i5), .val (.int i6), .val (.int (1 : Int32)), s8, s9] [])) target → Steps p.tables e below (T0.setTop (mkF m 22 #[s0, s1, s2, s3, s4, .val (.int i5), .val (.int i6), s7, s8, s9] [])) target := by
  intro target kt
  show Steps p.tables e below (T0.setTop (mkF m 22 #[s0, s1, s2, s3, s4, .val (.int i5), .val (.int i6), s7, s8, s9] [])) _
  refine XS.iload X0.here hx rfl (hb hby d3_22) rfl ?_
  show Steps p.tables e below (T0.setTop (mkF m 24 #[s0, s1, s2, s3, s4, .val (.int i5), .val (.int i6), s7, s8, s9] [(.int i5)])) _
  refine XS.iload X0.here hx rfl (hb hby d3_24) rfl ?_
  show Steps p.tables e below (T0.setTop (mkF m 26 #[s0, s1, s2, s3, s4, .val (.int i5), .val (.int i6), s7, s8, s9] [(.int i6), (.int i5)])) _
  refine XS.icmpNo X0.here hx rfl (hb hby d3_26) rfl (feq hc26).1 ?_
  show Steps p.tables e below (T0.setTop (mkF m 29 #[s0, s1, s2, s3, s4, .val (.int i5), .val (.int i6), s7, s8, s9] [])) _
  refine XS.iconst X0.here hx rfl (hb hby d3_29) ?_
  show Steps p.tables e below (T0.setTop (mkF m 30 #[s0, s1, s2, s3, s4, .val (.int i5), .val (.int i6), s7, s8, s9] [(.int (1 : Int32))])) _
  refine XS.goto X0.here hx rfl (pc0 := 30) (pc' := 34) rfl (hb hby d3_30) (by decide) (by decide) ?_
  show Steps p.tables e below (T0.setTop (mkF m 34 #[s0, s1, s2, s3, s4, .val (.int i5), .val (.int i6), s7, s8, s9] [(.int (1 : Int32))])) _
  refine XS.istore X0.here hx rfl (hb hby d3_34) rfl (l' := #[s0, s1, s2, s3, s4, .val (.int i5), .val (.int i6), .val (.int (1 : Int32)), s8, s9]) (os3_34_14 hs7) ?_
  exact kt
set_option maxRecDepth 65536 in
set_option maxHeartbeats 40000000 in
theorem tp_bt {p : Program} {l : Launch} {e : Env} {R : Room} {s : State} {m : MethodId} {args : Array Value} {below : List Frame} {meth : Method} {c : Code} {T0 : State} {locs : List Loc} {cells slots : Nat} {Z : State} {a0 : Array Value} {h0 : Heap} (s0 : Slot) (s1 : Slot) (s2 : Slot) (s3 : Slot) (s4 : Slot) (i5 : Int32) (i6 : Int32) (s7 : Slot) (s8 : Slot) (s9 : Slot)
    (X0 : Stand p l e R s m args below meth c T0 locs cells slots) (hx : p.tables.exec = Jvm.exec) (hZ : Z.Warmed39 s.vm) (hw : ∀ d ∈ tables_1, d.before a0 Z = true) (hby : c.code = method_3_code) (hml : c.maxLocals = 10) (hown : s.vm.findClass "org/refold/RootClassesFindPinLaw" = some m.cls) (e0 : T0.heap = h0) (hs7 : One s7) (hc26 : i5 = i6) :
    ∀ target, Steps p.tables e below (T0.setTop (mkF m 36 #[s0, s1, s2, s3, s4, .val (.int i5), .val (.int i6), .val (.int (0 : Int32)), s8, s9] [])) target → Steps p.tables e below (T0.setTop (mkF m 22 #[s0, s1, s2, s3, s4, .val (.int i5), .val (.int i6), s7, s8, s9] [])) target := by
  intro target kt
  show Steps p.tables e below (T0.setTop (mkF m 22 #[s0, s1, s2, s3, s4, .val (.int i5), .val (.int i6), s7, s8, s9] [])) _
  refine XS.iload X0.here hx rfl (hb hby d3_22) rfl ?_
  show Steps p.tables e below (T0.setTop (mkF m 24 #[s0, s1, s2, s3, s4, .val (.int i5), .val (.int i6), s7, s8, s9] [(.int i5)])) _
  refine XS.iload X0.here hx rfl (hb hby d3_24) rfl ?_
  show Steps p.tables e below (T0.setTop (mkF m 26 #[s0, s1, s2, s3, s4, .val (.int i5), .val (.int i6), s7, s8, s9] [(.int i6), (.int i5)])) _
  refine XS.icmpYes X0.here hx rfl (pc0 := 26) (pc' := 33) rfl (hb hby d3_26) rfl (teq hc26).1 (by decide) (by decide) ?_
  show Steps p.tables e below (T0.setTop (mkF m 33 #[s0, s1, s2, s3, s4, .val (.int i5), .val (.int i6), s7, s8, s9] [])) _
  refine XS.iconst X0.here hx rfl (hb hby d3_33) ?_
  show Steps p.tables e below (T0.setTop (mkF m 34 #[s0, s1, s2, s3, s4, .val (.int i5), .val (.int i6), s7, s8, s9] [(.int (0 : Int32))])) _
  refine XS.istore X0.here hx rfl (hb hby d3_34) rfl (l' := #[s0, s1, s2, s3, s4, .val (.int i5), .val (.int i6), .val (.int (0 : Int32)), s8, s9]) (os3_34_15 hs7) ?_
  exact kt
set_option maxRecDepth 65536 in
set_option maxHeartbeats 40000000 in
theorem tp_c {p : Program} {l : Launch} {e : Env} {s : State} {m : MethodId} {args : Array Value} {below : List Frame} {meth : Method} {c : Code} {T0 : State} {locs : List Loc} {Z : State} {a0 : Array Value} {h0 : Heap} (s0 : Slot) (s1 : Slot) (s2 : Slot) (s3 : Slot) (s4 : Slot) (i5 : Int32) (i6 : Int32) (s7 : Slot) (s8 : Slot) (s9 : Slot)
    (X0 : Stand p l e ({ frames := 2, cells := 0, slots := 0, locals := 64 } : Room) s m args below meth c T0 locs 0 0) (hx : p.tables.exec = Jvm.exec) (hZ : Z.Warmed39 s.vm) (hw : ∀ d ∈ tables_1, d.before a0 Z = true) (hby : c.code = method_3_code) (hml : c.maxLocals = 10) (hown : s.vm.findClass "org/refold/RootClassesFindPinLaw" = some m.cls) (e0 : T0.heap = h0) (n0 : Nat) (N0 : Fr n0 locs) (Z0 : n0 ≤ h0.size) (x y : Nat) (hx' : x ≤ 255) (hy' : y ≤ 255) (e5 : i5 = Int32.ofNat x) (e6 : i6 = Int32.ofNat y) (hs8 : One s8) :
    ∃ (T' : State) (h' : Heap) (L' : List Loc), Stand p l e ({ frames := 2, cells := 0, slots := 0, locals := 64 } : Room) s m args below meth c T' L' 0 0 ∧ T'.heap = h' ∧ Fr n0 L' ∧ h' = h0 ∧
      ∀ target, Steps p.tables e below (T'.setTop (mkF m 45 #[s0, s1, s2, s3, s4, .val (.int i5), .val (.int i6), s7, .val (.int (Int32.ofNat (min x y))), s9] [])) target → Steps p.tables e below (T0.setTop (mkF m 36 #[s0, s1, s2, s3, s4, .val (.int i5), .val (.int i6), s7, s8, s9] [])) target := by
  obtain ⟨_, _, ⟨T4, L4, k4, n4⟩, -, X4, ⟨Lc4, hQ4, l4, y4, z4⟩, st4⟩ := Jvm.LawKit.callS X0 hx (y := (⟨"java/lang/Math", "min", "(II)I"⟩ : MethodName)) hown (mvT hZ (hw _ (List.mem_of_getElem? (i := 16) rfl))) (mvT hZ (hw _ (List.mem_of_getElem? (i := 17) rfl))) (mvT hZ (hw _ (List.mem_of_getElem? (i := 18) rfl))) (mvT hZ (hw _ (List.mem_of_getElem? (i := 19) rfl))) (by decide) (backOf (W := 0) (rm4 l Z a0 hw [] i5 i6 x y hx' hy' e5 e6 h0 n0 Z0) hZ (hw _ (List.mem_of_getElem? (i := 19) rfl)) (hw _ (List.mem_of_getElem? (i := 18) rfl)) (by decide) (by decide)) (g := (mkF m 40 #[s0, s1, s2, s3, s4, .val (.int i5), .val (.int i6), s7, s8, s9] [(.int i6), (.int i5)])) rfl (by rw [hml]; rfl) (argsL := [(.int i5), (.int i6)]) (rest := []) (lenOf pdq_1 rfl) rfl (by show 2 * 0 + _ ≤ _; exact Nat.le_of_eq rfl) (hb hby d3_40) (fun _ _ => ⟨rfl, e0, (by decide : 0 + 0 ≤ _), (by decide : 0 + 0 ≤ _)⟩)
  dsimp only [Pt.U, Pt.locs, Pt.cells, Pt.slots] at X4 l4 y4 z4 st4 hQ4
  subst l4 y4 z4
  obtain ⟨rfl, N4q, e4⟩ := hQ4
  have N4 := Fr.app N0 N4q
  refine ⟨T4, _, _, X4, rfl, N4, e4, fun target kt => ?_⟩
  show Steps p.tables e below (T0.setTop (mkF m 36 #[s0, s1, s2, s3, s4, .val (.int i5), .val (.int i6), s7, s8, s9] [])) _
  refine XS.iload X0.here hx rfl (hb hby d3_36) rfl ?_
  show Steps p.tables e below (T0.setTop (mkF m 38 #[s0, s1, s2, s3, s4, .val (.int i5), .val (.int i6), s7, s8, s9] [(.int i5)])) _
  refine XS.iload X0.here hx rfl (hb hby d3_38) rfl ?_
  show Steps p.tables e below (T0.setTop (mkF m 40 #[s0, s1, s2, s3, s4, .val (.int i5), .val (.int i6), s7, s8, s9] [(.int i6), (.int i5)])) _
  refine st4 _ ?_
  show Steps p.tables e below (T4.setTop (mkF m 43 #[s0, s1, s2, s3, s4, .val (.int i5), .val (.int i6), s7, s8, s9] [(.int (Int32.ofNat (min x y)))])) _
  refine XS.istore X4.here hx rfl (hb hby d3_43) rfl (l' := #[s0, s1, s2, s3, s4, .val (.int i5), .val (.int i6), s7, .val (.int (Int32.ofNat (min x y))), s9]) (os3_43_16 hs8) ?_
  exact kt
set_option maxRecDepth 65536 in
set_option maxHeartbeats 40000000 in
theorem tp_d0t {p : Program} {l : Launch} {e : Env} {R : Room} {s : State} {m : MethodId} {args : Array Value} {below : List Frame} {meth : Method} {c : Code} {T0 : State} {locs : List Loc} {cells slots : Nat} {Z : State} {a0 : Array Value} {h0 : Heap} (s0 : Slot) (o1 : Addr) (s2 : Slot) (s3 : Slot) (s4 : Slot) (i5 : Int32) (s6 : Slot) (s7 : Slot) (s8 : Slot) (s9 : Slot) (w4 : Int32) (cl_o1 : Cell)
    (X0 : Stand p l e R s m args below meth c T0 locs cells slots) (hx : p.tables.exec = Jvm.exec) (hZ : Z.Warmed39 s.vm) (hw : ∀ d ∈ tables_1, d.before a0 Z = true) (hby : c.code = method_3_code) (hml : c.maxLocals = 10) (hown : s.vm.findClass "org/refold/RootClassesFindPinLaw" = some m.cls) (e0 : T0.heap = h0) (Ar_o1 : Arr Z h0 o1 cl_o1 .int) (hin47 : ¬ ((0 : Int32) < 0 ∨ cl_o1.slots.size ≤ ((0 : Int32)).toNatClampNeg)) (hat47 : cl_o1.slots[((0 : Int32)).toNatClampNeg]? = some (.int w4)) (hc50 : w4 = i5) :
    ∀ target, Steps p.tables e below (T0.setTop (mkF m 61 #[s0, .val (.ref o1), s2, s3, s4, .val (.int i5), s6, s7, s8, s9] [])) target → Steps p.tables e below (T0.setTop (mkF m 45 #[s0, .val (.ref o1), s2, s3, s4, .val (.int i5), s6, s7, s8, s9] [])) target := by
  intro target kt
  show Steps p.tables e below (T0.setTop (mkF m 45 #[s0, .val (.ref o1), s2, s3, s4, .val (.int i5), s6, s7, s8, s9] [])) _
  refine XS.aloadN X0.here hx rfl (hb hby d3_45) rfl rfl ?_
  show Steps p.tables e below (T0.setTop (mkF m 46 #[s0, .val (.ref o1), s2, s3, s4, .val (.int i5), s6, s7, s8, s9] [(.ref o1)])) _
  refine XS.iconst X0.here hx rfl (hb hby d3_46) ?_
  show Steps p.tables e below (T0.setTop (mkF m 47 #[s0, .val (.ref o1), s2, s3, s4, .val (.int i5), s6, s7, s8, s9] [(.int (0 : Int32)), (.ref o1)])) _
  refine X0.iaload hx (j := (0 : Int32)) (v := (.int w4)) (by rw [e0]; exact Ar_o1.1) (State.isArrayOf_alike hZ.alike Ar_o1.2.1) Ar_o1.2.2 hin47 hat47 (g := (mkF m 47 #[s0, .val (.ref o1), s2, s3, s4, .val (.int i5), s6, s7, s8, s9] [(.int (0 : Int32)), (.ref o1)])) rfl rfl (hb hby d3_47) _ ?_
  show Steps p.tables e below (T0.setTop (mkF m 48 #[s0, .val (.ref o1), s2, s3, s4, .val (.int i5), s6, s7, s8, s9] [(.int w4)])) _
  refine XS.iload X0.here hx rfl (hb hby d3_48) rfl ?_
  show Steps p.tables e below (T0.setTop (mkF m 50 #[s0, .val (.ref o1), s2, s3, s4, .val (.int i5), s6, s7, s8, s9] [(.int i5), (.int w4)])) _
  refine XS.icmpYes X0.here hx rfl (pc0 := 50) (pc' := 61) rfl (hb hby d3_50) rfl (teq hc50).1 (by decide) (by decide) ?_
  exact kt
set_option maxRecDepth 65536 in
set_option maxHeartbeats 40000000 in
theorem tp_d0f {p : Program} {l : Launch} {e : Env} {R : Room} {s : State} {m : MethodId} {args : Array Value} {below : List Frame} {meth : Method} {c : Code} {T0 : State} {locs : List Loc} {cells slots : Nat} {Z : State} {a0 : Array Value} {h0 : Heap} (s0 : Slot) (o1 : Addr) (s2 : Slot) (s3 : Slot) (s4 : Slot) (i5 : Int32) (i6 : Int32) (s7 : Slot) (s8 : Slot) (s9 : Slot) (w4 : Int32) (cl_o1 : Cell) (w5 : Int32)
    (X0 : Stand p l e R s m args below meth c T0 locs cells slots) (hx : p.tables.exec = Jvm.exec) (hZ : Z.Warmed39 s.vm) (hw : ∀ d ∈ tables_1, d.before a0 Z = true) (hby : c.code = method_3_code) (hml : c.maxLocals = 10) (hown : s.vm.findClass "org/refold/RootClassesFindPinLaw" = some m.cls) (e0 : T0.heap = h0) (Ar_o1 : Arr Z h0 o1 cl_o1 .int) (hin47 : ¬ ((0 : Int32) < 0 ∨ cl_o1.slots.size ≤ ((0 : Int32)).toNatClampNeg)) (hat47 : cl_o1.slots[((0 : Int32)).toNatClampNeg]? = some (.int w4)) (hin55 : ¬ ((0 : Int32) < 0 ∨ cl_o1.slots.size ≤ ((0 : Int32)).toNatClampNeg)) (hat55 : cl_o1.slots[((0 : Int32)).toNatClampNeg]? = some (.int w5)) (hc50 : ¬ (w4 = i5)) (hc58 : w5 = i6) :
    ∀ target, Steps p.tables e below (T0.setTop (mkF m 61 #[s0, .val (.ref o1), s2, s3, s4, .val (.int i5), .val (.int i6), s7, s8, s9] [])) target → Steps p.tables e below (T0.setTop (mkF m 45 #[s0, .val (.ref o1), s2, s3, s4, .val (.int i5), .val (.int i6), s7, s8, s9] [])) target := by
  intro target kt
  show Steps p.tables e below (T0.setTop (mkF m 45 #[s0, .val (.ref o1), s2, s3, s4, .val (.int i5), .val (.int i6), s7, s8, s9] [])) _
  refine XS.aloadN X0.here hx rfl (hb hby d3_45) rfl rfl ?_
  show Steps p.tables e below (T0.setTop (mkF m 46 #[s0, .val (.ref o1), s2, s3, s4, .val (.int i5), .val (.int i6), s7, s8, s9] [(.ref o1)])) _
  refine XS.iconst X0.here hx rfl (hb hby d3_46) ?_
  show Steps p.tables e below (T0.setTop (mkF m 47 #[s0, .val (.ref o1), s2, s3, s4, .val (.int i5), .val (.int i6), s7, s8, s9] [(.int (0 : Int32)), (.ref o1)])) _
  refine X0.iaload hx (j := (0 : Int32)) (v := (.int w4)) (by rw [e0]; exact Ar_o1.1) (State.isArrayOf_alike hZ.alike Ar_o1.2.1) Ar_o1.2.2 hin47 hat47 (g := (mkF m 47 #[s0, .val (.ref o1), s2, s3, s4, .val (.int i5), .val (.int i6), s7, s8, s9] [(.int (0 : Int32)), (.ref o1)])) rfl rfl (hb hby d3_47) _ ?_
  show Steps p.tables e below (T0.setTop (mkF m 48 #[s0, .val (.ref o1), s2, s3, s4, .val (.int i5), .val (.int i6), s7, s8, s9] [(.int w4)])) _
  refine XS.iload X0.here hx rfl (hb hby d3_48) rfl ?_
  show Steps p.tables e below (T0.setTop (mkF m 50 #[s0, .val (.ref o1), s2, s3, s4, .val (.int i5), .val (.int i6), s7, s8, s9] [(.int i5), (.int w4)])) _
  refine XS.icmpNo X0.here hx rfl (hb hby d3_50) rfl (feq hc50).1 ?_
  show Steps p.tables e below (T0.setTop (mkF m 53 #[s0, .val (.ref o1), s2, s3, s4, .val (.int i5), .val (.int i6), s7, s8, s9] [])) _
  refine XS.aloadN X0.here hx rfl (hb hby d3_53) rfl rfl ?_
  show Steps p.tables e below (T0.setTop (mkF m 54 #[s0, .val (.ref o1), s2, s3, s4, .val (.int i5), .val (.int i6), s7, s8, s9] [(.ref o1)])) _
  refine XS.iconst X0.here hx rfl (hb hby d3_54) ?_
  show Steps p.tables e below (T0.setTop (mkF m 55 #[s0, .val (.ref o1), s2, s3, s4, .val (.int i5), .val (.int i6), s7, s8, s9] [(.int (0 : Int32)), (.ref o1)])) _
  refine X0.iaload hx (j := (0 : Int32)) (v := (.int w5)) (by rw [e0]; exact Ar_o1.1) (State.isArrayOf_alike hZ.alike Ar_o1.2.1) Ar_o1.2.2 hin55 hat55 (g := (mkF m 55 #[s0, .val (.ref o1), s2, s3, s4, .val (.int i5), .val (.int i6), s7, s8, s9] [(.int (0 : Int32)), (.ref o1)])) rfl rfl (hb hby d3_55) _ ?_
  show Steps p.tables e below (T0.setTop (mkF m 56 #[s0, .val (.ref o1), s2, s3, s4, .val (.int i5), .val (.int i6), s7, s8, s9] [(.int w5)])) _
  refine XS.iload X0.here hx rfl (hb hby d3_56) rfl ?_
  show Steps p.tables e below (T0.setTop (mkF m 58 #[s0, .val (.ref o1), s2, s3, s4, .val (.int i5), .val (.int i6), s7, s8, s9] [(.int i6), (.int w5)])) _
  refine XS.icmpNo X0.here hx rfl (hb hby d3_58) rfl (teq hc58).2 ?_
  exact kt
set_option maxRecDepth 65536 in
set_option maxHeartbeats 40000000 in
theorem tp_d0n {p : Program} {l : Launch} {e : Env} {R : Room} {s : State} {m : MethodId} {args : Array Value} {below : List Frame} {meth : Method} {c : Code} {T0 : State} {locs : List Loc} {cells slots : Nat} {Z : State} {a0 : Array Value} {h0 : Heap} (s0 : Slot) (o1 : Addr) (s2 : Slot) (s3 : Slot) (s4 : Slot) (i5 : Int32) (i6 : Int32) (s7 : Slot) (s8 : Slot) (s9 : Slot) (w4 : Int32) (cl_o1 : Cell) (w5 : Int32)
    (X0 : Stand p l e R s m args below meth c T0 locs cells slots) (hx : p.tables.exec = Jvm.exec) (hZ : Z.Warmed39 s.vm) (hw : ∀ d ∈ tables_1, d.before a0 Z = true) (hby : c.code = method_3_code) (hml : c.maxLocals = 10) (hown : s.vm.findClass "org/refold/RootClassesFindPinLaw" = some m.cls) (e0 : T0.heap = h0) (Ar_o1 : Arr Z h0 o1 cl_o1 .int) (hin47 : ¬ ((0 : Int32) < 0 ∨ cl_o1.slots.size ≤ ((0 : Int32)).toNatClampNeg)) (hat47 : cl_o1.slots[((0 : Int32)).toNatClampNeg]? = some (.int w4)) (hin55 : ¬ ((0 : Int32) < 0 ∨ cl_o1.slots.size ≤ ((0 : Int32)).toNatClampNeg)) (hat55 : cl_o1.slots[((0 : Int32)).toNatClampNeg]? = some (.int w5)) (hc50 : ¬ (w4 = i5)) (hc58 : ¬ (w5 = i6)) :
    ∀ target, Steps p.tables e below (T0.setTop (mkF m 66 #[s0, .val (.ref o1), s2, s3, s4, .val (.int i5), .val (.int i6), s7, s8, s9] [])) target → Steps p.tables e below (T0.setTop (mkF m 45 #[s0, .val (.ref o1), s2, s3, s4, .val (.int i5), .val (.int i6), s7, s8, s9] [])) target := by
  intro target kt
  show Steps p.tables e below (T0.setTop (mkF m 45 #[s0, .val (.ref o1), s2, s3, s4, .val (.int i5), .val (.int i6), s7, s8, s9] [])) _
  refine XS.aloadN X0.here hx rfl (hb hby d3_45) rfl rfl ?_
  show Steps p.tables e below (T0.setTop (mkF m 46 #[s0, .val (.ref o1), s2, s3, s4, .val (.int i5), .val (.int i6), s7, s8, s9] [(.ref o1)])) _
  refine XS.iconst X0.here hx rfl (hb hby d3_46) ?_
  show Steps p.tables e below (T0.setTop (mkF m 47 #[s0, .val (.ref o1), s2, s3, s4, .val (.int i5), .val (.int i6), s7, s8, s9] [(.int (0 : Int32)), (.ref o1)])) _
  refine X0.iaload hx (j := (0 : Int32)) (v := (.int w4)) (by rw [e0]; exact Ar_o1.1) (State.isArrayOf_alike hZ.alike Ar_o1.2.1) Ar_o1.2.2 hin47 hat47 (g := (mkF m 47 #[s0, .val (.ref o1), s2, s3, s4, .val (.int i5), .val (.int i6), s7, s8, s9] [(.int (0 : Int32)), (.ref o1)])) rfl rfl (hb hby d3_47) _ ?_
  show Steps p.tables e below (T0.setTop (mkF m 48 #[s0, .val (.ref o1), s2, s3, s4, .val (.int i5), .val (.int i6), s7, s8, s9] [(.int w4)])) _
  refine XS.iload X0.here hx rfl (hb hby d3_48) rfl ?_
  show Steps p.tables e below (T0.setTop (mkF m 50 #[s0, .val (.ref o1), s2, s3, s4, .val (.int i5), .val (.int i6), s7, s8, s9] [(.int i5), (.int w4)])) _
  refine XS.icmpNo X0.here hx rfl (hb hby d3_50) rfl (feq hc50).1 ?_
  show Steps p.tables e below (T0.setTop (mkF m 53 #[s0, .val (.ref o1), s2, s3, s4, .val (.int i5), .val (.int i6), s7, s8, s9] [])) _
  refine XS.aloadN X0.here hx rfl (hb hby d3_53) rfl rfl ?_
  show Steps p.tables e below (T0.setTop (mkF m 54 #[s0, .val (.ref o1), s2, s3, s4, .val (.int i5), .val (.int i6), s7, s8, s9] [(.ref o1)])) _
  refine XS.iconst X0.here hx rfl (hb hby d3_54) ?_
  show Steps p.tables e below (T0.setTop (mkF m 55 #[s0, .val (.ref o1), s2, s3, s4, .val (.int i5), .val (.int i6), s7, s8, s9] [(.int (0 : Int32)), (.ref o1)])) _
  refine X0.iaload hx (j := (0 : Int32)) (v := (.int w5)) (by rw [e0]; exact Ar_o1.1) (State.isArrayOf_alike hZ.alike Ar_o1.2.1) Ar_o1.2.2 hin55 hat55 (g := (mkF m 55 #[s0, .val (.ref o1), s2, s3, s4, .val (.int i5), .val (.int i6), s7, s8, s9] [(.int (0 : Int32)), (.ref o1)])) rfl rfl (hb hby d3_55) _ ?_
  show Steps p.tables e below (T0.setTop (mkF m 56 #[s0, .val (.ref o1), s2, s3, s4, .val (.int i5), .val (.int i6), s7, s8, s9] [(.int w5)])) _
  refine XS.iload X0.here hx rfl (hb hby d3_56) rfl ?_
  show Steps p.tables e below (T0.setTop (mkF m 58 #[s0, .val (.ref o1), s2, s3, s4, .val (.int i5), .val (.int i6), s7, s8, s9] [(.int i6), (.int w5)])) _
  refine XS.icmpYes X0.here hx rfl (pc0 := 58) (pc' := 66) rfl (hb hby d3_58) rfl (feq hc58).2 (by decide) (by decide) ?_
  exact kt
set_option maxRecDepth 65536 in
set_option maxHeartbeats 40000000 in
theorem tp_d0w {p : Program} {l : Launch} {e : Env} {R : Room} {s : State} {m : MethodId} {args : Array Value} {below : List Frame} {meth : Method} {c : Code} {T0 : State} {locs : List Loc} {cells slots : Nat} {Z : State} {a0 : Array Value} {h0 : Heap} (s0 : Slot) (o1 : Addr) (s2 : Slot) (s3 : Slot) (s4 : Slot) (s5 : Slot) (s6 : Slot) (s7 : Slot) (i8 : Int32) (s9 : Slot) (cl_o1 : Cell)
    (X0 : Stand p l e R s m args below meth c T0 locs cells slots) (hx : p.tables.exec = Jvm.exec) (hZ : Z.Warmed39 s.vm) (hw : ∀ d ∈ tables_1, d.before a0 Z = true) (hby : c.code = method_3_code) (hml : c.maxLocals = 10) (hown : s.vm.findClass "org/refold/RootClassesFindPinLaw" = some m.cls) (e0 : T0.heap = h0) (n0 : Nat) (N0 : Fr n0 locs) (Ar_o1 : Arr Z h0 o1 cl_o1 .int) (hin65 : ¬ ((0 : Int32) < 0 ∨ cl_o1.slots.size ≤ ((0 : Int32)).toNatClampNeg)) (g_o1 : n0 ≤ o1) :
    ∃ (T' : State) (h' : Heap) (L' : List Loc), Stand p l e R s m args below meth c T' L' cells slots ∧ T'.heap = h' ∧ Fr n0 L' ∧ Wr h0 h' o1 ((0 : Int32)).toNatClampNeg (.int i8) ∧
      ∀ target, Steps p.tables e below (T'.setTop (mkF m 66 #[s0, .val (.ref o1), s2, s3, s4, s5, s6, s7, .val (.int i8), s9] [])) target → Steps p.tables e below (T0.setTop (mkF m 61 #[s0, .val (.ref o1), s2, s3, s4, s5, s6, s7, .val (.int i8), s9] [])) target := by
  obtain ⟨T4, h4, X4, e4, W4, st4⟩ := stI X0 hx hZ e0 Ar_o1 (j := (0 : Int32)) hin65 (g := (mkF m 65 #[s0, .val (.ref o1), s2, s3, s4, s5, s6, s7, .val (.int i8), s9] [(.int i8), (.int (0 : Int32)), (.ref o1)])) rfl rfl (hb hby d3_65)
  have N4 := Fr.snoc X4 N0 g_o1
  have K4 : Keep h0 h4 [o1] := (Keep.refl h0 [o1]).wr W4 (Or.inl (List.mem_of_getElem? (i := 0) rfl))
  refine ⟨T4, _, _, X4, e4, N4, W4, fun target kt => ?_⟩
  show Steps p.tables e below (T0.setTop (mkF m 61 #[s0, .val (.ref o1), s2, s3, s4, s5, s6, s7, .val (.int i8), s9] [])) _
  refine XS.aloadN X0.here hx rfl (hb hby d3_61) rfl rfl ?_
  show Steps p.tables e below (T0.setTop (mkF m 62 #[s0, .val (.ref o1), s2, s3, s4, s5, s6, s7, .val (.int i8), s9] [(.ref o1)])) _
  refine XS.iconst X0.here hx rfl (hb hby d3_62) ?_
  show Steps p.tables e below (T0.setTop (mkF m 63 #[s0, .val (.ref o1), s2, s3, s4, s5, s6, s7, .val (.int i8), s9] [(.int (0 : Int32)), (.ref o1)])) _
  refine XS.iload X0.here hx rfl (hb hby d3_63) rfl ?_
  show Steps p.tables e below (T0.setTop (mkF m 65 #[s0, .val (.ref o1), s2, s3, s4, s5, s6, s7, .val (.int i8), s9] [(.int i8), (.int (0 : Int32)), (.ref o1)])) _
  refine st4 _ ?_
  exact kt
theorem own_cell0 {p : Program} {l : Launch} {e : Env} {R : Room} {s : State} {m : MethodId} {args : Array Value} {below : List Frame} {meth : Method} {c : Code} {cells slots : Nat} {Z : State} {a0 : Array Value} {T0 : State} {locs : List Loc} {h0 : Heap} (s0 : Slot) (o1 : Addr) (s2 s3 s4 : Slot) (x y mm : Nat) (s7 s9 : Slot) (hx' : x ≤ 255) (hy' : y ≤ 255) (X0 : Stand p l e R s m args below meth c T0 locs cells slots) (hx : p.tables.exec = Jvm.exec) (hZ : Z.Warmed39 s.vm) (hw : ∀ d ∈ tables_1, d.before a0 Z = true) (hby : c.code = method_3_code) (hml : c.maxLocals = 10) (hown : s.vm.findClass "org/refold/RootClassesFindPinLaw" = some m.cls) (e0 : T0.heap = h0) (n0 : Nat) (N0 : Fr n0 locs) (g : n0 ≤ o1) (L : List Nat) (hL : L.length = 4) (hs : ∀ j, j < 4 → own_get L j ≤ 255) (HL : IA Z h0 o1 L) :
    ∃ (T' : State) (h' : Heap) (L' : List Loc), Stand p l e R s m args below meth c T' L' cells slots ∧ T'.heap = h' ∧ Fr n0 L' ∧ Keep h0 h' [o1] ∧ IA Z h' o1 (own_re L x y mm 0) ∧
      ∀ target, Steps p.tables e below (T'.setTop (mkF m 66 #[s0, .val (.ref o1), s2, s3, s4, .val (.int (Int32.ofNat x)), .val (.int (Int32.ofNat y)), s7, .val (.int (Int32.ofNat mm)), s9] [])) target → Steps p.tables e below (T0.setTop (mkF m 45 #[s0, .val (.ref o1), s2, s3, s4, .val (.int (Int32.ofNat x)), .val (.int (Int32.ofNat y)), s7, .val (.int (Int32.ofNat mm)), s9] [])) target := by
  obtain ⟨cl, Ar, Sz, H⟩ := id HL
  have hin : ¬ ((0 : Int32) < 0 ∨ cl.slots.size ≤ ((0 : Int32)).toNatClampNeg) := by rw [Sz]; decide
  have hat : cl.slots[((0 : Int32)).toNatClampNeg]? = some (.int (Int32.ofNat (own_get L 0))) := by rw [show ((0 : Int32)).toNatClampNeg = 0 from by decide]; exact H 0 (by omega)
  have hq := hs 0 (by omega)
  have wr : ∀ (u : own_get L 0 = x ∨ own_get L 0 = y), (∀ target, Steps p.tables e below (T0.setTop (mkF m 61 #[s0, .val (.ref o1), s2, s3, s4, .val (.int (Int32.ofNat x)), .val (.int (Int32.ofNat y)), s7, .val (.int (Int32.ofNat mm)), s9] [])) target → Steps p.tables e below (T0.setTop (mkF m 45 #[s0, .val (.ref o1), s2, s3, s4, .val (.int (Int32.ofNat x)), .val (.int (Int32.ofNat y)), s7, .val (.int (Int32.ofNat mm)), s9] [])) target) → ∃ (T' : State) (h' : Heap) (L' : List Loc), Stand p l e R s m args below meth c T' L' cells slots ∧ T'.heap = h' ∧ Fr n0 L' ∧ Keep h0 h' [o1] ∧ IA Z h' o1 (own_re L x y mm 0) ∧
      ∀ target, Steps p.tables e below (T'.setTop (mkF m 66 #[s0, .val (.ref o1), s2, s3, s4, .val (.int (Int32.ofNat x)), .val (.int (Int32.ofNat y)), s7, .val (.int (Int32.ofNat mm)), s9] [])) target → Steps p.tables e below (T0.setTop (mkF m 45 #[s0, .val (.ref o1), s2, s3, s4, .val (.int (Int32.ofNat x)), .val (.int (Int32.ofNat y)), s7, .val (.int (Int32.ofNat mm)), s9] [])) target := by
    intro u st
    obtain ⟨T1, h1, L1, X1, e1, N1, W1, st1⟩ := tp_d0w s0 o1 s2 s3 s4 (.val (.int (Int32.ofNat x))) (.val (.int (Int32.ofNat y))) s7 (Int32.ofNat mm) s9 cl X0 hx hZ hw hby hml hown e0 n0 N0 Ar hin g
    refine ⟨T1, h1, L1, X1, e1, N1, (Keep.refl h0 [o1]).wr W1 (Or.inl (List.mem_of_getElem? (i := 0) rfl)), ?_, fun target k => st target (st1 target k)⟩
    rw [own_re, if_pos u]
    exact IA.set hL (by omega) Ar Sz H (by decide) W1
  by_cases c1 : own_get L 0 = x
  · exact wr (Or.inl c1) (tp_d0t s0 o1 s2 s3 s4 (Int32.ofNat x) (.val (.int (Int32.ofNat y))) s7 (.val (.int (Int32.ofNat mm))) s9 (Int32.ofNat (own_get L 0)) cl X0 hx hZ hw hby hml hown e0 Ar hin hat (by rw [c1]))
  · by_cases c2 : own_get L 0 = y
    · exact wr (Or.inr c2) (tp_d0f s0 o1 s2 s3 s4 (Int32.ofNat x) (Int32.ofNat y) s7 (.val (.int (Int32.ofNat mm))) s9 (Int32.ofNat (own_get L 0)) cl (Int32.ofNat (own_get L 0)) X0 hx hZ hw hby hml hown e0 Ar hin hat hin hat (own_ne c1 hq hx') (by rw [c2]))
    · refine ⟨T0, h0, locs, X0, e0, N0, Keep.refl h0 [o1], ?_, tp_d0n s0 o1 s2 s3 s4 (Int32.ofNat x) (Int32.ofNat y) s7 (.val (.int (Int32.ofNat mm))) s9 (Int32.ofNat (own_get L 0)) cl (Int32.ofNat (own_get L 0)) X0 hx hZ hw hby hml hown e0 Ar hin hat hin hat (own_ne c1 hq hx') (own_ne c2 hq hy')⟩
      rw [own_re, if_neg (fun u => u.elim c1 c2)]; exact HL

set_option maxRecDepth 65536 in
set_option maxHeartbeats 40000000 in
theorem tp_d1t {p : Program} {l : Launch} {e : Env} {R : Room} {s : State} {m : MethodId} {args : Array Value} {below : List Frame} {meth : Method} {c : Code} {T0 : State} {locs : List Loc} {cells slots : Nat} {Z : State} {a0 : Array Value} {h0 : Heap} (s0 : Slot) (o1 : Addr) (s2 : Slot) (s3 : Slot) (s4 : Slot) (i5 : Int32) (s6 : Slot) (s7 : Slot) (s8 : Slot) (s9 : Slot) (w4 : Int32) (cl_o1 : Cell)
    (X0 : Stand p l e R s m args below meth c T0 locs cells slots) (hx : p.tables.exec = Jvm.exec) (hZ : Z.Warmed39 s.vm) (hw : ∀ d ∈ tables_1, d.before a0 Z = true) (hby : c.code = method_3_code) (hml : c.maxLocals = 10) (hown : s.vm.findClass "org/refold/RootClassesFindPinLaw" = some m.cls) (e0 : T0.heap = h0) (Ar_o1 : Arr Z h0 o1 cl_o1 .int) (hin68 : ¬ ((1 : Int32) < 0 ∨ cl_o1.slots.size ≤ ((1 : Int32)).toNatClampNeg)) (hat68 : cl_o1.slots[((1 : Int32)).toNatClampNeg]? = some (.int w4)) (hc71 : w4 = i5) :
    ∀ target, Steps p.tables e below (T0.setTop (mkF m 82 #[s0, .val (.ref o1), s2, s3, s4, .val (.int i5), s6, s7, s8, s9] [])) target → Steps p.tables e below (T0.setTop (mkF m 66 #[s0, .val (.ref o1), s2, s3, s4, .val (.int i5), s6, s7, s8, s9] [])) target := by
  intro target kt
  show Steps p.tables e below (T0.setTop (mkF m 66 #[s0, .val (.ref o1), s2, s3, s4, .val (.int i5), s6, s7, s8, s9] [])) _
  refine XS.aloadN X0.here hx rfl (hb hby d3_66) rfl rfl ?_
  show Steps p.tables e below (T0.setTop (mkF m 67 #[s0, .val (.ref o1), s2, s3, s4, .val (.int i5), s6, s7, s8, s9] [(.ref o1)])) _
  refine XS.iconst X0.here hx rfl (hb hby d3_67) ?_
  show Steps p.tables e below (T0.setTop (mkF m 68 #[s0, .val (.ref o1), s2, s3, s4, .val (.int i5), s6, s7, s8, s9] [(.int (1 : Int32)), (.ref o1)])) _
  refine X0.iaload hx (j := (1 : Int32)) (v := (.int w4)) (by rw [e0]; exact Ar_o1.1) (State.isArrayOf_alike hZ.alike Ar_o1.2.1) Ar_o1.2.2 hin68 hat68 (g := (mkF m 68 #[s0, .val (.ref o1), s2, s3, s4, .val (.int i5), s6, s7, s8, s9] [(.int (1 : Int32)), (.ref o1)])) rfl rfl (hb hby d3_68) _ ?_
  show Steps p.tables e below (T0.setTop (mkF m 69 #[s0, .val (.ref o1), s2, s3, s4, .val (.int i5), s6, s7, s8, s9] [(.int w4)])) _
  refine XS.iload X0.here hx rfl (hb hby d3_69) rfl ?_
  show Steps p.tables e below (T0.setTop (mkF m 71 #[s0, .val (.ref o1), s2, s3, s4, .val (.int i5), s6, s7, s8, s9] [(.int i5), (.int w4)])) _
  refine XS.icmpYes X0.here hx rfl (pc0 := 71) (pc' := 82) rfl (hb hby d3_71) rfl (teq hc71).1 (by decide) (by decide) ?_
  exact kt
set_option maxRecDepth 65536 in
set_option maxHeartbeats 40000000 in
theorem tp_d1f {p : Program} {l : Launch} {e : Env} {R : Room} {s : State} {m : MethodId} {args : Array Value} {below : List Frame} {meth : Method} {c : Code} {T0 : State} {locs : List Loc} {cells slots : Nat} {Z : State} {a0 : Array Value} {h0 : Heap} (s0 : Slot) (o1 : Addr) (s2 : Slot) (s3 : Slot) (s4 : Slot) (i5 : Int32) (i6 : Int32) (s7 : Slot) (s8 : Slot) (s9 : Slot) (w4 : Int32) (cl_o1 : Cell) (w5 : Int32)
    (X0 : Stand p l e R s m args below meth c T0 locs cells slots) (hx : p.tables.exec = Jvm.exec) (hZ : Z.Warmed39 s.vm) (hw : ∀ d ∈ tables_1, d.before a0 Z = true) (hby : c.code = method_3_code) (hml : c.maxLocals = 10) (hown : s.vm.findClass "org/refold/RootClassesFindPinLaw" = some m.cls) (e0 : T0.heap = h0) (Ar_o1 : Arr Z h0 o1 cl_o1 .int) (hin68 : ¬ ((1 : Int32) < 0 ∨ cl_o1.slots.size ≤ ((1 : Int32)).toNatClampNeg)) (hat68 : cl_o1.slots[((1 : Int32)).toNatClampNeg]? = some (.int w4)) (hin76 : ¬ ((1 : Int32) < 0 ∨ cl_o1.slots.size ≤ ((1 : Int32)).toNatClampNeg)) (hat76 : cl_o1.slots[((1 : Int32)).toNatClampNeg]? = some (.int w5)) (hc71 : ¬ (w4 = i5)) (hc79 : w5 = i6) :
    ∀ target, Steps p.tables e below (T0.setTop (mkF m 82 #[s0, .val (.ref o1), s2, s3, s4, .val (.int i5), .val (.int i6), s7, s8, s9] [])) target → Steps p.tables e below (T0.setTop (mkF m 66 #[s0, .val (.ref o1), s2, s3, s4, .val (.int i5), .val (.int i6), s7, s8, s9] [])) target := by
  intro target kt
  show Steps p.tables e below (T0.setTop (mkF m 66 #[s0, .val (.ref o1), s2, s3, s4, .val (.int i5), .val (.int i6), s7, s8, s9] [])) _
  refine XS.aloadN X0.here hx rfl (hb hby d3_66) rfl rfl ?_
  show Steps p.tables e below (T0.setTop (mkF m 67 #[s0, .val (.ref o1), s2, s3, s4, .val (.int i5), .val (.int i6), s7, s8, s9] [(.ref o1)])) _
  refine XS.iconst X0.here hx rfl (hb hby d3_67) ?_
  show Steps p.tables e below (T0.setTop (mkF m 68 #[s0, .val (.ref o1), s2, s3, s4, .val (.int i5), .val (.int i6), s7, s8, s9] [(.int (1 : Int32)), (.ref o1)])) _
  refine X0.iaload hx (j := (1 : Int32)) (v := (.int w4)) (by rw [e0]; exact Ar_o1.1) (State.isArrayOf_alike hZ.alike Ar_o1.2.1) Ar_o1.2.2 hin68 hat68 (g := (mkF m 68 #[s0, .val (.ref o1), s2, s3, s4, .val (.int i5), .val (.int i6), s7, s8, s9] [(.int (1 : Int32)), (.ref o1)])) rfl rfl (hb hby d3_68) _ ?_
  show Steps p.tables e below (T0.setTop (mkF m 69 #[s0, .val (.ref o1), s2, s3, s4, .val (.int i5), .val (.int i6), s7, s8, s9] [(.int w4)])) _
  refine XS.iload X0.here hx rfl (hb hby d3_69) rfl ?_
  show Steps p.tables e below (T0.setTop (mkF m 71 #[s0, .val (.ref o1), s2, s3, s4, .val (.int i5), .val (.int i6), s7, s8, s9] [(.int i5), (.int w4)])) _
  refine XS.icmpNo X0.here hx rfl (hb hby d3_71) rfl (feq hc71).1 ?_
  show Steps p.tables e below (T0.setTop (mkF m 74 #[s0, .val (.ref o1), s2, s3, s4, .val (.int i5), .val (.int i6), s7, s8, s9] [])) _
  refine XS.aloadN X0.here hx rfl (hb hby d3_74) rfl rfl ?_
  show Steps p.tables e below (T0.setTop (mkF m 75 #[s0, .val (.ref o1), s2, s3, s4, .val (.int i5), .val (.int i6), s7, s8, s9] [(.ref o1)])) _
  refine XS.iconst X0.here hx rfl (hb hby d3_75) ?_
  show Steps p.tables e below (T0.setTop (mkF m 76 #[s0, .val (.ref o1), s2, s3, s4, .val (.int i5), .val (.int i6), s7, s8, s9] [(.int (1 : Int32)), (.ref o1)])) _
  refine X0.iaload hx (j := (1 : Int32)) (v := (.int w5)) (by rw [e0]; exact Ar_o1.1) (State.isArrayOf_alike hZ.alike Ar_o1.2.1) Ar_o1.2.2 hin76 hat76 (g := (mkF m 76 #[s0, .val (.ref o1), s2, s3, s4, .val (.int i5), .val (.int i6), s7, s8, s9] [(.int (1 : Int32)), (.ref o1)])) rfl rfl (hb hby d3_76) _ ?_
  show Steps p.tables e below (T0.setTop (mkF m 77 #[s0, .val (.ref o1), s2, s3, s4, .val (.int i5), .val (.int i6), s7, s8, s9] [(.int w5)])) _
  refine XS.iload X0.here hx rfl (hb hby d3_77) rfl ?_
  show Steps p.tables e below (T0.setTop (mkF m 79 #[s0, .val (.ref o1), s2, s3, s4, .val (.int i5), .val (.int i6), s7, s8, s9] [(.int i6), (.int w5)])) _
  refine XS.icmpNo X0.here hx rfl (hb hby d3_79) rfl (teq hc79).2 ?_
  exact kt
set_option maxRecDepth 65536 in
set_option maxHeartbeats 40000000 in
theorem tp_d1n {p : Program} {l : Launch} {e : Env} {R : Room} {s : State} {m : MethodId} {args : Array Value} {below : List Frame} {meth : Method} {c : Code} {T0 : State} {locs : List Loc} {cells slots : Nat} {Z : State} {a0 : Array Value} {h0 : Heap} (s0 : Slot) (o1 : Addr) (s2 : Slot) (s3 : Slot) (s4 : Slot) (i5 : Int32) (i6 : Int32) (s7 : Slot) (s8 : Slot) (s9 : Slot) (w4 : Int32) (cl_o1 : Cell) (w5 : Int32)
    (X0 : Stand p l e R s m args below meth c T0 locs cells slots) (hx : p.tables.exec = Jvm.exec) (hZ : Z.Warmed39 s.vm) (hw : ∀ d ∈ tables_1, d.before a0 Z = true) (hby : c.code = method_3_code) (hml : c.maxLocals = 10) (hown : s.vm.findClass "org/refold/RootClassesFindPinLaw" = some m.cls) (e0 : T0.heap = h0) (Ar_o1 : Arr Z h0 o1 cl_o1 .int) (hin68 : ¬ ((1 : Int32) < 0 ∨ cl_o1.slots.size ≤ ((1 : Int32)).toNatClampNeg)) (hat68 : cl_o1.slots[((1 : Int32)).toNatClampNeg]? = some (.int w4)) (hin76 : ¬ ((1 : Int32) < 0 ∨ cl_o1.slots.size ≤ ((1 : Int32)).toNatClampNeg)) (hat76 : cl_o1.slots[((1 : Int32)).toNatClampNeg]? = some (.int w5)) (hc71 : ¬ (w4 = i5)) (hc79 : ¬ (w5 = i6)) :
    ∀ target, Steps p.tables e below (T0.setTop (mkF m 87 #[s0, .val (.ref o1), s2, s3, s4, .val (.int i5), .val (.int i6), s7, s8, s9] [])) target → Steps p.tables e below (T0.setTop (mkF m 66 #[s0, .val (.ref o1), s2, s3, s4, .val (.int i5), .val (.int i6), s7, s8, s9] [])) target := by
  intro target kt
  show Steps p.tables e below (T0.setTop (mkF m 66 #[s0, .val (.ref o1), s2, s3, s4, .val (.int i5), .val (.int i6), s7, s8, s9] [])) _
  refine XS.aloadN X0.here hx rfl (hb hby d3_66) rfl rfl ?_
  show Steps p.tables e below (T0.setTop (mkF m 67 #[s0, .val (.ref o1), s2, s3, s4, .val (.int i5), .val (.int i6), s7, s8, s9] [(.ref o1)])) _
  refine XS.iconst X0.here hx rfl (hb hby d3_67) ?_
  show Steps p.tables e below (T0.setTop (mkF m 68 #[s0, .val (.ref o1), s2, s3, s4, .val (.int i5), .val (.int i6), s7, s8, s9] [(.int (1 : Int32)), (.ref o1)])) _
  refine X0.iaload hx (j := (1 : Int32)) (v := (.int w4)) (by rw [e0]; exact Ar_o1.1) (State.isArrayOf_alike hZ.alike Ar_o1.2.1) Ar_o1.2.2 hin68 hat68 (g := (mkF m 68 #[s0, .val (.ref o1), s2, s3, s4, .val (.int i5), .val (.int i6), s7, s8, s9] [(.int (1 : Int32)), (.ref o1)])) rfl rfl (hb hby d3_68) _ ?_
  show Steps p.tables e below (T0.setTop (mkF m 69 #[s0, .val (.ref o1), s2, s3, s4, .val (.int i5), .val (.int i6), s7, s8, s9] [(.int w4)])) _
  refine XS.iload X0.here hx rfl (hb hby d3_69) rfl ?_
  show Steps p.tables e below (T0.setTop (mkF m 71 #[s0, .val (.ref o1), s2, s3, s4, .val (.int i5), .val (.int i6), s7, s8, s9] [(.int i5), (.int w4)])) _
  refine XS.icmpNo X0.here hx rfl (hb hby d3_71) rfl (feq hc71).1 ?_
  show Steps p.tables e below (T0.setTop (mkF m 74 #[s0, .val (.ref o1), s2, s3, s4, .val (.int i5), .val (.int i6), s7, s8, s9] [])) _
  refine XS.aloadN X0.here hx rfl (hb hby d3_74) rfl rfl ?_
  show Steps p.tables e below (T0.setTop (mkF m 75 #[s0, .val (.ref o1), s2, s3, s4, .val (.int i5), .val (.int i6), s7, s8, s9] [(.ref o1)])) _
  refine XS.iconst X0.here hx rfl (hb hby d3_75) ?_
  show Steps p.tables e below (T0.setTop (mkF m 76 #[s0, .val (.ref o1), s2, s3, s4, .val (.int i5), .val (.int i6), s7, s8, s9] [(.int (1 : Int32)), (.ref o1)])) _
  refine X0.iaload hx (j := (1 : Int32)) (v := (.int w5)) (by rw [e0]; exact Ar_o1.1) (State.isArrayOf_alike hZ.alike Ar_o1.2.1) Ar_o1.2.2 hin76 hat76 (g := (mkF m 76 #[s0, .val (.ref o1), s2, s3, s4, .val (.int i5), .val (.int i6), s7, s8, s9] [(.int (1 : Int32)), (.ref o1)])) rfl rfl (hb hby d3_76) _ ?_
  show Steps p.tables e below (T0.setTop (mkF m 77 #[s0, .val (.ref o1), s2, s3, s4, .val (.int i5), .val (.int i6), s7, s8, s9] [(.int w5)])) _
  refine XS.iload X0.here hx rfl (hb hby d3_77) rfl ?_
  show Steps p.tables e below (T0.setTop (mkF m 79 #[s0, .val (.ref o1), s2, s3, s4, .val (.int i5), .val (.int i6), s7, s8, s9] [(.int i6), (.int w5)])) _
  refine XS.icmpYes X0.here hx rfl (pc0 := 79) (pc' := 87) rfl (hb hby d3_79) rfl (feq hc79).2 (by decide) (by decide) ?_
  exact kt
set_option maxRecDepth 65536 in
set_option maxHeartbeats 40000000 in
theorem tp_d1w {p : Program} {l : Launch} {e : Env} {R : Room} {s : State} {m : MethodId} {args : Array Value} {below : List Frame} {meth : Method} {c : Code} {T0 : State} {locs : List Loc} {cells slots : Nat} {Z : State} {a0 : Array Value} {h0 : Heap} (s0 : Slot) (o1 : Addr) (s2 : Slot) (s3 : Slot) (s4 : Slot) (s5 : Slot) (s6 : Slot) (s7 : Slot) (i8 : Int32) (s9 : Slot) (cl_o1 : Cell)
    (X0 : Stand p l e R s m args below meth c T0 locs cells slots) (hx : p.tables.exec = Jvm.exec) (hZ : Z.Warmed39 s.vm) (hw : ∀ d ∈ tables_1, d.before a0 Z = true) (hby : c.code = method_3_code) (hml : c.maxLocals = 10) (hown : s.vm.findClass "org/refold/RootClassesFindPinLaw" = some m.cls) (e0 : T0.heap = h0) (n0 : Nat) (N0 : Fr n0 locs) (Ar_o1 : Arr Z h0 o1 cl_o1 .int) (hin86 : ¬ ((1 : Int32) < 0 ∨ cl_o1.slots.size ≤ ((1 : Int32)).toNatClampNeg)) (g_o1 : n0 ≤ o1) :
    ∃ (T' : State) (h' : Heap) (L' : List Loc), Stand p l e R s m args below meth c T' L' cells slots ∧ T'.heap = h' ∧ Fr n0 L' ∧ Wr h0 h' o1 ((1 : Int32)).toNatClampNeg (.int i8) ∧
      ∀ target, Steps p.tables e below (T'.setTop (mkF m 87 #[s0, .val (.ref o1), s2, s3, s4, s5, s6, s7, .val (.int i8), s9] [])) target → Steps p.tables e below (T0.setTop (mkF m 82 #[s0, .val (.ref o1), s2, s3, s4, s5, s6, s7, .val (.int i8), s9] [])) target := by
  obtain ⟨T4, h4, X4, e4, W4, st4⟩ := stI X0 hx hZ e0 Ar_o1 (j := (1 : Int32)) hin86 (g := (mkF m 86 #[s0, .val (.ref o1), s2, s3, s4, s5, s6, s7, .val (.int i8), s9] [(.int i8), (.int (1 : Int32)), (.ref o1)])) rfl rfl (hb hby d3_86)
  have N4 := Fr.snoc X4 N0 g_o1
  have K4 : Keep h0 h4 [o1] := (Keep.refl h0 [o1]).wr W4 (Or.inl (List.mem_of_getElem? (i := 0) rfl))
  refine ⟨T4, _, _, X4, e4, N4, W4, fun target kt => ?_⟩
  show Steps p.tables e below (T0.setTop (mkF m 82 #[s0, .val (.ref o1), s2, s3, s4, s5, s6, s7, .val (.int i8), s9] [])) _
  refine XS.aloadN X0.here hx rfl (hb hby d3_82) rfl rfl ?_
  show Steps p.tables e below (T0.setTop (mkF m 83 #[s0, .val (.ref o1), s2, s3, s4, s5, s6, s7, .val (.int i8), s9] [(.ref o1)])) _
  refine XS.iconst X0.here hx rfl (hb hby d3_83) ?_
  show Steps p.tables e below (T0.setTop (mkF m 84 #[s0, .val (.ref o1), s2, s3, s4, s5, s6, s7, .val (.int i8), s9] [(.int (1 : Int32)), (.ref o1)])) _
  refine XS.iload X0.here hx rfl (hb hby d3_84) rfl ?_
  show Steps p.tables e below (T0.setTop (mkF m 86 #[s0, .val (.ref o1), s2, s3, s4, s5, s6, s7, .val (.int i8), s9] [(.int i8), (.int (1 : Int32)), (.ref o1)])) _
  refine st4 _ ?_
  exact kt
theorem own_cell1 {p : Program} {l : Launch} {e : Env} {R : Room} {s : State} {m : MethodId} {args : Array Value} {below : List Frame} {meth : Method} {c : Code} {cells slots : Nat} {Z : State} {a0 : Array Value} {T0 : State} {locs : List Loc} {h0 : Heap} (s0 : Slot) (o1 : Addr) (s2 s3 s4 : Slot) (x y mm : Nat) (s7 s9 : Slot) (hx' : x ≤ 255) (hy' : y ≤ 255) (X0 : Stand p l e R s m args below meth c T0 locs cells slots) (hx : p.tables.exec = Jvm.exec) (hZ : Z.Warmed39 s.vm) (hw : ∀ d ∈ tables_1, d.before a0 Z = true) (hby : c.code = method_3_code) (hml : c.maxLocals = 10) (hown : s.vm.findClass "org/refold/RootClassesFindPinLaw" = some m.cls) (e0 : T0.heap = h0) (n0 : Nat) (N0 : Fr n0 locs) (g : n0 ≤ o1) (L : List Nat) (hL : L.length = 4) (hs : ∀ j, j < 4 → own_get L j ≤ 255) (HL : IA Z h0 o1 L) :
    ∃ (T' : State) (h' : Heap) (L' : List Loc), Stand p l e R s m args below meth c T' L' cells slots ∧ T'.heap = h' ∧ Fr n0 L' ∧ Keep h0 h' [o1] ∧ IA Z h' o1 (own_re L x y mm 1) ∧
      ∀ target, Steps p.tables e below (T'.setTop (mkF m 87 #[s0, .val (.ref o1), s2, s3, s4, .val (.int (Int32.ofNat x)), .val (.int (Int32.ofNat y)), s7, .val (.int (Int32.ofNat mm)), s9] [])) target → Steps p.tables e below (T0.setTop (mkF m 66 #[s0, .val (.ref o1), s2, s3, s4, .val (.int (Int32.ofNat x)), .val (.int (Int32.ofNat y)), s7, .val (.int (Int32.ofNat mm)), s9] [])) target := by
  obtain ⟨cl, Ar, Sz, H⟩ := id HL
  have hin : ¬ ((1 : Int32) < 0 ∨ cl.slots.size ≤ ((1 : Int32)).toNatClampNeg) := by rw [Sz]; decide
  have hat : cl.slots[((1 : Int32)).toNatClampNeg]? = some (.int (Int32.ofNat (own_get L 1))) := by rw [show ((1 : Int32)).toNatClampNeg = 1 from by decide]; exact H 1 (by omega)
  have hq := hs 1 (by omega)
  have wr : ∀ (u : own_get L 1 = x ∨ own_get L 1 = y), (∀ target, Steps p.tables e below (T0.setTop (mkF m 82 #[s0, .val (.ref o1), s2, s3, s4, .val (.int (Int32.ofNat x)), .val (.int (Int32.ofNat y)), s7, .val (.int (Int32.ofNat mm)), s9] [])) target → Steps p.tables e below (T0.setTop (mkF m 66 #[s0, .val (.ref o1), s2, s3, s4, .val (.int (Int32.ofNat x)), .val (.int (Int32.ofNat y)), s7, .val (.int (Int32.ofNat mm)), s9] [])) target) → ∃ (T' : State) (h' : Heap) (L' : List Loc), Stand p l e R s m args below meth c T' L' cells slots ∧ T'.heap = h' ∧ Fr n0 L' ∧ Keep h0 h' [o1] ∧ IA Z h' o1 (own_re L x y mm 1) ∧
      ∀ target, Steps p.tables e below (T'.setTop (mkF m 87 #[s0, .val (.ref o1), s2, s3, s4, .val (.int (Int32.ofNat x)), .val (.int (Int32.ofNat y)), s7, .val (.int (Int32.ofNat mm)), s9] [])) target → Steps p.tables e below (T0.setTop (mkF m 66 #[s0, .val (.ref o1), s2, s3, s4, .val (.int (Int32.ofNat x)), .val (.int (Int32.ofNat y)), s7, .val (.int (Int32.ofNat mm)), s9] [])) target := by
    intro u st
    obtain ⟨T1, h1, L1, X1, e1, N1, W1, st1⟩ := tp_d1w s0 o1 s2 s3 s4 (.val (.int (Int32.ofNat x))) (.val (.int (Int32.ofNat y))) s7 (Int32.ofNat mm) s9 cl X0 hx hZ hw hby hml hown e0 n0 N0 Ar hin g
    refine ⟨T1, h1, L1, X1, e1, N1, (Keep.refl h0 [o1]).wr W1 (Or.inl (List.mem_of_getElem? (i := 0) rfl)), ?_, fun target k => st target (st1 target k)⟩
    rw [own_re, if_pos u]
    exact IA.set hL (by omega) Ar Sz H (by decide) W1
  by_cases c1 : own_get L 1 = x
  · exact wr (Or.inl c1) (tp_d1t s0 o1 s2 s3 s4 (Int32.ofNat x) (.val (.int (Int32.ofNat y))) s7 (.val (.int (Int32.ofNat mm))) s9 (Int32.ofNat (own_get L 1)) cl X0 hx hZ hw hby hml hown e0 Ar hin hat (by rw [c1]))
  · by_cases c2 : own_get L 1 = y
    · exact wr (Or.inr c2) (tp_d1f s0 o1 s2 s3 s4 (Int32.ofNat x) (Int32.ofNat y) s7 (.val (.int (Int32.ofNat mm))) s9 (Int32.ofNat (own_get L 1)) cl (Int32.ofNat (own_get L 1)) X0 hx hZ hw hby hml hown e0 Ar hin hat hin hat (own_ne c1 hq hx') (by rw [c2]))
    · refine ⟨T0, h0, locs, X0, e0, N0, Keep.refl h0 [o1], ?_, tp_d1n s0 o1 s2 s3 s4 (Int32.ofNat x) (Int32.ofNat y) s7 (.val (.int (Int32.ofNat mm))) s9 (Int32.ofNat (own_get L 1)) cl (Int32.ofNat (own_get L 1)) X0 hx hZ hw hby hml hown e0 Ar hin hat hin hat (own_ne c1 hq hx') (own_ne c2 hq hy')⟩
      rw [own_re, if_neg (fun u => u.elim c1 c2)]; exact HL

set_option maxRecDepth 65536 in
set_option maxHeartbeats 40000000 in
theorem tp_d2t {p : Program} {l : Launch} {e : Env} {R : Room} {s : State} {m : MethodId} {args : Array Value} {below : List Frame} {meth : Method} {c : Code} {T0 : State} {locs : List Loc} {cells slots : Nat} {Z : State} {a0 : Array Value} {h0 : Heap} (s0 : Slot) (o1 : Addr) (s2 : Slot) (s3 : Slot) (s4 : Slot) (i5 : Int32) (s6 : Slot) (s7 : Slot) (s8 : Slot) (s9 : Slot) (w4 : Int32) (cl_o1 : Cell)
    (X0 : Stand p l e R s m args below meth c T0 locs cells slots) (hx : p.tables.exec = Jvm.exec) (hZ : Z.Warmed39 s.vm) (hw : ∀ d ∈ tables_1, d.before a0 Z = true) (hby : c.code = method_3_code) (hml : c.maxLocals = 10) (hown : s.vm.findClass "org/refold/RootClassesFindPinLaw" = some m.cls) (e0 : T0.heap = h0) (Ar_o1 : Arr Z h0 o1 cl_o1 .int) (hin89 : ¬ ((2 : Int32) < 0 ∨ cl_o1.slots.size ≤ ((2 : Int32)).toNatClampNeg)) (hat89 : cl_o1.slots[((2 : Int32)).toNatClampNeg]? = some (.int w4)) (hc92 : w4 = i5) :
    ∀ target, Steps p.tables e below (T0.setTop (mkF m 103 #[s0, .val (.ref o1), s2, s3, s4, .val (.int i5), s6, s7, s8, s9] [])) target → Steps p.tables e below (T0.setTop (mkF m 87 #[s0, .val (.ref o1), s2, s3, s4, .val (.int i5), s6, s7, s8, s9] [])) target := by
  intro target kt
  show Steps p.tables e below (T0.setTop (mkF m 87 #[s0, .val (.ref o1), s2, s3, s4, .val (.int i5), s6, s7, s8, s9] [])) _
  refine XS.aloadN X0.here hx rfl (hb hby d3_87) rfl rfl ?_
  show Steps p.tables e below (T0.setTop (mkF m 88 #[s0, .val (.ref o1), s2, s3, s4, .val (.int i5), s6, s7, s8, s9] [(.ref o1)])) _
  refine XS.iconst X0.here hx rfl (hb hby d3_88) ?_
  show Steps p.tables e below (T0.setTop (mkF m 89 #[s0, .val (.ref o1), s2, s3, s4, .val (.int i5), s6, s7, s8, s9] [(.int (2 : Int32)), (.ref o1)])) _
  refine X0.iaload hx (j := (2 : Int32)) (v := (.int w4)) (by rw [e0]; exact Ar_o1.1) (State.isArrayOf_alike hZ.alike Ar_o1.2.1) Ar_o1.2.2 hin89 hat89 (g := (mkF m 89 #[s0, .val (.ref o1), s2, s3, s4, .val (.int i5), s6, s7, s8, s9] [(.int (2 : Int32)), (.ref o1)])) rfl rfl (hb hby d3_89) _ ?_
  show Steps p.tables e below (T0.setTop (mkF m 90 #[s0, .val (.ref o1), s2, s3, s4, .val (.int i5), s6, s7, s8, s9] [(.int w4)])) _
  refine XS.iload X0.here hx rfl (hb hby d3_90) rfl ?_
  show Steps p.tables e below (T0.setTop (mkF m 92 #[s0, .val (.ref o1), s2, s3, s4, .val (.int i5), s6, s7, s8, s9] [(.int i5), (.int w4)])) _
  refine XS.icmpYes X0.here hx rfl (pc0 := 92) (pc' := 103) rfl (hb hby d3_92) rfl (teq hc92).1 (by decide) (by decide) ?_
  exact kt
set_option maxRecDepth 65536 in
set_option maxHeartbeats 40000000 in
theorem tp_d2f {p : Program} {l : Launch} {e : Env} {R : Room} {s : State} {m : MethodId} {args : Array Value} {below : List Frame} {meth : Method} {c : Code} {T0 : State} {locs : List Loc} {cells slots : Nat} {Z : State} {a0 : Array Value} {h0 : Heap} (s0 : Slot) (o1 : Addr) (s2 : Slot) (s3 : Slot) (s4 : Slot) (i5 : Int32) (i6 : Int32) (s7 : Slot) (s8 : Slot) (s9 : Slot) (w4 : Int32) (cl_o1 : Cell) (w5 : Int32)
    (X0 : Stand p l e R s m args below meth c T0 locs cells slots) (hx : p.tables.exec = Jvm.exec) (hZ : Z.Warmed39 s.vm) (hw : ∀ d ∈ tables_1, d.before a0 Z = true) (hby : c.code = method_3_code) (hml : c.maxLocals = 10) (hown : s.vm.findClass "org/refold/RootClassesFindPinLaw" = some m.cls) (e0 : T0.heap = h0) (Ar_o1 : Arr Z h0 o1 cl_o1 .int) (hin89 : ¬ ((2 : Int32) < 0 ∨ cl_o1.slots.size ≤ ((2 : Int32)).toNatClampNeg)) (hat89 : cl_o1.slots[((2 : Int32)).toNatClampNeg]? = some (.int w4)) (hin97 : ¬ ((2 : Int32) < 0 ∨ cl_o1.slots.size ≤ ((2 : Int32)).toNatClampNeg)) (hat97 : cl_o1.slots[((2 : Int32)).toNatClampNeg]? = some (.int w5)) (hc92 : ¬ (w4 = i5)) (hc100 : w5 = i6) :
    ∀ target, Steps p.tables e below (T0.setTop (mkF m 103 #[s0, .val (.ref o1), s2, s3, s4, .val (.int i5), .val (.int i6), s7, s8, s9] [])) target → Steps p.tables e below (T0.setTop (mkF m 87 #[s0, .val (.ref o1), s2, s3, s4, .val (.int i5), .val (.int i6), s7, s8, s9] [])) target := by
  intro target kt
  show Steps p.tables e below (T0.setTop (mkF m 87 #[s0, .val (.ref o1), s2, s3, s4, .val (.int i5), .val (.int i6), s7, s8, s9] [])) _
  refine XS.aloadN X0.here hx rfl (hb hby d3_87) rfl rfl ?_
  show Steps p.tables e below (T0.setTop (mkF m 88 #[s0, .val (.ref o1), s2, s3, s4, .val (.int i5), .val (.int i6), s7, s8, s9] [(.ref o1)])) _
  refine XS.iconst X0.here hx rfl (hb hby d3_88) ?_
  show Steps p.tables e below (T0.setTop (mkF m 89 #[s0, .val (.ref o1), s2, s3, s4, .val (.int i5), .val (.int i6), s7, s8, s9] [(.int (2 : Int32)), (.ref o1)])) _
  refine X0.iaload hx (j := (2 : Int32)) (v := (.int w4)) (by rw [e0]; exact Ar_o1.1) (State.isArrayOf_alike hZ.alike Ar_o1.2.1) Ar_o1.2.2 hin89 hat89 (g := (mkF m 89 #[s0, .val (.ref o1), s2, s3, s4, .val (.int i5), .val (.int i6), s7, s8, s9] [(.int (2 : Int32)), (.ref o1)])) rfl rfl (hb hby d3_89) _ ?_
  show Steps p.tables e below (T0.setTop (mkF m 90 #[s0, .val (.ref o1), s2, s3, s4, .val (.int i5), .val (.int i6), s7, s8, s9] [(.int w4)])) _
  refine XS.iload X0.here hx rfl (hb hby d3_90) rfl ?_
  show Steps p.tables e below (T0.setTop (mkF m 92 #[s0, .val (.ref o1), s2, s3, s4, .val (.int i5), .val (.int i6), s7, s8, s9] [(.int i5), (.int w4)])) _
  refine XS.icmpNo X0.here hx rfl (hb hby d3_92) rfl (feq hc92).1 ?_
  show Steps p.tables e below (T0.setTop (mkF m 95 #[s0, .val (.ref o1), s2, s3, s4, .val (.int i5), .val (.int i6), s7, s8, s9] [])) _
  refine XS.aloadN X0.here hx rfl (hb hby d3_95) rfl rfl ?_
  show Steps p.tables e below (T0.setTop (mkF m 96 #[s0, .val (.ref o1), s2, s3, s4, .val (.int i5), .val (.int i6), s7, s8, s9] [(.ref o1)])) _
  refine XS.iconst X0.here hx rfl (hb hby d3_96) ?_
  show Steps p.tables e below (T0.setTop (mkF m 97 #[s0, .val (.ref o1), s2, s3, s4, .val (.int i5), .val (.int i6), s7, s8, s9] [(.int (2 : Int32)), (.ref o1)])) _
  refine X0.iaload hx (j := (2 : Int32)) (v := (.int w5)) (by rw [e0]; exact Ar_o1.1) (State.isArrayOf_alike hZ.alike Ar_o1.2.1) Ar_o1.2.2 hin97 hat97 (g := (mkF m 97 #[s0, .val (.ref o1), s2, s3, s4, .val (.int i5), .val (.int i6), s7, s8, s9] [(.int (2 : Int32)), (.ref o1)])) rfl rfl (hb hby d3_97) _ ?_
  show Steps p.tables e below (T0.setTop (mkF m 98 #[s0, .val (.ref o1), s2, s3, s4, .val (.int i5), .val (.int i6), s7, s8, s9] [(.int w5)])) _
  refine XS.iload X0.here hx rfl (hb hby d3_98) rfl ?_
  show Steps p.tables e below (T0.setTop (mkF m 100 #[s0, .val (.ref o1), s2, s3, s4, .val (.int i5), .val (.int i6), s7, s8, s9] [(.int i6), (.int w5)])) _
  refine XS.icmpNo X0.here hx rfl (hb hby d3_100) rfl (teq hc100).2 ?_
  exact kt
set_option maxRecDepth 65536 in
set_option maxHeartbeats 40000000 in
theorem tp_d2n {p : Program} {l : Launch} {e : Env} {R : Room} {s : State} {m : MethodId} {args : Array Value} {below : List Frame} {meth : Method} {c : Code} {T0 : State} {locs : List Loc} {cells slots : Nat} {Z : State} {a0 : Array Value} {h0 : Heap} (s0 : Slot) (o1 : Addr) (s2 : Slot) (s3 : Slot) (s4 : Slot) (i5 : Int32) (i6 : Int32) (s7 : Slot) (s8 : Slot) (s9 : Slot) (w4 : Int32) (cl_o1 : Cell) (w5 : Int32)
    (X0 : Stand p l e R s m args below meth c T0 locs cells slots) (hx : p.tables.exec = Jvm.exec) (hZ : Z.Warmed39 s.vm) (hw : ∀ d ∈ tables_1, d.before a0 Z = true) (hby : c.code = method_3_code) (hml : c.maxLocals = 10) (hown : s.vm.findClass "org/refold/RootClassesFindPinLaw" = some m.cls) (e0 : T0.heap = h0) (Ar_o1 : Arr Z h0 o1 cl_o1 .int) (hin89 : ¬ ((2 : Int32) < 0 ∨ cl_o1.slots.size ≤ ((2 : Int32)).toNatClampNeg)) (hat89 : cl_o1.slots[((2 : Int32)).toNatClampNeg]? = some (.int w4)) (hin97 : ¬ ((2 : Int32) < 0 ∨ cl_o1.slots.size ≤ ((2 : Int32)).toNatClampNeg)) (hat97 : cl_o1.slots[((2 : Int32)).toNatClampNeg]? = some (.int w5)) (hc92 : ¬ (w4 = i5)) (hc100 : ¬ (w5 = i6)) :
    ∀ target, Steps p.tables e below (T0.setTop (mkF m 108 #[s0, .val (.ref o1), s2, s3, s4, .val (.int i5), .val (.int i6), s7, s8, s9] [])) target → Steps p.tables e below (T0.setTop (mkF m 87 #[s0, .val (.ref o1), s2, s3, s4, .val (.int i5), .val (.int i6), s7, s8, s9] [])) target := by
  intro target kt
  show Steps p.tables e below (T0.setTop (mkF m 87 #[s0, .val (.ref o1), s2, s3, s4, .val (.int i5), .val (.int i6), s7, s8, s9] [])) _
  refine XS.aloadN X0.here hx rfl (hb hby d3_87) rfl rfl ?_
  show Steps p.tables e below (T0.setTop (mkF m 88 #[s0, .val (.ref o1), s2, s3, s4, .val (.int i5), .val (.int i6), s7, s8, s9] [(.ref o1)])) _
  refine XS.iconst X0.here hx rfl (hb hby d3_88) ?_
  show Steps p.tables e below (T0.setTop (mkF m 89 #[s0, .val (.ref o1), s2, s3, s4, .val (.int i5), .val (.int i6), s7, s8, s9] [(.int (2 : Int32)), (.ref o1)])) _
  refine X0.iaload hx (j := (2 : Int32)) (v := (.int w4)) (by rw [e0]; exact Ar_o1.1) (State.isArrayOf_alike hZ.alike Ar_o1.2.1) Ar_o1.2.2 hin89 hat89 (g := (mkF m 89 #[s0, .val (.ref o1), s2, s3, s4, .val (.int i5), .val (.int i6), s7, s8, s9] [(.int (2 : Int32)), (.ref o1)])) rfl rfl (hb hby d3_89) _ ?_
  show Steps p.tables e below (T0.setTop (mkF m 90 #[s0, .val (.ref o1), s2, s3, s4, .val (.int i5), .val (.int i6), s7, s8, s9] [(.int w4)])) _
  refine XS.iload X0.here hx rfl (hb hby d3_90) rfl ?_
  show Steps p.tables e below (T0.setTop (mkF m 92 #[s0, .val (.ref o1), s2, s3, s4, .val (.int i5), .val (.int i6), s7, s8, s9] [(.int i5), (.int w4)])) _
  refine XS.icmpNo X0.here hx rfl (hb hby d3_92) rfl (feq hc92).1 ?_
  show Steps p.tables e below (T0.setTop (mkF m 95 #[s0, .val (.ref o1), s2, s3, s4, .val (.int i5), .val (.int i6), s7, s8, s9] [])) _
  refine XS.aloadN X0.here hx rfl (hb hby d3_95) rfl rfl ?_
  show Steps p.tables e below (T0.setTop (mkF m 96 #[s0, .val (.ref o1), s2, s3, s4, .val (.int i5), .val (.int i6), s7, s8, s9] [(.ref o1)])) _
  refine XS.iconst X0.here hx rfl (hb hby d3_96) ?_
  show Steps p.tables e below (T0.setTop (mkF m 97 #[s0, .val (.ref o1), s2, s3, s4, .val (.int i5), .val (.int i6), s7, s8, s9] [(.int (2 : Int32)), (.ref o1)])) _
  refine X0.iaload hx (j := (2 : Int32)) (v := (.int w5)) (by rw [e0]; exact Ar_o1.1) (State.isArrayOf_alike hZ.alike Ar_o1.2.1) Ar_o1.2.2 hin97 hat97 (g := (mkF m 97 #[s0, .val (.ref o1), s2, s3, s4, .val (.int i5), .val (.int i6), s7, s8, s9] [(.int (2 : Int32)), (.ref o1)])) rfl rfl (hb hby d3_97) _ ?_
  show Steps p.tables e below (T0.setTop (mkF m 98 #[s0, .val (.ref o1), s2, s3, s4, .val (.int i5), .val (.int i6), s7, s8, s9] [(.int w5)])) _
  refine XS.iload X0.here hx rfl (hb hby d3_98) rfl ?_
  show Steps p.tables e below (T0.setTop (mkF m 100 #[s0, .val (.ref o1), s2, s3, s4, .val (.int i5), .val (.int i6), s7, s8, s9] [(.int i6), (.int w5)])) _
  refine XS.icmpYes X0.here hx rfl (pc0 := 100) (pc' := 108) rfl (hb hby d3_100) rfl (feq hc100).2 (by decide) (by decide) ?_
  exact kt
set_option maxRecDepth 65536 in
set_option maxHeartbeats 40000000 in
theorem tp_d2w {p : Program} {l : Launch} {e : Env} {R : Room} {s : State} {m : MethodId} {args : Array Value} {below : List Frame} {meth : Method} {c : Code} {T0 : State} {locs : List Loc} {cells slots : Nat} {Z : State} {a0 : Array Value} {h0 : Heap} (s0 : Slot) (o1 : Addr) (s2 : Slot) (s3 : Slot) (s4 : Slot) (s5 : Slot) (s6 : Slot) (s7 : Slot) (i8 : Int32) (s9 : Slot) (cl_o1 : Cell)
    (X0 : Stand p l e R s m args below meth c T0 locs cells slots) (hx : p.tables.exec = Jvm.exec) (hZ : Z.Warmed39 s.vm) (hw : ∀ d ∈ tables_1, d.before a0 Z = true) (hby : c.code = method_3_code) (hml : c.maxLocals = 10) (hown : s.vm.findClass "org/refold/RootClassesFindPinLaw" = some m.cls) (e0 : T0.heap = h0) (n0 : Nat) (N0 : Fr n0 locs) (Ar_o1 : Arr Z h0 o1 cl_o1 .int) (hin107 : ¬ ((2 : Int32) < 0 ∨ cl_o1.slots.size ≤ ((2 : Int32)).toNatClampNeg)) (g_o1 : n0 ≤ o1) :
    ∃ (T' : State) (h' : Heap) (L' : List Loc), Stand p l e R s m args below meth c T' L' cells slots ∧ T'.heap = h' ∧ Fr n0 L' ∧ Wr h0 h' o1 ((2 : Int32)).toNatClampNeg (.int i8) ∧
      ∀ target, Steps p.tables e below (T'.setTop (mkF m 108 #[s0, .val (.ref o1), s2, s3, s4, s5, s6, s7, .val (.int i8), s9] [])) target → Steps p.tables e below (T0.setTop (mkF m 103 #[s0, .val (.ref o1), s2, s3, s4, s5, s6, s7, .val (.int i8), s9] [])) target := by
  obtain ⟨T4, h4, X4, e4, W4, st4⟩ := stI X0 hx hZ e0 Ar_o1 (j := (2 : Int32)) hin107 (g := (mkF m 107 #[s0, .val (.ref o1), s2, s3, s4, s5, s6, s7, .val (.int i8), s9] [(.int i8), (.int (2 : Int32)), (.ref o1)])) rfl rfl (hb hby d3_107)
  have N4 := Fr.snoc X4 N0 g_o1
  have K4 : Keep h0 h4 [o1] := (Keep.refl h0 [o1]).wr W4 (Or.inl (List.mem_of_getElem? (i := 0) rfl))
  refine ⟨T4, _, _, X4, e4, N4, W4, fun target kt => ?_⟩
  show Steps p.tables e below (T0.setTop (mkF m 103 #[s0, .val (.ref o1), s2, s3, s4, s5, s6, s7, .val (.int i8), s9] [])) _
  refine XS.aloadN X0.here hx rfl (hb hby d3_103) rfl rfl ?_
  show Steps p.tables e below (T0.setTop (mkF m 104 #[s0, .val (.ref o1), s2, s3, s4, s5, s6, s7, .val (.int i8), s9] [(.ref o1)])) _
  refine XS.iconst X0.here hx rfl (hb hby d3_104) ?_
  show Steps p.tables e below (T0.setTop (mkF m 105 #[s0, .val (.ref o1), s2, s3, s4, s5, s6, s7, .val (.int i8), s9] [(.int (2 : Int32)), (.ref o1)])) _
  refine XS.iload X0.here hx rfl (hb hby d3_105) rfl ?_
  show Steps p.tables e below (T0.setTop (mkF m 107 #[s0, .val (.ref o1), s2, s3, s4, s5, s6, s7, .val (.int i8), s9] [(.int i8), (.int (2 : Int32)), (.ref o1)])) _
  refine st4 _ ?_
  exact kt
theorem own_cell2 {p : Program} {l : Launch} {e : Env} {R : Room} {s : State} {m : MethodId} {args : Array Value} {below : List Frame} {meth : Method} {c : Code} {cells slots : Nat} {Z : State} {a0 : Array Value} {T0 : State} {locs : List Loc} {h0 : Heap} (s0 : Slot) (o1 : Addr) (s2 s3 s4 : Slot) (x y mm : Nat) (s7 s9 : Slot) (hx' : x ≤ 255) (hy' : y ≤ 255) (X0 : Stand p l e R s m args below meth c T0 locs cells slots) (hx : p.tables.exec = Jvm.exec) (hZ : Z.Warmed39 s.vm) (hw : ∀ d ∈ tables_1, d.before a0 Z = true) (hby : c.code = method_3_code) (hml : c.maxLocals = 10) (hown : s.vm.findClass "org/refold/RootClassesFindPinLaw" = some m.cls) (e0 : T0.heap = h0) (n0 : Nat) (N0 : Fr n0 locs) (g : n0 ≤ o1) (L : List Nat) (hL : L.length = 4) (hs : ∀ j, j < 4 → own_get L j ≤ 255) (HL : IA Z h0 o1 L) :
    ∃ (T' : State) (h' : Heap) (L' : List Loc), Stand p l e R s m args below meth c T' L' cells slots ∧ T'.heap = h' ∧ Fr n0 L' ∧ Keep h0 h' [o1] ∧ IA Z h' o1 (own_re L x y mm 2) ∧
      ∀ target, Steps p.tables e below (T'.setTop (mkF m 108 #[s0, .val (.ref o1), s2, s3, s4, .val (.int (Int32.ofNat x)), .val (.int (Int32.ofNat y)), s7, .val (.int (Int32.ofNat mm)), s9] [])) target → Steps p.tables e below (T0.setTop (mkF m 87 #[s0, .val (.ref o1), s2, s3, s4, .val (.int (Int32.ofNat x)), .val (.int (Int32.ofNat y)), s7, .val (.int (Int32.ofNat mm)), s9] [])) target := by
  obtain ⟨cl, Ar, Sz, H⟩ := id HL
  have hin : ¬ ((2 : Int32) < 0 ∨ cl.slots.size ≤ ((2 : Int32)).toNatClampNeg) := by rw [Sz]; decide
  have hat : cl.slots[((2 : Int32)).toNatClampNeg]? = some (.int (Int32.ofNat (own_get L 2))) := by rw [show ((2 : Int32)).toNatClampNeg = 2 from by decide]; exact H 2 (by omega)
  have hq := hs 2 (by omega)
  have wr : ∀ (u : own_get L 2 = x ∨ own_get L 2 = y), (∀ target, Steps p.tables e below (T0.setTop (mkF m 103 #[s0, .val (.ref o1), s2, s3, s4, .val (.int (Int32.ofNat x)), .val (.int (Int32.ofNat y)), s7, .val (.int (Int32.ofNat mm)), s9] [])) target → Steps p.tables e below (T0.setTop (mkF m 87 #[s0, .val (.ref o1), s2, s3, s4, .val (.int (Int32.ofNat x)), .val (.int (Int32.ofNat y)), s7, .val (.int (Int32.ofNat mm)), s9] [])) target) → ∃ (T' : State) (h' : Heap) (L' : List Loc), Stand p l e R s m args below meth c T' L' cells slots ∧ T'.heap = h' ∧ Fr n0 L' ∧ Keep h0 h' [o1] ∧ IA Z h' o1 (own_re L x y mm 2) ∧
      ∀ target, Steps p.tables e below (T'.setTop (mkF m 108 #[s0, .val (.ref o1), s2, s3, s4, .val (.int (Int32.ofNat x)), .val (.int (Int32.ofNat y)), s7, .val (.int (Int32.ofNat mm)), s9] [])) target → Steps p.tables e below (T0.setTop (mkF m 87 #[s0, .val (.ref o1), s2, s3, s4, .val (.int (Int32.ofNat x)), .val (.int (Int32.ofNat y)), s7, .val (.int (Int32.ofNat mm)), s9] [])) target := by
    intro u st
    obtain ⟨T1, h1, L1, X1, e1, N1, W1, st1⟩ := tp_d2w s0 o1 s2 s3 s4 (.val (.int (Int32.ofNat x))) (.val (.int (Int32.ofNat y))) s7 (Int32.ofNat mm) s9 cl X0 hx hZ hw hby hml hown e0 n0 N0 Ar hin g
    refine ⟨T1, h1, L1, X1, e1, N1, (Keep.refl h0 [o1]).wr W1 (Or.inl (List.mem_of_getElem? (i := 0) rfl)), ?_, fun target k => st target (st1 target k)⟩
    rw [own_re, if_pos u]
    exact IA.set hL (by omega) Ar Sz H (by decide) W1
  by_cases c1 : own_get L 2 = x
  · exact wr (Or.inl c1) (tp_d2t s0 o1 s2 s3 s4 (Int32.ofNat x) (.val (.int (Int32.ofNat y))) s7 (.val (.int (Int32.ofNat mm))) s9 (Int32.ofNat (own_get L 2)) cl X0 hx hZ hw hby hml hown e0 Ar hin hat (by rw [c1]))
  · by_cases c2 : own_get L 2 = y
    · exact wr (Or.inr c2) (tp_d2f s0 o1 s2 s3 s4 (Int32.ofNat x) (Int32.ofNat y) s7 (.val (.int (Int32.ofNat mm))) s9 (Int32.ofNat (own_get L 2)) cl (Int32.ofNat (own_get L 2)) X0 hx hZ hw hby hml hown e0 Ar hin hat hin hat (own_ne c1 hq hx') (by rw [c2]))
    · refine ⟨T0, h0, locs, X0, e0, N0, Keep.refl h0 [o1], ?_, tp_d2n s0 o1 s2 s3 s4 (Int32.ofNat x) (Int32.ofNat y) s7 (.val (.int (Int32.ofNat mm))) s9 (Int32.ofNat (own_get L 2)) cl (Int32.ofNat (own_get L 2)) X0 hx hZ hw hby hml hown e0 Ar hin hat hin hat (own_ne c1 hq hx') (own_ne c2 hq hy')⟩
      rw [own_re, if_neg (fun u => u.elim c1 c2)]; exact HL

set_option maxRecDepth 65536 in
set_option maxHeartbeats 40000000 in
theorem tp_d3t {p : Program} {l : Launch} {e : Env} {R : Room} {s : State} {m : MethodId} {args : Array Value} {below : List Frame} {meth : Method} {c : Code} {T0 : State} {locs : List Loc} {cells slots : Nat} {Z : State} {a0 : Array Value} {h0 : Heap} (s0 : Slot) (o1 : Addr) (s2 : Slot) (s3 : Slot) (s4 : Slot) (i5 : Int32) (s6 : Slot) (s7 : Slot) (s8 : Slot) (s9 : Slot) (w4 : Int32) (cl_o1 : Cell)
    (X0 : Stand p l e R s m args below meth c T0 locs cells slots) (hx : p.tables.exec = Jvm.exec) (hZ : Z.Warmed39 s.vm) (hw : ∀ d ∈ tables_1, d.before a0 Z = true) (hby : c.code = method_3_code) (hml : c.maxLocals = 10) (hown : s.vm.findClass "org/refold/RootClassesFindPinLaw" = some m.cls) (e0 : T0.heap = h0) (Ar_o1 : Arr Z h0 o1 cl_o1 .int) (hin110 : ¬ ((3 : Int32) < 0 ∨ cl_o1.slots.size ≤ ((3 : Int32)).toNatClampNeg)) (hat110 : cl_o1.slots[((3 : Int32)).toNatClampNeg]? = some (.int w4)) (hc113 : w4 = i5) :
    ∀ target, Steps p.tables e below (T0.setTop (mkF m 124 #[s0, .val (.ref o1), s2, s3, s4, .val (.int i5), s6, s7, s8, s9] [])) target → Steps p.tables e below (T0.setTop (mkF m 108 #[s0, .val (.ref o1), s2, s3, s4, .val (.int i5), s6, s7, s8, s9] [])) target := by
  intro target kt
  show Steps p.tables e below (T0.setTop (mkF m 108 #[s0, .val (.ref o1), s2, s3, s4, .val (.int i5), s6, s7, s8, s9] [])) _
  refine XS.aloadN X0.here hx rfl (hb hby d3_108) rfl rfl ?_
  show Steps p.tables e below (T0.setTop (mkF m 109 #[s0, .val (.ref o1), s2, s3, s4, .val (.int i5), s6, s7, s8, s9] [(.ref o1)])) _
  refine XS.iconst X0.here hx rfl (hb hby d3_109) ?_
  show Steps p.tables e below (T0.setTop (mkF m 110 #[s0, .val (.ref o1), s2, s3, s4, .val (.int i5), s6, s7, s8, s9] [(.int (3 : Int32)), (.ref o1)])) _
  refine X0.iaload hx (j := (3 : Int32)) (v := (.int w4)) (by rw [e0]; exact Ar_o1.1) (State.isArrayOf_alike hZ.alike Ar_o1.2.1) Ar_o1.2.2 hin110 hat110 (g := (mkF m 110 #[s0, .val (.ref o1), s2, s3, s4, .val (.int i5), s6, s7, s8, s9] [(.int (3 : Int32)), (.ref o1)])) rfl rfl (hb hby d3_110) _ ?_
  show Steps p.tables e below (T0.setTop (mkF m 111 #[s0, .val (.ref o1), s2, s3, s4, .val (.int i5), s6, s7, s8, s9] [(.int w4)])) _
  refine XS.iload X0.here hx rfl (hb hby d3_111) rfl ?_
  show Steps p.tables e below (T0.setTop (mkF m 113 #[s0, .val (.ref o1), s2, s3, s4, .val (.int i5), s6, s7, s8, s9] [(.int i5), (.int w4)])) _
  refine XS.icmpYes X0.here hx rfl (pc0 := 113) (pc' := 124) rfl (hb hby d3_113) rfl (teq hc113).1 (by decide) (by decide) ?_
  exact kt
set_option maxRecDepth 65536 in
set_option maxHeartbeats 40000000 in
theorem tp_d3f {p : Program} {l : Launch} {e : Env} {R : Room} {s : State} {m : MethodId} {args : Array Value} {below : List Frame} {meth : Method} {c : Code} {T0 : State} {locs : List Loc} {cells slots : Nat} {Z : State} {a0 : Array Value} {h0 : Heap} (s0 : Slot) (o1 : Addr) (s2 : Slot) (s3 : Slot) (s4 : Slot) (i5 : Int32) (i6 : Int32) (s7 : Slot) (s8 : Slot) (s9 : Slot) (w4 : Int32) (cl_o1 : Cell) (w5 : Int32)
    (X0 : Stand p l e R s m args below meth c T0 locs cells slots) (hx : p.tables.exec = Jvm.exec) (hZ : Z.Warmed39 s.vm) (hw : ∀ d ∈ tables_1, d.before a0 Z = true) (hby : c.code = method_3_code) (hml : c.maxLocals = 10) (hown : s.vm.findClass "org/refold/RootClassesFindPinLaw" = some m.cls) (e0 : T0.heap = h0) (Ar_o1 : Arr Z h0 o1 cl_o1 .int) (hin110 : ¬ ((3 : Int32) < 0 ∨ cl_o1.slots.size ≤ ((3 : Int32)).toNatClampNeg)) (hat110 : cl_o1.slots[((3 : Int32)).toNatClampNeg]? = some (.int w4)) (hin118 : ¬ ((3 : Int32) < 0 ∨ cl_o1.slots.size ≤ ((3 : Int32)).toNatClampNeg)) (hat118 : cl_o1.slots[((3 : Int32)).toNatClampNeg]? = some (.int w5)) (hc113 : ¬ (w4 = i5)) (hc121 : w5 = i6) :
    ∀ target, Steps p.tables e below (T0.setTop (mkF m 124 #[s0, .val (.ref o1), s2, s3, s4, .val (.int i5), .val (.int i6), s7, s8, s9] [])) target → Steps p.tables e below (T0.setTop (mkF m 108 #[s0, .val (.ref o1), s2, s3, s4, .val (.int i5), .val (.int i6), s7, s8, s9] [])) target := by
  intro target kt
  show Steps p.tables e below (T0.setTop (mkF m 108 #[s0, .val (.ref o1), s2, s3, s4, .val (.int i5), .val (.int i6), s7, s8, s9] [])) _
  refine XS.aloadN X0.here hx rfl (hb hby d3_108) rfl rfl ?_
  show Steps p.tables e below (T0.setTop (mkF m 109 #[s0, .val (.ref o1), s2, s3, s4, .val (.int i5), .val (.int i6), s7, s8, s9] [(.ref o1)])) _
  refine XS.iconst X0.here hx rfl (hb hby d3_109) ?_
  show Steps p.tables e below (T0.setTop (mkF m 110 #[s0, .val (.ref o1), s2, s3, s4, .val (.int i5), .val (.int i6), s7, s8, s9] [(.int (3 : Int32)), (.ref o1)])) _
  refine X0.iaload hx (j := (3 : Int32)) (v := (.int w4)) (by rw [e0]; exact Ar_o1.1) (State.isArrayOf_alike hZ.alike Ar_o1.2.1) Ar_o1.2.2 hin110 hat110 (g := (mkF m 110 #[s0, .val (.ref o1), s2, s3, s4, .val (.int i5), .val (.int i6), s7, s8, s9] [(.int (3 : Int32)), (.ref o1)])) rfl rfl (hb hby d3_110) _ ?_
  show Steps p.tables e below (T0.setTop (mkF m 111 #[s0, .val (.ref o1), s2, s3, s4, .val (.int i5), .val (.int i6), s7, s8, s9] [(.int w4)])) _
  refine XS.iload X0.here hx rfl (hb hby d3_111) rfl ?_
  show Steps p.tables e below (T0.setTop (mkF m 113 #[s0, .val (.ref o1), s2, s3, s4, .val (.int i5), .val (.int i6), s7, s8, s9] [(.int i5), (.int w4)])) _
  refine XS.icmpNo X0.here hx rfl (hb hby d3_113) rfl (feq hc113).1 ?_
  show Steps p.tables e below (T0.setTop (mkF m 116 #[s0, .val (.ref o1), s2, s3, s4, .val (.int i5), .val (.int i6), s7, s8, s9] [])) _
  refine XS.aloadN X0.here hx rfl (hb hby d3_116) rfl rfl ?_
  show Steps p.tables e below (T0.setTop (mkF m 117 #[s0, .val (.ref o1), s2, s3, s4, .val (.int i5), .val (.int i6), s7, s8, s9] [(.ref o1)])) _
  refine XS.iconst X0.here hx rfl (hb hby d3_117) ?_
  show Steps p.tables e below (T0.setTop (mkF m 118 #[s0, .val (.ref o1), s2, s3, s4, .val (.int i5), .val (.int i6), s7, s8, s9] [(.int (3 : Int32)), (.ref o1)])) _
  refine X0.iaload hx (j := (3 : Int32)) (v := (.int w5)) (by rw [e0]; exact Ar_o1.1) (State.isArrayOf_alike hZ.alike Ar_o1.2.1) Ar_o1.2.2 hin118 hat118 (g := (mkF m 118 #[s0, .val (.ref o1), s2, s3, s4, .val (.int i5), .val (.int i6), s7, s8, s9] [(.int (3 : Int32)), (.ref o1)])) rfl rfl (hb hby d3_118) _ ?_
  show Steps p.tables e below (T0.setTop (mkF m 119 #[s0, .val (.ref o1), s2, s3, s4, .val (.int i5), .val (.int i6), s7, s8, s9] [(.int w5)])) _
  refine XS.iload X0.here hx rfl (hb hby d3_119) rfl ?_
  show Steps p.tables e below (T0.setTop (mkF m 121 #[s0, .val (.ref o1), s2, s3, s4, .val (.int i5), .val (.int i6), s7, s8, s9] [(.int i6), (.int w5)])) _
  refine XS.icmpNo X0.here hx rfl (hb hby d3_121) rfl (teq hc121).2 ?_
  exact kt
set_option maxRecDepth 65536 in
set_option maxHeartbeats 40000000 in
theorem tp_d3n {p : Program} {l : Launch} {e : Env} {R : Room} {s : State} {m : MethodId} {args : Array Value} {below : List Frame} {meth : Method} {c : Code} {T0 : State} {locs : List Loc} {cells slots : Nat} {Z : State} {a0 : Array Value} {h0 : Heap} (s0 : Slot) (o1 : Addr) (s2 : Slot) (s3 : Slot) (s4 : Slot) (i5 : Int32) (i6 : Int32) (s7 : Slot) (s8 : Slot) (s9 : Slot) (w4 : Int32) (cl_o1 : Cell) (w5 : Int32)
    (X0 : Stand p l e R s m args below meth c T0 locs cells slots) (hx : p.tables.exec = Jvm.exec) (hZ : Z.Warmed39 s.vm) (hw : ∀ d ∈ tables_1, d.before a0 Z = true) (hby : c.code = method_3_code) (hml : c.maxLocals = 10) (hown : s.vm.findClass "org/refold/RootClassesFindPinLaw" = some m.cls) (e0 : T0.heap = h0) (Ar_o1 : Arr Z h0 o1 cl_o1 .int) (hin110 : ¬ ((3 : Int32) < 0 ∨ cl_o1.slots.size ≤ ((3 : Int32)).toNatClampNeg)) (hat110 : cl_o1.slots[((3 : Int32)).toNatClampNeg]? = some (.int w4)) (hin118 : ¬ ((3 : Int32) < 0 ∨ cl_o1.slots.size ≤ ((3 : Int32)).toNatClampNeg)) (hat118 : cl_o1.slots[((3 : Int32)).toNatClampNeg]? = some (.int w5)) (hc113 : ¬ (w4 = i5)) (hc121 : ¬ (w5 = i6)) :
    ∀ target, Steps p.tables e below (T0.setTop (mkF m 129 #[s0, .val (.ref o1), s2, s3, s4, .val (.int i5), .val (.int i6), s7, s8, s9] [])) target → Steps p.tables e below (T0.setTop (mkF m 108 #[s0, .val (.ref o1), s2, s3, s4, .val (.int i5), .val (.int i6), s7, s8, s9] [])) target := by
  intro target kt
  show Steps p.tables e below (T0.setTop (mkF m 108 #[s0, .val (.ref o1), s2, s3, s4, .val (.int i5), .val (.int i6), s7, s8, s9] [])) _
  refine XS.aloadN X0.here hx rfl (hb hby d3_108) rfl rfl ?_
  show Steps p.tables e below (T0.setTop (mkF m 109 #[s0, .val (.ref o1), s2, s3, s4, .val (.int i5), .val (.int i6), s7, s8, s9] [(.ref o1)])) _
  refine XS.iconst X0.here hx rfl (hb hby d3_109) ?_
  show Steps p.tables e below (T0.setTop (mkF m 110 #[s0, .val (.ref o1), s2, s3, s4, .val (.int i5), .val (.int i6), s7, s8, s9] [(.int (3 : Int32)), (.ref o1)])) _
  refine X0.iaload hx (j := (3 : Int32)) (v := (.int w4)) (by rw [e0]; exact Ar_o1.1) (State.isArrayOf_alike hZ.alike Ar_o1.2.1) Ar_o1.2.2 hin110 hat110 (g := (mkF m 110 #[s0, .val (.ref o1), s2, s3, s4, .val (.int i5), .val (.int i6), s7, s8, s9] [(.int (3 : Int32)), (.ref o1)])) rfl rfl (hb hby d3_110) _ ?_
  show Steps p.tables e below (T0.setTop (mkF m 111 #[s0, .val (.ref o1), s2, s3, s4, .val (.int i5), .val (.int i6), s7, s8, s9] [(.int w4)])) _
  refine XS.iload X0.here hx rfl (hb hby d3_111) rfl ?_
  show Steps p.tables e below (T0.setTop (mkF m 113 #[s0, .val (.ref o1), s2, s3, s4, .val (.int i5), .val (.int i6), s7, s8, s9] [(.int i5), (.int w4)])) _
  refine XS.icmpNo X0.here hx rfl (hb hby d3_113) rfl (feq hc113).1 ?_
  show Steps p.tables e below (T0.setTop (mkF m 116 #[s0, .val (.ref o1), s2, s3, s4, .val (.int i5), .val (.int i6), s7, s8, s9] [])) _
  refine XS.aloadN X0.here hx rfl (hb hby d3_116) rfl rfl ?_
  show Steps p.tables e below (T0.setTop (mkF m 117 #[s0, .val (.ref o1), s2, s3, s4, .val (.int i5), .val (.int i6), s7, s8, s9] [(.ref o1)])) _
  refine XS.iconst X0.here hx rfl (hb hby d3_117) ?_
  show Steps p.tables e below (T0.setTop (mkF m 118 #[s0, .val (.ref o1), s2, s3, s4, .val (.int i5), .val (.int i6), s7, s8, s9] [(.int (3 : Int32)), (.ref o1)])) _
  refine X0.iaload hx (j := (3 : Int32)) (v := (.int w5)) (by rw [e0]; exact Ar_o1.1) (State.isArrayOf_alike hZ.alike Ar_o1.2.1) Ar_o1.2.2 hin118 hat118 (g := (mkF m 118 #[s0, .val (.ref o1), s2, s3, s4, .val (.int i5), .val (.int i6), s7, s8, s9] [(.int (3 : Int32)), (.ref o1)])) rfl rfl (hb hby d3_118) _ ?_
  show Steps p.tables e below (T0.setTop (mkF m 119 #[s0, .val (.ref o1), s2, s3, s4, .val (.int i5), .val (.int i6), s7, s8, s9] [(.int w5)])) _
  refine XS.iload X0.here hx rfl (hb hby d3_119) rfl ?_
  show Steps p.tables e below (T0.setTop (mkF m 121 #[s0, .val (.ref o1), s2, s3, s4, .val (.int i5), .val (.int i6), s7, s8, s9] [(.int i6), (.int w5)])) _
  refine XS.icmpYes X0.here hx rfl (pc0 := 121) (pc' := 129) rfl (hb hby d3_121) rfl (feq hc121).2 (by decide) (by decide) ?_
  exact kt
set_option maxRecDepth 65536 in
set_option maxHeartbeats 40000000 in
theorem tp_d3w {p : Program} {l : Launch} {e : Env} {R : Room} {s : State} {m : MethodId} {args : Array Value} {below : List Frame} {meth : Method} {c : Code} {T0 : State} {locs : List Loc} {cells slots : Nat} {Z : State} {a0 : Array Value} {h0 : Heap} (s0 : Slot) (o1 : Addr) (s2 : Slot) (s3 : Slot) (s4 : Slot) (s5 : Slot) (s6 : Slot) (s7 : Slot) (i8 : Int32) (s9 : Slot) (cl_o1 : Cell)
    (X0 : Stand p l e R s m args below meth c T0 locs cells slots) (hx : p.tables.exec = Jvm.exec) (hZ : Z.Warmed39 s.vm) (hw : ∀ d ∈ tables_1, d.before a0 Z = true) (hby : c.code = method_3_code) (hml : c.maxLocals = 10) (hown : s.vm.findClass "org/refold/RootClassesFindPinLaw" = some m.cls) (e0 : T0.heap = h0) (n0 : Nat) (N0 : Fr n0 locs) (Ar_o1 : Arr Z h0 o1 cl_o1 .int) (hin128 : ¬ ((3 : Int32) < 0 ∨ cl_o1.slots.size ≤ ((3 : Int32)).toNatClampNeg)) (g_o1 : n0 ≤ o1) :
    ∃ (T' : State) (h' : Heap) (L' : List Loc), Stand p l e R s m args below meth c T' L' cells slots ∧ T'.heap = h' ∧ Fr n0 L' ∧ Wr h0 h' o1 ((3 : Int32)).toNatClampNeg (.int i8) ∧
      ∀ target, Steps p.tables e below (T'.setTop (mkF m 129 #[s0, .val (.ref o1), s2, s3, s4, s5, s6, s7, .val (.int i8), s9] [])) target → Steps p.tables e below (T0.setTop (mkF m 124 #[s0, .val (.ref o1), s2, s3, s4, s5, s6, s7, .val (.int i8), s9] [])) target := by
  obtain ⟨T4, h4, X4, e4, W4, st4⟩ := stI X0 hx hZ e0 Ar_o1 (j := (3 : Int32)) hin128 (g := (mkF m 128 #[s0, .val (.ref o1), s2, s3, s4, s5, s6, s7, .val (.int i8), s9] [(.int i8), (.int (3 : Int32)), (.ref o1)])) rfl rfl (hb hby d3_128)
  have N4 := Fr.snoc X4 N0 g_o1
  have K4 : Keep h0 h4 [o1] := (Keep.refl h0 [o1]).wr W4 (Or.inl (List.mem_of_getElem? (i := 0) rfl))
  refine ⟨T4, _, _, X4, e4, N4, W4, fun target kt => ?_⟩
  show Steps p.tables e below (T0.setTop (mkF m 124 #[s0, .val (.ref o1), s2, s3, s4, s5, s6, s7, .val (.int i8), s9] [])) _
  refine XS.aloadN X0.here hx rfl (hb hby d3_124) rfl rfl ?_
  show Steps p.tables e below (T0.setTop (mkF m 125 #[s0, .val (.ref o1), s2, s3, s4, s5, s6, s7, .val (.int i8), s9] [(.ref o1)])) _
  refine XS.iconst X0.here hx rfl (hb hby d3_125) ?_
  show Steps p.tables e below (T0.setTop (mkF m 126 #[s0, .val (.ref o1), s2, s3, s4, s5, s6, s7, .val (.int i8), s9] [(.int (3 : Int32)), (.ref o1)])) _
  refine XS.iload X0.here hx rfl (hb hby d3_126) rfl ?_
  show Steps p.tables e below (T0.setTop (mkF m 128 #[s0, .val (.ref o1), s2, s3, s4, s5, s6, s7, .val (.int i8), s9] [(.int i8), (.int (3 : Int32)), (.ref o1)])) _
  refine st4 _ ?_
  exact kt
theorem own_cell3 {p : Program} {l : Launch} {e : Env} {R : Room} {s : State} {m : MethodId} {args : Array Value} {below : List Frame} {meth : Method} {c : Code} {cells slots : Nat} {Z : State} {a0 : Array Value} {T0 : State} {locs : List Loc} {h0 : Heap} (s0 : Slot) (o1 : Addr) (s2 s3 s4 : Slot) (x y mm : Nat) (s7 s9 : Slot) (hx' : x ≤ 255) (hy' : y ≤ 255) (X0 : Stand p l e R s m args below meth c T0 locs cells slots) (hx : p.tables.exec = Jvm.exec) (hZ : Z.Warmed39 s.vm) (hw : ∀ d ∈ tables_1, d.before a0 Z = true) (hby : c.code = method_3_code) (hml : c.maxLocals = 10) (hown : s.vm.findClass "org/refold/RootClassesFindPinLaw" = some m.cls) (e0 : T0.heap = h0) (n0 : Nat) (N0 : Fr n0 locs) (g : n0 ≤ o1) (L : List Nat) (hL : L.length = 4) (hs : ∀ j, j < 4 → own_get L j ≤ 255) (HL : IA Z h0 o1 L) :
    ∃ (T' : State) (h' : Heap) (L' : List Loc), Stand p l e R s m args below meth c T' L' cells slots ∧ T'.heap = h' ∧ Fr n0 L' ∧ Keep h0 h' [o1] ∧ IA Z h' o1 (own_re L x y mm 3) ∧
      ∀ target, Steps p.tables e below (T'.setTop (mkF m 129 #[s0, .val (.ref o1), s2, s3, s4, .val (.int (Int32.ofNat x)), .val (.int (Int32.ofNat y)), s7, .val (.int (Int32.ofNat mm)), s9] [])) target → Steps p.tables e below (T0.setTop (mkF m 108 #[s0, .val (.ref o1), s2, s3, s4, .val (.int (Int32.ofNat x)), .val (.int (Int32.ofNat y)), s7, .val (.int (Int32.ofNat mm)), s9] [])) target := by
  obtain ⟨cl, Ar, Sz, H⟩ := id HL
  have hin : ¬ ((3 : Int32) < 0 ∨ cl.slots.size ≤ ((3 : Int32)).toNatClampNeg) := by rw [Sz]; decide
  have hat : cl.slots[((3 : Int32)).toNatClampNeg]? = some (.int (Int32.ofNat (own_get L 3))) := by rw [show ((3 : Int32)).toNatClampNeg = 3 from by decide]; exact H 3 (by omega)
  have hq := hs 3 (by omega)
  have wr : ∀ (u : own_get L 3 = x ∨ own_get L 3 = y), (∀ target, Steps p.tables e below (T0.setTop (mkF m 124 #[s0, .val (.ref o1), s2, s3, s4, .val (.int (Int32.ofNat x)), .val (.int (Int32.ofNat y)), s7, .val (.int (Int32.ofNat mm)), s9] [])) target → Steps p.tables e below (T0.setTop (mkF m 108 #[s0, .val (.ref o1), s2, s3, s4, .val (.int (Int32.ofNat x)), .val (.int (Int32.ofNat y)), s7, .val (.int (Int32.ofNat mm)), s9] [])) target) → ∃ (T' : State) (h' : Heap) (L' : List Loc), Stand p l e R s m args below meth c T' L' cells slots ∧ T'.heap = h' ∧ Fr n0 L' ∧ Keep h0 h' [o1] ∧ IA Z h' o1 (own_re L x y mm 3) ∧
      ∀ target, Steps p.tables e below (T'.setTop (mkF m 129 #[s0, .val (.ref o1), s2, s3, s4, .val (.int (Int32.ofNat x)), .val (.int (Int32.ofNat y)), s7, .val (.int (Int32.ofNat mm)), s9] [])) target → Steps p.tables e below (T0.setTop (mkF m 108 #[s0, .val (.ref o1), s2, s3, s4, .val (.int (Int32.ofNat x)), .val (.int (Int32.ofNat y)), s7, .val (.int (Int32.ofNat mm)), s9] [])) target := by
    intro u st
    obtain ⟨T1, h1, L1, X1, e1, N1, W1, st1⟩ := tp_d3w s0 o1 s2 s3 s4 (.val (.int (Int32.ofNat x))) (.val (.int (Int32.ofNat y))) s7 (Int32.ofNat mm) s9 cl X0 hx hZ hw hby hml hown e0 n0 N0 Ar hin g
    refine ⟨T1, h1, L1, X1, e1, N1, (Keep.refl h0 [o1]).wr W1 (Or.inl (List.mem_of_getElem? (i := 0) rfl)), ?_, fun target k => st target (st1 target k)⟩
    rw [own_re, if_pos u]
    exact IA.set hL (by omega) Ar Sz H (by decide) W1
  by_cases c1 : own_get L 3 = x
  · exact wr (Or.inl c1) (tp_d3t s0 o1 s2 s3 s4 (Int32.ofNat x) (.val (.int (Int32.ofNat y))) s7 (.val (.int (Int32.ofNat mm))) s9 (Int32.ofNat (own_get L 3)) cl X0 hx hZ hw hby hml hown e0 Ar hin hat (by rw [c1]))
  · by_cases c2 : own_get L 3 = y
    · exact wr (Or.inr c2) (tp_d3f s0 o1 s2 s3 s4 (Int32.ofNat x) (Int32.ofNat y) s7 (.val (.int (Int32.ofNat mm))) s9 (Int32.ofNat (own_get L 3)) cl (Int32.ofNat (own_get L 3)) X0 hx hZ hw hby hml hown e0 Ar hin hat hin hat (own_ne c1 hq hx') (by rw [c2]))
    · refine ⟨T0, h0, locs, X0, e0, N0, Keep.refl h0 [o1], ?_, tp_d3n s0 o1 s2 s3 s4 (Int32.ofNat x) (Int32.ofNat y) s7 (.val (.int (Int32.ofNat mm))) s9 (Int32.ofNat (own_get L 3)) cl (Int32.ofNat (own_get L 3)) X0 hx hZ hw hby hml hown e0 Ar hin hat hin hat (own_ne c1 hq hx') (own_ne c2 hq hy')⟩
      rw [own_re, if_neg (fun u => u.elim c1 c2)]; exact HL

set_option maxRecDepth 65536 in
set_option maxHeartbeats 40000000 in
theorem tp_e {p : Program} {l : Launch} {e : Env} {s : State} {m : MethodId} {args : Array Value} {below : List Frame} {meth : Method} {c : Code} {T0 : State} {locs : List Loc} {Z : State} {a0 : Array Value} {h0 : Heap} (o0 : Addr) (s1 : Slot) (s2 : Slot) (i3 : Int32) (i4 : Int32) (s5 : Slot) (s6 : Slot) (s7 : Slot) (s8 : Slot) (s9 : Slot)
    (X0 : Stand p l e ({ frames := 2, cells := 0, slots := 0, locals := 64 } : Room) s m args below meth c T0 locs 0 0) (hx : p.tables.exec = Jvm.exec) (hZ : Z.Warmed39 s.vm) (hw : ∀ d ∈ tables_1, d.before a0 Z = true) (hby : c.code = method_3_code) (hml : c.maxLocals = 10) (hown : s.vm.findClass "org/refold/RootClassesFindPinLaw" = some m.cls) (e0 : T0.heap = h0) (n0 : Nat) (N0 : Fr n0 locs) (w : Addr) (P Lb : List Nat) (hok : OK P Lb) (i j : Nat) (hi : i < 4) (hj : j < 4) (e3 : i3 = Int32.ofNat i) (e4 : i4 = Int32.ofNat j) (HR : RC Z h0 n0 o0 w P) (E_o0 : Exa Z h0 o0 "org/refold/RootClasses") (hs9 : One s9) :
    ∃ (T' : State) (h' : Heap) (L' : List Loc), Stand p l e ({ frames := 2, cells := 0, slots := 0, locals := 64 } : Room) s m args below meth c T' L' 0 0 ∧ T'.heap = h' ∧ Fr n0 L' ∧ Keep h0 h' [w] ∧ RC Z h' n0 o0 w (own_merge P i j) ∧
      ∀ target, Steps p.tables e below (T'.setTop (mkF m 138 #[.val (.ref o0), s1, s2, .val (.int i3), .val (.int i4), s5, s6, s7, s8, .val (.int (if own_fnd P i = own_fnd P j then (0 : Int32) else (1 : Int32)))] [])) target → Steps p.tables e below (T0.setTop (mkF m 129 #[.val (.ref o0), s1, s2, .val (.int i3), .val (.int i4), s5, s6, s7, s8, s9] [])) target := by
  obtain ⟨cq4, kq4, q4a, q4b, q4c⟩ := isOf hZ e0 E_o0
  obtain ⟨_, _, ⟨T4, L4, k4, n4⟩, -, X4, ⟨Lc4, hQ4, l4, y4, z4⟩, st4⟩ := X0.virtualBack hx (y := (⟨"org/refold/RootClasses", "merge", "(II)Z"⟩ : MethodName)) (z := (⟨"org/refold/RootClasses", "merge", "(II)Z"⟩ : MethodName)) hown (mvT hZ (hw _ (List.mem_of_getElem? (i := 20) rfl))) (mvT hZ (hw _ (List.mem_of_getElem? (i := 21) rfl))) (notFace_of_selects (args := #[]) (mvT hZ (hw _ (List.mem_of_getElem? (i := 23) rfl)))) (mvT hZ (hw _ (List.mem_of_getElem? (i := 23) rfl))) (mvT hZ (hw _ (List.mem_of_getElem? (i := 22) rfl))) (by decide) (backOf (W := 0) (rm5 l Z a0 hw [] o0 i3 i4 w P Lb hok i j hi hj e3 e4 h0 n0 HR) hZ (hw _ (List.mem_of_getElem? (i := 24) rfl)) (hw _ (List.mem_of_getElem? (i := 2) rfl)) (by decide) (by decide)) q4a q4c (g := (mkF m 133 #[.val (.ref o0), s1, s2, .val (.int i3), .val (.int i4), s5, s6, s7, s8, s9] [(.int i4), (.int i3), (.ref o0)])) rfl (by rw [hml]; rfl) (Steps.refl _) (argsL := [(.int i3), (.int i4)]) (rest := []) (lenOf pdq_2 rfl) rfl (by show 2 * 0 + _ ≤ _; exact Nat.le_of_eq rfl) (hb hby d3_133) (fun _ _ => ⟨rfl, e0, (by decide : 0 + 0 ≤ _), (by decide : 0 + 0 ≤ _)⟩)
  dsimp only [Pt.U, Pt.locs, Pt.cells, Pt.slots] at X4 l4 y4 z4 st4 hQ4
  subst l4 y4 z4
  obtain ⟨rfl, N4q, K4, R4⟩ := hQ4
  have N4 := Fr.app N0 N4q
  refine ⟨T4, _, _, X4, rfl, N4, K4, R4, fun target kt => ?_⟩
  show Steps p.tables e below (T0.setTop (mkF m 129 #[.val (.ref o0), s1, s2, .val (.int i3), .val (.int i4), s5, s6, s7, s8, s9] [])) _
  refine XS.aloadN X0.here hx rfl (hb hby d3_129) rfl rfl ?_
  show Steps p.tables e below (T0.setTop (mkF m 130 #[.val (.ref o0), s1, s2, .val (.int i3), .val (.int i4), s5, s6, s7, s8, s9] [(.ref o0)])) _
  refine XS.iloadN X0.here hx rfl (hb hby d3_130) rfl ?_
  show Steps p.tables e below (T0.setTop (mkF m 131 #[.val (.ref o0), s1, s2, .val (.int i3), .val (.int i4), s5, s6, s7, s8, s9] [(.int i3), (.ref o0)])) _
  refine XS.iload X0.here hx rfl (hb hby d3_131) rfl ?_
  show Steps p.tables e below (T0.setTop (mkF m 133 #[.val (.ref o0), s1, s2, .val (.int i3), .val (.int i4), s5, s6, s7, s8, s9] [(.int i4), (.int i3), (.ref o0)])) _
  refine st4.trans ?_
  show Steps p.tables e below (T4.setTop (mkF m 136 #[.val (.ref o0), s1, s2, .val (.int i3), .val (.int i4), s5, s6, s7, s8, s9] [(.int (if own_fnd P i = own_fnd P j then (0 : Int32) else (1 : Int32)))])) _
  refine XS.istore X4.here hx rfl (hb hby d3_136) rfl (l' := #[.val (.ref o0), s1, s2, .val (.int i3), .val (.int i4), s5, s6, s7, s8, .val (.int (if own_fnd P i = own_fnd P j then (0 : Int32) else (1 : Int32)))]) (os3_136_33 hs9) ?_
  exact kt
set_option maxRecDepth 65536 in
set_option maxHeartbeats 40000000 in
theorem tp_f {p : Program} {l : Launch} {e : Env} {R : Room} {s : State} {m : MethodId} {args : Array Value} {below : List Frame} {meth : Method} {c : Code} {T0 : State} {locs : List Loc} {cells slots : Nat} {Z : State} {a0 : Array Value} {h0 : Heap} (s0 : Slot) (s1 : Slot) (s2 : Slot) (s3 : Slot) (s4 : Slot) (s5 : Slot) (s6 : Slot) (i7 : Int32) (s8 : Slot) (i9 : Int32)
    (X0 : Stand p l e R s m args below meth c T0 locs cells slots) (hx : p.tables.exec = Jvm.exec) (hZ : Z.Warmed39 s.vm) (hw : ∀ d ∈ tables_1, d.before a0 Z = true) (hby : c.code = method_3_code) (hml : c.maxLocals = 10) (hown : s.vm.findClass "org/refold/RootClassesFindPinLaw" = some m.cls) (e0 : T0.heap = h0) (hc142 : i9 = i7) :
    ∀ target, Steps p.tables e below (T0.setTop (mkF m 150 #[s0, s1, s2, s3, s4, s5, s6, .val (.int i7), s8, .val (.int i9)] [(.int (1 : Int32))])) target → Steps p.tables e below (T0.setTop (mkF m 138 #[s0, s1, s2, s3, s4, s5, s6, .val (.int i7), s8, .val (.int i9)] [])) target := by
  intro target kt
  show Steps p.tables e below (T0.setTop (mkF m 138 #[s0, s1, s2, s3, s4, s5, s6, .val (.int i7), s8, .val (.int i9)] [])) _
  refine XS.iload X0.here hx rfl (hb hby d3_138) rfl ?_
  show Steps p.tables e below (T0.setTop (mkF m 140 #[s0, s1, s2, s3, s4, s5, s6, .val (.int i7), s8, .val (.int i9)] [(.int i9)])) _
  refine XS.iload X0.here hx rfl (hb hby d3_140) rfl ?_
  show Steps p.tables e below (T0.setTop (mkF m 142 #[s0, s1, s2, s3, s4, s5, s6, .val (.int i7), s8, .val (.int i9)] [(.int i7), (.int i9)])) _
  refine XS.icmpNo X0.here hx rfl (hb hby d3_142) rfl (teq hc142).2 ?_
  show Steps p.tables e below (T0.setTop (mkF m 145 #[s0, s1, s2, s3, s4, s5, s6, .val (.int i7), s8, .val (.int i9)] [])) _
  refine XS.iconst X0.here hx rfl (hb hby d3_145) ?_
  show Steps p.tables e below (T0.setTop (mkF m 146 #[s0, s1, s2, s3, s4, s5, s6, .val (.int i7), s8, .val (.int i9)] [(.int (1 : Int32))])) _
  refine XS.goto X0.here hx rfl (pc0 := 146) (pc' := 150) rfl (hb hby d3_146) (by decide) (by decide) ?_
  exact kt
def Q3 (Z : State) (a1 w a2 : Addr) (n0 : Nat) (v : Option Value) (h : Heap) (L : List Loc) : Prop := v = some (.int (1 : Int32)) ∧ Fr n0 L ∧ ∃ P' L', LS Z h n0 a1 w a2 P' L'
set_option maxRecDepth 65536 in
set_option maxHeartbeats 40000000 in
theorem rm3 (l : Launch) (Z : State) (a0 : Array Value) (hw : ∀ d ∈ tables_1, d.before a0 Z = true) (ws : List Jvm.Cond) (a1 a2 : Addr) (p3 : Int32) (w : Addr) (P Lb : List Nat) (h0 : Heap) (n0 : Nat) (HS : LS Z h0 n0 a1 w a2 P Lb) :
    MetFree l (⟨"org/refold/RootClassesFindPinLaw", "step", "(Lorg/refold/RootClasses;[II)Z"⟩ : MethodName) (head1 (Jvm.Cond.code (⟨"org/refold/RootClassesFindPinLaw", "step", "(Lorg/refold/RootClasses;[II)Z"⟩ : MethodName) method_3_code 10 (some .boolean) :: ws) ({ frames := 2, cells := 0, slots := 0, locals := 64 } : Room)) (fun a U => a = #[(.ref a1), (.ref a2), (.int p3)] ∧ Z.Warmed39 U.vm ∧ U.heap = h0) (fun _ _ _ _ _ => True) (fun _ U o U' => ∃ v L, o = .returned v ∧ Q3 Z a1 w a2 n0 v U'.heap L ∧ FrameEnd U o U' L ({ frames := 2, cells := 0, slots := 0, locals := 64 } : Room).cells ({ frames := 2, cells := 0, slots := 0, locals := 64 } : Room).slots) := by
  refine MetFree.of_bodySF (plainFor_of_name pn_3) hisR ?_
  intro p e s m args below meth c s₁ Bd hml0 hP hK
  obtain ⟨rfl, hZ, hh⟩ := hP
  have hx := Bd.exec
  have hby := Bd.bytes
  have hml : c.maxLocals = 10 := hml0
  have hown : s.vm.findClass "org/refold/RootClassesFindPinLaw" = some m.cls := findClass_of_methodNamed Bd.named
  have hnm := (name_of_methodNamed Bd.named Bd.method).1
  have X0 : Stand p l e ({ frames := 2, cells := 0, slots := 0, locals := 64 } : Room) s m #[(.ref a1), (.ref a2), (.int p3)] below meth c s₁ [] 0 0 := Stand.of_body Bd
  have e0 : s₁.heap = h0 := by rw [← hh, Bd.state]; rfl
  have N0 := Fr.nil n0
  have pre0 : ∀ t, Steps p.tables e below (s₁.setTop (mkF m 0 #[.val (.ref a1), .val (.ref a2), .val (.int p3), .unset, .unset, .unset, .unset, .unset, .unset, .unset] [])) t → Steps p.tables e below (s₁.setTop (entryFrame m #[(.ref a1), (.ref a2), (.int p3)] 10)) t := fun t k => castTop (ef_3 m a1 a2 p3) k
  obtain ⟨hok, HR, HL, g2, ne1, ne2⟩ := HS
  obtain ⟨i, hi, ei⟩ := own_m3 p3
  obtain ⟨j, hj, ej⟩ := own_m3 ((p3.toUInt32 >>> ((2 : Int32) &&& 31).toUInt32).toInt32)
  have ai := hok.at hi
  have aj := hok.at hj
  have fi := hok.fnd hi
  have fj := hok.fnd hj
  have small : ∀ q, q < 4 → own_get Lb q ≤ 255 := fun q hq => by rw [hok.at hq]; have := hok.fnd hq; omega
  obtain ⟨cl, Ar, Sz, H⟩ := id HL
  have hin : ∀ {u : Int32} {n : Nat}, n < 4 → u = Int32.ofNat n → ¬ (u < 0 ∨ cl.slots.size ≤ u.toNatClampNeg) := fun {u n} hn hu => by
    rw [hu, Sz, own_n32 (by omega)]; exact fun q => q.elim (own_nn (by omega)) (fun q => by omega)
  have hat : ∀ {u : Int32} {n : Nat}, n < 4 → u = Int32.ofNat n → cl.slots[u.toNatClampNeg]? = some (.int (Int32.ofNat (own_get Lb n))) := fun {u n} hn hu => by
    rw [hu, own_n32 (by omega)]; exact H n hn
  have stA := tp_a (.val (.ref a1)) a2 p3 .unset .unset .unset .unset .unset .unset .unset (Int32.ofNat (own_get Lb i)) cl (Int32.ofNat (own_get Lb j)) X0 hx hZ hw hby hml hown e0 One.u One.u Ar (hin hi ei) (hat hi ei) One.u (hin hj ej) (hat hj ej) One.u
  obtain ⟨t7, ht7, stB⟩ : ∃ t7 : Int32, t7 = (if own_fnd P i = own_fnd P j then (0 : Int32) else (1 : Int32)) ∧ ∀ target, Steps p.tables e below (s₁.setTop (mkF m 36 #[.val (.ref a1), .val (.ref a2), .val (.int p3), .val (.int (p3 &&& (3 : Int32))), .val (.int (((p3.toUInt32 >>> ((2 : Int32) &&& 31).toUInt32).toInt32) &&& (3 : Int32))), .val (.int (Int32.ofNat (own_get Lb i))), .val (.int (Int32.ofNat (own_get Lb j))), .val (.int t7), .unset, .unset] [])) target → Steps p.tables e below (s₁.setTop (mkF m 22 #[.val (.ref a1), .val (.ref a2), .val (.int p3), .val (.int (p3 &&& (3 : Int32))), .val (.int (((p3.toUInt32 >>> ((2 : Int32) &&& 31).toUInt32).toInt32) &&& (3 : Int32))), .val (.int (Int32.ofNat (own_get Lb i))), .val (.int (Int32.ofNat (own_get Lb j))), .unset, .unset, .unset] [])) target := by
    by_cases q : own_fnd P i = own_fnd P j
    · exact ⟨0, by rw [if_pos q], tp_bt (.val (.ref a1)) (.val (.ref a2)) (.val (.int p3)) (.val (.int (p3 &&& (3 : Int32)))) (.val (.int (((p3.toUInt32 >>> ((2 : Int32) &&& 31).toUInt32).toInt32) &&& (3 : Int32)))) (Int32.ofNat (own_get Lb i)) (Int32.ofNat (own_get Lb j)) .unset .unset .unset X0 hx hZ hw hby hml hown e0 One.u (by rw [ai, aj, q])⟩
    · exact ⟨1, by rw [if_neg q], tp_bf (.val (.ref a1)) (.val (.ref a2)) (.val (.int p3)) (.val (.int (p3 &&& (3 : Int32)))) (.val (.int (((p3.toUInt32 >>> ((2 : Int32) &&& 31).toUInt32).toInt32) &&& (3 : Int32)))) (Int32.ofNat (own_get Lb i)) (Int32.ofNat (own_get Lb j)) .unset .unset .unset X0 hx hZ hw hby hml hown e0 One.u (by rw [ai, aj]; exact own_ne q (by omega) (by omega))⟩
  obtain ⟨T1, h1, L1, X1, e1, N1, eh1, stC⟩ := tp_c (.val (.ref a1)) (.val (.ref a2)) (.val (.int p3)) (.val (.int (p3 &&& (3 : Int32)))) (.val (.int (((p3.toUInt32 >>> ((2 : Int32) &&& 31).toUInt32).toInt32) &&& (3 : Int32)))) (Int32.ofNat (own_get Lb i)) (Int32.ofNat (own_get Lb j)) (.val (.int t7)) .unset .unset X0 hx hZ hw hby hml hown e0 n0 N0 HR.sz (own_get Lb i) (own_get Lb j) (small i hi) (small j hj) rfl rfl One.u
  rw [eh1] at e1
  have sA : (own_get Lb i) ≤ 255 := small i hi
  have sB : (own_get Lb j) ≤ 255 := small j hj
  have smr : ∀ (M : List Nat) (q : Nat), M.length = 4 → q < 4 → (∀ r, r < 4 → own_get M r ≤ 255) → ∀ r, r < 4 → own_get (own_re M (own_get Lb i) (own_get Lb j) (min (own_get Lb i) (own_get Lb j)) q) r ≤ 255 := fun M q hM hq hs r hr' => by
    rw [own_re]
    split
    · rw [own_get_set (by omega)]; split
      · omega
      · exact hs r hr'
    · exact hs r hr'
  have l0 := hok.len
  have l1 : (own_re Lb (own_get Lb i) (own_get Lb j) (min (own_get Lb i) (own_get Lb j)) 0).length = 4 := (own_re_len ..).trans l0
  have l2 : (own_re (own_re Lb (own_get Lb i) (own_get Lb j) (min (own_get Lb i) (own_get Lb j)) 0) (own_get Lb i) (own_get Lb j) (min (own_get Lb i) (own_get Lb j)) 1).length = 4 := (own_re_len ..).trans l1
  have l3 : (own_re (own_re (own_re Lb (own_get Lb i) (own_get Lb j) (min (own_get Lb i) (own_get Lb j)) 0) (own_get Lb i) (own_get Lb j) (min (own_get Lb i) (own_get Lb j)) 1) (own_get Lb i) (own_get Lb j) (min (own_get Lb i) (own_get Lb j)) 2).length = 4 := (own_re_len ..).trans l2
  have m1 := smr _ 0 l0 (by omega) small
  have m2 := smr _ 1 l1 (by omega) m1
  have m3 := smr _ 2 l2 (by omega) m2
  obtain ⟨T2, h2, L2, X2, e2, N2, K2, H2, st2⟩ := own_cell0 (.val (.ref a1)) a2 (.val (.int p3)) (.val (.int (p3 &&& (3 : Int32)))) (.val (.int (((p3.toUInt32 >>> ((2 : Int32) &&& 31).toUInt32).toInt32) &&& (3 : Int32)))) (own_get Lb i) (own_get Lb j) (min (own_get Lb i) (own_get Lb j)) (.val (.int t7)) .unset sA sB X1 hx hZ hw hby hml hown e1 n0 N1 g2 _ l0 small HL
  obtain ⟨T3, h3, L3, X3, e3, N3, K3, H3, st3⟩ := own_cell1 (.val (.ref a1)) a2 (.val (.int p3)) (.val (.int (p3 &&& (3 : Int32)))) (.val (.int (((p3.toUInt32 >>> ((2 : Int32) &&& 31).toUInt32).toInt32) &&& (3 : Int32)))) (own_get Lb i) (own_get Lb j) (min (own_get Lb i) (own_get Lb j)) (.val (.int t7)) .unset sA sB X2 hx hZ hw hby hml hown e2 n0 N2 g2 _ l1 m1 H2
  obtain ⟨T4, h4, L4, X4, e4, N4, K4, H4, st4⟩ := own_cell2 (.val (.ref a1)) a2 (.val (.int p3)) (.val (.int (p3 &&& (3 : Int32)))) (.val (.int (((p3.toUInt32 >>> ((2 : Int32) &&& 31).toUInt32).toInt32) &&& (3 : Int32)))) (own_get Lb i) (own_get Lb j) (min (own_get Lb i) (own_get Lb j)) (.val (.int t7)) .unset sA sB X3 hx hZ hw hby hml hown e3 n0 N3 g2 _ l2 m2 H3
  obtain ⟨T5, h5, L5, X5, e5, N5, K5, H5, st5⟩ := own_cell3 (.val (.ref a1)) a2 (.val (.int p3)) (.val (.int (p3 &&& (3 : Int32)))) (.val (.int (((p3.toUInt32 >>> ((2 : Int32) &&& 31).toUInt32).toInt32) &&& (3 : Int32)))) (own_get Lb i) (own_get Lb j) (min (own_get Lb i) (own_get Lb j)) (.val (.int t7)) .unset sA sB X4 hx hZ hw hby hml hown e4 n0 N4 g2 _ l3 m3 H4
  have nn : ∀ {u : Addr}, u ≠ a2 → u ∉ [a2] := fun q => ninS q nin0
  have HR5 : RC Z h5 n0 a1 w P := (((HR.keep K2 (nn ne1) (nn ne2)).keep K3 (nn ne1) (nn ne2)).keep K4 (nn ne1) (nn ne2)).keep K5 (nn ne1) (nn ne2)
  obtain ⟨T6, h6, L6, X6, e6, N6, K6, R6, st6⟩ := tp_e a1 (.val (.ref a2)) (.val (.int p3)) (p3 &&& (3 : Int32)) (((p3.toUInt32 >>> ((2 : Int32) &&& 31).toUInt32).toInt32) &&& (3 : Int32)) (.val (.int (Int32.ofNat (own_get Lb i)))) (.val (.int (Int32.ofNat (own_get Lb j)))) (.val (.int t7)) (.val (.int (Int32.ofNat (min (own_get Lb i) (own_get Lb j))))) .unset X5 hx hZ hw hby hml hown e5 n0 N5 w P Lb hok i j hi hj ei ej HR5 HR5.2.2.2.1 One.u
  have stF := tp_f (.val (.ref a1)) (.val (.ref a2)) (.val (.int p3)) (.val (.int (p3 &&& (3 : Int32)))) (.val (.int (((p3.toUInt32 >>> ((2 : Int32) &&& 31).toUInt32).toInt32) &&& (3 : Int32)))) (.val (.int (Int32.ofNat (own_get Lb i)))) (.val (.int (Int32.ofNat (own_get Lb j)))) t7 (.val (.int (Int32.ofNat (min (own_get Lb i) (own_get Lb j))))) _ X6 hx hZ hw hby hml hown e6 ht7.symm
  obtain ⟨fs, hr, hrun, hended, hW, hsame⟩ := X6.leave (v := some (.int (1 : Int32))) (fun h => by rw [Bd.returns] at h; cases h)
  refine ⟨_, _, pre0 _ ?_, hrun, hended, _, _, rfl, ?_, ⟨_, rfl⟩, hW, hsame.mono (by decide) (by decide)⟩
  · refine stA _ ?_
    refine stB _ ?_
    refine stC _ ?_
    refine st2 _ ?_
    refine st3 _ ?_
    refine st4 _ ?_
    refine st5 _ ?_
    refine st6 _ ?_
    refine stF _ ?_
    exact retN X6 hx (t := .boolean) Bd.returns (by simp) (hb hby d3_150) hr
  · show Q3 Z a1 w a2 n0 _ T6.heap _
    rw [e6]
    exact ⟨rfl, N6, own_merge P i j, own_lbl Lb (own_get Lb i) (own_get Lb j), hok.step hi hj, R6, H5.keep K6 (ninS (Ne.symm ne2) nin0), g2, ne1, ne2⟩

def Q0 (Z : State)  (n0 : Nat) (v : Option Value) (h : Heap) (L : List Loc) : Prop := v = some (.int (1 : Int32)) ∧ Fr n0 L
set_option maxRecDepth 65536 in
set_option maxHeartbeats 40000000 in
theorem rm0 (l : Launch) (Z : State) (a0 : Array Value) (hw : ∀ d ∈ tables_1, d.before a0 Z = true) (ws : List Jvm.Cond) (p1 p2 p3 : Int32) (h0 : Heap) (n0 : Nat) (Z0 : n0 ≤ h0.size) :
    MetFree l x (head1 (Jvm.Cond.code x code maxLocals ret :: ws) room_1) (fun a U => a = #[(.int p1), (.int p2), (.int p3)] ∧ Z.Warmed39 U.vm ∧ U.heap = h0) (fun _ _ _ _ _ => True) (fun _ U o U' => ∃ v L, o = .returned v ∧ Q0 Z  n0 v U'.heap L ∧ FrameEnd U o U' L room_1.cells room_1.slots) := by
  refine MetFree.of_bodySF (plainFor_of_name pn_0) hisR ?_
  intro p e s m args below meth c s₁ Bd hml0 hP hK
  obtain ⟨rfl, hZ, hh⟩ := hP
  have hx := Bd.exec
  have hby := Bd.bytes
  have hml : c.maxLocals = 12 := hml0
  have hown : s.vm.findClass "org/refold/RootClassesFindPinLaw" = some m.cls := findClass_of_methodNamed Bd.named
  have hnm := (name_of_methodNamed Bd.named Bd.method).1
  have X0 : Stand p l e room_1 s m #[(.int p1), (.int p2), (.int p3)] below meth c s₁ [] 0 0 := Stand.of_body Bd
  have e0 : s₁.heap = h0 := by rw [← hh, Bd.state]; rfl
  have N0 := Fr.nil n0
  have hc150 : ¬ ((1 : Int32) = (0 : Int32)) := by decide
  have hc155 : ¬ ((1 : Int32) = (0 : Int32)) := by decide
  have hc160 : ¬ ((1 : Int32) = (0 : Int32)) := by decide
  have hc165 : ¬ ((1 : Int32) = (0 : Int32)) := by decide
  have pre0 : ∀ t, Steps p.tables e below (s₁.setTop (mkF m 0 #[.val (.int p1), .val (.int p2), .val (.int p3), .unset, .unset, .unset, .unset, .unset, .unset, .unset, .unset, .unset] [])) t → Steps p.tables e below (s₁.setTop (entryFrame m #[(.int p1), (.int p2), (.int p3)] maxLocals)) t := fun t k => castTop (ef_0 m p1 p2 p3) k
  obtain ⟨T4, h4, X4, e4, E4, A4, D4, -, st4⟩ := newO X0 hx hZ hown (hw _ (List.mem_of_getElem? (i := 0) rfl)) (hw _ (List.mem_of_getElem? (i := 1) rfl)) (hw _ (List.mem_of_getElem? (i := 2) rfl)) e0 (g := (mkF m 0 #[.val (.int p1), .val (.int p2), .val (.int p3), .unset, .unset, .unset, .unset, .unset, .unset, .unset, .unset, .unset] [])) rfl (hb hby at_0) (by decide) (by decide)
  obtain ⟨b4, g4⟩ : ∃ z, z = h0.size := ⟨_, rfl⟩
  rw [← g4] at A4 D4 st4
  have F_parent_b4 : Fld Z h4 b4 "org/refold/RootClasses" "parent" "[I" .null := D4 (Or.inr (hw _ (List.mem_of_getElem? (i := 11) rfl))) (ty := (.array .int)) (by decide)
  have E_b4 := A4
  have g_b4 : n0 ≤ b4 := Nat.le_trans Z0 (Nat.le_of_eq g4.symm)
  have sz_b4 : h0.size ≤ b4 := (Nat.le_trans (Keep.refl h0 []).1 (Nat.le_of_eq g4.symm))
  have K4 : Keep h0 h4 [] := (Keep.refl h0 []).ext E4
  obtain ⟨_, _, ⟨T5, L5, k5, n5⟩, -, X5, ⟨Lc5, hQ5, l5, y5, z5⟩, st5⟩ := X4.specialBack hx (y := (⟨"org/refold/RootClasses", "<init>", "(I)V"⟩ : MethodName)) rfl hown (mvT hZ (hw _ (List.mem_of_getElem? (i := 3) rfl))) (mvT hZ (hw _ (List.mem_of_getElem? (i := 4) rfl))) (mvT hZ (hw _ (List.mem_of_getElem? (i := 5) rfl))) (by decide) (backOf (W := 1) (rm1 l Z a0 hw [] b4 h4 n0 (Nat.le_trans Z0 E4.1) E_b4 F_parent_b4 g_b4) hZ (hw _ (List.mem_of_getElem? (i := 5) rfl)) (hw _ (List.mem_of_getElem? (i := 2) rfl)) (by decide) (by decide)) (g := (mkF m 5 #[.val (.int p1), .val (.int p2), .val (.int p3), .unset, .unset, .unset, .unset, .unset, .unset, .unset, .unset, .unset] [(.int (4 : Int32)), (.ref b4), (.ref b4)])) rfl (by rw [hml]; rfl) (Steps.refl _) (a := b4) (argsL := [(.int (4 : Int32))]) (rest := [(.ref b4)]) (lenOf pdq_3 rfl) rfl (by show 2 * 0 + _ ≤ _; exact Nat.le_of_eq rfl) (hb hby at_5) (fun _ _ => ⟨rfl, e4, (by decide : 1 + 1 ≤ _), (by decide : 1 + 4 ≤ _)⟩)
  dsimp only [Pt.U, Pt.locs, Pt.cells, Pt.slots] at X5 l5 y5 z5 st5 hQ5
  subst l5 y5 z5
  obtain ⟨rfl, N5q, w5, R5⟩ := hQ5
  have N5 := Fr.app N0 N5q
  obtain ⟨T6, h6, k6, X6, e6, E6, A6, st6⟩ := newP X5 hx hZ (hw _ (List.mem_of_getElem? (i := 9) rfl)) rfl (g := (mkF m 10 #[.val (.int p1), .val (.int p2), .val (.int p3), .val (.ref b4), .unset, .unset, .unset, .unset, .unset, .unset, .unset, .unset] [(.int (4 : Int32))])) rfl (hb hby at_10) rfl (by decide) (cap := 4) (by decide) (by decide) (by decide) (by decide)
  obtain ⟨b6, g6⟩ : ∃ z, z = T5.heap.size := ⟨_, rfl⟩
  rw [← g6] at A6 st6
  have V_b6 : Arv Z h6 b6 k6 .int (4 : Int32) [(.int (0 : Int32)), (.int (0 : Int32)), (.int (0 : Int32)), (.int (0 : Int32))] (.int (0 : Int32)) := (Arv.new A6 (by decide)).pad (pad_rep [] (.int (0 : Int32)) 4)
  have g_b6 : n0 ≤ b6 := by rw [g6]; exact R5.sz
  obtain ⟨cl_b6_15, Ar_b6, q_b6, S_b6, N_b6, H_b6, G_b6⟩ := V_b6
  have hin15 : ¬ ((0 : Int32) < 0 ∨ cl_b6_15.slots.size ≤ ((0 : Int32)).toNatClampNeg) := inb_of S_b6 ⟨by decide, by decide⟩
  obtain ⟨T7, h7, X7, e7, W7, st7⟩ := stI X6 hx hZ e6 Ar_b6 (j := (0 : Int32)) hin15 (g := (mkF m 15 #[.val (.int p1), .val (.int p2), .val (.int p3), .val (.ref b4), .unset, .unset, .unset, .unset, .unset, .unset, .unset, .unset] [(.int (0 : Int32)), (.int (0 : Int32)), (.ref b6), (.ref b6)])) rfl rfl (hb hby at_15)
  have V_b6_7 := Arv.set Ar_b6 q_b6 S_b6 N_b6 H_b6 G_b6 rfl W7 0 rfl (Nat.le_of_ble_eq_true rfl)
  have N7 := Fr.snoc X7 N5 g_b6
  obtain ⟨cl_b6_19, Ar_b6, q_b6, S_b6, N_b6, H_b6, G_b6⟩ := V_b6_7
  have hin19 : ¬ ((1 : Int32) < 0 ∨ cl_b6_19.slots.size ≤ ((1 : Int32)).toNatClampNeg) := inb_of S_b6 ⟨by decide, by decide⟩
  obtain ⟨T8, h8, X8, e8, W8, st8⟩ := stI X7 hx hZ e7 Ar_b6 (j := (1 : Int32)) hin19 (g := (mkF m 19 #[.val (.int p1), .val (.int p2), .val (.int p3), .val (.ref b4), .unset, .unset, .unset, .unset, .unset, .unset, .unset, .unset] [(.int (1 : Int32)), (.int (1 : Int32)), (.ref b6), (.ref b6)])) rfl rfl (hb hby at_19)
  have V_b6_8 := Arv.set Ar_b6 q_b6 S_b6 N_b6 H_b6 G_b6 rfl W8 1 rfl (Nat.le_of_ble_eq_true rfl)
  have N8 := Fr.snoc X8 N7 g_b6
  obtain ⟨cl_b6_23, Ar_b6, q_b6, S_b6, N_b6, H_b6, G_b6⟩ := V_b6_8
  have hin23 : ¬ ((2 : Int32) < 0 ∨ cl_b6_23.slots.size ≤ ((2 : Int32)).toNatClampNeg) := inb_of S_b6 ⟨by decide, by decide⟩
  obtain ⟨T9, h9, X9, e9, W9, st9⟩ := stI X8 hx hZ e8 Ar_b6 (j := (2 : Int32)) hin23 (g := (mkF m 23 #[.val (.int p1), .val (.int p2), .val (.int p3), .val (.ref b4), .unset, .unset, .unset, .unset, .unset, .unset, .unset, .unset] [(.int (2 : Int32)), (.int (2 : Int32)), (.ref b6), (.ref b6)])) rfl rfl (hb hby at_23)
  have V_b6_9 := Arv.set Ar_b6 q_b6 S_b6 N_b6 H_b6 G_b6 rfl W9 2 rfl (Nat.le_of_ble_eq_true rfl)
  have N9 := Fr.snoc X9 N8 g_b6
  obtain ⟨cl_b6_27, Ar_b6, q_b6, S_b6, N_b6, H_b6, G_b6⟩ := V_b6_9
  have hin27 : ¬ ((3 : Int32) < 0 ∨ cl_b6_27.slots.size ≤ ((3 : Int32)).toNatClampNeg) := inb_of S_b6 ⟨by decide, by decide⟩
  obtain ⟨T10, h10, X10, e10, W10, st10⟩ := stI X9 hx hZ e9 Ar_b6 (j := (3 : Int32)) hin27 (g := (mkF m 27 #[.val (.int p1), .val (.int p2), .val (.int p3), .val (.ref b4), .unset, .unset, .unset, .unset, .unset, .unset, .unset, .unset] [(.int (3 : Int32)), (.int (3 : Int32)), (.ref b6), (.ref b6)])) rfl rfl (hb hby at_27)
  have V_b6_10 := Arv.set Ar_b6 q_b6 S_b6 N_b6 H_b6 G_b6 rfl W10 3 rfl (Nat.le_of_ble_eq_true rfl)
  have N10 := Fr.snoc X10 N9 g_b6
  have ne46 : b4 ≠ b6 := by rw [g6]; exact Nat.ne_of_lt R5.2.2.2.1.lt
  have ne56 : w5 ≠ b6 := by rw [g6]; exact Nat.ne_of_lt R5.2.2.2.2.2.lt
  have I10 : IA Z h10 b6 [0, 1, 2, 3] := IA.of V_b6_10 (fun j hj => by
    have : j = 0 ∨ j = 1 ∨ j = 2 ∨ j = 3 := by omega
    rcases this with rfl | rfl | rfl | rfl <;> rfl)
  have S10 : LS Z h10 n0 b4 w5 b6 [0, 1, 2, 3] [0, 1, 2, 3] := ⟨⟨rfl, by decide, by decide⟩, ((((R5.ext E6).other W7 ne46 ne56).other W8 ne46 ne56).other W9 ne46 ne56).other W10 ne46 ne56, I10, g_b6, ne46, ne56⟩
  obtain ⟨_, _, ⟨T11, L11, k11, n11⟩, -, X11, ⟨Lc11, hQ11, l11, y11, z11⟩, st11⟩ := Jvm.LawKit.callS X10 hx (y := (⟨"org/refold/RootClassesFindPinLaw", "step", "(Lorg/refold/RootClasses;[II)Z"⟩ : MethodName)) hown (mvT hZ (hw _ (List.mem_of_getElem? (i := 12) rfl))) (mvT hZ (hw _ (List.mem_of_getElem? (i := 13) rfl))) (mvT hZ (hw _ (List.mem_of_getElem? (i := 14) rfl))) (mvT hZ (hw _ (List.mem_of_getElem? (i := 15) rfl))) (by decide) (backOf (W := 0) (rm3 l Z a0 hw [] b4 b6 p1 w5 [0, 1, 2, 3] [0, 1, 2, 3] h10 n0 S10) hZ (hw _ (List.mem_of_getElem? (i := 15) rfl)) (hw _ (List.mem_of_getElem? (i := 14) rfl)) (by decide) (by decide)) (g := (mkF m 34 #[.val (.int p1), .val (.int p2), .val (.int p3), .val (.ref b4), .val (.ref b6), .unset, .unset, .unset, .unset, .unset, .unset, .unset] [(.int p1), (.ref b6), (.ref b4)])) rfl (by rw [hml]; rfl) (argsL := [(.ref b4), (.ref b6), (.int p1)]) (rest := []) (lenOf pdq_4 rfl) rfl (by show 2 * 0 + _ ≤ _; exact Nat.le_of_eq rfl) (hb hby at_34) (fun _ _ => ⟨rfl, e10, (by decide : 3 + 0 ≤ _), (by decide : 9 + 0 ≤ _)⟩)
  dsimp only [Pt.U, Pt.locs, Pt.cells, Pt.slots] at X11 l11 y11 z11 st11 hQ11
  subst l11 y11 z11
  obtain ⟨rfl, N11q, P11, M11, S11⟩ := hQ11
  have N11 := Fr.app N10 N11q
  obtain ⟨_, _, ⟨T12, L12, k12, n12⟩, -, X12, ⟨Lc12, hQ12, l12, y12, z12⟩, st12⟩ := Jvm.LawKit.callS X11 hx (y := (⟨"org/refold/RootClassesFindPinLaw", "step", "(Lorg/refold/RootClasses;[II)Z"⟩ : MethodName)) hown (mvT hZ (hw _ (List.mem_of_getElem? (i := 12) rfl))) (mvT hZ (hw _ (List.mem_of_getElem? (i := 13) rfl))) (mvT hZ (hw _ (List.mem_of_getElem? (i := 14) rfl))) (mvT hZ (hw _ (List.mem_of_getElem? (i := 15) rfl))) (by decide) (backOf (W := 0) (rm3 l Z a0 hw [] b4 b6 p2 w5 P11 M11 T11.heap n0 S11) hZ (hw _ (List.mem_of_getElem? (i := 15) rfl)) (hw _ (List.mem_of_getElem? (i := 14) rfl)) (by decide) (by decide)) (g := (mkF m 43 #[.val (.int p1), .val (.int p2), .val (.int p3), .val (.ref b4), .val (.ref b6), .val (.int (1 : Int32)), .unset, .unset, .unset, .unset, .unset, .unset] [(.int p2), (.ref b6), (.ref b4)])) rfl (by rw [hml]; rfl) (argsL := [(.ref b4), (.ref b6), (.int p2)]) (rest := []) (lenOf pdq_4 rfl) rfl (by show 2 * 0 + _ ≤ _; exact Nat.le_of_eq rfl) (hb hby at_43) (fun _ _ => ⟨rfl, rfl, (by decide : 3 + 0 ≤ _), (by decide : 9 + 0 ≤ _)⟩)
  dsimp only [Pt.U, Pt.locs, Pt.cells, Pt.slots] at X12 l12 y12 z12 st12 hQ12
  subst l12 y12 z12
  obtain ⟨rfl, N12q, P12, M12, S12⟩ := hQ12
  have N12 := Fr.app N11 N12q
  obtain ⟨_, _, ⟨T13, L13, k13, n13⟩, -, X13, ⟨Lc13, hQ13, l13, y13, z13⟩, st13⟩ := Jvm.LawKit.callS X12 hx (y := (⟨"org/refold/RootClassesFindPinLaw", "step", "(Lorg/refold/RootClasses;[II)Z"⟩ : MethodName)) hown (mvT hZ (hw _ (List.mem_of_getElem? (i := 12) rfl))) (mvT hZ (hw _ (List.mem_of_getElem? (i := 13) rfl))) (mvT hZ (hw _ (List.mem_of_getElem? (i := 14) rfl))) (mvT hZ (hw _ (List.mem_of_getElem? (i := 15) rfl))) (by decide) (backOf (W := 0) (rm3 l Z a0 hw [] b4 b6 p3 w5 P12 M12 T12.heap n0 S12) hZ (hw _ (List.mem_of_getElem? (i := 15) rfl)) (hw _ (List.mem_of_getElem? (i := 14) rfl)) (by decide) (by decide)) (g := (mkF m 52 #[.val (.int p1), .val (.int p2), .val (.int p3), .val (.ref b4), .val (.ref b6), .val (.int (1 : Int32)), .val (.int (1 : Int32)), .unset, .unset, .unset, .unset, .unset] [(.int p3), (.ref b6), (.ref b4)])) rfl (by rw [hml]; rfl) (argsL := [(.ref b4), (.ref b6), (.int p3)]) (rest := []) (lenOf pdq_4 rfl) rfl (by show 2 * 0 + _ ≤ _; exact Nat.le_of_eq rfl) (hb hby at_52) (fun _ _ => ⟨rfl, rfl, (by decide : 3 + 0 ≤ _), (by decide : 9 + 0 ≤ _)⟩)
  dsimp only [Pt.U, Pt.locs, Pt.cells, Pt.slots] at X13 l13 y13 z13 st13 hQ13
  subst l13 y13 z13
  obtain ⟨rfl, N13q, P13, M13, S13⟩ := hQ13
  have N13 := Fr.app N12 N13q
  obtain ⟨cq14, kq14, q14a, q14b, q14c⟩ := isOf hZ rfl S13.2.1.2.2.2.1
  obtain ⟨_, _, ⟨T14, L14, k14, n14⟩, -, X14, ⟨Lc14, hQ14, l14, y14, z14⟩, st14⟩ := X13.virtualBack hx (y := (⟨"org/refold/RootClasses", "find", "(I)I"⟩ : MethodName)) (z := (⟨"org/refold/RootClasses", "find", "(I)I"⟩ : MethodName)) hown (mvT hZ (hw _ (List.mem_of_getElem? (i := 34) rfl))) (mvT hZ (hw _ (List.mem_of_getElem? (i := 26) rfl))) (notFace_of_selects (args := #[]) (mvT hZ (hw _ (List.mem_of_getElem? (i := 28) rfl)))) (mvT hZ (hw _ (List.mem_of_getElem? (i := 28) rfl))) (mvT hZ (hw _ (List.mem_of_getElem? (i := 27) rfl))) (by decide) (backOf (W := 0) (rm6 l Z a0 hw [] b4 (0 : Int32) w5 P13 0 (by omega) (by decide) S13.1.2.1 T13.heap n0 S13.2.1) hZ (hw _ (List.mem_of_getElem? (i := 29) rfl)) (hw _ (List.mem_of_getElem? (i := 2) rfl)) (by decide) (by decide)) q14a q14c (g := (mkF m 59 #[.val (.int p1), .val (.int p2), .val (.int p3), .val (.ref b4), .val (.ref b6), .val (.int (1 : Int32)), .val (.int (1 : Int32)), .val (.int (1 : Int32)), .unset, .unset, .unset, .unset] [(.int (0 : Int32)), (.ref b4)])) rfl (by rw [hml]; rfl) (Steps.refl _) (argsL := [(.int (0 : Int32))]) (rest := []) (lenOf pdq_0 rfl) rfl (by show 2 * 0 + _ ≤ _; exact Nat.le_of_eq rfl) (hb hby at_59) (fun _ _ => ⟨rfl, rfl, (by decide : 3 + 0 ≤ _), (by decide : 9 + 0 ≤ _)⟩)
  dsimp only [Pt.U, Pt.locs, Pt.cells, Pt.slots] at X14 l14 y14 z14 st14 hQ14
  subst l14 y14 z14
  obtain ⟨rfl, N14q, e14⟩ := hQ14
  have S14 : LS Z T14.heap n0 b4 w5 b6 P13 M13 := by rw [e14]; exact S13
  obtain ⟨cl_14, Ar_14, Sz_14, H_14⟩ := S14.2.2.1
  have hin65 : ¬ ((0 : Int32) < 0 ∨ cl_14.slots.size ≤ ((0 : Int32)).toNatClampNeg) := by rw [Sz_14]; decide
  have hat65 : cl_14.slots[((0 : Int32)).toNatClampNeg]? = some (.int (Int32.ofNat (own_get M13 0))) := by rw [show ((0 : Int32)).toNatClampNeg = 0 from by decide]; exact H_14 0 (by omega)
  have N14 := Fr.app N13 N14q
  obtain ⟨cq16, kq16, q16a, q16b, q16c⟩ := isOf hZ rfl S14.2.1.2.2.2.1
  obtain ⟨_, _, ⟨T16, L16, k16, n16⟩, -, X16, ⟨Lc16, hQ16, l16, y16, z16⟩, st16⟩ := X14.virtualBack hx (y := (⟨"org/refold/RootClasses", "find", "(I)I"⟩ : MethodName)) (z := (⟨"org/refold/RootClasses", "find", "(I)I"⟩ : MethodName)) hown (mvT hZ (hw _ (List.mem_of_getElem? (i := 34) rfl))) (mvT hZ (hw _ (List.mem_of_getElem? (i := 26) rfl))) (notFace_of_selects (args := #[]) (mvT hZ (hw _ (List.mem_of_getElem? (i := 28) rfl)))) (mvT hZ (hw _ (List.mem_of_getElem? (i := 28) rfl))) (mvT hZ (hw _ (List.mem_of_getElem? (i := 27) rfl))) (by decide) (backOf (W := 0) (rm6 l Z a0 hw [] b4 (1 : Int32) w5 P13 1 (by omega) (by decide) S13.1.2.1 T14.heap n0 S14.2.1) hZ (hw _ (List.mem_of_getElem? (i := 29) rfl)) (hw _ (List.mem_of_getElem? (i := 2) rfl)) (by decide) (by decide)) q16a q16c (g := (mkF m 78 #[.val (.int p1), .val (.int p2), .val (.int p3), .val (.ref b4), .val (.ref b6), .val (.int (1 : Int32)), .val (.int (1 : Int32)), .val (.int (1 : Int32)), .val (.int (1 : Int32)), .unset, .unset, .unset] [(.int (1 : Int32)), (.ref b4)])) rfl (by rw [hml]; rfl) (Steps.refl _) (argsL := [(.int (1 : Int32))]) (rest := []) (lenOf pdq_0 rfl) rfl (by show 2 * 0 + _ ≤ _; exact Nat.le_of_eq rfl) (hb hby at_78) (fun _ _ => ⟨rfl, rfl, (by decide : 3 + 0 ≤ _), (by decide : 9 + 0 ≤ _)⟩)
  dsimp only [Pt.U, Pt.locs, Pt.cells, Pt.slots] at X16 l16 y16 z16 st16 hQ16
  subst l16 y16 z16
  obtain ⟨rfl, N16q, e16⟩ := hQ16
  have S16 : LS Z T16.heap n0 b4 w5 b6 P13 M13 := by rw [e16]; exact S14
  obtain ⟨cl_16, Ar_16, Sz_16, H_16⟩ := S16.2.2.1
  have hin84 : ¬ ((1 : Int32) < 0 ∨ cl_16.slots.size ≤ ((1 : Int32)).toNatClampNeg) := by rw [Sz_16]; decide
  have hat84 : cl_16.slots[((1 : Int32)).toNatClampNeg]? = some (.int (Int32.ofNat (own_get M13 1))) := by rw [show ((1 : Int32)).toNatClampNeg = 1 from by decide]; exact H_16 1 (by omega)
  have N16 := Fr.app N14 N16q
  obtain ⟨cq18, kq18, q18a, q18b, q18c⟩ := isOf hZ rfl S16.2.1.2.2.2.1
  obtain ⟨_, _, ⟨T18, L18, k18, n18⟩, -, X18, ⟨Lc18, hQ18, l18, y18, z18⟩, st18⟩ := X16.virtualBack hx (y := (⟨"org/refold/RootClasses", "find", "(I)I"⟩ : MethodName)) (z := (⟨"org/refold/RootClasses", "find", "(I)I"⟩ : MethodName)) hown (mvT hZ (hw _ (List.mem_of_getElem? (i := 34) rfl))) (mvT hZ (hw _ (List.mem_of_getElem? (i := 26) rfl))) (notFace_of_selects (args := #[]) (mvT hZ (hw _ (List.mem_of_getElem? (i := 28) rfl)))) (mvT hZ (hw _ (List.mem_of_getElem? (i := 28) rfl))) (mvT hZ (hw _ (List.mem_of_getElem? (i := 27) rfl))) (by decide) (backOf (W := 0) (rm6 l Z a0 hw [] b4 (2 : Int32) w5 P13 2 (by omega) (by decide) S13.1.2.1 T16.heap n0 S16.2.1) hZ (hw _ (List.mem_of_getElem? (i := 29) rfl)) (hw _ (List.mem_of_getElem? (i := 2) rfl)) (by decide) (by decide)) q18a q18c (g := (mkF m 97 #[.val (.int p1), .val (.int p2), .val (.int p3), .val (.ref b4), .val (.ref b6), .val (.int (1 : Int32)), .val (.int (1 : Int32)), .val (.int (1 : Int32)), .val (.int (1 : Int32)), .val (.int (1 : Int32)), .unset, .unset] [(.int (2 : Int32)), (.ref b4)])) rfl (by rw [hml]; rfl) (Steps.refl _) (argsL := [(.int (2 : Int32))]) (rest := []) (lenOf pdq_0 rfl) rfl (by show 2 * 0 + _ ≤ _; exact Nat.le_of_eq rfl) (hb hby at_97) (fun _ _ => ⟨rfl, rfl, (by decide : 3 + 0 ≤ _), (by decide : 9 + 0 ≤ _)⟩)
  dsimp only [Pt.U, Pt.locs, Pt.cells, Pt.slots] at X18 l18 y18 z18 st18 hQ18
  subst l18 y18 z18
  obtain ⟨rfl, N18q, e18⟩ := hQ18
  have S18 : LS Z T18.heap n0 b4 w5 b6 P13 M13 := by rw [e18]; exact S16
  obtain ⟨cl_18, Ar_18, Sz_18, H_18⟩ := S18.2.2.1
  have hin103 : ¬ ((2 : Int32) < 0 ∨ cl_18.slots.size ≤ ((2 : Int32)).toNatClampNeg) := by rw [Sz_18]; decide
  have hat103 : cl_18.slots[((2 : Int32)).toNatClampNeg]? = some (.int (Int32.ofNat (own_get M13 2))) := by rw [show ((2 : Int32)).toNatClampNeg = 2 from by decide]; exact H_18 2 (by omega)
  have N18 := Fr.app N16 N18q
  obtain ⟨cq20, kq20, q20a, q20b, q20c⟩ := isOf hZ rfl S18.2.1.2.2.2.1
  obtain ⟨_, _, ⟨T20, L20, k20, n20⟩, -, X20, ⟨Lc20, hQ20, l20, y20, z20⟩, st20⟩ := X18.virtualBack hx (y := (⟨"org/refold/RootClasses", "find", "(I)I"⟩ : MethodName)) (z := (⟨"org/refold/RootClasses", "find", "(I)I"⟩ : MethodName)) hown (mvT hZ (hw _ (List.mem_of_getElem? (i := 34) rfl))) (mvT hZ (hw _ (List.mem_of_getElem? (i := 26) rfl))) (notFace_of_selects (args := #[]) (mvT hZ (hw _ (List.mem_of_getElem? (i := 28) rfl)))) (mvT hZ (hw _ (List.mem_of_getElem? (i := 28) rfl))) (mvT hZ (hw _ (List.mem_of_getElem? (i := 27) rfl))) (by decide) (backOf (W := 0) (rm6 l Z a0 hw [] b4 (3 : Int32) w5 P13 3 (by omega) (by decide) S13.1.2.1 T18.heap n0 S18.2.1) hZ (hw _ (List.mem_of_getElem? (i := 29) rfl)) (hw _ (List.mem_of_getElem? (i := 2) rfl)) (by decide) (by decide)) q20a q20c (g := (mkF m 116 #[.val (.int p1), .val (.int p2), .val (.int p3), .val (.ref b4), .val (.ref b6), .val (.int (1 : Int32)), .val (.int (1 : Int32)), .val (.int (1 : Int32)), .val (.int (1 : Int32)), .val (.int (1 : Int32)), .val (.int (1 : Int32)), .unset] [(.int (3 : Int32)), (.ref b4)])) rfl (by rw [hml]; rfl) (Steps.refl _) (argsL := [(.int (3 : Int32))]) (rest := []) (lenOf pdq_0 rfl) rfl (by show 2 * 0 + _ ≤ _; exact Nat.le_of_eq rfl) (hb hby at_116) (fun _ _ => ⟨rfl, rfl, (by decide : 3 + 0 ≤ _), (by decide : 9 + 0 ≤ _)⟩)
  dsimp only [Pt.U, Pt.locs, Pt.cells, Pt.slots] at X20 l20 y20 z20 st20 hQ20
  subst l20 y20 z20
  obtain ⟨rfl, N20q, e20⟩ := hQ20
  have S20 : LS Z T20.heap n0 b4 w5 b6 P13 M13 := by rw [e20]; exact S18
  obtain ⟨cl_20, Ar_20, Sz_20, H_20⟩ := S20.2.2.1
  have hin122 : ¬ ((3 : Int32) < 0 ∨ cl_20.slots.size ≤ ((3 : Int32)).toNatClampNeg) := by rw [Sz_20]; decide
  have hat122 : cl_20.slots[((3 : Int32)).toNatClampNeg]? = some (.int (Int32.ofNat (own_get M13 3))) := by rw [show ((3 : Int32)).toNatClampNeg = 3 from by decide]; exact H_20 3 (by omega)
  have N20 := Fr.app N18 N20q
  obtain ⟨fs, hr, hrun, hended, hW, hsame⟩ := X20.leave (v := some (.int (1 : Int32))) (fun h => by rw [Bd.returns] at h; cases h)
  refine ⟨_, _, pre0 _ ?_, hrun, hended, _, _, rfl, ?_, ⟨_, rfl⟩, hW, hsame.mono (by decide) (by decide)⟩
  · show Steps p.tables e below (s₁.setTop (mkF m 0 #[.val (.int p1), .val (.int p2), .val (.int p3), .unset, .unset, .unset, .unset, .unset, .unset, .unset, .unset, .unset] [])) _
    refine st4 _ ?_
    show Steps p.tables e below (T4.setTop (mkF m 3 #[.val (.int p1), .val (.int p2), .val (.int p3), .unset, .unset, .unset, .unset, .unset, .unset, .unset, .unset, .unset] [(.ref b4)])) _
    refine XS.dup X4.here hx rfl (hb hby at_3) rfl rfl ?_
    show Steps p.tables e below (T4.setTop (mkF m 4 #[.val (.int p1), .val (.int p2), .val (.int p3), .unset, .unset, .unset, .unset, .unset, .unset, .unset, .unset, .unset] [(.ref b4), (.ref b4)])) _
    refine XS.iconst X4.here hx rfl (hb hby at_4) ?_
    show Steps p.tables e below (T4.setTop (mkF m 5 #[.val (.int p1), .val (.int p2), .val (.int p3), .unset, .unset, .unset, .unset, .unset, .unset, .unset, .unset, .unset] [(.int (4 : Int32)), (.ref b4), (.ref b4)])) _
    refine st5.trans ?_
    show Steps p.tables e below (T5.setTop (mkF m 8 #[.val (.int p1), .val (.int p2), .val (.int p3), .unset, .unset, .unset, .unset, .unset, .unset, .unset, .unset, .unset] [(.ref b4)])) _
    refine XS.astoreN X5.here hx rfl (hb hby at_8) rfl rfl (l' := #[.val (.int p1), .val (.int p2), .val (.int p3), .val (.ref b4), .unset, .unset, .unset, .unset, .unset, .unset, .unset, .unset]) rfl ?_
    show Steps p.tables e below (T5.setTop (mkF m 9 #[.val (.int p1), .val (.int p2), .val (.int p3), .val (.ref b4), .unset, .unset, .unset, .unset, .unset, .unset, .unset, .unset] [])) _
    refine XS.iconst X5.here hx rfl (hb hby at_9) ?_
    show Steps p.tables e below (T5.setTop (mkF m 10 #[.val (.int p1), .val (.int p2), .val (.int p3), .val (.ref b4), .unset, .unset, .unset, .unset, .unset, .unset, .unset, .unset] [(.int (4 : Int32))])) _
    refine st6 _ ?_
    show Steps p.tables e below (T6.setTop (mkF m 12 #[.val (.int p1), .val (.int p2), .val (.int p3), .val (.ref b4), .unset, .unset, .unset, .unset, .unset, .unset, .unset, .unset] [(.ref b6)])) _
    refine XS.dup X6.here hx rfl (hb hby at_12) rfl rfl ?_
    show Steps p.tables e below (T6.setTop (mkF m 13 #[.val (.int p1), .val (.int p2), .val (.int p3), .val (.ref b4), .unset, .unset, .unset, .unset, .unset, .unset, .unset, .unset] [(.ref b6), (.ref b6)])) _
    refine XS.iconst X6.here hx rfl (hb hby at_13) ?_
    show Steps p.tables e below (T6.setTop (mkF m 14 #[.val (.int p1), .val (.int p2), .val (.int p3), .val (.ref b4), .unset, .unset, .unset, .unset, .unset, .unset, .unset, .unset] [(.int (0 : Int32)), (.ref b6), (.ref b6)])) _
    refine XS.iconst X6.here hx rfl (hb hby at_14) ?_
    show Steps p.tables e below (T6.setTop (mkF m 15 #[.val (.int p1), .val (.int p2), .val (.int p3), .val (.ref b4), .unset, .unset, .unset, .unset, .unset, .unset, .unset, .unset] [(.int (0 : Int32)), (.int (0 : Int32)), (.ref b6), (.ref b6)])) _
    refine st7 _ ?_
    show Steps p.tables e below (T7.setTop (mkF m 16 #[.val (.int p1), .val (.int p2), .val (.int p3), .val (.ref b4), .unset, .unset, .unset, .unset, .unset, .unset, .unset, .unset] [(.ref b6)])) _
    refine XS.dup X7.here hx rfl (hb hby at_16) rfl rfl ?_
    show Steps p.tables e below (T7.setTop (mkF m 17 #[.val (.int p1), .val (.int p2), .val (.int p3), .val (.ref b4), .unset, .unset, .unset, .unset, .unset, .unset, .unset, .unset] [(.ref b6), (.ref b6)])) _
    refine XS.iconst X7.here hx rfl (hb hby at_17) ?_
    show Steps p.tables e below (T7.setTop (mkF m 18 #[.val (.int p1), .val (.int p2), .val (.int p3), .val (.ref b4), .unset, .unset, .unset, .unset, .unset, .unset, .unset, .unset] [(.int (1 : Int32)), (.ref b6), (.ref b6)])) _
    refine XS.iconst X7.here hx rfl (hb hby at_18) ?_
    show Steps p.tables e below (T7.setTop (mkF m 19 #[.val (.int p1), .val (.int p2), .val (.int p3), .val (.ref b4), .unset, .unset, .unset, .unset, .unset, .unset, .unset, .unset] [(.int (1 : Int32)), (.int (1 : Int32)), (.ref b6), (.ref b6)])) _
    refine st8 _ ?_
    show Steps p.tables e below (T8.setTop (mkF m 20 #[.val (.int p1), .val (.int p2), .val (.int p3), .val (.ref b4), .unset, .unset, .unset, .unset, .unset, .unset, .unset, .unset] [(.ref b6)])) _
    refine XS.dup X8.here hx rfl (hb hby at_20) rfl rfl ?_
    show Steps p.tables e below (T8.setTop (mkF m 21 #[.val (.int p1), .val (.int p2), .val (.int p3), .val (.ref b4), .unset, .unset, .unset, .unset, .unset, .unset, .unset, .unset] [(.ref b6), (.ref b6)])) _
    refine XS.iconst X8.here hx rfl (hb hby at_21) ?_
    show Steps p.tables e below (T8.setTop (mkF m 22 #[.val (.int p1), .val (.int p2), .val (.int p3), .val (.ref b4), .unset, .unset, .unset, .unset, .unset, .unset, .unset, .unset] [(.int (2 : Int32)), (.ref b6), (.ref b6)])) _
    refine XS.iconst X8.here hx rfl (hb hby at_22) ?_
    show Steps p.tables e below (T8.setTop (mkF m 23 #[.val (.int p1), .val (.int p2), .val (.int p3), .val (.ref b4), .unset, .unset, .unset, .unset, .unset, .unset, .unset, .unset] [(.int (2 : Int32)), (.int (2 : Int32)), (.ref b6), (.ref b6)])) _
    refine st9 _ ?_
    show Steps p.tables e below (T9.setTop (mkF m 24 #[.val (.int p1), .val (.int p2), .val (.int p3), .val (.ref b4), .unset, .unset, .unset, .unset, .unset, .unset, .unset, .unset] [(.ref b6)])) _
    refine XS.dup X9.here hx rfl (hb hby at_24) rfl rfl ?_
    show Steps p.tables e below (T9.setTop (mkF m 25 #[.val (.int p1), .val (.int p2), .val (.int p3), .val (.ref b4), .unset, .unset, .unset, .unset, .unset, .unset, .unset, .unset] [(.ref b6), (.ref b6)])) _
    refine XS.iconst X9.here hx rfl (hb hby at_25) ?_
    show Steps p.tables e below (T9.setTop (mkF m 26 #[.val (.int p1), .val (.int p2), .val (.int p3), .val (.ref b4), .unset, .unset, .unset, .unset, .unset, .unset, .unset, .unset] [(.int (3 : Int32)), (.ref b6), (.ref b6)])) _
    refine XS.iconst X9.here hx rfl (hb hby at_26) ?_
    show Steps p.tables e below (T9.setTop (mkF m 27 #[.val (.int p1), .val (.int p2), .val (.int p3), .val (.ref b4), .unset, .unset, .unset, .unset, .unset, .unset, .unset, .unset] [(.int (3 : Int32)), (.int (3 : Int32)), (.ref b6), (.ref b6)])) _
    refine st10 _ ?_
    show Steps p.tables e below (T10.setTop (mkF m 28 #[.val (.int p1), .val (.int p2), .val (.int p3), .val (.ref b4), .unset, .unset, .unset, .unset, .unset, .unset, .unset, .unset] [(.ref b6)])) _
    refine XS.astore X10.here hx rfl (hb hby at_28) rfl rfl (l' := #[.val (.int p1), .val (.int p2), .val (.int p3), .val (.ref b4), .val (.ref b6), .unset, .unset, .unset, .unset, .unset, .unset, .unset]) rfl ?_
    show Steps p.tables e below (T10.setTop (mkF m 30 #[.val (.int p1), .val (.int p2), .val (.int p3), .val (.ref b4), .val (.ref b6), .unset, .unset, .unset, .unset, .unset, .unset, .unset] [])) _
    refine XS.aloadN X10.here hx rfl (hb hby at_30) rfl rfl ?_
    show Steps p.tables e below (T10.setTop (mkF m 31 #[.val (.int p1), .val (.int p2), .val (.int p3), .val (.ref b4), .val (.ref b6), .unset, .unset, .unset, .unset, .unset, .unset, .unset] [(.ref b4)])) _
    refine XS.aload X10.here hx rfl (hb hby at_31) rfl rfl ?_
    show Steps p.tables e below (T10.setTop (mkF m 33 #[.val (.int p1), .val (.int p2), .val (.int p3), .val (.ref b4), .val (.ref b6), .unset, .unset, .unset, .unset, .unset, .unset, .unset] [(.ref b6), (.ref b4)])) _
    refine XS.iloadN X10.here hx rfl (hb hby at_33) rfl ?_
    show Steps p.tables e below (T10.setTop (mkF m 34 #[.val (.int p1), .val (.int p2), .val (.int p3), .val (.ref b4), .val (.ref b6), .unset, .unset, .unset, .unset, .unset, .unset, .unset] [(.int p1), (.ref b6), (.ref b4)])) _
    refine st11 _ ?_
    show Steps p.tables e below (T11.setTop (mkF m 37 #[.val (.int p1), .val (.int p2), .val (.int p3), .val (.ref b4), .val (.ref b6), .unset, .unset, .unset, .unset, .unset, .unset, .unset] [(.int (1 : Int32))])) _
    refine XS.istore X11.here hx rfl (hb hby at_37) rfl (l' := #[.val (.int p1), .val (.int p2), .val (.int p3), .val (.ref b4), .val (.ref b6), .val (.int (1 : Int32)), .unset, .unset, .unset, .unset, .unset, .unset]) rfl ?_
    show Steps p.tables e below (T11.setTop (mkF m 39 #[.val (.int p1), .val (.int p2), .val (.int p3), .val (.ref b4), .val (.ref b6), .val (.int (1 : Int32)), .unset, .unset, .unset, .unset, .unset, .unset] [])) _
    refine XS.aloadN X11.here hx rfl (hb hby at_39) rfl rfl ?_
    show Steps p.tables e below (T11.setTop (mkF m 40 #[.val (.int p1), .val (.int p2), .val (.int p3), .val (.ref b4), .val (.ref b6), .val (.int (1 : Int32)), .unset, .unset, .unset, .unset, .unset, .unset] [(.ref b4)])) _
    refine XS.aload X11.here hx rfl (hb hby at_40) rfl rfl ?_
    show Steps p.tables e below (T11.setTop (mkF m 42 #[.val (.int p1), .val (.int p2), .val (.int p3), .val (.ref b4), .val (.ref b6), .val (.int (1 : Int32)), .unset, .unset, .unset, .unset, .unset, .unset] [(.ref b6), (.ref b4)])) _
    refine XS.iloadN X11.here hx rfl (hb hby at_42) rfl ?_
    show Steps p.tables e below (T11.setTop (mkF m 43 #[.val (.int p1), .val (.int p2), .val (.int p3), .val (.ref b4), .val (.ref b6), .val (.int (1 : Int32)), .unset, .unset, .unset, .unset, .unset, .unset] [(.int p2), (.ref b6), (.ref b4)])) _
    refine st12 _ ?_
    show Steps p.tables e below (T12.setTop (mkF m 46 #[.val (.int p1), .val (.int p2), .val (.int p3), .val (.ref b4), .val (.ref b6), .val (.int (1 : Int32)), .unset, .unset, .unset, .unset, .unset, .unset] [(.int (1 : Int32))])) _
    refine XS.istore X12.here hx rfl (hb hby at_46) rfl (l' := #[.val (.int p1), .val (.int p2), .val (.int p3), .val (.ref b4), .val (.ref b6), .val (.int (1 : Int32)), .val (.int (1 : Int32)), .unset, .unset, .unset, .unset, .unset]) rfl ?_
    show Steps p.tables e below (T12.setTop (mkF m 48 #[.val (.int p1), .val (.int p2), .val (.int p3), .val (.ref b4), .val (.ref b6), .val (.int (1 : Int32)), .val (.int (1 : Int32)), .unset, .unset, .unset, .unset, .unset] [])) _
    refine XS.aloadN X12.here hx rfl (hb hby at_48) rfl rfl ?_
    show Steps p.tables e below (T12.setTop (mkF m 49 #[.val (.int p1), .val (.int p2), .val (.int p3), .val (.ref b4), .val (.ref b6), .val (.int (1 : Int32)), .val (.int (1 : Int32)), .unset, .unset, .unset, .unset, .unset] [(.ref b4)])) _
    refine XS.aload X12.here hx rfl (hb hby at_49) rfl rfl ?_
    show Steps p.tables e below (T12.setTop (mkF m 51 #[.val (.int p1), .val (.int p2), .val (.int p3), .val (.ref b4), .val (.ref b6), .val (.int (1 : Int32)), .val (.int (1 : Int32)), .unset, .unset, .unset, .unset, .unset] [(.ref b6), (.ref b4)])) _
    refine XS.iloadN X12.here hx rfl (hb hby at_51) rfl ?_
    show Steps p.tables e below (T12.setTop (mkF m 52 #[.val (.int p1), .val (.int p2), .val (.int p3), .val (.ref b4), .val (.ref b6), .val (.int (1 : Int32)), .val (.int (1 : Int32)), .unset, .unset, .unset, .unset, .unset] [(.int p3), (.ref b6), (.ref b4)])) _
    refine st13 _ ?_
    show Steps p.tables e below (T13.setTop (mkF m 55 #[.val (.int p1), .val (.int p2), .val (.int p3), .val (.ref b4), .val (.ref b6), .val (.int (1 : Int32)), .val (.int (1 : Int32)), .unset, .unset, .unset, .unset, .unset] [(.int (1 : Int32))])) _
    refine XS.istore X13.here hx rfl (hb hby at_55) rfl (l' := #[.val (.int p1), .val (.int p2), .val (.int p3), .val (.ref b4), .val (.ref b6), .val (.int (1 : Int32)), .val (.int (1 : Int32)), .val (.int (1 : Int32)), .unset, .unset, .unset, .unset]) rfl ?_
    show Steps p.tables e below (T13.setTop (mkF m 57 #[.val (.int p1), .val (.int p2), .val (.int p3), .val (.ref b4), .val (.ref b6), .val (.int (1 : Int32)), .val (.int (1 : Int32)), .val (.int (1 : Int32)), .unset, .unset, .unset, .unset] [])) _
    refine XS.aloadN X13.here hx rfl (hb hby at_57) rfl rfl ?_
    show Steps p.tables e below (T13.setTop (mkF m 58 #[.val (.int p1), .val (.int p2), .val (.int p3), .val (.ref b4), .val (.ref b6), .val (.int (1 : Int32)), .val (.int (1 : Int32)), .val (.int (1 : Int32)), .unset, .unset, .unset, .unset] [(.ref b4)])) _
    refine XS.iconst X13.here hx rfl (hb hby at_58) ?_
    show Steps p.tables e below (T13.setTop (mkF m 59 #[.val (.int p1), .val (.int p2), .val (.int p3), .val (.ref b4), .val (.ref b6), .val (.int (1 : Int32)), .val (.int (1 : Int32)), .val (.int (1 : Int32)), .unset, .unset, .unset, .unset] [(.int (0 : Int32)), (.ref b4)])) _
    refine st14.trans ?_
    show Steps p.tables e below (T14.setTop (mkF m 62 #[.val (.int p1), .val (.int p2), .val (.int p3), .val (.ref b4), .val (.ref b6), .val (.int (1 : Int32)), .val (.int (1 : Int32)), .val (.int (1 : Int32)), .unset, .unset, .unset, .unset] [(.int (Int32.ofNat (own_fnd P13 0)))])) _
    refine XS.aload X14.here hx rfl (hb hby at_62) rfl rfl ?_
    show Steps p.tables e below (T14.setTop (mkF m 64 #[.val (.int p1), .val (.int p2), .val (.int p3), .val (.ref b4), .val (.ref b6), .val (.int (1 : Int32)), .val (.int (1 : Int32)), .val (.int (1 : Int32)), .unset, .unset, .unset, .unset] [(.ref b6), (.int (Int32.ofNat (own_fnd P13 0)))])) _
    refine XS.iconst X14.here hx rfl (hb hby at_64) ?_
    show Steps p.tables e below (T14.setTop (mkF m 65 #[.val (.int p1), .val (.int p2), .val (.int p3), .val (.ref b4), .val (.ref b6), .val (.int (1 : Int32)), .val (.int (1 : Int32)), .val (.int (1 : Int32)), .unset, .unset, .unset, .unset] [(.int (0 : Int32)), (.ref b6), (.int (Int32.ofNat (own_fnd P13 0)))])) _
    refine X14.iaload hx (j := (0 : Int32)) (v := (.int (Int32.ofNat (own_get M13 0)))) Ar_14.1 (State.isArrayOf_alike hZ.alike Ar_14.2.1) Ar_14.2.2 hin65 hat65 (g := (mkF m 65 #[.val (.int p1), .val (.int p2), .val (.int p3), .val (.ref b4), .val (.ref b6), .val (.int (1 : Int32)), .val (.int (1 : Int32)), .val (.int (1 : Int32)), .unset, .unset, .unset, .unset] [(.int (0 : Int32)), (.ref b6), (.int (Int32.ofNat (own_fnd P13 0)))])) rfl rfl (hb hby at_65) _ ?_
    show Steps p.tables e below (T14.setTop (mkF m 66 #[.val (.int p1), .val (.int p2), .val (.int p3), .val (.ref b4), .val (.ref b6), .val (.int (1 : Int32)), .val (.int (1 : Int32)), .val (.int (1 : Int32)), .unset, .unset, .unset, .unset] [(.int (Int32.ofNat (own_get M13 0))), (.int (Int32.ofNat (own_fnd P13 0)))])) _
    refine XS.icmpNo X14.here hx rfl (hb hby at_66) rfl (teq (congrArg Int32.ofNat (S13.1.at (by omega)).symm : (Int32.ofNat (own_fnd P13 0)) = (Int32.ofNat (own_get M13 0)))).2 ?_
    show Steps p.tables e below (T14.setTop (mkF m 69 #[.val (.int p1), .val (.int p2), .val (.int p3), .val (.ref b4), .val (.ref b6), .val (.int (1 : Int32)), .val (.int (1 : Int32)), .val (.int (1 : Int32)), .unset, .unset, .unset, .unset] [])) _
    refine XS.iconst X14.here hx rfl (hb hby at_69) ?_
    show Steps p.tables e below (T14.setTop (mkF m 70 #[.val (.int p1), .val (.int p2), .val (.int p3), .val (.ref b4), .val (.ref b6), .val (.int (1 : Int32)), .val (.int (1 : Int32)), .val (.int (1 : Int32)), .unset, .unset, .unset, .unset] [(.int (1 : Int32))])) _
    refine XS.goto X14.here hx rfl (pc0 := 70) (pc' := 74) rfl (hb hby at_70) (by decide) (by decide) ?_
    show Steps p.tables e below (T14.setTop (mkF m 74 #[.val (.int p1), .val (.int p2), .val (.int p3), .val (.ref b4), .val (.ref b6), .val (.int (1 : Int32)), .val (.int (1 : Int32)), .val (.int (1 : Int32)), .unset, .unset, .unset, .unset] [(.int (1 : Int32))])) _
    refine XS.istore X14.here hx rfl (hb hby at_74) rfl (l' := #[.val (.int p1), .val (.int p2), .val (.int p3), .val (.ref b4), .val (.ref b6), .val (.int (1 : Int32)), .val (.int (1 : Int32)), .val (.int (1 : Int32)), .val (.int (1 : Int32)), .unset, .unset, .unset]) rfl ?_
    show Steps p.tables e below (T14.setTop (mkF m 76 #[.val (.int p1), .val (.int p2), .val (.int p3), .val (.ref b4), .val (.ref b6), .val (.int (1 : Int32)), .val (.int (1 : Int32)), .val (.int (1 : Int32)), .val (.int (1 : Int32)), .unset, .unset, .unset] [])) _
    refine XS.aloadN X14.here hx rfl (hb hby at_76) rfl rfl ?_
    show Steps p.tables e below (T14.setTop (mkF m 77 #[.val (.int p1), .val (.int p2), .val (.int p3), .val (.ref b4), .val (.ref b6), .val (.int (1 : Int32)), .val (.int (1 : Int32)), .val (.int (1 : Int32)), .val (.int (1 : Int32)), .unset, .unset, .unset] [(.ref b4)])) _
    refine XS.iconst X14.here hx rfl (hb hby at_77) ?_
    show Steps p.tables e below (T14.setTop (mkF m 78 #[.val (.int p1), .val (.int p2), .val (.int p3), .val (.ref b4), .val (.ref b6), .val (.int (1 : Int32)), .val (.int (1 : Int32)), .val (.int (1 : Int32)), .val (.int (1 : Int32)), .unset, .unset, .unset] [(.int (1 : Int32)), (.ref b4)])) _
    refine st16.trans ?_
    show Steps p.tables e below (T16.setTop (mkF m 81 #[.val (.int p1), .val (.int p2), .val (.int p3), .val (.ref b4), .val (.ref b6), .val (.int (1 : Int32)), .val (.int (1 : Int32)), .val (.int (1 : Int32)), .val (.int (1 : Int32)), .unset, .unset, .unset] [(.int (Int32.ofNat (own_fnd P13 1)))])) _
    refine XS.aload X16.here hx rfl (hb hby at_81) rfl rfl ?_
    show Steps p.tables e below (T16.setTop (mkF m 83 #[.val (.int p1), .val (.int p2), .val (.int p3), .val (.ref b4), .val (.ref b6), .val (.int (1 : Int32)), .val (.int (1 : Int32)), .val (.int (1 : Int32)), .val (.int (1 : Int32)), .unset, .unset, .unset] [(.ref b6), (.int (Int32.ofNat (own_fnd P13 1)))])) _
    refine XS.iconst X16.here hx rfl (hb hby at_83) ?_
    show Steps p.tables e below (T16.setTop (mkF m 84 #[.val (.int p1), .val (.int p2), .val (.int p3), .val (.ref b4), .val (.ref b6), .val (.int (1 : Int32)), .val (.int (1 : Int32)), .val (.int (1 : Int32)), .val (.int (1 : Int32)), .unset, .unset, .unset] [(.int (1 : Int32)), (.ref b6), (.int (Int32.ofNat (own_fnd P13 1)))])) _
    refine X16.iaload hx (j := (1 : Int32)) (v := (.int (Int32.ofNat (own_get M13 1)))) Ar_16.1 (State.isArrayOf_alike hZ.alike Ar_16.2.1) Ar_16.2.2 hin84 hat84 (g := (mkF m 84 #[.val (.int p1), .val (.int p2), .val (.int p3), .val (.ref b4), .val (.ref b6), .val (.int (1 : Int32)), .val (.int (1 : Int32)), .val (.int (1 : Int32)), .val (.int (1 : Int32)), .unset, .unset, .unset] [(.int (1 : Int32)), (.ref b6), (.int (Int32.ofNat (own_fnd P13 1)))])) rfl rfl (hb hby at_84) _ ?_
    show Steps p.tables e below (T16.setTop (mkF m 85 #[.val (.int p1), .val (.int p2), .val (.int p3), .val (.ref b4), .val (.ref b6), .val (.int (1 : Int32)), .val (.int (1 : Int32)), .val (.int (1 : Int32)), .val (.int (1 : Int32)), .unset, .unset, .unset] [(.int (Int32.ofNat (own_get M13 1))), (.int (Int32.ofNat (own_fnd P13 1)))])) _
    refine XS.icmpNo X16.here hx rfl (hb hby at_85) rfl (teq (congrArg Int32.ofNat (S13.1.at (by omega)).symm : (Int32.ofNat (own_fnd P13 1)) = (Int32.ofNat (own_get M13 1)))).2 ?_
    show Steps p.tables e below (T16.setTop (mkF m 88 #[.val (.int p1), .val (.int p2), .val (.int p3), .val (.ref b4), .val (.ref b6), .val (.int (1 : Int32)), .val (.int (1 : Int32)), .val (.int (1 : Int32)), .val (.int (1 : Int32)), .unset, .unset, .unset] [])) _
    refine XS.iconst X16.here hx rfl (hb hby at_88) ?_
    show Steps p.tables e below (T16.setTop (mkF m 89 #[.val (.int p1), .val (.int p2), .val (.int p3), .val (.ref b4), .val (.ref b6), .val (.int (1 : Int32)), .val (.int (1 : Int32)), .val (.int (1 : Int32)), .val (.int (1 : Int32)), .unset, .unset, .unset] [(.int (1 : Int32))])) _
    refine XS.goto X16.here hx rfl (pc0 := 89) (pc' := 93) rfl (hb hby at_89) (by decide) (by decide) ?_
    show Steps p.tables e below (T16.setTop (mkF m 93 #[.val (.int p1), .val (.int p2), .val (.int p3), .val (.ref b4), .val (.ref b6), .val (.int (1 : Int32)), .val (.int (1 : Int32)), .val (.int (1 : Int32)), .val (.int (1 : Int32)), .unset, .unset, .unset] [(.int (1 : Int32))])) _
    refine XS.istore X16.here hx rfl (hb hby at_93) rfl (l' := #[.val (.int p1), .val (.int p2), .val (.int p3), .val (.ref b4), .val (.ref b6), .val (.int (1 : Int32)), .val (.int (1 : Int32)), .val (.int (1 : Int32)), .val (.int (1 : Int32)), .val (.int (1 : Int32)), .unset, .unset]) rfl ?_
    show Steps p.tables e below (T16.setTop (mkF m 95 #[.val (.int p1), .val (.int p2), .val (.int p3), .val (.ref b4), .val (.ref b6), .val (.int (1 : Int32)), .val (.int (1 : Int32)), .val (.int (1 : Int32)), .val (.int (1 : Int32)), .val (.int (1 : Int32)), .unset, .unset] [])) _
    refine XS.aloadN X16.here hx rfl (hb hby at_95) rfl rfl ?_
    show Steps p.tables e below (T16.setTop (mkF m 96 #[.val (.int p1), .val (.int p2), .val (.int p3), .val (.ref b4), .val (.ref b6), .val (.int (1 : Int32)), .val (.int (1 : Int32)), .val (.int (1 : Int32)), .val (.int (1 : Int32)), .val (.int (1 : Int32)), .unset, .unset] [(.ref b4)])) _
    refine XS.iconst X16.here hx rfl (hb hby at_96) ?_
    show Steps p.tables e below (T16.setTop (mkF m 97 #[.val (.int p1), .val (.int p2), .val (.int p3), .val (.ref b4), .val (.ref b6), .val (.int (1 : Int32)), .val (.int (1 : Int32)), .val (.int (1 : Int32)), .val (.int (1 : Int32)), .val (.int (1 : Int32)), .unset, .unset] [(.int (2 : Int32)), (.ref b4)])) _
    refine st18.trans ?_
    show Steps p.tables e below (T18.setTop (mkF m 100 #[.val (.int p1), .val (.int p2), .val (.int p3), .val (.ref b4), .val (.ref b6), .val (.int (1 : Int32)), .val (.int (1 : Int32)), .val (.int (1 : Int32)), .val (.int (1 : Int32)), .val (.int (1 : Int32)), .unset, .unset] [(.int (Int32.ofNat (own_fnd P13 2)))])) _
    refine XS.aload X18.here hx rfl (hb hby at_100) rfl rfl ?_
    show Steps p.tables e below (T18.setTop (mkF m 102 #[.val (.int p1), .val (.int p2), .val (.int p3), .val (.ref b4), .val (.ref b6), .val (.int (1 : Int32)), .val (.int (1 : Int32)), .val (.int (1 : Int32)), .val (.int (1 : Int32)), .val (.int (1 : Int32)), .unset, .unset] [(.ref b6), (.int (Int32.ofNat (own_fnd P13 2)))])) _
    refine XS.iconst X18.here hx rfl (hb hby at_102) ?_
    show Steps p.tables e below (T18.setTop (mkF m 103 #[.val (.int p1), .val (.int p2), .val (.int p3), .val (.ref b4), .val (.ref b6), .val (.int (1 : Int32)), .val (.int (1 : Int32)), .val (.int (1 : Int32)), .val (.int (1 : Int32)), .val (.int (1 : Int32)), .unset, .unset] [(.int (2 : Int32)), (.ref b6), (.int (Int32.ofNat (own_fnd P13 2)))])) _
    refine X18.iaload hx (j := (2 : Int32)) (v := (.int (Int32.ofNat (own_get M13 2)))) Ar_18.1 (State.isArrayOf_alike hZ.alike Ar_18.2.1) Ar_18.2.2 hin103 hat103 (g := (mkF m 103 #[.val (.int p1), .val (.int p2), .val (.int p3), .val (.ref b4), .val (.ref b6), .val (.int (1 : Int32)), .val (.int (1 : Int32)), .val (.int (1 : Int32)), .val (.int (1 : Int32)), .val (.int (1 : Int32)), .unset, .unset] [(.int (2 : Int32)), (.ref b6), (.int (Int32.ofNat (own_fnd P13 2)))])) rfl rfl (hb hby at_103) _ ?_
    show Steps p.tables e below (T18.setTop (mkF m 104 #[.val (.int p1), .val (.int p2), .val (.int p3), .val (.ref b4), .val (.ref b6), .val (.int (1 : Int32)), .val (.int (1 : Int32)), .val (.int (1 : Int32)), .val (.int (1 : Int32)), .val (.int (1 : Int32)), .unset, .unset] [(.int (Int32.ofNat (own_get M13 2))), (.int (Int32.ofNat (own_fnd P13 2)))])) _
    refine XS.icmpNo X18.here hx rfl (hb hby at_104) rfl (teq (congrArg Int32.ofNat (S13.1.at (by omega)).symm : (Int32.ofNat (own_fnd P13 2)) = (Int32.ofNat (own_get M13 2)))).2 ?_
    show Steps p.tables e below (T18.setTop (mkF m 107 #[.val (.int p1), .val (.int p2), .val (.int p3), .val (.ref b4), .val (.ref b6), .val (.int (1 : Int32)), .val (.int (1 : Int32)), .val (.int (1 : Int32)), .val (.int (1 : Int32)), .val (.int (1 : Int32)), .unset, .unset] [])) _
    refine XS.iconst X18.here hx rfl (hb hby at_107) ?_
    show Steps p.tables e below (T18.setTop (mkF m 108 #[.val (.int p1), .val (.int p2), .val (.int p3), .val (.ref b4), .val (.ref b6), .val (.int (1 : Int32)), .val (.int (1 : Int32)), .val (.int (1 : Int32)), .val (.int (1 : Int32)), .val (.int (1 : Int32)), .unset, .unset] [(.int (1 : Int32))])) _
    refine XS.goto X18.here hx rfl (pc0 := 108) (pc' := 112) rfl (hb hby at_108) (by decide) (by decide) ?_
    show Steps p.tables e below (T18.setTop (mkF m 112 #[.val (.int p1), .val (.int p2), .val (.int p3), .val (.ref b4), .val (.ref b6), .val (.int (1 : Int32)), .val (.int (1 : Int32)), .val (.int (1 : Int32)), .val (.int (1 : Int32)), .val (.int (1 : Int32)), .unset, .unset] [(.int (1 : Int32))])) _
    refine XS.istore X18.here hx rfl (hb hby at_112) rfl (l' := #[.val (.int p1), .val (.int p2), .val (.int p3), .val (.ref b4), .val (.ref b6), .val (.int (1 : Int32)), .val (.int (1 : Int32)), .val (.int (1 : Int32)), .val (.int (1 : Int32)), .val (.int (1 : Int32)), .val (.int (1 : Int32)), .unset]) rfl ?_
    show Steps p.tables e below (T18.setTop (mkF m 114 #[.val (.int p1), .val (.int p2), .val (.int p3), .val (.ref b4), .val (.ref b6), .val (.int (1 : Int32)), .val (.int (1 : Int32)), .val (.int (1 : Int32)), .val (.int (1 : Int32)), .val (.int (1 : Int32)), .val (.int (1 : Int32)), .unset] [])) _
    refine XS.aloadN X18.here hx rfl (hb hby at_114) rfl rfl ?_
    show Steps p.tables e below (T18.setTop (mkF m 115 #[.val (.int p1), .val (.int p2), .val (.int p3), .val (.ref b4), .val (.ref b6), .val (.int (1 : Int32)), .val (.int (1 : Int32)), .val (.int (1 : Int32)), .val (.int (1 : Int32)), .val (.int (1 : Int32)), .val (.int (1 : Int32)), .unset] [(.ref b4)])) _
    refine XS.iconst X18.here hx rfl (hb hby at_115) ?_
    show Steps p.tables e below (T18.setTop (mkF m 116 #[.val (.int p1), .val (.int p2), .val (.int p3), .val (.ref b4), .val (.ref b6), .val (.int (1 : Int32)), .val (.int (1 : Int32)), .val (.int (1 : Int32)), .val (.int (1 : Int32)), .val (.int (1 : Int32)), .val (.int (1 : Int32)), .unset] [(.int (3 : Int32)), (.ref b4)])) _
    refine st20.trans ?_
    show Steps p.tables e below (T20.setTop (mkF m 119 #[.val (.int p1), .val (.int p2), .val (.int p3), .val (.ref b4), .val (.ref b6), .val (.int (1 : Int32)), .val (.int (1 : Int32)), .val (.int (1 : Int32)), .val (.int (1 : Int32)), .val (.int (1 : Int32)), .val (.int (1 : Int32)), .unset] [(.int (Int32.ofNat (own_fnd P13 3)))])) _
    refine XS.aload X20.here hx rfl (hb hby at_119) rfl rfl ?_
    show Steps p.tables e below (T20.setTop (mkF m 121 #[.val (.int p1), .val (.int p2), .val (.int p3), .val (.ref b4), .val (.ref b6), .val (.int (1 : Int32)), .val (.int (1 : Int32)), .val (.int (1 : Int32)), .val (.int (1 : Int32)), .val (.int (1 : Int32)), .val (.int (1 : Int32)), .unset] [(.ref b6), (.int (Int32.ofNat (own_fnd P13 3)))])) _
    refine XS.iconst X20.here hx rfl (hb hby at_121) ?_
    show Steps p.tables e below (T20.setTop (mkF m 122 #[.val (.int p1), .val (.int p2), .val (.int p3), .val (.ref b4), .val (.ref b6), .val (.int (1 : Int32)), .val (.int (1 : Int32)), .val (.int (1 : Int32)), .val (.int (1 : Int32)), .val (.int (1 : Int32)), .val (.int (1 : Int32)), .unset] [(.int (3 : Int32)), (.ref b6), (.int (Int32.ofNat (own_fnd P13 3)))])) _
    refine X20.iaload hx (j := (3 : Int32)) (v := (.int (Int32.ofNat (own_get M13 3)))) Ar_20.1 (State.isArrayOf_alike hZ.alike Ar_20.2.1) Ar_20.2.2 hin122 hat122 (g := (mkF m 122 #[.val (.int p1), .val (.int p2), .val (.int p3), .val (.ref b4), .val (.ref b6), .val (.int (1 : Int32)), .val (.int (1 : Int32)), .val (.int (1 : Int32)), .val (.int (1 : Int32)), .val (.int (1 : Int32)), .val (.int (1 : Int32)), .unset] [(.int (3 : Int32)), (.ref b6), (.int (Int32.ofNat (own_fnd P13 3)))])) rfl rfl (hb hby at_122) _ ?_
    show Steps p.tables e below (T20.setTop (mkF m 123 #[.val (.int p1), .val (.int p2), .val (.int p3), .val (.ref b4), .val (.ref b6), .val (.int (1 : Int32)), .val (.int (1 : Int32)), .val (.int (1 : Int32)), .val (.int (1 : Int32)), .val (.int (1 : Int32)), .val (.int (1 : Int32)), .unset] [(.int (Int32.ofNat (own_get M13 3))), (.int (Int32.ofNat (own_fnd P13 3)))])) _
    refine XS.icmpNo X20.here hx rfl (hb hby at_123) rfl (teq (congrArg Int32.ofNat (S13.1.at (by omega)).symm : (Int32.ofNat (own_fnd P13 3)) = (Int32.ofNat (own_get M13 3)))).2 ?_
    show Steps p.tables e below (T20.setTop (mkF m 126 #[.val (.int p1), .val (.int p2), .val (.int p3), .val (.ref b4), .val (.ref b6), .val (.int (1 : Int32)), .val (.int (1 : Int32)), .val (.int (1 : Int32)), .val (.int (1 : Int32)), .val (.int (1 : Int32)), .val (.int (1 : Int32)), .unset] [])) _
    refine XS.iconst X20.here hx rfl (hb hby at_126) ?_
    show Steps p.tables e below (T20.setTop (mkF m 127 #[.val (.int p1), .val (.int p2), .val (.int p3), .val (.ref b4), .val (.ref b6), .val (.int (1 : Int32)), .val (.int (1 : Int32)), .val (.int (1 : Int32)), .val (.int (1 : Int32)), .val (.int (1 : Int32)), .val (.int (1 : Int32)), .unset] [(.int (1 : Int32))])) _
    refine XS.goto X20.here hx rfl (pc0 := 127) (pc' := 131) rfl (hb hby at_127) (by decide) (by decide) ?_
    show Steps p.tables e below (T20.setTop (mkF m 131 #[.val (.int p1), .val (.int p2), .val (.int p3), .val (.ref b4), .val (.ref b6), .val (.int (1 : Int32)), .val (.int (1 : Int32)), .val (.int (1 : Int32)), .val (.int (1 : Int32)), .val (.int (1 : Int32)), .val (.int (1 : Int32)), .unset] [(.int (1 : Int32))])) _
    refine XS.istore X20.here hx rfl (hb hby at_131) rfl (l' := #[.val (.int p1), .val (.int p2), .val (.int p3), .val (.ref b4), .val (.ref b6), .val (.int (1 : Int32)), .val (.int (1 : Int32)), .val (.int (1 : Int32)), .val (.int (1 : Int32)), .val (.int (1 : Int32)), .val (.int (1 : Int32)), .val (.int (1 : Int32))]) rfl ?_
    show Steps p.tables e below (T20.setTop (mkF m 133 #[.val (.int p1), .val (.int p2), .val (.int p3), .val (.ref b4), .val (.ref b6), .val (.int (1 : Int32)), .val (.int (1 : Int32)), .val (.int (1 : Int32)), .val (.int (1 : Int32)), .val (.int (1 : Int32)), .val (.int (1 : Int32)), .val (.int (1 : Int32))] [])) _
    refine XS.iload X20.here hx rfl (hb hby at_133) rfl ?_
    show Steps p.tables e below (T20.setTop (mkF m 135 #[.val (.int p1), .val (.int p2), .val (.int p3), .val (.ref b4), .val (.ref b6), .val (.int (1 : Int32)), .val (.int (1 : Int32)), .val (.int (1 : Int32)), .val (.int (1 : Int32)), .val (.int (1 : Int32)), .val (.int (1 : Int32)), .val (.int (1 : Int32))] [(.int (1 : Int32))])) _
    refine XS.ifNo X20.here hx rfl (hb hby at_135) rfl ((if0 _ _).trans (feq (by decide : ¬ ((1 : Int32) = (0 : Int32)))).1) ?_
    show Steps p.tables e below (T20.setTop (mkF m 138 #[.val (.int p1), .val (.int p2), .val (.int p3), .val (.ref b4), .val (.ref b6), .val (.int (1 : Int32)), .val (.int (1 : Int32)), .val (.int (1 : Int32)), .val (.int (1 : Int32)), .val (.int (1 : Int32)), .val (.int (1 : Int32)), .val (.int (1 : Int32))] [])) _
    refine XS.iload X20.here hx rfl (hb hby at_138) rfl ?_
    show Steps p.tables e below (T20.setTop (mkF m 140 #[.val (.int p1), .val (.int p2), .val (.int p3), .val (.ref b4), .val (.ref b6), .val (.int (1 : Int32)), .val (.int (1 : Int32)), .val (.int (1 : Int32)), .val (.int (1 : Int32)), .val (.int (1 : Int32)), .val (.int (1 : Int32)), .val (.int (1 : Int32))] [(.int (1 : Int32))])) _
    refine XS.ifNo X20.here hx rfl (hb hby at_140) rfl ((if0 _ _).trans (feq (by decide : ¬ ((1 : Int32) = (0 : Int32)))).1) ?_
    show Steps p.tables e below (T20.setTop (mkF m 143 #[.val (.int p1), .val (.int p2), .val (.int p3), .val (.ref b4), .val (.ref b6), .val (.int (1 : Int32)), .val (.int (1 : Int32)), .val (.int (1 : Int32)), .val (.int (1 : Int32)), .val (.int (1 : Int32)), .val (.int (1 : Int32)), .val (.int (1 : Int32))] [])) _
    refine XS.iload X20.here hx rfl (hb hby at_143) rfl ?_
    show Steps p.tables e below (T20.setTop (mkF m 145 #[.val (.int p1), .val (.int p2), .val (.int p3), .val (.ref b4), .val (.ref b6), .val (.int (1 : Int32)), .val (.int (1 : Int32)), .val (.int (1 : Int32)), .val (.int (1 : Int32)), .val (.int (1 : Int32)), .val (.int (1 : Int32)), .val (.int (1 : Int32))] [(.int (1 : Int32))])) _
    refine XS.ifNo X20.here hx rfl (hb hby at_145) rfl ((if0 _ _).trans (feq (by decide : ¬ ((1 : Int32) = (0 : Int32)))).1) ?_
    show Steps p.tables e below (T20.setTop (mkF m 148 #[.val (.int p1), .val (.int p2), .val (.int p3), .val (.ref b4), .val (.ref b6), .val (.int (1 : Int32)), .val (.int (1 : Int32)), .val (.int (1 : Int32)), .val (.int (1 : Int32)), .val (.int (1 : Int32)), .val (.int (1 : Int32)), .val (.int (1 : Int32))] [])) _
    refine XS.iload X20.here hx rfl (hb hby at_148) rfl ?_
    show Steps p.tables e below (T20.setTop (mkF m 150 #[.val (.int p1), .val (.int p2), .val (.int p3), .val (.ref b4), .val (.ref b6), .val (.int (1 : Int32)), .val (.int (1 : Int32)), .val (.int (1 : Int32)), .val (.int (1 : Int32)), .val (.int (1 : Int32)), .val (.int (1 : Int32)), .val (.int (1 : Int32))] [(.int (1 : Int32))])) _
    refine XS.ifNo X20.here hx rfl (hb hby at_150) rfl ((if0 _ _).trans (feq hc150).1) ?_
    show Steps p.tables e below (T20.setTop (mkF m 153 #[.val (.int p1), .val (.int p2), .val (.int p3), .val (.ref b4), .val (.ref b6), .val (.int (1 : Int32)), .val (.int (1 : Int32)), .val (.int (1 : Int32)), .val (.int (1 : Int32)), .val (.int (1 : Int32)), .val (.int (1 : Int32)), .val (.int (1 : Int32))] [])) _
    refine XS.iload X20.here hx rfl (hb hby at_153) rfl ?_
    show Steps p.tables e below (T20.setTop (mkF m 155 #[.val (.int p1), .val (.int p2), .val (.int p3), .val (.ref b4), .val (.ref b6), .val (.int (1 : Int32)), .val (.int (1 : Int32)), .val (.int (1 : Int32)), .val (.int (1 : Int32)), .val (.int (1 : Int32)), .val (.int (1 : Int32)), .val (.int (1 : Int32))] [(.int (1 : Int32))])) _
    refine XS.ifNo X20.here hx rfl (hb hby at_155) rfl ((if0 _ _).trans (feq hc155).1) ?_
    show Steps p.tables e below (T20.setTop (mkF m 158 #[.val (.int p1), .val (.int p2), .val (.int p3), .val (.ref b4), .val (.ref b6), .val (.int (1 : Int32)), .val (.int (1 : Int32)), .val (.int (1 : Int32)), .val (.int (1 : Int32)), .val (.int (1 : Int32)), .val (.int (1 : Int32)), .val (.int (1 : Int32))] [])) _
    refine XS.iload X20.here hx rfl (hb hby at_158) rfl ?_
    show Steps p.tables e below (T20.setTop (mkF m 160 #[.val (.int p1), .val (.int p2), .val (.int p3), .val (.ref b4), .val (.ref b6), .val (.int (1 : Int32)), .val (.int (1 : Int32)), .val (.int (1 : Int32)), .val (.int (1 : Int32)), .val (.int (1 : Int32)), .val (.int (1 : Int32)), .val (.int (1 : Int32))] [(.int (1 : Int32))])) _
    refine XS.ifNo X20.here hx rfl (hb hby at_160) rfl ((if0 _ _).trans (feq hc160).1) ?_
    show Steps p.tables e below (T20.setTop (mkF m 163 #[.val (.int p1), .val (.int p2), .val (.int p3), .val (.ref b4), .val (.ref b6), .val (.int (1 : Int32)), .val (.int (1 : Int32)), .val (.int (1 : Int32)), .val (.int (1 : Int32)), .val (.int (1 : Int32)), .val (.int (1 : Int32)), .val (.int (1 : Int32))] [])) _
    refine XS.iload X20.here hx rfl (hb hby at_163) rfl ?_
    show Steps p.tables e below (T20.setTop (mkF m 165 #[.val (.int p1), .val (.int p2), .val (.int p3), .val (.ref b4), .val (.ref b6), .val (.int (1 : Int32)), .val (.int (1 : Int32)), .val (.int (1 : Int32)), .val (.int (1 : Int32)), .val (.int (1 : Int32)), .val (.int (1 : Int32)), .val (.int (1 : Int32))] [(.int (1 : Int32))])) _
    refine XS.ifNo X20.here hx rfl (hb hby at_165) rfl ((if0 _ _).trans (feq hc165).1) ?_
    show Steps p.tables e below (T20.setTop (mkF m 168 #[.val (.int p1), .val (.int p2), .val (.int p3), .val (.ref b4), .val (.ref b6), .val (.int (1 : Int32)), .val (.int (1 : Int32)), .val (.int (1 : Int32)), .val (.int (1 : Int32)), .val (.int (1 : Int32)), .val (.int (1 : Int32)), .val (.int (1 : Int32))] [])) _
    refine XS.iconst X20.here hx rfl (hb hby at_168) ?_
    show Steps p.tables e below (T20.setTop (mkF m 169 #[.val (.int p1), .val (.int p2), .val (.int p3), .val (.ref b4), .val (.ref b6), .val (.int (1 : Int32)), .val (.int (1 : Int32)), .val (.int (1 : Int32)), .val (.int (1 : Int32)), .val (.int (1 : Int32)), .val (.int (1 : Int32)), .val (.int (1 : Int32))] [(.int (1 : Int32))])) _
    refine XS.goto X20.here hx rfl (pc0 := 169) (pc' := 173) rfl (hb hby at_169) (by decide) (by decide) ?_
    show Steps p.tables e below (T20.setTop (mkF m 173 #[.val (.int p1), .val (.int p2), .val (.int p3), .val (.ref b4), .val (.ref b6), .val (.int (1 : Int32)), .val (.int (1 : Int32)), .val (.int (1 : Int32)), .val (.int (1 : Int32)), .val (.int (1 : Int32)), .val (.int (1 : Int32)), .val (.int (1 : Int32))] [(.int (1 : Int32))])) _
    exact retN X20 hx (t := .boolean) Bd.returns (by simp) (hb hby at_173) hr
  · show Q0 Z  n0 _ T20.heap _
    exact ⟨rfl, N20⟩

set_option maxRecDepth 65536 in
set_option maxHeartbeats 40000000 in
theorem comes_1 {Post : Tables → Env → Array Value → State → Outcome → State → Prop} (hpost : ∀ tb e args s v u, (limb_1_1.after args s (.returned v) u = true ∧ limb_1_2.after args s (.returned v) u = true ∧ True) → FrameEnd s (.returned v) u (Jvm.fieldLocs frame_1_writes args s ++ Jvm.arrayLocs frame_1_arrays args s ++ Jvm.staticLocs frame_1_statics s) 16 128 → Post tb e args s (.returned v) u) :
    ArmFor flags0 classFile x code maxLocals ret World_1 tables_1 room_1 Calls_1 rest_1 Pre_1 Post := by
  intro l hfl _ _ p e ha hc hk s m args below hf hA hF happ hP
  obtain ⟨hcalls, hrest, hpre⟩ := hP
  obtain ⟨-, -, -, hnamed, -, -, -, hat⟩ := (Spec.applies_iff hf).mp happ
  obtain ⟨hg, hn⟩ := and_e (Cond.before_iff.mp (show (Jvm.Cond.and given_1 narrow_1).before args s = true from hpre))
  obtain ⟨g22, g23⟩ := and_e hg
  obtain ⟨g24, g25⟩ := and_e g23
  obtain ⟨g26, g27⟩ := and_e g25
  obtain ⟨w0, w1, w2, rfl⟩ : ∃ w0 w1 w2 : Value, args = #[w0, w1, w2] := by
    have hs : args.size = 3 := by simpa [Cond.value, given_1] using g22
    obtain ⟨L⟩ := args
    match L, hs with
    | [w0, w1, w2], _ => exact ⟨w0, w1, w2, rfl⟩
  have hw := fun d (hd : d ∈ tables_1) => atoms_spec (ws := Jvm.Cond.code x code maxLocals ret :: tables_1) hat d (List.mem_cons_of_mem _ hd)
  have hfit : Fit s := fun {y c} hc i hi => by
    obtain ⟨ha, rfl⟩ := Array.getElem?_eq_some_iff.mp hc
    have q := List.all_eq_true.mp ((Array.all_eq_true_iff_forall_mem.mp hF) _ (Array.getElem_mem ha)) i (List.mem_range.mpr hi)
    simpa [Array.getElem?_eq_getElem hi] using q
  obtain ⟨i0, ei0⟩ := is_v g24
  obtain rfl : w0 = (.int i0) := Option.some.inj ei0
  obtain ⟨i1, ei1⟩ := is_v g26
  obtain rfl : w1 = (.int i1) := Option.some.inj ei1
  obtain ⟨i2, ei2⟩ := is_v g27
  obtain rfl : w2 = (.int i2) := Option.some.inj ei2
  obtain ⟨n, o, h1, h2, h3, _, L, rfl, ⟨rfl, N⟩, hq⟩ := rm0 l s _ hw tables_1 i0 i1 i2 s.heap s.heap.size (Nat.le_refl _) p e ha hc hk s m _ below hf ((Spec.applies_iff_loose hf).mp happ).1 ⟨rfl, State.Warmed39.refl s, rfl⟩ trivial
  refine ⟨n, _, h1, h2, h3, hpost _ _ _ _ _ _ ⟨Cond.after_iff.mpr rfl, Cond.after_iff.mpr (eq_i res_at (Term.int_eval (1)) rfl), trivial⟩ ⟨hq.1, hq.2.1, (hq.2.2.sift fun y hy => Or.inr (N y hy)).mono (by decide) (by decide)⟩⟩
theorem main_1_1 : Claimed_1_1 := comes_1 fun _ _ _ _ _ _ h hF => ⟨h.1, hF⟩
theorem main_1_2 : Claimed_1_2 := comes_1 fun _ _ _ _ _ _ h hF => ⟨h.2.1, hF⟩
end Jvm.Pilot.@@N@@
namespace Jvm.Pilot.@@N@@
open Jvm Jvm.ClassFile Sem Op Lib Jvm.Free Jvm.Stand Jvm.Pilot.@@N@@.Jvm.D
/-! MADE BY PROGRAM (witnessworld.py) out of the Statement's table words and the real class files: 10 classes; the members and pool entries that the words name. The judged class is class 1, her method 1. -/
namespace start1
open Jvm.ClassFile
def u (s : String) : CpInfo := .utf8 (stringToUtf16 s)
/-- a pool by its gaps: so many unusable entries, then the entry; so many at the end -/
def gap : Nat → List CpInfo → List CpInfo
  | 0, r => r
  | n + 1, r => .unusable :: gap n r
def poolList (es : List (Nat × CpInfo)) (last : Nat) : List CpInfo := es.foldr (fun e r => gap e.1 (e.2 :: r)) (gap last [])
def pool (es : List (Nat × CpInfo)) (last : Nat) : Array CpInfo := ⟨poolList es last⟩
def fileOf (pool : Array CpInfo) (this : Nat) (attrs : Array Attribute := #[]) (ms : Array MethodInfo := #[]) (fl : Nat := 33) (sup : Nat := 0) (ifs : Array Nat := #[]) (fds : Array FieldInfo := #[]) : ClassFile where
  minorVersion := 0
  majorVersion := 65
  constantPool := pool
  accessFlags := fl
  thisClass := this
  superClass := sup
  interfaces := ifs
  fields := fds
  methods := ms
  attributes := attrs
def plain (name : String) (sup : Option ClassId) : Class where
  name := name
  kind := .ordinary
  loader := none
  accessFlags := 33
  super := sup
  interfaces := #[]
  cf := none
  fields := #[]
  methods := #[]
  instanceTypes := #[]
  staticTypes := #[]
  resolved := #[]
  callSites := []
  init := .initialized
  statics := none
  mirror := none

def pool0 : Array CpInfo := pool [(5, u "<init>"), (0, u "()V"), (1, .class_ 10), (1, u "java/lang/Object")] 113

def k0c0 : Code := { maxStack := 0, maxLocals := 1, code := object_method_1_code, exceptionTable := #[], attributes := #[] }
def k0m0 : Method := { name := "<init>", desc := "()V", sig := { parameters := [], returnType := none }, accessFlags := 1, code := some k0c0 }
/-- java/lang/Object -/
def k0 : Class := { plain "java/lang/Object" none with
  accessFlags := 33
  interfaces := #[]
  cf := some (fileOf pool0 8 #[] #[{ accessFlags := 1, nameIndex := 5, descriptorIndex := 6, attributes := #[] }] 33 0 #[] #[])
  fields := #[]
  methods := #[k0m0]
  instanceTypes := #[]
  staticTypes := #[]
  resolved := Array.replicate 124 none
  statics := none }

def pool1 : Array CpInfo := pool [(2, .class_ 4), (1, u "java/lang/Object"), (0, u "<init>"), (0, u "()V"), (0, .class_ 8), (0, u "org/refold/RootClasses"), (0, .methodref 7 10), (0, .nameAndType 5 11), (0, u "(I)V"), (0, .methodref 13 14), (0, .class_ 15), (0, .nameAndType 16 17), (0, u "org/refold/RootClassesFindPinLaw"), (0, u "step"), (0, u "(Lorg/refold/RootClasses;[II)Z"), (0, .methodref 7 19), (0, .nameAndType 20 21), (0, u "find"), (0, u "(I)I"), (0, .methodref 23 24), (0, .class_ 25), (0, .nameAndType 26 27), (0, u "java/lang/Math"), (0, u "min"), (0, u "(II)I"), (0, .methodref 7 29), (0, .nameAndType 30 31), (0, u "merge"), (0, u "(II)Z"), (2, u "law"), (0, u "(III)Z")] 5

def k1m0 : Method := { name := "<init>", desc := "()V", sig := { parameters := [], returnType := none }, accessFlags := 1, code := none }
def k1c1 : Code := { maxStack := 4, maxLocals := 12, code := code, exceptionTable := #[], attributes := #[] }
def k1m1 : Method := { name := "law", desc := "(III)Z", sig := { parameters := [.int, .int, .int], returnType := some .boolean }, accessFlags := 9, code := some k1c1 }
def k1c2 : Code := { maxStack := 3, maxLocals := 10, code := method_3_code, exceptionTable := #[], attributes := #[] }
def k1m2 : Method := { name := "step", desc := "(Lorg/refold/RootClasses;[II)Z", sig := { parameters := [(.object "org/refold/RootClasses"), (.array .int), .int], returnType := some .boolean }, accessFlags := 10, code := some k1c2 }
/-- org/refold/RootClassesFindPinLaw -/
def k1 : Class := { plain "org/refold/RootClassesFindPinLaw" (some 0) with
  accessFlags := 49
  interfaces := #[]
  cf := some (fileOf pool1 13 #[] #[{ accessFlags := 1, nameIndex := 5, descriptorIndex := 6, attributes := #[] }, { accessFlags := 9, nameIndex := 34, descriptorIndex := 35, attributes := #[] }, { accessFlags := 10, nameIndex := 16, descriptorIndex := 17, attributes := #[] }] 49 2 #[] #[])
  fields := #[]
  methods := #[k1m0, k1m1, k1m2]
  instanceTypes := #[]
  staticTypes := #[]
  resolved := Array.replicate 41 none
  statics := none }

def pool2 : Array CpInfo := pool [(1, .methodref 2 3), (0, .class_ 4), (0, .nameAndType 5 6), (0, u "java/lang/Object"), (0, u "<init>"), (0, u "()V"), (0, .fieldref 8 9), (0, .class_ 10), (0, .nameAndType 11 12), (0, u "org/refold/RootClasses"), (0, u "parent"), (0, u "[I"), (0, .methodref 8 14), (0, .nameAndType 15 16), (0, u "find"), (0, u "(I)I"), (0, .methodref 18 19), (0, .class_ 20), (0, .nameAndType 21 22), (0, u "java/lang/Math"), (0, u "max"), (0, u "(II)I"), (0, .methodref 18 24), (0, .nameAndType 25 22), (0, u "min"), (117, u "(I)V"), (3, u "merge"), (0, u "(II)Z")] 18

def k2c0 : Code := { maxStack := 3, maxLocals := 3, code := prog_24_method_1_code, exceptionTable := #[], attributes := #[] }
def k2m0 : Method := { name := "<init>", desc := "(I)V", sig := { parameters := [.int], returnType := none }, accessFlags := 0, code := some k2c0 }
def k2c1 : Code := { maxStack := 2, maxLocals := 3, code := prog_24_method_2_code, exceptionTable := #[], attributes := #[] }
def k2m1 : Method := { name := "find", desc := "(I)I", sig := { parameters := [.int], returnType := some .int }, accessFlags := 0, code := some k2c1 }
def k2c2 : Code := { maxStack := 4, maxLocals := 5, code := prog_24_method_3_code, exceptionTable := #[], attributes := #[] }
def k2m2 : Method := { name := "merge", desc := "(II)Z", sig := { parameters := [.int, .int], returnType := some .boolean }, accessFlags := 0, code := some k2c2 }
/-- org/refold/RootClasses -/
def k2 : Class := { plain "org/refold/RootClasses" (some 0) with
  accessFlags := 48
  interfaces := #[]
  cf := some (fileOf pool2 8 #[] #[{ accessFlags := 0, nameIndex := 5, descriptorIndex := 143, attributes := #[] }, { accessFlags := 0, nameIndex := 15, descriptorIndex := 16, attributes := #[] }, { accessFlags := 0, nameIndex := 147, descriptorIndex := 148, attributes := #[] }] 48 2 #[] #[{ accessFlags := 18, nameIndex := 11, descriptorIndex := 12, attributes := #[] }])
  fields := #[{ name := "parent", type := (.array .int), accessFlags := 18, slot := 0, constantValue := 0 }]
  methods := #[k2m0, k2m1, k2m2]
  instanceTypes := #[(.array .int)]
  staticTypes := #[]
  resolved := Array.replicate 167 none
  statics := none }

def pool3 : Array CpInfo := pool [(1, .class_ 2), (0, u "java/lang/Math"), (1, .class_ 6), (1, u "java/lang/Object"), (0, u "<init>"), (0, u "()V"), (89, .class_ 100), (1, u "java/lang/Math$RandomNumberGeneratorHolder"), (71, u "negativeZeroFloatBits"), (0, u "J"), (2, u "negativeZeroDoubleBits"), (21, u "max"), (2, u "min"), (43, u "$assertionsDisabled"), (0, u "Z"), (88, u "(II)I"), (2, u "twoToTheDoubleScaleDown"), (0, u "D"), (4, u "twoToTheDoubleScaleUp"), (9, u "E"), (3, u "PI"), (2, u "TAU"), (2, u "DEGREES_TO_RADIANS"), (0, u "RADIANS_TO_DEGREES")] 94

def k3m0 : Method := { name := "<init>", desc := "()V", sig := { parameters := [], returnType := none }, accessFlags := 2, code := none }
def k3c1 : Code := { maxStack := 2, maxLocals := 2, code := jdk_29_method_65_code, exceptionTable := #[], attributes := #[] }
def k3m1 : Method := { name := "max", desc := "(II)I", sig := { parameters := [.int, .int], returnType := some .int }, accessFlags := 9, code := some k3c1 }
def k3c2 : Code := { maxStack := 2, maxLocals := 2, code := jdk_29_method_69_code, exceptionTable := #[], attributes := #[] }
def k3m2 : Method := { name := "min", desc := "(II)I", sig := { parameters := [.int, .int], returnType := some .int }, accessFlags := 9, code := some k3c2 }
/-- java/lang/Math -/
def k3 : Class := { plain "java/lang/Math" (some 0) with
  accessFlags := 49
  interfaces := #[]
  cf := some (fileOf pool3 1 #[.nestMembers #[98]] #[{ accessFlags := 2, nameIndex := 7, descriptorIndex := 8, attributes := #[] }, { accessFlags := 9, nameIndex := 198, descriptorIndex := 335, attributes := #[] }, { accessFlags := 9, nameIndex := 201, descriptorIndex := 335, attributes := #[] }] 49 4 #[] #[{ accessFlags := 25, nameIndex := 354, descriptorIndex := 339, attributes := #[] }, { accessFlags := 25, nameIndex := 358, descriptorIndex := 339, attributes := #[] }, { accessFlags := 25, nameIndex := 361, descriptorIndex := 339, attributes := #[] }, { accessFlags := 26, nameIndex := 364, descriptorIndex := 339, attributes := #[] }, { accessFlags := 26, nameIndex := 365, descriptorIndex := 339, attributes := #[] }, { accessFlags := 26, nameIndex := 172, descriptorIndex := 173, attributes := #[] }, { accessFlags := 26, nameIndex := 176, descriptorIndex := 173, attributes := #[] }, { accessFlags := 8, nameIndex := 344, descriptorIndex := 339, attributes := #[] }, { accessFlags := 8, nameIndex := 338, descriptorIndex := 339, attributes := #[] }, { accessFlags := 4120, nameIndex := 245, descriptorIndex := 246, attributes := #[] }])
  fields := #[{ name := "E", type := .double, accessFlags := 25, slot := 0, constantValue := 0 }, { name := "PI", type := .double, accessFlags := 25, slot := 1, constantValue := 0 }, { name := "TAU", type := .double, accessFlags := 25, slot := 2, constantValue := 0 }, { name := "DEGREES_TO_RADIANS", type := .double, accessFlags := 26, slot := 3, constantValue := 0 }, { name := "RADIANS_TO_DEGREES", type := .double, accessFlags := 26, slot := 4, constantValue := 0 }, { name := "negativeZeroFloatBits", type := .long, accessFlags := 26, slot := 5, constantValue := 0 }, { name := "negativeZeroDoubleBits", type := .long, accessFlags := 26, slot := 6, constantValue := 0 }, { name := "twoToTheDoubleScaleUp", type := .double, accessFlags := 8, slot := 7, constantValue := 0 }, { name := "twoToTheDoubleScaleDown", type := .double, accessFlags := 8, slot := 8, constantValue := 0 }, { name := "$assertionsDisabled", type := .boolean, accessFlags := 4120, slot := 9, constantValue := 0 }]
  methods := #[k3m0, k3m1, k3m2]
  instanceTypes := #[]
  staticTypes := #[.double, .double, .double, .double, .double, .long, .long, .double, .double, .boolean]
  resolved := Array.replicate 460 none
  statics := none }

def pool4 : Array CpInfo := pool [(1, u "java/lang/Cloneable"), (0, .class_ 1), (0, u "java/lang/Object"), (0, .class_ 3)] 3

/-- java/lang/Cloneable -/
def k4 : Class := { plain "java/lang/Cloneable" (some 0) with
  accessFlags := 1537
  interfaces := #[]
  cf := some (fileOf pool4 2 #[] #[] 1537 4 #[] #[])
  fields := #[]
  methods := #[]
  instanceTypes := #[]
  staticTypes := #[]
  resolved := Array.replicate 8 none
  statics := none }

def pool5 : Array CpInfo := pool [(1, u "java/io/Serializable"), (0, .class_ 1), (0, u "java/lang/Object"), (0, .class_ 3)] 3

/-- java/io/Serializable -/
def k5 : Class := { plain "java/io/Serializable" (some 0) with
  accessFlags := 1537
  interfaces := #[]
  cf := some (fileOf pool5 2 #[] #[] 1537 4 #[] #[])
  fields := #[]
  methods := #[]
  instanceTypes := #[]
  staticTypes := #[]
  resolved := Array.replicate 8 none
  statics := none }

/-- the primitive byte -/
def k6 : Class := { plain "byte" none with kind := .primitive 'B', accessFlags := 0x411 }
/-- [B -/
def k7 : Class := { plain "[B" (some 0) with kind := .array 6 .byte, interfaces := #[4, 5], accessFlags := 1041 }

/-- the primitive int -/
def k8 : Class := { plain "int" none with kind := .primitive 'I', accessFlags := 0x411 }
/-- [I -/
def k9 : Class := { plain "[I" (some 0) with kind := .array 8 .int, interfaces := #[4, 5], accessFlags := 1041 }

def heap : Heap := #[]
def classes : Array Class := #[k0, k1, k2, k3, k4, k5, k6, k7, k8, k9]
def interned : List (Array UInt16 × Addr) := []
def slotsUsed : Nat := 0
def theMethod : MethodId := ⟨1, 1⟩
def args0 : Array Value := #[.int 1, .int 2, .int 3]
def aboutOver (below : List Frame) : State where
  vm := { classes := classes, interned := interned.toArray }
  heap := heap
  slotsUsed := slotsUsed
  threads := #[{ frames := .invoking theMethod args0 :: below }]
def below0 : List Frame := [.native { method := ⟨0, 0⟩, args := #[] }]
def about1 : State := aboutOver below0
def p0 : Program := .bare "" "" ""
def e0 : Env := launch0.env 0 0 0
theorem w_frames : about1.frames = Frame.invoking theMethod args0 :: below0 := rfl
set_option maxRecDepth 65536 in
theorem w_args : argsFit about1.vm theMethod args0 = true := by decide +kernel
set_option maxRecDepth 65536 in
theorem w_heap : heapFits about1 = true := by decide +kernel
set_option maxRecDepth 65536 in
theorem w_runnable : about1.curStatus? = some .runnable := by decide +kernel
set_option maxRecDepth 65536 in
theorem w_alone : about1.alone = true := by decide +kernel
set_option maxRecDepth 65536 in
theorem w_named : about1.methodNamed? x = some theMethod := by decide +kernel
set_option maxRecDepth 65536 in
theorem w_hears : about1.hears theMethod below0 = true := by decide +kernel
set_option maxRecDepth 65536 in
theorem w_ripe : about1.ripe theMethod args0 below0 = true := by decide +kernel
theorem w_running : about1.status = .running := rfl
set_option maxRecDepth 65536 in
theorem w_room : about1.hasRoom e0.platform room_1 = true :=
  launch0.hasRoom_least _ room_1 (by decide +kernel) (by decide +kernel) (by decide +kernel) (by decide +kernel) (by decide +kernel) (by decide +kernel)
theorem allAtoms_all (ts : List Jvm.Cond) (a : Array Jvm.Value) (st : Jvm.State) : (allAtoms ts).before a st = ts.all (fun c => c.before a st) := by
  induction ts with
  | nil => rfl
  | cons c t ih =>
    show (Jvm.Cond.and c (allAtoms t)).before a st = _
    rw [Jvm.Cond.before_and, ih, List.all_cons]
def words1 : List Jvm.Cond := Jvm.Cond.code x code maxLocals ret :: tables_1
/-- a 'code' word, met by the world's own term for the bytes: nothing is compared byte by byte -/
theorem code_word {y : MethodName} {bytes : ByteArray} {mx : Nat} {rt : Option FieldType} {a : Array Value} {s : State} {m : MethodId} {meth : Method} {c : Code} (h1 : s.methodNamed? y = some m) (h2 : s.vm.method? m = some meth) (h3 : meth.code = some c) (h4 : c.code = bytes)
    (h5 : (c.maxLocals == mx && c.exceptionTable.isEmpty && decide (c.maxStack ≤ mostOperands) && decide (meth.sig.returnType = rt) && !meth.locks && decide (parseMethodDescriptor y.desc = some meth.sig)) = true) : (Jvm.Cond.code y bytes mx rt).before a s = true := by
  simp only [Bool.and_eq_true, beq_iff_eq, Bool.not_eq_true', decide_eq_true_eq] at h5
  obtain ⟨⟨⟨⟨⟨g1, g2⟩, g3⟩, g4⟩, g5⟩, g6⟩ := h5
  simp [Cond.before, Cond.holds, Cond.value, h1, h2, h3, h4, g1, g2, g3, g4, g5, g6]
def isCode : Jvm.Cond → Bool
  | .code _ _ _ _ => true
  | _ => false
theorem all_split {L : List Jvm.Cond} {P : Jvm.Cond → Bool} (h1 : L.all (fun c => isCode c || P c) = true) (h2 : ∀ c ∈ L.filter isCode, P c = true) : L.all P = true := by
  refine List.all_eq_true.mpr fun c hc => ?_
  have h := List.all_eq_true.mp h1 c hc
  rcases Bool.eq_false_or_eq_true (isCode c) with hi | hi
  · exact h2 c (List.mem_filter.mpr ⟨hc, hi⟩)
  · simpa [hi] using h
set_option maxRecDepth 65536 in
theorem w_c0 : (Jvm.Cond.code x code maxLocals ret).before args0 about1 = true := code_word (m := ⟨1, 1⟩) (meth := k1m1) (c := k1c1) (by decide +kernel) rfl rfl rfl (by decide +kernel)
set_option maxRecDepth 65536 in
theorem w_c1 : (Jvm.Cond.code ({ cls := "org/refold/RootClasses", name := "<init>", desc := "(I)V" } : Jvm.MethodName) prog_24_method_1_code (3 : Nat) (Option.none : Option Jvm.ClassFile.FieldType)).before args0 about1 = true := code_word (m := ⟨2, 0⟩) (meth := k2m0) (c := k2c0) (by decide +kernel) rfl rfl rfl (by decide +kernel)
set_option maxRecDepth 65536 in
theorem w_c2 : (Jvm.Cond.code ({ cls := "java/lang/Object", name := "<init>", desc := "()V" } : Jvm.MethodName) object_method_1_code (1 : Nat) (Option.none : Option Jvm.ClassFile.FieldType)).before args0 about1 = true := code_word (m := ⟨0, 0⟩) (meth := k0m0) (c := k0c0) (by decide +kernel) rfl rfl rfl (by decide +kernel)
set_option maxRecDepth 65536 in
theorem w_c3 : (Jvm.Cond.code ({ cls := "org/refold/RootClassesFindPinLaw", name := "step", desc := "(Lorg/refold/RootClasses;[II)Z" } : Jvm.MethodName) method_3_code (10 : Nat) (Option.some Jvm.ClassFile.FieldType.boolean)).before args0 about1 = true := code_word (m := ⟨1, 2⟩) (meth := k1m2) (c := k1c2) (by decide +kernel) rfl rfl rfl (by decide +kernel)
set_option maxRecDepth 65536 in
theorem w_c4 : (Jvm.Cond.code ({ cls := "java/lang/Math", name := "min", desc := "(II)I" } : Jvm.MethodName) jdk_29_method_69_code (2 : Nat) (Option.some Jvm.ClassFile.FieldType.int)).before args0 about1 = true := code_word (m := ⟨3, 2⟩) (meth := k3m2) (c := k3c2) (by decide +kernel) rfl rfl rfl (by decide +kernel)
set_option maxRecDepth 65536 in
theorem w_c5 : (Jvm.Cond.code ({ cls := "org/refold/RootClasses", name := "merge", desc := "(II)Z" } : Jvm.MethodName) prog_24_method_3_code (5 : Nat) (Option.some Jvm.ClassFile.FieldType.boolean)).before args0 about1 = true := code_word (m := ⟨2, 2⟩) (meth := k2m2) (c := k2c2) (by decide +kernel) rfl rfl rfl (by decide +kernel)
set_option maxRecDepth 65536 in
theorem w_c6 : (Jvm.Cond.code ({ cls := "org/refold/RootClasses", name := "find", desc := "(I)I" } : Jvm.MethodName) prog_24_method_2_code (3 : Nat) (Option.some Jvm.ClassFile.FieldType.int)).before args0 about1 = true := code_word (m := ⟨2, 1⟩) (meth := k2m1) (c := k2c1) (by decide +kernel) rfl rfl rfl (by decide +kernel)
set_option maxRecDepth 65536 in
theorem w_c7 : (Jvm.Cond.code ({ cls := "java/lang/Math", name := "max", desc := "(II)I" } : Jvm.MethodName) jdk_29_method_65_code (2 : Nat) (Option.some Jvm.ClassFile.FieldType.int)).before args0 about1 = true := code_word (m := ⟨3, 1⟩) (meth := k3m1) (c := k3c1) (by decide +kernel) rfl rfl rfl (by decide +kernel)
def codes1 : List Jvm.Cond := [Jvm.Cond.code x code maxLocals ret, Jvm.Cond.code ({ cls := "org/refold/RootClasses", name := "<init>", desc := "(I)V" } : Jvm.MethodName) prog_24_method_1_code (3 : Nat) (Option.none : Option Jvm.ClassFile.FieldType), Jvm.Cond.code ({ cls := "java/lang/Object", name := "<init>", desc := "()V" } : Jvm.MethodName) object_method_1_code (1 : Nat) (Option.none : Option Jvm.ClassFile.FieldType), Jvm.Cond.code ({ cls := "org/refold/RootClassesFindPinLaw", name := "step", desc := "(Lorg/refold/RootClasses;[II)Z" } : Jvm.MethodName) method_3_code (10 : Nat) (Option.some Jvm.ClassFile.FieldType.boolean), Jvm.Cond.code ({ cls := "java/lang/Math", name := "min", desc := "(II)I" } : Jvm.MethodName) jdk_29_method_69_code (2 : Nat) (Option.some Jvm.ClassFile.FieldType.int), Jvm.Cond.code ({ cls := "org/refold/RootClasses", name := "merge", desc := "(II)Z" } : Jvm.MethodName) prog_24_method_3_code (5 : Nat) (Option.some Jvm.ClassFile.FieldType.boolean), Jvm.Cond.code ({ cls := "org/refold/RootClasses", name := "find", desc := "(I)I" } : Jvm.MethodName) prog_24_method_2_code (3 : Nat) (Option.some Jvm.ClassFile.FieldType.int), Jvm.Cond.code ({ cls := "java/lang/Math", name := "max", desc := "(II)I" } : Jvm.MethodName) jdk_29_method_65_code (2 : Nat) (Option.some Jvm.ClassFile.FieldType.int)]
set_option maxRecDepth 65536 in
theorem codes_eq : words1.filter isCode = codes1 := rfl
theorem w_codes : ∀ c ∈ words1.filter isCode, c.before args0 about1 = true := by
  rw [codes_eq]
  intro c hc
  simp only [codes1, List.mem_cons, List.not_mem_nil, or_false] at hc
  rcases hc with rfl | rfl | rfl | rfl | rfl | rfl | rfl | rfl
  · exact w_c0
  · exact w_c1
  · exact w_c2
  · exact w_c3
  · exact w_c4
  · exact w_c5
  · exact w_c6
  · exact w_c7
set_option maxRecDepth 65536 in
theorem w_t1 : (words1.take 24).all (fun c => isCode c || c.before args0 about1) = true := by decide +kernel
set_option maxRecDepth 65536 in
theorem w_t2 : (words1.drop 24).all (fun c => isCode c || c.before args0 about1) = true := by decide +kernel
theorem w_tables : (allAtoms (Jvm.Cond.code x code maxLocals ret :: tables_1)).before args0 about1 = true := by
  rw [allAtoms_all]
  show words1.all (fun c => c.before args0 about1) = true
  refine all_split ?_ w_codes
  rw [← List.take_append_drop 24 words1, List.all_append, w_t1, w_t2]
  rfl
set_option maxRecDepth 65536 in
theorem w_case : (Jvm.Cond.and given_1 narrow_1).before args0 about1 = true := by decide +kernel
theorem w_applies : (headSpec (Jvm.Cond.code x code maxLocals ret :: tables_1) room_1).applies x e0.platform about1 = true :=
  (Spec.applies_iff w_frames).mpr ⟨w_running, w_runnable, w_alone, w_named, w_hears, w_ripe, w_room, w_tables⟩
theorem atStart : AtStart classFile x code maxLocals ret World_1 tables_1 room_1 Calls_1 rest_1 Pre_1 launch0 p0 e0 about1 theMethod args0 below0 :=
  ⟨lists_1, trivial, launch0.admits_env _ _ _, launch0.least_env, fairChoices_fair.cas, fairChoices_fair.clock, w_frames, w_args, w_heap, w_applies, trivial, trivial, w_case⟩
end start1
theorem witness_1 : WitnessClaimed_1 := ⟨start1.p0, start1.e0, start1.about1, start1.theMethod, start1.args0, start1.below0, start1.atStart⟩
end Jvm.Pilot.@@N@@
