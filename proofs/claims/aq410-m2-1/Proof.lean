import JvmDerived
import JvmDerived.Pilot.@@N@@Statement
import JvmDerived.Pilot.@@N@@Code
set_option linter.unusedVariables false
set_option linter.unusedSimpArgs false
@@BLOCK:NumsL.lean.txt@@
namespace Jvm.RoadKit
open Sem ClassFile Op Lib Jvm.Stand Jvm.Free Jvm.LawKit
section New
variable {p : Program} {l : Launch} {e : Env} {R : Room} {s : State} {m : MethodId} {args : Array Value} {below : List Frame} {meth : Method} {c : Code} {T : State} {locs : List Loc} {cells slots : Nat}
theorem retI (X : Stand p l e R s m args below meth c T locs cells slots) (hx : p.tables.exec = Jvm.exec) {pc : Nat} {Ls : Array Slot} {z : Int32} {rest : List Value} (hret : meth.sig.returnType = some .int) (hd : decode c.code pc = .ok (.ireturn, 1)) {fs : List Frame}
    (hl : ∀ (f : JFrame) (acts : List Action), f.method = m → f.locked = none → f.entered = [] → (doReturn e (T.setTop f) acts (some (.int z))).1 = T.setFrames fs) : Steps p.tables e below (T.setTop (mkF m pc Ls (.int z :: rest))) (T.setFrames fs) := by
  have hm' : T.vm.method? m = some meth := X.method'
  have hn : narrow .int (.int z) = .int z := rfl
  show Steps p.tables e below (T.setTop { method := m, pc := pc, locals := Ls, stack := _ :: rest, locked := none }) _
  jvm_step X.here [X.here.top, hx, hd, hm', hret, hn]
  first | (intro acts; rw [hl _ acts rfl rfl rfl]) | rw [hl _ _ rfl rfl rfl]
  exact Steps.refl _
end New
end Jvm.RoadKit
namespace Jvm.Pilot.@@N@@
open Jvm Jvm.ClassFile Sem Op Lib Jvm.Free Jvm.Stand Jvm.LawKit Jvm.RoadKit Bundle Jvm.Pilot.@@N@@.Jvm.D

-- small naturals as ints
theorem own_lt {i n : Nat} (h : i < n) (hn : n ≤ 255) : Int32.ofNat i < Int32.ofNat n := by
  rw [Int32.lt_iff_toInt_lt, Int32.toInt_ofNat_of_lt (by omega), Int32.toInt_ofNat_of_lt (by omega)]
  omega
theorem own_nlt {i n : Nat} (h : ¬ i < n) (hi : i ≤ 255) (hn : n ≤ 255) : ¬ Int32.ofNat i < Int32.ofNat n := by
  rw [Int32.lt_iff_toInt_lt, Int32.toInt_ofNat_of_lt (by omega), Int32.toInt_ofNat_of_lt (by omega)]
  omega
theorem own_nn {n : Nat} (hn : n ≤ 255) : ¬ Int32.ofNat n < 0 := by
  rw [Int32.lt_iff_toInt_lt, Int32.toInt_ofNat_of_lt (by omega), show (0 : Int32).toInt = 0 from rfl]
  omega
theorem own_ps {n : Nat} (h : 0 < n) (hn : n ≤ 255) : (0 : Int32) < Int32.ofNat n := by
  rw [Int32.lt_iff_toInt_lt, Int32.toInt_ofNat_of_lt (by omega), show (0 : Int32).toInt = 0 from rfl]
  omega
theorem own_n32 {n : Nat} (hn : n ≤ 255) : (Int32.ofNat n).toNatClampNeg = n := by
  rw [Int32.toNatClampNeg, Int32.toInt_ofNat_of_lt (by omega)]; rfl
theorem own_one (i : Nat) : Int32.ofNat i + (1 : Int32) = Int32.ofNat (i + 1) := (Int32.ofNat_add i 1).symm
theorem own_of {x : Int32} {r : Nat} (h : x.toInt = (r : Int)) (hr : r ≤ 255) : x = Int32.ofNat r := by
  apply Int32.toInt_inj.mp
  rw [h, Int32.toInt_ofNat_of_lt (by omega)]
theorem own_mask {x m : Int32} {k : Nat} (hk : k < 32) (hm : m.toBitVec.toNat = 2 ^ k - 1) : 0 ≤ (x &&& m).toInt := by
  rw [Jvm.Kit.i32_mask x m hk hm]; exact Int.emod_nonneg _ (Int.ne_of_gt (Int.pow_pos (by decide)))
theorem own_size (x : Int32) : ∃ n : Nat, 1 ≤ n ∧ n ≤ 16 ∧ ((1 : Int32) + (x &&& (15 : Int32))) = Int32.ofNat n := by
  have h := Jvm.Kit.i32_mask x 15 (k := 4) (by decide) (by decide)
  have h1 : (1 : Int32).toInt = 1 := rfl
  have h2 : ((1 : Int32) + (x &&& 15)).toInt = 1 + x.toInt % 2 ^ 4 := by
    rw [Jvm.Kit.i32_add (by rw [h, h1]; omega) (by rw [h, h1]; omega), h, h1]
  refine ⟨(1 + x.toInt % 2 ^ 4).toNat, by omega, by omega, own_of ?_ (by omega)⟩
  rw [h2]; omega
theorem own_rem {x y : Int32} (hx : 0 ≤ x.toInt) {n : Nat} (hn : 1 ≤ n) (hn' : n ≤ 200) (hy : y = Int32.ofNat n) : ∃ r : Nat, r < n ∧ (x - (x / y) * y) = Int32.ofNat r := by
  have hy' : y.toInt = (n : Int) := by rw [hy, Int32.toInt_ofNat_of_lt (by omega)]
  have h : (x - (x / y) * y).toInt = x.toInt % y.toInt := by rw [irem_eq_mod]; exact Jvm.Kit.i32_rem_nonneg hx
  have m0 := Int.emod_nonneg x.toInt (b := y.toInt) (by omega)
  have m1 := Int.emod_lt_of_pos x.toInt (b := y.toInt) (by omega)
  refine ⟨(x.toInt % y.toInt).toNat, by omega, own_of ?_ (by omega)⟩
  rw [h]; omega
-- the tree's ways up and down, what 'add' leaves and 'sumBefore' says, in plain words
def own_low (a : Nat) : Nat := a &&& (32 - a)
def own_up (a : Nat) : Nat := a + own_low a
def own_dn (a : Nat) : Nat := a - own_low a
def own_upd (f : Nat → Int32) (i : Nat) (x : Int32) : Nat → Int32 := fun j => if j = i then x else f j
def own_add (N : Nat) (d : Int32) : Nat → Nat → (Nat → Int32) → (Nat → Int32)
  | 0, _, f => f
  | k + 1, a, f => if a < N then own_add N d k (own_up a) (own_upd f a (f a + d)) else f
def own_sum (f : Nat → Int32) : Nat → Nat → Int32 → Int32
  | 0, _, S => S
  | k + 1, a, S => if 0 < a then own_sum f k (own_dn a) (S + f a) else S
def own_path (N : Nat) : Nat → Nat → List Nat
  | 0, _ => []
  | k + 1, a => if a < N then a :: own_path N k (own_up a) else []
def own_down : Nat → Nat → List Nat
  | 0, _ => []
  | k + 1, a => if 0 < a then a :: own_down k (own_dn a) else []
def own_tot (g : Nat → Int32) : List Nat → Int32
  | [] => 0
  | j :: r => g j + own_tot g r
def own_rep (d : Int32) : Nat → Int32
  | 0 => 0
  | k + 1 => d + own_rep d k
theorem own_step : ∀ a : Fin 17, 0 < a.val → a.val < own_up a.val ∧ own_up a.val ≤ 32 ∧ Int32.ofNat a.val + (Int32.ofNat a.val &&& (-Int32.ofNat a.val)) = Int32.ofNat (own_up a.val) ∧ own_dn a.val < a.val ∧ Int32.ofNat a.val - (Int32.ofNat a.val &&& (-Int32.ofNat a.val)) = Int32.ofNat (own_dn a.val) := by decide +kernel
theorem own_st {a : Nat} (h0 : 0 < a) (h : a < 17) : a < own_up a ∧ own_up a ≤ 32 ∧ Int32.ofNat a + (Int32.ofNat a &&& (-Int32.ofNat a)) = Int32.ofNat (own_up a) ∧ own_dn a < a ∧ Int32.ofNat a - (Int32.ofNat a &&& (-Int32.ofNat a)) = Int32.ofNat (own_dn a) := own_step ⟨a, h⟩ h0
theorem own_key : ∀ n : Fin 17, ∀ i : Fin 17, ∀ e : Fin 17, i.val < n.val → e.val ≤ n.val → ((own_down 17 e.val).filter (fun j => decide (j ∈ own_path (n.val + 1) 17 (i.val + 1)))).length = if i.val < e.val then 1 else 0 := by decide +kernel
theorem own_ge (N : Nat) : ∀ (k b j : Nat), j ∈ own_path N k b → b ≤ j := by
  intro k
  induction k with
  | zero => intro b j h; simp [own_path] at h
  | succ k ih =>
    intro b j h
    unfold own_path at h
    split at h
    · rcases List.mem_cons.mp h with h | h
      · omega
      · have := ih _ _ h
        unfold own_up at this
        omega
    · cases h
theorem own_add_eq (N : Nat) (hN : N ≤ 17) (d : Int32) : ∀ (k a : Nat) (f : Nat → Int32), 0 < a → ∀ j, own_add N d k a f j = f j + (if j ∈ own_path N k a then d else 0) := by
  intro k
  induction k with
  | zero => intro a f ha j; simp [own_add, own_path]
  | succ k ih =>
    intro a f ha j
    unfold own_add own_path
    by_cases h : a < N
    · rw [if_pos h, if_pos h]
      have hs := own_st ha (by omega)
      rw [ih _ _ (by omega)]
      by_cases e : j = a
      · subst e
        have hn : j ∉ own_path N k (own_up j) := fun q => by have := own_ge N k _ _ q; omega
        rw [if_neg hn, if_pos (List.mem_cons_self ..)]
        simp [own_upd]
      · have q : (j ∈ a :: own_path N k (own_up a)) ↔ j ∈ own_path N k (own_up a) := by simp [e]
        simp only [q, own_upd, if_neg e]
    · rw [if_neg h, if_neg h]; simp
theorem own_sum_eq (f : Nat → Int32) : ∀ (k a : Nat) (S : Int32), own_sum f k a S = S + own_tot f (own_down k a) := by
  intro k
  induction k with
  | zero => intro a S; simp [own_sum, own_down, own_tot]
  | succ k ih =>
    intro a S
    unfold own_sum own_down
    by_cases h : 0 < a
    · rw [if_pos h, if_pos h, ih, own_tot, Int32.add_assoc]
    · rw [if_neg h, if_neg h, own_tot, Int32.add_zero]
theorem own_tot_add (g g' : Nat → Int32) : ∀ D, own_tot (fun j => g j + g' j) D = own_tot g D + own_tot g' D := by
  intro D
  induction D with
  | nil => rfl
  | cons j r ih =>
    show g j + g' j + own_tot (fun j => g j + g' j) r = (g j + own_tot g r) + (g' j + own_tot g' r)
    rw [ih, Int32.add_assoc, Int32.add_assoc, ← Int32.add_assoc (g' j), Int32.add_comm (g' j), Int32.add_assoc (own_tot g r)]
theorem own_tot_zero : ∀ D, own_tot (fun _ => 0) D = 0 := by
  intro D
  induction D with
  | nil => rfl
  | cons j r ih => show (0 : Int32) + own_tot (fun _ => 0) r = 0; rw [ih]; rfl
theorem own_tot_ite (P : List Nat) (d : Int32) : ∀ D, own_tot (fun j => if j ∈ P then d else 0) D = own_rep d (D.filter (fun j => decide (j ∈ P))).length := by
  intro D
  induction D with
  | nil => rfl
  | cons j r ih =>
    show (if j ∈ P then d else 0) + own_tot (fun j => if j ∈ P then d else 0) r = _
    rw [ih, List.filter_cons]
    by_cases h : j ∈ P
    · simp [h, own_rep]
    · simp [h]
theorem own_part (n i e : Nat) (hn : n ≤ 16) (hi : i < n) (he : e ≤ n) (d : Int32) : own_tot (fun j => if j ∈ own_path (n + 1) 17 (i + 1) then d else 0) (own_down 17 e) = if i < e then d else 0 := by
  rw [own_tot_ite]
  have h := own_key ⟨n, by omega⟩ ⟨i, by omega⟩ ⟨e, by omega⟩ hi he
  rw [h]
  by_cases q : i < e
  · rw [if_pos q, if_pos q]; simp [own_rep]
  · rw [if_neg q, if_neg q]; rfl
theorem own_fen (n j1 j2 j3 je : Nat) (hn : n ≤ 16) (h1 : j1 < n) (h2 : j2 < n) (h3 : j3 < n) (he : je ≤ n) (d1 d2 d3 : Int32) :
    own_sum (own_add (n + 1) d3 17 (j3 + 1) (own_add (n + 1) d2 17 (j2 + 1) (own_add (n + 1) d1 17 (j1 + 1) (fun _ => 0)))) 17 je 0 = ((if j1 < je then d1 else 0) + (if j2 < je then d2 else 0)) + (if j3 < je then d3 else 0) := by
  have e1 : own_add (n + 1) d3 17 (j3 + 1) (own_add (n + 1) d2 17 (j2 + 1) (own_add (n + 1) d1 17 (j1 + 1) (fun _ => 0))) = fun j => ((if j ∈ own_path (n + 1) 17 (j1 + 1) then d1 else 0) + (if j ∈ own_path (n + 1) 17 (j2 + 1) then d2 else 0)) + (if j ∈ own_path (n + 1) 17 (j3 + 1) then d3 else 0) := by
    funext j
    rw [own_add_eq (n + 1) (by omega) d3 17 (j3 + 1) _ (by omega), own_add_eq (n + 1) (by omega) d2 17 (j2 + 1) _ (by omega), own_add_eq (n + 1) (by omega) d1 17 (j1 + 1) _ (by omega), Int32.zero_add]
  rw [e1, own_sum_eq, Int32.zero_add, own_tot_add, own_tot_add, own_part n j1 je hn h1 he, own_part n j2 je hn h2 he, own_part n j3 je hn h3 he]
-- what is known of a tree: its addresses are new, its class, its field, its array's ints
def FA (Z : State) (h : Heap) (v : Addr) (N : Nat) (f : Nat → Int32) : Prop := ∃ c : Cell, Arr Z h v c .int ∧ c.slots.size = N ∧ ∀ j, j < N → c.slots[j]? = some (.int (f j))
def FS (Z : State) (h : Heap) (n0 : Nat) (t v : Addr) (N : Nat) (f : Nat → Int32) : Prop :=
  n0 ≤ t ∧ n0 ≤ v ∧ t ≠ v ∧ Exa Z h t "com/example/pagewarden/pagewarden/locality/FenwickTree" ∧ Fld Z h t "com/example/pagewarden/pagewarden/locality/FenwickTree" "nodes" "[I" (.ref v) ∧ FA Z h v N f
theorem FS.sz {Z : State} {h : Heap} {n0 : Nat} {t v : Addr} {N : Nat} {f : Nat → Int32} (H : FS Z h n0 t v N f) : n0 ≤ h.size := Nat.le_trans H.1 (Nat.le_of_lt H.2.2.2.1.lt)
theorem FA.set {Z : State} {h h' : Heap} {v : Addr} {N i : Nat} {f : Nat → Int32} {c : Cell} {x : Int32} (hN : N ≤ 255) (hi : i < N) (A : Arr Z h v c .int) (S : c.slots.size = N) (H : ∀ j, j < N → c.slots[j]? = some (.int (f j))) (W : Wr h h' v (Int32.ofNat i).toNatClampNeg (.int x)) : FA Z h' v N (own_upd f i x) := by
  refine ⟨_, A.same W, by rw [sz_set]; exact S, fun j hj => ?_⟩
  have e : j = (Int32.ofNat j).toNatClampNeg := (own_n32 (by omega)).symm
  by_cases q : j = i
  · have := get_hit (c := c) (j := Int32.ofNat i) (k := Int32.ofNat j) (v := .int x) (by rw [S, own_n32 (by omega)]; exact fun u => u.elim (own_nn (by omega)) (fun u => by omega)) (by rw [q])
    rw [← e] at this
    rw [this]; simp [own_upd, q]
  · have ne : ¬ Int32.ofNat j = Int32.ofNat i := fun u => q (by have := congrArg Int32.toNatClampNeg u; rwa [own_n32 (by omega), own_n32 (by omega)] at this)
    have := get_miss (c := c) (j := Int32.ofNat i) (k := Int32.ofNat j) (v := .int x) (own_nn (by omega)) (own_nn (by omega)) ne
    rw [← e] at this
    rw [this, H j hj]; simp [own_upd, q]

theorem d1_0 : decode prog_8_method_1_code 0 = .ok (.aload_n 0, 1) := by decide +kernel
theorem d1_1 : decode prog_8_method_1_code 1 = .ok (.invokespecial 1, 3) := by decide +kernel
theorem d1_4 : decode prog_8_method_1_code 4 = .ok (.aload_n 0, 1) := by decide +kernel
theorem d1_5 : decode prog_8_method_1_code 5 = .ok (.iload_n 1, 1) := by decide +kernel
theorem d1_6 : decode prog_8_method_1_code 6 = .ok (.iconst 1, 1) := by decide +kernel
theorem d1_7 : decode prog_8_method_1_code 7 = .ok (.iadd, 1) := by decide +kernel
theorem d1_8 : decode prog_8_method_1_code 8 = .ok (.newarray .int, 2) := by decide +kernel
theorem d1_10 : decode prog_8_method_1_code 10 = .ok (.putfield 7, 3) := by decide +kernel
theorem d1_13 : decode prog_8_method_1_code 13 = .ok (.return_, 1) := by decide +kernel
theorem pn_1 : plainName "com/example/pagewarden/pagewarden/locality/FenwickTree" = true := by first | (simp [plainName, overriddenIn]; done) | decide +kernel
theorem ef_1 (m : MethodId) (x0 : Addr) (x1 : Int32) : entryFrame m #[(.ref x0), (.int x1)] 2 = mkF m 0 #[.val (.ref x0), .val (.int x1)] [] := by first | (simp [entryFrame, mkF, argsToLocals, Value.category]; done) | rfl
theorem d3_4 : decode prog_8_method_2_code 4 = .ok (.iload_n 3, 1) := by decide +kernel
theorem d3_5 : decode prog_8_method_2_code 5 = .ok (.ifCond .le 32, 3) := by decide +kernel
theorem d3_8 : decode prog_8_method_2_code 8 = .ok (.iload_n 3, 1) := by decide +kernel
theorem d3_9 : decode prog_8_method_2_code 9 = .ok (.aload_n 0, 1) := by decide +kernel
theorem d3_10 : decode prog_8_method_2_code 10 = .ok (.getfield 7, 3) := by decide +kernel
theorem d3_13 : decode prog_8_method_2_code 13 = .ok (.arraylength, 1) := by decide +kernel
theorem d3_14 : decode prog_8_method_2_code 14 = .ok (.if_icmp .ge 23, 3) := by decide +kernel
theorem d3_17 : decode prog_8_method_2_code 17 = .ok (.aload_n 0, 1) := by decide +kernel
theorem d3_18 : decode prog_8_method_2_code 18 = .ok (.getfield 7, 3) := by decide +kernel
theorem d3_21 : decode prog_8_method_2_code 21 = .ok (.iload_n 3, 1) := by decide +kernel
theorem d3_22 : decode prog_8_method_2_code 22 = .ok (.dup2, 1) := by decide +kernel
theorem d3_23 : decode prog_8_method_2_code 23 = .ok (.iaload, 1) := by decide +kernel
theorem d3_24 : decode prog_8_method_2_code 24 = .ok (.iload_n 2, 1) := by decide +kernel
theorem d3_25 : decode prog_8_method_2_code 25 = .ok (.iadd, 1) := by decide +kernel
theorem d3_26 : decode prog_8_method_2_code 26 = .ok (.iastore, 1) := by decide +kernel
theorem d3_27 : decode prog_8_method_2_code 27 = .ok (.iload_n 3, 1) := by decide +kernel
theorem d3_28 : decode prog_8_method_2_code 28 = .ok (.iload_n 3, 1) := by decide +kernel
theorem d3_29 : decode prog_8_method_2_code 29 = .ok (.iload_n 3, 1) := by decide +kernel
theorem d3_30 : decode prog_8_method_2_code 30 = .ok (.ineg, 1) := by decide +kernel
theorem d3_31 : decode prog_8_method_2_code 31 = .ok (.iand, 1) := by decide +kernel
theorem d3_32 : decode prog_8_method_2_code 32 = .ok (.iadd, 1) := by decide +kernel
theorem d3_33 : decode prog_8_method_2_code 33 = .ok (.istore_n 3, 1) := by decide +kernel
theorem d3_34 : decode prog_8_method_2_code 34 = .ok (.goto (-30), 3) := by decide +kernel
theorem d3_0 : decode prog_8_method_2_code 0 = .ok (.iload_n 1, 1) := by decide +kernel
theorem d3_1 : decode prog_8_method_2_code 1 = .ok (.iconst 1, 1) := by decide +kernel
theorem d3_2 : decode prog_8_method_2_code 2 = .ok (.iadd, 1) := by decide +kernel
theorem d3_3 : decode prog_8_method_2_code 3 = .ok (.istore_n 3, 1) := by decide +kernel
theorem os3_3_4 {s0 : Slot} {z1 : Value} {s2 : Slot} {s3 : Slot} {v : Int32} (h : One s3) : storeLocals #[s0, .val z1, s2, s3] 3 (.int v) = some #[s0, .val z1, s2, .val (.int v)] := by
  rcases h with rfl | ⟨w, rfl, hw⟩
  · rfl
  · cases w <;> first | rfl | (simp [Value.category] at hw)
theorem d3_37 : decode prog_8_method_2_code 37 = .ok (.return_, 1) := by decide +kernel
theorem pn_3 : plainName "com/example/pagewarden/pagewarden/locality/FenwickTree" = true := by first | (simp [plainName, overriddenIn]; done) | decide +kernel
theorem ef_3 (m : MethodId) (x0 : Addr) (x1 : Int32) (x2 : Int32) : entryFrame m #[(.ref x0), (.int x1), (.int x2)] 4 = mkF m 0 #[.val (.ref x0), .val (.int x1), .val (.int x2), .unset] [] := by first | (simp [entryFrame, mkF, argsToLocals, Value.category]; done) | rfl
theorem d4_4 : decode prog_8_method_3_code 4 = .ok (.iload_n 3, 1) := by decide +kernel
theorem d4_5 : decode prog_8_method_3_code 5 = .ok (.ifCond .le 22, 3) := by decide +kernel
theorem d4_8 : decode prog_8_method_3_code 8 = .ok (.iload_n 2, 1) := by decide +kernel
theorem d4_9 : decode prog_8_method_3_code 9 = .ok (.aload_n 0, 1) := by decide +kernel
theorem d4_10 : decode prog_8_method_3_code 10 = .ok (.getfield 7, 3) := by decide +kernel
theorem d4_13 : decode prog_8_method_3_code 13 = .ok (.iload_n 3, 1) := by decide +kernel
theorem d4_14 : decode prog_8_method_3_code 14 = .ok (.iaload, 1) := by decide +kernel
theorem d4_15 : decode prog_8_method_3_code 15 = .ok (.iadd, 1) := by decide +kernel
theorem d4_16 : decode prog_8_method_3_code 16 = .ok (.istore_n 2, 1) := by decide +kernel
theorem d4_17 : decode prog_8_method_3_code 17 = .ok (.iload_n 3, 1) := by decide +kernel
theorem d4_18 : decode prog_8_method_3_code 18 = .ok (.iload_n 3, 1) := by decide +kernel
theorem d4_19 : decode prog_8_method_3_code 19 = .ok (.iload_n 3, 1) := by decide +kernel
theorem d4_20 : decode prog_8_method_3_code 20 = .ok (.ineg, 1) := by decide +kernel
theorem d4_21 : decode prog_8_method_3_code 21 = .ok (.iand, 1) := by decide +kernel
theorem d4_22 : decode prog_8_method_3_code 22 = .ok (.isub, 1) := by decide +kernel
theorem d4_23 : decode prog_8_method_3_code 23 = .ok (.istore_n 3, 1) := by decide +kernel
theorem d4_24 : decode prog_8_method_3_code 24 = .ok (.goto (-20), 3) := by decide +kernel
theorem d4_0 : decode prog_8_method_3_code 0 = .ok (.iconst 0, 1) := by decide +kernel
theorem d4_1 : decode prog_8_method_3_code 1 = .ok (.istore_n 2, 1) := by decide +kernel
theorem d4_2 : decode prog_8_method_3_code 2 = .ok (.iload_n 1, 1) := by decide +kernel
theorem d4_3 : decode prog_8_method_3_code 3 = .ok (.istore_n 3, 1) := by decide +kernel
theorem os4_1_8 {s0 : Slot} {z1 : Value} {s2 : Slot} {s3 : Slot} {v : Int32} (h : One s2) : storeLocals #[s0, .val z1, s2, s3] 2 (.int v) = some #[s0, .val z1, .val (.int v), s3] := by
  rcases h with rfl | ⟨w, rfl, hw⟩
  · rfl
  · cases w <;> first | rfl | (simp [Value.category] at hw)
theorem os4_3_8 {s0 : Slot} {z1 : Value} {z2 : Value} {s3 : Slot} {v : Int32} (h : One s3) : storeLocals #[s0, .val z1, .val z2, s3] 3 (.int v) = some #[s0, .val z1, .val z2, .val (.int v)] := by
  rcases h with rfl | ⟨w, rfl, hw⟩
  · rfl
  · cases w <;> first | rfl | (simp [Value.category] at hw)
theorem d4_27 : decode prog_8_method_3_code 27 = .ok (.iload_n 2, 1) := by decide +kernel
theorem d4_28 : decode prog_8_method_3_code 28 = .ok (.ireturn, 1) := by decide +kernel
theorem pn_4 : plainName "com/example/pagewarden/pagewarden/locality/FenwickTree" = true := by first | (simp [plainName, overriddenIn]; done) | decide +kernel
theorem ef_4 (m : MethodId) (x0 : Addr) (x1 : Int32) : entryFrame m #[(.ref x0), (.int x1)] 4 = mkF m 0 #[.val (.ref x0), .val (.int x1), .unset, .unset] [] := by first | (simp [entryFrame, mkF, argsToLocals, Value.category]; done) | rfl
theorem os0_6_11 {z0 : Value} {z1 : Value} {z2 : Value} {s3 : Slot} {s4 : Slot} {s5 : Slot} {s6 : Slot} {s7 : Slot} {s8 : Slot} {s9 : Slot} {s10 : Slot} {s11 : Slot} {s12 : Slot} {s13 : Slot} {v : Int32} (h : One s6) : storeLocals #[.val z0, .val z1, .val z2, s3, s4, s5, s6, s7, s8, s9, s10, s11, s12, s13] 6 (.int v) = some #[.val z0, .val z1, .val z2, s3, s4, s5, .val (.int v), s7, s8, s9, s10, s11, s12, s13] := by
  rcases h with rfl | ⟨w, rfl, hw⟩
  · rfl
  · cases w <;> first | rfl | (simp [Value.category] at hw)
theorem os0_16_11 {z0 : Value} {z1 : Value} {z2 : Value} {s3 : Slot} {s4 : Slot} {s5 : Slot} {z6 : Value} {s7 : Slot} {s8 : Slot} {s9 : Slot} {s10 : Slot} {s11 : Slot} {s12 : Slot} {s13 : Slot} {v : Int32} (h : One s7) : storeLocals #[.val z0, .val z1, .val z2, s3, s4, s5, .val z6, s7, s8, s9, s10, s11, s12, s13] 7 (.int v) = some #[.val z0, .val z1, .val z2, s3, s4, s5, .val z6, .val (.int v), s8, s9, s10, s11, s12, s13] := by
  rcases h with rfl | ⟨w, rfl, hw⟩
  · rfl
  · cases w <;> first | rfl | (simp [Value.category] at hw)
theorem os0_29_11 {z0 : Value} {z1 : Value} {z2 : Value} {s3 : Slot} {s4 : Slot} {s5 : Slot} {z6 : Value} {z7 : Value} {s8 : Slot} {s9 : Slot} {s10 : Slot} {s11 : Slot} {s12 : Slot} {s13 : Slot} {v : Int32} (h : One s8) : storeLocals #[.val z0, .val z1, .val z2, s3, s4, s5, .val z6, .val z7, s8, s9, s10, s11, s12, s13] 8 (.int v) = some #[.val z0, .val z1, .val z2, s3, s4, s5, .val z6, .val z7, .val (.int v), s9, s10, s11, s12, s13] := by
  rcases h with rfl | ⟨w, rfl, hw⟩
  · rfl
  · cases w <;> first | rfl | (simp [Value.category] at hw)
theorem os0_42_11 {z0 : Value} {z1 : Value} {z2 : Value} {s3 : Slot} {s4 : Slot} {s5 : Slot} {z6 : Value} {z7 : Value} {z8 : Value} {s9 : Slot} {s10 : Slot} {s11 : Slot} {s12 : Slot} {s13 : Slot} {v : Int32} (h : One s9) : storeLocals #[.val z0, .val z1, .val z2, s3, s4, s5, .val z6, .val z7, .val z8, s9, s10, s11, s12, s13] 9 (.int v) = some #[.val z0, .val z1, .val z2, s3, s4, s5, .val z6, .val z7, .val z8, .val (.int v), s10, s11, s12, s13] := by
  rcases h with rfl | ⟨w, rfl, hw⟩
  · rfl
  · cases w <;> first | rfl | (simp [Value.category] at hw)
theorem os0_53_11 {z0 : Value} {z1 : Value} {z2 : Value} {s3 : Slot} {s4 : Slot} {s5 : Slot} {z6 : Value} {z7 : Value} {z8 : Value} {z9 : Value} {s10 : Slot} {s11 : Slot} {s12 : Slot} {s13 : Slot} {v : Int32} (h : One s10) : storeLocals #[.val z0, .val z1, .val z2, s3, s4, s5, .val z6, .val z7, .val z8, .val z9, s10, s11, s12, s13] 10 (.int v) = some #[.val z0, .val z1, .val z2, s3, s4, s5, .val z6, .val z7, .val z8, .val z9, .val (.int v), s11, s12, s13] := by
  rcases h with rfl | ⟨w, rfl, hw⟩
  · rfl
  · cases w <;> first | rfl | (simp [Value.category] at hw)
theorem pdq_0 : parseMethodDescriptor "(I)V" = some ⟨[.int], none⟩ := by decide +kernel
theorem pdq_1 : parseMethodDescriptor "(II)V" = some ⟨[.int, .int], none⟩ := by decide +kernel
theorem pdq_2 : parseMethodDescriptor "(I)I" = some ⟨[.int], some .int⟩ := by decide +kernel
theorem os0_64_12 {s0 : Slot} {s1 : Slot} {s2 : Slot} {z3 : Value} {z4 : Value} {z5 : Value} {z6 : Value} {z7 : Value} {z8 : Value} {z9 : Value} {z10 : Value} {s11 : Slot} {s12 : Slot} {s13 : Slot} {v : Addr} (h : One s11) : storeLocals #[s0, s1, s2, .val z3, .val z4, .val z5, .val z6, .val z7, .val z8, .val z9, .val z10, s11, s12, s13] 11 (.ref v) = some #[s0, s1, s2, .val z3, .val z4, .val z5, .val z6, .val z7, .val z8, .val z9, .val z10, .val (.ref v), s12, s13] := by
  rcases h with rfl | ⟨w, rfl, hw⟩
  · rfl
  · cases w <;> first | rfl | (simp [Value.category] at hw)
theorem os0_99_12 {s0 : Slot} {s1 : Slot} {s2 : Slot} {z3 : Value} {z4 : Value} {z5 : Value} {z6 : Value} {z7 : Value} {z8 : Value} {z9 : Value} {z10 : Value} {z11 : Value} {s12 : Slot} {s13 : Slot} {v : Int32} (h : One s12) : storeLocals #[s0, s1, s2, .val z3, .val z4, .val z5, .val z6, .val z7, .val z8, .val z9, .val z10, .val z11, s12, s13] 12 (.int v) = some #[s0, s1, s2, .val z3, .val z4, .val z5, .val z6, .val z7, .val z8, .val z9, .val z10, .val z11, .val (.int v), s13] := by
  rcases h with rfl | ⟨w, rfl, hw⟩
  · rfl
  · cases w <;> first | rfl | (simp [Value.category] at hw)
theorem os0_102_13 {s0 : Slot} {s1 : Slot} {s2 : Slot} {s3 : Slot} {s4 : Slot} {s5 : Slot} {s6 : Slot} {s7 : Slot} {s8 : Slot} {s9 : Slot} {s10 : Slot} {s11 : Slot} {s12 : Slot} {s13 : Slot} {v : Int32} (h : One s13) : storeLocals #[s0, s1, s2, s3, s4, s5, s6, s7, s8, s9, s10, s11, s12, s13] 13 (.int v) = some #[s0, s1, s2, s3, s4, s5, s6, s7, s8, s9, s10, s11, s12, .val (.int v)] := by
  rcases h with rfl | ⟨w, rfl, hw⟩
  · rfl
  · cases w <;> first | rfl | (simp [Value.category] at hw)
theorem pn_0 : plainName "com/example/pagewarden/pagewarden/locality/FenwickTreeSumBeforePinLaw" = true := by first | (simp [plainName, overriddenIn]; done) | decide +kernel
theorem ef_0 (m : MethodId) (x0 : Int32) (x1 : Int32) (x2 : Int32) (x3 : Int32) (x4 : Int32) (x5 : Int32) : entryFrame m #[(.int x0), (.int x1), (.int x2), (.int x3), (.int x4), (.int x5)] maxLocals = mkF m 0 #[.val (.int x0), .val (.int x1), .val (.int x2), .val (.int x3), .val (.int x4), .val (.int x5), .unset, .unset, .unset, .unset, .unset, .unset, .unset, .unset] [] := by first | (simp [entryFrame, mkF, argsToLocals, Value.category, maxLocals]; done) | rfl

def Q1 (Z : State) (a1 : Addr) (N : Nat) (n0 : Nat) (v : Option Value) (h : Heap) (L : List Loc) : Prop := v = none ∧ Fr n0 L ∧ ∃ b, FS Z h n0 a1 b N (fun _ => 0)
set_option maxRecDepth 65536 in
set_option maxHeartbeats 40000000 in
theorem rm1 (l : Launch) (Z : State) (a0 : Array Value) (hw : ∀ d ∈ tables_1, d.before a0 Z = true) (ws : List Jvm.Cond) (a1 : Addr) (p2 : Int32) (N : Nat) (hN : N ≤ 17) (hp : p2 + (1 : Int32) = Int32.ofNat N) (h0 : Heap) (n0 : Nat) (Z0 : n0 ≤ h0.size) (E_a1 : Exa Z h0 a1 "com/example/pagewarden/pagewarden/locality/FenwickTree") (F_nodes_a1 : Fld Z h0 a1 "com/example/pagewarden/pagewarden/locality/FenwickTree" "nodes" "[I" .null) (g_a1 : n0 ≤ a1) :
    MetFree l (⟨"com/example/pagewarden/pagewarden/locality/FenwickTree", "<init>", "(I)V"⟩ : MethodName) (head1 (Jvm.Cond.code (⟨"com/example/pagewarden/pagewarden/locality/FenwickTree", "<init>", "(I)V"⟩ : MethodName) prog_8_method_1_code 2 none :: ws) ({ frames := 1, cells := 1, slots := 17, locals := 12 } : Room)) (fun a U => a = #[(.ref a1), (.int p2)] ∧ Z.Warmed39 U.vm ∧ U.heap = h0) (fun _ _ _ _ _ => True) (fun _ U o U' => ∃ v L, o = .returned v ∧ Q1 Z a1 N n0 v U'.heap L ∧ FrameEnd U o U' L ({ frames := 1, cells := 1, slots := 17, locals := 12 } : Room).cells ({ frames := 1, cells := 1, slots := 17, locals := 12 } : Room).slots) := by
  refine MetFree.of_bodySF (plainFor_of_name pn_1) hisR ?_
  intro p e s m args below meth c s₁ Bd hml0 hP hK
  obtain ⟨rfl, hZ, hh⟩ := hP
  have hx := Bd.exec
  have hby := Bd.bytes
  have hml : c.maxLocals = 2 := hml0
  have hown : s.vm.findClass "com/example/pagewarden/pagewarden/locality/FenwickTree" = some m.cls := findClass_of_methodNamed Bd.named
  have hnm := (name_of_methodNamed Bd.named Bd.method).1
  have X0 : Stand p l e ({ frames := 1, cells := 1, slots := 17, locals := 12 } : Room) s m #[(.ref a1), (.int p2)] below meth c s₁ [] 0 0 := Stand.of_body Bd
  have e0 : s₁.heap = h0 := by rw [← hh, Bd.state]; rfl
  have N0 := Fr.nil n0
  have hnn : ¬ (p2 + (1 : Int32)) < 0 := by rw [hp]; exact own_nn (by omega)
  have pre0 : ∀ t, Steps p.tables e below (s₁.setTop (mkF m 0 #[.val (.ref a1), .val (.int p2)] [])) t → Steps p.tables e below (s₁.setTop (entryFrame m #[(.ref a1), (.int p2)] 2)) t := fun t k => castTop (ef_1 m a1 p2) k
  obtain ⟨T3, X3, e3, st3⟩ := initO X0 hx hZ hown (hw _ (List.mem_of_getElem? (i := 7) rfl)) (hw _ (List.mem_of_getElem? (i := 8) rfl)) (hw _ (List.mem_of_getElem? (i := 9) rfl)) e0 (g := (mkF m 1 #[.val (.ref a1), .val (.int p2)] [(.ref a1)])) rfl (by rw [hml]; rfl) rfl (hb hby d1_1) (by decide) (W := 0) (by show 2 * 0 + _ ≤ _; exact Nat.le_of_eq rfl) (by decide)
  obtain ⟨T4, h4, k4, X4, e4, E4, A4, st4⟩ := newP X3 hx hZ (hw _ (List.mem_of_getElem? (i := 10) rfl)) e3 (g := (mkF m 8 #[.val (.ref a1), .val (.int p2)] [(.int (p2 + (1 : Int32))), (.ref a1)])) rfl (hb hby d1_8) rfl hnn (cap := 17) (by rw [hp, own_n32 (by omega)]; exact hN) (by decide) (by decide) (by decide)
  obtain ⟨b4, g4⟩ : ∃ z, z = h0.size := ⟨_, rfl⟩
  rw [← g4] at A4 st4
  have g_b4 : n0 ≤ b4 := Nat.le_trans Z0 (Nat.le_of_eq g4.symm)
  have sz_b4 : h0.size ≤ b4 := (Nat.le_trans (Keep.refl h0 [a1]).1 (Nat.le_of_eq g4.symm))
  have K4 : Keep h0 h4 [a1] := (Keep.refl h0 [a1]).ext E4
  obtain ⟨T5, h5, X5, e5, W5, st5⟩ := putF X4 hx hZ hown (host := "") (Or.inl (hw _ (List.mem_of_getElem? (i := 11) rfl))) Via.refl e4 (F_nodes_a1.ext E4) (E_a1.ext E4) (Or.inr ⟨(hw _ (List.mem_of_getElem? (i := 12) rfl)), rfl, hnm⟩) (hw _ (List.mem_of_getElem? (i := 2) rfl)) (ty := (.array .int)) (by decide) rfl rfl (g := (mkF m 10 #[.val (.ref a1), .val (.int p2)] [(.ref b4), (.ref a1)])) rfl rfl (hb hby d1_10)
  have Fw5 := (F_nodes_a1.ext E4).same W5
  have K5 : Keep h0 h5 [a1] := K4.wr W5 (Or.inl (List.mem_of_getElem? (i := 0) rfl))
  have N5 := Fr.snoc X5 N0 g_a1
  obtain ⟨fs, hr, hrun, hended, hW, hsame⟩ := X5.leave (v := none) (fun _ => rfl)
  refine ⟨_, _, pre0 _ ?_, hrun, hended, _, _, rfl, ?_, ⟨_, rfl⟩, hW, hsame.mono (by decide) (by decide)⟩
  · show Steps p.tables e below (s₁.setTop (mkF m 0 #[.val (.ref a1), .val (.int p2)] [])) _
    refine XS.aloadN X0.here hx rfl (hb hby d1_0) rfl rfl ?_
    show Steps p.tables e below (s₁.setTop (mkF m 1 #[.val (.ref a1), .val (.int p2)] [(.ref a1)])) _
    refine st3 _ ?_
    show Steps p.tables e below (T3.setTop (mkF m 4 #[.val (.ref a1), .val (.int p2)] [])) _
    refine XS.aloadN X3.here hx rfl (hb hby d1_4) rfl rfl ?_
    show Steps p.tables e below (T3.setTop (mkF m 5 #[.val (.ref a1), .val (.int p2)] [(.ref a1)])) _
    refine XS.iloadN X3.here hx rfl (hb hby d1_5) rfl ?_
    show Steps p.tables e below (T3.setTop (mkF m 6 #[.val (.ref a1), .val (.int p2)] [(.int p2), (.ref a1)])) _
    refine XS.iconst X3.here hx rfl (hb hby d1_6) ?_
    show Steps p.tables e below (T3.setTop (mkF m 7 #[.val (.ref a1), .val (.int p2)] [(.int (1 : Int32)), (.int p2), (.ref a1)])) _
    refine XS.iadd X3.here hx rfl (hb hby d1_7) rfl ?_
    show Steps p.tables e below (T3.setTop (mkF m 8 #[.val (.ref a1), .val (.int p2)] [(.int (p2 + (1 : Int32))), (.ref a1)])) _
    refine st4 _ ?_
    show Steps p.tables e below (T4.setTop (mkF m 10 #[.val (.ref a1), .val (.int p2)] [(.ref b4), (.ref a1)])) _
    refine st5 _ ?_
    show Steps p.tables e below (T5.setTop (mkF m 13 #[.val (.ref a1), .val (.int p2)] [])) _
    exact X5.returnOut hx Bd.returns (hb hby d1_13) hr
  · show Q1 Z a1 N n0 _ T5.heap _
    rw [e5]
    have ne : a1 ≠ b4 := by rw [g4]; exact Nat.ne_of_lt E_a1.lt
    rw [hp] at A4
    refine ⟨rfl, N5, b4, g_a1, g_b4, ne, (E_a1.ext E4).wr W5, Fw5, _, A4.other W5 (Ne.symm ne), by rw [sz_new, own_n32 (by omega)], fun j hj => ?_⟩
    have q := get_new (cA := k4) (ty := .int) (n := Int32.ofNat N) (k := Int32.ofNat j) (by rw [own_n32 (by omega), own_n32 (by omega)]; exact fun u => u.elim (own_nn (by omega)) (fun u => by omega))
    rw [own_n32 (by omega)] at q
    exact q

set_option maxRecDepth 65536 in
set_option maxHeartbeats 40000000 in
theorem tn_turn3 {p : Program} {l : Launch} {e : Env} {R : Room} {s : State} {m : MethodId} {args : Array Value} {below : List Frame} {meth : Method} {c : Code} {T0 : State} {locs : List Loc} {cells slots : Nat} {Z : State} {a0 : Array Value} {h0 : Heap} (o0 : Addr) (s1 : Slot) (i2 : Int32) (i3 : Int32) (w4 : Addr) (cl_w4 : Cell) (z_w4 : Int32) (w7 : Int32)
    (X0 : Stand p l e R s m args below meth c T0 locs cells slots) (hx : p.tables.exec = Jvm.exec) (hZ : Z.Warmed39 s.vm) (hw : ∀ d ∈ tables_1, d.before a0 Z = true) (hby : c.code = prog_8_method_2_code) (hml : c.maxLocals = 4) (hown : s.vm.findClass "com/example/pagewarden/pagewarden/locality/FenwickTree" = some m.cls) (e0 : T0.heap = h0) (n0 : Nat) (N0 : Fr n0 locs) (F_nodes_o0 : Fld Z h0 o0 "com/example/pagewarden/pagewarden/locality/FenwickTree" "nodes" "[I" (.ref w4)) (Ar_w4 : Arr Z h0 w4 cl_w4 .int) (S_w4 : cl_w4.slots.size = z_w4.toNatClampNeg) (N_w4 : ¬ z_w4 < 0) (hin23 : ¬ (i3 < 0 ∨ cl_w4.slots.size ≤ (i3).toNatClampNeg)) (hat23 : cl_w4.slots[(i3).toNatClampNeg]? = some (.int w7)) (hin26 : ¬ (i3 < 0 ∨ cl_w4.slots.size ≤ (i3).toNatClampNeg)) (g_w4 : n0 ≤ w4) (hc5 : (0 : Int32) < i3) (hc14 : i3 < z_w4) :
    ∃ (T' : State) (h' : Heap) (L' : List Loc), Stand p l e R s m args below meth c T' L' cells slots ∧ T'.heap = h' ∧ Fr n0 L' ∧ Wr h0 h' w4 i3.toNatClampNeg (.int (w7 + i2)) ∧
      ∀ target, Steps p.tables e below (T'.setTop (mkF m 4 #[.val (.ref o0), s1, .val (.int i2), .val (.int (i3 + (i3 &&& (-i3))))] [])) target → Steps p.tables e below (T0.setTop (mkF m 4 #[.val (.ref o0), s1, .val (.int i2), .val (.int i3)] [])) target := by
  obtain ⟨T5, X5, e5, st5⟩ := getF X0 hx hZ hown (host := "") (Or.inl (hw _ (List.mem_of_getElem? (i := 11) rfl))) Via.refl e0 F_nodes_o0 (g := (mkF m 10 #[.val (.ref o0), s1, .val (.int i2), .val (.int i3)] [(.ref o0), (.int i3)])) rfl rfl (hb hby d3_10)
  obtain ⟨T6, X6, e6, st6⟩ := getF X5 hx hZ hown (host := "") (Or.inl (hw _ (List.mem_of_getElem? (i := 11) rfl))) Via.refl e5 F_nodes_o0 (g := (mkF m 18 #[.val (.ref o0), s1, .val (.int i2), .val (.int i3)] [(.ref o0)])) rfl rfl (hb hby d3_18)
  obtain ⟨T8, h8, X8, e8, W8, st8⟩ := stI X6 hx hZ e6 Ar_w4 (j := i3) hin26 (g := (mkF m 26 #[.val (.ref o0), s1, .val (.int i2), .val (.int i3)] [(.int (w7 + i2)), (.int i3), (.ref w4)])) rfl rfl (hb hby d3_26)
  have N8 := Fr.snoc X8 N0 g_w4
  have K8 : Keep h0 h8 [w4] := (Keep.refl h0 [w4]).wr W8 (Or.inl (List.mem_of_getElem? (i := 0) rfl))
  refine ⟨T8, _, _, X8, e8, N8, W8, fun target kt => ?_⟩
  show Steps p.tables e below (T0.setTop (mkF m 4 #[.val (.ref o0), s1, .val (.int i2), .val (.int i3)] [])) _
  refine XS.iloadN X0.here hx rfl (hb hby d3_4) rfl ?_
  show Steps p.tables e below (T0.setTop (mkF m 5 #[.val (.ref o0), s1, .val (.int i2), .val (.int i3)] [(.int i3)])) _
  refine XS.ifNo X0.here hx rfl (hb hby d3_5) rfl ((if0 _ _).trans (tlt hc5).2.2.2) ?_
  show Steps p.tables e below (T0.setTop (mkF m 8 #[.val (.ref o0), s1, .val (.int i2), .val (.int i3)] [])) _
  refine XS.iloadN X0.here hx rfl (hb hby d3_8) rfl ?_
  show Steps p.tables e below (T0.setTop (mkF m 9 #[.val (.ref o0), s1, .val (.int i2), .val (.int i3)] [(.int i3)])) _
  refine XS.aloadN X0.here hx rfl (hb hby d3_9) rfl rfl ?_
  show Steps p.tables e below (T0.setTop (mkF m 10 #[.val (.ref o0), s1, .val (.int i2), .val (.int i3)] [(.ref o0), (.int i3)])) _
  refine st5 _ ?_
  show Steps p.tables e below (T5.setTop (mkF m 13 #[.val (.ref o0), s1, .val (.int i2), .val (.int i3)] [(.ref w4), (.int i3)])) _
  refine X5.arraylength hx (by rw [e5]; exact Ar_w4.1) (State.isArrayOf_alike hZ.alike Ar_w4.2.1) (g := (mkF m 13 #[.val (.ref o0), s1, .val (.int i2), .val (.int i3)] [(.ref w4), (.int i3)])) rfl rfl (hb hby d3_13) _ ?_
  rw [len_of S_w4 N_w4]
  show Steps p.tables e below (T5.setTop (mkF m 14 #[.val (.ref o0), s1, .val (.int i2), .val (.int i3)] [(.int z_w4), (.int i3)])) _
  refine XS.icmpNo X5.here hx rfl (hb hby d3_14) rfl (tlt hc14).2.1 ?_
  show Steps p.tables e below (T5.setTop (mkF m 17 #[.val (.ref o0), s1, .val (.int i2), .val (.int i3)] [])) _
  refine XS.aloadN X5.here hx rfl (hb hby d3_17) rfl rfl ?_
  show Steps p.tables e below (T5.setTop (mkF m 18 #[.val (.ref o0), s1, .val (.int i2), .val (.int i3)] [(.ref o0)])) _
  refine st6 _ ?_
  show Steps p.tables e below (T6.setTop (mkF m 21 #[.val (.ref o0), s1, .val (.int i2), .val (.int i3)] [(.ref w4)])) _
  refine XS.iloadN X6.here hx rfl (hb hby d3_21) rfl ?_
  show Steps p.tables e below (T6.setTop (mkF m 22 #[.val (.ref o0), s1, .val (.int i2), .val (.int i3)] [(.int i3), (.ref w4)])) _
  jvm_step X6.here [X6.here.top, hx, (hb hby d3_22), Value.category]
  show Steps p.tables e below (T6.setTop (mkF m 23 #[.val (.ref o0), s1, .val (.int i2), .val (.int i3)] [(.int i3), (.ref w4), (.int i3), (.ref w4)])) _
  refine X6.iaload hx (j := i3) (v := (.int w7)) (by rw [e6]; exact Ar_w4.1) (State.isArrayOf_alike hZ.alike Ar_w4.2.1) Ar_w4.2.2 hin23 hat23 (g := (mkF m 23 #[.val (.ref o0), s1, .val (.int i2), .val (.int i3)] [(.int i3), (.ref w4), (.int i3), (.ref w4)])) rfl rfl (hb hby d3_23) _ ?_
  show Steps p.tables e below (T6.setTop (mkF m 24 #[.val (.ref o0), s1, .val (.int i2), .val (.int i3)] [(.int w7), (.int i3), (.ref w4)])) _
  refine XS.iloadN X6.here hx rfl (hb hby d3_24) rfl ?_
  show Steps p.tables e below (T6.setTop (mkF m 25 #[.val (.ref o0), s1, .val (.int i2), .val (.int i3)] [(.int i2), (.int w7), (.int i3), (.ref w4)])) _
  refine XS.iadd X6.here hx rfl (hb hby d3_25) rfl ?_
  show Steps p.tables e below (T6.setTop (mkF m 26 #[.val (.ref o0), s1, .val (.int i2), .val (.int i3)] [(.int (w7 + i2)), (.int i3), (.ref w4)])) _
  refine st8 _ ?_
  show Steps p.tables e below (T8.setTop (mkF m 27 #[.val (.ref o0), s1, .val (.int i2), .val (.int i3)] [])) _
  refine XS.iloadN X8.here hx rfl (hb hby d3_27) rfl ?_
  show Steps p.tables e below (T8.setTop (mkF m 28 #[.val (.ref o0), s1, .val (.int i2), .val (.int i3)] [(.int i3)])) _
  refine XS.iloadN X8.here hx rfl (hb hby d3_28) rfl ?_
  show Steps p.tables e below (T8.setTop (mkF m 29 #[.val (.ref o0), s1, .val (.int i2), .val (.int i3)] [(.int i3), (.int i3)])) _
  refine XS.iloadN X8.here hx rfl (hb hby d3_29) rfl ?_
  show Steps p.tables e below (T8.setTop (mkF m 30 #[.val (.ref o0), s1, .val (.int i2), .val (.int i3)] [(.int i3), (.int i3), (.int i3)])) _
  refine XS.ineg X8.here hx rfl (hb hby d3_30) rfl ?_
  show Steps p.tables e below (T8.setTop (mkF m 31 #[.val (.ref o0), s1, .val (.int i2), .val (.int i3)] [(.int (-i3)), (.int i3), (.int i3)])) _
  refine XS.iand X8.here hx rfl (hb hby d3_31) rfl ?_
  show Steps p.tables e below (T8.setTop (mkF m 32 #[.val (.ref o0), s1, .val (.int i2), .val (.int i3)] [(.int (i3 &&& (-i3))), (.int i3)])) _
  refine XS.iadd X8.here hx rfl (hb hby d3_32) rfl ?_
  show Steps p.tables e below (T8.setTop (mkF m 33 #[.val (.ref o0), s1, .val (.int i2), .val (.int i3)] [(.int (i3 + (i3 &&& (-i3))))])) _
  refine XS.istoreN X8.here hx rfl (hb hby d3_33) rfl (l' := #[.val (.ref o0), s1, .val (.int i2), .val (.int (i3 + (i3 &&& (-i3))))]) rfl ?_
  show Steps p.tables e below (T8.setTop (mkF m 34 #[.val (.ref o0), s1, .val (.int i2), .val (.int (i3 + (i3 &&& (-i3))))] [])) _
  refine XS.goto X8.here hx rfl (pc0 := 34) (pc' := 4) rfl (hb hby d3_34) (by decide) (by decide) ?_
  exact kt
set_option maxRecDepth 65536 in
set_option maxHeartbeats 40000000 in
theorem tn_leave3 {p : Program} {l : Launch} {e : Env} {R : Room} {s : State} {m : MethodId} {args : Array Value} {below : List Frame} {meth : Method} {c : Code} {T0 : State} {locs : List Loc} {cells slots : Nat} {Z : State} {a0 : Array Value} {h0 : Heap} (o0 : Addr) (s1 : Slot) (s2 : Slot) (i3 : Int32) (w4 : Addr) (cl_w4 : Cell) (z_w4 : Int32)
    (X0 : Stand p l e R s m args below meth c T0 locs cells slots) (hx : p.tables.exec = Jvm.exec) (hZ : Z.Warmed39 s.vm) (hw : ∀ d ∈ tables_1, d.before a0 Z = true) (hby : c.code = prog_8_method_2_code) (hml : c.maxLocals = 4) (hown : s.vm.findClass "com/example/pagewarden/pagewarden/locality/FenwickTree" = some m.cls) (e0 : T0.heap = h0) (F_nodes_o0 : Fld Z h0 o0 "com/example/pagewarden/pagewarden/locality/FenwickTree" "nodes" "[I" (.ref w4)) (Ar_w4 : Arr Z h0 w4 cl_w4 .int) (S_w4 : cl_w4.slots.size = z_w4.toNatClampNeg) (N_w4 : ¬ z_w4 < 0) (hc5 : (0 : Int32) < i3) (hc14 : ¬ (i3 < z_w4)) :
    ∃ (T' : State), Stand p l e R s m args below meth c T' locs cells slots ∧ T'.heap = h0 ∧
      ∀ target, Steps p.tables e below (T'.setTop (mkF m 37 #[.val (.ref o0), s1, s2, .val (.int i3)] [])) target → Steps p.tables e below (T0.setTop (mkF m 4 #[.val (.ref o0), s1, s2, .val (.int i3)] [])) target := by
  obtain ⟨T5, X5, e5, st5⟩ := getF X0 hx hZ hown (host := "") (Or.inl (hw _ (List.mem_of_getElem? (i := 11) rfl))) Via.refl e0 F_nodes_o0 (g := (mkF m 10 #[.val (.ref o0), s1, s2, .val (.int i3)] [(.ref o0), (.int i3)])) rfl rfl (hb hby d3_10)
  refine ⟨T5, X5, e5, fun target kt => ?_⟩
  show Steps p.tables e below (T0.setTop (mkF m 4 #[.val (.ref o0), s1, s2, .val (.int i3)] [])) _
  refine XS.iloadN X0.here hx rfl (hb hby d3_4) rfl ?_
  show Steps p.tables e below (T0.setTop (mkF m 5 #[.val (.ref o0), s1, s2, .val (.int i3)] [(.int i3)])) _
  refine XS.ifNo X0.here hx rfl (hb hby d3_5) rfl ((if0 _ _).trans (tlt hc5).2.2.2) ?_
  show Steps p.tables e below (T0.setTop (mkF m 8 #[.val (.ref o0), s1, s2, .val (.int i3)] [])) _
  refine XS.iloadN X0.here hx rfl (hb hby d3_8) rfl ?_
  show Steps p.tables e below (T0.setTop (mkF m 9 #[.val (.ref o0), s1, s2, .val (.int i3)] [(.int i3)])) _
  refine XS.aloadN X0.here hx rfl (hb hby d3_9) rfl rfl ?_
  show Steps p.tables e below (T0.setTop (mkF m 10 #[.val (.ref o0), s1, s2, .val (.int i3)] [(.ref o0), (.int i3)])) _
  refine st5 _ ?_
  show Steps p.tables e below (T5.setTop (mkF m 13 #[.val (.ref o0), s1, s2, .val (.int i3)] [(.ref w4), (.int i3)])) _
  refine X5.arraylength hx (by rw [e5]; exact Ar_w4.1) (State.isArrayOf_alike hZ.alike Ar_w4.2.1) (g := (mkF m 13 #[.val (.ref o0), s1, s2, .val (.int i3)] [(.ref w4), (.int i3)])) rfl rfl (hb hby d3_13) _ ?_
  rw [len_of S_w4 N_w4]
  show Steps p.tables e below (T5.setTop (mkF m 14 #[.val (.ref o0), s1, s2, .val (.int i3)] [(.int z_w4), (.int i3)])) _
  refine XS.icmpYes X5.here hx rfl (pc0 := 14) (pc' := 37) rfl (hb hby d3_14) rfl (flt hc14).2.1 (by decide) (by decide) ?_
  exact kt
set_option maxRecDepth 65536 in
set_option maxHeartbeats 40000000 in
theorem tn_in3 {p : Program} {l : Launch} {e : Env} {R : Room} {s : State} {m : MethodId} {args : Array Value} {below : List Frame} {meth : Method} {c : Code} {T0 : State} {locs : List Loc} {cells slots : Nat} {Z : State} {a0 : Array Value} {h0 : Heap} (s0 : Slot) (i1 : Int32) (s2 : Slot) (s3 : Slot)
    (X0 : Stand p l e R s m args below meth c T0 locs cells slots) (hx : p.tables.exec = Jvm.exec) (hZ : Z.Warmed39 s.vm) (hw : ∀ d ∈ tables_1, d.before a0 Z = true) (hby : c.code = prog_8_method_2_code) (hml : c.maxLocals = 4) (hown : s.vm.findClass "com/example/pagewarden/pagewarden/locality/FenwickTree" = some m.cls) (e0 : T0.heap = h0) (hs3 : One s3) :
    ∀ target, Steps p.tables e below (T0.setTop (mkF m 4 #[s0, .val (.int i1), s2, .val (.int (i1 + (1 : Int32)))] [])) target → Steps p.tables e below (T0.setTop (mkF m 0 #[s0, .val (.int i1), s2, s3] [])) target := by
  intro target kt
  show Steps p.tables e below (T0.setTop (mkF m 0 #[s0, .val (.int i1), s2, s3] [])) _
  refine XS.iloadN X0.here hx rfl (hb hby d3_0) rfl ?_
  show Steps p.tables e below (T0.setTop (mkF m 1 #[s0, .val (.int i1), s2, s3] [(.int i1)])) _
  refine XS.iconst X0.here hx rfl (hb hby d3_1) ?_
  show Steps p.tables e below (T0.setTop (mkF m 2 #[s0, .val (.int i1), s2, s3] [(.int (1 : Int32)), (.int i1)])) _
  refine XS.iadd X0.here hx rfl (hb hby d3_2) rfl ?_
  show Steps p.tables e below (T0.setTop (mkF m 3 #[s0, .val (.int i1), s2, s3] [(.int (i1 + (1 : Int32)))])) _
  refine XS.istoreN X0.here hx rfl (hb hby d3_3) rfl (l' := #[s0, .val (.int i1), s2, .val (.int (i1 + (1 : Int32)))]) (os3_3_4 hs3) ?_
  exact kt
/-- **add's LOOP, WHOLE** -/
theorem own_loop3 {p : Program} {l : Launch} {e : Env} {R : Room} {s : State} {m : MethodId} {args : Array Value} {below : List Frame} {meth : Method} {c : Code} {cells slots : Nat} {Z : State} {a0 : Array Value} (o0 w4 : Addr) (s1 : Slot) (d : Int32) (N : Nat) (hN : N ≤ 17) (n0 : Nat) (hx : p.tables.exec = Jvm.exec) (hZ : Z.Warmed39 s.vm) (hw : ∀ d ∈ tables_1, d.before a0 Z = true) (hby : c.code = prog_8_method_2_code) (hml : c.maxLocals = 4) (hown : s.vm.findClass "com/example/pagewarden/pagewarden/locality/FenwickTree" = some m.cls) :
    ∀ (k a : Nat) (f : Nat → Int32) (T0 : State) (h0 : Heap) (locs : List Loc), 0 < a → a ≤ 32 → N ≤ a + k → Stand p l e R s m args below meth c T0 locs cells slots → T0.heap = h0 → Fr n0 locs → FS Z h0 n0 o0 w4 N f →
      ∃ (T' : State) (h' : Heap) (L' : List Loc) (z : Int32), Stand p l e R s m args below meth c T' L' cells slots ∧ T'.heap = h' ∧ Fr n0 L' ∧ FS Z h' n0 o0 w4 N (own_add N d k a f) ∧
        ∀ target, Steps p.tables e below (T'.setTop (mkF m 37 #[.val (.ref o0), s1, .val (.int d), .val (.int z)] [])) target → Steps p.tables e below (T0.setTop (mkF m 4 #[.val (.ref o0), s1, .val (.int d), .val (.int (Int32.ofNat a))] [])) target := by
  have out : ∀ (a : Nat) (f : Nat → Int32) (T0 : State) (h0 : Heap) (locs : List Loc), 0 < a → a ≤ 32 → ¬ a < N → Stand p l e R s m args below meth c T0 locs cells slots → T0.heap = h0 → Fr n0 locs → FS Z h0 n0 o0 w4 N f →
      ∃ (T' : State) (h' : Heap) (L' : List Loc) (z : Int32), Stand p l e R s m args below meth c T' L' cells slots ∧ T'.heap = h' ∧ Fr n0 L' ∧ FS Z h' n0 o0 w4 N f ∧
        ∀ target, Steps p.tables e below (T'.setTop (mkF m 37 #[.val (.ref o0), s1, .val (.int d), .val (.int z)] [])) target → Steps p.tables e below (T0.setTop (mkF m 4 #[.val (.ref o0), s1, .val (.int d), .val (.int (Int32.ofNat a))] [])) target := by
    intro a f T0 h0 locs ha ha' hl X0 e0 N0 HF
    obtain ⟨g1, g2, ne, E, F, cl, Ar, S, H⟩ := id HF
    obtain ⟨T1, X1, e1, st1⟩ := tn_leave3 o0 s1 (.val (.int d)) (Int32.ofNat a) w4 cl (Int32.ofNat N) X0 hx hZ hw hby hml hown e0 F Ar (by rw [S, own_n32 (by omega)]) (own_nn (by omega)) (own_ps ha (by omega)) (own_nlt hl (by omega) (by omega))
    exact ⟨T1, h0, locs, _, X1, e1, N0, HF, st1⟩
  intro k
  induction k with
  | zero =>
    intro a f T0 h0 locs ha ha' hk X0 e0 N0 HF
    exact out a f T0 h0 locs ha ha' (by omega) X0 e0 N0 HF
  | succ k ih =>
    intro a f T0 h0 locs ha ha' hk X0 e0 N0 HF
    by_cases hl : a < N
    · obtain ⟨g1, g2, ne, E, F, cl, Ar, S, H⟩ := id HF
      have hin : ¬ (Int32.ofNat a < 0 ∨ cl.slots.size ≤ (Int32.ofNat a).toNatClampNeg) := by
        rw [S, own_n32 (by omega)]; exact fun q => q.elim (own_nn (by omega)) (fun q => by omega)
      have hat : cl.slots[(Int32.ofNat a).toNatClampNeg]? = some (.int (f a)) := by rw [own_n32 (by omega)]; exact H a hl
      obtain ⟨T1, h1, L1, X1, e1, N1, W1, st1⟩ := tn_turn3 o0 s1 d (Int32.ofNat a) w4 cl (Int32.ofNat N) (f a) X0 hx hZ hw hby hml hown e0 n0 N0 F Ar (by rw [S, own_n32 (by omega)]) (own_nn (by omega)) hin hat hin g2 (own_ps ha (by omega)) (own_lt hl (by omega))
      have hs := own_st ha (by omega)
      have HF1 : FS Z h1 n0 o0 w4 N (own_upd f a (f a + d)) := ⟨g1, g2, ne, E.wr W1, F.other W1 (Or.inl ne), FA.set (by omega) hl Ar S H W1⟩
      obtain ⟨T2, h2, L2, z, X2, e2, N2, HF2, st2⟩ := ih (own_up a) _ T1 h1 L1 (by omega) hs.2.1 (by omega) X1 e1 N1 HF1
      refine ⟨T2, h2, L2, z, X2, e2, N2, ?_, fun target q => st1 target ?_⟩
      · unfold own_add; rw [if_pos hl]; exact HF2
      · rw [hs.2.2.1]; exact st2 target q
    · obtain ⟨T1, h1, L1, z, X1, e1, N1, HF1, st1⟩ := out a f T0 h0 locs ha ha' hl X0 e0 N0 HF
      refine ⟨T1, h1, L1, z, X1, e1, N1, ?_, st1⟩
      unfold own_add; rw [if_neg hl]; exact HF1

def Q3 (Z : State) (a1 w4 : Addr) (N : Nat) (f : Nat → Int32) (n0 : Nat) (v : Option Value) (h : Heap) (L : List Loc) : Prop := v = none ∧ Fr n0 L ∧ FS Z h n0 a1 w4 N f
set_option maxRecDepth 65536 in
set_option maxHeartbeats 40000000 in
theorem rm3 (l : Launch) (Z : State) (a0 : Array Value) (hw : ∀ d ∈ tables_1, d.before a0 Z = true) (ws : List Jvm.Cond) (a1 : Addr) (p2 : Int32) (p3 : Int32) (w4 : Addr) (i N : Nat) (hi : i < 17) (hN : N ≤ 17) (hp : p2 = Int32.ofNat i) (f : Nat → Int32) (h0 : Heap) (n0 : Nat) (HF : FS Z h0 n0 a1 w4 N f) :
    MetFree l (⟨"com/example/pagewarden/pagewarden/locality/FenwickTree", "add", "(II)V"⟩ : MethodName) (head1 (Jvm.Cond.code (⟨"com/example/pagewarden/pagewarden/locality/FenwickTree", "add", "(II)V"⟩ : MethodName) prog_8_method_2_code 4 none :: ws) ({ frames := 0, cells := 0, slots := 0, locals := 0 } : Room)) (fun a U => a = #[(.ref a1), (.int p2), (.int p3)] ∧ Z.Warmed39 U.vm ∧ U.heap = h0) (fun _ _ _ _ _ => True) (fun _ U o U' => ∃ v L, o = .returned v ∧ Q3 Z a1 w4 N (own_add N p3 17 (i + 1) f) n0 v U'.heap L ∧ FrameEnd U o U' L ({ frames := 0, cells := 0, slots := 0, locals := 0 } : Room).cells ({ frames := 0, cells := 0, slots := 0, locals := 0 } : Room).slots) := by
  refine MetFree.of_bodySF (plainFor_of_name pn_3) hisR ?_
  intro p e s m args below meth c s₁ Bd hml0 hP hK
  obtain ⟨rfl, hZ, hh⟩ := hP
  have hx := Bd.exec
  have hby := Bd.bytes
  have hml : c.maxLocals = 4 := hml0
  have hown : s.vm.findClass "com/example/pagewarden/pagewarden/locality/FenwickTree" = some m.cls := findClass_of_methodNamed Bd.named
  have hnm := (name_of_methodNamed Bd.named Bd.method).1
  have X0 : Stand p l e ({ frames := 0, cells := 0, slots := 0, locals := 0 } : Room) s m #[(.ref a1), (.int p2), (.int p3)] below meth c s₁ [] 0 0 := Stand.of_body Bd
  have e0 : s₁.heap = h0 := by rw [← hh, Bd.state]; rfl
  have N0 := Fr.nil n0
  have pre0 : ∀ t, Steps p.tables e below (s₁.setTop (mkF m 0 #[.val (.ref a1), .val (.int p2), .val (.int p3), .unset] [])) t → Steps p.tables e below (s₁.setTop (entryFrame m #[(.ref a1), (.int p2), (.int p3)] 4)) t := fun t k => castTop (ef_3 m a1 p2 p3) k
  obtain ⟨T1, h1, L1, z, X1, e1, N1, HF1, st1⟩ := own_loop3 a1 w4 (.val (.int p2)) p3 N hN n0 hx hZ hw hby hml hown 17 (i + 1) f s₁ h0 [] (by omega) (by omega) (by omega) X0 e0 N0 HF
  obtain ⟨fs, hr, hrun, hended, hW, hsame⟩ := X1.leave (v := none) (fun _ => rfl)
  refine ⟨_, _, pre0 _ ?_, hrun, hended, _, _, rfl, ?_, ⟨_, rfl⟩, hW, hsame.mono (by decide) (by decide)⟩
  · show Steps p.tables e below (s₁.setTop (mkF m 0 #[.val (.ref a1), .val (.int p2), .val (.int p3), .unset] [])) _
    refine tn_in3 (.val (.ref a1)) p2 (.val (.int p3)) .unset X0 hx hZ hw hby hml hown e0 One.u _ ?_
    have q : p2 + (1 : Int32) = Int32.ofNat (i + 1) := by rw [hp]; exact own_one i
    rw [q]
    refine st1 _ ?_
    exact X1.returnOut hx Bd.returns (hb hby d3_37) hr
  · show Q3 Z a1 w4 N (own_add N p3 17 (i + 1) f) n0 _ T1.heap _
    rw [e1]
    exact ⟨rfl, N1, HF1⟩

set_option maxRecDepth 65536 in
set_option maxHeartbeats 40000000 in
theorem tn_turn4 {p : Program} {l : Launch} {e : Env} {R : Room} {s : State} {m : MethodId} {args : Array Value} {below : List Frame} {meth : Method} {c : Code} {T0 : State} {locs : List Loc} {cells slots : Nat} {Z : State} {a0 : Array Value} {h0 : Heap} (o0 : Addr) (s1 : Slot) (i2 : Int32) (i3 : Int32) (w3 : Addr) (w5 : Int32) (cl_w3 : Cell)
    (X0 : Stand p l e R s m args below meth c T0 locs cells slots) (hx : p.tables.exec = Jvm.exec) (hZ : Z.Warmed39 s.vm) (hw : ∀ d ∈ tables_1, d.before a0 Z = true) (hby : c.code = prog_8_method_3_code) (hml : c.maxLocals = 4) (hown : s.vm.findClass "com/example/pagewarden/pagewarden/locality/FenwickTree" = some m.cls) (e0 : T0.heap = h0) (F_nodes_o0 : Fld Z h0 o0 "com/example/pagewarden/pagewarden/locality/FenwickTree" "nodes" "[I" (.ref w3)) (Ar_w3 : Arr Z h0 w3 cl_w3 .int) (hin14 : ¬ (i3 < 0 ∨ cl_w3.slots.size ≤ (i3).toNatClampNeg)) (hat14 : cl_w3.slots[(i3).toNatClampNeg]? = some (.int w5)) (hc5 : (0 : Int32) < i3) :
    ∃ (T' : State), Stand p l e R s m args below meth c T' locs cells slots ∧ T'.heap = h0 ∧
      ∀ target, Steps p.tables e below (T'.setTop (mkF m 4 #[.val (.ref o0), s1, .val (.int (i2 + w5)), .val (.int (i3 - (i3 &&& (-i3))))] [])) target → Steps p.tables e below (T0.setTop (mkF m 4 #[.val (.ref o0), s1, .val (.int i2), .val (.int i3)] [])) target := by
  obtain ⟨T4, X4, e4, st4⟩ := getF X0 hx hZ hown (host := "") (Or.inl (hw _ (List.mem_of_getElem? (i := 11) rfl))) Via.refl e0 F_nodes_o0 (g := (mkF m 10 #[.val (.ref o0), s1, .val (.int i2), .val (.int i3)] [(.ref o0), (.int i2)])) rfl rfl (hb hby d4_10)
  refine ⟨T4, X4, e4, fun target kt => ?_⟩
  show Steps p.tables e below (T0.setTop (mkF m 4 #[.val (.ref o0), s1, .val (.int i2), .val (.int i3)] [])) _
  refine XS.iloadN X0.here hx rfl (hb hby d4_4) rfl ?_
  show Steps p.tables e below (T0.setTop (mkF m 5 #[.val (.ref o0), s1, .val (.int i2), .val (.int i3)] [(.int i3)])) _
  refine XS.ifNo X0.here hx rfl (hb hby d4_5) rfl ((if0 _ _).trans (tlt hc5).2.2.2) ?_
  show Steps p.tables e below (T0.setTop (mkF m 8 #[.val (.ref o0), s1, .val (.int i2), .val (.int i3)] [])) _
  refine XS.iloadN X0.here hx rfl (hb hby d4_8) rfl ?_
  show Steps p.tables e below (T0.setTop (mkF m 9 #[.val (.ref o0), s1, .val (.int i2), .val (.int i3)] [(.int i2)])) _
  refine XS.aloadN X0.here hx rfl (hb hby d4_9) rfl rfl ?_
  show Steps p.tables e below (T0.setTop (mkF m 10 #[.val (.ref o0), s1, .val (.int i2), .val (.int i3)] [(.ref o0), (.int i2)])) _
  refine st4 _ ?_
  show Steps p.tables e below (T4.setTop (mkF m 13 #[.val (.ref o0), s1, .val (.int i2), .val (.int i3)] [(.ref w3), (.int i2)])) _
  refine XS.iloadN X4.here hx rfl (hb hby d4_13) rfl ?_
  show Steps p.tables e below (T4.setTop (mkF m 14 #[.val (.ref o0), s1, .val (.int i2), .val (.int i3)] [(.int i3), (.ref w3), (.int i2)])) _
  refine X4.iaload hx (j := i3) (v := (.int w5)) (by rw [e4]; exact Ar_w3.1) (State.isArrayOf_alike hZ.alike Ar_w3.2.1) Ar_w3.2.2 hin14 hat14 (g := (mkF m 14 #[.val (.ref o0), s1, .val (.int i2), .val (.int i3)] [(.int i3), (.ref w3), (.int i2)])) rfl rfl (hb hby d4_14) _ ?_
  show Steps p.tables e below (T4.setTop (mkF m 15 #[.val (.ref o0), s1, .val (.int i2), .val (.int i3)] [(.int w5), (.int i2)])) _
  refine XS.iadd X4.here hx rfl (hb hby d4_15) rfl ?_
  show Steps p.tables e below (T4.setTop (mkF m 16 #[.val (.ref o0), s1, .val (.int i2), .val (.int i3)] [(.int (i2 + w5))])) _
  refine XS.istoreN X4.here hx rfl (hb hby d4_16) rfl (l' := #[.val (.ref o0), s1, .val (.int (i2 + w5)), .val (.int i3)]) rfl ?_
  show Steps p.tables e below (T4.setTop (mkF m 17 #[.val (.ref o0), s1, .val (.int (i2 + w5)), .val (.int i3)] [])) _
  refine XS.iloadN X4.here hx rfl (hb hby d4_17) rfl ?_
  show Steps p.tables e below (T4.setTop (mkF m 18 #[.val (.ref o0), s1, .val (.int (i2 + w5)), .val (.int i3)] [(.int i3)])) _
  refine XS.iloadN X4.here hx rfl (hb hby d4_18) rfl ?_
  show Steps p.tables e below (T4.setTop (mkF m 19 #[.val (.ref o0), s1, .val (.int (i2 + w5)), .val (.int i3)] [(.int i3), (.int i3)])) _
  refine XS.iloadN X4.here hx rfl (hb hby d4_19) rfl ?_
  show Steps p.tables e below (T4.setTop (mkF m 20 #[.val (.ref o0), s1, .val (.int (i2 + w5)), .val (.int i3)] [(.int i3), (.int i3), (.int i3)])) _
  refine XS.ineg X4.here hx rfl (hb hby d4_20) rfl ?_
  show Steps p.tables e below (T4.setTop (mkF m 21 #[.val (.ref o0), s1, .val (.int (i2 + w5)), .val (.int i3)] [(.int (-i3)), (.int i3), (.int i3)])) _
  refine XS.iand X4.here hx rfl (hb hby d4_21) rfl ?_
  show Steps p.tables e below (T4.setTop (mkF m 22 #[.val (.ref o0), s1, .val (.int (i2 + w5)), .val (.int i3)] [(.int (i3 &&& (-i3))), (.int i3)])) _
  refine XS.isub X4.here hx rfl (hb hby d4_22) rfl ?_
  show Steps p.tables e below (T4.setTop (mkF m 23 #[.val (.ref o0), s1, .val (.int (i2 + w5)), .val (.int i3)] [(.int (i3 - (i3 &&& (-i3))))])) _
  refine XS.istoreN X4.here hx rfl (hb hby d4_23) rfl (l' := #[.val (.ref o0), s1, .val (.int (i2 + w5)), .val (.int (i3 - (i3 &&& (-i3))))]) rfl ?_
  show Steps p.tables e below (T4.setTop (mkF m 24 #[.val (.ref o0), s1, .val (.int (i2 + w5)), .val (.int (i3 - (i3 &&& (-i3))))] [])) _
  refine XS.goto X4.here hx rfl (pc0 := 24) (pc' := 4) rfl (hb hby d4_24) (by decide) (by decide) ?_
  exact kt
set_option maxRecDepth 65536 in
set_option maxHeartbeats 40000000 in
theorem tn_leave4 {p : Program} {l : Launch} {e : Env} {R : Room} {s : State} {m : MethodId} {args : Array Value} {below : List Frame} {meth : Method} {c : Code} {T0 : State} {locs : List Loc} {cells slots : Nat} {Z : State} {a0 : Array Value} {h0 : Heap} (s0 : Slot) (s1 : Slot) (s2 : Slot) (i3 : Int32)
    (X0 : Stand p l e R s m args below meth c T0 locs cells slots) (hx : p.tables.exec = Jvm.exec) (hZ : Z.Warmed39 s.vm) (hw : ∀ d ∈ tables_1, d.before a0 Z = true) (hby : c.code = prog_8_method_3_code) (hml : c.maxLocals = 4) (hown : s.vm.findClass "com/example/pagewarden/pagewarden/locality/FenwickTree" = some m.cls) (e0 : T0.heap = h0) (hc5 : ¬ ((0 : Int32) < i3)) :
    ∃ (T' : State), Stand p l e R s m args below meth c T' locs cells slots ∧ T'.heap = h0 ∧
      ∀ target, Steps p.tables e below (T'.setTop (mkF m 27 #[s0, s1, s2, .val (.int i3)] [])) target → Steps p.tables e below (T0.setTop (mkF m 4 #[s0, s1, s2, .val (.int i3)] [])) target := by
  refine ⟨T0, X0, e0, fun target kt => ?_⟩
  show Steps p.tables e below (T0.setTop (mkF m 4 #[s0, s1, s2, .val (.int i3)] [])) _
  refine XS.iloadN X0.here hx rfl (hb hby d4_4) rfl ?_
  show Steps p.tables e below (T0.setTop (mkF m 5 #[s0, s1, s2, .val (.int i3)] [(.int i3)])) _
  refine XS.ifYes X0.here hx rfl (pc0 := 5) (pc' := 27) rfl (hb hby d4_5) rfl ((if0 _ _).trans (flt hc5).2.2.2) (by decide) (by decide) ?_
  exact kt
set_option maxRecDepth 65536 in
set_option maxHeartbeats 40000000 in
theorem tn_in4 {p : Program} {l : Launch} {e : Env} {R : Room} {s : State} {m : MethodId} {args : Array Value} {below : List Frame} {meth : Method} {c : Code} {T0 : State} {locs : List Loc} {cells slots : Nat} {Z : State} {a0 : Array Value} {h0 : Heap} (s0 : Slot) (i1 : Int32) (s2 : Slot) (s3 : Slot)
    (X0 : Stand p l e R s m args below meth c T0 locs cells slots) (hx : p.tables.exec = Jvm.exec) (hZ : Z.Warmed39 s.vm) (hw : ∀ d ∈ tables_1, d.before a0 Z = true) (hby : c.code = prog_8_method_3_code) (hml : c.maxLocals = 4) (hown : s.vm.findClass "com/example/pagewarden/pagewarden/locality/FenwickTree" = some m.cls) (e0 : T0.heap = h0) (hs2 : One s2) (hs3 : One s3) :
    ∀ target, Steps p.tables e below (T0.setTop (mkF m 4 #[s0, .val (.int i1), .val (.int (0 : Int32)), .val (.int i1)] [])) target → Steps p.tables e below (T0.setTop (mkF m 0 #[s0, .val (.int i1), s2, s3] [])) target := by
  intro target kt
  show Steps p.tables e below (T0.setTop (mkF m 0 #[s0, .val (.int i1), s2, s3] [])) _
  refine XS.iconst X0.here hx rfl (hb hby d4_0) ?_
  show Steps p.tables e below (T0.setTop (mkF m 1 #[s0, .val (.int i1), s2, s3] [(.int (0 : Int32))])) _
  refine XS.istoreN X0.here hx rfl (hb hby d4_1) rfl (l' := #[s0, .val (.int i1), .val (.int (0 : Int32)), s3]) (os4_1_8 hs2) ?_
  show Steps p.tables e below (T0.setTop (mkF m 2 #[s0, .val (.int i1), .val (.int (0 : Int32)), s3] [])) _
  refine XS.iloadN X0.here hx rfl (hb hby d4_2) rfl ?_
  show Steps p.tables e below (T0.setTop (mkF m 3 #[s0, .val (.int i1), .val (.int (0 : Int32)), s3] [(.int i1)])) _
  refine XS.istoreN X0.here hx rfl (hb hby d4_3) rfl (l' := #[s0, .val (.int i1), .val (.int (0 : Int32)), .val (.int i1)]) (os4_3_8 hs3) ?_
  exact kt
set_option maxRecDepth 65536 in
set_option maxHeartbeats 40000000 in
theorem tn_out4 {p : Program} {l : Launch} {e : Env} {R : Room} {s : State} {m : MethodId} {args : Array Value} {below : List Frame} {meth : Method} {c : Code} {T0 : State} {locs : List Loc} {cells slots : Nat} {Z : State} {a0 : Array Value} {h0 : Heap} (s0 : Slot) (s1 : Slot) (i2 : Int32) (s3 : Slot)
    (X0 : Stand p l e R s m args below meth c T0 locs cells slots) (hx : p.tables.exec = Jvm.exec) (hZ : Z.Warmed39 s.vm) (hw : ∀ d ∈ tables_1, d.before a0 Z = true) (hby : c.code = prog_8_method_3_code) (hml : c.maxLocals = 4) (hown : s.vm.findClass "com/example/pagewarden/pagewarden/locality/FenwickTree" = some m.cls) (e0 : T0.heap = h0) :
    ∀ target, Steps p.tables e below (T0.setTop (mkF m 28 #[s0, s1, .val (.int i2), s3] [(.int i2)])) target → Steps p.tables e below (T0.setTop (mkF m 27 #[s0, s1, .val (.int i2), s3] [])) target := by
  intro target kt
  show Steps p.tables e below (T0.setTop (mkF m 27 #[s0, s1, .val (.int i2), s3] [])) _
  refine XS.iloadN X0.here hx rfl (hb hby d4_27) rfl ?_
  exact kt
/-- **sumBefore's LOOP, WHOLE** -/
theorem own_loop4 {p : Program} {l : Launch} {e : Env} {R : Room} {s : State} {m : MethodId} {args : Array Value} {below : List Frame} {meth : Method} {c : Code} {cells slots : Nat} {Z : State} {a0 : Array Value} {locs : List Loc} {h0 : Heap} (o0 w3 : Addr) (s1 : Slot) (N : Nat) (hN : N ≤ 17) (n0 : Nat) (f : Nat → Int32) (HF : FS Z h0 n0 o0 w3 N f) (hx : p.tables.exec = Jvm.exec) (hZ : Z.Warmed39 s.vm) (hw : ∀ d ∈ tables_1, d.before a0 Z = true) (hby : c.code = prog_8_method_3_code) (hml : c.maxLocals = 4) (hown : s.vm.findClass "com/example/pagewarden/pagewarden/locality/FenwickTree" = some m.cls) :
    ∀ (k a : Nat) (S : Int32) (T0 : State), a ≤ k → a < N → Stand p l e R s m args below meth c T0 locs cells slots → T0.heap = h0 →
      ∃ (T' : State) (z : Int32), Stand p l e R s m args below meth c T' locs cells slots ∧ T'.heap = h0 ∧
        ∀ target, Steps p.tables e below (T'.setTop (mkF m 27 #[.val (.ref o0), s1, .val (.int (own_sum f k a S)), .val (.int z)] [])) target → Steps p.tables e below (T0.setTop (mkF m 4 #[.val (.ref o0), s1, .val (.int S), .val (.int (Int32.ofNat a))] [])) target := by
  obtain ⟨g1, g2, ne, E, F, cl, Ar, Sz, H⟩ := id HF
  intro k
  induction k with
  | zero =>
    intro a S T0 hk ha X0 e0
    have ha0 : a = 0 := by omega
    subst ha0
    obtain ⟨T1, X1, e1, st1⟩ := tn_leave4 (.val (.ref o0)) s1 (.val (.int S)) (Int32.ofNat 0) X0 hx hZ hw hby hml hown e0 (by decide)
    exact ⟨T1, _, X1, e1, st1⟩
  | succ k ih =>
    intro a S T0 hk ha X0 e0
    by_cases h : 0 < a
    · have hin : ¬ (Int32.ofNat a < 0 ∨ cl.slots.size ≤ (Int32.ofNat a).toNatClampNeg) := by
        rw [Sz, own_n32 (by omega)]; exact fun q => q.elim (own_nn (by omega)) (fun q => by omega)
      have hat : cl.slots[(Int32.ofNat a).toNatClampNeg]? = some (.int (f a)) := by rw [own_n32 (by omega)]; exact H a ha
      obtain ⟨T1, X1, e1, st1⟩ := tn_turn4 o0 s1 S (Int32.ofNat a) w3 (f a) cl X0 hx hZ hw hby hml hown e0 F Ar hin hat (own_ps h (by omega))
      have hs := own_st h (by omega)
      obtain ⟨T2, z, X2, e2, st2⟩ := ih (own_dn a) (S + f a) T1 (by omega) (by omega) X1 e1
      refine ⟨T2, z, X2, e2, fun target q => st1 target ?_⟩
      rw [hs.2.2.2.2]
      refine st2 target ?_
      have e : own_sum f (k + 1) a S = own_sum f k (own_dn a) (S + f a) := by rw [own_sum, if_pos h]
      rw [← e]; exact q
    · have ha0 : a = 0 := by omega
      subst ha0
      obtain ⟨T1, X1, e1, st1⟩ := tn_leave4 (.val (.ref o0)) s1 (.val (.int S)) (Int32.ofNat 0) X0 hx hZ hw hby hml hown e0 (by decide)
      have e : own_sum f (k + 1) 0 S = S := by rw [own_sum, if_neg h]
      rw [e]
      exact ⟨T1, _, X1, e1, st1⟩

def Q4 (Z : State) (i : Nat) (f : Nat → Int32) (h0 : Heap) (n0 : Nat) (v : Option Value) (h : Heap) (L : List Loc) : Prop := v = some (.int (own_sum f 17 i 0)) ∧ Fr n0 L ∧ h = h0
set_option maxRecDepth 65536 in
set_option maxHeartbeats 40000000 in
theorem rm4 (l : Launch) (Z : State) (a0 : Array Value) (hw : ∀ d ∈ tables_1, d.before a0 Z = true) (ws : List Jvm.Cond) (a1 : Addr) (p2 : Int32) (w3 : Addr) (i N : Nat) (hi : i < N) (hN : N ≤ 17) (hp : p2 = Int32.ofNat i) (f : Nat → Int32) (h0 : Heap) (n0 : Nat) (HF : FS Z h0 n0 a1 w3 N f) :
    MetFree l (⟨"com/example/pagewarden/pagewarden/locality/FenwickTree", "sumBefore", "(I)I"⟩ : MethodName) (head1 (Jvm.Cond.code (⟨"com/example/pagewarden/pagewarden/locality/FenwickTree", "sumBefore", "(I)I"⟩ : MethodName) prog_8_method_3_code 4 (some .int) :: ws) ({ frames := 0, cells := 0, slots := 0, locals := 0 } : Room)) (fun a U => a = #[(.ref a1), (.int p2)] ∧ Z.Warmed39 U.vm ∧ U.heap = h0) (fun _ _ _ _ _ => True) (fun _ U o U' => ∃ v L, o = .returned v ∧ Q4 Z i f h0 n0 v U'.heap L ∧ FrameEnd U o U' L ({ frames := 0, cells := 0, slots := 0, locals := 0 } : Room).cells ({ frames := 0, cells := 0, slots := 0, locals := 0 } : Room).slots) := by
  refine MetFree.of_bodySF (plainFor_of_name pn_4) hisR ?_
  intro p e s m args below meth c s₁ Bd hml0 hP hK
  obtain ⟨rfl, hZ, hh⟩ := hP
  have hx := Bd.exec
  have hby := Bd.bytes
  have hml : c.maxLocals = 4 := hml0
  have hown : s.vm.findClass "com/example/pagewarden/pagewarden/locality/FenwickTree" = some m.cls := findClass_of_methodNamed Bd.named
  have hnm := (name_of_methodNamed Bd.named Bd.method).1
  have X0 : Stand p l e ({ frames := 0, cells := 0, slots := 0, locals := 0 } : Room) s m #[(.ref a1), (.int p2)] below meth c s₁ [] 0 0 := Stand.of_body Bd
  have e0 : s₁.heap = h0 := by rw [← hh, Bd.state]; rfl
  have N0 := Fr.nil n0
  have pre0 : ∀ t, Steps p.tables e below (s₁.setTop (mkF m 0 #[.val (.ref a1), .val (.int p2), .unset, .unset] [])) t → Steps p.tables e below (s₁.setTop (entryFrame m #[(.ref a1), (.int p2)] 4)) t := fun t k => castTop (ef_4 m a1 p2) k
  obtain ⟨T1, z, X1, e1, st1⟩ := own_loop4 a1 w3 (.val (.int p2)) N hN n0 f HF hx hZ hw hby hml hown 17 i (0 : Int32) s₁ (by omega) hi X0 e0
  obtain ⟨fs, hr, hrun, hended, hW, hsame⟩ := X1.leave (v := some (.int (own_sum f 17 i 0))) (fun h => by rw [Bd.returns] at h; cases h)
  refine ⟨_, _, pre0 _ ?_, hrun, hended, _, _, rfl, ?_, ⟨_, rfl⟩, hW, hsame.mono (by decide) (by decide)⟩
  · show Steps p.tables e below (s₁.setTop (mkF m 0 #[.val (.ref a1), .val (.int p2), .unset, .unset] [])) _
    refine tn_in4 (.val (.ref a1)) p2 .unset .unset X0 hx hZ hw hby hml hown e0 One.u One.u _ ?_
    have st2 := st1
    rw [← hp] at st2
    refine st2 _ ?_
    refine tn_out4 (.val (.ref a1)) (.val (.int p2)) (own_sum f 17 i 0) (.val (.int z)) X1 hx hZ hw hby hml hown e1 _ ?_
    exact retI X1 hx Bd.returns (hb hby d4_28) hr
  · show Q4 Z i f h0 n0 _ T1.heap _
    rw [e1]
    exact ⟨rfl, N0, rfl⟩

set_option maxRecDepth 65536 in
set_option maxHeartbeats 40000000 in
theorem tl_0 {p : Program} {l : Launch} {e : Env} {R : Room} {s : State} {m : MethodId} {args : Array Value} {below : List Frame} {meth : Method} {c : Code} {T0 : State} {locs : List Loc} {cells slots : Nat} {Z : State} {a0 : Array Value} {h0 : Heap} (i0 : Int32) (i1 : Int32) (i2 : Int32) (s3 : Slot) (s4 : Slot) (s5 : Slot) (s6 : Slot) (s7 : Slot) (s8 : Slot) (s9 : Slot) (s10 : Slot) (s11 : Slot) (s12 : Slot) (s13 : Slot)
    (X0 : Stand p l e R s m args below meth c T0 locs cells slots) (hx : p.tables.exec = Jvm.exec) (hZ : Z.Warmed39 s.vm) (hw : ∀ d ∈ tables_1, d.before a0 Z = true) (hby : c.code = code) (hml : c.maxLocals = 14) (hown : s.vm.findClass "com/example/pagewarden/pagewarden/locality/FenwickTreeSumBeforePinLaw" = some m.cls) (e0 : T0.heap = h0) (hs6 : One s6) (hs7 : One s7) (hs8 : One s8) (hs9 : One s9) (hs10 : One s10) (hnz15 : ¬ (((1 : Int32) + (i0 &&& (15 : Int32))) = (0 : Int32))) (hnz28 : ¬ (((1 : Int32) + (i0 &&& (15 : Int32))) = (0 : Int32))) (hnz41 : ¬ (((1 : Int32) + (i0 &&& (15 : Int32))) = (0 : Int32))) (hnz52 : ¬ ((((1 : Int32) + (i0 &&& (15 : Int32))) + (1 : Int32)) = (0 : Int32))) :
    ∀ target, Steps p.tables e below (T0.setTop (mkF m 55 #[.val (.int i0), .val (.int i1), .val (.int i2), s3, s4, s5, .val (.int ((1 : Int32) + (i0 &&& (15 : Int32)))), .val (.int ((i2 &&& (255 : Int32)) - ((i2 &&& (255 : Int32)) / ((1 : Int32) + (i0 &&& (15 : Int32)))) * ((1 : Int32) + (i0 &&& (15 : Int32))))), .val (.int ((((i2.toUInt32 >>> ((8 : Int32) &&& 31).toUInt32).toInt32) &&& (255 : Int32)) - ((((i2.toUInt32 >>> ((8 : Int32) &&& 31).toUInt32).toInt32) &&& (255 : Int32)) / ((1 : Int32) + (i0 &&& (15 : Int32)))) * ((1 : Int32) + (i0 &&& (15 : Int32))))), .val (.int ((((i2.toUInt32 >>> ((16 : Int32) &&& 31).toUInt32).toInt32) &&& (255 : Int32)) - ((((i2.toUInt32 >>> ((16 : Int32) &&& 31).toUInt32).toInt32) &&& (255 : Int32)) / ((1 : Int32) + (i0 &&& (15 : Int32)))) * ((1 : Int32) + (i0 &&& (15 : Int32))))), .val (.int ((i1 &&& (2147483647 : Int32)) - ((i1 &&& (2147483647 : Int32)) / (((1 : Int32) + (i0 &&& (15 : Int32))) + (1 : Int32))) * (((1 : Int32) + (i0 &&& (15 : Int32))) + (1 : Int32)))), s11, s12, s13] [])) target → Steps p.tables e below (T0.setTop (mkF m 0 #[.val (.int i0), .val (.int i1), .val (.int i2), s3, s4, s5, s6, s7, s8, s9, s10, s11, s12, s13] [])) target := by
  intro target kt
  show Steps p.tables e below (T0.setTop (mkF m 0 #[.val (.int i0), .val (.int i1), .val (.int i2), s3, s4, s5, s6, s7, s8, s9, s10, s11, s12, s13] [])) _
  refine XS.iconst X0.here hx rfl (hb hby at_0) ?_
  show Steps p.tables e below (T0.setTop (mkF m 1 #[.val (.int i0), .val (.int i1), .val (.int i2), s3, s4, s5, s6, s7, s8, s9, s10, s11, s12, s13] [(.int (1 : Int32))])) _
  refine XS.iloadN X0.here hx rfl (hb hby at_1) rfl ?_
  show Steps p.tables e below (T0.setTop (mkF m 2 #[.val (.int i0), .val (.int i1), .val (.int i2), s3, s4, s5, s6, s7, s8, s9, s10, s11, s12, s13] [(.int i0), (.int (1 : Int32))])) _
  refine XS.bipush X0.here hx rfl (hb hby at_2) ?_
  show Steps p.tables e below (T0.setTop (mkF m 4 #[.val (.int i0), .val (.int i1), .val (.int i2), s3, s4, s5, s6, s7, s8, s9, s10, s11, s12, s13] [(.int (15 : Int32)), (.int i0), (.int (1 : Int32))])) _
  refine XS.iand X0.here hx rfl (hb hby at_4) rfl ?_
  show Steps p.tables e below (T0.setTop (mkF m 5 #[.val (.int i0), .val (.int i1), .val (.int i2), s3, s4, s5, s6, s7, s8, s9, s10, s11, s12, s13] [(.int (i0 &&& (15 : Int32))), (.int (1 : Int32))])) _
  refine XS.iadd X0.here hx rfl (hb hby at_5) rfl ?_
  show Steps p.tables e below (T0.setTop (mkF m 6 #[.val (.int i0), .val (.int i1), .val (.int i2), s3, s4, s5, s6, s7, s8, s9, s10, s11, s12, s13] [(.int ((1 : Int32) + (i0 &&& (15 : Int32))))])) _
  refine XS.istore X0.here hx rfl (hb hby at_6) rfl (l' := #[.val (.int i0), .val (.int i1), .val (.int i2), s3, s4, s5, .val (.int ((1 : Int32) + (i0 &&& (15 : Int32)))), s7, s8, s9, s10, s11, s12, s13]) (os0_6_11 hs6) ?_
  show Steps p.tables e below (T0.setTop (mkF m 8 #[.val (.int i0), .val (.int i1), .val (.int i2), s3, s4, s5, .val (.int ((1 : Int32) + (i0 &&& (15 : Int32)))), s7, s8, s9, s10, s11, s12, s13] [])) _
  refine XS.iloadN X0.here hx rfl (hb hby at_8) rfl ?_
  show Steps p.tables e below (T0.setTop (mkF m 9 #[.val (.int i0), .val (.int i1), .val (.int i2), s3, s4, s5, .val (.int ((1 : Int32) + (i0 &&& (15 : Int32)))), s7, s8, s9, s10, s11, s12, s13] [(.int i2)])) _
  refine XS.sipush X0.here hx rfl (hb hby at_9) ?_
  show Steps p.tables e below (T0.setTop (mkF m 12 #[.val (.int i0), .val (.int i1), .val (.int i2), s3, s4, s5, .val (.int ((1 : Int32) + (i0 &&& (15 : Int32)))), s7, s8, s9, s10, s11, s12, s13] [(.int (255 : Int32)), (.int i2)])) _
  refine XS.iand X0.here hx rfl (hb hby at_12) rfl ?_
  show Steps p.tables e below (T0.setTop (mkF m 13 #[.val (.int i0), .val (.int i1), .val (.int i2), s3, s4, s5, .val (.int ((1 : Int32) + (i0 &&& (15 : Int32)))), s7, s8, s9, s10, s11, s12, s13] [(.int (i2 &&& (255 : Int32)))])) _
  refine XS.iload X0.here hx rfl (hb hby at_13) rfl ?_
  show Steps p.tables e below (T0.setTop (mkF m 15 #[.val (.int i0), .val (.int i1), .val (.int i2), s3, s4, s5, .val (.int ((1 : Int32) + (i0 &&& (15 : Int32)))), s7, s8, s9, s10, s11, s12, s13] [(.int ((1 : Int32) + (i0 &&& (15 : Int32)))), (.int (i2 &&& (255 : Int32)))])) _
  refine XS.irem X0.here hx rfl (hb hby at_15) rfl hnz15 ?_
  show Steps p.tables e below (T0.setTop (mkF m 16 #[.val (.int i0), .val (.int i1), .val (.int i2), s3, s4, s5, .val (.int ((1 : Int32) + (i0 &&& (15 : Int32)))), s7, s8, s9, s10, s11, s12, s13] [(.int ((i2 &&& (255 : Int32)) - ((i2 &&& (255 : Int32)) / ((1 : Int32) + (i0 &&& (15 : Int32)))) * ((1 : Int32) + (i0 &&& (15 : Int32)))))])) _
  refine XS.istore X0.here hx rfl (hb hby at_16) rfl (l' := #[.val (.int i0), .val (.int i1), .val (.int i2), s3, s4, s5, .val (.int ((1 : Int32) + (i0 &&& (15 : Int32)))), .val (.int ((i2 &&& (255 : Int32)) - ((i2 &&& (255 : Int32)) / ((1 : Int32) + (i0 &&& (15 : Int32)))) * ((1 : Int32) + (i0 &&& (15 : Int32))))), s8, s9, s10, s11, s12, s13]) (os0_16_11 hs7) ?_
  show Steps p.tables e below (T0.setTop (mkF m 18 #[.val (.int i0), .val (.int i1), .val (.int i2), s3, s4, s5, .val (.int ((1 : Int32) + (i0 &&& (15 : Int32)))), .val (.int ((i2 &&& (255 : Int32)) - ((i2 &&& (255 : Int32)) / ((1 : Int32) + (i0 &&& (15 : Int32)))) * ((1 : Int32) + (i0 &&& (15 : Int32))))), s8, s9, s10, s11, s12, s13] [])) _
  refine XS.iloadN X0.here hx rfl (hb hby at_18) rfl ?_
  show Steps p.tables e below (T0.setTop (mkF m 19 #[.val (.int i0), .val (.int i1), .val (.int i2), s3, s4, s5, .val (.int ((1 : Int32) + (i0 &&& (15 : Int32)))), .val (.int ((i2 &&& (255 : Int32)) - ((i2 &&& (255 : Int32)) / ((1 : Int32) + (i0 &&& (15 : Int32)))) * ((1 : Int32) + (i0 &&& (15 : Int32))))), s8, s9, s10, s11, s12, s13] [(.int i2)])) _
  refine XS.bipush X0.here hx rfl (hb hby at_19) ?_
  show Steps p.tables e below (T0.setTop (mkF m 21 #[.val (.int i0), .val (.int i1), .val (.int i2), s3, s4, s5, .val (.int ((1 : Int32) + (i0 &&& (15 : Int32)))), .val (.int ((i2 &&& (255 : Int32)) - ((i2 &&& (255 : Int32)) / ((1 : Int32) + (i0 &&& (15 : Int32)))) * ((1 : Int32) + (i0 &&& (15 : Int32))))), s8, s9, s10, s11, s12, s13] [(.int (8 : Int32)), (.int i2)])) _
  refine XS.iushr X0.here hx rfl (hb hby at_21) rfl ?_
  show Steps p.tables e below (T0.setTop (mkF m 22 #[.val (.int i0), .val (.int i1), .val (.int i2), s3, s4, s5, .val (.int ((1 : Int32) + (i0 &&& (15 : Int32)))), .val (.int ((i2 &&& (255 : Int32)) - ((i2 &&& (255 : Int32)) / ((1 : Int32) + (i0 &&& (15 : Int32)))) * ((1 : Int32) + (i0 &&& (15 : Int32))))), s8, s9, s10, s11, s12, s13] [(.int ((i2.toUInt32 >>> ((8 : Int32) &&& 31).toUInt32).toInt32))])) _
  refine XS.sipush X0.here hx rfl (hb hby at_22) ?_
  show Steps p.tables e below (T0.setTop (mkF m 25 #[.val (.int i0), .val (.int i1), .val (.int i2), s3, s4, s5, .val (.int ((1 : Int32) + (i0 &&& (15 : Int32)))), .val (.int ((i2 &&& (255 : Int32)) - ((i2 &&& (255 : Int32)) / ((1 : Int32) + (i0 &&& (15 : Int32)))) * ((1 : Int32) + (i0 &&& (15 : Int32))))), s8, s9, s10, s11, s12, s13] [(.int (255 : Int32)), (.int ((i2.toUInt32 >>> ((8 : Int32) &&& 31).toUInt32).toInt32))])) _
  refine XS.iand X0.here hx rfl (hb hby at_25) rfl ?_
  show Steps p.tables e below (T0.setTop (mkF m 26 #[.val (.int i0), .val (.int i1), .val (.int i2), s3, s4, s5, .val (.int ((1 : Int32) + (i0 &&& (15 : Int32)))), .val (.int ((i2 &&& (255 : Int32)) - ((i2 &&& (255 : Int32)) / ((1 : Int32) + (i0 &&& (15 : Int32)))) * ((1 : Int32) + (i0 &&& (15 : Int32))))), s8, s9, s10, s11, s12, s13] [(.int (((i2.toUInt32 >>> ((8 : Int32) &&& 31).toUInt32).toInt32) &&& (255 : Int32)))])) _
  refine XS.iload X0.here hx rfl (hb hby at_26) rfl ?_
  show Steps p.tables e below (T0.setTop (mkF m 28 #[.val (.int i0), .val (.int i1), .val (.int i2), s3, s4, s5, .val (.int ((1 : Int32) + (i0 &&& (15 : Int32)))), .val (.int ((i2 &&& (255 : Int32)) - ((i2 &&& (255 : Int32)) / ((1 : Int32) + (i0 &&& (15 : Int32)))) * ((1 : Int32) + (i0 &&& (15 : Int32))))), s8, s9, s10, s11, s12, s13] [(.int ((1 : Int32) + (i0 &&& (15 : Int32)))), (.int (((i2.toUInt32 >>> ((8 : Int32) &&& 31).toUInt32).toInt32) &&& (255 : Int32)))])) _
  refine XS.irem X0.here hx rfl (hb hby at_28) rfl hnz28 ?_
  show Steps p.tables e below (T0.setTop (mkF m 29 #[.val (.int i0), .val (.int i1), .val (.int i2), s3, s4, s5, .val (.int ((1 : Int32) + (i0 &&& (15 : Int32)))), .val (.int ((i2 &&& (255 : Int32)) - ((i2 &&& (255 : Int32)) / ((1 : Int32) + (i0 &&& (15 : Int32)))) * ((1 : Int32) + (i0 &&& (15 : Int32))))), s8, s9, s10, s11, s12, s13] [(.int ((((i2.toUInt32 >>> ((8 : Int32) &&& 31).toUInt32).toInt32) &&& (255 : Int32)) - ((((i2.toUInt32 >>> ((8 : Int32) &&& 31).toUInt32).toInt32) &&& (255 : Int32)) / ((1 : Int32) + (i0 &&& (15 : Int32)))) * ((1 : Int32) + (i0 &&& (15 : Int32)))))])) _
  refine XS.istore X0.here hx rfl (hb hby at_29) rfl (l' := #[.val (.int i0), .val (.int i1), .val (.int i2), s3, s4, s5, .val (.int ((1 : Int32) + (i0 &&& (15 : Int32)))), .val (.int ((i2 &&& (255 : Int32)) - ((i2 &&& (255 : Int32)) / ((1 : Int32) + (i0 &&& (15 : Int32)))) * ((1 : Int32) + (i0 &&& (15 : Int32))))), .val (.int ((((i2.toUInt32 >>> ((8 : Int32) &&& 31).toUInt32).toInt32) &&& (255 : Int32)) - ((((i2.toUInt32 >>> ((8 : Int32) &&& 31).toUInt32).toInt32) &&& (255 : Int32)) / ((1 : Int32) + (i0 &&& (15 : Int32)))) * ((1 : Int32) + (i0 &&& (15 : Int32))))), s9, s10, s11, s12, s13]) (os0_29_11 hs8) ?_
  show Steps p.tables e below (T0.setTop (mkF m 31 #[.val (.int i0), .val (.int i1), .val (.int i2), s3, s4, s5, .val (.int ((1 : Int32) + (i0 &&& (15 : Int32)))), .val (.int ((i2 &&& (255 : Int32)) - ((i2 &&& (255 : Int32)) / ((1 : Int32) + (i0 &&& (15 : Int32)))) * ((1 : Int32) + (i0 &&& (15 : Int32))))), .val (.int ((((i2.toUInt32 >>> ((8 : Int32) &&& 31).toUInt32).toInt32) &&& (255 : Int32)) - ((((i2.toUInt32 >>> ((8 : Int32) &&& 31).toUInt32).toInt32) &&& (255 : Int32)) / ((1 : Int32) + (i0 &&& (15 : Int32)))) * ((1 : Int32) + (i0 &&& (15 : Int32))))), s9, s10, s11, s12, s13] [])) _
  refine XS.iloadN X0.here hx rfl (hb hby at_31) rfl ?_
  show Steps p.tables e below (T0.setTop (mkF m 32 #[.val (.int i0), .val (.int i1), .val (.int i2), s3, s4, s5, .val (.int ((1 : Int32) + (i0 &&& (15 : Int32)))), .val (.int ((i2 &&& (255 : Int32)) - ((i2 &&& (255 : Int32)) / ((1 : Int32) + (i0 &&& (15 : Int32)))) * ((1 : Int32) + (i0 &&& (15 : Int32))))), .val (.int ((((i2.toUInt32 >>> ((8 : Int32) &&& 31).toUInt32).toInt32) &&& (255 : Int32)) - ((((i2.toUInt32 >>> ((8 : Int32) &&& 31).toUInt32).toInt32) &&& (255 : Int32)) / ((1 : Int32) + (i0 &&& (15 : Int32)))) * ((1 : Int32) + (i0 &&& (15 : Int32))))), s9, s10, s11, s12, s13] [(.int i2)])) _
  refine XS.bipush X0.here hx rfl (hb hby at_32) ?_
  show Steps p.tables e below (T0.setTop (mkF m 34 #[.val (.int i0), .val (.int i1), .val (.int i2), s3, s4, s5, .val (.int ((1 : Int32) + (i0 &&& (15 : Int32)))), .val (.int ((i2 &&& (255 : Int32)) - ((i2 &&& (255 : Int32)) / ((1 : Int32) + (i0 &&& (15 : Int32)))) * ((1 : Int32) + (i0 &&& (15 : Int32))))), .val (.int ((((i2.toUInt32 >>> ((8 : Int32) &&& 31).toUInt32).toInt32) &&& (255 : Int32)) - ((((i2.toUInt32 >>> ((8 : Int32) &&& 31).toUInt32).toInt32) &&& (255 : Int32)) / ((1 : Int32) + (i0 &&& (15 : Int32)))) * ((1 : Int32) + (i0 &&& (15 : Int32))))), s9, s10, s11, s12, s13] [(.int (16 : Int32)), (.int i2)])) _
  refine XS.iushr X0.here hx rfl (hb hby at_34) rfl ?_
  show Steps p.tables e below (T0.setTop (mkF m 35 #[.val (.int i0), .val (.int i1), .val (.int i2), s3, s4, s5, .val (.int ((1 : Int32) + (i0 &&& (15 : Int32)))), .val (.int ((i2 &&& (255 : Int32)) - ((i2 &&& (255 : Int32)) / ((1 : Int32) + (i0 &&& (15 : Int32)))) * ((1 : Int32) + (i0 &&& (15 : Int32))))), .val (.int ((((i2.toUInt32 >>> ((8 : Int32) &&& 31).toUInt32).toInt32) &&& (255 : Int32)) - ((((i2.toUInt32 >>> ((8 : Int32) &&& 31).toUInt32).toInt32) &&& (255 : Int32)) / ((1 : Int32) + (i0 &&& (15 : Int32)))) * ((1 : Int32) + (i0 &&& (15 : Int32))))), s9, s10, s11, s12, s13] [(.int ((i2.toUInt32 >>> ((16 : Int32) &&& 31).toUInt32).toInt32))])) _
  refine XS.sipush X0.here hx rfl (hb hby at_35) ?_
  show Steps p.tables e below (T0.setTop (mkF m 38 #[.val (.int i0), .val (.int i1), .val (.int i2), s3, s4, s5, .val (.int ((1 : Int32) + (i0 &&& (15 : Int32)))), .val (.int ((i2 &&& (255 : Int32)) - ((i2 &&& (255 : Int32)) / ((1 : Int32) + (i0 &&& (15 : Int32)))) * ((1 : Int32) + (i0 &&& (15 : Int32))))), .val (.int ((((i2.toUInt32 >>> ((8 : Int32) &&& 31).toUInt32).toInt32) &&& (255 : Int32)) - ((((i2.toUInt32 >>> ((8 : Int32) &&& 31).toUInt32).toInt32) &&& (255 : Int32)) / ((1 : Int32) + (i0 &&& (15 : Int32)))) * ((1 : Int32) + (i0 &&& (15 : Int32))))), s9, s10, s11, s12, s13] [(.int (255 : Int32)), (.int ((i2.toUInt32 >>> ((16 : Int32) &&& 31).toUInt32).toInt32))])) _
  refine XS.iand X0.here hx rfl (hb hby at_38) rfl ?_
  show Steps p.tables e below (T0.setTop (mkF m 39 #[.val (.int i0), .val (.int i1), .val (.int i2), s3, s4, s5, .val (.int ((1 : Int32) + (i0 &&& (15 : Int32)))), .val (.int ((i2 &&& (255 : Int32)) - ((i2 &&& (255 : Int32)) / ((1 : Int32) + (i0 &&& (15 : Int32)))) * ((1 : Int32) + (i0 &&& (15 : Int32))))), .val (.int ((((i2.toUInt32 >>> ((8 : Int32) &&& 31).toUInt32).toInt32) &&& (255 : Int32)) - ((((i2.toUInt32 >>> ((8 : Int32) &&& 31).toUInt32).toInt32) &&& (255 : Int32)) / ((1 : Int32) + (i0 &&& (15 : Int32)))) * ((1 : Int32) + (i0 &&& (15 : Int32))))), s9, s10, s11, s12, s13] [(.int (((i2.toUInt32 >>> ((16 : Int32) &&& 31).toUInt32).toInt32) &&& (255 : Int32)))])) _
  refine XS.iload X0.here hx rfl (hb hby at_39) rfl ?_
  show Steps p.tables e below (T0.setTop (mkF m 41 #[.val (.int i0), .val (.int i1), .val (.int i2), s3, s4, s5, .val (.int ((1 : Int32) + (i0 &&& (15 : Int32)))), .val (.int ((i2 &&& (255 : Int32)) - ((i2 &&& (255 : Int32)) / ((1 : Int32) + (i0 &&& (15 : Int32)))) * ((1 : Int32) + (i0 &&& (15 : Int32))))), .val (.int ((((i2.toUInt32 >>> ((8 : Int32) &&& 31).toUInt32).toInt32) &&& (255 : Int32)) - ((((i2.toUInt32 >>> ((8 : Int32) &&& 31).toUInt32).toInt32) &&& (255 : Int32)) / ((1 : Int32) + (i0 &&& (15 : Int32)))) * ((1 : Int32) + (i0 &&& (15 : Int32))))), s9, s10, s11, s12, s13] [(.int ((1 : Int32) + (i0 &&& (15 : Int32)))), (.int (((i2.toUInt32 >>> ((16 : Int32) &&& 31).toUInt32).toInt32) &&& (255 : Int32)))])) _
  refine XS.irem X0.here hx rfl (hb hby at_41) rfl hnz41 ?_
  show Steps p.tables e below (T0.setTop (mkF m 42 #[.val (.int i0), .val (.int i1), .val (.int i2), s3, s4, s5, .val (.int ((1 : Int32) + (i0 &&& (15 : Int32)))), .val (.int ((i2 &&& (255 : Int32)) - ((i2 &&& (255 : Int32)) / ((1 : Int32) + (i0 &&& (15 : Int32)))) * ((1 : Int32) + (i0 &&& (15 : Int32))))), .val (.int ((((i2.toUInt32 >>> ((8 : Int32) &&& 31).toUInt32).toInt32) &&& (255 : Int32)) - ((((i2.toUInt32 >>> ((8 : Int32) &&& 31).toUInt32).toInt32) &&& (255 : Int32)) / ((1 : Int32) + (i0 &&& (15 : Int32)))) * ((1 : Int32) + (i0 &&& (15 : Int32))))), s9, s10, s11, s12, s13] [(.int ((((i2.toUInt32 >>> ((16 : Int32) &&& 31).toUInt32).toInt32) &&& (255 : Int32)) - ((((i2.toUInt32 >>> ((16 : Int32) &&& 31).toUInt32).toInt32) &&& (255 : Int32)) / ((1 : Int32) + (i0 &&& (15 : Int32)))) * ((1 : Int32) + (i0 &&& (15 : Int32)))))])) _
  refine XS.istore X0.here hx rfl (hb hby at_42) rfl (l' := #[.val (.int i0), .val (.int i1), .val (.int i2), s3, s4, s5, .val (.int ((1 : Int32) + (i0 &&& (15 : Int32)))), .val (.int ((i2 &&& (255 : Int32)) - ((i2 &&& (255 : Int32)) / ((1 : Int32) + (i0 &&& (15 : Int32)))) * ((1 : Int32) + (i0 &&& (15 : Int32))))), .val (.int ((((i2.toUInt32 >>> ((8 : Int32) &&& 31).toUInt32).toInt32) &&& (255 : Int32)) - ((((i2.toUInt32 >>> ((8 : Int32) &&& 31).toUInt32).toInt32) &&& (255 : Int32)) / ((1 : Int32) + (i0 &&& (15 : Int32)))) * ((1 : Int32) + (i0 &&& (15 : Int32))))), .val (.int ((((i2.toUInt32 >>> ((16 : Int32) &&& 31).toUInt32).toInt32) &&& (255 : Int32)) - ((((i2.toUInt32 >>> ((16 : Int32) &&& 31).toUInt32).toInt32) &&& (255 : Int32)) / ((1 : Int32) + (i0 &&& (15 : Int32)))) * ((1 : Int32) + (i0 &&& (15 : Int32))))), s10, s11, s12, s13]) (os0_42_11 hs9) ?_
  show Steps p.tables e below (T0.setTop (mkF m 44 #[.val (.int i0), .val (.int i1), .val (.int i2), s3, s4, s5, .val (.int ((1 : Int32) + (i0 &&& (15 : Int32)))), .val (.int ((i2 &&& (255 : Int32)) - ((i2 &&& (255 : Int32)) / ((1 : Int32) + (i0 &&& (15 : Int32)))) * ((1 : Int32) + (i0 &&& (15 : Int32))))), .val (.int ((((i2.toUInt32 >>> ((8 : Int32) &&& 31).toUInt32).toInt32) &&& (255 : Int32)) - ((((i2.toUInt32 >>> ((8 : Int32) &&& 31).toUInt32).toInt32) &&& (255 : Int32)) / ((1 : Int32) + (i0 &&& (15 : Int32)))) * ((1 : Int32) + (i0 &&& (15 : Int32))))), .val (.int ((((i2.toUInt32 >>> ((16 : Int32) &&& 31).toUInt32).toInt32) &&& (255 : Int32)) - ((((i2.toUInt32 >>> ((16 : Int32) &&& 31).toUInt32).toInt32) &&& (255 : Int32)) / ((1 : Int32) + (i0 &&& (15 : Int32)))) * ((1 : Int32) + (i0 &&& (15 : Int32))))), s10, s11, s12, s13] [])) _
  refine XS.iloadN X0.here hx rfl (hb hby at_44) rfl ?_
  show Steps p.tables e below (T0.setTop (mkF m 45 #[.val (.int i0), .val (.int i1), .val (.int i2), s3, s4, s5, .val (.int ((1 : Int32) + (i0 &&& (15 : Int32)))), .val (.int ((i2 &&& (255 : Int32)) - ((i2 &&& (255 : Int32)) / ((1 : Int32) + (i0 &&& (15 : Int32)))) * ((1 : Int32) + (i0 &&& (15 : Int32))))), .val (.int ((((i2.toUInt32 >>> ((8 : Int32) &&& 31).toUInt32).toInt32) &&& (255 : Int32)) - ((((i2.toUInt32 >>> ((8 : Int32) &&& 31).toUInt32).toInt32) &&& (255 : Int32)) / ((1 : Int32) + (i0 &&& (15 : Int32)))) * ((1 : Int32) + (i0 &&& (15 : Int32))))), .val (.int ((((i2.toUInt32 >>> ((16 : Int32) &&& 31).toUInt32).toInt32) &&& (255 : Int32)) - ((((i2.toUInt32 >>> ((16 : Int32) &&& 31).toUInt32).toInt32) &&& (255 : Int32)) / ((1 : Int32) + (i0 &&& (15 : Int32)))) * ((1 : Int32) + (i0 &&& (15 : Int32))))), s10, s11, s12, s13] [(.int i1)])) _
  refine X0.ldcInt hx hown (mvT hZ (hw _ (List.mem_of_getElem? (i := 0) rfl))) (g := (mkF m 45 #[.val (.int i0), .val (.int i1), .val (.int i2), s3, s4, s5, .val (.int ((1 : Int32) + (i0 &&& (15 : Int32)))), .val (.int ((i2 &&& (255 : Int32)) - ((i2 &&& (255 : Int32)) / ((1 : Int32) + (i0 &&& (15 : Int32)))) * ((1 : Int32) + (i0 &&& (15 : Int32))))), .val (.int ((((i2.toUInt32 >>> ((8 : Int32) &&& 31).toUInt32).toInt32) &&& (255 : Int32)) - ((((i2.toUInt32 >>> ((8 : Int32) &&& 31).toUInt32).toInt32) &&& (255 : Int32)) / ((1 : Int32) + (i0 &&& (15 : Int32)))) * ((1 : Int32) + (i0 &&& (15 : Int32))))), .val (.int ((((i2.toUInt32 >>> ((16 : Int32) &&& 31).toUInt32).toInt32) &&& (255 : Int32)) - ((((i2.toUInt32 >>> ((16 : Int32) &&& 31).toUInt32).toInt32) &&& (255 : Int32)) / ((1 : Int32) + (i0 &&& (15 : Int32)))) * ((1 : Int32) + (i0 &&& (15 : Int32))))), s10, s11, s12, s13] [(.int i1)])) rfl (hb hby at_45) _ ?_
  show Steps p.tables e below (T0.setTop (mkF m 47 #[.val (.int i0), .val (.int i1), .val (.int i2), s3, s4, s5, .val (.int ((1 : Int32) + (i0 &&& (15 : Int32)))), .val (.int ((i2 &&& (255 : Int32)) - ((i2 &&& (255 : Int32)) / ((1 : Int32) + (i0 &&& (15 : Int32)))) * ((1 : Int32) + (i0 &&& (15 : Int32))))), .val (.int ((((i2.toUInt32 >>> ((8 : Int32) &&& 31).toUInt32).toInt32) &&& (255 : Int32)) - ((((i2.toUInt32 >>> ((8 : Int32) &&& 31).toUInt32).toInt32) &&& (255 : Int32)) / ((1 : Int32) + (i0 &&& (15 : Int32)))) * ((1 : Int32) + (i0 &&& (15 : Int32))))), .val (.int ((((i2.toUInt32 >>> ((16 : Int32) &&& 31).toUInt32).toInt32) &&& (255 : Int32)) - ((((i2.toUInt32 >>> ((16 : Int32) &&& 31).toUInt32).toInt32) &&& (255 : Int32)) / ((1 : Int32) + (i0 &&& (15 : Int32)))) * ((1 : Int32) + (i0 &&& (15 : Int32))))), s10, s11, s12, s13] [(.int (2147483647 : Int32)), (.int i1)])) _
  refine XS.iand X0.here hx rfl (hb hby at_47) rfl ?_
  show Steps p.tables e below (T0.setTop (mkF m 48 #[.val (.int i0), .val (.int i1), .val (.int i2), s3, s4, s5, .val (.int ((1 : Int32) + (i0 &&& (15 : Int32)))), .val (.int ((i2 &&& (255 : Int32)) - ((i2 &&& (255 : Int32)) / ((1 : Int32) + (i0 &&& (15 : Int32)))) * ((1 : Int32) + (i0 &&& (15 : Int32))))), .val (.int ((((i2.toUInt32 >>> ((8 : Int32) &&& 31).toUInt32).toInt32) &&& (255 : Int32)) - ((((i2.toUInt32 >>> ((8 : Int32) &&& 31).toUInt32).toInt32) &&& (255 : Int32)) / ((1 : Int32) + (i0 &&& (15 : Int32)))) * ((1 : Int32) + (i0 &&& (15 : Int32))))), .val (.int ((((i2.toUInt32 >>> ((16 : Int32) &&& 31).toUInt32).toInt32) &&& (255 : Int32)) - ((((i2.toUInt32 >>> ((16 : Int32) &&& 31).toUInt32).toInt32) &&& (255 : Int32)) / ((1 : Int32) + (i0 &&& (15 : Int32)))) * ((1 : Int32) + (i0 &&& (15 : Int32))))), s10, s11, s12, s13] [(.int (i1 &&& (2147483647 : Int32)))])) _
  refine XS.iload X0.here hx rfl (hb hby at_48) rfl ?_
  show Steps p.tables e below (T0.setTop (mkF m 50 #[.val (.int i0), .val (.int i1), .val (.int i2), s3, s4, s5, .val (.int ((1 : Int32) + (i0 &&& (15 : Int32)))), .val (.int ((i2 &&& (255 : Int32)) - ((i2 &&& (255 : Int32)) / ((1 : Int32) + (i0 &&& (15 : Int32)))) * ((1 : Int32) + (i0 &&& (15 : Int32))))), .val (.int ((((i2.toUInt32 >>> ((8 : Int32) &&& 31).toUInt32).toInt32) &&& (255 : Int32)) - ((((i2.toUInt32 >>> ((8 : Int32) &&& 31).toUInt32).toInt32) &&& (255 : Int32)) / ((1 : Int32) + (i0 &&& (15 : Int32)))) * ((1 : Int32) + (i0 &&& (15 : Int32))))), .val (.int ((((i2.toUInt32 >>> ((16 : Int32) &&& 31).toUInt32).toInt32) &&& (255 : Int32)) - ((((i2.toUInt32 >>> ((16 : Int32) &&& 31).toUInt32).toInt32) &&& (255 : Int32)) / ((1 : Int32) + (i0 &&& (15 : Int32)))) * ((1 : Int32) + (i0 &&& (15 : Int32))))), s10, s11, s12, s13] [(.int ((1 : Int32) + (i0 &&& (15 : Int32)))), (.int (i1 &&& (2147483647 : Int32)))])) _
  refine XS.iconst X0.here hx rfl (hb hby at_50) ?_
  show Steps p.tables e below (T0.setTop (mkF m 51 #[.val (.int i0), .val (.int i1), .val (.int i2), s3, s4, s5, .val (.int ((1 : Int32) + (i0 &&& (15 : Int32)))), .val (.int ((i2 &&& (255 : Int32)) - ((i2 &&& (255 : Int32)) / ((1 : Int32) + (i0 &&& (15 : Int32)))) * ((1 : Int32) + (i0 &&& (15 : Int32))))), .val (.int ((((i2.toUInt32 >>> ((8 : Int32) &&& 31).toUInt32).toInt32) &&& (255 : Int32)) - ((((i2.toUInt32 >>> ((8 : Int32) &&& 31).toUInt32).toInt32) &&& (255 : Int32)) / ((1 : Int32) + (i0 &&& (15 : Int32)))) * ((1 : Int32) + (i0 &&& (15 : Int32))))), .val (.int ((((i2.toUInt32 >>> ((16 : Int32) &&& 31).toUInt32).toInt32) &&& (255 : Int32)) - ((((i2.toUInt32 >>> ((16 : Int32) &&& 31).toUInt32).toInt32) &&& (255 : Int32)) / ((1 : Int32) + (i0 &&& (15 : Int32)))) * ((1 : Int32) + (i0 &&& (15 : Int32))))), s10, s11, s12, s13] [(.int (1 : Int32)), (.int ((1 : Int32) + (i0 &&& (15 : Int32)))), (.int (i1 &&& (2147483647 : Int32)))])) _
  refine XS.iadd X0.here hx rfl (hb hby at_51) rfl ?_
  show Steps p.tables e below (T0.setTop (mkF m 52 #[.val (.int i0), .val (.int i1), .val (.int i2), s3, s4, s5, .val (.int ((1 : Int32) + (i0 &&& (15 : Int32)))), .val (.int ((i2 &&& (255 : Int32)) - ((i2 &&& (255 : Int32)) / ((1 : Int32) + (i0 &&& (15 : Int32)))) * ((1 : Int32) + (i0 &&& (15 : Int32))))), .val (.int ((((i2.toUInt32 >>> ((8 : Int32) &&& 31).toUInt32).toInt32) &&& (255 : Int32)) - ((((i2.toUInt32 >>> ((8 : Int32) &&& 31).toUInt32).toInt32) &&& (255 : Int32)) / ((1 : Int32) + (i0 &&& (15 : Int32)))) * ((1 : Int32) + (i0 &&& (15 : Int32))))), .val (.int ((((i2.toUInt32 >>> ((16 : Int32) &&& 31).toUInt32).toInt32) &&& (255 : Int32)) - ((((i2.toUInt32 >>> ((16 : Int32) &&& 31).toUInt32).toInt32) &&& (255 : Int32)) / ((1 : Int32) + (i0 &&& (15 : Int32)))) * ((1 : Int32) + (i0 &&& (15 : Int32))))), s10, s11, s12, s13] [(.int (((1 : Int32) + (i0 &&& (15 : Int32))) + (1 : Int32))), (.int (i1 &&& (2147483647 : Int32)))])) _
  refine XS.irem X0.here hx rfl (hb hby at_52) rfl hnz52 ?_
  show Steps p.tables e below (T0.setTop (mkF m 53 #[.val (.int i0), .val (.int i1), .val (.int i2), s3, s4, s5, .val (.int ((1 : Int32) + (i0 &&& (15 : Int32)))), .val (.int ((i2 &&& (255 : Int32)) - ((i2 &&& (255 : Int32)) / ((1 : Int32) + (i0 &&& (15 : Int32)))) * ((1 : Int32) + (i0 &&& (15 : Int32))))), .val (.int ((((i2.toUInt32 >>> ((8 : Int32) &&& 31).toUInt32).toInt32) &&& (255 : Int32)) - ((((i2.toUInt32 >>> ((8 : Int32) &&& 31).toUInt32).toInt32) &&& (255 : Int32)) / ((1 : Int32) + (i0 &&& (15 : Int32)))) * ((1 : Int32) + (i0 &&& (15 : Int32))))), .val (.int ((((i2.toUInt32 >>> ((16 : Int32) &&& 31).toUInt32).toInt32) &&& (255 : Int32)) - ((((i2.toUInt32 >>> ((16 : Int32) &&& 31).toUInt32).toInt32) &&& (255 : Int32)) / ((1 : Int32) + (i0 &&& (15 : Int32)))) * ((1 : Int32) + (i0 &&& (15 : Int32))))), s10, s11, s12, s13] [(.int ((i1 &&& (2147483647 : Int32)) - ((i1 &&& (2147483647 : Int32)) / (((1 : Int32) + (i0 &&& (15 : Int32))) + (1 : Int32))) * (((1 : Int32) + (i0 &&& (15 : Int32))) + (1 : Int32))))])) _
  refine XS.istore X0.here hx rfl (hb hby at_53) rfl (l' := #[.val (.int i0), .val (.int i1), .val (.int i2), s3, s4, s5, .val (.int ((1 : Int32) + (i0 &&& (15 : Int32)))), .val (.int ((i2 &&& (255 : Int32)) - ((i2 &&& (255 : Int32)) / ((1 : Int32) + (i0 &&& (15 : Int32)))) * ((1 : Int32) + (i0 &&& (15 : Int32))))), .val (.int ((((i2.toUInt32 >>> ((8 : Int32) &&& 31).toUInt32).toInt32) &&& (255 : Int32)) - ((((i2.toUInt32 >>> ((8 : Int32) &&& 31).toUInt32).toInt32) &&& (255 : Int32)) / ((1 : Int32) + (i0 &&& (15 : Int32)))) * ((1 : Int32) + (i0 &&& (15 : Int32))))), .val (.int ((((i2.toUInt32 >>> ((16 : Int32) &&& 31).toUInt32).toInt32) &&& (255 : Int32)) - ((((i2.toUInt32 >>> ((16 : Int32) &&& 31).toUInt32).toInt32) &&& (255 : Int32)) / ((1 : Int32) + (i0 &&& (15 : Int32)))) * ((1 : Int32) + (i0 &&& (15 : Int32))))), .val (.int ((i1 &&& (2147483647 : Int32)) - ((i1 &&& (2147483647 : Int32)) / (((1 : Int32) + (i0 &&& (15 : Int32))) + (1 : Int32))) * (((1 : Int32) + (i0 &&& (15 : Int32))) + (1 : Int32)))), s11, s12, s13]) (os0_53_11 hs10) ?_
  exact kt
set_option maxRecDepth 65536 in
set_option maxHeartbeats 40000000 in
theorem tl_1 {p : Program} {l : Launch} {e : Env} {s : State} {m : MethodId} {args : Array Value} {below : List Frame} {meth : Method} {c : Code} {T0 : State} {Z : State} {a0 : Array Value} {h0 : Heap} (s0 : Slot) (s1 : Slot) (s2 : Slot) (i3 : Int32) (i4 : Int32) (i5 : Int32) (i6 : Int32) (i7 : Int32) (i8 : Int32) (i9 : Int32) (i10 : Int32) (s13 : Slot)
    (X0 : Stand p l e room_1 s m args below meth c T0 [] 0 0) (hx : p.tables.exec = Jvm.exec) (hZ : Z.Warmed39 s.vm) (hw : ∀ d ∈ tables_1, d.before a0 Z = true) (hby : c.code = code) (hml : c.maxLocals = 14) (hown : s.vm.findClass "com/example/pagewarden/pagewarden/locality/FenwickTreeSumBeforePinLaw" = some m.cls) (e0 : T0.heap = h0) (n0 : Nat) (Z0 : n0 ≤ h0.size) (n j1 j2 j3 je : Nat) (hn : n ≤ 16) (h1 : j1 < n) (h2 : j2 < n) (h3 : j3 < n) (he : je ≤ n) (en : i6 = Int32.ofNat n) (f7 : i7 = Int32.ofNat j1) (f8 : i8 = Int32.ofNat j2) (f9 : i9 = Int32.ofNat j3) (f10 : i10 = Int32.ofNat je) :
    ∃ (T' : State) (h' : Heap) (L' : List Loc) (b7 : Addr), Stand p l e room_1 s m args below meth c T' L' 2 18 ∧ T'.heap = h' ∧ Fr n0 L' ∧
      ∀ target, Steps p.tables e below (T'.setTop (mkF m 101 #[s0, s1, s2, .val (.int i3), .val (.int i4), .val (.int i5), .val (.int i6), .val (.int i7), .val (.int i8), .val (.int i9), .val (.int i10), .val (.ref b7), .val (.int (own_sum (own_add (n + 1) i5 17 (j3 + 1) (own_add (n + 1) i4 17 (j2 + 1) (own_add (n + 1) i3 17 (j1 + 1) (fun _ => 0)))) 17 je 0)), s13] [])) target → Steps p.tables e below (T0.setTop (mkF m 55 #[s0, s1, s2, .val (.int i3), .val (.int i4), .val (.int i5), .val (.int i6), .val (.int i7), .val (.int i8), .val (.int i9), .val (.int i10), .unset, .unset, s13] [])) target := by
  have N0 := Fr.nil n0
  obtain ⟨T7, h7, X7, e7, E7, A7, D7, -, st7⟩ := newO X0 hx hZ hown (hw _ (List.mem_of_getElem? (i := 1) rfl)) (hw _ (List.mem_of_getElem? (i := 2) rfl)) (hw _ (List.mem_of_getElem? (i := 3) rfl)) e0 (g := (mkF m 55 #[s0, s1, s2, .val (.int i3), .val (.int i4), .val (.int i5), .val (.int i6), .val (.int i7), .val (.int i8), .val (.int i9), .val (.int i10), .unset, .unset, s13] [])) rfl (hb hby at_55) (by decide) (by decide)
  obtain ⟨b7, g7⟩ : ∃ z, z = h0.size := ⟨_, rfl⟩
  rw [← g7] at A7 D7 st7
  have F_nodes_b7 : Fld Z h7 b7 "com/example/pagewarden/pagewarden/locality/FenwickTree" "nodes" "[I" .null := D7 (Or.inr (hw _ (List.mem_of_getElem? (i := 12) rfl))) (ty := (.array .int)) (by decide)
  have E_b7 := A7
  have g_b7 : n0 ≤ b7 := Nat.le_trans Z0 (Nat.le_of_eq g7.symm)
  have sz_b7 : h0.size ≤ b7 := (Nat.le_trans (Keep.refl h0 []).1 (Nat.le_of_eq g7.symm))
  have K7 : Keep h0 h7 [] := (Keep.refl h0 []).ext E7
  obtain ⟨_, _, ⟨T8, L8, k8, n8⟩, -, X8, ⟨Lc8, hQ8, l8, y8, z8⟩, st8⟩ := X7.specialBack hx (y := (⟨"com/example/pagewarden/pagewarden/locality/FenwickTree", "<init>", "(I)V"⟩ : MethodName)) rfl hown (mvT hZ (hw _ (List.mem_of_getElem? (i := 4) rfl))) (mvT hZ (hw _ (List.mem_of_getElem? (i := 5) rfl))) (mvT hZ (hw _ (List.mem_of_getElem? (i := 6) rfl))) (by decide) (backOf (W := 1) (rm1 l Z a0 hw [] b7 i6 (n + 1) (by omega) (by rw [en]; exact own_one n) h7 n0 (Nat.le_trans Z0 E7.1) E_b7 F_nodes_b7 g_b7) hZ (hw _ (List.mem_of_getElem? (i := 6) rfl)) (hw _ (List.mem_of_getElem? (i := 3) rfl)) (by decide) (by decide)) (g := (mkF m 61 #[s0, s1, s2, .val (.int i3), .val (.int i4), .val (.int i5), .val (.int i6), .val (.int i7), .val (.int i8), .val (.int i9), .val (.int i10), .unset, .unset, s13] [(.int i6), (.ref b7), (.ref b7)])) rfl (by rw [hml]; rfl) (Steps.refl _) (a := b7) (argsL := [(.int i6)]) (rest := [(.ref b7)]) (lenOf pdq_0 rfl) rfl (by show 2 * 0 + _ ≤ _; exact Nat.le_of_eq rfl) (hb hby at_61) (fun _ _ => ⟨rfl, e7, (by decide : 1 + 1 ≤ _), (by decide : 1 + 17 ≤ _)⟩)
  dsimp only [Pt.U, Pt.locs, Pt.cells, Pt.slots] at X8 l8 y8 z8 st8 hQ8
  subst l8 y8 z8
  obtain ⟨rfl, N8q, v8, HF8⟩ := hQ8
  have N8 := Fr.app N0 N8q
  obtain ⟨cq9, kq9, q9a, q9b, q9c⟩ := isOf hZ rfl HF8.2.2.2.1
  obtain ⟨_, _, ⟨T9, L9, k9, n9⟩, -, X9, ⟨Lc9, hQ9, l9, y9, z9⟩, st9⟩ := X8.virtualBack hx (y := (⟨"com/example/pagewarden/pagewarden/locality/FenwickTree", "add", "(II)V"⟩ : MethodName)) (z := (⟨"com/example/pagewarden/pagewarden/locality/FenwickTree", "add", "(II)V"⟩ : MethodName)) hown (mvT hZ (hw _ (List.mem_of_getElem? (i := 13) rfl))) (mvT hZ (hw _ (List.mem_of_getElem? (i := 14) rfl))) (notFace_of_selects (args := #[]) (mvT hZ (hw _ (List.mem_of_getElem? (i := 16) rfl)))) (mvT hZ (hw _ (List.mem_of_getElem? (i := 16) rfl))) (mvT hZ (hw _ (List.mem_of_getElem? (i := 15) rfl))) (by decide) (backOf (W := 0) (rm3 l Z a0 hw [] b7 i7 i3 v8 j1 (n + 1) (by omega) (by omega) f7 (fun _ => 0) T8.heap n0 HF8) hZ (hw _ (List.mem_of_getElem? (i := 17) rfl)) (hw _ (List.mem_of_getElem? (i := 3) rfl)) (by decide) (by decide)) q9a q9c (g := (mkF m 71 #[s0, s1, s2, .val (.int i3), .val (.int i4), .val (.int i5), .val (.int i6), .val (.int i7), .val (.int i8), .val (.int i9), .val (.int i10), .val (.ref b7), .unset, s13] [(.int i3), (.int i7), (.ref b7)])) rfl (by rw [hml]; rfl) (Steps.refl _) (argsL := [(.int i7), (.int i3)]) (rest := []) (lenOf pdq_1 rfl) rfl (by show 2 * 0 + _ ≤ _; exact Nat.le_of_eq rfl) (hb hby at_71) (fun _ _ => ⟨rfl, rfl, (by decide : 2 + 0 ≤ _), (by decide : 18 + 0 ≤ _)⟩)
  dsimp only [Pt.U, Pt.locs, Pt.cells, Pt.slots] at X9 l9 y9 z9 st9 hQ9
  subst l9 y9 z9
  obtain ⟨rfl, N9q, HF9⟩ := hQ9
  have N9 := Fr.app N8 N9q
  obtain ⟨cq10, kq10, q10a, q10b, q10c⟩ := isOf hZ rfl HF9.2.2.2.1
  obtain ⟨_, _, ⟨T10, L10, k10, n10⟩, -, X10, ⟨Lc10, hQ10, l10, y10, z10⟩, st10⟩ := X9.virtualBack hx (y := (⟨"com/example/pagewarden/pagewarden/locality/FenwickTree", "add", "(II)V"⟩ : MethodName)) (z := (⟨"com/example/pagewarden/pagewarden/locality/FenwickTree", "add", "(II)V"⟩ : MethodName)) hown (mvT hZ (hw _ (List.mem_of_getElem? (i := 13) rfl))) (mvT hZ (hw _ (List.mem_of_getElem? (i := 14) rfl))) (notFace_of_selects (args := #[]) (mvT hZ (hw _ (List.mem_of_getElem? (i := 16) rfl)))) (mvT hZ (hw _ (List.mem_of_getElem? (i := 16) rfl))) (mvT hZ (hw _ (List.mem_of_getElem? (i := 15) rfl))) (by decide) (backOf (W := 0) (rm3 l Z a0 hw [] b7 i8 i4 v8 j2 (n + 1) (by omega) (by omega) f8 (own_add (n + 1) i3 17 (j1 + 1) (fun _ => 0)) T9.heap n0 HF9) hZ (hw _ (List.mem_of_getElem? (i := 17) rfl)) (hw _ (List.mem_of_getElem? (i := 3) rfl)) (by decide) (by decide)) q10a q10c (g := (mkF m 80 #[s0, s1, s2, .val (.int i3), .val (.int i4), .val (.int i5), .val (.int i6), .val (.int i7), .val (.int i8), .val (.int i9), .val (.int i10), .val (.ref b7), .unset, s13] [(.int i4), (.int i8), (.ref b7)])) rfl (by rw [hml]; rfl) (Steps.refl _) (argsL := [(.int i8), (.int i4)]) (rest := []) (lenOf pdq_1 rfl) rfl (by show 2 * 0 + _ ≤ _; exact Nat.le_of_eq rfl) (hb hby at_80) (fun _ _ => ⟨rfl, rfl, (by decide : 2 + 0 ≤ _), (by decide : 18 + 0 ≤ _)⟩)
  dsimp only [Pt.U, Pt.locs, Pt.cells, Pt.slots] at X10 l10 y10 z10 st10 hQ10
  subst l10 y10 z10
  obtain ⟨rfl, N10q, HF10⟩ := hQ10
  have N10 := Fr.app N9 N10q
  obtain ⟨cq11, kq11, q11a, q11b, q11c⟩ := isOf hZ rfl HF10.2.2.2.1
  obtain ⟨_, _, ⟨T11, L11, k11, n11⟩, -, X11, ⟨Lc11, hQ11, l11, y11, z11⟩, st11⟩ := X10.virtualBack hx (y := (⟨"com/example/pagewarden/pagewarden/locality/FenwickTree", "add", "(II)V"⟩ : MethodName)) (z := (⟨"com/example/pagewarden/pagewarden/locality/FenwickTree", "add", "(II)V"⟩ : MethodName)) hown (mvT hZ (hw _ (List.mem_of_getElem? (i := 13) rfl))) (mvT hZ (hw _ (List.mem_of_getElem? (i := 14) rfl))) (notFace_of_selects (args := #[]) (mvT hZ (hw _ (List.mem_of_getElem? (i := 16) rfl)))) (mvT hZ (hw _ (List.mem_of_getElem? (i := 16) rfl))) (mvT hZ (hw _ (List.mem_of_getElem? (i := 15) rfl))) (by decide) (backOf (W := 0) (rm3 l Z a0 hw [] b7 i9 i5 v8 j3 (n + 1) (by omega) (by omega) f9 (own_add (n + 1) i4 17 (j2 + 1) (own_add (n + 1) i3 17 (j1 + 1) (fun _ => 0))) T10.heap n0 HF10) hZ (hw _ (List.mem_of_getElem? (i := 17) rfl)) (hw _ (List.mem_of_getElem? (i := 3) rfl)) (by decide) (by decide)) q11a q11c (g := (mkF m 89 #[s0, s1, s2, .val (.int i3), .val (.int i4), .val (.int i5), .val (.int i6), .val (.int i7), .val (.int i8), .val (.int i9), .val (.int i10), .val (.ref b7), .unset, s13] [(.int i5), (.int i9), (.ref b7)])) rfl (by rw [hml]; rfl) (Steps.refl _) (argsL := [(.int i9), (.int i5)]) (rest := []) (lenOf pdq_1 rfl) rfl (by show 2 * 0 + _ ≤ _; exact Nat.le_of_eq rfl) (hb hby at_89) (fun _ _ => ⟨rfl, rfl, (by decide : 2 + 0 ≤ _), (by decide : 18 + 0 ≤ _)⟩)
  dsimp only [Pt.U, Pt.locs, Pt.cells, Pt.slots] at X11 l11 y11 z11 st11 hQ11
  subst l11 y11 z11
  obtain ⟨rfl, N11q, HF11⟩ := hQ11
  have N11 := Fr.app N10 N11q
  obtain ⟨cq12, kq12, q12a, q12b, q12c⟩ := isOf hZ rfl HF11.2.2.2.1
  obtain ⟨_, _, ⟨T12, L12, k12, n12⟩, -, X12, ⟨Lc12, hQ12, l12, y12, z12⟩, st12⟩ := X11.virtualBack hx (y := (⟨"com/example/pagewarden/pagewarden/locality/FenwickTree", "sumBefore", "(I)I"⟩ : MethodName)) (z := (⟨"com/example/pagewarden/pagewarden/locality/FenwickTree", "sumBefore", "(I)I"⟩ : MethodName)) hown (mvT hZ (hw _ (List.mem_of_getElem? (i := 18) rfl))) (mvT hZ (hw _ (List.mem_of_getElem? (i := 19) rfl))) (notFace_of_selects (args := #[]) (mvT hZ (hw _ (List.mem_of_getElem? (i := 21) rfl)))) (mvT hZ (hw _ (List.mem_of_getElem? (i := 21) rfl))) (mvT hZ (hw _ (List.mem_of_getElem? (i := 20) rfl))) (by decide) (backOf (W := 0) (rm4 l Z a0 hw [] b7 i10 v8 je (n + 1) (by omega) (by omega) f10 (own_add (n + 1) i5 17 (j3 + 1) (own_add (n + 1) i4 17 (j2 + 1) (own_add (n + 1) i3 17 (j1 + 1) (fun _ => 0)))) T11.heap n0 HF11) hZ (hw _ (List.mem_of_getElem? (i := 22) rfl)) (hw _ (List.mem_of_getElem? (i := 3) rfl)) (by decide) (by decide)) q12a q12c (g := (mkF m 96 #[s0, s1, s2, .val (.int i3), .val (.int i4), .val (.int i5), .val (.int i6), .val (.int i7), .val (.int i8), .val (.int i9), .val (.int i10), .val (.ref b7), .unset, s13] [(.int i10), (.ref b7)])) rfl (by rw [hml]; rfl) (Steps.refl _) (argsL := [(.int i10)]) (rest := []) (lenOf pdq_2 rfl) rfl (by show 2 * 0 + _ ≤ _; exact Nat.le_of_eq rfl) (hb hby at_96) (fun _ _ => ⟨rfl, rfl, (by decide : 2 + 0 ≤ _), (by decide : 18 + 0 ≤ _)⟩)
  dsimp only [Pt.U, Pt.locs, Pt.cells, Pt.slots] at X12 l12 y12 z12 st12 hQ12
  subst l12 y12 z12
  obtain ⟨rfl, N12q, e12⟩ := hQ12
  have N12 := Fr.app N11 N12q
  refine ⟨T12, _, _, b7, X12, rfl, N12, fun target kt => ?_⟩
  show Steps p.tables e below (T0.setTop (mkF m 55 #[s0, s1, s2, .val (.int i3), .val (.int i4), .val (.int i5), .val (.int i6), .val (.int i7), .val (.int i8), .val (.int i9), .val (.int i10), .unset, .unset, s13] [])) _
  refine st7 _ ?_
  show Steps p.tables e below (T7.setTop (mkF m 58 #[s0, s1, s2, .val (.int i3), .val (.int i4), .val (.int i5), .val (.int i6), .val (.int i7), .val (.int i8), .val (.int i9), .val (.int i10), .unset, .unset, s13] [(.ref b7)])) _
  refine XS.dup X7.here hx rfl (hb hby at_58) rfl rfl ?_
  show Steps p.tables e below (T7.setTop (mkF m 59 #[s0, s1, s2, .val (.int i3), .val (.int i4), .val (.int i5), .val (.int i6), .val (.int i7), .val (.int i8), .val (.int i9), .val (.int i10), .unset, .unset, s13] [(.ref b7), (.ref b7)])) _
  refine XS.iload X7.here hx rfl (hb hby at_59) rfl ?_
  show Steps p.tables e below (T7.setTop (mkF m 61 #[s0, s1, s2, .val (.int i3), .val (.int i4), .val (.int i5), .val (.int i6), .val (.int i7), .val (.int i8), .val (.int i9), .val (.int i10), .unset, .unset, s13] [(.int i6), (.ref b7), (.ref b7)])) _
  refine st8.trans ?_
  show Steps p.tables e below (T8.setTop (mkF m 64 #[s0, s1, s2, .val (.int i3), .val (.int i4), .val (.int i5), .val (.int i6), .val (.int i7), .val (.int i8), .val (.int i9), .val (.int i10), .unset, .unset, s13] [(.ref b7)])) _
  refine XS.astore X8.here hx rfl (hb hby at_64) rfl rfl (l' := #[s0, s1, s2, .val (.int i3), .val (.int i4), .val (.int i5), .val (.int i6), .val (.int i7), .val (.int i8), .val (.int i9), .val (.int i10), .val (.ref b7), .unset, s13]) rfl ?_
  show Steps p.tables e below (T8.setTop (mkF m 66 #[s0, s1, s2, .val (.int i3), .val (.int i4), .val (.int i5), .val (.int i6), .val (.int i7), .val (.int i8), .val (.int i9), .val (.int i10), .val (.ref b7), .unset, s13] [])) _
  refine XS.aload X8.here hx rfl (hb hby at_66) rfl rfl ?_
  show Steps p.tables e below (T8.setTop (mkF m 68 #[s0, s1, s2, .val (.int i3), .val (.int i4), .val (.int i5), .val (.int i6), .val (.int i7), .val (.int i8), .val (.int i9), .val (.int i10), .val (.ref b7), .unset, s13] [(.ref b7)])) _
  refine XS.iload X8.here hx rfl (hb hby at_68) rfl ?_
  show Steps p.tables e below (T8.setTop (mkF m 70 #[s0, s1, s2, .val (.int i3), .val (.int i4), .val (.int i5), .val (.int i6), .val (.int i7), .val (.int i8), .val (.int i9), .val (.int i10), .val (.ref b7), .unset, s13] [(.int i7), (.ref b7)])) _
  refine XS.iloadN X8.here hx rfl (hb hby at_70) rfl ?_
  show Steps p.tables e below (T8.setTop (mkF m 71 #[s0, s1, s2, .val (.int i3), .val (.int i4), .val (.int i5), .val (.int i6), .val (.int i7), .val (.int i8), .val (.int i9), .val (.int i10), .val (.ref b7), .unset, s13] [(.int i3), (.int i7), (.ref b7)])) _
  refine st9.trans ?_
  show Steps p.tables e below (T9.setTop (mkF m 74 #[s0, s1, s2, .val (.int i3), .val (.int i4), .val (.int i5), .val (.int i6), .val (.int i7), .val (.int i8), .val (.int i9), .val (.int i10), .val (.ref b7), .unset, s13] [])) _
  refine XS.aload X9.here hx rfl (hb hby at_74) rfl rfl ?_
  show Steps p.tables e below (T9.setTop (mkF m 76 #[s0, s1, s2, .val (.int i3), .val (.int i4), .val (.int i5), .val (.int i6), .val (.int i7), .val (.int i8), .val (.int i9), .val (.int i10), .val (.ref b7), .unset, s13] [(.ref b7)])) _
  refine XS.iload X9.here hx rfl (hb hby at_76) rfl ?_
  show Steps p.tables e below (T9.setTop (mkF m 78 #[s0, s1, s2, .val (.int i3), .val (.int i4), .val (.int i5), .val (.int i6), .val (.int i7), .val (.int i8), .val (.int i9), .val (.int i10), .val (.ref b7), .unset, s13] [(.int i8), (.ref b7)])) _
  refine XS.iload X9.here hx rfl (hb hby at_78) rfl ?_
  show Steps p.tables e below (T9.setTop (mkF m 80 #[s0, s1, s2, .val (.int i3), .val (.int i4), .val (.int i5), .val (.int i6), .val (.int i7), .val (.int i8), .val (.int i9), .val (.int i10), .val (.ref b7), .unset, s13] [(.int i4), (.int i8), (.ref b7)])) _
  refine st10.trans ?_
  show Steps p.tables e below (T10.setTop (mkF m 83 #[s0, s1, s2, .val (.int i3), .val (.int i4), .val (.int i5), .val (.int i6), .val (.int i7), .val (.int i8), .val (.int i9), .val (.int i10), .val (.ref b7), .unset, s13] [])) _
  refine XS.aload X10.here hx rfl (hb hby at_83) rfl rfl ?_
  show Steps p.tables e below (T10.setTop (mkF m 85 #[s0, s1, s2, .val (.int i3), .val (.int i4), .val (.int i5), .val (.int i6), .val (.int i7), .val (.int i8), .val (.int i9), .val (.int i10), .val (.ref b7), .unset, s13] [(.ref b7)])) _
  refine XS.iload X10.here hx rfl (hb hby at_85) rfl ?_
  show Steps p.tables e below (T10.setTop (mkF m 87 #[s0, s1, s2, .val (.int i3), .val (.int i4), .val (.int i5), .val (.int i6), .val (.int i7), .val (.int i8), .val (.int i9), .val (.int i10), .val (.ref b7), .unset, s13] [(.int i9), (.ref b7)])) _
  refine XS.iload X10.here hx rfl (hb hby at_87) rfl ?_
  show Steps p.tables e below (T10.setTop (mkF m 89 #[s0, s1, s2, .val (.int i3), .val (.int i4), .val (.int i5), .val (.int i6), .val (.int i7), .val (.int i8), .val (.int i9), .val (.int i10), .val (.ref b7), .unset, s13] [(.int i5), (.int i9), (.ref b7)])) _
  refine st11.trans ?_
  show Steps p.tables e below (T11.setTop (mkF m 92 #[s0, s1, s2, .val (.int i3), .val (.int i4), .val (.int i5), .val (.int i6), .val (.int i7), .val (.int i8), .val (.int i9), .val (.int i10), .val (.ref b7), .unset, s13] [])) _
  refine XS.aload X11.here hx rfl (hb hby at_92) rfl rfl ?_
  show Steps p.tables e below (T11.setTop (mkF m 94 #[s0, s1, s2, .val (.int i3), .val (.int i4), .val (.int i5), .val (.int i6), .val (.int i7), .val (.int i8), .val (.int i9), .val (.int i10), .val (.ref b7), .unset, s13] [(.ref b7)])) _
  refine XS.iload X11.here hx rfl (hb hby at_94) rfl ?_
  show Steps p.tables e below (T11.setTop (mkF m 96 #[s0, s1, s2, .val (.int i3), .val (.int i4), .val (.int i5), .val (.int i6), .val (.int i7), .val (.int i8), .val (.int i9), .val (.int i10), .val (.ref b7), .unset, s13] [(.int i10), (.ref b7)])) _
  refine st12.trans ?_
  show Steps p.tables e below (T12.setTop (mkF m 99 #[s0, s1, s2, .val (.int i3), .val (.int i4), .val (.int i5), .val (.int i6), .val (.int i7), .val (.int i8), .val (.int i9), .val (.int i10), .val (.ref b7), .unset, s13] [(.int (own_sum (own_add (n + 1) i5 17 (j3 + 1) (own_add (n + 1) i4 17 (j2 + 1) (own_add (n + 1) i3 17 (j1 + 1) (fun _ => 0)))) 17 je 0))])) _
  refine XS.istore X12.here hx rfl (hb hby at_99) rfl (l' := #[s0, s1, s2, .val (.int i3), .val (.int i4), .val (.int i5), .val (.int i6), .val (.int i7), .val (.int i8), .val (.int i9), .val (.int i10), .val (.ref b7), .val (.int (own_sum (own_add (n + 1) i5 17 (j3 + 1) (own_add (n + 1) i4 17 (j2 + 1) (own_add (n + 1) i3 17 (j1 + 1) (fun _ => 0)))) 17 je 0)), s13]) rfl ?_
  exact kt
set_option maxRecDepth 65536 in
set_option maxHeartbeats 40000000 in
theorem tl_2 {p : Program} {l : Launch} {e : Env} {R : Room} {s : State} {m : MethodId} {args : Array Value} {below : List Frame} {meth : Method} {c : Code} {T0 : State} {locs : List Loc} {cells slots : Nat} {Z : State} {a0 : Array Value} {h0 : Heap} (s0 : Slot) (s1 : Slot) (s2 : Slot) (s3 : Slot) (s4 : Slot) (s5 : Slot) (s6 : Slot) (s7 : Slot) (s8 : Slot) (s9 : Slot) (s10 : Slot) (s11 : Slot) (s12 : Slot) (s13 : Slot)
    (X0 : Stand p l e R s m args below meth c T0 locs cells slots) (hx : p.tables.exec = Jvm.exec) (hZ : Z.Warmed39 s.vm) (hw : ∀ d ∈ tables_1, d.before a0 Z = true) (hby : c.code = code) (hml : c.maxLocals = 14) (hown : s.vm.findClass "com/example/pagewarden/pagewarden/locality/FenwickTreeSumBeforePinLaw" = some m.cls) (e0 : T0.heap = h0) (hs13 : One s13) :
    ∀ target, Steps p.tables e below (T0.setTop (mkF m 104 #[s0, s1, s2, s3, s4, s5, s6, s7, s8, s9, s10, s11, s12, .val (.int (0 : Int32))] [])) target → Steps p.tables e below (T0.setTop (mkF m 101 #[s0, s1, s2, s3, s4, s5, s6, s7, s8, s9, s10, s11, s12, s13] [])) target := by
  intro target kt
  show Steps p.tables e below (T0.setTop (mkF m 101 #[s0, s1, s2, s3, s4, s5, s6, s7, s8, s9, s10, s11, s12, s13] [])) _
  refine XS.iconst X0.here hx rfl (hb hby at_101) ?_
  show Steps p.tables e below (T0.setTop (mkF m 102 #[s0, s1, s2, s3, s4, s5, s6, s7, s8, s9, s10, s11, s12, s13] [(.int (0 : Int32))])) _
  refine XS.istore X0.here hx rfl (hb hby at_102) rfl (l' := #[s0, s1, s2, s3, s4, s5, s6, s7, s8, s9, s10, s11, s12, .val (.int (0 : Int32))]) (os0_102_13 hs13) ?_
  exact kt
set_option maxRecDepth 65536 in
set_option maxHeartbeats 40000000 in
theorem tl_y0 {p : Program} {l : Launch} {e : Env} {R : Room} {s : State} {m : MethodId} {args : Array Value} {below : List Frame} {meth : Method} {c : Code} {T0 : State} {locs : List Loc} {cells slots : Nat} {Z : State} {a0 : Array Value} {h0 : Heap} (s0 : Slot) (s1 : Slot) (s2 : Slot) (i3 : Int32) (s4 : Slot) (s5 : Slot) (s6 : Slot) (i7 : Int32) (s8 : Slot) (s9 : Slot) (i10 : Int32) (s11 : Slot) (s12 : Slot) (i13 : Int32)
    (X0 : Stand p l e R s m args below meth c T0 locs cells slots) (hx : p.tables.exec = Jvm.exec) (hZ : Z.Warmed39 s.vm) (hw : ∀ d ∈ tables_1, d.before a0 Z = true) (hby : c.code = code) (hml : c.maxLocals = 14) (hown : s.vm.findClass "com/example/pagewarden/pagewarden/locality/FenwickTreeSumBeforePinLaw" = some m.cls) (e0 : T0.heap = h0) (hc108 : i7 < i10) :
    ∀ target, Steps p.tables e below (T0.setTop (mkF m 117 #[s0, s1, s2, .val (.int i3), s4, s5, s6, .val (.int i7), s8, s9, .val (.int i10), s11, s12, .val (.int (i13 + i3))] [])) target → Steps p.tables e below (T0.setTop (mkF m 104 #[s0, s1, s2, .val (.int i3), s4, s5, s6, .val (.int i7), s8, s9, .val (.int i10), s11, s12, .val (.int i13)] [])) target := by
  intro target kt
  show Steps p.tables e below (T0.setTop (mkF m 104 #[s0, s1, s2, .val (.int i3), s4, s5, s6, .val (.int i7), s8, s9, .val (.int i10), s11, s12, .val (.int i13)] [])) _
  refine XS.iload X0.here hx rfl (hb hby at_104) rfl ?_
  show Steps p.tables e below (T0.setTop (mkF m 106 #[s0, s1, s2, .val (.int i3), s4, s5, s6, .val (.int i7), s8, s9, .val (.int i10), s11, s12, .val (.int i13)] [(.int i7)])) _
  refine XS.iload X0.here hx rfl (hb hby at_106) rfl ?_
  show Steps p.tables e below (T0.setTop (mkF m 108 #[s0, s1, s2, .val (.int i3), s4, s5, s6, .val (.int i7), s8, s9, .val (.int i10), s11, s12, .val (.int i13)] [(.int i10), (.int i7)])) _
  refine XS.icmpNo X0.here hx rfl (hb hby at_108) rfl (tlt hc108).2.1 ?_
  show Steps p.tables e below (T0.setTop (mkF m 111 #[s0, s1, s2, .val (.int i3), s4, s5, s6, .val (.int i7), s8, s9, .val (.int i10), s11, s12, .val (.int i13)] [])) _
  refine XS.iload X0.here hx rfl (hb hby at_111) rfl ?_
  show Steps p.tables e below (T0.setTop (mkF m 113 #[s0, s1, s2, .val (.int i3), s4, s5, s6, .val (.int i7), s8, s9, .val (.int i10), s11, s12, .val (.int i13)] [(.int i13)])) _
  refine XS.iloadN X0.here hx rfl (hb hby at_113) rfl ?_
  show Steps p.tables e below (T0.setTop (mkF m 114 #[s0, s1, s2, .val (.int i3), s4, s5, s6, .val (.int i7), s8, s9, .val (.int i10), s11, s12, .val (.int i13)] [(.int i3), (.int i13)])) _
  refine XS.iadd X0.here hx rfl (hb hby at_114) rfl ?_
  show Steps p.tables e below (T0.setTop (mkF m 115 #[s0, s1, s2, .val (.int i3), s4, s5, s6, .val (.int i7), s8, s9, .val (.int i10), s11, s12, .val (.int i13)] [(.int (i13 + i3))])) _
  refine XS.istore X0.here hx rfl (hb hby at_115) rfl (l' := #[s0, s1, s2, .val (.int i3), s4, s5, s6, .val (.int i7), s8, s9, .val (.int i10), s11, s12, .val (.int (i13 + i3))]) rfl ?_
  exact kt
set_option maxRecDepth 65536 in
set_option maxHeartbeats 40000000 in
theorem tl_n0 {p : Program} {l : Launch} {e : Env} {R : Room} {s : State} {m : MethodId} {args : Array Value} {below : List Frame} {meth : Method} {c : Code} {T0 : State} {locs : List Loc} {cells slots : Nat} {Z : State} {a0 : Array Value} {h0 : Heap} (s0 : Slot) (s1 : Slot) (s2 : Slot) (s3 : Slot) (s4 : Slot) (s5 : Slot) (s6 : Slot) (i7 : Int32) (s8 : Slot) (s9 : Slot) (i10 : Int32) (s11 : Slot) (s12 : Slot) (s13 : Slot)
    (X0 : Stand p l e R s m args below meth c T0 locs cells slots) (hx : p.tables.exec = Jvm.exec) (hZ : Z.Warmed39 s.vm) (hw : ∀ d ∈ tables_1, d.before a0 Z = true) (hby : c.code = code) (hml : c.maxLocals = 14) (hown : s.vm.findClass "com/example/pagewarden/pagewarden/locality/FenwickTreeSumBeforePinLaw" = some m.cls) (e0 : T0.heap = h0) (hc108 : ¬ (i7 < i10)) :
    ∀ target, Steps p.tables e below (T0.setTop (mkF m 117 #[s0, s1, s2, s3, s4, s5, s6, .val (.int i7), s8, s9, .val (.int i10), s11, s12, s13] [])) target → Steps p.tables e below (T0.setTop (mkF m 104 #[s0, s1, s2, s3, s4, s5, s6, .val (.int i7), s8, s9, .val (.int i10), s11, s12, s13] [])) target := by
  intro target kt
  show Steps p.tables e below (T0.setTop (mkF m 104 #[s0, s1, s2, s3, s4, s5, s6, .val (.int i7), s8, s9, .val (.int i10), s11, s12, s13] [])) _
  refine XS.iload X0.here hx rfl (hb hby at_104) rfl ?_
  show Steps p.tables e below (T0.setTop (mkF m 106 #[s0, s1, s2, s3, s4, s5, s6, .val (.int i7), s8, s9, .val (.int i10), s11, s12, s13] [(.int i7)])) _
  refine XS.iload X0.here hx rfl (hb hby at_106) rfl ?_
  show Steps p.tables e below (T0.setTop (mkF m 108 #[s0, s1, s2, s3, s4, s5, s6, .val (.int i7), s8, s9, .val (.int i10), s11, s12, s13] [(.int i10), (.int i7)])) _
  refine XS.icmpYes X0.here hx rfl (pc0 := 108) (pc' := 117) rfl (hb hby at_108) rfl (flt hc108).2.1 (by decide) (by decide) ?_
  exact kt
set_option maxRecDepth 65536 in
set_option maxHeartbeats 40000000 in
theorem tl_y1 {p : Program} {l : Launch} {e : Env} {R : Room} {s : State} {m : MethodId} {args : Array Value} {below : List Frame} {meth : Method} {c : Code} {T0 : State} {locs : List Loc} {cells slots : Nat} {Z : State} {a0 : Array Value} {h0 : Heap} (s0 : Slot) (s1 : Slot) (s2 : Slot) (s3 : Slot) (i4 : Int32) (s5 : Slot) (s6 : Slot) (s7 : Slot) (i8 : Int32) (s9 : Slot) (i10 : Int32) (s11 : Slot) (s12 : Slot) (i13 : Int32)
    (X0 : Stand p l e R s m args below meth c T0 locs cells slots) (hx : p.tables.exec = Jvm.exec) (hZ : Z.Warmed39 s.vm) (hw : ∀ d ∈ tables_1, d.before a0 Z = true) (hby : c.code = code) (hml : c.maxLocals = 14) (hown : s.vm.findClass "com/example/pagewarden/pagewarden/locality/FenwickTreeSumBeforePinLaw" = some m.cls) (e0 : T0.heap = h0) (hc121 : i8 < i10) :
    ∀ target, Steps p.tables e below (T0.setTop (mkF m 131 #[s0, s1, s2, s3, .val (.int i4), s5, s6, s7, .val (.int i8), s9, .val (.int i10), s11, s12, .val (.int (i13 + i4))] [])) target → Steps p.tables e below (T0.setTop (mkF m 117 #[s0, s1, s2, s3, .val (.int i4), s5, s6, s7, .val (.int i8), s9, .val (.int i10), s11, s12, .val (.int i13)] [])) target := by
  intro target kt
  show Steps p.tables e below (T0.setTop (mkF m 117 #[s0, s1, s2, s3, .val (.int i4), s5, s6, s7, .val (.int i8), s9, .val (.int i10), s11, s12, .val (.int i13)] [])) _
  refine XS.iload X0.here hx rfl (hb hby at_117) rfl ?_
  show Steps p.tables e below (T0.setTop (mkF m 119 #[s0, s1, s2, s3, .val (.int i4), s5, s6, s7, .val (.int i8), s9, .val (.int i10), s11, s12, .val (.int i13)] [(.int i8)])) _
  refine XS.iload X0.here hx rfl (hb hby at_119) rfl ?_
  show Steps p.tables e below (T0.setTop (mkF m 121 #[s0, s1, s2, s3, .val (.int i4), s5, s6, s7, .val (.int i8), s9, .val (.int i10), s11, s12, .val (.int i13)] [(.int i10), (.int i8)])) _
  refine XS.icmpNo X0.here hx rfl (hb hby at_121) rfl (tlt hc121).2.1 ?_
  show Steps p.tables e below (T0.setTop (mkF m 124 #[s0, s1, s2, s3, .val (.int i4), s5, s6, s7, .val (.int i8), s9, .val (.int i10), s11, s12, .val (.int i13)] [])) _
  refine XS.iload X0.here hx rfl (hb hby at_124) rfl ?_
  show Steps p.tables e below (T0.setTop (mkF m 126 #[s0, s1, s2, s3, .val (.int i4), s5, s6, s7, .val (.int i8), s9, .val (.int i10), s11, s12, .val (.int i13)] [(.int i13)])) _
  refine XS.iload X0.here hx rfl (hb hby at_126) rfl ?_
  show Steps p.tables e below (T0.setTop (mkF m 128 #[s0, s1, s2, s3, .val (.int i4), s5, s6, s7, .val (.int i8), s9, .val (.int i10), s11, s12, .val (.int i13)] [(.int i4), (.int i13)])) _
  refine XS.iadd X0.here hx rfl (hb hby at_128) rfl ?_
  show Steps p.tables e below (T0.setTop (mkF m 129 #[s0, s1, s2, s3, .val (.int i4), s5, s6, s7, .val (.int i8), s9, .val (.int i10), s11, s12, .val (.int i13)] [(.int (i13 + i4))])) _
  refine XS.istore X0.here hx rfl (hb hby at_129) rfl (l' := #[s0, s1, s2, s3, .val (.int i4), s5, s6, s7, .val (.int i8), s9, .val (.int i10), s11, s12, .val (.int (i13 + i4))]) rfl ?_
  exact kt
set_option maxRecDepth 65536 in
set_option maxHeartbeats 40000000 in
theorem tl_n1 {p : Program} {l : Launch} {e : Env} {R : Room} {s : State} {m : MethodId} {args : Array Value} {below : List Frame} {meth : Method} {c : Code} {T0 : State} {locs : List Loc} {cells slots : Nat} {Z : State} {a0 : Array Value} {h0 : Heap} (s0 : Slot) (s1 : Slot) (s2 : Slot) (s3 : Slot) (s4 : Slot) (s5 : Slot) (s6 : Slot) (s7 : Slot) (i8 : Int32) (s9 : Slot) (i10 : Int32) (s11 : Slot) (s12 : Slot) (s13 : Slot)
    (X0 : Stand p l e R s m args below meth c T0 locs cells slots) (hx : p.tables.exec = Jvm.exec) (hZ : Z.Warmed39 s.vm) (hw : ∀ d ∈ tables_1, d.before a0 Z = true) (hby : c.code = code) (hml : c.maxLocals = 14) (hown : s.vm.findClass "com/example/pagewarden/pagewarden/locality/FenwickTreeSumBeforePinLaw" = some m.cls) (e0 : T0.heap = h0) (hc121 : ¬ (i8 < i10)) :
    ∀ target, Steps p.tables e below (T0.setTop (mkF m 131 #[s0, s1, s2, s3, s4, s5, s6, s7, .val (.int i8), s9, .val (.int i10), s11, s12, s13] [])) target → Steps p.tables e below (T0.setTop (mkF m 117 #[s0, s1, s2, s3, s4, s5, s6, s7, .val (.int i8), s9, .val (.int i10), s11, s12, s13] [])) target := by
  intro target kt
  show Steps p.tables e below (T0.setTop (mkF m 117 #[s0, s1, s2, s3, s4, s5, s6, s7, .val (.int i8), s9, .val (.int i10), s11, s12, s13] [])) _
  refine XS.iload X0.here hx rfl (hb hby at_117) rfl ?_
  show Steps p.tables e below (T0.setTop (mkF m 119 #[s0, s1, s2, s3, s4, s5, s6, s7, .val (.int i8), s9, .val (.int i10), s11, s12, s13] [(.int i8)])) _
  refine XS.iload X0.here hx rfl (hb hby at_119) rfl ?_
  show Steps p.tables e below (T0.setTop (mkF m 121 #[s0, s1, s2, s3, s4, s5, s6, s7, .val (.int i8), s9, .val (.int i10), s11, s12, s13] [(.int i10), (.int i8)])) _
  refine XS.icmpYes X0.here hx rfl (pc0 := 121) (pc' := 131) rfl (hb hby at_121) rfl (flt hc121).2.1 (by decide) (by decide) ?_
  exact kt
set_option maxRecDepth 65536 in
set_option maxHeartbeats 40000000 in
theorem tl_y2 {p : Program} {l : Launch} {e : Env} {R : Room} {s : State} {m : MethodId} {args : Array Value} {below : List Frame} {meth : Method} {c : Code} {T0 : State} {locs : List Loc} {cells slots : Nat} {Z : State} {a0 : Array Value} {h0 : Heap} (s0 : Slot) (s1 : Slot) (s2 : Slot) (s3 : Slot) (s4 : Slot) (i5 : Int32) (s6 : Slot) (s7 : Slot) (s8 : Slot) (i9 : Int32) (i10 : Int32) (s11 : Slot) (s12 : Slot) (i13 : Int32)
    (X0 : Stand p l e R s m args below meth c T0 locs cells slots) (hx : p.tables.exec = Jvm.exec) (hZ : Z.Warmed39 s.vm) (hw : ∀ d ∈ tables_1, d.before a0 Z = true) (hby : c.code = code) (hml : c.maxLocals = 14) (hown : s.vm.findClass "com/example/pagewarden/pagewarden/locality/FenwickTreeSumBeforePinLaw" = some m.cls) (e0 : T0.heap = h0) (hc135 : i9 < i10) :
    ∀ target, Steps p.tables e below (T0.setTop (mkF m 145 #[s0, s1, s2, s3, s4, .val (.int i5), s6, s7, s8, .val (.int i9), .val (.int i10), s11, s12, .val (.int (i13 + i5))] [])) target → Steps p.tables e below (T0.setTop (mkF m 131 #[s0, s1, s2, s3, s4, .val (.int i5), s6, s7, s8, .val (.int i9), .val (.int i10), s11, s12, .val (.int i13)] [])) target := by
  intro target kt
  show Steps p.tables e below (T0.setTop (mkF m 131 #[s0, s1, s2, s3, s4, .val (.int i5), s6, s7, s8, .val (.int i9), .val (.int i10), s11, s12, .val (.int i13)] [])) _
  refine XS.iload X0.here hx rfl (hb hby at_131) rfl ?_
  show Steps p.tables e below (T0.setTop (mkF m 133 #[s0, s1, s2, s3, s4, .val (.int i5), s6, s7, s8, .val (.int i9), .val (.int i10), s11, s12, .val (.int i13)] [(.int i9)])) _
  refine XS.iload X0.here hx rfl (hb hby at_133) rfl ?_
  show Steps p.tables e below (T0.setTop (mkF m 135 #[s0, s1, s2, s3, s4, .val (.int i5), s6, s7, s8, .val (.int i9), .val (.int i10), s11, s12, .val (.int i13)] [(.int i10), (.int i9)])) _
  refine XS.icmpNo X0.here hx rfl (hb hby at_135) rfl (tlt hc135).2.1 ?_
  show Steps p.tables e below (T0.setTop (mkF m 138 #[s0, s1, s2, s3, s4, .val (.int i5), s6, s7, s8, .val (.int i9), .val (.int i10), s11, s12, .val (.int i13)] [])) _
  refine XS.iload X0.here hx rfl (hb hby at_138) rfl ?_
  show Steps p.tables e below (T0.setTop (mkF m 140 #[s0, s1, s2, s3, s4, .val (.int i5), s6, s7, s8, .val (.int i9), .val (.int i10), s11, s12, .val (.int i13)] [(.int i13)])) _
  refine XS.iload X0.here hx rfl (hb hby at_140) rfl ?_
  show Steps p.tables e below (T0.setTop (mkF m 142 #[s0, s1, s2, s3, s4, .val (.int i5), s6, s7, s8, .val (.int i9), .val (.int i10), s11, s12, .val (.int i13)] [(.int i5), (.int i13)])) _
  refine XS.iadd X0.here hx rfl (hb hby at_142) rfl ?_
  show Steps p.tables e below (T0.setTop (mkF m 143 #[s0, s1, s2, s3, s4, .val (.int i5), s6, s7, s8, .val (.int i9), .val (.int i10), s11, s12, .val (.int i13)] [(.int (i13 + i5))])) _
  refine XS.istore X0.here hx rfl (hb hby at_143) rfl (l' := #[s0, s1, s2, s3, s4, .val (.int i5), s6, s7, s8, .val (.int i9), .val (.int i10), s11, s12, .val (.int (i13 + i5))]) rfl ?_
  exact kt
set_option maxRecDepth 65536 in
set_option maxHeartbeats 40000000 in
theorem tl_n2 {p : Program} {l : Launch} {e : Env} {R : Room} {s : State} {m : MethodId} {args : Array Value} {below : List Frame} {meth : Method} {c : Code} {T0 : State} {locs : List Loc} {cells slots : Nat} {Z : State} {a0 : Array Value} {h0 : Heap} (s0 : Slot) (s1 : Slot) (s2 : Slot) (s3 : Slot) (s4 : Slot) (s5 : Slot) (s6 : Slot) (s7 : Slot) (s8 : Slot) (i9 : Int32) (i10 : Int32) (s11 : Slot) (s12 : Slot) (s13 : Slot)
    (X0 : Stand p l e R s m args below meth c T0 locs cells slots) (hx : p.tables.exec = Jvm.exec) (hZ : Z.Warmed39 s.vm) (hw : ∀ d ∈ tables_1, d.before a0 Z = true) (hby : c.code = code) (hml : c.maxLocals = 14) (hown : s.vm.findClass "com/example/pagewarden/pagewarden/locality/FenwickTreeSumBeforePinLaw" = some m.cls) (e0 : T0.heap = h0) (hc135 : ¬ (i9 < i10)) :
    ∀ target, Steps p.tables e below (T0.setTop (mkF m 145 #[s0, s1, s2, s3, s4, s5, s6, s7, s8, .val (.int i9), .val (.int i10), s11, s12, s13] [])) target → Steps p.tables e below (T0.setTop (mkF m 131 #[s0, s1, s2, s3, s4, s5, s6, s7, s8, .val (.int i9), .val (.int i10), s11, s12, s13] [])) target := by
  intro target kt
  show Steps p.tables e below (T0.setTop (mkF m 131 #[s0, s1, s2, s3, s4, s5, s6, s7, s8, .val (.int i9), .val (.int i10), s11, s12, s13] [])) _
  refine XS.iload X0.here hx rfl (hb hby at_131) rfl ?_
  show Steps p.tables e below (T0.setTop (mkF m 133 #[s0, s1, s2, s3, s4, s5, s6, s7, s8, .val (.int i9), .val (.int i10), s11, s12, s13] [(.int i9)])) _
  refine XS.iload X0.here hx rfl (hb hby at_133) rfl ?_
  show Steps p.tables e below (T0.setTop (mkF m 135 #[s0, s1, s2, s3, s4, s5, s6, s7, s8, .val (.int i9), .val (.int i10), s11, s12, s13] [(.int i10), (.int i9)])) _
  refine XS.icmpYes X0.here hx rfl (pc0 := 135) (pc' := 145) rfl (hb hby at_135) rfl (flt hc135).2.1 (by decide) (by decide) ?_
  exact kt
set_option maxRecDepth 65536 in
set_option maxHeartbeats 40000000 in
theorem tl_9 {p : Program} {l : Launch} {e : Env} {R : Room} {s : State} {m : MethodId} {args : Array Value} {below : List Frame} {meth : Method} {c : Code} {T0 : State} {locs : List Loc} {cells slots : Nat} {Z : State} {a0 : Array Value} {h0 : Heap} (s0 : Slot) (s1 : Slot) (s2 : Slot) (s3 : Slot) (s4 : Slot) (s5 : Slot) (s6 : Slot) (s7 : Slot) (s8 : Slot) (s9 : Slot) (s10 : Slot) (s11 : Slot) (i12 : Int32) (i13 : Int32)
    (X0 : Stand p l e R s m args below meth c T0 locs cells slots) (hx : p.tables.exec = Jvm.exec) (hZ : Z.Warmed39 s.vm) (hw : ∀ d ∈ tables_1, d.before a0 Z = true) (hby : c.code = code) (hml : c.maxLocals = 14) (hown : s.vm.findClass "com/example/pagewarden/pagewarden/locality/FenwickTreeSumBeforePinLaw" = some m.cls) (e0 : T0.heap = h0) (hc149 : i12 = i13) :
    ∀ target, Steps p.tables e below (T0.setTop (mkF m 157 #[s0, s1, s2, s3, s4, s5, s6, s7, s8, s9, s10, s11, .val (.int i12), .val (.int i13)] [(.int (1 : Int32))])) target → Steps p.tables e below (T0.setTop (mkF m 145 #[s0, s1, s2, s3, s4, s5, s6, s7, s8, s9, s10, s11, .val (.int i12), .val (.int i13)] [])) target := by
  intro target kt
  show Steps p.tables e below (T0.setTop (mkF m 145 #[s0, s1, s2, s3, s4, s5, s6, s7, s8, s9, s10, s11, .val (.int i12), .val (.int i13)] [])) _
  refine XS.iload X0.here hx rfl (hb hby at_145) rfl ?_
  show Steps p.tables e below (T0.setTop (mkF m 147 #[s0, s1, s2, s3, s4, s5, s6, s7, s8, s9, s10, s11, .val (.int i12), .val (.int i13)] [(.int i12)])) _
  refine XS.iload X0.here hx rfl (hb hby at_147) rfl ?_
  show Steps p.tables e below (T0.setTop (mkF m 149 #[s0, s1, s2, s3, s4, s5, s6, s7, s8, s9, s10, s11, .val (.int i12), .val (.int i13)] [(.int i13), (.int i12)])) _
  refine XS.icmpNo X0.here hx rfl (hb hby at_149) rfl (teq hc149).2 ?_
  show Steps p.tables e below (T0.setTop (mkF m 152 #[s0, s1, s2, s3, s4, s5, s6, s7, s8, s9, s10, s11, .val (.int i12), .val (.int i13)] [])) _
  refine XS.iconst X0.here hx rfl (hb hby at_152) ?_
  show Steps p.tables e below (T0.setTop (mkF m 153 #[s0, s1, s2, s3, s4, s5, s6, s7, s8, s9, s10, s11, .val (.int i12), .val (.int i13)] [(.int (1 : Int32))])) _
  refine XS.goto X0.here hx rfl (pc0 := 153) (pc' := 157) rfl (hb hby at_153) (by decide) (by decide) ?_
  exact kt
def Q0 (Z : State)  (n0 : Nat) (v : Option Value) (h : Heap) (L : List Loc) : Prop := v = some (.int (1 : Int32)) ∧ Fr n0 L
set_option maxRecDepth 65536 in
set_option maxHeartbeats 40000000 in
theorem rm0 (l : Launch) (Z : State) (a0 : Array Value) (hw : ∀ d ∈ tables_1, d.before a0 Z = true) (ws : List Jvm.Cond) (p1 p2 p3 p4 p5 p6 : Int32) (h0 : Heap) (n0 : Nat) (Z0 : n0 ≤ h0.size) :
    MetFree l x (head1 (Jvm.Cond.code x code maxLocals ret :: ws) room_1) (fun a U => a = #[(.int p1), (.int p2), (.int p3), (.int p4), (.int p5), (.int p6)] ∧ Z.Warmed39 U.vm ∧ U.heap = h0) (fun _ _ _ _ _ => True) (fun _ U o U' => ∃ v L, o = .returned v ∧ Q0 Z  n0 v U'.heap L ∧ FrameEnd U o U' L room_1.cells room_1.slots) := by
  refine MetFree.of_bodySF (plainFor_of_name pn_0) hisR ?_
  intro p e s m args below meth c s₁ Bd hml0 hP hK
  obtain ⟨rfl, hZ, hh⟩ := hP
  have hx := Bd.exec
  have hby := Bd.bytes
  have hml : c.maxLocals = 14 := hml0
  have hown : s.vm.findClass "com/example/pagewarden/pagewarden/locality/FenwickTreeSumBeforePinLaw" = some m.cls := findClass_of_methodNamed Bd.named
  have hnm := (name_of_methodNamed Bd.named Bd.method).1
  have X0 : Stand p l e room_1 s m #[(.int p1), (.int p2), (.int p3), (.int p4), (.int p5), (.int p6)] below meth c s₁ [] 0 0 := Stand.of_body Bd
  have e0 : s₁.heap = h0 := by rw [← hh, Bd.state]; rfl
  have N0 := Fr.nil n0
  have pre0 : ∀ t, Steps p.tables e below (s₁.setTop (mkF m 0 #[.val (.int p1), .val (.int p2), .val (.int p3), .val (.int p4), .val (.int p5), .val (.int p6), .unset, .unset, .unset, .unset, .unset, .unset, .unset, .unset] [])) t → Steps p.tables e below (s₁.setTop (entryFrame m #[(.int p1), (.int p2), (.int p3), (.int p4), (.int p5), (.int p6)] maxLocals)) t := fun t k => castTop (ef_0 m p1 p2 p3 p4 p5 p6) k
  obtain ⟨n, n1, n16, en⟩ := own_size p1
  have nz : ¬ (((1 : Int32) + (p1 &&& (15 : Int32))) = (0 : Int32)) := fun q => by
    have u := congrArg Int32.toNatClampNeg q
    rw [en, own_n32 (by omega), show (0 : Int32).toNatClampNeg = 0 from by decide] at u
    omega
  have en' : (((1 : Int32) + (p1 &&& (15 : Int32))) + (1 : Int32)) = Int32.ofNat (n + 1) := by rw [en]; exact own_one n
  have nz' : ¬ ((((1 : Int32) + (p1 &&& (15 : Int32))) + (1 : Int32)) = (0 : Int32)) := fun q => by
    have u := congrArg Int32.toNatClampNeg q
    rw [en', own_n32 (by omega), show (0 : Int32).toNatClampNeg = 0 from by decide] at u
    omega
  obtain ⟨j1, h1, f7⟩ := own_rem (x := (p3 &&& (255 : Int32))) (own_mask (k := 8) (by decide) (by decide)) n1 (by omega) en
  obtain ⟨j2, h2, f8⟩ := own_rem (x := (((p3.toUInt32 >>> ((8 : Int32) &&& 31).toUInt32).toInt32) &&& (255 : Int32))) (own_mask (k := 8) (by decide) (by decide)) n1 (by omega) en
  obtain ⟨j3, h3, f9⟩ := own_rem (x := (((p3.toUInt32 >>> ((16 : Int32) &&& 31).toUInt32).toInt32) &&& (255 : Int32))) (own_mask (k := 8) (by decide) (by decide)) n1 (by omega) en
  obtain ⟨je, he, f10⟩ := own_rem (x := (p2 &&& (2147483647 : Int32))) (own_mask (k := 31) (by decide) (by decide)) (n := n + 1) (by omega) (by omega) en'
  have st0 := tl_0 p1 p2 p3 (.val (.int p4)) (.val (.int p5)) (.val (.int p6)) .unset .unset .unset .unset .unset .unset .unset .unset X0 hx hZ hw hby hml hown e0 One.u One.u One.u One.u One.u nz nz nz nz'
  obtain ⟨T1, hh1, L1, b7, X1, e1, N1, st1⟩ := tl_1 (.val (.int p1)) (.val (.int p2)) (.val (.int p3)) p4 p5 p6 _ _ _ _ _ .unset X0 hx hZ hw hby hml hown e0 n0 Z0 n j1 j2 j3 je n16 h1 h2 h3 (by omega) en f7 f8 f9 f10
  obtain ⟨x1, hx1, s1⟩ : ∃ x : Int32, x = (if j1 < je then p4 else 0) ∧ ∀ target, Steps p.tables e below (T1.setTop (mkF m 117 #[.val (.int p1), .val (.int p2), .val (.int p3), .val (.int p4), .val (.int p5), .val (.int p6), .val (.int ((1 : Int32) + (p1 &&& (15 : Int32)))), .val (.int ((p3 &&& (255 : Int32)) - ((p3 &&& (255 : Int32)) / ((1 : Int32) + (p1 &&& (15 : Int32)))) * ((1 : Int32) + (p1 &&& (15 : Int32))))), .val (.int ((((p3.toUInt32 >>> ((8 : Int32) &&& 31).toUInt32).toInt32) &&& (255 : Int32)) - ((((p3.toUInt32 >>> ((8 : Int32) &&& 31).toUInt32).toInt32) &&& (255 : Int32)) / ((1 : Int32) + (p1 &&& (15 : Int32)))) * ((1 : Int32) + (p1 &&& (15 : Int32))))), .val (.int ((((p3.toUInt32 >>> ((16 : Int32) &&& 31).toUInt32).toInt32) &&& (255 : Int32)) - ((((p3.toUInt32 >>> ((16 : Int32) &&& 31).toUInt32).toInt32) &&& (255 : Int32)) / ((1 : Int32) + (p1 &&& (15 : Int32)))) * ((1 : Int32) + (p1 &&& (15 : Int32))))), .val (.int ((p2 &&& (2147483647 : Int32)) - ((p2 &&& (2147483647 : Int32)) / (((1 : Int32) + (p1 &&& (15 : Int32))) + (1 : Int32))) * (((1 : Int32) + (p1 &&& (15 : Int32))) + (1 : Int32)))), .val (.ref b7), .val (.int (own_sum (own_add (n + 1) p6 17 (j3 + 1) (own_add (n + 1) p5 17 (j2 + 1) (own_add (n + 1) p4 17 (j1 + 1) (fun _ => 0)))) 17 je 0)), .val (.int x)] [])) target → Steps p.tables e below (T1.setTop (mkF m 104 #[.val (.int p1), .val (.int p2), .val (.int p3), .val (.int p4), .val (.int p5), .val (.int p6), .val (.int ((1 : Int32) + (p1 &&& (15 : Int32)))), .val (.int ((p3 &&& (255 : Int32)) - ((p3 &&& (255 : Int32)) / ((1 : Int32) + (p1 &&& (15 : Int32)))) * ((1 : Int32) + (p1 &&& (15 : Int32))))), .val (.int ((((p3.toUInt32 >>> ((8 : Int32) &&& 31).toUInt32).toInt32) &&& (255 : Int32)) - ((((p3.toUInt32 >>> ((8 : Int32) &&& 31).toUInt32).toInt32) &&& (255 : Int32)) / ((1 : Int32) + (p1 &&& (15 : Int32)))) * ((1 : Int32) + (p1 &&& (15 : Int32))))), .val (.int ((((p3.toUInt32 >>> ((16 : Int32) &&& 31).toUInt32).toInt32) &&& (255 : Int32)) - ((((p3.toUInt32 >>> ((16 : Int32) &&& 31).toUInt32).toInt32) &&& (255 : Int32)) / ((1 : Int32) + (p1 &&& (15 : Int32)))) * ((1 : Int32) + (p1 &&& (15 : Int32))))), .val (.int ((p2 &&& (2147483647 : Int32)) - ((p2 &&& (2147483647 : Int32)) / (((1 : Int32) + (p1 &&& (15 : Int32))) + (1 : Int32))) * (((1 : Int32) + (p1 &&& (15 : Int32))) + (1 : Int32)))), .val (.ref b7), .val (.int (own_sum (own_add (n + 1) p6 17 (j3 + 1) (own_add (n + 1) p5 17 (j2 + 1) (own_add (n + 1) p4 17 (j1 + 1) (fun _ => 0)))) 17 je 0)), .val (.int (0 : Int32))] [])) target := by
    by_cases q : j1 < je
    · exact ⟨(0 : Int32) + p4, by rw [if_pos q]; exact Int32.zero_add p4, tl_y0 (.val (.int p1)) (.val (.int p2)) (.val (.int p3)) p4 (.val (.int p5)) (.val (.int p6)) (.val (.int ((1 : Int32) + (p1 &&& (15 : Int32))))) ((p3 &&& (255 : Int32)) - ((p3 &&& (255 : Int32)) / ((1 : Int32) + (p1 &&& (15 : Int32)))) * ((1 : Int32) + (p1 &&& (15 : Int32)))) (.val (.int ((((p3.toUInt32 >>> ((8 : Int32) &&& 31).toUInt32).toInt32) &&& (255 : Int32)) - ((((p3.toUInt32 >>> ((8 : Int32) &&& 31).toUInt32).toInt32) &&& (255 : Int32)) / ((1 : Int32) + (p1 &&& (15 : Int32)))) * ((1 : Int32) + (p1 &&& (15 : Int32)))))) (.val (.int ((((p3.toUInt32 >>> ((16 : Int32) &&& 31).toUInt32).toInt32) &&& (255 : Int32)) - ((((p3.toUInt32 >>> ((16 : Int32) &&& 31).toUInt32).toInt32) &&& (255 : Int32)) / ((1 : Int32) + (p1 &&& (15 : Int32)))) * ((1 : Int32) + (p1 &&& (15 : Int32)))))) ((p2 &&& (2147483647 : Int32)) - ((p2 &&& (2147483647 : Int32)) / (((1 : Int32) + (p1 &&& (15 : Int32))) + (1 : Int32))) * (((1 : Int32) + (p1 &&& (15 : Int32))) + (1 : Int32))) (.val (.ref b7)) (.val (.int (own_sum (own_add (n + 1) p6 17 (j3 + 1) (own_add (n + 1) p5 17 (j2 + 1) (own_add (n + 1) p4 17 (j1 + 1) (fun _ => 0)))) 17 je 0))) (0 : Int32) X1 hx hZ hw hby hml hown e1 (by rw [f7, f10]; exact own_lt q (by omega))⟩
    · exact ⟨(0 : Int32), by rw [if_neg q], tl_n0 (.val (.int p1)) (.val (.int p2)) (.val (.int p3)) (.val (.int p4)) (.val (.int p5)) (.val (.int p6)) (.val (.int ((1 : Int32) + (p1 &&& (15 : Int32))))) ((p3 &&& (255 : Int32)) - ((p3 &&& (255 : Int32)) / ((1 : Int32) + (p1 &&& (15 : Int32)))) * ((1 : Int32) + (p1 &&& (15 : Int32)))) (.val (.int ((((p3.toUInt32 >>> ((8 : Int32) &&& 31).toUInt32).toInt32) &&& (255 : Int32)) - ((((p3.toUInt32 >>> ((8 : Int32) &&& 31).toUInt32).toInt32) &&& (255 : Int32)) / ((1 : Int32) + (p1 &&& (15 : Int32)))) * ((1 : Int32) + (p1 &&& (15 : Int32)))))) (.val (.int ((((p3.toUInt32 >>> ((16 : Int32) &&& 31).toUInt32).toInt32) &&& (255 : Int32)) - ((((p3.toUInt32 >>> ((16 : Int32) &&& 31).toUInt32).toInt32) &&& (255 : Int32)) / ((1 : Int32) + (p1 &&& (15 : Int32)))) * ((1 : Int32) + (p1 &&& (15 : Int32)))))) ((p2 &&& (2147483647 : Int32)) - ((p2 &&& (2147483647 : Int32)) / (((1 : Int32) + (p1 &&& (15 : Int32))) + (1 : Int32))) * (((1 : Int32) + (p1 &&& (15 : Int32))) + (1 : Int32))) (.val (.ref b7)) (.val (.int (own_sum (own_add (n + 1) p6 17 (j3 + 1) (own_add (n + 1) p5 17 (j2 + 1) (own_add (n + 1) p4 17 (j1 + 1) (fun _ => 0)))) 17 je 0))) (.val (.int (0 : Int32))) X1 hx hZ hw hby hml hown e1 (by rw [f7, f10]; exact own_nlt q (by omega) (by omega))⟩
  obtain ⟨x2, hx2, s2⟩ : ∃ x : Int32, x = x1 + (if j2 < je then p5 else 0) ∧ ∀ target, Steps p.tables e below (T1.setTop (mkF m 131 #[.val (.int p1), .val (.int p2), .val (.int p3), .val (.int p4), .val (.int p5), .val (.int p6), .val (.int ((1 : Int32) + (p1 &&& (15 : Int32)))), .val (.int ((p3 &&& (255 : Int32)) - ((p3 &&& (255 : Int32)) / ((1 : Int32) + (p1 &&& (15 : Int32)))) * ((1 : Int32) + (p1 &&& (15 : Int32))))), .val (.int ((((p3.toUInt32 >>> ((8 : Int32) &&& 31).toUInt32).toInt32) &&& (255 : Int32)) - ((((p3.toUInt32 >>> ((8 : Int32) &&& 31).toUInt32).toInt32) &&& (255 : Int32)) / ((1 : Int32) + (p1 &&& (15 : Int32)))) * ((1 : Int32) + (p1 &&& (15 : Int32))))), .val (.int ((((p3.toUInt32 >>> ((16 : Int32) &&& 31).toUInt32).toInt32) &&& (255 : Int32)) - ((((p3.toUInt32 >>> ((16 : Int32) &&& 31).toUInt32).toInt32) &&& (255 : Int32)) / ((1 : Int32) + (p1 &&& (15 : Int32)))) * ((1 : Int32) + (p1 &&& (15 : Int32))))), .val (.int ((p2 &&& (2147483647 : Int32)) - ((p2 &&& (2147483647 : Int32)) / (((1 : Int32) + (p1 &&& (15 : Int32))) + (1 : Int32))) * (((1 : Int32) + (p1 &&& (15 : Int32))) + (1 : Int32)))), .val (.ref b7), .val (.int (own_sum (own_add (n + 1) p6 17 (j3 + 1) (own_add (n + 1) p5 17 (j2 + 1) (own_add (n + 1) p4 17 (j1 + 1) (fun _ => 0)))) 17 je 0)), .val (.int x)] [])) target → Steps p.tables e below (T1.setTop (mkF m 117 #[.val (.int p1), .val (.int p2), .val (.int p3), .val (.int p4), .val (.int p5), .val (.int p6), .val (.int ((1 : Int32) + (p1 &&& (15 : Int32)))), .val (.int ((p3 &&& (255 : Int32)) - ((p3 &&& (255 : Int32)) / ((1 : Int32) + (p1 &&& (15 : Int32)))) * ((1 : Int32) + (p1 &&& (15 : Int32))))), .val (.int ((((p3.toUInt32 >>> ((8 : Int32) &&& 31).toUInt32).toInt32) &&& (255 : Int32)) - ((((p3.toUInt32 >>> ((8 : Int32) &&& 31).toUInt32).toInt32) &&& (255 : Int32)) / ((1 : Int32) + (p1 &&& (15 : Int32)))) * ((1 : Int32) + (p1 &&& (15 : Int32))))), .val (.int ((((p3.toUInt32 >>> ((16 : Int32) &&& 31).toUInt32).toInt32) &&& (255 : Int32)) - ((((p3.toUInt32 >>> ((16 : Int32) &&& 31).toUInt32).toInt32) &&& (255 : Int32)) / ((1 : Int32) + (p1 &&& (15 : Int32)))) * ((1 : Int32) + (p1 &&& (15 : Int32))))), .val (.int ((p2 &&& (2147483647 : Int32)) - ((p2 &&& (2147483647 : Int32)) / (((1 : Int32) + (p1 &&& (15 : Int32))) + (1 : Int32))) * (((1 : Int32) + (p1 &&& (15 : Int32))) + (1 : Int32)))), .val (.ref b7), .val (.int (own_sum (own_add (n + 1) p6 17 (j3 + 1) (own_add (n + 1) p5 17 (j2 + 1) (own_add (n + 1) p4 17 (j1 + 1) (fun _ => 0)))) 17 je 0)), .val (.int x1)] [])) target := by
    by_cases q : j2 < je
    · exact ⟨x1 + p5, by rw [if_pos q], tl_y1 (.val (.int p1)) (.val (.int p2)) (.val (.int p3)) (.val (.int p4)) p5 (.val (.int p6)) (.val (.int ((1 : Int32) + (p1 &&& (15 : Int32))))) (.val (.int ((p3 &&& (255 : Int32)) - ((p3 &&& (255 : Int32)) / ((1 : Int32) + (p1 &&& (15 : Int32)))) * ((1 : Int32) + (p1 &&& (15 : Int32)))))) ((((p3.toUInt32 >>> ((8 : Int32) &&& 31).toUInt32).toInt32) &&& (255 : Int32)) - ((((p3.toUInt32 >>> ((8 : Int32) &&& 31).toUInt32).toInt32) &&& (255 : Int32)) / ((1 : Int32) + (p1 &&& (15 : Int32)))) * ((1 : Int32) + (p1 &&& (15 : Int32)))) (.val (.int ((((p3.toUInt32 >>> ((16 : Int32) &&& 31).toUInt32).toInt32) &&& (255 : Int32)) - ((((p3.toUInt32 >>> ((16 : Int32) &&& 31).toUInt32).toInt32) &&& (255 : Int32)) / ((1 : Int32) + (p1 &&& (15 : Int32)))) * ((1 : Int32) + (p1 &&& (15 : Int32)))))) ((p2 &&& (2147483647 : Int32)) - ((p2 &&& (2147483647 : Int32)) / (((1 : Int32) + (p1 &&& (15 : Int32))) + (1 : Int32))) * (((1 : Int32) + (p1 &&& (15 : Int32))) + (1 : Int32))) (.val (.ref b7)) (.val (.int (own_sum (own_add (n + 1) p6 17 (j3 + 1) (own_add (n + 1) p5 17 (j2 + 1) (own_add (n + 1) p4 17 (j1 + 1) (fun _ => 0)))) 17 je 0))) x1 X1 hx hZ hw hby hml hown e1 (by rw [f8, f10]; exact own_lt q (by omega))⟩
    · exact ⟨x1, by rw [if_neg q]; exact (Int32.add_zero x1).symm, tl_n1 (.val (.int p1)) (.val (.int p2)) (.val (.int p3)) (.val (.int p4)) (.val (.int p5)) (.val (.int p6)) (.val (.int ((1 : Int32) + (p1 &&& (15 : Int32))))) (.val (.int ((p3 &&& (255 : Int32)) - ((p3 &&& (255 : Int32)) / ((1 : Int32) + (p1 &&& (15 : Int32)))) * ((1 : Int32) + (p1 &&& (15 : Int32)))))) ((((p3.toUInt32 >>> ((8 : Int32) &&& 31).toUInt32).toInt32) &&& (255 : Int32)) - ((((p3.toUInt32 >>> ((8 : Int32) &&& 31).toUInt32).toInt32) &&& (255 : Int32)) / ((1 : Int32) + (p1 &&& (15 : Int32)))) * ((1 : Int32) + (p1 &&& (15 : Int32)))) (.val (.int ((((p3.toUInt32 >>> ((16 : Int32) &&& 31).toUInt32).toInt32) &&& (255 : Int32)) - ((((p3.toUInt32 >>> ((16 : Int32) &&& 31).toUInt32).toInt32) &&& (255 : Int32)) / ((1 : Int32) + (p1 &&& (15 : Int32)))) * ((1 : Int32) + (p1 &&& (15 : Int32)))))) ((p2 &&& (2147483647 : Int32)) - ((p2 &&& (2147483647 : Int32)) / (((1 : Int32) + (p1 &&& (15 : Int32))) + (1 : Int32))) * (((1 : Int32) + (p1 &&& (15 : Int32))) + (1 : Int32))) (.val (.ref b7)) (.val (.int (own_sum (own_add (n + 1) p6 17 (j3 + 1) (own_add (n + 1) p5 17 (j2 + 1) (own_add (n + 1) p4 17 (j1 + 1) (fun _ => 0)))) 17 je 0))) (.val (.int x1)) X1 hx hZ hw hby hml hown e1 (by rw [f8, f10]; exact own_nlt q (by omega) (by omega))⟩
  obtain ⟨x3, hx3, s3⟩ : ∃ x : Int32, x = x2 + (if j3 < je then p6 else 0) ∧ ∀ target, Steps p.tables e below (T1.setTop (mkF m 145 #[.val (.int p1), .val (.int p2), .val (.int p3), .val (.int p4), .val (.int p5), .val (.int p6), .val (.int ((1 : Int32) + (p1 &&& (15 : Int32)))), .val (.int ((p3 &&& (255 : Int32)) - ((p3 &&& (255 : Int32)) / ((1 : Int32) + (p1 &&& (15 : Int32)))) * ((1 : Int32) + (p1 &&& (15 : Int32))))), .val (.int ((((p3.toUInt32 >>> ((8 : Int32) &&& 31).toUInt32).toInt32) &&& (255 : Int32)) - ((((p3.toUInt32 >>> ((8 : Int32) &&& 31).toUInt32).toInt32) &&& (255 : Int32)) / ((1 : Int32) + (p1 &&& (15 : Int32)))) * ((1 : Int32) + (p1 &&& (15 : Int32))))), .val (.int ((((p3.toUInt32 >>> ((16 : Int32) &&& 31).toUInt32).toInt32) &&& (255 : Int32)) - ((((p3.toUInt32 >>> ((16 : Int32) &&& 31).toUInt32).toInt32) &&& (255 : Int32)) / ((1 : Int32) + (p1 &&& (15 : Int32)))) * ((1 : Int32) + (p1 &&& (15 : Int32))))), .val (.int ((p2 &&& (2147483647 : Int32)) - ((p2 &&& (2147483647 : Int32)) / (((1 : Int32) + (p1 &&& (15 : Int32))) + (1 : Int32))) * (((1 : Int32) + (p1 &&& (15 : Int32))) + (1 : Int32)))), .val (.ref b7), .val (.int (own_sum (own_add (n + 1) p6 17 (j3 + 1) (own_add (n + 1) p5 17 (j2 + 1) (own_add (n + 1) p4 17 (j1 + 1) (fun _ => 0)))) 17 je 0)), .val (.int x)] [])) target → Steps p.tables e below (T1.setTop (mkF m 131 #[.val (.int p1), .val (.int p2), .val (.int p3), .val (.int p4), .val (.int p5), .val (.int p6), .val (.int ((1 : Int32) + (p1 &&& (15 : Int32)))), .val (.int ((p3 &&& (255 : Int32)) - ((p3 &&& (255 : Int32)) / ((1 : Int32) + (p1 &&& (15 : Int32)))) * ((1 : Int32) + (p1 &&& (15 : Int32))))), .val (.int ((((p3.toUInt32 >>> ((8 : Int32) &&& 31).toUInt32).toInt32) &&& (255 : Int32)) - ((((p3.toUInt32 >>> ((8 : Int32) &&& 31).toUInt32).toInt32) &&& (255 : Int32)) / ((1 : Int32) + (p1 &&& (15 : Int32)))) * ((1 : Int32) + (p1 &&& (15 : Int32))))), .val (.int ((((p3.toUInt32 >>> ((16 : Int32) &&& 31).toUInt32).toInt32) &&& (255 : Int32)) - ((((p3.toUInt32 >>> ((16 : Int32) &&& 31).toUInt32).toInt32) &&& (255 : Int32)) / ((1 : Int32) + (p1 &&& (15 : Int32)))) * ((1 : Int32) + (p1 &&& (15 : Int32))))), .val (.int ((p2 &&& (2147483647 : Int32)) - ((p2 &&& (2147483647 : Int32)) / (((1 : Int32) + (p1 &&& (15 : Int32))) + (1 : Int32))) * (((1 : Int32) + (p1 &&& (15 : Int32))) + (1 : Int32)))), .val (.ref b7), .val (.int (own_sum (own_add (n + 1) p6 17 (j3 + 1) (own_add (n + 1) p5 17 (j2 + 1) (own_add (n + 1) p4 17 (j1 + 1) (fun _ => 0)))) 17 je 0)), .val (.int x2)] [])) target := by
    by_cases q : j3 < je
    · exact ⟨x2 + p6, by rw [if_pos q], tl_y2 (.val (.int p1)) (.val (.int p2)) (.val (.int p3)) (.val (.int p4)) (.val (.int p5)) p6 (.val (.int ((1 : Int32) + (p1 &&& (15 : Int32))))) (.val (.int ((p3 &&& (255 : Int32)) - ((p3 &&& (255 : Int32)) / ((1 : Int32) + (p1 &&& (15 : Int32)))) * ((1 : Int32) + (p1 &&& (15 : Int32)))))) (.val (.int ((((p3.toUInt32 >>> ((8 : Int32) &&& 31).toUInt32).toInt32) &&& (255 : Int32)) - ((((p3.toUInt32 >>> ((8 : Int32) &&& 31).toUInt32).toInt32) &&& (255 : Int32)) / ((1 : Int32) + (p1 &&& (15 : Int32)))) * ((1 : Int32) + (p1 &&& (15 : Int32)))))) ((((p3.toUInt32 >>> ((16 : Int32) &&& 31).toUInt32).toInt32) &&& (255 : Int32)) - ((((p3.toUInt32 >>> ((16 : Int32) &&& 31).toUInt32).toInt32) &&& (255 : Int32)) / ((1 : Int32) + (p1 &&& (15 : Int32)))) * ((1 : Int32) + (p1 &&& (15 : Int32)))) ((p2 &&& (2147483647 : Int32)) - ((p2 &&& (2147483647 : Int32)) / (((1 : Int32) + (p1 &&& (15 : Int32))) + (1 : Int32))) * (((1 : Int32) + (p1 &&& (15 : Int32))) + (1 : Int32))) (.val (.ref b7)) (.val (.int (own_sum (own_add (n + 1) p6 17 (j3 + 1) (own_add (n + 1) p5 17 (j2 + 1) (own_add (n + 1) p4 17 (j1 + 1) (fun _ => 0)))) 17 je 0))) x2 X1 hx hZ hw hby hml hown e1 (by rw [f9, f10]; exact own_lt q (by omega))⟩
    · exact ⟨x2, by rw [if_neg q]; exact (Int32.add_zero x2).symm, tl_n2 (.val (.int p1)) (.val (.int p2)) (.val (.int p3)) (.val (.int p4)) (.val (.int p5)) (.val (.int p6)) (.val (.int ((1 : Int32) + (p1 &&& (15 : Int32))))) (.val (.int ((p3 &&& (255 : Int32)) - ((p3 &&& (255 : Int32)) / ((1 : Int32) + (p1 &&& (15 : Int32)))) * ((1 : Int32) + (p1 &&& (15 : Int32)))))) (.val (.int ((((p3.toUInt32 >>> ((8 : Int32) &&& 31).toUInt32).toInt32) &&& (255 : Int32)) - ((((p3.toUInt32 >>> ((8 : Int32) &&& 31).toUInt32).toInt32) &&& (255 : Int32)) / ((1 : Int32) + (p1 &&& (15 : Int32)))) * ((1 : Int32) + (p1 &&& (15 : Int32)))))) ((((p3.toUInt32 >>> ((16 : Int32) &&& 31).toUInt32).toInt32) &&& (255 : Int32)) - ((((p3.toUInt32 >>> ((16 : Int32) &&& 31).toUInt32).toInt32) &&& (255 : Int32)) / ((1 : Int32) + (p1 &&& (15 : Int32)))) * ((1 : Int32) + (p1 &&& (15 : Int32)))) ((p2 &&& (2147483647 : Int32)) - ((p2 &&& (2147483647 : Int32)) / (((1 : Int32) + (p1 &&& (15 : Int32))) + (1 : Int32))) * (((1 : Int32) + (p1 &&& (15 : Int32))) + (1 : Int32))) (.val (.ref b7)) (.val (.int (own_sum (own_add (n + 1) p6 17 (j3 + 1) (own_add (n + 1) p5 17 (j2 + 1) (own_add (n + 1) p4 17 (j1 + 1) (fun _ => 0)))) 17 je 0))) (.val (.int x2)) X1 hx hZ hw hby hml hown e1 (by rw [f9, f10]; exact own_nlt q (by omega) (by omega))⟩
  obtain ⟨fs, hr, hrun, hended, hW, hsame⟩ := X1.leave (v := some (.int (1 : Int32))) (fun h => by rw [Bd.returns] at h; cases h)
  refine ⟨_, _, pre0 _ ?_, hrun, hended, _, _, rfl, ?_, ⟨_, rfl⟩, hW, hsame.mono (by decide) (by decide)⟩
  · refine st0 _ ?_
    refine st1 _ ?_
    refine tl_2 (.val (.int p1)) (.val (.int p2)) (.val (.int p3)) (.val (.int p4)) (.val (.int p5)) (.val (.int p6)) (.val (.int ((1 : Int32) + (p1 &&& (15 : Int32))))) (.val (.int ((p3 &&& (255 : Int32)) - ((p3 &&& (255 : Int32)) / ((1 : Int32) + (p1 &&& (15 : Int32)))) * ((1 : Int32) + (p1 &&& (15 : Int32)))))) (.val (.int ((((p3.toUInt32 >>> ((8 : Int32) &&& 31).toUInt32).toInt32) &&& (255 : Int32)) - ((((p3.toUInt32 >>> ((8 : Int32) &&& 31).toUInt32).toInt32) &&& (255 : Int32)) / ((1 : Int32) + (p1 &&& (15 : Int32)))) * ((1 : Int32) + (p1 &&& (15 : Int32)))))) (.val (.int ((((p3.toUInt32 >>> ((16 : Int32) &&& 31).toUInt32).toInt32) &&& (255 : Int32)) - ((((p3.toUInt32 >>> ((16 : Int32) &&& 31).toUInt32).toInt32) &&& (255 : Int32)) / ((1 : Int32) + (p1 &&& (15 : Int32)))) * ((1 : Int32) + (p1 &&& (15 : Int32)))))) (.val (.int ((p2 &&& (2147483647 : Int32)) - ((p2 &&& (2147483647 : Int32)) / (((1 : Int32) + (p1 &&& (15 : Int32))) + (1 : Int32))) * (((1 : Int32) + (p1 &&& (15 : Int32))) + (1 : Int32))))) (.val (.ref b7)) (.val (.int (own_sum (own_add (n + 1) p6 17 (j3 + 1) (own_add (n + 1) p5 17 (j2 + 1) (own_add (n + 1) p4 17 (j1 + 1) (fun _ => 0)))) 17 je 0))) .unset X1 hx hZ hw hby hml hown e1 One.u _ ?_
    refine s1 _ ?_
    refine s2 _ ?_
    refine s3 _ ?_
    refine tl_9 (.val (.int p1)) (.val (.int p2)) (.val (.int p3)) (.val (.int p4)) (.val (.int p5)) (.val (.int p6)) (.val (.int ((1 : Int32) + (p1 &&& (15 : Int32))))) (.val (.int ((p3 &&& (255 : Int32)) - ((p3 &&& (255 : Int32)) / ((1 : Int32) + (p1 &&& (15 : Int32)))) * ((1 : Int32) + (p1 &&& (15 : Int32)))))) (.val (.int ((((p3.toUInt32 >>> ((8 : Int32) &&& 31).toUInt32).toInt32) &&& (255 : Int32)) - ((((p3.toUInt32 >>> ((8 : Int32) &&& 31).toUInt32).toInt32) &&& (255 : Int32)) / ((1 : Int32) + (p1 &&& (15 : Int32)))) * ((1 : Int32) + (p1 &&& (15 : Int32)))))) (.val (.int ((((p3.toUInt32 >>> ((16 : Int32) &&& 31).toUInt32).toInt32) &&& (255 : Int32)) - ((((p3.toUInt32 >>> ((16 : Int32) &&& 31).toUInt32).toInt32) &&& (255 : Int32)) / ((1 : Int32) + (p1 &&& (15 : Int32)))) * ((1 : Int32) + (p1 &&& (15 : Int32)))))) (.val (.int ((p2 &&& (2147483647 : Int32)) - ((p2 &&& (2147483647 : Int32)) / (((1 : Int32) + (p1 &&& (15 : Int32))) + (1 : Int32))) * (((1 : Int32) + (p1 &&& (15 : Int32))) + (1 : Int32))))) (.val (.ref b7)) (own_sum (own_add (n + 1) p6 17 (j3 + 1) (own_add (n + 1) p5 17 (j2 + 1) (own_add (n + 1) p4 17 (j1 + 1) (fun _ => 0)))) 17 je 0) x3 X1 hx hZ hw hby hml hown e1 (by rw [own_fen n j1 j2 j3 je n16 h1 h2 h3 (by omega), hx3, hx2, hx1]) _ ?_
    exact retN X1 hx (t := .boolean) Bd.returns (by simp) (hb hby at_157) hr
  · exact ⟨rfl, N1⟩

set_option maxRecDepth 65536 in
set_option maxHeartbeats 40000000 in
theorem comes_1 {Post : Tables → Env → Array Value → State → Outcome → State → Prop} (hpost : ∀ tb e args s v u, (limb_1_1.after args s (.returned v) u = true ∧ limb_1_2.after args s (.returned v) u = true ∧ True) → FrameEnd s (.returned v) u (Jvm.fieldLocs frame_1_writes args s ++ Jvm.arrayLocs frame_1_arrays args s ++ Jvm.staticLocs frame_1_statics s) 16 128 → Post tb e args s (.returned v) u) :
    ArmFor flags0 classFile x code maxLocals ret World_1 tables_1 room_1 Calls_1 rest_1 Pre_1 Post := by
  intro l hfl _ _ p e ha hc hk s m args below hf hA hF happ hP
  obtain ⟨hcalls, hrest, hpre⟩ := hP
  obtain ⟨-, -, -, hnamed, -, -, -, hat⟩ := (Spec.applies_iff hf).mp happ
  obtain ⟨hg, hn⟩ := and_e (Cond.before_iff.mp (show (Jvm.Cond.and given_1 narrow_1).before args s = true from hpre))
  obtain ⟨g13, g14⟩ := and_e hg
  obtain ⟨g15, g16⟩ := and_e g14
  obtain ⟨g17, g18⟩ := and_e g16
  obtain ⟨g19, g20⟩ := and_e g18
  obtain ⟨g21, g22⟩ := and_e g20
  obtain ⟨g23, g24⟩ := and_e g22
  obtain ⟨w0, w1, w2, w3, w4, w5, rfl⟩ : ∃ w0 w1 w2 w3 w4 w5 : Value, args = #[w0, w1, w2, w3, w4, w5] := by
    have hs : args.size = 6 := by simpa [Cond.value, given_1] using g13
    obtain ⟨L⟩ := args
    match L, hs with
    | [w0, w1, w2, w3, w4, w5], _ => exact ⟨w0, w1, w2, w3, w4, w5, rfl⟩
  have hw := fun d (hd : d ∈ tables_1) => atoms_spec (ws := Jvm.Cond.code x code maxLocals ret :: tables_1) hat d (List.mem_cons_of_mem _ hd)
  have hfit : Fit s := fun {y c} hc i hi => by
    obtain ⟨ha, rfl⟩ := Array.getElem?_eq_some_iff.mp hc
    have q := List.all_eq_true.mp ((Array.all_eq_true_iff_forall_mem.mp hF) _ (Array.getElem_mem ha)) i (List.mem_range.mpr hi)
    simpa [Array.getElem?_eq_getElem hi] using q
  obtain ⟨i0, ei0⟩ := is_v g15
  obtain rfl : w0 = (.int i0) := Option.some.inj ei0
  obtain ⟨i1, ei1⟩ := is_v g17
  obtain rfl : w1 = (.int i1) := Option.some.inj ei1
  obtain ⟨i2, ei2⟩ := is_v g19
  obtain rfl : w2 = (.int i2) := Option.some.inj ei2
  obtain ⟨i3, ei3⟩ := is_v g21
  obtain rfl : w3 = (.int i3) := Option.some.inj ei3
  obtain ⟨i4, ei4⟩ := is_v g23
  obtain rfl : w4 = (.int i4) := Option.some.inj ei4
  obtain ⟨i5, ei5⟩ := is_v g24
  obtain rfl : w5 = (.int i5) := Option.some.inj ei5
  obtain ⟨n, o, h1, h2, h3, _, L, rfl, ⟨rfl, N⟩, hq⟩ := rm0 l s _ hw tables_1 i0 i1 i2 i3 i4 i5 s.heap s.heap.size (Nat.le_refl _) p e ha hc hk s m _ below hf ((Spec.applies_iff_loose hf).mp happ).1 ⟨rfl, State.Warmed39.refl s, rfl⟩ trivial
  refine ⟨n, _, h1, h2, h3, hpost _ _ _ _ _ _ ⟨Cond.after_iff.mpr rfl, Cond.after_iff.mpr (eq_i res_at (Term.int_eval (1)) rfl), trivial⟩ ⟨hq.1, hq.2.1, (hq.2.2.sift fun y hy => Or.inr (N y hy)).mono (by decide) (by decide)⟩⟩
theorem main_1_1 : Claimed_1_1 := comes_1 fun _ _ _ _ _ _ h hF => ⟨h.1, hF⟩
theorem main_1_2 : Claimed_1_2 := comes_1 fun _ _ _ _ _ _ h hF => ⟨h.2.1, hF⟩
end Jvm.Pilot.@@N@@
namespace Jvm.Pilot.@@N@@
open Jvm Jvm.ClassFile Sem Op Lib Jvm.Free Jvm.Stand Jvm.Pilot.@@N@@.Jvm.D
/-! MADE BY PROGRAM (witnessworld.py) out of the Statement's table words and the real class files: 9 classes; the members and pool entries that the words name. The judged class is class 1, her method 1. -/
namespace start1
open Jvm.ClassFile
def u (s : String) : CpInfo := .utf8 (stringToUtf16 s)
/-- a pool by its gaps: so many unusable entries, then the entry; so many at the end -/
def gap : Nat → List CpInfo → List CpInfo
  | 0, r => r
  | n + 1, r => .unusable :: gap n r
def poolList (es : List (Nat × CpInfo)) (last : Nat) : List CpInfo := es.foldr (fun e r => gap e.1 (e.2 :: r)) (gap last [])
def pool (es : List (Nat × CpInfo)) (last : Nat) : Array CpInfo := ⟨poolList es last⟩
def fileOf (pool : Array CpInfo) (this : Nat) (attrs : Array Attribute := #[]) (ms : Array MethodInfo := #[]) (fl : Nat := 33) (sup : Nat := 0) (ifs : Array Nat := #[]) (fds : Array FieldInfo := #[]) : ClassFile where
  minorVersion := 0
  majorVersion := 65
  constantPool := pool
  accessFlags := fl
  thisClass := this
  superClass := sup
  interfaces := ifs
  fields := fds
  methods := ms
  attributes := attrs
def plain (name : String) (sup : Option ClassId) : Class where
  name := name
  kind := .ordinary
  loader := none
  accessFlags := 33
  super := sup
  interfaces := #[]
  cf := none
  fields := #[]
  methods := #[]
  instanceTypes := #[]
  staticTypes := #[]
  resolved := #[]
  callSites := []
  init := .initialized
  statics := none
  mirror := none

def pool0 : Array CpInfo := pool [(5, u "<init>"), (0, u "()V"), (1, .class_ 10), (1, u "java/lang/Object")] 113

def k0c0 : Code := { maxStack := 0, maxLocals := 1, code := object_method_1_code, exceptionTable := #[], attributes := #[] }
def k0m0 : Method := { name := "<init>", desc := "()V", sig := { parameters := [], returnType := none }, accessFlags := 1, code := some k0c0 }
/-- java/lang/Object -/
def k0 : Class := { plain "java/lang/Object" none with
  accessFlags := 33
  interfaces := #[]
  cf := some (fileOf pool0 8 #[] #[{ accessFlags := 1, nameIndex := 5, descriptorIndex := 6, attributes := #[] }] 33 0 #[] #[])
  fields := #[]
  methods := #[k0m0]
  instanceTypes := #[]
  staticTypes := #[]
  resolved := Array.replicate 124 none
  statics := none }

def pool1 : Array CpInfo := pool [(2, .class_ 4), (1, u "java/lang/Object"), (0, u "<init>"), (0, u "()V"), (0, .integer 2147483647), (0, .class_ 9), (0, u "com/example/pagewarden/pagewarden/locality/FenwickTree"), (0, .methodref 8 11), (0, .nameAndType 5 12), (0, u "(I)V"), (0, .methodref 8 14), (0, .nameAndType 15 16), (0, u "add"), (0, u "(II)V"), (0, .methodref 8 18), (0, .nameAndType 19 20), (0, u "sumBefore"), (0, u "(I)I"), (0, .class_ 22), (0, u "com/example/pagewarden/pagewarden/locality/FenwickTreeSumBeforePinLaw"), (2, u "law"), (0, u "(IIIIII)Z")] 3

def k1m0 : Method := { name := "<init>", desc := "()V", sig := { parameters := [], returnType := none }, accessFlags := 1, code := none }
def k1c1 : Code := { maxStack := 3, maxLocals := 14, code := code, exceptionTable := #[], attributes := #[] }
def k1m1 : Method := { name := "law", desc := "(IIIIII)Z", sig := { parameters := [.int, .int, .int, .int, .int, .int], returnType := some .boolean }, accessFlags := 9, code := some k1c1 }
/-- com/example/pagewarden/pagewarden/locality/FenwickTreeSumBeforePinLaw -/
def k1 : Class := { plain "com/example/pagewarden/pagewarden/locality/FenwickTreeSumBeforePinLaw" (some 0) with
  accessFlags := 49
  interfaces := #[]
  cf := some (fileOf pool1 21 #[] #[{ accessFlags := 1, nameIndex := 5, descriptorIndex := 6, attributes := #[] }, { accessFlags := 9, nameIndex := 25, descriptorIndex := 26, attributes := #[] }] 49 2 #[] #[])
  fields := #[]
  methods := #[k1m0, k1m1]
  instanceTypes := #[]
  staticTypes := #[]
  resolved := Array.replicate 30 none
  statics := none }

def pool2 : Array CpInfo := pool [(1, .methodref 2 3), (0, .class_ 4), (0, .nameAndType 5 6), (0, u "java/lang/Object"), (0, u "<init>"), (0, u "()V"), (0, .fieldref 8 9), (0, .class_ 10), (0, .nameAndType 11 12), (0, u "com/example/pagewarden/pagewarden/locality/FenwickTree"), (0, u "nodes"), (0, u "[I"), (5, u "(I)I"), (0, u "(I)V"), (2, u "add"), (0, u "(II)V"), (1, u "sumBefore")] 3

def k2c0 : Code := { maxStack := 3, maxLocals := 2, code := prog_8_method_1_code, exceptionTable := #[], attributes := #[] }
def k2m0 : Method := { name := "<init>", desc := "(I)V", sig := { parameters := [.int], returnType := none }, accessFlags := 0, code := some k2c0 }
def k2c1 : Code := { maxStack := 4, maxLocals := 4, code := prog_8_method_2_code, exceptionTable := #[], attributes := #[] }
def k2m1 : Method := { name := "add", desc := "(II)V", sig := { parameters := [.int, .int], returnType := none }, accessFlags := 0, code := some k2c1 }
def k2c2 : Code := { maxStack := 3, maxLocals := 4, code := prog_8_method_3_code, exceptionTable := #[], attributes := #[] }
def k2m2 : Method := { name := "sumBefore", desc := "(I)I", sig := { parameters := [.int], returnType := some .int }, accessFlags := 0, code := some k2c2 }
/-- com/example/pagewarden/pagewarden/locality/FenwickTree -/
def k2 : Class := { plain "com/example/pagewarden/pagewarden/locality/FenwickTree" (some 0) with
  accessFlags := 48
  interfaces := #[]
  cf := some (fileOf pool2 8 #[] #[{ accessFlags := 0, nameIndex := 5, descriptorIndex := 19, attributes := #[] }, { accessFlags := 0, nameIndex := 22, descriptorIndex := 23, attributes := #[] }, { accessFlags := 0, nameIndex := 25, descriptorIndex := 18, attributes := #[] }] 48 2 #[] #[{ accessFlags := 18, nameIndex := 11, descriptorIndex := 12, attributes := #[] }])
  fields := #[{ name := "nodes", type := (.array .int), accessFlags := 18, slot := 0, constantValue := 0 }]
  methods := #[k2m0, k2m1, k2m2]
  instanceTypes := #[(.array .int)]
  staticTypes := #[]
  resolved := Array.replicate 29 none
  statics := none }

def pool3 : Array CpInfo := pool [(1, u "java/lang/Cloneable"), (0, .class_ 1), (0, u "java/lang/Object"), (0, .class_ 3)] 3

/-- java/lang/Cloneable -/
def k3 : Class := { plain "java/lang/Cloneable" (some 0) with
  accessFlags := 1537
  interfaces := #[]
  cf := some (fileOf pool3 2 #[] #[] 1537 4 #[] #[])
  fields := #[]
  methods := #[]
  instanceTypes := #[]
  staticTypes := #[]
  resolved := Array.replicate 8 none
  statics := none }

def pool4 : Array CpInfo := pool [(1, u "java/io/Serializable"), (0, .class_ 1), (0, u "java/lang/Object"), (0, .class_ 3)] 3

/-- java/io/Serializable -/
def k4 : Class := { plain "java/io/Serializable" (some 0) with
  accessFlags := 1537
  interfaces := #[]
  cf := some (fileOf pool4 2 #[] #[] 1537 4 #[] #[])
  fields := #[]
  methods := #[]
  instanceTypes := #[]
  staticTypes := #[]
  resolved := Array.replicate 8 none
  statics := none }

/-- the primitive byte -/
def k5 : Class := { plain "byte" none with kind := .primitive 'B', accessFlags := 0x411 }
/-- [B -/
def k6 : Class := { plain "[B" (some 0) with kind := .array 5 .byte, interfaces := #[3, 4], accessFlags := 1041 }

/-- the primitive int -/
def k7 : Class := { plain "int" none with kind := .primitive 'I', accessFlags := 0x411 }
/-- [I -/
def k8 : Class := { plain "[I" (some 0) with kind := .array 7 .int, interfaces := #[3, 4], accessFlags := 1041 }

def heap : Heap := #[]
def classes : Array Class := #[k0, k1, k2, k3, k4, k5, k6, k7, k8]
def interned : List (Array UInt16 × Addr) := []
def slotsUsed : Nat := 0
def theMethod : MethodId := ⟨1, 1⟩
def args0 : Array Value := #[.int 5, .int 3, .int 7, .int 1, .int 2, .int 3]
def aboutOver (below : List Frame) : State where
  vm := { classes := classes, interned := interned.toArray }
  heap := heap
  slotsUsed := slotsUsed
  threads := #[{ frames := .invoking theMethod args0 :: below }]
def below0 : List Frame := [.native { method := ⟨0, 0⟩, args := #[] }]
def about1 : State := aboutOver below0
def p0 : Program := .bare "" "" ""
def e0 : Env := launch0.env 0 0 0
theorem w_frames : about1.frames = Frame.invoking theMethod args0 :: below0 := rfl
set_option maxRecDepth 65536 in
theorem w_args : argsFit about1.vm theMethod args0 = true := by decide +kernel
set_option maxRecDepth 65536 in
theorem w_heap : heapFits about1 = true := by decide +kernel
set_option maxRecDepth 65536 in
theorem w_runnable : about1.curStatus? = some .runnable := by decide +kernel
set_option maxRecDepth 65536 in
theorem w_alone : about1.alone = true := by decide +kernel
set_option maxRecDepth 65536 in
theorem w_named : about1.methodNamed? x = some theMethod := by decide +kernel
set_option maxRecDepth 65536 in
theorem w_hears : about1.hears theMethod below0 = true := by decide +kernel
set_option maxRecDepth 65536 in
theorem w_ripe : about1.ripe theMethod args0 below0 = true := by decide +kernel
theorem w_running : about1.status = .running := rfl
set_option maxRecDepth 65536 in
theorem w_room : about1.hasRoom e0.platform room_1 = true :=
  launch0.hasRoom_least _ room_1 (by decide +kernel) (by decide +kernel) (by decide +kernel) (by decide +kernel) (by decide +kernel) (by decide +kernel)
theorem allAtoms_all (ts : List Jvm.Cond) (a : Array Jvm.Value) (st : Jvm.State) : (allAtoms ts).before a st = ts.all (fun c => c.before a st) := by
  induction ts with
  | nil => rfl
  | cons c t ih =>
    show (Jvm.Cond.and c (allAtoms t)).before a st = _
    rw [Jvm.Cond.before_and, ih, List.all_cons]
def words1 : List Jvm.Cond := Jvm.Cond.code x code maxLocals ret :: tables_1
/-- a 'code' word, met by the world's own term for the bytes: nothing is compared byte by byte -/
theorem code_word {y : MethodName} {bytes : ByteArray} {mx : Nat} {rt : Option FieldType} {a : Array Value} {s : State} {m : MethodId} {meth : Method} {c : Code} (h1 : s.methodNamed? y = some m) (h2 : s.vm.method? m = some meth) (h3 : meth.code = some c) (h4 : c.code = bytes)
    (h5 : (c.maxLocals == mx && c.exceptionTable.isEmpty && decide (c.maxStack ≤ mostOperands) && decide (meth.sig.returnType = rt) && !meth.locks && decide (parseMethodDescriptor y.desc = some meth.sig)) = true) : (Jvm.Cond.code y bytes mx rt).before a s = true := by
  simp only [Bool.and_eq_true, beq_iff_eq, Bool.not_eq_true', decide_eq_true_eq] at h5
  obtain ⟨⟨⟨⟨⟨g1, g2⟩, g3⟩, g4⟩, g5⟩, g6⟩ := h5
  simp [Cond.before, Cond.holds, Cond.value, h1, h2, h3, h4, g1, g2, g3, g4, g5, g6]
def isCode : Jvm.Cond → Bool
  | .code _ _ _ _ => true
  | _ => false
theorem all_split {L : List Jvm.Cond} {P : Jvm.Cond → Bool} (h1 : L.all (fun c => isCode c || P c) = true) (h2 : ∀ c ∈ L.filter isCode, P c = true) : L.all P = true := by
  refine List.all_eq_true.mpr fun c hc => ?_
  have h := List.all_eq_true.mp h1 c hc
  rcases Bool.eq_false_or_eq_true (isCode c) with hi | hi
  · exact h2 c (List.mem_filter.mpr ⟨hc, hi⟩)
  · simpa [hi] using h
set_option maxRecDepth 65536 in
theorem w_c0 : (Jvm.Cond.code x code maxLocals ret).before args0 about1 = true := code_word (m := ⟨1, 1⟩) (meth := k1m1) (c := k1c1) (by decide +kernel) rfl rfl rfl (by decide +kernel)
set_option maxRecDepth 65536 in
theorem w_c1 : (Jvm.Cond.code ({ cls := "com/example/pagewarden/pagewarden/locality/FenwickTree", name := "<init>", desc := "(I)V" } : Jvm.MethodName) prog_8_method_1_code (2 : Nat) (Option.none : Option Jvm.ClassFile.FieldType)).before args0 about1 = true := code_word (m := ⟨2, 0⟩) (meth := k2m0) (c := k2c0) (by decide +kernel) rfl rfl rfl (by decide +kernel)
set_option maxRecDepth 65536 in
theorem w_c2 : (Jvm.Cond.code ({ cls := "java/lang/Object", name := "<init>", desc := "()V" } : Jvm.MethodName) object_method_1_code (1 : Nat) (Option.none : Option Jvm.ClassFile.FieldType)).before args0 about1 = true := code_word (m := ⟨0, 0⟩) (meth := k0m0) (c := k0c0) (by decide +kernel) rfl rfl rfl (by decide +kernel)
set_option maxRecDepth 65536 in
theorem w_c3 : (Jvm.Cond.code ({ cls := "com/example/pagewarden/pagewarden/locality/FenwickTree", name := "add", desc := "(II)V" } : Jvm.MethodName) prog_8_method_2_code (4 : Nat) (Option.none : Option Jvm.ClassFile.FieldType)).before args0 about1 = true := code_word (m := ⟨2, 1⟩) (meth := k2m1) (c := k2c1) (by decide +kernel) rfl rfl rfl (by decide +kernel)
set_option maxRecDepth 65536 in
theorem w_c4 : (Jvm.Cond.code ({ cls := "com/example/pagewarden/pagewarden/locality/FenwickTree", name := "sumBefore", desc := "(I)I" } : Jvm.MethodName) prog_8_method_3_code (4 : Nat) (Option.some Jvm.ClassFile.FieldType.int)).before args0 about1 = true := code_word (m := ⟨2, 2⟩) (meth := k2m2) (c := k2c2) (by decide +kernel) rfl rfl rfl (by decide +kernel)
def codes1 : List Jvm.Cond := [Jvm.Cond.code x code maxLocals ret, Jvm.Cond.code ({ cls := "com/example/pagewarden/pagewarden/locality/FenwickTree", name := "<init>", desc := "(I)V" } : Jvm.MethodName) prog_8_method_1_code (2 : Nat) (Option.none : Option Jvm.ClassFile.FieldType), Jvm.Cond.code ({ cls := "java/lang/Object", name := "<init>", desc := "()V" } : Jvm.MethodName) object_method_1_code (1 : Nat) (Option.none : Option Jvm.ClassFile.FieldType), Jvm.Cond.code ({ cls := "com/example/pagewarden/pagewarden/locality/FenwickTree", name := "add", desc := "(II)V" } : Jvm.MethodName) prog_8_method_2_code (4 : Nat) (Option.none : Option Jvm.ClassFile.FieldType), Jvm.Cond.code ({ cls := "com/example/pagewarden/pagewarden/locality/FenwickTree", name := "sumBefore", desc := "(I)I" } : Jvm.MethodName) prog_8_method_3_code (4 : Nat) (Option.some Jvm.ClassFile.FieldType.int)]
set_option maxRecDepth 65536 in
theorem codes_eq : words1.filter isCode = codes1 := rfl
theorem w_codes : ∀ c ∈ words1.filter isCode, c.before args0 about1 = true := by
  rw [codes_eq]
  intro c hc
  simp only [codes1, List.mem_cons, List.not_mem_nil, or_false] at hc
  rcases hc with rfl | rfl | rfl | rfl | rfl
  · exact w_c0
  · exact w_c1
  · exact w_c2
  · exact w_c3
  · exact w_c4
set_option maxRecDepth 65536 in
theorem w_t1 : words1.all (fun c => isCode c || c.before args0 about1) = true := by decide +kernel
theorem w_tables : (allAtoms (Jvm.Cond.code x code maxLocals ret :: tables_1)).before args0 about1 = true := by
  rw [allAtoms_all]
  show words1.all (fun c => c.before args0 about1) = true
  refine all_split ?_ w_codes
  rw [w_t1]
set_option maxRecDepth 65536 in
theorem w_case : (Jvm.Cond.and given_1 narrow_1).before args0 about1 = true := by decide +kernel
theorem w_applies : (headSpec (Jvm.Cond.code x code maxLocals ret :: tables_1) room_1).applies x e0.platform about1 = true :=
  (Spec.applies_iff w_frames).mpr ⟨w_running, w_runnable, w_alone, w_named, w_hears, w_ripe, w_room, w_tables⟩
theorem atStart : AtStart classFile x code maxLocals ret World_1 tables_1 room_1 Calls_1 rest_1 Pre_1 launch0 p0 e0 about1 theMethod args0 below0 :=
  ⟨lists_1, trivial, launch0.admits_env _ _ _, launch0.least_env, fairChoices_fair.cas, fairChoices_fair.clock, w_frames, w_args, w_heap, w_applies, trivial, trivial, w_case⟩
end start1
theorem witness_1 : WitnessClaimed_1 := ⟨start1.p0, start1.e0, start1.about1, start1.theMethod, start1.args0, start1.below0, start1.atStart⟩
end Jvm.Pilot.@@N@@
