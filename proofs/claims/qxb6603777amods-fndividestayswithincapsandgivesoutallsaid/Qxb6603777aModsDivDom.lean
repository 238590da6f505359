/-
  SEAT b6603777aM. divideDomain (17), takenIn (23), the bounds on lengths (16, 21).
-/
import Derived.Test.Qxb6603777aModsShare
import Derived.Test.Qxb6603777aModsPlainDiv
namespace Go.Proofs.Qxb6603777aMods
open Go.RowKit Plain

/-- WHAT divideDomain LETS BY. -/
structure DivOk (bd : Int) (nil : Bool) (n m n3 : Nat) (wf of cf : Nat → Int) : Prop where
  bd : 0 ≤ bd
  wts : ∀ i, i < n → 0 ≤ wf i ∧ wf i ≤ 2147483648
  caps : nil = false → n3 = n ∧ ∀ i, i < n → 0 ≤ cf i
  ord : OrdOk of n m

def DivPost (bd : Int) (nil : Bool) (w : World) (n m n3 : Nat) (wf of cf : Nat → Int) (e : Ending) (w' : World) : Prop :=
  ∃ r, e = .returned (.bool r) ∧ Below w.heap.size w w' ∧ (r = true → DivOk bd nil n m n3 wf of cf)
theorem DivPost.no {bd : Int} {nil : Bool} {w w' : World} {n m n3 : Nat} {wf of cf : Nat → Int} (h : Below w.heap.size w w') : DivPost bd nil w n m n3 wf of cf (.returned (.bool false)) w' := ⟨false, rfl, h, fun h => by cases h⟩
theorem DivPost.yes {bd : Int} {nil : Bool} {w w' : World} {n m n3 : Nat} {wf of cf : Nat → Int} (h : Below w.heap.size w w') (h1 : DivOk bd nil n m n3 wf of cf) : DivPost bd nil w n m n3 wf of cf (.returned (.bool true)) w' := ⟨true, rfl, h, fun _ => h1⟩

set_option maxRecDepth 100000 in
set_option maxHeartbeats 1600000 in
theorem divideDomain_nil (bd : Int) (a1 a2 : Option Addr) (n c1 b1 o1 m c2 b2 o2 n3 c3 b3 o3 : Nat) (wf of cf : Nat → Int) (w : World) (hn : n ≤ 65536) (hm : m ≤ 65536) (_hn3 : n3 ≤ 65536) (h1 : Ints .i64 w a1 n c1 b1 o1 wf) (h2 : Ints .i64 w a2 m c2 b2 o2 of) (h3 : Ints .i32 w none n3 c3 b3 o3 cf) :
    Calls Trym.prog 17 #[.int .i32 bd, .slice a1 n c1, .slice a2 m c2, .slice none n3 c3] w (DivPost bd true w n m n3 wf of cf) := by
  have hnn := fun (w : World) (a : Option Addr) (n c : Nat) => run_neq_slice_nil_any (P := Trym.prog) w 23 21 a n c 0 0 Trym.underlying23
  have hmk := run_make_row' (P := Trym.prog) 30 4 (.bool false) 1 Trym.underlying30 Trym.info4 rfl .i64 .i64 n (by omega) (by omega)
  by_cases hb0 : bd < 0
  · go_enter Trym.func17, Trym.ntmps17
    go_wp2
    go_ret
    exact DivPost.no (Below.refl _ _)
  go_enter Trym.func17, Trym.ntmps17
  go_wp2
  go_loopg [9] n (fun g i wr => ∃ k : Nat, k ≤ n ∧ g = n - k ∧ i = .int .i64 k ∧ (∀ j, j < k → 0 ≤ wf j ∧ wf j ≤ 2147483648) ∧ wr = w)
  case atStart => exact ⟨0, Nat.zero_le _, rfl, rfl, fun j hj => absurd hj (by omega), rfl⟩
  case round =>
  obtain ⟨k, hk, rfl, rfl, hpos, rfl⟩ := hrel
  by_cases hlt : k < n
  · obtain rfl := h1.addr (by omega)
    obtain ⟨x, hx, HX⟩ : ∃ x, wr.cell? ⟨b1, o1 + k, none⟩ = some (.int .i64 x) ∧ Hid (wf k = x) := ⟨_, h1.cell k hlt, rfl⟩
    have HP : Hid (∀ j, j < k → 0 ≤ wf j ∧ wf j ≤ 2147483648) := hpos
    clear hpos hmk hnn
    by_cases hx0 : x < 0
    · go_wp2
      go_ret
      exact DivPost.no (Below.refl _ _)
    · by_cases hx1 : 2147483648 < x
      · go_wp2
        go_ret
        exact DivPost.no (Below.refl _ _)
      · go_wp2
        go_roundg (n - (k + 1))
        case measure => go_light; omega
        case rel => exact ⟨k + 1, by omega, rfl, by go_num, fun j hj => by
          by_cases e : j = k
          · rw [e, HX.out]; omega
          · exact HP.out j (by omega), rfl⟩
  obtain rfl : k = n := by omega
  have HW : Hid (∀ j, j < k → 0 ≤ wf j ∧ wf j ≤ 2147483648) := hpos
  clear hpos
  go_wp2
  clear hmk hnn
  go_loopg [12] m (fun g i wx => ∃ q : Nat, q ≤ m ∧ g = m - q ∧ i = .int .i64 q ∧ OrdOk of k q ∧ SeenSt wr wx k (seenTo of q))
  case atStart => exact ⟨0, Nat.zero_le _, rfl, rfl, ⟨fun j hj => absurd hj (by omega), fun i j hi => absurd hi (by omega)⟩, seen_start _ k of⟩
  case round =>
  obtain ⟨q, hq, rfl, rfl, hO, hS⟩ := hrel
  by_cases hqm : q < m
  · obtain rfl := h2.addr (by omega)
    obtain ⟨x, hx, HX⟩ : ∃ x, wr.cell? ⟨b2, o2 + q, none⟩ = some (.int .i64 x) ∧ Hid (of q = x) := ⟨_, by rw [hS.below.cell (p := ⟨b2, o2 + q, none⟩) (World.block_lt_of_cell? _ _ (h2.cell q hqm))]; exact h2.cell q hqm, rfl⟩
    have hbe := hS.below
    by_cases c1 : x < 0
    · go_wp2
      go_ret
      exact DivPost.no hbe
    by_cases c2 : (k : Int) ≤ x
    · go_wp2
      go_ret
      exact DivPost.no hbe
    obtain ⟨I, rfl⟩ := Int.eq_ofNat_of_zero_le (show 0 ≤ x by omega)
    have hIk : I < k := by omega
    have hs1 : wr.cell? ⟨_, I, none⟩ = some (.bool (seenTo of q I)) := hS.row.cell hIk
    have hs2 := hS.row.frozen I
    by_cases c3 : seenTo of q I = true
    · rw [c3] at hs1
      go_wp2
      go_ret
      exact DivPost.no hbe
    · have c4 : seenTo of q I = false := by simpa using c3
      rw [c4] at hs1
      have HO := ordOk_step hO HX.out hIk c4
      have HS := seen_step hS HX.out
      clear c3 c4 hO hS
      go_wp2
      go_roundg (m - (q + 1))
      case measure => go_light; omega
      case rel => exact ⟨q + 1, by omega, rfl, by go_num, HO, HS⟩
  · obtain rfl : q = m := by omega
    have hd : DivOk bd true k q n3 wf of cf := ⟨by omega, HW.out, (fun h => by cases h), hO⟩
    go_wp2
    go_ret
    exact DivPost.yes hS.below hd

set_option maxRecDepth 100000 in
set_option maxHeartbeats 1600000 in
theorem divideDomain_some (bd : Int) (a1 a2 : Option Addr) (a3 : Addr) (n c1 b1 o1 m c2 b2 o2 n3 c3 b3 o3 : Nat) (wf of cf : Nat → Int) (w : World) (hn : n ≤ 65536) (hm : m ≤ 65536) (_hn3 : n3 ≤ 65536) (h1 : Ints .i64 w a1 n c1 b1 o1 wf) (h2 : Ints .i64 w a2 m c2 b2 o2 of) (h3 : Ints .i32 w (some a3) n3 c3 b3 o3 cf) :
    Calls Trym.prog 17 #[.int .i32 bd, .slice a1 n c1, .slice a2 m c2, .slice (some a3) n3 c3] w (DivPost bd false w n m n3 wf of cf) := by
  have hnn := fun (w : World) (a : Option Addr) (n c : Nat) => run_neq_slice_nil_any (P := Trym.prog) w 23 21 a n c 0 0 Trym.underlying23
  have hmk := run_make_row' (P := Trym.prog) 30 4 (.bool false) 1 Trym.underlying30 Trym.info4 rfl .i64 .i64 n (by omega) (by omega)
  by_cases hb0 : bd < 0
  · go_enter Trym.func17, Trym.ntmps17
    go_wp2
    go_ret
    exact DivPost.no (Below.refl _ _)
  go_enter Trym.func17, Trym.ntmps17
  go_wp2
  go_loopg [9] n (fun g i wr => ∃ k : Nat, k ≤ n ∧ g = n - k ∧ i = .int .i64 k ∧ (∀ j, j < k → 0 ≤ wf j ∧ wf j ≤ 2147483648) ∧ wr = w)
  case atStart => exact ⟨0, Nat.zero_le _, rfl, rfl, fun j hj => absurd hj (by omega), rfl⟩
  case round =>
  obtain ⟨k, hk, rfl, rfl, hpos, rfl⟩ := hrel
  by_cases hlt : k < n
  · obtain rfl := h1.addr (by omega)
    obtain ⟨x, hx, HX⟩ : ∃ x, wr.cell? ⟨b1, o1 + k, none⟩ = some (.int .i64 x) ∧ Hid (wf k = x) := ⟨_, h1.cell k hlt, rfl⟩
    have HP : Hid (∀ j, j < k → 0 ≤ wf j ∧ wf j ≤ 2147483648) := hpos
    clear hpos hmk hnn
    by_cases hx0 : x < 0
    · go_wp2
      go_ret
      exact DivPost.no (Below.refl _ _)
    · by_cases hx1 : 2147483648 < x
      · go_wp2
        go_ret
        exact DivPost.no (Below.refl _ _)
      · go_wp2
        go_roundg (n - (k + 1))
        case measure => go_light; omega
        case rel => exact ⟨k + 1, by omega, rfl, by go_num, fun j hj => by
          by_cases e : j = k
          · rw [e, HX.out]; omega
          · exact HP.out j (by omega), rfl⟩
  obtain rfl : k = n := by omega
  have HW : Hid (∀ j, j < k → 0 ≤ wf j ∧ wf j ≤ 2147483648) := hpos
  clear hpos
  by_cases hq3 : n3 = k
  case neg =>
    have hq4 : ((n3 : Int) == (k : Int)) = false := by simp; omega
    have hq5 : ((n3 : Int) != (k : Int)) = true := by simp; omega
    go_wp2
    go_ret
    exact DivPost.no (Below.refl _ _)
  subst hq3
  go_wp2
  go_loopg [10] n3 (fun g i wx => ∃ k : Nat, k ≤ n3 ∧ g = n3 - k ∧ i = .int .i64 k ∧ (∀ j, j < k → 0 ≤ cf j) ∧ wx = wr)
  case atStart => exact ⟨0, Nat.zero_le _, rfl, rfl, fun j hj => absurd hj (by omega), rfl⟩
  case round =>
  obtain ⟨k, hk, rfl, rfl, hpos, rfl⟩ := hrel
  by_cases hlt : k < n3
  · obtain h3a := h3.addr (by omega)
    obtain rfl := Option.some.inj h3a
    obtain ⟨x, hx, HX⟩ : ∃ x, wr.cell? ⟨b3, o3 + k, none⟩ = some (.int .i32 x) ∧ Hid (cf k = x) := ⟨_, h3.cell k hlt, rfl⟩
    have HP : Hid (∀ j, j < k → 0 ≤ cf j) := hpos
    clear hpos hmk hnn h3a
    by_cases hx0 : x < 0
    · go_wp2
      go_ret
      exact DivPost.no (Below.refl _ _)
    · go_wp2
      go_roundg (n3 - (k + 1))
      case measure => go_light; omega
      case rel => exact ⟨k + 1, by omega, rfl, by go_num, fun j hj => by
        by_cases e : j = k
        · rw [e, HX.out]; omega
        · exact HP.out j (by omega), rfl⟩
  obtain rfl : k = n3 := by omega
  have HCAP : Hid (∀ i, i < k → 0 ≤ cf i) := hpos
  clear hpos
  go_wp2
  clear hmk hnn
  go_loopg [12] m (fun g i wx => ∃ q : Nat, q ≤ m ∧ g = m - q ∧ i = .int .i64 q ∧ OrdOk of k q ∧ SeenSt wr wx k (seenTo of q))
  case atStart => exact ⟨0, Nat.zero_le _, rfl, rfl, ⟨fun j hj => absurd hj (by omega), fun i j hi => absurd hi (by omega)⟩, seen_start _ k of⟩
  case round =>
  obtain ⟨q, hq, rfl, rfl, hO, hS⟩ := hrel
  by_cases hqm : q < m
  · obtain rfl := h2.addr (by omega)
    obtain ⟨x, hx, HX⟩ : ∃ x, wr.cell? ⟨b2, o2 + q, none⟩ = some (.int .i64 x) ∧ Hid (of q = x) := ⟨_, by rw [hS.below.cell (p := ⟨b2, o2 + q, none⟩) (World.block_lt_of_cell? _ _ (h2.cell q hqm))]; exact h2.cell q hqm, rfl⟩
    have hbe := hS.below
    by_cases c1 : x < 0
    · go_wp2
      go_ret
      exact DivPost.no hbe
    by_cases c2 : (k : Int) ≤ x
    · go_wp2
      go_ret
      exact DivPost.no hbe
    obtain ⟨I, rfl⟩ := Int.eq_ofNat_of_zero_le (show 0 ≤ x by omega)
    have hIk : I < k := by omega
    have hs1 : wr.cell? ⟨_, I, none⟩ = some (.bool (seenTo of q I)) := hS.row.cell hIk
    have hs2 := hS.row.frozen I
    by_cases c3 : seenTo of q I = true
    · rw [c3] at hs1
      go_wp2
      go_ret
      exact DivPost.no hbe
    · have c4 : seenTo of q I = false := by simpa using c3
      rw [c4] at hs1
      have HO := ordOk_step hO HX.out hIk c4
      have HS := seen_step hS HX.out
      clear c3 c4 hO hS
      go_wp2
      go_roundg (m - (q + 1))
      case measure => go_light; omega
      case rel => exact ⟨q + 1, by omega, rfl, by go_num, HO, HS⟩
  · obtain rfl : q = m := by omega
    have hd : DivOk bd false k q k wf of cf := ⟨by omega, HW.out, fun _ => ⟨rfl, HCAP.out⟩, hO⟩
    go_wp2
    go_ret
    exact DivPost.yes hS.below hd

theorem divideDomain_any (bd : Int) (a1 a2 a3 : Option Addr) (n c1 b1 o1 m c2 b2 o2 n3 c3 b3 o3 : Nat) (wf of cf : Nat → Int) (w : World) (hn : n ≤ 65536) (hm : m ≤ 65536) (hn3 : n3 ≤ 65536) (h1 : Ints .i64 w a1 n c1 b1 o1 wf) (h2 : Ints .i64 w a2 m c2 b2 o2 of) (h3 : Ints .i32 w a3 n3 c3 b3 o3 cf) :
    Calls Trym.prog 17 #[.int .i32 bd, .slice a1 n c1, .slice a2 m c2, .slice a3 n3 c3] w (DivPost bd a3.isNone w n m n3 wf of cf) := by
  cases a3 with
  | none => exact divideDomain_nil bd a1 a2 n c1 b1 o1 m c2 b2 o2 n3 c3 b3 o3 wf of cf w hn hm hn3 h1 h2 h3
  | some a3 => exact divideDomain_some bd a1 a2 a3 n c1 b1 o1 m c2 b2 o2 n3 c3 b3 o3 wf of cf w hn hm hn3 h1 h2 h3

theorem bytes_divide (bd : Int) (a1 a2 a3 : Option Addr) (n c1 m c2 n3 c3 : Nat) (w : World) (h : n ≤ 9223372036854775807) (h2 : m ≤ 9223372036854775807) (h3 : n3 ≤ 9223372036854775807) :
    Calls Trym.prog 16 #[.int .i32 bd, .slice a1 n c1, .slice a2 m c2, .slice a3 n3 c3] w fun e w' => e = .returned (.bool (decide (n + m + n3 ≤ 1048576))) ∧ w' = w := by
  by_cases t1 : n ≤ 1048576
  case neg =>
    go_enter Trym.func16, Trym.ntmps16
    go_wp2
    go_ret
    exact ⟨ret_bool (by simp; omega), rfl⟩
  by_cases t2 : m ≤ 1048576
  case neg =>
    go_enter Trym.func16, Trym.ntmps16
    go_wp2
    go_ret
    exact ⟨ret_bool (by simp; omega), rfl⟩
  by_cases t3 : n + m ≤ 1048576
  case neg =>
    go_enter Trym.func16, Trym.ntmps16
    go_wp2
    go_ret
    exact ⟨ret_bool (by simp; omega), rfl⟩
  by_cases t4 : n3 ≤ 1048576
  case neg =>
    go_enter Trym.func16, Trym.ntmps16
    go_wp2
    go_ret
    exact ⟨ret_bool (by simp; omega), rfl⟩
  by_cases t5 : n + m + n3 ≤ 1048576
  · go_enter Trym.func16, Trym.ntmps16
    go_wp2
    go_ret
    exact ⟨ret_bool (by simp [t5]), rfl⟩
  · go_enter Trym.func16, Trym.ntmps16
    go_wp2
    go_ret
    exact ⟨ret_bool (by simp [t5]), rfl⟩

theorem bytes_stays (bd : Int) (a1 a2 a3 : Option Addr) (n c1 m c2 n3 c3 : Nat) (w : World) (h : n ≤ 9223372036854775807) (h2 : m ≤ 9223372036854775807) (h3 : n3 ≤ 9223372036854775807) :
    Calls Trym.prog 21 #[.int .i32 bd, .slice a1 n c1, .slice a2 m c2, .slice a3 n3 c3] w fun e w' => e = .returned (.bool (decide (n + m + n3 ≤ 1048576))) ∧ w' = w := by
  by_cases t1 : n ≤ 1048576
  case neg =>
    go_enter Trym.func21, Trym.ntmps21
    go_wp2
    go_ret
    exact ⟨ret_bool (by simp; omega), rfl⟩
  by_cases t2 : m ≤ 1048576
  case neg =>
    go_enter Trym.func21, Trym.ntmps21
    go_wp2
    go_ret
    exact ⟨ret_bool (by simp; omega), rfl⟩
  by_cases t3 : n + m ≤ 1048576
  case neg =>
    go_enter Trym.func21, Trym.ntmps21
    go_wp2
    go_ret
    exact ⟨ret_bool (by simp; omega), rfl⟩
  by_cases t4 : n3 ≤ 1048576
  case neg =>
    go_enter Trym.func21, Trym.ntmps21
    go_wp2
    go_ret
    exact ⟨ret_bool (by simp; omega), rfl⟩
  by_cases t5 : n + m + n3 ≤ 1048576
  · go_enter Trym.func21, Trym.ntmps21
    go_wp2
    go_ret
    exact ⟨ret_bool (by simp [t5]), rfl⟩
  · go_enter Trym.func21, Trym.ntmps21
    go_wp2
    go_ret
    exact ⟨ret_bool (by simp [t5]), rfl⟩

set_option maxHeartbeats 800000 in
theorem takenIn_at (B m : Nat) (r : Int) (rm : Nat → Int) (a : Option Addr) (c : Nat) (w : World) (hm : m ≤ 65536) (h1 : Ints .i64 w a m c B 0 rm) (hr : 0 ≤ r ∧ r ≤ 2147483648) (hrm : ∀ k, k < m → 0 ≤ rm k) :
    Calls Trym.prog 23 #[.slice a m c, .int .i64 r] w fun e w' => e = .returned (.int .i64 (taken rm r m)) ∧ w' = w := by
  go_enter Trym.func23, Trym.ntmps23
  go_wp2
  go_loopg [5, 6] m (fun g s i wr => ∃ k : Nat, k ≤ m ∧ g = m - k ∧ i = .int .i64 k ∧ s = .int .i64 (taken rm r k) ∧ wr = w)
  case atStart => exact ⟨0, Nat.zero_le _, rfl, rfl, rfl, rfl⟩
  case round =>
  obtain ⟨k, hk, rfl, rfl, rfl, rfl⟩ := hrel
  by_cases hlt : k < m
  · obtain rfl := h1.addr (by omega)
    obtain ⟨x, hx, HX⟩ : ∃ x, wr.cell? ⟨B, 0 + k, none⟩ = some (.int .i64 x) ∧ Hid (rm k = x) := ⟨_, h1.cell k hlt, rfl⟩
    rw [Nat.zero_add] at hx
    have hT0 : 0 ≤ taken rm r k := taken_nonneg (fun j hj => hrm j (by omega)) hr.1
    have hT1 : taken rm r k ≤ 140737488355328 := by
      have h5 : taken rm r k ≤ sumTo (fun _ => r) k := sumTo_le (fun i _ => by omega)
      have h6 : sumTo (fun _ => r) k ≤ sumTo (fun _ => 2147483648) k := sumTo_le (fun i _ => hr.2)
      have h7 := sumTo_const 2147483648 k
      omega
    have hx0 : 0 ≤ x := by rw [← HX.out]; exact hrm k hlt
    have hr0 := hr.1
    have hr1 := hr.2
    have HT : Hid (taken rm r (k + 1) = taken rm r k + min x r) := by unfold Hid; rw [taken_succ, HX.out]
    generalize taken rm r k = T at *
    clear h1 hrm hr
    by_cases t : x < r
    · go_wp2
      go_roundg (m - (k + 1))
      case measure => go_light; omega
      case rel => exact ⟨k + 1, by omega, rfl, by go_num, congrArg (Value.int .i64) (by rw [HT.out]; omega), rfl⟩
    · go_wp2
      go_roundg (m - (k + 1))
      case measure => go_light; omega
      case rel => exact ⟨k + 1, by omega, rfl, by go_num, congrArg (Value.int .i64) (by rw [HT.out]; omega), rfl⟩
  · obtain rfl : k = m := by omega
    go_wp2
    go_ret
    exact ⟨rfl, rfl⟩

end Go.Proofs.Qxb6603777aMods
