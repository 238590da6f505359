/-
  SEAT b6603777aM. THE LAW FnFillKeepsTheBound (4).
-/
import Derived.Test.Qxb6603777aModsShare
namespace Go.Proofs.Qxb6603777aMods
open Go.RowKit Plain

set_option maxRecDepth 100000 in
set_option maxHeartbeats 3200000 in
theorem keeps_main (bd : Int) (a1 a2 : Option Addr) (m c1 b1 o1 n c2 b2 o2 : Nat) (of cf : Nat → Int) (w : World) (hm : m ≤ 65536) (hn : n ≤ 65536) (h1 : Ints .i64 w a1 m c1 b1 o1 of) (h2 : Ints .i32 w a2 n c2 b2 o2 cf) (hb1 : -2147483648 ≤ bd) (hb2 : bd ≤ 2147483647) :
    Calls Trym.prog 4 #[.int .i32 bd, .slice a1 m c1, .slice a2 n c2] w fun e w' => e = .returned (.bool true) ∧ Below w.heap.size w w' := by
  have hd : decide (m + n ≤ 1048576) = true := by simp; omega
  go_enter Trym.func4, Trym.ntmps4
  go_wp2_with fail
  refine (bytes_keeps bd a1 a2 m c1 n c2 w (by omega) (by omega)).mono ?_
  rintro e w' ⟨rfl, rfl⟩
  rw [hd]
  clear hd
  go_wp2_with fail
  refine (fillDomain_any a1 a2 m c1 b1 o1 n c2 b2 o2 of cf _ hm hn h1 h2).mono ?_
  rintro e w1 ⟨r, rfl, hB1, hr⟩
  cases r with
  | false =>
    go_wp2
    go_ret
    exact ⟨rfl, hB1⟩
  | true =>
  obtain ⟨hp, ho⟩ := hr rfl
  obtain ⟨d, hof⟩ := dom_of hp ho h2.range
  have HOF : Hid (∀ k, k < m → of k = (((of k).toNat : Nat) : Int)) := hof
  clear hr hp ho hof
  go_wp2_with fail
  refine (cloneInts_any a1 m c1 b1 o1 of _ (by omega) (h1.below hB1)).mono ?_
  rintro e w2 ⟨a1', c1', p1, rfl, hB2, hi2, -⟩
  go_wp2_with fail
  refine (cloneInt32s_any a2 n c2 b2 o2 cf _ (by omega) ((h2.below hB1).below hB2)).mono ?_
  rintro e w3 ⟨a2', c2', p2, rfl, hB3, hj3, -⟩
  have hi3 := hi2.below hB3
  have hz2 := hB2.size
  have hz1 := hB1.size
  have hz3 := hB3.size
  have hbb3 : Below w'.heap.size w' w3 := (hB1.trans (hB2.mono hz1)).trans (hB3.mono (by omega))
  clear hi2 h1 h2 hB1 hB2 hB3
  go_wp2_with fail
  refine (zzfill_of (fill_any bd a1' a2' m c1' p1 0 n c2' p2 0 of cf (fun k => (of k).toNat) _ hm hn hi3 hj3 HOF.out d hb1 hb2)).mono ?_
  rintro e w4 ⟨rfl, hS⟩
  have hi4 := hi3.below hS.below
  have hj4 := hj3.below hS.below
  have hbb4 : Below w'.heap.size w' w4 := hbb3.trans (hS.below.mono (by omega))
  have hpr := hS.row
  have hz4 := hS.size
  have hz4' : w3.heap.size < w4.heap.size := by omega
  have FSUM : Hid (sumTo (fillP bd (fun k => (of k).toNat) cf m) n + fillL bd (fun k => (of k).toNat) cf m = bd) := fill_sum d bd m (Nat.le_refl _)
  have FR : ∀ i, -2147483648 ≤ fillP bd (fun k => (of k).toNat) cf m i ∧ fillP bd (fun k => (of k).toNat) cf m i ≤ 2147483647 := fillP_i32 d bd hb1 hb2 m (Nat.le_refl _)
  have FL := fillL_range d bd hb1 hb2 m (Nat.le_refl _)
  have FPR : Hid (0 ≤ bd → ∀ i, i < n → 0 ≤ fillP bd (fun k => (of k).toNat) cf m i ∧ fillP bd (fun k => (of k).toNat) cf m i ≤ cf i) := fun h i hi => fillP_range d bd h i hi
  have FPN : Hid (∀ i, (∀ j, j < m → (of j).toNat ≠ i) → fillP bd (fun k => (of k).toNat) cf m i = 0) := fun i h => fillP_not bd _ cf m i h
  have FPF : Hid (∀ k, k + 1 < m → 0 < fillP bd (fun k => (of k).toNat) cf m (of (k + 1)).toNat → fillP bd (fun k => (of k).toNat) cf m (of k).toNat = cf (of k).toNat) := fun k hk h => fill_full d bd k hk h
  have FPL : Hid (0 ≤ bd → 0 < fillL bd (fun k => (of k).toNat) cf m → ∀ k, k < m → fillP bd (fun k => (of k).toNat) cf m (of k).toNat = cf (of k).toNat) := fun h h' k hk => fill_left d bd h h' k hk
  have FLN : Hid (0 ≤ bd → 0 ≤ fillL bd (fun k => (of k).toNat) cf m) := fun h => (fillL_nonneg d bd h m (Nat.le_refl _)).1
  have HLT : Hid (∀ k, k < m → (of k).toNat < n) := d.lt
  generalize fillP bd (fun k => (of k).toNat) cf m = p at *
  generalize fillL bd (fun k => (of k).toNat) cf m = L at *
  have FSR := sumTo_range p
  have HSR : Hid (∀ i : Nat, -2147483648 * (i : Int) ≤ sumTo p i ∧ sumTo p i ≤ 2147483647 * (i : Int)) := fun i => FSR i FR
  have HFR : Hid (∀ i, -2147483648 ≤ p i ∧ p i ≤ 2147483647) := FR
  clear hi3 hj3 hbb3 d hS FSR FR hz4
  go_wp2_with fail
  -- the sum
  go_loopg [9, 10] n (fun g s i wr => ∃ k : Nat, k ≤ n ∧ g = n - k ∧ i = .int .i64 k ∧ s = .int .i64 (sumTo p k) ∧ w4 = wr)
  case atStart => exact ⟨0, Nat.zero_le _, rfl, rfl, rfl, rfl⟩
  case round =>
  obtain ⟨k, hk, rfl, rfl, rfl, rfl⟩ := hrel
  by_cases hlt : k < n
  · have r1 : w4.cell? ⟨w3.heap.size, k, none⟩ = some (.int .i32 (p k)) := hpr.cell hlt
    have e1 := HSR.out k
    have e2 := HFR.out k
    have HE : Hid (sumTo p (k + 1) = sumTo p k + p k) := rfl
    generalize sumTo p k = S at *
    generalize p k = x at *
    go_wp2
    go_roundg (n - (k + 1))
    case measure => go_light; omega
    case rel => exact ⟨k + 1, by omega, rfl, by go_num, by rw [HE.out], rfl⟩
  obtain rfl : n = k := by omega
  have e1 := HSR.out n
  have hs := FSUM.out
  generalize sumTo p n = S at *
  have hs2 : (S + L == bd) = true := by simp [hs]
  clear hs
  by_cases hneg : bd < 0
  · go_wp2
    go_ret
    exact ⟨rfl, hbb4⟩
  have hmk := run_make_row' (P := Trym.prog) 30 4 (.bool false) 1 Trym.underlying30 Trym.info4 rfl .i64 .i64 n (by omega) (by omega)
  go_wp2_with fail
  clear hmk hs2 e1 HSR FSUM
  -- who is in the order
  go_loopg [12] m (fun g i wx => ∃ q : Nat, q ≤ m ∧ g = m - q ∧ i = .int .i64 q ∧ SeenSt w4 wx n (seenTo of q))
  case atStart => exact ⟨0, Nat.zero_le _, rfl, rfl, seen_start _ n of⟩
  case round =>
  obtain ⟨q, hq, rfl, rfl, hS⟩ := hrel
  have hiS := hi4.below hS.below
  by_cases hqm : q < m
  · have ea : a1' = some ⟨p1, 0, none⟩ := hi4.addr (by omega)
    have hIn := HLT.out q hqm
    have r1 : wr.cell? ⟨p1, 0 + q, none⟩ = some (.int .i64 (((of q).toNat : Nat) : Int)) := by rw [← HOF.out q hqm]; exact hiS.cell q hqm
    rw [Nat.zero_add] at r1
    obtain ⟨v, r2⟩ : ∃ v, wr.cell? ⟨w4.heap.size, (of q).toNat, none⟩ = some v := ⟨_, hS.row.cell hIn⟩
    have r3 := hS.row.frozen (of q).toNat
    have HS := seen_step hS (HOF.out q hqm)
    have hbi : (((of q).toNat : Nat) : Int) < (n : Int) := by omega
    subst ea
    generalize (of q).toNat = I at *
    clear hS hiS
    go_wp2
    go_roundg (m - (q + 1))
    case measure => go_light; omega
    case rel => exact ⟨q + 1, by omega, rfl, by go_num, HS⟩
  obtain rfl : m = q := by omega
  have hjS := hj4.below hS.below
  have hpS := rowIs_below hS.below hz4' hpr
  have hrS := hS.row
  have hbbS : Below w'.heap.size w' wr := hbb4.trans (hS.below.mono (by omega))
  have HSM := seenTo_mem of m
  have HSM' : Hid (∀ i, seenTo of m i = false → ∀ j, j < m → (of j).toNat ≠ i) := HSM
  clear hi4 hj4 hpr hbb4 hS HSM
  generalize seenTo of m = sn at *
  generalize hwS : wr = wS at *
  clear hwS
  go_wp2_with fail
  -- every part
  go_loopg [13] n (fun g i wx => ∃ k nq : Nat, k ≤ n ∧ g = n - k ∧ i = .int .i64 k ∧ wx = wS.drewN nq)
  case atStart => exact ⟨0, 0, Nat.zero_le _, rfl, rfl, rfl⟩
  case round =>
  obtain ⟨k, nq, hk, rfl, rfl, rfl⟩ := hrel
  by_cases hlt : k < n
  · have ea : a2' = some ⟨p2, 0, none⟩ := hjS.addr (by omega)
    obtain ⟨x, r1, HX⟩ : ∃ x, wS.cell? ⟨w3.heap.size, k, none⟩ = some (.int .i32 x) ∧ Hid (p k = x) := ⟨_, hpS.cell hlt, rfl⟩
    obtain ⟨C, r2, HC⟩ : ∃ C, wS.cell? ⟨p2, k, none⟩ = some (.int .i32 C) ∧ Hid (cf k = C) := ⟨_, by have h := hjS.cell k hlt; rw [Nat.zero_add] at h; exact h, rfl⟩
    have r3 : wS.cell? ⟨w4.heap.size, k, none⟩ = some (.bool (sn k)) := hrS.cell hlt
    have hxr := FPR.out (by omega) k hlt
    rw [HX.out, HC.out] at hxr
    have x1 : decide (x < 0) = false := by simp; omega
    have x2 : x ≤ C := hxr.2
    have x3 : 0 ≤ x := hxr.1
    have hki : (k : Int) < (n : Int) := by omega
    have hxz : sn k = false → x = 0 := fun h => by rw [← HX.out]; exact FPN.out k (HSM'.out k h)
    have HXZ : Hid (sn k = false → x = 0) := hxz
    subst ea
    clear hxr hxz hjS hpS hrS hiS
    go_wp2_with fail
    go_quiet (fail)
    by_cases hsn : sn k = true
    · rw [hsn] at r3
      go_wp2
      go_roundg (n - (k + 1))
      case measure => go_light; omega
      case rel => exact ⟨k + 1, _, by omega, rfl, by go_num, rfl⟩
    · have hsn' : sn k = false := by simpa using hsn
      have hx0 := HXZ.out hsn'
      rw [hsn'] at r3
      clear hsn hsn'
      subst hx0
      go_wp2
      go_roundg (n - (k + 1))
      case measure => go_light; omega
      case rel => exact ⟨k + 1, _, by omega, rfl, by go_num, rfl⟩
  go_wp2_with fail
  -- the one before is full
  go_loopg [14] m (fun g i wx => ∃ k nq : Nat, k ≤ m ∧ g = m - k ∧ i = .int .i64 k ∧ wx = wS.drewN nq)
  case atStart => exact ⟨0, nq, Nat.zero_le _, rfl, rfl, rfl⟩
  case round =>
  obtain ⟨k, nq4, hk, rfl, rfl, rfl⟩ := hrel
  by_cases hlt4 : k + 1 < m
  · have ea : a1' = some ⟨p1, 0, none⟩ := hiS.addr (by omega)
    have hI1 := HLT.out (k + 1) hlt4
    have hI0 := HLT.out k (by omega)
    have eb : a2' = some ⟨p2, 0, none⟩ := hjS.addr (by omega)
    have r1 : wS.cell? ⟨p1, k + 1, none⟩ = some (.int .i64 (((of (k + 1)).toNat : Nat) : Int)) := by have h := hiS.cell (k + 1) hlt4; rw [Nat.zero_add, HOF.out (k + 1) hlt4] at h; exact h
    have r0 : wS.cell? ⟨p1, k, none⟩ = some (.int .i64 (((of k).toNat : Nat) : Int)) := by have h := hiS.cell k (by omega); rw [Nat.zero_add, HOF.out k (by omega)] at h; exact h
    obtain ⟨x1, s1, HX1⟩ : ∃ x, wS.cell? ⟨w3.heap.size, (of (k + 1)).toNat, none⟩ = some (.int .i32 x) ∧ Hid (p (of (k + 1)).toNat = x) := ⟨_, hpS.cell hI1, rfl⟩
    obtain ⟨x0, s0, HX0⟩ : ∃ x, wS.cell? ⟨w3.heap.size, (of k).toNat, none⟩ = some (.int .i32 x) ∧ Hid (p (of k).toNat = x) := ⟨_, hpS.cell hI0, rfl⟩
    obtain ⟨C0, t0, HC0⟩ : ∃ C, wS.cell? ⟨p2, (of k).toNat, none⟩ = some (.int .i32 C) ∧ Hid (cf (of k).toNat = C) := ⟨_, by have h := hjS.cell _ hI0; rw [Nat.zero_add] at h; exact h, rfl⟩
    have hbi1 : (((of (k + 1)).toNat : Nat) : Int) < (n : Int) := by omega
    have hbi0 : (((of k).toNat : Nat) : Int) < (n : Int) := by omega
    have HF : Hid (0 < x1 → x0 = C0) := fun h => by rw [← HX0.out, ← HC0.out]; exact FPF.out k hlt4 (by rw [HX1.out]; exact h)
    have hki : (k : Int) < (m : Int) := by omega
    have hki1 : (k : Int) + 1 < (m : Int) := by omega
    subst ea
    subst eb
    clear HX1 HX0 HC0 hI1 hI0
    generalize (of (k + 1)).toNat = I1 at *
    generalize (of k).toNat = I0 at *
    clear hjS hpS hrS hiS
    by_cases hx1 : 0 < x1
    · have hxe := HF.out hx1
      subst hxe
      go_wp2_with fail
      go_quiet (fail)
      go_wp2
      go_roundg (m - (k + 1))
      case measure => go_light; omega
      case rel => exact ⟨k + 1, _, by omega, rfl, by go_num, rfl⟩
    · have hx1' : decide (0 < x1) = false := by simp; omega
      go_wp2_with fail
      go_quiet (fail)
      go_wp2
      go_roundg (m - (k + 1))
      case measure => go_light; omega
      case rel => exact ⟨k + 1, _, by omega, rfl, by go_num, rfl⟩
  have hLn := FLN.out (by omega)
  have hbS := hbbS
  by_cases hL0 : 0 < L
  · have FPL' : Hid (∀ k, k < m → p (of k).toNat = cf (of k).toNat) := FPL.out (by omega) hL0
    go_wp2_with fail
    -- all are full
    go_loopg [15] m (fun g i wx => ∃ k nq : Nat, k ≤ m ∧ g = m - k ∧ i = .int .i64 k ∧ wx = wS.drewN nq)
    case atStart => exact ⟨0, nq4, Nat.zero_le _, rfl, rfl, rfl⟩
    case round =>
    obtain ⟨j, nq5, hj, rfl, rfl, rfl⟩ := hrel
    by_cases hjm : j < m
    · have ea : a1' = some ⟨p1, 0, none⟩ := hiS.addr (by omega)
      have hI0 := HLT.out j hjm
      have eb : a2' = some ⟨p2, 0, none⟩ := hjS.addr (by omega)
      have r0 : wS.cell? ⟨p1, j, none⟩ = some (.int .i64 (((of j).toNat : Nat) : Int)) := by have h := hiS.cell j hjm; rw [Nat.zero_add, HOF.out j hjm] at h; exact h
      obtain ⟨x0, s0, HX0⟩ : ∃ x, wS.cell? ⟨w3.heap.size, (of j).toNat, none⟩ = some (.int .i32 x) ∧ Hid (p (of j).toNat = x) := ⟨_, hpS.cell hI0, rfl⟩
      have t0 : wS.cell? ⟨p2, (of j).toNat, none⟩ = some (.int .i32 x0) := by have h := hjS.cell _ hI0; rw [Nat.zero_add, ← FPL'.out j hjm, HX0.out] at h; exact h
      have hbi0 : (((of j).toNat : Nat) : Int) < (n : Int) := by omega
      have hji : (j : Int) < (m : Int) := by omega
      subst ea
      subst eb
      clear HX0 hI0
      generalize (of j).toNat = I0 at *
      clear hjS hpS hrS hiS
      go_wp2_with fail
      go_quiet (fail)
      go_wp2
      go_roundg (m - (j + 1))
      case measure => go_light; omega
      case rel => exact ⟨j + 1, _, by omega, rfl, by go_num, rfl⟩
    · go_wp2
      go_ret
      exact ⟨rfl, belowDrewN hbS _⟩
  · go_wp2
    go_ret
    exact ⟨rfl, belowDrewN hbS _⟩
end Go.Proofs.Qxb6603777aMods
