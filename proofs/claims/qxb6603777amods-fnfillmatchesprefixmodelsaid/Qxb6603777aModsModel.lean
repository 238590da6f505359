/-
  SEAT b6603777aM. fillModel (12): the closed form by prefix sums has fill's own answer.
-/
import Derived.Test.Qxb6603777aModsShare
namespace Go.Proofs.Qxb6603777aMods
open Go.RowKit Plain

set_option maxRecDepth 100000 in
set_option maxHeartbeats 1600000 in
theorem model_neg (bd : Int) (a1 a2 : Option Addr) (m c1 b1 o1 n c2 b2 o2 : Nat) (of cf : Nat → Int) (o : Nat → Nat) (w : World) (hm : m ≤ 65536) (hn : n ≤ 65536) (h1 : Ints .i64 w a1 m c1 b1 o1 of) (_h2 : Ints .i32 w a2 n c2 b2 o2 cf) (hof : ∀ k, k < m → of k = ((o k : Nat) : Int)) (d : Dom m n o cf) (hb : bd < 0) :
    Calls Trym.prog 12 #[.int .i32 bd, .slice a1 m c1, .slice a2 n c2] w fun e w' => e = .returned (.tuple #[.slice (some ⟨w.heap.size, 0, none⟩) n n, .int .i32 (fillL bd o cf m)]) ∧ PartSt w w' n (fillP bd o cf m) := by
  have hmk := run_make_row' (P := Trym.prog) 23 21 (.int .i32 0) 4 Trym.underlying23 Trym.info21 rfl .i64 .i64 n (by omega) (by omega)
  have hst := part_start w n
  by_cases hm0 : m = 0
  · subst hm0
    have HL : Hid (fillL bd o cf 0 = bd) := rfl
    have HS : Hid (PartSt w (w.alloc (.cells (madeCells #[.int .i32 0] n) 21)) n (fillP bd o cf 0)) := hst
    clear hst
    go_enter Trym.func12, Trym.ntmps12
    go_wp2
    go_ret2
    exact ⟨by rw [HL.out]; rfl, HS.out⟩
  · have hm1 : ((m : Int) == 0) = false := by simp; omega
    have hm2 : (0 : Int) < (m : Int) := by omega
    obtain rfl := h1.addr (by omega)
    have hI := d.lt 0 (by omega)
    have r0 : w.cell? ⟨b1, o1, none⟩ = some (.int .i64 ((o 0 : Nat) : Int)) := by have h := h1.cell 0 (by omega); rw [hof 0 (by omega)] at h; exact h
    have hb1 : b1 < w.heap.size := World.block_lt_of_cell? _ _ r0
    have r1 : ∀ ob, (w.alloc ob).cell? ⟨b1, o1, none⟩ = some (.int .i64 ((o 0 : Nat) : Int)) := fun ob => by rw [World.cell?_alloc_old _ _ _ (by show b1 ≠ w.heap.size; omega)]; exact r0
    obtain ⟨v, r2⟩ : ∃ v, (w.alloc (.cells (madeCells #[.int .i32 0] n) 21)).cell? ⟨w.heap.size, o 0, none⟩ = some v := ⟨_, hst.row.cell hI⟩
    have r3 := hst.row.frozen (o 0)
    have hbi : ((o 0 : Nat) : Int) < (n : Int) := by omega
    have HL : Hid (fillL bd o cf m = 0) := by unfold Hid; rw [fillL_neg d bd hb m (Nat.le_refl _), if_neg hm0]
    have HS : Hid (PartSt w ((w.alloc (.cells (madeCells #[.int .i32 0] n) 21)).setCell ⟨w.heap.size, o 0, none⟩ (.int .i32 bd)) n (fillP bd o cf m)) := part_step hst (o 0) bd (fun j hj => by
      rw [fillP_neg d bd hb j]
      by_cases e : j = o 0
      · rw [if_pos e, if_pos ⟨by omega, e⟩]
      · rw [if_neg e, if_neg (fun h => e h.2)])
    go_enter Trym.func12, Trym.ntmps12
    go_wp2
    go_ret2
    have HS2 := HS.out
    rw [World.setCell_alloc_at _ _ _ _ _ rfl] at HS2
    exact ⟨by rw [HL.out]; rfl, HS2⟩

set_option maxRecDepth 100000 in
set_option maxHeartbeats 1600000 in
theorem model_pos (bd : Int) (a1 a2 : Option Addr) (m c1 b1 o1 n c2 b2 o2 : Nat) (of cf : Nat → Int) (o : Nat → Nat) (w : World) (hm : m ≤ 65536) (hn : n ≤ 65536) (h1 : Ints .i64 w a1 m c1 b1 o1 of) (h2 : Ints .i32 w a2 n c2 b2 o2 cf) (hof : ∀ k, k < m → of k = ((o k : Nat) : Int)) (d : Dom m n o cf) (hb : 0 ≤ bd) (hb2 : bd ≤ 2147483647) :
    Calls Trym.prog 12 #[.int .i32 bd, .slice a1 m c1, .slice a2 n c2] w fun e w' => e = .returned (.tuple #[.slice (some ⟨w.heap.size, 0, none⟩) n n, .int .i32 (fillL bd o cf m)]) ∧ PartSt w w' n (fillP bd o cf m) := by
  have hmk := run_make_row' (P := Trym.prog) 23 21 (.int .i32 0) 4 Trym.underlying23 Trym.info21 rfl .i64 .i64 n (by omega) (by omega)
  go_enter Trym.func12, Trym.ntmps12
  go_wp2
  clear hmk
  go_loopg [9, 10] m (fun g l i wr => ∃ k : Nat, k ≤ m ∧ g = m - k ∧ i = .int .i64 k ∧ l = .int .i64 (Plain.ahead o cf k) ∧ PartSt w wr n (fillP bd o cf k))
  case atStart => exact ⟨0, Nat.zero_le _, rfl, rfl, rfl, part_start w n⟩
  case round =>
  obtain ⟨k, hk, rfl, rfl, rfl, hS⟩ := hrel
  have hA0 : 0 ≤ Plain.ahead o cf k := (ahead_range d k hk).1
  have hA1 : Plain.ahead o cf k ≤ 140737488355328 := by have := (ahead_range d k hk).2; omega
  have hLA := fillL_ahead d bd hb k hk
  by_cases hlt : k < m
  · obtain rfl := h1.addr (by omega)
    have hIn : o k < n := d.lt k hlt
    obtain rfl := h2.addr (by omega)
    have r1 : wr.cell? ⟨b1, o1 + k, none⟩ = some (.int .i64 ((o k : Nat) : Int)) := by rw [hS.below.cell (p := ⟨b1, o1 + k, none⟩) (World.block_lt_of_cell? _ _ (h1.cell k hlt)), ← hof k hlt]; exact h1.cell k hlt
    obtain ⟨C, r2, HC⟩ : ∃ C, wr.cell? ⟨b2, o2 + o k, none⟩ = some (.int .i32 C) ∧ Hid (cf (o k) = C) := ⟨_, by rw [hS.below.cell (p := ⟨b2, o2 + o k, none⟩) (World.block_lt_of_cell? _ _ (h2.cell _ hIn))]; exact h2.cell _ hIn, rfl⟩
    obtain ⟨v, r3⟩ : ∃ v, wr.cell? ⟨w.heap.size, o k, none⟩ = some v := ⟨_, hS.row.cell hIn⟩
    have r4 := hS.row.frozen (o k)
    have hCr := d.cap (o k) hIn
    rw [HC.out] at hCr
    have hC0 : 0 ≤ C := hCr.1
    have hC1 : C ≤ 2147483647 := hCr.2
    clear hCr
    have HA : Hid (Plain.ahead o cf (k + 1) = Plain.ahead o cf k + C) := by unfold Hid; rw [Plain.ahead, HC.out]
    have HP : Hid (∀ x, x = min C (fillL bd o cf k) → PartSt w (wr.setCell ⟨w.heap.size, o k, none⟩ (.int .i32 x)) n (fillP bd o cf (k + 1))) := fun x hx => part_step hS (o k) _ (fun j _ => by rw [fillP_succ, HC.out, hx])
    have HLA : Hid (fillL bd o cf k = max 0 (bd - Plain.ahead o cf k)) := hLA
    have hbi : (o k : Int) < (n : Int) := by omega
    generalize fillL bd o cf k = L at *
    generalize Plain.ahead o cf k = A at *
    generalize o k = I at *
    clear hLA hS h1 h2 hof
    by_cases t1 : bd - A < 0
    · by_cases t2 : 0 < C
      · go_wp2
        go_roundg (m - (k + 1))
        case measure => go_light; omega
        case rel => exact ⟨k + 1, by omega, rfl, by go_num, congrArg (Value.int .i64) HA.out.symm, HP.out _ (by have := HLA.out; omega)⟩
      · go_wp2
        go_roundg (m - (k + 1))
        case measure => go_light; omega
        case rel => exact ⟨k + 1, by omega, rfl, by go_num, congrArg (Value.int .i64) HA.out.symm, HP.out _ (by have := HLA.out; omega)⟩
    · by_cases t2 : bd - A < C
      · go_wp2
        go_roundg (m - (k + 1))
        case measure => go_light; omega
        case rel => exact ⟨k + 1, by omega, rfl, by go_num, congrArg (Value.int .i64) HA.out.symm, HP.out _ (by have := HLA.out; omega)⟩
      · go_wp2
        go_roundg (m - (k + 1))
        case measure => go_light; omega
        case rel => exact ⟨k + 1, by omega, rfl, by go_num, congrArg (Value.int .i64) HA.out.symm, HP.out _ (by have := HLA.out; omega)⟩
  · obtain rfl : k = m := by omega
    have HLA : Hid (fillL bd o cf k = max 0 (bd - Plain.ahead o cf k)) := hLA
    clear hLA
    by_cases t1 : bd - Plain.ahead o cf k < 0
    · have HE : Hid (fillL bd o cf k = 0) := by unfold Hid; have := HLA.out; omega
      generalize Plain.ahead o cf k = A at *
      go_wp2
      go_ret2
      exact ⟨by rw [HE.out]; rfl, hS⟩
    · have HE : Hid (fillL bd o cf k = bd - Plain.ahead o cf k) := by unfold Hid; have := HLA.out; omega
      generalize Plain.ahead o cf k = A at *
      go_wp2
      go_ret2
      exact ⟨by rw [HE.out]; rfl, hS⟩

theorem model_any (bd : Int) (a1 a2 : Option Addr) (m c1 b1 o1 n c2 b2 o2 : Nat) (of cf : Nat → Int) (o : Nat → Nat) (w : World) (hm : m ≤ 65536) (hn : n ≤ 65536) (h1 : Ints .i64 w a1 m c1 b1 o1 of) (h2 : Ints .i32 w a2 n c2 b2 o2 cf) (hof : ∀ k, k < m → of k = ((o k : Nat) : Int)) (d : Dom m n o cf) (hb2 : bd ≤ 2147483647) :
    Calls Trym.prog 12 #[.int .i32 bd, .slice a1 m c1, .slice a2 n c2] w fun e w' => e = .returned (.tuple #[.slice (some ⟨w.heap.size, 0, none⟩) n n, .int .i32 (fillL bd o cf m)]) ∧ PartSt w w' n (fillP bd o cf m) := by
  by_cases hb : bd < 0
  · exact model_neg bd a1 a2 m c1 b1 o1 n c2 b2 o2 of cf o w hm hn h1 h2 hof d hb
  · exact model_pos bd a1 a2 m c1 b1 o1 n c2 b2 o2 of cf o w hm hn h1 h2 hof d (by omega) hb2
end Go.Proofs.Qxb6603777aMods
