/-
  SEAT b6603777aM. fillDomain (9), fill (22), ZZFill (13), the bounds on lengths (8, 14, 15).
-/
import Derived.Test.Qxb6603777aModsBase
namespace Go.Proofs.Qxb6603777aMods
open Go.RowKit Plain

/-- what the domain's test has seen of an order -/
def seenTo (of : Nat → Int) : Nat → Nat → Bool
  | 0 => fun _ => false
  | k + 1 => fun i => if i = (of k).toNat then true else seenTo of k i

theorem seenTo_succ (of : Nat → Int) (k i : Nat) : seenTo of (k + 1) i = if i = (of k).toNat then true else seenTo of k i := rfl

theorem seenTo_mem (of : Nat → Int) (k i : Nat) (h : seenTo of k i = false) : ∀ j, j < k → (of j).toNat ≠ i := by
  induction k with
  | zero => intro j hj; omega
  | succ k ih =>
    rw [seenTo_succ] at h
    by_cases e : i = (of k).toNat
    · rw [if_pos e] at h; cases h
    · rw [if_neg e] at h
      intro j hj
      by_cases ej : j = k
      · subst ej; exact fun x => e x.symm
      · exact ih h j (by omega)

/-- the order's half of the domain, for its first k -/
structure OrdOk (of : Nat → Int) (n k : Nat) : Prop where
  lt : ∀ j, j < k → 0 ≤ of j ∧ of j < (n : Int)
  inj : ∀ i j, i < k → j < k → of i = of j → i = j

theorem ordOk_step {of : Nat → Int} {n k I : Nat} (h : OrdOk of n k) (hI : of k = (I : Int)) (hn : I < n) (hs : seenTo of k I = false) : OrdOk of n (k + 1) := by
  refine ⟨fun j hj => ?_, fun i j hi hj e => ?_⟩
  · by_cases e : j = k
    · subst e; rw [hI]; omega
    · exact h.lt j (by omega)
  · have hm := seenTo_mem of k I hs
    by_cases ei : i = k
    · by_cases ej : j = k
      · omega
      · subst ei
        exact absurd (by rw [← e, hI]; rfl) (hm j (by omega))
    · by_cases ej : j = k
      · subst ej
        exact absurd (by rw [e, hI]; rfl) (hm i (by omega))
      · exact h.inj i j (by omega) (by omega) e

structure SeenSt (w wr : World) (n : Nat) (s : Nat → Bool) : Prop where
  below : Below w.heap.size w wr
  size : wr.heap.size = w.heap.size + 1
  row : wr.rowIs w.heap.size 4 n (fun i => .bool (s i))

theorem seen_start (w : World) (n : Nat) (of : Nat → Int) : SeenSt w (w.alloc (.cells (madeCells #[.bool false] n) 4)) n (seenTo of 0) :=
  ⟨(Below.refl _ _).alloc (Nat.le_refl _) _, by simp, (World.rowIs_made w _ n 4).congr (fun j _ => rfl)⟩

theorem seen_step {w wr : World} {n k I : Nat} {of : Nat → Int} (h : SeenSt w wr n (seenTo of k)) (hI : of k = (I : Int)) : SeenSt w (wr.setCell ⟨w.heap.size, I, none⟩ (.bool true)) n (seenTo of (k + 1)) := by
  refine ⟨h.below.setCell (p := ⟨w.heap.size, I, none⟩) (Nat.le_refl _) _, by simp [h.size], rowIs_set' h.row I (fun j hj => ?_)⟩
  have e0 : (of k).toNat = I := by rw [hI]; rfl
  show (if j = I then Value.bool true else .bool (seenTo of k j)) = .bool (seenTo of (k + 1) j)
  rw [seenTo_succ, e0]
  split <;> rfl

/-- WHAT fillDomain LEAVES. -/
def DomPost (w : World) (n m : Nat) (of cf : Nat → Int) (e : Ending) (w' : World) : Prop :=
  ∃ r, e = .returned (.bool r) ∧ Below w.heap.size w w' ∧ (r = true → (∀ i, i < n → 0 ≤ cf i) ∧ OrdOk of n m)
theorem DomPost.no {w w' : World} {n m : Nat} {of cf : Nat → Int} (h : Below w.heap.size w w') : DomPost w n m of cf (.returned (.bool false)) w' := ⟨false, rfl, h, fun h => by cases h⟩
theorem DomPost.yes {w w' : World} {n m : Nat} {of cf : Nat → Int} (h : Below w.heap.size w w') (h1 : ∀ i, i < n → 0 ≤ cf i) (h2 : OrdOk of n m) : DomPost w n m of cf (.returned (.bool true)) w' := ⟨true, rfl, h, fun _ => ⟨h1, h2⟩⟩

set_option maxRecDepth 100000 in
set_option maxHeartbeats 800000 in
theorem fillDomain_any (a1 a2 : Option Addr) (m c1 b1 o1 n c2 b2 o2 : Nat) (of cf : Nat → Int) (w : World) (hm : m ≤ 65536) (hn : n ≤ 65536) (h1 : Ints .i64 w a1 m c1 b1 o1 of) (h2 : Ints .i32 w a2 n c2 b2 o2 cf) :
    Calls Trym.prog 9 #[.slice a1 m c1, .slice a2 n c2] w (DomPost w n m of cf) := by
  have hmk := run_make_row' (P := Trym.prog) 30 4 (.bool false) 1 Trym.underlying30 Trym.info4 rfl .i64 .i64 n (by omega) (by omega)
  go_enter Trym.func9, Trym.ntmps9
  go_wp2
  go_loopg [5] n (fun g i wr => ∃ k : Nat, k ≤ n ∧ g = n - k ∧ i = .int .i64 k ∧ (∀ j, j < k → 0 ≤ cf j) ∧ wr = w)
  case atStart => exact ⟨0, Nat.zero_le _, rfl, rfl, fun j hj => absurd hj (by omega), rfl⟩
  case round =>
  obtain ⟨k, hk, rfl, rfl, hpos, rfl⟩ := hrel
  by_cases hlt : k < n
  · obtain rfl := h2.addr (by omega)
    obtain ⟨x, hx, HX⟩ : ∃ x, wr.cell? ⟨b2, o2 + k, none⟩ = some (.int .i32 x) ∧ Hid (cf k = x) := ⟨_, h2.cell k hlt, rfl⟩
    have HP : Hid (∀ j, j < k → 0 ≤ cf j) := hpos
    clear hpos hmk
    by_cases hx0 : x < 0
    · go_wp2
      go_ret
      exact DomPost.no (Below.refl _ _)
    · go_wp2
      go_roundg (n - (k + 1))
      case measure => go_light; omega
      case rel => exact ⟨k + 1, by omega, rfl, by go_num, fun j hj => by
        by_cases e : j = k
        · rw [e, HX.out]; omega
        · exact HP.out j (by omega), rfl⟩
  obtain rfl : k = n := by omega
  have HP : Hid (∀ j, j < k → 0 ≤ cf j) := hpos
  clear hpos
  go_wp2
  clear hmk
  go_loopg [7] m (fun g i wx => ∃ q : Nat, q ≤ m ∧ g = m - q ∧ i = .int .i64 q ∧ OrdOk of k q ∧ SeenSt wr wx k (seenTo of q))
  case atStart => exact ⟨0, Nat.zero_le _, rfl, rfl, ⟨fun j hj => absurd hj (by omega), fun i j hi => absurd hi (by omega)⟩, seen_start _ k of⟩
  case round =>
  obtain ⟨q, hq, rfl, rfl, hO, hS⟩ := hrel
  by_cases hqm : q < m
  · obtain rfl := h1.addr (by omega)
    obtain ⟨x, hx, HX⟩ : ∃ x, wr.cell? ⟨b1, o1 + q, none⟩ = some (.int .i64 x) ∧ Hid (of q = x) := ⟨_, by rw [hS.below.cell (p := ⟨b1, o1 + q, none⟩) (World.block_lt_of_cell? _ _ (h1.cell q hqm))]; exact h1.cell q hqm, rfl⟩
    have hbe := hS.below
    by_cases c1 : x < 0
    · go_wp2
      go_ret
      exact DomPost.no hbe
    by_cases c2 : (k : Int) ≤ x
    · go_wp2
      go_ret
      exact DomPost.no hbe
    obtain ⟨I, rfl⟩ := Int.eq_ofNat_of_zero_le (show 0 ≤ x by omega)
    have hIk : I < k := by omega
    have hs1 : wr.cell? ⟨_, I, none⟩ = some (.bool (seenTo of q I)) := hS.row.cell hIk
    have hs2 := hS.row.frozen I
    by_cases c3 : seenTo of q I = true
    · rw [c3] at hs1
      go_wp2
      go_ret
      exact DomPost.no hbe
    · have c4 : seenTo of q I = false := by simpa using c3
      rw [c4] at hs1
      have HO := ordOk_step hO HX.out hIk c4
      have HS := seen_step hS HX.out
      clear c3 c4 hO hS
      go_wp2
      go_roundg (m - (q + 1))
      case measure => go_light; omega
      case rel => exact ⟨q + 1, by omega, rfl, by go_num, HO, HS⟩
  · obtain rfl : q = m := by omega
    go_wp2
    go_ret
    exact DomPost.yes hS.below HP.out hO

/-- THE PARTS IN MEMORY: one new block; old memory is as it was. -/
structure PartSt (w wr : World) (n : Nat) (p : Nat → Int) : Prop where
  below : Below w.heap.size w wr
  size : wr.heap.size = w.heap.size + 1
  row : wr.rowIs w.heap.size 21 n (fun i => .int .i32 (p i))

theorem part_start (w : World) (n : Nat) : PartSt w (w.alloc (.cells (madeCells #[.int .i32 0] n) 21)) n (fun _ => 0) :=
  ⟨(Below.refl _ _).alloc (Nat.le_refl _) _, by simp, (World.rowIs_made w _ n 21).congr (fun j _ => rfl)⟩

theorem part_step {w wr : World} {n : Nat} {p p' : Nat → Int} (h : PartSt w wr n p) (I : Nat) (v : Int) (e : ∀ j, j < n → (if j = I then v else p j) = p' j) : PartSt w (wr.setCell ⟨w.heap.size, I, none⟩ (.int .i32 v)) n p' := by
  refine ⟨h.below.setCell (p := ⟨w.heap.size, I, none⟩) (Nat.le_refl _) _, by simp [h.size], rowIs_set' h.row I (fun j hj => ?_)⟩
  show (if j = I then Value.int .i32 v else .int .i32 (p j)) = .int .i32 (p' j)
  rw [← e j hj]
  split <;> rfl

theorem if_min (a b : Int) : (if b < a then b else a) = min a b := by split <;> omega

set_option maxRecDepth 100000 in
set_option maxHeartbeats 800000 in
theorem fill_any (bd : Int) (a1 a2 : Option Addr) (m c1 b1 o1 n c2 b2 o2 : Nat) (of cf : Nat → Int) (o : Nat → Nat) (w : World) (hm : m ≤ 65536) (hn : n ≤ 65536) (h1 : Ints .i64 w a1 m c1 b1 o1 of) (h2 : Ints .i32 w a2 n c2 b2 o2 cf) (hof : ∀ k, k < m → of k = ((o k : Nat) : Int)) (d : Dom m n o cf) (hb1 : -2147483648 ≤ bd) (hb2 : bd ≤ 2147483647) :
    Calls Trym.prog 22 #[.int .i32 bd, .slice a1 m c1, .slice a2 n c2] w fun e w' => e = .returned (.tuple #[.slice (some ⟨w.heap.size, 0, none⟩) n n, .int .i32 (fillL bd o cf m)]) ∧ PartSt w w' n (fillP bd o cf m) := by
  have hmk := run_make_row' (P := Trym.prog) 23 21 (.int .i32 0) 4 Trym.underlying23 Trym.info21 rfl .i64 .i64 n (by omega) (by omega)
  go_enter Trym.func22, Trym.ntmps22
  go_wp2
  clear hmk
  go_loopg [9, 18] m (fun g l i wr => ∃ k : Nat, k ≤ m ∧ g = m - k ∧ i = .int .i64 k ∧ l = .int .i32 (fillL bd o cf k) ∧ PartSt w wr n (fillP bd o cf k))
  case atStart => exact ⟨0, Nat.zero_le _, rfl, rfl, rfl, part_start w n⟩
  case round =>
  obtain ⟨k, hk, rfl, rfl, rfl, hS⟩ := hrel
  by_cases hlt : k < m
  · obtain rfl := h1.addr (by omega)
    have hIn : o k < n := d.lt k hlt
    obtain rfl := h2.addr (by omega)
    have r1 : wr.cell? ⟨b1, o1 + k, none⟩ = some (.int .i64 ((o k : Nat) : Int)) := by rw [hS.below.cell (p := ⟨b1, o1 + k, none⟩) (World.block_lt_of_cell? _ _ (h1.cell k hlt)), ← hof k hlt]; exact h1.cell k hlt
    obtain ⟨C, r2, HC⟩ : ∃ C, wr.cell? ⟨b2, o2 + o k, none⟩ = some (.int .i32 C) ∧ Hid (cf (o k) = C) := ⟨_, by rw [hS.below.cell (p := ⟨b2, o2 + o k, none⟩) (World.block_lt_of_cell? _ _ (h2.cell _ hIn))]; exact h2.cell _ hIn, rfl⟩
    obtain ⟨v, r3⟩ : ∃ v, wr.cell? ⟨w.heap.size, o k, none⟩ = some v := ⟨_, hS.row.cell hIn⟩
    have r4 := hS.row.frozen (o k)
    have HL : Hid (fillL bd o cf (k + 1) = fillL bd o cf k - min C (fillL bd o cf k)) := by unfold Hid; rw [fillL, HC.out]
    have hr := fillL_range d bd hb1 hb2 (k + 1) (by omega)
    have HP : Hid (PartSt w (wr.setCell ⟨w.heap.size, o k, none⟩ (.int .i32 (min C (fillL bd o cf k)))) n (fillP bd o cf (k + 1))) := part_step hS (o k) _ (fun j _ => by rw [fillP_succ, HC.out])
    rw [HL.out] at hr
    have hbi : (o k : Int) < (n : Int) := by omega
    generalize fillL bd o cf k = L at *
    obtain ⟨M, hM⟩ : ∃ M, (if L < C then L else C) = M := ⟨_, rfl⟩
    have eM : min C L = M := by rw [← if_min]; exact hM
    rw [eM] at HP HL hr
    generalize o k = I at *
    clear eM hS h1 h2 hof
    go_wp2
    go_roundg (m - (k + 1))
    case measure => go_light; omega
    case rel => exact ⟨k + 1, by omega, rfl, by go_num, by rw [HL.out], HP.out⟩
  · obtain rfl : k = m := by omega
    go_wp2
    go_ret2
    exact ⟨rfl, hS⟩

theorem zzfill_of {P : World → Prop} {a0 a1 a2 r0 r1 : Value} {w : World} (h : Calls Trym.prog 22 #[a0, a1, a2] w fun e w' => e = .returned (.tuple #[r0, r1]) ∧ P w') :
    Calls Trym.prog 13 #[a0, a1, a2] w fun e w' => e = .returned (.tuple #[r0, r1]) ∧ P w' := by
  go_enter Trym.func13, Trym.ntmps13
  go_wp2_with fail
  refine h.mono ?_
  rintro e w' ⟨rfl, hp⟩
  go_wp2
  go_ret2
  exact ⟨rfl, hp⟩

end Go.Proofs.Qxb6603777aMods
