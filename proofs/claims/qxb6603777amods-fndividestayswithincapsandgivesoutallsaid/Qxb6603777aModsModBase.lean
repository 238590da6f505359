/-
  SEAT b6603777aM. WHAT THE WALK OF divideModel WANTS: rows one above the other; the threshold is there, and there is one.
-/
import Derived.Test.Qxb6603777aModsDivBase
namespace Go.Proofs.Qxb6603777aMods
open Go.RowKit Plain

/-- A ROW OF OUR OWN ABOVE ALL THAT THE WORLD w HOLDS. -/
structure RowSt (t : TypeId) (kd : IntKind) (w wr : World) (n : Nat) (p : Nat → Int) : Prop where
  below : Below w.heap.size w wr
  size : wr.heap.size = w.heap.size + 1
  row : wr.rowIs w.heap.size t n (fun i => .int kd (p i))

theorem row_start (t : TypeId) (kd : IntKind) (w : World) (n : Nat) : RowSt t kd w (w.alloc (.cells (madeCells #[.int kd 0] n) t)) n (fun _ => 0) :=
  ⟨(Below.refl _ _).alloc (Nat.le_refl _) _, by simp, (World.rowIs_made w _ n t).congr (fun j _ => rfl)⟩

theorem row_step {t : TypeId} {kd : IntKind} {w wr : World} {n : Nat} {p p' : Nat → Int} (h : RowSt t kd w wr n p) (I : Nat) (v : Int) (e : ∀ j, j < n → (if j = I then v else p j) = p' j) : RowSt t kd w (wr.setCell ⟨w.heap.size, I, none⟩ (.int kd v)) n p' := by
  refine ⟨h.below.setCell (p := ⟨w.heap.size, I, none⟩) (Nat.le_refl _) _, by simp [h.size], rowIs_set' h.row I (fun j hj => ?_)⟩
  show (if j = I then Value.int kd v else .int kd (p j)) = .int kd (p' j)
  rw [← e j hj]
  split <;> rfl

theorem RowSt.congr {t : TypeId} {kd : IntKind} {w wr : World} {n : Nat} {p q : Nat → Int} (h : RowSt t kd w wr n p) (e : ∀ i, i < n → p i = q i) : RowSt t kd w wr n q :=
  ⟨h.below, h.size, h.row.congr (fun j hj => by rw [e j hj])⟩
theorem RowSt.drewN {t : TypeId} {kd : IntKind} {w wr : World} {n : Nat} {p : Nat → Int} (h : RowSt t kd w wr n p) (k : Nat) : RowSt t kd w (wr.drewN k) n p :=
  ⟨belowDrewN h.below k, h.size, rowIs_drewN h.row k⟩

theorem RowSt.ints {t : TypeId} {w wr : World} {n : Nat} {p : Nat → Int} (h : RowSt t .i64 w wr n p) (hn : n ≤ 65536) (hr : ∀ k, InKind .i64 (p k)) : Ints .i64 wr (some ⟨w.heap.size, 0, none⟩) n n w.heap.size 0 p :=
  ⟨by omega, Nat.le_refl _, (fun e => by cases e), fun _ => rfl, fun i hi => by rw [Nat.zero_add]; exact h.row.cell hi, hr⟩

/-- WHAT divideModel HANDS BACK. -/
def ModPost (w w' : World) (n : Nat) (p : Nat → Int) (e : Ending) : Prop :=
  ∃ x : Int, (0 ≤ x ∧ x ≤ 2147483647) ∧ e = .returned (.tuple #[.slice (some ⟨w.heap.size + 2, 0, none⟩) n n, .int .i64 x]) ∧ Below w.heap.size w w' ∧ w'.heap.size = w.heap.size + 3 ∧ w'.rowIs (w.heap.size + 2) 21 n (fun i => .int .i32 (p i))

theorem mod_post {w w1 w2 w3 : World} {n m : Nat} {B rm p : Nat → Int} {x : Int} (h1 : RowSt 2 .i64 w w1 n B) (h2 : RowSt 2 .i64 w1 w2 m rm) (h3 : RowSt 21 .i32 w2 w3 n p) (hx : 0 ≤ x ∧ x ≤ 2147483647) : ModPost w w3 n p (.returned (.tuple #[.slice (some ⟨w2.heap.size, 0, none⟩) n n, .int .i64 x])) := by
  have e1 := h1.size
  have e2 := h2.size
  have e3 := h3.size
  have e4 : w2.heap.size = w.heap.size + 2 := by omega
  refine ⟨x, hx, by rw [e4], (h1.below.trans (h2.below.mono (by omega))).trans (h3.below.mono (by omega)), by omega, ?_⟩
  have h9 := h3.row
  rw [e4] at h9; exact h9

/-- THE THRESHOLD IS THERE. -/
theorem exists_lo {rm : Nat → Int} {m : Nat} {L0 : Int} (hrm : ∀ k, k < m → 0 ≤ rm k) (h0 : 0 ≤ L0) : ∃ lo, IsLo rm m L0 lo := by
  have h : ∀ (d : Nat) (r : Int), 0 ≤ r → r ≤ L0 → taken rm r m ≤ L0 → L0 - r ≤ d → ∃ lo, IsLo rm m L0 lo := by
    intro d
    induction d with
    | zero => intro r h1 h2 h3 h4; exact ⟨r, h1, h2, h3, .inl (by omega)⟩
    | succ d ih =>
      intro r h1 h2 h3 h4
      by_cases c : r = L0
      · exact ⟨r, h1, h2, h3, .inl c⟩
      by_cases c2 : taken rm (r + 1) m ≤ L0
      · exact ih (r + 1) (by omega) (by omega) c2 (by omega)
      · exact ⟨r, h1, h2, h3, .inr (by omega)⟩
  have e : taken rm 0 m = sumTo (fun _ => 0) m := sumTo_congr (fun k hk => by have := hrm k hk; omega)
  exact h L0.toNat 0 (by omega) h0 (by rw [e, sumTo_zero]; exact h0) (by omega)

/-- a try that pays -/
theorem lo_up {rm : Nat → Int} {m : Nat} {L0 lo r : Int} (h : IsLo rm m L0 lo) (h1 : r ≤ L0) (h2 : taken rm r m ≤ L0) : r ≤ lo := h.ge h1 h2
/-- a try that does not -/
theorem lo_down {rm : Nat → Int} {m : Nat} {L0 lo r : Int} (h : IsLo rm m L0 lo) (h2 : ¬ taken rm r m ≤ L0) : lo ≤ r - 1 := by
  by_cases c : r ≤ lo
  · have := taken_mono rm m c
    have := h.pays
    omega
  · omega

/-- what the kth gets, and what is left for the rest -/
theorem mod_skip {rm : Nat → Int} {m : Nat} {L0 lo : Int} (k : Nat) (h : rm k ≤ lo) : fin rm L0 lo m k = rm k ∧ cnt rm lo (k + 1) = cnt rm lo k := by
  constructor
  · rw [fin, if_neg (by omega)]; omega
  · rw [cnt_succ, if_neg (by omega)]; omega
theorem mod_more {rm : Nat → Int} {m : Nat} {L0 lo : Int} (k : Nat) (h : lo < rm k) (hc : cnt rm lo k < L0 - taken rm lo m) : fin rm L0 lo m k = lo + 1 ∧ cnt rm lo (k + 1) = cnt rm lo k + 1 := by
  constructor
  · rw [fin, if_pos ⟨h, hc⟩]; omega
  · rw [cnt_succ, if_pos h]
theorem mod_full {rm : Nat → Int} {m : Nat} {L0 lo : Int} (k : Nat) (h : lo < rm k) (hc : ¬ cnt rm lo k < L0 - taken rm lo m) : fin rm L0 lo m k = lo ∧ cnt rm lo (k + 1) = cnt rm lo k + 1 := by
  constructor
  · rw [fin, if_neg (by omega)]; omega
  · rw [cnt_succ, if_pos h]

end Go.Proofs.Qxb6603777aMods
