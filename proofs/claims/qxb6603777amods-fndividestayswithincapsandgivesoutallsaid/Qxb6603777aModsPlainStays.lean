/-
  SEAT b6603777aM. PLAIN: what divide's parts obey where the order names everybody. No walk here.
-/
import Derived.Test.Qxb6603777aModsPlan
namespace Go.Proofs.Qxb6603777aMods
open Go.RowKit Plain

/-- a sum does not mind the order -/
theorem sum_perm {n : Nat} {o : Nat → Nat} (d : Plain.Ord n n o) (f : Nat → Int) : sumTo (fun k => f (o k)) n = sumTo f n := by
  have h1 := put_sum d (fun _ => 0) (fun k => f (o k)) n (Nat.le_refl _)
  have h2 : sumTo (put (fun _ => 0) o (fun k => f (o k)) n) n = sumTo f n := sumTo_congr (fun i hi => by
    obtain ⟨k, hk, rfl⟩ := named d i hi
    rw [put_at d _ _ n k hk (Nat.le_refl _)]; omega)
  rw [sumTo_zero] at h1
  omega

theorem sumTo_sub (f g : Nat → Int) (n : Nat) : sumTo (fun i => f i - g i) n = sumTo f n - sumTo g n := by
  induction n with
  | zero => rfl
  | succ n ih => rw [sumTo, sumTo, sumTo, ih]; omega

theorem fin_range {rm : Nat → Int} {m : Nat} {L0 lo : Int} (k : Nat) (h0 : 0 ≤ lo) (hr : 0 ≤ rm k) : 0 ≤ fin rm L0 lo m k ∧ fin rm L0 lo m k ≤ rm k ∧ fin rm L0 lo m k ≤ lo + 1 := by
  rw [fin]; split <;> omega

/-- WHAT THE LAW ASKS OF THE PARTS. -/
structure Stays (nil : Bool) (bd T : Int) (n : Nat) (wf cf p : Nat → Int) : Prop where
  rng : ∀ i, i < n → 0 ≤ p i ∧ p i ≤ bd
  pre : ∀ k, k ≤ n → 0 ≤ sumTo p k ∧ sumTo p k ≤ bd
  sumN : nil = true → 0 < n → sumTo p n = bd
  sumC : nil = false → sumTo p n = min bd (sumTo cf n)
  shN : nil = true → 0 < T → ∀ i, i < n → share bd T wf i ≤ p i ∧ p i ≤ share bd T wf i + 1
  shC : nil = false → ∀ i, i < n → p i ≤ cf i ∧ min (share bd T wf i) (cf i) ≤ p i

theorem stays_of {nil : Bool} {bd : Int} {n : Nat} {wf of cf B rm : Nat → Int} {o : Nat → Nat} {lo : Int} (p : Plan nil bd (sumTo wf n) n n wf of cf B rm o lo) : Stays nil bd (sumTo wf n) n wf cf (put B o (fin rm (bd - sumTo B n) lo n) n) := by
  have hat : ∀ k, k < n → put B o (fin rm (bd - sumTo B n) lo n) n (o k) = B (o k) + fin rm (bd - sumTo B n) lo n k := fun k hk => put_at p.ord _ _ n k hk (Nat.le_refl _)
  have hfr := fun k => fin_range (m := n) (L0 := bd - sumTo B n) k p.hlo.nonneg (p.hrr k).1
  have hnn : ∀ i, i < n → 0 ≤ put B o (fin rm (bd - sumTo B n) lo n) n i := fun i hi => by
    obtain ⟨k, hk, rfl⟩ := named p.ord i hi
    have := hfr k
    have := p.based.nonneg (o k) hi
    rw [hat k hk]; omega
  have hsum : sumTo (put B o (fin rm (bd - sumTo B n) lo n) n) n = sumTo B n + min (bd - sumTo B n) (sumTo rm n) := by
    rw [put_sum p.ord _ _ n (Nat.le_refl _), fin_sum p.hlo (fun k _ => (p.hrr k).1)]
  have hsb := p.based.sum n (Nat.le_refl _)
  have htot : ∀ k, k ≤ n → 0 ≤ sumTo (put B o (fin rm (bd - sumTo B n) lo n) n) k ∧ sumTo (put B o (fin rm (bd - sumTo B n) lo n) n) k ≤ bd := fun k hk => by
    have h1 := sumTo_nonneg (n := k) (f := put B o (fin rm (bd - sumTo B n) lo n) n) (fun i hi => hnn i (by omega))
    have h2 := sumTo_mono (f := put B o (fin rm (bd - sumTo B n) lo n) n) (fun i hi => hnn i hi) hk
    omega
  refine ⟨fun i hi => ⟨hnn i hi, ?_⟩, htot, fun e hn => ?_, fun e => ?_, fun e hT i hi => ?_, fun e i hi => ?_⟩
  · have h1 := sumTo_one (f := put B o (fin rm (bd - sumTo B n) lo n) n) hnn i hi
    have h2 := (htot n (Nat.le_refl _)).2
    omega
  · have h1 := sumTo_one (f := rm) (fun k _ => (p.hrr k).1) 0 hn
    have h2 := p.hrm 0 hn
    rw [e, if_pos rfl] at h2
    have := p.based.bd1
    omega
  · have h1 : sumTo rm n = sumTo (fun k => cf (o k) - B (o k)) n := sumTo_congr (fun k hk => by rw [p.hrm k hk, e]; rfl)
    have h2 := sum_perm p.ord (fun i => cf i - B i)
    have h3 := sumTo_sub cf B n
    have h4 : sumTo rm n = sumTo cf n - sumTo B n := by rw [h1, ← h3]; exact h2
    omega
  · obtain ⟨k, hk, rfl⟩ := named p.ord i hi
    have hB : ∀ i, i < n → B i = share bd (sumTo wf n) wf i := fun i hi => by rw [p.based.eq i hi, e]; rfl
    have hs : sumTo B n = sumTo (share bd (sumTo wf n) wf) n := sumTo_congr hB
    have h5 := share_left (bd := bd) hT (by omega : 0 < n)
    have h6 : lo = 0 := by
      by_cases c : 1 ≤ lo
      · have h7 := taken_mono rm n c
        have h8 : taken rm 1 n = sumTo (fun _ => 1) n := sumTo_congr (fun k hk => by rw [p.hrm k hk, e]; rfl)
        have h9 := sumTo_const 1 n
        have h10 := p.hlo.pays
        omega
      · have := p.hlo.nonneg
        omega
    have h11 := hfr k
    rw [hat k hk, hB _ hi]
    omega
  · obtain ⟨k, hk, rfl⟩ := named p.ord i hi
    have h1 := p.based.eq _ hi
    rw [e, if_neg (by decide)] at h1
    have h2 := p.hrm k hk
    rw [e, if_neg (by decide)] at h2
    have h3 := hfr k
    rw [hat k hk]
    omega

end Go.Proofs.Qxb6603777aMods
