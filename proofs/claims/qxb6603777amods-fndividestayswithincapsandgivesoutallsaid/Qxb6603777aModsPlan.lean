/-
  SEAT b6603777aM. divide AND divideModel UNDER ONE PREMISE.
-/
import Derived.Test.Qxb6603777aModsDivideSome
import Derived.Test.Qxb6603777aModsModelNil
import Derived.Test.Qxb6603777aModsModelSome
namespace Go.Proofs.Qxb6603777aMods
open Go.RowKit Plain

/-- ALL THAT THE TWO WALKS WANT TO KNOW. -/
structure Plan (nil : Bool) (bd T : Int) (n m : Nat) (wf of cf B rm : Nat → Int) (o : Nat → Nat) (lo : Int) : Prop where
  based : Based nil bd T n wf cf B
  ord : Plain.Ord m n o
  hof : ∀ k, k < m → of k = ((o k : Nat) : Int)
  hrm : ∀ k, k < m → rm k = if nil then 1099511627776 else cf (o k) - B (o k)
  hrr : ∀ k, 0 ≤ rm k ∧ rm k ≤ 1099511627776
  hlo : IsLo rm m (bd - sumTo B n) lo

theorem plan_of {nil : Bool} {bd : Int} {n m n3 : Nat} {wf of cf : Nat → Int} (h : DivOk bd nil n m n3 wf of cf) (hb : bd ≤ 2147483647) (hn : n ≤ 65536) (hr : ∀ i, InKind .i32 (cf i)) : ∃ (B rm : Nat → Int) (o : Nat → Nat) (lo : Int), Plan nil bd (sumTo wf n) n m wf of cf B rm o lo := by
  have hS : Shares nil bd n wf cf := ⟨⟨h.bd, hb⟩, hn, h.wts, fun e i hi => ⟨(h.caps e).2 i hi, (hr i).2⟩⟩
  have hB := based_of hS
  obtain ⟨B, eB⟩ : ∃ B, base nil bd (sumTo wf n) wf cf = B := ⟨_, rfl⟩
  have hrn : ∀ k, 0 ≤ room nil cf B (fun k => (of k).toNat) k := fun k => by rw [← eB]; exact room_nonneg nil bd _ wf cf _ k
  rw [eB] at hB
  have hlt : ∀ k, k < m → (of k).toNat < n := fun k hk => by have := h.ord.lt k hk; omega
  let rm : Nat → Int := fun k => if k < m then room nil cf B (fun k => (of k).toNat) k else 0
  have hrr : ∀ k, 0 ≤ rm k ∧ rm k ≤ 1099511627776 := fun k => by
    show 0 ≤ (if k < m then room nil cf B (fun k => (of k).toNat) k else 0) ∧ (if k < m then room nil cf B (fun k => (of k).toNat) k else 0) ≤ 1099511627776
    by_cases hk : k < m
    · rw [if_pos hk]
      refine ⟨hrn k, ?_⟩
      cases nil with
      | true => show (1099511627776 : Int) ≤ 1099511627776; omega
      | false =>
        show cf (of k).toNat - B (of k).toNat ≤ 1099511627776
        have := hB.nonneg _ (hlt k hk)
        have := (hr (of k).toNat).2
        omega
    · rw [if_neg hk]; omega
  have hL : 0 ≤ bd - sumTo B n := by have := (hB.sum n (Nat.le_refl _)).2; omega
  obtain ⟨lo, hlo⟩ := exists_lo (rm := rm) (m := m) (fun k _ => (hrr k).1) hL
  exact ⟨B, rm, fun k => (of k).toNat, lo, hB, ⟨hlt, fun j k hj hk e => h.ord.inj j k hj hk (by have := h.ord.lt j hj; have := h.ord.lt k hk; omega)⟩, fun k hk => by have := h.ord.lt k hk; omega, fun k hk => by
    show (if k < m then room nil cf B (fun k => (of k).toNat) k else 0) = _
    rw [if_pos hk]; rfl, hrr, hlo⟩

theorem divide_plan {bd T : Int} {a1 a2 a3 : Option Addr} {n c1 b1 o1 m c2 b2 o2 n3 c3 b3 o3 : Nat} {wf of cf B rm : Nat → Int} {o : Nat → Nat} {lo : Int} (w : World) (hm : m ≤ 65536) (h1 : Ints .i64 w a1 n c1 b1 o1 wf) (h2 : Ints .i64 w a2 m c2 b2 o2 of) (h3 : Ints .i32 w a3 n3 c3 b3 o3 cf) (hn3 : a3.isNone = false → n3 = n) (p : Plan a3.isNone bd T n m wf of cf B rm o lo) :
    Calls Trym.prog 24 #[.int .i32 bd, .slice a1 n c1, .slice a2 m c2, .slice a3 n3 c3] w fun e w' => e = .returned (.slice (some ⟨w.heap.size, 0, none⟩) n n) ∧ PartSt w w' n (put B o (fin rm (bd - sumTo B n) lo m) m) := by
  cases a3 with
  | none => exact divide_nil bd T a1 a2 n c1 b1 o1 m c2 b2 o2 n3 c3 wf of cf B rm o lo w hm h1 h2 p.hof p.based p.ord (fun k hk => p.hrm k hk) p.hlo
  | some a3 =>
    obtain rfl := hn3 rfl
    exact divide_some bd T a1 a2 a3 n3 c1 b1 o1 m c2 b2 o2 c3 b3 o3 wf of cf B rm o lo w hm h1 h2 h3 p.hof p.based p.ord (fun k hk => p.hrm k hk) p.hlo

theorem model_plan {bd T : Int} {a1 a2 a3 : Option Addr} {n c1 b1 o1 m c2 b2 o2 n3 c3 b3 o3 : Nat} {wf of cf B rm : Nat → Int} {o : Nat → Nat} {lo : Int} (w : World) (hm : m ≤ 65536) (h1 : Ints .i64 w a1 n c1 b1 o1 wf) (h2 : Ints .i64 w a2 m c2 b2 o2 of) (h3 : Ints .i32 w a3 n3 c3 b3 o3 cf) (hn3 : a3.isNone = false → n3 = n) (p : Plan a3.isNone bd T n m wf of cf B rm o lo) :
    Calls Trym.prog 19 #[.int .i32 bd, .slice a1 n c1, .slice a2 m c2, .slice a3 n3 c3] w fun e w' => ModPost w w' n (put B o (fin rm (bd - sumTo B n) lo m) m) e := by
  cases a3 with
  | none => exact model_nil bd T a1 a2 n c1 b1 o1 m c2 b2 o2 n3 c3 wf of cf B rm o lo w hm h1 h2 p.hof p.based p.ord (fun k hk => p.hrm k hk) p.hrr p.hlo
  | some a3 =>
    obtain rfl := hn3 rfl
    exact model_some bd T a1 a2 a3 n3 c1 b1 o1 m c2 b2 o2 c3 b3 o3 wf of cf B rm o lo w hm h1 h2 h3 p.hof p.based p.ord (fun k hk => p.hrm k hk) p.hrr p.hlo

theorem zzdivide_of {P : World → Prop} {a0 a1 a2 a3 r0 : Value} {w : World} (h : Calls Trym.prog 24 #[a0, a1, a2, a3] w fun e w' => e = .returned r0 ∧ P w') :
    Calls Trym.prog 20 #[a0, a1, a2, a3] w fun e w' => e = .returned r0 ∧ P w' := by
  go_enter Trym.func20, Trym.ntmps20
  go_wp2_with fail
  refine h.mono ?_
  rintro e w' ⟨rfl, hp⟩
  go_wp2
  go_ret
  exact ⟨rfl, hp⟩

end Go.Proofs.Qxb6603777aMods
