/-
  SEAT b6603759aM. A Leaf BY VALUE THAT CAME IN, opened: ten numbers and a slice of words.
-/
import Derived.Test.Qxb6603759aModsOpen
import Derived.Deep.Fields
namespace Go.Proofs.Qxb6603759aMods
open Go.ChangeShapes Go.WideShapes Go.ChangeAt Go.RowKit Go.Deep Plain

theorem field_of {H : Type} {enc : TypeId × Value → H} {P : Program} {w : World} {base : Nat} {spare : Nat → Bool} {held : Bool} {fuel : Nat} {t : TypeId} {cs : List Value} {x : DataW H × List MemPlace} {fs : Array Field} (ht : P.underlying t = some (.struct fs)) (hone : oneCellFields P fs = true) (hC : P.cellsOf t = fs.size)
    (h : DataW.trod enc P w base spare held fuel t cs = some x) (i : Nat) (f : Field) (hf : fs[i]? = some f) : ∃ c y n, cs[i]? = some c ∧ DataW.trod enc P w base spare held n f.type [c] = some y := by
  obtain ⟨xs, n, _, _, hl, hxl, hall⟩ := DataW.trod_struct ht h
  obtain ⟨o1, k1⟩ := hone_of hone i f hf
  have hi : i < fs.size := (Array.getElem?_eq_some_iff.1 hf).1
  have h1 := hall i f hf
  rw [o1, k1] at h1
  have hci : i < cs.length := by omega
  have hxi : i < xs.length := by omega
  refine ⟨cs[i], xs[i], n, List.getElem?_eq_getElem hci, ?_⟩
  rw [List.getElem?_eq_getElem hxi] at h1
  rw [← h1, List.drop_eq_getElem_cons hci]
  rfl

theorem array11 {α : Type} {cs : Array α} (h : cs.size = 11) : ∃ c0 c1 c2 c3 c4 c5 c6 c7 c8 c9 c10, cs = #[c0, c1, c2, c3, c4, c5, c6, c7, c8, c9, c10] := by
  obtain ⟨l⟩ := cs
  match l, h with
  | [c0, c1, c2, c3, c4, c5, c6, c7, c8, c9, c10], _ => exact ⟨c0, c1, c2, c3, c4, c5, c6, c7, c8, c9, c10, rfl⟩

theorem int_field {H : Type} {enc : TypeId × Value → H} {P : Program} {w : World} {base : Nat} {spare : Nat → Bool} {held : Bool} {k : IntKind} {t : TypeId} {c : Value} (ht : P.underlying t = some (.int k)) (h : ∃ c' y n, some c = some c' ∧ DataW.trod enc P w base spare held n t [c'] = some y) :
    ∃ z, c = .int k z ∧ (Lit.int k z).wf = true := by
  obtain ⟨c', y, n, e, h⟩ := h
  obtain rfl := Option.some.inj e
  obtain ⟨z, e1, _, hw⟩ := DataW.trod_int ht h
  exact ⟨z, by simpa using e1, hw⟩

theorem leaf_open {H : Type} {enc : TypeId × Value → H} {W : World} {base b0 : Nat} {held : Bool} {v : Value} {d : DataW H} {p : List MemPlace} (hv : Value.okWide Trym.prog W .any b0 29 v) (h : DataW.Trod enc Trym.prog W base (fun _ => true) held 29 v d p) :
    ∃ (lo hi ba fi la ad n nl nh wd : Int) (a : Option Addr) (len c : Nat) (zs : List Int), v = .agg #[.int .u64 lo, .int .u64 hi, .int .u64 ba, .int .u64 fi, .int .u64 la, .int .u64 ad, .int .i64 n, .int .u64 nl, .int .u64 nh, .int .i64 wd, .slice a len c] ∧
      (Lit.int .u64 ba).wf = true ∧ (Lit.int .i64 n).wf = true ∧ (Lit.int .i64 wd).wf = true ∧ IsRow .u64 W a len c zs ∧ (Lit.int .u64 lo).wf = true ∧ (Lit.int .u64 hi).wf = true ∧ (Lit.int .u64 fi).wf = true ∧ (Lit.int .u64 la).wf = true := by
  obtain ⟨cs, rfl, hsz⟩ := okWide_struct Trym.underlying29 hv
  have hC : Trym.prog.cellsOf 29 = 11 := by kernel_rfl
  obtain ⟨c0, c1, c2, c3, c4, c5, c6, c7, c8, c9, c10, rfl⟩ := array11 (hsz.trans hC)
  obtain ⟨fuel, hf⟩ := h
  have F := fun i f (e : _) => field_of Trym.underlying29 (by kernel_rfl) (hC.trans (by rfl)) hf i f e
  obtain ⟨lo, rfl, w0⟩ := int_field Trym.underlying27 (F 0 _ rfl)
  obtain ⟨hi, rfl, w1⟩ := int_field Trym.underlying27 (F 1 _ rfl)
  obtain ⟨ba, rfl, w2⟩ := int_field Trym.underlying27 (F 2 _ rfl)
  obtain ⟨fi, rfl, w3⟩ := int_field Trym.underlying27 (F 3 _ rfl)
  obtain ⟨la, rfl, w4⟩ := int_field Trym.underlying27 (F 4 _ rfl)
  obtain ⟨ad, rfl, w5⟩ := int_field Trym.underlying27 (F 5 _ rfl)
  obtain ⟨n, rfl, w6⟩ := int_field Trym.underlying3 (F 6 _ rfl)
  obtain ⟨nl, rfl, w7⟩ := int_field Trym.underlying27 (F 7 _ rfl)
  obtain ⟨nh, rfl, w8⟩ := int_field Trym.underlying27 (F 8 _ rfl)
  obtain ⟨wd, rfl, w9⟩ := int_field Trym.underlying3 (F 9 _ rfl)
  obtain ⟨c', y, m, e, hs⟩ := F 10 _ rfl
  have e' : c10 = c' := Option.some.inj e
  subst e'
  rcases open_ints Trym.underlying22 Trym.underlying27 (by kernel_rfl) hs with ⟨hcs, _⟩ | ⟨x, l, c, zs, hcs, _, hl, hm, hz, _, hcell, hwz⟩
  · have e1 : c10 = .slice none 0 0 := by simpa using hcs
    subst e1
    exact ⟨lo, hi, ba, fi, la, ad, n, nl, nh, wd, none, 0, 0, [], rfl, w2, w6, w9, .inl ⟨rfl, rfl, rfl, rfl⟩, w0, w1, w3, w4⟩
  · have e1 : c10 = .slice (some x) l c := by simpa using hcs
    subst e1
    exact ⟨lo, hi, ba, fi, la, ad, n, nl, nh, wd, some x, l, c, zs, rfl, w2, w6, w9, .inr ⟨_, rfl, hl, hm, by simpa using hz, hcell, hwz⟩, w0, w1, w3, w4⟩

end Go.Proofs.Qxb6603759aMods
