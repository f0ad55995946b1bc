/-
  Seat b6600947a: what came in, copied; and small laws on joins.
-/
import Derived.Test.Qxb6600947aBuild
namespace Go.Proofs.Qxb6600947a
open Go.RowKit

/-- A slice of ints that came in: nil, or its elements lie there. -/
def ArgS (w : World) (a : Option Addr) (len cap : Nat) (f : Nat → Int) : Prop :=
  (a = none ∧ len = 0 ∧ cap = 0) ∨ ∃ x, a = some x ∧ ∀ i, i < len → w.cell? (x.add i) = some (.int .i64 (f i))

theorem ArgS.below {w w' : World} {a : Option Addr} {len cap : Nat} {f : Nat → Int} (h : ArgS w a len cap f) (hb : Below w.heap.size w w') : ArgS w' a len cap f := by
  rcases h with h | ⟨x, h1, h2⟩
  · exact .inl h
  · refine .inr ⟨x, h1, fun i hi => ?_⟩
    have h3 := h2 i hi
    exact (hb.cell (World.block_lt_of_cell? w _ h3)).trans h3

theorem copy_arg (a : Option Addr) (len cap : Nat) (f : Nat → Int) (w : World) (hl : len ≤ 65536) (h : ArgS w a len cap f) :
    Calls Try.prog 7 #[.slice a len cap] w fun e w' => ∃ a', e = .returned (.slice a' len len) ∧ Sl w' a' len f ∧ Below w.heap.size w w' := by
  rcases h with ⟨rfl, rfl, rfl⟩ | ⟨x, rfl, h⟩
  · refine (copy_nil w).mono ?_
    rintro e w' ⟨rfl, rfl⟩
    exact ⟨none, rfl, .inl rfl, Below.refl _ _⟩
  · refine (copy_some x len cap f w hl h).mono ?_
    rintro e w' ⟨rfl, h1, h2⟩
    exact ⟨_, rfl, .inr ⟨_, rfl, h1⟩, h2⟩

theorem joined_roots {n : Nat} {P P' : Nat → Nat} {c c' : Int} {x y : Nat} (h : Joined n P c x y P' c') (hx : x < n) (hy : y < n) :
    (∃ r k1 k2, Dp P' k1 x r ∧ Dp P' k2 y r) ∧ c' ≤ c ∧ c - 1 ≤ c' := by
  obtain ⟨ra, rb, ⟨ka, ha⟩, ⟨kb, hb⟩, hr, hc⟩ := h.roots
  refine ⟨?_, by omega, by omega⟩
  obtain ⟨k1, h1⟩ := hr x hx ka ra ha
  obtain ⟨k2, h2⟩ := hr y hy kb rb hb
  rw [if_pos rfl] at h1
  have e : (if rb = ra then rb else rb) = rb := by split <;> rfl
  rw [e] at h2
  exact ⟨rb, k1, k2, h1, h2⟩

theorem joined_again {n : Nat} {P P' : Nat → Nat} {c c' : Int} {x y k1 k2 r : Nat} (h : Joined n P c x y P' c') (h1 : Dp P k1 x r) (h2 : Dp P k2 y r) : c' = c := by
  obtain ⟨ra, rb, ⟨ka, ha⟩, ⟨kb, hb⟩, _, hc⟩ := h.roots
  have e1 := (Dp.unique ha h1).2
  have e2 := (Dp.unique hb h2).2
  rcases hc with ⟨_, hc, _⟩ | ⟨hne, _, _⟩
  · exact hc
  · exact absurd (e1.trans e2.symm) hne

theorem cnt_halve {n : Nat} {P : Nat → Nat} (hF : Forest n P) {k i r : Nat} (hi : Dp P k i r) : cnt (halve P k i) n = cnt P n :=
  cnt_congr n (fun _ hj => Same.root_iff hF (Same.halve hi) hj)
end Go.Proofs.Qxb6600947a
