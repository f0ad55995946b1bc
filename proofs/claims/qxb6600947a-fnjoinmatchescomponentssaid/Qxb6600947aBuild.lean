/-
  Seat b6600947a: the walks of copyInts and buildPieces.
-/
import Derived.Test.Qxb6600947aNew
import Derived.Lib.SliceRun
import Derived.WideShapes
namespace Go.Proofs.Qxb6600947a
open Go.RowKit

/-- A slice of ints: empty, or its row lies in block g. -/
def Sl (w : World) (a : Option Addr) (len : Nat) (f : Nat → Int) : Prop := len = 0 ∨ ∃ g, a = some ⟨g, 0, none⟩ ∧ intsAt w g len f
theorem Sl.below {B : Nat} {w w' : World} {a : Option Addr} {len : Nat} {f : Nat → Int} (h : Sl w a len f) (hb : Below B w w') (hB : w.heap.size ≤ B) : Sl w' a len f := by
  rcases h with h | ⟨g, h1, h2⟩
  · exact .inl h
  · exact .inr ⟨g, h1, below_row hb h2 (Nat.lt_of_lt_of_le h2.lt hB)⟩

theorem copy_nil (w : World) : Calls Try.prog 7 #[.slice none 0 0] w fun e w' => e = .returned (.slice none 0 0) ∧ w' = w := by
  have hq : ∀ (w : World) (a : Option Addr) (n c n' c' : Nat), (binOp .eql 22 (.slice a n c) (.slice none n' c')).run Try.prog w = .ok (.bool a.isNone) w := fun w a n c n' c' => Lib.run_eql_slice_nil w _ _ a n c n' c' Try.underlying22
  go_enter Try.func7, Try.ntmps7
  go_wp2
  go_ret
  exact ⟨rfl, rfl⟩

set_option maxHeartbeats 1000000 in
theorem copy_some (x : Addr) (len cap : Nat) (f : Nat → Int) (w : World) (hl : len ≤ 65536) (hc : ∀ i, i < len → w.cell? (x.add i) = some (.int .i64 (f i))) :
    Calls Try.prog 7 #[.slice (some x) len cap] w fun e w' => e = .returned (.slice (some ⟨w.heap.size, 0, none⟩) len len) ∧ intsAt w' w.heap.size len f ∧ Below w.heap.size w w' := by
  have hq : ∀ (w : World) (a : Option Addr) (n c n' c' : Nat), (binOp .eql 22 (.slice a n c) (.slice none n' c')).run Try.prog w = .ok (.bool a.isNone) w := fun w a n c n' c' => Lib.run_eql_slice_nil w _ _ a n c n' c' Try.underlying22
  have hmk := run_make_row' (P := Try.prog) 22 3 (.int .i64 0) 8 Try.underlying22 Try.info3 rfl .i64 .i64 len (by omega) (by omega)
  have H0 : Hid ((w.alloc (.cells (madeCells #[.int .i64 0] len) 3)).rowIs w.heap.size 3 len (fun i => .int .i64 (if i < 0 then f i else 0)) ∧ Below w.heap.size w (w.alloc (.cells (madeCells #[.int .i64 0] len) 3))) :=
    ⟨(World.rowIs_made w (.int .i64 0) len 3).congr (fun i _ => rfl), (Below.refl _ _).alloc (Nat.le_refl _) _⟩
  have HC : Hid (∀ i, i < len → w.cell? (x.add i) = some (.int .i64 (f i))) := hc
  clear hc
  go_enter Try.func7, Try.ntmps7
  go_wp2
  go_loopg [4] len (fun gk v wr => ∃ k : Nat, v = .int .i64 k ∧ k ≤ len ∧ len - k ≤ gk ∧ Hid (wr.rowIs w.heap.size 3 len (fun i => .int .i64 (if i < k then f i else 0)) ∧ Below w.heap.size w wr))
  case atStart => exact ⟨0, rfl, Nat.zero_le _, by omega, H0⟩
  case round =>
    obtain ⟨k, rfl, hk, hg, HR⟩ := hrel
    clear hmk H0 hq
    by_cases hlt : k < len
    · have ck := HR.out.1.cell hlt
      have fk := HR.out.1.frozen k
      have hx := HC.out k hlt
      have hx0 := HC.out 0 (by omega)
      have hsp : x.spot = none := by simpa [Addr.add] using World.cell?_spot hx0
      have hxb : x.block < w.heap.size := by simpa [Addr.add] using World.block_lt_of_cell? w _ hx0
      clear hx0
      obtain ⟨xb, xo, xs⟩ := x
      simp only at hsp hxb
      subst hsp
      have cx : wr.cell? ⟨xb, xo + k, none⟩ = some (.int .i64 (f k)) := (HR.out.2.cell (p := ⟨xb, xo + k, none⟩) hxb).trans (by rw [← WideShapes.add_plain]; exact hx)
      clear hx
      go_wp2
      go_roundg (gk - 1)
      case measure => omega
      case rel =>
        refine ⟨k + 1, by go_num, by omega, by omega, (HR.out.1.set k _).congr (fun j hj => ?_), HR.out.2.setCell (Nat.le_refl _) _⟩
        show (if j = k then _ else _) = _
        by_cases e : j = k
        · subst e; rw [if_pos rfl, if_pos (by omega)]
        · rw [if_neg e]
          by_cases e2 : j < k
          · rw [if_pos e2, if_pos (by omega)]
          · rw [if_neg e2, if_neg (by omega)]
    · go_wp2
      go_ret
      exact ⟨rfl, HR.out.1.congr (fun i hi => by rw [if_pos (by omega)]), HR.out.2⟩

/-- The edge lies inside. -/
def valid (n : Nat) (a b : Int) : Prop := (0 ≤ a ∧ a < n) ∧ (0 ≤ b ∧ b < n)

/-- The pieces behind the first k edges. -/
def Built (n : Nat) (A B : Nat → Int) : Nat → (Nat → Nat) → Int → Prop
  | 0, P, c => P = (fun i => i) ∧ c = n
  | k + 1, P', c' => ∃ P c, Built n A B k P c ∧ ((valid n (A k) (B k) ∧ Joined n P c (A k).toNat (B k).toNat P' c') ∨ (¬ valid n (A k) (B k) ∧ P' = P ∧ c' = c))

theorem joined_count {n : Nat} {P P' : Nat → Nat} {c c' : Int} {x y : Nat} (h : Joined n P c x y P' c') (hc : c = cnt P n) : c' = cnt P' n := by
  obtain ⟨ra, rb, _, _, _, h⟩ := h.roots
  omega

theorem Built.facts {n : Nat} {A B : Nat → Int} : ∀ {k : Nat} {P : Nat → Nat} {c : Int}, Built n A B k P c → Forest n P ∧ c = cnt P n
  | 0, P, c, h => by
    obtain ⟨rfl, rfl⟩ := h
    exact ⟨Forest.ident n, by rw [cnt_id]⟩
  | k + 1, P', c', h => by
    obtain ⟨P, c, hb, h⟩ := h
    have ih := Built.facts hb
    rcases h with ⟨_, h⟩ | ⟨_, rfl, rfl⟩
    · exact ⟨h.forest, joined_count h ih.2⟩
    · exact ih

set_option maxHeartbeats 2000000 in
theorem build_any (n : Nat) (a1 a2 : Option Addr) (len1 len2 cap1 cap2 : Nat) (A B : Nat → Int) (m : Nat) (w : World) (hn : n ≤ 65536) (h1 : Sl w a1 len1 A) (h2 : Sl w a2 len2 B) (hm1 : m ≤ len1) (hm2 : m ≤ len2) (hl : len1 ≤ 65536) :
    Calls Try.prog 8 #[.int .i64 n, .slice a1 len1 cap1, .slice a2 len2 cap2, .int .i64 m] w fun e w' => e = .returned (.pointer (some ⟨w.heap.size + 1, 0, none⟩)) ∧ ∃ P c, Pc (w.heap.size + 1) w.heap.size n P c w' ∧ Built n A B m P c ∧ Below w.heap.size w w' := by
  have HS : Hid (Sl w a1 len1 A ∧ Sl w a2 len2 B) := ⟨h1, h2⟩
  clear h1 h2
  go_enter Try.func8, Try.ntmps8
  go_wp2_with (go_at_call 13; refine (zznew_any n _ hn).mono ?_; rintro e w1 ⟨rfl, q1, q2⟩; have H : Hid (Pc (w.heap.size + 1) w.heap.size n (fun i => i) n w1 ∧ Below w.heap.size w w1) := ⟨q1, q2⟩; clear q1 q2)
  go_loopg [10] m (fun gk v wr => ∃ (k : Nat) (P : Nat → Nat) (c : Int), v = .int .i64 k ∧ k ≤ m ∧ m - k ≤ gk ∧ Hid (Pc (w.heap.size + 1) w.heap.size n P c wr ∧ Built n A B k P c ∧ Below w.heap.size w wr))
  case atStart => exact ⟨0, fun i => i, n, rfl, Nat.zero_le _, by omega, H.out.1, ⟨rfl, rfl⟩, H.out.2⟩
  case round =>
    obtain ⟨k, P, c, rfl, hk, hg, HR⟩ := hrel
    clear H
    by_cases hlt : k < m
    · obtain ⟨g1, rfl, r1⟩ : ∃ g, a1 = some ⟨g, 0, none⟩ ∧ intsAt w g len1 A := by
        rcases HS.out.1 with h | h
        · omega
        · exact h
      obtain ⟨g2, rfl, r2⟩ : ∃ g, a2 = some ⟨g, 0, none⟩ ∧ intsAt w g len2 B := by
        rcases HS.out.2 with h | h
        · omega
        · exact h
      have ck1 := (below_row HR.out.2.2 r1 r1.lt).cell (i := k) (by omega)
      have ck2 := (below_row HR.out.2.2 r2 r2.lt).cell (i := k) (by omega)
      clear r1 r2
      by_cases hv : valid n (A k) (B k)
      · have HV : Hid (valid n (A k) (B k)) := hv
        obtain ⟨x, hx⟩ : ∃ x : Nat, A k = x := ⟨(A k).toNat, by have := hv.1; omega⟩
        obtain ⟨y, hy⟩ : ∃ y : Nat, B k = y := ⟨(B k).toNat, by have := hv.2; omega⟩
        have hxn : x < n := by have := hv.1; omega
        have hyn : y < n := by have := hv.2; omega
        rw [hx] at ck1
        rw [hy] at ck2
        have HXY : Hid (A k = x ∧ B k = y) := ⟨hx, hy⟩
        have hf := Built.facts HR.out.2.1
        have hcl := cnt_le P n
        have hc0 : 0 ≤ c := by omega
        have hc1 : c ≤ 65536 := by omega
        have HF : Hid (Forest n P) := hf.1
        clear hv hx hy hf hcl
        go_wp2_with (go_at_call 14; refine (zzjoin_any (w.heap.size + 1) w.heap.size n P c x y _ HF.out hxn hyn HR.out.1 hc0 hc1).mono ?_; rintro e w2 ⟨rfl, q1⟩; have HQ : Hid (∃ P' c', Pc (w.heap.size + 1) w.heap.size n P' c' w2 ∧ Fr (fun k => k = w.heap.size ∨ k = w.heap.size + 1) wr w2 ∧ Joined n P c x y P' c') := q1; clear q1)
        go_roundg (gk - 1)
        case measure => omega
        case rel =>
          obtain ⟨P', c', q1, q2, q3⟩ := HQ.out
          refine ⟨k + 1, P', c', by go_num, by omega, by omega, q1, ⟨P, c, HR.out.2.1, .inl ⟨HV.out, ?_⟩⟩, HR.out.2.2.trans (q2.below HR.out.2.2.size (fun z hz => by omega))⟩
          rw [HXY.out.1, HXY.out.2]
          exact q3
      · have HV : Hid (¬ valid n (A k) (B k)) := hv
        have hv2 : A k < 0 ∨ (n : Int) ≤ A k ∨ B k < 0 ∨ (n : Int) ≤ B k := by
          unfold valid at hv
          omega
        clear hv
        rcases hv2 with h | h | h | h
        all_goals
          go_wp2
          all_goals
            go_roundg (gk - 1)
            case measure => omega
            case rel => exact ⟨k + 1, P, c, by go_num, by omega, by omega, HR.out.1, ⟨P, c, HR.out.2.1, .inr ⟨HV.out, rfl, rfl⟩⟩, HR.out.2.2⟩
    · go_wp2
      go_ret
      have e : k = m := by omega
      subst e
      exact ⟨rfl, P, c, HR⟩
end Go.Proofs.Qxb6600947a
