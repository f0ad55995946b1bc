/-
  Seat b6600947a: the walks of newPieces, copyInts, parentsOf, buildPieces.
-/
import Derived.Test.Qxb6600947aJoin
namespace Go.Proofs.Qxb6600947a
open Go.RowKit

theorem ident_of (n k : Nat) (h : n ≤ k) : ∀ i, i < n → (if i < k then (i : Int) else 0) = ((i : Nat) : Int) := fun i hi => by rw [if_pos (by omega)]

set_option maxHeartbeats 1000000 in
theorem new_any (n : Nat) (w : World) (hn : n ≤ 65536) :
    Calls Try.prog 19 #[.int .i64 n] w fun e w' => e = .returned (.pointer (some ⟨w.heap.size + 1, 0, none⟩)) ∧ Pc (w.heap.size + 1) w.heap.size n (fun i => i) n w' ∧ Below w.heap.size w w' := by
  have hmk := run_make_row' (P := Try.prog) 22 3 (.int .i64 0) 8 Try.underlying22 Try.info3 rfl .i64 .i64 n (by omega) (by omega)
  have H0 : Hid ((((w.alloc (.cells (madeCells #[.int .i64 0] n) 3)).alloc (.cells #[.slice (some ⟨w.heap.size, 0, none⟩) n n, .int .i64 n] 39)).rowIs (w.heap.size + 1) 39 2 (fun i => if i = 0 then .slice (some ⟨w.heap.size, 0, none⟩) n n else .int .i64 n)) ∧
      ((w.alloc (.cells (madeCells #[.int .i64 0] n) 3)).alloc (.cells #[.slice (some ⟨w.heap.size, 0, none⟩) n n, .int .i64 n] 39)).rowIs w.heap.size 3 n (fun i => .int .i64 (if i < 0 then (i : Int) else 0)) ∧
      Below w.heap.size w ((w.alloc (.cells (madeCells #[.int .i64 0] n) 3)).alloc (.cells #[.slice (some ⟨w.heap.size, 0, none⟩) n n, .int .i64 n] 39))) := by
    refine ⟨?_, ?_, ?_⟩
    · have h := World.rowIs_alloc (w.alloc (.cells (madeCells #[.int .i64 0] n) 3)) #[.slice (some ⟨w.heap.size, 0, none⟩) n n, .int .i64 n] 39 (fun i => if i = 0 then .slice (some ⟨w.heap.size, 0, none⟩) n n else .int .i64 n) (fun i hi => by
        have hi' : i < 2 := hi
        have : i = 0 ∨ i = 1 := by omega
        rcases this with rfl | rfl <;> rfl)
      simpa using h
    · exact ((World.rowIs_made w (.int .i64 0) n 3).congr (fun i _ => rfl)).alloc _
    · exact ((Below.refl _ _).alloc (Nat.le_refl _) _).alloc (by simp) _
  go_enter Try.func19, Try.ntmps19
  go_wp2
  go_loopg [15] n (fun gk v wr => ∃ k : Nat, v = .int .i64 k ∧ k ≤ n ∧ n - k ≤ gk ∧ Hid (wr.rowIs (w.heap.size + 1) 39 2 (fun i => if i = 0 then .slice (some ⟨w.heap.size, 0, none⟩) n n else .int .i64 n) ∧ wr.rowIs w.heap.size 3 n (fun i => .int .i64 (if i < k then (i : Int) else 0)) ∧ Below w.heap.size w wr))
  case atStart => exact ⟨0, rfl, Nat.zero_le _, by omega, H0⟩
  case round =>
    obtain ⟨k, rfl, hk, hg, HR⟩ := hrel
    clear hmk H0
    by_cases hlt : k < n
    · have c0 : wr.cell? ⟨w.heap.size + 1, 0, none⟩ = some (.slice (some ⟨w.heap.size, 0, none⟩) n n) := HR.out.1.cell (by omega)
      have ck := HR.out.2.1.cell hlt
      have fk := HR.out.2.1.frozen k
      go_wp2
      go_roundg (gk - 1)
      case measure => omega
      case rel =>
        refine ⟨k + 1, by go_num, by omega, by omega, HR.out.1.setOther (by simp) _, (HR.out.2.1.set k _).congr (fun j hj => ?_), HR.out.2.2.setCell (Nat.le_refl _) _⟩
        show (if j = k then _ else _) = _
        by_cases e : j = k
        · subst e; rw [if_pos rfl, if_pos (by omega)]
        · rw [if_neg e]
          by_cases e2 : j < k
          · rw [if_pos e2, if_pos (by omega)]
          · rw [if_neg e2, if_neg (by omega)]
    · go_wp2
      go_ret
      exact ⟨rfl, ⟨HR.out.1, HR.out.2.1.congr (fun i hi => by rw [ident_of n k (by omega) i hi]), by simp⟩, HR.out.2.2⟩

theorem zznew_any (n : Nat) (w : World) (hn : n ≤ 65536) :
    Calls Try.prog 13 #[.int .i64 n] w fun e w' => e = .returned (.pointer (some ⟨w.heap.size + 1, 0, none⟩)) ∧ Pc (w.heap.size + 1) w.heap.size n (fun i => i) n w' ∧ Below w.heap.size w w' := by
  go_enter Try.func13, Try.ntmps13
  go_wp2_with (go_at_call 19; refine (new_any n _ hn).mono ?_; rintro e w1 ⟨rfl, h1, h2⟩; have H : Hid (Pc (w.heap.size + 1) w.heap.size n (fun i => i) n w1 ∧ Below w.heap.size w w1) := ⟨h1, h2⟩; clear h1 h2)
  go_ret
  exact ⟨rfl, H⟩

/-- parentsOf: a new row with the parents in it. -/
theorem parents_any (b g n : Nat) (P : Nat → Nat) (c : Int) (w : World) (hn : n ≤ 65536) (hp : Pc b g n P c w) :
    Calls Try.prog 15 #[.pointer (some ⟨b, 0, none⟩)] w fun e w' => e = .returned (.slice (some ⟨w.heap.size, 0, none⟩) n n) ∧ intsAt w' w.heap.size n (fun i => (P i : Int)) ∧ Below w.heap.size w w' := by
  have hmk := run_make_row' (P := Try.prog) 22 3 (.int .i64 0) 8 Try.underlying22 Try.info3 rfl .i64 .i64 n (by omega) (by omega)
  have H0 : Hid ((w.alloc (.cells (madeCells #[.int .i64 0] n) 3)).rowIs w.heap.size 3 n (fun i => .int .i64 (if i < 0 then (P i : Int) else 0)) ∧ Below w.heap.size w (w.alloc (.cells (madeCells #[.int .i64 0] n) 3))) :=
    ⟨(World.rowIs_made w (.int .i64 0) n 3).congr (fun i _ => rfl), (Below.refl _ _).alloc (Nat.le_refl _) _⟩
  have HP : Hid (Pc b g n P c w) := hp
  clear hp
  go_enter Try.func15, Try.ntmps15
  go_wp2_with (go_at_call 21; refine (zzlen_any b g n P c _ HP.out).mono ?_; rintro e w1 ⟨rfl, rfl⟩)
  go_loopg [5] n (fun gk v wr => ∃ k : Nat, v = .int .i64 k ∧ k ≤ n ∧ n - k ≤ gk ∧ Hid (wr.rowIs w1.heap.size 3 n (fun i => .int .i64 (if i < k then (P i : Int) else 0)) ∧ Below w1.heap.size w1 wr))
  case atStart => exact ⟨0, rfl, Nat.zero_le _, by omega, H0⟩
  case round =>
    obtain ⟨k, rfl, hk, hg, HR⟩ := hrel
    clear hmk H0
    by_cases hlt : k < n
    · have ck := HR.out.1.cell hlt
      have fk := HR.out.1.frozen k
      have HP2 : Hid (Pc b g n P c wr) := ⟨below_row HR.out.2 HP.out.hd HP.out.hd.lt, below_row HR.out.2 HP.out.row HP.out.row.lt, HP.out.ne⟩
      go_wp2_with (go_at_call 22; refine (zzparent_any b g n P c k _ hlt HP2.out).mono ?_; rintro e w2 ⟨rfl, hw2⟩; subst hw2)
      go_roundg (gk - 1)
      case measure => omega
      case rel =>
        refine ⟨k + 1, by go_num, by omega, by omega, (HR.out.1.set k _).congr (fun j hj => ?_), HR.out.2.setCell (Nat.le_refl _) _⟩
        show (if j = k then _ else _) = _
        by_cases e : j = k
        · subst e; rw [if_pos rfl, if_pos (by omega)]
        · rw [if_neg e]
          by_cases e2 : j < k
          · rw [if_pos e2, if_pos (by omega)]
          · rw [if_neg e2, if_neg (by omega)]
    · go_wp2
      go_ret
      exact ⟨rfl, HR.out.1.congr (fun i hi => by rw [if_pos (by omega)]), HR.out.2⟩
end Go.Proofs.Qxb6600947a
