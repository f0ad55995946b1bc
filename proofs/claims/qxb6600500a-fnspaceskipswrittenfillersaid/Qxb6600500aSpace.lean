/-
  Seat b6600500a: the walks of (*scanner).space and ZZSpace.
-/
import Derived.Test.Qxb6600500aRows
import Derived.Test.Qxb6600500aPlain
import Derived.WalkKit
import Derived.WalkSpells
import Derived.BigQuiet
import Derived.Deep.LoopGhost
namespace Go.Proofs.Qxb6600500a
open Go.RowKit

theorem setCell_drewN (w : World) (n : Nat) (a : Addr) (v : Value) : (w.drewN n).setCell a v = (w.setCell a v).drewN n := rfl
theorem alloc_drewN (w : World) (n : Nat) (o : Obj) : (w.drewN n).alloc o = (w.alloc o).drewN n := rfl
attribute [local go_sem] setCell_drewN alloc_drewN

/-- The world with one scanner more, its offset k, and n draws. -/
abbrev scan (W : World) (s : ByteArray) (k : Nat) (v : Value) (n : Nat) : World := (W.alloc (.cells #[.string s, .int .i64 k, v] 33)).drewN n

theorem scan_fin (W : World) (s : ByteArray) (v : Value) (k k' n : Nat) (h : k = k') : ∃ m, scan W s k v n = scan W s k' v m := ⟨n, by rw [h]⟩

theorem scan_fin2 (W : World) (s : ByteArray) (v : Value) (k k' n n2 : Nat) (h : k = k') : ∃ m, (scan W s k v n).drewN n2 = scan W s k' v m := ⟨n + n2, by rw [h]; exact World.drewN_drewN _ _ _⟩

set_option maxHeartbeats 1000000 in
theorem space_any (W : World) (s : ByteArray) (at0 : Nat) (v : Value) (n0 : Nat) (hs : s.size ≤ 9223372036854775807) (ha : at0 ≤ 9223372036854775807) :
    Calls Try.prog 22 #[.pointer (some ⟨W.heap.size, 0, none⟩)] (scan W s at0 v n0) fun e w' => e = .returned (.tuple #[]) ∧ ∃ n, w' = scan W s (stop s false at0) v n := by
  go_enter Try.func22, Try.ntmps22
  go_wp2
  go_loopg [] (s.size) (fun g wr => ∃ k n : Nat, k ≤ 9223372036854775807 ∧ s.size - k ≤ g ∧ Hid (stop s false k = stop s false at0) ∧ wr = scan W s k v n)
  case atStart => exact ⟨at0, n0, ha, by omega, rfl, rfl⟩
  case round =>
    obtain ⟨k, n, hk, hg, HR, rfl⟩ := hrel
    have hb := get_bt s
    by_cases hlt : k < s.size
    · by_cases hbl : bt s k = 32 ∨ bt s k = 9 ∨ bt s k = 13 ∨ bt s k = 10
      · have HB : Hid (stop s false (k + 1) = stop s false at0) := (stop_blank s k hlt hbl).trans HR.out
        clear HR
        rcases hbl with h | h | h | h
        all_goals
          go_wp2
          go_quiet (fail)
          go_wp2
          go_quiet (fail)
          go_wp2
          go_roundg (gk - 1)
          case measure => omega
          case rel => exact ⟨k + 1, _, by omega, by omega, HB, rfl⟩
      · have n1 : bt s k ≠ 32 := by omega
        have n2 : bt s k ≠ 9 := by omega
        have n3 : bt s k ≠ 13 := by omega
        have n4 : bt s k ≠ 10 := by omega
        clear hbl
        by_cases h35 : bt s k = 35
        · have HO : Hid (stop s true k = stop s false at0) := (stop_open s k hlt h35).trans HR.out
          have H35 : Hid (bt s k = 35) := h35
          clear HR
          go_wp2
          go_quiet (fail)
          go_wp2
          go_quiet (fail)
          go_wp2
          obtain ⟨G, hG⟩ : ∃ G, G = gk := ⟨gk, rfl⟩
          have HG : Hid (G = gk) := hG
          have hGk : s.size - k ≤ G := by omega
          clear hG
          go_loopg [] (s.size) (fun g wr => ∃ j n : Nat, j ≤ s.size ∧ k ≤ j ∧ s.size - j ≤ g ∧ Hid (stop s true j = stop s false at0) ∧ wr = scan W s j v n)
          case atStart => exact ⟨k, _, by omega, by omega, by omega, HO, rfl⟩
          case round =>
            clear h35 HO
            obtain ⟨j, m, hj1, hj2, hj3, HJ, rfl⟩ := hrel
            by_cases hjl : j < s.size
            · have hd : decide ((j : Int) < (s.size : Int)) = true := by simpa using hjl
              by_cases h10 : bt s j = 10
              · have hkj : k < j := by
                  rcases Nat.lt_or_eq_of_le hj2 with h | h
                  · exact h
                  · exfalso; have := H35.out; rw [h] at this; omega
                have HE : Hid (stop s false j = stop s false at0) := by rw [← stop_out s j (.inr h10)]; exact HJ
                clear HJ
                go_wp2
                go_quiet (fail)
                go_wp2
                go_roundg (G - 1)
                case measure => have := HG.out; omega
                case rel => exact ⟨j, _, by omega, by omega, HE, World.drewN_drewN _ _ _⟩
              · have HE : Hid (stop s true (j + 1) = stop s false at0) := (stop_in s j hjl h10).trans HJ.out
                clear HJ
                go_wp2
                go_quiet (fail)
                go_wp2
                go_roundg (gk - 1)
                case measure => omega
                case rel => exact ⟨j + 1, _, by omega, by omega, by omega, HE, rfl⟩
            · have hd : decide ((j : Int) < (s.size : Int)) = false := by simpa using hjl
              go_wp2
              go_quiet (fail)
              go_wp2
              go_roundg (G - 1)
              case measure => have := HG.out; omega
              case rel => exact ⟨j, _, by omega, by omega, by rw [← stop_out s j (.inl (by omega))]; exact HJ, World.drewN_drewN _ _ _⟩
        · go_wp2
          go_quiet (fail)
          go_wp2
          go_quiet (fail)
          go_wp2
          refine bodyPost_ret (results_none rfl _ _ _) rfl ?_
          exact ⟨rfl, scan_fin W s v k _ _ (by rw [← HR.out, stop_here s k hlt ⟨n1, n2, n3, n4, h35⟩])⟩
    · go_wp2
      go_quiet (fail)
      go_wp2
      go_end0
      exact ⟨rfl, scan_fin2 W s v k _ _ _ (by rw [← HR.out, stop_past s _ k (by omega)])⟩

/-- ZZSpace: the scanner is a new block. -/
theorem zzspace_any (W : World) (s : ByteArray) (at0 : Nat) (hs : s.size ≤ 9223372036854775807) (ha : at0 ≤ 9223372036854775807) :
    Calls Try.prog 9 #[.string s, .int .i64 at0] W fun e w' => e = .returned (.int .i64 (stop s false at0 : Nat)) ∧ ∃ n, w' = scan W s (stop s false at0) (.slice none 0 0) n := by
  go_enter Try.func9, Try.ntmps9
  go_wp2_with (go_at_call 22; refine (space_any W s at0 (.slice none 0 0) 0 hs ha).mono ?_; rintro e w' ⟨rfl, n, rfl⟩)
  go_ret
  exact ⟨rfl, n, rfl⟩
end Go.Proofs.Qxb6600500a
