/-
  Seat b6600500a: the walks of zzIsBlank and of zzFirstByteOutsideBlanksAndComments.
-/
import Derived.Test.Qxb6600500aRows
import Derived.Test.Qxb6600500aPlain
import Derived.WalkKit
import Derived.WalkSpells
import Derived.Deep.LoopGhost
namespace Go.Proofs.Qxb6600500a
open Go.RowKit

theorem blank_yes (c : Int) (w : World) (h : c = 32 ∨ c = 9 ∨ c = 13 ∨ c = 10) :
    Calls Try.prog 12 #[.int .u8 c] w fun e w' => e = .returned (.bool true) ∧ w' = w := by
  rcases h with rfl | rfl | rfl | rfl
  all_goals
    go_enter Try.func12, Try.ntmps12
    go_wp2
    go_ret
    exact ⟨rfl, rfl⟩

theorem blank_no (c : Int) (w : World) (h : c ≠ 32 ∧ c ≠ 9 ∧ c ≠ 13 ∧ c ≠ 10) :
    Calls Try.prog 12 #[.int .u8 c] w fun e w' => e = .returned (.bool false) ∧ w' = w := by
  have h1 : (c == 32) = false := by simpa using h.1
  have h2 : (c == 9) = false := by simpa using h.2.1
  have h3 : (c == 13) = false := by simpa using h.2.2.1
  have h4 : (c == 10) = false := by simpa using h.2.2.2
  clear h
  go_enter Try.func12, Try.ntmps12
  go_wp2
  go_ret
  exact ⟨rfl, rfl⟩

theorem ret_int {k : IntKind} {a b : Int} (h : a = b) : Ending.returned (.int k a) = .returned (.int k b) := by rw [h]

set_option maxHeartbeats 1000000 in
theorem first_any (s : ByteArray) (at0 : Nat) (w : World) (hs : s.size ≤ 9223372036854775807) (_ha : at0 ≤ 9223372036854775807) :
    Calls Try.prog 10 #[.string s, .int .i64 at0] w fun e w' => e = .returned (.int .i64 (stop s false at0 : Nat)) ∧ w' = w := by
  by_cases hat : s.size ≤ at0
  · have HS : Hid (stop s false at0 = at0) := stop_past s _ _ hat
    go_enter Try.func10, Try.ntmps10
    go_wp2
    go_ret
    exact ⟨ret_int (by rw [HS.out]), rfl⟩
  · have hat' : at0 < s.size := by omega
    go_enter Try.func10, Try.ntmps10
    go_wp2
    go_loop [5, 6] (fun c i => ∃ (b : Bool) (k : Nat), c = .bool b ∧ i = .int .i64 k ∧ k ≤ s.size ∧ Hid (stop s b k = stop s false at0)) (fun _ i => s.size - (intOf i).toNat)
    case atStart => exact ⟨false, at0, rfl, rfl, by omega, rfl⟩
    case round =>
      obtain ⟨b, k, rfl, rfl, hk, HR⟩ := hrel
      have hb := get_bt s
      by_cases hlt : k < s.size
      · by_cases h10 : bt s k = 10
        · have HE : Hid (stop s false (k + 1) = stop s false at0) := by
            refine (stop_blank s k hlt (by omega)).trans (Eq.trans ?_ HR.out)
            cases b
            · rfl
            · exact (stop_out s k (.inr h10)).symm
          clear HR
          go_wp2
          go_round
          case rel => exact ⟨false, k + 1, rfl, by go_num, by omega, HE⟩
          case measure => simp [intOf]; omega
        · by_cases h35 : bt s k = 35
          · have HE : Hid (stop s true (k + 1) = stop s false at0) := by
              refine (stop_in s k hlt h10).trans (Eq.trans ?_ HR.out)
              cases b
              · exact stop_open s k hlt h35
              · rfl
            clear HR
            go_wp2
            go_round
            case rel => exact ⟨true, k + 1, rfl, by go_num, by omega, HE⟩
            case measure => simp [intOf]; omega
          · cases b
            · by_cases hbl : bt s k = 32 ∨ bt s k = 9 ∨ bt s k = 13
              · have HE : Hid (stop s false (k + 1) = stop s false at0) := (stop_blank s k hlt (by omega)).trans HR.out
                have HB : Hid (bt s k = 32 ∨ bt s k = 9 ∨ bt s k = 13) := hbl
                clear HR hbl
                go_wp2_with (go_at_call 12; refine (blank_yes _ _ (by have := HB.out; omega)).mono ?_; rintro e w' ⟨rfl, rfl⟩)
                go_round
                case rel => exact ⟨false, k + 1, rfl, by go_num, by omega, HE⟩
                case measure => simp [intOf]; omega
              · have HE : Hid (stop s false at0 = k) := by rw [← HR.out]; exact stop_here s k hlt (by omega)
                have hb4 : bt s k ≠ 32 ∧ bt s k ≠ 9 ∧ bt s k ≠ 13 ∧ bt s k ≠ 10 := by omega
                have HB : Hid (bt s k ≠ 32 ∧ bt s k ≠ 9 ∧ bt s k ≠ 13 ∧ bt s k ≠ 10) := hb4
                clear hb4
                clear HR hbl
                go_wp2_with (go_at_call 12; refine (blank_no _ _ HB.out).mono ?_; rintro e w' ⟨rfl, rfl⟩)
                go_ret
                exact ⟨ret_int (by rw [HE.out]), rfl⟩
            · have HE : Hid (stop s true (k + 1) = stop s false at0) := (stop_in s k hlt h10).trans HR.out
              clear HR
              go_wp2_with fail
              go_round
              case rel => exact ⟨true, k + 1, rfl, by go_num, by omega, HE⟩
              case measure => simp [intOf]; omega
      · have HE : Hid (stop s false at0 = s.size) := by
          have : k = s.size := by omega
          rw [← HR.out, stop_past s b k (by omega)]; exact this
        clear HR
        go_wp2
        go_ret
        exact ⟨ret_int (by rw [HE.out]), rfl⟩
end Go.Proofs.Qxb6600500a
