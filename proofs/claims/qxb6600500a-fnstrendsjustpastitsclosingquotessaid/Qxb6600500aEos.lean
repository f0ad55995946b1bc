/-
  Seat b6600500a: the walks of zzRunOf and zzEndOfString.
-/
import Derived.Test.Qxb6600500aRows
import Derived.Test.Qxb6600500aStrPlain
import Derived.WalkKit
import Derived.WalkSpells
import Derived.Deep.LoopGhost
namespace Go.Proofs.Qxb6600500a
open Go.RowKit

theorem ret_bool {a b : Bool} (h : a = b) : Ending.returned (.bool a) = .returned (.bool b) := by rw [h]
theorem ret_i64 {a b : Int} (h : a = b) : Ending.returned (.int .i64 a) = .returned (.int .i64 b) := by rw [h]

set_option maxHeartbeats 1000000 in
theorem run_any (s : ByteArray) (q : UInt8) (Q : Int) (j n : Nat) (w : World) (HQ : Hid (Q = (q.toNat : Int))) (hs : s.size ≤ 1048576) (hj : j ≤ s.size) (hn : n ≤ 3) :
    Calls Try.prog 24 #[.string s, .int .i64 j, .int .u8 Q, .int .i64 n] w fun e w' => e = .returned (.bool (preAt s q n j)) ∧ w' = w := by
  by_cases hl : s.size < j + n
  · have hp : preAt s q n j = false := pre_short s q n j hl hj
    go_enter Try.func24, Try.ntmps24
    go_wp2
    go_ret
    exact ⟨ret_bool hp.symm, rfl⟩
  · have hb := get_bt s
    go_enter Try.func24, Try.ntmps24
    go_wp2
    go_loop [9] (fun i => ∃ k : Nat, i = .int .i64 k ∧ k ≤ n ∧ Hid (preAt s q (n - k) (j + k) = preAt s q n j)) (fun i => n - (intOf i).toNat)
    case atStart => exact ⟨0, rfl, Nat.zero_le _, rfl⟩
    case round =>
      obtain ⟨k, rfl, hk, HR⟩ := hrel
      by_cases hlt : k < n
      · by_cases hc : bt s (j + k) = Q
        · have HE : Hid (preAt s q (n - (k + 1)) (j + (k + 1)) = preAt s q n j) := by
            rw [← HR.out, show n - k = (n - (k + 1)) + 1 by omega, pre_step s q _ (j + k) (by omega) (hc.trans HQ.out)]
            exact rfl
          have hc' : (bt s (j + k) != Q) = false := by simpa using hc
          clear HR hc
          go_wp2
          go_round
          case rel => exact ⟨k + 1, by go_num, by omega, HE⟩
          case measure => simp [intOf]; omega
        · have HE : Hid (preAt s q n j = false) := by
            rw [← HR.out]; exact pre_not s q _ _ (by omega) (by omega) (fun h => hc (h.trans HQ.out.symm))
          have hc' : (bt s (j + k) != Q) = true := by simpa using hc
          clear HR hc
          go_wp2
          go_ret
          exact ⟨ret_bool HE.out.symm, rfl⟩
      · have HE : Hid (preAt s q n j = true) := by
          rw [← HR.out, show n - k = 0 by omega]; exact rfl
        clear HR
        go_wp2
        go_ret
        exact ⟨ret_bool HE.out.symm, rfl⟩

theorem par_succ (b : Nat) : decide ((b + 1) % 2 = 1) = !(decide (b % 2 = 1)) := by
  by_cases h : b % 2 = 1
  · rw [decide_eq_true h, decide_eq_false (by omega)]; rfl
  · rw [decide_eq_false h, decide_eq_true (by omega)]; rfl

set_option maxHeartbeats 4000000 in
theorem eos1_q (s : ByteArray) (q : UInt8) (Q : Int) (at0 : Nat) (w : World) (hs : s.size ≤ 1048576) (ha : at0 < s.size) (hQ : bt s at0 = Q) (HQ : Hid (Q = (q.toNat : Int))) (hp : preAt s q 3 at0 = false) (h34 : Hid (q = 34)) (hq34 : (Q == 34) = true) :
    Calls Try.prog 17 #[.string s, .int .i64 at0] w fun e w' => e = .returned (.int .i64 (mend s q 1 false (at0 + 1) : Nat)) ∧ w' = w := by
  have hb := get_bt s
  go_enter Try.func17, Try.ntmps17
  go_wp2_with (go_at_call 24; refine (run_any s q _ at0 3 _ HQ hs (by omega) (by omega)).mono ?_; rintro e w' ⟨rfl, rfl⟩)
  go_loop [7, 8] (fun bs j => ∃ b k : Nat, bs = .int .i64 b ∧ j = .int .i64 k ∧ b ≤ k ∧ k ≤ s.size ∧ Hid (mend s q 1 (decide (b % 2 = 1)) k = mend s q 1 false (at0 + 1))) (fun _ j => s.size - (intOf j).toNat)
  case atStart => exact ⟨0, at0 + 1, rfl, by go_num, by omega, by omega, rfl⟩
  case round =>
    obtain ⟨b, k, rfl, rfl, hbk, hk, HR⟩ := hrel
    by_cases hlt : k < s.size
    · by_cases hpar : b % 2 = 1
      · have hpar' : ((b : Int) % 2 == 1) = true := by simp; omega
        have hon : (q = 34 ∧ decide (b % 2 = 1) = true) ∨ preAt s q 1 k = false := .inl ⟨h34.out, by simpa using hpar⟩
        by_cases hbs : bt s k = 92
        · have HE : Hid (mend s q 1 (decide ((b + 1) % 2 = 1)) (k + 1) = mend s q 1 false (at0 + 1)) := by
            rw [par_succ, ← HR.out, ← mend_on s q 1 _ k hlt hon, if_pos hbs]; exact rfl
          have hbs' : (bt s k == 92) = true := by simpa using hbs
          clear HR hbs hon
          go_wp2_with fail
          go_round
          case rel => exact ⟨b + 1, k + 1, by go_num, by go_num, by omega, by omega, HE⟩
          case measure => simp [intOf]; omega
        · have HE : Hid (mend s q 1 (decide (0 % 2 = 1)) (k + 1) = mend s q 1 false (at0 + 1)) := by
            rw [← HR.out, ← mend_on s q 1 _ k hlt hon, if_neg hbs]; exact rfl
          have hbs' : (bt s k == 92) = false := by simpa using hbs
          clear HR hbs hon
          go_wp2_with fail
          go_round
          case rel => exact ⟨0, k + 1, rfl, by go_num, by omega, by omega, HE⟩
          case measure => simp [intOf]; omega
      · have hpar' : ((b : Int) % 2 == 1) = false := by simp; omega
        by_cases hpk : preAt s q 1 k = true
        · have hesc : ¬ (q = 34 ∧ decide (b % 2 = 1) = true) := fun h => hpar (by simpa using h.2)
          have HE : Hid (mend s q 1 false (at0 + 1) = k + 1) := by rw [← HR.out, mend_shut s q 1 _ k hlt hesc hpk]; exact rfl
          have hfit : k + 1 ≤ s.size := pre_fits s q 1 k (by omega) hpk
          clear HR hesc
          go_wp2_with (go_at_call 24; refine (run_any s q _ k 1 _ HQ hs (by omega) (by omega)).mono ?_; rintro e w' ⟨rfl, rfl⟩)
          go_ret
          exact ⟨ret_i64 (by rw [HE.out]; omega), rfl⟩
        · have hpk' : preAt s q 1 k = false := by simpa using hpk
          have hon : (q = 34 ∧ decide (b % 2 = 1) = true) ∨ preAt s q 1 k = false := .inr hpk'
          clear hpk
          by_cases hbs : bt s k = 92
          · have HE : Hid (mend s q 1 (decide ((b + 1) % 2 = 1)) (k + 1) = mend s q 1 false (at0 + 1)) := by
              rw [par_succ, ← HR.out, ← mend_on s q 1 _ k hlt hon, if_pos hbs]; exact rfl
            have hbs' : (bt s k == 92) = true := by simpa using hbs
            clear HR hbs hon
            go_wp2_with (go_at_call 24; refine (run_any s q _ k 1 _ HQ hs (by omega) (by omega)).mono ?_; rintro e w' ⟨rfl, rfl⟩)
            go_round
            case rel => exact ⟨b + 1, k + 1, by go_num, by go_num, by omega, by omega, HE⟩
            case measure => simp [intOf]; omega
          · have HE : Hid (mend s q 1 (decide (0 % 2 = 1)) (k + 1) = mend s q 1 false (at0 + 1)) := by
              rw [← HR.out, ← mend_on s q 1 _ k hlt hon, if_neg hbs]; exact rfl
            have hbs' : (bt s k == 92) = false := by simpa using hbs
            clear HR hbs hon
            go_wp2_with (go_at_call 24; refine (run_any s q _ k 1 _ HQ hs (by omega) (by omega)).mono ?_; rintro e w' ⟨rfl, rfl⟩)
            go_round
            case rel => exact ⟨0, k + 1, rfl, by go_num, by omega, by omega, HE⟩
            case measure => simp [intOf]; omega
    · have hke : k = s.size := by omega
      by_cases hpar : b % 2 = 1
      · have hpar' : ((b : Int) % 2 == 1) = true := by simp; omega
        have HE : Hid (mend s q 1 false (at0 + 1) = s.size + 1) := by rw [← HR.out, mend_past s q 1 _ k hke, if_pos ⟨h34.out, by simpa using hpar⟩]; exact rfl
        clear HR hke hpar
        go_wp2
        go_ret
        exact ⟨ret_i64 (by rw [HE.out]; omega), rfl⟩
      · have hpar' : ((b : Int) % 2 == 1) = false := by simp; omega
        have HE : Hid (mend s q 1 false (at0 + 1) = s.size) := by rw [← HR.out, mend_past s q 1 _ k hke, if_neg (fun h => hpar (by simpa using h.2))]; exact rfl
        clear HR hke hpar
        go_wp2
        go_ret
        exact ⟨ret_i64 (by rw [HE.out]), rfl⟩
set_option maxHeartbeats 4000000 in
theorem eos1_p (s : ByteArray) (q : UInt8) (Q : Int) (at0 : Nat) (w : World) (hs : s.size ≤ 1048576) (ha : at0 < s.size) (hQ : bt s at0 = Q) (HQ : Hid (Q = (q.toNat : Int))) (hp : preAt s q 3 at0 = false) (h34 : Hid (q ≠ 34)) (hq34 : (Q == 34) = false) :
    Calls Try.prog 17 #[.string s, .int .i64 at0] w fun e w' => e = .returned (.int .i64 (mend s q 1 false (at0 + 1) : Nat)) ∧ w' = w := by
  have hb := get_bt s
  go_enter Try.func17, Try.ntmps17
  go_wp2_with (go_at_call 24; refine (run_any s q _ at0 3 _ HQ hs (by omega) (by omega)).mono ?_; rintro e w' ⟨rfl, rfl⟩)
  go_loop [7, 8] (fun bs j => ∃ b k : Nat, bs = .int .i64 b ∧ j = .int .i64 k ∧ b ≤ k ∧ k ≤ s.size ∧ Hid (mend s q 1 (decide (b % 2 = 1)) k = mend s q 1 false (at0 + 1))) (fun _ j => s.size - (intOf j).toNat)
  case atStart => exact ⟨0, at0 + 1, rfl, by go_num, by omega, by omega, rfl⟩
  case round =>
    obtain ⟨b, k, rfl, rfl, hbk, hk, HR⟩ := hrel
    by_cases hlt : k < s.size
    · by_cases hpk : preAt s q 1 k = true
      · have hesc : ¬ (q = 34 ∧ decide (b % 2 = 1) = true) := fun h => h34.out h.1
        have HE : Hid (mend s q 1 false (at0 + 1) = k + 1) := by rw [← HR.out, mend_shut s q 1 _ k hlt hesc hpk]; exact rfl
        have hfit : k + 1 ≤ s.size := pre_fits s q 1 k (by omega) hpk
        clear HR hesc
        go_wp2_with (go_at_call 24; refine (run_any s q _ k 1 _ HQ hs (by omega) (by omega)).mono ?_; rintro e w' ⟨rfl, rfl⟩)
        go_ret
        exact ⟨ret_i64 (by rw [HE.out]; omega), rfl⟩
      · have hpk' : preAt s q 1 k = false := by simpa using hpk
        have hon : (q = 34 ∧ decide (b % 2 = 1) = true) ∨ preAt s q 1 k = false := .inr hpk'
        clear hpk
        by_cases hbs : bt s k = 92
        · have HE : Hid (mend s q 1 (decide ((b + 1) % 2 = 1)) (k + 1) = mend s q 1 false (at0 + 1)) := by
            rw [par_succ, ← HR.out, ← mend_on s q 1 _ k hlt hon, if_pos hbs]; exact rfl
          have hbs' : (bt s k == 92) = true := by simpa using hbs
          clear HR hbs hon
          go_wp2_with (go_at_call 24; refine (run_any s q _ k 1 _ HQ hs (by omega) (by omega)).mono ?_; rintro e w' ⟨rfl, rfl⟩)
          go_round
          case rel => exact ⟨b + 1, k + 1, by go_num, by go_num, by omega, by omega, HE⟩
          case measure => simp [intOf]; omega
        · have HE : Hid (mend s q 1 (decide (0 % 2 = 1)) (k + 1) = mend s q 1 false (at0 + 1)) := by
            rw [← HR.out, ← mend_on s q 1 _ k hlt hon, if_neg hbs]; exact rfl
          have hbs' : (bt s k == 92) = false := by simpa using hbs
          clear HR hbs hon
          go_wp2_with (go_at_call 24; refine (run_any s q _ k 1 _ HQ hs (by omega) (by omega)).mono ?_; rintro e w' ⟨rfl, rfl⟩)
          go_round
          case rel => exact ⟨0, k + 1, rfl, by go_num, by omega, by omega, HE⟩
          case measure => simp [intOf]; omega
    · have hke : k = s.size := by omega
      have HE : Hid (mend s q 1 false (at0 + 1) = s.size) := by rw [← HR.out, mend_past s q 1 _ k hke, if_neg (fun h => h34.out h.1)]; exact rfl
      clear HR hke
      go_wp2
      go_ret
      exact ⟨ret_i64 (by rw [HE.out]), rfl⟩
set_option maxHeartbeats 4000000 in
theorem eos3_q (s : ByteArray) (q : UInt8) (Q : Int) (at0 : Nat) (w : World) (hs : s.size ≤ 1048576) (ha : at0 < s.size) (hQ : bt s at0 = Q) (HQ : Hid (Q = (q.toNat : Int))) (hp : preAt s q 3 at0 = true) (h34 : Hid (q = 34)) (hq34 : (Q == 34) = true) :
    Calls Try.prog 17 #[.string s, .int .i64 at0] w fun e w' => e = .returned (.int .i64 (mend s q 3 false (at0 + 3) : Nat)) ∧ w' = w := by
  have hb := get_bt s
  have hfit0 : at0 + 3 ≤ s.size := pre_fits s q 3 at0 (by omega) hp
  go_enter Try.func17, Try.ntmps17
  go_wp2_with (go_at_call 24; refine (run_any s q _ at0 3 _ HQ hs (by omega) (by omega)).mono ?_; rintro e w' ⟨rfl, rfl⟩)
  go_loop [7, 8] (fun bs j => ∃ b k : Nat, bs = .int .i64 b ∧ j = .int .i64 k ∧ b ≤ k ∧ k ≤ s.size ∧ Hid (mend s q 3 (decide (b % 2 = 1)) k = mend s q 3 false (at0 + 3))) (fun _ j => s.size - (intOf j).toNat)
  case atStart => exact ⟨0, at0 + 3, rfl, by go_num, by omega, by omega, rfl⟩
  case round =>
    obtain ⟨b, k, rfl, rfl, hbk, hk, HR⟩ := hrel
    by_cases hlt : k < s.size
    · by_cases hpar : b % 2 = 1
      · have hpar' : ((b : Int) % 2 == 1) = true := by simp; omega
        have hon : (q = 34 ∧ decide (b % 2 = 1) = true) ∨ preAt s q 3 k = false := .inl ⟨h34.out, by simpa using hpar⟩
        by_cases hbs : bt s k = 92
        · have HE : Hid (mend s q 3 (decide ((b + 1) % 2 = 1)) (k + 1) = mend s q 3 false (at0 + 3)) := by
            rw [par_succ, ← HR.out, ← mend_on s q 3 _ k hlt hon, if_pos hbs]; exact rfl
          have hbs' : (bt s k == 92) = true := by simpa using hbs
          clear HR hbs hon
          go_wp2_with fail
          go_round
          case rel => exact ⟨b + 1, k + 1, by go_num, by go_num, by omega, by omega, HE⟩
          case measure => simp [intOf]; omega
        · have HE : Hid (mend s q 3 (decide (0 % 2 = 1)) (k + 1) = mend s q 3 false (at0 + 3)) := by
            rw [← HR.out, ← mend_on s q 3 _ k hlt hon, if_neg hbs]; exact rfl
          have hbs' : (bt s k == 92) = false := by simpa using hbs
          clear HR hbs hon
          go_wp2_with fail
          go_round
          case rel => exact ⟨0, k + 1, rfl, by go_num, by omega, by omega, HE⟩
          case measure => simp [intOf]; omega
      · have hpar' : ((b : Int) % 2 == 1) = false := by simp; omega
        by_cases hpk : preAt s q 3 k = true
        · have hesc : ¬ (q = 34 ∧ decide (b % 2 = 1) = true) := fun h => hpar (by simpa using h.2)
          have HE : Hid (extAt s q (2 - 0) (k + 3) = mend s q 3 false (at0 + 3)) := by rw [← HR.out, mend_shut s q 3 _ k hlt hesc hpk]; exact rfl
          have hfit : k + 3 ≤ s.size := pre_fits s q 3 k (by omega) hpk
          clear HR hesc
          go_wp2_with (go_at_call 24; refine (run_any s q _ k 3 _ HQ hs (by omega) (by omega)).mono ?_; rintro e w' ⟨rfl, rfl⟩)
          go_loop [10, 11] (fun en x => ∃ m x' : Nat, en = .int .i64 m ∧ x = .int .i64 x' ∧ x' ≤ 2 ∧ m ≤ s.size ∧ Hid (extAt s q (2 - x') m = mend s q 3 false (at0 + 3))) (fun _ x => 2 - (intOf x).toNat)
          case atStart => exact ⟨k + 3, 0, by go_num, rfl, by omega, by omega, HE⟩
          case round =>
            obtain ⟨m, x', rfl, rfl, hx, hm, HX⟩ := hrel
            by_cases hx2 : x' < 2
            · by_cases hms : m < s.size
              · by_cases hc : bt s m = Q
                · have HY : Hid (extAt s q (2 - (x' + 1)) (m + 1) = mend s q 3 false (at0 + 3)) := by
                    rw [ext_step s q _ m hms (hc.trans HQ.out), ← HX.out, show 2 - x' = 2 - (x' + 1) + 1 by omega]; exact rfl
                  have hc' : (bt s m == Q) = true := by simpa using hc
                  clear HX HE hc
                  go_wp2
                  go_round
                  case rel => exact ⟨m + 1, x' + 1, by go_num, by go_num, by omega, by omega, HY⟩
                  case measure => simp [intOf]; omega
                · have HY : Hid (mend s q 3 false (at0 + 3) = m) := by
                    rw [← HX.out]; exact ext_stop s q _ m (.inr (.inr (fun h => hc (h.trans HQ.out.symm))))
                  have hc' : (bt s m == Q) = false := by simpa using hc
                  clear HX HE hc
                  go_wp2
                  go_ret
                  exact ⟨ret_i64 (by rw [HY.out]), rfl⟩
              · have HY : Hid (mend s q 3 false (at0 + 3) = m) := by
                  rw [← HX.out]; exact ext_stop s q _ m (.inr (.inl (by omega)))
                clear HX HE
                go_wp2
                go_ret
                exact ⟨ret_i64 (by rw [HY.out]), rfl⟩
            · have HY : Hid (mend s q 3 false (at0 + 3) = m) := by
                rw [← HX.out]; exact ext_stop s q _ m (.inl (by omega))
              clear HX HE
              go_wp2
              go_ret
              exact ⟨ret_i64 (by rw [HY.out]), rfl⟩
        · have hpk' : preAt s q 3 k = false := by simpa using hpk
          have hon : (q = 34 ∧ decide (b % 2 = 1) = true) ∨ preAt s q 3 k = false := .inr hpk'
          clear hpk
          by_cases hbs : bt s k = 92
          · have HE : Hid (mend s q 3 (decide ((b + 1) % 2 = 1)) (k + 1) = mend s q 3 false (at0 + 3)) := by
              rw [par_succ, ← HR.out, ← mend_on s q 3 _ k hlt hon, if_pos hbs]; exact rfl
            have hbs' : (bt s k == 92) = true := by simpa using hbs
            clear HR hbs hon
            go_wp2_with (go_at_call 24; refine (run_any s q _ k 3 _ HQ hs (by omega) (by omega)).mono ?_; rintro e w' ⟨rfl, rfl⟩)
            go_round
            case rel => exact ⟨b + 1, k + 1, by go_num, by go_num, by omega, by omega, HE⟩
            case measure => simp [intOf]; omega
          · have HE : Hid (mend s q 3 (decide (0 % 2 = 1)) (k + 1) = mend s q 3 false (at0 + 3)) := by
              rw [← HR.out, ← mend_on s q 3 _ k hlt hon, if_neg hbs]; exact rfl
            have hbs' : (bt s k == 92) = false := by simpa using hbs
            clear HR hbs hon
            go_wp2_with (go_at_call 24; refine (run_any s q _ k 3 _ HQ hs (by omega) (by omega)).mono ?_; rintro e w' ⟨rfl, rfl⟩)
            go_round
            case rel => exact ⟨0, k + 1, rfl, by go_num, by omega, by omega, HE⟩
            case measure => simp [intOf]; omega
    · have hke : k = s.size := by omega
      by_cases hpar : b % 2 = 1
      · have hpar' : ((b : Int) % 2 == 1) = true := by simp; omega
        have HE : Hid (mend s q 3 false (at0 + 3) = s.size + 1) := by rw [← HR.out, mend_past s q 3 _ k hke, if_pos ⟨h34.out, by simpa using hpar⟩]; exact rfl
        clear HR hke hpar
        go_wp2
        go_ret
        exact ⟨ret_i64 (by rw [HE.out]; omega), rfl⟩
      · have hpar' : ((b : Int) % 2 == 1) = false := by simp; omega
        have HE : Hid (mend s q 3 false (at0 + 3) = s.size) := by rw [← HR.out, mend_past s q 3 _ k hke, if_neg (fun h => hpar (by simpa using h.2))]; exact rfl
        clear HR hke hpar
        go_wp2
        go_ret
        exact ⟨ret_i64 (by rw [HE.out]), rfl⟩
set_option maxHeartbeats 4000000 in
theorem eos3_p (s : ByteArray) (q : UInt8) (Q : Int) (at0 : Nat) (w : World) (hs : s.size ≤ 1048576) (ha : at0 < s.size) (hQ : bt s at0 = Q) (HQ : Hid (Q = (q.toNat : Int))) (hp : preAt s q 3 at0 = true) (h34 : Hid (q ≠ 34)) (hq34 : (Q == 34) = false) :
    Calls Try.prog 17 #[.string s, .int .i64 at0] w fun e w' => e = .returned (.int .i64 (mend s q 3 false (at0 + 3) : Nat)) ∧ w' = w := by
  have hb := get_bt s
  have hfit0 : at0 + 3 ≤ s.size := pre_fits s q 3 at0 (by omega) hp
  go_enter Try.func17, Try.ntmps17
  go_wp2_with (go_at_call 24; refine (run_any s q _ at0 3 _ HQ hs (by omega) (by omega)).mono ?_; rintro e w' ⟨rfl, rfl⟩)
  go_loop [7, 8] (fun bs j => ∃ b k : Nat, bs = .int .i64 b ∧ j = .int .i64 k ∧ b ≤ k ∧ k ≤ s.size ∧ Hid (mend s q 3 (decide (b % 2 = 1)) k = mend s q 3 false (at0 + 3))) (fun _ j => s.size - (intOf j).toNat)
  case atStart => exact ⟨0, at0 + 3, rfl, by go_num, by omega, by omega, rfl⟩
  case round =>
    obtain ⟨b, k, rfl, rfl, hbk, hk, HR⟩ := hrel
    by_cases hlt : k < s.size
    · by_cases hpk : preAt s q 3 k = true
      · have hesc : ¬ (q = 34 ∧ decide (b % 2 = 1) = true) := fun h => h34.out h.1
        have HE : Hid (extAt s q (2 - 0) (k + 3) = mend s q 3 false (at0 + 3)) := by rw [← HR.out, mend_shut s q 3 _ k hlt hesc hpk]; exact rfl
        have hfit : k + 3 ≤ s.size := pre_fits s q 3 k (by omega) hpk
        clear HR hesc
        go_wp2_with (go_at_call 24; refine (run_any s q _ k 3 _ HQ hs (by omega) (by omega)).mono ?_; rintro e w' ⟨rfl, rfl⟩)
        go_loop [10, 11] (fun en x => ∃ m x' : Nat, en = .int .i64 m ∧ x = .int .i64 x' ∧ x' ≤ 2 ∧ m ≤ s.size ∧ Hid (extAt s q (2 - x') m = mend s q 3 false (at0 + 3))) (fun _ x => 2 - (intOf x).toNat)
        case atStart => exact ⟨k + 3, 0, by go_num, rfl, by omega, by omega, HE⟩
        case round =>
          obtain ⟨m, x', rfl, rfl, hx, hm, HX⟩ := hrel
          by_cases hx2 : x' < 2
          · by_cases hms : m < s.size
            · by_cases hc : bt s m = Q
              · have HY : Hid (extAt s q (2 - (x' + 1)) (m + 1) = mend s q 3 false (at0 + 3)) := by
                  rw [ext_step s q _ m hms (hc.trans HQ.out), ← HX.out, show 2 - x' = 2 - (x' + 1) + 1 by omega]; exact rfl
                have hc' : (bt s m == Q) = true := by simpa using hc
                clear HX HE hc
                go_wp2
                go_round
                case rel => exact ⟨m + 1, x' + 1, by go_num, by go_num, by omega, by omega, HY⟩
                case measure => simp [intOf]; omega
              · have HY : Hid (mend s q 3 false (at0 + 3) = m) := by
                  rw [← HX.out]; exact ext_stop s q _ m (.inr (.inr (fun h => hc (h.trans HQ.out.symm))))
                have hc' : (bt s m == Q) = false := by simpa using hc
                clear HX HE hc
                go_wp2
                go_ret
                exact ⟨ret_i64 (by rw [HY.out]), rfl⟩
            · have HY : Hid (mend s q 3 false (at0 + 3) = m) := by
                rw [← HX.out]; exact ext_stop s q _ m (.inr (.inl (by omega)))
              clear HX HE
              go_wp2
              go_ret
              exact ⟨ret_i64 (by rw [HY.out]), rfl⟩
          · have HY : Hid (mend s q 3 false (at0 + 3) = m) := by
              rw [← HX.out]; exact ext_stop s q _ m (.inl (by omega))
            clear HX HE
            go_wp2
            go_ret
            exact ⟨ret_i64 (by rw [HY.out]), rfl⟩
      · have hpk' : preAt s q 3 k = false := by simpa using hpk
        have hon : (q = 34 ∧ decide (b % 2 = 1) = true) ∨ preAt s q 3 k = false := .inr hpk'
        clear hpk
        by_cases hbs : bt s k = 92
        · have HE : Hid (mend s q 3 (decide ((b + 1) % 2 = 1)) (k + 1) = mend s q 3 false (at0 + 3)) := by
            rw [par_succ, ← HR.out, ← mend_on s q 3 _ k hlt hon, if_pos hbs]; exact rfl
          have hbs' : (bt s k == 92) = true := by simpa using hbs
          clear HR hbs hon
          go_wp2_with (go_at_call 24; refine (run_any s q _ k 3 _ HQ hs (by omega) (by omega)).mono ?_; rintro e w' ⟨rfl, rfl⟩)
          go_round
          case rel => exact ⟨b + 1, k + 1, by go_num, by go_num, by omega, by omega, HE⟩
          case measure => simp [intOf]; omega
        · have HE : Hid (mend s q 3 (decide (0 % 2 = 1)) (k + 1) = mend s q 3 false (at0 + 3)) := by
            rw [← HR.out, ← mend_on s q 3 _ k hlt hon, if_neg hbs]; exact rfl
          have hbs' : (bt s k == 92) = false := by simpa using hbs
          clear HR hbs hon
          go_wp2_with (go_at_call 24; refine (run_any s q _ k 3 _ HQ hs (by omega) (by omega)).mono ?_; rintro e w' ⟨rfl, rfl⟩)
          go_round
          case rel => exact ⟨0, k + 1, rfl, by go_num, by omega, by omega, HE⟩
          case measure => simp [intOf]; omega
    · have hke : k = s.size := by omega
      have HE : Hid (mend s q 3 false (at0 + 3) = s.size) := by rw [← HR.out, mend_past s q 3 _ k hke, if_neg (fun h => h34.out h.1)]; exact rfl
      clear HR hke
      go_wp2
      go_ret
      exact ⟨ret_i64 (by rw [HE.out]), rfl⟩
end Go.Proofs.Qxb6600500a
