/-
  Seat b6600500a: the walks of zzHasByte, zzHasTriple and zzWriteString.
-/
import Derived.Test.Qxb6600500aRows
import Derived.Test.Qxb6600500aWritePlain
import Derived.Test.Qxb6600500aFill
import Derived.WalkKit
import Derived.WalkSpells
import Derived.Deep.LoopGhost
namespace Go.Proofs.Qxb6600500a
open Go.RowKit

theorem ret_b {a b : Bool} (h : a = b) : Ending.returned (.bool a) = .returned (.bool b) := by rw [h]

set_option maxHeartbeats 1000000 in
theorem hasByte_any (s : ByteArray) (q : UInt8) (Q : Int) (w : World) (HQ : Hid (Q = (q.toNat : Int))) (hs : s.size ≤ 1048576) :
    Calls Try.prog 19 #[.string s, .int .u8 Q] w fun e w' => e = .returned (.bool (anyAt s q 0)) ∧ w' = w := by
  have hb := get_bt s
  go_enter Try.func19, Try.ntmps19
  go_wp2
  go_loop [5] (fun i => ∃ k : Nat, i = .int .i64 k ∧ k ≤ s.size ∧ Hid (anyAt s q k = anyAt s q 0)) (fun i => s.size - (intOf i).toNat)
  case atStart => exact ⟨0, rfl, Nat.zero_le _, rfl⟩
  case round =>
    obtain ⟨k, rfl, hk, HR⟩ := hrel
    by_cases hlt : k < s.size
    · by_cases hc : bt s k = Q
      · have HE : Hid (anyAt s q 0 = true) := by rw [← HR.out]; exact any_hit s q k hlt (hc.trans HQ.out)
        have hc' : (bt s k == Q) = true := by simpa using hc
        clear HR hc
        go_wp2
        go_ret
        exact ⟨ret_b HE.out.symm, rfl⟩
      · have HE : Hid (anyAt s q (k + 1) = anyAt s q 0) := (any_miss s q k hlt (fun h => hc (h.trans HQ.out.symm))).trans HR.out
        have hc' : (bt s k == Q) = false := by simpa using hc
        clear HR hc
        go_wp2
        go_round
        case rel => exact ⟨k + 1, by go_num, by omega, HE⟩
        case measure => simp [intOf]; omega
    · have HE : Hid (anyAt s q 0 = false) := by rw [← HR.out]; exact any_past s q k (by omega)
      clear HR
      go_wp2
      go_ret
      exact ⟨ret_b HE.out.symm, rfl⟩

set_option maxHeartbeats 1000000 in
theorem hasTriple_any (s : ByteArray) (q : UInt8) (Q : Int) (w : World) (HQ : Hid (Q = (q.toNat : Int))) (hs : s.size ≤ 1048576) :
    Calls Try.prog 20 #[.string s, .int .u8 Q] w fun e w' => e = .returned (.bool (trAt s q 0)) ∧ w' = w := by
  have hb := get_bt s
  go_enter Try.func20, Try.ntmps20
  go_wp2
  go_loop [5] (fun i => ∃ k : Nat, i = .int .i64 k ∧ k ≤ s.size ∧ Hid (trAt s q k = trAt s q 0)) (fun i => s.size - (intOf i).toNat)
  case atStart => exact ⟨0, rfl, Nat.zero_le _, rfl⟩
  case round =>
    obtain ⟨k, rfl, hk, HR⟩ := hrel
    by_cases hlt : k + 3 ≤ s.size
    · by_cases h0 : bt s k = Q
      · have h0' : (bt s k == Q) = true := by simpa using h0
        by_cases h1 : bt s (k + 1) = Q
        · have h1' : (bt s (k + 1) == Q) = true := by simpa using h1
          by_cases h2 : bt s (k + 2) = Q
          · have h2' : (bt s (k + 2) == Q) = true := by simpa using h2
            have HE : Hid (trAt s q 0 = true) := by
              rw [← HR.out]
              refine tr_hit s q k (by omega) ?_
              rw [pre_step s q 2 k (by omega) (h0.trans HQ.out), pre_step s q 1 (k + 1) (by omega) (h1.trans HQ.out), pre_step s q 0 (k + 2) (by omega) (h2.trans HQ.out)]
              rfl
            clear HR h0 h1 h2
            go_wp2
            go_ret
            exact ⟨ret_b HE.out.symm, rfl⟩
          · have h2' : (bt s (k + 2) == Q) = false := by simpa using h2
            have HE : Hid (trAt s q (k + 1) = trAt s q 0) := by
              refine (tr_miss s q k (by omega) ?_).trans HR.out
              rw [pre_step s q 2 k (by omega) (h0.trans HQ.out), pre_step s q 1 (k + 1) (by omega) (h1.trans HQ.out)]
              exact pre_not s q 1 (k + 2) (by omega) (by omega) (fun h => h2 (h.trans HQ.out.symm))
            clear HR h0 h1 h2
            go_wp2
            go_round
            case rel => exact ⟨k + 1, by go_num, by omega, HE⟩
            case measure => simp [intOf]; omega
        · have h1' : (bt s (k + 1) == Q) = false := by simpa using h1
          have HE : Hid (trAt s q (k + 1) = trAt s q 0) := by
            refine (tr_miss s q k (by omega) ?_).trans HR.out
            rw [pre_step s q 2 k (by omega) (h0.trans HQ.out)]
            exact pre_not s q 2 (k + 1) (by omega) (by omega) (fun h => h1 (h.trans HQ.out.symm))
          clear HR h0 h1
          go_wp2
          go_round
          case rel => exact ⟨k + 1, by go_num, by omega, HE⟩
          case measure => simp [intOf]; omega
      · have h0' : (bt s k == Q) = false := by simpa using h0
        have HE : Hid (trAt s q (k + 1) = trAt s q 0) :=
          (tr_miss s q k (by omega) (pre_not s q 3 k (by omega) (by omega) (fun h => h0 (h.trans HQ.out.symm)))).trans HR.out
        clear HR h0
        go_wp2
        go_round
        case rel => exact ⟨k + 1, by go_num, by omega, HE⟩
        case measure => simp [intOf]; omega
    · have HE : Hid (trAt s q 0 = false) := by rw [← HR.out]; exact tr_past s q k (by omega)
      clear HR
      go_wp2
      go_ret
      exact ⟨ret_b HE.out.symm, rfl⟩

theorem rep_push (q : UInt8) (n k : Nat) (h : k < n) (acc r : List UInt8) : (acc ++ [q]) ++ (List.replicate (n - (k + 1)) q ++ r) = acc ++ (List.replicate (n - k) q ++ r) := by
  rw [show n - k = (n - (k + 1)) + 1 by omega, List.replicate_succ, List.append_assoc, List.singleton_append, List.cons_append]

set_option maxHeartbeats 4000000 in
theorem write_any (s : ByteArray) (q : UInt8) (Q : Int) (n : Nat) (B : Bool) (w : World) (HQ : Hid (Q = (q.toNat : Int))) (hs : s.size ≤ 1048576) (hn : n ≤ 3) (hq34 : (Q == 34) = B) (H34 : Hid (q = 34 ↔ B = true)) :
    Calls Try.prog 21 #[.string s, .int .u8 Q, .int .i64 n] w fun e w' => e = .returned (.string ⟨(wr q n s.data.toList).toArray⟩) ∧ Below w.heap.size w w' := by
  obtain ⟨i0, hi, hz0, hz1, hz2⟩ := info_parts Try.info5
  obtain ⟨F, hF⟩ : ∃ F, F = wr q n s.data.toList := ⟨_, rfl⟩
  have HF : Hid (F = wr q n s.data.toList) := hF
  have hFl : F.length ≤ 2 * s.size + 2 * n := by
    have := escL_le q s.data.toList
    rw [hF]
    simp only [wr, List.length_append, List.length_replicate]
    simp at this
    omega
  rw [← hF]
  clear hF
  go_enter Try.func21, Try.ntmps21
  go_wp2_with (at_make; refine wpList_make_own _ rfl _ _ 34 rfl w.heap.size 5 i0 (.int .u8 0) 1 Try.underlying34 hi hz0 hz1 .i64 .i64 _ (2 * s.size + 2 * n) rfl rfl (by omega) (by rw [hz2]; omega) (by unfold maxLen; omega) (Nat.le_refl _) ?_; intro w1 hown1 hgrow1)
  have hbel1 : Below w.heap.size w w1 := (Below.refl _ _).grown hgrow1 (Nat.le_refl _) (fun k hk => by cases hk)
  clear hgrow1
  go_loopg [7, 8] 3 (fun g v i wr' => ∃ (k : Nat) (acc : List UInt8), i = .int .i64 k ∧ k ≤ n ∧ n - k ≤ g ∧
      wr'.ownsRow w.heap.size 5 1 v acc.length (Lib.byteCells acc) ∧ (∃ b cap, v = .slice (some ⟨b, 0, none⟩) acc.length cap) ∧ Below w.heap.size w wr' ∧ Hid (acc ++ (List.replicate (n - k) q ++ (escL q s.data.toList ++ List.replicate n q)) = F))
  case atStart => exact ⟨0, [], rfl, Nat.zero_le _, by omega, hown1, ⟨_, _, rfl⟩, hbel1, HF.out.symm⟩
  case round =>
    clear hown1 hbel1
    obtain ⟨k, acc, rfl, hk, hg, hown, ⟨vb, vcap, rfl⟩, hbel, HR⟩ := hrel
    have hacc : acc.length ≤ F.length := by rw [← HR.out]; simp
    have hsz := hbel.size
    by_cases hlt : k < n
    · have HE : Hid ((acc ++ [q]) ++ (List.replicate (n - (k + 1)) q ++ (escL q s.data.toList ++ List.replicate n q)) = F) := (rep_push q n k hlt acc _).trans HR.out
      clear HR
      go_wp2_with (at_builtin; refine wpList_append_own _ rfl _ _ 34 rfl w.heap.size 5 i0 (.int .u8 0) 1 1 Try.underlying34 hi hz0 hz1 hz2 rfl (by decide) _ _ _ rfl (hown.alloc _) ⟨wr.heap.size, 0, none⟩ 1 1 [.int .u8 Q] rfl rfl (cell_one_new _ _ _) (one_cell _) (by unfold maxLen; omega) (by omega) (by simp; omega) ?_; intro v' w2 hown' hgrow hnil)
      have S := step_push q HQ.out.symm (Nat.le_refl _) hown hbel hown' hgrow
      clear hown' hgrow hnil hown hbel
      go_wp2
      go_roundg (gk - 1)
      case measure => omega
      case rel => exact ⟨k + 1, _, by go_num, by omega, by omega, S.1, S.2.1, S.2.2, HE⟩
    · have HE : Hid (acc ++ (escL q (s.data.toList.drop 0) ++ List.replicate n q) = F) := by
        have h := HR.out
        rw [show n - k = 0 by omega, List.replicate_zero, List.nil_append] at h
        exact h
      clear HR
      go_wp2
      obtain ⟨acc0, hacc0⟩ : ∃ a, a = acc := ⟨_, rfl⟩
      go_loopg [7, 9] (s.size) (fun g v i wr' => ∃ (k : Nat) (acc : List UInt8), i = .int .i64 k ∧ k ≤ s.size ∧ s.size - k ≤ g ∧
          wr'.ownsRow w.heap.size 5 1 v acc.length (Lib.byteCells acc) ∧ (∃ b cap, v = .slice (some ⟨b, 0, none⟩) acc.length cap) ∧ Below w.heap.size w wr' ∧ Hid (acc ++ (escL q (s.data.toList.drop k) ++ List.replicate n q) = F))
      case atStart => exact ⟨0, acc, rfl, Nat.zero_le _, by omega, hown, ⟨_, _, rfl⟩, hbel, HE⟩
      case round =>
        clear hown hbel HE hacc hacc0 hsz
        obtain ⟨j, ac, rfl, hj, hg2, hown, ⟨vb2, vcap2, rfl⟩, hbel, HR⟩ := hrel
        have hac : ac.length ≤ F.length := by rw [← HR.out]; simp
        have hsz := hbel.size
        have hb := get_bt s
        by_cases hjl : j < s.size
        · have he := esc_at q s j hjl
          by_cases hx : q = 34 ∧ (bt s j = 34 ∨ bt s j = 92)
          · have HE : Hid (((ac ++ [92]) ++ [s[j]]) ++ (escL q (s.data.toList.drop (j + 1)) ++ List.replicate n q) = F) := by
              rw [if_pos hx] at he
              show _ = F
              rw [← HR.out, he]; simp
            have hac2 : ac.length + 2 ≤ F.length := by have := congrArg List.length HE.out; simp at this; omega
            obtain ⟨ac2, E2⟩ : ∃ a, a = ac ++ [(92 : UInt8)] := ⟨_, rfl⟩
            rw [← E2] at HE
            have hl3 : ac2.length + 1 ≤ F.length := by rw [E2]; simp; omega
            have HE2 : Hid (ac2 = ac ++ [(92 : UInt8)]) := E2
            clear E2
            obtain ⟨rfl⟩ := H34.out.1 hx.1
            have HX : Hid (bt s j = 34 ∨ bt s j = 92) := hx.2
            clear HR he
            rcases hx.2 with h | h
            · have hx1 : (bt s j == 34) = true := by simpa using h
              clear h hx
              go_wp2_with (first | (at_builtin; refine wpList_append_own _ rfl (.tmp 47) (.tmp 48) 34 rfl w.heap.size 5 i0 (.int .u8 0) 1 1 Try.underlying34 hi hz0 hz1 hz2 rfl (by decide) _ _ _ rfl (hown.alloc _) ⟨wr.heap.size, 0, none⟩ 1 1 [.int .u8 92] rfl rfl (cell_one_new _ _ _) (one_cell _) (by unfold maxLen; omega) (by omega) (by simp; omega) ?_; intro v' w2 hown' hgrow hnil; have S := step_push 92 rfl (Nat.le_refl _) hown hbel hown' hgrow; obtain ⟨hown3, ⟨vb3, vcap3, hv⟩, hbel3⟩ := S; rw [← HE2.out] at hown3 hv; subst hv; have hsz3 := hbel3.size; clear hown' hgrow hnil) | (at_builtin; refine wpList_append_own _ rfl (.tmp 50) (.tmp 52) 34 rfl w.heap.size 5 i0 (.int .u8 0) 1 1 Try.underlying34 hi hz0 hz1 hz2 rfl (by decide) _ _ _ rfl (hown3.alloc _) ⟨w2.heap.size, 0, none⟩ 1 1 [.int .u8 (bt s j)] rfl rfl (cell_one_new _ _ _) (one_cell _) (by unfold maxLen; omega) (by omega) (by simp; omega) ?_; intro v' w3 hown' hgrow hnil))
              have S := step_push s[j] (hb j hjl) (Nat.le_refl _) hown3 hbel3 hown' hgrow
              clear hown' hgrow hnil hown3 hbel3
              go_wp2
              go_roundg (gk - 1)
              case measure => omega
              case rel => exact ⟨j + 1, _, by go_num, by omega, by omega, S.1, S.2.1, S.2.2, HE⟩
            · have hx1 : (bt s j == 34) = false := by simp; omega
              have hx2 : (bt s j == 92) = true := by simpa using h
              clear h hx
              go_wp2_with (first | (at_builtin; refine wpList_append_own _ rfl (.tmp 47) (.tmp 48) 34 rfl w.heap.size 5 i0 (.int .u8 0) 1 1 Try.underlying34 hi hz0 hz1 hz2 rfl (by decide) _ _ _ rfl (hown.alloc _) ⟨wr.heap.size, 0, none⟩ 1 1 [.int .u8 92] rfl rfl (cell_one_new _ _ _) (one_cell _) (by unfold maxLen; omega) (by omega) (by simp; omega) ?_; intro v' w2 hown' hgrow hnil; have S := step_push 92 rfl (Nat.le_refl _) hown hbel hown' hgrow; obtain ⟨hown3, ⟨vb3, vcap3, hv⟩, hbel3⟩ := S; rw [← HE2.out] at hown3 hv; subst hv; have hsz3 := hbel3.size; clear hown' hgrow hnil) | (at_builtin; refine wpList_append_own _ rfl (.tmp 50) (.tmp 52) 34 rfl w.heap.size 5 i0 (.int .u8 0) 1 1 Try.underlying34 hi hz0 hz1 hz2 rfl (by decide) _ _ _ rfl (hown3.alloc _) ⟨w2.heap.size, 0, none⟩ 1 1 [.int .u8 (bt s j)] rfl rfl (cell_one_new _ _ _) (one_cell _) (by unfold maxLen; omega) (by omega) (by simp; omega) ?_; intro v' w3 hown' hgrow hnil))
              have S := step_push s[j] (hb j hjl) (Nat.le_refl _) hown3 hbel3 hown' hgrow
              clear hown' hgrow hnil hown3 hbel3
              go_wp2
              go_roundg (gk - 1)
              case measure => omega
              case rel => exact ⟨j + 1, _, by go_num, by omega, by omega, S.1, S.2.1, S.2.2, HE⟩
          · have HE : Hid ((ac ++ [s[j]]) ++ (escL q (s.data.toList.drop (j + 1)) ++ List.replicate n q) = F) := by
              rw [if_neg hx] at he
              show _ = F
              rw [← HR.out, he]; simp
            have hac2 : ac.length + 1 ≤ F.length := by have := congrArg List.length HE.out; simp at this; omega
            clear HR he
            cases B
            · clear hx
              go_wp2_with (at_builtin; refine wpList_append_own _ rfl _ _ 34 rfl w.heap.size 5 i0 (.int .u8 0) 1 1 Try.underlying34 hi hz0 hz1 hz2 rfl (by decide) _ _ _ rfl (hown.alloc _) ⟨wr.heap.size, 0, none⟩ 1 1 [.int .u8 (bt s j)] rfl rfl (cell_one_new _ _ _) (one_cell _) (by unfold maxLen; omega) (by omega) (by simp; omega) ?_; intro v' w2 hown' hgrow hnil)
              have S := step_push s[j] (hb j hjl) (Nat.le_refl _) hown hbel hown' hgrow
              clear hown' hgrow hnil hown hbel
              go_wp2
              go_roundg (gk - 1)
              case measure => omega
              case rel => exact ⟨j + 1, _, by go_num, by omega, by omega, S.1, S.2.1, S.2.2, HE⟩
            · have hx0 : bt s j ≠ 34 ∧ bt s j ≠ 92 := ⟨fun h => hx ⟨H34.out.2 rfl, .inl h⟩, fun h => hx ⟨H34.out.2 rfl, .inr h⟩⟩
              have hx1 : (bt s j == 34) = false := by simpa using hx0.1
              have hx2 : (bt s j == 92) = false := by simpa using hx0.2
              clear hx hx0
              go_wp2_with (at_builtin; refine wpList_append_own _ rfl _ _ 34 rfl w.heap.size 5 i0 (.int .u8 0) 1 1 Try.underlying34 hi hz0 hz1 hz2 rfl (by decide) _ _ _ rfl (hown.alloc _) ⟨wr.heap.size, 0, none⟩ 1 1 [.int .u8 (bt s j)] rfl rfl (cell_one_new _ _ _) (one_cell _) (by unfold maxLen; omega) (by omega) (by simp; omega) ?_; intro v' w2 hown' hgrow hnil)
              have S := step_push s[j] (hb j hjl) (Nat.le_refl _) hown hbel hown' hgrow
              clear hown' hgrow hnil hown hbel
              go_wp2
              go_roundg (gk - 1)
              case measure => omega
              case rel => exact ⟨j + 1, _, by go_num, by omega, by omega, S.1, S.2.1, S.2.2, HE⟩
        · have HE : Hid (ac ++ (List.replicate (n - 0) q ++ []) = F) := by
            have h := HR.out
            rw [List.drop_of_length_le (by simp; omega), escL, List.nil_append] at h
            rw [List.append_nil]; exact h
          clear HR
          go_wp2
          go_loopg [7, 11] 3 (fun g v i wr' => ∃ (k : Nat) (acc : List UInt8), i = .int .i64 k ∧ k ≤ n ∧ n - k ≤ g ∧
              wr'.ownsRow w.heap.size 5 1 v acc.length (Lib.byteCells acc) ∧ (∃ b cap, v = .slice (some ⟨b, 0, none⟩) acc.length cap) ∧ Below w.heap.size w wr' ∧ Hid (acc ++ (List.replicate (n - k) q ++ []) = F))
          case atStart => exact ⟨0, ac, rfl, Nat.zero_le _, by omega, hown, ⟨_, _, rfl⟩, hbel, HE⟩
          case round =>
            clear hown hbel HE hac hsz
            obtain ⟨m, ad, rfl, hm, hg3, hown, ⟨vb4, vcap4, rfl⟩, hbel, HR⟩ := hrel
            have hac : ad.length ≤ F.length := by rw [← HR.out]; simp
            have hsz := hbel.size
            by_cases hml : m < n
            · have HE : Hid ((ad ++ [q]) ++ (List.replicate (n - (m + 1)) q ++ []) = F) := (rep_push q n m hml ad _).trans HR.out
              clear HR
              go_wp2_with (at_builtin; refine wpList_append_own _ rfl _ _ 34 rfl w.heap.size 5 i0 (.int .u8 0) 1 1 Try.underlying34 hi hz0 hz1 hz2 rfl (by decide) _ _ _ rfl (hown.alloc _) ⟨wr.heap.size, 0, none⟩ 1 1 [.int .u8 Q] rfl rfl (cell_one_new _ _ _) (one_cell _) (by unfold maxLen; omega) (by omega) (by simp; omega) ?_; intro v' w2 hown' hgrow hnil)
              have S := step_push q HQ.out.symm (Nat.le_refl _) hown hbel hown' hgrow
              clear hown' hgrow hnil hown hbel
              go_wp2
              go_roundg (gk - 1)
              case measure => omega
              case rel => exact ⟨m + 1, _, by go_num, by omega, by omega, S.1, S.2.1, S.2.2, HE⟩
            · have HE : Hid (ad = F) := by
                have h := HR.out
                rw [show n - m = 0 by omega, List.replicate_zero, List.append_nil, List.append_nil] at h
                exact h
              have hcv := run_convert_bytes_back (P := Try.prog) wr 34 9 5 ⟨vb4, 0, none⟩ vcap4 ad Try.underlying34 Try.underlying5 Try.underlying9 (fun j hj => hown.cells (g := vb4) rfl j _ (by simp [Lib.byteCells, hj]))
              clear HR
              go_wp2
              go_ret
              have := HE.out
              subst this
              exact ⟨rfl, hbel⟩
end Go.Proofs.Qxb6600500a
