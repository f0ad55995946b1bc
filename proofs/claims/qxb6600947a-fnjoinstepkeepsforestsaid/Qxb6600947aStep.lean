/-
  Seat b6600947a: the walk of FnJoinStepKeepsForest, inside its bounds.
-/
import Derived.Test.Qxb6600947aArgs
import Derived.Test.Qxb6600947aForest
namespace Go.Proofs.Qxb6600947a
open Go.RowKit

theorem step_bytes_yes (n : Int) (a1 a2 : Option Addr) (len1 cap1 len2 cap2 : Nat) (w : World) (h : len1 + len2 ≤ 1048576) :
    Calls Try.prog 12 #[.int .i64 n, .slice a1 len1 cap1, .slice a2 len2 cap2] w fun e w' => e = .returned (.bool true) ∧ w' = w := by
  go_enter Try.func12, Try.ntmps12
  go_wp2
  go_ret
  exact ⟨rfl, rfl⟩

set_option maxRecDepth 100000 in
set_option maxHeartbeats 4000000 in
theorem step_core (n : Nat) (a1 a2 : Option Addr) (len1 cap1 len2 cap2 : Nat) (A B : Nat → Int) (w : World) (hn : n ≤ 65536) (h1 : ArgS w a1 len1 cap1 A) (h2 : ArgS w a2 len2 cap2 B) (hl : 8 * len1 + 8 * len2 ≤ 1048576) (hl1 : len1 ≤ 65536) (hl2 : len2 ≤ 65536) :
    Calls Try.prog 4 #[.int .i64 n, .slice a1 len1 cap1, .slice a2 len2 cap2] w fun e w' => e = .returned (.bool true) ∧ Below w.heap.size w w' := by
  have HA : Hid (ArgS w a1 len1 cap1 A ∧ ArgS w a2 len2 cap2 B) := ⟨h1, h2⟩
  clear h1 h2
  go_enter Try.func4, Try.ntmps4
  go_wp2_with (go_at_call 12; refine (step_bytes_yes n a1 a2 len1 cap1 len2 cap2 _ (by omega)).mono ?_; rintro e w' ⟨rfl, rfl⟩)
  refine (copy_arg a1 len1 cap1 A _ hl1 HA.out.1).mono ?_
  rintro e w2 ⟨b1, rfl, q1, q2⟩
  have H2 : Hid (Sl w2 b1 len1 A ∧ Below w'.heap.size w' w2) := ⟨q1, q2⟩
  clear q1 q2
  go_wp2_with fail
  refine (copy_arg a2 len2 cap2 B _ hl2 (HA.out.2.below H2.out.2)).mono ?_
  rintro e w3 ⟨b2, rfl, q1, q2⟩
  have HS : Hid (Sl w3 b1 len1 A ∧ Sl w3 b2 len2 B ∧ Below w'.heap.size w' w3) := ⟨H2.out.1.below q2 (Nat.le_refl _), q1, H2.out.2.trans (q2.mono H2.out.2.size)⟩
  clear q1 q2 H2 HA
  by_cases hmn : len2 < len1
  · go_wp2_with (go_at_call 13; refine (zznew_any n _ hn).mono ?_; rintro e w4 ⟨rfl, q1, q2⟩; have H4 : Hid (Pc (w3.heap.size + 1) w3.heap.size n (fun i => i) n w4 ∧ Below w3.heap.size w3 w4) := ⟨q1, q2⟩; clear q1 q2)
    go_loopg [9] len2 (fun gk v wr => ∃ (k : Nat) (P : Nat → Nat) (c : Int), v = .int .i64 k ∧ k ≤ len2 ∧ len2 - k ≤ gk ∧ Hid (Pc (w3.heap.size + 1) w3.heap.size n P c wr ∧ Forest n P ∧ c = cnt P n ∧ Below w3.heap.size w3 wr))
    case atStart => exact ⟨0, fun i => i, n, rfl, Nat.zero_le _, by omega, H4.out.1, Forest.ident n, by rw [cnt_id], H4.out.2⟩
    case round =>
      clear H4
      obtain ⟨k, P, c, rfl, hk, hg, HR⟩ := hrel
      by_cases hlt : k < len2
      · obtain ⟨g1, rfl, r1⟩ : ∃ g, b1 = some ⟨g, 0, none⟩ ∧ intsAt w3 g len1 A := by
          rcases HS.out.1 with h | h
          · omega
          · exact h
        obtain ⟨g2, rfl, r2⟩ : ∃ g, b2 = some ⟨g, 0, none⟩ ∧ intsAt w3 g len2 B := by
          rcases HS.out.2.1 with h | h
          · omega
          · exact h
        have ck1 := (below_row HR.out.2.2.2 r1 r1.lt).cell (i := k) (by omega)
        have ck2 := (below_row HR.out.2.2.2 r2 r2.lt).cell (i := k) (by omega)
        clear r1 r2
        by_cases hv : valid n (A k) (B k)
        · obtain ⟨x, hx⟩ : ∃ x : Nat, A k = x := ⟨(A k).toNat, by have := hv.1; omega⟩
          obtain ⟨y, hy⟩ : ∃ y : Nat, B k = y := ⟨(B k).toNat, by have := hv.2; omega⟩
          have hxn : x < n := by have := hv.1; omega
          have hyn : y < n := by have := hv.2; omega
          rw [hx] at ck1
          rw [hy] at ck2
          have hcl := cnt_le P n
          have hc := HR.out.2.2.1
          have hc0 : 0 ≤ c := by omega
          have hc1 : c ≤ 65536 := by omega
          clear hv hx hy hcl hc
          go_wp2_with (go_at_call 10; refine (zzcount_any _ _ n P c _ HR.out.1).mono ?_; rintro e w5 ⟨rfl, hw5⟩; rw [hw5]; clear hw5 w5)
          refine (zzjoin_any (w3.heap.size + 1) w3.heap.size n P c x y _ HR.out.2.1 hxn hyn HR.out.1 hc0 hc1).mono ?_
          rintro e w6 ⟨rfl, P1, c1, q1, q2, q3⟩
          have hjr := joined_roots q3 hxn hyn
          have hcc := joined_count q3 HR.out.2.2.1
          have hcl := cnt_le P1 n
          obtain ⟨⟨r, k1, k2, d1, d2⟩, hle, hge⟩ := hjr
          have hc2 : 0 ≤ c1 := by omega
          have hc3 : c1 ≤ 65536 := by omega
          obtain ⟨k3, _, d3⟩ := halve_keeps k1 k1 (Nat.le_refl _) d1 d2
          obtain ⟨k4, _, d4⟩ := halve_keeps k1 k1 (Nat.le_refl _) d1 d1
          have H6 : Hid (Pc (w3.heap.size + 1) w3.heap.size n P1 c1 w6 ∧ Fr (fun k => k = w3.heap.size ∨ k = w3.heap.size + 1) wr w6 ∧ Forest n P1 ∧ c1 = cnt P1 n ∧ Dp P1 k1 x r ∧ Dp P1 k2 y r ∧ Dp (halve P1 k1 x) k3 y r ∧ Dp (halve P1 k1 x) k4 x r) := ⟨q1, q2, q3.forest, hcc, d1, d2, d3, d4⟩
          clear q1 q2 q3 hcc hcl d1 d2 d3 d4
          go_wp2_with (go_at_call 10; refine (zzcount_any _ _ n P1 c1 _ H6.out.1).mono ?_; rintro e w7 ⟨rfl, hw7⟩; rw [hw7]; clear hw7 w7)
          refine (zzroot_any _ _ n P1 c1 k1 x r _ H6.out.2.2.1 hxn H6.out.2.2.2.2.1 H6.out.1).mono ?_
          rintro e w8 ⟨rfl, q1, q2⟩
          have H8 : Hid (Pc (w3.heap.size + 1) w3.heap.size n (halve P1 k1 x) c1 w8 ∧ Fr (fun x => x = w3.heap.size) w6 w8) := ⟨q1, q2⟩
          clear q1 q2
          go_wp2_with fail
          refine (zzroot_any _ _ n (halve P1 k1 x) c1 k3 y r _ (H6.out.2.2.1.halve H6.out.2.2.2.2.1 hxn) hyn H6.out.2.2.2.2.2.2.1 H8.out.1).mono ?_
          rintro e w9 ⟨rfl, q1, q2⟩
          have H9 : Hid (Pc (w3.heap.size + 1) w3.heap.size n (halve (halve P1 k1 x) k3 y) c1 w9 ∧ Fr (fun x => x = w3.heap.size) w8 w9) := ⟨q1, q2⟩
          clear q1 q2
          go_wp2_with fail
          refine (zzjoin_any (w3.heap.size + 1) w3.heap.size n (halve (halve P1 k1 x) k3 y) c1 y x _ ((H6.out.2.2.1.halve H6.out.2.2.2.2.1 hxn).halve H6.out.2.2.2.2.2.2.1 hyn) hyn hxn H9.out.1 hc2 hc3).mono ?_
          rintro e w10 ⟨rfl, P4, c4, q1, q2, q3⟩
          obtain ⟨k5, _, d5⟩ := halve_keeps k3 k3 (Nat.le_refl _) H6.out.2.2.2.2.2.2.1 H6.out.2.2.2.2.2.2.1
          obtain ⟨k6, _, d6⟩ := halve_keeps k3 k3 (Nat.le_refl _) H6.out.2.2.2.2.2.2.1 H6.out.2.2.2.2.2.2.2
          have e4 : c4 = c1 := joined_again q3 d5 d6
          subst e4
          have hcc : c4 = cnt P4 n := joined_count q3 (by
            rw [cnt_halve (H6.out.2.2.1.halve H6.out.2.2.2.2.1 hxn) H6.out.2.2.2.2.2.2.1, cnt_halve H6.out.2.2.1 H6.out.2.2.2.2.1]
            exact H6.out.2.2.2.1)
          have H10 : Hid (Pc (w3.heap.size + 1) w3.heap.size n P4 c4 w10 ∧ Forest n P4 ∧ c4 = cnt P4 n ∧ Below w3.heap.size w3 w10) := by
            refine ⟨q1, q3.forest, hcc, HR.out.2.2.2.trans ?_⟩
            have f1 := H6.out.2.1.trans ((H8.out.2.trans H9.out.2).mono (fun k h => .inl h))
            exact (f1.trans q2).below HR.out.2.2.2.size (fun z hz => by omega)
          clear q1 q2 q3 d5 d6 hcc
          go_wp2_with (go_at_call 10; refine (zzcount_any _ _ n P4 c4 _ H10.out.1).mono ?_; rintro e w11 ⟨rfl, hw11⟩; rw [hw11]; clear hw11 w11)
          go_roundg (gk - 1)
          case measure => omega
          case rel => exact ⟨k + 1, P4, c4, by go_num, by omega, by omega, H10⟩
        · have hv2 : A k < 0 ∨ (n : Int) ≤ A k ∨ B k < 0 ∨ (n : Int) ≤ B k := by
            unfold valid at hv
            omega
          clear hv
          rcases hv2 with h | h | h | h
          all_goals
            go_wp2
            all_goals
              go_roundg (gk - 1)
              case measure => omega
              case rel => exact ⟨k + 1, P, c, by go_num, by omega, by omega, HR⟩
      · go_wp2_with (go_at_call 15; refine (parents_any _ _ n P c _ hn HR.out.1).mono ?_; rintro e w12 ⟨rfl, q1, q2⟩; have H12 : Hid (intsAt w12 wr.heap.size n (fun i => (P i : Int)) ∧ Below wr.heap.size wr w12) := ⟨q1, q2⟩; clear q1 q2)
        refine (forest_any _ n P _ hn HR.out.2.1 H12.out.1).mono ?_
        rintro e w13 ⟨r, d, R, D, rfl, q1, q2, q3, q4, _, _⟩
        have H13 : Hid (Below w12.heap.size w12 w13) := q4
        clear q1 q2 q3 q4
        have HB : Hid (Below w3.heap.size w3 w13 ∧ intsAt w13 wr.heap.size n (fun i => (P i : Int)) ∧ Pc (w3.heap.size + 1) w3.heap.size n P c w13) := by
          have b1 := HR.out.2.2.2.size
          have b2 := H12.out.2.size
          refine ⟨(HR.out.2.2.2.trans (H12.out.2.mono b1)).trans (H13.out.mono (Nat.le_trans b1 b2)), below_row H13.out H12.out.1 H12.out.1.lt, ?_⟩
          have p := HR.out.1
          have l1 := p.hd.lt
          have l2 := p.row.lt
          exact ⟨below_row H13.out (below_row H12.out.2 p.hd l1) (by omega), below_row H13.out (below_row H12.out.2 p.row l2) (by omega), p.ne⟩
        go_wp2
        go_loopg [18, 19] n (fun gk v x wr' => ∃ i : Nat, v = .int .i64 (cnt P i : Nat) ∧ x = .int .i64 i ∧ i ≤ n ∧ n - i ≤ gk ∧ wr' = w13)
        case atStart => exact ⟨0, rfl, rfl, Nat.zero_le _, by omega, rfl⟩
        case round =>
          obtain ⟨i, rfl, rfl, hi, hgi, rfl⟩ := hrel
          have hci := cnt_le P i
          by_cases hin : i < n
          · have cp := HB.out.2.1.cell hin
            by_cases hr : P i = i
            · have hr' : (((P i : Nat) : Int) == (i : Int)) = true := by simp; omega
              have HC : Hid (cnt P (i + 1) = cnt P i + 1) := by unfold Hid; rw [cnt, if_pos hr]
              clear hr
              go_wp2
              go_roundg (gk - 1)
              case measure => omega
              case rel => exact ⟨i + 1, by rw [HC.out]; go_num, by go_num, by omega, by omega, rfl⟩
            · have hr' : (((P i : Nat) : Int) == (i : Int)) = false := by simp; omega
              have HC : Hid (cnt P (i + 1) = cnt P i) := by unfold Hid; rw [cnt, if_neg hr]; rfl
              clear hr
              go_wp2
              go_roundg (gk - 1)
              case measure => omega
              case rel => exact ⟨i + 1, by rw [HC.out], by go_num, by omega, by omega, rfl⟩
          · have hie : i = n := by omega
            subst hie
            have hcc := HR.out.2.2.1
            have hq : (c == ((cnt P i : Nat) : Int)) = true := by simp; exact hcc
            clear hcc
            go_wp2_with (go_at_call 10; refine (zzcount_any _ _ i P c _ HB.out.2.2).mono ?_; rintro e w14 ⟨rfl, hw14⟩; rw [hw14]; clear hw14 w14)
            go_ret
            exact ⟨rfl, HS.out.2.2.trans (HB.out.1.mono HS.out.2.2.size)⟩
  · go_wp2_with (go_at_call 13; refine (zznew_any n _ hn).mono ?_; rintro e w4 ⟨rfl, q1, q2⟩; have H4 : Hid (Pc (w3.heap.size + 1) w3.heap.size n (fun i => i) n w4 ∧ Below w3.heap.size w3 w4) := ⟨q1, q2⟩; clear q1 q2)
    go_loopg [9] len1 (fun gk v wr => ∃ (k : Nat) (P : Nat → Nat) (c : Int), v = .int .i64 k ∧ k ≤ len1 ∧ len1 - k ≤ gk ∧ Hid (Pc (w3.heap.size + 1) w3.heap.size n P c wr ∧ Forest n P ∧ c = cnt P n ∧ Below w3.heap.size w3 wr))
    case atStart => exact ⟨0, fun i => i, n, rfl, Nat.zero_le _, by omega, H4.out.1, Forest.ident n, by rw [cnt_id], H4.out.2⟩
    case round =>
      clear H4
      obtain ⟨k, P, c, rfl, hk, hg, HR⟩ := hrel
      by_cases hlt : k < len1
      · obtain ⟨g1, rfl, r1⟩ : ∃ g, b1 = some ⟨g, 0, none⟩ ∧ intsAt w3 g len1 A := by
          rcases HS.out.1 with h | h
          · omega
          · exact h
        obtain ⟨g2, rfl, r2⟩ : ∃ g, b2 = some ⟨g, 0, none⟩ ∧ intsAt w3 g len2 B := by
          rcases HS.out.2.1 with h | h
          · omega
          · exact h
        have ck1 := (below_row HR.out.2.2.2 r1 r1.lt).cell (i := k) (by omega)
        have ck2 := (below_row HR.out.2.2.2 r2 r2.lt).cell (i := k) (by omega)
        clear r1 r2
        by_cases hv : valid n (A k) (B k)
        · obtain ⟨x, hx⟩ : ∃ x : Nat, A k = x := ⟨(A k).toNat, by have := hv.1; omega⟩
          obtain ⟨y, hy⟩ : ∃ y : Nat, B k = y := ⟨(B k).toNat, by have := hv.2; omega⟩
          have hxn : x < n := by have := hv.1; omega
          have hyn : y < n := by have := hv.2; omega
          rw [hx] at ck1
          rw [hy] at ck2
          have hcl := cnt_le P n
          have hc := HR.out.2.2.1
          have hc0 : 0 ≤ c := by omega
          have hc1 : c ≤ 65536 := by omega
          clear hv hx hy hcl hc
          go_wp2_with (go_at_call 10; refine (zzcount_any _ _ n P c _ HR.out.1).mono ?_; rintro e w5 ⟨rfl, hw5⟩; rw [hw5]; clear hw5 w5)
          refine (zzjoin_any (w3.heap.size + 1) w3.heap.size n P c x y _ HR.out.2.1 hxn hyn HR.out.1 hc0 hc1).mono ?_
          rintro e w6 ⟨rfl, P1, c1, q1, q2, q3⟩
          have hjr := joined_roots q3 hxn hyn
          have hcc := joined_count q3 HR.out.2.2.1
          have hcl := cnt_le P1 n
          obtain ⟨⟨r, k1, k2, d1, d2⟩, hle, hge⟩ := hjr
          have hc2 : 0 ≤ c1 := by omega
          have hc3 : c1 ≤ 65536 := by omega
          obtain ⟨k3, _, d3⟩ := halve_keeps k1 k1 (Nat.le_refl _) d1 d2
          obtain ⟨k4, _, d4⟩ := halve_keeps k1 k1 (Nat.le_refl _) d1 d1
          have H6 : Hid (Pc (w3.heap.size + 1) w3.heap.size n P1 c1 w6 ∧ Fr (fun k => k = w3.heap.size ∨ k = w3.heap.size + 1) wr w6 ∧ Forest n P1 ∧ c1 = cnt P1 n ∧ Dp P1 k1 x r ∧ Dp P1 k2 y r ∧ Dp (halve P1 k1 x) k3 y r ∧ Dp (halve P1 k1 x) k4 x r) := ⟨q1, q2, q3.forest, hcc, d1, d2, d3, d4⟩
          clear q1 q2 q3 hcc hcl d1 d2 d3 d4
          go_wp2_with (go_at_call 10; refine (zzcount_any _ _ n P1 c1 _ H6.out.1).mono ?_; rintro e w7 ⟨rfl, hw7⟩; rw [hw7]; clear hw7 w7)
          refine (zzroot_any _ _ n P1 c1 k1 x r _ H6.out.2.2.1 hxn H6.out.2.2.2.2.1 H6.out.1).mono ?_
          rintro e w8 ⟨rfl, q1, q2⟩
          have H8 : Hid (Pc (w3.heap.size + 1) w3.heap.size n (halve P1 k1 x) c1 w8 ∧ Fr (fun x => x = w3.heap.size) w6 w8) := ⟨q1, q2⟩
          clear q1 q2
          go_wp2_with fail
          refine (zzroot_any _ _ n (halve P1 k1 x) c1 k3 y r _ (H6.out.2.2.1.halve H6.out.2.2.2.2.1 hxn) hyn H6.out.2.2.2.2.2.2.1 H8.out.1).mono ?_
          rintro e w9 ⟨rfl, q1, q2⟩
          have H9 : Hid (Pc (w3.heap.size + 1) w3.heap.size n (halve (halve P1 k1 x) k3 y) c1 w9 ∧ Fr (fun x => x = w3.heap.size) w8 w9) := ⟨q1, q2⟩
          clear q1 q2
          go_wp2_with fail
          refine (zzjoin_any (w3.heap.size + 1) w3.heap.size n (halve (halve P1 k1 x) k3 y) c1 y x _ ((H6.out.2.2.1.halve H6.out.2.2.2.2.1 hxn).halve H6.out.2.2.2.2.2.2.1 hyn) hyn hxn H9.out.1 hc2 hc3).mono ?_
          rintro e w10 ⟨rfl, P4, c4, q1, q2, q3⟩
          obtain ⟨k5, _, d5⟩ := halve_keeps k3 k3 (Nat.le_refl _) H6.out.2.2.2.2.2.2.1 H6.out.2.2.2.2.2.2.1
          obtain ⟨k6, _, d6⟩ := halve_keeps k3 k3 (Nat.le_refl _) H6.out.2.2.2.2.2.2.1 H6.out.2.2.2.2.2.2.2
          have e4 : c4 = c1 := joined_again q3 d5 d6
          subst e4
          have hcc : c4 = cnt P4 n := joined_count q3 (by
            rw [cnt_halve (H6.out.2.2.1.halve H6.out.2.2.2.2.1 hxn) H6.out.2.2.2.2.2.2.1, cnt_halve H6.out.2.2.1 H6.out.2.2.2.2.1]
            exact H6.out.2.2.2.1)
          have H10 : Hid (Pc (w3.heap.size + 1) w3.heap.size n P4 c4 w10 ∧ Forest n P4 ∧ c4 = cnt P4 n ∧ Below w3.heap.size w3 w10) := by
            refine ⟨q1, q3.forest, hcc, HR.out.2.2.2.trans ?_⟩
            have f1 := H6.out.2.1.trans ((H8.out.2.trans H9.out.2).mono (fun k h => .inl h))
            exact (f1.trans q2).below HR.out.2.2.2.size (fun z hz => by omega)
          clear q1 q2 q3 d5 d6 hcc
          go_wp2_with (go_at_call 10; refine (zzcount_any _ _ n P4 c4 _ H10.out.1).mono ?_; rintro e w11 ⟨rfl, hw11⟩; rw [hw11]; clear hw11 w11)
          go_roundg (gk - 1)
          case measure => omega
          case rel => exact ⟨k + 1, P4, c4, by go_num, by omega, by omega, H10⟩
        · have hv2 : A k < 0 ∨ (n : Int) ≤ A k ∨ B k < 0 ∨ (n : Int) ≤ B k := by
            unfold valid at hv
            omega
          clear hv
          rcases hv2 with h | h | h | h
          all_goals
            go_wp2
            all_goals
              go_roundg (gk - 1)
              case measure => omega
              case rel => exact ⟨k + 1, P, c, by go_num, by omega, by omega, HR⟩
      · go_wp2_with (go_at_call 15; refine (parents_any _ _ n P c _ hn HR.out.1).mono ?_; rintro e w12 ⟨rfl, q1, q2⟩; have H12 : Hid (intsAt w12 wr.heap.size n (fun i => (P i : Int)) ∧ Below wr.heap.size wr w12) := ⟨q1, q2⟩; clear q1 q2)
        refine (forest_any _ n P _ hn HR.out.2.1 H12.out.1).mono ?_
        rintro e w13 ⟨r, d, R, D, rfl, q1, q2, q3, q4, _, _⟩
        have H13 : Hid (Below w12.heap.size w12 w13) := q4
        clear q1 q2 q3 q4
        have HB : Hid (Below w3.heap.size w3 w13 ∧ intsAt w13 wr.heap.size n (fun i => (P i : Int)) ∧ Pc (w3.heap.size + 1) w3.heap.size n P c w13) := by
          have b1 := HR.out.2.2.2.size
          have b2 := H12.out.2.size
          refine ⟨(HR.out.2.2.2.trans (H12.out.2.mono b1)).trans (H13.out.mono (Nat.le_trans b1 b2)), below_row H13.out H12.out.1 H12.out.1.lt, ?_⟩
          have p := HR.out.1
          have l1 := p.hd.lt
          have l2 := p.row.lt
          exact ⟨below_row H13.out (below_row H12.out.2 p.hd l1) (by omega), below_row H13.out (below_row H12.out.2 p.row l2) (by omega), p.ne⟩
        go_wp2
        go_loopg [18, 19] n (fun gk v x wr' => ∃ i : Nat, v = .int .i64 (cnt P i : Nat) ∧ x = .int .i64 i ∧ i ≤ n ∧ n - i ≤ gk ∧ wr' = w13)
        case atStart => exact ⟨0, rfl, rfl, Nat.zero_le _, by omega, rfl⟩
        case round =>
          obtain ⟨i, rfl, rfl, hi, hgi, rfl⟩ := hrel
          have hci := cnt_le P i
          by_cases hin : i < n
          · have cp := HB.out.2.1.cell hin
            by_cases hr : P i = i
            · have hr' : (((P i : Nat) : Int) == (i : Int)) = true := by simp; omega
              have HC : Hid (cnt P (i + 1) = cnt P i + 1) := by unfold Hid; rw [cnt, if_pos hr]
              clear hr
              go_wp2
              go_roundg (gk - 1)
              case measure => omega
              case rel => exact ⟨i + 1, by rw [HC.out]; go_num, by go_num, by omega, by omega, rfl⟩
            · have hr' : (((P i : Nat) : Int) == (i : Int)) = false := by simp; omega
              have HC : Hid (cnt P (i + 1) = cnt P i) := by unfold Hid; rw [cnt, if_neg hr]; rfl
              clear hr
              go_wp2
              go_roundg (gk - 1)
              case measure => omega
              case rel => exact ⟨i + 1, by rw [HC.out], by go_num, by omega, by omega, rfl⟩
          · have hie : i = n := by omega
            subst hie
            have hcc := HR.out.2.2.1
            have hq : (c == ((cnt P i : Nat) : Int)) = true := by simp; exact hcc
            clear hcc
            go_wp2_with (go_at_call 10; refine (zzcount_any _ _ i P c _ HB.out.2.2).mono ?_; rintro e w14 ⟨rfl, hw14⟩; rw [hw14]; clear hw14 w14)
            go_ret
            exact ⟨rfl, HS.out.2.2.trans (HB.out.1.mono HS.out.2.2.size)⟩
end Go.Proofs.Qxb6600947a
