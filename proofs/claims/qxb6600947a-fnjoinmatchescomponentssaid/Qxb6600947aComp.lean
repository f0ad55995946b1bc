/-
  Seat b6600947a: the walk of FnJoinMatchesComponents, inside its bounds.
-/
import Derived.Test.Qxb6600947aLabel
namespace Go.Proofs.Qxb6600947a
open Go.RowKit

def updI (f : Nat → Int) (i x : Nat) : Nat → Int := fun j => if j = i then (x : Int) else f j
theorem ints_updI {w : World} {g n : Nat} {f : Nat → Int} (h : intsAt w g n f) (i x : Nat) : intsAt (w.setCell ⟨g, i, none⟩ (.int .i64 (x : Int))) g n (updI f i x) :=
  (h.set i _).congr (fun j _ => by show (if j = i then _ else _) = Value.int .i64 (if j = i then (x : Int) else f j); split <;> rfl)
theorem fill_minus {w : World} {g n : Nat} {i : Nat} (h : intsAt w g n (fun v => if v < i then (-1 : Int) else 0)) (k : Nat) (hk : k = i := by rfl) : intsAt (w.setCell ⟨g, k, none⟩ (.int .i64 (-1))) g n (fun v => if v < k + 1 then (-1 : Int) else 0) := by
  subst hk
  refine (h.set k _).congr (fun v hv => ?_)
  show (if v = k then _ else _) = Value.int .i64 (if v < k + 1 then (-1 : Int) else 0)
  by_cases e : v = k
  · subst e; rw [if_pos rfl, if_pos (by omega)]
  · rw [if_neg e]
    show Value.int .i64 (if v < k then (-1 : Int) else 0) = _
    by_cases e2 : v < k
    · rw [if_pos e2, if_pos (by omega)]
    · rw [if_neg e2, if_neg (by omega)]
theorem pc_out {b g n : Nat} {P : Nat → Nat} {c : Int} {w : World} {q i : Nat} (h : Pc b g n P c w) (hg : g ≠ q) (hb : b ≠ q) (v : Value) : Pc b g n P c (w.setCell ⟨q, i, none⟩ v) := ⟨h.hd.setOther hb _, h.row.setOther hg _, h.ne⟩
theorem inv1 {n comps i l r : Nat} {P lab : Nat → Nat} {RL : Nat → Int} (h : ∀ l, l < comps → RL l = -1 ∨ ∃ x, x < n ∧ lab x = l ∧ RL l = ((rtf P n x : Nat) : Int)) (hi : i < n) (hl : l = lab i) (hr : rtf P n i = r) :
    ∀ q, q < comps → updI RL l r q = -1 ∨ ∃ x, x < n ∧ lab x = q ∧ updI RL l r q = ((rtf P n x : Nat) : Int) := fun q hq => by
  unfold updI
  by_cases e : q = l
  · exact .inr ⟨i, hi, by rw [e, hl], by rw [if_pos e, hr]⟩
  · rw [if_neg e]; exact h q hq
theorem inv2 {n i l r : Nat} {P lab : Nat → Nat} {LR : Nat → Int} (h : ∀ r, r < n → LR r = -1 ∨ ∃ x, x < n ∧ rtf P n x = r ∧ LR r = ((lab x : Nat) : Int)) (hi : i < n) (hl : l = lab i) (hr : rtf P n i = r) :
    ∀ q, q < n → updI LR r l q = -1 ∨ ∃ x, x < n ∧ rtf P n x = q ∧ updI LR r l q = ((lab x : Nat) : Int) := fun q hq => by
  unfold updI
  by_cases e : q = r
  · exact .inr ⟨i, hi, by rw [e, hr], by rw [if_pos e, hl]⟩
  · rw [if_neg e]; exact h q hq

theorem comp_bytes_yes (n : Int) (a1 a2 : Option Addr) (len1 cap1 len2 cap2 : Nat) (w : World) (h : len1 + len2 ≤ 1048576) :
    Calls Try.prog 6 #[.int .i64 n, .slice a1 len1 cap1, .slice a2 len2 cap2] w fun e w' => e = .returned (.bool true) ∧ w' = w := by
  go_enter Try.func6, Try.ntmps6
  go_wp2
  go_ret
  exact ⟨rfl, rfl⟩

set_option maxRecDepth 100000 in
set_option maxHeartbeats 8000000 in
theorem comp_core (n : Nat) (a1 a2 : Option Addr) (len1 cap1 len2 cap2 : Nat) (A B : Nat → Int) (w : World) (hn : n ≤ 65536) (h1 : ArgS w a1 len1 cap1 A) (h2 : ArgS w a2 len2 cap2 B) (hl : 8 * len1 + 8 * len2 ≤ 1048576) (hl1 : len1 ≤ 65536) (hl2 : len2 ≤ 65536) :
    Calls Try.prog 3 #[.int .i64 n, .slice a1 len1 cap1, .slice a2 len2 cap2] w fun e w' => e = .returned (.bool true) ∧ Below w.heap.size w w' := by
  have HA : Hid (ArgS w a1 len1 cap1 A ∧ ArgS w a2 len2 cap2 B) := ⟨h1, h2⟩
  clear h1 h2
  go_enter Try.func3, Try.ntmps3
  go_wp2_with (go_at_call 6; refine (comp_bytes_yes n a1 a2 len1 cap1 len2 cap2 _ (by omega)).mono ?_; rintro e w' ⟨rfl, rfl⟩)
  refine (copy_arg a1 len1 cap1 A _ hl1 HA.out.1).mono ?_
  rintro e w2 ⟨b1, rfl, q1, q2⟩
  have H2 : Hid (Sl w2 b1 len1 A ∧ Below w'.heap.size w' w2) := ⟨q1, q2⟩
  clear q1 q2
  go_wp2_with fail
  refine (copy_arg a2 len2 cap2 B _ hl2 (HA.out.2.below H2.out.2)).mono ?_
  rintro e w3 ⟨b2, rfl, q1, q2⟩
  have HS : Hid (Sl w3 b1 len1 A ∧ Sl w3 b2 len2 B ∧ Below w'.heap.size w' w3) := ⟨H2.out.1.below q2 (Nat.le_refl _), q1, H2.out.2.trans (q2.mono H2.out.2.size)⟩
  clear q1 q2 H2 HA
  by_cases hmn : len2 < len1
  · go_wp2_with (go_at_call 8; refine (build_any n b1 b2 len1 len2 len1 len2 A B len2 _ hn HS.out.1 HS.out.2.1 (by omega) (by omega) hl1).mono ?_; rintro e w4 ⟨rfl, P, c, q1, q2, q3⟩; have H4 : Hid (Pc (w3.heap.size + 1) w3.heap.size n P c w4 ∧ Built n A B len2 P c ∧ Below w3.heap.size w3 w4) := ⟨q1, q2, q3⟩; clear q1 q2 q3)
    refine (comp_any n b1 b2 len1 len2 len1 len2 A B len2 _ hn (HS.out.1.below H4.out.2.2 (Nat.le_refl _)) (HS.out.2.1.below H4.out.2.2 (Nat.le_refl _)) (by omega) (by omega) hl1).mono ?_
    rintro e w5 ⟨gl, lab, comps, rfl, q1, q2, q3, q4⟩
    have hF := Built.facts H4.out.2.1
    have hce : cnt P n = comps := count_eq H4.out.2.1 q2
    have hcl := cnt_le P n
    have hcn : comps ≤ n := by omega
    have hcc : c = (comps : Int) := by rw [hF.2, hce]
    have p1 := H4.out.1.hd.lt
    have p2 := H4.out.1.row.lt
    have z1 := H4.out.2.2.size
    have z2 := q3.size
    have H5 : Hid (intsAt w5 gl n (fun i => (lab i : Int)) ∧ Labels n A B len2 lab comps ∧ Below w3.heap.size w3 w5 ∧ Pc (w3.heap.size + 1) w3.heap.size n P c w5 ∧ Forest n P) :=
      ⟨q1, q2, H4.out.2.2.trans (q3.mono z1), ⟨below_row q3 H4.out.1.hd p1, below_row q3 H4.out.1.row p2, H4.out.1.ne⟩, hF.1⟩
    have z3 := q1.lt
    have hq : (c != (comps : Int)) = false := by simp; exact hcc
    clear q1 q2 q3 hF hce hcl hcc
    have hmkn := run_make_row' (P := Try.prog) 22 3 (.int .i64 0) 8 Try.underlying22 Try.info3 rfl .i64 .i64 n (by omega) (by omega)
    have hmkc := run_make_row' (P := Try.prog) 22 3 (.int .i64 0) 8 Try.underlying22 Try.info3 rfl .i64 .i64 comps (by omega) (by omega)
    go_wp2_with (go_at_call 10; refine (zzcount_any _ _ n P c _ H5.out.2.2.2.1).mono ?_; rintro e wc ⟨rfl, hwc⟩; rw [hwc]; clear hwc wc)
    go_loopg [12] comps (fun gk v wr => ∃ i : Nat, v = .int .i64 i ∧ i ≤ comps ∧ comps - i ≤ gk ∧ Hid (intsAt wr w5.heap.size comps (fun v => if v < i then (-1 : Int) else 0) ∧ Below w5.heap.size w5 wr))
    case atStart => exact ⟨0, rfl, Nat.zero_le _, by omega, ((World.rowIs_made w5 (.int .i64 0) comps 3).congr (fun _ _ => rfl)), (Below.refl _ _).alloc (Nat.le_refl _) _⟩
    case round =>
      obtain ⟨i, rfl, hic, hg, HQ⟩ := hrel
      by_cases hlt : i < comps
      · have cp := HQ.out.1.cell hlt
        have fp := HQ.out.1.frozen i
        go_wp2
        go_roundg (gk - 1)
        case measure => omega
        case rel => exact ⟨i + 1, by go_num, by omega, by omega, fill_minus HQ.out.1 i, HQ.out.2.setCell (Nat.le_refl _) _⟩
      · have H6 : Hid (intsAt wr w5.heap.size comps (fun _ => (-1 : Int)) ∧ Below w5.heap.size w5 wr) := ⟨HQ.out.1.congr (fun v hv => by show Value.int .i64 (if v < i then (-1 : Int) else 0) = _; rw [if_pos (by omega)]), HQ.out.2⟩
        have z6 := H6.out.1.lt
        clear HQ
        obtain ⟨w6, hw6⟩ : ∃ q, q = wr := ⟨_, rfl⟩
        rw [← hw6] at H6 z6 ⊢
        clear hw6
        go_wp2
        go_loopg [14] n (fun gk v wr => ∃ i : Nat, v = .int .i64 i ∧ i ≤ n ∧ n - i ≤ gk ∧ Hid (intsAt wr w6.heap.size n (fun v => if v < i then (-1 : Int) else 0) ∧ Below w6.heap.size w6 wr))
        case atStart => exact ⟨0, rfl, Nat.zero_le _, by omega, ((World.rowIs_made w6 (.int .i64 0) n 3).congr (fun _ _ => rfl)), (Below.refl _ _).alloc (Nat.le_refl _) _⟩
        case round =>
          obtain ⟨j, rfl, hjn, hg2, HQ⟩ := hrel
          by_cases hlt2 : j < n
          · have cp := HQ.out.1.cell hlt2
            have fp := HQ.out.1.frozen j
            go_wp2
            go_roundg (gk - 1)
            case measure => omega
            case rel => exact ⟨j + 1, by go_num, by omega, by omega, fill_minus HQ.out.1 j, HQ.out.2.setCell (Nat.le_refl _) _⟩
          · have H7 : Hid (intsAt wr w6.heap.size n (fun _ => (-1 : Int)) ∧ intsAt wr w5.heap.size comps (fun _ => (-1 : Int)) ∧ intsAt wr gl n (fun i => (lab i : Int)) ∧ Pc (w3.heap.size + 1) w3.heap.size n P c wr ∧ Below w3.heap.size w3 wr) := by
              have b6 := H6.out.2
              have b7 := HQ.out.2
              have p := H5.out.2.2.2.1
              have l1 := p.hd.lt
              have l2 := p.row.lt
              have s6 := b6.size
              exact ⟨HQ.out.1.congr (fun v hv => by show Value.int .i64 (if v < j then (-1 : Int) else 0) = _; rw [if_pos (by omega)]), below_row b7 H6.out.1 z6, below_row b7 (below_row b6 H5.out.1 z3) (by omega),
                ⟨below_row b7 (below_row b6 p.hd l1) (by omega), below_row b7 (below_row b6 p.row l2) (by omega), p.ne⟩, (H5.out.2.2.1.trans (b6.mono (by have := H5.out.2.2.1.size; omega))).trans (b7.mono (by have := H5.out.2.2.1.size; omega))⟩
            clear HQ hmkn hmkc
            have z7 := H7.out.1.lt
            have s6 := H6.out.2.size
            have s5 := H5.out.2.2.1.size
            go_wp2
            go_loopg [15] n (fun gk v wr => ∃ (i : Nat) (Q : Nat → Nat) (RL LR : Nat → Int), v = .int .i64 i ∧ i ≤ n ∧ n - i ≤ gk ∧ Hid (Pc (w3.heap.size + 1) w3.heap.size n Q c wr ∧ Forest n Q ∧ Same n P Q ∧ intsAt wr gl n (fun i => (lab i : Int)) ∧ intsAt wr w5.heap.size comps RL ∧ intsAt wr w6.heap.size n LR ∧ Below w3.heap.size w3 wr ∧
                (∀ l, l < comps → RL l = -1 ∨ ∃ x, x < n ∧ lab x = l ∧ RL l = ((rtf P n x : Nat) : Int)) ∧ (∀ r, r < n → LR r = -1 ∨ ∃ x, x < n ∧ rtf P n x = r ∧ LR r = ((lab x : Nat) : Int))))
            case atStart => exact ⟨0, P, _, _, rfl, Nat.zero_le _, by omega, H7.out.2.2.2.1, H5.out.2.2.2.2, Same.refl n P, H7.out.2.2.1, H7.out.2.1, H7.out.1, H7.out.2.2.2.2, fun l _ => .inl rfl, fun r _ => .inl rfl⟩
            case round =>
              clear H7
              obtain ⟨i, Q, RL, LR, rfl, hin, hg3, HR⟩ := hrel
              obtain ⟨hPc, hQF, hSm, hlab, hRL, hLR, hbel, hI1, hI2⟩ := HR.out
              by_cases hlt3 : i < n
              · obtain ⟨kP, r, hdP⟩ := H5.out.2.2.2.2.ends i hlt3
                obtain ⟨kQ, hdQ⟩ := hSm i hlt3 kP r hdP
                have hrn : r < n := Dp.lt H5.out.2.2.2.2.lt hdP hlt3
                have hrt : rtf P n i = r := rt_of H5.out.2.2.2.2 hlt3 hdP
                have hdr : Dp (halve Q kQ i) 0 r r := ⟨(Same.root_iff hQF (Same.halve (n := n) hdQ) hrn).2 (Dp.root hdQ), rfl⟩
                have hllt := H5.out.2.1.lt i hlt3
                have hl1' := hI1 (lab i) hllt
                have hl2' := hI2 r hrn
                have HC : Hid (Pc (w3.heap.size + 1) w3.heap.size n Q c wr ∧ Forest n Q ∧ Dp Q kQ i r ∧ Dp (halve Q kQ i) 0 r r ∧ rtf P n i = r ∧ Same n P Q) := ⟨hPc, hQF, hdQ, hdr, hrt, hSm⟩
                have HL1 : Hid (RL (lab i) = -1 ∨ RL (lab i) = (r : Int)) := by
                  rcases hl1' with h | ⟨x, hx, hx2, hx3⟩
                  · exact .inl h
                  · exact .inr (by rw [hx3, rt_label H4.out.2.1 H5.out.2.1 hx hlt3 hx2, hrt])
                have HL2 : Hid (LR r = -1 ∨ LR r = ((lab i : Nat) : Int)) := by
                  rcases hl2' with h | ⟨x, hx, hx2, hx3⟩
                  · exact .inl h
                  · exact .inr (by rw [hx3, label_rt H4.out.2.1 H5.out.2.1 hx hlt3 (by rw [hx2, hrt])])
                clear hPc hQF hSm hlab hRL hLR hbel hI1 hI2 hdP hdQ hrt hdr hl1' hl2'
                go_wp2_with fail
                refine (zzroot_any _ _ n Q c kQ i r _ HC.out.2.1 hlt3 HC.out.2.2.1 HC.out.1).mono ?_
                rintro e w8 ⟨rfl, q1, q2⟩
                have H8 : Hid (Pc (w3.heap.size + 1) w3.heap.size n (halve Q kQ i) c w8 ∧ Fr (fun x => x = w3.heap.size) wr w8) := ⟨q1, q2⟩
                clear q1 q2
                go_wp2_with fail
                refine (zzroot_any _ _ n (halve Q kQ i) c 0 r r _ (HC.out.2.1.halve HC.out.2.2.1 hlt3) hrn HC.out.2.2.2.1 H8.out.1).mono ?_
                rintro e w9 ⟨rfl, q1, q2⟩
                have H9 : Hid (Pc (w3.heap.size + 1) w3.heap.size n (halve Q kQ i) c w9 ∧ Forest n (halve Q kQ i) ∧ Same n P (halve Q kQ i) ∧ intsAt w9 gl n (fun i => (lab i : Int)) ∧ intsAt w9 w5.heap.size comps RL ∧ intsAt w9 w6.heap.size n LR ∧ Below w3.heap.size w3 w9) := by
                  obtain ⟨hPc, hQF, hSm, hlab, hRL, hLR, hbel, hI1, hI2⟩ := HR.out
                  have f := H8.out.2.trans q2
                  exact ⟨q1, HC.out.2.1.halve HC.out.2.2.1 hlt3, HC.out.2.2.2.2.2.trans (Same.halve HC.out.2.2.1), f.row hlab (fun (e : gl = w3.heap.size) => by omega), f.row hRL (fun (e : w5.heap.size = w3.heap.size) => by omega), f.row hLR (fun (e : w6.heap.size = w3.heap.size) => by omega), hbel.trans (f.below hbel.size (fun z (hz : z = w3.heap.size) => by omega))⟩
                have hrr : ((r : Int) != (r : Int)) = false := by simp
                have cl : w9.cell? ⟨gl, i, none⟩ = some (.int .i64 ((lab i : Nat) : Int)) := H9.out.2.2.2.1.cell hlt3
                obtain ⟨l, hl⟩ : ∃ l, l = lab i := ⟨_, rfl⟩
                have HLL : Hid (l = lab i) := hl
                rw [← hl] at cl hllt
                have HL1b : Hid (RL l = -1 ∨ RL l = (r : Int)) := by rw [hl]; exact HL1
                have HL2b : Hid (LR r = -1 ∨ LR r = (l : Int)) := by rw [hl]; exact HL2
                have c5 : w9.cell? ⟨w5.heap.size, l, none⟩ = some (.int .i64 (RL l)) := H9.out.2.2.2.2.1.cell hllt
                have f5 := H9.out.2.2.2.2.1.frozen l
                have c6 : w9.cell? ⟨w6.heap.size, r, none⟩ = some (.int .i64 (LR r)) := H9.out.2.2.2.2.2.1.cell hrn
                have f6 := H9.out.2.2.2.2.2.1.frozen r
                have n1 : w5.heap.size ≠ w6.heap.size := by omega
                have n2 : gl ≠ w5.heap.size := by omega
                have n3 : gl ≠ w6.heap.size := by omega
                have n4 : w3.heap.size ≠ w5.heap.size := by omega
                have n5 : w3.heap.size + 1 ≠ w5.heap.size := by omega
                have n6 : w3.heap.size ≠ w6.heap.size := by omega
                have n7 : w3.heap.size + 1 ≠ w6.heap.size := by omega
                have HIv : Hid ((∀ l, l < comps → RL l = -1 ∨ ∃ x, x < n ∧ lab x = l ∧ RL l = ((rtf P n x : Nat) : Int)) ∧ (∀ r, r < n → LR r = -1 ∨ ∃ x, x < n ∧ rtf P n x = r ∧ LR r = ((lab x : Nat) : Int)) ∧ rtf P n i = r) := by
                  obtain ⟨hPc, hQF, hSm, hlab, hRL, hLR, hbel, hI1, hI2⟩ := HR.out
                  exact ⟨hI1, hI2, HC.out.2.2.2.2.1⟩
                clear q1 q2 hl HL1 HL2 HC H8 HR
                rcases HL1b.out with h1 | h1
                · rw [h1] at c5
                  have t1 : ((-1 : Int) == -1) = true := by decide
                  rcases HL2b.out with h2 | h2
                  · rw [h2] at c6
                    clear HL1b HL2b h1 h2
                    go_wp2
                    go_roundg (gk - 1)
                    case measure => omega
                    case rel =>
                      obtain ⟨g1, g2, g3, g4, g5, g6, g7⟩ := H9.out
                      exact ⟨i + 1, halve Q kQ i, updI RL l r, updI LR r l, by go_num, by omega, by omega, (pc_out (pc_out g1 n4 n5 _) n6 n7 _), g2, g3, (g4.setOther n2 _).setOther n3 _, (ints_updI g5 l r).setOther n1 _, ints_updI (g6.setOther (fun e => n1 e.symm) _) r l, (g7.setCell (by simp; omega) _).setCell (by simp; omega) _, inv1 HIv.out.1 hlt3 HLL.out HIv.out.2.2, inv2 HIv.out.2.1 hlt3 HLL.out HIv.out.2.2⟩
                  · rw [h2] at c6
                    have t2 : ((l : Int) == -1) = false := by simp
                    have t3 : ((l : Int) != (l : Int)) = false := by simp
                    clear HL1b HL2b h1 h2
                    go_wp2
                    go_roundg (gk - 1)
                    case measure => omega
                    case rel =>
                      obtain ⟨g1, g2, g3, g4, g5, g6, g7⟩ := H9.out
                      exact ⟨i + 1, halve Q kQ i, updI RL l r, LR, by go_num, by omega, by omega, pc_out g1 n4 n5 _, g2, g3, g4.setOther n2 _, ints_updI g5 l r, g6.setOther (fun e => n1 e.symm) _, g7.setCell (by simp; omega) _, inv1 HIv.out.1 hlt3 HLL.out HIv.out.2.2, HIv.out.2.1⟩
                · rw [h1] at c5
                  have t1 : ((r : Int) == -1) = false := by simp
                  rcases HL2b.out with h2 | h2
                  · rw [h2] at c6
                    have t2 : ((-1 : Int) == -1) = true := by decide
                    clear HL1b HL2b h1 h2
                    go_wp2
                    go_roundg (gk - 1)
                    case measure => omega
                    case rel =>
                      obtain ⟨g1, g2, g3, g4, g5, g6, g7⟩ := H9.out
                      exact ⟨i + 1, halve Q kQ i, RL, updI LR r l, by go_num, by omega, by omega, pc_out g1 n6 n7 _, g2, g3, g4.setOther n3 _, g5.setOther n1 _, ints_updI g6 r l, g7.setCell (by simp; omega) _, HIv.out.1, inv2 HIv.out.2.1 hlt3 HLL.out HIv.out.2.2⟩
                  · rw [h2] at c6
                    have t2 : ((l : Int) == -1) = false := by simp
                    have t3 : ((l : Int) != (l : Int)) = false := by simp
                    clear HL1b HL2b h1 h2
                    go_wp2
                    go_roundg (gk - 1)
                    case measure => omega
                    case rel =>
                      obtain ⟨g1, g2, g3, g4, g5, g6, g7⟩ := H9.out
                      exact ⟨i + 1, halve Q kQ i, RL, LR, by go_num, by omega, by omega, g1, g2, g3, g4, g5, g6, g7, HIv.out.1, HIv.out.2.1⟩
              · have HB : Hid (Below w3.heap.size w3 wr) := hbel
                clear hPc hQF hSm hlab hRL hLR hbel hI1 hI2
                go_wp2
                go_ret
                exact ⟨rfl, HS.out.2.2.trans (HB.out.mono HS.out.2.2.size)⟩
  · go_wp2_with (go_at_call 8; refine (build_any n b1 b2 len1 len2 len1 len2 A B len1 _ hn HS.out.1 HS.out.2.1 (by omega) (by omega) hl1).mono ?_; rintro e w4 ⟨rfl, P, c, q1, q2, q3⟩; have H4 : Hid (Pc (w3.heap.size + 1) w3.heap.size n P c w4 ∧ Built n A B len1 P c ∧ Below w3.heap.size w3 w4) := ⟨q1, q2, q3⟩; clear q1 q2 q3)
    refine (comp_any n b1 b2 len1 len2 len1 len2 A B len1 _ hn (HS.out.1.below H4.out.2.2 (Nat.le_refl _)) (HS.out.2.1.below H4.out.2.2 (Nat.le_refl _)) (by omega) (by omega) hl1).mono ?_
    rintro e w5 ⟨gl, lab, comps, rfl, q1, q2, q3, q4⟩
    have hF := Built.facts H4.out.2.1
    have hce : cnt P n = comps := count_eq H4.out.2.1 q2
    have hcl := cnt_le P n
    have hcn : comps ≤ n := by omega
    have hcc : c = (comps : Int) := by rw [hF.2, hce]
    have p1 := H4.out.1.hd.lt
    have p2 := H4.out.1.row.lt
    have z1 := H4.out.2.2.size
    have z2 := q3.size
    have H5 : Hid (intsAt w5 gl n (fun i => (lab i : Int)) ∧ Labels n A B len1 lab comps ∧ Below w3.heap.size w3 w5 ∧ Pc (w3.heap.size + 1) w3.heap.size n P c w5 ∧ Forest n P) :=
      ⟨q1, q2, H4.out.2.2.trans (q3.mono z1), ⟨below_row q3 H4.out.1.hd p1, below_row q3 H4.out.1.row p2, H4.out.1.ne⟩, hF.1⟩
    have z3 := q1.lt
    have hq : (c != (comps : Int)) = false := by simp; exact hcc
    clear q1 q2 q3 hF hce hcl hcc
    have hmkn := run_make_row' (P := Try.prog) 22 3 (.int .i64 0) 8 Try.underlying22 Try.info3 rfl .i64 .i64 n (by omega) (by omega)
    have hmkc := run_make_row' (P := Try.prog) 22 3 (.int .i64 0) 8 Try.underlying22 Try.info3 rfl .i64 .i64 comps (by omega) (by omega)
    go_wp2_with (go_at_call 10; refine (zzcount_any _ _ n P c _ H5.out.2.2.2.1).mono ?_; rintro e wc ⟨rfl, hwc⟩; rw [hwc]; clear hwc wc)
    go_loopg [12] comps (fun gk v wr => ∃ i : Nat, v = .int .i64 i ∧ i ≤ comps ∧ comps - i ≤ gk ∧ Hid (intsAt wr w5.heap.size comps (fun v => if v < i then (-1 : Int) else 0) ∧ Below w5.heap.size w5 wr))
    case atStart => exact ⟨0, rfl, Nat.zero_le _, by omega, ((World.rowIs_made w5 (.int .i64 0) comps 3).congr (fun _ _ => rfl)), (Below.refl _ _).alloc (Nat.le_refl _) _⟩
    case round =>
      obtain ⟨i, rfl, hic, hg, HQ⟩ := hrel
      by_cases hlt : i < comps
      · have cp := HQ.out.1.cell hlt
        have fp := HQ.out.1.frozen i
        go_wp2
        go_roundg (gk - 1)
        case measure => omega
        case rel => exact ⟨i + 1, by go_num, by omega, by omega, fill_minus HQ.out.1 i, HQ.out.2.setCell (Nat.le_refl _) _⟩
      · have H6 : Hid (intsAt wr w5.heap.size comps (fun _ => (-1 : Int)) ∧ Below w5.heap.size w5 wr) := ⟨HQ.out.1.congr (fun v hv => by show Value.int .i64 (if v < i then (-1 : Int) else 0) = _; rw [if_pos (by omega)]), HQ.out.2⟩
        have z6 := H6.out.1.lt
        clear HQ
        obtain ⟨w6, hw6⟩ : ∃ q, q = wr := ⟨_, rfl⟩
        rw [← hw6] at H6 z6 ⊢
        clear hw6
        go_wp2
        go_loopg [14] n (fun gk v wr => ∃ i : Nat, v = .int .i64 i ∧ i ≤ n ∧ n - i ≤ gk ∧ Hid (intsAt wr w6.heap.size n (fun v => if v < i then (-1 : Int) else 0) ∧ Below w6.heap.size w6 wr))
        case atStart => exact ⟨0, rfl, Nat.zero_le _, by omega, ((World.rowIs_made w6 (.int .i64 0) n 3).congr (fun _ _ => rfl)), (Below.refl _ _).alloc (Nat.le_refl _) _⟩
        case round =>
          obtain ⟨j, rfl, hjn, hg2, HQ⟩ := hrel
          by_cases hlt2 : j < n
          · have cp := HQ.out.1.cell hlt2
            have fp := HQ.out.1.frozen j
            go_wp2
            go_roundg (gk - 1)
            case measure => omega
            case rel => exact ⟨j + 1, by go_num, by omega, by omega, fill_minus HQ.out.1 j, HQ.out.2.setCell (Nat.le_refl _) _⟩
          · have H7 : Hid (intsAt wr w6.heap.size n (fun _ => (-1 : Int)) ∧ intsAt wr w5.heap.size comps (fun _ => (-1 : Int)) ∧ intsAt wr gl n (fun i => (lab i : Int)) ∧ Pc (w3.heap.size + 1) w3.heap.size n P c wr ∧ Below w3.heap.size w3 wr) := by
              have b6 := H6.out.2
              have b7 := HQ.out.2
              have p := H5.out.2.2.2.1
              have l1 := p.hd.lt
              have l2 := p.row.lt
              have s6 := b6.size
              exact ⟨HQ.out.1.congr (fun v hv => by show Value.int .i64 (if v < j then (-1 : Int) else 0) = _; rw [if_pos (by omega)]), below_row b7 H6.out.1 z6, below_row b7 (below_row b6 H5.out.1 z3) (by omega),
                ⟨below_row b7 (below_row b6 p.hd l1) (by omega), below_row b7 (below_row b6 p.row l2) (by omega), p.ne⟩, (H5.out.2.2.1.trans (b6.mono (by have := H5.out.2.2.1.size; omega))).trans (b7.mono (by have := H5.out.2.2.1.size; omega))⟩
            clear HQ hmkn hmkc
            have z7 := H7.out.1.lt
            have s6 := H6.out.2.size
            have s5 := H5.out.2.2.1.size
            go_wp2
            go_loopg [15] n (fun gk v wr => ∃ (i : Nat) (Q : Nat → Nat) (RL LR : Nat → Int), v = .int .i64 i ∧ i ≤ n ∧ n - i ≤ gk ∧ Hid (Pc (w3.heap.size + 1) w3.heap.size n Q c wr ∧ Forest n Q ∧ Same n P Q ∧ intsAt wr gl n (fun i => (lab i : Int)) ∧ intsAt wr w5.heap.size comps RL ∧ intsAt wr w6.heap.size n LR ∧ Below w3.heap.size w3 wr ∧
                (∀ l, l < comps → RL l = -1 ∨ ∃ x, x < n ∧ lab x = l ∧ RL l = ((rtf P n x : Nat) : Int)) ∧ (∀ r, r < n → LR r = -1 ∨ ∃ x, x < n ∧ rtf P n x = r ∧ LR r = ((lab x : Nat) : Int))))
            case atStart => exact ⟨0, P, _, _, rfl, Nat.zero_le _, by omega, H7.out.2.2.2.1, H5.out.2.2.2.2, Same.refl n P, H7.out.2.2.1, H7.out.2.1, H7.out.1, H7.out.2.2.2.2, fun l _ => .inl rfl, fun r _ => .inl rfl⟩
            case round =>
              clear H7
              obtain ⟨i, Q, RL, LR, rfl, hin, hg3, HR⟩ := hrel
              obtain ⟨hPc, hQF, hSm, hlab, hRL, hLR, hbel, hI1, hI2⟩ := HR.out
              by_cases hlt3 : i < n
              · obtain ⟨kP, r, hdP⟩ := H5.out.2.2.2.2.ends i hlt3
                obtain ⟨kQ, hdQ⟩ := hSm i hlt3 kP r hdP
                have hrn : r < n := Dp.lt H5.out.2.2.2.2.lt hdP hlt3
                have hrt : rtf P n i = r := rt_of H5.out.2.2.2.2 hlt3 hdP
                have hdr : Dp (halve Q kQ i) 0 r r := ⟨(Same.root_iff hQF (Same.halve (n := n) hdQ) hrn).2 (Dp.root hdQ), rfl⟩
                have hllt := H5.out.2.1.lt i hlt3
                have hl1' := hI1 (lab i) hllt
                have hl2' := hI2 r hrn
                have HC : Hid (Pc (w3.heap.size + 1) w3.heap.size n Q c wr ∧ Forest n Q ∧ Dp Q kQ i r ∧ Dp (halve Q kQ i) 0 r r ∧ rtf P n i = r ∧ Same n P Q) := ⟨hPc, hQF, hdQ, hdr, hrt, hSm⟩
                have HL1 : Hid (RL (lab i) = -1 ∨ RL (lab i) = (r : Int)) := by
                  rcases hl1' with h | ⟨x, hx, hx2, hx3⟩
                  · exact .inl h
                  · exact .inr (by rw [hx3, rt_label H4.out.2.1 H5.out.2.1 hx hlt3 hx2, hrt])
                have HL2 : Hid (LR r = -1 ∨ LR r = ((lab i : Nat) : Int)) := by
                  rcases hl2' with h | ⟨x, hx, hx2, hx3⟩
                  · exact .inl h
                  · exact .inr (by rw [hx3, label_rt H4.out.2.1 H5.out.2.1 hx hlt3 (by rw [hx2, hrt])])
                clear hPc hQF hSm hlab hRL hLR hbel hI1 hI2 hdP hdQ hrt hdr hl1' hl2'
                go_wp2_with fail
                refine (zzroot_any _ _ n Q c kQ i r _ HC.out.2.1 hlt3 HC.out.2.2.1 HC.out.1).mono ?_
                rintro e w8 ⟨rfl, q1, q2⟩
                have H8 : Hid (Pc (w3.heap.size + 1) w3.heap.size n (halve Q kQ i) c w8 ∧ Fr (fun x => x = w3.heap.size) wr w8) := ⟨q1, q2⟩
                clear q1 q2
                go_wp2_with fail
                refine (zzroot_any _ _ n (halve Q kQ i) c 0 r r _ (HC.out.2.1.halve HC.out.2.2.1 hlt3) hrn HC.out.2.2.2.1 H8.out.1).mono ?_
                rintro e w9 ⟨rfl, q1, q2⟩
                have H9 : Hid (Pc (w3.heap.size + 1) w3.heap.size n (halve Q kQ i) c w9 ∧ Forest n (halve Q kQ i) ∧ Same n P (halve Q kQ i) ∧ intsAt w9 gl n (fun i => (lab i : Int)) ∧ intsAt w9 w5.heap.size comps RL ∧ intsAt w9 w6.heap.size n LR ∧ Below w3.heap.size w3 w9) := by
                  obtain ⟨hPc, hQF, hSm, hlab, hRL, hLR, hbel, hI1, hI2⟩ := HR.out
                  have f := H8.out.2.trans q2
                  exact ⟨q1, HC.out.2.1.halve HC.out.2.2.1 hlt3, HC.out.2.2.2.2.2.trans (Same.halve HC.out.2.2.1), f.row hlab (fun (e : gl = w3.heap.size) => by omega), f.row hRL (fun (e : w5.heap.size = w3.heap.size) => by omega), f.row hLR (fun (e : w6.heap.size = w3.heap.size) => by omega), hbel.trans (f.below hbel.size (fun z (hz : z = w3.heap.size) => by omega))⟩
                have hrr : ((r : Int) != (r : Int)) = false := by simp
                have cl : w9.cell? ⟨gl, i, none⟩ = some (.int .i64 ((lab i : Nat) : Int)) := H9.out.2.2.2.1.cell hlt3
                obtain ⟨l, hl⟩ : ∃ l, l = lab i := ⟨_, rfl⟩
                have HLL : Hid (l = lab i) := hl
                rw [← hl] at cl hllt
                have HL1b : Hid (RL l = -1 ∨ RL l = (r : Int)) := by rw [hl]; exact HL1
                have HL2b : Hid (LR r = -1 ∨ LR r = (l : Int)) := by rw [hl]; exact HL2
                have c5 : w9.cell? ⟨w5.heap.size, l, none⟩ = some (.int .i64 (RL l)) := H9.out.2.2.2.2.1.cell hllt
                have f5 := H9.out.2.2.2.2.1.frozen l
                have c6 : w9.cell? ⟨w6.heap.size, r, none⟩ = some (.int .i64 (LR r)) := H9.out.2.2.2.2.2.1.cell hrn
                have f6 := H9.out.2.2.2.2.2.1.frozen r
                have n1 : w5.heap.size ≠ w6.heap.size := by omega
                have n2 : gl ≠ w5.heap.size := by omega
                have n3 : gl ≠ w6.heap.size := by omega
                have n4 : w3.heap.size ≠ w5.heap.size := by omega
                have n5 : w3.heap.size + 1 ≠ w5.heap.size := by omega
                have n6 : w3.heap.size ≠ w6.heap.size := by omega
                have n7 : w3.heap.size + 1 ≠ w6.heap.size := by omega
                have HIv : Hid ((∀ l, l < comps → RL l = -1 ∨ ∃ x, x < n ∧ lab x = l ∧ RL l = ((rtf P n x : Nat) : Int)) ∧ (∀ r, r < n → LR r = -1 ∨ ∃ x, x < n ∧ rtf P n x = r ∧ LR r = ((lab x : Nat) : Int)) ∧ rtf P n i = r) := by
                  obtain ⟨hPc, hQF, hSm, hlab, hRL, hLR, hbel, hI1, hI2⟩ := HR.out
                  exact ⟨hI1, hI2, HC.out.2.2.2.2.1⟩
                clear q1 q2 hl HL1 HL2 HC H8 HR
                rcases HL1b.out with h1 | h1
                · rw [h1] at c5
                  have t1 : ((-1 : Int) == -1) = true := by decide
                  rcases HL2b.out with h2 | h2
                  · rw [h2] at c6
                    clear HL1b HL2b h1 h2
                    go_wp2
                    go_roundg (gk - 1)
                    case measure => omega
                    case rel =>
                      obtain ⟨g1, g2, g3, g4, g5, g6, g7⟩ := H9.out
                      exact ⟨i + 1, halve Q kQ i, updI RL l r, updI LR r l, by go_num, by omega, by omega, (pc_out (pc_out g1 n4 n5 _) n6 n7 _), g2, g3, (g4.setOther n2 _).setOther n3 _, (ints_updI g5 l r).setOther n1 _, ints_updI (g6.setOther (fun e => n1 e.symm) _) r l, (g7.setCell (by simp; omega) _).setCell (by simp; omega) _, inv1 HIv.out.1 hlt3 HLL.out HIv.out.2.2, inv2 HIv.out.2.1 hlt3 HLL.out HIv.out.2.2⟩
                  · rw [h2] at c6
                    have t2 : ((l : Int) == -1) = false := by simp
                    have t3 : ((l : Int) != (l : Int)) = false := by simp
                    clear HL1b HL2b h1 h2
                    go_wp2
                    go_roundg (gk - 1)
                    case measure => omega
                    case rel =>
                      obtain ⟨g1, g2, g3, g4, g5, g6, g7⟩ := H9.out
                      exact ⟨i + 1, halve Q kQ i, updI RL l r, LR, by go_num, by omega, by omega, pc_out g1 n4 n5 _, g2, g3, g4.setOther n2 _, ints_updI g5 l r, g6.setOther (fun e => n1 e.symm) _, g7.setCell (by simp; omega) _, inv1 HIv.out.1 hlt3 HLL.out HIv.out.2.2, HIv.out.2.1⟩
                · rw [h1] at c5
                  have t1 : ((r : Int) == -1) = false := by simp
                  rcases HL2b.out with h2 | h2
                  · rw [h2] at c6
                    have t2 : ((-1 : Int) == -1) = true := by decide
                    clear HL1b HL2b h1 h2
                    go_wp2
                    go_roundg (gk - 1)
                    case measure => omega
                    case rel =>
                      obtain ⟨g1, g2, g3, g4, g5, g6, g7⟩ := H9.out
                      exact ⟨i + 1, halve Q kQ i, RL, updI LR r l, by go_num, by omega, by omega, pc_out g1 n6 n7 _, g2, g3, g4.setOther n3 _, g5.setOther n1 _, ints_updI g6 r l, g7.setCell (by simp; omega) _, HIv.out.1, inv2 HIv.out.2.1 hlt3 HLL.out HIv.out.2.2⟩
                  · rw [h2] at c6
                    have t2 : ((l : Int) == -1) = false := by simp
                    have t3 : ((l : Int) != (l : Int)) = false := by simp
                    clear HL1b HL2b h1 h2
                    go_wp2
                    go_roundg (gk - 1)
                    case measure => omega
                    case rel =>
                      obtain ⟨g1, g2, g3, g4, g5, g6, g7⟩ := H9.out
                      exact ⟨i + 1, halve Q kQ i, RL, LR, by go_num, by omega, by omega, g1, g2, g3, g4, g5, g6, g7, HIv.out.1, HIv.out.2.1⟩
              · have HB : Hid (Below w3.heap.size w3 wr) := hbel
                clear hPc hQF hSm hlab hRL hLR hbel hI1 hI2
                go_wp2
                go_ret
                exact ⟨rfl, HS.out.2.2.trans (HB.out.mono HS.out.2.2.size)⟩
end Go.Proofs.Qxb6600947a
