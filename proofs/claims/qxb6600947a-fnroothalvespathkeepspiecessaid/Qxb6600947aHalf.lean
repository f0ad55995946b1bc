/-
  Seat b6600947a: the walk of FnRootHalvesPathKeepsPieces, inside its bounds.
-/
import Derived.Test.Qxb6600947aArgs
import Derived.Test.Qxb6600947aForest
namespace Go.Proofs.Qxb6600947a
open Go.RowKit

/-- The nodes on the way from i, its root left out. -/
def wayN (P : Nat → Nat) : Nat → Nat → List Nat
  | 0, _ => []
  | k + 1, i => i :: wayN P k (P i)

theorem wayN_turn {P : Nat → Nat} {ki i ri : Nat} (hi : Dp P ki i ri) (v : Nat) : ∀ {k j r : Nat}, Dp P k j r → k < ki → wayN (upd P i v) k j = wayN P k j
  | 0, _, _, _, _ => rfl
  | k + 1, j, r, h, hlt => by
    have hne : j ≠ i := fun e => by subst e; have := (Dp.unique h hi).1; omega
    rw [wayN, wayN, upd_other P i v hne, wayN_turn hi v h.2 (by omega)]

/-- Only nodes on the way are turned. -/
theorem halve_off : ∀ (m k : Nat), k ≤ m → ∀ {P : Nat → Nat} {i ri : Nat}, Dp P k i ri → ∀ j, j ∉ wayN P k i → halve P k i j = P j
  | _, 0, _, _, _, _, _, _, _ => rfl
  | _, 1, _, P, i, _, _, j, hj => upd_other P i _ (fun e => hj (by rw [e, wayN]; exact List.mem_cons_self))
  | 0, k + 2, h, _, _, _, _, _, _ => by omega
  | m + 1, k + 2, h, P, i, ri, hi, j, hj => by
    have h2 : Dp P k (P (P i)) ri := hi.2.2
    have h3 := Dp.turn hi (P (P i)) h2 (by omega)
    simp only [wayN, List.mem_cons, not_or] at hj
    rw [halve, halve_off m k (by omega) h3 j (by rw [wayN_turn hi _ h2 (by omega)]; exact hj.2.2), upd_other P i _ hj.1]

theorem ret_true {a : Bool} (h : a = true) : Ending.returned (.bool a) = .returned (.bool true) := by rw [h]

theorem half_bytes_yes (n : Int) (a1 a2 : Option Addr) (len1 cap1 len2 cap2 : Nat) (x : Int) (w : World) (h : len1 + len2 ≤ 1048576) :
    Calls Try.prog 17 #[.int .i64 n, .slice a1 len1 cap1, .slice a2 len2 cap2, .int .i64 x] w fun e w' => e = .returned (.bool true) ∧ w' = w := by
  go_enter Try.func17, Try.ntmps17
  go_wp2
  go_ret
  exact ⟨rfl, rfl⟩

set_option maxRecDepth 100000 in
set_option maxHeartbeats 8000000 in
theorem half_core (n : Nat) (a1 a2 : Option Addr) (len1 cap1 len2 cap2 : Nat) (A B : Nat → Int) (x : Nat) (w : World) (hn : n ≤ 65536) (h1 : ArgS w a1 len1 cap1 A) (h2 : ArgS w a2 len2 cap2 B) (hl : 8 * len1 + 8 * len2 ≤ 1048576) (hl1 : len1 ≤ 65536) (hl2 : len2 ≤ 65536) (hx : x < n) :
    Calls Try.prog 5 #[.int .i64 n, .slice a1 len1 cap1, .slice a2 len2 cap2, .int .i64 x] w fun e w' => e = .returned (.bool true) ∧ Below w.heap.size w w' := by
  have HA : Hid (ArgS w a1 len1 cap1 A ∧ ArgS w a2 len2 cap2 B) := ⟨h1, h2⟩
  clear h1 h2
  go_enter Try.func5, Try.ntmps5
  go_wp2_with (go_at_call 17; refine (half_bytes_yes n a1 a2 len1 cap1 len2 cap2 x _ (by omega)).mono ?_; rintro e w' ⟨rfl, rfl⟩)
  refine (copy_arg a1 len1 cap1 A _ hl1 HA.out.1).mono ?_
  rintro e w2 ⟨b1, rfl, q1, q2⟩
  have H2 : Hid (Sl w2 b1 len1 A ∧ Below w'.heap.size w' w2) := ⟨q1, q2⟩
  clear q1 q2
  go_wp2_with fail
  refine (copy_arg a2 len2 cap2 B _ hl2 (HA.out.2.below H2.out.2)).mono ?_
  rintro e w3 ⟨b2, rfl, q1, q2⟩
  have HS : Hid (Sl w3 b1 len1 A ∧ Sl w3 b2 len2 B ∧ Below w'.heap.size w' w3) := ⟨H2.out.1.below q2 (Nat.le_refl _), q1, H2.out.2.trans (q2.mono H2.out.2.size)⟩
  clear q1 q2 H2 HA
  by_cases hmn : len2 < len1
  · go_wp2_with (go_at_call 8; refine (build_any n b1 b2 len1 len2 len1 len2 A B len2 _ hn HS.out.1 HS.out.2.1 (by omega) (by omega) hl1).mono ?_; rintro e w4 ⟨rfl, P, c, q1, q2, q3⟩; have hbf := Built.facts q2; have H4 : Hid (Pc (w3.heap.size + 1) w3.heap.size n P c w4 ∧ Forest n P ∧ Below w3.heap.size w3 w4) := ⟨q1, hbf.1, q3⟩; clear q1 q2 q3 hbf)
    refine (parents_any _ _ n P c _ hn H4.out.1).mono ?_
    rintro e w5 ⟨rfl, q1, q2⟩
    have H5 : Hid (intsAt w5 w4.heap.size n (fun i => (P i : Int)) ∧ Below w4.heap.size w4 w5) := ⟨q1, q2⟩
    clear q1 q2
    go_wp2_with fail
    refine (forest_any _ n P _ hn H4.out.2.1 H5.out.1).mono ?_
    rintro e w6 ⟨r0, d0, R0, D0, rfl, q1, q2, q3, q4, q5, q6⟩
    obtain ⟨k0, rr, hd⟩ := H4.out.2.1.ends x hx
    have hk0 : k0 < n := Dp.short H4.out.2.1.lt hd hx
    have H6 : Hid (intsAt w6 r0 n (fun i => (R0 i : Int)) ∧ intsAt w6 d0 n (fun i => (D0 i : Int)) ∧ (∀ i, i < n → Dp P (D0 i) i (R0 i)) ∧ Below w5.heap.size w5 w6 ∧ w5.heap.size ≤ r0 ∧ w5.heap.size ≤ d0 ∧ Dp P k0 x rr) := ⟨q1, q2, q3, q4, q5, q6, hd⟩
    have hrn : rr < n := Dp.lt H4.out.2.1.lt hd hx
    have b5 : w5.heap.size ≤ r0 := H6.out.2.2.2.2.1
    have b6 : w5.heap.size ≤ d0 := H6.out.2.2.2.2.2.1
    have z1 := H4.out.2.2.size
    have z2 := H5.out.2.size
    have z3 := H6.out.2.2.2.1.size
    have p1 := H4.out.1.hd.lt
    have p2 := H5.out.1.lt
    -- what lies in w6
    have H6b : Hid (Pc (w3.heap.size + 1) w3.heap.size n P c w6 ∧ intsAt w6 w4.heap.size n (fun i => (P i : Int)) ∧ Below w3.heap.size w3 w6) := by
      have p := H4.out.1
      have l1 := p.hd.lt
      have l2 := p.row.lt
      refine ⟨⟨below_row H6.out.2.2.2.1 (below_row H5.out.2 p.hd l1) (by omega), below_row H6.out.2.2.2.1 (below_row H5.out.2 p.row l2) (by omega), p.ne⟩, below_row H6.out.2.2.2.1 H5.out.1 p2, ?_⟩
      exact (H4.out.2.2.trans (H5.out.2.mono z1)).trans (H6.out.2.2.2.1.mono (by omega))
    have hmb := run_make_row' (P := Try.prog) 37 4 (.bool false) 1 Try.underlying37 Try.info4 rfl .i64 .i64 n (by omega) (by omega)
    clear q1 q2 q3 q4 q5 q6 hd
    go_wp2
    -- the marks of x's way
    go_loopg [16, 17] k0 (fun gk jv sv wr => ∃ (j s : Nat) (O : Nat → Bool), jv = .int .i64 j ∧ sv = .int .i64 s ∧ j < n ∧ s + gk ≤ k0 ∧ Hid (Dp P gk j rr ∧ wr.rowIs w6.heap.size 4 n (fun i => .bool (O i)) ∧ Below w6.heap.size w6 wr ∧ ∀ y, y ∈ wayN P k0 x → O y = true ∨ y ∈ wayN P gk j))
    case atStart => exact ⟨x, 0, fun _ => false, rfl, rfl, hx, by omega, H6.out.2.2.2.2.2.2, (World.rowIs_made w6 (.bool false) n 4).congr (fun i _ => rfl), (Below.refl _ _).alloc (Nat.le_refl _) _, fun y hy => .inr hy⟩
    case round =>
      obtain ⟨j, s, O, rfl, rfl, hj, hsk, HR⟩ := hrel
      clear hmb
      have cp : wr.cell? ⟨w4.heap.size, j, none⟩ = some (.int .i64 (P j : Nat)) := (below_row HR.out.2.2.1 H6b.out.2.1 H6b.out.2.1.lt).cell hj
      by_cases hr : P j = j
      · have hr' : (((P j : Nat) : Int) != (j : Int)) = false := by simp; omega
        have HO : Hid (∀ y, y ∈ wayN P k0 x → O y = true) := fun y hy => by
          rcases HR.out.2.2.2 y hy with h | h
          · exact h
          · have e := (Dp.zero HR.out.1 hr).1
            rw [e] at h
            cases h
        -- what lies in wr: all but the pieces' row is kept from here on
        have z4 := HR.out.2.2.1.size
        have H7 : Hid (Pc (w3.heap.size + 1) w3.heap.size n P c wr ∧ intsAt wr w4.heap.size n (fun i => (P i : Int)) ∧ intsAt wr r0 n (fun i => (R0 i : Int)) ∧ intsAt wr d0 n (fun i => (D0 i : Int)) ∧ Below w3.heap.size w3 wr) := by
          have p := H6b.out.1
          exact ⟨⟨below_row HR.out.2.2.1 p.hd p.hd.lt, below_row HR.out.2.2.1 p.row p.row.lt, p.ne⟩, below_row HR.out.2.2.1 H6b.out.2.1 H6b.out.2.1.lt, below_row HR.out.2.2.1 H6.out.1 H6.out.1.lt, below_row HR.out.2.2.1 H6.out.2.1 H6.out.2.1.lt, H6b.out.2.2.trans (HR.out.2.2.1.mono (by omega))⟩
        have hR : R0 x = rr ∧ D0 x = k0 := by
          have h := Dp.unique (H6.out.2.2.1 x hx) H6.out.2.2.2.2.2.2
          exact ⟨h.2, h.1⟩
        have HRR : Hid (R0 x = rr ∧ D0 x = k0) := hR
        clear hr hR
        go_wp2_with (go_at_call 10; refine (zzcount_any _ _ n P c _ H7.out.1).mono ?_; rintro e wc ⟨rfl, hwc⟩; rw [hwc]; clear hwc wc)
        refine (zzroot_any _ _ n P c k0 x rr _ H4.out.2.1 hx H6.out.2.2.2.2.2.2 H7.out.1).mono ?_
        rintro e w8 ⟨rfl, q1, q2⟩
        have H8 : Hid (Pc (w3.heap.size + 1) w3.heap.size n (halve P k0 x) c w8 ∧ Fr (fun x => x = w3.heap.size) wr w8) := ⟨q1, q2⟩
        clear q1 q2
        have cR : w8.cell? ⟨r0, x, none⟩ = some (.int .i64 (rr : Nat)) := by
          have h : w8.cell? ⟨r0, x, none⟩ = some (.int .i64 (R0 x : Nat)) := (H8.out.2.row H7.out.2.2.1 (fun (e : r0 = w3.heap.size) => by omega)).cell hx
          rw [HRR.out.1] at h
          exact h
        have hrq : ((rr : Int) != (rr : Int)) = false := by simp
        go_wp2_with (go_at_call 10; refine (zzcount_any _ _ n (halve P k0 x) c _ H8.out.1).mono ?_; rintro e wc ⟨rfl, hwc⟩; rw [hwc]; clear hwc wc)
        refine (parents_any _ _ n (halve P k0 x) c _ hn H8.out.1).mono ?_
        rintro e w9 ⟨rfl, q1, q2⟩
        have H9 : Hid (intsAt w9 w8.heap.size n (fun i => (halve P k0 x i : Int)) ∧ Below w8.heap.size w8 w9) := ⟨q1, q2⟩
        clear q1 q2
        go_wp2_with fail
        refine (forest_any _ n (halve P k0 x) _ hn (H4.out.2.1.halve H6.out.2.2.2.2.2.2 hx) H9.out.1).mono ?_
        rintro e w10 ⟨r1, d1, R1, D1, rfl, q1, q2, q3, q4, q5, q6⟩
        have z8 := H8.out.2.size
        have z9 := H9.out.2.size
        have p4 := H7.out.2.1.lt
        have p5 := H7.out.2.2.1.lt
        have p6 := H7.out.2.2.2.1.lt
        have p7 := HR.out.2.1.lt
        have H10 : Hid (intsAt w10 w4.heap.size n (fun i => (P i : Int)) ∧ intsAt w10 r0 n (fun i => (R0 i : Int)) ∧ intsAt w10 d0 n (fun i => (D0 i : Int)) ∧ w10.rowIs w6.heap.size 4 n (fun i => .bool (O i)) ∧
            intsAt w10 w8.heap.size n (fun i => (halve P k0 x i : Int)) ∧ intsAt w10 r1 n (fun i => (R1 i : Int)) ∧ intsAt w10 d1 n (fun i => (D1 i : Int)) ∧ Below w3.heap.size w3 w10) := by
          have g1 := below_row q4 (below_row H9.out.2 (H8.out.2.row H7.out.2.1 (fun (e : w4.heap.size = w3.heap.size) => by omega)) (by omega)) (by omega)
          have g2 := below_row q4 (below_row H9.out.2 (H8.out.2.row H7.out.2.2.1 (fun (e : r0 = w3.heap.size) => by omega)) (by omega)) (by omega)
          have g3 := below_row q4 (below_row H9.out.2 (H8.out.2.row H7.out.2.2.2.1 (fun (e : d0 = w3.heap.size) => by omega)) (by omega)) (by omega)
          have g4 := below_row q4 (below_row H9.out.2 (H8.out.2.row HR.out.2.1 (fun (e : w6.heap.size = w3.heap.size) => by omega)) (by omega)) (by omega)
          have g5 := below_row q4 H9.out.1 H9.out.1.lt
          have b1 := H7.out.2.2.2.2.trans (H8.out.2.below H7.out.2.2.2.2.size (fun z (hz : z = w3.heap.size) => by omega))
          exact ⟨g1, g2, g3, g4, g5, q1, q2, (b1.trans (H9.out.2.mono b1.size)).trans (q4.mono (Nat.le_trans b1.size z9))⟩
        have HD : Hid (∀ i, i < n → R1 i = R0 i ∧ D1 i ≤ D0 i ∧ (O i = false → halve P k0 x i = P i)) := fun i hi => by
          obtain ⟨k', hk', h'⟩ := halve_keeps k0 k0 (Nat.le_refl _) H6.out.2.2.2.2.2.2 (H6.out.2.2.1 i hi)
          have u := Dp.unique (q3 i hi) h'
          refine ⟨u.2, by omega, fun ho => ?_⟩
          refine halve_off k0 k0 (Nat.le_refl _) H6.out.2.2.2.2.2.2 i (fun hm => ?_)
          have := HO.out i hm
          rw [ho] at this
          cases this
        have HX : Hid (halve P k0 x x = P (P x) ∧ D1 x = (k0 + 1) / 2) := by
          refine ⟨halve_self k0 H6.out.2.2.2.2.2.2, ?_⟩
          exact (Dp.unique (q3 x hx) (halve_depth k0 k0 (Nat.le_refl _) H6.out.2.2.2.2.2.2)).1
        have hPx : P x < n := H4.out.2.1.lt x hx
        have HDb : Hid (∀ i, i < n → D0 i < n) := fun i hi => Dp.short H4.out.2.1.lt (H6.out.2.2.1 i hi) hi
        clear q1 q2 q3 q4 q5 q6
        go_wp2
        go_loopg [24] n (fun gk v wz => ∃ i nn : Nat, v = .int .i64 i ∧ i ≤ n ∧ n - i ≤ gk ∧ wz = w10.drewN nn)
        case atStart => exact ⟨0, 0, rfl, Nat.zero_le _, by omega, rfl⟩
        case round =>
          obtain ⟨i, nn, rfl, hi, hgi, rfl⟩ := hrel
          by_cases hin : i < n
          · obtain ⟨e1, e2, e3⟩ := HD.out i hin
            have y0 : w10.cell? ⟨w4.heap.size, i, none⟩ = some (.int .i64 (P i : Nat)) := H10.out.1.cell hin
            have y1 : w10.cell? ⟨r0, i, none⟩ = some (.int .i64 (R0 i : Nat)) := H10.out.2.1.cell hin
            have y2 : w10.cell? ⟨d0, i, none⟩ = some (.int .i64 (D0 i : Nat)) := H10.out.2.2.1.cell hin
            have y3 : w10.cell? ⟨w6.heap.size, i, none⟩ = some (.bool (O i)) := H10.out.2.2.2.1.cell hin
            have y4 : w10.cell? ⟨w8.heap.size, i, none⟩ = some (.int .i64 (halve P k0 x i : Nat)) := H10.out.2.2.2.2.1.cell hin
            have y5 : w10.cell? ⟨r1, i, none⟩ = some (.int .i64 (R0 i : Nat)) := by rw [← e1]; exact H10.out.2.2.2.2.2.1.cell hin
            have y6 : w10.cell? ⟨d1, i, none⟩ = some (.int .i64 (D1 i : Nat)) := H10.out.2.2.2.2.2.2.1.cell hin
            have t1 : (((R0 i : Nat) : Int) != ((R0 i : Nat) : Int)) = false := by simp
            have t2 : ¬ ((D0 i : Nat) : Int) < ((D1 i : Nat) : Int) := by omega
            cases hO : O i with
            | true =>
              rw [hO] at y3
              clear e1 e2 e3 hO
              go_wp2
              go_quiet (fail)
              go_wp2
              go_quiet (fail)
              go_wp2
              go_quiet (fail)
              go_wp2
              go_roundg (gk - 1)
              case measure => omega
              case rel => exact ⟨i + 1, _, by go_num, by omega, by omega, by first | rfl | exact World.drewN_drewN _ _ _⟩
            | false =>
              rw [hO] at y3
              rw [e3 hO] at y4
              have t3 : (((P i : Nat) : Int) != ((P i : Nat) : Int)) = false := by simp
              clear e1 e2 e3 hO
              go_wp2
              go_quiet (fail)
              go_wp2
              go_quiet (fail)
              go_wp2
              go_quiet (fail)
              go_wp2
              go_roundg (gk - 1)
              case measure => omega
              case rel => exact ⟨i + 1, _, by go_num, by omega, by omega, by first | rfl | exact World.drewN_drewN _ _ _⟩
          · have y0 : w10.cell? ⟨w4.heap.size, x, none⟩ = some (.int .i64 (P x : Nat)) := H10.out.1.cell hx
            have y1 : w10.cell? ⟨w4.heap.size, P x, none⟩ = some (.int .i64 (P (P x) : Nat)) := H10.out.1.cell hPx
            have y4 : w10.cell? ⟨w8.heap.size, x, none⟩ = some (.int .i64 (P (P x) : Nat)) := by rw [← HX.out.1]; exact H10.out.2.2.2.2.1.cell hx
            have y2 : w10.cell? ⟨d0, x, none⟩ = some (.int .i64 (k0 : Nat)) := by rw [← HRR.out.2]; exact H10.out.2.2.1.cell hx
            have y6 : w10.cell? ⟨d1, x, none⟩ = some (.int .i64 ((k0 + 1) / 2 : Nat)) := by rw [← HX.out.2]; exact H10.out.2.2.2.2.2.2.1.cell hx
            have t1 : (((P (P x) : Nat) : Int) != ((P (P x) : Nat) : Int)) = false := by simp
            go_wp2
            go_quiet (fail)
            go_wp2
            go_quiet (fail)
            go_wp2
            go_ret
            refine ⟨?_, HS.out.2.2.trans ?_⟩
            · exact ret_true (by simp)
            · have b := H10.out.2.2.2.2.2.2.2.mono HS.out.2.2.size
              exact ⟨b.os, b.tape, b.output, b.size, b.block⟩
      · obtain ⟨m, e, hm⟩ := Dp.pos HR.out.1 hr
        have hr' : (((P j : Nat) : Int) != (j : Int)) = true := by simp; omega
        have hq : P j < n := H4.out.2.1.lt j hj
        have ce := HR.out.2.1.cell hj
        have fe := HR.out.2.1.frozen j
        have hsn : (s : Int) ≤ (n : Int) := by omega
        have hne : w4.heap.size ≠ w6.heap.size := by omega
        have HE : Hid (gk = m + 1 ∧ Dp P m (P j) rr) := ⟨e, hm⟩
        have hsm : s + 1 + m ≤ k0 := by omega
        clear hr e hm hsk
        go_wp2
        go_roundg m
        case measure => have := HE.out.1; omega
        case rel =>
          refine ⟨P j, s + 1, updB O j true, rfl, by go_num, hq, by omega, HE.out.2, (HR.out.2.1.set j _).congr (fun y _ => ?_), HR.out.2.2.1.setCell (Nat.le_refl _) _, fun y hy => ?_⟩
          · show (if y = j then _ else _) = Value.bool (if y = j then true else O y)
            split <;> rfl
          · rcases HR.out.2.2.2 y hy with h | h
            · exact .inl (updB_mono O j y h)
            · rw [HE.out.1, wayN, List.mem_cons] at h
              rcases h with rfl | h
              · exact .inl (updB_same O y true)
              · exact .inr h
  · go_wp2_with (go_at_call 8; refine (build_any n b1 b2 len1 len2 len1 len2 A B len1 _ hn HS.out.1 HS.out.2.1 (by omega) (by omega) hl1).mono ?_; rintro e w4 ⟨rfl, P, c, q1, q2, q3⟩; have hbf := Built.facts q2; have H4 : Hid (Pc (w3.heap.size + 1) w3.heap.size n P c w4 ∧ Forest n P ∧ Below w3.heap.size w3 w4) := ⟨q1, hbf.1, q3⟩; clear q1 q2 q3 hbf)
    refine (parents_any _ _ n P c _ hn H4.out.1).mono ?_
    rintro e w5 ⟨rfl, q1, q2⟩
    have H5 : Hid (intsAt w5 w4.heap.size n (fun i => (P i : Int)) ∧ Below w4.heap.size w4 w5) := ⟨q1, q2⟩
    clear q1 q2
    go_wp2_with fail
    refine (forest_any _ n P _ hn H4.out.2.1 H5.out.1).mono ?_
    rintro e w6 ⟨r0, d0, R0, D0, rfl, q1, q2, q3, q4, q5, q6⟩
    obtain ⟨k0, rr, hd⟩ := H4.out.2.1.ends x hx
    have hk0 : k0 < n := Dp.short H4.out.2.1.lt hd hx
    have H6 : Hid (intsAt w6 r0 n (fun i => (R0 i : Int)) ∧ intsAt w6 d0 n (fun i => (D0 i : Int)) ∧ (∀ i, i < n → Dp P (D0 i) i (R0 i)) ∧ Below w5.heap.size w5 w6 ∧ w5.heap.size ≤ r0 ∧ w5.heap.size ≤ d0 ∧ Dp P k0 x rr) := ⟨q1, q2, q3, q4, q5, q6, hd⟩
    have hrn : rr < n := Dp.lt H4.out.2.1.lt hd hx
    have b5 : w5.heap.size ≤ r0 := H6.out.2.2.2.2.1
    have b6 : w5.heap.size ≤ d0 := H6.out.2.2.2.2.2.1
    have z1 := H4.out.2.2.size
    have z2 := H5.out.2.size
    have z3 := H6.out.2.2.2.1.size
    have p1 := H4.out.1.hd.lt
    have p2 := H5.out.1.lt
    -- what lies in w6
    have H6b : Hid (Pc (w3.heap.size + 1) w3.heap.size n P c w6 ∧ intsAt w6 w4.heap.size n (fun i => (P i : Int)) ∧ Below w3.heap.size w3 w6) := by
      have p := H4.out.1
      have l1 := p.hd.lt
      have l2 := p.row.lt
      refine ⟨⟨below_row H6.out.2.2.2.1 (below_row H5.out.2 p.hd l1) (by omega), below_row H6.out.2.2.2.1 (below_row H5.out.2 p.row l2) (by omega), p.ne⟩, below_row H6.out.2.2.2.1 H5.out.1 p2, ?_⟩
      exact (H4.out.2.2.trans (H5.out.2.mono z1)).trans (H6.out.2.2.2.1.mono (by omega))
    have hmb := run_make_row' (P := Try.prog) 37 4 (.bool false) 1 Try.underlying37 Try.info4 rfl .i64 .i64 n (by omega) (by omega)
    clear q1 q2 q3 q4 q5 q6 hd
    go_wp2
    -- the marks of x's way
    go_loopg [16, 17] k0 (fun gk jv sv wr => ∃ (j s : Nat) (O : Nat → Bool), jv = .int .i64 j ∧ sv = .int .i64 s ∧ j < n ∧ s + gk ≤ k0 ∧ Hid (Dp P gk j rr ∧ wr.rowIs w6.heap.size 4 n (fun i => .bool (O i)) ∧ Below w6.heap.size w6 wr ∧ ∀ y, y ∈ wayN P k0 x → O y = true ∨ y ∈ wayN P gk j))
    case atStart => exact ⟨x, 0, fun _ => false, rfl, rfl, hx, by omega, H6.out.2.2.2.2.2.2, (World.rowIs_made w6 (.bool false) n 4).congr (fun i _ => rfl), (Below.refl _ _).alloc (Nat.le_refl _) _, fun y hy => .inr hy⟩
    case round =>
      obtain ⟨j, s, O, rfl, rfl, hj, hsk, HR⟩ := hrel
      clear hmb
      have cp : wr.cell? ⟨w4.heap.size, j, none⟩ = some (.int .i64 (P j : Nat)) := (below_row HR.out.2.2.1 H6b.out.2.1 H6b.out.2.1.lt).cell hj
      by_cases hr : P j = j
      · have hr' : (((P j : Nat) : Int) != (j : Int)) = false := by simp; omega
        have HO : Hid (∀ y, y ∈ wayN P k0 x → O y = true) := fun y hy => by
          rcases HR.out.2.2.2 y hy with h | h
          · exact h
          · have e := (Dp.zero HR.out.1 hr).1
            rw [e] at h
            cases h
        -- what lies in wr: all but the pieces' row is kept from here on
        have z4 := HR.out.2.2.1.size
        have H7 : Hid (Pc (w3.heap.size + 1) w3.heap.size n P c wr ∧ intsAt wr w4.heap.size n (fun i => (P i : Int)) ∧ intsAt wr r0 n (fun i => (R0 i : Int)) ∧ intsAt wr d0 n (fun i => (D0 i : Int)) ∧ Below w3.heap.size w3 wr) := by
          have p := H6b.out.1
          exact ⟨⟨below_row HR.out.2.2.1 p.hd p.hd.lt, below_row HR.out.2.2.1 p.row p.row.lt, p.ne⟩, below_row HR.out.2.2.1 H6b.out.2.1 H6b.out.2.1.lt, below_row HR.out.2.2.1 H6.out.1 H6.out.1.lt, below_row HR.out.2.2.1 H6.out.2.1 H6.out.2.1.lt, H6b.out.2.2.trans (HR.out.2.2.1.mono (by omega))⟩
        have hR : R0 x = rr ∧ D0 x = k0 := by
          have h := Dp.unique (H6.out.2.2.1 x hx) H6.out.2.2.2.2.2.2
          exact ⟨h.2, h.1⟩
        have HRR : Hid (R0 x = rr ∧ D0 x = k0) := hR
        clear hr hR
        go_wp2_with (go_at_call 10; refine (zzcount_any _ _ n P c _ H7.out.1).mono ?_; rintro e wc ⟨rfl, hwc⟩; rw [hwc]; clear hwc wc)
        refine (zzroot_any _ _ n P c k0 x rr _ H4.out.2.1 hx H6.out.2.2.2.2.2.2 H7.out.1).mono ?_
        rintro e w8 ⟨rfl, q1, q2⟩
        have H8 : Hid (Pc (w3.heap.size + 1) w3.heap.size n (halve P k0 x) c w8 ∧ Fr (fun x => x = w3.heap.size) wr w8) := ⟨q1, q2⟩
        clear q1 q2
        have cR : w8.cell? ⟨r0, x, none⟩ = some (.int .i64 (rr : Nat)) := by
          have h : w8.cell? ⟨r0, x, none⟩ = some (.int .i64 (R0 x : Nat)) := (H8.out.2.row H7.out.2.2.1 (fun (e : r0 = w3.heap.size) => by omega)).cell hx
          rw [HRR.out.1] at h
          exact h
        have hrq : ((rr : Int) != (rr : Int)) = false := by simp
        go_wp2_with (go_at_call 10; refine (zzcount_any _ _ n (halve P k0 x) c _ H8.out.1).mono ?_; rintro e wc ⟨rfl, hwc⟩; rw [hwc]; clear hwc wc)
        refine (parents_any _ _ n (halve P k0 x) c _ hn H8.out.1).mono ?_
        rintro e w9 ⟨rfl, q1, q2⟩
        have H9 : Hid (intsAt w9 w8.heap.size n (fun i => (halve P k0 x i : Int)) ∧ Below w8.heap.size w8 w9) := ⟨q1, q2⟩
        clear q1 q2
        go_wp2_with fail
        refine (forest_any _ n (halve P k0 x) _ hn (H4.out.2.1.halve H6.out.2.2.2.2.2.2 hx) H9.out.1).mono ?_
        rintro e w10 ⟨r1, d1, R1, D1, rfl, q1, q2, q3, q4, q5, q6⟩
        have z8 := H8.out.2.size
        have z9 := H9.out.2.size
        have p4 := H7.out.2.1.lt
        have p5 := H7.out.2.2.1.lt
        have p6 := H7.out.2.2.2.1.lt
        have p7 := HR.out.2.1.lt
        have H10 : Hid (intsAt w10 w4.heap.size n (fun i => (P i : Int)) ∧ intsAt w10 r0 n (fun i => (R0 i : Int)) ∧ intsAt w10 d0 n (fun i => (D0 i : Int)) ∧ w10.rowIs w6.heap.size 4 n (fun i => .bool (O i)) ∧
            intsAt w10 w8.heap.size n (fun i => (halve P k0 x i : Int)) ∧ intsAt w10 r1 n (fun i => (R1 i : Int)) ∧ intsAt w10 d1 n (fun i => (D1 i : Int)) ∧ Below w3.heap.size w3 w10) := by
          have g1 := below_row q4 (below_row H9.out.2 (H8.out.2.row H7.out.2.1 (fun (e : w4.heap.size = w3.heap.size) => by omega)) (by omega)) (by omega)
          have g2 := below_row q4 (below_row H9.out.2 (H8.out.2.row H7.out.2.2.1 (fun (e : r0 = w3.heap.size) => by omega)) (by omega)) (by omega)
          have g3 := below_row q4 (below_row H9.out.2 (H8.out.2.row H7.out.2.2.2.1 (fun (e : d0 = w3.heap.size) => by omega)) (by omega)) (by omega)
          have g4 := below_row q4 (below_row H9.out.2 (H8.out.2.row HR.out.2.1 (fun (e : w6.heap.size = w3.heap.size) => by omega)) (by omega)) (by omega)
          have g5 := below_row q4 H9.out.1 H9.out.1.lt
          have b1 := H7.out.2.2.2.2.trans (H8.out.2.below H7.out.2.2.2.2.size (fun z (hz : z = w3.heap.size) => by omega))
          exact ⟨g1, g2, g3, g4, g5, q1, q2, (b1.trans (H9.out.2.mono b1.size)).trans (q4.mono (Nat.le_trans b1.size z9))⟩
        have HD : Hid (∀ i, i < n → R1 i = R0 i ∧ D1 i ≤ D0 i ∧ (O i = false → halve P k0 x i = P i)) := fun i hi => by
          obtain ⟨k', hk', h'⟩ := halve_keeps k0 k0 (Nat.le_refl _) H6.out.2.2.2.2.2.2 (H6.out.2.2.1 i hi)
          have u := Dp.unique (q3 i hi) h'
          refine ⟨u.2, by omega, fun ho => ?_⟩
          refine halve_off k0 k0 (Nat.le_refl _) H6.out.2.2.2.2.2.2 i (fun hm => ?_)
          have := HO.out i hm
          rw [ho] at this
          cases this
        have HX : Hid (halve P k0 x x = P (P x) ∧ D1 x = (k0 + 1) / 2) := by
          refine ⟨halve_self k0 H6.out.2.2.2.2.2.2, ?_⟩
          exact (Dp.unique (q3 x hx) (halve_depth k0 k0 (Nat.le_refl _) H6.out.2.2.2.2.2.2)).1
        have hPx : P x < n := H4.out.2.1.lt x hx
        have HDb : Hid (∀ i, i < n → D0 i < n) := fun i hi => Dp.short H4.out.2.1.lt (H6.out.2.2.1 i hi) hi
        clear q1 q2 q3 q4 q5 q6
        go_wp2
        go_loopg [24] n (fun gk v wz => ∃ i nn : Nat, v = .int .i64 i ∧ i ≤ n ∧ n - i ≤ gk ∧ wz = w10.drewN nn)
        case atStart => exact ⟨0, 0, rfl, Nat.zero_le _, by omega, rfl⟩
        case round =>
          obtain ⟨i, nn, rfl, hi, hgi, rfl⟩ := hrel
          by_cases hin : i < n
          · obtain ⟨e1, e2, e3⟩ := HD.out i hin
            have y0 : w10.cell? ⟨w4.heap.size, i, none⟩ = some (.int .i64 (P i : Nat)) := H10.out.1.cell hin
            have y1 : w10.cell? ⟨r0, i, none⟩ = some (.int .i64 (R0 i : Nat)) := H10.out.2.1.cell hin
            have y2 : w10.cell? ⟨d0, i, none⟩ = some (.int .i64 (D0 i : Nat)) := H10.out.2.2.1.cell hin
            have y3 : w10.cell? ⟨w6.heap.size, i, none⟩ = some (.bool (O i)) := H10.out.2.2.2.1.cell hin
            have y4 : w10.cell? ⟨w8.heap.size, i, none⟩ = some (.int .i64 (halve P k0 x i : Nat)) := H10.out.2.2.2.2.1.cell hin
            have y5 : w10.cell? ⟨r1, i, none⟩ = some (.int .i64 (R0 i : Nat)) := by rw [← e1]; exact H10.out.2.2.2.2.2.1.cell hin
            have y6 : w10.cell? ⟨d1, i, none⟩ = some (.int .i64 (D1 i : Nat)) := H10.out.2.2.2.2.2.2.1.cell hin
            have t1 : (((R0 i : Nat) : Int) != ((R0 i : Nat) : Int)) = false := by simp
            have t2 : ¬ ((D0 i : Nat) : Int) < ((D1 i : Nat) : Int) := by omega
            cases hO : O i with
            | true =>
              rw [hO] at y3
              clear e1 e2 e3 hO
              go_wp2
              go_quiet (fail)
              go_wp2
              go_quiet (fail)
              go_wp2
              go_quiet (fail)
              go_wp2
              go_roundg (gk - 1)
              case measure => omega
              case rel => exact ⟨i + 1, _, by go_num, by omega, by omega, by first | rfl | exact World.drewN_drewN _ _ _⟩
            | false =>
              rw [hO] at y3
              rw [e3 hO] at y4
              have t3 : (((P i : Nat) : Int) != ((P i : Nat) : Int)) = false := by simp
              clear e1 e2 e3 hO
              go_wp2
              go_quiet (fail)
              go_wp2
              go_quiet (fail)
              go_wp2
              go_quiet (fail)
              go_wp2
              go_roundg (gk - 1)
              case measure => omega
              case rel => exact ⟨i + 1, _, by go_num, by omega, by omega, by first | rfl | exact World.drewN_drewN _ _ _⟩
          · have y0 : w10.cell? ⟨w4.heap.size, x, none⟩ = some (.int .i64 (P x : Nat)) := H10.out.1.cell hx
            have y1 : w10.cell? ⟨w4.heap.size, P x, none⟩ = some (.int .i64 (P (P x) : Nat)) := H10.out.1.cell hPx
            have y4 : w10.cell? ⟨w8.heap.size, x, none⟩ = some (.int .i64 (P (P x) : Nat)) := by rw [← HX.out.1]; exact H10.out.2.2.2.2.1.cell hx
            have y2 : w10.cell? ⟨d0, x, none⟩ = some (.int .i64 (k0 : Nat)) := by rw [← HRR.out.2]; exact H10.out.2.2.1.cell hx
            have y6 : w10.cell? ⟨d1, x, none⟩ = some (.int .i64 ((k0 + 1) / 2 : Nat)) := by rw [← HX.out.2]; exact H10.out.2.2.2.2.2.2.1.cell hx
            have t1 : (((P (P x) : Nat) : Int) != ((P (P x) : Nat) : Int)) = false := by simp
            go_wp2
            go_quiet (fail)
            go_wp2
            go_quiet (fail)
            go_wp2
            go_ret
            refine ⟨?_, HS.out.2.2.trans ?_⟩
            · exact ret_true (by simp)
            · have b := H10.out.2.2.2.2.2.2.2.mono HS.out.2.2.size
              exact ⟨b.os, b.tape, b.output, b.size, b.block⟩
      · obtain ⟨m, e, hm⟩ := Dp.pos HR.out.1 hr
        have hr' : (((P j : Nat) : Int) != (j : Int)) = true := by simp; omega
        have hq : P j < n := H4.out.2.1.lt j hj
        have ce := HR.out.2.1.cell hj
        have fe := HR.out.2.1.frozen j
        have hsn : (s : Int) ≤ (n : Int) := by omega
        have hne : w4.heap.size ≠ w6.heap.size := by omega
        have HE : Hid (gk = m + 1 ∧ Dp P m (P j) rr) := ⟨e, hm⟩
        have hsm : s + 1 + m ≤ k0 := by omega
        clear hr e hm hsk
        go_wp2
        go_roundg m
        case measure => have := HE.out.1; omega
        case rel =>
          refine ⟨P j, s + 1, updB O j true, rfl, by go_num, hq, by omega, HE.out.2, (HR.out.2.1.set j _).congr (fun y _ => ?_), HR.out.2.2.1.setCell (Nat.le_refl _) _, fun y hy => ?_⟩
          · show (if y = j then _ else _) = Value.bool (if y = j then true else O y)
            split <;> rfl
          · rcases HR.out.2.2.2 y hy with h | h
            · exact .inl (updB_mono O j y h)
            · rw [HE.out.1, wayN, List.mem_cons] at h
              rcases h with rfl | h
              · exact .inl (updB_same O y true)
              · exact .inr h
end Go.Proofs.Qxb6600947a
