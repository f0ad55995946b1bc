/-
  Seat b6600947a: the walk of forestInfo.
-/
import Derived.Test.Qxb6600947aJoin
import Derived.Maps.AppendAt
namespace Go.Proofs.Qxb6600947a
open Go.RowKit

theorem Try.info4 : (Try.prog.info? 4).map (fun i => (i.zero, i.size, i.bytes)) = some (some (.bool false), 1, 1) := by kernel_rfl

def updB (E : Nat → Bool) (i : Nat) (b : Bool) : Nat → Bool := fun j => if j = i then b else E j
theorem updB_same (E : Nat → Bool) (i : Nat) (b : Bool) : updB E i b i = b := if_pos rfl
theorem updB_mono (E : Nat → Bool) (i x : Nat) (h : E x = true) : updB E i true x = true := by unfold updB; split <;> first | rfl | exact h

/-- The cells of a list of nodes. -/
def cellsOf (l : List Nat) : List Value := l.map fun (x : Nat) => Value.int .i64 (x : Int)

/-- The four rows of forestInfo: roots, depths, marks, the stack. -/
structure Mm (W : World) (gr gd ge base n : Nat) (R D : Nat → Nat) (E : Nat → Bool) (v : Value) (stk : List Nat) (w : World) : Prop where
  r : intsAt w gr n (fun i => (R i : Int))
  d : intsAt w gd n (fun i => (D i : Int))
  e : w.rowIs ge 4 n (fun i => .bool (E i))
  o : w.ownsRow base 3 1 v stk.length (cellsOf stk)
  sh : ∃ gs cap, v = .slice (some ⟨gs, 0, none⟩) stk.length cap
  bel : Below W.heap.size W w
  lay : gr ≠ gd ∧ gr ≠ ge ∧ gd ≠ ge ∧ gr < base ∧ gd < base ∧ ge < base ∧ W.heap.size ≤ gr ∧ W.heap.size ≤ gd ∧ W.heap.size ≤ ge

section
variable {W : World} {gr gd ge base n : Nat} {R D : Nat → Nat} {E : Nat → Bool} {v : Value} {stk : List Nat} {w : World} {gs len cap : Nat}

theorem Mm.setR (h : Mm W gr gd ge base n R D E v stk w) (i x : Nat) : Mm W gr gd ge base n (upd R i x) D E v stk (w.setCell ⟨gr, i, none⟩ (.int .i64 (x : Int))) := by
  obtain ⟨l1, l2, l3, l4, l5, l6, l7, l8, l9⟩ := h.lay
  exact ⟨(h.r.set i _).congr (fun j _ => by show (if j = i then _ else _) = Value.int .i64 ((if j = i then x else R j : Nat) : Int); split <;> rfl),
    h.d.setOther (fun e => l1 e.symm) _, h.e.setOther (fun e => l2 e.symm) _, ownsRow_setCell_below h.o l4 _, h.sh, h.bel.setCell l7 _, h.lay⟩
theorem Mm.setD (h : Mm W gr gd ge base n R D E v stk w) (i x : Nat) : Mm W gr gd ge base n R (upd D i x) E v stk (w.setCell ⟨gd, i, none⟩ (.int .i64 (x : Int))) := by
  obtain ⟨l1, l2, l3, l4, l5, l6, l7, l8, l9⟩ := h.lay
  exact ⟨h.r.setOther l1 _, (h.d.set i _).congr (fun j _ => by show (if j = i then _ else _) = Value.int .i64 ((if j = i then x else D j : Nat) : Int); split <;> rfl),
    h.e.setOther (fun e => l3 e.symm) _, ownsRow_setCell_below h.o l5 _, h.sh, h.bel.setCell l8 _, h.lay⟩
theorem Mm.setE (h : Mm W gr gd ge base n R D E v stk w) (i : Nat) (b : Bool) : Mm W gr gd ge base n R D (updB E i b) v stk (w.setCell ⟨ge, i, none⟩ (.bool b)) := by
  obtain ⟨l1, l2, l3, l4, l5, l6, l7, l8, l9⟩ := h.lay
  exact ⟨h.r.setOther l2 _, h.d.setOther l3 _, (h.e.set i _).congr (fun j _ => by show (if j = i then _ else _) = Value.bool (if j = i then b else E j); split <;> rfl),
    ownsRow_setCell_below h.o l6 _, h.sh, h.bel.setCell l9 _, h.lay⟩
theorem Mm.clear (h : Mm W gr gd ge base n R D E (.slice (some ⟨gs, 0, none⟩) len cap) stk w) : Mm W gr gd ge base n R D E (.slice (some ⟨gs, 0, none⟩) 0 cap) [] w := by
  refine ⟨h.r, h.d, h.e, ⟨rfl, .inr ?_⟩, ⟨gs, cap, rfl⟩, h.bel, h.lay⟩
  rcases h.o.2 with ⟨h1, _⟩ | ⟨g, cp, cur, h1, h2, h3, h4, h5, h6, h7⟩
  · cases h1
  · simp only [Value.slice.injEq, Option.some.injEq, Addr.mk.injEq] at h1
    obtain ⟨⟨rfl, _, _⟩, _, rfl⟩ := h1
    exact ⟨gs, cap, cur, rfl, h2, h3, Nat.zero_le _, h5, h6, by simp [cellsOf]⟩
theorem Mm.own (h : Mm W gr gd ge base n R D E (.slice (some ⟨gs, 0, none⟩) len cap) stk w) : base ≤ gs ∧ gs < w.heap.size := h.o.lt gs rfl
theorem Mm.size (h : Mm W gr gd ge base n R D E v stk w) : base ≤ w.heap.size := by
  obtain ⟨gs, cap, rfl⟩ := h.sh
  have := h.own
  omega
theorem Mm.push {w2 : World} {v' : Value} {o : Obj} (h : Mm W gr gd ge base n R D E v stk w) (x : Nat) (hown' : w2.ownsRow base 3 1 v' (stk.length + 1) (cellsOf stk ++ [.int .i64 (x : Int)])) (hgrow : (w.alloc o).grownBy w2 v.ownBlock) : Mm W gr gd ge base n R D E v' (stk ++ [x]) w2 := by
  have hsz := h.size
  obtain ⟨l1, l2, l3, l4, l5, l6, l7, l8, l9⟩ := h.lay
  obtain ⟨gs, cap, hv⟩ := h.sh
  have hgs : base ≤ gs := (h.o.lt gs (by rw [hv]; rfl)).1
  have hob : v.ownBlock = some gs := by rw [hv]; rfl
  have hbk : ∀ k, k < base → w2.heap[k]? = w.heap[k]? := fun k hk =>
    (hgrow.block k (by simp; omega) (by rw [hob]; intro e; simp only [Option.some.injEq] at e; omega)).trans (Below.heap_alloc _ _ _ (by omega))
  refine ⟨h.r.of_block (hbk gr l4), h.d.of_block (hbk gd l5), h.e.of_block (hbk ge l6), ?_, ?_, ?_, h.lay⟩
  · have e : cellsOf (stk ++ [x]) = cellsOf stk ++ [.int .i64 (x : Int)] := by simp [cellsOf]
    rw [List.length_append, e]; exact hown'
  · rcases hown'.2 with ⟨_, h1⟩ | ⟨g, cp, cur, h1, _⟩
    · omega
    · exact ⟨g, cp, by rw [h1]; simp⟩
  · exact (h.bel.alloc (by omega) o).grown hgrow (by simp; omega) (fun k hk => by rw [hob] at hk; simp only [Option.some.injEq] at hk; omega)
theorem Mm.top (h : Mm W gr gd ge base n R D E (.slice (some ⟨gs, 0, none⟩) stk.length cap) stk w) {k : Nat} (hk : k < stk.length) : w.cell? ⟨gs, k, none⟩ = some (.int .i64 ((stk.getD k 0 : Nat) : Int)) := by
  rw [h.o.cellAt k (by omega)]
  simp [cellsOf, hk]
end

/-- What is known of the nodes that are marked. -/
def Inv (P : Nat → Nat) (n : Nat) (R D : Nat → Nat) (E : Nat → Bool) : Prop := ∀ x, x < n → E x = true → Dp P (D x) x (R x)

theorem Inv.root {P : Nat → Nat} {n : Nat} {R D : Nat → Nat} {E : Nat → Bool} (h : Inv P n R D E) {j : Nat} (hj : P j = j) : Inv P n (upd R j j) (upd D j 0) (updB E j true) := fun x hx he => by
  by_cases e : x = j
  · subst e; rw [upd_same, upd_same]; exact ⟨hj, rfl⟩
  · rw [upd_other _ _ _ e, upd_other _ _ _ e]
    exact h x hx (by unfold updB at he; rw [if_neg e] at he; exact he)
theorem Inv.node {P : Nat → Nat} {n : Nat} {R D : Nat → Nat} {E : Nat → Bool} (h : Inv P n R D E) {j : Nat} (hj : P j ≠ j) (hq : P j < n) (he : E (P j) = true) : Inv P n (upd R j (R (P j))) (upd D j (D (P j) + 1)) (updB E j true) := fun x hx hx2 => by
  by_cases e : x = j
  · subst e; rw [upd_same, upd_same]; exact ⟨hj, h _ hq he⟩
  · rw [upd_other _ _ _ e, upd_other _ _ _ e]
    exact h x hx (by unfold updB at hx2; rw [if_neg e] at hx2; exact hx2)

/-- The stack is the way from i up to j. -/
structure Up (P : Nat → Nat) (n i : Nat) (stk : List Nat) (j : Nat) : Prop where
  first : (if 0 < stk.length then stk.getD 0 0 else j) = i
  next : ∀ k, k < stk.length → stk.getD k 0 < n ∧ P (stk.getD k 0) ≠ stk.getD k 0 ∧ P (stk.getD k 0) = if k + 1 < stk.length then stk.getD (k + 1) 0 else j

theorem Up.start (P : Nat → Nat) (n i : Nat) : Up P n i [] i := ⟨rfl, fun k hk => by simp at hk⟩
theorem getD_snoc (l : List Nat) (x k : Nat) (h : k < l.length) : (l ++ [x]).getD k 0 = l.getD k 0 := by simp [List.getD, List.getElem?_append, h]
theorem getD_last (l : List Nat) (x : Nat) : (l ++ [x]).getD l.length 0 = x := by simp [List.getD]
theorem Up.step {P : Nat → Nat} {n i : Nat} {stk : List Nat} {j : Nat} (h : Up P n i stk j) (hj : j < n) (hr : P j ≠ j) : Up P n i (stk ++ [j]) (P j) := by
  refine ⟨?_, fun k hk => ?_⟩
  · rw [if_pos (by simp)]
    by_cases h0 : 0 < stk.length
    · rw [getD_snoc _ _ _ h0]
      have := h.first
      rwa [if_pos h0] at this
    · have e : stk = [] := List.eq_nil_of_length_eq_zero (by omega)
      subst e
      have := h.first
      simpa using this
  · rw [List.length_append, List.length_singleton] at hk ⊢
    by_cases hl : k < stk.length
    · obtain ⟨h1, h2, h3⟩ := h.next k hl
      rw [getD_snoc _ _ _ hl, if_pos (by omega)]
      refine ⟨h1, h2, ?_⟩
      rw [h3]
      by_cases h4 : k + 1 < stk.length
      · rw [if_pos h4, getD_snoc _ _ _ h4]
      · rw [if_neg h4, show k + 1 = stk.length by omega, getD_last]
    · have e : k = stk.length := by omega
      subst e
      rw [getD_last, if_neg (by omega)]
      exact ⟨hj, hr, rfl⟩

/-- The node next above the k-th. -/
def nx (stk : List Nat) (j k : Nat) : Nat := if k < stk.length then stk.getD k 0 else j

theorem f3 {a b c : Value} {e : Ending} (h : e = .returned (.tuple #[a, b, c])) : e = .returned (.tuple #[a, b, c]) := h

set_option maxRecDepth 100000 in
set_option maxHeartbeats 4000000 in
theorem forest_any (gp n : Nat) (P : Nat → Nat) (w : World) (hn : n ≤ 65536) (hF : Forest n P) (hp : intsAt w gp n (fun i => (P i : Int))) :
    Calls Try.prog 16 #[.slice (some ⟨gp, 0, none⟩) n n] w fun e w' => ∃ (r d : Nat) (R D : Nat → Nat), e = .returned (.tuple #[.slice (some ⟨r, 0, none⟩) n n, .slice (some ⟨d, 0, none⟩) n n, .bool true]) ∧
      intsAt w' r n (fun i => (R i : Int)) ∧ intsAt w' d n (fun i => (D i : Int)) ∧ (∀ i, i < n → Dp P (D i) i (R i)) ∧ Below w.heap.size w w' ∧ w.heap.size ≤ r ∧ w.heap.size ≤ d := by
  obtain ⟨i0, hi, hz0, hz1, hz2⟩ := info_parts Try.info3
  have hmk := run_make_row' (P := Try.prog) 22 3 (.int .i64 0) 8 Try.underlying22 Try.info3 rfl .i64 .i64 n (by omega) (by omega)
  have hmb := run_make_row' (P := Try.prog) 37 4 (.bool false) 1 Try.underlying37 Try.info4 rfl .i64 .i64 n (by omega) (by omega)
  have HP : Hid (intsAt w gp n (fun i => (P i : Int))) := hp
  have HF : Hid (Forest n P) := hF
  clear hp hF
  go_enter Try.func16, Try.ntmps16
  go_wp2_with (at_make; refine wpList_make_own _ rfl _ _ 22 rfl (w.heap.size + 3) 3 i0 (.int .i64 0) 1 Try.underlying22 hi hz0 hz1 .i64 .i64 _ 16 rfl rfl (by omega) (by rw [hz2]; omega) (by unfold maxLen; omega) (by simp) ?_; intro w1 hown1 hgrow1)
  have HM0 : Hid (Mm w w.heap.size (w.heap.size + 1) (w.heap.size + 1 + 1) (w.heap.size + 3) n (fun _ => 0) (fun _ => 0) (fun _ => false) (.slice (some ⟨w.heap.size + 1 + 1 + 1, 0, none⟩) 0 16) [] w1) := by
    have b1 := ((((Below.refl w.heap.size w).alloc (Nat.le_refl _) (.cells (madeCells #[.int .i64 0] n) 3)).alloc (by simp) (.cells (madeCells #[.int .i64 0] n) 3)).alloc (by simp; omega) (.cells (madeCells #[.bool false] n) 4)).grown hgrow1 (by simp; omega) (fun k hk => by cases hk)
    have r1 := ((World.rowIs_made w (.int .i64 0) n 3).alloc (.cells (madeCells #[.int .i64 0] n) 3)).alloc (.cells (madeCells #[.bool false] n) 4)
    have r2 := (World.rowIs_made (w.alloc (.cells (madeCells #[.int .i64 0] n) 3)) (.int .i64 0) n 3).alloc (.cells (madeCells #[.bool false] n) 4)
    have r3 := World.rowIs_made ((w.alloc (.cells (madeCells #[.int .i64 0] n) 3)).alloc (.cells (madeCells #[.int .i64 0] n) 3)) (.bool false) n 4
    simp only [World.size_alloc] at r2 r3 hown1
    exact ⟨r1.of_block (hgrow1.block _ r1.lt (by simp)), r2.of_block (hgrow1.block _ r2.lt (by simp)), r3.of_block (hgrow1.block _ r3.lt (by simp)), hown1, ⟨_, _, rfl⟩, b1, by omega⟩
  obtain ⟨base, hbase⟩ : ∃ x, x = w.heap.size + 3 := ⟨_, rfl⟩
  obtain ⟨ge, hge⟩ : ∃ x, x = w.heap.size + 1 + 1 := ⟨_, rfl⟩
  obtain ⟨gd, hgd⟩ : ∃ x, x = w.heap.size + 1 := ⟨_, rfl⟩
  rw [← hge] at HM0 ⊢
  rw [← hgd] at HM0 ⊢
  rw [← hbase] at HM0
  obtain ⟨gr, hgr⟩ : ∃ x, x = w.heap.size := ⟨_, rfl⟩
  rw [← hgr] at hge hgd hbase
  have HM1 : Hid (Mm w gr gd ge base n (fun _ => 0) (fun _ => 0) (fun _ => false) (.slice (some ⟨ge + 1, 0, none⟩) 0 16) [] w1) := by rw [hgr]; exact HM0.out
  rw [← hgr]
  clear hown1 hgrow1 hmk hmb hbase hge hgd hgr HM0
  go_loopg [9, 10] n (fun gk v x wr => ∃ (i : Nat) (R D : Nat → Nat) (E : Nat → Bool) (stk : List Nat), x = .int .i64 i ∧ i ≤ n ∧ n - i ≤ gk ∧ Hid (Mm w gr gd ge base n R D E v stk wr) ∧ Hid (Inv P n R D E) ∧ Hid (∀ x, x < i → E x = true))
  case atStart => exact ⟨0, _, _, _, [], rfl, Nat.zero_le _, by omega, HM1, (fun x _ h => Bool.noConfusion h), (fun x h => absurd h (Nat.not_lt_zero x))⟩
  case round =>
    clear HM1
    obtain ⟨i, R0, D0, E0, stk0, rfl, hin, hg, HM0, HI0, HK0⟩ := hrel
    obtain ⟨gs0, cap0, rfl⟩ := HM0.out.sh
    by_cases hlt : i < n
    · have ce := HM0.out.e.cell hlt
      have fe := HM0.out.e.frozen i
      cases hE0 : E0 i with
      | true =>
        rw [hE0] at ce
        have HD : Hid (∀ x, x < i + 1 → E0 x = true) := fun x hx => by
          by_cases e2 : x = i
          · rw [e2]; exact hE0
          · exact HK0.out x (by omega)
        clear hE0
        go_wp2
        go_roundg (gk - 1)
        case measure => omega
        case rel => exact ⟨i + 1, R0, D0, E0, stk0, by go_num, by omega, by omega, HM0, HI0, HD⟩
      | false =>
        rw [hE0] at ce
        clear hE0
        obtain ⟨k0, r0, hd0⟩ := HF.out.ends i hlt
        have hk0 : k0 < n := Dp.short HF.out.lt hd0 hlt
        have HD0 : Hid (Dp P k0 i r0) := hd0
        obtain ⟨G, hG⟩ : ∃ G, G = gk := ⟨gk, rfl⟩
        have HG : Hid (G = gk) := hG
        have hGn : n - i ≤ G := by omega
        clear hd0 hG
        go_wp2
        go_loopg [9, 11, 12] k0 (fun gk v jv st wr => ∃ (j : Nat) (stk : List Nat), jv = .int .i64 j ∧ st = .int .i64 (stk.length : Nat) ∧ j < n ∧ stk.length + gk ≤ k0 ∧ Hid (Dp P gk j r0) ∧ Hid (Mm w gr gd ge base n R0 D0 E0 v stk wr) ∧ Hid (Up P n i stk j))
        case atStart => exact ⟨i, [], rfl, rfl, hlt, by simp, HD0, HM0.out.clear, Up.start P n i⟩
        case round =>
          clear HM0 HD0 ce fe hg
          obtain ⟨j, stk, rfl, rfl, hj, hsk, HDj, HM, HU⟩ := hrel
          obtain ⟨gs, cap, rfl⟩ := HM.out.sh
          have ce := HM.out.e.cell hj
          cases hEj : E0 j with
          | true =>
            rw [hEj] at ce
            obtain ⟨R1, hR1⟩ : ∃ x, x = R0 := ⟨_, rfl⟩
            obtain ⟨D1, hD1⟩ : ∃ x, x = D0 := ⟨_, rfl⟩
            obtain ⟨E1, hE1⟩ : ∃ x, x = E0 := ⟨_, rfl⟩
            have HM1 : Hid (Mm w gr gd ge base n R1 D1 E1 (.slice (some ⟨gs, 0, none⟩) stk.length cap) stk wr) := by rw [hR1, hD1, hE1]; exact HM
            have HI1 : Hid (Inv P n R1 D1 E1) := by rw [hR1, hD1, hE1]; exact HI0
            have HJ1 : Hid (E1 (nx stk j stk.length) = true) := by rw [hE1]; unfold nx; rw [if_neg (Nat.lt_irrefl _)]; exact hEj
            have HK1 : Hid (∀ x, x < i → E1 x = true) := by rw [hE1]; exact HK0
            clear hEj HM HI0 HK0 hR1 hD1 hE1
            go_wp2
            go_loopg [14] (stk.length) (fun gk v wr => ∃ (kk : Nat) (R D : Nat → Nat) (E : Nat → Bool), v = .int .i64 ((kk : Int) - 1) ∧ kk ≤ stk.length ∧ kk ≤ gk ∧
                Hid (Mm w gr gd ge base n R D E (.slice (some ⟨gs, 0, none⟩) stk.length cap) stk wr ∧ Inv P n R D E ∧ E (nx stk j kk) = true ∧ ∀ x, x < i → E x = true))
            case atStart => exact ⟨stk.length, R1, D1, E1, by go_num, Nat.le_refl _, Nat.le_refl _, HM1.out, HI1.out, HJ1.out, HK1.out⟩
            case round =>
              clear HM1 HI1 HJ1 HK1
              obtain ⟨kk, R, D, E, rfl, hkk, hgk, HR⟩ := hrel
              by_cases h0 : 0 < kk
              · obtain ⟨m, rfl⟩ : ∃ m, kk = m + 1 := ⟨kk - 1, by omega⟩
                have hm : m < stk.length := by omega
                obtain ⟨u1, u2, u3⟩ := HU.out.next m hm
                have hnx : P (stk.getD m 0) = nx stk j (m + 1) := u3
                have hq : P (stk.getD m 0) < n := HF.out.lt _ u1
                obtain ⟨x, hx⟩ : ∃ x, x = stk.getD m 0 := ⟨_, rfl⟩
                have ct := HR.out.1.top hm
                obtain ⟨l1, l2, l3, l4, l5, l6, l7, l8, l9⟩ := HR.out.1.lay
                rw [← hx] at u1 u2 hnx hq ct
                have HX : Hid (x = stk.getD m 0) := hx
                have HN : Hid (P x ≠ x ∧ P x = nx stk j (m + 1)) := ⟨u2, hnx⟩
                have cp := (below_row HR.out.1.bel HP.out HP.out.lt).cell u1
                have cr := HR.out.1.r.cell hq
                have cd := HR.out.1.d.cell hq
                have crx := HR.out.1.r.cell u1
                have cdx := HR.out.1.d.cell u1
                have cex := HR.out.1.e.cell u1
                have frx := HR.out.1.r.frozen x
                have fdx := HR.out.1.d.frozen x
                have fex := HR.out.1.e.frozen x
                have hEq : Hid (E (P x) = true) := by rw [HN.out.2]; exact HR.out.2.2.1
                have hDb : D (P x) < n := Dp.short HF.out.lt (HR.out.2.1 _ hq hEq.out) hq
                have hsm : ((m : Int) + 1 - 1) = m := by omega
                clear hx u2 hnx u3
                rw [show (((m + 1 : Nat) : Int) - 1) = (m : Int) by omega]
                go_wp2
                go_roundg m
                case measure => omega
                case rel =>
                  refine ⟨m, upd R x (R (P x)), upd D x (D (P x) + 1), updB E x true, by go_num, by omega, Nat.le_refl _, ?_, HR.out.2.1.node HN.out.1 hq hEq.out, ?_, fun y hy => updB_mono E x y (HR.out.2.2.2 y hy)⟩
                  · exact ((HR.out.1.setR x (R (P x))).setD x (D (P x) + 1)).setE x true
                  · have e : nx stk j m = x := by unfold nx; rw [if_pos hm]; exact HX.out.symm
                    rw [e]; exact updB_same E x true
              · have hk0 : kk = 0 := by omega
                subst hk0
                have HD : Hid (∀ x, x < i + 1 → E x = true) := by
                  have e : nx stk j 0 = i := HU.out.first
                  have h := HR.out.2.2.1
                  rw [e] at h
                  intro x hx
                  by_cases e2 : x = i
                  · rw [e2]; exact h
                  · exact HR.out.2.2.2 x (by omega)
                go_wp2
                go_roundg (G - 1)
                case measure => have := HG.out; omega
                case rel => exact ⟨i + 1, R, D, E, stk, by go_num, by omega, by omega, HR.out.1, HR.out.2.1, HD⟩
          | false =>
            rw [hEj] at ce
            clear hEj
            have cp := (below_row HM.out.bel HP.out HP.out.lt).cell hj
            have hq : P j < n := HF.out.lt _ hj
            by_cases hr : P j = j
            · have hr' : (((P j : Nat) : Int) == (j : Int)) = true := by simp; omega
              have crx := HM.out.r.cell hj
              have cdx := HM.out.d.cell hj
              have frx := HM.out.r.frozen j
              have fdx := HM.out.d.frozen j
              have fex := HM.out.e.frozen j
              obtain ⟨l1, l2, l3, l4, l5, l6, l7, l8, l9⟩ := HM.out.lay
              have HI1 : Hid (Inv P n (upd R0 j j) (upd D0 j 0) (updB E0 j true)) := HI0.out.root hr
              have HM1 := ((HM.out.setR j j).setD j 0).setE j true
              have HJ1 : Hid (updB E0 j true (nx stk j stk.length) = true) := by unfold nx; rw [if_neg (Nat.lt_irrefl _)]; exact updB_same E0 j true
              have HK1 : Hid (∀ x, x < i → updB E0 j true x = true) := fun x hx => updB_mono E0 j x (HK0.out x hx)
              generalize hR1 : upd R0 j j = R1 at HI1 HM1
              generalize hD1 : upd D0 j 0 = D1 at HI1 HM1
              generalize hE1 : updB E0 j true = E1 at HI1 HM1 HJ1 HK1
              have HM1 : Hid (Mm w gr gd ge base n R1 D1 E1 (.slice (some ⟨gs, 0, none⟩) stk.length cap) stk (((wr.setCell ⟨gr, j, none⟩ (.int .i64 (j : Int))).setCell ⟨gd, j, none⟩ (.int .i64 0)).setCell ⟨ge, j, none⟩ (.bool true))) := HM1
              clear hr HM HI0 HK0 hR1 hD1 hE1
              go_wp2
              go_loopg [14] (stk.length) (fun gk v wr => ∃ (kk : Nat) (R D : Nat → Nat) (E : Nat → Bool), v = .int .i64 ((kk : Int) - 1) ∧ kk ≤ stk.length ∧ kk ≤ gk ∧
                  Hid (Mm w gr gd ge base n R D E (.slice (some ⟨gs, 0, none⟩) stk.length cap) stk wr ∧ Inv P n R D E ∧ E (nx stk j kk) = true ∧ ∀ x, x < i → E x = true))
              case atStart => exact ⟨stk.length, R1, D1, E1, by go_num, Nat.le_refl _, Nat.le_refl _, HM1.out, HI1.out, HJ1.out, HK1.out⟩
              case round =>
                clear HM1 HI1 HJ1 HK1
                obtain ⟨kk, R, D, E, rfl, hkk, hgk, HR⟩ := hrel
                by_cases h0 : 0 < kk
                · obtain ⟨m, rfl⟩ : ∃ m, kk = m + 1 := ⟨kk - 1, by omega⟩
                  have hm : m < stk.length := by omega
                  obtain ⟨u1, u2, u3⟩ := HU.out.next m hm
                  have hnx : P (stk.getD m 0) = nx stk j (m + 1) := u3
                  have hq : P (stk.getD m 0) < n := HF.out.lt _ u1
                  obtain ⟨x, hx⟩ : ∃ x, x = stk.getD m 0 := ⟨_, rfl⟩
                  have ct := HR.out.1.top hm
                  obtain ⟨l1, l2, l3, l4, l5, l6, l7, l8, l9⟩ := HR.out.1.lay
                  rw [← hx] at u1 u2 hnx hq ct
                  have HX : Hid (x = stk.getD m 0) := hx
                  have HN : Hid (P x ≠ x ∧ P x = nx stk j (m + 1)) := ⟨u2, hnx⟩
                  have cp := (below_row HR.out.1.bel HP.out HP.out.lt).cell u1
                  have cr := HR.out.1.r.cell hq
                  have cd := HR.out.1.d.cell hq
                  have crx := HR.out.1.r.cell u1
                  have cdx := HR.out.1.d.cell u1
                  have cex := HR.out.1.e.cell u1
                  have frx := HR.out.1.r.frozen x
                  have fdx := HR.out.1.d.frozen x
                  have fex := HR.out.1.e.frozen x
                  have hEq : Hid (E (P x) = true) := by rw [HN.out.2]; exact HR.out.2.2.1
                  have hDb : D (P x) < n := Dp.short HF.out.lt (HR.out.2.1 _ hq hEq.out) hq
                  have hsm : ((m : Int) + 1 - 1) = m := by omega
                  clear hx u2 hnx u3
                  rw [show (((m + 1 : Nat) : Int) - 1) = (m : Int) by omega]
                  go_wp2
                  go_roundg m
                  case measure => omega
                  case rel =>
                    refine ⟨m, upd R x (R (P x)), upd D x (D (P x) + 1), updB E x true, by go_num, by omega, Nat.le_refl _, ?_, HR.out.2.1.node HN.out.1 hq hEq.out, ?_, fun y hy => updB_mono E x y (HR.out.2.2.2 y hy)⟩
                    · exact ((HR.out.1.setR x (R (P x))).setD x (D (P x) + 1)).setE x true
                    · have e : nx stk j m = x := by unfold nx; rw [if_pos hm]; exact HX.out.symm
                      rw [e]; exact updB_same E x true
                · have hk0 : kk = 0 := by omega
                  subst hk0
                  have HD : Hid (∀ x, x < i + 1 → E x = true) := by
                    have e : nx stk j 0 = i := HU.out.first
                    have h := HR.out.2.2.1
                    rw [e] at h
                    intro x hx
                    by_cases e2 : x = i
                    · rw [e2]; exact h
                    · exact HR.out.2.2.2 x (by omega)
                  go_wp2
                  go_roundg (G - 1)
                  case measure => have := HG.out; omega
                  case rel => exact ⟨i + 1, R, D, E, stk, by go_num, by omega, by omega, HR.out.1, HR.out.2.1, HD⟩
            · have hr' : (((P j : Nat) : Int) == (j : Int)) = false := by simp; omega
              obtain ⟨m, e, hm⟩ := Dp.pos HDj.out hr
              have HDm : Hid (Dp P m (P j) r0) := hm
              have hgm : gk = m + 1 := e
              have HU2 : Hid (Up P n i (stk ++ [j]) (P j)) := HU.out.step hj hr
              have hsz := HM.out.size
              have hown := HM.out.o
              have hml : stk.length + 1 + m ≤ k0 := by omega
              have HGM : Hid (gk = m + 1) := hgm
              clear hr hm e hgm hsk
              go_wp2_with (at_builtin; refine wpList_append_own _ rfl _ _ 22 rfl base 3 i0 (.int .i64 0) 1 8 Try.underlying22 hi hz0 hz1 hz2 rfl (by decide) _ _ _ rfl (hown.alloc _) ⟨wr.heap.size, 0, none⟩ 1 1 [.int .i64 (j : Int)] rfl rfl (cell_one_new _ _ _) (by intro u hu; simp at hu; subst hu; rfl) (by unfold maxLen; omega) (by omega) (by simp; omega) ?_; intro v' w2 hown' hgrow hnil; have HM2 : Hid (Mm w gr gd ge base n R0 D0 E0 v' (stk ++ [j]) w2) := HM.out.push j hown' hgrow; clear hown' hgrow hnil hown)
              go_roundg m
              case measure => have := HGM.out; omega
              case rel => exact ⟨P j, stk ++ [j], rfl, by simp, hq, by simp only [List.length_append, List.length_singleton]; omega, HDm, HM2, HU2⟩
    · go_wp2
      go_ret3
      exact ⟨gr, gd, R0, D0, rfl, HM0.out.r, HM0.out.d, fun x hx => HI0.out x hx (HK0.out x (by omega)), HM0.out.bel, HM0.out.lay.2.2.2.2.2.2.1, HM0.out.lay.2.2.2.2.2.2.2.1⟩
end Go.Proofs.Qxb6600947a
