/-
  Seat b6600947a: the walk of componentLabels.
-/
import Derived.Test.Qxb6600947aFillRows
import Derived.Test.Qxb6600947aForest
namespace Go.Proofs.Qxb6600947a
open Go.RowKit

theorem ints_upd {w : World} {g n : Nat} {f : Nat → Nat} (h : intsAt w g n (fun v => (f v : Int))) (i x : Nat) : intsAt (w.setCell ⟨g, i, none⟩ (.int .i64 (x : Int))) g n (fun v => (upd f i x v : Int)) :=
  (h.set i _).congr (fun j _ => by show (if j = i then _ else _) = Value.int .i64 ((if j = i then x else f j : Nat) : Int); split <;> rfl)
theorem ints_to {w : World} {g n : Nat} {f q : Nat → Nat} (h : intsAt w g n (fun v => (f v : Int))) (e : ∀ v, v < n → f v = q v) : intsAt w g n (fun v => (q v : Int)) :=
  h.congr (fun j hj => by show Value.int .i64 ((f j : Nat) : Int) = Value.int .i64 ((q j : Nat) : Int); rw [e j hj])

/-- The labels and the stack. -/
structure Df (W : World) (gl base n : Nat) (lab : Nat → Nat) (v : Value) (stk : List Nat) (w : World) : Prop where
  l : intsAt w gl n (fun i => (lab i : Int) - 1)
  o : w.ownsRow base 3 1 v stk.length (cellsOf stk)
  sh : ∃ gs cap, v = .slice (some ⟨gs, 0, none⟩) stk.length cap
  bel : Below gl W w
  lt : gl < base

section
variable {W : World} {gl base n : Nat} {lab : Nat → Nat} {v : Value} {stk : List Nat} {w : World} {gs len cap : Nat}
theorem Df.setL (h : Df W gl base n lab v stk w) (i c : Nat) : Df W gl base n (upd lab i (c + 1)) v stk (w.setCell ⟨gl, i, none⟩ (.int .i64 (c : Int))) :=
  ⟨(h.l.set i _).congr (fun j _ => by
    show (if j = i then _ else _) = Value.int .i64 (((if j = i then c + 1 else lab j : Nat) : Int) - 1)
    split
    · have : ((c + 1 : Nat) : Int) - 1 = (c : Int) := by omega
      rw [this]
    · rfl), ownsRow_setCell_below h.o h.lt _, h.sh, h.bel.setCell (Nat.le_refl _) _, h.lt⟩
theorem Df.clear (h : Df W gl base n lab (.slice (some ⟨gs, 0, none⟩) len cap) stk w) : Df W gl base n lab (.slice (some ⟨gs, 0, none⟩) 0 cap) [] w := by
  refine ⟨h.l, ⟨rfl, .inr ?_⟩, ⟨gs, cap, rfl⟩, h.bel, h.lt⟩
  rcases h.o.2 with ⟨h1, _⟩ | ⟨g, cp, cur, h1, h2, h3, h4, h5, h6, h7⟩
  · cases h1
  · simp only [Value.slice.injEq, Option.some.injEq, Addr.mk.injEq] at h1
    obtain ⟨⟨rfl, _, _⟩, _, rfl⟩ := h1
    exact ⟨gs, cap, cur, rfl, h2, h3, Nat.zero_le _, h5, h6, by simp [cellsOf]⟩
theorem Df.pop {x : Nat} (h : Df W gl base n lab (.slice (some ⟨gs, 0, none⟩) len cap) (stk ++ [x]) w) : Df W gl base n lab (.slice (some ⟨gs, 0, none⟩) stk.length cap) stk w := by
  refine ⟨h.l, ⟨by simp [cellsOf], .inr ?_⟩, ⟨gs, cap, rfl⟩, h.bel, h.lt⟩
  rcases h.o.2 with ⟨h1, _⟩ | ⟨g, cp, cur, h1, h2, h3, h4, h5, h6, h7⟩
  · cases h1
  · simp only [Value.slice.injEq, Option.some.injEq, Addr.mk.injEq] at h1
    obtain ⟨⟨rfl, _, _⟩, _, rfl⟩ := h1
    rw [List.length_append] at h4 h7
    refine ⟨gs, cap, cur, rfl, h2, h3, by omega, h5, h6, ?_⟩
    have e := congrArg (List.take stk.length) h7
    rw [List.take_take] at e
    have e2 : min stk.length ((stk.length + [x].length) * 1) = stk.length * 1 := by simp
    rw [e2] at e
    rw [e]
    simp [cellsOf]
theorem Df.cap_ok (h : Df W gl base n lab (.slice (some ⟨gs, 0, none⟩) len cap) stk w) : stk.length ≤ cap := by
  rcases h.o.2 with ⟨h1, _⟩ | ⟨g, cp, cur, h1, h2, h3, h4, h5, h6, h7⟩
  · cases h1
  · simp only [Value.slice.injEq, Option.some.injEq, Addr.mk.injEq] at h1
    omega
theorem Df.size (h : Df W gl base n lab v stk w) : base ≤ w.heap.size := by
  obtain ⟨gs, cap, rfl⟩ := h.sh
  have := h.o.lt gs rfl
  omega
theorem Df.push {w2 : World} {v' : Value} {o : Obj} (h : Df W gl base n lab v stk w) (x : Nat) (hown' : w2.ownsRow base 3 1 v' (stk.length + 1) (cellsOf stk ++ [.int .i64 (x : Int)])) (hgrow : (w.alloc o).grownBy w2 v.ownBlock) : Df W gl base n lab v' (stk ++ [x]) w2 := by
  have hsz := h.size
  have hlt := h.lt
  obtain ⟨gs, cap, hv⟩ := h.sh
  have hgs : base ≤ gs := (h.o.lt gs (by rw [hv]; rfl)).1
  have hob : v.ownBlock = some gs := by rw [hv]; rfl
  have hbk : ∀ k, k < base → w2.heap[k]? = w.heap[k]? := fun k hk =>
    (hgrow.block k (by simp; omega) (by rw [hob]; intro e; simp only [Option.some.injEq] at e; omega)).trans (Below.heap_alloc _ _ _ (by omega))
  refine ⟨h.l.of_block (hbk gl hlt), ?_, ?_, ?_, hlt⟩
  · have e : cellsOf (stk ++ [x]) = cellsOf stk ++ [.int .i64 (x : Int)] := by simp [cellsOf]
    rw [List.length_append, e]; exact hown'
  · rcases hown'.2 with ⟨_, h1⟩ | ⟨g, cp, cur, h1, _⟩
    · omega
    · exact ⟨g, cp, by rw [h1]; simp⟩
  · exact (h.bel.alloc (by omega) o).grown hgrow (by simp; omega) (fun k hk => by rw [hob] at hk; simp only [Option.some.injEq] at hk; omega)
theorem Df.top {x : Nat} (h : Df W gl base n lab (.slice (some ⟨gs, 0, none⟩) (stk ++ [x]).length cap) (stk ++ [x]) w) : w.cell? ⟨gs, stk.length, none⟩ = some (.int .i64 (x : Int)) := by
  rw [h.o.cellAt stk.length (by simp)]
  simp [cellsOf]
end

theorem cell_one_set (w : World) (a : Addr) (v x : Value) (t : TypeId) : ∀ j u, [x][j]? = some u → ((w.setCell a v).alloc (.cells #[x] t)).cell? ((⟨w.heap.size, 0, none⟩ : Addr).add j) = some u := by
  have h := cell_one_new (w.setCell a v) x t
  rw [World.size_setCell] at h
  exact h

theorem Mid.op_to {n : Nat} {A B : Nat → Int} {m : Nat} {st adj lab : Nat → Nat} {comps src : Nat} {op op' : Nat → Prop} {stk : List Nat} (h : Mid n A B m st adj lab comps src op stk) (e : ∀ u, op u → op' u) : Mid n A B m st adj lab comps src op' stk :=
  ⟨h.m1, h.m2, h.m3, h.m4, h.m5, h.m6, fun v hv g => by rcases h.m7 v hv g with q | q; exact .inl (e v q); exact .inr q⟩

set_option maxRecDepth 100000 in
set_option maxHeartbeats 16000000 in
theorem comp_any (n : Nat) (a1 a2 : Option Addr) (len1 len2 cap1 cap2 : Nat) (A B : Nat → Int) (m : Nat) (w : World) (hn : n ≤ 65536) (h1 : Sl w a1 len1 A) (h2 : Sl w a2 len2 B) (hm1 : m ≤ len1) (hm2 : m ≤ len2) (hl : len1 ≤ 65536) :
    Calls Try.prog 9 #[.int .i64 n, .slice a1 len1 cap1, .slice a2 len2 cap2, .int .i64 m] w fun e w' => ∃ (gl : Nat) (lab : Nat → Nat) (comps : Nat), e = .returned (.tuple #[.slice (some ⟨gl, 0, none⟩) n n, .int .i64 (comps : Nat)]) ∧
      intsAt w' gl n (fun i => (lab i : Int)) ∧ Labels n A B m lab comps ∧ Below w.heap.size w w' ∧ w.heap.size ≤ gl := by
  obtain ⟨i0, hi, hz0, hz1, hz2⟩ := info_parts Try.info3
  have hmk := run_make_row' (P := Try.prog) 22 3 (.int .i64 0) 8 Try.underlying22 Try.info3 rfl .i64 .i64 n (by omega) (by omega)
  have HS : Hid (Sl w a1 len1 A ∧ Sl w a2 len2 B) := ⟨h1, h2⟩
  have HST : Hid (∀ v, v ≤ n → stt (fun v => cE n A B v m) v ≤ 8589934592) := fun v hv => by
    have h := stt_le (fun v => cE n A B v m) (2 * m) (fun v => cE_le n A B v m) v
    have h3 : v * (2 * m) ≤ 65536 * 131072 := Nat.mul_le_mul (by omega) (by omega)
    omega
  have H0 : Hid (intsAt (w.alloc (.cells (madeCells #[.int .i64 0] n) 3)) w.heap.size n (fun v => (cE n A B v 0 : Int)) ∧ Below w.heap.size w (w.alloc (.cells (madeCells #[.int .i64 0] n) 3))) :=
    ⟨(World.rowIs_made w (.int .i64 0) n 3).congr (fun i _ => rfl), (Below.refl _ _).alloc (Nat.le_refl _) _⟩
  clear h1 h2
  go_enter Try.func9, Try.ntmps9
  go_wp2
  go_loopg [11] m (fun gk v wr => ∃ k : Nat, v = .int .i64 k ∧ k ≤ m ∧ m - k ≤ gk ∧ Hid (intsAt wr w.heap.size n (fun v => (cE n A B v k : Int)) ∧ Below w.heap.size w wr))
  case atStart => exact ⟨0, rfl, Nat.zero_le _, by omega, H0⟩
  case round =>
    obtain ⟨k, rfl, hk, hg, HR⟩ := hrel
    clear H0
    by_cases hlt : k < m
    · obtain ⟨g1, rfl, r1⟩ : ∃ g, a1 = some ⟨g, 0, none⟩ ∧ intsAt w g len1 A := by
        rcases HS.out.1 with h | h
        · omega
        · exact h
      obtain ⟨g2, rfl, r2⟩ : ∃ g, a2 = some ⟨g, 0, none⟩ ∧ intsAt w g len2 B := by
        rcases HS.out.2 with h | h
        · omega
        · exact h
      have ck1 := (below_row HR.out.2 r1 r1.lt).cell (i := k) (by omega)
      have ck2 := (below_row HR.out.2 r2 r2.lt).cell (i := k) (by omega)
      clear r1 r2
      by_cases hv : valid n (A k) (B k)
      · have HV : Hid (valid n (A k) (B k)) := hv
        obtain ⟨x, hx⟩ : ∃ x : Nat, A k = x := ⟨(A k).toNat, by have := hv.1; omega⟩
        obtain ⟨y, hy⟩ : ∃ y : Nat, B k = y := ⟨(B k).toNat, by have := hv.2; omega⟩
        have hxn : x < n := by have := hv.1; omega
        have hyn : y < n := by have := hv.2; omega
        rw [hx] at ck1
        rw [hy] at ck2
        have HXY : Hid (A k = x ∧ B k = y) := ⟨hx, hy⟩
        clear hv hx hy
        have cx : wr.cell? ⟨w.heap.size, x, none⟩ = some (.int .i64 ((cE n A B x k : Nat) : Int)) := HR.out.1.cell hxn
        have cy : wr.cell? ⟨w.heap.size, y, none⟩ = some (.int .i64 ((cE n A B y k : Nat) : Int)) := HR.out.1.cell hyn
        have fx := HR.out.1.frozen x
        have fy := HR.out.1.frozen y
        have bx := cE_le n A B x k
        have byy := cE_le n A B y k
        by_cases hxy : x = y
        · subst hxy
          clear cy fy byy
          go_wp2
          go_roundg (gk - 1)
          case measure => omega
          case rel =>
            refine ⟨k + 1, by go_num, by omega, by omega, ints_to (ints_upd (ints_upd HR.out.1 x (cE n A B x k + 1)) x (cE n A B x k + 1 + 1)) (fun v _ => ?_), (HR.out.2.setCell (Nat.le_refl _) _).setCell (Nat.le_refl _) _⟩
            rw [← cE_step HV.out HXY.out.1 HXY.out.2 v, upd_same (fun v => cE n A B v k) x]
        · go_wp2
          go_roundg (gk - 1)
          case measure => omega
          case rel =>
            refine ⟨k + 1, by go_num, by omega, by omega, ints_to (ints_upd (ints_upd HR.out.1 x (cE n A B x k + 1)) y (cE n A B y k + 1)) (fun v _ => ?_), (HR.out.2.setCell (Nat.le_refl _) _).setCell (Nat.le_refl _) _⟩
            rw [← cE_step HV.out HXY.out.1 HXY.out.2 v, upd_other (fun v => cE n A B v k) x _ (fun e => hxy e.symm)]
      · have HV : Hid (¬ valid n (A k) (B k)) := hv
        have hv2 : A k < 0 ∨ (n : Int) ≤ A k ∨ B k < 0 ∨ (n : Int) ≤ B k := by
          unfold valid at hv
          omega
        clear hv
        rcases hv2 with h | h | h | h
        all_goals
          go_wp2
          all_goals
            go_roundg (gk - 1)
            case measure => omega
            case rel => exact ⟨k + 1, by go_num, by omega, by omega, ints_to HR.out.1 (fun v _ => (cE_skip HV.out v).symm), HR.out.2⟩
    · have hkm : k = m := by omega
      subst hkm
      have z1 := HR.out.1.lt
      have hmk2 := run_make_row' (P := Try.prog) 22 3 (.int .i64 0) 8 Try.underlying22 Try.info3 rfl .i64 .i64 (n + 1) (by omega) (by omega)
      rw [show ((n + 1 : Nat) : Int) = (n : Int) + 1 by omega] at hmk2
      obtain ⟨w1, hw1⟩ : ∃ w1, w1 = wr := ⟨_, rfl⟩
      rw [← hw1] at HR z1 ⊢
      clear hw1
      go_wp2
      go_loopg [15] n (fun gk v wr => ∃ i : Nat, v = .int .i64 i ∧ i ≤ n ∧ n - i ≤ gk ∧ Hid (intsAt wr w1.heap.size (n + 1) (fun v => ((if v ≤ i then stt (fun v => cE n A B v k) v else 0 : Nat) : Int)) ∧ Below w1.heap.size w1 wr))
      case atStart => exact ⟨0, rfl, Nat.zero_le _, by omega, ((World.rowIs_made w1 (.int .i64 0) (n + 1) 3).congr (fun i _ => by
          show _ = Value.int .i64 ((if i ≤ 0 then stt (fun v => cE n A B v k) i else 0 : Nat) : Int)
          by_cases e : i = 0
          · subst e; rfl
          · rw [if_neg (by omega)]; rfl)), (Below.refl _ _).alloc (Nat.le_refl _) _⟩
      case round =>
        obtain ⟨i, rfl, hin, hg2, HQ⟩ := hrel
        clear hmk2
        have hst := HST.out i hin
        by_cases hlt2 : i < n
        · have cs : wr.cell? ⟨w1.heap.size, i, none⟩ = some (.int .i64 ((stt (fun v => cE n A B v k) i : Nat) : Int)) := by
            have h : wr.cell? ⟨w1.heap.size, i, none⟩ = some (.int .i64 ((if i ≤ i then stt (fun v => cE n A B v k) i else 0 : Nat) : Int)) := HQ.out.1.cell (by omega)
            rwa [if_pos (Nat.le_refl _)] at h
          have cs1 := HQ.out.1.cell (i := i + 1) (by omega)
          have fs1 := HQ.out.1.frozen (i + 1)
          have cd : wr.cell? ⟨w.heap.size, i, none⟩ = some (.int .i64 ((cE n A B i k : Nat) : Int)) := (below_row HQ.out.2 HR.out.1 z1).cell hlt2
          have bi := cE_le n A B i k
          obtain ⟨S, hS⟩ : ∃ S, S = stt (fun v => cE n A B v k) i := ⟨_, rfl⟩
          obtain ⟨dd, hdd⟩ : ∃ q, q = cE n A B i k := ⟨_, rfl⟩
          rw [← hS] at cs hst
          rw [← hdd] at cd bi
          have HSS : Hid (S = stt (fun v => cE n A B v k) i ∧ dd = cE n A B i k) := ⟨hS, hdd⟩
          clear hS hdd
          go_wp2
          go_region
          go_wp2
          go_roundg (gk - 1)
          case measure => omega
          case rel =>
            refine ⟨i + 1, by go_num, by omega, by omega, ((HQ.out.1.set (i + 1) _).congr (fun v hv => ?_)), (HQ.out.2.setCell (Nat.le_refl _) _).drew⟩
            show (if v = i + 1 then _ else _) = Value.int .i64 ((if v ≤ i + 1 then stt (fun v => cE n A B v k) v else 0 : Nat) : Int)
            by_cases e : v = i + 1
            · subst e
              rw [if_pos rfl, if_pos (Nat.le_refl _)]
              show Value.int .i64 ((S : Int) + (dd : Int)) = Value.int .i64 ((stt (fun v => cE n A B v k) i + cE n A B i k : Nat) : Int)
              rw [HSS.out.1, HSS.out.2]; rfl
            · rw [if_neg e]
              show Value.int .i64 ((if v ≤ i then stt (fun v => cE n A B v k) v else 0 : Nat) : Int) = _
              by_cases e2 : v ≤ i
              · rw [if_pos e2, if_pos (by omega)]
              · rw [if_neg e2, if_neg (by omega)]
        · have hie : i = n := by omega
          subst hie
          have H2 : Hid (intsAt wr w1.heap.size (i + 1) (fun v => (stt (fun v => cE i A B v k) v : Int)) ∧ intsAt wr w.heap.size i (fun v => (cE i A B v k : Int)) ∧ Below w.heap.size w wr) :=
            ⟨ints_to HQ.out.1 (fun v hv => if_pos (by omega)), below_row HQ.out.2 HR.out.1 z1, HR.out.2.trans (HQ.out.2.mono (Nat.le_of_lt z1))⟩
          clear HQ HR
          have z2 := H2.out.1.lt
          obtain ⟨w2, hw2⟩ : ∃ w2, w2 = wr := ⟨_, rfl⟩
          rw [← hw2] at H2 z2 ⊢
          clear hw2
          go_wp2
          go_loopg [17] i (fun gk v wr => ∃ j : Nat, v = .int .i64 j ∧ j ≤ i ∧ i - j ≤ gk ∧ Hid (intsAt wr w2.heap.size i (fun v => ((if v < j then stt (fun v => cE i A B v k) v else 0 : Nat) : Int)) ∧ Below w2.heap.size w2 wr))
          case atStart => exact ⟨0, rfl, Nat.zero_le _, by omega, ((World.rowIs_made w2 (.int .i64 0) i 3).congr (fun _ _ => rfl)), (Below.refl _ _).alloc (Nat.le_refl _) _⟩
          case round =>
            obtain ⟨j, rfl, hji, hg3, HQ⟩ := hrel
            by_cases hlt3 : j < i
            · have cs : wr.cell? ⟨w1.heap.size, j, none⟩ = some (.int .i64 ((stt (fun v => cE i A B v k) j : Nat) : Int)) := (below_row HQ.out.2 H2.out.1 z2).cell (by omega)
              have cp := HQ.out.1.cell hlt3
              have fp := HQ.out.1.frozen j
              go_wp2
              go_roundg (gk - 1)
              case measure => omega
              case rel =>
                refine ⟨j + 1, by go_num, by omega, by omega, ((HQ.out.1.set j _).congr (fun v hv => ?_)), HQ.out.2.setCell (Nat.le_refl _) _⟩
                show (if v = j then _ else _) = Value.int .i64 ((if v < j + 1 then stt (fun v => cE i A B v k) v else 0 : Nat) : Int)
                by_cases e : v = j
                · subst e; rw [if_pos rfl, if_pos (by omega)]
                · rw [if_neg e]
                  show Value.int .i64 ((if v < j then stt (fun v => cE i A B v k) v else 0 : Nat) : Int) = _
                  by_cases e2 : v < j
                  · rw [if_pos e2, if_pos (by omega)]
                  · rw [if_neg e2, if_neg (by omega)]
            · have hje : j = i := by omega
              subst hje
              have H3 : Hid (intsAt wr w2.heap.size j (fun v => (stt (fun v => cE j A B v k) v : Int)) ∧ intsAt wr w1.heap.size (j + 1) (fun v => (stt (fun v => cE j A B v k) v : Int)) ∧ Below w2.heap.size w2 wr) :=
                ⟨ints_to HQ.out.1 (fun v hv => if_pos hv), below_row HQ.out.2 H2.out.1 z2, HQ.out.2⟩
              clear HQ
              have z3 := H3.out.1.lt
              have cN : wr.cell? ⟨w1.heap.size, j, none⟩ = some (.int .i64 ((stt (fun v => cE j A B v k) j : Nat) : Int)) := H3.out.2.1.cell (by omega)
              have hM := HST.out j (Nat.le_refl _)
              obtain ⟨M, hMe⟩ : ∃ M, M = stt (fun v => cE j A B v k) j := ⟨_, rfl⟩
              rw [← hMe] at cN hM
              have HM : Hid (M = stt (fun v => cE j A B v k) j) := hMe
              have hmk3 := run_make_row' (P := Try.prog) 22 3 (.int .i64 0) 8 Try.underlying22 Try.info3 rfl .i64 .i64 M (by omega) (by omega)
              obtain ⟨w3, hw3⟩ : ∃ w3, w3 = wr := ⟨_, rfl⟩
              rw [← hw3] at H3 z3 cN ⊢
              clear hw3 hMe
              go_wp2
              go_loopg [19] k (fun gk v wr => ∃ (t : Nat) (adj : Nat → Nat), v = .int .i64 t ∧ t ≤ k ∧ k - t ≤ gk ∧ Hid (intsAt wr w2.heap.size j (fun v => ((stt (fun v => cE j A B v k) v + cE j A B v t : Nat) : Int)) ∧ intsAt wr w3.heap.size M (fun v => (adj v : Int)) ∧ Fi j (fun v => cE j A B v k) (fun v => cE j A B v t) adj (Sk j A B t) ∧ Below w2.heap.size w2 wr))
              case atStart => exact ⟨0, fun _ => 0, rfl, Nat.zero_le _, by omega, ints_to (H3.out.1.alloc _) (fun v _ => rfl), (World.rowIs_made w3 (.int .i64 0) M 3).congr (fun _ _ => rfl), Fi.start j A B k _, H3.out.2.2.trans (((Below.refl _ _).alloc (Nat.le_refl _) _).mono (Nat.le_of_lt z3))⟩
              case round =>
                obtain ⟨t, adj, rfl, htk, hg4, HQ⟩ := hrel
                clear hmk3 cN
                have hne : w2.heap.size ≠ w3.heap.size := by omega
                by_cases hlt4 : t < k
                · obtain ⟨g1, rfl, r1⟩ : ∃ g, a1 = some ⟨g, 0, none⟩ ∧ intsAt w g len1 A := by
                    rcases HS.out.1 with h | h
                    · omega
                    · exact h
                  obtain ⟨g2, rfl, r2⟩ : ∃ g, a2 = some ⟨g, 0, none⟩ ∧ intsAt w g len2 B := by
                    rcases HS.out.2 with h | h
                    · omega
                    · exact h
                  have ck1 := (below_row (H2.out.2.2.trans (HQ.out.2.2.2.mono (by omega))) r1 r1.lt).cell (i := t) (by omega)
                  have ck2 := (below_row (H2.out.2.2.trans (HQ.out.2.2.2.mono (by omega))) r2 r2.lt).cell (i := t) (by omega)
                  clear r1 r2
                  by_cases hv : valid j (A t) (B t)
                  · have HV : Hid (valid j (A t) (B t)) := hv
                    obtain ⟨x, hx⟩ : ∃ x : Nat, A t = x := ⟨(A t).toNat, by have := hv.1; omega⟩
                    obtain ⟨y, hy⟩ : ∃ y : Nat, B t = y := ⟨(B t).toNat, by have := hv.2; omega⟩
                    have hxn : x < j := by have := hv.1; omega
                    have hyn : y < j := by have := hv.2; omega
                    rw [hx] at ck1
                    rw [hy] at ck2
                    have HXY : Hid (A t = x ∧ B t = y) := ⟨hx, hy⟩
                    clear hv hx hy
                    have hx1 := cE_lt1 HV.out HXY.out.1 HXY.out.2 hlt4
                    have hy1 := cE_lt2 HV.out HXY.out.1 HXY.out.2 hlt4
                    have sx := stt_mono (fun v => cE j A B v k) (u := x + 1) j hxn
                    have sy := stt_mono (fun v => cE j A B v k) (u := y + 1) j hyn
                    have ex : stt (fun v => cE j A B v k) (x + 1) = stt (fun v => cE j A B v k) x + cE j A B x k := rfl
                    have ey : stt (fun v => cE j A B v k) (y + 1) = stt (fun v => cE j A B v k) y + cE j A B y k := rfl
                    obtain ⟨p, hp⟩ : ∃ p, p = stt (fun v => cE j A B v k) x + cE j A B x t := ⟨_, rfl⟩
                    have hpM : p < M := by rw [HM.out]; omega
                    have cx : wr.cell? ⟨w2.heap.size, x, none⟩ = some (.int .i64 ((p : Nat) : Int)) := by rw [hp]; exact HQ.out.1.cell hxn
                    have fx := HQ.out.1.frozen x
                    have ca := HQ.out.2.1.cell hpM
                    have fa := HQ.out.2.1.frozen p
                    by_cases hxy : x = y
                    · subst hxy
                      have hp1 : p + 1 < M := by rw [upd_same] at hy1; rw [HM.out]; omega
                      have ca2 := HQ.out.2.1.cell hp1
                      have fa2 := HQ.out.2.1.frozen (p + 1)
                      have HF2 : Hid (Fi j (fun v => cE j A B v k) (fun v => cE j A B v (t + 1)) (upd (upd adj p x) (p + 1) x) (Sk j A B (t + 1))) := by
                        have h1 := HQ.out.2.2.1.push (x := x) (u := x) hx1
                        have h2 := h1.push (x := x) (u := x) hy1
                        have h3 := (h2.iff (fun a b => Sk_step HV.out HXY.out.1 HXY.out.2 a b)).to (fun v => cE_step HV.out HXY.out.1 HXY.out.2 v)
                        rw [upd_same, ← Nat.add_assoc, ← hp] at h3
                        exact h3
                      have HPs : Hid (∀ v, upd (upd (fun v => stt (fun v => cE j A B v k) v + cE j A B v t) x (p + 1)) x (p + 1 + 1) v = stt (fun v => cE j A B v k) v + cE j A B v (t + 1)) := fun v => by
                        have h := cE_step HV.out HXY.out.1 HXY.out.2 v
                        by_cases e : v = x
                        · subst e; rw [upd_same] at h ⊢; rw [upd_same] at h; omega
                        · rw [upd_other _ _ _ e, upd_other _ _ _ e] at h ⊢; omega
                      clear hx1 hy1 sx sy ex ey hp
                      go_wp2
                      go_roundg (gk - 1)
                      case measure => omega
                      case rel =>
                        refine ⟨t + 1, upd (upd adj p x) (p + 1) x, by go_num, by omega, by omega, ?_, ?_, HF2, ?_⟩
                        · exact ints_to (ints_upd ((ints_upd (HQ.out.1.setOther hne _) x (p + 1)).setOther hne _) x (p + 1 + 1)) (fun v _ => HPs.out v)
                        · exact (ints_upd ((ints_upd HQ.out.2.1 p x).setOther (fun e => hne e.symm) _) (p + 1) x).setOther (fun e => hne e.symm) _
                        · exact (((HQ.out.2.2.2.setCell (by simp; omega) _).setCell (Nat.le_refl _) _).setCell (by simp; omega) _).setCell (Nat.le_refl _) _
                    · rw [upd_other (fun v => cE j A B v t) x _ (fun e => hxy e.symm)] at hy1
                      obtain ⟨p2, hp2⟩ : ∃ p, p = stt (fun v => cE j A B v k) y + cE j A B y t := ⟨_, rfl⟩
                      have hpM2 : p2 < M := by rw [HM.out]; omega
                      have cy : wr.cell? ⟨w2.heap.size, y, none⟩ = some (.int .i64 ((p2 : Nat) : Int)) := by rw [hp2]; exact HQ.out.1.cell hyn
                      have fy := HQ.out.1.frozen y
                      have ca2 := HQ.out.2.1.cell hpM2
                      have fa2 := HQ.out.2.1.frozen p2
                      have hpp : p ≠ p2 := fun e => hxy (stt_own (fun v => cE j A B v k) (e := p) (by omega) (by omega) (by omega) (by omega))
                      have HF2 : Hid (Fi j (fun v => cE j A B v k) (fun v => cE j A B v (t + 1)) (upd (upd adj p y) p2 x) (Sk j A B (t + 1))) := by
                        have h1 := HQ.out.2.2.1.push (x := x) (u := y) hx1
                        have h2 := h1.push (x := y) (u := x) (by rw [upd_other _ _ _ (fun e => hxy e.symm)]; exact hy1)
                        have h3 := (h2.iff (fun a b => Sk_step HV.out HXY.out.1 HXY.out.2 a b)).to (fun v => cE_step HV.out HXY.out.1 HXY.out.2 v)
                        rw [upd_other _ _ _ (fun e => hxy e.symm), ← hp, ← hp2] at h3
                        exact h3
                      have HPs : Hid (∀ v, upd (upd (fun v => stt (fun v => cE j A B v k) v + cE j A B v t) x (p + 1)) y (p2 + 1) v = stt (fun v => cE j A B v k) v + cE j A B v (t + 1)) := fun v => by
                        have h := cE_step HV.out HXY.out.1 HXY.out.2 v
                        rw [upd_other (fun v => cE j A B v t) x _ (fun e => hxy e.symm)] at h
                        by_cases e : v = y
                        · subst e; rw [upd_same] at h ⊢; omega
                        · rw [upd_other _ _ _ e] at h ⊢
                          by_cases e2 : v = x
                          · subst e2; rw [upd_same] at h ⊢; omega
                          · rw [upd_other _ _ _ e2] at h ⊢; omega
                      clear hx1 hy1 sx sy ex ey hp hp2
                      go_wp2
                      go_roundg (gk - 1)
                      case measure => omega
                      case rel =>
                        refine ⟨t + 1, upd (upd adj p y) p2 x, by go_num, by omega, by omega, ?_, ?_, HF2, ?_⟩
                        · exact ints_to (ints_upd ((ints_upd (HQ.out.1.setOther hne _) x (p + 1)).setOther hne _) y (p2 + 1)) (fun v _ => HPs.out v)
                        · exact (ints_upd ((ints_upd HQ.out.2.1 p y).setOther (fun e => hne e.symm) _) p2 x).setOther (fun e => hne e.symm) _
                        · exact (((HQ.out.2.2.2.setCell (by simp; omega) _).setCell (Nat.le_refl _) _).setCell (by simp; omega) _).setCell (Nat.le_refl _) _
                  · have HV : Hid (¬ valid j (A t) (B t)) := hv
                    have hv2 : A t < 0 ∨ (j : Int) ≤ A t ∨ B t < 0 ∨ (j : Int) ≤ B t := by
                      unfold valid at hv
                      omega
                    clear hv
                    rcases hv2 with h | h | h | h
                    all_goals
                      go_wp2
                      all_goals
                        go_roundg (gk - 1)
                        case measure => omega
                        case rel => exact ⟨t + 1, adj, by go_num, by omega, by omega, ints_to HQ.out.1 (fun v _ => by rw [cE_skip HV.out v]), HQ.out.2.1, (HQ.out.2.2.1.iff (fun a b => Sk_skip HV.out a b)).to (fun v => (cE_skip HV.out v).symm), HQ.out.2.2.2⟩
                · have hte : t = k := by omega
                  subst hte
                  have z4 := HQ.out.2.1.lt
                  have H4 : Hid (intsAt wr w3.heap.size M (fun v => (adj v : Int)) ∧ intsAt wr w1.heap.size (j + 1) (fun v => (stt (fun v => cE j A B v t) v : Int)) ∧ Adj j A B t (stt (fun v => cE j A B v t)) adj ∧ Below w.heap.size w wr) :=
                    ⟨HQ.out.2.1, below_row HQ.out.2.2.2 H2.out.1 z2, HQ.out.2.2.1.adj, H2.out.2.2.trans (HQ.out.2.2.2.mono (by omega))⟩
                  clear HQ H3 H2
                  obtain ⟨w4, hw4⟩ : ∃ w4, w4 = wr := ⟨_, rfl⟩
                  rw [← hw4] at H4 z4 ⊢
                  clear hw4
                  go_wp2
                  go_loopg [23] j (fun gk v wr => ∃ i : Nat, v = .int .i64 i ∧ i ≤ j ∧ j - i ≤ gk ∧ Hid (intsAt wr w4.heap.size j (fun v => if v < i then (-1 : Int) else 0) ∧ Below w4.heap.size w4 wr))
                  case atStart => exact ⟨0, rfl, Nat.zero_le _, by omega, ((World.rowIs_made w4 (.int .i64 0) j 3).congr (fun _ _ => rfl)), (Below.refl _ _).alloc (Nat.le_refl _) _⟩
                  case round =>
                    obtain ⟨i, rfl, hij, hg5, HQ⟩ := hrel
                    by_cases hlt5 : i < j
                    · have cp := HQ.out.1.cell hlt5
                      have fp := HQ.out.1.frozen i
                      go_wp2
                      go_roundg (gk - 1)
                      case measure => omega
                      case rel =>
                        refine ⟨i + 1, by go_num, by omega, by omega, ((HQ.out.1.set i _).congr (fun v hv => ?_)), HQ.out.2.setCell (Nat.le_refl _) _⟩
                        show (if v = i then _ else _) = Value.int .i64 (if v < i + 1 then (-1 : Int) else 0)
                        by_cases e : v = i
                        · subst e; rw [if_pos rfl, if_pos (by omega)]
                        · rw [if_neg e]
                          show Value.int .i64 (if v < i then (-1 : Int) else 0) = _
                          by_cases e2 : v < i
                          · rw [if_pos e2, if_pos (by omega)]
                          · rw [if_neg e2, if_neg (by omega)]
                    · have hie : i = j := by omega
                      subst hie
                      have H5 : Hid (intsAt wr w4.heap.size i (fun v => ((((fun _ => 0) : Nat → Nat) v : Nat) : Int) - 1) ∧ Below w4.heap.size w4 wr) :=
                        ⟨HQ.out.1.congr (fun v hv => by show Value.int .i64 (if v < i then (-1 : Int) else 0) = _; rw [if_pos hv]; rfl), HQ.out.2⟩
                      clear HQ
                      have z5 := H5.out.1.lt
                      obtain ⟨base, hbase⟩ : ∃ b, b = wr.heap.size := ⟨_, rfl⟩
                      have hbb : base ≤ wr.heap.size := by omega
                      have HB5 : Hid (base = wr.heap.size) := hbase
                      clear hbase hmk
                      go_wp2_with (at_make; refine wpList_make_own _ rfl _ _ 22 rfl base 3 i0 (.int .i64 0) 1 Try.underlying22 hi hz0 hz1 .i64 .i64 _ 16 rfl rfl (by omega) (by rw [hz2]; omega) (by unfold maxLen; omega) hbb ?_; intro w6 hown6 hgrow6)
                      have H6 : Hid (Df w4 w4.heap.size base i (fun _ => 0) (.slice (some ⟨wr.heap.size, 0, none⟩) 0 16) [] w6) :=
                        ⟨H5.out.1.of_block (hgrow6.block _ z5 (by simp)), hown6, ⟨_, _, rfl⟩, H5.out.2.grown hgrow6 (Nat.le_of_lt z5) (fun k hk => by cases hk), by rw [HB5.out]; exact z5⟩
                      obtain ⟨gs6, hgs6⟩ : ∃ g, g = wr.heap.size := ⟨_, rfl⟩
                      rw [← hgs6] at H6 ⊢
                      obtain ⟨gl, hgl⟩ : ∃ g, g = w4.heap.size := ⟨_, rfl⟩
                      have HGL : Hid (gl = w4.heap.size) := hgl
                      rw [← hgl] at H6 ⊢
                      clear hown6 hgrow6 hgs6 hgl H5 HB5 hbb z5
                      go_loopg [24, 25, 26] i (fun gk v cv sv wr => ∃ (s comps : Nat) (lab : Nat → Nat) (stk : List Nat), sv = .int .i64 s ∧ cv = .int .i64 comps ∧ s ≤ i ∧ comps ≤ s ∧ i - s ≤ gk ∧ Hid (Df w4 gl base i lab v stk wr ∧ Out i A B t (stt (fun v => cE i A B v t)) adj lab comps s))
                      case atStart => exact ⟨0, 0, fun _ => 0, [], rfl, rfl, Nat.zero_le _, Nat.le_refl _, by omega, H6.out, (fun _ h => absurd h (Nat.not_lt_zero _)), (fun _ _ => Nat.le_refl _), (fun _ h => absurd h (Nat.not_lt_zero _)), (fun _ _ h => absurd rfl h), (fun _ _ _ _ _ _ h => absurd rfl h)⟩
                      case round =>
                        clear H6
                        obtain ⟨s, comps, lab, stk, rfl, rfl, hsi, hcs, hg6, HD⟩ := hrel
                        obtain ⟨gs, cap, rfl⟩ := HD.out.1.sh
                        by_cases hlt6 : s < i
                        · have cl : wr.cell? ⟨gl, s, none⟩ = some (.int .i64 ((lab s : Int) - 1)) := HD.out.1.l.cell hlt6
                          have fl := HD.out.1.l.frozen s
                          by_cases hls : lab s = 0
                          · have cl' : wr.cell? ⟨gl, s, none⟩ = some (.int .i64 (-1)) := by rw [cl, hls]; rfl
                            obtain ⟨G, hG⟩ : ∃ G, G = gk := ⟨gk, rfl⟩
                            have HG : Hid (G = gk) := hG
                            have hGs : i - s ≤ G := by omega
                            have HM0 : Hid (Mid i A B t (stt (fun v => cE i A B v t)) adj (upd lab s (comps + 1)) comps s (fun u => u ∈ [s]) ([] ++ [s])) := (HD.out.2.begin hlt6 hls).op_to (fun u hu => by rw [hu]; simp)
                            have HD1 : Hid (Df w4 gl base i (upd lab s (comps + 1)) (.slice (some ⟨gs, 0, none⟩) 0 cap) [] (wr.setCell ⟨gl, s, none⟩ (.int .i64 (comps : Int)))) := (HD.out.1.setL s comps).clear
                            have hown : (wr.setCell ⟨gl, s, none⟩ (.int .i64 (comps : Int))).ownsRow base 3 1 (.slice (some ⟨gs, 0, none⟩) 0 cap) 0 (cellsOf []) := HD1.out.o
                            have hsz : base ≤ wr.heap.size := HD.out.1.size
                            have hun := un_upd hls (v := comps + 1) (by omega) i
                            have hul := un_le lab i
                            rw [if_pos hlt6] at hun
                            clear cl hls hG
                            go_wp2_with (at_builtin; refine wpList_append_own _ rfl _ _ 22 rfl base 3 i0 (.int .i64 0) 1 8 Try.underlying22 hi hz0 hz1 hz2 rfl (by decide) _ _ _ rfl (hown.alloc _) ⟨wr.heap.size, 0, none⟩ 1 1 [.int .i64 (s : Int)] rfl rfl (cell_one_set _ _ _ _ _) (by intro u hu; simp at hu; subst hu; rfl) (by unfold maxLen; omega) (by omega) (by simp; omega) ?_; intro v' w7 hown' hgrow hnil; have HP2 : Hid (Df w4 gl base i (upd lab s (comps + 1)) v' ([] ++ [s]) w7) := HD1.out.push s hown' hgrow; clear hown' hgrow hnil hown)
                            go_loopg [24] (2 * i + 1) (fun gk v wr => ∃ (lab : Nat → Nat) (stk : List Nat), 2 * un lab i + stk.length ≤ gk ∧ gk ≤ 2 * i + 1 ∧ Hid (Df w4 gl base i lab v stk wr ∧ Mid i A B t (stt (fun v => cE i A B v t)) adj lab comps s (fun u => u ∈ stk) stk))
                            case atStart => exact ⟨_, _, by simp; omega, Nat.le_refl _, HP2.out, HM0.out⟩
                            case round =>
                              clear HP2 HM0 HD1 HD cl' fl hun hul hsz
                              obtain ⟨lab1, stk1, hms, hgk7, HE⟩ := hrel
                              obtain ⟨gs1, cap1', rfl⟩ := HE.out.1.sh
                              by_cases hnil : stk1 = []
                              · subst hnil
                                have HO : Hid (Df w4 gl base i lab1 (.slice (some ⟨gs1, 0, none⟩) 0 cap1') [] wr ∧ Out i A B t (stt (fun v => cE i A B v t)) adj lab1 (comps + 1) (s + 1)) := ⟨HE.out.1, HE.out.2.finish (fun u h => by cases h)⟩
                                clear HE
                                go_wp2
                                go_roundg (G - 1)
                                case measure => have := HG.out; omega
                                case rel => exact ⟨s + 1, comps + 1, lab1, [], by go_num, by go_num, by omega, by omega, by omega, HO⟩
                              · obtain ⟨stk2, x, rfl⟩ : ∃ l x, stk1 = l ++ [x] := ⟨_, _, (List.dropLast_concat_getLast hnil).symm⟩
                                have ct := HE.out.1.top
                                have hcap := HE.out.1.cap_ok
                                have hx6 := HE.out.2.m6 x (by simp)
                                have hxi : x < i := hx6.1
                                obtain ⟨L, hL⟩ : ∃ L, L = stk2.length := ⟨_, rfl⟩
                                have eL : (stk2 ++ [x]).length = L + 1 := by rw [hL]; simp
                                rw [eL] at hms hcap ⊢
                                rw [← hL] at ct
                                have HL : Hid (L = stk2.length) := hL
                                have HE2 : Hid (Df w4 gl base i lab1 (.slice (some ⟨gs1, 0, none⟩) L cap1') stk2 wr ∧ Mid i A B t (stt (fun v => cE i A B v t)) adj lab1 comps s (fun u => u ∈ stk2 ∨ u = x) stk2 ∧ lab1 x = comps + 1) := by rw [hL]; exact ⟨HE.out.1.pop, HE.out.2.pop, hx6.2⟩
                                have cs0 : wr.cell? ⟨w1.heap.size, x, none⟩ = some (.int .i64 ((stt (fun v => cE i A B v t) x : Nat) : Int)) := (below_row HE.out.1.bel H4.out.2.1 (by have := H4.out.2.1.lt; have := HGL.out; omega)).cell (by omega)
                                obtain ⟨G2, hG2⟩ : ∃ G, G = gk := ⟨gk, rfl⟩
                                have HG2 : Hid (G2 = gk) := hG2
                                have hms2 : 2 * un lab1 i + L + 1 ≤ G2 := by omega
                                have hG2b : G2 ≤ 2 * i + 1 := by omega
                                have smx := stt_mono (fun v => cE i A B v t) (u := x) (x + 1) (by omega)
                                have sbx := HST.out (x + 1) (by omega)
                                have sbM := stt_mono (fun v => cE i A B v t) (u := x + 1) i hxi
                                obtain ⟨s0, hs0⟩ : ∃ q, q = stt (fun v => cE i A B v t) x := ⟨_, rfl⟩
                                obtain ⟨s1, hs1⟩ : ∃ q, q = stt (fun v => cE i A B v t) (x + 1) := ⟨_, rfl⟩
                                have hsM : s1 ≤ M := by rw [hs1, HM.out]; exact sbM
                                rw [← hs0] at cs0 smx
                                rw [← hs1] at smx sbx
                                have HSS : Hid (s0 = stt (fun v => cE i A B v t) x ∧ s1 = stt (fun v => cE i A B v t) (x + 1)) := ⟨hs0, hs1⟩
                                clear HE hx6 eL hL hG2 hs0 hs1 sbM hnil hms hgk7
                                go_wp2
                                go_loopg [24, 28] (s1 - s0) (fun gk v ev wr => ∃ (e : Nat) (lab : Nat → Nat) (stk : List Nat), ev = .int .i64 e ∧ s0 ≤ e ∧ e ≤ s1 ∧ s1 - e ≤ gk ∧ 2 * un lab i + stk.length + 1 ≤ G2 ∧ Hid (Df w4 gl base i lab v stk wr ∧ Mid i A B t (stt (fun v => cE i A B v t)) adj lab comps s (fun u => u ∈ stk ∨ u = x) stk ∧ lab x = comps + 1 ∧ ∀ e', s0 ≤ e' → e' < e → lab (adj e') = comps + 1))
                                case atStart => exact ⟨s0, lab1, stk2, rfl, Nat.le_refl _, smx, Nat.le_refl _, by have := HL.out; omega, HE2.out.1, HE2.out.2.1, HE2.out.2.2, fun e' h1 h2 => by omega⟩
                                case round =>
                                  clear HE2 cs0 ct HL hms2 hcap
                                  obtain ⟨e, lab2, stk3, rfl, he0, he1, hge, hms3, HI⟩ := hrel
                                  obtain ⟨gs2, cap2', rfl⟩ := HI.out.1.sh
                                  have cs1 : wr.cell? ⟨w1.heap.size, x + 1, none⟩ = some (.int .i64 ((s1 : Nat) : Int)) := by rw [HSS.out.2]; exact (below_row HI.out.1.bel H4.out.2.1 (by have := H4.out.2.1.lt; have := HGL.out; omega)).cell (by omega)
                                  by_cases hle : e < s1
                                  · have ca : wr.cell? ⟨w3.heap.size, e, none⟩ = some (.int .i64 ((adj e : Nat) : Int)) := (below_row HI.out.1.bel H4.out.1 (by have := HGL.out; omega)).cell (by omega)
                                    have g1' : stt (fun v => cE i A B v t) x ≤ e := by rw [← HSS.out.1]; exact he0
                                    have g2' : e < stt (fun v => cE i A B v t) (x + 1) := by rw [← HSS.out.2]; exact hle
                                    have hwn : adj e < i := H4.out.2.2.1.lt x hxi e g1' g2'
                                    obtain ⟨u, hu⟩ : ∃ u, u = adj e := ⟨_, rfl⟩
                                    have HU : Hid (u = adj e) := hu
                                    rw [← hu] at ca hwn
                                    have cl : wr.cell? ⟨gl, u, none⟩ = some (.int .i64 ((lab2 u : Int) - 1)) := HI.out.1.l.cell hwn
                                    have fl := HI.out.1.l.frozen u
                                    by_cases hl0 : lab2 u = 0
                                    · have cl' : wr.cell? ⟨gl, u, none⟩ = some (.int .i64 (-1)) := by rw [cl, hl0]; rfl
                                      have hun := un_upd hl0 (v := comps + 1) (by omega) i
                                      rw [if_pos hwn] at hun
                                      have HX : Hid (Mid i A B t (stt (fun v => cE i A B v t)) adj (upd lab2 u (comps + 1)) comps s (fun q => q ∈ stk3 ++ [u] ∨ q = x) (stk3 ++ [u]) ∧ upd lab2 u (comps + 1) x = comps + 1 ∧ ∀ e', s0 ≤ e' → e' < e + 1 → upd lab2 u (comps + 1) (adj e') = comps + 1) := by
                                        have hw0 : lab2 (adj e) = 0 := by rw [← hu]; exact hl0
                                        have h1 := HI.out.2.1.push H4.out.2.2.1 hxi HI.out.2.2.1 g1' g2' hw0
                                        rw [← hu] at h1
                                        have hxu : x ≠ u := fun q => by have := HI.out.2.2.1; rw [q, hl0] at this; omega
                                        refine ⟨h1, by rw [upd_other _ _ _ hxu]; exact HI.out.2.2.1, fun e' q1 q2 => ?_⟩
                                        by_cases q3 : e' = e
                                        · rw [q3, ← hu, upd_same]
                                        · have q4 := HI.out.2.2.2 e' q1 (by omega)
                                          rw [upd_other _ _ _ (fun q => by rw [q, hl0] at q4; omega)]; exact q4
                                      have HD1 : Hid (Df w4 gl base i (upd lab2 u (comps + 1)) (.slice (some ⟨gs2, 0, none⟩) stk3.length cap2') stk3 (wr.setCell ⟨gl, u, none⟩ (.int .i64 (comps : Int)))) := HI.out.1.setL u comps
                                      have hown := HD1.out.o
                                      have hsz : base ≤ wr.heap.size := HI.out.1.size
                                      clear cl hl0 hu g1' g2'
                                      go_wp2_with (at_builtin; refine wpList_append_own _ rfl _ _ 22 rfl base 3 i0 (.int .i64 0) 1 8 Try.underlying22 hi hz0 hz1 hz2 rfl (by decide) _ _ _ rfl (hown.alloc _) ⟨wr.heap.size, 0, none⟩ 1 1 [.int .i64 (u : Int)] rfl rfl (cell_one_set _ _ _ _ _) (by intro u hu; simp at hu; subst hu; rfl) (by unfold maxLen; omega) (by omega) (by simp; omega) ?_; intro v' w7 hown' hgrow hnil; have HP2 : Hid (Df w4 gl base i (upd lab2 u (comps + 1)) v' (stk3 ++ [u]) w7) := HD1.out.push u hown' hgrow; clear hown' hgrow hnil hown)
                                      go_roundg (gk - 1)
                                      case measure => omega
                                      case rel => exact ⟨e + 1, upd lab2 u (comps + 1), stk3 ++ [u], by go_num, by omega, by omega, by omega, by simp only [List.length_append, List.length_singleton]; omega, HP2.out, HX.out.1, HX.out.2.1, HX.out.2.2⟩
                                    · have hl1 : (((lab2 u : Int) - 1) == -1) = false := by simp; omega
                                      have hl1b : 0 ≤ (lab2 u : Int) - 1 := by omega
                                      have HX : Hid (∀ e', s0 ≤ e' → e' < e + 1 → lab2 (adj e') = comps + 1) := by
                                        intro e' q1 q2
                                        by_cases q3 : e' = e
                                        · rw [q3]; exact HI.out.2.1.near H4.out.2.2.1 hxi HI.out.2.2.1 g1' g2' (by rw [← hu]; exact hl0)
                                        · exact HI.out.2.2.2 e' q1 (by omega)
                                      obtain ⟨lv, hlv⟩ : ∃ q, q = (lab2 u : Int) - 1 := ⟨_, rfl⟩
                                      rw [← hlv] at cl hl1 hl1b
                                      clear hl0 hu hlv g1' g2'
                                      go_wp2
                                      go_roundg (gk - 1)
                                      case measure => omega
                                      case rel => exact ⟨e + 1, lab2, stk3, by go_num, by omega, by omega, by omega, hms3, HI.out.1, HI.out.2.1, HI.out.2.2.1, HX⟩
                                  · have HX : Hid (Mid i A B t (stt (fun v => cE i A B v t)) adj lab2 comps s (fun q => q ∈ stk3) stk3) := HI.out.2.1.done HI.out.2.2.1 (fun e' q1 q2 => HI.out.2.2.2 e' (by rw [HSS.out.1]; exact q1) (by have := HSS.out.2; omega))
                                    go_wp2
                                    go_roundg (G2 - 1)
                                    case measure => have := HG2.out; omega
                                    case rel => exact ⟨lab2, stk3, by omega, by omega, HI.out.1, HX⟩
                          · have hl1 : (((lab s : Int) - 1) != -1) = true := by simp; omega
                            have hl1b : 0 ≤ (lab s : Int) - 1 := by omega
                            have HO : Hid (Out i A B t (stt (fun v => cE i A B v t)) adj lab comps (s + 1)) := ⟨fun q hq => by
                              by_cases e : q = s
                              · rw [e]; exact hls
                              · exact HD.out.2.o1 q (by omega), HD.out.2.o2, HD.out.2.o3, HD.out.2.o4, HD.out.2.o5⟩
                            obtain ⟨lv, hlv⟩ : ∃ q, q = (lab s : Int) - 1 := ⟨_, rfl⟩
                            rw [← hlv] at cl hl1 hl1b
                            clear hls hlv
                            go_wp2
                            go_roundg (gk - 1)
                            case measure => omega
                            case rel => exact ⟨s + 1, comps, lab, stk, by go_num, rfl, by omega, by omega, by omega, HD.out.1, HO⟩
                        · have hse : s = i := by omega
                          subst hse
                          go_wp2
                          go_ret2
                          have hlb := HD.out.2.o1
                          refine ⟨gl, fun q => lab q - 1, comps, rfl, HD.out.1.l.congr (fun q hq => ?_), HD.out.2.labels H4.out.2.2.1, H4.out.2.2.2.trans (HD.out.1.bel.mono (by have := HGL.out; have := H4.out.2.2.2.size; omega)), by have := HGL.out; have := H4.out.2.2.2.size; omega⟩
                          show Value.int .i64 ((lab q : Int) - 1) = Value.int .i64 ((lab q - 1 : Nat) : Int)
                          have := hlb q hq
                          rw [show ((lab q - 1 : Nat) : Int) = (lab q : Int) - 1 by omega]
end Go.Proofs.Qxb6600947a
