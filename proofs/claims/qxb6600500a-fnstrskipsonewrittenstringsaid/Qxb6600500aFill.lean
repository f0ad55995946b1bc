/-
  Seat b6600500a: the walk of zzWriteFiller.
-/
import Derived.Test.Qxb6600500aRows
import Derived.Test.Qxb6600500aFillPlain
import Derived.WalkKit
import Derived.WalkSpells
import Derived.Deep.LoopGhost
import Derived.Maps.AppendAt
import Derived.Lib.BufferRead
namespace Go.Proofs.Qxb6600500a
open Go.RowKit

theorem Try.info5 : (Try.prog.info? 5).map (fun i => (i.zero, i.size, i.bytes)) = some (some (.int .u8 0), 1, 1) := by kernel_rfl

/-- One byte more in a row of bytes that the call itself made. -/
theorem step_push {B : Nat} {w wr w1 : World} {o : Obj} {v v' : Value} {acc : List UInt8} {n : Int} (c : UInt8) (hn : (c.toNat : Int) = n) (hB : B ≤ w.heap.size)
    (hown : wr.ownsRow B 5 1 v acc.length (Lib.byteCells acc)) (hbel : Below B w wr)
    (hown' : w1.ownsRow B 5 1 v' (acc.length + 1) (Lib.byteCells acc ++ [.int .u8 n])) (hgrow : (wr.alloc o).grownBy w1 v.ownBlock) :
    w1.ownsRow B 5 1 v' (acc ++ [c]).length (Lib.byteCells (acc ++ [c])) ∧ (∃ b cap, v' = .slice (some ⟨b, 0, none⟩) (acc ++ [c]).length cap) ∧ Below B w w1 := by
  refine ⟨?_, ?_, ?_⟩
  · have e : Lib.byteCells (acc ++ [c]) = Lib.byteCells acc ++ [.int .u8 n] := by subst hn; simp [Lib.byteCells]
    rw [e, List.length_append]
    exact hown'
  · rcases hown'.2 with ⟨_, h⟩ | ⟨g, cap, cur, h, _⟩
    · omega
    · exact ⟨g, cap, by rw [h]; simp⟩
  · have hs := hbel.size
    exact (hbel.alloc (by omega) o).grown hgrow (by simp; omega) (fun k hk => (hown.lt k hk).1)

theorem one_cell (n : Int) : ∀ u ∈ [Value.int .u8 n], u.oneCell' = true := by intro u hu; simp at hu; subst hu; rfl

set_option maxHeartbeats 4000000 in
theorem fill_any (lay notes : ByteArray) (w : World) (hl : lay.size ≤ 1048576) (hn : notes.size ≤ 1048576) :
    Calls Try.prog 13 #[.string lay, .string notes] w fun e w' => e = .returned (.string ⟨(fill lay.data.toList notes.data.toList).toArray⟩) ∧ Below w.heap.size w w' := by
  obtain ⟨i0, hi, hz0, hz1, hz2⟩ := info_parts Try.info5
  obtain ⟨F, hF⟩ : ∃ F, F = fill lay.data.toList notes.data.toList := ⟨_, rfl⟩
  have HF : Hid (F = fill lay.data.toList notes.data.toList) := hF
  have hFl : F.length ≤ 2 * lay.size + notes.size := by
    have := fill_le lay.data.toList notes.data.toList
    rw [← hF] at this
    simpa using this
  rw [← hF]
  clear hF
  go_enter Try.func13, Try.ntmps13
  go_wp2_with (at_make; refine wpList_make_own _ rfl _ _ 34 rfl w.heap.size 5 i0 (.int .u8 0) 1 Try.underlying34 hi hz0 hz1 .i64 .i64 _ (2 * lay.size + notes.size) rfl rfl (by omega) (by rw [hz2]; omega) (by unfold maxLen; omega) (Nat.le_refl _) ?_; intro w1 hown1 hgrow1)
  have hbel1 : Below w.heap.size w w1 := (Below.refl _ _).grown hgrow1 (Nat.le_refl _) (fun k hk => by cases hk)
  clear hgrow1
  go_loopg [5, 6, 7] (lay.size) (fun g v x i wr => ∃ (k nx : Nat) (acc : List UInt8), i = .int .i64 k ∧ x = .int .i64 nx ∧ k ≤ lay.size ∧ nx ≤ notes.size ∧ lay.size - k ≤ g ∧
      wr.ownsRow w.heap.size 5 1 v acc.length (Lib.byteCells acc) ∧ (∃ b cap, v = .slice (some ⟨b, 0, none⟩) acc.length cap) ∧ Below w.heap.size w wr ∧ Hid (acc ++ fill (lay.data.toList.drop k) (notes.data.toList.drop nx) = F))
  case atStart => exact ⟨0, 0, [], rfl, rfl, Nat.zero_le _, Nat.zero_le _, by omega, hown1, ⟨_, _, rfl⟩, hbel1, HF.out.symm⟩
  case round =>
    obtain ⟨k, nx, acc, rfl, rfl, hk, hnx, hg, hown, ⟨vb, vcap, rfl⟩, hbel, HR⟩ := hrel
    have hacc : acc.length ≤ F.length := by rw [← HR.out]; simp
    have hsz := hbel.size
    have hb := get_bt lay
    have hb0 := bt_nonneg lay k
    have hb1 := bt_le lay k
    clear hown1 hbel1
    by_cases hlt : k < lay.size
    · have hf := fill_at lay k hlt (notes.data.toList.drop nx)
      by_cases m0 : bt lay k % 5 = 0
      · have HE : Hid ((acc ++ [32]) ++ fill (lay.data.toList.drop (k + 1)) (notes.data.toList.drop nx) = F) := by
          rw [if_pos m0] at hf; rw [List.append_assoc, List.singleton_append, ← hf]; exact HR
        have _hacc2 : (acc ++ [(32 : UInt8)]).length ≤ F.length := by rw [← HE.out]; simp
        clear hf HR
        go_wp2_with (at_builtin; refine wpList_append_own _ rfl _ _ 34 rfl w.heap.size 5 i0 (.int .u8 0) 1 1 Try.underlying34 hi hz0 hz1 hz2 rfl (by decide) _ _ _ rfl (hown.alloc _) ⟨wr.heap.size, 0, none⟩ 1 1 [.int .u8 32] rfl rfl (cell_one_new _ _ _) (one_cell _) (by unfold maxLen; omega) (by omega) (by simp; omega) ?_; intro v' w2 hown' hgrow hnil)
        have S := step_push 32 rfl (Nat.le_refl _) hown hbel hown' hgrow
        go_roundg (gk - 1)
        case measure => omega
        case rel => exact ⟨k + 1, nx, _, by go_num, rfl, by omega, hnx, by omega, S.1, S.2.1, S.2.2, HE⟩
      · skip
        by_cases m1 : bt lay k % 5 = 1
        · have HE : Hid ((acc ++ [9]) ++ fill (lay.data.toList.drop (k + 1)) (notes.data.toList.drop nx) = F) := by
            rw [if_neg m0, if_pos m1] at hf; rw [List.append_assoc, List.singleton_append, ← hf]; exact HR
          have _hacc2 : (acc ++ [(9 : UInt8)]).length ≤ F.length := by rw [← HE.out]; simp
          clear hf HR
          go_wp2_with (at_builtin; refine wpList_append_own _ rfl _ _ 34 rfl w.heap.size 5 i0 (.int .u8 0) 1 1 Try.underlying34 hi hz0 hz1 hz2 rfl (by decide) _ _ _ rfl (hown.alloc _) ⟨wr.heap.size, 0, none⟩ 1 1 [.int .u8 9] rfl rfl (cell_one_new _ _ _) (one_cell _) (by unfold maxLen; omega) (by omega) (by simp; omega) ?_; intro v' w2 hown' hgrow hnil)
          have S := step_push 9 rfl (Nat.le_refl _) hown hbel hown' hgrow
          go_roundg (gk - 1)
          case measure => omega
          case rel => exact ⟨k + 1, nx, _, by go_num, rfl, by omega, hnx, by omega, S.1, S.2.1, S.2.2, HE⟩
        · skip
          by_cases m2 : bt lay k % 5 = 2
          · have HE : Hid ((acc ++ [13]) ++ fill (lay.data.toList.drop (k + 1)) (notes.data.toList.drop nx) = F) := by
              rw [if_neg m0, if_neg m1, if_pos m2] at hf; rw [List.append_assoc, List.singleton_append, ← hf]; exact HR
            have _hacc2 : (acc ++ [(13 : UInt8)]).length ≤ F.length := by rw [← HE.out]; simp
            clear hf HR
            go_wp2_with (at_builtin; refine wpList_append_own _ rfl _ _ 34 rfl w.heap.size 5 i0 (.int .u8 0) 1 1 Try.underlying34 hi hz0 hz1 hz2 rfl (by decide) _ _ _ rfl (hown.alloc _) ⟨wr.heap.size, 0, none⟩ 1 1 [.int .u8 13] rfl rfl (cell_one_new _ _ _) (one_cell _) (by unfold maxLen; omega) (by omega) (by simp; omega) ?_; intro v' w2 hown' hgrow hnil)
            have S := step_push 13 rfl (Nat.le_refl _) hown hbel hown' hgrow
            go_roundg (gk - 1)
            case measure => omega
            case rel => exact ⟨k + 1, nx, _, by go_num, rfl, by omega, hnx, by omega, S.1, S.2.1, S.2.2, HE⟩
          · skip
            by_cases m3 : bt lay k % 5 = 3
            · have HE : Hid ((acc ++ [10]) ++ fill (lay.data.toList.drop (k + 1)) (notes.data.toList.drop nx) = F) := by
                rw [if_neg m0, if_neg m1, if_neg m2, if_pos m3] at hf; rw [List.append_assoc, List.singleton_append, ← hf]; exact HR
              have _hacc2 : (acc ++ [(10 : UInt8)]).length ≤ F.length := by rw [← HE.out]; simp
              clear hf HR
              go_wp2_with (at_builtin; refine wpList_append_own _ rfl _ _ 34 rfl w.heap.size 5 i0 (.int .u8 0) 1 1 Try.underlying34 hi hz0 hz1 hz2 rfl (by decide) _ _ _ rfl (hown.alloc _) ⟨wr.heap.size, 0, none⟩ 1 1 [.int .u8 10] rfl rfl (cell_one_new _ _ _) (one_cell _) (by unfold maxLen; omega) (by omega) (by simp; omega) ?_; intro v' w2 hown' hgrow hnil)
              have S := step_push 10 rfl (Nat.le_refl _) hown hbel hown' hgrow
              go_roundg (gk - 1)
              case measure => omega
              case rel => exact ⟨k + 1, nx, _, by go_num, rfl, by omega, hnx, by omega, S.1, S.2.1, S.2.2, HE⟩
            · skip
              have HE : Hid ((acc ++ [35]) ++ (line (notes.data.toList.drop nx) ++ 10 :: fill (lay.data.toList.drop (k + 1)) (rest (notes.data.toList.drop nx))) = F) := by
                rw [if_neg m0, if_neg m1, if_neg m2, if_neg m3] at hf; rw [List.append_assoc, List.singleton_append, ← hf]; exact HR
              clear hf HR
              go_wp2_with (at_builtin; refine wpList_append_own _ rfl _ _ 34 rfl w.heap.size 5 i0 (.int .u8 0) 1 1 Try.underlying34 hi hz0 hz1 hz2 rfl (by decide) _ _ _ rfl (hown.alloc _) ⟨wr.heap.size, 0, none⟩ 1 1 [.int .u8 35] rfl rfl (cell_one_new _ _ _) (one_cell _) (by unfold maxLen; omega) (by omega) (by simp; omega) ?_; intro v' w2 hown' hgrow hnil)
              have S := step_push 35 rfl (Nat.le_refl _) hown hbel hown' hgrow
              obtain ⟨hown2, ⟨vb2, vcap2, hv⟩, hbel2⟩ := S
              obtain ⟨acc2, E2⟩ : ∃ a, a = acc ++ [(35 : UInt8)] := ⟨_, rfl⟩
              rw [← E2] at hown2 hv HE
              clear E2
              subst hv
              clear hown' hgrow hnil hown hbel
              obtain ⟨G, hG⟩ : ∃ G, G = gk := ⟨gk, rfl⟩
              have HG : Hid (G = gk) := hG
              have hGk : lay.size - k ≤ G := by omega
              clear hG
              go_loopg [5, 6] (notes.size) (fun g v x wr => ∃ (nx : Nat) (acc : List UInt8), x = .int .i64 nx ∧ nx ≤ notes.size ∧ notes.size - nx ≤ g ∧
                  wr.ownsRow w.heap.size 5 1 v acc.length (Lib.byteCells acc) ∧ (∃ b cap, v = .slice (some ⟨b, 0, none⟩) acc.length cap) ∧ Below w.heap.size w wr ∧ Hid (acc ++ (line (notes.data.toList.drop nx) ++ 10 :: fill (lay.data.toList.drop (k + 1)) (rest (notes.data.toList.drop nx))) = F))
              case atStart => exact ⟨nx, _, rfl, hnx, by omega, hown2, ⟨_, _, rfl⟩, hbel2, HE⟩
              case round =>
                clear hown2 hbel2 HE hacc hsz
                obtain ⟨ny, acc', rfl, hny, hg2, hown, ⟨vb3, vcap3, rfl⟩, hbel, HI⟩ := hrel
                have hacc : acc'.length < F.length := by rw [← HI.out]; simp; omega
                have hsz := hbel.size
                have hbn := get_bt notes
                have hbn0 := bt_nonneg notes ny
                have hbn1 := bt_le notes ny
                by_cases hlt2 : ny < notes.size
                · by_cases h10 : bt notes ny = 10
                  · have HE : Hid ((acc' ++ [10]) ++ fill (lay.data.toList.drop (k + 1)) (notes.data.toList.drop (ny + 1)) = F) := by
                      rw [List.append_assoc, List.singleton_append, ← HI.out, (line_end notes ny hlt2 h10).1, (line_end notes ny hlt2 h10).2, List.nil_append]; exact rfl
                    clear HI
                    go_wp2_with (at_builtin; refine wpList_append_own _ rfl _ _ 34 rfl w.heap.size 5 i0 (.int .u8 0) 1 1 Try.underlying34 hi hz0 hz1 hz2 rfl (by decide) _ _ _ rfl (hown.alloc _) ⟨wr.heap.size, 0, none⟩ 1 1 [.int .u8 10] rfl rfl (cell_one_new _ _ _) (one_cell _) (by unfold maxLen; omega) (by omega) (by simp; omega) ?_; intro v' w2 hown' hgrow hnil)
                    have S := step_push 10 rfl (Nat.le_refl _) hown hbel hown' hgrow
                    go_roundg (G - 1)
                    case measure => have := HG.out; omega
                    case rel => exact ⟨k + 1, ny + 1, _, by go_num, by go_num, by omega, by omega, by omega, S.1, S.2.1, S.2.2, HE⟩
                  · have HE : Hid ((acc' ++ [notes[ny]]) ++ (line (notes.data.toList.drop (ny + 1)) ++ 10 :: fill (lay.data.toList.drop (k + 1)) (rest (notes.data.toList.drop (ny + 1)))) = F) := by
                      rw [List.append_assoc, List.singleton_append, ← HI.out, (line_in notes ny hlt2 h10).1, (line_in notes ny hlt2 h10).2]; exact rfl
                    clear HI
                    go_wp2_with (at_builtin; refine wpList_append_own _ rfl _ _ 34 rfl w.heap.size 5 i0 (.int .u8 0) 1 1 Try.underlying34 hi hz0 hz1 hz2 rfl (by decide) _ _ _ rfl (hown.alloc _) ⟨wr.heap.size, 0, none⟩ 1 1 [.int .u8 (bt notes ny)] rfl rfl (cell_one_new _ _ _) (one_cell _) (by unfold maxLen; omega) (by omega) (by simp; omega) ?_; intro v' w2 hown' hgrow hnil)
                    have S := step_push notes[ny] (hbn ny hlt2) (Nat.le_refl _) hown hbel hown' hgrow
                    clear hown' hgrow hnil hown hbel
                    go_wp2
                    go_roundg (gk - 1)
                    case measure => omega
                    case rel => exact ⟨ny + 1, _, by go_num, by omega, by omega, S.1, S.2.1, S.2.2, HE⟩
                · have HE : Hid ((acc' ++ [10]) ++ fill (lay.data.toList.drop (k + 1)) (notes.data.toList.drop ny) = F) := by
                    rw [List.append_assoc, List.singleton_append, ← HI.out, (line_past notes ny (by omega)).1, (line_past notes ny (by omega)).2, List.nil_append]; exact rfl
                  clear HI
                  go_wp2_with (at_builtin; refine wpList_append_own _ rfl _ _ 34 rfl w.heap.size 5 i0 (.int .u8 0) 1 1 Try.underlying34 hi hz0 hz1 hz2 rfl (by decide) _ _ _ rfl (hown.alloc _) ⟨wr.heap.size, 0, none⟩ 1 1 [.int .u8 10] rfl rfl (cell_one_new _ _ _) (one_cell _) (by unfold maxLen; omega) (by omega) (by simp; omega) ?_; intro v' w2 hown' hgrow hnil)
                  have S := step_push 10 rfl (Nat.le_refl _) hown hbel hown' hgrow
                  go_roundg (G - 1)
                  case measure => have := HG.out; omega
                  case rel => exact ⟨k + 1, ny, _, by go_num, rfl, by omega, by omega, by omega, S.1, S.2.1, S.2.2, HE⟩
    · have hke : k = lay.size := by omega
      have HE : Hid (acc = F) := by
        have h := HR.out
        rw [List.drop_of_length_le (by simp; omega), fill, List.append_nil] at h
        exact h
      have hcv := run_convert_bytes_back (P := Try.prog) wr 34 9 5 ⟨vb, 0, none⟩ vcap acc Try.underlying34 Try.underlying5 Try.underlying9 (fun j hj => hown.cells (g := vb) rfl j _ (by simp [Lib.byteCells, hj]))
      clear HR hke
      go_wp2
      go_ret
      have := HE.out
      subst this
      exact ⟨rfl, hbel⟩
end Go.Proofs.Qxb6600500a
