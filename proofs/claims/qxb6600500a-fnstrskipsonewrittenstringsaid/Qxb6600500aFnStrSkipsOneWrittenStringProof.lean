/-
  Seat b6600500a: the proof of Rows.FnStrSkipsOneWrittenStringSaid: the shell of the kit, its walk filled.
-/
import Derived.Test.Qxb6600500aRows
import Derived.WalkKit
import Derived.ProofKit
import Derived.OpenShut
import Derived.ShutString
import Derived.Test.Qxb6600500aStr
import Derived.Test.Qxb6600500aWrite
namespace Go.Proofs.Qxb6600500a.fnStrSkipsOneWrittenString
open Go.ChangeShapes Go.WideShapes Go.ChangeAt Go.RowKit
open Go.ChangeMaps (open_string shut_string)
set_option linter.unusedVariables false      -- a walk need not use every 'w<i>' (that an integer argument fits its kind)

theorem own : ownKnob Try.prog.godebug = none := by kernel_rfl

theorem bytes_yes (a0 a1 : ByteArray) (a2 : Int) (w : World) (h : a0.size + a1.size ≤ 1048576) :
    Calls Try.prog 18 #[.string a0, .string a1, .int .u8 a2] w fun e w' => e = .returned (.bool true) ∧ w' = w := by
  go_enter Try.func18, Try.ntmps18
  go_wp2
  go_ret
  exact ⟨rfl, rfl⟩
theorem bytes_no (a0 a1 : ByteArray) (a2 : Int) (w : World) (h : 1048576 < a0.size + a1.size) :
    Calls Try.prog 18 #[.string a0, .string a1, .int .u8 a2] w fun e w' => e = .returned (.bool false) ∧ w' = w := by
  go_enter Try.func18, Try.ntmps18
  go_wp2
  all_goals (go_ret; exact ⟨rfl, rfl⟩)

theorem bt_head (s : ByteArray) (c : UInt8) (t : List UInt8) (h : s.data.toList = c :: t) : 0 < s.size ∧ bt s 0 = (c.toNat : Int) := by
  have hz : 0 < s.size := by
    have e := congrArg List.length h
    rw [Array.length_toList] at e
    have e2 : s.size = (c :: t).length := e
    rw [e2]; simp
  refine ⟨hz, ?_⟩
  have e := drop_at s 0 hz
  rw [List.drop_zero, h] at e
  rw [bt_q s 0 hz]
  simp only [List.cons.injEq] at e
  exact e.1.symm

theorem parts_of (q : UInt8) (r : ByteArray) (h : ¬ 0 < r.size ∨ bt r 0 ≠ (q.toNat : Int)) : parts q r.data.toList := by
  by_cases hz : 0 < r.size
  · have e := drop_at r 0 hz
    rw [List.drop_zero] at e
    rw [e]
    intro x
    rcases h with h | h
    · exact h hz
    · exact h ((bt_q r 0 hz q).2 x)
  · have e : r.data.toList = [] := List.eq_nil_of_length_eq_zero (by rw [Array.length_toList]; show r.size = 0; omega)
    rw [e]; trivial

/-- The text's length, its first byte, and where str ends in it. -/
theorem text_facts (q : UInt8) (n : Nat) (l : List UInt8) (wb r : ByteArray) (hwb : wb.data.toList = wr q n l) (hn : n = 1 ∨ n = 3) (hr : parts q r.data.toList)
    (hk : q = 34 ∨ (q = 39 ∧ n = 1 ∧ l.any (· == q) = false) ∨ (q = 39 ∧ n = 3 ∧ tr q l = false)) :
    0 < (wb ++ r).size ∧ bt (wb ++ r) 0 = (q.toNat : Int) ∧ send (wb ++ r) q (opn (wb ++ r) q 0) (0 + opn (wb ++ r) q 0) = wb.size ∧ wb.size ≤ 2 * l.length + 2 * n := by
  have e : (wb ++ r).data.toList = wr q n l ++ r.data.toList := by rw [ByteArray.data_append, Array.toList_append, hwb]
  have hs : wb.size = (wr q n l).length := by rw [← hwb]; simp
  obtain ⟨t, ht⟩ : ∃ t, wr q n l ++ r.data.toList = q :: t := by
    rcases hn with rfl | rfl
    · exact ⟨_, rfl⟩
    · exact ⟨_, rfl⟩
  have hb := bt_head (wb ++ r) q t (e.trans ht)
  have hsk := skips q n l r.data.toList hn hr hk
  have ho : opn (wb ++ r) q 0 = n := by
    unfold opn preAt
    rw [List.drop_zero, e]
    exact hsk.1
  refine ⟨hb.1, hb.2, ?_, ?_⟩
  · rw [ho]
    unfold send
    rw [e, Nat.zero_add, hs]
    exact hsk.2
  · rw [hs]
    have := escL_le q l
    unfold wr
    simp only [List.length_append, List.length_replicate]
    omega

theorem zzstr_zero (W : World) (s : ByteArray) (q : UInt8) (hs : s.size ≤ 4194304) (ha : 0 < s.size) (HQ : Hid (bt s 0 = (q.toNat : Int))) :
    Calls Try.prog 16 #[.string s, .int .i64 0] W fun e w' => e = .returned (.int .i64 (send s q (opn s q 0) (0 + opn s q 0) : Nat)) ∧ Below W.heap.size W w' :=
  zzstr_any W s q 0 hs ha HQ

set_option maxHeartbeats 1000000 in
theorem case_big (a0 a1 : ByteArray) (a2 : Int) (w : World) (hb0 : 0 ≤ a2) (hb1 : a2 ≤ 255) (hz : 1048576 < a0.size + a1.size) :
    Calls Try.prog 7 #[.string a0, .string a1, .int .u8 a2] w fun e w' => e = .returned (.bool true) ∧ Below w.heap.size w w' := by
  all_goals
    go_enter Try.func7, Try.ntmps7
    go_wp2_with (first | (go_at_call 18; refine (bytes_no a0 a1 a2 _ hz).mono ?_; rintro e w' ⟨rfl, rfl⟩))
    all_goals (go_ret; exact ⟨rfl, Below.refl _ _⟩)

set_option maxHeartbeats 1000000 in
theorem case_content (a0 a1 : ByteArray) (a2 : Int) (w : World) (hb0 : 0 ≤ a2) (hb1 : a2 ≤ 255) (hz : a0.size + a1.size ≤ 1048576) (hc : 65536 < a0.size) :
    Calls Try.prog 7 #[.string a0, .string a1, .int .u8 a2] w fun e w' => e = .returned (.bool true) ∧ Below w.heap.size w w' := by
  all_goals
    go_enter Try.func7, Try.ntmps7
    go_wp2_with (first | (go_at_call 18; refine (bytes_yes a0 a1 a2 _ hz).mono ?_; rintro e w' ⟨rfl, rfl⟩))
    all_goals (go_ret; exact ⟨rfl, Below.refl _ _⟩)

set_option maxHeartbeats 1000000 in
theorem case_rest34 (a0 a1 : ByteArray) (a2 : Int) (w : World) (hb0 : 0 ≤ a2) (hb1 : a2 ≤ 255) (hz : a0.size + a1.size ≤ 1048576) (hc : a0.size ≤ 65536) (hk2 : (a2 % 2 == 1) = false) (h0 : 0 < a1.size) (hr : (bt a1 0 == 34) = true) :
    Calls Try.prog 7 #[.string a0, .string a1, .int .u8 a2] w fun e w' => e = .returned (.bool true) ∧ Below w.heap.size w w' := by
  have hbt := get_bt a1
  all_goals
    go_enter Try.func7, Try.ntmps7
    go_wp2_with (first | (go_at_call 18; refine (bytes_yes a0 a1 a2 _ hz).mono ?_; rintro e w' ⟨rfl, rfl⟩))
    all_goals (go_ret; exact ⟨rfl, Below.refl _ _⟩)

set_option maxHeartbeats 1000000 in
theorem case_main34_1 (a0 a1 : ByteArray) (a2 : Int) (w : World) (hb0 : 0 ≤ a2) (hb1 : a2 ≤ 255) (hz : a0.size + a1.size ≤ 1048576) (hc : a0.size ≤ 65536) (hk2 : (a2 % 2 == 1) = false) (hk4 : a2 % 4 < 2) (hr : ¬ 0 < a1.size ∨ (0 < a1.size ∧ (bt a1 0 == 34) = false)) :
    Calls Try.prog 7 #[.string a0, .string a1, .int .u8 a2] w fun e w' => e = .returned (.bool true) ∧ Below w.heap.size w w' := by
  have hbt := get_bt a1
  have HQ39 : Hid ((34 : Int) = ((34 : UInt8).toNat : Int)) := rfl
  obtain ⟨wb, hwb⟩ : ∃ wb : ByteArray, wb = ⟨(wr 34 1 a0.data.toList).toArray⟩ := ⟨_, rfl⟩
  have TF := text_facts 34 1 a0.data.toList wb a1 (by rw [hwb]) (by omega) (parts_of 34 a1 (by rcases hr with h | ⟨_, h⟩; exact .inl h; exact .inr (by simpa using h))) (.inl rfl)
  obtain ⟨t0, t1, t2, t3⟩ := TF
  have hws : wb.size ≤ 2 * a0.size + 2 := by simpa using t3
  have hts : (wb ++ a1).size ≤ 4194304 := by rw [ByteArray.size_append]; omega
  have HB0 : Hid (bt (wb ++ a1) 0 = ((34 : UInt8).toNat : Int)) := t1
  have HT : Hid (send (wb ++ a1) 34 (opn (wb ++ a1) 34 0) (0 + opn (wb ++ a1) 34 0) = wb.size) := t2
  have Ht0 : Hid (0 < (wb ++ a1).size) := t0
  have Hts : Hid ((wb ++ a1).size ≤ 4194304) := hts
  have HWB : Hid (wb = ⟨(wr 34 1 a0.data.toList).toArray⟩) := hwb
  clear hwb t0 t1 t2 t3 hts
  rcases hr with h0 | ⟨h0, h1⟩
  all_goals
    go_enter Try.func7, Try.ntmps7
    go_wp2_with (first | (go_at_call 18; refine (bytes_yes a0 a1 a2 _ hz).mono ?_; rintro e w' ⟨rfl, rfl⟩) | (go_at_call 21; refine (write_any a0 34 _ 1 true _ HQ39 (by omega) (by omega) rfl (by simp [Hid])).mono ?_; rintro e w5 ⟨rfl, hb5⟩; rw [← HWB.out]) | (go_at_call 16; refine (zzstr_zero _ _ 34 Hts.out Ht0.out HB0).mono ?_; rintro e w6 ⟨rfl, hb6⟩; rw [HT.out]))
    all_goals (go_ret; exact ⟨rfl, hb5.trans (hb6.mono hb5.size)⟩)

set_option maxHeartbeats 1000000 in
theorem case_main34_3 (a0 a1 : ByteArray) (a2 : Int) (w : World) (hb0 : 0 ≤ a2) (hb1 : a2 ≤ 255) (hz : a0.size + a1.size ≤ 1048576) (hc : a0.size ≤ 65536) (hk2 : (a2 % 2 == 1) = false) (hk4 : 2 ≤ a2 % 4) (hr : ¬ 0 < a1.size ∨ (0 < a1.size ∧ (bt a1 0 == 34) = false)) :
    Calls Try.prog 7 #[.string a0, .string a1, .int .u8 a2] w fun e w' => e = .returned (.bool true) ∧ Below w.heap.size w w' := by
  have hbt := get_bt a1
  have HQ39 : Hid ((34 : Int) = ((34 : UInt8).toNat : Int)) := rfl
  obtain ⟨wb, hwb⟩ : ∃ wb : ByteArray, wb = ⟨(wr 34 3 a0.data.toList).toArray⟩ := ⟨_, rfl⟩
  have TF := text_facts 34 3 a0.data.toList wb a1 (by rw [hwb]) (by omega) (parts_of 34 a1 (by rcases hr with h | ⟨_, h⟩; exact .inl h; exact .inr (by simpa using h))) (.inl rfl)
  obtain ⟨t0, t1, t2, t3⟩ := TF
  have hws : wb.size ≤ 2 * a0.size + 6 := by simpa using t3
  have hts : (wb ++ a1).size ≤ 4194304 := by rw [ByteArray.size_append]; omega
  have HB0 : Hid (bt (wb ++ a1) 0 = ((34 : UInt8).toNat : Int)) := t1
  have HT : Hid (send (wb ++ a1) 34 (opn (wb ++ a1) 34 0) (0 + opn (wb ++ a1) 34 0) = wb.size) := t2
  have Ht0 : Hid (0 < (wb ++ a1).size) := t0
  have Hts : Hid ((wb ++ a1).size ≤ 4194304) := hts
  have HWB : Hid (wb = ⟨(wr 34 3 a0.data.toList).toArray⟩) := hwb
  clear hwb t0 t1 t2 t3 hts
  rcases hr with h0 | ⟨h0, h1⟩
  all_goals
    go_enter Try.func7, Try.ntmps7
    go_wp2_with (first | (go_at_call 18; refine (bytes_yes a0 a1 a2 _ hz).mono ?_; rintro e w' ⟨rfl, rfl⟩) | (go_at_call 21; refine (write_any a0 34 _ 3 true _ HQ39 (by omega) (by omega) rfl (by simp [Hid])).mono ?_; rintro e w5 ⟨rfl, hb5⟩; rw [← HWB.out]) | (go_at_call 16; refine (zzstr_zero _ _ 34 Hts.out Ht0.out HB0).mono ?_; rintro e w6 ⟨rfl, hb6⟩; rw [HT.out]))
    all_goals (go_ret; exact ⟨rfl, hb5.trans (hb6.mono hb5.size)⟩)

set_option maxHeartbeats 1000000 in
theorem case_rest39 (a0 a1 : ByteArray) (a2 : Int) (w : World) (hb0 : 0 ≤ a2) (hb1 : a2 ≤ 255) (hz : a0.size + a1.size ≤ 1048576) (hc : a0.size ≤ 65536) (hk2 : (a2 % 2 == 1) = true) (h0 : 0 < a1.size) (hr : (bt a1 0 == 39) = true) :
    Calls Try.prog 7 #[.string a0, .string a1, .int .u8 a2] w fun e w' => e = .returned (.bool true) ∧ Below w.heap.size w w' := by
  have hbt := get_bt a1
  all_goals
    go_enter Try.func7, Try.ntmps7
    go_wp2_with (first | (go_at_call 18; refine (bytes_yes a0 a1 a2 _ hz).mono ?_; rintro e w' ⟨rfl, rfl⟩))
    all_goals (go_ret; exact ⟨rfl, Below.refl _ _⟩)

set_option maxHeartbeats 1000000 in
theorem case_has39_1 (a0 a1 : ByteArray) (a2 : Int) (w : World) (hb0 : 0 ≤ a2) (hb1 : a2 ≤ 255) (hz : a0.size + a1.size ≤ 1048576) (hc : a0.size ≤ 65536) (hk2 : (a2 % 2 == 1) = true) (hk4 : a2 % 4 < 2) (hr : ¬ 0 < a1.size ∨ (0 < a1.size ∧ (bt a1 0 == 39) = false)) (hhas : anyAt a0 39 0 = true) :
    Calls Try.prog 7 #[.string a0, .string a1, .int .u8 a2] w fun e w' => e = .returned (.bool true) ∧ Below w.heap.size w w' := by
  have hbt := get_bt a1
  have HQ39 : Hid ((39 : Int) = ((39 : UInt8).toNat : Int)) := rfl
  rcases hr with h0 | ⟨h0, h1⟩
  all_goals
    go_enter Try.func7, Try.ntmps7
    go_wp2_with (first | (go_at_call 18; refine (bytes_yes a0 a1 a2 _ hz).mono ?_; rintro e w' ⟨rfl, rfl⟩) | (go_at_call 19; refine (hasByte_any a0 39 _ _ HQ39 (by omega)).mono ?_; rintro e w' ⟨rfl, rfl⟩; rw [hhas]))
    all_goals (go_ret; exact ⟨rfl, Below.refl _ _⟩)

set_option maxHeartbeats 1000000 in
theorem case_main39_1 (a0 a1 : ByteArray) (a2 : Int) (w : World) (hb0 : 0 ≤ a2) (hb1 : a2 ≤ 255) (hz : a0.size + a1.size ≤ 1048576) (hc : a0.size ≤ 65536) (hk2 : (a2 % 2 == 1) = true) (hk4 : a2 % 4 < 2) (hr : ¬ 0 < a1.size ∨ (0 < a1.size ∧ (bt a1 0 == 39) = false)) (hhas : anyAt a0 39 0 = false) :
    Calls Try.prog 7 #[.string a0, .string a1, .int .u8 a2] w fun e w' => e = .returned (.bool true) ∧ Below w.heap.size w w' := by
  have hbt := get_bt a1
  have HQ39 : Hid ((39 : Int) = ((39 : UInt8).toNat : Int)) := rfl
  obtain ⟨wb, hwb⟩ : ∃ wb : ByteArray, wb = ⟨(wr 39 1 a0.data.toList).toArray⟩ := ⟨_, rfl⟩
  have Hhas : Hid (a0.data.toList.any (· == 39) = false) := by rw [← hhas]; unfold anyAt; rw [List.drop_zero]; exact rfl
  have TF := text_facts 39 1 a0.data.toList wb a1 (by rw [hwb]) (by omega) (parts_of 39 a1 (by rcases hr with h | ⟨_, h⟩; exact .inl h; exact .inr (by simpa using h))) (.inr (.inl ⟨rfl, rfl, Hhas.out⟩))
  obtain ⟨t0, t1, t2, t3⟩ := TF
  have hws : wb.size ≤ 2 * a0.size + 2 := by simpa using t3
  have hts : (wb ++ a1).size ≤ 4194304 := by rw [ByteArray.size_append]; omega
  have HB0 : Hid (bt (wb ++ a1) 0 = ((39 : UInt8).toNat : Int)) := t1
  have HT : Hid (send (wb ++ a1) 39 (opn (wb ++ a1) 39 0) (0 + opn (wb ++ a1) 39 0) = wb.size) := t2
  have Ht0 : Hid (0 < (wb ++ a1).size) := t0
  have Hts : Hid ((wb ++ a1).size ≤ 4194304) := hts
  have HWB : Hid (wb = ⟨(wr 39 1 a0.data.toList).toArray⟩) := hwb
  clear hwb t0 t1 t2 t3 hts
  rcases hr with h0 | ⟨h0, h1⟩
  all_goals
    go_enter Try.func7, Try.ntmps7
    go_wp2_with (first | (go_at_call 18; refine (bytes_yes a0 a1 a2 _ hz).mono ?_; rintro e w' ⟨rfl, rfl⟩) | (go_at_call 19; refine (hasByte_any a0 39 _ _ HQ39 (by omega)).mono ?_; rintro e w' ⟨rfl, rfl⟩; rw [hhas]) | (go_at_call 21; refine (write_any a0 39 _ 1 false _ HQ39 (by omega) (by omega) rfl (by simp [Hid])).mono ?_; rintro e w5 ⟨rfl, hb5⟩; rw [← HWB.out]) | (go_at_call 16; refine (zzstr_zero _ _ 39 Hts.out Ht0.out HB0).mono ?_; rintro e w6 ⟨rfl, hb6⟩; rw [HT.out]))
    all_goals (go_ret; exact ⟨rfl, hb5.trans (hb6.mono hb5.size)⟩)

set_option maxHeartbeats 1000000 in
theorem case_has39_3 (a0 a1 : ByteArray) (a2 : Int) (w : World) (hb0 : 0 ≤ a2) (hb1 : a2 ≤ 255) (hz : a0.size + a1.size ≤ 1048576) (hc : a0.size ≤ 65536) (hk2 : (a2 % 2 == 1) = true) (hk4 : 2 ≤ a2 % 4) (hr : ¬ 0 < a1.size ∨ (0 < a1.size ∧ (bt a1 0 == 39) = false)) (hhas : trAt a0 39 0 = true) :
    Calls Try.prog 7 #[.string a0, .string a1, .int .u8 a2] w fun e w' => e = .returned (.bool true) ∧ Below w.heap.size w w' := by
  have hbt := get_bt a1
  have HQ39 : Hid ((39 : Int) = ((39 : UInt8).toNat : Int)) := rfl
  rcases hr with h0 | ⟨h0, h1⟩
  all_goals
    go_enter Try.func7, Try.ntmps7
    go_wp2_with (first | (go_at_call 18; refine (bytes_yes a0 a1 a2 _ hz).mono ?_; rintro e w' ⟨rfl, rfl⟩) | (go_at_call 20; refine (hasTriple_any a0 39 _ _ HQ39 (by omega)).mono ?_; rintro e w' ⟨rfl, rfl⟩; rw [hhas]))
    all_goals (go_ret; exact ⟨rfl, Below.refl _ _⟩)

set_option maxHeartbeats 1000000 in
theorem case_main39_3 (a0 a1 : ByteArray) (a2 : Int) (w : World) (hb0 : 0 ≤ a2) (hb1 : a2 ≤ 255) (hz : a0.size + a1.size ≤ 1048576) (hc : a0.size ≤ 65536) (hk2 : (a2 % 2 == 1) = true) (hk4 : 2 ≤ a2 % 4) (hr : ¬ 0 < a1.size ∨ (0 < a1.size ∧ (bt a1 0 == 39) = false)) (hhas : trAt a0 39 0 = false) :
    Calls Try.prog 7 #[.string a0, .string a1, .int .u8 a2] w fun e w' => e = .returned (.bool true) ∧ Below w.heap.size w w' := by
  have hbt := get_bt a1
  have HQ39 : Hid ((39 : Int) = ((39 : UInt8).toNat : Int)) := rfl
  obtain ⟨wb, hwb⟩ : ∃ wb : ByteArray, wb = ⟨(wr 39 3 a0.data.toList).toArray⟩ := ⟨_, rfl⟩
  have Hhas : Hid (tr 39 a0.data.toList = false) := by rw [← hhas]; unfold trAt; rw [List.drop_zero]; exact rfl
  have TF := text_facts 39 3 a0.data.toList wb a1 (by rw [hwb]) (by omega) (parts_of 39 a1 (by rcases hr with h | ⟨_, h⟩; exact .inl h; exact .inr (by simpa using h))) (.inr (.inr ⟨rfl, rfl, Hhas.out⟩))
  obtain ⟨t0, t1, t2, t3⟩ := TF
  have hws : wb.size ≤ 2 * a0.size + 6 := by simpa using t3
  have hts : (wb ++ a1).size ≤ 4194304 := by rw [ByteArray.size_append]; omega
  have HB0 : Hid (bt (wb ++ a1) 0 = ((39 : UInt8).toNat : Int)) := t1
  have HT : Hid (send (wb ++ a1) 39 (opn (wb ++ a1) 39 0) (0 + opn (wb ++ a1) 39 0) = wb.size) := t2
  have Ht0 : Hid (0 < (wb ++ a1).size) := t0
  have Hts : Hid ((wb ++ a1).size ≤ 4194304) := hts
  have HWB : Hid (wb = ⟨(wr 39 3 a0.data.toList).toArray⟩) := hwb
  clear hwb t0 t1 t2 t3 hts
  rcases hr with h0 | ⟨h0, h1⟩
  all_goals
    go_enter Try.func7, Try.ntmps7
    go_wp2_with (first | (go_at_call 18; refine (bytes_yes a0 a1 a2 _ hz).mono ?_; rintro e w' ⟨rfl, rfl⟩) | (go_at_call 20; refine (hasTriple_any a0 39 _ _ HQ39 (by omega)).mono ?_; rintro e w' ⟨rfl, rfl⟩; rw [hhas]) | (go_at_call 21; refine (write_any a0 39 _ 3 false _ HQ39 (by omega) (by omega) rfl (by simp [Hid])).mono ?_; rintro e w5 ⟨rfl, hb5⟩; rw [← HWB.out]) | (go_at_call 16; refine (zzstr_zero _ _ 39 Hts.out Ht0.out HB0).mono ?_; rintro e w6 ⟨rfl, hb6⟩; rw [HT.out]))
    all_goals (go_ret; exact ⟨rfl, hb5.trans (hb6.mono hb5.size)⟩)

/-! ### The walk -/
set_option maxHeartbeats 4000000 in
theorem walk (a0 : ByteArray) (a1 : ByteArray) (a2 : Int) (w0 : a0.size ≤ maxLen) (w1 : a1.size ≤ maxLen) (w2 : (Lit.int .u8 a2).wf = true) (w : World) :
    Calls Try.prog 7 #[.string a0, .string a1, .int .u8 a2] w fun e w' => e = .returned (.bool true) ∧ Below w.heap.size w w' := by
  have hb := bounds_u8 w2
  clear w0 w1 w2
  by_cases hz : a0.size + a1.size ≤ 1048576
  · by_cases hc : a0.size ≤ 65536
    · by_cases hk2 : a2 % 2 = 1
      · have hk2' : (a2 % 2 == 1) = true := by simpa using hk2
        by_cases hr : 0 < a1.size ∧ bt a1 0 = 39
        · exact case_rest39 a0 a1 a2 w hb.1 hb.2 hz hc hk2' hr.1 (by simpa using hr.2)
        · have hr' : ¬ 0 < a1.size ∨ (0 < a1.size ∧ (bt a1 0 == 39) = false) := by
            by_cases h0 : 0 < a1.size
            · exact .inr ⟨h0, by simpa using fun h => hr ⟨h0, h⟩⟩
            · exact .inl h0
          by_cases hk4 : a2 % 4 < 2
          · cases hh : anyAt a0 39 0 with
            | true => exact case_has39_1 a0 a1 a2 w hb.1 hb.2 hz hc hk2' hk4 hr' hh
            | false => exact case_main39_1 a0 a1 a2 w hb.1 hb.2 hz hc hk2' hk4 hr' hh
          · have hk4' : 2 ≤ a2 % 4 := by omega
            cases hh : trAt a0 39 0 with
            | true => exact case_has39_3 a0 a1 a2 w hb.1 hb.2 hz hc hk2' hk4' hr' hh
            | false => exact case_main39_3 a0 a1 a2 w hb.1 hb.2 hz hc hk2' hk4' hr' hh
      · have hk2' : (a2 % 2 == 1) = false := by simpa using hk2
        by_cases hr : 0 < a1.size ∧ bt a1 0 = 34
        · exact case_rest34 a0 a1 a2 w hb.1 hb.2 hz hc hk2' hr.1 (by simpa using hr.2)
        · have hr' : ¬ 0 < a1.size ∨ (0 < a1.size ∧ (bt a1 0 == 34) = false) := by
            by_cases h0 : 0 < a1.size
            · exact .inr ⟨h0, by simpa using fun h => hr ⟨h0, h⟩⟩
            · exact .inl h0
          by_cases hk4 : a2 % 4 < 2
          · exact case_main34_1 a0 a1 a2 w hb.1 hb.2 hz hc hk2' hk4 hr'
          · exact case_main34_3 a0 a1 a2 w hb.1 hb.2 hz hc hk2' (by omega) hr'
    · exact case_content a0 a1 a2 w hb.1 hb.2 hz (by omega)
  · exact case_big a0 a1 a2 w hb.1 hb.2 (by omega)

/-! ### THE ROW's STEP: WRITTEN OUT: LEAVE IT -/
set_option maxRecDepth 100000 in
theorem lifted (os : Os) (started : os.Started) (H : Type) (enc : TypeId × Value → H) :
    ReturnsInHanded {} Try.checked os 7 .any (Rows.fnStrSkipsOneWrittenStringSpec.pre6 enc Try.prog Try.f7 Rows.fnStrSkipsOneWrittenStringRow.domain false) (Rows.fnStrSkipsOneWrittenStringSpec.post enc Try.prog Try.f7 false true false false) := by
  refine returnsInHanded_of_change (C := Try.checked) own started (by kernel_rfl) Try.func7
    (ChangeSpec.witness6 (enc := enc) (C := Try.checked) false ⟨#[], #[.string ByteArray.empty, .string ByteArray.empty, .int .u8 0], []⟩ 8 (by kernel_rfl) (by kernel_rfl) (by kernel_rfl) (by kernel_rfl)) ?_
  intro W base args ds gs before hval0 hW hcnd _
  have hval : ∀ (j : Nat) t v, Try.f7.params[j]? = some t → args[j]? = some v → Value.okWide Try.prog W .any base t v := hval0
  have hW' := hW
  obtain ⟨p, q, hA0, hV, rfl, hfz, hnd⟩ := hW
  have hA : DataW.TrodAll enc Try.prog W 0 (fun _ => true) true Try.f7.params.toList args.toList ds p := hA0
  rw [Try.params7] at hA hval
  obtain ⟨v0, vs0, d0, ds0, p0, q0, hargs, rfl, rfl, h0, r0⟩ := trodAll_cons hA
  obtain ⟨v1, vs1, d1, ds1, p1, q1, rfl, rfl, rfl, h1, r1⟩ := trodAll_cons r0
  obtain ⟨v2, vs2, d2, ds2, p2, q2, rfl, rfl, rfl, h2, r2⟩ := trodAll_cons r1
  obtain ⟨rfl, rfl, rfl⟩ := trodAll_nil r2
  obtain rfl : args = #[v0, v1, v2] := by cases args; simp_all
  obtain ⟨rfl, rfl⟩ := trodVars_none hV
  obtain ⟨a0, rfl, rfl, rfl, w0⟩ := open_string Try.underlying9 (hval 0 9 v0 rfl rfl) h0
  obtain ⟨a1, rfl, rfl, rfl, w1⟩ := open_string Try.underlying9 (hval 1 9 v1 rfl rfl) h1
  obtain ⟨a2, rfl, rfl, rfl, w2⟩ := open_int Try.underlying5 (hval 2 5 v2 rfl rfl) h2
  clear hA0 hval0
  simp only [List.append_nil] at hW'
  refine (walk a0 a1 a2 w0 w1 w2 W).mono fun e W' ⟨he, hg⟩ => ?_
  subst he
  exact ⟨_, rfl, _, _, _, [], [], [], hW', trodAll_mk1 (shut_bool Try.underlying4 _), (trodAll_cons_mk (shut_string Try.underlying9 w0) (trodAll_cons_mk (shut_string Try.underlying9 w1) (trodAll_cons_mk (shut_int Try.underlying5 w2) trodAll_mk0))), rfl, hg.frame _, fun h => by cases h⟩

theorem over : Rows.fnStrSkipsOneWrittenStringRow.holds Try.pinned (OpenSpec.ofChange Rows.fnStrSkipsOneWrittenStringSpec) :=
  OpenClaim.holds_of_wide 7 Try.f7 rfl rfl rfl rfl rfl rfl rfl ⟨rfl, rfl, rfl, rfl, rfl⟩ rfl rfl rfl rfl rfl (by kernel_rfl) Try.func7 (by kernel_rfl)
    (of_decide_eq_true (by kernel_rfl)) (by unfold Func.isWrapper; first | (rw [if_pos (by decide +kernel)]; kernel_rfl) | (rw [if_neg (by decide +kernel)]; exact ⟨rfl, rfl⟩))
    (fun os started H enc _ => lifted os started H enc)

/-- ████ THE STATEMENT ████ -/
theorem proved : Rows.FnStrSkipsOneWrittenStringSaid :=
  over
#print axioms proved
end Go.Proofs.Qxb6600500a.fnStrSkipsOneWrittenString
