/-
  Seat b6600500a: the plain laws on bytes (nothing of the program's translation is imported here).
-/
import Derived.WalkKit
namespace Go.Proofs.Qxb6600500a

/-- Byte k of a string as a number; 0 behind its end. -/
def bt (s : ByteArray) (k : Nat) : Int := if h : k < s.size then ((s[k]'h).toNat : Int) else 0
theorem get_bt (s : ByteArray) : ∀ (n : Nat) (h : n < s.size), ((s[n]'h).toNat : Int) = bt s n := fun n h => by unfold bt; rw [dif_pos h]
theorem bt_nonneg (s : ByteArray) (k : Nat) : 0 ≤ bt s k := by unfold bt; split <;> omega
theorem bt_le (s : ByteArray) (k : Nat) : bt s k ≤ 255 := by
  unfold bt; split
  · have := (s[k]).toNat_lt; omega
  · omega

/-- How many bytes blanks and comments take at the head of a list; the Bool: are we inside a comment? -/
def sp : Bool → List UInt8 → Nat
  | _, [] => 0
  | false, c :: l => if c = 32 ∨ c = 9 ∨ c = 13 ∨ c = 10 then sp false l + 1 else if c = 35 then sp true l + 1 else 0
  | true, c :: l => if c = 10 then sp false l + 1 else sp true l + 1

theorem sp_le : ∀ (l : List UInt8) (b : Bool), sp b l ≤ l.length
  | [], b => by cases b <;> simp [sp]
  | c :: l, false => by
    have h1 := sp_le l false
    have h2 := sp_le l true
    simp only [sp, List.length_cons]
    split
    · omega
    · split <;> omega
  | c :: l, true => by
    have h1 := sp_le l false
    have h2 := sp_le l true
    simp only [sp, List.length_cons]
    split <;> omega

/-- Where the scanner stops from offset k on. -/
def stop (s : ByteArray) (b : Bool) (k : Nat) : Nat := k + sp b (s.data.toList.drop k)

theorem drop_at (s : ByteArray) (k : Nat) (h : k < s.size) : s.data.toList.drop k = s[k] :: s.data.toList.drop (k + 1) := by
  rw [List.drop_eq_getElem_cons (by simpa using h)]; rfl

theorem byte_eq {c : UInt8} {n : Nat} (hn : n < 256) : (c.toNat : Int) = n ↔ c = UInt8.ofNat n := by
  constructor
  · intro h
    have h' : c.toNat = n := by omega
    apply UInt8.toNat_inj.1
    rw [h', UInt8.toNat_ofNat_of_lt' (by simpa using hn)]
  · intro h
    subst h
    rw [UInt8.toNat_ofNat_of_lt' (by simpa using hn)]

theorem bt_is (s : ByteArray) (k n : Nat) (h : k < s.size) (hn : n < 256) : bt s k = n ↔ s[k] = UInt8.ofNat n := by
  rw [← get_bt s k h]; exact byte_eq hn

theorem stop_past (s : ByteArray) (b : Bool) (k : Nat) (h : s.size ≤ k) : stop s b k = k := by
  unfold stop
  rw [List.drop_of_length_le (by simpa using h)]
  cases b <;> simp [sp]

theorem stop_blank (s : ByteArray) (k : Nat) (h : k < s.size) (hc : bt s k = 32 ∨ bt s k = 9 ∨ bt s k = 13 ∨ bt s k = 10) : stop s false (k + 1) = stop s false k := by
  have e : s[k] = 32 ∨ s[k] = 9 ∨ s[k] = 13 ∨ s[k] = 10 := by
    rcases hc with hc | hc | hc | hc
    · exact .inl ((bt_is s k 32 h (by omega)).1 hc)
    · exact .inr (.inl ((bt_is s k 9 h (by omega)).1 hc))
    · exact .inr (.inr (.inl ((bt_is s k 13 h (by omega)).1 hc)))
    · exact .inr (.inr (.inr ((bt_is s k 10 h (by omega)).1 hc)))
  unfold stop
  rw [drop_at s k h, sp, if_pos e]; omega

theorem stop_open (s : ByteArray) (k : Nat) (h : k < s.size) (hc : bt s k = 35) : stop s true k = stop s false k := by
  have e : s[k] = 35 := (bt_is s k 35 h (by omega)).1 hc
  unfold stop
  rw [drop_at s k h, sp, sp, e]; rfl

theorem stop_in (s : ByteArray) (k : Nat) (h : k < s.size) (hc : bt s k ≠ 10) : stop s true (k + 1) = stop s true k := by
  have e : ¬ s[k] = 10 := fun e => hc ((bt_is s k 10 h (by omega)).2 e)
  unfold stop
  rw [drop_at s k h, sp, if_neg e]; omega

theorem stop_out (s : ByteArray) (k : Nat) (h : s.size ≤ k ∨ bt s k = 10) : stop s true k = stop s false k := by
  by_cases hk : k < s.size
  · have e : s[k] = 10 := (bt_is s k 10 hk (by omega)).1 (by rcases h with h | h; omega; exact h)
    unfold stop
    rw [drop_at s k hk, sp, sp, e]; rfl
  · rw [stop_past s _ k (by omega), stop_past s _ k (by omega)]

theorem stop_here (s : ByteArray) (k : Nat) (h : k < s.size) (hc : bt s k ≠ 32 ∧ bt s k ≠ 9 ∧ bt s k ≠ 13 ∧ bt s k ≠ 10 ∧ bt s k ≠ 35) : stop s false k = k := by
  have e : ¬ (s[k] = 32 ∨ s[k] = 9 ∨ s[k] = 13 ∨ s[k] = 10) := by
    rintro (e | e | e | e)
    · exact hc.1 ((bt_is s k 32 h (by omega)).2 e)
    · exact hc.2.1 ((bt_is s k 9 h (by omega)).2 e)
    · exact hc.2.2.1 ((bt_is s k 13 h (by omega)).2 e)
    · exact hc.2.2.2.1 ((bt_is s k 10 h (by omega)).2 e)
  have e2 : ¬ s[k] = 35 := fun e => hc.2.2.2.2 ((bt_is s k 35 h (by omega)).2 e)
  unfold stop
  rw [drop_at s k h, sp, if_neg e, if_neg e2]; rfl

theorem stop_ge (s : ByteArray) (b : Bool) (k : Nat) : k ≤ stop s b k := by unfold stop; omega
theorem stop_le (s : ByteArray) (b : Bool) (k : Nat) (h : k ≤ s.size) : stop s b k ≤ s.size := by
  have := sp_le (s.data.toList.drop k) b
  have e : s.data.toList.length = s.size := by simp
  unfold stop
  rw [List.length_drop] at this
  omega

/-- WHERE IT STOPS STANDS A TOKEN (or nothing). -/
theorem stop_lands (s : ByteArray) : ∀ (n k : Nat) (b : Bool), s.size - k = n → stop s b k < s.size →
    bt s (stop s b k) ≠ 32 ∧ bt s (stop s b k) ≠ 9 ∧ bt s (stop s b k) ≠ 13 ∧ bt s (stop s b k) ≠ 10 ∧ bt s (stop s b k) ≠ 35
  | 0, k, b, hn, hlt => by rw [stop_past s b k (by omega)] at hlt; omega
  | n + 1, k, false, hn, hlt => by
    have hk : k < s.size := by omega
    by_cases h1 : bt s k = 32 ∨ bt s k = 9 ∨ bt s k = 13 ∨ bt s k = 10
    · rw [← stop_blank s k hk h1] at hlt ⊢
      exact stop_lands s n (k + 1) false (by omega) hlt
    · by_cases h2 : bt s k = 35
      · rw [← stop_open s k hk h2, ← stop_in s k hk (by omega)] at hlt ⊢
        exact stop_lands s n (k + 1) true (by omega) hlt
      · have hc : bt s k ≠ 32 ∧ bt s k ≠ 9 ∧ bt s k ≠ 13 ∧ bt s k ≠ 10 ∧ bt s k ≠ 35 := by omega
        rw [stop_here s k hk hc]
        exact hc
  | n + 1, k, true, hn, hlt => by
    have hk : k < s.size := by omega
    by_cases h1 : bt s k = 10
    · rw [stop_out s k (.inr h1), ← stop_blank s k hk (by omega)] at hlt ⊢
      exact stop_lands s n (k + 1) false (by omega) hlt
    · rw [← stop_in s k hk h1] at hlt ⊢
      exact stop_lands s n (k + 1) true (by omega) hlt

/-- A SECOND RUN STAYS PUT. -/
theorem stop_stays (s : ByteArray) (k : Nat) : stop s false (stop s false k) = stop s false k := by
  by_cases h : stop s false k < s.size
  · exact stop_here s _ h (stop_lands s _ k false rfl h)
  · exact stop_past s _ _ (by omega)

end Go.Proofs.Qxb6600500a
