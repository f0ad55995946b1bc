/-
  Seat b6600500a: the plain laws of (*scanner).str.
-/
import Derived.Test.Qxb6600500aPlain
import Derived.Lib.Strings
namespace Go.Proofs.Qxb6600500a

/-- Do n bytes q stand at the list's head? -/
def pre (q : UInt8) : Nat → List UInt8 → Bool
  | 0, _ => true
  | _ + 1, [] => false
  | n + 1, c :: l => c == q && pre q n l

/-- How many bytes q stand at the list's head, m at most. -/
def ext (q : UInt8) : Nat → List UInt8 → Nat
  | 0, _ => 0
  | _ + 1, [] => 0
  | m + 1, c :: l => if c = q then ext q m l + 1 else 0

/-- What closes the string, and what follows it. -/
def shut (q : UInt8) (n : Nat) (l : List UInt8) : Nat := n + if n = 3 then ext q 2 (l.drop n) else 0

/-- How many bytes str takes behind the opening quotes. -/
def se (q : UInt8) (n : Nat) : List UInt8 → Nat
  | [] => 0
  | [c] => if q = 34 ∧ c = 92 then 2 else if pre q n [c] = true then shut q n [c] else 1
  | c :: d :: l => if q = 34 ∧ c = 92 then se q n l + 2 else if pre q n (c :: d :: l) = true then shut q n (c :: d :: l) else se q n (d :: l) + 1

/-- The model: by the parity of the run of backslashes. -/
def me (q : UInt8) (n : Nat) : Bool → List UInt8 → Nat
  | e, [] => if q = 34 ∧ e = true then 1 else 0
  | e, c :: l => if ¬ (q = 34 ∧ e = true) ∧ pre q n (c :: l) = true then shut q n (c :: l) else me q n (if c = 92 then !e else false) l + 1

theorem se_esc (q : UInt8) (n : Nat) (c : UInt8) (l : List UInt8) (h : q = 34 ∧ c = 92) : se q n (c :: l) = se q n (l.drop 1) + 2 := by
  cases l with
  | nil => simp [se, h]
  | cons d l => simp [se, h]
theorem se_shut (q : UInt8) (n : Nat) (c : UInt8) (l : List UInt8) (h : ¬ (q = 34 ∧ c = 92)) (hp : pre q n (c :: l) = true) : se q n (c :: l) = shut q n (c :: l) := by
  cases l with
  | nil => rw [se, if_neg h, if_pos hp]
  | cons d l => rw [se, if_neg h, if_pos hp]
theorem se_on (q : UInt8) (n : Nat) (c : UInt8) (l : List UInt8) (h : ¬ (q = 34 ∧ c = 92)) (hp : ¬ pre q n (c :: l) = true) : se q n (c :: l) = se q n l + 1 := by
  cases l with
  | nil => simp only [se, if_neg h, if_neg hp]
  | cons d l => rw [se, if_neg h, if_neg hp]

theorem pre_head {q c : UInt8} {n : Nat} {l : List UInt8} (hn : 0 < n) (h : c ≠ q) : pre q n (c :: l) = false := by
  obtain ⟨m, rfl⟩ : ∃ m, n = m + 1 := ⟨n - 1, by omega⟩
  simp [pre, h]

theorem me_plain (q : UInt8) (n : Nat) (hq : q ≠ 34) : ∀ (l : List UInt8) (e : Bool), me q n e l = me q n false l
  | [], e => by simp [me, hq]
  | c :: l, e => by
    have h := me_plain q n hq l
    simp only [me, hq, false_and, not_false_eq_true, true_and]
    split
    · rfl
    · rw [h (if c = 92 then !e else false), h (if c = 92 then !false else false)]

/-- BOTH COME TO THE SAME PLACE. -/
theorem se_me (q : UInt8) (n : Nat) (hn : 0 < n) : ∀ (m : Nat) (l : List UInt8), l.length ≤ m → se q n l = me q n false l
  | _, [], _ => by simp [se, me]
  | 0, c :: l, h => by simp at h
  | m + 1, c :: l, h => by
    have hl : l.length ≤ m := by simpa using h
    by_cases he : q = 34 ∧ c = 92
    · obtain ⟨rfl, rfl⟩ := he
      have hp : pre 34 n (92 :: l) = false := pre_head hn (by decide)
      rw [se_esc 34 n 92 l ⟨rfl, rfl⟩, me, if_neg (by simp [hp]), if_pos rfl]
      cases l with
      | nil => simp [se, me]
      | cons d l =>
        have ih := se_me 34 n hn m l (by simp at hl; omega)
        rw [List.drop_succ_cons, List.drop_zero, ih]
        rw [me, if_neg (by simp)]
        have e : (if d = 92 then !(!false) else false) = false := by split <;> rfl
        rw [e]
    · by_cases hp : pre q n (c :: l) = true
      · rw [se_shut q n c l he hp, me, if_pos ⟨by simp, hp⟩]
      · have ih := se_me q n hn m l hl
        rw [se_on q n c l he hp, me, if_neg (fun h => hp h.2), ih]
        by_cases hc : c = 92
        · have hq : q ≠ 34 := fun h => he ⟨h, hc⟩
          rw [me_plain q n hq l (if c = 92 then !false else false)]
        · rw [if_neg hc]

theorem se_le (q : UInt8) (n : Nat) : ∀ (m : Nat) (l : List UInt8), l.length ≤ m → se q n l ≤ l.length + n + 3
  | _, [], _ => by simp [se]
  | 0, c :: l, h => by simp at h
  | m + 1, c :: l, h => by
    have hl : l.length ≤ m := by simpa using h
    have hx : ∀ l' : List UInt8, ext q 2 l' ≤ 2 := fun l' => by
      cases l' with
      | nil => simp [ext]
      | cons x l' =>
        simp only [ext]
        split
        · cases l' with
          | nil => simp [ext]
          | cons y l' => simp only [ext]; split <;> omega
        · omega
    by_cases he : q = 34 ∧ c = 92
    · rw [se_esc q n c l he]
      have := se_le q n m (l.drop 1) (by simp; omega)
      cases l with
      | nil => simp [se] at *
      | cons d l => simp only [List.drop_succ_cons, List.drop_zero, List.length_cons] at *; omega
    · by_cases hp : pre q n (c :: l) = true
      · rw [se_shut q n c l he hp]
        unfold shut
        have := hx ((c :: l).drop n)
        simp only [List.length_cons]
        split <;> omega
      · rw [se_on q n c l he hp]
        have := se_le q n m l hl
        simp only [List.length_cons]; omega

/-! ### At offsets of a string -/
def preAt (s : ByteArray) (q : UInt8) (n k : Nat) : Bool := pre q n (s.data.toList.drop k)
def extAt (s : ByteArray) (q : UInt8) (m k : Nat) : Nat := k + ext q m (s.data.toList.drop k)
def send (s : ByteArray) (q : UInt8) (n k : Nat) : Nat := k + se q n (s.data.toList.drop k)
def mend (s : ByteArray) (q : UInt8) (n : Nat) (e : Bool) (k : Nat) : Nat := k + me q n e (s.data.toList.drop k)

theorem bt_q (s : ByteArray) (k : Nat) (h : k < s.size) (q : UInt8) : bt s k = (q.toNat : Int) ↔ s[k] = q := by
  rw [← get_bt s k h]
  constructor
  · intro e; exact UInt8.toNat_inj.1 (by omega)
  · intro e; rw [e]

theorem send_me (s : ByteArray) (q : UInt8) (n k : Nat) (hn : 0 < n) : send s q n k = mend s q n false k := by
  unfold send mend; rw [se_me q n hn _ _ (Nat.le_refl _)]

theorem send_past (s : ByteArray) (q : UInt8) (n k : Nat) (h : s.size ≤ k) : send s q n k = k := by
  unfold send; rw [List.drop_of_length_le (by simpa using h)]; simp [se]

theorem send_esc (s : ByteArray) (q : UInt8) (n k : Nat) (h : k < s.size) (hq : q = 34) (hc : bt s k = 92) : send s q n (k + 2) = send s q n k := by
  have e : s[k] = 92 := (bt_is s k 92 h (by omega)).1 hc
  unfold send
  rw [drop_at s k h, se_esc q n _ _ ⟨hq, e⟩, List.drop_drop, show k + 1 + 1 = k + 2 by omega]
  omega

theorem send_shut (s : ByteArray) (q : UInt8) (n k : Nat) (h : k < s.size) (hq : q ≠ 34 ∨ bt s k ≠ 92) (hp : preAt s q n k = true) : send s q n k = if n = 3 then extAt s q 2 (k + n) else k + n := by
  have e : ¬ (q = 34 ∧ s[k] = 92) := fun ⟨a, b⟩ => by
    rcases hq with hq | hq
    · exact hq a
    · exact hq ((bt_is s k 92 h (by omega)).2 b)
  unfold preAt at hp
  unfold send extAt
  rw [drop_at s k h] at hp ⊢
  rw [se_shut q n _ _ e hp]
  unfold shut
  rw [← drop_at s k h, List.drop_drop]
  split <;> omega

theorem send_on (s : ByteArray) (q : UInt8) (n k : Nat) (h : k < s.size) (hq : q ≠ 34 ∨ bt s k ≠ 92) (hp : preAt s q n k = false) : send s q n (k + 1) = send s q n k := by
  have e : ¬ (q = 34 ∧ s[k] = 92) := fun ⟨a, b⟩ => by
    rcases hq with hq | hq
    · exact hq a
    · exact hq ((bt_is s k 92 h (by omega)).2 b)
  unfold preAt at hp
  unfold send
  rw [drop_at s k h] at hp ⊢
  rw [se_on q n _ _ e (by rw [hp]; simp)]
  omega

theorem send_bound (s : ByteArray) (q : UInt8) (n k : Nat) (h : k ≤ s.size) : send s q n k ≤ s.size + n + 3 := by
  have := se_le q n _ (s.data.toList.drop k) (Nat.le_refl _)
  unfold send
  rw [List.length_drop] at this
  have e : s.data.toList.length = s.size := by simp
  omega

theorem ext_step (s : ByteArray) (q : UInt8) (m k : Nat) (h : k < s.size) (hc : bt s k = (q.toNat : Int)) : extAt s q m (k + 1) = extAt s q (m + 1) k := by
  have e : s[k] = q := (bt_q s k h q).1 hc
  unfold extAt
  rw [drop_at s k h, ext, if_pos e]; omega
theorem ext_stop (s : ByteArray) (q : UInt8) (m k : Nat) (h : m = 0 ∨ s.size ≤ k ∨ bt s k ≠ (q.toNat : Int)) : extAt s q m k = k := by
  unfold extAt
  cases m with
  | zero => rfl
  | succ m =>
    by_cases hk : k < s.size
    · have e : ¬ s[k] = q := fun e => by
        rcases h with h | h | h
        · omega
        · omega
        · exact h ((bt_q s k hk q).2 e)
      rw [drop_at s k hk, ext, if_neg e]; rfl
    · rw [List.drop_of_length_le (by simp; omega), ext]; rfl

theorem pre_zero (s : ByteArray) (q : UInt8) (k : Nat) : preAt s q 0 k = true := rfl
theorem pre_step (s : ByteArray) (q : UInt8) (n k : Nat) (h : k < s.size) (hc : bt s k = (q.toNat : Int)) : preAt s q (n + 1) k = preAt s q n (k + 1) := by
  have e : s[k] = q := (bt_q s k h q).1 hc
  unfold preAt
  rw [drop_at s k h, pre, e]; simp
theorem pre_not (s : ByteArray) (q : UInt8) (n k : Nat) (hn : 0 < n) (h : k < s.size) (hc : bt s k ≠ (q.toNat : Int)) : preAt s q n k = false := by
  have e : s[k] ≠ q := fun e => hc ((bt_q s k h q).2 e)
  unfold preAt
  rw [drop_at s k h, pre_head hn e]
theorem pre_length (q : UInt8) : ∀ (n : Nat) (l : List UInt8), pre q n l = true → n ≤ l.length
  | 0, _, _ => Nat.zero_le _
  | n + 1, [], h => by simp [pre] at h
  | n + 1, c :: l, h => by
    simp only [pre, Bool.and_eq_true] at h
    have := pre_length q n l h.2
    simp only [List.length_cons]; omega
theorem pre_short (s : ByteArray) (q : UInt8) (n k : Nat) (h : s.size < k + n) (hk : k ≤ s.size) : preAt s q n k = false := by
  cases hp : preAt s q n k with
  | false => rfl
  | true =>
    have := pre_length q n _ hp
    rw [List.length_drop] at this
    have e : s.data.toList.length = s.size := by simp
    omega
theorem pre_fits (s : ByteArray) (q : UInt8) (n k : Nat) (hk : k ≤ s.size) (h : preAt s q n k = true) : k + n ≤ s.size := by
  rcases Nat.lt_or_ge s.size (k + n) with hl | hl
  · rw [pre_short s q n k hl hk] at h; cases h
  · exact hl

theorem prefix_pre (q : UInt8) : ∀ (n : Nat) (l : List UInt8), (List.replicate n q).isPrefixOf l = pre q n l
  | 0, l => by simp [pre]
  | n + 1, [] => by simp [pre, List.replicate_succ]
  | n + 1, c :: l => by
    have ih := prefix_pre q n l
    rw [List.replicate_succ, List.isPrefixOf_cons_cons, ih, pre]
    congr 1
    by_cases h : q = c
    · subst h; simp
    · have h2 : c ≠ q := fun e => h e.symm
      rw [beq_eq_false_iff_ne.2 h, beq_eq_false_iff_ne.2 h2]

/-- The model's steps. -/
theorem mend_past (s : ByteArray) (q : UInt8) (n : Nat) (e : Bool) (k : Nat) (h : k = s.size) : mend s q n e k = if q = 34 ∧ e = true then s.size + 1 else s.size := by
  unfold mend; rw [List.drop_of_length_le (by simp; omega), me]; split <;> omega
theorem mend_shut (s : ByteArray) (q : UInt8) (n : Nat) (e : Bool) (k : Nat) (h : k < s.size) (hq : ¬ (q = 34 ∧ e = true)) (hp : preAt s q n k = true) : mend s q n e k = if n = 3 then extAt s q 2 (k + n) else k + n := by
  unfold preAt at hp
  unfold mend extAt
  rw [drop_at s k h] at hp ⊢
  rw [me, if_pos ⟨hq, hp⟩]
  unfold shut
  rw [← drop_at s k h, List.drop_drop]
  split <;> omega
theorem mend_on (s : ByteArray) (q : UInt8) (n : Nat) (e : Bool) (k : Nat) (h : k < s.size) (hq : (q = 34 ∧ e = true) ∨ preAt s q n k = false) : mend s q n (if bt s k = 92 then !e else false) (k + 1) = mend s q n e k := by
  have hb : (bt s k = 92) = (s[k] = 92) := propext (bt_is s k 92 h (by omega))
  unfold preAt at hq
  unfold mend
  rw [drop_at s k h] at hq ⊢
  have hn : ¬ (¬ (q = 34 ∧ e = true) ∧ pre q n (s[k] :: s.data.toList.drop (k + 1)) = true) := fun ⟨a, b⟩ => by
    rcases hq with hq | hq
    · exact a hq
    · rw [hq] at b; exact Bool.false_ne_true b
  rw [me, if_neg hn]
  simp only [hb]
  omega

end Go.Proofs.Qxb6600500a
