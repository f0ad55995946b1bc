/-
  Seat b6600500a: the plain law of the written string: what zzWriteString writes is skipped whole.
-/
import Derived.Test.Qxb6600500aStrPlain
namespace Go.Proofs.Qxb6600500a

/-- The content as zzWriteString writes it between its quotes. -/
def escL (q : UInt8) : List UInt8 → List UInt8
  | [] => []
  | c :: l => if q = 34 ∧ (c = 34 ∨ c = 92) then 92 :: c :: escL q l else c :: escL q l

def wr (q : UInt8) (n : Nat) (l : List UInt8) : List UInt8 := List.replicate n q ++ (escL q l ++ List.replicate n q)

theorem escL_le (q : UInt8) : ∀ l : List UInt8, (escL q l).length ≤ 2 * l.length
  | [] => by simp [escL]
  | c :: l => by
    have := escL_le q l
    simp only [escL, List.length_cons]
    split <;> simp only [List.length_cons] <;> omega

/-- Three bytes q somewhere. -/
def tr (q : UInt8) : List UInt8 → Bool
  | [] => false
  | c :: l => pre q 3 (c :: l) || tr q l

/-- The rest opens with another byte, or is empty. -/
def parts (q : UInt8) : List UInt8 → Prop
  | [] => True
  | c :: _ => c ≠ q

theorem ext_parts (q : UInt8) (m : Nat) : ∀ r : List UInt8, parts q r → ext q m r = 0
  | [], _ => by cases m <;> rfl
  | c :: r, h => by
    cases m with
    | zero => rfl
    | succ m => rw [ext, if_neg h]

theorem pre_parts (q : UInt8) (n : Nat) (hn : 0 < n) : ∀ r : List UInt8, parts q r → pre q n r = false
  | [], _ => by obtain ⟨m, rfl⟩ : ∃ m, n = m + 1 := ⟨n - 1, by omega⟩; rfl
  | c :: r, h => pre_head hn h

/-- The closing quotes. -/
theorem se_tail (q : UInt8) (n : Nat) (hn : n = 1 ∨ n = 3) (hq : q ≠ 92) (r : List UInt8) (hr : parts q r) : se q n (List.replicate n q ++ r) = n := by
  have he : ¬ (q = 34 ∧ q = 92) := fun h => hq h.2
  rcases hn with rfl | rfl
  · show se q 1 (q :: r) = 1
    rw [se_shut q 1 q r he (by simp [pre])]
    rfl
  · show se q 3 (q :: q :: q :: r) = 3
    rw [se_shut q 3 q _ he (by simp [pre])]
    show 3 + (if 3 = 3 then ext q 2 r else 0) = 3
    rw [if_pos rfl, ext_parts q 2 r hr]

/-- A double-quoted string. -/
theorem se_basic (n : Nat) (hn : n = 1 ∨ n = 3) (r : List UInt8) (hr : parts 34 r) : ∀ l : List UInt8, se 34 n (escL 34 l ++ (List.replicate n 34 ++ r)) = (escL 34 l).length + n
  | [] => by rw [escL, List.nil_append, se_tail 34 n hn (by decide) r hr]; simp
  | c :: l => by
    have ih := se_basic n hn r hr l
    simp only [escL]
    split
    · rw [List.cons_append, List.cons_append, se_esc 34 n 92 _ ⟨rfl, rfl⟩, List.drop_succ_cons, List.drop_zero, ih]
      simp only [List.length_cons]; omega
    · rename_i h
      have h1 : c ≠ 34 := fun e => h ⟨trivial, .inl e⟩
      have h2 : c ≠ 92 := fun e => h ⟨trivial, .inr e⟩
      rw [List.cons_append, se_on 34 n c _ (fun x => h2 x.2) (by rw [pre_head (by omega) h1]; simp), ih]
      simp only [List.length_cons]; omega

theorem escL_plain (q : UInt8) (hq : q ≠ 34) : ∀ l : List UInt8, escL q l = l
  | [] => rfl
  | c :: l => by rw [escL, if_neg (fun h => hq h.1), escL_plain q hq l]

/-- A literal string on one line. -/
theorem se_literal (q : UInt8) (hq : q ≠ 34) (hq2 : q ≠ 92) (r : List UInt8) (hr : parts q r) : ∀ l : List UInt8, l.any (· == q) = false → se q 1 (l ++ (List.replicate 1 q ++ r)) = l.length + 1
  | [], _ => by rw [List.nil_append, se_tail q 1 (.inl rfl) hq2 r hr]; simp
  | c :: l, h => by
    simp only [List.any_cons, Bool.or_eq_false_iff] at h
    have hc : c ≠ q := by simpa using h.1
    have ih := se_literal q hq hq2 r hr l h.2
    rw [List.cons_append, se_on q 1 c _ (fun x => hq x.1) (by rw [pre_head (by omega) hc]; simp), ih]
    simp only [List.length_cons]

/-- A literal string on several lines. -/
theorem se_lines (q : UInt8) (hq : q ≠ 34) (hq2 : q ≠ 92) (r : List UInt8) (hr : parts q r) : ∀ l : List UInt8, tr q l = false → se q 3 (l ++ (List.replicate 3 q ++ r)) = l.length + 3
  | [], _ => by rw [List.nil_append, se_tail q 3 (.inr rfl) hq2 r hr]; simp
  | [c], h => by
    have hne : ¬ (q = 34 ∧ c = 92) := fun x => hq x.1
    by_cases hc : c = q
    · subst hc
      show se c 3 (c :: c :: c :: c :: r) = 4
      rw [se_shut c 3 c _ hne (by simp [pre])]
      show 3 + (if 3 = 3 then ext c 2 (c :: r) else 0) = 4
      rw [if_pos rfl, ext, if_pos rfl, ext_parts c 1 r hr]
    · have ih := se_lines q hq hq2 r hr [] rfl
      rw [List.nil_append] at ih
      rw [List.cons_append, List.nil_append, se_on q 3 c _ hne (by rw [pre_head (by omega) hc]; simp), ih]; rfl
  | [c, d], h => by
    have hne : ¬ (q = 34 ∧ c = 92) := fun x => hq x.1
    have ih := se_lines q hq hq2 r hr [d] (by simp only [tr, Bool.or_eq_false_iff] at h ⊢; exact h.2)
    by_cases hc : c = q
    · by_cases hd : d = q
      · subst hc
        subst hd
        show se d 3 (d :: d :: d :: d :: d :: r) = 5
        rw [se_shut d 3 d _ hne (by simp [pre])]
        show 3 + (if 3 = 3 then ext d 2 (d :: d :: r) else 0) = 5
        rw [if_pos rfl, ext, if_pos rfl, ext, if_pos rfl, ext]
      · rw [List.cons_append, se_on q 3 c _ hne (by simp [pre, hd]), ih]; rfl
    · rw [List.cons_append, se_on q 3 c _ hne (by rw [pre_head (by omega) hc]; simp), ih]; rfl
  | c :: d :: e :: l, h => by
    have hne : ¬ (q = 34 ∧ c = 92) := fun x => hq x.1
    have h2 : pre q 3 (c :: d :: e :: l) = false ∧ tr q (d :: e :: l) = false := by
      rw [tr, Bool.or_eq_false_iff] at h; exact h
    have ih := se_lines q hq hq2 r hr (d :: e :: l) h2.2
    have hp : ¬ pre q 3 (c :: ((d :: e :: l) ++ (List.replicate 3 q ++ r))) = true := by
      have h3 := h2.1
      simp only [pre, List.cons_append] at h3 ⊢
      rw [h3]; simp
    rw [List.cons_append, se_on q 3 c _ hne hp, ih]
    simp only [List.length_cons]

/-- How the string opens. -/
theorem opens_one (q : UInt8) (hq : q ≠ 92) (l r : List UInt8) (hr : parts q r) (hl : q = 34 ∨ l.any (· == q) = false) : pre q 3 (wr q 1 l ++ r) = false := by
  have e : wr q 1 l ++ r = q :: (escL q l ++ (q :: r)) := by simp [wr]
  rw [e]
  show (q == q && pre q 2 (escL q l ++ (q :: r))) = false
  have h2 : pre q 2 (escL q l ++ (q :: r)) = false := by
    cases l with
    | nil =>
      show (q == q && pre q 1 r) = false
      rw [pre_parts q 1 (by omega) r hr]; simp
    | cons c l =>
      simp only [escL]
      split
      · rename_i h
        rw [List.cons_append]
        exact pre_head (by omega) (fun x => hq x.symm)
      · rename_i h
        rw [List.cons_append]
        refine pre_head (by omega) (fun x => ?_)
        subst x
        rcases hl with hl | hl
        · exact h ⟨hl, .inl hl⟩
        · simp at hl
  rw [h2]; simp

theorem opens_three (q : UInt8) (l r : List UInt8) : pre q 3 (wr q 3 l ++ r) = true := by
  simp [wr, List.replicate_succ, pre]

/-- WHERE str ENDS: just behind the written string. (q: a double quote or a single one.) -/
theorem skips (q : UInt8) (n : Nat) (l r : List UInt8) (hn : n = 1 ∨ n = 3) (hr : parts q r)
    (hk : q = 34 ∨ (q = 39 ∧ n = 1 ∧ l.any (· == q) = false) ∨ (q = 39 ∧ n = 3 ∧ tr q l = false)) :
    (if pre q 3 (wr q n l ++ r) = true then 3 else 1) = n ∧ n + se q n ((wr q n l ++ r).drop n) = (wr q n l).length := by
  have hq2 : q ≠ 92 := by
    rcases hk with h | h | h
    · rw [h]; decide
    · rw [h.1]; decide
    · rw [h.1]; decide
  refine ⟨?_, ?_⟩
  · rcases hn with rfl | rfl
    · rw [opens_one q hq2 l r hr (by rcases hk with h | h | h; exact .inl h; exact .inr h.2.2; omega)]; rfl
    · rw [opens_three]; rfl
  · have ed : (wr q n l ++ r).drop n = escL q l ++ (List.replicate n q ++ r) := by
      unfold wr
      rw [List.append_assoc, List.append_assoc]
      have := List.drop_left (l₁ := List.replicate n q) (l₂ := escL q l ++ (List.replicate n q ++ r))
      rw [List.length_replicate] at this
      exact this
    have el : (wr q n l).length = n + ((escL q l).length + n) := by unfold wr; simp
    rw [ed, el]
    congr 1
    rcases hk with h | ⟨h, rfl, h2⟩ | ⟨h, rfl, h2⟩
    · subst h
      exact se_basic n hn r hr l
    · have hq : q ≠ 34 := by rw [h]; decide
      rw [escL_plain q hq]
      exact se_literal q hq hq2 r hr l h2
    · have hq : q ≠ 34 := by rw [h]; decide
      rw [escL_plain q hq]
      exact se_lines q hq hq2 r hr l h2

/-! ### At offsets -/
def anyAt (s : ByteArray) (q : UInt8) (k : Nat) : Bool := (s.data.toList.drop k).any (· == q)
def trAt (s : ByteArray) (q : UInt8) (k : Nat) : Bool := tr q (s.data.toList.drop k)

theorem any_hit (s : ByteArray) (q : UInt8) (k : Nat) (h : k < s.size) (hc : bt s k = (q.toNat : Int)) : anyAt s q k = true := by
  have e : s[k] = q := (bt_q s k h q).1 hc
  unfold anyAt; rw [drop_at s k h]; simp [e]
theorem any_miss (s : ByteArray) (q : UInt8) (k : Nat) (h : k < s.size) (hc : bt s k ≠ (q.toNat : Int)) : anyAt s q (k + 1) = anyAt s q k := by
  have e : ¬ s[k] = q := fun e => hc ((bt_q s k h q).2 e)
  unfold anyAt; rw [drop_at s k h, List.any_cons, beq_eq_false_iff_ne.2 e, Bool.false_or]
theorem any_past (s : ByteArray) (q : UInt8) (k : Nat) (h : s.size ≤ k) : anyAt s q k = false := by
  unfold anyAt; rw [List.drop_of_length_le (by simpa using h)]; rfl

theorem tr_hit (s : ByteArray) (q : UInt8) (k : Nat) (h : k < s.size) (hc : preAt s q 3 k = true) : trAt s q k = true := by
  unfold preAt at hc
  unfold trAt; rw [drop_at s k h] at hc ⊢; rw [tr, hc]; rfl
theorem tr_miss (s : ByteArray) (q : UInt8) (k : Nat) (h : k < s.size) (hc : preAt s q 3 k = false) : trAt s q (k + 1) = trAt s q k := by
  unfold preAt at hc
  unfold trAt; rw [drop_at s k h] at hc ⊢; rw [tr, hc]; rfl
theorem tr_short (q : UInt8) : ∀ l : List UInt8, l.length < 3 → tr q l = false
  | [], _ => rfl
  | c :: l, h => by
    have hp : pre q 3 (c :: l) = false := by
      cases hp : pre q 3 (c :: l) with
      | false => rfl
      | true => have := pre_length q 3 _ hp; omega
    rw [tr, hp, tr_short q l (by simp at h; omega)]; rfl
theorem tr_past (s : ByteArray) (q : UInt8) (k : Nat) (h : s.size < k + 3) : trAt s q k = false := by
  unfold trAt; refine tr_short q _ ?_
  rw [List.length_drop]
  have e : s.data.toList.length = s.size := by simp
  omega

theorem esc_at (q : UInt8) (s : ByteArray) (i : Nat) (h : i < s.size) : escL q (s.data.toList.drop i) = if q = 34 ∧ (bt s i = 34 ∨ bt s i = 92) then 92 :: s[i] :: escL q (s.data.toList.drop (i + 1)) else s[i] :: escL q (s.data.toList.drop (i + 1)) := by
  have h1 : (bt s i = 34) = (s[i] = 34) := propext (bt_is s i 34 h (by omega))
  have h2 : (bt s i = 92) = (s[i] = 92) := propext (bt_is s i 92 h (by omega))
  rw [drop_at s i h, escL]
  simp only [h1, h2]

end Go.Proofs.Qxb6600500a
