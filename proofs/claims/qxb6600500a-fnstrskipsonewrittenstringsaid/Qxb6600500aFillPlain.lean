/-
  Seat b6600500a: the plain law of the written filler: what zzWriteFiller writes is skipped whole.
-/
import Derived.Test.Qxb6600500aPlain
namespace Go.Proofs.Qxb6600500a

/-- The next line of the notes, without its line end. -/
def line : List UInt8 → List UInt8
  | [] => []
  | c :: l => if c = 10 then [] else c :: line l
/-- What is left of the notes behind that line. -/
def rest : List UInt8 → List UInt8
  | [] => []
  | c :: l => if c = 10 then l else rest l

/-- What zzWriteFiller writes. -/
def fill : List UInt8 → List UInt8 → List UInt8
  | [], _ => []
  | b :: l, ns =>
    if b.toNat % 5 = 0 then 32 :: fill l ns
    else if b.toNat % 5 = 1 then 9 :: fill l ns
    else if b.toNat % 5 = 2 then 13 :: fill l ns
    else if b.toNat % 5 = 3 then 10 :: fill l ns
    else 35 :: (line ns ++ 10 :: fill l (rest ns))

theorem line_rest : ∀ ns : List UInt8, (line ns).length + (rest ns).length ≤ ns.length
  | [] => by simp [line, rest]
  | c :: l => by
    have := line_rest l
    simp only [line, rest, List.length_cons]
    split
    · simp
    · simp only [List.length_cons]; omega

theorem fill_le : ∀ (l ns : List UInt8), (fill l ns).length ≤ 2 * l.length + ns.length
  | [], ns => by simp [fill]
  | b :: l, ns => by
    have h1 := fill_le l ns
    have h2 := fill_le l (rest ns)
    have h3 := line_rest ns
    simp only [fill]
    split
    · simp only [List.length_cons]; omega
    · split
      · simp only [List.length_cons]; omega
      · split
        · simp only [List.length_cons]; omega
        · split
          · simp only [List.length_cons]; omega
          · simp only [List.length_cons, List.length_append]; omega

theorem sp_line : ∀ (ns r : List UInt8), sp true (line ns ++ 10 :: r) = (line ns).length + 1 + sp false r
  | [], r => by simp only [line, List.nil_append, sp]; simp; omega
  | c :: l, r => by
    have ih := sp_line l r
    simp only [line]
    split
    · simp only [List.nil_append, sp]; simp; omega
    · rename_i h
      simp only [List.cons_append, sp, if_neg h, ih, List.length_cons]; omega

/-- A token opens with no blank and no '#', or is empty. -/
def opens : List UInt8 → Prop
  | [] => True
  | c :: _ => c ≠ 32 ∧ c ≠ 9 ∧ c ≠ 13 ∧ c ≠ 10 ∧ c ≠ 35

theorem sp_opens : ∀ t : List UInt8, opens t → sp false t = 0
  | [], _ => by simp [sp]
  | c :: l, h => by
    obtain ⟨h1, h2, h3, h4, h5⟩ := h
    simp only [sp]
    rw [if_neg (by simp [h1, h2, h3, h4]), if_neg h5]

theorem sp_fill : ∀ (l ns t : List UInt8), opens t → sp false (fill l ns ++ t) = (fill l ns).length
  | [], ns, t, h => by simp [fill, sp_opens t h]
  | b :: l, ns, t, h => by
    have h1 := sp_fill l ns t h
    have h2 := sp_fill l (rest ns) t h
    simp only [fill]
    split
    · simp only [List.cons_append, sp, h1, List.length_cons]; simp
    · split
      · simp only [List.cons_append, sp, h1, List.length_cons]; simp
      · split
        · simp only [List.cons_append, sp, h1, List.length_cons]; simp
        · split
          · simp only [List.cons_append, sp, h1, List.length_cons]; simp
          · have e : sp true ((line ns ++ 10 :: fill l (rest ns)) ++ t) = (line ns).length + 1 + (fill l (rest ns)).length := by
              rw [List.append_assoc, List.cons_append, sp_line, h2]
            simp only [List.cons_append, sp]
            rw [if_neg (by decide), if_pos trivial, e]
            simp only [List.length_cons, List.length_append]; omega

/-- The same of the strings: prefix + filler + token, from the prefix's end. -/
theorem stop_filler (p f t : ByteArray) (l ns : List UInt8) (hf : f.data.toList = fill l ns) (ht : opens t.data.toList) : stop (p ++ f ++ t) false p.size = p.size + f.size := by
  unfold stop
  have e : (p ++ f ++ t).data.toList.drop p.size = f.data.toList ++ t.data.toList := by
    rw [ByteArray.data_append, ByteArray.data_append, Array.toList_append, Array.toList_append, List.append_assoc]
    rw [show p.size = p.data.toList.length by simp, List.drop_left]
  rw [e, hf, sp_fill l ns _ ht, ← hf]
  simp

/-! The steps of the writer's two loops. -/
theorem fill_at (s : ByteArray) (i : Nat) (h : i < s.size) (ns : List UInt8) :
    fill (s.data.toList.drop i) ns = if bt s i % 5 = 0 then 32 :: fill (s.data.toList.drop (i + 1)) ns
      else if bt s i % 5 = 1 then 9 :: fill (s.data.toList.drop (i + 1)) ns
      else if bt s i % 5 = 2 then 13 :: fill (s.data.toList.drop (i + 1)) ns
      else if bt s i % 5 = 3 then 10 :: fill (s.data.toList.drop (i + 1)) ns
      else 35 :: (line ns ++ 10 :: fill (s.data.toList.drop (i + 1)) (rest ns)) := by
  rw [drop_at s i h, fill, ← get_bt s i h]
  have e : ∀ m : Nat, (((s[i]).toNat : Int) % 5 = (m : Int)) = ((s[i]).toNat % 5 = m) := fun m => by
    apply propext; omega
  simp only [show (((s[i]).toNat : Int) % 5 = 0) = ((s[i]).toNat % 5 = 0) from e 0, show (((s[i]).toNat : Int) % 5 = 1) = ((s[i]).toNat % 5 = 1) from e 1, show (((s[i]).toNat : Int) % 5 = 2) = ((s[i]).toNat % 5 = 2) from e 2, show (((s[i]).toNat : Int) % 5 = 3) = ((s[i]).toNat % 5 = 3) from e 3]

theorem line_in (s : ByteArray) (i : Nat) (h : i < s.size) (hc : bt s i ≠ 10) : line (s.data.toList.drop i) = s[i] :: line (s.data.toList.drop (i + 1)) ∧ rest (s.data.toList.drop i) = rest (s.data.toList.drop (i + 1)) := by
  have e : ¬ s[i] = 10 := fun e => hc ((bt_is s i 10 h (by omega)).2 e)
  rw [drop_at s i h, line, rest, if_neg e, if_neg e]
  exact ⟨rfl, rfl⟩

theorem line_end (s : ByteArray) (i : Nat) (h : i < s.size) (hc : bt s i = 10) : line (s.data.toList.drop i) = [] ∧ rest (s.data.toList.drop i) = s.data.toList.drop (i + 1) := by
  have e : s[i] = 10 := (bt_is s i 10 h (by omega)).1 hc
  rw [drop_at s i h, line, rest, if_pos e, if_pos e]
  exact ⟨rfl, rfl⟩

theorem line_past (s : ByteArray) (i : Nat) (h : s.size ≤ i) : line (s.data.toList.drop i) = [] ∧ rest (s.data.toList.drop i) = s.data.toList.drop i := by
  rw [List.drop_of_length_le (by simpa using h)]
  exact ⟨rfl, rfl⟩

end Go.Proofs.Qxb6600500a
