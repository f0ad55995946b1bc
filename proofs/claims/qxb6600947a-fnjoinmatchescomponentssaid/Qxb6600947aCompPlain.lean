/-
  Seat b6600947a: the plain laws of the components: labels, the depth-first search, the joined pieces.
-/
import Derived.Test.Qxb6600947aArgs
namespace Go.Proofs.Qxb6600947a

/-- A labelling that no edge parts. -/
def EInv (n : Nat) (A B : Nat → Int) (m : Nat) (L : Nat → Nat) : Prop := ∀ k, k < m → valid n (A k) (B k) → L (A k).toNat = L (B k).toNat

/-! ### The pieces -/
theorem Built.inv {n : Nat} {A B : Nat → Int} {m : Nat} {L : Nat → Nat} (hL : EInv n A B m L) : ∀ {k : Nat} {P : Nat → Nat} {c : Int}, k ≤ m → Built n A B k P c → ∀ i, i < n → ∀ j r, Dp P j i r → L i = L r
  | 0, P, c, _, h, i, _, j, r, hd => by
    obtain ⟨rfl, _⟩ := h
    rw [(Dp.zero hd rfl).2]
  | k + 1, P', c', hk, h, i, hi, j, r, hd => by
    obtain ⟨P, c, hb, h⟩ := h
    have ih := Built.inv hL (by omega) hb
    rcases h with ⟨hv, h⟩ | ⟨_, rfl, rfl⟩
    · have hx : (A k).toNat < n := by have := hv.1; omega
      have hy : (B k).toNat < n := by have := hv.2; omega
      obtain ⟨ra, rb, ⟨ka, ha⟩, ⟨kb, hb2⟩, hr, _⟩ := h.roots
      obtain ⟨j0, r0, hd0⟩ := (Built.facts hb).1.ends i hi
      obtain ⟨k', h'⟩ := hr i hi j0 r0 hd0
      have e := (Dp.unique hd h').2
      have e1 := ih i hi j0 r0 hd0
      have e2 := ih _ hx ka ra ha
      have e3 := ih _ hy kb rb hb2
      have e4 := hL k (by omega) hv
      rw [e]
      split
      · rename_i e5; rw [e1, e5, ← e2, e4, e3]
      · exact e1
    · exact ih i hi j r hd

theorem Built.edges {n : Nat} {A B : Nat → Int} : ∀ {k : Nat} {P : Nat → Nat} {c : Int}, Built n A B k P c → ∀ j, j < k → valid n (A j) (B j) → ∃ r k1 k2, Dp P k1 (A j).toNat r ∧ Dp P k2 (B j).toNat r
  | 0, _, _, _, j, hj, _ => by omega
  | k + 1, P', c', h, j, hj, hv => by
    obtain ⟨P, c, hb, h⟩ := h
    have hx : (A j).toNat < n := by have := hv.1; omega
    have hy : (B j).toNat < n := by have := hv.2; omega
    by_cases e : j = k
    · subst e
      rcases h with ⟨_, h⟩ | ⟨h, _⟩
      · exact (joined_roots h hx hy).1
      · exact absurd hv h
    · obtain ⟨r, k1, k2, h1, h2⟩ := Built.edges hb j (by omega) hv
      rcases h with ⟨_, h⟩ | ⟨_, rfl, rfl⟩
      · obtain ⟨ra, rb, _, _, hr, _⟩ := h.roots
        obtain ⟨q1, g1⟩ := hr _ hx k1 r h1
        obtain ⟨q2, g2⟩ := hr _ hy k2 r h2
        exact ⟨_, q1, q2, g1, g2⟩
      · exact ⟨r, k1, k2, h1, h2⟩

/-- The root as a function. -/
def rtf (P : Nat → Nat) : Nat → Nat → Nat
  | 0, i => i
  | f + 1, i => rtf P f (P i)
theorem rtf_fix {P : Nat → Nat} {i : Nat} (h : P i = i) : ∀ f, rtf P f i = i
  | 0 => rfl
  | f + 1 => by rw [rtf, h, rtf_fix h f]
theorem rtf_of {P : Nat → Nat} : ∀ {k i r : Nat}, Dp P k i r → ∀ f, k ≤ f → rtf P f i = r
  | 0, i, r, h, f, _ => by rw [rtf_fix h.1, h.2]
  | k + 1, i, r, h, f, hf => by
    obtain ⟨g, rfl⟩ : ∃ g, f = g + 1 := ⟨f - 1, by omega⟩
    rw [rtf]
    exact rtf_of h.2 g (by omega)
theorem rt_of {n : Nat} {P : Nat → Nat} (hF : Forest n P) {k i r : Nat} (hi : i < n) (h : Dp P k i r) : rtf P n i = r := rtf_of h n (Nat.le_of_lt (Dp.short hF.lt h hi))

structure Labels (n : Nat) (A B : Nat → Int) (m : Nat) (lab : Nat → Nat) (comps : Nat) : Prop where
  einv : EInv n A B m lab
  same : ∀ L, EInv n A B m L → ∀ x y, x < n → y < n → lab x = lab y → L x = L y
  lt : ∀ i, i < n → lab i < comps
  used : ∀ c, c < comps → ∃ i, i < n ∧ lab i = c

section
variable {n : Nat} {A B : Nat → Int} {m : Nat} {P : Nat → Nat} {c : Int} {lab : Nat → Nat} {comps : Nat}

theorem rt_einv (hb : Built n A B m P c) : EInv n A B m (rtf P n) := fun k hk hv => by
  have hF := (Built.facts hb).1
  obtain ⟨r, k1, k2, h1, h2⟩ := Built.edges hb k hk hv
  rw [rt_of hF (by have := hv.1; omega) h1, rt_of hF (by have := hv.2; omega) h2]

theorem rt_label (hb : Built n A B m P c) (hl : Labels n A B m lab comps) {x y : Nat} (hx : x < n) (hy : y < n) (h : lab x = lab y) : rtf P n x = rtf P n y := hl.same _ (rt_einv hb) x y hx hy h

theorem label_rt (hb : Built n A B m P c) (hl : Labels n A B m lab comps) {x y : Nat} (hx : x < n) (hy : y < n) (h : rtf P n x = rtf P n y) : lab x = lab y := by
  have hF := (Built.facts hb).1
  obtain ⟨k1, r1, h1⟩ := hF.ends x hx
  obtain ⟨k2, r2, h2⟩ := hF.ends y hy
  rw [rt_of hF hx h1, rt_of hF hy h2] at h
  rw [Built.inv hl.einv (Nat.le_refl _) hb x hx k1 r1 h1, Built.inv hl.einv (Nat.le_refl _) hb y hy k2 r2 h2, h]

/-- Different roots are counted. -/
theorem nodup_cnt (P : Nat → Nat) : ∀ (n : Nat) (l : List Nat), l.Nodup → (∀ x ∈ l, x < n ∧ P x = x) → l.length ≤ cnt P n
  | 0, l, _, h => by
    cases l with
    | nil => simp
    | cons a l => have := (h a (by simp)).1; omega
  | n + 1, l, hd, h => by
    by_cases hm : n ∈ l
    · have h1 : (l.erase n).length = l.length - 1 := List.length_erase_of_mem hm
      have h2 := nodup_cnt P n (l.erase n) (hd.erase n) (fun x hx => by
        have h3 := (List.Nodup.mem_erase_iff hd).1 hx
        have h4 := h x h3.2
        have := h3.1
        exact ⟨by omega, h4.2⟩)
      have h5 := (h n hm).2
      rw [cnt, if_pos h5]
      omega
    · have := nodup_cnt P n l hd (fun x hx => by
        have h1 := h x hx
        have h2 : x ≠ n := fun e => hm (e ▸ hx)
        exact ⟨by omega, h1.2⟩)
      unfold cnt
      omega

def roots (P : Nat → Nat) : Nat → List Nat
  | 0 => []
  | n + 1 => if P n = n then n :: roots P n else roots P n
theorem roots_length (P : Nat → Nat) : ∀ n, (roots P n).length = cnt P n
  | 0 => rfl
  | n + 1 => by
    have := roots_length P n
    unfold roots cnt
    split <;> simp [this]
theorem roots_mem (P : Nat → Nat) : ∀ n x, x ∈ roots P n → x < n ∧ P x = x
  | 0, x, h => by cases h
  | n + 1, x, h => by
    unfold roots at h
    split at h
    · rename_i e
      rw [List.mem_cons] at h
      rcases h with rfl | h
      · exact ⟨by omega, e⟩
      · have := roots_mem P n x h; exact ⟨by omega, this.2⟩
    · have := roots_mem P n x h; exact ⟨by omega, this.2⟩
theorem roots_nodup (P : Nat → Nat) : ∀ n, (roots P n).Nodup
  | 0 => List.nodup_nil
  | n + 1 => by
    unfold roots
    split
    · exact List.nodup_cons.2 ⟨fun h => by have := (roots_mem P n n h).1; omega, roots_nodup P n⟩
    · exact roots_nodup P n

theorem map_nodup (f : Nat → Nat) (l : List Nat) (hd : l.Nodup) (h : ∀ a ∈ l, ∀ b ∈ l, f a = f b → a = b) : (l.map f).Nodup :=
  List.pairwise_map.2 (List.Pairwise.imp_of_mem (fun ha hb hne e => hne (h _ ha _ hb e)) hd)

/-- THE COUNT OF THE PIECES IS THE NUMBER OF THE COMPONENTS. -/
theorem count_eq (hb : Built n A B m P c) (hl : Labels n A B m lab comps) : cnt P n = comps := by
  have hF := (Built.facts hb).1
  have h1 : cnt P n ≤ comps := by
    have := nodup_lt comps ((roots P n).map lab) (map_nodup lab _ (roots_nodup P n) (fun a ha b hb' e => by
      have m1 := roots_mem P n a ha
      have m2 := roots_mem P n b hb'
      have := rt_label hb hl m1.1 m2.1 e
      rwa [rtf_fix m1.2, rtf_fix m2.2] at this)) (fun x hx => by
      obtain ⟨a, ha, rfl⟩ := List.mem_map.1 hx
      exact hl.lt a (roots_mem P n a ha).1)
    rwa [List.length_map, roots_length] at this
  have h2 : comps ≤ cnt P n := by
    have hsrc : ∃ f : Nat → Nat, ∀ c, c < comps → f c < n ∧ lab (f c) = c := by
      refine ⟨fun c => if h : c < comps then Classical.choose (hl.used c h) else 0, fun c hc => ?_⟩
      have := Classical.choose_spec (hl.used c hc)
      simp only [dif_pos hc]
      exact this
    obtain ⟨f, hf⟩ := hsrc
    have hroot : ∀ c, c < comps → rtf P n (f c) < n ∧ P (rtf P n (f c)) = rtf P n (f c) := fun c hc => by
      obtain ⟨k, r, hd⟩ := hF.ends (f c) (hf c hc).1
      rw [rt_of hF (hf c hc).1 hd]
      exact ⟨Dp.lt hF.lt hd (hf c hc).1, Dp.root hd⟩
    have := nodup_cnt P n ((List.range comps).map (fun c => rtf P n (f c))) (map_nodup _ _ List.nodup_range (fun a ha b hb' e => by
      rw [List.mem_range] at ha hb'
      have := label_rt hb hl (hf a ha).1 (hf b hb').1 e
      rwa [(hf a ha).2, (hf b hb').2] at this)) (fun x hx => by
      obtain ⟨a, ha, rfl⟩ := List.mem_map.1 hx
      exact hroot a (List.mem_range.1 ha))
    simpa using this
  omega
end

/-! ### The graph in rows -/
structure Adj (n : Nat) (A B : Nat → Int) (m : Nat) (st adj : Nat → Nat) : Prop where
  lt : ∀ v, v < n → ∀ e, st v ≤ e → e < st (v + 1) → adj e < n
  sym : ∀ v, v < n → ∀ e, st v ≤ e → e < st (v + 1) → ∃ e', st (adj e) ≤ e' ∧ e' < st (adj e + 1) ∧ adj e' = v
  sound : ∀ L, EInv n A B m L → ∀ v, v < n → ∀ e, st v ≤ e → e < st (v + 1) → L (adj e) = L v
  comp : ∀ k, k < m → valid n (A k) (B k) → ∃ e, st (A k).toNat ≤ e ∧ e < st ((A k).toNat + 1) ∧ adj e = (B k).toNat

def Closed (st adj lab : Nat → Nat) (v : Nat) : Prop := ∀ e, st v ≤ e → e < st (v + 1) → lab (adj e) = lab v

/-- Between two components. -/
structure Out (n : Nat) (A B : Nat → Int) (m : Nat) (st adj : Nat → Nat) (lab : Nat → Nat) (comps s : Nat) : Prop where
  o1 : ∀ i, i < s → lab i ≠ 0
  o2 : ∀ i, i < n → lab i ≤ comps
  o3 : ∀ c, c < comps → ∃ i, i < n ∧ lab i = c + 1
  o4 : ∀ v, v < n → lab v ≠ 0 → Closed st adj lab v
  o5 : ∀ L, EInv n A B m L → ∀ x y, x < n → y < n → lab x ≠ 0 → lab x = lab y → L x = L y

/-- Inside the component 'comps', begun at src; 'op': the nodes that are not closed yet. -/
structure Mid (n : Nat) (A B : Nat → Int) (m : Nat) (st adj : Nat → Nat) (lab : Nat → Nat) (comps src : Nat) (op : Nat → Prop) (stk : List Nat) : Prop where
  m1 : ∀ i, i < src + 1 → lab i ≠ 0
  m2 : ∀ i, i < n → lab i ≤ comps + 1
  m3 : ∀ c, c < comps + 1 → ∃ i, i < n ∧ lab i = c + 1
  m4 : ∀ v, v < n → lab v ≠ 0 → lab v ≠ comps + 1 → Closed st adj lab v
  m5 : ∀ L, EInv n A B m L → ∀ x y, x < n → y < n → lab x ≠ 0 → lab x = lab y → L x = L y
  m6 : ∀ u, u ∈ stk → u < n ∧ lab u = comps + 1
  m7 : ∀ v, v < n → lab v = comps + 1 → op v ∨ Closed st adj lab v

/-- The number of nodes without a label. -/
def un (lab : Nat → Nat) : Nat → Nat
  | 0 => 0
  | n + 1 => un lab n + if lab n = 0 then 1 else 0
theorem un_le (lab : Nat → Nat) : ∀ n, un lab n ≤ n
  | 0 => Nat.le_refl _
  | n + 1 => by have := un_le lab n; unfold un; split <;> omega
theorem un_upd {lab : Nat → Nat} {a v : Nat} (ha : lab a = 0) (hv : v ≠ 0) : ∀ n, un (upd lab a v) n + (if a < n then 1 else 0) = un lab n
  | 0 => by simp [un]
  | n + 1 => by
    have ih := un_upd ha hv n
    unfold un
    by_cases e : n = a
    · subst e
      rw [upd_same, if_neg hv, if_pos ha, if_pos (by omega)]
      rw [if_neg (by omega)] at ih
      omega
    · rw [upd_other lab a v e]
      have : (if a < n + 1 then 1 else 0) = (if a < n then 1 else 0) := by
        by_cases h : a < n
        · rw [if_pos h, if_pos (by omega)]
        · rw [if_neg h, if_neg (by omega)]
      rw [this]; omega

section
variable {n : Nat} {A B : Nat → Int} {m : Nat} {st adj lab : Nat → Nat} {comps s src : Nat} {op : Nat → Prop} {stk : List Nat}

/-- A closed node stays closed when an unlabelled one gets a label. -/
theorem Closed.upd {v x c : Nat} (h : Closed st adj lab v) (hv : lab v ≠ 0) (hx : lab x = 0) : Closed st adj (Qxb6600947a.upd lab x c) v := fun e h1 h2 => by
  have e1 := h e h1 h2
  have hvx : v ≠ x := fun q => hv (q ▸ hx)
  have hax : adj e ≠ x := fun q => by rw [q] at e1; exact hv (e1.symm.trans hx)
  rw [upd_other _ _ _ hvx, upd_other _ _ _ hax]
  exact e1

theorem Out.begin (h : Out n A B m st adj lab comps s) (hs : s < n) (hl : lab s = 0) : Mid n A B m st adj (upd lab s (comps + 1)) comps s (fun u => u = s) [s] := by
  refine ⟨fun i hi => ?_, fun i hi => ?_, fun c hc => ?_, fun v hv h1 h2 => ?_, fun L hL x y hx hy h1 h2 => ?_, fun u hu => ?_, fun v hv h1 => ?_⟩
  · by_cases e : i = s
    · rw [e, upd_same]; omega
    · rw [upd_other _ _ _ e]; exact h.o1 i (by omega)
  · by_cases e : i = s
    · rw [e, upd_same]; omega
    · rw [upd_other _ _ _ e]; have := h.o2 i hi; omega
  · by_cases e : c = comps
    · exact ⟨s, hs, by rw [upd_same, e]⟩
    · obtain ⟨i, hi, he⟩ := h.o3 c (by omega)
      have : i ≠ s := fun q => by rw [q, hl] at he; omega
      exact ⟨i, hi, by rw [upd_other _ _ _ this]; exact he⟩
  · have e : v ≠ s := fun q => by rw [q, upd_same] at h2; exact h2 rfl
    rw [upd_other _ _ _ e] at h1
    exact (h.o4 v hv h1).upd h1 hl
  · by_cases e1 : x = s
    · by_cases e2 : y = s
      · rw [e1, e2]
      · rw [e1, upd_same, upd_other _ _ _ e2] at h2
        have := h.o2 y hy
        omega
    · by_cases e2 : y = s
      · rw [e2, upd_same, upd_other _ _ _ e1] at h2
        have := h.o2 x hx
        omega
      · rw [upd_other _ _ _ e1] at h1 h2
        rw [upd_other _ _ _ e2] at h2
        exact h.o5 L hL x y hx hy h1 h2
  · rw [List.mem_singleton] at hu
    rw [hu, upd_same]
    exact ⟨hs, rfl⟩
  · by_cases e : v = s
    · exact .inl e
    · rw [upd_other _ _ _ e] at h1
      have := h.o2 v hv
      omega

theorem Mid.finish (h : Mid n A B m st adj lab comps src op []) (ho : ∀ u, ¬ op u) : Out n A B m st adj lab (comps + 1) (src + 1) :=
  ⟨h.m1, h.m2, h.m3, fun v hv h1 => by
    by_cases e : lab v = comps + 1
    · rcases h.m7 v hv e with q | q
      · exact absurd q (ho v)
      · exact q
    · exact h.m4 v hv h1 e, h.m5⟩

theorem Mid.pop {v : Nat} (h : Mid n A B m st adj lab comps src (fun u => u ∈ stk ++ [v]) (stk ++ [v])) : Mid n A B m st adj lab comps src (fun u => u ∈ stk ∨ u = v) stk :=
  ⟨h.m1, h.m2, h.m3, h.m4, h.m5, fun u hu => h.m6 u (List.mem_append_left _ hu), fun u hu e => by
    rcases h.m7 u hu e with q | q
    · rw [List.mem_append, List.mem_singleton] at q; exact .inl q
    · exact .inr q⟩

theorem Mid.push (hA : Adj n A B m st adj) {v e : Nat} (h : Mid n A B m st adj lab comps src (fun u => u ∈ stk ∨ u = v) stk) (hv : v < n) (hlv : lab v = comps + 1) (h1 : st v ≤ e) (h2 : e < st (v + 1)) (hw : lab (adj e) = 0) :
    Mid n A B m st adj (upd lab (adj e) (comps + 1)) comps src (fun u => u ∈ stk ++ [adj e] ∨ u = v) (stk ++ [adj e]) := by
  have hwn := hA.lt v hv e h1 h2
  refine ⟨fun i hi => ?_, fun i hi => ?_, fun c hc => ?_, fun u hu g1 g2 => ?_, fun L hL x y hx hy g1 g2 => ?_, fun u hu => ?_, fun u hu g1 => ?_⟩
  · by_cases q : i = adj e
    · rw [q, upd_same]; omega
    · rw [upd_other _ _ _ q]; exact h.m1 i hi
  · by_cases q : i = adj e
    · rw [q, upd_same]; omega
    · rw [upd_other _ _ _ q]; exact h.m2 i hi
  · obtain ⟨i, hi, he⟩ := h.m3 c hc
    have : i ≠ adj e := fun q => by rw [q, hw] at he; omega
    exact ⟨i, hi, by rw [upd_other _ _ _ this]; exact he⟩
  · have q : u ≠ adj e := fun q => by rw [q, upd_same] at g2; exact g2 rfl
    rw [upd_other _ _ _ q] at g1 g2
    exact (h.m4 u hu g1 g2).upd g1 hw
  · have hs := hA.sound L hL v hv e h1 h2
    by_cases q1 : x = adj e
    · by_cases q2 : y = adj e
      · rw [q1, q2]
      · rw [q1, upd_same, upd_other _ _ _ q2] at g2
        rw [q1, hs]
        exact h.m5 L hL v y hv hy (by omega) (by omega)
    · by_cases q2 : y = adj e
      · rw [q2, upd_same, upd_other _ _ _ q1] at g2
        rw [q2, hs]
        exact h.m5 L hL x v hx hv (by omega) (by omega)
      · rw [upd_other _ _ _ q1] at g1 g2
        rw [upd_other _ _ _ q2] at g2
        exact h.m5 L hL x y hx hy g1 g2
  · rw [List.mem_append, List.mem_singleton] at hu
    rcases hu with hu | hu
    · have h3 := h.m6 u hu
      have q : u ≠ adj e := fun q => by have := h3.2; rw [q, hw] at this; omega
      rw [upd_other _ _ _ q]; exact h3
    · rw [hu, upd_same]; exact ⟨hwn, rfl⟩
  · by_cases q : u = adj e
    · exact .inl (.inl (by rw [q]; simp))
    · rw [upd_other _ _ _ q] at g1
      rcases h.m7 u hu g1 with (r | r) | r
      · exact .inl (.inl (List.mem_append_left _ r))
      · exact .inl (.inr r)
      · exact .inr (r.upd (by omega) hw)

/-- A neighbour that has a label has this component's. -/
theorem Mid.near (hA : Adj n A B m st adj) {v e : Nat} (h : Mid n A B m st adj lab comps src op stk) (hv : v < n) (hlv : lab v = comps + 1) (h1 : st v ≤ e) (h2 : e < st (v + 1)) (hw : lab (adj e) ≠ 0) : lab (adj e) = comps + 1 := by
  by_cases q : lab (adj e) = comps + 1
  · exact q
  · have hc := h.m4 _ (hA.lt v hv e h1 h2) hw q
    obtain ⟨e', g1, g2, g3⟩ := hA.sym v hv e h1 h2
    have := hc e' g1 g2
    rw [g3] at this
    omega

/-- All neighbours are labelled: the node is closed. -/
theorem Mid.done {v : Nat} (h : Mid n A B m st adj lab comps src (fun u => u ∈ stk ∨ u = v) stk) (hlv : lab v = comps + 1) (hall : ∀ e, st v ≤ e → e < st (v + 1) → lab (adj e) = comps + 1) : Mid n A B m st adj lab comps src (fun u => u ∈ stk) stk :=
  ⟨h.m1, h.m2, h.m3, h.m4, h.m5, h.m6, fun u hu e => by
    rcases h.m7 u hu e with (q | q) | q
    · exact .inl q
    · exact .inr (q ▸ fun e' g1 g2 => (hall e' g1 g2).trans hlv.symm)
    · exact .inr q⟩

theorem Out.labels (hA : Adj n A B m st adj) (h : Out n A B m st adj lab comps n) : Labels n A B m (fun i => lab i - 1) comps := by
  refine ⟨fun k hk hv => ?_, fun L hL x y hx hy e => ?_, fun i hi => ?_, fun c hc => ?_⟩
  · obtain ⟨e, g1, g2, g3⟩ := hA.comp k hk hv
    have hx : (A k).toNat < n := by have := hv.1; omega
    have := h.o4 _ hx (h.o1 _ hx) e g1 g2
    rw [g3] at this
    show lab (A k).toNat - 1 = lab (B k).toNat - 1
    rw [this]
  · have h1 := h.o1 x hx
    have h2 := h.o1 y hy
    have e' : lab x - 1 = lab y - 1 := e
    exact h.o5 L hL x y hx hy h1 (by omega)
  · have h1 := h.o1 i hi
    have h2 := h.o2 i hi
    show lab i - 1 < comps
    omega
  · obtain ⟨i, hi, he⟩ := h.o3 c hc
    exact ⟨i, hi, by show lab i - 1 = c; omega⟩
end
end Go.Proofs.Qxb6600947a
