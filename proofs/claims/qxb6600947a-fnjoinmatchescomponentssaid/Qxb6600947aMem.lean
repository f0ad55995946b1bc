/-
  Seat b6600947a: what the walks say of memory.
-/
import Derived.Test.Qxb6600947aPlain
import Derived.WalkKit
import Derived.Deep.OwnRows
import Derived.Deep.Draws
namespace Go.Proofs.Qxb6600947a
open Go.RowKit

/-- All blocks but those of S are as they were. -/
structure Fr (S : Nat → Prop) (w w' : World) : Prop where
  os : w'.os = w.os
  tape : w'.tape = w.tape
  output : w'.output = w.output
  size : w.heap.size ≤ w'.heap.size
  block : ∀ k, k < w.heap.size → ¬ S k → w'.heap[k]? = w.heap[k]?

theorem Fr.refl (S : Nat → Prop) (w : World) : Fr S w w := ⟨rfl, rfl, rfl, Nat.le_refl _, fun _ _ _ => rfl⟩
theorem Fr.trans {S : Nat → Prop} {a b c : World} (h : Fr S a b) (k : Fr S b c) : Fr S a c :=
  ⟨k.os.trans h.os, k.tape.trans h.tape, k.output.trans h.output, Nat.le_trans h.size k.size, fun i hi hs => (k.block i (Nat.lt_of_lt_of_le hi h.size) hs).trans (h.block i hi hs)⟩
theorem Fr.drewN {S : Nat → Prop} {a b : World} (h : Fr S a b) (n : Nat) : Fr S a (b.drewN n) := ⟨h.os, h.tape, h.output, h.size, h.block⟩
theorem Fr.drew {S : Nat → Prop} {a b : World} (h : Fr S a b) : Fr S a b.drew := ⟨h.os, h.tape, h.output, h.size, h.block⟩
theorem Fr.setCell {S : Nat → Prop} {a b : World} (h : Fr S a b) {p : Addr} (hp : S p.block) (v : Value) : Fr S a (b.setCell p v) :=
  h.trans ⟨rfl, rfl, rfl, by simp [World.setCell], fun k _ hs => Below.heap_setCell _ _ _ _ (fun e => hs (e ▸ hp))⟩
theorem Fr.mono {S T : Nat → Prop} {a b : World} (h : Fr S a b) (hst : ∀ k, S k → T k) : Fr T a b := ⟨h.os, h.tape, h.output, h.size, fun k hk ht => h.block k hk (fun hs => ht (hst k hs))⟩
theorem Fr.of_below {B : Nat} {a b : World} (h : Below B a b) : Fr (fun k => B ≤ k) a b := ⟨h.os, h.tape, h.output, h.size, fun k _ hs => h.block k (by omega)⟩
theorem Fr.below {S : Nat → Prop} {B : Nat} {a b : World} (h : Fr S a b) (hB : B ≤ a.heap.size) (hs : ∀ k, S k → B ≤ k) : Below B a b :=
  ⟨h.os, h.tape, h.output, h.size, fun k hk => h.block k (by omega) (fun x => by have := hs k x; omega)⟩
theorem Fr.row {S : Nat → Prop} {a b : World} (h : Fr S a b) {g : Nat} {t : TypeId} {n : Nat} {f : Nat → Value} (hr : a.rowIs g t n f) (hg : ¬ S g) : b.rowIs g t n f := hr.of_block (h.block g hr.lt hg)
theorem below_row {B : Nat} {a b : World} (h : Below B a b) {g : Nat} {t : TypeId} {n : Nat} {f : Nat → Value} (hr : a.rowIs g t n f) (hg : g < B) : b.rowIs g t n f := hr.of_block (h.block g hg)
theorem row_drewN {w : World} {g : Nat} {t : TypeId} {n : Nat} {f : Nat → Value} (h : w.rowIs g t n f) (m : Nat) : (w.drewN m).rowIs g t n f := h

/-- A row of ints. -/
abbrev intsAt (w : World) (g n : Nat) (f : Nat → Int) : Prop := w.rowIs g 3 n (fun i => .int .i64 (f i))

/-- The pieces: the struct in block b, its parents in block g. -/
structure Pc (b g n : Nat) (P : Nat → Nat) (c : Int) (w : World) : Prop where
  hd : w.rowIs b 39 2 (fun i => if i = 0 then .slice (some ⟨g, 0, none⟩) n n else .int .i64 c)
  row : intsAt w g n (fun i => (P i : Int))
  ne : b ≠ g

theorem Pc.c0 {b g n : Nat} {P : Nat → Nat} {c : Int} {w : World} (h : Pc b g n P c w) : w.cell? ⟨b, 0, none⟩ = some (.slice (some ⟨g, 0, none⟩) n n) := h.hd.cell (by omega)
theorem Pc.c1 {b g n : Nat} {P : Nat → Nat} {c : Int} {w : World} (h : Pc b g n P c w) : w.cell? ⟨b, 1, none⟩ = some (.int .i64 c) := h.hd.cell (by omega)
theorem Pc.f1 {b g n : Nat} {P : Nat → Nat} {c : Int} {w : World} (h : Pc b g n P c w) : w.frozen? ⟨b, 1, none⟩ = false := h.hd.frozen 1
theorem Pc.at {b g n : Nat} {P : Nat → Nat} {c : Int} {w : World} (h : Pc b g n P c w) {i : Nat} (hi : i < n) : w.cell? ⟨g, i, none⟩ = some (.int .i64 (P i : Int)) := h.row.cell hi
theorem Pc.fz {b g n : Nat} {P : Nat → Nat} {c : Int} {w : World} (h : Pc b g n P c w) (i : Nat) : w.frozen? ⟨g, i, none⟩ = false := h.row.frozen i
theorem Pc.drewN {b g n : Nat} {P : Nat → Nat} {c : Int} {w : World} (h : Pc b g n P c w) (m : Nat) : Pc b g n P c (w.drewN m) := ⟨h.hd, h.row, h.ne⟩
theorem Pc.drew {b g n : Nat} {P : Nat → Nat} {c : Int} {w : World} (h : Pc b g n P c w) : Pc b g n P c w.drew := ⟨h.hd, h.row, h.ne⟩
theorem Pc.set {b g n : Nat} {P : Nat → Nat} {c : Int} {w : World} (h : Pc b g n P c w) (i v : Nat) : Pc b g n (upd P i v) c (w.setCell ⟨g, i, none⟩ (.int .i64 (v : Int))) :=
  ⟨h.hd.setOther h.ne _, (h.row.set i _).congr (fun j _ => by show (if j = i then _ else _) = Value.int .i64 ((if j = i then v else P j : Nat) : Int); split <;> rfl), h.ne⟩
theorem Pc.count {b g n : Nat} {P : Nat → Nat} {c : Int} {w : World} (h : Pc b g n P c w) (c' : Int) : Pc b g n P c' (w.setCell ⟨b, 1, none⟩ (.int .i64 c')) :=
  ⟨(h.hd.set 1 _).congr (fun j hj => by
    have : j = 0 ∨ j = 1 := by omega
    rcases this with rfl | rfl <;> rfl), h.row.setOther (fun e => h.ne e.symm) _, h.ne⟩
theorem Pc.frame {S : Nat → Prop} {b g n : Nat} {P : Nat → Nat} {c : Int} {w w' : World} (h : Pc b g n P c w) (hf : Fr S w w') (hb : ¬ S b) (hg : ¬ S g) : Pc b g n P c w' :=
  ⟨hf.row h.hd hb, hf.row h.row hg, h.ne⟩
theorem Pc.to {b g n : Nat} {P Q : Nat → Nat} {c : Int} {w : World} (h : Pc b g n P c w) (e : P = Q) : Pc b g n Q c w := e ▸ h

end Go.Proofs.Qxb6600947a
