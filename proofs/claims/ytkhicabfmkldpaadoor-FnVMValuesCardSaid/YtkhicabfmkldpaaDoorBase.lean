/-
  Small laws on memory that the walks of this seat use: a block that is known whole, and a world that has changed in some blocks alone.
-/
import Derived.Test.YtkhicabfmkldpaaDoorRows
import Derived.WalkKit
import Derived.WalkSpells
import Derived.WalkLawsBesides
import Derived.Handy
import Derived.Deep.LoopGhost
import Derived.Deep.RegionWith
import Derived.Deep.RegionHeld3
import Derived.Deep.AppendLies
import Derived.Deep.QuietTactic
import Derived.BigQuiet
namespace Go.Proofs.YtkhicabfmkldpaaDoor
open Go.RowKit

theorem hid {p : Prop} (h : p) : Hid p := h

/-- A block of cells that is known whole, and not frozen. -/
def blk (w : World) (b : Nat) (cs : Array Value) (t : TypeId) : Prop := w.heap[b]? = some (.cells cs t (0, 0))

/-- w' is w but for the blocks of a set, and new blocks. -/
structure Chg (S : Nat → Prop) (w w' : World) : Prop where
  os : w'.os = w.os
  tape : w'.tape = w.tape
  output : w'.output = w.output
  size : w.heap.size ≤ w'.heap.size
  block : ∀ k, k < w.heap.size → ¬ S k → w'.heap[k]? = w.heap[k]?

section
variable {S S' : Nat → Prop} {w w' w1 w2 : World}

theorem Chg.refl (S : Nat → Prop) (w : World) : Chg S w w := ⟨rfl, rfl, rfl, Nat.le_refl _, fun _ _ _ => rfl⟩
theorem Chg.trans (h : Chg S w w1) (k : Chg S' w1 w2) (hs : ∀ i, i < w.heap.size → S' i → S i) : Chg S w w2 :=
  ⟨k.os.trans h.os, k.tape.trans h.tape, k.output.trans h.output, Nat.le_trans h.size k.size,
    fun i hi hn => (k.block i (Nat.lt_of_lt_of_le hi h.size) (fun e => hn (hs i hi e))).trans (h.block i hi hn)⟩
theorem Chg.mono (h : Chg S w w') (hs : ∀ i, i < w.heap.size → S i → S' i) : Chg S' w w' := ⟨h.os, h.tape, h.output, h.size, fun i hi hn => h.block i hi (fun e => hn (hs i hi e))⟩
theorem Chg.drew (h : Chg S w w') : Chg S w w'.drew := ⟨h.os, h.tape, h.output, h.size, h.block⟩
theorem Chg.drewN (h : Chg S w w') (n : Nat) : Chg S w (w'.drewN n) := ⟨h.os, h.tape, h.output, h.size, h.block⟩
theorem Chg.alloc (h : Chg S w w') (o : Obj) : Chg S w (w'.alloc o) :=
  ⟨h.os, h.tape, h.output, by have := h.size; simp; omega, fun i hi hn => (Below.heap_alloc _ _ _ (by have := h.size; omega)).trans (h.block i hi hn)⟩
theorem Chg.setCell (h : Chg S w w') {p : Addr} (hp : p.block < w.heap.size → S p.block) (v : Value) : Chg S w (w'.setCell p v) :=
  ⟨h.os, h.tape, h.output, by simpa [World.setCell] using h.size, fun i hi hn => (Below.heap_setCell _ _ _ _ (fun e => hn (by subst e; exact hp hi))).trans (h.block i hi hn)⟩
theorem Chg.grown (h : Chg S w w1) {row : Option Nat} (hg : w1.grownBy w2 row) (hr : ∀ k, row = some k → k < w.heap.size → S k) : Chg S w w2 :=
  ⟨hg.os.trans h.os, hg.tape.trans h.tape, hg.output.trans h.output, Nat.le_trans h.size hg.size,
    fun i hi hn => (hg.block i (Nat.lt_of_lt_of_le hi h.size) (fun e => hn (hr i e.symm hi))).trans (h.block i hi hn)⟩
theorem Chg.below {B : Nat} (h : Chg S w w') (hs : ∀ i, S i → B ≤ i) (hB : B ≤ w.heap.size) : Below B w w' :=
  ⟨h.os, h.tape, h.output, h.size, fun i hi => h.block i (by omega) (fun e => by have := hs i e; omega)⟩
theorem Below.chg {B : Nat} (h : Below B w w') : Chg (fun k => B ≤ k) w w' := ⟨h.os, h.tape, h.output, h.size, fun i _ hn => h.block i (by omega)⟩
end

section
variable {w w' : World} {b b' : Nat} {cs : Array Value} {t : TypeId} {S : Nat → Prop}

theorem blk.cell (h : blk w b cs t) (i : Nat) {v : Value} (hv : cs[i]? = some v) : w.cell? ⟨b, i, none⟩ = some v := by
  unfold blk at h
  simp [World.cell?, h, hv]
theorem blk.free (h : blk w b cs t) (i : Nat) : w.frozen? ⟨b, i, none⟩ = false := by
  unfold blk at h
  simp [World.frozen?, h]
theorem blk.lt (h : blk w b cs t) : b < w.heap.size := (Array.getElem?_eq_some_iff.1 h).1
theorem blk.set (h : blk w b cs t) (i : Nat) (v : Value) : blk (w.setCell ⟨b, i, none⟩ v) b (cs.setIfInBounds i v) t := by
  unfold blk at *
  simp [World.setCell, Array.getElem?_modify, h]
theorem blk.set_other (h : blk w b cs t) {p : Addr} (hne : b ≠ p.block) (v : Value) : blk (w.setCell p v) b cs t := by
  unfold blk at *
  rw [Below.heap_setCell _ _ _ _ hne]; exact h
theorem blk.alloc (h : blk w b cs t) (o : Obj) : blk (w.alloc o) b cs t := by
  have := h.lt
  unfold blk at *
  rw [Below.heap_alloc _ _ _ this]; exact h
theorem blk.drew (h : blk w b cs t) : blk w.drew b cs t := h
theorem blk.drewN (h : blk w b cs t) (n : Nat) : blk (w.drewN n) b cs t := h
theorem blk.chg (h : blk w b cs t) (hc : Chg S w w') (hn : ¬ S b) : blk w' b cs t := by
  have := h.lt
  unfold blk at *
  rw [hc.block b this hn]; exact h
theorem blk_new (w : World) (cs : Array Value) (t : TypeId) : blk (w.alloc (.cells cs t)) w.heap.size cs t := by
  unfold blk
  exact heap_alloc_new w _
theorem blk_new' {w : World} {b : Nat} (hb : b = w.heap.size) (cs : Array Value) (t : TypeId) : blk (w.alloc (.cells cs t)) b cs t := hb ▸ blk_new w cs t
theorem blk.ownsRow {w : World} {E size : Nat} {v : Value} {n : Nat} {xs : List Value} {B : Nat} (h : w.ownsRow B E size v n xs) {g : Nat} (hg : v.ownBlock = some g) : ∃ cur, blk w g cur E ∧ cur.toList.take (n * size) = xs := by
  rcases h.2 with ⟨rfl, _⟩ | ⟨g', cap, cur, rfl, _, hgg, _, _, _, ht⟩
  · simp [Value.ownBlock] at hg
  · simp [Value.ownBlock] at hg
    subst hg
    exact ⟨cur, hgg, ht⟩
end

/-- A slice's own row is where it was, or in a block that is new. -/
def Fresh (w : World) (v v' : Value) : Prop := v'.ownBlock = v.ownBlock ∨ ∃ g, v'.ownBlock = some g ∧ w.heap.size ≤ g

theorem Fresh.refl (w : World) (v : Value) : Fresh w v v := .inl rfl
theorem Fresh.trans {w w1 : World} {v v1 v2 : Value} (h : Fresh w v v1) (k : Fresh w1 v1 v2) (hs : w.heap.size ≤ w1.heap.size) : Fresh w v v2 := by
  rcases k with k | ⟨g, k, hg⟩
  · rcases h with h | ⟨g, h, hg⟩
    · exact .inl (k.trans h)
    · exact .inr ⟨g, k.trans h, hg⟩
  · exact .inr ⟨g, k, by omega⟩
theorem Fresh.ne {w : World} {v v' : Value} (h : Fresh w v v') {b : Nat} (hb : b < w.heap.size) (hn : v.ownBlock ≠ some b) : v'.ownBlock ≠ some b := by
  rcases h with h | ⟨g, h, hg⟩
  · rw [h]; exact hn
  · rw [h]; intro e; cases e; omega

theorem World.ownsRow.chg {w w' : World} {S : Nat → Prop} {B E size : Nat} {v : Value} {n : Nat} {xs : List Value} (h : w.ownsRow B E size v n xs) (hc : Chg S w w') (hn : ∀ g, v.ownBlock = some g → ¬ S g) : w'.ownsRow B E size v n xs := by
  refine ⟨h.1, ?_⟩
  rcases h.2 with hv | ⟨g, cap, cur, rfl, hb, hgg, rest⟩
  · exact .inl hv
  · refine .inr ⟨g, cap, cur, rfl, hb, ?_, rest⟩
    rw [hc.block g (Array.getElem?_eq_some_iff.1 hgg).1 (hn g rfl)]
    exact hgg
end Go.Proofs.YtkhicabfmkldpaaDoor
