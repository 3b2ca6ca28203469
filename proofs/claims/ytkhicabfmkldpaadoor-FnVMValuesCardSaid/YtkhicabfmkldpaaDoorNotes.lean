/-
  The field of impl that notes each call made on it: what each of its methods does to the notes.
-/
import Derived.Test.YtkhicabfmkldpaaDoorOrd
set_option linter.unusedSimpArgs false
set_option linter.unusedVariables false
namespace Go.Proofs.YtkhicabfmkldpaaDoor
open Go.RowKit

structure Note where
  name : ByteArray
  n : Int
  s : ByteArray
  tg : Int

def Note.cells (c : Note) : List Value := [.string c.name, .int .i64 c.n, .string c.s, .int .i64 c.tg]

/-- What a machine has noted: the notes' struct in block N, their row among the call's own blocks. -/
structure NotesAt (w : World) (B N : Nat) (v : Value) (l : List Note) (fields : Int) : Prop where
  blk : blk w N #[v, .int .i64 fields] 74
  own : w.ownsRow B 47 4 v l.length (l.flatMap Note.cells)
  ne : v.ownBlock ≠ some N
  le : B ≤ N

/-- What became of the notes: they are those, and nothing else has changed. -/
def Noted (w w' : World) (B N : Nat) (v : Value) (l : List Note) (fields : Int) : Prop :=
  ∃ v', NotesAt w' B N v' l fields ∧ Chg (fun k => k = N ∨ v.ownBlock = some k) w w' ∧ Fresh w v v'

theorem NotesAt.alloc {w : World} {B N : Nat} {v : Value} {l : List Note} {fields : Int} (h : NotesAt w B N v l fields) (o : Obj) : NotesAt (w.alloc o) B N v l fields :=
  ⟨h.blk.alloc o, h.own.alloc o, h.ne, h.le⟩
theorem NotesAt.drew {w : World} {B N : Nat} {v : Value} {l : List Note} {fields : Int} (h : NotesAt w B N v l fields) : NotesAt w.drew B N v l fields := ⟨h.blk, h.own, h.ne, h.le⟩
theorem NotesAt.chg {w w' : World} {S : Nat → Prop} {B N : Nat} {v : Value} {l : List Note} {fields : Int} (h : NotesAt w B N v l fields) (hc : Chg S w w') (hN : ¬ S N) (hv : ∀ g, v.ownBlock = some g → ¬ S g) : NotesAt w' B N v l fields :=
  ⟨h.blk.chg hc hN, World.ownsRow.chg h.own hc hv, h.ne, h.le⟩
theorem Noted.back {w w1 w' : World} {B N : Nat} {v : Value} {l : List Note} {fields : Int} (h : Noted w1 w' B N v l fields) (hc : Chg (fun _ => False) w w1) : Noted w w' B N v l fields := by
  obtain ⟨v', h1, h2, h3⟩ := h
  refine ⟨v', h1, (hc.mono (fun _ _ e => e.elim)).trans h2 (fun _ _ e => e), ?_⟩
  rcases h3 with h3 | ⟨g, h3, h4⟩
  · exact .inl h3
  · exact .inr ⟨g, h3, by have := hc.size; omega⟩
theorem chg_alloc (w : World) (o : Obj) : Chg (fun _ => False) w (w.alloc o) := (Chg.refl _ _).alloc o

theorem Tryd.info47 : (Tryd.prog.info? 47).map (fun i => (i.zero, i.size, i.bytes)) = some (some (.agg #[.string ByteArray.empty, .int .i64 0, .string ByteArray.empty, .int .i64 0]), 4, 48) := by kernel_rfl

theorem notes_end {w w0 w1 : World} {B N : Nat} {v : Value} {l : List Note} {fields : Int} {c : Note} {g cap : Nat} (h : NotesAt w B N v l fields) (hC : Chg (fun _ => False) w w0) (hgrow : w0.grownBy w1 v.ownBlock)
    (hown1 : w1.ownsRow B 47 4 (.slice (some ⟨g, 0, none⟩) (l.length + 1) cap) (l.length + 1) (l.flatMap Note.cells ++ c.cells)) (hat : v.ownBlock = some g ∨ w.heap.size ≤ g) :
    NotesAt (w1.setCell ⟨N, 0, none⟩ (.slice (some ⟨g, 0, none⟩) (l.length + 1) cap)) B N (.slice (some ⟨g, 0, none⟩) (l.length + 1) cap) (l ++ [c]) fields ∧
      Chg (fun k => k = N ∨ v.ownBlock = some k) w (w1.setCell ⟨N, 0, none⟩ (.slice (some ⟨g, 0, none⟩) (l.length + 1) cap)) ∧ Fresh w v (.slice (some ⟨g, 0, none⟩) (l.length + 1) cap) := by
  have hN := h.blk.lt
  have hNg : N ≠ g := by
    rcases hat with hat | hat
    · intro e; exact h.ne (e ▸ hat)
    · omega
  have hb1 : blk w1 N #[v, .int .i64 fields] 74 := (h.blk.chg hC (fun e => e)).chg (S := fun k => v.ownBlock = some k) ⟨hgrow.os, hgrow.tape, hgrow.output, hgrow.size, fun k hk hn => hgrow.block k hk (fun e => hn e.symm)⟩ h.ne
  refine ⟨⟨hb1.set 0 _, ?_, ?_, h.le⟩, ?_, ?_⟩
  · rw [List.length_append, List.flatMap_append, List.flatMap_singleton]
    exact World.ownsRow.chg hown1 ((Chg.refl (fun k => k = N) _).setCell (fun _ => rfl) _) (fun g' hg' e => by simp [Value.ownBlock] at hg'; omega)
  · simp [Value.ownBlock]; omega
  · exact ((hC.mono (fun _ _ e => e.elim)).grown hgrow (fun k hk _ => .inr hk)).setCell (fun _ => .inl rfl) _
  · rcases hat with hat | hat
    · exact .inl (by rw [hat]; rfl)
    · exact .inr ⟨g, rfl, hat⟩

theorem heap_new2 (w : World) (o1 o2 : Obj) : ((w.alloc o1).alloc o2).drew.heap[w.heap.size + 1]? = some o2 := by
  show ((w.alloc o1).alloc o2).heap[w.heap.size + 1]? = some o2
  have h := heap_alloc_new (w.alloc o1) o2
  rwa [show (w.alloc o1).heap.size = w.heap.size + 1 by simp] at h

set_option maxRecDepth 100000 in
theorem note_any (B N : Nat) (v : Value) (l : List Note) (fields at' n : Int) (name s : ByteArray) (w : World) (h : NotesAt w B N v l fields) (hl : l.length ≤ 1000000) :
    Calls Tryd.prog 110 #[.agg #[.pointer (some ⟨N, 0, none⟩), .int .i64 at'], .string name, .int .i64 n, .string s] w fun e w' =>
      e = .returned (.tuple #[]) ∧ Noted w w' B N v (l ++ [⟨name, n, s, at'⟩]) fields := by
  obtain ⟨i0, hi, hz0, hz1, hz2⟩ := info_parts Tryd.info47
  have H := hid h
  have c0 : w.cell? ⟨N, 0, none⟩ = some v := h.blk.cell 0 rfl
  have c0f := h.blk.free 0
  have hN := h.blk.lt
  have an : v.ownBlock ≠ some N := h.ne
  have ab : v.ownBlock ≠ some w.heap.size := fun e => by have := (h.own.lt _ e).2; omega
  have hB := h.le
  clear h
  go_enter Tryd.func110, Tryd.ntmps110
  go_wp2
  refine wp_region_till (fun w' => w'.cell? ⟨N, 0, none⟩ = some v ∧ w'.cell? ⟨w.heap.size, 0, none⟩ = some (.pointer (some ⟨N, 0, none⟩)) ∧ w'.cell? ⟨w.heap.size, 1, none⟩ = some (.int .i64 at')) 15 (by kernel_rfl) ?_
  refine wpTill_reads 5 [0, 1, 2, 3, 4, 5, 6, 7, 8, 9, 10, 11, 12] (by kernel_rfl) ?_ ?_ ?_
  · intro c a d v w h; cases d <;> exact h
  · go_simp
  iterate 13 (refine wpReads_cons (v := ?_) rfl (yieldsIf_yes rfl fun w' hw => ?_) ?_; rotate_left; (obtain ⟨h1, h2, h3⟩ := hw; go_simp; try with_reducible rfl); simp only [Act.put, List.setIfInBounds_toArray, List.set_cons_zero, List.set_cons_succ])
  refine wpReads_nil ?_
  simp only [listAll]
  refine wpTill_one (i := 13) (by kernel_rfl) rfl rfl ?_
  intro K hK
  go_step
  refine hK _ _ ⟨fun _ => ?_, ?_⟩
  · go_simp
  clear hK K
  refine wpTill_one (i := 14) (by kernel_rfl) rfl rfl ?_
  intro K hK
  refine wp_append_lies _ _ _ _ (by rfl) B 47 i0 _ 4 48 Tryd.underlying26 hi hz0 hz1 hz2 rfl (by omega) v l.length (l.flatMap Note.cells) (by rfl) (((H.out.own.alloc _).alloc _).drew)
        ⟨w.heap.size + 1, 0, none⟩ 1 1 (Note.cells ⟨name, n, s, at'⟩) (by rfl) (by rfl) (World.news_of_block (cs := #[.string name, .int .i64 n, .string s, .int .i64 at']) (t := 47) (fr := (0, 0)) (heap_new2 _ _ _)) (by simp [Note.cells, Value.oneCell'])
        (by omega) (by unfold maxLen; omega) (by omega) (by simp; omega) (w.heap.size + 2) (by simp) ?_
  intro g cap w1 hown1 hgrow hat hlt
  refine hK _ _ ⟨fun _ => ?_, ?_⟩
  · refine ⟨?_, ?_, ?_⟩
    · rw [hgrow.cell_far _ (by simp; omega) (Ne.symm an)]; go_simp
    · rw [hgrow.cell_far _ (by simp; omega) (Ne.symm ab)]; go_simp
    · rw [hgrow.cell_far _ (by simp; omega) (Ne.symm ab)]; go_simp
  clear hK K
  have hc1 : w1.cell? ⟨N, 0, none⟩ = some v := by rw [hgrow.cell_far _ (by simp; omega) (Ne.symm an)]; go_simp
  have hf1 : w1.frozen? ⟨N, 0, none⟩ = false := by rw [hgrow.frozen_far _ (by simp; omega) (Ne.symm an)]; exact (((H.out.blk.alloc _).alloc _).drew).free 0
  refine wpTill_one (i := 15) (by kernel_rfl) rfl rfl ?_
  intro K hK
  go_step
  refine hK _ _ ⟨fun h => absurd h (by decide), ?_⟩
  clear hK K
  refine wpTill_one (i := 16) (by kernel_rfl) rfl rfl ?_
  intro K hK
  go_step
  refine hK _ _ ⟨fun h => absurd h (by decide), ?_⟩
  clear hK K
  refine wpTill_one (i := 17) (by kernel_rfl) rfl rfl ?_
  intro K hK
  go_step
  refine hK _ _ ⟨fun h => absurd h (by decide), ?_⟩
  clear hK K
  refine wpTill_done (by kernel_rfl) ?_ _
  go_end0
  exact ⟨rfl, _, notes_end H.out ((((Chg.refl _ _).alloc _).alloc _).drew) hgrow hown1 (hat.imp id (by omega))⟩

set_option maxRecDepth 100000 in
theorem SetInt_any (B N : Nat) (v : Value) (l : List Note) (fields tg : Int) (x : Int) (hx : -2147483648 ≤ x ∧ x ≤ 2147483647) (w : World) (h : NotesAt w B N v l fields) (hl : l.length ≤ 1000000) :
    Calls Tryd.prog 106 #[.agg #[.pointer (some ⟨N, 0, none⟩), .int .i64 tg], .int .i32 x] w fun e w' => e = .returned (.tuple #[]) ∧ Noted w w' B N v (l ++ [⟨⟨#[83, 101, 116, 73, 110, 116]⟩, x, ⟨#[]⟩, tg⟩]) fields := by
  have H := hid h
  clear h
  go_enter Tryd.func106, Tryd.ntmps106
  go_wp2_with (go_at_call 110; refine (note_any B N v l fields _ _ _ _ _ (H.out.alloc _) hl).mono ?_; rintro e w' ⟨rfl, hn⟩; replace hn := hid hn)
  go_end0
  exact ⟨rfl, hn.out.back (chg_alloc _ _)⟩

set_option maxRecDepth 100000 in
theorem SetLong_any (B N : Nat) (v : Value) (l : List Note) (fields tg : Int) (x : Int) (w : World) (h : NotesAt w B N v l fields) (hl : l.length ≤ 1000000) :
    Calls Tryd.prog 107 #[.agg #[.pointer (some ⟨N, 0, none⟩), .int .i64 tg], .int .i64 x] w fun e w' => e = .returned (.tuple #[]) ∧ Noted w w' B N v (l ++ [⟨⟨#[83, 101, 116, 76, 111, 110, 103]⟩, x, ⟨#[]⟩, tg⟩]) fields := by
  have H := hid h
  clear h
  go_enter Tryd.func107, Tryd.ntmps107
  go_wp2_with (go_at_call 110; refine (note_any B N v l fields _ _ _ _ _ (H.out.alloc _) hl).mono ?_; rintro e w' ⟨rfl, hn⟩; replace hn := hid hn)
  go_end0
  exact ⟨rfl, hn.out.back (chg_alloc _ _)⟩

set_option maxRecDepth 100000 in
theorem SetString_any (B N : Nat) (v : Value) (l : List Note) (fields tg : Int) (x : ByteArray) (w : World) (h : NotesAt w B N v l fields) (hl : l.length ≤ 1000000) :
    Calls Tryd.prog 108 #[.agg #[.pointer (some ⟨N, 0, none⟩), .int .i64 tg], .string x] w fun e w' => e = .returned (.tuple #[]) ∧ Noted w w' B N v (l ++ [⟨⟨#[83, 101, 116, 83, 116, 114, 105, 110, 103]⟩, 0, x, tg⟩]) fields := by
  have H := hid h
  clear h
  go_enter Tryd.func108, Tryd.ntmps108
  go_wp2_with (go_at_call 110; refine (note_any B N v l fields _ _ _ _ _ (H.out.alloc _) hl).mono ?_; rintro e w' ⟨rfl, hn⟩; replace hn := hid hn)
  go_end0
  exact ⟨rfl, hn.out.back (chg_alloc _ _)⟩

set_option maxRecDepth 100000 in
theorem SetDefault_any (B N : Nat) (v : Value) (l : List Note) (fields tg : Int) (x : Int) (hx : -9223372036854775808 ≤ x ∧ x ≤ 9223372036854775807) (w : World) (h : NotesAt w B N v l fields) (hl : l.length ≤ 1000000) :
    Calls Tryd.prog 103 #[.agg #[.pointer (some ⟨N, 0, none⟩), .int .i64 tg], .int .i64 x] w fun e w' => e = .returned (.tuple #[]) ∧ Noted w w' B N v (l ++ [⟨⟨#[83, 101, 116, 68, 101, 102, 97, 117, 108, 116]⟩, x, ⟨#[]⟩, tg⟩]) fields := by
  have H := hid h
  clear h
  go_enter Tryd.func103, Tryd.ntmps103
  go_wp2_with (go_at_call 110; refine (note_any B N v l fields _ _ _ _ _ (H.out.alloc _) hl).mono ?_; rintro e w' ⟨rfl, hn⟩; replace hn := hid hn)
  go_end0
  exact ⟨rfl, hn.out.back (chg_alloc _ _)⟩

set_option maxRecDepth 100000 in
theorem NullField_any (B N : Nat) (v : Value) (l : List Note) (fields tg : Int) (x : Int) (hx : -9223372036854775808 ≤ x ∧ x ≤ 9223372036854775807) (w : World) (h : NotesAt w B N v l fields) (hl : l.length ≤ 1000000) :
    Calls Tryd.prog 100 #[.agg #[.pointer (some ⟨N, 0, none⟩), .int .i64 tg], .int .i64 x] w fun e w' => e = .returned (.tuple #[]) ∧ Noted w w' B N v (l ++ [⟨⟨#[78, 117, 108, 108, 70, 105, 101, 108, 100]⟩, x, ⟨#[]⟩, tg⟩]) fields := by
  have H := hid h
  clear h
  go_enter Tryd.func100, Tryd.ntmps100
  go_wp2_with (go_at_call 110; refine (note_any B N v l fields _ _ _ _ _ (H.out.alloc _) hl).mono ?_; rintro e w' ⟨rfl, hn⟩; replace hn := hid hn)
  go_end0
  exact ⟨rfl, hn.out.back (chg_alloc _ _)⟩

set_option maxRecDepth 100000 in
theorem HintSize_any (B N : Nat) (v : Value) (l : List Note) (fields tg : Int) (x : Int) (hx : -9223372036854775808 ≤ x ∧ x ≤ 9223372036854775807) (w : World) (h : NotesAt w B N v l fields) (hl : l.length ≤ 1000000) :
    Calls Tryd.prog 99 #[.agg #[.pointer (some ⟨N, 0, none⟩), .int .i64 tg], .int .i64 x] w fun e w' => e = .returned (.tuple #[]) ∧ Noted w w' B N v (l ++ [⟨⟨#[72, 105, 110, 116, 83, 105, 122, 101]⟩, x, ⟨#[]⟩, tg⟩]) fields := by
  have H := hid h
  clear h
  go_enter Tryd.func99, Tryd.ntmps99
  go_wp2_with (go_at_call 110; refine (note_any B N v l fields _ _ _ _ _ (H.out.alloc _) hl).mono ?_; rintro e w' ⟨rfl, hn⟩; replace hn := hid hn)
  go_end0
  exact ⟨rfl, hn.out.back (chg_alloc _ _)⟩

set_option maxRecDepth 100000 in
theorem Finalize_any (B N : Nat) (v : Value) (l : List Note) (fields tg : Int)  (w : World) (h : NotesAt w B N v l fields) (hl : l.length ≤ 1000000) :
    Calls Tryd.prog 97 #[.agg #[.pointer (some ⟨N, 0, none⟩), .int .i64 tg]] w fun e w' => e = .returned (.tuple #[]) ∧ Noted w w' B N v (l ++ [⟨⟨#[70, 105, 110, 97, 108, 105, 122, 101]⟩, 0, ⟨#[]⟩, tg⟩]) fields := by
  have H := hid h
  clear h
  go_enter Tryd.func97, Tryd.ntmps97
  go_wp2_with (go_at_call 110; refine (note_any B N v l fields _ _ _ _ _ (H.out.alloc _) hl).mono ?_; rintro e w' ⟨rfl, hn⟩; replace hn := hid hn)
  go_end0
  exact ⟨rfl, hn.out.back (chg_alloc _ _)⟩

theorem NotesAt.ne_new {w : World} {B N : Nat} {v : Value} {l : List Note} {fields : Int} (h : NotesAt w B N v l fields) : ∀ g, v.ownBlock = some g → g < w.heap.size := fun g hg => (h.own.lt g hg).2

set_option maxRecDepth 100000 in
theorem next_any (B N : Nat) (v : Value) (l : List Note) (fields tg n : Int) (name s : ByteArray) (w : World) (h : NotesAt w B N v l fields) (hl : l.length ≤ 1000000) (hf0 : 0 ≤ fields) (hf1 : fields ≤ 10000000) :
    Calls Tryd.prog 109 #[.agg #[.pointer (some ⟨N, 0, none⟩), .int .i64 tg], .string name, .int .i64 n, .string s] w fun e w' =>
      e = .returned (.iface 87 (.agg #[.pointer (some ⟨N, 0, none⟩), .int .i64 (fields + 1)])) ∧ Noted w w' B N v (l ++ [⟨name, n, s, tg⟩]) (fields + 1) := by
  have H := hid h
  clear h
  go_enter Tryd.func109, Tryd.ntmps109
  go_wp2_with fail
  refine (note_any B N v l fields _ _ _ _ _ (H.out.alloc _) hl).mono ?_
  rintro e w' ⟨rfl, v', h1, hc, hfr⟩
  have hN := H.out.blk.lt
  have e0 : w'.cell? ⟨w.heap.size, 0, none⟩ = some (.pointer (some ⟨N, 0, none⟩)) :=
    ((blk_new w _ 87).chg hc (fun e => by rcases e with e | e; omega; have := H.out.ne_new _ e; omega)).cell 0 rfl
  have e1 : w'.cell? ⟨N, 1, none⟩ = some (.int .i64 fields) := h1.blk.cell 1 rfl
  have e2 : w'.frozen? ⟨N, 1, none⟩ = false := h1.blk.free 1
  have hs := hc.size
  simp at hs
  have hne : ¬ w.heap.size = N := by omega
  have H1 := hid h1
  have Hc := hid hc
  have Hfr := hid hfr
  clear h1 hc hfr
  go_wp2
  go_quiet (fail)
  go_wp2
  go_ret
  refine ⟨rfl, ?_⟩
  refine Noted.back (w1 := w.alloc (.cells #[.pointer (some ⟨N, 0, none⟩), .int .i64 tg] 87)) ?_ (chg_alloc _ _)
  refine ⟨v', ⟨(H1.out.blk.set 1 _).drewN nq, World.ownsRow.chg H1.out.own (((Chg.refl (fun k => k = N) _).setCell (fun _ => rfl) _).drewN nq) (fun g hg e => H1.out.ne (e ▸ hg)), H1.out.ne, H1.out.le⟩, ?_, Hfr.out⟩
  exact (Hc.out.setCell (fun _ => .inl rfl) _).drewN nq

set_option maxRecDepth 100000 in
theorem Get_any (B N : Nat) (v : Value) (l : List Note) (fields tg : Int) (x : Int) (hx : -9223372036854775808 ≤ x ∧ x ≤ 9223372036854775807) (w : World) (h : NotesAt w B N v l fields) (hl : l.length ≤ 1000000) (hf0 : 0 ≤ fields) (hf1 : fields ≤ 10000000) :
    Calls Tryd.prog 98 #[.agg #[.pointer (some ⟨N, 0, none⟩), .int .i64 tg], .int .i64 x] w fun e w' =>
      e = .returned (.iface 87 (.agg #[.pointer (some ⟨N, 0, none⟩), .int .i64 (fields + 1)])) ∧ Noted w w' B N v (l ++ [⟨⟨#[71, 101, 116]⟩, x, ⟨#[]⟩, tg⟩]) (fields + 1) := by
  have H := hid h
  clear h
  go_enter Tryd.func98, Tryd.ntmps98
  go_wp2_with (go_at_call 109; refine (next_any B N v l fields _ _ _ _ _ (H.out.alloc _) hl hf0 hf1).mono ?_; rintro e w' ⟨rfl, hn⟩; replace hn := hid hn)
  go_ret
  exact ⟨rfl, hn.out.back (chg_alloc _ _)⟩

set_option maxRecDepth 100000 in
theorem AppendMap_any (B N : Nat) (v : Value) (l : List Note) (fields tg : Int) (x : ByteArray) (w : World) (h : NotesAt w B N v l fields) (hl : l.length ≤ 1000000) (hf0 : 0 ≤ fields) (hf1 : fields ≤ 10000000) :
    Calls Tryd.prog 96 #[.agg #[.pointer (some ⟨N, 0, none⟩), .int .i64 tg], .string x] w fun e w' =>
      e = .returned (.iface 87 (.agg #[.pointer (some ⟨N, 0, none⟩), .int .i64 (fields + 1)])) ∧ Noted w w' B N v (l ++ [⟨⟨#[65, 112, 112, 101, 110, 100, 77, 97, 112]⟩, 0, x, tg⟩]) (fields + 1) := by
  have H := hid h
  clear h
  go_enter Tryd.func96, Tryd.ntmps96
  go_wp2_with (go_at_call 109; refine (next_any B N v l fields _ _ _ _ _ (H.out.alloc _) hl hf0 hf1).mono ?_; rintro e w' ⟨rfl, hn⟩; replace hn := hid hn)
  go_ret
  exact ⟨rfl, hn.out.back (chg_alloc _ _)⟩

set_option maxRecDepth 100000 in
theorem AppendArray_any (B N : Nat) (v : Value) (l : List Note) (fields tg : Int)  (w : World) (h : NotesAt w B N v l fields) (hl : l.length ≤ 1000000) (hf0 : 0 ≤ fields) (hf1 : fields ≤ 10000000) :
    Calls Tryd.prog 95 #[.agg #[.pointer (some ⟨N, 0, none⟩), .int .i64 tg]] w fun e w' =>
      e = .returned (.iface 87 (.agg #[.pointer (some ⟨N, 0, none⟩), .int .i64 (fields + 1)])) ∧ Noted w w' B N v (l ++ [⟨⟨#[65, 112, 112, 101, 110, 100, 65, 114, 114, 97, 121]⟩, 0, ⟨#[]⟩, tg⟩]) (fields + 1) := by
  have H := hid h
  clear h
  go_enter Tryd.func95, Tryd.ntmps95
  go_wp2_with (go_at_call 109; refine (next_any B N v l fields _ _ _ _ _ (H.out.alloc _) hl hf0 hf1).mono ?_; rintro e w' ⟨rfl, hn⟩; replace hn := hid hn)
  go_ret
  exact ⟨rfl, hn.out.back (chg_alloc _ _)⟩

theorem SetBoolean_any (B N : Nat) (v : Value) (l : List Note) (fields tg : Int) (b : Bool) (w : World) (h : NotesAt w B N v l fields) (hl : l.length ≤ 1000000) :
    Calls Tryd.prog 101 #[.agg #[.pointer (some ⟨N, 0, none⟩), .int .i64 tg], .bool b] w fun e w' => e = .returned (.tuple #[]) ∧ Noted w w' B N v (l ++ [⟨⟨#[83, 101, 116, 66, 111, 111, 108, 101, 97, 110]⟩, if b then 1 else 0, ⟨#[]⟩, tg⟩]) fields := by
  have H := hid h
  clear h
  cases b
  all_goals
    go_enter Tryd.func101, Tryd.ntmps101
    go_wp2_with (go_at_call 110; refine (note_any B N v l fields _ _ _ _ _ (H.out.alloc _) hl).mono ?_; rintro e w' ⟨rfl, hn⟩; replace hn := hid hn)
    first | go_end0 | refine bodyPost_ret (results_none rfl _ _ _) rfl ?_
    exact ⟨rfl, hn.out.back (chg_alloc _ _)⟩
end Go.Proofs.YtkhicabfmkldpaaDoor
