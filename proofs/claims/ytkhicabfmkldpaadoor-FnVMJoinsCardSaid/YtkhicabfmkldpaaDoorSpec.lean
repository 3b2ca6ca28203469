/-
  The specification's machine: its memory, its notes, its targets.
  The specification's machine: a further target, the next bytes.
  The specification's machine: the next bytes.
  The specification's machine: the next whole number.
  The specification's machine: its registers; a register is handed on.
-/
import Derived.Test.YtkhicabfmkldpaaDoorBuilt
import Derived.Test.YtkhicabfmkldpaaDoorVals
set_option linter.unusedSimpArgs false
set_option linter.unusedVariables false
namespace Go.Proofs.YtkhicabfmkldpaaDoor
open Go Go.RowKit

/-- A program in memory, or none. -/
def SpIn (w : World) (v : Value) (l : List (Nat × Int)) : Prop := (v = .slice none 0 0 ∧ l = []) ∨ InAt w v l

theorem SpIn.chg {w w' : World} {S : Nat → Prop} {v : Value} {l : List (Nat × Int)} (h : SpIn w v l) (hc : Chg S w w') (hS : ∀ g, v.ownBlock = some g → ¬ S g) : SpIn w' v l := by
  rcases h with h | ⟨b, off, cap, rfl, h1⟩
  · exact .inl h
  · refine .inr ⟨b, off, cap, rfl, fun k op x hk => ?_⟩
    obtain ⟨h2, h3⟩ := h1 k op x hk
    have hb := hc.block b (World.block_lt_of_cell? w _ h2) (hS b rfl)
    rw [cell_of hb, cell_of hb]
    exact ⟨h2, h3⟩

/-- The specification's machine in memory. -/
structure SpAt (w : World) (B M : Nat) (iv dv nv : Value) (ins : List (Nat × Int)) (rest : List UInt8) (notes : List Note) (bad odd : Bool) (left pc tg : Int) : Prop where
  m : blk w M #[iv, dv, nv, .bool bad, .bool odd, .int .i64 left, .int .i64 pc, .int .i64 tg] 67
  ins : SpIn w iv ins
  iold : ∀ b, iv.ownBlock = some b → b < B
  data : RdB w dv rest
  dold : ∀ b, dv.ownBlock = some b → b < B
  notes : w.ownsRow B 47 4 nv notes.length (notes.flatMap Note.cells)
  ne : nv.ownBlock ≠ some M
  le : B ≤ M

theorem SpAt.other {w w' : World} {S : Nat → Prop} {B M : Nat} {iv dv nv nv' : Value} {ins : List (Nat × Int)} {rest : List UInt8} {l l' : List Note} {bad odd bad' odd' : Bool} {left pc tg left' pc' tg' : Int} (h : SpAt w B M iv dv nv ins rest l bad odd left pc tg)
    (hc : Chg S w w') (hS : ∀ k, S k → B ≤ k) (hm : blk w' M #[iv, dv, nv', .bool bad', .bool odd', .int .i64 left', .int .i64 pc', .int .i64 tg'] 67) (hn : w'.ownsRow B 47 4 nv' l'.length (l'.flatMap Note.cells)) (hne : nv'.ownBlock ≠ some M) :
    SpAt w' B M iv dv nv' ins rest l' bad' odd' left' pc' tg' :=
  ⟨hm, h.ins.chg hc (fun g hg e => by have := hS g e; have := h.iold g hg; omega), h.iold, h.data.chg hc (fun _ g hg e => by have := hS g e; have := h.dold g hg; omega), h.dold, hn, hne, h.le⟩

set_option maxRecDepth 100000 in
theorem snote_any (B M : Nat) (iv dv nv : Value) (ins : List (Nat × Int)) (rest : List UInt8) (l : List Note) (bad odd : Bool) (left pc tg tgt n : Int) (name s : ByteArray) (w : World) (h : SpAt w B M iv dv nv ins rest l bad odd left pc tg) (hl : l.length ≤ 1000000) :
    Calls Tryd.prog 39 #[.pointer (some ⟨M, 0, none⟩), .string name, .int .i64 tgt, .int .i64 n, .string s] w fun e w' => e = .returned (.tuple #[]) ∧
      ∃ nv', SpAt w' B M iv dv nv' ins rest (l ++ [⟨name, n, s, tgt⟩]) bad odd left pc tg ∧ Chg (fun k => k = M ∨ nv.ownBlock = some k) w w' ∧ Fresh w nv nv' := by
  obtain ⟨i0, hi, hz0, hz1, hz2⟩ := info_parts Tryd.info47
  have H := hid h
  have c2 : w.cell? ⟨M, 2, none⟩ = some nv := h.m.cell 2 rfl
  have f2 := h.m.free 2
  have lM := h.m.lt
  clear h
  go_enter Tryd.func39, Tryd.ntmps39
  go_wp2_with (at_builtin; refine wpList_append_lies _ rfl _ _ _ rfl B 47 i0 _ 4 48 Tryd.underlying26 hi hz0 hz1 hz2 rfl (by omega) nv l.length (l.flatMap Note.cells) rfl (H.out.notes.alloc _) ⟨w.heap.size, 0, none⟩ 1 1 (Note.cells ⟨name, n, s, tgt⟩) rfl rfl (World.news_of_block (cs := #[.string name, .int .i64 n, .string s, .int .i64 tgt]) (t := 47) (fr := (0, 0)) (heap_alloc_new _ _)) (by simp [Note.cells, Value.oneCell']) (by omega) (by unfold maxLen; omega) (by omega) (by have := H.out.le; simp; omega) (w.heap.size + 1) (by simp) ?_)
  intro g cap w1 hown1 hgrow hat hlt
  have hM1 : blk w1 M #[iv, dv, nv, .bool bad, .bool odd, .int .i64 left, .int .i64 pc, .int .i64 tg] 67 :=
    (H.out.m.alloc _).chg (S := fun k => nv.ownBlock = some k) ⟨hgrow.os, hgrow.tape, hgrow.output, hgrow.size, fun k hk hn => hgrow.block k hk (fun e => hn e.symm)⟩ H.out.ne
  have f21 : w1.frozen? ⟨M, 2, none⟩ = false := hM1.free 2
  have c21 : w1.cell? ⟨M, 2, none⟩ = some nv := hM1.cell 2 rfl
  have HM1 := hid hM1
  have hC : Chg (fun k => nv.ownBlock = some k) w w1 := ((chg_alloc w _).mono (fun _ _ e => e.elim)).trans (S' := fun k => nv.ownBlock = some k) ⟨hgrow.os, hgrow.tape, hgrow.output, hgrow.size, fun k hk hn => hgrow.block k hk (fun e => hn e.symm)⟩ (fun _ _ e => e)
  have HC := hid hC
  have HO := hid hown1
  have hMg : M ≠ g := by
    rcases hat with e | e
    · intro e2; exact H.out.ne (e2 ▸ e)
    · omega
  have hfr : Fresh w nv (.slice (some ⟨g, 0, none⟩) (l.length + 1) cap) := by
    rcases hat with e | e
    · exact .inl (by rw [e]; rfl)
    · exact .inr ⟨g, rfl, by omega⟩
  clear hM1 hC hown1 hgrow hat c2 f2
  go_wp2
  go_end0
  refine ⟨rfl, .slice (some ⟨g, 0, none⟩) (l.length + 1) cap, ?_, (HC.out.mono (fun _ _ e => .inr e)).setCell (fun _ => .inl rfl) _, hfr⟩
  have hC2 : Chg (fun k => k = M ∨ nv.ownBlock = some k) w (w1.setCell ⟨M, 2, none⟩ (.slice (some ⟨g, 0, none⟩) (l.length + 1) cap)) := (HC.out.mono (fun _ _ e => .inr e)).setCell (fun _ => .inl rfl) _
  refine H.out.other hC2 (fun k e => by
    rcases e with e | e
    · subst e; exact H.out.le
    · exact (H.out.notes.lt _ e).1) (HM1.out.set 2 _) ?_ (by simp [Value.ownBlock]; omega)
  rw [List.length_append, List.flatMap_append, List.flatMap_singleton]
  exact World.ownsRow.chg HO.out ((Chg.refl (fun k => k = M) _).setCell (fun _ => rfl) _) (fun g' hg' e => by simp [Value.ownBlock] at hg'; omega)
end Go.Proofs.YtkhicabfmkldpaaDoor

namespace Go.Proofs.YtkhicabfmkldpaaDoor
open Go Go.RowKit

set_option maxRecDepth 100000 in
theorem sfurther_any (B M : Nat) (iv dv nv : Value) (ins : List (Nat × Int)) (rest : List UInt8) (l : List Note) (bad odd : Bool) (left pc tg : Int) (w : World) (h : SpAt w B M iv dv nv ins rest l bad odd left pc tg) (h0 : 0 ≤ tg) (h1 : tg ≤ 1000000) :
    Calls Tryd.prog 40 #[.pointer (some ⟨M, 0, none⟩)] w fun e w' => e = .returned (.int .i64 (tg + 1)) ∧
      SpAt w' B M iv dv nv ins rest l bad odd left pc (tg + 1) ∧ Chg (fun k => k = M) w w' := by
  have H := hid h
  have c7 : w.cell? ⟨M, 7, none⟩ = some (.int .i64 tg) := h.m.cell 7 rfl
  have f7 := h.m.free 7
  clear h
  go_enter Tryd.func40, Tryd.ntmps40
  go_wp2
  go_ret
  have hC : Chg (fun k => k = M) w (w.setCell ⟨M, 7, none⟩ (.int .i64 (tg + 1))) := (Chg.refl (fun k => k = M) w).setCell (fun _ => rfl) _
  exact ⟨rfl, H.out.other hC (fun k e => by subst e; exact H.out.le) (H.out.m.set 7 _) (World.ownsRow.chg H.out.notes hC (fun g hg e => H.out.ne (e ▸ hg))) H.out.ne, hC⟩
end Go.Proofs.YtkhicabfmkldpaaDoor

namespace Go.Proofs.YtkhicabfmkldpaaDoor
open Go Go.RowKit

theorem SpAt.took {w : World} {B M : Nat} {iv dv nv : Value} {ins : List (Nat × Int)} {rest : List UInt8} {l : List Note} {bad odd : Bool} {left pc tg : Int} (h : SpAt w B M iv dv nv ins rest l bad odd left pc tg) (dv' : Value) (rest' : List UInt8)
    (hd : RdB w dv' rest') (hdo : ∀ g, dv'.ownBlock = some g → g < B) : SpAt (w.setCell ⟨M, 1, none⟩ dv') B M iv dv' nv ins rest' l bad odd left pc tg ∧ Chg (fun k => k = M) w (w.setCell ⟨M, 1, none⟩ dv') := by
  have hC : Chg (fun k => k = M) w (w.setCell ⟨M, 1, none⟩ dv') := (Chg.refl (fun k => k = M) w).setCell (fun _ => rfl) _
  exact ⟨⟨h.m.set 1 _, h.ins.chg hC (fun g hg e => by have := h.iold g hg; have := h.le; omega), h.iold, hd.chg hC (fun _ g hg e => by have := hdo g hg; have := h.le; omega), hdo, World.ownsRow.chg h.notes hC (fun g hg e => h.ne (e ▸ hg)), h.ne, h.le⟩, hC⟩

theorem rdB_take {w : World} {b off cap : Nat} {rest : List UInt8} {n : Nat} (hn : n ≤ rest.length) (hc : rest.length ≤ cap) (hm : cap ≤ maxLen) (h : ∀ i, i < rest.length → w.cell? ⟨b, off + i, none⟩ = some (.int .u8 (rest.getD i 0).toNat)) : RdB w (.slice (some ⟨b, off, none⟩) n cap) (rest.take n) :=
  .inr ⟨b, off, cap, by rw [List.length_take, Nat.min_eq_left hn], by rw [List.length_take]; omega, hm, fun i hi => by
    rw [List.length_take] at hi
    rw [h i (by omega)]
    simp [List.getD_eq_getElem?_getD, List.getElem?_take, show i < n by omega]⟩

theorem rdB_drop {w : World} {b off cap : Nat} {rest : List UInt8} {n : Nat} (hn : n ≤ rest.length) (hc : rest.length ≤ cap) (hm : cap ≤ maxLen) (h : ∀ i, i < rest.length → w.cell? ⟨b, off + i, none⟩ = some (.int .u8 (rest.getD i 0).toNat)) : RdB w (.slice (some ⟨b, off + n, none⟩) (rest.length - n) (cap - n)) (rest.drop n) :=
  .inr ⟨b, off + n, cap - n, by rw [List.length_drop], by rw [List.length_drop]; omega, by omega, fun i hi => by
    rw [List.length_drop] at hi
    rw [Nat.add_assoc, h (n + i) (by omega)]
    simp [List.getD_eq_getElem?_getD, List.getElem?_drop]⟩

set_option maxRecDepth 100000 in
theorem stake_ok (B M : Nat) (iv dv nv : Value) (ins : List (Nat × Int)) (rest : List UInt8) (l : List Note) (bad odd : Bool) (left pc tg : Int) (n : Nat) (w : World) (h : SpAt w B M iv dv nv ins rest l bad odd left pc tg) (hn : n ≤ rest.length) (hr : rest.length ≤ 1000000) :
    Calls Tryd.prog 53 #[.pointer (some ⟨M, 0, none⟩), .int .i64 n] w fun e w' => ∃ bv dv', e = .returned bv ∧ RdB w' bv (rest.take n) ∧
      SpAt w' B M iv dv' nv ins (rest.drop n) l bad odd left pc tg ∧ Chg (fun k => k = M) w w' := by
  have H := hid h
  rcases h.data with ⟨rfl, rfl⟩ | ⟨b, off, cap, rfl, hc1, hc2, hc3⟩
  · have hn0 : n = 0 := by simpa using hn
    subst hn0
    have c1 : w.cell? ⟨M, 1, none⟩ = some (.slice none 0 0) := h.m.cell 1 rfl
    have f1 := h.m.free 1
    clear h
    go_enter Tryd.func53, Tryd.ntmps53
    go_wp2
    go_ret
    exact ⟨_, _, rfl, .inl ⟨rfl, rfl⟩, H.out.took _ [] (.inl ⟨rfl, rfl⟩) (fun g hg => by simp [Value.ownBlock] at hg)⟩
  · have c1 : w.cell? ⟨M, 1, none⟩ = some (.slice (some ⟨b, off, none⟩) rest.length cap) := h.m.cell 1 rfl
    have f1 := h.m.free 1
    have H3 := hid hc3
    have H2 := hid hc2
    have h63 : maxLen < 9223372036854775808 := by unfold maxLen; omega
    clear h hc3
    go_enter Tryd.func53, Tryd.ntmps53
    go_wp2
    · rename_i hcn
      go_ret
      have hb : b < B := H.out.dold b rfl
      have hd : RdB w (.slice (some ⟨b, off, none⟩) (rest.length - n) 0) (rest.drop n) := .inr ⟨b, off, 0, by rw [List.length_drop], by rw [List.length_drop]; omega, by omega, fun i hi => by rw [List.length_drop] at hi; omega⟩
      have ht := H.out.took _ _ hd (fun g hg => by simp [Value.ownBlock] at hg; omega)
      exact ⟨_, rfl, (rdB_take hn (by omega) (by omega) H3.out).chg ht.2 (fun _ g hg e => by simp [Value.ownBlock] at hg; have := H.out.le; omega), ⟨_, ht.1⟩, ht.2⟩
    · go_ret
      have hb : b < B := H.out.dold b rfl
      have ht := H.out.took _ _ (rdB_drop hn hc1 hc2 H3.out) (fun g hg => by simp [Value.ownBlock] at hg; omega)
      exact ⟨_, rfl, (rdB_take hn hc1 hc2 H3.out).chg ht.2 (fun _ g hg e => by simp [Value.ownBlock] at hg; have := H.out.le; omega), ⟨_, ht.1⟩, ht.2⟩

theorem SpAt.fail {w : World} {B M : Nat} {iv dv nv : Value} {ins : List (Nat × Int)} {rest : List UInt8} {l : List Note} {bad odd : Bool} {left pc tg : Int} (h : SpAt w B M iv dv nv ins rest l bad odd left pc tg) :
    SpAt (w.setCell ⟨M, 3, none⟩ (.bool true)) B M iv dv nv ins rest l true odd left pc tg ∧ Chg (fun k => k = M) w (w.setCell ⟨M, 3, none⟩ (.bool true)) := by
  have hC : Chg (fun k => k = M) w (w.setCell ⟨M, 3, none⟩ (.bool true)) := (Chg.refl (fun k => k = M) w).setCell (fun _ => rfl) _
  exact ⟨h.other hC (fun k e => by subst e; exact h.le) (h.m.set 3 _) (World.ownsRow.chg h.notes hC (fun g hg e => h.ne (e ▸ hg))) h.ne, hC⟩

theorem SpAt.alloc {w : World} {B M : Nat} {iv dv nv : Value} {ins : List (Nat × Int)} {rest : List UInt8} {l : List Note} {bad odd : Bool} {left pc tg : Int} (h : SpAt w B M iv dv nv ins rest l bad odd left pc tg) (o : Obj) : SpAt (w.alloc o) B M iv dv nv ins rest l bad odd left pc tg :=
  h.other ((Chg.refl (fun _ => False) w).alloc o) (fun k e => e.elim) (h.m.alloc o) (h.notes.alloc o) h.ne

set_option maxRecDepth 100000 in
theorem stake_bad (B M : Nat) (iv dv nv : Value) (ins : List (Nat × Int)) (rest : List UInt8) (l : List Note) (bad odd : Bool) (left pc tg : Int) (n : Nat) (w : World) (h : SpAt w B M iv dv nv ins rest l bad odd left pc tg) (hn : rest.length < n) (hn2 : n ≤ 1000000) :
    Calls Tryd.prog 53 #[.pointer (some ⟨M, 0, none⟩), .int .i64 n] w fun e w' => ∃ m, e = .returned (.slice (some ⟨w.heap.size, 0, none⟩) m m) ∧ m = min n 16 ∧ blk w' w.heap.size (zeros m) 5 ∧
      SpAt w' B M iv dv nv ins rest l true odd left pc tg ∧ Chg (fun k => k = M) w w' := by
  have H := hid h
  obtain ⟨a, cap, rfl⟩ := h.data.form
  have c1 : w.cell? ⟨M, 1, none⟩ = some (.slice a rest.length cap) := h.m.cell 1 rfl
  have f3 := h.m.free 3
  have c3 : w.cell? ⟨M, 3, none⟩ = some (.bool bad) := h.m.cell 3 rfl
  clear h
  by_cases h16 : n ≤ 16
  · have hmk := make22 n hn2 (w.setCell ⟨M, 3, none⟩ (.bool true))
    have hi16 : (n : Int) ≤ 16 := by omega
    go_enter Tryd.func53, Tryd.ntmps53
    go_wp2
    go_ret
    obtain ⟨h1, h2⟩ := H.out.fail
    exact ⟨n, rfl, by omega, blk_new' (by simp) _ _, h1.alloc _, h2.alloc _⟩
  · have hmk := make22 16 (by omega) (w.setCell ⟨M, 3, none⟩ (.bool true))
    rw [show ((16 : Nat) : Int) = 16 from rfl] at hmk
    have hi16 : ¬ (n : Int) ≤ 16 := by omega
    go_enter Tryd.func53, Tryd.ntmps53
    go_wp2
    go_ret
    obtain ⟨h1, h2⟩ := H.out.fail
    exact ⟨16, rfl, by omega, blk_new' (by simp) _ _, h1.alloc _, h2.alloc _⟩
end Go.Proofs.YtkhicabfmkldpaaDoor

namespace Go.Proofs.YtkhicabfmkldpaaDoor
open Go Go.RowKit

/-- What the reader of a whole number hands back. -/
def SLong (B M : Nat) (iv nv : Value) (ins : List (Nat × Int)) (l : List Note) (odd : Bool) (left pc tg : Int) (w : World) : LR → Ending → World → Prop
  | .ok u t, e, w' => e = .returned (.int .i64 (zig u)) ∧ (∃ dv', SpAt w' B M iv dv' nv ins t l false odd left pc tg) ∧ Chg (fun k => k = M) w w'
  | .eof, e, w' => e = .returned (.int .i64 0) ∧ (∃ dv', SpAt w' B M iv dv' nv ins [] l true odd left pc tg) ∧ Chg (fun k => k = M) w w'
  | .odd, e, w' => e = .returned (.int .i64 0) ∧ (∃ dv' t, SpAt w' B M iv dv' nv ins t l false true left pc tg ∧ t.length ≤ 1000000) ∧ Chg (fun k => k = M) w w'

theorem stake1_end (B M : Nat) (iv dv nv : Value) (ins : List (Nat × Int)) (l : List Note) (bad odd : Bool) (left pc tg : Int) (w : World) (h : SpAt w B M iv dv nv ins [] l bad odd left pc tg) :
    Calls Tryd.prog 53 #[.pointer (some ⟨M, 0, none⟩), .int .i64 1] w fun e w' => ∃ b, e = .returned (.slice (some ⟨b, 0, none⟩) 1 1) ∧ w'.cell? ⟨M, 3, none⟩ = some (.bool true) ∧
      Hid (SpAt w' B M iv dv nv ins [] l true odd left pc tg ∧ Chg (fun k => k = M) w w') := by
  have h0 := stake_bad B M iv dv nv ins [] l bad odd left pc tg 1 w h (by decide) (by decide)
  refine h0.mono ?_
  rintro e w' ⟨m, rfl, rfl, h1, h2, h3⟩
  exact ⟨_, rfl, h2.m.cell 3 rfl, h2, h3⟩

theorem stake1_some (B M : Nat) (iv dv nv : Value) (ins : List (Nat × Int)) (x : UInt8) (r : List UInt8) (l : List Note) (odd : Bool) (left pc tg : Int) (w : World) (h : SpAt w B M iv dv nv ins (x :: r) l false odd left pc tg) (hr : r.length + 1 ≤ 1000000) :
    Calls Tryd.prog 53 #[.pointer (some ⟨M, 0, none⟩), .int .i64 1] w fun e w' => ∃ b off cap dv', e = .returned (.slice (some ⟨b, off, none⟩) 1 cap) ∧ w'.cell? ⟨b, off, none⟩ = some (.int .u8 x.toNat) ∧ w'.cell? ⟨M, 3, none⟩ = some (.bool false) ∧ w'.frozen? ⟨M, 4, none⟩ = false ∧ w'.cell? ⟨M, 4, none⟩ = some (.bool odd) ∧
      Hid (SpAt w' B M iv dv' nv ins r l false odd left pc tg ∧ Chg (fun k => k = M) w w') := by
  have h0 := stake_ok B M iv dv nv ins (x :: r) l false odd left pc tg 1 w h (by simp) (by simpa using hr)
  refine h0.mono ?_
  rintro e w' ⟨bv, dv', rfl, h1, h2, h3⟩
  rcases h1 with ⟨_, h1⟩ | ⟨b, off, cap, rfl, _, _, h4⟩
  · simp at h1
  · have h5 := h4 0 (by simp)
    simp at h5
    exact ⟨b, off, cap, dv', rfl, h5, h2.m.cell 3 rfl, h2.m.free 4, h2.m.cell 4 rfl, h2, h3⟩

theorem SpAt.oddly {w : World} {B M : Nat} {iv dv nv : Value} {ins : List (Nat × Int)} {rest : List UInt8} {l : List Note} {bad odd : Bool} {left pc tg : Int} (h : SpAt w B M iv dv nv ins rest l bad odd left pc tg) (o : Bool) :
    SpAt (w.setCell ⟨M, 4, none⟩ (.bool o)) B M iv dv nv ins rest l bad o left pc tg ∧ Chg (fun k => k = M) w (w.setCell ⟨M, 4, none⟩ (.bool o)) := by
  have hC : Chg (fun k => k = M) w (w.setCell ⟨M, 4, none⟩ (.bool o)) := (Chg.refl (fun k => k = M) w).setCell (fun _ => rfl) _
  exact ⟨h.other hC (fun k e => by subst e; exact h.le) (h.m.set 4 _) (World.ownsRow.chg h.notes hC (fun g hg e => h.ne (e ▸ hg))) h.ne, hC⟩

set_option maxRecDepth 100000 in
theorem slong_any (B M : Nat) (iv dv nv : Value) (ins : List (Nat × Int)) (rest : List UInt8) (l : List Note) (odd : Bool) (left pc tg : Int) (w : World) (h : SpAt w B M iv dv nv ins rest l false odd left pc tg) (hr : rest.length ≤ 1000000) :
    Calls Tryd.prog 54 #[.pointer (some ⟨M, 0, none⟩)] w (SLong B M iv nv ins l odd left pc tg w (lg 9 0 0 rest)) := by
  have H := hid h
  clear h
  obtain ⟨v, Hv⟩ : ∃ v, Hid (lg 9 0 0 rest = v) := ⟨_, hid rfl⟩
  rw [Hv.out]
  go_enter Tryd.func54, Tryd.ntmps54
  go_wp2
  go_loopg [3, 4, 5] rest.length (fun k v3 v4 v5 wr => ∃ (i : Nat) (acc : Int) (r : List UInt8), v3 = .int .u64 acc ∧ v4 = .int .u64 (i : Int) ∧ 0 ≤ acc ∧ acc < 18446744073709551616 ∧ i + r.length ≤ 1000000 ∧ k = r.length ∧ Hid ((∃ dv', SpAt wr B M iv dv' nv ins r l false odd left pc tg) ∧ Chg (fun k => k = M) w wr ∧ lg 9 i acc r = v))
  case atStart => exact ⟨0, 0, rest, rfl, rfl, by omega, by omega, by omega, rfl, ⟨dv, H.out⟩, Chg.refl _ w, Hv.out⟩
  case round =>
    obtain ⟨i, acc, r, rfl, rfl, h1, h2, h3, rfl, HH⟩ := hrel
    obtain ⟨dv1, hs1⟩ := HH.out.1
    have Hs := hid hs1
    clear hs1
    cases r with
    | nil =>
      go_wp2_with (go_at_call 53; refine (stake1_end B M iv dv1 nv ins l false odd left pc tg _ Hs.out).mono ?_; rintro e w1 ⟨b1, rfl, c3, hq⟩)
      go_ret
      have hv : LR.eof = v := HH.out.2.2
      subst hv
      exact ⟨rfl, ⟨_, hq.out.1⟩, HH.out.2.1.trans hq.out.2 (fun _ _ e => e)⟩
    | cons x r =>
      have a1 := and127 x
      have h7 : 0 ≤ 7 * (i : Int) := by omega
      have h5 := h3
      simp only [List.length_cons] at h5
      by_cases h8 : 9 ≤ i
      · have hi8 : (8 : Int) < i := by omega
        go_wp2_with (go_at_call 53; refine (stake1_some B M iv dv1 nv ins x r l odd left pc tg _ Hs.out (by omega)).mono ?_; rintro e w1 ⟨b1, off1, cap1, dv2, rfl, cb, c3, f4, c4, hq⟩)
        go_ret
        have hv := HH.out.2.2
        rw [lg, if_pos h8] at hv
        subst hv
        obtain ⟨j1, j2⟩ := hq.out.1.oddly true
        exact ⟨rfl, ⟨_, _, j1, by omega⟩, (HH.out.2.1.trans hq.out.2 (fun _ _ e => e)).trans j2 (fun _ _ e => e)⟩
      · have hi8 : ¬ (8 : Int) < i := by omega
        have h4 := orS_range_u64 acc x i
        have hor : bits .or .u64 acc (IntKind.u64.wrap ((x.toNat : Int) % 128 * 2 ^ (7 * i))) = orS .u64 acc x i := by
          unfold orS wrK
          rw [show min (7 * i) 64 = 7 * i by omega]
        by_cases hx : x.toNat < 128
        · have hx' : (x.toNat : Int) < 128 := by omega
          go_wp2_with (go_at_call 53; refine (stake1_some B M iv dv1 nv ins x r l odd left pc tg _ Hs.out (by omega)).mono ?_; rintro e w1 ⟨b1, off1, cap1, dv2, rfl, cb, c3, f4, c4, hq⟩)
          have hz : bits .xor .i64 (orS .u64 acc x i / 2) (wrap64 (-wrap64 (bits .and .u64 (orS .u64 acc x i) 1))) = zig (orS .u64 acc x i) := by
            unfold zig
            rw [show wrap64 (orS .u64 acc x i / 2) = orS .u64 acc x i / 2 by unfold wrap64; omega]
          rw [hz]
          go_ret
          have hv := HH.out.2.2
          rw [lg, if_neg h8, if_pos hx] at hv
          subst hv
          exact ⟨rfl, ⟨_, hq.out.1⟩, HH.out.2.1.trans hq.out.2 (fun _ _ e => e)⟩
        · have hx' : ¬ (x.toNat : Int) < 128 := by omega
          go_wp2_with (go_at_call 53; refine (stake1_some B M iv dv1 nv ins x r l odd left pc tg _ Hs.out (by omega)).mono ?_; rintro e w1 ⟨b1, off1, cap1, dv2, rfl, cb, c3, f4, c4, hq⟩)
          go_roundg r.length
          case measure => simp
          case rel =>
            have hv := HH.out.2.2
            rw [lg, if_neg h8, if_neg hx] at hv
            exact ⟨i + 1, orS .u64 acc x i, r, rfl, by congr 1, h4.1, h4.2, by omega, rfl, ⟨_, hq.out.1⟩, HH.out.2.1.trans hq.out.2 (fun _ _ e => e), hv⟩

theorem leN_lt : ∀ l : List UInt8, leN l < 256 ^ l.length
  | [] => by decide
  | b :: r => by
    have h1 := leN_lt r
    have h2 := b.toNat_lt
    have h3 : 256 ^ (b :: r).length = 256 * 256 ^ r.length := by rw [List.length_cons, Nat.pow_succ, Nat.mul_comm]
    unfold leN
    omega

theorem leN_drop {l : List UInt8} {j : Nat} (hj : j < l.length) : leN (l.drop j) = (l.getD j 0).toNat + 256 * leN (l.drop (j + 1)) := by
  rw [List.drop_eq_getElem_cons hj, List.getD_eq_getElem?_getD, List.getElem?_eq_getElem hj]
  rfl

theorem leN_step {l : List UInt8} {j : Nat} (hj : j < l.length) (h8 : l.length ≤ 8) : bits .or .u64 (IntKind.u64.wrap ((leN (l.drop (j + 1)) : Int) * 256)) ((l.getD j 0).toNat : Int) = leN (l.drop j) := by
  have h1 := leN_lt (l.drop (j + 1))
  rw [List.length_drop] at h1
  have h2 : 256 ^ (l.length - (j + 1)) ≤ 256 ^ 7 := Nat.pow_le_pow_right (by decide) (by omega)
  have h3 : (256 : Nat) ^ 7 = 72057594037927936 := by decide
  have h4 := (l.getD j 0).toNat_lt
  rw [leN_drop hj]
  generalize leN (l.drop (j + 1)) = u at *
  generalize (l.getD j 0).toNat = b at *
  rw [IntKind.wrap_u64, Int.emod_eq_of_lt (by omega) (by omega)]
  rw [bits_join .u64 64 (by decide) (by intro n h1 h2; rw [IntKind.wrap_u64]; omega) 8 ((u : Int) * 256) b (by omega) (by show (u : Int) * 256 % 256 = 0; omega) (by show (u : Int) * 256 < 18446744073709551616; omega) (by omega) (by show (b : Int) < 256; omega) (by show (b : Int) < 18446744073709551616; omega)]
  clear h1 h2 h3
  omega

theorem stake8 (B M : Nat) (iv dv nv : Value) (ins : List (Nat × Int)) (rest : List UInt8) (l : List Note) (odd : Bool) (left pc tg : Int) (n : Nat) (w : World) (h : SpAt w B M iv dv nv ins rest l false odd left pc tg) (hr : rest.length ≤ 1000000) (h1 : 1 ≤ n) (h8 : n ≤ 8) :
    Calls Tryd.prog 53 #[.pointer (some ⟨M, 0, none⟩), .int .i64 n] w fun e w' => ∃ b off cap l', e = .returned (.slice (some ⟨b, off, none⟩) n cap) ∧ l'.length = n ∧ (∀ i, i < n → w'.cell? ⟨b, off + i, none⟩ = some (.int .u8 (l'.getD i 0).toNat)) ∧
      Hid ((n ≤ rest.length → l' = rest.take n ∧ ∃ dv', SpAt w' B M iv dv' nv ins (rest.drop n) l false odd left pc tg) ∧ (rest.length < n → SpAt w' B M iv dv nv ins rest l true odd left pc tg) ∧ Chg (fun k => k = M) w w') := by
  by_cases hn : n ≤ rest.length
  · refine (stake_ok B M iv dv nv ins rest l false odd left pc tg n w h hn hr).mono ?_
    rintro e w' ⟨bv, dv', rfl, h2, h3, h4⟩
    have hl : (rest.take n).length = n := by rw [List.length_take]; omega
    rcases h2 with ⟨_, h2⟩ | ⟨b, off, cap, rfl, _, _, h5⟩
    · rw [h2] at hl; simp at hl; omega
    · rw [hl] at h5 ⊢
      exact ⟨b, off, cap, rest.take n, rfl, hl, h5, fun _ => ⟨rfl, dv', h3⟩, fun hlt => absurd hn (Nat.not_le.2 hlt), h4⟩
  · refine (stake_bad B M iv dv nv ins rest l false odd left pc tg n w h (by omega) (by omega)).mono ?_
    rintro e w' ⟨m, rfl, hm, h2, h3, h4⟩
    have hm' : m = n := by omega
    subst hm'
    refine ⟨_, 0, m, List.replicate m 0, rfl, by simp, fun i hi => ?_, fun hle => absurd hle hn, fun _ => h3, h4⟩
    rw [Nat.zero_add]
    refine h2.cell i ?_
    rw [show (List.replicate m (0 : UInt8)).getD i 0 = 0 by simp [List.getD_eq_getElem?_getD, List.getElem?_replicate, hi]]
    simp [zeros, madeCells, hi, Nat.mod_one]

set_option maxRecDepth 100000 in
theorem sbits_any (B M : Nat) (iv dv nv : Value) (ins : List (Nat × Int)) (rest : List UInt8) (l : List Note) (odd : Bool) (left pc tg : Int) (n : Nat) (w : World) (h : SpAt w B M iv dv nv ins rest l false odd left pc tg) (hr : rest.length ≤ 1000000) (h1 : 1 ≤ n) (h8 : n ≤ 8) :
    Calls Tryd.prog 55 #[.pointer (some ⟨M, 0, none⟩), .int .i64 n] w fun e w' => ∃ u : Nat, e = .returned (.int .u64 u) ∧ u < 256 ^ n ∧ Hid ((n ≤ rest.length → u = leN (rest.take n) ∧ ∃ dv', SpAt w' B M iv dv' nv ins (rest.drop n) l false odd left pc tg) ∧ (rest.length < n → SpAt w' B M iv dv nv ins rest l true odd left pc tg) ∧ Chg (fun k => k = M) w w') := by
  have H := hid h
  clear h
  go_enter Tryd.func55, Tryd.ntmps55
  go_wp2_with (go_at_call 53; refine (stake8 B M iv dv nv ins rest l odd left pc tg n _ H.out hr h1 h8).mono ?_; rintro e w1 ⟨b1, off1, cap1, l', rfl, hl', hcs, hq⟩)
  have Hcs := hid hcs
  clear hcs
  go_loopg [6, 7] n (fun k v6 v7 wr => ∃ (j : Nat), v6 = .int .u64 (leN (l'.drop j) : Int) ∧ v7 = .int .i64 ((j : Int) - 1) ∧ j ≤ n ∧ k = j ∧ wr = w1)
  case atStart =>
    exact ⟨n, by rw [List.drop_of_length_le (by omega)]; rfl, rfl, Nat.le_refl _, rfl, rfl⟩
  case round =>
    obtain ⟨j, rfl, rfl, h2, hk, rfl⟩ := hrel
    by_cases hj : j = 0
    · subst hj
      go_wp2
      go_ret
      rw [List.drop_zero]
      exact ⟨leN l', rfl, by rw [← hl']; exact leN_lt l', fun hn => by rw [(hq.out.1 hn).1]; exact ⟨rfl, (hq.out.1 hn).2⟩, hq.out.2⟩
    · obtain ⟨i, rfl⟩ : ∃ i, j = i + 1 := ⟨j - 1, by omega⟩
      have hst := leN_step (l := l') (j := i) (by omega) (by omega)
      have hc := Hcs.out i (by omega)
      have hlb := leN_lt (l'.drop (i + 1))
      have hj1 : (((i + 1 : Nat) : Int)) - 1 = (i : Int) := by omega
      rw [hj1]
      have hw : IntKind.u64.wrap ((l'[i]?.getD 0).toNat : Int) = ((l'[i]?.getD 0).toNat : Int) := by
        have := (l'[i]?.getD 0).toNat_lt
        rw [IntKind.wrap_u64]; omega
      have hst2 : bits .or .u64 (IntKind.u64.wrap ((leN (l'.drop (i + 1)) : Int) * 256)) (IntKind.u64.wrap ((l'[i]?.getD 0).toNat : Int)) = leN (l'.drop i) := by
        rw [hw, ← List.getD_eq_getElem?_getD]; exact hst
      have Hst2 := hid hst2
      clear hst hw hst2
      go_wp2
      rw [Hst2.out]
      go_roundg i
      case measure => omega
      case rel => exact ⟨i, rfl, rfl, by omega, rfl, rfl⟩
end Go.Proofs.YtkhicabfmkldpaaDoor

namespace Go.Proofs.YtkhicabfmkldpaaDoor
open Go Go.RowKit

/-- The registers in memory. -/
def RgAt (w : World) (R : Nat) (r : Regs) : Prop := blk w R #[.bool r.truth, .bool r.cond, .int .i64 r.num, .int .i64 r.long, .int .u64 (r.float : Int), .int .u64 (r.double : Int), .string (strOf r.bytes), .string (strOf r.text)] 71

/-- What a step that may note leaves. -/
def SNoted (B M R : Nat) (iv dv nv : Value) (ins : List (Nat × Int)) (rest : List UInt8) (l' : List Note) (bad odd : Bool) (left pc tg : Int) (r : Regs) (w w' : World) : Prop :=
  ∃ nv', SpAt w' B M iv dv nv' ins rest l' bad odd left pc tg ∧ RgAt w' R r ∧ nv'.ownBlock ≠ some R ∧ Chg (fun k => k = M ∨ nv.ownBlock = some k) w w' ∧ Fresh w nv nv'

theorem snoted_of {B M R : Nat} {iv dv nv nv' : Value} {ins : List (Nat × Int)} {rest : List UInt8} {l' : List Note} {bad odd : Bool} {left pc tg : Int} {r : Regs} {w w' : World} (hR : RgAt w R r) (hRM : R ≠ M) (hRn : nv.ownBlock ≠ some R)
    (h1 : SpAt w' B M iv dv nv' ins rest l' bad odd left pc tg) (h2 : Chg (fun k => k = M ∨ nv.ownBlock = some k) w w') (h3 : Fresh w nv nv') : SNoted B M R iv dv nv ins rest l' bad odd left pc tg r w w' :=
  ⟨nv', h1, blk.chg hR h2 (fun e => e.elim hRM hRn), h3.ne (blk.lt hR) hRn, h2, h3⟩

set_option maxRecDepth 100000 in
theorem sset_bool_true (B M R : Nat) (iv dv nv : Value) (ins : List (Nat × Int)) (rest : List UInt8) (l : List Note) (bad odd : Bool) (left pc tg tgt : Int) (r : Regs) (w : World) (h : SpAt w B M iv dv nv ins rest l bad odd left pc tg) (hl : l.length ≤ 1000000) (hR : RgAt w R r) (hRM : R ≠ M) (hRn : nv.ownBlock ≠ some R) (ht : r.truth = true) :
    Calls Tryd.prog 38 #[.pointer (some ⟨M, 0, none⟩), .int .i64 2, .int .i64 tgt, .pointer (some ⟨R, 0, none⟩)] w fun e w' => e = .returned (.tuple #[]) ∧ SNoted B M R iv dv nv ins rest (l ++ [⟨nmSetBoolean, 1, ⟨#[]⟩, tgt⟩]) bad odd left pc tg r w w' := by
  have H := hid h
  have HR := hid hR
  have c0 : w.cell? ⟨R, 0, none⟩ = some (.bool true) := by have := hR.cell 0 (v := .bool r.truth) rfl; rw [ht] at this; exact this
  clear h hR
  go_enter Tryd.func38, Tryd.ntmps38
  go_wp2_with (go_at_call 39; refine (snote_any B M iv dv nv ins rest l bad odd left pc tg tgt 1 nmSetBoolean ⟨#[]⟩ _ H.out hl).mono ?_; rintro e w1 ⟨rfl, nv1, j1, j2, j3⟩; replace j1 := hid j1; replace j2 := hid j2; replace j3 := hid j3)
  go_end0
  exact ⟨rfl, snoted_of HR.out hRM hRn j1.out j2.out j3.out⟩


set_option maxRecDepth 100000 in
theorem sset_bool_false (B M R : Nat) (iv dv nv : Value) (ins : List (Nat × Int)) (rest : List UInt8) (l : List Note) (bad odd : Bool) (left pc tg tgt : Int) (r : Regs) (w : World) (h : SpAt w B M iv dv nv ins rest l bad odd left pc tg) (hl : l.length ≤ 1000000) (hR : RgAt w R r) (hRM : R ≠ M) (hRn : nv.ownBlock ≠ some R) (ht : r.truth = false) :
    Calls Tryd.prog 38 #[.pointer (some ⟨M, 0, none⟩), .int .i64 2, .int .i64 tgt, .pointer (some ⟨R, 0, none⟩)] w fun e w' => e = .returned (.tuple #[]) ∧ SNoted B M R iv dv nv ins rest (l ++ [⟨nmSetBoolean, 0, ⟨#[]⟩, tgt⟩]) bad odd left pc tg r w w' := by
  have H := hid h
  have HR := hid hR
  have c0 : w.cell? ⟨R, 0, none⟩ = some (.bool false) := by have := hR.cell 0 (v := .bool r.truth) rfl; rw [ht] at this; exact this
  clear h hR
  go_enter Tryd.func38, Tryd.ntmps38
  go_wp2_with (go_at_call 39; refine (snote_any B M iv dv nv ins rest l bad odd left pc tg tgt 0 nmSetBoolean ⟨#[]⟩ _ H.out hl).mono ?_; rintro e w1 ⟨rfl, nv1, j1, j2, j3⟩; replace j1 := hid j1; replace j2 := hid j2; replace j3 := hid j3)
  go_end0
  exact ⟨rfl, snoted_of HR.out hRM hRn j1.out j2.out j3.out⟩


set_option maxRecDepth 100000 in
theorem sset_3 (B M R : Nat) (iv dv nv : Value) (ins : List (Nat × Int)) (rest : List UInt8) (l : List Note) (bad odd : Bool) (left pc tg tgt : Int) (r : Regs) (w : World) (h : SpAt w B M iv dv nv ins rest l bad odd left pc tg) (hl : l.length ≤ 1000000) (hR : RgAt w R r) (hRM : R ≠ M) (hRn : nv.ownBlock ≠ some R) :
    Calls Tryd.prog 38 #[.pointer (some ⟨M, 0, none⟩), .int .i64 3, .int .i64 tgt, .pointer (some ⟨R, 0, none⟩)] w fun e w' => e = .returned (.tuple #[]) ∧ SNoted B M R iv dv nv ins rest (l ++ [⟨nmSetInt, r.num, ⟨#[]⟩, tgt⟩]) bad odd left pc tg r w w' := by
  have H := hid h
  have HR := hid hR
  have c0 : w.cell? ⟨R, 2, none⟩ = some (.int .i64 r.num) := hR.cell 2 rfl
  clear h hR
  go_enter Tryd.func38, Tryd.ntmps38
  go_wp2_with (go_at_call 39; refine (snote_any B M iv dv nv ins rest l bad odd left pc tg tgt r.num nmSetInt ⟨#[]⟩ _ H.out hl).mono ?_; rintro e w1 ⟨rfl, nv1, j1, j2, j3⟩; replace j1 := hid j1; replace j2 := hid j2; replace j3 := hid j3)
  go_end0
  exact ⟨rfl, snoted_of HR.out hRM hRn j1.out j2.out j3.out⟩


set_option maxRecDepth 100000 in
theorem sset_4 (B M R : Nat) (iv dv nv : Value) (ins : List (Nat × Int)) (rest : List UInt8) (l : List Note) (bad odd : Bool) (left pc tg tgt : Int) (r : Regs) (w : World) (h : SpAt w B M iv dv nv ins rest l bad odd left pc tg) (hl : l.length ≤ 1000000) (hR : RgAt w R r) (hRM : R ≠ M) (hRn : nv.ownBlock ≠ some R) :
    Calls Tryd.prog 38 #[.pointer (some ⟨M, 0, none⟩), .int .i64 4, .int .i64 tgt, .pointer (some ⟨R, 0, none⟩)] w fun e w' => e = .returned (.tuple #[]) ∧ SNoted B M R iv dv nv ins rest (l ++ [⟨nmSetLong, r.long, ⟨#[]⟩, tgt⟩]) bad odd left pc tg r w w' := by
  have H := hid h
  have HR := hid hR
  have c0 : w.cell? ⟨R, 3, none⟩ = some (.int .i64 r.long) := hR.cell 3 rfl
  clear h hR
  go_enter Tryd.func38, Tryd.ntmps38
  go_wp2_with (go_at_call 39; refine (snote_any B M iv dv nv ins rest l bad odd left pc tg tgt r.long nmSetLong ⟨#[]⟩ _ H.out hl).mono ?_; rintro e w1 ⟨rfl, nv1, j1, j2, j3⟩; replace j1 := hid j1; replace j2 := hid j2; replace j3 := hid j3)
  go_end0
  exact ⟨rfl, snoted_of HR.out hRM hRn j1.out j2.out j3.out⟩


set_option maxRecDepth 100000 in
theorem sset_5 (B M R : Nat) (iv dv nv : Value) (ins : List (Nat × Int)) (rest : List UInt8) (l : List Note) (bad odd : Bool) (left pc tg tgt : Int) (r : Regs) (w : World) (h : SpAt w B M iv dv nv ins rest l bad odd left pc tg) (hl : l.length ≤ 1000000) (hR : RgAt w R r) (hRM : R ≠ M) (hRn : nv.ownBlock ≠ some R) :
    Calls Tryd.prog 38 #[.pointer (some ⟨M, 0, none⟩), .int .i64 5, .int .i64 tgt, .pointer (some ⟨R, 0, none⟩)] w fun e w' => e = .returned (.tuple #[]) ∧ SNoted B M R iv dv nv ins rest (l ++ [⟨nmSetFloat, (asLong112 r.float), ⟨#[]⟩, tgt⟩]) bad odd left pc tg r w w' := by
  have H := hid h
  have HR := hid hR
  have c0 : w.cell? ⟨R, 4, none⟩ = some (.int .u64 (r.float : Int)) := hR.cell 4 rfl
  have hcv : ∀ w, (convert 57 2 (.int .u64 (r.float : Int))).run Tryd.prog w = .ok (.int .i64 (asLong112 r.float)) w := fun w => run_conv111 r.float w
  clear h hR
  go_enter Tryd.func38, Tryd.ntmps38
  go_wp2_with (go_at_call 39; refine (snote_any B M iv dv nv ins rest l bad odd left pc tg tgt (asLong112 r.float) nmSetFloat ⟨#[]⟩ _ H.out hl).mono ?_; rintro e w1 ⟨rfl, nv1, j1, j2, j3⟩; replace j1 := hid j1; replace j2 := hid j2; replace j3 := hid j3)
  go_end0
  exact ⟨rfl, snoted_of HR.out hRM hRn j1.out j2.out j3.out⟩


set_option maxRecDepth 100000 in
theorem sset_6 (B M R : Nat) (iv dv nv : Value) (ins : List (Nat × Int)) (rest : List UInt8) (l : List Note) (bad odd : Bool) (left pc tg tgt : Int) (r : Regs) (w : World) (h : SpAt w B M iv dv nv ins rest l bad odd left pc tg) (hl : l.length ≤ 1000000) (hR : RgAt w R r) (hRM : R ≠ M) (hRn : nv.ownBlock ≠ some R) :
    Calls Tryd.prog 38 #[.pointer (some ⟨M, 0, none⟩), .int .i64 6, .int .i64 tgt, .pointer (some ⟨R, 0, none⟩)] w fun e w' => e = .returned (.tuple #[]) ∧ SNoted B M R iv dv nv ins rest (l ++ [⟨nmSetDouble, (asLong111 r.double), ⟨#[]⟩, tgt⟩]) bad odd left pc tg r w w' := by
  have H := hid h
  have HR := hid hR
  have c0 : w.cell? ⟨R, 5, none⟩ = some (.int .u64 (r.double : Int)) := hR.cell 5 rfl
  have hcv : ∀ w, (convert 57 2 (.int .u64 (r.double : Int))).run Tryd.prog w = .ok (.int .i64 (asLong111 r.double)) w := fun w => run_conv111 r.double w
  clear h hR
  go_enter Tryd.func38, Tryd.ntmps38
  go_wp2_with (go_at_call 39; refine (snote_any B M iv dv nv ins rest l bad odd left pc tg tgt (asLong111 r.double) nmSetDouble ⟨#[]⟩ _ H.out hl).mono ?_; rintro e w1 ⟨rfl, nv1, j1, j2, j3⟩; replace j1 := hid j1; replace j2 := hid j2; replace j3 := hid j3)
  go_end0
  exact ⟨rfl, snoted_of HR.out hRM hRn j1.out j2.out j3.out⟩


set_option maxRecDepth 100000 in
theorem sset_7 (B M R : Nat) (iv dv nv : Value) (ins : List (Nat × Int)) (rest : List UInt8) (l : List Note) (bad odd : Bool) (left pc tg tgt : Int) (r : Regs) (w : World) (h : SpAt w B M iv dv nv ins rest l bad odd left pc tg) (hl : l.length ≤ 1000000) (hR : RgAt w R r) (hRM : R ≠ M) (hRn : nv.ownBlock ≠ some R) :
    Calls Tryd.prog 38 #[.pointer (some ⟨M, 0, none⟩), .int .i64 7, .int .i64 tgt, .pointer (some ⟨R, 0, none⟩)] w fun e w' => e = .returned (.tuple #[]) ∧ SNoted B M R iv dv nv ins rest (l ++ [⟨nmSetBytes, 0, (strOf r.bytes), tgt⟩]) bad odd left pc tg r w w' := by
  have H := hid h
  have HR := hid hR
  have c0 : w.cell? ⟨R, 6, none⟩ = some (.string (strOf r.bytes)) := hR.cell 6 rfl
  clear h hR
  go_enter Tryd.func38, Tryd.ntmps38
  go_wp2_with (go_at_call 39; refine (snote_any B M iv dv nv ins rest l bad odd left pc tg tgt 0 nmSetBytes (strOf r.bytes) _ H.out hl).mono ?_; rintro e w1 ⟨rfl, nv1, j1, j2, j3⟩; replace j1 := hid j1; replace j2 := hid j2; replace j3 := hid j3)
  go_end0
  exact ⟨rfl, snoted_of HR.out hRM hRn j1.out j2.out j3.out⟩


set_option maxRecDepth 100000 in
theorem sset_8 (B M R : Nat) (iv dv nv : Value) (ins : List (Nat × Int)) (rest : List UInt8) (l : List Note) (bad odd : Bool) (left pc tg tgt : Int) (r : Regs) (w : World) (h : SpAt w B M iv dv nv ins rest l bad odd left pc tg) (hl : l.length ≤ 1000000) (hR : RgAt w R r) (hRM : R ≠ M) (hRn : nv.ownBlock ≠ some R) :
    Calls Tryd.prog 38 #[.pointer (some ⟨M, 0, none⟩), .int .i64 8, .int .i64 tgt, .pointer (some ⟨R, 0, none⟩)] w fun e w' => e = .returned (.tuple #[]) ∧ SNoted B M R iv dv nv ins rest (l ++ [⟨nmSetString, 0, (strOf r.text), tgt⟩]) bad odd left pc tg r w w' := by
  have H := hid h
  have HR := hid hR
  have c0 : w.cell? ⟨R, 7, none⟩ = some (.string (strOf r.text)) := hR.cell 7 rfl
  clear h hR
  go_enter Tryd.func38, Tryd.ntmps38
  go_wp2_with (go_at_call 39; refine (snote_any B M iv dv nv ins rest l bad odd left pc tg tgt 0 nmSetString (strOf r.text) _ H.out hl).mono ?_; rintro e w1 ⟨rfl, nv1, j1, j2, j3⟩; replace j1 := hid j1; replace j2 := hid j2; replace j3 := hid j3)
  go_end0
  exact ⟨rfl, snoted_of HR.out hRM hRn j1.out j2.out j3.out⟩


set_option maxRecDepth 100000 in
theorem sset_no (B M R : Nat) (iv dv nv : Value) (ins : List (Nat × Int)) (rest : List UInt8) (l : List Note) (bad odd : Bool) (left pc tg tgt : Int) (r : Regs) (w : World) (h : SpAt w B M iv dv nv ins rest l bad odd left pc tg) (hl : l.length ≤ 1000000) (hR : RgAt w R r) (hRM : R ≠ M) (hRn : nv.ownBlock ≠ some R) (k : Int) (hk : k < 2 ∨ 8 < k) :
    Calls Tryd.prog 38 #[.pointer (some ⟨M, 0, none⟩), .int .i64 k, .int .i64 tgt, .pointer (some ⟨R, 0, none⟩)] w fun e w' => e = .returned (.tuple #[]) ∧ SNoted B M R iv dv nv ins rest (l) bad odd left pc tg r w w' := by
  have H := hid h
  have HR := hid hR
  have n2 : ¬ k = 2 := by omega
  have n3 : ¬ k = 3 := by omega
  have n4 : ¬ k = 4 := by omega
  have n5 : ¬ k = 5 := by omega
  have n6 : ¬ k = 6 := by omega
  have n7 : ¬ k = 7 := by omega
  have n8 : ¬ k = 8 := by omega
  clear h hR
  go_enter Tryd.func38, Tryd.ntmps38
  go_wp2
  go_end0
  exact ⟨rfl, nv, H.out, HR.out, hRn, Chg.refl _ w, Fresh.refl w nv⟩


theorem sset_any (B M R : Nat) (iv dv nv : Value) (ins : List (Nat × Int)) (rest : List UInt8) (l : List Note) (bad odd : Bool) (left pc tg tgt : Int) (r : Regs) (w : World) (h : SpAt w B M iv dv nv ins rest l bad odd left pc tg) (hl : l.length ≤ 1000000) (hR : RgAt w R r) (hRM : R ≠ M) (hRn : nv.ownBlock ≠ some R) (k : Int) (s : St) (hs : s.notes = l) :
    Calls Tryd.prog 38 #[.pointer (some ⟨M, 0, none⟩), .int .i64 k, .int .i64 tgt, .pointer (some ⟨R, 0, none⟩)] w fun e w' => e = .returned (.tuple #[]) ∧ SNoted B M R iv dv nv ins rest (st k tgt r s).notes bad odd left pc tg r w w' := by
  subst hs
  unfold st
  by_cases h2 : k = 2
  · subst h2
    rw [if_pos rfl]
    cases ht : r.truth with
    | true => exact sset_bool_true B M R iv dv nv ins rest s.notes bad odd left pc tg tgt r w h hl hR hRM hRn ht
    | false => exact sset_bool_false B M R iv dv nv ins rest s.notes bad odd left pc tg tgt r w h hl hR hRM hRn ht
  rw [if_neg h2]
  by_cases h3 : k = 3
  · subst h3
    exact sset_3 B M R iv dv nv ins rest s.notes bad odd left pc tg tgt r w h hl hR hRM hRn
  rw [if_neg h3]
  by_cases h4 : k = 4
  · subst h4
    exact sset_4 B M R iv dv nv ins rest s.notes bad odd left pc tg tgt r w h hl hR hRM hRn
  rw [if_neg h4]
  by_cases h5 : k = 5
  · subst h5
    exact sset_5 B M R iv dv nv ins rest s.notes bad odd left pc tg tgt r w h hl hR hRM hRn
  rw [if_neg h5]
  by_cases h6 : k = 6
  · subst h6
    exact sset_6 B M R iv dv nv ins rest s.notes bad odd left pc tg tgt r w h hl hR hRM hRn
  rw [if_neg h6]
  by_cases h7 : k = 7
  · subst h7
    exact sset_7 B M R iv dv nv ins rest s.notes bad odd left pc tg tgt r w h hl hR hRM hRn
  rw [if_neg h7]
  by_cases h8 : k = 8
  · subst h8
    exact sset_8 B M R iv dv nv ins rest s.notes bad odd left pc tg tgt r w h hl hR hRM hRn
  rw [if_neg h8]
  exact sset_no B M R iv dv nv ins rest s.notes bad odd left pc tg tgt r w h hl hR hRM hRn k (by omega)
end Go.Proofs.YtkhicabfmkldpaaDoor
