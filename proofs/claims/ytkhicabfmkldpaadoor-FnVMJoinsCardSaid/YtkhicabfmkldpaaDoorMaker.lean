/-
  The maker of programs: its memory; its byte, its put, its kind.
  The maker of programs: the frame of a statement.
  The maker of programs: an operand is written anew.
  The maker of programs: its loop.
-/
import Derived.Test.YtkhicabfmkldpaaDoorBuilt
import Derived.Test.YtkhicabfmkldpaaDoorPlain
set_option linter.unusedSimpArgs false
set_option linter.unusedVariables false
namespace Go.Proofs.YtkhicabfmkldpaaDoor
open Go Go.RowKit

def callCells (l : List (Nat × Nat)) : List Value := l.flatMap fun i => [.int .i64 (i.1 : Int), .int .i64 (i.2 : Int)]

/-- The maker's memory. -/
structure GenAt (w : World) (B M : Nat) (cv iv kv : Value) (g : Gen) : Prop where
  m : blk w M #[cv, iv, kv, .int .i64 (g.part : Int), .int .i64 0] 37
  code : RdB w cv g.code
  old : ∀ b, cv.ownBlock = some b → b < B
  ins : w.ownsRow B 42 2 iv g.ins.length (insCells g.ins)
  calls : w.ownsRow B 98 2 kv g.calls.length (callCells g.calls)
  im : iv.ownBlock ≠ some M
  km : kv.ownBlock ≠ some M
  ik : ∀ b, iv.ownBlock = some b → kv.ownBlock ≠ some b
  le : B ≤ M

/-- The blocks that the maker may write. -/
def GenS (M : Nat) (iv kv : Value) (k : Nat) : Prop := k = M ∨ iv.ownBlock = some k ∨ kv.ownBlock = some k

/-- What a step of the maker's leaves. -/
structure GenTo (B M : Nat) (iv kv : Value) (g : Gen) (w w' : World) : Prop where
  at' : ∃ cv' iv' kv', GenAt w' B M cv' iv' kv' g ∧ Fresh w iv iv' ∧ Fresh w kv kv'
  chg : Chg (GenS M iv kv) w w'

theorem GenAt.chg {w w' : World} {S : Nat → Prop} {B M : Nat} {cv iv kv : Value} {g : Gen} (h : GenAt w B M cv iv kv g) (hc : Chg S w w') (hS : ∀ k, k < w.heap.size → S k → B ≤ k ∧ k ≠ M ∧ iv.ownBlock ≠ some k ∧ kv.ownBlock ≠ some k) : GenAt w' B M cv iv kv g := by
  refine ⟨?_, ?_, h.old, ?_, ?_, h.im, h.km, h.ik, h.le⟩
  · have := h.m.lt
    have hm := h.m
    unfold blk at hm ⊢
    rw [hc.block M this (fun e => (hS _ this e).2.1 rfl)]; exact hm
  · rcases h.code with hx | ⟨b, off, cap, rfl, h1, h2, h3⟩
    · exact .inl hx
    · refine .inr ⟨b, off, cap, rfl, h1, h2, fun i hi => ?_⟩
      have h4 := h3 i hi
      have hl := World.block_lt_of_cell? w _ h4
      rw [cell_of (hc.block b hl (fun e => by have := (hS b hl e).1; have := h.old b rfl; omega))]
      exact h4
  · refine World.ownsRow.chg (S := fun k => k < w.heap.size ∧ S k) h.ins ⟨hc.os, hc.tape, hc.output, hc.size, fun k hk hn => hc.block k hk (fun e => hn ⟨hk, e⟩)⟩ (fun b hb e => (hS b e.1 e.2).2.2.1 hb)
  · refine World.ownsRow.chg (S := fun k => k < w.heap.size ∧ S k) h.calls ⟨hc.os, hc.tape, hc.output, hc.size, fun k hk hn => hc.block k hk (fun e => hn ⟨hk, e⟩)⟩ (fun b hb e => (hS b e.1 e.2).2.2.2 hb)

theorem GenAt.alloc {w : World} {B M : Nat} {cv iv kv : Value} {g : Gen} (h : GenAt w B M cv iv kv g) (o : Obj) : GenAt (w.alloc o) B M cv iv kv g := h.chg (chg_alloc w o) (fun _ _ e => e.elim)
theorem GenAt.drewN {w : World} {B M : Nat} {cv iv kv : Value} {g : Gen} (h : GenAt w B M cv iv kv g) (n : Nat) : GenAt (w.drewN n) B M cv iv kv g := h.chg ((Chg.refl (fun _ => False) w).drewN n) (fun _ _ e => e.elim)

theorem GenTo.trans {B M : Nat} {cv iv kv iv1 kv1 cv1 : Value} {g g1 g2 : Gen} {w w1 w2 : World} (h : GenAt w B M cv iv kv g) (h1 : GenAt w1 B M cv1 iv1 kv1 g1) (f1 : Fresh w iv iv1) (f2 : Fresh w kv kv1) (c1 : Chg (GenS M iv kv) w w1) (h2 : GenTo B M iv1 kv1 g2 w1 w2) : GenTo B M iv kv g2 w w2 := by
  obtain ⟨⟨cv', iv', kv', a1, a2, a3⟩, a4⟩ := h2
  refine ⟨⟨cv', iv', kv', a1, f1.trans a2 c1.size, f2.trans a3 c1.size⟩, c1.trans a4 (fun i hi e => ?_)⟩
  rcases e with e | e | e
  · exact .inl e
  · rcases f1 with f | ⟨b, f, hb⟩
    · exact .inr (.inl (f ▸ e))
    · rw [e] at f; cases f; omega
  · rcases f2 with f | ⟨b, f, hb⟩
    · exact .inr (.inr (f ▸ e))
    · rw [e] at f; cases f; omega

set_option maxRecDepth 100000 in
theorem byte_any (B M : Nat) (cv iv kv : Value) (g : Gen) (w : World) (h : GenAt w B M cv iv kv g) (hl : g.code.length ≤ 1000000) :
    Calls Tryd.prog 30 #[.pointer (some ⟨M, 0, none⟩)] w fun e w' => e = .returned (.int .i64 (hd g : Int)) ∧ ∃ cv', GenAt w' B M cv' iv kv (nx g) ∧ Chg (fun k => k = M) w w' := by
  have H := hid h
  cases hg : g.code with
  | nil =>
    have hb : hd g = 0 := by unfold hd; rw [hg]
    have hn : nx g = g := by unfold nx; obtain ⟨c, i, k, p⟩ := g; simp at hg; subst hg; rfl
    rw [hb, hn]
    obtain ⟨a, cap, hcv⟩ := h.code.form
    have c0 : w.cell? ⟨M, 0, none⟩ = some (.slice a 0 cap) := by have := h.m.cell 0 (v := cv) rfl; rw [hcv, hg] at this; exact this
    clear h hg hb hl hn hcv
    go_enter Tryd.func30, Tryd.ntmps30
    go_wp2
    go_ret
    exact ⟨rfl, _, H.out, Chg.refl _ w⟩
  | cons x r =>
    have hb : hd g = x.toNat := by unfold hd; rw [hg]
    have hn : nx g = { g with code := r } := by unfold nx; rw [hg]; rfl
    rw [hb, hn]
    have hcode := h.code
    rw [hg] at hcode hl
    rcases hcode with ⟨_, h0⟩ | ⟨b, off, cap, hcv, h1, h2, h3⟩
    · cases h0
    · have c0 : w.cell? ⟨M, 0, none⟩ = some (.slice (some ⟨b, off, none⟩) (r.length + 1) cap) := by have := h.m.cell 0 (v := cv) rfl; rw [hcv] at this; exact this
      have f0 : w.frozen? ⟨M, 0, none⟩ = false := h.m.free 0
      have cb : w.cell? ⟨b, off, none⟩ = some (.int .u8 x.toNat) := h3 0 (by simp)
      have hx := x.toNat_lt
      have hcap : r.length + 1 ≤ cap := by simpa using h1
      have hrl : r.length + 1 ≤ 1000000 := by simpa using hl
      have hbB : b < B := h.old b (by rw [hcv]; rfl)
      have hbM : ¬ M = b := by have := h.le; omega
      have H3 := hid h3
      have H2 := hid h2
      have h63 : maxLen < 9223372036854775808 := by unfold maxLen; omega
      have fin : ∀ (off' cap' : Nat), RdB (w.setCell ⟨M, 0, none⟩ (.slice (some ⟨b, off', none⟩) r.length cap')) (.slice (some ⟨b, off', none⟩) r.length cap') r → GenAt (w.setCell ⟨M, 0, none⟩ (.slice (some ⟨b, off', none⟩) r.length cap')) B M (.slice (some ⟨b, off', none⟩) r.length cap') iv kv { g with code := r } ∧ Chg (fun k => k = M) w (w.setCell ⟨M, 0, none⟩ (.slice (some ⟨b, off', none⟩) r.length cap')) := by
        intro off' cap' hrd
        have hC : Chg (fun k => k = M) w (w.setCell ⟨M, 0, none⟩ (.slice (some ⟨b, off', none⟩) r.length cap')) := (Chg.refl (fun k => k = M) w).setCell (fun _ => rfl) _
        have hh := H.out
        exact ⟨⟨hh.m.set 0 _, hrd, fun b' hb' => by cases hb'; exact hbB, World.ownsRow.chg hh.ins hC (fun g hg e => hh.im (e ▸ hg)), World.ownsRow.chg hh.calls hC (fun g hg e => hh.km (e ▸ hg)), hh.im, hh.km, hh.ik, hh.le⟩, hC⟩
      have Fin := hid fin
      have key : ∀ (off' cap' : Nat), cap' ≤ maxLen → (r.length ≤ cap') → (r ≠ [] → off' = off + 1) → RdB (w.setCell ⟨M, 0, none⟩ (.slice (some ⟨b, off', none⟩) r.length cap')) (.slice (some ⟨b, off', none⟩) r.length cap') r := by
        intro off' cap' k1 k2 k3
        refine .inr ⟨b, off', cap', rfl, k2, k1, fun i hi => ?_⟩
        have hre : r ≠ [] := by intro e; rw [e] at hi; simp at hi
        rw [k3 hre]
        have h4 := H3.out (i + 1) (by simp; omega)
        rw [show off + (i + 1) = off + 1 + i by omega] at h4
        have hbl := World.block_lt_of_cell? w _ h4
        rw [cell_of (((Chg.refl (fun k => k = M) w).setCell (p := ⟨M, 0, none⟩) (fun _ => rfl) _).block b hbl (fun e => hbM e.symm))]
        rw [h4]
        simp [List.getD_eq_getElem?_getD]
      have Key := hid key
      clear h hg hb h3 h1 h2 hl hn fin key hcv
      go_enter Tryd.func30, Tryd.ntmps30
      go_wp2
      · rename_i hc1
        go_ret
        have hr0 : r = [] := List.eq_nil_of_length_eq_zero (by omega)
        obtain ⟨q1, q2⟩ := Fin.out off 0 (Key.out off 0 (by omega) (by omega) (fun e => absurd hr0 e))
        exact ⟨rfl, ⟨_, q1⟩, q2⟩
      · go_ret
        obtain ⟨q1, q2⟩ := Fin.out (off + 1) (cap - 1) (Key.out (off + 1) (cap - 1) (by have := H2.out; omega) (by omega) (fun _ => rfl))
        exact ⟨rfl, ⟨_, q1⟩, q2⟩

theorem Tryd.info42 : (Tryd.prog.info? 42).map (fun i => (i.zero, i.size, i.bytes)) = some (some (.agg #[.int .i64 0, .int .i64 0]), 2, 16) := by kernel_rfl

set_option maxRecDepth 100000 in
theorem put_any (B M : Nat) (cv iv kv : Value) (g : Gen) (op : Nat) (x : Int) (w : World) (h : GenAt w B M cv iv kv g) (hl : g.ins.length ≤ 1000000) :
    Calls Tryd.prog 18 #[.pointer (some ⟨M, 0, none⟩), .int .i64 (op : Int), .int .i64 x] w fun e w' => e = .returned (.tuple #[]) ∧ ∃ iv', GenAt w' B M cv iv' kv (put g op x) ∧ Fresh w iv iv' ∧ Chg (fun k => k = M ∨ iv.ownBlock = some k) w w' := by
  obtain ⟨i0, hi, hz0, hz1, hz2⟩ := info_parts Tryd.info42
  have H := hid h
  have c1 : w.cell? ⟨M, 1, none⟩ = some iv := h.m.cell 1 rfl
  have f1 := h.m.free 1
  have lM := h.m.lt
  clear h
  go_enter Tryd.func18, Tryd.ntmps18
  go_wp2_with (at_builtin; refine wpList_append_lies _ rfl _ _ _ rfl B 42 i0 _ 2 16 Tryd.underlying23 hi hz0 hz1 hz2 rfl (by omega) iv g.ins.length (insCells g.ins) rfl (H.out.ins.alloc _) ⟨w.heap.size, 0, none⟩ 1 1 [.int .i64 (op : Int), .int .i64 x] rfl rfl (World.news_of_block (cs := #[.int .i64 (op : Int), .int .i64 x]) (t := 42) (fr := (0, 0)) (heap_alloc_new _ _)) (by simp [Value.oneCell']) (by omega) (by unfold maxLen; omega) (by omega) (by have := H.out.le; simp; omega) (w.heap.size + 1) (by simp) ?_)
  intro g1 cap w1 hown1 hgrow hat hlt
  have hC : Chg (fun k => iv.ownBlock = some k) w w1 := ((chg_alloc w _).mono (fun _ _ e => e.elim)).trans (S' := fun k => iv.ownBlock = some k) ⟨hgrow.os, hgrow.tape, hgrow.output, hgrow.size, fun k hk hn => hgrow.block k hk (fun e => hn e.symm)⟩ (fun _ _ e => e)
  have hM1 : blk w1 M #[cv, iv, kv, .int .i64 (g.part : Int), .int .i64 0] 37 := H.out.m.chg hC H.out.im
  have f21 : w1.frozen? ⟨M, 1, none⟩ = false := hM1.free 1
  have c21 : w1.cell? ⟨M, 1, none⟩ = some iv := hM1.cell 1 rfl
  have HM1 := hid hM1
  have HC := hid hC
  have HO := hid hown1
  have hMg : M ≠ g1 := by
    rcases hat with e | e
    · intro e2; exact H.out.im (e2 ▸ e)
    · omega
  have hkg : kv.ownBlock ≠ some g1 := by
    rcases hat with e | e
    · exact H.out.ik g1 e
    · intro e2; have := (H.out.calls.lt g1 e2).2; omega
  have hfr : Fresh w iv (.slice (some ⟨g1, 0, none⟩) (g.ins.length + 1) cap) := by
    rcases hat with e | e
    · exact .inl (by rw [e]; rfl)
    · exact .inr ⟨g1, rfl, by omega⟩
  clear hM1 hC hown1 hgrow hat c1 f1
  go_wp2
  go_end0
  have hC2 : Chg (fun k => k = M ∨ iv.ownBlock = some k) w (w1.setCell ⟨M, 1, none⟩ (.slice (some ⟨g1, 0, none⟩) (g.ins.length + 1) cap)) := (HC.out.mono (fun _ _ e => .inr e)).setCell (fun _ => .inl rfl) _
  refine ⟨rfl, .slice (some ⟨g1, 0, none⟩) (g.ins.length + 1) cap, ?_, hfr, hC2⟩
  have hh := H.out
  refine ⟨HM1.out.set 1 _, ?_, hh.old, ?_, ?_, by simp [Value.ownBlock]; omega, hh.km, fun b hb => by simp [Value.ownBlock] at hb; subst hb; exact hkg, hh.le⟩
  · exact hh.code.chg hC2 (fun _ b hb e => by
      have h1 := hh.old b hb
      rcases e with e | e
      · have := hh.le; omega
      · have := (hh.ins.lt b e).1; omega)
  · show World.ownsRow _ B 42 2 _ (g.ins ++ [(op, x)]).length (insCells (g.ins ++ [(op, x)]))
    rw [List.length_append, insCells_snoc]
    exact World.ownsRow.chg HO.out ((Chg.refl (fun k => k = M) _).setCell (fun _ => rfl) _) (fun g' hg' e => by simp [Value.ownBlock] at hg'; omega)
  · exact World.ownsRow.chg hh.calls hC2 (fun b hb e => by
      rcases e with e | e
      · exact hh.km (e ▸ hb)
      · exact hh.ik b e hb)

set_option maxRecDepth 100000 in
set_option maxHeartbeats 4000000 in
theorem kind_any (B M : Nat) (cv iv kv : Value) (g : Gen) (w : World) (h : GenAt w B M cv iv kv g) (hl : g.code.length ≤ 1000000) :
    Calls Tryd.prog 34 #[.pointer (some ⟨M, 0, none⟩)] w fun e w' => e = .returned (.int .i64 (kindOf (hd g))) ∧ ∃ cv', GenAt w' B M cv' iv kv (nx g) ∧ Chg (fun k => k = M) w w' := by
  have H := hid h
  clear h
  obtain ⟨c, hc⟩ : ∃ c, hd g = c := ⟨_, rfl⟩
  have hb := byte_any B M cv iv kv g w H.out hl
  have hc256 : c < 256 := by
    rw [← hc]; unfold hd
    split
    · decide
    · exact UInt8.toNat_lt _
  rw [hc] at hb ⊢
  have Hb := hid hb
  clear hb hc hl
  by_cases h8 : c % 8 = 0
  · have h8' : (c : Int) % 8 = 0 := by omega
    have hk : kindOf c = 11 + (c : Int) / 8 % 6 := by unfold kindOf; rw [if_pos h8]; omega
    rw [hk]
    have e1 : (c : Int).tmod 8 = 0 := by rw [Int.tmod_eq_emod_of_nonneg (by omega)]; exact h8'
    have e2 : ((c : Int) / 8).tmod 6 = (c : Int) / 8 % 6 := Int.tmod_eq_emod_of_nonneg (by omega)
    go_enter Tryd.func34, Tryd.ntmps34
    go_wp2_with (go_at_call 30; refine (Hb.out).mono ?_; rintro e w1 ⟨rfl, cv1, q1, q2⟩; replace q1 := hid q1; replace q2 := hid q2)
    go_ret
    exact ⟨rfl, _, q1.out, q2.out⟩
  · have h8' : ¬ (c : Int).tmod 8 = 0 := by rw [Int.tmod_eq_emod_of_nonneg (by omega)]; omega
    obtain ⟨m, hm⟩ : ∃ m, c % 9 = m := ⟨_, rfl⟩
    have hm9 : m < 9 := by omega
    have e1 : (c : Int).tmod 9 = (m : Int) := by rw [Int.tmod_eq_emod_of_nonneg (by omega)]; omega
    have hk : kindOf c = kindL.getD m 0 := by unfold kindOf; rw [if_neg h8, hm]
    rw [hk]
    clear hm hk
    match m, hm9 with
    | 0, _ =>
      go_enter Tryd.func34, Tryd.ntmps34
      go_wp2_with (go_at_call 30; refine (Hb.out).mono ?_; rintro e w1 ⟨rfl, cv1, q1, q2⟩; replace q1 := hid q1; replace q2 := hid q2)
      go_ret
      exact ⟨rfl, _, q1.out.alloc _, q2.out.alloc _⟩
    | 1, _ =>
      go_enter Tryd.func34, Tryd.ntmps34
      go_wp2_with (go_at_call 30; refine (Hb.out).mono ?_; rintro e w1 ⟨rfl, cv1, q1, q2⟩; replace q1 := hid q1; replace q2 := hid q2)
      go_ret
      exact ⟨rfl, _, q1.out.alloc _, q2.out.alloc _⟩
    | 2, _ =>
      go_enter Tryd.func34, Tryd.ntmps34
      go_wp2_with (go_at_call 30; refine (Hb.out).mono ?_; rintro e w1 ⟨rfl, cv1, q1, q2⟩; replace q1 := hid q1; replace q2 := hid q2)
      go_ret
      exact ⟨rfl, _, q1.out.alloc _, q2.out.alloc _⟩
    | 3, _ =>
      go_enter Tryd.func34, Tryd.ntmps34
      go_wp2_with (go_at_call 30; refine (Hb.out).mono ?_; rintro e w1 ⟨rfl, cv1, q1, q2⟩; replace q1 := hid q1; replace q2 := hid q2)
      go_ret
      exact ⟨rfl, _, q1.out.alloc _, q2.out.alloc _⟩
    | 4, _ =>
      go_enter Tryd.func34, Tryd.ntmps34
      go_wp2_with (go_at_call 30; refine (Hb.out).mono ?_; rintro e w1 ⟨rfl, cv1, q1, q2⟩; replace q1 := hid q1; replace q2 := hid q2)
      go_ret
      exact ⟨rfl, _, q1.out.alloc _, q2.out.alloc _⟩
    | 5, _ =>
      go_enter Tryd.func34, Tryd.ntmps34
      go_wp2_with (go_at_call 30; refine (Hb.out).mono ?_; rintro e w1 ⟨rfl, cv1, q1, q2⟩; replace q1 := hid q1; replace q2 := hid q2)
      go_ret
      exact ⟨rfl, _, q1.out.alloc _, q2.out.alloc _⟩
    | 6, _ =>
      go_enter Tryd.func34, Tryd.ntmps34
      go_wp2_with (go_at_call 30; refine (Hb.out).mono ?_; rintro e w1 ⟨rfl, cv1, q1, q2⟩; replace q1 := hid q1; replace q2 := hid q2)
      go_ret
      exact ⟨rfl, _, q1.out.alloc _, q2.out.alloc _⟩
    | 7, _ =>
      go_enter Tryd.func34, Tryd.ntmps34
      go_wp2_with (go_at_call 30; refine (Hb.out).mono ?_; rintro e w1 ⟨rfl, cv1, q1, q2⟩; replace q1 := hid q1; replace q2 := hid q2)
      go_ret
      exact ⟨rfl, _, q1.out.alloc _, q2.out.alloc _⟩
    | 8, _ =>
      go_enter Tryd.func34, Tryd.ntmps34
      go_wp2_with (go_at_call 30; refine (Hb.out).mono ?_; rintro e w1 ⟨rfl, cv1, q1, q2⟩; replace q1 := hid q1; replace q2 := hid q2)
      go_ret
      exact ⟨rfl, _, q1.out.alloc _, q2.out.alloc _⟩
end Go.Proofs.YtkhicabfmkldpaaDoor

namespace Go.Proofs.YtkhicabfmkldpaaDoor
open Go Go.RowKit

/-- Where a statement stands: the maker in memory, and the two cells that its closure holds. -/
structure Fr (w0 : World) (B M P D : Nat) (d : Int) (iv0 kv0 : Value) (w1 : World) (cv iv kv : Value) (g : Gen) : Prop where
  at' : GenAt w1 B M cv iv kv g
  p : blk w1 P #[.pointer (some ⟨M, 0, none⟩)] 34
  d : blk w1 D #[.int .i64 d] 3
  pM : P ≠ M
  dM : D ≠ M
  ip : iv.ownBlock ≠ some P
  id' : iv.ownBlock ≠ some D
  kp : kv.ownBlock ≠ some P
  kd : kv.ownBlock ≠ some D
  le : w0.heap.size ≤ P ∧ w0.heap.size ≤ D ∧ B ≤ w0.heap.size
  chg : Chg (GenS M iv0 kv0) w0 w1
  fi : Fresh w0 iv0 iv
  fk : Fresh w0 kv0 kv

section
variable {w0 w1 w2 : World} {B M P D : Nat} {d : Int} {iv0 kv0 cv iv kv cv' iv' kv' : Value} {g g' : Gen}

theorem Fr.cP (h : Fr w0 B M P D d iv0 kv0 w1 cv iv kv g) : w1.cell? ⟨P, 0, none⟩ = some (.pointer (some ⟨M, 0, none⟩)) := h.p.cell 0 rfl
theorem Fr.cD (h : Fr w0 B M P D d iv0 kv0 w1 cv iv kv g) : w1.cell? ⟨D, 0, none⟩ = some (.int .i64 d) := h.d.cell 0 rfl

theorem genS_trans (fi : Fresh w0 iv0 iv) (fk : Fresh w0 kv0 kv) {i : Nat} (hi : i < w0.heap.size) (e : GenS M iv kv i) : GenS M iv0 kv0 i := by
  rcases e with e | e | e
  · exact .inl e
  · rcases fi with f | ⟨b, f, hb⟩
    · exact .inr (.inl (f ▸ e))
    · rw [e] at f; cases f; omega
  · rcases fk with f | ⟨b, f, hb⟩
    · exact .inr (.inr (f ▸ e))
    · rw [e] at f; cases f; omega

theorem Fr.step (h : Fr w0 B M P D d iv0 kv0 w1 cv iv kv g) (ha : GenAt w2 B M cv' iv' kv' g') (hc : Chg (GenS M iv kv) w1 w2) (f1 : Fresh w1 iv iv') (f2 : Fresh w1 kv kv') : Fr w0 B M P D d iv0 kv0 w2 cv' iv' kv' g' := by
  have nP : ¬ GenS M iv kv P := fun e => by rcases e with e | e | e; exact h.pM e; exact h.ip e; exact h.kp e
  have nD : ¬ GenS M iv kv D := fun e => by rcases e with e | e | e; exact h.dM e; exact h.id' e; exact h.kd e
  exact ⟨ha, h.p.chg hc nP, h.d.chg hc nD, h.pM, h.dM, f1.ne h.p.lt h.ip, f1.ne h.d.lt h.id', f2.ne h.p.lt h.kp, f2.ne h.d.lt h.kd, h.le,
    h.chg.trans hc (fun i hi e => genS_trans h.fi h.fk hi e), h.fi.trans f1 h.chg.size, h.fk.trans f2 h.chg.size⟩

theorem Fr.byte (h : Fr w0 B M P D d iv0 kv0 w1 cv iv kv g) (ha : GenAt w2 B M cv' iv kv g') (hc : Chg (fun k => k = M) w1 w2) : Fr w0 B M P D d iv0 kv0 w2 cv' iv kv g' :=
  h.step ha (hc.mono (fun _ _ e => .inl e)) (Fresh.refl _ _) (Fresh.refl _ _)
theorem Fr.put (h : Fr w0 B M P D d iv0 kv0 w1 cv iv kv g) (ha : GenAt w2 B M cv iv' kv g') (hf : Fresh w1 iv iv') (hc : Chg (fun k => k = M ∨ iv.ownBlock = some k) w1 w2) : Fr w0 B M P D d iv0 kv0 w2 cv iv' kv g' :=
  h.step ha (hc.mono (fun _ _ e => e.elim .inl (fun e => .inr (.inl e)))) hf (Fresh.refl _ _)
theorem Fr.drewN (h : Fr w0 B M P D d iv0 kv0 w1 cv iv kv g) (n : Nat) : Fr w0 B M P D d iv0 kv0 (w1.drewN n) cv iv kv g :=
  h.step (h.at'.drewN n) ((Chg.refl _ w1).drewN n) (Fresh.refl _ _) (Fresh.refl _ _)
theorem Fr.alloc (h : Fr w0 B M P D d iv0 kv0 w1 cv iv kv g) (o : Obj) : Fr w0 B M P D d iv0 kv0 (w1.alloc o) cv iv kv g :=
  h.step (h.at'.alloc o) ((Chg.refl _ w1).alloc o) (Fresh.refl _ _) (Fresh.refl _ _)
theorem Fr.drew (h : Fr w0 B M P D d iv0 kv0 w1 cv iv kv g) : Fr w0 B M P D d iv0 kv0 w1.drew cv iv kv g :=
  h.step (h.at'.chg ((Chg.refl (fun _ => False) w1).drew) (fun _ _ e => e.elim)) ((Chg.refl _ w1).drew) (Fresh.refl _ _) (Fresh.refl _ _)
theorem Fr.to (h : Fr w0 B M P D d iv0 kv0 w1 cv iv kv g) : GenTo B M iv0 kv0 g w0 w1 := ⟨⟨cv, iv, kv, h.at', h.fi, h.fk⟩, h.chg⟩

theorem Fr.start (h : GenAt w0 B M cv iv kv g) (hB : B ≤ w0.heap.size) : Fr w0 B M w0.heap.size (w0.heap.size + 1) d iv kv ((w0.alloc (.cells #[.pointer (some ⟨M, 0, none⟩)] 34)).alloc (.cells #[.int .i64 d] 3)) cv iv kv g := by
  have hM := h.m.lt
  have hi : ∀ b, iv.ownBlock = some b → b < w0.heap.size := fun b hb => (h.ins.lt b hb).2
  have hk : ∀ b, kv.ownBlock = some b → b < w0.heap.size := fun b hb => (h.calls.lt b hb).2
  refine ⟨(h.alloc _).alloc _, (blk_new _ _ _).alloc _, blk_new' (by simp) _ _, by omega, by omega, fun e => by have := hi _ e; omega, fun e => by have := hi _ e; omega, fun e => by have := hk _ e; omega, fun e => by have := hk _ e; omega, ⟨Nat.le_refl _, by omega, hB⟩, ((Chg.refl _ w0).alloc _).alloc _, Fresh.refl _ _, Fresh.refl _ _⟩
end

/-- The sizes of what is made. -/
structure Szd (g : Gen) (n : Nat) : Prop where
  code : g.code.length ≤ 100000
  ins : g.ins.length + n ≤ 100000
  calls : g.calls.length + n ≤ 100000

theorem Szd.c {g : Gen} {n : Nat} (h : Szd g n) : g.code.length ≤ 1000000 := by have := h.code; omega
theorem Szd.i {g : Gen} {n : Nat} (h : Szd g n) : g.ins.length ≤ 1000000 := by have := h.ins; omega
theorem Szd.k {g : Gen} {n : Nat} (h : Szd g n) : g.calls.length ≤ 1000000 := by have := h.calls; omega
theorem Szd.nx {g : Gen} {n : Nat} (h : Szd g n) : Szd (nx g) n := ⟨by have := h.code; show (g.code.tail).length ≤ _; rw [List.length_tail]; omega, h.ins, h.calls⟩
theorem Szd.put {g : Gen} {n : Nat} (h : Szd g (n + 1)) (op : Nat) (x : Int) : Szd (put g op x) n := ⟨h.code, by have := h.ins; show (g.ins ++ [_]).length + n ≤ _; simp; omega, by have := h.calls; show g.calls.length + n ≤ _; omega⟩
theorem Szd.mono {g : Gen} {n m : Nat} (h : Szd g n) (hm : m ≤ n) : Szd g m := ⟨h.code, by have := h.ins; omega, by have := h.calls; omega⟩

/-- What is known of a body. -/
def BodyOk (B M : Nat) (n : Nat) (d : Int) (F : Gen → Gen) : Prop := ∀ (cv iv kv : Value) (g : Gen) (w : World), GenAt w B M cv iv kv g → B ≤ w.heap.size → Szd g n →
  Calls Tryd.prog 15 #[.pointer (some ⟨M, 0, none⟩), .int .i64 d] w fun e w' => e = .returned (.tuple #[]) ∧ GenTo B M iv kv (F g) w w'

/-- What a body's growth is. -/
def BodyZ (n : Nat) (F : Gen → Gen) : Prop := ∀ (g : Gen) (m : Nat), Szd g (n + m) → Szd (F g) m

theorem tmod_nat (a b : Nat) : ((a : Int)).tmod (b : Int) = ((a % b : Nat) : Int) := by rw [Int.tmod_eq_emod_of_nonneg (by omega)]; rfl

end Go.Proofs.YtkhicabfmkldpaaDoor

namespace Go.Proofs.YtkhicabfmkldpaaDoor
open Go Go.RowKit

theorem insCells_get2 : ∀ (l : List (Nat × Int)) (i : Nat), i < l.length → (insCells l)[i * 2]? = some (.int .i64 ((l.getD i (0, 0)).1 : Int)) ∧ (insCells l)[i * 2 + 1]? = some (.int .i64 (l.getD i (0, 0)).2)
  | [], i, h => by simp at h
  | o :: r, 0, _ => ⟨rfl, rfl⟩
  | o :: r, i + 1, h => by
    have ih := insCells_get2 r i (by simpa using h)
    show (([Value.int .i64 (o.1 : Int), .int .i64 o.2] ++ insCells r)[(i + 1) * 2]? = _) ∧ (([Value.int .i64 (o.1 : Int), .int .i64 o.2] ++ insCells r)[(i + 1) * 2 + 1]? = _)
    rw [List.getElem?_append_right (by simp; omega), List.getElem?_append_right (by simp; omega)]
    simp only [List.length_cons, List.length_nil]
    rw [show (i + 1) * 2 - (0 + 1 + 1) = i * 2 by omega, show (i + 1) * 2 + 1 - (0 + 1 + 1) = i * 2 + 1 by omega]
    exact ih

theorem insCells_setX : ∀ (l : List (Nat × Int)) (i : Nat) (y : Int), i < l.length → insCells (setX l i y) = (insCells l).set (i * 2 + 1) (.int .i64 y)
  | [], i, y, h => by simp at h
  | o :: r, 0, y, _ => rfl
  | o :: r, i + 1, y, h => by
    have ih := insCells_setX r i y (by simpa using h)
    show [Value.int .i64 (o.1 : Int), .int .i64 o.2] ++ insCells (setX r i y) = ([Value.int .i64 (o.1 : Int), .int .i64 o.2] ++ insCells r).set ((i + 1) * 2 + 1) (.int .i64 y)
    rw [ih, List.set_append_right _ _ (by simp; omega)]
    simp only [List.length_cons, List.length_nil]
    rw [show (i + 1) * 2 + 1 - (0 + 1 + 1) = i * 2 + 1 by omega]

/-- An instruction's operand in memory, and what its writing leaves. -/
theorem GenAt.patched {w : World} {B M : Nat} {cv iv kv : Value} {g : Gen} (h : GenAt w B M cv iv kv g) (i : Nat) (hi : i < g.ins.length) :
    ∃ gb cap v, iv = .slice (some ⟨gb, 0, none⟩) g.ins.length cap ∧ w.cell? ⟨gb, i * 2 + 1, none⟩ = some v ∧ w.frozen? ⟨gb, i * 2 + 1, none⟩ = false ∧ gb ≠ M ∧ gb < w.heap.size ∧
      ∀ x : Int, GenAt (w.setCell ⟨gb, i * 2 + 1, none⟩ (.int .i64 x)) B M cv iv kv { g with ins := setX g.ins i x } ∧ Chg (fun k => iv.ownBlock = some k) w (w.setCell ⟨gb, i * 2 + 1, none⟩ (.int .i64 x)) := by
  rcases h.ins.2 with ⟨_, h0⟩ | ⟨gb, cap, cur, hiv, hB, hgb, hn, hcap, hsz, htk⟩
  · omega
  · have hlt : i * 2 + 1 < cur.size := by omega
    have hb : blk w gb cur 42 := hgb
    have hgM : gb ≠ M := fun e => h.im (by rw [hiv, ← e]; rfl)
    refine ⟨gb, cap, cur[i * 2 + 1], hiv, hb.cell _ (by simp [hlt]), hb.free _, hgM, hb.lt, fun x => ?_⟩
    have hC : Chg (fun k => iv.ownBlock = some k) w (w.setCell ⟨gb, i * 2 + 1, none⟩ (.int .i64 x)) := (Chg.refl _ w).setCell (fun _ => by rw [hiv]; rfl) _
    refine ⟨⟨h.m.chg hC h.im, ?_, h.old, ?_, ?_, h.im, h.km, h.ik, h.le⟩, hC⟩
    · exact h.code.chg hC (fun _ b hbb e => by rw [hiv] at e; cases e; have := h.old gb hbb; omega)
    · refine ⟨by rw [insCells_size], .inr ⟨gb, cap, cur.setIfInBounds (i * 2 + 1) (.int .i64 x), ?_, hB, hb.set _ _, ?_, hcap, by simpa using hsz, ?_⟩⟩
      · rw [hiv]; show _ = Value.slice _ (setX g.ins i x).length cap; rw [setX_length]
      · show (setX g.ins i x).length ≤ cap; rw [setX_length]; exact hn
      · show (cur.setIfInBounds (i * 2 + 1) (.int .i64 x)).toList.take ((setX g.ins i x).length * 2) = insCells (setX g.ins i x)
        rw [setX_length, insCells_setX _ _ _ hi, ← htk, Array.toList_setIfInBounds, List.take_set]
    · exact World.ownsRow.chg h.calls hC (fun b hbb e => h.ik b e hbb)
end Go.Proofs.YtkhicabfmkldpaaDoor

namespace Go.Proofs.YtkhicabfmkldpaaDoor
open Go Go.RowKit

set_option maxRecDepth 100000 in
theorem stm1_any (B M P D : Nat) (d : Int) (w0 w : World) (iv0 kv0 cv iv kv : Value) (g : Gen) (n : Nat) (F : Gen → Gen) (hd : 0 ≤ d ∧ d ≤ 10) (hbody : BodyOk B M n (d + 1) F) (h : Fr w0 B M P D d iv0 kv0 w cv iv kv g) (hS : Szd g n) :
    Calls Tryd.prog 36 #[.pointer (some ⟨P, 0, none⟩), .pointer (some ⟨D, 0, none⟩)] w fun e w' => e = .returned (.tuple #[]) ∧ ∃ cv' iv' kv', Fr w0 B M P D d iv0 kv0 w' cv' iv' kv' (F g) := by
  have cP := h.cP
  have cD := h.cD
  have H := hid h
  clear h
  go_enter Tryd.func36, Tryd.ntmps36
  go_wp2_with (go_at_call 15; refine (hbody cv iv kv g _ H.out.at' (Nat.le_trans H.out.le.2.2 H.out.chg.size) hS).mono ?_; rintro e w1 ⟨rfl, ⟨⟨cv1, iv1, kv1, q1, q2, q3⟩, q4⟩⟩; have hF1 := H.out.step q1 q4 q2 q3; replace hF1 := hid hF1; clear q1 q2 q3 q4)
  go_end0
  exact ⟨rfl, _, _, _, hF1.out⟩

/-- What a body never takes away. -/
def BodyG (F : Gen → Gen) : Prop := ∀ g, g.ins.length ≤ (F g).ins.length

theorem Fr.c1 {w0 w1 : World} {B M P D : Nat} {d : Int} {iv0 kv0 cv iv kv : Value} {g : Gen} (h : Fr w0 B M P D d iv0 kv0 w1 cv iv kv g) : ∃ a c, w1.cell? ⟨M, 1, none⟩ = some (.slice a g.ins.length c) := by
  rcases h.at'.ins.2 with ⟨h1, h2⟩ | ⟨gb, cap, cur, h1, _⟩
  · exact ⟨none, 0, by rw [h2, ← h1]; exact h.at'.m.cell 1 rfl⟩
  · exact ⟨_, _, by rw [← h1]; exact h.at'.m.cell 1 rfl⟩

/-- The last step of a loop, or of a condition: where it ends is written. -/
theorem Fr.patched {w0 w1 : World} {B M P D : Nat} {d : Int} {iv0 kv0 cv iv kv : Value} {g : Gen} (h : Fr w0 B M P D d iv0 kv0 w1 cv iv kv g) (i : Nat) (hi : i < g.ins.length) :
    ∃ gb cap v, w1.cell? ⟨M, 1, none⟩ = some (.slice (some ⟨gb, 0, none⟩) g.ins.length cap) ∧ w1.cell? ⟨gb, i * 2 + 1, none⟩ = some v ∧ w1.frozen? ⟨gb, i * 2 + 1, none⟩ = false ∧ gb ≠ M ∧ gb < w1.heap.size ∧
      Hid (∀ x : Int, Fr w0 B M P D d iv0 kv0 (w1.setCell ⟨gb, i * 2 + 1, none⟩ (.int .i64 x)) cv iv kv { g with ins := setX g.ins i x }) := by
  obtain ⟨gb, cap, v, h1, h2, h3, h4, h5, h6⟩ := h.at'.patched i hi
  refine ⟨gb, cap, v, by rw [← h1]; exact h.at'.m.cell 1 rfl, h2, h3, h4, h5, hid fun x => ?_⟩
  obtain ⟨q1, q2⟩ := h6 x
  exact h.step q1 (q2.mono (fun _ _ e => .inr (.inl e))) (Fresh.refl _ _) (Fresh.refl _ _)

set_option maxRecDepth 100000 in
set_option maxHeartbeats 1000000 in
theorem loop_any (B M P D : Nat) (d : Int) (w0 w : World) (iv0 kv0 cv iv kv : Value) (g : Gen) (n : Nat) (F : Gen → Gen) (hd : 0 ≤ d ∧ d ≤ 10) (hbody : BodyOk B M n (d + 1) F) (hz : BodyZ n F) (hG : BodyG F) (h : Fr w0 B M P D d iv0 kv0 w cv iv kv g) (hS : Szd g (n + 7)) :
    Calls Tryd.prog 35 #[.pointer (some ⟨M, 0, none⟩), .func (.func 36) #[] #[.pointer (some ⟨P, 0, none⟩), .pointer (some ⟨D, 0, none⟩)]] w fun e w' => e = .returned (.tuple #[]) ∧ ∃ cv' iv' kv', Fr w0 B M P D d iv0 kv0 w' cv' iv' kv' (gLoop F g) := by
  obtain ⟨a0, k0, c0⟩ := h.c1
  obtain ⟨N, hN⟩ : ∃ N, g.ins.length = N := ⟨_, rfl⟩
  rw [hN] at c0
  have hN1 : (put g 12 0).ins.length = N + 1 := by show (g.ins ++ [_]).length = _; simp [hN]
  obtain ⟨K, hK⟩ : ∃ K, N + 1 = K := ⟨_, rfl⟩
  have hN2 : N ≤ 100000 := by have := hS.ins; omega
  have z1 : Szd (put g 12 0) (n + 6) := hS.put _ _
  have z2 : Szd (put (put g 12 0) 14 0) (n + 5) := z1.put _ _
  have z3 : Szd (put (put (put g 12 0) 14 0) 19 0) (n + 4) := z2.put _ _
  have z4 : Szd (F (put (put (put g 12 0) 14 0) 19 0)) 4 := hz _ _ z3
  have z5 : Szd (put (F (put (put (put g 12 0) 14 0) 19 0)) 20 0) 3 := z4.put _ _
  have z6 : Szd (put (put (F (put (put (put g 12 0) 14 0) 19 0)) 20 0) 16 (-1)) 2 := z5.put _ _
  have hlast : K < (put (put (put (F (put (put (put g 12 0) 14 0) 19 0)) 20 0) 16 (-1)) 11 (N : Int)).ins.length := by
    have h1 := hG (put (put (put g 12 0) 14 0) 19 0)
    have h2 : (put (put (put g 12 0) 14 0) 19 0).ins.length = N + 3 := by show (g.ins ++ [_] ++ [_] ++ [_]).length = _; simp [hN]
    have h3 : (put (put (put (F (put (put (put g 12 0) 14 0) 19 0)) 20 0) 16 (-1)) 11 (N : Int)).ins.length = (F (put (put (put g 12 0) 14 0) 19 0)).ins.length + 3 := by
      show ((F _).ins ++ [_] ++ [_] ++ [_]).length = _; simp
    omega
  have Hlast := hid hlast
  have HK := hid hK
  have HN := hid hN
  rw [hK] at hN1
  have HN1 := hid hN1
  have hF0 := hid h
  have hK2 : K ≤ 100001 := by omega
  clear h hlast hK hN hN1
  go_enter Tryd.func35, Tryd.ntmps35
  go_wp2_with (first | (go_at_call 18; refine (put_any B M cv4 iv6 kv4 (put (put (F (put (put (put g 12 0) 14 0) 19 0)) 20 0) 16 (-1)) 11 (N : Int) _ hF6.out.at' z6.i).mono ?_; rintro e w7 ⟨rfl, iv7, q1, q2, q3⟩; have hF7 := (hF6.out).put q1 q2 q3; obtain ⟨a7, k7, c7⟩ := hF7.c1; skip; replace hF7 := hid hF7; clear q1 q2 q3) | (go_at_call 18; refine (put_any B M cv4 iv5 kv4 (put (F (put (put (put g 12 0) 14 0) 19 0)) 20 0) 16 (-1) _ hF5.out.at' z5.i).mono ?_; rintro e w6 ⟨rfl, iv6, q1, q2, q3⟩; have hF6 := (hF5.out).put q1 q2 q3; obtain ⟨a6, k6, c6⟩ := hF6.c1; skip; replace hF6 := hid hF6; clear q1 q2 q3) | (go_at_call 18; refine (put_any B M cv4 iv4 kv4 (F (put (put (put g 12 0) 14 0) 19 0)) 20 0 _ hF4.out.at' z4.i).mono ?_; rintro e w5 ⟨rfl, iv5, q1, q2, q3⟩; have hF5 := (hF4.out).put q1 q2 q3; obtain ⟨a5, k5, c5⟩ := hF5.c1; skip; replace hF5 := hid hF5; clear q1 q2 q3) | (go_at_call 36; refine (stm1_any B M P D d w0 _ iv0 kv0 cv iv3 kv (put (put (put g 12 0) 14 0) 19 0) n F hd hbody hF3.out (z3.mono (by omega))).mono ?_; rintro e w4 ⟨rfl, cv4, iv4, kv4, hF4⟩; obtain ⟨a4, k4, c4⟩ := hF4.c1; replace hF4 := hid hF4) | (go_at_call 18; refine (put_any B M cv iv2 kv (put (put g 12 0) 14 0) 19 0 _ hF2.out.at' z2.i).mono ?_; rintro e w3 ⟨rfl, iv3, q1, q2, q3⟩; have hF3 := (hF2.out).put q1 q2 q3; obtain ⟨a3, k3, c3⟩ := hF3.c1; skip; replace hF3 := hid hF3; clear q1 q2 q3) | (go_at_call 18; refine (put_any B M cv iv1 kv (put g 12 0) 14 0 _ hF1.out.at' z1.i).mono ?_; rintro e w2 ⟨rfl, iv2, q1, q2, q3⟩; have hF2 := (hF1.out).put q1 q2 q3; obtain ⟨a2, k2, c2⟩ := hF2.c1; skip; replace hF2 := hid hF2; clear q1 q2 q3) | (go_at_call 18; refine (put_any B M cv iv kv g 12 0 _ hF0.out.at' hS.i).mono ?_; rintro e w1 ⟨rfl, iv1, q1, q2, q3⟩; have hF1 := (hF0.out).put q1 q2 q3; obtain ⟨a1, k1, c1⟩ := hF1.c1; rw [HN1.out] at c1; replace hF1 := hid hF1; clear q1 q2 q3))
  obtain ⟨gb, cap, v, p1, p2, p3, p4, p5, p6⟩ := hF7.out.patched K Hlast.out
  obtain ⟨Z, hZ⟩ : ∃ Z, (put (put (put (F (put (put (put g 12 0) 14 0) 19 0)) 20 0) 16 (-1)) 11 (N : Int)).ins.length = Z := ⟨_, rfl⟩
  have hKZ : K < Z := hZ ▸ Hlast.out
  have hZb : Z ≤ 1000000 := by have := z6.ins; have h3 : (put (put (put (F (put (put (put g 12 0) 14 0) 19 0)) 20 0) 16 (-1)) 11 (N : Int)).ins.length = (put (put (F (put (put (put g 12 0) 14 0) 19 0)) 20 0) 16 (-1)).ins.length + 1 := by { show (_ ++ [_]).length = _; simp }; omega
  rw [hZ] at p1
  have HZ := hid hZ
  have hKZi : (K : Int) < (Z : Int) := by omega
  have hK0i : (0 : Int) ≤ (K : Int) := by omega
  clear c0 c1 c2 c3 c4 c5 c6 c7 hZ
  go_region_held3 (fun w' => w'.cell? ⟨M, 1, none⟩ = some (.slice (some ⟨gb, 0, none⟩) Z cap)) (first | assumption | go_keep) (fail)
  go_wp2
  go_end0
  have e : gLoop F g = { put (put (put (F (put (put (put g 12 0) 14 0) 19 0)) 20 0) 16 (-1)) 11 (N : Int) with ins := setX (put (put (put (F (put (put (put g 12 0) 14 0) 19 0)) 20 0) 16 (-1)) 11 (N : Int)).ins K (Z : Int) } := by
    unfold gLoop patch
    rw [HN.out, HK.out, HZ.out]
  rw [e]
  exact ⟨rfl, _, _, _, (p6.out Z).drew⟩

set_option maxRecDepth 100000 in
set_option maxHeartbeats 1000000 in
theorem stm_13 (B M : Nat) (cv iv kv : Value) (g : Gen) (n : Nat) (d : Int) (hd2 : ¬ 3 ≤ d) (hd0 : 0 ≤ d) (F : Gen → Gen) (hbody : BodyOk B M n (d + 1) F) (hz : BodyZ n F) (hG : BodyG F) (w : World) (h : GenAt w B M cv iv kv g) (hB : B ≤ w.heap.size) (hS : Szd g (n + 8)) (hc : hd g % 16 = 13) (z : Nat) (hz' : hd (nx g) % 4 = z) :
    Calls Tryd.prog 23 #[.pointer (some ⟨M, 0, none⟩), .int .i64 d] w fun e w' => e = .returned (.tuple #[]) ∧ GenTo B M iv kv (gLoop F (put (nx (nx g)) 15 (z : Int))) w w' := by
  have hF := hid (Fr.start (d := d) h hB)
  have e1 : (hd g : Int).tmod 16 = 13 := by rw [Int.tmod_eq_emod_of_nonneg (by omega)]; omega
  have bz : z < 4 := by omega
  have tz : (hd (nx g) : Int).tmod 4 = (z : Int) := by rw [← hz']; exact tmod_nat _ 4
  clear hz'
  have z0 : Szd (nx g) (n + 8) := hS.nx
  have z1 : Szd (nx (nx g)) (n + 8) := z0.nx
  have z2 : Szd (put (nx (nx g)) 15 (z : Int)) (n + 7) := z1.put _ _
  clear h hc
  go_enter Tryd.func23, Tryd.ntmps23
  go_wp2_with (first | (go_at_call 30; refine (byte_any B M cv iv kv g _ hF.out.at' hS.c).mono ?_; rintro e w1 ⟨rfl, cv1, q1, q2⟩; have hF1 := hF.out.byte q1 q2; have cP := hF1.cP; have cD := hF1.cD; replace hF1 := hid hF1; clear q1 q2))
  go_region_held3 (fun w' => w'.cell? ⟨w.heap.size, 0, none⟩ = some (.pointer (some ⟨M, 0, none⟩))) (first | assumption | go_keep) (first | (go_at_call 18; refine (put_any B M cv2 iv kv (nx (nx g)) 15 (z : Int) _ hF2.out.at' z1.i).mono ?_; rintro e w3 ⟨rfl, iv3, q1, q2, q3⟩; have hF3 := (hF2.out).put q1 q2 q3; have cP := hF3.cP; have cD := hF3.cD; replace hF3 := hid hF3; clear q1 q2 q3) | (go_at_call 30; refine (byte_any B M cv1 iv kv (nx g) _ hF1.out.drew.at' z0.c).mono ?_; rintro e w2 ⟨rfl, cv2, q1, q2⟩; have hF2 := (hF1.out.drew).byte q1 q2; have cP := hF2.cP; have cD := hF2.cD; replace hF2 := hid hF2; clear q1 q2))
  go_wp2_with (go_at_call 35; refine (loop_any B M w.heap.size (w.heap.size + 1) d w _ iv kv cv2 iv3 kv (put (nx (nx g)) 15 (z : Int)) n F ⟨hd0, by omega⟩ hbody hz hG hF3.out z2).mono ?_; rintro e w4 ⟨rfl, cv4, iv4, kv4, hF4⟩; replace hF4 := hid hF4)
  go_end0
  exact ⟨rfl, hF4.out.to⟩

set_option maxRecDepth 100000 in
set_option maxHeartbeats 1000000 in
theorem stm_14 (B M : Nat) (cv iv kv : Value) (g : Gen) (n : Nat) (d : Int) (hd2 : ¬ 3 ≤ d) (hd0 : 0 ≤ d) (F : Gen → Gen) (hbody : BodyOk B M n (d + 1) F) (hz : BodyZ n F) (hG : BodyG F) (w : World) (h : GenAt w B M cv iv kv g) (hB : B ≤ w.heap.size) (hS : Szd g (n + 8)) (hc : hd g % 16 = 14) (z : Nat) (hz' : hd (nx g) % 4 = z) :
    Calls Tryd.prog 23 #[.pointer (some ⟨M, 0, none⟩), .int .i64 d] w fun e w' => e = .returned (.tuple #[]) ∧ GenTo B M iv kv (gLoop F (put (nx (nx g)) 15 (z : Int))) w w' := by
  have hF := hid (Fr.start (d := d) h hB)
  have e1 : (hd g : Int).tmod 16 = 14 := by rw [Int.tmod_eq_emod_of_nonneg (by omega)]; omega
  have bz : z < 4 := by omega
  have tz : (hd (nx g) : Int).tmod 4 = (z : Int) := by rw [← hz']; exact tmod_nat _ 4
  clear hz'
  have z0 : Szd (nx g) (n + 8) := hS.nx
  have z1 : Szd (nx (nx g)) (n + 8) := z0.nx
  have z2 : Szd (put (nx (nx g)) 15 (z : Int)) (n + 7) := z1.put _ _
  clear h hc
  go_enter Tryd.func23, Tryd.ntmps23
  go_wp2_with (first | (go_at_call 30; refine (byte_any B M cv iv kv g _ hF.out.at' hS.c).mono ?_; rintro e w1 ⟨rfl, cv1, q1, q2⟩; have hF1 := hF.out.byte q1 q2; have cP := hF1.cP; have cD := hF1.cD; replace hF1 := hid hF1; clear q1 q2))
  go_region_held3 (fun w' => w'.cell? ⟨w.heap.size, 0, none⟩ = some (.pointer (some ⟨M, 0, none⟩))) (first | assumption | go_keep) (first | (go_at_call 18; refine (put_any B M cv2 iv kv (nx (nx g)) 15 (z : Int) _ hF2.out.at' z1.i).mono ?_; rintro e w3 ⟨rfl, iv3, q1, q2, q3⟩; have hF3 := (hF2.out).put q1 q2 q3; have cP := hF3.cP; have cD := hF3.cD; replace hF3 := hid hF3; clear q1 q2 q3) | (go_at_call 30; refine (byte_any B M cv1 iv kv (nx g) _ hF1.out.drew.at' z0.c).mono ?_; rintro e w2 ⟨rfl, cv2, q1, q2⟩; have hF2 := (hF1.out.drew).byte q1 q2; have cP := hF2.cP; have cD := hF2.cD; replace hF2 := hid hF2; clear q1 q2))
  go_wp2_with (go_at_call 35; refine (loop_any B M w.heap.size (w.heap.size + 1) d w _ iv kv cv2 iv3 kv (put (nx (nx g)) 15 (z : Int)) n F ⟨hd0, by omega⟩ hbody hz hG hF3.out z2).mono ?_; rintro e w4 ⟨rfl, cv4, iv4, kv4, hF4⟩; replace hF4 := hid hF4)
  go_end0
  exact ⟨rfl, hF4.out.to⟩

end Go.Proofs.YtkhicabfmkldpaaDoor
