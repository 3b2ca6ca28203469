/-
  Slices of bytes as lists; the methods of the noting field that take bytes and floats.
-/
import Derived.Test.YtkhicabfmkldpaaDoorNotes
set_option linter.unusedSimpArgs false
set_option linter.unusedVariables false
namespace Go.Proofs.YtkhicabfmkldpaaDoor
open Go.RowKit

/-- The string that some bytes are. -/
def strOf (l : List UInt8) : ByteArray := ⟨l.toArray⟩

/-- A slice of bytes reads as a list. -/
def RdB (w : World) (v : Value) (l : List UInt8) : Prop :=
  (v = .slice none 0 0 ∧ l = []) ∨ ∃ b off cap, v = .slice (some ⟨b, off, none⟩) l.length cap ∧ l.length ≤ cap ∧ cap ≤ maxLen ∧ ∀ i, i < l.length → w.cell? ⟨b, off + i, none⟩ = some (.int .u8 (l.getD i 0).toNat)

theorem RdB.chg {w w' : World} {S : Nat → Prop} {v : Value} {l : List UInt8} (h : RdB w v l) (hc : Chg S w w') (hS : l ≠ [] → ∀ g, v.ownBlock = some g → ¬ S g) : RdB w' v l := by
  rcases h with h | ⟨b, off, cap, rfl, h1, h2, h3⟩
  · exact .inl h
  · refine .inr ⟨b, off, cap, rfl, h1, h2, fun i hi => ?_⟩
    have h4 := h3 i hi
    have hlt := World.block_lt_of_cell? w _ h4
    rw [World.cell?_of_block (hc.block b hlt (hS (by intro e; simp [e] at hi) b rfl))]
    exact h4
theorem RdB.alloc {w : World} {v : Value} {l : List UInt8} (h : RdB w v l) (o : Obj) : RdB (w.alloc o) v l := h.chg (chg_alloc w o) (fun _ _ _ e => e)
theorem RdB.below {w w' : World} {B : Nat} {v : Value} {l : List UInt8} (h : RdB w v l) (hb : Below B w w') (hB : l ≠ [] → ∀ g, v.ownBlock = some g → g < B) : RdB w' v l :=
  h.chg (Below.chg hb) (fun e g hg hn => by have := hB e g hg; omega)

theorem strOfNums_nats (l : List UInt8) : strOfNums (l.map (fun b => (b.toNat : Int))) = strOf l := by
  unfold strOfNums strOf
  congr 2
  rw [List.map_map]
  conv => rhs; rw [← List.map_id l]
  apply List.map_congr_left
  intro b _
  simp

theorem run_str {w : World} {v : Value} {l : List UInt8} (h : RdB w v l) : (convert 22 9 v).run Tryd.prog w = .ok (.string (strOf l)) w := by
  rcases h with ⟨rfl, rfl⟩ | ⟨b, off, cap, rfl, h1, h2, h3⟩
  · exact run_convert_bytes_nil w 22 5 Tryd.underlying22 Tryd.underlying5 0 0 9 Tryd.underlying9
  · rw [run_convert_bytes_arg w 22 5 Tryd.underlying22 Tryd.underlying5 b off l.length cap (l.map (fun b => (b.toNat : Int))) (by simp) (fun i hi => by
      rw [h3 i hi]; simp [List.getD_eq_getElem?_getD, List.getElem?_eq_getElem hi]) 9 Tryd.underlying9, strOfNums_nats]

set_option maxRecDepth 100000 in
theorem SetBytes_any (B N : Nat) (v : Value) (l : List Note) (fields tg : Int) (bv : Value) (bs : List UInt8) (w : World) (h : NotesAt w B N v l fields) (hl : l.length ≤ 1000000) (hb : RdB w bv bs) :
    Calls Tryd.prog 102 #[.agg #[.pointer (some ⟨N, 0, none⟩), .int .i64 tg], bv] w fun e w' => e = .returned (.tuple #[]) ∧ Noted w w' B N v (l ++ [⟨⟨#[83, 101, 116, 66, 121, 116, 101, 115]⟩, 0, strOf bs, tg⟩]) fields := by
  have H := hid h
  have hcv := run_str (hb.alloc (.cells #[.pointer (some ⟨N, 0, none⟩), .int .i64 tg] 87))
  clear h
  go_enter Tryd.func102, Tryd.ntmps102
  go_wp2_with (go_at_call 110; refine (note_any B N v l fields _ _ _ _ _ (H.out.alloc _) hl).mono ?_; rintro e w' ⟨rfl, hn⟩; replace hn := hid hn)
  go_end0
  exact ⟨rfl, hn.out.back (chg_alloc _ _)⟩

theorem run_bits112 (x : Nat) (w : World) : (callFunc 112 #[.float .f32 x]).run Tryd.prog w = .ok (.value (.int .u32 x)) w := by kernel_rfl
/-- The number that 32 bits are as an int64. -/
def asLong112 (x : Nat) : Int := IntKind.i64.wrap (x : Int)
theorem run_conv112 (x : Nat) (w : World) : (convert 122 2 (.int .u32 x)).run Tryd.prog w = .ok (.int .i64 (asLong112 x)) w := by kernel_rfl

set_option maxRecDepth 100000 in
theorem SetFloat_any (B N : Nat) (v : Value) (l : List Note) (fields tg : Int) (x : Nat) (w : World) (h : NotesAt w B N v l fields) (hl : l.length ≤ 1000000) :
    Calls Tryd.prog 105 #[.agg #[.pointer (some ⟨N, 0, none⟩), .int .i64 tg], .float .f32 x] w fun e w' => e = .returned (.tuple #[]) ∧ Noted w w' B N v (l ++ [⟨⟨#[83, 101, 116, 70, 108, 111, 97, 116]⟩, asLong112 x, ⟨#[]⟩, tg⟩]) fields := by
  have H := hid h
  have hcf := run_bits112 x
  have hcv := run_conv112 x
  have hN := h.blk.lt
  clear h
  go_enter Tryd.func105, Tryd.ntmps105
  go_wp2
  refine wp_region_till (fun w' => w'.cell? ⟨w.heap.size, 0, none⟩ = some (.pointer (some ⟨N, 0, none⟩)) ∧ w'.cell? ⟨w.heap.size, 1, none⟩ = some (.int .i64 tg)) 5 (by kernel_rfl) ?_
  refine wpTill_reads 1 [0, 1, 2, 3] (by kernel_rfl) ?_ ?_ ?_
  · intro c a d v w h; cases d <;> exact h
  · go_simp
  iterate 4 (refine wpReads_cons (v := ?_) rfl (yieldsIf_yes rfl fun w' hw => ?_) ?_; rotate_left; (obtain ⟨h1, h2⟩ := hw; go_simp; try with_reducible rfl); simp only [Act.put, List.setIfInBounds_toArray, List.set_cons_zero, List.set_cons_succ])
  refine wpReads_nil ?_
  simp only [listAll]
  refine wpTill_one (i := 4) (by kernel_rfl) rfl rfl ?_
  intro K hK
  go_step
  refine (note_any B N v l fields _ _ _ _ _ ((H.out.alloc _).drew) hl).mono ?_
  rintro e w' ⟨rfl, v', h1, hc, hfr⟩
  have hb : blk w' w.heap.size #[.pointer (some ⟨N, 0, none⟩), .int .i64 tg] 87 :=
    ((blk_new w _ 87).drew).chg hc (fun e => by rcases e with e | e; omega; have := H.out.ne_new _ e; omega)
  refine hK _ _ ⟨fun _ => ⟨hb.cell 0 rfl, hb.cell 1 rfl⟩, ?_⟩
  refine wpTill_done (by kernel_rfl) ?_ _
  go_end0
  exact ⟨rfl, Noted.back (w1 := (w.alloc (.cells #[.pointer (some ⟨N, 0, none⟩), .int .i64 tg] 87)).drew) ⟨v', h1, hc, hfr⟩ ((chg_alloc _ _).drew)⟩
theorem run_bits111 (x : Nat) (w : World) : (callFunc 111 #[.float .f64 x]).run Tryd.prog w = .ok (.value (.int .u64 x)) w := by kernel_rfl
/-- The number that 64 bits are as an int64. -/
def asLong111 (x : Nat) : Int := IntKind.i64.wrap (x : Int)
theorem run_conv111 (x : Nat) (w : World) : (convert 57 2 (.int .u64 x)).run Tryd.prog w = .ok (.int .i64 (asLong111 x)) w := by kernel_rfl

set_option maxRecDepth 100000 in
theorem SetDouble_any (B N : Nat) (v : Value) (l : List Note) (fields tg : Int) (x : Nat) (w : World) (h : NotesAt w B N v l fields) (hl : l.length ≤ 1000000) :
    Calls Tryd.prog 104 #[.agg #[.pointer (some ⟨N, 0, none⟩), .int .i64 tg], .float .f64 x] w fun e w' => e = .returned (.tuple #[]) ∧ Noted w w' B N v (l ++ [⟨⟨#[83, 101, 116, 68, 111, 117, 98, 108, 101]⟩, asLong111 x, ⟨#[]⟩, tg⟩]) fields := by
  have H := hid h
  have hcf := run_bits111 x
  have hcv := run_conv111 x
  have hN := h.blk.lt
  clear h
  go_enter Tryd.func104, Tryd.ntmps104
  go_wp2
  refine wp_region_till (fun w' => w'.cell? ⟨w.heap.size, 0, none⟩ = some (.pointer (some ⟨N, 0, none⟩)) ∧ w'.cell? ⟨w.heap.size, 1, none⟩ = some (.int .i64 tg)) 5 (by kernel_rfl) ?_
  refine wpTill_reads 1 [0, 1, 2, 3] (by kernel_rfl) ?_ ?_ ?_
  · intro c a d v w h; cases d <;> exact h
  · go_simp
  iterate 4 (refine wpReads_cons (v := ?_) rfl (yieldsIf_yes rfl fun w' hw => ?_) ?_; rotate_left; (obtain ⟨h1, h2⟩ := hw; go_simp; try with_reducible rfl); simp only [Act.put, List.setIfInBounds_toArray, List.set_cons_zero, List.set_cons_succ])
  refine wpReads_nil ?_
  simp only [listAll]
  refine wpTill_one (i := 4) (by kernel_rfl) rfl rfl ?_
  intro K hK
  go_step
  refine (note_any B N v l fields _ _ _ _ _ ((H.out.alloc _).drew) hl).mono ?_
  rintro e w' ⟨rfl, v', h1, hc, hfr⟩
  have hb : blk w' w.heap.size #[.pointer (some ⟨N, 0, none⟩), .int .i64 tg] 87 :=
    ((blk_new w _ 87).drew).chg hc (fun e => by rcases e with e | e; omega; have := H.out.ne_new _ e; omega)
  refine hK _ _ ⟨fun _ => ⟨hb.cell 0 rfl, hb.cell 1 rfl⟩, ?_⟩
  refine wpTill_done (by kernel_rfl) ?_ _
  go_end0
  exact ⟨rfl, Noted.back (w1 := (w.alloc (.cells #[.pointer (some ⟨N, 0, none⟩), .int .i64 tg] 87)).drew) ⟨v', h1, hc, hfr⟩ ((chg_alloc _ _).drew)⟩
end Go.Proofs.YtkhicabfmkldpaaDoor
