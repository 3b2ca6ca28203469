/-
  FnVMValues: a value is made of bytes; what is written of it.
  FnVMValues: a value is made.
-/
import Derived.Test.YtkhicabfmkldpaaDoorVal4
set_option linter.unusedSimpArgs false
set_option linter.unusedVariables false
namespace Go.Proofs.YtkhicabfmkldpaaDoor
open Go Go.RowKit

theorem chg_cell2 {w w' : World} {b o : Nat} {v : Value} (hc : Chg (fun _ => False) w w') (h : w.cell? ⟨b, o, none⟩ = some v) : w'.cell? ⟨b, o, none⟩ = some v :=
  (cell_of (hc.block b (World.block_lt_of_cell? _ _ h) (fun e => e)) o).trans h

theorem strOf_list (T : ByteArray) : strOf T.data.toList = T := by
  unfold strOf
  simp

def dat (n f : Int) (s : ByteArray) : Value := .agg #[.int .i64 n, .int .u64 f, .string s, .slice none 0 0, .slice none 0 0]
def DatAt (w : World) (b : Nat) (n f : Int) (s : ByteArray) : Prop := blk w b #[.int .i64 n, .int .u64 f, .string s, .slice none 0 0, .slice none 0 0] 60

theorem dat_set {w : World} {b : Nat} {n0 f0 : Int} {s0 : ByteArray} (n f : Int) (s : ByteArray) (h : DatAt w b n0 f0 s0) : DatAt (((((w.setCell ⟨b, 0, none⟩ (.int .i64 n)).setCell ⟨b, 1, none⟩ (.int .u64 f)).setCell ⟨b, 2, none⟩ (.string s)).setCell ⟨b, 3, none⟩ (.slice none 0 0)).setCell ⟨b, 4, none⟩ (.slice none 0 0)) b n f s ∧ Chg (fun x => x = b) w (((((w.setCell ⟨b, 0, none⟩ (.int .i64 n)).setCell ⟨b, 1, none⟩ (.int .u64 f)).setCell ⟨b, 2, none⟩ (.string s)).setCell ⟨b, 3, none⟩ (.slice none 0 0)).setCell ⟨b, 4, none⟩ (.slice none 0 0)) := by
  unfold DatAt at h ⊢
  refine ⟨?_, ((((((Chg.refl (fun x => x = b) w).setCell (p := ⟨b, 0, none⟩) (fun _ => rfl) (.int .i64 n)).setCell (p := ⟨b, 1, none⟩) (fun _ => rfl) (.int .u64 f)).setCell (p := ⟨b, 2, none⟩) (fun _ => rfl) (.string s)).setCell (p := ⟨b, 3, none⟩) (fun _ => rfl) (.slice none 0 0)).setCell (p := ⟨b, 4, none⟩) (fun _ => rfl) (.slice none 0 0))⟩
  have h1 := (((((h.set 0 (.int .i64 n)).set 1 (.int .u64 f)).set 2 (.string s)).set 3 (.slice none 0 0)).set 4 (.slice none 0 0))
  simpa using h1

theorem row_set {w : World} {b t : Nat} {old : Array Value} (cs : Array Value) (h : blk w b old t) : blk (w.setRow b cs) b cs t ∧ Chg (fun x => x = b) w (w.setRow b cs) := by
  refine ⟨setRow_heap w b old cs t _ h, ⟨rfl, rfl, rfl, by simp, fun k _ hk => setRow_other w b k _ (fun e => hk e)⟩⟩

theorem MkAt.chg {w w' : World} {S : Nat → Prop} {B M : Nat} {cv : Value} {left : Int} {code : List UInt8} (h : MkAt w B M cv left code) (hc : Chg S w w') (hS : ∀ k, k < w.heap.size → S k → B ≤ k ∧ k ≠ M) : MkAt w' B M cv left code := by
  have hl := h.m.lt
  refine ⟨h.m.chg hc (fun e => (hS M hl e).2 rfl), ?_, h.old, h.le⟩
  rcases h.code with hx | ⟨b, off, cap, rfl, h1, h2, h3⟩
  · exact .inl hx
  · refine .inr ⟨b, off, cap, rfl, h1, h2, fun i hi => ?_⟩
    have h4 := h3 i hi
    have hb := World.block_lt_of_cell? w _ h4
    rw [cell_of (hc.block b hb (fun e => by have := (hS b hb e).1; have := h.old b rfl; omega))]
    exact h4

theorem MkAt.down {w : World} {B M : Nat} {cv : Value} {left : Int} {code : List UInt8} (h : MkAt w B M cv left code) (left' : Int) : MkAt (w.setCell ⟨M, 1, none⟩ (.int .i64 left')) B M cv left' code := by
  have hC : Chg (fun k => k = M) w (w.setCell ⟨M, 1, none⟩ (.int .i64 left')) := (Chg.refl (fun k => k = M) w).setCell (fun _ => rfl) _
  exact ⟨h.m.set 1 _, h.code.chg hC (fun _ b hb e => by have := h.old b hb; have := h.le; omega), h.old, h.le⟩

set_option maxHeartbeats 2000000 in
set_option maxRecDepth 100000 in
theorem datum_1 (B M : Nat) (cv : Value) (left : Int) (code : List UInt8) (w : World) (h : MkAt w B M cv left code) (hB : B ≤ w.heap.size) (hl : code.length ≤ 1000000) (hlf : 0 ≤ left ∧ left ≤ 100) :
    Calls Tryd.prog 31 #[.pointer (some ⟨M, 0, none⟩), .slice none 0 0, sch 1] w fun e w' => ∃ d : PV, d.Of 1 ∧ e = .returned (dat d.n d.f (strOf d.s)) ∧ Chg (fun k => k = M) w w' := by
  have H := hid h
  have m1 := h.m.cell 1 (v := .int .i64 left) rfl
  have f1 := h.m.free 1
  have lM := h.m.lt
  clear h
  unfold sch
  go_enter Tryd.func31, Tryd.ntmps31
  go_wp2_with (go_at_call 47; fail)
  refine (find_none 1 _).mono ?_
  rintro e w4 ⟨rfl, c4⟩
  have hS : SchAt w4 w.heap.size 1 := by
    refine blk.chg ?_ c4 (fun e => e)
    exact (blk_new' (by simp) _ 56).alloc _
  have hR : DatAt w4 (w.heap.size + 1) 0 0 ⟨#[]⟩ := by
    refine blk.chg ?_ c4 (fun e => e)
    exact blk_new' (by simp) _ 60
  have hM := hid (show MkAt w4 B M cv (left - 1) code from MkAt.chg (((H.out.down (left - 1)).alloc _).alloc _) c4 (fun _ _ e => False.elim e))
  have hC := hid (show Chg (fun x => x = M) w w4 from Chg.trans ((((Chg.refl (fun x => x = M) w).setCell (p := ⟨M, 1, none⟩) (fun _ => rfl) _).alloc _).alloc _) c4 (fun _ _ e => False.elim e))
  have HS := hid hS
  have HR := hid hR
  have s4 := hC.out.size
  have s5 := hR.lt
  clear m1 f1 c4 hS hR
  unfold sch
  go_wp2_with ((refine wpList_store_row rfl 56 (.tmp 5) (.tmp 20) rfl w.heap.size #[.int .i64 1, .string ⟨#[]⟩, .string ⟨#[]⟩, .slice none 0 0, .slice none 0 0, .slice none 0 0, .string ⟨#[]⟩, .int .i64 0, .slice none 0 0] rfl rfl 56 #[.int .i64 1, .string ⟨#[]⟩, .string ⟨#[]⟩, .slice none 0 0, .slice none 0 0, .slice none 0 0, .string ⟨#[]⟩, .int .i64 0, .slice none 0 0] HS.out (by kernel_rfl) rfl (by simp [Value.oneCell']) ?_; obtain ⟨t1, t2⟩ := row_set #[.int .i64 1, .string ⟨#[]⟩, .string ⟨#[]⟩, .slice none 0 0, .slice none 0 0, .slice none 0 0, .string ⟨#[]⟩, .int .i64 0, .slice none 0 0] HS.out; obtain ⟨w5, hw5⟩ : ∃ w5, w4.setRow w.heap.size #[.int .i64 1, .string ⟨#[]⟩, .string ⟨#[]⟩, .slice none 0 0, .slice none 0 0, .slice none 0 0, .string ⟨#[]⟩, .int .i64 0, .slice none 0 0] = w5 := ⟨_, rfl⟩; rw [hw5] at t1 t2 ⊢; have p0 := t1.cell 0 (v := .int .i64 1) rfl; have T2 := hid t2; have l5 := t2.size; (have l7 : w.heap.size < w5.heap.size := by omega); (have l8 : w.heap.size + 1 < w5.heap.size := by omega); clear hw5 t1 t2))
  refine (vbyte_any B M cv (left - 1) code _ ((hM.out.chg T2.out (fun k hk e => ⟨by omega, by omega⟩)).alloc _) hl).mono ?_
  rintro e w7 ⟨x, hx, rfl, cv7, code7, q1, q2, q3⟩
  have hD : DatAt w7 w5.heap.size 0 0 ⟨#[]⟩ := blk.chg (blk_new w5 _ 60) q3 (by omega)
  have hR7 : DatAt w7 (w.heap.size + 1) 0 0 ⟨#[]⟩ := blk.chg (blk.alloc (blk.chg HR.out T2.out (by omega)) _) q3 (by omega)
  have dc0 := hD.cell 0 (v := .int .i64 0) rfl
  have dc1 := hD.cell 1 (v := .int .u64 0) rfl
  have dc2 := hD.cell 2 (v := .string ⟨#[]⟩) rfl
  have dc3 := hD.cell 3 (v := .slice none 0 0) rfl
  have dc4 := hD.cell 4 (v := .slice none 0 0) rfl
  have df := hD.free 0
  have HR8 := hid (show blk (w7.setCell ⟨w5.heap.size, 0, none⟩ (.int .i64 ((x : Int) % 2))) (w.heap.size + 1) #[.int .i64 0, .int .u64 0, .string ⟨#[]⟩, .slice none 0 0, .slice none 0 0] 60 from blk.set_other (p := ⟨w5.heap.size, 0, none⟩) hR7 (by show w.heap.size + 1 ≠ w5.heap.size; omega) _)
  have Q3 := hid q3
  clear hD hR7 q1 q2 q3 p0
  go_wp2_with (refine wpList_store_row rfl 60 (.tmp 6) (.tmp 169) rfl (w.heap.size + 1) #[.int .i64 ((x : Int) % 2), .int .u64 0, .string ⟨#[]⟩, .slice none 0 0, .slice none 0 0] rfl rfl 60 #[.int .i64 0, .int .u64 0, .string ⟨#[]⟩, .slice none 0 0, .slice none 0 0] HR8.out (by kernel_rfl) rfl (by simp [Value.oneCell']) ?_; obtain ⟨t1, t2⟩ := row_set #[.int .i64 ((x : Int) % 2), .int .u64 0, .string ⟨#[]⟩, .slice none 0 0, .slice none 0 0] HR8.out; obtain ⟨w8, hw8⟩ : ∃ w8, (w7.setCell ⟨w5.heap.size, 0, none⟩ (.int .i64 ((x : Int) % 2))).setRow (w.heap.size + 1) #[.int .i64 ((x : Int) % 2), .int .u64 0, .string ⟨#[]⟩, .slice none 0 0, .slice none 0 0] = w8 := ⟨_, rfl⟩; rw [hw8] at t1 t2 ⊢; have T8 := hid t1; have C8 := hid t2; clear hw8 t1 t2)
  (try simp only [Exit.inBlock, Exit.then])
  refine bodyPost_ret (results_cell_row rfl _ _ (w.heap.size + 1) 60 #[.int .i64 ((x : Int) % 2), .int .u64 0, .string ⟨#[]⟩, .slice none 0 0, .slice none 0 0] (0, 0) _ rfl T8.out Tryd.underlying60 rfl (by kernel_rfl)) rfl ?_
  refine ⟨⟨(x : Int) % 2, 0, []⟩, ⟨fun _ => ⟨by show (x : Int) % 2 = 0 ∨ (x : Int) % 2 = 1; omega, rfl, rfl⟩, fun e => absurd e (by decide), fun e => absurd e (by decide), fun e => absurd e (by decide), fun e => absurd e (by decide), fun e => absurd e (by decide), fun e => absurd e (by decide)⟩, rfl, ?_⟩
  have k1 := hC.out.trans T2.out (S := fun x => x = M) (fun i hi e => by omega)
  have k2 := (k1.alloc _).trans Q3.out (fun i hi e => e)
  have k3 := Chg.setCell k2 (p := ⟨w5.heap.size, 0, none⟩) (fun h => absurd h (by show ¬ w5.heap.size < w.heap.size; omega)) (.int .i64 ((x : Int) % 2))
  exact k3.trans C8.out (fun i hi e => by omega)
set_option maxHeartbeats 2000000 in
set_option maxRecDepth 100000 in
theorem datum_2 (B M : Nat) (cv : Value) (left : Int) (code : List UInt8) (w : World) (h : MkAt w B M cv left code) (hB : B ≤ w.heap.size) (hl : code.length ≤ 1000000) (hlf : 0 ≤ left ∧ left ≤ 100) :
    Calls Tryd.prog 31 #[.pointer (some ⟨M, 0, none⟩), .slice none 0 0, sch 2] w fun e w' => ∃ d : PV, d.Of 2 ∧ e = .returned (dat d.n d.f (strOf d.s)) ∧ Chg (fun k => k = M) w w' := by
  have H := hid h
  have m1 := h.m.cell 1 (v := .int .i64 left) rfl
  have f1 := h.m.free 1
  have lM := h.m.lt
  clear h
  unfold sch
  go_enter Tryd.func31, Tryd.ntmps31
  go_wp2_with (go_at_call 47; fail)
  refine (find_none 2 _).mono ?_
  rintro e w4 ⟨rfl, c4⟩
  have hS : SchAt w4 w.heap.size 2 := by
    refine blk.chg ?_ c4 (fun e => e)
    exact (blk_new' (by simp) _ 56).alloc _
  have hR : DatAt w4 (w.heap.size + 1) 0 0 ⟨#[]⟩ := by
    refine blk.chg ?_ c4 (fun e => e)
    exact blk_new' (by simp) _ 60
  have hM := hid (show MkAt w4 B M cv (left - 1) code from MkAt.chg (((H.out.down (left - 1)).alloc _).alloc _) c4 (fun _ _ e => False.elim e))
  have hC := hid (show Chg (fun x => x = M) w w4 from Chg.trans ((((Chg.refl (fun x => x = M) w).setCell (p := ⟨M, 1, none⟩) (fun _ => rfl) _).alloc _).alloc _) c4 (fun _ _ e => False.elim e))
  have HS := hid hS
  have HR := hid hR
  have s4 := hC.out.size
  have s5 := hR.lt
  clear m1 f1 c4 hS hR
  unfold sch
  go_wp2_with ((refine wpList_store_row rfl 56 (.tmp 5) (.tmp 20) rfl w.heap.size #[.int .i64 2, .string ⟨#[]⟩, .string ⟨#[]⟩, .slice none 0 0, .slice none 0 0, .slice none 0 0, .string ⟨#[]⟩, .int .i64 0, .slice none 0 0] rfl rfl 56 #[.int .i64 2, .string ⟨#[]⟩, .string ⟨#[]⟩, .slice none 0 0, .slice none 0 0, .slice none 0 0, .string ⟨#[]⟩, .int .i64 0, .slice none 0 0] HS.out (by kernel_rfl) rfl (by simp [Value.oneCell']) ?_; obtain ⟨t1, t2⟩ := row_set #[.int .i64 2, .string ⟨#[]⟩, .string ⟨#[]⟩, .slice none 0 0, .slice none 0 0, .slice none 0 0, .string ⟨#[]⟩, .int .i64 0, .slice none 0 0] HS.out; obtain ⟨w5, hw5⟩ : ∃ w5, w4.setRow w.heap.size #[.int .i64 2, .string ⟨#[]⟩, .string ⟨#[]⟩, .slice none 0 0, .slice none 0 0, .slice none 0 0, .string ⟨#[]⟩, .int .i64 0, .slice none 0 0] = w5 := ⟨_, rfl⟩; rw [hw5] at t1 t2 ⊢; have p0 := t1.cell 0 (v := .int .i64 2) rfl; have T2 := hid t2; have l5 := t2.size; (have l7 : w.heap.size < w5.heap.size := by omega); (have l8 : w.heap.size + 1 < w5.heap.size := by omega); clear hw5 t1 t2))
  refine (number_32 B M cv (left - 1) code _ ((hM.out.chg T2.out (fun k hk e => ⟨by omega, by omega⟩)).alloc _) hl).mono ?_
  rintro e w7 ⟨z, hz, rfl, cv7, code7, q1, q2, q3⟩
  have hD : DatAt w7 w5.heap.size 0 0 ⟨#[]⟩ := blk.chg (blk_new w5 _ 60) q3 (by omega)
  have hR7 : DatAt w7 (w.heap.size + 1) 0 0 ⟨#[]⟩ := blk.chg (blk.alloc (blk.chg HR.out T2.out (by omega)) _) q3 (by omega)
  have dc0 := hD.cell 0 (v := .int .i64 0) rfl
  have dc1 := hD.cell 1 (v := .int .u64 0) rfl
  have dc2 := hD.cell 2 (v := .string ⟨#[]⟩) rfl
  have dc3 := hD.cell 3 (v := .slice none 0 0) rfl
  have dc4 := hD.cell 4 (v := .slice none 0 0) rfl
  have df := hD.free 0
  have HR8 := hid (show blk (w7.setCell ⟨w5.heap.size, 0, none⟩ (.int .i64 z)) (w.heap.size + 1) #[.int .i64 0, .int .u64 0, .string ⟨#[]⟩, .slice none 0 0, .slice none 0 0] 60 from blk.set_other (p := ⟨w5.heap.size, 0, none⟩) hR7 (by show w.heap.size + 1 ≠ w5.heap.size; omega) _)
  have Q3 := hid q3
  clear hD hR7 q1 q2 q3 p0
  go_wp2_with (refine wpList_store_row rfl 60 (.tmp 6) (.tmp 169) rfl (w.heap.size + 1) #[.int .i64 z, .int .u64 0, .string ⟨#[]⟩, .slice none 0 0, .slice none 0 0] rfl rfl 60 #[.int .i64 0, .int .u64 0, .string ⟨#[]⟩, .slice none 0 0, .slice none 0 0] HR8.out (by kernel_rfl) rfl (by simp [Value.oneCell']) ?_; obtain ⟨t1, t2⟩ := row_set #[.int .i64 z, .int .u64 0, .string ⟨#[]⟩, .slice none 0 0, .slice none 0 0] HR8.out; obtain ⟨w8, hw8⟩ : ∃ w8, (w7.setCell ⟨w5.heap.size, 0, none⟩ (.int .i64 z)).setRow (w.heap.size + 1) #[.int .i64 z, .int .u64 0, .string ⟨#[]⟩, .slice none 0 0, .slice none 0 0] = w8 := ⟨_, rfl⟩; rw [hw8] at t1 t2 ⊢; have T8 := hid t1; have C8 := hid t2; clear hw8 t1 t2)
  (try simp only [Exit.inBlock, Exit.then])
  refine bodyPost_ret (results_cell_row rfl _ _ (w.heap.size + 1) 60 #[.int .i64 z, .int .u64 0, .string ⟨#[]⟩, .slice none 0 0, .slice none 0 0] (0, 0) _ rfl T8.out Tryd.underlying60 rfl (by kernel_rfl)) rfl ?_
  refine ⟨⟨z, 0, []⟩, ⟨fun e => absurd e (by decide), fun _ => ⟨⟨hz.1, by show z ≤ 2147483647; omega⟩, rfl, rfl⟩, fun e => absurd e (by decide), fun e => absurd e (by decide), fun e => absurd e (by decide), fun e => absurd e (by decide), fun e => absurd e (by decide)⟩, rfl, ?_⟩
  have k1 := hC.out.trans T2.out (S := fun x => x = M) (fun i hi e => by omega)
  have k2 := (k1.alloc _).trans Q3.out (fun i hi e => e)
  have k3 := Chg.setCell k2 (p := ⟨w5.heap.size, 0, none⟩) (fun h => absurd h (by show ¬ w5.heap.size < w.heap.size; omega)) (.int .i64 z)
  exact k3.trans C8.out (fun i hi e => by omega)
set_option maxHeartbeats 2000000 in
set_option maxRecDepth 100000 in
theorem datum_3 (B M : Nat) (cv : Value) (left : Int) (code : List UInt8) (w : World) (h : MkAt w B M cv left code) (hB : B ≤ w.heap.size) (hl : code.length ≤ 1000000) (hlf : 0 ≤ left ∧ left ≤ 100) :
    Calls Tryd.prog 31 #[.pointer (some ⟨M, 0, none⟩), .slice none 0 0, sch 3] w fun e w' => ∃ d : PV, d.Of 3 ∧ e = .returned (dat d.n d.f (strOf d.s)) ∧ Chg (fun k => k = M) w w' := by
  have H := hid h
  have m1 := h.m.cell 1 (v := .int .i64 left) rfl
  have f1 := h.m.free 1
  have lM := h.m.lt
  clear h
  unfold sch
  go_enter Tryd.func31, Tryd.ntmps31
  go_wp2_with (go_at_call 47; fail)
  refine (find_none 3 _).mono ?_
  rintro e w4 ⟨rfl, c4⟩
  have hS : SchAt w4 w.heap.size 3 := by
    refine blk.chg ?_ c4 (fun e => e)
    exact (blk_new' (by simp) _ 56).alloc _
  have hR : DatAt w4 (w.heap.size + 1) 0 0 ⟨#[]⟩ := by
    refine blk.chg ?_ c4 (fun e => e)
    exact blk_new' (by simp) _ 60
  have hM := hid (show MkAt w4 B M cv (left - 1) code from MkAt.chg (((H.out.down (left - 1)).alloc _).alloc _) c4 (fun _ _ e => False.elim e))
  have hC := hid (show Chg (fun x => x = M) w w4 from Chg.trans ((((Chg.refl (fun x => x = M) w).setCell (p := ⟨M, 1, none⟩) (fun _ => rfl) _).alloc _).alloc _) c4 (fun _ _ e => False.elim e))
  have HS := hid hS
  have HR := hid hR
  have s4 := hC.out.size
  have s5 := hR.lt
  clear m1 f1 c4 hS hR
  unfold sch
  go_wp2_with ((refine wpList_store_row rfl 56 (.tmp 5) (.tmp 20) rfl w.heap.size #[.int .i64 3, .string ⟨#[]⟩, .string ⟨#[]⟩, .slice none 0 0, .slice none 0 0, .slice none 0 0, .string ⟨#[]⟩, .int .i64 0, .slice none 0 0] rfl rfl 56 #[.int .i64 3, .string ⟨#[]⟩, .string ⟨#[]⟩, .slice none 0 0, .slice none 0 0, .slice none 0 0, .string ⟨#[]⟩, .int .i64 0, .slice none 0 0] HS.out (by kernel_rfl) rfl (by simp [Value.oneCell']) ?_; obtain ⟨t1, t2⟩ := row_set #[.int .i64 3, .string ⟨#[]⟩, .string ⟨#[]⟩, .slice none 0 0, .slice none 0 0, .slice none 0 0, .string ⟨#[]⟩, .int .i64 0, .slice none 0 0] HS.out; obtain ⟨w5, hw5⟩ : ∃ w5, w4.setRow w.heap.size #[.int .i64 3, .string ⟨#[]⟩, .string ⟨#[]⟩, .slice none 0 0, .slice none 0 0, .slice none 0 0, .string ⟨#[]⟩, .int .i64 0, .slice none 0 0] = w5 := ⟨_, rfl⟩; rw [hw5] at t1 t2 ⊢; have p0 := t1.cell 0 (v := .int .i64 3) rfl; have T2 := hid t2; have l5 := t2.size; (have l7 : w.heap.size < w5.heap.size := by omega); (have l8 : w.heap.size + 1 < w5.heap.size := by omega); clear hw5 t1 t2))
  refine (number_64 B M cv (left - 1) code _ ((hM.out.chg T2.out (fun k hk e => ⟨by omega, by omega⟩)).alloc _) hl).mono ?_
  rintro e w7 ⟨z, hz, rfl, cv7, code7, q1, q2, q3⟩
  have hD : DatAt w7 w5.heap.size 0 0 ⟨#[]⟩ := blk.chg (blk_new w5 _ 60) q3 (by omega)
  have hR7 : DatAt w7 (w.heap.size + 1) 0 0 ⟨#[]⟩ := blk.chg (blk.alloc (blk.chg HR.out T2.out (by omega)) _) q3 (by omega)
  have dc0 := hD.cell 0 (v := .int .i64 0) rfl
  have dc1 := hD.cell 1 (v := .int .u64 0) rfl
  have dc2 := hD.cell 2 (v := .string ⟨#[]⟩) rfl
  have dc3 := hD.cell 3 (v := .slice none 0 0) rfl
  have dc4 := hD.cell 4 (v := .slice none 0 0) rfl
  have df := hD.free 0
  have HR8 := hid (show blk (w7.setCell ⟨w5.heap.size, 0, none⟩ (.int .i64 z)) (w.heap.size + 1) #[.int .i64 0, .int .u64 0, .string ⟨#[]⟩, .slice none 0 0, .slice none 0 0] 60 from blk.set_other (p := ⟨w5.heap.size, 0, none⟩) hR7 (by show w.heap.size + 1 ≠ w5.heap.size; omega) _)
  have Q3 := hid q3
  clear hD hR7 q1 q2 q3 p0
  go_wp2_with (refine wpList_store_row rfl 60 (.tmp 6) (.tmp 169) rfl (w.heap.size + 1) #[.int .i64 z, .int .u64 0, .string ⟨#[]⟩, .slice none 0 0, .slice none 0 0] rfl rfl 60 #[.int .i64 0, .int .u64 0, .string ⟨#[]⟩, .slice none 0 0, .slice none 0 0] HR8.out (by kernel_rfl) rfl (by simp [Value.oneCell']) ?_; obtain ⟨t1, t2⟩ := row_set #[.int .i64 z, .int .u64 0, .string ⟨#[]⟩, .slice none 0 0, .slice none 0 0] HR8.out; obtain ⟨w8, hw8⟩ : ∃ w8, (w7.setCell ⟨w5.heap.size, 0, none⟩ (.int .i64 z)).setRow (w.heap.size + 1) #[.int .i64 z, .int .u64 0, .string ⟨#[]⟩, .slice none 0 0, .slice none 0 0] = w8 := ⟨_, rfl⟩; rw [hw8] at t1 t2 ⊢; have T8 := hid t1; have C8 := hid t2; clear hw8 t1 t2)
  (try simp only [Exit.inBlock, Exit.then])
  refine bodyPost_ret (results_cell_row rfl _ _ (w.heap.size + 1) 60 #[.int .i64 z, .int .u64 0, .string ⟨#[]⟩, .slice none 0 0, .slice none 0 0] (0, 0) _ rfl T8.out Tryd.underlying60 rfl (by kernel_rfl)) rfl ?_
  refine ⟨⟨z, 0, []⟩, ⟨fun e => absurd e (by decide), fun e => absurd e (by decide), fun _ => ⟨hz, rfl, rfl⟩, fun e => absurd e (by decide), fun e => absurd e (by decide), fun e => absurd e (by decide), fun e => absurd e (by decide)⟩, rfl, ?_⟩
  have k1 := hC.out.trans T2.out (S := fun x => x = M) (fun i hi e => by omega)
  have k2 := (k1.alloc _).trans Q3.out (fun i hi e => e)
  have k3 := Chg.setCell k2 (p := ⟨w5.heap.size, 0, none⟩) (fun h => absurd h (by show ¬ w5.heap.size < w.heap.size; omega)) (.int .i64 z)
  exact k3.trans C8.out (fun i hi e => by omega)
set_option maxHeartbeats 2000000 in
set_option maxRecDepth 100000 in
theorem datum_4 (B M : Nat) (cv : Value) (left : Int) (code : List UInt8) (w : World) (h : MkAt w B M cv left code) (hB : B ≤ w.heap.size) (hl : code.length ≤ 1000000) (hlf : 0 ≤ left ∧ left ≤ 100) :
    Calls Tryd.prog 31 #[.pointer (some ⟨M, 0, none⟩), .slice none 0 0, sch 4] w fun e w' => ∃ d : PV, d.Of 4 ∧ e = .returned (dat d.n d.f (strOf d.s)) ∧ Chg (fun k => k = M) w w' := by
  have H := hid h
  have m1 := h.m.cell 1 (v := .int .i64 left) rfl
  have f1 := h.m.free 1
  have lM := h.m.lt
  clear h
  unfold sch
  go_enter Tryd.func31, Tryd.ntmps31
  go_wp2_with (go_at_call 47; fail)
  refine (find_none 4 _).mono ?_
  rintro e w4 ⟨rfl, c4⟩
  have hS : SchAt w4 w.heap.size 4 := by
    refine blk.chg ?_ c4 (fun e => e)
    exact (blk_new' (by simp) _ 56).alloc _
  have hR : DatAt w4 (w.heap.size + 1) 0 0 ⟨#[]⟩ := by
    refine blk.chg ?_ c4 (fun e => e)
    exact blk_new' (by simp) _ 60
  have hM := hid (show MkAt w4 B M cv (left - 1) code from MkAt.chg (((H.out.down (left - 1)).alloc _).alloc _) c4 (fun _ _ e => False.elim e))
  have hC := hid (show Chg (fun x => x = M) w w4 from Chg.trans ((((Chg.refl (fun x => x = M) w).setCell (p := ⟨M, 1, none⟩) (fun _ => rfl) _).alloc _).alloc _) c4 (fun _ _ e => False.elim e))
  have HS := hid hS
  have HR := hid hR
  have s4 := hC.out.size
  have s5 := hR.lt
  clear m1 f1 c4 hS hR
  unfold sch
  go_wp2_with ((refine wpList_store_row rfl 56 (.tmp 5) (.tmp 20) rfl w.heap.size #[.int .i64 4, .string ⟨#[]⟩, .string ⟨#[]⟩, .slice none 0 0, .slice none 0 0, .slice none 0 0, .string ⟨#[]⟩, .int .i64 0, .slice none 0 0] rfl rfl 56 #[.int .i64 4, .string ⟨#[]⟩, .string ⟨#[]⟩, .slice none 0 0, .slice none 0 0, .slice none 0 0, .string ⟨#[]⟩, .int .i64 0, .slice none 0 0] HS.out (by kernel_rfl) rfl (by simp [Value.oneCell']) ?_; obtain ⟨t1, t2⟩ := row_set #[.int .i64 4, .string ⟨#[]⟩, .string ⟨#[]⟩, .slice none 0 0, .slice none 0 0, .slice none 0 0, .string ⟨#[]⟩, .int .i64 0, .slice none 0 0] HS.out; obtain ⟨w5, hw5⟩ : ∃ w5, w4.setRow w.heap.size #[.int .i64 4, .string ⟨#[]⟩, .string ⟨#[]⟩, .slice none 0 0, .slice none 0 0, .slice none 0 0, .string ⟨#[]⟩, .int .i64 0, .slice none 0 0] = w5 := ⟨_, rfl⟩; rw [hw5] at t1 t2 ⊢; have p0 := t1.cell 0 (v := .int .i64 4) rfl; have T2 := hid t2; have l5 := t2.size; (have l7 : w.heap.size < w5.heap.size := by omega); (have l8 : w.heap.size + 1 < w5.heap.size := by omega); clear hw5 t1 t2))
  refine (number_32 B M cv (left - 1) code _ ((hM.out.chg T2.out (fun k hk e => ⟨by omega, by omega⟩)).alloc _) hl).mono ?_
  rintro e w7 ⟨z, hz, rfl, cv7, code7, q1, q2, q3⟩
  have hD : DatAt w7 w5.heap.size 0 0 ⟨#[]⟩ := blk.chg (blk_new w5 _ 60) q3 (by omega)
  have hR7 : DatAt w7 (w.heap.size + 1) 0 0 ⟨#[]⟩ := blk.chg (blk.alloc (blk.chg HR.out T2.out (by omega)) _) q3 (by omega)
  have dc0 := hD.cell 0 (v := .int .i64 0) rfl
  have dc1 := hD.cell 1 (v := .int .u64 0) rfl
  have dc2 := hD.cell 2 (v := .string ⟨#[]⟩) rfl
  have dc3 := hD.cell 3 (v := .slice none 0 0) rfl
  have dc4 := hD.cell 4 (v := .slice none 0 0) rfl
  have df := hD.free 1
  have HR8 := hid (show blk (w7.setCell ⟨w5.heap.size, 1, none⟩ (.int .u64 (z % 4294967296))) (w.heap.size + 1) #[.int .i64 0, .int .u64 0, .string ⟨#[]⟩, .slice none 0 0, .slice none 0 0] 60 from blk.set_other (p := ⟨w5.heap.size, 1, none⟩) hR7 (by show w.heap.size + 1 ≠ w5.heap.size; omega) _)
  have Q3 := hid q3
  clear hD hR7 q1 q2 q3 p0
  have hzu : IntKind.u32.wrap z = z % 4294967296 := IntKind.wrap_u32 z
  go_wp2_with (refine wpList_store_row rfl 60 (.tmp 6) (.tmp 169) rfl (w.heap.size + 1) #[.int .i64 0, .int .u64 (z % 4294967296), .string ⟨#[]⟩, .slice none 0 0, .slice none 0 0] rfl rfl 60 #[.int .i64 0, .int .u64 0, .string ⟨#[]⟩, .slice none 0 0, .slice none 0 0] HR8.out (by kernel_rfl) rfl (by simp [Value.oneCell']) ?_; obtain ⟨t1, t2⟩ := row_set #[.int .i64 0, .int .u64 (z % 4294967296), .string ⟨#[]⟩, .slice none 0 0, .slice none 0 0] HR8.out; obtain ⟨w8, hw8⟩ : ∃ w8, (w7.setCell ⟨w5.heap.size, 1, none⟩ (.int .u64 (z % 4294967296))).setRow (w.heap.size + 1) #[.int .i64 0, .int .u64 (z % 4294967296), .string ⟨#[]⟩, .slice none 0 0, .slice none 0 0] = w8 := ⟨_, rfl⟩; rw [hw8] at t1 t2 ⊢; have T8 := hid t1; have C8 := hid t2; clear hw8 t1 t2)
  (try simp only [Exit.inBlock, Exit.then])
  refine bodyPost_ret (results_cell_row rfl _ _ (w.heap.size + 1) 60 #[.int .i64 0, .int .u64 (z % 4294967296), .string ⟨#[]⟩, .slice none 0 0, .slice none 0 0] (0, 0) _ rfl T8.out Tryd.underlying60 rfl (by kernel_rfl)) rfl ?_
  refine ⟨⟨0, (z % 4294967296).toNat, []⟩, ⟨fun e => absurd e (by decide), fun e => absurd e (by decide), fun e => absurd e (by decide), fun _ => ⟨rfl, by show (z % 4294967296).toNat < 4294967296; omega, rfl⟩, fun e => absurd e (by decide), fun e => absurd e (by decide), fun e => absurd e (by decide)⟩, by show _ = Ending.returned (dat 0 ((z % 4294967296).toNat : Int) _); rw [Int.toNat_of_nonneg (by omega)]; rfl, ?_⟩
  have k1 := hC.out.trans T2.out (S := fun x => x = M) (fun i hi e => by omega)
  have k2 := (k1.alloc _).trans Q3.out (fun i hi e => e)
  have k3 := Chg.setCell k2 (p := ⟨w5.heap.size, 1, none⟩) (fun h => absurd h (by show ¬ w5.heap.size < w.heap.size; omega)) (.int .u64 (z % 4294967296))
  exact k3.trans C8.out (fun i hi e => by omega)
set_option maxHeartbeats 2000000 in
set_option maxRecDepth 100000 in
theorem datum_5 (B M : Nat) (cv : Value) (left : Int) (code : List UInt8) (w : World) (h : MkAt w B M cv left code) (hB : B ≤ w.heap.size) (hl : code.length ≤ 1000000) (hlf : 0 ≤ left ∧ left ≤ 100) :
    Calls Tryd.prog 31 #[.pointer (some ⟨M, 0, none⟩), .slice none 0 0, sch 5] w fun e w' => ∃ d : PV, d.Of 5 ∧ e = .returned (dat d.n d.f (strOf d.s)) ∧ Chg (fun k => k = M) w w' := by
  have H := hid h
  have m1 := h.m.cell 1 (v := .int .i64 left) rfl
  have f1 := h.m.free 1
  have lM := h.m.lt
  clear h
  unfold sch
  go_enter Tryd.func31, Tryd.ntmps31
  go_wp2_with (go_at_call 47; fail)
  refine (find_none 5 _).mono ?_
  rintro e w4 ⟨rfl, c4⟩
  have hS : SchAt w4 w.heap.size 5 := by
    refine blk.chg ?_ c4 (fun e => e)
    exact (blk_new' (by simp) _ 56).alloc _
  have hR : DatAt w4 (w.heap.size + 1) 0 0 ⟨#[]⟩ := by
    refine blk.chg ?_ c4 (fun e => e)
    exact blk_new' (by simp) _ 60
  have hM := hid (show MkAt w4 B M cv (left - 1) code from MkAt.chg (((H.out.down (left - 1)).alloc _).alloc _) c4 (fun _ _ e => False.elim e))
  have hC := hid (show Chg (fun x => x = M) w w4 from Chg.trans ((((Chg.refl (fun x => x = M) w).setCell (p := ⟨M, 1, none⟩) (fun _ => rfl) _).alloc _).alloc _) c4 (fun _ _ e => False.elim e))
  have HS := hid hS
  have HR := hid hR
  have s4 := hC.out.size
  have s5 := hR.lt
  clear m1 f1 c4 hS hR
  unfold sch
  go_wp2_with ((refine wpList_store_row rfl 56 (.tmp 5) (.tmp 20) rfl w.heap.size #[.int .i64 5, .string ⟨#[]⟩, .string ⟨#[]⟩, .slice none 0 0, .slice none 0 0, .slice none 0 0, .string ⟨#[]⟩, .int .i64 0, .slice none 0 0] rfl rfl 56 #[.int .i64 5, .string ⟨#[]⟩, .string ⟨#[]⟩, .slice none 0 0, .slice none 0 0, .slice none 0 0, .string ⟨#[]⟩, .int .i64 0, .slice none 0 0] HS.out (by kernel_rfl) rfl (by simp [Value.oneCell']) ?_; obtain ⟨t1, t2⟩ := row_set #[.int .i64 5, .string ⟨#[]⟩, .string ⟨#[]⟩, .slice none 0 0, .slice none 0 0, .slice none 0 0, .string ⟨#[]⟩, .int .i64 0, .slice none 0 0] HS.out; obtain ⟨w5, hw5⟩ : ∃ w5, w4.setRow w.heap.size #[.int .i64 5, .string ⟨#[]⟩, .string ⟨#[]⟩, .slice none 0 0, .slice none 0 0, .slice none 0 0, .string ⟨#[]⟩, .int .i64 0, .slice none 0 0] = w5 := ⟨_, rfl⟩; rw [hw5] at t1 t2 ⊢; have p0 := t1.cell 0 (v := .int .i64 5) rfl; have T2 := hid t2; have l5 := t2.size; (have l7 : w.heap.size < w5.heap.size := by omega); (have l8 : w.heap.size + 1 < w5.heap.size := by omega); clear hw5 t1 t2))
  refine (number_64 B M cv (left - 1) code _ ((hM.out.chg T2.out (fun k hk e => ⟨by omega, by omega⟩)).alloc _) hl).mono ?_
  rintro e w7 ⟨z, hz, rfl, cv7, code7, q1, q2, q3⟩
  have hD : DatAt w7 w5.heap.size 0 0 ⟨#[]⟩ := blk.chg (blk_new w5 _ 60) q3 (by omega)
  have hR7 : DatAt w7 (w.heap.size + 1) 0 0 ⟨#[]⟩ := blk.chg (blk.alloc (blk.chg HR.out T2.out (by omega)) _) q3 (by omega)
  have dc0 := hD.cell 0 (v := .int .i64 0) rfl
  have dc1 := hD.cell 1 (v := .int .u64 0) rfl
  have dc2 := hD.cell 2 (v := .string ⟨#[]⟩) rfl
  have dc3 := hD.cell 3 (v := .slice none 0 0) rfl
  have dc4 := hD.cell 4 (v := .slice none 0 0) rfl
  have df := hD.free 1
  have HR8 := hid (show blk (w7.setCell ⟨w5.heap.size, 1, none⟩ (.int .u64 (z % 18446744073709551616))) (w.heap.size + 1) #[.int .i64 0, .int .u64 0, .string ⟨#[]⟩, .slice none 0 0, .slice none 0 0] 60 from blk.set_other (p := ⟨w5.heap.size, 1, none⟩) hR7 (by show w.heap.size + 1 ≠ w5.heap.size; omega) _)
  have Q3 := hid q3
  clear hD hR7 q1 q2 q3 p0
  have hzu : IntKind.u64.wrap z = z % 18446744073709551616 := IntKind.wrap_u64 z
  go_wp2_with (refine wpList_store_row rfl 60 (.tmp 6) (.tmp 169) rfl (w.heap.size + 1) #[.int .i64 0, .int .u64 (z % 18446744073709551616), .string ⟨#[]⟩, .slice none 0 0, .slice none 0 0] rfl rfl 60 #[.int .i64 0, .int .u64 0, .string ⟨#[]⟩, .slice none 0 0, .slice none 0 0] HR8.out (by kernel_rfl) rfl (by simp [Value.oneCell']) ?_; obtain ⟨t1, t2⟩ := row_set #[.int .i64 0, .int .u64 (z % 18446744073709551616), .string ⟨#[]⟩, .slice none 0 0, .slice none 0 0] HR8.out; obtain ⟨w8, hw8⟩ : ∃ w8, (w7.setCell ⟨w5.heap.size, 1, none⟩ (.int .u64 (z % 18446744073709551616))).setRow (w.heap.size + 1) #[.int .i64 0, .int .u64 (z % 18446744073709551616), .string ⟨#[]⟩, .slice none 0 0, .slice none 0 0] = w8 := ⟨_, rfl⟩; rw [hw8] at t1 t2 ⊢; have T8 := hid t1; have C8 := hid t2; clear hw8 t1 t2)
  (try simp only [Exit.inBlock, Exit.then])
  refine bodyPost_ret (results_cell_row rfl _ _ (w.heap.size + 1) 60 #[.int .i64 0, .int .u64 (z % 18446744073709551616), .string ⟨#[]⟩, .slice none 0 0, .slice none 0 0] (0, 0) _ rfl T8.out Tryd.underlying60 rfl (by kernel_rfl)) rfl ?_
  refine ⟨⟨0, (z % 18446744073709551616).toNat, []⟩, ⟨fun e => absurd e (by decide), fun e => absurd e (by decide), fun e => absurd e (by decide), fun e => absurd e (by decide), fun _ => ⟨rfl, by show (z % 18446744073709551616).toNat < 18446744073709551616; omega, rfl⟩, fun e => absurd e (by decide), fun e => absurd e (by decide)⟩, by show _ = Ending.returned (dat 0 ((z % 18446744073709551616).toNat : Int) _); rw [Int.toNat_of_nonneg (by omega)]; rfl, ?_⟩
  have k1 := hC.out.trans T2.out (S := fun x => x = M) (fun i hi e => by omega)
  have k2 := (k1.alloc _).trans Q3.out (fun i hi e => e)
  have k3 := Chg.setCell k2 (p := ⟨w5.heap.size, 1, none⟩) (fun h => absurd h (by show ¬ w5.heap.size < w.heap.size; omega)) (.int .u64 (z % 18446744073709551616))
  exact k3.trans C8.out (fun i hi e => by omega)
set_option maxHeartbeats 2000000 in
set_option maxRecDepth 100000 in
theorem datum_6 (B M : Nat) (cv : Value) (left : Int) (code : List UInt8) (w : World) (h : MkAt w B M cv left code) (hB : B ≤ w.heap.size) (hl : code.length ≤ 1000000) (hlf : 0 ≤ left ∧ left ≤ 100) :
    Calls Tryd.prog 31 #[.pointer (some ⟨M, 0, none⟩), .slice none 0 0, sch 6] w fun e w' => ∃ d : PV, d.Of 6 ∧ e = .returned (dat d.n d.f (strOf d.s)) ∧ Chg (fun k => k = M) w w' := by
  have H := hid h
  have m1 := h.m.cell 1 (v := .int .i64 left) rfl
  have f1 := h.m.free 1
  have lM := h.m.lt
  clear h
  unfold sch
  go_enter Tryd.func31, Tryd.ntmps31
  go_wp2_with (go_at_call 47; fail)
  refine (find_none 6 _).mono ?_
  rintro e w4 ⟨rfl, c4⟩
  have hS : SchAt w4 w.heap.size 6 := by
    refine blk.chg ?_ c4 (fun e => e)
    exact (blk_new' (by simp) _ 56).alloc _
  have hR : DatAt w4 (w.heap.size + 1) 0 0 ⟨#[]⟩ := by
    refine blk.chg ?_ c4 (fun e => e)
    exact blk_new' (by simp) _ 60
  have hM := hid (show MkAt w4 B M cv (left - 1) code from MkAt.chg (((H.out.down (left - 1)).alloc _).alloc _) c4 (fun _ _ e => False.elim e))
  have hC := hid (show Chg (fun x => x = M) w w4 from Chg.trans ((((Chg.refl (fun x => x = M) w).setCell (p := ⟨M, 1, none⟩) (fun _ => rfl) _).alloc _).alloc _) c4 (fun _ _ e => False.elim e))
  have HS := hid hS
  have HR := hid hR
  have s4 := hC.out.size
  have s5 := hR.lt
  clear m1 f1 c4 hS hR
  unfold sch
  go_wp2_with ((refine wpList_store_row rfl 56 (.tmp 5) (.tmp 20) rfl w.heap.size #[.int .i64 6, .string ⟨#[]⟩, .string ⟨#[]⟩, .slice none 0 0, .slice none 0 0, .slice none 0 0, .string ⟨#[]⟩, .int .i64 0, .slice none 0 0] rfl rfl 56 #[.int .i64 6, .string ⟨#[]⟩, .string ⟨#[]⟩, .slice none 0 0, .slice none 0 0, .slice none 0 0, .string ⟨#[]⟩, .int .i64 0, .slice none 0 0] HS.out (by kernel_rfl) rfl (by simp [Value.oneCell']) ?_; obtain ⟨t1, t2⟩ := row_set #[.int .i64 6, .string ⟨#[]⟩, .string ⟨#[]⟩, .slice none 0 0, .slice none 0 0, .slice none 0 0, .string ⟨#[]⟩, .int .i64 0, .slice none 0 0] HS.out; obtain ⟨w5, hw5⟩ : ∃ w5, w4.setRow w.heap.size #[.int .i64 6, .string ⟨#[]⟩, .string ⟨#[]⟩, .slice none 0 0, .slice none 0 0, .slice none 0 0, .string ⟨#[]⟩, .int .i64 0, .slice none 0 0] = w5 := ⟨_, rfl⟩; rw [hw5] at t1 t2 ⊢; have p0 := t1.cell 0 (v := .int .i64 6) rfl; have T2 := hid t2; have l5 := t2.size; (have l7 : w.heap.size < w5.heap.size := by omega); (have l8 : w.heap.size + 1 < w5.heap.size := by omega); clear hw5 t1 t2))
  refine (word_any B M cv (left - 1) code _ ((hM.out.chg T2.out (fun k hk e => ⟨by omega, by omega⟩)).alloc _) hl).mono ?_
  rintro e w7 ⟨T, hT, rfl, cv7, code7, q1, q2, q3⟩
  have hD : DatAt w7 w5.heap.size 0 0 ⟨#[]⟩ := blk.chg (blk_new w5 _ 60) q3 (by omega)
  have hR7 : DatAt w7 (w.heap.size + 1) 0 0 ⟨#[]⟩ := blk.chg (blk.alloc (blk.chg HR.out T2.out (by omega)) _) q3 (by omega)
  have dc0 := hD.cell 0 (v := .int .i64 0) rfl
  have dc1 := hD.cell 1 (v := .int .u64 0) rfl
  have dc2 := hD.cell 2 (v := .string ⟨#[]⟩) rfl
  have dc3 := hD.cell 3 (v := .slice none 0 0) rfl
  have dc4 := hD.cell 4 (v := .slice none 0 0) rfl
  have df := hD.free 2
  have HR8 := hid (show blk (w7.setCell ⟨w5.heap.size, 2, none⟩ (.string T)) (w.heap.size + 1) #[.int .i64 0, .int .u64 0, .string ⟨#[]⟩, .slice none 0 0, .slice none 0 0] 60 from blk.set_other (p := ⟨w5.heap.size, 2, none⟩) hR7 (by show w.heap.size + 1 ≠ w5.heap.size; omega) _)
  have Q3 := hid q3
  clear hD hR7 q1 q2 q3 p0
  go_wp2_with (refine wpList_store_row rfl 60 (.tmp 6) (.tmp 169) rfl (w.heap.size + 1) #[.int .i64 0, .int .u64 0, .string T, .slice none 0 0, .slice none 0 0] rfl rfl 60 #[.int .i64 0, .int .u64 0, .string ⟨#[]⟩, .slice none 0 0, .slice none 0 0] HR8.out (by kernel_rfl) rfl (by simp [Value.oneCell']) ?_; obtain ⟨t1, t2⟩ := row_set #[.int .i64 0, .int .u64 0, .string T, .slice none 0 0, .slice none 0 0] HR8.out; obtain ⟨w8, hw8⟩ : ∃ w8, (w7.setCell ⟨w5.heap.size, 2, none⟩ (.string T)).setRow (w.heap.size + 1) #[.int .i64 0, .int .u64 0, .string T, .slice none 0 0, .slice none 0 0] = w8 := ⟨_, rfl⟩; rw [hw8] at t1 t2 ⊢; have T8 := hid t1; have C8 := hid t2; clear hw8 t1 t2)
  (try simp only [Exit.inBlock, Exit.then])
  refine bodyPost_ret (results_cell_row rfl _ _ (w.heap.size + 1) 60 #[.int .i64 0, .int .u64 0, .string T, .slice none 0 0, .slice none 0 0] (0, 0) _ rfl T8.out Tryd.underlying60 rfl (by kernel_rfl)) rfl ?_
  refine ⟨⟨0, 0, T.data.toList⟩, ⟨fun e => absurd e (by decide), fun e => absurd e (by decide), fun e => absurd e (by decide), fun e => absurd e (by decide), fun e => absurd e (by decide), fun _ => ⟨rfl, rfl, by show T.data.toList.length ≤ 8; simpa using hT⟩, fun e => absurd e (by decide)⟩, by show _ = Ending.returned (dat 0 0 (strOf T.data.toList)); rw [strOf_list]; rfl, ?_⟩
  have k1 := hC.out.trans T2.out (S := fun x => x = M) (fun i hi e => by omega)
  have k2 := (k1.alloc _).trans Q3.out (fun i hi e => e)
  have k3 := Chg.setCell k2 (p := ⟨w5.heap.size, 2, none⟩) (fun h => absurd h (by show ¬ w5.heap.size < w.heap.size; omega)) (.string T)
  exact k3.trans C8.out (fun i hi e => by omega)
set_option maxHeartbeats 2000000 in
set_option maxRecDepth 100000 in
theorem datum_7 (B M : Nat) (cv : Value) (left : Int) (code : List UInt8) (w : World) (h : MkAt w B M cv left code) (hB : B ≤ w.heap.size) (hl : code.length ≤ 1000000) (hlf : 0 ≤ left ∧ left ≤ 100) :
    Calls Tryd.prog 31 #[.pointer (some ⟨M, 0, none⟩), .slice none 0 0, sch 7] w fun e w' => ∃ d : PV, d.Of 7 ∧ e = .returned (dat d.n d.f (strOf d.s)) ∧ Chg (fun k => k = M) w w' := by
  have H := hid h
  have m1 := h.m.cell 1 (v := .int .i64 left) rfl
  have f1 := h.m.free 1
  have lM := h.m.lt
  clear h
  unfold sch
  go_enter Tryd.func31, Tryd.ntmps31
  go_wp2_with (go_at_call 47; fail)
  refine (find_none 7 _).mono ?_
  rintro e w4 ⟨rfl, c4⟩
  have hS : SchAt w4 w.heap.size 7 := by
    refine blk.chg ?_ c4 (fun e => e)
    exact (blk_new' (by simp) _ 56).alloc _
  have hR : DatAt w4 (w.heap.size + 1) 0 0 ⟨#[]⟩ := by
    refine blk.chg ?_ c4 (fun e => e)
    exact blk_new' (by simp) _ 60
  have hM := hid (show MkAt w4 B M cv (left - 1) code from MkAt.chg (((H.out.down (left - 1)).alloc _).alloc _) c4 (fun _ _ e => False.elim e))
  have hC := hid (show Chg (fun x => x = M) w w4 from Chg.trans ((((Chg.refl (fun x => x = M) w).setCell (p := ⟨M, 1, none⟩) (fun _ => rfl) _).alloc _).alloc _) c4 (fun _ _ e => False.elim e))
  have HS := hid hS
  have HR := hid hR
  have s4 := hC.out.size
  have s5 := hR.lt
  clear m1 f1 c4 hS hR
  unfold sch
  go_wp2_with ((refine wpList_store_row rfl 56 (.tmp 5) (.tmp 20) rfl w.heap.size #[.int .i64 7, .string ⟨#[]⟩, .string ⟨#[]⟩, .slice none 0 0, .slice none 0 0, .slice none 0 0, .string ⟨#[]⟩, .int .i64 0, .slice none 0 0] rfl rfl 56 #[.int .i64 7, .string ⟨#[]⟩, .string ⟨#[]⟩, .slice none 0 0, .slice none 0 0, .slice none 0 0, .string ⟨#[]⟩, .int .i64 0, .slice none 0 0] HS.out (by kernel_rfl) rfl (by simp [Value.oneCell']) ?_; obtain ⟨t1, t2⟩ := row_set #[.int .i64 7, .string ⟨#[]⟩, .string ⟨#[]⟩, .slice none 0 0, .slice none 0 0, .slice none 0 0, .string ⟨#[]⟩, .int .i64 0, .slice none 0 0] HS.out; obtain ⟨w5, hw5⟩ : ∃ w5, w4.setRow w.heap.size #[.int .i64 7, .string ⟨#[]⟩, .string ⟨#[]⟩, .slice none 0 0, .slice none 0 0, .slice none 0 0, .string ⟨#[]⟩, .int .i64 0, .slice none 0 0] = w5 := ⟨_, rfl⟩; rw [hw5] at t1 t2 ⊢; have p0 := t1.cell 0 (v := .int .i64 7) rfl; have T2 := hid t2; have l5 := t2.size; (have l7 : w.heap.size < w5.heap.size := by omega); (have l8 : w.heap.size + 1 < w5.heap.size := by omega); clear hw5 t1 t2))
  refine (word_any B M cv (left - 1) code _ ((hM.out.chg T2.out (fun k hk e => ⟨by omega, by omega⟩)).alloc _) hl).mono ?_
  rintro e w7 ⟨T, hT, rfl, cv7, code7, q1, q2, q3⟩
  have hD : DatAt w7 w5.heap.size 0 0 ⟨#[]⟩ := blk.chg (blk_new w5 _ 60) q3 (by omega)
  have hR7 : DatAt w7 (w.heap.size + 1) 0 0 ⟨#[]⟩ := blk.chg (blk.alloc (blk.chg HR.out T2.out (by omega)) _) q3 (by omega)
  have dc0 := hD.cell 0 (v := .int .i64 0) rfl
  have dc1 := hD.cell 1 (v := .int .u64 0) rfl
  have dc2 := hD.cell 2 (v := .string ⟨#[]⟩) rfl
  have dc3 := hD.cell 3 (v := .slice none 0 0) rfl
  have dc4 := hD.cell 4 (v := .slice none 0 0) rfl
  have df := hD.free 2
  have HR8 := hid (show blk (w7.setCell ⟨w5.heap.size, 2, none⟩ (.string T)) (w.heap.size + 1) #[.int .i64 0, .int .u64 0, .string ⟨#[]⟩, .slice none 0 0, .slice none 0 0] 60 from blk.set_other (p := ⟨w5.heap.size, 2, none⟩) hR7 (by show w.heap.size + 1 ≠ w5.heap.size; omega) _)
  have Q3 := hid q3
  clear hD hR7 q1 q2 q3 p0
  go_wp2_with (refine wpList_store_row rfl 60 (.tmp 6) (.tmp 169) rfl (w.heap.size + 1) #[.int .i64 0, .int .u64 0, .string T, .slice none 0 0, .slice none 0 0] rfl rfl 60 #[.int .i64 0, .int .u64 0, .string ⟨#[]⟩, .slice none 0 0, .slice none 0 0] HR8.out (by kernel_rfl) rfl (by simp [Value.oneCell']) ?_; obtain ⟨t1, t2⟩ := row_set #[.int .i64 0, .int .u64 0, .string T, .slice none 0 0, .slice none 0 0] HR8.out; obtain ⟨w8, hw8⟩ : ∃ w8, (w7.setCell ⟨w5.heap.size, 2, none⟩ (.string T)).setRow (w.heap.size + 1) #[.int .i64 0, .int .u64 0, .string T, .slice none 0 0, .slice none 0 0] = w8 := ⟨_, rfl⟩; rw [hw8] at t1 t2 ⊢; have T8 := hid t1; have C8 := hid t2; clear hw8 t1 t2)
  (try simp only [Exit.inBlock, Exit.then])
  refine bodyPost_ret (results_cell_row rfl _ _ (w.heap.size + 1) 60 #[.int .i64 0, .int .u64 0, .string T, .slice none 0 0, .slice none 0 0] (0, 0) _ rfl T8.out Tryd.underlying60 rfl (by kernel_rfl)) rfl ?_
  refine ⟨⟨0, 0, T.data.toList⟩, ⟨fun e => absurd e (by decide), fun e => absurd e (by decide), fun e => absurd e (by decide), fun e => absurd e (by decide), fun e => absurd e (by decide), fun e => absurd e (by decide), fun _ => ⟨rfl, rfl, by show T.data.toList.length ≤ 8; simpa using hT⟩⟩, by show _ = Ending.returned (dat 0 0 (strOf T.data.toList)); rw [strOf_list]; rfl, ?_⟩
  have k1 := hC.out.trans T2.out (S := fun x => x = M) (fun i hi e => by omega)
  have k2 := (k1.alloc _).trans Q3.out (fun i hi e => e)
  have k3 := Chg.setCell k2 (p := ⟨w5.heap.size, 2, none⟩) (fun h => absurd h (by show ¬ w5.heap.size < w.heap.size; omega)) (.string T)
  exact k3.trans C8.out (fun i hi e => by omega)
end Go.Proofs.YtkhicabfmkldpaaDoor

namespace Go.Proofs.YtkhicabfmkldpaaDoor
open Go Go.RowKit

theorem datum_any (k : Nat) (hk : 1 ≤ k ∧ k ≤ 7) (B M : Nat) (cv : Value) (left : Int) (code : List UInt8) (w : World) (h : MkAt w B M cv left code) (hB : B ≤ w.heap.size) (hl : code.length ≤ 1000000) (hlf : 0 ≤ left ∧ left ≤ 100) :
    Calls Tryd.prog 31 #[.pointer (some ⟨M, 0, none⟩), .slice none 0 0, sch k] w fun e w' => ∃ d : PV, d.Of k ∧ e = .returned (dat d.n d.f (strOf d.s)) ∧ Chg (fun k => k = M) w w' := by
  match k, hk with
  | 1, _ => exact datum_1 B M cv left code w h hB hl hlf
  | 2, _ => exact datum_2 B M cv left code w h hB hl hlf
  | 3, _ => exact datum_3 B M cv left code w h hB hl hlf
  | 4, _ => exact datum_4 B M cv left code w h hB hl hlf
  | 5, _ => exact datum_5 B M cv left code w h hB hl hlf
  | 6, _ => exact datum_6 B M cv left code w h hB hl hlf
  | 7, _ => exact datum_7 B M cv left code w h hB hl hlf

set_option maxHeartbeats 2000000 in
set_option maxRecDepth 100000 in
theorem avdatum_any (k : Nat) (hk : 1 ≤ k ∧ k ≤ 7) (a : Option Addr) (c : Nat) (code : List UInt8) (w : World) (hr : RdB w (.slice a code.length c) code) (ho : ∀ b, (Value.slice a code.length c).ownBlock = some b → b < w.heap.size) (hl : code.length ≤ 1000000) :
    Calls Tryd.prog 20 #[sch k, .slice a code.length c] w fun e w' => ∃ d : PV, d.Of k ∧ e = .returned (dat d.n d.f (strOf d.s)) ∧ Chg (fun _ => False) w w' := by
  obtain ⟨n, hn⟩ : ∃ n, code.length = n := ⟨_, rfl⟩
  have Hr := hid hr
  have Ho := hid ho
  rw [hn] at Hr Ho ⊢
  have Hn := hid hn
  clear hr ho hn
  obtain ⟨w3, hw3⟩ : ∃ w3, ((w.alloc (.cells #[.int .i64 (k : Int), .string ⟨#[]⟩, .string ⟨#[]⟩, .slice none 0 0, .slice none 0 0, .slice none 0 0, .string ⟨#[]⟩, .int .i64 0, .slice none 0 0] 56)).alloc (.cells #[.int .i64 0, .int .u64 0, .string ⟨#[]⟩, .slice none 0 0, .slice none 0 0] 60)).alloc (.cells #[.slice a n c, .int .i64 60, .int .i64 0, .bool false, .slice none 0 0] 92) = w3 := ⟨_, rfl⟩
  have hs3 : w3.heap.size = w.heap.size + 3 := by rw [← hw3]; simp
  have hS : SchAt w3 w.heap.size k := by rw [← hw3]; exact ((blk_new w _ 56).alloc _).alloc _
  have hR : DatAt w3 (w.heap.size + 1) 0 0 ⟨#[]⟩ := by rw [← hw3]; exact (blk_new' (by simp) _ 60).alloc _
  have hC : Chg (fun _ => False) w w3 := by rw [← hw3]; exact (((Chg.refl _ w).alloc _).alloc _).alloc _
  have hM : MkAt w3 w.heap.size (w.heap.size + 1 + 1) (.slice a n c) 60 code := ⟨by rw [← hw3]; exact blk_new' (by simp) _ 92, Hr.out.chg hC (fun _ _ _ e => e), Ho.out, by omega⟩
  have HM := hid hM
  have HR := hid hR
  have HC := hid hC
  have Hw3 := hid hw3
  clear hw3 hR hC hM
  unfold sch
  go_enter Tryd.func20, Tryd.ntmps20
  go_wp2
  rw [Hw3.out]
  refine wp_region_till (fun w' => SchAt w' w.heap.size k) 100 (by kernel_rfl) ?_
  have hS' : SchAt w3.drew w.heap.size k := hS
  refine wpTill_reads 3 [0, 1, 3] (by kernel_rfl) ?_ hS' ?_
  · intro c a d v w h; cases d <;> exact h
  iterate 3 (refine wpReads_cons (v := ?_) rfl (yieldsIf_yes rfl fun w' hw => ?_) ?_; rotate_left; (have g0 := blk.cell hw 0 rfl; have g1 := blk.cell hw 1 rfl; have g2 := blk.cell hw 2 rfl; have g3 := blk.cell hw 3 rfl; have g4 := blk.cell hw 4 rfl; have g5 := blk.cell hw 5 rfl; have g6 := blk.cell hw 6 rfl; have g7 := blk.cell hw 7 rfl; have g8 := blk.cell hw 8 rfl; clear hw; first | (go_simp; done) | (go_simp; exact rfl)); simp only [Act.put, List.setIfInBounds_toArray, List.set_cons_zero, List.set_cons_succ, List.getElem_toArray, List.getElem_cons_zero, List.getElem_cons_succ])
  refine wpReads_nil ?_
  simp only [listAll]
  refine wpTill_one (i := 2) (by kernel_rfl) rfl rfl ?_
  intro K hK
  go_step
  refine (types_none (k : Int) (by omega) _).mono ?_
  rintro e w4 ⟨rfl, c4⟩
  have hS4 : SchAt w4 w.heap.size k := blk.chg hS' c4 (fun e => e)
  refine hK _ _ ⟨fun _ => hS4, ?_⟩
  clear hK K
  refine wpTill_one (i := 4) (by kernel_rfl) rfl rfl ?_
  intro K hK
  go_step
  have C34 := hid (show Chg (fun _ => False) w3 w4 from ((Chg.refl (fun _ => False) w3).drew).trans c4 (fun _ _ e => e))
  have s4 := C34.out.size
  refine (datum_any k hk w.heap.size (w.heap.size + 1 + 1) _ 60 code _ (HM.out.chg C34.out (fun _ _ e => False.elim e)) (by omega) hl (by omega)).mono ?_
  rintro e w5 ⟨d, hd, rfl, c5⟩
  have C5 := hid c5
  have HR5 := hid (show DatAt w5 (w.heap.size + 1) 0 0 ⟨#[]⟩ from blk.chg (blk.chg HR.out C34.out (fun e => e)) c5 (by omega))
  refine hK _ _ ⟨fun _ => blk.chg hS4 c5 (by omega), ?_⟩
  have hS5 : SchAt w5 w.heap.size k := blk.chg hS4 c5 (by omega)
  clear hK K c5 hS4 hS' hS
  refine wpTill_one (i := 5) (by kernel_rfl) rfl rfl ?_
  intro K hK
  obtain ⟨t1, t2⟩ := row_set #[.int .i64 d.n, .int .u64 (d.f : Int), .string (strOf d.s), .slice none 0 0, .slice none 0 0] HR5.out
  refine wp_store_row 60 (.tmp 4) (.tmp 13) rfl (w.heap.size + 1) #[.int .i64 d.n, .int .u64 (d.f : Int), .string (strOf d.s), .slice none 0 0, .slice none 0 0] rfl rfl 60 #[.int .i64 0, .int .u64 0, .string ⟨#[]⟩, .slice none 0 0, .slice none 0 0] HR5.out (by kernel_rfl) rfl (by simp [Value.oneCell']) ?_
  refine hK _ _ ⟨fun _ => blk.chg hS5 t2 (by omega), ?_⟩
  clear hK K
  obtain ⟨w8, hw8⟩ : ∃ w8, w5.setRow (w.heap.size + 1) #[.int .i64 d.n, .int .u64 (d.f : Int), .string (strOf d.s), .slice none 0 0, .slice none 0 0] = w8 := ⟨_, rfl⟩
  rw [hw8] at t1 t2 ⊢
  have T8 := hid t1
  have C8 := hid t2
  clear hw8 t1 t2 hS5
  refine wpTill_done (by kernel_rfl) ?_ _
  go_wp2
  (try simp only [Exit.inBlock, Exit.then])
  refine bodyPost_ret (results_cell_row rfl _ _ (w.heap.size + 1) 60 #[.int .i64 d.n, .int .u64 (d.f : Int), .string (strOf d.s), .slice none 0 0, .slice none 0 0] (0, 0) _ rfl T8.out Tryd.underlying60 rfl (by kernel_rfl)) rfl ?_
  refine ⟨d, hd, rfl, ?_⟩
  exact ((HC.out.trans C34.out (fun _ _ e => e)).trans C5.out (fun i hi e => by omega)).trans C8.out (fun i hi e => by omega)
end Go.Proofs.YtkhicabfmkldpaaDoor
