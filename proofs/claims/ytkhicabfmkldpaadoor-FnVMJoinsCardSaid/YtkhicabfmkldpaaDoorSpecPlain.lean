/-
  The specification's machine: an operation that neither enters nor leaves.
-/
import Derived.Test.YtkhicabfmkldpaaDoorSpec
set_option linter.unusedSimpArgs false
set_option linter.unusedVariables false
namespace Go.Proofs.YtkhicabfmkldpaaDoor
open Go Go.RowKit

/-- What a step leaves. -/
def SStep (B M R : Nat) (iv nv : Value) (ins : List (Nat × Int)) (rest' : List UInt8) (l' : List Note) (bad' odd' : Bool) (left' pc' tg' : Int) (r' : Regs) (w w' : World) : Prop :=
  ∃ dv' nv', SpAt w' B M iv dv' nv' ins rest' l' bad' odd' left' pc' tg' ∧ RgAt w' R r' ∧ nv'.ownBlock ≠ some R ∧ Chg (fun k => k = M ∨ nv.ownBlock = some k ∨ k = R) w w' ∧ Fresh w nv nv'

theorem SpAt.reg {w : World} {B M R : Nat} {iv dv nv : Value} {ins : List (Nat × Int)} {rest : List UInt8} {l : List Note} {bad odd : Bool} {left pc tg : Int} (h : SpAt w B M iv dv nv ins rest l bad odd left pc tg) (hRM : R ≠ M) (hRn : nv.ownBlock ≠ some R) (hBR : B ≤ R) (i : Nat) (v : Value) :
    SpAt (w.setCell ⟨R, i, none⟩ v) B M iv dv nv ins rest l bad odd left pc tg ∧ Chg (fun k => k = R) w (w.setCell ⟨R, i, none⟩ v) := by
  have hC : Chg (fun k => k = R) w (w.setCell ⟨R, i, none⟩ v) := (Chg.refl (fun k => k = R) w).setCell (fun _ => rfl) _
  exact ⟨h.other hC (fun k e => by subst e; exact hBR) (h.m.chg hC (fun e => hRM e.symm)) (World.ownsRow.chg h.notes hC (fun g hg e => hRn (e ▸ hg))) h.ne, hC⟩

theorem SpAt.jumped {w : World} {B M : Nat} {iv dv nv : Value} {ins : List (Nat × Int)} {rest : List UInt8} {l : List Note} {bad odd : Bool} {left pc tg : Int} (h : SpAt w B M iv dv nv ins rest l bad odd left pc tg) (x : Int) :
    SpAt (w.setCell ⟨M, 6, none⟩ (.int .i64 x)) B M iv dv nv ins rest l bad odd left x tg ∧ Chg (fun k => k = M) w (w.setCell ⟨M, 6, none⟩ (.int .i64 x)) := by
  have hC : Chg (fun k => k = M) w (w.setCell ⟨M, 6, none⟩ (.int .i64 x)) := (Chg.refl (fun k => k = M) w).setCell (fun _ => rfl) _
  exact ⟨h.other hC (fun k e => by subst e; exact h.le) (h.m.set 6 _) (World.ownsRow.chg h.notes hC (fun g hg e => h.ne (e ▸ hg))) h.ne, hC⟩

theorem sstep_of {B M R : Nat} {iv dv nv nv' : Value} {ins : List (Nat × Int)} {rest : List UInt8} {l' : List Note} {bad odd : Bool} {left pc tg : Int} {r : Regs} {w w' : World} (hR : RgAt w' R r) (hRn : nv'.ownBlock ≠ some R)
    (h1 : SpAt w' B M iv dv nv' ins rest l' bad odd left pc tg) (h2 : Chg (fun k => k = M ∨ nv.ownBlock = some k ∨ k = R) w w') (h3 : Fresh w nv nv') : SStep B M R iv nv ins rest l' bad odd left pc tg r w w' :=
  ⟨dv, nv', h1, hR, hRn, h2, h3⟩

set_option maxRecDepth 100000 in
theorem splain_7 (B M R : Nat) (iv dv nv : Value) (ins : List (Nat × Int)) (rest : List UInt8) (l : List Note) (left pc tg tgt x : Int) (r : Regs) (w : World) (h : SpAt w B M iv dv nv ins rest l false false left pc tg) (hl : l.length ≤ 1000000) (hR : RgAt w R r) (hRM : R ≠ M) (hRn : nv.ownBlock ≠ some R) (hBR : B ≤ R) (hpc : 0 ≤ pc) :
    Calls Tryd.prog 41 #[.pointer (some ⟨M, 0, none⟩), .int .i64 7, .int .i64 x, .int .i64 tgt, .pointer (some ⟨R, 0, none⟩)] w fun e w' => e = .returned (.tuple #[]) ∧ SStep B M R iv nv ins rest (l ++ [⟨nmSetDefault, x, ⟨#[]⟩, tgt⟩]) false false left pc tg (r) w w' := by
  have H := hid h
  have HR := hid hR
  clear h hR
  go_enter Tryd.func41, Tryd.ntmps41
  go_wp2_with (go_at_call 39; refine (snote_any B M iv dv nv ins rest l false false left pc tg tgt x nmSetDefault ⟨#[]⟩ _ H.out hl).mono ?_; rintro e w1 ⟨rfl, nv1, j1, j2, j3⟩; have c4 : w1.cell? ⟨M, 4, none⟩ = some (.bool false) := j1.m.cell 4 rfl; have c6 : w1.cell? ⟨M, 6, none⟩ = some (.int .i64 pc) := j1.m.cell 6 rfl; have f4 := j1.m.free 4; replace j1 := hid j1; replace j2 := hid j2; replace j3 := hid j3)
  go_end0
  rw [show decide (pc < 0) = false from decide_eq_false (by omega)]
  obtain ⟨nv2, k1, k2, k3, k4, k5⟩ := snoted_of HR.out hRM hRn j1.out j2.out j3.out
  obtain ⟨m1, m2⟩ := k1.oddly false
  exact ⟨rfl, sstep_of (blk.chg k2 m2 hRM) k3 m1 ((k4.trans m2 (fun _ _ e => .inl e)).mono (S' := fun k => k = M ∨ nv.ownBlock = some k ∨ k = R) (fun _ _ e => by rcases e with e | e; exact .inl e; exact .inr (.inl e))) k5⟩


set_option maxRecDepth 100000 in
theorem splain_21 (B M R : Nat) (iv dv nv : Value) (ins : List (Nat × Int)) (rest : List UInt8) (l : List Note) (left pc tg tgt x : Int) (r : Regs) (w : World) (h : SpAt w B M iv dv nv ins rest l false false left pc tg) (hl : l.length ≤ 1000000) (hR : RgAt w R r) (hRM : R ≠ M) (hRn : nv.ownBlock ≠ some R) (hBR : B ≤ R) (hpc : 0 ≤ pc) :
    Calls Tryd.prog 41 #[.pointer (some ⟨M, 0, none⟩), .int .i64 21, .int .i64 x, .int .i64 tgt, .pointer (some ⟨R, 0, none⟩)] w fun e w' => e = .returned (.tuple #[]) ∧ SStep B M R iv nv ins rest (l ++ [⟨nmNullField, x, ⟨#[]⟩, tgt⟩]) false false left pc tg (r) w w' := by
  have H := hid h
  have HR := hid hR
  clear h hR
  go_enter Tryd.func41, Tryd.ntmps41
  go_wp2_with (go_at_call 39; refine (snote_any B M iv dv nv ins rest l false false left pc tg tgt x nmNullField ⟨#[]⟩ _ H.out hl).mono ?_; rintro e w1 ⟨rfl, nv1, j1, j2, j3⟩; have c4 : w1.cell? ⟨M, 4, none⟩ = some (.bool false) := j1.m.cell 4 rfl; have c6 : w1.cell? ⟨M, 6, none⟩ = some (.int .i64 pc) := j1.m.cell 6 rfl; have f4 := j1.m.free 4; replace j1 := hid j1; replace j2 := hid j2; replace j3 := hid j3)
  go_end0
  rw [show decide (pc < 0) = false from decide_eq_false (by omega)]
  obtain ⟨nv2, k1, k2, k3, k4, k5⟩ := snoted_of HR.out hRM hRn j1.out j2.out j3.out
  obtain ⟨m1, m2⟩ := k1.oddly false
  exact ⟨rfl, sstep_of (blk.chg k2 m2 hRM) k3 m1 ((k4.trans m2 (fun _ _ e => .inl e)).mono (S' := fun k => k = M ∨ nv.ownBlock = some k ∨ k = R) (fun _ _ e => by rcases e with e | e; exact .inl e; exact .inr (.inl e))) k5⟩


set_option maxRecDepth 100000 in
theorem splain_22 (B M R : Nat) (iv dv nv : Value) (ins : List (Nat × Int)) (rest : List UInt8) (l : List Note) (left pc tg tgt x : Int) (r : Regs) (w : World) (h : SpAt w B M iv dv nv ins rest l false false left pc tg) (hl : l.length ≤ 1000000) (hR : RgAt w R r) (hRM : R ≠ M) (hRn : nv.ownBlock ≠ some R) (hBR : B ≤ R) (hpc : 0 ≤ pc) :
    Calls Tryd.prog 41 #[.pointer (some ⟨M, 0, none⟩), .int .i64 22, .int .i64 x, .int .i64 tgt, .pointer (some ⟨R, 0, none⟩)] w fun e w' => e = .returned (.tuple #[]) ∧ SStep B M R iv nv ins rest (l ++ [⟨nmHintSize, r.long, ⟨#[]⟩, tgt⟩]) false false left pc tg (r) w w' := by
  have H := hid h
  have HR := hid hR
  have r3 : w.cell? ⟨R, 3, none⟩ = some (.int .i64 r.long) := hR.cell 3 rfl
  clear h hR
  go_enter Tryd.func41, Tryd.ntmps41
  go_wp2_with (go_at_call 39; refine (snote_any B M iv dv nv ins rest l false false left pc tg tgt r.long nmHintSize ⟨#[]⟩ _ H.out hl).mono ?_; rintro e w1 ⟨rfl, nv1, j1, j2, j3⟩; have c4 : w1.cell? ⟨M, 4, none⟩ = some (.bool false) := j1.m.cell 4 rfl; have c6 : w1.cell? ⟨M, 6, none⟩ = some (.int .i64 pc) := j1.m.cell 6 rfl; have f4 := j1.m.free 4; replace j1 := hid j1; replace j2 := hid j2; replace j3 := hid j3)
  go_end0
  rw [show decide (pc < 0) = false from decide_eq_false (by omega)]
  obtain ⟨nv2, k1, k2, k3, k4, k5⟩ := snoted_of HR.out hRM hRn j1.out j2.out j3.out
  obtain ⟨m1, m2⟩ := k1.oddly false
  exact ⟨rfl, sstep_of (blk.chg k2 m2 hRM) k3 m1 ((k4.trans m2 (fun _ _ e => .inl e)).mono (S' := fun k => k = M ∨ nv.ownBlock = some k ∨ k = R) (fun _ _ e => by rcases e with e | e; exact .inl e; exact .inr (.inl e))) k5⟩


set_option maxRecDepth 100000 in
theorem splain_12 (B M R : Nat) (iv dv nv : Value) (ins : List (Nat × Int)) (rest : List UInt8) (l : List Note) (left pc tg tgt x : Int) (r : Regs) (w : World) (h : SpAt w B M iv dv nv ins rest l false false left pc tg) (hl : l.length ≤ 1000000) (hR : RgAt w R r) (hRM : R ≠ M) (hRn : nv.ownBlock ≠ some R) (hBR : B ≤ R) (hpc : 0 ≤ pc) :
    Calls Tryd.prog 41 #[.pointer (some ⟨M, 0, none⟩), .int .i64 12, .int .i64 x, .int .i64 tgt, .pointer (some ⟨R, 0, none⟩)] w fun e w' => e = .returned (.tuple #[]) ∧ SStep B M R iv nv ins rest (l) false false left pc tg ({ r with cond := r.long == x }) w w' := by
  have H := hid h
  have HR := hid hR
  have c4 : w.cell? ⟨M, 4, none⟩ = some (.bool false) := h.m.cell 4 rfl
  have c6 : w.cell? ⟨M, 6, none⟩ = some (.int .i64 pc) := h.m.cell 6 rfl
  have f4 := h.m.free 4
  have f6 := h.m.free 6
  have r3 : w.cell? ⟨R, 3, none⟩ = some (.int .i64 r.long) := hR.cell 3 rfl
  have r1 : w.cell? ⟨R, 1, none⟩ = some (.bool r.cond) := hR.cell 1 rfl
  have rf := blk.free hR 1
  clear h hR
  go_enter Tryd.func41, Tryd.ntmps41
  go_wp2
  go_end0
  rw [show decide (pc < 0) = false from decide_eq_false (by omega)]
  obtain ⟨m1, m2⟩ := H.out.reg hRM hRn hBR 1 (.bool (r.long == x))
  obtain ⟨m3, m4⟩ := m1.oddly false
  have hR1 : RgAt (w.setCell ⟨R, 1, none⟩ (.bool (r.long == x))) R ({ r with cond := r.long == x }) := blk.set HR.out 1 _
  exact ⟨rfl, sstep_of (blk.chg hR1 m4 hRM) hRn m3 ((m2.mono (S' := fun k => k = M ∨ nv.ownBlock = some k ∨ k = R) (fun _ _ e => .inr (.inr e))).trans m4 (fun _ _ e => .inl e)) (Fresh.refl w nv)⟩


set_option maxRecDepth 100000 in
theorem splain_13 (B M R : Nat) (iv dv nv : Value) (ins : List (Nat × Int)) (rest : List UInt8) (l : List Note) (left pc tg tgt x : Int) (r : Regs) (w : World) (h : SpAt w B M iv dv nv ins rest l false false left pc tg) (hl : l.length ≤ 1000000) (hR : RgAt w R r) (hRM : R ≠ M) (hRn : nv.ownBlock ≠ some R) (hBR : B ≤ R) (hpc : 0 ≤ pc) :
    Calls Tryd.prog 41 #[.pointer (some ⟨M, 0, none⟩), .int .i64 13, .int .i64 x, .int .i64 tgt, .pointer (some ⟨R, 0, none⟩)] w fun e w' => e = .returned (.tuple #[]) ∧ SStep B M R iv nv ins rest (l) false false left pc tg ({ r with cond := decide (x < r.long) }) w w' := by
  have H := hid h
  have HR := hid hR
  have c4 : w.cell? ⟨M, 4, none⟩ = some (.bool false) := h.m.cell 4 rfl
  have c6 : w.cell? ⟨M, 6, none⟩ = some (.int .i64 pc) := h.m.cell 6 rfl
  have f4 := h.m.free 4
  have f6 := h.m.free 6
  have r3 : w.cell? ⟨R, 3, none⟩ = some (.int .i64 r.long) := hR.cell 3 rfl
  have r1 : w.cell? ⟨R, 1, none⟩ = some (.bool r.cond) := hR.cell 1 rfl
  have rf := blk.free hR 1
  clear h hR
  go_enter Tryd.func41, Tryd.ntmps41
  go_wp2
  go_end0
  rw [show decide (pc < 0) = false from decide_eq_false (by omega)]
  obtain ⟨m1, m2⟩ := H.out.reg hRM hRn hBR 1 (.bool (decide (x < r.long)))
  obtain ⟨m3, m4⟩ := m1.oddly false
  have hR1 : RgAt (w.setCell ⟨R, 1, none⟩ (.bool (decide (x < r.long)))) R ({ r with cond := decide (x < r.long) }) := blk.set HR.out 1 _
  exact ⟨rfl, sstep_of (blk.chg hR1 m4 hRM) hRn m3 ((m2.mono (S' := fun k => k = M ∨ nv.ownBlock = some k ∨ k = R) (fun _ _ e => .inr (.inr e))).trans m4 (fun _ _ e => .inl e)) (Fresh.refl w nv)⟩


set_option maxRecDepth 100000 in
theorem splain_15 (B M R : Nat) (iv dv nv : Value) (ins : List (Nat × Int)) (rest : List UInt8) (l : List Note) (left pc tg tgt x : Int) (r : Regs) (w : World) (h : SpAt w B M iv dv nv ins rest l false false left pc tg) (hl : l.length ≤ 1000000) (hR : RgAt w R r) (hRM : R ≠ M) (hRn : nv.ownBlock ≠ some R) (hBR : B ≤ R) (hpc : 0 ≤ pc) :
    Calls Tryd.prog 41 #[.pointer (some ⟨M, 0, none⟩), .int .i64 15, .int .i64 x, .int .i64 tgt, .pointer (some ⟨R, 0, none⟩)] w fun e w' => e = .returned (.tuple #[]) ∧ SStep B M R iv nv ins rest (l) false false left pc tg ({ r with long := x }) w w' := by
  have H := hid h
  have HR := hid hR
  have c4 : w.cell? ⟨M, 4, none⟩ = some (.bool false) := h.m.cell 4 rfl
  have c6 : w.cell? ⟨M, 6, none⟩ = some (.int .i64 pc) := h.m.cell 6 rfl
  have f4 := h.m.free 4
  have f6 := h.m.free 6
  have r3 : w.cell? ⟨R, 3, none⟩ = some (.int .i64 r.long) := hR.cell 3 rfl
  have rf := blk.free hR 3
  clear h hR
  go_enter Tryd.func41, Tryd.ntmps41
  go_wp2
  go_end0
  rw [show decide (pc < 0) = false from decide_eq_false (by omega)]
  obtain ⟨m1, m2⟩ := H.out.reg hRM hRn hBR 3 (.int .i64 x)
  obtain ⟨m3, m4⟩ := m1.oddly false
  have hR1 : RgAt (w.setCell ⟨R, 3, none⟩ (.int .i64 x)) R ({ r with long := x }) := blk.set HR.out 3 _
  exact ⟨rfl, sstep_of (blk.chg hR1 m4 hRM) hRn m3 ((m2.mono (S' := fun k => k = M ∨ nv.ownBlock = some k ∨ k = R) (fun _ _ e => .inr (.inr e))).trans m4 (fun _ _ e => .inl e)) (Fresh.refl w nv)⟩


set_option maxRecDepth 100000 in
theorem splain_16 (B M R : Nat) (iv dv nv : Value) (ins : List (Nat × Int)) (rest : List UInt8) (l : List Note) (left pc tg tgt x : Int) (r : Regs) (w : World) (h : SpAt w B M iv dv nv ins rest l false false left pc tg) (hl : l.length ≤ 1000000) (hR : RgAt w R r) (hRM : R ≠ M) (hRn : nv.ownBlock ≠ some R) (hBR : B ≤ R) (hpc : 0 ≤ pc) :
    Calls Tryd.prog 41 #[.pointer (some ⟨M, 0, none⟩), .int .i64 16, .int .i64 x, .int .i64 tgt, .pointer (some ⟨R, 0, none⟩)] w fun e w' => e = .returned (.tuple #[]) ∧ SStep B M R iv nv ins rest (l) false false left pc tg ({ r with long := wrap64 (r.long + x) }) w w' := by
  have H := hid h
  have HR := hid hR
  have c4 : w.cell? ⟨M, 4, none⟩ = some (.bool false) := h.m.cell 4 rfl
  have c6 : w.cell? ⟨M, 6, none⟩ = some (.int .i64 pc) := h.m.cell 6 rfl
  have f4 := h.m.free 4
  have f6 := h.m.free 6
  have r3 : w.cell? ⟨R, 3, none⟩ = some (.int .i64 r.long) := hR.cell 3 rfl
  have rf := blk.free hR 3
  clear h hR
  go_enter Tryd.func41, Tryd.ntmps41
  go_wp2
  go_end0
  rw [show decide (pc < 0) = false from decide_eq_false (by omega)]
  obtain ⟨m1, m2⟩ := H.out.reg hRM hRn hBR 3 (.int .i64 (wrap64 (r.long + x)))
  obtain ⟨m3, m4⟩ := m1.oddly false
  have hR1 : RgAt (w.setCell ⟨R, 3, none⟩ (.int .i64 (wrap64 (r.long + x)))) R ({ r with long := wrap64 (r.long + x) }) := blk.set HR.out 3 _
  exact ⟨rfl, sstep_of (blk.chg hR1 m4 hRM) hRn m3 ((m2.mono (S' := fun k => k = M ∨ nv.ownBlock = some k ∨ k = R) (fun _ _ e => .inr (.inr e))).trans m4 (fun _ _ e => .inl e)) (Fresh.refl w nv)⟩


set_option maxRecDepth 100000 in
theorem splain_17 (B M R : Nat) (iv dv nv : Value) (ins : List (Nat × Int)) (rest : List UInt8) (l : List Note) (left pc tg tgt x : Int) (r : Regs) (w : World) (h : SpAt w B M iv dv nv ins rest l false false left pc tg) (hl : l.length ≤ 1000000) (hR : RgAt w R r) (hRM : R ≠ M) (hRn : nv.ownBlock ≠ some R) (hBR : B ≤ R) (hpc : 0 ≤ pc) :
    Calls Tryd.prog 41 #[.pointer (some ⟨M, 0, none⟩), .int .i64 17, .int .i64 x, .int .i64 tgt, .pointer (some ⟨R, 0, none⟩)] w fun e w' => e = .returned (.tuple #[]) ∧ SStep B M R iv nv ins rest (l) false false left pc tg ({ r with long := wrap64 (r.long * x) }) w w' := by
  have H := hid h
  have HR := hid hR
  have c4 : w.cell? ⟨M, 4, none⟩ = some (.bool false) := h.m.cell 4 rfl
  have c6 : w.cell? ⟨M, 6, none⟩ = some (.int .i64 pc) := h.m.cell 6 rfl
  have f4 := h.m.free 4
  have f6 := h.m.free 6
  have r3 : w.cell? ⟨R, 3, none⟩ = some (.int .i64 r.long) := hR.cell 3 rfl
  have rf := blk.free hR 3
  clear h hR
  go_enter Tryd.func41, Tryd.ntmps41
  go_wp2
  go_end0
  rw [show decide (pc < 0) = false from decide_eq_false (by omega)]
  obtain ⟨m1, m2⟩ := H.out.reg hRM hRn hBR 3 (.int .i64 (wrap64 (r.long * x)))
  obtain ⟨m3, m4⟩ := m1.oddly false
  have hR1 : RgAt (w.setCell ⟨R, 3, none⟩ (.int .i64 (wrap64 (r.long * x)))) R ({ r with long := wrap64 (r.long * x) }) := blk.set HR.out 3 _
  exact ⟨rfl, sstep_of (blk.chg hR1 m4 hRM) hRn m3 ((m2.mono (S' := fun k => k = M ∨ nv.ownBlock = some k ∨ k = R) (fun _ _ e => .inr (.inr e))).trans m4 (fun _ _ e => .inl e)) (Fresh.refl w nv)⟩


set_option maxRecDepth 100000 in
theorem splain_18 (B M R : Nat) (iv dv nv : Value) (ins : List (Nat × Int)) (rest : List UInt8) (l : List Note) (left pc tg tgt x : Int) (r : Regs) (w : World) (h : SpAt w B M iv dv nv ins rest l false false left pc tg) (hl : l.length ≤ 1000000) (hR : RgAt w R r) (hRM : R ≠ M) (hRn : nv.ownBlock ≠ some R) (hBR : B ≤ R) (hpc : 0 ≤ pc) :
    Calls Tryd.prog 41 #[.pointer (some ⟨M, 0, none⟩), .int .i64 18, .int .i64 x, .int .i64 tgt, .pointer (some ⟨R, 0, none⟩)] w fun e w' => e = .returned (.tuple #[]) ∧ SStep B M R iv nv ins rest (l) false false left pc tg ({ r with num := x }) w w' := by
  have H := hid h
  have HR := hid hR
  have c4 : w.cell? ⟨M, 4, none⟩ = some (.bool false) := h.m.cell 4 rfl
  have c6 : w.cell? ⟨M, 6, none⟩ = some (.int .i64 pc) := h.m.cell 6 rfl
  have f4 := h.m.free 4
  have f6 := h.m.free 6
  have r2 : w.cell? ⟨R, 2, none⟩ = some (.int .i64 r.num) := hR.cell 2 rfl
  have rf := blk.free hR 2
  clear h hR
  go_enter Tryd.func41, Tryd.ntmps41
  go_wp2
  go_end0
  rw [show decide (pc < 0) = false from decide_eq_false (by omega)]
  obtain ⟨m1, m2⟩ := H.out.reg hRM hRn hBR 2 (.int .i64 x)
  obtain ⟨m3, m4⟩ := m1.oddly false
  have hR1 : RgAt (w.setCell ⟨R, 2, none⟩ (.int .i64 x)) R ({ r with num := x }) := blk.set HR.out 2 _
  exact ⟨rfl, sstep_of (blk.chg hR1 m4 hRM) hRn m3 ((m2.mono (S' := fun k => k = M ∨ nv.ownBlock = some k ∨ k = R) (fun _ _ e => .inr (.inr e))).trans m4 (fun _ _ e => .inl e)) (Fresh.refl w nv)⟩


set_option maxRecDepth 100000 in
theorem splain_11_neg (B M R : Nat) (iv dv nv : Value) (ins : List (Nat × Int)) (rest : List UInt8) (l : List Note) (left pc tg tgt x : Int) (r : Regs) (w : World) (h : SpAt w B M iv dv nv ins rest l false false left pc tg) (hl : l.length ≤ 1000000) (hR : RgAt w R r) (hRM : R ≠ M) (hRn : nv.ownBlock ≠ some R) (hBR : B ≤ R) (hpc : 0 ≤ pc) (hx : x < 0) :
    Calls Tryd.prog 41 #[.pointer (some ⟨M, 0, none⟩), .int .i64 11, .int .i64 x, .int .i64 tgt, .pointer (some ⟨R, 0, none⟩)] w fun e w' => e = .returned (.tuple #[]) ∧ SStep B M R iv nv ins rest (l) false true left x tg (r) w w' := by
  have H := hid h
  have HR := hid hR
  have c4 : w.cell? ⟨M, 4, none⟩ = some (.bool false) := h.m.cell 4 rfl
  have c6 : w.cell? ⟨M, 6, none⟩ = some (.int .i64 pc) := h.m.cell 6 rfl
  have f4 := h.m.free 4
  have f6 := h.m.free 6
  clear h hR
  go_enter Tryd.func41, Tryd.ntmps41
  go_wp2
  go_end0
  (try rw [show decide (x < 0) = true from by simp [hx]])
  obtain ⟨m1, m2⟩ := H.out.jumped x
  obtain ⟨m3, m4⟩ := m1.oddly true
  exact ⟨rfl, sstep_of (blk.chg (blk.chg HR.out m2 hRM) m4 hRM) hRn m3 ((m2.trans m4 (fun _ _ e => e)).mono (fun _ _ e => .inl e)) (Fresh.refl w nv)⟩


set_option maxRecDepth 100000 in
theorem splain_11 (B M R : Nat) (iv dv nv : Value) (ins : List (Nat × Int)) (rest : List UInt8) (l : List Note) (left pc tg tgt x : Int) (r : Regs) (w : World) (h : SpAt w B M iv dv nv ins rest l false false left pc tg) (hl : l.length ≤ 1000000) (hR : RgAt w R r) (hRM : R ≠ M) (hRn : nv.ownBlock ≠ some R) (hBR : B ≤ R) (hpc : 0 ≤ pc) (hx : ¬ x < 0) :
    Calls Tryd.prog 41 #[.pointer (some ⟨M, 0, none⟩), .int .i64 11, .int .i64 x, .int .i64 tgt, .pointer (some ⟨R, 0, none⟩)] w fun e w' => e = .returned (.tuple #[]) ∧ SStep B M R iv nv ins rest (l) false false left x tg (r) w w' := by
  have H := hid h
  have HR := hid hR
  have c4 : w.cell? ⟨M, 4, none⟩ = some (.bool false) := h.m.cell 4 rfl
  have c6 : w.cell? ⟨M, 6, none⟩ = some (.int .i64 pc) := h.m.cell 6 rfl
  have f4 := h.m.free 4
  have f6 := h.m.free 6
  clear h hR
  go_enter Tryd.func41, Tryd.ntmps41
  go_wp2
  go_end0
  (try rw [show decide (x < 0) = false from by simp [hx]])
  obtain ⟨m1, m2⟩ := H.out.jumped x
  obtain ⟨m3, m4⟩ := m1.oddly false
  exact ⟨rfl, sstep_of (blk.chg (blk.chg HR.out m2 hRM) m4 hRM) hRn m3 ((m2.trans m4 (fun _ _ e => e)).mono (fun _ _ e => .inl e)) (Fresh.refl w nv)⟩


set_option maxRecDepth 100000 in
theorem splain_14_neg (B M R : Nat) (iv dv nv : Value) (ins : List (Nat × Int)) (rest : List UInt8) (l : List Note) (left pc tg tgt x : Int) (r : Regs) (w : World) (h : SpAt w B M iv dv nv ins rest l false false left pc tg) (hl : l.length ≤ 1000000) (hR : RgAt w R r) (hRM : R ≠ M) (hRn : nv.ownBlock ≠ some R) (hBR : B ≤ R) (hpc : 0 ≤ pc) (hc : r.cond = true) (hx : x < 0) :
    Calls Tryd.prog 41 #[.pointer (some ⟨M, 0, none⟩), .int .i64 14, .int .i64 x, .int .i64 tgt, .pointer (some ⟨R, 0, none⟩)] w fun e w' => e = .returned (.tuple #[]) ∧ SStep B M R iv nv ins rest (l) false true left x tg (r) w w' := by
  have H := hid h
  have HR := hid hR
  have c4 : w.cell? ⟨M, 4, none⟩ = some (.bool false) := h.m.cell 4 rfl
  have c6 : w.cell? ⟨M, 6, none⟩ = some (.int .i64 pc) := h.m.cell 6 rfl
  have f4 := h.m.free 4
  have f6 := h.m.free 6
  have r1 : w.cell? ⟨R, 1, none⟩ = some (.bool true) := by have := hR.cell 1 (v := .bool r.cond) rfl; rw [hc] at this; exact this
  clear h hR
  go_enter Tryd.func41, Tryd.ntmps41
  go_wp2
  go_end0
  (try rw [show decide (x < 0) = true from by simp [hx]])
  obtain ⟨m1, m2⟩ := H.out.jumped x
  obtain ⟨m3, m4⟩ := m1.oddly true
  exact ⟨rfl, sstep_of (blk.chg (blk.chg HR.out m2 hRM) m4 hRM) hRn m3 ((m2.trans m4 (fun _ _ e => e)).mono (fun _ _ e => .inl e)) (Fresh.refl w nv)⟩


set_option maxRecDepth 100000 in
theorem splain_14_pos (B M R : Nat) (iv dv nv : Value) (ins : List (Nat × Int)) (rest : List UInt8) (l : List Note) (left pc tg tgt x : Int) (r : Regs) (w : World) (h : SpAt w B M iv dv nv ins rest l false false left pc tg) (hl : l.length ≤ 1000000) (hR : RgAt w R r) (hRM : R ≠ M) (hRn : nv.ownBlock ≠ some R) (hBR : B ≤ R) (hpc : 0 ≤ pc) (hc : r.cond = true) (hx : ¬ x < 0) :
    Calls Tryd.prog 41 #[.pointer (some ⟨M, 0, none⟩), .int .i64 14, .int .i64 x, .int .i64 tgt, .pointer (some ⟨R, 0, none⟩)] w fun e w' => e = .returned (.tuple #[]) ∧ SStep B M R iv nv ins rest (l) false false left x tg (r) w w' := by
  have H := hid h
  have HR := hid hR
  have c4 : w.cell? ⟨M, 4, none⟩ = some (.bool false) := h.m.cell 4 rfl
  have c6 : w.cell? ⟨M, 6, none⟩ = some (.int .i64 pc) := h.m.cell 6 rfl
  have f4 := h.m.free 4
  have f6 := h.m.free 6
  have r1 : w.cell? ⟨R, 1, none⟩ = some (.bool true) := by have := hR.cell 1 (v := .bool r.cond) rfl; rw [hc] at this; exact this
  clear h hR
  go_enter Tryd.func41, Tryd.ntmps41
  go_wp2
  go_end0
  (try rw [show decide (x < 0) = false from by simp [hx]])
  obtain ⟨m1, m2⟩ := H.out.jumped x
  obtain ⟨m3, m4⟩ := m1.oddly false
  exact ⟨rfl, sstep_of (blk.chg (blk.chg HR.out m2 hRM) m4 hRM) hRn m3 ((m2.trans m4 (fun _ _ e => e)).mono (fun _ _ e => .inl e)) (Fresh.refl w nv)⟩


set_option maxRecDepth 100000 in
theorem splain_14_no (B M R : Nat) (iv dv nv : Value) (ins : List (Nat × Int)) (rest : List UInt8) (l : List Note) (left pc tg tgt x : Int) (r : Regs) (w : World) (h : SpAt w B M iv dv nv ins rest l false false left pc tg) (hl : l.length ≤ 1000000) (hR : RgAt w R r) (hRM : R ≠ M) (hRn : nv.ownBlock ≠ some R) (hBR : B ≤ R) (hpc : 0 ≤ pc) (hc : r.cond = false) :
    Calls Tryd.prog 41 #[.pointer (some ⟨M, 0, none⟩), .int .i64 14, .int .i64 x, .int .i64 tgt, .pointer (some ⟨R, 0, none⟩)] w fun e w' => e = .returned (.tuple #[]) ∧ SStep B M R iv nv ins rest (l) false false left pc tg (r) w w' := by
  have H := hid h
  have HR := hid hR
  have c4 : w.cell? ⟨M, 4, none⟩ = some (.bool false) := h.m.cell 4 rfl
  have c6 : w.cell? ⟨M, 6, none⟩ = some (.int .i64 pc) := h.m.cell 6 rfl
  have f4 := h.m.free 4
  have f6 := h.m.free 6
  have r1 : w.cell? ⟨R, 1, none⟩ = some (.bool false) := by have := hR.cell 1 (v := .bool r.cond) rfl; rw [hc] at this; exact this
  clear h hR
  go_enter Tryd.func41, Tryd.ntmps41
  go_wp2
  go_end0
  rw [show decide (pc < 0) = false from decide_eq_false (by omega)]
  obtain ⟨m3, m4⟩ := H.out.oddly false
  exact ⟨rfl, sstep_of (blk.chg HR.out m4 hRM) hRn m3 (m4.mono (fun _ _ e => .inl e)) (Fresh.refl w nv)⟩


set_option maxRecDepth 100000 in
theorem splain_more (B M R : Nat) (iv dv nv : Value) (ins : List (Nat × Int)) (rest : List UInt8) (l : List Note) (left pc tg tgt x : Int) (r : Regs) (w : World) (h : SpAt w B M iv dv nv ins rest l false false left pc tg) (hl : l.length ≤ 1000000) (hR : RgAt w R r) (hRM : R ≠ M) (hRn : nv.ownBlock ≠ some R) (hBR : B ≤ R) (hpc : 0 ≤ pc) (op : Nat) (hop : 23 ≤ op) :
    Calls Tryd.prog 41 #[.pointer (some ⟨M, 0, none⟩), .int .i64 (op : Int), .int .i64 x, .int .i64 tgt, .pointer (some ⟨R, 0, none⟩)] w fun e w' => e = .returned (.tuple #[]) ∧ SStep B M R iv nv ins rest (l) true false left pc tg (r) w w' := by
  have H := hid h
  have HR := hid hR
  have c4 : w.cell? ⟨M, 4, none⟩ = some (.bool false) := h.m.cell 4 rfl
  have c6 : w.cell? ⟨M, 6, none⟩ = some (.int .i64 pc) := h.m.cell 6 rfl
  have f4 := h.m.free 4
  have f6 := h.m.free 6
  have f3 := h.m.free 3
  have c3 : w.cell? ⟨M, 3, none⟩ = some (.bool false) := h.m.cell 3 rfl
  have n7 : ¬ (op : Int) = 7 := by omega
  have n21 : ¬ (op : Int) = 21 := by omega
  have n22 : ¬ (op : Int) = 22 := by omega
  have n11 : ¬ (op : Int) = 11 := by omega
  have n12 : ¬ (op : Int) = 12 := by omega
  have n13 : ¬ (op : Int) = 13 := by omega
  have n14 : ¬ (op : Int) = 14 := by omega
  have n15 : ¬ (op : Int) = 15 := by omega
  have n16 : ¬ (op : Int) = 16 := by omega
  have n17 : ¬ (op : Int) = 17 := by omega
  have n18 : ¬ (op : Int) = 18 := by omega
  clear h hR
  go_enter Tryd.func41, Tryd.ntmps41
  go_wp2
  go_end0
  rw [show decide (pc < 0) = false from decide_eq_false (by omega)]
  obtain ⟨m1, m2⟩ := H.out.fail
  obtain ⟨m3, m4⟩ := m1.oddly false
  exact ⟨rfl, sstep_of (blk.chg (blk.chg HR.out m2 hRM) m4 hRM) hRn m3 ((m2.trans m4 (fun _ _ e => e)).mono (fun _ _ e => .inl e)) (Fresh.refl w nv)⟩


theorem splain_any (B M R : Nat) (iv dv nv : Value) (ins : List (Nat × Int)) (rest : List UInt8) (l : List Note) (left pc tg tgt x : Int) (r : Regs) (w : World) (h : SpAt w B M iv dv nv ins rest l false false left pc tg) (hl : l.length ≤ 1000000) (hR : RgAt w R r) (hRM : R ≠ M) (hRn : nv.ownBlock ≠ some R) (hBR : B ≤ R) (hpc : 0 ≤ pc) (op : Nat) (hn : op ≠ 0 ∧ op ≠ 1 ∧ op ≠ 2 ∧ op ≠ 3 ∧ op ≠ 4 ∧ op ≠ 5 ∧ op ≠ 6 ∧ op ≠ 8 ∧ op ≠ 9 ∧ op ≠ 10 ∧ op ≠ 19 ∧ op ≠ 20) (s : St) (hs1 : s.notes = l) (hs2 : s.bad = 0) (hs3 : s.odd = false) (hs4 : s.pc = pc) :
    Calls Tryd.prog 41 #[.pointer (some ⟨M, 0, none⟩), .int .i64 (op : Int), .int .i64 x, .int .i64 tgt, .pointer (some ⟨R, 0, none⟩)] w fun e w' => e = .returned (.tuple #[]) ∧
      SStep B M R iv nv ins rest (simple 9 op x tgt r s).2.notes (decide ((simple 9 op x tgt r s).2.bad ≠ 0)) (simple 9 op x tgt r s).2.odd left (simple 9 op x tgt r s).2.pc tg (simple 9 op x tgt r s).1 w w' ∧ (simple 9 op x tgt r s).2.rest = s.rest := by
  subst hs1 hs4
  have hb : decide (s.bad ≠ 0) = false := by rw [hs2]; rfl
  have fin : ∀ {l' : List Note} {bad odd : Bool} {pc' : Int} {r' : Regs} {sx : Regs × St} {ags : Array Value}, Calls Tryd.prog 41 ags w (fun e w' => e = .returned (.tuple #[]) ∧ SStep B M R iv nv ins rest l' bad odd left pc' tg r' w w') → sx.2.notes = l' → decide (sx.2.bad ≠ 0) = bad → sx.2.odd = odd → sx.2.pc = pc' → sx.1 = r' → sx.2.rest = s.rest →
      Calls Tryd.prog 41 ags w (fun e w' => e = .returned (.tuple #[]) ∧ SStep B M R iv nv ins rest sx.2.notes (decide (sx.2.bad ≠ 0)) sx.2.odd left sx.2.pc tg sx.1 w w' ∧ sx.2.rest = s.rest) := by
    intro l' bad odd pc' r' sx ags h1 e1 e2 e3 e4 e5 e6
    subst e1 e2 e3 e4 e5
    exact h1.mono fun e w' h => ⟨h.1, h.2, e6⟩
  match op, hn with
  | 0, hn => exact absurd rfl hn.1
  | 1, hn => exact absurd rfl hn.2.1
  | 2, hn => exact absurd rfl hn.2.2.1
  | 3, hn => exact absurd rfl hn.2.2.2.1
  | 4, hn => exact absurd rfl hn.2.2.2.2.1
  | 5, hn => exact absurd rfl hn.2.2.2.2.2.1
  | 6, hn => exact absurd rfl hn.2.2.2.2.2.2.1
  | 7, _ => exact fin (splain_7 B M R iv dv nv ins rest s.notes left s.pc tg tgt x r w h hl hR hRM hRn hBR hpc) rfl hb hs3 rfl rfl rfl
  | 8, hn => exact absurd rfl hn.2.2.2.2.2.2.2.1
  | 9, hn => exact absurd rfl hn.2.2.2.2.2.2.2.2.1
  | 10, hn => exact absurd rfl hn.2.2.2.2.2.2.2.2.2.1
  | 11, _ =>
    by_cases hx : x < 0
    · exact fin (splain_11_neg B M R iv dv nv ins rest s.notes left s.pc tg tgt x r w h hl hR hRM hRn hBR hpc hx) rfl hb (by show (s.odd || decide (x < 0)) = true; simp [hx]) rfl rfl rfl
    · exact fin (splain_11 B M R iv dv nv ins rest s.notes left s.pc tg tgt x r w h hl hR hRM hRn hBR hpc hx) rfl hb (by show (s.odd || decide (x < 0)) = false; simp [hx, hs3]) rfl rfl rfl
  | 12, _ => exact fin (splain_12 B M R iv dv nv ins rest s.notes left s.pc tg tgt x r w h hl hR hRM hRn hBR hpc) rfl hb hs3 rfl rfl rfl
  | 13, _ => exact fin (splain_13 B M R iv dv nv ins rest s.notes left s.pc tg tgt x r w h hl hR hRM hRn hBR hpc) rfl hb hs3 rfl rfl rfl
  | 14, _ =>
    have e14 : simple 9 14 x tgt r s = (r, if r.cond then s.jump x else s) := rfl
    rw [e14]
    cases hc : r.cond with
    | false => exact fin (sx := (r, if false = true then s.jump x else s)) (splain_14_no B M R iv dv nv ins rest s.notes left s.pc tg tgt x r w h hl hR hRM hRn hBR hpc hc) rfl hb hs3 rfl rfl rfl
    | true =>
      by_cases hx : x < 0
      · exact fin (sx := (r, if true = true then s.jump x else s)) (splain_14_neg B M R iv dv nv ins rest s.notes left s.pc tg tgt x r w h hl hR hRM hRn hBR hpc hc hx) rfl hb (by show (s.odd || decide (x < 0)) = true; simp [hx]) rfl rfl rfl
      · exact fin (sx := (r, if true = true then s.jump x else s)) (splain_14_pos B M R iv dv nv ins rest s.notes left s.pc tg tgt x r w h hl hR hRM hRn hBR hpc hc hx) rfl hb (by show (s.odd || decide (x < 0)) = false; simp [hx, hs3]) rfl rfl rfl
  | 15, _ => exact fin (splain_15 B M R iv dv nv ins rest s.notes left s.pc tg tgt x r w h hl hR hRM hRn hBR hpc) rfl hb hs3 rfl rfl rfl
  | 16, _ => exact fin (splain_16 B M R iv dv nv ins rest s.notes left s.pc tg tgt x r w h hl hR hRM hRn hBR hpc) rfl hb hs3 rfl rfl rfl
  | 17, _ => exact fin (splain_17 B M R iv dv nv ins rest s.notes left s.pc tg tgt x r w h hl hR hRM hRn hBR hpc) rfl hb hs3 rfl rfl rfl
  | 18, _ => exact fin (splain_18 B M R iv dv nv ins rest s.notes left s.pc tg tgt x r w h hl hR hRM hRn hBR hpc) rfl hb hs3 rfl rfl rfl
  | 19, hn => exact absurd rfl hn.2.2.2.2.2.2.2.2.2.2.1
  | 20, hn => exact absurd rfl hn.2.2.2.2.2.2.2.2.2.2.2
  | 21, _ => exact fin (splain_21 B M R iv dv nv ins rest s.notes left s.pc tg tgt x r w h hl hR hRM hRn hBR hpc) rfl hb hs3 rfl rfl rfl
  | 22, _ => exact fin (splain_22 B M R iv dv nv ins rest s.notes left s.pc tg tgt x r w h hl hR hRM hRn hBR hpc) rfl hb hs3 rfl rfl rfl
  | k + 23, _ => exact fin (splain_more B M R iv dv nv ins rest s.notes left s.pc tg tgt x r w h hl hR hRM hRn hBR hpc (k + 23) (by omega)) rfl rfl hs3 rfl rfl rfl
end Go.Proofs.YtkhicabfmkldpaaDoor
