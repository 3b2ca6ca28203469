/-
  The two readers of impl (slow: Read alone; fast: ReadByte too): how many bytes are left, one byte, some bytes.
-/
import Derived.Test.YtkhicabfmkldpaaDoorNotes2
set_option linter.unusedSimpArgs false
set_option linter.unusedVariables false
namespace Go.Proofs.YtkhicabfmkldpaaDoor
open Go.RowKit

/-- A reader over bytes, of which some are left: its struct lies in block R, its bytes below B. -/
structure RdAt (w : World) (B R : Nat) (sl : Bool) (dv : Value) (data rest : List UInt8) : Prop where
  blk : blk w R #[dv, .int .i64 ((data.length - rest.length : Nat) : Int)] (if sl then 77 else 80)
  rd : RdB w dv data
  suf : data.drop (data.length - rest.length) = rest
  small : data.length ≤ 1000000
  old : ∀ g, dv.ownBlock = some g → g < B
  own : B ≤ R

theorem RdAt.le {w : World} {B R : Nat} {sl : Bool} {dv : Value} {data rest : List UInt8} (h : RdAt w B R sl dv data rest) : rest.length ≤ data.length := by
  have := congrArg List.length h.suf
  simp at this; omega

def rdV (sl : Bool) (R : Nat) : Value := .iface (if sl then 75 else 78) (.pointer (some ⟨R, 0, none⟩))

/-- The two package-level errors of io are there. -/
def Eofs (w : World) (B : Nat) (e0 e1 : Addr) : Prop := w.cell? ⟨0, 0, none⟩ = some (.iface 185 (.pointer (some e0))) ∧ w.cell? ⟨1, 0, none⟩ = some (.iface 185 (.pointer (some e1))) ∧ 5 ≤ B

theorem Eofs.chg {w w' : World} {B : Nat} {e0 e1 : Addr} {S : Nat → Prop} (h : Eofs w B e0 e1) (hc : Chg S w w') (hS : ∀ i, S i → B ≤ i) : Eofs w' B e0 e1 := by
  obtain ⟨h0, h1, hB⟩ := h
  refine ⟨?_, ?_, hB⟩
  · rw [World.cell?_of_block (hc.block 0 (World.block_lt_of_cell? w _ h0) (fun e => by have := hS 0 e; omega))]; exact h0
  · rw [World.cell?_of_block (hc.block 1 (World.block_lt_of_cell? w _ h1) (fun e => by have := hS 1 e; omega))]; exact h1

theorem RdAt.chg {w w' : World} {S : Nat → Prop} {B R : Nat} {sl : Bool} {dv : Value} {data rest : List UInt8} (h : RdAt w B R sl dv data rest) (hc : Chg S w w') (hR : ¬ S R) (hS : ∀ k, S k → B ≤ k) : RdAt w' B R sl dv data rest :=
  ⟨h.blk.chg hc hR, h.rd.chg hc (fun _ g hg e => by have := hS g e; have := h.old g hg; omega), h.suf, h.small, h.old, h.own⟩

theorem RdB.form {w : World} {v : Value} {l : List UInt8} (h : RdB w v l) : ∃ a cap, v = .slice a l.length cap := by
  rcases h with ⟨rfl, rfl⟩ | ⟨b, off, cap, rfl, _⟩
  · exact ⟨_, _, rfl⟩
  · exact ⟨_, _, rfl⟩

theorem left_any (B R : Nat) (sl : Bool) (dv : Value) (data rest : List UInt8) (w : World) (h : RdAt w B R sl dv data rest) :
    Calls Tryd.prog 28 #[.pointer (some ⟨R, 0, none⟩)] w fun e w' => e = .returned (.int .i64 rest.length) ∧ ∃ n, w' = w.drewN n := by
  obtain ⟨a, cap, rfl⟩ := h.rd.form
  have h1 := h.le
  obtain ⟨i, hi⟩ : ∃ i, data.length - rest.length = i := ⟨_, rfl⟩
  have c0 : w.cell? ⟨R, 0, none⟩ = some (.slice a data.length cap) := h.blk.cell 0 rfl
  have c1 : w.cell? ⟨R, 1, none⟩ = some (.int .i64 i) := by rw [← hi]; exact h.blk.cell 1 rfl
  have h2 := h.small
  have h3 : i ≤ data.length := by omega
  have Hl := hid (show (data.length : Int) - i = rest.length by omega)
  clear h hi
  go_enter Tryd.func28, Tryd.ntmps28
  go_wp2
  go_quiet (fail)
  go_wp2
  go_ret
  exact ⟨by rw [← Hl.out]; rfl, _, rfl⟩

theorem tassert_left (sl : Bool) (R : Nat) (w : World) : (Instr.typeAssert (rdV sl R) 104 182 true).run Tryd.prog w = .ok (.tuple #[rdV sl R, .bool true]) w := by
  cases sl <;> kernel_rfl
theorem missing_one (want : Array (String × TypeId)) (got : Array Method) (s : String) (h : (want.toList.filter fun (name, sig) => !got.any fun m => m.name == name && m.sig == sig).map (·.1) = [s]) :
    ∃ m, Instr.missingMethod want got = some m := by
  unfold Instr.missingMethod
  simp only [h]
  cases hc : s.contains '.'
  · simp [List.partition, List.partition.loop, hc, Instr.least]
  · simp [List.partition, List.partition.loop, hc, Instr.least]
theorem tassert_no (R : Nat) (w : World) : (Instr.typeAssert (.iface 75 (.pointer (some ⟨R, 0, none⟩))) 104 168 true).run Tryd.prog w = .ok (.tuple #[.nilIface, .bool false]) w := by
  obtain ⟨m, hm⟩ := missing_one #[("ReadByte", 171)] Tryd.t75.methods "ReadByte" (by decide +kernel)
  have hz : (zeroValue 168).run Tryd.prog w = .ok .nilIface w := by kernel_rfl
  simp [go_sem, Instr.typeAssert, Tryd.underlying168]
  rw [hm]
  show (Sem.run Tryd.prog ((fun a => Value.tuple #[a, Value.bool false]) <$> zeroValue 168) w) = _
  rw [map_eq_pure_bind, Sem.run_bind, hz]
  rfl
theorem tassert_yes (R : Nat) (w : World) : (Instr.typeAssert (.iface 78 (.pointer (some ⟨R, 0, none⟩))) 104 168 true).run Tryd.prog w = .ok (.tuple #[.iface 78 (.pointer (some ⟨R, 0, none⟩)), .bool true]) w := by kernel_rfl

set_option maxRecDepth 100000 in
theorem short_any (B R : Nat) (sl : Bool) (dv : Value) (data rest : List UInt8) (n : Int) (w : World) (h : RdAt w B R sl dv data rest) :
    Calls Tryd.prog 76 #[rdV sl R, .int .i64 n] w fun e w' => e = .returned (.bool (decide ((rest.length : Int) < n))) ∧ ∃ k, w' = w.drewN k := by
  have H := hid h
  have ht := tassert_left sl R w
  clear h
  cases sl
  all_goals
    simp only [rdV, if_true, if_false, Bool.false_eq_true] at ht ⊢
    go_enter Tryd.func76, Tryd.ntmps76
    go_wp2_with (go_at_call 28; refine (left_any B R _ dv data rest _ H.out).mono ?_; rintro e w' ⟨rfl, k, rfl⟩)
    go_ret
    exact ⟨rfl, _, rfl⟩

theorem RdB.cells {w : World} {v : Value} {l : List UInt8} (h : RdB w v l) {i : Nat} (hi : i < l.length) : ∃ b off cap, v = .slice (some ⟨b, off, none⟩) l.length cap ∧ l.length ≤ cap ∧ cap ≤ maxLen ∧ ∀ i, i < l.length → w.cell? ⟨b, off + i, none⟩ = some (.int .u8 (l.getD i 0).toNat) := by
  rcases h with ⟨rfl, rfl⟩ | h
  · simp at hi
  · exact h

theorem byte_end (B R : Nat) (dv : Value) (data : List UInt8) (e0 e1 : Addr) (w : World) (h : RdAt w B R false dv data []) (he : Eofs w B e0 e1) :
    Calls Tryd.prog 94 #[.pointer (some ⟨R, 0, none⟩)] w fun e w' => e = .returned (.tuple #[.int .u8 0, .iface 185 (.pointer (some e0))]) ∧ ∃ n, w' = w.drewN n := by
  obtain ⟨a, cap, rfl⟩ := h.rd.form
  have c0 : w.cell? ⟨R, 0, none⟩ = some (.slice a data.length cap) := h.blk.cell 0 rfl
  have c1 : w.cell? ⟨R, 1, none⟩ = some (.int .i64 data.length) := h.blk.cell 1 rfl
  have ce := he.1
  have h2 := h.small
  clear h he
  go_enter Tryd.func94, Tryd.ntmps94
  go_wp2
  go_quiet (fail)
  go_wp2
  go_quiet (fail)
  go_wp2
  go_ret2
  exact ⟨rfl, _, World.drewN_drewN _ _ _⟩

theorem drop_cons {data r : List UInt8} {x : UInt8} (h : data.drop (data.length - (x :: r).length) = x :: r) : data.getD (data.length - (x :: r).length) 0 = x ∧ data.drop (data.length - r.length) = r ∧ (data.length - (x :: r).length) + 1 = data.length - r.length ∧ data.length - (x :: r).length < data.length := by
  have hl := congrArg List.length h
  simp at hl
  have h1 : data.length - (x :: r).length < data.length := by simp; omega
  have h2 : (data.length - (x :: r).length) + 1 = data.length - r.length := by simp; omega
  refine ⟨?_, ?_, h2, h1⟩
  · rw [List.getD_eq_getElem?_getD, ← List.head?_drop, h]; rfl
  · rw [← h2, ← List.drop_drop, h]; rfl

/-- A reader whose place is set on. -/
theorem RdAt.step {w : World} {B R : Nat} {sl : Bool} {dv : Value} {data rest r : List UInt8} (h : RdAt w B R sl dv data rest) {i : Nat} {x : Int} (hx : x = i) (hi : i = data.length - r.length) (hr : data.drop (data.length - r.length) = r) (n1 n2 : Nat) :
    RdAt (((w.drewN n1).setCell ⟨R, 1, none⟩ (.int .i64 x)).drewN n2) B R sl dv data r ∧ Chg (fun k => k = R) w (((w.drewN n1).setCell ⟨R, 1, none⟩ (.int .i64 x)).drewN n2) := by
  have hC : Chg (fun k => k = R) w (((w.drewN n1).setCell ⟨R, 1, none⟩ (.int .i64 x)).drewN n2) := (((Chg.drewN (Chg.refl (fun k => k = R) w) n1).setCell (p := ⟨R, 1, none⟩) (fun _ => rfl) (.int .i64 x)).drewN n2)
  refine ⟨⟨?_, h.rd.chg hC (fun _ g hg e => by have := h.old g hg; have := h.own; omega), hr, h.small, h.old, h.own⟩, hC⟩
  subst hx hi
  exact ((h.blk.drewN _).set 1 _).drewN _

theorem byte_some (B R : Nat) (dv : Value) (data r : List UInt8) (x : UInt8) (w : World) (h : RdAt w B R false dv data (x :: r)) :
    Calls Tryd.prog 94 #[.pointer (some ⟨R, 0, none⟩)] w fun e w' => e = .returned (.tuple #[.int .u8 x.toNat, .nilIface]) ∧ RdAt w' B R false dv data r ∧ Chg (fun k => k = R) w w' := by
  have H := hid h
  obtain ⟨d1, d2, d3, d4⟩ := drop_cons h.suf
  have hb := h.blk
  generalize data.length - (x :: r).length = i at d1 d3 d4 hb
  obtain ⟨b, off, cap, rfl, hc1, hc2, hc3⟩ := h.rd.cells d4
  have c0 : w.cell? ⟨R, 0, none⟩ = some (.slice (some ⟨b, off, none⟩) data.length cap) := hb.cell 0 rfl
  have c1 : w.cell? ⟨R, 1, none⟩ = some (.int .i64 i) := hb.cell 1 rfl
  have f1 : w.frozen? ⟨R, 1, none⟩ = false := hb.free 1
  have cb := hc3 i d4
  rw [d1] at cb
  have h2 := h.small
  have hbR : ¬ R = b := by have := h.old b rfl; have := h.own; omega
  have D2 := hid d2
  have D3 := hid d3
  have Hb := hid hb
  clear h hc3 d1 d2 d3 hb
  go_enter Tryd.func94, Tryd.ntmps94
  go_wp2
  go_quiet (fail)
  go_wp2
  go_quiet (fail)
  go_wp2
  go_ret2
  exact ⟨rfl, H.out.step (i := i + 1) (by simp) D3.out D2.out _ _⟩
end Go.Proofs.YtkhicabfmkldpaaDoor
