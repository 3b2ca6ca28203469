/-
  errors.New, readBool, readFloat, readDouble: trial.
-/
import Derived.Test.YtkhicabfmkldpaaDoorRead5
set_option linter.unusedSimpArgs false
set_option linter.unusedVariables false
namespace Go.Proofs.YtkhicabfmkldpaaDoor
open Go.RowKit

theorem new_any (s : ByteArray) (w : World) :
    Calls Tryd.prog 43 #[.string s] w fun e w' => e = .returned (.iface 129 (.pointer (some ⟨w.heap.size, 0, none⟩))) ∧ blk w' w.heap.size #[.string s] 131 ∧ Chg (fun _ => False) w w' := by
  go_enter Tryd.func43, Tryd.ntmps43
  go_wp2
  go_ret
  exact ⟨rfl, blk_new w _ _, chg_alloc w _⟩

set_option maxRecDepth 100000 in
theorem bool_fast (B R : Nat) (dv : Value) (data r : List UInt8) (x : UInt8) (uv : Value) (w : World) (h : RdAt w B R false dv data (x :: r)) :
    Calls Tryd.prog 57 #[rdV false R, uv] w fun e w' => e = .returned (.tuple #[.bool ((x.toNat : Int) == 1), .nilIface]) ∧ RdAt w' B R false dv data r ∧ Chg (fun k => k = R) w w' := by
  have H := hid h
  clear h
  have ht := tassert_yes R w
  simp only [rdV, if_false, Bool.false_eq_true]
  go_enter Tryd.func57, Tryd.ntmps57
  go_wp2_with (go_at_call 94; refine (byte_some B R dv data r x _ H.out).mono ?_; rintro e w1 ⟨rfl, hr⟩; replace hr := hid hr)
  go_ret2
  exact ⟨rfl, hr.out⟩

set_option maxRecDepth 100000 in
theorem bool_slow (B R U : Nat) (cs : Array Value) (dv : Value) (data r : List UInt8) (x : UInt8) (w : World) (h : RdAt w B R true dv data (x :: r)) (hU : blk w U cs 5) (hUR : U ≠ R) (hUB : B ≤ U) (hs : cs.size = 8) :
    Calls Tryd.prog 57 #[rdV true R, .slice (some ⟨U, 0, none⟩) 8 8] w fun e w' => e = .returned (.tuple #[.bool ((x.toNat : Int) == 1), .nilIface]) ∧ RdAt w' B R true dv data r ∧ (∃ cs', cs'.size = 8 ∧ blk w' U cs' 5) ∧ Chg (fun k => k = R ∨ k = U) w w' := by
  have H := hid h
  have HU := hid hU
  clear h hU
  have ht := tassert_no R w
  simp only [rdV, if_true]
  go_enter Tryd.func57, Tryd.ntmps57
  go_wp2_with (go_at_call 71; refine (full_ok B R U 0 1 8 cs true dv data (x :: r) _ H.out (by simp) HU.out (by omega) (by omega) (by omega) (by omega) hUR hUB).mono ?_; rintro e w1 ⟨rfl, h⟩; have c0 : w1.cell? ⟨U, 0, none⟩ = some (.int .u8 x.toNat) := h.2.1.cell 0 (spl_one (by omega) _ _); replace h := hid h)
  go_ret2
  exact ⟨rfl, h.out.1, ⟨_, (spl_size _ _ _).trans hs, h.out.2.1⟩, h.out.2.2⟩

/-- The number that some bytes are, the lowest one first. -/
def leN : List UInt8 → Nat
  | [] => 0
  | b :: r => b.toNat + 256 * leN r

theorem or_low (k : IntKind) (j : Nat) (hj : j ≤ k.bits) (hk : ∀ n : Int, 0 ≤ n → n < 2 ^ j → k.wrap n = n) (i : Nat) (x y m : Int) (hm : m = 2 ^ i) (hij : i ≤ j) (hx : 0 ≤ x) (hx1 : x < m) (hy : 0 ≤ y * m) (hy1 : y * m < 2 ^ j) : bits .or k x (y * m) = x + y * m := by
  have hc : bits .or k x (y * m) = bits .or k (y * m) x := by
    unfold bits
    simp only [BitVec.or_comm]
  subst hm
  rw [hc, bits_join k j hj hk i (y * 2 ^ i) x hy (Int.mul_emod_left _ _) hy1 hx hx1 ?_]
  · omega
  · exact Int.lt_of_lt_of_le hx1 (by exact_mod_cast Nat.pow_le_pow_right (by decide) hij)

set_option maxRecDepth 100000 in
theorem u32_any (U : Nat) (b0 b1 b2 b3 : UInt8) (c : Nat) (w : World) (c0 : w.cell? ⟨U, 0, none⟩ = some (.int .u8 b0.toNat)) (c1 : w.cell? ⟨U, 1, none⟩ = some (.int .u8 b1.toNat)) (c2 : w.cell? ⟨U, 2, none⟩ = some (.int .u8 b2.toNat)) (c3 : w.cell? ⟨U, 3, none⟩ = some (.int .u8 b3.toNat)) :
    Calls Tryd.prog 72 #[.agg #[], .slice (some ⟨U, 0, none⟩) 4 c] w fun e w' => e = .returned (.int .u32 (leN [b0, b1, b2, b3])) ∧ Chg (fun _ => False) w w' := by
  have hlt := World.block_lt_of_cell? w _ c0
  have e0 := b0.toNat_lt
  have e1 := b1.toNat_lt
  have e2 := b2.toNat_lt
  have e3 := b3.toNat_lt
  simp only [leN]
  generalize b0.toNat = a0 at *
  generalize b1.toNat = a1 at *
  generalize b2.toNat = a2 at *
  generalize b3.toNat = a3 at *
  simp only [] at hlt
  have hval : (bits .or .u32 (bits .or .u32 (bits .or .u32 (a0 : Int) ((a1 : Int) * 256)) ((a2 : Int) * 65536)) ((a3 : Int) * 16777216)) = ((a0 + 256 * (a1 + 256 * (a2 + 256 * (a3 + 256 * (0)))) : Nat) : Int) := by
    rw [or_low .u32 32 (by decide) (by intro n h1 h2; rw [IntKind.wrap_u32]; omega) 8 _ (a1 : Int) 256 (by decide) (by decide) (by omega) (by omega) (by omega) (by omega)]
    rw [or_low .u32 32 (by decide) (by intro n h1 h2; rw [IntKind.wrap_u32]; omega) 16 _ (a2 : Int) 65536 (by decide) (by decide) (by omega) (by omega) (by omega) (by omega)]
    rw [or_low .u32 32 (by decide) (by intro n h1 h2; rw [IntKind.wrap_u32]; omega) 24 _ (a3 : Int) 16777216 (by decide) (by decide) (by omega) (by omega) (by omega) (by omega)]
    push_cast
    omega
  have Hval := hid hval
  clear hval
  go_enter Tryd.func72, Tryd.ntmps72
  go_wp2
  go_quiet (fail)
  go_wp2
  go_ret
  refine ⟨?_, (chg_alloc w _).drewN _⟩
  rw [← Hval.out]
  rfl

set_option maxRecDepth 100000 in
theorem u64_any (U : Nat) (b0 b1 b2 b3 b4 b5 b6 b7 : UInt8) (c : Nat) (w : World) (c0 : w.cell? ⟨U, 0, none⟩ = some (.int .u8 b0.toNat)) (c1 : w.cell? ⟨U, 1, none⟩ = some (.int .u8 b1.toNat)) (c2 : w.cell? ⟨U, 2, none⟩ = some (.int .u8 b2.toNat)) (c3 : w.cell? ⟨U, 3, none⟩ = some (.int .u8 b3.toNat)) (c4 : w.cell? ⟨U, 4, none⟩ = some (.int .u8 b4.toNat)) (c5 : w.cell? ⟨U, 5, none⟩ = some (.int .u8 b5.toNat)) (c6 : w.cell? ⟨U, 6, none⟩ = some (.int .u8 b6.toNat)) (c7 : w.cell? ⟨U, 7, none⟩ = some (.int .u8 b7.toNat)) :
    Calls Tryd.prog 74 #[.agg #[], .slice (some ⟨U, 0, none⟩) 8 c] w fun e w' => e = .returned (.int .u64 (leN [b0, b1, b2, b3, b4, b5, b6, b7])) ∧ Chg (fun _ => False) w w' := by
  have hlt := World.block_lt_of_cell? w _ c0
  have e0 := b0.toNat_lt
  have e1 := b1.toNat_lt
  have e2 := b2.toNat_lt
  have e3 := b3.toNat_lt
  have e4 := b4.toNat_lt
  have e5 := b5.toNat_lt
  have e6 := b6.toNat_lt
  have e7 := b7.toNat_lt
  simp only [leN]
  generalize b0.toNat = a0 at *
  generalize b1.toNat = a1 at *
  generalize b2.toNat = a2 at *
  generalize b3.toNat = a3 at *
  generalize b4.toNat = a4 at *
  generalize b5.toNat = a5 at *
  generalize b6.toNat = a6 at *
  generalize b7.toNat = a7 at *
  simp only [] at hlt
  have hval : (bits .or .u64 (bits .or .u64 (bits .or .u64 (bits .or .u64 (bits .or .u64 (bits .or .u64 (bits .or .u64 (a0 : Int) ((a1 : Int) * 256)) ((a2 : Int) * 65536)) ((a3 : Int) * 16777216)) ((a4 : Int) * 4294967296)) ((a5 : Int) * 1099511627776)) ((a6 : Int) * 281474976710656)) ((a7 : Int) * 72057594037927936)) = ((a0 + 256 * (a1 + 256 * (a2 + 256 * (a3 + 256 * (a4 + 256 * (a5 + 256 * (a6 + 256 * (a7 + 256 * (0)))))))) : Nat) : Int) := by
    rw [or_low .u64 64 (by decide) (by intro n h1 h2; rw [IntKind.wrap_u64]; omega) 8 _ (a1 : Int) 256 (by decide) (by decide) (by omega) (by omega) (by omega) (by omega)]
    rw [or_low .u64 64 (by decide) (by intro n h1 h2; rw [IntKind.wrap_u64]; omega) 16 _ (a2 : Int) 65536 (by decide) (by decide) (by omega) (by omega) (by omega) (by omega)]
    rw [or_low .u64 64 (by decide) (by intro n h1 h2; rw [IntKind.wrap_u64]; omega) 24 _ (a3 : Int) 16777216 (by decide) (by decide) (by omega) (by omega) (by omega) (by omega)]
    rw [or_low .u64 64 (by decide) (by intro n h1 h2; rw [IntKind.wrap_u64]; omega) 32 _ (a4 : Int) 4294967296 (by decide) (by decide) (by omega) (by omega) (by omega) (by omega)]
    rw [or_low .u64 64 (by decide) (by intro n h1 h2; rw [IntKind.wrap_u64]; omega) 40 _ (a5 : Int) 1099511627776 (by decide) (by decide) (by omega) (by omega) (by omega) (by omega)]
    rw [or_low .u64 64 (by decide) (by intro n h1 h2; rw [IntKind.wrap_u64]; omega) 48 _ (a6 : Int) 281474976710656 (by decide) (by decide) (by omega) (by omega) (by omega) (by omega)]
    rw [or_low .u64 64 (by decide) (by intro n h1 h2; rw [IntKind.wrap_u64]; omega) 56 _ (a7 : Int) 72057594037927936 (by decide) (by decide) (by omega) (by omega) (by omega) (by omega)]
    push_cast
    omega
  have Hval := hid hval
  clear hval
  go_enter Tryd.func74, Tryd.ntmps74
  go_wp2
  go_quiet (fail)
  go_wp2
  go_ret
  refine ⟨?_, (chg_alloc w _).drewN _⟩
  rw [← Hval.out]
  rfl


end Go.Proofs.YtkhicabfmkldpaaDoor
