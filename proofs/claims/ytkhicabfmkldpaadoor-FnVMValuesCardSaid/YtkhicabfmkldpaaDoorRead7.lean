/-
  readFloat, readDouble: trial.
-/
import Derived.Test.YtkhicabfmkldpaaDoorRead6
set_option linter.unusedSimpArgs false
set_option linter.unusedVariables false
namespace Go.Proofs.YtkhicabfmkldpaaDoor
open Go.RowKit

theorem spl_get : ∀ (vs : List Value) (cs : Array Value) (o : Nat), o + vs.length ≤ cs.size → ∀ i, (spl cs o vs)[i]? = if i < o then cs[i]? else if i < o + vs.length then vs[i - o]? else cs[i]?
  | [], cs, o, h, i => by
    by_cases h1 : i < o
    · simp [spl, h1]
    · have h2 : ¬ i < o + 0 := by omega
      simp only [spl, List.length_nil, h1, h2, if_false]
  | v :: r, cs, o, h, i => by
    simp only [List.length_cons] at h
    rw [spl, spl_get r _ _ (by simp; omega) i, Array.getElem?_setIfInBounds]
    by_cases h1 : i < o
    · simp [h1, show i < o + 1 by omega, show ¬ o = i by omega]
    · by_cases h2 : i = o
      · subst h2; simp; omega
      · have h3 : ¬ i < o + 1 := by omega
        simp only [h1, h3, if_false, List.length_cons, show ¬ o = i by omega, show o + 1 + r.length = o + (r.length + 1) by omega]
        rw [show i - o = (i - (o + 1)) + 1 by omega, List.getElem?_cons_succ]

theorem spl_get0 (vs : List Value) (cs : Array Value) (h : vs.length ≤ cs.size) (i : Nat) (v : Value) (hv : vs[i]? = some v) : (spl cs 0 vs)[i]? = some v := by
  have := (List.getElem?_eq_some_iff.1 hv).1
  rw [spl_get vs cs 0 (by omega) i]
  rw [if_neg (by omega), if_pos (by omega)]; exact hv

theorem take_4 {rest : List UInt8} (hn : 4 ≤ rest.length) : ∃ b0 b1 b2 b3, rest.take 4 = [b0, b1, b2, b3] := by
  match rest, hn with
  | b0 :: b1 :: b2 :: b3 :: r, _ => exact ⟨b0, b1, b2, b3, rfl⟩
theorem take_8 {rest : List UInt8} (hn : 8 ≤ rest.length) : ∃ b0 b1 b2 b3 b4 b5 b6 b7, rest.take 8 = [b0, b1, b2, b3, b4, b5, b6, b7] := by
  match rest, hn with
  | b0 :: b1 :: b2 :: b3 :: b4 :: b5 :: b6 :: b7 :: r, _ => exact ⟨b0, b1, b2, b3, b4, b5, b6, b7, rfl⟩

theorem run_from73 (x : Nat) (w : World) : (callFunc 73 #[.int .u32 x]).run Tryd.prog w = .ok (.value (.float .f32 x)) w := by kernel_rfl

set_option maxRecDepth 100000 in
theorem float_ok (B R U : Nat) (cs : Array Value) (sl : Bool) (dv : Value) (data rest : List UInt8) (w : World) (h : RdAt w B R sl dv data rest) (hU : blk w U cs 5) (hUR : U ≠ R) (hUB : B ≤ U) (hs : cs.size = 8) (hn : 4 ≤ rest.length) :
    Calls Tryd.prog 60 #[rdV sl R, .slice (some ⟨U, 0, none⟩) 8 8] w fun e w' => e = .returned (.tuple #[.float .f32 (leN (rest.take 4)), .nilIface]) ∧ RdAt w' B R sl dv data (rest.drop 4) ∧ (∃ cs', cs'.size = 8 ∧ blk w' U cs' 5) ∧ Chg (fun k => k = R ∨ k = U) w w' := by
  have H := hid h
  have HU := hid hU
  obtain ⟨b0, b1, b2, b3, htk⟩ : ∃ b0 b1 b2 b3, rest.take 4 = [b0, b1, b2, b3] := by
    exact take_4 hn
  have Htk := hid htk
  have hcell : ∀ (i : Nat) (b : UInt8), [b0, b1, b2, b3][i]? = some b → (spl cs 0 ([b0, b1, b2, b3].map byteV))[i]? = some (.int .u8 b.toNat) := by
    intro i b hb
    exact spl_get0 _ _ (by simp; omega) i _ (by rw [List.getElem?_map, hb]; rfl)
  have Hcell := hid hcell
  have hfb := run_from73 (leN [b0, b1, b2, b3])
  rw [htk]
  clear h hU htk hcell
  go_enter Tryd.func60, Tryd.ntmps60
  go_wp2_with (first | (go_at_call 71; refine (full_ok B R U 0 4 8 cs sl dv data rest _ H.out (by omega) HU.out (by omega) (by omega) (by omega) (by omega) hUR hUB).mono ?_; rintro e w1 ⟨rfl, h⟩; rw [Htk.out] at h; replace h := hid h) | (go_at_call 72; refine (u32_any U b0 b1 b2 b3 8 w1 (h.out.2.1.cell 0 (Hcell.out 0 _ rfl)) (h.out.2.1.cell 1 (Hcell.out 1 _ rfl)) (h.out.2.1.cell 2 (Hcell.out 2 _ rfl)) (h.out.2.1.cell 3 (Hcell.out 3 _ rfl))).mono ?_; rintro e w2 ⟨rfl, h2⟩; replace h2 := hid h2))
  go_ret2
  have hc := h.out.2.2.trans h2.out (S' := fun _ => False) (fun _ _ e => e.elim)
  exact ⟨rfl, h.out.1.chg h2.out (fun e => e) (fun _ e => e.elim), ⟨_, (spl_size _ _ _).trans hs, h.out.2.1.chg h2.out (fun e => e)⟩, hc⟩

set_option maxRecDepth 100000 in
theorem float_eof (B R U : Nat) (cs : Array Value) (sl : Bool) (dv : Value) (data rest : List UInt8) (e0 e1 : Addr) (w : World) (h : RdAt w B R sl dv data rest) (he : Eofs w B e0 e1) (hU : blk w U cs 5) (hUR : U ≠ R) (hUB : B ≤ U) (hs : cs.size = 8) (hn : rest.length < 4) :
    Calls Tryd.prog 60 #[rdV sl R, .slice (some ⟨U, 0, none⟩) 8 8] w fun e w' => ∃ ea, (ea = e0 ∨ ea = e1) ∧ e = .returned (.tuple #[.float .f32 0, .iface 185 (.pointer (some ea))]) ∧ RdAt w' B R sl dv data [] ∧ (∃ cs', cs'.size = 8 ∧ blk w' U cs' 5) ∧ Chg (fun k => k = R ∨ k = U) w w' := by
  have H := hid h
  have He := hid he
  have HU := hid hU
  clear h hU he
  go_enter Tryd.func60, Tryd.ntmps60
  go_wp2_with (go_at_call 71; refine (full_eof B R U 0 4 8 cs sl dv data rest e0 e1 _ H.out He.out (by omega) HU.out (by omega) (by omega) (by omega) hUR hUB).mono ?_; rintro e w1 ⟨n, ea, rfl, h⟩; replace h := hid h)
  go_ret2
  obtain ⟨j1, j2, ⟨cs', j3, j4⟩, j5⟩ := h.out
  exact ⟨ea, j1, rfl, j2, ⟨cs', j3.trans hs, j4⟩, j5⟩

theorem run_from75 (x : Nat) (w : World) : (callFunc 75 #[.int .u64 x]).run Tryd.prog w = .ok (.value (.float .f64 x)) w := by kernel_rfl

set_option maxRecDepth 100000 in
theorem double_ok (B R U : Nat) (cs : Array Value) (sl : Bool) (dv : Value) (data rest : List UInt8) (w : World) (h : RdAt w B R sl dv data rest) (hU : blk w U cs 5) (hUR : U ≠ R) (hUB : B ≤ U) (hs : cs.size = 8) (hn : 8 ≤ rest.length) :
    Calls Tryd.prog 61 #[rdV sl R, .slice (some ⟨U, 0, none⟩) 8 8] w fun e w' => e = .returned (.tuple #[.float .f64 (leN (rest.take 8)), .nilIface]) ∧ RdAt w' B R sl dv data (rest.drop 8) ∧ (∃ cs', cs'.size = 8 ∧ blk w' U cs' 5) ∧ Chg (fun k => k = R ∨ k = U) w w' := by
  have H := hid h
  have HU := hid hU
  obtain ⟨b0, b1, b2, b3, b4, b5, b6, b7, htk⟩ : ∃ b0 b1 b2 b3 b4 b5 b6 b7, rest.take 8 = [b0, b1, b2, b3, b4, b5, b6, b7] := by
    exact take_8 hn
  have Htk := hid htk
  have hcell : ∀ (i : Nat) (b : UInt8), [b0, b1, b2, b3, b4, b5, b6, b7][i]? = some b → (spl cs 0 ([b0, b1, b2, b3, b4, b5, b6, b7].map byteV))[i]? = some (.int .u8 b.toNat) := by
    intro i b hb
    exact spl_get0 _ _ (by simp; omega) i _ (by rw [List.getElem?_map, hb]; rfl)
  have Hcell := hid hcell
  have hfb := run_from75 (leN [b0, b1, b2, b3, b4, b5, b6, b7])
  rw [htk]
  clear h hU htk hcell
  go_enter Tryd.func61, Tryd.ntmps61
  go_wp2_with (first | (go_at_call 71; refine (full_ok B R U 0 8 8 cs sl dv data rest _ H.out (by omega) HU.out (by omega) (by omega) (by omega) (by omega) hUR hUB).mono ?_; rintro e w1 ⟨rfl, h⟩; rw [Htk.out] at h; replace h := hid h) | (go_at_call 74; refine (u64_any U b0 b1 b2 b3 b4 b5 b6 b7 8 w1 (h.out.2.1.cell 0 (Hcell.out 0 _ rfl)) (h.out.2.1.cell 1 (Hcell.out 1 _ rfl)) (h.out.2.1.cell 2 (Hcell.out 2 _ rfl)) (h.out.2.1.cell 3 (Hcell.out 3 _ rfl)) (h.out.2.1.cell 4 (Hcell.out 4 _ rfl)) (h.out.2.1.cell 5 (Hcell.out 5 _ rfl)) (h.out.2.1.cell 6 (Hcell.out 6 _ rfl)) (h.out.2.1.cell 7 (Hcell.out 7 _ rfl))).mono ?_; rintro e w2 ⟨rfl, h2⟩; replace h2 := hid h2))
  go_ret2
  have hc := h.out.2.2.trans h2.out (S' := fun _ => False) (fun _ _ e => e.elim)
  exact ⟨rfl, h.out.1.chg h2.out (fun e => e) (fun _ e => e.elim), ⟨_, (spl_size _ _ _).trans hs, h.out.2.1.chg h2.out (fun e => e)⟩, hc⟩

set_option maxRecDepth 100000 in
theorem double_eof (B R U : Nat) (cs : Array Value) (sl : Bool) (dv : Value) (data rest : List UInt8) (e0 e1 : Addr) (w : World) (h : RdAt w B R sl dv data rest) (he : Eofs w B e0 e1) (hU : blk w U cs 5) (hUR : U ≠ R) (hUB : B ≤ U) (hs : cs.size = 8) (hn : rest.length < 8) :
    Calls Tryd.prog 61 #[rdV sl R, .slice (some ⟨U, 0, none⟩) 8 8] w fun e w' => ∃ ea, (ea = e0 ∨ ea = e1) ∧ e = .returned (.tuple #[.float .f64 0, .iface 185 (.pointer (some ea))]) ∧ RdAt w' B R sl dv data [] ∧ (∃ cs', cs'.size = 8 ∧ blk w' U cs' 5) ∧ Chg (fun k => k = R ∨ k = U) w w' := by
  have H := hid h
  have He := hid he
  have HU := hid hU
  clear h hU he
  go_enter Tryd.func61, Tryd.ntmps61
  go_wp2_with (go_at_call 71; refine (full_eof B R U 0 8 8 cs sl dv data rest e0 e1 _ H.out He.out (by omega) HU.out (by omega) (by omega) (by omega) hUR hUB).mono ?_; rintro e w1 ⟨n, ea, rfl, h⟩; replace h := hid h)
  go_ret2
  obtain ⟨j1, j2, ⟨cs', j3, j4⟩, j5⟩ := h.out
  exact ⟨ea, j1, rfl, j2, ⟨cs', j3.trans hs, j4⟩, j5⟩

end Go.Proofs.YtkhicabfmkldpaaDoor
