/-
  readLong and readInt of vm, over both readers.
-/
import Derived.Test.YtkhicabfmkldpaaDoorRead4
set_option linter.unusedSimpArgs false
set_option linter.unusedVariables false
namespace Go.Proofs.YtkhicabfmkldpaaDoor
open Go.RowKit

theorem and127 (x : UInt8) : bits .and .u8 (x.toNat : Int) 127 = ((x.toNat % 128 : Nat) : Int) := by
  have : ∀ n : Fin 256, bits .and .u8 ((n.val : Nat) : Int) 127 = ((n.val % 128 : Nat) : Int) := by decide +kernel
  exact this ⟨x.toNat, x.toNat_lt⟩
theorem and128 (x : UInt8) : bits .and .u8 (x.toNat : Int) 128 = if x.toNat < 128 then 0 else 128 := by
  have : ∀ n : Fin 256, bits .and .u8 ((n.val : Nat) : Int) 128 = if n.val < 128 then 0 else 128 := by decide +kernel
  exact this ⟨x.toNat, x.toNat_lt⟩

def wrK : IntKind → Int → Int
  | .i64, n => wrap64 n
  | k, n => k.wrap n

/-- The next seven bits, put into what is there. -/
def orS (k : IntKind) (acc : Int) (x : UInt8) (i : Nat) : Int := bits .or k acc (wrK k ((x.toNat : Int) % 128 * 2 ^ min (7 * i) 64))

theorem orS_range_u64 (acc : Int) (x : UInt8) (i : Nat) : 0 ≤ orS .u64 acc x i ∧ orS .u64 acc x i < 18446744073709551616 := by
  unfold orS bits
  rw [IntKind.wrap_u64]
  omega
theorem orS_range_i64 (acc : Int) (x : UInt8) (i : Nat) : -9223372036854775808 ≤ orS .i64 acc x i ∧ orS .i64 acc x i < 9223372036854775808 := by
  unfold orS bits
  rw [IntKind.wrap_i64]
  omega

def vl (k : IntKind) : Nat → Int → List UInt8 → Option (Int × List UInt8)
  | _, _, [] => none
  | i, acc, b :: r => if b.toNat < 128 then some (orS k acc b i, r) else vl k (i + 1) (orS k acc b i) r

/-- The whole number that is meant: 64 bits. -/
def zig (u : Int) : Int := bits .xor .i64 (wrap64 (u / 2)) (wrap64 (-wrap64 (bits .and .u64 u 1)))

def longV (u : Int) : Value := .int .i64 (zig u)

/-- The same, 32 bits, of a number that is counted with a sign. -/
def zig32 (u : Int) : Int := bits .xor .i32 (wrap32 (u / 2)) (wrap32 (-wrap32 (bits .and .i64 u 1)))

def intV (u : Int) : Value := .int .i32 (zig32 u)

/-- What a number's reader hands back. -/
def NumPost (f : Int → Value) (z : Value) (B R U n : Nat) (sl : Bool) (dv : Value) (data : List UInt8) (e0 e1 : Addr) (w : World) : Option (Int × List UInt8) → Ending → World → Prop
  | none, e, w' => ∃ ea, (ea = e0 ∨ ea = e1) ∧ e = .returned (.tuple #[z, .iface 185 (.pointer (some ea))]) ∧ RdAt w' B R sl dv data [] ∧ (∃ cs, cs.size = n ∧ blk w' U cs 5) ∧ Chg (fun k => k = R ∨ k = U) w w'
  | some (u, r), e, w' => e = .returned (.tuple #[f u, .nilIface]) ∧ RdAt w' B R sl dv data r ∧ (∃ cs, cs.size = n ∧ blk w' U cs 5) ∧ Chg (fun k => k = R ∨ k = U) w w'

theorem spl_one {cs : Array Value} (h : 0 < cs.size) (x : UInt8) (r : List UInt8) : (spl cs 0 (((x :: r).take 1).map byteV))[0]? = some (.int .u8 x.toNat) := by
  simp [spl, byteV, h]

set_option maxRecDepth 100000 in
theorem long_fast (B R U : Nat) (cs : Array Value) (dv : Value) (data rest : List UInt8) (e0 e1 : Addr) (uv : Value) (w : World) (h : RdAt w B R false dv data rest) (he : Eofs w B e0 e1) (hU : blk w U cs 5) (hUR : U ≠ R) :
    Calls Tryd.prog 59 #[rdV false R, uv] w fun e w' => NumPost longV (.int .i64 0) B R U cs.size false dv data e0 e1 w (vl .u64 0 0 rest) e w' := by
  have H := hid h
  have He := hid he
  have HU := hid hU
  have hsm := h.small
  have hle := h.le
  clear h he hU
  have ht := tassert_yes R w
  obtain ⟨v, Hv⟩ : ∃ v, Hid (vl .u64 0 0 rest = v) := ⟨_, hid rfl⟩
  rw [Hv.out]
  simp only [rdV, if_false, Bool.false_eq_true]
  go_enter Tryd.func59, Tryd.ntmps59
  go_wp2
  go_loopg [6, 7, 8, 11] rest.length (fun k v6 v7 v8 v11 wr => ∃ (i : Nat) (acc : Int) (b : Int) (r : List UInt8), v6 = .int .u64 acc ∧ v7 = .int .u8 b ∧ v8 = .nilIface ∧ v11 = .int .u64 (7 * i : Nat) ∧ 0 ≤ acc ∧ acc < 18446744073709551616 ∧ i + r.length ≤ 1000000 ∧ k = r.length ∧ Hid (RdAt wr B R false dv data r ∧ Chg (fun k => k = R) w wr ∧ Eofs wr B e0 e1 ∧ vl .u64 i acc r = v))
  case atStart => exact ⟨0, 0, 0, rest, rfl, rfl, rfl, rfl, by omega, by omega, by omega, rfl, H.out, Chg.refl _ w, He.out, Hv.out⟩
  case round =>
    obtain ⟨i, acc, b, r, rfl, rfl, rfl, rfl, h1, h2, h3, rfl, HH⟩ := hrel
    cases r with
    | nil =>
      go_wp2_with (go_at_call 94; refine (byte_end B R dv data e0 e1 _ HH.out.1 HH.out.2.2.1).mono ?_; rintro e w1 ⟨rfl, n, rfl⟩)
      go_ret2
      have hv : none = v := HH.out.2.2.2
      subst hv
      exact ⟨e0, .inl rfl, rfl, HH.out.1.chg ((Chg.refl (fun _ => False) wr).drewN _) (fun e => e) (fun _ e => e.elim), ⟨cs, rfl, (HU.out.chg HH.out.2.1 hUR).drewN _⟩, (HH.out.2.1.mono (fun _ _ e => .inl e)).drewN _⟩
    | cons x r =>
      have a1 := and127 x
      have a2 := and128 x
      have h7 : 0 ≤ 7 * (i : Int) := by omega
      by_cases hx : x.toNat < 128
      · rw [if_pos hx] at a2
        go_wp2_with (go_at_call 94; refine (byte_some B R dv data r x _ HH.out.1).mono ?_; rintro e w1 ⟨rfl, hr⟩; replace hr := hid hr)
        go_ret2
        have hv := HH.out.2.2.2
        rw [vl, if_pos hx] at hv
        subst hv
        have hc := HH.out.2.1.trans hr.out.2 (fun _ _ e => e)
        exact ⟨rfl, hr.out.1, ⟨cs, rfl, HU.out.chg hc hUR⟩, hc.mono (fun _ _ e => .inl e)⟩
      · rw [if_neg hx] at a2
        have h4 := orS_range_u64 acc x i
        have h5 := h3
        simp only [List.length_cons] at h5
        go_wp2_with (go_at_call 94; refine (byte_some B R dv data r x _ HH.out.1).mono ?_; rintro e w1 ⟨rfl, hr⟩; replace hr := hid hr)
        go_roundg r.length
        case measure => simp
        case rel =>
          have hv := HH.out.2.2.2
          rw [vl, if_neg hx] at hv
          have hc := HH.out.2.1.trans hr.out.2 (fun _ _ e => e)
          exact ⟨i + 1, orS .u64 acc x i, x.toNat, r, rfl, rfl, rfl, by congr 1, h4.1, h4.2, by omega, rfl, hr.out.1, hc, HH.out.2.2.1.chg hr.out.2 (fun i hi => by have := H.out.own; omega), hv⟩

set_option maxRecDepth 100000 in
theorem long_slow (B R U : Nat) (cs : Array Value) (dv : Value) (data rest : List UInt8) (e0 e1 : Addr) (w : World) (h : RdAt w B R true dv data rest) (he : Eofs w B e0 e1) (hU : blk w U cs 5) (hUR : U ≠ R) (hUB : B ≤ U) (hs : cs.size = 8) :
    Calls Tryd.prog 59 #[rdV true R, .slice (some ⟨U, 0, none⟩) 8 8] w fun e w' => NumPost longV (.int .i64 0) B R U cs.size true dv data e0 e1 w (vl .u64 0 0 rest) e w' := by
  have H := hid h
  have He := hid he
  have HU := hid hU
  have hsm := h.small
  have hle := h.le
  clear h he hU
  have ht := tassert_no R w
  obtain ⟨v, Hv⟩ : ∃ v, Hid (vl .u64 0 0 rest = v) := ⟨_, hid rfl⟩
  rw [Hv.out]
  simp only [rdV, if_true]
  go_enter Tryd.func59, Tryd.ntmps59
  go_wp2
  go_loopg [6, 7, 8, 13] rest.length (fun k v6 v7 v8 v13 wr => ∃ (i : Nat) (acc : Int) (b : Int) (r : List UInt8), v6 = .int .u64 acc ∧ v7 = .int .u8 b ∧ v8 = .nilIface ∧ v13 = .int .u64 (7 * i : Nat) ∧ 0 ≤ acc ∧ acc < 18446744073709551616 ∧ i + r.length ≤ 1000000 ∧ k = r.length ∧ Hid (RdAt wr B R true dv data r ∧ Chg (fun k => k = R ∨ k = U) w wr ∧ Eofs wr B e0 e1 ∧ vl .u64 i acc r = v ∧ ∃ cs', cs'.size = 8 ∧ blk wr U cs' 5))
  case atStart => exact ⟨0, 0, 0, rest, rfl, rfl, rfl, rfl, by omega, by omega, by omega, rfl, H.out, Chg.refl _ w, He.out, Hv.out, cs, hs, HU.out⟩
  case round =>
    obtain ⟨i, acc, b, r, rfl, rfl, rfl, rfl, h1, h2, h3, rfl, HH⟩ := hrel
    obtain ⟨q1, q2, q3, q4, cs1, q5, q6⟩ := HH.out
    have Q1 := hid q1
    have Q2 := hid q2
    have Q3 := hid q3
    have Q4 := hid q4
    have Q5 := hid q5
    have Q6 := hid q6
    clear q1 q2 q3 q4 q5 q6 HH
    cases r with
    | nil =>
      go_wp2_with (go_at_call 71; refine (full_eof B R U 0 1 8 cs1 true dv data [] e0 e1 _ Q1.out Q3.out (by simp) Q6.out (by have := Q5.out; omega) (by omega) (by omega) hUR hUB).mono ?_; rintro e w1 ⟨n, ea, rfl, h⟩; replace h := hid h)
      go_ret2
      have hv : none = v := Q4.out
      subst hv
      obtain ⟨j1, j2, ⟨cs2, j3, j4⟩, j5⟩ := h.out
      exact ⟨ea, j1, rfl, j2, ⟨cs2, j3.trans (Q5.out.trans hs.symm), j4⟩, Q2.out.trans j5 (fun _ _ e => e)⟩
    | cons x r =>
      have a1 := and127 x
      have a2 := and128 x
      have h7 : 0 ≤ 7 * (i : Int) := by omega
      by_cases hx : x.toNat < 128
      · rw [if_pos hx] at a2
        go_wp2_with (go_at_call 71; refine (full_ok B R U 0 1 8 cs1 true dv data (x :: r) _ Q1.out (by simp) Q6.out (by have := Q5.out; omega) (by omega) (by omega) (by omega) hUR hUB).mono ?_; rintro e w1 ⟨rfl, h⟩; have c0 : w1.cell? ⟨U, 0, none⟩ = some (.int .u8 x.toNat) := h.2.1.cell 0 (spl_one (by have := Q5.out; omega) _ _); replace h := hid h)
        go_ret2
        have hv := Q4.out
        rw [vl, if_pos hx] at hv
        subst hv
        obtain ⟨j1, j2, j3⟩ := h.out
        exact ⟨rfl, j1, ⟨_, (spl_size _ _ _).trans (Q5.out.trans hs.symm), j2⟩, Q2.out.trans j3 (fun _ _ e => e)⟩
      · rw [if_neg hx] at a2
        have h4 := orS_range_u64 acc x i
        have h5 := h3
        simp only [List.length_cons] at h5
        go_wp2_with (go_at_call 71; refine (full_ok B R U 0 1 8 cs1 true dv data (x :: r) _ Q1.out (by simp) Q6.out (by have := Q5.out; omega) (by omega) (by omega) (by omega) hUR hUB).mono ?_; rintro e w1 ⟨rfl, h⟩; have c0 : w1.cell? ⟨U, 0, none⟩ = some (.int .u8 x.toNat) := h.2.1.cell 0 (spl_one (by have := Q5.out; omega) _ _); replace h := hid h)
        go_roundg r.length
        case measure => simp
        case rel =>
          have hv := Q4.out
          rw [vl, if_neg hx] at hv
          obtain ⟨j1, j2, j3⟩ := h.out
          exact ⟨i + 1, orS .u64 acc x i, x.toNat, r, rfl, rfl, rfl, by congr 1, h4.1, h4.2, by omega, rfl, j1, Q2.out.trans j3 (fun _ _ e => e), Q3.out.chg j3 (fun i hi => by have := H.out.own; rcases hi with rfl | rfl <;> assumption), hv, _, (spl_size _ _ _).trans Q5.out, j2⟩

set_option maxRecDepth 100000 in
theorem int_fast (B R U : Nat) (cs : Array Value) (dv : Value) (data rest : List UInt8) (e0 e1 : Addr) (uv : Value) (w : World) (h : RdAt w B R false dv data rest) (he : Eofs w B e0 e1) (hU : blk w U cs 5) (hUR : U ≠ R) :
    Calls Tryd.prog 58 #[rdV false R, uv] w fun e w' => NumPost intV (.int .i32 0) B R U cs.size false dv data e0 e1 w (vl .i64 0 0 rest) e w' := by
  have H := hid h
  have He := hid he
  have HU := hid hU
  have hsm := h.small
  have hle := h.le
  clear h he hU
  have ht := tassert_yes R w
  obtain ⟨v, Hv⟩ : ∃ v, Hid (vl .i64 0 0 rest = v) := ⟨_, hid rfl⟩
  rw [Hv.out]
  simp only [rdV, if_false, Bool.false_eq_true]
  go_enter Tryd.func58, Tryd.ntmps58
  go_wp2
  go_loopg [6, 7, 8, 11] rest.length (fun k v6 v7 v8 v11 wr => ∃ (i : Nat) (acc : Int) (b : Int) (r : List UInt8), v6 = .int .i64 acc ∧ v7 = .int .u8 b ∧ v8 = .nilIface ∧ v11 = .int .u64 (7 * i : Nat) ∧ -9223372036854775808 ≤ acc ∧ acc < 9223372036854775808 ∧ i + r.length ≤ 1000000 ∧ k = r.length ∧ Hid (RdAt wr B R false dv data r ∧ Chg (fun k => k = R) w wr ∧ Eofs wr B e0 e1 ∧ vl .i64 i acc r = v))
  case atStart => exact ⟨0, 0, 0, rest, rfl, rfl, rfl, rfl, by omega, by omega, by omega, rfl, H.out, Chg.refl _ w, He.out, Hv.out⟩
  case round =>
    obtain ⟨i, acc, b, r, rfl, rfl, rfl, rfl, h1, h2, h3, rfl, HH⟩ := hrel
    cases r with
    | nil =>
      go_wp2_with (go_at_call 94; refine (byte_end B R dv data e0 e1 _ HH.out.1 HH.out.2.2.1).mono ?_; rintro e w1 ⟨rfl, n, rfl⟩)
      go_ret2
      have hv : none = v := HH.out.2.2.2
      subst hv
      exact ⟨e0, .inl rfl, rfl, HH.out.1.chg ((Chg.refl (fun _ => False) wr).drewN _) (fun e => e) (fun _ e => e.elim), ⟨cs, rfl, (HU.out.chg HH.out.2.1 hUR).drewN _⟩, (HH.out.2.1.mono (fun _ _ e => .inl e)).drewN _⟩
    | cons x r =>
      have a1 := and127 x
      have a2 := and128 x
      have h7 : 0 ≤ 7 * (i : Int) := by omega
      by_cases hx : x.toNat < 128
      · rw [if_pos hx] at a2
        go_wp2_with (go_at_call 94; refine (byte_some B R dv data r x _ HH.out.1).mono ?_; rintro e w1 ⟨rfl, hr⟩; replace hr := hid hr)
        go_ret2
        have hv := HH.out.2.2.2
        rw [vl, if_pos hx] at hv
        subst hv
        have hc := HH.out.2.1.trans hr.out.2 (fun _ _ e => e)
        exact ⟨rfl, hr.out.1, ⟨cs, rfl, HU.out.chg hc hUR⟩, hc.mono (fun _ _ e => .inl e)⟩
      · rw [if_neg hx] at a2
        have h4 := orS_range_i64 acc x i
        have h5 := h3
        simp only [List.length_cons] at h5
        go_wp2_with (go_at_call 94; refine (byte_some B R dv data r x _ HH.out.1).mono ?_; rintro e w1 ⟨rfl, hr⟩; replace hr := hid hr)
        go_roundg r.length
        case measure => simp
        case rel =>
          have hv := HH.out.2.2.2
          rw [vl, if_neg hx] at hv
          have hc := HH.out.2.1.trans hr.out.2 (fun _ _ e => e)
          exact ⟨i + 1, orS .i64 acc x i, x.toNat, r, rfl, rfl, rfl, by congr 1, h4.1, h4.2, by omega, rfl, hr.out.1, hc, HH.out.2.2.1.chg hr.out.2 (fun i hi => by have := H.out.own; omega), hv⟩

set_option maxRecDepth 100000 in
theorem int_slow (B R U : Nat) (cs : Array Value) (dv : Value) (data rest : List UInt8) (e0 e1 : Addr) (w : World) (h : RdAt w B R true dv data rest) (he : Eofs w B e0 e1) (hU : blk w U cs 5) (hUR : U ≠ R) (hUB : B ≤ U) (hs : cs.size = 8) :
    Calls Tryd.prog 58 #[rdV true R, .slice (some ⟨U, 0, none⟩) 8 8] w fun e w' => NumPost intV (.int .i32 0) B R U cs.size true dv data e0 e1 w (vl .i64 0 0 rest) e w' := by
  have H := hid h
  have He := hid he
  have HU := hid hU
  have hsm := h.small
  have hle := h.le
  clear h he hU
  have ht := tassert_no R w
  obtain ⟨v, Hv⟩ : ∃ v, Hid (vl .i64 0 0 rest = v) := ⟨_, hid rfl⟩
  rw [Hv.out]
  simp only [rdV, if_true]
  go_enter Tryd.func58, Tryd.ntmps58
  go_wp2
  go_loopg [6, 7, 13] rest.length (fun k v6 v7 v13 wr => ∃ (i : Nat) (acc : Int) (b : Int) (r : List UInt8), v6 = .int .i64 acc ∧ v7 = .int .u8 b ∧ v13 = .int .u64 (7 * i : Nat) ∧ -9223372036854775808 ≤ acc ∧ acc < 9223372036854775808 ∧ i + r.length ≤ 1000000 ∧ k = r.length ∧ Hid (RdAt wr B R true dv data r ∧ Chg (fun k => k = R ∨ k = U) w wr ∧ Eofs wr B e0 e1 ∧ vl .i64 i acc r = v ∧ ∃ cs', cs'.size = 8 ∧ blk wr U cs' 5))
  case atStart => exact ⟨0, 0, 0, rest, rfl, rfl, rfl, by omega, by omega, by omega, rfl, H.out, Chg.refl _ w, He.out, Hv.out, cs, hs, HU.out⟩
  case round =>
    obtain ⟨i, acc, b, r, rfl, rfl, rfl, h1, h2, h3, rfl, HH⟩ := hrel
    obtain ⟨q1, q2, q3, q4, cs1, q5, q6⟩ := HH.out
    have Q1 := hid q1
    have Q2 := hid q2
    have Q3 := hid q3
    have Q4 := hid q4
    have Q5 := hid q5
    have Q6 := hid q6
    clear q1 q2 q3 q4 q5 q6 HH
    cases r with
    | nil =>
      go_wp2_with (go_at_call 71; refine (full_eof B R U 0 1 8 cs1 true dv data [] e0 e1 _ Q1.out Q3.out (by simp) Q6.out (by have := Q5.out; omega) (by omega) (by omega) hUR hUB).mono ?_; rintro e w1 ⟨n, ea, rfl, h⟩; replace h := hid h)
      go_ret2
      have hv : none = v := Q4.out
      subst hv
      obtain ⟨j1, j2, ⟨cs2, j3, j4⟩, j5⟩ := h.out
      exact ⟨ea, j1, rfl, j2, ⟨cs2, j3.trans (Q5.out.trans hs.symm), j4⟩, Q2.out.trans j5 (fun _ _ e => e)⟩
    | cons x r =>
      have a1 := and127 x
      have a2 := and128 x
      have h7 : 0 ≤ 7 * (i : Int) := by omega
      by_cases hx : x.toNat < 128
      · rw [if_pos hx] at a2
        go_wp2_with (go_at_call 71; refine (full_ok B R U 0 1 8 cs1 true dv data (x :: r) _ Q1.out (by simp) Q6.out (by have := Q5.out; omega) (by omega) (by omega) (by omega) hUR hUB).mono ?_; rintro e w1 ⟨rfl, h⟩; have c0 : w1.cell? ⟨U, 0, none⟩ = some (.int .u8 x.toNat) := h.2.1.cell 0 (spl_one (by have := Q5.out; omega) _ _); replace h := hid h)
        go_ret2
        have hv := Q4.out
        rw [vl, if_pos hx] at hv
        subst hv
        obtain ⟨j1, j2, j3⟩ := h.out
        exact ⟨rfl, j1, ⟨_, (spl_size _ _ _).trans (Q5.out.trans hs.symm), j2⟩, Q2.out.trans j3 (fun _ _ e => e)⟩
      · rw [if_neg hx] at a2
        have h4 := orS_range_i64 acc x i
        have h5 := h3
        simp only [List.length_cons] at h5
        go_wp2_with (go_at_call 71; refine (full_ok B R U 0 1 8 cs1 true dv data (x :: r) _ Q1.out (by simp) Q6.out (by have := Q5.out; omega) (by omega) (by omega) (by omega) hUR hUB).mono ?_; rintro e w1 ⟨rfl, h⟩; have c0 : w1.cell? ⟨U, 0, none⟩ = some (.int .u8 x.toNat) := h.2.1.cell 0 (spl_one (by have := Q5.out; omega) _ _); replace h := hid h)
        go_roundg r.length
        case measure => simp
        case rel =>
          have hv := Q4.out
          rw [vl, if_neg hx] at hv
          obtain ⟨j1, j2, j3⟩ := h.out
          exact ⟨i + 1, orS .i64 acc x i, x.toNat, r, rfl, rfl, by congr 1, h4.1, h4.2, by omega, rfl, j1, Q2.out.trans j3 (fun _ _ e => e), Q3.out.chg j3 (fun i hi => by have := H.out.own; rcases hi with rfl | rfl <;> assumption), hv, _, (spl_size _ _ _).trans Q5.out, j2⟩

end Go.Proofs.YtkhicabfmkldpaaDoor
