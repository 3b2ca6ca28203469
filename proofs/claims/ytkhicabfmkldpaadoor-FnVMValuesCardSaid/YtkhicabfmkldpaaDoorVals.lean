/-
  readFixed, readBytes, readString of vm.
-/
import Derived.Test.YtkhicabfmkldpaaDoorRead7
set_option linter.unusedSimpArgs false
set_option linter.unusedVariables false
namespace Go.Proofs.YtkhicabfmkldpaaDoor
open Go.RowKit

def zeros (n : Nat) : Array Value := madeCells #[.int .u8 0] n

theorem zeros_size (n : Nat) : (zeros n).size = n := by simp [zeros, madeCells]

theorem Tryd.row5 : (Tryd.prog.info? 5).map (fun i => (i.zero, i.size, i.bytes)) = some (some (.int .u8 0), 1, 1) := by kernel_rfl

theorem make22 (n : Nat) (hn : n ≤ 1000000) (w : World) : (Instr.makeSlice 22 (.int .i64 n) (.int .i64 n)).run Tryd.prog w = .ok (.slice (some ⟨w.heap.size, 0, none⟩) n n) (w.alloc (.cells (zeros n) 5)) := by
  obtain ⟨i, hi, hz0, hz1, hz2⟩ := info_parts Tryd.row5
  have := run_makeSlice (P := Tryd.prog) w 22 5 i (.int .u8 0) Tryd.underlying22 hi hz0 .i64 .i64 n n (by omega) (by omega) (by rw [hz1]; simp; omega) (by rw [hz2]; omega) (by omega)
  rw [this, hz1]
  simp [zeros, Value.cells]

theorem rdb_of_blk {w : World} {b n : Nat} {l : List UInt8} {cs : Array Value} (h : blk w b (spl cs 0 (l.map byteV)) 5) (hl : l.length = n) (hs : n ≤ cs.size) (hn : n ≤ 1000000) : RdB w (.slice (some ⟨b, 0, none⟩) n n) l := by
  subst hl
  refine .inr ⟨b, 0, l.length, rfl, Nat.le_refl _, by simp [maxLen]; omega, fun i hi => ?_⟩
  refine h.cell _ ?_
  rw [Nat.zero_add]
  refine spl_get0 _ _ (by simp; exact hs) i _ ?_
  rw [List.getElem?_map, List.getElem?_eq_getElem hi]
  simp [byteV, List.getD_eq_getElem?_getD, List.getElem?_eq_getElem hi]

/-- What a reader of some bytes hands back. -/
def BytesPost (B R : Nat) (sl : Bool) (dv : Value) (data : List UInt8) (S : Nat → Prop) (w : World) (l r : List UInt8) (e : Ending) (w' : World) : Prop :=
  ∃ bv, e = .returned (.tuple #[bv, .nilIface]) ∧ RdAt w' B R sl dv data r ∧ RdB w' bv l ∧ (∀ g, bv.ownBlock = some g → w.heap.size ≤ g ∧ g < w'.heap.size) ∧ Chg S w w'

theorem long_any (B R U : Nat) (cs : Array Value) (sl : Bool) (dv : Value) (data rest : List UInt8) (e0 e1 : Addr) (w : World) (h : RdAt w B R sl dv data rest) (he : Eofs w B e0 e1) (hU : blk w U cs 5) (hUR : U ≠ R) (hUB : B ≤ U) (hs : cs.size = 8) :
    Calls Tryd.prog 59 #[rdV sl R, .slice (some ⟨U, 0, none⟩) 8 8] w fun e w' => NumPost longV (.int .i64 0) B R U cs.size sl dv data e0 e1 w (vl .u64 0 0 rest) e w' := by
  cases sl
  · exact long_fast B R U cs dv data rest e0 e1 _ w h he hU hUR
  · exact long_slow B R U cs dv data rest e0 e1 w h he hU hUR hUB hs
theorem int_any (B R U : Nat) (cs : Array Value) (sl : Bool) (dv : Value) (data rest : List UInt8) (e0 e1 : Addr) (w : World) (h : RdAt w B R sl dv data rest) (he : Eofs w B e0 e1) (hU : blk w U cs 5) (hUR : U ≠ R) (hUB : B ≤ U) (hs : cs.size = 8) :
    Calls Tryd.prog 58 #[rdV sl R, .slice (some ⟨U, 0, none⟩) 8 8] w fun e w' => NumPost intV (.int .i32 0) B R U cs.size sl dv data e0 e1 w (vl .i64 0 0 rest) e w' := by
  cases sl
  · exact int_fast B R U cs dv data rest e0 e1 _ w h he hU hUR
  · exact int_slow B R U cs dv data rest e0 e1 w h he hU hUR hUB hs

theorem vl_le {k : IntKind} : ∀ {i : Nat} {acc : Int} {l : List UInt8} {u : Int} {r : List UInt8}, vl k i acc l = some (u, r) → r.length ≤ l.length
  | _, _, [], _, _, h => by simp [vl] at h
  | i, acc, x :: l, u, r, h => by
    unfold vl at h
    split at h
    · cases h; simp
    · have := vl_le h; simp; omega

set_option maxRecDepth 100000 in
theorem fixed_ok (B R n : Nat) (sl : Bool) (dv : Value) (data rest : List UInt8) (w : World) (h : RdAt w B R sl dv data rest) (hn : n ≤ rest.length) (h0 : 0 < n) (hB : B ≤ w.heap.size) :
    Calls Tryd.prog 64 #[rdV sl R, .int .i64 n] w (BytesPost B R sl dv data (fun k => k = R) w (rest.take n) (rest.drop n)) := by
  have H := hid h
  have hsm := h.small
  have hle := h.le
  have hng : ¬ ((rest.length : Int) < n) := by omega
  have hmk := make22 n (by omega)
  have hR := h.blk.lt
  clear h
  go_enter Tryd.func64, Tryd.ntmps64
  go_wp2_with (first | (go_at_call 76; refine (short_any B R sl dv data rest _ w H.out).mono ?_; rintro e w1 ⟨rfl, k, rfl⟩; rw [decide_eq_false hng]) | (go_at_call 71; refine (full_ok B R w.heap.size 0 n n (zeros n) sl dv data rest ((w.drewN k).alloc (.cells (zeros n) 5)) (H.out.chg (((Chg.refl (fun _ => False) w).drewN _).alloc _) (fun e => e) (fun _ e => e.elim)) (by omega) (blk_new _ _ _) (by rw [zeros_size]; omega) (by omega) (by omega) (by omega) (by omega) hB).mono ?_; rintro e w2 ⟨rfl, h2⟩; replace h2 := hid h2))
  go_ret2
  obtain ⟨j1, j2, j3⟩ := h2.out
  refine ⟨_, rfl, j1, rdb_of_blk j2 (by rw [List.length_take]; omega) (by rw [zeros_size]; omega) (by omega), ?_, (((Chg.refl (fun k => k = R) w).drewN k).alloc _).trans j3 (fun i hi e => ?_)⟩
  · intro g hg; cases hg; exact ⟨Nat.le_refl _, j2.lt⟩
  · rcases e with e | e
    · exact e
    · subst e; exact absurd hi (Nat.lt_irrefl _)

set_option maxRecDepth 100000 in
theorem fixed_eof (B R n : Nat) (sl : Bool) (dv : Value) (data rest : List UInt8) (e0 e1 : Addr) (w : World) (h : RdAt w B R sl dv data rest) (he : Eofs w B e0 e1) (hn : rest.length < n) (hn2 : n ≤ 1000000) :
    Calls Tryd.prog 64 #[rdV sl R, .int .i64 n] w fun e w' => e = .returned (.tuple #[.slice none 0 0, .iface 185 (.pointer (some e1))]) ∧ ∃ k, w' = w.drewN k := by
  have H := hid h
  have g1 := he.2.1
  have hng : ((rest.length : Int) < n) := by omega
  clear h he
  go_enter Tryd.func64, Tryd.ntmps64
  go_wp2_with (first | (go_at_call 76; refine (short_any B R sl dv data rest _ w H.out).mono ?_; rintro e w1 ⟨rfl, k, rfl⟩; rw [decide_eq_true hng]))
  go_quiet (fail)
  go_wp2
  go_ret2
  exact ⟨rfl, _, World.drewN_drewN _ _ _⟩

set_option maxRecDepth 100000 in
theorem atleast_zero (a : Option Addr) (c : Nat) (rv : Value) (w : World) :
    Calls Tryd.prog 77 #[rv, .slice a 0 c, .int .i64 0] w fun e w' => e = .returned (.tuple #[.int .i64 0, .nilIface]) ∧ w' = w := by
  go_enter Tryd.func77, Tryd.ntmps77
  go_wp2
  refine wp_loop_rounds 2 ?_
  rw [rounds_succ]
  go_wp2
  go_ret2
  exact ⟨rfl, rfl⟩

set_option maxRecDepth 100000 in
theorem full_zero (a : Option Addr) (c : Nat) (rv : Value) (w : World) :
    Calls Tryd.prog 71 #[rv, .slice a 0 c] w fun e w' => e = .returned (.tuple #[.int .i64 0, .nilIface]) ∧ w' = w := by
  go_enter Tryd.func71, Tryd.ntmps71
  go_wp2_with (go_at_call 77; refine (atleast_zero _ _ _ _).mono ?_; rintro e w' ⟨rfl, rfl⟩)
  go_ret2
  exact ⟨rfl, rfl⟩

set_option maxRecDepth 100000 in
theorem fixed_zero (B R : Nat) (sl : Bool) (dv : Value) (data rest : List UInt8) (w : World) (h : RdAt w B R sl dv data rest) (hB : B ≤ w.heap.size) :
    Calls Tryd.prog 64 #[rdV sl R, .int .i64 0] w (BytesPost B R sl dv data (fun k => k = R) w [] rest) := by
  have H := hid h
  have hng : ¬ ((rest.length : Int) < 0) := by omega
  have hmk : ∀ w, (Instr.makeSlice 22 (.int .i64 0) (.int .i64 0)).run Tryd.prog w = .ok (.slice (some ⟨w.heap.size, 0, none⟩) 0 0) (w.alloc (.cells (zeros 0) 5)) := make22 0 (by omega)
  clear h
  go_enter Tryd.func64, Tryd.ntmps64
  go_wp2_with (first | (go_at_call 76; refine (short_any B R sl dv data rest _ w H.out).mono ?_; rintro e w1 ⟨rfl, k, rfl⟩; rw [decide_eq_false hng]) | (go_at_call 71; refine (full_zero _ _ _ _).mono ?_; rintro e w' ⟨rfl, rfl⟩))
  go_ret2
  refine ⟨_, rfl, H.out.chg (((Chg.refl (fun _ => False) w).drewN k).alloc _) (fun e => e) (fun _ e => e.elim), ?_, ?_, ((Chg.refl _ w).drewN k).alloc _⟩
  · exact .inr ⟨_, 0, 0, rfl, Nat.le_refl _, Nat.zero_le _, fun i hi => absurd hi (Nat.not_lt_zero _)⟩
  · intro g hg; cases hg; exact ⟨Nat.le_refl _, by simp⟩

set_option maxRecDepth 100000 in
theorem bytes_eof (B R U : Nat) (cs : Array Value) (sl : Bool) (dv : Value) (data rest : List UInt8) (e0 e1 : Addr) (w : World) (h : RdAt w B R sl dv data rest) (he : Eofs w B e0 e1) (hU : blk w U cs 5) (hUR : U ≠ R) (hUB : B ≤ U) (hs : cs.size = 8)
    (hv : vl .u64 0 0 rest = none ∨ ∃ u r, vl .u64 0 0 rest = some (u, r) ∧ 0 < zig u ∧ zig u ≤ 1000000 ∧ r.length < zig u) :
    Calls Tryd.prog 62 #[rdV sl R, .slice (some ⟨U, 0, none⟩) 8 8] w fun e w' => ∃ ea, (ea = e0 ∨ ea = e1) ∧ e = .returned (.tuple #[.slice none 0 0, .iface 185 (.pointer (some ea))]) ∧ (∃ r, RdAt w' B R sl dv data r) ∧ (∃ cs', cs'.size = 8 ∧ blk w' U cs' 5) ∧ Chg (fun k => k = R ∨ k = U) w w' := by
  have H := hid h
  have He := hid he
  have HU := hid hU
  have HS := hid (show ∀ i, i = R ∨ i = U → B ≤ i from fun i hi => by have := h.own; rcases hi with rfl | rfl <;> assumption)
  have hcall := long_any B R U cs sl dv data rest e0 e1 w h he hU hUR hUB hs
  rcases hv with hv | ⟨u, r, hv, h0, h1, h2⟩
  · rw [hv] at hcall
    have Hc := hid hcall
    clear h he hU hcall hv
    go_enter Tryd.func62, Tryd.ntmps62
    go_wp2_with (go_at_call 59; refine (Hc.out).mono ?_; rintro e w1 ⟨ea, hea, rfl, hq⟩; replace hq := hid hq; replace hea := hid hea)
    go_ret2
    obtain ⟨j1, ⟨cs', j2, j3⟩, j4⟩ := hq.out
    exact ⟨ea, hea.out, rfl, ⟨_, j1⟩, ⟨cs', j2.trans hs, j3⟩, j4⟩
  · rw [hv] at hcall
    have Hc := hid hcall
    obtain ⟨n, hn⟩ : ∃ n : Nat, zig u = n := ⟨(zig u).toNat, by omega⟩
    have Hn := hid hn
    rw [hn] at h0 h1 h2
    clear h he hU hcall hv hn
    go_enter Tryd.func62, Tryd.ntmps62
    go_wp2_with (first | (go_at_call 59; refine (Hc.out).mono ?_; rintro e w1 ⟨rfl, hq⟩; unfold longV; rw [Hn.out]; have g1 : w1.cell? ⟨1, 0, none⟩ = some (.iface 185 (.pointer (some e1))) := (He.out.chg hq.2.2 HS.out).2.1; replace hq := hid hq) | (go_at_call 76; refine (short_any B R sl dv data r _ w1 hq.out.1).mono ?_; rintro e w2 ⟨rfl, k, rfl⟩; rw [decide_eq_true h2]))
    go_quiet (fail)
    go_wp2
    go_ret2
    obtain ⟨j1, ⟨cs', j2, j3⟩, j4⟩ := hq.out
    rw [World.drewN_drewN]
    exact ⟨e1, .inr rfl, rfl, ⟨_, j1.chg ((Chg.refl (fun _ => False) w1).drewN _) (fun e => e) (fun _ e => e.elim)⟩, ⟨cs', j2.trans hs, j3.drewN _⟩, j4.drewN _⟩
set_option maxRecDepth 100000 in
theorem string_eof (B R U : Nat) (cs : Array Value) (sl : Bool) (dv : Value) (data rest : List UInt8) (e0 e1 : Addr) (w : World) (h : RdAt w B R sl dv data rest) (he : Eofs w B e0 e1) (hU : blk w U cs 5) (hUR : U ≠ R) (hUB : B ≤ U) (hs : cs.size = 8)
    (hv : vl .u64 0 0 rest = none ∨ ∃ u r, vl .u64 0 0 rest = some (u, r) ∧ 0 < zig u ∧ zig u ≤ 1000000 ∧ r.length < zig u) :
    Calls Tryd.prog 63 #[rdV sl R, .slice (some ⟨U, 0, none⟩) 8 8] w fun e w' => ∃ ea, (ea = e0 ∨ ea = e1) ∧ e = .returned (.tuple #[.string ⟨#[]⟩, .iface 185 (.pointer (some ea))]) ∧ (∃ r, RdAt w' B R sl dv data r) ∧ (∃ cs', cs'.size = 8 ∧ blk w' U cs' 5) ∧ Chg (fun k => k = R ∨ k = U) w w' := by
  have H := hid h
  have He := hid he
  have HU := hid hU
  have HS := hid (show ∀ i, i = R ∨ i = U → B ≤ i from fun i hi => by have := h.own; rcases hi with rfl | rfl <;> assumption)
  have hcall := long_any B R U cs sl dv data rest e0 e1 w h he hU hUR hUB hs
  rcases hv with hv | ⟨u, r, hv, h0, h1, h2⟩
  · rw [hv] at hcall
    have Hc := hid hcall
    clear h he hU hcall hv
    go_enter Tryd.func63, Tryd.ntmps63
    go_wp2_with (go_at_call 59; refine (Hc.out).mono ?_; rintro e w1 ⟨ea, hea, rfl, hq⟩; replace hq := hid hq; replace hea := hid hea)
    go_ret2
    obtain ⟨j1, ⟨cs', j2, j3⟩, j4⟩ := hq.out
    exact ⟨ea, hea.out, rfl, ⟨_, j1⟩, ⟨cs', j2.trans hs, j3⟩, j4⟩
  · rw [hv] at hcall
    have Hc := hid hcall
    obtain ⟨n, hn⟩ : ∃ n : Nat, zig u = n := ⟨(zig u).toNat, by omega⟩
    have Hn := hid hn
    rw [hn] at h0 h1 h2
    clear h he hU hcall hv hn
    go_enter Tryd.func63, Tryd.ntmps63
    go_wp2_with (first | (go_at_call 59; refine (Hc.out).mono ?_; rintro e w1 ⟨rfl, hq⟩; unfold longV; rw [Hn.out]; have g1 : w1.cell? ⟨1, 0, none⟩ = some (.iface 185 (.pointer (some e1))) := (He.out.chg hq.2.2 HS.out).2.1; replace hq := hid hq) | (go_at_call 76; refine (short_any B R sl dv data r _ w1 hq.out.1).mono ?_; rintro e w2 ⟨rfl, k, rfl⟩; rw [decide_eq_true h2]))
    go_quiet (fail)
    go_wp2
    go_ret2
    obtain ⟨j1, ⟨cs', j2, j3⟩, j4⟩ := hq.out
    rw [World.drewN_drewN]
    exact ⟨e1, .inr rfl, rfl, ⟨_, j1.chg ((Chg.refl (fun _ => False) w1).drewN _) (fun e => e) (fun _ e => e.elim)⟩, ⟨cs', j2.trans hs, j3.drewN _⟩, j4.drewN _⟩

set_option maxRecDepth 100000 in
theorem bytes_ok (B R U n : Nat) (cs : Array Value) (sl : Bool) (dv : Value) (data rest r : List UInt8) (u : Int) (e0 e1 : Addr) (w : World) (h : RdAt w B R sl dv data rest) (he : Eofs w B e0 e1) (hU : blk w U cs 5) (hUR : U ≠ R) (hUB : B ≤ U) (hs : cs.size = 8) (hBw : B ≤ w.heap.size)
    (hv : vl .u64 0 0 rest = some (u, r)) (hn : zig u = n) (hn2 : n ≤ r.length) :
    Calls Tryd.prog 62 #[rdV sl R, .slice (some ⟨U, 0, none⟩) 8 8] w fun e w' => BytesPost B R sl dv data (fun k => k = R ∨ k = U) w (r.take n) (r.drop n) e w' ∧ ∃ cs', cs'.size = 8 ∧ blk w' U cs' 5 := by
  have H := hid h
  have He := hid he
  have HU := hid hU
  have HS := hid (show ∀ i, i = R ∨ i = U → B ≤ i from fun i hi => by have := h.own; rcases hi with rfl | rfl <;> assumption)
  have hcall := long_any B R U cs sl dv data rest e0 e1 w h he hU hUR hUB hs
  rw [hv] at hcall
  have Hc := hid hcall
  have Hn := hid hn
  have hRl := h.blk.lt
  have hUl := hU.lt
  have hsmall : r.length ≤ 1000000 := by have := h.small; have := h.le; have := vl_le hv; omega
  clear h he hU hcall hv hn
  rcases Nat.eq_zero_or_pos n with h0 | h0
  · subst h0
    go_enter Tryd.func62, Tryd.ntmps62
    go_wp2_with (first | (go_at_call 59; refine (Hc.out).mono ?_; rintro e w1 ⟨rfl, hq⟩; unfold longV; rw [Hn.out]; replace hq := hid hq))
    go_ret2
    obtain ⟨j1, ⟨cs', j2, j3⟩, j4⟩ := hq.out
    refine ⟨⟨_, rfl, ?_, ?_, ?_, j4.alloc _⟩, ⟨cs', j2.trans hs, j3.alloc _⟩⟩
    · exact j1.chg (chg_alloc w1 _) (fun e => e) (fun _ e => e.elim)
    · exact .inr ⟨_, 0, 0, rfl, Nat.le_refl _, Nat.zero_le _, fun i hi => absurd hi (Nat.not_lt_zero _)⟩
    · intro g hg; cases hg; exact ⟨j4.size, by simp⟩
  · have hng : ¬ ((r.length : Int) < n) := by omega
    have hmk := make22 n (by omega)
    go_enter Tryd.func62, Tryd.ntmps62
    go_wp2_with (first | (go_at_call 59; refine (Hc.out).mono ?_; rintro e w1 ⟨rfl, hq⟩; unfold longV; rw [Hn.out]; have hsz := hq.2.2.size; replace hq := hid hq) | (go_at_call 76; refine (short_any B R sl dv data r _ w1 hq.out.1).mono ?_; rintro e w2 ⟨rfl, k, rfl⟩; rw [decide_eq_false (show ¬ ((r.length : Int) < n) by omega)]) | (go_at_call 71; refine (full_ok B R w1.heap.size 0 n n (zeros n) sl dv data r ((w1.drewN k).alloc (.cells (zeros n) 5)) (hq.out.1.chg (((Chg.refl (fun _ => False) w1).drewN _).alloc _) (fun e => e) (fun _ e => e.elim)) hn2 (blk_new _ _ _) (by rw [zeros_size]; omega) (by omega) (by omega) (by omega) (by omega) (by omega)).mono ?_; rintro e w2 ⟨rfl, h2⟩; replace h2 := hid h2))
    go_ret2
    obtain ⟨j1, ⟨cs', j2, j3⟩, j4⟩ := hq.out
    obtain ⟨i1, i2, i3⟩ := h2.out
    have hc : Chg (fun k => k = R) w1 w2 := (((Chg.refl (fun k => k = R) w1).drewN k).alloc _).trans i3 (fun i hi e => by
      rcases e with e | e
      · exact e
      · subst e; exact absurd hi (Nat.lt_irrefl _))
    refine ⟨⟨_, rfl, i1, rdb_of_blk i2 (by rw [List.length_take]; omega) (by rw [zeros_size]; omega) (by omega), ?_, j4.trans hc (fun _ _ e => .inl e)⟩, ⟨cs', j2.trans hs, j3.chg hc hUR⟩⟩
    intro g hg; cases hg; exact ⟨hsz, i2.lt⟩

set_option maxRecDepth 100000 in
theorem string_ok (B R U n : Nat) (cs : Array Value) (sl : Bool) (dv : Value) (data rest r : List UInt8) (u : Int) (e0 e1 : Addr) (w : World) (h : RdAt w B R sl dv data rest) (he : Eofs w B e0 e1) (hU : blk w U cs 5) (hUR : U ≠ R) (hUB : B ≤ U) (hs : cs.size = 8) (hBw : B ≤ w.heap.size)
    (hv : vl .u64 0 0 rest = some (u, r)) (hn : zig u = n) (hn2 : n ≤ r.length) :
    Calls Tryd.prog 63 #[rdV sl R, .slice (some ⟨U, 0, none⟩) 8 8] w fun e w' => e = .returned (.tuple #[.string (strOf (r.take n)), .nilIface]) ∧ RdAt w' B R sl dv data (r.drop n) ∧ Chg (fun k => k = R ∨ k = U) w w' ∧ ∃ cs', cs'.size = 8 ∧ blk w' U cs' 5 := by
  have H := hid h
  have He := hid he
  have HU := hid hU
  have HS := hid (show ∀ i, i = R ∨ i = U → B ≤ i from fun i hi => by have := h.own; rcases hi with rfl | rfl <;> assumption)
  have hcall := long_any B R U cs sl dv data rest e0 e1 w h he hU hUR hUB hs
  rw [hv] at hcall
  have Hc := hid hcall
  have Hn := hid hn
  have hRl := h.blk.lt
  have hUl := hU.lt
  have hsmall : r.length ≤ 1000000 := by have := h.small; have := h.le; have := vl_le hv; omega
  clear h he hU hcall hv hn
  rcases Nat.eq_zero_or_pos n with h0 | h0
  · subst h0
    go_enter Tryd.func63, Tryd.ntmps63
    go_wp2_with (first | (go_at_call 59; refine (Hc.out).mono ?_; rintro e w1 ⟨rfl, hq⟩; unfold longV; rw [Hn.out]; replace hq := hid hq))
    go_ret2
    obtain ⟨j1, ⟨cs', j2, j3⟩, j4⟩ := hq.out
    exact ⟨rfl, j1, j4, ⟨cs', j2.trans hs, j3⟩⟩
  · have hng : ¬ ((r.length : Int) < n) := by omega
    have hmk := make22 n (by omega)
    go_enter Tryd.func63, Tryd.ntmps63
    go_wp2_with (first | (go_at_call 59; refine (Hc.out).mono ?_; rintro e w1 ⟨rfl, hq⟩; unfold longV; rw [Hn.out]; have hsz := hq.2.2.size; replace hq := hid hq) | (go_at_call 76; refine (short_any B R sl dv data r _ w1 hq.out.1).mono ?_; rintro e w2 ⟨rfl, k, rfl⟩; rw [decide_eq_false (show ¬ ((r.length : Int) < n) by omega)]) | (go_at_call 71; refine (full_ok B R w1.heap.size 0 n n (zeros n) sl dv data r ((w1.drewN k).alloc (.cells (zeros n) 5)) (hq.out.1.chg (((Chg.refl (fun _ => False) w1).drewN _).alloc _) (fun e => e) (fun _ e => e.elim)) hn2 (blk_new _ _ _) (by rw [zeros_size]; omega) (by omega) (by omega) (by omega) (by omega) (by omega)).mono ?_; rintro e w2 ⟨rfl, h2⟩; have hcv := run_str (rdb_of_blk (n := n) h2.2.1 (by rw [List.length_take]; omega) (by rw [zeros_size]; omega) (by omega)); replace h2 := hid h2))
    go_ret2
    obtain ⟨j1, ⟨cs', j2, j3⟩, j4⟩ := hq.out
    obtain ⟨i1, i2, i3⟩ := h2.out
    have hc : Chg (fun k => k = R) w1 w2 := (((Chg.refl (fun k => k = R) w1).drewN k).alloc _).trans i3 (fun i hi e => by
      rcases e with e | e
      · exact e
      · subst e; exact absurd hi (Nat.lt_irrefl _))
    exact ⟨rfl, i1, j4.trans hc (fun _ _ e => .inl e), ⟨cs', j2.trans hs, j3.chg hc hUR⟩⟩


theorem bool_any (B R U : Nat) (cs : Array Value) (sl : Bool) (dv : Value) (data r : List UInt8) (x : UInt8) (w : World) (h : RdAt w B R sl dv data (x :: r)) (hU : blk w U cs 5) (hUR : U ≠ R) (hUB : B ≤ U) (hs : cs.size = 8) :
    Calls Tryd.prog 57 #[rdV sl R, .slice (some ⟨U, 0, none⟩) 8 8] w fun e w' => e = .returned (.tuple #[.bool ((x.toNat : Int) == 1), .nilIface]) ∧ RdAt w' B R sl dv data r ∧ (∃ cs', cs'.size = 8 ∧ blk w' U cs' 5) ∧ Chg (fun k => k = R ∨ k = U) w w' := by
  cases sl
  · refine (bool_fast B R dv data r x _ w h).mono ?_
    rintro e w' ⟨rfl, h1, h2⟩
    exact ⟨rfl, h1, ⟨cs, hs, hU.chg h2 hUR⟩, h2.mono (fun _ _ e => .inl e)⟩
  · exact bool_slow B R U cs dv data r x w h hU hUR hUB hs
end Go.Proofs.YtkhicabfmkldpaaDoor
