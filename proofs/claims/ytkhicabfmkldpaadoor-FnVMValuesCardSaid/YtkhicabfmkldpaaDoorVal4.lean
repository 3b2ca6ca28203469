/-
  FnVMValues: the lowest bytes of a number; a value is made; its bytes.
  FnVMValues: words, and the bytes of a number.
  FnVMValues: numbers, words, and the bytes of a number.
  FnVMValues: the maker of values: bytes, numbers, words; types that are none.
  FnVMValues, the plain law: what is written of a plain value is what the machine reads of it. No program in sight.
  FnVMValues: what it shares with the other laws.
-/
import Derived.Test.YtkhicabfmkldpaaDoorVmruns
import Derived.Test.YtkhicabfmkldpaaDoorNotings
import Derived.Test.YtkhicabfmkldpaaDoorCards
import Derived.Test.YtkhicabfmkldpaaDoorTie
import Derived.Deep.DeepHandedRow
import Derived.Deep.DeepWitnessRowRef
import Derived.Lib.LaidIn
import Derived.Lib.AppendStr
import Derived.Stop.LaidErr
import Derived.ProofKit
import Derived.OpenShut
import Derived.ChangeSlices
import Derived.WideShapes
import Derived.Laws.AppendOwnNone
import Derived.Deep.RegionWith
import Derived.Test.YtkhicabfmkldpaaDoorZig
import Derived.Test.YtkhicabfmkldpaaDoorRun0
set_option linter.unusedSimpArgs false
set_option linter.unusedVariables false
namespace Go.Proofs.YtkhicabfmkldpaaDoor
open Go Go.RowKit

theorem Sent.keep {w w' : World} {e0 e1 : Addr} (h : Sent w w.heap.size e0 e1) (hc : Chg (fun _ => False) w w') : Sent w' w'.heap.size e0 e1 := h.up (hc.mono (fun _ _ e => e.elim)) hc.size

theorem rdB_take {w : World} {b off cap : Nat} {rest : List UInt8} {n : Nat} (hn : n ≤ rest.length) (hc : rest.length ≤ cap) (hm : cap ≤ maxLen) (h : ∀ i, i < rest.length → w.cell? ⟨b, off + i, none⟩ = some (.int .u8 (rest.getD i 0).toNat)) : RdB w (.slice (some ⟨b, off, none⟩) n cap) (rest.take n) :=
  .inr ⟨b, off, cap, by rw [List.length_take, Nat.min_eq_left hn], by rw [List.length_take]; omega, hm, fun i hi => by
    rw [List.length_take] at hi
    rw [h i (by omega)]
    simp [List.getD_eq_getElem?_getD, List.getElem?_take, show i < n by omega]⟩

/-- So many bytes of a slice. -/
theorem rdB_front {w : World} {a : Option Addr} {c : Nat} {l : List UInt8} (h : RdB w (.slice a l.length c) l) (k : Nat) : RdB w (.slice a (min l.length k) c) (l.take k) := by
  rcases h with ⟨h1, h2⟩ | ⟨b, off, cap, h1, h2, h3, h4⟩
  · subst h2
    simp at h1
    obtain ⟨rfl, rfl⟩ := h1
    exact .inl ⟨by simp, by simp⟩
  · simp at h1
    obtain ⟨rfl, rfl⟩ := h1
    have h5 := rdB_take (n := min l.length k) (by omega) h2 h3 h4
    rw [show l.take (min l.length k) = l.take k by rw [List.take_eq_take_iff]; omega] at h5
    exact h5

theorem rdB_cap {w : World} {a : Option Addr} {c : Nat} {l : List UInt8} (h : RdB w (.slice a l.length c) l) : l.length ≤ c ∧ c < 9223372036854775808 := by
  have h63 : maxLen < 9223372036854775808 := by unfold maxLen; omega
  rcases h with ⟨h1, h2⟩ | ⟨b, off, cap, h1, h2, h3, _⟩
  · subst h2
    simp at h1
    obtain ⟨_, rfl⟩ := h1
    exact ⟨Nat.le_refl _, by omega⟩
  · simp at h1
    obtain ⟨_, rfl⟩ := h1
    exact ⟨h2, by omega⟩

theorem rdB_one (w : World) (x : UInt8) : RdB (w.alloc (.cells #[.int .u8 x.toNat] 5)) (.slice (some ⟨w.heap.size, 0, none⟩) 1 1) [x] := by
  refine .inr ⟨w.heap.size, 0, 1, rfl, Nat.le_refl _, by unfold maxLen; omega, fun i hi => ?_⟩
  obtain rfl : i = 0 := by simp at hi; omega
  exact (blk_new w _ _).cell 0 rfl

theorem CallsAt.form {w : World} {v : Value} {l : List Note} (h : CallsAt w v l) : ∃ (a : Option Addr) (c : Nat), v = .slice a l.length c ∧ l.length ≤ c ∧ c < 9223372036854775808 := by
  rcases h with ⟨rfl, rfl⟩ | ⟨b, off, cap, rfl, h1, h2, _⟩
  · exact ⟨none, 0, rfl, Nat.le_refl _, by omega⟩
  · exact ⟨_, cap, rfl, h1, by unfold maxLen at h2; omega⟩

/-- 'append(out, xs...)': out is the call's own, and so is what is appended, or nil. -/
theorem wpList_append_row {P : Program} {w : World} {ops : Array Oper} {rest : List Oper} {o : Oper} {a : Act} {Q : Exit → Act → World → Prop} (hgd : o.guard = none) (s x : Operand) (t : TypeId)
    (ho : o.op = .call { callee := .builtin .append, args := #[s, x], argTypes := #[t, t] })
    (base : Nat) (e : TypeId) (i : TypeInfo) (z : Value) (size bytes : Nat) (ht : P.underlying t = some (.slice e)) (hi : P.info? e = some i) (hz : i.zero = some z)
    (hsize : i.size = size) (hby : i.bytes = bytes) (hzs : z.cells.size = size) (hsz : 0 < size)
    (v : Value) (n : Nat) (xs : List Value) (hs : a.eval s = v) (hown : w.ownsRow base e size v n xs)
    (B2 : Nat) (xv : Value) (m : Nat) (news : List Value) (hx : a.eval x = xv) (hsrc : w.ownsRow B2 e size xv m news) (h1 : ∀ u ∈ news, u.oneCell' = true)
    (h63 : n + m ≤ maxLen) (hbytes : (n + m) * bytes ≤ 140737488355328) (hbase : base ≤ w.heap.size)
    (h : ∀ v' w', w'.ownsRow base e size v' (n + m) (xs ++ news) → w.grownBy w' v.ownBlock → (v'.ownBlock = v.ownBlock ∨ v'.ownBlock = some w.heap.size) → wpList P ops Q rest (a.put o.dst v') w') :
    wpList P ops Q (o :: rest) a w := by
  rcases hsrc.2 with ⟨rfl, rfl⟩ | ⟨g, c, cur, rfl, _⟩
  · have hn : news = [] := List.eq_nil_of_length_eq_zero (by simpa using hsrc.1)
    subst hn
    refine wpList_append_own_none hgd s x t ho base e i size ht hi v n xs hs hown hx (h v w (by simpa using hown) ?_ (.inl rfl))
    exact ⟨rfl, rfl, rfl, Nat.le_refl _, fun _ _ _ => rfl⟩
  · exact wpList_append_own_at w hgd s x t ho base e i z size bytes ht hi hz hsize hby hzs hsz v n xs hs hown ⟨g, 0, none⟩ m c news hx hsrc.1 (hsrc.cells rfl) h1 h63 hbytes hbase (fun v' w' q1 q2 _ q4 => h v' w' q1 q2 q4)

theorem grown_chg {w w' : World} {row : Option Nat} (h : w.grownBy w' row) : Chg (fun k => row = some k) w w' :=
  ⟨h.os, h.tape, h.output, h.size, fun k hk hn => h.block k hk (fun e => hn e.symm)⟩

open Go.ChangeShapes Go.WideShapes Go.ChangeAt

theorem Tryd.cells5 : Tryd.prog.cellsOf 5 = 1 := by kernel_rfl

set_option maxRecDepth 100000 in
/-- What a slice of bytes that came in gives. -/
theorem open_u8s {H : Type} {enc : TypeId × Value → H} {W : World} {base : Nat} {v : Value} {d : DataW H} {p : List MemPlace} (hval : Value.okWide Tryd.prog W .any base 22 v) (h : DataW.Trod enc Tryd.prog W 0 (fun _ => true) true 22 v d p) :
    ∃ (a : Option Addr) (l : List UInt8) (c : Nat), v = .slice a l.length c ∧ RdB W (.slice a l.length c) l ∧ ∀ b, (Value.slice a l.length c).ownBlock = some b → b < W.heap.size := by
  obtain ⟨a, len, cap, rfl⟩ := okWide_slice Tryd.underlying22 hval
  obtain ⟨fuel, hf⟩ := h
  rcases open_ints Tryd.underlying22 Tryd.underlying5 Tryd.cells5 hf with ⟨hcs, hx⟩ | ⟨a1, len', cap', zs, hcs, _, hl, hm, hz, hx, hcell, hwz⟩
  · simp [Value.cells] at hcs
    obtain ⟨rfl, rfl, rfl⟩ := hcs
    exact ⟨none, [], 0, rfl, .inl ⟨rfl, rfl⟩, fun b hb => by simp [Value.ownBlock] at hb⟩
  · simp [Value.cells] at hcs
    obtain ⟨rfl, rfl, rfl⟩ := hcs
    simp only [if_true] at hz
    have hlen : ((zs.take len).map fun n => UInt8.ofNat n.toNat).length = len := by simp; omega
    have hok : World.has Tryd.prog W .any base a1 5 cap := by
      simp only [Value.okWide, Tryd.underlying22, Cell.okWide, Cell.ok] at hval
      exact hval.2.2
    obtain ⟨_, hspot, row, cells, hsh, _⟩ := hok
    obtain ⟨ab, ao, spot⟩ := a1
    simp only [] at hspot hsh
    subst hspot
    have hab : ab < W.heap.size := by
      rcases Nat.lt_or_ge ab W.heap.size with h | h
      · exact h
      · simp [World.shape?, Array.getElem?_eq_none h] at hsh
    refine ⟨some ⟨ab, ao, none⟩, (zs.take len).map fun n => UInt8.ofNat n.toNat, cap, by rw [hlen], .inr ⟨ab, ao, cap, rfl, by rw [hlen]; exact hl, hm, fun i hi => ?_⟩, fun b hb => by simp [Value.ownBlock] at hb; omega⟩
    rw [hlen] at hi
    have hcj := hcell i (by omega)
    rw [Addr.add_lit] at hcj
    rw [hcj]
    have hb := range_u8 hwz i
    rw [List.getD_eq_getElem?_getD, List.getD_eq_getElem?_getD, List.getElem?_map, List.getElem?_take, if_pos hi]
    obtain ⟨z, hzi⟩ : ∃ z, zs[i]? = some z := ⟨_, List.getElem?_eq_getElem (by omega)⟩
    rw [hzi] at hb ⊢
    simp only [Option.getD_some, Option.map_some] at hb ⊢
    congr 2
    simp only [UInt8.toNat_ofNat']
    omega

theorem u8_bounds {a : Int} (h : (Lit.int .u8 a).wf = true) : 0 ≤ a ∧ a ≤ 255 := by
  have e1 : IntKind.u8.min = 0 := rfl
  have e2 : IntKind.u8.max = 255 := rfl
  simp [Lit.wf, e1, e2] at h
  omega

theorem Tryd.own : ownKnob Tryd.prog.godebug = none := by kernel_rfl
theorem Tryd.laidOut : laidOutB Tryd.prog = true := by kernel_rfl
theorem Tryd.star : "*" ++ "errors.errorString" = "*errors.errorString" := by decide
theorem Tryd.row185 (u : TypeId) (h : Tryd.prog.typeName? 3 u = some "*errors.errorString") : u = 185 :=
  typeName_ptr_named (nm := "errors.errorString") (by rw [Tryd.star]; kernel_rfl) (by kernel_rfl) (by decide) u (by rw [Tryd.star]; exact h)

theorem laid_sentinel2 {P : Program} {n nm : String} {text : List UInt8} {r : List (String × DataW Unit)} {W : World} {g : Nat} {ti tp te ts : TypeId} {ms : Array (String × TypeId)} {f : Field}
    (h : laidMet P ((n, .iface nm (.ptr (.agg [.lit (.string text)]))) :: r) W)
    (hg : P.globalNamed n = some g) (ht : (P.globals[g]?).map (·.type) = some ti) (hi : P.underlying ti = some (.interface ms)) (hrow : ∀ u, P.typeName? 3 u = some nm → u = tp)
    (hp : P.underlying tp = some (.pointer te)) (he : P.underlying te = some (.struct #[f])) (hft : f.type = ts) (hfo : f.offset = 0) (hs : P.underlying ts = some .string) (hc : P.cellsOf te = 1) (hcs : P.cellsOf ts = 1) :
    ∃ (a : Addr) (s : ByteArray), W.cell? ⟨g, 0, none⟩ = some (.iface tp (.pointer (some a))) ∧ W.cell? a = some (.string s) ∧ s.data.toList = text ∧ ∃ c t, W.heap[a.block]? = some (.cells c t (0, 0)) := by
  obtain ⟨ps, ⟨g0, t0, cs0, f0, p0, q0, hg0, ht0, hv0, hd0, _, e0⟩, _, hrows⟩ := h
  obtain rfl := Option.some.inj (hg.symm.trans hg0)
  obtain rfl := Option.some.inj (ht.symm.trans ht0)
  subst e0
  obtain ⟨l0⟩ := cs0
  have ok0 : ∀ u v, l0 = [.iface u v] → Value.okWide P W .any 0 u v := fun u v e => by
    subst e
    exact (hrows g 0 (by simp [MemPlace.row])).2 u v (by simpa using World.var?_cell hg0 hv0 0)
  obtain ⟨a0, s0, rfl, hc0, hs0, hz0, hp0⟩ := errorString_of_trod hi hrow hp he hft hfo hs hc hcs hd0 ok0
  refine ⟨a0, s0, by simpa using World.var?_cell hg0 hv0 0, hc0, hs0, ?_⟩
  subst hp0
  obtain ⟨b, o, sp⟩ := a0
  have hsp : sp = none := World.cell?_spot hc0
  subst hsp
  exact (hrows b o (List.mem_append_left _ (List.mem_append_right _ (MemPlace.mem_row.2 ⟨0, by omega, by simp⟩)))).1

theorem sent_of_laid {W : World} (h : laidMetH Tryd.prog Rows.fnVMLongsRow.laid W) : ∃ e0 e1, Sent W W.heap.size e0 e1 := by
  have h0 : laidMet Tryd.prog [("io.ErrShortBuffer", Rows.laid_io_ErrShortBuffer), ("io.EOF", Rows.laid_io_EOF), ("io.ErrUnexpectedEOF", Rows.laid_io_ErrUnexpectedEOF)] W := h
  obtain ⟨a4, t4, v4, c4, s4, f4⟩ := laid_sentinel2 (g := 4) h0 (by kernel_rfl) (by kernel_rfl) Tryd.underlying82 Tryd.row185 Tryd.underlying185 (Tryd.underlying204) rfl rfl Tryd.underlying9 (by kernel_rfl) (by kernel_rfl)
  obtain ⟨a0, t0, v0, c0, s0, f0⟩ := laid_sentinel2 (g := 0) h0.tail (by kernel_rfl) (by kernel_rfl) Tryd.underlying82 Tryd.row185 Tryd.underlying185 (Tryd.underlying204) rfl rfl Tryd.underlying9 (by kernel_rfl) (by kernel_rfl)
  obtain ⟨a1, t1, v1, c1, s1, f1⟩ := laid_sentinel2 (g := 1) h0.tail.tail (by kernel_rfl) (by kernel_rfl) Tryd.underlying82 Tryd.row185 Tryd.underlying185 (Tryd.underlying204) rfl rfl Tryd.underlying9 (by kernel_rfl) (by kernel_rfl)
  have l4 := World.block_lt_of_cell? W _ v4
  simp only [] at l4
  refine ⟨a0, a1, ⟨v0, v1, l4⟩, ?_, f0, f1, World.block_lt_of_cell? W _ c0, World.block_lt_of_cell? W _ c1⟩
  rintro rfl
  rw [c0] at c1
  cases c1
  rw [s0] at s1
  exact absurd s1 (by decide)

/-- A world for the witness: the three sentinels laid. -/
noncomputable def laidWorld (os : Os) : World :=
  let N := (World.settled Tryd.prog os).heap.size
  let w0 := World.holding Tryd.prog os ⟨#[.cells #[.string ⟨#[115, 104, 111, 114, 116, 32, 98, 117, 102, 102, 101, 114]⟩] 204, .cells #[.string ⟨#[69, 79, 70]⟩] 204, .cells #[.string ⟨#[117, 110, 101, 120, 112, 101, 99, 116, 101, 100, 32, 69, 79, 70]⟩] 204], #[], []⟩
  let put (h : Array Obj) (g : Nat) (cs : Array Value) : Array Obj := h.modify g fun
    | .cells _ t frozen => .cells cs t frozen
    | o => o
  let h1 := put w0.heap 4 #[.iface 185 (.pointer (some ⟨N, 0, none⟩))]
  let h2 := put h1 0 #[.iface 185 (.pointer (some ⟨N + 1, 0, none⟩))]
  let h3 := put h2 1 #[.iface 185 (.pointer (some ⟨N + 2, 0, none⟩))]
  { w0 with heap := h3 }

noncomputable abbrev N0 : Nat := (World.settled Tryd.prog default).heap.size
theorem laid_in (os : Os) (args : Array Value) : LaidIn Tryd.prog ((laidWorld os).forCall (fun _ _ => 0) ⟨#[], args, []⟩).memory [("io.ErrShortBuffer", Rows.laid_io_ErrShortBuffer), ("io.EOF", Rows.laid_io_EOF), ("io.ErrUnexpectedEOF", Rows.laid_io_ErrUnexpectedEOF)] [4, N0, 0, N0 + 1, 1, N0 + 2] :=
  LaidIn.of_run [4, N0, 0, N0 + 1, 1, N0 + 2] 8 (by kernel_rfl) (by kernel_rfl) (by kernel_rfl) (by kernel_rfl)
theorem laid_met (os : Os) (args : Array Value) : laidMet Tryd.prog Rows.fnVMLongsRow.laid ((laidWorld os).forCall (fun _ _ => 0) ⟨#[], args, []⟩).memory := (laid_in os args).met
end Go.Proofs.YtkhicabfmkldpaaDoor

namespace Go.Proofs.YtkhicabfmkldpaaDoor
open Go Go.RowKit

/-- The code of a whole number: zigzag. -/
def zag (n : Int) : Nat := if n < 0 then (-2 * n - 1).toNat else (2 * n).toNat

/-- Seven bits in each byte, the lowest ones first. -/
def sevens : Nat → Nat → List UInt8
  | 0, u => [UInt8.ofNat u]
  | f + 1, u => if u < 128 then [UInt8.ofNat u] else UInt8.ofNat (u % 128 + 128) :: sevens f (u / 128)

theorem sevens_lt (f u : Nat) (h : u < 128) : sevens f u = [UInt8.ofNat u] := by
  cases f with
  | zero => rfl
  | succ f => unfold sevens; rw [if_pos h]

theorem sevens_ge (f u : Nat) (h : ¬ u < 128) : sevens (f + 1) u = UInt8.ofNat (u % 128 + 128) :: sevens f (u / 128) := by
  rw [sevens, if_neg h]

/-- The bytes of a whole number. -/
def longB (n : Int) : List UInt8 := sevens 9 (zag n)

theorem zag_lt (n : Int) (h : -9223372036854775808 ≤ n ∧ n < 9223372036854775808) : zag n < 18446744073709551616 := by
  unfold zag
  split <;> omega

theorem zig_zag (n : Int) (h : -9223372036854775808 ≤ n ∧ n < 9223372036854775808) : zig (zag n : Int) = n := by
  rw [zig_eq _ (by omega) (by have := zag_lt n h; omega)]
  unfold zag
  split <;> split <;> omega

theorem byte_small (u : Nat) (h : u < 256) : (UInt8.ofNat u).toNat = u := by
  rw [UInt8.toNat_ofNat']
  omega

theorem orS_any (acc : Int) (x : UInt8) (i m : Nat) (hi : 7 * i ≤ 64) (h0 : 0 ≤ acc) (h1 : acc < 2 ^ (7 * i)) (hx : x.toNat % 128 = m) (hb : (m : Int) * 2 ^ (7 * i) < 18446744073709551616) : orS .u64 acc x i = acc + (m : Int) * 2 ^ (7 * i) := by
  have hm : min (7 * i) 64 = 7 * i := by omega
  have hp : (0 : Int) < 2 ^ (7 * i) := Int.pow_pos (by decide)
  have hx2 : (x.toNat : Int) % 128 = (m : Int) := by omega
  have hb0 : 0 ≤ (m : Int) * 2 ^ (7 * i) := Int.mul_nonneg (by omega) (Int.le_of_lt hp)
  unfold orS wrK
  rw [hm, hx2]
  show bits .or .u64 acc (IntKind.u64.wrap _) = _
  rw [IntKind.wrap_u64, Int.emod_eq_of_lt hb0 hb]
  exact or_low .u64 64 (by decide) (by intro n h1 h2; rw [IntKind.wrap_u64]; omega) (7 * i) acc _ _ rfl (by omega) h0 h1 hb0 (by omega)

theorem lg_sevens (t : List UInt8) : ∀ (f i u : Nat) (acc : Int), i + f = 9 → u < 2 ^ (64 - 7 * i) → 0 ≤ acc → acc < 2 ^ (7 * i) → lg 10 i acc (sevens f u ++ t) = .ok (acc + (u : Int) * 2 ^ (7 * i)) t := by
  intro f
  induction f with
  | zero =>
    intro i u acc hi hu h0 h1
    obtain rfl : i = 9 := by omega
    have hu2 : u < 2 := hu
    show (if 10 ≤ 9 then LR.odd else if (UInt8.ofNat u).toNat < 128 then LR.ok (orS .u64 acc (UInt8.ofNat u) 9) t else _) = _
    have e : (2 : Int) ^ (7 * 9) = 9223372036854775808 := by decide
    rw [if_neg (by decide), byte_small u (by omega), if_pos (by omega), orS_any acc _ 9 u (by decide) h0 h1 (by rw [byte_small u (by omega)]; omega) (by rw [e]; omega)]
  | succ f ih =>
    intro i u acc hi hu h0 h1
    have hpow : (2 : Nat) ^ (64 - 7 * i) * 2 ^ (7 * i) = 18446744073709551616 := by rw [← Nat.pow_add, show 64 - 7 * i + 7 * i = 64 by omega]
    have hpos : 0 < (2 : Nat) ^ (7 * i) := Nat.pow_pos (by decide)
    have huu : u * 2 ^ (7 * i) < 18446744073709551616 := by
      rw [← hpow]
      exact Nat.mul_lt_mul_of_pos_right hu hpos
    have huI : (u : Int) * 2 ^ (7 * i) < 18446744073709551616 := by
      have e := Int.ofNat_lt.2 huu
      rw [Int.natCast_mul, Int.natCast_pow] at e
      exact e
    by_cases h : u < 128
    · rw [sevens_lt _ _ h]
      show (if 10 ≤ i then LR.odd else if (UInt8.ofNat u).toNat < 128 then LR.ok (orS .u64 acc (UInt8.ofNat u) i) t else _) = _
      rw [if_neg (by omega), byte_small u (by omega), if_pos (by omega), orS_any acc _ i u (by omega) h0 h1 (by rw [byte_small u (by omega)]; omega) huI]
    · rw [sevens_ge _ _ h]
      show (if 10 ≤ i then LR.odd else if (UInt8.ofNat (u % 128 + 128)).toNat < 128 then _ else lg 10 (i + 1) (orS .u64 acc (UInt8.ofNat (u % 128 + 128)) i) (sevens f (u / 128) ++ t)) = _
      have hle : (u % 128) * 2 ^ (7 * i) ≤ u * 2 ^ (7 * i) := Nat.mul_le_mul_right _ (Nat.mod_le _ _)
      have hleI : ((u % 128 : Nat) : Int) * 2 ^ (7 * i) ≤ (u : Int) * 2 ^ (7 * i) := by
        have e := Int.ofNat_le.2 hle
        rw [Int.natCast_mul, Int.natCast_mul, Int.natCast_pow] at e
        exact e
      have hm : (UInt8.ofNat (u % 128 + 128)).toNat % 128 = u % 128 := by rw [byte_small _ (by omega)]; omega
      have hlt := orS_lt acc (UInt8.ofNat (u % 128 + 128)) i h1
      rw [show (((UInt8.ofNat (u % 128 + 128)).toNat : Nat) : Int) % 128 = ((u % 128 : Nat) : Int) by omega] at hlt
      have hp : (0 : Int) < 2 ^ (7 * i) := Int.pow_pos (by decide)
      have hn : 0 ≤ ((u % 128 : Nat) : Int) * 2 ^ (7 * i) := Int.mul_nonneg (by omega) (Int.le_of_lt hp)
      have he : (2 : Int) ^ (7 * (i + 1)) = 128 * 2 ^ (7 * i) := by rw [show 7 * (i + 1) = 7 * i + 7 by omega, Int.pow_add]; omega
      rw [if_neg (by omega), byte_small _ (by omega), if_neg (by omega), orS_any acc _ i (u % 128) (by omega) h0 h1 hm (by omega), ih (i + 1) (u / 128) _ (by omega) ?_ (by omega) hlt, he]
      · congr 1
        have e : (u : Int) = ((u % 128 : Nat) : Int) + ((u / 128 : Nat) : Int) * 128 := by omega
        rw [e, Int.add_mul, Int.add_assoc, Int.mul_assoc]
      · have e : (2 : Nat) ^ (64 - 7 * i) = 2 ^ (64 - 7 * (i + 1)) * 128 := by
          rw [show (128 : Nat) = 2 ^ 7 by decide, ← Nat.pow_add]; congr 1; omega
        omega

theorem sevens_length (k : Nat) : ∀ f u : Nat, u < 128 ^ (k + 1) → (sevens f u).length ≤ k + 1 := by
  induction k with
  | zero =>
    intro f u h
    rw [sevens_lt f u (by simpa using h)]
    exact Nat.le_refl _
  | succ k ih =>
    intro f u h
    match f with
    | 0 => exact Nat.succ_le_succ (Nat.zero_le _)
    | f + 1 =>
      by_cases h1 : u < 128
      · rw [sevens_lt _ _ h1]; exact Nat.succ_le_succ (Nat.zero_le _)
      · rw [sevens_ge _ _ h1]
        refine Nat.succ_le_succ (ih f (u / 128) ?_)
        rw [Nat.pow_succ] at h
        omega

theorem lg_longB (n : Int) (h : -9223372036854775808 ≤ n ∧ n < 9223372036854775808) (t : List UInt8) : lg 10 0 0 (longB n ++ t) = .ok (zag n : Int) t := by
  have := lg_sevens t 9 0 (zag n) 0 (by omega) (zag_lt n h) (Int.le_refl _) (by decide)
  rw [show (0 : Int) + (zag n : Int) * 2 ^ (7 * 0) = (zag n : Int) by omega] at this
  exact this

theorem longB_len (n : Int) (h : -9223372036854775808 ≤ n ∧ n < 9223372036854775808) : 1 ≤ (longB n).length ∧ (longB n).length ≤ 10 := by
  have e : 128 ^ (9 + 1) = 1180591620717411303424 := by decide
  refine ⟨?_, sevens_length 9 9 (zag n) (by have := zag_lt n h; omega)⟩
  unfold longB sevens
  split <;> simp

theorem longB_len5 (n : Int) (h : -2147483648 ≤ n ∧ n ≤ 2147483647) : (longB n).length ≤ 5 :=
  sevens_length 4 9 (zag n) (by unfold zag; split <;> omega)

/-- The lowest bytes of a number, the lowest one first. -/
def lowB : Nat → Nat → List UInt8
  | 0, _ => []
  | k + 1, u => UInt8.ofNat (u % 256) :: lowB k (u / 256)

theorem lowB_length : ∀ k u, (lowB k u).length = k
  | 0, _ => rfl
  | k + 1, u => by show (lowB k (u / 256)).length + 1 = _; rw [lowB_length k]

theorem leN_lowB : ∀ k u, u < 256 ^ k → leN (lowB k u) = u
  | 0, u, h => by
    have h : u < 1 := h
    show 0 = u
    omega
  | k + 1, u, h => by
    show (UInt8.ofNat (u % 256)).toNat + 256 * leN (lowB k (u / 256)) = u
    rw [byte_small _ (by omega), leN_lowB k (u / 256) (by rw [Nat.pow_succ] at h; omega)]
    omega

/-- A plain value: which kind it has, its number, its bits, its text. -/
structure PV where
  n : Int
  f : Nat
  s : List UInt8

/-- The values of a kind. -/
def PV.Of (k : Nat) (d : PV) : Prop :=
  (k = 1 → (d.n = 0 ∨ d.n = 1) ∧ d.f = 0 ∧ d.s = []) ∧ (k = 2 → (-2147483648 ≤ d.n ∧ d.n ≤ 2147483647) ∧ d.f = 0 ∧ d.s = []) ∧ (k = 3 → (-9223372036854775808 ≤ d.n ∧ d.n < 9223372036854775808) ∧ d.f = 0 ∧ d.s = []) ∧
  (k = 4 → d.n = 0 ∧ d.f < 4294967296 ∧ d.s = []) ∧ (k = 5 → d.n = 0 ∧ d.f < 18446744073709551616 ∧ d.s = []) ∧ (k = 6 → d.n = 0 ∧ d.f = 0 ∧ d.s.length ≤ 8) ∧ (k = 7 → d.n = 0 ∧ d.f = 0 ∧ d.s.length ≤ 8)

/-- What is written of it. -/
def PV.bytes (k : Nat) (d : PV) : List UInt8 :=
  match k with
  | 1 => [UInt8.ofNat d.n.toNat]
  | 2 => longB d.n
  | 3 => longB d.n
  | 4 => lowB 4 d.f
  | 5 => lowB 8 d.f
  | 6 => longB d.s.length ++ d.s
  | 7 => longB d.s.length ++ d.s
  | _ => []

def setNames : List ByteArray := [⟨#[]⟩, nmSetBoolean, nmSetInt, nmSetLong, nmSetFloat, nmSetDouble, nmSetBytes, nmSetString]

/-- What is noted of it. -/
def PV.note (k : Nat) (d : PV) : Note := ⟨setNames.getD k ⟨#[]⟩, d.n + wrap64 d.f, strOf d.s, 0⟩

/-- The program that reads a value of a kind, and sets it. -/
def valIns (k : Nat) : List (Nat × Int) := [(0, (k : Int) + 1), (1, (k : Int) + 1)]

theorem lev_read {mx f : Nat} {ins : List (Nat × Int)} {r : Regs} {tgt outer field x : Int} {null kind : Bool} {s : St} (hb : s.bad = 0) (ho : s.odd = false) (hf : fetch ins s.pc = some (0, x)) (hl : ¬ s.left ≤ 1) :
    lev mx ins (f + 1) r tgt outer field null kind s = lev mx ins f (rd mx x r s.tick).1 tgt outer field null kind (rd mx x r s.tick).2 := by
  rw [lev, if_pos ⟨hb, ho⟩, hf]
  show (if s.left ≤ 1 then _ else _) = _
  rw [if_neg hl]
  rfl
theorem lev_set {mx f : Nat} {ins : List (Nat × Int)} {r : Regs} {tgt outer field x : Int} {null kind : Bool} {s : St} (hb : s.bad = 0) (ho : s.odd = false) (hf : fetch ins s.pc = some (1, x)) (hl : ¬ s.left ≤ 1) :
    lev mx ins (f + 1) r tgt outer field null kind s = lev mx ins f r tgt outer field null kind (st x tgt r s.tick) := by
  rw [lev, if_pos ⟨hb, ho⟩, hf]
  show (if s.left ≤ 1 then _ else _) = _
  rw [if_neg hl]
  rfl
theorem lev_over {mx f : Nat} {ins : List (Nat × Int)} {r : Regs} {tgt outer field : Int} {null kind : Bool} {s : St} (hb : s.bad = 0) (ho : s.odd = false) (hf : fetch ins s.pc = none) :
    lev mx ins (f + 1) r tgt outer field null kind s = s := by
  rw [lev, if_pos ⟨hb, ho⟩, hf]

theorem val_lev (k : Nat) (r : Regs) (d t : List UInt8) (nt : Note) (h1 : rd 10 ((k : Int) + 1) regs0 (st0 d 3000).tick = (r, { (st0 d 3000).tick with rest := t })) (h2 : st ((k : Int) + 1) 0 r ⟨2, t, [], 0, 2998, 0, false, false⟩ = ⟨2, t, [nt], 0, 2998, 0, false, false⟩) :
    lev 10 (valIns k) 3000 regs0 0 0 (-1) false false (st0 d 3000) = ⟨2, t, [nt], 0, 2998, 0, false, false⟩ := by
  rw [show 3000 = 2999 + 1 from rfl, lev_read (x := (k : Int) + 1) rfl rfl rfl (by show ¬ 3000 ≤ 1; omega)]
  rw [show 2999 + 1 = 3000 from rfl, h1]
  rw [show 2999 = 2998 + 1 from rfl, lev_set (x := (k : Int) + 1) rfl rfl rfl (by show ¬ 2999 ≤ 1; omega)]
  have e : (({ (st0 d 3000).tick with rest := t } : St)).tick = ⟨2, t, [], 0, 2998, 0, false, false⟩ := rfl
  rw [e, h2]
  rw [show 2998 = 2997 + 1 from rfl]
  exact lev_over rfl rfl rfl

theorem asLong_small (x : Nat) (h : x < 4294967296) : asLong112 x = wrap64 x := by
  unfold asLong112
  rw [IntKind.wrap_i64]
  unfold wrap64
  omega
theorem asLong_any (x : Nat) : asLong111 x = wrap64 x := by
  unfold asLong111
  rw [IntKind.wrap_i64]
  unfold wrap64
  omega

set_option maxRecDepth 100000 in
/-- What was written is read, and set. -/
theorem val_law (k : Nat) (hk : 1 ≤ k ∧ k ≤ 7) (d : PV) (hd : d.Of k) (t : List UInt8) :
    lev 10 (valIns k) 3000 regs0 0 0 (-1) false false (st0 (d.bytes k ++ t) 3000) = ⟨2, t, [d.note k], 0, 2998, 0, false, false⟩ := by
  obtain ⟨n, f, s⟩ := d
  obtain ⟨c1, c2, c3, c4, c5, c6, c7⟩ := hd
  match k, hk with
  | 1, _ =>
    obtain ⟨hn, hf, hs⟩ := c1 rfl
    simp only at hn hf hs
    subst hf hs
    rcases hn with rfl | rfl
    · exact val_lev 1 { regs0 with truth := false } _ t _ rfl (by simp [st, St.note, regs0, PV.note, setNames, wrap64, strOf])
    · exact val_lev 1 { regs0 with truth := true } _ t _ rfl (by simp [st, St.note, regs0, PV.note, setNames, wrap64, strOf])
  | 2, _ =>
    obtain ⟨hn, hf, hs⟩ := c2 rfl
    simp only at hn hf hs
    subst hf hs
    refine val_lev 2 { regs0 with num := n } _ t _ ?_ ?_
    · show (match lg 10 0 0 (longB n ++ t) with
        | .ok u t' => if zig u ≤ 2147483647 ∧ -2147483648 ≤ zig u ∧ (longB n ++ t).length ≤ t'.length + 5 then ({ regs0 with num := zig u }, { (st0 (longB n ++ t) 3000).tick with rest := t' }) else (regs0, { (st0 (longB n ++ t) 3000).tick with odd := true })
        | .eof => _
        | .odd => _) = _
      rw [lg_longB n (by omega)]
      show (if zig (zag n : Int) ≤ 2147483647 ∧ -2147483648 ≤ zig (zag n : Int) ∧ (longB n ++ t).length ≤ t.length + 5 then _ else _) = _
      rw [zig_zag n (by omega), if_pos ⟨by omega, by omega, by have := longB_len5 n hn; rw [List.length_append]; omega⟩]
      rfl
    · simp [st, St.note, regs0, PV.note, setNames, wrap64, strOf]
  | 3, _ =>
    obtain ⟨hn, hf, hs⟩ := c3 rfl
    simp only at hn hf hs
    subst hf hs
    refine val_lev 3 { regs0 with long := n } _ t _ ?_ ?_
    · show (match lg 10 0 0 (longB n ++ t) with
        | .ok u t' => ({ regs0 with long := zig u }, { (st0 (longB n ++ t) 3000).tick with rest := t' })
        | .eof => _
        | .odd => _) = _
      rw [lg_longB n hn]
      show (({ regs0 with long := zig (zag n : Int) }, _) : Regs × St) = _
      rw [zig_zag n hn]
      rfl
    · simp [st, St.note, regs0, PV.note, setNames, wrap64, strOf]
  | 4, _ =>
    obtain ⟨hn, hf, hs⟩ := c4 rfl
    simp only at hn hf hs
    subst hn hs
    refine val_lev 4 { regs0 with float := f } _ t _ ?_ ?_
    · show (if (lowB 4 f ++ t).length < 4 then (regs0, { (st0 (lowB 4 f ++ t) 3000).tick with bad := 1 }) else ({ regs0 with float := leN ((lowB 4 f ++ t).take 4) }, { (st0 (lowB 4 f ++ t) 3000).tick with rest := (lowB 4 f ++ t).drop 4 })) = _
      rw [if_neg (by rw [List.length_append, lowB_length]; omega), List.take_left' (lowB_length 4 f), List.drop_left' (lowB_length 4 f), leN_lowB 4 f hf]
      rfl
    · simp [st, St.note, regs0, PV.note, setNames, strOf, asLong_small f hf]
  | 5, _ =>
    obtain ⟨hn, hf, hs⟩ := c5 rfl
    simp only at hn hf hs
    subst hn hs
    refine val_lev 5 { regs0 with double := f } _ t _ ?_ ?_
    · show (if (lowB 8 f ++ t).length < 8 then (regs0, { (st0 (lowB 8 f ++ t) 3000).tick with bad := 1 }) else ({ regs0 with double := leN ((lowB 8 f ++ t).take 8) }, { (st0 (lowB 8 f ++ t) 3000).tick with rest := (lowB 8 f ++ t).drop 8 })) = _
      rw [if_neg (by rw [List.length_append, lowB_length]; omega), List.take_left' (lowB_length 8 f), List.drop_left' (lowB_length 8 f), leN_lowB 8 f hf]
      rfl
    · simp [st, St.note, regs0, PV.note, setNames, strOf, asLong_any f]
  | 6, _ =>
    obtain ⟨hn, hf, hs⟩ := c6 rfl
    simp only at hn hf hs
    subst hn hf
    refine val_lev 6 { regs0 with bytes := s } _ t _ ?_ ?_
    · show (match lg 10 0 0 (longB s.length ++ s ++ t) with
        | .ok u t' => if zig u < 0 ∨ 1000 < zig u then (regs0, { (st0 (longB s.length ++ s ++ t) 3000).tick with odd := true })
          else if (t'.length : Int) < zig u then (regs0, { (st0 (longB s.length ++ s ++ t) 3000).tick with bad := 1 })
          else ({ regs0 with bytes := t'.take (zig u).toNat }, { (st0 (longB s.length ++ s ++ t) 3000).tick with rest := t'.drop (zig u).toNat })
        | .eof => _
        | .odd => _) = _
      rw [List.append_assoc, lg_longB s.length (by omega)]
      show (if zig (zag s.length : Int) < 0 ∨ 1000 < zig (zag s.length : Int) then _ else if ((s ++ t).length : Int) < zig (zag s.length : Int) then _ else _) = _
      rw [zig_zag s.length (by omega), if_neg (by omega), if_neg (by rw [List.length_append]; omega)]
      show (({ regs0 with bytes := (s ++ t).take s.length }, { (st0 (longB s.length ++ (s ++ t)) 3000).tick with rest := (s ++ t).drop s.length }) : Regs × St) = _
      rw [List.take_left' rfl, List.drop_left' rfl]
      show _ = (({ regs0 with bytes := s }, { (st0 (longB s.length ++ s ++ t) 3000).tick with rest := t }) : Regs × St)
      rw [List.append_assoc]
    · simp [st, St.note, regs0, PV.note, setNames, wrap64]
  | 7, _ =>
    obtain ⟨hn, hf, hs⟩ := c7 rfl
    simp only at hn hf hs
    subst hn hf
    refine val_lev 7 { regs0 with text := s } _ t _ ?_ ?_
    · show (match lg 10 0 0 (longB s.length ++ s ++ t) with
        | .ok u t' => if zig u < 0 ∨ 1000 < zig u then (regs0, { (st0 (longB s.length ++ s ++ t) 3000).tick with odd := true })
          else if (t'.length : Int) < zig u then (regs0, { (st0 (longB s.length ++ s ++ t) 3000).tick with bad := 1 })
          else ({ regs0 with text := t'.take (zig u).toNat }, { (st0 (longB s.length ++ s ++ t) 3000).tick with rest := t'.drop (zig u).toNat })
        | .eof => _
        | .odd => _) = _
      rw [List.append_assoc, lg_longB s.length (by omega)]
      show (if zig (zag s.length : Int) < 0 ∨ 1000 < zig (zag s.length : Int) then _ else if ((s ++ t).length : Int) < zig (zag s.length : Int) then _ else _) = _
      rw [zig_zag s.length (by omega), if_neg (by omega), if_neg (by rw [List.length_append]; omega)]
      show (({ regs0 with text := (s ++ t).take s.length }, { (st0 (longB s.length ++ (s ++ t)) 3000).tick with rest := (s ++ t).drop s.length }) : Regs × St) = _
      rw [List.take_left' rfl, List.drop_left' rfl]
      show _ = (({ regs0 with text := s }, { (st0 (longB s.length ++ s ++ t) 3000).tick with rest := t }) : Regs × St)
      rw [List.append_assoc]
    · simp [st, St.note, regs0, PV.note, setNames, wrap64]
end Go.Proofs.YtkhicabfmkldpaaDoor

namespace Go.Proofs.YtkhicabfmkldpaaDoor
open Go Go.RowKit

/-- A plain schema. -/
def sch (k : Int) : Value := .agg #[.int .i64 k, .string ⟨#[]⟩, .string ⟨#[]⟩, .slice none 0 0, .slice none 0 0, .slice none 0 0, .string ⟨#[]⟩, .int .i64 0, .slice none 0 0]

/-- The maker of values in memory. -/
structure MkAt (w : World) (B M : Nat) (cv : Value) (left : Int) (code : List UInt8) : Prop where
  m : blk w M #[cv, .int .i64 left, .int .i64 0, .bool false, .slice none 0 0] 92
  code : RdB w cv code
  old : ∀ b, cv.ownBlock = some b → b < B
  le : B ≤ M

/-- What a step of it leaves. -/
def MkTo (w w' : World) (B M : Nat) (left : Int) (n : Nat) : Prop := ∃ cv' code', MkAt w' B M cv' left code' ∧ code'.length ≤ n ∧ Chg (fun k => k = M) w w'

set_option maxRecDepth 100000 in
theorem vbyte_any (B M : Nat) (cv : Value) (left : Int) (code : List UInt8) (w : World) (h : MkAt w B M cv left code) (hl : code.length ≤ 1000000) :
    Calls Tryd.prog 48 #[.pointer (some ⟨M, 0, none⟩)] w fun e w' => ∃ x : Nat, x < 256 ∧ e = .returned (.int .i64 (x : Int)) ∧ MkTo w w' B M left code.length := by
  have H := hid h
  cases code with
  | nil =>
    obtain ⟨a, cap, hcv⟩ := h.code.form
    have c0 : w.cell? ⟨M, 0, none⟩ = some (.slice a 0 cap) := by have := h.m.cell 0 (v := cv) rfl; rw [hcv] at this; exact this
    clear h hl hcv
    go_enter Tryd.func48, Tryd.ntmps48
    go_wp2
    go_ret
    exact ⟨0, by decide, rfl, _, _, H.out, Nat.le_refl _, Chg.refl _ w⟩
  | cons x r =>
    have hcode := h.code
    rcases hcode with ⟨_, h0⟩ | ⟨b, off, cap, hcv, h1, h2, h3⟩
    · cases h0
    · have c0 : w.cell? ⟨M, 0, none⟩ = some (.slice (some ⟨b, off, none⟩) (r.length + 1) cap) := by have := h.m.cell 0 (v := cv) rfl; rw [hcv] at this; exact this
      have f0 : w.frozen? ⟨M, 0, none⟩ = false := h.m.free 0
      have cb : w.cell? ⟨b, off, none⟩ = some (.int .u8 x.toNat) := h3 0 (by simp)
      have hx := x.toNat_lt
      have hcap : r.length + 1 ≤ cap := by simpa using h1
      have hrl : r.length + 1 ≤ 1000000 := by simpa using hl
      have hbB : b < B := h.old b (by rw [hcv]; rfl)
      have hbM : ¬ M = b := by have := h.le; omega
      have H3 := hid h3
      have H2 := hid h2
      have h63 : maxLen < 9223372036854775808 := by unfold maxLen; omega
      have fin : ∀ (off' cap' : Nat), RdB (w.setCell ⟨M, 0, none⟩ (.slice (some ⟨b, off', none⟩) r.length cap')) (.slice (some ⟨b, off', none⟩) r.length cap') r → MkTo w (w.setCell ⟨M, 0, none⟩ (.slice (some ⟨b, off', none⟩) r.length cap')) B M left (x :: r).length := by
        intro off' cap' hrd
        have hC : Chg (fun k => k = M) w (w.setCell ⟨M, 0, none⟩ (.slice (some ⟨b, off', none⟩) r.length cap')) := (Chg.refl (fun k => k = M) w).setCell (fun _ => rfl) _
        have hh := H.out
        exact ⟨_, r, ⟨hh.m.set 0 _, hrd, fun b' hb' => by cases hb'; exact hbB, hh.le⟩, by simp, hC⟩
      have Fin := hid fin
      have key : ∀ (off' cap' : Nat), cap' ≤ maxLen → (r.length ≤ cap') → (r ≠ [] → off' = off + 1) → RdB (w.setCell ⟨M, 0, none⟩ (.slice (some ⟨b, off', none⟩) r.length cap')) (.slice (some ⟨b, off', none⟩) r.length cap') r := by
        intro off' cap' k1 k2 k3
        refine .inr ⟨b, off', cap', rfl, k2, k1, fun i hi => ?_⟩
        have hre : r ≠ [] := by intro e; rw [e] at hi; simp at hi
        rw [k3 hre]
        have h4 := H3.out (i + 1) (by simp; omega)
        rw [show off + (i + 1) = off + 1 + i by omega] at h4
        have hbl := World.block_lt_of_cell? w _ h4
        rw [cell_of (((Chg.refl (fun k => k = M) w).setCell (p := ⟨M, 0, none⟩) (fun _ => rfl) _).block b hbl (fun e => hbM e.symm))]
        rw [h4]
        simp [List.getD_eq_getElem?_getD]
      have Key := hid key
      clear h h3 h1 h2 hl fin key hcv
      go_enter Tryd.func48, Tryd.ntmps48
      go_wp2
      · rename_i hc1
        go_ret
        have hr0 : r = [] := List.eq_nil_of_length_eq_zero (by omega)
        exact ⟨x.toNat, hx, rfl, Fin.out off 0 (Key.out off 0 (by omega) (by omega) (fun e => absurd hr0 e))⟩
      · go_ret
        exact ⟨x.toNat, hx, rfl, Fin.out (off + 1) (cap - 1) (Key.out (off + 1) (cap - 1) (by have := H2.out; omega) (by omega) (fun _ => rfl))⟩

/-- A plain schema lies in a block. -/
def SchAt (w : World) (b : Nat) (k : Int) : Prop := blk w b #[.int .i64 k, .string ⟨#[]⟩, .string ⟨#[]⟩, .slice none 0 0, .slice none 0 0, .slice none 0 0, .string ⟨#[]⟩, .int .i64 0, .slice none 0 0] 56

theorem types_none (k : Int) (hk : 1 ≤ k ∧ k ≤ 7) (w : World) : Calls Tryd.prog 32 #[sch k] w fun e w' => e = .returned (.slice none 0 0) ∧ Chg (fun _ => False) w w' := by
  have k8 : (k == 8) = false := by rw [beq_eq_false_iff_ne]; omega
  have k9 : (k == 9) = false := by rw [beq_eq_false_iff_ne]; omega
  have k10 : (k == 10) = false := by rw [beq_eq_false_iff_ne]; omega
  unfold sch
  go_enter Tryd.func32, Tryd.ntmps32
  go_wp2
  go_loopg [11, 3] 0 (fun j v11 v3 wr => v11 = .int .i64 0 ∧ v3 = .slice none 0 0 ∧ Hid (SchAt wr w.heap.size k ∧ Chg (fun _ => False) w wr))
  case atStart => exact ⟨rfl, rfl, hid ⟨blk_new _ _ _, (Chg.refl _ w).alloc _⟩⟩
  case round =>
    obtain ⟨rfl, rfl, HB⟩ := hrel
    have q0 := HB.out.1.cell 0 rfl
    have q4 := HB.out.1.cell 4 rfl
    have q8 := HB.out.1.cell 8 rfl
    go_wp2
    go_loopg [23, 3] 0 (fun j v23 v3 wr => v23 = .int .i64 0 ∧ v3 = .slice none 0 0 ∧ Hid (SchAt wr w.heap.size k ∧ Chg (fun _ => False) w wr))
    case atStart => exact ⟨rfl, rfl, HB⟩
    case round =>
      obtain ⟨rfl, rfl, HB2⟩ := hrel
      have q0 := HB2.out.1.cell 0 rfl
      go_wp2
      go_ret
      exact ⟨rfl, HB2.out.2⟩

theorem types_none2 (k : Int) (hk : 1 ≤ k ∧ k ≤ 7) (w : World) : Calls Tryd.prog 52 #[sch k] w fun e w' => e = .returned (.slice none 0 0) ∧ Chg (fun _ => False) w w' := by
  have k8 : (k == 8) = false := by rw [beq_eq_false_iff_ne]; omega
  have k9 : (k == 9) = false := by rw [beq_eq_false_iff_ne]; omega
  have k10 : (k == 10) = false := by rw [beq_eq_false_iff_ne]; omega
  unfold sch
  go_enter Tryd.func52, Tryd.ntmps52
  go_wp2
  go_loopg [28, 3] 0 (fun j v11 v3 wr => v11 = .int .i64 0 ∧ v3 = .slice none 0 0 ∧ Hid (SchAt wr w.heap.size k ∧ Chg (fun _ => False) w wr))
  case atStart => exact ⟨rfl, rfl, hid ⟨blk_new _ _ _, (Chg.refl _ w).alloc _⟩⟩
  case round =>
    obtain ⟨rfl, rfl, HB⟩ := hrel
    have q0 := HB.out.1.cell 0 rfl
    have q4 := HB.out.1.cell 4 rfl
    have q8 := HB.out.1.cell 8 rfl
    go_wp2
    go_loopg [41, 3] 0 (fun j v23 v3 wr => v23 = .int .i64 0 ∧ v3 = .slice none 0 0 ∧ Hid (SchAt wr w.heap.size k ∧ Chg (fun _ => False) w wr))
    case atStart => exact ⟨rfl, rfl, HB⟩
    case round =>
      obtain ⟨rfl, rfl, HB2⟩ := hrel
      have q0 := HB2.out.1.cell 0 rfl
      go_wp2
      go_ret
      exact ⟨rfl, HB2.out.2⟩

theorem sch_set {w : World} {b : Nat} {k0 : Int} (k : Int) (h : SchAt w b k0) : SchAt (((((((((w.setCell ⟨b, 0, none⟩ (.int .i64 k)).setCell ⟨b, 1, none⟩ (.string ⟨#[]⟩)).setCell ⟨b, 2, none⟩ (.string ⟨#[]⟩)).setCell ⟨b, 3, none⟩ (.slice none 0 0)).setCell ⟨b, 4, none⟩ (.slice none 0 0)).setCell ⟨b, 5, none⟩ (.slice none 0 0)).setCell ⟨b, 6, none⟩ (.string ⟨#[]⟩)).setCell ⟨b, 7, none⟩ (.int .i64 0)).setCell ⟨b, 8, none⟩ (.slice none 0 0)) b k ∧ Chg (fun x => x = b) w (((((((((w.setCell ⟨b, 0, none⟩ (.int .i64 k)).setCell ⟨b, 1, none⟩ (.string ⟨#[]⟩)).setCell ⟨b, 2, none⟩ (.string ⟨#[]⟩)).setCell ⟨b, 3, none⟩ (.slice none 0 0)).setCell ⟨b, 4, none⟩ (.slice none 0 0)).setCell ⟨b, 5, none⟩ (.slice none 0 0)).setCell ⟨b, 6, none⟩ (.string ⟨#[]⟩)).setCell ⟨b, 7, none⟩ (.int .i64 0)).setCell ⟨b, 8, none⟩ (.slice none 0 0)) := by
  unfold SchAt at h ⊢
  refine ⟨?_, ((((((((((Chg.refl (fun x => x = b) w).setCell (p := ⟨b, 0, none⟩) (fun _ => rfl) (.int .i64 k)).setCell (p := ⟨b, 1, none⟩) (fun _ => rfl) (.string ⟨#[]⟩)).setCell (p := ⟨b, 2, none⟩) (fun _ => rfl) (.string ⟨#[]⟩)).setCell (p := ⟨b, 3, none⟩) (fun _ => rfl) (.slice none 0 0)).setCell (p := ⟨b, 4, none⟩) (fun _ => rfl) (.slice none 0 0)).setCell (p := ⟨b, 5, none⟩) (fun _ => rfl) (.slice none 0 0)).setCell (p := ⟨b, 6, none⟩) (fun _ => rfl) (.string ⟨#[]⟩)).setCell (p := ⟨b, 7, none⟩) (fun _ => rfl) (.int .i64 0)).setCell (p := ⟨b, 8, none⟩) (fun _ => rfl) (.slice none 0 0))⟩
  have h1 := (((((((((h.set 0 (.int .i64 k)).set 1 (.string ⟨#[]⟩)).set 2 (.string ⟨#[]⟩)).set 3 (.slice none 0 0)).set 4 (.slice none 0 0)).set 5 (.slice none 0 0)).set 6 (.string ⟨#[]⟩)).set 7 (.int .i64 0)).set 8 (.slice none 0 0))
  simpa using h1

theorem find_none (k : Int) (w : World) : Calls Tryd.prog 47 #[.slice none 0 0, sch k] w fun e w' => e = .returned (sch k) ∧ Chg (fun _ => False) w w' := by
  unfold sch
  go_enter Tryd.func47, Tryd.ntmps47
  go_wp2
  go_loopg [9] 0 (fun j v11 wr => v11 = .int .i64 0 ∧ Hid (SchAt wr w.heap.size k ∧ SchAt wr (w.heap.size + 1) 0 ∧ Chg (fun _ => False) w wr))
  case atStart => exact ⟨rfl, hid ⟨(blk_new _ _ _).alloc _, blk_new' (by simp) _ _, ((Chg.refl _ w).alloc _).alloc _⟩⟩
  case round =>
    obtain ⟨rfl, HB⟩ := hrel
    have q0 := HB.out.1.cell 0 rfl
    have q1 := HB.out.1.cell 1 rfl
    have q2 := HB.out.1.cell 2 rfl
    have q3 := HB.out.1.cell 3 rfl
    have q4 := HB.out.1.cell 4 rfl
    have q5 := HB.out.1.cell 5 rfl
    have q6 := HB.out.1.cell 6 rfl
    have q7 := HB.out.1.cell 7 rfl
    have q8 := HB.out.1.cell 8 rfl
    have p0 := HB.out.2.1.cell 0 rfl
    have f0 := HB.out.2.1.free 0
    have p1 := HB.out.2.1.cell 1 rfl
    have f1 := HB.out.2.1.free 1
    have p2 := HB.out.2.1.cell 2 rfl
    have f2 := HB.out.2.1.free 2
    have p3 := HB.out.2.1.cell 3 rfl
    have f3 := HB.out.2.1.free 3
    have p4 := HB.out.2.1.cell 4 rfl
    have f4 := HB.out.2.1.free 4
    have p5 := HB.out.2.1.cell 5 rfl
    have f5 := HB.out.2.1.free 5
    have p6 := HB.out.2.1.cell 6 rfl
    have f6 := HB.out.2.1.free 6
    have p7 := HB.out.2.1.cell 7 rfl
    have f7 := HB.out.2.1.free 7
    have p8 := HB.out.2.1.cell 8 rfl
    have f8 := HB.out.2.1.free 8
    go_wp2
    obtain ⟨hb1, hc1⟩ := sch_set k HB.out.2.1
    (try simp only [Exit.inBlock, Exit.then])
    refine bodyPost_ret (results_cell_row rfl _ _ (w.heap.size + 1) 56 #[.int .i64 k, .string ⟨#[]⟩, .string ⟨#[]⟩, .slice none 0 0, .slice none 0 0, .slice none 0 0, .string ⟨#[]⟩, .int .i64 0, .slice none 0 0] (0, 0) _ rfl hb1 Tryd.underlying56 rfl (by kernel_rfl)) rfl ?_
    exact ⟨rfl, HB.out.2.2.trans hc1 (fun i hi e => by omega)⟩
end Go.Proofs.YtkhicabfmkldpaaDoor

namespace Go.Proofs.YtkhicabfmkldpaaDoor
open Go Go.RowKit

theorem arcode_any (a : Option Addr) (c : Nat) (l : List UInt8) (w : World) (h : RdB w (.slice a l.length c) l) :
    Calls Tryd.prog 21 #[.slice a l.length c] w fun e w' => e = .returned (.slice a (min l.length 120) c) ∧ w' = w := by
  obtain ⟨h1, h2⟩ := rdB_cap h
  clear h
  obtain ⟨n, hn⟩ : ∃ n, l.length = n := ⟨_, rfl⟩
  rw [hn] at h1 ⊢
  clear hn
  by_cases hi : n ≤ 120
  · have hi' : (n : Int) ≤ 120 := by omega
    have hm : min n 120 = n := by omega
    rw [hm]
    go_enter Tryd.func21, Tryd.ntmps21
    go_wp2
    go_ret
    exact ⟨rfl, rfl⟩
  · have hi' : ¬ (n : Int) ≤ 120 := by omega
    have hm : min n 120 = 120 := by omega
    rw [hm]
    go_enter Tryd.func21, Tryd.ntmps21
    go_wp2
    go_ret
    exact ⟨rfl, rfl⟩

theorem i8_range (x : Nat) : -128 ≤ IntKind.i8.wrap (x : Int) ∧ IntKind.i8.wrap (x : Int) ≤ 127 := by
  simp [IntKind.wrap, IntKind.bits, IntKind.signed]
  split <;> omega

theorem or_range (a b : Int) : -9223372036854775808 ≤ bits .or .i64 a b ∧ bits .or .i64 a b < 9223372036854775808 := by
  unfold bits
  rw [IntKind.wrap_i64]
  omega

/-- The maker as it has become. -/
structure MkAs (w w' : World) (B M : Nat) (cv : Value) (left : Int) (code : List UInt8) (n : Nat) : Prop where
  intro ::
  at' : MkAt w' B M cv left code
  len : code.length ≤ n
  chg : Chg (fun k => k = M) w w'

set_option maxHeartbeats 1000000 in
set_option maxRecDepth 100000 in
theorem number_32 (B M : Nat) (cv : Value) (left : Int) (code : List UInt8) (w : World) (h : MkAt w B M cv left code) (hl : code.length ≤ 1000000) :
    Calls Tryd.prog 49 #[.pointer (some ⟨M, 0, none⟩), .int .i64 32] w fun e w' => ∃ z : Int, (-2147483648 ≤ z ∧ z < 2147483648) ∧ e = .returned (.int .i64 z) ∧ MkTo w w' B M left code.length := by
  have H := hid h
  clear h
  go_enter Tryd.func49, Tryd.ntmps49
  go_wp2_with (go_at_call 48; fail)
  refine (vbyte_any B M cv left code _ H.out hl).mono ?_
  rintro e w1 ⟨x, hx, rfl, cv1, code1, q1, q2, q3⟩
  have H1 := hid q1
  have K1 := hid (And.intro q2 q3)
  clear q1 q2 q3
  have hw8 := i8_range x
  go_wp2_with (go_at_call 48; fail)
  refine (vbyte_any B M cv1 left code1 _ H1.out (by have := K1.out.1; omega)).mono ?_
  rintro e w2 ⟨x2, hx2, rfl, cv2, code2, q1, q2, q3⟩
  have H2 := hid (MkAs.intro q1 (Nat.le_trans q2 K1.out.1) (K1.out.2.trans q3 (fun _ _ e => e)))
  clear q1 q2 q3
  by_cases hb : x2 % 2 = 0
  · have hb' : (x2 : Int) % 2 = 0 := by omega
    go_wp2
    go_ret
    exact ⟨_, by omega, rfl, _, _, H2.out.at', H2.out.len, H2.out.chg⟩
  · have hb' : (x2 : Int) % 2 = 1 := by omega
    go_wp2
    clear hb'
    go_loopg [15, 5] 7 (fun j v15 v5 wr => ∃ (i : Nat) (N : Int) (cv' : Value) (code' : List UInt8), v15 = .int .i64 (i : Int) ∧ v5 = .int .i64 N ∧ i ≤ 7 ∧ j = 7 - i ∧ (-9223372036854775808 ≤ N ∧ N < 9223372036854775808) ∧ Hid (MkAs w wr B M cv' left code' code.length))
    case atStart => exact ⟨0, _, cv2, code2, rfl, rfl, by decide, rfl, by omega, H2⟩
    case round =>
      obtain ⟨i, N, cv', code', rfl, rfl, h1, rfl, hN, HR⟩ := hrel
      by_cases hin : i < 7
      · have hlt : (i : Int) < 7 := by omega
        go_wp2_with (go_at_call 48; fail)
        refine (vbyte_any B M cv' left code' _ HR.out.at' (by have := HR.out.len; omega)).mono ?_
        rintro e w9 ⟨x9, hx9, rfl, cv9, code9, q1, q2, q3⟩
        have H9 := hid (MkAs.intro q1 (Nat.le_trans q2 HR.out.len) (HR.out.chg.trans q3 (fun _ _ e => e)))
        clear q1 q2 q3
        go_wp2
        go_roundg (7 - (i + 1))
        case measure => omega
        case rel => exact ⟨i + 1, _, cv9, code9, by congr 1, rfl, by omega, rfl, or_range _ _, H9⟩
      · obtain rfl : i = 7 := by omega
        go_wp2
        go_ret
        exact ⟨_, by omega, rfl, _, _, HR.out.at', HR.out.len, HR.out.chg⟩

set_option maxHeartbeats 1000000 in
set_option maxRecDepth 100000 in
theorem number_64 (B M : Nat) (cv : Value) (left : Int) (code : List UInt8) (w : World) (h : MkAt w B M cv left code) (hl : code.length ≤ 1000000) :
    Calls Tryd.prog 49 #[.pointer (some ⟨M, 0, none⟩), .int .i64 64] w fun e w' => ∃ z : Int, (-9223372036854775808 ≤ z ∧ z < 9223372036854775808) ∧ e = .returned (.int .i64 z) ∧ MkTo w w' B M left code.length := by
  have H := hid h
  clear h
  go_enter Tryd.func49, Tryd.ntmps49
  go_wp2_with (go_at_call 48; fail)
  refine (vbyte_any B M cv left code _ H.out hl).mono ?_
  rintro e w1 ⟨x, hx, rfl, cv1, code1, q1, q2, q3⟩
  have H1 := hid q1
  have K1 := hid (And.intro q2 q3)
  clear q1 q2 q3
  have hw8 := i8_range x
  go_wp2_with (go_at_call 48; fail)
  refine (vbyte_any B M cv1 left code1 _ H1.out (by have := K1.out.1; omega)).mono ?_
  rintro e w2 ⟨x2, hx2, rfl, cv2, code2, q1, q2, q3⟩
  have H2 := hid (MkAs.intro q1 (Nat.le_trans q2 K1.out.1) (K1.out.2.trans q3 (fun _ _ e => e)))
  clear q1 q2 q3
  by_cases hb : x2 % 2 = 0
  · have hb' : (x2 : Int) % 2 = 0 := by omega
    go_wp2
    go_ret
    exact ⟨_, by omega, rfl, _, _, H2.out.at', H2.out.len, H2.out.chg⟩
  · have hb' : (x2 : Int) % 2 = 1 := by omega
    go_wp2
    clear hb'
    go_loopg [15, 5] 7 (fun j v15 v5 wr => ∃ (i : Nat) (N : Int) (cv' : Value) (code' : List UInt8), v15 = .int .i64 (i : Int) ∧ v5 = .int .i64 N ∧ i ≤ 7 ∧ j = 7 - i ∧ (-9223372036854775808 ≤ N ∧ N < 9223372036854775808) ∧ Hid (MkAs w wr B M cv' left code' code.length))
    case atStart => exact ⟨0, _, cv2, code2, rfl, rfl, by decide, rfl, by omega, H2⟩
    case round =>
      obtain ⟨i, N, cv', code', rfl, rfl, h1, rfl, hN, HR⟩ := hrel
      by_cases hin : i < 7
      · have hlt : (i : Int) < 7 := by omega
        go_wp2_with (go_at_call 48; fail)
        refine (vbyte_any B M cv' left code' _ HR.out.at' (by have := HR.out.len; omega)).mono ?_
        rintro e w9 ⟨x9, hx9, rfl, cv9, code9, q1, q2, q3⟩
        have H9 := hid (MkAs.intro q1 (Nat.le_trans q2 HR.out.len) (HR.out.chg.trans q3 (fun _ _ e => e)))
        clear q1 q2 q3
        go_wp2
        go_roundg (7 - (i + 1))
        case measure => omega
        case rel => exact ⟨i + 1, _, cv9, code9, by congr 1, rfl, by omega, rfl, or_range _ _, H9⟩
      · obtain rfl : i = 7 := by omega
        go_wp2
        go_ret
        exact ⟨_, by omega, rfl, _, _, HR.out.at', HR.out.len, HR.out.chg⟩

end Go.Proofs.YtkhicabfmkldpaaDoor

namespace Go.Proofs.YtkhicabfmkldpaaDoor
open Go Go.RowKit

theorem MkAt.alloc {w : World} {B M : Nat} {cv : Value} {left : Int} {code : List UInt8} (h : MkAt w B M cv left code) (o : Obj) : MkAt (w.alloc o) B M cv left code := ⟨h.m.alloc o, h.code.alloc o, h.old, h.le⟩

set_option maxHeartbeats 1000000 in
set_option maxRecDepth 100000 in
theorem word_any (B M : Nat) (cv : Value) (left : Int) (code : List UInt8) (w : World) (h : MkAt w B M cv left code) (hl : code.length ≤ 1000000) :
    Calls Tryd.prog 50 #[.pointer (some ⟨M, 0, none⟩)] w fun e w' => ∃ T : ByteArray, T.size ≤ 8 ∧ e = .returned (.string T) ∧ MkTo w w' B M left code.length := by
  have H := hid h
  clear h
  go_enter Tryd.func50, Tryd.ntmps50
  go_wp2_with (go_at_call 48; fail)
  refine (vbyte_any B M cv left code _ H.out hl).mono ?_
  rintro e w1 ⟨x, hx, rfl, cv1, code1, q1, q2, q3⟩
  have H1 := hid (MkAs.intro q1 q2 q3)
  clear q1 q2 q3
  obtain ⟨n0, hn0⟩ : ∃ n, x % 9 = n := ⟨_, rfl⟩
  have hn8 : n0 ≤ 8 := by omega
  have hn0' : (x : Int) % 9 = (n0 : Int) := by omega
  clear hn0
  go_wp2
  have Hn0 := hid hn0'
  clear hn0'
  go_loopg [4, 3] n0 (fun j v4 v3 wr => ∃ (n : Nat) (T : ByteArray) (cv' : Value) (code' : List UInt8), v4 = .int .i64 (n : Int) ∧ v3 = .string T ∧ n = j ∧ T.size + n ≤ 8 ∧ Hid (MkAs w wr B M cv' left code' code.length))
  case atStart => exact ⟨n0, _, cv1, code1, by rw [Hn0.out], rfl, rfl, (show (0 : Nat) + n0 ≤ 8 by omega), H1⟩
  case round =>
    obtain ⟨n, T, cv', code', rfl, rfl, rfl, h8, HR⟩ := hrel
    by_cases hin : 0 < n
    · have hlt : (0 : Int) < (n : Int) := by omega
      go_wp2_with (go_at_call 48; fail)
      refine (vbyte_any B M cv' left code' _ HR.out.at' (by have := HR.out.len; omega)).mono ?_
      rintro e w9 ⟨x9, hx9, rfl, cv9, code9, q1, q2, q3⟩
      have H9 := hid (MkAs.intro q1 (Nat.le_trans q2 HR.out.len) (HR.out.chg.trans q3 (fun _ _ e => e)))
      clear q1 q2 q3
      obtain ⟨c, hc⟩ : ∃ n, x9 % 26 = n := ⟨_, rfl⟩
      have hc26 : c < 26 := by omega
      have hc' : (x9 : Int) % 26 = (c : Int) := by omega
      clear hc
      obtain ⟨bb, hbb⟩ : ∃ b, UInt8.ofNat (97 + c) = b := ⟨_, rfl⟩
      have hcv := run_str (rdB_one w9 bb)
      rw [show ((bb.toNat : Nat) : Int) = 97 + (c : Int) by rw [← hbb, byte_small _ (by omega)]; omega] at hcv
      clear hbb
      have hs1 : (strOf [bb]).size = 1 := rfl
      go_wp2
      go_roundg (n - 1)
      case measure => omega
      case rel => exact ⟨n - 1, _, cv9, code9, by congr 1; omega, rfl, rfl, by rw [ByteArray.size_append]; show T.size + 1 + (n - 1) ≤ 8; omega, MkAs.intro (H9.out.at'.alloc _) H9.out.len (H9.out.chg.alloc _)⟩
    · obtain rfl : n = 0 := by omega
      go_wp2
      go_ret
      exact ⟨T, by omega, rfl, _, _, HR.out.at', HR.out.len, HR.out.chg⟩

theorem zag_pos (n : Int) (h0 : ¬ n < 0) (h1 : n < 9223372036854775808) : IntKind.u64.wrap (IntKind.u64.wrap n * 2) = (zag n : Int) := by
  rw [IntKind.wrap_u64, IntKind.wrap_u64]
  unfold zag
  rw [if_neg h0]
  omega

theorem zag_neg (n : Int) (h0 : n < 0) (h1 : -9223372036854775808 ≤ n) : bits .xor .u64 IntKind.u64.max (IntKind.u64.wrap (IntKind.u64.wrap n * 2)) = (zag n : Int) := by
  rw [IntKind.wrap_u64, IntKind.wrap_u64]
  show IntKind.u64.wrap ((BitVec.ofInt 64 IntKind.u64.max ^^^ BitVec.ofInt 64 (n % 18446744073709551616 * 2 % 18446744073709551616)).toNat : Int) = _
  rw [show BitVec.ofInt 64 IntKind.u64.max = BitVec.allOnes 64 by decide, BitVec.xor_comm, BitVec.xor_allOnes, BitVec.toNat_not, ofInt64, IntKind.wrap_u64]
  unfold zag
  rw [if_pos h0]
  omega

set_option maxRecDepth 100000 in
theorem or_128 (u : Nat) : bits .or .u8 ((u : Int) % 256) 128 = ((u % 128 + 128 : Nat) : Int) := by
  have h := (bits_nat .u8 8 (by decide) (by intro n h1 h2; rw [IntKind.wrap_u8]; omega) (u % 256) 128 (by omega) (by decide)).2
  have k : ∀ a : Fin 256, (a.val ||| 128) = a.val % 128 + 128 := by decide
  have k2 := k ⟨u % 256, by omega⟩
  simp only at k2
  rw [k2] at h
  rw [show ((u : Int) % 256) = ((u % 256 : Nat) : Int) by omega, show (128 : Int) = ((128 : Nat) : Int) from rfl, h]
  omega

def byteCells (l : List UInt8) : List Value := l.map fun b => .int .u8 (b.toNat : Int)
theorem byteCells_snoc (l : List UInt8) (m : Nat) (h : m < 256) : byteCells (l ++ [UInt8.ofNat m]) = byteCells l ++ [.int .u8 (m : Int)] := by
  unfold byteCells
  rw [List.map_append]
  show _ ++ [Value.int .u8 ((UInt8.ofNat m).toNat : Int)] = _
  rw [byte_small m h]

theorem Tryd.info5 : (Tryd.prog.info? 5).map (fun i => (i.zero, i.size, i.bytes)) = some (some (.int .u8 0), 1, 1) := by kernel_rfl

/-- A row of bytes that a call has made. -/
structure Out (w wr : World) (v : Value) (l : List UInt8) : Prop where
  own : wr.ownsRow w.heap.size 5 1 v l.length (byteCells l)
  chg : Chg (fun _ => False) w wr

theorem Out.app {w wr wz : World} {v : Value} {l : List UInt8} {m g cap : Nat} {o : Obj} (h : Out w wr v l) (hm : m < 256) (z1 : wz.ownsRow w.heap.size 5 1 (.slice (some ⟨g, 0, none⟩) (l.length + 1) cap) (l.length + 1) (byteCells l ++ [.int .u8 (m : Int)])) (z2 : (wr.alloc o).grownBy wz v.ownBlock) :
    Out w wz (.slice (some ⟨g, 0, none⟩) (l.length + 1) cap) (l ++ [UInt8.ofNat m]) := by
  refine ⟨by rw [byteCells_snoc l m hm, List.length_append]; exact z1, (h.chg.alloc o).trans (grown_chg z2) (fun i hi e => ?_)⟩
  have := (h.own.lt i e).1
  omega

set_option maxHeartbeats 1000000 in
set_option maxRecDepth 100000 in
theorem vlong_any (n : Int) (hn : -9223372036854775808 ≤ n ∧ n < 9223372036854775808) (w : World) :
    Calls Tryd.prog 67 #[.int .i64 n] w fun e w' => ∃ v, e = .returned v ∧ Out w w' v (longB n) := by
  have hz := zag_lt n hn
  obtain ⟨i5, y1, y2, y3, y4⟩ := info_parts Tryd.info5
  by_cases h0 : n < 0
  all_goals
    first
    | have hzz := zag_neg n h0 hn.1
    | have hzz := zag_pos n h0 hn.2
    go_enter Tryd.func67, Tryd.ntmps67
    go_wp2
    have Hzz := hid hzz
    clear hzz
    go_loopg [4, 3] 9 (fun j v4 v3 wr => ∃ (u : Nat) (v : Value) (l : List UInt8), v3 = .int .u64 (u : Int) ∧ v = v4 ∧ u < 18446744073709551616 ∧ l.length ≤ 20 ∧ Hid (u < 128 * 128 ^ j ∧ l.length + j = 9 ∧ l ++ sevens j u = longB n) ∧ Hid (Out w wr v l))
    case atStart =>
      have e : 128 * 128 ^ 9 = 1180591620717411303424 := by decide
      exact ⟨zag n, _, [], (by first | rfl | (congr 1; unfold zag; rw [if_neg (by omega)]; omega)), rfl, hz, by decide, hid ⟨by omega, rfl, rfl⟩, hid ⟨⟨rfl, .inl ⟨rfl, rfl⟩⟩, Chg.refl _ w⟩⟩
    case round =>
      obtain ⟨u, v, l, rfl, rfl, hu, hl20, HJ, HO⟩ := hrel
      by_cases h9 : u < 128
      · have h9' : ¬ (127 : Int) < (u : Int) := by omega
        go_wp2_with (at_builtin; (refine wpList_append_lies _ rfl _ _ _ rfl w.heap.size 5 i5 _ 1 1 Tryd.underlying22 y1 y2 y3 y4 rfl (by omega) v l.length (byteCells l) rfl (HO.out.own.alloc _) ⟨wr.heap.size, 0, none⟩ 1 1 [.int .u8 (u : Int)] rfl rfl (World.news_of_block (blk_new _ _ _)) (by simp [Value.oneCell']) (by omega) (by unfold maxLen; omega) (by omega) (by have := HO.out.chg.size; simp; omega) (wr.heap.size + 1) (by simp) ?_); intro g cap wz z1 z2 z3 z4; have HZ := hid (HO.out.app (by omega) z1 z2); clear z1 z2 z3 z4)
        go_ret
        refine ⟨_, rfl, ?_⟩
        have e := HJ.out.2.2
        rw [sevens_lt _ _ h9] at e
        exact e ▸ HZ.out
      · have h9' : (127 : Int) < (u : Int) := by omega
        have hor := or_128 u
        obtain ⟨m, hm⟩ : ∃ m, u % 128 + 128 = m := ⟨_, rfl⟩
        rw [hm] at hor
        have hm256 : m < 256 := by omega
        have Hm := hid hm
        clear hm
        go_wp2_with (at_builtin; (refine wpList_append_lies _ rfl _ _ _ rfl w.heap.size 5 i5 _ 1 1 Tryd.underlying22 y1 y2 y3 y4 rfl (by omega) v l.length (byteCells l) rfl (HO.out.own.alloc _) ⟨wr.heap.size, 0, none⟩ 1 1 [.int .u8 (m : Int)] rfl rfl (World.news_of_block (blk_new _ _ _)) (by simp [Value.oneCell']) (by omega) (by unfold maxLen; omega) (by omega) (by have := HO.out.chg.size; simp; omega) (wr.heap.size + 1) (by simp) ?_); intro g cap wz z1 z2 z3 z4; have HZ := hid (HO.out.app hm256 z1 z2); clear z1 z2 z3 z4)
        have hgk : 0 < gk := by
          rcases Nat.eq_zero_or_pos gk with e | e
          · have := HJ.out.1
            rw [e] at this
            omega
          · exact e
        obtain ⟨f, rfl⟩ : ∃ f, gk = f + 1 := ⟨gk - 1, by omega⟩
        go_roundg f
        case measure => omega
        case rel =>
          refine ⟨u / 128, _, _, (by congr 1), rfl, by omega, by have := HJ.out.2.1; rw [List.length_append]; show l.length + 1 ≤ 20; omega, hid ⟨?_, ?_, ?_⟩, HZ⟩
          · have := HJ.out.1
            rw [Nat.pow_succ] at this
            omega
          · have := HJ.out.2.1
            rw [List.length_append]
            show l.length + 1 + f = 9
            omega
          · have e := HJ.out.2.2
            rw [sevens_ge _ _ h9, Hm.out] at e
            rw [List.append_assoc]
            exact e
end Go.Proofs.YtkhicabfmkldpaaDoor

namespace Go.Proofs.YtkhicabfmkldpaaDoor
open Go Go.RowKit

set_option maxHeartbeats 1000000 in
set_option maxRecDepth 100000 in
theorem low_any (u : Nat) (hu : u < 18446744073709551616) (k : Nat) (hk : k = 4 ∨ k = 8) (w : World) :
    Calls Tryd.prog 68 #[.int .u64 (u : Int), .int .i64 (k : Int)] w fun e w' => ∃ v, e = .returned v ∧ Out w w' v (lowB k u) := by
  obtain ⟨i5, y1, y2, y3, y4⟩ := info_parts Tryd.info5
  have hk8 : k ≤ 8 := by omega
  clear hk
  go_enter Tryd.func68, Tryd.ntmps68
  go_wp2
  go_loopg [6, 5] k (fun j v6 v5 wr => ∃ (i : Nat) (v : Value) (l : List UInt8), v6 = .int .i64 (i : Int) ∧ v = v5 ∧ i ≤ k ∧ j = k - i ∧ l.length ≤ 8 ∧ Hid (l.length = i ∧ l ++ lowB (k - i) (u / 256 ^ i) = lowB k u) ∧ Hid (Out w wr v l))
  case atStart => exact ⟨0, _, [], rfl, rfl, Nat.zero_le _, rfl, by decide, hid ⟨rfl, by simp⟩, hid ⟨⟨rfl, .inl ⟨rfl, rfl⟩⟩, Chg.refl _ w⟩⟩
  case round =>
    obtain ⟨i, v, l, rfl, rfl, h1, rfl, hl8, HJ, HO⟩ := hrel
    by_cases hin : i < k
    · have hlt : (i : Int) < (k : Int) := by omega
      obtain ⟨m, hm⟩ : ∃ m, u / 256 ^ i % 256 = m := ⟨_, rfl⟩
      have hm256 : m < 256 := by omega
      have hby : (u : Int) / 2 ^ (8 * i) % 256 = (m : Int) := by
        rw [← hm, Int.natCast_emod, Int.natCast_ediv, show 8 * i = 8 * i from rfl, Int.pow_mul]
        rfl
      have Hm := hid hm
      clear hm
      go_wp2_with (at_builtin; (refine wpList_append_lies _ rfl _ _ _ rfl w.heap.size 5 i5 _ 1 1 Tryd.underlying22 y1 y2 y3 y4 rfl (by omega) v l.length (byteCells l) rfl (HO.out.own.alloc _) ⟨wr.heap.size, 0, none⟩ 1 1 [.int .u8 (m : Int)] rfl rfl (World.news_of_block (blk_new _ _ _)) (by simp [Value.oneCell']) (by omega) (by unfold maxLen; omega) (by omega) (by have := HO.out.chg.size; simp; omega) (wr.heap.size + 1) (by simp) ?_); intro g cap wz z1 z2 z3 z4; have HZ := hid (HO.out.app hm256 z1 z2); clear z1 z2 z3 z4)
      go_roundg (k - (i + 1))
      case measure => omega
      case rel =>
        refine ⟨i + 1, _, _, (by congr 1), rfl, by omega, rfl, by rw [List.length_append]; have := HJ.out.1; show l.length + 1 ≤ 8; omega, hid ⟨?_, ?_⟩, HZ⟩
        · rw [List.length_append, HJ.out.1]
          rfl
        · have e := HJ.out.2
          obtain ⟨j, hj⟩ : ∃ j, k - i = j + 1 := ⟨k - i - 1, by omega⟩
          rw [hj] at e
          rw [show k - (i + 1) = j by omega, List.append_assoc, Nat.pow_succ, ← Nat.div_div_eq_div_mul]
          rw [← e]
          show l ++ (UInt8.ofNat m :: lowB j (u / 256 ^ i / 256)) = l ++ (UInt8.ofNat (u / 256 ^ i % 256) :: lowB j (u / 256 ^ i / 256))
          rw [Hm.out]
    · obtain rfl : i = k := by omega
      go_wp2
      go_ret
      refine ⟨_, rfl, ?_⟩
      have e := HJ.out.2
      rw [Nat.sub_self] at e
      rw [show l ++ lowB 0 (u / 256 ^ i) = l from List.append_nil l] at e
      exact e ▸ HO.out

end Go.Proofs.YtkhicabfmkldpaaDoor
