/-
  FnVMHalts: its row, and its card.
  FnVMHalts: the law's walk, whole.
  FnVMHalts: a program halts with the text that its Halt says: the walk.
  FnVMHalts: a program halts with the text that its Halt says: the walk.
  FnVMHalts: a program halts with the text that its Halt says: the walk. AVDigits of one digit.
  What the walks of Cut, Halts, Joins share: runs of either machine, slices of notes, slices of bytes that came in.
-/
import Derived.Test.YtkhicabfmkldpaaDoorLaws
import Derived.ChangeSlices
import Derived.WideShapes
import Derived.Laws.AppendOwnNone
import Derived.Deep.RegionWith
set_option linter.unusedSimpArgs false
set_option linter.unusedVariables false
namespace Go.Proofs.YtkhicabfmkldpaaDoor
open Go Go.RowKit

theorem CallsAt.form {w : World} {v : Value} {l : List Note} (h : CallsAt w v l) : ∃ (a : Option Addr) (c : Nat), v = .slice a l.length c ∧ l.length ≤ c ∧ c < 9223372036854775808 := by
  rcases h with ⟨rfl, rfl⟩ | ⟨b, off, cap, rfl, h1, h2, _⟩
  · exact ⟨none, 0, rfl, Nat.le_refl _, by omega⟩
  · exact ⟨_, cap, rfl, h1, by unfold maxLen at h2; omega⟩

theorem CallsAt.front {w : World} {a : Option Addr} {c : Nat} {l : List Note} (h : CallsAt w (.slice a l.length c) l) (k : Nat) (hk : k ≤ l.length) : CallsAt w (.slice a k c) (l.take k) := by
  rcases h with ⟨h1, h2⟩ | ⟨b, off, cap, h1, h2, h3, h4⟩
  · subst h2
    simp at h1 hk
    obtain ⟨rfl, rfl⟩ := h1
    subst hk
    exact .inl ⟨rfl, rfl⟩
  · simp at h1
    obtain ⟨rfl, rfl⟩ := h1
    have hlen : (l.take k).length = k := by rw [List.length_take]; omega
    refine .inr ⟨b, off, c, by rw [hlen], by rw [hlen]; omega, h3, fun i n hi => ?_⟩
    rw [List.getElem?_take] at hi
    split at hi
    · exact h4 i n hi
    · cases hi

theorem CallsAt.front' {w : World} {a : Option Addr} {c n : Nat} {l : List Note} (h : CallsAt w (.slice a n c) l) (e : n = l.length) (k : Nat) (hk : k ≤ n) : CallsAt w (.slice a k c) (l.take k) := by
  subst e
  exact h.front k hk

/-- A program that lies in memory, since the world w0. -/
def Rn (w0 : World) (l : List (Nat × Int)) (iv : Value) (w : World) : Prop := InAt w iv l ∧ (∀ g, iv.ownBlock = some g → g < w.heap.size) ∧ Chg (fun _ => False) w0 w

theorem Rn.chg {w0 w w' : World} {l : List (Nat × Int)} {iv : Value} (h : Rn w0 l iv w) (hc : Chg (fun _ => False) w w') : Rn w0 l iv w' :=
  ⟨h.1.chg hc, fun g hg => Nat.lt_of_lt_of_le (h.2.1 g hg) hc.size, h.2.2.trans hc (fun _ _ e => e)⟩

/-- A run of the specification's machine, as the walks need it. -/
theorem spec_run {w0 : World} {l : List (Nat × Int)} {iv dv : Value} {data : List UInt8} {w : World} (hR : Rn w0 l iv w) (hA : Asked l data) (hD : RdB w0 dv data) (hDo : ∀ g, dv.ownBlock = some g → g < w0.heap.size) {s' : St} (hs' : lev 9 l 3000 regs0 0 0 (-1) false false (st0 data 3000) = s') :
    Calls Tryd.prog 11 #[iv, dv] w fun e w' => ∃ (nv : Value) (n : Int) (fine : Bool), e = .returned (.tuple #[nv, .int .i64 n, .bool fine, .bool (!s'.odd && decide (0 < s'.left))]) ∧ CallsAt w' nv s'.notes ∧ (s'.odd = false → fine = decide (s'.bad = 0)) ∧ (s'.odd = false → s'.bad = 0 → n = s'.rest.length) ∧ Rn w0 l iv w' ∧ Chg (fun _ => False) w w' :=
  (vmruns l data iv dv w hR.1.spIn hR.2.1 (hD.chg hR.2.2 (fun _ _ _ e => e)) (fun g hg => Nat.lt_of_lt_of_le (hDo g hg) hR.2.2.size) (callsOk_of hA) hA.n2 hA.data s' hs').mono
    fun e w' ⟨nv, n, fine, he, h1, _, h3, h4, h5⟩ => ⟨nv, n, fine, he, h1, h3, h4, hR.chg h5, h5⟩

/-- A run of the implementation's machine without texts, as the walks need it. -/
theorem impl_run {w0 : World} {l : List (Nat × Int)} {iv dv : Value} {data : List UInt8} {w : World} {e0 e1 : Addr} (sl : Bool) (hR : Rn w0 l iv w) (hA : Asked l data) (hH : ∀ (i : Nat) (x : Int), l[i]? = some (10, x) → x = 0) (hD : RdB w0 dv data) (hDo : ∀ g, dv.ownBlock = some g → g < w0.heap.size) (hS : Sent w0 w0.heap.size e0 e1)
    {s' : St} (hs' : lev 9 l 3000 regs0 0 0 (-1) false false (st0 data 3000) = s') (hG : Good s') :
    Calls Tryd.prog 13 #[iv, .slice none 0 0, dv, .bool sl] w fun e w' => ∃ (a : Option Addr) (c : Nat) (k : Nat) (why : ByteArray), e = .returned (.tuple #[.slice a s'.notes.length c, .int .i64 k, .string why, .bool (decide (s'.bad = 0))]) ∧ CallsAt w' (.slice a s'.notes.length c) s'.notes ∧ s'.notes.length ≤ c ∧ c < 9223372036854775808 ∧ (s'.bad = 0 → k = s'.rest.length) ∧ WhyIs [] s'.bad why ∧ Rn w0 l iv w' ∧ Chg (fun _ => False) w w' := by
  refine (vmrun sl l [] data iv _ dv e0 e1 9 s' w hA hR.1 (.inl ⟨rfl, rfl⟩) (fun q s h => by simp at h) (fun i x h => by rw [hH i x h]; exact ⟨Int.le_refl _, Int.le_refl _⟩) (hD.chg hR.2.2 (fun _ _ _ e => e)) (fun g hg => Nat.lt_of_lt_of_le (hDo g hg) hR.2.2.size) (hS.keep hR.2.2) hs' hG).mono ?_
  rintro e w' ⟨v', rest', why, rfl, hca, _, hre, hwhy, hch⟩
  obtain ⟨a, c, rfl, h1, h2⟩ := hca.form
  exact ⟨a, c, rest'.length, why, rfl, hca, h1, h2, fun h => by rw [hre h], hwhy, hR.chg hch, hch⟩

theorem good_of {s : St} (h : (!s.odd && decide (0 < s.left)) = true) : s.odd = false ∧ 0 < s.left := by
  rw [Bool.and_eq_true, Bool.not_eq_true', decide_eq_true_eq] at h
  exact h

set_option maxRecDepth 100000 in
theorem lev_notes_le (l : List (Nat × Int)) (d : List UInt8) {s' : St} (h : lev 9 l 3000 regs0 0 0 (-1) false false (st0 d 3000) = s') : s'.notes.length ≤ 1000000 := by
  have hlat := lev_later 9 l 3000 regs0 0 0 (-1) false false (st0 d 3000)
  rw [h] at hlat
  have h1 := hlat.notes
  have h2 : (st0 d 3000).notes.length + 3 * (st0 d 3000).left = 9000 := rfl
  omega

open Go.ChangeShapes Go.WideShapes Go.ChangeAt

theorem Tryd.cells5 : Tryd.prog.cellsOf 5 = 1 := by kernel_rfl

set_option maxRecDepth 100000 in
/-- What a slice of bytes that came in gives. -/
theorem open_u8s {H : Type} {enc : TypeId × Value → H} {W : World} {base : Nat} {v : Value} {d : DataW H} {p : List MemPlace} (hval : Value.okWide Tryd.prog W .any base 22 v) (h : DataW.Trod enc Tryd.prog W 0 (fun _ => true) true 22 v d p) :
    ∃ (a : Option Addr) (l : List UInt8) (c : Nat), v = .slice a l.length c ∧ RdB W (.slice a l.length c) l ∧ ∀ b, (Value.slice a l.length c).ownBlock = some b → b < W.heap.size := by
  obtain ⟨a, len, cap, rfl⟩ := okWide_slice Tryd.underlying22 hval
  obtain ⟨fuel, hf⟩ := h
  rcases open_ints Tryd.underlying22 Tryd.underlying5 Tryd.cells5 hf with ⟨hcs, hx⟩ | ⟨a1, len', cap', zs, hcs, _, hl, hm, hz, hx, hcell, hwz⟩
  · simp [Value.cells] at hcs
    obtain ⟨rfl, rfl, rfl⟩ := hcs
    exact ⟨none, [], 0, rfl, .inl ⟨rfl, rfl⟩, fun b hb => by simp [Value.ownBlock] at hb⟩
  · simp [Value.cells] at hcs
    obtain ⟨rfl, rfl, rfl⟩ := hcs
    simp only [if_true] at hz
    have hlen : ((zs.take len).map fun n => UInt8.ofNat n.toNat).length = len := by simp; omega
    have hok : World.has Tryd.prog W .any base a1 5 cap := by
      simp only [Value.okWide, Tryd.underlying22, Cell.okWide, Cell.ok] at hval
      exact hval.2.2
    obtain ⟨_, hspot, row, cells, hsh, _⟩ := hok
    obtain ⟨ab, ao, spot⟩ := a1
    simp only [] at hspot hsh
    subst hspot
    have hab : ab < W.heap.size := by
      rcases Nat.lt_or_ge ab W.heap.size with h | h
      · exact h
      · simp [World.shape?, Array.getElem?_eq_none h] at hsh
    refine ⟨some ⟨ab, ao, none⟩, (zs.take len).map fun n => UInt8.ofNat n.toNat, cap, by rw [hlen], .inr ⟨ab, ao, cap, rfl, by rw [hlen]; exact hl, hm, fun i hi => ?_⟩, fun b hb => by simp [Value.ownBlock] at hb; omega⟩
    rw [hlen] at hi
    have hcj := hcell i (by omega)
    rw [Addr.add_lit] at hcj
    rw [hcj]
    have hb := range_u8 hwz i
    rw [List.getD_eq_getElem?_getD, List.getD_eq_getElem?_getD, List.getElem?_map, List.getElem?_take, if_pos hi]
    obtain ⟨z, hzi⟩ : ∃ z, zs[i]? = some z := ⟨_, List.getElem?_eq_getElem (by omega)⟩
    rw [hzi] at hb ⊢
    simp only [Option.getD_some, Option.map_some] at hb ⊢
    congr 2
    simp only [UInt8.toNat_ofNat']
    omega

theorem u8_bounds {a : Int} (h : (Lit.int .u8 a).wf = true) : 0 ≤ a ∧ a ≤ 255 := by
  have e1 : IntKind.u8.min = 0 := rfl
  have e2 : IntKind.u8.max = 255 := rfl
  simp [Lit.wf, e1, e2] at h
  omega

/-- 'append(out, xs...)': out is the call's own, and so is what is appended, or nil. -/
theorem wpList_append_row {P : Program} {w : World} {ops : Array Oper} {rest : List Oper} {o : Oper} {a : Act} {Q : Exit → Act → World → Prop} (hgd : o.guard = none) (s x : Operand) (t : TypeId)
    (ho : o.op = .call { callee := .builtin .append, args := #[s, x], argTypes := #[t, t] })
    (base : Nat) (e : TypeId) (i : TypeInfo) (z : Value) (size bytes : Nat) (ht : P.underlying t = some (.slice e)) (hi : P.info? e = some i) (hz : i.zero = some z)
    (hsize : i.size = size) (hby : i.bytes = bytes) (hzs : z.cells.size = size) (hsz : 0 < size)
    (v : Value) (n : Nat) (xs : List Value) (hs : a.eval s = v) (hown : w.ownsRow base e size v n xs)
    (B2 : Nat) (xv : Value) (m : Nat) (news : List Value) (hx : a.eval x = xv) (hsrc : w.ownsRow B2 e size xv m news) (h1 : ∀ u ∈ news, u.oneCell' = true)
    (h63 : n + m ≤ maxLen) (hbytes : (n + m) * bytes ≤ 140737488355328) (hbase : base ≤ w.heap.size)
    (h : ∀ v' w', w'.ownsRow base e size v' (n + m) (xs ++ news) → w.grownBy w' v.ownBlock → (v'.ownBlock = v.ownBlock ∨ v'.ownBlock = some w.heap.size) → wpList P ops Q rest (a.put o.dst v') w') :
    wpList P ops Q (o :: rest) a w := by
  rcases hsrc.2 with ⟨rfl, rfl⟩ | ⟨g, c, cur, rfl, _⟩
  · have hn : news = [] := List.eq_nil_of_length_eq_zero (by simpa using hsrc.1)
    subst hn
    refine wpList_append_own_none hgd s x t ho base e i size ht hi v n xs hs hown hx (h v w (by simpa using hown) ?_ (.inl rfl))
    exact ⟨rfl, rfl, rfl, Nat.le_refl _, fun _ _ _ => rfl⟩
  · exact wpList_append_own_at w hgd s x t ho base e i z size bytes ht hi hz hsize hby hzs hsz v n xs hs hown ⟨g, 0, none⟩ m c news hx hsrc.1 (hsrc.cells rfl) h1 h63 hbytes hbase (fun v' w' q1 q2 _ q4 => h v' w' q1 q2 q4)

theorem grown_chg {w w' : World} {row : Option Nat} (h : w.grownBy w' row) : Chg (fun k => row = some k) w w' :=
  ⟨h.os, h.tape, h.output, h.size, fun k hk hn => h.block k hk (fun e => hn e.symm)⟩

theorem spIn_of_own {w : World} {B : Nat} {v : Value} {l : List (Nat × Int)} (h : w.ownsRow B 42 2 v l.length (insCells l)) : SpIn w v l := by
  by_cases hl : 0 < l.length
  · exact .inr (inAt_of_own h hl)
  · rcases h.2 with ⟨rfl, h0⟩ | ⟨gb, cap, cur, hv, _⟩
    · exact .inl ⟨rfl, List.eq_nil_of_length_eq_zero h0⟩
    · refine .inr ⟨gb, 0, cap, hv, fun k op x hk => ?_⟩
      have := (List.getElem?_eq_some_iff.1 hk).1
      omega

theorem txtAt_of_own {w : World} {B n : Nat} {v : Value} {l : List ByteArray} (h : w.ownsRow B 9 1 v n (l.map Value.string)) (hn : l.length = n) (hle : n ≤ 1000000) : TxtAt w v w.heap.size l := by
  subst hn
  rcases h.2 with ⟨rfl, h0⟩ | ⟨gb, cap, cur, rfl, hB, hgb, _⟩
  · exact .inl ⟨List.eq_nil_of_length_eq_zero h0, rfl⟩
  · refine .inr ⟨gb, 0, cap, rfl, hle, (h.lt gb rfl).2, fun i s hi => ?_⟩
    have hc := h.cells (g := gb) rfl i (.string s) (by rw [List.getElem?_map, hi]; rfl)
    rw [Nat.zero_add]
    rwa [show (⟨gb, 0, none⟩ : Addr).add i = ⟨gb, i, none⟩ by rw [Addr.add_lit, Nat.zero_add]] at hc

theorem insCells_one : ∀ (l : List (Nat × Int)), ∀ u ∈ insCells l, u.oneCell' = true
  | [], u, hu => by cases hu
  | o :: r, u, hu => by
    have hu : u ∈ [Value.int .i64 (o.1 : Int), .int .i64 o.2] ++ insCells r := hu
    simp only [List.mem_append, List.mem_cons, List.not_mem_nil, or_false] at hu
    rcases hu with (rfl | rfl) | hu
    · rfl
    · rfl
    · exact insCells_one r u hu

end Go.Proofs.YtkhicabfmkldpaaDoor

namespace Go.Proofs.YtkhicabfmkldpaaDoor
open Go Go.RowKit

theorem rdB_one (w : World) (x : UInt8) : RdB (w.alloc (.cells #[.int .u8 x.toNat] 5)) (.slice (some ⟨w.heap.size, 0, none⟩) 1 1) [x] := by
  refine .inr ⟨w.heap.size, 0, 1, rfl, Nat.le_refl _, by unfold maxLen; omega, fun i hi => ?_⟩
  obtain rfl : i = 0 := by simp at hi; omega
  exact (blk_new w _ _).cell 0 rfl

def digit (i : Nat) : ByteArray := strOf [UInt8.ofNat (48 + i)]

set_option maxHeartbeats 1000000 in
set_option maxRecDepth 100000 in
theorem digits_small (i : Nat) (hi : i < 5) (w : World) :
    Calls Tryd.prog 16 #[.int .i64 i] w fun e w' => e = .returned (.string (digit i)) ∧ Chg (fun _ => False) w w' := by
  match i, hi with
  | 0, _ =>
    have hcv := run_str (rdB_one w 48)
    rw [show ((((48 : UInt8).toNat : Nat)) : Int) = 48 from rfl] at hcv
    go_enter Tryd.func16, Tryd.ntmps16
    go_wp2
    go_ret
    exact ⟨rfl, (Chg.refl _ w).alloc _⟩
  | 1, _ =>
    have hcv := run_str (rdB_one w 49)
    rw [show ((((49 : UInt8).toNat : Nat)) : Int) = 49 from rfl] at hcv
    go_enter Tryd.func16, Tryd.ntmps16
    go_wp2
    go_ret
    exact ⟨rfl, (Chg.refl _ w).alloc _⟩
  | 2, _ =>
    have hcv := run_str (rdB_one w 50)
    rw [show ((((50 : UInt8).toNat : Nat)) : Int) = 50 from rfl] at hcv
    go_enter Tryd.func16, Tryd.ntmps16
    go_wp2
    go_ret
    exact ⟨rfl, (Chg.refl _ w).alloc _⟩
  | 3, _ =>
    have hcv := run_str (rdB_one w 51)
    rw [show ((((51 : UInt8).toNat : Nat)) : Int) = 51 from rfl] at hcv
    go_enter Tryd.func16, Tryd.ntmps16
    go_wp2
    go_ret
    exact ⟨rfl, (Chg.refl _ w).alloc _⟩
  | 4, _ =>
    have hcv := run_str (rdB_one w 52)
    rw [show ((((52 : UInt8).toNat : Nat)) : Int) = 52 from rfl] at hcv
    go_enter Tryd.func16, Tryd.ntmps16
    go_wp2
    go_ret
    exact ⟨rfl, (Chg.refl _ w).alloc _⟩
end Go.Proofs.YtkhicabfmkldpaaDoor

namespace Go.Proofs.YtkhicabfmkldpaaDoor
open Go Go.RowKit

/-- "text " and a digit. -/
def textOf (i : Nat) : ByteArray := ⟨#[116, 101, 120, 116, 32]⟩ ++ digit i
def textsOf (n : Nat) : List ByteArray := (List.range n).map textOf

theorem textsOf_succ (n : Nat) : textsOf (n + 1) = textsOf n ++ [textOf n] := by
  unfold textsOf
  rw [List.range_succ, List.map_append]
  rfl

theorem textsOf_length (n : Nat) : (textsOf n).length = n := by
  unfold textsOf
  rw [List.length_map, List.length_range]

theorem textsOf_get (n i : Nat) (h : i < n) : (textsOf n)[i]? = some (textOf i) := by
  unfold textsOf
  rw [List.getElem?_map, List.getElem?_range h]
  rfl

theorem textOf_size : ∀ (i : Nat), i < 5 → (textOf i).size = 6
  | 0, _ => rfl
  | 1, _ => rfl
  | 2, _ => rfl
  | 3, _ => rfl
  | 4, _ => rfl
  | i + 5, h => by omega

theorem Tryd.info9 : (Tryd.prog.info? 9).map (fun i => (i.zero, i.size, i.bytes)) = some (some (.string ⟨#[]⟩), 1, 16) := by kernel_rfl

/-- The program that FnVMHalts runs. -/
def haltsL (code : List UInt8) (k : Nat) : List (Nat × Int) := (haltsOf code).ins ++ [(10, (k : Int)), (7, 7)]

theorem haltsL_get {code : List UInt8} {k i op : Nat} {x : Int} (h : (haltsL code k)[i]? = some (op, x)) : (haltsOf code).ins[i]? = some (op, x) ∨ (op = 10 ∧ x = k) ∨ (op = 7 ∧ x = 7) := by
  unfold haltsL at h
  by_cases hi : i < (haltsOf code).ins.length
  · rw [List.getElem?_append_left hi] at h
    exact .inl h
  · rw [List.getElem?_append_right (by omega)] at h
    generalize i - (haltsOf code).ins.length = j at h
    match j, h with
    | 0, h => simp at h; exact .inr (.inl ⟨h.1.symm, h.2.symm⟩)
    | 1, h => simp at h; exact .inr (.inr ⟨h.1.symm, h.2.symm⟩)
    | j + 2, h => simp at h

theorem haltsL_len (code : List UInt8) (k : Nat) : (haltsL code k).length = (haltsOf code).ins.length + 2 := by
  unfold haltsL
  rw [List.length_append]
  rfl

theorem halts_ask (code d : List UInt8) (k n : Nat) (hkn : k ≤ n) (hn : n ≤ 5) (hd : d.length ≤ 100000) : Asked (haltsL code k) d ∧ ∀ (i : Nat) (x : Int), (haltsL code k)[i]? = some (10, x) → 0 ≤ x ∧ x ≤ n := by
  obtain ⟨ctx, hT, h0, hF⟩ := halts_ok code
  have hs := hF.size
  refine ⟨⟨by rw [haltsL_len]; omega, by rw [haltsL_len]; omega, fun i op x h => ?_, fun i x h => ?_, hd⟩, fun i x h => ?_⟩
  · rcases haltsL_get h with h | ⟨rfl, rfl⟩ | ⟨rfl, rfl⟩
    · have := hF.vals i op x h; omega
    · omega
    · omega
  · rcases haltsL_get h with h | ⟨h, rfl⟩ | ⟨h, rfl⟩
    · exact (hF.vals i 8 x h).2.2.2.2 rfl
    · omega
    · omega
  · rcases haltsL_get h with h | ⟨_, rfl⟩ | ⟨h, rfl⟩
    · have := (hF.vals i 10 x h).2.2.2.1 rfl; omega
    · omega
    · omega

/-- What FnVMHalts' two runs give. -/
theorem halts_pure (code d : List UInt8) (k : Nat) (hk : 0 < k) (X Y : St) (hX : lev 9 (haltsL code k) 3000 regs0 0 0 (-1) false false (st0 d 3000) = X) (hY : lev 9 (haltsOf code).ins 3000 regs0 0 0 (-1) false false (st0 d 3000) = Y) (ho : X.odd = false) (hl : 0 < X.left) :
    Y.odd = false ∧ (Y.bad = 0 → X.bad = k + 2 ∧ Good X) := by
  obtain ⟨ctx, hT, h0, hF⟩ := halts_ok code
  obtain ⟨Y', hY', hG, _⟩ := first_run hT h0 d X hX ho hl
  have e : Y' = Y := hY'.symm.trans hY
  subst e
  refine ⟨hG.1, fun hb => ?_⟩
  have h := halts_law code d k hk X hX ho hl (by
    show (lev 9 (haltsOf code).ins 3000 regs0 0 0 (-1) false false (st0 d 3000)).bad = 0
    rw [hY]; exact hb)
  exact ⟨h.1, ho, hl, h.2⟩
end Go.Proofs.YtkhicabfmkldpaaDoor

namespace Go.Proofs.YtkhicabfmkldpaaDoor
open Go Go.RowKit

theorem whole_text (T : ByteArray) (h : T.size = 6) : ((T.extract 0 6).toList == T.toList) = true := by
  have e : T.extract 0 6 = T := by rw [← h]; exact ByteArray.extract_zero_size
  rw [e]
  simp

theorem yieldsIf_want {P : Program} {ops : Array Oper} {S : World → Prop} {o : Oper} {v : Value} {a : Act} (hg : Region.wanted o (yielded ops a.tmps) = true) (h : ∀ w, S w → (execOp a.eval o).run P w = .ok (.value v) w) : YieldsIf P ops S o v a := .inl ⟨hg, h⟩
/-- One operation that alone may come up, and is wanted. -/
theorem wpTill_want {P : Program} {ops : Array Oper} {Q : Exit → Act → World → Prop} {md : Region.Mode} {S : World → Prop} {k : Nat} {i : Nat} {o : Oper} {fuel : Nat} {listed : Array Bool} {a : Act} {w : World} (hr : Region.ready md ops listed = [i]) (ho : ops[i]? = some o) (hg : Region.wanted o (yielded ops a.tmps) = true)
    (h : ∀ K : Act → World → Prop, (∀ a' w', ((i < k → S w') ∧ wpTill P md ops Q S k fuel (listed.setIfInBounds i true) a' w') → K a' w') → o.wp P a w K Q) : wpTill P md ops Q S k (fuel + 1) listed a w := by
  refine ⟨fun h0 => absurd (h0 ▸ hr) (by simp), fun j hj => ?_⟩
  rw [hr] at hj
  obtain rfl : j = i := by simpa using hj
  unfold wpOp
  simp only [ho]
  rw [if_pos hg]
  exact .inl (h _ fun _ _ q => q)

theorem row_cell {w : World} {B g n cap : Nat} {l : List ByteArray} (h : w.ownsRow B 9 1 (.slice (some ⟨g, 0, none⟩) n cap) n (l.map Value.string)) {i : Nat} {s : ByteArray} (hi : l[i]? = some s) : w.cell? ⟨g, i, none⟩ = some (.string s) := by
  have hc := h.cells (g := g) rfl i (.string s) (by rw [List.getElem?_map, hi]; rfl)
  rwa [show (⟨g, 0, none⟩ : Addr).add i = ⟨g, i, none⟩ by rw [Addr.add_lit, Nat.zero_add]] at hc

/-- What the two appends give. -/
theorem halts_app {w wr wa wb : World} {code : List UInt8} {k : Nat} {v1 V2 : Value} {o1 o2 : Obj} (hw : Chg (fun _ => False) w wr) (ha1 : wa.ownsRow wr.heap.size 42 2 v1 (0 + (haltsOf code).ins.length) ([] ++ insCells (haltsOf code).ins))
    (ha2 : (wr.alloc o1).grownBy wa (Value.slice (some ⟨wr.heap.size, 0, none⟩) 0 0).ownBlock)
    (hb1 : wb.ownsRow wr.heap.size 42 2 V2 (0 + (haltsOf code).ins.length + 2) (([] ++ insCells (haltsOf code).ins) ++ [.int .i64 10, .int .i64 (1 + (k : Int)), .int .i64 7, .int .i64 7]))
    (hb2 : (wa.alloc o2).grownBy wb v1.ownBlock) : Chg (fun _ => False) wr wb ∧ Rn w (haltsL code (k + 1)) V2 wb := by
  have hr1 : ∀ g, (Value.slice (some ⟨wr.heap.size, 0, none⟩) 0 0).ownBlock = some g → wr.heap.size ≤ g := fun g e => by
    simp [Value.ownBlock] at e
    omega
  have hc1 : Chg (fun k => (Value.slice (some ⟨wr.heap.size, 0, none⟩) 0 0).ownBlock = some k) wr wa := (((Chg.refl (fun _ => False) wr).alloc o1).mono (fun _ _ e => e.elim)).trans (grown_chg ha2) (fun _ _ e => e)
  have hs1 := hc1.size
  have hc2 : Chg (fun k => v1.ownBlock = some k) wa wb := (((Chg.refl (fun _ => False) wa).alloc o2).mono (fun _ _ e => e.elim)).trans (grown_chg hb2) (fun _ _ e => e)
  have hc : Chg (fun _ => False) wr wb := ((hc1.mono (S' := fun k => wr.heap.size ≤ k) (fun k _ e => hr1 k e)).trans (hc2.mono (S' := fun k => wr.heap.size ≤ k) (fun k _ e => (ha1.lt k e).1)) (fun _ _ e => e)).mono (fun k hk e => by omega)
  have hl : (haltsL code (k + 1)).length = 0 + (haltsOf code).ins.length + 2 := by rw [haltsL_len]; omega
  have hi : insCells (haltsL code (k + 1)) = ([] ++ insCells (haltsOf code).ins) ++ [.int .i64 10, .int .i64 (1 + (k : Int)), .int .i64 7, .int .i64 7] := by
    unfold haltsL
    show insCells ((haltsOf code).ins ++ [(10, ((k + 1 : Nat) : Int)), (7, 7)]) = _
    rw [show ((k + 1 : Nat) : Int) = 1 + (k : Int) by omega, List.nil_append]
    unfold insCells
    rw [List.flatMap_append]
    rfl
  rw [← hl, ← hi] at hb1
  exact ⟨hc, inAt_of_own hb1 (by rw [hl]; omega), fun g hg => (hb1.lt g hg).2, hw.trans hc (fun _ _ e => e)⟩

set_option maxHeartbeats 4000000 in
set_option maxRecDepth 100000 in
theorem halts_end (a0 : Option Addr) (m0 n0 : Nat) (a1 : Option Addr) (m1 n1 : Nat) (z y : Int) (w : World) (code : List UInt8) (m D n1' n k : Nat)
    (g0 : ¬ (2147483647 : Int) < (m0 : Int)) (g1 : ¬ (2147483647 : Int) < (m1 : Int)) (c0 : m0 ≤ n0 ∧ n0 < 9223372036854775808) (c1 : m1 ≤ n1 ∧ n1 < 9223372036854775808) (hz : 0 ≤ z ∧ z ≤ 255) (hy : 0 ≤ y ∧ y ≤ 255) (hm : ((m0 : Int) ≤ 60 ∧ m0 = m) ∨ (¬ (m0 : Int) ≤ 60 ∧ 60 = m))
    (hyn : y.tmod 5 = (n1' : Int)) (hn : n1' ≤ 4) (hnn : n = n1' + 1) (hzk : z % (1 + (n1' : Int)) = (k : Int)) (hkn : k < n) (hkn2 : k ≤ n1')
    (hbody : Hid (∀ w1, w1 = w.alloc (.cells #[.slice a0 m n0, .slice none 0 0, .slice none 0 0, .int .i64 2, .int .i64 0] 37) → Calls Tryd.prog 15 #[.pointer (some ⟨w.heap.size, 0, none⟩), .int .i64 1] w1 fun e w' => e = .returned (.tuple #[]) ∧ ∃ cv iv kv, GenAt w' w.heap.size w.heap.size cv iv kv (haltsOf code) ∧ Chg (fun _ => False) w w'))
    (T : ByteArray) (hT : Hid (textOf k = T)) (hT6 : T.size = 6) (hD : D ≤ m1) (L : Nat) (hL : L ≤ 10000) (hLl : Hid ((haltsOf code).ins.length = L)) (b1 b2 : Bool) (nX : List Note) (hnl : nX.length ≤ 1000000)
    (hdata : Hid (∀ w1, Chg (fun _ => False) w w1 → Calls Tryd.prog 10 #[.slice a1 m1 n1] w1 fun e w' => e = .returned (.slice a1 D n1) ∧ w' = w1))
    (hspX : Hid (∀ iv w1, Rn w (haltsL code (k + 1)) iv w1 → Calls Tryd.prog 11 #[iv, .slice a1 D n1] w1 fun e w' => ∃ (nv : Value) (q : Int) (fine : Bool), e = .returned (.tuple #[nv, .int .i64 q, .bool fine, .bool b1]) ∧ CallsAt w' nv nX ∧ Chg (fun _ => False) w1 w'))
    (hspY : Hid (∀ iv w1, SpIn w1 iv (haltsOf code).ins → (∀ g, iv.ownBlock = some g → g < w1.heap.size) → Chg (fun _ => False) w w1 → Calls Tryd.prog 11 #[iv, .slice a1 D n1] w1 fun e w' => ∃ (nv : Value) (q : Int) (fine r : Bool), e = .returned (.tuple #[nv, .int .i64 q, .bool fine, .bool r]) ∧ (b1 = true → fine = b2) ∧ Chg (fun _ => False) w1 w'))
    (hvm : Hid (b1 = true → b2 = true → ∀ iv ev w1, Rn w (haltsL code (k + 1)) iv w1 → TxtAt w1 ev w1.heap.size (textsOf n) → Calls Tryd.prog 13 #[iv, ev, .slice a1 D n1, .bool false] w1 fun e w' => ∃ (cv : Value) (q : Int), e = .returned (.tuple #[cv, .int .i64 q, .string T, .bool false]) ∧ CallsAt w' cv nX ∧ Chg (fun _ => False) w1 w'))
    (hawk : Hid (∀ w1, Chg (fun _ => False) w w1 → Calls Tryd.prog 12 #[] w1 fun e w' => e = .returned (.bool true) ∧ Chg (fun _ => False) w1 w')) :
    Calls Tryd.prog 4 #[.slice a0 m0 n0, .slice a1 m1 n1, .int .u8 z, .int .u8 y] w fun e w' => e = .returned (.bool true) ∧ Chg (fun _ => False) w w' := by
  rcases hm with ⟨hi, rfl⟩ | ⟨hi, rfl⟩
  all_goals
   go_enter Tryd.func4, Tryd.ntmps4
   go_wp2_with (first | (go_at_call 15; refine (hbody.out _ rfl).mono ?_; rintro e w2 ⟨rfl, cv, iv, kv, r1, r2⟩; replace r1 := hid r1; replace r2 := hid r2))
   have hub := r2.out.size
   have Hzk := hid hzk
   have Hyn := hid hyn
   clear hzk hyn
   go_loopg [12, 13] n (fun j v12 v13 wr => ∃ (i : Nat) (tv : Value), tv = v12 ∧ v13 = .int .i64 (i : Int) ∧ i ≤ n ∧ j = n - i ∧ Hid (wr.ownsRow w2.heap.size 9 1 tv i ((textsOf i).map Value.string) ∧ Chg (fun _ => False) w2 wr))
   case atStart => exact ⟨0, _, rfl, rfl, Nat.zero_le _, rfl, ⟨rfl, .inl ⟨rfl, rfl⟩⟩, Chg.refl _ w2⟩
   case round =>
    obtain ⟨i, tv, rfl, rfl, h1, rfl, HH⟩ := hrel
    obtain ⟨i9, j1, j2, j3, j4⟩ := info_parts Tryd.info9
    by_cases hin : i = n
    · subst hin
      subst hnn
      have hm2 : blk wr w.heap.size #[cv, iv, kv, .int .i64 ((haltsOf code).part : Int), .int .i64 0] 37 := r1.out.m.chg HH.out.2 (fun e => e)
      have c1 : wr.cell? ⟨w.heap.size, 1, none⟩ = some iv := hm2.cell 1 rfl
      have lM := hm2.lt
      have Hm2 := hid hm2
      clear hm2
      have Hins := hid (show wr.ownsRow w.heap.size 42 2 iv (haltsOf code).ins.length (insCells (haltsOf code).ins) from World.ownsRow.chg r1.out.ins HH.out.2 (fun g _ e => e))
      have Hw := hid (show Chg (fun _ => False) w wr from r2.out.trans HH.out.2 (fun _ _ e => e))
      obtain ⟨i42, y1, y2, y3, y4⟩ := info_parts Tryd.info42
      obtain ⟨gt, capt, rfl, hgt0, hgt1⟩ := HH.out.1.form (by omega)
      cases b1 with
      | false =>
        go_wp2_with (first | (go_at_call 11; refine (hspX.out _ _ Hr2.out.2).mono ?_; rintro e w4 ⟨nv4, k4, f4, rfl, p4, c4⟩; replace p4 := hid p4; replace c4 := hid c4; have Hi4 := hid (World.ownsRow.chg (World.ownsRow.chg Hins.out Hr2.out.1 (fun _ _ e => e)) c4.out (fun _ _ e => e)); have cm4 := ((Hm2.out.chg Hr2.out.1 (fun e => e)).chg c4.out (fun e => e)).cell 1 rfl; have C4 := hid (Hr2.out.2.2.2.trans c4.out (fun _ _ e => e))) | (go_at_call 10; refine (hdata.out _ Hr2.out.2.2.2).mono ?_; rintro e w3 ⟨rfl, rfl⟩) | (at_builtin; (refine wpList_append_lies _ rfl _ _ _ rfl wr.heap.size 42 i42 _ 2 16 Tryd.underlying23 y1 y2 y3 y4 rfl (by omega) v1 (0 + (haltsOf code).ins.length) _ rfl (ha1.out.alloc _) ⟨wa.heap.size, 0, none⟩ 2 2 [.int .i64 10, .int .i64 (1 + (k : Int)), .int .i64 7, .int .i64 7] rfl rfl (World.news_of_block (cs := #[.int .i64 10, .int .i64 (1 + (k : Int)), .int .i64 7, .int .i64 7]) (t := 42) (fr := (0, 0)) (heap_alloc_new _ _)) (by simp [Value.oneCell']) (by omega) (by have := hLl.out; unfold maxLen; omega) (by have := hLl.out; omega) (by have := ha2.out.size; simp at this ⊢; omega) (wa.heap.size + 1) (by simp) ?_); (intro g2 cap2 wb hb1 hb2 hb3 hb4); (obtain ⟨V2, hV2⟩ : ∃ V, V = Value.slice (some ⟨g2, 0, none⟩) (0 + (haltsOf code).ins.length + 2) cap2 := ⟨_, rfl⟩); (rw [← hV2] at hb1 ⊢); have Hb := hid (And.intro hb1 (And.intro hb2 (And.intro hb3 (And.intro hb4 hV2)))); clear hb1 hb2 hb3 hb4 hV2; (have Hr2 := hid (halts_app Hw.out ha1.out ha2.out Hb.out.1 Hb.out.2.1))) | (at_builtin; (refine wpList_append_row rfl _ _ _ rfl wr.heap.size 42 i42 _ 2 16 Tryd.underlying23 y1 y2 y3 y4 rfl (by omega) (.slice (some ⟨wr.heap.size, 0, none⟩) 0 0) 0 [] rfl ⟨rfl, .inr ⟨_, _, _, rfl, Nat.le_refl _, heap_alloc_new _ _, Nat.le_refl _, by unfold maxLen; omega, rfl, rfl⟩⟩ w.heap.size iv (haltsOf code).ins.length (insCells (haltsOf code).ins) rfl (World.ownsRow.chg Hins.out ((Chg.refl (fun _ => False) wr).alloc _) (fun _ _ e => e)) (insCells_one _) (by have := hLl.out; unfold maxLen; omega) (by have := hLl.out; omega) (by simp) ?_); intro v1 wa ha1 ha2 ha3; replace ha1 := hid ha1; replace ha2 := hid ha2; replace ha3 := hid ha3))
        go_region_with (first | (go_at_call 11; refine (hspY.out _ _ ?_ ?_ ?_).mono ?_; (first | exact spIn_of_own Hi4.out | exact spIn_of_own (World.ownsRow.chg Hi4.out (Chg.refl (fun _ => False) w4).drew (fun _ _ e => e))); exact (fun g hg => (Hi4.out.lt g hg).2); (first | exact C4.out | exact C4.out.drew); rintro e w5 ⟨nv5, k5, f5, r5, rfl, hf5, c5⟩; (first | (have hf5 := hf5 rfl; subst hf5) | skip); replace c5 := hid c5; have C45 := hid ((Chg.refl (fun _ => False) w4).drew.trans c5.out (fun _ _ e => e)); have C5 := hid (C4.out.trans C45.out (fun _ _ e => e))) | (go_at_call 10; refine (hdata.out _ ?_).mono ?_; (first | exact C4.out | exact C4.out.drew); rintro e w5 ⟨rfl, rfl⟩))
        all_goals
         go_wp2_with (go_at_call 12; refine (hawk.out _ C5.out).mono ?_; rintro e w8 ⟨rfl, c8⟩; replace c8 := hid c8)
         go_ret
         exact ⟨rfl, C5.out.trans c8.out (fun _ _ e => e)⟩
      | true =>
        cases b2 with
        | false =>
          go_wp2_with (first | (go_at_call 11; refine (hspX.out _ _ Hr2.out.2).mono ?_; rintro e w4 ⟨nv4, k4, f4, rfl, p4, c4⟩; replace p4 := hid p4; replace c4 := hid c4; have Hi4 := hid (World.ownsRow.chg (World.ownsRow.chg Hins.out Hr2.out.1 (fun _ _ e => e)) c4.out (fun _ _ e => e)); have cm4 := ((Hm2.out.chg Hr2.out.1 (fun e => e)).chg c4.out (fun e => e)).cell 1 rfl; have C4 := hid (Hr2.out.2.2.2.trans c4.out (fun _ _ e => e))) | (go_at_call 10; refine (hdata.out _ Hr2.out.2.2.2).mono ?_; rintro e w3 ⟨rfl, rfl⟩) | (at_builtin; (refine wpList_append_lies _ rfl _ _ _ rfl wr.heap.size 42 i42 _ 2 16 Tryd.underlying23 y1 y2 y3 y4 rfl (by omega) v1 (0 + (haltsOf code).ins.length) _ rfl (ha1.out.alloc _) ⟨wa.heap.size, 0, none⟩ 2 2 [.int .i64 10, .int .i64 (1 + (k : Int)), .int .i64 7, .int .i64 7] rfl rfl (World.news_of_block (cs := #[.int .i64 10, .int .i64 (1 + (k : Int)), .int .i64 7, .int .i64 7]) (t := 42) (fr := (0, 0)) (heap_alloc_new _ _)) (by simp [Value.oneCell']) (by omega) (by have := hLl.out; unfold maxLen; omega) (by have := hLl.out; omega) (by have := ha2.out.size; simp at this ⊢; omega) (wa.heap.size + 1) (by simp) ?_); (intro g2 cap2 wb hb1 hb2 hb3 hb4); (obtain ⟨V2, hV2⟩ : ∃ V, V = Value.slice (some ⟨g2, 0, none⟩) (0 + (haltsOf code).ins.length + 2) cap2 := ⟨_, rfl⟩); (rw [← hV2] at hb1 ⊢); have Hb := hid (And.intro hb1 (And.intro hb2 (And.intro hb3 (And.intro hb4 hV2)))); clear hb1 hb2 hb3 hb4 hV2; (have Hr2 := hid (halts_app Hw.out ha1.out ha2.out Hb.out.1 Hb.out.2.1))) | (at_builtin; (refine wpList_append_row rfl _ _ _ rfl wr.heap.size 42 i42 _ 2 16 Tryd.underlying23 y1 y2 y3 y4 rfl (by omega) (.slice (some ⟨wr.heap.size, 0, none⟩) 0 0) 0 [] rfl ⟨rfl, .inr ⟨_, _, _, rfl, Nat.le_refl _, heap_alloc_new _ _, Nat.le_refl _, by unfold maxLen; omega, rfl, rfl⟩⟩ w.heap.size iv (haltsOf code).ins.length (insCells (haltsOf code).ins) rfl (World.ownsRow.chg Hins.out ((Chg.refl (fun _ => False) wr).alloc _) (fun _ _ e => e)) (insCells_one _) (by have := hLl.out; unfold maxLen; omega) (by have := hLl.out; omega) (by simp) ?_); intro v1 wa ha1 ha2 ha3; replace ha1 := hid ha1; replace ha2 := hid ha2; replace ha3 := hid ha3))
          go_region_with (first | (go_at_call 11; refine (hspY.out _ _ ?_ ?_ ?_).mono ?_; (first | exact spIn_of_own Hi4.out | exact spIn_of_own (World.ownsRow.chg Hi4.out (Chg.refl (fun _ => False) w4).drew (fun _ _ e => e))); exact (fun g hg => (Hi4.out.lt g hg).2); (first | exact C4.out | exact C4.out.drew); rintro e w5 ⟨nv5, k5, f5, r5, rfl, hf5, c5⟩; (first | (have hf5 := hf5 rfl; subst hf5) | skip); replace c5 := hid c5; have C45 := hid ((Chg.refl (fun _ => False) w4).drew.trans c5.out (fun _ _ e => e)); have C5 := hid (C4.out.trans C45.out (fun _ _ e => e))) | (go_at_call 10; refine (hdata.out _ ?_).mono ?_; (first | exact C4.out | exact C4.out.drew); rintro e w5 ⟨rfl, rfl⟩))
          all_goals
           go_wp2_with (go_at_call 12; refine (hawk.out _ C5.out).mono ?_; rintro e w8 ⟨rfl, c8⟩; replace c8 := hid c8)
           go_ret
           exact ⟨rfl, C5.out.trans c8.out (fun _ _ e => e)⟩
        | true =>
          go_wp2_with (first | (go_at_call 11; refine (hspX.out _ _ Hr2.out.2).mono ?_; rintro e w4 ⟨nv4, k4, f4, rfl, p4, c4⟩; replace p4 := hid p4; replace c4 := hid c4; have Hi4 := hid (World.ownsRow.chg (World.ownsRow.chg Hins.out Hr2.out.1 (fun _ _ e => e)) c4.out (fun _ _ e => e)); have cm4 := ((Hm2.out.chg Hr2.out.1 (fun e => e)).chg c4.out (fun e => e)).cell 1 rfl; have C4 := hid (Hr2.out.2.2.2.trans c4.out (fun _ _ e => e))) | (go_at_call 10; refine (hdata.out _ Hr2.out.2.2.2).mono ?_; rintro e w3 ⟨rfl, rfl⟩) | (at_builtin; (refine wpList_append_lies _ rfl _ _ _ rfl wr.heap.size 42 i42 _ 2 16 Tryd.underlying23 y1 y2 y3 y4 rfl (by omega) v1 (0 + (haltsOf code).ins.length) _ rfl (ha1.out.alloc _) ⟨wa.heap.size, 0, none⟩ 2 2 [.int .i64 10, .int .i64 (1 + (k : Int)), .int .i64 7, .int .i64 7] rfl rfl (World.news_of_block (cs := #[.int .i64 10, .int .i64 (1 + (k : Int)), .int .i64 7, .int .i64 7]) (t := 42) (fr := (0, 0)) (heap_alloc_new _ _)) (by simp [Value.oneCell']) (by omega) (by have := hLl.out; unfold maxLen; omega) (by have := hLl.out; omega) (by have := ha2.out.size; simp at this ⊢; omega) (wa.heap.size + 1) (by simp) ?_); (intro g2 cap2 wb hb1 hb2 hb3 hb4); (obtain ⟨V2, hV2⟩ : ∃ V, V = Value.slice (some ⟨g2, 0, none⟩) (0 + (haltsOf code).ins.length + 2) cap2 := ⟨_, rfl⟩); (rw [← hV2] at hb1 ⊢); have Hb := hid (And.intro hb1 (And.intro hb2 (And.intro hb3 (And.intro hb4 hV2)))); clear hb1 hb2 hb3 hb4 hV2; (have Hr2 := hid (halts_app Hw.out ha1.out ha2.out Hb.out.1 Hb.out.2.1))) | (at_builtin; (refine wpList_append_row rfl _ _ _ rfl wr.heap.size 42 i42 _ 2 16 Tryd.underlying23 y1 y2 y3 y4 rfl (by omega) (.slice (some ⟨wr.heap.size, 0, none⟩) 0 0) 0 [] rfl ⟨rfl, .inr ⟨_, _, _, rfl, Nat.le_refl _, heap_alloc_new _ _, Nat.le_refl _, by unfold maxLen; omega, rfl, rfl⟩⟩ w.heap.size iv (haltsOf code).ins.length (insCells (haltsOf code).ins) rfl (World.ownsRow.chg Hins.out ((Chg.refl (fun _ => False) wr).alloc _) (fun _ _ e => e)) (insCells_one _) (by have := hLl.out; unfold maxLen; omega) (by have := hLl.out; omega) (by simp) ?_); intro v1 wa ha1 ha2 ha3; replace ha1 := hid ha1; replace ha2 := hid ha2; replace ha3 := hid ha3))
          go_region_with (first | (go_at_call 11; refine (hspY.out _ _ ?_ ?_ ?_).mono ?_; (first | exact spIn_of_own Hi4.out | exact spIn_of_own (World.ownsRow.chg Hi4.out (Chg.refl (fun _ => False) w4).drew (fun _ _ e => e))); exact (fun g hg => (Hi4.out.lt g hg).2); (first | exact C4.out | exact C4.out.drew); rintro e w5 ⟨nv5, k5, f5, r5, rfl, hf5, c5⟩; (first | (have hf5 := hf5 rfl; subst hf5) | skip); replace c5 := hid c5; have C45 := hid ((Chg.refl (fun _ => False) w4).drew.trans c5.out (fun _ _ e => e)); have C5 := hid (C4.out.trans C45.out (fun _ _ e => e))) | (go_at_call 10; refine (hdata.out _ ?_).mono ?_; (first | exact C4.out | exact C4.out.drew); rintro e w5 ⟨rfl, rfl⟩))
          all_goals
           go_wp2_with (first | (go_at_call 13; (refine (hvm.out (by simp) (by simp) V2 _ _ (Hr2.out.2.chg (c4.out.trans C45.out (fun _ _ e => e))) (txtAt_of_own (World.ownsRow.chg HH.out.1 (Hr2.out.1.trans (c4.out.trans C45.out (fun _ _ e => e)) (fun _ _ e => e)) (fun _ _ e => e)) (textsOf_length _) (by omega))).mono ?_); rintro e w6 ⟨cv6, q6, rfl, p6, c6⟩; replace p6 := hid p6; replace c6 := hid c6; have C6 := hid (C5.out.trans c6.out (fun _ _ e => e)); have ct6 := row_cell (World.ownsRow.chg HH.out.1 (Hr2.out.1.trans ((c4.out.trans C45.out (fun _ _ e => e)).trans c6.out (fun _ _ e => e)) (fun _ _ e => e)) (fun _ _ e => e)) (textsOf_get (n1' + 1) k hkn); rw [hT.out] at ct6) | (go_at_call 10; refine (hdata.out _ C5.out).mono ?_; rintro e w6 ⟨rfl, rfl⟩))
           have hk1 : IntKind.i64.wrap (1 + (k : Int) - 1) = (k : Int) := by rw [IntKind.wrap_i64]; omega
           have hk2 : (k : Int) < (n1' : Int) + 1 := by omega
           have hk3 := whole_text T hT6
           have ct7 : w6.drew.cell? ⟨gt, k, none⟩ = some (.string T) := ct6
           refine wp_region_till (fun w' => w'.cell? ⟨gt, k, none⟩ = some (.string T)) 100 (by kernel_rfl) ?_
           refine wpTill_reads 6 [0, 1, 2, 3, 4, 5, 6, 7, 8, 9, 10, 11, 12, 13, 14, 15, 16, 17, 18, 19] (by kernel_rfl) ?_ ct7 ?_
           · intro c a d v w h; cases d <;> exact h
           (refine wpReads_cons (v := ?_) rfl (yieldsIf_want (by kernel_rfl) fun w' hw => ?_) ?_; rotate_left; (first | (go_simp; done) | (go_simp; rw [hk1]; exact rfl) | (go_simp; rw [if_pos hk2]; exact rfl) | (go_simp; rw [hk3]; done) | (go_simp; rw [hk3]; exact rfl) | (go_simp; exact rfl)); simp only [Act.put, List.setIfInBounds_toArray, List.set_cons_zero, List.set_cons_succ, List.getElem_toArray, List.getElem_cons_zero, List.getElem_cons_succ])
           (refine wpReads_cons (v := ?_) rfl (yieldsIf_want (by kernel_rfl) fun w' hw => ?_) ?_; rotate_left; (first | (go_simp; done) | (go_simp; rw [hk1]; exact rfl) | (go_simp; rw [if_pos hk2]; exact rfl) | (go_simp; rw [hk3]; done) | (go_simp; rw [hk3]; exact rfl) | (go_simp; exact rfl)); simp only [Act.put, List.setIfInBounds_toArray, List.set_cons_zero, List.set_cons_succ, List.getElem_toArray, List.getElem_cons_zero, List.getElem_cons_succ])
           (refine wpReads_cons (v := ?_) rfl (yieldsIf_want (by kernel_rfl) fun w' hw => ?_) ?_; rotate_left; (first | (go_simp; done) | (go_simp; rw [hk1]; exact rfl) | (go_simp; rw [if_pos hk2]; exact rfl) | (go_simp; rw [hk3]; done) | (go_simp; rw [hk3]; exact rfl) | (go_simp; exact rfl)); simp only [Act.put, List.setIfInBounds_toArray, List.set_cons_zero, List.set_cons_succ, List.getElem_toArray, List.getElem_cons_zero, List.getElem_cons_succ])
           (refine wpReads_cons (v := ?_) rfl (yieldsIf_want (by kernel_rfl) fun w' hw => ?_) ?_; rotate_left; (first | (go_simp; done) | (go_simp; rw [hk1]; exact rfl) | (go_simp; rw [if_pos hk2]; exact rfl) | (go_simp; rw [hk3]; done) | (go_simp; rw [hk3]; exact rfl) | (go_simp; exact rfl)); simp only [Act.put, List.setIfInBounds_toArray, List.set_cons_zero, List.set_cons_succ, List.getElem_toArray, List.getElem_cons_zero, List.getElem_cons_succ])
           (refine wpReads_cons (v := ?_) rfl (yieldsIf_want (by kernel_rfl) fun w' hw => ?_) ?_; rotate_left; (first | (go_simp; done) | (go_simp; rw [hk1]; exact rfl) | (go_simp; rw [if_pos hk2]; exact rfl) | (go_simp; rw [hk3]; done) | (go_simp; rw [hk3]; exact rfl) | (go_simp; exact rfl)); simp only [Act.put, List.setIfInBounds_toArray, List.set_cons_zero, List.set_cons_succ, List.getElem_toArray, List.getElem_cons_zero, List.getElem_cons_succ])
           (refine wpReads_cons (v := ?_) rfl (yieldsIf_want (by kernel_rfl) fun w' hw => ?_) ?_; rotate_left; (first | (go_simp; done) | (go_simp; rw [hk1]; exact rfl) | (go_simp; rw [if_pos hk2]; exact rfl) | (go_simp; rw [hk3]; done) | (go_simp; rw [hk3]; exact rfl) | (go_simp; exact rfl)); simp only [Act.put, List.setIfInBounds_toArray, List.set_cons_zero, List.set_cons_succ, List.getElem_toArray, List.getElem_cons_zero, List.getElem_cons_succ])
           (refine wpReads_cons (v := ?_) rfl (yieldsIf_want (by kernel_rfl) fun w' hw => ?_) ?_; rotate_left; (first | (go_simp; done) | (go_simp; rw [hk1]; exact rfl) | (go_simp; rw [if_pos hk2]; exact rfl) | (go_simp; rw [hk3]; done) | (go_simp; rw [hk3]; exact rfl) | (go_simp; exact rfl)); simp only [Act.put, List.setIfInBounds_toArray, List.set_cons_zero, List.set_cons_succ, List.getElem_toArray, List.getElem_cons_zero, List.getElem_cons_succ])
           (refine wpReads_cons (v := ?_) rfl (yieldsIf_want (by kernel_rfl) fun w' hw => ?_) ?_; rotate_left; (first | (go_simp; done) | (go_simp; rw [hk1]; exact rfl) | (go_simp; rw [if_pos hk2]; exact rfl) | (go_simp; rw [hk3]; done) | (go_simp; rw [hk3]; exact rfl) | (go_simp; exact rfl)); simp only [Act.put, List.setIfInBounds_toArray, List.set_cons_zero, List.set_cons_succ, List.getElem_toArray, List.getElem_cons_zero, List.getElem_cons_succ])
           (refine wpReads_cons (v := ?_) rfl (yieldsIf_want (by kernel_rfl) fun w' hw => ?_) ?_; rotate_left; (first | (go_simp; done) | (go_simp; rw [hk1]; exact rfl) | (go_simp; rw [if_pos hk2]; exact rfl) | (go_simp; rw [hk3]; done) | (go_simp; rw [hk3]; exact rfl) | (go_simp; exact rfl)); simp only [Act.put, List.setIfInBounds_toArray, List.set_cons_zero, List.set_cons_succ, List.getElem_toArray, List.getElem_cons_zero, List.getElem_cons_succ])
           (refine wpReads_cons (v := ?_) rfl (yieldsIf_want (by kernel_rfl) fun w' hw => ?_) ?_; rotate_left; (first | (go_simp; done) | (go_simp; rw [hk1]; exact rfl) | (go_simp; rw [if_pos hk2]; exact rfl) | (go_simp; rw [hk3]; done) | (go_simp; rw [hk3]; exact rfl) | (go_simp; exact rfl)); simp only [Act.put, List.setIfInBounds_toArray, List.set_cons_zero, List.set_cons_succ, List.getElem_toArray, List.getElem_cons_zero, List.getElem_cons_succ])
           (refine wpReads_cons (v := ?_) rfl (yieldsIf_want (by kernel_rfl) fun w' hw => ?_) ?_; rotate_left; (first | (go_simp; done) | (go_simp; rw [hk1]; exact rfl) | (go_simp; rw [if_pos hk2]; exact rfl) | (go_simp; rw [hk3]; done) | (go_simp; rw [hk3]; exact rfl) | (go_simp; exact rfl)); simp only [Act.put, List.setIfInBounds_toArray, List.set_cons_zero, List.set_cons_succ, List.getElem_toArray, List.getElem_cons_zero, List.getElem_cons_succ])
           (refine wpReads_cons (v := ?_) rfl (yieldsIf_want (by kernel_rfl) fun w' hw => ?_) ?_; rotate_left; (first | (go_simp; done) | (go_simp; rw [hk1]; exact rfl) | (go_simp; rw [if_pos hk2]; exact rfl) | (go_simp; rw [hk3]; done) | (go_simp; rw [hk3]; exact rfl) | (go_simp; exact rfl)); simp only [Act.put, List.setIfInBounds_toArray, List.set_cons_zero, List.set_cons_succ, List.getElem_toArray, List.getElem_cons_zero, List.getElem_cons_succ])
           (refine wpReads_cons (v := ?_) rfl (yieldsIf_want (by kernel_rfl) fun w' hw => ?_) ?_; rotate_left; (first | (go_simp; done) | (go_simp; rw [hk1]; exact rfl) | (go_simp; rw [if_pos hk2]; exact rfl) | (go_simp; rw [hk3]; done) | (go_simp; rw [hk3]; exact rfl) | (go_simp; exact rfl)); simp only [Act.put, List.setIfInBounds_toArray, List.set_cons_zero, List.set_cons_succ, List.getElem_toArray, List.getElem_cons_zero, List.getElem_cons_succ])
           (refine wpReads_cons (v := ?_) rfl (yieldsIf_want (by kernel_rfl) fun w' hw => ?_) ?_; rotate_left; (first | (go_simp; done) | (go_simp; rw [hk1]; exact rfl) | (go_simp; rw [if_pos hk2]; exact rfl) | (go_simp; rw [hk3]; done) | (go_simp; rw [hk3]; exact rfl) | (go_simp; exact rfl)); simp only [Act.put, List.setIfInBounds_toArray, List.set_cons_zero, List.set_cons_succ, List.getElem_toArray, List.getElem_cons_zero, List.getElem_cons_succ])
           (refine wpReads_cons (v := ?_) rfl (yieldsIf_want (by kernel_rfl) fun w' hw => ?_) ?_; rotate_left; (first | (go_simp; done) | (go_simp; rw [hk1]; exact rfl) | (go_simp; rw [if_pos hk2]; exact rfl) | (go_simp; rw [hk3]; done) | (go_simp; rw [hk3]; exact rfl) | (go_simp; exact rfl)); simp only [Act.put, List.setIfInBounds_toArray, List.set_cons_zero, List.set_cons_succ, List.getElem_toArray, List.getElem_cons_zero, List.getElem_cons_succ])
           (refine wpReads_cons (v := ?_) rfl (yieldsIf_want (by kernel_rfl) fun w' hw => ?_) ?_; rotate_left; (first | (go_simp; done) | (go_simp; rw [hk1]; exact rfl) | (go_simp; rw [if_pos hk2]; exact rfl) | (go_simp; rw [hk3]; done) | (go_simp; rw [hk3]; exact rfl) | (go_simp; exact rfl)); simp only [Act.put, List.setIfInBounds_toArray, List.set_cons_zero, List.set_cons_succ, List.getElem_toArray, List.getElem_cons_zero, List.getElem_cons_succ])
           (refine wpReads_cons (v := ?_) rfl (yieldsIf_want (by kernel_rfl) fun w' hw => ?_) ?_; rotate_left; (first | (go_simp; done) | (go_simp; rw [hk1]; exact rfl) | (go_simp; rw [if_pos hk2]; exact rfl) | (go_simp; rw [hk3]; done) | (go_simp; rw [hk3]; exact rfl) | (go_simp; exact rfl)); simp only [Act.put, List.setIfInBounds_toArray, List.set_cons_zero, List.set_cons_succ, List.getElem_toArray, List.getElem_cons_zero, List.getElem_cons_succ])
           (refine wpReads_cons (v := ?_) rfl (yieldsIf_want (by kernel_rfl) fun w' hw => ?_) ?_; rotate_left; (first | (go_simp; done) | (go_simp; rw [hk1]; exact rfl) | (go_simp; rw [if_pos hk2]; exact rfl) | (go_simp; rw [hk3]; done) | (go_simp; rw [hk3]; exact rfl) | (go_simp; exact rfl)); simp only [Act.put, List.setIfInBounds_toArray, List.set_cons_zero, List.set_cons_succ, List.getElem_toArray, List.getElem_cons_zero, List.getElem_cons_succ])
           (refine wpReads_cons (v := ?_) rfl (yieldsIf_want (by kernel_rfl) fun w' hw => ?_) ?_; rotate_left; (first | (go_simp; done) | (go_simp; rw [hk1]; exact rfl) | (go_simp; rw [if_pos hk2]; exact rfl) | (go_simp; rw [hk3]; done) | (go_simp; rw [hk3]; exact rfl) | (go_simp; exact rfl)); simp only [Act.put, List.setIfInBounds_toArray, List.set_cons_zero, List.set_cons_succ, List.getElem_toArray, List.getElem_cons_zero, List.getElem_cons_succ])
           (refine wpReads_cons (v := ?_) rfl (yieldsIf_want (by kernel_rfl) fun w' hw => ?_) ?_; rotate_left; (first | (go_simp; done) | (go_simp; rw [hk1]; exact rfl) | (go_simp; rw [if_pos hk2]; exact rfl) | (go_simp; rw [hk3]; done) | (go_simp; rw [hk3]; exact rfl) | (go_simp; exact rfl)); simp only [Act.put, List.setIfInBounds_toArray, List.set_cons_zero, List.set_cons_succ, List.getElem_toArray, List.getElem_cons_zero, List.getElem_cons_succ])
           refine wpReads_nil ?_
           simp only [listAll]
           refine wpTill_want (i := 20) (by kernel_rfl) rfl (by kernel_rfl) ?_
           intro K hK
           go_step
           refine (same_any _ _ nX nX _ ?_ ?_ hnl hnl).mono ?_
           · exact p6.out.chg (Chg.refl (fun _ => False) w6).drew (fun _ _ e => e)
           · exact p4.out.chg (C45.out.trans c6.out (fun _ _ e => e)).drew (fun _ _ e => e)
           rintro e w7 ⟨bb, rfl, hbb, kk, rfl⟩
           have hbt : bb = true := hbb.2 rfl
           subst hbt
           clear hbb
           have ct8 : (w6.drew.drewN kk).cell? ⟨gt, k, none⟩ = some (.string T) := ct6
           refine hK _ _ ⟨fun _ => ct8, ?_⟩
           clear hK K
           refine wpTill_reads 3 [21, 22] (by kernel_rfl) ?_ ct8 ?_
           · intro c a d v w h; cases d <;> exact h
           (refine wpReads_cons (v := ?_) rfl (yieldsIf_want (by kernel_rfl) fun w' hw => ?_) ?_; rotate_left; (first | (go_simp; done) | (go_simp; rw [hk1]; exact rfl) | (go_simp; rw [if_pos hk2]; exact rfl) | (go_simp; rw [hk3]; done) | (go_simp; rw [hk3]; exact rfl) | (go_simp; exact rfl)); simp only [Act.put, List.setIfInBounds_toArray, List.set_cons_zero, List.set_cons_succ, List.getElem_toArray, List.getElem_cons_zero, List.getElem_cons_succ])
           (refine wpReads_cons (v := ?_) rfl (yieldsIf_want (by kernel_rfl) fun w' hw => ?_) ?_; rotate_left; (first | (go_simp; done) | (go_simp; rw [hk1]; exact rfl) | (go_simp; rw [if_pos hk2]; exact rfl) | (go_simp; rw [hk3]; done) | (go_simp; rw [hk3]; exact rfl) | (go_simp; exact rfl)); simp only [Act.put, List.setIfInBounds_toArray, List.set_cons_zero, List.set_cons_succ, List.getElem_toArray, List.getElem_cons_zero, List.getElem_cons_succ])
           refine wpReads_nil ?_
           simp only [listAll]
           refine wpTill_want (i := 23) (by kernel_rfl) rfl (by kernel_rfl) ?_
           intro K hK
           go_step
           refine (hawk.out _ (C6.out.drewN (1 + kk))).mono ?_
           rintro e w8 ⟨rfl, c8⟩
           have ct8b : (w6.drewN (1 + kk)).cell? ⟨gt, k, none⟩ = some (.string T) := ct6
           have ct9 : w8.cell? ⟨gt, k, none⟩ = some (.string T) := (cell_of (c8.block gt (World.block_lt_of_cell? _ _ ct8b) (fun e => e)) k).trans ct8b
           refine hK _ _ ⟨fun _ => ct9, ?_⟩
           clear hK K
           refine wpTill_reads 0 [24, 25] (by kernel_rfl) ?_ ct9 ?_
           · intro c a d v w h; cases d <;> exact h
           (refine wpReads_cons (v := ?_) rfl (yieldsIf_want (by kernel_rfl) fun w' hw => ?_) ?_; rotate_left; (first | (go_simp; done) | (go_simp; rw [hk1]; exact rfl) | (go_simp; rw [if_pos hk2]; exact rfl) | (go_simp; rw [hk3]; done) | (go_simp; rw [hk3]; exact rfl) | (go_simp; exact rfl)); simp only [Act.put, List.setIfInBounds_toArray, List.set_cons_zero, List.set_cons_succ, List.getElem_toArray, List.getElem_cons_zero, List.getElem_cons_succ])
           (refine wpReads_cons (v := ?_) rfl (yieldsIf_want (by kernel_rfl) fun w' hw => ?_) ?_; rotate_left; (first | (go_simp; done) | (go_simp; rw [hk1]; exact rfl) | (go_simp; rw [if_pos hk2]; exact rfl) | (go_simp; rw [hk3]; done) | (go_simp; rw [hk3]; exact rfl) | (go_simp; exact rfl)); simp only [Act.put, List.setIfInBounds_toArray, List.set_cons_zero, List.set_cons_succ, List.getElem_toArray, List.getElem_cons_zero, List.getElem_cons_succ])
           refine wpReads_nil ?_
           simp only [listAll]
           refine wpTill_done (by kernel_rfl) ?_ _
           go_wp2
           go_ret
           exact ⟨rfl, (C6.out.drewN (1 + kk)).trans c8 (fun _ _ e => e)⟩
    · have hlt : (i : Int) < (n : Int) := by omega
      go_wp2_with (first | (at_builtin; (refine wpList_append_lies _ rfl _ _ _ rfl w2.heap.size 9 i9 _ 1 16 Tryd.underlying39 j1 j2 j3 j4 rfl (by omega) _ i _ rfl ((World.ownsRow.chg HH.out.1 d2.out (fun g _ e => e)).alloc _) ⟨w9.heap.size, 0, none⟩ 1 1 [.string (⟨#[116, 101, 120, 116, 32]⟩ ++ digit i)] rfl rfl (World.news_of_block (cs := #[.string (⟨#[116, 101, 120, 116, 32]⟩ ++ digit i)]) (t := 9) (fr := (0, 0)) (heap_alloc_new _ _)) (by simp [Value.oneCell']) (by omega) (by unfold maxLen; omega) (by omega) (by have := HH.out.2.size; have := d2.out.size; simp; omega) (w9.heap.size + 1) (by simp) ?_)) | (go_at_call 16; refine (digits_small i (by omega) _).mono ?_; rintro e w9 ⟨rfl, d2⟩; replace d2 := hid d2))
      intro g9 cap9 w10 hown10 hgrow10 hat10 hlt10
      have H10 := hid (And.intro hown10 (And.intro hgrow10 hat10))
      clear hown10 hgrow10 hat10
      go_wp2
      go_roundg (n - (i + 1))
      case measure => omega
      case rel =>
        refine ⟨i + 1, _, rfl, by congr 1, by omega, rfl, ?_, ?_⟩
        · have h := H10.out.1
          rw [textsOf_succ, List.map_append]
          exact h
        · have hg := H10.out.2.1
          have c9 := HH.out.2.trans d2.out (fun _ _ e => e)
          have hC : Chg (fun k => tv.ownBlock = some k) w9 w10 := ((chg_alloc w9 _).mono (fun _ _ e => e.elim)).trans (S' := fun k => tv.ownBlock = some k) ⟨hg.os, hg.tape, hg.output, hg.size, fun k hk hn => hg.block k hk (fun e => hn e.symm)⟩ (fun _ _ e => e)
          exact c9.trans hC (fun g hg e => by have := (HH.out.1.lt g e).1; omega)

end Go.Proofs.YtkhicabfmkldpaaDoor

namespace Go.Proofs.YtkhicabfmkldpaaDoor
open Go Go.RowKit

/-- A body is made in a maker that is new. -/
theorem body_new (a : Option Addr) (c : Nat) (code : List UInt8) (w : World) (h : RdB w (.slice a code.length c) code) (ho : ∀ b, (Value.slice a code.length c).ownBlock = some b → b < w.heap.size) :
    Calls Tryd.prog 15 #[.pointer (some ⟨w.heap.size, 0, none⟩), .int .i64 1] (w.alloc (.cells #[.slice a (min code.length 60) c, .slice none 0 0, .slice none 0 0, .int .i64 2, .int .i64 0] 37)) fun e w' => e = .returned (.tuple #[]) ∧ ∃ cv iv kv, GenAt w' w.heap.size w.heap.size cv iv kv (haltsOf code) ∧ Chg (fun _ => False) w w' := by
  have hG : GenAt (w.alloc (.cells #[.slice a (min code.length 60) c, .slice none 0 0, .slice none 0 0, .int .i64 2, .int .i64 0] 37)) w.heap.size w.heap.size _ _ _ (gen0 (code.take 60) 2) :=
    gen_start (part := 2) (rdB_front h 60) (fun b hb => ho b (by cases a with | none => simp [Value.ownBlock] at hb | some x => exact hb))
  have z0 : Szd (gen0 (code.take 60) 2) 2000 := ⟨by show (code.take 60).length ≤ _; rw [List.length_take]; omega, by show 0 + 2000 ≤ 100000; omega, by show 0 + 2000 ≤ 100000; omega⟩
  have hb0 : BodyOk w.heap.size w.heap.size 672 1 (gBody 2) := by
    have h1 := gBody_ok w.heap.size w.heap.size 2 (by decide)
    rw [show (3 - ((2 : Nat) : Int)) = 1 from rfl] at h1
    exact h1
  refine (hb0 _ _ _ _ _ hG (by simp) (z0.mono (by decide))).mono ?_
  rintro e w' ⟨he, ⟨⟨cv, iv, kv, g1, f1, f2⟩, hc⟩⟩
  refine ⟨he, cv, iv, kv, g1, ((Chg.refl (fun _ => False) w).alloc _).trans hc (fun i hi e => ?_)⟩
  have := genS_none e
  omega

set_option maxHeartbeats 1000000 in
set_option maxRecDepth 100000 in
/-- FnVMHalts: the law's walk. -/
theorem halts_walk (a0 : Option Addr) (n0 : Nat) (code : List UInt8) (a1 : Option Addr) (n1 : Nat) (data : List UInt8) (z y : Int) (e0 e1 : Addr) (w : World) (hz : 0 ≤ z ∧ z ≤ 255) (hy : 0 ≤ y ∧ y ≤ 255) (h0 : RdB w (.slice a0 code.length n0) code) (h0o : ∀ b, (Value.slice a0 code.length n0).ownBlock = some b → b < w.heap.size) (h1 : RdB w (.slice a1 data.length n1) data) (h1o : ∀ b, (Value.slice a1 data.length n1).ownBlock = some b → b < w.heap.size) (hS : Sent w w.heap.size e0 e1) :
    Calls Tryd.prog 4 #[.slice a0 code.length n0, .slice a1 data.length n1, .int .u8 z, .int .u8 y] w fun e w' => e = .returned (.bool true) ∧ Chg (fun _ => False) w w' := by
  by_cases g0 : (2147483647 : Int) < (code.length : Int)
  · obtain ⟨m0, hm0⟩ : ∃ m, code.length = m := ⟨_, rfl⟩
    obtain ⟨m1, hm1⟩ : ∃ m, data.length = m := ⟨_, rfl⟩
    obtain ⟨c0, c0b⟩ := rdB_cap h0
    obtain ⟨c1, c1b⟩ := rdB_cap h1
    rw [hm0] at g0 c0 ⊢
    rw [hm1] at c1 ⊢
    clear h0 h0o h1 h1o hS hm0 hm1
    go_enter Tryd.func4, Tryd.ntmps4
    go_wp2
    go_ret
    exact ⟨rfl, Chg.refl _ w⟩
  by_cases g1 : (2147483647 : Int) < (data.length : Int)
  · obtain ⟨m0, hm0⟩ : ∃ m, code.length = m := ⟨_, rfl⟩
    obtain ⟨m1, hm1⟩ : ∃ m, data.length = m := ⟨_, rfl⟩
    obtain ⟨c0, c0b⟩ := rdB_cap h0
    obtain ⟨c1, c1b⟩ := rdB_cap h1
    rw [hm0] at g0 c0 ⊢
    rw [hm1] at g1 c1 ⊢
    clear h0 h0o h1 h1o hS hm0 hm1
    go_enter Tryd.func4, Tryd.ntmps4
    go_wp2
    go_ret
    exact ⟨rfl, Chg.refl _ w⟩
  obtain ⟨ctx, hT, hctx, hF⟩ := halts_ok code
  have hFs := hF.size
  obtain ⟨D, hD⟩ : ∃ D, min data.length 200 = D := ⟨_, rfl⟩
  have hDl : (data.take 200).length = D := by rw [List.length_take]; omega
  obtain ⟨n1', hn1⟩ : ∃ n1', y.toNat % 5 = n1' := ⟨_, rfl⟩
  have hn4 : n1' ≤ 4 := by omega
  have hyn : y.tmod 5 = (n1' : Int) := by
    obtain ⟨q, rfl⟩ := Int.eq_ofNat_of_zero_le hy.1
    rw [← hn1]
    exact tmod_nat q 5
  obtain ⟨k, hk⟩ : ∃ k, z.toNat % (n1' + 1) = k := ⟨_, rfl⟩
  have hkn : k ≤ n1' := by have := Nat.mod_lt z.toNat (show 0 < n1' + 1 by omega); omega
  have hzk : z % (1 + (n1' : Int)) = (k : Int) := by
    obtain ⟨q, rfl⟩ := Int.eq_ofNat_of_zero_le hz.1
    rw [← hk, show (1 + (n1' : Int)) = ((n1' + 1 : Nat) : Int) by omega]
    rfl
  obtain ⟨hA, hH⟩ := halts_ask code (data.take 200) (k + 1) (n1' + 1) (by omega) (by omega) (by omega)
  have hH' : ∀ (i : Nat) (x : Int), (haltsL code (k + 1))[i]? = some (10, x) → 0 ≤ x ∧ x ≤ (textsOf (n1' + 1)).length := by rw [textsOf_length]; exact hH
  obtain ⟨X, hX⟩ : ∃ s', lev 9 (haltsL code (k + 1)) 3000 regs0 0 0 (-1) false false (st0 (data.take 200) 3000) = s' := ⟨_, rfl⟩
  obtain ⟨Y, hY⟩ : ∃ s', lev 9 (haltsOf code).ins 3000 regs0 0 0 (-1) false false (st0 (data.take 200) 3000) = s' := ⟨_, rfl⟩
  have pure := fun ho hl => halts_pure code (data.take 200) (k + 1) (by omega) X Y hX hY ho hl
  have hfX : RdB w (.slice a1 D n1) (data.take 200) := hD ▸ rdB_front h1 200
  have hfo : ∀ g, (Value.slice a1 D n1).ownBlock = some g → g < w.heap.size := fun g hg => h1o g (by cases a1 with | none => simp [Value.ownBlock] at hg | some x => exact hg)
  have hts : ∀ (q : Nat) (s : ByteArray), (textsOf (n1' + 1))[q]? = some s → s.size ≤ 1000000 := fun q s hq => by
    have hq1 := (List.getElem?_eq_some_iff.1 hq).1
    rw [textsOf_length] at hq1
    rw [textsOf_get _ _ hq1] at hq
    obtain rfl := Option.some.inj hq
    rw [textOf_size q (by omega)]
    omega
  refine halts_end a0 code.length n0 a1 data.length n1 z y w code (min code.length 60) D n1' (n1' + 1) k g0 g1 (rdB_cap h0) (rdB_cap h1) hz hy (by omega) hyn hn4 rfl hzk (by omega) hkn
    (hid (fun w1 hw1 => by subst hw1; exact body_new a0 n0 code w h0 h0o)) (textOf k) (hid rfl) (textOf_size k (by omega)) (by omega) (haltsOf code).ins.length (by omega) (hid rfl) (!X.odd && decide (0 < X.left)) (decide (Y.bad = 0)) X.notes (lev_notes_le _ _ hX)
    (hid (fun w1 hc => hD ▸ data_any a1 n1 data w1 (h1.chg hc (fun _ _ _ e => e))))
    (hid (fun iv w1 hR => (spec_run hR hA hfX hfo hX).mono fun e w' ⟨nv, q, f, he, h2, _, _, _, h3⟩ => ⟨nv, q, f, he, h2, h3⟩))
    (hid (fun iv w1 hsp hb hc => (vmruns (haltsOf code).ins (data.take 200) iv _ w1 hsp hb (hfX.chg hc (fun _ _ _ e => e)) (fun g hg => Nat.lt_of_lt_of_le (hfo g hg) hc.size) (fun i x h => (hF.vals i 8 x h).2.2.2.2 rfl) (by omega) (by omega) Y hY).mono
      fun e w' ⟨nv, q, fine, he, _, _, h3, _, h5⟩ => ⟨nv, q, fine, _, he, fun b1 => h3 (pure (good_of b1).1 (good_of b1).2).1, h5⟩))
    (hid (fun b1 b2 iv ev w1 hR hTx => ?_))
    (hid (fun w1 hc => awake_walk e0 e1 w1 (hS.keep hc)))
  obtain ⟨hb, hG⟩ := (pure (good_of b1).1 (good_of b1).2).2 (of_decide_eq_true b2)
  refine (vmrun false (haltsL code (k + 1)) (textsOf (n1' + 1)) (data.take 200) iv ev _ e0 e1 9 X w1 hA hR.1 hTx hts hH' (hfX.chg hR.2.2 (fun _ _ _ e => e)) (fun g hg => Nat.lt_of_lt_of_le (hfo g hg) hR.2.2.size) (hS.keep hR.2.2) hX hG).mono ?_
  rintro e w' ⟨v', rest', why, rfl, hca, _, _, hwhy, hch⟩
  have hw := hwhy.2.2 k (by omega)
  rw [textsOf_get _ _ (by omega)] at hw
  obtain rfl := Option.some.inj hw
  have hbd : decide (X.bad = 0) = false := decide_eq_false (by omega)
  exact ⟨v', _, by rw [hbd], hca, hch⟩
end Go.Proofs.YtkhicabfmkldpaaDoor

namespace Go.Proofs.YtkhicabfmkldpaaDoor
open Go Go.RowKit Go.ChangeShapes Go.WideShapes Go.ChangeAt

set_option maxRecDepth 100000 in
theorem halts_contract (H : Type) (enc : TypeId × Value → H) (W : World) (base : Nat) (args : Array Value) (ds gs : List (DataW H)) (before : List MemPlace)
    (hval : ∀ (j : Nat) t v, Tryd.f4.params[j]? = some t → args[j]? = some v → Value.okWide Tryd.prog W .any base t v)
    (hW : DataW.Whole enc Tryd.prog Tryd.f4.params.toList Rows.fnVMHaltsSpec.vars false W args.toList ds gs before) (hL : laidMetH Tryd.prog Rows.fnVMHaltsRow.laid W) :
    Calls Tryd.prog 4 args W fun e W' => ∃ v, e = .returned v ∧ Rows.fnVMHaltsSpec.post enc Tryd.prog Tryd.f4 false true false false W args v W' := by
  have hW' := hW
  obtain ⟨p, q, hA0, hV, rfl, hfz, hnd⟩ := hW
  have hA : DataW.TrodAll enc Tryd.prog W 0 (fun _ => true) true Tryd.f4.params.toList args.toList ds p := hA0
  rw [Tryd.params4] at hA hval
  obtain ⟨v0, vs0, d0, ds0, p0, q0, ha0, rfl, rfl, h0, r0⟩ := trodAll_cons hA
  obtain ⟨v1, vs1, d1, ds1, p1, q1, ha1, rfl, rfl, h1, r1⟩ := trodAll_cons r0
  obtain ⟨v2, vs2, d2, ds2, p2, q2, ha2, rfl, rfl, h2, r2⟩ := trodAll_cons r1
  obtain ⟨v3, vs3, d3, ds3, p3, q3, ha3, rfl, rfl, h3, r3⟩ := trodAll_cons r2
  obtain ⟨rfl, rfl, rfl⟩ := trodAll_nil r3
  obtain rfl : args = #[v0, v1, v2, v3] := by cases args; simp_all
  obtain ⟨rfl, rfl⟩ := trodVars_none hV
  obtain ⟨a0, l0, c0, rfl, hr0, ho0⟩ := open_u8s (hval 0 22 v0 rfl rfl) h0
  obtain ⟨a1, l1, c1, rfl, hr1, ho1⟩ := open_u8s (hval 1 22 v1 rfl rfl) h1
  obtain ⟨z2, rfl, rfl, rfl, wa2⟩ := open_int Tryd.underlying5 (hval 2 5 v2 rfl rfl) h2
  obtain ⟨z3, rfl, rfl, rfl, wa3⟩ := open_int Tryd.underlying5 (hval 3 5 v3 rfl rfl) h3
  clear hA0
  simp only [List.append_nil] at hW'
  obtain ⟨e0, e1, hS⟩ := sent_of_laid hL
  have hlt : ∀ x ∈ p0 ++ (p1 ++ ([] ++ ([] ++ ([])))), x.block < W.heap.size := fun x hx => by simpa using hW'.lt x (by simpa using hx)
  refine (halts_walk a0 c0 l0 a1 c1 l1 z2 z3 e0 e1 W (u8_bounds wa2) (u8_bounds wa3) hr0 ho0 hr1 ho1 hS).mono fun e W' ⟨he, hg⟩ => ?_
  subst he
  have hb : Below W.heap.size W W' := hg.below (fun _ e => e.elim) (Nat.le_refl _)
  refine ⟨_, rfl, _, _, _, [], _, [], hW', trodAll_mk1 (shut_bool Tryd.underlying4 true), (trodAll_cons_mk (Below.trod Tryd.laidOut (by kernel_rfl) (of_decide_eq_true (by kernel_rfl)) h0 hb (fun x hx => hlt x (by simp [hx]))) (trodAll_cons_mk (Below.trod Tryd.laidOut (by kernel_rfl) (of_decide_eq_true (by kernel_rfl)) h1 hb (fun x hx => hlt x (by simp [hx]))) (trodAll_cons_mk (shut_int Tryd.underlying5 wa2) (trodAll_cons_mk (shut_int Tryd.underlying5 wa3) trodAll_mk0)))), rfl, hb.frame _, fun h => by cases h⟩

theorem halts_reads (os : Os) {H : Type} (enc : TypeId × Value → H) : ∃ places, DataW.whole enc Tryd.prog ((laidWorld os).forCall (fun _ _ => 0) ⟨#[], #[.slice none 0 0, .slice none 0 0, .int .u8 0, .int .u8 0], []⟩).memory Tryd.f4.params.toList Rows.fnVMHaltsSpec.vars false #[Value.slice none 0 0, Value.slice none 0 0, Value.int .u8 0, Value.int .u8 0].toList 8 = some ([.nil, .nil, .lit (.int .u8 0), .lit (.int .u8 0)], [], places) :=
  ⟨[], by kernel_rfl⟩

set_option maxRecDepth 100000 in
theorem halts_lifted (os : Os) (started : os.Started) (H : Type) (enc : TypeId × Value → H) (F : Stop.Interp) :
    ReturnsInHanded {} Tryd.checked os 4 .any ((OpenSpec.ofChange Rows.fnVMHaltsSpec).preRow enc Tryd.prog Tryd.f4 Rows.fnVMHaltsRow.domain false Rows.fnVMHaltsRow.laid) (((OpenSpec.ofChange Rows.fnVMHaltsSpec).at F).post enc Tryd.prog Tryd.f4 false true false false) := by
  obtain ⟨places, hx⟩ := halts_reads os enc
  refine returnsInHanded_of_row (C := Tryd.checked) (s := OpenSpec.ofChange Rows.fnVMHaltsSpec) Tryd.own started (by kernel_rfl) Tryd.func4
    (witness_row_atRef (enc := enc) (C := Tryd.checked) false (laidWorld os) #[.slice none 0 0, .slice none 0 0, .int .u8 0, .int .u8 0] rfl (by kernel_rfl) (by kernel_rfl) (by kernel_rfl)
      (OpenSpec.preRow_of_cond 8 hx (by kernel_rfl) (fun k hk => by cases hk) (by kernel_rfl) (laid_met os _))) ?_
  intro W base args ds gs before hval hW _ _ _ hL _ _
  exact halts_contract H enc W base args ds gs before hval hW hL

theorem halts_said : Rows.FnVMHaltsSaid :=
  OpenClaim.holds_of_cond 4 Tryd.f4 rfl rfl rfl rfl rfl rfl rfl ⟨rfl, rfl, rfl, rfl, rfl⟩ rfl rfl rfl rfl rfl (by kernel_rfl) Tryd.func4 (by kernel_rfl)
    (of_decide_eq_true (by kernel_rfl)) (by unfold Func.isWrapper; first | (rw [if_pos (by decide +kernel)]; kernel_rfl) | (rw [if_neg (by decide +kernel)]; exact ⟨rfl, rfl⟩))
    (fun os started H enc _ F => by rw [OpenClaim.pre_eq_preRow]; exact halts_lifted os started H enc F)

theorem halts_plain (f : FuncId) (fn : Func) (hf : Tryd.pinned.checked.prog.funcNamed "given.example/pub-tinsmith/laws.FnVMHalts" = some f) (hfn : Tryd.pinned.checked.prog.funcs[f]? = some fn) :
    true = Tryd.pinned.checked.prog.looks [] ∧ ∀ (j : Nat) t, fn.params[j]? = some t → Tryd.pinned.checked.prog.wantsStandIn t = false := by
  obtain rfl : f = 4 := Option.some.inj ((show Tryd.prog.funcNamed "given.example/pub-tinsmith/laws.FnVMHalts" = some 4 by kernel_rfl).symm.trans hf) |>.symm
  obtain rfl : fn = Tryd.f4 := (Option.some.inj (Tryd.func4.symm.trans hfn)).symm
  refine ⟨by kernel_rfl, fun j t ht => ?_⟩
  rw [Tryd.params4] at ht
  have ht : t = 22 ∨ t = 5 := by
    have := Array.mem_of_getElem? ht
    simp at this
    omega
  rcases ht with rfl | rfl
  · exact (show Tryd.prog.wantsStandIn 22 = false by kernel_rfl)
  · exact (show Tryd.prog.wantsStandIn 5 = false by kernel_rfl)

theorem halts_card : Rows.FnVMHaltsCardSaid :=
  Claim7.holds_tied_plain_at .later [] _ _ _ _ halts_said (fun _ h => by cases h) (by kernel_rfl) (fun _ h => by cases h) fnVMHalts_row_tie rfl ⟨rfl, rfl⟩ (by kernel_rfl) rfl halts_plain (by kernel_rfl)
end Go.Proofs.YtkhicabfmkldpaaDoor
