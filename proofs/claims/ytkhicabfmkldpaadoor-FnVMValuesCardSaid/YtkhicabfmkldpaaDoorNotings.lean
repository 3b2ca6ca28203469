/-
  spec.VMSame: are two lists of notes the same.
  The law FnVMLongs: the walk.
-/
import Derived.Test.YtkhicabfmkldpaaDoorVmruns
set_option linter.unusedSimpArgs false
set_option linter.unusedVariables false
namespace Go.Proofs.YtkhicabfmkldpaaDoor
open Go Go.RowKit

def Note.val (n : Note) : Value := .agg #[.string n.name, .int .i64 n.n, .string n.s, .int .i64 n.tg]

theorem ba_inj {a b : ByteArray} (h : a.toList = b.toList) : a = b := by
  rw [ByteArray.toList_eq, ByteArray.toList_eq] at h
  exact ByteArray.ext (Array.ext' h)

open Classical in
theorem neq_note (a b : Note) (w : World) : (binOp .neq 47 (.agg #[.string a.name, .int .i64 a.n, .string a.s, .int .i64 a.tg]) (.agg #[.string b.name, .int .i64 b.n, .string b.s, .int .i64 b.tg])).run Tryd.prog w = .ok (.bool (!decide (a = b))) w := by
  simp [go_sem]
  obtain ⟨a1, a2, a3, a4⟩ := a
  obtain ⟨b1, b2, b3, b4⟩ := b
  by_cases h1 : a1 = b1
  · by_cases h2 : a2 = b2
    · by_cases h3 : a3 = b3
      · by_cases h4 : a4 = b4
        · simp [h1, h2, h3, h4]
        · simp [h1, h2, h3, h4]
      · simp [h1, h2, h3, fun e => h3 (ba_inj e)]
        intro h; exact absurd (ba_inj h) h3
    · simp [h1, h2]
  · have h5 : ¬ a1.toList = b1.toList := fun e => h1 (ba_inj e)
    simp [h1, h5]

/-- The first so many notes. -/
theorem take_step {l : List Note} {i : Nat} {n : Note} (h : l[i]? = some n) : l.take (i + 1) = l.take i ++ [n] := by
  rw [List.take_add_one, h]; rfl

set_option maxHeartbeats 1000000 in
set_option maxRecDepth 100000 in
theorem same_any (av bv : Value) (la lb : List Note) (w : World) (ha : CallsAt w av la) (hb : CallsAt w bv lb) (hla : la.length ≤ 1000000) (hlb : lb.length ≤ 1000000) :
    Calls Tryd.prog 14 #[av, bv] w fun e w' => ∃ b : Bool, e = .returned (.bool b) ∧ (b = true ↔ la = lb) ∧ ∃ k, w' = w.drewN k := by
  obtain ⟨aa, ac, hav⟩ : ∃ a c, av = .slice a la.length c := by
    rcases ha with ⟨rfl, rfl⟩ | ⟨b, off, cap, rfl, _⟩
    · exact ⟨_, _, rfl⟩
    · exact ⟨_, _, rfl⟩
  obtain ⟨ba, bc, hbv⟩ : ∃ a c, bv = .slice a lb.length c := by
    rcases hb with ⟨rfl, rfl⟩ | ⟨b, off, cap, rfl, _⟩
    · exact ⟨_, _, rfl⟩
    · exact ⟨_, _, rfl⟩
  have HA := hid ha
  have HB := hid hb
  have Hav := hid hav
  have Hbv := hid hbv
  rw [hav, hbv]
  clear ha hb hav hbv
  by_cases hl : la.length = lb.length
  · obtain ⟨n, hn⟩ : ∃ n, la.length = n := ⟨_, rfl⟩
    rw [hn] at hla ⊢
    have hn2 : lb.length = n := by omega
    rw [hn2]
    have Hn := hid (And.intro hn hn2)
    clear hl hn hn2 hlb
    go_enter Tryd.func14, Tryd.ntmps14
    go_wp2
    go_loopg [5] n (fun k v5 wr => ∃ (i : Nat), v5 = .int .i64 i ∧ i + k = n ∧ Hid (la.take i = lb.take i ∧ ∃ q, wr = w.drewN q))
    case atStart => exact ⟨0, rfl, by omega, rfl, 0, rfl⟩
    case round =>
      obtain ⟨i, rfl, hik, HH⟩ := hrel
      by_cases hlt : i < n
      · obtain ⟨x, hx⟩ : ∃ x, la[i]? = some x := ⟨_, List.getElem?_eq_getElem (by rw [Hn.out.1]; exact hlt)⟩
        obtain ⟨y, hy⟩ : ∃ y, lb[i]? = some y := ⟨_, List.getElem?_eq_getElem (by rw [Hn.out.2]; exact hlt)⟩
        obtain ⟨q, hq⟩ := HH.out.2
        obtain ⟨b1, o1, rfl, hc1⟩ : ∃ b off, aa = some ⟨b, off, none⟩ ∧ w.cell? ⟨b, off + i * 4, none⟩ = some (.string x.name) ∧ w.cell? ⟨b, off + i * 4 + 1, none⟩ = some (.int .i64 x.n) ∧ w.cell? ⟨b, off + i * 4 + 2, none⟩ = some (.string x.s) ∧ w.cell? ⟨b, off + i * 4 + 3, none⟩ = some (.int .i64 x.tg) := by
          have h := HA.out
          rw [Hav.out] at h
          rcases h with ⟨h, rfl⟩ | ⟨b, off, cap, h, _, _, h3⟩
          · simp at hx
          · cases h; exact ⟨b, off, rfl, h3 i x hx⟩
        obtain ⟨b2, o2, rfl, hc2⟩ : ∃ b off, ba = some ⟨b, off, none⟩ ∧ w.cell? ⟨b, off + i * 4, none⟩ = some (.string y.name) ∧ w.cell? ⟨b, off + i * 4 + 1, none⟩ = some (.int .i64 y.n) ∧ w.cell? ⟨b, off + i * 4 + 2, none⟩ = some (.string y.s) ∧ w.cell? ⟨b, off + i * 4 + 3, none⟩ = some (.int .i64 y.tg) := by
          have h := HB.out
          rw [Hbv.out] at h
          rcases h with ⟨h, rfl⟩ | ⟨b, off, cap, h, _, _, h3⟩
          · simp at hy
          · cases h; exact ⟨b, off, rfl, h3 i y hy⟩
        subst hq
        obtain ⟨c10, c11, c12, c13⟩ := hc1
        obtain ⟨c20, c21, c22, c23⟩ := hc2
        have hneq := neq_note x y
        have Hx := hid (And.intro hx hy)
        clear hx hy
        by_cases hxy : x = y
        · rw [show (!@decide (x = y) (Classical.propDecidable _)) = false by simp [hxy]] at hneq
          have Hxy := hid hxy
          clear hxy
          go_wp2
          go_quiet (fail)
          go_wp2
          go_roundg (n - (i + 1))
          case measure => omega
          case rel =>
            refine ⟨i + 1, rfl, by omega, ?_, _, rfl⟩
            rw [take_step Hx.out.1, take_step Hx.out.2, HH.out.1, Hxy.out]
        · rw [show (!@decide (x = y) (Classical.propDecidable _)) = true by simp [hxy]] at hneq
          have Hxy := hid hxy
          clear hxy
          go_wp2
          go_quiet (fail)
          go_wp2
          go_ret
          refine ⟨false, rfl, ⟨fun h => absurd h (by decide), fun h => absurd ?_ Hxy.out⟩, _, World.drewN_drewN _ _ _⟩
          have h1 := Hx.out.1
          rw [h, Hx.out.2] at h1
          exact (Option.some.inj h1).symm
      · go_wp2
        go_ret
        have hi : i = n := by omega
        subst hi
        obtain ⟨h1, h2⟩ := HH.out
        rw [List.take_of_length_le (by rw [Hn.out.1]; exact Nat.le_refl _), List.take_of_length_le (by rw [Hn.out.2]; exact Nat.le_refl _)] at h1
        exact ⟨true, rfl, ⟨fun _ => h1, fun _ => rfl⟩, h2⟩
  · have hl2 : ¬ (la.length : Int) = lb.length := by omega
    have Hl := hid hl
    clear hl
    go_enter Tryd.func14, Tryd.ntmps14
    go_wp2
    go_ret
    exact ⟨false, rfl, ⟨fun h => absurd h (by decide), fun h => absurd (congrArg List.length h) Hl.out⟩, 0, rfl⟩
end Go.Proofs.YtkhicabfmkldpaaDoor

namespace Go.Proofs.YtkhicabfmkldpaaDoor
open Go Go.RowKit

def longsIns (a b c d : Int) : List (Nat × Int) := [(15, a), (16, b), (17, c), (16, d), (1, 4), (18, a), (1, 3)]

def longsN (a b c d : Int) : Int := wrap64 (wrap64 (wrap64 (a + b) * c) + d)

theorem longs_lev (a b c d : Int) : lev 9 (longsIns a b c d) 3000 regs0 0 0 (-1) false false (st0 [] 3000) =
    ⟨7, [], [⟨nmSetLong, longsN a b c d, ⟨#[]⟩, 0⟩, ⟨nmSetInt, a, ⟨#[]⟩, 0⟩], 0, 2993, 0, false, false⟩ := by
  rfl

theorem longs_asked (a b c d : Int) (ha : -32768 ≤ a ∧ a ≤ 32767) (hb : -32768 ≤ b ∧ b ≤ 32767) (hc : -32768 ≤ c ∧ c ≤ 32767) (hd : -32768 ≤ d ∧ d ≤ 32767) : Asked (longsIns a b c d) [] := by
  refine ⟨by show 0 < 7; omega, by show 7 ≤ 100000; omega, ?_, ?_, by decide⟩
  · intro i op x h
    match i, h with
    | 0, h => cases h; omega
    | 1, h => cases h; omega
    | 2, h => cases h; omega
    | 3, h => cases h; omega
    | 4, h => cases h; omega
    | 5, h => cases h; omega
    | 6, h => cases h; omega
    | i + 7, h => simp [longsIns] at h
  · intro i x h
    match i, h with
    | 0, h => cases h
    | 1, h => cases h
    | 2, h => cases h
    | 3, h => cases h
    | 4, h => cases h
    | 5, h => cases h
    | 6, h => cases h
    | i + 7, h => simp [longsIns] at h

theorem longs_halts (a b c d : Int) (i : Nat) (x : Int) (h : (longsIns a b c d)[i]? = some (10, x)) : 0 ≤ x ∧ x ≤ ([] : List ByteArray).length := by
  match i, h with
  | 0, h => cases h
  | 1, h => cases h
  | 2, h => cases h
  | 3, h => cases h
  | 4, h => cases h
  | 5, h => cases h
  | 6, h => cases h
  | i + 7, h => simp [longsIns] at h

theorem inAt_blk {w : World} {b n : Nat} {l : List (Nat × Int)} {cs : Array Value} {ty : TypeId} (h : blk w b cs ty) (hcs : cs.toList = insCells l) (hn : l.length = n) : InAt w (.slice (some ⟨b, 0, none⟩) n n) l := by
  subst hn
  refine ⟨b, 0, l.length, rfl, fun k op x hk => ?_⟩
  have key : ∀ j, j < 2 → w.cell? ⟨b, 0 + k * 2 + j, none⟩ = [Value.int .i64 (op : Int), .int .i64 x][j]? := by
    intro j hj
    have h1 := insCells_get l k op x hk j hj
    rw [← hcs] at h1
    have hlt := (List.getElem?_eq_some_iff.1 (h1.trans (List.getElem?_eq_getElem (by simp; omega)))).1
    rw [Nat.zero_add, h.cell (k * 2 + j) (v := cs[k * 2 + j]'(by simpa using hlt)) (by simp), ← h1]
    simp
  exact ⟨key 0 (by omega), key 1 (by omega)⟩

theorem callsAt_blk {w : World} {b n : Nat} {l : List Note} {cs : Array Value} {ty : TypeId} (h : blk w b cs ty) (hcs : cs.toList = l.flatMap Note.cells) (hn : l.length = n) (hmx : n ≤ 1000000) : CallsAt w (.slice (some ⟨b, 0, none⟩) n n) l := by
  subst hn
  refine .inr ⟨b, 0, l.length, rfl, Nat.le_refl _, by unfold maxLen; omega, fun k m hk => ?_⟩
  have key : ∀ j, j < 4 → w.cell? ⟨b, 0 + k * 4 + j, none⟩ = m.cells[j]? := by
    intro j hj
    have h1 := flat_get l k m hk j hj
    rw [← hcs] at h1
    have hlt := (List.getElem?_eq_some_iff.1 (h1.trans (List.getElem?_eq_getElem (by simp [Note.cells]; omega)))).1
    rw [Nat.zero_add, h.cell (k * 4 + j) (v := cs[k * 4 + j]'(by simpa using hlt)) (by simp), ← h1]
    simp
  exact ⟨key 0 (by omega), key 1 (by omega), key 2 (by omega), key 3 (by omega)⟩

theorem Sent.up {w w' : World} {B B' : Nat} {e0 e1 : Addr} (h : Sent w B e0 e1) (hc : Chg (fun k => B ≤ k) w w') (hB : B ≤ B') : Sent w' B' e0 e1 := by
  have h1 := h.chg hc (fun _ e => e)
  exact ⟨⟨h1.at'.1, h1.at'.2.1, Nat.le_trans h1.at'.2.2 hB⟩, h1.ne, h1.c0, h1.c1, Nat.lt_of_lt_of_le h1.b0 hB, Nat.lt_of_lt_of_le h1.b1 hB⟩

set_option maxHeartbeats 1000000 in
set_option maxRecDepth 100000 in
theorem longs_walk (a b c d : Int) (ha : -32768 ≤ a ∧ a ≤ 32767) (hb : -32768 ≤ b ∧ b ≤ 32767) (hc : -32768 ≤ c ∧ c ≤ 32767) (hd : -32768 ≤ d ∧ d ≤ 32767) (e0 e1 : Addr) (w : World) (hS : Sent w w.heap.size e0 e1) :
    Calls Tryd.prog 6 #[.int .i16 a, .int .i16 b, .int .i16 c, .int .i16 d] w fun e w' => e = .returned (.bool true) ∧ Chg (fun _ => False) w w' := by
  have hA := hid (longs_asked a b c d ha hb hc hd)
  have hH := hid (longs_halts a b c d)
  have hL := hid (longs_lev a b c d)
  have HS := hid hS
  clear hS
  go_enter Tryd.func6, Tryd.ntmps6
  have hlg : longsN a b c d = wrap64 (wrap64 ((a + b) * c) + d) := by
    unfold longsN
    rw [show wrap64 (a + b) = a + b by unfold wrap64; omega]
  have Hlg := hid hlg
  clear hlg
  go_wp2_with (first | (go_at_call 13; refine (vmrun false (longsIns a b c d) [] [] _ _ _ e0 e1 9 _ _ hA.out (inAt_blk (blk_new _ _ _) rfl rfl) (.inl ⟨rfl, rfl⟩) (fun q s h => by simp at h) hH.out (.inl ⟨rfl, rfl⟩) (fun g hg => by simp [Value.ownBlock] at hg) (HS.out.up (((Chg.refl _ w).alloc _)) (by simp)) hL.out ⟨rfl, by show 0 < 2993; omega, rfl⟩).mono ?_; rintro e w1 ⟨v', rest', why, rfl, hca, hown, hre, hwhy, hch⟩; have Hca := hid (And.intro hca (And.intro hown hch)); clear hca hown hre hwhy hch) | (go_at_call 14; refine (same_any v' _ _ [⟨nmSetLong, longsN a b c d, ⟨#[]⟩, 0⟩, ⟨nmSetInt, a, ⟨#[]⟩, 0⟩] _ (Hca.out.1.chg ((Chg.refl (fun _ => False) w1).alloc _) (fun _ _ e => e)) (callsAt_blk (blk_new _ _ _) (by rw [Hlg.out]; rfl) rfl (by show 2 ≤ 1000000; omega)) (by show 2 ≤ 1000000; omega) (by show 2 ≤ 1000000; omega)).mono ?_; rintro e w2 ⟨bb, rfl, hbb, kk, rfl⟩; (have hbt : bb = true := hbb.2 rfl); subst hbt; clear hbb))
  go_ret
  refine ⟨rfl, ?_⟩
  exact ((((Chg.refl (fun _ => False) w).alloc _).trans Hca.out.2.2 (fun _ _ e => e)).alloc _).drewN _
end Go.Proofs.YtkhicabfmkldpaaDoor
