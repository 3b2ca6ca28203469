/-
  The law FnVMLongs: the walk.
-/
import Derived.Test.YtkhicabfmkldpaaDoorSame
set_option linter.unusedSimpArgs false
set_option linter.unusedVariables false
namespace Go.Proofs.YtkhicabfmkldpaaDoor
open Go Go.RowKit

def longsIns (a b c d : Int) : List (Nat × Int) := [(15, a), (16, b), (17, c), (16, d), (1, 4), (18, a), (1, 3)]

def longsN (a b c d : Int) : Int := wrap64 (wrap64 (wrap64 (a + b) * c) + d)

theorem longs_lev (a b c d : Int) : lev 9 (longsIns a b c d) 3000 regs0 0 0 (-1) false false (st0 [] 3000) =
    ⟨7, [], [⟨nmSetLong, longsN a b c d, ⟨#[]⟩, 0⟩, ⟨nmSetInt, a, ⟨#[]⟩, 0⟩], 0, 2993, 0, false, false⟩ := by
  rfl

theorem longs_asked (a b c d : Int) (ha : -32768 ≤ a ∧ a ≤ 32767) (hb : -32768 ≤ b ∧ b ≤ 32767) (hc : -32768 ≤ c ∧ c ≤ 32767) (hd : -32768 ≤ d ∧ d ≤ 32767) : Asked (longsIns a b c d) [] := by
  refine ⟨by show 0 < 7; omega, by show 7 ≤ 100000; omega, ?_, ?_, by decide⟩
  · intro i op x h
    match i, h with
    | 0, h => cases h; omega
    | 1, h => cases h; omega
    | 2, h => cases h; omega
    | 3, h => cases h; omega
    | 4, h => cases h; omega
    | 5, h => cases h; omega
    | 6, h => cases h; omega
    | i + 7, h => simp [longsIns] at h
  · intro i x h
    match i, h with
    | 0, h => cases h
    | 1, h => cases h
    | 2, h => cases h
    | 3, h => cases h
    | 4, h => cases h
    | 5, h => cases h
    | 6, h => cases h
    | i + 7, h => simp [longsIns] at h

theorem longs_halts (a b c d : Int) (i : Nat) (x : Int) (h : (longsIns a b c d)[i]? = some (10, x)) : 0 ≤ x ∧ x ≤ ([] : List ByteArray).length := by
  match i, h with
  | 0, h => cases h
  | 1, h => cases h
  | 2, h => cases h
  | 3, h => cases h
  | 4, h => cases h
  | 5, h => cases h
  | 6, h => cases h
  | i + 7, h => simp [longsIns] at h

theorem inAt_blk {w : World} {b n : Nat} {l : List (Nat × Int)} {cs : Array Value} {ty : TypeId} (h : blk w b cs ty) (hcs : cs.toList = insCells l) (hn : l.length = n) : InAt w (.slice (some ⟨b, 0, none⟩) n n) l := by
  subst hn
  refine ⟨b, 0, l.length, rfl, fun k op x hk => ?_⟩
  have key : ∀ j, j < 2 → w.cell? ⟨b, 0 + k * 2 + j, none⟩ = [Value.int .i64 (op : Int), .int .i64 x][j]? := by
    intro j hj
    have h1 := insCells_get l k op x hk j hj
    rw [← hcs] at h1
    have hlt := (List.getElem?_eq_some_iff.1 (h1.trans (List.getElem?_eq_getElem (by simp; omega)))).1
    rw [Nat.zero_add, h.cell (k * 2 + j) (v := cs[k * 2 + j]'(by simpa using hlt)) (by simp), ← h1]
    simp
  exact ⟨key 0 (by omega), key 1 (by omega)⟩

theorem callsAt_blk {w : World} {b n : Nat} {l : List Note} {cs : Array Value} {ty : TypeId} (h : blk w b cs ty) (hcs : cs.toList = l.flatMap Note.cells) (hn : l.length = n) (hmx : n ≤ 1000000) : CallsAt w (.slice (some ⟨b, 0, none⟩) n n) l := by
  subst hn
  refine .inr ⟨b, 0, l.length, rfl, Nat.le_refl _, by unfold maxLen; omega, fun k m hk => ?_⟩
  have key : ∀ j, j < 4 → w.cell? ⟨b, 0 + k * 4 + j, none⟩ = m.cells[j]? := by
    intro j hj
    have h1 := flat_get l k m hk j hj
    rw [← hcs] at h1
    have hlt := (List.getElem?_eq_some_iff.1 (h1.trans (List.getElem?_eq_getElem (by simp [Note.cells]; omega)))).1
    rw [Nat.zero_add, h.cell (k * 4 + j) (v := cs[k * 4 + j]'(by simpa using hlt)) (by simp), ← h1]
    simp
  exact ⟨key 0 (by omega), key 1 (by omega), key 2 (by omega), key 3 (by omega)⟩

theorem Sent.up {w w' : World} {B B' : Nat} {e0 e1 : Addr} (h : Sent w B e0 e1) (hc : Chg (fun k => B ≤ k) w w') (hB : B ≤ B') : Sent w' B' e0 e1 := by
  have h1 := h.chg hc (fun _ e => e)
  exact ⟨⟨h1.at'.1, h1.at'.2.1, Nat.le_trans h1.at'.2.2 hB⟩, h1.ne, h1.c0, h1.c1, Nat.lt_of_lt_of_le h1.b0 hB, Nat.lt_of_lt_of_le h1.b1 hB⟩

set_option maxHeartbeats 1000000 in
set_option maxRecDepth 100000 in
theorem longs_walk (a b c d : Int) (ha : -32768 ≤ a ∧ a ≤ 32767) (hb : -32768 ≤ b ∧ b ≤ 32767) (hc : -32768 ≤ c ∧ c ≤ 32767) (hd : -32768 ≤ d ∧ d ≤ 32767) (e0 e1 : Addr) (w : World) (hS : Sent w w.heap.size e0 e1) :
    Calls Tryd.prog 6 #[.int .i16 a, .int .i16 b, .int .i16 c, .int .i16 d] w fun e w' => e = .returned (.bool true) ∧ Chg (fun _ => False) w w' := by
  have hA := hid (longs_asked a b c d ha hb hc hd)
  have hH := hid (longs_halts a b c d)
  have hL := hid (longs_lev a b c d)
  have HS := hid hS
  clear hS
  go_enter Tryd.func6, Tryd.ntmps6
  have hlg : longsN a b c d = wrap64 (wrap64 ((a + b) * c) + d) := by
    unfold longsN
    rw [show wrap64 (a + b) = a + b by unfold wrap64; omega]
  have Hlg := hid hlg
  clear hlg
  go_wp2_with (first | (go_at_call 13; refine (vmrun false (longsIns a b c d) [] [] _ _ _ e0 e1 9 _ _ hA.out (inAt_blk (blk_new _ _ _) rfl rfl) (.inl ⟨rfl, rfl⟩) (fun q s h => by simp at h) hH.out (.inl ⟨rfl, rfl⟩) (fun g hg => by simp [Value.ownBlock] at hg) (HS.out.up (((Chg.refl _ w).alloc _)) (by simp)) hL.out ⟨rfl, by show 0 < 2993; omega, rfl⟩).mono ?_; rintro e w1 ⟨v', rest', why, rfl, hca, hown, hre, hwhy, hch⟩; have Hca := hid (And.intro hca (And.intro hown hch)); clear hca hown hre hwhy hch) | (go_at_call 14; refine (same_any v' _ _ [⟨nmSetLong, longsN a b c d, ⟨#[]⟩, 0⟩, ⟨nmSetInt, a, ⟨#[]⟩, 0⟩] _ (Hca.out.1.chg ((Chg.refl (fun _ => False) w1).alloc _) (fun _ _ e => e)) (callsAt_blk (blk_new _ _ _) (by rw [Hlg.out]; rfl) rfl (by show 2 ≤ 1000000; omega)) (by show 2 ≤ 1000000; omega) (by show 2 ≤ 1000000; omega)).mono ?_; rintro e w2 ⟨bb, rfl, hbb, kk, rfl⟩; (have hbt : bb = true := hbb.2 rfl); subst hbt; clear hbb))
  go_ret
  refine ⟨rfl, ?_⟩
  exact ((((Chg.refl (fun _ => False) w).alloc _).trans Hca.out.2.2 (fun _ _ e => e)).alloc _).drewN _
end Go.Proofs.YtkhicabfmkldpaaDoor
