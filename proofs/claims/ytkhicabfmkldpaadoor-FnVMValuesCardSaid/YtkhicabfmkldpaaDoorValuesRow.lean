/-
  FnVMValues: its row, and its card.
  FnVMValues: the law's walk, whole.
  FnVMValues: what was written is read, and set: the walk.
-/
import Derived.Test.YtkhicabfmkldpaaDoorVal8
import Derived.ChangeSlices
import Derived.WideShapes
set_option linter.unusedSimpArgs false
set_option linter.unusedVariables false
namespace Go.Proofs.YtkhicabfmkldpaaDoor
open Go Go.RowKit Go.Lib

theorem note_sum (k : Nat) (hk : 1 ≤ k ∧ k ≤ 7) (d : PV) (hd : d.Of k) : wrap64 (d.n + wrap64 (d.f : Int)) = d.n + wrap64 (d.f : Int) := by
  obtain ⟨n, f, s⟩ := d
  obtain ⟨c1, c2, c3, c4, c5, c6, c7⟩ := hd
  simp only at c1 c2 c3 c4 c5 c6 c7 ⊢
  match k, hk with
  | 1, _ => obtain ⟨h, rfl, _⟩ := c1 rfl; unfold wrap64; omega
  | 2, _ => obtain ⟨h, rfl, _⟩ := c2 rfl; unfold wrap64; omega
  | 3, _ => obtain ⟨h, rfl, _⟩ := c3 rfl; unfold wrap64; omega
  | 4, _ => obtain ⟨rfl, h, _⟩ := c4 rfl; unfold wrap64; omega
  | 5, _ => obtain ⟨rfl, h, _⟩ := c5 rfl; unfold wrap64; omega
  | 6, _ => obtain ⟨rfl, rfl, _⟩ := c6 rfl; unfold wrap64; omega
  | 7, _ => obtain ⟨rfl, rfl, _⟩ := c7 rfl; unfold wrap64; omega

theorem name_at (kk : Nat) (h : kk ≤ 6) (d : PV) : [Value.string ⟨#[]⟩, .string ⟨#[83, 101, 116, 66, 111, 111, 108, 101, 97, 110]⟩, .string ⟨#[83, 101, 116, 73, 110, 116]⟩, .string ⟨#[83, 101, 116, 76, 111, 110, 103]⟩, .string ⟨#[83, 101, 116, 70, 108, 111, 97, 116]⟩, .string ⟨#[83, 101, 116, 68, 111, 117, 98, 108, 101]⟩, .string ⟨#[83, 101, 116, 66, 121, 116, 101, 115]⟩, .string ⟨#[83, 101, 116, 83, 116, 114, 105, 110, 103]⟩][1 + kk]? = some (Value.string (d.note (kk + 1)).name) := by
  match kk, h with
  | 0, _ => rfl
  | 1, _ => rfl
  | 2, _ => rfl
  | 3, _ => rfl
  | 4, _ => rfl
  | 5, _ => rfl
  | 6, _ => rfl

theorem yieldsIf_want {P : Program} {ops : Array Oper} {S : World → Prop} {o : Oper} {v : Value} {a : Act} (hg : Region.wanted o (yielded ops a.tmps) = true) (h : ∀ w, S w → (execOp a.eval o).run P w = .ok (.value v) w) : YieldsIf P ops S o v a := .inl ⟨hg, h⟩

theorem own_ne {v : Value} {b N : Nat} (h : v.ownBlock = (Value.slice (some ⟨b + 1, 0, none⟩) 0 0).ownBlock ∨ v.ownBlock = some N) (hN : b < N) : v.ownBlock ≠ some b := by
  intro e
  rcases h with h | h
  · rw [e] at h
    simp [Value.ownBlock] at h
  · rw [e] at h
    cases h
    omega

theorem bytes_one (l : List UInt8) : ∀ u ∈ byteCells l, u.oneCell' = true := by
  intro u hu
  obtain ⟨x, _, rfl⟩ := List.mem_map.1 hu
  rfl

set_option maxHeartbeats 4000000 in
set_option maxRecDepth 100000 in
theorem values_end (z : Int) (a1 : Option Addr) (m1 n1 : Nat) (a2 : Option Addr) (m2 n2 : Nat) (w : World) (mc mt kk : Nat) (t : List UInt8)
    (g1 : ¬ (2147483647 : Int) < (m1 : Int)) (g2 : ¬ (2147483647 : Int) < (m2 : Int)) (c1 : m1 ≤ n1 ∧ n1 < 9223372036854775808) (c2 : m2 ≤ n2 ∧ n2 < 9223372036854775808) (hz : 0 ≤ z ∧ z ≤ 255) (hm : ((m2 : Int) ≤ 20 ∧ m2 = mt) ∨ (¬ (m2 : Int) ≤ 20 ∧ 20 = mt))
    (hzk : z % 7 = (kk : Int)) (hkk : kk ≤ 6) (hmt : mt ≤ 20)
    (hcode : Hid (∀ w1, Chg (fun _ => False) w w1 → Calls Tryd.prog 21 #[.slice a1 m1 n1] w1 fun e w' => e = .returned (.slice a1 mc n1) ∧ w' = w1))
    (hdat : Hid (∀ w1, Chg (fun _ => False) w w1 → Calls Tryd.prog 20 #[.agg #[.int .i64 (1 + (kk : Int)), .string ⟨#[]⟩, .string ⟨#[]⟩, .slice none 0 0, .slice none 0 0, .slice none 0 0, .string ⟨#[]⟩, .int .i64 0, .slice none 0 0], .slice a1 mc n1] w1 fun e w' => ∃ d : PV, d.Of (kk + 1) ∧ e = .returned (dat d.n d.f (strOf d.s)) ∧ Chg (fun _ => False) w1 w'))
    (hby : Hid (∀ (d : PV) w1, d.Of (kk + 1) → Calls Tryd.prog 22 #[.agg #[.int .i64 (1 + (kk : Int)), .string ⟨#[]⟩, .string ⟨#[]⟩, .slice none 0 0, .slice none 0 0, .slice none 0 0, .string ⟨#[]⟩, .int .i64 0, .slice none 0 0], dat d.n d.f (strOf d.s)] w1 fun e w' => ∃ v, e = .returned v ∧ Out w1 w' v (d.bytes (kk + 1))))
    (ht : Hid (RdB w (.slice a2 mt n2) t ∧ t.length = mt))
    (hrun : Hid (∀ (d : PV) iv dv w1 (sl : Bool), d.Of (kk + 1) → InAt w1 iv (valIns (kk + 1)) → RdB w1 dv (d.bytes (kk + 1) ++ t) → (∀ g, dv.ownBlock = some g → g < w1.heap.size) → Chg (fun _ => False) w w1 → Calls Tryd.prog 13 #[iv, .slice none 0 0, dv, .bool sl] w1 fun e w' => ∃ (g cap : Nat), e = .returned (.tuple #[.slice (some ⟨g, 0, none⟩) 1 cap, .int .i64 mt, .string ⟨#[]⟩, .bool true]) ∧ blkC w' g (d.note (kk + 1)) ∧ Chg (fun _ => False) w1 w')) :
    Calls Tryd.prog 8 #[.int .u8 z, .slice a1 m1 n1, .slice a2 m2 n2] w fun e w' => e = .returned (.bool true) ∧ Chg (fun _ => False) w w' := by
  obtain ⟨w2, hw2⟩ : ∃ w2, w.alloc (.cells #[.int .i64 (1 + (kk : Int)), .string ⟨#[]⟩, .string ⟨#[]⟩, .slice none 0 0, .slice none 0 0, .slice none 0 0, .string ⟨#[]⟩, .int .i64 0, .slice none 0 0] 56) = w2 := ⟨_, rfl⟩
  have hS : SchAt w2 w.heap.size (1 + (kk : Int)) := by rw [← hw2]; exact blk_new w _ 56
  have hs2 : w2.heap.size = w.heap.size + 1 := by rw [← hw2]; simp
  have hC := hid (show Chg (fun _ => False) w w2 by rw [← hw2]; exact (Chg.refl _ w).alloc _)
  have Hw2 := hid hw2
  have HS := hid hS
  clear hw2 hS
  go_enter Tryd.func8, Tryd.ntmps8
  go_wp2
  rw [Hw2.out]
  go_hide hQ
  rename_i Qh
  have key : ∀ (d : PV) (D9 : Nat) (w5 : World), d.Of (kk + 1) → DatAt w5 D9 d.n d.f (strOf d.s) → SchAt w5 w.heap.size (1 + (kk : Int)) → Chg (fun _ => False) w w5 → Qh .normal { tmps := #[.int .u8 z, .slice a1 m1 n1, .slice a2 m2 n2, undef, undef, undef, .bool false, .int .i64 (1 + (kk : Int)), .pointer (some ⟨w.heap.size, 0, none⟩), .pointer (some ⟨D9, 0, none⟩), undef, undef, undef, undef, undef, undef, undef, .slice a1 m1 n1, .int .i64 (m1 : Int), .bool false, .bool false, .slice a2 m2 n2, .int .i64 (m2 : Int), .bool false, .bool false, .int .u8 z, .int .i64 z, .int .i64 (kk : Int), .int .i64 (1 + (kk : Int)), .int .i64 (1 + (kk : Int)), .agg #[.int .i64 (1 + (kk : Int)), .string ⟨#[]⟩, .string ⟨#[]⟩, .slice none 0 0, .slice none 0 0, .slice none 0 0, .string ⟨#[]⟩, .int .i64 0, .slice none 0 0], .agg #[.int .i64 (1 + (kk : Int)), .string ⟨#[]⟩, .string ⟨#[]⟩, .slice none 0 0, .slice none 0 0, .slice none 0 0, .string ⟨#[]⟩, .int .i64 0, .slice none 0 0], .slice a1 m1 n1, .slice a1 mc n1, dat d.n d.f (strOf d.s), undef, undef, undef, undef, undef, undef, undef, undef, undef, undef, undef, undef, undef, undef, undef, undef, undef, undef, undef, undef, undef, undef, undef, undef, undef, undef, undef, undef, undef, undef, undef, undef, undef, undef, undef, undef, undef, undef, undef, undef, undef, undef, undef, undef, undef, undef, undef, undef, undef, undef, undef, undef, undef, undef, undef, undef, undef, undef, undef, undef, undef, undef, undef, undef], defers := [] } w5 := by
    subst hQ
    intro d D9 w5 hd hD hS5 hC5
    have lD := hD.lt
    have lS := hS5.lt
    have hsz5 := hC5.size
    have HD := hid hD
    have HC5 := hid hC5
    have Hd := hid hd
    have g0 := blk.cell hS5 0 rfl
    have g1 := blk.cell hS5 1 rfl
    have g2 := blk.cell hS5 2 rfl
    have g3 := blk.cell hS5 3 rfl
    have g4 := blk.cell hS5 4 rfl
    have g5 := blk.cell hS5 5 rfl
    have g6 := blk.cell hS5 6 rfl
    have g7 := blk.cell hS5 7 rfl
    have g8 := blk.cell hS5 8 rfl
    have e0 := blk.cell hD 0 rfl
    have e1 := blk.cell hD 1 rfl
    have e2 := blk.cell hD 2 rfl
    have e3 := blk.cell hD 3 rfl
    have e4 := blk.cell hD 4 rfl
    clear hD hC5 hd hS5
    obtain ⟨i5, y1, y2, y3, y4⟩ := info_parts Tryd.info5
    rcases hm with ⟨hi, rfl⟩ | ⟨hi, rfl⟩
    all_goals
      go_wp2_with (go_at_call 22; fail)
      refine (hby.out d _ Hd.out).mono ?_
      rintro e w7 ⟨v, rfl, q⟩
      have Q := hid q
      have hI7 := hid (show blk w7 w5.heap.size #[.int .i64 0, .int .i64 (1 + (kk : Int) + 1), .int .i64 1, .int .i64 (1 + (kk : Int) + 1)] 42 from blk.chg ((blk_new w5 _ 42).alloc _) q.chg (fun e => e))
      have hE7 := hid (show blk w7 (w5.heap.size + 1) #[] 5 from blk.chg (blk_new' (by simp) _ 5) q.chg (fun e => e))
      have C7 := hid (show Chg (fun _ => False) w5 w7 from (((Chg.refl _ w5).alloc _).alloc _).trans q.chg (fun _ _ e => e))
      have lbl := bytes_len (kk + 1) (by omega) d Hd.out
      have Lbl := hid lbl
      clear q lbl
      go_wp2_with (first | (at_builtin; (refine wpList_append_rdB rfl _ _ _ rfl w5.heap.size 5 i5 _ Tryd.underlying22 y1 y2 y3 y4 rfl v1 (0 + (d.bytes (kk + 1)).length) _ rfl z1.out _ t rfl (ht.out.1.chg (HC5.out.trans (C7.out.trans C8.out (fun i hi e => by omega)) (fun _ _ e => e)) (fun _ _ _ e => e)) (by have := Lbl.out; have := ht.out.2; unfold maxLen; omega) (by have := Lbl.out; have := ht.out.2; omega) (by have := C7.out.size; have := C8.out.size; omega) ?_); intro v2 w9 x1 x2; have X1 := hid x1; have C9 := hid (show Chg (fun _ => False) w5 w9 from (C7.out.trans C8.out (fun i hi e => by omega)).trans (grown_chg x2) (fun i hi e => by have := (z1.out.lt i e).1; omega)); have hI9 := hid (blk.chg (blk.chg hI7.out C8.out (by omega)) (grown_chg x2) (fun e => hne.out e)); clear x1 x2) | (at_builtin; (refine wpList_append_row rfl _ _ _ rfl w5.heap.size 5 i5 _ 1 1 Tryd.underlying22 y1 y2 y3 y4 rfl (by omega) (.slice (some ⟨w5.heap.size + 1, 0, none⟩) 0 0) 0 [] rfl ⟨rfl, .inr ⟨w5.heap.size + 1, 0, #[], rfl, by omega, hE7.out, Nat.le_refl _, by unfold maxLen; omega, rfl, rfl⟩⟩ _ v (d.bytes (kk + 1)).length (byteCells (d.bytes (kk + 1))) rfl Q.out.own (bytes_one _) (by have := Lbl.out; unfold maxLen; omega) (by have := Lbl.out; omega) C7.out.size ?_); intro v1 w8 z1 z2 z3; have hne := hid (own_ne z3 hI7.out.lt); replace z1 := hid z1; have C8 := hid (show Chg (fun k => k = w5.heap.size + 1) w7 w8 from (grown_chg z2).mono (fun i hi e => by simp [Value.ownBlock] at e; omega)); clear z2 z3))
      have x1 := row_append (l := d.bytes (kk + 1)) (t := t) (by simpa using X1.out)
      refine (hrun.out d _ _ _ _ Hd.out (inAt_blk hI9.out (by simp [insCells, valIns]; omega) rfl) (rdB_of_own x1) (fun g hg => (x1.lt g hg).2) (HC5.out.trans C9.out (fun _ _ e => e))).mono ?_
      rintro e w10 ⟨gq, cq, rfl, hb, cb⟩
      have C10 := hid (C9.out.trans cb (fun _ _ e => e))
      have k0 := chg_cell2 C10.out e0
      have k1 := chg_cell2 C10.out e1
      have k2 := chg_cell2 C10.out e2
      have hsum := note_sum (kk + 1) (by omega) d Hd.out
      obtain ⟨N2, hN2⟩ : ∃ N, d.n + wrap64 (d.f : Int) = N := ⟨_, rfl⟩
      replace hsum := hsum.trans hN2
      have b0 := hb.1
      have b1 := hb.2.1
      have b2 := hb.2.2.1
      have b3 := hb.2.2.2
      rw [show (d.note (kk + 1)).n = N2 from hN2] at b1
      rw [show (d.note (kk + 1)).s = strOf d.s from rfl] at b2
      rw [show (d.note (kk + 1)).tg = 0 from rfl] at b3
      obtain ⟨NM, hNM⟩ : ∃ N, (d.note (kk + 1)).name = N := ⟨_, rfl⟩
      have hname := name_at kk hkk d
      rw [hNM] at b0 hname
      have HNM := hid hNM
      clear hb cb hNM hN2 e0 e1 e2 e3 e4 x1 g0 g1 g2 g3 g4 g5 g6 g7 g8
      go_wp2
      have cA : Chg (fun _ => False) w10 ((w10.alloc (.cells #[.string NM, .int .i64 N2, .string (strOf d.s), .int .i64 0] 47)).alloc (.cells #[.string ⟨#[]⟩, .string ⟨#[83, 101, 116, 66, 111, 111, 108, 101, 97, 110]⟩, .string ⟨#[83, 101, 116, 73, 110, 116]⟩, .string ⟨#[83, 101, 116, 76, 111, 110, 103]⟩, .string ⟨#[83, 101, 116, 70, 108, 111, 97, 116]⟩, .string ⟨#[83, 101, 116, 68, 111, 117, 98, 108, 101]⟩, .string ⟨#[83, 101, 116, 66, 121, 116, 101, 115]⟩, .string ⟨#[83, 101, 116, 83, 116, 114, 105, 110, 103]⟩] 9)) := ((Chg.refl _ w10).alloc _).alloc _
      have hSx : (fun w' : World => (w'.cell? ⟨gq, 0, none⟩ = some (.string NM) ∧ w'.cell? ⟨gq, 1, none⟩ = some (.int .i64 N2) ∧ w'.cell? ⟨gq, 2, none⟩ = some (.string (strOf d.s)) ∧ w'.cell? ⟨gq, 3, none⟩ = some (.int .i64 0)) ∧ blk w' w10.heap.size #[.string NM, .int .i64 N2, .string (strOf d.s), .int .i64 0] 47) ((w10.alloc (.cells #[.string NM, .int .i64 N2, .string (strOf d.s), .int .i64 0] 47)).alloc (.cells #[.string ⟨#[]⟩, .string ⟨#[83, 101, 116, 66, 111, 111, 108, 101, 97, 110]⟩, .string ⟨#[83, 101, 116, 73, 110, 116]⟩, .string ⟨#[83, 101, 116, 76, 111, 110, 103]⟩, .string ⟨#[83, 101, 116, 70, 108, 111, 97, 116]⟩, .string ⟨#[83, 101, 116, 68, 111, 117, 98, 108, 101]⟩, .string ⟨#[83, 101, 116, 66, 121, 116, 101, 115]⟩, .string ⟨#[83, 101, 116, 83, 116, 114, 105, 110, 103]⟩] 9)).drew := ⟨⟨chg_cell2 cA.drew b0, chg_cell2 cA.drew b1, chg_cell2 cA.drew b2, chg_cell2 cA.drew b3⟩, (blk_new w10 _ 47).alloc _⟩
      have CA := hid (show Chg (fun _ => False) w ((w10.alloc (.cells #[.string NM, .int .i64 N2, .string (strOf d.s), .int .i64 0] 47)).alloc (.cells #[.string ⟨#[]⟩, .string ⟨#[83, 101, 116, 66, 111, 111, 108, 101, 97, 110]⟩, .string ⟨#[83, 101, 116, 73, 110, 116]⟩, .string ⟨#[83, 101, 116, 76, 111, 110, 103]⟩, .string ⟨#[83, 101, 116, 70, 108, 111, 97, 116]⟩, .string ⟨#[83, 101, 116, 68, 111, 117, 98, 108, 101]⟩, .string ⟨#[83, 101, 116, 66, 121, 116, 101, 115]⟩, .string ⟨#[83, 101, 116, 83, 116, 114, 105, 110, 103]⟩] 9)).drew from ((HC5.out.trans C10.out (fun _ _ e => e)).trans cA (fun _ _ e => e)).drew)
      clear cA
      refine wp_region_till (fun w' => (w'.cell? ⟨gq, 0, none⟩ = some (.string NM) ∧ w'.cell? ⟨gq, 1, none⟩ = some (.int .i64 N2) ∧ w'.cell? ⟨gq, 2, none⟩ = some (.string (strOf d.s)) ∧ w'.cell? ⟨gq, 3, none⟩ = some (.int .i64 0)) ∧ blk w' w10.heap.size #[.string NM, .int .i64 N2, .string (strOf d.s), .int .i64 0] 47) 100 (by kernel_rfl) ?_
      refine wpTill_reads 0 [0, 1, 2, 3, 4, 5, 6, 7, 8, 9, 10, 11, 12, 13, 14, 15, 16, 17, 18, 19, 20, 21, 22, 23] (by kernel_rfl) ?_ hSx ?_
      · intro c a d v w h; cases d <;> exact h
      iterate 24 (refine wpReads_cons (v := ?_) rfl (yieldsIf_want (by kernel_rfl) fun w' hw => ?_) ?_; rotate_left; (obtain ⟨⟨q0, q1, q2, q3⟩, hB⟩ := hw; have r0 := hB.cell 0 rfl; have r1 := hB.cell 1 rfl; have r2 := hB.cell 2 rfl; have r3 := hB.cell 3 rfl; clear hB; first | (go_simp; done) | (go_simp; exact rfl)); simp only [Act.put, List.setIfInBounds_toArray, List.set_cons_zero, List.set_cons_succ, List.getElem_toArray, List.getElem_cons_zero, List.getElem_cons_succ])
      refine wpReads_nil ?_
      simp only [listAll]
      refine wpTill_done (by kernel_rfl) ?_ _
      go_wp2
      go_ret
      exact ⟨rfl, CA.out⟩
  refine wp_region_till (fun w' => SchAt w' w.heap.size (1 + (kk : Int))) 100 (by kernel_rfl) ?_
  have hSx : SchAt w2.drew w.heap.size (1 + (kk : Int)) := HS.out
  refine wpTill_reads 4 [0, 1] (by kernel_rfl) ?_ hSx ?_
  · intro c a d v w h; subst hQ; cases d <;> exact h
  iterate 2 (refine wpReads_cons (v := ?_) rfl (yieldsIf_yes rfl fun w' hw => ?_) ?_; rotate_left; (have g0 := blk.cell hw 0 rfl; have g1 := blk.cell hw 1 rfl; have g2 := blk.cell hw 2 rfl; have g3 := blk.cell hw 3 rfl; have g4 := blk.cell hw 4 rfl; have g5 := blk.cell hw 5 rfl; have g6 := blk.cell hw 6 rfl; have g7 := blk.cell hw 7 rfl; have g8 := blk.cell hw 8 rfl; clear hw; first | (go_simp; done) | (go_simp; exact rfl)); simp only [Act.put, List.setIfInBounds_toArray, List.set_cons_zero, List.set_cons_succ, List.getElem_toArray, List.getElem_cons_zero, List.getElem_cons_succ])
  refine wpReads_nil ?_
  simp only [listAll]
  refine wpTill_two (i := 2) (j := 4) (by kernel_rfl) rfl rfl rfl rfl ?_ ?_
  · intro K hK
    go_step
    refine (hcode.out _ (hC.out.drew)).mono ?_
    rintro e w4 ⟨rfl, rfl⟩
    refine hK _ _ ⟨fun _ => hSx, ?_⟩
    clear hK K
    refine wpTill_two (i := 3) (j := 4) (by kernel_rfl) rfl rfl rfl rfl ?_ ?_
    · intro K hK
      go_step
      refine (hdat.out _ (hC.out.drew)).mono ?_
      rintro e w5 ⟨d, hd, rfl, c5⟩
      have hS5 := blk.chg (hSx) c5 (fun e => e)
      refine hK _ _ ⟨fun _ => hS5, ?_⟩
      clear hK K
      refine wpTill_one (i := 4) (by kernel_rfl) rfl rfl ?_
      intro K hK
      go_step
      refine hK _ _ ⟨fun _ => blk.alloc (hS5) _, ?_⟩
      clear hK K
      refine wpTill_one (i := 5) (by kernel_rfl) rfl rfl ?_
      intro K hK
      have hb := (blk_new w5 #[.int .i64 0, .int .u64 0, .string ⟨#[]⟩, .slice none 0 0, .slice none 0 0] 60)
      obtain ⟨t1, t2⟩ := row_set #[.int .i64 d.n, .int .u64 (d.f : Int), .string (strOf d.s), .slice none 0 0, .slice none 0 0] hb
      refine wp_store_row 60 (.tmp 9) (.tmp 34) rfl (w5.heap.size) #[.int .i64 d.n, .int .u64 (d.f : Int), .string (strOf d.s), .slice none 0 0, .slice none 0 0] rfl rfl 60 #[.int .i64 0, .int .u64 0, .string ⟨#[]⟩, .slice none 0 0, .slice none 0 0] hb (by kernel_rfl) rfl (by simp [Value.oneCell']) ?_
      have hS8 := blk.chg (blk.alloc hS5 _) t2 (by have := hC.out.size; (try have := c5.size); (try simp at this); omega)
      refine hK _ _ ⟨fun _ => hS8, ?_⟩
      clear hK K
      refine wpTill_done (by kernel_rfl) ?_ _
      exact key d (w5.heap.size) _ hd t1 hS8 (((hC.out.drew.trans c5 (fun _ _ e => e)).alloc _).trans t2 (fun i hi e => by have := hC.out.size; (try have := c5.size); (try simp at this); omega))
    · intro K hK
      go_step
      refine hK _ _ ⟨fun _ => blk.alloc (hSx) _, ?_⟩
      clear hK K
      refine wpTill_one (i := 3) (by kernel_rfl) rfl rfl ?_
      intro K hK
      go_step
      refine (hdat.out _ (hC.out.drew.alloc _)).mono ?_
      rintro e w5 ⟨d, hd, rfl, c5⟩
      have hS5 := blk.chg (blk.alloc hSx _) c5 (fun e => e)
      refine hK _ _ ⟨fun _ => hS5, ?_⟩
      clear hK K
      refine wpTill_one (i := 5) (by kernel_rfl) rfl rfl ?_
      intro K hK
      have hb := (blk.chg (blk_new' (w := w2.drew) hs2.symm #[.int .i64 0, .int .u64 0, .string ⟨#[]⟩, .slice none 0 0, .slice none 0 0] 60) c5 (fun e => e))
      obtain ⟨t1, t2⟩ := row_set #[.int .i64 d.n, .int .u64 (d.f : Int), .string (strOf d.s), .slice none 0 0, .slice none 0 0] hb
      refine wp_store_row 60 (.tmp 9) (.tmp 34) rfl (w.heap.size + 1) #[.int .i64 d.n, .int .u64 (d.f : Int), .string (strOf d.s), .slice none 0 0, .slice none 0 0] rfl rfl 60 #[.int .i64 0, .int .u64 0, .string ⟨#[]⟩, .slice none 0 0, .slice none 0 0] hb (by kernel_rfl) rfl (by simp [Value.oneCell']) ?_
      have hS8 := blk.chg (hS5) t2 (by have := hC.out.size; (try have := c5.size); (try simp at this); omega)
      refine hK _ _ ⟨fun _ => hS8, ?_⟩
      clear hK K
      refine wpTill_done (by kernel_rfl) ?_ _
      exact key d (w.heap.size + 1) _ hd t1 hS8 (((hC.out.drew.alloc _).trans c5 (fun _ _ e => e)).trans t2 (fun i hi e => by have := hC.out.size; (try have := c5.size); (try simp at this); omega))
  · intro K hK
    go_step
    refine hK _ _ ⟨fun _ => blk.alloc (hSx) _, ?_⟩
    clear hK K
    refine wpTill_one (i := 2) (by kernel_rfl) rfl rfl ?_
    intro K hK
    go_step
    refine (hcode.out _ (hC.out.drew.alloc _)).mono ?_
    rintro e w4 ⟨rfl, rfl⟩
    refine hK _ _ ⟨fun _ => blk.alloc hSx _, ?_⟩
    clear hK K
    refine wpTill_one (i := 3) (by kernel_rfl) rfl rfl ?_
    intro K hK
    go_step
    refine (hdat.out _ (hC.out.drew.alloc _)).mono ?_
    rintro e w5 ⟨d, hd, rfl, c5⟩
    have hS5 := blk.chg (blk.alloc hSx _) c5 (fun e => e)
    refine hK _ _ ⟨fun _ => hS5, ?_⟩
    clear hK K
    refine wpTill_one (i := 5) (by kernel_rfl) rfl rfl ?_
    intro K hK
    have hb := (blk.chg (blk_new' (w := w2.drew) hs2.symm #[.int .i64 0, .int .u64 0, .string ⟨#[]⟩, .slice none 0 0, .slice none 0 0] 60) c5 (fun e => e))
    obtain ⟨t1, t2⟩ := row_set #[.int .i64 d.n, .int .u64 (d.f : Int), .string (strOf d.s), .slice none 0 0, .slice none 0 0] hb
    refine wp_store_row 60 (.tmp 9) (.tmp 34) rfl (w.heap.size + 1) #[.int .i64 d.n, .int .u64 (d.f : Int), .string (strOf d.s), .slice none 0 0, .slice none 0 0] rfl rfl 60 #[.int .i64 0, .int .u64 0, .string ⟨#[]⟩, .slice none 0 0, .slice none 0 0] hb (by kernel_rfl) rfl (by simp [Value.oneCell']) ?_
    have hS8 := blk.chg (hS5) t2 (by have := hC.out.size; (try have := c5.size); (try simp at this); omega)
    refine hK _ _ ⟨fun _ => hS8, ?_⟩
    clear hK K
    refine wpTill_done (by kernel_rfl) ?_ _
    exact key d (w.heap.size + 1) _ hd t1 hS8 (((hC.out.drew.alloc _).trans c5 (fun _ _ e => e)).trans t2 (fun i hi e => by have := hC.out.size; (try have := c5.size); (try simp at this); omega))
end Go.Proofs.YtkhicabfmkldpaaDoor

namespace Go.Proofs.YtkhicabfmkldpaaDoor
open Go Go.RowKit

theorem sch_succ (kk : Nat) : sch ((kk + 1 : Nat) : Int) = .agg #[.int .i64 (1 + (kk : Int)), .string ⟨#[]⟩, .string ⟨#[]⟩, .slice none 0 0, .slice none 0 0, .slice none 0 0, .string ⟨#[]⟩, .int .i64 0, .slice none 0 0] := by
  rw [show ((kk + 1 : Nat) : Int) = 1 + (kk : Int) by omega]
  rfl

set_option maxHeartbeats 1000000 in
set_option maxRecDepth 100000 in
/-- FnVMValues: the law's walk. -/
theorem values_walk (z : Int) (a1 : Option Addr) (n1 : Nat) (value : List UInt8) (a2 : Option Addr) (n2 : Nat) (tail : List UInt8) (e0 e1 : Addr) (w : World) (hz : 0 ≤ z ∧ z ≤ 255) (h1 : RdB w (.slice a1 value.length n1) value) (h1o : ∀ b, (Value.slice a1 value.length n1).ownBlock = some b → b < w.heap.size) (h2 : RdB w (.slice a2 tail.length n2) tail) (h2o : ∀ b, (Value.slice a2 tail.length n2).ownBlock = some b → b < w.heap.size) (hS : Sent w w.heap.size e0 e1) :
    Calls Tryd.prog 8 #[.int .u8 z, .slice a1 value.length n1, .slice a2 tail.length n2] w fun e w' => e = .returned (.bool true) ∧ Chg (fun _ => False) w w' := by
  by_cases g1 : (2147483647 : Int) < (value.length : Int)
  · obtain ⟨m1, hm1⟩ : ∃ m, value.length = m := ⟨_, rfl⟩
    obtain ⟨m2, hm2⟩ : ∃ m, tail.length = m := ⟨_, rfl⟩
    obtain ⟨c1, c1b⟩ := rdB_cap h1
    obtain ⟨c2, c2b⟩ := rdB_cap h2
    rw [hm1] at g1 c1 ⊢
    rw [hm2] at c2 ⊢
    clear h1 h1o h2 h2o hS hm1 hm2
    go_enter Tryd.func8, Tryd.ntmps8
    go_wp2
    go_ret
    exact ⟨rfl, Chg.refl _ w⟩
  by_cases g2 : (2147483647 : Int) < (tail.length : Int)
  · obtain ⟨m1, hm1⟩ : ∃ m, value.length = m := ⟨_, rfl⟩
    obtain ⟨m2, hm2⟩ : ∃ m, tail.length = m := ⟨_, rfl⟩
    obtain ⟨c1, c1b⟩ := rdB_cap h1
    obtain ⟨c2, c2b⟩ := rdB_cap h2
    rw [hm1] at g1 c1 ⊢
    rw [hm2] at g2 c2 ⊢
    clear h1 h1o h2 h2o hS hm1 hm2
    go_enter Tryd.func8, Tryd.ntmps8
    go_wp2
    go_ret
    exact ⟨rfl, Chg.refl _ w⟩
  obtain ⟨kk, hkk⟩ : ∃ k, z.toNat % 7 = k := ⟨_, rfl⟩
  have hzk : z % 7 = (kk : Int) := by
    obtain ⟨q, rfl⟩ := Int.eq_ofNat_of_zero_le hz.1
    rw [← hkk]
    rfl
  have hk : 1 ≤ kk + 1 ∧ kk + 1 ≤ 7 := by omega
  have htl : (tail.take 20).length = min tail.length 20 := by rw [List.length_take]; omega
  have hcl : (value.take 120).length = min value.length 120 := by rw [List.length_take]; omega
  have hcf : RdB w (.slice a1 (value.take 120).length n1) (value.take 120) := by rw [hcl]; exact rdB_front h1 120
  have hco : ∀ b, (Value.slice a1 (value.take 120).length n1).ownBlock = some b → b < w.heap.size := fun b hb => h1o b (by cases a1 with | none => simp [Value.ownBlock] at hb | some x => exact hb)
  refine values_end z a1 value.length n1 a2 tail.length n2 w (value.take 120).length (min tail.length 20) kk (tail.take 20) g1 g2 (rdB_cap h1) (rdB_cap h2) hz (by omega) hzk (by omega) (by omega)
    (hid (fun w1 hc => by rw [hcl]; exact arcode_any a1 n1 value w1 (h1.chg hc (fun _ _ _ e => e))))
    (hid (fun w1 hc => ?_)) (hid (fun d w1 hd => ?_)) (hid ⟨rdB_front h2 20, htl⟩) (hid (fun d iv dv w1 sl hd hI hD hDo hc => ?_))
  · have h := avdatum_any (kk + 1) hk a1 n1 (value.take 120) w1 (hcf.chg hc (fun _ _ _ e => e)) (fun b hb => Nat.lt_of_lt_of_le (hco b hb) hc.size) (by omega)
    rw [sch_succ] at h
    exact h
  · have h := avbytes_any (kk + 1) hk d hd w1
    rw [sch_succ] at h
    exact h
  · have h := val_run sl (kk + 1) hk d hd (tail.take 20) (by omega) iv dv e0 e1 w1 hI hD hDo (hS.keep hc)
    rw [htl] at h
    exact h
end Go.Proofs.YtkhicabfmkldpaaDoor

namespace Go.Proofs.YtkhicabfmkldpaaDoor
open Go Go.RowKit Go.ChangeShapes Go.WideShapes Go.ChangeAt

set_option maxRecDepth 100000 in
theorem values_contract (H : Type) (enc : TypeId × Value → H) (W : World) (base : Nat) (args : Array Value) (ds gs : List (DataW H)) (before : List MemPlace)
    (hval : ∀ (j : Nat) t v, Tryd.f8.params[j]? = some t → args[j]? = some v → Value.okWide Tryd.prog W .any base t v)
    (hW : DataW.Whole enc Tryd.prog Tryd.f8.params.toList Rows.fnVMValuesSpec.vars false W args.toList ds gs before) (hL : laidMetH Tryd.prog Rows.fnVMValuesRow.laid W) :
    Calls Tryd.prog 8 args W fun e W' => ∃ v, e = .returned v ∧ Rows.fnVMValuesSpec.post enc Tryd.prog Tryd.f8 false true false false W args v W' := by
  have hW' := hW
  obtain ⟨p, q, hA0, hV, rfl, hfz, hnd⟩ := hW
  have hA : DataW.TrodAll enc Tryd.prog W 0 (fun _ => true) true Tryd.f8.params.toList args.toList ds p := hA0
  rw [Tryd.params8] at hA hval
  obtain ⟨v0, vs0, d0, ds0, p0, q0, ha0, rfl, rfl, h0, r0⟩ := trodAll_cons hA
  obtain ⟨v1, vs1, d1, ds1, p1, q1, ha1, rfl, rfl, h1, r1⟩ := trodAll_cons r0
  obtain ⟨v2, vs2, d2, ds2, p2, q2, ha2, rfl, rfl, h2, r2⟩ := trodAll_cons r1
  obtain ⟨rfl, rfl, rfl⟩ := trodAll_nil r2
  obtain rfl : args = #[v0, v1, v2] := by cases args; simp_all
  obtain ⟨rfl, rfl⟩ := trodVars_none hV
  obtain ⟨z0, rfl, rfl, rfl, wa0⟩ := open_int Tryd.underlying5 (hval 0 5 v0 rfl rfl) h0
  obtain ⟨a1, l1, c1, rfl, hr1, ho1⟩ := open_u8s (hval 1 22 v1 rfl rfl) h1
  obtain ⟨a2, l2, c2, rfl, hr2, ho2⟩ := open_u8s (hval 2 22 v2 rfl rfl) h2
  clear hA0
  simp only [List.append_nil] at hW'
  obtain ⟨e0, e1, hS⟩ := sent_of_laid hL
  have hlt : ∀ x ∈ [] ++ (p1 ++ (p2 ++ ([]))), x.block < W.heap.size := fun x hx => by simpa using hW'.lt x (by simpa using hx)
  refine (values_walk z0 a1 c1 l1 a2 c2 l2 e0 e1 W (u8_bounds wa0) hr1 ho1 hr2 ho2 hS).mono fun e W' ⟨he, hg⟩ => ?_
  subst he
  have hb : Below W.heap.size W W' := hg.below (fun _ e => e.elim) (Nat.le_refl _)
  refine ⟨_, rfl, _, _, _, [], _, [], hW', trodAll_mk1 (shut_bool Tryd.underlying4 true), (trodAll_cons_mk (shut_int Tryd.underlying5 wa0) (trodAll_cons_mk (Below.trod Tryd.laidOut (by kernel_rfl) (of_decide_eq_true (by kernel_rfl)) h1 hb (fun x hx => hlt x (by simp [hx]))) (trodAll_cons_mk (Below.trod Tryd.laidOut (by kernel_rfl) (of_decide_eq_true (by kernel_rfl)) h2 hb (fun x hx => hlt x (by simp [hx]))) trodAll_mk0))), rfl, hb.frame _, fun h => by cases h⟩

theorem values_reads (os : Os) {H : Type} (enc : TypeId × Value → H) : ∃ places, DataW.whole enc Tryd.prog ((laidWorld os).forCall (fun _ _ => 0) ⟨#[], #[.int .u8 0, .slice none 0 0, .slice none 0 0], []⟩).memory Tryd.f8.params.toList Rows.fnVMValuesSpec.vars false #[Value.int .u8 0, Value.slice none 0 0, Value.slice none 0 0].toList 8 = some ([.lit (.int .u8 0), .nil, .nil], [], places) :=
  ⟨[], by kernel_rfl⟩

set_option maxRecDepth 100000 in
theorem values_lifted (os : Os) (started : os.Started) (H : Type) (enc : TypeId × Value → H) (F : Stop.Interp) :
    ReturnsInHanded {} Tryd.checked os 8 .any ((OpenSpec.ofChange Rows.fnVMValuesSpec).preRow enc Tryd.prog Tryd.f8 Rows.fnVMValuesRow.domain false Rows.fnVMValuesRow.laid) (((OpenSpec.ofChange Rows.fnVMValuesSpec).at F).post enc Tryd.prog Tryd.f8 false true false false) := by
  obtain ⟨places, hx⟩ := values_reads os enc
  refine returnsInHanded_of_row (C := Tryd.checked) (s := OpenSpec.ofChange Rows.fnVMValuesSpec) Tryd.own started (by kernel_rfl) Tryd.func8
    (witness_row_atRef (enc := enc) (C := Tryd.checked) false (laidWorld os) #[.int .u8 0, .slice none 0 0, .slice none 0 0] rfl (by kernel_rfl) (by kernel_rfl) (by kernel_rfl)
      (OpenSpec.preRow_of_cond 8 hx (by kernel_rfl) (fun k hk => by cases hk) (by kernel_rfl) (laid_met os _))) ?_
  intro W base args ds gs before hval hW _ _ _ hL _ _
  exact values_contract H enc W base args ds gs before hval hW hL

theorem values_said : Rows.FnVMValuesSaid :=
  OpenClaim.holds_of_cond 8 Tryd.f8 rfl rfl rfl rfl rfl rfl rfl ⟨rfl, rfl, rfl, rfl, rfl⟩ rfl rfl rfl rfl rfl (by kernel_rfl) Tryd.func8 (by kernel_rfl)
    (of_decide_eq_true (by kernel_rfl)) (by unfold Func.isWrapper; first | (rw [if_pos (by decide +kernel)]; kernel_rfl) | (rw [if_neg (by decide +kernel)]; exact ⟨rfl, rfl⟩))
    (fun os started H enc _ F => by rw [OpenClaim.pre_eq_preRow]; exact values_lifted os started H enc F)

theorem values_plain (f : FuncId) (fn : Func) (hf : Tryd.pinned.checked.prog.funcNamed "given.example/pub-tinsmith/laws.FnVMValues" = some f) (hfn : Tryd.pinned.checked.prog.funcs[f]? = some fn) :
    true = Tryd.pinned.checked.prog.looks [] ∧ ∀ (j : Nat) t, fn.params[j]? = some t → Tryd.pinned.checked.prog.wantsStandIn t = false := by
  obtain rfl : f = 8 := Option.some.inj ((show Tryd.prog.funcNamed "given.example/pub-tinsmith/laws.FnVMValues" = some 8 by kernel_rfl).symm.trans hf) |>.symm
  obtain rfl : fn = Tryd.f8 := (Option.some.inj (Tryd.func8.symm.trans hfn)).symm
  refine ⟨by kernel_rfl, fun j t ht => ?_⟩
  rw [Tryd.params8] at ht
  have ht : t = 22 ∨ t = 5 := by
    have h := Array.mem_of_getElem? ht
    have h' : t = 5 ∨ t = 22 := by simpa using h
    exact h'.symm
  rcases ht with rfl | rfl
  · exact (show Tryd.prog.wantsStandIn 22 = false by kernel_rfl)
  · exact (show Tryd.prog.wantsStandIn 5 = false by kernel_rfl)

theorem values_card : Rows.FnVMValuesCardSaid :=
  Claim7.holds_tied_plain_at .later [] _ _ _ _ values_said (fun _ h => by cases h) (by kernel_rfl) (fun _ h => by cases h) fnVMValues_row_tie rfl ⟨rfl, rfl⟩ (by kernel_rfl) rfl values_plain (by kernel_rfl)
end Go.Proofs.YtkhicabfmkldpaaDoor
