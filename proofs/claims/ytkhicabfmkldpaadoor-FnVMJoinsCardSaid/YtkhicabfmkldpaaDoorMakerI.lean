/-
  The maker of programs: its statements and bodies, however deep.
  The maker of programs: bodies; the whole maker.
  The maker of programs: its two other parts.
  vmProgram, vmData: a program, and data, out of bytes.
-/
import Derived.Test.YtkhicabfmkldpaaDoorMakerC
import Derived.Test.YtkhicabfmkldpaaDoorMakerG
import Derived.Test.YtkhicabfmkldpaaDoorSpec
set_option linter.unusedSimpArgs false
set_option linter.unusedVariables false
namespace Go.Proofs.YtkhicabfmkldpaaDoor
open Go Go.RowKit

/-- What is known of a statement. -/
def StmOk (B M : Nat) (s : Nat) (d : Int) (st : Gen → Gen) : Prop := ∀ (cv iv kv : Value) (g : Gen) (w : World), GenAt w B M cv iv kv g → B ≤ w.heap.size → Szd g s →
  Calls Tryd.prog 23 #[.pointer (some ⟨M, 0, none⟩), .int .i64 d] w fun e w' => e = .returned (.tuple #[]) ∧ GenTo B M iv kv (st g) w w'

theorem stm_all (B M n : Nat) (d : Int) (hd2 : ¬ 3 ≤ d) (hd0 : 0 ≤ d) (F : Gen → Gen) (hbody : BodyOk B M n (d + 1) F) (hz : BodyZ n F) (hG : BodyG F) : StmOk B M (n + 8) d (stm false F) := by
  intro cv iv kv g w h hB hS
  have e : ∀ c, hd g % 16 = c → stm false F g = stmC F c (nx g) := fun c hc => by unfold stm cOf; simp [hc]
  have hlt : hd g % 16 < 16 := Nat.mod_lt _ (by decide)
  obtain ⟨c, hc⟩ : ∃ c, hd g % 16 = c := ⟨_, rfl⟩
  rw [hc] at hlt
  have e := e c hc
  rw [e]
  clear e
  match c, hlt, hc with
  | 0, _, hc => exact stm_0 B M cv iv kv g n d hd2 hd0 F hbody hz w h hB hS hc
  | 1, _, hc => exact stm_1 B M cv iv kv g n d hd2 hd0 F hbody hz w h hB hS hc
  | 2, _, hc => exact stm_2 B M cv iv kv g n d hd2 hd0 F hbody hz w h hB hS hc
  | 3, _, hc => exact stm_3 B M cv iv kv g n d hd2 hd0 F hbody hz w h hB hS hc
  | 4, _, hc => exact stm_4 B M cv iv kv g n d hd2 hd0 F hbody hz w h hB hS hc
  | 5, _, hc => exact stm_5 B M cv iv kv g n d hd2 hd0 F hbody hz w h hB hS hc
  | 6, _, hc =>
    by_cases hn : hd (F (put (nx (nx g)) 2 ((hd (nx g) % 6 : Nat) : Int))) % 4 = 0
    · have e : stmC F 6 (nx g) = put (put (nx (F (put (nx (nx g)) 2 ((hd (nx g) % 6 : Nat) : Int)))) 4 0) 3 0 := by show put (nulled _) 3 0 = _; unfold nulled; rw [if_pos hn]
      rw [e]
      exact stm_6y B M cv iv kv g n d hd2 hd0 F hbody hz w h hB hS hc _ rfl hn
    · have e : stmC F 6 (nx g) = put (nx (F (put (nx (nx g)) 2 ((hd (nx g) % 6 : Nat) : Int)))) 3 0 := by show put (nulled _) 3 0 = _; unfold nulled; rw [if_neg hn]
      rw [e]
      exact stm_6n B M cv iv kv g n d hd2 hd0 F hbody hz w h hB hS hc _ rfl hn
  | 7, _, hc =>
    by_cases hn : hd (F (put (nx (nx g)) 2 ((hd (nx g) % 6 : Nat) : Int))) % 4 = 0
    · have e : stmC F 7 (nx g) = put (put (nx (F (put (nx (nx g)) 2 ((hd (nx g) % 6 : Nat) : Int)))) 4 0) 3 0 := by show put (nulled _) 3 0 = _; unfold nulled; rw [if_pos hn]
      rw [e]
      exact stm_7y B M cv iv kv g n d hd2 hd0 F hbody hz w h hB hS hc _ rfl hn
    · have e : stmC F 7 (nx g) = put (nx (F (put (nx (nx g)) 2 ((hd (nx g) % 6 : Nat) : Int)))) 3 0 := by show put (nulled _) 3 0 = _; unfold nulled; rw [if_neg hn]
      rw [e]
      exact stm_7n B M cv iv kv g n d hd2 hd0 F hbody hz w h hB hS hc _ rfl hn
  | 8, _, hc => exact stm_8 B M cv iv kv g n d hd2 hd0 F hbody hz w h hB hS hc
  | 9, _, hc => exact stm_9 B M cv iv kv g n d hd2 hd0 F hbody hz w h hB hS hc
  | 10, _, hc => exact stm_10 B M cv iv kv g n d hd2 hd0 w h hB hS hc _ rfl _ rfl
  | 11, _, hc => exact stm_11 B M cv iv kv g n d hd2 hd0 w h hB hS hc _ rfl _ rfl
  | 12, _, hc =>
    have e : (if hd (nx g) % 2 = 0 then 12 else 13 : Nat) = [12, 13].getD (hd (nx g) % 2) 0 := by
      rcases Nat.mod_two_eq_zero_or_one (hd (nx g)) with h | h <;> rw [h] <;> rfl
    have e2 : stmC F 12 (nx g) = cond F (put (nx (nx (nx g))) ([12, 13].getD (hd (nx g) % 2) 0) (((hd (nx (nx g)) % 5 : Nat) : Int) - 1)) := by
      rw [← e]; rfl
    rw [e2]
    exact stm_12 B M cv iv kv g n d hd2 hd0 F hbody hz hG w h hB hS hc _ rfl _ rfl
  | 13, _, hc => exact stm_13 B M cv iv kv g n d hd2 hd0 F hbody hz hG w h hB hS hc _ rfl
  | 14, _, hc => exact stm_14 B M cv iv kv g n d hd2 hd0 F hbody hz hG w h hB hS hc _ rfl
  | 15, _, hc =>
    by_cases hp0 : g.part = 0
    · have e : stmC F 15 (nx g) = put { nx (nx g) with calls := g.calls ++ [(g.ins.length, 0 + 1 + hd (nx g) % 2)] } 8 0 := by
        have hp : (nx g).part = 0 := hp0
        show (if (nx g).part < 2 then put { nx (nx g) with calls := (nx g).calls ++ [((nx g).ins.length, (nx g).part + 1 + hd (nx g) % (2 - (nx g).part))] } 8 0 else nx g) = _
        rw [hp]; rfl
      rw [e]
      exact stm_15_0 B M cv iv kv g n d hd2 hd0 w h hB hS hc hp0 _ rfl
    by_cases hp1 : g.part = 1
    · have e : stmC F 15 (nx g) = put { nx (nx g) with calls := g.calls ++ [(g.ins.length, 1 + 1 + hd (nx g) % 1)] } 8 0 := by
        have hp : (nx g).part = 1 := hp1
        show (if (nx g).part < 2 then put { nx (nx g) with calls := (nx g).calls ++ [((nx g).ins.length, (nx g).part + 1 + hd (nx g) % (2 - (nx g).part))] } 8 0 else nx g) = _
        rw [hp]; rfl
      rw [e]
      exact stm_15_1 B M cv iv kv g n d hd2 hd0 w h hB hS hc hp1 _ rfl
    · have e : stmC F 15 (nx g) = nx g := by
        show (if (nx g).part < 2 then _ else nx g) = _
        rw [if_neg (show ¬ (nx g).part < 2 by show ¬ g.part < 2; omega)]
      rw [e]
      exact stm_15_no B M cv iv kv g n d hd2 hd0 w h hB hS hc (by omega)
  | c + 16, hlt, _ => omega

theorem stmL_all (B M : Nat) : StmOk B M 8 3 (stm true id) := by
  intro cv iv kv g w h hB hS
  have e : ∀ c, hd g % 16 = c → stm true id g = stmC id (if decide (6 ≤ c) && decide (c ≠ 10) && decide (c ≠ 11) then c % 6 else c) (nx g) := fun c hc => by unfold stm cOf; rw [hc]; rfl
  have hlt : hd g % 16 < 16 := Nat.mod_lt _ (by decide)
  obtain ⟨c, hc⟩ : ∃ c, hd g % 16 = c := ⟨_, rfl⟩
  rw [hc] at hlt
  have e := e c hc
  rw [e]
  clear e
  match c, hlt, hc with
  | 0, _, hc => exact stmL_0 B M cv iv kv g w h hB hS hc
  | 1, _, hc => exact stmL_1 B M cv iv kv g w h hB hS hc
  | 2, _, hc => exact stmL_2 B M cv iv kv g w h hB hS hc
  | 3, _, hc => exact stmL_3 B M cv iv kv g w h hB hS hc
  | 4, _, hc => exact stmL_4 B M cv iv kv g w h hB hS hc
  | 5, _, hc => exact stmL_5 B M cv iv kv g w h hB hS hc
  | 6, _, hc => exact stmL_6 B M cv iv kv g w h hB hS hc
  | 7, _, hc => exact stmL_7 B M cv iv kv g w h hB hS hc
  | 8, _, hc => exact stmL_8 B M cv iv kv g w h hB hS hc
  | 9, _, hc => exact stmL_9 B M cv iv kv g w h hB hS hc
  | 10, _, hc => exact stmL_10 B M cv iv kv g w h hB hS hc _ rfl _ rfl
  | 11, _, hc => exact stmL_11 B M cv iv kv g w h hB hS hc _ rfl _ rfl
  | 12, _, hc => exact stmL_12 B M cv iv kv g w h hB hS hc
  | 13, _, hc => exact stmL_13 B M cv iv kv g w h hB hS hc
  | 14, _, hc => exact stmL_14 B M cv iv kv g w h hB hS hc
  | 15, _, hc => exact stmL_15 B M cv iv kv g w h hB hS hc
  | c + 16, hlt, _ => omega

/-- How a statement grows. -/
structure StmZ (s : Nat) (st : Gen → Gen) : Prop where
  z : ∀ (g : Gen) (m : Nat), Szd g (s + m) → Szd (st g) m
  g : ∀ g, g.ins.length ≤ (st g).ins.length

theorem bodyN_z {s : Nat} {st : Gen → Gen} (hs : StmZ s st) : ∀ (k : Nat) (g : Gen) (m : Nat), Szd g (k * s + m) → Szd (bodyN st k g) m
  | 0, g, m, h => h.mono (by omega)
  | k + 1, g, m, h => by
    unfold bodyN
    split
    · exact bodyN_z hs k _ m (hs.z g _ (h.mono (by rw [Nat.succ_mul]; omega)))
    · exact h.mono (by omega)
theorem bodyN_g {s : Nat} {st : Gen → Gen} (hs : StmZ s st) : ∀ (k : Nat) (g : Gen), g.ins.length ≤ (bodyN st k g).ins.length
  | 0, g => Nat.le_refl _
  | k + 1, g => by
    unfold bodyN
    split
    · exact Nat.le_trans (hs.g g) (bodyN_g hs k _)
    · exact Nat.le_refl _

def bodyOf (st : Gen → Gen) (g : Gen) : Gen := bodyN st (hd g % 5) (nx g)

theorem bodyOf_z {s : Nat} {st : Gen → Gen} (hs : StmZ s st) : BodyZ (4 * s) (bodyOf st) := by
  intro g m h
  refine bodyN_z hs _ _ m (h.nx.mono ?_)
  have := Nat.mul_le_mul_right s (show hd g % 5 ≤ 4 by omega)
  omega
theorem bodyOf_g {s : Nat} {st : Gen → Gen} (hs : StmZ s st) : BodyG (bodyOf st) := fun g => bodyN_g hs _ (nx g)

theorem put_len (g : Gen) (op : Nat) (x : Int) : (put g op x).ins.length = g.ins.length + 1 := by show (g.ins ++ [_]).length = _; simp

theorem patch_z {g : Gen} {n i : Nat} (h : Szd g n) : Szd (patch g i) n := ⟨h.code, by show (setX g.ins i _).length + n ≤ _; rw [setX_length]; exact h.ins, h.calls⟩

theorem stmC_z {n : Nat} {F : Gen → Gen} (hz : BodyZ n F) (hG : BodyG F) (c : Nat) : (∀ (g : Gen) (m : Nat), Szd g (n + 8 + m) → Szd (stmC F c g) m) ∧ ∀ g, g.ins.length ≤ (stmC F c g).ins.length := by
  have pl : ∀ g op x, g.ins.length ≤ (put g op x).ins.length := fun g op x => by rw [put_len]; omega
  have kk : (∀ (g : Gen) (m : Nat), Szd g (n + 8 + m) → Szd (put (put (nx g) 0 (kindOf (hd g))) 1 (kindOf (hd g))) m) ∧ ∀ g : Gen, g.ins.length ≤ (put (put (nx g) 0 (kindOf (hd g))) 1 (kindOf (hd g))).ins.length :=
    ⟨fun g m h => ((h.nx.mono (show m + 1 + 1 ≤ n + 8 + m by omega)).put _ _).put _ _, fun g => Nat.le_trans (pl (nx g) _ _) (pl _ _ _)⟩
  have nul : ∀ (g : Gen) (m : Nat), Szd g (m + 1) → Szd (nulled g) m := fun g m h => by
    unfold nulled
    split
    · exact h.nx.put _ _
    · exact h.nx.mono (by omega)
  have nulg : ∀ g : Gen, g.ins.length ≤ (nulled g).ins.length := fun g => by
    unfold nulled
    split
    · exact pl (nx g) _ _
    · exact Nat.le_refl _
  have ent : (∀ (g : Gen) (m : Nat), Szd g (n + 8 + m) → Szd (put (nulled (F (put (nx g) 2 ((hd g % 6 : Nat) : Int)))) 3 0) m) ∧ ∀ g : Gen, g.ins.length ≤ (put (nulled (F (put (nx g) 2 ((hd g % 6 : Nat) : Int)))) 3 0).ins.length :=
    ⟨fun g m h => (nul _ (m + 1) (hz _ (m + 1 + 1) ((h.nx.mono (show n + (m + 1 + 1) + 1 ≤ n + 8 + m by omega)).put _ _))).put _ _, fun g => Nat.le_trans (pl (nx g) 2 _) (Nat.le_trans (hG _) (Nat.le_trans (nulg _) (pl _ _ _)))⟩
  have lp : ∀ (g : Gen) (m : Nat), Szd g (n + 6 + m) → Szd (gLoop F g) m := fun g m h => by
    unfold gLoop
    exact patch_z ((((hz _ (m + 1 + 1 + 1) ((((h.mono (show n + (m + 1 + 1 + 1) + 1 + 1 + 1 ≤ n + 6 + m by omega)).put _ _).put _ _).put _ _)).put _ _).put _ _).put _ _)
  have lpg : ∀ g : Gen, g.ins.length ≤ (gLoop F g).ins.length := fun g => by
    unfold gLoop patch
    show _ ≤ (setX _ _ _).length
    rw [setX_length]
    exact Nat.le_trans (pl g 12 0) (Nat.le_trans (pl _ 14 0) (Nat.le_trans (pl _ 19 0) (Nat.le_trans (hG _) (Nat.le_trans (pl _ 20 0) (Nat.le_trans (pl _ 16 (-1)) (pl _ 11 _))))))
  have big : (∀ (g : Gen) (m : Nat), Szd g (n + 8 + m) → Szd (gLoop F (put (nx g) 15 ((hd g % 4 : Nat) : Int))) m) ∧ ∀ g : Gen, g.ins.length ≤ (gLoop F (put (nx g) 15 ((hd g % 4 : Nat) : Int))).ins.length :=
    ⟨fun g m h => lp _ m ((h.nx.mono (show n + 6 + m + 1 ≤ n + 8 + m by omega)).put _ _), fun g => Nat.le_trans (pl (nx g) 15 _) (lpg _)⟩
  match c with
  | 0 => exact ⟨fun g m h => (h.nx.mono (show m + 1 ≤ n + 8 + m by omega)).put _ _, fun g => pl (nx g) _ _⟩
  | 1 => exact ⟨fun g m h => (h.nx.mono (show m + 1 ≤ n + 8 + m by omega)).put _ _, fun g => pl (nx g) _ _⟩
  | 2 => exact kk
  | 3 => exact kk
  | 4 => exact kk
  | 5 => exact kk
  | 6 => exact ent
  | 7 => exact ent
  | 8 => exact ⟨fun g m h => (hz _ (m + 1) ((h.mono (show n + (m + 1) + 1 ≤ n + 8 + m by omega)).put _ _)).put _ _, fun g => Nat.le_trans (pl g 5 0) (Nat.le_trans (hG _) (pl _ _ _))⟩
  | 9 => exact ⟨fun g m h => (hz _ (m + 1) (((h.mono (show n + (m + 1) + 1 + 1 ≤ n + 8 + m by omega)).put _ _).put _ _)).put _ _, fun g => Nat.le_trans (pl g 0 8) (Nat.le_trans (pl _ 6 0) (Nat.le_trans (hG _) (pl _ _ _)))⟩
  | 10 => exact ⟨fun g m h => (h.nx.nx.mono (show m + 1 ≤ n + 8 + m by omega)).put _ _, fun g => pl (nx (nx g)) _ _⟩
  | 11 => exact ⟨fun g m h => (h.nx.nx.mono (show m + 1 ≤ n + 8 + m by omega)).put _ _, fun g => pl (nx (nx g)) _ _⟩
  | 12 =>
    refine ⟨fun g m h => ?_, fun g => ?_⟩
    · show Szd (cond F _) m
      unfold cond
      exact patch_z (hz _ m (((h.nx.nx.mono (show n + m + 1 + 1 ≤ n + 8 + m by omega)).put _ _).put _ _))
    · show _ ≤ (cond F _).ins.length
      unfold cond patch
      show _ ≤ (setX _ _ _).length
      rw [setX_length]
      exact Nat.le_trans (pl (nx (nx g)) _ _) (Nat.le_trans (pl _ 14 0) (hG _))
  | 13 => exact big
  | 14 => exact big
  | c + 15 =>
    refine ⟨fun g m h => ?_, fun g => ?_⟩
    · show Szd (if g.part < 2 then _ else g) m
      split
      · exact Szd.put (g := { nx g with calls := g.calls ++ [(g.ins.length, g.part + 1 + hd g % (2 - g.part))] }) (n := m) ⟨h.nx.code, by have := h.ins; show g.ins.length + (m + 1) ≤ _; omega, by have := h.calls; show (g.calls ++ [_]).length + (m + 1) ≤ _; simp; omega⟩ 8 0
      · exact h.mono (by omega)
    · show _ ≤ (if g.part < 2 then _ else g : Gen).ins.length
      split
      · exact pl _ 8 0
      · exact Nat.le_refl _

theorem stm_z {n : Nat} {F : Gen → Gen} {last : Bool} (hz : BodyZ n F) (hG : BodyG F) : StmZ (n + 8) (stm last F) :=
  ⟨fun g m h => (stmC_z hz hG _).1 _ m h.nx, fun g => (stmC_z hz hG _).2 (nx g)⟩

theorem id_z : BodyZ 0 id := fun g m h => h.mono (by omega)
theorem id_g : BodyG id := fun g => Nat.le_refl _

theorem gStm_z : ∀ k, StmZ (sizeS k) (gStm k)
  | 0 => stm_z (n := 0) id_z id_g
  | k + 1 => stm_z (bodyOf_z (gStm_z k)) (bodyOf_g (gStm_z k))
end Go.Proofs.YtkhicabfmkldpaaDoor

namespace Go.Proofs.YtkhicabfmkldpaaDoor
open Go Go.RowKit

theorem GenAt.cells {w : World} {B M : Nat} {cv iv kv : Value} {g : Gen} (h : GenAt w B M cv iv kv g) : (∃ a c, w.cell? ⟨M, 0, none⟩ = some (.slice a g.code.length c)) ∧ (∃ a c, w.cell? ⟨M, 1, none⟩ = some (.slice a g.ins.length c)) ∧ w.cell? ⟨M, 4, none⟩ = some (.int .i64 0) := by
  refine ⟨?_, ?_, h.m.cell 4 rfl⟩
  · obtain ⟨a, c, hc⟩ := h.code.form
    exact ⟨a, c, by rw [← hc]; exact h.m.cell 0 rfl⟩
  · rcases h.ins.2 with ⟨h1, h2⟩ | ⟨gb, cap, cur, h1, _⟩
    · exact ⟨none, 0, by rw [h2, ← h1]; exact h.m.cell 1 rfl⟩
    · exact ⟨_, _, by rw [← h1]; exact h.m.cell 1 rfl⟩

set_option maxRecDepth 100000 in
set_option maxHeartbeats 1000000 in
theorem body_any (B M s : Nat) (d : Int) (st : Gen → Gen) (hst : StmOk B M s d st) (hz : StmZ s st) : BodyOk B M (4 * s) d (bodyOf st) := by
  intro cv iv kv g w h hB hS
  have H := hid h
  obtain ⟨j0, hj0⟩ : ∃ j, hd g % 5 = j := ⟨_, rfl⟩
  have hj5 : j0 ≤ 4 := by omega
  have t5 : (hd g : Int).tmod 5 = (j0 : Int) := by rw [← hj0]; exact tmod_nat _ 5
  obtain ⟨gf, Hgf⟩ : ∃ gf, Hid (bodyOf st g = gf) := ⟨_, hid rfl⟩
  have hS1 : Szd (nx g) (j0 * s) := by
    refine hS.nx.mono ?_
    exact Nat.mul_le_mul_right s hj5
  have HS1 := hid hS1
  have hgf : bodyN st j0 (nx g) = gf := by rw [← Hgf.out, ← hj0]; rfl
  rw [Hgf.out]
  have Hgf2 := hid hgf
  clear h hj0 hS1 hgf
  go_enter Tryd.func15, Tryd.ntmps15
  go_wp2_with (go_at_call 30; refine (byte_any B M cv iv kv g _ H.out hS.c).mono ?_; rintro e w1 ⟨rfl, cv1, q1, q2⟩; replace q1 := hid q1; replace q2 := hid q2)
  go_loopg [4] j0 (fun k v4 wr => ∃ (j : Nat) (g1 : Gen) (cv1 iv1 kv1 : Value), v4 = .int .i64 (j : Int) ∧ k = j ∧ j ≤ 4 ∧ Hid (GenAt wr B M cv1 iv1 kv1 g1 ∧ Fresh w iv iv1 ∧ Fresh w kv kv1 ∧ Chg (GenS M iv kv) w wr ∧ bodyN st j g1 = gf ∧ Szd g1 (j * s)))
  case atStart => exact ⟨j0, nx g, cv1, iv, kv, rfl, rfl, hj5, q1.out, Fresh.refl _ _, Fresh.refl _ _, q2.out.mono (fun _ _ e => .inl e), Hgf2.out, HS1.out⟩
  case round =>
    obtain ⟨j, g1, cv2, iv1, kv1, rfl, hkj, hj4, HH⟩ := hrel
    obtain ⟨⟨a0, k0, c0⟩, ⟨a1, k1, c1⟩, c4⟩ := HH.out.1.cells
    have fin : ∀ (n : Nat), bodyN st j g1 = g1 → GenTo B M iv kv gf w (wr.drewN n) := by
      intro n hn
      obtain ⟨h1, h2, h3, h4, h5, h6⟩ := HH.out
      rw [hn] at h5
      subst h5
      exact ⟨⟨cv2, iv1, kv1, h1.drewN n, h2, h3⟩, h4.drewN n⟩
    have Fin := hid fin
    have hc1 := HH.out.2.2.2.2.2.code
    have hc2 := HH.out.2.2.2.2.2.ins
    clear fin
    by_cases hj : j = 0
    · subst hj
      go_wp2
      go_quiet (fail)
      go_wp2
      go_end0
      exact ⟨rfl, Fin.out _ rfl⟩
    · obtain ⟨i, rfl⟩ : ∃ i, j = i + 1 := ⟨j - 1, by omega⟩
      have hji : (0 : Int) < ((i + 1 : Nat) : Int) := by omega
      have djt : decide ((0 : Int) < ((i + 1 : Nat) : Int)) = true := decide_eq_true hji
      obtain ⟨I, hI⟩ : ∃ I, ((i + 1 : Nat) : Int) = I := ⟨_, rfl⟩
      have hI2 : I - 1 = (i : Int) := by omega
      rw [hI] at hji djt ⊢
      have HI := hid hI
      clear hI
      by_cases hcode : g1.code = []
      · have hb : bodyN st (i + 1) g1 = g1 := by unfold bodyN; rw [if_neg (fun e => e.1 hcode)]
        have hl0 : g1.code.length = 0 := by rw [hcode]; rfl
        rw [hl0] at c0
        have Hb := hid hb
        clear hb hl0 hcode
        go_wp2
        go_quiet (fail)
        go_wp2
        go_end0
        exact ⟨rfl, Fin.out _ Hb.out⟩
      · have hlp : (0 : Int) < (g1.code.length : Int) := by
          have : g1.code.length ≠ 0 := fun e => hcode (List.eq_nil_of_length_eq_zero e)
          omega
        have hlpn : 0 < g1.code.length := by omega
        have dlpn : decide (0 < g1.code.length) = true := decide_eq_true hlpn
        have dlp : decide ((0 : Int) < (g1.code.length : Int)) = true := decide_eq_true hlp
        by_cases hins : g1.ins.length < 120
        · have hb : bodyN st (i + 1) g1 = bodyN st i (st g1) := by
            show (if g1.code ≠ [] ∧ g1.ins.length < 120 then _ else _) = _
            rw [if_pos ⟨hcode, hins⟩]
          have hii : (g1.ins.length : Int) < 120 := by omega
          have Hb := hid hb
          have hSs : Szd g1 (s + i * s) := HH.out.2.2.2.2.2.mono (by rw [Nat.succ_mul]; omega)
          have HSs := hid hSs
          clear hb hcode hSs
          go_wp2
          go_quiet (fail)
          go_wp2_with (go_at_call 23; refine (hst cv2 iv1 kv1 g1 _ (HH.out.1.drewN _) (Nat.le_trans hB HH.out.2.2.2.1.size) (HSs.out.mono (by omega))).mono ?_; rintro e w2 ⟨rfl, q⟩; replace q := hid q)
          go_roundg i
          case measure => omega
          case rel =>
            obtain ⟨⟨cv3, iv3, kv3, p1, p2, p3⟩, p4⟩ := q.out
            obtain ⟨h1, h2, h3, h4, h5, h6⟩ := HH.out
            have hsz := h4.size
            refine ⟨i, st g1, cv3, iv3, kv3, rfl, rfl, by omega, p1, h2.trans p2 hsz, h3.trans p3 hsz, (h4.drewN _).trans p4 (fun x hx e => genS_trans h2 h3 hx e), ?_, hz.z g1 _ HSs.out⟩
            rw [← Hb.out]; exact h5
        · have hb : bodyN st (i + 1) g1 = g1 := by unfold bodyN; rw [if_neg (fun e => hins e.2)]
          have hii : ¬ (g1.ins.length : Int) < 120 := by omega
          have dii : decide ((g1.ins.length : Int) < 120) = false := decide_eq_false hii
          have diin : decide (g1.ins.length < 120) = false := decide_eq_false hins
          have Hb := hid hb
          clear hb hcode
          go_wp2
          go_quiet (fail)
          go_wp2
          go_end0
          exact ⟨rfl, Fin.out _ Hb.out⟩

theorem gStm_ok (B M : Nat) : ∀ k, k ≤ 3 → StmOk B M (sizeS k) (3 - (k : Int)) (gStm k)
  | 0, _ => stmL_all B M
  | k + 1, hk => by
    have hb := body_any B M (sizeS k) (3 - (k : Int)) (gStm k) (gStm_ok B M k (by omega)) (gStm_z k)
    rw [show (3 - (k : Int)) = (3 - ((k + 1 : Nat) : Int)) + 1 by omega] at hb
    exact stm_all B M (4 * sizeS k) (3 - ((k + 1 : Nat) : Int)) (by omega) (by omega) (bodyOf (gStm k)) hb (bodyOf_z (gStm_z k)) (bodyOf_g (gStm_z k))

theorem gBody_ok (B M k : Nat) (hk : k ≤ 3) : BodyOk B M (4 * sizeS k) (3 - (k : Int)) (gBody k) := body_any B M (sizeS k) (3 - (k : Int)) (gStm k) (gStm_ok B M k hk) (gStm_z k)
theorem gBody_z (k : Nat) : BodyZ (4 * sizeS k) (gBody k) := bodyOf_z (gStm_z k)
end Go.Proofs.YtkhicabfmkldpaaDoor

namespace Go.Proofs.YtkhicabfmkldpaaDoor
open Go Go.RowKit

theorem GenAt.parted {w : World} {B M : Nat} {cv iv kv : Value} {g : Gen} (h : GenAt w B M cv iv kv g) (p : Nat) :
    GenAt (w.setCell ⟨M, 3, none⟩ (.int .i64 (p : Int))) B M cv iv kv { g with part := p } ∧ Chg (fun k => k = M) w (w.setCell ⟨M, 3, none⟩ (.int .i64 (p : Int))) := by
  have hC : Chg (fun k => k = M) w (w.setCell ⟨M, 3, none⟩ (.int .i64 (p : Int))) := (Chg.refl (fun k => k = M) w).setCell (fun _ => rfl) _
  exact ⟨⟨h.m.set 3 _, h.code.chg hC (fun _ g hg e => by have := h.old g hg; have := h.le; omega), h.old, World.ownsRow.chg h.ins hC (fun g hg e => h.im (e ▸ hg)), World.ownsRow.chg h.calls hC (fun g hg e => h.km (e ▸ hg)), h.im, h.km, h.ik, h.le⟩, hC⟩

theorem stmC_part {F : Gen → Gen} (hF : ∀ g, (F g).part = g.part) (c : Nat) (g : Gen) : (stmC F c g).part = g.part := by
  have hn : ∀ g : Gen, (nulled g).part = g.part := fun g => by unfold nulled; split <;> rfl
  match c with
  | 0 => rfl
  | 1 => rfl
  | 2 => rfl
  | 3 => rfl
  | 4 => rfl
  | 5 => rfl
  | 6 => exact (hn _).trans (hF _)
  | 7 => exact (hn _).trans (hF _)
  | 8 => exact hF _
  | 9 => exact hF _
  | 10 => rfl
  | 11 => rfl
  | 12 => exact hF _
  | 13 => exact hF _
  | 14 => exact hF _
  | c + 15 => show (if g.part < 2 then _ else g : Gen).part = _; split <;> rfl

theorem bodyN_part {st : Gen → Gen} (hs : ∀ g, (st g).part = g.part) : ∀ k g, (bodyN st k g).part = g.part
  | 0, _ => rfl
  | k + 1, g => by
    unfold bodyN
    split
    · exact (bodyN_part hs k _).trans (hs g)
    · rfl
theorem gStm_part : ∀ k g, (gStm k g).part = g.part
  | 0, g => stmC_part (fun _ => rfl) _ (nx g)
  | k + 1, g => stmC_part (fun g => bodyN_part (gStm_part k) _ (nx g)) _ (nx g)
theorem gBody_part (k : Nat) (g : Gen) : (gBody k g).part = g.part := bodyN_part (gStm_part k) _ (nx g)

/-- Where the parts are made: the maker, and where each begins. -/
structure Pt (w0 : World) (B M X : Nat) (iv0 kv0 : Value) (w1 : World) (cv iv kv : Value) (g : Gen) (a b : Nat) : Prop where
  at' : GenAt w1 B M cv iv kv g
  x : blk w1 X #[.int .i64 0, .int .i64 (a : Int), .int .i64 (b : Int)] 99
  xM : X ≠ M
  ix : iv.ownBlock ≠ some X
  kx : kv.ownBlock ≠ some X
  le : w0.heap.size ≤ X ∧ B ≤ w0.heap.size
  chg : Chg (GenS M iv0 kv0) w0 w1
  fi : Fresh w0 iv0 iv
  fk : Fresh w0 kv0 kv

section
variable {w0 w1 w2 : World} {B M X : Nat} {iv0 kv0 cv iv kv cv' iv' kv' : Value} {g g' : Gen} {a b : Nat}

theorem Pt.step (h : Pt w0 B M X iv0 kv0 w1 cv iv kv g a b) (ha : GenAt w2 B M cv' iv' kv' g') (hc : Chg (GenS M iv kv) w1 w2) (f1 : Fresh w1 iv iv') (f2 : Fresh w1 kv kv') : Pt w0 B M X iv0 kv0 w2 cv' iv' kv' g' a b := by
  have nX : ¬ GenS M iv kv X := fun e => by rcases e with e | e | e; exact h.xM e; exact h.ix e; exact h.kx e
  exact ⟨ha, h.x.chg hc nX, h.xM, f1.ne h.x.lt h.ix, f2.ne h.x.lt h.kx, h.le, h.chg.trans hc (fun i hi e => genS_trans h.fi h.fk hi e), h.fi.trans f1 h.chg.size, h.fk.trans f2 h.chg.size⟩
theorem Pt.alloc (h : Pt w0 B M X iv0 kv0 w1 cv iv kv g a b) (o : Obj) : Pt w0 B M X iv0 kv0 (w1.alloc o) cv iv kv g a b := h.step (h.at'.alloc o) ((Chg.refl _ w1).alloc o) (Fresh.refl _ _) (Fresh.refl _ _)
theorem Pt.drewN (h : Pt w0 B M X iv0 kv0 w1 cv iv kv g a b) (n : Nat) : Pt w0 B M X iv0 kv0 (w1.drewN n) cv iv kv g a b := h.step (h.at'.drewN n) ((Chg.refl _ w1).drewN n) (Fresh.refl _ _) (Fresh.refl _ _)
theorem Pt.drew (h : Pt w0 B M X iv0 kv0 w1 cv iv kv g a b) : Pt w0 B M X iv0 kv0 w1.drew cv iv kv g a b := h.step (h.at'.chg ((Chg.refl (fun _ => False) w1).drew) (fun _ _ e => e.elim)) ((Chg.refl _ w1).drew) (Fresh.refl _ _) (Fresh.refl _ _)
theorem Pt.other (h : Pt w0 B M X iv0 kv0 w1 cv iv kv g a b) {S : Nat → Prop} (hc : Chg S w1 w2) (hS : ∀ k, S k → k = X ∨ w1.heap.size ≤ k) (a' b' : Nat) (hx : blk w2 X #[.int .i64 0, .int .i64 (a' : Int), .int .i64 (b' : Int)] 99) : Pt w0 B M X iv0 kv0 w2 cv iv kv g a' b' := by
  have hB := h.le.2
  have hX0 := h.le.1
  have hsz := h.chg.size
  have ha : GenAt w2 B M cv iv kv g := h.at'.chg hc (fun k hk e => by
    rcases hS k e with e | e
    · subst e; exact ⟨by omega, h.xM, h.ix, h.kx⟩
    · omega)
  exact ⟨ha, hx, h.xM, h.ix, h.kx, h.le, h.chg.trans (S' := S) hc (fun i hi e => by rcases hS i e with e | e <;> omega), h.fi, h.fk⟩
theorem Pt.cells (h : Pt w0 B M X iv0 kv0 w1 cv iv kv g a b) : (∃ ia ic, w1.cell? ⟨M, 1, none⟩ = some (.slice ia g.ins.length ic)) ∧ w1.cell? ⟨M, 3, none⟩ = some (.int .i64 (g.part : Int)) ∧ w1.frozen? ⟨M, 3, none⟩ = false ∧ w1.cell? ⟨X, 0, none⟩ = some (.int .i64 0) ∧ w1.cell? ⟨X, 1, none⟩ = some (.int .i64 (a : Int)) ∧ w1.cell? ⟨X, 2, none⟩ = some (.int .i64 (b : Int)) ∧ w1.frozen? ⟨X, 1, none⟩ = false ∧ w1.frozen? ⟨X, 2, none⟩ = false :=
  ⟨h.at'.cells.2.1, h.at'.m.cell 3 rfl, h.at'.m.free 3, h.x.cell 0 rfl, h.x.cell 1 rfl, h.x.cell 2 rfl, h.x.free 1, h.x.free 2⟩
end

theorem callCells_get2 : ∀ (l : List (Nat × Nat)) (i x y : Nat), l[i]? = some (x, y) → (callCells l)[i * 2]? = some (.int .i64 (x : Int)) ∧ (callCells l)[i * 2 + 1]? = some (.int .i64 (y : Int))
  | [], i, x, y, h => by simp at h
  | o :: r, 0, x, y, h => by simp at h; subst h; exact ⟨rfl, rfl⟩
  | o :: r, i + 1, x, y, h => by
    have ih := callCells_get2 r i x y (by simpa using h)
    show (([Value.int .i64 (o.1 : Int), .int .i64 (o.2 : Int)] ++ callCells r)[(i + 1) * 2]? = _) ∧ (([Value.int .i64 (o.1 : Int), .int .i64 (o.2 : Int)] ++ callCells r)[(i + 1) * 2 + 1]? = _)
    rw [List.getElem?_append_right (by simp; omega), List.getElem?_append_right (by simp; omega)]
    simp only [List.length_cons, List.length_nil]
    rw [show (i + 1) * 2 - (0 + 1 + 1) = i * 2 by omega, show (i + 1) * 2 + 1 - (0 + 1 + 1) = i * 2 + 1 by omega]
    exact ih

theorem calls_at {w0 w1 : World} {B M X : Nat} {iv0 kv0 cv iv kv : Value} {g : Gen} {a b : Nat} (h : Pt w0 B M X iv0 kv0 w1 cv iv kv g a b) {ka : Option Addr} {CN kc : Nat} {g0 : Gen} (hkv : kv = .slice ka g0.calls.length kc) (hCN : g0.calls.length = CN) {i x y : Nat} (hxy : g.calls[i]? = some (x, y)) :
    ∃ kb, ka = some ⟨kb, 0, none⟩ ∧ w1.cell? ⟨kb, i * 2, none⟩ = some (.int .i64 (x : Int)) ∧ w1.cell? ⟨kb, i * 2 + 1, none⟩ = some (.int .i64 (y : Int)) ∧ kb ≠ M ∧ kb ≠ X := by
  have hlt := (List.getElem?_eq_some_iff.1 hxy).1
  rcases h.at'.calls.2 with ⟨_, h0⟩ | ⟨gb, cap, cur, hv, hB, hgb, hn, hcap, hsz, htk⟩
  · omega
  · rw [hkv] at hv
    simp at hv
    obtain ⟨rfl, _, _⟩ := hv
    have hb : blk w1 gb cur 98 := hgb
    have hg := callCells_get2 g.calls i x y hxy
    have key : ∀ j, j < g.calls.length * 2 → cur[j]? = (callCells g.calls)[j]? := by
      intro j hj
      rw [← htk, List.getElem?_take, if_pos hj, Array.getElem?_toList]
    exact ⟨gb, rfl, hb.cell _ ((key _ (by omega)).trans hg.1), hb.cell _ ((key _ (by omega)).trans hg.2), fun e => h.at'.km (by rw [hkv, e]; rfl), fun e => h.kx (by rw [hkv, e]; rfl)⟩

/-- The state before each part, and behind the last. -/
def ptG (g : Gen) : Nat → Gen
  | 0 => { g with part := 1 }
  | 1 => { partOf 1 g with part := 2 }
  | _ => { partOf 2 (partOf 1 g) with part := 3 }

theorem inAt_of_own {w : World} {B : Nat} {v : Value} {l : List (Nat × Int)} (h : w.ownsRow B 42 2 v l.length (insCells l)) (hl : 0 < l.length) : InAt w v l := by
  rcases h.2 with ⟨_, h0⟩ | ⟨gb, cap, cur, hv, hB, hgb, hn, hcap, hsz, htk⟩
  · omega
  · refine ⟨gb, 0, cap, hv, fun k op x hk => ?_⟩
    have hlt := (List.getElem?_eq_some_iff.1 hk).1
    have hb : blk w gb cur 42 := hgb
    have hg := insCells_get2 l k hlt
    have hd : l.getD k (0, 0) = (op, x) := by rw [List.getD_eq_getElem?_getD, hk]; rfl
    rw [hd] at hg
    have key : ∀ j, j < l.length * 2 → cur[j]? = (insCells l)[j]? := by
      intro j hj
      rw [← htk, List.getElem?_take, if_pos hj, Array.getElem?_toList]
    rw [Nat.zero_add]
    exact ⟨hb.cell _ ((key _ (by omega)).trans hg.1), hb.cell _ ((key _ (by omega)).trans hg.2)⟩

set_option maxRecDepth 100000 in
set_option maxHeartbeats 2000000 in
theorem parts_any (B M : Nat) (cv iv kv : Value) (g : Gen) (w : World) (h : GenAt w B M cv iv kv g) (hB : B ≤ w.heap.size) (hS : Szd g 2000) (hcl : ∀ c ∈ (partOf 2 (partOf 1 g)).calls, c.1 < (partOf 2 (partOf 1 g)).ins.length ∧ c.2 ≤ 2) (hpos : 0 < g.ins.length) :
    Calls Tryd.prog 24 #[.pointer (some ⟨M, 0, none⟩)] w fun e w' => ∃ iv', e = .returned iv' ∧ InAt w' iv' (twoParts g) ∧ (∀ b, iv'.ownBlock = some b → B ≤ b) ∧ Chg (GenS M iv kv) w w' := by
  have c3 : w.cell? ⟨M, 3, none⟩ = some (.int .i64 (g.part : Int)) := h.m.cell 3 rfl
  have f3 := h.m.free 3
  have lM := h.m.lt
  have hP0 : Pt w B M w.heap.size iv kv ((w.setCell ⟨M, 3, none⟩ (.int .i64 1)).alloc (.cells #[.int .i64 0, .int .i64 0, .int .i64 0] 99)) cv iv kv (ptG g 0) 0 0 := by
    obtain ⟨q1, q2⟩ := h.parted 1
    have hi : ∀ b, iv.ownBlock = some b → b < w.heap.size := fun b hb => (h.ins.lt b hb).2
    have hk : ∀ b, kv.ownBlock = some b → b < w.heap.size := fun b hb => (h.calls.lt b hb).2
    exact ⟨q1.alloc _, blk_new' (by simp) _ _, by omega, fun e => by have := hi _ e; omega, fun e => by have := hk _ e; omega, ⟨Nat.le_refl _, hB⟩, (q2.mono (fun _ _ e => .inl e)).alloc _, Fresh.refl _ _, Fresh.refl _ _⟩
  have HP0 := hid hP0
  have z1 : Szd (ptG g 0) 2000 := ⟨hS.code, hS.ins, hS.calls⟩
  have z2 : Szd (gBody 2 (ptG g 0)) 1328 := gBody_z 2 _ _ z1
  have z3 : Szd (ptG g 1) 1327 := ⟨(z2.put 9 0).code, (z2.put 9 0).ins, (z2.put 9 0).calls⟩
  have z4 : Szd (gBody 2 (ptG g 1)) 655 := gBody_z 2 _ _ z3
  have hp1 : (put (gBody 2 (ptG g 0)) 9 0).part = 1 := gBody_part 2 _
  have hp2 : (put (gBody 2 (ptG g 1)) 9 0).part = 2 := gBody_part 2 _
  have hbody0 : BodyOk B M 672 1 (gBody 2) := by
    have h1 := gBody_ok B M 2 (by decide)
    rw [show (3 - ((2 : Nat) : Int)) = 1 from rfl] at h1
    exact h1
  have hbody := hid hbody0
  clear hbody0
  have H := hid h
  clear h hP0
  go_enter Tryd.func24, Tryd.ntmps24
  go_wp2
  go_loopg [14] 2 (fun k v14 wr => ∃ (q : Nat) (cv1 iv1 kv1 : Value), q + k = 2 ∧ Hid (Pt w B M w.heap.size iv kv wr cv1 iv1 kv1 (ptG g q) (if 1 ≤ q then g.ins.length else 0) (if 2 ≤ q then (partOf 1 g).ins.length else 0)))
  case atStart => exact ⟨0, cv, iv, kv, rfl, HP0.out⟩
  case round =>
    obtain ⟨q, cv1, iv1, kv1, hq, HH⟩ := hrel
    obtain ⟨⟨ia, ic, c1⟩, d3, d3f, x0, x1, x2, x1f, x2f⟩ := HH.out.cells
    have hXM : w.heap.size ≠ M := HH.out.xM
    match q, hq with
    | 0, hq =>
      replace d3 : wr.cell? ⟨M, 3, none⟩ = some (.int .i64 1) := d3
      obtain ⟨L, hL⟩ : ∃ L, (ptG g 0).ins.length = L := ⟨_, rfl⟩
      rw [hL] at c1
      have HL := hid hL
      clear hL
      go_wp2
      go_region_held3 (fun w' => w'.cell? ⟨M, 1, none⟩ = some (.slice ia L ic) ∧ w'.cell? ⟨M, 3, none⟩ = some (.int .i64 1)) (first | assumption | go_keep) (fail)
      have hA : Pt w B M w.heap.size iv kv (wr.setCell ⟨w.heap.size, 1, none⟩ (.int .i64 (L : Int))).drew cv1 iv1 kv1 (ptG g 0) L 0 :=
        (HH.out.other ((Chg.refl (fun k => k = w.heap.size) wr).setCell (fun _ => rfl) _) (fun k e => .inl e) L 0 (HH.out.x.set 1 _)).drew
      have HA := hid hA
      clear hA c1 d3 d3f x0 x1 x2 x1f x2f
      go_wp2_with (first | (go_at_call 18; refine (put_any B M cv2 iv2 kv2 (gBody 2 (ptG g 0)) 9 0 _ HB.out.at' z2.i).mono ?_; rintro e w3 ⟨rfl, iv3, q1, q2, q3⟩; have hC := HB.out.step q1 (q3.mono (fun _ _ e => e.elim .inl (fun e => .inr (.inl e)))) q2 (Fresh.refl _ _); have d3 : w3.cell? ⟨M, 3, none⟩ = some (.int .i64 1) := by { have h := hC.cells.2.1; rw [hp1] at h; exact h }; have d3f := hC.cells.2.2.1; replace hC := hid hC; clear q1 q2 q3) | (go_at_call 15; refine (hbody.out cv1 iv1 kv1 (ptG g 0) _ HA.out.at' (Nat.le_trans HA.out.le.2 HA.out.chg.size) (z1.mono (by omega))).mono ?_; rintro e w2 ⟨rfl, ⟨⟨cv2, iv2, kv2, q1, q2, q3⟩, q4⟩⟩; have HB := HA.out.step q1 q4 q2 q3; replace HB := hid HB; clear q1 q2 q3 q4))
      go_roundg 1
      case measure => omega
      case rel =>
        obtain ⟨p1, p2⟩ := hC.out.at'.parted 2
        have hfin := hC.out.step p1 (p2.mono (fun _ _ e => .inl e)) (Fresh.refl _ _) (Fresh.refl _ _)
        have hL := HL.out
        rw [show (ptG g 0).ins.length = g.ins.length from rfl] at hL
        subst hL
        exact ⟨1, cv2, iv3, kv2, rfl, hfin⟩
    | 1, hq =>
      replace d3 : wr.cell? ⟨M, 3, none⟩ = some (.int .i64 2) := d3
      obtain ⟨L, hL⟩ : ∃ L, (ptG g 1).ins.length = L := ⟨_, rfl⟩
      rw [hL] at c1
      have HL := hid hL
      clear hL
      go_wp2
      go_region_held3 (fun w' => w'.cell? ⟨M, 1, none⟩ = some (.slice ia L ic) ∧ w'.cell? ⟨M, 3, none⟩ = some (.int .i64 2)) (first | assumption | go_keep) (fail)
      have hA : Pt w B M w.heap.size iv kv (wr.setCell ⟨w.heap.size, 2, none⟩ (.int .i64 (L : Int))).drew cv1 iv1 kv1 (ptG g 1) g.ins.length L :=
        (HH.out.other ((Chg.refl (fun k => k = w.heap.size) wr).setCell (fun _ => rfl) _) (fun k e => .inl e) g.ins.length L (HH.out.x.set 2 _)).drew
      have HA := hid hA
      clear hA c1 d3 d3f x0 x1 x2 x1f x2f
      go_wp2_with (first | (go_at_call 18; refine (put_any B M cv2 iv2 kv2 (gBody 2 (ptG g 1)) 9 0 _ HB.out.at' z4.i).mono ?_; rintro e w3 ⟨rfl, iv3, q1, q2, q3⟩; have hC := HB.out.step q1 (q3.mono (fun _ _ e => e.elim .inl (fun e => .inr (.inl e)))) q2 (Fresh.refl _ _); have d3 : w3.cell? ⟨M, 3, none⟩ = some (.int .i64 2) := by { have h := hC.cells.2.1; rw [hp2] at h; exact h }; have d3f := hC.cells.2.2.1; replace hC := hid hC; clear q1 q2 q3) | (go_at_call 15; refine (hbody.out cv1 iv1 kv1 (ptG g 1) _ HA.out.at' (Nat.le_trans HA.out.le.2 HA.out.chg.size) (z3.mono (by omega))).mono ?_; rintro e w2 ⟨rfl, ⟨⟨cv2, iv2, kv2, q1, q2, q3⟩, q4⟩⟩; have HB := HA.out.step q1 q4 q2 q3; replace HB := hid HB; clear q1 q2 q3 q4))
      go_roundg 0
      case measure => omega
      case rel =>
        obtain ⟨p1, p2⟩ := hC.out.at'.parted 3
        have hfin := hC.out.step p1 (p2.mono (fun _ _ e => .inl e)) (Fresh.refl _ _) (Fresh.refl _ _)
        have hL := HL.out
        rw [show (ptG g 1).ins.length = (partOf 1 g).ins.length from rfl] at hL
        subst hL
        exact ⟨2, cv2, iv3, kv2, rfl, hfin⟩
    | q + 2, hq =>
      obtain rfl : q = 0 := by omega
      replace d3 : wr.cell? ⟨M, 3, none⟩ = some (.int .i64 3) := d3
      replace x1 : wr.cell? ⟨w.heap.size, 1, none⟩ = some (.int .i64 (g.ins.length : Int)) := x1
      replace x2 : wr.cell? ⟨w.heap.size, 2, none⟩ = some (.int .i64 ((partOf 1 g).ins.length : Int)) := x2
      obtain ⟨ka, kc, hkv⟩ : ∃ a c, kv1 = .slice a (ptG g 2).calls.length c := by
        rcases HH.out.at'.calls.2 with ⟨h1, h2⟩ | ⟨gb, cap, cur, h1, _⟩
        · exact ⟨none, 0, by rw [h2]; exact h1⟩
        · exact ⟨_, _, h1⟩
      obtain ⟨CN, hCN⟩ : ∃ CN, (ptG g 2).calls.length = CN := ⟨_, rfl⟩
      have c2 : wr.cell? ⟨M, 2, none⟩ = some (.slice ka CN kc) := by have := HH.out.at'.m.cell 2 (v := kv1) rfl; rw [hkv, hCN] at this; exact this
      have HCN := hid hCN
      have Hkv := hid hkv
      have hCNb : CN ≤ 1000000 := by have := z4.k; have h2 : (ptG g 2).calls.length = (gBody 2 (ptG g 1)).calls.length := rfl; omega
      go_wp2
      clear hCN hkv c1 d3 d3f x0 x1 x2 x1f x2f
      have HPt : Hid (Pt w B M w.heap.size iv kv wr cv1 iv1 kv1 { ptG g 2 with ins := callsTo g.ins.length (partOf 1 g).ins.length (ptG g 2).ins ((ptG g 2).calls.take 0) } g.ins.length (partOf 1 g).ins.length) := hid HH.out
      clear HH
      go_loopg [5, 40] CN (fun k v5 v40 w2 => ∃ (i : Nat), v40 = .int .i64 (i : Int) ∧ i + k = CN ∧ Hid (Pt w B M w.heap.size iv kv w2 cv1 iv1 kv1 { ptG g 2 with ins := callsTo g.ins.length (partOf 1 g).ins.length (ptG g 2).ins ((ptG g 2).calls.take i) } g.ins.length (partOf 1 g).ins.length))
      case atStart => exact ⟨0, rfl, by omega, HPt.out⟩
      case round =>
        obtain ⟨i, rfl, hik, HH⟩ := hrel
        by_cases hi : i < CN
        · obtain ⟨⟨x, y⟩, hxy⟩ : ∃ c, (ptG g 2).calls[i]? = some c := ⟨_, List.getElem?_eq_getElem (by rw [HCN.out]; exact hi)⟩
          obtain ⟨hx, hy⟩ := hcl (x, y) (List.mem_of_getElem? hxy)
          have hx : x < (callsTo g.ins.length (partOf 1 g).ins.length (ptG g 2).ins ((ptG g 2).calls.take i)).length := by rw [callsTo_length]; exact hx
          have hy : y ≤ 2 := hy
          obtain ⟨kb, hka, kb0, kb1, hkM, hkX⟩ := calls_at HH.out Hkv.out HCN.out hxy
          subst hka
          obtain ⟨Z, hZ⟩ : ∃ Z, (callsTo g.ins.length (partOf 1 g).ins.length (ptG g 2).ins ((ptG g 2).calls.take i)).length = Z := ⟨_, rfl⟩
          have hZx : x < Z := by omega
          have hxi : (x : Int) < (Z : Int) := by omega
          have hx0 : (0 : Int) ≤ (x : Int) := by omega
          have c1 : ∃ a c, wr.cell? ⟨M, 1, none⟩ = some (.slice a Z c) := by
            obtain ⟨a, c, h⟩ := HH.out.cells.1
            rw [show ({ ptG g 2 with ins := callsTo g.ins.length (partOf 1 g).ins.length (ptG g 2).ins ((ptG g 2).calls.take i) } : Gen).ins.length = Z from hZ] at h
            exact ⟨a, c, h⟩
          have Hx := hid hx
          have HZ := hid hZ
          have Hxy := hid hxy
          clear hx hZ hxy
          have nX : w.heap.size < wr.heap.size := HH.out.x.lt
          have nM : M < wr.heap.size := HH.out.at'.m.lt
          go_wp2
          obtain ⟨nb, hnb⟩ : ∃ nb, wr.heap.size = nb := ⟨_, rfl⟩
          obtain ⟨wA, hwA⟩ : ∃ wA, wr.alloc (.cells #[.int .i64 (x : Int), .int .i64 (y : Int)] 98) = wA := ⟨_, rfl⟩
          rw [hwA, hnb]
          have hPA : Pt w B M w.heap.size iv kv wA cv1 iv1 kv1 { ptG g 2 with ins := callsTo g.ins.length (partOf 1 g).ins.length (ptG g 2).ins ((ptG g 2).calls.take i) } g.ins.length (partOf 1 g).ins.length := hwA ▸ HH.out.alloc _
          have hnew : blk wA nb #[.int .i64 (x : Int), .int .i64 (y : Int)] 98 := by rw [← hwA, ← hnb]; exact blk_new _ _ _
          have n0 : wA.cell? ⟨nb, 0, none⟩ = some (.int .i64 (x : Int)) := hnew.cell 0 rfl
          have n1 : wA.cell? ⟨nb, 1, none⟩ = some (.int .i64 (y : Int)) := hnew.cell 1 rfl
          obtain ⟨gb, cap, v, p1, p2, p3, p4, p5, p6⟩ := hPA.at'.patched x Hx.out
          rw [show ({ ptG g 2 with ins := callsTo g.ins.length (partOf 1 g).ins.length (ptG g 2).ins ((ptG g 2).calls.take i) } : Gen).ins.length = Z from HZ.out] at p1
          have m1 : wA.cell? ⟨M, 1, none⟩ = some (.slice (some ⟨gb, 0, none⟩) Z cap) := by rw [← p1]; exact hPA.at'.m.cell 1 rfl
          obtain ⟨_, _, _, x0, x1, x2, _, _⟩ := hPA.cells
          have q1 : gb ≠ w.heap.size := fun e => hPA.ix (by rw [p1, e]; rfl)
          have q2 : w.heap.size ≠ gb := q1.symm
          have hgi : iv1.ownBlock = some gb := by rw [p1]; rfl
          have q3 : gb ≠ nb := by
            have h1 := (HH.out.at'.ins.lt gb hgi).2
            omega
          have q4 : nb ≠ gb := q3.symm
          have q5 : M ≠ gb := p4.symm
          have q6 : nb ≠ M := by omega
          have q7 : nb ≠ w.heap.size := by omega
          have fin : ∀ (y' val : Nat), y' = y → callTo g.ins.length (partOf 1 g).ins.length y' = (val : Int) → Hid (Pt w B M w.heap.size iv kv (wA.setCell ⟨gb, x * 2 + 1, none⟩ (.int .i64 (val : Int))).drew cv1 iv1 kv1 { ptG g 2 with ins := callsTo g.ins.length (partOf 1 g).ins.length (ptG g 2).ins ((ptG g 2).calls.take (i + 1)) } g.ins.length (partOf 1 g).ins.length) := by
            intro y' val hy' hv
            subst hy'
            have hstep : callsTo g.ins.length (partOf 1 g).ins.length (ptG g 2).ins ((ptG g 2).calls.take (i + 1)) = setX (callsTo g.ins.length (partOf 1 g).ins.length (ptG g 2).ins ((ptG g 2).calls.take i)) x (val : Int) := by
              rw [List.take_add_one, Hxy.out]
              unfold callsTo
              rw [List.foldl_append]
              show setX _ x (callTo _ _ y') = _
              rw [hv]
            rw [hstep]
            obtain ⟨r1, r2⟩ := p6 (val : Int)
            exact hid (hPA.step r1 (r2.mono (fun _ _ e => .inr (.inl e))) (Fresh.refl _ _) (Fresh.refl _ _)).drew
          clear hPA hnew p1 hwA p5 hgi kb0 kb1
          match y, hy with
          | 0, _ =>
            go_wp2
            go_region_held3 (fun w' => w'.cell? ⟨M, 1, none⟩ = some (.slice (some ⟨gb, 0, none⟩) Z cap) ∧ w'.cell? ⟨nb, 0, none⟩ = some (.int .i64 (x : Int)) ∧ w'.cell? ⟨nb, 1, none⟩ = some (.int .i64 0) ∧ w'.cell? ⟨w.heap.size, 0, none⟩ = some (.int .i64 0)) (first | assumption | go_keep) (fail)
            go_wp2
            go_roundg (CN - (i + 1))
            case measure => omega
            case rel => exact ⟨i + 1, by rfl, by omega, fin 0 0 rfl rfl⟩
          | 1, _ =>
            go_wp2
            go_region_held3 (fun w' => w'.cell? ⟨M, 1, none⟩ = some (.slice (some ⟨gb, 0, none⟩) Z cap) ∧ w'.cell? ⟨nb, 0, none⟩ = some (.int .i64 (x : Int)) ∧ w'.cell? ⟨nb, 1, none⟩ = some (.int .i64 1) ∧ w'.cell? ⟨w.heap.size, 1, none⟩ = some (.int .i64 (g.ins.length : Int))) (first | assumption | go_keep) (fail)
            go_wp2
            go_roundg (CN - (i + 1))
            case measure => omega
            case rel => exact ⟨i + 1, by rfl, by omega, fin 1 g.ins.length rfl rfl⟩
          | 2, _ =>
            go_wp2
            go_region_held3 (fun w' => w'.cell? ⟨M, 1, none⟩ = some (.slice (some ⟨gb, 0, none⟩) Z cap) ∧ w'.cell? ⟨nb, 0, none⟩ = some (.int .i64 (x : Int)) ∧ w'.cell? ⟨nb, 1, none⟩ = some (.int .i64 2) ∧ w'.cell? ⟨w.heap.size, 2, none⟩ = some (.int .i64 ((partOf 1 g).ins.length : Int))) (first | assumption | go_keep) (fail)
            go_wp2
            go_roundg (CN - (i + 1))
            case measure => omega
            case rel => exact ⟨i + 1, by rfl, by omega, fin 2 (partOf 1 g).ins.length rfl rfl⟩
        · have cM : wr.cell? ⟨M, 1, none⟩ = some iv1 := HH.out.at'.m.cell 1 rfl
          go_wp2
          go_ret
          have hfin := HH.out
          rw [show (ptG g 2).calls.take i = (ptG g 2).calls from List.take_of_length_le (by rw [HCN.out]; omega)] at hfin
          have hl : 0 < (twoParts g).length := by
            show 0 < (callsTo _ _ _ _).length
            rw [callsTo_length]
            show 0 < (put (gBody 2 (ptG g 1)) 9 0).ins.length
            rw [put_len]; omega
          exact ⟨iv1, rfl, inAt_of_own (l := twoParts g) hfin.at'.ins hl, fun b hb => (hfin.at'.ins.lt b hb).1, hfin.chg⟩
end Go.Proofs.YtkhicabfmkldpaaDoor

namespace Go.Proofs.YtkhicabfmkldpaaDoor
open Go Go.RowKit

theorem prog_calls (code : List UInt8) : ∀ c ∈ (partOf 2 (partOf 1 (mainOf code))).calls, c.1 < (partOf 2 (partOf 1 (mainOf code))).ins.length ∧ c.2 ≤ 2 := by
  have q : ∀ part, AllQ (fun _ => True) part := fun _ _ _ _ _ _ => trivial
  obtain ⟨l1, i1, c1, p1, t1, s1, _⟩ := does_gStm (q 0) 3 [] (fun _ => False) (gen0 (code.take 150) 0) [] rfl (inv0 _ _ _ _ _)
  obtain ⟨l2, i2, c2, p2, t2, s2, _⟩ := does_gBody (q 0) 3 [] (fun _ => False) _ l1 t1 i1
  have i3 := i2.put (lv' := []) 10 0 rfl ⟨by decide, fun _ _ => by decide, fun _ => rfl, fun _ => rfl, trivial⟩ (by omega)
  rw [show put (gBody 3 (gStm 3 (gen0 (code.take 150) 0))) 10 0 = mainOf code from rfl] at i3
  obtain ⟨g, hg⟩ : ∃ g, mainOf code = g := ⟨_, rfl⟩
  rw [hg] at i3 ⊢
  have i4 : Inv (fun _ => False) (fun _ => True) { g with part := 1 } _ [] := ⟨i3.len, i3.ops, i3.jumps, i3.vals, i3.calls⟩
  obtain ⟨l5, i5, c5, p5, t5, s5, _⟩ := does_gBody (q 1) 2 [] (fun _ => False) { g with part := 1 } _ rfl i4
  have i6 := i5.put (lv' := []) 9 0 rfl ⟨by decide, fun _ _ => by decide, fun _ => rfl, fun _ => rfl, trivial⟩ (by omega)
  rw [show put (gBody 2 { g with part := 1 }) 9 0 = partOf 1 g from rfl] at i6
  obtain ⟨g1, hg1⟩ : ∃ g1, partOf 1 g = g1 := ⟨_, rfl⟩
  rw [hg1] at i6 ⊢
  have i7 : Inv (fun _ => False) (fun _ => True) { g1 with part := 2 } _ [] := ⟨i6.len, i6.ops, i6.jumps, i6.vals, i6.calls⟩
  obtain ⟨l8, i8, c8, p8, t8, s8, _⟩ := does_gBody (q 2) 2 [] (fun _ => False) { g1 with part := 2 } _ rfl i7
  have i9 := i8.put (lv' := []) 9 0 rfl ⟨by decide, fun _ _ => by decide, fun _ => rfl, fun _ => rfl, trivial⟩ (by omega)
  rw [show put (gBody 2 { g1 with part := 2 }) 9 0 = partOf 2 g1 from rfl] at i9
  intro c hc
  obtain ⟨⟨x, hx⟩, h2⟩ := i9.calls c hc
  exact ⟨(List.getElem?_eq_some_iff.1 hx).1, h2⟩

/-- So many bytes of a slice. -/
theorem rdB_front {w : World} {a : Option Addr} {c : Nat} {l : List UInt8} (h : RdB w (.slice a l.length c) l) (k : Nat) : RdB w (.slice a (min l.length k) c) (l.take k) := by
  rcases h with ⟨h1, h2⟩ | ⟨b, off, cap, h1, h2, h3, h4⟩
  · subst h2
    simp at h1
    obtain ⟨rfl, rfl⟩ := h1
    exact .inl ⟨by simp, by simp⟩
  · simp at h1
    obtain ⟨rfl, rfl⟩ := h1
    have h5 := rdB_take (n := min l.length k) (by omega) h2 h3 h4
    rw [show l.take (min l.length k) = l.take k by rw [List.take_eq_take_iff]; omega] at h5
    exact h5

theorem rdB_cap {w : World} {a : Option Addr} {c : Nat} {l : List UInt8} (h : RdB w (.slice a l.length c) l) : l.length ≤ c ∧ c < 9223372036854775808 := by
  have h63 : maxLen < 9223372036854775808 := by unfold maxLen; omega
  rcases h with ⟨h1, h2⟩ | ⟨b, off, cap, h1, h2, h3, _⟩
  · subst h2
    simp at h1
    obtain ⟨_, rfl⟩ := h1
    exact ⟨Nat.le_refl _, by omega⟩
  · simp at h1
    obtain ⟨_, rfl⟩ := h1
    exact ⟨h2, by omega⟩

set_option maxRecDepth 100000 in
set_option maxHeartbeats 1000000 in
theorem data_any (a : Option Addr) (c : Nat) (l : List UInt8) (w : World) (h : RdB w (.slice a l.length c) l) :
    Calls Tryd.prog 10 #[.slice a l.length c] w fun e w' => e = .returned (.slice a (min l.length 200) c) ∧ w' = w := by
  obtain ⟨h1, h2⟩ := rdB_cap h
  clear h
  obtain ⟨n, hn⟩ : ∃ n, l.length = n := ⟨_, rfl⟩
  rw [hn] at h1 ⊢
  clear hn
  by_cases h200 : n ≤ 200
  · have e1 : min n 200 = n := by omega
    have hi : (n : Int) ≤ 200 := by omega
    rw [e1]
    go_enter Tryd.func10, Tryd.ntmps10
    go_wp2
    go_ret
    exact ⟨rfl, rfl⟩
  · have e1 : min n 200 = 200 := by omega
    have hi : ¬ (n : Int) ≤ 200 := by omega
    rw [e1]
    go_enter Tryd.func10, Tryd.ntmps10
    go_wp2
    go_ret
    exact ⟨rfl, rfl⟩

/-- A maker that begins. -/
theorem gen_start {w : World} {cv : Value} {code : List UInt8} {part : Nat} (hc : RdB w cv code) (ho : ∀ b, cv.ownBlock = some b → b < w.heap.size) :
    GenAt (w.alloc (.cells #[cv, .slice none 0 0, .slice none 0 0, .int .i64 (part : Int), .int .i64 0] 37)) w.heap.size w.heap.size cv (.slice none 0 0) (.slice none 0 0) (gen0 code part) :=
  ⟨blk_new _ _ _, hc.alloc _, ho, ⟨rfl, .inl ⟨rfl, rfl⟩⟩, ⟨rfl, .inl ⟨rfl, rfl⟩⟩, by simp [Value.ownBlock], by simp [Value.ownBlock], fun b hb => by simp [Value.ownBlock] at hb, Nat.le_refl _⟩

theorem genS_none {M k : Nat} (h : GenS M (.slice none 0 0) (.slice none 0 0) k) : k = M := by
  rcases h with h | h | h
  · exact h
  · simp [Value.ownBlock] at h
  · simp [Value.ownBlock] at h

set_option maxRecDepth 100000 in
set_option maxHeartbeats 1000000 in
theorem prog_any (a : Option Addr) (c : Nat) (l : List UInt8) (w : World) (h : RdB w (.slice a l.length c) l) (ho : ∀ b, (Value.slice a l.length c).ownBlock = some b → b < w.heap.size) :
    Calls Tryd.prog 9 #[.slice a l.length c] w fun e w' => ∃ iv', e = .returned iv' ∧ InAt w' iv' (progOf l) ∧ (∀ b, iv'.ownBlock = some b → w.heap.size ≤ b) ∧ Chg (fun _ => False) w w' := by
  obtain ⟨h1, h2⟩ := rdB_cap h
  have hf := rdB_front h 150
  have hcl := prog_calls l
  obtain ⟨m, hm⟩ : ∃ m, min l.length 150 = m := ⟨_, rfl⟩
  rw [hm] at hf
  have ho2 : ∀ b, (Value.slice a m c).ownBlock = some b → b < w.heap.size := fun b hb => ho b (by cases a with | none => simp [Value.ownBlock] at hb | some x => exact hb)
  have hG := hid (show GenAt (w.alloc (.cells #[.slice a m c, .slice none 0 0, .slice none 0 0, .int .i64 0, .int .i64 0] 37)) w.heap.size w.heap.size _ _ _ (gen0 (l.take 150) 0) from gen_start (part := 0) hf ho2)
  have z0 : Szd (gen0 (l.take 150) 0) 20000 := ⟨by show (l.take 150).length ≤ _; rw [List.length_take]; omega, by show 0 + 20000 ≤ 100000; omega, by show 0 + 20000 ≤ 100000; omega⟩
  have z1 : Szd (gStm 3 (gen0 (l.take 150) 0)) 19320 := (gStm_z 3).z _ _ z0
  have z2 : Szd (gBody 3 (gStm 3 (gen0 (l.take 150) 0))) 16600 := gBody_z 3 _ _ z1
  have z3 : Szd (mainOf l) 16599 := z2.put 10 0
  have hstm0 : StmOk w.heap.size w.heap.size (sizeS 3) 0 (gStm 3) := by
    have h1 := gStm_ok w.heap.size w.heap.size 3 (Nat.le_refl _)
    rw [show (3 - ((3 : Nat) : Int)) = 0 from rfl] at h1
    exact h1
  have hbody0 : BodyOk w.heap.size w.heap.size (4 * sizeS 3) 0 (gBody 3) := by
    have h1 := gBody_ok w.heap.size w.heap.size 3 (Nat.le_refl _)
    rw [show (3 - ((3 : Nat) : Int)) = 0 from rfl] at h1
    exact h1
  have hstm := hid hstm0
  have hbody := hid hbody0
  have Hcall := hid (hstm0 _ _ _ _ _ hG.out (by simp) (z0.mono (by decide)))
  have hpos : 0 < (mainOf l).ins.length := by show 0 < (put _ 10 0).ins.length; rw [put_len]; omega
  obtain ⟨n, hn⟩ : ∃ n, l.length = n := ⟨_, rfl⟩
  rw [hn] at h1 hm ⊢
  have Hcl := hid hcl
  clear h hf hstm0 hbody0 hcl hn ho
  by_cases h150 : n ≤ 150
  all_goals
    first
    | (have hi : (n : Int) ≤ 150 := by omega
       have hmn : m = n := by omega)
    | (have hi : ¬ (n : Int) ≤ 150 := by omega
       have hmn : m = 150 := by omega)
    subst hmn
    go_enter Tryd.func9, Tryd.ntmps9
    go_wp2_with (first | (go_at_call 24; refine (parts_any w.heap.size w.heap.size _ _ _ (mainOf l) _ q9.out c9.size (z3.mono (by omega)) Hcl.out hpos).mono ?_; rintro e w5 ⟨iv5, rfl, r1, r2, r3⟩; replace r1 := hid r1; replace r3 := hid r3) | (go_at_call 18; refine (put_any w.heap.size w.heap.size cv3 iv3 kv3 _ 10 0 _ q3.out z2.i).mono ?_; rintro e w4 ⟨rfl, iv4, p1, p2, p3⟩; have q9 := hid (show GenAt w4 _ _ _ _ _ (mainOf l) from p1); have c9 : Chg (fun _ => False) w w4 := c3.trans p3 (fun i hi e => by rcases e with e | e; omega; have := (q3.out.ins.lt i e).1; omega); clear p1 p2 p3) | (go_at_call 15; refine (hbody.out cv2 iv2 kv2 _ _ q2.out c2.size (z1.mono (by decide))).mono ?_; rintro e w3 ⟨rfl, ⟨⟨cv3, iv3, kv3, p1, p2, p3⟩, p4⟩⟩; have q3 := hid p1; have c3 : Chg (fun _ => False) w w3 := c2.trans p4 (fun i hi e => by rcases e with e | e | e; omega; have := (q2.out.ins.lt i e).1; omega; have := (q2.out.calls.lt i e).1; omega); clear p1 p2 p3 p4) | (go_at_call 23; refine (Hcall.out).mono ?_; rintro e w2 ⟨rfl, ⟨⟨cv2, iv2, kv2, p1, p2, p3⟩, p4⟩⟩; have q2 := hid p1; have c2 : Chg (fun _ => False) w w2 := (chg_alloc w _).trans p4 (fun i hi e => by have := genS_none e; omega); clear p1 p2 p3 p4))
    go_ret
    refine ⟨_, rfl, r1.out, r2, c9.trans r3.out (fun i hi e => ?_)⟩
    rcases e with e | e | e
    · omega
    · have := (q9.out.ins.lt i e).1; omega
    · have := (q9.out.calls.lt i e).1; omega
end Go.Proofs.YtkhicabfmkldpaaDoor
