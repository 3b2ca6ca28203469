/-
  Plain laws of the machine: what it never undoes, how it reads numbers.
-/
import Derived.Test.YtkhicabfmkldpaaDoorLev
set_option linter.unusedSimpArgs false
set_option linter.unusedVariables false
namespace Go.Proofs.YtkhicabfmkldpaaDoor
open Go Go.RowKit

/-- What a later state keeps of an earlier one. -/
structure Later (s s' : St) : Prop where
  left : s'.left ≤ s.left
  notes : s'.notes.length + 3 * s'.left ≤ s.notes.length + 3 * s.left
  tg : s'.tg + s'.left ≤ s.tg + s.left
  tg2 : s.tg ≤ s'.tg
  odd : s'.odd = false → s.odd = false
  viol : s'.viol = false → s.viol = false

theorem Later.refl (s : St) : Later s s := ⟨Nat.le_refl _, Nat.le_refl _, Int.le_refl _, Int.le_refl _, id, id⟩
theorem Later.trans {a b c : St} (h : Later a b) (k : Later b c) : Later a c :=
  ⟨Nat.le_trans k.left h.left, Nat.le_trans k.notes h.notes, Int.le_trans k.tg h.tg, Int.le_trans h.tg2 k.tg2, fun e => h.odd (k.odd e), fun e => h.viol (k.viol e)⟩

theorem Later.stop (s : St) : Later s { s with left := 0 } := ⟨Nat.zero_le _, by simp, by simp <;> omega, Int.le_refl _, id, id⟩

def Keep (s : St) (p : Regs × St) : Prop := p.2.left = s.left ∧ p.2.notes = s.notes ∧ p.2.tg = s.tg ∧ p.2.viol = s.viol ∧ (p.2.odd = false → s.odd = false) ∧ p.2.pc = s.pc
theorem keep_same {s : St} {p : Regs × St} (h1 : p.2.left = s.left) (h2 : p.2.notes = s.notes) (h3 : p.2.tg = s.tg) (h4 : p.2.viol = s.viol) (h5 : p.2.odd = s.odd ∨ p.2.odd = true) (h6 : p.2.pc = s.pc) : Keep s p := by
  refine ⟨h1, h2, h3, h4, fun h => ?_, h6⟩
  rcases h5 with h5 | h5
  · rw [← h5]; exact h
  · rw [h5] at h; cases h

theorem keep_ite {c : Prop} [Decidable c] {s : St} {p q : Regs × St} (hp : Keep s p) (hq : Keep s q) : Keep s (if c then p else q) := by split <;> assumption

theorem rd_left (mx : Nat) (k : Int) (r : Regs) (s : St) : Keep s (rd mx k r s) := by
  have O : ∀ r', Keep s (r', { s with odd := true }) := fun r' => keep_same rfl rfl rfl rfl (.inr rfl) rfl
  have B : ∀ r', Keep s (r', { s with bad := 1 }) := fun r' => keep_same rfl rfl rfl rfl (.inl rfl) rfl
  have T : ∀ r' t, Keep s (r', { s with rest := t }) := fun r' t => keep_same rfl rfl rfl rfl (.inl rfl) rfl
  unfold rd
  refine keep_ite (keep_same rfl rfl rfl rfl (.inl rfl) rfl) (keep_ite ?_ (keep_ite ?_ (keep_ite ?_ (keep_ite ?_ (keep_ite (keep_ite (B r) (T _ _)) (keep_ite (keep_ite (B r) (T _ _)) (keep_ite ?_ (keep_ite (keep_ite (B r) (T _ _)) (O r)))))))))
  · cases s.rest with
    | nil => exact O r
    | cons b t => exact T _ _
  · cases lg mx 0 0 s.rest with
    | ok u t => exact keep_ite (T _ _) (O r)
    | eof =>
      by_cases h : s.rest.length ≤ 5
      · simp only [h, if_true]; exact B r
      · simp only [h, if_false]; exact O r
    | odd => exact O r
  · cases lg mx 0 0 s.rest with
    | ok u t => exact T _ _
    | eof => exact B r
    | odd => exact O r
  · cases lg mx 0 0 s.rest with
    | ok u t => exact T _ _
    | eof => exact B r
    | odd => exact O r
  · cases lg mx 0 0 s.rest with
    | ok u t => exact keep_ite (O r) (keep_ite (B r) (T _ _))
    | eof => exact B r
    | odd => exact O r

theorem st_left (k : Int) (tgt : Int) (r : Regs) (s : St) : (st k tgt r s).left = s.left ∧ (st k tgt r s).notes.length ≤ s.notes.length + 1 ∧ (st k tgt r s).tg = s.tg ∧ (st k tgt r s).viol = s.viol ∧ (st k tgt r s).odd = s.odd ∧ (st k tgt r s).pc = s.pc ∧ (st k tgt r s).rest = s.rest ∧ (st k tgt r s).bad = s.bad := by
  unfold st St.note
  repeat' split
  all_goals simp

theorem simple_left (mx op : Nat) (x tgt : Int) (r : Regs) (s : St) : (simple mx op x tgt r s).2.left = s.left ∧ (simple mx op x tgt r s).2.notes.length ≤ s.notes.length + 1 ∧ (simple mx op x tgt r s).2.tg = s.tg ∧ (simple mx op x tgt r s).2.viol = s.viol ∧ ((simple mx op x tgt r s).2.odd = false → s.odd = false) := by
  unfold simple
  split
  · have h := rd_left mx x r s
    exact ⟨h.1, by rw [h.2.1]; omega, h.2.2.1, h.2.2.2.1, h.2.2.2.2.1⟩
  · have h := st_left x tgt r s
    exact ⟨h.1, h.2.1, h.2.2.1, h.2.2.2.1, fun e => by rw [← h.2.2.2.2.1]; exact e⟩
  all_goals (try split)
  all_goals simp [St.note, St.jump]
  all_goals (intro h _; exact h)

theorem tick_later {s s' : St} (h2 : ¬ s.left ≤ 1) (hl : s'.left = s.tick.left) (hn : s'.notes.length ≤ s.notes.length + 2) (ht : s'.tg ≤ s.tg + 1) (ht2 : s.tg ≤ s'.tg) (ho : s'.odd = false → s.odd = false) (hv : s'.viol = false → s.viol = false) : Later s s' := by
  simp [St.tick] at hl
  exact ⟨by omega, by omega, by omega, ht2, ho, hv⟩

theorem enter_later {s : St} (h2 : ¬ s.left ≤ 1) (nm : ByteArray) (tgt n : Int) (t : ByteArray) : Later s (s.tick.enter nm tgt n t) :=
  tick_later h2 rfl (by simp [St.enter, St.note, St.tick]) (by simp [St.enter, St.tick, St.note] <;> omega) (by simp [St.enter, St.tick, St.note] <;> omega) id id
theorem step_later {s : St} (h2 : ¬ s.left ≤ 1) : Later s s.tick := tick_later h2 rfl (by simp [St.tick]) (by simp [St.tick] <;> omega) (by simp [St.tick]) id id

theorem lev_later (mx : Nat) (ins : List (Nat × Int)) : ∀ (f : Nat) (r : Regs) (tgt outer field : Int) (null kind : Bool) (s : St), Later s (lev mx ins f r tgt outer field null kind s)
  | 0, _, _, _, _, _, _, s => Later.stop s
  | f + 1, r, tgt, outer, field, null, kind, s => by
    unfold lev
    split
    · split
      · exact Later.refl s
      · rename_i op x _
        split
        · exact Later.stop s
        · rename_i h2
          split
          · exact ((enter_later h2 _ _ _ _).trans (lev_later mx ins f _ _ _ _ _ _ _)).trans (lev_later mx ins f _ _ _ _ _ _ _)
          · refine tick_later h2 ?_ ?_ ?_ ?_ ?_ ?_
            all_goals (unfold St.leave; cases null <;> simp [St.note, St.tick])
            all_goals first | omega | (intro h _; exact h)
          · exact (tick_later h2 rfl (by simp [St.tick] <;> omega) (by simp [St.tick] <;> omega) (by simp [St.tick] <;> omega) id id).trans (lev_later mx ins f _ _ _ _ _ _ _)
          · exact ((enter_later h2 _ _ _ _).trans (lev_later mx ins f _ _ _ _ _ _ _)).trans (lev_later mx ins f _ _ _ _ _ _ _)
          · exact ((enter_later h2 _ _ _ _).trans (lev_later mx ins f _ _ _ _ _ _ _)).trans (lev_later mx ins f _ _ _ _ _ _ _)
          · refine Later.trans ?_ (lev_later mx ins f _ _ _ _ _ _ _)
            have h1 : Later s { s.tick with pc := x } := tick_later h2 rfl (by simp [St.tick] <;> omega) (by simp [St.tick] <;> omega) (by simp [St.tick] <;> omega) id id
            have h3 := h1.trans (lev_later mx ins f regs0 tgt outer field false false { s.tick with pc := x })
            exact ⟨h3.left, h3.notes, h3.tg, h3.tg2, h3.odd, h3.viol⟩
          · exact tick_later h2 rfl (by simp [St.tick] <;> omega) (by simp [St.tick] <;> omega) (by simp [St.tick] <;> omega) id id
          · exact tick_later h2 rfl (by simp [St.tick] <;> omega) (by simp [St.tick] <;> omega) (by simp [St.tick] <;> omega) id id
          · exact ((tick_later h2 rfl (by simp [St.tick] <;> omega) (by simp [St.tick] <;> omega) (by simp [St.tick] <;> omega) id id).trans (lev_later mx ins f _ _ _ _ _ _ _)).trans (lev_later mx ins f _ _ _ _ _ _ _)
          · exact tick_later h2 rfl (by simp [St.tick] <;> omega) (by simp [St.tick] <;> omega) (by simp [St.tick] <;> omega) id id
          · have h := simple_left mx op x tgt r s.tick
            exact (tick_later h2 h.1 (by have := h.2.1; simp [St.tick] at this ⊢; omega) (by rw [h.2.2.1]; simp [St.tick]; omega) (by rw [h.2.2.1]; simp [St.tick]) (fun e => h.2.2.2.2 e) (fun e => by rw [h.2.2.2.1] at e; exact e)).trans (lev_later mx ins f _ _ _ _ _ _ _)
    · exact Later.refl s

/-- Where there was an error, nothing more is done. -/
theorem lev_bad {mx : Nat} {ins : List (Nat × Int)} {r : Regs} {tgt outer field : Int} {null kind : Bool} {s : St} (h : s.bad ≠ 0) : ∀ f, f ≠ 0 → lev mx ins f r tgt outer field null kind s = s
  | 0, h0 => absurd rfl h0
  | f + 1, _ => by unfold lev; rw [if_neg (by simp [h])]

theorem lg_ok {mx : Nat} : ∀ {i : Nat} {acc : Int} {l : List UInt8} {u : Int} {r : List UInt8}, lg mx i acc l = .ok u r → vl .u64 i acc l = some (u, r)
  | _, _, [], _, _, h => by simp [lg] at h
  | i, acc, b :: l, u, r, h => by
    unfold lg at h
    unfold vl
    split at h
    · cases h
    · split at h
      · rename_i h1 h2; cases h; rw [if_pos h2]
      · rename_i h1 h2; rw [if_neg h2]; exact lg_ok h

theorem lg_eof {mx : Nat} : ∀ {i : Nat} {acc : Int} {l : List UInt8}, lg mx i acc l = .eof → vl .u64 i acc l = none
  | _, _, [], h => rfl
  | i, acc, b :: l, h => by
    unfold lg at h
    unfold vl
    split at h
    · cases h
    · split at h
      · cases h
      · rename_i h1 h2; rw [if_neg h2]; exact lg_eof h

theorem vl_none {k k' : IntKind} : ∀ {i j : Nat} {acc acc' : Int} {l : List UInt8}, vl k i acc l = none → vl k' j acc' l = none
  | _, _, _, _, [], h => rfl
  | i, j, acc, acc', b :: l, h => by
    unfold vl at h ⊢
    split at h
    · cases h
    · rename_i h2; rw [if_neg h2]; exact vl_none h

theorem two_pow_le {a b : Nat} (h : a ≤ b) : (2 : Int) ^ a ≤ 2 ^ b := by exact_mod_cast Nat.pow_le_pow_right (by decide) h

/-- Seven more bits, while there is room. -/
theorem orS_u64 (acc : Int) (x : UInt8) (i : Nat) (hi : i ≤ 8) (h0 : 0 ≤ acc) (h1 : acc < 2 ^ (7 * i)) : orS .u64 acc x i = acc + (x.toNat : Int) % 128 * 2 ^ (7 * i) := by
  have hm : min (7 * i) 64 = 7 * i := by omega
  have hp : (0 : Int) < 2 ^ (7 * i) := Int.pow_pos (by decide)
  have hx : (x.toNat : Int) % 128 ≤ 127 := by omega
  have hx0 : 0 ≤ (x.toNat : Int) % 128 := by omega
  have hb : (x.toNat : Int) % 128 * 2 ^ (7 * i) ≤ 127 * 2 ^ (7 * i) := Int.mul_le_mul_of_nonneg_right hx (Int.le_of_lt hp)
  have hb0 : 0 ≤ (x.toNat : Int) % 128 * 2 ^ (7 * i) := Int.mul_nonneg hx0 (Int.le_of_lt hp)
  have hq : (2 : Int) ^ (7 * i) ≤ 2 ^ 56 := two_pow_le (by omega)
  unfold orS wrK
  rw [hm]
  show bits .or .u64 acc (IntKind.u64.wrap _) = _
  rw [IntKind.wrap_u64, Int.emod_eq_of_lt hb0 (by omega)]
  exact or_low .u64 64 (by decide) (by intro n h1 h2; rw [IntKind.wrap_u64]; omega) (7 * i) acc _ _ rfl (by omega) h0 h1 hb0 (by omega)

theorem orS_i64 (acc : Int) (x : UInt8) (i : Nat) (hi : i ≤ 7) (h0 : 0 ≤ acc) (h1 : acc < 2 ^ (7 * i)) : orS .i64 acc x i = acc + (x.toNat : Int) % 128 * 2 ^ (7 * i) := by
  have hm : min (7 * i) 64 = 7 * i := by omega
  have hp : (0 : Int) < 2 ^ (7 * i) := Int.pow_pos (by decide)
  have hx : (x.toNat : Int) % 128 ≤ 127 := by omega
  have hx0 : 0 ≤ (x.toNat : Int) % 128 := by omega
  have hb : (x.toNat : Int) % 128 * 2 ^ (7 * i) ≤ 127 * 2 ^ (7 * i) := Int.mul_le_mul_of_nonneg_right hx (Int.le_of_lt hp)
  have hb0 : 0 ≤ (x.toNat : Int) % 128 * 2 ^ (7 * i) := Int.mul_nonneg hx0 (Int.le_of_lt hp)
  have hq : (2 : Int) ^ (7 * i) ≤ 2 ^ 49 := two_pow_le (by omega)
  unfold orS wrK
  rw [hm]
  show bits .or .i64 acc (wrap64 _) = _
  rw [show wrap64 ((x.toNat : Int) % 128 * 2 ^ (7 * i)) = (x.toNat : Int) % 128 * 2 ^ (7 * i) by unfold wrap64; omega]
  exact or_low .i64 63 (by decide) (by intro n h1 h2; rw [IntKind.wrap_i64]; omega) (7 * i) acc _ _ rfl (by omega) h0 h1 hb0 (by omega)

theorem orS_lt (acc : Int) (x : UInt8) (i : Nat) (h1 : acc < 2 ^ (7 * i)) : acc + (x.toNat : Int) % 128 * 2 ^ (7 * i) < 2 ^ (7 * (i + 1)) := by
  have hp : (0 : Int) < 2 ^ (7 * i) := Int.pow_pos (by decide)
  have hx : (x.toNat : Int) % 128 ≤ 127 := by omega
  have hb : (x.toNat : Int) % 128 * 2 ^ (7 * i) ≤ 127 * 2 ^ (7 * i) := Int.mul_le_mul_of_nonneg_right hx (Int.le_of_lt hp)
  have he : (2 : Int) ^ (7 * (i + 1)) = 128 * 2 ^ (7 * i) := by rw [show 7 * (i + 1) = 7 * i + 7 by omega, Int.pow_add]; omega
  omega
theorem orS_nonneg (acc : Int) (x : UInt8) (i : Nat) (h0 : 0 ≤ acc) : 0 ≤ acc + (x.toNat : Int) % 128 * 2 ^ (7 * i) := by
  have hp : (0 : Int) < 2 ^ (7 * i) := Int.pow_pos (by decide)
  have hb0 : 0 ≤ (x.toNat : Int) % 128 * 2 ^ (7 * i) := Int.mul_nonneg (by omega) (Int.le_of_lt hp)
  omega

/-- Of at most five bytes both counts make the same number. -/
theorem vl_int : ∀ {i : Nat} {acc : Int} {l : List UInt8} {u : Int} {r : List UInt8}, vl .u64 i acc l = some (u, r) → i + l.length ≤ 5 + r.length → 0 ≤ acc → acc < 2 ^ (7 * i) → vl .i64 i acc l = some (u, r) ∧ 0 ≤ u ∧ u < 2 ^ 35
  | _, _, [], _, _, h, _, _, _ => by simp [vl] at h
  | i, acc, b :: l, u, r, h, hl, h0, h1 => by
    have hr : r.length ≤ l.length := by
      have h' := h
      unfold vl at h'
      split at h'
      · cases h'; exact Nat.le_refl _
      · exact (by
          have : ∀ {k : IntKind} {i : Nat} {acc : Int} {l : List UInt8} {u : Int} {r : List UInt8}, vl k i acc l = some (u, r) → r.length ≤ l.length := by
            intro k i acc l
            induction l generalizing i acc with
            | nil => intro u r h; simp [vl] at h
            | cons x l ih =>
              intro u r h
              unfold vl at h
              split at h
              · cases h; simp
              · have := ih h; simp; omega
          exact this h')
    have hi : i ≤ 4 := by simp at hl; omega
    have ha := orS_u64 acc b i (by omega) h0 h1
    have hb := orS_i64 acc b i (by omega) h0 h1
    have hlt := orS_lt acc b i h1
    have hnn := orS_nonneg acc b i h0
    have h35 : (2 : Int) ^ (7 * (i + 1)) ≤ 2 ^ 35 := two_pow_le (by omega)
    unfold vl at h ⊢
    split at h
    · rename_i h2
      cases h
      rw [if_pos h2, ha, hb]
      exact ⟨rfl, hnn, by omega⟩
    · rename_i h2
      rw [if_neg h2, hb]
      rw [ha] at h
      exact vl_int h (by simp at hl; omega) hnn hlt
end Go.Proofs.YtkhicabfmkldpaaDoor
