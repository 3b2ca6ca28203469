/-
  Programs whose levels are nested as they must be: a level that nulls its field is left for the field's own level.
  A program that lies within a greater one runs there as it does alone: the plain law.
  The maker of programs, as plain functions; what it makes is nested as it must be.
  Over less data a run notes the same, as far as it goes: the plain law.
  Over less data a run notes the same, as far as it goes: the law of a whole run.
  The programs of the statements as lists; the plain laws of their runs.
-/
import Derived.Test.YtkhicabfmkldpaaDoorLoop0
set_option linter.unusedSimpArgs false
set_option linter.unusedVariables false
namespace Go.Proofs.YtkhicabfmkldpaaDoor
open Go Go.RowKit

/-- What an instruction asks of the stacks of levels: true: a field's; false: a loop's; none: the outermost, or a called part. -/
def opOk (ctx : Nat → List Bool) (p : Nat) (op : Nat) (x : Int) : Prop :=
  match op with
  | 2 => ctx (p + 1) = true :: ctx p
  | 5 => ctx (p + 1) = true :: ctx p
  | 6 => ctx (p + 1) = true :: ctx p
  | 19 => ctx (p + 1) = false :: ctx p
  | 3 => ctx p = true :: ctx (p + 1)
  | 20 => ctx p = false :: ctx (p + 1)
  | 4 => (∃ c, ctx p = true :: c) ∧ ctx (p + 1) = ctx p
  | 8 => 0 ≤ x ∧ ctx x.toNat = [] ∧ ctx (p + 1) = ctx p
  | 9 => ctx p = []
  | 10 => ctx p = []
  | 11 => 0 ≤ x → ctx x.toNat = ctx p
  | 14 => (0 ≤ x → ctx x.toNat = ctx p) ∧ ctx (p + 1) = ctx p
  | _ => ctx (p + 1) = ctx p

/-- A program is nested as it must be. -/
structure Nested (ins : List (Nat × Int)) (ctx : Nat → List Bool) : Prop where
  ops : ∀ (p op : Nat) (x : Int), ins[p]? = some (op, x) → opOk ctx p op x
  past : ∀ p, ins.length ≤ p → ctx p = []

/-- The stack of levels, as the level's own kind has it. -/
def LvOk (kind : Bool) (lv : List Bool) : Prop := if kind then ∃ c, lv = true :: c else lv = [] ∨ ∃ c, lv = false :: c

/-- What is known where a level has been left without an error. -/
def Back (ctx : Nat → List Bool) (lv : List Bool) (s : St) : Prop := s.bad = 0 → s.odd = false → 0 < s.left → 0 ≤ s.pc ∧ ∀ k c, lv = k :: c → ctx s.pc.toNat = c

theorem simple_pc (mx op : Nat) (x tgt : Int) (r : Regs) (s : St) (h : op ≠ 11) (h2 : op ≠ 14) : (simple mx op x tgt r s).2.pc = s.pc := by
  unfold simple
  split
  · exact (rd_left mx x r s).2.2.2.2.2
  · exact (st_left x tgt r s).2.2.2.2.2.1
  all_goals first | rfl | exact absurd rfl h | exact absurd rfl h2

theorem simple_viol (mx op : Nat) (x tgt : Int) (r : Regs) (s : St) : (simple mx op x tgt r s).2.viol = s.viol := (simple_left mx op x tgt r s).2.2.2.1

set_option maxHeartbeats 1000000 in
theorem lev_nested (mx : Nat) (ins : List (Nat × Int)) (ctx : Nat → List Bool) (hN : Nested ins ctx) : ∀ (f : Nat) (r : Regs) (tgt outer field : Int) (null kind : Bool) (s : St),
    LvOk kind (ctx s.pc.toNat) → 0 ≤ s.pc → (null = true → kind = true) → s.viol = false →
    (lev mx ins f r tgt outer field null kind s).viol = false ∧ Back ctx (ctx s.pc.toNat) (lev mx ins f r tgt outer field null kind s)
  | 0, r, tgt, outer, field, null, kind, s, hl, h0, hn, hv => by
    unfold lev
    exact ⟨hv, fun _ _ h => absurd h (Nat.lt_irrefl 0)⟩
  | f + 1, r, tgt, outer, field, null, kind, s, hl, h0, hn, hv => by
    obtain ⟨lv, hlv⟩ : ∃ lv, ctx s.pc.toNat = lv := ⟨_, rfl⟩
    rw [hlv] at hl ⊢
    have again : ∀ (r' : Regs) (null' : Bool) (s1 : St), s1.viol = false → (s1.bad = 0 → s1.odd = false → 0 < s1.left → 0 ≤ s1.pc ∧ ctx s1.pc.toNat = lv) → (null' = true → kind = true) →
        (lev mx ins f r' tgt outer field null' kind s1).viol = false ∧ Back ctx lv (lev mx ins f r' tgt outer field null' kind s1) := by
      intro r' null' s1 hv1 hc hn1
      by_cases hg : s1.bad = 0 ∧ s1.odd = false ∧ 0 < s1.left
      · obtain ⟨h1, h2⟩ := hc hg.1 hg.2.1 hg.2.2
        have := lev_nested mx ins ctx hN f r' tgt outer field null' kind s1 (h2 ▸ hl) h1 hn1 hv1
        rw [h2] at this
        exact this
      · have hlat := lev_later mx ins f r' tgt outer field null' kind s1
        cases f with
        | zero => unfold lev; exact ⟨hv1, fun _ _ h => absurd h (Nat.lt_irrefl 0)⟩
        | succ f =>
          by_cases hb : s1.bad = 0 ∧ s1.odd = false
          · have hl0 : s1.left = 0 := by
              rcases Nat.eq_zero_or_pos s1.left with h | h
              · exact h
              · exact absurd ⟨hb.1, hb.2, h⟩ hg
            unfold lev
            rw [if_pos hb]
            cases fetch ins s1.pc with
            | none => exact ⟨hv1, fun _ _ (h : 0 < s1.left) => absurd h (by omega)⟩
            | some ox =>
              obtain ⟨op, x⟩ := ox
              show (if s1.left ≤ 1 then _ else _ : St).viol = false ∧ Back ctx lv (if s1.left ≤ 1 then _ else _)
              rw [if_pos (by omega)]
              exact ⟨hv1, fun _ _ h => absurd h (Nat.lt_irrefl 0)⟩
          · unfold lev
            rw [if_neg hb]
            exact ⟨hv1, fun h1 h2 _ => absurd ⟨h1, h2⟩ hb⟩
    by_cases hb : s.bad = 0 ∧ s.odd = false
    · cases hfe : fetch ins s.pc with
      | none =>
        rw [lev_none hb.1 hb.2 hfe]
        refine ⟨hv, fun _ _ _ => ⟨h0, fun k c hk => ?_⟩⟩
        unfold fetch at hfe
        rw [if_pos h0] at hfe
        have h1 := hN.past s.pc.toNat (List.getElem?_eq_none_iff.1 hfe)
        rw [hlv, hk] at h1
        cases h1
      | some ox =>
        obtain ⟨op, x⟩ := ox
        by_cases hl1 : s.left ≤ 1
        · have h2 : lev mx ins (f + 1) r tgt outer field null kind s = { s with left := 0 } := by
            unfold lev
            rw [if_pos hb, hfe]
            show (if s.left ≤ 1 then _ else _) = _
            rw [if_pos hl1]
          rw [h2]
          exact ⟨hv, fun _ _ h => absurd h (Nat.lt_irrefl 0)⟩
        · have hop : ins[s.pc.toNat]? = some (op, x) := by
            unfold fetch at hfe
            rw [if_pos h0] at hfe
            exact hfe
          have hok := hN.ops _ op x hop
          have hp1 : (s.pc + 1).toNat = s.pc.toNat + 1 := by omega
          have hs := lev_step (mx := mx) (f := f) (r := r) (tgt := tgt) (outer := outer) (field := field) (null := null) (kind := kind) hb.1 hb.2 hfe hl1
          rw [hs]
          clear hs hop hfe
          unfold opOk at hok
          rw [hlv] at hok
          have hs := True.intro
          revert hok hs
          match op with
          | 2 =>
            intro hok hs
            have hk : ctx (s.tick.enter nmGet tgt x ⟨#[]⟩).pc.toNat = true :: lv := by show ctx (s.pc + 1).toNat = _; rw [hp1]; exact hok
            have h1 := lev_nested mx ins ctx hN f regs0 (s.tg + 1) tgt x false true (s.tick.enter nmGet tgt x ⟨#[]⟩) (by rw [hk]; exact ⟨lv, rfl⟩) (by show 0 ≤ s.pc + 1; omega) (fun h => by cases h) hv
            rw [hk] at h1
            exact again r null _ h1.1 (fun a b c => ⟨(h1.2 a b c).1, (h1.2 a b c).2 true lv rfl⟩) hn
          | 3 =>
            intro hok hs
            have hkind : kind = true := by
              cases kind with
              | true => rfl
              | false =>
                rcases hl with h | ⟨c, h⟩
                · rw [h] at hok; cases hok
                · rw [h] at hok; cases hok
            refine ⟨?_, fun _ _ _ => ⟨?_, ?_⟩⟩
            · show (s.tick.leave tgt outer field null kind).viol = false
              unfold St.leave
              cases null with
              | false => exact hv
              | true => show (s.viol || !kind) = false; rw [hv, hkind]; rfl
            · show 0 ≤ (s.tick.leave tgt outer field null kind).pc
              unfold St.leave
              cases null <;> (show 0 ≤ s.pc + 1; omega)
            · intro k c hk
              have hpc : (s.tick.leave tgt outer field null kind).pc = s.pc + 1 := by unfold St.leave; cases null <;> rfl
              show ctx (s.tick.leave tgt outer field null kind).pc.toNat = c
              rw [hpc, hp1]
              rw [hok] at hk
              exact (List.cons.inj hk).2
          | 4 =>
            intro hok hs
            obtain ⟨⟨c, hc⟩, hok⟩ := hok
            have hkind : kind = true := by
              cases kind with
              | true => rfl
              | false =>
                rcases hl with h | ⟨c', h⟩
                · rw [h] at hc; cases hc
                · rw [h] at hc; cases hc
            exact again r true s.tick hv (fun _ _ _ => ⟨by show 0 ≤ s.pc + 1; omega, by show ctx (s.pc + 1).toNat = lv; rw [hp1]; exact hok⟩) (fun _ => hkind)
          | 5 =>
            intro hok hs
            have hk : ctx (s.tick.enter nmAppendArray tgt 0 ⟨#[]⟩).pc.toNat = true :: lv := by show ctx (s.pc + 1).toNat = _; rw [hp1]; exact hok
            have h1 := lev_nested mx ins ctx hN f regs0 (s.tg + 1) tgt (-1) false true (s.tick.enter nmAppendArray tgt 0 ⟨#[]⟩) (by rw [hk]; exact ⟨lv, rfl⟩) (by show 0 ≤ s.pc + 1; omega) (fun h => by cases h) hv
            rw [hk] at h1
            exact again r null _ h1.1 (fun a b c => ⟨(h1.2 a b c).1, (h1.2 a b c).2 true lv rfl⟩) hn
          | 6 =>
            intro hok hs
            have hk : ctx (s.tick.enter nmAppendMap tgt 0 (strOf r.text)).pc.toNat = true :: lv := by show ctx (s.pc + 1).toNat = _; rw [hp1]; exact hok
            have h1 := lev_nested mx ins ctx hN f regs0 (s.tg + 1) tgt (-1) false true (s.tick.enter nmAppendMap tgt 0 (strOf r.text)) (by rw [hk]; exact ⟨lv, rfl⟩) (by show 0 ≤ s.pc + 1; omega) (fun h => by cases h) hv
            rw [hk] at h1
            exact again r null _ h1.1 (fun a b c => ⟨(h1.2 a b c).1, (h1.2 a b c).2 true lv rfl⟩) hn
          | 8 =>
            intro hok hs
            obtain ⟨hx, hcx, hok⟩ := hok
            have h1 := lev_nested mx ins ctx hN f regs0 tgt outer field false false { s.tick with pc := x } (by show LvOk false (ctx x.toNat); rw [hcx]; exact .inl rfl) hx (fun h => by cases h) hv
            exact again r null _ h1.1 (fun _ _ _ => ⟨by show 0 ≤ s.pc + 1; omega, by show ctx (s.pc + 1).toNat = lv; rw [hp1]; exact hok⟩) hn
          | 9 =>
            intro hok hs
            exact ⟨hv, fun _ _ _ => ⟨by show 0 ≤ s.pc + 1; omega, fun k c hk => by rw [hok] at hk; cases hk⟩⟩
          | 10 =>
            intro hok hs
            exact ⟨hv, fun _ _ _ => ⟨by show 0 ≤ s.pc + 1; omega, fun k c hk => by rw [hok] at hk; cases hk⟩⟩
          | 11 =>
            intro hok hs
            refine again r null (s.tick.jump x) hv (fun _ ho _ => ?_) hn
            have hx : 0 ≤ x := by
              have h : (s.odd || decide (x < 0)) = false := ho
              simp at h
              exact h.2
            exact ⟨hx, hok hx⟩
          | 14 =>
            intro hok hs
            have h2 : ∀ s1, s1 = (if r.cond then s.tick.jump x else s.tick) → (lev mx ins f r tgt outer field null kind s1).viol = false ∧ Back ctx lv (lev mx ins f r tgt outer field null kind s1) := by
              intro s1 h1
              cases hc : r.cond with
              | true =>
                rw [hc] at h1
                subst h1
                refine again r null (s.tick.jump x) hv (fun _ ho _ => ?_) hn
                have hx : 0 ≤ x := by
                  have h : (s.odd || decide (x < 0)) = false := ho
                  simp at h
                  exact h.2
                exact ⟨hx, hok.1 hx⟩
              | false =>
                rw [hc] at h1
                subst h1
                exact again r null s.tick hv (fun _ _ _ => ⟨by show 0 ≤ s.pc + 1; omega, by show ctx (s.pc + 1).toNat = lv; rw [hp1]; exact hok.2⟩) hn
            exact h2 _ rfl
          | 19 =>
            intro hok hs
            have hk : ctx s.tick.pc.toNat = false :: lv := by show ctx (s.pc + 1).toNat = _; rw [hp1]; exact hok
            have h1 := lev_nested mx ins ctx hN f regs0 tgt outer field false false s.tick (by rw [hk]; exact .inr ⟨lv, rfl⟩) (by show 0 ≤ s.pc + 1; omega) (fun h => by cases h) hv
            rw [hk] at h1
            exact again r null _ h1.1 (fun a b c => ⟨(h1.2 a b c).1, (h1.2 a b c).2 false lv rfl⟩) hn
          | 20 =>
            intro hok hs
            exact ⟨hv, fun _ _ _ => ⟨by show 0 ≤ s.pc + 1; omega, fun k c hk => by show ctx (s.pc + 1).toNat = c; rw [hp1]; rw [hok] at hk; exact (List.cons.inj hk).2⟩⟩
          | 0 =>
            intro hok hs
            exact again _ null _ ((simple_viol mx 0 x tgt r s.tick).trans hv) (fun _ _ _ => by rw [simple_pc mx 0 x tgt r s.tick (by decide) (by decide)]; exact ⟨by show 0 ≤ s.pc + 1; omega, by show ctx (s.pc + 1).toNat = lv; rw [hp1]; exact hok⟩) hn
          | 1 =>
            intro hok hs
            exact again _ null _ ((simple_viol mx 1 x tgt r s.tick).trans hv) (fun _ _ _ => by rw [simple_pc mx 1 x tgt r s.tick (by decide) (by decide)]; exact ⟨by show 0 ≤ s.pc + 1; omega, by show ctx (s.pc + 1).toNat = lv; rw [hp1]; exact hok⟩) hn
          | 7 =>
            intro hok hs
            exact again _ null _ ((simple_viol mx 7 x tgt r s.tick).trans hv) (fun _ _ _ => by rw [simple_pc mx 7 x tgt r s.tick (by decide) (by decide)]; exact ⟨by show 0 ≤ s.pc + 1; omega, by show ctx (s.pc + 1).toNat = lv; rw [hp1]; exact hok⟩) hn
          | 12 =>
            intro hok hs
            exact again _ null _ ((simple_viol mx 12 x tgt r s.tick).trans hv) (fun _ _ _ => by rw [simple_pc mx 12 x tgt r s.tick (by decide) (by decide)]; exact ⟨by show 0 ≤ s.pc + 1; omega, by show ctx (s.pc + 1).toNat = lv; rw [hp1]; exact hok⟩) hn
          | 13 =>
            intro hok hs
            exact again _ null _ ((simple_viol mx 13 x tgt r s.tick).trans hv) (fun _ _ _ => by rw [simple_pc mx 13 x tgt r s.tick (by decide) (by decide)]; exact ⟨by show 0 ≤ s.pc + 1; omega, by show ctx (s.pc + 1).toNat = lv; rw [hp1]; exact hok⟩) hn
          | 15 =>
            intro hok hs
            exact again _ null _ ((simple_viol mx 15 x tgt r s.tick).trans hv) (fun _ _ _ => by rw [simple_pc mx 15 x tgt r s.tick (by decide) (by decide)]; exact ⟨by show 0 ≤ s.pc + 1; omega, by show ctx (s.pc + 1).toNat = lv; rw [hp1]; exact hok⟩) hn
          | 16 =>
            intro hok hs
            exact again _ null _ ((simple_viol mx 16 x tgt r s.tick).trans hv) (fun _ _ _ => by rw [simple_pc mx 16 x tgt r s.tick (by decide) (by decide)]; exact ⟨by show 0 ≤ s.pc + 1; omega, by show ctx (s.pc + 1).toNat = lv; rw [hp1]; exact hok⟩) hn
          | 17 =>
            intro hok hs
            exact again _ null _ ((simple_viol mx 17 x tgt r s.tick).trans hv) (fun _ _ _ => by rw [simple_pc mx 17 x tgt r s.tick (by decide) (by decide)]; exact ⟨by show 0 ≤ s.pc + 1; omega, by show ctx (s.pc + 1).toNat = lv; rw [hp1]; exact hok⟩) hn
          | 18 =>
            intro hok hs
            exact again _ null _ ((simple_viol mx 18 x tgt r s.tick).trans hv) (fun _ _ _ => by rw [simple_pc mx 18 x tgt r s.tick (by decide) (by decide)]; exact ⟨by show 0 ≤ s.pc + 1; omega, by show ctx (s.pc + 1).toNat = lv; rw [hp1]; exact hok⟩) hn
          | 21 =>
            intro hok hs
            exact again _ null _ ((simple_viol mx 21 x tgt r s.tick).trans hv) (fun _ _ _ => by rw [simple_pc mx 21 x tgt r s.tick (by decide) (by decide)]; exact ⟨by show 0 ≤ s.pc + 1; omega, by show ctx (s.pc + 1).toNat = lv; rw [hp1]; exact hok⟩) hn
          | 22 =>
            intro hok hs
            exact again _ null _ ((simple_viol mx 22 x tgt r s.tick).trans hv) (fun _ _ _ => by rw [simple_pc mx 22 x tgt r s.tick (by decide) (by decide)]; exact ⟨by show 0 ≤ s.pc + 1; omega, by show ctx (s.pc + 1).toNat = lv; rw [hp1]; exact hok⟩) hn
          | n + 23 =>
            intro hok hs
            exact again _ null _ hv (fun h _ _ => absurd h (by show ¬ 2 = 0; decide)) hn
    · have h2 : lev mx ins (f + 1) r tgt outer field null kind s = s := by unfold lev; rw [if_neg hb]
      rw [h2]
      exact ⟨hv, fun h1 h2 _ => absurd ⟨h1, h2⟩ hb⟩
end Go.Proofs.YtkhicabfmkldpaaDoor

namespace Go.Proofs.YtkhicabfmkldpaaDoor
open Go Go.RowKit

/-- A target's number, further on; the first one stays. -/
def sh (t x : Int) : Int := if 0 < x then x + t else x
def Note.shift (t : Int) (n : Note) : Note := { n with tg := sh t n.tg }

/-- A state of the greater run that is like one of the run alone. -/
def re (n : Nat) (N : List Note) (t : Int) (m : Nat) (s : St) : St := { s with pc := s.pc + n, notes := N ++ s.notes.map (Note.shift t), tg := s.tg + t, left := m }

theorem re_ite {n : Nat} {N : List Note} {t : Int} {m : Nat} {c : Prop} [Decidable c] {p q p' q' : Regs × St} (h1 : p' = (p.1, re n N t m p.2)) (h2 : q' = (q.1, re n N t m q.2)) :
    (if c then p' else q') = ((if c then p else q).1, re n N t m (if c then p else q).2) := by
  by_cases h : c
  · simp only [h, if_true]; exact h1
  · simp only [h, if_false]; exact h2

theorem rd_re (n : Nat) (N : List Note) (t : Int) (m mx : Nat) (k : Int) (r : Regs) (s : St) : rd mx k r (re n N t m s) = ((rd mx k r s).1, re n N t m (rd mx k r s).2) := by
  unfold rd
  refine re_ite rfl (re_ite ?_ (re_ite ?_ (re_ite ?_ (re_ite ?_ (re_ite (re_ite rfl rfl) (re_ite (re_ite rfl rfl) (re_ite ?_ (re_ite (re_ite rfl rfl) rfl))))))))
  · have h : ∀ l : List UInt8, (match l with | [] => (r, { re n N t m s with odd := true }) | b :: t' => ({ r with truth := (b.toNat : Int) == 1 }, { re n N t m s with rest := t' }) : Regs × St) =
        ((match l with | [] => (r, { s with odd := true }) | b :: t' => ({ r with truth := (b.toNat : Int) == 1 }, { s with rest := t' }) : Regs × St).1, re n N t m (match l with | [] => (r, { s with odd := true }) | b :: t' => ({ r with truth := (b.toNat : Int) == 1 }, { s with rest := t' }) : Regs × St).2) := by
      intro l
      cases l <;> rfl
    exact h s.rest
  · show (match lg mx 0 0 s.rest with | .ok u t => _ | .eof => _ | .odd => _) = _
    cases lg mx 0 0 s.rest with
    | ok u t => exact re_ite rfl rfl
    | eof =>
      show (r, (if s.rest.length ≤ 5 then { re n N t m s with bad := 1 } else { re n N t m s with odd := true } : St)) = (r, re n N t m (if s.rest.length ≤ 5 then { s with bad := 1 } else { s with odd := true }))
      split <;> rfl
    | odd => rfl
  · show (match lg mx 0 0 s.rest with | .ok u t => _ | .eof => _ | .odd => _) = _
    cases lg mx 0 0 s.rest <;> rfl
  · show (match lg mx 0 0 s.rest with | .ok u t => _ | .eof => _ | .odd => _) = _
    cases lg mx 0 0 s.rest <;> rfl
  · show (match lg mx 0 0 s.rest with | .ok u t => _ | .eof => _ | .odd => _) = _
    cases lg mx 0 0 s.rest with
    | ok u t => exact re_ite rfl (re_ite rfl rfl)
    | eof => rfl
    | odd => rfl

theorem note_re (n : Nat) (N : List Note) (t : Int) (m : Nat) (s : St) (nm : ByteArray) (tgt x : Int) (tx : ByteArray) : (re n N t m s).note nm (sh t tgt) x tx = re n N t m (s.note nm tgt x tx) := by
  unfold St.note re
  simp [Note.shift]

theorem st_re (n : Nat) (N : List Note) (t : Int) (m : Nat) (k tgt : Int) (r : Regs) (s : St) : st k (sh t tgt) r (re n N t m s) = re n N t m (st k tgt r s) := by
  unfold st
  by_cases h2 : k = 2
  · simp only [h2, if_true]; exact note_re ..
  by_cases h3 : k = 3
  · simp only [h3, if_true]; exact note_re ..
  by_cases h4 : k = 4
  · simp only [h4, if_true]; exact note_re ..
  by_cases h5 : k = 5
  · simp only [h5, if_true]; exact note_re ..
  by_cases h6 : k = 6
  · simp only [h6, if_true]; exact note_re ..
  by_cases h7 : k = 7
  · simp only [h7, if_true]; exact note_re ..
  by_cases h8 : k = 8
  · simp only [h8, if_true]; exact note_re ..
  simp only [h2, h3, h4, h5, h6, h7, h8, if_false]

theorem simple_re (n : Nat) (N : List Note) (t : Int) (m mx op : Nat) (x tgt : Int) (r : Regs) (s : St) (h1 : op ≠ 11) (h2 : op ≠ 14) : simple mx op x (sh t tgt) r (re n N t m s) = ((simple mx op x tgt r s).1, re n N t m (simple mx op x tgt r s).2) := by
  unfold simple
  split
  · exact rd_re ..
  · rw [st_re]
  · rw [note_re]
  · exact absurd rfl h1
  · rfl
  · rfl
  · exact absurd rfl h2
  · rfl
  · rfl
  · rfl
  · rfl
  · rw [note_re]
  · rw [note_re]
  · rfl

/-- A program that ends behind its last instruction alone, and jumps within itself. -/
structure Tight (l : List (Nat × Int)) (ctx : Nat → List Bool) : Prop where
  nested : Nested l ctx
  noEnd : ∀ (p op : Nat) (x : Int), l[p]? = some (op, x) → op ≠ 8 ∧ op ≠ 9 ∧ op ≠ 10
  jump : ∀ (p op : Nat) (x : Int), l[p]? = some (op, x) → op = 11 ∨ op = 14 → 0 ≤ x ∧ x ≤ l.length

/-- A program lies within a greater one. -/
def Lies (n : Nat) (l L : List (Nat × Int)) : Prop := ∀ (p op : Nat) (x : Int), l[p]? = some (op, x) → L[n + p]? = some (op, if op = 11 ∨ op = 14 then x + n else x)

/-- How the two runs end. -/
structure Ends (n : Nat) (N : List Note) (t : Int) (d : Nat) (mx : Nat) (l L : List (Nat × Int)) (lv : List Bool) (tgt outer field : Int) (kind : Bool) (y X : St) : Prop where
  odd : y.odd = false
  tg : 0 ≤ y.tg
  ge : d < y.left
  pc : y.bad = 0 → 0 ≤ y.pc ∧ y.pc ≤ l.length
  pos : lv ≠ [] → y.bad = 0 → 1 ≤ y.pc
  deep : lv ≠ [] → X = re n N t (y.left - d) y
  top : lv = [] → ∃ (F' : Nat) (r' : Regs) (null' : Bool), X = lev mx L F' r' (sh t tgt) (sh t outer) field null' kind (re n N t (y.left - d) y) ∧ y.left - d ≤ F' ∧ (y.bad = 0 → y.pc = l.length) ∧ (null' = true → kind = true)

theorem sim_end {n : Nat} {N : List Note} {t : Int} {d mx : Nat} {l L : List (Nat × Int)} {lv : List Bool} {tgt outer field : Int} {null kind : Bool} {f F : Nat} {r r2 : Regs} {s : St}
    (hn : null = true → kind = true) (hb : s.bad ≠ 0) (ho : s.odd = false) (htg : 0 ≤ s.tg) (hd : d < s.left) (hf : s.left ≤ f) (hF : s.left - d ≤ F) :
    Ends n N t d mx l L lv tgt outer field kind (lev mx l f r tgt outer field null kind s) (lev mx L F r2 (sh t tgt) (sh t outer) field null kind (re n N t (s.left - d) s)) := by
  rw [lev_bad hb f (by omega), lev_bad (s := re n N t (s.left - d) s) hb F (by omega)]
  refine ⟨ho, htg, hd, fun h => absurd h hb, fun _ h => absurd h hb, fun _ => rfl, fun _ => ⟨F, r2, null, ?_, hF, fun h => absurd h hb, hn⟩⟩
  rw [lev_bad (s := re n N t (s.left - d) s) hb F (by omega)]

theorem tick_re {n : Nat} {N : List Note} {t : Int} {m : Nat} {s : St} : (re n N t m s).tick = re n N t (m - 1) s.tick := by
  unfold St.tick re
  simp
  omega

theorem enter_re {n : Nat} {N : List Note} {t : Int} {m : Nat} {s : St} (nm : ByteArray) (tgt x : Int) (tx : ByteArray) : (re n N t m s).enter nm (sh t tgt) x tx = re n N t m (s.enter nm tgt x tx) := by
  unfold St.enter
  rw [note_re]
  unfold re
  simp [St.note]
  omega

set_option maxHeartbeats 1000000 in
theorem sim (n : Nat) (N : List Note) (t : Int) (ht : 0 ≤ t) (d mx : Nat) (l L : List (Nat × Int)) (ctx : Nat → List Bool) (hT : Tight l ctx) (hL : Lies n l L) : ∀ (f F : Nat) (r : Regs) (tgt outer field : Int) (null kind : Bool) (s : St),
    LvOk kind (ctx s.pc.toNat) → 0 ≤ s.pc → s.pc ≤ l.length → (null = true → kind = true) → s.viol = false → 0 ≤ s.tg → s.left ≤ f → s.left - d ≤ F →
    (lev mx L F r (sh t tgt) (sh t outer) field null kind (re n N t (s.left - d) s)).odd = false → 0 < (lev mx L F r (sh t tgt) (sh t outer) field null kind (re n N t (s.left - d) s)).left →
    Ends n N t d mx l L (ctx s.pc.toNat) tgt outer field kind (lev mx l f r tgt outer field null kind s) (lev mx L F r (sh t tgt) (sh t outer) field null kind (re n N t (s.left - d) s))
  | 0, F, r, tgt, outer, field, null, kind, s, hl, h0, hle, hn, hv, htg, hf, hF, hxo, hxl => by
    have h1 := (lev_later mx L F r (sh t tgt) (sh t outer) field null kind (re n N t (s.left - d) s)).left
    have h2 : (re n N t (s.left - d) s).left = s.left - d := rfl
    omega
  | f + 1, F, r, tgt, outer, field, null, kind, s, hl, h0, hle, hn, hv, htg, hf, hF, hxo, hxl => by
    have hlat := lev_later mx L F r (sh t tgt) (sh t outer) field null kind (re n N t (s.left - d) s)
    have h1 := hlat.left
    have h2 : (re n N t (s.left - d) s).left = s.left - d := rfl
    have ho : s.odd = false := hlat.odd hxo
    have hdl : d < s.left := by omega
    by_cases hb : s.bad = 0
    · obtain ⟨F, rfl⟩ : ∃ F', F = F' + 1 := ⟨F - 1, by omega⟩
      clear hlat h1
      obtain ⟨lv, hlv⟩ : ∃ lv, ctx s.pc.toNat = lv := ⟨_, rfl⟩
      rw [hlv] at hl ⊢
      cases hfe : fetch l s.pc with
      | none =>
        have hfe' := hfe
        unfold fetch at hfe'
        rw [if_pos h0] at hfe'
        have h3 := List.getElem?_eq_none_iff.1 hfe'
        have h4 := hT.nested.past s.pc.toNat h3
        rw [hlv] at h4
        rw [lev_none hb ho hfe]
        exact ⟨ho, htg, hdl, fun _ => ⟨h0, hle⟩, fun h => absurd h4 h, fun h => absurd h4 h, fun _ => ⟨F + 1, r, null, rfl, hF, fun _ => by omega, hn⟩⟩
      | some ox =>
        obtain ⟨op, x⟩ := ox
        have hop : l[s.pc.toNat]? = some (op, x) := by
          unfold fetch at hfe
          rw [if_pos h0] at hfe
          exact hfe
        have hlt : s.pc.toNat < l.length := (List.getElem?_eq_some_iff.1 hop).1
        have hfe2 : fetch L (re n N t (s.left - d) s).pc = some (op, if op = 11 ∨ op = 14 then x + n else x) := by
          show fetch L (s.pc + n) = _
          unfold fetch
          rw [if_pos (by omega), show (s.pc + n).toNat = n + s.pc.toNat by omega]
          exact hL _ _ _ hop
        have hne := hT.noEnd _ op x hop
        have hjp := hT.jump _ op x hop
        have hok := hT.nested.ops _ op x hop
        have hp1 : (s.pc + 1).toNat = s.pc.toNat + 1 := by omega
        by_cases hl1 : s.left - d ≤ 1
        · have := lev_stop (mx := mx) (f := F) (r := r) (tgt := sh t tgt) (outer := sh t outer) (field := field) (null := null) (kind := kind) (s := re n N t (s.left - d) s) hb ho hfe2 hl1
          omega
        · have hs := lev_step (mx := mx) (f := f) (r := r) (tgt := tgt) (outer := outer) (field := field) (null := null) (kind := kind) hb ho hfe (by omega)
          have hS := lev_step (mx := mx) (f := F) (r := r) (tgt := sh t tgt) (outer := sh t outer) (field := field) (null := null) (kind := kind) (s := re n N t (s.left - d) s) hb ho hfe2 hl1
          rw [hS] at hxo hxl
          rw [hs, hS]
          clear hs hS hop hfe hfe2
          unfold opOk at hok
          rw [hlv] at hok
          have htk : (re n N t (s.left - d) s).tick = re n N t (s.tick.left - d) s.tick := by
            rw [tick_re]; show re n N t (s.left - d - 1) s.tick = re n N t (s.left - 1 - d) s.tick; congr 1; omega
          have htl : s.tick.left = s.left - 1 := rfl
          have again : ∀ (r' : Regs) (null' : Bool) (s1 : St), s1.viol = false → (s1.bad = 0 → s1.odd = false → 0 < s1.left → 0 ≤ s1.pc ∧ s1.pc ≤ l.length ∧ ctx s1.pc.toNat = lv) → (null' = true → kind = true) → 0 ≤ s1.tg → s1.left ≤ f →
              (s1.left - d ≤ F) → (lev mx L F r' (sh t tgt) (sh t outer) field null' kind (re n N t (s1.left - d) s1)).odd = false → 0 < (lev mx L F r' (sh t tgt) (sh t outer) field null' kind (re n N t (s1.left - d) s1)).left →
              Ends n N t d mx l L lv tgt outer field kind (lev mx l f r' tgt outer field null' kind s1) (lev mx L F r' (sh t tgt) (sh t outer) field null' kind (re n N t (s1.left - d) s1)) := by
            intro r' null' s1 hv1 hc hn1 htg1 hf1 hF1 hxo1 hxl1
            have hlat := lev_later mx L F r' (sh t tgt) (sh t outer) field null' kind (re n N t (s1.left - d) s1)
            have h1 := hlat.left
            have h2 : (re n N t (s1.left - d) s1).left = s1.left - d := rfl
            have ho1 : s1.odd = false := hlat.odd hxo1
            by_cases hb1 : s1.bad = 0
            · obtain ⟨hc0, hc1, hc2⟩ := hc hb1 ho1 (by omega)
              have := sim n N t ht d mx l L ctx hT hL f F r' tgt outer field null' kind s1 (by rw [hc2]; exact hl) hc0 hc1 hn1 hv1 htg1 hf1 hF1 hxo1 hxl1
              rw [hc2] at this
              exact this
            · exact sim_end hn1 hb1 ho1 htg1 (by omega) hf1 hF1
          -- a level within
          have within : ∀ (tgt' outer' field' : Int) (kind' k : Bool) (s1 : St), ctx s1.pc.toNat = k :: lv → LvOk kind' (k :: lv) → 0 ≤ s1.pc → s1.pc ≤ l.length → s1.viol = false → 0 ≤ s1.tg → s1.left ≤ f → s1.left - d ≤ F →
              (lev mx L F r (sh t tgt) (sh t outer) field null kind (lev mx L F regs0 (sh t tgt') (sh t outer') field' false kind' (re n N t (s1.left - d) s1))).odd = false →
              0 < (lev mx L F r (sh t tgt) (sh t outer) field null kind (lev mx L F regs0 (sh t tgt') (sh t outer') field' false kind' (re n N t (s1.left - d) s1))).left →
              Ends n N t d mx l L lv tgt outer field kind (lev mx l f r tgt outer field null kind (lev mx l f regs0 tgt' outer' field' false kind' s1)) (lev mx L F r (sh t tgt) (sh t outer) field null kind (lev mx L F regs0 (sh t tgt') (sh t outer') field' false kind' (re n N t (s1.left - d) s1))) := by
            intro tgt' outer' field' kind' k s1 hc1 hl1 hp0 hp1 hv1 htg1 hf1 hF1 hxo1 hxl1
            have hlat := lev_later mx L F r (sh t tgt) (sh t outer) field null kind (lev mx L F regs0 (sh t tgt') (sh t outer') field' false kind' (re n N t (s1.left - d) s1))
            have hlat1 := hlat.left
            have hN := lev_nested mx l ctx hT.nested f regs0 tgt' outer' field' false kind' s1 (by rw [hc1]; exact hl1) hp0 (fun h => by cases h) hv1
            have hE := sim n N t ht d mx l L ctx hT hL f F regs0 tgt' outer' field' false kind' s1 (by rw [hc1]; exact hl1) hp0 hp1 (fun h => by cases h) hv1 htg1 hf1 hF1 (hlat.odd hxo1) (by omega)
            rw [hc1] at hE hN
            have hX := hE.deep (by simp)
            rw [hX] at hxo1 hxl1 ⊢
            have hyl := (lev_later mx l f regs0 tgt' outer' field' false kind' s1).left
            refine again r null _ hN.1 (fun a b c => ?_) hn hE.tg (by omega) (by omega) hxo1 hxl1
            exact ⟨(hE.pc a).1, (hE.pc a).2, (hN.2 a b c).2 k lv rfl⟩
          have hp2 : 0 ≤ s.pc + 1 ∧ s.pc + 1 ≤ l.length := by omega
          revert hxl
          revert hxo
          revert hok
          revert hjp
          revert hne
          match op with
          | 2 =>
            intro hne hjp hok hxo hxl
            simp only [show ¬ ((2 : Nat) = 11 ∨ (2 : Nat) = 14) by decide, if_false] at hxo hxl ⊢
            rw [htk, enter_re, show (re n N t (s.left - d) s).tg + 1 = sh t (s.tg + 1) by unfold sh re; rw [if_pos (by omega)]; show s.tg + t + 1 = _; omega] at hxo hxl ⊢
            exact within (s.tg + 1) tgt x true true (s.tick.enter nmGet tgt x ⟨#[]⟩) (by show ctx (s.pc + 1).toNat = _; rw [hp1]; exact hok) ⟨lv, rfl⟩ hp2.1 hp2.2 hv (by show 0 ≤ s.tg + 1; omega) (by show s.left - 1 ≤ f; omega) (by show s.left - 1 - d ≤ F; omega) hxo hxl
          | 3 =>
            intro hne hjp hok hxo hxl
            simp only [show ¬ ((3 : Nat) = 11 ∨ (3 : Nat) = 14) by decide, if_false] at hxo hxl ⊢
            have hlve : (re n N t (s.left - d) s).tick.leave (sh t tgt) (sh t outer) field null kind = re n N t (s.tick.left - d) (s.tick.leave tgt outer field null kind) := by
              rw [htk]
              unfold St.leave
              cases null with
              | false => exact note_re ..
              | true =>
                show ({ ((re n N t (s.tick.left - d) s.tick).note nmFinalize (sh t tgt) 0 ⟨#[]⟩).note nmNullField (sh t outer) field ⟨#[]⟩ with viol := _ } : St) = _
                rw [note_re, note_re]
                rfl
            have hll : (s.tick.leave tgt outer field null kind).left = s.left - 1 := by unfold St.leave; cases null <;> rfl
            have hpc : (s.tick.leave tgt outer field null kind).pc = s.pc + 1 := by unfold St.leave; cases null <;> rfl
            have hto : (s.tick.leave tgt outer field null kind).odd = false := by unfold St.leave; cases null <;> exact ho
            have htt : (s.tick.leave tgt outer field null kind).tg = s.tg := by unfold St.leave; cases null <;> rfl
            rw [hlve]
            refine ⟨hto, by omega, by omega, fun _ => by rw [hpc]; exact hp2, fun _ _ => by rw [hpc]; omega, fun _ => ?_, fun h => by rw [h] at hok; cases hok⟩
            rw [hll]; rfl
          | 4 =>
            intro hne hjp hok hxo hxl
            simp only [show ¬ ((4 : Nat) = 11 ∨ (4 : Nat) = 14) by decide, if_false] at hxo hxl ⊢
            obtain ⟨⟨c, hc⟩, hok⟩ := hok
            have hkind : kind = true := by
              cases kind with
              | true => rfl
              | false =>
                rcases hl with h | ⟨c', h⟩
                · rw [h] at hc; cases hc
                · rw [h] at hc; cases hc
            rw [htk] at hxo hxl ⊢
            exact again r true s.tick hv (fun _ _ _ => ⟨hp2.1, hp2.2, by show ctx (s.pc + 1).toNat = _; rw [hp1]; exact hok⟩) (fun _ => hkind) htg (by omega) (by omega) hxo hxl
          | 5 =>
            intro hne hjp hok hxo hxl
            simp only [show ¬ ((5 : Nat) = 11 ∨ (5 : Nat) = 14) by decide, if_false] at hxo hxl ⊢
            rw [htk, enter_re, show (re n N t (s.left - d) s).tg + 1 = sh t (s.tg + 1) by unfold sh re; rw [if_pos (by omega)]; show s.tg + t + 1 = _; omega] at hxo hxl ⊢
            exact within (s.tg + 1) tgt (-1) true true (s.tick.enter nmAppendArray tgt 0 ⟨#[]⟩) (by show ctx (s.pc + 1).toNat = _; rw [hp1]; exact hok) ⟨lv, rfl⟩ hp2.1 hp2.2 hv (by show 0 ≤ s.tg + 1; omega) (by show s.left - 1 ≤ f; omega) (by show s.left - 1 - d ≤ F; omega) hxo hxl
          | 6 =>
            intro hne hjp hok hxo hxl
            simp only [show ¬ ((6 : Nat) = 11 ∨ (6 : Nat) = 14) by decide, if_false] at hxo hxl ⊢
            rw [htk, enter_re, show (re n N t (s.left - d) s).tg + 1 = sh t (s.tg + 1) by unfold sh re; rw [if_pos (by omega)]; show s.tg + t + 1 = _; omega] at hxo hxl ⊢
            exact within (s.tg + 1) tgt (-1) true true (s.tick.enter nmAppendMap tgt 0 (strOf r.text)) (by show ctx (s.pc + 1).toNat = _; rw [hp1]; exact hok) ⟨lv, rfl⟩ hp2.1 hp2.2 hv (by show 0 ≤ s.tg + 1; omega) (by show s.left - 1 ≤ f; omega) (by show s.left - 1 - d ≤ F; omega) hxo hxl
          | 8 => intro hne; exact absurd rfl hne.1
          | 9 => intro hne; exact absurd rfl hne.2.1
          | 10 => intro hne; exact absurd rfl hne.2.2
          | 11 =>
            intro hne hjp hok hxo hxl
            have hx := hjp (.inl rfl)
            have hj : (re n N t (s.left - d) s).tick.jump (x + n) = re n N t (s.tick.left - d) (s.tick.jump x) := by
              rw [htk]
              unfold St.jump
              rw [decide_eq_false (show ¬ x + n < 0 by omega), decide_eq_false (show ¬ x < 0 by omega)]
              rfl
            have hxo' : (lev mx L F r (sh t tgt) (sh t outer) field null kind ((re n N t (s.left - d) s).tick.jump (x + n))).odd = false := hxo
            have hxl' : 0 < (lev mx L F r (sh t tgt) (sh t outer) field null kind ((re n N t (s.left - d) s).tick.jump (x + n))).left := hxl
            show Ends n N t d mx l L lv tgt outer field kind (lev mx l f r tgt outer field null kind (s.tick.jump x)) (lev mx L F r (sh t tgt) (sh t outer) field null kind ((re n N t (s.left - d) s).tick.jump (x + n)))
            rw [hj] at hxo' hxl' ⊢
            exact again r null (s.tick.jump x) hv (fun _ _ _ => ⟨hx.1, hx.2, hok hx.1⟩) hn htg (by show s.left - 1 ≤ f; omega) (by show s.left - 1 - d ≤ F; omega) hxo' hxl'
          | 14 =>
            intro hne hjp hok hxo hxl
            have hx := hjp (.inr rfl)
            have hj : (re n N t (s.left - d) s).tick.jump (x + n) = re n N t (s.tick.left - d) (s.tick.jump x) := by
              rw [htk]
              unfold St.jump
              rw [decide_eq_false (show ¬ x + n < 0 by omega), decide_eq_false (show ¬ x < 0 by omega)]
              rfl
            have hxo' : (lev mx L F r (sh t tgt) (sh t outer) field null kind (if r.cond then (re n N t (s.left - d) s).tick.jump (x + n) else (re n N t (s.left - d) s).tick)).odd = false := hxo
            have hxl' : 0 < (lev mx L F r (sh t tgt) (sh t outer) field null kind (if r.cond then (re n N t (s.left - d) s).tick.jump (x + n) else (re n N t (s.left - d) s).tick)).left := hxl
            show Ends n N t d mx l L lv tgt outer field kind (lev mx l f r tgt outer field null kind (if r.cond then s.tick.jump x else s.tick)) (lev mx L F r (sh t tgt) (sh t outer) field null kind (if r.cond then (re n N t (s.left - d) s).tick.jump (x + n) else (re n N t (s.left - d) s).tick))
            cases hc : r.cond with
            | true =>
              rw [hc, if_pos rfl, hj] at hxo' hxl'
              rw [if_pos rfl, if_pos rfl, hj]
              exact again r null (s.tick.jump x) hv (fun _ _ _ => ⟨hx.1, hx.2, hok.1 hx.1⟩) hn htg (by show s.left - 1 ≤ f; omega) (by show s.left - 1 - d ≤ F; omega) hxo' hxl'
            | false =>
              rw [hc, if_neg (by decide), htk] at hxo' hxl'
              rw [if_neg (by decide), if_neg (by decide), htk]
              exact again r null s.tick hv (fun _ _ _ => ⟨hp2.1, hp2.2, by show ctx (s.pc + 1).toNat = _; rw [hp1]; exact hok.2⟩) hn htg (by omega) (by omega) hxo' hxl'
          | 19 =>
            intro hne hjp hok hxo hxl
            simp only [show ¬ ((19 : Nat) = 11 ∨ (19 : Nat) = 14) by decide, if_false] at hxo hxl ⊢
            rw [htk] at hxo hxl ⊢
            exact within tgt outer field false false s.tick (by show ctx (s.pc + 1).toNat = _; rw [hp1]; exact hok) (.inr ⟨lv, rfl⟩) hp2.1 hp2.2 hv htg (by omega) (by omega) hxo hxl
          | 20 =>
            intro hne hjp hok hxo hxl
            simp only [show ¬ ((20 : Nat) = 11 ∨ (20 : Nat) = 14) by decide, if_false] at hxo hxl ⊢
            rw [htk]
            exact ⟨ho, htg, by omega, fun _ => hp2, fun _ _ => by show 1 ≤ s.pc + 1; omega, fun _ => rfl, fun h => by rw [h] at hok; cases hok⟩
          | 0 =>
            intro hne hjp hok hxo hxl
            simp only [show ¬ ((0 : Nat) = 11 ∨ (0 : Nat) = 14) by decide, if_false] at hxo hxl ⊢
            have hsl := simple_left mx 0 x tgt r s.tick
            rw [htk, simple_re n N t _ mx 0 x tgt r s.tick (by decide) (by decide), show s.tick.left = (simple mx 0 x tgt r s.tick).2.left from hsl.1.symm] at hxo hxl ⊢
            exact again _ null _ ((simple_viol mx 0 x tgt r s.tick).trans hv) (fun _ _ _ => by rw [simple_pc mx 0 x tgt r s.tick (by decide) (by decide)]; exact ⟨hp2.1, hp2.2, by show ctx (s.pc + 1).toNat = lv; rw [hp1]; exact hok⟩) hn (by rw [hsl.2.2.1]; exact htg) (by rw [hsl.1]; omega) (by rw [hsl.1]; omega) hxo hxl
          | 1 =>
            intro hne hjp hok hxo hxl
            simp only [show ¬ ((1 : Nat) = 11 ∨ (1 : Nat) = 14) by decide, if_false] at hxo hxl ⊢
            have hsl := simple_left mx 1 x tgt r s.tick
            rw [htk, simple_re n N t _ mx 1 x tgt r s.tick (by decide) (by decide), show s.tick.left = (simple mx 1 x tgt r s.tick).2.left from hsl.1.symm] at hxo hxl ⊢
            exact again _ null _ ((simple_viol mx 1 x tgt r s.tick).trans hv) (fun _ _ _ => by rw [simple_pc mx 1 x tgt r s.tick (by decide) (by decide)]; exact ⟨hp2.1, hp2.2, by show ctx (s.pc + 1).toNat = lv; rw [hp1]; exact hok⟩) hn (by rw [hsl.2.2.1]; exact htg) (by rw [hsl.1]; omega) (by rw [hsl.1]; omega) hxo hxl
          | 7 =>
            intro hne hjp hok hxo hxl
            simp only [show ¬ ((7 : Nat) = 11 ∨ (7 : Nat) = 14) by decide, if_false] at hxo hxl ⊢
            have hsl := simple_left mx 7 x tgt r s.tick
            rw [htk, simple_re n N t _ mx 7 x tgt r s.tick (by decide) (by decide), show s.tick.left = (simple mx 7 x tgt r s.tick).2.left from hsl.1.symm] at hxo hxl ⊢
            exact again _ null _ ((simple_viol mx 7 x tgt r s.tick).trans hv) (fun _ _ _ => by rw [simple_pc mx 7 x tgt r s.tick (by decide) (by decide)]; exact ⟨hp2.1, hp2.2, by show ctx (s.pc + 1).toNat = lv; rw [hp1]; exact hok⟩) hn (by rw [hsl.2.2.1]; exact htg) (by rw [hsl.1]; omega) (by rw [hsl.1]; omega) hxo hxl
          | 12 =>
            intro hne hjp hok hxo hxl
            simp only [show ¬ ((12 : Nat) = 11 ∨ (12 : Nat) = 14) by decide, if_false] at hxo hxl ⊢
            have hsl := simple_left mx 12 x tgt r s.tick
            rw [htk, simple_re n N t _ mx 12 x tgt r s.tick (by decide) (by decide), show s.tick.left = (simple mx 12 x tgt r s.tick).2.left from hsl.1.symm] at hxo hxl ⊢
            exact again _ null _ ((simple_viol mx 12 x tgt r s.tick).trans hv) (fun _ _ _ => by rw [simple_pc mx 12 x tgt r s.tick (by decide) (by decide)]; exact ⟨hp2.1, hp2.2, by show ctx (s.pc + 1).toNat = lv; rw [hp1]; exact hok⟩) hn (by rw [hsl.2.2.1]; exact htg) (by rw [hsl.1]; omega) (by rw [hsl.1]; omega) hxo hxl
          | 13 =>
            intro hne hjp hok hxo hxl
            simp only [show ¬ ((13 : Nat) = 11 ∨ (13 : Nat) = 14) by decide, if_false] at hxo hxl ⊢
            have hsl := simple_left mx 13 x tgt r s.tick
            rw [htk, simple_re n N t _ mx 13 x tgt r s.tick (by decide) (by decide), show s.tick.left = (simple mx 13 x tgt r s.tick).2.left from hsl.1.symm] at hxo hxl ⊢
            exact again _ null _ ((simple_viol mx 13 x tgt r s.tick).trans hv) (fun _ _ _ => by rw [simple_pc mx 13 x tgt r s.tick (by decide) (by decide)]; exact ⟨hp2.1, hp2.2, by show ctx (s.pc + 1).toNat = lv; rw [hp1]; exact hok⟩) hn (by rw [hsl.2.2.1]; exact htg) (by rw [hsl.1]; omega) (by rw [hsl.1]; omega) hxo hxl
          | 15 =>
            intro hne hjp hok hxo hxl
            simp only [show ¬ ((15 : Nat) = 11 ∨ (15 : Nat) = 14) by decide, if_false] at hxo hxl ⊢
            have hsl := simple_left mx 15 x tgt r s.tick
            rw [htk, simple_re n N t _ mx 15 x tgt r s.tick (by decide) (by decide), show s.tick.left = (simple mx 15 x tgt r s.tick).2.left from hsl.1.symm] at hxo hxl ⊢
            exact again _ null _ ((simple_viol mx 15 x tgt r s.tick).trans hv) (fun _ _ _ => by rw [simple_pc mx 15 x tgt r s.tick (by decide) (by decide)]; exact ⟨hp2.1, hp2.2, by show ctx (s.pc + 1).toNat = lv; rw [hp1]; exact hok⟩) hn (by rw [hsl.2.2.1]; exact htg) (by rw [hsl.1]; omega) (by rw [hsl.1]; omega) hxo hxl
          | 16 =>
            intro hne hjp hok hxo hxl
            simp only [show ¬ ((16 : Nat) = 11 ∨ (16 : Nat) = 14) by decide, if_false] at hxo hxl ⊢
            have hsl := simple_left mx 16 x tgt r s.tick
            rw [htk, simple_re n N t _ mx 16 x tgt r s.tick (by decide) (by decide), show s.tick.left = (simple mx 16 x tgt r s.tick).2.left from hsl.1.symm] at hxo hxl ⊢
            exact again _ null _ ((simple_viol mx 16 x tgt r s.tick).trans hv) (fun _ _ _ => by rw [simple_pc mx 16 x tgt r s.tick (by decide) (by decide)]; exact ⟨hp2.1, hp2.2, by show ctx (s.pc + 1).toNat = lv; rw [hp1]; exact hok⟩) hn (by rw [hsl.2.2.1]; exact htg) (by rw [hsl.1]; omega) (by rw [hsl.1]; omega) hxo hxl
          | 17 =>
            intro hne hjp hok hxo hxl
            simp only [show ¬ ((17 : Nat) = 11 ∨ (17 : Nat) = 14) by decide, if_false] at hxo hxl ⊢
            have hsl := simple_left mx 17 x tgt r s.tick
            rw [htk, simple_re n N t _ mx 17 x tgt r s.tick (by decide) (by decide), show s.tick.left = (simple mx 17 x tgt r s.tick).2.left from hsl.1.symm] at hxo hxl ⊢
            exact again _ null _ ((simple_viol mx 17 x tgt r s.tick).trans hv) (fun _ _ _ => by rw [simple_pc mx 17 x tgt r s.tick (by decide) (by decide)]; exact ⟨hp2.1, hp2.2, by show ctx (s.pc + 1).toNat = lv; rw [hp1]; exact hok⟩) hn (by rw [hsl.2.2.1]; exact htg) (by rw [hsl.1]; omega) (by rw [hsl.1]; omega) hxo hxl
          | 18 =>
            intro hne hjp hok hxo hxl
            simp only [show ¬ ((18 : Nat) = 11 ∨ (18 : Nat) = 14) by decide, if_false] at hxo hxl ⊢
            have hsl := simple_left mx 18 x tgt r s.tick
            rw [htk, simple_re n N t _ mx 18 x tgt r s.tick (by decide) (by decide), show s.tick.left = (simple mx 18 x tgt r s.tick).2.left from hsl.1.symm] at hxo hxl ⊢
            exact again _ null _ ((simple_viol mx 18 x tgt r s.tick).trans hv) (fun _ _ _ => by rw [simple_pc mx 18 x tgt r s.tick (by decide) (by decide)]; exact ⟨hp2.1, hp2.2, by show ctx (s.pc + 1).toNat = lv; rw [hp1]; exact hok⟩) hn (by rw [hsl.2.2.1]; exact htg) (by rw [hsl.1]; omega) (by rw [hsl.1]; omega) hxo hxl
          | 21 =>
            intro hne hjp hok hxo hxl
            simp only [show ¬ ((21 : Nat) = 11 ∨ (21 : Nat) = 14) by decide, if_false] at hxo hxl ⊢
            have hsl := simple_left mx 21 x tgt r s.tick
            rw [htk, simple_re n N t _ mx 21 x tgt r s.tick (by decide) (by decide), show s.tick.left = (simple mx 21 x tgt r s.tick).2.left from hsl.1.symm] at hxo hxl ⊢
            exact again _ null _ ((simple_viol mx 21 x tgt r s.tick).trans hv) (fun _ _ _ => by rw [simple_pc mx 21 x tgt r s.tick (by decide) (by decide)]; exact ⟨hp2.1, hp2.2, by show ctx (s.pc + 1).toNat = lv; rw [hp1]; exact hok⟩) hn (by rw [hsl.2.2.1]; exact htg) (by rw [hsl.1]; omega) (by rw [hsl.1]; omega) hxo hxl
          | 22 =>
            intro hne hjp hok hxo hxl
            simp only [show ¬ ((22 : Nat) = 11 ∨ (22 : Nat) = 14) by decide, if_false] at hxo hxl ⊢
            have hsl := simple_left mx 22 x tgt r s.tick
            rw [htk, simple_re n N t _ mx 22 x tgt r s.tick (by decide) (by decide), show s.tick.left = (simple mx 22 x tgt r s.tick).2.left from hsl.1.symm] at hxo hxl ⊢
            exact again _ null _ ((simple_viol mx 22 x tgt r s.tick).trans hv) (fun _ _ _ => by rw [simple_pc mx 22 x tgt r s.tick (by decide) (by decide)]; exact ⟨hp2.1, hp2.2, by show ctx (s.pc + 1).toNat = lv; rw [hp1]; exact hok⟩) hn (by rw [hsl.2.2.1]; exact htg) (by rw [hsl.1]; omega) (by rw [hsl.1]; omega) hxo hxl
          | k + 23 =>
            intro hne hjp hok hxo hxl
            simp only [show ¬ ((k + 23 : Nat) = 11 ∨ (k + 23 : Nat) = 14) by omega, if_false] at hxo hxl ⊢
            rw [htk, simple_re n N t _ mx (k + 23) x tgt r s.tick (by omega) (by omega)] at hxo hxl ⊢
            exact again _ null _ hv (fun h _ _ => absurd h (by show ¬ 2 = 0; decide)) hn htg (by show s.left - 1 ≤ f; omega) (by show s.left - 1 - d ≤ F; omega) hxo hxl
    · exact sim_end hn hb ho htg hdl hf hF
end Go.Proofs.YtkhicabfmkldpaaDoor

namespace Go.Proofs.YtkhicabfmkldpaaDoor
open Go Go.RowKit

/-- What the maker holds: bytes left, instructions, calls to parts, the part. -/
structure Gen where
  code : List UInt8
  ins : List (Nat × Int)
  calls : List (Nat × Nat)
  part : Nat

def hd (g : Gen) : Nat := match g.code with
  | [] => 0
  | b :: _ => b.toNat
def nx (g : Gen) : Gen := { g with code := g.code.tail }
def put (g : Gen) (op : Nat) (x : Int) : Gen := { g with ins := g.ins ++ [(op, x)] }
def kindL : List Int := [1, 2, 3, 4, 5, 6, 7, 8, 10]
def kindOf (c : Nat) : Int := if c % 8 = 0 then ((11 + c / 8 % 6 : Nat) : Int) else kindL.getD (c % 9) 0
def setX (l : List (Nat × Int)) (i : Nat) (x : Int) : List (Nat × Int) := l.modify i (fun o => (o.1, x))
def patch (g : Gen) (i : Nat) : Gen := { g with ins := setX g.ins i g.ins.length }
def longOps : List Nat := [15, 16, 17, 18]
def setOps : List Nat := [7, 21, 22, 1]

def gLoop (body : Gen → Gen) (g : Gen) : Gen :=
  patch (put (put (put (body (put (put (put g 12 0) 14 0) 19 0)) 20 0) 16 (-1)) 11 g.ins.length) (g.ins.length + 1)

def nulled (g : Gen) : Gen := if hd g % 4 = 0 then put (nx g) 4 0 else nx g

def cond (body : Gen → Gen) (g : Gen) : Gen := patch (body (put g 14 0)) g.ins.length

/-- One statement, by its number. -/
def stmC (body : Gen → Gen) (c : Nat) (g : Gen) : Gen :=
  match c with
  | 0 => put (nx g) 0 (kindOf (hd g))
  | 1 => put (nx g) 1 (kindOf (hd g))
  | 2 => put (put (nx g) 0 (kindOf (hd g))) 1 (kindOf (hd g))
  | 3 => put (put (nx g) 0 (kindOf (hd g))) 1 (kindOf (hd g))
  | 4 => put (put (nx g) 0 (kindOf (hd g))) 1 (kindOf (hd g))
  | 5 => put (put (nx g) 0 (kindOf (hd g))) 1 (kindOf (hd g))
  | 6 => put (nulled (body (put (nx g) 2 ((hd g % 6 : Nat) : Int)))) 3 0
  | 7 => put (nulled (body (put (nx g) 2 ((hd g % 6 : Nat) : Int)))) 3 0
  | 8 => put (body (put g 5 0)) 3 0
  | 9 => put (body (put (put g 0 8) 6 0)) 3 0
  | 10 => put (nx (nx g)) (longOps.getD (hd g % 4) 0) (((hd (nx g) % 9 : Nat) : Int) - 3)
  | 11 => put (nx (nx g)) (setOps.getD (hd g % 4) 0) ((hd (nx g) % 6 : Nat) : Int)
  | 12 => cond body (put (nx (nx g)) (if hd g % 2 = 0 then 12 else 13) (((hd (nx g) % 5 : Nat) : Int) - 1))
  | 13 => gLoop body (put (nx g) 15 ((hd g % 4 : Nat) : Int))
  | 14 => gLoop body (put (nx g) 15 ((hd g % 4 : Nat) : Int))
  | _ => if g.part < 2 then put { nx g with calls := g.calls ++ [(g.ins.length, g.part + 1 + hd g % (2 - g.part))] } 8 0 else g

def cOf (last : Bool) (b : Nat) : Nat := if last && decide (6 ≤ b % 16) && decide (b % 16 ≠ 10) && decide (b % 16 ≠ 11) then b % 16 % 6 else b % 16

def stm (last : Bool) (body : Gen → Gen) (g : Gen) : Gen := stmC body (cOf last (hd g)) (nx g)

def bodyN (st : Gen → Gen) : Nat → Gen → Gen
  | 0, g => g
  | n + 1, g => if g.code ≠ [] ∧ g.ins.length < 120 then bodyN st n (st g) else g

def gStm : Nat → Gen → Gen
  | 0, g => stm true id g
  | k + 1, g => stm false (fun g => bodyN (gStm k) (hd g % 5) (nx g)) g

def gBody (k : Nat) (g : Gen) : Gen := bodyN (gStm k) (hd g % 5) (nx g)

theorem gStm_succ (k : Nat) (g : Gen) : gStm (k + 1) g = stm false (gBody k) g := rfl

/-- The levels at a place. -/
def cx (lvs : List (List Bool)) (lv : List Bool) (p : Nat) : List Bool := lvs.getD p lv

/-- What an operation does to the levels. -/
def Flow2 (op : Nat) (a b : List Bool) : Prop :=
  match op with
  | 2 => b = true :: a
  | 5 => b = true :: a
  | 6 => b = true :: a
  | 19 => b = false :: a
  | 3 => a = true :: b
  | 20 => a = false :: b
  | 4 => (∃ c, a = true :: c) ∧ b = a
  | 9 => a = []
  | 10 => a = []
  | 11 => True
  | _ => b = a

structure Inv (P Q : Nat → Prop) (g : Gen) (lvs : List (List Bool)) (lv : List Bool) : Prop where
  len : lvs.length = g.ins.length
  ops : ∀ (p op : Nat) (x : Int), g.ins[p]? = some (op, x) → Flow2 op (cx lvs lv p) (cx lvs lv (p + 1))
  jumps : ∀ (p op : Nat) (x : Int), g.ins[p]? = some (op, x) → op = 11 ∨ op = 14 → ¬ P p → 0 ≤ x ∧ x ≤ g.ins.length ∧ cx lvs lv x.toNat = cx lvs lv p
  vals : ∀ (p op : Nat) (x : Int), g.ins[p]? = some (op, x) → op ≤ 22 ∧ (op ≠ 11 → op ≠ 14 → -300 ≤ x ∧ x ≤ 300) ∧ (op = 10 → x = 0) ∧ (op = 8 → x = 0) ∧ Q op
  calls : ∀ c ∈ g.calls, (∃ x, g.ins[c.1]? = some (8, x)) ∧ c.2 ≤ 2

theorem cx_same {lvs more : List (List Bool)} {lv lv' : List Bool} {p : Nat} (h : p < lvs.length) : cx (lvs ++ more) lv' p = cx lvs lv p := by
  unfold cx
  rw [List.getD_eq_getElem?_getD, List.getD_eq_getElem?_getD, List.getElem?_append_left h, List.getElem?_eq_getElem h]
  rfl
theorem cx_end {lvs : List (List Bool)} {lv : List Bool} {p : Nat} (h : lvs.length ≤ p) : cx lvs lv p = lv := by
  unfold cx
  rw [List.getD_eq_getElem?_getD, List.getElem?_eq_none h]
  rfl
theorem cx_snoc {lvs : List (List Bool)} {lv lv' : List Bool} {p : Nat} (h : p ≤ lvs.length) : cx (lvs ++ [lv]) lv' p = cx lvs lv p := by
  rcases Nat.lt_or_eq_of_le h with h1 | h1
  · exact cx_same h1
  · subst h1
    rw [cx_end (Nat.le_refl _)]
    unfold cx
    rw [List.getD_eq_getElem?_getD, List.getElem?_append_right (Nat.le_refl _)]
    simp

theorem snoc_get {l : List (Nat × Int)} {i : Nat × Int} {p op : Nat} {x : Int} (h : (l ++ [i])[p]? = some (op, x)) : (p < l.length ∧ l[p]? = some (op, x)) ∨ (p = l.length ∧ i = (op, x)) := by
  by_cases hp : p < l.length
  · rw [List.getElem?_append_left hp] at h
    exact .inl ⟨hp, h⟩
  · have hlt := (List.getElem?_eq_some_iff.1 h).1
    simp at hlt
    have : p = l.length := by omega
    subst this
    rw [List.getElem?_append_right (Nat.le_refl _)] at h
    simp at h
    exact .inr ⟨rfl, h⟩

theorem Inv.put {P Q : Nat → Prop} {g : Gen} {lvs : List (List Bool)} {lv lv' : List Bool} (h : Inv P Q g lvs lv) (op : Nat) (x : Int) (hf : Flow2 op lv lv') (hv : op ≤ 22 ∧ (op ≠ 11 → op ≠ 14 → -300 ≤ x ∧ x ≤ 300) ∧ (op = 10 → x = 0) ∧ (op = 8 → x = 0) ∧ Q op)
    (hj : op = 11 ∨ op = 14 → ¬ P g.ins.length → 0 ≤ x ∧ x ≤ g.ins.length ∧ cx lvs lv x.toNat = lv) : Inv P Q (put g op x) (lvs ++ [lv]) lv' := by
  have hlen := h.len
  refine ⟨?_, ?_, ?_, ?_, ?_⟩
  · show (lvs ++ [lv]).length = (g.ins ++ [(op, x)]).length
    simp [hlen]
  · intro p op' x' hp
    rcases snoc_get hp with ⟨h1, h2⟩ | ⟨h1, h2⟩
    · rw [cx_snoc (by omega), cx_snoc (by omega)]
      exact h.ops p op' x' h2
    · cases h2
      subst h1
      rw [cx_snoc (by omega), cx_end (p := g.ins.length) (by omega), cx_end (p := g.ins.length + 1) (by simp; omega)]
      exact hf
  · intro p op' x' hp hop hP
    show 0 ≤ x' ∧ x' ≤ ((g.ins ++ [(op, x)]).length : Nat) ∧ _
    have hl : (g.ins ++ [(op, x)]).length = g.ins.length + 1 := by simp
    rw [hl]
    rcases snoc_get hp with ⟨h1, h2⟩ | ⟨h1, h2⟩
    · obtain ⟨a, b, c⟩ := h.jumps p op' x' h2 hop hP
      exact ⟨a, by omega, by rw [cx_snoc (by omega), cx_snoc (by omega)]; exact c⟩
    · cases h2
      subst h1
      obtain ⟨a, b, c⟩ := hj hop hP
      exact ⟨a, by omega, by rw [cx_snoc (by omega), cx_snoc (by omega), cx_end (p := g.ins.length) (by omega)]; exact c⟩
  · intro p op' x' hp
    rcases snoc_get hp with ⟨h1, h2⟩ | ⟨h1, h2⟩
    · exact h.vals p op' x' h2
    · cases h2; exact hv
  · intro c hc
    obtain ⟨⟨y, hy⟩, h2⟩ := h.calls c hc
    refine ⟨⟨y, ?_⟩, h2⟩
    show (g.ins ++ [(op, x)])[c.1]? = _
    rw [List.getElem?_append_left (List.getElem?_eq_some_iff.1 hy).1]
    exact hy

theorem Inv.code {P Q : Nat → Prop} {g : Gen} {lvs : List (List Bool)} {lv : List Bool} (h : Inv P Q g lvs lv) (c : List UInt8) : Inv P Q { g with code := c } lvs lv := ⟨h.len, h.ops, h.jumps, h.vals, h.calls⟩
theorem Inv.nx {P Q : Nat → Prop} {g : Gen} {lvs : List (List Bool)} {lv : List Bool} (h : Inv P Q g lvs lv) : Inv P Q (nx g) lvs lv := h.code _
theorem Inv.weaken {P P' Q : Nat → Prop} {g : Gen} {lvs : List (List Bool)} {lv : List Bool} (h : Inv P Q g lvs lv) (hp : ∀ p, P p → P' p) : Inv P' Q g lvs lv := ⟨h.len, h.ops, fun p op x a b c => h.jumps p op x a b (fun e => c (hp p e)), h.vals, h.calls⟩

theorem setX_get {l : List (Nat × Int)} {i p op : Nat} {x y : Int} (h : (setX l i y)[p]? = some (op, x)) : ∃ x0, l[p]? = some (op, x0) ∧ (p = i → x = y) ∧ (p ≠ i → x = x0) := by
  unfold setX at h
  rw [List.getElem?_modify] at h
  cases hp : l[p]? with
  | none => rw [hp] at h; simp at h
  | some o =>
    rw [hp] at h
    simp at h
    by_cases hi : i = p
    · subst hi
      simp at h
      obtain ⟨h1, h2⟩ := h
      exact ⟨o.2, by rw [← h1], fun _ => h2.symm, fun e => absurd rfl e⟩
    · simp [hi] at h
      exact ⟨x, by rw [h], fun e => absurd e.symm hi, fun _ => rfl⟩
theorem setX_get2 {l : List (Nat × Int)} {i p op : Nat} {x y : Int} (h : l[p]? = some (op, x)) : ∃ x', (setX l i y)[p]? = some (op, x') := by
  unfold setX
  rw [List.getElem?_modify, h]
  by_cases hi : i = p
  · exact ⟨y, by simp [hi]⟩
  · exact ⟨x, by simp [hi]⟩
theorem setX_length (l : List (Nat × Int)) (i : Nat) (y : Int) : (setX l i y).length = l.length := List.length_modify _ _ _

theorem Inv.patch {P Q : Nat → Prop} {g : Gen} {lvs : List (List Bool)} {lv : List Bool} {i : Nat} (h : Inv (fun p => P p ∨ p = i) Q g lvs lv) {x : Int} (hi : g.ins[i]? = some (14, x)) (hl : cx lvs lv i = lv) : Inv P Q (patch g i) lvs lv := by
  have hlen := h.len
  have key : ∀ {p op : Nat} {x : Int}, (Go.Proofs.YtkhicabfmkldpaaDoor.patch g i).ins[p]? = some (op, x) → ∃ x0, g.ins[p]? = some (op, x0) ∧ (p = i → x = g.ins.length) ∧ (p ≠ i → x = x0) := fun hp => setX_get hp
  have hL : (Go.Proofs.YtkhicabfmkldpaaDoor.patch g i).ins.length = g.ins.length := setX_length _ _ _
  refine ⟨hlen.trans hL.symm, ?_, ?_, ?_, ?_⟩
  · intro p op y hp
    obtain ⟨x0, h1, _, _⟩ := key hp
    exact h.ops p op x0 h1
  · intro p op y hp hop hP
    obtain ⟨x0, h1, h2, h3⟩ := key hp
    rw [hL]
    by_cases hpi : p = i
    · rw [h2 hpi, hpi, hl]
      exact ⟨by omega, by omega, cx_end (by omega)⟩
    · rw [h3 hpi]
      exact h.jumps p op x0 h1 hop (fun e => e.elim hP hpi)
  · intro p op y hp
    obtain ⟨x0, h1, h2, h3⟩ := key hp
    by_cases hpi : p = i
    · subst hpi
      rw [hi] at h1
      cases h1
      have := h.vals p 14 x hi
      exact ⟨by omega, fun _ h => absurd rfl h, by omega, by omega, this.2.2.2.2⟩
    · rw [h3 hpi]
      exact h.vals p op x0 h1
  · intro c hc
    obtain ⟨⟨y, hy⟩, h2⟩ := h.calls c hc
    obtain ⟨x', hx'⟩ := setX_get2 (i := i) (y := g.ins.length) hy
    exact ⟨⟨x', hx'⟩, h2⟩

/-- A part of the making, from every state. -/
def Does (n : Nat) (Q : Nat → Prop) (part : Nat) (F : Gen → Gen) (a d : List Bool) : Prop :=
  ∀ (P : Nat → Prop) (g : Gen) (lvs : List (List Bool)), g.part = part → Inv P Q g lvs a → ∃ lvs', Inv P Q (F g) lvs' d ∧ (∀ p, p ≤ g.ins.length → cx lvs' d p = cx lvs a p) ∧ g.ins <+: (F g).ins ∧ (F g).part = g.part ∧ (F g).ins.length ≤ g.ins.length + n ∧ (a ≠ [] → ∀ p, g.ins.length ≤ p → p < (F g).ins.length → cx lvs' d p ≠ [])

theorem Does.trans {n m : Nat} {Q : Nat → Prop} {part : Nat} {F G : Gen → Gen} {a d e : List Bool} (h : Does n Q part F a d) (k : Does m Q part G d e) (hd : a ≠ [] → d ≠ [] := by first | exact id | simp) : Does (n + m) Q part (fun g => G (F g)) a e := by
  intro P g lvs hp hi
  obtain ⟨l1, i1, c1, p1, t1, s1, d1⟩ := h P g lvs hp hi
  obtain ⟨l2, i2, c2, p2, t2, s2, d2⟩ := k P (F g) l1 (t1.trans hp) i1
  refine ⟨l2, i2, fun p hp => (c2 p (Nat.le_trans hp p1.length_le)).trans (c1 p hp), p1.trans p2, t2.trans t1, by show (G (F g)).ins.length ≤ _; omega, fun ha p hp hq => ?_⟩
  by_cases hpf : p < (F g).ins.length
  · rw [c2 p (by omega)]; exact d1 ha p hp hpf
  · exact d2 (hd ha) p (by omega) hq
theorem Does.mono {n m : Nat} {Q : Nat → Prop} {part : Nat} {F : Gen → Gen} {a d : List Bool} (h : Does n Q part F a d) (hm : n ≤ m) : Does m Q part F a d := by
  intro P g lvs hp hi
  obtain ⟨l1, i1, c1, p1, t1, s1, d1⟩ := h P g lvs hp hi
  exact ⟨l1, i1, c1, p1, t1, by omega, d1⟩
theorem does_id (Q : Nat → Prop) (part : Nat) (a : List Bool) : Does 0 Q part id a a := fun P g lvs _ hi => ⟨lvs, hi, fun _ _ => rfl, List.prefix_refl _, rfl, Nat.le_refl _, fun _ p h1 h2 => absurd h2 (Nat.not_lt.2 h1)⟩
theorem does_nx (Q : Nat → Prop) (part : Nat) (a : List Bool) : Does 0 Q part nx a a := fun P g lvs _ hi => ⟨lvs, hi.nx, fun _ _ => rfl, List.prefix_refl _, rfl, Nat.le_refl _, fun _ p h1 h2 => absurd h2 (Nat.not_lt.2 h1)⟩
theorem does_put {Q : Nat → Prop} {part : Nat} {a d : List Bool} (op : Nat) (x : Int) (hf : Flow2 op a d) (hv : op ≤ 22 ∧ (-300 ≤ x ∧ x ≤ 300) ∧ Q op) (h1 : op ≠ 11 ∧ op ≠ 14 ∧ op ≠ 10 ∧ op ≠ 8) : Does 1 Q part (fun g => put g op x) a d := by
  intro P g lvs hp hi
  refine ⟨lvs ++ [a], hi.put op x hf ⟨hv.1, fun _ _ => hv.2.1, fun e => absurd e h1.2.2.1, fun e => absurd e h1.2.2.2, hv.2.2⟩ (fun e => e.elim (fun e => absurd e h1.1) (fun e => absurd e h1.2.1)), fun p hp => cx_snoc (by rw [hi.len]; exact hp), List.prefix_append _ _, rfl, by simp [put], fun ha p h1 h2 => ?_⟩
  have : p = g.ins.length := by simp [put] at h2; omega
  rw [cx_snoc (by rw [hi.len]; omega), cx_end (by rw [hi.len]; omega)]
  exact ha
/-- The same, where a byte or two say which. -/
theorem does_of {n : Nat} {Q : Nat → Prop} {part : Nat} {F : Gen → Gen} {a d : List Bool} {A : Type} (f : Gen → A) (G : A → Gen → Gen) (hF : ∀ g, F g = G (f g) g) (h : ∀ x, Does n Q part (G x) a d) : Does n Q part F a d := by
  intro P g lvs hp hi
  rw [hF]
  exact h (f g) P g lvs hp hi

theorem kindOf_range (c : Nat) : -300 ≤ kindOf c ∧ kindOf c ≤ 300 := by
  unfold kindOf
  split
  · omega
  · have h : c % 9 < 9 := Nat.mod_lt _ (by decide)
    generalize c % 9 = m at h
    match m, h with
    | 0, _ => decide
    | 1, _ => decide
    | 2, _ => decide
    | 3, _ => decide
    | 4, _ => decide
    | 5, _ => decide
    | 6, _ => decide
    | 7, _ => decide
    | 8, _ => decide

theorem pre_get {a b : List (Nat × Int)} {p : Nat} {o : Nat × Int} (h : a <+: b) (hp : a[p]? = some o) : b[p]? = some o := by
  obtain ⟨t, rfl⟩ := h
  rw [List.getElem?_append_left (List.getElem?_eq_some_iff.1 hp).1]
  exact hp
theorem snoc_last (l : List (Nat × Int)) (i : Nat × Int) : (l ++ [i])[l.length]? = some i := by
  rw [List.getElem?_append_right (Nat.le_refl _)]; simp
theorem pre_setX {a b : List (Nat × Int)} {i : Nat} {y : Int} (h : a <+: b) (hi : a.length ≤ i) : a <+: setX b i y := by
  obtain ⟨t, rfl⟩ := h
  refine ⟨setX t (i - a.length) y, ?_⟩
  apply List.ext_getElem?
  intro p
  unfold setX
  by_cases hp : p < a.length
  · rw [List.getElem?_append_left hp, List.getElem?_modify, List.getElem?_append_left hp]
    have hip : i ≠ p := by omega
    simp [hip]
  · rw [List.getElem?_append_right (by omega), List.getElem?_modify, List.getElem?_modify, List.getElem?_append_right (by omega)]
    by_cases hip : i = p
    · simp [hip]
    · have hip2 : ¬ i - a.length = p - a.length := by omega
      simp [hip, hip2]

section
variable {Q : Nat → Prop} {part n : Nat} {body : Gen → Gen}

theorem does_cond (hQ : Q 14) (hb : ∀ a, Does n Q part body a a) (lv : List Bool) : Does (n + 1) Q part (cond body) lv lv := by
  intro P g lvs hp hi
  have h1 : Inv (fun p => P p ∨ p = g.ins.length) Q (put g 14 0) (lvs ++ [lv]) lv := (hi.weaken (fun _ => .inl)).put 14 0 rfl ⟨by decide, fun _ h => absurd rfl h, by omega, by omega, hQ⟩ (fun _ h => absurd (.inr rfl) h)
  obtain ⟨l2, i2, c2, p2, t2, s2, d2⟩ := hb lv _ (put g 14 0) _ hp h1
  have hl : (put g 14 0).ins.length = g.ins.length + 1 := by simp [put]
  have hg : (put g 14 0).ins[g.ins.length]? = some (14, 0) := snoc_last _ _
  have hc : ∀ p, p ≤ g.ins.length → cx l2 lv p = cx lvs lv p := fun p hp => (c2 p (by omega)).trans (cx_snoc (by rw [hi.len]; exact hp))
  refine ⟨l2, i2.patch (pre_get p2 hg) ((hc _ (Nat.le_refl _)).trans (cx_end (by rw [hi.len]; exact Nat.le_refl _))), hc, ?_, t2, ?_, ?_⟩
  · exact pre_setX ((List.prefix_append _ _).trans p2) (Nat.le_refl _)
  · show (setX _ _ _).length ≤ _
    rw [setX_length]
    omega
  · intro ha p h3 h4
    have h5 : p < (body (put g 14 0)).ins.length := by
      have : (cond body g).ins.length = (body (put g 14 0)).ins.length := setX_length _ _ _
      omega
    by_cases h6 : p = g.ins.length
    · rw [hc p (by omega), cx_end (by rw [hi.len]; omega)]; exact ha
    · exact d2 ha p (by omega) h5

theorem does_loop (hQ : Q 11 ∧ Q 12 ∧ Q 14 ∧ Q 16 ∧ Q 19 ∧ Q 20) (hb : ∀ a, Does n Q part body a a) (lv : List Bool) : Does (n + 6) Q part (gLoop body) lv lv := by
  intro P g lvs hp hi
  have h0 : Inv P Q (put g 12 0) (lvs ++ [lv]) lv := hi.put 12 0 rfl ⟨by decide, fun _ _ => by decide, by omega, by omega, hQ.2.1⟩ (by omega)
  have l0 : (put g 12 0).ins.length = g.ins.length + 1 := by simp [put]
  have h1 : Inv (fun p => P p ∨ p = g.ins.length + 1) Q (put (put g 12 0) 14 0) (lvs ++ [lv] ++ [lv]) lv := (h0.weaken (fun _ => .inl)).put 14 0 rfl ⟨by decide, fun _ h => absurd rfl h, by omega, by omega, hQ.2.2.1⟩ (fun _ h => absurd (.inr l0) h)
  have h2 : Inv (fun p => P p ∨ p = g.ins.length + 1) Q (put (put (put g 12 0) 14 0) 19 0) (lvs ++ [lv] ++ [lv] ++ [lv]) (false :: lv) := h1.put 19 0 rfl ⟨by decide, fun _ _ => by decide, by omega, by omega, hQ.2.2.2.2.1⟩ (by omega)
  obtain ⟨l2, i2, c2, p2, t2, s2, d2⟩ := hb (false :: lv) _ (put (put (put g 12 0) 14 0) 19 0) _ hp h2
  have hl : (put (put (put g 12 0) 14 0) 19 0).ins.length = g.ins.length + 3 := by simp [put]
  have hlen := hi.len
  have hlen2 := i2.len
  have hg : (put (put (put g 12 0) 14 0) 19 0).ins[g.ins.length + 1]? = some (14, 0) := by
    show (g.ins ++ [(12, 0)] ++ [(14, 0)] ++ [(19, 0)])[g.ins.length + 1]? = _
    rw [List.getElem?_append_left (by simp), List.getElem?_append_right (by simp)]
    simp
  have hc1 : ∀ p, p ≤ g.ins.length → cx l2 (false :: lv) p = cx lvs lv p := fun p hp => (c2 p (by omega)).trans ((cx_same (lv := lv) (by simp; omega)).trans ((cx_snoc (lv' := lv) (by simp; omega)).trans (cx_snoc (by omega))))
  have hc2 : cx l2 (false :: lv) (g.ins.length + 1) = lv := (c2 _ (by omega)).trans (((cx_same (lv := lv) (by simp; omega)).trans ((cx_snoc (by simp; omega)).trans (cx_end (by simp; omega)))))
  obtain ⟨g2, hg2⟩ : ∃ g2, body (put (put (put g 12 0) 14 0) 19 0) = g2 := ⟨_, rfl⟩
  rw [hg2] at i2 p2 t2 s2 hlen2 d2
  have hle2 := p2.length_le
  have h3 : Inv (fun p => P p ∨ p = g.ins.length + 1) Q (put g2 20 0) (l2 ++ [false :: lv]) lv := i2.put 20 0 rfl ⟨by decide, fun _ _ => by decide, by omega, by omega, hQ.2.2.2.2.2⟩ (by omega)
  have h4 : Inv (fun p => P p ∨ p = g.ins.length + 1) Q (put (put g2 20 0) 16 (-1)) (l2 ++ [false :: lv] ++ [lv]) lv := h3.put 16 (-1) rfl ⟨by decide, fun _ _ => by decide, by omega, by omega, hQ.2.2.2.1⟩ (by omega)
  have hc3 : ∀ p, p ≤ g2.ins.length → cx (l2 ++ [false :: lv] ++ [lv]) lv p = cx l2 (false :: lv) p := fun p hp => (cx_snoc (by simp; omega)).trans (cx_snoc (by omega))
  have h5 : Inv (fun p => P p ∨ p = g.ins.length + 1) Q (put (put (put g2 20 0) 16 (-1)) 11 g.ins.length) (l2 ++ [false :: lv] ++ [lv] ++ [lv]) lv := by
    refine h4.put 11 g.ins.length trivial ⟨by decide, fun h => absurd rfl h, by omega, by omega, hQ.1⟩ (fun _ _ => ⟨by omega, ?_, ?_⟩)
    · show (g.ins.length : Int) ≤ ((g2.ins ++ [(20, 0)] ++ [(16, -1)]).length : Nat)
      simp; omega
    · rw [show ((g.ins.length : Int)).toNat = g.ins.length by omega, hc3 _ (by omega), hc1 _ (Nat.le_refl _), cx_end (by omega)]
  have hc4 : ∀ p, p ≤ g2.ins.length → cx (l2 ++ [false :: lv] ++ [lv] ++ [lv]) lv p = cx l2 (false :: lv) p := fun p hp => (cx_snoc (by simp; omega)).trans (hc3 p hp)
  have hpre : g2.ins <+: (put (put (put g2 20 0) 16 (-1)) 11 g.ins.length).ins := ((List.prefix_append _ _).trans (List.prefix_append _ _)).trans (List.prefix_append _ _)
  have hfin := h5.patch (pre_get hpre (pre_get p2 hg)) ((hc4 _ (by omega)).trans hc2)
  unfold gLoop
  rw [hg2]
  refine ⟨_, hfin, fun p hp => (hc4 p (by omega)).trans (hc1 p hp), ?_, t2, ?_, ?_⟩
  · refine pre_setX ?_ (by omega)
    refine List.IsPrefix.trans ?_ (p2.trans hpre)
    exact ((List.prefix_append _ _).trans (List.prefix_append _ _)).trans (List.prefix_append _ _)
  · show (setX _ _ _).length ≤ _
    rw [setX_length]
    show (g2.ins ++ [(20, 0)] ++ [(16, -1)] ++ [(11, _)]).length ≤ _
    simp
    omega
  · intro ha p h6 h7
    have h8 : p < g2.ins.length + 3 := by
      have h9 : (Go.Proofs.YtkhicabfmkldpaaDoor.patch (put (put (put g2 20 0) 16 (-1)) 11 g.ins.length) (g.ins.length + 1)).ins.length = g2.ins.length + 3 := by
        show (setX _ _ _).length = _
        rw [setX_length]
        show (g2.ins ++ [(20, 0)] ++ [(16, -1)] ++ [(11, _)]).length = _
        simp
      omega
    by_cases c1 : p < g2.ins.length
    · rw [hc4 p (by omega)]
      by_cases c0 : p < g.ins.length + 3
      · rw [c2 p (by omega)]
        by_cases e1 : p = g.ins.length
        · rw [cx_same (lv := lv) (by simp; omega), cx_snoc (lv' := lv) (by simp; omega), cx_snoc (by omega), cx_end (by omega)]; exact ha
        · by_cases e2 : p = g.ins.length + 1
          · rw [cx_same (lv := lv) (by simp; omega), cx_snoc (lv' := lv) (by simp; omega), cx_end (by simp; omega)]; exact ha
          · rw [cx_snoc (by simp; omega), cx_end (by simp; omega)]; exact ha
      · exact d2 (by simp) p (by omega) c1
    · by_cases e1 : p = g2.ins.length
      · rw [hc4 p (by omega), cx_end (by omega)]; simp
      · by_cases e2 : p = g2.ins.length + 1
        · rw [cx_snoc (by simp; omega), cx_snoc (by simp; omega), cx_end (by simp; omega)]; exact ha
        · rw [cx_snoc (by simp; omega), cx_end (by simp; omega)]; exact ha

/-- All operations of statements. -/
def AllQ (Q : Nat → Prop) (part : Nat) : Prop := ∀ op, op ≤ 22 → op ≠ 9 → op ≠ 10 → (op = 8 → part < 2) → Q op

theorem does_call (hQ : AllQ Q part) (lv : List Bool) (c : Nat) : Does 1 Q part (stmC body (c + 15)) lv lv := by
  intro P g lvs hp hi
  show ∃ lvs', Inv P Q (if g.part < 2 then _ else g) lvs' lv ∧ (∀ p, p ≤ g.ins.length → cx lvs' lv p = cx lvs lv p) ∧ g.ins <+: (if g.part < 2 then _ else g : Gen).ins ∧ (if g.part < 2 then _ else g : Gen).part = g.part ∧ (if g.part < 2 then _ else g : Gen).ins.length ≤ g.ins.length + 1 ∧ (lv ≠ [] → ∀ p, g.ins.length ≤ p → p < (if g.part < 2 then _ else g : Gen).ins.length → cx lvs' lv p ≠ [])
  by_cases h : g.part < 2
  · rw [if_pos h]
    have h1 : Inv P Q (put (nx g) 8 0) (lvs ++ [lv]) lv := hi.nx.put 8 0 rfl ⟨by decide, fun _ _ => by decide, by omega, fun _ => rfl, hQ 8 (by decide) (by decide) (by decide) (fun _ => by omega)⟩ (by omega)
    refine ⟨lvs ++ [lv], ⟨h1.len, h1.ops, h1.jumps, h1.vals, ?_⟩, fun p hp => cx_snoc (by rw [hi.len]; exact hp), List.prefix_append _ _, rfl, by simp [put, nx], fun ha p h3 h4 => ?_⟩
    rotate_left
    · have : p = g.ins.length := by simp [put, nx] at h4; omega
      rw [cx_snoc (by rw [hi.len]; omega), cx_end (by rw [hi.len]; omega)]
      exact ha
    intro c hc
    rcases List.mem_append.1 hc with hc | hc
    · exact h1.calls c hc
    · simp at hc
      subst hc
      refine ⟨⟨0, snoc_last _ _⟩, ?_⟩
      show g.part + 1 + hd g % (2 - g.part) ≤ 2
      have := Nat.mod_lt (hd g) (show 2 - g.part > 0 by omega)
      omega
  · rw [if_neg h]
    exact ⟨lvs, hi, fun _ _ => rfl, List.prefix_refl _, rfl, by omega, fun _ p h1 h2 => absurd h2 (Nat.not_lt.2 h1)⟩

theorem does_stmC (hQ : AllQ Q part) (hb : ∀ a, Does n Q part body a a) (lv : List Bool) (c : Nat) : Does (n + 8) Q part (stmC body c) lv lv := by
  have q : ∀ op, op ≤ 22 → op ≠ 8 → op ≠ 9 → op ≠ 10 → Q op := fun op h h8 h9 h10 => hQ op h h9 h10 (fun e => absurd e h8)
  have one : ∀ (op : Nat) (x : Int) (a d : List Bool), Flow2 op a d → op ≤ 22 ∧ op ≠ 8 ∧ op ≠ 9 ∧ op ≠ 10 ∧ op ≠ 11 ∧ op ≠ 14 → -300 ≤ x → x ≤ 300 → Does 1 Q part (fun g => put g op x) a d :=
    fun op x a d hf h b c => does_put op x hf ⟨h.1, ⟨b, c⟩, q op h.1 h.2.1 h.2.2.1 h.2.2.2.1⟩ ⟨h.2.2.2.2.1, h.2.2.2.2.2, h.2.2.2.1, h.2.1⟩
  have kk : Does 2 Q part (fun g => put (put (nx g) 0 (kindOf (hd g))) 1 (kindOf (hd g))) lv lv :=
    does_of (A := { k : Int // -300 ≤ k ∧ k ≤ 300 }) (fun g => ⟨kindOf (hd g), kindOf_range _⟩) (fun k g => put (put (nx g) 0 k.1) 1 k.1) (fun _ => rfl) (fun k => ((does_nx Q part lv).trans (one 0 k.1 lv lv rfl (by decide) k.2.1 k.2.2)).trans (one 1 k.1 lv lv rfl (by decide) k.2.1 k.2.2))
  have kr : Does 1 Q part (fun g => put (nx g) 0 (kindOf (hd g))) lv lv :=
    does_of (A := { k : Int // -300 ≤ k ∧ k ≤ 300 }) (fun g => ⟨kindOf (hd g), kindOf_range _⟩) (fun k g => put (nx g) 0 k.1) (fun _ => rfl) (fun k => (does_nx Q part lv).trans (one 0 k.1 lv lv rfl (by decide) k.2.1 k.2.2))
  have ks : Does 1 Q part (fun g => put (nx g) 1 (kindOf (hd g))) lv lv :=
    does_of (A := { k : Int // -300 ≤ k ∧ k ≤ 300 }) (fun g => ⟨kindOf (hd g), kindOf_range _⟩) (fun k g => put (nx g) 1 k.1) (fun _ => rfl) (fun k => (does_nx Q part lv).trans (one 1 k.1 lv lv rfl (by decide) k.2.1 k.2.2))
  have nul : Does 1 Q part nulled (true :: lv) (true :: lv) := by
    refine does_of (A := Bool) (fun g => decide (hd g % 4 = 0)) (fun b g => if b then put (nx g) 4 0 else nx g) (fun g => ?_) (fun b => ?_)
    · show nulled g = if decide (hd g % 4 = 0) then _ else _
      unfold nulled
      by_cases h : hd g % 4 = 0 <;> simp [h]
    · cases b with
      | true => exact (does_nx Q part _).trans (one 4 0 _ _ ⟨⟨lv, rfl⟩, rfl⟩ (by decide) (by decide) (by decide))
      | false => exact (does_nx Q part _).mono (by decide)
  have ent : Does (n + 3) Q part (fun g => put (nulled (body (put (nx g) 2 ((hd g % 6 : Nat) : Int)))) 3 0) lv lv := by
    refine does_of (A := { k : Int // -300 ≤ k ∧ k ≤ 300 }) (fun g => ⟨((hd g % 6 : Nat) : Int), by omega⟩) (fun k g => put (nulled (body (put (nx g) 2 k.1))) 3 0) (fun _ => rfl) (fun k => ?_)
    exact (((((does_nx Q part lv).trans (one 2 k.1 lv (true :: lv) rfl (by decide) k.2.1 k.2.2)).trans (hb _)).trans nul).trans (one 3 0 (true :: lv) lv rfl (by decide) (by decide) (by decide))).mono (by omega)
  have big : Does (n + 7) Q part (fun g => gLoop body (put (nx g) 15 ((hd g % 4 : Nat) : Int))) lv lv := by
    refine does_of (A := { k : Int // -300 ≤ k ∧ k ≤ 300 }) (fun g => ⟨((hd g % 4 : Nat) : Int), by omega⟩) (fun k g => gLoop body (put (nx g) 15 k.1)) (fun _ => rfl) (fun k => ?_)
    exact (((does_nx Q part lv).trans (one 15 k.1 lv lv rfl (by decide) k.2.1 k.2.2)).trans (does_loop ⟨q 11 (by decide) (by decide) (by decide) (by decide), q 12 (by decide) (by decide) (by decide) (by decide), q 14 (by decide) (by decide) (by decide) (by decide), q 16 (by decide) (by decide) (by decide) (by decide), q 19 (by decide) (by decide) (by decide) (by decide), q 20 (by decide) (by decide) (by decide) (by decide)⟩ hb lv)).mono (by omega)
  match c with
  | 0 => exact kr.mono (by omega)
  | 1 => exact ks.mono (by omega)
  | 2 => exact kk.mono (by omega)
  | 3 => exact kk.mono (by omega)
  | 4 => exact kk.mono (by omega)
  | 5 => exact kk.mono (by omega)
  | 6 => exact ent.mono (by omega)
  | 7 => exact ent.mono (by omega)
  | 8 => exact (((one 5 0 lv (true :: lv) rfl (by decide) (by decide) (by decide)).trans (hb _)).trans (one 3 0 (true :: lv) lv rfl (by decide) (by decide) (by decide))).mono (by omega)
  | 9 => exact ((((one 0 8 lv lv rfl (by decide) (by decide) (by decide)).trans (one 6 0 lv (true :: lv) rfl (by decide) (by decide) (by decide))).trans (hb _)).trans (one 3 0 (true :: lv) lv rfl (by decide) (by decide) (by decide))).mono (by omega)
  | 10 =>
    refine (show Does 1 Q part (stmC body 10) lv lv from ?_).mono (by omega)
    refine does_of (A := Fin 4 × { k : Int // -300 ≤ k ∧ k ≤ 300 }) (fun g => (⟨hd g % 4, Nat.mod_lt _ (by decide)⟩, ⟨((hd (nx g) % 9 : Nat) : Int) - 3, by omega⟩)) (fun k g => put (nx (nx g)) (longOps.getD k.1.1 0) k.2.1) (fun _ => rfl) (fun k => ?_)
    obtain ⟨⟨a, ha⟩, k, hk⟩ := k
    have hn := (does_nx Q part lv).trans (does_nx Q part lv)
    match a, ha with
    | 0, _ => exact hn.trans (one 15 k lv lv rfl (by decide) hk.1 hk.2)
    | 1, _ => exact hn.trans (one 16 k lv lv rfl (by decide) hk.1 hk.2)
    | 2, _ => exact hn.trans (one 17 k lv lv rfl (by decide) hk.1 hk.2)
    | 3, _ => exact hn.trans (one 18 k lv lv rfl (by decide) hk.1 hk.2)
  | 11 =>
    refine (show Does 1 Q part (stmC body 11) lv lv from ?_).mono (by omega)
    refine does_of (A := Fin 4 × { k : Int // -300 ≤ k ∧ k ≤ 300 }) (fun g => (⟨hd g % 4, Nat.mod_lt _ (by decide)⟩, ⟨((hd (nx g) % 6 : Nat) : Int), by omega⟩)) (fun k g => put (nx (nx g)) (setOps.getD k.1.1 0) k.2.1) (fun _ => rfl) (fun k => ?_)
    obtain ⟨⟨a, ha⟩, k, hk⟩ := k
    have hn := (does_nx Q part lv).trans (does_nx Q part lv)
    match a, ha with
    | 0, _ => exact hn.trans (one 7 k lv lv rfl (by decide) hk.1 hk.2)
    | 1, _ => exact hn.trans (one 21 k lv lv rfl (by decide) hk.1 hk.2)
    | 2, _ => exact hn.trans (one 22 k lv lv rfl (by decide) hk.1 hk.2)
    | 3, _ => exact hn.trans (one 1 k lv lv rfl (by decide) hk.1 hk.2)
  | 12 =>
    refine (show Does (n + 2) Q part (stmC body 12) lv lv from ?_).mono (by omega)
    refine does_of (A := Bool × { k : Int // -300 ≤ k ∧ k ≤ 300 }) (fun g => (decide (hd g % 2 = 0), ⟨((hd (nx g) % 5 : Nat) : Int) - 1, by omega⟩)) (fun k g => cond body (put (nx (nx g)) (if k.1 then 12 else 13) k.2.1)) (fun g => ?_) (fun k => ?_)
    · show cond body (put (nx (nx g)) (if hd g % 2 = 0 then 12 else 13) _) = cond body (put (nx (nx g)) (if decide (hd g % 2 = 0) then 12 else 13) _)
      by_cases h : hd g % 2 = 0 <;> simp [h]
    · obtain ⟨b, k, hk⟩ := k
      have hn := (does_nx Q part lv).trans (does_nx Q part lv)
      have hcd := does_cond (q 14 (by decide) (by decide) (by decide) (by decide)) hb lv
      cases b with
      | true => exact ((hn.trans (one 12 k lv lv rfl (by decide) hk.1 hk.2)).trans hcd).mono (by omega)
      | false => exact ((hn.trans (one 13 k lv lv rfl (by decide) hk.1 hk.2)).trans hcd).mono (by omega)
  | 13 => exact big.mono (by omega)
  | 14 => exact big.mono (by omega)
  | c + 15 => exact (does_call hQ lv c).mono (by omega)

theorem does_bodyN {st : Gen → Gen} (hs : ∀ a, Does n Q part st a a) (lv : List Bool) : ∀ k, Does (k * n) Q part (bodyN st k) lv lv
  | 0 => (does_id Q part lv).mono (by omega)
  | k + 1 => by
    refine does_of (A := Bool) (fun g => decide (g.code ≠ [] ∧ g.ins.length < 120)) (fun b g => if b then bodyN st k (st g) else g) (fun g => ?_) (fun b => ?_)
    · show (if g.code ≠ [] ∧ g.ins.length < 120 then _ else _) = if decide (g.code ≠ [] ∧ g.ins.length < 120) then _ else _
      by_cases h : g.code ≠ [] ∧ g.ins.length < 120 <;> simp [h]
    · cases b with
      | true => exact ((hs lv).trans (does_bodyN hs lv k)).mono (by rw [Nat.succ_mul]; omega)
      | false => exact (does_id Q part lv).mono (by omega)

def sizeS : Nat → Nat
  | 0 => 8
  | k + 1 => 4 * sizeS k + 8

theorem does_bodyOf {st : Gen → Gen} (hs : ∀ a, Does n Q part st a a) (lv : List Bool) : Does (4 * n) Q part (fun g => bodyN st (hd g % 5) (nx g)) lv lv := by
  refine does_of (A := Fin 5) (fun g => ⟨hd g % 5, Nat.mod_lt _ (by decide)⟩) (fun k g => bodyN st k.1 (nx g)) (fun _ => rfl) (fun k => ?_)
  exact ((does_nx Q part lv).trans (does_bodyN hs lv k.1)).mono (by have := Nat.mul_le_mul_right n (show k.1 ≤ 4 by omega); omega)

theorem does_stm {last : Bool} (hQ : AllQ Q part) (hb : ∀ a, Does n Q part body a a) (lv : List Bool) : Does (n + 8) Q part (stm last body) lv lv := by
  refine does_of (A := Nat) (fun g => cOf last (hd g)) (fun c g => stmC body c (nx g)) (fun _ => rfl) (fun c => ?_)
  exact ((does_nx Q part lv).trans (does_stmC hQ hb lv c)).mono (by omega)

theorem does_gStm (hQ : AllQ Q part) : ∀ (k : Nat) (lv : List Bool), Does (sizeS k) Q part (gStm k) lv lv
  | 0, lv => (does_stm hQ (fun a => does_id Q part a) lv).mono (by decide)
  | k + 1, lv => does_stm hQ (fun a => does_bodyOf (does_gStm hQ k) a) lv

theorem does_gBody (hQ : AllQ Q part) (k : Nat) (lv : List Bool) : Does (4 * sizeS k) Q part (gBody k) lv lv := does_bodyOf (does_gStm hQ k) lv
end
end Go.Proofs.YtkhicabfmkldpaaDoor

namespace Go.Proofs.YtkhicabfmkldpaaDoor
open Go Go.RowKit

/-- What is noted stays; what was read is gone. -/
structure Grows (s s' : St) : Prop where
  notes : s.notes <+: s'.notes
  rest : s'.rest.length ≤ s.rest.length

theorem Grows.refl (s : St) : Grows s s := ⟨List.prefix_refl _, Nat.le_refl _⟩
theorem Grows.trans {a b c : St} (h : Grows a b) (k : Grows b c) : Grows a c := ⟨h.notes.trans k.notes, Nat.le_trans k.rest h.rest⟩

theorem lg_le {mx : Nat} : ∀ {i : Nat} {acc : Int} {l : List UInt8} {u : Int} {r : List UInt8}, lg mx i acc l = .ok u r → r.length < l.length
  | _, _, [], _, _, h => by simp [lg] at h
  | i, acc, b :: l, u, r, h => by
    unfold lg at h
    split at h
    · cases h
    · split at h
      · cases h; simp
      · have := lg_le h; simp; omega

theorem grows_ite {c : Prop} [Decidable c] {s : St} {p q : Regs × St} (hp : Grows s p.2) (hq : Grows s q.2) : Grows s (if c then p else q).2 := by split <;> assumption

theorem rd_grows (mx : Nat) (k : Int) (r : Regs) (s : St) : Grows s (rd mx k r s).2 := by
  have O : ∀ r' : Regs, Grows s ((r', { s with odd := true }) : Regs × St).2 := fun r' => ⟨List.prefix_refl _, Nat.le_refl _⟩
  have B : ∀ r' : Regs, Grows s ((r', { s with bad := 1 }) : Regs × St).2 := fun r' => ⟨List.prefix_refl _, Nat.le_refl _⟩
  have T : ∀ (r' : Regs) (t : List UInt8), t.length ≤ s.rest.length → Grows s ((r', { s with rest := t }) : Regs × St).2 := fun r' t h => ⟨List.prefix_refl _, h⟩
  unfold rd
  refine grows_ite (Grows.refl s) (grows_ite ?_ (grows_ite ?_ (grows_ite ?_ (grows_ite ?_ (grows_ite (grows_ite (B r) (T _ _ (by simp))) (grows_ite (grows_ite (B r) (T _ _ (by simp))) (grows_ite ?_ (grows_ite (grows_ite (B r) (T _ _ (by simp))) (O r)))))))))
  · have h : ∀ l, l = s.rest → Grows s ((match l with | [] => (r, { s with odd := true }) | b :: t => ({ r with truth := (b.toNat : Int) == 1 }, { s with rest := t }) : Regs × St)).2 := by
      intro l hl
      cases l with
      | nil => exact O r
      | cons b t => exact T _ _ (by rw [← hl]; simp)
    exact h _ rfl
  · cases hr : lg mx 0 0 s.rest with
    | ok u t => exact grows_ite (T _ _ (Nat.le_of_lt (lg_le hr))) (O r)
    | eof =>
      by_cases h : s.rest.length ≤ 5
      · simp only [h, if_true]; exact B r
      · simp only [h, if_false]; exact O r
    | odd => exact O r
  · cases hr : lg mx 0 0 s.rest with
    | ok u t => exact T _ _ (Nat.le_of_lt (lg_le hr))
    | eof => exact B r
    | odd => exact O r
  · cases hr : lg mx 0 0 s.rest with
    | ok u t => exact T _ _ (Nat.le_of_lt (lg_le hr))
    | eof => exact B r
    | odd => exact O r
  · cases hr : lg mx 0 0 s.rest with
    | ok u t => exact grows_ite (O r) (grows_ite (B r) (T _ _ (by have := lg_le hr; simp; omega)))
    | eof => exact B r
    | odd => exact O r

theorem note_grows (s : St) (nm : ByteArray) (tgt n : Int) (t : ByteArray) : Grows s (s.note nm tgt n t) := ⟨List.prefix_append _ _, Nat.le_refl _⟩

theorem st_grows (k tgt : Int) (r : Regs) (s : St) : Grows s (st k tgt r s) := by
  unfold st
  repeat' split
  all_goals first | exact note_grows _ _ _ _ _ | exact Grows.refl _

theorem simple_grows (mx op : Nat) (x tgt : Int) (r : Regs) (s : St) : Grows s (simple mx op x tgt r s).2 := by
  unfold simple
  split
  · exact rd_grows mx x r s
  · exact st_grows x tgt r s
  all_goals (try split)
  all_goals first | exact note_grows _ _ _ _ _ | exact ⟨List.prefix_refl _, Nat.le_refl _⟩

theorem tick_grows (s : St) : Grows s s.tick := ⟨List.prefix_refl _, Nat.le_refl _⟩
theorem enter_grows (s : St) (nm : ByteArray) (tgt n : Int) (t : ByteArray) : Grows s (s.tick.enter nm tgt n t) := ⟨List.prefix_append _ _, Nat.le_refl _⟩

theorem lev_grows (mx : Nat) (ins : List (Nat × Int)) : ∀ (f : Nat) (r : Regs) (tgt outer field : Int) (null kind : Bool) (s : St), Grows s (lev mx ins f r tgt outer field null kind s)
  | 0, _, _, _, _, _, _, s => ⟨List.prefix_refl _, Nat.le_refl _⟩
  | f + 1, r, tgt, outer, field, null, kind, s => by
    unfold lev
    split
    · split
      · exact Grows.refl s
      · rename_i op x _
        split
        · exact ⟨List.prefix_refl _, Nat.le_refl _⟩
        · split
          · exact ((enter_grows s _ _ _ _).trans (lev_grows mx ins f _ _ _ _ _ _ _)).trans (lev_grows mx ins f _ _ _ _ _ _ _)
          · unfold St.leave
            cases null
            · exact (tick_grows s).trans (note_grows s.tick nmFinalize tgt 0 ⟨#[]⟩)
            · exact (note_grows s nmFinalize tgt 0 ⟨#[]⟩).trans ⟨List.prefix_append _ _, Nat.le_refl _⟩
          · exact (tick_grows s).trans (lev_grows mx ins f _ _ _ _ _ _ _)
          · exact ((enter_grows s _ _ _ _).trans (lev_grows mx ins f _ _ _ _ _ _ _)).trans (lev_grows mx ins f _ _ _ _ _ _ _)
          · exact ((enter_grows s _ _ _ _).trans (lev_grows mx ins f _ _ _ _ _ _ _)).trans (lev_grows mx ins f _ _ _ _ _ _ _)
          · have h1 : Grows s { s.tick with pc := x } := ⟨List.prefix_refl _, Nat.le_refl _⟩
            have h2 := h1.trans (lev_grows mx ins f regs0 tgt outer field false false { s.tick with pc := x })
            exact (show Grows s { lev mx ins f regs0 tgt outer field false false { s.tick with pc := x } with pc := s.pc + 1 } from ⟨h2.notes, h2.rest⟩).trans (lev_grows mx ins f _ _ _ _ _ _ _)
          · exact tick_grows s
          · exact ⟨List.prefix_refl _, Nat.le_refl _⟩
          · exact ((tick_grows s).trans (lev_grows mx ins f _ _ _ _ _ _ _)).trans (lev_grows mx ins f _ _ _ _ _ _ _)
          · exact tick_grows s
          · exact ((tick_grows s).trans (simple_grows _ _ _ _ _ _)).trans (lev_grows mx ins f _ _ _ _ _ _ _)
    · exact Grows.refl s

/-- The same state, over more data. -/
def ext (E : List UInt8) (s : St) : St := { s with rest := s.rest ++ E }

theorem lg_ext {mx : Nat} {E : List UInt8} : ∀ {i : Nat} {acc : Int} {l : List UInt8}, (∀ u r, lg mx i acc l = .ok u r → lg mx i acc (l ++ E) = .ok u (r ++ E)) ∧ (lg mx i acc l = .odd → lg mx i acc (l ++ E) = .odd) ∧ (lg mx i acc l = .eof → ∀ u r, lg mx i acc (l ++ E) = .ok u r → r.length < E.length)
  | i, acc, [] => ⟨fun u r h => by simp [lg] at h, fun h => by simp [lg] at h, fun _ u r h => lg_le h⟩
  | i, acc, b :: l => by
    have ih := lg_ext (mx := mx) (E := E) (i := i + 1) (acc := orS .u64 acc b i) (l := l)
    show (∀ u r, (if mx ≤ i then LR.odd else if b.toNat < 128 then LR.ok (orS .u64 acc b i) l else lg mx (i + 1) (orS .u64 acc b i) l) = .ok u r → (if mx ≤ i then LR.odd else if b.toNat < 128 then LR.ok (orS .u64 acc b i) (l ++ E) else lg mx (i + 1) (orS .u64 acc b i) (l ++ E)) = .ok u (r ++ E)) ∧
      ((if mx ≤ i then LR.odd else if b.toNat < 128 then LR.ok (orS .u64 acc b i) l else lg mx (i + 1) (orS .u64 acc b i) l) = .odd → (if mx ≤ i then LR.odd else if b.toNat < 128 then LR.ok (orS .u64 acc b i) (l ++ E) else lg mx (i + 1) (orS .u64 acc b i) (l ++ E)) = .odd) ∧
      ((if mx ≤ i then LR.odd else if b.toNat < 128 then LR.ok (orS .u64 acc b i) l else lg mx (i + 1) (orS .u64 acc b i) l) = .eof → ∀ u r, (if mx ≤ i then LR.odd else if b.toNat < 128 then LR.ok (orS .u64 acc b i) (l ++ E) else lg mx (i + 1) (orS .u64 acc b i) (l ++ E)) = .ok u r → r.length < E.length)
    by_cases h1 : mx ≤ i
    · simp [h1]
    · by_cases h2 : b.toNat < 128
      · simp only [h1, h2, if_true, if_false]
        refine ⟨fun u r h => ?_, fun h => (LR.noConfusion h), fun h => (LR.noConfusion h)⟩
        cases h
        rfl
      · simp only [h1, h2, if_false]
        exact ih

/-- How two steps over less and over more data are to one another. -/
def Cut (E : List UInt8) (p q : Regs × St) : Prop :=
  p.2.odd = true ∨ q.2.odd = true ∨ (q.2 = ext E p.2 ∧ q.1 = p.1) ∨ (p.2.bad = 1 ∧ p.2.notes <+: q.2.notes ∧ (q.2.bad = 0 → q.2.rest.length < E.length))

theorem cut_ite {c d : Prop} [Decidable c] [Decidable d] {E : List UInt8} {p q p' q' : Regs × St} (h : c ↔ d) (h1 : Cut E p p') (h2 : Cut E q q') : Cut E (if c then p else q) (if d then p' else q') := by
  by_cases hc : c
  · rw [if_pos hc, if_pos (h.1 hc)]; exact h1
  · rw [if_neg hc, if_neg (fun e => hc (h.2 e))]; exact h2

theorem rd_cut (mx : Nat) (k : Int) (r : Regs) (s : St) (E : List UInt8) (hb : s.bad = 0) : Cut E (rd mx k r s) (rd mx k r (ext E s)) := by
  have same : ∀ (r' : Regs) (s1 : St), Cut E (r', s1) (r', ext E s1) := fun r' s1 => .inr (.inr (.inl ⟨rfl, rfl⟩))
  have oddL : ∀ (r' : Regs) (q : Regs × St), Cut E (r', { s with odd := true }) q := fun r' q => .inl rfl
  have oddR : ∀ (r' : Regs) (p : Regs × St), Cut E p (r', { ext E s with odd := true }) := fun r' p => .inr (.inl rfl)
  have bad : ∀ (r' : Regs) (q : Regs × St), q.2.notes = s.notes → (q.2.bad = 0 → q.2.rest.length < E.length) → Cut E (r', { s with bad := 1 }) q := fun r' q h1 h2 => .inr (.inr (.inr ⟨rfl, by rw [h1]; exact List.prefix_refl _, h2⟩))
  have hle : (ext E s).rest.length = s.rest.length + E.length := by simp [ext]
  have fixd : ∀ (n : Nat) (f : List UInt8 → Regs), Cut E (if s.rest.length < n then (r, { s with bad := 1 }) else (f (s.rest.take n), { s with rest := s.rest.drop n })) (if (ext E s).rest.length < n then (r, { ext E s with bad := 1 }) else (f ((ext E s).rest.take n), { ext E s with rest := (ext E s).rest.drop n })) := by
    intro n f
    by_cases h : s.rest.length < n
    · rw [if_pos h]
      by_cases h2 : (ext E s).rest.length < n
      · rw [if_pos h2]; exact bad _ _ rfl (fun h => absurd h Nat.one_ne_zero)
      · rw [if_neg h2]
        refine bad _ _ rfl (fun _ => ?_)
        show ((ext E s).rest.drop n).length < E.length
        rw [List.length_drop, hle]; omega
    · rw [if_neg h, if_neg (by rw [hle]; omega)]
      refine .inr (.inr (.inl ⟨?_, ?_⟩))
      · show { ext E s with rest := (s.rest ++ E).drop n } = ext E { s with rest := s.rest.drop n }
        rw [List.drop_append_of_le_length (by omega)]; rfl
      · show f ((s.rest ++ E).take n) = f (s.rest.take n)
        rw [List.take_append_of_le_length (by omega)]
  have lgc := lg_ext (mx := mx) (E := E) (i := 0) (acc := 0) (l := s.rest)
  unfold rd
  refine cut_ite Iff.rfl (same _ _) (cut_ite Iff.rfl ?_ (cut_ite Iff.rfl ?_ (cut_ite Iff.rfl ?_ (cut_ite Iff.rfl ?_ (cut_ite Iff.rfl (fixd 4 (fun l => { r with float := leN l })) (cut_ite Iff.rfl (fixd 8 (fun l => { r with double := leN l })) (cut_ite Iff.rfl ?_ (cut_ite Iff.rfl ?_ (oddL _ _)))))))))
  · have h : ∀ l, l = s.rest → Cut E ((match l with | [] => (r, { s with odd := true }) | b :: t => ({ r with truth := (b.toNat : Int) == 1 }, { s with rest := t }) : Regs × St)) ((match l ++ E with | [] => (r, { ext E s with odd := true }) | b :: t => ({ r with truth := (b.toNat : Int) == 1 }, { ext E s with rest := t }) : Regs × St)) := by
      intro l hl
      cases l with
      | nil => exact oddL r _
      | cons b t => exact .inr (.inr (.inl ⟨rfl, rfl⟩))
    exact h _ rfl
  · show Cut E (match lg mx 0 0 s.rest with | .ok u t => _ | .eof => _ | .odd => _) (match lg mx 0 0 (s.rest ++ E) with | .ok u t => _ | .eof => _ | .odd => _)
    cases hr : lg mx 0 0 s.rest with
    | odd => exact oddL r _
    | ok u t =>
      rw [lgc.1 u t hr]
      exact cut_ite (by rw [hle, List.length_append]; omega) (same _ _) (oddL r _)
    | eof =>
      by_cases h5 : s.rest.length ≤ 5
      · simp only [h5, if_true]
        cases hq : lg mx 0 0 (s.rest ++ E) with
        | odd => exact oddR r _
        | eof =>
          by_cases h6 : (ext E s).rest.length ≤ 5
          · simp only [h6, if_true]; exact bad _ _ rfl (fun h => absurd h Nat.one_ne_zero)
          · simp only [h6, if_false]; exact oddR r _
        | ok u t =>
          have h7 := lgc.2.2 hr u t hq
          by_cases h6 : zig u ≤ 2147483647 ∧ -2147483648 ≤ zig u ∧ (ext E s).rest.length ≤ t.length + 5
          · simp only [h6, and_self, if_true]; exact bad _ _ rfl (fun _ => h7)
          · simp only [h6, if_false]; exact oddR r _
      · simp only [h5, if_false]; exact oddL r _
  · show Cut E (match lg mx 0 0 s.rest with | .ok u t => _ | .eof => _ | .odd => _) (match lg mx 0 0 (s.rest ++ E) with | .ok u t => _ | .eof => _ | .odd => _)
    cases hr : lg mx 0 0 s.rest with
    | odd => exact oddL r _
    | ok u t => rw [lgc.1 u t hr]; exact same _ _
    | eof =>
      cases hq : lg mx 0 0 (s.rest ++ E) with
      | odd => exact oddR r _
      | eof => exact bad _ _ rfl (fun h => absurd h Nat.one_ne_zero)
      | ok u t => exact bad _ _ rfl (fun _ => lgc.2.2 hr u t hq)
  · show Cut E (match lg mx 0 0 s.rest with | .ok u t => _ | .eof => _ | .odd => _) (match lg mx 0 0 (s.rest ++ E) with | .ok u t => _ | .eof => _ | .odd => _)
    cases hr : lg mx 0 0 s.rest with
    | odd => exact oddL r _
    | ok u t => rw [lgc.1 u t hr]; exact same _ _
    | eof =>
      cases hq : lg mx 0 0 (s.rest ++ E) with
      | odd => exact oddR r _
      | eof => exact bad _ _ rfl (fun h => absurd h Nat.one_ne_zero)
      | ok u t => exact bad _ _ rfl (fun _ => lgc.2.2 hr u t hq)
  · show Cut E (match lg mx 0 0 s.rest with | .ok u t => _ | .eof => _ | .odd => _) (match lg mx 0 0 (s.rest ++ E) with | .ok u t => _ | .eof => _ | .odd => _)
    cases hr : lg mx 0 0 s.rest with
    | odd => exact oddL r _
    | ok u t =>
      rw [lgc.1 u t hr]
      refine cut_ite Iff.rfl (oddL r _) ?_
      have hal : (t ++ E).length = t.length + E.length := List.length_append
      by_cases h8 : (t.length : Int) < zig u
      · rw [if_pos h8]
        by_cases h9 : ((t ++ E).length : Int) < zig u
        · rw [if_pos h9]; exact bad _ _ rfl (fun h => absurd h Nat.one_ne_zero)
        · rw [if_neg h9]
          refine bad _ _ rfl (fun _ => ?_)
          show ((t ++ E).drop (zig u).toNat).length < E.length
          rw [List.length_drop]; rw [hal] at h9 ⊢
          omega
      · rw [if_neg h8, if_neg (show ¬ (((t ++ E).length : Int) < zig u) by rw [hal]; omega)]
        refine .inr (.inr (.inl ⟨?_, ?_⟩))
        · show { ext E s with rest := (t ++ E).drop (zig u).toNat } = ext E { s with rest := t.drop (zig u).toNat }
          rw [List.drop_append_of_le_length (by omega)]; rfl
        · show (if k = 7 then { r with bytes := (t ++ E).take (zig u).toNat } else { r with text := (t ++ E).take (zig u).toNat }) = (if k = 7 then { r with bytes := t.take (zig u).toNat } else { r with text := t.take (zig u).toNat })
          rw [List.take_append_of_le_length (by omega)]
    | eof =>
      cases hq : lg mx 0 0 (s.rest ++ E) with
      | odd => exact oddR r _
      | eof => exact bad _ _ rfl (fun h => absurd h Nat.one_ne_zero)
      | ok u t =>
        have h7 := lgc.2.2 hr u t hq
        show Cut E (r, { s with bad := 1 }) (if zig u < 0 ∨ 1000 < zig u then (r, { ext E s with odd := true }) else if (t.length : Int) < zig u then (r, { ext E s with bad := 1 }) else (if k = 7 then { r with bytes := t.take (zig u).toNat } else { r with text := t.take (zig u).toNat }, { ext E s with rest := t.drop (zig u).toNat }))
        by_cases h8 : zig u < 0 ∨ 1000 < zig u
        · rw [if_pos h8]; exact oddR r _
        · rw [if_neg h8]
          by_cases h9 : (t.length : Int) < zig u
          · rw [if_pos h9]; exact bad _ _ rfl (fun h => absurd h Nat.one_ne_zero)
          · rw [if_neg h9]
            refine bad _ _ rfl (fun _ => ?_)
            show (t.drop (zig u).toNat).length < E.length
            rw [List.length_drop]; omega
  · by_cases h8 : (s.rest.length : Int) < k - 11
    · rw [if_pos h8]
      by_cases h9 : ((ext E s).rest.length : Int) < k - 11
      · rw [if_pos h9]; exact bad _ _ rfl (fun h => absurd h Nat.one_ne_zero)
      · rw [if_neg h9]
        refine bad _ _ rfl (fun _ => ?_)
        show ((ext E s).rest.drop (k - 11).toNat).length < E.length
        rw [List.length_drop, hle]; omega
    · rw [if_neg h8, if_neg (by rw [hle]; omega)]
      refine .inr (.inr (.inl ⟨?_, ?_⟩))
      · show { ext E s with rest := (s.rest ++ E).drop (k - 11).toNat } = ext E { s with rest := s.rest.drop (k - 11).toNat }
        rw [List.drop_append_of_le_length (by omega)]; rfl
      · show ({ r with bytes := (s.rest ++ E).take (k - 11).toNat } : Regs) = { r with bytes := s.rest.take (k - 11).toNat }
        rw [List.take_append_of_le_length (by omega)]
end Go.Proofs.YtkhicabfmkldpaaDoor

namespace Go.Proofs.YtkhicabfmkldpaaDoor
open Go Go.RowKit

/-- How a run over less data (Y) is to one over more (X). -/
def CutS (E : List UInt8) (Y X : St) : Prop :=
  Y.odd = true ∨ X.odd = true ∨ Y.left = 0 ∨ X.left = 0 ∨ X = ext E Y ∨ (Y.bad = 1 ∧ Y.notes <+: X.notes ∧ (X.bad = 0 → X.rest.length < E.length))

/-- The same, with the registers. -/
def CutP (E : List UInt8) (p q : Regs × St) : Prop :=
  p.2.odd = true ∨ q.2.odd = true ∨ p.2.left = 0 ∨ q.2.left = 0 ∨ (q.2 = ext E p.2 ∧ q.1 = p.1) ∨ (p.2.bad = 1 ∧ p.2.notes <+: q.2.notes ∧ (q.2.bad = 0 → q.2.rest.length < E.length))

theorem Cut.toP {E : List UInt8} {p q : Regs × St} (h : Cut E p q) : CutP E p q := by
  rcases h with h | h | h | h
  · exact .inl h
  · exact .inr (.inl h)
  · exact .inr (.inr (.inr (.inr (.inl h))))
  · exact .inr (.inr (.inr (.inr (.inr h))))

theorem lev_odd {mx : Nat} {ins : List (Nat × Int)} {f : Nat} {r : Regs} {tgt outer field : Int} {null kind : Bool} {s : St} (h : s.odd = true) : (lev mx ins f r tgt outer field null kind s).odd = true := by
  cases ho : (lev mx ins f r tgt outer field null kind s).odd with
  | true => rfl
  | false =>
    have := (lev_later mx ins f r tgt outer field null kind s).odd ho
    rw [h] at this; cases this

theorem lev_left0 {mx : Nat} {ins : List (Nat × Int)} {f : Nat} {r : Regs} {tgt outer field : Int} {null kind : Bool} {s : St} (h : s.left = 0) : (lev mx ins f r tgt outer field null kind s).left = 0 := by
  have := (lev_later mx ins f r tgt outer field null kind s).left
  omega

theorem cut_next {mx : Nat} {ins : List (Nat × Int)} {E : List UInt8} {f : Nat} {tgt outer field : Int} {null kind : Bool}
    (ih : ∀ (r : Regs) (s : St), CutS E (lev mx ins f r tgt outer field null kind s) (lev mx ins f r tgt outer field null kind (ext E s)))
    {p q : Regs × St} (h : CutP E p q) : CutS E (lev mx ins f p.1 tgt outer field null kind p.2) (lev mx ins f q.1 tgt outer field null kind q.2) := by
  rcases h with h | h | h | h | h | ⟨hb, hn, hr⟩
  · exact .inl (lev_odd h)
  · exact .inr (.inl (lev_odd h))
  · exact .inr (.inr (.inl (lev_left0 h)))
  · exact .inr (.inr (.inr (.inl (lev_left0 h))))
  · obtain ⟨h1, h2⟩ := h
    rw [h1, h2]
    exact ih _ _
  · by_cases hf : f = 0
    · subst hf
      exact .inr (.inr (.inl (by unfold lev; rfl)))
    · rw [lev_bad (by rw [hb]; exact Nat.one_ne_zero) f hf]
      refine .inr (.inr (.inr (.inr (.inr ⟨hb, hn.trans (lev_grows mx ins f q.1 tgt outer field null kind q.2).notes, fun hx => ?_⟩))))
      by_cases hq : q.2.bad = 0
      · exact Nat.lt_of_le_of_lt (lev_grows mx ins f q.1 tgt outer field null kind q.2).rest (hr hq)
      · rw [lev_bad hq f hf] at hx
        exact absurd hx hq

theorem simple_cut (mx op : Nat) (x tgt : Int) (r : Regs) (s : St) (E : List UInt8) (hb : s.bad = 0) : Cut E (simple mx op x tgt r s) (simple mx op x tgt r (ext E s)) := by
  have same : ∀ (r' : Regs) (s1 : St), Cut E (r', s1) (r', ext E s1) := fun r' s1 => .inr (.inr (.inl ⟨rfl, rfl⟩))
  unfold simple
  split
  · exact rd_cut mx x r s E hb
  · have h : st x tgt r (ext E s) = ext E (st x tgt r s) := by
      unfold st
      repeat' split
      all_goals rfl
    rw [h]; exact same _ _
  · exact same _ _
  · exact same _ _
  · exact same _ _
  · exact same _ _
  · split <;> exact same _ _
  · exact same _ _
  · exact same _ _
  · exact same _ _
  · exact same _ _
  · exact same _ _
  · exact same _ _
  · exact same _ _

theorem lev_cut (mx : Nat) (ins : List (Nat × Int)) (E : List UInt8) : ∀ (f : Nat) (r : Regs) (tgt outer field : Int) (null kind : Bool) (s : St),
    CutS E (lev mx ins f r tgt outer field null kind s) (lev mx ins f r tgt outer field null kind (ext E s))
  | 0, r, tgt, outer, field, null, kind, s => .inr (.inr (.inl (by unfold lev; rfl)))
  | f + 1, r, tgt, outer, field, null, kind, s => by
    have ih := lev_cut mx ins E f
    have same : ∀ s1, CutS E s1 (ext E s1) := fun s1 => .inr (.inr (.inr (.inr (.inl rfl))))
    have sub : ∀ {Y X : St} (r' : Regs), CutS E Y X → CutP E (r', Y) (r', X) := by
      intro Y X r' h
      rcases h with h | h | h | h | h | h
      · exact .inl h
      · exact .inr (.inl h)
      · exact .inr (.inr (.inl h))
      · exact .inr (.inr (.inr (.inl h)))
      · exact .inr (.inr (.inr (.inr (.inl ⟨h, rfl⟩))))
      · exact .inr (.inr (.inr (.inr (.inr h))))
    by_cases hb : s.bad = 0 ∧ s.odd = false
    · cases hfe : fetch ins s.pc with
      | none =>
        rw [lev_none hb.1 hb.2 hfe, lev_none (s := ext E s) hb.1 hb.2 hfe]
        exact same s
      | some ox =>
        obtain ⟨op, x⟩ := ox
        by_cases hl1 : s.left ≤ 1
        · refine .inr (.inr (.inl ?_))
          unfold lev
          rw [if_pos hb, hfe]
          show (if s.left ≤ 1 then ({ s with left := 0 } : St) else _).left = 0
          rw [if_pos hl1]
        · rw [lev_step hb.1 hb.2 hfe hl1, lev_step (s := ext E s) hb.1 hb.2 hfe hl1]
          match op with
          | 2 => exact cut_next (ih · _ _ _ _ _ ·) (sub r (ih regs0 (s.tg + 1) tgt x false true (s.tick.enter nmGet tgt x ⟨#[]⟩)))
          | 3 =>
            refine .inr (.inr (.inr (.inr (.inl ?_))))
            unfold St.leave
            cases null <;> rfl
          | 4 => exact cut_next (ih · _ _ _ _ _ ·) (sub r (same s.tick))
          | 5 => exact cut_next (ih · _ _ _ _ _ ·) (sub r (ih regs0 (s.tg + 1) tgt (-1) false true (s.tick.enter nmAppendArray tgt 0 ⟨#[]⟩)))
          | 6 => exact cut_next (ih · _ _ _ _ _ ·) (sub r (ih regs0 (s.tg + 1) tgt (-1) false true (s.tick.enter nmAppendMap tgt 0 (strOf r.text))))
          | 8 =>
            have h1 := ih regs0 tgt outer field false false { s.tick with pc := x }
            refine cut_next (ih · _ _ _ _ _ ·) (p := (r, { lev mx ins f regs0 tgt outer field false false { s.tick with pc := x } with pc := s.pc + 1 })) (q := (r, { lev mx ins f regs0 tgt outer field false false (ext E { s.tick with pc := x }) with pc := s.pc + 1 })) (sub r ?_)
            rcases h1 with h | h | h | h | h | h
            · exact .inl h
            · exact .inr (.inl h)
            · exact .inr (.inr (.inl h))
            · exact .inr (.inr (.inr (.inl h)))
            · rw [h]; exact same { lev mx ins f regs0 tgt outer field false false { s.tick with pc := x } with pc := s.pc + 1 }
            · exact .inr (.inr (.inr (.inr (.inr h))))
          | 9 => exact same _
          | 10 => exact same { s.tick with bad := if 0 < x then x.toNat + 2 else 0 }
          | 19 => exact cut_next (ih · _ _ _ _ _ ·) (sub r (ih regs0 tgt outer field false false s.tick))
          | 20 => exact same _
          | 0 => exact cut_next (ih · _ _ _ _ _ ·) (simple_cut mx 0 x tgt r s.tick E hb.1).toP
          | 1 => exact cut_next (ih · _ _ _ _ _ ·) (simple_cut mx 1 x tgt r s.tick E hb.1).toP
          | 7 => exact cut_next (ih · _ _ _ _ _ ·) (simple_cut mx 7 x tgt r s.tick E hb.1).toP
          | 11 => exact cut_next (ih · _ _ _ _ _ ·) (simple_cut mx 11 x tgt r s.tick E hb.1).toP
          | 12 => exact cut_next (ih · _ _ _ _ _ ·) (simple_cut mx 12 x tgt r s.tick E hb.1).toP
          | 13 => exact cut_next (ih · _ _ _ _ _ ·) (simple_cut mx 13 x tgt r s.tick E hb.1).toP
          | 14 => exact cut_next (ih · _ _ _ _ _ ·) (simple_cut mx 14 x tgt r s.tick E hb.1).toP
          | 15 => exact cut_next (ih · _ _ _ _ _ ·) (simple_cut mx 15 x tgt r s.tick E hb.1).toP
          | 16 => exact cut_next (ih · _ _ _ _ _ ·) (simple_cut mx 16 x tgt r s.tick E hb.1).toP
          | 17 => exact cut_next (ih · _ _ _ _ _ ·) (simple_cut mx 17 x tgt r s.tick E hb.1).toP
          | 18 => exact cut_next (ih · _ _ _ _ _ ·) (simple_cut mx 18 x tgt r s.tick E hb.1).toP
          | 21 => exact cut_next (ih · _ _ _ _ _ ·) (simple_cut mx 21 x tgt r s.tick E hb.1).toP
          | 22 => exact cut_next (ih · _ _ _ _ _ ·) (simple_cut mx 22 x tgt r s.tick E hb.1).toP
          | n + 23 => exact cut_next (ih · _ _ _ _ _ ·) (simple_cut mx (n + 23) x tgt r s.tick E hb.1).toP
    · have h2 : lev mx ins (f + 1) r tgt outer field null kind s = s := by unfold lev; rw [if_neg hb]
      have h3 : lev mx ins (f + 1) r tgt outer field null kind (ext E s) = ext E s := by unfold lev; exact if_neg hb
      rw [h2, h3]
      exact same s
end Go.Proofs.YtkhicabfmkldpaaDoor

namespace Go.Proofs.YtkhicabfmkldpaaDoor
open Go Go.RowKit

/-- The state at the start. -/
def start (data : List UInt8) (left : Nat) : St := ⟨0, data, [], 0, left, 0, false, false⟩

def gen0 (code : List UInt8) (part : Nat) : Gen := ⟨code, [], [], part⟩
theorem inv0 (P Q : Nat → Prop) (code : List UInt8) (part : Nat) (lv : List Bool) : Inv P Q (gen0 code part) [] lv :=
  ⟨rfl, fun p op x h => by simp [gen0] at h, fun p op x h => by simp [gen0] at h, fun p op x h => by simp [gen0] at h, fun c h => by simp [gen0] at h⟩

def mainOf (code : List UInt8) : Gen := put (gBody 3 (gStm 3 (gen0 (code.take 150) 0))) 10 0
def partOf (i : Nat) (g : Gen) : Gen := put (gBody 2 { g with part := i }) 9 0
def callTo (a b : Nat) (c : Nat) : Int := if c = 1 then (a : Int) else if c = 2 then (b : Int) else 0
def callsTo (a b : Nat) (l : List (Nat × Int)) (cs : List (Nat × Nat)) : List (Nat × Int) := cs.foldl (fun l c => setX l c.1 (callTo a b c.2)) l
def twoParts (g : Gen) : List (Nat × Int) := callsTo g.ins.length (partOf 1 g).ins.length (partOf 2 (partOf 1 g)).ins (partOf 2 (partOf 1 g)).calls
def progOf (code : List UInt8) : List (Nat × Int) := twoParts (mainOf code)

theorem callTo_range (a b c : Nat) : callTo a b c = 0 ∨ callTo a b c = a ∨ callTo a b c = b := by
  unfold callTo
  split
  · exact .inr (.inl rfl)
  · split
    · exact .inr (.inr rfl)
    · exact .inl rfl

theorem callsTo_get (a b : Nat) : ∀ (cs : List (Nat × Nat)) (l : List (Nat × Int)) (p op : Nat) (x : Int), (callsTo a b l cs)[p]? = some (op, x) → ∃ x0, l[p]? = some (op, x0) ∧ (x = x0 ∨ ((∃ c ∈ cs, c.1 = p) ∧ (x = 0 ∨ x = a ∨ x = b)))
  | [], l, p, op, x, h => ⟨x, h, .inl rfl⟩
  | c :: cs, l, p, op, x, h => by
    obtain ⟨x1, h1, h2⟩ := callsTo_get a b cs (setX l c.1 (callTo a b c.2)) p op x h
    obtain ⟨x0, h3, h4, h5⟩ := setX_get h1
    refine ⟨x0, h3, ?_⟩
    rcases h2 with h2 | ⟨⟨c', hc, hp⟩, h2⟩
    · by_cases hp : p = c.1
      · refine .inr ⟨⟨c, by simp, hp.symm⟩, ?_⟩
        rw [h2, h4 hp]; exact callTo_range a b c.2
      · exact .inl (h2.trans (h5 hp))
    · exact .inr ⟨⟨c', by simp [hc], hp⟩, h2⟩

theorem callsTo_length (a b : Nat) : ∀ (cs : List (Nat × Nat)) (l : List (Nat × Int)), (callsTo a b l cs).length = l.length
  | [], _ => rfl
  | c :: cs, l => (callsTo_length a b cs _).trans (setX_length _ _ _)

theorem opOk_of {ctx : Nat → List Bool} {p op : Nat} {x : Int} (h : Flow2 op (ctx p) (ctx (p + 1))) (h8 : op = 8 → 0 ≤ x ∧ ctx x.toNat = []) (hj : op = 11 ∨ op = 14 → ctx x.toNat = ctx p) : opOk ctx p op x := by
  unfold Flow2 at h
  unfold opOk
  match op with
  | 0 => exact h
  | 1 => exact h
  | 2 => exact h
  | 3 => exact h
  | 4 => exact h
  | 5 => exact h
  | 6 => exact h
  | 7 => exact h
  | 8 => exact ⟨(h8 rfl).1, (h8 rfl).2, h⟩
  | 9 => exact h
  | 10 => exact h
  | 11 => exact fun _ => hj (.inl rfl)
  | 12 => exact h
  | 13 => exact h
  | 14 => exact ⟨fun _ => hj (.inr rfl), h⟩
  | 15 => exact h
  | 16 => exact h
  | 17 => exact h
  | 18 => exact h
  | 19 => exact h
  | 20 => exact h
  | k + 21 => exact h

/-- What holds of every instruction that is run. -/
structure Fit (l : List (Nat × Int)) : Prop where
  size : l.length ≤ 10000
  vals : ∀ (p op : Nat) (x : Int), l[p]? = some (op, x) → op ≤ 22 ∧ -300 ≤ x ∧ x ≤ 100000 ∧ (op = 10 → x = 0) ∧ (op = 8 → 0 ≤ x)

theorem prog_ok (code : List UInt8) : ∃ ctx, Nested (progOf code) ctx ∧ ctx 0 = [] ∧ Fit (progOf code) ∧ 0 < (progOf code).length := by
  have q : ∀ part, AllQ (fun _ => True) part := fun _ _ _ _ _ _ => trivial
  obtain ⟨l1, i1, c1, p1, t1, s1, _⟩ := does_gStm (q 0) 3 [] (fun _ => False) (gen0 (code.take 150) 0) [] rfl (inv0 _ _ _ _ _)
  obtain ⟨l2, i2, c2, p2, t2, s2, _⟩ := does_gBody (q 0) 3 [] (fun _ => False) _ l1 t1 i1
  have i3 := i2.put (lv' := []) 10 0 rfl ⟨by decide, fun _ _ => by decide, fun _ => rfl, fun _ => rfl, trivial⟩ (by omega)
  rw [show put (gBody 3 (gStm 3 (gen0 (code.take 150) 0))) 10 0 = mainOf code from rfl] at i3
  have z1 : (gen0 (code.take 150) 0).ins.length = 0 := rfl
  have z2 : sizeS 3 = 680 := rfl
  have z3 : sizeS 2 = 168 := rfl
  have a1 : (mainOf code).ins.length ≤ 3401 ∧ 0 < (mainOf code).ins.length := by
    have : (mainOf code).ins.length = (gBody 3 (gStm 3 (gen0 (code.take 150) 0))).ins.length + 1 := by
      show ((gBody 3 (gStm 3 (gen0 (code.take 150) 0))).ins ++ [_]).length = _
      simp
    omega
  obtain ⟨g, hg⟩ : ∃ g, mainOf code = g := ⟨_, rfl⟩
  unfold progOf
  rw [hg] at i3 a1 ⊢
  have i4 : Inv (fun _ => False) (fun _ => True) { g with part := 1 } _ [] := ⟨i3.len, i3.ops, i3.jumps, i3.vals, i3.calls⟩
  obtain ⟨l5, i5, c5, p5, t5, s5, _⟩ := does_gBody (q 1) 2 [] (fun _ => False) { g with part := 1 } _ rfl i4
  have i6 := i5.put (lv' := []) 9 0 rfl ⟨by decide, fun _ _ => by decide, fun _ => rfl, fun _ => rfl, trivial⟩ (by omega)
  rw [show put (gBody 2 { g with part := 1 }) 9 0 = partOf 1 g from rfl] at i6
  have a2 : (partOf 1 g).ins.length ≤ g.ins.length + 673 ∧ g.ins.length ≤ (partOf 1 g).ins.length := by
    have : (partOf 1 g).ins.length = (gBody 2 { g with part := 1 }).ins.length + 1 := by
      show ((gBody 2 { g with part := 1 }).ins ++ [_]).length = _
      simp
    have := p5.length_le
    have h : ({ g with part := 1 } : Gen).ins.length = g.ins.length := rfl
    omega
  have b2 : cx (l5 ++ [[]]) [] g.ins.length = [] := by
    have h : g.ins.length ≤ (gBody 2 { g with part := 1 }).ins.length := p5.length_le
    rw [cx_snoc (by rw [i5.len]; exact h), c5 _ (Nat.le_refl _), cx_end (by rw [i3.len]; exact Nat.le_refl _)]
  obtain ⟨g1, hg1⟩ : ∃ g1, partOf 1 g = g1 := ⟨_, rfl⟩
  unfold twoParts
  rw [hg1] at i6 a2 ⊢
  have i7 : Inv (fun _ => False) (fun _ => True) { g1 with part := 2 } _ [] := ⟨i6.len, i6.ops, i6.jumps, i6.vals, i6.calls⟩
  obtain ⟨l8, i8, c8, p8, t8, s8, _⟩ := does_gBody (q 2) 2 [] (fun _ => False) { g1 with part := 2 } _ rfl i7
  have i9 := i8.put (lv' := []) 9 0 rfl ⟨by decide, fun _ _ => by decide, fun _ => rfl, fun _ => rfl, trivial⟩ (by omega)
  rw [show put (gBody 2 { g1 with part := 2 }) 9 0 = partOf 2 g1 from rfl] at i9
  have a3 : (partOf 2 g1).ins.length ≤ g1.ins.length + 673 ∧ g1.ins.length ≤ (partOf 2 g1).ins.length := by
    have : (partOf 2 g1).ins.length = (gBody 2 { g1 with part := 2 }).ins.length + 1 := by
      show ((gBody 2 { g1 with part := 2 }).ins ++ [_]).length = _
      simp
    have := p8.length_le
    have h : ({ g1 with part := 2 } : Gen).ins.length = g1.ins.length := rfl
    omega
  have h8 : g1.ins.length ≤ (gBody 2 { g1 with part := 2 }).ins.length := p8.length_le
  have b3 : cx (l8 ++ [[]]) [] g1.ins.length = [] := by
    rw [cx_snoc (by rw [i8.len]; exact h8), c8 _ (Nat.le_refl _), cx_end (by rw [i6.len]; exact Nat.le_refl _)]
  have b4 : cx (l8 ++ [[]]) [] g.ins.length = [] := by
    rw [cx_snoc (by rw [i8.len]; omega), c8 _ a2.2]; exact b2
  have b0 : cx (l8 ++ [[]]) [] 0 = [] := by
    rw [cx_snoc (by omega), c8 0 (Nat.zero_le _), cx_snoc (by omega), c5 0 (Nat.zero_le _), cx_snoc (by omega), c2 0 (Nat.zero_le _), c1 0 (Nat.zero_le _)]; rfl
  obtain ⟨g2, hg2⟩ : ∃ g2, partOf 2 g1 = g2 := ⟨_, rfl⟩
  rw [hg2] at i9 a3 ⊢
  have key : ∀ (p op : Nat) (x : Int), (callsTo g.ins.length g1.ins.length g2.ins g2.calls)[p]? = some (op, x) → ∃ x0, g2.ins[p]? = some (op, x0) ∧ (op ≠ 8 → x = x0) ∧ (op = 8 → x = 0 ∨ x = g.ins.length ∨ x = g1.ins.length) := by
    intro p op x h
    obtain ⟨x0, h1, h2⟩ := callsTo_get _ _ _ _ p op x h
    refine ⟨x0, h1, ?_, ?_⟩
    · intro h8
      rcases h2 with h2 | ⟨⟨c, hc, hp⟩, _⟩
      · exact h2
      · obtain ⟨⟨y, hy⟩, _⟩ := i9.calls c hc
        rw [hp, h1] at hy
        cases hy
        exact absurd rfl h8
    · intro h8
      rcases h2 with h2 | ⟨_, h2⟩
      · rw [h2]
        exact .inl ((i9.vals p op x0 h1).2.2.2.1 h8)
      · exact h2
  refine ⟨cx (l8 ++ [[]]) [], ⟨?_, ?_⟩, b0, ⟨?_, ?_⟩, ?_⟩
  · intro p op x h
    obtain ⟨x0, h1, h2, h3⟩ := key p op x h
    refine opOk_of (i9.ops p op x0 h1) ?_ ?_
    · intro h8
      rcases h3 h8 with e | e | e
      · rw [e]; exact ⟨Int.le_refl _, b0⟩
      · rw [e]; exact ⟨by omega, by rw [show ((g.ins.length : Int)).toNat = g.ins.length by omega]; exact b4⟩
      · rw [e]; exact ⟨by omega, by rw [show ((g1.ins.length : Int)).toNat = g1.ins.length by omega]; exact b3⟩
    · intro hj
      rw [h2 (by omega)]
      exact (i9.jumps p op x0 h1 hj (fun e => e)).2.2
  · intro p hp
    rw [callsTo_length] at hp
    exact cx_end (by rw [i9.len]; exact hp)
  · rw [callsTo_length]; omega
  · intro p op x h
    obtain ⟨x0, h1, h2, h3⟩ := key p op x h
    have hv := i9.vals p op x0 h1
    refine ⟨hv.1, ?_⟩
    by_cases h8 : op = 8
    · rcases h3 h8 with e | e | e <;> refine ⟨by omega, by omega, by omega, by omega⟩
    · rw [h2 h8]
      by_cases hj : op = 11 ∨ op = 14
      · have := i9.jumps p op x0 h1 hj (fun e => e)
        exact ⟨by omega, by omega, by omega, by omega⟩
      · have := hv.2.1 (by omega) (by omega)
        exact ⟨by omega, by omega, hv.2.2.1, fun e => absurd e h8⟩
  · rw [callsTo_length]; omega

/-- No program that is made does a thing that must not be. -/
theorem prog_viol (code d : List UInt8) (n f : Nat) : (lev 9 (progOf code) f regs0 0 0 (-1) false false (start d n)).viol = false := by
  obtain ⟨ctx, hN, h0, _, _⟩ := prog_ok code
  exact (lev_nested 9 _ ctx hN f regs0 0 0 (-1) false false (start d n) (.inl h0) (Int.le_refl _) (fun h => by cases h) rfl).1

/-- A run ends without an error, or for want of data. -/
theorem rd_bad (mx : Nat) (k : Int) (r : Regs) (s : St) (h : s.bad ≤ 1) : (rd mx k r s).2.bad ≤ 1 := by
  have O : ∀ r' : Regs, ((r', { s with odd := true }) : Regs × St).2.bad ≤ 1 := fun r' => h
  have B : ∀ r' : Regs, ((r', { s with bad := 1 }) : Regs × St).2.bad ≤ 1 := fun r' => Nat.le_refl _
  have T : ∀ (r' : Regs) (t : List UInt8), ((r', { s with rest := t }) : Regs × St).2.bad ≤ 1 := fun r' t => h
  have ite : ∀ {c : Prop} [Decidable c] {p q : Regs × St}, p.2.bad ≤ 1 → q.2.bad ≤ 1 → (if c then p else q).2.bad ≤ 1 := by
    intro c _ p q hp hq; split <;> assumption
  unfold rd
  refine ite h (ite ?_ (ite ?_ (ite ?_ (ite ?_ (ite (ite (B r) (T _ _)) (ite (ite (B r) (T _ _)) (ite ?_ (ite (ite (B r) (T _ _)) (O r)))))))))
  · cases s.rest with
    | nil => exact O r
    | cons b t => exact T _ _
  · cases lg mx 0 0 s.rest with
    | ok u t => exact ite (T _ _) (O r)
    | eof =>
      by_cases h : s.rest.length ≤ 5
      · simp only [h, if_true]; exact B r
      · simp only [h, if_false]; exact O r
    | odd => exact O r
  · cases lg mx 0 0 s.rest with
    | ok u t => exact T _ _
    | eof => exact B r
    | odd => exact O r
  · cases lg mx 0 0 s.rest with
    | ok u t => exact T _ _
    | eof => exact B r
    | odd => exact O r
  · cases lg mx 0 0 s.rest with
    | ok u t => exact ite (O r) (ite (B r) (T _ _))
    | eof => exact B r
    | odd => exact O r

theorem simple_bad (mx op : Nat) (x tgt : Int) (r : Regs) (s : St) (h : s.bad ≤ 1) (ho : op ≤ 22) (hn : op ≠ 2 ∧ op ≠ 3 ∧ op ≠ 4 ∧ op ≠ 5 ∧ op ≠ 6 ∧ op ≠ 8 ∧ op ≠ 9 ∧ op ≠ 10 ∧ op ≠ 19 ∧ op ≠ 20) : (simple mx op x tgt r s).2.bad ≤ 1 := by
  match op, ho, hn with
  | 0, _, _ => exact rd_bad mx x r s h
  | 1, _, _ => show (st x tgt r s).bad ≤ 1; rw [(st_left x tgt r s).2.2.2.2.2.2.2]; exact h
  | 2, _, hn => exact absurd rfl hn.1
  | 3, _, hn => exact absurd rfl hn.2.1
  | 4, _, hn => exact absurd rfl hn.2.2.1
  | 5, _, hn => exact absurd rfl hn.2.2.2.1
  | 6, _, hn => exact absurd rfl hn.2.2.2.2.1
  | 7, _, _ => exact h
  | 8, _, hn => exact absurd rfl hn.2.2.2.2.2.1
  | 9, _, hn => exact absurd rfl hn.2.2.2.2.2.2.1
  | 10, _, hn => exact absurd rfl hn.2.2.2.2.2.2.2.1
  | 11, _, _ => exact h
  | 12, _, _ => exact h
  | 13, _, _ => exact h
  | 14, _, _ => show (if r.cond then s.jump x else s).bad ≤ 1; split <;> exact h
  | 15, _, _ => exact h
  | 16, _, _ => exact h
  | 17, _, _ => exact h
  | 18, _, _ => exact h
  | 19, _, hn => exact absurd rfl hn.2.2.2.2.2.2.2.2.1
  | 20, _, hn => exact absurd rfl hn.2.2.2.2.2.2.2.2.2
  | 21, _, _ => exact h
  | 22, _, _ => exact h
  | k + 23, ho, _ => exact absurd ho (by omega)

theorem lev_bad1 (mx : Nat) (ins : List (Nat × Int)) (hi : ∀ (p op : Nat) (x : Int), ins[p]? = some (op, x) → op ≤ 22 ∧ (op = 10 → x = 0)) : ∀ (f : Nat) (r : Regs) (tgt outer field : Int) (null kind : Bool) (s : St), s.bad ≤ 1 → (lev mx ins f r tgt outer field null kind s).bad ≤ 1
  | 0, _, _, _, _, _, _, s, h => by unfold lev; exact h
  | f + 1, r, tgt, outer, field, null, kind, s, h => by
    by_cases hb : s.bad = 0 ∧ s.odd = false
    · cases hfe : fetch ins s.pc with
      | none => rw [lev_none hb.1 hb.2 hfe]; exact h
      | some ox =>
        obtain ⟨op, x⟩ := ox
        have hop : op ≤ 22 ∧ (op = 10 → x = 0) := by
          unfold fetch at hfe
          split at hfe
          · exact hi _ op x hfe
          · cases hfe
        by_cases hl : s.left ≤ 1
        · unfold lev
          rw [if_pos hb, hfe]
          show (if s.left ≤ 1 then ({ s with left := 0 } : St) else _).bad ≤ 1
          rw [if_pos hl]; exact h
        · rw [lev_step hb.1 hb.2 hfe hl]
          split
          · exact lev_bad1 mx ins hi f _ _ _ _ _ _ _ (lev_bad1 mx ins hi f _ _ _ _ _ _ _ h)
          · unfold St.leave; cases null <;> exact h
          · exact lev_bad1 mx ins hi f _ _ _ _ _ _ _ h
          · exact lev_bad1 mx ins hi f _ _ _ _ _ _ _ (lev_bad1 mx ins hi f _ _ _ _ _ _ _ h)
          · exact lev_bad1 mx ins hi f _ _ _ _ _ _ _ (lev_bad1 mx ins hi f _ _ _ _ _ _ _ h)
          · exact lev_bad1 mx ins hi f _ _ _ _ _ _ _ (lev_bad1 mx ins hi f regs0 tgt outer field false false { s.tick with pc := x } h)
          · exact h
          · rw [hop.2 rfl]; exact Nat.zero_le _
          · exact lev_bad1 mx ins hi f _ _ _ _ _ _ _ (lev_bad1 mx ins hi f _ _ _ _ _ _ _ h)
          · exact h
          · exact lev_bad1 mx ins hi f _ _ _ _ _ _ _ (simple_bad mx op x tgt r s.tick h hop.1 ⟨by assumption, by assumption, by assumption, by assumption, by assumption, by assumption, by assumption, by assumption, by assumption, by assumption⟩)
    · unfold lev; rw [if_neg hb]; exact h

theorem prog_bad (code d : List UInt8) (n f : Nat) : (lev 9 (progOf code) f regs0 0 0 (-1) false false (start d n)).bad ≤ 1 := by
  obtain ⟨ctx, hN, h0, hF, _⟩ := prog_ok code
  exact lev_bad1 9 _ (fun p op x h => ⟨(hF.vals p op x h).1, (hF.vals p op x h).2.2.2.1⟩) f regs0 0 0 (-1) false false (start d n) (Nat.zero_le _)

/-- The part of FnVMHalts. -/
def haltsOf (code : List UInt8) : Gen := gBody 2 (gen0 (code.take 60) 2)
/-- A part of FnVMJoins. -/
def joinsOf (field : Int) (code : List UInt8) : Gen := put (gBody 2 (put (gen0 (code.take 60) 2) 2 field)) 3 0

def NoEnd (op : Nat) : Prop := op ≠ 8 ∧ op ≠ 9 ∧ op ≠ 10
theorem noEnd_all : AllQ NoEnd 2 := fun op h h9 h10 h8 => ⟨fun e => absurd (h8 e) (by decide), h9, h10⟩

theorem tight_of {g : Gen} {lvs : List (List Bool)} (i : Inv (fun _ => False) NoEnd g lvs []) (hs : g.ins.length ≤ 10000) : Tight g.ins (cx lvs []) ∧ Fit g.ins := by
  refine ⟨⟨⟨fun p op x h => ?_, fun p hp => cx_end (by rw [i.len]; exact hp)⟩, fun p op x h => (i.vals p op x h).2.2.2.2, fun p op x h hj => ?_⟩, hs, fun p op x h => ?_⟩
  · refine opOk_of (i.ops p op x h) (fun h8 => absurd h8 (i.vals p op x h).2.2.2.2.1) (fun hj => (i.jumps p op x h hj (fun e => e)).2.2)
  · have := i.jumps p op x h hj (fun e => e)
    exact ⟨this.1, this.2.1⟩
  · have hv := i.vals p op x h
    have h8 := hv.2.2.2.2.1
    refine ⟨hv.1, ?_⟩
    by_cases hj : op = 11 ∨ op = 14
    · have := i.jumps p op x h hj (fun e => e)
      exact ⟨by omega, by omega, by omega, by omega⟩
    · have := hv.2.1 (by omega) (by omega)
      exact ⟨by omega, by omega, hv.2.2.1, fun e => absurd e h8⟩

theorem halts_ok (code : List UInt8) : ∃ ctx, Tight (haltsOf code).ins ctx ∧ ctx 0 = [] ∧ Fit (haltsOf code).ins := by
  obtain ⟨l1, i1, c1, p1, t1, s1, _⟩ := does_gBody noEnd_all 2 [] (fun _ => False) (gen0 (code.take 60) 2) [] rfl (inv0 _ _ _ _ _)
  have z1 : (gen0 (code.take 60) 2).ins.length = 0 := rfl
  have z3 : sizeS 2 = 168 := rfl
  obtain ⟨h1, h2⟩ := tight_of i1 (show (haltsOf code).ins.length ≤ 10000 by unfold haltsOf; omega)
  exact ⟨_, h1, c1 0 (Nat.zero_le _), h2⟩

theorem joins_ok (field : Int) (hf : 0 ≤ field ∧ field ≤ 300) (code : List UInt8) : ∃ ctx, Tight (joinsOf field code).ins ctx ∧ ctx 0 = [] ∧ Fit (joinsOf field code).ins ∧ (∀ p, 1 ≤ p → p < (joinsOf field code).ins.length → ctx p ≠ []) ∧ (joinsOf field code).ins[0]? = some (2, field) := by
  have i0 := (inv0 (fun _ => False) NoEnd (code.take 60) 2 []).put (lv' := [true]) 2 field rfl ⟨by decide, fun _ _ => by omega, by omega, by omega, by unfold NoEnd; omega⟩ (by omega)
  obtain ⟨l1, i1, c1, p1, t1, s1, d1⟩ := does_gBody noEnd_all 2 [true] (fun _ => False) (put (gen0 (code.take 60) 2) 2 field) _ rfl i0
  have i2 := i1.put (lv' := []) 3 0 rfl ⟨by decide, fun _ _ => by decide, by omega, by omega, by unfold NoEnd; omega⟩ (by omega)
  have z1 : (put (gen0 (code.take 60) 2) 2 field).ins.length = 1 := rfl
  have z3 : sizeS 2 = 168 := rfl
  have hl : (joinsOf field code).ins.length = (gBody 2 (put (gen0 (code.take 60) 2) 2 field)).ins.length + 1 := by
    show ((gBody 2 (put (gen0 (code.take 60) 2) 2 field)).ins ++ [_]).length = _
    simp
  obtain ⟨h1, h2⟩ := tight_of i2 (show (joinsOf field code).ins.length ≤ 10000 by omega)
  have hp := p1.length_le
  refine ⟨_, h1, ?_, h2, fun p h3 h4 => ?_, pre_get (p1.trans (List.prefix_append _ _)) rfl⟩
  · rw [cx_snoc (by rw [i1.len]; omega), c1 0 (by omega)]; rfl
  · rw [cx_snoc (by rw [i1.len]; omega)]
    by_cases h5 : p < (gBody 2 (put (gen0 (code.take 60) 2) 2 field)).ins.length
    · exact d1 (by simp) p (by omega) h5
    · rw [cx_end (by rw [i1.len]; omega)]; simp

theorem re_same (s : St) : re 0 [] 0 s.left s = s := by
  have : s.notes.map (Note.shift 0) = s.notes := by
    have h : Note.shift 0 = id := by
      funext n
      unfold Note.shift sh
      obtain ⟨a, b, c, d⟩ := n
      by_cases h : 0 < d <;> simp [h]
    rw [h, List.map_id]
  unfold re
  rw [this]
  simp

theorem lies_front (l m : List (Nat × Int)) : Lies 0 l (l ++ m) := by
  intro p op x h
  rw [Nat.zero_add, List.getElem?_append_left (List.getElem?_eq_some_iff.1 h).1, h]
  simp

/-- A program that stands first in a greater one, from the start. -/
theorem first_run {l m : List (Nat × Int)} {ctx : Nat → List Bool} (hT : Tight l ctx) (h0 : ctx 0 = []) (d : List UInt8) (X : St) (hX : lev 9 (l ++ m) 3000 regs0 0 0 (-1) false false (start d 3000) = X) (ho : X.odd = false) (hl : 0 < X.left) :
    ∃ Y, lev 9 l 3000 regs0 0 0 (-1) false false (start d 3000) = Y ∧ Good Y ∧ 0 ≤ Y.tg ∧ ∃ (F' : Nat) (r' : Regs) (null' : Bool), X = lev 9 (l ++ m) F' r' 0 0 (-1) null' false Y ∧ Y.left ≤ F' ∧ (Y.bad = 0 → Y.pc = l.length) ∧ null' = false := by
  have hr : re 0 [] 0 ((start d 3000).left - 0) (start d 3000) = start d 3000 := re_same (start d 3000)
  have h := sim 0 [] 0 (Int.le_refl _) 0 9 l (l ++ m) ctx hT (lies_front l m) 3000 3000 regs0 0 0 (-1) false false (start d 3000) (.inl h0) (Int.le_refl _) (by show (0 : Int) ≤ _; omega) (fun h => by cases h) rfl (Int.le_refl _) (Nat.le_refl _) (Nat.le_refl _)
  rw [hr, show sh 0 0 = 0 from rfl, hX] at h
  have h1 := h ho hl
  obtain ⟨F', r', null', h2, h3, h4, h5⟩ := h1.top h0
  have hnul : null' = false := by
    cases null' with
    | false => rfl
    | true => exact absurd (h5 rfl) (by decide)
  have hv := (lev_nested 9 l ctx hT.nested 3000 regs0 0 0 (-1) false false (start d 3000) (.inl h0) (Int.le_refl _) (fun h => by cases h) rfl).1
  refine ⟨_, rfl, ⟨h1.odd, by have := h1.ge; omega, hv⟩, h1.tg, F', r', null', ?_, by omega, h4, hnul⟩
  rw [show sh 0 0 = 0 from rfl, Nat.sub_zero, re_same] at h2
  exact h2

theorem halts_law (code d : List UInt8) (k : Nat) (hk : 0 < k) (X : St) (hX : lev 9 ((haltsOf code).ins ++ [(10, (k : Int)), (7, 7)]) 3000 regs0 0 0 (-1) false false (start d 3000) = X) (ho : X.odd = false) (hl : 0 < X.left)
    (hb : (lev 9 (haltsOf code).ins 3000 regs0 0 0 (-1) false false (start d 3000)).bad = 0) : X.bad = k + 2 ∧ X.viol = false := by
  obtain ⟨ctx, hT, h0, hF⟩ := halts_ok code
  obtain ⟨Y, hY, hG, _, F', r', null', h2, h3, h4, _⟩ := first_run hT h0 d X hX ho hl
  rw [hY] at hb
  have hpc := h4 hb
  have hfe : fetch ((haltsOf code).ins ++ [(10, (k : Int)), (7, 7)]) Y.pc = some (10, (k : Int)) := by
    unfold fetch
    rw [hpc, if_pos (by omega), show (((haltsOf code).ins.length : Int)).toNat = (haltsOf code).ins.length by omega, List.getElem?_append_right (Nat.le_refl _)]
    simp
  obtain ⟨F, rfl⟩ : ∃ F, F' = F + 1 := ⟨F' - 1, by have := hG.2.1; omega⟩
  by_cases hl1 : Y.left ≤ 1
  · have := lev_stop (mx := 9) (f := F) (r := r') (tgt := 0) (outer := 0) (field := -1) (null := null') (kind := false) hb hG.1 hfe hl1
    rw [← h2] at this
    omega
  · have := lev_step (mx := 9) (f := F) (r := r') (tgt := 0) (outer := 0) (field := -1) (null := null') (kind := false) hb hG.1 hfe hl1
    rw [← h2] at this
    rw [this]
    show (if (0 : Int) < k then (k : Int).toNat + 2 else 0) = k + 2 ∧ Y.viol = false
    rw [if_pos (by omega)]
    exact ⟨by omega, hG.2.2⟩

/-- A program, moved on. -/
def reloc (n : Nat) (l : List (Nat × Int)) : List (Nat × Int) := l.map fun o => (o.1, if o.1 = 11 ∨ o.1 = 14 then o.2 + n else o.2)

theorem lies_back (a b : List (Nat × Int)) : Lies a.length b (a ++ reloc a.length b) := by
  intro p op x h
  rw [List.getElem?_append_right (by omega), show a.length + p - a.length = p by omega]
  unfold reloc
  rw [List.getElem?_map, h]
  rfl

/-- How many targets were made. -/
def isNew (n : Note) : Bool := decide (n.name = nmGet) || decide (n.name = nmAppendArray) || decide (n.name = nmAppendMap)
def cnt (l : List Note) : Nat := (l.filter isNew).length
theorem cnt_snoc (l : List Note) (n : Note) : cnt (l ++ [n]) = cnt l + if isNew n then 1 else 0 := by
  unfold cnt
  rw [List.filter_append, List.length_append]
  cases h : isNew n <;> simp [h]
def Cnt (s : St) : Prop := s.tg = cnt s.notes
theorem cnt_note {s : St} (h : Cnt s) (nm : ByteArray) (tgt n : Int) (t : ByteArray) (hn : (decide (nm = nmGet) || decide (nm = nmAppendArray) || decide (nm = nmAppendMap)) = false) : Cnt (s.note nm tgt n t) := by
  show s.tg = cnt (s.notes ++ [_])
  rw [cnt_snoc, show isNew ⟨nm, n, t, tgt⟩ = false from hn]
  exact h
theorem cnt_enter {s : St} (h : Cnt s) (nm : ByteArray) (tgt n : Int) (t : ByteArray) (hn : (decide (nm = nmGet) || decide (nm = nmAppendArray) || decide (nm = nmAppendMap)) = true) : Cnt (s.tick.enter nm tgt n t) := by
  show s.tg + 1 = cnt (s.notes ++ [_])
  rw [cnt_snoc, show isNew ⟨nm, n, t, tgt⟩ = true from hn]
  unfold Cnt at h
  simp
  omega
theorem cnt_simple (mx op : Nat) (x tgt : Int) (r : Regs) (s : St) (h : Cnt s) : Cnt (simple mx op x tgt r s).2 := by
  unfold simple
  split
  · have := rd_left mx x r s
    unfold Cnt at *
    rw [this.2.1, this.2.2.1]; exact h
  · unfold st
    repeat' split
    all_goals first | exact h | exact cnt_note h _ _ _ _ (by decide)
  all_goals (try split)
  all_goals first | exact h | exact cnt_note h _ _ _ _ (by decide)

theorem lev_cnt (mx : Nat) (ins : List (Nat × Int)) : ∀ (f : Nat) (r : Regs) (tgt outer field : Int) (null kind : Bool) (s : St), Cnt s → Cnt (lev mx ins f r tgt outer field null kind s)
  | 0, _, _, _, _, _, _, s, h => by unfold lev; exact h
  | f + 1, r, tgt, outer, field, null, kind, s, h => by
    unfold lev
    split
    · split
      · exact h
      · rename_i op x _
        split
        · exact h
        · split
          · exact lev_cnt mx ins f _ _ _ _ _ _ _ (lev_cnt mx ins f _ _ _ _ _ _ _ (cnt_enter h _ _ _ _ (by decide)))
          · unfold St.leave
            cases null
            · exact cnt_note (s := s.tick) h _ _ _ _ (by decide)
            · exact cnt_note (s := s.tick.note nmFinalize tgt 0 ⟨#[]⟩) (cnt_note (s := s.tick) h _ _ _ _ (by decide)) _ _ _ _ (by decide)
          · exact lev_cnt mx ins f _ _ _ _ _ _ _ h
          · exact lev_cnt mx ins f _ _ _ _ _ _ _ (lev_cnt mx ins f _ _ _ _ _ _ _ (cnt_enter h _ _ _ _ (by decide)))
          · exact lev_cnt mx ins f _ _ _ _ _ _ _ (lev_cnt mx ins f _ _ _ _ _ _ _ (cnt_enter h _ _ _ _ (by decide)))
          · exact lev_cnt mx ins f _ _ _ _ _ _ _ (lev_cnt mx ins f regs0 tgt outer field false false { s.tick with pc := x } h)
          · exact h
          · exact h
          · exact lev_cnt mx ins f _ _ _ _ _ _ _ (lev_cnt mx ins f _ _ _ _ _ _ _ h)
          · exact h
          · exact lev_cnt mx ins f _ _ _ _ _ _ _ (cnt_simple _ _ _ _ _ _ h)
    · exact h

/-- A part of FnVMJoins, alone: whatever the registers of the outermost level. -/
theorem joins_top {l : List (Nat × Int)} {ctx : Nat → List Bool} (hT : Tight l ctx) (h0 : ctx 0 = []) (hd : ∀ p, 1 ≤ p → p < l.length → ctx p ≠ []) {field : Int} (hl0 : l[0]? = some (2, field)) (d : List UInt8) (f : Nat) (r : Regs) (null : Bool) (n : Nat)
    (ho : (lev 9 l (f + 1) r 0 0 (-1) null false (start d n)).odd = false) (hl : 0 < (lev 9 l (f + 1) r 0 0 (-1) null false (start d n)).left) (hf : n ≤ f + 1) : lev 9 l (f + 1) r 0 0 (-1) null false (start d n) = lev 9 l (f + 1) regs0 0 0 (-1) false false (start d n) := by
  have hfe : fetch l (start d n).pc = some (2, field) := hl0
  by_cases hn : n ≤ 1
  · have := lev_stop (mx := 9) (f := f) (r := r) (tgt := 0) (outer := 0) (field := -1) (null := null) (kind := false) (s := start d n) rfl rfl hfe hn
    omega
  · have e1 := lev_step (mx := 9) (f := f) (r := r) (tgt := 0) (outer := 0) (field := -1) (null := null) (kind := false) (s := start d n) rfl rfl hfe hn
    have e2 := lev_step (mx := 9) (f := f) (r := regs0) (tgt := 0) (outer := 0) (field := -1) (null := false) (kind := false) (s := start d n) rfl rfl hfe hn
    rw [e1] at ho hl
    rw [e1, e2]
    clear e1 e2
    replace ho : (lev 9 l f r 0 0 (-1) null false (lev 9 l f regs0 ((start d n).tg + 1) 0 field false true ((start d n).tick.enter nmGet 0 field ⟨#[]⟩))).odd = false := ho
    replace hl : 0 < (lev 9 l f r 0 0 (-1) null false (lev 9 l f regs0 ((start d n).tg + 1) 0 field false true ((start d n).tick.enter nmGet 0 field ⟨#[]⟩))).left := hl
    show lev 9 l f r 0 0 (-1) null false (lev 9 l f regs0 ((start d n).tg + 1) 0 field false true ((start d n).tick.enter nmGet 0 field ⟨#[]⟩)) = lev 9 l f regs0 0 0 (-1) false false (lev 9 l f regs0 ((start d n).tg + 1) 0 field false true ((start d n).tick.enter nmGet 0 field ⟨#[]⟩))
    have hlt : 0 < l.length := (List.getElem?_eq_some_iff.1 hl0).1
    have hop := hT.nested.ops 0 2 field hl0
    have hctx : ctx (((start d n).tick.enter nmGet 0 field ⟨#[]⟩).pc.toNat) = [true] := by
      show ctx 1 = [true]
      have : ctx 1 = true :: ctx 0 := hop
      rw [this, h0]
    obtain ⟨s1, hs1⟩ : ∃ s1, (start d n).tick.enter nmGet 0 field ⟨#[]⟩ = s1 := ⟨_, rfl⟩
    have hpc1 : s1.pc = 1 := by rw [← hs1]; rfl
    have hv1 : s1.viol = false := by rw [← hs1]; rfl
    have hb1 : s1.tg = 1 := by rw [← hs1]; rfl
    have hlf1 : s1.left = n - 1 := by rw [← hs1]; rfl
    have e3 : (start d n).tg + 1 = 1 := rfl
    rw [e3] at ho hl ⊢
    rw [hs1] at ho hl ⊢ hctx
    have hlat := lev_later 9 l f r 0 0 (-1) null false (lev 9 l f regs0 1 0 field false true s1)
    have hr : re 0 [] 0 (s1.left - 0) s1 = s1 := re_same s1
    have hT2 : Lies 0 l l := by
      intro p op x h
      rw [Nat.zero_add, h]
      simp
    have h := sim 0 [] 0 (Int.le_refl _) 0 9 l l ctx hT hT2 f f regs0 1 0 field false true s1 (by rw [hctx]; exact ⟨[], rfl⟩) (by omega) (by omega) (fun h => by cases h) hv1 (by omega) (by omega) (by omega)
    rw [hr, show sh 0 0 = 0 from rfl, show sh 0 1 = 1 from rfl] at h
    have h1 := h (hlat.odd ho) (by have := hlat.left; omega)
    have hN := lev_nested 9 l ctx hT.nested f regs0 1 0 field false true s1 (by rw [hctx]; exact ⟨[], rfl⟩) (by omega) (fun h => by cases h) hv1
    rw [hctx] at h1 hN
    obtain ⟨y, hy⟩ : ∃ y, lev 9 l f regs0 1 0 field false true s1 = y := ⟨_, rfl⟩
    rw [hy] at h1 hN hlat ho hl ⊢
    have hyl := hlat.left
    by_cases hb : y.bad = 0
    · have hpos := h1.pos (by simp) hb
      have hctxy := (hN.2 hb h1.odd (by omega)).2 true [] rfl
      have hpcy : l.length ≤ y.pc.toNat := by
        rcases Nat.lt_or_ge y.pc.toNat l.length with h | h
        · exact absurd hctxy (hd _ (by omega) h)
        · exact h
      have hfy : fetch l y.pc = none := by
        unfold fetch
        rw [if_pos (by omega)]
        exact List.getElem?_eq_none hpcy
      obtain ⟨f', rfl⟩ : ∃ f', f = f' + 1 := ⟨f - 1, by omega⟩
      rw [lev_none hb h1.odd hfy, lev_none hb h1.odd hfy]
    · have hf0 : f ≠ 0 := by omega
      rw [lev_bad hb f hf0, lev_bad hb f hf0]

theorem joins_law (one two d : List UInt8) (Z : St) (hZ : lev 9 ((joinsOf 1 one).ins ++ reloc (joinsOf 1 one).ins.length (joinsOf 2 two).ins) 3000 regs0 0 0 (-1) false false (start d 3000) = Z) (ho : Z.odd = false) (hl : 0 < Z.left) :
    ∃ A, lev 9 (joinsOf 1 one).ins 3000 regs0 0 0 (-1) false false (start d 3000) = A ∧ Good A ∧ Good Z ∧ A.tg = cnt A.notes ∧ (A.bad ≠ 0 → Z = A) ∧
      (A.bad = 0 → ∃ B, lev 9 (joinsOf 2 two).ins 3000 regs0 0 0 (-1) false false (start A.rest 3000) = B ∧ Good B ∧ Z.bad = B.bad ∧ Z.rest = B.rest ∧ Z.notes = A.notes ++ B.notes.map (Note.shift A.tg)) := by
  obtain ⟨ca, hTa, h0a, hFa, hda, hla⟩ := joins_ok 1 (by decide) one
  obtain ⟨cb, hTb, h0b, hFb, hdb, hlb⟩ := joins_ok 2 (by decide) two
  obtain ⟨A, hA, hG, htg, F', r', null', h2, h3, h4, hnul⟩ := first_run hTa h0a d Z hZ ho hl
  subst hnul
  have hcnt : A.tg = cnt A.notes := by
    rw [← hA]
    exact lev_cnt 9 _ 3000 regs0 0 0 (-1) false false (start d 3000) rfl
  have hgl := hG.2.1
  by_cases hb : A.bad = 0
  · have hpc := h4 hb
    have hle : A.left ≤ 3000 := by rw [← hA]; exact (lev_later 9 _ 3000 regs0 0 0 (-1) false false (start d 3000)).left
    have hre : re (joinsOf 1 one).ins.length A.notes A.tg ((start A.rest 3000).left - (3000 - A.left)) (start A.rest 3000) = A := by
      have e : (start A.rest 3000).left - (3000 - A.left) = A.left := by show 3000 - (3000 - A.left) = _; omega
      rw [e]
      have h1 := hG.1
      have h6 := hG.2.2
      unfold re start
      obtain ⟨pc, rest, notes, tg, left, bad, odd, viol⟩ := A
      simp at hpc hb h1 h6 ⊢
      exact ⟨by omega, hb.symm, h1, h6⟩
    have hs : sh A.tg 0 = 0 := rfl
    have h5 := sim (joinsOf 1 one).ins.length A.notes A.tg htg (3000 - A.left) 9 (joinsOf 2 two).ins ((joinsOf 1 one).ins ++ reloc (joinsOf 1 one).ins.length (joinsOf 2 two).ins) cb hTb (lies_back _ _) 3000 F' r' 0 0 (-1) false false (start A.rest 3000)
      (.inl h0b) (Int.le_refl _) (by show (0 : Int) ≤ _; omega) (fun h => by cases h) rfl (Int.le_refl _) (Nat.le_refl _) (by show 3000 - (3000 - A.left) ≤ F'; omega)
    rw [hre, hs, ← h2] at h5
    have h6 := h5 ho hl
    obtain ⟨F2, r2, null2, h7, h8, h9, h10⟩ := h6.top h0b
    have hv := (lev_nested 9 (joinsOf 2 two).ins cb hTb.nested 3000 r' 0 0 (-1) false false (start A.rest 3000) (.inl h0b) (Int.le_refl _) (fun h => by cases h) rfl).1
    have hge0 := h6.ge
    have hpos : 0 < (lev 9 (joinsOf 2 two).ins 3000 r' 0 0 (-1) false false (start A.rest 3000)).left := by omega
    have htop := joins_top hTb h0b hdb hlb A.rest 2999 r' false 3000 h6.odd hpos (Nat.le_refl _)
    obtain ⟨B, hB⟩ : ∃ B, lev 9 (joinsOf 2 two).ins 3000 regs0 0 0 (-1) false false (start A.rest 3000) = B := ⟨_, rfl⟩
    rw [htop, hB] at h6 h7 h8 h9 hv
    have hge := h6.ge
    have hZB : Z = re (joinsOf 1 one).ins.length A.notes A.tg (B.left - (3000 - A.left)) B := by
      rw [h7]
      by_cases hbB : B.bad = 0
      · have hpcB := h9 hbB
        have hfe : fetch ((joinsOf 1 one).ins ++ reloc (joinsOf 1 one).ins.length (joinsOf 2 two).ins) (re (joinsOf 1 one).ins.length A.notes A.tg (B.left - (3000 - A.left)) B).pc = none := by
          show fetch _ (B.pc + (joinsOf 1 one).ins.length) = none
          unfold fetch
          rw [hpcB, if_pos (by omega)]
          refine List.getElem?_eq_none ?_
          unfold reloc
          rw [List.length_append, List.length_map]
          omega
        obtain ⟨F3, rfl⟩ : ∃ F3, F2 = F3 + 1 := ⟨F2 - 1, by omega⟩
        exact lev_none (s := re (joinsOf 1 one).ins.length A.notes A.tg (B.left - (3000 - A.left)) B) hbB h6.odd hfe
      · exact lev_bad (s := re (joinsOf 1 one).ins.length A.notes A.tg (B.left - (3000 - A.left)) B) hbB F2 (by omega)
    have hGB : Good B := ⟨h6.odd, by omega, hv⟩
    refine ⟨A, hA, hG, ⟨ho, hl, by rw [hZB]; exact hv⟩, hcnt, fun h => absurd hb h, fun _ => ⟨B, hB, hGB, by rw [hZB]; rfl, by rw [hZB]; rfl, by rw [hZB]; rfl⟩⟩
  · have hf0 : F' ≠ 0 := by omega
    rw [lev_bad hb F' hf0] at h2
    exact ⟨A, hA, hG, h2 ▸ hG, hcnt, fun _ => h2, fun h => absurd h hb⟩
end Go.Proofs.YtkhicabfmkldpaaDoor
