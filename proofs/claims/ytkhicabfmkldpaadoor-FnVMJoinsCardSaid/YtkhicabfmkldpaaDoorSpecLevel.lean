/-
  The specification's machine: one level does what lev says.
  spec.VMRuns: a whole run of the specification's machine.
-/
import Derived.Test.YtkhicabfmkldpaaDoorSpecRead
import Derived.Test.YtkhicabfmkldpaaDoorFaults
set_option linter.unusedSimpArgs false
set_option linter.unusedVariables false
namespace Go.Proofs.YtkhicabfmkldpaaDoor
open Go Go.RowKit

/-- How the steps that are left lie in memory: below none, no matter how far. -/
def LeftR (L : Int) (s : St) : Prop := (0 < s.left ∧ L = s.left) ∨ (s.left = 0 ∧ L ≤ 0)

/-- A state in memory. -/
structure SpS (w : World) (B M : Nat) (iv dv nv : Value) (ins : List (Nat × Int)) (s : St) (L : Int) : Prop where
  at' : ∃ rest bad pc, SpAt w B M iv dv nv ins rest s.notes bad s.odd L pc s.tg ∧ (s.odd = false → bad = decide (s.bad ≠ 0)) ∧ (s.odd = false → s.bad = 0 → rest = s.rest ∧ pc = s.pc)
  left : LeftR L s

/-- What bounds a state's growth. -/
structure Bnd (s : St) : Prop where
  notes : s.notes.length + 3 * s.left ≤ 100000
  tg : s.tg + s.left ≤ 100000
  tg0 : 0 ≤ s.tg
  rest : s.rest.length ≤ 100000
  pc : s.odd = false → 0 ≤ s.pc

def LoOk (lo L : Int) : Prop := (1 ≤ L → lo ≤ -L) ∧ (L ≤ 0 → lo ≤ L - 1)

/-- What a level leaves. -/
def SLev (B M R : Nat) (iv nv : Value) (ins : List (Nat × Int)) (lo : Int) (s' : St) (w : World) (e : Ending) (w' : World) : Prop :=
  e = .returned (.tuple #[]) ∧ ∃ dv' nv' L', SpS w' B M iv dv' nv' ins s' L' ∧ lo ≤ L' ∧ Chg (fun k => k = M ∨ nv.ownBlock = some k ∨ k = R) w w' ∧ Fresh w nv nv'

/-- Calls go to places that are there. -/
def CallsOk (ins : List (Nat × Int)) : Prop := ∀ (i : Nat) (x : Int), ins[i]? = some (8, x) → 0 ≤ x

/-- What is known of every level with so many steps. -/
def LvlOk (B M : Nat) (iv : Value) (ins : List (Nat × Int)) (f : Nat) : Prop :=
  ∀ (R : Nat) (dv nv : Value) (r : Regs) (tgt outer field : Int) (kind : Bool) (s : St) (L lo : Int) (w : World), SpS w B M iv dv nv ins s L → RgAt w R r → R ≠ M → nv.ownBlock ≠ some R → B ≤ R → s.odd = false → s.bad = 0 → s.left ≤ f → Bnd s → LoOk lo L → -1000000 ≤ lo →
    Calls Tryd.prog 25 #[.pointer (some ⟨M, 0, none⟩), .int .i64 tgt, .int .i64 outer, .int .i64 field, .pointer (some ⟨R, 0, none⟩)] w (SLev B M R iv nv ins lo (lev 9 ins f r tgt outer field false kind s) w)

theorem SpIn.form {w : World} {v : Value} {l : List (Nat × Int)} (h : SpIn w v l) : ∃ a c, v = .slice a l.length c := by
  rcases h with ⟨rfl, rfl⟩ | ⟨b, off, cap, rfl, _⟩
  · exact ⟨_, _, rfl⟩
  · exact ⟨_, _, rfl⟩

theorem lev_idle {mx : Nat} {ins : List (Nat × Int)} {f : Nat} {r : Regs} {tgt outer field : Int} {null kind : Bool} {s : St} (hf : s.left ≤ f) (h : ¬ (s.bad = 0 ∧ s.odd = false)) : lev mx ins f r tgt outer field null kind s = s := by
  cases f with
  | zero =>
    unfold lev
    obtain ⟨pc, rest, notes, tg, left, bad, odd, viol⟩ := s
    simp at hf
    simp [hf]
  | succ f => unfold lev; exact if_neg h

theorem lev_past {mx : Nat} {ins : List (Nat × Int)} {f : Nat} {r : Regs} {tgt outer field : Int} {null kind : Bool} {s : St} (hf : s.left ≤ f) (hb : s.bad = 0) (ho : s.odd = false) (h : fetch ins s.pc = none) : lev mx ins f r tgt outer field null kind s = s := by
  cases f with
  | zero =>
    unfold lev
    obtain ⟨pc, rest, notes, tg, left, bad, odd, viol⟩ := s
    simp at hf
    simp [hf]
  | succ f => exact lev_none hb ho h

theorem lev_out {mx : Nat} {ins : List (Nat × Int)} {f : Nat} {r : Regs} {tgt outer field : Int} {null kind : Bool} {s : St} {op : Nat} {x : Int} (hb : s.bad = 0) (ho : s.odd = false) (h : fetch ins s.pc = some (op, x)) (hl : s.left ≤ 1) : lev mx ins f r tgt outer field null kind s = { s with left := 0 } := by
  cases f with
  | zero => unfold lev; rfl
  | succ f =>
    unfold lev
    rw [if_pos ⟨hb, ho⟩, h]
    show (if s.left ≤ 1 then _ else _) = _
    rw [if_pos hl]

theorem SpAt.drewN {w : World} {B M : Nat} {iv dv nv : Value} {ins : List (Nat × Int)} {rest : List UInt8} {l : List Note} {bad odd : Bool} {left pc tg : Int} (h : SpAt w B M iv dv nv ins rest l bad odd left pc tg) (n : Nat) : SpAt (w.drewN n) B M iv dv nv ins rest l bad odd left pc tg :=
  h.other ((Chg.refl (fun _ => False) w).drewN n) (fun k e => e.elim) (h.m.drewN n) (World.ownsRow.chg h.notes ((Chg.refl (fun _ => False) w).drewN n) (fun _ _ e => e)) h.ne

theorem SpAt.stepped {w : World} {B M : Nat} {iv dv nv : Value} {ins : List (Nat × Int)} {rest : List UInt8} {l : List Note} {bad odd : Bool} {left pc tg : Int} (h : SpAt w B M iv dv nv ins rest l bad odd left pc tg) (x : Int) :
    SpAt (w.setCell ⟨M, 5, none⟩ (.int .i64 x)) B M iv dv nv ins rest l bad odd x pc tg ∧ Chg (fun k => k = M) w (w.setCell ⟨M, 5, none⟩ (.int .i64 x)) := by
  have hC : Chg (fun k => k = M) w (w.setCell ⟨M, 5, none⟩ (.int .i64 x)) := (Chg.refl (fun k => k = M) w).setCell (fun _ => rfl) _
  exact ⟨h.other hC (fun k e => by subst e; exact h.le) (h.m.set 5 _) (World.ownsRow.chg h.notes hC (fun g hg e => h.ne (e ▸ hg))) h.ne, hC⟩

theorem Bnd.later {s s2 : St} (h : Bnd s) (hl : Later s s2) (hr : s2.rest.length ≤ s.rest.length) (hp : s2.odd = false → 0 ≤ s2.pc) : Bnd s2 :=
  ⟨Nat.le_trans hl.notes h.notes, Int.le_trans hl.tg h.tg, Int.le_trans h.tg0 hl.tg2, Nat.le_trans hr h.rest, hp⟩

theorem lev_pc {mx : Nat} {ins : List (Nat × Int)} (hc : CallsOk ins) : ∀ (f : Nat) (r : Regs) (tgt outer field : Int) (null kind : Bool) (s : St), (s.odd = false → 0 ≤ s.pc) → (lev mx ins f r tgt outer field null kind s).odd = false → 0 ≤ (lev mx ins f r tgt outer field null kind s).pc
  | 0, _, _, _, _, _, _, s, h, ho => by unfold lev at ho ⊢; exact h ho
  | f + 1, r, tgt, outer, field, null, kind, s, h, ho => by
    by_cases hb : s.bad = 0 ∧ s.odd = false
    · cases hfe : fetch ins s.pc with
      | none => rw [lev_none hb.1 hb.2 hfe]; exact h hb.2
      | some ox =>
        obtain ⟨op, x⟩ := ox
        by_cases hl : s.left ≤ 1
        · rw [lev_out hb.1 hb.2 hfe hl]; exact h hb.2
        · have h0 := h hb.2
          have hp : 0 ≤ s.pc + 1 := by omega
          rw [lev_step hb.1 hb.2 hfe hl] at ho ⊢
          have hcx : op = 8 → 0 ≤ x := by
            intro e
            subst e
            unfold fetch at hfe
            rw [if_pos h0] at hfe
            exact hc _ _ hfe
          clear hfe
          revert ho hcx
          match op with
          | 2 => intro ho hcx; exact lev_pc hc f _ _ _ _ _ _ _ (lev_pc hc f _ _ _ _ _ _ _ (fun _ => hp)) ho
          | 3 => intro ho hcx; show 0 ≤ (s.tick.leave tgt outer field null kind).pc; unfold St.leave; cases null <;> exact hp
          | 4 => intro ho hcx; exact lev_pc hc f _ _ _ _ _ _ _ (fun _ => hp) ho
          | 5 => intro ho hcx; exact lev_pc hc f _ _ _ _ _ _ _ (lev_pc hc f _ _ _ _ _ _ _ (fun _ => hp)) ho
          | 6 => intro ho hcx; exact lev_pc hc f _ _ _ _ _ _ _ (lev_pc hc f _ _ _ _ _ _ _ (fun _ => hp)) ho
          | 8 => intro ho hcx; exact lev_pc hc f _ _ _ _ _ _ _ (fun _ => hp) ho
          | 9 => intro ho hcx; exact hp
          | 10 => intro ho hcx; exact hp
          | 19 => intro ho hcx; exact lev_pc hc f _ _ _ _ _ _ _ (lev_pc hc f _ _ _ _ _ _ _ (fun _ => hp)) ho
          | 20 => intro ho hcx; exact hp
          | 11 =>
            intro ho hcx
            refine lev_pc hc f _ _ _ _ _ _ _ (fun e => ?_) ho
            have e : (s.odd || decide (x < 0)) = false := e
            simp at e
            exact e.2
          | 14 =>
            intro ho hcx
            refine lev_pc hc f _ _ _ _ _ _ _ (fun e => ?_) ho
            have hsm : simple mx 14 x tgt r s.tick = (r, if r.cond then s.tick.jump x else s.tick) := rfl
            rw [hsm] at e ⊢
            cases hcc : r.cond with
            | false => exact hp
            | true =>
              rw [hcc] at e
              have e : (s.odd || decide (x < 0)) = false := e
              simp at e
              exact e.2
          | 0 => intro ho hcx; exact lev_pc hc f _ _ _ _ _ _ _ (fun _ => by show 0 ≤ (rd mx x r s.tick).2.pc; rw [(rd_left mx x r s.tick).2.2.2.2.2]; exact hp) ho
          | 1 => intro ho hcx; exact lev_pc hc f _ _ _ _ _ _ _ (fun _ => by show 0 ≤ (st x tgt r s.tick).pc; rw [(st_left x tgt r s.tick).2.2.2.2.2.1]; exact hp) ho
          | 7 => intro ho hcx; exact lev_pc hc f _ _ _ _ _ _ _ (fun _ => hp) ho
          | 12 => intro ho hcx; exact lev_pc hc f _ _ _ _ _ _ _ (fun _ => hp) ho
          | 13 => intro ho hcx; exact lev_pc hc f _ _ _ _ _ _ _ (fun _ => hp) ho
          | 15 => intro ho hcx; exact lev_pc hc f _ _ _ _ _ _ _ (fun _ => hp) ho
          | 16 => intro ho hcx; exact lev_pc hc f _ _ _ _ _ _ _ (fun _ => hp) ho
          | 17 => intro ho hcx; exact lev_pc hc f _ _ _ _ _ _ _ (fun _ => hp) ho
          | 18 => intro ho hcx; exact lev_pc hc f _ _ _ _ _ _ _ (fun _ => hp) ho
          | 21 => intro ho hcx; exact lev_pc hc f _ _ _ _ _ _ _ (fun _ => hp) ho
          | 22 => intro ho hcx; exact lev_pc hc f _ _ _ _ _ _ _ (fun _ => hp) ho
          | n + 23 => intro ho hcx; exact lev_pc hc f _ _ _ _ _ _ _ (fun _ => hp) ho
    · rw [show lev mx ins (f + 1) r tgt outer field null kind s = s by unfold lev; exact if_neg hb] at ho ⊢
      exact h ho


theorem sps_read {B M R : Nat} {iv nv : Value} {ins : List (Nat × Int)} {s : St} {L pc : Int} {r : Regs} {k : Int} {w w' : World} (hL : L = s.left) (h0 : 0 < s.left) (hpc : pc = s.pc) (h : SRead B M R iv nv ins s.notes L pc s.tg (rd 9 k r s) w w') :
    ∃ dv' r', SpS w' B M iv dv' nv ins (rd 9 k r s).2 L ∧ RgAt w' R r' ∧ ((rd 9 k r s).2.odd = false → (rd 9 k r s).2.bad = 0 → r' = (rd 9 k r s).1) ∧ Chg (fun k => k = M ∨ k = R) w w' := by
  obtain ⟨dv', rest', bad', r', h1, h2, h3, h4, h5⟩ := h
  obtain ⟨k1, k2, k3, k4, k5, k6⟩ := rd_left 9 k r s
  refine ⟨dv', r', ⟨⟨rest', bad', pc, ?_, h4, fun a b => ⟨(h5 a b).1, by rw [k6]; exact hpc⟩⟩, .inl ⟨by rw [k1]; exact h0, by rw [k1]; exact hL⟩⟩, h2, fun a b => (h5 a b).2, h3⟩
  rw [k2, k3]
  exact h1

theorem sps_step {B M R : Nat} {iv nv : Value} {ins : List (Nat × Int)} {s : St} {L tgt x : Int} {op : Nat} {r : Regs} {w w' : World} (hL : L = s.left) (h0 : 0 < s.left) (hr : (simple 9 op x tgt r s).2.rest = s.rest)
    (h : SStep B M R iv nv ins s.rest (simple 9 op x tgt r s).2.notes (decide ((simple 9 op x tgt r s).2.bad ≠ 0)) (simple 9 op x tgt r s).2.odd L (simple 9 op x tgt r s).2.pc s.tg (simple 9 op x tgt r s).1 w w') :
    ∃ dv' nv', SpS w' B M iv dv' nv' ins (simple 9 op x tgt r s).2 L ∧ RgAt w' R (simple 9 op x tgt r s).1 ∧ nv'.ownBlock ≠ some R ∧ Chg (fun k => k = M ∨ nv.ownBlock = some k ∨ k = R) w w' ∧ Fresh w nv nv' := by
  obtain ⟨dv', nv', h1, h2, h3, h4, h5⟩ := h
  obtain ⟨k1, k2, k3, k4, k5⟩ := simple_left 9 op x tgt r s
  refine ⟨dv', nv', ⟨⟨_, _, _, ?_, fun _ => rfl, fun _ _ => ⟨hr.symm, rfl⟩⟩, .inl ⟨by rw [k1]; exact h0, by rw [k1]; exact hL⟩⟩, h2, h3, h4, h5⟩
  rw [k3]
  exact h1

theorem sps_set {B M R : Nat} {iv dv nv : Value} {ins : List (Nat × Int)} {s : St} {L pc tgt : Int} {r : Regs} {k : Int} {w w' : World} (hL : L = s.left) (h0 : 0 < s.left) (hpc : pc = s.pc) (hb : s.bad = 0) (h : SNoted B M R iv dv nv ins s.rest (st k tgt r s).notes false s.odd L pc s.tg r w w') :
    ∃ nv', SpS w' B M iv dv nv' ins (st k tgt r s) L ∧ RgAt w' R r ∧ nv'.ownBlock ≠ some R ∧ Chg (fun k => k = M ∨ nv.ownBlock = some k) w w' ∧ Fresh w nv nv' := by
  obtain ⟨nv', h1, h2, h3, h4, h5⟩ := h
  obtain ⟨k1, k2, k3, k4, k5, k6, k7, k8⟩ := st_left k tgt r s
  refine ⟨nv', ⟨⟨s.rest, false, pc, ?_, fun _ => by rw [k8, hb]; rfl, fun _ _ => ⟨k7.symm, by rw [k6]; exact hpc⟩⟩, .inl ⟨by rw [k1]; exact h0, by rw [k1]; exact hL⟩⟩, h2, h3, h4, h5⟩
  rw [k5, k3]
  exact h1

def zregs : Array Value := #[.bool false, .bool false, .int .i64 0, .int .i64 0, .int .u64 0, .int .u64 0, .string ⟨#[]⟩, .string ⟨#[]⟩]

theorem SpS.alloc {w : World} {B M : Nat} {iv dv nv : Value} {ins : List (Nat × Int)} {s : St} {L : Int} (h : SpS w B M iv dv nv ins s L) (o : Obj) : SpS (w.alloc o) B M iv dv nv ins s L := by
  obtain ⟨⟨rest, bad, pc, h1, h2, h3⟩, h4⟩ := h
  exact ⟨⟨rest, bad, pc, h1.alloc o, h2, h3⟩, h4⟩

theorem SpS.back {w : World} {B M : Nat} {iv dv nv : Value} {ins : List (Nat × Int)} {s : St} {L : Int} (h : SpS w B M iv dv nv ins s L) (x : Int) : SpS (w.setCell ⟨M, 6, none⟩ (.int .i64 x)) B M iv dv nv ins { s with pc := x } L ∧ Chg (fun k => k = M) w (w.setCell ⟨M, 6, none⟩ (.int .i64 x)) := by
  obtain ⟨⟨rest, bad, pc, h1, h2, h3⟩, h4⟩ := h
  obtain ⟨m1, m2⟩ := h1.jumped x
  exact ⟨⟨⟨rest, bad, x, m1, h2, fun a b => ⟨(h3 a b).1, rfl⟩⟩, h4⟩, m2⟩

theorem SpS.c6 {w : World} {B M : Nat} {iv dv nv : Value} {ins : List (Nat × Int)} {s : St} {L : Int} (h : SpS w B M iv dv nv ins s L) : (∃ pc, w.cell? ⟨M, 6, none⟩ = some (.int .i64 pc)) ∧ w.frozen? ⟨M, 6, none⟩ = false := by
  obtain ⟨⟨rest, bad, pc, h1, h2, h3⟩, h4⟩ := h
  exact ⟨⟨pc, h1.m.cell 6 rfl⟩, h1.m.free 6⟩

/-- A level within, on registers of its own. -/
theorem sub_call {B M : Nat} {iv : Value} {ins : List (Nat × Int)} {g : Nat} (hs : LvlOk B M iv ins g) (w : World) (dv nv : Value) (tgt outer field : Int) (kind : Bool) (s : St) (L : Int) (h : SpS w B M iv dv nv ins s L) (ho : s.odd = false) (hb : s.bad = 0) (hg : s.left ≤ g) (hB : Bnd s) (hL : 1 ≤ L) (hL2 : L ≤ 100000) (k : Nat) (hk : k = w.heap.size) :
    Calls Tryd.prog 25 #[.pointer (some ⟨M, 0, none⟩), .int .i64 tgt, .int .i64 outer, .int .i64 field, .pointer (some ⟨k, 0, none⟩)] (w.alloc (.cells zregs 71)) fun e w' => e = .returned (.tuple #[]) ∧
      ∃ dv' nv' L', SpS w' B M iv dv' nv' ins (lev 9 ins g regs0 tgt outer field false kind s) L' ∧ -L ≤ L' ∧ Chg (fun k => k = M ∨ nv.ownBlock = some k) w w' ∧ Fresh w nv nv' := by
  subst hk
  obtain ⟨rest, bad, pc, h1, h2, h3⟩ := h.at'
  have hM := h1.m.lt
  have hle := h1.le
  have hown : ∀ k, nv.ownBlock = some k → k < w.heap.size := fun k hk => (h1.notes.lt k hk).2
  refine (hs w.heap.size dv nv regs0 tgt outer field kind s L (-L) _ (h.alloc _) (blk_new w zregs 71) (by omega) (fun e => by have := hown _ e; omega) (by omega) ho hb hg hB ⟨fun _ => Int.le_refl _, fun _ => by omega⟩ (by omega)).mono ?_
  rintro e w' ⟨rfl, dv', nv', L', a1, a2, a3, a4⟩
  refine ⟨rfl, dv', nv', L', a1, a2, ((chg_alloc w _).mono (S' := fun k => k = M ∨ nv.ownBlock = some k) (fun _ _ e => e.elim)).trans a3 (fun i hi e => ?_), ?_⟩
  · rcases e with e | e | e
    · exact .inl e
    · exact .inr e
    · omega
  · rcases a4 with a4 | ⟨g, a4, a5⟩
    · exact .inl a4
    · exact .inr ⟨g, a4, by simp at a5; omega⟩

theorem SpAt.badly {w : World} {B M : Nat} {iv dv nv : Value} {ins : List (Nat × Int)} {rest : List UInt8} {l : List Note} {bad odd : Bool} {left pc tg : Int} (h : SpAt w B M iv dv nv ins rest l bad odd left pc tg) (b : Bool) :
    SpAt (w.setCell ⟨M, 3, none⟩ (.bool b)) B M iv dv nv ins rest l b odd left pc tg ∧ Chg (fun k => k = M) w (w.setCell ⟨M, 3, none⟩ (.bool b)) := by
  have hC : Chg (fun k => k = M) w (w.setCell ⟨M, 3, none⟩ (.bool b)) := (Chg.refl (fun k => k = M) w).setCell (fun _ => rfl) _
  exact ⟨h.other hC (fun k e => by subst e; exact h.le) (h.m.set 3 _) (World.ownsRow.chg h.notes hC (fun g hg e => h.ne (e ▸ hg))) h.ne, hC⟩

theorem simple_pos (mx op : Nat) (x tgt : Int) (r : Regs) (s : St) (hn : op ≠ 0 ∧ op ≠ 1 ∧ op ≠ 2 ∧ op ≠ 3 ∧ op ≠ 4 ∧ op ≠ 5 ∧ op ≠ 6 ∧ op ≠ 8 ∧ op ≠ 9 ∧ op ≠ 10 ∧ op ≠ 19 ∧ op ≠ 20) (hp : 0 ≤ s.pc) : (simple mx op x tgt r s).2.odd = false → 0 ≤ (simple mx op x tgt r s).2.pc := by
  unfold simple
  split
  · exact absurd rfl hn.1
  · exact absurd rfl hn.2.1
  · exact fun _ => hp
  · intro e
    have e : (s.odd || decide (x < 0)) = false := e
    simp at e
    exact e.2
  · exact fun _ => hp
  · exact fun _ => hp
  · split
    · intro e
      have e : (s.odd || decide (x < 0)) = false := e
      simp at e
      exact e.2
    · exact fun _ => hp
  all_goals exact fun _ => hp

set_option maxRecDepth 100000 in
set_option maxHeartbeats 8000000 in
theorem slevel (B M : Nat) (iv : Value) (ins : List (Nat × Int)) (hcalls : CallsOk ins) (hins : ins.length ≤ 100000) (f : Nat) (hsub : ∀ g, g < f → LvlOk B M iv ins g) : LvlOk B M iv ins f := by
  intro R dv nv r tgt outer field kind s L lo w hS hR hRM hRn hBR hodd hbad hf hB hlo hlo2
  obtain ⟨ia, ic, hiv⟩ := (hS.at'.choose_spec.choose_spec.choose_spec).1.ins.form
  have H := hid hS
  have HR := hid hR
  have Hiv := hid hiv
  clear hS hR hiv
  obtain ⟨s', Hs'⟩ : ∃ s', Hid (lev 9 ins f r tgt outer field false kind s = s') := ⟨_, hid rfl⟩
  rw [Hs'.out]
  go_enter Tryd.func25, Tryd.ntmps25
  go_wp2
  go_loopg [10, 11, 12, 13, 14] f (fun k v10 v11 v12 v13 v14 wr => ∃ (null : Bool) (g : Nat) (s1 : St) (r1 r1' : Regs) (dv1 nv1 : Value) (L1 : Int), v10 = .bool null ∧ k = g ∧ k ≤ f ∧ Hid (SpS wr B M iv dv1 nv1 ins s1 L1 ∧ RgAt wr R r1' ∧ (s1.odd = false → s1.bad = 0 → r1' = r1) ∧ nv1.ownBlock ≠ some R ∧ s1.left ≤ g ∧ Bnd s1 ∧ LoOk lo L1 ∧ lev 9 ins g r1 tgt outer field null kind s1 = s' ∧ Chg (fun k => k = M ∨ nv.ownBlock = some k ∨ k = R) w wr ∧ Fresh w nv nv1))
  case atStart => exact ⟨false, f, s, r, r, dv, nv, L, rfl, rfl, Nat.le_refl _, H.out, HR.out, fun _ _ => rfl, hRn, hf, hB, hlo, Hs'.out, Chg.refl _ w, Fresh.refl w nv⟩
  case round =>
    obtain ⟨null, g, s1, r1, r1', dv1, nv1, L1, rfl, rfl, hgf, HH⟩ := hrel
    obtain ⟨rest0, bad0, pc0, hsp, hsb, hsr⟩ := HH.out.1.at'
    have c0 : wr.cell? ⟨M, 0, none⟩ = some (.slice ia ins.length ic) := by have := hsp.m.cell 0 (v := iv) rfl; rw [Hiv.out] at this; exact this
    have c3 := hsp.c3
    have c4 := hsp.c4
    have c5 : wr.cell? ⟨M, 5, none⟩ = some (.int .i64 L1) := hsp.m.cell 5 rfl
    have c6 : wr.cell? ⟨M, 6, none⟩ = some (.int .i64 pc0) := hsp.m.cell 6 rfl
    have Hsp := hid hsp
    have f5 := hsp.m.free 5
    have f6 := hsp.m.free 6
    by_cases hrun : s1.bad = 0 ∧ s1.odd = false ∧ pc0 < ins.length
    · obtain ⟨hb1, ho1, hp1⟩ := hrun
      obtain ⟨hr1, hr2⟩ := hsr ho1 hb1
      have hb0 : bad0 = false := by rw [hsb ho1, hb1]; rfl
      subst hr1 hr2 hb0
      rw [ho1] at c4
      have hpc0 : 0 ≤ s1.pc := HH.out.2.2.2.2.2.1.pc ho1
      obtain ⟨⟨op, x⟩, hox⟩ : ∃ o, ins[s1.pc.toNat]? = some o := ⟨_, List.getElem?_eq_getElem (by omega)⟩
      have hfe : fetch ins s1.pc = some (op, x) := by unfold fetch; rw [if_pos hpc0]; exact hox
      obtain ⟨b, off, hia, hcell⟩ : ∃ b off, ia = some ⟨b, off, none⟩ ∧ (wr.cell? ⟨b, off + s1.pc.toNat * 2, none⟩ = some (.int .i64 (op : Int)) ∧ wr.cell? ⟨b, off + s1.pc.toNat * 2 + 1, none⟩ = some (.int .i64 x)) ∧ b < B := by
        rcases hsp.ins with ⟨_, h2⟩ | ⟨b, off, cap, h1, h2⟩
        · rw [h2] at hox; simp at hox
        · have h3 := Hiv.out.symm.trans h1
          simp at h3
          exact ⟨b, off, h3.1, h2 _ _ _ hox, hsp.iold b (by rw [Hiv.out, h3.1]; rfl)⟩
      obtain ⟨⟨ci, cx⟩, hbB⟩ := hcell
      subst hia
      have hbM : ¬ b = M := by have := hsp.le; omega
      have hL1 : -1000000 ≤ L1 ∧ L1 ≤ 100000 := by
        have h1 := HH.out.1.left
        have h2 := HH.out.2.2.2.2.2.1.notes
        have h3 := HH.out.2.2.2.2.2.2.1
        unfold LeftR at h1
        unfold LoOk at h3
        omega
      obtain ⟨p, hp⟩ : ∃ p : Nat, s1.pc = p := ⟨s1.pc.toNat, by omega⟩
      have hpl : p < 100000 := by omega
      rw [hp] at c6 ci cx hp1 Hsp
      rw [Int.toNat_natCast] at ci cx
      obtain ⟨V, hV⟩ : ∃ V, V = Value.int .i64 (op : Int) := ⟨_, rfl⟩
      rw [← hV] at ci
      have HV := hid hV
      have Hfe := hid hfe
      clear hsp hsb hsr hox hfe hV
      obtain ⟨hS1, hR1, hrr, hn1, hg1, hB1, hlo1, hlev, hch1, hfr1⟩ := HH.out
      have hr1 : r1' = r1 := hrr ho1 hb1
      subst hr1
      have hleft := hS1.left
      unfold LeftR at hleft
      unfold LoOk at hlo1
      have Hch := hid (And.intro hch1 hfr1)
      have HR1 := hid hR1
      have HB1 := hid hB1
      have Hlev := hid hlev
      clear HH hS1 hR1 hrr hch1 hfr1 hB1 hlev
      by_cases hL : L1 ≤ 1
      · go_wp2
        go_quiet (fail)
        go_wp2
        refine bodyPost_ret (results_none rfl _ _ _) rfl ?_
        have hs' := Hlev.out
        rw [lev_out hb1 ho1 Hfe.out (by omega)] at hs'
        obtain ⟨m1, m2⟩ := (Hsp.out.drewN nq).stepped (L1 - 1)
        rw [← hs']
        refine ⟨rfl, dv1, nv1, L1 - 1, ⟨⟨_, _, _, m1, fun _ => by show false = decide (s1.bad ≠ 0); rw [hb1]; rfl, fun _ _ => ⟨rfl, hp.symm⟩⟩, .inr ⟨rfl, by omega⟩⟩, by omega, ?_, Hch.out.2⟩
        exact (Hch.out.1.drewN nq).trans m2 (fun _ _ e => .inl e)
      · have hL2 : ¬ L1 - 1 ≤ 0 := by omega
        obtain ⟨g, rfl⟩ : ∃ g, gk = g + 1 := ⟨gk - 1, by omega⟩
        go_wp2
        go_quiet (fail)
        go_wp2
        obtain ⟨n1, hn1'⟩ : ∃ n1 : Nat, n1 = nq := ⟨nq, rfl⟩
        subst hn1'
        go_quiet (fail)
        go_wp2
        obtain ⟨wA, hwA⟩ : ∃ wA, ((((wr.drewN n1).setCell ⟨M, 5, none⟩ (.int .i64 (L1 - 1))).drewN nq).setCell ⟨M, 6, none⟩ (.int .i64 ((p : Int) + 1))) = wA := ⟨_, rfl⟩
        rw [hwA]
        obtain ⟨m1, m2⟩ := (Hsp.out.drewN n1).stepped (L1 - 1)
        obtain ⟨m3, m4⟩ := (m1.drewN nq).jumped ((p : Int) + 1)
        rw [hwA] at m3 m4
        have hA := hid (sp_as m3 ho1.symm)
        have hA2 := hid m3
        have hcA : Hid (Chg (fun k => k = M) wr wA) := hid ((((Chg.refl (fun k => k = M) wr).drewN n1).trans m2 (fun _ _ e => e)).trans (((Chg.refl (fun k => k = M) _).drewN nq).trans m4 (fun _ _ e => e)) (fun _ _ e => e))
        have hRA := hid (HR1.out.keep hcA.out hRM)
        have hsA : wr.heap.size ≤ wA.heap.size := hcA.out.size
        have hst := lev_step (mx := 9) (f := g) (r := r1') (tgt := tgt) (outer := outer) (field := field) (null := null) (kind := kind) hb1 ho1 Hfe.out (show ¬ s1.left ≤ 1 by omega)
        rw [Hlev.out] at hst
        have Hst := hid hst
        have hpc1 : (p : Int) + 1 = s1.tick.pc := by show _ = s1.pc + 1; omega
        have hLt : L1 - 1 = s1.tick.left := by show _ = ((s1.left - 1 : Nat) : Int); omega
        have h0t : 0 < s1.tick.left := by show 0 < s1.left - 1; omega
        clear m1 m2 m3 m4 hwA hst c0 c3 c4 c5 c6 ci cx f5 f6 Hsp
        rw [HV.out]
        clear HV
        have hstep : Later s1 s1.tick := step_later (by omega)
        have hnl : s1.notes.length ≤ 1000000 := by have := HB1.out.notes; omega
        have hrl : s1.rest.length ≤ 1000000 := by have := HB1.out.rest; omega
        have hpn : 0 ≤ s1.tick.pc := by omega
        -- how a round is handed on
        have again : Hid (∀ (w2 : World) (dv2 nv2 : Value) (r2 r2' : Regs) (null2 : Bool) (s2 : St) (L2 : Int), SpS w2 B M iv dv2 nv2 ins s2 L2 → RgAt w2 R r2' → (s2.odd = false → s2.bad = 0 → r2' = r2) → nv2.ownBlock ≠ some R → Later s1 s2 → s2.left ≤ s1.tick.left → s2.rest.length ≤ s1.rest.length → (s2.odd = false → 0 ≤ s2.pc) →
            -(L1 - 1) ≤ L2 → s' = lev 9 ins g r2 tgt outer field null2 kind s2 → Chg (fun k => k = M ∨ nv1.ownBlock = some k ∨ k = R) wr w2 → Fresh wr nv1 nv2 →
            ∃ (null : Bool) (g_1 : Nat) (s1 : St) (r1 r1' : Regs) (dv1 nv1 : Value) (L1 : Int), Value.bool null2 = .bool null ∧ g = g_1 ∧ g ≤ f ∧ Hid (SpS w2 B M iv dv1 nv1 ins s1 L1 ∧ RgAt w2 R r1' ∧ (s1.odd = false → s1.bad = 0 → r1' = r1) ∧ nv1.ownBlock ≠ some R ∧ s1.left ≤ g_1 ∧ Bnd s1 ∧ LoOk lo L1 ∧ lev 9 ins g_1 r1 tgt outer field null kind s1 = s' ∧ Chg (fun k => k = M ∨ nv.ownBlock = some k ∨ k = R) w w2 ∧ Fresh w nv nv1)) := by
          refine hid ?_
          intro w2 dv2 nv2 r2 r2' null2 s2 L2 a1 a2 a3 a4 a5 a6 a7 a8 a9 a10 a11 a12
          have hl2 := a1.left
          unfold LeftR at hl2
          have e1 : s1.tick.left = s1.left - 1 := rfl
          refine ⟨null2, g, s2, r2, r2', dv2, nv2, L2, rfl, rfl, by omega, a1, a2, a3, a4, by omega, HB1.out.later a5 a7 a8, ?_, a10.symm, Hch.out.1.trans a11 (fun i hi e => ?_), Hch.out.2.trans a12 Hch.out.1.size⟩
          · unfold LoOk; omega
          · rcases e with e | e | e
            · exact .inl e
            · rcases Hch.out.2 with h | ⟨g1, h, hg1'⟩
              · exact .inr (.inl (h ▸ e))
              · rw [e] at h; cases h; omega
            · exact .inr (.inr e)
        have e1t : s1.tick.left = s1.left - 1 := rfl
        have hsubg := hid (hsub g (by omega))
        have hBt : Bnd s1.tick := HB1.out.later hstep (Nat.le_refl _) (fun _ => hpn)
        have HBt := hid hBt
        clear hBt
        have hMR : ∀ (w0 w2 : World), Chg (fun k => k = M ∨ nv1.ownBlock = some k) w0 w2 → RgAt w0 R r1' → RgAt w2 R r1' := fun _ _ hc hR => blk.chg hR hc (fun e => e.elim hRM hn1)
        have hMR := hid hMR
        by_cases ho0 : op = 0
        · subst ho0
          go_wp2_with (go_at_call 37; refine (sread_any B M R iv dv1 nv1 ins s1.tick.rest s1.tick.notes (L1 - 1) ((p : Int) + 1) s1.tick.tg r1' wA s1.tick ho1 hb1 rfl hA.out hrl hRA.out hRM hn1 hBR x).mono ?_; rintro e w2 ⟨rfl, hq⟩; replace hq := hid hq)
          go_roundg g
          case measure => omega
          case rel =>
            obtain ⟨dv2, r2', q1, q2, q3, q4⟩ := sps_read hLt h0t hpc1 hq.out
            obtain ⟨k1, k2, k3, k4, k5, k6⟩ := rd_left 9 x r1' s1.tick
            refine again.out w2 dv2 nv1 _ r2' null _ _ q1 q2 q3 hn1 ?_ ?_ ?_ ?_ ?_ Hst.out ?_ (Fresh.refl _ _)
            · exact tick_later (by omega) k1 (by rw [show (rd 9 x r1' s1.tick).2.notes = s1.notes from k2]; omega) (by rw [show (rd 9 x r1' s1.tick).2.tg = s1.tg from k3]; omega) (by rw [show (rd 9 x r1' s1.tick).2.tg = s1.tg from k3]; omega) k5 (fun h => by rw [k4] at h; exact h)
            · rw [k1]; exact Nat.le_refl _
            · exact (rd_grows 9 x r1' s1.tick).rest
            · intro _; rw [k6]; exact hpn
            · omega
            · exact (hcA.out.mono (fun _ _ e => .inl e)).trans q4 (fun _ _ e => e.elim .inl (fun e => .inr (.inr e)))
        by_cases ho1' : op = 1
        · subst ho1'
          go_wp2_with (go_at_call 38; refine (sset_any B M R iv dv1 nv1 ins s1.tick.rest s1.tick.notes false s1.tick.odd (L1 - 1) ((p : Int) + 1) s1.tick.tg tgt r1' wA hA2.out hnl hRA.out hRM hn1 x s1.tick rfl).mono ?_; rintro e w2 ⟨rfl, hq⟩; replace hq := hid hq)
          go_roundg g
          case measure => omega
          case rel =>
            obtain ⟨nv2, q1, q2, q3, q4, q5⟩ := sps_set hLt h0t hpc1 hb1 hq.out
            obtain ⟨k1, k2, k3, k4, k5, k6, k7, k8⟩ := st_left x tgt r1' s1.tick
            refine again.out w2 dv1 nv2 r1' r1' null (st x tgt r1' s1.tick) _ q1 q2 (fun _ _ => rfl) q3 ?_ ?_ ?_ ?_ ?_ Hst.out ?_ ?_
            · exact tick_later (by omega) k1 (by have : s1.tick.notes = s1.notes := rfl; rw [this] at k2; omega) (by rw [show (st x tgt r1' s1.tick).tg = s1.tg from k3]; omega) (by rw [show (st x tgt r1' s1.tick).tg = s1.tg from k3]; omega) (fun h => by rw [k5] at h; exact h) (fun h => by rw [k4] at h; exact h)
            · rw [k1]; exact Nat.le_refl _
            · rw [k7]; exact Nat.le_refl _
            · intro _; rw [k6]; exact hpn
            · omega
            · exact (hcA.out.mono (fun _ _ e => .inl e)).trans q4 (fun _ _ e => e.elim .inl (fun e => .inr (.inl e)))
            · exact (show Fresh wr nv1 nv1 from Fresh.refl _ _).trans (by rcases q5 with h | ⟨g, h, h2⟩; exact .inl h; exact .inr ⟨g, h, by omega⟩) (Nat.le_refl _)
        by_cases ho2' : op = 2
        · subst ho2'
          go_wp2_with (first | (go_at_call 39; refine (snote_any B M iv dv1 nv1 ins s1.tick.rest s1.tick.notes false s1.tick.odd (L1 - 1) ((p : Int) + 1) s1.tick.tg tgt x nmGet ⟨#[]⟩ wA hA2.out hnl).mono ?_; rintro e w2 ⟨rfl, nv2, j1, j2, j3⟩; replace j1 := hid j1; replace j2 := hid j2; replace j3 := hid j3) | (go_at_call 40; refine (sfurther_any B M iv dv1 nv2 ins s1.tick.rest _ false s1.tick.odd (L1 - 1) ((p : Int) + 1) s1.tick.tg w2 j1.out HBt.out.tg0 (by have := HBt.out.tg; omega)).mono ?_; rintro e w3 ⟨rfl, j4, j5⟩; have hs3 : SpS w3 B M iv dv1 nv2 ins (s1.tick.enter nmGet tgt x ⟨#[]⟩) (L1 - 1) := ⟨⟨_, _, _, j4, fun _ => by show false = decide (s1.bad ≠ 0); rw [hb1]; rfl, fun _ _ => ⟨rfl, hpc1⟩⟩, .inl ⟨h0t, hLt⟩⟩; replace hs3 := hid hs3; replace j5 := hid j5; clear j4) | (go_at_call 25; refine (sub_call hsubg.out w3 dv1 nv2 (s1.tick.tg + 1) tgt x true (s1.tick.enter nmGet tgt x ⟨#[]⟩) (L1 - 1) hs3.out ho1 hb1 (by show s1.left - 1 ≤ g; omega) (HB1.out.later (enter_later (by omega) nmGet tgt x ⟨#[]⟩) (Nat.le_refl _) (fun _ => hpn)) (by omega) (by omega) _ rfl).mono ?_; rintro e w4 ⟨rfl, dv4, nv4, L4, q1, q2, q3, q4⟩; replace q1 := hid q1; replace q2 := hid q2; replace q3 := hid q3; replace q4 := hid q4))
          go_roundg g
          case measure => omega
          case rel =>
            have hlt := lev_later 9 ins g regs0 (s1.tick.tg + 1) tgt x false true (s1.tick.enter nmGet tgt x ⟨#[]⟩)
            have hgr := lev_grows 9 ins g regs0 (s1.tick.tg + 1) tgt x false true (s1.tick.enter nmGet tgt x ⟨#[]⟩)
            have c1 : Chg (fun k => k = M ∨ nv1.ownBlock = some k) wr w2 := (hcA.out.mono (fun _ _ e => .inl e)).trans j2.out (fun _ _ e => e)
            have f1 : Fresh wr nv1 nv2 := by rcases j3.out with h | ⟨g, h, h2⟩; exact .inl h; exact .inr ⟨g, h, by omega⟩
            have c2 : Chg (fun k => k = M ∨ nv1.ownBlock = some k) wr w3 := c1.trans j5.out (fun _ _ e => .inl e)
            have c3 : Chg (fun k => k = M ∨ nv1.ownBlock = some k) wr w4 := c2.trans q3.out (fun i hi e => by rcases e with e | e; exact .inl e; rcases f1 with h | ⟨g1, h, h3⟩; exact .inr (h ▸ e); rw [e] at h; cases h; omega)
            have f2 : Fresh wr nv1 nv4 := f1.trans q4.out c2.size
            refine again.out w4 dv4 nv4 r1' r1' null _ L4 q1.out (hMR.out _ _ c3 HR1.out) (fun _ _ => rfl) (f2.ne (blk.lt HR1.out) hn1) ((enter_later (by omega) nmGet tgt x ⟨#[]⟩).trans hlt) hlt.left hgr.rest (lev_pc hcalls g regs0 (s1.tick.tg + 1) tgt x false true (s1.tick.enter nmGet tgt x ⟨#[]⟩) (fun _ => hpn)) q2.out Hst.out (c3.mono (fun _ _ e => e.elim .inl (fun e => .inr (.inl e)))) f2
        by_cases ho5' : op = 5
        · subst ho5'
          go_wp2_with (first | (go_at_call 39; refine (snote_any B M iv dv1 nv1 ins s1.tick.rest s1.tick.notes false s1.tick.odd (L1 - 1) ((p : Int) + 1) s1.tick.tg tgt 0 nmAppendArray ⟨#[]⟩ wA hA2.out hnl).mono ?_; rintro e w2 ⟨rfl, nv2, j1, j2, j3⟩; replace j1 := hid j1; replace j2 := hid j2; replace j3 := hid j3) | (go_at_call 40; refine (sfurther_any B M iv dv1 nv2 ins s1.tick.rest _ false s1.tick.odd (L1 - 1) ((p : Int) + 1) s1.tick.tg w2 j1.out HBt.out.tg0 (by have := HBt.out.tg; omega)).mono ?_; rintro e w3 ⟨rfl, j4, j5⟩; have hs3 : SpS w3 B M iv dv1 nv2 ins (s1.tick.enter nmAppendArray tgt 0 ⟨#[]⟩) (L1 - 1) := ⟨⟨_, _, _, j4, fun _ => by show false = decide (s1.bad ≠ 0); rw [hb1]; rfl, fun _ _ => ⟨rfl, hpc1⟩⟩, .inl ⟨h0t, hLt⟩⟩; replace hs3 := hid hs3; replace j5 := hid j5; clear j4) | (go_at_call 25; refine (sub_call hsubg.out w3 dv1 nv2 (s1.tick.tg + 1) tgt (-1) true (s1.tick.enter nmAppendArray tgt 0 ⟨#[]⟩) (L1 - 1) hs3.out ho1 hb1 (by show s1.left - 1 ≤ g; omega) (HB1.out.later (enter_later (by omega) nmAppendArray tgt 0 ⟨#[]⟩) (Nat.le_refl _) (fun _ => hpn)) (by omega) (by omega) _ rfl).mono ?_; rintro e w4 ⟨rfl, dv4, nv4, L4, q1, q2, q3, q4⟩; replace q1 := hid q1; replace q2 := hid q2; replace q3 := hid q3; replace q4 := hid q4))
          go_roundg g
          case measure => omega
          case rel =>
            have hlt := lev_later 9 ins g regs0 (s1.tick.tg + 1) tgt (-1) false true (s1.tick.enter nmAppendArray tgt 0 ⟨#[]⟩)
            have hgr := lev_grows 9 ins g regs0 (s1.tick.tg + 1) tgt (-1) false true (s1.tick.enter nmAppendArray tgt 0 ⟨#[]⟩)
            have c1 : Chg (fun k => k = M ∨ nv1.ownBlock = some k) wr w2 := (hcA.out.mono (fun _ _ e => .inl e)).trans j2.out (fun _ _ e => e)
            have f1 : Fresh wr nv1 nv2 := by rcases j3.out with h | ⟨g, h, h2⟩; exact .inl h; exact .inr ⟨g, h, by omega⟩
            have c2 : Chg (fun k => k = M ∨ nv1.ownBlock = some k) wr w3 := c1.trans j5.out (fun _ _ e => .inl e)
            have c3 : Chg (fun k => k = M ∨ nv1.ownBlock = some k) wr w4 := c2.trans q3.out (fun i hi e => by rcases e with e | e; exact .inl e; rcases f1 with h | ⟨g1, h, h3⟩; exact .inr (h ▸ e); rw [e] at h; cases h; omega)
            have f2 : Fresh wr nv1 nv4 := f1.trans q4.out c2.size
            refine again.out w4 dv4 nv4 r1' r1' null _ L4 q1.out (hMR.out _ _ c3 HR1.out) (fun _ _ => rfl) (f2.ne (blk.lt HR1.out) hn1) ((enter_later (by omega) nmAppendArray tgt 0 ⟨#[]⟩).trans hlt) hlt.left hgr.rest (lev_pc hcalls g regs0 (s1.tick.tg + 1) tgt (-1) false true (s1.tick.enter nmAppendArray tgt 0 ⟨#[]⟩) (fun _ => hpn)) q2.out Hst.out (c3.mono (fun _ _ e => e.elim .inl (fun e => .inr (.inl e)))) f2
        by_cases ho6' : op = 6
        · subst ho6'
          have r7 : wA.cell? ⟨R, 7, none⟩ = some (.string (strOf r1'.text)) := hRA.out.cell 7 rfl
          go_wp2_with (first | (go_at_call 39; refine (snote_any B M iv dv1 nv1 ins s1.tick.rest s1.tick.notes false s1.tick.odd (L1 - 1) ((p : Int) + 1) s1.tick.tg tgt 0 nmAppendMap (strOf r1'.text) wA hA2.out hnl).mono ?_; rintro e w2 ⟨rfl, nv2, j1, j2, j3⟩; replace j1 := hid j1; replace j2 := hid j2; replace j3 := hid j3) | (go_at_call 40; refine (sfurther_any B M iv dv1 nv2 ins s1.tick.rest _ false s1.tick.odd (L1 - 1) ((p : Int) + 1) s1.tick.tg w2 j1.out HBt.out.tg0 (by have := HBt.out.tg; omega)).mono ?_; rintro e w3 ⟨rfl, j4, j5⟩; have hs3 : SpS w3 B M iv dv1 nv2 ins (s1.tick.enter nmAppendMap tgt 0 (strOf r1'.text)) (L1 - 1) := ⟨⟨_, _, _, j4, fun _ => by show false = decide (s1.bad ≠ 0); rw [hb1]; rfl, fun _ _ => ⟨rfl, hpc1⟩⟩, .inl ⟨h0t, hLt⟩⟩; replace hs3 := hid hs3; replace j5 := hid j5; clear j4) | (go_at_call 25; refine (sub_call hsubg.out w3 dv1 nv2 (s1.tick.tg + 1) tgt (-1) true (s1.tick.enter nmAppendMap tgt 0 (strOf r1'.text)) (L1 - 1) hs3.out ho1 hb1 (by show s1.left - 1 ≤ g; omega) (HB1.out.later (enter_later (by omega) nmAppendMap tgt 0 (strOf r1'.text)) (Nat.le_refl _) (fun _ => hpn)) (by omega) (by omega) _ rfl).mono ?_; rintro e w4 ⟨rfl, dv4, nv4, L4, q1, q2, q3, q4⟩; replace q1 := hid q1; replace q2 := hid q2; replace q3 := hid q3; replace q4 := hid q4))
          go_roundg g
          case measure => omega
          case rel =>
            have hlt := lev_later 9 ins g regs0 (s1.tick.tg + 1) tgt (-1) false true (s1.tick.enter nmAppendMap tgt 0 (strOf r1'.text))
            have hgr := lev_grows 9 ins g regs0 (s1.tick.tg + 1) tgt (-1) false true (s1.tick.enter nmAppendMap tgt 0 (strOf r1'.text))
            have c1 : Chg (fun k => k = M ∨ nv1.ownBlock = some k) wr w2 := (hcA.out.mono (fun _ _ e => .inl e)).trans j2.out (fun _ _ e => e)
            have f1 : Fresh wr nv1 nv2 := by rcases j3.out with h | ⟨g, h, h2⟩; exact .inl h; exact .inr ⟨g, h, by omega⟩
            have c2 : Chg (fun k => k = M ∨ nv1.ownBlock = some k) wr w3 := c1.trans j5.out (fun _ _ e => .inl e)
            have c3 : Chg (fun k => k = M ∨ nv1.ownBlock = some k) wr w4 := c2.trans q3.out (fun i hi e => by rcases e with e | e; exact .inl e; rcases f1 with h | ⟨g1, h, h3⟩; exact .inr (h ▸ e); rw [e] at h; cases h; omega)
            have f2 : Fresh wr nv1 nv4 := f1.trans q4.out c2.size
            refine again.out w4 dv4 nv4 r1' r1' null _ L4 q1.out (hMR.out _ _ c3 HR1.out) (fun _ _ => rfl) (f2.ne (blk.lt HR1.out) hn1) ((enter_later (by omega) nmAppendMap tgt 0 (strOf r1'.text)).trans hlt) hlt.left hgr.rest (lev_pc hcalls g regs0 (s1.tick.tg + 1) tgt (-1) false true (s1.tick.enter nmAppendMap tgt 0 (strOf r1'.text)) (fun _ => hpn)) q2.out Hst.out (c3.mono (fun _ _ e => e.elim .inl (fun e => .inr (.inl e)))) f2
        by_cases ho8' : op = 8
        · subst ho8'
          have hx0 : 0 ≤ x := by
            have h1 := Hfe.out
            unfold fetch at h1
            rw [if_pos hpc0] at h1
            exact hcalls _ _ h1
          have c6 : wA.cell? ⟨M, 6, none⟩ = some (.int .i64 ((p : Int) + 1)) := hA.out.m.cell 6 rfl
          have f6 := hA.out.m.free 6
          obtain ⟨m5, m6⟩ := hA2.out.jumped x
          have hs3 : SpS (wA.setCell ⟨M, 6, none⟩ (.int .i64 x)) B M iv dv1 nv1 ins { s1.tick with pc := x } (L1 - 1) := ⟨⟨_, _, _, m5, fun _ => by show false = decide (s1.bad ≠ 0); rw [hb1]; rfl, fun _ _ => ⟨rfl, rfl⟩⟩, .inl ⟨h0t, hLt⟩⟩
          have Hs3 := hid hs3
          have Hm6 := hid m6
          have hlat : Later s1 { s1.tick with pc := x } := ⟨hstep.left, hstep.notes, hstep.tg, hstep.tg2, hstep.odd, hstep.viol⟩
          clear m5 m6 hs3
          go_wp2_with (go_at_call 25; refine (sub_call hsubg.out (wA.setCell ⟨M, 6, none⟩ (.int .i64 x)) dv1 nv1 tgt outer field false { s1.tick with pc := x } (L1 - 1) Hs3.out ho1 hb1 (by show s1.left - 1 ≤ g; omega) (HB1.out.later hlat (Nat.le_refl _) (fun _ => hx0)) (by omega) (by omega) wA.heap.size (by simp)).mono ?_; rintro e w4 ⟨rfl, dv4, nv4, L4, q1, q2, q3, q4⟩; obtain ⟨⟨pc4, c64⟩, f64⟩ := q1.c6; replace q1 := hid q1; replace q2 := hid q2; replace q3 := hid q3; replace q4 := hid q4)
          go_roundg g
          case measure => omega
          case rel =>
            have hlt := lev_later 9 ins g regs0 tgt outer field false false { s1.tick with pc := x }
            have hgr := lev_grows 9 ins g regs0 tgt outer field false false { s1.tick with pc := x }
            obtain ⟨b1, b2⟩ := q1.out.back ((p : Int) + 1)
            have c2 : Chg (fun k => k = M ∨ nv1.ownBlock = some k) wr (wA.setCell ⟨M, 6, none⟩ (.int .i64 x)) := (hcA.out.trans Hm6.out (fun _ _ e => e)).mono (fun _ _ e => .inl e)
            have c3 : Chg (fun k => k = M ∨ nv1.ownBlock = some k) wr w4 := c2.trans q3.out (fun i hi e => e)
            have c4' : Chg (fun k => k = M ∨ nv1.ownBlock = some k) wr (w4.setCell ⟨M, 6, none⟩ (.int .i64 ((p : Int) + 1))) := c3.trans b2 (fun _ _ e => .inl e)
            have f2 : Fresh wr nv1 nv4 := (Fresh.refl wr nv1).trans (by rcases q4.out with h | ⟨g, h, h2⟩; exact .inl h; exact .inr ⟨g, h, by have := c2.size; omega⟩) (Nat.le_refl _)
            have hlt2 := hlat.trans hlt
            rw [hpc1] at b1 c4'
            exact again.out _ dv4 nv4 r1' r1' null { lev 9 ins g regs0 tgt outer field false false { s1.tick with pc := x } with pc := s1.tick.pc } L4 b1 (hMR.out _ _ c4' HR1.out) (fun _ _ => rfl) (f2.ne (blk.lt HR1.out) hn1) ⟨hlt2.left, hlt2.notes, hlt2.tg, hlt2.tg2, hlt2.odd, hlt2.viol⟩ hlt.left hgr.rest (fun _ => hpn) q2.out Hst.out (c4'.mono (fun _ _ e => e.elim .inl (fun e => .inr (.inl e)))) f2
        by_cases ho19' : op = 19
        · subst ho19'
          have r3 : wA.cell? ⟨R, 3, none⟩ = some (.int .i64 r1'.long) := hRA.out.cell 3 rfl
          have hs3 : SpS wA B M iv dv1 nv1 ins s1.tick (L1 - 1) := ⟨⟨_, _, _, hA2.out, fun _ => by show false = decide (s1.bad ≠ 0); rw [hb1]; rfl, fun _ _ => ⟨rfl, hpc1⟩⟩, .inl ⟨h0t, hLt⟩⟩
          have Hs3 := hid hs3
          clear hs3
          go_wp2_with (go_at_call 25; refine (sub_call hsubg.out wA dv1 nv1 tgt outer field false s1.tick (L1 - 1) Hs3.out ho1 hb1 (by show s1.left - 1 ≤ g; omega) HBt.out (by omega) (by omega) _ rfl).mono ?_; rintro e w4 ⟨rfl, dv4, nv4, L4, q1, q2, q3, q4⟩; have r34 : w4.cell? ⟨R, 3, none⟩ = some (.int .i64 r1'.long) := (hMR.out _ _ q3 hRA.out).cell 3 rfl; have rf4 : w4.frozen? ⟨R, 3, none⟩ = false := (hMR.out _ _ q3 hRA.out).free 3; replace q1 := hid q1; replace q2 := hid q2; replace q3 := hid q3; replace q4 := hid q4)
          go_roundg g
          case measure => omega
          case rel =>
            have hlt := lev_later 9 ins g regs0 tgt outer field false false s1.tick
            have hgr := lev_grows 9 ins g regs0 tgt outer field false false s1.tick
            have c2 : Chg (fun k => k = M ∨ nv1.ownBlock = some k) wr wA := hcA.out.mono (fun _ _ e => .inl e)
            have c3 : Chg (fun k => k = M ∨ nv1.ownBlock = some k) wr w4 := c2.trans q3.out (fun i hi e => e)
            have f2 : Fresh wr nv1 nv4 := (Fresh.refl wr nv1).trans (by rcases q4.out with h | ⟨g, h, h2⟩; exact .inl h; exact .inr ⟨g, h, by omega⟩) (Nat.le_refl _)
            have hn4 : nv4.ownBlock ≠ some R := f2.ne (blk.lt HR1.out) hn1
            obtain ⟨⟨rest4, bad4, pc4, t1, t2, t3⟩, t4⟩ := q1.out
            obtain ⟨t5, t6⟩ := t1.reg hRM hn4 hBR 3 (.int .i64 r1'.long)
            have hR4 : RgAt (w4.setCell ⟨R, 3, none⟩ (.int .i64 r1'.long)) R r1' := blk.set (hMR.out _ _ c3 HR1.out) 3 _
            exact again.out _ dv4 nv4 r1' r1' null _ L4 ⟨⟨rest4, bad4, pc4, t5, t2, t3⟩, t4⟩ hR4 (fun _ _ => rfl) hn4 (hstep.trans hlt) hlt.left hgr.rest (lev_pc hcalls g regs0 tgt outer field false false s1.tick (fun _ => hpn)) q2.out Hst.out ((c3.mono (S' := fun k => k = M ∨ nv1.ownBlock = some k ∨ k = R) (fun _ _ e => e.elim .inl (fun e => .inr (.inl e)))).trans t6 (fun _ _ e => .inr (.inr e))) f2
        -- how the level is left
        have leave : Hid (∀ (w2 : World) (dv2 nv2 : Value) (s2 : St), SpS w2 B M iv dv2 nv2 ins s2 (L1 - 1) → s' = s2 → Chg (fun k => k = M ∨ nv1.ownBlock = some k) wr w2 → Fresh wr nv1 nv2 → SLev B M R iv nv ins lo s' w (.returned (.tuple #[])) w2) := by
          refine hid ?_
          intro w2 dv2 nv2 s2 a1 a2 a3 a4
          refine ⟨rfl, dv2, nv2, L1 - 1, a2 ▸ a1, by omega, Hch.out.1.trans a3 (fun i hi e => ?_), Hch.out.2.trans a4 Hch.out.1.size⟩
          rcases e with e | e
          · exact .inl e
          · rcases Hch.out.2 with h | ⟨g1, h, hg1'⟩
            · exact .inr (.inl (h ▸ e))
            · rw [e] at h; cases h; omega
        by_cases ho3' : op = 3
        · subst ho3'
          cases null with
          | false =>
            go_wp2_with (go_at_call 39; refine (snote_any B M iv dv1 nv1 ins s1.tick.rest s1.tick.notes false s1.tick.odd (L1 - 1) ((p : Int) + 1) s1.tick.tg tgt 0 nmFinalize ⟨#[]⟩ wA hA2.out hnl).mono ?_; rintro e w2 ⟨rfl, nv2, j1, j2, j3⟩; replace j1 := hid j1; replace j2 := hid j2; replace j3 := hid j3)
            refine bodyPost_ret (results_none rfl _ _ _) rfl ?_
            exact leave.out w2 dv1 nv2 (s1.tick.leave tgt outer field false kind) ⟨⟨_, _, _, j1.out, fun _ => by show false = decide (s1.bad ≠ 0); rw [hb1]; rfl, fun _ _ => ⟨rfl, hpc1⟩⟩, .inl ⟨h0t, hLt⟩⟩ Hst.out ((hcA.out.mono (fun _ _ e => .inl e)).trans j2.out (fun _ _ e => e)) (by rcases j3.out with h | ⟨g, h, h2⟩; exact .inl h; exact .inr ⟨g, h, by omega⟩)
          | true =>
            have hnl2 : (s1.tick.notes ++ [(⟨nmFinalize, 0, ⟨#[]⟩, tgt⟩ : Note)]).length ≤ 1000000 := by have := HB1.out.notes; simp [St.tick]; omega
            go_wp2_with (first | (go_at_call 39; refine (snote_any B M iv dv1 nv2 ins s1.tick.rest _ false s1.tick.odd (L1 - 1) ((p : Int) + 1) s1.tick.tg outer field nmNullField ⟨#[]⟩ w2 j1.out hnl2).mono ?_; rintro e w3 ⟨rfl, nv3, i1, i2, i3⟩; replace i1 := hid i1; replace i2 := hid i2; replace i3 := hid i3) | (go_at_call 39; refine (snote_any B M iv dv1 nv1 ins s1.tick.rest s1.tick.notes false s1.tick.odd (L1 - 1) ((p : Int) + 1) s1.tick.tg tgt 0 nmFinalize ⟨#[]⟩ wA hA2.out hnl).mono ?_; rintro e w2 ⟨rfl, nv2, j1, j2, j3⟩; replace j1 := hid j1; replace j2 := hid j2; replace j3 := hid j3))
            refine bodyPost_ret (results_none rfl _ _ _) rfl ?_
            have c1 : Chg (fun k => k = M ∨ nv1.ownBlock = some k) wr w2 := (hcA.out.mono (fun _ _ e => .inl e)).trans j2.out (fun _ _ e => e)
            have f1 : Fresh wr nv1 nv2 := by rcases j3.out with h | ⟨g, h, h2⟩; exact .inl h; exact .inr ⟨g, h, by omega⟩
            exact leave.out w3 dv1 nv3 (s1.tick.leave tgt outer field true kind) ⟨⟨_, _, _, i1.out, fun _ => by show false = decide (s1.bad ≠ 0); rw [hb1]; rfl, fun _ _ => ⟨rfl, hpc1⟩⟩, .inl ⟨h0t, hLt⟩⟩ Hst.out (c1.trans i2.out (fun i hi e => by rcases e with e | e; exact .inl e; rcases f1 with h | ⟨g1, h, h3⟩; exact .inr (h ▸ e); rw [e] at h; cases h; omega)) (f1.trans i3.out c1.size)
        have hTick : Hid (SpS wA B M iv dv1 nv1 ins s1.tick (L1 - 1)) := hid ⟨⟨_, _, _, hA2.out, fun _ => by show false = decide (s1.bad ≠ 0); rw [hb1]; rfl, fun _ _ => ⟨rfl, hpc1⟩⟩, .inl ⟨h0t, hLt⟩⟩
        by_cases ho9' : op = 9
        · subst ho9'
          go_wp2
          refine bodyPost_ret (results_none rfl _ _ _) rfl ?_
          exact leave.out wA dv1 nv1 s1.tick hTick.out Hst.out (hcA.out.mono (fun _ _ e => .inl e)) (Fresh.refl _ _)
        by_cases ho20' : op = 20
        · subst ho20'
          go_wp2
          refine bodyPost_ret (results_none rfl _ _ _) rfl ?_
          exact leave.out wA dv1 nv1 s1.tick hTick.out Hst.out (hcA.out.mono (fun _ _ e => .inl e)) (Fresh.refl _ _)
        by_cases ho10' : op = 10
        · subst ho10'
          have c3 := hA.out.c3
          have f3 := hA.out.m.free 3
          go_wp2
          refine bodyPost_ret (results_none rfl _ _ _) rfl ?_
          obtain ⟨m5, m6⟩ := hA2.out.badly (decide (0 < x))
          exact leave.out _ dv1 nv1 { s1.tick with bad := if 0 < x then x.toNat + 2 else 0 } ⟨⟨_, _, _, m5, fun _ => by by_cases h : 0 < x <;> simp [h], fun _ _ => ⟨rfl, hpc1⟩⟩, .inl ⟨h0t, hLt⟩⟩ Hst.out ((hcA.out.trans m6 (fun _ _ e => e)).mono (fun _ _ e => .inl e)) (Fresh.refl _ _)
        by_cases ho4' : op = 4
        · subst ho4'
          go_wp2
          go_roundg g
          case measure => omega
          case rel =>
            exact again.out wA dv1 nv1 r1' r1' true s1.tick _ hTick.out hRA.out (fun _ _ => rfl) hn1 hstep (Nat.le_refl _) (Nat.le_refl _) (fun _ => hpn) (by omega) Hst.out (hcA.out.mono (fun _ _ e => .inl e)) (Fresh.refl _ _)
        have hne : op ≠ 0 ∧ op ≠ 1 ∧ op ≠ 2 ∧ op ≠ 3 ∧ op ≠ 4 ∧ op ≠ 5 ∧ op ≠ 6 ∧ op ≠ 8 ∧ op ≠ 9 ∧ op ≠ 10 ∧ op ≠ 19 ∧ op ≠ 20 := ⟨ho0, ho1', ho2', ho3', ho4', ho5', ho6', ho8', ho9', ho10', ho19', ho20'⟩
        have Hne := hid hne
        have z0 : ¬ (op : Int) = 0 := by omega
        have z1 : ¬ (op : Int) = 1 := by omega
        have z2 : ¬ (op : Int) = 2 := by omega
        have z3 : ¬ (op : Int) = 3 := by omega
        have z4 : ¬ (op : Int) = 4 := by omega
        have z5 : ¬ (op : Int) = 5 := by omega
        have z6 : ¬ (op : Int) = 6 := by omega
        have z8 : ¬ (op : Int) = 8 := by omega
        have z9 : ¬ (op : Int) = 9 := by omega
        have z10 : ¬ (op : Int) = 10 := by omega
        have z19 : ¬ (op : Int) = 19 := by omega
        have z20 : ¬ (op : Int) = 20 := by omega
        have z9b : ((op : Int) == 9) = false := beq_false_of_ne z9
        have z20b : ((op : Int) == 20) = false := beq_false_of_ne z20
        clear hne ho0 ho1' ho2' ho3' ho4' ho5' ho6' ho8' ho9' ho10' ho19' ho20'
        go_wp2_with (go_at_call 41; refine (splain_any B M R iv dv1 nv1 ins s1.tick.rest s1.tick.notes (L1 - 1) ((p : Int) + 1) s1.tick.tg tgt x r1' wA hA.out hnl hRA.out hRM hn1 hBR (by omega) op Hne.out s1.tick rfl hb1 ho1 hpc1.symm).mono ?_; rintro e w2 ⟨rfl, hq, hq2⟩; replace hq := hid hq; replace hq2 := hid hq2)
        go_roundg g
        case measure => omega
        case rel =>
          obtain ⟨dv2, nv2, q1, q2, q3, q4, q5⟩ := sps_step hLt h0t hq2.out hq.out
          obtain ⟨k1, k2, k3, k4, k5⟩ := simple_left 9 op x tgt r1' s1.tick
          have hst2 : s' = lev 9 ins g (simple 9 op x tgt r1' s1.tick).1 tgt outer field null kind (simple 9 op x tgt r1' s1.tick).2 := by
            refine Hst.out.trans ?_
            obtain ⟨y0, y1, y2, y3, y4, y5, y6, y8, y9, y10, y19, y20⟩ := Hne.out
            split <;> first | rfl | (exfalso; omega)
          refine again.out w2 dv2 nv2 _ _ null _ _ q1 q2 (fun _ _ => rfl) q3 ?_ ?_ ?_ ?_ ?_ hst2 ?_ ?_
          · exact tick_later (by omega) k1 (by have : s1.tick.notes = s1.notes := rfl; rw [this] at k2; omega) (by rw [show (simple 9 op x tgt r1' s1.tick).2.tg = s1.tg from k3]; omega) (by rw [show (simple 9 op x tgt r1' s1.tick).2.tg = s1.tg from k3]; omega) k5 (fun h => by rw [k4] at h; exact h)
          · rw [k1]; exact Nat.le_refl _
          · rw [hq2.out]; exact Nat.le_refl _
          · exact simple_pos 9 op x tgt r1' s1.tick Hne.out hpn
          · omega
          · exact (hcA.out.mono (fun _ _ e => .inl e)).trans q4 (fun _ _ e => e)
          · rcases q5 with h | ⟨g, h, h2⟩
            · exact .inl h
            · exact .inr ⟨g, h, by omega⟩
    · have Fin : Hid (∀ (n : Nat), SLev B M R iv nv ins lo s' w (.returned (.tuple #[])) (wr.drewN n)) := by
        have hs' : s1 = s' := by
          have hlev := HH.out.2.2.2.2.2.2.2.1
          rw [← hlev]
          by_cases hid2 : s1.bad = 0 ∧ s1.odd = false
          · obtain ⟨e1, e2⟩ := hsr hid2.2 hid2.1
            refine (lev_past HH.out.2.2.2.2.1 hid2.1 hid2.2 ?_).symm
            have h0 := HH.out.2.2.2.2.2.1.pc hid2.2
            have h1 : ¬ pc0 < ins.length := fun e => hrun ⟨hid2.1, hid2.2, e⟩
            unfold fetch
            rw [if_pos h0]
            exact List.getElem?_eq_none (by omega)
          · exact (lev_idle HH.out.2.2.2.2.1 hid2).symm
        have hll := HH.out.1.left
        have hlo3 := HH.out.2.2.2.2.2.2.1
        rw [← hs']
        refine hid fun n => ⟨rfl, dv1, nv1, L1, ⟨⟨rest0, bad0, pc0, hsp.drewN n, hsb, hsr⟩, hll⟩, ?_, (HH.out.2.2.2.2.2.2.2.2.1).drewN n, HH.out.2.2.2.2.2.2.2.2.2⟩
        unfold LoOk at hlo3
        unfold LeftR at hll
        omega
      have key : pc0 < ins.length → bad0 = false → s1.odd = true := by
        intro hp hb0
        cases ho : s1.odd with
        | true => rfl
        | false =>
          have : decide (s1.bad ≠ 0) = false := (hsb ho).symm.trans hb0
          exact absurd ⟨by simpa using this, ho, hp⟩ hrun
      clear hrun hsp hsb hsr
      by_cases hp : pc0 < ins.length
      · cases bad0 with
        | true =>
          clear key
          go_wp2
          go_quiet (fail)
          go_wp2
          go_end0
          exact Fin.out _
        | false =>
          have ho := key hp rfl
          rw [ho] at c4
          clear key ho
          go_wp2
          go_quiet (fail)
          go_wp2
          go_end0
          exact Fin.out _
      · have hpd : decide (pc0 < (ins.length : Int)) = false := decide_eq_false hp
        clear key
        go_wp2
        go_quiet (fail)
        go_wp2
        go_end0
        exact Fin.out _
end Go.Proofs.YtkhicabfmkldpaaDoor

namespace Go.Proofs.YtkhicabfmkldpaaDoor
open Go Go.RowKit

theorem slevel_all (B M : Nat) (iv : Value) (ins : List (Nat × Int)) (hcalls : CallsOk ins) (hins : ins.length ≤ 100000) (f : Nat) : LvlOk B M iv ins f :=
  Nat.strongRecOn f fun f ih => slevel B M iv ins hcalls hins f ih

/-- What VMRuns hands back: of a run that is not looked at that alone. -/
def SRun (s' : St) (w : World) (e : Ending) (w' : World) : Prop :=
  ∃ (nv : Value) (n : Int) (fine : Bool), e = .returned (.tuple #[nv, .int .i64 n, .bool fine, .bool (!s'.odd && decide (0 < s'.left))]) ∧ CallsAt w' nv s'.notes ∧ (∀ g, nv.ownBlock = some g → w.heap.size ≤ g) ∧
    (s'.odd = false → fine = decide (s'.bad = 0)) ∧ (s'.odd = false → s'.bad = 0 → n = s'.rest.length) ∧ Chg (fun _ => False) w w'

set_option maxRecDepth 100000 in
set_option maxHeartbeats 1000000 in
theorem vmruns (ins : List (Nat × Int)) (data : List UInt8) (iv dv : Value) (w : World) (hI : SpIn w iv ins) (hIo : ∀ g, iv.ownBlock = some g → g < w.heap.size) (hD : RdB w dv data) (hDo : ∀ g, dv.ownBlock = some g → g < w.heap.size) (hcalls : CallsOk ins) (hins : ins.length ≤ 100000) (hdl : data.length ≤ 100000)
    (s' : St) (hs' : lev 9 ins 3000 regs0 0 0 (-1) false false ⟨0, data, [], 0, 3000, 0, false, false⟩ = s') :
    Calls Tryd.prog 11 #[iv, dv] w (SRun s' w) := by
  obtain ⟨ia, ic, hiv⟩ := hI.form
  obtain ⟨da, dc, hdv⟩ := hD.form
  have hlev := hid (slevel_all w.heap.size w.heap.size iv ins hcalls hins 3000)
  have hM := blk_new w #[iv, dv, .slice none 0 0, .bool false, .bool false, .int .i64 3000, .int .i64 0, .int .i64 0] 67
  have hC := chg_alloc w (.cells #[iv, dv, .slice none 0 0, .bool false, .bool false, .int .i64 3000, .int .i64 0, .int .i64 0] 67)
  have hSp : SpAt (w.alloc (.cells #[iv, dv, .slice none 0 0, .bool false, .bool false, .int .i64 3000, .int .i64 0, .int .i64 0] 67)) w.heap.size w.heap.size iv dv (.slice none 0 0) ins data [] false false 3000 0 0 :=
    ⟨hM, hI.chg hC (fun _ _ e => e), hIo, hD.chg hC (fun _ _ _ e => e), hDo, ⟨rfl, .inl ⟨rfl, rfl⟩⟩, by simp [Value.ownBlock], Nat.le_refl _⟩
  have hS : SpS (w.alloc (.cells #[iv, dv, .slice none 0 0, .bool false, .bool false, .int .i64 3000, .int .i64 0, .int .i64 0] 67)) w.heap.size w.heap.size iv dv (.slice none 0 0) ins ⟨0, data, [], 0, 3000, 0, false, false⟩ 3000 :=
    ⟨⟨data, false, 0, hSp, fun _ => rfl, fun _ _ => ⟨rfl, rfl⟩⟩, .inl ⟨by show 0 < 3000; omega, rfl⟩⟩
  have hB : Bnd ⟨0, data, [], 0, 3000, 0, false, false⟩ := ⟨by show 0 + 3 * 3000 ≤ 100000; omega, by show (0 : Int) + 3000 ≤ 100000; omega, Int.le_refl _, hdl, fun _ => Int.le_refl _⟩
  have hcall := sub_call hlev.out _ dv (.slice none 0 0) 0 0 (-1) false ⟨0, data, [], 0, 3000, 0, false, false⟩ 3000 hS rfl rfl (Nat.le_refl _) hB (by omega) (by omega) (w.heap.size + 1) (by simp)
  rw [hs'] at hcall
  have Hcall := hid hcall
  have Hiv := hid hiv
  have Hdv := hid hdv
  rw [hiv, hdv] at Hcall ⊢
  clear hcall hS hSp hM hC hI hD hiv hdv hB
  go_enter Tryd.func11, Tryd.ntmps11
  go_wp2_with (go_at_call 25; refine (Hcall.out).mono ?_; rintro e w1 ⟨rfl, dv1, nv1, L1, q1, q2, q3, q4⟩; replace q1 := hid q1; replace q2 := hid q2; replace q3 := hid q3; replace q4 := hid q4)
  obtain ⟨⟨rest, bad, pc, h1, h2, h3⟩, h4⟩ := q1.out
  have fin : ∀ (k : Nat) (b : Bool), b = (!s'.odd && decide (0 < s'.left)) → SRun s' w (.returned (.tuple #[nv1, .int .i64 rest.length, .bool (!bad), .bool b])) (w1.drewN k) := by
    intro k b hb
    subst hb
    refine ⟨nv1, rest.length, !bad, rfl, ?_, ?_, ?_, ?_, ?_⟩
    · exact (callsAt_of_own h1.notes).chg ((Chg.refl (fun _ => False) w1).drewN k) (fun _ _ e => e)
    · intro g hg
      exact (h1.notes.lt g hg).1
    · intro ho
      rw [h2 ho]
      by_cases hb : s'.bad = 0 <;> simp [hb]
    · intro ho hb
      rw [(h3 ho hb).1]
    · refine (((chg_alloc w _).trans (S' := fun k => w.heap.size ≤ k) (q3.out.mono (fun i hi e => ?_)) (fun i hi e => by omega)).drewN k).mono (fun i hi e => e)
      rcases e with e | e
      · omega
      · simp [Value.ownBlock] at e
  have hL : decide (0 < L1) = decide (0 < s'.left) := by
    unfold LeftR at h4
    by_cases h : 0 < s'.left
    · have : 0 < L1 := by omega
      simp [h, this]
    · have : ¬ 0 < L1 := by omega
      simp [h, this]
  obtain ⟨a1, cc1, c1⟩ := h1.c1
  have c2 : w1.cell? ⟨w.heap.size, 2, none⟩ = some nv1 := h1.m.cell 2 rfl
  have c3 := h1.c3
  have c4 := h1.c4
  have c5 : w1.cell? ⟨w.heap.size, 5, none⟩ = some (.int .i64 L1) := h1.m.cell 5 rfl
  have Fin := hid fin
  have HL := hid hL
  clear fin hL h1 h2 h3 h4 hs'
  cases ho : s'.odd with
  | true =>
    rw [ho] at c4
    go_wp2
    go_quiet (fail)
    go_wp2
    refine bodyPost_ret (v := .tuple #[nv1, .int .i64 rest.length, .bool (!bad), .bool false]) (by simp [results, Tryd.results11]) rfl ?_
    exact Fin.out _ false (by rw [ho]; rfl)
  | false =>
    rw [ho] at c4
    go_wp2
    go_quiet (fail)
    go_wp2
    refine bodyPost_ret (v := .tuple #[nv1, .int .i64 rest.length, .bool (!bad), .bool (decide (0 < L1))]) (by simp [results, Tryd.results11]) rfl ?_
    exact Fin.out _ _ (by rw [ho, HL.out]; rfl)
end Go.Proofs.YtkhicabfmkldpaaDoor
