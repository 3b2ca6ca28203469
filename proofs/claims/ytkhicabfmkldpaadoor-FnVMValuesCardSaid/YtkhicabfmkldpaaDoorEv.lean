/-
  What is known of the memory while evalInner runs: the shared blocks, and those of one level.
-/
import Derived.Test.YtkhicabfmkldpaaDoorVals
import Derived.Test.YtkhicabfmkldpaaDoorLev
import Derived.Deep.Cut
set_option linter.unusedSimpArgs false
set_option linter.unusedVariables false
namespace Go.Proofs.YtkhicabfmkldpaaDoor
open Go Go.RowKit

def firstLoop : Code → Option Code
  | .loop c => some c
  | .seq a b => match firstLoop a with
    | some c => some c
    | none => firstLoop b
  | .block _ c => firstLoop c
  | .scope c => firstLoop c
  | .cond _ a b => match firstLoop a with
    | some c => some c
    | none => firstLoop b
  | _ => none
noncomputable def body44 : Code := ((Tryd.f44.body.bind firstLoop).getD .skip)

/-- A slot of a frame, whatever it holds. -/
def sl (t : Array Value) (i : Nat) : Value := t.getD i undef

set_option maxRecDepth 1000000 in
/-- The frame at the head of the loop. -/
def fr (t : Array Value) (sl0 : Bool) (R G N C U A F : Nat) (tg : Int) (null : Bool) : Act := ⟨#[rdV sl0 R, .pointer (some ⟨G, 0, none⟩), .iface 87 (.agg #[.pointer (some ⟨N, 0, none⟩), .int .i64 tg]), .pointer (some ⟨C, 0, none⟩), .slice (some ⟨U, 0, none⟩) 8 8, sl t 5, .pointer (some ⟨A, 0, none⟩), sl t 7, sl t 8, sl t 9, sl t 10, .nilIface, sl t 12, .bool null, .pointer (some ⟨F, 0, none⟩), sl t 15, sl t 16, sl t 17, sl t 18, sl t 19, sl t 20, sl t 21, sl t 22, sl t 23, sl t 24, sl t 25, sl t 26, sl t 27, sl t 28, sl t 29, sl t 30, sl t 31, sl t 32, sl t 33, sl t 34, sl t 35, sl t 36, sl t 37, sl t 38, sl t 39, sl t 40, sl t 41, sl t 42, sl t 43, sl t 44, sl t 45, sl t 46, sl t 47, sl t 48, sl t 49, sl t 50, sl t 51, sl t 52, sl t 53, sl t 54, sl t 55, sl t 56, sl t 57, sl t 58, sl t 59, sl t 60, sl t 61, sl t 62, sl t 63, sl t 64, sl t 65, sl t 66, sl t 67, sl t 68, sl t 69, sl t 70, sl t 71, sl t 72, sl t 73, sl t 74, sl t 75, sl t 76, sl t 77, sl t 78, sl t 79, sl t 80, sl t 81, sl t 82, sl t 83, sl t 84, sl t 85, sl t 86, sl t 87, sl t 88, sl t 89, sl t 90, sl t 91, sl t 92, sl t 93, sl t 94, sl t 95, sl t 96, sl t 97, sl t 98, sl t 99, sl t 100, sl t 101, sl t 102, sl t 103, sl t 104, sl t 105, sl t 106, sl t 107, sl t 108, sl t 109, sl t 110, sl t 111, sl t 112, sl t 113, sl t 114, sl t 115, sl t 116, sl t 117, sl t 118, sl t 119, sl t 120, sl t 121, sl t 122, sl t 123, sl t 124, sl t 125, sl t 126, sl t 127, sl t 128, sl t 129, sl t 130, sl t 131, sl t 132, sl t 133, sl t 134, sl t 135, sl t 136, sl t 137, sl t 138, sl t 139, sl t 140, sl t 141, sl t 142, sl t 143, sl t 144, sl t 145, sl t 146, sl t 147, sl t 148, sl t 149, sl t 150, sl t 151, sl t 152, sl t 153, sl t 154, sl t 155, sl t 156, sl t 157, sl t 158, sl t 159, sl t 160, sl t 161, sl t 162, sl t 163, sl t 164, sl t 165, sl t 166, sl t 167, sl t 168, sl t 169, sl t 170, sl t 171, sl t 172, sl t 173, sl t 174, sl t 175, sl t 176, sl t 177, sl t 178, sl t 179, sl t 180, sl t 181, sl t 182, sl t 183, sl t 184, sl t 185, sl t 186, sl t 187, sl t 188, sl t 189, sl t 190, sl t 191, sl t 192, sl t 193, sl t 194, sl t 195, sl t 196, sl t 197, sl t 198, sl t 199, sl t 200, sl t 201, sl t 202, sl t 203, sl t 204, sl t 205, sl t 206, sl t 207, sl t 208, sl t 209, sl t 210, sl t 211, sl t 212, sl t 213, sl t 214, sl t 215, sl t 216, sl t 217, sl t 218, sl t 219, sl t 220, sl t 221, sl t 222, sl t 223, sl t 224, sl t 225, sl t 226, sl t 227, sl t 228, sl t 229, sl t 230, sl t 231, sl t 232, sl t 233, sl t 234, sl t 235, sl t 236, sl t 237, sl t 238, sl t 239, sl t 240, sl t 241, sl t 242, sl t 243, sl t 244, sl t 245, sl t 246, sl t 247, sl t 248, sl t 249, sl t 250, sl t 251, sl t 252, sl t 253, sl t 254, sl t 255, sl t 256, sl t 257, sl t 258, sl t 259, sl t 260, sl t 261, sl t 262, sl t 263, sl t 264, sl t 265, sl t 266, sl t 267, sl t 268, sl t 269, sl t 270, sl t 271, sl t 272, sl t 273, sl t 274, sl t 275, sl t 276, sl t 277, sl t 278, sl t 279, sl t 280, sl t 281, sl t 282, sl t 283, sl t 284, sl t 285, sl t 286, sl t 287, sl t 288, sl t 289, sl t 290, sl t 291, sl t 292, sl t 293, sl t 294, sl t 295, sl t 296, sl t 297, sl t 298, sl t 299, sl t 300, sl t 301, sl t 302, sl t 303, sl t 304, sl t 305, sl t 306, sl t 307, sl t 308, sl t 309, sl t 310, sl t 311, sl t 312, sl t 313, sl t 314, sl t 315, sl t 316, sl t 317, sl t 318, sl t 319, sl t 320, sl t 321, sl t 322, sl t 323, sl t 324, sl t 325, sl t 326, sl t 327, sl t 328, sl t 329, sl t 330, sl t 331, sl t 332, sl t 333, sl t 334, sl t 335, sl t 336, sl t 337, sl t 338, sl t 339, sl t 340, sl t 341, sl t 342, sl t 343, sl t 344, sl t 345, sl t 346, sl t 347, sl t 348, sl t 349, sl t 350, sl t 351, sl t 352, sl t 353, sl t 354, sl t 355, sl t 356, sl t 357, sl t 358, sl t 359, sl t 360, sl t 361, sl t 362, sl t 363, sl t 364, sl t 365, sl t 366, sl t 367, sl t 368, sl t 369, sl t 370, sl t 371, sl t 372, sl t 373, sl t 374, sl t 375, sl t 376, sl t 377, sl t 378, sl t 379, sl t 380, sl t 381, sl t 382, sl t 383, sl t 384, sl t 385, sl t 386, sl t 387, sl t 388, sl t 389, sl t 390, sl t 391, sl t 392, sl t 393, sl t 394, sl t 395, sl t 396, sl t 397, sl t 398, sl t 399, sl t 400, sl t 401, sl t 402, sl t 403, sl t 404, sl t 405, sl t 406, sl t 407, sl t 408, sl t 409, sl t 410, sl t 411, sl t 412, sl t 413, sl t 414, sl t 415, sl t 416, sl t 417, sl t 418], [{ target := Target.fn (Fn.func 56) #[.pointer (some ⟨A, 0, none⟩)], args := #[] }]⟩

theorem cell_of {w w' : World} {b : Nat} (hb : w'.heap[b]? = w.heap[b]?) (i : Nat) : w'.cell? ⟨b, i, none⟩ = w.cell? ⟨b, i, none⟩ := World.cell?_of_block (a := ⟨b, i, none⟩) hb

/-- What stays as it is through a run. -/
structure Env where
  B : Nat
  N : Nat
  R : Nat
  G : Nat
  gI : Nat
  C : Nat
  U : Nat
  cap : Nat
  sl0 : Bool
  dv : Value
  data : List UInt8
  ins : List (Nat × Int)
  ev : Value
  texts : List ByteArray
  e0 : Addr
  e1 : Addr

/-- A slice of texts reads as a list. -/
def TxtAt (w : World) (v : Value) (B : Nat) (l : List ByteArray) : Prop :=
  (l = [] ∧ v = .slice none 0 0) ∨ ∃ b off cap, v = .slice (some ⟨b, off, none⟩) l.length cap ∧ l.length ≤ 1000000 ∧ b < B ∧ ∀ i s, l[i]? = some s → w.cell? ⟨b, off + i, none⟩ = some (.string s)

/-- The blocks that are shared, each another one. -/
structure Env.ok (E : Env) : Prop where
  n : 0 < E.ins.length
  n2 : E.ins.length ≤ 100000
  BR : E.B ≤ E.R
  BN : E.B ≤ E.N
  BG : E.B ≤ E.G
  BC : E.B ≤ E.C
  BU : E.B ≤ E.U
  BI : E.B ≤ E.gI
  NR : E.N ≠ E.R
  NG : E.N ≠ E.G
  NI : E.N ≠ E.gI
  NC : E.N ≠ E.C
  NU : E.N ≠ E.U
  RG : E.R ≠ E.G
  RI : E.R ≠ E.gI
  RC : E.R ≠ E.C
  RU : E.R ≠ E.U
  GI : E.G ≠ E.gI
  GC : E.G ≠ E.C
  GU : E.G ≠ E.U
  IC : E.gI ≠ E.C
  IU : E.gI ≠ E.U
  CU : E.C ≠ E.U
  ops : ∀ (i op : Nat) (x : Int), E.ins[i]? = some (op, x) → op ≤ 22 ∧ -2147483648 ≤ x ∧ x ≤ 2147483647
  txts : ∀ (q : Nat) (s : ByteArray), E.texts[q]? = some s → s.size ≤ 1000000

/-- A block that a run writes. -/
def Env.S (E : Env) (v : Value) (k : Nat) : Prop := k = E.N ∨ k = E.R ∨ k = E.G ∨ k = E.C ∨ k = E.U ∨ v.ownBlock = some k

/-- The shared memory: notes l, so many targets, what is left of the data, the program counter, the steps done, the depth. -/
structure Cx (E : Env) (w : World) (v : Value) (l : List Note) (tg : Int) (rest : List UInt8) (pc steps depth : Int) : Prop where
  notes : NotesAt w E.B E.N v l tg
  rd : RdAt w E.B E.R E.sl0 E.dv E.data rest
  prog : blk w E.G #[.slice (some ⟨E.gI, 0, none⟩) E.ins.length E.cap, E.ev, .int .i64 steps, .int .i64 depth] 110
  insL : E.gI < w.heap.size
  ins : ∀ (k op : Nat) (x : Int), E.ins[k]? = some (op, x) → w.cell? ⟨E.gI, k * 2, none⟩ = some (.int .i64 (op : Int)) ∧ w.cell? ⟨E.gI, k * 2 + 1, none⟩ = some (.int .i64 x)
  pc : blk w E.C #[.int .i64 pc] 3
  buf : ∃ cs, cs.size = 8 ∧ blk w E.U cs 5
  eof : Eofs w E.B E.e0 E.e1
  txt : TxtAt w E.ev E.B E.texts
  row : ∀ g, v.ownBlock = some g → g ≠ E.R ∧ g ≠ E.G ∧ g ≠ E.gI ∧ g ≠ E.C ∧ g ≠ E.U ∧ E.B ≤ g
  low : E.B ≤ w.heap.size

theorem TxtAt.chg {w w' : World} {v : Value} {B : Nat} {l : List ByteArray} {S : Nat → Prop} (h : TxtAt w v B l) (hc : Chg S w w') (hS : ∀ k, S k → B ≤ k) : TxtAt w' v B l := by
  rcases h with h | ⟨b, off, cap, rfl, h1, h2, h3⟩
  · exact .inl h
  · refine .inr ⟨b, off, cap, rfl, h1, h2, fun i s hi => ?_⟩
    have h4 := h3 i s hi
    rw [World.cell?_of_block (hc.block b (World.block_lt_of_cell? w _ h4) (fun e => by have := hS b e; omega))]
    exact h4

section
variable {E : Env} {w w' : World} {v : Value} {l : List Note} {tg : Int} {rest : List UInt8} {pc steps depth : Int}

/-- Other blocks than the shared ones may change. -/
theorem Cx.chg {S : Nat → Prop} (hE : E.ok) (h : Cx E w v l tg rest pc steps depth) (hc : Chg S w w') (hS : ∀ k, S k → E.B ≤ k ∧ ¬ E.S v k ∧ k ≠ E.gI) : Cx E w' v l tg rest pc steps depth := by
  have hn : ∀ k, E.S v k → ¬ S k := fun k hk e => (hS k e).2.1 hk
  have hsB : ∀ k, S k → E.B ≤ k := fun k e => (hS k e).1
  refine ⟨h.notes.chg hc (hn _ (.inl rfl)) (fun g hg => hn _ (.inr (.inr (.inr (.inr (.inr hg)))))), h.rd.chg hc (hn _ (.inr (.inl rfl))) hsB, h.prog.chg hc (hn _ (.inr (.inr (.inl rfl)))), Nat.lt_of_lt_of_le h.insL hc.size, ?_, h.pc.chg hc (hn _ (.inr (.inr (.inr (.inl rfl))))), ?_, h.eof.chg hc hsB, h.txt.chg hc hsB, h.row, Nat.le_trans h.low hc.size⟩
  · intro k op x hk
    have hb := hc.block E.gI h.insL (fun e => (hS _ e).2.2 rfl)
    rw [cell_of hb, cell_of hb]
    exact h.ins k op x hk
  · obtain ⟨cs, h1, h2⟩ := h.buf
    exact ⟨cs, h1, h2.chg hc (hn _ (.inr (.inr (.inr (.inr (.inl rfl))))))⟩

theorem Cx.same (hE : E.ok) (h : Cx E w v l tg rest pc steps depth) (hc : Chg (fun _ => False) w w') : Cx E w' v l tg rest pc steps depth := h.chg hE hc (fun _ e => e.elim)

theorem Cx.alloc (hE : E.ok) (h : Cx E w v l tg rest pc steps depth) (o : Obj) : Cx E (w.alloc o) v l tg rest pc steps depth := h.same hE (chg_alloc w o)

theorem Cx.setOther (hE : E.ok) (h : Cx E w v l tg rest pc steps depth) {p : Addr} (x : Value) (hB : E.B ≤ p.block) (hp : ¬ E.S v p.block) (hI : p.block ≠ E.gI) : Cx E (w.setCell p x) v l tg rest pc steps depth :=
  h.chg (S := fun k => k = p.block) hE ((Chg.refl (fun k => k = p.block) w).setCell (fun _ => rfl) x) (fun k e => by subst e; exact ⟨hB, hp, hI⟩)

/-- The reader and the buffer may change. -/
theorem Cx.read (hE : E.ok) (h : Cx E w v l tg rest pc steps depth) {rest' : List UInt8} (hc : Chg (fun k => k = E.R ∨ k = E.U) w w') (hr : RdAt w' E.B E.R E.sl0 E.dv E.data rest') (hu : ∃ cs, cs.size = 8 ∧ blk w' E.U cs 5) : Cx E w' v l tg rest' pc steps depth := by
  have hsB : ∀ k, (k = E.R ∨ k = E.U) → E.B ≤ k := fun k e => by rcases e with rfl | rfl; exact hE.BR; exact hE.BU
  refine ⟨h.notes.chg hc (by have := hE.NR; have := hE.NU; omega) (fun g hg => by have := h.row g hg; omega), hr, h.prog.chg hc (by have := hE.RG; have := hE.GU; omega), Nat.lt_of_lt_of_le h.insL hc.size, ?_, h.pc.chg hc (by have := hE.RC; have := hE.CU; omega), hu, h.eof.chg hc hsB, h.txt.chg hc hsB, h.row, Nat.le_trans h.low hc.size⟩
  intro k op x hk
  have hb := hc.block E.gI h.insL (by have := hE.RI; have := hE.IU; omega)
  rw [cell_of hb, cell_of hb]
  exact h.ins k op x hk

/-- Something was noted. -/
theorem Cx.noted (hE : E.ok) (h : Cx E w v l tg rest pc steps depth) {l' : List Note} {tg' : Int} (hn : Noted w w' E.B E.N v l' tg') : ∃ v', Cx E w' v' l' tg' rest pc steps depth ∧ Chg (fun k => k = E.N ∨ v.ownBlock = some k) w w' ∧ Fresh w v v' := by
  obtain ⟨v', h1, hc, hf⟩ := hn
  have hsB : ∀ k, (k = E.N ∨ v.ownBlock = some k) → E.B ≤ k := fun k e => by
    rcases e with rfl | e
    · exact hE.BN
    · exact (h.row k e).2.2.2.2.2
  have hno : ∀ k, k ≠ E.N → (∀ g, v.ownBlock = some g → g ≠ k) → ¬ (k = E.N ∨ v.ownBlock = some k) := fun k h1 h2 e => by
    rcases e with e | e
    · exact h1 e
    · exact h2 k e rfl
  refine ⟨v', ⟨h1, h.rd.chg hc (hno _ (Ne.symm hE.NR) (fun g hg => (h.row g hg).1)) hsB, h.prog.chg hc (hno _ (Ne.symm hE.NG) (fun g hg => (h.row g hg).2.1)), Nat.lt_of_lt_of_le h.insL hc.size, ?_,
    h.pc.chg hc (hno _ (Ne.symm hE.NC) (fun g hg => (h.row g hg).2.2.2.1)), ?_, h.eof.chg hc hsB, h.txt.chg hc hsB, ?_, Nat.le_trans h.low hc.size⟩, hc, hf⟩
  · intro k op x hk
    have hb := hc.block E.gI h.insL (hno _ (Ne.symm hE.NI) (fun g hg => (h.row g hg).2.2.1))
    rw [cell_of hb, cell_of hb]
    exact h.ins k op x hk
  · obtain ⟨cs, h2, h3⟩ := h.buf
    exact ⟨cs, h2, h3.chg hc (hno _ (Ne.symm hE.NU) (fun g hg => (h.row g hg).2.2.2.2.1))⟩
  · intro g hg
    rcases hf with e | ⟨g', e, hge⟩
    · exact h.row g (e ▸ hg)
    · rw [e] at hg
      cases hg
      have a1 := h.rd.blk.lt
      have a2 := h.prog.lt
      have a3 := h.insL
      have a4 := h.pc.lt
      obtain ⟨cs, _, a5⟩ := h.buf
      have a5 := a5.lt
      have a6 := h.low
      refine ⟨?_, ?_, ?_, ?_, ?_, ?_⟩ <;> omega

theorem Cx.setSteps (hE : E.ok) (h : Cx E w v l tg rest pc steps depth) (s' : Int) : Cx E (w.setCell ⟨E.G, 2, none⟩ (.int .i64 s')) v l tg rest pc s' depth := by
  have hc : Chg (fun k => k = E.G) w (w.setCell ⟨E.G, 2, none⟩ (.int .i64 s')) := (Chg.refl (fun k => k = E.G) w).setCell (fun _ => rfl) _
  have hsB : ∀ k, k = E.G → E.B ≤ k := fun k e => e ▸ hE.BG
  refine ⟨h.notes.chg hc hE.NG (fun g hg => (h.row g hg).2.1), h.rd.chg hc hE.RG hsB, h.prog.set 2 _, Nat.lt_of_lt_of_le h.insL hc.size, ?_, h.pc.chg hc (Ne.symm hE.GC), ?_, h.eof.chg hc hsB, h.txt.chg hc hsB, h.row, Nat.le_trans h.low hc.size⟩
  · intro k op x hk
    have hb := hc.block E.gI h.insL (Ne.symm hE.GI)
    rw [cell_of hb, cell_of hb]
    exact h.ins k op x hk
  · obtain ⟨cs, h2, h3⟩ := h.buf
    exact ⟨cs, h2, h3.chg hc (Ne.symm hE.GU)⟩

theorem Cx.setDepth (hE : E.ok) (h : Cx E w v l tg rest pc steps depth) (s' : Int) : Cx E (w.setCell ⟨E.G, 3, none⟩ (.int .i64 s')) v l tg rest pc steps s' := by
  have hc : Chg (fun k => k = E.G) w (w.setCell ⟨E.G, 3, none⟩ (.int .i64 s')) := (Chg.refl (fun k => k = E.G) w).setCell (fun _ => rfl) _
  have hsB : ∀ k, k = E.G → E.B ≤ k := fun k e => e ▸ hE.BG
  refine ⟨h.notes.chg hc hE.NG (fun g hg => (h.row g hg).2.1), h.rd.chg hc hE.RG hsB, h.prog.set 3 _, Nat.lt_of_lt_of_le h.insL hc.size, ?_, h.pc.chg hc (Ne.symm hE.GC), ?_, h.eof.chg hc hsB, h.txt.chg hc hsB, h.row, Nat.le_trans h.low hc.size⟩
  · intro k op x hk
    have hb := hc.block E.gI h.insL (Ne.symm hE.GI)
    rw [cell_of hb, cell_of hb]
    exact h.ins k op x hk
  · obtain ⟨cs, h2, h3⟩ := h.buf
    exact ⟨cs, h2, h3.chg hc (Ne.symm hE.GU)⟩

theorem Cx.setPc (hE : E.ok) (h : Cx E w v l tg rest pc steps depth) (s' : Int) : Cx E (w.setCell ⟨E.C, 0, none⟩ (.int .i64 s')) v l tg rest s' steps depth := by
  have hc : Chg (fun k => k = E.C) w (w.setCell ⟨E.C, 0, none⟩ (.int .i64 s')) := (Chg.refl (fun k => k = E.C) w).setCell (fun _ => rfl) _
  have hsB : ∀ k, k = E.C → E.B ≤ k := fun k e => e ▸ hE.BC
  refine ⟨h.notes.chg hc hE.NC (fun g hg => (h.row g hg).2.2.2.1), h.rd.chg hc hE.RC hsB, h.prog.chg hc hE.GC, Nat.lt_of_lt_of_le h.insL hc.size, ?_, h.pc.set 0 _, ?_, h.eof.chg hc hsB, h.txt.chg hc hsB, h.row, Nat.le_trans h.low hc.size⟩
  · intro k op x hk
    have hb := hc.block E.gI h.insL hE.IC
    rw [cell_of hb, cell_of hb]
    exact h.ins k op x hk
  · obtain ⟨cs, h2, h3⟩ := h.buf
    exact ⟨cs, h2, h3.chg hc (Ne.symm hE.CU)⟩
end

/-- A block of a level's own: it is none of the shared ones. -/
def Apart (E : Env) (v : Value) (k : Nat) : Prop := ¬ E.S v k ∧ k ≠ E.gI ∧ E.B ≤ k

/-- The registers as cells. -/
def regCells (r : Regs) (bv : Value) : Array Value := #[.bool r.truth, .int .i32 r.num, .int .i64 r.long, .float .f32 r.float, .float .f64 r.double, bv, .string (strOf r.text), .bool r.cond]

/-- The memory of one level: its box of the program, its registers. -/
structure Fx (E : Env) (w : World) (v : Value) (A F : Nat) (r : Regs) (bv : Value) : Prop where
  a : blk w A #[.pointer (some ⟨E.G, 0, none⟩)] 84
  f : blk w F (regCells r bv) 135
  b : RdB w bv r.bytes
  bo : ∀ g, bv.ownBlock = some g → Apart E v g ∧ g ≠ F ∧ g < w.heap.size
  na : Apart E v A
  nf : Apart E v F
  af : A ≠ F
  num : -2147483648 ≤ r.num ∧ r.num ≤ 2147483647
  long : -9223372036854775808 ≤ r.long ∧ r.long ≤ 9223372036854775807

section
variable {E : Env} {w w' : World} {v v' : Value} {A F : Nat} {r : Regs} {bv : Value}

theorem Apart.fresh {k : Nat} (h : Apart E v k) (hk : k < w.heap.size) (hf : Fresh w v v') : Apart E v' k := by
  refine ⟨fun e => ?_, h.2⟩
  rcases e with e | e | e | e | e | e
  · exact h.1 (.inl e)
  · exact h.1 (.inr (.inl e))
  · exact h.1 (.inr (.inr (.inl e)))
  · exact h.1 (.inr (.inr (.inr (.inl e))))
  · exact h.1 (.inr (.inr (.inr (.inr (.inl e)))))
  · exact hf.ne hk (fun e' => h.1 (.inr (.inr (.inr (.inr (.inr e')))))) e

/-- The shared blocks may change, and the notes' row may move. -/
theorem Fx.chg {S : Nat → Prop} (h : Fx E w v A F r bv) (hc : Chg S w w') (hS : ∀ k, S k → k < w.heap.size → E.S v k ∨ k = E.gI) (hf : Fresh w v v') : Fx E w' v' A F r bv := by
  have hn : ∀ k, k < w.heap.size → Apart E v k → ¬ S k := fun k hk hA e => by
    rcases hS k e hk with e | e
    · exact hA.1 e
    · exact hA.2.1 e
  refine ⟨h.a.chg hc (hn _ h.a.lt h.na), h.f.chg hc (hn _ h.f.lt h.nf), h.b.chg hc (fun _ g hg => hn g (h.bo g hg).2.2 (h.bo g hg).1), fun g hg => ⟨(h.bo g hg).1.fresh (h.bo g hg).2.2 hf, (h.bo g hg).2.1, Nat.lt_of_lt_of_le (h.bo g hg).2.2 hc.size⟩, h.na.fresh h.a.lt hf, h.nf.fresh h.f.lt hf, h.af, h.num, h.long⟩

theorem Fx.same (h : Fx E w v A F r bv) (hc : Chg (fun _ => False) w w') : Fx E w' v A F r bv := h.chg hc (fun _ e => e.elim) (Fresh.refl _ _)

theorem Fx.alloc (h : Fx E w v A F r bv) (o : Obj) : Fx E (w.alloc o) v A F r bv := h.same (chg_alloc w o)

theorem Fx.setShared (h : Fx E w v A F r bv) {p : Addr} (x : Value) (hp : E.S v p.block) : Fx E (w.setCell p x) v A F r bv :=
  h.chg (S := fun k => k = p.block) ((Chg.refl (fun k => k = p.block) w).setCell (fun _ => rfl) x) (fun k e _ => .inl (e ▸ hp)) (Fresh.refl _ _)

/-- A register is set: not the one of bytes. -/
theorem Fx.setReg (h : Fx E w v A F r bv) (i : Nat) (x : Value) (r' : Regs) (hr : (regCells r bv).setIfInBounds i x = regCells r' bv) (hb : r'.bytes = r.bytes) (hnum : -2147483648 ≤ r'.num ∧ r'.num ≤ 2147483647) (hlong : -9223372036854775808 ≤ r'.long ∧ r'.long ≤ 9223372036854775807) :
    Fx E (w.setCell ⟨F, i, none⟩ x) v A F r' bv := by
  have hc : Chg (fun k => k = F) w (w.setCell ⟨F, i, none⟩ x) := (Chg.refl (fun k => k = F) w).setCell (fun _ => rfl) _
  refine ⟨h.a.chg hc h.af, hr ▸ h.f.set i x, hb ▸ h.b.chg hc (fun _ g hg => (h.bo g hg).2.1), fun g hg => ⟨(h.bo g hg).1, (h.bo g hg).2.1, Nat.lt_of_lt_of_le (h.bo g hg).2.2 hc.size⟩, h.na, h.nf, h.af, hnum, hlong⟩

/-- The register of bytes is set. -/
theorem Fx.setBytes (h : Fx E w v A F r bv) (bv' : Value) (bs : List UInt8) (hb : RdB w bv' bs) (ho : ∀ g, bv'.ownBlock = some g → Apart E v g ∧ g ≠ F ∧ g < w.heap.size) :
    Fx E (w.setCell ⟨F, 5, none⟩ bv') v A F { r with bytes := bs } bv' := by
  have hc : Chg (fun k => k = F) w (w.setCell ⟨F, 5, none⟩ bv') := (Chg.refl (fun k => k = F) w).setCell (fun _ => rfl) _
  refine ⟨h.a.chg hc h.af, h.f.set 5 bv', hb.chg hc (fun _ g hg => (ho g hg).2.1), fun g hg => ⟨(ho g hg).1, (ho g hg).2.1, Nat.lt_of_lt_of_le (ho g hg).2.2 hc.size⟩, h.na, h.nf, h.af, h.num, h.long⟩
end

/-- A frame at the head of the loop. -/
def IsFr (E : Env) (A F : Nat) (tg : Int) (null : Bool) (a : Act) : Prop := a = fr a.tmps E.sl0 E.R E.G E.N E.C E.U A F tg null

/-- What a round hands on to the next one. -/
structure Nxt (E : Env) (A F : Nat) (tg : Int) (null : Bool) (depth : Int) (w : World) (v : Value) (a : Act) (w' : World) (v' : Value) (l' : List Note) (n' : Int) (rest' : List UInt8) (pc' steps' : Int) (r' : Regs) (bv' : Value) : Prop where
  fr : IsFr E A F tg null a
  chg : Chg (fun k => E.S v k ∨ k = F) w w'
  new : Fresh w v v'
  cx : Cx E w' v' l' n' rest' pc' steps' depth
  fx : Fx E w' v' A F r' bv'

/-- What a round leaves where it returns. -/
structure Lft (E : Env) (A F : Nat) (depth : Int) (w : World) (v : Value) (a : Act) (w' : World) (v' : Value) (l' : List Note) (n' : Int) (rest' : List UInt8) (pc' steps' : Int) (nul : Bool) (err : Value) : Prop where
  defers : a.defers = [{ target := Target.fn (Fn.func 56) #[.pointer (some ⟨A, 0, none⟩)], args := #[] }]
  r10 : a.tmps.getD 10 undef = .bool nul
  r11 : a.tmps.getD 11 undef = err
  chg : Chg (fun k => E.S v k ∨ k = F) w w'
  new : Fresh w v v'
  cx : Cx E w' v' l' n' rest' pc' steps' depth
  a : blk w' A #[.pointer (some ⟨E.G, 0, none⟩)] 84

section
variable {E : Env} {v : Value} {k : Nat}
theorem Apart.neN (h : Apart E v k) : k ≠ E.N := fun e => h.1 (.inl e)
theorem Apart.neR (h : Apart E v k) : k ≠ E.R := fun e => h.1 (.inr (.inl e))
theorem Apart.neG (h : Apart E v k) : k ≠ E.G := fun e => h.1 (.inr (.inr (.inl e)))
theorem Apart.neC (h : Apart E v k) : k ≠ E.C := fun e => h.1 (.inr (.inr (.inr (.inl e))))
theorem Apart.neU (h : Apart E v k) : k ≠ E.U := fun e => h.1 (.inr (.inr (.inr (.inr (.inl e)))))
theorem Apart.neI (h : Apart E v k) : k ≠ E.gI := h.2.1
theorem SG (E : Env) (v : Value) : E.S v E.G := .inr (.inr (.inl rfl))
theorem SC (E : Env) (v : Value) : E.S v E.C := .inr (.inr (.inr (.inl rfl)))
theorem Cx.apart {w : World} {l : List Note} {tg : Int} {rest : List UInt8} {pc steps depth : Int} (h : Cx E w v l tg rest pc steps depth) (hk : w.heap.size ≤ k) : Apart E v k := by
  have a1 := h.rd.blk.lt
  have a2 := h.prog.lt
  have a3 := h.insL
  have a4 := h.pc.lt
  obtain ⟨cs, _, a5⟩ := h.buf
  have a5 := a5.lt
  have a6 := h.low
  have a7 := h.notes.blk.lt
  refine ⟨fun e => ?_, by omega, by omega⟩
  rcases e with e | e | e | e | e | e
  all_goals first | omega | (have := (h.notes.own.lt _ e).2; omega)
end

section
variable {E : Env} {w w1 : World} {v : Value} {l l' : List Note} {k k' : Int} {rest rest' : List UInt8} {pc steps depth : Int} {A F I : Nat} {r : Regs} {bv : Value} {cs : Array Value} {ty : TypeId}

theorem Fresh.of_chg {S : Nat → Prop} {w0 : World} {v1 : Value} (hc : Chg S w0 w) (h : Fresh w v v1) : Fresh w0 v v1 := by
  rcases h with h | ⟨g, h, hg⟩
  · exact .inl h
  · exact .inr ⟨g, h, Nat.le_trans hc.size hg⟩

theorem noted_all (hE : E.ok) (hc : Cx E w v l k rest pc steps depth) (hf : Fx E w v A F r bv) (hI : blk w I cs ty) (hIa : Apart E v I) (hn : Noted w w1 E.B E.N v l' k') :
    ∃ v1, Cx E w1 v1 l' k' rest pc steps depth ∧ Fx E w1 v1 A F r bv ∧ blk w1 I cs ty ∧ Apart E v1 I ∧ Chg (E.S v) w w1 ∧ Fresh w v v1 := by
  obtain ⟨v1, h1, h2, h3⟩ := hc.noted hE hn
  have h2' : Chg (E.S v) w w1 := h2.mono (fun i _ e => by
    rcases e with e | e
    · exact .inl e
    · exact .inr (.inr (.inr (.inr (.inr e)))))
  exact ⟨v1, h1, hf.chg h2' (fun _ e _ => .inl e) h3, hI.chg h2' hIa.1, hIa.fresh hI.lt h3, h2', h3⟩

theorem read_all (hE : E.ok) (hc : Cx E w v l k rest pc steps depth) (hf : Fx E w v A F r bv) (hI : blk w I cs ty) (hIa : Apart E v I) (hch : Chg (fun k => k = E.R ∨ k = E.U) w w1) (hr : RdAt w1 E.B E.R E.sl0 E.dv E.data rest') (hu : ∃ cs, cs.size = 8 ∧ blk w1 E.U cs 5) :
    Cx E w1 v l k rest' pc steps depth ∧ Fx E w1 v A F r bv ∧ blk w1 I cs ty ∧ Chg (E.S v) w w1 := by
  have h2' : Chg (E.S v) w w1 := hch.mono (fun i _ e => by
    rcases e with e | e
    · exact .inr (.inl e)
    · exact .inr (.inr (.inr (.inr (.inl e)))))
  exact ⟨hc.read hE hch hr hu, hf.chg h2' (fun _ e _ => .inl e) (Fresh.refl _ _), hI.chg h2' hIa.1, h2'⟩
end
end Go.Proofs.YtkhicabfmkldpaaDoor
