/-
  FnVMJoins: its row, and its card.
  FnVMJoins: the law's walk, whole.
  FnVMJoins: the law's walk, once what the runs give is known.
  FnVMJoins: of two parts that are entered, one behind the other, is noted what is noted of the one, and then of the other: the maker of a part alone.
  What the walks of Cut, Halts, Joins share: runs of either machine, slices of notes, slices of bytes that came in.
-/
import Derived.Test.YtkhicabfmkldpaaDoorLaws
import Derived.ChangeSlices
import Derived.WideShapes
import Derived.Laws.AppendOwnNone
import Derived.Deep.RegionWith
set_option linter.unusedSimpArgs false
set_option linter.unusedVariables false
namespace Go.Proofs.YtkhicabfmkldpaaDoor
open Go Go.RowKit

theorem CallsAt.form {w : World} {v : Value} {l : List Note} (h : CallsAt w v l) : ∃ (a : Option Addr) (c : Nat), v = .slice a l.length c ∧ l.length ≤ c ∧ c < 9223372036854775808 := by
  rcases h with ⟨rfl, rfl⟩ | ⟨b, off, cap, rfl, h1, h2, _⟩
  · exact ⟨none, 0, rfl, Nat.le_refl _, by omega⟩
  · exact ⟨_, cap, rfl, h1, by unfold maxLen at h2; omega⟩

/-- A program that lies in memory, since the world w0. -/
def Rn (w0 : World) (l : List (Nat × Int)) (iv : Value) (w : World) : Prop := InAt w iv l ∧ (∀ g, iv.ownBlock = some g → g < w.heap.size) ∧ Chg (fun _ => False) w0 w

theorem Rn.chg {w0 w w' : World} {l : List (Nat × Int)} {iv : Value} (h : Rn w0 l iv w) (hc : Chg (fun _ => False) w w') : Rn w0 l iv w' :=
  ⟨h.1.chg hc, fun g hg => Nat.lt_of_lt_of_le (h.2.1 g hg) hc.size, h.2.2.trans hc (fun _ _ e => e)⟩

/-- A run of the specification's machine, as the walks need it. -/
theorem spec_run {w0 : World} {l : List (Nat × Int)} {iv dv : Value} {data : List UInt8} {w : World} (hR : Rn w0 l iv w) (hA : Asked l data) (hD : RdB w0 dv data) (hDo : ∀ g, dv.ownBlock = some g → g < w0.heap.size) {s' : St} (hs' : lev 9 l 3000 regs0 0 0 (-1) false false (st0 data 3000) = s') :
    Calls Tryd.prog 11 #[iv, dv] w fun e w' => ∃ (nv : Value) (n : Int) (fine : Bool), e = .returned (.tuple #[nv, .int .i64 n, .bool fine, .bool (!s'.odd && decide (0 < s'.left))]) ∧ CallsAt w' nv s'.notes ∧ (s'.odd = false → fine = decide (s'.bad = 0)) ∧ (s'.odd = false → s'.bad = 0 → n = s'.rest.length) ∧ Rn w0 l iv w' ∧ Chg (fun _ => False) w w' :=
  (vmruns l data iv dv w hR.1.spIn hR.2.1 (hD.chg hR.2.2 (fun _ _ _ e => e)) (fun g hg => Nat.lt_of_lt_of_le (hDo g hg) hR.2.2.size) (callsOk_of hA) hA.n2 hA.data s' hs').mono
    fun e w' ⟨nv, n, fine, he, h1, _, h3, h4, h5⟩ => ⟨nv, n, fine, he, h1, h3, h4, hR.chg h5, h5⟩

theorem good_of {s : St} (h : (!s.odd && decide (0 < s.left)) = true) : s.odd = false ∧ 0 < s.left := by
  rw [Bool.and_eq_true, Bool.not_eq_true', decide_eq_true_eq] at h
  exact h

open Go.ChangeShapes Go.WideShapes Go.ChangeAt

theorem Tryd.cells5 : Tryd.prog.cellsOf 5 = 1 := by kernel_rfl

set_option maxRecDepth 100000 in
/-- What a slice of bytes that came in gives. -/
theorem open_u8s {H : Type} {enc : TypeId × Value → H} {W : World} {base : Nat} {v : Value} {d : DataW H} {p : List MemPlace} (hval : Value.okWide Tryd.prog W .any base 22 v) (h : DataW.Trod enc Tryd.prog W 0 (fun _ => true) true 22 v d p) :
    ∃ (a : Option Addr) (l : List UInt8) (c : Nat), v = .slice a l.length c ∧ RdB W (.slice a l.length c) l ∧ ∀ b, (Value.slice a l.length c).ownBlock = some b → b < W.heap.size := by
  obtain ⟨a, len, cap, rfl⟩ := okWide_slice Tryd.underlying22 hval
  obtain ⟨fuel, hf⟩ := h
  rcases open_ints Tryd.underlying22 Tryd.underlying5 Tryd.cells5 hf with ⟨hcs, hx⟩ | ⟨a1, len', cap', zs, hcs, _, hl, hm, hz, hx, hcell, hwz⟩
  · simp [Value.cells] at hcs
    obtain ⟨rfl, rfl, rfl⟩ := hcs
    exact ⟨none, [], 0, rfl, .inl ⟨rfl, rfl⟩, fun b hb => by simp [Value.ownBlock] at hb⟩
  · simp [Value.cells] at hcs
    obtain ⟨rfl, rfl, rfl⟩ := hcs
    simp only [if_true] at hz
    have hlen : ((zs.take len).map fun n => UInt8.ofNat n.toNat).length = len := by simp; omega
    have hok : World.has Tryd.prog W .any base a1 5 cap := by
      simp only [Value.okWide, Tryd.underlying22, Cell.okWide, Cell.ok] at hval
      exact hval.2.2
    obtain ⟨_, hspot, row, cells, hsh, _⟩ := hok
    obtain ⟨ab, ao, spot⟩ := a1
    simp only [] at hspot hsh
    subst hspot
    have hab : ab < W.heap.size := by
      rcases Nat.lt_or_ge ab W.heap.size with h | h
      · exact h
      · simp [World.shape?, Array.getElem?_eq_none h] at hsh
    refine ⟨some ⟨ab, ao, none⟩, (zs.take len).map fun n => UInt8.ofNat n.toNat, cap, by rw [hlen], .inr ⟨ab, ao, cap, rfl, by rw [hlen]; exact hl, hm, fun i hi => ?_⟩, fun b hb => by simp [Value.ownBlock] at hb; omega⟩
    rw [hlen] at hi
    have hcj := hcell i (by omega)
    rw [Addr.add_lit] at hcj
    rw [hcj]
    have hb := range_u8 hwz i
    rw [List.getD_eq_getElem?_getD, List.getD_eq_getElem?_getD, List.getElem?_map, List.getElem?_take, if_pos hi]
    obtain ⟨z, hzi⟩ : ∃ z, zs[i]? = some z := ⟨_, List.getElem?_eq_getElem (by omega)⟩
    rw [hzi] at hb ⊢
    simp only [Option.getD_some, Option.map_some] at hb ⊢
    congr 2
    simp only [UInt8.toNat_ofNat']
    omega

theorem u8_bounds {a : Int} (h : (Lit.int .u8 a).wf = true) : 0 ≤ a ∧ a ≤ 255 := by
  have e1 : IntKind.u8.min = 0 := rfl
  have e2 : IntKind.u8.max = 255 := rfl
  simp [Lit.wf, e1, e2] at h
  omega

theorem grown_chg {w w' : World} {row : Option Nat} (h : w.grownBy w' row) : Chg (fun k => row = some k) w w' :=
  ⟨h.os, h.tape, h.output, h.size, fun k hk hn => h.block k hk (fun e => hn e.symm)⟩

end Go.Proofs.YtkhicabfmkldpaaDoor

namespace Go.Proofs.YtkhicabfmkldpaaDoor
open Go Go.RowKit

theorem GenAt.setCode {w : World} {B M : Nat} {cv iv kv : Value} {g : Gen} (h : GenAt w B M cv iv kv g) (cv' : Value) (c : List UInt8) (hr : RdB w cv' c) (ho : ∀ b, cv'.ownBlock = some b → b < B) :
    GenAt (w.setCell ⟨M, 0, none⟩ cv') B M cv' iv kv { g with code := c } ∧ Chg (fun k => k = M) w (w.setCell ⟨M, 0, none⟩ cv') := by
  have hC : Chg (fun k => k = M) w (w.setCell ⟨M, 0, none⟩ cv') := (Chg.refl (fun k => k = M) w).setCell (fun _ => rfl) _
  exact ⟨⟨h.m.set 0 _, hr.chg hC (fun _ b hb e => by have := ho b hb; have := h.le; omega), ho, World.ownsRow.chg h.ins hC (fun b hb e => h.im (e ▸ hb)), World.ownsRow.chg h.calls hC (fun b hb e => h.km (e ▸ hb)), h.im, h.km, h.ik, h.le⟩, hC⟩

theorem GenAt.setPart {w : World} {B M : Nat} {cv iv kv : Value} {g : Gen} (h : GenAt w B M cv iv kv g) (p : Nat) :
    GenAt (w.setCell ⟨M, 3, none⟩ (.int .i64 (p : Int))) B M cv iv kv { g with part := p } ∧ Chg (fun k => k = M) w (w.setCell ⟨M, 3, none⟩ (.int .i64 (p : Int))) := by
  have hC : Chg (fun k => k = M) w (w.setCell ⟨M, 3, none⟩ (.int .i64 (p : Int))) := (Chg.refl (fun k => k = M) w).setCell (fun _ => rfl) _
  exact ⟨⟨h.m.set 3 _, h.code.chg hC (fun _ b hb e => by have := h.old b hb; have := h.le; omega), h.old, World.ownsRow.chg h.ins hC (fun b hb e => h.im (e ▸ hb)), World.ownsRow.chg h.calls hC (fun b hb e => h.km (e ▸ hb)), h.im, h.km, h.ik, h.le⟩, hC⟩

theorem fresh_nil {w : World} {v : Value} (h : Fresh w (.slice none 0 0) v) : ∀ k, v.ownBlock = some k → w.heap.size ≤ k := by
  intro k hk
  rcases h with h | ⟨g, h, hg⟩
  · rw [hk] at h
    simp [Value.ownBlock] at h
  · rw [hk] at h
    cases h
    exact hg

set_option maxHeartbeats 1000000 in
set_option maxRecDepth 100000 in
/-- A part alone is made. -/
theorem make_any (B M field : Nat) (a : Option Addr) (c : Nat) (code : List UInt8) (w : World) (h : GenAt w B M (.slice none 0 0) (.slice none 0 0) (.slice none 0 0) (gen0 [] 0)) (hB : B ≤ w.heap.size) (hr : RdB w (.slice a code.length c) code) (ho : ∀ b, (Value.slice a code.length c).ownBlock = some b → b < B) :
    Calls Tryd.prog 17 #[.pointer (some ⟨M, 0, none⟩), .int .i64 (field : Int), .slice a code.length c] w fun e w' => e = .returned (.tuple #[]) ∧ ∃ cv iv kv, GenAt w' B M cv iv kv (joinsOf field code) ∧ (∀ k, iv.ownBlock = some k → w.heap.size ≤ k) ∧ Chg (fun k => k = M) w w' := by
  obtain ⟨h1, h2⟩ := rdB_cap hr
  have hf := rdB_front hr 60
  obtain ⟨m, hm⟩ : ∃ m, min code.length 60 = m := ⟨_, rfl⟩
  rw [hm] at hf
  have ho2 : ∀ b, (Value.slice a m c).ownBlock = some b → b < B := fun b hb => ho b (by cases a with | none => simp [Value.ownBlock] at hb | some x => exact hb)
  obtain ⟨g1, k1⟩ := h.setCode (.slice a m c) (code.take 60) hf ho2
  have G1 := hid (show GenAt _ B M (.slice a m c) (.slice none 0 0) (.slice none 0 0) (gen0 (code.take 60) 0) from g1)
  have K1 := hid k1
  have hsz : (w.setCell ⟨M, 0, none⟩ (.slice a m c)).heap.size = w.heap.size := by simp
  have z0 : Szd (gen0 (code.take 60) 0) 2000 := ⟨by show (code.take 60).length ≤ _; rw [List.length_take]; omega, by show 0 + 2000 ≤ 100000; omega, by show 0 + 2000 ≤ 100000; omega⟩
  have z1 : Szd (put (gen0 (code.take 60) 2) 2 field) 1999 := ⟨(z0.put 2 field).code, (z0.put 2 field).ins, (z0.put 2 field).calls⟩
  have z2 : Szd (gBody 2 (put (gen0 (code.take 60) 2) 2 field)) 1327 := gBody_z 2 _ _ z1
  have hb0 : BodyOk B M 672 1 (gBody 2) := by
    have h1 := gBody_ok B M 2 (by decide)
    rw [show (3 - ((2 : Nat) : Int)) = 1 from rfl] at h1
    exact h1
  have hbody := hid hb0
  have f0 := h.m.free 0
  have e0 : w.cell? ⟨M, 0, none⟩ = some (.slice none 0 0) := h.m.cell 0 rfl
  have lM := h.m.lt
  obtain ⟨n, hn⟩ : ∃ n, code.length = n := ⟨_, rfl⟩
  rw [hn] at h1 hm ⊢
  clear h hr hf hb0 hn ho g1 k1 ho2
  have fin : ∀ (w2 w3 w4 : World) (cv2 iv2 cv3 iv3 kv3 iv4 : Value), Fresh (w.setCell ⟨M, 0, none⟩ (.slice a m c)) (.slice none 0 0) iv2 → Chg (fun k => k = M ∨ (Value.slice none 0 0).ownBlock = some k) (w.setCell ⟨M, 0, none⟩ (.slice a m c)) w2 → Chg (fun k => k = M) w2 (w2.setCell ⟨M, 3, none⟩ (.int .i64 2)) →
      Fresh (w2.setCell ⟨M, 3, none⟩ (.int .i64 2)) iv2 iv3 → Fresh (w2.setCell ⟨M, 3, none⟩ (.int .i64 2)) (.slice none 0 0) kv3 → Chg (GenS M iv2 (.slice none 0 0)) (w2.setCell ⟨M, 3, none⟩ (.int .i64 2)) w3 → Fresh w3 iv3 iv4 → Chg (fun k => k = M ∨ iv3.ownBlock = some k) w3 w4 → (∀ k, iv4.ownBlock = some k → w.heap.size ≤ k) ∧ Chg (fun k => k = M) w w4 := by
    intro w2 w3 w4 cv2 iv2 cv3 iv3 kv3 iv4 f1 q1 q2 f3 f3k q3 f4 q4
    have s1 := q1.size
    have s2 := q2.size
    have s3 := q3.size
    have F3 : Fresh (w.setCell ⟨M, 0, none⟩ (.slice a m c)) (.slice none 0 0) iv3 := f1.trans f3 (by omega)
    have F4 : Fresh (w.setCell ⟨M, 0, none⟩ (.slice a m c)) (.slice none 0 0) iv4 := F3.trans f4 (by omega)
    refine ⟨fun k hk => by have := fresh_nil F4 k hk; omega, ?_⟩
    have d1 : Chg (fun k => k = M) w w2 := K1.out.trans q1 (fun i hi e => by
      rcases e with e | e
      · exact e
      · simp [Value.ownBlock] at e)
    have d2 := d1.trans q2 (fun i hi e => e)
    have d3 : Chg (fun k => k = M) w w3 := d2.trans q3 (fun i hi e => by
      rcases e with e | e | e
      · exact e
      · have := fresh_nil f1 i e; omega
      · simp [Value.ownBlock] at e)
    exact d3.trans q4 (fun i hi e => by
      rcases e with e | e
      · exact e
      · have := fresh_nil F3 i e; omega)
  have Fin := hid fin
  clear fin
  by_cases h60 : n ≤ 60
  all_goals
    first
    | (have hi : (n : Int) ≤ 60 := by omega
       have hmn : m = n := by omega)
    | (have hi : ¬ (n : Int) ≤ 60 := by omega
       have hmn : m = 60 := by omega)
    subst hmn
    go_enter Tryd.func17, Tryd.ntmps17
    go_wp2_with (first | (go_at_call 18; refine (put_any B M cv3 iv3 kv3 _ 3 0 _ r1.out z2.i).mono ?_; rintro e w4 ⟨rfl, iv4, p1, p2, p3⟩; replace p1 := hid p1; replace p2 := hid p2; replace p3 := hid p3) | (go_at_call 15; refine (hbody.out _ _ _ _ _ (show GenAt (w2.setCell ⟨M, 3, none⟩ (.int .i64 2)) B M _ iv2 _ (put (gen0 (code.take 60) 2) 2 field) from Q3.out.1) (by have := q3.out.size; simp at this ⊢; omega) (z1.mono (by decide))).mono ?_; rintro e w3 ⟨rfl, ⟨⟨cv3, iv3, kv3, r1, r2, r3⟩, r4⟩⟩; replace r1 := hid r1; replace r2 := hid r2; replace r3 := hid r3; replace r4 := hid r4) | (go_at_call 18; refine (put_any B M _ _ _ _ 2 (field : Int) _ G1.out z0.i).mono ?_; rintro e w2 ⟨rfl, iv2, q1, q2, q3⟩; have Q3 := hid (q1.setPart 2); have d3 := q1.m.cell 3 rfl; have f3 := q1.m.free 3; replace q1 := hid q1; replace q2 := hid q2; replace q3 := hid q3))
    go_end0
    have hh := Fin.out w2 w3 w4 cv3 iv2 cv3 iv3 kv3 iv4 q2.out q3.out Q3.out.2 r2.out r3.out r4.out p2.out p3.out
    exact ⟨rfl, cv3, iv4, kv3, p1.out, hh.1, hh.2⟩
end Go.Proofs.YtkhicabfmkldpaaDoor

namespace Go.Proofs.YtkhicabfmkldpaaDoor
open Go Go.RowKit

theorem chg_cell {w w' : World} {b o : Nat} {v : Value} (hc : Chg (fun _ => False) w w') (h : w.cell? ⟨b, o, none⟩ = some v) : w'.cell? ⟨b, o, none⟩ = some v :=
  (cell_of (hc.block b (World.block_lt_of_cell? _ _ h) (fun e => e)) o).trans h

theorem own_set {w : World} {B E size n cap g : Nat} {xs : List Value} (h : w.ownsRow B E size (.slice (some ⟨g, 0, none⟩) n cap) n xs) (k : Nat) (v : Value) : (w.setCell ⟨g, k, none⟩ v).ownsRow B E size (.slice (some ⟨g, 0, none⟩) n cap) n (xs.set k v) := by
  refine ⟨by rw [List.length_set]; exact h.1, ?_⟩
  rcases h.2 with ⟨hv, _⟩ | ⟨g', cap', cur, hv, hB, hgb, hn, hcap, hsz, htk⟩
  · cases hv
  · cases hv
    have hb : blk w g cur E := hgb
    refine .inr ⟨g, cap, cur.setIfInBounds k v, rfl, hB, hb.set _ _, hn, hcap, by simpa using hsz, ?_⟩
    rw [← htk, Array.toList_setIfInBounds, List.take_set]

/-- The notes from a place on, in the cells of a row. -/
def NotesFrom (l : List Note) (xs : List Value) (i : Nat) : Prop := ∀ (j : Nat) (n : Note), i ≤ j → l[j]? = some n → ∀ t, t < 4 → xs[j * 4 + t]? = n.cells[t]?

theorem notesFrom_all (l : List Note) : NotesFrom l (l.flatMap Note.cells) 0 := fun j n _ hj t ht => flat_get l j n hj t ht

theorem NotesFrom.set {l : List Note} {xs : List Value} {i : Nat} (h : NotesFrom l xs i) (v : Value) : NotesFrom l (xs.set (i * 4 + 3) v) (i + 1) := fun j n hi hj t ht => by
  rw [List.getElem?_set_ne (by omega)]
  exact h j n (by omega) hj t ht
theorem NotesFrom.up {l : List Note} {xs : List Value} {i : Nat} (h : NotesFrom l xs i) : NotesFrom l xs (i + 1) := fun j n hi hj t ht => h j n (by omega) hj t ht

/-- What stands in a row of notes. -/
theorem notes_cells {w : World} {B n n' cap g : Nat} {l : List Note} {xs : List Value} {i : Nat} {m : Note} (h : w.ownsRow B 47 4 (.slice (some ⟨g, 0, none⟩) n cap) n' xs) (hf : NotesFrom l xs i) (hm : l[i]? = some m) :
    w.cell? ⟨g, i * 4, none⟩ = some (.string m.name) ∧ w.cell? ⟨g, i * 4 + 1, none⟩ = some (.int .i64 m.n) ∧ w.cell? ⟨g, i * 4 + 2, none⟩ = some (.string m.s) ∧ w.cell? ⟨g, i * 4 + 3, none⟩ = some (.int .i64 m.tg) ∧ w.frozen? ⟨g, i * 4 + 3, none⟩ = false := by
  have key : ∀ t u, t < 4 → m.cells[t]? = some u → w.cell? ⟨g, i * 4 + t, none⟩ = some u := by
    intro t u ht hu
    have h1 := h.cells (g := g) rfl (i * 4 + t) u ((hf i m (Nat.le_refl _) hm t ht).trans hu)
    rwa [Addr.add_lit, Nat.zero_add] at h1
  refine ⟨key 0 _ (by decide) rfl, key 1 _ (by decide) rfl, key 2 _ (by decide) rfl, key 3 _ (by decide) rfl, ?_⟩
  rcases h.2 with ⟨hv, _⟩ | ⟨g', cap', cur, hv, _, hgb, _⟩
  · cases hv
  · cases hv
    have hb : blk w g cur 47 := hgb
    exact hb.free _

/-- Where the slices of calls lie while one is set right and appended to the other. -/
structure Shf (wq wr : World) (Bx By : Nat) (xv yv xv' : Value) (nX nY : List Note) (F : Int) (i : Nat) (xs : List Value) : Prop where
  x : wr.ownsRow Bx 47 4 xv' (nX.length + i) ((nX ++ (nY.take i).map (Note.shift F)).flatMap Note.cells)
  y : wr.ownsRow By 47 4 yv nY.length xs
  from' : NotesFrom nY xs i
  fresh : Fresh wq xv xv'
  chg : Chg (fun k => xv.ownBlock = some k ∨ yv.ownBlock = some k) wq wr

theorem notesFrom_at (l : List Note) (i : Nat) : NotesFrom l (l.flatMap Note.cells) i := fun j n _ hj t ht => flat_get l j n hj t ht

theorem own_some {w : World} {B n n' c : Nat} {a : Option Addr} {xs : List Value} (h : w.ownsRow B 47 4 (.slice a n c) n' xs) (hn : 0 < n') : ∃ g, a = some ⟨g, 0, none⟩ := by
  rcases h.2 with ⟨_, h0⟩ | ⟨g', cap', cur, hv, _⟩
  · omega
  · cases hv
    exact ⟨g', rfl⟩

theorem cnt_take (l : List Note) (i : Nat) (m : Note) (h : l[i]? = some m) : cnt (l.take (i + 1)) = cnt (l.take i) + if isNew m then 1 else 0 := by
  rw [show l.take (i + 1) = l.take i ++ [m] by rw [List.take_add_one, h]; rfl, cnt_snoc]

theorem name_cases (m : Note) : (m.name.toList = [71, 101, 116] ∧ isNew m = true) ∨ (¬ m.name.toList = [71, 101, 116] ∧ m.name.toList = [65, 112, 112, 101, 110, 100, 65, 114, 114, 97, 121] ∧ isNew m = true) ∨
    (¬ m.name.toList = [71, 101, 116] ∧ ¬ m.name.toList = [65, 112, 112, 101, 110, 100, 65, 114, 114, 97, 121] ∧ m.name.toList = [65, 112, 112, 101, 110, 100, 77, 97, 112] ∧ isNew m = true) ∨
    (¬ m.name.toList = [71, 101, 116] ∧ ¬ m.name.toList = [65, 112, 112, 101, 110, 100, 65, 114, 114, 97, 121] ∧ ¬ m.name.toList = [65, 112, 112, 101, 110, 100, 77, 97, 112] ∧ isNew m = false) := by
  have e1 : nmGet.toList = [71, 101, 116] := by rw [ByteArray.toList_eq]; rfl
  have e2 : nmAppendArray.toList = [65, 112, 112, 101, 110, 100, 65, 114, 114, 97, 121] := by rw [ByteArray.toList_eq]; rfl
  have e3 : nmAppendMap.toList = [65, 112, 112, 101, 110, 100, 77, 97, 112] := by rw [ByteArray.toList_eq]; rfl
  have k : ∀ (n : ByteArray) (l : List UInt8), n.toList = l → (m.name = n ↔ m.name.toList = l) := fun n l h => ⟨fun e => by rw [e, h], fun e => ba_inj (by rw [e, h])⟩
  have k1 := k _ _ e1
  have k2 := k _ _ e2
  have k3 := k _ _ e3
  unfold isNew
  by_cases h1 : m.name = nmGet
  · exact .inl ⟨k1.1 h1, by simp [h1]⟩
  · by_cases h2 : m.name = nmAppendArray
    · exact .inr (.inl ⟨fun e => h1 (k1.2 e), k2.1 h2, by simp [h2]⟩)
    · by_cases h3 : m.name = nmAppendMap
      · exact .inr (.inr (.inl ⟨fun e => h1 (k1.2 e), fun e => h2 (k2.2 e), k3.1 h3, by simp [h3]⟩))
      · exact .inr (.inr (.inr ⟨fun e => h1 (k1.2 e), fun e => h2 (k2.2 e), fun e => h3 (k3.2 e), by simp [h1, h2, h3]⟩))

theorem cnt_le (l : List Note) : cnt l ≤ l.length := List.length_filter_le _ _

theorem note_cells_one (l : List Note) : ∀ u ∈ l.flatMap Note.cells, u.oneCell' = true := by
  intro u hu
  obtain ⟨m, _, hm⟩ := List.mem_flatMap.1 hu
  simp only [Note.cells, List.mem_cons, List.not_mem_nil, or_false] at hm
  rcases hm with rfl | rfl | rfl | rfl <;> rfl

/-- The world in which a call is appended: as it was, or with its place set right. -/
def ShM (wr wm : World) (gy i : Nat) (m : Note) (F : Int) : Prop := (wm = wr ∧ ¬ 0 < m.tg) ∨ (wm = wr.setCell ⟨gy, i * 4 + 3, none⟩ (.int .i64 (m.tg + F)) ∧ 0 < m.tg)

theorem ShM.chg {wr wm : World} {gy i : Nat} {m : Note} {F : Int} (h : ShM wr wm gy i m F) : Chg (fun k => k = gy) wr wm := by
  rcases h with ⟨rfl, _⟩ | ⟨rfl, _⟩
  · exact Chg.refl _ _
  · exact (Chg.refl (fun k => k = gy) wr).setCell (fun _ => rfl) _

section
variable {wq wr wm wz : World} {Bx By ly cy gy i : Nat} {xv xv' : Value} {nX nY : List Note} {F : Int} {xs : List Value} {m : Note}

theorem Shf.ne (h : Shf wq wr Bx By xv (.slice (some ⟨gy, 0, none⟩) ly cy) xv' nX nY F i xs) (hne : xv.ownBlock ≠ some gy) (hgy : gy < wq.heap.size) : xv'.ownBlock ≠ some gy := h.fresh.ne hgy hne

theorem Shf.own (h : Shf wq wr Bx By xv (.slice (some ⟨gy, 0, none⟩) ly cy) xv' nX nY F i xs) (hne : xv.ownBlock ≠ some gy) (hgy : gy < wq.heap.size) (hwm : ShM wr wm gy i m F) (o : Obj) :
    (wm.alloc o).ownsRow Bx 47 4 xv' (nX.length + i) ((nX ++ (nY.take i).map (Note.shift F)).flatMap Note.cells) :=
  (World.ownsRow.chg h.x hwm.chg (fun g hg e => h.ne hne hgy (e ▸ hg))).alloc o

theorem Shf.step (h : Shf wq wr Bx By xv (.slice (some ⟨gy, 0, none⟩) ly cy) xv' nX nY F i xs) (hly : nY.length = ly) (hm : nY[i]? = some m) (hne : xv.ownBlock ≠ some gy) (hgy : gy < wq.heap.size) (hwm : ShM wr wm gy i m F) {o : Obj} {g cap : Nat}
    (z1 : wz.ownsRow Bx 47 4 (.slice (some ⟨g, 0, none⟩) (nX.length + i + 1) cap) (nX.length + i + 1) ((nX ++ (nY.take i).map (Note.shift F)).flatMap Note.cells ++ (m.shift F).cells)) (z2 : (wm.alloc o).grownBy wz xv'.ownBlock) (z3 : xv'.ownBlock = some g ∨ g = wm.heap.size + 1) :
    ∃ xs', Shf wq wz Bx By xv (.slice (some ⟨gy, 0, none⟩) ly cy) (.slice (some ⟨g, 0, none⟩) (nX.length + i + 1) cap) nX nY F (i + 1) xs' := by
  have hx' := h.ne hne hgy
  have hs1 := h.chg.size
  have hs2 := hwm.chg.size
  have hcm : Chg (fun k => xv'.ownBlock = some k) wm wz := (((Chg.refl (fun _ => False) wm).alloc o).mono (fun _ _ e => e.elim)).trans (grown_chg z2) (fun _ _ e => e)
  have hfr : Fresh wq xv (.slice (some ⟨g, 0, none⟩) (nX.length + i + 1) cap) := by
    rcases z3 with e | e
    · rcases h.fresh with f | ⟨b, f, hb⟩
      · exact .inl (by rw [← f, e]; rfl)
      · rw [e] at f
        cases f
        exact .inr ⟨g, rfl, hb⟩
    · exact .inr ⟨g, rfl, by omega⟩
  have hchg : Chg (fun k => xv.ownBlock = some k ∨ (Value.slice (some ⟨gy, 0, none⟩) ly cy).ownBlock = some k) wq wz := (h.chg.trans hwm.chg (fun i hi e => .inr (by rw [e]; rfl))).trans hcm (fun k hk e => by
    rcases h.fresh with f | ⟨b, f, hb⟩
    · exact .inl (f ▸ e)
    · rw [e] at f
      cases f
      omega)
  have hlist : (nX ++ (nY.take (i + 1)).map (Note.shift F)).flatMap Note.cells = (nX ++ (nY.take i).map (Note.shift F)).flatMap Note.cells ++ (m.shift F).cells := by
    rw [show nY.take (i + 1) = nY.take i ++ [m] by rw [List.take_add_one, hm]; rfl, List.map_append, ← List.append_assoc, List.flatMap_append]
    simp
  subst hly
  have hy : ∃ xs', wm.ownsRow By 47 4 (.slice (some ⟨gy, 0, none⟩) nY.length cy) nY.length xs' ∧ NotesFrom nY xs' (i + 1) := by
    rcases hwm with ⟨rfl, _⟩ | ⟨rfl, _⟩
    · exact ⟨xs, h.y, h.from'.up⟩
    · exact ⟨_, own_set h.y _ _, h.from'.set _⟩
  obtain ⟨xs', hy1, hy2⟩ := hy
  exact ⟨xs', by rw [hlist]; exact z1, World.ownsRow.chg hy1 hcm (fun g' hg' e => hx' (by simp [Value.ownBlock] at hg'; rw [hg']; exact e)), hy2, hfr, hchg⟩
end

theorem gen_new {w : World} {B M : Nat} (hb : blk w M #[.slice none 0 0, .slice none 0 0, .slice none 0 0, .int .i64 0, .int .i64 0] 37) (hM : B ≤ M) : GenAt w B M (.slice none 0 0) (.slice none 0 0) (.slice none 0 0) (gen0 [] 0) :=
  ⟨hb, .inl ⟨rfl, rfl⟩, fun b hb => by simp [Value.ownBlock] at hb, ⟨rfl, .inl ⟨rfl, rfl⟩⟩, ⟨rfl, .inl ⟨rfl, rfl⟩⟩, by simp [Value.ownBlock], by simp [Value.ownBlock], fun b hb => by simp [Value.ownBlock] at hb, hM⟩

/-- The cells of an instruction. -/
theorem ins_cells {w : World} {B g n cap : Nat} {l : List (Nat × Int)} {n' : Nat} (h : w.ownsRow B 42 2 (.slice (some ⟨g, 0, none⟩) n cap) n' (insCells l)) {i op : Nat} {x : Int} (hi : l[i]? = some (op, x)) :
    w.cell? ⟨g, i * 2, none⟩ = some (.int .i64 (op : Int)) ∧ w.cell? ⟨g, i * 2 + 1, none⟩ = some (.int .i64 x) := by
  have hil := (List.getElem?_eq_some_iff.1 hi).1
  have hg := insCells_get2 l i hil
  have hd : l.getD i (0, 0) = (op, x) := by rw [List.getD_eq_getElem?_getD, hi]; rfl
  rw [hd] at hg
  have h1 := h.cells (g := g) rfl _ _ hg.1
  have h2 := h.cells (g := g) rfl _ _ hg.2
  rw [Addr.add_lit, Nat.zero_add] at h1 h2
  exact ⟨h1, h2⟩

def relX (n op : Nat) (x : Int) : Int := if op = 11 ∨ op = 14 then x + n else x
theorem reloc_snoc (n : Nat) (l : List (Nat × Int)) (op : Nat) (x : Int) : reloc n (l ++ [(op, x)]) = reloc n l ++ [(op, relX n op x)] := by
  unfold reloc
  rw [List.map_append]
  rfl

/-- What the relocation has made so far. -/
structure Rel (w5 wr : World) (B M LA : Nat) (cv iv kv : Value) (lA lB : List (Nat × Int)) (g : Gen) : Prop where
  at' : GenAt wr B M cv iv kv { g with ins := lA ++ reloc LA lB }
  own : ∀ k, iv.ownBlock = some k → w5.heap.size ≤ k
  chg : Chg (fun k => k = M) w5 wr

theorem Rel.step {w5 wr w9 : World} {B M LA : Nat} {cv iv iv9 kv : Value} {lA lB : List (Nat × Int)} {A : Gen} {i op : Nat} {x x' : Int} {o : Obj} (h : Rel w5 wr B M LA cv iv kv lA (lB.take i) A) (hox : lB[i]? = some (op, x)) (hx : x' = relX LA op x)
    (p1 : GenAt w9 B M cv iv9 kv (put { A with ins := lA ++ reloc LA (lB.take i) } op x')) (p2 : Fresh (wr.alloc o) iv iv9) (p3 : Chg (fun k => k = M ∨ iv.ownBlock = some k) (wr.alloc o) w9) : Rel w5 w9 B M LA cv iv9 kv lA (lB.take (i + 1)) A := by
  subst hx
  have hs := h.chg.size
  refine ⟨?_, fun k hk => ?_, (h.chg.alloc o).trans p3 (fun i hi e => ?_)⟩
  · rw [show lB.take (i + 1) = lB.take i ++ [(op, x)] by rw [List.take_add_one, hox]; rfl, reloc_snoc, ← List.append_assoc]
    exact p1
  · rcases p2 with e | ⟨g, e, hg⟩
    · exact h.own k (e ▸ hk)
    · rw [hk] at e
      cases e
      simp at hg
      omega
  · rcases e with e | e
    · exact e
    · have := h.own i e
      omega

set_option maxHeartbeats 4000000 in
set_option maxRecDepth 100000 in
theorem joins_end (a0 : Option Addr) (m0 n0 : Nat) (a1 : Option Addr) (m1 n1 : Nat) (a2 : Option Addr) (m2 n2 : Nat) (sl : Bool) (w : World) (A Bg : Gen) (LA LB D : Nat)
    (g0 : ¬ (2147483647 : Int) < (m0 : Int)) (g1 : ¬ (2147483647 : Int) < (m1 : Int)) (g2 : ¬ (2147483647 : Int) < (m2 : Int)) (c0 : m0 ≤ n0 ∧ n0 < 9223372036854775808) (c1 : m1 ≤ n1 ∧ n1 < 9223372036854775808) (c2 : m2 ≤ n2 ∧ n2 < 9223372036854775808)
    (hLA : 0 < LA ∧ LA ≤ 10000) (hLB : 0 < LB ∧ LB ≤ 10000) (hA : Hid (A.ins.length = LA)) (hBl : Hid (Bg.ins.length = LB)) (hBv : Hid (∀ (i op : Nat) (x : Int), Bg.ins[i]? = some (op, x) → op ≤ 22 ∧ -300 ≤ x ∧ x ≤ 100000))
    (hmkA : Hid (∀ M w', GenAt w' w.heap.size M (.slice none 0 0) (.slice none 0 0) (.slice none 0 0) (gen0 [] 0) → w.heap.size ≤ w'.heap.size → Chg (fun _ => False) w w' → Calls Tryd.prog 17 #[.pointer (some ⟨M, 0, none⟩), .int .i64 1, .slice a0 m0 n0] w' fun e w'' => e = .returned (.tuple #[]) ∧ ∃ cv iv kv, GenAt w'' w.heap.size M cv iv kv A ∧ (∀ k, iv.ownBlock = some k → w'.heap.size ≤ k) ∧ Chg (fun k => k = M) w' w''))
    (hmkB : Hid (∀ M w', GenAt w' w.heap.size M (.slice none 0 0) (.slice none 0 0) (.slice none 0 0) (gen0 [] 0) → w.heap.size ≤ w'.heap.size → Chg (fun _ => False) w w' → Calls Tryd.prog 17 #[.pointer (some ⟨M, 0, none⟩), .int .i64 2, .slice a1 m1 n1] w' fun e w'' => e = .returned (.tuple #[]) ∧ ∃ cv iv kv, GenAt w'' w.heap.size M cv iv kv Bg ∧ (∀ k, iv.ownBlock = some k → w'.heap.size ≤ k) ∧ Chg (fun k => k = M) w' w''))
    (b1 ok whole : Bool) (kx ky kz : Nat) (nX nY nZ : List Note) (hkx : kx ≤ D) (hDm : D ≤ m2) (hD2 : D ≤ 200) (hnl : Hid (nX.length ≤ 100000 ∧ nY.length ≤ 100000 ∧ nZ.length ≤ 1000000))
    (hdata : Hid (∀ w1, Chg (fun _ => False) w w1 → Calls Tryd.prog 10 #[.slice a2 m2 n2] w1 fun e w' => e = .returned (.slice a2 D n2) ∧ w' = w1))
    (hsp : Hid (∀ iv w1, Rn w (A.ins ++ reloc LA Bg.ins) iv w1 → Calls Tryd.prog 11 #[iv, .slice a2 D n2] w1 fun e w' => ∃ (nv : Value) (q : Int) (fine : Bool), e = .returned (.tuple #[nv, .int .i64 q, .bool fine, .bool b1]) ∧ Chg (fun _ => False) w1 w'))
    (hvmA : Hid (b1 = true → ∀ iv w1, Rn w A.ins iv w1 → Calls Tryd.prog 13 #[iv, .slice none 0 0, .slice a2 D n2, .bool sl] w1 fun e w' => ∃ (xv : Value) (q : Nat) (why : ByteArray), e = .returned (.tuple #[xv, .int .i64 q, .string why, .bool ok]) ∧ w'.ownsRow w1.heap.size 47 4 xv nX.length (nX.flatMap Note.cells) ∧ (ok = true → q = kx) ∧ Chg (fun _ => False) w1 w'))
    (hvmZ : Hid (b1 = true → ∀ iv w1, Rn w (A.ins ++ reloc LA Bg.ins) iv w1 → Calls Tryd.prog 13 #[iv, .slice none 0 0, .slice a2 D n2, .bool sl] w1 fun e w' => ∃ (zv : Value) (q : Nat) (why : ByteArray), e = .returned (.tuple #[zv, .int .i64 q, .string why, .bool whole]) ∧ w'.ownsRow w1.heap.size 47 4 zv nZ.length (nZ.flatMap Note.cells) ∧ (whole = true → q = kz) ∧ Chg (fun _ => False) w1 w'))
    (hawk : Hid (∀ w1, Chg (fun _ => False) w w1 → Calls Tryd.prog 12 #[] w1 fun e w' => e = .returned (.bool true) ∧ Chg (fun _ => False) w1 w'))
    (rest : List UInt8) (lo : Nat) (hlo : Hid (D = lo + kx)) (hrl : Hid (rest.length = kx)) (ha2 : Hid ((a2 = none ∧ D = 0 ∧ n2 = 0) ∨ ∃ b off, a2 = some ⟨b, off, none⟩ ∧ RdB w (.slice (some ⟨b, off + lo, none⟩) kx (n2 - lo)) rest ∧ b < w.heap.size))
    (hvmB : Hid (b1 = true → ok = true → ∀ iv dv w1, Rn w Bg.ins iv w1 → RdB w dv rest → (∀ g, dv.ownBlock = some g → g < w.heap.size) → Calls Tryd.prog 13 #[iv, .slice none 0 0, dv, .bool sl] w1 fun e w' => ∃ (yv : Value) (q : Nat) (why : ByteArray), e = .returned (.tuple #[yv, .int .i64 q, .string why, .bool whole]) ∧ w'.ownsRow w1.heap.size 47 4 yv nY.length (nY.flatMap Note.cells) ∧ (whole = true → q = kz) ∧ Chg (fun _ => False) w1 w'))
    (hYt : Hid (∀ m ∈ nY, m.tg ≤ 100000)) (hZ : Hid (b1 = true → ok = true → nZ = nX ++ nY.map (Note.shift (cnt nX))))
    (hbad : Hid (b1 = true → ok = false → whole = false ∧ nX = nZ)) :
    Calls Tryd.prog 5 #[.slice a0 m0 n0, .slice a1 m1 n1, .slice a2 m2 n2, .bool sl] w fun e w' => e = .returned (.bool true) ∧ Chg (fun _ => False) w w' := by
  obtain ⟨w3, hw3⟩ : ∃ w3, ((w.alloc (.cells #[.slice none 0 0, .slice none 0 0, .slice none 0 0, .int .i64 0, .int .i64 0] 37)).alloc (.cells #[.slice none 0 0, .slice none 0 0, .slice none 0 0, .int .i64 0, .int .i64 0] 37)).alloc (.cells #[.slice none 0 0, .slice none 0 0, .slice none 0 0, .int .i64 0, .int .i64 0] 37) = w3 := ⟨_, rfl⟩
  have hs3 : w3.heap.size = w.heap.size + 3 := by rw [← hw3]; simp
  have hc3 : Chg (fun _ => False) w w3 := by rw [← hw3]; exact (((Chg.refl _ w).alloc _).alloc _).alloc _
  have hba : blk w3 w.heap.size #[.slice none 0 0, .slice none 0 0, .slice none 0 0, .int .i64 0, .int .i64 0] 37 := by rw [← hw3]; exact ((blk_new _ _ _).alloc _).alloc _
  have hbb : blk w3 (w.heap.size + 1) #[.slice none 0 0, .slice none 0 0, .slice none 0 0, .int .i64 0, .int .i64 0] 37 := by rw [← hw3]; exact (blk_new' (by simp) _ _).alloc _
  have hbc : blk w3 (w.heap.size + 2) #[.slice none 0 0, .slice none 0 0, .slice none 0 0, .int .i64 0, .int .i64 0] 37 := by rw [← hw3]; exact blk_new' (by simp) _ _
  have Hc3 := hid hc3
  have Hba := hid hba
  have Hbb := hid hbb
  have Hbc := hid hbc
  have Hs3 := hid hs3
  have Hw3 := hid hw3
  clear hc3 hba hbb hbc hw3 hs3
  go_enter Tryd.func5, Tryd.ntmps5
  go_wp2_with (go_at_call 17; rw [Hw3.out]; refine (hmkA.out w.heap.size _ (gen_new Hba.out (Nat.le_refl _)) Hc3.out.size Hc3.out).mono ?_; rintro e w4 ⟨rfl, cva, iva, kva, r1a, r2a, r3a⟩; have R1a := hid r1a; have R3a := hid (And.intro r2a r3a); clear r1a r2a r3a)
  have t0 := Hbb.out.chg R3a.out.2 (by omega)
  have t2 := gen_new t0 (B := w.heap.size) (by omega)
  have t3 : Chg (fun _ => False) w w4 := (Hc3.out.trans R3a.out.2 (fun i hi e => by omega))
  have t4 := t3.size
  refine (hmkB.out (w.heap.size + 1) _ t2 t4 t3).mono ?_
  rintro e w5 ⟨rfl, cvb, ivb, kvb, r1b, r2b, r3b⟩
  have R1b := hid r1b
  have R3b := hid (And.intro r2b r3b)
  clear r1b r2b r3b t0 t2 t3 t4
  go_wp2_with (go_at_call 17; fail)
  have t0 := (Hbc.out.chg R3a.out.2 (by omega)).chg R3b.out.2 (by omega)
  have t2 := gen_new t0 (B := w.heap.size) (by omega)
  have t3 : Chg (fun _ => False) w w5 := (Hc3.out.trans R3a.out.2 (fun i hi e => by omega)).trans R3b.out.2 (fun i hi e => by omega)
  have t4 := t3.size
  refine (hmkA.out (w.heap.size + 1 + 1) _ t2 t4 t3).mono ?_
  rintro e w6 ⟨rfl, cvc, ivc, kvc, r1c, r2c, r3c⟩
  have R1c := hid r1c
  have R3c := hid (And.intro r2c r3c)
  have C5 := hid t3
  clear r1c r2c r3c t0 t2 t3 t4
  obtain ⟨gc, cc, rfl, hgc0, hgc1⟩ := R1c.out.ins.form (by rw [hA.out]; omega)
  obtain ⟨gb, cb, rfl, hgb0, hgb1⟩ := R1b.out.ins.form (by rw [hBl.out]; omega)
  obtain ⟨ga, ca, rfl, hga0, hga1⟩ := R1a.out.ins.form (by rw [hA.out]; omega)
  have hA' := hA.out
  have hB' := hBl.out
  rw [hA'] at R1a R1c R3a R3c
  rw [hB'] at R1b R3b
  clear hA' hB'
  have sa := Hs3.out
  have sb := R3a.out.2.size
  have sc := R3b.out.2.size
  have sd := R3c.out.2.size
  have oa := R3a.out.1 ga rfl
  have ob := R3b.out.1 gb rfl
  have oc := R3c.out.1 gc rfl
  have d1 : w6.cell? ⟨w.heap.size + 1 + 1, 1, none⟩ = some (.slice (some ⟨gc, 0, none⟩) LA cc) := R1c.out.m.cell 1 rfl
  have d2 : w6.cell? ⟨w.heap.size + 1, 1, none⟩ = some (.slice (some ⟨gb, 0, none⟩) LB cb) := (R1b.out.m.chg R3c.out.2 (by omega)).cell 1 rfl
  go_wp2
  go_loopg [73] LB (fun j v73 wr => ∃ (i : Nat) (cv' iv' kv' : Value), v73 = .int .i64 (i : Int) ∧ i ≤ LB ∧ j = LB - i ∧ Hid (Rel w5 wr w.heap.size (w.heap.size + 1 + 1) LA cv' iv' kv' A.ins (Bg.ins.take i) A))
  case atStart =>
    refine ⟨0, cvc, _, kvc, rfl, Nat.zero_le _, rfl, ⟨?_, R3c.out.1, R3c.out.2⟩⟩
    show GenAt w6 _ _ _ _ _ { A with ins := A.ins ++ [] }
    rw [List.append_nil]
    exact R1c.out
  case round =>
    obtain ⟨i, cv', iv', kv', rfl, h1, rfl, HR⟩ := hrel
    by_cases hin : i < LB
    · have hlt : (i : Int) < (LB : Int) := by omega
      obtain ⟨⟨op, x⟩, hox⟩ : ∃ o, Bg.ins[i]? = some o := ⟨_, List.getElem?_eq_getElem (by rw [hBl.out]; exact hin)⟩
      have hv := hBv.out i op x hox
      have hrow := World.ownsRow.chg R1b.out.ins HR.out.chg (fun g hg e => by simp [Value.ownBlock] at hg; omega)
      have hcs := ins_cells hrow hox
      have e1 := hcs.1
      have e2 := hcs.2
      have Hox := hid hox
      clear hcs hrow hox
      have hgl := hid (show (A.ins ++ reloc LA (Bg.ins.take i)).length ≤ 1000000 by unfold reloc; rw [List.length_append, List.length_map, List.length_take, hA.out, hBl.out]; omega)
      by_cases h11 : op = 11
      · subst h11
        go_wp2_with (go_at_call 18; fail)
        refine (put_any w.heap.size (w.heap.size + 1 + 1) cv' iv' kv' { A with ins := A.ins ++ reloc LA (Bg.ins.take i) } 11 (x + (LA : Int)) _ (HR.out.at'.alloc _) hgl.out).mono ?_
        rintro e w9 ⟨rfl, iv9, p1, p2, p3⟩
        have HR9 := hid (HR.out.step Hox.out (by simp [relX]) p1 p2 p3)
        clear p1 p2 p3
        go_wp2
        go_roundg (LB - (i + 1))
        case measure => omega
        case rel => exact ⟨i + 1, cv', iv9, kv', by congr 1, by omega, rfl, HR9⟩
      · by_cases h14 : op = 14
        · subst h14
          go_wp2_with (go_at_call 18; fail)
          refine (put_any w.heap.size (w.heap.size + 1 + 1) cv' iv' kv' { A with ins := A.ins ++ reloc LA (Bg.ins.take i) } 14 (x + (LA : Int)) _ (HR.out.at'.alloc _) hgl.out).mono ?_
          rintro e w9 ⟨rfl, iv9, p1, p2, p3⟩
          have HR9 := hid (HR.out.step Hox.out (by simp [relX]) p1 p2 p3)
          clear p1 p2 p3
          go_wp2
          go_roundg (LB - (i + 1))
          case measure => omega
          case rel => exact ⟨i + 1, cv', iv9, kv', by congr 1, by omega, rfl, HR9⟩
        · have k11 : ((op : Int) == 11) = false := by rw [beq_eq_false_iff_ne]; omega
          have k14 : ((op : Int) == 14) = false := by rw [beq_eq_false_iff_ne]; omega
          go_wp2_with (go_at_call 18; fail)
          refine (put_any w.heap.size (w.heap.size + 1 + 1) cv' iv' kv' { A with ins := A.ins ++ reloc LA (Bg.ins.take i) } op x _ (HR.out.at'.alloc _) hgl.out).mono ?_
          rintro e w9 ⟨rfl, iv9, p1, p2, p3⟩
          have HR9 := hid (HR.out.step Hox.out (by simp [relX, h11, h14]) p1 p2 p3)
          clear p1 p2 p3
          go_wp2
          go_roundg (LB - (i + 1))
          case measure => omega
          case rel => exact ⟨i + 1, cv', iv9, kv', by congr 1, by omega, rfl, HR9⟩
    · obtain rfl : i = LB := by omega
      rw [List.take_of_length_le (by rw [hBl.out]; exact Nat.le_refl _)] at HR
      have cw := HR.out.chg
      have Cw := hid (show Chg (fun _ => False) w wr from C5.out.trans cw (fun i hi e => by omega))
      have f1 : wr.cell? ⟨w.heap.size + 1 + 1, 1, none⟩ = some iv' := HR.out.at'.m.cell 1 rfl
      have f2 : wr.cell? ⟨w.heap.size + 1, 1, none⟩ = some (.slice (some ⟨gb, 0, none⟩) i cb) := (R1b.out.m.chg cw (by omega)).cell 1 rfl
      have f3 : wr.cell? ⟨w.heap.size, 1, none⟩ = some (.slice (some ⟨ga, 0, none⟩) LA ca) := ((R1a.out.m.chg R3b.out.2 (by omega)).chg cw (by omega)).cell 1 rfl
      have na := hid (show Rn w A.ins (.slice (some ⟨ga, 0, none⟩) LA ca) wr from ⟨inAt_of_own (World.ownsRow.chg (World.ownsRow.chg R1a.out.ins R3b.out.2 (fun g hg e => by simp [Value.ownBlock] at hg; omega)) cw (fun g hg e => by simp [Value.ownBlock] at hg; omega)) (by rw [hA.out]; omega), fun g hg => by have := cw.size; simp [Value.ownBlock] at hg; omega, Cw.out⟩)
      have nb := hid (show Rn w Bg.ins (.slice (some ⟨gb, 0, none⟩) i cb) wr from ⟨inAt_of_own (World.ownsRow.chg R1b.out.ins cw (fun g hg e => by simp [Value.ownBlock] at hg; omega)) (by rw [hBl.out]; omega), fun g hg => by have := cw.size; simp [Value.ownBlock] at hg; omega, Cw.out⟩)
      have nj := hid (show Rn w (A.ins ++ reloc LA Bg.ins) iv' wr from ⟨inAt_of_own HR.out.at'.ins (by rw [List.length_append, hA.out]; omega), fun g hg => (HR.out.at'.ins.lt g hg).2, Cw.out⟩)
      go_wp2_with (go_at_call 10; fail)
      refine (hdata.out _ Cw.out).mono ?_
      rintro e w7 ⟨rfl, rfl⟩
      go_wp2_with (go_at_call 11; fail)
      refine (hsp.out _ _ nj.out).mono ?_
      rintro e w7 ⟨nv7, q7, fine7, rfl, c7⟩
      have C7 := hid c7
      have t1 := chg_cell c7 f1
      have t2 := chg_cell c7 f2
      have t3 := chg_cell c7 f3
      clear f1 f2 f3 c7
      cases b1 with
      | false =>
        go_wp2_with (go_at_call 12; fail)
        refine (hawk.out _ (Cw.out.trans C7.out (fun _ _ e => e))).mono ?_
        rintro e w8 ⟨rfl, c8⟩
        go_wp2
        go_ret
        exact ⟨rfl, (Cw.out.trans C7.out (fun _ _ e => e)).trans c8 (fun _ _ e => e)⟩
      | true =>
        go_wp2_with (go_at_call 13; fail)
        refine (hvmA.out (by simp) _ _ (na.out.chg C7.out)).mono ?_
        rintro e w8 ⟨xv, q8, why8, rfl, x1, hk8, c8⟩
        have X1 := hid x1
        have C8 := hid c8
        have C78 := hid (C7.out.trans c8 (fun _ _ e => e))
        have s1 := chg_cell c8 t1
        have s2 := chg_cell c8 t2
        clear x1 c8 t1 t2 t3
        go_wp2_with (go_at_call 13; fail)
        refine (hvmZ.out (by simp) _ _ (nj.out.chg C78.out)).mono ?_
        rintro e w9 ⟨zv, q9, why9, rfl, z1, hk9, c9⟩
        have Z1 := hid z1
        have C9 := hid c9
        have C789 := hid (C78.out.trans c9 (fun _ _ e => e))
        have r2 := chg_cell c9 s2
        have Cz := hid (Cw.out.trans C789.out (fun _ _ e => e))
        clear z1 c9 s1 s2
        cases ok with
        | false =>
          obtain ⟨rfl, hxz⟩ := hbad.out (by simp) (by simp)
          have Hxz := hid hxz
          clear hxz
          go_wp2_with (go_at_call 14; fail)
          refine (same_any _ _ nX nZ _ (callsAt_of_own (World.ownsRow.chg X1.out C9.out (fun _ _ e => e))) (callsAt_of_own Z1.out) (by have := hnl.out; omega) hnl.out.2.2).mono ?_
          rintro e w10 ⟨bb, rfl, hbb, kk, rfl⟩
          have hbt : bb = true := hbb.2 Hxz.out
          subst hbt
          clear hbb
          go_wp2_with (go_at_call 12; fail)
          refine (hawk.out _ (Cz.out.drewN kk)).mono ?_
          rintro e w11 ⟨rfl, c11⟩
          go_wp2
          go_ret
          exact ⟨rfl, (Cz.out.drewN kk).trans c11 (fun _ _ e => e)⟩
        | true =>
          have e8 : q8 = kx := hk8 rfl
          subst e8
          clear hk8
          have hlo' := hlo.out
          have k1 : (D : Int) - (q8 : Int) = (lo : Int) := by omega
          have k2 : D - lo = q8 := by omega
          have k3 : lo ≤ D := by omega
          have k4 : IntKind.i64.wrap (lo : Int) = (lo : Int) := by rw [IntKind.wrap_i64]; omega
          clear hlo'
          go_wp2_with (go_at_call 13; fail)
          rcases (show (a2 = none ∧ D = 0 ∧ n2 = 0 ∧ lo = 0 ∧ q8 = 0 ∧ rest = []) ∨ (∃ db doff, a2 = some ⟨db, doff, none⟩ ∧ db < w.heap.size ∧ n2 = lo ∧ D = lo ∧ q8 = 0 ∧ rest = []) ∨ (∃ db doff, a2 = some ⟨db, doff, none⟩ ∧ db < w.heap.size ∧ ¬ n2 = lo ∧ Hid (RdB w (.slice (some ⟨db, doff + lo, none⟩) q8 (n2 - lo)) rest)) by
              have hlo' := hlo.out
              rcases ha2.out with ⟨h1, h2, h3⟩ | ⟨db, doff, h1, h2, h3⟩
              · have h0 : q8 = 0 := by omega
                exact .inl ⟨h1, h2, h3, by omega, h0, List.eq_nil_of_length_eq_zero (by rw [hrl.out]; exact h0)⟩
              · by_cases hcut : n2 = lo
                · have h0 : q8 = 0 := by omega
                  exact .inr (.inl ⟨db, doff, h1, h3, hcut, by omega, h0, List.eq_nil_of_length_eq_zero (by rw [hrl.out]; exact h0)⟩)
                · exact .inr (.inr ⟨db, doff, h1, h3, hcut, hid h2⟩)) with ⟨rfl, rfl, rfl, rfl, rfl, rfl⟩ | ⟨db, doff, rfl, hdb, rfl, rfl, rfl, rfl⟩ | ⟨db, doff, rfl, hdb, hcut, Hrd⟩
          all_goals
              have ct7 : w9.drew.cell? ⟨w.heap.size + 1, 1, none⟩ = some (.slice (some ⟨gb, 0, none⟩) i cb) := r2
              refine wp_region_till (fun w' => w'.cell? ⟨w.heap.size + 1, 1, none⟩ = some (.slice (some ⟨gb, 0, none⟩) i cb)) 100 (by kernel_rfl) ?_
              refine wpTill_reads 10 [0, 1, 2, 3, 4, 5, 6, 7, 8, 9, 10] (by kernel_rfl) ?_ ct7 ?_
              · intro c a d v w h; cases d <;> exact h
              (refine wpReads_cons (v := ?_) rfl (yieldsIf_yes rfl fun w' hw => ?_) ?_; rotate_left; (first | (go_simp; done) | (go_simp; rw [k4]; exact rfl) | (go_simp; exact rfl) | (go_simp; split; exact rfl; exfalso; omega)); simp only [Act.put, List.setIfInBounds_toArray, List.set_cons_zero, List.set_cons_succ, List.getElem_toArray, List.getElem_cons_zero, List.getElem_cons_succ])
              (refine wpReads_cons (v := ?_) rfl (yieldsIf_yes rfl fun w' hw => ?_) ?_; rotate_left; (first | (go_simp; done) | (go_simp; rw [k4]; exact rfl) | (go_simp; exact rfl) | (go_simp; split; exact rfl; exfalso; omega)); simp only [Act.put, List.setIfInBounds_toArray, List.set_cons_zero, List.set_cons_succ, List.getElem_toArray, List.getElem_cons_zero, List.getElem_cons_succ])
              (refine wpReads_cons (v := ?_) rfl (yieldsIf_yes rfl fun w' hw => ?_) ?_; rotate_left; (first | (go_simp; done) | (go_simp; rw [k4]; exact rfl) | (go_simp; exact rfl) | (go_simp; split; exact rfl; exfalso; omega)); simp only [Act.put, List.setIfInBounds_toArray, List.set_cons_zero, List.set_cons_succ, List.getElem_toArray, List.getElem_cons_zero, List.getElem_cons_succ])
              (refine wpReads_cons (v := ?_) rfl (yieldsIf_yes rfl fun w' hw => ?_) ?_; rotate_left; (first | (go_simp; done) | (go_simp; rw [k4]; exact rfl) | (go_simp; exact rfl) | (go_simp; split; exact rfl; exfalso; omega)); simp only [Act.put, List.setIfInBounds_toArray, List.set_cons_zero, List.set_cons_succ, List.getElem_toArray, List.getElem_cons_zero, List.getElem_cons_succ])
              (refine wpReads_cons (v := ?_) rfl (yieldsIf_yes rfl fun w' hw => ?_) ?_; rotate_left; (first | (go_simp; done) | (go_simp; rw [k4]; exact rfl) | (go_simp; exact rfl) | (go_simp; split; exact rfl; exfalso; omega)); simp only [Act.put, List.setIfInBounds_toArray, List.set_cons_zero, List.set_cons_succ, List.getElem_toArray, List.getElem_cons_zero, List.getElem_cons_succ])
              (refine wpReads_cons (v := ?_) rfl (yieldsIf_yes rfl fun w' hw => ?_) ?_; rotate_left; (first | (go_simp; done) | (go_simp; rw [k4]; exact rfl) | (go_simp; exact rfl) | (go_simp; split; exact rfl; exfalso; omega)); simp only [Act.put, List.setIfInBounds_toArray, List.set_cons_zero, List.set_cons_succ, List.getElem_toArray, List.getElem_cons_zero, List.getElem_cons_succ])
              (refine wpReads_cons (v := ?_) rfl (yieldsIf_yes rfl fun w' hw => ?_) ?_; rotate_left; (first | (go_simp; done) | (go_simp; rw [k4]; exact rfl) | (go_simp; exact rfl) | (go_simp; split; exact rfl; exfalso; omega)); simp only [Act.put, List.setIfInBounds_toArray, List.set_cons_zero, List.set_cons_succ, List.getElem_toArray, List.getElem_cons_zero, List.getElem_cons_succ])
              (refine wpReads_cons (v := ?_) rfl (yieldsIf_yes rfl fun w' hw => ?_) ?_; rotate_left; (first | (go_simp; done) | (go_simp; rw [k4]; exact rfl) | (go_simp; exact rfl) | (go_simp; split; exact rfl; exfalso; omega)); simp only [Act.put, List.setIfInBounds_toArray, List.set_cons_zero, List.set_cons_succ, List.getElem_toArray, List.getElem_cons_zero, List.getElem_cons_succ])
              (refine wpReads_cons (v := ?_) rfl (yieldsIf_yes rfl fun w' hw => ?_) ?_; rotate_left; (first | (go_simp; done) | (go_simp; rw [k4]; exact rfl) | (go_simp; exact rfl) | (go_simp; split; exact rfl; exfalso; omega)); simp only [Act.put, List.setIfInBounds_toArray, List.set_cons_zero, List.set_cons_succ, List.getElem_toArray, List.getElem_cons_zero, List.getElem_cons_succ])
              (refine wpReads_cons (v := ?_) rfl (yieldsIf_yes rfl fun w' hw => ?_) ?_; rotate_left; (first | (go_simp; done) | (go_simp; rw [k4]; exact rfl) | (go_simp; exact rfl) | (go_simp; split; exact rfl; exfalso; omega)); simp only [Act.put, List.setIfInBounds_toArray, List.set_cons_zero, List.set_cons_succ, List.getElem_toArray, List.getElem_cons_zero, List.getElem_cons_succ])
              (refine wpReads_cons (v := ?_) rfl (yieldsIf_yes rfl fun w' hw => ?_) ?_; rotate_left; (first | (go_simp; done) | (go_simp; rw [k4]; exact rfl) | (go_simp; exact rfl) | (go_simp; split; exact rfl; exfalso; omega)); simp only [Act.put, List.setIfInBounds_toArray, List.set_cons_zero, List.set_cons_succ, List.getElem_toArray, List.getElem_cons_zero, List.getElem_cons_succ])
              refine wpReads_nil ?_
              simp only [listAll]
              refine wpTill_one (i := 11) (by kernel_rfl) rfl rfl ?_
              intro K hK
              go_step
              refine (hvmB.out (by simp) (by simp) _ _ _ (nb.out.chg C789.out.drew) ?_ ?_).mono ?_
              · first | exact .inl ⟨rfl, rfl⟩ | exact Hrd.out | exact .inr ⟨db, doff, 0, rfl, Nat.le_refl _, by unfold maxLen; omega, fun i hi => by simp at hi⟩
              · intro g hg; simp [Value.ownBlock] at hg; (try omega)
              rintro e w10 ⟨yv, q10, why10, rfl, y1, hk10, c10⟩
              have ct10 := chg_cell c10 ct7
              refine hK _ _ ⟨fun _ => ct10, ?_⟩
              clear hK K
              refine wpTill_reads 0 [12, 13, 14, 15, 16, 17, 18, 19, 20] (by kernel_rfl) ?_ ct10 ?_
              · intro c a d v w h; cases d <;> exact h
              (refine wpReads_cons (v := ?_) rfl (yieldsIf_yes rfl fun w' hw => ?_) ?_; rotate_left; (first | (go_simp; done) | (go_simp; rw [k4]; exact rfl) | (go_simp; exact rfl) | (go_simp; split; exact rfl; exfalso; omega)); simp only [Act.put, List.setIfInBounds_toArray, List.set_cons_zero, List.set_cons_succ, List.getElem_toArray, List.getElem_cons_zero, List.getElem_cons_succ])
              (refine wpReads_cons (v := ?_) rfl (yieldsIf_yes rfl fun w' hw => ?_) ?_; rotate_left; (first | (go_simp; done) | (go_simp; rw [k4]; exact rfl) | (go_simp; exact rfl) | (go_simp; split; exact rfl; exfalso; omega)); simp only [Act.put, List.setIfInBounds_toArray, List.set_cons_zero, List.set_cons_succ, List.getElem_toArray, List.getElem_cons_zero, List.getElem_cons_succ])
              (refine wpReads_cons (v := ?_) rfl (yieldsIf_yes rfl fun w' hw => ?_) ?_; rotate_left; (first | (go_simp; done) | (go_simp; rw [k4]; exact rfl) | (go_simp; exact rfl) | (go_simp; split; exact rfl; exfalso; omega)); simp only [Act.put, List.setIfInBounds_toArray, List.set_cons_zero, List.set_cons_succ, List.getElem_toArray, List.getElem_cons_zero, List.getElem_cons_succ])
              (refine wpReads_cons (v := ?_) rfl (yieldsIf_yes rfl fun w' hw => ?_) ?_; rotate_left; (first | (go_simp; done) | (go_simp; rw [k4]; exact rfl) | (go_simp; exact rfl) | (go_simp; split; exact rfl; exfalso; omega)); simp only [Act.put, List.setIfInBounds_toArray, List.set_cons_zero, List.set_cons_succ, List.getElem_toArray, List.getElem_cons_zero, List.getElem_cons_succ])
              (refine wpReads_cons (v := ?_) rfl (yieldsIf_yes rfl fun w' hw => ?_) ?_; rotate_left; (first | (go_simp; done) | (go_simp; rw [k4]; exact rfl) | (go_simp; exact rfl) | (go_simp; split; exact rfl; exfalso; omega)); simp only [Act.put, List.setIfInBounds_toArray, List.set_cons_zero, List.set_cons_succ, List.getElem_toArray, List.getElem_cons_zero, List.getElem_cons_succ])
              (refine wpReads_cons (v := ?_) rfl (yieldsIf_yes rfl fun w' hw => ?_) ?_; rotate_left; (first | (go_simp; done) | (go_simp; rw [k4]; exact rfl) | (go_simp; exact rfl) | (go_simp; split; exact rfl; exfalso; omega)); simp only [Act.put, List.setIfInBounds_toArray, List.set_cons_zero, List.set_cons_succ, List.getElem_toArray, List.getElem_cons_zero, List.getElem_cons_succ])
              (refine wpReads_cons (v := ?_) rfl (yieldsIf_yes rfl fun w' hw => ?_) ?_; rotate_left; (first | (go_simp; done) | (go_simp; rw [k4]; exact rfl) | (go_simp; exact rfl) | (go_simp; split; exact rfl; exfalso; omega)); simp only [Act.put, List.setIfInBounds_toArray, List.set_cons_zero, List.set_cons_succ, List.getElem_toArray, List.getElem_cons_zero, List.getElem_cons_succ])
              (refine wpReads_cons (v := ?_) rfl (yieldsIf_yes rfl fun w' hw => ?_) ?_; rotate_left; (first | (go_simp; done) | (go_simp; rw [k4]; exact rfl) | (go_simp; exact rfl) | (go_simp; split; exact rfl; exfalso; omega)); simp only [Act.put, List.setIfInBounds_toArray, List.set_cons_zero, List.set_cons_succ, List.getElem_toArray, List.getElem_cons_zero, List.getElem_cons_succ])
              (refine wpReads_cons (v := ?_) rfl (yieldsIf_yes rfl fun w' hw => ?_) ?_; rotate_left; (first | (go_simp; done) | (go_simp; rw [k4]; exact rfl) | (go_simp; exact rfl) | (go_simp; split; exact rfl; exfalso; omega)); simp only [Act.put, List.setIfInBounds_toArray, List.set_cons_zero, List.set_cons_succ, List.getElem_toArray, List.getElem_cons_zero, List.getElem_cons_succ])
              refine wpReads_nil ?_
              simp only [listAll]
              refine wpTill_done (by kernel_rfl) ?_ _
              have Y1 := hid y1
              have C10 := hid c10
              clear y1 c10 ct7 ct10 r2
              have CC := hid (C9.out.drew.trans C10.out (fun _ _ e => e))
              have X10 := hid (World.ownsRow.chg X1.out CC.out (fun _ _ e => e))
              have X8 := hid (show ∀ g, xv.ownBlock = some g → g < w8.heap.size from fun g e => (X1.out.lt g e).2)
              clear X1
              obtain ⟨ax, cx, rfl, hx1, hx2⟩ := (callsAt_of_own X10.out).form
              obtain ⟨ay, cy, rfl, hy1, hy2⟩ := (callsAt_of_own Y1.out).form
              obtain ⟨lx, hlx⟩ : ∃ n, nX.length = n := ⟨_, rfl⟩
              obtain ⟨ly, hly⟩ : ∃ n, nY.length = n := ⟨_, rfl⟩
              have hlb := hnl.out
              rw [hlx] at X10 hx1 hlb X8
              rw [hly] at Y1 hy1 hlb
              have hlbx := hlb.1
              have hlby := hlb.2.1
              clear hlb
              rw [hlx, hly]
              have Hlx := hid hlx
              have Hly := hid hly
              clear hlx hly
              go_wp2
              go_loopg [168, 32] lx (fun j v168 v32 wr => ∃ (i : Nat), v168 = .int .i64 (i : Int) ∧ v32 = .int .i64 (cnt (nX.take i) : Int) ∧ i ≤ lx ∧ j = lx - i ∧ Hid (w10 = wr))
              case atStart => exact ⟨0, rfl, rfl, Nat.zero_le _, rfl, hid rfl⟩
              case round =>
                obtain ⟨i, rfl, rfl, h1, rfl, HW⟩ := hrel
                have hW := HW.out
                subst hW
                by_cases hin : i < lx
                · have hlt : (i : Int) < (lx : Int) := by omega
                  obtain ⟨m, hm⟩ : ∃ m, nX[i]? = some m := ⟨_, List.getElem?_eq_getElem (by have := Hlx.out; omega)⟩
                  obtain ⟨gx, rfl⟩ := own_some X10.out (by omega)
                  have hcs := (notes_cells X10.out (notesFrom_at nX i) hm).1
                  have Hct := hid (cnt_take nX i m hm)
                  have hcb : cnt (nX.take i) ≤ 100000 := by have := cnt_le (nX.take i); rw [List.length_take] at this; omega
                  have Hm := hid hm
                  clear hm
                  rcases name_cases m with ⟨p1, pn⟩ | ⟨p1, p2, pn⟩ | ⟨p1, p2, p3, pn⟩ | ⟨p1, p2, p3, pn⟩
                  all_goals
                    rw [pn] at Hct
                    (try (have b1 := beq_eq_false_iff_ne.2 p1)); (try (have b2 := beq_eq_false_iff_ne.2 p2)); (try (have b3 := beq_eq_false_iff_ne.2 p3))
                    go_wp2
                    go_roundg (lx - (i + 1))
                    case measure => omega
                    case rel => exact ⟨i + 1, by congr 1, by rw [Hct.out]; simp, by omega, rfl, hid rfl⟩
                · obtain rfl : i = lx := by omega
                  have htk : nX.take i = nX := List.take_of_length_le (by rw [Hlx.out]; exact Nat.le_refl _)
                  have hFb := cnt_le nX
                  rw [Hlx.out] at hFb
                  obtain ⟨F, hF⟩ : ∃ F, cnt nX = F := ⟨_, rfl⟩
                  rw [hF] at hFb
                  rw [htk, hF]
                  have HF := hid hF
                  clear htk hF
                  go_wp2
                  have sy := CC.out.size
                  have hLx : nX.length ≤ 100000 := by rw [Hlx.out]; omega
                  have HLx := hid hLx
                  clear hLx
                  obtain ⟨i47, y1, y2, y3, y4⟩ := info_parts Tryd.info47
                  go_loopg [198, 20] ly (fun j v198 v20 wr => ∃ (i' : Nat) (xv' : Value) (xs : List Value), v198 = .int .i64 (i' : Int) ∧ xv' = v20 ∧ i' ≤ ly ∧ j = ly - i' ∧ Hid (Shf w10 wr w7.heap.size w9.drew.heap.size (.slice ax i cx) (.slice ay ly cy) xv' nX nY (F : Int) i' xs))
                  case atStart =>
                    refine ⟨0, _, _, rfl, rfl, Nat.zero_le _, rfl, ⟨?_, ?_, notesFrom_all nY, Fresh.refl _ _, Chg.refl _ _⟩⟩
                    · rw [Hlx.out]
                      show World.ownsRow _ _ _ _ _ _ ((nX ++ []).flatMap Note.cells)
                      rw [List.append_nil]
                      exact X10.out
                    · rw [Hly.out]
                      exact Y1.out
                  case round =>
                    obtain ⟨i', xv', xs, rfl, rfl, h2, rfl, HS⟩ := hrel
                    by_cases hin2 : i' < ly
                    · have hlt2 : (i' : Int) < (ly : Int) := by omega
                      obtain ⟨m, hm⟩ : ∃ m, nY[i']? = some m := ⟨_, List.getElem?_eq_getElem (by have := Hly.out; omega)⟩
                      obtain ⟨gy, rfl⟩ := own_some Y1.out (by omega)
                      have hcs := notes_cells HS.out.y HS.out.from' hm
                      have hmt := hYt.out m (List.mem_of_getElem? hm)
                      have l1 := hcs.1
                      have l2 := hcs.2.1
                      have l3 := hcs.2.2.1
                      have l4 := hcs.2.2.2.1
                      have l5 := hcs.2.2.2.2
                      have hgy := Y1.out.lt gy rfl
                      have hnx : (Value.slice ax i cx).ownBlock ≠ some gy := fun e => by have h9 := X8.out gy e; have h10 : w9.heap.size ≤ gy := hgy.1; have := C9.out.size; omega
                      have Hm := hid hm
                      clear hm hcs
                      by_cases htg : 0 < m.tg
                      · have wT : wrap64 (m.tg + (F : Int)) = m.tg + (F : Int) := by unfold wrap64; omega
                        have hM : ShM wr (wr.setCell ⟨gy, i' * 4 + 3, none⟩ (.int .i64 (m.tg + (F : Int)))) gy i' m (F : Int) := .inr ⟨rfl, htg⟩
                        have hsc : (m.shift (F : Int)).cells = [.string m.name, .int .i64 m.n, .string m.s, .int .i64 (m.tg + (F : Int))] := by simp [Note.shift, Note.cells, sh, htg]
                        have hbs : w7.heap.size ≤ ((wr.setCell ⟨gy, i' * 4 + 3, none⟩ (.int .i64 (m.tg + (F : Int)))).alloc (.cells #[.string m.name, .int .i64 m.n, .string m.s, .int .i64 (m.tg + (F : Int))] 47)).heap.size := by have := C8.out.size; have := CC.out.size; have := HS.out.chg.size; simp; omega
                        have hM := hid hM
                        have hsc := hid hsc
                        have hbs := hid hbs
                        go_wp2_with (at_builtin; (refine wpList_append_lies _ rfl _ _ _ rfl w7.heap.size 47 i47 _ 4 48 Tryd.underlying26 y1 y2 y3 y4 rfl (by omega) xv' (nX.length + i') _ rfl (HS.out.own hnx hgy.2 hM.out _) ⟨wr.heap.size, 0, none⟩ 1 1 [.string m.name, .int .i64 m.n, .string m.s, .int .i64 (m.tg + (F : Int))] rfl rfl (World.news_of_block (blk_new' (by simp) _ _)) (by simp [Value.oneCell']) (by omega) (by have := HLx.out; unfold maxLen; omega) (by have := HLx.out; omega) hbs.out (wr.heap.size + 1) (by simp) ?_); intro g1 cap1 wz z1 z2 z3 z4; rw [← hsc.out] at z1; obtain ⟨xs', hs'⟩ := HS.out.step Hly.out Hm.out hnx hgy.2 hM.out z1 z2 (z3.imp id (fun e => e.trans (by simp))); have HS2 := hid hs'; clear z1 z2 z3 z4 hs')
                        go_roundg (ly - (i' + 1))
                        case measure => omega
                        case rel => exact ⟨i' + 1, _, xs', by congr 1, rfl, by omega, rfl, HS2⟩
                      · have hM : ShM wr wr gy i' m (F : Int) := .inl ⟨rfl, htg⟩
                        have hsc : (m.shift (F : Int)).cells = [.string m.name, .int .i64 m.n, .string m.s, .int .i64 m.tg] := by simp [Note.shift, Note.cells, sh, htg]
                        have hbs : w7.heap.size ≤ (wr.alloc (.cells #[.string m.name, .int .i64 m.n, .string m.s, .int .i64 m.tg] 47)).heap.size := by have := C8.out.size; have := CC.out.size; have := HS.out.chg.size; simp; omega
                        have hM := hid hM
                        have hsc := hid hsc
                        have hbs := hid hbs
                        go_wp2_with (at_builtin; (refine wpList_append_lies _ rfl _ _ _ rfl w7.heap.size 47 i47 _ 4 48 Tryd.underlying26 y1 y2 y3 y4 rfl (by omega) xv' (nX.length + i') _ rfl (HS.out.own hnx hgy.2 hM.out _) ⟨wr.heap.size, 0, none⟩ 1 1 [.string m.name, .int .i64 m.n, .string m.s, .int .i64 m.tg] rfl rfl (World.news_of_block (blk_new' (by simp) _ _)) (by simp [Value.oneCell']) (by omega) (by have := HLx.out; unfold maxLen; omega) (by have := HLx.out; omega) hbs.out (wr.heap.size + 1) (by simp) ?_); intro g1 cap1 wz z1 z2 z3 z4; rw [← hsc.out] at z1; obtain ⟨xs', hs'⟩ := HS.out.step Hly.out Hm.out hnx hgy.2 hM.out z1 z2 (z3.imp id (fun e => e.trans (by simp))); have HS2 := hid hs'; clear z1 z2 z3 z4 hs')
                        go_roundg (ly - (i' + 1))
                        case measure => omega
                        case rel => exact ⟨i' + 1, _, xs', by congr 1, rfl, by omega, rfl, HS2⟩
                    · obtain rfl : i' = ly := by omega
                      have hx := HS.out.x
                      rw [List.take_of_length_le (by rw [Hly.out]; exact Nat.le_refl _)] at hx
                      have hzz := hZ.out (by simp) (by simp)
                      rw [HF.out] at hzz
                      have hlen : (nX ++ nY.map (Note.shift (F : Int))).length = nX.length + i' := by rw [List.length_append, List.length_map, Hly.out]
                      have xf := hid (show CallsAt wr xv' (nX ++ nY.map (Note.shift (F : Int))) from callsAt_of_own (by rw [hlen]; exact hx))
                      have zf := hid (show CallsAt wr zv nZ from callsAt_of_own (World.ownsRow.chg (World.ownsRow.chg Z1.out ((Chg.refl (fun _ => False) w9).drew.trans C10.out (fun _ _ e => e)) (fun _ _ e => e)) HS.out.chg (fun g hg e => by
                        have q := Z1.out.lt g hg
                        rcases e with e | e
                        · have := X8.out g e; omega
                        · have h10 : w9.heap.size ≤ g := (Y1.out.lt g e).1; omega)))
                      have hl1 : (nX ++ nY.map (Note.shift (F : Int))).length ≤ 1000000 := by rw [hlen, Hlx.out]; omega
                      have Hl1 := hid hl1
                      have Hzz := hid hzz
                      have Cr := hid (show Chg (fun _ => False) w wr from (Cz.out.drew.trans C10.out (fun _ _ e => e)).trans HS.out.chg (fun k hk e => by
                        have q := Cz.out.size
                        rcases e with e | e
                        · have := (X10.out.lt k e).1; have := Cw.out.size; have := C7.out.size; omega
                        · have h10 : w9.heap.size ≤ k := (Y1.out.lt k e).1; omega))
                      clear hzz hlen hl1 hx
                      cases whole with
                      | true =>
                        obtain rfl : q10 = kz := hk10 (by simp)
                        obtain rfl : q9 = q10 := hk9 (by simp)
                        clear hk9 hk10
                        go_wp2_with (go_at_call 14; fail)
                        refine (same_any _ _ nZ (nX ++ nY.map (Note.shift (F : Int))) _ zf.out xf.out hnl.out.2.2 Hl1.out).mono ?_
                        rintro e w12 ⟨bb, rfl, hbb, kk, rfl⟩
                        have hbt : bb = true := hbb.2 Hzz.out
                        subst hbt
                        clear hbb
                        go_wp2_with (go_at_call 12; fail)
                        refine (hawk.out _ (Cr.out.drewN kk)).mono ?_
                        rintro e w13 ⟨rfl, c13⟩
                        go_wp2
                        go_ret
                        exact ⟨rfl, (Cr.out.drewN kk).trans c13 (fun _ _ e => e)⟩
                      | false =>
                        clear hk9 hk10
                        go_wp2_with (go_at_call 14; fail)
                        refine (same_any _ _ nZ (nX ++ nY.map (Note.shift (F : Int))) _ zf.out xf.out hnl.out.2.2 Hl1.out).mono ?_
                        rintro e w12 ⟨bb, rfl, hbb, kk, rfl⟩
                        have hbt : bb = true := hbb.2 Hzz.out
                        subst hbt
                        clear hbb
                        go_wp2_with (go_at_call 12; fail)
                        refine (hawk.out _ (Cr.out.drewN kk)).mono ?_
                        rintro e w13 ⟨rfl, c13⟩
                        go_wp2
                        go_ret
                        exact ⟨rfl, (Cr.out.drewN kk).trans c13 (fun _ _ e => e)⟩
end Go.Proofs.YtkhicabfmkldpaaDoor

namespace Go.Proofs.YtkhicabfmkldpaaDoor
open Go Go.RowKit

/-- What is left is the data's end; a target that is noted is one that there is. -/
structure Fur (s s' : St) : Prop where
  rest : s'.rest <:+ s.rest
  tgs : (∀ n ∈ s.notes, n.tg ≤ s.tg) → ∀ n ∈ s'.notes, n.tg ≤ s'.tg
  tg : s.tg ≤ s'.tg

theorem Fur.refl (s : St) : Fur s s := ⟨List.suffix_refl _, id, Int.le_refl _⟩
theorem Fur.trans {a b c : St} (h : Fur a b) (k : Fur b c) : Fur a c := ⟨k.rest.trans h.rest, fun x => k.tgs (h.tgs x), Int.le_trans h.tg k.tg⟩

theorem lg_suffix {mx : Nat} : ∀ {i : Nat} {acc : Int} {l : List UInt8} {u : Int} {r : List UInt8}, lg mx i acc l = .ok u r → r <:+ l
  | _, _, [], _, _, h => by simp [lg] at h
  | i, acc, b :: l, u, r, h => by
    unfold lg at h
    split at h
    · cases h
    · split at h
      · cases h
        exact List.suffix_cons _ _
      · exact (lg_suffix h).trans (List.suffix_cons _ _)

theorem fur_ite {c : Prop} [Decidable c] {s : St} {p q : Regs × St} (hp : Fur s p.2) (hq : Fur s q.2) : Fur s (if c then p else q).2 := by split <;> assumption

theorem rd_fur (mx : Nat) (k : Int) (r : Regs) (s : St) : Fur s (rd mx k r s).2 := by
  have O : ∀ r' : Regs, Fur s ((r', { s with odd := true }) : Regs × St).2 := fun r' => ⟨List.suffix_refl _, id, Int.le_refl _⟩
  have B : ∀ r' : Regs, Fur s ((r', { s with bad := 1 }) : Regs × St).2 := fun r' => ⟨List.suffix_refl _, id, Int.le_refl _⟩
  have T : ∀ (r' : Regs) (t : List UInt8), t <:+ s.rest → Fur s ((r', { s with rest := t }) : Regs × St).2 := fun r' t h => ⟨h, id, Int.le_refl _⟩
  unfold rd
  refine fur_ite (Fur.refl s) (fur_ite ?_ (fur_ite ?_ (fur_ite ?_ (fur_ite ?_ (fur_ite (fur_ite (B r) (T _ _ (List.drop_suffix _ _))) (fur_ite (fur_ite (B r) (T _ _ (List.drop_suffix _ _))) (fur_ite ?_ (fur_ite (fur_ite (B r) (T _ _ (List.drop_suffix _ _))) (O r)))))))))
  · have h : ∀ l, l = s.rest → Fur s ((match l with | [] => (r, { s with odd := true }) | b :: t => ({ r with truth := (b.toNat : Int) == 1 }, { s with rest := t }) : Regs × St)).2 := by
      intro l hl
      cases l with
      | nil => exact O r
      | cons b t => exact T _ _ (by rw [← hl]; exact List.suffix_cons _ _)
    exact h _ rfl
  · cases hr : lg mx 0 0 s.rest with
    | ok u t => exact fur_ite (T _ _ (lg_suffix hr)) (O r)
    | eof =>
      by_cases h : s.rest.length ≤ 5
      · simp only [h, if_true]; exact B r
      · simp only [h, if_false]; exact O r
    | odd => exact O r
  · cases hr : lg mx 0 0 s.rest with
    | ok u t => exact T _ _ (lg_suffix hr)
    | eof => exact B r
    | odd => exact O r
  · cases hr : lg mx 0 0 s.rest with
    | ok u t => exact T _ _ (lg_suffix hr)
    | eof => exact B r
    | odd => exact O r
  · cases hr : lg mx 0 0 s.rest with
    | ok u t => exact fur_ite (O r) (fur_ite (B r) (T _ _ ((List.drop_suffix _ _).trans (lg_suffix hr))))
    | eof => exact B r
    | odd => exact O r

theorem note_fur (s : St) (nm : ByteArray) (tgt n : Int) (t : ByteArray) (ht : tgt ≤ s.tg) : Fur s (s.note nm tgt n t) := ⟨List.suffix_refl _, fun h m hm => by
  rcases List.mem_append.1 hm with hm | hm
  · exact h m hm
  · obtain rfl := List.mem_singleton.1 hm
    exact ht, Int.le_refl _⟩
theorem tick_fur (s : St) : Fur s s.tick := ⟨List.suffix_refl _, id, Int.le_refl _⟩
theorem enter_fur (s : St) (nm : ByteArray) (tgt n : Int) (t : ByteArray) (ht : tgt ≤ s.tg) : Fur s (s.tick.enter nm tgt n t) := ⟨List.suffix_refl _, fun h m hm => by
  show m.tg ≤ s.tg + 1
  rcases List.mem_append.1 hm with hm | hm
  · have := h m hm; omega
  · obtain rfl := List.mem_singleton.1 hm
    show tgt ≤ s.tg + 1
    omega, by show s.tg ≤ s.tg + 1; omega⟩

theorem simple_fur (mx op : Nat) (x tgt : Int) (r : Regs) (s : St) (ht : tgt ≤ s.tg) : Fur s (simple mx op x tgt r s).2 := by
  unfold simple
  split
  · exact rd_fur mx x r s
  · unfold st
    repeat' split
    all_goals first | exact note_fur _ _ _ _ _ ht | exact Fur.refl _
  all_goals (try split)
  all_goals first | exact note_fur _ _ _ _ _ ht | exact ⟨List.suffix_refl _, id, Int.le_refl _⟩

theorem lev_fur (mx : Nat) (ins : List (Nat × Int)) : ∀ (f : Nat) (r : Regs) (tgt outer field : Int) (null kind : Bool) (s : St), tgt ≤ s.tg → outer ≤ s.tg → Fur s (lev mx ins f r tgt outer field null kind s)
  | 0, _, _, _, _, _, _, s, _, _ => ⟨List.suffix_refl _, id, Int.le_refl _⟩
  | f + 1, r, tgt, outer, field, null, kind, s, h1, h2 => by
    have E : ∀ (nm : ByteArray) (n fl : Int) (t : ByteArray) (kd : Bool), Fur s (lev mx ins f r tgt outer field null kind (lev mx ins f regs0 (s.tg + 1) tgt fl false kd (s.tick.enter nm tgt n t))) := fun nm n fl t kd => by
      have e1 := enter_fur s nm tgt n t h1
      have e2 := lev_fur mx ins f regs0 (s.tg + 1) tgt fl false kd (s.tick.enter nm tgt n t) (Int.le_refl _) (by show tgt ≤ s.tg + 1; omega)
      have e3 := e1.trans e2
      exact e3.trans (lev_fur mx ins f r tgt outer field null kind _ (Int.le_trans h1 e3.tg) (Int.le_trans h2 e3.tg))
    unfold lev
    split
    · split
      · exact Fur.refl s
      · rename_i op x _
        split
        · exact ⟨List.suffix_refl _, id, Int.le_refl _⟩
        · split
          · exact E _ _ _ _ _
          · unfold St.leave
            cases null
            · exact (tick_fur s).trans (note_fur s.tick nmFinalize tgt 0 ⟨#[]⟩ h1)
            · have e1 := (tick_fur s).trans (note_fur s.tick nmFinalize tgt 0 ⟨#[]⟩ h1)
              have e2 := e1.trans (note_fur (s.tick.note nmFinalize tgt 0 ⟨#[]⟩) nmNullField outer field ⟨#[]⟩ h2)
              exact ⟨e2.rest, e2.tgs, e2.tg⟩
          · exact (tick_fur s).trans (lev_fur mx ins f _ _ _ _ _ _ _ h1 h2)
          · exact E _ _ _ _ _
          · exact E _ _ _ _ _
          · have e0 : Fur s { s.tick with pc := x } := ⟨List.suffix_refl _, id, Int.le_refl _⟩
            have e1 := e0.trans (lev_fur mx ins f regs0 tgt outer field false false { s.tick with pc := x } h1 h2)
            have e2 : Fur s { lev mx ins f regs0 tgt outer field false false { s.tick with pc := x } with pc := s.pc + 1 } := ⟨e1.rest, e1.tgs, e1.tg⟩
            exact e2.trans (lev_fur mx ins f _ _ _ _ _ _ _ (Int.le_trans h1 e2.tg) (Int.le_trans h2 e2.tg))
          · exact tick_fur s
          · exact ⟨List.suffix_refl _, id, Int.le_refl _⟩
          · have e1 := (tick_fur s).trans (lev_fur mx ins f regs0 tgt outer field false false s.tick h1 h2)
            exact e1.trans (lev_fur mx ins f _ _ _ _ _ _ _ (Int.le_trans h1 e1.tg) (Int.le_trans h2 e1.tg))
          · exact tick_fur s
          · have e1 := (tick_fur s).trans (simple_fur mx op x tgt r s.tick h1)
            exact e1.trans (lev_fur mx ins f _ _ _ _ _ _ _ (Int.le_trans h1 e1.tg) (Int.le_trans h2 e1.tg))
    · exact Fur.refl s

set_option maxRecDepth 100000 in
theorem run_bounds (l : List (Nat × Int)) (d : List UInt8) {s' : St} (h : lev 9 l 3000 regs0 0 0 (-1) false false (st0 d 3000) = s') : s'.notes.length ≤ 9000 ∧ (∀ m ∈ s'.notes, m.tg ≤ 100000) ∧ s'.rest <:+ d := by
  have hlat := lev_later 9 l 3000 regs0 0 0 (-1) false false (st0 d 3000)
  have hf := lev_fur 9 l 3000 regs0 0 0 (-1) false false (st0 d 3000) (Int.le_refl _) (Int.le_refl _)
  rw [h] at hlat hf
  have h1 := hlat.notes
  have h2 : (st0 d 3000).notes.length + 3 * (st0 d 3000).left = 9000 := rfl
  have h3 := hlat.tg
  have h4 : (st0 d 3000).tg + (st0 d 3000).left = 3000 := rfl
  refine ⟨by omega, fun m hm => ?_, hf.rest⟩
  have := hf.tgs (fun n hn => by cases hn) m hm
  omega

theorem reloc_get {n : Nat} {l : List (Nat × Int)} {i op : Nat} {x : Int} (h : (reloc n l)[i]? = some (op, x)) : ∃ x0, l[i]? = some (op, x0) ∧ x = relX n op x0 := by
  unfold reloc at h
  rw [List.getElem?_map] at h
  cases hi : l[i]? with
  | none => rw [hi] at h; cases h
  | some o =>
    rw [hi] at h
    cases h
    exact ⟨o.2, rfl, rfl⟩

theorem joins_ask {a b : List (Nat × Int)} (ha : Fit a) (hb : Fit b) (hl : 0 < a.length) {d : List UInt8} (hd : d.length ≤ 100000) : Asked (a ++ reloc a.length b) d ∧ ∀ (i : Nat) (x : Int), (a ++ reloc a.length b)[i]? = some (10, x) → x = 0 := by
  have s1 := ha.size
  have s2 := hb.size
  have hlen : (a ++ reloc a.length b).length = a.length + b.length := by unfold reloc; rw [List.length_append, List.length_map]
  have key : ∀ (i op : Nat) (x : Int), (a ++ reloc a.length b)[i]? = some (op, x) → op ≤ 22 ∧ -300 ≤ x ∧ x ≤ 110000 ∧ (op = 10 → x = 0) ∧ (op = 8 → 0 ≤ x) := by
    intro i op x h
    rw [List.getElem?_append] at h
    split at h
    · have := ha.vals i op x h
      exact ⟨this.1, this.2.1, by omega, this.2.2.2.1, this.2.2.2.2⟩
    · obtain ⟨x0, h0, rfl⟩ := reloc_get h
      have v := hb.vals _ op x0 h0
      unfold relX
      split
      · rename_i ho
        exact ⟨v.1, by omega, by omega, fun e => by omega, fun e => by omega⟩
      · exact ⟨v.1, v.2.1, by omega, v.2.2.2.1, v.2.2.2.2⟩
  exact ⟨⟨by omega, by omega, fun i op x h => by have := key i op x h; omega, fun i x h => (key i 8 x h).2.2.2.2 rfl, hd⟩, fun i x h => (key i 10 x h).2.2.2.1 rfl⟩

/-- A run of the implementation's machine, with where its notes lie. -/
theorem impl_own {w0 : World} {l : List (Nat × Int)} {iv dv : Value} {data : List UInt8} {w : World} {e0 e1 : Addr} (sl : Bool) (hR : Rn w0 l iv w) (hA : Asked l data) (hH : ∀ (i : Nat) (x : Int), l[i]? = some (10, x) → x = 0) (hD : RdB w0 dv data) (hDo : ∀ g, dv.ownBlock = some g → g < w0.heap.size) (hS : Sent w0 w0.heap.size e0 e1)
    {s' : St} (hs' : lev 9 l 3000 regs0 0 0 (-1) false false (st0 data 3000) = s') (hG : Good s') :
    Calls Tryd.prog 13 #[iv, .slice none 0 0, dv, .bool sl] w fun e w' => ∃ (v : Value) (k : Nat) (why : ByteArray), e = .returned (.tuple #[v, .int .i64 k, .string why, .bool (decide (s'.bad = 0))]) ∧ w'.ownsRow w.heap.size 47 4 v s'.notes.length (s'.notes.flatMap Note.cells) ∧ (s'.bad = 0 → k = s'.rest.length) ∧ Chg (fun _ => False) w w' := by
  refine (vmrun sl l [] data iv _ dv e0 e1 9 s' w hA hR.1 (.inl ⟨rfl, rfl⟩) (fun q s h => by simp at h) (fun i x h => by rw [hH i x h]; exact ⟨Int.le_refl _, Int.le_refl _⟩) (hD.chg hR.2.2 (fun _ _ _ e => e)) (fun g hg => Nat.lt_of_lt_of_le (hDo g hg) hR.2.2.size) (hS.keep hR.2.2) hs' hG).mono ?_
  rintro e w' ⟨v', rest', why, rfl, _, hown, hre, _, hch⟩
  exact ⟨v', rest'.length, why, rfl, hown, fun h => by rw [hre h], hch⟩

/-- The end of a slice of bytes. -/
theorem rdB_back {w : World} {b off c lo : Nat} {l r : List UInt8} (h : RdB w (.slice (some ⟨b, off, none⟩) l.length c) l) (hr : r <:+ l) (hlo : l.length = lo + r.length) : RdB w (.slice (some ⟨b, off + lo, none⟩) r.length (c - lo)) r := by
  rcases h with ⟨h, _⟩ | ⟨b', off', cap, hv, h1, h2, h3⟩
  · cases h
  · cases hv
    refine .inr ⟨b, off + lo, c - lo, rfl, by omega, by omega, fun i hi => ?_⟩
    have h4 := h3 (lo + i) (by omega)
    obtain ⟨p, rfl⟩ := hr
    rw [List.length_append] at hlo
    obtain rfl : lo = p.length := by omega
    rw [show off + p.length + i = off + (p.length + i) by omega, h4]
    congr 3
    simp only [List.getD_eq_getElem?_getD]
    rw [List.getElem?_append_right (by omega), Nat.add_sub_cancel_left]

set_option maxHeartbeats 2000000 in
set_option maxRecDepth 100000 in
/-- FnVMJoins: the law's walk. -/
theorem joins_walk (a0 : Option Addr) (n0 : Nat) (one : List UInt8) (a1 : Option Addr) (n1 : Nat) (two : List UInt8) (a2 : Option Addr) (n2 : Nat) (data : List UInt8) (sl : Bool) (e0 e1 : Addr) (w : World) (h0 : RdB w (.slice a0 one.length n0) one) (h0o : ∀ b, (Value.slice a0 one.length n0).ownBlock = some b → b < w.heap.size) (h1 : RdB w (.slice a1 two.length n1) two) (h1o : ∀ b, (Value.slice a1 two.length n1).ownBlock = some b → b < w.heap.size)
    (h2 : RdB w (.slice a2 data.length n2) data) (h2o : ∀ b, (Value.slice a2 data.length n2).ownBlock = some b → b < w.heap.size) (hS : Sent w w.heap.size e0 e1) :
    Calls Tryd.prog 5 #[.slice a0 one.length n0, .slice a1 two.length n1, .slice a2 data.length n2, .bool sl] w fun e w' => e = .returned (.bool true) ∧ Chg (fun _ => False) w w' := by
  by_cases hg : (2147483647 : Int) < (one.length : Int) ∨ (2147483647 : Int) < (two.length : Int) ∨ (2147483647 : Int) < (data.length : Int)
  · obtain ⟨m0, hm0⟩ : ∃ m, one.length = m := ⟨_, rfl⟩
    obtain ⟨m1, hm1⟩ : ∃ m, two.length = m := ⟨_, rfl⟩
    obtain ⟨m2, hm2⟩ : ∃ m, data.length = m := ⟨_, rfl⟩
    obtain ⟨c0, c0b⟩ := rdB_cap h0
    obtain ⟨c1, c1b⟩ := rdB_cap h1
    obtain ⟨c2, c2b⟩ := rdB_cap h2
    rw [hm0, hm1, hm2] at hg
    rw [hm0] at c0 ⊢
    rw [hm1] at c1 ⊢
    rw [hm2] at c2 ⊢
    clear h0 h0o h1 h1o h2 h2o hS hm0 hm1 hm2
    by_cases g0 : (2147483647 : Int) < (m0 : Int)
    · clear hg
      go_enter Tryd.func5, Tryd.ntmps5
      go_wp2
      go_ret
      exact ⟨rfl, Chg.refl _ w⟩
    · by_cases g1 : (2147483647 : Int) < (m1 : Int)
      · clear hg
        go_enter Tryd.func5, Tryd.ntmps5
        go_wp2
        go_ret
        exact ⟨rfl, Chg.refl _ w⟩
      · have g2 : (2147483647 : Int) < (m2 : Int) := by omega
        clear hg
        go_enter Tryd.func5, Tryd.ntmps5
        go_wp2
        go_ret
        exact ⟨rfl, Chg.refl _ w⟩
  obtain ⟨ctxA, _, _, hFA, _, hA0⟩ := joins_ok 1 (by decide) one
  obtain ⟨ctxB, _, _, hFB, _, hB0⟩ := joins_ok 2 (by decide) two
  have hLA := (List.getElem?_eq_some_iff.1 hA0).1
  have hLB := (List.getElem?_eq_some_iff.1 hB0).1
  have hsA := hFA.size
  have hsB := hFB.size
  obtain ⟨D, hD⟩ : ∃ D, min data.length 200 = D := ⟨_, rfl⟩
  have hDl : (data.take 200).length = D := by rw [List.length_take]; omega
  obtain ⟨X, hX⟩ : ∃ s', lev 9 (joinsOf 1 one).ins 3000 regs0 0 0 (-1) false false (st0 (data.take 200) 3000) = s' := ⟨_, rfl⟩
  obtain ⟨Y, hY⟩ : ∃ s', lev 9 (joinsOf 2 two).ins 3000 regs0 0 0 (-1) false false (st0 X.rest 3000) = s' := ⟨_, rfl⟩
  obtain ⟨Z, hZ⟩ : ∃ s', lev 9 ((joinsOf 1 one).ins ++ reloc (joinsOf 1 one).ins.length (joinsOf 2 two).ins) 3000 regs0 0 0 (-1) false false (st0 (data.take 200) 3000) = s' := ⟨_, rfl⟩
  obtain ⟨bx1, bx2, bx3⟩ := run_bounds _ _ hX
  obtain ⟨by1, by2, by3⟩ := run_bounds _ _ hY
  obtain ⟨bz1, bz2, bz3⟩ := run_bounds _ _ hZ
  have hXl := bx3.length_le
  rw [hDl] at hXl
  have law : Z.odd = false → 0 < Z.left → Good X ∧ Good Z ∧ (X.bad ≠ 0 → Z = X) ∧ (X.bad = 0 → Good Y ∧ Z.bad = Y.bad ∧ Z.rest = Y.rest ∧ Z.notes = X.notes ++ Y.notes.map (Note.shift (cnt X.notes))) := by
    intro ho hl
    obtain ⟨A, hA, g1, g2, g3, g4, g5⟩ := joins_law one two (data.take 200) Z hZ ho hl
    have e : A = X := hA.symm.trans hX
    subst e
    refine ⟨g1, g2, g4, fun hb => ?_⟩
    obtain ⟨B, hB, k1, k2, k3, k4⟩ := g5 hb
    have e : B = Y := hB.symm.trans hY
    subst e
    rw [g3] at k4
    exact ⟨k1, k2, k3, k4⟩
  obtain ⟨hAj, hHj⟩ := joins_ask hFA hFB hLA (d := data.take 200) (by omega)
  have hAa := fit_asked (data := data.take 200) hFA hLA (by omega)
  have hAb := fit_asked (data := X.rest) hFB hLB (by omega)
  have hHa : ∀ (i : Nat) (x : Int), (joinsOf 1 one).ins[i]? = some (10, x) → x = 0 := fun i x h => (hFA.vals i 10 x h).2.2.2.1 rfl
  have hHb : ∀ (i : Nat) (x : Int), (joinsOf 2 two).ins[i]? = some (10, x) → x = 0 := fun i x h => (hFB.vals i 10 x h).2.2.2.1 rfl
  have hfX : RdB w (.slice a2 D n2) (data.take 200) := hD ▸ rdB_front h2 200
  have hfo : ∀ g, (Value.slice a2 D n2).ownBlock = some g → g < w.heap.size := fun g hg => h2o g (by cases a2 with | none => simp [Value.ownBlock] at hg | some x => exact hg)
  have ha2 : (a2 = none ∧ D = 0 ∧ n2 = 0) ∨ ∃ b off, a2 = some ⟨b, off, none⟩ ∧ RdB w (.slice (some ⟨b, off + (D - X.rest.length), none⟩) X.rest.length (n2 - (D - X.rest.length))) X.rest ∧ b < w.heap.size := by
    have hf := hfX
    rcases hf with ⟨hv, _⟩ | ⟨b, off, cap, hv, _⟩
    · cases hv
      exact .inl ⟨rfl, rfl, rfl⟩
    · simp only [Value.slice.injEq] at hv
      obtain ⟨rfl, _, rfl⟩ := hv
      have hf : RdB w (.slice (some ⟨b, off, none⟩) (data.take 200).length n2) (data.take 200) := by rw [hDl]; exact hfX
      exact .inr ⟨b, off, rfl, rdB_back hf bx3 (by omega), hfo b rfl⟩
  refine joins_end a0 one.length n0 a1 two.length n1 a2 data.length n2 sl w (joinsOf 1 one) (joinsOf 2 two) (joinsOf 1 one).ins.length (joinsOf 2 two).ins.length D (by omega) (by omega) (by omega) (rdB_cap h0) (rdB_cap h1) (rdB_cap h2) ⟨hLA, by omega⟩ ⟨hLB, by omega⟩ (hid rfl) (hid rfl)
    (hid (fun i op x h => by have := hFB.vals i op x h; exact ⟨this.1, this.2.1, this.2.2.1⟩))
    (hid (fun M w' hG hB hc => make_any w.heap.size M 1 a0 n0 one w' hG hB (h0.chg hc (fun _ _ _ e => e)) h0o))
    (hid (fun M w' hG hB hc => make_any w.heap.size M 2 a1 n1 two w' hG hB (h1.chg hc (fun _ _ _ e => e)) h1o))
    (!Z.odd && decide (0 < Z.left)) (decide (X.bad = 0)) (decide (Z.bad = 0)) X.rest.length 0 Z.rest.length X.notes Y.notes Z.notes hXl (by omega) (by omega) (hid ⟨by omega, by omega, by omega⟩)
    (hid (fun w1 hc => hD ▸ data_any a2 n2 data w1 (h2.chg hc (fun _ _ _ e => e))))
    (hid (fun iv w1 hR => (spec_run hR hAj hfX hfo hZ).mono fun e w' ⟨nv, q, f, he, _, _, _, _, h3⟩ => ⟨nv, q, f, he, h3⟩))
    (hid (fun b1 iv w1 hR => (impl_own sl hR hAa hHa hfX hfo hS hX (law (good_of b1).1 (good_of b1).2).1).mono fun e w' ⟨v, k, why, he, k1, k2, k3⟩ => ⟨v, k, why, he, k1, fun h => k2 (of_decide_eq_true h), k3⟩))
    (hid (fun b1 iv w1 hR => (impl_own sl hR hAj hHj hfX hfo hS hZ (law (good_of b1).1 (good_of b1).2).2.1).mono fun e w' ⟨v, k, why, he, k1, k2, k3⟩ => ⟨v, k, why, he, k1, fun h => k2 (of_decide_eq_true h), k3⟩))
    (hid (fun w1 hc => awake_walk e0 e1 w1 (hS.keep hc))) X.rest (D - X.rest.length) (hid (by omega)) (hid rfl) (hid ha2)
    (hid (fun b1 b2 iv dv w1 hR hr ho => ?_)) (hid (fun m hm => by2 m hm)) (hid (fun b1 b2 => ?_)) (hid (fun b1 b2 => ?_))
  · have l2 := (law (good_of b1).1 (good_of b1).2).2.2.2 (of_decide_eq_true b2)
    rw [l2.2.1, l2.2.2.1]
    exact (impl_own sl hR hAb hHb hr ho hS hY l2.1).mono fun e w' ⟨v, k, why, he, k1, k2, k3⟩ => ⟨v, k, why, he, k1, fun h => k2 (of_decide_eq_true h), k3⟩
  · exact ((law (good_of b1).1 (good_of b1).2).2.2.2 (of_decide_eq_true b2)).2.2.2
  · have e := (law (good_of b1).1 (good_of b1).2).2.2.1 (of_decide_eq_false b2)
    rw [e]
    exact ⟨b2, rfl⟩
end Go.Proofs.YtkhicabfmkldpaaDoor

namespace Go.Proofs.YtkhicabfmkldpaaDoor
open Go Go.RowKit Go.ChangeShapes Go.WideShapes Go.ChangeAt

set_option maxRecDepth 100000 in
theorem joins_contract (H : Type) (enc : TypeId × Value → H) (W : World) (base : Nat) (args : Array Value) (ds gs : List (DataW H)) (before : List MemPlace)
    (hval : ∀ (j : Nat) t v, Tryd.f5.params[j]? = some t → args[j]? = some v → Value.okWide Tryd.prog W .any base t v)
    (hW : DataW.Whole enc Tryd.prog Tryd.f5.params.toList Rows.fnVMJoinsSpec.vars false W args.toList ds gs before) (hL : laidMetH Tryd.prog Rows.fnVMJoinsRow.laid W) :
    Calls Tryd.prog 5 args W fun e W' => ∃ v, e = .returned v ∧ Rows.fnVMJoinsSpec.post enc Tryd.prog Tryd.f5 false true false false W args v W' := by
  have hW' := hW
  obtain ⟨p, q, hA0, hV, rfl, hfz, hnd⟩ := hW
  have hA : DataW.TrodAll enc Tryd.prog W 0 (fun _ => true) true Tryd.f5.params.toList args.toList ds p := hA0
  rw [Tryd.params5] at hA hval
  obtain ⟨v0, vs0, d0, ds0, p0, q0, ha0, rfl, rfl, h0, r0⟩ := trodAll_cons hA
  obtain ⟨v1, vs1, d1, ds1, p1, q1, ha1, rfl, rfl, h1, r1⟩ := trodAll_cons r0
  obtain ⟨v2, vs2, d2, ds2, p2, q2, ha2, rfl, rfl, h2, r2⟩ := trodAll_cons r1
  obtain ⟨v3, vs3, d3, ds3, p3, q3, ha3, rfl, rfl, h3, r3⟩ := trodAll_cons r2
  obtain ⟨rfl, rfl, rfl⟩ := trodAll_nil r3
  obtain rfl : args = #[v0, v1, v2, v3] := by cases args; simp_all
  obtain ⟨rfl, rfl⟩ := trodVars_none hV
  obtain ⟨a0, l0, c0, rfl, hr0, ho0⟩ := open_u8s (hval 0 22 v0 rfl rfl) h0
  obtain ⟨a1, l1, c1, rfl, hr1, ho1⟩ := open_u8s (hval 1 22 v1 rfl rfl) h1
  obtain ⟨a2, l2, c2, rfl, hr2, ho2⟩ := open_u8s (hval 2 22 v2 rfl rfl) h2
  obtain ⟨b3, rfl, rfl, rfl⟩ := open_bool Tryd.underlying4 (hval 3 4 v3 rfl rfl) h3
  clear hA0
  simp only [List.append_nil] at hW'
  obtain ⟨e0, e1, hS⟩ := sent_of_laid hL
  have hlt : ∀ x ∈ p0 ++ (p1 ++ (p2 ++ ([] ++ ([])))), x.block < W.heap.size := fun x hx => by simpa using hW'.lt x (by simpa using hx)
  refine (joins_walk a0 c0 l0 a1 c1 l1 a2 c2 l2 b3 e0 e1 W  hr0 ho0 hr1 ho1 hr2 ho2 hS).mono fun e W' ⟨he, hg⟩ => ?_
  subst he
  have hb : Below W.heap.size W W' := hg.below (fun _ e => e.elim) (Nat.le_refl _)
  refine ⟨_, rfl, _, _, _, [], _, [], hW', trodAll_mk1 (shut_bool Tryd.underlying4 true), (trodAll_cons_mk (Below.trod Tryd.laidOut (by kernel_rfl) (of_decide_eq_true (by kernel_rfl)) h0 hb (fun x hx => hlt x (by simp [hx]))) (trodAll_cons_mk (Below.trod Tryd.laidOut (by kernel_rfl) (of_decide_eq_true (by kernel_rfl)) h1 hb (fun x hx => hlt x (by simp [hx]))) (trodAll_cons_mk (Below.trod Tryd.laidOut (by kernel_rfl) (of_decide_eq_true (by kernel_rfl)) h2 hb (fun x hx => hlt x (by simp [hx]))) (trodAll_cons_mk (shut_bool Tryd.underlying4 b3) trodAll_mk0)))), rfl, hb.frame _, fun h => by cases h⟩

theorem joins_reads (os : Os) {H : Type} (enc : TypeId × Value → H) : ∃ places, DataW.whole enc Tryd.prog ((laidWorld os).forCall (fun _ _ => 0) ⟨#[], #[.slice none 0 0, .slice none 0 0, .slice none 0 0, .bool false], []⟩).memory Tryd.f5.params.toList Rows.fnVMJoinsSpec.vars false #[Value.slice none 0 0, Value.slice none 0 0, Value.slice none 0 0, Value.bool false].toList 8 = some ([.nil, .nil, .nil, .lit (.bool false)], [], places) :=
  ⟨[], by kernel_rfl⟩

set_option maxRecDepth 100000 in
theorem joins_lifted (os : Os) (started : os.Started) (H : Type) (enc : TypeId × Value → H) (F : Stop.Interp) :
    ReturnsInHanded {} Tryd.checked os 5 .any ((OpenSpec.ofChange Rows.fnVMJoinsSpec).preRow enc Tryd.prog Tryd.f5 Rows.fnVMJoinsRow.domain false Rows.fnVMJoinsRow.laid) (((OpenSpec.ofChange Rows.fnVMJoinsSpec).at F).post enc Tryd.prog Tryd.f5 false true false false) := by
  obtain ⟨places, hx⟩ := joins_reads os enc
  refine returnsInHanded_of_row (C := Tryd.checked) (s := OpenSpec.ofChange Rows.fnVMJoinsSpec) Tryd.own started (by kernel_rfl) Tryd.func5
    (witness_row_atRef (enc := enc) (C := Tryd.checked) false (laidWorld os) #[.slice none 0 0, .slice none 0 0, .slice none 0 0, .bool false] rfl (by kernel_rfl) (by kernel_rfl) (by kernel_rfl)
      (OpenSpec.preRow_of_cond 8 hx (by kernel_rfl) (fun k hk => by cases hk) (by kernel_rfl) (laid_met os _))) ?_
  intro W base args ds gs before hval hW _ _ _ hL _ _
  exact joins_contract H enc W base args ds gs before hval hW hL

theorem joins_said : Rows.FnVMJoinsSaid :=
  OpenClaim.holds_of_cond 5 Tryd.f5 rfl rfl rfl rfl rfl rfl rfl ⟨rfl, rfl, rfl, rfl, rfl⟩ rfl rfl rfl rfl rfl (by kernel_rfl) Tryd.func5 (by kernel_rfl)
    (of_decide_eq_true (by kernel_rfl)) (by unfold Func.isWrapper; first | (rw [if_pos (by decide +kernel)]; kernel_rfl) | (rw [if_neg (by decide +kernel)]; exact ⟨rfl, rfl⟩))
    (fun os started H enc _ F => by rw [OpenClaim.pre_eq_preRow]; exact joins_lifted os started H enc F)

theorem joins_plain (f : FuncId) (fn : Func) (hf : Tryd.pinned.checked.prog.funcNamed "given.example/pub-tinsmith/laws.FnVMJoins" = some f) (hfn : Tryd.pinned.checked.prog.funcs[f]? = some fn) :
    true = Tryd.pinned.checked.prog.looks [] ∧ ∀ (j : Nat) t, fn.params[j]? = some t → Tryd.pinned.checked.prog.wantsStandIn t = false := by
  obtain rfl : f = 5 := Option.some.inj ((show Tryd.prog.funcNamed "given.example/pub-tinsmith/laws.FnVMJoins" = some 5 by kernel_rfl).symm.trans hf) |>.symm
  obtain rfl : fn = Tryd.f5 := (Option.some.inj (Tryd.func5.symm.trans hfn)).symm
  refine ⟨by kernel_rfl, fun j t ht => ?_⟩
  rw [Tryd.params5] at ht
  have ht : t = 22 ∨ t = 4 := by
    have := Array.mem_of_getElem? ht
    simp at this
    omega
  rcases ht with rfl | rfl
  · exact (show Tryd.prog.wantsStandIn 22 = false by kernel_rfl)
  · exact (show Tryd.prog.wantsStandIn 4 = false by kernel_rfl)

theorem joins_card : Rows.FnVMJoinsCardSaid :=
  Claim7.holds_tied_plain_at .later [] _ _ _ _ joins_said (fun _ h => by cases h) (by kernel_rfl) (fun _ h => by cases h) fnVMJoins_row_tie rfl ⟨rfl, rfl⟩ (by kernel_rfl) rfl joins_plain (by kernel_rfl)
end Go.Proofs.YtkhicabfmkldpaaDoor
