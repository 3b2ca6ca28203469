/-
  Reading some bytes: Read of the readers of impl, io.ReadAtLeast, io.ReadFull.
-/
import Derived.Test.YtkhicabfmkldpaaDoorRead
import Derived.Laws.IdiomCopy
set_option linter.unusedSimpArgs false
set_option linter.unusedVariables false
namespace Go.Proofs.YtkhicabfmkldpaaDoor
open Go.RowKit

/-- Cells in which some are set, one by one. -/
def spl : Array Value → Nat → List Value → Array Value
  | cs, _, [] => cs
  | cs, o, v :: r => spl (cs.setIfInBounds o v) (o + 1) r

theorem spl_size : ∀ (vs : List Value) (cs : Array Value) (o : Nat), (spl cs o vs).size = cs.size
  | [], _, _ => rfl
  | v :: r, cs, o => by rw [spl, spl_size r]; simp

theorem blk.setCells {b : Nat} {t : TypeId} : ∀ (vs : List Value) (w : World) (cs : Array Value) (o : Nat), blk w b cs t → blk (w.setCells b o vs) b (spl cs o vs) t
  | [], _, _, _, h => h
  | v :: r, w, cs, o, h => by
    rw [World.setCells, spl]
    exact blk.setCells r _ _ _ (h.set o v)

theorem Chg.setCells {S : Nat → Prop} {b : Nat} {w : World} (hb : S b) : ∀ (vs : List Value) (o : Nat) (w' : World), Chg S w w' → Chg S w (w'.setCells b o vs)
  | [], _, _, h => h
  | v :: r, o, w', h => by
    rw [World.setCells]
    exact Chg.setCells hb r (o + 1) _ (h.setCell (fun _ => hb) v)

def byteV (b : UInt8) : Value := .int .u8 (b.toNat : Int)

theorem byteV_one (l : List UInt8) : ∀ v ∈ l.map byteV, v.oneCell' = true := by
  intro v hv
  obtain ⟨b, _, rfl⟩ := List.mem_map.1 hv
  rfl

theorem read_end (B R : Nat) (sl : Bool) (dv : Value) (data : List UInt8) (e0 e1 : Addr) (pv : Value) (w : World) (h : RdAt w B R sl dv data []) (he : Eofs w B e0 e1) :
    Calls Tryd.prog 93 #[.pointer (some ⟨R, 0, none⟩), pv] w fun e w' => e = .returned (.tuple #[.int .i64 0, .iface 185 (.pointer (some e0))]) ∧ ∃ n, w' = w.drewN n := by
  obtain ⟨a, cap, rfl⟩ := h.rd.form
  have c0 : w.cell? ⟨R, 0, none⟩ = some (.slice a data.length cap) := h.blk.cell 0 rfl
  have c1 : w.cell? ⟨R, 1, none⟩ = some (.int .i64 data.length) := h.blk.cell 1 rfl
  have ce := he.1
  have h2 := h.small
  clear h he
  go_enter Tryd.func93, Tryd.ntmps93
  go_wp2
  go_quiet (fail)
  go_wp2
  go_quiet (fail)
  go_wp2
  go_ret2
  exact ⟨rfl, _, World.drewN_drewN _ _ _⟩

set_option maxRecDepth 100000 in
theorem read_some (B R U o m cap' : Nat) (cs : Array Value) (sl : Bool) (dv : Value) (data rest : List UInt8) (w : World) (h : RdAt w B R sl dv data rest) (hne : 0 < rest.length)
    (hU : blk w U cs 5) (ho : o + m ≤ cs.size) (hm : 0 < m) (hm2 : m ≤ 1000000) (hUR : U ≠ R) (hUB : B ≤ U) :
    Calls Tryd.prog 93 #[.pointer (some ⟨R, 0, none⟩), .slice (some ⟨U, o, none⟩) m cap'] w fun e w' => e = .returned (.tuple #[.int .i64 (rest.take m).length, .nilIface]) ∧
      RdAt w' B R sl dv data (rest.drop m) ∧ blk w' U (spl cs o ((rest.take m).map byteV)) 5 ∧ Chg (fun k => k = R ∨ k = U) w w' := by
  have H := hid h
  have hle := h.le
  have hb := h.blk
  have hsuf := h.suf
  obtain ⟨i, hi⟩ : ∃ i, data.length - rest.length = i := ⟨_, rfl⟩
  rw [hi] at hb hsuf
  have hlt : i < data.length := by omega
  obtain ⟨b, off, cap, rfl, hc1, hc2, hc3⟩ := h.rd.cells hlt
  have c0 : w.cell? ⟨R, 0, none⟩ = some (.slice (some ⟨b, off, none⟩) data.length cap) := hb.cell 0 rfl
  have c1 : w.cell? ⟨R, 1, none⟩ = some (.int .i64 i) := hb.cell 1 rfl
  have f1 : w.frozen? ⟨R, 1, none⟩ = false := hb.free 1
  have h2 := h.small
  have hbo := h.old b rfl
  have hown := h.own
  have hbR : ¬ R = b := by omega
  have hbU : ¬ U = b := by omega
  obtain ⟨n, hn⟩ : ∃ n, (rest.take m).length = n := ⟨_, rfl⟩
  have hn1 : n = min m rest.length := by rw [← hn, List.length_take]
  have hcp : ∀ (k : Nat) (ty : TypeId), (Builtin.copy_ #[22, 22] ty #[.slice (some ⟨U, o, none⟩) m cap', .slice (some ⟨b, off + i, none⟩) (data.length - i) (cap - i)]).run Tryd.prog (w.drewN k) = .ok (goInt n) ((w.drewN k).setCells U o ((rest.take m).map byteV)) := by
    intro k ty
    have := run_copy_cells (P := Tryd.prog) (w.drewN k) 22 22 ty 5 U o m cap' ⟨b, off + i, none⟩ (data.length - i) (cap - i) ((rest.take m).map byteV) Tryd.underlying22 (by kernel_rfl) (by simp [List.length_take]; rw [Nat.min_comm]; congr 1; omega)
      (fun j v hj => by
        rw [show (⟨b, off + i, none⟩ : Addr).add j = ⟨b, off + i + j, none⟩ by unfold Addr.add; split <;> simp_all]
        have hjl : j < (rest.take m).length := by
          rcases Nat.lt_or_ge j (rest.take m).length with h | h
          · exact h
          · rw [List.getElem?_eq_none (by simpa using h)] at hj; cases hj
        have hjr : j < rest.length := by rw [List.length_take] at hjl; omega
        rw [World.cell?_drewN, Nat.add_assoc, hc3 (i + j) (by omega)]
        rw [List.getElem?_map, List.getElem?_eq_getElem hjl] at hj
        simp only [Option.map_some, Option.some.injEq] at hj
        rw [← hj, List.getElem_take]
        unfold byteV
        congr 3
        rw [List.getD_eq_getElem?_getD, ← List.getElem?_drop, hsuf, List.getElem?_eq_getElem hjr]
        rfl)
      (fun j hj => by rw [World.cell?_drewN, hU.cell (o + j) (v := cs[o + j]'(by simp at hj; omega)) (by simp)]; rfl) (fun j hj => by rw [World.frozen?_drewN]; exact hU.free _) (byteV_one _)
    rw [this, List.length_map, hn]
  obtain ⟨vs, hvs⟩ : ∃ vs, (rest.take m).map byteV = vs := ⟨_, rfl⟩
  rw [hvs] at hcp
  have Hvs := hid hvs
  clear hvs
  have Hc3 := hid hc3
  have HU := hid hU
  have Hsuf := hid hsuf
  have Hi := hid hi
  have Hn := hid hn
  have Hn1 := hid hn1
  have Hb := hid hb
  have hnle : n ≤ m := by omega
  have hnle2 : n + i ≤ data.length := by omega
  clear h hc3 hU hsuf hi hn hn1 hb
  go_enter Tryd.func93, Tryd.ntmps93
  go_wp2
  go_quiet (fail)
  go_wp2
  have hi2 : i ≤ data.length := by omega
  have hci : ¬ cap = i := by omega
  refine wp_region_till (fun w' => w'.cell? ⟨R, 0, none⟩ = some (.slice (some ⟨b, off, none⟩) data.length cap) ∧ w'.cell? ⟨R, 1, none⟩ = some (.int .i64 i)) 12 (by kernel_rfl) ?_
  refine wpTill_reads 2 [0, 1, 2, 3, 4, 5, 6, 7, 8, 9] (by kernel_rfl) ?_ ?_ ?_
  · intro c a d v w h; cases d <;> exact h
  · go_simp
  iterate 10 (refine wpReads_cons (v := ?_) rfl (yieldsIf_yes rfl fun w' hw => ?_) ?_; rotate_left; (obtain ⟨h1, h2⟩ := hw; go_simp; try with_reducible rfl); try simp only [Act.put, List.setIfInBounds_toArray, List.set_cons_zero, List.set_cons_succ])
  refine wpReads_nil ?_
  simp only [listAll]
  refine wpTill_one (i := 10) (by kernel_rfl) rfl rfl ?_
  intro K hK
  go_step
  obtain ⟨w2, hw2⟩ : ∃ w2, w2 = (w.drewN (nq + 1)).setCells U o vs := ⟨_, rfl⟩
  rw [← hw2]
  have hC2 : Chg (fun k => k = U) w w2 := hw2 ▸ Chg.setCells (S := fun k => k = U) rfl _ _ _ ((Chg.refl _ _).drewN _)
  have hU2 : blk w2 U (spl cs o vs) 5 := hw2 ▸ blk.setCells _ _ _ _ (HU.out.drewN _)
  have hR2 := Hb.out.chg hC2 (by omega)
  clear hw2
  have g0 : w2.cell? ⟨R, 0, none⟩ = some (.slice (some ⟨b, off, none⟩) data.length cap) := hR2.cell 0 rfl
  have g1 : w2.cell? ⟨R, 1, none⟩ = some (.int .i64 i) := hR2.cell 1 rfl
  have gf : w2.frozen? ⟨R, 1, none⟩ = false := hR2.free 1
  have HU2 := hid hU2
  have HC2 := hid hC2
  clear hU2 hC2 hR2
  refine hK _ _ ⟨fun _ => ⟨g0, g1⟩, ?_⟩
  clear hK K
  refine wpTill_one (i := 11) (by kernel_rfl) rfl rfl ?_
  intro K hK
  go_step
  refine hK _ _ ⟨fun _ => ⟨g0, g1⟩, ?_⟩
  clear hK K
  refine wpTill_done (by kernel_rfl) ?_ _
  go_wp2
  go_ret2
  have H2 := (H.out.chg HC2.out (by omega) (fun k hk => by omega)).step (r := rest.drop m) (i := i + n) (x := (i : Int) + n) (by simp) (by rw [List.length_drop, Hn1.out, ← Hi.out]; omega)
    (by rw [show data.length - (rest.drop m).length = i + n by rw [List.length_drop, Hn1.out, ← Hi.out]; omega, ← List.drop_drop, Hsuf.out, Hn1.out]; rcases Nat.le_total m rest.length with h | h; rw [Nat.min_eq_left h]; rw [Nat.min_eq_right h, List.drop_eq_nil_of_le (Nat.le_refl _), List.drop_eq_nil_of_le h]) 0 0
  rw [Hvs.out]
  refine ⟨by rw [Hn.out]; rfl, H2.1, HU2.out.set_other (by simpa using hUR) _, ?_⟩
  exact (HC2.out.mono (fun _ _ e => .inr e)).setCell (fun _ => .inl rfl) _
end Go.Proofs.YtkhicabfmkldpaaDoor
