/-
  The maker of programs: its statements that pick an operation out of a list.
-/
import Derived.Test.YtkhicabfmkldpaaDoorMaker
set_option linter.unusedSimpArgs false
set_option linter.unusedVariables false
namespace Go.Proofs.YtkhicabfmkldpaaDoor
open Go Go.RowKit

section
variable {P : Program} {ops : Array Oper} {Q : Exit → Act → World → Prop} {md : Region.Mode} {S S' : World → Prop} {k : Nat}

/-- A stronger condition serves. -/
theorem wpTill_weaken (hSS : ∀ w, S' w → S w) : ∀ (fuel : Nat) (listed : Array Bool) (a : Act) (w : World), wpTill P md ops Q S' k fuel listed a w → wpTill P md ops Q S k fuel listed a w
  | 0, _, _, _, h => h
  | fuel + 1, _, _, _, h => ⟨h.1, fun i hi => wpOp_mono (fun a' w' h' => ⟨fun hik => hSS _ (h'.1 hik), wpTill_weaken hSS fuel _ a' w' h'.2⟩) (h.2 i hi)⟩

/-- Two operations, of which either may come up. -/
theorem wpTill_two {i j : Nat} {o o' : Oper} {fuel : Nat} {listed : Array Bool} {a : Act} {w : World} (hr : Region.ready md ops listed = [i, j]) (ho : ops[i]? = some o) (hg : o.guard = none) (ho' : ops[j]? = some o') (hg' : o'.guard = none)
    (h : ∀ K : Act → World → Prop, (∀ a' w', ((i < k → S w') ∧ wpTill P md ops Q S k fuel (listed.setIfInBounds i true) a' w') → K a' w') → o.wp P a w K Q)
    (h' : ∀ K : Act → World → Prop, (∀ a' w', ((j < k → S w') ∧ wpTill P md ops Q S k fuel (listed.setIfInBounds j true) a' w') → K a' w') → o'.wp P a w K Q) : wpTill P md ops Q S k (fuel + 1) listed a w := by
  refine ⟨fun h0 => absurd (h0 ▸ hr) (by simp), fun m hm => ?_⟩
  rw [hr] at hm
  have hm : m = i ∨ m = j := by simpa using hm
  rcases hm with rfl | rfl
  · unfold wpOp
    simp only [ho]
    rw [if_pos (by simp [Region.wanted, hg])]
    exact .inl (h _ fun _ _ q => q)
  · unfold wpOp
    simp only [ho']
    rw [if_pos (by simp [Region.wanted, hg'])]
    exact .inl (h' _ fun _ _ q => q)
end

theorem byte_fr (w0 : World) (B M P D : Nat) (d : Int) (iv0 kv0 cv iv kv : Value) (g : Gen) (w1 : World) (h : Fr w0 B M P D d iv0 kv0 w1 cv iv kv g) (hl : g.code.length ≤ 1000000) :
    Calls Tryd.prog 30 #[.pointer (some ⟨M, 0, none⟩)] w1 fun e w' => e = .returned (.int .i64 (hd g : Int)) ∧ ∃ cv', Fr w0 B M P D d iv0 kv0 w' cv' iv kv (nx g) ∧ (∀ (b i : Nat) (v : Value), b ≠ M → w1.cell? ⟨b, i, none⟩ = some v → w'.cell? ⟨b, i, none⟩ = some v) ∧ w1.heap.size ≤ w'.heap.size := by
  refine (byte_any B M cv iv kv g w1 h.at' hl).mono ?_
  rintro e w' ⟨rfl, cv', q1, q2⟩
  refine ⟨rfl, cv', h.byte q1 q2, fun b i v hb hv => ?_, q2.size⟩
  rw [cell_of (q2.block b (World.block_lt_of_cell? w1 _ hv) hb)]
  exact hv

theorem put_fr (w0 : World) (B M P D : Nat) (d : Int) (iv0 kv0 cv iv kv : Value) (g : Gen) (op : Nat) (x : Int) (w1 : World) (h : Fr w0 B M P D d iv0 kv0 w1 cv iv kv g) (hl : g.ins.length ≤ 1000000) :
    Calls Tryd.prog 18 #[.pointer (some ⟨M, 0, none⟩), .int .i64 (op : Int), .int .i64 x] w1 fun e w' => e = .returned (.tuple #[]) ∧ ∃ iv', Fr w0 B M P D d iv0 kv0 w' cv iv' kv (put g op x) := by
  refine (put_any B M cv iv kv g op x w1 h.at' hl).mono ?_
  rintro e w' ⟨rfl, iv', q1, q2, q3⟩
  exact ⟨rfl, iv', h.put q1 q2 q3⟩

theorem put_fr2 (w0 : World) (B M P D : Nat) (d : Int) (iv0 kv0 cv iv kv : Value) (g : Gen) (op : Nat) (x : Int) (w1 : World) (h : Fr w0 B M P D d iv0 kv0 w1 cv iv kv g) (hl : g.ins.length ≤ 1000000) (b i : Nat) (v : Int) (hv : w1.cell? ⟨b, i, none⟩ = some (.int .i64 v)) (hb : b ≠ M) (hbi : iv.ownBlock ≠ some b) :
    Calls Tryd.prog 18 #[.pointer (some ⟨M, 0, none⟩), .int .i64 (op : Int), .int .i64 x] w1 fun e w' => e = .returned (.tuple #[]) ∧ ∃ iv', Fr w0 B M P D d iv0 kv0 w' cv iv' kv (put g op x) ∧ w'.cell? ⟨b, i, none⟩ = some (.int .i64 v) := by
  refine (put_any B M cv iv kv g op x w1 h.at' hl).mono ?_
  rintro e w' ⟨rfl, iv', q1, q2, q3⟩
  refine ⟨rfl, iv', h.put q1 q2 q3, ?_⟩
  rw [cell_of (q3.block b (World.block_lt_of_cell? w1 _ hv) (fun e => e.elim hb hbi))]
  exact hv

set_option maxRecDepth 100000 in
set_option maxHeartbeats 2000000 in
theorem stm_10 (B M : Nat) (cv iv kv : Value) (g : Gen) (n : Nat) (d : Int) (hd2 : ¬ 3 ≤ d) (hd0 : 0 ≤ d) (w : World) (h : GenAt w B M cv iv kv g) (hB : B ≤ w.heap.size) (hS : Szd g (n + 8)) (hc : hd g % 16 = 10) (m : Nat) (hm : hd (nx g) % 4 = m) (z : Nat) (hz' : hd (nx (nx g)) % 9 = z) :
    Calls Tryd.prog 23 #[.pointer (some ⟨M, 0, none⟩), .int .i64 d] w fun e w' => e = .returned (.tuple #[]) ∧ GenTo B M iv kv (put (nx (nx (nx g))) (longOps.getD m 0) ((z : Int) - 3)) w w' := by
  have hF := hid (Fr.start (d := d) h hB)
  have e1 : (hd g : Int).tmod 16 = 10 := by rw [Int.tmod_eq_emod_of_nonneg (by omega)]; omega
  have hm4 : m < 4 := by omega
  have hm4i : (m : Int) < 4 := by omega
  have e2 : (hd (nx g) : Int).tmod 4 = (m : Int) := by rw [← hm]; exact tmod_nat _ 4
  have bz : z < 9 := by omega
  have tz : (hd (nx (nx g)) : Int).tmod 9 = (z : Int) := by rw [← hz']; exact tmod_nat _ 9
  have z0 : Szd (nx g) (n + 8) := hS.nx
  have z1 : Szd (nx (nx g)) (n + 8) := z0.nx
  have z2 : Szd (nx (nx (nx g))) (n + 8) := z1.nx
  have hel : ∀ w : World, (w.alloc (.cells #[.int .i64 15, .int .i64 16, .int .i64 17, .int .i64 18] 3)).cell? ⟨w.heap.size, m, none⟩ = some (.int .i64 ((longOps.getD m 0 : Nat) : Int)) := by
    intro w
    refine (blk_new w #[.int .i64 15, .int .i64 16, .int .i64 17, .int .i64 18] 3).cell m ?_
    match m, hm4 with
    | 0, _ => rfl
    | 1, _ => rfl
    | 2, _ => rfl
    | 3, _ => rfl
  obtain ⟨op, hop⟩ : ∃ op, longOps.getD m 0 = op := ⟨_, rfl⟩
  rw [hop]
  simp only [hop] at hel
  have Hel := hid hel
  clear h hc hz' hm hop hel
  go_enter Tryd.func23, Tryd.ntmps23
  go_wp2_with (go_at_call 30; refine (byte_fr w B M w.heap.size (w.heap.size + 1) d iv kv cv iv kv g _ hF.out hS.c).mono ?_; rintro e w1 ⟨rfl, cv1, hF1, hk1, hs1⟩; have cP := hF1.cP; have cD := hF1.cD; have lM := hF1.at'.m.lt; replace hF1 := hid hF1; clear hk1)
  have hF1D := hid hF1.out.drew
  refine wp_region_till (fun w' => w'.cell? ⟨w.heap.size, 0, none⟩ = some (.pointer (some ⟨M, 0, none⟩))) 12 (by kernel_rfl) ?_
  refine wpTill_reads 9 [0, 2, 7] (by kernel_rfl) ?_ ?_ ?_
  · intro c a d v w h; cases d <;> exact h
  · exact cP
  iterate 3 (refine wpReads_cons (v := ?_) rfl (yieldsIf_yes rfl fun w' hw => ?_) ?_; rotate_left; (first | (go_simp; done) | (go_simp; exact rfl)); simp only [Act.put, List.setIfInBounds_toArray, List.set_cons_zero, List.set_cons_succ, List.getElem_toArray, List.getElem_cons_zero, List.getElem_cons_succ])
  refine wpReads_nil ?_
  simp only [listAll]
  refine wpTill_two (i := 1) (j := 3) (by kernel_rfl) rfl rfl rfl rfl ?_ ?_
  · intro K hK
    go_step
    obtain ⟨wA, hwA⟩ : ∃ wA, (w1.alloc (.cells #[.int .i64 15, .int .i64 16, .int .i64 17, .int .i64 18] 3)).drew = wA := ⟨_, rfl⟩
    rw [hwA]
    have hFA := hid (show Fr w B M w.heap.size (w.heap.size + 1) d iv kv wA _ _ _ _ from hwA ▸ (hF1.out.alloc _).drew)
    have cEA : wA.cell? ⟨w1.heap.size, m, none⟩ = some (.int .i64 (op : Int)) := by rw [← hwA]; exact Hel.out w1
    have hbM : w1.heap.size ≠ M := by omega
    have hbi : iv.ownBlock ≠ some w1.heap.size := fun e => by have := (hF1.out.at'.ins.lt _ e).2; omega
    obtain ⟨b, hb⟩ : ∃ b, w1.heap.size = b := ⟨_, rfl⟩
    rw [hb] at cEA hbM hbi
    refine hK _ _ ⟨fun _ => hFA.out.cP, ?_⟩
    try rw [hb]
    refine wpTill_weaken (S' := fun w' => w'.cell? ⟨w.heap.size, 0, none⟩ = some (.pointer (some ⟨M, 0, none⟩)) ∧ w'.cell? ⟨b, m, none⟩ = some (.int .i64 (op : Int))) (fun _ h => h.1) _ _ _ _ ?_
    refine wpTill_one (i := 3) (by kernel_rfl) rfl rfl ?_
    intro K2 hK2
    go_step
    (go_at_call 30; refine (byte_fr w B M w.heap.size (w.heap.size + 1) d iv kv cv1 iv kv (nx g) _ hFA.out z0.c).mono ?_; rintro e w2 ⟨rfl, cv2, hF2, hk2, hs2⟩; have lM2 := hF2.at'.m.lt; have cE2 : w2.cell? ⟨b, m, none⟩ = some (.int .i64 (op : Int)) := hk2 _ _ _ hbM cEA; replace hF2 := hid hF2; clear hk2)
    refine hK2 _ _ ⟨fun _ => ⟨hF2.out.cP, cE2⟩, ?_⟩
    refine wpTill_reads 4 [4, 5, 6] (by kernel_rfl) ?_ ?_ ?_
    · intro c a d v w h; cases d <;> exact h
    · exact ⟨hF2.out.cP, cE2⟩
    iterate 3 (refine wpReads_cons (v := ?_) rfl (yieldsIf_yes rfl fun w' hw => ?_) ?_; rotate_left; (obtain ⟨hw1, hw2⟩ := hw; first | (go_simp; done) | (go_simp; exact rfl) | (go_simp; exact if_pos hm4i)); simp only [Act.put, List.setIfInBounds_toArray, List.set_cons_zero, List.set_cons_succ, List.getElem_toArray, List.getElem_cons_zero, List.getElem_cons_succ])
    refine wpReads_nil ?_
    simp only [listAll]
    refine wpTill_one (i := 8) (by kernel_rfl) rfl rfl ?_
    intro K3 hK3
    go_step
    (go_at_call 30; refine (byte_fr w B M w.heap.size (w.heap.size + 1) d iv kv cv2 iv kv (nx (nx g)) _ hF2.out z1.c).mono ?_; rintro e w3 ⟨rfl, cv3, hF3, hk3, hs3⟩; have lM3 := hF3.at'.m.lt; have cE3 : w3.cell? ⟨b, m, none⟩ = some (.int .i64 (op : Int)) := hk3 _ _ _ hbM cE2; replace hF3 := hid hF3; clear hk3)
    refine hK3 _ _ ⟨fun _ => ⟨hF3.out.cP, cE3⟩, ?_⟩
    refine wpTill_reads 1 [9, 10] (by kernel_rfl) ?_ ?_ ?_
    · intro c a d v w h; cases d <;> exact h
    · exact ⟨hF3.out.cP, cE3⟩
    iterate 2 (refine wpReads_cons (v := ?_) rfl (yieldsIf_yes rfl fun w' hw => ?_) ?_; rotate_left; (obtain ⟨hw1, hw2⟩ := hw; first | (go_simp; done) | (go_simp; exact rfl) | (go_simp; exact if_pos hm4i)); simp only [Act.put, List.setIfInBounds_toArray, List.set_cons_zero, List.set_cons_succ, List.getElem_toArray, List.getElem_cons_zero, List.getElem_cons_succ])
    refine wpReads_nil ?_
    simp only [listAll]
    refine wpTill_one (i := 11) (by kernel_rfl) rfl rfl ?_
    intro K4 hK4
    go_step
    (go_at_call 18; refine (put_fr2 w B M w.heap.size (w.heap.size + 1) d iv kv cv3 iv kv (nx (nx (nx g))) op ((z : Int) - 3) _ hF3.out z2.i b m (op : Int) cE3 hbM hbi).mono ?_; rintro e w9 ⟨rfl, iv9, hF9, hkp⟩; replace hF9 := hid hF9)
    refine hK4 _ _ ⟨fun _ => ⟨hF9.out.cP, hkp⟩, wpTill_done (by kernel_rfl) ?_ _⟩
    go_wp2
    go_end0
    exact ⟨rfl, hF9.out.to⟩
  · intro K hK
    go_step
    (go_at_call 30; refine (byte_fr w B M w.heap.size (w.heap.size + 1) d iv kv cv1 iv kv (nx g) _ hF1D.out z0.c).mono ?_; rintro e w2 ⟨rfl, cv2, hF2, hk2, hs2⟩; have lM2 := hF2.at'.m.lt; replace hF2 := hid hF2; clear hk2)
    refine hK _ _ ⟨fun _ => hF2.out.cP, ?_⟩
    refine wpTill_reads 7 [4] (by kernel_rfl) ?_ ?_ ?_
    · intro c a d v w h; cases d <;> exact h
    · exact hF2.out.cP
    iterate 1 (refine wpReads_cons (v := ?_) rfl (yieldsIf_yes rfl fun w' hw => ?_) ?_; rotate_left; (first | (go_simp; done) | (go_simp; exact rfl) | (go_simp; exact if_pos hm4i)); simp only [Act.put, List.setIfInBounds_toArray, List.set_cons_zero, List.set_cons_succ, List.getElem_toArray, List.getElem_cons_zero, List.getElem_cons_succ])
    refine wpReads_nil ?_
    simp only [listAll]
    refine wpTill_two (i := 1) (j := 8) (by kernel_rfl) rfl rfl rfl rfl ?_ ?_
    · intro K5 hK5
      go_step
      obtain ⟨wA, hwA⟩ : ∃ wA, (w2.alloc (.cells #[.int .i64 15, .int .i64 16, .int .i64 17, .int .i64 18] 3)) = wA := ⟨_, rfl⟩
      rw [hwA]
      have hFA := hid (show Fr w B M w.heap.size (w.heap.size + 1) d iv kv wA _ _ _ _ from hwA ▸ (hF2.out.alloc _))
      have cEA : wA.cell? ⟨w2.heap.size, m, none⟩ = some (.int .i64 (op : Int)) := by rw [← hwA]; exact Hel.out w2
      have hbM : w2.heap.size ≠ M := by omega
      have hbi : iv.ownBlock ≠ some w2.heap.size := fun e => by have := (hF2.out.at'.ins.lt _ e).2; omega
      obtain ⟨b, hb⟩ : ∃ b, w2.heap.size = b := ⟨_, rfl⟩
      rw [hb] at cEA hbM hbi
      refine hK5 _ _ ⟨fun _ => hFA.out.cP, ?_⟩
      try rw [hb]
      refine wpTill_weaken (S' := fun w' => w'.cell? ⟨w.heap.size, 0, none⟩ = some (.pointer (some ⟨M, 0, none⟩)) ∧ w'.cell? ⟨b, m, none⟩ = some (.int .i64 (op : Int))) (fun _ h => h.1) _ _ _ _ ?_
      refine wpTill_reads 4 [5, 6] (by kernel_rfl) ?_ ?_ ?_
      · intro c a d v w h; cases d <;> exact h
      · exact ⟨hFA.out.cP, cEA⟩
      iterate 2 (refine wpReads_cons (v := ?_) rfl (yieldsIf_yes rfl fun w' hw => ?_) ?_; rotate_left; (obtain ⟨hw1, hw2⟩ := hw; first | (go_simp; done) | (go_simp; exact rfl) | (go_simp; exact if_pos hm4i)); simp only [Act.put, List.setIfInBounds_toArray, List.set_cons_zero, List.set_cons_succ, List.getElem_toArray, List.getElem_cons_zero, List.getElem_cons_succ])
      refine wpReads_nil ?_
      simp only [listAll]
      refine wpTill_one (i := 8) (by kernel_rfl) rfl rfl ?_
      intro K6 hK6
      go_step
      (go_at_call 30; refine (byte_fr w B M w.heap.size (w.heap.size + 1) d iv kv cv2 iv kv (nx (nx g)) _ hFA.out z1.c).mono ?_; rintro e w3 ⟨rfl, cv3, hF3, hk3, hs3⟩; have lM3 := hF3.at'.m.lt; have cE3 : w3.cell? ⟨b, m, none⟩ = some (.int .i64 (op : Int)) := hk3 _ _ _ hbM cEA; replace hF3 := hid hF3; clear hk3)
      refine hK6 _ _ ⟨fun _ => ⟨hF3.out.cP, cE3⟩, ?_⟩
      refine wpTill_reads 1 [9, 10] (by kernel_rfl) ?_ ?_ ?_
      · intro c a d v w h; cases d <;> exact h
      · exact ⟨hF3.out.cP, cE3⟩
      iterate 2 (refine wpReads_cons (v := ?_) rfl (yieldsIf_yes rfl fun w' hw => ?_) ?_; rotate_left; (obtain ⟨hw1, hw2⟩ := hw; first | (go_simp; done) | (go_simp; exact rfl) | (go_simp; exact if_pos hm4i)); simp only [Act.put, List.setIfInBounds_toArray, List.set_cons_zero, List.set_cons_succ, List.getElem_toArray, List.getElem_cons_zero, List.getElem_cons_succ])
      refine wpReads_nil ?_
      simp only [listAll]
      refine wpTill_one (i := 11) (by kernel_rfl) rfl rfl ?_
      intro K7 hK7
      go_step
      (go_at_call 18; refine (put_fr2 w B M w.heap.size (w.heap.size + 1) d iv kv cv3 iv kv (nx (nx (nx g))) op ((z : Int) - 3) _ hF3.out z2.i b m (op : Int) cE3 hbM hbi).mono ?_; rintro e w9 ⟨rfl, iv9, hF9, hkp⟩; replace hF9 := hid hF9)
      refine hK7 _ _ ⟨fun _ => ⟨hF9.out.cP, hkp⟩, wpTill_done (by kernel_rfl) ?_ _⟩
      go_wp2
      go_end0
      exact ⟨rfl, hF9.out.to⟩
    · intro K5 hK5
      go_step
      (go_at_call 30; refine (byte_fr w B M w.heap.size (w.heap.size + 1) d iv kv cv2 iv kv (nx (nx g)) _ hF2.out z1.c).mono ?_; rintro e w3 ⟨rfl, cv3, hF3, hk3, hs3⟩; have lM3 := hF3.at'.m.lt; replace hF3 := hid hF3; clear hk3)
      refine hK5 _ _ ⟨fun _ => hF3.out.cP, ?_⟩
      refine wpTill_reads 4 [9, 10] (by kernel_rfl) ?_ ?_ ?_
      · intro c a d v w h; cases d <;> exact h
      · exact hF3.out.cP
      iterate 2 (refine wpReads_cons (v := ?_) rfl (yieldsIf_yes rfl fun w' hw => ?_) ?_; rotate_left; (first | (go_simp; done) | (go_simp; exact rfl) | (go_simp; exact if_pos hm4i)); simp only [Act.put, List.setIfInBounds_toArray, List.set_cons_zero, List.set_cons_succ, List.getElem_toArray, List.getElem_cons_zero, List.getElem_cons_succ])
      refine wpReads_nil ?_
      simp only [listAll]
      refine wpTill_one (i := 1) (by kernel_rfl) rfl rfl ?_
      intro K6 hK6
      go_step
      obtain ⟨wA, hwA⟩ : ∃ wA, (w3.alloc (.cells #[.int .i64 15, .int .i64 16, .int .i64 17, .int .i64 18] 3)) = wA := ⟨_, rfl⟩
      rw [hwA]
      have hFA := hid (show Fr w B M w.heap.size (w.heap.size + 1) d iv kv wA _ _ _ _ from hwA ▸ (hF3.out.alloc _))
      have cEA : wA.cell? ⟨w3.heap.size, m, none⟩ = some (.int .i64 (op : Int)) := by rw [← hwA]; exact Hel.out w3
      have hbM : w3.heap.size ≠ M := by omega
      have hbi : iv.ownBlock ≠ some w3.heap.size := fun e => by have := (hF3.out.at'.ins.lt _ e).2; omega
      obtain ⟨b, hb⟩ : ∃ b, w3.heap.size = b := ⟨_, rfl⟩
      rw [hb] at cEA hbM hbi
      refine hK6 _ _ ⟨fun _ => hFA.out.cP, ?_⟩
      try rw [hb]
      refine wpTill_weaken (S' := fun w' => w'.cell? ⟨w.heap.size, 0, none⟩ = some (.pointer (some ⟨M, 0, none⟩)) ∧ w'.cell? ⟨b, m, none⟩ = some (.int .i64 (op : Int))) (fun _ h => h.1) _ _ _ _ ?_
      refine wpTill_reads 1 [5, 6] (by kernel_rfl) ?_ ?_ ?_
      · intro c a d v w h; cases d <;> exact h
      · exact ⟨hFA.out.cP, cEA⟩
      iterate 2 (refine wpReads_cons (v := ?_) rfl (yieldsIf_yes rfl fun w' hw => ?_) ?_; rotate_left; (obtain ⟨hw1, hw2⟩ := hw; first | (go_simp; done) | (go_simp; exact rfl) | (go_simp; exact if_pos hm4i)); simp only [Act.put, List.setIfInBounds_toArray, List.set_cons_zero, List.set_cons_succ, List.getElem_toArray, List.getElem_cons_zero, List.getElem_cons_succ])
      refine wpReads_nil ?_
      simp only [listAll]
      refine wpTill_one (i := 11) (by kernel_rfl) rfl rfl ?_
      intro K7 hK7
      go_step
      (go_at_call 18; refine (put_fr2 w B M w.heap.size (w.heap.size + 1) d iv kv cv3 iv kv (nx (nx (nx g))) op ((z : Int) - 3) _ hFA.out z2.i b m (op : Int) cEA hbM hbi).mono ?_; rintro e w9 ⟨rfl, iv9, hF9, hkp⟩; replace hF9 := hid hF9)
      refine hK7 _ _ ⟨fun _ => ⟨hF9.out.cP, hkp⟩, wpTill_done (by kernel_rfl) ?_ _⟩
      go_wp2
      go_end0
      exact ⟨rfl, hF9.out.to⟩
set_option maxRecDepth 100000 in
set_option maxHeartbeats 2000000 in
theorem stm_11 (B M : Nat) (cv iv kv : Value) (g : Gen) (n : Nat) (d : Int) (hd2 : ¬ 3 ≤ d) (hd0 : 0 ≤ d) (w : World) (h : GenAt w B M cv iv kv g) (hB : B ≤ w.heap.size) (hS : Szd g (n + 8)) (hc : hd g % 16 = 11) (m : Nat) (hm : hd (nx g) % 4 = m) (z : Nat) (hz' : hd (nx (nx g)) % 6 = z) :
    Calls Tryd.prog 23 #[.pointer (some ⟨M, 0, none⟩), .int .i64 d] w fun e w' => e = .returned (.tuple #[]) ∧ GenTo B M iv kv (put (nx (nx (nx g))) (setOps.getD m 0) (z : Int)) w w' := by
  have hF := hid (Fr.start (d := d) h hB)
  have e1 : (hd g : Int).tmod 16 = 11 := by rw [Int.tmod_eq_emod_of_nonneg (by omega)]; omega
  have hm4 : m < 4 := by omega
  have hm4i : (m : Int) < 4 := by omega
  have e2 : (hd (nx g) : Int).tmod 4 = (m : Int) := by rw [← hm]; exact tmod_nat _ 4
  have bz : z < 6 := by omega
  have tz : (hd (nx (nx g)) : Int).tmod 6 = (z : Int) := by rw [← hz']; exact tmod_nat _ 6
  have z0 : Szd (nx g) (n + 8) := hS.nx
  have z1 : Szd (nx (nx g)) (n + 8) := z0.nx
  have z2 : Szd (nx (nx (nx g))) (n + 8) := z1.nx
  have hel : ∀ w : World, (w.alloc (.cells #[.int .i64 7, .int .i64 21, .int .i64 22, .int .i64 1] 3)).cell? ⟨w.heap.size, m, none⟩ = some (.int .i64 ((setOps.getD m 0 : Nat) : Int)) := by
    intro w
    refine (blk_new w #[.int .i64 7, .int .i64 21, .int .i64 22, .int .i64 1] 3).cell m ?_
    match m, hm4 with
    | 0, _ => rfl
    | 1, _ => rfl
    | 2, _ => rfl
    | 3, _ => rfl
  obtain ⟨op, hop⟩ : ∃ op, setOps.getD m 0 = op := ⟨_, rfl⟩
  rw [hop]
  simp only [hop] at hel
  have Hel := hid hel
  clear h hc hz' hm hop hel
  go_enter Tryd.func23, Tryd.ntmps23
  go_wp2_with (go_at_call 30; refine (byte_fr w B M w.heap.size (w.heap.size + 1) d iv kv cv iv kv g _ hF.out hS.c).mono ?_; rintro e w1 ⟨rfl, cv1, hF1, hk1, hs1⟩; have cP := hF1.cP; have cD := hF1.cD; have lM := hF1.at'.m.lt; replace hF1 := hid hF1; clear hk1)
  have hF1D := hid hF1.out.drew
  refine wp_region_till (fun w' => w'.cell? ⟨w.heap.size, 0, none⟩ = some (.pointer (some ⟨M, 0, none⟩))) 11 (by kernel_rfl) ?_
  refine wpTill_reads 8 [0, 2, 7] (by kernel_rfl) ?_ ?_ ?_
  · intro c a d v w h; cases d <;> exact h
  · exact cP
  iterate 3 (refine wpReads_cons (v := ?_) rfl (yieldsIf_yes rfl fun w' hw => ?_) ?_; rotate_left; (first | (go_simp; done) | (go_simp; exact rfl)); simp only [Act.put, List.setIfInBounds_toArray, List.set_cons_zero, List.set_cons_succ, List.getElem_toArray, List.getElem_cons_zero, List.getElem_cons_succ])
  refine wpReads_nil ?_
  simp only [listAll]
  refine wpTill_two (i := 1) (j := 3) (by kernel_rfl) rfl rfl rfl rfl ?_ ?_
  · intro K hK
    go_step
    obtain ⟨wA, hwA⟩ : ∃ wA, (w1.alloc (.cells #[.int .i64 7, .int .i64 21, .int .i64 22, .int .i64 1] 3)).drew = wA := ⟨_, rfl⟩
    rw [hwA]
    have hFA := hid (show Fr w B M w.heap.size (w.heap.size + 1) d iv kv wA _ _ _ _ from hwA ▸ (hF1.out.alloc _).drew)
    have cEA : wA.cell? ⟨w1.heap.size, m, none⟩ = some (.int .i64 (op : Int)) := by rw [← hwA]; exact Hel.out w1
    have hbM : w1.heap.size ≠ M := by omega
    have hbi : iv.ownBlock ≠ some w1.heap.size := fun e => by have := (hF1.out.at'.ins.lt _ e).2; omega
    obtain ⟨b, hb⟩ : ∃ b, w1.heap.size = b := ⟨_, rfl⟩
    rw [hb] at cEA hbM hbi
    refine hK _ _ ⟨fun _ => hFA.out.cP, ?_⟩
    try rw [hb]
    refine wpTill_weaken (S' := fun w' => w'.cell? ⟨w.heap.size, 0, none⟩ = some (.pointer (some ⟨M, 0, none⟩)) ∧ w'.cell? ⟨b, m, none⟩ = some (.int .i64 (op : Int))) (fun _ h => h.1) _ _ _ _ ?_
    refine wpTill_one (i := 3) (by kernel_rfl) rfl rfl ?_
    intro K2 hK2
    go_step
    (go_at_call 30; refine (byte_fr w B M w.heap.size (w.heap.size + 1) d iv kv cv1 iv kv (nx g) _ hFA.out z0.c).mono ?_; rintro e w2 ⟨rfl, cv2, hF2, hk2, hs2⟩; have lM2 := hF2.at'.m.lt; have cE2 : w2.cell? ⟨b, m, none⟩ = some (.int .i64 (op : Int)) := hk2 _ _ _ hbM cEA; replace hF2 := hid hF2; clear hk2)
    refine hK2 _ _ ⟨fun _ => ⟨hF2.out.cP, cE2⟩, ?_⟩
    refine wpTill_reads 3 [4, 5, 6] (by kernel_rfl) ?_ ?_ ?_
    · intro c a d v w h; cases d <;> exact h
    · exact ⟨hF2.out.cP, cE2⟩
    iterate 3 (refine wpReads_cons (v := ?_) rfl (yieldsIf_yes rfl fun w' hw => ?_) ?_; rotate_left; (obtain ⟨hw1, hw2⟩ := hw; first | (go_simp; done) | (go_simp; exact rfl) | (go_simp; exact if_pos hm4i)); simp only [Act.put, List.setIfInBounds_toArray, List.set_cons_zero, List.set_cons_succ, List.getElem_toArray, List.getElem_cons_zero, List.getElem_cons_succ])
    refine wpReads_nil ?_
    simp only [listAll]
    refine wpTill_one (i := 8) (by kernel_rfl) rfl rfl ?_
    intro K3 hK3
    go_step
    (go_at_call 30; refine (byte_fr w B M w.heap.size (w.heap.size + 1) d iv kv cv2 iv kv (nx (nx g)) _ hF2.out z1.c).mono ?_; rintro e w3 ⟨rfl, cv3, hF3, hk3, hs3⟩; have lM3 := hF3.at'.m.lt; have cE3 : w3.cell? ⟨b, m, none⟩ = some (.int .i64 (op : Int)) := hk3 _ _ _ hbM cE2; replace hF3 := hid hF3; clear hk3)
    refine hK3 _ _ ⟨fun _ => ⟨hF3.out.cP, cE3⟩, ?_⟩
    refine wpTill_reads 1 [9] (by kernel_rfl) ?_ ?_ ?_
    · intro c a d v w h; cases d <;> exact h
    · exact ⟨hF3.out.cP, cE3⟩
    iterate 1 (refine wpReads_cons (v := ?_) rfl (yieldsIf_yes rfl fun w' hw => ?_) ?_; rotate_left; (obtain ⟨hw1, hw2⟩ := hw; first | (go_simp; done) | (go_simp; exact rfl) | (go_simp; exact if_pos hm4i)); simp only [Act.put, List.setIfInBounds_toArray, List.set_cons_zero, List.set_cons_succ, List.getElem_toArray, List.getElem_cons_zero, List.getElem_cons_succ])
    refine wpReads_nil ?_
    simp only [listAll]
    refine wpTill_one (i := 10) (by kernel_rfl) rfl rfl ?_
    intro K4 hK4
    go_step
    (go_at_call 18; refine (put_fr2 w B M w.heap.size (w.heap.size + 1) d iv kv cv3 iv kv (nx (nx (nx g))) op (z : Int) _ hF3.out z2.i b m (op : Int) cE3 hbM hbi).mono ?_; rintro e w9 ⟨rfl, iv9, hF9, hkp⟩; replace hF9 := hid hF9)
    refine hK4 _ _ ⟨fun _ => ⟨hF9.out.cP, hkp⟩, wpTill_done (by kernel_rfl) ?_ _⟩
    go_wp2
    go_end0
    exact ⟨rfl, hF9.out.to⟩
  · intro K hK
    go_step
    (go_at_call 30; refine (byte_fr w B M w.heap.size (w.heap.size + 1) d iv kv cv1 iv kv (nx g) _ hF1D.out z0.c).mono ?_; rintro e w2 ⟨rfl, cv2, hF2, hk2, hs2⟩; have lM2 := hF2.at'.m.lt; replace hF2 := hid hF2; clear hk2)
    refine hK _ _ ⟨fun _ => hF2.out.cP, ?_⟩
    refine wpTill_reads 6 [4] (by kernel_rfl) ?_ ?_ ?_
    · intro c a d v w h; cases d <;> exact h
    · exact hF2.out.cP
    iterate 1 (refine wpReads_cons (v := ?_) rfl (yieldsIf_yes rfl fun w' hw => ?_) ?_; rotate_left; (first | (go_simp; done) | (go_simp; exact rfl) | (go_simp; exact if_pos hm4i)); simp only [Act.put, List.setIfInBounds_toArray, List.set_cons_zero, List.set_cons_succ, List.getElem_toArray, List.getElem_cons_zero, List.getElem_cons_succ])
    refine wpReads_nil ?_
    simp only [listAll]
    refine wpTill_two (i := 1) (j := 8) (by kernel_rfl) rfl rfl rfl rfl ?_ ?_
    · intro K5 hK5
      go_step
      obtain ⟨wA, hwA⟩ : ∃ wA, (w2.alloc (.cells #[.int .i64 7, .int .i64 21, .int .i64 22, .int .i64 1] 3)) = wA := ⟨_, rfl⟩
      rw [hwA]
      have hFA := hid (show Fr w B M w.heap.size (w.heap.size + 1) d iv kv wA _ _ _ _ from hwA ▸ (hF2.out.alloc _))
      have cEA : wA.cell? ⟨w2.heap.size, m, none⟩ = some (.int .i64 (op : Int)) := by rw [← hwA]; exact Hel.out w2
      have hbM : w2.heap.size ≠ M := by omega
      have hbi : iv.ownBlock ≠ some w2.heap.size := fun e => by have := (hF2.out.at'.ins.lt _ e).2; omega
      obtain ⟨b, hb⟩ : ∃ b, w2.heap.size = b := ⟨_, rfl⟩
      rw [hb] at cEA hbM hbi
      refine hK5 _ _ ⟨fun _ => hFA.out.cP, ?_⟩
      try rw [hb]
      refine wpTill_weaken (S' := fun w' => w'.cell? ⟨w.heap.size, 0, none⟩ = some (.pointer (some ⟨M, 0, none⟩)) ∧ w'.cell? ⟨b, m, none⟩ = some (.int .i64 (op : Int))) (fun _ h => h.1) _ _ _ _ ?_
      refine wpTill_reads 3 [5, 6] (by kernel_rfl) ?_ ?_ ?_
      · intro c a d v w h; cases d <;> exact h
      · exact ⟨hFA.out.cP, cEA⟩
      iterate 2 (refine wpReads_cons (v := ?_) rfl (yieldsIf_yes rfl fun w' hw => ?_) ?_; rotate_left; (obtain ⟨hw1, hw2⟩ := hw; first | (go_simp; done) | (go_simp; exact rfl) | (go_simp; exact if_pos hm4i)); simp only [Act.put, List.setIfInBounds_toArray, List.set_cons_zero, List.set_cons_succ, List.getElem_toArray, List.getElem_cons_zero, List.getElem_cons_succ])
      refine wpReads_nil ?_
      simp only [listAll]
      refine wpTill_one (i := 8) (by kernel_rfl) rfl rfl ?_
      intro K6 hK6
      go_step
      (go_at_call 30; refine (byte_fr w B M w.heap.size (w.heap.size + 1) d iv kv cv2 iv kv (nx (nx g)) _ hFA.out z1.c).mono ?_; rintro e w3 ⟨rfl, cv3, hF3, hk3, hs3⟩; have lM3 := hF3.at'.m.lt; have cE3 : w3.cell? ⟨b, m, none⟩ = some (.int .i64 (op : Int)) := hk3 _ _ _ hbM cEA; replace hF3 := hid hF3; clear hk3)
      refine hK6 _ _ ⟨fun _ => ⟨hF3.out.cP, cE3⟩, ?_⟩
      refine wpTill_reads 1 [9] (by kernel_rfl) ?_ ?_ ?_
      · intro c a d v w h; cases d <;> exact h
      · exact ⟨hF3.out.cP, cE3⟩
      iterate 1 (refine wpReads_cons (v := ?_) rfl (yieldsIf_yes rfl fun w' hw => ?_) ?_; rotate_left; (obtain ⟨hw1, hw2⟩ := hw; first | (go_simp; done) | (go_simp; exact rfl) | (go_simp; exact if_pos hm4i)); simp only [Act.put, List.setIfInBounds_toArray, List.set_cons_zero, List.set_cons_succ, List.getElem_toArray, List.getElem_cons_zero, List.getElem_cons_succ])
      refine wpReads_nil ?_
      simp only [listAll]
      refine wpTill_one (i := 10) (by kernel_rfl) rfl rfl ?_
      intro K7 hK7
      go_step
      (go_at_call 18; refine (put_fr2 w B M w.heap.size (w.heap.size + 1) d iv kv cv3 iv kv (nx (nx (nx g))) op (z : Int) _ hF3.out z2.i b m (op : Int) cE3 hbM hbi).mono ?_; rintro e w9 ⟨rfl, iv9, hF9, hkp⟩; replace hF9 := hid hF9)
      refine hK7 _ _ ⟨fun _ => ⟨hF9.out.cP, hkp⟩, wpTill_done (by kernel_rfl) ?_ _⟩
      go_wp2
      go_end0
      exact ⟨rfl, hF9.out.to⟩
    · intro K5 hK5
      go_step
      (go_at_call 30; refine (byte_fr w B M w.heap.size (w.heap.size + 1) d iv kv cv2 iv kv (nx (nx g)) _ hF2.out z1.c).mono ?_; rintro e w3 ⟨rfl, cv3, hF3, hk3, hs3⟩; have lM3 := hF3.at'.m.lt; replace hF3 := hid hF3; clear hk3)
      refine hK5 _ _ ⟨fun _ => hF3.out.cP, ?_⟩
      refine wpTill_reads 4 [9] (by kernel_rfl) ?_ ?_ ?_
      · intro c a d v w h; cases d <;> exact h
      · exact hF3.out.cP
      iterate 1 (refine wpReads_cons (v := ?_) rfl (yieldsIf_yes rfl fun w' hw => ?_) ?_; rotate_left; (first | (go_simp; done) | (go_simp; exact rfl) | (go_simp; exact if_pos hm4i)); simp only [Act.put, List.setIfInBounds_toArray, List.set_cons_zero, List.set_cons_succ, List.getElem_toArray, List.getElem_cons_zero, List.getElem_cons_succ])
      refine wpReads_nil ?_
      simp only [listAll]
      refine wpTill_one (i := 1) (by kernel_rfl) rfl rfl ?_
      intro K6 hK6
      go_step
      obtain ⟨wA, hwA⟩ : ∃ wA, (w3.alloc (.cells #[.int .i64 7, .int .i64 21, .int .i64 22, .int .i64 1] 3)) = wA := ⟨_, rfl⟩
      rw [hwA]
      have hFA := hid (show Fr w B M w.heap.size (w.heap.size + 1) d iv kv wA _ _ _ _ from hwA ▸ (hF3.out.alloc _))
      have cEA : wA.cell? ⟨w3.heap.size, m, none⟩ = some (.int .i64 (op : Int)) := by rw [← hwA]; exact Hel.out w3
      have hbM : w3.heap.size ≠ M := by omega
      have hbi : iv.ownBlock ≠ some w3.heap.size := fun e => by have := (hF3.out.at'.ins.lt _ e).2; omega
      obtain ⟨b, hb⟩ : ∃ b, w3.heap.size = b := ⟨_, rfl⟩
      rw [hb] at cEA hbM hbi
      refine hK6 _ _ ⟨fun _ => hFA.out.cP, ?_⟩
      try rw [hb]
      refine wpTill_weaken (S' := fun w' => w'.cell? ⟨w.heap.size, 0, none⟩ = some (.pointer (some ⟨M, 0, none⟩)) ∧ w'.cell? ⟨b, m, none⟩ = some (.int .i64 (op : Int))) (fun _ h => h.1) _ _ _ _ ?_
      refine wpTill_reads 1 [5, 6] (by kernel_rfl) ?_ ?_ ?_
      · intro c a d v w h; cases d <;> exact h
      · exact ⟨hFA.out.cP, cEA⟩
      iterate 2 (refine wpReads_cons (v := ?_) rfl (yieldsIf_yes rfl fun w' hw => ?_) ?_; rotate_left; (obtain ⟨hw1, hw2⟩ := hw; first | (go_simp; done) | (go_simp; exact rfl) | (go_simp; exact if_pos hm4i)); simp only [Act.put, List.setIfInBounds_toArray, List.set_cons_zero, List.set_cons_succ, List.getElem_toArray, List.getElem_cons_zero, List.getElem_cons_succ])
      refine wpReads_nil ?_
      simp only [listAll]
      refine wpTill_one (i := 10) (by kernel_rfl) rfl rfl ?_
      intro K7 hK7
      go_step
      (go_at_call 18; refine (put_fr2 w B M w.heap.size (w.heap.size + 1) d iv kv cv3 iv kv (nx (nx (nx g))) op (z : Int) _ hFA.out z2.i b m (op : Int) cEA hbM hbi).mono ?_; rintro e w9 ⟨rfl, iv9, hF9, hkp⟩; replace hF9 := hid hF9)
      refine hK7 _ _ ⟨fun _ => ⟨hF9.out.cP, hkp⟩, wpTill_done (by kernel_rfl) ?_ _⟩
      go_wp2
      go_end0
      exact ⟨rfl, hF9.out.to⟩
set_option maxRecDepth 100000 in
set_option maxHeartbeats 2000000 in
theorem stmL_10 (B M : Nat) (cv iv kv : Value) (g : Gen) (w : World) (h : GenAt w B M cv iv kv g) (hB : B ≤ w.heap.size) (hS : Szd g 8) (hc : hd g % 16 = 10) (m : Nat) (hm : hd (nx g) % 4 = m) (z : Nat) (hz' : hd (nx (nx g)) % 9 = z) :
    Calls Tryd.prog 23 #[.pointer (some ⟨M, 0, none⟩), .int .i64 3] w fun e w' => e = .returned (.tuple #[]) ∧ GenTo B M iv kv (put (nx (nx (nx g))) (longOps.getD m 0) ((z : Int) - 3)) w w' := by
  have hF := hid (Fr.start (d := 3) h hB)
  have e1 : (hd g : Int).tmod 16 = 10 := by rw [Int.tmod_eq_emod_of_nonneg (by omega)]; omega
  have hm4 : m < 4 := by omega
  have hm4i : (m : Int) < 4 := by omega
  have e2 : (hd (nx g) : Int).tmod 4 = (m : Int) := by rw [← hm]; exact tmod_nat _ 4
  have bz : z < 9 := by omega
  have tz : (hd (nx (nx g)) : Int).tmod 9 = (z : Int) := by rw [← hz']; exact tmod_nat _ 9
  have z0 : Szd (nx g) (8) := hS.nx
  have z1 : Szd (nx (nx g)) (8) := z0.nx
  have z2 : Szd (nx (nx (nx g))) (8) := z1.nx
  have hel : ∀ w : World, (w.alloc (.cells #[.int .i64 15, .int .i64 16, .int .i64 17, .int .i64 18] 3)).cell? ⟨w.heap.size, m, none⟩ = some (.int .i64 ((longOps.getD m 0 : Nat) : Int)) := by
    intro w
    refine (blk_new w #[.int .i64 15, .int .i64 16, .int .i64 17, .int .i64 18] 3).cell m ?_
    match m, hm4 with
    | 0, _ => rfl
    | 1, _ => rfl
    | 2, _ => rfl
    | 3, _ => rfl
  obtain ⟨op, hop⟩ : ∃ op, longOps.getD m 0 = op := ⟨_, rfl⟩
  rw [hop]
  simp only [hop] at hel
  have Hel := hid hel
  clear h hc hz' hm hop hel
  go_enter Tryd.func23, Tryd.ntmps23
  go_wp2_with (go_at_call 30; refine (byte_fr w B M w.heap.size (w.heap.size + 1) 3 iv kv cv iv kv g _ hF.out hS.c).mono ?_; rintro e w1 ⟨rfl, cv1, hF1, hk1, hs1⟩; have cP := hF1.cP; have cD := hF1.cD; have lM := hF1.at'.m.lt; replace hF1 := hid hF1; clear hk1)
  have hF1D := hid hF1.out.drew
  refine wp_region_till (fun w' => w'.cell? ⟨w.heap.size, 0, none⟩ = some (.pointer (some ⟨M, 0, none⟩))) 12 (by kernel_rfl) ?_
  refine wpTill_reads 9 [0, 2, 7] (by kernel_rfl) ?_ ?_ ?_
  · intro c a d v w h; cases d <;> exact h
  · exact cP
  iterate 3 (refine wpReads_cons (v := ?_) rfl (yieldsIf_yes rfl fun w' hw => ?_) ?_; rotate_left; (first | (go_simp; done) | (go_simp; exact rfl)); simp only [Act.put, List.setIfInBounds_toArray, List.set_cons_zero, List.set_cons_succ, List.getElem_toArray, List.getElem_cons_zero, List.getElem_cons_succ])
  refine wpReads_nil ?_
  simp only [listAll]
  refine wpTill_two (i := 1) (j := 3) (by kernel_rfl) rfl rfl rfl rfl ?_ ?_
  · intro K hK
    go_step
    obtain ⟨wA, hwA⟩ : ∃ wA, (w1.alloc (.cells #[.int .i64 15, .int .i64 16, .int .i64 17, .int .i64 18] 3)).drew = wA := ⟨_, rfl⟩
    rw [hwA]
    have hFA := hid (show Fr w B M w.heap.size (w.heap.size + 1) 3 iv kv wA _ _ _ _ from hwA ▸ (hF1.out.alloc _).drew)
    have cEA : wA.cell? ⟨w1.heap.size, m, none⟩ = some (.int .i64 (op : Int)) := by rw [← hwA]; exact Hel.out w1
    have hbM : w1.heap.size ≠ M := by omega
    have hbi : iv.ownBlock ≠ some w1.heap.size := fun e => by have := (hF1.out.at'.ins.lt _ e).2; omega
    obtain ⟨b, hb⟩ : ∃ b, w1.heap.size = b := ⟨_, rfl⟩
    rw [hb] at cEA hbM hbi
    refine hK _ _ ⟨fun _ => hFA.out.cP, ?_⟩
    try rw [hb]
    refine wpTill_weaken (S' := fun w' => w'.cell? ⟨w.heap.size, 0, none⟩ = some (.pointer (some ⟨M, 0, none⟩)) ∧ w'.cell? ⟨b, m, none⟩ = some (.int .i64 (op : Int))) (fun _ h => h.1) _ _ _ _ ?_
    refine wpTill_one (i := 3) (by kernel_rfl) rfl rfl ?_
    intro K2 hK2
    go_step
    (go_at_call 30; refine (byte_fr w B M w.heap.size (w.heap.size + 1) 3 iv kv cv1 iv kv (nx g) _ hFA.out z0.c).mono ?_; rintro e w2 ⟨rfl, cv2, hF2, hk2, hs2⟩; have lM2 := hF2.at'.m.lt; have cE2 : w2.cell? ⟨b, m, none⟩ = some (.int .i64 (op : Int)) := hk2 _ _ _ hbM cEA; replace hF2 := hid hF2; clear hk2)
    refine hK2 _ _ ⟨fun _ => ⟨hF2.out.cP, cE2⟩, ?_⟩
    refine wpTill_reads 4 [4, 5, 6] (by kernel_rfl) ?_ ?_ ?_
    · intro c a d v w h; cases d <;> exact h
    · exact ⟨hF2.out.cP, cE2⟩
    iterate 3 (refine wpReads_cons (v := ?_) rfl (yieldsIf_yes rfl fun w' hw => ?_) ?_; rotate_left; (obtain ⟨hw1, hw2⟩ := hw; first | (go_simp; done) | (go_simp; exact rfl) | (go_simp; exact if_pos hm4i)); simp only [Act.put, List.setIfInBounds_toArray, List.set_cons_zero, List.set_cons_succ, List.getElem_toArray, List.getElem_cons_zero, List.getElem_cons_succ])
    refine wpReads_nil ?_
    simp only [listAll]
    refine wpTill_one (i := 8) (by kernel_rfl) rfl rfl ?_
    intro K3 hK3
    go_step
    (go_at_call 30; refine (byte_fr w B M w.heap.size (w.heap.size + 1) 3 iv kv cv2 iv kv (nx (nx g)) _ hF2.out z1.c).mono ?_; rintro e w3 ⟨rfl, cv3, hF3, hk3, hs3⟩; have lM3 := hF3.at'.m.lt; have cE3 : w3.cell? ⟨b, m, none⟩ = some (.int .i64 (op : Int)) := hk3 _ _ _ hbM cE2; replace hF3 := hid hF3; clear hk3)
    refine hK3 _ _ ⟨fun _ => ⟨hF3.out.cP, cE3⟩, ?_⟩
    refine wpTill_reads 1 [9, 10] (by kernel_rfl) ?_ ?_ ?_
    · intro c a d v w h; cases d <;> exact h
    · exact ⟨hF3.out.cP, cE3⟩
    iterate 2 (refine wpReads_cons (v := ?_) rfl (yieldsIf_yes rfl fun w' hw => ?_) ?_; rotate_left; (obtain ⟨hw1, hw2⟩ := hw; first | (go_simp; done) | (go_simp; exact rfl) | (go_simp; exact if_pos hm4i)); simp only [Act.put, List.setIfInBounds_toArray, List.set_cons_zero, List.set_cons_succ, List.getElem_toArray, List.getElem_cons_zero, List.getElem_cons_succ])
    refine wpReads_nil ?_
    simp only [listAll]
    refine wpTill_one (i := 11) (by kernel_rfl) rfl rfl ?_
    intro K4 hK4
    go_step
    (go_at_call 18; refine (put_fr2 w B M w.heap.size (w.heap.size + 1) 3 iv kv cv3 iv kv (nx (nx (nx g))) op ((z : Int) - 3) _ hF3.out z2.i b m (op : Int) cE3 hbM hbi).mono ?_; rintro e w9 ⟨rfl, iv9, hF9, hkp⟩; replace hF9 := hid hF9)
    refine hK4 _ _ ⟨fun _ => ⟨hF9.out.cP, hkp⟩, wpTill_done (by kernel_rfl) ?_ _⟩
    go_wp2
    go_end0
    exact ⟨rfl, hF9.out.to⟩
  · intro K hK
    go_step
    (go_at_call 30; refine (byte_fr w B M w.heap.size (w.heap.size + 1) 3 iv kv cv1 iv kv (nx g) _ hF1D.out z0.c).mono ?_; rintro e w2 ⟨rfl, cv2, hF2, hk2, hs2⟩; have lM2 := hF2.at'.m.lt; replace hF2 := hid hF2; clear hk2)
    refine hK _ _ ⟨fun _ => hF2.out.cP, ?_⟩
    refine wpTill_reads 7 [4] (by kernel_rfl) ?_ ?_ ?_
    · intro c a d v w h; cases d <;> exact h
    · exact hF2.out.cP
    iterate 1 (refine wpReads_cons (v := ?_) rfl (yieldsIf_yes rfl fun w' hw => ?_) ?_; rotate_left; (first | (go_simp; done) | (go_simp; exact rfl) | (go_simp; exact if_pos hm4i)); simp only [Act.put, List.setIfInBounds_toArray, List.set_cons_zero, List.set_cons_succ, List.getElem_toArray, List.getElem_cons_zero, List.getElem_cons_succ])
    refine wpReads_nil ?_
    simp only [listAll]
    refine wpTill_two (i := 1) (j := 8) (by kernel_rfl) rfl rfl rfl rfl ?_ ?_
    · intro K5 hK5
      go_step
      obtain ⟨wA, hwA⟩ : ∃ wA, (w2.alloc (.cells #[.int .i64 15, .int .i64 16, .int .i64 17, .int .i64 18] 3)) = wA := ⟨_, rfl⟩
      rw [hwA]
      have hFA := hid (show Fr w B M w.heap.size (w.heap.size + 1) 3 iv kv wA _ _ _ _ from hwA ▸ (hF2.out.alloc _))
      have cEA : wA.cell? ⟨w2.heap.size, m, none⟩ = some (.int .i64 (op : Int)) := by rw [← hwA]; exact Hel.out w2
      have hbM : w2.heap.size ≠ M := by omega
      have hbi : iv.ownBlock ≠ some w2.heap.size := fun e => by have := (hF2.out.at'.ins.lt _ e).2; omega
      obtain ⟨b, hb⟩ : ∃ b, w2.heap.size = b := ⟨_, rfl⟩
      rw [hb] at cEA hbM hbi
      refine hK5 _ _ ⟨fun _ => hFA.out.cP, ?_⟩
      try rw [hb]
      refine wpTill_weaken (S' := fun w' => w'.cell? ⟨w.heap.size, 0, none⟩ = some (.pointer (some ⟨M, 0, none⟩)) ∧ w'.cell? ⟨b, m, none⟩ = some (.int .i64 (op : Int))) (fun _ h => h.1) _ _ _ _ ?_
      refine wpTill_reads 4 [5, 6] (by kernel_rfl) ?_ ?_ ?_
      · intro c a d v w h; cases d <;> exact h
      · exact ⟨hFA.out.cP, cEA⟩
      iterate 2 (refine wpReads_cons (v := ?_) rfl (yieldsIf_yes rfl fun w' hw => ?_) ?_; rotate_left; (obtain ⟨hw1, hw2⟩ := hw; first | (go_simp; done) | (go_simp; exact rfl) | (go_simp; exact if_pos hm4i)); simp only [Act.put, List.setIfInBounds_toArray, List.set_cons_zero, List.set_cons_succ, List.getElem_toArray, List.getElem_cons_zero, List.getElem_cons_succ])
      refine wpReads_nil ?_
      simp only [listAll]
      refine wpTill_one (i := 8) (by kernel_rfl) rfl rfl ?_
      intro K6 hK6
      go_step
      (go_at_call 30; refine (byte_fr w B M w.heap.size (w.heap.size + 1) 3 iv kv cv2 iv kv (nx (nx g)) _ hFA.out z1.c).mono ?_; rintro e w3 ⟨rfl, cv3, hF3, hk3, hs3⟩; have lM3 := hF3.at'.m.lt; have cE3 : w3.cell? ⟨b, m, none⟩ = some (.int .i64 (op : Int)) := hk3 _ _ _ hbM cEA; replace hF3 := hid hF3; clear hk3)
      refine hK6 _ _ ⟨fun _ => ⟨hF3.out.cP, cE3⟩, ?_⟩
      refine wpTill_reads 1 [9, 10] (by kernel_rfl) ?_ ?_ ?_
      · intro c a d v w h; cases d <;> exact h
      · exact ⟨hF3.out.cP, cE3⟩
      iterate 2 (refine wpReads_cons (v := ?_) rfl (yieldsIf_yes rfl fun w' hw => ?_) ?_; rotate_left; (obtain ⟨hw1, hw2⟩ := hw; first | (go_simp; done) | (go_simp; exact rfl) | (go_simp; exact if_pos hm4i)); simp only [Act.put, List.setIfInBounds_toArray, List.set_cons_zero, List.set_cons_succ, List.getElem_toArray, List.getElem_cons_zero, List.getElem_cons_succ])
      refine wpReads_nil ?_
      simp only [listAll]
      refine wpTill_one (i := 11) (by kernel_rfl) rfl rfl ?_
      intro K7 hK7
      go_step
      (go_at_call 18; refine (put_fr2 w B M w.heap.size (w.heap.size + 1) 3 iv kv cv3 iv kv (nx (nx (nx g))) op ((z : Int) - 3) _ hF3.out z2.i b m (op : Int) cE3 hbM hbi).mono ?_; rintro e w9 ⟨rfl, iv9, hF9, hkp⟩; replace hF9 := hid hF9)
      refine hK7 _ _ ⟨fun _ => ⟨hF9.out.cP, hkp⟩, wpTill_done (by kernel_rfl) ?_ _⟩
      go_wp2
      go_end0
      exact ⟨rfl, hF9.out.to⟩
    · intro K5 hK5
      go_step
      (go_at_call 30; refine (byte_fr w B M w.heap.size (w.heap.size + 1) 3 iv kv cv2 iv kv (nx (nx g)) _ hF2.out z1.c).mono ?_; rintro e w3 ⟨rfl, cv3, hF3, hk3, hs3⟩; have lM3 := hF3.at'.m.lt; replace hF3 := hid hF3; clear hk3)
      refine hK5 _ _ ⟨fun _ => hF3.out.cP, ?_⟩
      refine wpTill_reads 4 [9, 10] (by kernel_rfl) ?_ ?_ ?_
      · intro c a d v w h; cases d <;> exact h
      · exact hF3.out.cP
      iterate 2 (refine wpReads_cons (v := ?_) rfl (yieldsIf_yes rfl fun w' hw => ?_) ?_; rotate_left; (first | (go_simp; done) | (go_simp; exact rfl) | (go_simp; exact if_pos hm4i)); simp only [Act.put, List.setIfInBounds_toArray, List.set_cons_zero, List.set_cons_succ, List.getElem_toArray, List.getElem_cons_zero, List.getElem_cons_succ])
      refine wpReads_nil ?_
      simp only [listAll]
      refine wpTill_one (i := 1) (by kernel_rfl) rfl rfl ?_
      intro K6 hK6
      go_step
      obtain ⟨wA, hwA⟩ : ∃ wA, (w3.alloc (.cells #[.int .i64 15, .int .i64 16, .int .i64 17, .int .i64 18] 3)) = wA := ⟨_, rfl⟩
      rw [hwA]
      have hFA := hid (show Fr w B M w.heap.size (w.heap.size + 1) 3 iv kv wA _ _ _ _ from hwA ▸ (hF3.out.alloc _))
      have cEA : wA.cell? ⟨w3.heap.size, m, none⟩ = some (.int .i64 (op : Int)) := by rw [← hwA]; exact Hel.out w3
      have hbM : w3.heap.size ≠ M := by omega
      have hbi : iv.ownBlock ≠ some w3.heap.size := fun e => by have := (hF3.out.at'.ins.lt _ e).2; omega
      obtain ⟨b, hb⟩ : ∃ b, w3.heap.size = b := ⟨_, rfl⟩
      rw [hb] at cEA hbM hbi
      refine hK6 _ _ ⟨fun _ => hFA.out.cP, ?_⟩
      try rw [hb]
      refine wpTill_weaken (S' := fun w' => w'.cell? ⟨w.heap.size, 0, none⟩ = some (.pointer (some ⟨M, 0, none⟩)) ∧ w'.cell? ⟨b, m, none⟩ = some (.int .i64 (op : Int))) (fun _ h => h.1) _ _ _ _ ?_
      refine wpTill_reads 1 [5, 6] (by kernel_rfl) ?_ ?_ ?_
      · intro c a d v w h; cases d <;> exact h
      · exact ⟨hFA.out.cP, cEA⟩
      iterate 2 (refine wpReads_cons (v := ?_) rfl (yieldsIf_yes rfl fun w' hw => ?_) ?_; rotate_left; (obtain ⟨hw1, hw2⟩ := hw; first | (go_simp; done) | (go_simp; exact rfl) | (go_simp; exact if_pos hm4i)); simp only [Act.put, List.setIfInBounds_toArray, List.set_cons_zero, List.set_cons_succ, List.getElem_toArray, List.getElem_cons_zero, List.getElem_cons_succ])
      refine wpReads_nil ?_
      simp only [listAll]
      refine wpTill_one (i := 11) (by kernel_rfl) rfl rfl ?_
      intro K7 hK7
      go_step
      (go_at_call 18; refine (put_fr2 w B M w.heap.size (w.heap.size + 1) 3 iv kv cv3 iv kv (nx (nx (nx g))) op ((z : Int) - 3) _ hFA.out z2.i b m (op : Int) cEA hbM hbi).mono ?_; rintro e w9 ⟨rfl, iv9, hF9, hkp⟩; replace hF9 := hid hF9)
      refine hK7 _ _ ⟨fun _ => ⟨hF9.out.cP, hkp⟩, wpTill_done (by kernel_rfl) ?_ _⟩
      go_wp2
      go_end0
      exact ⟨rfl, hF9.out.to⟩
set_option maxRecDepth 100000 in
set_option maxHeartbeats 2000000 in
theorem stmL_11 (B M : Nat) (cv iv kv : Value) (g : Gen) (w : World) (h : GenAt w B M cv iv kv g) (hB : B ≤ w.heap.size) (hS : Szd g 8) (hc : hd g % 16 = 11) (m : Nat) (hm : hd (nx g) % 4 = m) (z : Nat) (hz' : hd (nx (nx g)) % 6 = z) :
    Calls Tryd.prog 23 #[.pointer (some ⟨M, 0, none⟩), .int .i64 3] w fun e w' => e = .returned (.tuple #[]) ∧ GenTo B M iv kv (put (nx (nx (nx g))) (setOps.getD m 0) (z : Int)) w w' := by
  have hF := hid (Fr.start (d := 3) h hB)
  have e1 : (hd g : Int).tmod 16 = 11 := by rw [Int.tmod_eq_emod_of_nonneg (by omega)]; omega
  have hm4 : m < 4 := by omega
  have hm4i : (m : Int) < 4 := by omega
  have e2 : (hd (nx g) : Int).tmod 4 = (m : Int) := by rw [← hm]; exact tmod_nat _ 4
  have bz : z < 6 := by omega
  have tz : (hd (nx (nx g)) : Int).tmod 6 = (z : Int) := by rw [← hz']; exact tmod_nat _ 6
  have z0 : Szd (nx g) (8) := hS.nx
  have z1 : Szd (nx (nx g)) (8) := z0.nx
  have z2 : Szd (nx (nx (nx g))) (8) := z1.nx
  have hel : ∀ w : World, (w.alloc (.cells #[.int .i64 7, .int .i64 21, .int .i64 22, .int .i64 1] 3)).cell? ⟨w.heap.size, m, none⟩ = some (.int .i64 ((setOps.getD m 0 : Nat) : Int)) := by
    intro w
    refine (blk_new w #[.int .i64 7, .int .i64 21, .int .i64 22, .int .i64 1] 3).cell m ?_
    match m, hm4 with
    | 0, _ => rfl
    | 1, _ => rfl
    | 2, _ => rfl
    | 3, _ => rfl
  obtain ⟨op, hop⟩ : ∃ op, setOps.getD m 0 = op := ⟨_, rfl⟩
  rw [hop]
  simp only [hop] at hel
  have Hel := hid hel
  clear h hc hz' hm hop hel
  go_enter Tryd.func23, Tryd.ntmps23
  go_wp2_with (go_at_call 30; refine (byte_fr w B M w.heap.size (w.heap.size + 1) 3 iv kv cv iv kv g _ hF.out hS.c).mono ?_; rintro e w1 ⟨rfl, cv1, hF1, hk1, hs1⟩; have cP := hF1.cP; have cD := hF1.cD; have lM := hF1.at'.m.lt; replace hF1 := hid hF1; clear hk1)
  have hF1D := hid hF1.out.drew
  refine wp_region_till (fun w' => w'.cell? ⟨w.heap.size, 0, none⟩ = some (.pointer (some ⟨M, 0, none⟩))) 11 (by kernel_rfl) ?_
  refine wpTill_reads 8 [0, 2, 7] (by kernel_rfl) ?_ ?_ ?_
  · intro c a d v w h; cases d <;> exact h
  · exact cP
  iterate 3 (refine wpReads_cons (v := ?_) rfl (yieldsIf_yes rfl fun w' hw => ?_) ?_; rotate_left; (first | (go_simp; done) | (go_simp; exact rfl)); simp only [Act.put, List.setIfInBounds_toArray, List.set_cons_zero, List.set_cons_succ, List.getElem_toArray, List.getElem_cons_zero, List.getElem_cons_succ])
  refine wpReads_nil ?_
  simp only [listAll]
  refine wpTill_two (i := 1) (j := 3) (by kernel_rfl) rfl rfl rfl rfl ?_ ?_
  · intro K hK
    go_step
    obtain ⟨wA, hwA⟩ : ∃ wA, (w1.alloc (.cells #[.int .i64 7, .int .i64 21, .int .i64 22, .int .i64 1] 3)).drew = wA := ⟨_, rfl⟩
    rw [hwA]
    have hFA := hid (show Fr w B M w.heap.size (w.heap.size + 1) 3 iv kv wA _ _ _ _ from hwA ▸ (hF1.out.alloc _).drew)
    have cEA : wA.cell? ⟨w1.heap.size, m, none⟩ = some (.int .i64 (op : Int)) := by rw [← hwA]; exact Hel.out w1
    have hbM : w1.heap.size ≠ M := by omega
    have hbi : iv.ownBlock ≠ some w1.heap.size := fun e => by have := (hF1.out.at'.ins.lt _ e).2; omega
    obtain ⟨b, hb⟩ : ∃ b, w1.heap.size = b := ⟨_, rfl⟩
    rw [hb] at cEA hbM hbi
    refine hK _ _ ⟨fun _ => hFA.out.cP, ?_⟩
    try rw [hb]
    refine wpTill_weaken (S' := fun w' => w'.cell? ⟨w.heap.size, 0, none⟩ = some (.pointer (some ⟨M, 0, none⟩)) ∧ w'.cell? ⟨b, m, none⟩ = some (.int .i64 (op : Int))) (fun _ h => h.1) _ _ _ _ ?_
    refine wpTill_one (i := 3) (by kernel_rfl) rfl rfl ?_
    intro K2 hK2
    go_step
    (go_at_call 30; refine (byte_fr w B M w.heap.size (w.heap.size + 1) 3 iv kv cv1 iv kv (nx g) _ hFA.out z0.c).mono ?_; rintro e w2 ⟨rfl, cv2, hF2, hk2, hs2⟩; have lM2 := hF2.at'.m.lt; have cE2 : w2.cell? ⟨b, m, none⟩ = some (.int .i64 (op : Int)) := hk2 _ _ _ hbM cEA; replace hF2 := hid hF2; clear hk2)
    refine hK2 _ _ ⟨fun _ => ⟨hF2.out.cP, cE2⟩, ?_⟩
    refine wpTill_reads 3 [4, 5, 6] (by kernel_rfl) ?_ ?_ ?_
    · intro c a d v w h; cases d <;> exact h
    · exact ⟨hF2.out.cP, cE2⟩
    iterate 3 (refine wpReads_cons (v := ?_) rfl (yieldsIf_yes rfl fun w' hw => ?_) ?_; rotate_left; (obtain ⟨hw1, hw2⟩ := hw; first | (go_simp; done) | (go_simp; exact rfl) | (go_simp; exact if_pos hm4i)); simp only [Act.put, List.setIfInBounds_toArray, List.set_cons_zero, List.set_cons_succ, List.getElem_toArray, List.getElem_cons_zero, List.getElem_cons_succ])
    refine wpReads_nil ?_
    simp only [listAll]
    refine wpTill_one (i := 8) (by kernel_rfl) rfl rfl ?_
    intro K3 hK3
    go_step
    (go_at_call 30; refine (byte_fr w B M w.heap.size (w.heap.size + 1) 3 iv kv cv2 iv kv (nx (nx g)) _ hF2.out z1.c).mono ?_; rintro e w3 ⟨rfl, cv3, hF3, hk3, hs3⟩; have lM3 := hF3.at'.m.lt; have cE3 : w3.cell? ⟨b, m, none⟩ = some (.int .i64 (op : Int)) := hk3 _ _ _ hbM cE2; replace hF3 := hid hF3; clear hk3)
    refine hK3 _ _ ⟨fun _ => ⟨hF3.out.cP, cE3⟩, ?_⟩
    refine wpTill_reads 1 [9] (by kernel_rfl) ?_ ?_ ?_
    · intro c a d v w h; cases d <;> exact h
    · exact ⟨hF3.out.cP, cE3⟩
    iterate 1 (refine wpReads_cons (v := ?_) rfl (yieldsIf_yes rfl fun w' hw => ?_) ?_; rotate_left; (obtain ⟨hw1, hw2⟩ := hw; first | (go_simp; done) | (go_simp; exact rfl) | (go_simp; exact if_pos hm4i)); simp only [Act.put, List.setIfInBounds_toArray, List.set_cons_zero, List.set_cons_succ, List.getElem_toArray, List.getElem_cons_zero, List.getElem_cons_succ])
    refine wpReads_nil ?_
    simp only [listAll]
    refine wpTill_one (i := 10) (by kernel_rfl) rfl rfl ?_
    intro K4 hK4
    go_step
    (go_at_call 18; refine (put_fr2 w B M w.heap.size (w.heap.size + 1) 3 iv kv cv3 iv kv (nx (nx (nx g))) op (z : Int) _ hF3.out z2.i b m (op : Int) cE3 hbM hbi).mono ?_; rintro e w9 ⟨rfl, iv9, hF9, hkp⟩; replace hF9 := hid hF9)
    refine hK4 _ _ ⟨fun _ => ⟨hF9.out.cP, hkp⟩, wpTill_done (by kernel_rfl) ?_ _⟩
    go_wp2
    go_end0
    exact ⟨rfl, hF9.out.to⟩
  · intro K hK
    go_step
    (go_at_call 30; refine (byte_fr w B M w.heap.size (w.heap.size + 1) 3 iv kv cv1 iv kv (nx g) _ hF1D.out z0.c).mono ?_; rintro e w2 ⟨rfl, cv2, hF2, hk2, hs2⟩; have lM2 := hF2.at'.m.lt; replace hF2 := hid hF2; clear hk2)
    refine hK _ _ ⟨fun _ => hF2.out.cP, ?_⟩
    refine wpTill_reads 6 [4] (by kernel_rfl) ?_ ?_ ?_
    · intro c a d v w h; cases d <;> exact h
    · exact hF2.out.cP
    iterate 1 (refine wpReads_cons (v := ?_) rfl (yieldsIf_yes rfl fun w' hw => ?_) ?_; rotate_left; (first | (go_simp; done) | (go_simp; exact rfl) | (go_simp; exact if_pos hm4i)); simp only [Act.put, List.setIfInBounds_toArray, List.set_cons_zero, List.set_cons_succ, List.getElem_toArray, List.getElem_cons_zero, List.getElem_cons_succ])
    refine wpReads_nil ?_
    simp only [listAll]
    refine wpTill_two (i := 1) (j := 8) (by kernel_rfl) rfl rfl rfl rfl ?_ ?_
    · intro K5 hK5
      go_step
      obtain ⟨wA, hwA⟩ : ∃ wA, (w2.alloc (.cells #[.int .i64 7, .int .i64 21, .int .i64 22, .int .i64 1] 3)) = wA := ⟨_, rfl⟩
      rw [hwA]
      have hFA := hid (show Fr w B M w.heap.size (w.heap.size + 1) 3 iv kv wA _ _ _ _ from hwA ▸ (hF2.out.alloc _))
      have cEA : wA.cell? ⟨w2.heap.size, m, none⟩ = some (.int .i64 (op : Int)) := by rw [← hwA]; exact Hel.out w2
      have hbM : w2.heap.size ≠ M := by omega
      have hbi : iv.ownBlock ≠ some w2.heap.size := fun e => by have := (hF2.out.at'.ins.lt _ e).2; omega
      obtain ⟨b, hb⟩ : ∃ b, w2.heap.size = b := ⟨_, rfl⟩
      rw [hb] at cEA hbM hbi
      refine hK5 _ _ ⟨fun _ => hFA.out.cP, ?_⟩
      try rw [hb]
      refine wpTill_weaken (S' := fun w' => w'.cell? ⟨w.heap.size, 0, none⟩ = some (.pointer (some ⟨M, 0, none⟩)) ∧ w'.cell? ⟨b, m, none⟩ = some (.int .i64 (op : Int))) (fun _ h => h.1) _ _ _ _ ?_
      refine wpTill_reads 3 [5, 6] (by kernel_rfl) ?_ ?_ ?_
      · intro c a d v w h; cases d <;> exact h
      · exact ⟨hFA.out.cP, cEA⟩
      iterate 2 (refine wpReads_cons (v := ?_) rfl (yieldsIf_yes rfl fun w' hw => ?_) ?_; rotate_left; (obtain ⟨hw1, hw2⟩ := hw; first | (go_simp; done) | (go_simp; exact rfl) | (go_simp; exact if_pos hm4i)); simp only [Act.put, List.setIfInBounds_toArray, List.set_cons_zero, List.set_cons_succ, List.getElem_toArray, List.getElem_cons_zero, List.getElem_cons_succ])
      refine wpReads_nil ?_
      simp only [listAll]
      refine wpTill_one (i := 8) (by kernel_rfl) rfl rfl ?_
      intro K6 hK6
      go_step
      (go_at_call 30; refine (byte_fr w B M w.heap.size (w.heap.size + 1) 3 iv kv cv2 iv kv (nx (nx g)) _ hFA.out z1.c).mono ?_; rintro e w3 ⟨rfl, cv3, hF3, hk3, hs3⟩; have lM3 := hF3.at'.m.lt; have cE3 : w3.cell? ⟨b, m, none⟩ = some (.int .i64 (op : Int)) := hk3 _ _ _ hbM cEA; replace hF3 := hid hF3; clear hk3)
      refine hK6 _ _ ⟨fun _ => ⟨hF3.out.cP, cE3⟩, ?_⟩
      refine wpTill_reads 1 [9] (by kernel_rfl) ?_ ?_ ?_
      · intro c a d v w h; cases d <;> exact h
      · exact ⟨hF3.out.cP, cE3⟩
      iterate 1 (refine wpReads_cons (v := ?_) rfl (yieldsIf_yes rfl fun w' hw => ?_) ?_; rotate_left; (obtain ⟨hw1, hw2⟩ := hw; first | (go_simp; done) | (go_simp; exact rfl) | (go_simp; exact if_pos hm4i)); simp only [Act.put, List.setIfInBounds_toArray, List.set_cons_zero, List.set_cons_succ, List.getElem_toArray, List.getElem_cons_zero, List.getElem_cons_succ])
      refine wpReads_nil ?_
      simp only [listAll]
      refine wpTill_one (i := 10) (by kernel_rfl) rfl rfl ?_
      intro K7 hK7
      go_step
      (go_at_call 18; refine (put_fr2 w B M w.heap.size (w.heap.size + 1) 3 iv kv cv3 iv kv (nx (nx (nx g))) op (z : Int) _ hF3.out z2.i b m (op : Int) cE3 hbM hbi).mono ?_; rintro e w9 ⟨rfl, iv9, hF9, hkp⟩; replace hF9 := hid hF9)
      refine hK7 _ _ ⟨fun _ => ⟨hF9.out.cP, hkp⟩, wpTill_done (by kernel_rfl) ?_ _⟩
      go_wp2
      go_end0
      exact ⟨rfl, hF9.out.to⟩
    · intro K5 hK5
      go_step
      (go_at_call 30; refine (byte_fr w B M w.heap.size (w.heap.size + 1) 3 iv kv cv2 iv kv (nx (nx g)) _ hF2.out z1.c).mono ?_; rintro e w3 ⟨rfl, cv3, hF3, hk3, hs3⟩; have lM3 := hF3.at'.m.lt; replace hF3 := hid hF3; clear hk3)
      refine hK5 _ _ ⟨fun _ => hF3.out.cP, ?_⟩
      refine wpTill_reads 4 [9] (by kernel_rfl) ?_ ?_ ?_
      · intro c a d v w h; cases d <;> exact h
      · exact hF3.out.cP
      iterate 1 (refine wpReads_cons (v := ?_) rfl (yieldsIf_yes rfl fun w' hw => ?_) ?_; rotate_left; (first | (go_simp; done) | (go_simp; exact rfl) | (go_simp; exact if_pos hm4i)); simp only [Act.put, List.setIfInBounds_toArray, List.set_cons_zero, List.set_cons_succ, List.getElem_toArray, List.getElem_cons_zero, List.getElem_cons_succ])
      refine wpReads_nil ?_
      simp only [listAll]
      refine wpTill_one (i := 1) (by kernel_rfl) rfl rfl ?_
      intro K6 hK6
      go_step
      obtain ⟨wA, hwA⟩ : ∃ wA, (w3.alloc (.cells #[.int .i64 7, .int .i64 21, .int .i64 22, .int .i64 1] 3)) = wA := ⟨_, rfl⟩
      rw [hwA]
      have hFA := hid (show Fr w B M w.heap.size (w.heap.size + 1) 3 iv kv wA _ _ _ _ from hwA ▸ (hF3.out.alloc _))
      have cEA : wA.cell? ⟨w3.heap.size, m, none⟩ = some (.int .i64 (op : Int)) := by rw [← hwA]; exact Hel.out w3
      have hbM : w3.heap.size ≠ M := by omega
      have hbi : iv.ownBlock ≠ some w3.heap.size := fun e => by have := (hF3.out.at'.ins.lt _ e).2; omega
      obtain ⟨b, hb⟩ : ∃ b, w3.heap.size = b := ⟨_, rfl⟩
      rw [hb] at cEA hbM hbi
      refine hK6 _ _ ⟨fun _ => hFA.out.cP, ?_⟩
      try rw [hb]
      refine wpTill_weaken (S' := fun w' => w'.cell? ⟨w.heap.size, 0, none⟩ = some (.pointer (some ⟨M, 0, none⟩)) ∧ w'.cell? ⟨b, m, none⟩ = some (.int .i64 (op : Int))) (fun _ h => h.1) _ _ _ _ ?_
      refine wpTill_reads 1 [5, 6] (by kernel_rfl) ?_ ?_ ?_
      · intro c a d v w h; cases d <;> exact h
      · exact ⟨hFA.out.cP, cEA⟩
      iterate 2 (refine wpReads_cons (v := ?_) rfl (yieldsIf_yes rfl fun w' hw => ?_) ?_; rotate_left; (obtain ⟨hw1, hw2⟩ := hw; first | (go_simp; done) | (go_simp; exact rfl) | (go_simp; exact if_pos hm4i)); simp only [Act.put, List.setIfInBounds_toArray, List.set_cons_zero, List.set_cons_succ, List.getElem_toArray, List.getElem_cons_zero, List.getElem_cons_succ])
      refine wpReads_nil ?_
      simp only [listAll]
      refine wpTill_one (i := 10) (by kernel_rfl) rfl rfl ?_
      intro K7 hK7
      go_step
      (go_at_call 18; refine (put_fr2 w B M w.heap.size (w.heap.size + 1) 3 iv kv cv3 iv kv (nx (nx (nx g))) op (z : Int) _ hFA.out z2.i b m (op : Int) cEA hbM hbi).mono ?_; rintro e w9 ⟨rfl, iv9, hF9, hkp⟩; replace hF9 := hid hF9)
      refine hK7 _ _ ⟨fun _ => ⟨hF9.out.cP, hkp⟩, wpTill_done (by kernel_rfl) ?_ _⟩
      go_wp2
      go_end0
      exact ⟨rfl, hF9.out.to⟩
end Go.Proofs.YtkhicabfmkldpaaDoor
