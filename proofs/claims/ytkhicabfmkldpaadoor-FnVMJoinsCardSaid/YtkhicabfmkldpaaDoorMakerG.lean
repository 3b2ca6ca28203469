/-
  The maker of programs: its conditions.
  The maker of programs: a call of a part.
-/
import Derived.Test.YtkhicabfmkldpaaDoorMakerD
import Derived.Test.YtkhicabfmkldpaaDoorMaker
set_option linter.unusedSimpArgs false
set_option linter.unusedVariables false
namespace Go.Proofs.YtkhicabfmkldpaaDoor
open Go Go.RowKit

set_option maxRecDepth 100000 in
set_option maxHeartbeats 2000000 in
theorem stm_12 (B M : Nat) (cv iv kv : Value) (g : Gen) (n : Nat) (d : Int) (hd2 : ¬ 3 ≤ d) (hd0 : 0 ≤ d) (F : Gen → Gen) (hbody : BodyOk B M n (d + 1) F) (hz : BodyZ n F) (hG : BodyG F) (w : World) (h : GenAt w B M cv iv kv g) (hB : B ≤ w.heap.size) (hS : Szd g (n + 8)) (hc : hd g % 16 = 12) (m : Nat) (hm : hd (nx g) % 2 = m) (z : Nat) (hz' : hd (nx (nx g)) % 5 = z) :
    Calls Tryd.prog 23 #[.pointer (some ⟨M, 0, none⟩), .int .i64 d] w fun e w' => e = .returned (.tuple #[]) ∧ GenTo B M iv kv (cond F (put (nx (nx (nx g))) ([12, 13].getD m 0) ((z : Int) - 1))) w w' := by
  have hF := hid (Fr.start (d := d) h hB)
  have e1 : (hd g : Int).tmod 16 = 12 := by rw [Int.tmod_eq_emod_of_nonneg (by omega)]; omega
  have hm4 : m < 2 := by omega
  have hm4i : (m : Int) < 2 := by omega
  have e2 : (hd (nx g) : Int).tmod 2 = (m : Int) := by rw [← hm]; exact tmod_nat _ 2
  have bz : z < 5 := by omega
  have tz : (hd (nx (nx g)) : Int).tmod 5 = (z : Int) := by rw [← hz']; exact tmod_nat _ 5
  have z0 : Szd (nx g) (n + 8) := hS.nx
  have z1 : Szd (nx (nx g)) (n + 8) := z0.nx
  have z2 : Szd (nx (nx (nx g))) (n + 8) := z1.nx
  have hel : ∀ w : World, (w.alloc (.cells #[.int .i64 12, .int .i64 13] 3)).cell? ⟨w.heap.size, m, none⟩ = some (.int .i64 (([12, 13].getD m 0 : Nat) : Int)) := by
    intro w
    refine (blk_new w #[.int .i64 12, .int .i64 13] 3).cell m ?_
    match m, hm4 with
    | 0, _ => rfl
    | 1, _ => rfl
  obtain ⟨op, hop⟩ : ∃ op, [12, 13].getD m 0 = op := ⟨_, rfl⟩
  rw [hop]
  simp only [hop] at hel
  have Hel := hid hel
  obtain ⟨Kx, hKK⟩ : ∃ Kx, (put (nx (nx (nx g))) op ((z : Int) - 1)).ins.length = Kx := ⟨_, rfl⟩
  obtain ⟨Z, hZ⟩ : ∃ Z, (F (put (put (nx (nx (nx g))) op ((z : Int) - 1)) 14 0)).ins.length = Z := ⟨_, rfl⟩
  have z3 : Szd (put (nx (nx (nx g))) op ((z : Int) - 1)) (n + 7) := z2.put _ _
  have z4 : Szd (put (put (nx (nx (nx g))) op ((z : Int) - 1)) 14 0) (n + 6) := z3.put _ _
  have z5 : Szd (F (put (put (nx (nx (nx g))) op ((z : Int) - 1)) 14 0)) 6 := hz _ _ z4
  have hKZ : Kx < Z := by
    have h1 := hG (put (put (nx (nx (nx g))) op ((z : Int) - 1)) 14 0)
    have h2 : (put (put (nx (nx (nx g))) op ((z : Int) - 1)) 14 0).ins.length = Kx + 1 := by show ((put (nx (nx (nx g))) op ((z : Int) - 1)).ins ++ [_]).length = _; simp [hKK]
    omega
  have hlast : Kx < (F (put (put (nx (nx (nx g))) op ((z : Int) - 1)) 14 0)).ins.length := by omega
  have hKb : Z ≤ 1000000 := by have := z5.i; omega
  have he : cond F (put (nx (nx (nx g))) op ((z : Int) - 1)) = { F (put (put (nx (nx (nx g))) op ((z : Int) - 1)) 14 0) with ins := setX (F (put (put (nx (nx (nx g))) op ((z : Int) - 1)) 14 0)).ins Kx (Z : Int) } := by
    unfold cond patch
    rw [hKK, hZ]
  have hKZi : (Kx : Int) < (Z : Int) := by omega
  have hK0i : (0 : Int) ≤ (Kx : Int) := by omega
  have HLast := hid hlast
  have HKK := hid hKK
  have HZ := hid hZ
  have He := hid he
  clear hlast hKK hZ he
  clear h hc hz' hm hop hel
  go_enter Tryd.func23, Tryd.ntmps23
  go_wp2_with (go_at_call 30; refine (byte_fr w B M w.heap.size (w.heap.size + 1) d iv kv cv iv kv g _ hF.out hS.c).mono ?_; rintro e w1 ⟨rfl, cv1, hF1, hk1, hs1⟩; have cP := hF1.cP; have cD := hF1.cD; have lM := hF1.at'.m.lt; replace hF1 := hid hF1; clear hk1)
  have hF1D := hid hF1.out.drew
  refine wp_region_till (fun w' => w'.cell? ⟨w.heap.size, 0, none⟩ = some (.pointer (some ⟨M, 0, none⟩))) 12 (by kernel_rfl) ?_
  refine wpTill_reads 9 [0, 2, 7] (by kernel_rfl) ?_ ?_ ?_
  · intro c a d v w h; cases d <;> exact h
  · exact cP
  iterate 3 (refine wpReads_cons (v := ?_) rfl (yieldsIf_yes rfl fun w' hw => ?_) ?_; rotate_left; (first | (go_simp; done) | (go_simp; exact rfl)); simp only [Act.put, List.setIfInBounds_toArray, List.set_cons_zero, List.set_cons_succ, List.getElem_toArray, List.getElem_cons_zero, List.getElem_cons_succ])
  refine wpReads_nil ?_
  simp only [listAll]
  refine wpTill_two (i := 1) (j := 3) (by kernel_rfl) rfl rfl rfl rfl ?_ ?_
  · intro K hK
    go_step
    obtain ⟨wA, hwA⟩ : ∃ wA, (w1.alloc (.cells #[.int .i64 12, .int .i64 13] 3)).drew = wA := ⟨_, rfl⟩
    rw [hwA]
    have hFA := hid (show Fr w B M w.heap.size (w.heap.size + 1) d iv kv wA _ _ _ _ from hwA ▸ (hF1.out.alloc _).drew)
    have cEA : wA.cell? ⟨w1.heap.size, m, none⟩ = some (.int .i64 (op : Int)) := by rw [← hwA]; exact Hel.out w1
    have hbM : w1.heap.size ≠ M := by omega
    have hbi : iv.ownBlock ≠ some w1.heap.size := fun e => by have := (hF1.out.at'.ins.lt _ e).2; omega
    obtain ⟨b, hb⟩ : ∃ b, w1.heap.size = b := ⟨_, rfl⟩
    rw [hb] at cEA hbM hbi
    refine hK _ _ ⟨fun _ => hFA.out.cP, ?_⟩
    try rw [hb]
    refine wpTill_weaken (S' := fun w' => w'.cell? ⟨w.heap.size, 0, none⟩ = some (.pointer (some ⟨M, 0, none⟩)) ∧ w'.cell? ⟨b, m, none⟩ = some (.int .i64 (op : Int))) (fun _ h => h.1) _ _ _ _ ?_
    refine wpTill_one (i := 3) (by kernel_rfl) rfl rfl ?_
    intro K2 hK2
    go_step
    (go_at_call 30; refine (byte_fr w B M w.heap.size (w.heap.size + 1) d iv kv cv1 iv kv (nx g) _ hFA.out z0.c).mono ?_; rintro e w2 ⟨rfl, cv2, hF2, hk2, hs2⟩; have lM2 := hF2.at'.m.lt; have cE2 : w2.cell? ⟨b, m, none⟩ = some (.int .i64 (op : Int)) := hk2 _ _ _ hbM cEA; replace hF2 := hid hF2; clear hk2)
    refine hK2 _ _ ⟨fun _ => ⟨hF2.out.cP, cE2⟩, ?_⟩
    refine wpTill_reads 4 [4, 5, 6] (by kernel_rfl) ?_ ?_ ?_
    · intro c a d v w h; cases d <;> exact h
    · exact ⟨hF2.out.cP, cE2⟩
    iterate 3 (refine wpReads_cons (v := ?_) rfl (yieldsIf_yes rfl fun w' hw => ?_) ?_; rotate_left; (obtain ⟨hw1, hw2⟩ := hw; first | (go_simp; done) | (go_simp; exact rfl) | (go_simp; exact if_pos hm4i)); simp only [Act.put, List.setIfInBounds_toArray, List.set_cons_zero, List.set_cons_succ, List.getElem_toArray, List.getElem_cons_zero, List.getElem_cons_succ])
    refine wpReads_nil ?_
    simp only [listAll]
    refine wpTill_one (i := 8) (by kernel_rfl) rfl rfl ?_
    intro K3 hK3
    go_step
    (go_at_call 30; refine (byte_fr w B M w.heap.size (w.heap.size + 1) d iv kv cv2 iv kv (nx (nx g)) _ hF2.out z1.c).mono ?_; rintro e w3 ⟨rfl, cv3, hF3, hk3, hs3⟩; have lM3 := hF3.at'.m.lt; have cE3 : w3.cell? ⟨b, m, none⟩ = some (.int .i64 (op : Int)) := hk3 _ _ _ hbM cE2; replace hF3 := hid hF3; clear hk3)
    refine hK3 _ _ ⟨fun _ => ⟨hF3.out.cP, cE3⟩, ?_⟩
    refine wpTill_reads 1 [9, 10] (by kernel_rfl) ?_ ?_ ?_
    · intro c a d v w h; cases d <;> exact h
    · exact ⟨hF3.out.cP, cE3⟩
    iterate 2 (refine wpReads_cons (v := ?_) rfl (yieldsIf_yes rfl fun w' hw => ?_) ?_; rotate_left; (obtain ⟨hw1, hw2⟩ := hw; first | (go_simp; done) | (go_simp; exact rfl) | (go_simp; exact if_pos hm4i)); simp only [Act.put, List.setIfInBounds_toArray, List.set_cons_zero, List.set_cons_succ, List.getElem_toArray, List.getElem_cons_zero, List.getElem_cons_succ])
    refine wpReads_nil ?_
    simp only [listAll]
    refine wpTill_one (i := 11) (by kernel_rfl) rfl rfl ?_
    intro K4 hK4
    go_step
    (go_at_call 18; refine (put_fr2 w B M w.heap.size (w.heap.size + 1) d iv kv cv3 iv kv (nx (nx (nx g))) op ((z : Int) - 1) _ hF3.out z2.i b m (op : Int) cE3 hbM hbi).mono ?_; rintro e w9 ⟨rfl, iv9, hF9, hkp⟩; replace hF9 := hid hF9)
    refine hK4 _ _ ⟨fun _ => ⟨hF9.out.cP, hkp⟩, wpTill_done (by kernel_rfl) ?_ _⟩
    obtain ⟨a9, k9, c9⟩ := hF9.out.c1
    rw [HKK.out] at c9
    have cP9 := hF9.out.cP
    have cD9 := hF9.out.cD
    go_wp2_with (first | (go_at_call 15; refine (hbody _ iv10 kv (put (put (nx (nx (nx g))) op ((z : Int) - 1)) 14 0) _ hF10.out.at' (Nat.le_trans hF10.out.le.2.2 hF10.out.chg.size) (z4.mono (by omega))).mono ?_; rintro e w11 ⟨rfl, ⟨⟨cv11, iv11, kv11, q1, q2, q3⟩, q4⟩⟩; have hF11 := (hF10.out).step q1 q4 q2 q3; have cP := hF11.cP; have cD := hF11.cD; replace hF11 := hid hF11; clear q1 q2 q3 q4) | (go_at_call 18; refine (put_any B M _ iv9 kv (put (nx (nx (nx g))) op ((z : Int) - 1)) 14 0 _ hF9.out.at' z3.i).mono ?_; rintro e w10 ⟨rfl, iv10, q1, q2, q3⟩; have hF10 := (hF9.out).put q1 q2 q3; have cP := hF10.cP; have cD := hF10.cD; replace hF10 := hid hF10; clear q1 q2 q3))
    obtain ⟨gb, cap, v, p1, p2, p3, p4, p5, p6⟩ := hF11.out.patched Kx HLast.out
    have cP11 := hF11.out.cP
    rw [HZ.out] at p1
    have hPg : w.heap.size ≠ gb := by
      have h1 := hF11.out.at'.ins.2
      have h2 := hF11.out.ip
      have h3 : iv11 = .slice (some ⟨gb, 0, none⟩) Z cap := Option.some.inj ((hF11.out.at'.m.cell 1 rfl).symm.trans p1)
      intro e
      rw [h3] at h2
      exact h2 (by rw [e]; rfl)
    have hgP : gb ≠ w.heap.size := hPg.symm
    have hMg : M ≠ gb := p4.symm
    clear c9
    go_region_held3 (fun w' => w'.cell? ⟨w.heap.size, 0, none⟩ = some (.pointer (some ⟨M, 0, none⟩)) ∧ w'.cell? ⟨M, 1, none⟩ = some (.slice (some ⟨gb, 0, none⟩) Z cap)) (first | assumption | go_keep) (fail)
    go_wp2
    go_end0
    rw [He.out]
    exact ⟨rfl, ((p6.out Z).drew).to⟩
  · intro K hK
    go_step
    (go_at_call 30; refine (byte_fr w B M w.heap.size (w.heap.size + 1) d iv kv cv1 iv kv (nx g) _ hF1D.out z0.c).mono ?_; rintro e w2 ⟨rfl, cv2, hF2, hk2, hs2⟩; have lM2 := hF2.at'.m.lt; replace hF2 := hid hF2; clear hk2)
    refine hK _ _ ⟨fun _ => hF2.out.cP, ?_⟩
    refine wpTill_reads 7 [4] (by kernel_rfl) ?_ ?_ ?_
    · intro c a d v w h; cases d <;> exact h
    · exact hF2.out.cP
    iterate 1 (refine wpReads_cons (v := ?_) rfl (yieldsIf_yes rfl fun w' hw => ?_) ?_; rotate_left; (first | (go_simp; done) | (go_simp; exact rfl) | (go_simp; exact if_pos hm4i)); simp only [Act.put, List.setIfInBounds_toArray, List.set_cons_zero, List.set_cons_succ, List.getElem_toArray, List.getElem_cons_zero, List.getElem_cons_succ])
    refine wpReads_nil ?_
    simp only [listAll]
    refine wpTill_two (i := 1) (j := 8) (by kernel_rfl) rfl rfl rfl rfl ?_ ?_
    · intro K5 hK5
      go_step
      obtain ⟨wA, hwA⟩ : ∃ wA, (w2.alloc (.cells #[.int .i64 12, .int .i64 13] 3)) = wA := ⟨_, rfl⟩
      rw [hwA]
      have hFA := hid (show Fr w B M w.heap.size (w.heap.size + 1) d iv kv wA _ _ _ _ from hwA ▸ (hF2.out.alloc _))
      have cEA : wA.cell? ⟨w2.heap.size, m, none⟩ = some (.int .i64 (op : Int)) := by rw [← hwA]; exact Hel.out w2
      have hbM : w2.heap.size ≠ M := by omega
      have hbi : iv.ownBlock ≠ some w2.heap.size := fun e => by have := (hF2.out.at'.ins.lt _ e).2; omega
      obtain ⟨b, hb⟩ : ∃ b, w2.heap.size = b := ⟨_, rfl⟩
      rw [hb] at cEA hbM hbi
      refine hK5 _ _ ⟨fun _ => hFA.out.cP, ?_⟩
      try rw [hb]
      refine wpTill_weaken (S' := fun w' => w'.cell? ⟨w.heap.size, 0, none⟩ = some (.pointer (some ⟨M, 0, none⟩)) ∧ w'.cell? ⟨b, m, none⟩ = some (.int .i64 (op : Int))) (fun _ h => h.1) _ _ _ _ ?_
      refine wpTill_reads 4 [5, 6] (by kernel_rfl) ?_ ?_ ?_
      · intro c a d v w h; cases d <;> exact h
      · exact ⟨hFA.out.cP, cEA⟩
      iterate 2 (refine wpReads_cons (v := ?_) rfl (yieldsIf_yes rfl fun w' hw => ?_) ?_; rotate_left; (obtain ⟨hw1, hw2⟩ := hw; first | (go_simp; done) | (go_simp; exact rfl) | (go_simp; exact if_pos hm4i)); simp only [Act.put, List.setIfInBounds_toArray, List.set_cons_zero, List.set_cons_succ, List.getElem_toArray, List.getElem_cons_zero, List.getElem_cons_succ])
      refine wpReads_nil ?_
      simp only [listAll]
      refine wpTill_one (i := 8) (by kernel_rfl) rfl rfl ?_
      intro K6 hK6
      go_step
      (go_at_call 30; refine (byte_fr w B M w.heap.size (w.heap.size + 1) d iv kv cv2 iv kv (nx (nx g)) _ hFA.out z1.c).mono ?_; rintro e w3 ⟨rfl, cv3, hF3, hk3, hs3⟩; have lM3 := hF3.at'.m.lt; have cE3 : w3.cell? ⟨b, m, none⟩ = some (.int .i64 (op : Int)) := hk3 _ _ _ hbM cEA; replace hF3 := hid hF3; clear hk3)
      refine hK6 _ _ ⟨fun _ => ⟨hF3.out.cP, cE3⟩, ?_⟩
      refine wpTill_reads 1 [9, 10] (by kernel_rfl) ?_ ?_ ?_
      · intro c a d v w h; cases d <;> exact h
      · exact ⟨hF3.out.cP, cE3⟩
      iterate 2 (refine wpReads_cons (v := ?_) rfl (yieldsIf_yes rfl fun w' hw => ?_) ?_; rotate_left; (obtain ⟨hw1, hw2⟩ := hw; first | (go_simp; done) | (go_simp; exact rfl) | (go_simp; exact if_pos hm4i)); simp only [Act.put, List.setIfInBounds_toArray, List.set_cons_zero, List.set_cons_succ, List.getElem_toArray, List.getElem_cons_zero, List.getElem_cons_succ])
      refine wpReads_nil ?_
      simp only [listAll]
      refine wpTill_one (i := 11) (by kernel_rfl) rfl rfl ?_
      intro K7 hK7
      go_step
      (go_at_call 18; refine (put_fr2 w B M w.heap.size (w.heap.size + 1) d iv kv cv3 iv kv (nx (nx (nx g))) op ((z : Int) - 1) _ hF3.out z2.i b m (op : Int) cE3 hbM hbi).mono ?_; rintro e w9 ⟨rfl, iv9, hF9, hkp⟩; replace hF9 := hid hF9)
      refine hK7 _ _ ⟨fun _ => ⟨hF9.out.cP, hkp⟩, wpTill_done (by kernel_rfl) ?_ _⟩
      obtain ⟨a9, k9, c9⟩ := hF9.out.c1
      rw [HKK.out] at c9
      have cP9 := hF9.out.cP
      have cD9 := hF9.out.cD
      go_wp2_with (first | (go_at_call 15; refine (hbody _ iv10 kv (put (put (nx (nx (nx g))) op ((z : Int) - 1)) 14 0) _ hF10.out.at' (Nat.le_trans hF10.out.le.2.2 hF10.out.chg.size) (z4.mono (by omega))).mono ?_; rintro e w11 ⟨rfl, ⟨⟨cv11, iv11, kv11, q1, q2, q3⟩, q4⟩⟩; have hF11 := (hF10.out).step q1 q4 q2 q3; have cP := hF11.cP; have cD := hF11.cD; replace hF11 := hid hF11; clear q1 q2 q3 q4) | (go_at_call 18; refine (put_any B M _ iv9 kv (put (nx (nx (nx g))) op ((z : Int) - 1)) 14 0 _ hF9.out.at' z3.i).mono ?_; rintro e w10 ⟨rfl, iv10, q1, q2, q3⟩; have hF10 := (hF9.out).put q1 q2 q3; have cP := hF10.cP; have cD := hF10.cD; replace hF10 := hid hF10; clear q1 q2 q3))
      obtain ⟨gb, cap, v, p1, p2, p3, p4, p5, p6⟩ := hF11.out.patched Kx HLast.out
      have cP11 := hF11.out.cP
      rw [HZ.out] at p1
      have hPg : w.heap.size ≠ gb := by
        have h1 := hF11.out.at'.ins.2
        have h2 := hF11.out.ip
        have h3 : iv11 = .slice (some ⟨gb, 0, none⟩) Z cap := Option.some.inj ((hF11.out.at'.m.cell 1 rfl).symm.trans p1)
        intro e
        rw [h3] at h2
        exact h2 (by rw [e]; rfl)
      have hgP : gb ≠ w.heap.size := hPg.symm
      have hMg : M ≠ gb := p4.symm
      clear c9
      go_region_held3 (fun w' => w'.cell? ⟨w.heap.size, 0, none⟩ = some (.pointer (some ⟨M, 0, none⟩)) ∧ w'.cell? ⟨M, 1, none⟩ = some (.slice (some ⟨gb, 0, none⟩) Z cap)) (first | assumption | go_keep) (fail)
      go_wp2
      go_end0
      rw [He.out]
      exact ⟨rfl, ((p6.out Z).drew).to⟩
    · intro K5 hK5
      go_step
      (go_at_call 30; refine (byte_fr w B M w.heap.size (w.heap.size + 1) d iv kv cv2 iv kv (nx (nx g)) _ hF2.out z1.c).mono ?_; rintro e w3 ⟨rfl, cv3, hF3, hk3, hs3⟩; have lM3 := hF3.at'.m.lt; replace hF3 := hid hF3; clear hk3)
      refine hK5 _ _ ⟨fun _ => hF3.out.cP, ?_⟩
      refine wpTill_reads 4 [9, 10] (by kernel_rfl) ?_ ?_ ?_
      · intro c a d v w h; cases d <;> exact h
      · exact hF3.out.cP
      iterate 2 (refine wpReads_cons (v := ?_) rfl (yieldsIf_yes rfl fun w' hw => ?_) ?_; rotate_left; (first | (go_simp; done) | (go_simp; exact rfl) | (go_simp; exact if_pos hm4i)); simp only [Act.put, List.setIfInBounds_toArray, List.set_cons_zero, List.set_cons_succ, List.getElem_toArray, List.getElem_cons_zero, List.getElem_cons_succ])
      refine wpReads_nil ?_
      simp only [listAll]
      refine wpTill_one (i := 1) (by kernel_rfl) rfl rfl ?_
      intro K6 hK6
      go_step
      obtain ⟨wA, hwA⟩ : ∃ wA, (w3.alloc (.cells #[.int .i64 12, .int .i64 13] 3)) = wA := ⟨_, rfl⟩
      rw [hwA]
      have hFA := hid (show Fr w B M w.heap.size (w.heap.size + 1) d iv kv wA _ _ _ _ from hwA ▸ (hF3.out.alloc _))
      have cEA : wA.cell? ⟨w3.heap.size, m, none⟩ = some (.int .i64 (op : Int)) := by rw [← hwA]; exact Hel.out w3
      have hbM : w3.heap.size ≠ M := by omega
      have hbi : iv.ownBlock ≠ some w3.heap.size := fun e => by have := (hF3.out.at'.ins.lt _ e).2; omega
      obtain ⟨b, hb⟩ : ∃ b, w3.heap.size = b := ⟨_, rfl⟩
      rw [hb] at cEA hbM hbi
      refine hK6 _ _ ⟨fun _ => hFA.out.cP, ?_⟩
      try rw [hb]
      refine wpTill_weaken (S' := fun w' => w'.cell? ⟨w.heap.size, 0, none⟩ = some (.pointer (some ⟨M, 0, none⟩)) ∧ w'.cell? ⟨b, m, none⟩ = some (.int .i64 (op : Int))) (fun _ h => h.1) _ _ _ _ ?_
      refine wpTill_reads 1 [5, 6] (by kernel_rfl) ?_ ?_ ?_
      · intro c a d v w h; cases d <;> exact h
      · exact ⟨hFA.out.cP, cEA⟩
      iterate 2 (refine wpReads_cons (v := ?_) rfl (yieldsIf_yes rfl fun w' hw => ?_) ?_; rotate_left; (obtain ⟨hw1, hw2⟩ := hw; first | (go_simp; done) | (go_simp; exact rfl) | (go_simp; exact if_pos hm4i)); simp only [Act.put, List.setIfInBounds_toArray, List.set_cons_zero, List.set_cons_succ, List.getElem_toArray, List.getElem_cons_zero, List.getElem_cons_succ])
      refine wpReads_nil ?_
      simp only [listAll]
      refine wpTill_one (i := 11) (by kernel_rfl) rfl rfl ?_
      intro K7 hK7
      go_step
      (go_at_call 18; refine (put_fr2 w B M w.heap.size (w.heap.size + 1) d iv kv cv3 iv kv (nx (nx (nx g))) op ((z : Int) - 1) _ hFA.out z2.i b m (op : Int) cEA hbM hbi).mono ?_; rintro e w9 ⟨rfl, iv9, hF9, hkp⟩; replace hF9 := hid hF9)
      refine hK7 _ _ ⟨fun _ => ⟨hF9.out.cP, hkp⟩, wpTill_done (by kernel_rfl) ?_ _⟩
      obtain ⟨a9, k9, c9⟩ := hF9.out.c1
      rw [HKK.out] at c9
      have cP9 := hF9.out.cP
      have cD9 := hF9.out.cD
      go_wp2_with (first | (go_at_call 15; refine (hbody _ iv10 kv (put (put (nx (nx (nx g))) op ((z : Int) - 1)) 14 0) _ hF10.out.at' (Nat.le_trans hF10.out.le.2.2 hF10.out.chg.size) (z4.mono (by omega))).mono ?_; rintro e w11 ⟨rfl, ⟨⟨cv11, iv11, kv11, q1, q2, q3⟩, q4⟩⟩; have hF11 := (hF10.out).step q1 q4 q2 q3; have cP := hF11.cP; have cD := hF11.cD; replace hF11 := hid hF11; clear q1 q2 q3 q4) | (go_at_call 18; refine (put_any B M _ iv9 kv (put (nx (nx (nx g))) op ((z : Int) - 1)) 14 0 _ hF9.out.at' z3.i).mono ?_; rintro e w10 ⟨rfl, iv10, q1, q2, q3⟩; have hF10 := (hF9.out).put q1 q2 q3; have cP := hF10.cP; have cD := hF10.cD; replace hF10 := hid hF10; clear q1 q2 q3))
      obtain ⟨gb, cap, v, p1, p2, p3, p4, p5, p6⟩ := hF11.out.patched Kx HLast.out
      have cP11 := hF11.out.cP
      rw [HZ.out] at p1
      have hPg : w.heap.size ≠ gb := by
        have h1 := hF11.out.at'.ins.2
        have h2 := hF11.out.ip
        have h3 : iv11 = .slice (some ⟨gb, 0, none⟩) Z cap := Option.some.inj ((hF11.out.at'.m.cell 1 rfl).symm.trans p1)
        intro e
        rw [h3] at h2
        exact h2 (by rw [e]; rfl)
      have hgP : gb ≠ w.heap.size := hPg.symm
      have hMg : M ≠ gb := p4.symm
      clear c9
      go_region_held3 (fun w' => w'.cell? ⟨w.heap.size, 0, none⟩ = some (.pointer (some ⟨M, 0, none⟩)) ∧ w'.cell? ⟨M, 1, none⟩ = some (.slice (some ⟨gb, 0, none⟩) Z cap)) (first | assumption | go_keep) (fail)
      go_wp2
      go_end0
      rw [He.out]
      exact ⟨rfl, ((p6.out Z).drew).to⟩
end Go.Proofs.YtkhicabfmkldpaaDoor

namespace Go.Proofs.YtkhicabfmkldpaaDoor
open Go Go.RowKit

theorem Tryd.info98 : (Tryd.prog.info? 98).map (fun i => (i.zero, i.size, i.bytes)) = some (some (.agg #[.int .i64 0, .int .i64 0]), 2, 16) := by kernel_rfl

theorem callCells_snoc (l : List (Nat × Nat)) (i : Nat × Nat) : callCells (l ++ [i]) = callCells l ++ [.int .i64 (i.1 : Int), .int .i64 (i.2 : Int)] := by
  unfold callCells
  rw [List.flatMap_append, List.flatMap_singleton]

theorem Fr.m1 {w0 w1 : World} {B M P D : Nat} {d : Int} {iv0 kv0 cv iv kv : Value} {g g0 : Gen} {ai : Option Addr} {ci N : Nat} (h : Fr w0 B M P D d iv0 kv0 w1 cv iv kv g) (hiv : iv = .slice ai g0.ins.length ci) (hN : g0.ins.length = N) : w1.cell? ⟨M, 1, none⟩ = some (.slice ai N ci) := by
  have := h.at'.m.cell 1 (v := iv) rfl
  rw [hiv, hN] at this
  exact this
theorem Fr.m3 {w0 w1 : World} {B M P D : Nat} {d : Int} {iv0 kv0 cv iv kv : Value} {g g0 : Gen} {p : Nat} (h : Fr w0 B M P D d iv0 kv0 w1 cv iv kv g) (hp : g0.part = p) (hg : g.part = g0.part := by rfl) : w1.cell? ⟨M, 3, none⟩ = some (.int .i64 (p : Int)) := by
  have := h.at'.m.cell 3 (v := .int .i64 (g.part : Int)) rfl
  rw [hg, hp] at this
  exact this

theorem Fr.called {w0 w1 w2 : World} {B M P D : Nat} {d : Int} {iv0 kv0 cv iv kv : Value} {g : Gen} (h : Fr w0 B M P D d iv0 kv0 w1 cv iv kv g) {x y gb cap : Nat} (hgrow : w1.grownBy w2 kv.ownBlock) (hat : kv.ownBlock = some gb ∨ gb = w1.heap.size)
    (hown : w2.ownsRow B 98 2 (.slice (some ⟨gb, 0, none⟩) (g.calls.length + 1) cap) (g.calls.length + 1) (callCells g.calls ++ [.int .i64 (x : Int), .int .i64 (y : Int)])) :
    Fr w0 B M P D d iv0 kv0 (w2.setCell ⟨M, 2, none⟩ (.slice (some ⟨gb, 0, none⟩) (g.calls.length + 1) cap)) cv iv (.slice (some ⟨gb, 0, none⟩) (g.calls.length + 1) cap) { g with calls := g.calls ++ [(x, y)] } := by
  have hh := h.at'
  have hC : Chg (fun k => kv.ownBlock = some k) w1 w2 := ⟨hgrow.os, hgrow.tape, hgrow.output, hgrow.size, fun k hk hn => hgrow.block k hk (fun e => hn e.symm)⟩
  have hC2 : Chg (fun k => k = M ∨ kv.ownBlock = some k) w1 (w2.setCell ⟨M, 2, none⟩ (.slice (some ⟨gb, 0, none⟩) (g.calls.length + 1) cap)) := (hC.mono (fun _ _ e => .inr e)).setCell (fun _ => .inl rfl) _
  have hMg : M ≠ gb := by
    rcases hat with e | e
    · intro e2; exact hh.km (e2 ▸ e)
    · have := hh.m.lt; omega
  have hig : iv.ownBlock ≠ some gb := by
    rcases hat with e | e
    · exact fun e2 => hh.ik gb e2 e
    · intro e2; have := (hh.ins.lt gb e2).2; omega
  have hfr : Fresh w1 kv (.slice (some ⟨gb, 0, none⟩) (g.calls.length + 1) cap) := by
    rcases hat with e | e
    · exact .inl (by rw [e]; rfl)
    · exact .inr ⟨gb, rfl, by omega⟩
  refine h.step ?_ (hC2.mono (fun _ _ e => e.elim .inl (fun e => .inr (.inr e)))) (Fresh.refl _ _) hfr
  refine ⟨(hh.m.chg hC hh.km).set 2 _, ?_, hh.old, ?_, ?_, hh.im, by simp [Value.ownBlock]; omega, fun b hb e => by simp [Value.ownBlock] at e; exact hig (e ▸ hb), hh.le⟩
  · exact hh.code.chg hC2 (fun _ b hb e => by
      have h1 := hh.old b hb
      rcases e with e | e
      · have := hh.le; omega
      · have := (hh.calls.lt b e).1; omega)
  · exact World.ownsRow.chg hh.ins hC2 (fun b hb e => by
      rcases e with e | e
      · exact hh.im (e ▸ hb)
      · exact hh.ik b hb e)
  · show World.ownsRow _ B 98 2 _ (g.calls ++ [(x, y)]).length (callCells (g.calls ++ [(x, y)]))
    rw [List.length_append, callCells_snoc]
    exact World.ownsRow.chg hown ((Chg.refl (fun k => k = M) _).setCell (fun _ => rfl) _) (fun g' hg' e => by simp [Value.ownBlock] at hg'; omega)

set_option maxRecDepth 100000 in
set_option maxHeartbeats 2000000 in
theorem stm_15_0 (B M : Nat) (cv iv kv : Value) (g : Gen) (n : Nat) (d : Int) (hd2 : ¬ 3 ≤ d) (hd0 : 0 ≤ d) (w : World) (h : GenAt w B M cv iv kv g) (hB : B ≤ w.heap.size) (hS : Szd g (n + 8)) (hc : hd g % 16 = 15) (hp : g.part = 0) (z : Nat) (hz' : hd (nx g) % 2 = z) :
    Calls Tryd.prog 23 #[.pointer (some ⟨M, 0, none⟩), .int .i64 d] w fun e w' => e = .returned (.tuple #[]) ∧ GenTo B M iv kv (put { nx (nx g) with calls := g.calls ++ [(g.ins.length, 0 + 1 + z)] } 8 0) w w' := by
  obtain ⟨i0, hi, hz0, hz1, hz2⟩ := info_parts Tryd.info98
  have hF := hid (Fr.start (d := d) h hB)
  have e1 : (hd g : Int).tmod 16 = 15 := by rw [Int.tmod_eq_emod_of_nonneg (by omega)]; omega
  have z0 : Szd (nx g) (n + 8) := hS.nx
  have z1 : Szd (nx (nx g)) (n + 8) := z0.nx
  have z2 : Szd { nx (nx g) with calls := g.calls ++ [(g.ins.length, 0 + 1 + z)] } (n + 7) := ⟨z1.code, by have := z1.ins; show (nx (nx g)).ins.length + (n + 7) ≤ _; omega, by have := z1.calls; show (g.calls ++ [_]).length + (n + 7) ≤ _; have h2 : (nx (nx g)).calls.length = g.calls.length := rfl; simp; omega⟩
  have bz : z < 2 := by omega
  have tz : (hd (nx g) : Int).tmod 2 = (z : Int) := by rw [← hz']; exact tmod_nat _ 2
  obtain ⟨ai, ci, hiv⟩ : ∃ a c, iv = .slice a g.ins.length c := by
    rcases h.ins.2 with ⟨h1, h2⟩ | ⟨gb, cap, cur, h1, _⟩
    · exact ⟨none, 0, by rw [h2]; exact h1⟩
    · exact ⟨_, _, h1⟩
  obtain ⟨N, hN⟩ : ∃ N, g.ins.length = N := ⟨_, rfl⟩
  have hNb : N ≤ 1000000 := hN ▸ hS.i
  have HN := hid hN
  rw [hN]
  have Hpt := hid hp
  have Hiv := hid hiv
  have hcl : g.calls.length ≤ 1000000 := hS.k
  clear h hc hz' hN hiv hp
  go_enter Tryd.func23, Tryd.ntmps23
  go_wp2_with (go_at_call 30; refine (byte_any B M cv iv kv g _ hF.out.at' hS.c).mono ?_; rintro e w1 ⟨rfl, cv1, q1, q2⟩; have hF1 := hF.out.byte q1 q2; have cP := hF1.cP; have cD := hF1.cD; have c3 : w1.cell? ⟨M, 3, none⟩ = some (.int .i64 0) := hF1.m3 Hpt.out; have lM := hF1.at'.m.lt; replace hF1 := hid hF1; clear q1 q2)
  refine wp_region_till (fun w' => w'.cell? ⟨w.heap.size, 0, none⟩ = some (.pointer (some ⟨M, 0, none⟩)) ∧ w'.cell? ⟨M, 1, none⟩ = some (.slice ai N ci) ∧ w'.cell? ⟨M, 2, none⟩ = some kv ∧ w'.cell? ⟨M, 3, none⟩ = some (.int .i64 0)) 27 (by kernel_rfl) ?_
  refine wpTill_reads 9 [0, 1, 2, 3, 4, 5, 6, 7, 8, 9, 10, 11, 12, 13, 14, 15, 17, 18, 19, 20, 21] (by kernel_rfl) ?_ ?_ ?_
  · intro c a d v w h; cases d <;> exact h
  · exact ⟨hF1.out.drew.cP, hF1.out.drew.m1 Hiv.out HN.out, hF1.out.drew.at'.m.cell 2 rfl, hF1.out.drew.m3 Hpt.out⟩
  iterate 21 (refine wpReads_cons (v := ?_) rfl (yieldsIf_yes rfl fun w' hw => ?_) ?_; rotate_left; (obtain ⟨hw1, hw2, hw3, hw4⟩ := hw; first | (go_simp; done) | (go_simp; exact rfl)); simp only [Act.put, List.setIfInBounds_toArray, List.set_cons_zero, List.set_cons_succ, List.getElem_toArray, List.getElem_cons_zero, List.getElem_cons_succ])
  refine wpReads_nil ?_
  simp only [listAll]
  refine wpTill_one (i := 16) (by kernel_rfl) rfl rfl ?_
  intro K1 hK1
  go_step
  (go_at_call 30; refine (byte_any B M cv1 iv kv (nx g) _ hF1.out.drew.at' z0.c).mono ?_; rintro e w2 ⟨rfl, cv2, q1, q2⟩; have hF2 := (hF1.out.drew).byte q1 q2; have lM2 := hF2.at'.m.lt; replace hF2 := hid hF2; clear q1 q2)
  refine hK1 _ _ ⟨fun _ => ⟨hF2.out.cP, hF2.out.m1 Hiv.out HN.out, hF2.out.at'.m.cell 2 rfl, hF2.out.m3 Hpt.out⟩, ?_⟩
  refine wpTill_reads 5 [22, 23, 24] (by kernel_rfl) ?_ ?_ ?_
  · intro c a d v w h; cases d <;> exact h
  · exact ⟨hF2.out.cP, hF2.out.m1 Hiv.out HN.out, hF2.out.at'.m.cell 2 rfl, hF2.out.m3 Hpt.out⟩
  iterate 3 (refine wpReads_cons (v := ?_) rfl (yieldsIf_yes rfl fun w' hw => ?_) ?_; rotate_left; (obtain ⟨hw1, hw2, hw3, hw4⟩ := hw; first | (go_simp; done) | (go_simp; exact rfl)); simp only [Act.put, List.setIfInBounds_toArray, List.set_cons_zero, List.set_cons_succ, List.getElem_toArray, List.getElem_cons_zero, List.getElem_cons_succ])
  refine wpReads_nil ?_
  simp only [listAll]
  refine wpTill_one (i := 25) (by kernel_rfl) rfl rfl ?_
  intro K2 hK2
  go_step
  have hy : ((0 + 1 + z : Nat) : Int) = 1 + (z : Int) := by omega
  obtain ⟨wm, hwm⟩ : ∃ wm, w2.alloc (.cells #[.int .i64 (N : Int), .int .i64 (1 + (z : Int))] 98) = wm := ⟨_, rfl⟩
  rw [hwm]
  have hF3 := hid (show Fr w B M w.heap.size (w.heap.size + 1) d iv kv wm cv2 iv kv (nx (nx g)) from hwm ▸ hF2.out.alloc _)
  have hnew : blk wm w2.heap.size #[.int .i64 (N : Int), .int .i64 (1 + (z : Int))] 98 := hwm ▸ blk_new w2 _ _
  have hszm : wm.heap.size = w2.heap.size + 1 := by rw [← hwm]; simp
  have hBm : B ≤ w2.heap.size + 1 := by have := hF2.out.at'.le; omega
  refine hK2 _ _ ⟨fun _ => ⟨hF3.out.cP, hF3.out.m1 Hiv.out HN.out, hF3.out.at'.m.cell 2 rfl, hF3.out.m3 Hpt.out⟩, ?_⟩
  clear hK2 K2 hwm
  refine wpTill_one (i := 26) (by kernel_rfl) rfl rfl ?_
  intro K3 hK3
  refine wp_append_lies _ _ _ _ (by rfl) B 98 i0 _ 2 16 (by kernel_rfl) hi hz0 hz1 hz2 rfl (by omega) kv g.calls.length (callCells g.calls) (by rfl) hF3.out.at'.calls
    ⟨w2.heap.size, 0, none⟩ 1 1 [.int .i64 (N : Int), .int .i64 (1 + (z : Int))] (by rfl) (by rfl) (World.news_of_block (cs := #[.int .i64 (N : Int), .int .i64 (1 + (z : Int))]) (t := 98) (fr := (0, 0)) hnew) (by simp [Value.oneCell'])
    (by omega) (by unfold maxLen; omega) (by omega) (by rw [hszm]; exact hBm) (w2.heap.size + 1) hszm ?_
  intro g1 cap w3 hown hgrow hat hlt
  have hC : Chg (fun k => kv.ownBlock = some k) wm w3 := ⟨hgrow.os, hgrow.tape, hgrow.output, hgrow.size, fun k hk hn => hgrow.block k hk (fun e => hn e.symm)⟩
  have cPw := (hF3.out.p.chg hC hF3.out.kp).cell 0 (v := .pointer (some ⟨M, 0, none⟩)) rfl
  have hMw := hF3.out.at'.m.chg hC hF3.out.at'.km
  have m1w : w3.cell? ⟨M, 1, none⟩ = some (.slice ai N ci) := by have := hMw.cell 1 (v := iv) rfl; rw [Hiv.out, HN.out] at this; exact this
  have m2w : w3.cell? ⟨M, 2, none⟩ = some kv := hMw.cell 2 rfl
  have m3w : w3.cell? ⟨M, 3, none⟩ = some (.int .i64 0) := by
    have := hMw.cell 3 (v := .int .i64 ((nx (nx g)).part : Int)) rfl
    rw [show (nx (nx g)).part = 0 from Hpt.out] at this
    exact this
  have f2w : w3.frozen? ⟨M, 2, none⟩ = false := hMw.free 2
  rw [← hy] at hown
  have hFc := hid (hF3.out.called (g := nx (nx g)) (x := N) (y := 0 + 1 + z) hgrow (by rw [hszm]; exact hat) hown)
  refine hK3 _ _ ⟨fun _ => ⟨cPw, m1w, m2w, m3w⟩, ?_⟩
  clear hK3 K3 hown hgrow hat hC
  refine wpTill_one (i := 27) (by kernel_rfl) rfl rfl ?_
  intro K4 hK4
  go_step
  refine hK4 _ _ ⟨fun h => absurd h (by decide), ?_⟩
  clear hK4 K4
  refine wpTill_one (i := 28) (by kernel_rfl) rfl rfl ?_
  intro K5 hK5
  go_step
  refine hK5 _ _ ⟨fun h => absurd h (by decide), ?_⟩
  clear hK5 K5
  refine wpTill_one (i := 29) (by kernel_rfl) rfl rfl ?_
  intro K6 hK6
  go_step
  refine hK6 _ _ ⟨fun h => absurd h (by decide), ?_⟩
  clear hK6 K6
  refine wpTill_done (by kernel_rfl) ?_ _
  have cPz := hFc.out.cP
  go_wp2_with (go_at_call 18; refine (put_any B M cv2 iv _ { nx (nx g) with calls := g.calls ++ [(N, 0 + 1 + z)] } 8 0 _ hFc.out.at' (by have := z1.i; exact this)).mono ?_; rintro e w4 ⟨rfl, iv4, q1, q2, q3⟩; have hF4 := (hFc.out).put q1 q2 q3; replace hF4 := hid hF4; clear q1 q2 q3)
  go_end0
  exact ⟨rfl, hF4.out.to⟩

set_option maxRecDepth 100000 in
set_option maxHeartbeats 2000000 in
theorem stm_15_1 (B M : Nat) (cv iv kv : Value) (g : Gen) (n : Nat) (d : Int) (hd2 : ¬ 3 ≤ d) (hd0 : 0 ≤ d) (w : World) (h : GenAt w B M cv iv kv g) (hB : B ≤ w.heap.size) (hS : Szd g (n + 8)) (hc : hd g % 16 = 15) (hp : g.part = 1) (z : Nat) (hz' : hd (nx g) % 1 = z) :
    Calls Tryd.prog 23 #[.pointer (some ⟨M, 0, none⟩), .int .i64 d] w fun e w' => e = .returned (.tuple #[]) ∧ GenTo B M iv kv (put { nx (nx g) with calls := g.calls ++ [(g.ins.length, 1 + 1 + z)] } 8 0) w w' := by
  obtain ⟨i0, hi, hz0, hz1, hz2⟩ := info_parts Tryd.info98
  have hF := hid (Fr.start (d := d) h hB)
  have e1 : (hd g : Int).tmod 16 = 15 := by rw [Int.tmod_eq_emod_of_nonneg (by omega)]; omega
  have z0 : Szd (nx g) (n + 8) := hS.nx
  have z1 : Szd (nx (nx g)) (n + 8) := z0.nx
  have z2 : Szd { nx (nx g) with calls := g.calls ++ [(g.ins.length, 1 + 1 + z)] } (n + 7) := ⟨z1.code, by have := z1.ins; show (nx (nx g)).ins.length + (n + 7) ≤ _; omega, by have := z1.calls; show (g.calls ++ [_]).length + (n + 7) ≤ _; have h2 : (nx (nx g)).calls.length = g.calls.length := rfl; simp; omega⟩
  have bz : z < 1 := by omega
  have tz : (hd (nx g) : Int).tmod 1 = (z : Int) := by rw [← hz']; exact tmod_nat _ 1
  obtain ⟨ai, ci, hiv⟩ : ∃ a c, iv = .slice a g.ins.length c := by
    rcases h.ins.2 with ⟨h1, h2⟩ | ⟨gb, cap, cur, h1, _⟩
    · exact ⟨none, 0, by rw [h2]; exact h1⟩
    · exact ⟨_, _, h1⟩
  obtain ⟨N, hN⟩ : ∃ N, g.ins.length = N := ⟨_, rfl⟩
  have hNb : N ≤ 1000000 := hN ▸ hS.i
  have HN := hid hN
  rw [hN]
  have Hpt := hid hp
  have Hiv := hid hiv
  have hcl : g.calls.length ≤ 1000000 := hS.k
  clear h hc hz' hN hiv hp
  go_enter Tryd.func23, Tryd.ntmps23
  go_wp2_with (go_at_call 30; refine (byte_any B M cv iv kv g _ hF.out.at' hS.c).mono ?_; rintro e w1 ⟨rfl, cv1, q1, q2⟩; have hF1 := hF.out.byte q1 q2; have cP := hF1.cP; have cD := hF1.cD; have c3 : w1.cell? ⟨M, 3, none⟩ = some (.int .i64 1) := hF1.m3 Hpt.out; have lM := hF1.at'.m.lt; replace hF1 := hid hF1; clear q1 q2)
  refine wp_region_till (fun w' => w'.cell? ⟨w.heap.size, 0, none⟩ = some (.pointer (some ⟨M, 0, none⟩)) ∧ w'.cell? ⟨M, 1, none⟩ = some (.slice ai N ci) ∧ w'.cell? ⟨M, 2, none⟩ = some kv ∧ w'.cell? ⟨M, 3, none⟩ = some (.int .i64 1)) 27 (by kernel_rfl) ?_
  refine wpTill_reads 9 [0, 1, 2, 3, 4, 5, 6, 7, 8, 9, 10, 11, 12, 13, 14, 15, 17, 18, 19, 20, 21] (by kernel_rfl) ?_ ?_ ?_
  · intro c a d v w h; cases d <;> exact h
  · exact ⟨hF1.out.drew.cP, hF1.out.drew.m1 Hiv.out HN.out, hF1.out.drew.at'.m.cell 2 rfl, hF1.out.drew.m3 Hpt.out⟩
  iterate 21 (refine wpReads_cons (v := ?_) rfl (yieldsIf_yes rfl fun w' hw => ?_) ?_; rotate_left; (obtain ⟨hw1, hw2, hw3, hw4⟩ := hw; first | (go_simp; done) | (go_simp; exact rfl)); simp only [Act.put, List.setIfInBounds_toArray, List.set_cons_zero, List.set_cons_succ, List.getElem_toArray, List.getElem_cons_zero, List.getElem_cons_succ])
  refine wpReads_nil ?_
  simp only [listAll]
  refine wpTill_one (i := 16) (by kernel_rfl) rfl rfl ?_
  intro K1 hK1
  go_step
  (go_at_call 30; refine (byte_any B M cv1 iv kv (nx g) _ hF1.out.drew.at' z0.c).mono ?_; rintro e w2 ⟨rfl, cv2, q1, q2⟩; have hF2 := (hF1.out.drew).byte q1 q2; have lM2 := hF2.at'.m.lt; replace hF2 := hid hF2; clear q1 q2)
  refine hK1 _ _ ⟨fun _ => ⟨hF2.out.cP, hF2.out.m1 Hiv.out HN.out, hF2.out.at'.m.cell 2 rfl, hF2.out.m3 Hpt.out⟩, ?_⟩
  refine wpTill_reads 5 [22, 23, 24] (by kernel_rfl) ?_ ?_ ?_
  · intro c a d v w h; cases d <;> exact h
  · exact ⟨hF2.out.cP, hF2.out.m1 Hiv.out HN.out, hF2.out.at'.m.cell 2 rfl, hF2.out.m3 Hpt.out⟩
  iterate 3 (refine wpReads_cons (v := ?_) rfl (yieldsIf_yes rfl fun w' hw => ?_) ?_; rotate_left; (obtain ⟨hw1, hw2, hw3, hw4⟩ := hw; first | (go_simp; done) | (go_simp; exact rfl)); simp only [Act.put, List.setIfInBounds_toArray, List.set_cons_zero, List.set_cons_succ, List.getElem_toArray, List.getElem_cons_zero, List.getElem_cons_succ])
  refine wpReads_nil ?_
  simp only [listAll]
  refine wpTill_one (i := 25) (by kernel_rfl) rfl rfl ?_
  intro K2 hK2
  go_step
  have hy : ((1 + 1 + z : Nat) : Int) = 2 + (z : Int) := by omega
  obtain ⟨wm, hwm⟩ : ∃ wm, w2.alloc (.cells #[.int .i64 (N : Int), .int .i64 (2 + (z : Int))] 98) = wm := ⟨_, rfl⟩
  rw [hwm]
  have hF3 := hid (show Fr w B M w.heap.size (w.heap.size + 1) d iv kv wm cv2 iv kv (nx (nx g)) from hwm ▸ hF2.out.alloc _)
  have hnew : blk wm w2.heap.size #[.int .i64 (N : Int), .int .i64 (2 + (z : Int))] 98 := hwm ▸ blk_new w2 _ _
  have hszm : wm.heap.size = w2.heap.size + 1 := by rw [← hwm]; simp
  have hBm : B ≤ w2.heap.size + 1 := by have := hF2.out.at'.le; omega
  refine hK2 _ _ ⟨fun _ => ⟨hF3.out.cP, hF3.out.m1 Hiv.out HN.out, hF3.out.at'.m.cell 2 rfl, hF3.out.m3 Hpt.out⟩, ?_⟩
  clear hK2 K2 hwm
  refine wpTill_one (i := 26) (by kernel_rfl) rfl rfl ?_
  intro K3 hK3
  refine wp_append_lies _ _ _ _ (by rfl) B 98 i0 _ 2 16 (by kernel_rfl) hi hz0 hz1 hz2 rfl (by omega) kv g.calls.length (callCells g.calls) (by rfl) hF3.out.at'.calls
    ⟨w2.heap.size, 0, none⟩ 1 1 [.int .i64 (N : Int), .int .i64 (2 + (z : Int))] (by rfl) (by rfl) (World.news_of_block (cs := #[.int .i64 (N : Int), .int .i64 (2 + (z : Int))]) (t := 98) (fr := (0, 0)) hnew) (by simp [Value.oneCell'])
    (by omega) (by unfold maxLen; omega) (by omega) (by rw [hszm]; exact hBm) (w2.heap.size + 1) hszm ?_
  intro g1 cap w3 hown hgrow hat hlt
  have hC : Chg (fun k => kv.ownBlock = some k) wm w3 := ⟨hgrow.os, hgrow.tape, hgrow.output, hgrow.size, fun k hk hn => hgrow.block k hk (fun e => hn e.symm)⟩
  have cPw := (hF3.out.p.chg hC hF3.out.kp).cell 0 (v := .pointer (some ⟨M, 0, none⟩)) rfl
  have hMw := hF3.out.at'.m.chg hC hF3.out.at'.km
  have m1w : w3.cell? ⟨M, 1, none⟩ = some (.slice ai N ci) := by have := hMw.cell 1 (v := iv) rfl; rw [Hiv.out, HN.out] at this; exact this
  have m2w : w3.cell? ⟨M, 2, none⟩ = some kv := hMw.cell 2 rfl
  have m3w : w3.cell? ⟨M, 3, none⟩ = some (.int .i64 1) := by
    have := hMw.cell 3 (v := .int .i64 ((nx (nx g)).part : Int)) rfl
    rw [show (nx (nx g)).part = 1 from Hpt.out] at this
    exact this
  have f2w : w3.frozen? ⟨M, 2, none⟩ = false := hMw.free 2
  rw [← hy] at hown
  have hFc := hid (hF3.out.called (g := nx (nx g)) (x := N) (y := 1 + 1 + z) hgrow (by rw [hszm]; exact hat) hown)
  refine hK3 _ _ ⟨fun _ => ⟨cPw, m1w, m2w, m3w⟩, ?_⟩
  clear hK3 K3 hown hgrow hat hC
  refine wpTill_one (i := 27) (by kernel_rfl) rfl rfl ?_
  intro K4 hK4
  go_step
  refine hK4 _ _ ⟨fun h => absurd h (by decide), ?_⟩
  clear hK4 K4
  refine wpTill_one (i := 28) (by kernel_rfl) rfl rfl ?_
  intro K5 hK5
  go_step
  refine hK5 _ _ ⟨fun h => absurd h (by decide), ?_⟩
  clear hK5 K5
  refine wpTill_one (i := 29) (by kernel_rfl) rfl rfl ?_
  intro K6 hK6
  go_step
  refine hK6 _ _ ⟨fun h => absurd h (by decide), ?_⟩
  clear hK6 K6
  refine wpTill_done (by kernel_rfl) ?_ _
  have cPz := hFc.out.cP
  go_wp2_with (go_at_call 18; refine (put_any B M cv2 iv _ { nx (nx g) with calls := g.calls ++ [(N, 1 + 1 + z)] } 8 0 _ hFc.out.at' (by have := z1.i; exact this)).mono ?_; rintro e w4 ⟨rfl, iv4, q1, q2, q3⟩; have hF4 := (hFc.out).put q1 q2 q3; replace hF4 := hid hF4; clear q1 q2 q3)
  go_end0
  exact ⟨rfl, hF4.out.to⟩

set_option maxRecDepth 100000 in
set_option maxHeartbeats 1000000 in
theorem stm_15_no (B M : Nat) (cv iv kv : Value) (g : Gen) (n : Nat) (d : Int) (hd2 : ¬ 3 ≤ d) (hd0 : 0 ≤ d) (w : World) (h : GenAt w B M cv iv kv g) (hB : B ≤ w.heap.size) (hS : Szd g (n + 8)) (hc : hd g % 16 = 15) (hp : ¬ g.part < 2) :
    Calls Tryd.prog 23 #[.pointer (some ⟨M, 0, none⟩), .int .i64 d] w fun e w' => e = .returned (.tuple #[]) ∧ GenTo B M iv kv (nx g) w w' := by
  have hF := hid (Fr.start (d := d) h hB)
  have e1 : (hd g : Int).tmod 16 = 15 := by rw [Int.tmod_eq_emod_of_nonneg (by omega)]; omega
  obtain ⟨pt, hpt⟩ : ∃ pt, g.part = pt := ⟨_, rfl⟩
  have hp2 : ¬ (pt : Int) < 2 := by omega
  have Hpt := hid hpt
  clear h hc hpt hp
  go_enter Tryd.func23, Tryd.ntmps23
  go_wp2_with (go_at_call 30; refine (byte_any B M cv iv kv g _ hF.out.at' hS.c).mono ?_; rintro e w1 ⟨rfl, cv1, q1, q2⟩; have hF1 := hF.out.byte q1 q2; have cP := hF1.cP; have cD := hF1.cD; have c3 : w1.cell? ⟨M, 3, none⟩ = some (.int .i64 (pt : Int)) := hF1.m3 Hpt.out; replace hF1 := hid hF1; clear q1 q2)
  go_end0
  exact ⟨rfl, hF1.out.to⟩
end Go.Proofs.YtkhicabfmkldpaaDoor
