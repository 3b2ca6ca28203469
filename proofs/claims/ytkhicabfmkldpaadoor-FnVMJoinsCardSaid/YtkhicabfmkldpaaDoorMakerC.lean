/-
  The maker of programs: its statements, one theorem a kind.
-/
import Derived.Test.YtkhicabfmkldpaaDoorMaker
set_option linter.unusedSimpArgs false
set_option linter.unusedVariables false
namespace Go.Proofs.YtkhicabfmkldpaaDoor
open Go Go.RowKit

set_option maxRecDepth 100000 in
set_option maxHeartbeats 1000000 in
theorem stm_0 (B M : Nat) (cv iv kv : Value) (g : Gen) (n : Nat) (d : Int) (hd2 : ¬ 3 ≤ d) (hd0 : 0 ≤ d) (F : Gen → Gen) (hbody : BodyOk B M n (d + 1) F) (hz : BodyZ n F) (w : World) (h : GenAt w B M cv iv kv g) (hB : B ≤ w.heap.size) (hS : Szd g (n + 8)) (hc : hd g % 16 = 0) :
    Calls Tryd.prog 23 #[.pointer (some ⟨M, 0, none⟩), .int .i64 d] w fun e w' => e = .returned (.tuple #[]) ∧ GenTo B M iv kv (put (nx (nx g)) 0 (kindOf (hd (nx g)))) w w' := by
  have hF := hid (Fr.start (d := d) h hB)
  have e1 : (hd g : Int).tmod 16 = 0 := by rw [Int.tmod_eq_emod_of_nonneg (by omega)]; omega
  have z0 : Szd (nx g) (n + 8) := hS.nx
  have z1 : Szd (nx (nx g)) (n + 8) := z0.nx
  have z2 : Szd (put (nx (nx g)) 0 (kindOf (hd (nx g)))) (n + 7) := z1.put _ _
  clear h hc
  go_enter Tryd.func23, Tryd.ntmps23
  go_wp2_with (first | (go_at_call 30; refine (byte_any B M cv iv kv g _ hF.out.at' hS.c).mono ?_; rintro e w1 ⟨rfl, cv1, q1, q2⟩; have hF1 := hF.out.byte q1 q2; have cP := hF1.cP; have cD := hF1.cD; replace hF1 := hid hF1; clear q1 q2))
  go_region_held3 (fun w' => w'.cell? ⟨w.heap.size, 0, none⟩ = some (.pointer (some ⟨M, 0, none⟩))) (first | assumption | go_keep) (first | (go_at_call 18; refine (put_any B M cv2 iv kv (nx (nx g)) 0 (kindOf (hd (nx g))) _ hF2.out.at' z1.i).mono ?_; rintro e w3 ⟨rfl, iv3, q1, q2, q3⟩; have hF3 := (hF2.out).put q1 q2 q3; have cP := hF3.cP; have cD := hF3.cD; replace hF3 := hid hF3; clear q1 q2 q3) | (go_at_call 34; refine (kind_any B M cv1 iv kv (nx g) _ hF1.out.drew.at' z0.c).mono ?_; rintro e w2 ⟨rfl, cv2, q1, q2⟩; have hF2 := (hF1.out.drew).byte q1 q2; have cP := hF2.cP; have cD := hF2.cD; replace hF2 := hid hF2; clear q1 q2))
  go_wp2
  go_end0
  exact ⟨rfl, hF3.out.to⟩

set_option maxRecDepth 100000 in
set_option maxHeartbeats 1000000 in
theorem stm_1 (B M : Nat) (cv iv kv : Value) (g : Gen) (n : Nat) (d : Int) (hd2 : ¬ 3 ≤ d) (hd0 : 0 ≤ d) (F : Gen → Gen) (hbody : BodyOk B M n (d + 1) F) (hz : BodyZ n F) (w : World) (h : GenAt w B M cv iv kv g) (hB : B ≤ w.heap.size) (hS : Szd g (n + 8)) (hc : hd g % 16 = 1) :
    Calls Tryd.prog 23 #[.pointer (some ⟨M, 0, none⟩), .int .i64 d] w fun e w' => e = .returned (.tuple #[]) ∧ GenTo B M iv kv (put (nx (nx g)) 1 (kindOf (hd (nx g)))) w w' := by
  have hF := hid (Fr.start (d := d) h hB)
  have e1 : (hd g : Int).tmod 16 = 1 := by rw [Int.tmod_eq_emod_of_nonneg (by omega)]; omega
  have z0 : Szd (nx g) (n + 8) := hS.nx
  have z1 : Szd (nx (nx g)) (n + 8) := z0.nx
  have z2 : Szd (put (nx (nx g)) 1 (kindOf (hd (nx g)))) (n + 7) := z1.put _ _
  clear h hc
  go_enter Tryd.func23, Tryd.ntmps23
  go_wp2_with (first | (go_at_call 30; refine (byte_any B M cv iv kv g _ hF.out.at' hS.c).mono ?_; rintro e w1 ⟨rfl, cv1, q1, q2⟩; have hF1 := hF.out.byte q1 q2; have cP := hF1.cP; have cD := hF1.cD; replace hF1 := hid hF1; clear q1 q2))
  go_region_held3 (fun w' => w'.cell? ⟨w.heap.size, 0, none⟩ = some (.pointer (some ⟨M, 0, none⟩))) (first | assumption | go_keep) (first | (go_at_call 18; refine (put_any B M cv2 iv kv (nx (nx g)) 1 (kindOf (hd (nx g))) _ hF2.out.at' z1.i).mono ?_; rintro e w3 ⟨rfl, iv3, q1, q2, q3⟩; have hF3 := (hF2.out).put q1 q2 q3; have cP := hF3.cP; have cD := hF3.cD; replace hF3 := hid hF3; clear q1 q2 q3) | (go_at_call 34; refine (kind_any B M cv1 iv kv (nx g) _ hF1.out.drew.at' z0.c).mono ?_; rintro e w2 ⟨rfl, cv2, q1, q2⟩; have hF2 := (hF1.out.drew).byte q1 q2; have cP := hF2.cP; have cD := hF2.cD; replace hF2 := hid hF2; clear q1 q2))
  go_wp2
  go_end0
  exact ⟨rfl, hF3.out.to⟩

set_option maxRecDepth 100000 in
set_option maxHeartbeats 1000000 in
theorem stm_2 (B M : Nat) (cv iv kv : Value) (g : Gen) (n : Nat) (d : Int) (hd2 : ¬ 3 ≤ d) (hd0 : 0 ≤ d) (F : Gen → Gen) (hbody : BodyOk B M n (d + 1) F) (hz : BodyZ n F) (w : World) (h : GenAt w B M cv iv kv g) (hB : B ≤ w.heap.size) (hS : Szd g (n + 8)) (hc : hd g % 16 = 2) :
    Calls Tryd.prog 23 #[.pointer (some ⟨M, 0, none⟩), .int .i64 d] w fun e w' => e = .returned (.tuple #[]) ∧ GenTo B M iv kv (put (put (nx (nx g)) 0 (kindOf (hd (nx g)))) 1 (kindOf (hd (nx g)))) w w' := by
  have hF := hid (Fr.start (d := d) h hB)
  have e1 : (hd g : Int).tmod 16 = 2 := by rw [Int.tmod_eq_emod_of_nonneg (by omega)]; omega
  have z0 : Szd (nx g) (n + 8) := hS.nx
  have z1 : Szd (nx (nx g)) (n + 8) := z0.nx
  have z2 : Szd (put (nx (nx g)) 0 (kindOf (hd (nx g)))) (n + 7) := z1.put _ _
  have z3 : Szd (put (put (nx (nx g)) 0 (kindOf (hd (nx g)))) 1 (kindOf (hd (nx g)))) (n + 6) := z2.put _ _
  clear h hc
  go_enter Tryd.func23, Tryd.ntmps23
  go_wp2_with (first | (go_at_call 18; refine (put_any B M cv2 iv3 kv (put (nx (nx g)) 0 (kindOf (hd (nx g)))) 1 (kindOf (hd (nx g))) _ hF3.out.at' z2.i).mono ?_; rintro e w4 ⟨rfl, iv4, q1, q2, q3⟩; have hF4 := (hF3.out).put q1 q2 q3; have cP := hF4.cP; have cD := hF4.cD; replace hF4 := hid hF4; clear q1 q2 q3) | (go_at_call 18; refine (put_any B M cv2 iv kv (nx (nx g)) 0 (kindOf (hd (nx g))) _ hF2.out.at' z1.i).mono ?_; rintro e w3 ⟨rfl, iv3, q1, q2, q3⟩; have hF3 := (hF2.out).put q1 q2 q3; have cP := hF3.cP; have cD := hF3.cD; replace hF3 := hid hF3; clear q1 q2 q3) | (go_at_call 34; refine (kind_any B M cv1 iv kv (nx g) _ hF1.out.at' z0.c).mono ?_; rintro e w2 ⟨rfl, cv2, q1, q2⟩; have hF2 := (hF1.out).byte q1 q2; have cP := hF2.cP; have cD := hF2.cD; replace hF2 := hid hF2; clear q1 q2) | (go_at_call 30; refine (byte_any B M cv iv kv g _ hF.out.at' hS.c).mono ?_; rintro e w1 ⟨rfl, cv1, q1, q2⟩; have hF1 := hF.out.byte q1 q2; have cP := hF1.cP; have cD := hF1.cD; replace hF1 := hid hF1; clear q1 q2))
  go_end0
  exact ⟨rfl, hF4.out.to⟩

set_option maxRecDepth 100000 in
set_option maxHeartbeats 1000000 in
theorem stm_3 (B M : Nat) (cv iv kv : Value) (g : Gen) (n : Nat) (d : Int) (hd2 : ¬ 3 ≤ d) (hd0 : 0 ≤ d) (F : Gen → Gen) (hbody : BodyOk B M n (d + 1) F) (hz : BodyZ n F) (w : World) (h : GenAt w B M cv iv kv g) (hB : B ≤ w.heap.size) (hS : Szd g (n + 8)) (hc : hd g % 16 = 3) :
    Calls Tryd.prog 23 #[.pointer (some ⟨M, 0, none⟩), .int .i64 d] w fun e w' => e = .returned (.tuple #[]) ∧ GenTo B M iv kv (put (put (nx (nx g)) 0 (kindOf (hd (nx g)))) 1 (kindOf (hd (nx g)))) w w' := by
  have hF := hid (Fr.start (d := d) h hB)
  have e1 : (hd g : Int).tmod 16 = 3 := by rw [Int.tmod_eq_emod_of_nonneg (by omega)]; omega
  have z0 : Szd (nx g) (n + 8) := hS.nx
  have z1 : Szd (nx (nx g)) (n + 8) := z0.nx
  have z2 : Szd (put (nx (nx g)) 0 (kindOf (hd (nx g)))) (n + 7) := z1.put _ _
  have z3 : Szd (put (put (nx (nx g)) 0 (kindOf (hd (nx g)))) 1 (kindOf (hd (nx g)))) (n + 6) := z2.put _ _
  clear h hc
  go_enter Tryd.func23, Tryd.ntmps23
  go_wp2_with (first | (go_at_call 18; refine (put_any B M cv2 iv3 kv (put (nx (nx g)) 0 (kindOf (hd (nx g)))) 1 (kindOf (hd (nx g))) _ hF3.out.at' z2.i).mono ?_; rintro e w4 ⟨rfl, iv4, q1, q2, q3⟩; have hF4 := (hF3.out).put q1 q2 q3; have cP := hF4.cP; have cD := hF4.cD; replace hF4 := hid hF4; clear q1 q2 q3) | (go_at_call 18; refine (put_any B M cv2 iv kv (nx (nx g)) 0 (kindOf (hd (nx g))) _ hF2.out.at' z1.i).mono ?_; rintro e w3 ⟨rfl, iv3, q1, q2, q3⟩; have hF3 := (hF2.out).put q1 q2 q3; have cP := hF3.cP; have cD := hF3.cD; replace hF3 := hid hF3; clear q1 q2 q3) | (go_at_call 34; refine (kind_any B M cv1 iv kv (nx g) _ hF1.out.at' z0.c).mono ?_; rintro e w2 ⟨rfl, cv2, q1, q2⟩; have hF2 := (hF1.out).byte q1 q2; have cP := hF2.cP; have cD := hF2.cD; replace hF2 := hid hF2; clear q1 q2) | (go_at_call 30; refine (byte_any B M cv iv kv g _ hF.out.at' hS.c).mono ?_; rintro e w1 ⟨rfl, cv1, q1, q2⟩; have hF1 := hF.out.byte q1 q2; have cP := hF1.cP; have cD := hF1.cD; replace hF1 := hid hF1; clear q1 q2))
  go_end0
  exact ⟨rfl, hF4.out.to⟩

set_option maxRecDepth 100000 in
set_option maxHeartbeats 1000000 in
theorem stm_4 (B M : Nat) (cv iv kv : Value) (g : Gen) (n : Nat) (d : Int) (hd2 : ¬ 3 ≤ d) (hd0 : 0 ≤ d) (F : Gen → Gen) (hbody : BodyOk B M n (d + 1) F) (hz : BodyZ n F) (w : World) (h : GenAt w B M cv iv kv g) (hB : B ≤ w.heap.size) (hS : Szd g (n + 8)) (hc : hd g % 16 = 4) :
    Calls Tryd.prog 23 #[.pointer (some ⟨M, 0, none⟩), .int .i64 d] w fun e w' => e = .returned (.tuple #[]) ∧ GenTo B M iv kv (put (put (nx (nx g)) 0 (kindOf (hd (nx g)))) 1 (kindOf (hd (nx g)))) w w' := by
  have hF := hid (Fr.start (d := d) h hB)
  have e1 : (hd g : Int).tmod 16 = 4 := by rw [Int.tmod_eq_emod_of_nonneg (by omega)]; omega
  have z0 : Szd (nx g) (n + 8) := hS.nx
  have z1 : Szd (nx (nx g)) (n + 8) := z0.nx
  have z2 : Szd (put (nx (nx g)) 0 (kindOf (hd (nx g)))) (n + 7) := z1.put _ _
  have z3 : Szd (put (put (nx (nx g)) 0 (kindOf (hd (nx g)))) 1 (kindOf (hd (nx g)))) (n + 6) := z2.put _ _
  clear h hc
  go_enter Tryd.func23, Tryd.ntmps23
  go_wp2_with (first | (go_at_call 18; refine (put_any B M cv2 iv3 kv (put (nx (nx g)) 0 (kindOf (hd (nx g)))) 1 (kindOf (hd (nx g))) _ hF3.out.at' z2.i).mono ?_; rintro e w4 ⟨rfl, iv4, q1, q2, q3⟩; have hF4 := (hF3.out).put q1 q2 q3; have cP := hF4.cP; have cD := hF4.cD; replace hF4 := hid hF4; clear q1 q2 q3) | (go_at_call 18; refine (put_any B M cv2 iv kv (nx (nx g)) 0 (kindOf (hd (nx g))) _ hF2.out.at' z1.i).mono ?_; rintro e w3 ⟨rfl, iv3, q1, q2, q3⟩; have hF3 := (hF2.out).put q1 q2 q3; have cP := hF3.cP; have cD := hF3.cD; replace hF3 := hid hF3; clear q1 q2 q3) | (go_at_call 34; refine (kind_any B M cv1 iv kv (nx g) _ hF1.out.at' z0.c).mono ?_; rintro e w2 ⟨rfl, cv2, q1, q2⟩; have hF2 := (hF1.out).byte q1 q2; have cP := hF2.cP; have cD := hF2.cD; replace hF2 := hid hF2; clear q1 q2) | (go_at_call 30; refine (byte_any B M cv iv kv g _ hF.out.at' hS.c).mono ?_; rintro e w1 ⟨rfl, cv1, q1, q2⟩; have hF1 := hF.out.byte q1 q2; have cP := hF1.cP; have cD := hF1.cD; replace hF1 := hid hF1; clear q1 q2))
  go_end0
  exact ⟨rfl, hF4.out.to⟩

set_option maxRecDepth 100000 in
set_option maxHeartbeats 1000000 in
theorem stm_5 (B M : Nat) (cv iv kv : Value) (g : Gen) (n : Nat) (d : Int) (hd2 : ¬ 3 ≤ d) (hd0 : 0 ≤ d) (F : Gen → Gen) (hbody : BodyOk B M n (d + 1) F) (hz : BodyZ n F) (w : World) (h : GenAt w B M cv iv kv g) (hB : B ≤ w.heap.size) (hS : Szd g (n + 8)) (hc : hd g % 16 = 5) :
    Calls Tryd.prog 23 #[.pointer (some ⟨M, 0, none⟩), .int .i64 d] w fun e w' => e = .returned (.tuple #[]) ∧ GenTo B M iv kv (put (put (nx (nx g)) 0 (kindOf (hd (nx g)))) 1 (kindOf (hd (nx g)))) w w' := by
  have hF := hid (Fr.start (d := d) h hB)
  have e1 : (hd g : Int).tmod 16 = 5 := by rw [Int.tmod_eq_emod_of_nonneg (by omega)]; omega
  have z0 : Szd (nx g) (n + 8) := hS.nx
  have z1 : Szd (nx (nx g)) (n + 8) := z0.nx
  have z2 : Szd (put (nx (nx g)) 0 (kindOf (hd (nx g)))) (n + 7) := z1.put _ _
  have z3 : Szd (put (put (nx (nx g)) 0 (kindOf (hd (nx g)))) 1 (kindOf (hd (nx g)))) (n + 6) := z2.put _ _
  clear h hc
  go_enter Tryd.func23, Tryd.ntmps23
  go_wp2_with (first | (go_at_call 18; refine (put_any B M cv2 iv3 kv (put (nx (nx g)) 0 (kindOf (hd (nx g)))) 1 (kindOf (hd (nx g))) _ hF3.out.at' z2.i).mono ?_; rintro e w4 ⟨rfl, iv4, q1, q2, q3⟩; have hF4 := (hF3.out).put q1 q2 q3; have cP := hF4.cP; have cD := hF4.cD; replace hF4 := hid hF4; clear q1 q2 q3) | (go_at_call 18; refine (put_any B M cv2 iv kv (nx (nx g)) 0 (kindOf (hd (nx g))) _ hF2.out.at' z1.i).mono ?_; rintro e w3 ⟨rfl, iv3, q1, q2, q3⟩; have hF3 := (hF2.out).put q1 q2 q3; have cP := hF3.cP; have cD := hF3.cD; replace hF3 := hid hF3; clear q1 q2 q3) | (go_at_call 34; refine (kind_any B M cv1 iv kv (nx g) _ hF1.out.at' z0.c).mono ?_; rintro e w2 ⟨rfl, cv2, q1, q2⟩; have hF2 := (hF1.out).byte q1 q2; have cP := hF2.cP; have cD := hF2.cD; replace hF2 := hid hF2; clear q1 q2) | (go_at_call 30; refine (byte_any B M cv iv kv g _ hF.out.at' hS.c).mono ?_; rintro e w1 ⟨rfl, cv1, q1, q2⟩; have hF1 := hF.out.byte q1 q2; have cP := hF1.cP; have cD := hF1.cD; replace hF1 := hid hF1; clear q1 q2))
  go_end0
  exact ⟨rfl, hF4.out.to⟩

set_option maxRecDepth 100000 in
set_option maxHeartbeats 1000000 in
theorem stm_6y (B M : Nat) (cv iv kv : Value) (g : Gen) (n : Nat) (d : Int) (hd2 : ¬ 3 ≤ d) (hd0 : 0 ≤ d) (F : Gen → Gen) (hbody : BodyOk B M n (d + 1) F) (hz : BodyZ n F) (w : World) (h : GenAt w B M cv iv kv g) (hB : B ≤ w.heap.size) (hS : Szd g (n + 8)) (hc : hd g % 16 = 6) (z : Nat) (hz' : hd (nx g) % 6 = z) (hn : hd (F (put (nx (nx g)) 2 ((z : Nat) : Int))) % 4 = 0) :
    Calls Tryd.prog 23 #[.pointer (some ⟨M, 0, none⟩), .int .i64 d] w fun e w' => e = .returned (.tuple #[]) ∧ GenTo B M iv kv (put (put (nx (F (put (nx (nx g)) 2 ((z : Nat) : Int)))) 4 0) 3 0) w w' := by
  have hF := hid (Fr.start (d := d) h hB)
  have e1 : (hd g : Int).tmod 16 = 6 := by rw [Int.tmod_eq_emod_of_nonneg (by omega)]; omega
  have bz : z < 6 := by omega
  have tz : (hd (nx g) : Int).tmod 6 = (z : Int) := by rw [← hz']; exact tmod_nat _ 6
  have tn : (hd (F (put (nx (nx g)) 2 ((z : Nat) : Int))) : Int).tmod 4 = 0 := by rw [show (4 : Int) = ((4 : Nat) : Int) from rfl, tmod_nat, hn]; rfl
  clear hz' hn
  have z0 : Szd (nx g) (n + 8) := hS.nx
  have z1 : Szd (nx (nx g)) (n + 8) := z0.nx
  have z2 : Szd (put (nx (nx g)) 2 (z : Int)) (n + 7) := z1.put _ _
  have z3 : Szd (F (put (nx (nx g)) 2 (z : Int))) 7 := hz _ _ z2
  have z4 : Szd (nx (F (put (nx (nx g)) 2 (z : Int)))) (7) := z3.nx
  have z5 : Szd (put (nx (F (put (nx (nx g)) 2 (z : Int)))) 4 0) (6) := z4.put _ _
  have z6 : Szd (put (put (nx (F (put (nx (nx g)) 2 (z : Int)))) 4 0) 3 0) (5) := z5.put _ _
  clear h hc
  go_enter Tryd.func23, Tryd.ntmps23
  go_wp2_with (first | (go_at_call 30; refine (byte_any B M cv iv kv g _ hF.out.at' hS.c).mono ?_; rintro e w1 ⟨rfl, cv1, q1, q2⟩; have hF1 := hF.out.byte q1 q2; have cP := hF1.cP; have cD := hF1.cD; replace hF1 := hid hF1; clear q1 q2))
  go_region_held3 (fun w' => w'.cell? ⟨w.heap.size, 0, none⟩ = some (.pointer (some ⟨M, 0, none⟩))) (first | assumption | go_keep) (first | (go_at_call 18; refine (put_any B M cv2 iv kv (nx (nx g)) 2 (z : Int) _ hF2.out.at' z1.i).mono ?_; rintro e w3 ⟨rfl, iv3, q1, q2, q3⟩; have hF3 := (hF2.out).put q1 q2 q3; have cP := hF3.cP; have cD := hF3.cD; replace hF3 := hid hF3; clear q1 q2 q3) | (go_at_call 30; refine (byte_any B M cv1 iv kv (nx g) _ hF1.out.drew.at' z0.c).mono ?_; rintro e w2 ⟨rfl, cv2, q1, q2⟩; have hF2 := (hF1.out.drew).byte q1 q2; have cP := hF2.cP; have cD := hF2.cD; replace hF2 := hid hF2; clear q1 q2))
  go_wp2_with (first | (go_at_call 18; refine (put_any B M cv5 iv6 kv4 (put (nx (F (put (nx (nx g)) 2 (z : Int)))) 4 0) 3 0 _ hF6.out.at' z5.i).mono ?_; rintro e w7 ⟨rfl, iv7, q1, q2, q3⟩; have hF7 := (hF6.out).put q1 q2 q3; have cP := hF7.cP; have cD := hF7.cD; replace hF7 := hid hF7; clear q1 q2 q3) | (go_at_call 18; refine (put_any B M cv5 iv4 kv4 (nx (F (put (nx (nx g)) 2 (z : Int)))) 4 0 _ hF5.out.at' z4.i).mono ?_; rintro e w6 ⟨rfl, iv6, q1, q2, q3⟩; have hF6 := (hF5.out).put q1 q2 q3; have cP := hF6.cP; have cD := hF6.cD; replace hF6 := hid hF6; clear q1 q2 q3) | (go_at_call 30; refine (byte_any B M cv4 iv4 kv4 (F (put (nx (nx g)) 2 (z : Int))) _ hF4.out.at' z3.c).mono ?_; rintro e w5 ⟨rfl, cv5, q1, q2⟩; have hF5 := (hF4.out).byte q1 q2; have cP := hF5.cP; have cD := hF5.cD; replace hF5 := hid hF5; clear q1 q2) | (go_at_call 15; refine (hbody cv2 iv3 kv (put (nx (nx g)) 2 (z : Int)) _ hF3.out.at' (Nat.le_trans hF3.out.le.2.2 hF3.out.chg.size) (z2.mono (by omega))).mono ?_; rintro e w4 ⟨rfl, ⟨⟨cv4, iv4, kv4, q1, q2, q3⟩, q4⟩⟩; have hF4 := (hF3.out).step q1 q4 q2 q3; have cP := hF4.cP; have cD := hF4.cD; replace hF4 := hid hF4; clear q1 q2 q3 q4))
  go_end0
  exact ⟨rfl, hF7.out.to⟩

set_option maxRecDepth 100000 in
set_option maxHeartbeats 1000000 in
theorem stm_6n (B M : Nat) (cv iv kv : Value) (g : Gen) (n : Nat) (d : Int) (hd2 : ¬ 3 ≤ d) (hd0 : 0 ≤ d) (F : Gen → Gen) (hbody : BodyOk B M n (d + 1) F) (hz : BodyZ n F) (w : World) (h : GenAt w B M cv iv kv g) (hB : B ≤ w.heap.size) (hS : Szd g (n + 8)) (hc : hd g % 16 = 6) (z : Nat) (hz' : hd (nx g) % 6 = z) (hn : ¬ hd (F (put (nx (nx g)) 2 ((z : Nat) : Int))) % 4 = 0) :
    Calls Tryd.prog 23 #[.pointer (some ⟨M, 0, none⟩), .int .i64 d] w fun e w' => e = .returned (.tuple #[]) ∧ GenTo B M iv kv (put (nx (F (put (nx (nx g)) 2 ((z : Nat) : Int)))) 3 0) w w' := by
  have hF := hid (Fr.start (d := d) h hB)
  have e1 : (hd g : Int).tmod 16 = 6 := by rw [Int.tmod_eq_emod_of_nonneg (by omega)]; omega
  have bz : z < 6 := by omega
  have tz : (hd (nx g) : Int).tmod 6 = (z : Int) := by rw [← hz']; exact tmod_nat _ 6
  obtain ⟨y, hy⟩ : ∃ y : Nat, hd (F (put (nx (nx g)) 2 ((z : Nat) : Int))) % 4 = y := ⟨_, rfl⟩
  have tn : (hd (F (put (nx (nx g)) 2 ((z : Nat) : Int))) : Int).tmod 4 = (y : Int) := by rw [show (4 : Int) = ((4 : Nat) : Int) from rfl, tmod_nat, hy]
  have ty : ¬ (y : Int) = 0 := by omega
  clear hy
  clear hz' hn
  have z0 : Szd (nx g) (n + 8) := hS.nx
  have z1 : Szd (nx (nx g)) (n + 8) := z0.nx
  have z2 : Szd (put (nx (nx g)) 2 (z : Int)) (n + 7) := z1.put _ _
  have z3 : Szd (F (put (nx (nx g)) 2 (z : Int))) 7 := hz _ _ z2
  have z4 : Szd (nx (F (put (nx (nx g)) 2 (z : Int)))) (7) := z3.nx
  have z5 : Szd (put (nx (F (put (nx (nx g)) 2 (z : Int)))) 3 0) (6) := z4.put _ _
  clear h hc
  go_enter Tryd.func23, Tryd.ntmps23
  go_wp2_with (first | (go_at_call 30; refine (byte_any B M cv iv kv g _ hF.out.at' hS.c).mono ?_; rintro e w1 ⟨rfl, cv1, q1, q2⟩; have hF1 := hF.out.byte q1 q2; have cP := hF1.cP; have cD := hF1.cD; replace hF1 := hid hF1; clear q1 q2))
  go_region_held3 (fun w' => w'.cell? ⟨w.heap.size, 0, none⟩ = some (.pointer (some ⟨M, 0, none⟩))) (first | assumption | go_keep) (first | (go_at_call 18; refine (put_any B M cv2 iv kv (nx (nx g)) 2 (z : Int) _ hF2.out.at' z1.i).mono ?_; rintro e w3 ⟨rfl, iv3, q1, q2, q3⟩; have hF3 := (hF2.out).put q1 q2 q3; have cP := hF3.cP; have cD := hF3.cD; replace hF3 := hid hF3; clear q1 q2 q3) | (go_at_call 30; refine (byte_any B M cv1 iv kv (nx g) _ hF1.out.drew.at' z0.c).mono ?_; rintro e w2 ⟨rfl, cv2, q1, q2⟩; have hF2 := (hF1.out.drew).byte q1 q2; have cP := hF2.cP; have cD := hF2.cD; replace hF2 := hid hF2; clear q1 q2))
  go_wp2_with (first | (go_at_call 18; refine (put_any B M cv5 iv4 kv4 (nx (F (put (nx (nx g)) 2 (z : Int)))) 3 0 _ hF5.out.at' z4.i).mono ?_; rintro e w6 ⟨rfl, iv6, q1, q2, q3⟩; have hF6 := (hF5.out).put q1 q2 q3; have cP := hF6.cP; have cD := hF6.cD; replace hF6 := hid hF6; clear q1 q2 q3) | (go_at_call 30; refine (byte_any B M cv4 iv4 kv4 (F (put (nx (nx g)) 2 (z : Int))) _ hF4.out.at' z3.c).mono ?_; rintro e w5 ⟨rfl, cv5, q1, q2⟩; have hF5 := (hF4.out).byte q1 q2; have cP := hF5.cP; have cD := hF5.cD; replace hF5 := hid hF5; clear q1 q2) | (go_at_call 15; refine (hbody cv2 iv3 kv (put (nx (nx g)) 2 (z : Int)) _ hF3.out.at' (Nat.le_trans hF3.out.le.2.2 hF3.out.chg.size) (z2.mono (by omega))).mono ?_; rintro e w4 ⟨rfl, ⟨⟨cv4, iv4, kv4, q1, q2, q3⟩, q4⟩⟩; have hF4 := (hF3.out).step q1 q4 q2 q3; have cP := hF4.cP; have cD := hF4.cD; replace hF4 := hid hF4; clear q1 q2 q3 q4))
  go_end0
  exact ⟨rfl, hF6.out.to⟩

set_option maxRecDepth 100000 in
set_option maxHeartbeats 1000000 in
theorem stm_7y (B M : Nat) (cv iv kv : Value) (g : Gen) (n : Nat) (d : Int) (hd2 : ¬ 3 ≤ d) (hd0 : 0 ≤ d) (F : Gen → Gen) (hbody : BodyOk B M n (d + 1) F) (hz : BodyZ n F) (w : World) (h : GenAt w B M cv iv kv g) (hB : B ≤ w.heap.size) (hS : Szd g (n + 8)) (hc : hd g % 16 = 7) (z : Nat) (hz' : hd (nx g) % 6 = z) (hn : hd (F (put (nx (nx g)) 2 ((z : Nat) : Int))) % 4 = 0) :
    Calls Tryd.prog 23 #[.pointer (some ⟨M, 0, none⟩), .int .i64 d] w fun e w' => e = .returned (.tuple #[]) ∧ GenTo B M iv kv (put (put (nx (F (put (nx (nx g)) 2 ((z : Nat) : Int)))) 4 0) 3 0) w w' := by
  have hF := hid (Fr.start (d := d) h hB)
  have e1 : (hd g : Int).tmod 16 = 7 := by rw [Int.tmod_eq_emod_of_nonneg (by omega)]; omega
  have bz : z < 6 := by omega
  have tz : (hd (nx g) : Int).tmod 6 = (z : Int) := by rw [← hz']; exact tmod_nat _ 6
  have tn : (hd (F (put (nx (nx g)) 2 ((z : Nat) : Int))) : Int).tmod 4 = 0 := by rw [show (4 : Int) = ((4 : Nat) : Int) from rfl, tmod_nat, hn]; rfl
  clear hz' hn
  have z0 : Szd (nx g) (n + 8) := hS.nx
  have z1 : Szd (nx (nx g)) (n + 8) := z0.nx
  have z2 : Szd (put (nx (nx g)) 2 (z : Int)) (n + 7) := z1.put _ _
  have z3 : Szd (F (put (nx (nx g)) 2 (z : Int))) 7 := hz _ _ z2
  have z4 : Szd (nx (F (put (nx (nx g)) 2 (z : Int)))) (7) := z3.nx
  have z5 : Szd (put (nx (F (put (nx (nx g)) 2 (z : Int)))) 4 0) (6) := z4.put _ _
  have z6 : Szd (put (put (nx (F (put (nx (nx g)) 2 (z : Int)))) 4 0) 3 0) (5) := z5.put _ _
  clear h hc
  go_enter Tryd.func23, Tryd.ntmps23
  go_wp2_with (first | (go_at_call 30; refine (byte_any B M cv iv kv g _ hF.out.at' hS.c).mono ?_; rintro e w1 ⟨rfl, cv1, q1, q2⟩; have hF1 := hF.out.byte q1 q2; have cP := hF1.cP; have cD := hF1.cD; replace hF1 := hid hF1; clear q1 q2))
  go_region_held3 (fun w' => w'.cell? ⟨w.heap.size, 0, none⟩ = some (.pointer (some ⟨M, 0, none⟩))) (first | assumption | go_keep) (first | (go_at_call 18; refine (put_any B M cv2 iv kv (nx (nx g)) 2 (z : Int) _ hF2.out.at' z1.i).mono ?_; rintro e w3 ⟨rfl, iv3, q1, q2, q3⟩; have hF3 := (hF2.out).put q1 q2 q3; have cP := hF3.cP; have cD := hF3.cD; replace hF3 := hid hF3; clear q1 q2 q3) | (go_at_call 30; refine (byte_any B M cv1 iv kv (nx g) _ hF1.out.drew.at' z0.c).mono ?_; rintro e w2 ⟨rfl, cv2, q1, q2⟩; have hF2 := (hF1.out.drew).byte q1 q2; have cP := hF2.cP; have cD := hF2.cD; replace hF2 := hid hF2; clear q1 q2))
  go_wp2_with (first | (go_at_call 18; refine (put_any B M cv5 iv6 kv4 (put (nx (F (put (nx (nx g)) 2 (z : Int)))) 4 0) 3 0 _ hF6.out.at' z5.i).mono ?_; rintro e w7 ⟨rfl, iv7, q1, q2, q3⟩; have hF7 := (hF6.out).put q1 q2 q3; have cP := hF7.cP; have cD := hF7.cD; replace hF7 := hid hF7; clear q1 q2 q3) | (go_at_call 18; refine (put_any B M cv5 iv4 kv4 (nx (F (put (nx (nx g)) 2 (z : Int)))) 4 0 _ hF5.out.at' z4.i).mono ?_; rintro e w6 ⟨rfl, iv6, q1, q2, q3⟩; have hF6 := (hF5.out).put q1 q2 q3; have cP := hF6.cP; have cD := hF6.cD; replace hF6 := hid hF6; clear q1 q2 q3) | (go_at_call 30; refine (byte_any B M cv4 iv4 kv4 (F (put (nx (nx g)) 2 (z : Int))) _ hF4.out.at' z3.c).mono ?_; rintro e w5 ⟨rfl, cv5, q1, q2⟩; have hF5 := (hF4.out).byte q1 q2; have cP := hF5.cP; have cD := hF5.cD; replace hF5 := hid hF5; clear q1 q2) | (go_at_call 15; refine (hbody cv2 iv3 kv (put (nx (nx g)) 2 (z : Int)) _ hF3.out.at' (Nat.le_trans hF3.out.le.2.2 hF3.out.chg.size) (z2.mono (by omega))).mono ?_; rintro e w4 ⟨rfl, ⟨⟨cv4, iv4, kv4, q1, q2, q3⟩, q4⟩⟩; have hF4 := (hF3.out).step q1 q4 q2 q3; have cP := hF4.cP; have cD := hF4.cD; replace hF4 := hid hF4; clear q1 q2 q3 q4))
  go_end0
  exact ⟨rfl, hF7.out.to⟩

set_option maxRecDepth 100000 in
set_option maxHeartbeats 1000000 in
theorem stm_7n (B M : Nat) (cv iv kv : Value) (g : Gen) (n : Nat) (d : Int) (hd2 : ¬ 3 ≤ d) (hd0 : 0 ≤ d) (F : Gen → Gen) (hbody : BodyOk B M n (d + 1) F) (hz : BodyZ n F) (w : World) (h : GenAt w B M cv iv kv g) (hB : B ≤ w.heap.size) (hS : Szd g (n + 8)) (hc : hd g % 16 = 7) (z : Nat) (hz' : hd (nx g) % 6 = z) (hn : ¬ hd (F (put (nx (nx g)) 2 ((z : Nat) : Int))) % 4 = 0) :
    Calls Tryd.prog 23 #[.pointer (some ⟨M, 0, none⟩), .int .i64 d] w fun e w' => e = .returned (.tuple #[]) ∧ GenTo B M iv kv (put (nx (F (put (nx (nx g)) 2 ((z : Nat) : Int)))) 3 0) w w' := by
  have hF := hid (Fr.start (d := d) h hB)
  have e1 : (hd g : Int).tmod 16 = 7 := by rw [Int.tmod_eq_emod_of_nonneg (by omega)]; omega
  have bz : z < 6 := by omega
  have tz : (hd (nx g) : Int).tmod 6 = (z : Int) := by rw [← hz']; exact tmod_nat _ 6
  obtain ⟨y, hy⟩ : ∃ y : Nat, hd (F (put (nx (nx g)) 2 ((z : Nat) : Int))) % 4 = y := ⟨_, rfl⟩
  have tn : (hd (F (put (nx (nx g)) 2 ((z : Nat) : Int))) : Int).tmod 4 = (y : Int) := by rw [show (4 : Int) = ((4 : Nat) : Int) from rfl, tmod_nat, hy]
  have ty : ¬ (y : Int) = 0 := by omega
  clear hy
  clear hz' hn
  have z0 : Szd (nx g) (n + 8) := hS.nx
  have z1 : Szd (nx (nx g)) (n + 8) := z0.nx
  have z2 : Szd (put (nx (nx g)) 2 (z : Int)) (n + 7) := z1.put _ _
  have z3 : Szd (F (put (nx (nx g)) 2 (z : Int))) 7 := hz _ _ z2
  have z4 : Szd (nx (F (put (nx (nx g)) 2 (z : Int)))) (7) := z3.nx
  have z5 : Szd (put (nx (F (put (nx (nx g)) 2 (z : Int)))) 3 0) (6) := z4.put _ _
  clear h hc
  go_enter Tryd.func23, Tryd.ntmps23
  go_wp2_with (first | (go_at_call 30; refine (byte_any B M cv iv kv g _ hF.out.at' hS.c).mono ?_; rintro e w1 ⟨rfl, cv1, q1, q2⟩; have hF1 := hF.out.byte q1 q2; have cP := hF1.cP; have cD := hF1.cD; replace hF1 := hid hF1; clear q1 q2))
  go_region_held3 (fun w' => w'.cell? ⟨w.heap.size, 0, none⟩ = some (.pointer (some ⟨M, 0, none⟩))) (first | assumption | go_keep) (first | (go_at_call 18; refine (put_any B M cv2 iv kv (nx (nx g)) 2 (z : Int) _ hF2.out.at' z1.i).mono ?_; rintro e w3 ⟨rfl, iv3, q1, q2, q3⟩; have hF3 := (hF2.out).put q1 q2 q3; have cP := hF3.cP; have cD := hF3.cD; replace hF3 := hid hF3; clear q1 q2 q3) | (go_at_call 30; refine (byte_any B M cv1 iv kv (nx g) _ hF1.out.drew.at' z0.c).mono ?_; rintro e w2 ⟨rfl, cv2, q1, q2⟩; have hF2 := (hF1.out.drew).byte q1 q2; have cP := hF2.cP; have cD := hF2.cD; replace hF2 := hid hF2; clear q1 q2))
  go_wp2_with (first | (go_at_call 18; refine (put_any B M cv5 iv4 kv4 (nx (F (put (nx (nx g)) 2 (z : Int)))) 3 0 _ hF5.out.at' z4.i).mono ?_; rintro e w6 ⟨rfl, iv6, q1, q2, q3⟩; have hF6 := (hF5.out).put q1 q2 q3; have cP := hF6.cP; have cD := hF6.cD; replace hF6 := hid hF6; clear q1 q2 q3) | (go_at_call 30; refine (byte_any B M cv4 iv4 kv4 (F (put (nx (nx g)) 2 (z : Int))) _ hF4.out.at' z3.c).mono ?_; rintro e w5 ⟨rfl, cv5, q1, q2⟩; have hF5 := (hF4.out).byte q1 q2; have cP := hF5.cP; have cD := hF5.cD; replace hF5 := hid hF5; clear q1 q2) | (go_at_call 15; refine (hbody cv2 iv3 kv (put (nx (nx g)) 2 (z : Int)) _ hF3.out.at' (Nat.le_trans hF3.out.le.2.2 hF3.out.chg.size) (z2.mono (by omega))).mono ?_; rintro e w4 ⟨rfl, ⟨⟨cv4, iv4, kv4, q1, q2, q3⟩, q4⟩⟩; have hF4 := (hF3.out).step q1 q4 q2 q3; have cP := hF4.cP; have cD := hF4.cD; replace hF4 := hid hF4; clear q1 q2 q3 q4))
  go_end0
  exact ⟨rfl, hF6.out.to⟩

set_option maxRecDepth 100000 in
set_option maxHeartbeats 1000000 in
theorem stm_8 (B M : Nat) (cv iv kv : Value) (g : Gen) (n : Nat) (d : Int) (hd2 : ¬ 3 ≤ d) (hd0 : 0 ≤ d) (F : Gen → Gen) (hbody : BodyOk B M n (d + 1) F) (hz : BodyZ n F) (w : World) (h : GenAt w B M cv iv kv g) (hB : B ≤ w.heap.size) (hS : Szd g (n + 8)) (hc : hd g % 16 = 8) :
    Calls Tryd.prog 23 #[.pointer (some ⟨M, 0, none⟩), .int .i64 d] w fun e w' => e = .returned (.tuple #[]) ∧ GenTo B M iv kv (put (F (put (nx g) 5 0)) 3 0) w w' := by
  have hF := hid (Fr.start (d := d) h hB)
  have e1 : (hd g : Int).tmod 16 = 8 := by rw [Int.tmod_eq_emod_of_nonneg (by omega)]; omega
  have z0 : Szd (nx g) (n + 8) := hS.nx
  have z1 : Szd (put (nx g) 5 0) (n + 7) := z0.put _ _
  have z2 : Szd (F (put (nx g) 5 0)) 7 := hz _ _ z1
  have z3 : Szd (put (F (put (nx g) 5 0)) 3 0) (6) := z2.put _ _
  clear h hc
  go_enter Tryd.func23, Tryd.ntmps23
  go_wp2_with (first | (go_at_call 18; refine (put_any B M cv3 iv3 kv3 (F (put (nx g) 5 0)) 3 0 _ hF3.out.at' z2.i).mono ?_; rintro e w4 ⟨rfl, iv4, q1, q2, q3⟩; have hF4 := (hF3.out).put q1 q2 q3; have cP := hF4.cP; have cD := hF4.cD; replace hF4 := hid hF4; clear q1 q2 q3) | (go_at_call 15; refine (hbody cv1 iv2 kv (put (nx g) 5 0) _ hF2.out.at' (Nat.le_trans hF2.out.le.2.2 hF2.out.chg.size) (z1.mono (by omega))).mono ?_; rintro e w3 ⟨rfl, ⟨⟨cv3, iv3, kv3, q1, q2, q3⟩, q4⟩⟩; have hF3 := (hF2.out).step q1 q4 q2 q3; have cP := hF3.cP; have cD := hF3.cD; replace hF3 := hid hF3; clear q1 q2 q3 q4) | (go_at_call 18; refine (put_any B M cv1 iv kv (nx g) 5 0 _ hF1.out.at' z0.i).mono ?_; rintro e w2 ⟨rfl, iv2, q1, q2, q3⟩; have hF2 := (hF1.out).put q1 q2 q3; have cP := hF2.cP; have cD := hF2.cD; replace hF2 := hid hF2; clear q1 q2 q3) | (go_at_call 30; refine (byte_any B M cv iv kv g _ hF.out.at' hS.c).mono ?_; rintro e w1 ⟨rfl, cv1, q1, q2⟩; have hF1 := hF.out.byte q1 q2; have cP := hF1.cP; have cD := hF1.cD; replace hF1 := hid hF1; clear q1 q2))
  go_end0
  exact ⟨rfl, hF4.out.to⟩

set_option maxRecDepth 100000 in
set_option maxHeartbeats 1000000 in
theorem stm_9 (B M : Nat) (cv iv kv : Value) (g : Gen) (n : Nat) (d : Int) (hd2 : ¬ 3 ≤ d) (hd0 : 0 ≤ d) (F : Gen → Gen) (hbody : BodyOk B M n (d + 1) F) (hz : BodyZ n F) (w : World) (h : GenAt w B M cv iv kv g) (hB : B ≤ w.heap.size) (hS : Szd g (n + 8)) (hc : hd g % 16 = 9) :
    Calls Tryd.prog 23 #[.pointer (some ⟨M, 0, none⟩), .int .i64 d] w fun e w' => e = .returned (.tuple #[]) ∧ GenTo B M iv kv (put (F (put (put (nx g) 0 8) 6 0)) 3 0) w w' := by
  have hF := hid (Fr.start (d := d) h hB)
  have e1 : (hd g : Int).tmod 16 = 9 := by rw [Int.tmod_eq_emod_of_nonneg (by omega)]; omega
  have z0 : Szd (nx g) (n + 8) := hS.nx
  have z1 : Szd (put (nx g) 0 8) (n + 7) := z0.put _ _
  have z2 : Szd (put (put (nx g) 0 8) 6 0) (n + 6) := z1.put _ _
  have z3 : Szd (F (put (put (nx g) 0 8) 6 0)) 6 := hz _ _ z2
  have z4 : Szd (put (F (put (put (nx g) 0 8) 6 0)) 3 0) (5) := z3.put _ _
  clear h hc
  go_enter Tryd.func23, Tryd.ntmps23
  go_wp2_with (first | (go_at_call 18; refine (put_any B M cv4 iv4 kv4 (F (put (put (nx g) 0 8) 6 0)) 3 0 _ hF4.out.at' z3.i).mono ?_; rintro e w5 ⟨rfl, iv5, q1, q2, q3⟩; have hF5 := (hF4.out).put q1 q2 q3; have cP := hF5.cP; have cD := hF5.cD; replace hF5 := hid hF5; clear q1 q2 q3) | (go_at_call 15; refine (hbody cv1 iv3 kv (put (put (nx g) 0 8) 6 0) _ hF3.out.at' (Nat.le_trans hF3.out.le.2.2 hF3.out.chg.size) (z2.mono (by omega))).mono ?_; rintro e w4 ⟨rfl, ⟨⟨cv4, iv4, kv4, q1, q2, q3⟩, q4⟩⟩; have hF4 := (hF3.out).step q1 q4 q2 q3; have cP := hF4.cP; have cD := hF4.cD; replace hF4 := hid hF4; clear q1 q2 q3 q4) | (go_at_call 18; refine (put_any B M cv1 iv2 kv (put (nx g) 0 8) 6 0 _ hF2.out.at' z1.i).mono ?_; rintro e w3 ⟨rfl, iv3, q1, q2, q3⟩; have hF3 := (hF2.out).put q1 q2 q3; have cP := hF3.cP; have cD := hF3.cD; replace hF3 := hid hF3; clear q1 q2 q3) | (go_at_call 18; refine (put_any B M cv1 iv kv (nx g) 0 8 _ hF1.out.at' z0.i).mono ?_; rintro e w2 ⟨rfl, iv2, q1, q2, q3⟩; have hF2 := (hF1.out).put q1 q2 q3; have cP := hF2.cP; have cD := hF2.cD; replace hF2 := hid hF2; clear q1 q2 q3) | (go_at_call 30; refine (byte_any B M cv iv kv g _ hF.out.at' hS.c).mono ?_; rintro e w1 ⟨rfl, cv1, q1, q2⟩; have hF1 := hF.out.byte q1 q2; have cP := hF1.cP; have cD := hF1.cD; replace hF1 := hid hF1; clear q1 q2))
  go_end0
  exact ⟨rfl, hF5.out.to⟩

set_option maxRecDepth 100000 in
set_option maxHeartbeats 1000000 in
theorem stmL_0 (B M : Nat) (cv iv kv : Value) (g : Gen) (w : World) (h : GenAt w B M cv iv kv g) (hB : B ≤ w.heap.size) (hS : Szd g 8) (hc : hd g % 16 = 0) :
    Calls Tryd.prog 23 #[.pointer (some ⟨M, 0, none⟩), .int .i64 3] w fun e w' => e = .returned (.tuple #[]) ∧ GenTo B M iv kv (put (nx (nx g)) 0 (kindOf (hd (nx g)))) w w' := by
  have hF := hid (Fr.start (d := 3) h hB)
  have e1 : (hd g : Int).tmod 16 = 0 := by rw [Int.tmod_eq_emod_of_nonneg (by omega)]; omega
  have z0 : Szd (nx g) (8) := hS.nx
  have z1 : Szd (nx (nx g)) (8) := z0.nx
  have z2 : Szd (put (nx (nx g)) 0 (kindOf (hd (nx g)))) (7) := z1.put _ _
  clear h hc
  go_enter Tryd.func23, Tryd.ntmps23
  go_wp2_with (first | (go_at_call 30; refine (byte_any B M cv iv kv g _ hF.out.at' hS.c).mono ?_; rintro e w1 ⟨rfl, cv1, q1, q2⟩; have hF1 := hF.out.byte q1 q2; have cP := hF1.cP; have cD := hF1.cD; replace hF1 := hid hF1; clear q1 q2))
  go_region_held3 (fun w' => w'.cell? ⟨w.heap.size, 0, none⟩ = some (.pointer (some ⟨M, 0, none⟩))) (first | assumption | go_keep) (first | (go_at_call 18; refine (put_any B M cv2 iv kv (nx (nx g)) 0 (kindOf (hd (nx g))) _ hF2.out.at' z1.i).mono ?_; rintro e w3 ⟨rfl, iv3, q1, q2, q3⟩; have hF3 := (hF2.out).put q1 q2 q3; have cP := hF3.cP; have cD := hF3.cD; replace hF3 := hid hF3; clear q1 q2 q3) | (go_at_call 34; refine (kind_any B M cv1 iv kv (nx g) _ hF1.out.drew.at' z0.c).mono ?_; rintro e w2 ⟨rfl, cv2, q1, q2⟩; have hF2 := (hF1.out.drew).byte q1 q2; have cP := hF2.cP; have cD := hF2.cD; replace hF2 := hid hF2; clear q1 q2))
  go_wp2
  go_end0
  exact ⟨rfl, hF3.out.to⟩

set_option maxRecDepth 100000 in
set_option maxHeartbeats 1000000 in
theorem stmL_1 (B M : Nat) (cv iv kv : Value) (g : Gen) (w : World) (h : GenAt w B M cv iv kv g) (hB : B ≤ w.heap.size) (hS : Szd g 8) (hc : hd g % 16 = 1) :
    Calls Tryd.prog 23 #[.pointer (some ⟨M, 0, none⟩), .int .i64 3] w fun e w' => e = .returned (.tuple #[]) ∧ GenTo B M iv kv (put (nx (nx g)) 1 (kindOf (hd (nx g)))) w w' := by
  have hF := hid (Fr.start (d := 3) h hB)
  have e1 : (hd g : Int).tmod 16 = 1 := by rw [Int.tmod_eq_emod_of_nonneg (by omega)]; omega
  have z0 : Szd (nx g) (8) := hS.nx
  have z1 : Szd (nx (nx g)) (8) := z0.nx
  have z2 : Szd (put (nx (nx g)) 1 (kindOf (hd (nx g)))) (7) := z1.put _ _
  clear h hc
  go_enter Tryd.func23, Tryd.ntmps23
  go_wp2_with (first | (go_at_call 30; refine (byte_any B M cv iv kv g _ hF.out.at' hS.c).mono ?_; rintro e w1 ⟨rfl, cv1, q1, q2⟩; have hF1 := hF.out.byte q1 q2; have cP := hF1.cP; have cD := hF1.cD; replace hF1 := hid hF1; clear q1 q2))
  go_region_held3 (fun w' => w'.cell? ⟨w.heap.size, 0, none⟩ = some (.pointer (some ⟨M, 0, none⟩))) (first | assumption | go_keep) (first | (go_at_call 18; refine (put_any B M cv2 iv kv (nx (nx g)) 1 (kindOf (hd (nx g))) _ hF2.out.at' z1.i).mono ?_; rintro e w3 ⟨rfl, iv3, q1, q2, q3⟩; have hF3 := (hF2.out).put q1 q2 q3; have cP := hF3.cP; have cD := hF3.cD; replace hF3 := hid hF3; clear q1 q2 q3) | (go_at_call 34; refine (kind_any B M cv1 iv kv (nx g) _ hF1.out.drew.at' z0.c).mono ?_; rintro e w2 ⟨rfl, cv2, q1, q2⟩; have hF2 := (hF1.out.drew).byte q1 q2; have cP := hF2.cP; have cD := hF2.cD; replace hF2 := hid hF2; clear q1 q2))
  go_wp2
  go_end0
  exact ⟨rfl, hF3.out.to⟩

set_option maxRecDepth 100000 in
set_option maxHeartbeats 1000000 in
theorem stmL_2 (B M : Nat) (cv iv kv : Value) (g : Gen) (w : World) (h : GenAt w B M cv iv kv g) (hB : B ≤ w.heap.size) (hS : Szd g 8) (hc : hd g % 16 = 2) :
    Calls Tryd.prog 23 #[.pointer (some ⟨M, 0, none⟩), .int .i64 3] w fun e w' => e = .returned (.tuple #[]) ∧ GenTo B M iv kv (put (put (nx (nx g)) 0 (kindOf (hd (nx g)))) 1 (kindOf (hd (nx g)))) w w' := by
  have hF := hid (Fr.start (d := 3) h hB)
  have e1 : (hd g : Int).tmod 16 = 2 := by rw [Int.tmod_eq_emod_of_nonneg (by omega)]; omega
  have z0 : Szd (nx g) (8) := hS.nx
  have z1 : Szd (nx (nx g)) (8) := z0.nx
  have z2 : Szd (put (nx (nx g)) 0 (kindOf (hd (nx g)))) (7) := z1.put _ _
  have z3 : Szd (put (put (nx (nx g)) 0 (kindOf (hd (nx g)))) 1 (kindOf (hd (nx g)))) (6) := z2.put _ _
  clear h hc
  go_enter Tryd.func23, Tryd.ntmps23
  go_wp2_with (first | (go_at_call 18; refine (put_any B M cv2 iv3 kv (put (nx (nx g)) 0 (kindOf (hd (nx g)))) 1 (kindOf (hd (nx g))) _ hF3.out.at' z2.i).mono ?_; rintro e w4 ⟨rfl, iv4, q1, q2, q3⟩; have hF4 := (hF3.out).put q1 q2 q3; have cP := hF4.cP; have cD := hF4.cD; replace hF4 := hid hF4; clear q1 q2 q3) | (go_at_call 18; refine (put_any B M cv2 iv kv (nx (nx g)) 0 (kindOf (hd (nx g))) _ hF2.out.at' z1.i).mono ?_; rintro e w3 ⟨rfl, iv3, q1, q2, q3⟩; have hF3 := (hF2.out).put q1 q2 q3; have cP := hF3.cP; have cD := hF3.cD; replace hF3 := hid hF3; clear q1 q2 q3) | (go_at_call 34; refine (kind_any B M cv1 iv kv (nx g) _ hF1.out.at' z0.c).mono ?_; rintro e w2 ⟨rfl, cv2, q1, q2⟩; have hF2 := (hF1.out).byte q1 q2; have cP := hF2.cP; have cD := hF2.cD; replace hF2 := hid hF2; clear q1 q2) | (go_at_call 30; refine (byte_any B M cv iv kv g _ hF.out.at' hS.c).mono ?_; rintro e w1 ⟨rfl, cv1, q1, q2⟩; have hF1 := hF.out.byte q1 q2; have cP := hF1.cP; have cD := hF1.cD; replace hF1 := hid hF1; clear q1 q2))
  go_end0
  exact ⟨rfl, hF4.out.to⟩

set_option maxRecDepth 100000 in
set_option maxHeartbeats 1000000 in
theorem stmL_3 (B M : Nat) (cv iv kv : Value) (g : Gen) (w : World) (h : GenAt w B M cv iv kv g) (hB : B ≤ w.heap.size) (hS : Szd g 8) (hc : hd g % 16 = 3) :
    Calls Tryd.prog 23 #[.pointer (some ⟨M, 0, none⟩), .int .i64 3] w fun e w' => e = .returned (.tuple #[]) ∧ GenTo B M iv kv (put (put (nx (nx g)) 0 (kindOf (hd (nx g)))) 1 (kindOf (hd (nx g)))) w w' := by
  have hF := hid (Fr.start (d := 3) h hB)
  have e1 : (hd g : Int).tmod 16 = 3 := by rw [Int.tmod_eq_emod_of_nonneg (by omega)]; omega
  have z0 : Szd (nx g) (8) := hS.nx
  have z1 : Szd (nx (nx g)) (8) := z0.nx
  have z2 : Szd (put (nx (nx g)) 0 (kindOf (hd (nx g)))) (7) := z1.put _ _
  have z3 : Szd (put (put (nx (nx g)) 0 (kindOf (hd (nx g)))) 1 (kindOf (hd (nx g)))) (6) := z2.put _ _
  clear h hc
  go_enter Tryd.func23, Tryd.ntmps23
  go_wp2_with (first | (go_at_call 18; refine (put_any B M cv2 iv3 kv (put (nx (nx g)) 0 (kindOf (hd (nx g)))) 1 (kindOf (hd (nx g))) _ hF3.out.at' z2.i).mono ?_; rintro e w4 ⟨rfl, iv4, q1, q2, q3⟩; have hF4 := (hF3.out).put q1 q2 q3; have cP := hF4.cP; have cD := hF4.cD; replace hF4 := hid hF4; clear q1 q2 q3) | (go_at_call 18; refine (put_any B M cv2 iv kv (nx (nx g)) 0 (kindOf (hd (nx g))) _ hF2.out.at' z1.i).mono ?_; rintro e w3 ⟨rfl, iv3, q1, q2, q3⟩; have hF3 := (hF2.out).put q1 q2 q3; have cP := hF3.cP; have cD := hF3.cD; replace hF3 := hid hF3; clear q1 q2 q3) | (go_at_call 34; refine (kind_any B M cv1 iv kv (nx g) _ hF1.out.at' z0.c).mono ?_; rintro e w2 ⟨rfl, cv2, q1, q2⟩; have hF2 := (hF1.out).byte q1 q2; have cP := hF2.cP; have cD := hF2.cD; replace hF2 := hid hF2; clear q1 q2) | (go_at_call 30; refine (byte_any B M cv iv kv g _ hF.out.at' hS.c).mono ?_; rintro e w1 ⟨rfl, cv1, q1, q2⟩; have hF1 := hF.out.byte q1 q2; have cP := hF1.cP; have cD := hF1.cD; replace hF1 := hid hF1; clear q1 q2))
  go_end0
  exact ⟨rfl, hF4.out.to⟩

set_option maxRecDepth 100000 in
set_option maxHeartbeats 1000000 in
theorem stmL_4 (B M : Nat) (cv iv kv : Value) (g : Gen) (w : World) (h : GenAt w B M cv iv kv g) (hB : B ≤ w.heap.size) (hS : Szd g 8) (hc : hd g % 16 = 4) :
    Calls Tryd.prog 23 #[.pointer (some ⟨M, 0, none⟩), .int .i64 3] w fun e w' => e = .returned (.tuple #[]) ∧ GenTo B M iv kv (put (put (nx (nx g)) 0 (kindOf (hd (nx g)))) 1 (kindOf (hd (nx g)))) w w' := by
  have hF := hid (Fr.start (d := 3) h hB)
  have e1 : (hd g : Int).tmod 16 = 4 := by rw [Int.tmod_eq_emod_of_nonneg (by omega)]; omega
  have z0 : Szd (nx g) (8) := hS.nx
  have z1 : Szd (nx (nx g)) (8) := z0.nx
  have z2 : Szd (put (nx (nx g)) 0 (kindOf (hd (nx g)))) (7) := z1.put _ _
  have z3 : Szd (put (put (nx (nx g)) 0 (kindOf (hd (nx g)))) 1 (kindOf (hd (nx g)))) (6) := z2.put _ _
  clear h hc
  go_enter Tryd.func23, Tryd.ntmps23
  go_wp2_with (first | (go_at_call 18; refine (put_any B M cv2 iv3 kv (put (nx (nx g)) 0 (kindOf (hd (nx g)))) 1 (kindOf (hd (nx g))) _ hF3.out.at' z2.i).mono ?_; rintro e w4 ⟨rfl, iv4, q1, q2, q3⟩; have hF4 := (hF3.out).put q1 q2 q3; have cP := hF4.cP; have cD := hF4.cD; replace hF4 := hid hF4; clear q1 q2 q3) | (go_at_call 18; refine (put_any B M cv2 iv kv (nx (nx g)) 0 (kindOf (hd (nx g))) _ hF2.out.at' z1.i).mono ?_; rintro e w3 ⟨rfl, iv3, q1, q2, q3⟩; have hF3 := (hF2.out).put q1 q2 q3; have cP := hF3.cP; have cD := hF3.cD; replace hF3 := hid hF3; clear q1 q2 q3) | (go_at_call 34; refine (kind_any B M cv1 iv kv (nx g) _ hF1.out.at' z0.c).mono ?_; rintro e w2 ⟨rfl, cv2, q1, q2⟩; have hF2 := (hF1.out).byte q1 q2; have cP := hF2.cP; have cD := hF2.cD; replace hF2 := hid hF2; clear q1 q2) | (go_at_call 30; refine (byte_any B M cv iv kv g _ hF.out.at' hS.c).mono ?_; rintro e w1 ⟨rfl, cv1, q1, q2⟩; have hF1 := hF.out.byte q1 q2; have cP := hF1.cP; have cD := hF1.cD; replace hF1 := hid hF1; clear q1 q2))
  go_end0
  exact ⟨rfl, hF4.out.to⟩

set_option maxRecDepth 100000 in
set_option maxHeartbeats 1000000 in
theorem stmL_5 (B M : Nat) (cv iv kv : Value) (g : Gen) (w : World) (h : GenAt w B M cv iv kv g) (hB : B ≤ w.heap.size) (hS : Szd g 8) (hc : hd g % 16 = 5) :
    Calls Tryd.prog 23 #[.pointer (some ⟨M, 0, none⟩), .int .i64 3] w fun e w' => e = .returned (.tuple #[]) ∧ GenTo B M iv kv (put (put (nx (nx g)) 0 (kindOf (hd (nx g)))) 1 (kindOf (hd (nx g)))) w w' := by
  have hF := hid (Fr.start (d := 3) h hB)
  have e1 : (hd g : Int).tmod 16 = 5 := by rw [Int.tmod_eq_emod_of_nonneg (by omega)]; omega
  have z0 : Szd (nx g) (8) := hS.nx
  have z1 : Szd (nx (nx g)) (8) := z0.nx
  have z2 : Szd (put (nx (nx g)) 0 (kindOf (hd (nx g)))) (7) := z1.put _ _
  have z3 : Szd (put (put (nx (nx g)) 0 (kindOf (hd (nx g)))) 1 (kindOf (hd (nx g)))) (6) := z2.put _ _
  clear h hc
  go_enter Tryd.func23, Tryd.ntmps23
  go_wp2_with (first | (go_at_call 18; refine (put_any B M cv2 iv3 kv (put (nx (nx g)) 0 (kindOf (hd (nx g)))) 1 (kindOf (hd (nx g))) _ hF3.out.at' z2.i).mono ?_; rintro e w4 ⟨rfl, iv4, q1, q2, q3⟩; have hF4 := (hF3.out).put q1 q2 q3; have cP := hF4.cP; have cD := hF4.cD; replace hF4 := hid hF4; clear q1 q2 q3) | (go_at_call 18; refine (put_any B M cv2 iv kv (nx (nx g)) 0 (kindOf (hd (nx g))) _ hF2.out.at' z1.i).mono ?_; rintro e w3 ⟨rfl, iv3, q1, q2, q3⟩; have hF3 := (hF2.out).put q1 q2 q3; have cP := hF3.cP; have cD := hF3.cD; replace hF3 := hid hF3; clear q1 q2 q3) | (go_at_call 34; refine (kind_any B M cv1 iv kv (nx g) _ hF1.out.at' z0.c).mono ?_; rintro e w2 ⟨rfl, cv2, q1, q2⟩; have hF2 := (hF1.out).byte q1 q2; have cP := hF2.cP; have cD := hF2.cD; replace hF2 := hid hF2; clear q1 q2) | (go_at_call 30; refine (byte_any B M cv iv kv g _ hF.out.at' hS.c).mono ?_; rintro e w1 ⟨rfl, cv1, q1, q2⟩; have hF1 := hF.out.byte q1 q2; have cP := hF1.cP; have cD := hF1.cD; replace hF1 := hid hF1; clear q1 q2))
  go_end0
  exact ⟨rfl, hF4.out.to⟩

set_option maxRecDepth 100000 in
set_option maxHeartbeats 1000000 in
theorem stmL_6 (B M : Nat) (cv iv kv : Value) (g : Gen) (w : World) (h : GenAt w B M cv iv kv g) (hB : B ≤ w.heap.size) (hS : Szd g 8) (hc : hd g % 16 = 6) :
    Calls Tryd.prog 23 #[.pointer (some ⟨M, 0, none⟩), .int .i64 3] w fun e w' => e = .returned (.tuple #[]) ∧ GenTo B M iv kv (put (nx (nx g)) 0 (kindOf (hd (nx g)))) w w' := by
  have hF := hid (Fr.start (d := 3) h hB)
  have e1 : (hd g : Int).tmod 16 = 6 := by rw [Int.tmod_eq_emod_of_nonneg (by omega)]; omega
  have z0 : Szd (nx g) (8) := hS.nx
  have z1 : Szd (nx (nx g)) (8) := z0.nx
  have z2 : Szd (put (nx (nx g)) 0 (kindOf (hd (nx g)))) (7) := z1.put _ _
  clear h hc
  go_enter Tryd.func23, Tryd.ntmps23
  go_wp2_with (first | (go_at_call 30; refine (byte_any B M cv iv kv g _ hF.out.at' hS.c).mono ?_; rintro e w1 ⟨rfl, cv1, q1, q2⟩; have hF1 := hF.out.byte q1 q2; have cP := hF1.cP; have cD := hF1.cD; replace hF1 := hid hF1; clear q1 q2))
  go_region_held3 (fun w' => w'.cell? ⟨w.heap.size, 0, none⟩ = some (.pointer (some ⟨M, 0, none⟩))) (first | assumption | go_keep) (first | (go_at_call 18; refine (put_any B M cv2 iv kv (nx (nx g)) 0 (kindOf (hd (nx g))) _ hF2.out.at' z1.i).mono ?_; rintro e w3 ⟨rfl, iv3, q1, q2, q3⟩; have hF3 := (hF2.out).put q1 q2 q3; have cP := hF3.cP; have cD := hF3.cD; replace hF3 := hid hF3; clear q1 q2 q3) | (go_at_call 34; refine (kind_any B M cv1 iv kv (nx g) _ hF1.out.drew.at' z0.c).mono ?_; rintro e w2 ⟨rfl, cv2, q1, q2⟩; have hF2 := (hF1.out.drew).byte q1 q2; have cP := hF2.cP; have cD := hF2.cD; replace hF2 := hid hF2; clear q1 q2))
  go_wp2
  go_end0
  exact ⟨rfl, hF3.out.to⟩

set_option maxRecDepth 100000 in
set_option maxHeartbeats 1000000 in
theorem stmL_7 (B M : Nat) (cv iv kv : Value) (g : Gen) (w : World) (h : GenAt w B M cv iv kv g) (hB : B ≤ w.heap.size) (hS : Szd g 8) (hc : hd g % 16 = 7) :
    Calls Tryd.prog 23 #[.pointer (some ⟨M, 0, none⟩), .int .i64 3] w fun e w' => e = .returned (.tuple #[]) ∧ GenTo B M iv kv (put (nx (nx g)) 1 (kindOf (hd (nx g)))) w w' := by
  have hF := hid (Fr.start (d := 3) h hB)
  have e1 : (hd g : Int).tmod 16 = 7 := by rw [Int.tmod_eq_emod_of_nonneg (by omega)]; omega
  have z0 : Szd (nx g) (8) := hS.nx
  have z1 : Szd (nx (nx g)) (8) := z0.nx
  have z2 : Szd (put (nx (nx g)) 1 (kindOf (hd (nx g)))) (7) := z1.put _ _
  clear h hc
  go_enter Tryd.func23, Tryd.ntmps23
  go_wp2_with (first | (go_at_call 30; refine (byte_any B M cv iv kv g _ hF.out.at' hS.c).mono ?_; rintro e w1 ⟨rfl, cv1, q1, q2⟩; have hF1 := hF.out.byte q1 q2; have cP := hF1.cP; have cD := hF1.cD; replace hF1 := hid hF1; clear q1 q2))
  go_region_held3 (fun w' => w'.cell? ⟨w.heap.size, 0, none⟩ = some (.pointer (some ⟨M, 0, none⟩))) (first | assumption | go_keep) (first | (go_at_call 18; refine (put_any B M cv2 iv kv (nx (nx g)) 1 (kindOf (hd (nx g))) _ hF2.out.at' z1.i).mono ?_; rintro e w3 ⟨rfl, iv3, q1, q2, q3⟩; have hF3 := (hF2.out).put q1 q2 q3; have cP := hF3.cP; have cD := hF3.cD; replace hF3 := hid hF3; clear q1 q2 q3) | (go_at_call 34; refine (kind_any B M cv1 iv kv (nx g) _ hF1.out.drew.at' z0.c).mono ?_; rintro e w2 ⟨rfl, cv2, q1, q2⟩; have hF2 := (hF1.out.drew).byte q1 q2; have cP := hF2.cP; have cD := hF2.cD; replace hF2 := hid hF2; clear q1 q2))
  go_wp2
  go_end0
  exact ⟨rfl, hF3.out.to⟩

set_option maxRecDepth 100000 in
set_option maxHeartbeats 1000000 in
theorem stmL_8 (B M : Nat) (cv iv kv : Value) (g : Gen) (w : World) (h : GenAt w B M cv iv kv g) (hB : B ≤ w.heap.size) (hS : Szd g 8) (hc : hd g % 16 = 8) :
    Calls Tryd.prog 23 #[.pointer (some ⟨M, 0, none⟩), .int .i64 3] w fun e w' => e = .returned (.tuple #[]) ∧ GenTo B M iv kv (put (put (nx (nx g)) 0 (kindOf (hd (nx g)))) 1 (kindOf (hd (nx g)))) w w' := by
  have hF := hid (Fr.start (d := 3) h hB)
  have e1 : (hd g : Int).tmod 16 = 8 := by rw [Int.tmod_eq_emod_of_nonneg (by omega)]; omega
  have z0 : Szd (nx g) (8) := hS.nx
  have z1 : Szd (nx (nx g)) (8) := z0.nx
  have z2 : Szd (put (nx (nx g)) 0 (kindOf (hd (nx g)))) (7) := z1.put _ _
  have z3 : Szd (put (put (nx (nx g)) 0 (kindOf (hd (nx g)))) 1 (kindOf (hd (nx g)))) (6) := z2.put _ _
  clear h hc
  go_enter Tryd.func23, Tryd.ntmps23
  go_wp2_with (first | (go_at_call 18; refine (put_any B M cv2 iv3 kv (put (nx (nx g)) 0 (kindOf (hd (nx g)))) 1 (kindOf (hd (nx g))) _ hF3.out.at' z2.i).mono ?_; rintro e w4 ⟨rfl, iv4, q1, q2, q3⟩; have hF4 := (hF3.out).put q1 q2 q3; have cP := hF4.cP; have cD := hF4.cD; replace hF4 := hid hF4; clear q1 q2 q3) | (go_at_call 18; refine (put_any B M cv2 iv kv (nx (nx g)) 0 (kindOf (hd (nx g))) _ hF2.out.at' z1.i).mono ?_; rintro e w3 ⟨rfl, iv3, q1, q2, q3⟩; have hF3 := (hF2.out).put q1 q2 q3; have cP := hF3.cP; have cD := hF3.cD; replace hF3 := hid hF3; clear q1 q2 q3) | (go_at_call 34; refine (kind_any B M cv1 iv kv (nx g) _ hF1.out.at' z0.c).mono ?_; rintro e w2 ⟨rfl, cv2, q1, q2⟩; have hF2 := (hF1.out).byte q1 q2; have cP := hF2.cP; have cD := hF2.cD; replace hF2 := hid hF2; clear q1 q2) | (go_at_call 30; refine (byte_any B M cv iv kv g _ hF.out.at' hS.c).mono ?_; rintro e w1 ⟨rfl, cv1, q1, q2⟩; have hF1 := hF.out.byte q1 q2; have cP := hF1.cP; have cD := hF1.cD; replace hF1 := hid hF1; clear q1 q2))
  go_end0
  exact ⟨rfl, hF4.out.to⟩

set_option maxRecDepth 100000 in
set_option maxHeartbeats 1000000 in
theorem stmL_9 (B M : Nat) (cv iv kv : Value) (g : Gen) (w : World) (h : GenAt w B M cv iv kv g) (hB : B ≤ w.heap.size) (hS : Szd g 8) (hc : hd g % 16 = 9) :
    Calls Tryd.prog 23 #[.pointer (some ⟨M, 0, none⟩), .int .i64 3] w fun e w' => e = .returned (.tuple #[]) ∧ GenTo B M iv kv (put (put (nx (nx g)) 0 (kindOf (hd (nx g)))) 1 (kindOf (hd (nx g)))) w w' := by
  have hF := hid (Fr.start (d := 3) h hB)
  have e1 : (hd g : Int).tmod 16 = 9 := by rw [Int.tmod_eq_emod_of_nonneg (by omega)]; omega
  have z0 : Szd (nx g) (8) := hS.nx
  have z1 : Szd (nx (nx g)) (8) := z0.nx
  have z2 : Szd (put (nx (nx g)) 0 (kindOf (hd (nx g)))) (7) := z1.put _ _
  have z3 : Szd (put (put (nx (nx g)) 0 (kindOf (hd (nx g)))) 1 (kindOf (hd (nx g)))) (6) := z2.put _ _
  clear h hc
  go_enter Tryd.func23, Tryd.ntmps23
  go_wp2_with (first | (go_at_call 18; refine (put_any B M cv2 iv3 kv (put (nx (nx g)) 0 (kindOf (hd (nx g)))) 1 (kindOf (hd (nx g))) _ hF3.out.at' z2.i).mono ?_; rintro e w4 ⟨rfl, iv4, q1, q2, q3⟩; have hF4 := (hF3.out).put q1 q2 q3; have cP := hF4.cP; have cD := hF4.cD; replace hF4 := hid hF4; clear q1 q2 q3) | (go_at_call 18; refine (put_any B M cv2 iv kv (nx (nx g)) 0 (kindOf (hd (nx g))) _ hF2.out.at' z1.i).mono ?_; rintro e w3 ⟨rfl, iv3, q1, q2, q3⟩; have hF3 := (hF2.out).put q1 q2 q3; have cP := hF3.cP; have cD := hF3.cD; replace hF3 := hid hF3; clear q1 q2 q3) | (go_at_call 34; refine (kind_any B M cv1 iv kv (nx g) _ hF1.out.at' z0.c).mono ?_; rintro e w2 ⟨rfl, cv2, q1, q2⟩; have hF2 := (hF1.out).byte q1 q2; have cP := hF2.cP; have cD := hF2.cD; replace hF2 := hid hF2; clear q1 q2) | (go_at_call 30; refine (byte_any B M cv iv kv g _ hF.out.at' hS.c).mono ?_; rintro e w1 ⟨rfl, cv1, q1, q2⟩; have hF1 := hF.out.byte q1 q2; have cP := hF1.cP; have cD := hF1.cD; replace hF1 := hid hF1; clear q1 q2))
  go_end0
  exact ⟨rfl, hF4.out.to⟩

set_option maxRecDepth 100000 in
set_option maxHeartbeats 1000000 in
theorem stmL_12 (B M : Nat) (cv iv kv : Value) (g : Gen) (w : World) (h : GenAt w B M cv iv kv g) (hB : B ≤ w.heap.size) (hS : Szd g 8) (hc : hd g % 16 = 12) :
    Calls Tryd.prog 23 #[.pointer (some ⟨M, 0, none⟩), .int .i64 3] w fun e w' => e = .returned (.tuple #[]) ∧ GenTo B M iv kv (put (nx (nx g)) 0 (kindOf (hd (nx g)))) w w' := by
  have hF := hid (Fr.start (d := 3) h hB)
  have e1 : (hd g : Int).tmod 16 = 12 := by rw [Int.tmod_eq_emod_of_nonneg (by omega)]; omega
  have z0 : Szd (nx g) (8) := hS.nx
  have z1 : Szd (nx (nx g)) (8) := z0.nx
  have z2 : Szd (put (nx (nx g)) 0 (kindOf (hd (nx g)))) (7) := z1.put _ _
  clear h hc
  go_enter Tryd.func23, Tryd.ntmps23
  go_wp2_with (first | (go_at_call 30; refine (byte_any B M cv iv kv g _ hF.out.at' hS.c).mono ?_; rintro e w1 ⟨rfl, cv1, q1, q2⟩; have hF1 := hF.out.byte q1 q2; have cP := hF1.cP; have cD := hF1.cD; replace hF1 := hid hF1; clear q1 q2))
  go_region_held3 (fun w' => w'.cell? ⟨w.heap.size, 0, none⟩ = some (.pointer (some ⟨M, 0, none⟩))) (first | assumption | go_keep) (first | (go_at_call 18; refine (put_any B M cv2 iv kv (nx (nx g)) 0 (kindOf (hd (nx g))) _ hF2.out.at' z1.i).mono ?_; rintro e w3 ⟨rfl, iv3, q1, q2, q3⟩; have hF3 := (hF2.out).put q1 q2 q3; have cP := hF3.cP; have cD := hF3.cD; replace hF3 := hid hF3; clear q1 q2 q3) | (go_at_call 34; refine (kind_any B M cv1 iv kv (nx g) _ hF1.out.drew.at' z0.c).mono ?_; rintro e w2 ⟨rfl, cv2, q1, q2⟩; have hF2 := (hF1.out.drew).byte q1 q2; have cP := hF2.cP; have cD := hF2.cD; replace hF2 := hid hF2; clear q1 q2))
  go_wp2
  go_end0
  exact ⟨rfl, hF3.out.to⟩

set_option maxRecDepth 100000 in
set_option maxHeartbeats 1000000 in
theorem stmL_13 (B M : Nat) (cv iv kv : Value) (g : Gen) (w : World) (h : GenAt w B M cv iv kv g) (hB : B ≤ w.heap.size) (hS : Szd g 8) (hc : hd g % 16 = 13) :
    Calls Tryd.prog 23 #[.pointer (some ⟨M, 0, none⟩), .int .i64 3] w fun e w' => e = .returned (.tuple #[]) ∧ GenTo B M iv kv (put (nx (nx g)) 1 (kindOf (hd (nx g)))) w w' := by
  have hF := hid (Fr.start (d := 3) h hB)
  have e1 : (hd g : Int).tmod 16 = 13 := by rw [Int.tmod_eq_emod_of_nonneg (by omega)]; omega
  have z0 : Szd (nx g) (8) := hS.nx
  have z1 : Szd (nx (nx g)) (8) := z0.nx
  have z2 : Szd (put (nx (nx g)) 1 (kindOf (hd (nx g)))) (7) := z1.put _ _
  clear h hc
  go_enter Tryd.func23, Tryd.ntmps23
  go_wp2_with (first | (go_at_call 30; refine (byte_any B M cv iv kv g _ hF.out.at' hS.c).mono ?_; rintro e w1 ⟨rfl, cv1, q1, q2⟩; have hF1 := hF.out.byte q1 q2; have cP := hF1.cP; have cD := hF1.cD; replace hF1 := hid hF1; clear q1 q2))
  go_region_held3 (fun w' => w'.cell? ⟨w.heap.size, 0, none⟩ = some (.pointer (some ⟨M, 0, none⟩))) (first | assumption | go_keep) (first | (go_at_call 18; refine (put_any B M cv2 iv kv (nx (nx g)) 1 (kindOf (hd (nx g))) _ hF2.out.at' z1.i).mono ?_; rintro e w3 ⟨rfl, iv3, q1, q2, q3⟩; have hF3 := (hF2.out).put q1 q2 q3; have cP := hF3.cP; have cD := hF3.cD; replace hF3 := hid hF3; clear q1 q2 q3) | (go_at_call 34; refine (kind_any B M cv1 iv kv (nx g) _ hF1.out.drew.at' z0.c).mono ?_; rintro e w2 ⟨rfl, cv2, q1, q2⟩; have hF2 := (hF1.out.drew).byte q1 q2; have cP := hF2.cP; have cD := hF2.cD; replace hF2 := hid hF2; clear q1 q2))
  go_wp2
  go_end0
  exact ⟨rfl, hF3.out.to⟩

set_option maxRecDepth 100000 in
set_option maxHeartbeats 1000000 in
theorem stmL_14 (B M : Nat) (cv iv kv : Value) (g : Gen) (w : World) (h : GenAt w B M cv iv kv g) (hB : B ≤ w.heap.size) (hS : Szd g 8) (hc : hd g % 16 = 14) :
    Calls Tryd.prog 23 #[.pointer (some ⟨M, 0, none⟩), .int .i64 3] w fun e w' => e = .returned (.tuple #[]) ∧ GenTo B M iv kv (put (put (nx (nx g)) 0 (kindOf (hd (nx g)))) 1 (kindOf (hd (nx g)))) w w' := by
  have hF := hid (Fr.start (d := 3) h hB)
  have e1 : (hd g : Int).tmod 16 = 14 := by rw [Int.tmod_eq_emod_of_nonneg (by omega)]; omega
  have z0 : Szd (nx g) (8) := hS.nx
  have z1 : Szd (nx (nx g)) (8) := z0.nx
  have z2 : Szd (put (nx (nx g)) 0 (kindOf (hd (nx g)))) (7) := z1.put _ _
  have z3 : Szd (put (put (nx (nx g)) 0 (kindOf (hd (nx g)))) 1 (kindOf (hd (nx g)))) (6) := z2.put _ _
  clear h hc
  go_enter Tryd.func23, Tryd.ntmps23
  go_wp2_with (first | (go_at_call 18; refine (put_any B M cv2 iv3 kv (put (nx (nx g)) 0 (kindOf (hd (nx g)))) 1 (kindOf (hd (nx g))) _ hF3.out.at' z2.i).mono ?_; rintro e w4 ⟨rfl, iv4, q1, q2, q3⟩; have hF4 := (hF3.out).put q1 q2 q3; have cP := hF4.cP; have cD := hF4.cD; replace hF4 := hid hF4; clear q1 q2 q3) | (go_at_call 18; refine (put_any B M cv2 iv kv (nx (nx g)) 0 (kindOf (hd (nx g))) _ hF2.out.at' z1.i).mono ?_; rintro e w3 ⟨rfl, iv3, q1, q2, q3⟩; have hF3 := (hF2.out).put q1 q2 q3; have cP := hF3.cP; have cD := hF3.cD; replace hF3 := hid hF3; clear q1 q2 q3) | (go_at_call 34; refine (kind_any B M cv1 iv kv (nx g) _ hF1.out.at' z0.c).mono ?_; rintro e w2 ⟨rfl, cv2, q1, q2⟩; have hF2 := (hF1.out).byte q1 q2; have cP := hF2.cP; have cD := hF2.cD; replace hF2 := hid hF2; clear q1 q2) | (go_at_call 30; refine (byte_any B M cv iv kv g _ hF.out.at' hS.c).mono ?_; rintro e w1 ⟨rfl, cv1, q1, q2⟩; have hF1 := hF.out.byte q1 q2; have cP := hF1.cP; have cD := hF1.cD; replace hF1 := hid hF1; clear q1 q2))
  go_end0
  exact ⟨rfl, hF4.out.to⟩

set_option maxRecDepth 100000 in
set_option maxHeartbeats 1000000 in
theorem stmL_15 (B M : Nat) (cv iv kv : Value) (g : Gen) (w : World) (h : GenAt w B M cv iv kv g) (hB : B ≤ w.heap.size) (hS : Szd g 8) (hc : hd g % 16 = 15) :
    Calls Tryd.prog 23 #[.pointer (some ⟨M, 0, none⟩), .int .i64 3] w fun e w' => e = .returned (.tuple #[]) ∧ GenTo B M iv kv (put (put (nx (nx g)) 0 (kindOf (hd (nx g)))) 1 (kindOf (hd (nx g)))) w w' := by
  have hF := hid (Fr.start (d := 3) h hB)
  have e1 : (hd g : Int).tmod 16 = 15 := by rw [Int.tmod_eq_emod_of_nonneg (by omega)]; omega
  have z0 : Szd (nx g) (8) := hS.nx
  have z1 : Szd (nx (nx g)) (8) := z0.nx
  have z2 : Szd (put (nx (nx g)) 0 (kindOf (hd (nx g)))) (7) := z1.put _ _
  have z3 : Szd (put (put (nx (nx g)) 0 (kindOf (hd (nx g)))) 1 (kindOf (hd (nx g)))) (6) := z2.put _ _
  clear h hc
  go_enter Tryd.func23, Tryd.ntmps23
  go_wp2_with (first | (go_at_call 18; refine (put_any B M cv2 iv3 kv (put (nx (nx g)) 0 (kindOf (hd (nx g)))) 1 (kindOf (hd (nx g))) _ hF3.out.at' z2.i).mono ?_; rintro e w4 ⟨rfl, iv4, q1, q2, q3⟩; have hF4 := (hF3.out).put q1 q2 q3; have cP := hF4.cP; have cD := hF4.cD; replace hF4 := hid hF4; clear q1 q2 q3) | (go_at_call 18; refine (put_any B M cv2 iv kv (nx (nx g)) 0 (kindOf (hd (nx g))) _ hF2.out.at' z1.i).mono ?_; rintro e w3 ⟨rfl, iv3, q1, q2, q3⟩; have hF3 := (hF2.out).put q1 q2 q3; have cP := hF3.cP; have cD := hF3.cD; replace hF3 := hid hF3; clear q1 q2 q3) | (go_at_call 34; refine (kind_any B M cv1 iv kv (nx g) _ hF1.out.at' z0.c).mono ?_; rintro e w2 ⟨rfl, cv2, q1, q2⟩; have hF2 := (hF1.out).byte q1 q2; have cP := hF2.cP; have cD := hF2.cD; replace hF2 := hid hF2; clear q1 q2) | (go_at_call 30; refine (byte_any B M cv iv kv g _ hF.out.at' hS.c).mono ?_; rintro e w1 ⟨rfl, cv1, q1, q2⟩; have hF1 := hF.out.byte q1 q2; have cP := hF1.cP; have cD := hF1.cD; replace hF1 := hid hF1; clear q1 q2))
  go_end0
  exact ⟨rfl, hF4.out.to⟩

end Go.Proofs.YtkhicabfmkldpaaDoor
