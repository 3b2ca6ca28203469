/-
  fault of a halted run: its text.
-/
import Derived.Test.YtkhicabfmkldpaaDoorFault
import Derived.Stop.Asserts
set_option linter.unusedSimpArgs false
set_option linter.unusedVariables false
namespace Go.Proofs.YtkhicabfmkldpaaDoor
open Go Go.RowKit

theorem said_error (b : Nat) (s : ByteArray) (w : World) (hb : blk w b #[.string s] 131) : Calls Tryd.prog 114 #[.pointer (some ⟨b, 0, none⟩)] w fun e w' => e = .returned (.string s) ∧ w' = w := by
  have c0 : w.cell? ⟨b, 0, none⟩ = some (.string s) := hb.cell 0 rfl
  clear hb
  go_enter Tryd.func114, Tryd.ntmps114
  go_wp2
  go_ret
  exact ⟨rfl, rfl⟩

set_option maxRecDepth 100000 in
theorem prefix65 (s p : ByteArray) (h1 : p.size ≤ s.size) (h2 : s.extract 0 p.size = p) (h3 : s.size ≤ 2000000) (w : World) : Calls Tryd.prog 65 #[.string s, .string p] w fun e w' => e = .returned (.bool true) ∧ w' = w := by
  have h4 : (p.size : Int) ≤ s.size := by omega
  go_enter Tryd.func65, Tryd.ntmps65
  go_wp2
  go_ret
  exact ⟨rfl, rfl⟩

set_option maxRecDepth 100000 in
theorem prefix45 (s p : ByteArray) (h1 : p.size ≤ s.size) (h2 : s.extract 0 p.size = p) (h3 : s.size ≤ 2000000) (w : World) : Calls Tryd.prog 45 #[.string s, .string p] w fun e w' => e = .returned (.bool true) ∧ w' = w := by
  go_enter Tryd.func45, Tryd.ntmps45
  go_wp2_with (go_at_call 65; refine (prefix65 s p h1 h2 h3 _).mono ?_; rintro e w' ⟨rfl, rfl⟩)
  go_ret
  exact ⟨rfl, rfl⟩

set_option maxRecDepth 100000 in
theorem trim66 (s p : ByteArray) (h1 : p.size ≤ s.size) (h2 : s.extract 0 p.size = p) (h3 : s.size ≤ 2000000) (w : World) : Calls Tryd.prog 66 #[.string s, .string p] w fun e w' => e = .returned (.string (s.extract p.size s.size)) ∧ w' = w := by
  have h4 : (p.size : Int) ≤ s.size := by omega
  have H2 := hid h2
  clear h2
  go_enter Tryd.func66, Tryd.ntmps66
  go_wp2_with (go_at_call 65; refine (prefix65 s p h1 H2.out h3 _).mono ?_; rintro e w' ⟨rfl, rfl⟩)
  go_ret
  exact ⟨rfl, rfl⟩

set_option maxRecDepth 100000 in
theorem trim46 (s p : ByteArray) (h1 : p.size ≤ s.size) (h2 : s.extract 0 p.size = p) (h3 : s.size ≤ 2000000) (w : World) : Calls Tryd.prog 46 #[.string s, .string p] w fun e w' => e = .returned (.string (s.extract p.size s.size)) ∧ w' = w := by
  have H2 := hid h2
  clear h2
  go_enter Tryd.func46, Tryd.ntmps46
  go_wp2_with (go_at_call 66; refine (trim66 s p h1 H2.out h3 _).mono ?_; rintro e w' ⟨rfl, rfl⟩)
  go_ret
  exact ⟨rfl, rfl⟩

theorem bytes_append_left (p s : ByteArray) : (p ++ s).extract 0 p.size = p := by
  apply ByteArray.ext
  apply Array.ext'
  simp [ByteArray.data_extract, ByteArray.data_append, ← ByteArray.size_data]
theorem bytes_append_right (p s : ByteArray) : (p ++ s).extract p.size (p ++ s).size = s := by
  apply ByteArray.ext
  apply Array.ext'
  simp [ByteArray.data_extract, ByteArray.data_append, ← ByteArray.size_data]

set_option maxRecDepth 100000 in
theorem fault_text (B : Nat) (e0 e1 : Addr) (b : Nat) (s : ByteArray) (w : World) (he : Eofs w B e0 e1) (hb : blk w b #[.string (runErr ++ s)] 131) (hs : s.size ≤ 1000000) : Calls Tryd.prog 29 #[.iface 129 (.pointer (some ⟨b, 0, none⟩))] w fun e w' => e = .returned (.string s) ∧ w' = w := by
  have g0 := he.1
  have g1 := he.2.1
  have q0 : ∀ (x : Addr) (w : World), (binOp .eql 82 (.iface 129 (.pointer (some ⟨b, 0, none⟩))) (.iface 185 (.pointer (some x)))).run Tryd.prog w = .ok (.bool false) w := fun x w => run_eql_iface_types (ti := 82) (ms := Tryd.prog.methodsAt 82) 129 185 _ _ (by kernel_rfl) (by decide) w
  have hsz : (runErr ++ s).size = 15 + s.size := by rw [ByteArray.size_append]; rfl
  have h2 := bytes_append_left runErr s
  have h3 := bytes_append_right runErr s
  obtain ⟨t, ht⟩ : ∃ t, runErr ++ s = t := ⟨_, rfl⟩
  rw [ht] at hsz h2 h3 hb
  have Hb := hid hb
  have H2 := hid h2
  have H3 := hid h3
  have Hs := hid hsz
  clear he hb h2 h3 hsz ht
  go_enter Tryd.func29, Tryd.ntmps29
  go_wp2_with (first | (go_at_call 114; refine (said_error b t _ Hb.out).mono ?_; rintro e w' ⟨rfl, rfl⟩) | (go_at_call 45; refine (prefix45 t runErr (by have := Hs.out; show 15 ≤ t.size; omega) H2.out (by have := Hs.out; omega) _).mono ?_; rintro e w' ⟨rfl, rfl⟩) | (go_at_call 46; refine (trim46 t runErr (by have := Hs.out; show 15 ≤ t.size; omega) H2.out (by have := Hs.out; omega) _).mono ?_; rintro e w' ⟨rfl, rfl⟩))

  go_ret
  refine ⟨?_, rfl⟩
  conv => rhs; rw [← H3.out]
  rfl
end Go.Proofs.YtkhicabfmkldpaaDoor
