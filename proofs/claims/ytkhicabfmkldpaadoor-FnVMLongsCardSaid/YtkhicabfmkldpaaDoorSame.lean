/-
  spec.VMSame: are two lists of notes the same.
-/
import Derived.Test.YtkhicabfmkldpaaDoorVmrun2
set_option linter.unusedSimpArgs false
set_option linter.unusedVariables false
namespace Go.Proofs.YtkhicabfmkldpaaDoor
open Go Go.RowKit

def Note.val (n : Note) : Value := .agg #[.string n.name, .int .i64 n.n, .string n.s, .int .i64 n.tg]

theorem ba_inj {a b : ByteArray} (h : a.toList = b.toList) : a = b := by
  rw [ByteArray.toList_eq, ByteArray.toList_eq] at h
  exact ByteArray.ext (Array.ext' h)

open Classical in
theorem neq_note (a b : Note) (w : World) : (binOp .neq 47 (.agg #[.string a.name, .int .i64 a.n, .string a.s, .int .i64 a.tg]) (.agg #[.string b.name, .int .i64 b.n, .string b.s, .int .i64 b.tg])).run Tryd.prog w = .ok (.bool (!decide (a = b))) w := by
  simp [go_sem]
  obtain ⟨a1, a2, a3, a4⟩ := a
  obtain ⟨b1, b2, b3, b4⟩ := b
  by_cases h1 : a1 = b1
  · by_cases h2 : a2 = b2
    · by_cases h3 : a3 = b3
      · by_cases h4 : a4 = b4
        · simp [h1, h2, h3, h4]
        · simp [h1, h2, h3, h4]
      · simp [h1, h2, h3, fun e => h3 (ba_inj e)]
        intro h; exact absurd (ba_inj h) h3
    · simp [h1, h2]
  · have h5 : ¬ a1.toList = b1.toList := fun e => h1 (ba_inj e)
    simp [h1, h5]

/-- The first so many notes. -/
theorem take_step {l : List Note} {i : Nat} {n : Note} (h : l[i]? = some n) : l.take (i + 1) = l.take i ++ [n] := by
  rw [List.take_add_one, h]; rfl

set_option maxHeartbeats 1000000 in
set_option maxRecDepth 100000 in
theorem same_any (av bv : Value) (la lb : List Note) (w : World) (ha : CallsAt w av la) (hb : CallsAt w bv lb) (hla : la.length ≤ 1000000) (hlb : lb.length ≤ 1000000) :
    Calls Tryd.prog 14 #[av, bv] w fun e w' => ∃ b : Bool, e = .returned (.bool b) ∧ (b = true ↔ la = lb) ∧ ∃ k, w' = w.drewN k := by
  obtain ⟨aa, ac, hav⟩ : ∃ a c, av = .slice a la.length c := by
    rcases ha with ⟨rfl, rfl⟩ | ⟨b, off, cap, rfl, _⟩
    · exact ⟨_, _, rfl⟩
    · exact ⟨_, _, rfl⟩
  obtain ⟨ba, bc, hbv⟩ : ∃ a c, bv = .slice a lb.length c := by
    rcases hb with ⟨rfl, rfl⟩ | ⟨b, off, cap, rfl, _⟩
    · exact ⟨_, _, rfl⟩
    · exact ⟨_, _, rfl⟩
  have HA := hid ha
  have HB := hid hb
  have Hav := hid hav
  have Hbv := hid hbv
  rw [hav, hbv]
  clear ha hb hav hbv
  by_cases hl : la.length = lb.length
  · obtain ⟨n, hn⟩ : ∃ n, la.length = n := ⟨_, rfl⟩
    rw [hn] at hla ⊢
    have hn2 : lb.length = n := by omega
    rw [hn2]
    have Hn := hid (And.intro hn hn2)
    clear hl hn hn2 hlb
    go_enter Tryd.func14, Tryd.ntmps14
    go_wp2
    go_loopg [5] n (fun k v5 wr => ∃ (i : Nat), v5 = .int .i64 i ∧ i + k = n ∧ Hid (la.take i = lb.take i ∧ ∃ q, wr = w.drewN q))
    case atStart => exact ⟨0, rfl, by omega, rfl, 0, rfl⟩
    case round =>
      obtain ⟨i, rfl, hik, HH⟩ := hrel
      by_cases hlt : i < n
      · obtain ⟨x, hx⟩ : ∃ x, la[i]? = some x := ⟨_, List.getElem?_eq_getElem (by rw [Hn.out.1]; exact hlt)⟩
        obtain ⟨y, hy⟩ : ∃ y, lb[i]? = some y := ⟨_, List.getElem?_eq_getElem (by rw [Hn.out.2]; exact hlt)⟩
        obtain ⟨q, hq⟩ := HH.out.2
        obtain ⟨b1, o1, rfl, hc1⟩ : ∃ b off, aa = some ⟨b, off, none⟩ ∧ w.cell? ⟨b, off + i * 4, none⟩ = some (.string x.name) ∧ w.cell? ⟨b, off + i * 4 + 1, none⟩ = some (.int .i64 x.n) ∧ w.cell? ⟨b, off + i * 4 + 2, none⟩ = some (.string x.s) ∧ w.cell? ⟨b, off + i * 4 + 3, none⟩ = some (.int .i64 x.tg) := by
          have h := HA.out
          rw [Hav.out] at h
          rcases h with ⟨h, rfl⟩ | ⟨b, off, cap, h, _, _, h3⟩
          · simp at hx
          · cases h; exact ⟨b, off, rfl, h3 i x hx⟩
        obtain ⟨b2, o2, rfl, hc2⟩ : ∃ b off, ba = some ⟨b, off, none⟩ ∧ w.cell? ⟨b, off + i * 4, none⟩ = some (.string y.name) ∧ w.cell? ⟨b, off + i * 4 + 1, none⟩ = some (.int .i64 y.n) ∧ w.cell? ⟨b, off + i * 4 + 2, none⟩ = some (.string y.s) ∧ w.cell? ⟨b, off + i * 4 + 3, none⟩ = some (.int .i64 y.tg) := by
          have h := HB.out
          rw [Hbv.out] at h
          rcases h with ⟨h, rfl⟩ | ⟨b, off, cap, h, _, _, h3⟩
          · simp at hy
          · cases h; exact ⟨b, off, rfl, h3 i y hy⟩
        subst hq
        obtain ⟨c10, c11, c12, c13⟩ := hc1
        obtain ⟨c20, c21, c22, c23⟩ := hc2
        have hneq := neq_note x y
        have Hx := hid (And.intro hx hy)
        clear hx hy
        by_cases hxy : x = y
        · rw [show (!@decide (x = y) (Classical.propDecidable _)) = false by simp [hxy]] at hneq
          have Hxy := hid hxy
          clear hxy
          go_wp2
          go_quiet (fail)
          go_wp2
          go_roundg (n - (i + 1))
          case measure => omega
          case rel =>
            refine ⟨i + 1, rfl, by omega, ?_, _, rfl⟩
            rw [take_step Hx.out.1, take_step Hx.out.2, HH.out.1, Hxy.out]
        · rw [show (!@decide (x = y) (Classical.propDecidable _)) = true by simp [hxy]] at hneq
          have Hxy := hid hxy
          clear hxy
          go_wp2
          go_quiet (fail)
          go_wp2
          go_ret
          refine ⟨false, rfl, ⟨fun h => absurd h (by decide), fun h => absurd ?_ Hxy.out⟩, _, World.drewN_drewN _ _ _⟩
          have h1 := Hx.out.1
          rw [h, Hx.out.2] at h1
          exact (Option.some.inj h1).symm
      · go_wp2
        go_ret
        have hi : i = n := by omega
        subst hi
        obtain ⟨h1, h2⟩ := HH.out
        rw [List.take_of_length_le (by rw [Hn.out.1]; exact Nat.le_refl _), List.take_of_length_le (by rw [Hn.out.2]; exact Nat.le_refl _)] at h1
        exact ⟨true, rfl, ⟨fun _ => h1, fun _ => rfl⟩, h2⟩
  · have hl2 : ¬ (la.length : Int) = lb.length := by omega
    have Hl := hid hl
    clear hl
    go_enter Tryd.func14, Tryd.ntmps14
    go_wp2
    go_ret
    exact ⟨false, rfl, ⟨fun h => absurd h (by decide), fun h => absurd (congrArg List.length h) Hl.out⟩, 0, rfl⟩
end Go.Proofs.YtkhicabfmkldpaaDoor
