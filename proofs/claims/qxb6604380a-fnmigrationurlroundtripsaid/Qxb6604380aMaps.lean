/-
  THE MAPS: what a map that is owned answers in every later world; the maps that the law makes.
-/
import Derived.Test.Qxb6604380aMig
namespace Go.Proofs.Qxb6604380a
open Go.RowKit Go.Maps Go.WideMaps

theorem law9 : Keyed Try.prog 9 := string_keyed Try.underlying9
theorem zero9 (w : World) : (zeroValue 9).run Try.prog w = .ok (.string ⟨#[]⟩) w := by kernel_rfl

theorem owns_later {H : Type} {w wx : World} {b n : Nat} {D : DataW H} (h : w.ownsMap Try.prog 9 (plainElem (H := H) Try.prog 9) b n D) (hB : Below w.heap.size w wx) : wx.ownsMap Try.prog 9 (plainElem (H := H) Try.prog 9) b n D := by
  have hlt := h.lt
  obtain ⟨es, clock, hb, F, hs, hD⟩ := h
  exact ⟨es, clock, (hB.block b hlt).trans hb, F, hs, hD⟩

theorem looks_of {H : Type} {w : World} {b n : Nat} {D : DataW H} (h : w.ownsMap Try.prog 9 (plainElem (H := H) Try.prog 9) b n D) {key s : ByteArray} (hk : key.size ≤ maxLen)
    (hat : D.atKey (.string key.data.toList) (.lit (.string [])) = .lit (.string s.data.toList)) : Looks w (.map (some b)) key s := by
  intro wx hB
  obtain ⟨v, ps, hrun, hv⟩ := (owns_later h hB).lookup law9 Try.underlying22 (zero9 wx) (zd := .lit (.string [])) (zp := []) (plainElem_string Try.underlying9 (by decide)) (keyOf_string_mk Try.underlying9 hk)
  obtain ⟨s', rfl, hz, _⟩ := plainElem_string_inv Try.underlying9 hv
  rw [hat] at hz
  simp only [Prod.mk.injEq, DataW.lit.injEq, Lit.string.injEq] at hz
  have e : s = s' := by
    obtain ⟨⟨a⟩⟩ := s
    obtain ⟨⟨c⟩⟩ := s'
    simp at hz
    rw [hz.1]
  rw [e]
  exact hrun

theorem make_one (w1 : World) (key u : ByteArray) (hk : key.size ≤ maxLen) (hu : u.size ≤ maxLen) :
    ∃ w2, (Instr.mapUpdate 22 (.map (some w1.heap.size)) (.string key) (.string u)).run Try.prog (w1.alloc (.map #[] 0)) = .ok () w2 ∧
      w2.ownsMap Try.prog 9 (plainElem (H := Unit) Try.prog 9) w1.heap.size 1 ((DataW.map []).put (.string key.data.toList) (.lit (.string u.data.toList))) ∧ Below w1.heap.size w1 w2 := by
  obtain ⟨w2, hrun, hown, hg⟩ := (World.ownsMap_made w1 Try.prog 9 (plainElem (H := Unit) Try.prog 9)).update law9 Try.underlying22 (by decide) (keyOf_string_mk Try.underlying9 hk) (plainElem_string Try.underlying9 hu)
  exact ⟨w2, hrun, hown, ((Below.refl _ _).alloc (Nat.le_refl _) _).grown hg (by simp) (fun k h => by cases h; exact Nat.le_refl _)⟩

theorem make_more {w : World} {b n : Nat} {D : DataW Unit} (h : w.ownsMap Try.prog 9 (plainElem (H := Unit) Try.prog 9) b n D) (hn : n < maxLen) (key u : ByteArray) (hk : key.size ≤ maxLen) (hu : u.size ≤ maxLen) :
    ∃ w2, (Instr.mapUpdate 22 (.map (some b)) (.string key) (.string u)).run Try.prog w = .ok () w2 ∧
      w2.ownsMap Try.prog 9 (plainElem (H := Unit) Try.prog 9) b (n + 1) (D.put (.string key.data.toList) (.lit (.string u.data.toList))) ∧ Below b w w2 := by
  obtain ⟨w2, hrun, hown, hg⟩ := h.update law9 Try.underlying22 hn (keyOf_string_mk Try.underlying9 hk) (plainElem_string Try.underlying9 hu)
  exact ⟨w2, hrun, hown, (Below.refl _ _).grown hg (Nat.le_of_lt h.lt) (fun k h => by cases h; exact Nat.le_refl _)⟩

end Go.Proofs.Qxb6604380a
