/-
  MigrationURL (5), its closure (6), ZZMigrationURL (4), over look-ups that are taken as equations.
-/
import Derived.Test.Qxb6604380aProg
import Derived.WalkKit
import Derived.WalkSpells
import Derived.Outline
import Derived.Maps.Own
import Derived.Maps.OwnSet
namespace Go.Proofs.Qxb6604380a
open Go.RowKit

def keyM : ByteArray := ⟨#[77, 73, 71, 82, 65, 84, 73, 79, 78, 95, 68, 65, 84, 65, 66, 65, 83, 69, 95, 85, 82, 76]⟩
def keyD : ByteArray := ⟨#[68, 65, 84, 65, 66, 65, 83, 69, 95, 85, 82, 76]⟩

/-- In w and in every later world the map's value at the key is s. -/
def Looks (w : World) (m : Value) (key s : ByteArray) : Prop :=
  ∀ wx, Below w.heap.size w wx → (Instr.lookup 22 m (.string key) false).run Try.prog wx = .ok (.string s) wx

set_option maxHeartbeats 400000 in
theorem mig_first (m : Option Nat) (s : ByteArray) (w : World) (hs : s.toList.isEmpty = false) (hM : Looks w (.map m) keyM s) :
    Calls Try.prog 4 #[.map m] w fun e w' => e = .returned (.tuple #[.string s, .nilIface]) ∧ Below w.heap.size w w' := by
  have h1 := hM (w.alloc (.cells #[.map m] 22)) ((Below.refl _ _).alloc (Nat.le_refl _) _)
  unfold keyM at h1
  go_enter Try.func4, Try.ntmps4
  go_wp2
  go_ret2
  exact ⟨rfl, (Below.refl _ _).alloc (Nat.le_refl _) _⟩

set_option maxHeartbeats 400000 in
theorem mig_second (m : Option Nat) (s t : ByteArray) (w : World) (hs : s.toList.isEmpty = true) (ht : t.toList.isEmpty = false) (hM : Looks w (.map m) keyM s) (hD : Looks w (.map m) keyD t) :
    Calls Try.prog 4 #[.map m] w fun e w' => e = .returned (.tuple #[.string t, .nilIface]) ∧ Below w.heap.size w w' := by
  have h1 := hM (w.alloc (.cells #[.map m] 22)) ((Below.refl _ _).alloc (Nat.le_refl _) _)
  have h2 := hD (w.alloc (.cells #[.map m] 22)) ((Below.refl _ _).alloc (Nat.le_refl _) _)
  unfold keyM at h1
  unfold keyD at h2
  go_enter Try.func4, Try.ntmps4
  go_wp2
  go_ret2
  exact ⟨rfl, (Below.refl _ _).alloc (Nat.le_refl _) _⟩

set_option maxHeartbeats 400000 in
theorem mig_none (m : Option Nat) (s t : ByteArray) (w : World) (hs : s.toList.isEmpty = true) (ht : t.toList.isEmpty = true) (hM : Looks w (.map m) keyM s) (hD : Looks w (.map m) keyD t) :
    Calls Try.prog 4 #[.map m] w fun e w' => (∃ k v, e = .returned (.tuple #[.string ⟨#[]⟩, .iface k v])) ∧ Below w.heap.size w w' := by
  have h1 := hM (w.alloc (.cells #[.map m] 22)) ((Below.refl _ _).alloc (Nat.le_refl _) _)
  have h2 := hD (w.alloc (.cells #[.map m] 22)) ((Below.refl _ _).alloc (Nat.le_refl _) _)
  unfold keyM at h1
  unfold keyD at h2
  go_enter Try.func4, Try.ntmps4
  go_wp2
  go_ret2
  exact ⟨⟨_, _, rfl⟩, ((Below.refl _ _).alloc (Nat.le_refl _) _).alloc (by simp) _⟩

end Go.Proofs.Qxb6604380a
