/-
  THE HOSTS OPENED: a slice of strings that reads as data, as the walks want it.
-/
import Derived.Test.Qxb6615497aParts
import Derived.ProofKit
import Derived.Deep.Slices
namespace Go.Proofs.Qxb6615497a
open Go.ChangeShapes Go.WideShapes Go.ChangeAt Go.RowKit

theorem hosts_of {H : Type} {enc : TypeId × Value → H} {W : World} {fuel : Nat} {a : Option Addr} {len cap : Nat} {x : DataW H × List MemPlace}
    (hf : DataW.trod enc Try.prog W 0 (fun _ => true) true fuel 22 [.slice a len cap] = some x) : ∃ host, Hosts a len host W ∧ (a = none → len = 0 ∧ cap = 0) := by
  rcases Deep.open_slice1 Try.underlying22 (by kernel_rfl) hf with ⟨hcs, _⟩ | ⟨ad, l, c, m, n, V, D, Pl, hcs, _, hl, _, hm, _, hx⟩
  · simp at hcs
    obtain ⟨rfl, rfl, rfl⟩ := hcs
    exact ⟨fun _ => ByteArray.empty, fun i hi => absurd hi (Nat.not_lt_zero _), fun _ => ⟨rfl, rfl⟩⟩
  · simp at hcs
    obtain ⟨rfl, rfl, rfl⟩ := hcs
    have hlen : len ≤ m := by rw [hm]; exact hl
    obtain ⟨host, hh⟩ := Deep.choose_lt (α := ByteArray) (p := fun i s => W.cell? (ad.add i) = some (.string s)) (n := len) (fun i hi => by
      obtain ⟨h1, h2⟩ := hx i (by omega)
      obtain ⟨s, e, _⟩ := DataW.trod_string Try.underlying9 h2
      simp at e
      exact ⟨s, by rw [h1, e]⟩)
    refine ⟨host, fun i hi => ?_, fun h => by cases h⟩
    obtain ⟨b, off, spot⟩ := ad
    have hspot : spot = none := by
      have := hh 0 (by omega)
      simpa [Addr.add] using World.cell?_spot this
    subst hspot
    have hc := hh i hi
    rw [add_plain] at hc
    exact ⟨b, off, rfl, World.block_lt_of_cell? W ⟨b, off + i, none⟩ hc, hc⟩
end Go.Proofs.Qxb6615497a
