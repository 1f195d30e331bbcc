/-
  Seat b6626330a: from the reading of an argument to 'Byt', 'Blk'.
-/
import Derived.Test.Qxb6626330aMem
import Derived.ProofKit
import Derived.OpenShut
import Derived.Deep.Matrix
namespace Go.Proofs.Qxb6626330a
open Go.ChangeShapes Go.WideShapes Go.ChangeAt Go.RowKit Go.Deep

theorem byt_of_cells {W : World} {a : Addr} {zs : List Int} {n : Nat} (hn : n ≤ zs.length) (h : ∀ i, i < zs.length → W.cell? (a.add i) = some (.int .u8 (zs.getD i 0))) : Byt W (some a) (zs.take n) := by
  by_cases h0 : n = 0
  · subst h0
    exact .inl (by simp)
  · obtain ⟨b, off, rfl, hc⟩ := ints_at h (by omega)
    refine .inr ⟨b, off, rfl, fun i hi => ?_⟩
    simp at hi
    rw [hc i (by omega)]
    have hin : i < n := by omega
    simp [List.getD, hin]

theorem open_bytes {H : Type} {enc : TypeId × Value → H} {W : World} {v : Value} {d : DataW H} {p : List MemPlace} {a : Option Addr} {len cap : Nat} (hv : v = .slice a len cap)
    (h : DataW.Trod enc Try.prog W 0 (fun _ => true) true 23 v d p) : ∃ l : List Int, l.length = len ∧ Byt W a l := by
  subst hv
  obtain ⟨fuel, hf⟩ := h
  rcases open_ints Try.underlying23 Try.underlying5 (by kernel_rfl) hf with ⟨hcs, _⟩ | ⟨x, l, c, zs, hcs, _, hl, hm, hz, _, hcell, hwz⟩
  · simp [Value.cells] at hcs
    obtain ⟨rfl, rfl, rfl⟩ := hcs
    exact ⟨[], rfl, .inl rfl⟩
  · simp [Value.cells] at hcs
    obtain ⟨rfl, rfl, rfl⟩ := hcs
    have hz' : zs.length = cap := by simpa using hz
    exact ⟨zs.take len, by simp; omega, byt_of_cells (by omega) hcell⟩

theorem open_blocks {H : Type} {enc : TypeId × Value → H} {W : World} {v : Value} {d : DataW H} {p : List MemPlace} {a : Option Addr} {len cap : Nat} (hv : v = .slice a len cap)
    (h : DataW.Trod enc Try.prog W 0 (fun _ => true) true 22 v d p) : ∃ ls : List (List Int), ls.length = len ∧ Blk W a ls := by
  subst hv
  obtain ⟨fuel, hf⟩ := h
  rcases open_int_rows Try.underlying22 Try.underlying23 Try.underlying5 (by kernel_rfl) (by kernel_rfl) hf with ⟨hcs, _⟩ | ⟨x, l, c, A, L, C, Z, hcs, _, hl, hm, _, hrow⟩
  · simp [Value.cells] at hcs
    obtain ⟨rfl, rfl, rfl⟩ := hcs
    exact ⟨[], rfl, .inl rfl⟩
  · simp [Value.cells] at hcs
    obtain ⟨rfl, rfl, rfl⟩ := hcs
    refine ⟨(List.range len).map fun r => (Z r).take (L r), by simp, ?_⟩
    by_cases h0 : len = 0
    · subst h0
      exact .inl (by simp)
    · obtain ⟨b, off, spot⟩ := x
      have hspot : spot = none := by simpa [Addr.add] using World.cell?_spot (hrow 0 (by omega)).1
      subst hspot
      refine .inr ⟨b, off, rfl, fun i hi => ?_⟩
      simp at hi
      obtain ⟨h1, h2, h3, h4, h5, h6, h7⟩ := hrow i (by omega)
      have e : ((List.range len).map fun r => (Z r).take (L r)).getD i [] = (Z i).take (L i) := by simp [List.getD, hi]
      rw [e]
      have el : ((Z i).take (L i)).length = L i := by simp; omega
      rw [el]
      refine ⟨A i, C i, by rw [← add_plain]; exact h1, ?_⟩
      cases hA : A i with
      | none =>
        have := h6 hA
        exact .inl (List.eq_nil_of_length_eq_zero (by rw [el]; omega))
      | some a' =>
        obtain ⟨_, h8⟩ := h7 a' hA
        exact byt_of_cells (by omega) (fun j hj => h8 j (by omega))

theorem own : ownKnob Try.prog.godebug = none := by kernel_rfl
theorem laidOut : laidOutB Try.prog = true := by kernel_rfl
end Go.Proofs.Qxb6626330a
