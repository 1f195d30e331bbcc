/-
  Seat b6626330a: how byte slices and slices of byte slices lie in memory ('Byt', 'Blk'), and how they stay there.
-/
import Derived.Test.Qxb6626330aRows
import Derived.WalkKit
import Derived.Deep.OwnRows
import Derived.Deep.LoopGhost
namespace Go.Proofs.Qxb6626330a
open Go.RowKit

/-- The slice header with address 'a' leads to the bytes 'l' (nothing is said of the address where there is none). -/
def Byt (w : World) (a : Option Addr) (l : List Int) : Prop :=
  l = [] ∨ ∃ b off, a = some ⟨b, off, none⟩ ∧ ∀ i, i < l.length → w.cell? ⟨b, off + i, none⟩ = some (.int .u8 (l.getD i 0))

/-- The slice header with address 'a' leads to headers, each of which leads to the bytes of one member of 'ls'. -/
def Blk (w : World) (a : Option Addr) (ls : List (List Int)) : Prop :=
  ls = [] ∨ ∃ b off, a = some ⟨b, off, none⟩ ∧ ∀ i, i < ls.length → ∃ a' c', w.cell? ⟨b, off + i, none⟩ = some (.slice a' (ls.getD i []).length c') ∧ Byt w a' (ls.getD i [])

theorem cell_keep {w w' : World} (h : Below w.heap.size w w') {p : Addr} {v : Value} (hc : w.cell? p = some v) : w'.cell? p = some v :=
  (h.cell (World.block_lt_of_cell? w p hc)).trans hc

theorem Byt.keep {w w' : World} {a : Option Addr} {l : List Int} (hb : Byt w a l) (h : Below w.heap.size w w') : Byt w' a l := by
  rcases hb with rfl | ⟨b, off, rfl, hc⟩
  · exact .inl rfl
  · exact .inr ⟨b, off, rfl, fun i hi => cell_keep h (hc i hi)⟩

theorem Blk.keep {w w' : World} {a : Option Addr} {ls : List (List Int)} (hb : Blk w a ls) (h : Below w.heap.size w w') : Blk w' a ls := by
  rcases hb with rfl | ⟨b, off, rfl, hc⟩
  · exact .inl rfl
  · refine .inr ⟨b, off, rfl, fun i hi => ?_⟩
    obtain ⟨a', c', h1, h2⟩ := hc i hi
    exact ⟨a', c', cell_keep h h1, h2.keep h⟩

theorem Byt.nil (w : World) (a : Option Addr) : Byt w a [] := .inl rfl
theorem Blk.nil (w : World) (a : Option Addr) : Blk w a [] := .inl rfl

end Go.Proofs.Qxb6626330a
