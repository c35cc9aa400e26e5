import Derived.Test.Qxb6603812aLawD2
import Derived.Test.Qxb6603812aRows
import Derived.ProofKit
import Derived.OpenShut
import Derived.ShutString
import Derived.ChangeOld
import Derived.HandedShaped
namespace Go.Proofs.Qxb6603812a
open Go.ChangeShapes Go.WideShapes Go.ChangeAt Go.RowKit

theorem cells27 : Try.prog.cellsOf 27 = 9 := by kernel_rfl
theorem cells4 : Try.prog.cellsOf 4 = 1 := by kernel_rfl

theorem list9 {α : Type} {l : List α} (h : l.length = 9) : ∃ a0 a1 a2 a3 a4 a5 a6 a7 a8, l = [a0, a1, a2, a3, a4, a5, a6, a7, a8] := by
  match l, h with
  | [a0, a1, a2, a3, a4, a5, a6, a7, a8], _ => exact ⟨a0, a1, a2, a3, a4, a5, a6, a7, a8, rfl⟩

/-- The flags that came in, written out. -/
theorem open_flags {H : Type} {enc : TypeId × Value → H} {W : World} {r : Reach} {b0 base : Nat} {spare : Nat → Bool} {held : Bool} {v : Value} {d : DataW H} {p : List MemPlace}
    (hv : Value.okWide Try.prog W r b0 27 v) (h : DataW.Trod enc Try.prog W base spare held 27 v d p) :
    ∃ f : Sq.Fl, v = .agg #[.bool f.ps, .bool f.bs, .bool f.es, .bool f.dq, .bool f.bt, .bool f.hc, .bool f.sd, .bool f.nc, .bool f.ec] := by
  obtain ⟨⟨cs⟩, rfl, hsz⟩ := okWide_struct Try.underlying27 hv
  rw [cells27] at hsz
  obtain ⟨a0, a1, a2, a3, a4, a5, a6, a7, a8, rfl⟩ := list9 (l := cs) hsz
  obtain ⟨fuel, hf⟩ := h
  obtain ⟨xs, n, _, _, _, hlen, hx⟩ := DataW.trod_struct Try.underlying27 hf
  have key : ∀ (j : Nat) (f : Field) (a : Value), (#[{ name := "Positional", type := 4, offset := 0, embedded := false, tag := "", pkgPath := "", byteOffset := 0 },
        { name := "Backslashes", type := 4, offset := 1, embedded := false, tag := "", pkgPath := "", byteOffset := 1 },
        { name := "EscapeStrings", type := 4, offset := 2, embedded := false, tag := "", pkgPath := "", byteOffset := 2 },
        { name := "DollarQuotes", type := 4, offset := 3, embedded := false, tag := "", pkgPath := "", byteOffset := 3 },
        { name := "Backticks", type := 4, offset := 4, embedded := false, tag := "", pkgPath := "", byteOffset := 4 },
        { name := "HashComments", type := 4, offset := 5, embedded := false, tag := "", pkgPath := "", byteOffset := 5 },
        { name := "SpacedDashes", type := 4, offset := 6, embedded := false, tag := "", pkgPath := "", byteOffset := 6 },
        { name := "NestedComments", type := 4, offset := 7, embedded := false, tag := "", pkgPath := "", byteOffset := 7 },
        { name := "ExecutableComments", type := 4, offset := 8, embedded := false, tag := "", pkgPath := "", byteOffset := 8 }] : Array Field)[j]? = some f →
      f.type = 4 → ((Value.agg ⟨[a0, a1, a2, a3, a4, a5, a6, a7, a8]⟩).cells.toList.drop f.offset).take 1 = [a] → ∃ b, a = .bool b := by
    intro j f a hj ht hc
    have h1 := hx j f hj
    rw [ht, cells4, hc] at h1
    have hjl : j < xs.length := by
      rw [hlen]
      exact (Array.getElem?_eq_some_iff.1 hj).1
    rw [List.getElem?_eq_getElem hjl] at h1
    obtain ⟨b, hb, _⟩ := DataW.trod_bool Try.underlying4 h1
    exact ⟨b, by simpa using hb⟩
  obtain ⟨b0', rfl⟩ := key 0 _ a0 rfl rfl rfl
  obtain ⟨b1, rfl⟩ := key 1 _ a1 rfl rfl rfl
  obtain ⟨b2, rfl⟩ := key 2 _ a2 rfl rfl rfl
  obtain ⟨b3, rfl⟩ := key 3 _ a3 rfl rfl rfl
  obtain ⟨b4, rfl⟩ := key 4 _ a4 rfl rfl rfl
  obtain ⟨b5, rfl⟩ := key 5 _ a5 rfl rfl rfl
  obtain ⟨b6, rfl⟩ := key 6 _ a6 rfl rfl rfl
  obtain ⟨b7, rfl⟩ := key 7 _ a7 rfl rfl rfl
  obtain ⟨b8, rfl⟩ := key 8 _ a8 rfl rfl rfl
  exact ⟨⟨b0', b1, b2, b3, b4, b5, b6, b7, b8⟩, rfl⟩

/-- The library's variable MaxLen holds some number. -/
theorem maxLen_cell (w : World) (h : w.ShapedOpen Try.prog) : ∃ m, w.cell? ⟨0, 0, none⟩ = some (.int .i64 m) := Try.laysM143.s1_3 w h

theorem heap_pos {w : World} {v : Value} (h : w.cell? ⟨0, 0, none⟩ = some v) : 0 < w.heap.size := World.block_lt_of_cell? w ⟨0, 0, none⟩ h
end Go.Proofs.Qxb6603812a
