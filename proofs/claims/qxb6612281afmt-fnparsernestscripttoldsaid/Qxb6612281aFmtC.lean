import Derived.Test.Qxb6612281aFmtR
namespace Go.Proofs.Qxb6612281aFmt
open Go.RowKit
set_option linter.unusedVariables false

theorem runes_if (w : World) (H n ls o : Nat) (bs : List Int) (h : Lies w H n bs) (hl : ls ≤ o) (ho : o ≤ n) (hn : n ≤ 1048576) :
    Calls Tryf.prog 20 #[.slice (if n = ls then some ⟨H, 0, none⟩ else some ⟨H, ls, none⟩) (o - ls) (n - ls)] w (NumPost w) := by
  split
  · exact runes_some w H n 0 (o - ls) (n - ls) bs h (by omega) hn (by omega)
  · exact runes_some w H n ls (o - ls) (n - ls) bs h (by omega) hn (by omega)

/-- A pointer to something new. -/
def PtrPost (w : World) (e : Ending) (w' : World) : Prop := ∃ k : Nat, e = .returned (.pointer (some ⟨k, 0, none⟩)) ∧ Below w.heap.size w w'

set_option maxHeartbeats 1000000 in
set_option maxRecDepth 100000 in
theorem newSyn_some (w : World) (H n o : Nat) (bs : List Int) (msg : ByteArray) (h : Lies w H n bs) (ho : o ≤ n) (hn : n ≤ 1048576) :
    Calls Tryf.prog 17 #[.slice (some ⟨H, 0, none⟩) n n, .int .i64 o, .string msg] w (PtrPost w) := by
  have HL : Hid (Lies w H n bs) := h
  have hli := lastIndex_of w _ o (lastByte_some w H o n n bs ho hn h.2)
  clear h
  go_enter Tryf.func17, Tryf.ntmps17
  go_wp2_with (go_at_call 18; refine hli.mono ?_; rintro e w2 ⟨r, rfl, h1, h2, rfl⟩; obtain ⟨ls, rfl⟩ : ∃ ls : Nat, r = (ls : Int) - 1 := ⟨(r + 1).toNat, by omega⟩)
  have h3 : (0 : Int) ≤ (ls : Int) := by omega
  have h4 : (ls : Int) ≤ (o : Int) := by omega
  have h5 : (ls : Int) ≤ (n : Int) := by omega
  have h6 : (o : Int) ≤ (n : Int) := by omega
  clear hli
  go_region_held3 (fun wx => Below w2.heap.size w2 wx) (first | assumption | exact Below.refl _ _ | exact (Below.refl _ _).drew | exact Below.drew (by assumption) | exact Below.alloc (by assumption) (by first | (simp; done) | exact Below.size (by assumption : Below w2.heap.size w2 _)) _)
    (first
      | (go_at_call 19; refine (count_some _ H n ls _ bs (HL.out.later (by assumption)) (by omega) hn (by go_simp)).mono ?_; rintro e w3 ⟨c1, rfl, ha1, ha2, hB3⟩; have hB3' : Below w2.heap.size w2 w3 := Below.onto (by assumption) hB3; dsimp only)
      | (go_at_call 20; refine (runes_if _ H n ls o bs (HL.out.later (by assumption)) (by omega) (by omega) hn).mono ?_; rintro e w4 ⟨c2, rfl, ha3, ha4, hB4⟩; have hB4' : Below w2.heap.size w2 w4 := Below.onto (by assumption) hB4; dsimp only))
  go_wp2
  all_goals go_ret
  all_goals exact ⟨_, rfl, by assumption⟩

set_option maxHeartbeats 1000000 in
set_option maxRecDepth 100000 in
theorem newSyn_nil (w : World) (msg : ByteArray) :
    Calls Tryf.prog 17 #[.slice none 0 0, .int .i64 0, .string msg] w (PtrPost w) := by
  have hli := lastIndex_of w _ 0 (lastByte_nil w)
  go_enter Tryf.func17, Tryf.ntmps17
  go_wp2_with (go_at_call 18; refine hli.mono ?_; rintro e w2 ⟨r, rfl, h1, h2, rfl⟩; obtain rfl : r = -1 := by omega)
  clear hli
  go_region_held3 (fun wx => Below w2.heap.size w2 wx) (first | assumption | exact Below.refl _ _ | exact (Below.refl _ _).drew | exact Below.drew (by assumption) | exact Below.alloc (by assumption) (by first | (simp; done) | exact Below.size (by assumption : Below w2.heap.size w2 _)) _)
    (first
      | (go_at_call 19; refine (count_nil _ _ (by go_simp)).mono ?_; rintro e w3 ⟨c1, rfl, ha1, ha2, hB3⟩; have hB3' : Below w2.heap.size w2 w3 := Below.onto (by assumption) hB3; dsimp only)
      | (go_at_call 20; refine (runes_nil _).mono ?_; rintro e w4 ⟨c2, rfl, ha3, ha4, hB4⟩; have hB4' : Below w2.heap.size w2 w4 := Below.onto (by assumption) hB4; dsimp only))
  go_wp2
  all_goals go_ret
  all_goals exact ⟨_, rfl, by assumption⟩

theorem newSyn_any (w : World) (a : Option Addr) (l c n o : Nat) (msg : ByteArray) (h : Cl w (.slice a l c) n) (ho : o ≤ n) (hn : n ≤ 1048576) :
    Calls Tryf.prog 17 #[.slice a l c, .int .i64 o, .string msg] w (PtrPost w) := by
  rcases h with ⟨e, rfl⟩ | ⟨H, bs, e, _, hl, hc⟩
  · rw [e]
    obtain rfl : o = 0 := by omega
    exact newSyn_nil w msg
  · rw [e]
    exact newSyn_some w H n o bs msg ⟨hl, hc⟩ ho hn
end Go.Proofs.Qxb6612281aFmt
