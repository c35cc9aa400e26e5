import Derived.Test.Qxb6606379aDoorF
namespace Go.Proofs.Qxb6606379aDoor
open Go.RowKit

set_option maxHeartbeats 400000 in
theorem zzBlock_any (s : ByteArray) (L : Nat) (a : Int) (b : ByteArray) (c : Int) (d : Bool) (f : Int) (g : Bool) (m : Int) (w : World) (hL : L < 65536) (hs : s.size ≤ 1048576) (h2 : 2 ≤ s.size) (hm : w.cell? ⟨0, 0, none⟩ = some (.int .i64 m)) :
    Calls Tryd.prog 8 #[.int .i32 a, .int .u16 L, .string b, .int .u8 c, .bool d, .int .i64 f, .bool g, .string s] w fun e w' => BlockPost L s.data.toList w e w' := by
  go_enter Tryd.func8, Tryd.ntmps8
  go_wp2_with fail
  refine (block_any s L _ _ _ _ _ _ m _ hL hs h2 hm).mono ?_
  rintro e w2 ⟨r, rfl, h⟩
  go_wp2
  go_ret
  exact ⟨_, rfl, h⟩

namespace Bc
theorem flat512 (L : Nat) : ((L &&& (65535 - 256)) &&& 512) = L &&& 512 := by rw [Nat.and_assoc]; rfl
theorem flat256 (L : Nat) : ((L &&& (65535 - 256)) &&& 256) = 0 := by rw [Nat.and_assoc]; exact Nat.and_zero L
theorem nest512 (L : Nat) : ((L ||| 256) &&& 512) = L &&& 512 := by
  rw [Nat.and_comm, Nat.and_or_distrib_left, Nat.and_comm 512 L]; exact Nat.or_zero _
theorem nest256 (L : Nat) : ((L ||| 256) &&& 256) = 256 := by
  rw [Nat.and_comm, Nat.and_or_distrib_left]
  apply Nat.eq_of_testBit_eq
  intro i
  simp only [Nat.testBit_or, Nat.testBit_and]
  cases Nat.testBit 256 i <;> simp

/-- What the law asks of the two answers. -/
def pqOK (t : List UInt8) (p q : Int) : Prop := (p = -1 ∨ (4 ≤ p ∧ p ≤ t.length)) ∧ (q = -1 ∨ (4 ≤ q ∧ q ≤ t.length ∧ p ≠ -1 ∧ p ≤ q)) ∧ (noInner t → p = q)

theorem pq (L : Nat) (t : List UInt8) (p q : Int) (hp : blockOK (L &&& (65535 - 256)) t p) (hq : blockOK (L ||| 256) t q) : pqOK t p q ∧ (((L &&& 512) == 0) = false → vb t ≠ none → p = q) := by
  unfold blockOK at hp hq
  rw [flat512, flat256] at hp
  rw [nest512, nest256] at hq
  rcases hp with ⟨k, h1, h2, rfl⟩ | ⟨h1, h2⟩
  · rcases hq with ⟨k', _, h2', rfl⟩ | ⟨h1', _⟩
    · rw [h2] at h2'
      cases h2'
      refine ⟨⟨?_, ?_, fun _ => rfl⟩, fun _ _ => rfl⟩
      · rcases vcI_cases t k with h | ⟨j, h, h3, h4⟩
        · exact .inl h
        · have := vb_le h2; exact .inr ⟨by omega, by omega⟩
      · rcases vcI_cases t k with h | ⟨j, h, h3, h4⟩
        · exact .inl h
        · have := vb_le h2; exact .inr ⟨by omega, by omega, by omega, by omega⟩
    · rcases h1' with h | h
      · rw [h1] at h; cases h
      · rw [h2] at h; cases h
  · rcases hq with ⟨k', g1, g2, _⟩ | ⟨g1, g2⟩
    · rcases h1 with h | h
      · rw [g1] at h; cases h
      · rw [g2] at h; cases h
    · rcases h2 with ⟨_, rfl⟩ | ⟨h, _⟩
      · rcases g2 with ⟨h, _⟩ | ⟨_, hn⟩
        · exact absurd h (by decide)
        · exact ⟨pq_law t q hn, fun e1 e2 => by
            rcases h1 with h | h
            · rw [e1] at h; cases h
            · exact absurd h e2⟩
      · exact absurd h (by decide)
end Bc
end Go.Proofs.Qxb6606379aDoor
