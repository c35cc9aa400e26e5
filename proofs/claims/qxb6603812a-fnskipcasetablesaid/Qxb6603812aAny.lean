import Derived.Test.Qxb6603812aProg
import Derived.Test.Qxb6603812aShelf
import Derived.Test.Qxb6603812aPlain
import Derived.WalkKit
import Derived.WalkSpells
import Derived.WalkLawsBesides
import Derived.Laws.RangeAny
import Derived.Lib.OthersKept
import Derived.Laws.Runes
import Derived.Deep.LoopGhost
import Derived.WalkMore
import Derived.Deep.QuietTactic
import Derived.BigQuiet
namespace Go.Proofs.Qxb6603812a
open Go.RowKit

set_option maxHeartbeats 400000 in
set_option maxRecDepth 100000 in
theorem indexRune_bad (r : Int) (h1 : 128 ≤ r) (h3 : (r == 65533) = false) (hv : Lib.validRune r = false) (w : World) :
    Calls Try.prog 33 #[.string ⟨#[10, 13]⟩, .int .i32 r] w fun e w' => e = .returned (.int .i64 (-1)) ∧ w' = w := by
  have h0 : decide (0 ≤ r) = true := by simp; omega
  have h0' : decide (r < 128) = false := by simp; omega
  go_enter Try.func33, Try.ntmps33
  go_wp2_with (go_at_call 40; refine (Try.utf8_ValidRune _ _).mono ?_; rintro e w' ⟨rfl, rfl⟩; rw [hv])
  go_ret
  exact ⟨rfl, rfl⟩

set_option maxHeartbeats 400000 in
set_option maxRecDepth 100000 in
theorem indexRune_three (r : Int) (h1 : 2048 ≤ r) (h3 : (r == 65533) = false) (hv : Lib.validRune r = true) (hz : (3 : Int) ≤ (Utf8.encode r).size) (hz4 : ((Utf8.encode r).size : Int) ≤ 4) (w : World) :
    Calls Try.prog 33 #[.string ⟨#[10, 13]⟩, .int .i32 r] w fun e w' => e = .returned (.int .i64 (-1)) ∧ w' = w := by
  have h0 : decide (0 ≤ r) = true := by simp; omega
  have h0' : decide (r < 128) = false := by simp; omega
  go_enter Try.func33, Try.ntmps33
  go_wp2_with (go_at_call 40; refine (Try.utf8_ValidRune _ _).mono ?_; rintro e w' ⟨rfl, rfl⟩; rw [hv])
  go_step3
  go_wp2
  refine wp_loop_rounds 1 ?_
  rw [rounds_succ]
  go_wp2
  rw [Exit.noGoto_ret]
  go_wp2
  go_ret
  exact ⟨rfl, rfl⟩

set_option maxHeartbeats 400000 in
set_option maxRecDepth 100000 in
theorem indexRune_two (r : Int) (c1 c2 : UInt8) (h1 : 128 ≤ r) (h3 : (r == 65533) = false) (hv : Lib.validRune r = true) (he : Utf8.encode r = ⟨#[c1, c2]⟩) (hc : 128 ≤ c2.toNat) (w : World) :
    Calls Try.prog 33 #[.string ⟨#[10, 13]⟩, .int .i32 r] w fun e w' => e = .returned (.int .i64 (-1)) ∧ Below w.heap.size w w' := by
  have h0 : decide (0 ≤ r) = true := by simp; omega
  have h0' : decide (r < 128) = false := by simp; omega
  have hne : ((13 : Int) != (c2.toNat : Int)) = true := by rw [bne_iff_ne]; omega
  have hne2 : ((((⟨#[10, 13]⟩ : ByteArray)[1]'(by show 1 < 2; omega)).toNat : Int) != (((⟨#[c1, c2]⟩ : ByteArray)[1]'(by show 1 < 2; omega)).toNat : Int)) = true := hne
  have hw2 : IntKind.i64.wrap 2 = 2 := by decide
  have hib : ∀ c : UInt8, Lib.indexByte [] c = -1 := fun _ => rfl
  have hsl : ∀ wx, (Instr.slice 9 (.string ⟨#[10, 13]⟩) (some (.int .i64 2)) none none).run Try.prog wx = .ok (.string ⟨#[]⟩) wx := fun wx => by kernel_rfl
  go_enter Try.func33, Try.ntmps33
  go_wp2_with (go_at_call 40; refine (Try.utf8_ValidRune _ _).mono ?_; rintro e w' ⟨rfl, rfl⟩; rw [hv])
  go_step3
  go_wp2
  refine wp_loop_rounds 1 ?_
  rw [rounds_succ]
  go_wp2
  go_step3
  go_wp2
  go_quiet (fail)
  go_wp2
  go_quiet ((go_at_call 29; refine (Try.strings_IndexByte _ _ _).mono ?_; rintro e w2 ⟨rfl, rfl⟩; exact ⟨rfl, _, rfl⟩))
  go_wp2
  rw [Exit.noGoto_ret]
  go_wp2
  rw [Exit.noGoto_ret]
  go_wp2
  go_ret
  exact ⟨rfl, ⟨rfl, rfl, rfl, Nat.le_refl _, fun _ _ => rfl⟩⟩

set_option maxHeartbeats 400000 in
set_option maxRecDepth 100000 in
theorem indexRune_err (w : World) :
    Calls Try.prog 33 #[.string ⟨#[10, 13]⟩, .int .i32 65533] w fun e w' => e = .returned (.int .i64 (-1)) ∧ Below w.heap.size w w' := by
  have hn0 := fun ty => run_next_ascii (P := Try.prog) w ⟨#[10, 13]⟩ 0 ty (by decide) (by decide)
  have hn1 := fun ty => run_next_ascii (P := Try.prog) w ⟨#[10, 13]⟩ 1 ty (by decide) (by decide)
  have hn2 := fun ty => run_next_end (P := Try.prog) w ⟨#[10, 13]⟩ 2 ty (by decide)
  go_enter Try.func33, Try.ntmps33
  go_wp2
  refine wp_loop_rounds 3 ?_
  rw [rounds_succ]
  go_wp2
  rw [rounds_succ]
  go_wp2
  rw [rounds_succ]
  go_wp2
  go_ret
  exact ⟨rfl, (Below.refl _ _).alloc (Nat.le_refl _) _⟩

theorem encode_two (r : Int) (h1 : 128 ≤ r) (h2 : r < 2048) : ∃ c1 c2 : UInt8, Utf8.encode r = ⟨#[c1, c2]⟩ ∧ 128 ≤ c2.toNat := by
  have hv : Utf8.valid r = true := by simp [Utf8.valid]; omega
  have hc : ¬ r.toNat < 128 := by omega
  have hc2 : r.toNat < 2048 := by omega
  unfold Utf8.encode
  simp only [hv, if_true, hc, if_false, hc2]
  refine ⟨_, _, rfl, ?_⟩
  simp; omega

theorem encode_three (r : Int) (h1 : 2048 ≤ r) (hv : Utf8.valid r = true) : (3 : Int) ≤ (Utf8.encode r).size ∧ ((Utf8.encode r).size : Int) ≤ 4 := by
  have hc : ¬ r.toNat < 128 := by omega
  have hc2 : ¬ r.toNat < 2048 := by omega
  unfold Utf8.encode
  simp only [hv, if_true, hc, if_false, hc2]
  split
  · exact ⟨by show (3 : Int) ≤ ((3 : Nat) : Int); omega, by show ((3 : Nat) : Int) ≤ 4; omega⟩
  · exact ⟨by show (3 : Int) ≤ ((4 : Nat) : Int); omega, by show ((4 : Nat) : Int) ≤ 4; omega⟩

/-- No rune beyond ASCII is among the two line breaks. -/
theorem indexRune_high (r : Int) (h1 : 128 ≤ r) (w : World) :
    Calls Try.prog 33 #[.string ⟨#[10, 13]⟩, .int .i32 r] w fun e w' => e = .returned (.int .i64 (-1)) ∧ Below w.heap.size w w' := by
  by_cases he : r = 65533
  · subst he; exact indexRune_err w
  have he' : (r == 65533) = false := beq_eq_false_iff_ne.2 he
  cases hv : Lib.validRune r
  · exact (indexRune_bad r h1 he' hv w).mono fun e w' ⟨a, b⟩ => ⟨a, b ▸ Below.refl _ _⟩
  · by_cases h2 : r < 2048
    · obtain ⟨c1, c2, hc, hc2⟩ := encode_two r h1 h2
      exact indexRune_two r c1 c2 h1 he' hv hc hc2 w
    · have hv' : Utf8.valid r = true := by
        simp [Lib.validRune] at hv
        simp [Utf8.valid]; omega
      obtain ⟨a, b⟩ := encode_three r (by omega) hv'
      exact (indexRune_three r (by omega) he' hv a b w).mono fun e w' ⟨a, b⟩ => ⟨a, b ▸ Below.refl _ _⟩

/-- What a rune beyond ASCII covers: bytes beyond ASCII, all of them in the text. -/
theorem decode_cont (s : ByteArray) (pos : Nat) (h : pos < s.size) (ha : 128 ≤ (s[pos]'h).toNat) :
    ∀ k, k < (Utf8.decode s pos).2 → ∃ h2 : pos + k < s.size, 128 ≤ (s[pos + k]'h2).toNat := by
  have hn : ¬ (s[pos]'h).toNat < 128 := by omega
  have key : ∀ k, pos + k < s.size → (s.get! (pos + k)).toNat / 64 = 2 → ∃ h2 : pos + k < s.size, 128 ≤ (s[pos + k]'h2).toNat := fun k hk hd => by
    refine ⟨hk, ?_⟩
    have e := get_at s (pos + k) hk
    rw [Nat.add_zero] at e
    rw [← e]; omega
  intro k hk
  simp only [Utf8.decode, get_at s pos h, hn, if_false] at hk
  by_cases k0 : k = 0
  · subst k0; exact ⟨h, ha⟩
  repeat' split at hk
  all_goals simp only [Bool.and_eq_true, decide_eq_true_eq, beq_iff_eq, ge_iff_le, not_and] at *
  all_goals first
    | (exfalso; omega)
    | skip
  · obtain rfl : k = 1 := by omega
    exact key 1 (by omega) (by omega)
  · rcases (by omega : k = 1 ∨ k = 2) with rfl | rfl
    · exact key 1 (by omega) (by omega)
    · exact key 2 (by omega) (by omega)
  · rcases (by omega : k = 1 ∨ k = 2 ∨ k = 3) with rfl | rfl | rfl
    · exact key 1 (by omega) (by omega)
    · exact key 2 (by omega) (by omega)
    · exact key 3 (by omega) (by omega)

end Go.Proofs.Qxb6603812a
