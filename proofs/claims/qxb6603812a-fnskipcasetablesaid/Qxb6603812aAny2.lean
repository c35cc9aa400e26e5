import Derived.Test.Qxb6603812aAny
namespace Go.Proofs.Qxb6603812a
open Go.RowKit Go.Lib

theorem noAny_high {s : ByteArray} {i : Nat} (h : i < s.size) (ha : 128 ≤ (s[i]'h).toNat) (hno : Lib.NoAny s.data.toList [10, 13] i) :
    i + (Utf8.decode s i).2 ≤ s.size ∧ 1 ≤ (Utf8.decode s i).2 ∧ Lib.NoAny s.data.toList [10, 13] (i + (Utf8.decode s i).2) := by
  have hd := decode_cont s i h ha
  have h1 := (decode_high s i h ha).2
  refine ⟨?_, h1, ?_⟩
  · obtain ⟨h2, _⟩ := hd ((Utf8.decode s i).2 - 1) (by omega)
    omega
  · intro j b hj hb
    by_cases hji : j < i
    · exact hno j b hji hb
    · obtain ⟨h2, h3⟩ := hd (j - i) (by omega)
      have e : i + (j - i) = j := by omega
      simp only [e] at h2 h3
      have := Lib.data_getElem? s j h2
      rw [this] at hb
      cases hb
      have n10 : s[j] ≠ 10 := fun e => by rw [e] at h3; revert h3; decide
      have n13 : s[j] ≠ 13 := fun e => by rw [e] at h3; revert h3; decide
      simp [n10, n13]

set_option maxHeartbeats 1000000 in
set_option maxRecDepth 100000 in
theorem indexAny_short (s : ByteArray) (w : World) (h8 : s.size ≤ 8) :
    Calls Try.prog 24 #[.string s, .string ⟨#[10, 13]⟩] w fun e w' => e = .returned (.int .i64 (Lib.indexAny s.data.toList [10, 13])) ∧ Below w.heap.size w w' := by
  have h8z : decide ((8 : Int) < (s.size : Int)) = false := decide_eq_false (by omega)
  go_enter Try.func24, Try.ntmps24
  go_wp2_with (go_at_call 34; refine (Try.strings_shouldUseASCIISet _ _).mono ?_; rintro e w' ⟨rfl, rfl⟩; rw [h8z])
  go_loopg [9, 10] s.size (fun g _ _ wx => ∃ i : Nat, i + g = s.size ∧ wx.heap[w'.heap.size]? = some (.stringIter s i) ∧ Below w'.heap.size w' wx ∧ Lib.NoAny s.data.toList [10, 13] i)
  case atStart => exact ⟨0, by omega, World.iter_heap _ _ _, (Below.refl _ _).alloc (Nat.le_refl _) _, Lib.NoAny.zero _ _⟩
  case round =>
    obtain ⟨i, hig, hhp, hbl, hno⟩ := hrel
    have HN : Hid (Lib.NoAny s.data.toList [10, 13] i) := hno
    have HH : Hid (wr.heap[w'.heap.size]? = some (.stringIter s i)) := hhp
    have HB : Hid (Below w'.heap.size w' wr) := hbl
    clear hno hhp hbl
    cases gk with
    | zero =>
      obtain rfl : i = s.size := by omega
      have hnx := fun ty => run_next_end_at (P := Try.prog) wr w'.heap.size s s.size ty HH.out (by omega)
      go_wp2
      go_ret
      exact ⟨by rw [Lib.indexAny_none (by rw [← Lib.size_eq]; exact HN.out)]; rfl, HB.out⟩
    | succ g =>
      have hi : i < s.size := by omega
      obtain ⟨x, hx⟩ : ∃ x : UInt8, s[i]'hi = x := ⟨_, rfl⟩
      have hxl : s.data.toList[i]? = some x := by rw [← hx]; exact Lib.data_getElem? s i hi
      have Hx : Hid (s.data.toList[i]? = some x) := hxl
      clear hxl
      by_cases hx128 : x.toNat < 128
      · have hnx := fun ty => run_next_ascii_at (P := Try.prog) wr w'.heap.size s i ty HH.out hi (by rw [hx]; exact hx128)
        rw [hx] at hnx
        have HX : Hid (s[i]'hi = x) := hx
        clear hx
        have hback : ((x.toNat : Int)).toNat.toUInt8 = x := by simp
        cases hin : ([10, 13] : List UInt8).contains x
        · have hcon := Lib.contains_iff_indexByte [10, 13] x
          rw [hin] at hcon
          have hlt : ¬ ((0 : Int) ≤ Lib.indexByte [10, 13] x) := of_decide_eq_false hcon.symm
          have Hin : Hid (([10, 13] : List UInt8).contains x = false) := hin
          clear hcon hin
          go_wp2_with (go_at_call 33; refine (Try.strings_IndexRune_ascii _ _ _ (by omega) (by omega)).mono ?_; rintro e w2 ⟨rfl, hw⟩; rw [hw, hback])
          go_roundg g
          case measure => omega
          case rel => exact ⟨i + 1, by omega, Lib.iterAt_heap _ _ _ _ _ HH.out, Lib.below_iterAt HB.out (Nat.le_refl _) _ _, HN.out.succ Hx.out Hin.out⟩
        · have hcon := Lib.contains_iff_indexByte [10, 13] x
          rw [hin] at hcon
          have hlt : (0 : Int) ≤ Lib.indexByte [10, 13] x := of_decide_eq_true hcon.symm
          have Hin : Hid (([10, 13] : List UInt8).contains x = true) := hin
          clear hcon hin
          go_wp2_with (go_at_call 33; refine (Try.strings_IndexRune_ascii _ _ _ (by omega) (by omega)).mono ?_; rintro e w2 ⟨rfl, hw⟩; rw [hw, hback])
          go_ret
          exact ⟨by rw [Lib.indexAny_hit HN.out Hx.out Hin.out]; rfl, Lib.below_iterAt HB.out (Nat.le_refl _) _ _⟩
      · have hxh : 128 ≤ (s[i]'hi).toNat := by rw [hx]; omega
        obtain ⟨q1, q2, q3⟩ := noAny_high hi hxh HN.out
        have HQ : Hid (Lib.NoAny s.data.toList [10, 13] (i + (Utf8.decode s i).2)) := q3
        have hdh := (decode_high s i hi hxh).1
        have hnx := fun ty => run_next_any_at (P := Try.prog) wr w'.heap.size s i ty HH.out hi
        clear q3 hx hxh
        generalize hrr : (Utf8.decode s i).1 = rr at *
        generalize hnn : (Utf8.decode s i).2 = nn at *
        have Hhp2 : Hid ((wr.iterAt w'.heap.size s (i + nn)).heap[w'.heap.size]? = some (.stringIter s (i + nn))) := Lib.iterAt_heap _ _ _ _ _ HH.out
        have Hb2 : Hid (Below w'.heap.size w' (wr.iterAt w'.heap.size s (i + nn))) := Lib.below_iterAt HB.out (Nat.le_refl _) _ _
        have hsz : Hid (w'.heap.size < (wr.iterAt w'.heap.size s (i + nn)).heap.size) := (Array.getElem?_eq_some_iff.1 Hhp2.out).1
        clear hrr hnn
        generalize wr.iterAt w'.heap.size s (i + nn) = wi at *
        go_wp2_with (go_at_call 33; refine (indexRune_high _ (by omega) _).mono ?_; rintro e w2 ⟨rfl, hbw⟩)
        go_roundg (s.size - (i + nn))
        case measure => omega
        case rel => exact ⟨i + nn, by omega, by rw [hbw.block _ hsz.out]; exact Hhp2.out, Hb2.out.trans (hbw.mono (Nat.le_of_lt hsz.out)), HQ.out⟩

theorem zero44 : (Try.prog.info? 44).map (fun i => (i.zero, i.size)) = some (some (.agg (Array.replicate 256 (.bool false))), 256) := by kernel_rfl

/-- strings.IndexAny at the two line breaks, at every text. -/
theorem indexAny_brk (s : ByteArray) (w : World) (hs : s.size < 4294967281) :
    Calls Try.prog 24 #[.string s, .string ⟨#[10, 13]⟩] w fun e w' => e = .returned (.int .i64 (Lib.indexAny s.data.toList [10, 13])) ∧ Below w.heap.size w w' := by
  by_cases h8 : s.size ≤ 8
  · exact indexAny_short s w h8
  · refine (Try.strings_IndexAny_long (zero_of_info zero44).1 s ⟨#[10, 13]⟩ w (by decide) (by omega) hs (by decide) ?_).mono ?_
    · intro j b hb
      have : b = 10 ∨ b = 13 := by
        match j, hb with
        | 0, hb => simp at hb; exact .inl hb.symm
        | 1, hb => simp at hb; exact .inr hb.symm
        | j + 2, hb => simp at hb
      rcases this with rfl | rfl <;> decide
    · rintro e w' ⟨rfl, rfl⟩
      exact ⟨rfl, ((Below.refl _ _).alloc (Nat.le_refl _) _).alloc (by simp) _⟩
end Go.Proofs.Qxb6603812a
