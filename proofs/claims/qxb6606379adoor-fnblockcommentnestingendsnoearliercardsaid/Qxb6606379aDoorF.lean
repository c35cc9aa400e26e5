import Derived.Test.Qxb6606379aDoorD
import Derived.Test.Qxb6606379aDoorE
namespace Go.Proofs.Qxb6606379aDoor
open Go.RowKit

namespace Bc
def blockOK (L : Nat) (t : List UInt8) (r : Int) : Prop :=
  (∃ k : Nat, ((L &&& 512) == 0) = false ∧ vb t = some k ∧ r = vcI t k) ∨ ((((L &&& 512) == 0) = true ∨ vb t = none) ∧ ((((L &&& 256) == 0) = true ∧ r = flat t) ∨ (((L &&& 256) == 0) = false ∧ nestOK t r)))

theorem flat_none {t : List UInt8} (h : Lib.index (t.drop 2) [42, 47] = -1) : flat t = -1 := by unfold flat; rw [h]; rfl
theorem flat_some {t : List UInt8} {i : Nat} (h : Lib.index (t.drop 2) [42, 47] = i) : flat t = (i : Int) + 4 := by unfold flat; rw [h, if_neg (by omega)]
theorem flat_first {t : List UInt8} {i : Nat} (hi : 2 ≤ i) (h : at2 t i 42 47) (hno : ∀ j, 2 ≤ j → j < i → ¬ at2 t j 42 47) : flat t = (i + 2 : Nat) := by
  rcases flat_cases t with ⟨_, h'⟩ | ⟨k, hk, e, ha, hno'⟩
  · exact absurd h (h' i hi)
  · rw [e]
    have : k = i := by
      rcases Nat.lt_trichotomy k i with hlt | rfl | hlt
      · exact absurd ha (hno k hk hlt)
      · rfl
      · exact absurd h (hno' i hi hlt)
    rw [this]
theorem flat_end {t : List UInt8} {i : Nat} (hS : t.length ≤ i + 1) (hno : ∀ j, 2 ≤ j → j < i → ¬ at2 t j 42 47) : flat t = -1 := by
  rcases flat_cases t with ⟨e, _⟩ | ⟨k, hk, e, ha, _⟩
  · exact e
  · have := at2_lt ha
    exact absurd ha (hno k hk (by omega))
end Bc

theorem ext_list (s : ByteArray) (i : Nat) : (s.extract i (i + 2)).data.toList = (s.data.toList.drop i).take 2 := mid_list s i 2
theorem take2 {t : List UInt8} {i : Nat} {a b : UInt8} (h : Bc.at2 t i a b) : (t.drop i).take 2 = [a, b] := by
  have h1 := (List.getElem?_eq_some_iff.1 h.1).1
  have h2 := (List.getElem?_eq_some_iff.1 h.2).1
  rw [List.drop_eq_getElem_cons h1, List.drop_eq_getElem_cons h2]
  have e1 := (List.getElem?_eq_some_iff.1 h.1).2
  have e2 := (List.getElem?_eq_some_iff.1 h.2).2
  rw [e1, e2]; rfl
theorem at2_of_take2 {t : List UInt8} {i : Nat} {a b : UInt8} (h : (t.drop i).take 2 = [a, b]) : Bc.at2 t i a b := by
  have e0 : ((t.drop i).take 2)[0]? = some a := by rw [h]; rfl
  have e1 : ((t.drop i).take 2)[1]? = some b := by rw [h]; rfl
  rw [List.getElem?_take_of_lt (by omega), List.getElem?_drop] at e0 e1
  exact ⟨e0, e1⟩
theorem ext_eq {s : ByteArray} {i : Nat} {a b : UInt8} (h : Bc.at2 s.data.toList i a b) : s.extract i (i + 2) = ⟨#[a, b]⟩ := by
  have := (ext_list s i).trans (take2 h)
  apply ByteArray.ext
  exact Array.ext' this
theorem ext_ne {s : ByteArray} {i : Nat} {a b : UInt8} (_h : i + 2 ≤ s.size) (h : ¬ Bc.at2 s.data.toList i a b) : ((s.extract i (i + 2)).toList == [a, b]) = false := by
  rw [beq_eq_false_iff_ne, Lib.toList_data, ext_list]
  exact fun e => h (at2_of_take2 e)

def BlockPost (L : Nat) (t : List UInt8) (w : World) (e : Ending) (w' : World) : Prop := ∃ r : Int, e = .returned (.int .i64 r) ∧ Below w.heap.size w w' ∧ Bc.blockOK L t r

set_option maxHeartbeats 1000000 in
set_option maxRecDepth 100000 in
theorem block_any (s : ByteArray) (L : Nat) (a b c d f g : Value) (m : Int) (w : World) (hL : L < 65536) (hs : s.size ≤ 1048576) (h2 : 2 ≤ s.size) (hm : w.cell? ⟨0, 0, none⟩ = some (.int .i64 m)) :
    Calls Tryd.prog 16 #[.agg #[a, .int .u16 L, b, c, d, f, g], .string s] w fun e w' => BlockPost L s.data.toList w e w' := by
  have HL : Hid (s.data.toList.length = s.size) := (Lib.size_eq s).symm
  have h0w : 0 < w.heap.size := World.block_lt_of_cell? w ⟨0, 0, none⟩ hm
  cases h5 : ((L &&& 512) == 0) with
  | true =>
    have HNV : Hid (((L &&& 512) == 0) = true ∨ Bc.vb s.data.toList = none) := .inl h5
    go_enter Tryd.func16, Tryd.ntmps16
    go_wp2_with fail
    refine (has_any L 512 hL (by decide) _).mono ?_
    rintro e w1 ⟨rfl, hw1⟩
    rw [h5]
    have hb1 : w1.cell? ⟨w.heap.size, 1, none⟩ = some (.int .u16 L) := by rw [hw1]; simp
    have BX : Hid (Below w.heap.size w w1) := by rw [hw1]; exact (Below.refl _ _).alloc (Nat.le_refl _) _
    have hmx : w1.cell? ⟨0, 0, none⟩ = some (.int .i64 m) := (BX.out.cell (p := ⟨0, 0, none⟩) h0w).trans hm
    clear hw1 hm
    cases h6 : ((L &&& 256) == 0) with
    | true =>
      go_wp2_with fail
      refine (has_any L 256 hL (by decide) _).mono ?_
      rintro e w2 ⟨rfl, rfl⟩
      rw [h6]
      have e1 := tail_list s 2
      rcases index_two (s.data.toList.drop 2) 42 47 with hE | ⟨E, hE, hEl⟩
      · have HE : Hid (Lib.index (s.extract 2 s.size).data.toList (⟨#[42, 47]⟩ : ByteArray).data.toList = -1) := by rw [e1]; exact hE
        have HR : Hid (Bc.flat s.data.toList = -1) := Bc.flat_none hE
        clear hE e1
        go_wp2_with fail
        refine (Tryd.strings_Index _ _ m _ (size_lt s _ _ hs) hmx).mono ?_
        rintro e w3 ⟨rfl, rfl⟩
        rw [HE.out]
        go_wp2
        go_ret
        exact ⟨_, rfl, BX.out, .inr ⟨HNV.out, .inl ⟨h6, by rw [HR.out]⟩⟩⟩
      · have HE : Hid (Lib.index (s.extract 2 s.size).data.toList (⟨#[42, 47]⟩ : ByteArray).data.toList = E) := by rw [e1]; exact hE
        have HR : Hid (Bc.flat s.data.toList = (E : Int) + 4) := Bc.flat_some hE
        rw [List.length_drop, HL.out] at hEl
        clear hE e1
        go_wp2_with fail
        refine (Tryd.strings_Index _ _ m _ (size_lt s _ _ hs) hmx).mono ?_
        rintro e w3 ⟨rfl, rfl⟩
        rw [HE.out]
        go_wp2
        go_ret
        exact ⟨_, rfl, BX.out, .inr ⟨HNV.out, .inl ⟨h6, by rw [HR.out]⟩⟩⟩
    | false =>
      go_wp2_with fail
      refine (has_any L 256 hL (by decide) _).mono ?_
      rintro e w2 ⟨rfl, rfl⟩
      rw [h6]
      have H6 : Hid (((L &&& 256) == 0) = false) := h6
      clear h6 hb1 hmx
      go_wp2
      go_loop [8, 9] (fun x y => ∃ i d : Nat, 2 ≤ i ∧ i ≤ s.size ∧ 1 ≤ d ∧ d ≤ i ∧ x = .int .i64 d ∧ y = .int .i64 i ∧ Hid (Bc.noInner s.data.toList → d = 1 ∧ ∀ j, 2 ≤ j → j < i → ¬ Bc.at2 s.data.toList j 42 47)) (fun x y => s.size - (intOf y).toNat)
      case atStart => exact ⟨2, 1, Nat.le_refl _, h2, Nat.le_refl _, by omega, rfl, rfl, fun _ => ⟨rfl, fun j hj hlt => by omega⟩⟩
      case round =>
        obtain ⟨i, d, hi2, hiS, hd1, hdi, rfl, rfl, HI⟩ := hrel
        by_cases hlt : i + 1 < s.size
        · by_cases hst : Bc.at2 s.data.toList i 42 47
          · have hq := ext_eq hst
            by_cases hd : d = 1
            · have HR : Hid (Bc.nestOK s.data.toList (i + 2 : Nat)) := ⟨.inr ⟨i, hi2, hst, rfl⟩, fun hn => (Bc.flat_first hi2 hst (HI.out hn).2).symm⟩
              subst hd
              clear hst
              go_wp2
              go_ret
              exact ⟨_, rfl, BX.out, .inr ⟨HNV.out, .inr ⟨H6.out, by simpa using HR.out⟩⟩⟩
            · have HN : Hid (Bc.noInner s.data.toList → d - 1 = 1 ∧ ∀ j, 2 ≤ j → j < i + 2 → ¬ Bc.at2 s.data.toList j 42 47) := fun hn => absurd (HI.out hn).1 hd
              clear hst
              go_wp2
              go_round
              case rel => exact ⟨i + 2, d - 1, by omega, by omega, by omega, by omega, by go_num, by go_num, HN⟩
              case measure => simp [intOf]; omega
          · by_cases hop : Bc.at2 s.data.toList i 47 42
            · have hq := ext_eq hop
              have HN : Hid (Bc.noInner s.data.toList → d + 1 = 1 ∧ ∀ j, 2 ≤ j → j < i + 2 → ¬ Bc.at2 s.data.toList j 42 47) := fun hn => absurd hop (hn i hi2)
              clear hst hop
              go_wp2
              go_round
              case rel => exact ⟨i + 2, d + 1, by omega, by omega, by omega, by omega, by go_num, by go_num, HN⟩
              case measure => simp [intOf]; omega
            · have hq := ext_ne (by omega) hop
              have hq2 := ext_ne (by omega) hst
              have HN : Hid (Bc.noInner s.data.toList → d = 1 ∧ ∀ j, 2 ≤ j → j < i + 1 → ¬ Bc.at2 s.data.toList j 42 47) := fun hn => ⟨(HI.out hn).1, below_succ (HI.out hn).2 hst⟩
              clear hst hop
              go_wp2
              go_round
              case rel => exact ⟨i + 1, d, by omega, by omega, by omega, by omega, by go_num, by go_num, HN⟩
              case measure => simp [intOf]; omega
        · have HR : Hid (Bc.nestOK s.data.toList (-1)) := ⟨.inl rfl, fun hn => (Bc.flat_end (by rw [HL.out]; omega) (HI.out hn).2).symm⟩
          go_wp2
          go_ret
          exact ⟨_, rfl, BX.out, .inr ⟨HNV.out, .inr ⟨H6.out, HR.out⟩⟩⟩
  | false =>
    go_enter Tryd.func16, Tryd.ntmps16
    go_wp2_with fail
    refine (has_any L 512 hL (by decide) _).mono ?_
    rintro e w1 ⟨rfl, hw1⟩
    rw [h5]
    have hb0 : w1.cell? ⟨w.heap.size, 1, none⟩ = some (.int .u16 L) := by rw [hw1]; simp
    have hb0s : w.heap.size < w1.heap.size := by rw [hw1]; simp
    have BX0 : Below w.heap.size w w1 := by rw [hw1]; exact (Below.refl _ _).alloc (Nat.le_refl _) _
    clear hw1
    go_wp2_with fail
    refine (runOpening_any s _ hs).mono ?_
    rintro e w3 ⟨n, v, rfl, B3, hv⟩
    have hb1 : w3.cell? ⟨w.heap.size, 1, none⟩ = some (.int .u16 L) := (B3.cell (p := ⟨w.heap.size, 1, none⟩) hb0s).trans hb0
    have BX : Hid (Below w.heap.size w w3) := BX0.trans (B3.mono BX0.size)
    have hmx : w3.cell? ⟨0, 0, none⟩ = some (.int .i64 m) := (BX.out.cell (p := ⟨0, 0, none⟩) h0w).trans hm
    clear hb0 hb0s BX0 B3 hm
    rcases hv with ⟨k, hk, rfl, hv0⟩ | ⟨hk, rfl⟩
    · have HVB : Hid (Bc.vb s.data.toList = some k) := hk
      have hkS : k ≤ s.size := by have := (Bc.vb_le hk).2; rw [HL.out] at this; exact this
      clear hk
      go_wp2_with fail
      refine (version_any s k m _ hs hkS hmx).mono ?_
      rintro e w4 ⟨rfl, rfl⟩
      go_wp2
      go_ret
      exact ⟨_, rfl, BX.out, .inl ⟨k, h5, HVB.out, rfl⟩⟩
    · have HNV : Hid (((L &&& 512) == 0) = true ∨ Bc.vb s.data.toList = none) := .inr hk
      clear hk
      cases h6 : ((L &&& 256) == 0) with
      | true =>
        go_wp2_with fail
        refine (has_any L 256 hL (by decide) _).mono ?_
        rintro e w2 ⟨rfl, rfl⟩
        rw [h6]
        have e1 := tail_list s 2
        rcases index_two (s.data.toList.drop 2) 42 47 with hE | ⟨E, hE, hEl⟩
        · have HE : Hid (Lib.index (s.extract 2 s.size).data.toList (⟨#[42, 47]⟩ : ByteArray).data.toList = -1) := by rw [e1]; exact hE
          have HR : Hid (Bc.flat s.data.toList = -1) := Bc.flat_none hE
          clear hE e1
          go_wp2_with fail
          refine (Tryd.strings_Index _ _ m _ (size_lt s _ _ hs) hmx).mono ?_
          rintro e w3 ⟨rfl, rfl⟩
          rw [HE.out]
          go_wp2
          go_ret
          exact ⟨_, rfl, BX.out, .inr ⟨HNV.out, .inl ⟨h6, by rw [HR.out]⟩⟩⟩
        · have HE : Hid (Lib.index (s.extract 2 s.size).data.toList (⟨#[42, 47]⟩ : ByteArray).data.toList = E) := by rw [e1]; exact hE
          have HR : Hid (Bc.flat s.data.toList = (E : Int) + 4) := Bc.flat_some hE
          rw [List.length_drop, HL.out] at hEl
          clear hE e1
          go_wp2_with fail
          refine (Tryd.strings_Index _ _ m _ (size_lt s _ _ hs) hmx).mono ?_
          rintro e w3 ⟨rfl, rfl⟩
          rw [HE.out]
          go_wp2
          go_ret
          exact ⟨_, rfl, BX.out, .inr ⟨HNV.out, .inl ⟨h6, by rw [HR.out]⟩⟩⟩
      | false =>
        go_wp2_with fail
        refine (has_any L 256 hL (by decide) _).mono ?_
        rintro e w2 ⟨rfl, rfl⟩
        rw [h6]
        have H6 : Hid (((L &&& 256) == 0) = false) := h6
        clear h6 hb1 hmx
        go_wp2
        go_loop [8, 9] (fun x y => ∃ i d : Nat, 2 ≤ i ∧ i ≤ s.size ∧ 1 ≤ d ∧ d ≤ i ∧ x = .int .i64 d ∧ y = .int .i64 i ∧ Hid (Bc.noInner s.data.toList → d = 1 ∧ ∀ j, 2 ≤ j → j < i → ¬ Bc.at2 s.data.toList j 42 47)) (fun x y => s.size - (intOf y).toNat)
        case atStart => exact ⟨2, 1, Nat.le_refl _, h2, Nat.le_refl _, by omega, rfl, rfl, fun _ => ⟨rfl, fun j hj hlt => by omega⟩⟩
        case round =>
          obtain ⟨i, d, hi2, hiS, hd1, hdi, rfl, rfl, HI⟩ := hrel
          by_cases hlt : i + 1 < s.size
          · by_cases hst : Bc.at2 s.data.toList i 42 47
            · have hq := ext_eq hst
              by_cases hd : d = 1
              · have HR : Hid (Bc.nestOK s.data.toList (i + 2 : Nat)) := ⟨.inr ⟨i, hi2, hst, rfl⟩, fun hn => (Bc.flat_first hi2 hst (HI.out hn).2).symm⟩
                subst hd
                clear hst
                go_wp2
                go_ret
                exact ⟨_, rfl, BX.out, .inr ⟨HNV.out, .inr ⟨H6.out, by simpa using HR.out⟩⟩⟩
              · have HN : Hid (Bc.noInner s.data.toList → d - 1 = 1 ∧ ∀ j, 2 ≤ j → j < i + 2 → ¬ Bc.at2 s.data.toList j 42 47) := fun hn => absurd (HI.out hn).1 hd
                clear hst
                go_wp2
                go_round
                case rel => exact ⟨i + 2, d - 1, by omega, by omega, by omega, by omega, by go_num, by go_num, HN⟩
                case measure => simp [intOf]; omega
            · by_cases hop : Bc.at2 s.data.toList i 47 42
              · have hq := ext_eq hop
                have HN : Hid (Bc.noInner s.data.toList → d + 1 = 1 ∧ ∀ j, 2 ≤ j → j < i + 2 → ¬ Bc.at2 s.data.toList j 42 47) := fun hn => absurd hop (hn i hi2)
                clear hst hop
                go_wp2
                go_round
                case rel => exact ⟨i + 2, d + 1, by omega, by omega, by omega, by omega, by go_num, by go_num, HN⟩
                case measure => simp [intOf]; omega
              · have hq := ext_ne (by omega) hop
                have hq2 := ext_ne (by omega) hst
                have HN : Hid (Bc.noInner s.data.toList → d = 1 ∧ ∀ j, 2 ≤ j → j < i + 1 → ¬ Bc.at2 s.data.toList j 42 47) := fun hn => ⟨(HI.out hn).1, below_succ (HI.out hn).2 hst⟩
                clear hst hop
                go_wp2
                go_round
                case rel => exact ⟨i + 1, d, by omega, by omega, by omega, by omega, by go_num, by go_num, HN⟩
                case measure => simp [intOf]; omega
          · have HR : Hid (Bc.nestOK s.data.toList (-1)) := ⟨.inl rfl, fun hn => (Bc.flat_end (by rw [HL.out]; omega) (HI.out hn).2).symm⟩
            go_wp2
            go_ret
            exact ⟨_, rfl, BX.out, .inr ⟨HNV.out, .inr ⟨H6.out, HR.out⟩⟩⟩
end Go.Proofs.Qxb6606379aDoor
