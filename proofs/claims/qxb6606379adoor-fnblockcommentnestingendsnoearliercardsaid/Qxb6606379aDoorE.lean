import Derived.Test.Qxb6606379aDoorB
import Derived.Lib.IndexBytes
namespace Go.Proofs.Qxb6606379aDoor
open Go.RowKit

theorem tail_list (s : ByteArray) (a : Nat) : (s.extract a s.size).data.toList = s.data.toList.drop a := by
  rw [ByteArray.data_extract, Array.toList_extract, List.extract_eq_take_drop]
  exact List.take_of_length_le (by rw [List.length_drop, ← Lib.size_eq]; omega)
theorem mid_list (s : ByteArray) (a k : Nat) : (s.extract a (a + k)).data.toList = (s.data.toList.drop a).take k := by
  rw [ByteArray.data_extract, Array.toList_extract, List.extract_eq_take_drop, Nat.add_sub_cancel_left]
theorem size_lt (s : ByteArray) (a b : Nat) (h : s.size ≤ 1048576) : (s.extract a b).size < 4294967281 := by rw [ByteArray.size_extract]; omega

namespace Bc
theorem vc_none1 {t : List UInt8} {f i : Nat} (h : Lib.index (t.drop i) [42, 47] < 0) : vc t (f + 1) i = none := by unfold vc; rw [if_pos h]
theorem vc_some1 {t : List UInt8} {f i E : Nat} (h : Lib.index (t.drop i) [42, 47] = E) (h2 : Lib.index ((t.drop i).take (E + 1)) [47, 42] < 0) : vc t (f + 1) i = some (i + E + 2) := by
  unfold vc
  rw [h, if_neg (by omega), Int.toNat_natCast, if_pos h2]
theorem vc_none2 {t : List UInt8} {f i E I : Nat} (h : Lib.index (t.drop i) [42, 47] = E) (h2 : Lib.index ((t.drop i).take (E + 1)) [47, 42] = I) (h3 : Lib.index (t.drop (i + I + 2)) [42, 47] < 0) : vc t (f + 1) i = none := by
  unfold vc
  rw [h, if_neg (by omega), Int.toNat_natCast, h2, if_neg (by omega), Int.toNat_natCast, if_pos h3]
theorem vc_step {t : List UInt8} {f i E I E2 : Nat} (h : Lib.index (t.drop i) [42, 47] = E) (h2 : Lib.index ((t.drop i).take (E + 1)) [47, 42] = I) (h3 : Lib.index (t.drop (i + I + 2)) [42, 47] = E2) : vc t (f + 1) i = vc t f (i + I + 2 + E2 + 2) := by
  conv => lhs; unfold vc
  rw [h, if_neg (by omega), Int.toNat_natCast, h2, if_neg (by omega), Int.toNat_natCast, h3, if_neg (by omega), Int.toNat_natCast]
theorem vcI_none {t : List UInt8} {n : Nat} (h : vc t (t.length + 1) n = none) : vcI t n = -1 := by unfold vcI; rw [h]
theorem vcI_some {t : List UInt8} {n k : Nat} (h : vc t (t.length + 1) n = some k) : vcI t n = k := by unfold vcI; rw [h]
end Bc

theorem index_two (l : List UInt8) (a b : UInt8) : Lib.index l [a, b] = -1 ∨ ∃ i : Nat, Lib.index l [a, b] = i ∧ i + 2 ≤ l.length := by
  rcases Lib.index_spec l [a, b] with ⟨h, _⟩ | ⟨i, h, _⟩
  · exact .inl h
  · have := Lib.index_room l [a, b] (by omega)
    rw [h] at this
    simp at this
    exact .inr ⟨i, h, by omega⟩

set_option maxHeartbeats 1000000 in
set_option maxRecDepth 100000 in
theorem version_any (s : ByteArray) (n : Nat) (m : Int) (w : World) (hs : s.size ≤ 1048576) (hn : n ≤ s.size) (hm : w.cell? ⟨0, 0, none⟩ = some (.int .i64 m)) :
    Calls Tryd.prog 20 #[.string s, .int .i64 n] w fun e w' => e = .returned (.int .i64 (Bc.vcI s.data.toList n)) ∧ w' = w := by
  have HL : Hid (s.data.toList.length = s.size) := (Lib.size_eq s).symm
  go_enter Tryd.func20, Tryd.ntmps20
  go_wp2
  go_loop [5] (fun a => ∃ i f : Nat, i ≤ s.size ∧ a = .int .i64 i ∧ Hid (s.size < i + f ∧ Bc.vc s.data.toList f i = Bc.vc s.data.toList (s.data.toList.length + 1) n)) (fun a => s.size - (intOf a).toNat)
  case atStart => exact ⟨n, s.size + 1, hn, rfl, by omega, by rw [HL.out]⟩
  case round =>
    obtain ⟨i, f, hi, rfl, HV⟩ := hrel
    obtain ⟨f', hf⟩ : ∃ f', f = f' + 1 := ⟨f - 1, by have := HV.out.1; omega⟩
    subst hf
    have e1 := tail_list s i
    rcases index_two (s.data.toList.drop i) 42 47 with hE | ⟨E, hE, hEl⟩
    · have HE : Hid (Lib.index (s.extract i s.size).data.toList (⟨#[42, 47]⟩ : ByteArray).data.toList = -1) := by rw [e1]; exact hE
      have HR : Hid (Bc.vcI s.data.toList n = -1) := Bc.vcI_none (HV.out.2.symm.trans (Bc.vc_none1 (by rw [hE]; decide)))
      clear hE e1
      go_wp2_with fail
      refine (Tryd.strings_Index _ _ m _ (size_lt s _ _ hs) hm).mono ?_
      rintro e w2 ⟨rfl, rfl⟩
      rw [HE.out]
      go_wp2
      go_ret
      exact ⟨ret_int (by rw [HR.out]), rfl⟩
    · have HE : Hid (Lib.index (s.extract i s.size).data.toList (⟨#[42, 47]⟩ : ByteArray).data.toList = E) := by rw [e1]; exact hE
      rw [List.length_drop, HL.out] at hEl
      have e2 := mid_list s i (E + 1)
      rcases index_two ((s.data.toList.drop i).take (E + 1)) 47 42 with hI | ⟨I, hI, hIl⟩
      · have HII : Hid (Lib.index (s.extract i (i + E + 1)).data.toList (⟨#[47, 42]⟩ : ByteArray).data.toList = -1) := by rw [Nat.add_assoc, e2]; exact hI
        have HR : Hid (Bc.vcI s.data.toList n = (i + E + 2 : Nat)) := Bc.vcI_some (HV.out.2.symm.trans (Bc.vc_some1 hE (by rw [hI]; decide)))
        clear hE e1 e2 hI
        go_wp2_with fail
        refine (Tryd.strings_Index _ _ m _ (size_lt s _ _ hs) hm).mono ?_
        rintro e w2 ⟨rfl, rfl⟩
        rw [HE.out]
        go_wp2_with fail
        refine (Tryd.strings_Index _ _ m _ (size_lt s _ _ hs) hm).mono ?_
        rintro e w2 ⟨rfl, rfl⟩
        rw [HII.out]
        go_wp2
        go_ret
        exact ⟨ret_int (by rw [HR.out]; omega), rfl⟩
      · have HII : Hid (Lib.index (s.extract i (i + E + 1)).data.toList (⟨#[47, 42]⟩ : ByteArray).data.toList = I) := by rw [Nat.add_assoc, e2]; exact hI
        have hIl2 : I + 2 ≤ E + 1 := by rw [List.length_take] at hIl; omega
        clear hIl
        have e3 := tail_list s (i + (I + 2))
        rcases index_two (s.data.toList.drop (i + I + 2)) 42 47 with hE2 | ⟨E2, hE2, hE2l⟩
        · have HE2 : Hid (Lib.index (s.extract (i + (I + 2)) s.size).data.toList (⟨#[42, 47]⟩ : ByteArray).data.toList = -1) := by rw [e3, ← Nat.add_assoc]; exact hE2
          have HR : Hid (Bc.vcI s.data.toList n = -1) := Bc.vcI_none (HV.out.2.symm.trans (Bc.vc_none2 hE hI (by rw [hE2]; decide)))
          clear hE e1 e2 hI e3 hE2
          go_wp2_with fail
          refine (Tryd.strings_Index _ _ m _ (size_lt s _ _ hs) hm).mono ?_
          rintro e w2 ⟨rfl, rfl⟩
          rw [HE.out]
          go_wp2_with fail
          refine (Tryd.strings_Index _ _ m _ (size_lt s _ _ hs) hm).mono ?_
          rintro e w2 ⟨rfl, rfl⟩
          rw [HII.out]
          go_wp2_with fail
          refine (Tryd.strings_Index _ _ m _ (size_lt s _ _ hs) hm).mono ?_
          rintro e w2 ⟨rfl, rfl⟩
          rw [HE2.out]
          go_wp2
          go_ret
          exact ⟨ret_int (by rw [HR.out]), rfl⟩
        · have HE2 : Hid (Lib.index (s.extract (i + (I + 2)) s.size).data.toList (⟨#[42, 47]⟩ : ByteArray).data.toList = E2) := by rw [e3, ← Nat.add_assoc]; exact hE2
          rw [List.length_drop, HL.out] at hE2l
          have HN : Hid (s.size < i + (I + 2) + (E2 + 2) + f' ∧ Bc.vc s.data.toList f' (i + (I + 2) + (E2 + 2)) = Bc.vc s.data.toList (s.data.toList.length + 1) n) := by
            refine ⟨by have := HV.out.1; omega, ?_⟩
            rw [← HV.out.2, Bc.vc_step hE hI hE2, show i + (I + 2) + (E2 + 2) = i + I + 2 + E2 + 2 from by omega]
          clear hE e1 e2 hI e3 hE2
          go_wp2_with fail
          refine (Tryd.strings_Index _ _ m _ (size_lt s _ _ hs) hm).mono ?_
          rintro e w2 ⟨rfl, rfl⟩
          rw [HE.out]
          go_wp2_with fail
          refine (Tryd.strings_Index _ _ m _ (size_lt s _ _ hs) hm).mono ?_
          rintro e w2 ⟨rfl, rfl⟩
          rw [HII.out]
          go_wp2_with fail
          refine (Tryd.strings_Index _ _ m _ (size_lt s _ _ hs) hm).mono ?_
          rintro e w2 ⟨rfl, rfl⟩
          rw [HE2.out]
          go_wp2
          go_round
          case rel => exact ⟨i + (I + 2) + (E2 + 2), f', by omega, by go_num, HN⟩
          case measure => simp [intOf]; omega
end Go.Proofs.Qxb6606379aDoor
