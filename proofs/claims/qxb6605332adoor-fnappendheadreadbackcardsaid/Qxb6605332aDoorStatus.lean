import Derived.Test.Qxb6605332aDoorMem
import Derived.Test.Qxb6605332aDoorPlain
namespace Go.Proofs.Qxb6605332aDoor
open Go.RowKit

theorem kept_grow (B : Nat) (w : World) (k : Nat) (os : Array Obj) (hB : B ≤ w.heap.size) : Kept B w (Sort.grow (w.drewN k) os) := by
  refine ⟨⟨rfl, rfl, rfl, ?_, fun j hj => Lib.heap_grow_old w k os j (by omega)⟩, fun j o hj _ _ => ?_⟩
  · show w.heap.size ≤ (w.heap ++ os).size
    rw [Array.size_append]; omega
  · rw [Lib.heap_grow_old w k os j (Array.getElem?_eq_some_iff.1 hj).1]; exact hj

theorem str_app (a b : List UInt8) : (⟨a.toArray⟩ : ByteArray) ++ ⟨b.toArray⟩ = ⟨(a ++ b).toArray⟩ := by
  apply ByteArray.ext
  rw [ByteArray.data_append]; simp

set_option maxHeartbeats 1000000 in
set_option maxRecDepth 100000 in
theorem statusText_any (B : Nat) (n : Int) (h0 : -9223372036854775808 ≤ n) (h1 : n ≤ 9223372036854775807) (w : World) (hB : B ≤ w.heap.size) (htab : Lib.TabIs Tryd.prog w "internal/strconv.uint64pow10" .u64 Lib.pow10Tab) :
    Calls Tryd.prog 15 #[.int .i64 n] w fun e w' => e = .returned (.string ⟨(Hd.stText n).toArray⟩) ∧ Kept B w w' ∧ w.heap.size ≤ w'.heap.size := by
  have HI := Tryd.strconv_Itoa n h0 h1 w htab
  have HK : Hid (∀ k os, Kept B w (Sort.grow (w.drewN k) os)) := fun k os => kept_grow B w k os hB
  have hsame : Kept B w w := Kept.refl B w
  have hlen := Lib.itoa_length_le n h0 h1
  have hlen2 : (⟨(Lib.itoa n).toArray⟩ : ByteArray).size ≤ 21 := hlen
  cases e200 : (n == 200) with
  | true =>
    have HT : Hid (Hd.stText n = [79, 75]) := by
      have := beq_iff_eq.1 e200; subst this; rfl
    clear HI HK
    go_enter Tryd.func15, Tryd.ntmps15
    go_wp2
    go_ret
    exact ⟨by rw [HT.out]; rfl, hsame, Nat.le_refl _⟩
  | false =>
    cases e400 : (n == 400) with
    | true =>
      have HT : Hid (Hd.stText n = [66, 97, 100, 32, 82, 101, 113, 117, 101, 115, 116]) := by
        have := beq_iff_eq.1 e400; subst this; rfl
      clear HI HK
      go_enter Tryd.func15, Tryd.ntmps15
      go_wp2
      go_ret
      exact ⟨by rw [HT.out]; rfl, hsame, Nat.le_refl _⟩
    | false =>
      cases e404 : (n == 404) with
      | true =>
        have HT : Hid (Hd.stText n = [78, 111, 116, 32, 70, 111, 117, 110, 100]) := by
          have := beq_iff_eq.1 e404; subst this; rfl
        clear HI HK
        go_enter Tryd.func15, Tryd.ntmps15
        go_wp2
        go_ret
        exact ⟨by rw [HT.out]; rfl, hsame, Nat.le_refl _⟩
      | false =>
        cases e405 : (n == 405) with
        | true =>
          have HT : Hid (Hd.stText n = [77, 101, 116, 104, 111, 100, 32, 78, 111, 116, 32, 65, 108, 108, 111, 119, 101, 100]) := by
            have := beq_iff_eq.1 e405; subst this; rfl
          clear HI HK
          go_enter Tryd.func15, Tryd.ntmps15
          go_wp2
          go_ret
          exact ⟨by rw [HT.out]; rfl, hsame, Nat.le_refl _⟩
        | false =>
          cases e431 : (n == 431) with
          | true =>
            have HT : Hid (Hd.stText n = [82, 101, 113, 117, 101, 115, 116, 32, 72, 101, 97, 100, 101, 114, 32, 70, 105, 101, 108, 100, 115, 32, 84, 111, 111, 32, 76, 97, 114, 103, 101]) := by
              have := beq_iff_eq.1 e431; subst this; rfl
            clear HI HK
            go_enter Tryd.func15, Tryd.ntmps15
            go_wp2
            go_ret
            exact ⟨by rw [HT.out]; rfl, hsame, Nat.le_refl _⟩
          | false =>
            cases e500 : (n == 500) with
            | true =>
              have HT : Hid (Hd.stText n = [73, 110, 116, 101, 114, 110, 97, 108, 32, 83, 101, 114, 118, 101, 114, 32, 69, 114, 114, 111, 114]) := by
                have := beq_iff_eq.1 e500; subst this; rfl
              clear HI HK
              go_enter Tryd.func15, Tryd.ntmps15
              go_wp2
              go_ret
              exact ⟨by rw [HT.out]; rfl, hsame, Nat.le_refl _⟩
            | false =>
              cases e505 : (n == 505) with
              | true =>
                have HT : Hid (Hd.stText n = [72, 84, 84, 80, 32, 86, 101, 114, 115, 105, 111, 110, 32, 78, 111, 116, 32, 83, 117, 112, 112, 111, 114, 116, 101, 100]) := by
                  have := beq_iff_eq.1 e505; subst this; rfl
                clear HI HK
                go_enter Tryd.func15, Tryd.ntmps15
                go_wp2
                go_ret
                exact ⟨by rw [HT.out]; rfl, hsame, Nat.le_refl _⟩
              | false =>
                have HT : Hid (Hd.stText n = [83, 116, 97, 116, 117, 115, 32] ++ Lib.itoa n) := by
                  unfold Hd.stText
                  rw [if_neg (beq_eq_false_iff_ne.1 e200), if_neg (beq_eq_false_iff_ne.1 e400), if_neg (beq_eq_false_iff_ne.1 e404), if_neg (beq_eq_false_iff_ne.1 e405), if_neg (beq_eq_false_iff_ne.1 e431), if_neg (beq_eq_false_iff_ne.1 e500), if_neg (beq_eq_false_iff_ne.1 e505)]; rfl
                have HIH : Hid (Calls Tryd.prog 18 #[.int .i64 n] w fun e w' => e = .returned (.string ⟨(Lib.itoa n).toArray⟩) ∧ ∃ k os, w' = Sort.grow (w.drewN k) os) := HI
                clear HI
                go_enter Tryd.func15, Tryd.ntmps15
                go_wp2_with fail
                refine HIH.out.mono ?_
                rintro e w1 ⟨rfl, kk, os, rfl⟩
                go_wp2
                go_ret
                refine ⟨?_, HK.out _ _, (HK.out _ _).below.size⟩
                rw [HT.out, ← str_app]
                rfl
end Go.Proofs.Qxb6605332aDoor
