import Derived.Test.Qxb6605332aDoorFields
import Derived.Lib.IndexBytes
namespace Go.Proofs.Qxb6605332aDoor
open Go.RowKit

theorem ret_bool {a b : Bool} (h : a = b) : Ending.returned (.bool a) = .returned (.bool b) := by rw [h]

theorem noLF_step {l : List UInt8} {k : Nat} {x : UInt8} (h : l[k]? = some x) : Hd.noLF (l.take (k + 1)) = (Hd.noLF (l.take k) && (x != 10)) := by
  rw [List.take_add_one, h, Hd.noLF_append]
  simp [Hd.noLF]

theorem noLF_hit {l : List UInt8} {k : Nat} (h : l[k]? = some 10) : Hd.noLF l = false := by
  have hm : (10 : UInt8) ∈ l := List.mem_of_getElem? h
  cases hn : Hd.noLF l with
  | false => rfl
  | true =>
    have := List.all_eq_true.1 hn 10 hm
    simp at this

set_option maxHeartbeats 400000 in
theorem stringHasLF_any (s : ByteArray) (w : World) (hs : s.size ≤ 1048576) :
    Calls Tryd.prog 8 #[.string s] w fun e w' => e = .returned (.bool (!Hd.noLF s.data.toList)) ∧ w' = w := by
  have HL : Hid (s.data.toList.length = s.size) := (Lib.size_eq s).symm
  go_enter Tryd.func8, Tryd.ntmps8
  go_wp2
  go_loop [3] (fun a => ∃ k : Nat, k ≤ s.size ∧ a = .int .i64 k ∧ Hid (Hd.noLF (s.data.toList.take k) = true)) (fun a => s.size - (intOf a).toNat)
  case atStart => exact ⟨0, Nat.zero_le _, rfl, rfl⟩
  case round =>
    obtain ⟨k, hk, rfl, HI⟩ := hrel
    by_cases hlt : k < s.size
    · obtain ⟨x, hx⟩ : ∃ x : UInt8, s[k]'hlt = x := ⟨_, rfl⟩
      have Hx : Hid (s.data.toList[k]? = some x) := by rw [← hx]; exact Lib.data_getElem? s k hlt
      cases e10 : ((x.toNat : Int) == 10) with
      | true =>
        have HF : Hid (Hd.noLF s.data.toList = false) := by
          have : x = 10 := UInt8.toNat_inj.1 (by have := beq_iff_eq.1 e10; show x.toNat = 10; omega)
          exact noLF_hit (by rw [Hx.out, this])
        go_wp2
        go_ret
        exact ⟨ret_bool (by rw [HF.out]; rfl), rfl⟩
      | false =>
        have HN : Hid (Hd.noLF (s.data.toList.take (k + 1)) = true) := by
          have hne : (x != 10) = true := by
            rw [bne_iff_ne]; intro h; subst h; exact absurd e10 (by decide)
          rw [Hid, noLF_step Hx.out, HI.out, hne]; rfl
        go_wp2
        go_round
        case rel => exact ⟨k + 1, by omega, by go_num, HN⟩
        case measure => simp [intOf]; omega
    · have HF : Hid (Hd.noLF s.data.toList = true) := by
        have h := HI.out
        rw [List.take_of_length_le (by rw [HL.out]; omega)] at h
        exact h
      go_wp2
      go_ret
      exact ⟨ret_bool (by rw [HF.out]; rfl), rfl⟩

set_option maxHeartbeats 400000 in
theorem bytesHasLF_any (w : World) (v : Value) (bs : List UInt8) (hin : InB w v bs) (hlen : bs.length ≤ 1048576) :
    Calls Tryd.prog 9 #[v] w fun e w' => e = .returned (.bool (!Hd.noLF bs)) ∧ w' = w := by
  rcases hin with ⟨rfl, rfl⟩ | ⟨⟨xb, xo, xs⟩, cap, rfl, hcl, hcm, hby⟩
  · go_enter Tryd.func9, Tryd.ntmps9
    go_wp2
    go_loop [3] (fun a => a = .int .i64 0) (fun a => 0)
    case atStart => rfl
    case round =>
      subst hrel
      go_wp2
      go_ret
      exact ⟨rfl, rfl⟩
  · have HBY : Hid (∀ i, i < bs.length → w.cell? (Addr.add ⟨xb, xo, xs⟩ i) = some (.int .u8 ((bs.getD i 0).toNat : Int))) := hby
    clear hby
    unfold maxLen at hcm
    have hsp : bs.length = 0 ∨ xs = none := by
      rcases Nat.eq_zero_or_pos bs.length with h | h
      · exact .inl h
      · exact .inr (spot_none (HBY.out 0 h))
    go_enter Tryd.func9, Tryd.ntmps9
    go_wp2
    go_loop [3] (fun a => ∃ k : Nat, k ≤ bs.length ∧ a = .int .i64 k ∧ Hid (Hd.noLF (bs.take k) = true)) (fun a => bs.length - (intOf a).toNat)
    case atStart => exact ⟨0, Nat.zero_le _, rfl, rfl⟩
    case round =>
      obtain ⟨k, hk, rfl, HI⟩ := hrel
      by_cases hlt : k < bs.length
      · have hsp' : xs = none := hsp.resolve_left (by omega)
        subst hsp'
        obtain ⟨x, hx⟩ : ∃ x : UInt8, bs.getD k 0 = x := ⟨_, rfl⟩
        have Hx : Hid (bs[k]? = some x) := by rw [← hx, List.getD_eq_getElem?_getD, Hid, List.getElem?_eq_getElem hlt]; rfl
        have hsrc := HBY.out k hlt
        rw [Addr.add_lit, hx] at hsrc
        clear hx hsp
        cases e10 : ((x.toNat : Int) == 10) with
        | true =>
          have HF : Hid (Hd.noLF bs = false) := by
            have : x = 10 := UInt8.toNat_inj.1 (by have := beq_iff_eq.1 e10; show x.toNat = 10; omega)
            exact noLF_hit (by rw [Hx.out, this])
          go_wp2
          go_ret
          exact ⟨ret_bool (by rw [HF.out]; rfl), rfl⟩
        | false =>
          have HN : Hid (Hd.noLF (bs.take (k + 1)) = true) := by
            have hne : (x != 10) = true := by
              rw [bne_iff_ne]; intro h; subst h; exact absurd e10 (by decide)
            rw [Hid, noLF_step Hx.out, HI.out, hne]; rfl
          go_wp2
          go_round
          case rel => exact ⟨k + 1, by omega, by go_num, HN⟩
          case measure => simp [intOf]; omega
      · have HF : Hid (Hd.noLF bs = true) := by
          have h := HI.out
          rw [List.take_of_length_le (by omega)] at h
          exact h
        go_wp2
        go_ret
        exact ⟨ret_bool (by rw [HF.out]; rfl), rfl⟩
end Go.Proofs.Qxb6605332aDoor
