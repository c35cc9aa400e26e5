import Derived.Test.Qxb6605332aDoorMem4
import Derived.Deep.DeepCutAuto
namespace Go.Proofs.Qxb6605332aDoor
open Go.RowKit
set_option linter.unusedSimpArgs false

def P0 (http10 : Bool) (b0 : List UInt8) : List UInt8 := b0 ++ (if http10 then [72, 84, 84, 80, 47, 49, 46, 48, 32] else [72, 84, 84, 80, 47, 49, 46, 49, 32])
def P2 (ct : List UInt8) (p1 : List UInt8) : List UInt8 := if ct.isEmpty then p1 else p1 ++ [13, 10, 67, 111, 110, 116, 101, 110, 116, 45, 84, 121, 112, 101, 58, 32] ++ ct

def conn (http10 opn : Bool) : List UInt8 := if opn then (if http10 then [13, 10, 67, 111, 110, 110, 101, 99, 116, 105, 111, 110, 58, 32, 107, 101, 101, 112, 45, 97, 108, 105, 118, 101] else []) else [13, 10, 67, 111, 110, 110, 101, 99, 116, 105, 111, 110, 58, 32, 99, 108, 111, 115, 101]

theorem flat_map : ∀ hs : List (ByteArray × ByteArray), ((hs.map fun p => (p.1.data.toList, p.2.data.toList)).map (fun p => p.1 ++ [58, 32] ++ p.2)).flatMap (fun x => 13 :: 10 :: x) = hs.flatMap fieldBytes
  | [] => rfl
  | p :: hs => by
    rw [List.map_cons, List.map_cons, List.flatMap_cons, List.flatMap_cons, flat_map hs]
    simp [fieldBytes]

theorem len_le_sum : ∀ hs : List (ByteArray × ByteArray), hs.length ≤ (hs.map fun p => p.1.size + p.2.size + 4).sum
  | [] => by simp
  | p :: hs => by
    have := len_le_sum hs
    rw [List.map_cons, List.sum_cons, List.length_cons]; omega

theorem sz2a : (⟨#[13, 10]⟩ : ByteArray).size = 2 := rfl
theorem sz2b : (⟨#[58, 32]⟩ : ByteArray).size = 2 := rfl

theorem head_eq (http10 opn : Bool) (st : Int) (b0 ct : List UInt8) (bl : Nat) (date : List UInt8) (hs : List (ByteArray × ByteArray)) :
    P2 ct (P0 http10 b0 ++ Lib.itoa st ++ [32] ++ Hd.stText st) ++ [13, 10, 67, 111, 110, 116, 101, 110, 116, 45, 76, 101, 110, 103, 116, 104, 58, 32] ++ Lib.itoa bl ++ [13, 10, 68, 97, 116, 101, 58, 32] ++ date ++ hs.flatMap fieldBytes ++ conn http10 opn ++ [13, 10, 13, 10] = b0 ++ Hd.head http10 opn st ct bl date (hs.map fun p => (p.1.data.toList, p.2.data.toList)) := by
  unfold Hd.head Hd.enc Hd.lines Hd.line0 P2 P0 conn
  rw [List.flatMap_append, List.flatMap_append, List.flatMap_append, flat_map]
  cases ct.isEmpty <;> cases opn <;> cases http10 <;> simp [List.append_assoc]

set_option maxHeartbeats 1000000 in
set_option maxRecDepth 100000 in
theorem appendHead_any (w : World) (v dv hv : Value) (ba : Option Addr) (b0 date : List UInt8) (hs : List (ByteArray × ByteArray)) (rb bl bc : Nat) (st : Int) (ct : ByteArray) (http10 opn : Bool)
    (hlo : -9223372036854775808 ≤ st) (hhi : st ≤ 9223372036854775807)
    (ht : Tight w v b0) (hdate : BytesAt w dv date) (hfl : FieldsAt w hv hs) (hrb : rb < w.heap.size)
    (r0 : w.cell? ⟨rb, 0, none⟩ = some (.int .i64 st)) (r1 : w.cell? ⟨rb, 1, none⟩ = some (.string ct)) (r2 : w.cell? ⟨rb, 2, none⟩ = some hv) (r3 : w.cell? ⟨rb, 3, none⟩ = some (.slice ba bl bc))
    (z0 : b0.length ≤ 1048576) (z1 : ct.size ≤ 1048576) (z2 : date.length ≤ 1048576) (z3 : bl ≤ 1048576) (z4 : (hs.map fun p => p.1.size + p.2.size + 4).sum ≤ 4194304)
    (htab : Lib.TabBelow Tryd.prog w.heap.size w "internal/strconv.uint64pow10" .u64 Lib.pow10Tab) :
    Calls Tryd.prog 16 #[v, .pointer (some ⟨rb, 0, none⟩), .bool http10, .bool opn, dv] w fun e w' => ∃ v', e = .returned v' ∧ St w w.heap.size w' v' (b0 ++ Hd.head http10 opn st ct.data.toList bl date (hs.map fun p => (p.1.data.toList, p.2.data.toList))) := by
  have HT : Hid (Tight w v b0) := ht
  have Htab : Hid (Lib.TabBelow Tryd.prog w.heap.size w "internal/strconv.uint64pow10" .u64 Lib.pow10Tab) := htab
  have HD : Hid (BytesAt w dv date) := hdate
  have HFl : Hid (FieldsAt w hv hs) := hfl
  have Z4 : Hid ((hs.map fun p => p.1.size + p.2.size + 4).sum ≤ 4194304) := z4
  have hhl : hs.length ≤ 4194304 := Nat.le_trans (len_le_sum hs) z4
  clear ht htab hdate hfl z4
  have q1 := Lib.itoa_length_le st hlo hhi
  have q2 := Hd.stText_len st hlo hhi
  have q3 := Lib.itoa_length_le (bl : Int) (by omega) (by omega)
  have hctl : ct.data.toList.length = ct.size := (Lib.size_eq ct).symm
  have Hctl : Hid (ct.data.toList.length = ct.size) := hctl
  clear hctl
  go_enter Tryd.func16, Tryd.ntmps16
  go_upto_if 13 with fail
  go_cut [0] (fun sv wc => ∃ p, St w w.heap.size wc sv p ∧ (∀ b o, b < w.heap.size → wc.cell? ⟨b, o, none⟩ = w.cell? ⟨b, o, none⟩) ∧ Hid (p = P0 http10 b0) ∧ p.length ≤ 2000000)
  case first =>
    cases http10 with
    | true =>
      go_wp2_with (at_builtin; refine wpList_st_first _ rfl _ _ rfl _ _ rfl HT.out _ rfl (by decide) (by first | omega | (simp; omega) | (simp [ByteArray.size]; omega)) ?_; intro v1 w1 hst1 hcl1)
      go_meet
      case rel => exact ⟨_, hst1, hcl1, rfl, by first | omega | (simp; omega) | (simp [ByteArray.size]; omega)⟩
    | false =>
      go_wp2_with (at_builtin; refine wpList_st_first _ rfl _ _ rfl _ _ rfl HT.out _ rfl (by decide) (by first | omega | (simp; omega) | (simp [ByteArray.size]; omega)) ?_; intro v1 w1 hst1 hcl1)
      go_meet
      case rel => exact ⟨_, hst1, hcl1, rfl, by first | omega | (simp; omega) | (simp [ByteArray.size]; omega)⟩
  case rest =>
    obtain ⟨p0, hst1, hcl1, HP0, hl0⟩ := hcut
    go_upto_if 38 with (first
      | (go_at_call 19; refine (appendInt_st w w.heap.size _ hlo hhi _ _ _ (by assumption) (by first | omega | (simp; omega) | (simp [ByteArray.size]; omega)) Htab.out).mono ?_; rintro e w2 ⟨v2, rfl, hst2, hcl2⟩)
      | (at_builtin; refine wpList_st_bytes _ rfl _ _ rfl w w.heap.size _ _ rfl (St.alloc (by assumption) _) _ 1 _ [32] rfl rfl (cell_space _) (by first | omega | (simp; omega) | (simp [ByteArray.size]; omega)) ?_; intro v5 w5 hst5 hcl5)
      | (go_at_call 15; refine (statusText_st w w.heap.size _ hlo hhi _ _ _ (by assumption) Htab.out).mono ?_; rintro e w3 ⟨rfl, hst3, hcl3⟩)
      | (at_builtin; refine wpList_st_str _ rfl _ _ rfl w w.heap.size _ _ rfl (by assumption) _ rfl (by first | omega | (simp; omega) | (simp [ByteArray.size]; omega)) ?_; intro v4 w4 hst4 hcl4))
    have hl1 : (Hd.stText st).length ≤ 64 := q2
    go_cut [0] (fun sv wc => ∃ p, St w w.heap.size wc sv p ∧ (∀ b o, b < w.heap.size → wc.cell? ⟨b, o, none⟩ = w.cell? ⟨b, o, none⟩) ∧ Hid (p = P2 ct.data.toList (p0 ++ Lib.itoa st ++ [32] ++ Hd.stText st)) ∧ p.length ≤ 4000000)
    case first =>
      have Hce : Hid (ct.toList.isEmpty = ct.data.toList.isEmpty) := by rw [Hid, Lib.toList_data]
      cases hce : ct.toList.isEmpty with
      | true =>
        go_wp2
        go_meet
        case rel => exact ⟨_, hst4, hcl4, by rw [Hid, P2, ← Hce.out, hce]; simp, by first | omega | (simp; omega) | (simp [ByteArray.size]; omega)⟩
      | false =>
        go_wp2_with (first
      | (go_at_call 19; refine (appendInt_st w w.heap.size _ hlo hhi _ _ _ (by assumption) (by first | omega | (simp; omega) | (simp [ByteArray.size]; omega)) Htab.out).mono ?_; rintro e w2 ⟨v2, rfl, hst2, hcl2⟩)
      | (at_builtin; refine wpList_st_bytes _ rfl _ _ rfl w w.heap.size _ _ rfl (St.alloc (by assumption) _) _ 1 _ [32] rfl rfl (cell_space _) (by first | omega | (simp; omega) | (simp [ByteArray.size]; omega)) ?_; intro v5 w5 hst5 hcl5)
      | (go_at_call 15; refine (statusText_st w w.heap.size _ hlo hhi _ _ _ (by assumption) Htab.out).mono ?_; rintro e w3 ⟨rfl, hst3, hcl3⟩)
      | (at_builtin; refine wpList_st_str _ rfl _ _ rfl w w.heap.size _ _ rfl (by assumption) _ rfl (by first | omega | (simp; omega) | (simp [ByteArray.size]; omega)) ?_; intro v4 w4 hst4 hcl4))
        go_meet
        case rel => exact ⟨_, by assumption, by assumption, by rw [Hid, P2, ← Hce.out, hce]; simp, by have := Hctl.out; simp at this ⊢; omega⟩
    case rest =>
      obtain ⟨p2, hst1b, hcl1b, HP2, hl2⟩ := hcut
      clear hst1 hcl1 hst2 hcl2 hst3 hcl3 hst4 hcl4 hst5 hcl5
      go_upto_region 13 with (first
      | (go_at_call 19; refine (appendInt_st w w.heap.size _ (by omega) (by omega) _ _ _ (by assumption) (by first | omega | (simp; omega) | (simp [ByteArray.size]; omega)) Htab.out).mono ?_; rintro e w2 ⟨v2, rfl, hst2, hcl2⟩)
      | (at_builtin; refine wpList_st_bytes _ rfl _ _ rfl w w.heap.size _ _ rfl (St.alloc (by assumption) _) _ 1 _ [32] rfl rfl (cell_space _) (by first | omega | (simp; omega) | (simp [ByteArray.size]; omega)) ?_; intro v5 w5 hst5 hcl5)
      | (go_at_call 15; refine (statusText_st w w.heap.size _ (by omega) (by omega) _ _ _ (by assumption) Htab.out).mono ?_; rintro e w3 ⟨rfl, hst3, hcl3⟩)
      | (at_builtin; refine wpList_st_str _ rfl _ _ rfl w w.heap.size _ _ rfl (by assumption) _ rfl (by first | omega | (simp; omega) | (simp [ByteArray.size]; omega)) ?_; intro v4 w4 hst4 hcl4))
      go_cut [0] (fun sv wc => ∃ p, St w w.heap.size wc sv p ∧ (∀ b o, b < w.heap.size → wc.cell? ⟨b, o, none⟩ = w.cell? ⟨b, o, none⟩) ∧ Hid (p = p2 ++ [13, 10, 67, 111, 110, 116, 101, 110, 116, 45, 76, 101, 110, 103, 116, 104, 58, 32] ++ Lib.itoa bl ++ [13, 10, 68, 97, 116, 101, 58, 32] ++ date) ∧ p.length ≤ 6000000)
      case first =>
        rcases HD.out with ⟨rfl, hd⟩ | ⟨gd, cd, rfl, hgd, hcd⟩
        · go_wp2_with (at_builtin; refine wpList_st_nil _ rfl _ _ rfl w w.heap.size _ _ rfl (by assumption) rfl ?_)
          go_meet
          case rel => exact ⟨_, by assumption, by assumption, by rw [Hid, hd]; simp, by first | omega | (simp; omega) | (simp [ByteArray.size]; omega)⟩
        · have HCD : Hid (∀ i, i < date.length → w.cell? ⟨gd, i, none⟩ = some (.int .u8 ((date.getD i 0).toNat : Int))) := hcd
          clear hcd
          go_wp2_with (at_builtin; refine wpList_st_bytes _ rfl _ _ rfl w w.heap.size _ _ rfl (by assumption) _ _ _ date rfl rfl (fun i hi => by rw [Addr.add_lit, Nat.zero_add, St.cells (by assumption) _ _ hgd]; exact HCD.out i hi) (by first | omega | (simp; omega) | (simp [ByteArray.size]; omega)) ?_; intro v6 w6 hst6 hcl6)
          go_meet
          case rel => exact ⟨_, hst6, hcl6, by first | rfl | (rw [Hid]; simp), by first | omega | (simp; omega) | (simp [ByteArray.size]; omega)⟩
      case rest =>
        obtain ⟨p3, hst1c, hcl1c, HP3, hl3⟩ := hcut
        clear hst1b hcl1b hst2 hcl2 hst4 hcl4
        have q5 : Hid (∀ k, ((hs.take k).flatMap fieldBytes).length ≤ 4194304) := fun k => Nat.le_trans (flat_len hs k) Z4.out
        have hHP : Hid (p3 = P2 ct.data.toList (P0 http10 b0 ++ Lib.itoa st ++ [32] ++ Hd.stText st) ++ [13, 10, 67, 111, 110, 116, 101, 110, 116, 45, 76, 101, 110, 103, 116, 104, 58, 32] ++ Lib.itoa bl ++ [13, 10, 68, 97, 116, 101, 58, 32] ++ date) := by rw [Hid, HP3.out, HP2.out, HP0.out]
        rcases HFl.out with ⟨rfl, hhs⟩ | ⟨gh, ch, rfl, hgh, hch⟩
        · go_wp2
          go_loopw [0, 66] (fun a b wx => b = .int .i64 0 ∧ St w w.heap.size wx a p3) (fun _ _ _ => 0)
          case atStart => exact ⟨rfl, hst1c⟩
          case round =>
            obtain ⟨rfl, hstr⟩ := hrel
            have HHS : Hid (hs = []) := hhs
            clear hhs
            have HEQ : Hid (p3 ++ conn http10 opn ++ [13, 10, 13, 10] = b0 ++ Hd.head http10 opn st ct.data.toList bl date (hs.map fun p => (p.1.data.toList, p.2.data.toList))) := by
              have h := head_eq http10 opn st b0 ct.data.toList bl date hs
              rw [Hid, ← h, HHS.out, hHP.out]; simp
            clear hst1c hcl1c
            cases opn with
            | false =>
              go_wp2_with (at_builtin; refine wpList_st_str _ rfl _ _ rfl w w.heap.size _ _ rfl (by assumption) _ rfl (by first | omega | (simp; omega) | (simp [ByteArray.size]; omega)) ?_; intro v4 w4 hst4 hcl4)
              go_ret
              refine ⟨_, rfl, ?_⟩
              rw [← HEQ.out]
              first | exact hst4 | (simpa [conn] using hst4)
            | true =>
              cases http10 with
              | true =>
                go_wp2_with (at_builtin; refine wpList_st_str _ rfl _ _ rfl w w.heap.size _ _ rfl (by assumption) _ rfl (by first | omega | (simp; omega) | (simp [ByteArray.size]; omega)) ?_; intro v4 w4 hst4 hcl4)
                go_ret
                refine ⟨_, rfl, ?_⟩
                rw [← HEQ.out]
                first | exact hst4 | (simpa [conn] using hst4)
              | false =>
                go_wp2_with (at_builtin; refine wpList_st_str _ rfl _ _ rfl w w.heap.size _ _ rfl (by assumption) _ rfl (by first | omega | (simp; omega) | (simp [ByteArray.size]; omega)) ?_; intro v4 w4 hst4 hcl4)
                go_ret
                refine ⟨_, rfl, ?_⟩
                rw [← HEQ.out]
                first | exact hst4 | (simpa [conn] using hst4)
        · have HCH : Hid (∀ i p, hs[i]? = some p → w.cell? ⟨gh, i * 2, none⟩ = some (.string p.1) ∧ w.cell? ⟨gh, i * 2 + 1, none⟩ = some (.string p.2)) := hch
          clear hch
          go_wp2
          go_loopw [0, 66] (fun a b wx => ∃ (k : Nat) (p : List UInt8), k ≤ hs.length ∧ b = .int .i64 k ∧ St w w.heap.size wx a p ∧ Hid (p = p3 ++ (hs.take k).flatMap fieldBytes)) (fun _ b _ => hs.length - (intOf b).toNat)
          case atStart => exact ⟨0, p3, by omega, rfl, hst1c, by simp [Hid]⟩
          case round =>
            obtain ⟨k, p, hk, rfl, hstr, HPK⟩ := hrel
            have hpl : p.length ≤ 12000000 := by have := q5.out k; rw [HPK.out, List.length_append]; omega
            have hclr := hstr.cells
            clear hst1c hcl1c
            by_cases hlt : k < hs.length
            · obtain ⟨pr, hpr⟩ : ∃ pr, hs[k]? = some pr := ⟨_, List.getElem?_eq_getElem hlt⟩
              obtain ⟨hc0, hc1⟩ := HCH.out k pr hpr
              have hsz := Nat.le_trans (mem_sum_le hs k pr hpr) Z4.out
              have HNX : Hid (p ++ fieldBytes pr = p3 ++ (hs.take (k + 1)).flatMap fieldBytes) := by
                rw [Hid, HPK.out, List.take_add_one, hpr]; simp
              obtain ⟨nm, vl⟩ := pr
              simp only at hc0 hc1 hsz
              clear hpr
              go_wp2_with (first
                | (at_builtin; refine wpList_sx_str _ rfl _ _ rfl w w.heap.size _ _ _ nm vl rfl (by assumption) _ rfl ?hl5 ?_; (case hl5 => (simp [sz2a, sz2b]; omega)); intro v5 w5 hst5 hc50 hc51)
                | (at_builtin; refine wpList_sx_str _ rfl _ _ rfl w w.heap.size _ _ _ nm vl rfl (sx_alloc hstr nm vl) _ rfl ?hl4 ?_; (case hl4 => (rw [sz2a]; omega)); intro v4 w4 hst4 hc40 hc41))
              go_roundw
              case rel => exact ⟨k + 1, _, by omega, by go_num, hst5.st, by rw [Hid, ← HNX.out]; simp [fieldBytes]⟩
              case measure => simp [intOf]; omega
            · have HEQ : Hid (p ++ conn http10 opn ++ [13, 10, 13, 10] = b0 ++ Hd.head http10 opn st ct.data.toList bl date (hs.map fun p => (p.1.data.toList, p.2.data.toList))) := by
                have h := head_eq http10 opn st b0 ct.data.toList bl date hs
                rw [Hid, ← h, HPK.out, hHP.out, List.take_of_length_le (by omega)]
              cases opn with
              | false =>
                go_wp2_with (at_builtin; refine wpList_st_str _ rfl _ _ rfl w w.heap.size _ _ rfl (by assumption) _ rfl (by first | omega | (simp; omega) | (simp [ByteArray.size]; omega)) ?_; intro v4 w4 hst4 hcl4)
                go_ret
                refine ⟨_, rfl, ?_⟩
                rw [← HEQ.out]
                first | exact hst4 | (simpa [conn] using hst4)
              | true =>
                cases http10 with
                | true =>
                  go_wp2_with (at_builtin; refine wpList_st_str _ rfl _ _ rfl w w.heap.size _ _ rfl (by assumption) _ rfl (by first | omega | (simp; omega) | (simp [ByteArray.size]; omega)) ?_; intro v4 w4 hst4 hcl4)
                  go_ret
                  refine ⟨_, rfl, ?_⟩
                  rw [← HEQ.out]
                  first | exact hst4 | (simpa [conn] using hst4)
                | false =>
                  go_wp2_with (at_builtin; refine wpList_st_str _ rfl _ _ rfl w w.heap.size _ _ rfl (by assumption) _ rfl (by first | omega | (simp; omega) | (simp [ByteArray.size]; omega)) ?_; intro v4 w4 hst4 hcl4)
                  go_ret
                  refine ⟨_, rfl, ?_⟩
                  rw [← HEQ.out]
                  first | exact hst4 | (simpa [conn] using hst4)
end Go.Proofs.Qxb6605332aDoor
