import Derived.Test.Qxb6605332aDoorLaw0
import Derived.Deep.DeepCutAuto
namespace Go.Proofs.Qxb6605332aDoor
open Go.RowKit
attribute [local go_sem ↓] Go.wp_at_zero Go.wp_at_succ

theorem below_step {a b c : World} (h : Below a.heap.size a b) (k : Below b.heap.size b c) : Below a.heap.size a c := h.trans (k.mono h.size)
theorem box_cells {w : World} {b : Nat} {x0 x1 x2 x3 : Value} {t : TypeId} (h : w.heap[b]? = some (.cells #[x0, x1, x2, x3] t)) : w.cell? ⟨b, 0, none⟩ = some x0 ∧ w.cell? ⟨b, 1, none⟩ = some x1 ∧ w.cell? ⟨b, 2, none⟩ = some x2 ∧ w.cell? ⟨b, 3, none⟩ = some x3 := by
  simp [World.cell?, h]

theorem lastOf_le : ∀ (ls : List (List UInt8)) (l : List UInt8), (Hd.lastOf l ls).length + 4 ≤ (Hd.enc l ls).length
  | [], l => by rw [Hd.enc_length_last]; exact Nat.le_refl _
  | m :: ls, l => by
    have := lastOf_le ls m
    rw [Hd.enc_cons, List.length_append, List.length_cons, List.length_cons]
    show (Hd.lastOf m ls).length + 4 ≤ _
    omega
theorem fields_noLF {hs : List (ByteArray × ByteArray)} (h : ∀ p ∈ hs, Hd.noLF p.1.data.toList = true ∧ Hd.noLF p.2.data.toList = true) : ∀ p ∈ hs.map (fun p => (p.1.data.toList, p.2.data.toList)), Hd.noLF p.1 = true ∧ Hd.noLF p.2 = true := by
  intro p hp
  obtain ⟨q, hq, rfl⟩ := List.mem_map.1 hp
  exact h q hq
theorem lastLen_hdr {date : List UInt8} {hs : List (ByteArray × ByteArray)} {m : Nat} {nm vl : ByteArray} (hm : hs.length = m + 1) (hp : hs[m]? = some (nm, vl)) : Hd.lastLen false true date (hs.map fun p => (p.1.data.toList, p.2.data.toList)) = nm.size + 2 + vl.size := by
  unfold Hd.lastLen
  rw [List.getLast?_map, List.getLast?_eq_getElem?, hm, show m + 1 - 1 = m from rfl, hp]
  simp

def LawPost (w : World) (e : Ending) (w' : World) : Prop := e = .returned (.bool true) ∧ Below w.heap.size w w'

set_option maxHeartbeats 4000000 in
set_option maxRecDepth 100000 in
theorem law_any (w : World) (vb vh vy vd : Value) (bs body date : List UInt8) (st : Int) (ct : ByteArray) (http10 opn : Bool) (hs : List (ByteArray × ByteArray))
    (hb : InB w vb bs) (hy : InB w vy body) (hd : InB w vd date) (hh : InF w vh hs) (hlo : -9223372036854775808 ≤ st) (hhi : st ≤ 9223372036854775807)
    (htab : Lib.TabBelow Tryd.prog w.heap.size w "internal/strconv.uint64pow10" .u64 Lib.pow10Tab) :
    Calls Tryd.prog 4 #[vb, .int .i64 st, .string ct, vh, vy, .bool http10, .bool opn, vd] w fun e w' => LawPost w e w' := by
  obtain ⟨ba, bc, rfl⟩ := hb.lit
  obtain ⟨ya, yc, rfl⟩ := hy.lit
  obtain ⟨da, dc, rfl⟩ := hd.lit
  obtain ⟨hx, hc, rfl⟩ := hh.lit
  have HB : Hid (InB w (.slice ba bs.length bc) bs) := hb
  have HY : Hid (InB w (.slice ya body.length yc) body) := hy
  have HD : Hid (InB w (.slice da date.length dc) date) := hd
  have HH : Hid (InF w (.slice hx hs.length hc) hs) := hh
  have HHd : Hid (HdrAt w hx hs) := hh.hdr
  have Htab : Hid (Lib.TabBelow Tryd.prog w.heap.size w "internal/strconv.uint64pow10" .u64 Lib.pow10Tab) := htab
  clear hb hy hd hh htab
  go_enter Tryd.func4, Tryd.ntmps4
  go_wp2_with fail
  refine (bytes_any w _ _ _ _ _ _ _ _ _ _ _ _ ct _ _ hs HHd.out).mono ?_
  rintro e w1 ⟨r, rfl, rfl, hr⟩
  cases r with
  | false =>
    go_wp2
    go_ret
    exact ⟨rfl, Below.refl _ _⟩
  | true =>
    have HT := hr rfl
    clear hr
    by_cases c1 : hs.length ≤ 65536
    case neg =>
      go_wp2
      go_ret
      exact ⟨rfl, Below.refl _ _⟩
    go_wp2
    go_loopw [17, 18] (fun a b wx => ∃ k n q : Nat, k ≤ hs.length ∧ b = .int .i64 k ∧ a = .int .i64 n ∧ n ≤ 4194304 + fsum (hs.take k) ∧ wx = w1.drewN q) (fun a b _ => hs.length - (intOf b).toNat)
    case atStart => exact ⟨0, bs.length + ct.size + body.length + date.length + 32 * hs.length, 0, Nat.zero_le _, rfl, by go_num, by omega, rfl⟩
    case round =>
      obtain ⟨k, n, q, hk, rfl, rfl, hn, rfl⟩ := hrel
      have hfk := fsum_take_le hs k
      by_cases hlt : k < hs.length
      · by_cases d0 : n ≤ 1048576
        case neg =>
          go_wp2
          go_ret
          exact ⟨rfl, below_drewN (Below.refl _ _) _⟩
        obtain ⟨⟨nm, vl⟩, hpr⟩ : ∃ pr, hs[k]? = some pr := ⟨_, List.getElem?_eq_getElem hlt⟩
        obtain ⟨xb, xo, rfl, t0, t1⟩ := HHd.out k _ hpr
        have hm := fsum_mem hpr
        have HS : Hid (fsum (hs.take (k + 1)) = fsum (hs.take k) + (nm.size + vl.size)) := fsum_take_succ hpr
        clear hpr
        simp only at t0 t1 hm
        have hw1 : IntKind.i64.wrap ((nm.size : Int) + (vl.size : Int)) = (nm.size : Int) + (vl.size : Int) := wrap_small _ (by omega) (by omega)
        have hw2 : IntKind.i64.wrap ((n : Int) + ((nm.size : Int) + (vl.size : Int))) = (n : Int) + ((nm.size : Int) + (vl.size : Int)) := wrap_small _ (by omega) (by omega)
        go_wp2_with fail
        go_quiet (fail)
        go_wp2
        go_roundw
        case rel => exact ⟨k + 1, n + (nm.size + vl.size), _, by omega, by go_num, by go_num, by have := HS.out; omega, rfl⟩
        case measure => simp [intOf]; omega
      · by_cases d0 : n ≤ 1048576
        case neg =>
          go_wp2
          go_ret
          exact ⟨rfl, below_drewN (Below.refl _ _) _⟩
        have HTq : Hid (Below w1.heap.size w1 (w1.drewN q)) := below_drewN (Below.refl _ _) _
        cases hct : Hd.noLF ct.data.toList with
        | false =>
          go_wp2_with fail
          refine (stringHasLF_any ct _ (by omega)).mono ?_
          rintro e w2 ⟨rfl, rfl⟩
          rw [hct]
          go_wp2
          go_ret
          exact ⟨rfl, HTq.out⟩
        | true =>
          have HCT : Hid (Hd.noLF ct.data.toList = true) := hct
          cases hdt : Hd.noLF date with
          | false =>
            go_wp2_with fail
            refine (stringHasLF_any ct _ (by omega)).mono ?_
            rintro e w2 ⟨rfl, rfl⟩
            rw [hct]
            go_wp2_with fail
            refine (bytesHasLF_any _ _ date (HD.out.on HTq.out) (by omega)).mono ?_
            rintro e w2 ⟨rfl, rfl⟩
            rw [hdt]
            go_wp2
            go_ret
            exact ⟨rfl, HTq.out⟩
          | true =>
            have HDT : Hid (Hd.noLF date = true) := hdt
            go_wp2_with fail
            refine (stringHasLF_any ct _ (by omega)).mono ?_
            rintro e w2 ⟨rfl, rfl⟩
            rw [hct]
            go_wp2_with fail
            refine (bytesHasLF_any _ _ date (HD.out.on HTq.out) (by omega)).mono ?_
            rintro e w2 ⟨rfl, rfl⟩
            rw [hdt]
            clear hct hdt
            go_wp2
            go_loop [19] (fun a => ∃ k : Nat, k ≤ hs.length ∧ a = .int .i64 k ∧ Hid (∀ p ∈ hs.take k, Hd.noLF p.1.data.toList = true ∧ Hd.noLF p.2.data.toList = true)) (fun a => hs.length - (intOf a).toNat)
            case atStart => exact ⟨0, Nat.zero_le _, rfl, fun p hp => by simp at hp⟩
            case round =>
              obtain ⟨k2, hk2, rfl, HI⟩ := hrel
              by_cases hlt2 : k2 < hs.length
              · obtain ⟨⟨nm, vl⟩, hpr⟩ : ∃ pr, hs[k2]? = some pr := ⟨_, List.getElem?_eq_getElem hlt2⟩
                obtain ⟨xb, xo, rfl, t0, t1⟩ := HHd.out k2 _ hpr
                have hm := fsum_mem hpr
                have HPR : Hid (hs[k2]? = some (nm, vl)) := hpr
                clear hpr
                simp only at t0 t1 hm
                cases h1 : Hd.noLF nm.data.toList with
                | false =>
                  go_wp2_with fail
                  refine (stringHasLF_any nm _ (by omega)).mono ?_
                  rintro e w2 ⟨rfl, rfl⟩
                  rw [h1]
                  go_wp2
                  go_ret
                  exact ⟨rfl, HTq.out⟩
                | true =>
                  cases h2 : Hd.noLF vl.data.toList with
                  | false =>
                    go_wp2_with fail
                    refine (stringHasLF_any nm _ (by omega)).mono ?_
                    rintro e w2 ⟨rfl, rfl⟩
                    rw [h1]
                    go_wp2_with fail
                    refine (stringHasLF_any vl _ (by omega)).mono ?_
                    rintro e w2 ⟨rfl, rfl⟩
                    rw [h2]
                    go_wp2
                    go_ret
                    exact ⟨rfl, HTq.out⟩
                  | true =>
                    have HI2 : Hid (∀ p ∈ hs.take (k2 + 1), Hd.noLF p.1.data.toList = true ∧ Hd.noLF p.2.data.toList = true) := fun p hp => by
                      rw [List.take_add_one, HPR.out, List.mem_append] at hp
                      rcases hp with hp | hp
                      · exact HI.out p hp
                      · simp at hp; subst hp; exact ⟨h1, h2⟩
                    go_wp2_with fail
                    refine (stringHasLF_any nm _ (by omega)).mono ?_
                    rintro e w2 ⟨rfl, rfl⟩
                    rw [h1]
                    go_wp2_with fail
                    refine (stringHasLF_any vl _ (by omega)).mono ?_
                    rintro e w2 ⟨rfl, rfl⟩
                    rw [h2]
                    clear h1 h2
                    go_wp2
                    go_round
                    case rel => exact ⟨k2 + 1, by omega, by go_num, HI2⟩
                    case measure => simp [intOf]; omega
              · have HLF : Hid (∀ p ∈ hs, Hd.noLF p.1.data.toList = true ∧ Hd.noLF p.2.data.toList = true) := by
                  have h := HI.out
                  rw [List.take_of_length_le (by omega)] at h
                  exact h
                clear hfk hn
                have HTs : Hid (fsum hs + 4 * hs.length ≤ 1310720) := by show _ ≤ _; omega
                have hz0 : bs.length ≤ 1048576 := by omega
                have hz1 : ct.size ≤ 1048576 := by omega
                have hz2 : date.length ≤ 1048576 := by omega
                have hz3 : body.length ≤ 1048576 := by omega
                clear HT d0 hlt hk
                obtain ⟨wq, hwq⟩ : ∃ wq, w1.drewN q = wq := ⟨_, rfl⟩
                rw [hwq] at HTq ⊢
                clear hwq
                have HB := HB.out.on HTq.out
                have HY := HY.out.on HTq.out
                have HD := HD.out.on HTq.out
                have HH := HH.out.on HTq.out
                have T0 : Hid (InB wq (.slice ba bs.length bc) bs ∧ InB wq (.slice ya body.length yc) body ∧ InB wq (.slice da date.length dc) date ∧ InF wq (.slice hx hs.length hc) hs) := ⟨HB, HY, HD, HH⟩
                clear HB HY HD HH
                go_wp2_with fail
                refine (cloneBytes_any _ _ bs T0.out.1 hz0).mono ?_
                rintro e w3 ⟨v3, rfl, C3, B3⟩
                obtain ⟨a3, rfl⟩ := C3.lit
                go_wp2_with fail
                refine (cloneBytes_any _ _ body (T0.out.2.1.on B3) hz3).mono ?_
                rintro e w4 ⟨v4, rfl, C4, B4⟩
                obtain ⟨a4, rfl⟩ := C4.lit
                have B34 := B3.trans (B4.mono B3.size)
                go_wp2_with fail
                refine (cloneBytes_any _ _ date (T0.out.2.2.1.on B34) hz2).mono ?_
                rintro e w5 ⟨v5, rfl, C5, B5⟩
                obtain ⟨a5, rfl⟩ := C5.lit
                have B35 := B34.trans (B5.mono B34.size)
                go_wp2_with fail
                refine (cloneFields_any _ _ hs (T0.out.2.2.2.on B35) (by omega)).mono ?_
                rintro e w6 ⟨v6, rfl, C6, B6⟩
                obtain ⟨a6, rfl⟩ := C6.lit
                have B36 := B35.trans (B6.mono B35.size)
                go_wp2_with fail
                refine (fields_any _ _ hs (C6.inF (by omega)) (by omega)).mono ?_
                rintro e w7 ⟨v7, rfl, C7, B7⟩
                obtain ⟨a7, rfl⟩ := C7.lit
                clear hlt2 hk2
                go_wp2_with fail
                obtain ⟨w8, hw8⟩ : ∃ w8, w7.alloc (.cells #[.int .i64 st, .string ct, .slice a7 hs.length hs.length, .slice a4 body.length body.length] 37) = w8 := ⟨_, rfl⟩
                have hbx : w8.heap[w7.heap.size]? = some (.cells #[.int .i64 st, .string ct, .slice a7 hs.length hs.length, .slice a4 body.length body.length] 37) := by rw [← hw8]; exact heap_alloc_new w7 _
                have B8 : Below w7.heap.size w7 w8 := by rw [← hw8]; exact (Below.refl _ _).alloc (Nat.le_refl _) _
                have h78 : w7.heap.size < w8.heap.size := by rw [← hw8]; simp
                obtain ⟨r0, r1, r2, r3⟩ := box_cells hbx
                rw [hw8]
                clear hw8 hbx
                have B68 := below_step B7 B8
                have B58 := below_step B6 B68
                have B48 := below_step B5 B58
                have B38 := below_step B4 B48
                have Bq8 := below_step B3 B38
                have B08 := below_step HTq.out Bq8
                have Htab8 : Lib.TabBelow Tryd.prog w8.heap.size w8 "internal/strconv.uint64pow10" .u64 Lib.pow10Tab := fun w' hb' => (Htab.out.on B08) w' (hb'.mono B08.size)
                refine (zzAppendHead_any w8 _ _ _ _ bs date hs w7.heap.size _ _ st ct http10 opn hlo hhi (C3.on B38).tight (C5.on B58).at (C7.on B8).at h78 r0 r1 r2 r3 hz0 hz1 hz2 hz3 (by rw [sum4_eq]; have := HTs.out; omega) Htab8).mono ?_
                rintro e w9 ⟨v9, rfl, S9⟩
                have hhl := head_len http10 opn st ct.data.toList date body.length hs hlo hhi (by rw [← Lib.size_eq]; exact hz1) hz2 hz3 (by have := HTs.out; omega)
                have hh4 : 4 ≤ (Hd.head http10 opn st ct.data.toList body.length date (hs.map fun p => (p.1.data.toList, p.2.data.toList))).length := enc_len _ _
                obtain ⟨L, hL⟩ : ∃ L, bs ++ Hd.head http10 opn st ct.data.toList body.length date (hs.map fun p => (p.1.data.toList, p.2.data.toList)) = L := ⟨_, rfl⟩
                have HLd : Hid (L.drop bs.length = Hd.enc (Hd.line0 http10 st) (Hd.lines http10 opn ct.data.toList body.length date (hs.map fun p => (p.1.data.toList, p.2.data.toList)))) := by
                  rw [Hid, ← hL, List.drop_left]; rfl
                have hLl := congrArg List.length hL
                rw [List.length_append] at hLl
                rw [hL] at S9
                have hL0 : bs.length + 4 ≤ L.length := by omega
                have hL1 : L.length ≤ 100000000 := by omega
                clear hL hLl hh4 hhl Htab8 r0 r1 r2 r3
                obtain ⟨g, cap, rfl, hc1, hc2, hBg, hg9, hcells⟩ := S9.own.shape2 (by omega)
                have HC9 : Hid (∀ i, i < L.length → w9.cell? ⟨g, i, none⟩ = some (.int .u8 ((L.getD i 0).toNat : Int))) := hcells
                have B89 := S9.kept.below
                have B69 := below_step B68 B89
                have B09 := below_step B08 B89
                have C69 := C6.on B69
                have HX : Hid (Below w1.heap.size w1 w9 ∧ ClF w9 w5.heap.size (.slice a6 hs.length hs.length) hs) := ⟨B09, C69⟩
                clear hcells S9 C3 C4 C5 C6 C7 C69 B3 B4 B5 B6 B7 B8 B34 B35 B36 B68 B58 B48 B38 Bq8 B08 B89 B69 B09 T0
                go_upto_if 173 with fail
                go_cut [23] (fun v wc => v = .int .i64 ((Hd.lastLen http10 opn date (hs.map fun p => (p.1.data.toList, p.2.data.toList)) : Nat) : Int) ∧ ∃ q, wc = w9.drewN q)
                case first =>
                  cases opn with
                  | false =>
                    go_wp2
                    go_meet
                    case rel => exact ⟨rfl, 0, rfl⟩
                  | true =>
                    cases http10 with
                    | true =>
                      go_wp2
                      go_meet
                      case rel => exact ⟨rfl, 0, rfl⟩
                    | false =>
                      rcases Nat.eq_zero_or_pos hs.length with hls | hpos
                      · have HE : Hid (hs = []) := List.length_eq_zero_iff.1 hls
                        go_wp2
                        go_meet
                        case rel => exact ⟨by rw [HE.out]; show _ = Value.int .i64 ((6 + date.length : Nat) : Int); go_num, 0, rfl⟩
                      · obtain ⟨m, hls⟩ : ∃ m, hs.length = m + 1 := ⟨hs.length - 1, by omega⟩
                        obtain ⟨⟨nm, vl⟩, hpr⟩ : ∃ pr, hs[m]? = some pr := ⟨_, List.getElem?_eq_getElem (by omega)⟩
                        have HLL : Hid (Hd.lastLen false true date (hs.map fun p => (p.1.data.toList, p.2.data.toList)) = nm.size + 2 + vl.size) := lastLen_hdr hls hpr
                        have hmm := fsum_mem hpr
                        simp only at hmm
                        have hts := HTs.out
                        have hm1 : m ≤ 65536 := by omega
                        have hnm : nm.size ≤ 2000000 := by omega
                        have hvl : vl.size ≤ 2000000 := by omega
                        rcases HX.out.2 with ⟨e, h0⟩ | ⟨e, hH, hcf⟩
                        · rw [h0] at hls; cases hls
                        · obtain ⟨t0, t1⟩ := hcf m _ hpr
                          simp only at t0 t1
                          cases e
                          clear hcf hpr hmm hts
                          have hw0 : IntKind.i64.wrap ((hs.length : Int) - 1) = (m : Int) := by rw [show (hs.length : Int) - 1 = (m : Int) from by omega]; exact wrap_small _ (by omega) (by omega)
                          have hi0 : (0 : Int) ≤ (m : Int) := by omega
                          have hi1 : (m : Int) < (hs.length : Int) := by omega
                          have HLS : Hid (hs.length = m + 1) := hls
                          clear hls
                          have hw1 : IntKind.i64.wrap ((nm.size : Int) + 2) = (nm.size : Int) + 2 := wrap_small _ (by omega) (by omega)
                          have hw2 : IntKind.i64.wrap ((nm.size : Int) + 2 + (vl.size : Int)) = (nm.size : Int) + 2 + (vl.size : Int) := wrap_small _ (by omega) (by omega)
                          go_wp2_with fail
                          go_quiet (fail)
                          go_wp2
                          go_meet
                          case rel => exact ⟨by rw [HLL.out]; go_num, _, rfl⟩
                case rest =>
                  obtain ⟨rfl, q9, rfl⟩ := hcut
                  obtain ⟨w10, hw10⟩ : ∃ w10, w9.drewN q9 = w10 := ⟨_, rfl⟩
                  have HC10 : Hid (∀ i, i < L.length → w10.cell? ⟨g, i, none⟩ = some (.int .u8 ((L.getD i 0).toNat : Int))) := by rw [← hw10]; exact HC9.out
                  have HX10 : Hid (Below w1.heap.size w1 w10) := by rw [← hw10]; exact below_drewN HX.out.1 _
                  have hg10 : g < w10.heap.size := by rw [← hw10]; exact hg9
                  rw [hw10]
                  clear hw10 HX HC9 hg9 hBg
                  have hl4 := lastOf_le (Hd.lines http10 opn ct.data.toList body.length date (hs.map fun p => (p.1.data.toList, p.2.data.toList))) (Hd.line0 http10 st)
                  rw [← HLd.out, Hd.last_len, List.length_drop] at hl4
                  go_wp2_with fail
                  have BW : Below w10.heap.size w10 (w10.alloc (.cells #[.int .i64 bs.length] 3)) := (Below.refl _ _).alloc (Nat.le_refl _) _
                  refine (zzHeadEnd_any _ g cap w10.heap.size bs.length L (Hd.line0 http10 st) (Hd.lines http10 opn ct.data.toList body.length date (hs.map fun p => (p.1.data.toList, p.2.data.toList))) hL1 hc1 hc2 hg10 (by simp) (fun i hi => (BW.cell (p := ⟨g, i, none⟩) hg10).trans (HC10.out i hi)) (by simp) (by simp) HLd.out (Hd.line0_noLF _ _) (Hd.lines_good _ _ _ _ _ _ HCT.out HDT.out (fields_noLF HLF.out))).mono ?_
                  rintro e w11 ⟨rfl, hf11, B11⟩
                  rw [Hd.last_len] at hf11
                  obtain ⟨N, hN⟩ : ∃ N, Hd.lastLen http10 opn date (hs.map fun p => (p.1.data.toList, p.2.data.toList)) = N := ⟨_, rfl⟩
                  rw [hN] at hl4 hf11 ⊢
                  clear hN
                  rw [show ((L.length - 4 - N : Nat) : Int) = (L.length : Int) - 4 - (N : Int) from by omega] at hf11
                  go_wp2
                  go_ret
                  refine ⟨?_, HX10.out.trans ((BW.trans B11).mono HX10.out.size)⟩
                  first | rfl | simp
end Go.Proofs.Qxb6605332aDoor
