import Derived.Test.Qxb6603812aSkipF
namespace Go.Proofs.Qxb6603812a
open Go.RowKit


theorem escapeString_z (s : ByteArray) (i : Int) (w : World) (hs : s.size ≤ 1048577) (h0 : 0 ≤ i) (hi : i ≤ s.size) :
    Calls Try.prog 27 #[.string s, .int .i64 i] w fun e w' => e = .returned (.int .i64 (Sq.escAt s.data.toList i.toNat)) ∧ Below w.heap.size w w' := by
  obtain ⟨n, rfl⟩ := Int.eq_ofNat_of_zero_le h0
  rw [Int.toNat_natCast]
  exact escapeString_any s n w hs (by omega)

set_option maxHeartbeats 4000000 in
set_option maxRecDepth 100000 in
theorem skip_rest (ps bs es dq bt hc sd nc ec : Bool) (s : ByteArray) (i : Nat) (x : UInt8) (m : Int) (w : World) (hs : s.size ≤ 1048577) (hi : i < s.size)
    (hmz : 0 < w.heap.size) (hm : w.cell? ⟨0, 0, none⟩ = some (.int .i64 m))
    (hp : 0 < (s.extract i s.size).size) (hx0 : (s.extract i s.size)[0]'hp = x)
    (h39 : ((x.toNat : Int) == 39) = false) (h34 : ((x.toNat : Int) == 34) = false) (h96 : (((x.toNat : Int) == 96) = true ∧ bt = false) ∨ ((x.toNat : Int) == 96) = false)
    (fw : Bool) (hfw : Hid (Sq.fwAt s.data.toList i = fw)) (L : List UInt8) (HLd : Hid (s.data.toList.drop i = L)) (HLL : Hid (L.length = s.size - i)) (Hh : Hid (L.headD 0 = x))
    (p1 p2 p3 p4 p5 p6 : Bool)
    (HP1 : Hid (Lib.hasPrefix (s.extract i s.size).data.toList (⟨#[69, 39]⟩ : ByteArray).data.toList = p1))
    (HP2 : Hid (Lib.hasPrefix (s.extract i s.size).data.toList (⟨#[101, 39]⟩ : ByteArray).data.toList = p2))
    (HP3 : Hid (Lib.hasPrefix (s.extract i s.size).data.toList (⟨#[45, 45]⟩ : ByteArray).data.toList = p3))
    (HP4 : Hid (Lib.hasPrefix (s.extract i s.size).data.toList (⟨#[47, 42, 33]⟩ : ByteArray).data.toList = p4))
    (HP5 : Hid (Lib.hasPrefix (s.extract i s.size).data.toList (⟨#[47, 42, 77, 33]⟩ : ByteArray).data.toList = p5))
    (HP6 : Hid (Lib.hasPrefix (s.extract i s.size).data.toList (⟨#[47, 42]⟩ : ByteArray).data.toList = p6))
    (G1 : Hid (Lib.hasPrefix L [69, 39] = p1)) (G2 : Hid (Lib.hasPrefix L [101, 39] = p2)) (G3 : Hid (Lib.hasPrefix L [45, 45] = p3)) (G4 : Hid (Lib.hasPrefix L [47, 42, 33] = p4)) (G5 : Hid (Lib.hasPrefix L [47, 42, 77, 33] = p5)) (G6 : Hid (Lib.hasPrefix L [47, 42] = p6))
    (R : Nat) (HR : Hid (R = i + Sq.skp ⟨ps, bs, es, dq, bt, hc, sd, nc, ec⟩ fw L)) (N1 : Hid ((L.headD 0 == 39 || L.headD 0 == 34) = false)) (N2 : Hid ((L.headD 0 == 96 && bt) = false)) :
    Calls Try.prog 21 #[.agg #[.bool ps, .bool bs, .bool es, .bool dq, .bool bt, .bool hc, .bool sd, .bool nc, .bool ec, .map none], .string s, .int .i64 i] w fun e w' => e = .returned (.int .i64 R) ∧ Below w.heap.size w w' := by
  have hm' : ∀ o, (w.alloc o).cell? ⟨0, 0, none⟩ = some (.int .i64 m) := fun o => by
    rw [Below.cell ((Below.refl w.heap.size w).alloc (Nat.le_refl _) o) hmz]; exact hm
  have HM : Hid (∀ o, (w.alloc o).cell? ⟨0, 0, none⟩ = some (.int .i64 m)) := hm'
  clear hm' hm
  go_enter Try.func21, Try.ntmps21
  go_upto_region 4 with fail
  go_cut [30] (fun v wc => v = .bool false ∧ wc = w.alloc (.cells #[.bool ps, .bool bs, .bool es, .bool dq, .bool bt, .bool hc, .bool sd, .bool nc, .bool ec, .map none] 32))
  case first =>
    rcases h96 with ⟨h96, rfl⟩ | h96
    · go_wp2
      go_meet
      case rel => exact ⟨rfl, rfl⟩
    · go_wp2
      go_meet
      case rel => exact ⟨rfl, rfl⟩
  case rest =>
    obtain ⟨rfl, rfl⟩ := hcut
    clear h96
    go_upto_region 6 with fail
    go_cut [42] (fun v wc => (∃ b, v = .bool b ∧ Hid (Sq.cE ⟨ps, bs, es, dq, bt, hc, sd, nc, ec⟩ fw L = b)) ∧ wc = w.alloc (.cells #[.bool ps, .bool bs, .bool es, .bool dq, .bool bt, .bool hc, .bool sd, .bool nc, .bool ec, .map none] 32))
    case first =>
      cases es with
      | false =>
        go_wp2
        go_meet
        case rel => exact ⟨⟨_, rfl, rfl⟩, rfl⟩
      | true =>
        cases p1 with
        | true =>
          go_wp2_with (first
            | (go_at_call 23; refine (Try.strings_HasPrefix _ _ _).mono ?_; rintro e w1 ⟨rfl, rfl⟩; first | rw [HP1.out] | rw [HP2.out])
            | (go_at_call 26; refine (followsWord_any _ _ _ hs (by omega)).mono ?_; rintro e w1 ⟨rfl, rfl⟩; rw [hfw.out]))
          go_meet
          case rel => exact ⟨⟨_, rfl, by rw [Hid, Sq.cE, G1.out, G2.out]; simp⟩, rfl⟩
        | false =>
          cases p2 with
          | true =>
            go_wp2_with (first
              | (go_at_call 23; refine (Try.strings_HasPrefix _ _ _).mono ?_; rintro e w1 ⟨rfl, rfl⟩; first | rw [HP1.out] | rw [HP2.out])
              | (go_at_call 26; refine (followsWord_any _ _ _ hs (by omega)).mono ?_; rintro e w1 ⟨rfl, rfl⟩; rw [hfw.out]))
            go_meet
            case rel => exact ⟨⟨_, rfl, by rw [Hid, Sq.cE, G1.out, G2.out]; simp⟩, rfl⟩
          | false =>
            go_wp2_with (first
              | (go_at_call 23; refine (Try.strings_HasPrefix _ _ _).mono ?_; rintro e w1 ⟨rfl, rfl⟩; first | rw [HP1.out] | rw [HP2.out]))
            go_meet
            case rel => exact ⟨⟨_, rfl, by rw [Hid, Sq.cE, G1.out, G2.out]; simp⟩, rfl⟩
    case rest =>
      obtain ⟨⟨bE, rfl, HE⟩, rfl⟩ := hcut
      cases bE with
      | true =>
        have hsz2 : i + 2 ≤ s.size := by
          have h := HE.out
          rw [Sq.cE, G1.out, G2.out] at h
          have hl := HLL.out
          cases p1 with
          | true =>
            obtain ⟨t, ht⟩ := Sq.pre_split G1.out
            rw [ht] at hl; simp at hl; omega
          | false =>
            cases p2 with
            | true =>
              obtain ⟨t, ht⟩ := Sq.pre_split G2.out
              rw [ht] at hl; simp at hl; omega
            | false => simp at h
        have HF : Hid (R = Sq.escAt s.data.toList (i + 2)) := by
          rw [Hid, HR.out, Sq.skp_E N1.out N2.out HE.out, ← HLd.out, List.drop_drop]
          unfold Sq.escAt; omega
        go_wp2_with (go_at_call 27; refine (escapeString_z _ _ _ hs (by omega) (by omega)).mono ?_; rintro e w1 ⟨rfl, hb1⟩; rw [show ((i : Int) + 2).toNat = i + 2 from by omega])
        go_ret
        exact ⟨ret_int (by rw [HF.out]), ((Below.refl _ _).alloc (Nat.le_refl _) _).trans (hb1.mono (by simp))⟩
      | false =>
        go_upto_region 8 with fail
        go_cut [63] (fun v wc => (∃ b, v = .bool b ∧ Hid (Sq.cD ⟨ps, bs, es, dq, bt, hc, sd, nc, ec⟩ fw (L.headD 0) = b)) ∧ wc = w.alloc (.cells #[.bool ps, .bool bs, .bool es, .bool dq, .bool bt, .bool hc, .bool sd, .bool nc, .bool ec, .map none] 32))
        case first =>
          have B36 : Hid (((x.toNat : Int) == 36) = (x == 36)) := Sq.byte_beq x 36
          cases dq with
          | false =>
            go_wp2
            go_meet
            case rel => exact ⟨⟨_, rfl, rfl⟩, rfl⟩
          | true =>
            cases e36 : ((x.toNat : Int) == 36) with
            | true =>
              go_wp2_with (go_at_call 26; refine (followsWord_any _ _ _ hs (by omega)).mono ?_; rintro e w1 ⟨rfl, rfl⟩; rw [hfw.out])
              go_meet
              case rel => exact ⟨⟨_, rfl, by rw [Hid, Sq.cD, Hh.out, ← B36.out, e36]; simp⟩, rfl⟩
            | false =>
              go_wp2
              go_meet
              case rel => exact ⟨⟨_, rfl, by rw [Hid, Sq.cD, Hh.out, ← B36.out, e36]; simp⟩, rfl⟩
        case rest =>
          obtain ⟨⟨bD, rfl, HD⟩, rfl⟩ := hcut
          cases bD with
          | true =>
            have HF : Hid (R = Sq.dolAt s.data.toList i) := by
              rw [Hid, HR.out, Sq.skp_D N1.out N2.out HE.out HD.out, ← HLd.out]; rfl
            go_wp2_with (go_at_call 28; refine (dollarQuoted_any _ _ m _ hs (by omega) (HM.out _)).mono ?_; rintro e w1 ⟨rfl, rfl⟩)
            go_ret
            exact ⟨ret_int (by rw [HF.out]), ((Below.refl _ _).alloc (Nat.le_refl _) _)⟩
          | false =>
            go_upto_region 10 with fail
            go_cut [80] (fun v wc => (∃ b, v = .bool b ∧ Hid (Sq.cL ⟨ps, bs, es, dq, bt, hc, sd, nc, ec⟩ L = b)) ∧ wc = w.alloc (.cells #[.bool ps, .bool bs, .bool es, .bool dq, .bool bt, .bool hc, .bool sd, .bool nc, .bool ec, .map none] 32))
            case first =>
              cases p3 with
              | false =>
                go_wp2_with (go_at_call 23; refine (Try.strings_HasPrefix _ _ _).mono ?_; rintro e w1 ⟨rfl, rfl⟩; first | rw [HP3.out] | rw [HP4.out] | rw [HP5.out] | rw [HP6.out])
                go_meet
                case rel => exact ⟨⟨_, rfl, by rw [Hid, Sq.cL, G3.out]; rfl⟩, rfl⟩
              | true =>
                cases sd with
                | false =>
                  go_wp2_with (go_at_call 23; refine (Try.strings_HasPrefix _ _ _).mono ?_; rintro e w1 ⟨rfl, rfl⟩; first | rw [HP3.out] | rw [HP4.out] | rw [HP5.out] | rw [HP6.out])
                  go_meet
                  case rel => exact ⟨⟨_, rfl, by rw [Hid, Sq.cL, G3.out]; rfl⟩, rfl⟩
                | true =>
                  by_cases h2 : s.size - i = 2
                  · have e2 : (((s.size - i : Nat) : Int) == 2) = true := beq_iff_eq.2 (by omega)
                    have HQ : Hid (Sq.cL ⟨ps, bs, es, dq, bt, hc, true, nc, ec⟩ L = true) := by
                      rw [Hid, Sq.cL, G3.out, HLL.out, h2]; rfl
                    clear h2
                    go_wp2_with (go_at_call 23; refine (Try.strings_HasPrefix _ _ _).mono ?_; rintro e w1 ⟨rfl, rfl⟩; first | rw [HP3.out] | rw [HP4.out] | rw [HP5.out] | rw [HP6.out])
                    go_meet
                    case rel => exact ⟨⟨_, rfl, HQ⟩, rfl⟩
                  · have h3 : 2 < s.size - i := by
                      have hl := HLL.out
                      obtain ⟨t, ht⟩ := Sq.pre_split G3.out
                      rw [ht] at hl; simp at hl; omega
                    have e2 : (((s.size - i : Nat) : Int) == 2) = false := beq_eq_false_iff_ne.2 (by omega)
                    have hp2 : 2 < (s.extract i s.size).size := by rw [Lib.size_eq, Lib.extract_to_end, HLd.out, HLL.out]; exact h3
                    obtain ⟨z, hz⟩ : ∃ z, (s.extract i s.size)[2]'hp2 = z := ⟨_, rfl⟩
                    have HZ : Hid (Sq.cL ⟨ps, bs, es, dq, bt, hc, true, nc, ec⟩ L = decide (z.toNat ≤ 32)) := by
                      have hgz : L.getD 2 0 = z := by
                        have h := Lib.data_getElem? (s.extract i s.size) 2 hp2
                        rw [Lib.extract_to_end, HLd.out, hz] at h
                        rw [List.getD_eq_getElem?_getD, h]; rfl
                      rw [Hid, Sq.cL, G3.out, HLL.out, hgz]
                      have : (s.size - i == 2) = false := beq_eq_false_iff_ne.2 h2
                      simp [this]
                    clear h2
                    by_cases hz32 : z.toNat ≤ 32
                    · go_wp2_with (go_at_call 23; refine (Try.strings_HasPrefix _ _ _).mono ?_; rintro e w1 ⟨rfl, rfl⟩; first | rw [HP3.out] | rw [HP4.out] | rw [HP5.out] | rw [HP6.out])
                      go_meet
                      case rel => exact ⟨⟨_, rfl, by rw [Hid, HZ.out]; simp; omega⟩, rfl⟩
                    · go_wp2_with (go_at_call 23; refine (Try.strings_HasPrefix _ _ _).mono ?_; rintro e w1 ⟨rfl, rfl⟩; first | rw [HP3.out] | rw [HP4.out] | rw [HP5.out] | rw [HP6.out])
                      go_meet
                      case rel => exact ⟨⟨_, rfl, by rw [Hid, HZ.out]; simp; omega⟩, rfl⟩
            case rest =>
              obtain ⟨⟨bL, rfl, HC⟩, rfl⟩ := hcut
              cases bL with
              | true =>
                have HF : Hid (R = i + Sq.lineEnd L) := by rw [Hid, HR.out, Sq.skp_L N1.out N2.out HE.out HD.out (by rw [HC.out]; rfl)]
                obtain ⟨e, he⟩ : ∃ e, Lib.indexByte L 10 = e := ⟨_, rfl⟩
                have hlt := Sq.indexByte_lt L 10 (by intro h; have := HLL.out; rw [h] at this; simp at this; omega)
                have hge := Lib.indexByte_ge L 10
                rw [he] at hlt hge
                rw [HLL.out] at hlt
                have HI : Hid (Lib.indexByte (s.extract i s.size).data.toList (10 : Int).toNat.toUInt8 = e) := by rw [Hid, Lib.extract_to_end, HLd.out]; exact he
                have HG : Hid (R = i + if e < 0 then s.size - i else e.toNat) := by rw [Hid, HF.out, Sq.lineEnd, he, HLL.out]
                clear he HF
                by_cases h0 : e < 0
                · go_wp2_with (go_at_call 29; refine (Try.strings_IndexByte _ _ _).mono ?_; rintro e1 w1 ⟨rfl, rfl⟩; rw [HI.out])
                  go_ret
                  exact ⟨ret_int (by rw [HG.out, if_pos (by omega)]; omega), ((Below.refl _ _).alloc (Nat.le_refl _) _)⟩
                · go_wp2_with (go_at_call 29; refine (Try.strings_IndexByte _ _ _).mono ?_; rintro e1 w1 ⟨rfl, rfl⟩; rw [HI.out])
                  go_ret
                  exact ⟨ret_int (by rw [HG.out, if_neg (by omega)]; omega), ((Below.refl _ _).alloc (Nat.le_refl _) _)⟩

              | false =>
                go_upto_region 11 with fail
                go_cut [80] (fun v wc => (∃ b, v = .bool b ∧ Hid ((L.headD 0 == 35 && hc) = b)) ∧ wc = w.alloc (.cells #[.bool ps, .bool bs, .bool es, .bool dq, .bool bt, .bool hc, .bool sd, .bool nc, .bool ec, .map none] 32))
                case first =>
                  have B35 : Hid (((x.toNat : Int) == 35) = (x == 35)) := Sq.byte_beq x 35
                  cases e35 : ((x.toNat : Int) == 35) with
                  | true =>
                    go_wp2
                    go_meet
                    case rel => exact ⟨⟨_, rfl, by rw [Hid, Hh.out, ← B35.out, e35]; rfl⟩, rfl⟩
                  | false =>
                    go_wp2
                    go_meet
                    case rel => exact ⟨⟨_, rfl, by rw [Hid, Hh.out, ← B35.out, e35]; rfl⟩, rfl⟩
                case rest =>
                  obtain ⟨⟨bH, rfl, HH⟩, rfl⟩ := hcut
                  cases bH with
                  | true =>
                    have HF : Hid (R = i + Sq.lineEnd L) := by rw [Hid, HR.out, Sq.skp_L N1.out N2.out HE.out HD.out (by rw [HC.out]; exact HH.out)]
                    obtain ⟨e, he⟩ : ∃ e, Lib.indexByte L 10 = e := ⟨_, rfl⟩
                    have hlt := Sq.indexByte_lt L 10 (by intro h; have := HLL.out; rw [h] at this; simp at this; omega)
                    have hge := Lib.indexByte_ge L 10
                    rw [he] at hlt hge
                    rw [HLL.out] at hlt
                    have HI : Hid (Lib.indexByte (s.extract i s.size).data.toList (10 : Int).toNat.toUInt8 = e) := by rw [Hid, Lib.extract_to_end, HLd.out]; exact he
                    have HG : Hid (R = i + if e < 0 then s.size - i else e.toNat) := by rw [Hid, HF.out, Sq.lineEnd, he, HLL.out]
                    clear he HF
                    by_cases h0 : e < 0
                    · go_wp2_with (go_at_call 29; refine (Try.strings_IndexByte _ _ _).mono ?_; rintro e1 w1 ⟨rfl, rfl⟩; rw [HI.out])
                      go_ret
                      exact ⟨ret_int (by rw [HG.out, if_pos (by omega)]; omega), ((Below.refl _ _).alloc (Nat.le_refl _) _)⟩
                    · go_wp2_with (go_at_call 29; refine (Try.strings_IndexByte _ _ _).mono ?_; rintro e1 w1 ⟨rfl, rfl⟩; rw [HI.out])
                      go_ret
                      exact ⟨ret_int (by rw [HG.out, if_neg (by omega)]; omega), ((Below.refl _ _).alloc (Nat.le_refl _) _)⟩

                  | false =>
                    have HC5 : Hid ((Sq.cL ⟨ps, bs, es, dq, bt, hc, sd, nc, ec⟩ L || (L.headD 0 == 35 && hc)) = false) := by rw [Hid, HC.out]; exact HH.out
                    clear HC HH
                    go_upto_region 16 with fail
                    go_cut [114] (fun v wc => (∃ b, v = .bool b ∧ Hid (Sq.cX ⟨ps, bs, es, dq, bt, hc, sd, nc, ec⟩ L = b)) ∧ wc = w.alloc (.cells #[.bool ps, .bool bs, .bool es, .bool dq, .bool bt, .bool hc, .bool sd, .bool nc, .bool ec, .map none] 32))
                    case first =>
                      cases ec with
                      | false =>
                        go_wp2
                        go_meet
                        case rel => exact ⟨⟨_, rfl, rfl⟩, rfl⟩
                      | true =>
                        cases p4 with
                        | true =>
                          go_wp2_with (go_at_call 23; refine (Try.strings_HasPrefix _ _ _).mono ?_; rintro e w1 ⟨rfl, rfl⟩; first | rw [HP3.out] | rw [HP4.out] | rw [HP5.out] | rw [HP6.out])
                          go_meet
                          case rel => exact ⟨⟨_, rfl, by rw [Hid, Sq.cX, G4.out]; rfl⟩, rfl⟩
                        | false =>
                          go_wp2_with (go_at_call 23; refine (Try.strings_HasPrefix _ _ _).mono ?_; rintro e w1 ⟨rfl, rfl⟩; first | rw [HP3.out] | rw [HP4.out] | rw [HP5.out] | rw [HP6.out])
                          go_meet
                          case rel => exact ⟨⟨_, rfl, by rw [Hid, Sq.cX, G4.out, G5.out]; rfl⟩, rfl⟩
                    case rest =>
                      obtain ⟨⟨bX, rfl, HX⟩, rfl⟩ := hcut
                      cases bX with
                      | true =>
                        obtain ⟨e, he, he0, heb⟩ : ∃ e : Nat, Lib.indexByte L 33 = (e : Int) ∧ 2 ≤ e ∧ i + e + 1 ≤ s.size := by
                          have h := HX.out
                          rw [Sq.cX, G4.out, G5.out] at h
                          have hl := HLL.out
                          cases p4 with
                          | true =>
                            obtain ⟨a, b⟩ := Sq.index_x3 G4.out
                            exact ⟨2, a, by omega, by omega⟩
                          | false =>
                            cases p5 with
                            | true =>
                              obtain ⟨a, b⟩ := Sq.index_x4 G5.out
                              exact ⟨3, a, by omega, by omega⟩
                            | false => simp at h
                        have HI : Hid (Lib.indexByte (s.extract i s.size).data.toList (33 : Int).toNat.toUInt8 = (e : Int)) := by rw [Hid, Lib.extract_to_end, HLd.out]; exact he
                        have HF : Hid (R = Sq.runAt Sq.isDig s.data.toList (i + e + 1)) := by
                          rw [Hid, HR.out, Sq.skp_X N1.out N2.out HE.out HD.out HC5.out HX.out, he, Int.toNat_natCast, ← HLd.out, Sq.runAt_drop, Nat.add_assoc]
                        have HL : Hid (s.data.toList.length = s.size) := (Lib.size_eq s).symm
                        clear he
                        go_wp2_with (go_at_call 29; refine (Try.strings_IndexByte _ _ _).mono ?_; rintro e1 w1 ⟨rfl, rfl⟩; rw [HI.out])
                        go_loop [9] (fun a => ∃ k : Nat, k ≤ s.size ∧ a = .int .i64 k ∧ Hid (R = Sq.runAt Sq.isDig s.data.toList k)) (fun a => s.size - (intOf a).toNat)
                        case atStart => exact ⟨i + e + 1, heb, by go_num, HF⟩
                        case round =>
                          obtain ⟨k, hk, rfl, HK⟩ := hrel
                          by_cases hlt : k < s.size
                          · obtain ⟨y, hy⟩ : ∃ y : UInt8, s[k]'hlt = y := ⟨_, rfl⟩
                            have Hy : Hid (s.data.toList[k]? = some y) := by rw [← hy]; exact Lib.data_getElem? s k hlt
                            cases hd : Sq.isDig y with
                            | true =>
                              have HN : Hid (R = Sq.runAt Sq.isDig s.data.toList (k + 1)) := by rw [Hid, HK.out, Sq.runAt_yes Hy.out hd]
                              go_wp2_with (go_at_call 30; refine (isDigit_any y _).mono ?_; rintro e1 w1 ⟨rfl, rfl⟩; rw [hd])
                              go_round
                              case rel => exact ⟨k + 1, by omega, by go_num, HN⟩
                              case measure => simp [intOf]; omega
                            | false =>
                              have HN : Hid (R = k) := by rw [Hid, HK.out, Sq.runAt_no Hy.out hd]
                              go_wp2_with (go_at_call 30; refine (isDigit_any y _).mono ?_; rintro e1 w1 ⟨rfl, rfl⟩; rw [hd])
                              go_ret
                              exact ⟨ret_int (by rw [HN.out]), ((Below.refl _ _).alloc (Nat.le_refl _) _)⟩
                          · have HN : Hid (R = k) := by rw [Hid, HK.out, Sq.runAt_end (by rw [HL.out]; omega)]
                            go_wp2
                            go_ret
                            exact ⟨ret_int (by rw [HN.out]), ((Below.refl _ _).alloc (Nat.le_refl _) _)⟩
                      | false =>
                        cases p6 with
                        | true =>
                          obtain ⟨t, ht⟩ := Sq.pre_split G6.out
                          have h2 : i + 1 < s.size := by
                            have hl := HLL.out
                            rw [ht] at hl; simp at hl; omega
                          have hA : s[i] = 47 := by
                            have h := Lib.data_getElem? s i hi
                            have h' := List.getElem?_drop (xs := s.data.toList) (i := i) (j := 0)
                            rw [HLd.out, ht, Nat.add_zero, h] at h'
                            simpa using h'.symm
                          have hB : s[i + 1] = 42 := by
                            have h := Lib.data_getElem? s (i + 1) h2
                            have h' := List.getElem?_drop (xs := s.data.toList) (i := i) (j := 1)
                            rw [HLd.out, ht, h] at h'
                            simpa using h'.symm
                          have HA : Hid (s[i] = 47) := hA
                          have HB : Hid (s[i + 1] = 42) := hB
                          have HF : Hid (R = Sq.comAt s.data.toList nc 1 (i + 2)) := by
                            rw [Hid, HR.out, Sq.skp_C N1.out N2.out HE.out HD.out HC5.out HX.out G6.out, ← HLd.out, List.drop_drop]
                            show i + (2 + Sq.com nc 1 (s.data.toList.drop (i + 2))) = i + 2 + Sq.com nc 1 (s.data.toList.drop (i + 2))
                            omega
                          clear ht hA hB
                          go_wp2_with (first
                            | (go_at_call 23; refine (Try.strings_HasPrefix _ _ _).mono ?_; rintro e w1 ⟨rfl, rfl⟩; first | rw [HP3.out] | rw [HP4.out] | rw [HP5.out] | rw [HP6.out])
                            | (go_at_call 31; refine (commentEnd_any _ _ _ _ hs h2 HA.out HB.out).mono ?_; rintro e1 w1 ⟨rfl, rfl⟩))
                          go_ret
                          exact ⟨ret_int (by rw [HF.out]), ((Below.refl _ _).alloc (Nat.le_refl _) _)⟩
                        | false =>
                          have HF : Hid (R = i) := by
                            rw [Hid, HR.out, Sq.skp_0 N1.out N2.out HE.out HD.out HC5.out HX.out G6.out]; rfl
                          go_wp2_with (go_at_call 23; refine (Try.strings_HasPrefix _ _ _).mono ?_; rintro e w1 ⟨rfl, rfl⟩; first | rw [HP3.out] | rw [HP4.out] | rw [HP5.out] | rw [HP6.out])
                          go_ret
                          exact ⟨ret_int (by rw [HF.out]), ((Below.refl _ _).alloc (Nat.le_refl _) _)⟩
end Go.Proofs.Qxb6603812a
