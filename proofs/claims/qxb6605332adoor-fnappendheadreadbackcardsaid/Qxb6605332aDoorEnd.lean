import Derived.Test.Qxb6605332aDoorApp
namespace Go.Proofs.Qxb6605332aDoor
open Go.RowKit

/-- bytes.IndexByte in the rest of a row. -/
theorem indexByte_rest (w : World) (g f n c : Nat) (L : List UInt8) (hn : (L.drop f).length = n) (hby : ∀ i, i < L.length → w.cell? ⟨g, i, none⟩ = some (.int .u8 ((L.getD i 0).toNat : Int))) :
    Calls Tryd.prog 20 #[.slice (some ⟨g, f, none⟩) n c, .int .u8 10] w fun e w' => e = .returned (.int .i64 (Lib.indexByte (L.drop f) 10)) ∧ w' = w := by
  have h := Tryd.bytes_IndexByte_bytes g f c ⟨(L.drop f).toArray⟩ 10 w (by
    intro i hi
    have hi' : i < (L.drop f).length := hi
    rw [List.length_drop] at hi'
    rw [hby (f + i) (by omega)]
    have : (L.getD (f + i) 0) = (⟨(L.drop f).toArray⟩ : ByteArray)[i] := by
      show _ = (L.drop f)[i]'(by rw [List.length_drop]; exact hi')
      rw [List.getElem_drop, List.getD_eq_getElem?_getD, List.getElem?_eq_getElem (by omega)]; rfl
    rw [this])
  have e : (⟨(L.drop f).toArray⟩ : ByteArray).size = n := hn
  rw [e] at h
  exact h

theorem ret_ib {k : IntKind} {a b : Int} {c : Bool} (h : a = b) : Ending.returned (.tuple #[.int k a, .bool c]) = .returned (.tuple #[.int k b, .bool c]) := by rw [h]

set_option maxHeartbeats 1000000 in
set_option maxRecDepth 100000 in
theorem headEnd_any (w : World) (g cap fb f0 : Nat) (L : List UInt8) (l0 : List UInt8) (ls0 : List (List UInt8)) (_hL : L.length ≤ 100000000) (hcap : L.length ≤ cap) (hcap2 : cap ≤ maxLen) (hg : g < fb) (_hfz : fb < w.heap.size)
    (hby : ∀ i, i < L.length → w.cell? ⟨g, i, none⟩ = some (.int .u8 ((L.getD i 0).toNat : Int)))
    (hf : w.cell? ⟨fb, 0, none⟩ = some (.int .i64 f0)) (hfr : w.frozen? ⟨fb, 0, none⟩ = false)
    (hd : L.drop f0 = Hd.enc l0 ls0) (hn0 : Hd.noLF l0 = true) (hgd : Hd.Good ls0) :
    Calls Tryd.prog 17 #[.slice (some ⟨g, 0, none⟩) L.length cap, .pointer (some ⟨fb, 0, none⟩)] w fun e w' =>
      e = .returned (.tuple #[.int .i64 L.length, .bool true]) ∧ w'.cell? ⟨fb, 0, none⟩ = some (.int .i64 ((L.length - 4 - (Hd.lastOf l0 ls0).length : Nat) : Int)) ∧ Below fb w w' := by
  unfold maxLen at hcap2
  have HBY : Hid (∀ i, i < L.length → w.cell? ⟨g, i, none⟩ = some (.int .u8 ((L.getD i 0).toNat : Int))) := hby
  have HD : Hid (L.drop f0 = Hd.enc l0 ls0) := hd
  have HG : Hid (Hd.Good ls0) := hgd
  have HN : Hid (Hd.noLF l0 = true) := hn0
  clear hby hd hgd hn0
  go_enter Tryd.func17, Tryd.ntmps17
  go_wp2
  go_loopg [] ls0.length (fun gk wx => ∃ (f : Nat) (l : List UInt8) (ls : List (List UInt8)), wx.cell? ⟨fb, 0, none⟩ = some (.int .i64 f) ∧ wx.frozen? ⟨fb, 0, none⟩ = false ∧ Hid (Below fb w wx) ∧ Hid (L.drop f = Hd.enc l ls) ∧ Hid (Hd.noLF l = true) ∧ Hid (Hd.Good ls) ∧ Hid (Hd.lastOf l ls = Hd.lastOf l0 ls0) ∧ Hid (ls.length = gk))
  case atStart => exact ⟨f0, l0, ls0, hf, hfr, Below.refl _ _, HD, HN, HG, rfl, rfl⟩
  case round =>
    obtain ⟨f, l, ls, hcf, hff, HB, HDf, HNl, HGl, HLs, HGk⟩ := hrel
    clear hf hfr
    have HLn : Hid (f + (Hd.enc l ls).length = L.length ∧ l.length + 4 ≤ (Hd.enc l ls).length) := by
      have h := congrArg List.length HDf.out
      rw [List.length_drop] at h
      have h2 : l.length + 4 ≤ (Hd.enc l ls).length := by unfold Hd.enc; simp
      exact ⟨by omega, h2⟩
    have h1 := HLn.out.1
    have h2 := HLn.out.2
    have hfl : f + l.length + 4 ≤ L.length := by omega
    clear h1 h2
    have HI : Hid (Lib.indexByte (L.drop f) 10 = ((l.length + 1 : Nat) : Int)) := by rw [Hid, HDf.out]; exact Hd.index_enc l ls HNl.out
    have HC : Hid (∀ i, i < L.length → wr.cell? ⟨g, i, none⟩ = some (.int .u8 ((L.getD i 0).toNat : Int))) := fun i hi => by
      rw [HB.out.cell (p := ⟨g, i, none⟩) hg]; exact HBY.out i hi
    have HN1 : Hid ((L.drop f).length = L.length - f) := by rw [Hid, List.length_drop]
    go_wp2_with fail
    refine (indexByte_rest wr g f _ _ L HN1.out HC.out).mono ?_
    rintro e w1 ⟨rfl, rfl⟩
    rw [HI.out]
    have HQ : Hid (L.drop (l.length + 1 + f + 1) = (Hd.enc l ls).drop (l.length + 2)) := by
      rw [Hid, ← HDf.out, List.drop_drop, show f + (l.length + 2) = l.length + 1 + f + 1 from by omega]
    have key : ∀ a b t, (Hd.enc l ls).drop (l.length + 2) = a :: b :: t → w1.cell? ⟨g, l.length + 1 + f + 1, none⟩ = some (.int .u8 (a.toNat : Int)) ∧ w1.cell? ⟨g, l.length + 1 + f + 1 + 1, none⟩ = some (.int .u8 (b.toNat : Int)) := fun a b t h => by
      have h' := HQ.out
      rw [h] at h'
      have ha : L.getD (l.length + 1 + f + 1) 0 = a := by
        have := List.getElem?_drop (xs := L) (i := l.length + 1 + f + 1) (j := 0)
        rw [h'] at this
        rw [List.getD_eq_getElem?_getD, ← Nat.add_zero (l.length + 1 + f + 1), ← this]; rfl
      have hb : L.getD (l.length + 1 + f + 1 + 1) 0 = b := by
        have := List.getElem?_drop (xs := L) (i := l.length + 1 + f + 1) (j := 1)
        rw [h'] at this
        rw [List.getD_eq_getElem?_getD, ← this]; rfl
      exact ⟨by rw [HC.out _ (by omega), ha], by rw [HC.out _ (by omega), hb]⟩
    cases ls with
    | nil =>
      obtain ⟨k0, k1⟩ := key 13 10 [] (Hd.enc_drop_last l)
      have hlen : L.length = f + l.length + 4 := by have := HLn.out.1; rw [Hd.enc_length_last] at this; omega
      have HLEN : Hid (L.length = f + l.length + 4) := hlen
      have hlen1 : L.length - (l.length + 1 + f + 1) = 2 := by omega
      have HLS : Hid (Hd.lastOf l0 ls0 = l) := by rw [Hid, ← HLs.out]; rfl
      clear key hlen
      go_wp2
      go_ret2
      refine ⟨?_, ?_, HB.out⟩
      · have := HLEN.out
        exact ret_ib (by omega)
      · rw [hcf, HLS.out, HLEN.out, show f + l.length + 4 - 4 - l.length = f from by omega]
    | cons m ls' =>
      have hmg := HGl.out m (List.mem_cons_self ..)
      obtain ⟨a, b, t, hab, hna, hnb⟩ := Hd.enc_head (ls := ls') hmg.1 hmg.2
      obtain ⟨k0, k1⟩ := key a b t (by rw [Hd.enc_drop]; exact hab)
      have hlen2 : 2 ≤ L.length - (l.length + 1 + f + 1) := by
        have h := congrArg List.length HQ.out
        rw [List.length_drop, Hd.enc_drop, hab] at h
        simp at h; omega
      have ea : ((a.toNat : Int) == 10) = false := beq_eq_false_iff_ne.2 fun h => hna (UInt8.toNat_inj.1 (by show a.toNat = 10; omega))
      have eb : ((b.toNat : Int) == 10) = false := beq_eq_false_iff_ne.2 fun h => hnb (UInt8.toNat_inj.1 (by show b.toNat = 10; omega))
      have HNX : Hid (L.drop (l.length + 1 + f + 1) = Hd.enc m ls') := by rw [Hid, HQ.out, Hd.enc_drop]
      have HLS : Hid (Hd.lastOf m ls' = Hd.lastOf l0 ls0) := by rw [Hid, ← HLs.out]; rfl
      have HGL : Hid (Hd.Good ls') := fun x hx => HGl.out x (List.mem_cons_of_mem _ hx)
      have HGM : Hid (Hd.noLF m = true) := hmg.1
      have e0 : (((L.length - (l.length + 1 + f + 1) : Nat) : Int) == 0) = false := beq_eq_false_iff_ne.2 (by omega)
      have e1 : (((L.length - (l.length + 1 + f + 1) : Nat) : Int) == 1) = false := beq_eq_false_iff_ne.2 (by omega)
      have HGK : Hid (ls'.length < gk) := by have := HGk.out; rw [List.length_cons] at this; show ls'.length < gk; omega
      clear key hmg hab hna hnb
      cases e13 : ((a.toNat : Int) == 13) with
      | true =>
        go_wp2
        go_roundg ls'.length
        case measure => exact HGK.out
        case rel => exact ⟨l.length + 1 + f + 1, m, ls', by first | (simp; done) | (rw [World.cell?_setCell_same]; go_num; case h => exact hcf), by simp [hff], HB.out.setCell (Nat.le_refl _) _, HNX, HGM, HGL, HLS, rfl⟩
      | false =>
        go_wp2
        go_roundg ls'.length
        case measure => exact HGK.out
        case rel => exact ⟨l.length + 1 + f + 1, m, ls', by first | (simp; done) | (rw [World.cell?_setCell_same]; go_num; case h => exact hcf), by simp [hff], HB.out.setCell (Nat.le_refl _) _, HNX, HGM, HGL, HLS, rfl⟩
end Go.Proofs.Qxb6605332aDoor
