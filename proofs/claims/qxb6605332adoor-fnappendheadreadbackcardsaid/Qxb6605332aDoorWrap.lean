import Derived.Test.Qxb6605332aDoorBytes
namespace Go.Proofs.Qxb6605332aDoor
open Go.RowKit

theorem zzAppendHead_any (w : World) (v dv hv : Value) (ba : Option Addr) (b0 date : List UInt8) (hs : List (ByteArray × ByteArray)) (rb bl bc : Nat) (st : Int) (ct : ByteArray) (http10 opn : Bool)
    (hlo : -9223372036854775808 ≤ st) (hhi : st ≤ 9223372036854775807)
    (ht : Tight w v b0) (hdate : BytesAt w dv date) (hfl : FieldsAt w hv hs) (hrb : rb < w.heap.size)
    (r0 : w.cell? ⟨rb, 0, none⟩ = some (.int .i64 st)) (r1 : w.cell? ⟨rb, 1, none⟩ = some (.string ct)) (r2 : w.cell? ⟨rb, 2, none⟩ = some hv) (r3 : w.cell? ⟨rb, 3, none⟩ = some (.slice ba bl bc))
    (z0 : b0.length ≤ 1048576) (z1 : ct.size ≤ 1048576) (z2 : date.length ≤ 1048576) (z3 : bl ≤ 1048576) (z4 : (hs.map fun p => p.1.size + p.2.size + 4).sum ≤ 4194304)
    (htab : Lib.TabBelow Tryd.prog w.heap.size w "internal/strconv.uint64pow10" .u64 Lib.pow10Tab) :
    Calls Tryd.prog 13 #[v, .pointer (some ⟨rb, 0, none⟩), .bool http10, .bool opn, dv] w fun e w' => ∃ v', e = .returned v' ∧ St w w.heap.size w' v' (b0 ++ Hd.head http10 opn st ct.data.toList bl date (hs.map fun p => (p.1.data.toList, p.2.data.toList))) := by
  go_enter Tryd.func13, Tryd.ntmps13
  go_wp2_with fail
  refine (appendHead_any w v dv hv ba b0 date hs rb bl bc st ct http10 opn hlo hhi ht hdate hfl hrb r0 r1 r2 r3 z0 z1 z2 z3 z4 htab).mono ?_
  rintro e w2 ⟨v2, rfl, hst2⟩
  go_wp2
  go_ret
  exact ⟨_, rfl, hst2⟩

theorem zzHeadEnd_any (w : World) (g cap fb f0 : Nat) (L : List UInt8) (l0 : List UInt8) (ls0 : List (List UInt8)) (hL : L.length ≤ 100000000) (hcap : L.length ≤ cap) (hcap2 : cap ≤ maxLen) (hg : g < fb) (hfz : fb < w.heap.size)
    (hby : ∀ i, i < L.length → w.cell? ⟨g, i, none⟩ = some (.int .u8 ((L.getD i 0).toNat : Int)))
    (hf : w.cell? ⟨fb, 0, none⟩ = some (.int .i64 f0)) (hfr : w.frozen? ⟨fb, 0, none⟩ = false)
    (hd : L.drop f0 = Hd.enc l0 ls0) (hn0 : Hd.noLF l0 = true) (hgd : Hd.Good ls0) :
    Calls Tryd.prog 14 #[.slice (some ⟨g, 0, none⟩) L.length cap, .pointer (some ⟨fb, 0, none⟩)] w fun e w' =>
      e = .returned (.tuple #[.int .i64 L.length, .bool true]) ∧ w'.cell? ⟨fb, 0, none⟩ = some (.int .i64 ((L.length - 4 - (Hd.lastOf l0 ls0).length : Nat) : Int)) ∧ Below fb w w' := by
  go_enter Tryd.func14, Tryd.ntmps14
  go_wp2_with fail
  refine (headEnd_any w g cap fb f0 L l0 ls0 hL hcap hcap2 hg hfz hby hf hfr hd hn0 hgd).mono ?_
  rintro e w2 ⟨rfl, hc2, hb2⟩
  go_wp2
  go_ret2
  exact ⟨rfl, hc2, hb2⟩
end Go.Proofs.Qxb6605332aDoor
