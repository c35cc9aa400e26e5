import Derived.Test.Qxb6612281aFmtB
import Derived.Shelf.Bytes.SlCountOne
import Derived.Laws.RangeAny
import Derived.Laws.BytesArg
import Derived.Lib.RuneCount
namespace Go.Proofs.Qxb6612281aFmt
open Go.RowKit
set_option linter.unusedVariables false

theorem _root_.Go.Below.onto {a w w' : World} (h : Below a.heap.size a w) (k : Below w.heap.size w w') : Below a.heap.size a w' := h.trans (k.mono h.size)

/-- A number; nothing that was there has turned. -/
def NumPost (w : World) (e : Ending) (w' : World) : Prop := ∃ r : Int, e = .returned (.int .i64 r) ∧ 0 ≤ r ∧ r ≤ 1048576 ∧ Below w.heap.size w w'
/-- A number of at most m. -/
def UptoPost (m : Nat) (w : World) (e : Ending) (w' : World) : Prop := ∃ r : Nat, e = .returned (.int .i64 r) ∧ r ≤ m ∧ Below w.heap.size w w'

/-- Src bytes lie in block H. -/
def Lies (w : World) (H n : Nat) (bs : List Int) : Prop := bs.length = n ∧ ∀ i, i < n → w.cell? ⟨H, i, none⟩ = some (.int .u8 (bs.getD i 0))

theorem Lies.later {w wx : World} {H n : Nat} {bs : List Int} (h : Lies w H n bs) (hb : Below w.heap.size w wx) : Lies wx H n bs := ⟨h.1, fun i hi => cell_later hb (h.2 i hi)⟩

set_option maxHeartbeats 1000000 in
set_option maxRecDepth 100000 in
theorem runesIn_any (s : ByteArray) (w : World) (hs : s.size ≤ 1048576) : Calls Tryf.prog 24 #[.string s] w (UptoPost s.size w) := by
  go_enter Tryf.func24, Tryf.ntmps24
  go_wp2
  go_loopw [2] (fun n w' => ∃ (pos acc : Nat), w' = w.iter s pos ∧ n = .int .i64 acc ∧ acc ≤ pos ∧ acc ≤ s.size) (fun _ w' => s.size - w'.iterPos w.heap.size)
  case atStart => exact ⟨0, 0, rfl, rfl, Nat.le_refl _, Nat.zero_le _⟩
  case round =>
    obtain ⟨pos, acc, rfl, rfl, ha, hb⟩ := hrel
    by_cases hp : pos < s.size
    · have hnx : ∀ ty, (Instr.next (.pointer (some ⟨w.heap.size, 0, none⟩)) true ty).run Tryf.prog (w.iter s pos) = _ := fun ty => run_next_any w s pos ty hp
      have hwd := Lib.decode_width_pos s pos hp
      go_wp2
      go_roundw
      case rel => exact ⟨pos + (Utf8.decode s pos).2, acc + 1, rfl, by go_num, by omega, by omega⟩
      case measure =>
        simp
        omega
    · have hnx : ∀ ty, (Instr.next (.pointer (some ⟨w.heap.size, 0, none⟩)) true ty).run Tryf.prog (w.iter s pos) = _ := fun ty => run_next_end w s pos ty hp
      go_wp2
      go_ret
      exact ⟨acc, rfl, by omega, (Below.refl _ w).alloc (Nat.le_refl _) _⟩

theorem bytes_part {w : World} {H n : Nat} {bs : List Int} (h : Lies w H n bs) (l m : Nat) (hl : l + m ≤ n) : ((bs.drop l).take m).length = m ∧ ∀ i, i < m → w.cell? ⟨H, l + i, none⟩ = some (.int .u8 (((bs.drop l).take m).getD i 0)) := by
  have h1 := h.1
  refine ⟨by rw [List.length_take, List.length_drop]; omega, fun i hi => ?_⟩
  rw [h.2 (l + i) (by omega)]
  simp only [List.getD_eq_getElem?_getD, List.getElem?_take_of_lt hi, List.getElem?_drop]

set_option maxHeartbeats 1000000 in
set_option maxRecDepth 100000 in
theorem runes_some (w : World) (H n ls o c : Nat) (bs : List Int) (h : Lies w H n bs) (hl : ls + o ≤ n) (hn : n ≤ 1048576) (hoc : o ≤ c) :
    Calls Tryf.prog 20 #[.slice (some ⟨H, ls, none⟩) o c] w (NumPost w) := by
  have HL : Hid (Lies w H n bs) := h
  clear h
  go_enter Tryf.func20, Tryf.ntmps20
  go_wp2
  go_loop [4] (fun a => ∃ k : Nat, k ≤ o ∧ a = .int .i64 k) (fun a => o - (intOf a).toNat)
  case atStart => exact ⟨0, Nat.zero_le _, rfl⟩
  case round =>
    obtain ⟨k, hk, rfl⟩ := hrel
    by_cases hlt : k < o
    · obtain ⟨x, hx⟩ : ∃ x, bs.getD (ls + k) 0 = x := ⟨_, rfl⟩
      have hc := HL.out.2 (ls + k) (by omega)
      rw [hx] at hc
      have h1 : (k : Int) < (o : Int) := by omega
      clear hx
      by_cases hb : x ≥ 128
      · have hp := bytes_part HL.out (ls + k) (o - k) (by omega)
        have hcv : ∀ c, (convert 22 9 (.slice (some ⟨H, ls + k, none⟩) (o - k) c)).run Tryf.prog w = .ok (.string (strOfNums ((bs.drop (ls + k)).take (o - k)))) w := fun c => 
          run_convert_bytes_arg (P := Tryf.prog) w 22 5 Tryf.underlying22 Tryf.underlying5 H (ls + k) (o - k) c _ hp.1 hp.2 9 Tryf.underlying9
        have hsz : (strOfNums ((bs.drop (ls + k)).take (o - k))).size = o - k := by rw [strOfNums_size]; exact hp.1
        obtain ⟨t, ht⟩ : ∃ t, strOfNums ((bs.drop (ls + k)).take (o - k)) = t := ⟨_, rfl⟩
        rw [ht] at hcv hsz
        clear hp ht
        have hnc : ¬ c = k := by omega
        go_wp2_with (go_at_call 24; refine (runesIn_any t _ (by omega)).mono ?_; rintro e w2 ⟨r, rfl, hr, hB⟩)
        go_ret
        exact ⟨(k : Int) + r, rfl, by omega, by omega, hB⟩
      · go_wp2
        go_round
        case rel => exact ⟨k + 1, by omega, by go_num⟩
        case measure => simp [intOf]; omega
    · have h1 : ¬ (k : Int) < (o : Int) := by omega
      go_wp2
      go_ret
      exact ⟨k, rfl, by omega, by omega, Below.refl _ _⟩

set_option maxHeartbeats 1000000 in
set_option maxRecDepth 100000 in
theorem runes_nil (w : World) : Calls Tryf.prog 20 #[.slice none 0 0] w (NumPost w) := by
  go_enter Tryf.func20, Tryf.ntmps20
  go_wp2
  refine wp_loop_rounds 1 ?_
  rw [rounds_succ]
  go_wp2
  go_ret
  exact ⟨0, rfl, by omega, by omega, Below.refl _ _⟩

theorem countByte_le (l : List UInt8) (c : UInt8) : Lib.countByte l c ≤ l.length := by
  unfold Lib.countByte
  exact List.count_le_length

set_option maxHeartbeats 1000000 in
set_option maxRecDepth 100000 in
theorem count_some (w : World) (H n ls b2 : Nat) (bs : List Int) (h : Lies w H n bs) (hl : ls ≤ n) (hn : n ≤ 1048576) (hc : w.cell? ⟨b2, 0, none⟩ = some (.int .u8 10)) :
    Calls Tryf.prog 19 #[.slice (some ⟨H, 0, none⟩) ls n, .slice (some ⟨b2, 0, none⟩) 1 1] w (NumPost w) := by
  have hp := bytes_part h 0 ls (by omega)
  have hct := Lib.run_countSlice (P := Tryf.prog) w H 0 ls n _ hp.1 hp.2 10
  have hle := countByte_le (Lib.bytesOf ((bs.drop 0).take ls)) (10 : Int).toNat.toUInt8
  have hbl : (Lib.bytesOf ((bs.drop 0).take ls)).length = ls := by unfold Lib.bytesOf; rw [List.length_map]; exact hp.1
  obtain ⟨r, hr⟩ : ∃ r, Lib.countByte (Lib.bytesOf ((bs.drop 0).take ls)) (10 : Int).toNat.toUInt8 = r := ⟨_, rfl⟩
  rw [hr] at hct hle
  clear hp hr h
  have hcall : ∀ (args : Array Value), (callFunc 22 args).run Tryf.prog w = ((Extern.BytealgCount.count args).run Tryf.prog w).andThen fun v w' => .ok (.value v) w' := fun args =>
    run_callFunc_extern Tryf.func22 (by kernel_rfl) (by kernel_rfl) (by kernel_rfl) (by kernel_rfl) args w
  go_enter Tryf.func19, Tryf.ntmps19
  go_wp2
  go_ret
  exact ⟨r, rfl, by omega, by omega, Below.refl _ _⟩

set_option maxHeartbeats 1000000 in
set_option maxRecDepth 100000 in
theorem count_nil (w : World) (b2 : Nat) (hc : w.cell? ⟨b2, 0, none⟩ = some (.int .u8 10)) :
    Calls Tryf.prog 19 #[.slice none 0 0, .slice (some ⟨b2, 0, none⟩) 1 1] w (NumPost w) := by
  have hct := Lib.run_countNil (P := Tryf.prog) w 0 0 10
  have hcall : ∀ (args : Array Value), (callFunc 22 args).run Tryf.prog w = ((Extern.BytealgCount.count args).run Tryf.prog w).andThen fun v w' => .ok (.value v) w' := fun args =>
    run_callFunc_extern Tryf.func22 (by kernel_rfl) (by kernel_rfl) (by kernel_rfl) (by kernel_rfl) args w
  go_enter Tryf.func19, Tryf.ntmps19
  go_wp2
  go_ret
  exact ⟨0, rfl, by omega, by omega, Below.refl _ _⟩
end Go.Proofs.Qxb6612281aFmt
