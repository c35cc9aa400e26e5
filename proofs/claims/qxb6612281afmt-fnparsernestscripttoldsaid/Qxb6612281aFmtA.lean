import Derived.Test.Qxb6612281aFmtFacts
import Derived.WalkKit
import Derived.WalkSpells
import Derived.WalkLawsBesides
import Derived.Deep.OwnRows
import Derived.Laws.CopyRow
import Derived.Laws.CopyOwn
namespace Go.Proofs.Qxb6612281aFmt
open Go.RowKit
set_option linter.unusedVariables false

theorem info5 : (Tryf.prog.info? 5).map (fun i => (i.zero, i.size, i.bytes)) = some (some (.int .u8 0), 1, 1) := by kernel_rfl
theorem size5 : (Tryf.prog.info? 5).map (·.size) = some 1 := by kernel_rfl

/-- A slice of n bytes that came in. -/
def InB (w : World) (v : Value) (n : Nat) : Prop :=
  (v = .slice none 0 0 ∧ n = 0) ∨ ∃ x cap, ∃ bs : List Int, v = .slice (some x) n cap ∧ n ≤ cap ∧ bs.length = n ∧ ∀ i, i < n → w.cell? (x.add i) = some (.int .u8 (bs.getD i 0))

/-- A slice of n bytes of the call's own. -/
def Cl (w : World) (v : Value) (n : Nat) : Prop :=
  (v = .slice none 0 0 ∧ n = 0) ∨ ∃ H, ∃ bs : List Int, v = .slice (some ⟨H, 0, none⟩) n n ∧ H < w.heap.size ∧ bs.length = n ∧ ∀ i, i < n → w.cell? ⟨H, i, none⟩ = some (.int .u8 (bs.getD i 0))

set_option maxHeartbeats 1000000 in
set_option maxRecDepth 100000 in
theorem clone_any (w : World) (v : Value) (n : Nat) (hin : InB w v n) (hlen : n ≤ 1048576) :
    Calls Tryf.prog 6 #[v] w fun e w' => ∃ v', e = .returned v' ∧ Cl w' v' n ∧ Below w.heap.size w w' := by
  have hnil := fun (wx : World) (a : Option Addr) (n c : Nat) => Lib.run_eql_slice_nil (P := Tryf.prog) wx 22 5 a n c 0 0 Tryf.underlying22
  rcases hin with ⟨rfl, rfl⟩ | ⟨x, cap, bs, rfl, hcl, hbl, hby⟩
  · go_enter Tryf.func6, Tryf.ntmps6
    go_wp2
    go_ret
    exact ⟨_, rfl, .inl ⟨rfl, rfl⟩, Below.refl _ _⟩
  · have hmk := fun wx : World => run_make_row' 22 5 (.int .u8 0) 1 Tryf.underlying22 info5 rfl .i64 .i64 n (by omega) (by omega) wx
    have hsrc : ∀ (o : Obj) j v, (bs.map (Value.int .u8))[j]? = some v → (w.alloc o).cell? (x.add j) = some v := by
      intro o j v hj
      rw [List.getElem?_map] at hj
      obtain ⟨z, hz, rfl⟩ := Option.map_eq_some_iff.1 hj
      have hjl := (List.getElem?_eq_some_iff.1 hz).1
      refine cell_later ((Below.refl _ w).alloc (Nat.le_refl _) o) ?_
      rw [hby j (by omega), List.getD_eq_getElem?_getD, hz]; rfl
    have hcp := run_copy_row (P := Tryf.prog) (w.alloc (.cells (madeCells #[.int .u8 0] n) 5)) 22 22 3 5 w.heap.size 0 n n x n cap (madeCells #[.int .u8 0] n) 5 (bs.map (Value.int .u8))
      Tryf.underlying22 size5 (heap_alloc_new w _) (by rw [List.length_map, hbl]; exact (Nat.min_self n).symm) (hsrc _) (by rw [size_madeCells, List.length_map, hbl]; simp) (by intro v hv; obtain ⟨_, _, rfl⟩ := List.mem_map.1 hv; rfl)
    clear hsrc hby
    go_enter Tryf.func6, Tryf.ntmps6
    go_wp2
    go_ret
    have hg := setRow_heap (w.alloc (.cells (madeCells #[.int .u8 0] n) 5)) w.heap.size _ (bs.map (Value.int .u8) ++ List.drop n (madeCells #[.int .u8 0] n).toList).toArray 5 (0, 0) (heap_alloc_new w _)
    refine ⟨_, rfl, .inr ⟨w.heap.size, bs, rfl, (Array.getElem?_eq_some_iff.1 hg).1, hbl, fun i hi => ?_⟩, below_setRow ((Below.refl _ w).alloc (Nat.le_refl _) _) (Nat.le_refl _) _⟩
    have hi' : i < bs.length := by omega
    have h1 : (bs.map (Value.int .u8) ++ List.drop n (madeCells #[.int .u8 0] n).toList).toArray[i]? = some (.int .u8 (bs.getD i 0)) := by
      rw [List.getElem?_toArray, List.getElem?_append_left (by rw [List.length_map]; exact hi'), List.getElem?_map, List.getElem?_eq_getElem hi', List.getD_eq_getElem?_getD, List.getElem?_eq_getElem hi']; rfl
    simp only [World.cell?, hg]
    simpa using h1

/-- A zero token's cells. -/
abbrev parCells (src : Value) (k st en : Int) (val : ByteArray) (d : Int) : Array Value :=
  #[src, .pointer none, .int .u8 k, .int .i64 st, .int .i64 en, .string val, .int .u8 0, .int .i64 0, .int .i64 0, .string ⟨#[]⟩, .int .u8 0, .int .i64 0, .int .i64 0, .string ⟨#[]⟩, .int .i64 0, .int .i64 0, .nilIface, .int .i64 d, .bool false]

/-- The parser lies in block b. -/
def Par (w : World) (b : Nat) (src : Value) (k st en : Int) (val : ByteArray) (d : Int) : Prop := w.heap[b]? = some (.cells (parCells src k st en val d) 39)

theorem Par.cell {w : World} {b : Nat} {src : Value} {k st en : Int} {val : ByteArray} {d : Int} (h : Par w b src k st en val d) (j : Nat) {v : Value} (hv : (parCells src k st en val d)[j]? = some v) : w.cell? ⟨b, j, none⟩ = some v := by
  have h' : w.heap[b]? = some (.cells (parCells src k st en val d) 39) := h
  simp only [World.cell?, h']
  simpa using hv
theorem Par.frozen {w : World} {b : Nat} {src : Value} {k st en : Int} {val : ByteArray} {d : Int} (h : Par w b src k st en val d) (j : Nat) : w.frozen? ⟨b, j, none⟩ = false := by
  have h' : w.heap[b]? = some (.cells (parCells src k st en val d) 39) := h
  simp [World.frozen?, h']
theorem Par.lt {w : World} {b : Nat} {src : Value} {k st en : Int} {val : ByteArray} {d : Int} (h : Par w b src k st en val d) : b < w.heap.size := (Array.getElem?_eq_some_iff.1 h).1

set_option maxHeartbeats 1000000 in
set_option maxRecDepth 100000 in
theorem newParser_any (w : World) (a : Option Addr) (n c : Nat) (k st en : Int) (val : ByteArray) (d : Int) :
    Calls Tryf.prog 7 #[.slice a n c, .agg #[.int .u8 k, .int .i64 st, .int .i64 en, .string val], .agg #[.int .u8 0, .int .i64 0, .int .i64 0, .string ⟨#[]⟩], .agg #[.int .u8 0, .int .i64 0, .int .i64 0, .string ⟨#[]⟩], .int .i64 0, .int .i64 0, .int .i64 d, .bool false] w
      fun e w' => e = .returned (.pointer (some ⟨w.heap.size + 3, 0, none⟩)) ∧ Par w' (w.heap.size + 3) (.slice a n c) k st en val d ∧ Below w.heap.size w w' := by
  go_enter Tryf.func7, Tryf.ntmps7
  go_wp2
  go_ret
  refine ⟨rfl, ?_, ((((Below.refl _ w).alloc (by simp) _).alloc (by simp) _).alloc (by simp; omega) _).alloc (by simp; omega) _⟩
  unfold Par
  rw [show w.heap.size + 3 = (((w.alloc (.cells #[.int .u8 k, .int .i64 st, .int .i64 en, .string val] 27)).alloc (.cells #[.int .u8 0, .int .i64 0, .int .i64 0, .string ⟨#[]⟩] 27)).alloc (.cells #[.int .u8 0, .int .i64 0, .int .i64 0, .string ⟨#[]⟩] 27)).heap.size from by simp]
  exact heap_alloc_new _ _

set_option maxHeartbeats 1000000 in
set_option maxRecDepth 100000 in
theorem depth_any (w : World) (b : Nat) (src : Value) (k st en : Int) (val : ByteArray) (d : Int) (h : Par w b src k st en val d) :
    Calls Tryf.prog 11 #[.pointer (some ⟨b, 0, none⟩)] w fun e w' => e = .returned (.int .i64 d) ∧ w' = w := by
  have h17 := h.cell 17 rfl
  go_enter Tryf.func11, Tryf.ntmps11
  go_wp2
  go_ret
  exact ⟨rfl, rfl⟩

/-- The word that a token is. -/
def wordS (k : Int) (val : ByteArray) : ByteArray := if k = 1 then val else ⟨#[]⟩

set_option maxHeartbeats 1000000 in
set_option maxRecDepth 100000 in
theorem wordOf_any (w : World) (k st en : Int) (val : ByteArray) :
    Calls Tryf.prog 14 #[.agg #[.int .u8 k, .int .i64 st, .int .i64 en, .string val]] w fun e w' => e = .returned (.string (wordS k val)) ∧ Below w.heap.size w w' := by
  by_cases hk : k = 1
  · subst hk
    go_enter Tryf.func14, Tryf.ntmps14
    go_wp2
    go_ret
    exact ⟨rfl, (Below.refl _ _).alloc (Nat.le_refl _) _⟩
  · have hk' : (k != 1) = true := by simpa using hk
    have e : wordS k val = ⟨#[]⟩ := if_neg hk
    rw [e]
    go_enter Tryf.func14, Tryf.ntmps14
    go_wp2
    go_ret
    exact ⟨rfl, (Below.refl _ _).alloc (Nat.le_refl _) _⟩

set_option maxHeartbeats 1000000 in
set_option maxRecDepth 100000 in
theorem word_any (w : World) (b : Nat) (src : Value) (k st en : Int) (val : ByteArray) (d : Int) (h : Par w b src k st en val d) :
    Calls Tryf.prog 8 #[.pointer (some ⟨b, 0, none⟩)] w fun e w' => e = .returned (.string (wordS k val)) ∧ Below w.heap.size w w' := by
  have h2 := h.cell 2 rfl
  have h3 := h.cell 3 rfl
  have h4 := h.cell 4 rfl
  have h5 := h.cell 5 rfl
  have h12 : Calls Tryf.prog 12 #[.pointer (some ⟨b, 0, none⟩)] w fun e w' => e = .returned (.string (wordS k val)) ∧ Below w.heap.size w w' := by
    go_enter Tryf.func12, Tryf.ntmps12
    go_wp2_with (go_at_call 14; refine (wordOf_any _ k st en val).mono ?_; rintro e w2 ⟨rfl, hB⟩)
    go_ret
    exact ⟨rfl, hB⟩
  clear h2 h3 h4 h5
  go_enter Tryf.func8, Tryf.ntmps8
  go_wp2_with (go_at_call 12; refine h12.mono ?_; rintro e w2 ⟨rfl, hB⟩)
  go_ret
  exact ⟨rfl, hB⟩

set_option maxHeartbeats 1000000 in
set_option maxRecDepth 100000 in
theorem bytesNest_any (w : World) (a : Option Addr) (n c : Nat) (st d k : Int) (hn : n ≤ 9223372036854775807) :
    Calls Tryf.prog 10 #[.slice a n c, .int .i64 st, .int .i64 d, .int .i64 k] w fun e w' => e = .returned (.bool (decide (n ≤ 1048576))) ∧ w' = w := by
  by_cases h : n ≤ 1048576
  · rw [decide_eq_true h]
    have h' : ¬ ((n : Int) > 1048576) := by omega
    go_enter Tryf.func10, Tryf.ntmps10
    go_wp2
    go_ret
    exact ⟨rfl, rfl⟩
  · rw [decide_eq_false h]
    have h' : (n : Int) > 1048576 := by omega
    go_enter Tryf.func10, Tryf.ntmps10
    go_wp2
    go_ret
    exact ⟨rfl, rfl⟩

set_option maxHeartbeats 1000000 in
set_option maxRecDepth 100000 in
theorem bytesWord_any (w : World) (a : Option Addr) (n c : Nat) (k st en : Int) (val : ByteArray) (d : Int) (hn : n ≤ 9223372036854775807) (hv : val.size ≤ 9223372036854775807) :
    Calls Tryf.prog 5 #[.slice a n c, .int .u8 k, .int .i64 st, .int .i64 en, .string val, .int .i64 d] w fun e w' => e = .returned (.bool (decide (n + val.size ≤ 1048576))) ∧ w' = w := by
  by_cases h : n ≤ 1048576
  · have h' : ¬ ((n : Int) > 1048576) := by omega
    by_cases g : val.size ≤ 1048576
    · have g' : ¬ ((val.size : Int) > 1048576) := by omega
      by_cases f : n + val.size ≤ 1048576
      · rw [decide_eq_true f]
        have f' : ¬ ((n : Int) + (val.size : Int) > 1048576) := by omega
        go_enter Tryf.func5, Tryf.ntmps5
        go_wp2
        go_ret
        exact ⟨rfl, rfl⟩
      · rw [decide_eq_false f]
        have f' : (n : Int) + (val.size : Int) > 1048576 := by omega
        go_enter Tryf.func5, Tryf.ntmps5
        go_wp2
        go_ret
        exact ⟨rfl, rfl⟩
    · rw [decide_eq_false (by omega)]
      have g' : (val.size : Int) > 1048576 := by omega
      go_enter Tryf.func5, Tryf.ntmps5
      go_wp2
      go_ret
      exact ⟨rfl, rfl⟩
  · rw [decide_eq_false (by omega)]
    have h' : (n : Int) > 1048576 := by omega
    go_enter Tryf.func5, Tryf.ntmps5
    go_wp2
    go_ret
    exact ⟨rfl, rfl⟩
end Go.Proofs.Qxb6612281aFmt
