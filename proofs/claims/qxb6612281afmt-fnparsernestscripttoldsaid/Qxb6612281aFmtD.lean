import Derived.Test.Qxb6612281aFmtC
namespace Go.Proofs.Qxb6612281aFmt
open Go.RowKit Go.Extern.Stop Go.Stop Go.Extern
set_option linter.unusedVariables false

theorem Cl.later {w wx : World} {v : Value} {n : Nat} (h : Cl w v n) (hb : Below w.heap.size w wx) : Cl wx v n := by
  rcases h with h | ⟨H, bs, e, hH, hl, hc⟩
  · exact .inl h
  · exact .inr ⟨H, bs, e, Nat.lt_of_lt_of_le hH hb.size, hl, fun i hi => cell_later hb (hc i hi)⟩

/-- An error that is there. -/
def ErrPost (w : World) (e : Ending) (w' : World) : Prop := ∃ k : Nat, e = .returned (.iface 45 (.pointer (some ⟨k, 0, none⟩))) ∧ Below w.heap.size w w'

set_option maxHeartbeats 1000000 in
set_option maxRecDepth 100000 in
theorem synErr_any (w : World) (b : Nat) (a : Option Addr) (l c n o : Nat) (k st en d k' en' : Int) (val val' msg : ByteArray) (hp : Par w b (.slice a l c) k st en val d) (h : Cl w (.slice a l c) n) (ho : o ≤ n) (hn : n ≤ 1048576) :
    Calls Tryf.prog 15 #[.pointer (some ⟨b, 0, none⟩), .agg #[.int .u8 k', .int .i64 o, .int .i64 en', .string val'], .string msg] w (ErrPost w) := by
  have h0 : w.cell? ⟨b, 0, none⟩ = some (.slice a l c) := hp.cell 0 rfl
  have h16 : w.cell? ⟨b, 16, none⟩ = some .nilIface := hp.cell 16 rfl
  have hb := hp.lt
  have HL : Hid (Cl w (.slice a l c) n) := h
  clear h hp
  go_enter Tryf.func15, Tryf.ntmps15
  go_wp2
  have hB0 : Below w.heap.size w (w.alloc (.cells #[.int .u8 k', .int .i64 o, .int .i64 en', .string val'] 27)).drew := ((Below.refl _ _).alloc (Nat.le_refl _) _).drew
  go_region_held3 (fun wx => wx.cell? ⟨b, 0, none⟩ = some (.slice a l c) ∧ wx.cell? ⟨w.heap.size, 1, none⟩ = some (.int .i64 o) ∧ Below w.heap.size w wx) (first | exact ⟨by assumption, by assumption, by assumption⟩ | exact ⟨cell_later hB0 h0, by go_simp, hB0⟩)
    (first | (go_at_call 17; refine (newSyn_any _ a l c n o msg (HL.out.later (by go_split_ands; assumption)) ho hn).mono ?_; rintro e w3 ⟨j, rfl, hB3⟩; have t0 : w3.cell? ⟨b, 0, none⟩ = some (.slice a l c) := cell_later hB3 (by go_split_ands; assumption); have t1 : w3.cell? ⟨w.heap.size, 1, none⟩ = some (.int .i64 o) := cell_later hB3 (by go_split_ands; assumption); have t2 : Below w.heap.size w w3 := Below.onto (by go_split_ands; assumption) hB3; dsimp only))
  go_wp2
  all_goals go_ret
  all_goals exact ⟨_, rfl, by assumption⟩

theorem Par.later {w wx : World} {b : Nat} {src : Value} {k st en : Int} {val : ByteArray} {d : Int} (h : Par w b src k st en val d) (hb : Below w.heap.size w wx) : Par wx b src k st en val d := (hb.block b h.lt).trans h

set_option maxHeartbeats 1000000 in
set_option maxRecDepth 100000 in
theorem nest_refuse (F : Interp) (w : World) (hF : F.answers w.tape) (b : Nat) (a : Option Addr) (l c n o : Nat) (k en d : Int) (val : ByteArray) (hp : Par w b (.slice a l c) k o en val d) (h : Cl w (.slice a l c) n) (ho : o ≤ n) (hn : n ≤ 1048576) (hd : d > 50000) :
    Calls Tryf.prog 13 #[.pointer (some ⟨b, 0, none⟩)] w (ErrPost w) := by
  have hF' := answers_open hF
  have h2 : w.cell? ⟨b, 2, none⟩ = some (.int .u8 k) := hp.cell 2 rfl
  have h3 : w.cell? ⟨b, 3, none⟩ = some (.int .i64 o) := hp.cell 3 rfl
  have h4 : w.cell? ⟨b, 4, none⟩ = some (.int .i64 en) := hp.cell 4 rfl
  have h5 : w.cell? ⟨b, 5, none⟩ = some (.string val) := hp.cell 5 rfl
  have h17 : w.cell? ⟨b, 17, none⟩ = some (.int .i64 d) := hp.cell 17 rfl
  have hb := hp.lt
  have HP : Hid (Par w b (.slice a l c) k o en val d) := hp
  have HL : Hid (Cl w (.slice a l c) n) := h
  clear h hp
  go_enter Tryf.func13, Tryf.ntmps13
  go_wp2
  go_region_held3 (fun wx => wx.cell? ⟨b, 2, none⟩ = some (.int .u8 k) ∧ wx.cell? ⟨b, 3, none⟩ = some (.int .i64 o) ∧ wx.cell? ⟨b, 4, none⟩ = some (.int .i64 en) ∧ wx.cell? ⟨b, 5, none⟩ = some (.string val) ∧ Below w.heap.size w wx)
    (refine ⟨?_, ?_, ?_, ?_, ?_⟩ <;> first | assumption | exact (Below.refl _ _).drew | exact ((Below.refl _ _).alloc (Nat.le_refl _) _) | exact ((Below.refl _ _).alloc (Nat.le_refl _) _).drew | exact ((Below.refl _ _).alloc (Nat.le_refl _) _).drew.drew | exact cell_later ((Below.refl _ _).alloc (Nat.le_refl _) _) (by assumption) | exact cell_later ((Below.refl _ _).alloc (Nat.le_refl _) _).drew (by assumption) | exact cell_later ((Below.refl _ _).alloc (Nat.le_refl _) _).drew.drew (by assumption))
    (first | (go_at_call 15; refine (synErr_any _ b a l c n o k o en d k en val val _ (HP.out.later (by go_split_ands; assumption)) (HL.out.later (by go_split_ands; assumption)) ho hn).mono ?_; rintro e w3 ⟨j, rfl, hB3⟩; have t0 : w3.cell? ⟨b, 2, none⟩ = some (.int .u8 k) := cell_later hB3 (by go_split_ands; assumption); have t1 : w3.cell? ⟨b, 3, none⟩ = some (.int .i64 o) := cell_later hB3 (by go_split_ands; assumption); have t2 : w3.cell? ⟨b, 4, none⟩ = some (.int .i64 en) := cell_later hB3 (by go_split_ands; assumption); have t3 : w3.cell? ⟨b, 5, none⟩ = some (.string val) := cell_later hB3 (by go_split_ands; assumption); have t4 : Below w.heap.size w w3 := Below.onto (by go_split_ands; assumption) hB3; dsimp only))
  go_wp2
  all_goals go_ret
  all_goals exact ⟨_, rfl, by go_split_ands; assumption⟩

theorem Par.set {w : World} {b : Nat} {src : Value} {k st en : Int} {val : ByteArray} {d : Int} (h : Par w b src k st en val d) (d' : Int) : Par (w.setCell ⟨b, 17, none⟩ (.int .i64 d')) b src k st en val d' := by
  have h' : w.heap[b]? = some (.cells (parCells src k st en val d) 39) := h
  unfold Par
  rw [setCell_eq_setRow w b 17 _ 39 (0, 0) _ h', setRow_heap w b _ _ 39 (0, 0) h']
  rfl

set_option maxHeartbeats 1000000 in
set_option maxRecDepth 100000 in
theorem nest_ok (w : World) (b : Nat) (src : Value) (k st en d : Int) (val : ByteArray) (hp : Par w b src k st en val d) (hd0 : -9223372036854775808 ≤ d) (hd : d ≤ 50000) :
    Calls Tryf.prog 13 #[.pointer (some ⟨b, 0, none⟩)] w fun e w' => e = .returned .nilIface ∧ Par w' b src k st en val (d + 1) ∧ Below b w w' := by
  have h17 : w.cell? ⟨b, 17, none⟩ = some (.int .i64 d) := hp.cell 17 rfl
  have hfr := hp.frozen 17
  have hd1 : ¬ d > 50000 := by omega
  have HP : Hid (Par w b src k st en val d) := hp
  clear hp
  go_enter Tryf.func13, Tryf.ntmps13
  go_wp2
  go_ret
  exact ⟨rfl, HP.out.set _, (Below.refl b w).setCell (Nat.le_refl _) _⟩

set_option maxHeartbeats 1000000 in
set_option maxRecDepth 100000 in
theorem znest_of (w : World) (b : Nat) (Q : Ending → World → Prop) (h : Calls Tryf.prog 13 #[.pointer (some ⟨b, 0, none⟩)] w fun e w' => (∃ v, e = .returned v) ∧ Q e w') : Calls Tryf.prog 9 #[.pointer (some ⟨b, 0, none⟩)] w Q := by
  go_enter Tryf.func9, Tryf.ntmps9
  go_wp2_with (go_at_call 13; refine h.mono ?_; rintro e w2 ⟨⟨v, rfl⟩, hQ⟩)
  exact hQ

/-- Behind a refused nest. -/
def RefPost (w0 : World) (b : Nat) (src : Value) (k st en d : Int) (val : ByteArray) (e : Ending) (w' : World) : Prop :=
  ∃ j : Nat, e = .returned (.iface 45 (.pointer (some ⟨j, 0, none⟩))) ∧ Par w' b src k st en val d ∧ Below w0.heap.size w0 w'

theorem znest_refuse (F : Interp) (w0 w : World) (hF : F.answers w0.tape) (b : Nat) (a : Option Addr) (l c n o : Nat) (k en d : Int) (val : ByteArray) (hB : Below w0.heap.size w0 w) (hp : Par w b (.slice a l c) k o en val d) (h : Cl w0 (.slice a l c) n) (ho : o ≤ n) (hn : n ≤ 1048576) (hd : d > 50000) :
    Calls Tryf.prog 9 #[.pointer (some ⟨b, 0, none⟩)] w (RefPost w0 b (.slice a l c) k o en d val) := by
  refine znest_of w b _ ((nest_refuse F w (by rw [hB.tape]; exact hF) b a l c n o k en d val hp (h.later hB) ho hn hd).mono ?_)
  rintro e w2 ⟨j, rfl, hB2⟩
  exact ⟨⟨_, rfl⟩, j, rfl, hp.later hB2, Below.onto hB hB2⟩

theorem znest_ok (w0 w : World) (b : Nat) (src : Value) (k st en d : Int) (val : ByteArray) (hB : Below w0.heap.size w0 w) (hb : w0.heap.size ≤ b) (hp : Par w b src k st en val d) (hd0 : -9223372036854775808 ≤ d) (hd : d ≤ 50000) :
    Calls Tryf.prog 9 #[.pointer (some ⟨b, 0, none⟩)] w fun e w' => e = .returned .nilIface ∧ Par w' b src k st en val (d + 1) ∧ Below w0.heap.size w0 w' := by
  refine znest_of w b _ ((nest_ok w b src k st en d val hp hd0 hd).mono ?_)
  rintro e w2 ⟨rfl, hp2, hB2⟩
  exact ⟨⟨_, rfl⟩, rfl, hp2, hB.trans (hB2.mono hb)⟩
end Go.Proofs.Qxb6612281aFmt
