import Derived.Test.Qxb6603812aSkipD
import Derived.Deep.DeepCutAuto
namespace Go.Proofs.Qxb6603812a
open Go.RowKit

namespace Sq
/-- The syntax's flags. -/
structure Fl where
  ps : Bool
  bs : Bool
  es : Bool
  dq : Bool
  bt : Bool
  hc : Bool
  sd : Bool
  nc : Bool
  ec : Bool

def cE (f : Fl) (fw : Bool) (l : List UInt8) : Bool := f.es && (Lib.hasPrefix l [69, 39] || Lib.hasPrefix l [101, 39]) && !fw
def cD (f : Fl) (fw : Bool) (x : UInt8) : Bool := f.dq && x == 36 && !fw
def cL (f : Fl) (l : List UInt8) : Bool := Lib.hasPrefix l [45, 45] && (!f.sd || l.length == 2 || decide ((l.getD 2 0).toNat ≤ 32))
def cX (f : Fl) (l : List UInt8) : Bool := f.ec && (Lib.hasPrefix l [47, 42, 33] || Lib.hasPrefix l [47, 42, 77, 33])
def lineEnd (l : List UInt8) : Nat := if Lib.indexByte l 10 < 0 then l.length else (Lib.indexByte l 10).toNat

/-- What 'skip' answers, less the index. -/
def skp (f : Fl) (fw : Bool) (l : List UInt8) : Nat :=
  if l.headD 0 == 39 || l.headD 0 == 34 then 1 + clos (l.headD 0) f.bs (l.drop 1)
  else if l.headD 0 == 96 && f.bt then 1 + clos 96 false (l.drop 1)
  else if cE f fw l then 2 + escOf (l.drop 2)
  else if cD f fw (l.headD 0) then dol l
  else if cL f l || (l.headD 0 == 35 && f.hc) then lineEnd l
  else if cX f l then runAt isDig l ((Lib.indexByte l 33).toNat + 1)
  else if Lib.hasPrefix l [47, 42] then 2 + com f.nc 1 (l.drop 2)
  else 0
end Sq

set_option maxHeartbeats 1000000 in
set_option maxRecDepth 100000 in
theorem skip_quote (ps bs es dq bt hc sd nc ec : Bool) (s : ByteArray) (i : Nat) (x : UInt8) (w : World) (hs : s.size ≤ 1048577) (hi : i < s.size)
    (hp : 0 < (s.extract i s.size).size) (hx0 : (s.extract i s.size)[0]'hp = x)
    (h39 : ((x.toNat : Int) == 39) = true ∨ (((x.toNat : Int) == 39) = false ∧ ((x.toNat : Int) == 34) = true)) :
    Calls Try.prog 21 #[.agg #[.bool ps, .bool bs, .bool es, .bool dq, .bool bt, .bool hc, .bool sd, .bool nc, .bool ec, .map none], .string s, .int .i64 i] w fun e w' => e = .returned (.int .i64 (Sq.closAt s.data.toList x bs (i + 1))) ∧ Below w.heap.size w w' := by
  rcases h39 with h39 | ⟨h39, h34⟩
  · go_enter Try.func21, Try.ntmps21
    go_wp2_with fail
    go_quiet ((go_at_call 25; exact Calls.quiet_of_same (closing_q _ _ _ x _ _ hs (by omega) (by omega) rfl)))
    go_wp2
    go_ret
    exact ⟨ret_int (by rw [show ((i : Int) + 1).toNat = i + 1 from by omega]), below_drewN ((Below.refl _ _).alloc (Nat.le_refl _) _) _⟩
  · go_enter Try.func21, Try.ntmps21
    go_wp2_with fail
    go_quiet ((go_at_call 25; exact Calls.quiet_of_same (closing_q _ _ _ x _ _ hs (by omega) (by omega) rfl)))
    go_wp2
    go_ret
    exact ⟨ret_int (by rw [show ((i : Int) + 1).toNat = i + 1 from by omega]), below_drewN ((Below.refl _ _).alloc (Nat.le_refl _) _) _⟩

set_option maxHeartbeats 1000000 in
set_option maxRecDepth 100000 in
theorem skip_tick (ps bs es dq hc sd nc ec : Bool) (s : ByteArray) (i : Nat) (x : UInt8) (w : World) (hs : s.size ≤ 1048577) (hi : i < s.size)
    (hp : 0 < (s.extract i s.size).size) (hx0 : (s.extract i s.size)[0]'hp = x)
    (h39 : ((x.toNat : Int) == 39) = false) (h34 : ((x.toNat : Int) == 34) = false) (h96 : ((x.toNat : Int) == 96) = true) :
    Calls Try.prog 21 #[.agg #[.bool ps, .bool bs, .bool es, .bool dq, .bool true, .bool hc, .bool sd, .bool nc, .bool ec, .map none], .string s, .int .i64 i] w fun e w' => e = .returned (.int .i64 (Sq.closAt s.data.toList 96 false (i + 1))) ∧ Below w.heap.size w w' := by
  go_enter Try.func21, Try.ntmps21
  go_wp2_with (go_at_call 25; refine (closing_q _ _ _ 96 _ _ hs (by omega) (by omega) (by decide)).mono ?_; rintro e w1 ⟨rfl, rfl⟩; rw [show ((i : Int) + 1).toNat = i + 1 from by omega])
  go_ret
  exact ⟨rfl, (Below.refl _ _).alloc (Nat.le_refl _) _⟩

end Go.Proofs.Qxb6603812a
