import Derived.Test.Qxb6603812aLawC
namespace Go.Proofs.Qxb6603812a
namespace Sq
variable {f : Fl} {fw : Bool} {t : List UInt8}

theorem pre_cons (x a : UInt8) (t p : List UInt8) : Lib.hasPrefix (x :: t) (a :: p) = (a == x && Lib.hasPrefix t p) := rfl

theorem tab_Q {x : UInt8} (h : (x == 39 || x == 34) = true) : 1 ≤ skp f fw (x :: t) := by
  rw [skp_Q (l := x :: t) h]; omega

theorem tab_96 : skp f fw (96 :: t) = if f.bt then 1 + clos 96 false t else 0 := by
  cases h : f.bt with
  | true => rw [skp_T rfl (by rw [h]; rfl)]; rfl
  | false => rw [skp_0 rfl (by rw [h]; rfl) (by simp [cE, pre_cons]) (by simp [cD]) (by simp [cL, pre_cons]) (by simp [cX, pre_cons]) (by simp [pre_cons])]; rfl

theorem tab_35 : skp f fw (35 :: t) = if f.hc then lineEnd (35 :: t) else 0 := by
  cases h : f.hc with
  | true => rw [skp_L rfl rfl (by simp [cE, pre_cons]) (by simp [cD]) (by simp [h])]; rfl
  | false => rw [skp_0 rfl rfl (by simp [cE, pre_cons]) (by simp [cD]) (by simp [cL, pre_cons, h]) (by simp [cX, pre_cons]) (by simp [pre_cons])]; rfl

theorem tab_45 : skp f fw (45 :: t) = if cL f (45 :: t) then lineEnd (45 :: t) else 0 := by
  cases h : cL f (45 :: t) with
  | true => rw [skp_L rfl rfl (by simp [cE, pre_cons]) (by simp [cD]) (by simp [h])]; rfl
  | false => rw [skp_0 rfl rfl (by simp [cE, pre_cons]) (by simp [cD]) (by simp [h]) (by simp [cX, pre_cons]) (by simp [pre_cons])]; rfl

theorem tab_47 : skp f fw (47 :: t) = if cX f (47 :: t) then runAt isDig (47 :: t) ((Lib.indexByte (47 :: t) 33).toNat + 1) else if Lib.hasPrefix (47 :: t) [47, 42] then 2 + com f.nc 1 (t.drop 1) else 0 := by
  cases h : cX f (47 :: t) with
  | true => rw [skp_X rfl rfl (by simp [cE, pre_cons]) (by simp [cD]) (by simp [cL, pre_cons]) h]; rfl
  | false =>
    cases h2 : Lib.hasPrefix (47 :: t) [47, 42] with
    | true => rw [skp_C rfl rfl (by simp [cE, pre_cons]) (by simp [cD]) (by simp [cL, pre_cons]) h h2]; rfl
    | false => rw [skp_0 rfl rfl (by simp [cE, pre_cons]) (by simp [cD]) (by simp [cL, pre_cons]) h h2]; rfl

theorem tab_E {x : UInt8} (hx : x = 69 ∨ x = 101) : skp f fw (x :: t) = if f.es && Lib.hasPrefix t [39] && !fw then 2 + escOf (t.drop 1) else 0 := by
  have hE : cE f fw (x :: t) = (f.es && Lib.hasPrefix t [39] && !fw) := by
    rcases hx with rfl | rfl <;> simp [cE, pre_cons]
  cases h : (f.es && Lib.hasPrefix t [39] && !fw) with
  | true => rw [skp_E (by rcases hx with rfl | rfl <;> rfl) (by rcases hx with rfl | rfl <;> rfl) (by rw [hE, h])]; rfl
  | false =>
    rw [skp_0 (by rcases hx with rfl | rfl <;> rfl) (by rcases hx with rfl | rfl <;> rfl) (by rw [hE, h]) (by rcases hx with rfl | rfl <;> simp [cD]) (by rcases hx with rfl | rfl <;> simp [cL, pre_cons]) (by rcases hx with rfl | rfl <;> simp [cX, pre_cons]) (by rcases hx with rfl | rfl <;> simp [pre_cons])]
    rfl

theorem tab_36 : skp f fw (36 :: t) = if f.dq && !fw then dol (36 :: t) else 0 := by
  cases h : (f.dq && !fw) with
  | true => rw [skp_D rfl rfl (by simp [cE, pre_cons]) (by simp only [cD, List.headD_cons, beq_self_eq_true, Bool.and_true]; exact h)]; rfl
  | false => rw [skp_0 rfl rfl (by simp [cE, pre_cons]) (by simp only [cD, List.headD_cons, beq_self_eq_true, Bool.and_true]; exact h) (by simp [cL, pre_cons]) (by simp [cX, pre_cons]) (by simp [pre_cons])]; rfl

theorem tab_0 {x : UInt8} (h39 : (x == 39) = false) (h34 : (x == 34) = false) (h96 : (x == 96) = false) (h35 : (x == 35) = false) (h45 : (x == 45) = false) (h47 : (x == 47) = false) (h69 : (x == 69) = false) (h101 : (x == 101) = false) (h36 : (x == 36) = false) : skp f fw (x :: t) = 0 := by
  have sw : ∀ a : UInt8, (x == a) = false → (a == x) = false := fun a h => beq_eq_false_iff_ne.2 fun e => beq_eq_false_iff_ne.1 h e.symm
  refine skp_0 ?_ ?_ ?_ ?_ ?_ ?_ ?_
  · simp only [List.headD_cons, h39, h34, Bool.or_self]
  · simp only [List.headD_cons, h96, Bool.false_and]
  · simp only [cE, pre_cons, sw 69 h69, sw 101 h101, Bool.false_and, Bool.or_self, Bool.and_false]
  · simp only [cD, List.headD_cons, h36, Bool.false_and, Bool.and_false]
  · simp only [cL, pre_cons, sw 45 h45, List.headD_cons, h35, Bool.false_and, Bool.or_self]
  · simp only [cX, pre_cons, sw 47 h47, Bool.false_and, Bool.or_self, Bool.and_false]
  · simp only [pre_cons, sw 47 h47, Bool.false_and]

theorem dol_two (l : List UInt8) : dol l = 0 ∨ 2 ≤ dol l := by
  have e0 : dolAt l 0 = dol l := by unfold dolAt; rw [List.drop_zero]; omega
  rw [← e0]
  by_cases h36 : l[dolJ l 0]? = some 36
  · have hlt : dolJ l 0 < l.length := (List.getElem?_eq_some_iff.1 h36).1
    have hj : 1 ≤ dolJ l 0 := by unfold dolJ; omega
    rw [dolAt_yes rfl h36]
    right
    split <;> omega
  · left; exact dolAt_no rfl h36

theorem runX {l : List UInt8} (h : cX f l = true) : 3 ≤ runAt isDig l ((Lib.indexByte l 33).toNat + 1) := by
  simp only [cX, Bool.and_eq_true, Bool.or_eq_true] at h
  rcases h.2 with hp | hp
  · obtain ⟨a, b⟩ := index_x3 hp
    have := runAt_le isDig l 3 (by omega)
    rw [a]; exact this.1
  · obtain ⟨a, b⟩ := index_x4 hp
    have := runAt_le isDig l 4 (by omega)
    rw [a]; exact Nat.le_trans (by omega) this.1
end Sq
end Go.Proofs.Qxb6603812a
