import PyProof.Rows.All
import PyProof.ExcBaseAll.ValueError
import KE.KxText
import KE.KNest
import KE.KEqDat
import KE.KIntText
import KE.KLcPair
import KE.KTab
import KE.KTryDeep
import Open.Tops
import Wide.FinOn
import OpenK.AllK
import Wide.All
import Lean
import PySem.Challenge.RW_ij0193_01
open PySem PySem.W PyProof.Rows
set_option Elab.async false
set_option compiler.extract_closed false
set_option linter.all false
namespace Mine
local macro_rules | `(tactic| omega) => `(tactic| first | lia | omega +splitDisjunctions)
-- HdZ
section
abbrev RW : OpenLaw := PySem.Challenge.rw_ij0193_01
abbrev RR : RowW := RW.row.toRowW
noncomputable abbrev PW : Program := PySem.Challenge.pw_ij0193_01
noncomputable def nthS : List Stmt → Nat → Stmt
  | a :: _, 0 => a
  | _ :: l, n + 1 => nthS l n
  | [], _ => .Pass default
noncomputable def clsB : Stmt → List Stmt
  | .ClassDef _ _ _ b _ _ _ _ _ _ _ => b
  | _ => []
noncomputable def stm (i : Nat) : Stmt := nthS PW.main.body i
/-! The long strings of the top, taken from the given text. -/
noncomputable def strB : Stmt → Str
  | .Assign _ (.Constant (.str x) _ _) _ => x
  | _ => Str.empty
noncomputable def bsA : Str := strB (stm 4)
noncomputable def bsB : Str := strB (stm 5)
noncomputable def bsC : Str := strB (stm 6)
noncomputable def bsD : Str := strB (stm 7)
end
-- LawPre
section
set_option maxRecDepth 100000
set_option maxHeartbeats 8000000
/-! The law's looks: over the text with its strings written out. -/
noncomputable def S_0 : Stmt := by
  change (fun (_ : stm 0 = ?o) => Stmt) ?h
  case h => conv => lhs; whnf; pattern (occs := *) Str.ofString _; all_goals reduce
  exact ?o
noncomputable def S_1 : Stmt := by
  change (fun (_ : stm 1 = ?o) => Stmt) ?h
  case h => conv => lhs; whnf; pattern (occs := *) Str.ofString _; all_goals reduce
  exact ?o
noncomputable def S_2 : Stmt := by
  change (fun (_ : stm 2 = ?o) => Stmt) ?h
  case h => conv => lhs; whnf; pattern (occs := *) Str.ofString _; all_goals reduce
  exact ?o
noncomputable def S_3 : Stmt := by
  change (fun (_ : stm 3 = ?o) => Stmt) ?h
  case h => conv => lhs; whnf; pattern (occs := *) Str.ofString _; all_goals reduce
  exact ?o
noncomputable def S_4 : Stmt := by
  change (fun (_ : stm 4 = ?o) => Stmt) ?h
  case h => conv => lhs; whnf; pattern (occs := *) Str.ofString _; all_goals reduce
  exact ?o
noncomputable def S_5 : Stmt := by
  change (fun (_ : stm 5 = ?o) => Stmt) ?h
  case h => conv => lhs; whnf; pattern (occs := *) Str.ofString _; all_goals reduce
  exact ?o
noncomputable def S_6 : Stmt := by
  change (fun (_ : stm 6 = ?o) => Stmt) ?h
  case h => conv => lhs; whnf; pattern (occs := *) Str.ofString _; all_goals reduce
  exact ?o
noncomputable def S_7 : Stmt := by
  change (fun (_ : stm 7 = ?o) => Stmt) ?h
  case h => conv => lhs; whnf; pattern (occs := *) Str.ofString _; all_goals reduce
  exact ?o
noncomputable def S_8 : Stmt := by
  change (fun (_ : stm 8 = ?o) => Stmt) ?h
  case h => conv => lhs; whnf; pattern (occs := *) Str.ofString _; all_goals reduce
  exact ?o
noncomputable def S_9 : Stmt := by
  change (fun (_ : stm 9 = ?o) => Stmt) ?h
  case h => conv => lhs; whnf; pattern (occs := *) Str.ofString _; all_goals reduce
  exact ?o
noncomputable def S_10 : Stmt := by
  change (fun (_ : stm 10 = ?o) => Stmt) ?h
  case h => conv => lhs; whnf; pattern (occs := *) Str.ofString _; all_goals reduce
  exact ?o
noncomputable def S_11 : Stmt := by
  change (fun (_ : stm 11 = ?o) => Stmt) ?h
  case h => conv => lhs; whnf; pattern (occs := *) Str.ofString _; all_goals reduce
  exact ?o
noncomputable def S_12 : Stmt := by
  change (fun (_ : stm 12 = ?o) => Stmt) ?h
  case h => conv => lhs; whnf; pattern (occs := *) Str.ofString _; all_goals reduce
  exact ?o
noncomputable def S_13 : Stmt := by
  change (fun (_ : stm 13 = ?o) => Stmt) ?h
  case h => conv => lhs; whnf; pattern (occs := *) Str.ofString _; all_goals reduce
  exact ?o
noncomputable def S_14 : Stmt := by
  change (fun (_ : stm 14 = ?o) => Stmt) ?h
  case h => conv => lhs; whnf; pattern (occs := *) Str.ofString _; all_goals reduce
  exact ?o
noncomputable def S_15 : Stmt := by
  change (fun (_ : stm 15 = ?o) => Stmt) ?h
  case h => conv => lhs; whnf; pattern (occs := *) Str.ofString _; all_goals reduce
  exact ?o
noncomputable def S_16 : Stmt := by
  change (fun (_ : stm 16 = ?o) => Stmt) ?h
  case h => conv => lhs; whnf; pattern (occs := *) Str.ofString _; all_goals reduce
  exact ?o
noncomputable def S_17 : Stmt := by
  change (fun (_ : stm 17 = ?o) => Stmt) ?h
  case h => conv => lhs; whnf; pattern (occs := *) Str.ofString _; all_goals reduce
  exact ?o
noncomputable def S_18 : Stmt := by
  change (fun (_ : stm 18 = ?o) => Stmt) ?h
  case h => conv => lhs; whnf; pattern (occs := *) Str.ofString _; all_goals reduce
  exact ?o
noncomputable def S_19 : Stmt := by
  change (fun (_ : stm 19 = ?o) => Stmt) ?h
  case h => conv => lhs; whnf; pattern (occs := *) Str.ofString _; all_goals reduce
  exact ?o
noncomputable def S_20 : Stmt := by
  change (fun (_ : stm 20 = ?o) => Stmt) ?h
  case h => conv => lhs; whnf; pattern (occs := *) Str.ofString _; all_goals reduce
  exact ?o
noncomputable def S_21 : Stmt := by
  change (fun (_ : stm 21 = ?o) => Stmt) ?h
  case h => conv => lhs; whnf; pattern (occs := *) Str.ofString _; all_goals reduce
  exact ?o
noncomputable def S_22 : Stmt := by
  change (fun (_ : stm 22 = ?o) => Stmt) ?h
  case h => conv => lhs; whnf; pattern (occs := *) Str.ofString _; all_goals reduce
  exact ?o
noncomputable def S_23 : Stmt := by
  change (fun (_ : stm 23 = ?o) => Stmt) ?h
  case h => conv => lhs; whnf; pattern (occs := *) Str.ofString _; all_goals reduce
  exact ?o
noncomputable def S_24 : Stmt := by
  change (fun (_ : stm 24 = ?o) => Stmt) ?h
  case h => conv => lhs; whnf; pattern (occs := *) Str.ofString _; all_goals reduce
  exact ?o
noncomputable def S_25 : Stmt := by
  change (fun (_ : stm 25 = ?o) => Stmt) ?h
  case h => conv => lhs; whnf; pattern (occs := *) Str.ofString _; all_goals reduce
  exact ?o
noncomputable def S_26 : Stmt := by
  change (fun (_ : stm 26 = ?o) => Stmt) ?h
  case h => conv => lhs; whnf; pattern (occs := *) Str.ofString _; all_goals reduce
  exact ?o
noncomputable def S_27 : Stmt := by
  change (fun (_ : stm 27 = ?o) => Stmt) ?h
  case h => conv => lhs; whnf; pattern (occs := *) Str.ofString _; all_goals reduce
  exact ?o
noncomputable def S_28 : Stmt := by
  change (fun (_ : stm 28 = ?o) => Stmt) ?h
  case h => conv => lhs; whnf; pattern (occs := *) Str.ofString _; all_goals reduce
  exact ?o
noncomputable def S_29 : Stmt := by
  change (fun (_ : stm 29 = ?o) => Stmt) ?h
  case h => conv => lhs; whnf; pattern (occs := *) Str.ofString _; all_goals reduce
  exact ?o
noncomputable def S_30 : Stmt := by
  change (fun (_ : stm 30 = ?o) => Stmt) ?h
  case h => conv => lhs; whnf; pattern (occs := *) Str.ofString _; all_goals reduce
  exact ?o
noncomputable def S_31 : Stmt := by
  change (fun (_ : stm 31 = ?o) => Stmt) ?h
  case h => conv => lhs; whnf; pattern (occs := *) Str.ofString _; all_goals reduce
  exact ?o
noncomputable def S_32 : Stmt := by
  change (fun (_ : stm 32 = ?o) => Stmt) ?h
  case h => conv => lhs; whnf; pattern (occs := *) Str.ofString _; all_goals reduce
  exact ?o
noncomputable def S_33 : Stmt := by
  change (fun (_ : stm 33 = ?o) => Stmt) ?h
  case h => conv => lhs; whnf; pattern (occs := *) Str.ofString _; all_goals reduce
  exact ?o
noncomputable def S_34 : Stmt := by
  change (fun (_ : stm 34 = ?o) => Stmt) ?h
  case h => conv => lhs; whnf; pattern (occs := *) Str.ofString _; all_goals reduce
  exact ?o
noncomputable def S_35 : Stmt := by
  change (fun (_ : stm 35 = ?o) => Stmt) ?h
  case h => conv => lhs; whnf; pattern (occs := *) Str.ofString _; all_goals reduce
  exact ?o
noncomputable def S_36 : Stmt := by
  change (fun (_ : stm 36 = ?o) => Stmt) ?h
  case h => conv => lhs; whnf; pattern (occs := *) Str.ofString _; all_goals reduce
  exact ?o
noncomputable def S_37 : Stmt := by
  change (fun (_ : stm 37 = ?o) => Stmt) ?h
  case h => conv => lhs; whnf; pattern (occs := *) Str.ofString _; all_goals reduce
  exact ?o
noncomputable def S_38 : Stmt := by
  change (fun (_ : stm 38 = ?o) => Stmt) ?h
  case h => conv => lhs; whnf; pattern (occs := *) Str.ofString _; all_goals reduce
  exact ?o
noncomputable def S_39 : Stmt := by
  change (fun (_ : stm 39 = ?o) => Stmt) ?h
  case h => conv => lhs; whnf; pattern (occs := *) Str.ofString _; all_goals reduce
  exact ?o
noncomputable def S_40 : Stmt := by
  change (fun (_ : stm 40 = ?o) => Stmt) ?h
  case h => conv => lhs; whnf; pattern (occs := *) Str.ofString _; all_goals reduce
  exact ?o
noncomputable def S_41 : Stmt := by
  change (fun (_ : stm 41 = ?o) => Stmt) ?h
  case h => conv => lhs; whnf; pattern (occs := *) Str.ofString _; all_goals reduce
  exact ?o
noncomputable def S_42 : Stmt := by
  change (fun (_ : stm 42 = ?o) => Stmt) ?h
  case h => conv => lhs; whnf; pattern (occs := *) Str.ofString _; all_goals reduce
  exact ?o
noncomputable def S_43 : Stmt := by
  change (fun (_ : stm 43 = ?o) => Stmt) ?h
  case h => conv => lhs; whnf; pattern (occs := *) Str.ofString _; all_goals reduce
  exact ?o
noncomputable def scB : Scope := by
  change (fun (_ : PW.main.scope = ?o) => Scope) ?h
  case h => conv => lhs; whnf; pattern (occs := *) Str.ofString _; all_goals reduce
  exact ?o
noncomputable def fileB : Str := by
  change (fun (_ : PW.main.file = ?o) => Str) ?h
  case h => conv => lhs; reduce
  exact ?o
noncomputable def givB : Given := by
  change (fun (_ : PW.given = ?o) => Given) ?h
  case h => conv => lhs; whnf
  exact ?o
noncomputable def PW2 : Program := { main := { body := [S_0, S_1, S_2, S_3, S_4, S_5, S_6, S_7, S_8, S_9, S_10, S_11, S_12, S_13, S_14, S_15, S_16, S_17, S_18, S_19, S_20, S_21, S_22, S_23, S_24, S_25, S_26, S_27, S_28, S_29, S_30, S_31, S_32, S_33, S_34, S_35, S_36, S_37, S_38, S_39, S_40, S_41, S_42, S_43], scope := scB, futureAnnotations := false, file := fileB, more := [] }, modules := [], parses := [], absent := [], harvested := [], given := givB }
noncomputable def RW2 : OpenLaw := { prog := PW2, name := .ofString "law", about := [.ofString "HtmlDiff", .ofString "_split_line"], foot := 10, most := some 63, bound := none, writes := false }
theorem rw2 : PySem.Challenge.rw_ij0193_01 = RW2 := by kernel_rfl
theorem promised_ok : RR.promised := by w_witness2
theorem law_pre (H : RR.claim.HoldsOpenBy (callStub RR.name) [RR.name] RW.row.keeps false) : PySem.Challenge.rw_ij0193_01.Holds := by
  have h : RW2.Holds := by
    o_law
    exact ⟨by assumption, rw2 ▸ promised_ok, rw2 ▸ H⟩
  exact rw2 ▸ h
end
-- SetLay
section
/-! a clean table takes every list of hashes: the plain law of SetTable.laid -/
theorem fm_set {α : Type} (k : α) : ∀ (l : List (Option α)) (j : Nat), l[j]? = some none → ((l.set j (some k)).filterMap id).Perm (k :: l.filterMap id)
  | [], j, h => by simp at h
  | x :: l, 0, h => by
    simp only [List.getElem?_cons_zero, Option.some.injEq] at h
    subst h
    simp
  | x :: l, j + 1, h => by
    have ih := fm_set k l j (by simpa using h)
    cases x with
    | none => simpa using ih
    | some y => simpa using (ih.cons y).trans (List.Perm.swap k y _)
noncomputable def lcg (M x : Nat) : Nat := (x * 5 + 1) % (M + 1)
noncomputable def iter (f : Nat → Nat) : Nat → Nat → Nat
  | 0, x => x
  | n + 1, x => iter f n (f x)
theorem iter_add (f : Nat → Nat) : ∀ (m n x : Nat), iter f (m + n) x = iter f n (iter f m x)
  | 0, n, x => by rw [Nat.zero_add]; rfl
  | m + 1, n, x => by rw [show m + 1 + n = m + n + 1 by omega]; exact iter_add f m n (f x)
noncomputable def orbit (M : Nat) : Nat → Nat → List Nat
  | 0, _ => []
  | n + 1, x => x :: orbit M n (lcg M x)
theorem orbit_mem (M : Nat) : ∀ (n x y : Nat), y ∈ orbit M n x → ∃ t, t < n ∧ iter (lcg M) t x = y
  | 0, _, _, h => by cases h
  | n + 1, x, y, h => by
    rcases List.mem_cons.mp h with rfl | h
    · exact ⟨0, Nat.succ_pos _, rfl⟩
    · obtain ⟨t, ht, e⟩ := orbit_mem M n _ y h
      exact ⟨t + 1, Nat.succ_lt_succ ht, e⟩
noncomputable def fullOrbit (M : Nat) : Bool := (List.range (M + 1)).all (fun y => (orbit M (M + 1) 0).contains y) && iter (lcg M) (M + 1) 0 == 0
theorem full_reach {M : Nat} (h : fullOrbit M = true) {x y : Nat} (hx : x < M + 1) (hy : y < M + 1) : ∃ t, t < M + 1 ∧ iter (lcg M) t x = y := by
  simp only [fullOrbit, Bool.and_eq_true, List.all_eq_true, List.mem_range, List.contains_iff_mem, beq_iff_eq] at h
  obtain ⟨s, hs, es⟩ := orbit_mem M _ _ _ (h.1 x hx)
  obtain ⟨u, hu, eu⟩ := orbit_mem M _ _ _ (h.1 y hy)
  by_cases q : s ≤ u
  · refine ⟨u - s, by omega, ?_⟩
    rw [← es, ← iter_add, show s + (u - s) = u by omega, eu]
  · refine ⟨u + (M + 1) - s, by omega, ?_⟩
    rw [← es, ← iter_add, show s + (u + (M + 1) - s) = (M + 1) + u by omega, iter_add, h.2, eu]
noncomputable def taken (owner : Array (Option Nat)) (i : Nat) : Prop := (owner.getD i (some 0)).isSome = true
theorem taken_iff (owner : Array (Option Nat)) (i : Nat) (hi : i < owner.size) : taken owner i ↔ ∃ k, owner[i]? = some (some k) := by
  unfold taken
  rw [Array.getD_eq_getD_getElem?, Array.getElem?_eq_getElem hi, Option.getD_some]
  cases owner[i] <;> simp
theorem free_here {M fuel i p : Nat} {owner : Array (Option Nat)} (h : SetTable.layClean.free M owner (fuel + 1) i p = none) :
    taken owner i ∧ SetTable.layClean.free M owner fuel ((i * 5 + 1 + p / 32) % (M + 1)) (p / 32) = none := by
  unfold SetTable.layClean.free at h
  split at h
  · cases h
  · rename_i hf
    refine ⟨?_, h⟩
    have := List.find?_eq_none.mp hf 0 (List.mem_range.mpr (by unfold SetTable.runEnd; split <;> omega))
    unfold taken
    rw [Nat.add_zero, Bool.not_eq_true, Option.isNone_eq_false_iff] at this
    exact this
theorem free_zero (M : Nat) (owner : Array (Option Nat)) : ∀ (fuel i : Nat), SetTable.layClean.free M owner fuel i 0 = none → ∀ t, t < fuel → taken owner (iter (lcg M) t i)
  | 0, i, h, t, ht => by omega
  | fuel + 1, i, h, 0, ht => (free_here h).1
  | fuel + 1, i, h, t + 1, ht => by
    have := (free_here h).2
    rw [Nat.zero_div, Nat.add_zero] at this
    exact free_zero M owner fuel _ this t (by omega)
theorem free_none (M : Nat) (owner : Array (Option Nat)) : ∀ (n fuel i p : Nat), p < 32 ^ n → i < M + 1 → SetTable.layClean.free M owner fuel i p = none →
    ∃ x, x < M + 1 ∧ ∀ t, n + t < fuel → taken owner (iter (lcg M) t x)
  | 0, fuel, i, p, hn, hi, h => by
    obtain rfl : p = 0 := by simp at hn; exact hn
    exact ⟨i, hi, fun t ht => free_zero M owner fuel i h t (by omega)⟩
  | n + 1, 0, i, p, hn, hi, h => ⟨i, hi, fun t ht => by omega⟩
  | n + 1, fuel + 1, i, p, hn, hi, h => by
    obtain ⟨x, hx, hall⟩ := free_none M owner n fuel _ _ (by rw [Nat.pow_succ] at hn; exact Nat.div_lt_of_lt_mul (by omega)) (Nat.mod_lt _ (by omega)) (free_here h).2
    exact ⟨x, hx, fun t ht => hall t (by omega)⟩
theorem free_some {M : Nat} {owner : Array (Option Nat)} : ∀ {fuel i p j : Nat}, SetTable.layClean.free M owner fuel i p = some j → owner[j]? = some none
  | 0, i, p, j, h => by simp [SetTable.layClean.free] at h
  | fuel + 1, i, p, j, h => by
    unfold SetTable.layClean.free at h
    split at h
    · rename_i k hf
      cases h
      have := List.find?_some hf
      rw [Array.getD_eq_getD_getElem?] at this
      cases hq : owner[i + k]? with
      | none => rw [hq] at this; simp at this
      | some v => rw [hq] at this; cases v with
        | none => rfl
        | some _ => simp at this
    · exact free_some h
theorem bits_lt (h : Int) : SetTable.bits h < 32 ^ 13 := by
  unfold SetTable.bits
  have h1 : 0 ≤ h % (2 ^ 64 : Int) := Int.emod_nonneg _ (by decide)
  have h2 : h % (2 ^ 64 : Int) < 2 ^ 64 := Int.emod_lt_of_pos _ (by decide)
  have : (h % (2 ^ 64 : Int)).toNat < 2 ^ 64 := by omega
  exact Nat.lt_trans this (by decide)
/-- a table where not all is taken gives a place -/
theorem free_total {M : Nat} (full : fullOrbit M = true) {owner : Array (Option Nat)} {h : Int} {j : Nat} (hj : j < M + 1) (hz : owner[j]? = some none) :
    ∃ k, SetTable.layClean.free M owner (SetTable.turns M) (SetTable.bits h % (M + 1)) (SetTable.bits h) = some k := by
  cases hq : SetTable.layClean.free M owner (SetTable.turns M) (SetTable.bits h % (M + 1)) (SetTable.bits h) with
  | some k => exact ⟨k, rfl⟩
  | none =>
    obtain ⟨x, hx, hall⟩ := free_none M owner 13 _ _ _ (bits_lt h) (Nat.mod_lt _ (by omega)) hq
    obtain ⟨t, ht, e⟩ := full_reach full hx hj
    have := hall t (by unfold SetTable.turns; omega)
    rw [e] at this
    unfold taken at this
    rw [Array.getD_eq_getD_getElem?, hz] at this
    simp at this
structure Inv (M : Nat) (owner : Array (Option Nat)) (k : Nat) : Prop where
  size : owner.size = M + 1
  vals : (owner.toList.filterMap id).Perm (List.range k)
theorem fm_len_lt {α : Type} : ∀ (l : List (Option α)), (l.filterMap id).length < l.length → ∃ j, j < l.length ∧ l[j]? = some none
  | [], h => by simp at h
  | none :: l, h => ⟨0, by simp, rfl⟩
  | some x :: l, h => by
    obtain ⟨j, hj, e⟩ := fm_len_lt l (by simpa using h)
    exact ⟨j + 1, by simpa using hj, by simpa using e⟩
theorem Inv.free {M k : Nat} {owner : Array (Option Nat)} (I : Inv M owner k) (hk : k < M + 1) : ∃ j, j < M + 1 ∧ owner[j]? = some none := by
  have := I.vals.length_eq
  rw [List.length_range] at this
  obtain ⟨j, hj, e⟩ := fm_len_lt owner.toList (by rw [this, Array.length_toList, I.size]; exact hk)
  rw [Array.length_toList, I.size] at hj
  exact ⟨j, hj, by rwa [Array.getElem?_toList] at e⟩
theorem Inv.put {M k j : Nat} {owner : Array (Option Nat)} (I : Inv M owner k) (hj : owner[j]? = some none) : Inv M (owner.setIfInBounds j (some k)) (k + 1) := by
  refine ⟨by rw [Array.size_setIfInBounds]; exact I.size, ?_⟩
  rw [Array.toList_setIfInBounds]
  refine (fm_set k _ j (by rw [Array.getElem?_toList]; exact hj)).trans ?_
  rw [List.range_succ]
  exact (I.vals.cons k).trans (List.perm_append_singleton k _).symm
noncomputable abbrev lcStep (M : Nat) (acc : Option (Array (Option Nat) × Nat)) (h : Int) : Option (Array (Option Nat) × Nat) := do
  let (owner, k) ← acc
  let j ← SetTable.layClean.free M owner (SetTable.turns M) (SetTable.bits h % (M + 1)) (SetTable.bits h)
  pure (owner.setIfInBounds j (some k), k + 1)
theorem lc_fold {M : Nat} (full : fullOrbit M = true) : ∀ (hs : List Int) (owner : Array (Option Nat)) (k : Nat), Inv M owner k → k + hs.length ≤ M + 1 →
    ∃ owner', hs.foldl (lcStep M) (some (owner, k)) = some (owner', k + hs.length) ∧ Inv M owner' (k + hs.length)
  | [], owner, k, I, _ => ⟨owner, rfl, I⟩
  | h :: hs, owner, k, I, hl => by
    rw [List.length_cons] at hl
    obtain ⟨j, hj, e⟩ := I.free (by omega)
    obtain ⟨k', ek⟩ := free_total full (h := h) hj e
    obtain ⟨o', e1, I'⟩ := lc_fold full hs _ (k + 1) (I.put (free_some ek)) (by omega)
    refine ⟨o', ?_, by rw [List.length_cons, show k + (hs.length + 1) = k + 1 + hs.length by omega]; exact I'⟩
    rw [List.foldl_cons, List.length_cons, show k + (hs.length + 1) = k + 1 + hs.length by omega, ← e1]
    congr 1
    show (some (owner, k)).bind _ = _
    rw [Option.bind_some]
    dsimp only
    rw [ek]
    rfl
theorem layClean_ok {M : Nat} (full : fullOrbit M = true) (hs : Array Int) (hl : hs.size ≤ M + 1) : ∃ owner, SetTable.layClean M hs = some owner ∧ Inv M owner hs.size := by
  have I0 : Inv M (Array.replicate (M + 1) none) 0 := ⟨Array.size_replicate .., by
    rw [Array.toList_replicate]
    have : ∀ n, (List.replicate n (none : Option Nat)).filterMap id = [] := by
      intro n
      induction n with
      | zero => rfl
      | succ n ih => rw [List.replicate_succ]; simpa using ih
    rw [this]; exact .rfl⟩
  obtain ⟨o, e, I⟩ := lc_fold full hs.toList _ 0 I0 (by rw [Array.length_toList]; omega)
  rw [Array.length_toList, Nat.zero_add] at e I
  refine ⟨o, ?_, I⟩
  have e1 : SetTable.layClean M hs = (hs.foldl (lcStep M) (some (Array.replicate (M + 1) none, 0))).map (·.1) := rfl
  rw [e1, ← Array.foldl_toList, e]
  rfl
theorem live_map {α : Type} (f : Nat → Option α) : ∀ l : List Nat, ((l.filterMap fun j => (f j).map (j, ·)).map (·.2)) = l.filterMap f
  | [] => rfl
  | j :: l => by
    rw [List.filterMap_cons, List.filterMap_cons]
    cases h : f j with
    | none => simp [live_map f l]
    | some v => simp [live_map f l]
theorem live_vals (owner : Array (Option Nat)) : (List.range owner.size).filterMap (fun j => owner.getD j none) = owner.toList.filterMap id := by
  obtain ⟨l⟩ := owner
  show (List.range l.length).filterMap (fun j => (Array.mk l).getD j none) = l.filterMap id
  have : ∀ (l : List (Option Nat)), (List.range l.length).filterMap (fun j => (l[j]?).getD none) = l.filterMap id := by
    intro l
    induction l with
    | nil => rfl
    | cons x l ih =>
      rw [List.length_cons, List.range_succ_eq_map]
      rw [List.filterMap_cons, List.filterMap_map]
      have e : ((fun j => ((x :: l)[j]?).getD none) ∘ Nat.succ) = fun j => (l[j]?).getD none := by funext j; simp
      rw [e, ih]
      cases x <;> simp
  rw [← this l]
  congr 1
  funext j
  rw [Array.getD_eq_getD_getElem?, List.getElem?_toArray]
/-- a clean table is laid, whatever the hashes: the order is a shuffling of all places -/
theorem laid_ok {M : Nat} (full : fullOrbit M = true) (f m : Nat) (led plain : Bool) (hs : Array Int) (hl : hs.size ≤ M) :
    ∃ place order, SetTable.laid M f m led plain hs = some ({ mask := M, place, dummies := #[], finger := f, led, moves := m, plain }, order) ∧
      order.toList.Perm (List.range hs.size) ∧ place.size = hs.size := by
  obtain ⟨owner, e, I⟩ := layClean_ok full hs (by omega)
  unfold SetTable.laid
  rw [e]
  refine ⟨_, _, rfl, ?_, ?_⟩
  · rw [live_map]
    rw [← I.size, live_vals]
    exact I.vals
  · rw [List.size_toArray, List.length_map]
    have := congrArg List.length (live_map (fun j => owner.getD j none) (List.range (M + 1)))
    rw [List.length_map] at this
    rw [this, ← I.size, live_vals, I.vals.length_eq, List.length_range]
theorem full127 : fullOrbit 127 = true := by decide +kernel
theorem full7 : fullOrbit 7 = true := by decide +kernel
end
-- HdSet2
section
structure FsD where
  es : Array (Int × Value)
  n : Nat
  t : SetTable
noncomputable abbrev fsO (x : FsD) : Obj := { cls := .type "frozenset", data := .set x.es x.n x.t }
noncomputable def keyOf (e : Int × Value) : Str := match e.2 with
  | .str s _ => s
  | _ => default
structure Good (w : World) (x : FsD) (l : List Str) : Prop where
  ok : ∀ e ∈ x.es.toList, ∃ k t, e = (hashStr w k, Value.str k t)
  keys : (x.es.toList.map keyOf).Perm l
  fits : x.t.fits x.es.size = true
variable {prog : Program} {w : World} {A : Around} {E : Value → Shared → Prop} {s : Shared} {a : Addr} {x : FsD} {l : List Str} {k : Str} {tk : Tok}
theorem Good.size (G : Good w x l) : x.es.size = l.length := by
  have := G.keys.length_eq
  rwa [List.length_map, Array.length_toList] at this
theorem Good.elems (G : Good w x l) : ElemsOf (strKind prog w) x.es.toList := fun e he => by
  obtain ⟨k, t, rfl⟩ := G.ok e he
  exact ⟨⟨k, by show Value.isStrOf k (.str k t) = true; simp [Value.isStrOf], rfl⟩, rfl⟩
theorem isStrOf_self (k : Str) (t : Tok) : Value.isStrOf k (.str k t) = true := by simp [Value.isStrOf]
theorem isStrOf_iff {k k' : Str} {t : Tok} : Value.isStrOf k (.str k' t) = true ↔ k = k' := by
  constructor
  · intro h; exact Value.isStrOf_inj _ _ _ h (isStrOf_self k' t)
  · rintro rfl; exact isStrOf_self _ _
theorem Good.mem (G : Good w x l) (k : Str) : k ∈ l ↔ ∃ e ∈ x.es.toList, Value.isStrOf k e.2 = true := by
  rw [← G.keys.mem_iff, List.mem_map]
  constructor
  · rintro ⟨e, he, rfl⟩
    obtain ⟨k, t, rfl⟩ := G.ok e he
    exact ⟨_, he, isStrOf_self k t⟩
  · rintro ⟨e, he, h⟩
    obtain ⟨k', t, rfl⟩ := G.ok e he
    exact ⟨_, he, (isStrOf_iff.mp h).symm⟩
theorem Good.froz (G : Good w x l) {h : Heap} (ho : h.get? a = some (fsO x)) : FrozAt (strKind prog w) h a (fun k => l.contains k) l.length :=
  ⟨x.es, x.n, x.t, ho, G.elems, fun k => by rw [List.contains_iff_mem]; exact G.mem k, G.size, G.fits⟩
theorem Good.perm (G : Good w x l) {es' : Array (Int × Value)} {n' : Nat} {t' : SetTable} (p : es'.toList.Perm x.es.toList) (f : t'.fits es'.size = true) : Good w ⟨es', n', t'⟩ l :=
  ⟨fun e he => G.ok e (p.mem_iff.mp he), (p.map keyOf).trans G.keys, f⟩
theorem upd_const {h : Heap} {a : Addr} {o : Obj} {f : Obj → Obj} (e : h.get? a = some o) : h.update a f = h.update a (fun _ => f o) := by
  obtain ⟨objs, life⟩ := h
  show Heap.mk _ _ = Heap.mk _ _
  congr 1
  have q : objs[a]? = some o := by
    unfold Heap.get? at e
    dsimp only at e
    split at e
    · cases e
    · exact e
  apply Array.ext_getElem?
  intro i
  rw [Array.getElem?_modify, Array.getElem?_modify]
  by_cases hi : a = i
  · subst hi; simp [q]
  · simp [hi]
theorem upd_upd {h : Heap} {a : Addr} {f g : Obj → Obj} : (h.update a f).update a g = h.update a (g ∘ f) := by
  obtain ⟨objs, life⟩ := h
  show Heap.mk _ _ = Heap.mk _ _
  congr 1
  apply Array.ext_getElem?
  intro i
  rw [Array.getElem?_modify, Array.getElem?_modify, Array.getElem?_modify]
  by_cases hi : a = i
  · subst hi; simp [Option.map_map]
  · simp [hi]
theorem put_fs (x x' : FsD) : Obj.putSet x'.es x'.t (fsO x) = fsO ⟨x'.es, x.n + 1, x'.t⟩ := rfl
theorem upd_fs {h : Heap} (e : h.get? a = some (fsO x)) (es : Array (Int × Value)) (t : SetTable) : h.update a (Obj.putSet es t) = h.update a (fun _ => fsO ⟨es, x.n + 1, t⟩) := upd_const e
theorem get_fs {h : Heap} (e : h.get? a = some (fsO x)) (x' : FsD) : (h.update a (fun _ => fsO x')).get? a = some (fsO x') := Heap.get?_update_self _ e rfl
theorem wp_tail {es1 : Array (Int × Value)} {t2 : SetTable} {wasDummy : Bool} {R : Option Bool → Shared → Prop} (ho : s.heap.get? a = some (fsO x))
    (G1 : ∀ n t', t'.fits es1.size = true → Good w ⟨es1, n, t'⟩ (l ++ [k])) (hs1 : es1.size ≤ sizeLine) (hl : l.length < 100)
    (g : Bool → Sem Unit) (hg : ∀ (b : Bool) (s₁ : Shared) (Q' : Unit → Shared → Prop), Q' () s₁ → wpAny (model prog w) A (g b) Q' E s₁) (hf2 : t2.fits es1.size = true)
    (h : ∀ x', Good w x' (l ++ [k]) → R (some true) { s with heap := s.heap.update a (fun _ => fsO x') }) :
    wpAny (model prog w) A (do
        storeSet a es1 t2
        if (!wasDummy && t2.tooFull) = true then do
            g (relayAll t2 es1 (SetTable.grown es1.size)).2.2
            storeSet a (relayAll t2 es1 (SetTable.grown es1.size)).1 (relayAll t2 es1 (SetTable.grown es1.size)).2.1
            pure (some true)
          else pure (some true)) R E s := by
  refine wpAny_bind (wpAny_storeSet_of ho rfl ?_ hs1)
  rw [upd_fs ho es1 t2]
  have ho1 := get_fs ho ⟨es1, x.n + 1, t2⟩
  split
  · have hp := relayAll_perm t2 es1 (SetTable.grown es1.size)
    have hfr := relayAll_fits t2 es1 (SetTable.grown es1.size)
    generalize relayAll t2 es1 (SetTable.grown es1.size) = Rl at hp hfr ⊢
    obtain ⟨es2, t3, gave2⟩ := Rl
    dsimp only at hp hfr ⊢
    have G2 := (G1 0 t2 hf2).perm (n' := x.n + 1 + 1) hp hfr
    refine wpAny_bind (hg _ _ _ ?_)
    refine wpAny_bind (wpAny_storeSet_of (s := { s with heap := s.heap.update a (fun _ => fsO ⟨es1, x.n + 1, t2⟩) }) ho1 rfl ?_ ?_)
    · dsimp only
      rw [upd_fs ho1 es2 t3, upd_upd]
      exact wpAny_pure (h _ G2)
    · have := G2.size
      dsimp only at this
      rw [this, List.length_append, sizeLine_eq]; simp; omega
  · exact wpAny_pure (h _ (G1 _ t2 hf2))
/-- a str that is not there, added to a frozenset under way -/
theorem wp_add {Q : Bool → Shared → Prop} (ho : s.heap.get? a = some (fsO x)) (G : Good w x l) (hk : k ∉ l) (hl : l.length < 100)
    (h : ∀ x', Good w x' (l ++ [k]) → Q true { s with heap := s.heap.update a (fun _ => fsO x') }) :
    wpAny (model prog w) A (setAddHashed a (.str k tk) (hashStr w k)) Q E s := by
  have hb : x.es.size < scanBound := by rw [G.size]; show _ < 4096; omega
  have hkey : (strKind prog w).is k (.str k tk) = true := isStrOf_self k tk
  unfold setAddHashed setAddHashedIn
  refine wpAny_holding (wpAny_bind (wpAny_setState_of ho rfl G.fits ?_))
  dsimp only
  rw [byScan_of (knd := strKind prog w) rfl hb G.elems]
  simp only [↓reduceIte]
  unfold setAddByScan
  refine wpAny_bind ?_
  refine wpAny_bind (wpAny_rule ?_)
  refine wpAny_bind (wpAny_setScan_of (knd := strKind prog w) hkey ho rfl G.fits G.elems ?_)
  have hnone : List.findIdx? (fun e : Int × Value => (strKind prog w).is k e.2) x.es.toList = none := by
    rw [List.findIdx?_eq_none_iff]
    intro e he
    rw [← Bool.not_eq_true]
    intro q
    exact hk ((G.mem k).mpr ⟨e, he, q⟩)
  rw [hnone]
  dsimp only
  have hgw : ∀ (b : Bool) {s₁ : Shared} {Q' : Unit → Shared → Prop}, Q' () s₁ → wpAny (model prog w) A (match b with | true => rule "set.scan.the-table-gave-way" | false => pure ()) Q' E s₁ :=
    fun b s₁ Q' hq => by cases b <;> first | exact wpAny_pure hq | exact wpAny_rule hq
  have hperm := layNew_perm x.t x.es (hashStr w k) (.str k tk)
  have hfits := layNew_fits x.t x.es (hashStr w k) (.str k tk)
  generalize hL : layNew x.t x.es (hashStr w k) (.str k tk) = L at hperm hfits ⊢
  obtain ⟨es1, t1, wasDummy, gave⟩ := L
  dsimp only at hperm hfits ⊢
  rw [Array.toList_push] at hperm
  have G1 : ∀ n t', t'.fits es1.size = true → Good w ⟨es1, n, t'⟩ (l ++ [k]) := fun n t' hf => by
    refine ⟨fun e he => ?_, (hperm.map keyOf).trans ?_, hf⟩
    · rcases List.mem_append.mp (hperm.mem_iff.mp he) with he | he
      · exact G.ok e he
      · rw [List.mem_singleton] at he; subst he; exact ⟨k, tk, rfl⟩
    · rw [List.map_append]
      exact G.keys.append_right _
  have hs1 : es1.size ≤ sizeLine := by
    have := (G1 0 t1 hfits).size
    dsimp only at this
    rw [this, List.length_append, sizeLine_eq]; simp; omega
  refine wpAny_bind (hgw _ ?_)
  split
  · refine wpAny_bind ?_
    rw [hashByValue_scannable 8 rfl]
    refine wpAny_pure ?_
    have hf2 : (if plainKind (Value.str k tk) = true then t1 else { t1 with plain := false }).fits es1.size = true := by split <;> first | exact hfits | exact SetTable.fits_plain_off hfits
    exact wp_tail ho G1 hs1 hl _ (fun b s₁ Q' hq => by cases b <;> first | exact wpAny_pure hq | exact wpAny_rule hq) hf2 (fun x' G' => wpAny_pure (h x' G'))
  · refine wpAny_bind (wpAny_pure ?_)
    simp only [↓reduceIte]
    exact wp_tail ho G1 hs1 hl _ (fun b s₁ Q' hq => by cases b <;> first | exact wpAny_pure hq | exact wpAny_rule hq) hfits (fun x' G' => wpAny_pure (h x' G'))
theorem sub_froz_set : isSubtype (.type "frozenset") (.type "set") = pure false := by rw [isSubtype_type]; kernel_rfl
theorem sub_froz_froz : isSubtype (.type "frozenset") (.type "frozenset") = pure true := by rw [isSubtype_type]; kernel_rfl
theorem froz_type (ho : s.heap.get? a = some (fsO x)) : s.TypeIs (.ref a) "frozenset" := ⟨_, ho, rfl⟩
theorem wp_isAny {Q : Bool → Shared → Prop} (ho : s.heap.get? a = some (fsO x)) (h : Q true s) : wpAny (model prog w) A (Builtin.Frozenset.isAnySet (.ref a)) Q E s := by
  unfold Builtin.Frozenset.isAnySet
  refine wpAny_bind (wpAny_isInstance (froz_type ho) sub_froz_set ?_)
  exact wpAny_isInstance (froz_type ho) sub_froz_froz h
theorem wp_sizeOf {Q : Nat → Shared → Prop} (ho : s.heap.get? a = some (fsO x)) (hf : x.t.fits x.es.size = true) (h : Q x.es.size s) : wpAny (model prog w) A (Builtin.Frozenset.sizeOf a) Q E s := by
  unfold Builtin.Frozenset.sizeOf
  refine wpAny_bind ?_
  unfold setEntries
  exact wpAny_bind (wpAny_setState_of ho rfl hf (wpAny_pure (wpAny_pure h)))
theorem wp_byText {Q : Bool → Shared → Prop} (h : Q (w.params.followText "set-order") s) : wpAny (model prog w) A setsByText Q E s := by
  unfold setsByText
  exact wpAny_bind (wpAny_askSetting (wpAny_pure h))
noncomputable abbrev fresh (w : World) : FsD := ⟨#[], 0, .fresh 0 0 (!w.params.followText "set-order")⟩
theorem wp_newSet {Q : Value → Shared → Prop} (h : Q (.ref s.heap.objs.size) { s with heap := s.heap.push (fsO (fresh w)) }) : wpAny (model prog w) A (newSet (.type "frozenset")) Q E s := by
  unfold newSet
  refine wpAny_bind (wp_byText ?_)
  dsimp only
  exact wpAny_newObj_type h (by show (0 : Nat) ≤ sizeLine; omega)
theorem get_push {h : Heap} {o : Obj} (hf : o.isFreed = false) : (h.push o).get? h.objs.size = some o := Heap.get?_push_size h hf
theorem upd_push {h : Heap} {o o' : Obj} : (h.push o).update h.objs.size (fun _ => o') = h.push o' := by
  obtain ⟨objs, life⟩ := h
  show Heap.mk _ _ = Heap.mk _ _
  congr 1
  apply Array.ext_getElem?
  intro i
  rw [Array.getElem?_modify, Array.getElem?_push, Array.getElem?_push]
  by_cases hi : i = objs.size
  · subst hi; simp
  · simp only [hi, if_false]
    rw [if_neg (fun q => hi q.symm)]
theorem fm_order {α : Type} (es : Array α) (order : Array Nat) (hp : order.toList.Perm (List.range es.size)) : (order.filterMap (es[·]?)).toList.Perm es.toList := by
  rw [Array.toList_filterMap]
  exact (hp.filterMap _).trans (by rw [filterMap_getElem?_range])
/-- what a clean table gives -/
theorem wp_reordered {es : Array (Int × Value)} {M f m : Nat} {led plain : Bool} {Q : Array (Int × Value) × SetTable → Shared → Prop} (full : fullOrbit M = true) (hl : es.size ≤ M)
    (h : ∀ (es' : Array (Int × Value)) (place : Array Nat), es'.toList.Perm es.toList → place.size = es.size → Q (es', { mask := M, place, dummies := #[], finger := f, led, moves := m, plain }) s) :
    wpAny (model prog w) A (do
      let some (t, order) := SetTable.laid M f m led plain (es.map (·.1)) | unsupported "internal:set-table-without-room"
      let es' := order.filterMap (es[·]?)
      if es'.size != es.size then unsupported "internal:set-table-lost-an-element"
      pure (es', t)) Q E s := by
  obtain ⟨place, order, e, hp, hs⟩ := laid_ok full f m led plain (es.map (·.1)) (by rw [Array.size_map]; exact hl)
  rw [Array.size_map] at hp hs
  rw [e]
  dsimp only
  have p := fm_order es order hp
  have hz : ((order.filterMap (es[·]?)).size != es.size) = false := by
    have := p.length_eq
    rw [Array.length_toList, Array.length_toList] at this
    rw [this]; exact bne_self_eq_false _
  rw [hz]
  simp only [Bool.false_eq_true, ↓reduceIte]
  exact wpAny_pure (h _ _ p hs)
structure Clean (x : FsD) (M : Nat) : Prop where
  mask : x.t.mask = M
  dummies : x.t.dummies = #[]
noncomputable def maskFor (n : Nat) : Nat := if n * 5 ≥ 21 then SetTable.sizeAbove (n * 2) - 1 else 7
theorem fits_clean {M n : Nat} {place : Array Nat} {f m : Nat} {led plain : Bool} (h1 : place.size = n) (h2 : n ≤ M) : SetTable.fits { mask := M, place, dummies := #[], finger := f, led, moves := m, plain } n = true := by
  simp only [SetTable.fits, SetTable.fill, h1, beq_self_eq_true, Bool.true_and, decide_eq_true_eq]
  simpa using h2
/-- a set copied into a new one -/
theorem wp_mergeNew {r : Addr} {each : Sem Unit} {Q : Unit → Shared → Prop} (hne : r ≠ a) (hr : s.heap.get? r = some (fsO (fresh w))) (ho : s.heap.get? a = some (fsO x)) (G : Good w x l) (h0 : 0 < l.length)
    (full : fullOrbit (maskFor l.length) = true) (hl : l.length ≤ maskFor l.length) (hz : SetTable.sizeAbove (l.length * 2) ≤ sizeLine) (hz2 : l.length ≤ 1000)
    (h : ∀ x', Good w x' l → Clean x' (maskFor l.length) → Q () { s with heap := s.heap.update r (fun _ => fsO x') }) :
    wpAny (model prog w) A (setMerge r a each) Q E s := by
  unfold setMerge
  rw [if_neg (by simpa using hne)]
  refine wpAny_bind (wpAny_setState_of ho rfl G.fits ?_)
  dsimp only
  have hsz := G.size
  rw [if_neg (by rw [Array.isEmpty_iff_size_eq_zero, hsz]; omega)]
  -- room
  have room : ∀ (R : Unit → Shared → Prop), (∀ (n : Nat) (t : SetTable), t.mask = maskFor l.length → t.place = #[] → t.dummies = #[] → R () { s with heap := s.heap.update r (fun _ => fsO ⟨#[], n, t⟩) }) →
      wpAny (model prog w) A (setRoomFor r x.es.size) R E s := by
    intro R hR
    unfold setRoomFor
    refine wpAny_bind (wpAny_setState_of hr rfl rfl ?_)
    have e7 : s.heap.update r (fun _ => fsO (fresh w)) = s.heap := by
      have := upd_const (f := id) hr
      rw [show (fun _ => fsO (fresh w)) = fun _ : Obj => id (fsO (fresh w)) from rfl, ← this]
      obtain ⟨objs, life⟩ := s.heap
      show Heap.mk _ _ = Heap.mk _ _
      congr 1
      apply Array.ext_getElem?
      intro i
      rw [Array.getElem?_modify]
      split <;> simp
    unfold SetTable.roomFor
    by_cases hb : l.length * 5 ≥ 21
    · have hm : maskFor l.length = SetTable.sizeAbove (l.length * 2) - 1 := if_pos hb
      rw [if_pos (by show ((0 + 0) + x.es.size) * 5 ≥ 7 * 3; rw [hsz]; omega)]
      dsimp only
      unfold setRelay
      refine wpAny_bind (wpAny_setState_of hr rfl rfl ?_)
      dsimp only
      have e0 : ((#[] : Array Nat).size + x.es.size) * 2 = l.length * 2 := by rw [hsz]; simp
      rw [show (((SetTable.fresh 0 0 !w.params.followText "set-order").place.size + x.es.size) * 2) = l.length * 2 from e0]
      rw [if_neg (Nat.not_lt.mpr hz)]
      refine wpAny_bind ?_
      unfold SetTable.relaid
      rw [← hm]
      refine wp_reordered (es := #[]) full (Nat.zero_le _) fun es' place p hs => ?_
      have hes : es' = #[] := by
        have := p.length_eq
        rw [Array.length_toList] at this
        exact Array.eq_empty_of_size_eq_zero this
      subst hes
      dsimp only
      refine wpAny_storeSet_of hr rfl ?_ (Nat.zero_le _)
      rw [upd_fs hr]
      exact hR _ _ rfl (Array.eq_empty_of_size_eq_zero hs) rfl
    · have hm : maskFor l.length = 7 := if_neg hb
      rw [if_neg (by show ¬ ((0 + 0) + x.es.size) * 5 ≥ 7 * 3; rw [hsz]; omega)]
      dsimp only
      have := hR 0 (.fresh 0 0 (!w.params.followText "set-order")) hm.symm rfl rfl
      rw [e7] at this
      exact wpAny_pure this
  refine wpAny_bind (room _ fun n t hm hp hd => ?_)
  have hr1 := get_fs hr ⟨#[], n, t⟩
  have ho1 : (s.heap.update r (fun _ => fsO ⟨#[], n, t⟩)).get? a = some (fsO x) := by rw [Heap.get?_update_other _ _ hne]; exact ho
  refine wpAny_bind (wpAny_setState_of (s := { s with heap := s.heap.update r (fun _ => fsO ⟨#[], n, t⟩) }) hr1 rfl (by simp [SetTable.fits, SetTable.fill, hp, hd]) ?_)
  dsimp only
  have hfin : ∀ (es' : Array (Int × Value)) (t' : SetTable), Good w ⟨es', n + 1, t'⟩ l → t'.mask = maskFor l.length → t'.dummies = #[] →
      wpAny (model prog w) A (storeSet r es' t') Q E { s with heap := s.heap.update r (fun _ => fsO ⟨#[], n, t⟩) } := by
    intro es' t' G' m' d'
    refine wpAny_storeSet_of (s := { s with heap := s.heap.update r (fun _ => fsO ⟨#[], n, t⟩) }) hr1 rfl ?_ ?_
    · dsimp only
      rw [upd_fs hr1, upd_upd]
      exact h _ G' ⟨m', d'⟩
    · have := G'.size
      dsimp only at this
      rw [this, sizeLine_eq]; omega
  unfold SetTable.road
  rw [if_neg (by simp [SetTable.fill, hp, hd])]
  by_cases q : (t.mask == x.t.mask && x.t.dummies.isEmpty) = true
  · rw [if_pos q]
    dsimp only
    rw [Bool.and_eq_true, beq_iff_eq, Array.isEmpty_iff] at q
    exact hfin _ _ ⟨G.ok, G.keys, G.fits⟩ (q.1.symm.trans hm) q.2
  · rw [if_neg q]
    dsimp only
    refine wpAny_bind ?_
    rw [hm]
    refine wp_reordered full (by rw [hsz]; exact hl) fun es' place p hs => ?_
    dsimp only
    have hz' : es'.size = x.es.size := by
      have := p.length_eq
      rwa [Array.length_toList, Array.length_toList] at this
    exact hfin _ _ (G.perm (n' := n + 1) p (by rw [hz']; exact fits_clean hs (by rw [hsz]; exact hl))) rfl rfl
theorem wp_copyOf {Q : Value → Shared → Prop} (ho : s.heap.get? a = some (fsO x)) (G : Good w x l) (h0 : 0 < l.length)
    (full : fullOrbit (maskFor l.length) = true) (hl : l.length ≤ maskFor l.length) (hz : SetTable.sizeAbove (l.length * 2) ≤ sizeLine) (hz2 : l.length ≤ 1000)
    (h : ∀ x', Good w x' l → Clean x' (maskFor l.length) → Q (.ref s.heap.objs.size) { s with heap := s.heap.push (fsO x') }) :
    wpAny (model prog w) A (Builtin.Frozenset.copyOf a) Q E s := by
  unfold Builtin.Frozenset.copyOf
  refine wpAny_bind ?_
  unfold Builtin.Frozenset.baseOf
  refine wpAny_bind (wpAny_isInstance (froz_type ho) sub_froz_set ?_)
  simp only [Bool.false_eq_true, ↓reduceIte]
  refine wpAny_pure ?_
  refine wpAny_bind (wp_newSet ?_)
  unfold Builtin.Frozenset.addrOf
  refine wpAny_bind (wpAny_pure ?_)
  have hlt : a < s.heap.objs.size := Heap.lt_size ho
  refine wpAny_bind (wp_mergeNew (s := { s with heap := s.heap.push (fsO (fresh w)) }) (Nat.ne_of_gt hlt) (get_push rfl) (Heap.get?_push_of_some _ ho) G h0 full hl hz hz2 fun x' G' C' => ?_)
  refine wpAny_pure ?_
  dsimp only
  rw [upd_push]
  exact h x' G' C'
theorem walk1 {b : Addr} {y : FsD} {Q : Array (Int × Value) → Shared → Prop} (ho : s.heap.get? b = some (fsO y)) (G : Good w y l) (h1 : l.length ≤ 1)
    (h : Q y.es s) : wpAny (model prog w) A (setWalk b) Q E s := by
  have hs : y.es.size ≤ 1 := by rw [G.size]; exact h1
  unfold setWalk
  refine wpAny_bind (wpAny_setState_of ho rfl G.fits ?_)
  dsimp only
  refine wpAny_bind (wp_byText ?_)
  have one : ∀ next : Nat → Nat, pickOrder next y.es = y.es := by
    intro next
    obtain ⟨⟨es⟩, n, t⟩ := y
    dsimp only at hs ⊢
    rcases es with _ | ⟨e, _ | ⟨e', r⟩⟩
    · rfl
    · simp [pickOrder, pickOrder.go, Nat.mod_one]
    · simp at hs
  split
  · refine wpAny_bind (wpAny_askSetting (wpAny_pure ?_))
    rw [one]
    exact h
  · change wpAny (model prog w) A (if (!y.t.plain && decide (y.es.size > 1)) = true then _ else _) _ _ _
    rw [if_neg (by simp; omega)]
    refine wpAny_bind (show wpAny (model prog w) A (if (!y.t.led && decide (y.es.size > 1)) = true then unsupported "set:maker-not-led" else pure ()) _ _ _ from ?_)
    rw [if_neg (by simp; omega)]
    exact wpAny_pure (wpAny_pure h)
theorem erase_perm {α : Type} (l : List α) (i : Nat) (h : i < l.length) : (l[i] :: l.eraseIdx i).Perm l := by
  have e : l.take i ++ l[i] :: l.drop (i + 1) = l := by rw [List.getElem_cons_drop h, List.take_append_drop]
  rw [List.eraseIdx_eq_take_drop_succ]
  exact List.perm_middle.symm.trans (by rw [e])
theorem pick_go {α : Type} (next : Nat → Nat) : ∀ (fuel k : Nat) (left : List α) (out : Array α), fuel = left.length → (pickOrder.go next fuel k left out).toList.Perm (out.toList ++ left)
  | 0, k, left, out, h => by
    have : left = [] := List.length_eq_zero_iff.mp h.symm
    subst this
    simp [pickOrder.go]
  | fuel + 1, k, left, out, h => by
    unfold pickOrder.go
    have hpos : 0 < left.length := by omega
    have hlt : next k % left.length < left.length := Nat.mod_lt _ hpos
    rw [List.getElem?_eq_getElem hlt]
    dsimp only
    refine (pick_go next fuel (k + 1) _ _ (by rw [List.length_eraseIdx_of_lt hlt]; omega)).trans ?_
    rw [Array.toList_push, List.append_assoc]
    refine List.Perm.append_left _ ?_
    exact erase_perm _ _ hlt
theorem pick_perm {α : Type} (next : Nat → Nat) (xs : Array α) : (pickOrder next xs).toList.Perm xs.toList := by
  unfold pickOrder
  exact pick_go next _ _ _ _ (by rw [Array.length_toList])
theorem walk_any {b : Addr} {y : FsD} {Q : Array (Int × Value) → Shared → Prop} (ho : s.heap.get? b = some (fsO y)) (G : Good w y l)
    (hw : (w.params.followText "set-order" || (y.t.led && y.t.plain)) = true) (h : ∀ es : Array (Int × Value), es.toList.Perm y.es.toList → Q es s) : wpAny (model prog w) A (setWalk b) Q E s := by
  unfold setWalk
  refine wpAny_bind (wpAny_setState_of ho rfl G.fits ?_)
  dsimp only
  refine wpAny_bind (wp_byText ?_)
  split
  · exact wpAny_bind (wpAny_askSetting (wpAny_pure (h _ (pick_perm _ _))))
  · rename_i q
    rw [Bool.not_eq_true] at q
    rw [q, Bool.false_or, Bool.and_eq_true] at hw
    change wpAny (model prog w) A (if (!y.t.plain && decide (y.es.size > 1)) = true then _ else _) _ _ _
    rw [if_neg (by simp [hw.2])]
    refine wpAny_bind (show wpAny (model prog w) A (if (!y.t.led && decide (y.es.size > 1)) = true then unsupported "set:maker-not-led" else pure ()) _ _ _ from ?_)
    rw [if_neg (by simp [hw.1])]
    exact wpAny_pure (wpAny_pure (h _ .rfl))
theorem sets_quiet {sets : List Addr} {Q : Bool → Shared → Prop} (hs : ∀ c ∈ sets, ∃ z lz, s.heap.get? c = some (fsO z) ∧ Good w z lz) (h : Q true s) : wpAny (model prog w) A (setsQuiet sets) Q E s := by
  unfold setsQuiet
  refine wpAny_bind ?_
  refine wpAny_forIn_list _ (fun rest b s' => b = (none, ()) ∧ s = s' ∧ ∀ c ∈ rest, c ∈ sets) _ ?_ ?_ sets _ ⟨rfl, rfl, fun _ h => h⟩
  · rintro c rest b s' ⟨rfl, rfl, hm⟩
    obtain ⟨z, lz, hz, Gz⟩ := hs c (hm c (.head _))
    refine wpAny_bind ?_
    unfold setEntries
    refine wpAny_bind (wpAny_setState_of hz rfl Gz.fits (wpAny_pure ?_))
    refine wpAny_bind ?_
    refine wpAny_forIn_array' _ (fun rest2 b s' => b = (none, ()) ∧ s = s' ∧ ∀ e ∈ rest2, e ∈ z.es.toList) _ ?_ ?_ z.es _ ⟨rfl, rfl, fun _ h => h⟩
    · rintro e rest2 b s' ⟨rfl, rfl, hm2⟩
      obtain ⟨k, t, rfl⟩ := Gz.ok e (hm2 e (.head _))
      exact wpAny_pure ⟨rfl, rfl, fun e' he' => hm2 e' (.tail _ he')⟩
    · rintro b s' ⟨rfl, rfl, _⟩
      exact wpAny_pure ⟨rfl, rfl, fun c' hc' => hm c' (.tail _ hc')⟩
  · rintro b s' ⟨rfl, rfl, _⟩
    exact wpAny_pure h
theorem walk_unseen {b : Addr} {y : FsD} {others : List Addr} {Q : Array (Int × Value) → Shared → Prop} (ho : s.heap.get? b = some (fsO y)) (G : Good w y l)
    (hoth : ∀ c ∈ others, ∃ z lz, s.heap.get? c = some (fsO z) ∧ Good w z lz)
    (h : ∀ es : Array (Int × Value), es.toList.Perm y.es.toList → Q es s) : wpAny (model prog w) A (setWalkUnseen b others none) Q E s := by
  unfold setWalkUnseen
  refine wpAny_bind (wpAny_setState_of ho rfl G.fits ?_)
  dsimp only
  refine wpAny_bind (wp_byText ?_)
  split
  · rename_i q
    by_cases h1 : l.length ≤ 1
    · exact walk1 ho G h1 (h _ .rfl)
    · refine walk_any ho G ?_ h
      rw [Bool.or_eq_true, decide_eq_true_eq] at q
      rcases q with q | q
      · exact q
      · rw [G.size] at q; omega
  · refine wpAny_bind (sets_quiet (sets := b :: others) (fun c hc => ?_) ?_)
    · rcases List.mem_cons.mp hc with rfl | hc
      · exact ⟨y, l, ho, G⟩
      · exact hoth c hc
    · simp only [Bool.not_true, Bool.false_eq_true, ↓reduceIte]
      exact wpAny_bind (wpAny_rule (wpAny_pure (h _ .rfl)))
theorem toList_eraseAt {α : Type} (xs : Array α) (p : Nat) : (SetTable.eraseAt xs p).toList = xs.toList.eraseIdx p := by
  rw [List.eraseIdx_eq_take_drop_succ]
  simp [SetTable.eraseAt, List.extract_eq_take_drop, List.take_of_length_le]
theorem drop_facts (t : SetTable) (i n : Nat) (hf : t.fits n = true) (hi : i < n) :
    (t.drop i).fits (n - 1) = true ∧ (t.drop i).mask = t.mask ∧ (t.drop i).dummies.size = t.dummies.size + 1 := by
  simp only [SetTable.fits, SetTable.fill, Bool.and_eq_true, beq_iff_eq, decide_eq_true_eq] at hf
  unfold SetTable.drop
  rw [Array.getElem?_eq_getElem (by omega)]
  dsimp only
  have h1 : (SetTable.eraseAt t.place i).size = n - 1 := by
    rw [← Array.length_toList, toList_eraseAt, List.length_eraseIdx_of_lt (by rw [Array.length_toList]; omega), Array.length_toList, hf.1]
  have h2 : (SetTable.insertAt t.dummies (SetTable.below t.dummies t.place[i]) t.place[i]).size = t.dummies.size + 1 := by
    have := (SetTable.insertAt_perm t.dummies (SetTable.below t.dummies t.place[i]) t.place[i]).length_eq
    rwa [Array.length_toList, Array.length_toList, Array.size_push] at this
  have h3 : t.place.size + t.dummies.size ≤ t.mask := of_decide_eq_true hf.2
  refine ⟨?_, rfl, h2⟩
  refine Bool.and_eq_true_iff.mpr ⟨beq_iff_eq.mpr h1, decide_eq_true ?_⟩
  show (SetTable.eraseAt t.place i).size + (SetTable.insertAt t.dummies (SetTable.below t.dummies t.place[i]) t.place[i]).size ≤ t.mask
  omega
/-- a str that is there, taken out -/
theorem wp_discard {Q : Bool → Shared → Prop} (ho : s.heap.get? a = some (fsO x)) (G : Good w x l) (hk : k ∈ l) (hl : l.length < 100)
    (h : ∀ x', Good w x' (l.erase k) → x'.t.mask = x.t.mask → x'.t.dummies.size = x.t.dummies.size + 1 → Q true { s with heap := s.heap.update a (fun _ => fsO x') }) :
    wpAny (model prog w) A (setDiscardHashed a (.str k tk) (hashStr w k)) Q E s := by
  have hb : x.es.size < scanBound := by rw [G.size]; show _ < 4096; omega
  have hkey : (strKind prog w).is k (.str k tk) = true := isStrOf_self k tk
  unfold setDiscardHashed
  refine wpAny_bind ?_
  unfold setFind setFindIn
  refine wpAny_bind (wpAny_setState_of ho rfl G.fits ?_)
  dsimp only
  rw [byScan_of (knd := strKind prog w) rfl hb G.elems]
  simp only [↓reduceIte]
  refine wpAny_bind (wpAny_rule ?_)
  refine wpAny_bind (wpAny_setScan_of (knd := strKind prog w) hkey ho rfl G.fits G.elems ?_)
  cases hr : List.findIdx? (fun e : Int × Value => (strKind prog w).is k e.2) x.es.toList with
  | none =>
    obtain ⟨e, he, q⟩ := (G.mem k).mp hk
    have := List.findIdx?_eq_none_iff.mp hr e he
    rw [show (strKind prog w).is k e.2 = true from q] at this
    cases this
  | some j =>
    dsimp only
    refine wpAny_pure ?_
    dsimp only
    obtain ⟨hj, hpj, _⟩ := List.findIdx?_eq_some_iff_getElem.mp hr
    rw [Nat.zero_add]
    refine wpAny_bind (wpAny_setState_of ho rfl G.fits ?_)
    dsimp only
    rw [Array.length_toList] at hj
    obtain ⟨f1, f2, f3⟩ := drop_facts x.t j x.es.size G.fits hj
    have hsz : (SetTable.eraseAt x.es j).size = x.es.size - 1 := by
      rw [← Array.length_toList, toList_eraseAt, List.length_eraseIdx_of_lt (by rw [Array.length_toList]; omega), Array.length_toList]
    refine wpAny_bind (wpAny_storeSet_of ho rfl ?_ (by rw [hsz, sizeLine_eq]; show _ ≤ _; have : x.es.size < 4096 := hb; omega))
    rw [upd_fs ho]
    refine wpAny_bind (wpAny_point (wpAny_pure (h _ ⟨fun e he => ?_, ?_, by rw [hsz]; exact f1⟩ f2 f3)))
    · dsimp only at he
      rw [toList_eraseAt] at he
      exact G.ok e (List.mem_of_mem_eraseIdx he)
    · dsimp only
      rw [toList_eraseAt]
      have hk' : keyOf x.es.toList[j] = k := by
        obtain ⟨k', t, e⟩ := G.ok x.es.toList[j] (List.getElem_mem _)
        have hpj' : Value.isStrOf k (x.es.toList[j]).2 = true := hpj
        rw [e] at hpj' ⊢
        exact (isStrOf_iff.mp hpj').symm
      have p := (erase_perm x.es.toList j (by rw [Array.length_toList]; exact hj)).map keyOf
      rw [List.map_cons, hk'] at p
      have p2 := (p.trans G.keys)
      have p3 := p2.erase k
      rwa [List.erase_cons_head] at p3
noncomputable def eraseAll (l : List Str) (ks : List Str) : List Str := ks.foldl (fun l k => l.erase k) l
theorem Good.perm_l {l' : List Str} (G : Good w x l) (p : l.Perm l') : Good w x l' := ⟨G.ok, G.keys.trans p, G.fits⟩
theorem eraseAll_len : ∀ (ks l : List Str), (eraseAll l ks).length ≤ l.length
  | [], l => Nat.le_refl _
  | k :: ks, l => Nat.le_trans (eraseAll_len ks (l.erase k)) (List.length_erase_le ..)
theorem ref_ne {a b : Addr} (h : a ≠ b) : (Value.ref a == Value.ref b) = false := by
  rw [Bool.eq_false_iff]
  intro q
  exact h (Value.ref.inj (eq_of_beq q))
theorem eraseAll_perm {ks ks' : List Str} (p : ks.Perm ks') : ∀ l : List Str, (eraseAll l ks).Perm (eraseAll l ks') := by
  induction p with
  | nil => exact fun l => .rfl
  | cons k p ih => exact fun l => ih (l.erase k)
  | swap k k' ks =>
    intro l
    show (eraseAll ((l.erase k').erase k) ks).Perm (eraseAll ((l.erase k).erase k') ks)
    rw [List.erase_comm]
  | trans p q ih1 ih2 => exact fun l => (ih1 l).trans (ih2 l)
theorem eraseAll_append (l ks ks' : List Str) : eraseAll l (ks ++ ks') = eraseAll (eraseAll l ks) ks' := List.foldl_append ..
theorem mem_eraseAll {k : Str} : ∀ {ks l : List Str}, k ∉ ks → k ∈ l → k ∈ eraseAll l ks
  | [], l, _, h => h
  | k' :: ks, l, hn, h => by
    rw [List.mem_cons, not_or] at hn
    exact mem_eraseAll (ks := ks) hn.2 ((List.mem_erase_of_ne hn.1).mpr h)
theorem upd_same {h : Heap} {a : Addr} {o : Obj} (e : h.get? a = some o) : h.update a (fun _ => o) = h := by
  have := upd_const (f := id) e
  rw [show (fun _ => o) = fun _ : Obj => id o from rfl, ← this]
  obtain ⟨objs, life⟩ := h
  show Heap.mk _ _ = Heap.mk _ _
  congr 1
  apply Array.ext_getElem?
  intro i
  rw [Array.getElem?_modify]
  split <;> simp
theorem wp_diffUpd {id : String} {r b : Addr} {y : FsD} {lb : List Str} {Q : Unit → Shared → Prop} (hne : r ≠ b) (hr : s.heap.get? r = some (fsO x)) (ho : s.heap.get? b = some (fsO y))
    (G : Good w x l) (Gb : Good w y lb) (hin : ∀ k ∈ lb, k ∈ l) (hnd : lb.Nodup) (h1 : 2 ≤ l.length) (h2 : lb.length ≤ 2) (hl : l.length < 100) (C : Clean x 127)
    (h : ∀ x', Good w x' (eraseAll l lb) → Q () { s with heap := s.heap.update r (fun _ => fsO x') }) :
    wpAny (model prog w) A (Builtin.Frozenset.differenceUpdate id r (.ref b)) Q E s := by
  unfold Builtin.Frozenset.differenceUpdate
  rw [ref_ne hne.symm]
  simp only [Bool.false_eq_true, ↓reduceIte]
  refine wpAny_bind (wp_isAny ho ?_)
  simp only [↓reduceIte]
  unfold Builtin.Frozenset.addrOf
  refine wpAny_bind (wpAny_pure ?_)
  refine wpAny_bind (wp_sizeOf ho Gb.fits ?_)
  refine wpAny_bind (wp_sizeOf hr G.fits ?_)
  rw [if_neg (by rw [Gb.size, G.size]; omega)]
  refine wpAny_bind (wpAny_setEpoch_of ho rfl Gb.fits ?_)
  refine wpAny_bind (wpAny_holding ?_)
  refine wpAny_bind (walk_unseen ho Gb (fun c hc => ?_) fun es hp => ?_)
  · obtain rfl := List.mem_singleton.mp hc
    exact ⟨x, l, hr, G⟩
  refine wpAny_bind ?_
  refine wpAny_forIn_array' _ (fun rest _ s' => ∃ done x', (done ++ rest).Perm y.es.toList ∧ s' = { s with heap := s.heap.update r (fun _ => fsO x') } ∧ Good w x' (eraseAll l (done.map keyOf)) ∧ x'.t.mask = 127 ∧ x'.t.dummies.size = done.length) _ ?_ ?_ es _
    ⟨[], x, hp, by rw [upd_same hr], G, C.mask, by rw [C.dummies]; rfl⟩
  · rintro e rest u s' ⟨done, x', p, rfl, G', m', d'⟩
    have he : e ∈ y.es.toList := p.mem_iff.mp (by simp)
    obtain ⟨k, t, rfl⟩ := Gb.ok e he
    have hpk := (p.map keyOf).trans Gb.keys
    rw [List.map_append, List.map_cons] at hpk
    have hnd' : (done.map keyOf ++ k :: rest.map keyOf).Nodup := hpk.nodup_iff.mpr hnd
    have hk1 : k ∉ done.map keyOf := by
      intro q
      exact (List.nodup_append.mp hnd').2.2 _ q _ (.head _) rfl
    have hk2 : k ∈ l := hin k (hpk.mem_iff.mp (by simp [keyOf]))
    refine wpAny_bind (wpAny_holding ?_)
    refine wp_discard (s := { s with heap := s.heap.update r (fun _ => fsO x') }) (get_fs hr x') G' (mem_eraseAll hk1 hk2) (Nat.lt_of_le_of_lt (eraseAll_len _ _) hl) fun x'' G'' m'' d'' => ?_
    dsimp only
    rw [upd_upd]
    refine wpAny_bind ?_
    unfold Builtin.Frozenset.unchanged
    refine wpAny_bind (wpAny_setEpoch_of (o := fsO y) (by dsimp only; rw [Heap.get?_update_other _ _ hne]; exact ho) rfl Gb.fits ?_)
    simp only [bne_self_eq_false, Bool.false_eq_true, ↓reduceIte]
    refine wpAny_pure (wpAny_pure ⟨done ++ [(hashStr w k, Value.str k t)], x'', by rw [List.append_assoc]; exact p, rfl, ?_, m''.trans m', by rw [d'', d', List.length_append]; rfl⟩)
    rw [List.map_append, eraseAll_append]
    exact G''
  · rintro u s' ⟨done, x', p, rfl, G', m', d'⟩
    rw [List.append_nil] at p
    refine wpAny_pure ?_
    unfold setTidy
    refine wpAny_bind (wpAny_setState_of (o := fsO x') (get_fs hr x') rfl G'.fits ?_)
    dsimp only
    have hd : done.length ≤ 2 := by
      have := p.length_eq.trans (Array.length_toList (xs := y.es))
      rw [Gb.size] at this
      omega
    have : x'.t.tooManyDummies = false := by
      unfold SetTable.tooManyDummies
      rw [d', m']
      exact decide_eq_false (by omega)
    rw [this]
    simp only [Bool.false_eq_true, ↓reduceIte]
    exact wpAny_pure (h x' (G'.perm_l (eraseAll_perm ((p.map keyOf).trans Gb.keys) l)))
theorem mask127 : ∀ n, n = 32 ∨ n = 33 → maskFor n = 127 ∧ SetTable.sizeAbove (n * 2) ≤ sizeLine := by
  rintro n (rfl | rfl) <;> (rw [sizeLine_eq]; decide +kernel)
theorem wp_both {b : Addr} {y : FsD} {Q : Bool → Shared → Prop} (ha : s.heap.get? a = some (fsO x)) (hb : s.heap.get? b = some (fsO y)) (h : Q true s) :
    wpAny (model prog w) A (Builtin.Frozenset.isAnySet (.ref a) <&&> Builtin.Frozenset.isAnySet (.ref b)) Q E s := by
  refine wpAny_bind (wp_isAny ha ?_)
  exact wp_isAny hb h
/-- s - t, t a small set of some of s's strs -/
theorem wp_sub {b : Addr} {y : FsD} {lb : List Str} {Q : Fin → Shared → Prop} (hne : a ≠ b) (ha : s.heap.get? a = some (fsO x)) (hb : s.heap.get? b = some (fsO y))
    (G : Good w x l) (Gb : Good w y lb) (hin : ∀ k ∈ lb, k ∈ l) (hnd : lb.Nodup) (h1 : l.length = 33) (h2 : lb.length ≤ 2)
    (h : ∀ x', Good w x' (eraseAll l lb) → Q (.done (.ret (.ref s.heap.objs.size))) { s with heap := s.heap.push (fsO x') }) :
    wpAny (model prog w) A (Builtin.«frozenset.__sub__» ⟨[.ref a, .ref b], []⟩) Q E s := by
  obtain ⟨m1, m2⟩ := mask127 l.length (.inr h1)
  unfold Builtin.«frozenset.__sub__»
  change wpAny (model prog w) A (do
    let (self, other) ← Builtin.Frozenset.slot1 "__sub__" ⟨[.ref a, .ref b], []⟩
    if !(← Builtin.Frozenset.isAnySet self <&&> Builtin.Frozenset.isAnySet other) then rule s!"frozenset.{"__sub__"}.declined"; return ← ret .notImplemented
    ret (← Builtin.Frozenset.difference s!"frozenset.{"__sub__"}" (← Builtin.Frozenset.addrOf self) other)) Q E s
  refine wpAny_bind (show wpAny (model prog w) A (pure (Value.ref a, Value.ref b)) _ _ _ from wpAny_pure ?_)
  dsimp only
  refine wpAny_bind (wp_both ha hb ?_)
  simp only [Bool.not_true, Bool.false_eq_true, ↓reduceIte]
  unfold Builtin.Frozenset.addrOf
  refine wpAny_bind (wpAny_pure ?_)
  refine wpAny_bind ?_
  unfold Builtin.Frozenset.difference
  refine wpAny_bind (wp_isAny hb ?_)
  simp only [Bool.not_true, Bool.false_eq_true, ↓reduceIte]
  unfold Builtin.Frozenset.addrOf
  refine wpAny_bind (wpAny_pure ?_)
  simp only [Bool.false_and, Bool.false_eq_true, ↓reduceIte]
  refine wpAny_bind (wp_sizeOf hb Gb.fits ?_)
  refine wpAny_bind (wp_sizeOf ha G.fits ?_)
  rw [if_pos (by rw [G.size, Gb.size]; omega)]
  refine wpAny_bind (wpAny_rule ?_)
  refine wpAny_bind (wp_copyOf ha G (by omega) (by rw [m1]; exact full127) (by omega) m2 (by omega) fun x' G' C' => ?_)
  rw [m1] at C'
  refine wpAny_bind (wpAny_pure ?_)
  refine wpAny_bind (wpAny_holding ?_)
  have hlt : b < s.heap.objs.size := Heap.lt_size hb
  refine wp_diffUpd (s := { s with heap := s.heap.push (fsO x') }) (Nat.ne_of_gt hlt) (get_push rfl) (Heap.get?_push_of_some _ hb) G' Gb hin hnd (by omega) h2 (by omega) C' fun x'' G'' => ?_
  dsimp only
  rw [upd_push]
  exact wpAny_pure (wpAny_pure (h x'' G''))
/-- s | t, t of one str that s lacks -/
theorem wp_or {b : Addr} {y : FsD} {k : Str} {Q : Fin → Shared → Prop} (hne : a ≠ b) (ha : s.heap.get? a = some (fsO x)) (hb : s.heap.get? b = some (fsO y))
    (G : Good w x l) (Gb : Good w y [k]) (hk : k ∉ l) (h1 : l.length = 32 ∨ l.length = 2)
    (h : ∀ x', Good w x' (l ++ [k]) → Q (.done (.ret (.ref s.heap.objs.size))) { s with heap := s.heap.push (fsO x') }) :
    wpAny (model prog w) A (Builtin.«frozenset.__or__» ⟨[.ref a, .ref b], []⟩) Q E s := by
  have hfull : fullOrbit (maskFor l.length) = true ∧ l.length ≤ maskFor l.length ∧ SetTable.sizeAbove (l.length * 2) ≤ sizeLine ∧ (l.length + 1) * 5 < maskFor l.length * 3 := by
    rcases h1 with h1 | h1
    · obtain ⟨m1, m2⟩ := mask127 l.length (.inl h1)
      rw [m1, h1]
      rw [h1] at m2
      exact ⟨full127, by omega, m2, by omega⟩
    · rw [h1, show maskFor 2 = 7 from by decide +kernel]
      exact ⟨full7, by omega, by rw [sizeLine_eq]; decide +kernel, by omega⟩
  obtain ⟨f1, f2, f3, f4⟩ := hfull
  have hl : l.length ≤ 32 := by rcases h1 with h1 | h1 <;> omega
  have hl0 : 0 < l.length := by rcases h1 with h1 | h1 <;> omega
  unfold Builtin.«frozenset.__or__»
  change wpAny (model prog w) A (do
    let (self, other) ← Builtin.Frozenset.slot1 "__or__" ⟨[.ref a, .ref b], []⟩
    if !(← Builtin.Frozenset.isAnySet self <&&> Builtin.Frozenset.isAnySet other) then rule s!"frozenset.{"__or__"}.declined"; return ← ret .notImplemented
    ret (← (fun (l : Addr) (r : Value) => do
      let result ← Builtin.Frozenset.copyOf l
      if r != .ref l then holding [result] (Builtin.Frozenset.updateFrom s!"frozenset.{"__or__"}" (← Builtin.Frozenset.addrOf result) r)
      return result) (← Builtin.Frozenset.addrOf self) other)) Q E s
  refine wpAny_bind (show wpAny (model prog w) A (pure (Value.ref a, Value.ref b)) _ _ _ from wpAny_pure ?_)
  dsimp only
  refine wpAny_bind (wp_both ha hb ?_)
  simp only [Bool.not_true, Bool.false_eq_true, ↓reduceIte]
  unfold Builtin.Frozenset.addrOf
  refine wpAny_bind (wpAny_pure ?_)
  refine wpAny_bind ?_
  refine wpAny_bind (wp_copyOf ha G hl0 f1 f2 f3 (by omega) fun x' G' C' => ?_)
  have hne' : (Value.ref b != Value.ref a) = true := by rw [bne, ref_ne hne.symm]; rfl
  rw [hne']
  simp only [↓reduceIte]
  have hlt : b < s.heap.objs.size := Heap.lt_size hb
  have hb' : (s.heap.push (fsO x')).get? b = some (fsO y) := Heap.get?_push_of_some _ hb
  have hr' : (s.heap.push (fsO x')).get? s.heap.objs.size = some (fsO x') := get_push rfl
  refine wpAny_bind (wpAny_pure ?_)
  refine wpAny_bind (wpAny_holding ?_)
  unfold Builtin.Frozenset.updateFrom
  refine wpAny_bind (wp_isAny hb' ?_)
  simp only [↓reduceIte]
  unfold Builtin.Frozenset.addrOf
  refine wpAny_bind (wpAny_pure ?_)
  unfold Builtin.Frozenset.merge
  refine wpAny_bind (wpAny_setEpoch_of (s := { s with heap := s.heap.push (fsO x') }) hb' rfl Gb.fits ?_)
  unfold setMerge
  rw [if_neg (by rw [beq_iff_eq]; exact Nat.ne_of_gt hlt)]
  refine wpAny_bind (wpAny_setState_of (s := { s with heap := s.heap.push (fsO x') }) hb' rfl Gb.fits ?_)
  dsimp only
  have hsb : y.es.size = 1 := Gb.size
  rw [if_neg (by rw [Array.isEmpty_iff_size_eq_zero, hsb]; omega)]
  refine wpAny_bind ?_
  unfold setRoomFor
  refine wpAny_bind (wpAny_setState_of (s := { s with heap := s.heap.push (fsO x') }) hr' rfl G'.fits ?_)
  dsimp only
  have hpl : x'.t.place.size = l.length := by
    have := G'.fits
    simp only [SetTable.fits, Bool.and_eq_true, beq_iff_eq] at this
    rw [this.1, G'.size]
  have hroom : x'.t.roomFor y.es.size = none := by
    unfold SetTable.roomFor SetTable.fill
    rw [if_neg (by rw [C'.mask, C'.dummies, hpl, hsb]; simp; omega)]
  rw [hroom]
  dsimp only
  refine wpAny_pure ?_
  refine wpAny_bind (wpAny_setState_of (s := { s with heap := s.heap.push (fsO x') }) hr' rfl G'.fits ?_)
  dsimp only
  unfold SetTable.road
  rw [if_pos (by rw [bne_iff_ne]; unfold SetTable.fill; rw [hpl]; omega)]
  dsimp only
  refine wpAny_bind ?_
  unfold setWalkUnseen
  refine wpAny_bind (wpAny_setState_of (s := { s with heap := s.heap.push (fsO x') }) hb' rfl Gb.fits ?_)
  dsimp only
  refine wpAny_bind (wp_byText ?_)
  rw [if_pos (by rw [hsb]; simp)]
  refine walk1 (s := { s with heap := s.heap.push (fsO x') }) hb' Gb (by simp) ?_
  have hes : ∃ t, y.es.toList = [(hashStr w k, Value.str k t)] := by
    have hln : y.es.toList.length = 1 := by rw [Array.length_toList]; exact hsb
    obtain ⟨e, he⟩ := List.length_eq_one_iff.mp hln
    obtain ⟨k', t, rfl⟩ := Gb.ok e (by rw [he]; exact .head _)
    have := Gb.keys
    rw [he] at this
    have := List.perm_singleton.mp this
    simp only [List.map_cons, keyOf, List.map_nil, List.cons.injEq, and_true] at this
    subst this
    exact ⟨t, he⟩
  obtain ⟨t, hes⟩ := hes
  refine wpAny_bind ?_
  rw [← Array.forIn_toList, hes, List.forIn_cons]
  refine wpAny_bind ?_
  refine wpAny_bind (wpAny_holding ?_)
  refine wp_add (s := { s with heap := s.heap.push (fsO x') }) hr' G' hk (by omega) fun x'' G'' => ?_
  dsimp only
  rw [upd_push]
  refine wpAny_bind ?_
  unfold Builtin.Frozenset.unchanged
  have hb'' : (s.heap.push (fsO x'')).get? b = some (fsO y) := Heap.get?_push_of_some _ hb
  refine wpAny_bind (wpAny_setEpoch_of (s := { s with heap := s.heap.push (fsO x'') }) hb'' rfl Gb.fits ?_)
  simp only [bne_self_eq_false, Bool.false_eq_true, ↓reduceIte]
  refine wpAny_pure ?_
  refine wpAny_bind (wpAny_setState_of (s := { s with heap := s.heap.push (fsO x'') }) hb'' rfl Gb.fits ?_)
  simp only [bne_self_eq_false, Bool.false_eq_true, ↓reduceIte]
  refine wpAny_pure ?_
  dsimp only
  rw [List.forIn_nil]
  refine wpAny_pure (wpAny_pure ?_)
  exact wpAny_pure (wpAny_pure (h x'' G''))
end
-- Hd0
section
set_option maxRecDepth 100000
/-! The top's objects, as the top leaves them: their names are those that a text of the same make gave. -/
noncomputable def F.env_1 : Env := { scope := PW.main.scope, locals := mainNs, globals := mainNs, cells := [], code := .ref 13, frame := some 14 }
noncomputable def F.o_1 : Params → Obj := fun P => { cls := .type "tuple", data := .seq #[] }
noncomputable def F.o_2 : Params → Obj := fun P => { cls := .none, data := .fields #[] }
noncomputable def F.o_3 : Params → Obj := fun P => { cls := .type "code", data := .fields #[.str (.ofString "<module>") 182, .str (.ofString "<module>") 183, .str (.ofString "/claim/cut.py") 184, .int 1 0, .int 0 0, .int 0 0, .int 0 0, .int 0 0, .ref 11, .bool false, .int 181 0, .ref 12, .none, .none, .none, .none, .int 185 0, .int 1 0, .str (.ofString "/claim/cut.py") 186] }
noncomputable def F.o_4 : Params → Obj := fun P => { cls := .type "frame", slots := #[some (.ref 13), some (.ref 3), some (.ref 3), none, some (.str (.ofString "__main__") 164), none, some (.ref 0)] }
noncomputable def F.o_7 : Params → Obj := fun P => { cls := .type "tuple", data := .seq #[] }
noncomputable def F.o_8 : Params → Obj := fun P => { cls := .none, data := .fields #[] }
noncomputable def F.o_9 : Params → Obj := fun P => { cls := .type "tuple", data := .seq #[.str (.ofString "k") 190] }
noncomputable def F.o_10 : Params → Obj := fun P => { cls := .type "tuple", data := .seq #[] }
noncomputable def F.o_11 : Params → Obj := by
  refine fun P => ?_
  change (fun (_ : (stm 0) = .FunctionDef ?n ?a ?b ?d ?r ?t ?s ?u ?v ?p) => Obj) ?h
  case h => exact rfl
  exact { cls := .none, data := .func { name := .ofString "_wall", qualname := .ofString "_wall", params := ?a, body := .stmts ?b, scope := ?s, globals := 0, closure := [], defaults := .none, kwdefaults := .none } }
noncomputable def F.o_12 : Params → Obj := fun P => { cls := .type "code", data := .fields #[.str (.ofString "_wall") 187, .str (.ofString "_wall") 188, .str (.ofString "/claim/cut.py") 189, .int 1 0, .int 1 0, .int 0 0, .int 0 0, .int 3 0, .ref 15, .bool true, .int 181 0, .ref 16, .none, .ref 17, .ref 18, .ref 19, .int 191 0, .int 1 0, .str (.ofString "/claim/cut.py") 192] }
noncomputable def F.o_13 : Params → Obj := by
  refine fun P => ?_
  change (fun (_ : (stm 0) = .FunctionDef ?n ?a ?b ?d ?r ?t ?s ?u ?v ?p) => Obj) ?h
  case h => exact rfl
  exact { cls := .type "function", data := .func { name := .ofString "_wall", qualname := .ofString "_wall", params := ?a, body := .stmts ?b, scope := ?s, globals := 3, closure := [], defaults := .none, kwdefaults := .none, pyModule := .str (.ofString "__main__") 164, code := .ref 20 } }
noncomputable def F.o_14 : Params → Obj := fun P => { cls := .type "tuple", data := .seq #[] }
noncomputable def F.o_15 : Params → Obj := fun P => { cls := .type "builtin_function_or_method", data := .fields #[.builtin "type.__prepare__", .type "type"] }
noncomputable def F.o_16 : Params → Obj := fun P => { cls := .type "dict", data := .dict #[{ hash := PyData.keyHash P (Str.ofString "__module__"), key := .str (.ofString "__module__") 201, val := .str (.ofString "__main__") 164 }, { hash := PyData.keyHash P (Str.ofString "__qualname__"), key := .str (.ofString "__qualname__") 203, val := .str (.ofString "_WallAttr") 202 }, { hash := PyData.keyHash P (Str.ofString "__firstlineno__"), key := .str (.ofString "__firstlineno__") 205, val := .int 4 204 }, { hash := PyData.keyHash P (Str.ofString "__init__"), key := .str (.ofString "__init__") 213, val := .ref 35 }, { hash := PyData.keyHash P (Str.ofString "__get__"), key := .str (.ofString "__get__") 222, val := .ref 43 }, { hash := PyData.keyHash P (Str.ofString "__set__"), key := .str (.ofString "__set__") 223, val := .ref 43 }, { hash := PyData.keyHash P (Str.ofString "__delete__"), key := .str (.ofString "__delete__") 224, val := .ref 43 }, { hash := PyData.keyHash P (Str.ofString "__static_attributes__"), key := .str (.ofString "__static_attributes__") 226, val := .ref 44 }] 8 }
noncomputable def F.o_17 : Params → Obj := fun P => { cls := .type "tuple", data := .seq #[] }
noncomputable def F.o_18 : Params → Obj := fun P => { cls := .none, data := .fields #[.int 5 0, .int 4 0, .ref 34, .int 7 0, .int 4 0, .ref 42] }
noncomputable def F.o_19 : Params → Obj := fun P => { cls := .type "code", data := .fields #[.str (.ofString "_WallAttr") 196, .str (.ofString "_WallAttr") 197, .str (.ofString "/claim/cut.py") 198, .int 4 0, .int 0 0, .int 0 0, .int 0 0, .int 0 0, .ref 25, .bool false, .int 181 0, .ref 26, .none, .none, .none, .none, .int 199 0, .int 4 0, .str (.ofString "/claim/cut.py") 200] }
noncomputable def F.o_20 : Params → Obj := fun P => { cls := .type "frame", slots := #[some (.ref 27), some (.ref 3), some (.ref 24), none, some (.str (.ofString "__main__") 164), none, some (.ref 0)] }
noncomputable def F.o_21 : Params → Obj := fun P => { cls := .type "tuple", data := .seq #[] }
noncomputable def F.o_22 : Params → Obj := fun P => { cls := .none, data := .fields #[] }
noncomputable def F.o_23 : Params → Obj := fun P => { cls := .type "tuple", data := .seq #[.str (.ofString "self") 209, .str (.ofString "k") 210] }
noncomputable def F.o_24 : Params → Obj := fun P => { cls := .type "tuple", data := .seq #[] }
noncomputable def F.o_25 : Params → Obj := by
  refine fun P => ?_
  change (fun (_ : (nthS (clsB (stm 1)) 0) = .FunctionDef ?n ?a ?b ?d ?r ?t ?s ?u ?v ?p) => Obj) ?h
  case h => exact rfl
  exact { cls := .none, data := .func { name := .ofString "__init__", qualname := .ofString "_WallAttr.__init__", params := ?a, body := .stmts ?b, scope := ?s, globals := 0, closure := [], defaults := .none, kwdefaults := .none } }
noncomputable def F.o_26 : Params → Obj := fun P => { cls := .type "code", data := .fields #[.str (.ofString "__init__") 206, .str (.ofString "_WallAttr.__init__") 207, .str (.ofString "/claim/cut.py") 208, .int 5 0, .int 2 0, .int 0 0, .int 0 0, .int 3 0, .ref 29, .bool true, .int 181 0, .ref 30, .none, .ref 31, .ref 32, .ref 33, .int 211 0, .int 5 0, .str (.ofString "/claim/cut.py") 212] }
noncomputable def F.o_27 : Params → Obj := by
  refine fun P => ?_
  change (fun (_ : (nthS (clsB (stm 1)) 0) = .FunctionDef ?n ?a ?b ?d ?r ?t ?s ?u ?v ?p) => Obj) ?h
  case h => exact rfl
  exact { cls := .type "function", data := .func { name := .ofString "__init__", qualname := .ofString "_WallAttr.__init__", params := ?a, body := .stmts ?b, scope := ?s, globals := 3, closure := [], defaults := .none, kwdefaults := .none, pyModule := .str (.ofString "__main__") 164, code := .ref 34 } }
noncomputable def F.o_28 : Params → Obj := fun P => { cls := .type "tuple", data := .seq #[.none] }
noncomputable def F.o_29 : Params → Obj := fun P => { cls := .type "tuple", data := .seq #[] }
noncomputable def F.o_30 : Params → Obj := fun P => { cls := .none, data := .fields #[] }
noncomputable def F.o_31 : Params → Obj := fun P => { cls := .type "tuple", data := .seq #[.str (.ofString "self") 217, .str (.ofString "o") 218, .str (.ofString "t") 219] }
noncomputable def F.o_32 : Params → Obj := fun P => { cls := .type "tuple", data := .seq #[] }
noncomputable def F.o_33 : Params → Obj := by
  refine fun P => ?_
  change (fun (_ : (nthS (clsB (stm 1)) 1) = .FunctionDef ?n ?a ?b ?d ?r ?t ?s ?u ?v ?p) => Obj) ?h
  case h => exact rfl
  exact { cls := .none, data := .func { name := .ofString "__get__", qualname := .ofString "_WallAttr.__get__", params := ?a, body := .stmts ?b, scope := ?s, globals := 0, closure := [], defaults := .none, kwdefaults := .none } }
noncomputable def F.o_34 : Params → Obj := fun P => { cls := .type "code", data := .fields #[.str (.ofString "__get__") 214, .str (.ofString "_WallAttr.__get__") 215, .str (.ofString "/claim/cut.py") 216, .int 7 0, .int 3 0, .int 0 0, .int 0 0, .int 3 0, .ref 37, .bool true, .int 181 0, .ref 38, .none, .ref 39, .ref 40, .ref 41, .int 220 0, .int 7 0, .str (.ofString "/claim/cut.py") 221] }
noncomputable def F.o_35 : Params → Obj := by
  refine fun P => ?_
  change (fun (_ : (nthS (clsB (stm 1)) 1) = .FunctionDef ?n ?a ?b ?d ?r ?t ?s ?u ?v ?p) => Obj) ?h
  case h => exact rfl
  exact { cls := .type "function", data := .func { name := .ofString "__get__", qualname := .ofString "_WallAttr.__get__", params := ?a, body := .stmts ?b, scope := ?s, globals := 3, closure := [], defaults := .ref 36, kwdefaults := .none, pyModule := .str (.ofString "__main__") 164, code := .ref 42 } }
noncomputable def F.o_36 : Params → Obj := fun P => { cls := .type "tuple", data := .seq #[.str (.ofString "k") 225] }
noncomputable def F.o_37 : Params → Obj := fun P => { cls := .type "dict", data := .dict #[{ hash := PyData.keyHash P (Str.ofString "__module__"), key := .str (.ofString "__module__") 201, val := .str (.ofString "__main__") 164 }, { hash := PyData.keyHash P (Str.ofString "__firstlineno__"), key := .str (.ofString "__firstlineno__") 205, val := .int 4 204 }, { hash := PyData.keyHash P (Str.ofString "__init__"), key := .str (.ofString "__init__") 213, val := .ref 35 }, { hash := PyData.keyHash P (Str.ofString "__get__"), key := .str (.ofString "__get__") 222, val := .ref 43 }, { hash := PyData.keyHash P (Str.ofString "__set__"), key := .str (.ofString "__set__") 223, val := .ref 43 }, { hash := PyData.keyHash P (Str.ofString "__delete__"), key := .str (.ofString "__delete__") 224, val := .ref 43 }, { hash := PyData.keyHash P (Str.ofString "__static_attributes__"), key := .str (.ofString "__static_attributes__") 226, val := .ref 44 }, { hash := PyData.keyHash P (Str.ofString "__dict__"), key := .str (.ofString "__dict__") 228, val := .ref 47 }, { hash := PyData.keyHash P (Str.ofString "__weakref__"), key := .str (.ofString "__weakref__") 230, val := .ref 48 }, { hash := PyData.keyHash P (Str.ofString "__doc__"), key := .str (.ofString "__doc__") 231, val := .none }] 4 }
noncomputable def F.o_38 : Params → Obj := fun P => { cls := .type "type", data := .cls { name := .ofString "_WallAttr", bases := [.type "object"], mro := [.ref 46, .type "object"], ns := 45, qualname := .ofString "_WallAttr" }, slots := #[none, none, some (.str (.ofString "_WallAttr") 194), some (.str (.ofString "_WallAttr") 202), some (.builtin "object.__new__"), some (.bool true)] }
noncomputable def F.o_39 : Params → Obj := fun P => { cls := .type "getset_descriptor", data := .fields #[.str (.ofString "__dict__") 227, .ref 46, .builtin "function.__dict__", .builtin "function.__dict__#set"] }
noncomputable def F.o_40 : Params → Obj := fun P => { cls := .type "getset_descriptor", data := .fields #[.str (.ofString "__weakref__") 229, .ref 46, .builtin "ExceptionGroup.__weakref__", .none] }
noncomputable def F.o_41 : Params → Obj := fun P => { cls := .type "super", data := .fields #[.ref 46, .ref 46, .ref 46] }
noncomputable def F.o_42 : Params → Obj := fun P => { cls := .type "builtin_function_or_method", data := .fields #[.builtin "object.__init_subclass__", .ref 46] }
noncomputable def F.o_43 : Params → Obj := fun P => { cls := .type "tuple", data := .seq #[.str (.ofString " \t") 236] }
noncomputable def F.o_44 : Params → Obj := fun P => { cls := .type "tuple", data := .seq #[] }
noncomputable def F.o_45 : Params → Obj := fun P => { cls := .none, data := .fields #[] }
noncomputable def F.o_46 : Params → Obj := fun P => { cls := .type "tuple", data := .seq #[.str (.ofString "ch") 240, .str (.ofString "ws") 241] }
noncomputable def F.o_47 : Params → Obj := fun P => { cls := .type "tuple", data := .seq #[] }
noncomputable def F.o_48 : Params → Obj := by
  refine fun P => ?_
  change (fun (_ : (stm 3) = .FunctionDef ?n ?a ?b ?d ?r ?t ?s ?u ?v ?p) => Obj) ?h
  case h => exact rfl
  exact { cls := .none, data := .func { name := .ofString "IS_CHARACTER_JUNK", qualname := .ofString "IS_CHARACTER_JUNK", params := ?a, body := .stmts ?b, scope := ?s, globals := 0, closure := [], defaults := .none, kwdefaults := .none } }
noncomputable def F.o_49 : Params → Obj := fun P => { cls := .type "code", data := .fields #[.str (.ofString "IS_CHARACTER_JUNK") 237, .str (.ofString "IS_CHARACTER_JUNK") 238, .str (.ofString "/claim/cut.py") 239, .int 11 0, .int 2 0, .int 0 0, .int 0 0, .int 3 0, .ref 52, .bool true, .int 181 0, .ref 53, .none, .ref 54, .ref 55, .ref 56, .int 242 0, .int 11 0, .str (.ofString "/claim/cut.py") 243] }
noncomputable def F.o_50 : Params → Obj := by
  refine fun P => ?_
  change (fun (_ : (stm 3) = .FunctionDef ?n ?a ?b ?d ?r ?t ?s ?u ?v ?p) => Obj) ?h
  case h => exact rfl
  exact { cls := .type "function", data := .func { name := .ofString "IS_CHARACTER_JUNK", qualname := .ofString "IS_CHARACTER_JUNK", params := ?a, body := .stmts ?b, scope := ?s, globals := 3, closure := [], defaults := .ref 51, kwdefaults := .none, pyModule := .str (.ofString "cpy313.difflib") 234, code := .ref 57 } }
noncomputable def F.o_54 : Params → Obj := fun P => { cls := .type "tuple", data := .seq #[.type "object"] }
noncomputable def F.o_55 : Params → Obj := fun P => { cls := .type "builtin_function_or_method", data := .fields #[.builtin "type.__prepare__", .type "type"] }
noncomputable def F.o_56 : Params → Obj := fun P => { cls := .type "dict", data := .dict #[{ hash := PyData.keyHash P (Str.ofString "__module__"), key := .str (.ofString "__module__") 260, val := .str (.ofString "cpy313.difflib") 234 }, { hash := PyData.keyHash P (Str.ofString "__qualname__"), key := .str (.ofString "__qualname__") 262, val := .str (.ofString "HtmlDiff") 261 }, { hash := PyData.keyHash P (Str.ofString "__firstlineno__"), key := .str (.ofString "__firstlineno__") 264, val := .int 17 263 }, { hash := PyData.keyHash P (Str.ofString "_file_template"), key := .str (.ofString "_file_template") 265, val := .str bsA 245 }, { hash := PyData.keyHash P (Str.ofString "_styles"), key := .str (.ofString "_styles") 266, val := .str bsB 247 }, { hash := PyData.keyHash P (Str.ofString "_table_template"), key := .str (.ofString "_table_template") 267, val := .str bsC 249 }, { hash := PyData.keyHash P (Str.ofString "_legend"), key := .str (.ofString "_legend") 268, val := .str bsD 251 }, { hash := PyData.keyHash P (Str.ofString "_default_prefix"), key := .str (.ofString "_default_prefix") 270, val := .int 0 269 }, { hash := PyData.keyHash P (Str.ofString "__init__"), key := .str (.ofString "__init__") 282, val := .ref 73 }, { hash := PyData.keyHash P (Str.ofString "make_file"), key := .str (.ofString "make_file") 301, val := .ref 82 }, { hash := PyData.keyHash P (Str.ofString "_tab_newline_replace"), key := .str (.ofString "_tab_newline_replace") 310, val := .ref 89 }, { hash := PyData.keyHash P (Str.ofString "_split_line"), key := .str (.ofString "_split_line") 327, val := .ref 96 }, { hash := PyData.keyHash P (Str.ofString "_line_wrapper"), key := .str (.ofString "_line_wrapper") 335, val := .ref 103 }, { hash := PyData.keyHash P (Str.ofString "_collect_lines"), key := .str (.ofString "_collect_lines") 343, val := .ref 110 }, { hash := PyData.keyHash P (Str.ofString "_format_line"), key := .str (.ofString "_format_line") 354, val := .ref 117 }, { hash := PyData.keyHash P (Str.ofString "_make_prefix"), key := .str (.ofString "_make_prefix") 361, val := .ref 124 }, { hash := PyData.keyHash P (Str.ofString "_convert_flags"), key := .str (.ofString "_convert_flags") 373, val := .ref 131 }, { hash := PyData.keyHash P (Str.ofString "make_table"), key := .str (.ofString "make_table") 389, val := .ref 139 }, { hash := PyData.keyHash P (Str.ofString "__static_attributes__"), key := .str (.ofString "__static_attributes__") 394, val := .ref 140 }] 19 }
noncomputable def F.o_57 : Params → Obj := fun P => { cls := .type "tuple", data := .seq #[] }
noncomputable def F.o_58 : Params → Obj := fun P => { cls := .none, data := .fields #[.int 24 0, .int 4 0, .ref 72, .int 30 0, .int 4 0, .ref 81, .int 33 0, .int 4 0, .ref 88, .int 36 0, .int 4 0, .ref 95, .int 67 0, .int 4 0, .ref 102, .int 70 0, .int 4 0, .ref 109, .int 73 0, .int 4 0, .ref 116, .int 76 0, .int 4 0, .ref 123, .int 79 0, .int 4 0, .ref 130, .int 82 0, .int 4 0, .ref 138] }
noncomputable def F.o_59 : Params → Obj := fun P => { cls := .type "code", data := .fields #[.str (.ofString "HtmlDiff") 255, .str (.ofString "HtmlDiff") 256, .str (.ofString "/claim/cut.py") 257, .int 17 0, .int 0 0, .int 0 0, .int 0 0, .int 0 0, .ref 62, .bool false, .int 181 0, .ref 63, .none, .none, .none, .none, .int 258 0, .int 17 0, .str (.ofString "/claim/cut.py") 259] }
noncomputable def F.o_60 : Params → Obj := fun P => { cls := .type "frame", slots := #[some (.ref 64), some (.ref 3), some (.ref 61), none, some (.str (.ofString "cpy313.difflib") 234), none, some (.ref 0)] }
noncomputable def F.o_61 : Params → Obj := fun P => { cls := .type "tuple", data := .seq #[.int 8 271, .none, .none, .ref 58] }
noncomputable def F.o_62 : Params → Obj := fun P => { cls := .type "tuple", data := .seq #[] }
noncomputable def F.o_63 : Params → Obj := fun P => { cls := .none, data := .fields #[] }
noncomputable def F.o_64 : Params → Obj := fun P => { cls := .type "tuple", data := .seq #[.str (.ofString "self") 275, .str (.ofString "tabsize") 276, .str (.ofString "wrapcolumn") 277, .str (.ofString "linejunk") 278, .str (.ofString "charjunk") 279] }
noncomputable def F.o_65 : Params → Obj := fun P => { cls := .type "tuple", data := .seq #[] }
noncomputable def F.o_66 : Params → Obj := by
  refine fun P => ?_
  change (fun (_ : (nthS (clsB (stm 8)) 5) = .FunctionDef ?n ?a ?b ?d ?r ?t ?s ?u ?v ?p) => Obj) ?h
  case h => exact rfl
  exact { cls := .none, data := .func { name := .ofString "__init__", qualname := .ofString "HtmlDiff.__init__", params := ?a, body := .stmts ?b, scope := ?s, globals := 0, closure := [], defaults := .none, kwdefaults := .none } }
noncomputable def F.o_67 : Params → Obj := fun P => { cls := .type "code", data := .fields #[.str (.ofString "__init__") 272, .str (.ofString "HtmlDiff.__init__") 273, .str (.ofString "/claim/cut.py") 274, .int 24 0, .int 5 0, .int 0 0, .int 0 0, .int 3 0, .ref 67, .bool true, .int 181 0, .ref 68, .none, .ref 69, .ref 70, .ref 71, .int 280 0, .int 24 0, .str (.ofString "/claim/cut.py") 281] }
noncomputable def F.o_68 : Params → Obj := by
  refine fun P => ?_
  change (fun (_ : (nthS (clsB (stm 8)) 5) = .FunctionDef ?n ?a ?b ?d ?r ?t ?s ?u ?v ?p) => Obj) ?h
  case h => exact rfl
  exact { cls := .type "function", data := .func { name := .ofString "__init__", qualname := .ofString "HtmlDiff.__init__", params := ?a, body := .stmts ?b, scope := ?s, globals := 3, closure := [], defaults := .ref 66, kwdefaults := .none, pyModule := .str (.ofString "cpy313.difflib") 234, code := .ref 72 } }
noncomputable def F.o_69 : Params → Obj := fun P => { cls := .type "tuple", data := .seq #[.str (.ofString "") 283, .str (.ofString "") 284, .bool false, .int 5 285] }
noncomputable def F.o_70 : Params → Obj := fun P => { cls := .type "dict", data := .dict #[{ hash := PyData.keyHash P (Str.ofString "charset"), key := .str (.ofString "charset") 287, val := .str (.ofString "utf-8") 286 }] 1 }
noncomputable def F.o_71 : Params → Obj := fun P => { cls := .type "tuple", data := .seq #[] }
noncomputable def F.o_72 : Params → Obj := fun P => { cls := .none, data := .fields #[] }
noncomputable def F.o_73 : Params → Obj := fun P => { cls := .type "tuple", data := .seq #[.str (.ofString "self") 291, .str (.ofString "fromlines") 292, .str (.ofString "tolines") 293, .str (.ofString "fromdesc") 294, .str (.ofString "todesc") 295, .str (.ofString "context") 296, .str (.ofString "numlines") 297, .str (.ofString "charset") 298] }
noncomputable def F.o_74 : Params → Obj := fun P => { cls := .type "tuple", data := .seq #[] }
noncomputable def F.o_75 : Params → Obj := by
  refine fun P => ?_
  change (fun (_ : (nthS (clsB (stm 8)) 6) = .FunctionDef ?n ?a ?b ?d ?r ?t ?s ?u ?v ?p) => Obj) ?h
  case h => exact rfl
  exact { cls := .none, data := .func { name := .ofString "make_file", qualname := .ofString "HtmlDiff.make_file", params := ?a, body := .stmts ?b, scope := ?s, globals := 0, closure := [], defaults := .none, kwdefaults := .none } }
noncomputable def F.o_76 : Params → Obj := fun P => { cls := .type "code", data := .fields #[.str (.ofString "make_file") 288, .str (.ofString "HtmlDiff.make_file") 289, .str (.ofString "/claim/cut.py") 290, .int 30 0, .int 7 0, .int 0 0, .int 1 0, .int 3 0, .ref 76, .bool true, .int 181 0, .ref 77, .none, .ref 78, .ref 79, .ref 80, .int 299 0, .int 30 0, .str (.ofString "/claim/cut.py") 300] }
noncomputable def F.o_77 : Params → Obj := by
  refine fun P => ?_
  change (fun (_ : (nthS (clsB (stm 8)) 6) = .FunctionDef ?n ?a ?b ?d ?r ?t ?s ?u ?v ?p) => Obj) ?h
  case h => exact rfl
  exact { cls := .type "function", data := .func { name := .ofString "make_file", qualname := .ofString "HtmlDiff.make_file", params := ?a, body := .stmts ?b, scope := ?s, globals := 3, closure := [], defaults := .ref 74, kwdefaults := .ref 75, pyModule := .str (.ofString "cpy313.difflib") 234, code := .ref 81 } }
noncomputable def F.o_78 : Params → Obj := fun P => { cls := .type "tuple", data := .seq #[] }
noncomputable def F.o_79 : Params → Obj := fun P => { cls := .none, data := .fields #[] }
noncomputable def F.o_80 : Params → Obj := fun P => { cls := .type "tuple", data := .seq #[.str (.ofString "self") 305, .str (.ofString "fromlines") 306, .str (.ofString "tolines") 307] }
noncomputable def F.o_81 : Params → Obj := fun P => { cls := .type "tuple", data := .seq #[] }
noncomputable def F.o_82 : Params → Obj := by
  refine fun P => ?_
  change (fun (_ : (nthS (clsB (stm 8)) 7) = .FunctionDef ?n ?a ?b ?d ?r ?t ?s ?u ?v ?p) => Obj) ?h
  case h => exact rfl
  exact { cls := .none, data := .func { name := .ofString "_tab_newline_replace", qualname := .ofString "HtmlDiff._tab_newline_replace", params := ?a, body := .stmts ?b, scope := ?s, globals := 0, closure := [], defaults := .none, kwdefaults := .none } }
noncomputable def F.o_83 : Params → Obj := fun P => { cls := .type "code", data := .fields #[.str (.ofString "_tab_newline_replace") 302, .str (.ofString "HtmlDiff._tab_newline_replace") 303, .str (.ofString "/claim/cut.py") 304, .int 33 0, .int 3 0, .int 0 0, .int 0 0, .int 3 0, .ref 83, .bool true, .int 181 0, .ref 84, .none, .ref 85, .ref 86, .ref 87, .int 308 0, .int 33 0, .str (.ofString "/claim/cut.py") 309] }
noncomputable def F.o_84 : Params → Obj := by
  refine fun P => ?_
  change (fun (_ : (nthS (clsB (stm 8)) 7) = .FunctionDef ?n ?a ?b ?d ?r ?t ?s ?u ?v ?p) => Obj) ?h
  case h => exact rfl
  exact { cls := .type "function", data := .func { name := .ofString "_tab_newline_replace", qualname := .ofString "HtmlDiff._tab_newline_replace", params := ?a, body := .stmts ?b, scope := ?s, globals := 3, closure := [], defaults := .none, kwdefaults := .none, pyModule := .str (.ofString "cpy313.difflib") 234, code := .ref 88 } }
noncomputable def F.o_85 : Params → Obj := fun P => { cls := .type "tuple", data := .seq #[] }
noncomputable def F.o_86 : Params → Obj := fun P => { cls := .none, data := .fields #[] }
noncomputable def F.o_87 : Params → Obj := fun P => { cls := .type "tuple", data := .seq #[.str (.ofString "self") 314, .str (.ofString "data_list") 315, .str (.ofString "line_num") 316, .str (.ofString "text") 317, .str (.ofString "size") 318, .str (.ofString "max") 319, .str (.ofString "i") 320, .str (.ofString "n") 321, .str (.ofString "mark") 322, .str (.ofString "line1") 323, .str (.ofString "line2") 324] }
noncomputable def F.o_88 : Params → Obj := fun P => { cls := .type "tuple", data := .seq #[] }
noncomputable def F.o_89 : Params → Obj := by
  refine fun P => ?_
  change (fun (_ : (nthS (clsB (stm 8)) 8) = .FunctionDef ?n ?a ?b ?d ?r ?t ?s ?u ?v ?p) => Obj) ?h
  case h => exact rfl
  exact { cls := .none, data := .func { name := .ofString "_split_line", qualname := .ofString "HtmlDiff._split_line", params := ?a, body := .stmts ?b, scope := ?s, globals := 0, closure := [], defaults := .none, kwdefaults := .none } }
noncomputable def F.o_90 : Params → Obj := fun P => { cls := .type "code", data := .fields #[.str (.ofString "_split_line") 311, .str (.ofString "HtmlDiff._split_line") 312, .str (.ofString "/claim/cut.py") 313, .int 36 0, .int 4 0, .int 0 0, .int 0 0, .int 3 0, .ref 90, .bool true, .int 181 0, .ref 91, .none, .ref 92, .ref 93, .ref 94, .int 325 0, .int 36 0, .str (.ofString "/claim/cut.py") 326] }
noncomputable def F.o_91 : Params → Obj := by
  refine fun P => ?_
  change (fun (_ : (nthS (clsB (stm 8)) 8) = .FunctionDef ?n ?a ?b ?d ?r ?t ?s ?u ?v ?p) => Obj) ?h
  case h => exact rfl
  exact { cls := .type "function", data := .func { name := .ofString "_split_line", qualname := .ofString "HtmlDiff._split_line", params := ?a, body := .stmts ?b, scope := ?s, globals := 3, closure := [], defaults := .none, kwdefaults := .none, pyModule := .str (.ofString "cpy313.difflib") 234, code := .ref 95 } }
noncomputable def F.o_92 : Params → Obj := fun P => { cls := .type "tuple", data := .seq #[] }
noncomputable def F.o_93 : Params → Obj := fun P => { cls := .none, data := .fields #[] }
noncomputable def F.o_94 : Params → Obj := fun P => { cls := .type "tuple", data := .seq #[.str (.ofString "self") 331, .str (.ofString "diffs") 332] }
noncomputable def F.o_95 : Params → Obj := fun P => { cls := .type "tuple", data := .seq #[] }
noncomputable def F.o_96 : Params → Obj := by
  refine fun P => ?_
  change (fun (_ : (nthS (clsB (stm 8)) 9) = .FunctionDef ?n ?a ?b ?d ?r ?t ?s ?u ?v ?p) => Obj) ?h
  case h => exact rfl
  exact { cls := .none, data := .func { name := .ofString "_line_wrapper", qualname := .ofString "HtmlDiff._line_wrapper", params := ?a, body := .stmts ?b, scope := ?s, globals := 0, closure := [], defaults := .none, kwdefaults := .none } }
noncomputable def F.o_97 : Params → Obj := fun P => { cls := .type "code", data := .fields #[.str (.ofString "_line_wrapper") 328, .str (.ofString "HtmlDiff._line_wrapper") 329, .str (.ofString "/claim/cut.py") 330, .int 67 0, .int 2 0, .int 0 0, .int 0 0, .int 3 0, .ref 97, .bool true, .int 181 0, .ref 98, .none, .ref 99, .ref 100, .ref 101, .int 333 0, .int 67 0, .str (.ofString "/claim/cut.py") 334] }
noncomputable def F.o_98 : Params → Obj := by
  refine fun P => ?_
  change (fun (_ : (nthS (clsB (stm 8)) 9) = .FunctionDef ?n ?a ?b ?d ?r ?t ?s ?u ?v ?p) => Obj) ?h
  case h => exact rfl
  exact { cls := .type "function", data := .func { name := .ofString "_line_wrapper", qualname := .ofString "HtmlDiff._line_wrapper", params := ?a, body := .stmts ?b, scope := ?s, globals := 3, closure := [], defaults := .none, kwdefaults := .none, pyModule := .str (.ofString "cpy313.difflib") 234, code := .ref 102 } }
noncomputable def F.o_99 : Params → Obj := fun P => { cls := .type "tuple", data := .seq #[] }
noncomputable def F.o_100 : Params → Obj := fun P => { cls := .none, data := .fields #[] }
noncomputable def F.o_101 : Params → Obj := fun P => { cls := .type "tuple", data := .seq #[.str (.ofString "self") 339, .str (.ofString "diffs") 340] }
noncomputable def F.o_102 : Params → Obj := fun P => { cls := .type "tuple", data := .seq #[] }
noncomputable def F.o_103 : Params → Obj := by
  refine fun P => ?_
  change (fun (_ : (nthS (clsB (stm 8)) 10) = .FunctionDef ?n ?a ?b ?d ?r ?t ?s ?u ?v ?p) => Obj) ?h
  case h => exact rfl
  exact { cls := .none, data := .func { name := .ofString "_collect_lines", qualname := .ofString "HtmlDiff._collect_lines", params := ?a, body := .stmts ?b, scope := ?s, globals := 0, closure := [], defaults := .none, kwdefaults := .none } }
noncomputable def F.o_104 : Params → Obj := fun P => { cls := .type "code", data := .fields #[.str (.ofString "_collect_lines") 336, .str (.ofString "HtmlDiff._collect_lines") 337, .str (.ofString "/claim/cut.py") 338, .int 70 0, .int 2 0, .int 0 0, .int 0 0, .int 3 0, .ref 104, .bool true, .int 181 0, .ref 105, .none, .ref 106, .ref 107, .ref 108, .int 341 0, .int 70 0, .str (.ofString "/claim/cut.py") 342] }
noncomputable def F.o_105 : Params → Obj := by
  refine fun P => ?_
  change (fun (_ : (nthS (clsB (stm 8)) 10) = .FunctionDef ?n ?a ?b ?d ?r ?t ?s ?u ?v ?p) => Obj) ?h
  case h => exact rfl
  exact { cls := .type "function", data := .func { name := .ofString "_collect_lines", qualname := .ofString "HtmlDiff._collect_lines", params := ?a, body := .stmts ?b, scope := ?s, globals := 3, closure := [], defaults := .none, kwdefaults := .none, pyModule := .str (.ofString "cpy313.difflib") 234, code := .ref 109 } }
noncomputable def F.o_106 : Params → Obj := fun P => { cls := .type "tuple", data := .seq #[] }
noncomputable def F.o_107 : Params → Obj := fun P => { cls := .none, data := .fields #[] }
noncomputable def F.o_108 : Params → Obj := fun P => { cls := .type "tuple", data := .seq #[.str (.ofString "self") 347, .str (.ofString "side") 348, .str (.ofString "flag") 349, .str (.ofString "linenum") 350, .str (.ofString "text") 351] }
noncomputable def F.o_109 : Params → Obj := fun P => { cls := .type "tuple", data := .seq #[] }
noncomputable def F.o_110 : Params → Obj := by
  refine fun P => ?_
  change (fun (_ : (nthS (clsB (stm 8)) 11) = .FunctionDef ?n ?a ?b ?d ?r ?t ?s ?u ?v ?p) => Obj) ?h
  case h => exact rfl
  exact { cls := .none, data := .func { name := .ofString "_format_line", qualname := .ofString "HtmlDiff._format_line", params := ?a, body := .stmts ?b, scope := ?s, globals := 0, closure := [], defaults := .none, kwdefaults := .none } }
noncomputable def F.o_111 : Params → Obj := fun P => { cls := .type "code", data := .fields #[.str (.ofString "_format_line") 344, .str (.ofString "HtmlDiff._format_line") 345, .str (.ofString "/claim/cut.py") 346, .int 73 0, .int 5 0, .int 0 0, .int 0 0, .int 3 0, .ref 111, .bool true, .int 181 0, .ref 112, .none, .ref 113, .ref 114, .ref 115, .int 352 0, .int 73 0, .str (.ofString "/claim/cut.py") 353] }
noncomputable def F.o_112 : Params → Obj := by
  refine fun P => ?_
  change (fun (_ : (nthS (clsB (stm 8)) 11) = .FunctionDef ?n ?a ?b ?d ?r ?t ?s ?u ?v ?p) => Obj) ?h
  case h => exact rfl
  exact { cls := .type "function", data := .func { name := .ofString "_format_line", qualname := .ofString "HtmlDiff._format_line", params := ?a, body := .stmts ?b, scope := ?s, globals := 3, closure := [], defaults := .none, kwdefaults := .none, pyModule := .str (.ofString "cpy313.difflib") 234, code := .ref 116 } }
noncomputable def F.o_113 : Params → Obj := fun P => { cls := .type "tuple", data := .seq #[] }
noncomputable def F.o_114 : Params → Obj := fun P => { cls := .none, data := .fields #[] }
noncomputable def F.o_115 : Params → Obj := fun P => { cls := .type "tuple", data := .seq #[.str (.ofString "self") 358] }
noncomputable def F.o_116 : Params → Obj := fun P => { cls := .type "tuple", data := .seq #[] }
noncomputable def F.o_117 : Params → Obj := by
  refine fun P => ?_
  change (fun (_ : (nthS (clsB (stm 8)) 12) = .FunctionDef ?n ?a ?b ?d ?r ?t ?s ?u ?v ?p) => Obj) ?h
  case h => exact rfl
  exact { cls := .none, data := .func { name := .ofString "_make_prefix", qualname := .ofString "HtmlDiff._make_prefix", params := ?a, body := .stmts ?b, scope := ?s, globals := 0, closure := [], defaults := .none, kwdefaults := .none } }
noncomputable def F.o_118 : Params → Obj := fun P => { cls := .type "code", data := .fields #[.str (.ofString "_make_prefix") 355, .str (.ofString "HtmlDiff._make_prefix") 356, .str (.ofString "/claim/cut.py") 357, .int 76 0, .int 1 0, .int 0 0, .int 0 0, .int 3 0, .ref 118, .bool true, .int 181 0, .ref 119, .none, .ref 120, .ref 121, .ref 122, .int 359 0, .int 76 0, .str (.ofString "/claim/cut.py") 360] }
noncomputable def F.o_119 : Params → Obj := by
  refine fun P => ?_
  change (fun (_ : (nthS (clsB (stm 8)) 12) = .FunctionDef ?n ?a ?b ?d ?r ?t ?s ?u ?v ?p) => Obj) ?h
  case h => exact rfl
  exact { cls := .type "function", data := .func { name := .ofString "_make_prefix", qualname := .ofString "HtmlDiff._make_prefix", params := ?a, body := .stmts ?b, scope := ?s, globals := 3, closure := [], defaults := .none, kwdefaults := .none, pyModule := .str (.ofString "cpy313.difflib") 234, code := .ref 123 } }
noncomputable def F.o_120 : Params → Obj := fun P => { cls := .type "tuple", data := .seq #[] }
noncomputable def F.o_121 : Params → Obj := fun P => { cls := .none, data := .fields #[] }
noncomputable def F.o_122 : Params → Obj := fun P => { cls := .type "tuple", data := .seq #[.str (.ofString "self") 365, .str (.ofString "fromlist") 366, .str (.ofString "tolist") 367, .str (.ofString "flaglist") 368, .str (.ofString "context") 369, .str (.ofString "numlines") 370] }
noncomputable def F.o_123 : Params → Obj := fun P => { cls := .type "tuple", data := .seq #[] }
noncomputable def F.o_124 : Params → Obj := by
  refine fun P => ?_
  change (fun (_ : (nthS (clsB (stm 8)) 13) = .FunctionDef ?n ?a ?b ?d ?r ?t ?s ?u ?v ?p) => Obj) ?h
  case h => exact rfl
  exact { cls := .none, data := .func { name := .ofString "_convert_flags", qualname := .ofString "HtmlDiff._convert_flags", params := ?a, body := .stmts ?b, scope := ?s, globals := 0, closure := [], defaults := .none, kwdefaults := .none } }
noncomputable def F.o_125 : Params → Obj := fun P => { cls := .type "code", data := .fields #[.str (.ofString "_convert_flags") 362, .str (.ofString "HtmlDiff._convert_flags") 363, .str (.ofString "/claim/cut.py") 364, .int 79 0, .int 6 0, .int 0 0, .int 0 0, .int 3 0, .ref 125, .bool true, .int 181 0, .ref 126, .none, .ref 127, .ref 128, .ref 129, .int 371 0, .int 79 0, .str (.ofString "/claim/cut.py") 372] }
noncomputable def F.o_126 : Params → Obj := by
  refine fun P => ?_
  change (fun (_ : (nthS (clsB (stm 8)) 13) = .FunctionDef ?n ?a ?b ?d ?r ?t ?s ?u ?v ?p) => Obj) ?h
  case h => exact rfl
  exact { cls := .type "function", data := .func { name := .ofString "_convert_flags", qualname := .ofString "HtmlDiff._convert_flags", params := ?a, body := .stmts ?b, scope := ?s, globals := 3, closure := [], defaults := .none, kwdefaults := .none, pyModule := .str (.ofString "cpy313.difflib") 234, code := .ref 130 } }
noncomputable def F.o_127 : Params → Obj := fun P => { cls := .type "tuple", data := .seq #[.str (.ofString "") 374, .str (.ofString "") 375, .bool false, .int 5 376] }
noncomputable def F.o_128 : Params → Obj := fun P => { cls := .type "tuple", data := .seq #[] }
noncomputable def F.o_129 : Params → Obj := fun P => { cls := .none, data := .fields #[] }
noncomputable def F.o_130 : Params → Obj := fun P => { cls := .type "tuple", data := .seq #[.str (.ofString "self") 380, .str (.ofString "fromlines") 381, .str (.ofString "tolines") 382, .str (.ofString "fromdesc") 383, .str (.ofString "todesc") 384, .str (.ofString "context") 385, .str (.ofString "numlines") 386] }
noncomputable def F.o_131 : Params → Obj := fun P => { cls := .type "tuple", data := .seq #[] }
noncomputable def F.o_132 : Params → Obj := by
  refine fun P => ?_
  change (fun (_ : (nthS (clsB (stm 8)) 14) = .FunctionDef ?n ?a ?b ?d ?r ?t ?s ?u ?v ?p) => Obj) ?h
  case h => exact rfl
  exact { cls := .none, data := .func { name := .ofString "make_table", qualname := .ofString "HtmlDiff.make_table", params := ?a, body := .stmts ?b, scope := ?s, globals := 0, closure := [], defaults := .none, kwdefaults := .none } }
noncomputable def F.o_133 : Params → Obj := fun P => { cls := .type "code", data := .fields #[.str (.ofString "make_table") 377, .str (.ofString "HtmlDiff.make_table") 378, .str (.ofString "/claim/cut.py") 379, .int 82 0, .int 7 0, .int 0 0, .int 0 0, .int 3 0, .ref 133, .bool true, .int 181 0, .ref 134, .none, .ref 135, .ref 136, .ref 137, .int 387 0, .int 82 0, .str (.ofString "/claim/cut.py") 388] }
noncomputable def F.o_134 : Params → Obj := by
  refine fun P => ?_
  change (fun (_ : (nthS (clsB (stm 8)) 14) = .FunctionDef ?n ?a ?b ?d ?r ?t ?s ?u ?v ?p) => Obj) ?h
  case h => exact rfl
  exact { cls := .type "function", data := .func { name := .ofString "make_table", qualname := .ofString "HtmlDiff.make_table", params := ?a, body := .stmts ?b, scope := ?s, globals := 3, closure := [], defaults := .ref 132, kwdefaults := .none, pyModule := .str (.ofString "cpy313.difflib") 234, code := .ref 138 } }
noncomputable def F.o_135 : Params → Obj := fun P => { cls := .type "tuple", data := .seq #[.str (.ofString "_charjunk") 390, .str (.ofString "_linejunk") 391, .str (.ofString "_tabsize") 392, .str (.ofString "_wrapcolumn") 393] }
noncomputable def F.o_136 : Params → Obj := fun P => { cls := .type "dict", data := .dict #[{ hash := PyData.keyHash P (Str.ofString "__module__"), key := .str (.ofString "__module__") 260, val := .str (.ofString "cpy313.difflib") 234 }, { hash := PyData.keyHash P (Str.ofString "__firstlineno__"), key := .str (.ofString "__firstlineno__") 264, val := .int 17 263 }, { hash := PyData.keyHash P (Str.ofString "_file_template"), key := .str (.ofString "_file_template") 265, val := .str bsA 245 }, { hash := PyData.keyHash P (Str.ofString "_styles"), key := .str (.ofString "_styles") 266, val := .str bsB 247 }, { hash := PyData.keyHash P (Str.ofString "_table_template"), key := .str (.ofString "_table_template") 267, val := .str bsC 249 }, { hash := PyData.keyHash P (Str.ofString "_legend"), key := .str (.ofString "_legend") 268, val := .str bsD 251 }, { hash := PyData.keyHash P (Str.ofString "_default_prefix"), key := .str (.ofString "_default_prefix") 270, val := .int 0 269 }, { hash := PyData.keyHash P (Str.ofString "__init__"), key := .str (.ofString "__init__") 282, val := .ref 73 }, { hash := PyData.keyHash P (Str.ofString "make_file"), key := .str (.ofString "make_file") 301, val := .ref 82 }, { hash := PyData.keyHash P (Str.ofString "_tab_newline_replace"), key := .str (.ofString "_tab_newline_replace") 310, val := .ref 89 }, { hash := PyData.keyHash P (Str.ofString "_split_line"), key := .str (.ofString "_split_line") 327, val := .ref 96 }, { hash := PyData.keyHash P (Str.ofString "_line_wrapper"), key := .str (.ofString "_line_wrapper") 335, val := .ref 103 }, { hash := PyData.keyHash P (Str.ofString "_collect_lines"), key := .str (.ofString "_collect_lines") 343, val := .ref 110 }, { hash := PyData.keyHash P (Str.ofString "_format_line"), key := .str (.ofString "_format_line") 354, val := .ref 117 }, { hash := PyData.keyHash P (Str.ofString "_make_prefix"), key := .str (.ofString "_make_prefix") 361, val := .ref 124 }, { hash := PyData.keyHash P (Str.ofString "_convert_flags"), key := .str (.ofString "_convert_flags") 373, val := .ref 131 }, { hash := PyData.keyHash P (Str.ofString "make_table"), key := .str (.ofString "make_table") 389, val := .ref 139 }, { hash := PyData.keyHash P (Str.ofString "__static_attributes__"), key := .str (.ofString "__static_attributes__") 394, val := .ref 140 }, { hash := PyData.keyHash P (Str.ofString "__dict__"), key := .str (.ofString "__dict__") 396, val := .ref 143 }, { hash := PyData.keyHash P (Str.ofString "__weakref__"), key := .str (.ofString "__weakref__") 398, val := .ref 144 }, { hash := PyData.keyHash P (Str.ofString "__doc__"), key := .str (.ofString "__doc__") 399, val := .none }] 4 }
noncomputable def F.o_137 : Params → Obj := fun P => { cls := .type "type", data := .cls { name := .ofString "HtmlDiff", bases := [.type "object"], mro := [.ref 142, .type "object"], ns := 141, qualname := .ofString "HtmlDiff" }, slots := #[some (.ref 59), none, some (.str (.ofString "HtmlDiff") 253), some (.str (.ofString "HtmlDiff") 261), some (.builtin "object.__new__"), some (.bool true)] }
noncomputable def F.o_138 : Params → Obj := fun P => { cls := .type "getset_descriptor", data := .fields #[.str (.ofString "__dict__") 395, .ref 142, .builtin "function.__dict__", .builtin "function.__dict__#set"] }
noncomputable def F.o_139 : Params → Obj := fun P => { cls := .type "getset_descriptor", data := .fields #[.str (.ofString "__weakref__") 397, .ref 142, .builtin "ExceptionGroup.__weakref__", .none] }
noncomputable def F.o_140 : Params → Obj := fun P => { cls := .type "super", data := .fields #[.ref 142, .ref 142, .ref 142] }
noncomputable def F.o_141 : Params → Obj := fun P => { cls := .type "builtin_function_or_method", data := .fields #[.builtin "object.__init_subclass__", .ref 142] }
noncomputable def F.o_252 : Params → Obj := fun P => { cls := .type "mappingproxy", data := .fields #[.ref 45] }
noncomputable def F.o_256 : Params → Obj := fun P => { cls := .type "dict", data := .dict #[{ hash := PyData.keyHash P (Str.ofString "\\b"), key := .str (.ofString "\\b") 627, val := .str (.ofString "\x08") 628 }, { hash := PyData.keyHash P (Str.ofString "\\t"), key := .str (.ofString "\\t") 629, val := .str (.ofString "\t") 630 }, { hash := PyData.keyHash P (Str.ofString "\\n"), key := .str (.ofString "\\n") 631, val := .str (.ofString "\n") 632 }, { hash := PyData.keyHash P (Str.ofString "\\f"), key := .str (.ofString "\\f") 633, val := .str (.ofString "\x0c") 634 }, { hash := PyData.keyHash P (Str.ofString "\\r"), key := .str (.ofString "\\r") 635, val := .str (.ofString "\x0d") 636 }, { hash := PyData.keyHash P (Str.ofString "\\\""), key := .str (.ofString "\\\"") 637, val := .str (.ofString "\"") 638 }, { hash := PyData.keyHash P (Str.ofString "\\\\"), key := .str (.ofString "\\\\") 639, val := .str (.ofString "\\") 640 }] 7 }
noncomputable def F.o_257 : Params → Obj := fun P => { cls := .type "mappingproxy", data := .fields #[.ref 188] }
noncomputable def F.o_258 : Params → Obj := fun P => { cls := .type "tuple", data := .seq #[.type "ValueError"] }
noncomputable def F.o_259 : Params → Obj := fun P => { cls := .type "builtin_function_or_method", data := .fields #[.builtin "type.__prepare__", .type "type"] }
noncomputable def F.o_260 : Params → Obj := fun P => { cls := .type "dict", data := .dict #[{ hash := PyData.keyHash P (Str.ofString "__module__"), key := .str (.ofString "__module__") 656, val := .str (.ofString "cpy313.tomllib._parser") 625 }, { hash := PyData.keyHash P (Str.ofString "__qualname__"), key := .str (.ofString "__qualname__") 658, val := .str (.ofString "TOMLDecodeError") 657 }, { hash := PyData.keyHash P (Str.ofString "__firstlineno__"), key := .str (.ofString "__firstlineno__") 660, val := .int 98 659 }, { hash := PyData.keyHash P (Str.ofString "__static_attributes__"), key := .str (.ofString "__static_attributes__") 661, val := .ref 197 }] 4 }
noncomputable def F.o_261 : Params → Obj := fun P => { cls := .type "tuple", data := .seq #[] }
noncomputable def F.o_262 : Params → Obj := fun P => { cls := .none, data := .fields #[] }
noncomputable def F.o_263 : Params → Obj := fun P => { cls := .type "code", data := .fields #[.str (.ofString "TOMLDecodeError") 651, .str (.ofString "TOMLDecodeError") 652, .str (.ofString "/claim/cut.py") 653, .int 98 0, .int 0 0, .int 0 0, .int 0 0, .int 0 0, .ref 193, .bool false, .int 181 0, .ref 194, .none, .none, .none, .none, .int 654 0, .int 98 0, .str (.ofString "/claim/cut.py") 655] }
noncomputable def F.o_264 : Params → Obj := fun P => { cls := .type "frame", slots := #[some (.ref 195), some (.ref 3), some (.ref 192), none, some (.str (.ofString "cpy313.tomllib._parser") 625), none, some (.ref 0)] }
noncomputable def F.o_265 : Params → Obj := fun P => { cls := .type "tuple", data := .seq #[] }
noncomputable def F.o_266 : Params → Obj := fun P => { cls := .type "dict", data := .dict #[{ hash := PyData.keyHash P (Str.ofString "__module__"), key := .str (.ofString "__module__") 656, val := .str (.ofString "cpy313.tomllib._parser") 625 }, { hash := PyData.keyHash P (Str.ofString "__firstlineno__"), key := .str (.ofString "__firstlineno__") 660, val := .int 98 659 }, { hash := PyData.keyHash P (Str.ofString "__static_attributes__"), key := .str (.ofString "__static_attributes__") 661, val := .ref 197 }, { hash := PyData.keyHash P (Str.ofString "__weakref__"), key := .str (.ofString "__weakref__") 663, val := .ref 200 }, { hash := PyData.keyHash P (Str.ofString "__doc__"), key := .str (.ofString "__doc__") 664, val := .none }] 3 }
noncomputable def F.o_267 : Params → Obj := fun P => { cls := .type "type", data := .cls { name := .ofString "TOMLDecodeError", bases := [.type "ValueError"], mro := [.ref 199, .type "ValueError", .type "Exception", .type "BaseException", .type "object"], ns := 198, qualname := .ofString "TOMLDecodeError" }, slots := #[some (.ref 190), none, some (.str (.ofString "TOMLDecodeError") 649), some (.str (.ofString "TOMLDecodeError") 657), some (.builtin "ValueError.__new__"), some (.bool true)] }
noncomputable def F.o_268 : Params → Obj := fun P => { cls := .type "getset_descriptor", data := .fields #[.str (.ofString "__weakref__") 662, .ref 199, .builtin "ExceptionGroup.__weakref__", .none] }
noncomputable def F.o_269 : Params → Obj := fun P => { cls := .type "super", data := .fields #[.ref 199, .ref 199, .ref 199] }
noncomputable def F.o_270 : Params → Obj := fun P => { cls := .type "builtin_function_or_method", data := .fields #[.builtin "object.__init_subclass__", .ref 199] }
noncomputable def F.o_271 : Params → Obj := fun P => { cls := .type "tuple", data := .seq #[] }
noncomputable def F.o_272 : Params → Obj := fun P => { cls := .none, data := .fields #[] }
noncomputable def F.o_273 : Params → Obj := fun P => { cls := .type "tuple", data := .seq #[.str (.ofString "src") 670, .str (.ofString "pos") 671, .str (.ofString "chars") 672] }
noncomputable def F.o_274 : Params → Obj := fun P => { cls := .type "tuple", data := .seq #[] }
noncomputable def F.o_275 : Params → Obj := by
  refine fun P => ?_
  change (fun (_ : (stm 24) = .FunctionDef ?n ?a ?b ?d ?r ?t ?s ?u ?v ?p) => Obj) ?h
  case h => exact rfl
  exact { cls := .none, data := .func { name := .ofString "skip_chars", qualname := .ofString "skip_chars", params := ?a, body := .stmts ?b, scope := ?s, globals := 0, closure := [], defaults := .none, kwdefaults := .none } }
noncomputable def F.o_276 : Params → Obj := fun P => { cls := .type "code", data := .fields #[.str (.ofString "skip_chars") 667, .str (.ofString "skip_chars") 668, .str (.ofString "/claim/cut.py") 669, .int 100 0, .int 3 0, .int 0 0, .int 0 0, .int 3 0, .ref 203, .bool true, .int 181 0, .ref 204, .none, .ref 205, .ref 206, .ref 207, .int 673 0, .int 100 0, .str (.ofString "/claim/cut.py") 674] }
noncomputable def F.o_277 : Params → Obj := by
  refine fun P => ?_
  change (fun (_ : (stm 24) = .FunctionDef ?n ?a ?b ?d ?r ?t ?s ?u ?v ?p) => Obj) ?h
  case h => exact rfl
  exact { cls := .type "function", data := .func { name := .ofString "skip_chars", qualname := .ofString "skip_chars", params := ?a, body := .stmts ?b, scope := ?s, globals := 3, closure := [], defaults := .none, kwdefaults := .none, pyModule := .str (.ofString "cpy313.tomllib._parser") 625, code := .ref 208 } }
noncomputable def F.o_278 : Params → Obj := fun P => { cls := .type "tuple", data := .seq #[] }
noncomputable def F.o_279 : Params → Obj := fun P => { cls := .none, data := .fields #[] }
noncomputable def F.o_280 : Params → Obj := fun P => { cls := .type "tuple", data := .seq #[.str (.ofString "src") 679, .str (.ofString "pos") 680, .str (.ofString "expect") 681, .str (.ofString "error_on") 682, .str (.ofString "error_on_eof") 683, .str (.ofString "new_pos") 684] }
noncomputable def F.o_281 : Params → Obj := fun P => { cls := .type "tuple", data := .seq #[] }
noncomputable def F.o_282 : Params → Obj := by
  refine fun P => ?_
  change (fun (_ : (stm 25) = .FunctionDef ?n ?a ?b ?d ?r ?t ?s ?u ?v ?p) => Obj) ?h
  case h => exact rfl
  exact { cls := .none, data := .func { name := .ofString "skip_until", qualname := .ofString "skip_until", params := ?a, body := .stmts ?b, scope := ?s, globals := 0, closure := [], defaults := .none, kwdefaults := .none } }
noncomputable def F.o_283 : Params → Obj := fun P => { cls := .type "code", data := .fields #[.str (.ofString "skip_until") 676, .str (.ofString "skip_until") 677, .str (.ofString "/claim/cut.py") 678, .int 107 0, .int 3 0, .int 0 0, .int 2 0, .int 3 0, .ref 210, .bool true, .int 181 0, .ref 211, .none, .ref 212, .ref 213, .ref 214, .int 685 0, .int 107 0, .str (.ofString "/claim/cut.py") 686] }
noncomputable def F.o_284 : Params → Obj := by
  refine fun P => ?_
  change (fun (_ : (stm 25) = .FunctionDef ?n ?a ?b ?d ?r ?t ?s ?u ?v ?p) => Obj) ?h
  case h => exact rfl
  exact { cls := .type "function", data := .func { name := .ofString "skip_until", qualname := .ofString "skip_until", params := ?a, body := .stmts ?b, scope := ?s, globals := 3, closure := [], defaults := .none, kwdefaults := .none, pyModule := .str (.ofString "cpy313.tomllib._parser") 625, code := .ref 215 } }
noncomputable def F.o_290 : Params → Obj := fun P => { cls := .type "dict", data := .dict #[{ hash := PyData.keyHash P (Str.ofString "multiline"), key := .str (.ofString "multiline") 688, val := .bool false }] 1 }
noncomputable def F.o_291 : Params → Obj := fun P => { cls := .type "tuple", data := .seq #[] }
noncomputable def F.o_292 : Params → Obj := fun P => { cls := .none, data := .fields #[] }
noncomputable def F.o_293 : Params → Obj := fun P => { cls := .type "tuple", data := .seq #[.str (.ofString "src") 692, .str (.ofString "pos") 693, .str (.ofString "multiline") 694, .str (.ofString "escape_id") 695, .str (.ofString "char") 696] }
noncomputable def F.o_294 : Params → Obj := fun P => { cls := .type "tuple", data := .seq #[] }
noncomputable def F.o_295 : Params → Obj := by
  refine fun P => ?_
  change (fun (_ : (stm 26) = .FunctionDef ?n ?a ?b ?d ?r ?t ?s ?u ?v ?p) => Obj) ?h
  case h => exact rfl
  exact { cls := .none, data := .func { name := .ofString "parse_basic_str_escape", qualname := .ofString "parse_basic_str_escape", params := ?a, body := .stmts ?b, scope := ?s, globals := 0, closure := [], defaults := .none, kwdefaults := .none } }
noncomputable def F.o_296 : Params → Obj := fun P => { cls := .type "code", data := .fields #[.str (.ofString "parse_basic_str_escape") 689, .str (.ofString "parse_basic_str_escape") 690, .str (.ofString "/claim/cut.py") 691, .int 119 0, .int 2 0, .int 0 0, .int 1 0, .int 3 0, .ref 218, .bool true, .int 181 0, .ref 219, .none, .ref 220, .ref 221, .ref 222, .int 697 0, .int 119 0, .str (.ofString "/claim/cut.py") 698] }
noncomputable def F.o_297 : Params → Obj := by
  refine fun P => ?_
  change (fun (_ : (stm 26) = .FunctionDef ?n ?a ?b ?d ?r ?t ?s ?u ?v ?p) => Obj) ?h
  case h => exact rfl
  exact { cls := .type "function", data := .func { name := .ofString "parse_basic_str_escape", qualname := .ofString "parse_basic_str_escape", params := ?a, body := .stmts ?b, scope := ?s, globals := 3, closure := [], defaults := .none, kwdefaults := .ref 217, pyModule := .str (.ofString "cpy313.tomllib._parser") 625, code := .ref 223 } }
noncomputable def F.o_298 : Params → Obj := fun P => { cls := .type "tuple", data := .seq #[] }
noncomputable def F.o_299 : Params → Obj := fun P => { cls := .none, data := .fields #[] }
noncomputable def F.o_300 : Params → Obj := fun P => { cls := .type "tuple", data := .seq #[.str (.ofString "src") 703, .str (.ofString "pos") 704] }
noncomputable def F.o_301 : Params → Obj := fun P => { cls := .type "tuple", data := .seq #[] }
noncomputable def F.o_302 : Params → Obj := by
  refine fun P => ?_
  change (fun (_ : (stm 27) = .FunctionDef ?n ?a ?b ?d ?r ?t ?s ?u ?v ?p) => Obj) ?h
  case h => exact rfl
  exact { cls := .none, data := .func { name := .ofString "parse_basic_str_escape_multiline", qualname := .ofString "parse_basic_str_escape_multiline", params := ?a, body := .stmts ?b, scope := ?s, globals := 0, closure := [], defaults := .none, kwdefaults := .none } }
noncomputable def F.o_303 : Params → Obj := fun P => { cls := .type "code", data := .fields #[.str (.ofString "parse_basic_str_escape_multiline") 700, .str (.ofString "parse_basic_str_escape_multiline") 701, .str (.ofString "/claim/cut.py") 702, .int 142 0, .int 2 0, .int 0 0, .int 0 0, .int 3 0, .ref 225, .bool true, .int 181 0, .ref 226, .none, .ref 227, .ref 228, .ref 229, .int 705 0, .int 142 0, .str (.ofString "/claim/cut.py") 706] }
noncomputable def F.o_304 : Params → Obj := by
  refine fun P => ?_
  change (fun (_ : (stm 27) = .FunctionDef ?n ?a ?b ?d ?r ?t ?s ?u ?v ?p) => Obj) ?h
  case h => exact rfl
  exact { cls := .type "function", data := .func { name := .ofString "parse_basic_str_escape_multiline", qualname := .ofString "parse_basic_str_escape_multiline", params := ?a, body := .stmts ?b, scope := ?s, globals := 3, closure := [], defaults := .none, kwdefaults := .none, pyModule := .str (.ofString "cpy313.tomllib._parser") 625, code := .ref 230 } }
noncomputable def F.o_305 : Params → Obj := fun P => { cls := .type "tuple", data := .seq #[] }
noncomputable def F.o_306 : Params → Obj := fun P => { cls := .none, data := .fields #[] }
noncomputable def F.o_307 : Params → Obj := fun P => { cls := .type "tuple", data := .seq #[.str (.ofString "src") 711, .str (.ofString "pos") 712, .str (.ofString "hex_len") 713, .str (.ofString "hex_str") 714, .str (.ofString "hex_int") 715] }
noncomputable def F.o_308 : Params → Obj := fun P => { cls := .type "tuple", data := .seq #[] }
noncomputable def F.o_309 : Params → Obj := by
  refine fun P => ?_
  change (fun (_ : (stm 28) = .FunctionDef ?n ?a ?b ?d ?r ?t ?s ?u ?v ?p) => Obj) ?h
  case h => exact rfl
  exact { cls := .none, data := .func { name := .ofString "parse_hex_char", qualname := .ofString "parse_hex_char", params := ?a, body := .stmts ?b, scope := ?s, globals := 0, closure := [], defaults := .none, kwdefaults := .none } }
noncomputable def F.o_310 : Params → Obj := fun P => { cls := .type "code", data := .fields #[.str (.ofString "parse_hex_char") 708, .str (.ofString "parse_hex_char") 709, .str (.ofString "/claim/cut.py") 710, .int 144 0, .int 3 0, .int 0 0, .int 0 0, .int 3 0, .ref 232, .bool true, .int 181 0, .ref 233, .none, .ref 234, .ref 235, .ref 236, .int 716 0, .int 144 0, .str (.ofString "/claim/cut.py") 717] }
noncomputable def F.o_311 : Params → Obj := by
  refine fun P => ?_
  change (fun (_ : (stm 28) = .FunctionDef ?n ?a ?b ?d ?r ?t ?s ?u ?v ?p) => Obj) ?h
  case h => exact rfl
  exact { cls := .type "function", data := .func { name := .ofString "parse_hex_char", qualname := .ofString "parse_hex_char", params := ?a, body := .stmts ?b, scope := ?s, globals := 3, closure := [], defaults := .none, kwdefaults := .none, pyModule := .str (.ofString "cpy313.tomllib._parser") 625, code := .ref 237 } }
noncomputable def F.o_312 : Params → Obj := fun P => { cls := .type "tuple", data := .seq #[] }
noncomputable def F.o_313 : Params → Obj := fun P => { cls := .none, data := .fields #[] }
noncomputable def F.o_314 : Params → Obj := fun P => { cls := .type "tuple", data := .seq #[.str (.ofString "src") 722, .str (.ofString "pos") 723, .str (.ofString "literal") 724, .str (.ofString "delim") 725, .str (.ofString "end_pos") 726, .str (.ofString "result") 727] }
noncomputable def F.o_315 : Params → Obj := fun P => { cls := .type "tuple", data := .seq #[] }
noncomputable def F.o_316 : Params → Obj := by
  refine fun P => ?_
  change (fun (_ : (stm 29) = .FunctionDef ?n ?a ?b ?d ?r ?t ?s ?u ?v ?p) => Obj) ?h
  case h => exact rfl
  exact { cls := .none, data := .func { name := .ofString "parse_multiline_str", qualname := .ofString "parse_multiline_str", params := ?a, body := .stmts ?b, scope := ?s, globals := 0, closure := [], defaults := .none, kwdefaults := .none } }
noncomputable def F.o_317 : Params → Obj := fun P => { cls := .type "code", data := .fields #[.str (.ofString "parse_multiline_str") 719, .str (.ofString "parse_multiline_str") 720, .str (.ofString "/claim/cut.py") 721, .int 153 0, .int 2 0, .int 0 0, .int 1 0, .int 3 0, .ref 239, .bool true, .int 181 0, .ref 240, .none, .ref 241, .ref 242, .ref 243, .int 728 0, .int 153 0, .str (.ofString "/claim/cut.py") 729] }
noncomputable def F.o_318 : Params → Obj := by
  refine fun P => ?_
  change (fun (_ : (stm 29) = .FunctionDef ?n ?a ?b ?d ?r ?t ?s ?u ?v ?p) => Obj) ?h
  case h => exact rfl
  exact { cls := .type "function", data := .func { name := .ofString "parse_multiline_str", qualname := .ofString "parse_multiline_str", params := ?a, body := .stmts ?b, scope := ?s, globals := 3, closure := [], defaults := .none, kwdefaults := .none, pyModule := .str (.ofString "cpy313.tomllib._parser") 625, code := .ref 244 } }
noncomputable def F.o_319 : Params → Obj := fun P => { cls := .type "tuple", data := .seq #[] }
noncomputable def F.o_320 : Params → Obj := fun P => { cls := .none, data := .fields #[] }
noncomputable def F.o_321 : Params → Obj := fun P => { cls := .type "tuple", data := .seq #[.str (.ofString "src") 734, .str (.ofString "pos") 735, .str (.ofString "multiline") 736, .str (.ofString "error_on") 737, .str (.ofString "parse_escapes") 738, .str (.ofString "result") 739, .str (.ofString "start_pos") 740, .str (.ofString "char") 741, .str (.ofString "parsed_escape") 742] }
noncomputable def F.o_322 : Params → Obj := fun P => { cls := .type "tuple", data := .seq #[] }
noncomputable def F.o_323 : Params → Obj := by
  refine fun P => ?_
  change (fun (_ : (stm 30) = .FunctionDef ?n ?a ?b ?d ?r ?t ?s ?u ?v ?p) => Obj) ?h
  case h => exact rfl
  exact { cls := .none, data := .func { name := .ofString "parse_basic_str", qualname := .ofString "parse_basic_str", params := ?a, body := .stmts ?b, scope := ?s, globals := 0, closure := [], defaults := .none, kwdefaults := .none } }
noncomputable def F.o_324 : Params → Obj := fun P => { cls := .type "code", data := .fields #[.str (.ofString "parse_basic_str") 731, .str (.ofString "parse_basic_str") 732, .str (.ofString "/claim/cut.py") 733, .int 172 0, .int 2 0, .int 0 0, .int 1 0, .int 3 0, .ref 246, .bool true, .int 181 0, .ref 247, .none, .ref 248, .ref 249, .ref 250, .int 743 0, .int 172 0, .str (.ofString "/claim/cut.py") 744] }
noncomputable def F.o_325 : Params → Obj := by
  refine fun P => ?_
  change (fun (_ : (stm 30) = .FunctionDef ?n ?a ?b ?d ?r ?t ?s ?u ?v ?p) => Obj) ?h
  case h => exact rfl
  exact { cls := .type "function", data := .func { name := .ofString "parse_basic_str", qualname := .ofString "parse_basic_str", params := ?a, body := .stmts ?b, scope := ?s, globals := 3, closure := [], defaults := .none, kwdefaults := .none, pyModule := .str (.ofString "cpy313.tomllib._parser") 625, code := .ref 251 } }
noncomputable def F.o_326 : Params → Obj := fun P => { cls := .type "tuple", data := .seq #[] }
noncomputable def F.o_327 : Params → Obj := fun P => { cls := .none, data := .fields #[] }
noncomputable def F.o_328 : Params → Obj := fun P => { cls := .type "tuple", data := .seq #[.str (.ofString "src") 749, .str (.ofString "pos") 750, .str (.ofString "msg") 751, .str (.ofString "coord_repr") 752] }
noncomputable def F.o_329 : Params → Obj := fun P => { cls := .type "tuple", data := .seq #[] }
noncomputable def F.o_330 : Params → Obj := by
  refine fun P => ?_
  change (fun (_ : (stm 31) = .FunctionDef ?n ?a ?b ?d ?r ?t ?s ?u ?v ?p) => Obj) ?h
  case h => exact rfl
  exact { cls := .none, data := .func { name := .ofString "suffixed_err", qualname := .ofString "suffixed_err", params := ?a, body := .stmts ?b, scope := ?s, globals := 0, closure := [], defaults := .none, kwdefaults := .none } }
noncomputable def F.o_331 : Params → Obj := fun P => { cls := .type "code", data := .fields #[.str (.ofString "suffixed_err") 746, .str (.ofString "suffixed_err") 747, .str (.ofString "/claim/cut.py") 748, .int 202 0, .int 3 0, .int 0 0, .int 0 0, .int 3 0, .ref 253, .bool true, .int 181 0, .ref 254, .none, .ref 255, .ref 256, .ref 257, .int 753 0, .int 202 0, .str (.ofString "/claim/cut.py") 754] }
noncomputable def F.o_332 : Params → Obj := by
  refine fun P => ?_
  change (fun (_ : (stm 31) = .FunctionDef ?n ?a ?b ?d ?r ?t ?s ?u ?v ?p) => Obj) ?h
  case h => exact rfl
  exact { cls := .type "function", data := .func { name := .ofString "suffixed_err", qualname := .ofString "suffixed_err", params := ?a, body := .stmts ?b, scope := ?s, globals := 3, closure := [], defaults := .none, kwdefaults := .none, pyModule := .str (.ofString "cpy313.tomllib._parser") 625, code := .ref 258 } }
noncomputable def F.o_333 : Params → Obj := fun P => { cls := .type "tuple", data := .seq #[] }
noncomputable def F.o_334 : Params → Obj := fun P => { cls := .none, data := .fields #[] }
noncomputable def F.o_335 : Params → Obj := fun P => { cls := .type "tuple", data := .seq #[.str (.ofString "codepoint") 759] }
noncomputable def F.o_336 : Params → Obj := fun P => { cls := .type "tuple", data := .seq #[] }
noncomputable def F.o_337 : Params → Obj := by
  refine fun P => ?_
  change (fun (_ : (stm 32) = .FunctionDef ?n ?a ?b ?d ?r ?t ?s ?u ?v ?p) => Obj) ?h
  case h => exact rfl
  exact { cls := .none, data := .func { name := .ofString "is_unicode_scalar_value", qualname := .ofString "is_unicode_scalar_value", params := ?a, body := .stmts ?b, scope := ?s, globals := 0, closure := [], defaults := .none, kwdefaults := .none } }
noncomputable def F.o_338 : Params → Obj := fun P => { cls := .type "code", data := .fields #[.str (.ofString "is_unicode_scalar_value") 756, .str (.ofString "is_unicode_scalar_value") 757, .str (.ofString "/claim/cut.py") 758, .int 214 0, .int 1 0, .int 0 0, .int 0 0, .int 3 0, .ref 260, .bool true, .int 181 0, .ref 261, .none, .ref 262, .ref 263, .ref 264, .int 760 0, .int 214 0, .str (.ofString "/claim/cut.py") 761] }
noncomputable def F.o_339 : Params → Obj := by
  refine fun P => ?_
  change (fun (_ : (stm 32) = .FunctionDef ?n ?a ?b ?d ?r ?t ?s ?u ?v ?p) => Obj) ?h
  case h => exact rfl
  exact { cls := .type "function", data := .func { name := .ofString "is_unicode_scalar_value", qualname := .ofString "is_unicode_scalar_value", params := ?a, body := .stmts ?b, scope := ?s, globals := 3, closure := [], defaults := .none, kwdefaults := .none, pyModule := .str (.ofString "cpy313.tomllib._parser") 625, code := .ref 265 } }
noncomputable def F.o_340 : Params → Obj := fun P => { cls := .type "tuple", data := .seq #[] }
noncomputable def F.o_341 : Params → Obj := fun P => { cls := .none, data := .fields #[] }
noncomputable def F.o_342 : Params → Obj := fun P => { cls := .type "tuple", data := .seq #[.str (.ofString "script") 768, .str (.ofString "signs") 769, .str (.ofString "drawn") 770, .str (.ofString "x") 771, .str (.ofString "u") 772, .str (.ofString "q") 773] }
noncomputable def F.o_343 : Params → Obj := fun P => { cls := .type "tuple", data := .seq #[] }
noncomputable def F.o_344 : Params → Obj := by
  refine fun P => ?_
  change (fun (_ : (stm 34) = .FunctionDef ?n ?a ?b ?d ?r ?t ?s ?u ?v ?p) => Obj) ?h
  case h => exact rfl
  exact { cls := .none, data := .func { name := .ofString "_law_drawn", qualname := .ofString "_law_drawn", params := ?a, body := .stmts ?b, scope := ?s, globals := 0, closure := [], defaults := .none, kwdefaults := .none } }
noncomputable def F.o_345 : Params → Obj := fun P => { cls := .type "code", data := .fields #[.str (.ofString "_law_drawn") 765, .str (.ofString "_law_drawn") 766, .str (.ofString "/claim/cut.py") 767, .int 217 0, .int 1 0, .int 0 0, .int 0 0, .int 3 0, .ref 267, .bool true, .int 181 0, .ref 268, .none, .ref 269, .ref 270, .ref 271, .int 774 0, .int 217 0, .str (.ofString "/claim/cut.py") 775] }
noncomputable def F.o_346 : Params → Obj := by
  refine fun P => ?_
  change (fun (_ : (stm 34) = .FunctionDef ?n ?a ?b ?d ?r ?t ?s ?u ?v ?p) => Obj) ?h
  case h => exact rfl
  exact { cls := .type "function", data := .func { name := .ofString "_law_drawn", qualname := .ofString "_law_drawn", params := ?a, body := .stmts ?b, scope := ?s, globals := 3, closure := [], defaults := .none, kwdefaults := .none, pyModule := .str (.ofString "law_ij0193_01") 763, code := .ref 272 } }
noncomputable def F.o_347 : Params → Obj := fun P => { cls := .type "tuple", data := .seq #[] }
noncomputable def F.o_348 : Params → Obj := fun P => { cls := .none, data := .fields #[] }
noncomputable def F.o_349 : Params → Obj := fun P => { cls := .type "tuple", data := .seq #[.str (.ofString "number") 780, .str (.ofString "size") 781, .str (.ofString "figures") 782, .str (.ofString "k") 783] }
noncomputable def F.o_350 : Params → Obj := fun P => { cls := .type "tuple", data := .seq #[] }
noncomputable def F.o_351 : Params → Obj := by
  refine fun P => ?_
  change (fun (_ : (stm 35) = .FunctionDef ?n ?a ?b ?d ?r ?t ?s ?u ?v ?p) => Obj) ?h
  case h => exact rfl
  exact { cls := .none, data := .func { name := .ofString "_law_figures", qualname := .ofString "_law_figures", params := ?a, body := .stmts ?b, scope := ?s, globals := 0, closure := [], defaults := .none, kwdefaults := .none } }
noncomputable def F.o_352 : Params → Obj := fun P => { cls := .type "code", data := .fields #[.str (.ofString "_law_figures") 777, .str (.ofString "_law_figures") 778, .str (.ofString "/claim/cut.py") 779, .int 225 0, .int 2 0, .int 0 0, .int 0 0, .int 3 0, .ref 274, .bool true, .int 181 0, .ref 275, .none, .ref 276, .ref 277, .ref 278, .int 784 0, .int 225 0, .str (.ofString "/claim/cut.py") 785] }
noncomputable def F.o_353 : Params → Obj := by
  refine fun P => ?_
  change (fun (_ : (stm 35) = .FunctionDef ?n ?a ?b ?d ?r ?t ?s ?u ?v ?p) => Obj) ?h
  case h => exact rfl
  exact { cls := .type "function", data := .func { name := .ofString "_law_figures", qualname := .ofString "_law_figures", params := ?a, body := .stmts ?b, scope := ?s, globals := 3, closure := [], defaults := .none, kwdefaults := .none, pyModule := .str (.ofString "law_ij0193_01") 763, code := .ref 279 } }
noncomputable def F.o_354 : Params → Obj := fun P => { cls := .type "tuple", data := .seq #[] }
noncomputable def F.o_355 : Params → Obj := fun P => { cls := .none, data := .fields #[] }
noncomputable def F.o_356 : Params → Obj := fun P => { cls := .type "tuple", data := .seq #[.str (.ofString "sign") 790, .str (.ofString "manner") 791, .str (.ofString "first") 792, .str (.ofString "short") 793, .str (.ofString "must") 794] }
noncomputable def F.o_357 : Params → Obj := fun P => { cls := .type "tuple", data := .seq #[] }
noncomputable def F.o_358 : Params → Obj := by
  refine fun P => ?_
  change (fun (_ : (stm 36) = .FunctionDef ?n ?a ?b ?d ?r ?t ?s ?u ?v ?p) => Obj) ?h
  case h => exact rfl
  exact { cls := .none, data := .func { name := .ofString "_law_spelled", qualname := .ofString "_law_spelled", params := ?a, body := .stmts ?b, scope := ?s, globals := 0, closure := [], defaults := .none, kwdefaults := .none } }
noncomputable def F.o_359 : Params → Obj := fun P => { cls := .type "code", data := .fields #[.str (.ofString "_law_spelled") 787, .str (.ofString "_law_spelled") 788, .str (.ofString "/claim/cut.py") 789, .int 231 0, .int 3 0, .int 0 0, .int 0 0, .int 3 0, .ref 281, .bool true, .int 181 0, .ref 282, .none, .ref 283, .ref 284, .ref 285, .int 795 0, .int 231 0, .str (.ofString "/claim/cut.py") 796] }
noncomputable def F.o_360 : Params → Obj := by
  refine fun P => ?_
  change (fun (_ : (stm 36) = .FunctionDef ?n ?a ?b ?d ?r ?t ?s ?u ?v ?p) => Obj) ?h
  case h => exact rfl
  exact { cls := .type "function", data := .func { name := .ofString "_law_spelled", qualname := .ofString "_law_spelled", params := ?a, body := .stmts ?b, scope := ?s, globals := 3, closure := [], defaults := .none, kwdefaults := .none, pyModule := .str (.ofString "law_ij0193_01") 763, code := .ref 286 } }
noncomputable def F.o_361 : Params → Obj := fun P => { cls := .type "tuple", data := .seq #[] }
noncomputable def F.o_362 : Params → Obj := fun P => { cls := .none, data := .fields #[] }
noncomputable def F.o_363 : Params → Obj := fun P => { cls := .type "tuple", data := .seq #[.str (.ofString "pieces") 801, .str (.ofString "drawn") 802, .str (.ofString "seed") 803, .str (.ofString "broken") 804, .str (.ofString "text") 805, .str (.ofString "place") 806, .str (.ofString "at") 807, .str (.ofString "k") 808, .str (.ofString "fold") 809, .str (.ofString "c") 810] }
noncomputable def F.o_364 : Params → Obj := fun P => { cls := .type "tuple", data := .seq #[] }
noncomputable def F.o_365 : Params → Obj := by
  refine fun P => ?_
  change (fun (_ : (stm 37) = .FunctionDef ?n ?a ?b ?d ?r ?t ?s ?u ?v ?p) => Obj) ?h
  case h => exact rfl
  exact { cls := .none, data := .func { name := .ofString "_law_written", qualname := .ofString "_law_written", params := ?a, body := .stmts ?b, scope := ?s, globals := 0, closure := [], defaults := .none, kwdefaults := .none } }
noncomputable def F.o_366 : Params → Obj := fun P => { cls := .type "code", data := .fields #[.str (.ofString "_law_written") 798, .str (.ofString "_law_written") 799, .str (.ofString "/claim/cut.py") 800, .int 243 0, .int 4 0, .int 0 0, .int 0 0, .int 3 0, .ref 288, .bool true, .int 181 0, .ref 289, .none, .ref 290, .ref 291, .ref 292, .int 811 0, .int 243 0, .str (.ofString "/claim/cut.py") 812] }
noncomputable def F.o_367 : Params → Obj := by
  refine fun P => ?_
  change (fun (_ : (stm 37) = .FunctionDef ?n ?a ?b ?d ?r ?t ?s ?u ?v ?p) => Obj) ?h
  case h => exact rfl
  exact { cls := .type "function", data := .func { name := .ofString "_law_written", qualname := .ofString "_law_written", params := ?a, body := .stmts ?b, scope := ?s, globals := 3, closure := [], defaults := .none, kwdefaults := .none, pyModule := .str (.ofString "law_ij0193_01") 763, code := .ref 293 } }
noncomputable def F.o_371 : Params → Obj := fun P => { cls := .type "tuple", data := .seq #[] }
noncomputable def F.o_372 : Params → Obj := fun P => { cls := .none, data := .fields #[] }
noncomputable def F.o_373 : Params → Obj := fun P => { cls := .type "tuple", data := .seq #[.str (.ofString "text") 817, .str (.ofString "number") 818, .str (.ofString "column") 819, .str (.ofString "found") 820] }
noncomputable def F.o_374 : Params → Obj := fun P => { cls := .type "tuple", data := .seq #[] }
noncomputable def F.o_375 : Params → Obj := by
  refine fun P => ?_
  change (fun (_ : (stm 38) = .FunctionDef ?n ?a ?b ?d ?r ?t ?s ?u ?v ?p) => Obj) ?h
  case h => exact rfl
  exact { cls := .none, data := .func { name := .ofString "_law_found", qualname := .ofString "_law_found", params := ?a, body := .stmts ?b, scope := ?s, globals := 0, closure := [], defaults := .none, kwdefaults := .none } }
noncomputable def F.o_376 : Params → Obj := fun P => { cls := .type "code", data := .fields #[.str (.ofString "_law_found") 814, .str (.ofString "_law_found") 815, .str (.ofString "/claim/cut.py") 816, .int 259 0, .int 3 0, .int 0 0, .int 0 0, .int 3 0, .ref 295, .bool true, .int 181 0, .ref 296, .none, .ref 297, .ref 298, .ref 299, .int 821 0, .int 259 0, .str (.ofString "/claim/cut.py") 822] }
noncomputable def F.o_377 : Params → Obj := by
  refine fun P => ?_
  change (fun (_ : (stm 38) = .FunctionDef ?n ?a ?b ?d ?r ?t ?s ?u ?v ?p) => Obj) ?h
  case h => exact rfl
  exact { cls := .type "function", data := .func { name := .ofString "_law_found", qualname := .ofString "_law_found", params := ?a, body := .stmts ?b, scope := ?s, globals := 3, closure := [], defaults := .none, kwdefaults := .none, pyModule := .str (.ofString "law_ij0193_01") 763, code := .ref 300 } }
noncomputable def F.o_378 : Params → Obj := fun P => { cls := .type "tuple", data := .seq #[] }
noncomputable def F.o_379 : Params → Obj := fun P => { cls := .none, data := .fields #[] }
noncomputable def F.o_380 : Params → Obj := by
  refine fun P => ?_
  change (fun (_ : (stm 39) = .FunctionDef ?n ?a ?b ?d ?r ?t ?s ?u ?v ?p) => Obj) ?h
  case h => exact rfl
  exact { cls := .none, data := .func { name := .ofString "_law_due", qualname := .ofString "_law_due", params := ?a, body := .stmts ?b, scope := ?s, globals := 0, closure := [], defaults := .none, kwdefaults := .none } }
noncomputable def F.o_381 : Params → Obj := fun P => { cls := .type "code", data := .fields #[.str (.ofString "_law_due") 824, .str (.ofString "_law_due") 825, .str (.ofString "/claim/cut.py") 826, .int 263 0, .int 3 0, .int 0 0, .int 0 0, .int 3 0, .ref 302, .bool true, .int 181 0, .ref 303, .none, .none, .none, .ref 304, .int 827 0, .int 263 0, .str (.ofString "/claim/cut.py") 828] }
noncomputable def F.o_382 : Params → Obj := by
  refine fun P => ?_
  change (fun (_ : (stm 39) = .FunctionDef ?n ?a ?b ?d ?r ?t ?s ?u ?v ?p) => Obj) ?h
  case h => exact rfl
  exact { cls := .type "function", data := .func { name := .ofString "_law_due", qualname := .ofString "_law_due", params := ?a, body := .stmts ?b, scope := ?s, globals := 3, closure := [], defaults := .none, kwdefaults := .none, pyModule := .str (.ofString "law_ij0193_01") 763, code := .ref 305 } }
noncomputable def F.o_383 : Params → Obj := fun P => { cls := .type "tuple", data := .seq #[] }
noncomputable def F.o_384 : Params → Obj := fun P => { cls := .none, data := .fields #[] }
noncomputable def F.o_385 : Params → Obj := fun P => { cls := .type "tuple", data := .seq #[.str (.ofString "pieces") 833, .str (.ofString "drawn") 834, .str (.ofString "text") 835, .str (.ofString "seed") 836, .str (.ofString "opener") 837, .str (.ofString "more") 838, .str (.ofString "inner") 839, .str (.ofString "place") 840, .str (.ofString "written") 841] }
noncomputable def F.o_386 : Params → Obj := fun P => { cls := .type "tuple", data := .seq #[] }
noncomputable def F.o_387 : Params → Obj := by
  refine fun P => ?_
  change (fun (_ : (stm 40) = .FunctionDef ?n ?a ?b ?d ?r ?t ?s ?u ?v ?p) => Obj) ?h
  case h => exact rfl
  exact { cls := .none, data := .func { name := .ofString "_law_whole", qualname := .ofString "_law_whole", params := ?a, body := .stmts ?b, scope := ?s, globals := 0, closure := [], defaults := .none, kwdefaults := .none } }
noncomputable def F.o_388 : Params → Obj := fun P => { cls := .type "code", data := .fields #[.str (.ofString "_law_whole") 830, .str (.ofString "_law_whole") 831, .str (.ofString "/claim/cut.py") 832, .int 268 0, .int 6 0, .int 0 0, .int 0 0, .int 3 0, .ref 307, .bool true, .int 181 0, .ref 308, .none, .ref 309, .ref 310, .ref 311, .int 842 0, .int 268 0, .str (.ofString "/claim/cut.py") 843] }
noncomputable def F.o_389 : Params → Obj := by
  refine fun P => ?_
  change (fun (_ : (stm 40) = .FunctionDef ?n ?a ?b ?d ?r ?t ?s ?u ?v ?p) => Obj) ?h
  case h => exact rfl
  exact { cls := .type "function", data := .func { name := .ofString "_law_whole", qualname := .ofString "_law_whole", params := ?a, body := .stmts ?b, scope := ?s, globals := 3, closure := [], defaults := .none, kwdefaults := .none, pyModule := .str (.ofString "law_ij0193_01") 763, code := .ref 312 } }
noncomputable def F.o_390 : Params → Obj := fun P => { cls := .type "tuple", data := .seq #[] }
noncomputable def F.o_391 : Params → Obj := fun P => { cls := .none, data := .fields #[] }
noncomputable def F.o_392 : Params → Obj := fun P => { cls := .type "tuple", data := .seq #[.str (.ofString "pieces") 848, .str (.ofString "drawn") 849, .str (.ofString "seed") 850, .str (.ofString "opener") 851, .str (.ofString "inner") 852, .str (.ofString "place") 853, .str (.ofString "head") 854, .str (.ofString "refusal") 855, .str (.ofString "rows") 856, .str (.ofString "due") 857] }
noncomputable def F.o_393 : Params → Obj := fun P => { cls := .type "tuple", data := .seq #[] }
noncomputable def F.o_394 : Params → Obj := by
  refine fun P => ?_
  change (fun (_ : (stm 41) = .FunctionDef ?n ?a ?b ?d ?r ?t ?s ?u ?v ?p) => Obj) ?h
  case h => exact rfl
  exact { cls := .none, data := .func { name := .ofString "_law_broken", qualname := .ofString "_law_broken", params := ?a, body := .stmts ?b, scope := ?s, globals := 0, closure := [], defaults := .none, kwdefaults := .none } }
noncomputable def F.o_395 : Params → Obj := fun P => { cls := .type "code", data := .fields #[.str (.ofString "_law_broken") 845, .str (.ofString "_law_broken") 846, .str (.ofString "/claim/cut.py") 847, .int 272 0, .int 4 0, .int 0 0, .int 0 0, .int 3 0, .ref 314, .bool true, .int 181 0, .ref 315, .none, .ref 316, .ref 317, .ref 318, .int 858 0, .int 272 0, .str (.ofString "/claim/cut.py") 859] }
noncomputable def F.o_396 : Params → Obj := by
  refine fun P => ?_
  change (fun (_ : (stm 41) = .FunctionDef ?n ?a ?b ?d ?r ?t ?s ?u ?v ?p) => Obj) ?h
  case h => exact rfl
  exact { cls := .type "function", data := .func { name := .ofString "_law_broken", qualname := .ofString "_law_broken", params := ?a, body := .stmts ?b, scope := ?s, globals := 3, closure := [], defaults := .none, kwdefaults := .none, pyModule := .str (.ofString "law_ij0193_01") 763, code := .ref 319 } }
noncomputable def F.o_397 : Params → Obj := fun P => { cls := .type "tuple", data := .seq #[] }
noncomputable def F.o_398 : Params → Obj := fun P => { cls := .none, data := .fields #[] }
noncomputable def F.o_399 : Params → Obj := by
  refine fun P => ?_
  change (fun (_ : (stm 42) = .FunctionDef ?n ?a ?b ?d ?r ?t ?s ?u ?v ?p) => Obj) ?h
  case h => exact rfl
  exact { cls := .none, data := .func { name := .ofString "_law_all", qualname := .ofString "_law_all", params := ?a, body := .stmts ?b, scope := ?s, globals := 0, closure := [], defaults := .none, kwdefaults := .none } }
noncomputable def F.o_400 : Params → Obj := fun P => { cls := .type "code", data := .fields #[.str (.ofString "_law_all") 861, .str (.ofString "_law_all") 862, .str (.ofString "/claim/cut.py") 863, .int 284 0, .int 4 0, .int 0 0, .int 0 0, .int 3 0, .ref 321, .bool true, .int 181 0, .ref 322, .none, .none, .none, .ref 323, .int 864 0, .int 284 0, .str (.ofString "/claim/cut.py") 865] }
noncomputable def F.o_401 : Params → Obj := by
  refine fun P => ?_
  change (fun (_ : (stm 42) = .FunctionDef ?n ?a ?b ?d ?r ?t ?s ?u ?v ?p) => Obj) ?h
  case h => exact rfl
  exact { cls := .type "function", data := .func { name := .ofString "_law_all", qualname := .ofString "_law_all", params := ?a, body := .stmts ?b, scope := ?s, globals := 3, closure := [], defaults := .none, kwdefaults := .none, pyModule := .str (.ofString "law_ij0193_01") 763, code := .ref 324 } }
noncomputable def F.o_402 : Params → Obj := fun P => { cls := .type "tuple", data := .seq #[] }
noncomputable def F.o_403 : Params → Obj := fun P => { cls := .none, data := .fields #[] }
noncomputable def F.o_404 : Params → Obj := fun P => { cls := .type "tuple", data := .seq #[.str (.ofString "script") 870, .str (.ofString "drawn") 871, .str (.ofString "u") 872] }
noncomputable def F.o_405 : Params → Obj := fun P => { cls := .type "tuple", data := .seq #[] }
noncomputable def F.o_406 : Params → Obj := by
  refine fun P => ?_
  change (fun (_ : (stm 43) = .FunctionDef ?n ?a ?b ?d ?r ?t ?s ?u ?v ?p) => Obj) ?h
  case h => exact rfl
  exact { cls := .none, data := .func { name := .ofString "law", qualname := .ofString "law", params := ?a, body := .stmts ?b, scope := ?s, globals := 0, closure := [], defaults := .none, kwdefaults := .none } }
noncomputable def F.o_407 : Params → Obj := fun P => { cls := .type "code", data := .fields #[.str (.ofString "law") 867, .str (.ofString "law") 868, .str (.ofString "/claim/cut.py") 869, .int 294 0, .int 1 0, .int 0 0, .int 0 0, .int 3 0, .ref 326, .bool true, .int 181 0, .ref 327, .none, .ref 328, .ref 329, .ref 330, .int 873 0, .int 294 0, .str (.ofString "/claim/cut.py") 874] }
noncomputable def F.o_408 : Params → Obj := by
  refine fun P => ?_
  change (fun (_ : (stm 43) = .FunctionDef ?n ?a ?b ?d ?r ?t ?s ?u ?v ?p) => Obj) ?h
  case h => exact rfl
  exact { cls := .type "function", data := .func { name := .ofString "law", qualname := .ofString "law", params := ?a, body := .stmts ?b, scope := ?s, globals := 3, closure := [], defaults := .none, kwdefaults := .none, pyModule := .str (.ofString "law_ij0193_01") 763, code := .ref 331 } }
noncomputable def stepF : (Code → Sem Fin) → Program → World → SharedT → Thread → Option (SharedT × Thread) := PySem.W.Fast.tw10156331382660048174
theorem stepF_eq : stepF = stepT := PySem.W.Fast.te10156331382660048174.symm
noncomputable def den : Code → Sem Fin := PySem.W.Fast.tw11892475500146522536 PySem.W.Fast.tw14364793385576792824
theorem den_eq : denote table = den := by
  unfold den
  rw [← PySem.W.Fast.te11892475500146522536, ← PySem.W.Fast.te14364793385576792824, table_eq_tree]
/-- one step over a tree of objects, at the calm level -/
noncomputable def iStep (p : Program) (w : World) (s : SharedT) (t : Thread) : Option (SharedT × Thread) :=
  match t.loud with
  | true => none
  | false => match t with
    | ⟨.pure (.again c), _, pos, st⟩ => some (s, ⟨den c, c, pos, st⟩)
    | ⟨.call c h g l k, code, pos, st⟩ => some (s, ⟨den c, c, pos, .ret k h g l code pos [] :: st⟩)
    | t => stepF den p w s t
noncomputable def iGo (p : Program) (w : World) (n : Nat) : SharedT → Thread → Option (SharedT × Thread) :=
  Nat.rec (fun s t => some (s, t)) (fun _ ih s t => match iStep p w s t with
    | some r => ih r.1 r.2
    | none => none) n
theorem iStep_spec {p : Program} {w : World} {s s' : SharedT} {t t' : Thread} (h : iStep p w s t = some (s', t')) :
    (model p w).step s.abs t = .go s'.abs t' := by
  unfold iStep at h
  cases hl : t.loud with
  | true => rw [hl] at h; cases h
  | false =>
    rw [hl] at h
    rw [Model.step_quiet (model p w) hl]
    show stepK (denote table) p w s.abs t = _
    rw [den_eq]
    dsimp only at h
    split at h
    · cases h; rfl
    · cases h; rfl
    · rename_i x h1 h2
      rw [stepF_eq] at h
      have e := stepT_spec h
      have : stepK den p w s.abs t = step den p w s.abs t := by
        obtain ⟨cur, code, pos, st⟩ := t
        unfold stepK
        split
        · rename_i e1; cases e1; exact absurd rfl (h1 _ _ _ _)
        · rename_i e1; cases e1; exact absurd rfl (h2 _ _ _ _ _ _ _ _)
        · rfl
      rw [this]; exact e
theorem iGo_comes {p : Program} {w : World} : ∀ {n : Nat} {s s' : SharedT} {t t' : Thread}, iGo p w n s t = some (s', t') → Comes (model p w) s.abs t s'.abs t'
  | 0, s, s', t, t', h => by cases h; exact .refl _ _
  | n + 1, s, s', t, t', h => by
    change (match iStep p w s t with
      | some r => iGo p w n r.1 r.2
      | none => none) = _ at h
    cases hs : iStep p w s t with
    | none => rw [hs] at h; cases h
    | some r => rw [hs] at h; exact .step (iStep_spec hs) (iGo_comes h)
end
-- HdComes
section
variable {prog : Program} {w : World}
noncomputable def selfA (Γ : Ctx) : Around := { handled := Γ.handled, depth := frameCount Γ.below + Γ.code.weight, frames := none, guards := none, units := Γ.units }
theorem selfA_in (Γ : Ctx) : Γ.In (selfA Γ) := ⟨rfl, Nat.le_refl _, fun _ h => (nomatch h), fun _ h => (nomatch h), Nat.le_refl _⟩
theorem comes_of_wp {t : Sem Fin} {Q : Fin → Shared → Prop} {s : Shared} {c : Code} {p : Pos} {st : List Frame} (h : ∀ A, wpAny (model prog w) A t Q (fun _ _ => False) s) :
    ∃ s' p' a, Comes (model prog w) s ⟨t, c, p, st⟩ s' ⟨.pure a, c, p', st⟩ ∧ Q a s' := by
  obtain ⟨s', p', leaf, hc, hl⟩ := wp_comes (M := model prog w) (Ctx.fits_of c st) t (fun a _ s' => Q a s') (fun _ _ _ => False) p s (h (selfA _) _ p (selfA_in _))
  rcases hl with ⟨a, rfl, hq⟩ | ⟨e, rfl, hf⟩
  · exact ⟨s', p', a, hc, hq⟩
  · exact hf.elim
noncomputable def addCur (a : Addr) (v : Value) (c : Code) : Sem Fin := PySem.W.R.bindR (PySem.W.Fast.tw5518019106960326183 a v) fun _ => .pure (.again c)
theorem addCur_eq (a : Addr) (v : Value) (c : Code) : addCur a v c = (setAdd a v).bind fun _ => .pure (.again c) := by
  unfold addCur
  rw [← PySem.W.Fast.te5518019106960326183, ← PySem.W.R.bindR_eq]
/-- one add under way, over a state that is a tree with the set as a hole -/
theorem add_comes {T : FsD → BT} {n : Nat} {life : Life} {gens : Array GenState} {drawn : Drawn} {toks : Nat} {os : OsState} {a : Addr} {x : FsD} {l : List Str} {k : Str} {tk : Tok} {c : Code} {p : Pos} {st : List Frame}
    (hn : Nat.blt a n = true) (hg : ∀ x, (T x).get a = some (fsO x)) (hs : ∀ x x', (T x).set a (fun _ => fsO x') = T x') (G : Good w x l) (hk : l.contains k = false) (hl : Nat.blt l.length 100 = true) :
    ∃ x' p', Good w x' (l ++ [k]) ∧ Comes (model prog w) (SharedT.mk (T x) n life gens drawn toks os).abs ⟨addCur a (.str k tk) c, c, p, st⟩ (SharedT.mk (T x') n life gens drawn (toks + 1) os).abs ⟨.pure (.again c), c, p', st⟩ := by
  have hlt : a < n := Nat.le_of_ble_eq_true hn
  have hk' : k ∉ l := by
    intro q
    rw [← List.contains_iff_mem, hk] at q
    cases q
  obtain ⟨s', p', f, hc, x', G', rfl, rfl⟩ := comes_of_wp (prog := prog) (w := w) (t := addCur a (.str k tk) c) (Q := fun f s' => ∃ x', Good w x' (l ++ [k]) ∧ f = .again c ∧ s' = (SharedT.mk (T x') n life gens drawn (toks + 1) os).abs)
    (s := (SharedT.mk (T x) n life gens drawn toks os).abs) (c := c) (p := p) (st := st) (fun A => by
      rw [addCur_eq]
      refine wpAny_bind ?_
      unfold setAdd
      refine wpAny_holding (wpAny_bind ((strKind prog w).pyHash (isStrOf_self k tk) ?_))
      refine wp_add (a := a) (x := x) (l := l) ?_ G hk' (Nat.le_of_ble_eq_true hl) fun x' G' => ?_
      · show (absHeap (T x) n life).get? a = _
        rw [abs_get hlt (hg x)]
        rfl
      · refine wpAny_pure ⟨x', G', rfl, ?_⟩
        show Shared.mk _ _ _ _ _ = Shared.mk _ _ _ _ _
        rw [← hs x x', absHeap_set (hg x)]
        rfl)
  exact ⟨x', p', G', hc⟩
end
-- HdRun
section
set_option maxRecDepth 100000
set_option maxHeartbeats 8000000
noncomputable abbrev eN (P : Params) (x : String) (t : Nat) : DictEntry := { hash := PyData.keyHash P (Str.ofString x), key := Value.str (Str.ofString x) t, val := .none }
noncomputable abbrev dE (P : Params) (x : String) (t : Nat) (v : Value) : DictEntry := { hash := PyData.keyHash P (Str.ofString x), key := Value.str (Str.ofString x) t, val := v }
noncomputable abbrev vS (x : String) (t : Nat) : Value := Value.str (Str.ofString x) t
noncomputable abbrev bC (b : List Stmt) : Code := .body b F.env_1
noncomputable abbrev pz : Pos := { line := 0, col := 0, endLine := 0, endCol := 0 }
noncomputable def bodyL : List Stmt := PySem.Challenge.pw_ij0193_01.main.body
noncomputable def thS (b : List Stmt) (i : Nat) (p : Pos) : Thread := restOf (bodyL.drop i) F.env_1 (bC b) p [topFrame pz]
noncomputable def stkOf (r : Option (SharedT × Thread)) : List Frame := match r with
  | some x => x.2.stack
  | none => []
noncomputable def gensOf (r : Option (SharedT × Thread)) : Array GenState := match r with
  | some x => x.1.gens
  | none => #[]
noncomputable def fx (w : World) : World := ((w.withFollow "comprehension-iter-twice" true).withFollow "set-order" false).withFollow "special-get-raises" false
noncomputable abbrev upC (a b : Addr) : Code := .builtin "set.update.loop" ⟨[.ref a, .ref b], []⟩
noncomputable abbrev agT (c : Code) (q : Pos) (st : List Frame) : Thread := ⟨.pure (.again c), c, q, st⟩
noncomputable abbrev adT (a : Addr) (k : List Nat) (tk : Tok) (c : Code) (q : Pos) (st : List Frame) : Thread := ⟨addCur a (.str ⟨k.toArray⟩ tk) c, c, q, st⟩
theorem good_fresh (w : World) : Good w (fresh w) [] := ⟨fun _ h => (nomatch h), .rfl, rfl⟩
noncomputable def q_0 (P : Params) : Obj := { cls := Value.type "dict", data := Data.dict #[dE P "__name__" 165 (vS "cpy313.difflib" 234), dE P "__doc__" 166 Value.none, dE P "__package__" 167 Value.none, dE P "__loader__" 168 (Value.builtin "__main__.__loader__#opaque"), dE P "__spec__" 169 Value.none, dE P "__annotations__" 170 (Value.ref 6), dE P "__builtins__" 171 (Value.ref 4), dE P "__file__" 173 (vS "/claim/cut.py" 172), dE P "__cached__" 174 Value.none, dE P "_wall" 193 (Value.ref 21), dE P "_WallAttr" 233 (Value.ref 46), dE P "IS_CHARACTER_JUNK" 244 (Value.ref 58), dE P "file_template_difflib" 246 (Value.str bsA 245), dE P "styles_difflib" 248 (Value.str bsB 247), dE P "table_template_difflib" 250 (Value.str bsC 249), dE P "legend_difflib" 252 (Value.str bsD 251)] 16 }
noncomputable def q_1 (P : Params) : Obj := { cls := Value.none, data := Data.fields #[Value.int 1 0, Value.int 0 0, Value.ref 20, Value.int 4 0, Value.int 0 0, Value.ref 27, Value.int 11 0, Value.int 0 0, Value.ref 57] }
noncomputable def q_2 (P : Params) : Obj := { cls := Value.type "dict", data := Data.dict #[dE P "__name__" 165 (vS "cpy313.difflib" 234), dE P "__doc__" 166 Value.none, dE P "__package__" 167 Value.none, dE P "__loader__" 168 (Value.builtin "__main__.__loader__#opaque"), dE P "__spec__" 169 Value.none, dE P "__annotations__" 170 (Value.ref 6), dE P "__builtins__" 171 (Value.ref 4), dE P "__file__" 173 (vS "/claim/cut.py" 172), dE P "__cached__" 174 Value.none, dE P "_wall" 193 (Value.ref 21), dE P "_WallAttr" 233 (Value.ref 46), dE P "IS_CHARACTER_JUNK" 244 (Value.ref 58), dE P "file_template_difflib" 246 (Value.str bsA 245), dE P "styles_difflib" 248 (Value.str bsB 247), dE P "table_template_difflib" 250 (Value.str bsC 249), dE P "legend_difflib" 252 (Value.str bsD 251), dE P "HtmlDiff" 401 (Value.ref 142)] 17 }
noncomputable def q_3 (P : Params) : Obj := { cls := Value.none, data := Data.fields #[Value.int 1 0, Value.int 0 0, Value.ref 20, Value.int 4 0, Value.int 0 0, Value.ref 27, Value.int 11 0, Value.int 0 0, Value.ref 57, Value.int 17 0, Value.int 0 0, Value.ref 64] }
noncomputable def q_4 (P : Params) : Obj := { cls := Value.type "dict", data := Data.dict #[dE P "__name__" 165 (vS "cpy313.tomllib._parser" 402), dE P "__doc__" 166 Value.none, dE P "__package__" 167 Value.none, dE P "__loader__" 168 (Value.builtin "__main__.__loader__#opaque"), dE P "__spec__" 169 Value.none, dE P "__annotations__" 170 (Value.ref 6), dE P "__builtins__" 171 (Value.ref 4), dE P "__file__" 173 (vS "/claim/cut.py" 172), dE P "__cached__" 174 Value.none, dE P "_wall" 193 (Value.ref 21), dE P "_WallAttr" 233 (Value.ref 46), dE P "IS_CHARACTER_JUNK" 244 (Value.ref 58), dE P "file_template_difflib" 246 (Value.str bsA 245), dE P "styles_difflib" 248 (Value.str bsB 247), dE P "table_template_difflib" 250 (Value.str bsC 249), dE P "legend_difflib" 252 (Value.str bsD 251), dE P "HtmlDiff" 401 (Value.ref 142)] 17 }
noncomputable def q_5 (P : Params) : Obj := { cls := Value.none, data := Data.fields #[Value.int 1 0, Value.int 0 0, Value.ref 20, Value.int 4 0, Value.int 0 0, Value.ref 27, Value.int 11 0, Value.int 0 0, Value.ref 57, Value.int 17 0, Value.int 0 0, Value.ref 64, Value.int 85 0, Value.int 23 0, Value.ref 151] }
noncomputable def q_6 (P : Params) : Obj := { cls := Value.type "range", data := Data.fields #[Value.int 0 405, Value.int 32 404, Value.int 1 406] }
noncomputable def q_7 (P : Params) : Obj := { cls := Value.type "range_iterator", data := Data.fields #[Value.int 0 0, Value.int 32 0, Value.int 1 0] }
noncomputable def q_8 (P : Params) : Obj := { cls := Value.type "tuple", data := Data.seq #[] }
noncomputable def q_9 (P : Params) : Obj := { cls := Value.none, data := Data.fields #[] }
noncomputable def q_10 (P : Params) : Obj := { cls := Value.type "code", data := Data.fields #[vS "<genexpr>" 407, vS "<genexpr>" 408, vS "/claim/cut.py" 409, Value.int 85 0, Value.int 1 0, Value.int 0 0, Value.int 0 0, Value.int 35 0, Value.ref 149, Value.bool true, Value.int 181 0, Value.ref 150, Value.none, Value.none, Value.none, Value.none, Value.int 410 0, Value.int 85 0, vS "/claim/cut.py" 411] }
noncomputable def q_11 (P : Params) : Obj := { cls := Value.type "frame", data := Data.dict #[dE P ".0" 412 (Value.ref 148)] 1 }
noncomputable def q_12 (P : Params) : Obj := { cls := Value.type "generator", data := Data.fields #[Value.int 0 0, vS "<genexpr>" 413, vS "<genexpr>" 414] }
noncomputable def q_13 (P : Params) : Obj := { cls := Value.type "range_iterator", data := Data.fields #[Value.int 1 0, Value.int 31 0, Value.int 1 0] }
noncomputable def q_14 (P : Params) : Obj := { cls := Value.type "frame", data := Data.dict #[dE P ".0" 412 (Value.ref 148), dE P "i" 416 (Value.int 0 415)] 2 }
noncomputable def q_15 (P : Params) : Obj := { cls := Value.type "range_iterator", data := Data.fields #[Value.int 2 0, Value.int 30 0, Value.int 1 0] }
noncomputable def q_16 (P : Params) : Obj := { cls := Value.type "frame", data := Data.dict #[dE P ".0" 412 (Value.ref 148), dE P "i" 416 (Value.int 1 419)] 2 }
noncomputable def q_17 (P : Params) : Obj := { cls := Value.type "range_iterator", data := Data.fields #[Value.int 3 0, Value.int 29 0, Value.int 1 0] }
noncomputable def q_18 (P : Params) : Obj := { cls := Value.type "frame", data := Data.dict #[dE P ".0" 412 (Value.ref 148), dE P "i" 416 (Value.int 2 423)] 2 }
noncomputable def q_19 (P : Params) : Obj := { cls := Value.type "range_iterator", data := Data.fields #[Value.int 4 0, Value.int 28 0, Value.int 1 0] }
noncomputable def q_20 (P : Params) : Obj := { cls := Value.type "frame", data := Data.dict #[dE P ".0" 412 (Value.ref 148), dE P "i" 416 (Value.int 3 427)] 2 }
noncomputable def q_21 (P : Params) : Obj := { cls := Value.type "range_iterator", data := Data.fields #[Value.int 5 0, Value.int 27 0, Value.int 1 0] }
noncomputable def q_22 (P : Params) : Obj := { cls := Value.type "frame", data := Data.dict #[dE P ".0" 412 (Value.ref 148), dE P "i" 416 (Value.int 4 431)] 2 }
noncomputable def q_23 (P : Params) : Obj := { cls := Value.type "range_iterator", data := Data.fields #[Value.int 6 0, Value.int 26 0, Value.int 1 0] }
noncomputable def q_24 (P : Params) : Obj := { cls := Value.type "frame", data := Data.dict #[dE P ".0" 412 (Value.ref 148), dE P "i" 416 (Value.int 5 435)] 2 }
noncomputable def q_25 (P : Params) : Obj := { cls := Value.type "range_iterator", data := Data.fields #[Value.int 7 0, Value.int 25 0, Value.int 1 0] }
noncomputable def q_26 (P : Params) : Obj := { cls := Value.type "frame", data := Data.dict #[dE P ".0" 412 (Value.ref 148), dE P "i" 416 (Value.int 6 439)] 2 }
noncomputable def q_27 (P : Params) : Obj := { cls := Value.type "range_iterator", data := Data.fields #[Value.int 8 0, Value.int 24 0, Value.int 1 0] }
noncomputable def q_28 (P : Params) : Obj := { cls := Value.type "frame", data := Data.dict #[dE P ".0" 412 (Value.ref 148), dE P "i" 416 (Value.int 7 443)] 2 }
noncomputable def q_29 (P : Params) : Obj := { cls := Value.type "range_iterator", data := Data.fields #[Value.int 9 0, Value.int 23 0, Value.int 1 0] }
noncomputable def q_30 (P : Params) : Obj := { cls := Value.type "frame", data := Data.dict #[dE P ".0" 412 (Value.ref 148), dE P "i" 416 (Value.int 8 447)] 2 }
noncomputable def q_31 (P : Params) : Obj := { cls := Value.type "range_iterator", data := Data.fields #[Value.int 10 0, Value.int 22 0, Value.int 1 0] }
noncomputable def q_32 (P : Params) : Obj := { cls := Value.type "frame", data := Data.dict #[dE P ".0" 412 (Value.ref 148), dE P "i" 416 (Value.int 9 451)] 2 }
noncomputable def q_33 (P : Params) : Obj := { cls := Value.type "range_iterator", data := Data.fields #[Value.int 11 0, Value.int 21 0, Value.int 1 0] }
noncomputable def q_34 (P : Params) : Obj := { cls := Value.type "frame", data := Data.dict #[dE P ".0" 412 (Value.ref 148), dE P "i" 416 (Value.int 10 455)] 2 }
noncomputable def q_35 (P : Params) : Obj := { cls := Value.type "range_iterator", data := Data.fields #[Value.int 12 0, Value.int 20 0, Value.int 1 0] }
noncomputable def q_36 (P : Params) : Obj := { cls := Value.type "frame", data := Data.dict #[dE P ".0" 412 (Value.ref 148), dE P "i" 416 (Value.int 11 459)] 2 }
noncomputable def q_37 (P : Params) : Obj := { cls := Value.type "range_iterator", data := Data.fields #[Value.int 13 0, Value.int 19 0, Value.int 1 0] }
noncomputable def q_38 (P : Params) : Obj := { cls := Value.type "frame", data := Data.dict #[dE P ".0" 412 (Value.ref 148), dE P "i" 416 (Value.int 12 463)] 2 }
noncomputable def q_39 (P : Params) : Obj := { cls := Value.type "range_iterator", data := Data.fields #[Value.int 14 0, Value.int 18 0, Value.int 1 0] }
noncomputable def q_40 (P : Params) : Obj := { cls := Value.type "frame", data := Data.dict #[dE P ".0" 412 (Value.ref 148), dE P "i" 416 (Value.int 13 467)] 2 }
noncomputable def q_41 (P : Params) : Obj := { cls := Value.type "range_iterator", data := Data.fields #[Value.int 15 0, Value.int 17 0, Value.int 1 0] }
noncomputable def q_42 (P : Params) : Obj := { cls := Value.type "frame", data := Data.dict #[dE P ".0" 412 (Value.ref 148), dE P "i" 416 (Value.int 14 471)] 2 }
noncomputable def q_43 (P : Params) : Obj := { cls := Value.type "range_iterator", data := Data.fields #[Value.int 16 0, Value.int 16 0, Value.int 1 0] }
noncomputable def q_44 (P : Params) : Obj := { cls := Value.type "frame", data := Data.dict #[dE P ".0" 412 (Value.ref 148), dE P "i" 416 (Value.int 15 475)] 2 }
noncomputable def q_45 (P : Params) : Obj := { cls := Value.type "range_iterator", data := Data.fields #[Value.int 17 0, Value.int 15 0, Value.int 1 0] }
noncomputable def q_46 (P : Params) : Obj := { cls := Value.type "frame", data := Data.dict #[dE P ".0" 412 (Value.ref 148), dE P "i" 416 (Value.int 16 479)] 2 }
noncomputable def q_47 (P : Params) : Obj := { cls := Value.type "range_iterator", data := Data.fields #[Value.int 18 0, Value.int 14 0, Value.int 1 0] }
noncomputable def q_48 (P : Params) : Obj := { cls := Value.type "frame", data := Data.dict #[dE P ".0" 412 (Value.ref 148), dE P "i" 416 (Value.int 17 483)] 2 }
noncomputable def q_49 (P : Params) : Obj := { cls := Value.type "range_iterator", data := Data.fields #[Value.int 19 0, Value.int 13 0, Value.int 1 0] }
noncomputable def q_50 (P : Params) : Obj := { cls := Value.type "frame", data := Data.dict #[dE P ".0" 412 (Value.ref 148), dE P "i" 416 (Value.int 18 487)] 2 }
noncomputable def q_51 (P : Params) : Obj := { cls := Value.type "range_iterator", data := Data.fields #[Value.int 20 0, Value.int 12 0, Value.int 1 0] }
noncomputable def q_52 (P : Params) : Obj := { cls := Value.type "frame", data := Data.dict #[dE P ".0" 412 (Value.ref 148), dE P "i" 416 (Value.int 19 491)] 2 }
noncomputable def q_53 (P : Params) : Obj := { cls := Value.type "range_iterator", data := Data.fields #[Value.int 21 0, Value.int 11 0, Value.int 1 0] }
noncomputable def q_54 (P : Params) : Obj := { cls := Value.type "frame", data := Data.dict #[dE P ".0" 412 (Value.ref 148), dE P "i" 416 (Value.int 20 495)] 2 }
noncomputable def q_55 (P : Params) : Obj := { cls := Value.type "range_iterator", data := Data.fields #[Value.int 22 0, Value.int 10 0, Value.int 1 0] }
noncomputable def q_56 (P : Params) : Obj := { cls := Value.type "frame", data := Data.dict #[dE P ".0" 412 (Value.ref 148), dE P "i" 416 (Value.int 21 499)] 2 }
noncomputable def q_57 (P : Params) : Obj := { cls := Value.type "range_iterator", data := Data.fields #[Value.int 23 0, Value.int 9 0, Value.int 1 0] }
noncomputable def q_58 (P : Params) : Obj := { cls := Value.type "frame", data := Data.dict #[dE P ".0" 412 (Value.ref 148), dE P "i" 416 (Value.int 22 503)] 2 }
noncomputable def q_59 (P : Params) : Obj := { cls := Value.type "range_iterator", data := Data.fields #[Value.int 24 0, Value.int 8 0, Value.int 1 0] }
noncomputable def q_60 (P : Params) : Obj := { cls := Value.type "frame", data := Data.dict #[dE P ".0" 412 (Value.ref 148), dE P "i" 416 (Value.int 23 507)] 2 }
noncomputable def q_61 (P : Params) : Obj := { cls := Value.type "range_iterator", data := Data.fields #[Value.int 25 0, Value.int 7 0, Value.int 1 0] }
noncomputable def q_62 (P : Params) : Obj := { cls := Value.type "frame", data := Data.dict #[dE P ".0" 412 (Value.ref 148), dE P "i" 416 (Value.int 24 511)] 2 }
noncomputable def q_63 (P : Params) : Obj := { cls := Value.type "range_iterator", data := Data.fields #[Value.int 26 0, Value.int 6 0, Value.int 1 0] }
noncomputable def q_64 (P : Params) : Obj := { cls := Value.type "frame", data := Data.dict #[dE P ".0" 412 (Value.ref 148), dE P "i" 416 (Value.int 25 515)] 2 }
noncomputable def q_65 (P : Params) : Obj := { cls := Value.type "range_iterator", data := Data.fields #[Value.int 27 0, Value.int 5 0, Value.int 1 0] }
noncomputable def q_66 (P : Params) : Obj := { cls := Value.type "frame", data := Data.dict #[dE P ".0" 412 (Value.ref 148), dE P "i" 416 (Value.int 26 519)] 2 }
noncomputable def q_67 (P : Params) : Obj := { cls := Value.type "range_iterator", data := Data.fields #[Value.int 28 0, Value.int 4 0, Value.int 1 0] }
noncomputable def q_68 (P : Params) : Obj := { cls := Value.type "frame", data := Data.dict #[dE P ".0" 412 (Value.ref 148), dE P "i" 416 (Value.int 27 523)] 2 }
noncomputable def q_69 (P : Params) : Obj := { cls := Value.type "range_iterator", data := Data.fields #[Value.int 29 0, Value.int 3 0, Value.int 1 0] }
noncomputable def q_70 (P : Params) : Obj := { cls := Value.type "frame", data := Data.dict #[dE P ".0" 412 (Value.ref 148), dE P "i" 416 (Value.int 28 527)] 2 }
noncomputable def q_71 (P : Params) : Obj := { cls := Value.type "range_iterator", data := Data.fields #[Value.int 30 0, Value.int 2 0, Value.int 1 0] }
noncomputable def q_72 (P : Params) : Obj := { cls := Value.type "frame", data := Data.dict #[dE P ".0" 412 (Value.ref 148), dE P "i" 416 (Value.int 29 531)] 2 }
noncomputable def q_73 (P : Params) : Obj := { cls := Value.type "range_iterator", data := Data.fields #[Value.int 31 0, Value.int 1 0, Value.int 1 0] }
noncomputable def q_74 (P : Params) : Obj := { cls := Value.type "frame", data := Data.dict #[dE P ".0" 412 (Value.ref 148), dE P "i" 416 (Value.int 30 535)] 2 }
noncomputable def q_75 (P : Params) : Obj := { cls := Value.type "range_iterator", data := Data.fields #[Value.int 32 0, Value.int 0 0, Value.int 1 0] }
noncomputable def q_76 (P : Params) : Obj := { cls := Value.type "frame", data := Data.dict #[dE P ".0" 412 (Value.ref 148), dE P "i" 416 (Value.int 31 539)] 2 }
noncomputable def q_77 (P : Params) : Obj := { cls := Value.type "StopIteration", data := Data.fields #[Value.ref 155, Value.none, Value.none, Value.none, Value.bool false, Value.none] }
noncomputable def q_78 (P : Params) : Obj := { cls := Value.type "StopIteration", data := Data.fields #[Value.ref 157, Value.none, Value.none, Value.none, Value.bool false, Value.none] }
noncomputable def q_79 (P : Params) : Obj := { cls := Value.type "str_ascii_iterator", data := Data.fields #[vS "\x7f" 544, Value.int 0 0] }
noncomputable def q_80 (P : Params) : Obj := { cls := Value.type "str_ascii_iterator", data := Data.fields #[vS "\x7f" 544, Value.int 1 0] }
noncomputable def q_81 (P : Params) : Obj := { cls := Value.type "str_ascii_iterator", data := Data.fields #[Value.none, Value.int 1 0] }
noncomputable def q_82 (P : Params) : Obj := { cls := Value.type "StopIteration", data := Data.fields #[Value.ref 161, Value.none, Value.none, Value.none, Value.bool false, Value.none] }
noncomputable def q_83 (P : Params) : Obj := { cls := Value.type "dict", data := Data.dict #[dE P "__name__" 165 (vS "cpy313.tomllib._parser" 402), dE P "__doc__" 166 Value.none, dE P "__package__" 167 Value.none, dE P "__loader__" 168 (Value.builtin "__main__.__loader__#opaque"), dE P "__spec__" 169 Value.none, dE P "__annotations__" 170 (Value.ref 6), dE P "__builtins__" 171 (Value.ref 4), dE P "__file__" 173 (vS "/claim/cut.py" 172), dE P "__cached__" 174 Value.none, dE P "_wall" 193 (Value.ref 21), dE P "_WallAttr" 233 (Value.ref 46), dE P "IS_CHARACTER_JUNK" 244 (Value.ref 58), dE P "file_template_difflib" 246 (Value.str bsA 245), dE P "styles_difflib" 248 (Value.str bsB 247), dE P "table_template_difflib" 250 (Value.str bsC 249), dE P "legend_difflib" 252 (Value.str bsD 251), dE P "HtmlDiff" 401 (Value.ref 142), dE P "ASCII_CTRL" 547 (Value.ref 163)] 18 }
noncomputable def q_84 (P : Params) : Obj := { cls := Value.type "str_ascii_iterator", data := Data.fields #[vS "\t" 548, Value.int 0 0] }
noncomputable def q_85 (P : Params) : Obj := { cls := Value.type "str_ascii_iterator", data := Data.fields #[vS "\t" 548, Value.int 1 0] }
noncomputable def q_86 (P : Params) : Obj := { cls := Value.type "StopIteration", data := Data.fields #[Value.ref 166, Value.none, Value.none, Value.none, Value.bool false, Value.none] }
noncomputable def q_87 (P : Params) : Obj := { cls := Value.type "dict", data := Data.dict #[dE P "__name__" 165 (vS "cpy313.tomllib._parser" 402), dE P "__doc__" 166 Value.none, dE P "__package__" 167 Value.none, dE P "__loader__" 168 (Value.builtin "__main__.__loader__#opaque"), dE P "__spec__" 169 Value.none, dE P "__annotations__" 170 (Value.ref 6), dE P "__builtins__" 171 (Value.ref 4), dE P "__file__" 173 (vS "/claim/cut.py" 172), dE P "__cached__" 174 Value.none, dE P "_wall" 193 (Value.ref 21), dE P "_WallAttr" 233 (Value.ref 46), dE P "IS_CHARACTER_JUNK" 244 (Value.ref 58), dE P "file_template_difflib" 246 (Value.str bsA 245), dE P "styles_difflib" 248 (Value.str bsB 247), dE P "table_template_difflib" 250 (Value.str bsC 249), dE P "legend_difflib" 252 (Value.str bsD 251), dE P "HtmlDiff" 401 (Value.ref 142), dE P "ASCII_CTRL" 547 (Value.ref 163), dE P "ILLEGAL_BASIC_STR_CHARS" 551 (Value.ref 168)] 19 }
noncomputable def q_88 (P : Params) : Obj := { cls := Value.type "str_ascii_iterator", data := Data.fields #[vS "\t\n" 552, Value.int 0 0] }
noncomputable def q_89 (P : Params) : Obj := { cls := Value.type "str_ascii_iterator", data := Data.fields #[vS "\t\n" 552, Value.int 1 0] }
noncomputable def q_90 (P : Params) : Obj := { cls := Value.type "str_ascii_iterator", data := Data.fields #[vS "\t\n" 552, Value.int 2 0] }
noncomputable def q_91 (P : Params) : Obj := { cls := Value.type "str_ascii_iterator", data := Data.fields #[Value.none, Value.int 2 0] }
noncomputable def q_92 (P : Params) : Obj := { cls := Value.type "StopIteration", data := Data.fields #[Value.ref 171, Value.none, Value.none, Value.none, Value.bool false, Value.none] }
noncomputable def q_93 (P : Params) : Obj := { cls := Value.type "dict", data := Data.dict #[dE P "__name__" 165 (vS "cpy313.tomllib._parser" 402), dE P "__doc__" 166 Value.none, dE P "__package__" 167 Value.none, dE P "__loader__" 168 (Value.builtin "__main__.__loader__#opaque"), dE P "__spec__" 169 Value.none, dE P "__annotations__" 170 (Value.ref 6), dE P "__builtins__" 171 (Value.ref 4), dE P "__file__" 173 (vS "/claim/cut.py" 172), dE P "__cached__" 174 Value.none, dE P "_wall" 193 (Value.ref 21), dE P "_WallAttr" 233 (Value.ref 46), dE P "IS_CHARACTER_JUNK" 244 (Value.ref 58), dE P "file_template_difflib" 246 (Value.str bsA 245), dE P "styles_difflib" 248 (Value.str bsB 247), dE P "table_template_difflib" 250 (Value.str bsC 249), dE P "legend_difflib" 252 (Value.str bsD 251), dE P "HtmlDiff" 401 (Value.ref 142), dE P "ASCII_CTRL" 547 (Value.ref 163), dE P "ILLEGAL_BASIC_STR_CHARS" 551 (Value.ref 168), dE P "ILLEGAL_MULTILINE_BASIC_STR_CHARS" 557 (Value.ref 173)] 20 }
noncomputable def q_94 (P : Params) : Obj := { cls := Value.type "dict", data := Data.dict #[dE P "__name__" 165 (vS "cpy313.tomllib._parser" 402), dE P "__doc__" 166 Value.none, dE P "__package__" 167 Value.none, dE P "__loader__" 168 (Value.builtin "__main__.__loader__#opaque"), dE P "__spec__" 169 Value.none, dE P "__annotations__" 170 (Value.ref 6), dE P "__builtins__" 171 (Value.ref 4), dE P "__file__" 173 (vS "/claim/cut.py" 172), dE P "__cached__" 174 Value.none, dE P "_wall" 193 (Value.ref 21), dE P "_WallAttr" 233 (Value.ref 46), dE P "IS_CHARACTER_JUNK" 244 (Value.ref 58), dE P "file_template_difflib" 246 (Value.str bsA 245), dE P "styles_difflib" 248 (Value.str bsB 247), dE P "table_template_difflib" 250 (Value.str bsC 249), dE P "legend_difflib" 252 (Value.str bsD 251), dE P "HtmlDiff" 401 (Value.ref 142), dE P "ASCII_CTRL" 547 (Value.ref 163), dE P "ILLEGAL_BASIC_STR_CHARS" 551 (Value.ref 168), dE P "ILLEGAL_MULTILINE_BASIC_STR_CHARS" 557 (Value.ref 173), dE P "ILLEGAL_MULTILINE_LITERAL_STR_CHARS" 558 (Value.ref 173)] 21 }
noncomputable def q_95 (P : Params) : Obj := { cls := Value.type "str_ascii_iterator", data := Data.fields #[vS " \t" 559, Value.int 0 0] }
noncomputable def q_96 (P : Params) : Obj := { cls := Value.type "str_ascii_iterator", data := Data.fields #[vS " \t" 559, Value.int 1 0] }
noncomputable def q_97 (P : Params) : Obj := { cls := Value.type "str_ascii_iterator", data := Data.fields #[vS " \t" 559, Value.int 2 0] }
noncomputable def q_98 (P : Params) : Obj := { cls := Value.type "dict", data := Data.dict #[dE P "__name__" 165 (vS "cpy313.tomllib._parser" 402), dE P "__doc__" 166 Value.none, dE P "__package__" 167 Value.none, dE P "__loader__" 168 (Value.builtin "__main__.__loader__#opaque"), dE P "__spec__" 169 Value.none, dE P "__annotations__" 170 (Value.ref 6), dE P "__builtins__" 171 (Value.ref 4), dE P "__file__" 173 (vS "/claim/cut.py" 172), dE P "__cached__" 174 Value.none, dE P "_wall" 193 (Value.ref 21), dE P "_WallAttr" 233 (Value.ref 46), dE P "IS_CHARACTER_JUNK" 244 (Value.ref 58), dE P "file_template_difflib" 246 (Value.str bsA 245), dE P "styles_difflib" 248 (Value.str bsB 247), dE P "table_template_difflib" 250 (Value.str bsC 249), dE P "legend_difflib" 252 (Value.str bsD 251), dE P "HtmlDiff" 401 (Value.ref 142), dE P "ASCII_CTRL" 547 (Value.ref 163), dE P "ILLEGAL_BASIC_STR_CHARS" 551 (Value.ref 168), dE P "ILLEGAL_MULTILINE_BASIC_STR_CHARS" 557 (Value.ref 173), dE P "ILLEGAL_MULTILINE_LITERAL_STR_CHARS" 558 (Value.ref 173), dE P "TOML_WS" 564 (Value.ref 174)] 22 }
noncomputable def q_99 (P : Params) : Obj := { cls := Value.type "StopIteration", data := Data.fields #[Value.ref 176, Value.none, Value.none, Value.none, Value.bool false, Value.none] }
noncomputable def q_100 (P : Params) : Obj := { cls := Value.type "str_ascii_iterator", data := Data.fields #[vS "\n" 565, Value.int 0 0] }
noncomputable def q_101 (P : Params) : Obj := { cls := Value.type "str_ascii_iterator", data := Data.fields #[vS "\n" 565, Value.int 1 0] }
noncomputable def q_102 (P : Params) : Obj := { cls := Value.type "StopIteration", data := Data.fields #[Value.ref 180, Value.none, Value.none, Value.none, Value.bool false, Value.none] }
noncomputable def q_103 (P : Params) : Obj := { cls := Value.type "dict", data := Data.dict #[dE P "__name__" 165 (vS "cpy313.tomllib._parser" 402), dE P "__doc__" 166 Value.none, dE P "__package__" 167 Value.none, dE P "__loader__" 168 (Value.builtin "__main__.__loader__#opaque"), dE P "__spec__" 169 Value.none, dE P "__annotations__" 170 (Value.ref 6), dE P "__builtins__" 171 (Value.ref 4), dE P "__file__" 173 (vS "/claim/cut.py" 172), dE P "__cached__" 174 Value.none, dE P "_wall" 193 (Value.ref 21), dE P "_WallAttr" 233 (Value.ref 46), dE P "IS_CHARACTER_JUNK" 244 (Value.ref 58), dE P "file_template_difflib" 246 (Value.str bsA 245), dE P "styles_difflib" 248 (Value.str bsB 247), dE P "table_template_difflib" 250 (Value.str bsC 249), dE P "legend_difflib" 252 (Value.str bsD 251), dE P "HtmlDiff" 401 (Value.ref 142), dE P "ASCII_CTRL" 547 (Value.ref 163), dE P "ILLEGAL_BASIC_STR_CHARS" 551 (Value.ref 168), dE P "ILLEGAL_MULTILINE_BASIC_STR_CHARS" 557 (Value.ref 173), dE P "ILLEGAL_MULTILINE_LITERAL_STR_CHARS" 558 (Value.ref 173), dE P "TOML_WS" 564 (Value.ref 174), dE P "TOML_WS_AND_NEWLINE" 568 (Value.ref 182)] 23 }
noncomputable def q_104 (P : Params) : Obj := { cls := Value.type "dict", data := Data.dict #[dE P "__name__" 165 (vS "cpy313.tomllib._parser" 402), dE P "__doc__" 166 Value.none, dE P "__package__" 167 Value.none, dE P "__loader__" 168 (Value.builtin "__main__.__loader__#opaque"), dE P "__spec__" 169 Value.none, dE P "__annotations__" 170 (Value.ref 6), dE P "__builtins__" 171 (Value.ref 4), dE P "__file__" 173 (vS "/claim/cut.py" 172), dE P "__cached__" 174 Value.none, dE P "_wall" 193 (Value.ref 21), dE P "_WallAttr" 233 (Value.ref 46), dE P "IS_CHARACTER_JUNK" 244 (Value.ref 58), dE P "file_template_difflib" 246 (Value.str bsA 245), dE P "styles_difflib" 248 (Value.str bsB 247), dE P "table_template_difflib" 250 (Value.str bsC 249), dE P "legend_difflib" 252 (Value.str bsD 251), dE P "HtmlDiff" 401 (Value.ref 142), dE P "ASCII_CTRL" 547 (Value.ref 163), dE P "ILLEGAL_BASIC_STR_CHARS" 551 (Value.ref 168), dE P "ILLEGAL_MULTILINE_BASIC_STR_CHARS" 557 (Value.ref 173), dE P "ILLEGAL_MULTILINE_LITERAL_STR_CHARS" 558 (Value.ref 173), dE P "TOML_WS" 564 (Value.ref 174), dE P "TOML_WS_AND_NEWLINE" 568 (Value.ref 182), dE P "digits" 570 (vS "0123456789" 569), dE P "hexdigits" 575 (vS "0123456789abcdefABCDEF" 574)] 25 }
noncomputable def q_105 (P : Params) : Obj := { cls := Value.type "str_ascii_iterator", data := Data.fields #[vS "0123456789abcdefABCDEF" 574, Value.int 0 0] }
noncomputable def q_106 (P : Params) : Obj := { cls := Value.type "str_ascii_iterator", data := Data.fields #[vS "0123456789abcdefABCDEF" 574, Value.int 1 0] }
noncomputable def q_107 (P : Params) : Obj := { cls := Value.type "str_ascii_iterator", data := Data.fields #[vS "0123456789abcdefABCDEF" 574, Value.int 2 0] }
noncomputable def q_108 (P : Params) : Obj := { cls := Value.type "str_ascii_iterator", data := Data.fields #[vS "0123456789abcdefABCDEF" 574, Value.int 3 0] }
noncomputable def q_109 (P : Params) : Obj := { cls := Value.type "str_ascii_iterator", data := Data.fields #[vS "0123456789abcdefABCDEF" 574, Value.int 4 0] }
noncomputable def q_110 (P : Params) : Obj := { cls := Value.type "str_ascii_iterator", data := Data.fields #[vS "0123456789abcdefABCDEF" 574, Value.int 5 0] }
noncomputable def q_111 (P : Params) : Obj := { cls := Value.type "str_ascii_iterator", data := Data.fields #[vS "0123456789abcdefABCDEF" 574, Value.int 6 0] }
noncomputable def q_112 (P : Params) : Obj := { cls := Value.type "str_ascii_iterator", data := Data.fields #[vS "0123456789abcdefABCDEF" 574, Value.int 7 0] }
noncomputable def q_113 (P : Params) : Obj := { cls := Value.type "str_ascii_iterator", data := Data.fields #[vS "0123456789abcdefABCDEF" 574, Value.int 8 0] }
noncomputable def q_114 (P : Params) : Obj := { cls := Value.type "str_ascii_iterator", data := Data.fields #[vS "0123456789abcdefABCDEF" 574, Value.int 9 0] }
noncomputable def q_115 (P : Params) : Obj := { cls := Value.type "str_ascii_iterator", data := Data.fields #[vS "0123456789abcdefABCDEF" 574, Value.int 10 0] }
noncomputable def q_116 (P : Params) : Obj := { cls := Value.type "str_ascii_iterator", data := Data.fields #[vS "0123456789abcdefABCDEF" 574, Value.int 11 0] }
noncomputable def q_117 (P : Params) : Obj := { cls := Value.type "str_ascii_iterator", data := Data.fields #[vS "0123456789abcdefABCDEF" 574, Value.int 12 0] }
noncomputable def q_118 (P : Params) : Obj := { cls := Value.type "str_ascii_iterator", data := Data.fields #[vS "0123456789abcdefABCDEF" 574, Value.int 13 0] }
noncomputable def q_119 (P : Params) : Obj := { cls := Value.type "str_ascii_iterator", data := Data.fields #[vS "0123456789abcdefABCDEF" 574, Value.int 14 0] }
noncomputable def q_120 (P : Params) : Obj := { cls := Value.type "str_ascii_iterator", data := Data.fields #[vS "0123456789abcdefABCDEF" 574, Value.int 15 0] }
noncomputable def q_121 (P : Params) : Obj := { cls := Value.type "str_ascii_iterator", data := Data.fields #[vS "0123456789abcdefABCDEF" 574, Value.int 16 0] }
noncomputable def q_122 (P : Params) : Obj := { cls := Value.type "str_ascii_iterator", data := Data.fields #[vS "0123456789abcdefABCDEF" 574, Value.int 17 0] }
noncomputable def q_123 (P : Params) : Obj := { cls := Value.type "str_ascii_iterator", data := Data.fields #[vS "0123456789abcdefABCDEF" 574, Value.int 18 0] }
noncomputable def q_124 (P : Params) : Obj := { cls := Value.type "str_ascii_iterator", data := Data.fields #[vS "0123456789abcdefABCDEF" 574, Value.int 19 0] }
noncomputable def q_125 (P : Params) : Obj := { cls := Value.type "str_ascii_iterator", data := Data.fields #[vS "0123456789abcdefABCDEF" 574, Value.int 20 0] }
noncomputable def q_126 (P : Params) : Obj := { cls := Value.type "str_ascii_iterator", data := Data.fields #[vS "0123456789abcdefABCDEF" 574, Value.int 21 0] }
noncomputable def q_127 (P : Params) : Obj := { cls := Value.type "str_ascii_iterator", data := Data.fields #[vS "0123456789abcdefABCDEF" 574, Value.int 22 0] }
noncomputable def q_128 (P : Params) : Obj := { cls := Value.type "dict", data := Data.dict #[dE P "__name__" 165 (vS "cpy313.tomllib._parser" 402), dE P "__doc__" 166 Value.none, dE P "__package__" 167 Value.none, dE P "__loader__" 168 (Value.builtin "__main__.__loader__#opaque"), dE P "__spec__" 169 Value.none, dE P "__annotations__" 170 (Value.ref 6), dE P "__builtins__" 171 (Value.ref 4), dE P "__file__" 173 (vS "/claim/cut.py" 172), dE P "__cached__" 174 Value.none, dE P "_wall" 193 (Value.ref 21), dE P "_WallAttr" 233 (Value.ref 46), dE P "IS_CHARACTER_JUNK" 244 (Value.ref 58), dE P "file_template_difflib" 246 (Value.str bsA 245), dE P "styles_difflib" 248 (Value.str bsB 247), dE P "table_template_difflib" 250 (Value.str bsC 249), dE P "legend_difflib" 252 (Value.str bsD 251), dE P "HtmlDiff" 401 (Value.ref 142), dE P "ASCII_CTRL" 547 (Value.ref 163), dE P "ILLEGAL_BASIC_STR_CHARS" 551 (Value.ref 168), dE P "ILLEGAL_MULTILINE_BASIC_STR_CHARS" 557 (Value.ref 173), dE P "ILLEGAL_MULTILINE_LITERAL_STR_CHARS" 558 (Value.ref 173), dE P "TOML_WS" 564 (Value.ref 174), dE P "TOML_WS_AND_NEWLINE" 568 (Value.ref 182), dE P "digits" 570 (vS "0123456789" 569), dE P "hexdigits" 575 (vS "0123456789abcdefABCDEF" 574), dE P "HEXDIGIT_CHARS" 620 (Value.ref 183)] 26 }
noncomputable def q_129 (P : Params) : Obj := { cls := Value.type "str_ascii_iterator", data := Data.fields #[Value.none, Value.int 22 0] }
noncomputable def q_130 (P : Params) : Obj := { cls := Value.type "StopIteration", data := Data.fields #[Value.ref 185, Value.none, Value.none, Value.none, Value.bool false, Value.none] }
noncomputable def q_131 (P : Params) : Obj := { cls := Value.type "dict", data := Data.dict #[dE P "__name__" 165 (vS "cpy313.tomllib._parser" 625), dE P "__doc__" 166 Value.none, dE P "__package__" 167 Value.none, dE P "__loader__" 168 (Value.builtin "__main__.__loader__#opaque"), dE P "__spec__" 169 Value.none, dE P "__annotations__" 170 (Value.ref 6), dE P "__builtins__" 171 (Value.ref 4), dE P "__file__" 173 (vS "/claim/cut.py" 172), dE P "__cached__" 174 Value.none, dE P "_wall" 193 (Value.ref 21), dE P "_WallAttr" 233 (Value.ref 46), dE P "IS_CHARACTER_JUNK" 244 (Value.ref 58), dE P "file_template_difflib" 246 (Value.str bsA 245), dE P "styles_difflib" 248 (Value.str bsB 247), dE P "table_template_difflib" 250 (Value.str bsC 249), dE P "legend_difflib" 252 (Value.str bsD 251), dE P "HtmlDiff" 401 (Value.ref 142), dE P "ASCII_CTRL" 547 (Value.ref 163), dE P "ILLEGAL_BASIC_STR_CHARS" 551 (Value.ref 168), dE P "ILLEGAL_MULTILINE_BASIC_STR_CHARS" 557 (Value.ref 173), dE P "ILLEGAL_MULTILINE_LITERAL_STR_CHARS" 558 (Value.ref 173), dE P "TOML_WS" 564 (Value.ref 174), dE P "TOML_WS_AND_NEWLINE" 568 (Value.ref 182), dE P "digits" 570 (vS "0123456789" 569), dE P "hexdigits" 575 (vS "0123456789abcdefABCDEF" 574), dE P "HEXDIGIT_CHARS" 620 (Value.ref 183), dE P "MappingProxyType" 624 (Value.type "mappingproxy"), dE P "BASIC_STR_ESCAPE_REPLACEMENTS" 648 (Value.ref 189)] 28 }
noncomputable def q_132 (P : Params) : Obj := { cls := Value.type "dict", data := Data.dict #[dE P "__name__" 165 (vS "cpy313.tomllib._parser" 625), dE P "__doc__" 166 Value.none, dE P "__package__" 167 Value.none, dE P "__loader__" 168 (Value.builtin "__main__.__loader__#opaque"), dE P "__spec__" 169 Value.none, dE P "__annotations__" 170 (Value.ref 6), dE P "__builtins__" 171 (Value.ref 4), dE P "__file__" 173 (vS "/claim/cut.py" 172), dE P "__cached__" 174 Value.none, dE P "_wall" 193 (Value.ref 21), dE P "_WallAttr" 233 (Value.ref 46), dE P "IS_CHARACTER_JUNK" 244 (Value.ref 58), dE P "file_template_difflib" 246 (Value.str bsA 245), dE P "styles_difflib" 248 (Value.str bsB 247), dE P "table_template_difflib" 250 (Value.str bsC 249), dE P "legend_difflib" 252 (Value.str bsD 251), dE P "HtmlDiff" 401 (Value.ref 142), dE P "ASCII_CTRL" 547 (Value.ref 163), dE P "ILLEGAL_BASIC_STR_CHARS" 551 (Value.ref 168), dE P "ILLEGAL_MULTILINE_BASIC_STR_CHARS" 557 (Value.ref 173), dE P "ILLEGAL_MULTILINE_LITERAL_STR_CHARS" 558 (Value.ref 173), dE P "TOML_WS" 564 (Value.ref 174), dE P "TOML_WS_AND_NEWLINE" 568 (Value.ref 182), dE P "digits" 570 (vS "0123456789" 569), dE P "hexdigits" 575 (vS "0123456789abcdefABCDEF" 574), dE P "HEXDIGIT_CHARS" 620 (Value.ref 183), dE P "MappingProxyType" 624 (Value.type "mappingproxy"), dE P "BASIC_STR_ESCAPE_REPLACEMENTS" 648 (Value.ref 189), dE P "TOMLDecodeError" 666 (Value.ref 199)] 29 }
noncomputable def q_133 (P : Params) : Obj := { cls := Value.none, data := Data.fields #[Value.int 1 0, Value.int 0 0, Value.ref 20, Value.int 4 0, Value.int 0 0, Value.ref 27, Value.int 11 0, Value.int 0 0, Value.ref 57, Value.int 17 0, Value.int 0 0, Value.ref 64, Value.int 85 0, Value.int 23 0, Value.ref 151, Value.int 98 0, Value.int 0 0, Value.ref 195] }
noncomputable def q_134 (P : Params) : Obj := { cls := Value.type "dict", data := Data.dict #[dE P "__name__" 165 (vS "cpy313.tomllib._parser" 625), dE P "__doc__" 166 Value.none, dE P "__package__" 167 Value.none, dE P "__loader__" 168 (Value.builtin "__main__.__loader__#opaque"), dE P "__spec__" 169 Value.none, dE P "__annotations__" 170 (Value.ref 6), dE P "__builtins__" 171 (Value.ref 4), dE P "__file__" 173 (vS "/claim/cut.py" 172), dE P "__cached__" 174 Value.none, dE P "_wall" 193 (Value.ref 21), dE P "_WallAttr" 233 (Value.ref 46), dE P "IS_CHARACTER_JUNK" 244 (Value.ref 58), dE P "file_template_difflib" 246 (Value.str bsA 245), dE P "styles_difflib" 248 (Value.str bsB 247), dE P "table_template_difflib" 250 (Value.str bsC 249), dE P "legend_difflib" 252 (Value.str bsD 251), dE P "HtmlDiff" 401 (Value.ref 142), dE P "ASCII_CTRL" 547 (Value.ref 163), dE P "ILLEGAL_BASIC_STR_CHARS" 551 (Value.ref 168), dE P "ILLEGAL_MULTILINE_BASIC_STR_CHARS" 557 (Value.ref 173), dE P "ILLEGAL_MULTILINE_LITERAL_STR_CHARS" 558 (Value.ref 173), dE P "TOML_WS" 564 (Value.ref 174), dE P "TOML_WS_AND_NEWLINE" 568 (Value.ref 182), dE P "digits" 570 (vS "0123456789" 569), dE P "hexdigits" 575 (vS "0123456789abcdefABCDEF" 574), dE P "HEXDIGIT_CHARS" 620 (Value.ref 183), dE P "MappingProxyType" 624 (Value.type "mappingproxy"), dE P "BASIC_STR_ESCAPE_REPLACEMENTS" 648 (Value.ref 189), dE P "TOMLDecodeError" 666 (Value.ref 199), dE P "skip_chars" 675 (Value.ref 209), dE P "skip_until" 687 (Value.ref 216), dE P "parse_basic_str_escape" 699 (Value.ref 224), dE P "parse_basic_str_escape_multiline" 707 (Value.ref 231)] 33 }
noncomputable def q_135 (P : Params) : Obj := { cls := Value.none, data := Data.fields #[Value.int 1 0, Value.int 0 0, Value.ref 20, Value.int 4 0, Value.int 0 0, Value.ref 27, Value.int 11 0, Value.int 0 0, Value.ref 57, Value.int 17 0, Value.int 0 0, Value.ref 64, Value.int 85 0, Value.int 23 0, Value.ref 151, Value.int 98 0, Value.int 0 0, Value.ref 195, Value.int 100 0, Value.int 0 0, Value.ref 208, Value.int 107 0, Value.int 0 0, Value.ref 215, Value.int 119 0, Value.int 0 0, Value.ref 223, Value.int 142 0, Value.int 0 0, Value.ref 230] }
noncomputable def q_136 (P : Params) : Obj := { cls := Value.type "dict", data := Data.dict #[dE P "__name__" 165 (vS "cpy313.tomllib._parser" 625), dE P "__doc__" 166 Value.none, dE P "__package__" 167 Value.none, dE P "__loader__" 168 (Value.builtin "__main__.__loader__#opaque"), dE P "__spec__" 169 Value.none, dE P "__annotations__" 170 (Value.ref 6), dE P "__builtins__" 171 (Value.ref 4), dE P "__file__" 173 (vS "/claim/cut.py" 172), dE P "__cached__" 174 Value.none, dE P "_wall" 193 (Value.ref 21), dE P "_WallAttr" 233 (Value.ref 46), dE P "IS_CHARACTER_JUNK" 244 (Value.ref 58), dE P "file_template_difflib" 246 (Value.str bsA 245), dE P "styles_difflib" 248 (Value.str bsB 247), dE P "table_template_difflib" 250 (Value.str bsC 249), dE P "legend_difflib" 252 (Value.str bsD 251), dE P "HtmlDiff" 401 (Value.ref 142), dE P "ASCII_CTRL" 547 (Value.ref 163), dE P "ILLEGAL_BASIC_STR_CHARS" 551 (Value.ref 168), dE P "ILLEGAL_MULTILINE_BASIC_STR_CHARS" 557 (Value.ref 173), dE P "ILLEGAL_MULTILINE_LITERAL_STR_CHARS" 558 (Value.ref 173), dE P "TOML_WS" 564 (Value.ref 174), dE P "TOML_WS_AND_NEWLINE" 568 (Value.ref 182), dE P "digits" 570 (vS "0123456789" 569), dE P "hexdigits" 575 (vS "0123456789abcdefABCDEF" 574), dE P "HEXDIGIT_CHARS" 620 (Value.ref 183), dE P "MappingProxyType" 624 (Value.type "mappingproxy"), dE P "BASIC_STR_ESCAPE_REPLACEMENTS" 648 (Value.ref 189), dE P "TOMLDecodeError" 666 (Value.ref 199), dE P "skip_chars" 675 (Value.ref 209), dE P "skip_until" 687 (Value.ref 216), dE P "parse_basic_str_escape" 699 (Value.ref 224), dE P "parse_basic_str_escape_multiline" 707 (Value.ref 231), dE P "parse_hex_char" 718 (Value.ref 238), dE P "parse_multiline_str" 730 (Value.ref 245), dE P "parse_basic_str" 745 (Value.ref 252), dE P "suffixed_err" 755 (Value.ref 259), dE P "is_unicode_scalar_value" 762 (Value.ref 266)] 38 }
noncomputable def q_137 (P : Params) : Obj := { cls := Value.none, data := Data.fields #[Value.int 1 0, Value.int 0 0, Value.ref 20, Value.int 4 0, Value.int 0 0, Value.ref 27, Value.int 11 0, Value.int 0 0, Value.ref 57, Value.int 17 0, Value.int 0 0, Value.ref 64, Value.int 85 0, Value.int 23 0, Value.ref 151, Value.int 98 0, Value.int 0 0, Value.ref 195, Value.int 100 0, Value.int 0 0, Value.ref 208, Value.int 107 0, Value.int 0 0, Value.ref 215, Value.int 119 0, Value.int 0 0, Value.ref 223, Value.int 142 0, Value.int 0 0, Value.ref 230, Value.int 144 0, Value.int 0 0, Value.ref 237, Value.int 153 0, Value.int 0 0, Value.ref 244, Value.int 172 0, Value.int 0 0, Value.ref 251, Value.int 202 0, Value.int 0 0, Value.ref 258, Value.int 214 0, Value.int 0 0, Value.ref 265] }
noncomputable def q_138 (P : Params) : Obj := { cls := Value.type "dict", data := Data.dict #[dE P "__name__" 165 (vS "law_ij0193_01" 763), dE P "__doc__" 166 Value.none, dE P "__package__" 167 Value.none, dE P "__loader__" 168 (Value.builtin "__main__.__loader__#opaque"), dE P "__spec__" 169 Value.none, dE P "__annotations__" 170 (Value.ref 6), dE P "__builtins__" 171 (Value.ref 4), dE P "__file__" 173 (vS "/claim/cut.py" 172), dE P "__cached__" 174 Value.none, dE P "_wall" 193 (Value.ref 21), dE P "_WallAttr" 233 (Value.ref 46), dE P "IS_CHARACTER_JUNK" 244 (Value.ref 58), dE P "file_template_difflib" 246 (Value.str bsA 245), dE P "styles_difflib" 248 (Value.str bsB 247), dE P "table_template_difflib" 250 (Value.str bsC 249), dE P "legend_difflib" 252 (Value.str bsD 251), dE P "HtmlDiff" 401 (Value.ref 142), dE P "ASCII_CTRL" 547 (Value.ref 163), dE P "ILLEGAL_BASIC_STR_CHARS" 551 (Value.ref 168), dE P "ILLEGAL_MULTILINE_BASIC_STR_CHARS" 557 (Value.ref 173), dE P "ILLEGAL_MULTILINE_LITERAL_STR_CHARS" 558 (Value.ref 173), dE P "TOML_WS" 564 (Value.ref 174), dE P "TOML_WS_AND_NEWLINE" 568 (Value.ref 182), dE P "digits" 570 (vS "0123456789" 569), dE P "hexdigits" 575 (vS "0123456789abcdefABCDEF" 574), dE P "HEXDIGIT_CHARS" 620 (Value.ref 183), dE P "MappingProxyType" 624 (Value.type "mappingproxy"), dE P "BASIC_STR_ESCAPE_REPLACEMENTS" 648 (Value.ref 189), dE P "TOMLDecodeError" 666 (Value.ref 199), dE P "skip_chars" 675 (Value.ref 209), dE P "skip_until" 687 (Value.ref 216), dE P "parse_basic_str_escape" 699 (Value.ref 224), dE P "parse_basic_str_escape_multiline" 707 (Value.ref 231), dE P "parse_hex_char" 718 (Value.ref 238), dE P "parse_multiline_str" 730 (Value.ref 245), dE P "parse_basic_str" 745 (Value.ref 252), dE P "suffixed_err" 755 (Value.ref 259), dE P "is_unicode_scalar_value" 762 (Value.ref 266), dE P "_law_drawn" 776 (Value.ref 273), dE P "_law_figures" 786 (Value.ref 280), dE P "_law_spelled" 797 (Value.ref 287), dE P "_law_written" 813 (Value.ref 294)] 42 }
noncomputable def q_139 (P : Params) : Obj := { cls := Value.none, data := Data.fields #[Value.int 1 0, Value.int 0 0, Value.ref 20, Value.int 4 0, Value.int 0 0, Value.ref 27, Value.int 11 0, Value.int 0 0, Value.ref 57, Value.int 17 0, Value.int 0 0, Value.ref 64, Value.int 85 0, Value.int 23 0, Value.ref 151, Value.int 98 0, Value.int 0 0, Value.ref 195, Value.int 100 0, Value.int 0 0, Value.ref 208, Value.int 107 0, Value.int 0 0, Value.ref 215, Value.int 119 0, Value.int 0 0, Value.ref 223, Value.int 142 0, Value.int 0 0, Value.ref 230, Value.int 144 0, Value.int 0 0, Value.ref 237, Value.int 153 0, Value.int 0 0, Value.ref 244, Value.int 172 0, Value.int 0 0, Value.ref 251, Value.int 202 0, Value.int 0 0, Value.ref 258, Value.int 214 0, Value.int 0 0, Value.ref 265, Value.int 217 0, Value.int 0 0, Value.ref 272, Value.int 225 0, Value.int 0 0, Value.ref 279, Value.int 231 0, Value.int 0 0, Value.ref 286, Value.int 243 0, Value.int 0 0, Value.ref 293] }
noncomputable def q_140 (P : Params) : Obj := { cls := Value.type "dict", data := Data.dict #[dE P "__name__" 165 (vS "law_ij0193_01" 763), dE P "__doc__" 166 Value.none, dE P "__package__" 167 Value.none, dE P "__loader__" 168 (Value.builtin "__main__.__loader__#opaque"), dE P "__spec__" 169 Value.none, dE P "__annotations__" 170 (Value.ref 6), dE P "__builtins__" 171 (Value.ref 4), dE P "__file__" 173 (vS "/claim/cut.py" 172), dE P "__cached__" 174 Value.none, dE P "_wall" 193 (Value.ref 21), dE P "_WallAttr" 233 (Value.ref 46), dE P "IS_CHARACTER_JUNK" 244 (Value.ref 58), dE P "file_template_difflib" 246 (Value.str bsA 245), dE P "styles_difflib" 248 (Value.str bsB 247), dE P "table_template_difflib" 250 (Value.str bsC 249), dE P "legend_difflib" 252 (Value.str bsD 251), dE P "HtmlDiff" 401 (Value.ref 142), dE P "ASCII_CTRL" 547 (Value.ref 163), dE P "ILLEGAL_BASIC_STR_CHARS" 551 (Value.ref 168), dE P "ILLEGAL_MULTILINE_BASIC_STR_CHARS" 557 (Value.ref 173), dE P "ILLEGAL_MULTILINE_LITERAL_STR_CHARS" 558 (Value.ref 173), dE P "TOML_WS" 564 (Value.ref 174), dE P "TOML_WS_AND_NEWLINE" 568 (Value.ref 182), dE P "digits" 570 (vS "0123456789" 569), dE P "hexdigits" 575 (vS "0123456789abcdefABCDEF" 574), dE P "HEXDIGIT_CHARS" 620 (Value.ref 183), dE P "MappingProxyType" 624 (Value.type "mappingproxy"), dE P "BASIC_STR_ESCAPE_REPLACEMENTS" 648 (Value.ref 189), dE P "TOMLDecodeError" 666 (Value.ref 199), dE P "skip_chars" 675 (Value.ref 209), dE P "skip_until" 687 (Value.ref 216), dE P "parse_basic_str_escape" 699 (Value.ref 224), dE P "parse_basic_str_escape_multiline" 707 (Value.ref 231), dE P "parse_hex_char" 718 (Value.ref 238), dE P "parse_multiline_str" 730 (Value.ref 245), dE P "parse_basic_str" 745 (Value.ref 252), dE P "suffixed_err" 755 (Value.ref 259), dE P "is_unicode_scalar_value" 762 (Value.ref 266), dE P "_law_drawn" 776 (Value.ref 273), dE P "_law_figures" 786 (Value.ref 280), dE P "_law_spelled" 797 (Value.ref 287), dE P "_law_written" 813 (Value.ref 294), dE P "_law_found" 823 (Value.ref 301), dE P "_law_due" 829 (Value.ref 306), dE P "_law_whole" 844 (Value.ref 313), dE P "_law_broken" 860 (Value.ref 320), dE P "_law_all" 866 (Value.ref 325), dE P "law" 875 (Value.ref 332)] 48 }
noncomputable def q_141 (P : Params) : Obj := { cls := Value.none, data := Data.fields #[Value.int 1 0, Value.int 0 0, Value.ref 20, Value.int 4 0, Value.int 0 0, Value.ref 27, Value.int 11 0, Value.int 0 0, Value.ref 57, Value.int 17 0, Value.int 0 0, Value.ref 64, Value.int 85 0, Value.int 23 0, Value.ref 151, Value.int 98 0, Value.int 0 0, Value.ref 195, Value.int 100 0, Value.int 0 0, Value.ref 208, Value.int 107 0, Value.int 0 0, Value.ref 215, Value.int 119 0, Value.int 0 0, Value.ref 223, Value.int 142 0, Value.int 0 0, Value.ref 230, Value.int 144 0, Value.int 0 0, Value.ref 237, Value.int 153 0, Value.int 0 0, Value.ref 244, Value.int 172 0, Value.int 0 0, Value.ref 251, Value.int 202 0, Value.int 0 0, Value.ref 258, Value.int 214 0, Value.int 0 0, Value.ref 265, Value.int 217 0, Value.int 0 0, Value.ref 272, Value.int 225 0, Value.int 0 0, Value.ref 279, Value.int 231 0, Value.int 0 0, Value.ref 286, Value.int 243 0, Value.int 0 0, Value.ref 293, Value.int 259 0, Value.int 0 0, Value.ref 300, Value.int 263 0, Value.int 0 0, Value.ref 305, Value.int 268 0, Value.int 0 0, Value.ref 312, Value.int 272 0, Value.int 0 0, Value.ref 319, Value.int 284 0, Value.int 0 0, Value.ref 324, Value.int 294 0, Value.int 0 0, Value.ref 331] }
noncomputable def b_0 (P : Params) : BT := (.node (F.o_122 P) .nil .nil)
noncomputable def b_1 (P : Params) : BT := (.node (F.o_58 P) (b_0 P) .nil)
noncomputable def b_2 (P : Params) : BT := (.node (F.o_138 P) .nil .nil)
noncomputable def b_3 (P : Params) : BT := (.node (F.o_74 P) (b_2 P) .nil)
noncomputable def b_4 (P : Params) : BT := (.node (F.o_39 P) (b_3 P) (.node (F.o_106 P) .nil .nil))
noncomputable def b_5 (P : Params) : BT := (.node (F.o_7 P) (.node (F.o_23 P) (b_1 P) (.node (F.o_90 P) .nil .nil)) (b_4 P))
noncomputable def b_6 (P : Params) : BT := (.node (F.o_130 P) .nil .nil)
noncomputable def b_7 (P : Params) : BT := (.node (F.o_66 P) (b_6 P) .nil)
noncomputable def b_8 (P : Params) : BT := (.node (F.o_31 P) (b_7 P) (.node (F.o_98 P) .nil .nil))
noncomputable def b_9 (P : Params) : BT := (.node (q_10 P) .nil .nil)
noncomputable def b_10 (P : Params) : BT := (.node (F.o_82 P) (b_9 P) .nil)
noncomputable def b_11 (P : Params) : BT := (.node (F.o_114 P) .nil .nil)
noncomputable def b_12 (P : Params) : BT := (.node (F.o_47 P) (b_10 P) (b_11 P))
noncomputable def b_13 (P : Params) : BT := (.node (F.o_15 P) (b_8 P) (b_12 P))
noncomputable def b_14 (P : Params) : BT := (.node (F.o_126 P) .nil .nil)
noncomputable def b_15 (P : Params) : BT := (.node (F.o_62 P) (b_14 P) .nil)
noncomputable def b_16 (P : Params) : BT := (.node (F.o_27 P) (b_15 P) (.node (F.o_94 P) .nil .nil))
noncomputable def b_17 (P : Params) : BT := (.node (q_6 P) .nil .nil)
noncomputable def b_18 (P : Params) : BT := (.node (F.o_78 P) (b_17 P) .nil)
noncomputable def b_19 (P : Params) : BT := (.node (F.o_110 P) .nil .nil)
noncomputable def b_20 (P : Params) : BT := (.node (F.o_43 P) (b_18 P) (b_19 P))
noncomputable def b_21 (P : Params) : BT := (.node (F.o_11 P) (b_16 P) (b_20 P))
noncomputable def b_22 (P : Params) : BT := (.node (F.o_134 P) .nil .nil)
noncomputable def b_23 (P : Params) : BT := (.node (F.o_70 P) (b_22 P) .nil)
noncomputable def b_24 (P : Params) : BT := (.node (F.o_35 P) (b_23 P) (.node (F.o_102 P) .nil .nil))
noncomputable def b_25 (P : Params) : BT := (.node (F.o_118 P) .nil .nil)
noncomputable def b_26 (P : Params) : BT := (.node (F.o_19 P) (b_24 P) (.node (F.o_54 P) (.node (F.o_86 P) .nil .nil) (b_25 P)))
noncomputable def b_27 (P : Params) : BT := (.node (F.o_124 P) .nil .nil)
noncomputable def b_28 (P : Params) : BT := (.node (F.o_60 P) (b_27 P) .nil)
noncomputable def b_29 (P : Params) : BT := (.node (F.o_140 P) .nil .nil)
noncomputable def b_30 (P : Params) : BT := (.node (F.o_76 P) (b_29 P) .nil)
noncomputable def b_31 (P : Params) : BT := (.node (F.o_41 P) (b_30 P) (.node (F.o_108 P) .nil .nil))
noncomputable def b_32 (P : Params) : BT := (.node (F.o_9 P) (.node (F.o_25 P) (b_28 P) (.node (F.o_92 P) .nil .nil)) (b_31 P))
noncomputable def b_33 (P : Params) : BT := (.node (F.o_132 P) .nil .nil)
noncomputable def b_34 (P : Params) : BT := (.node (F.o_68 P) (b_33 P) .nil)
noncomputable def b_35 (P : Params) : BT := (.node (F.o_33 P) (b_34 P) (.node (F.o_100 P) .nil .nil))
noncomputable def b_36 (P : Params) : BT := (.node (q_12 P) .nil .nil)
noncomputable def b_37 (P : Params) : BT := (.node (F.o_84 P) (b_36 P) .nil)
noncomputable def b_38 (P : Params) : BT := (.node (F.o_116 P) .nil .nil)
noncomputable def b_39 (P : Params) : BT := (.node (F.o_49 P) (b_37 P) (b_38 P))
noncomputable def b_40 (P : Params) : BT := (.node (F.o_17 P) (b_35 P) (b_39 P))
noncomputable def b_41 (P : Params) : BT := (.node (boot_o_9 P) (b_32 P) (b_40 P))
noncomputable def b_42 (P : Params) : BT := (.node (F.o_128 P) .nil .nil)
noncomputable def b_43 (P : Params) : BT := (.node (F.o_64 P) (b_42 P) .nil)
noncomputable def b_44 (P : Params) : BT := (.node (F.o_29 P) (b_43 P) (.node (F.o_96 P) .nil .nil))
noncomputable def b_45 (P : Params) : BT := (.node (q_8 P) .nil .nil)
noncomputable def b_46 (P : Params) : BT := (.node (F.o_80 P) (b_45 P) .nil)
noncomputable def b_47 (P : Params) : BT := (.node (F.o_112 P) .nil .nil)
noncomputable def b_48 (P : Params) : BT := (.node (F.o_45 P) (b_46 P) (b_47 P))
noncomputable def b_49 (P : Params) : BT := (.node (F.o_13 P) (b_44 P) (b_48 P))
noncomputable def b_50 (P : Params) : BT := (.node (F.o_136 P) .nil .nil)
noncomputable def b_51 (P : Params) : BT := (.node (F.o_72 P) (b_50 P) .nil)
noncomputable def b_52 (P : Params) : BT := (.node (F.o_37 P) (b_51 P) (.node (F.o_104 P) .nil .nil))
noncomputable def b_53 (P : Params) : BT := (.node (F.o_120 P) .nil .nil)
noncomputable def b_54 (P : Params) : BT := (.node (F.o_21 P) (b_52 P) (.node (F.o_56 P) (.node (F.o_88 P) .nil .nil) (b_53 P)))
noncomputable def b_55 (P : Params) : BT := (.node (F.o_123 P) .nil .nil)
noncomputable def b_56 (P : Params) : BT := (.node (F.o_59 P) (b_55 P) .nil)
noncomputable def b_57 (P : Params) : BT := (.node (F.o_139 P) .nil .nil)
noncomputable def b_58 (P : Params) : BT := (.node (F.o_75 P) (b_57 P) .nil)
noncomputable def b_59 (P : Params) : BT := (.node (F.o_40 P) (b_58 P) (.node (F.o_107 P) .nil .nil))
noncomputable def b_60 (P : Params) : BT := (.node (F.o_8 P) (.node (F.o_24 P) (b_56 P) (.node (F.o_91 P) .nil .nil)) (b_59 P))
noncomputable def b_61 (P : Params) : BT := (.node (F.o_131 P) .nil .nil)
noncomputable def b_62 (P : Params) : BT := (.node (F.o_67 P) (b_61 P) .nil)
noncomputable def b_63 (P : Params) : BT := (.node (F.o_32 P) (b_62 P) (.node (F.o_99 P) .nil .nil))
noncomputable def b_64 (P : Params) : BT := (.node (F.o_115 P) .nil .nil)
noncomputable def b_65 (P : Params) : BT := (.node (F.o_127 P) .nil .nil)
noncomputable def b_66 (P : Params) : BT := (.node (F.o_63 P) (b_65 P) .nil)
noncomputable def b_67 (P : Params) : BT := (.node (F.o_28 P) (b_66 P) (.node (F.o_95 P) .nil .nil))
noncomputable def b_68 (P : Params) : BT := (.node (F.o_111 P) .nil .nil)
noncomputable def b_69 (P : Params) : BT := (.node (F.o_135 P) .nil .nil)
noncomputable def b_70 (P : Params) : BT := (.node (F.o_71 P) (b_69 P) .nil)
noncomputable def b_71 (P : Params) : BT := (.node (F.o_36 P) (b_70 P) (.node (F.o_103 P) .nil .nil))
noncomputable def b_72 (P : Params) : BT := (.node (F.o_119 P) .nil .nil)
noncomputable def b_73 (P : Params) : BT := (.node (F.o_20 P) (b_71 P) (.node (F.o_55 P) (.node (F.o_87 P) .nil .nil) (b_72 P)))
noncomputable def b_74 (P : Params) : BT := (.node (F.o_125 P) .nil .nil)
noncomputable def b_75 (P : Params) : BT := (.node (F.o_61 P) (b_74 P) .nil)
noncomputable def b_76 (P : Params) : BT := (.node (F.o_141 P) .nil .nil)
noncomputable def b_77 (P : Params) : BT := (.node (F.o_77 P) (b_76 P) .nil)
noncomputable def b_78 (P : Params) : BT := (.node (F.o_42 P) (b_77 P) (.node (F.o_109 P) .nil .nil))
noncomputable def b_79 (P : Params) : BT := (.node (F.o_10 P) (.node (F.o_26 P) (b_75 P) (.node (F.o_93 P) .nil .nil)) (b_78 P))
noncomputable def b_80 (P : Params) : BT := (.node (F.o_133 P) .nil .nil)
noncomputable def b_81 (P : Params) : BT := (.node (F.o_69 P) (b_80 P) .nil)
noncomputable def b_82 (P : Params) : BT := (.node (F.o_34 P) (b_81 P) (.node (F.o_101 P) .nil .nil))
noncomputable def b_83 (P : Params) : BT := (.node (F.o_117 P) .nil .nil)
noncomputable def b_84 (P : Params) : BT := (.node (F.o_129 P) .nil .nil)
noncomputable def b_85 (P : Params) : BT := (.node (F.o_65 P) (b_84 P) .nil)
noncomputable def b_86 (P : Params) : BT := (.node (F.o_30 P) (b_85 P) (.node (F.o_97 P) .nil .nil))
noncomputable def b_87 (P : Params) : BT := (.node (q_9 P) .nil .nil)
noncomputable def b_88 (P : Params) : BT := (.node (F.o_81 P) (b_87 P) .nil)
noncomputable def b_89 (P : Params) : BT := (.node (F.o_113 P) .nil .nil)
noncomputable def b_90 (P : Params) : BT := (.node (F.o_46 P) (b_88 P) (b_89 P))
noncomputable def b_91 (P : Params) : BT := (.node (F.o_14 P) (b_86 P) (b_90 P))
noncomputable def b_92 (P : Params) : BT := (.node (F.o_137 P) .nil .nil)
noncomputable def b_93 (P : Params) : BT := (.node (F.o_73 P) (b_92 P) .nil)
noncomputable def b_94 (P : Params) : BT := (.node (F.o_38 P) (b_93 P) (.node (F.o_105 P) .nil .nil))
noncomputable def b_95 (P : Params) : BT := (.node (F.o_121 P) .nil .nil)
noncomputable def b_96 (P : Params) : BT := (.node (F.o_22 P) (b_94 P) (.node (F.o_57 P) (.node (F.o_89 P) .nil .nil) (b_95 P)))
noncomputable def TG0 (P : Params) (x0 : FsD) (h148 : Obj) (h152 : Obj) : BT := (.node (boot_o_0 P) (.node (boot_o_1 P) (.node (q_4 P) (.node (boot_o_7 P) (b_5 P) (b_13 P)) (.node (F.o_1 P) (b_21 P) (b_26 P))) (.node (boot_o_5 P) (b_41 P) (.node (F.o_3 P) (b_49 P) (b_54 P)))) (.node (boot_o_2 P) (.node (boot_o_4 P) (.node (boot_o_8 P) (b_60 P) (.node (F.o_16 P) (b_63 P) (.node (F.o_48 P) (.node (F.o_83 P) (.node h152 .nil .nil) .nil) (b_64 P)))) (.node (q_5 P) (.node (F.o_12 P) (b_67 P) (.node (F.o_44 P) (.node (F.o_79 P) (.node h148 .nil .nil) .nil) (b_68 P))) (b_73 P))) (.node (boot_o_6 P) (.node (boot_o_10 P) (b_79 P) (.node (F.o_18 P) (b_82 P) (.node (F.o_50 P) (.node (F.o_85 P) (.node (fsO x0) .nil .nil) .nil) (b_83 P)))) (.node (F.o_4 P) (b_91 P) (b_96 P)))))
theorem TG0_get (P : Params) (h148 : Obj) (h152 : Obj) (y : FsD) : (TG0 P y h148 h152).get 154 = some (fsO y) := by kernel_rfl
theorem TG0_set (P : Params) (h148 : Obj) (h152 : Obj) (y y' : FsD) : (TG0 P y h148 h152).set 154 (fun _ => fsO y') = TG0 P y' h148 h152 := by kernel_rfl
noncomputable def b_97 (P : Params) : BT := (.node (F.o_86 P) (b_45 P) .nil)
noncomputable def b_98 (P : Params) : BT := (.node (F.o_54 P) (b_97 P) (b_25 P))
noncomputable def b_99 (P : Params) : BT := (.node (F.o_19 P) (b_24 P) (b_98 P))
noncomputable def b_100 (P : Params) : BT := (.node (F.o_1 P) (b_21 P) (b_99 P))
noncomputable def b_101 (P : Params) : BT := (.node (F.o_88 P) (b_45 P) .nil)
noncomputable def b_102 (P : Params) : BT := (.node (F.o_56 P) (b_101 P) (b_53 P))
noncomputable def b_103 (P : Params) : BT := (.node (F.o_21 P) (b_52 P) (b_102 P))
noncomputable def b_104 (P : Params) : BT := (.node (F.o_3 P) (b_49 P) (b_103 P))
noncomputable def b_105 (P : Params) : BT := (.node (q_76 P) .nil .nil)
noncomputable def b_106 (P : Params) : BT := (.node (F.o_83 P) (b_105 P) .nil)
noncomputable def b_107 (P : Params) : BT := (.node (F.o_48 P) (b_106 P) (b_64 P))
noncomputable def b_108 (P : Params) : BT := (.node (F.o_16 P) (b_63 P) (b_107 P))
noncomputable def b_109 (P : Params) : BT := (.node (q_75 P) .nil .nil)
noncomputable def b_110 (P : Params) : BT := (.node (F.o_79 P) (b_109 P) .nil)
noncomputable def b_111 (P : Params) : BT := (.node (F.o_44 P) (b_110 P) (b_68 P))
noncomputable def b_112 (P : Params) : BT := (.node (q_77 P) .nil .nil)
noncomputable def b_113 (P : Params) : BT := (.node (F.o_87 P) (b_112 P) .nil)
noncomputable def b_114 (P : Params) : BT := (.node (F.o_55 P) (b_113 P) (b_72 P))
noncomputable def b_115 (P : Params) : BT := (.node (F.o_20 P) (b_71 P) (b_114 P))
noncomputable def b_116 (P : Params) : BT := (.node (q_5 P) (.node (F.o_12 P) (b_67 P) (b_111 P)) (b_115 P))
noncomputable def b_117 (P : Params) : BT := (.node (q_78 P) .nil .nil)
noncomputable def b_118 (P : Params) : BT := (.node (F.o_89 P) (b_117 P) .nil)
noncomputable def b_119 (P : Params) : BT := (.node (F.o_57 P) (b_118 P) (b_95 P))
noncomputable def b_120 (P : Params) : BT := (.node (F.o_22 P) (b_94 P) (b_119 P))
noncomputable def b_121 (P : Params) : BT := (.node (F.o_4 P) (b_91 P) (b_120 P))
noncomputable def TG1 (P : Params) (x0 x1 : FsD) (h160 : Obj) : BT := (.node (boot_o_0 P) (.node (boot_o_1 P) (.node (q_4 P) (.node (boot_o_7 P) (.node (F.o_7 P) (.node (F.o_23 P) (b_1 P) (.node (F.o_90 P) (.node (fsO x1) .nil .nil) .nil)) (b_4 P)) (b_13 P)) (b_100 P)) (.node (boot_o_5 P) (b_41 P) (b_104 P))) (.node (boot_o_2 P) (.node (boot_o_4 P) (.node (boot_o_8 P) (.node (F.o_8 P) (.node (F.o_24 P) (b_56 P) (.node (F.o_91 P) (.node h160 .nil .nil) .nil)) (b_59 P)) (b_108 P)) (b_116 P)) (.node (boot_o_6 P) (.node (boot_o_10 P) (b_79 P) (.node (F.o_18 P) (b_82 P) (.node (F.o_50 P) (.node (F.o_85 P) (.node (fsO x0) .nil .nil) .nil) (b_83 P)))) (b_121 P))))
theorem TG1_get (P : Params) (x0 : FsD) (h160 : Obj) (y : FsD) : (TG1 P x0 y h160).get 159 = some (fsO y) := by kernel_rfl
theorem TG1_set (P : Params) (x0 : FsD) (h160 : Obj) (y y' : FsD) : (TG1 P x0 y h160).set 159 (fun _ => fsO y') = TG1 P x0 y' h160 := by kernel_rfl
noncomputable def b_122 (P : Params) : BT := (.node (F.o_92 P) (b_45 P) .nil)
noncomputable def b_123 (P : Params) : BT := (.node (F.o_25 P) (b_28 P) (b_122 P))
noncomputable def b_124 (P : Params) : BT := (.node (F.o_9 P) (b_123 P) (b_31 P))
noncomputable def b_125 (P : Params) : BT := (.node (boot_o_9 P) (b_124 P) (b_40 P))
noncomputable def b_126 (P : Params) : BT := (.node (q_81 P) .nil .nil)
noncomputable def b_127 (P : Params) : BT := (.node (F.o_91 P) (b_126 P) .nil)
noncomputable def b_128 (P : Params) : BT := (.node (F.o_24 P) (b_56 P) (b_127 P))
noncomputable def b_129 (P : Params) : BT := (.node (F.o_8 P) (b_128 P) (b_59 P))
noncomputable def b_130 (P : Params) : BT := (.node (boot_o_8 P) (b_129 P) (b_108 P))
noncomputable def b_131 (P : Params) : BT := (.node (q_82 P) .nil .nil)
noncomputable def b_132 (P : Params) : BT := (.node (F.o_93 P) (b_131 P) .nil)
noncomputable def b_133 (P : Params) : BT := (.node (F.o_26 P) (b_75 P) (b_132 P))
noncomputable def b_134 (P : Params) : BT := (.node (F.o_10 P) (b_133 P) (b_78 P))
noncomputable def TG2 (P : Params) (x0 x1 x2 x3 : FsD) (h165 : Obj) : BT := (.node (boot_o_0 P) (.node (boot_o_1 P) (.node (q_83 P) (.node (boot_o_7 P) (.node (F.o_7 P) (.node (F.o_23 P) (b_1 P) (.node (F.o_90 P) (.node (fsO x1) .nil .nil) .nil)) (b_4 P)) (b_13 P)) (.node (F.o_1 P) (.node (F.o_11 P) (.node (F.o_27 P) (b_15 P) (.node (F.o_94 P) (.node (fsO x2) .nil .nil) .nil)) (b_20 P)) (b_99 P))) (.node (boot_o_5 P) (b_125 P) (.node (F.o_3 P) (.node (F.o_13 P) (.node (F.o_29 P) (b_43 P) (.node (F.o_96 P) (.node h165 .nil .nil) .nil)) (b_48 P)) (b_103 P)))) (.node (boot_o_2 P) (.node (boot_o_4 P) (b_130 P) (.node (q_5 P) (.node (F.o_12 P) (.node (F.o_28 P) (b_66 P) (.node (F.o_95 P) (.node (fsO x3) .nil .nil) .nil)) (b_111 P)) (b_115 P))) (.node (boot_o_6 P) (.node (boot_o_10 P) (b_134 P) (.node (F.o_18 P) (b_82 P) (.node (F.o_50 P) (.node (F.o_85 P) (.node (fsO x0) .nil .nil) .nil) (b_83 P)))) (b_121 P))))
theorem TG2_get (P : Params) (x0 x1 x2 : FsD) (h165 : Obj) (y : FsD) : (TG2 P x0 x1 x2 y h165).get 164 = some (fsO y) := by kernel_rfl
theorem TG2_set (P : Params) (x0 x1 x2 : FsD) (h165 : Obj) (y y' : FsD) : (TG2 P x0 x1 x2 y h165).set 164 (fun _ => fsO y') = TG2 P x0 x1 x2 y' h165 := by kernel_rfl
noncomputable def b_135 (P : Params) : BT := (.node (q_86 P) .nil .nil)
noncomputable def b_136 (P : Params) : BT := (.node (F.o_98 P) (b_135 P) .nil)
noncomputable def b_137 (P : Params) : BT := (.node (F.o_31 P) (b_7 P) (b_136 P))
noncomputable def b_138 (P : Params) : BT := (.node (F.o_15 P) (b_137 P) (b_12 P))
noncomputable def b_139 (P : Params) : BT := (.node (F.o_96 P) (b_126 P) .nil)
noncomputable def b_140 (P : Params) : BT := (.node (F.o_29 P) (b_43 P) (b_139 P))
noncomputable def b_141 (P : Params) : BT := (.node (F.o_13 P) (b_140 P) (b_48 P))
noncomputable def b_142 (P : Params) : BT := (.node (F.o_3 P) (b_141 P) (b_103 P))
noncomputable def b_143 (P : Params) : BT := (.node (F.o_97 P) (b_45 P) .nil)
noncomputable def b_144 (P : Params) : BT := (.node (F.o_30 P) (b_85 P) (b_143 P))
noncomputable def b_145 (P : Params) : BT := (.node (F.o_14 P) (b_144 P) (b_90 P))
noncomputable def b_146 (P : Params) : BT := (.node (F.o_4 P) (b_145 P) (b_120 P))
noncomputable def TG3 (P : Params) (x0 x1 x2 x3 x4 x5 : FsD) (h170 : Obj) : BT := (.node (boot_o_0 P) (.node (boot_o_1 P) (.node (q_87 P) (.node (boot_o_7 P) (.node (F.o_7 P) (.node (F.o_23 P) (b_1 P) (.node (F.o_90 P) (.node (fsO x1) .nil .nil) .nil)) (b_4 P)) (b_138 P)) (.node (F.o_1 P) (.node (F.o_11 P) (.node (F.o_27 P) (b_15 P) (.node (F.o_94 P) (.node (fsO x2) .nil .nil) .nil)) (b_20 P)) (b_99 P))) (.node (boot_o_5 P) (.node (boot_o_9 P) (b_124 P) (.node (F.o_17 P) (.node (F.o_33 P) (b_34 P) (.node (F.o_100 P) (.node (fsO x5) .nil .nil) .nil)) (b_39 P))) (b_142 P))) (.node (boot_o_2 P) (.node (boot_o_4 P) (.node (boot_o_8 P) (b_129 P) (.node (F.o_16 P) (.node (F.o_32 P) (b_62 P) (.node (F.o_99 P) (.node (fsO x4) .nil .nil) .nil)) (b_107 P))) (.node (q_5 P) (.node (F.o_12 P) (.node (F.o_28 P) (b_66 P) (.node (F.o_95 P) (.node (fsO x3) .nil .nil) .nil)) (b_111 P)) (b_115 P))) (.node (boot_o_6 P) (.node (boot_o_10 P) (b_134 P) (.node (F.o_18 P) (.node (F.o_34 P) (b_81 P) (.node (F.o_101 P) (.node h170 .nil .nil) .nil)) (.node (F.o_50 P) (.node (F.o_85 P) (.node (fsO x0) .nil .nil) .nil) (b_83 P)))) (b_146 P))))
theorem TG3_get (P : Params) (x0 x1 x2 x3 x4 : FsD) (h170 : Obj) (y : FsD) : (TG3 P x0 x1 x2 x3 x4 y h170).get 169 = some (fsO y) := by kernel_rfl
theorem TG3_set (P : Params) (x0 x1 x2 x3 x4 : FsD) (h170 : Obj) (y y' : FsD) : (TG3 P x0 x1 x2 x3 x4 y h170).set 169 (fun _ => fsO y') = TG3 P x0 x1 x2 x3 x4 y' h170 := by kernel_rfl
noncomputable def b_147 (P : Params) : BT := (.node (F.o_102 P) (b_45 P) .nil)
noncomputable def b_148 (P : Params) : BT := (.node (F.o_35 P) (b_23 P) (b_147 P))
noncomputable def b_149 (P : Params) : BT := (.node (F.o_19 P) (b_148 P) (b_98 P))
noncomputable def b_150 (P : Params) : BT := (.node (q_92 P) .nil .nil)
noncomputable def b_151 (P : Params) : BT := (.node (F.o_103 P) (b_150 P) .nil)
noncomputable def b_152 (P : Params) : BT := (.node (F.o_36 P) (b_70 P) (b_151 P))
noncomputable def b_153 (P : Params) : BT := (.node (F.o_20 P) (b_152 P) (b_114 P))
noncomputable def b_154 (P : Params) : BT := (.node (q_91 P) .nil .nil)
noncomputable def b_155 (P : Params) : BT := (.node (F.o_101 P) (b_154 P) .nil)
noncomputable def b_156 (P : Params) : BT := (.node (F.o_34 P) (b_81 P) (b_155 P))
noncomputable def TG4 (P : Params) (x0 x1 x2 x3 x4 x5 x6 x7 : FsD) (h175 : Obj) : BT := (.node (boot_o_0 P) (.node (boot_o_1 P) (.node (q_94 P) (.node (boot_o_7 P) (.node (F.o_7 P) (.node (F.o_23 P) (b_1 P) (.node (F.o_90 P) (.node (fsO x1) .nil .nil) .nil)) (.node (F.o_39 P) (b_3 P) (.node (F.o_106 P) (.node h175 .nil .nil) .nil))) (b_138 P)) (.node (F.o_1 P) (.node (F.o_11 P) (.node (F.o_27 P) (b_15 P) (.node (F.o_94 P) (.node (fsO x2) .nil .nil) .nil)) (b_20 P)) (b_149 P))) (.node (boot_o_5 P) (.node (boot_o_9 P) (b_124 P) (.node (F.o_17 P) (.node (F.o_33 P) (b_34 P) (.node (F.o_100 P) (.node (fsO x5) .nil .nil) .nil)) (b_39 P))) (.node (F.o_3 P) (b_141 P) (.node (F.o_21 P) (.node (F.o_37 P) (b_51 P) (.node (F.o_104 P) (.node (fsO x6) .nil .nil) .nil)) (b_102 P))))) (.node (boot_o_2 P) (.node (boot_o_4 P) (.node (boot_o_8 P) (b_129 P) (.node (F.o_16 P) (.node (F.o_32 P) (b_62 P) (.node (F.o_99 P) (.node (fsO x4) .nil .nil) .nil)) (b_107 P))) (.node (q_5 P) (.node (F.o_12 P) (.node (F.o_28 P) (b_66 P) (.node (F.o_95 P) (.node (fsO x3) .nil .nil) .nil)) (b_111 P)) (b_153 P))) (.node (boot_o_6 P) (.node (boot_o_10 P) (b_134 P) (.node (F.o_18 P) (b_156 P) (.node (F.o_50 P) (.node (F.o_85 P) (.node (fsO x0) .nil .nil) .nil) (b_83 P)))) (.node (F.o_4 P) (b_145 P) (.node (F.o_22 P) (.node (F.o_38 P) (b_93 P) (.node (F.o_105 P) (.node (fsO x7) .nil .nil) .nil)) (b_119 P))))))
theorem TG4_get (P : Params) (x0 x1 x2 x3 x4 x5 x6 : FsD) (h175 : Obj) (y : FsD) : (TG4 P x0 x1 x2 x3 x4 x5 x6 y h175).get 174 = some (fsO y) := by kernel_rfl
theorem TG4_set (P : Params) (x0 x1 x2 x3 x4 x5 x6 : FsD) (h175 : Obj) (y y' : FsD) : (TG4 P x0 x1 x2 x3 x4 x5 x6 y h175).set 174 (fun _ => fsO y') = TG4 P x0 x1 x2 x3 x4 x5 x6 y' h175 := by kernel_rfl
noncomputable def b_157 (P : Params) : BT := (.node (F.o_106 P) (b_154 P) .nil)
noncomputable def b_158 (P : Params) : BT := (.node (F.o_39 P) (b_3 P) (b_157 P))
noncomputable def b_159 (P : Params) : BT := (.node (q_99 P) .nil .nil)
noncomputable def b_160 (P : Params) : BT := (.node (F.o_108 P) (b_159 P) .nil)
noncomputable def b_161 (P : Params) : BT := (.node (F.o_41 P) (b_30 P) (b_160 P))
noncomputable def b_162 (P : Params) : BT := (.node (F.o_9 P) (b_123 P) (b_161 P))
noncomputable def b_163 (P : Params) : BT := (.node (F.o_107 P) (b_45 P) .nil)
noncomputable def b_164 (P : Params) : BT := (.node (F.o_40 P) (b_58 P) (b_163 P))
noncomputable def b_165 (P : Params) : BT := (.node (F.o_8 P) (b_128 P) (b_164 P))
noncomputable def TG5 (P : Params) (x0 x1 x2 x3 x4 x5 x6 x7 x8 : FsD) (h179 : Obj) : BT := (.node (boot_o_0 P) (.node (boot_o_1 P) (.node (q_98 P) (.node (boot_o_7 P) (.node (F.o_7 P) (.node (F.o_23 P) (b_1 P) (.node (F.o_90 P) (.node (fsO x1) .nil .nil) .nil)) (b_158 P)) (b_138 P)) (.node (F.o_1 P) (.node (F.o_11 P) (.node (F.o_27 P) (b_15 P) (.node (F.o_94 P) (.node (fsO x2) .nil .nil) .nil)) (.node (F.o_43 P) (b_18 P) (.node (F.o_110 P) (.node h179 .nil .nil) .nil))) (b_149 P))) (.node (boot_o_5 P) (.node (boot_o_9 P) (b_162 P) (.node (F.o_17 P) (.node (F.o_33 P) (b_34 P) (.node (F.o_100 P) (.node (fsO x5) .nil .nil) .nil)) (b_39 P))) (.node (F.o_3 P) (b_141 P) (.node (F.o_21 P) (.node (F.o_37 P) (b_51 P) (.node (F.o_104 P) (.node (fsO x6) .nil .nil) .nil)) (b_102 P))))) (.node (boot_o_2 P) (.node (boot_o_4 P) (.node (boot_o_8 P) (b_165 P) (.node (F.o_16 P) (.node (F.o_32 P) (b_62 P) (.node (F.o_99 P) (.node (fsO x4) .nil .nil) .nil)) (b_107 P))) (.node (q_5 P) (.node (F.o_12 P) (.node (F.o_28 P) (b_66 P) (.node (F.o_95 P) (.node (fsO x3) .nil .nil) .nil)) (b_111 P)) (b_153 P))) (.node (boot_o_6 P) (.node (boot_o_10 P) (.node (F.o_10 P) (b_133 P) (.node (F.o_42 P) (b_77 P) (.node (F.o_109 P) (.node (fsO x8) .nil .nil) .nil))) (.node (F.o_18 P) (b_156 P) (.node (F.o_50 P) (.node (F.o_85 P) (.node (fsO x0) .nil .nil) .nil) (b_83 P)))) (.node (F.o_4 P) (b_145 P) (.node (F.o_22 P) (.node (F.o_38 P) (b_93 P) (.node (F.o_105 P) (.node (fsO x7) .nil .nil) .nil)) (b_119 P))))))
theorem TG5_get (P : Params) (x0 x1 x2 x3 x4 x5 x6 x7 : FsD) (h179 : Obj) (y : FsD) : (TG5 P x0 x1 x2 x3 x4 x5 x6 x7 y h179).get 178 = some (fsO y) := by kernel_rfl
theorem TG5_set (P : Params) (x0 x1 x2 x3 x4 x5 x6 x7 : FsD) (h179 : Obj) (y y' : FsD) : (TG5 P x0 x1 x2 x3 x4 x5 x6 x7 y h179).set 178 (fun _ => fsO y') = TG5 P x0 x1 x2 x3 x4 x5 x6 x7 y' h179 := by kernel_rfl
noncomputable def b_166 (P : Params) : BT := (.node (F.o_110 P) (b_126 P) .nil)
noncomputable def b_167 (P : Params) : BT := (.node (F.o_43 P) (b_18 P) (b_166 P))
noncomputable def b_168 (P : Params) : BT := (.node (q_102 P) .nil .nil)
noncomputable def b_169 (P : Params) : BT := (.node (F.o_112 P) (b_168 P) .nil)
noncomputable def b_170 (P : Params) : BT := (.node (F.o_45 P) (b_46 P) (b_169 P))
noncomputable def b_171 (P : Params) : BT := (.node (F.o_13 P) (b_140 P) (b_170 P))
noncomputable def b_172 (P : Params) : BT := (.node (F.o_111 P) (b_45 P) .nil)
noncomputable def b_173 (P : Params) : BT := (.node (F.o_44 P) (b_110 P) (b_172 P))
noncomputable def TG6 (P : Params) (x0 x1 x2 x3 x4 x5 x6 x7 x8 x9 x10 : FsD) (h184 : Obj) : BT := (.node (boot_o_0 P) (.node (boot_o_1 P) (.node (q_104 P) (.node (boot_o_7 P) (.node (F.o_7 P) (.node (F.o_23 P) (b_1 P) (.node (F.o_90 P) (.node (fsO x1) .nil .nil) .nil)) (b_158 P)) (.node (F.o_15 P) (b_137 P) (.node (F.o_47 P) (b_10 P) (.node (F.o_114 P) (.node (fsO x10) .nil .nil) .nil)))) (.node (F.o_1 P) (.node (F.o_11 P) (.node (F.o_27 P) (b_15 P) (.node (F.o_94 P) (.node (fsO x2) .nil .nil) .nil)) (b_167 P)) (b_149 P))) (.node (boot_o_5 P) (.node (boot_o_9 P) (b_162 P) (.node (F.o_17 P) (.node (F.o_33 P) (b_34 P) (.node (F.o_100 P) (.node (fsO x5) .nil .nil) .nil)) (b_39 P))) (.node (F.o_3 P) (b_171 P) (.node (F.o_21 P) (.node (F.o_37 P) (b_51 P) (.node (F.o_104 P) (.node (fsO x6) .nil .nil) .nil)) (b_102 P))))) (.node (boot_o_2 P) (.node (boot_o_4 P) (.node (boot_o_8 P) (b_165 P) (.node (F.o_16 P) (.node (F.o_32 P) (b_62 P) (.node (F.o_99 P) (.node (fsO x4) .nil .nil) .nil)) (.node (F.o_48 P) (b_106 P) (.node (F.o_115 P) (.node h184 .nil .nil) .nil)))) (.node (q_5 P) (.node (F.o_12 P) (.node (F.o_28 P) (b_66 P) (.node (F.o_95 P) (.node (fsO x3) .nil .nil) .nil)) (b_173 P)) (b_153 P))) (.node (boot_o_6 P) (.node (boot_o_10 P) (.node (F.o_10 P) (b_133 P) (.node (F.o_42 P) (b_77 P) (.node (F.o_109 P) (.node (fsO x8) .nil .nil) .nil))) (.node (F.o_18 P) (b_156 P) (.node (F.o_50 P) (.node (F.o_85 P) (.node (fsO x0) .nil .nil) .nil) (b_83 P)))) (.node (F.o_4 P) (.node (F.o_14 P) (b_144 P) (.node (F.o_46 P) (b_88 P) (.node (F.o_113 P) (.node (fsO x9) .nil .nil) .nil))) (.node (F.o_22 P) (.node (F.o_38 P) (b_93 P) (.node (F.o_105 P) (.node (fsO x7) .nil .nil) .nil)) (b_119 P))))))
theorem TG6_get (P : Params) (x0 x1 x2 x3 x4 x5 x6 x7 x8 x9 : FsD) (h184 : Obj) (y : FsD) : (TG6 P x0 x1 x2 x3 x4 x5 x6 x7 x8 x9 y h184).get 183 = some (fsO y) := by kernel_rfl
theorem TG6_set (P : Params) (x0 x1 x2 x3 x4 x5 x6 x7 x8 x9 : FsD) (h184 : Obj) (y y' : FsD) : (TG6 P x0 x1 x2 x3 x4 x5 x6 x7 x8 x9 y h184).set 183 (fun _ => fsO y') = TG6 P x0 x1 x2 x3 x4 x5 x6 x7 x8 x9 y' h184 := by kernel_rfl
noncomputable def T0 (P : Params) : BT := (.node (boot_o_0 P) (.node (boot_o_1 P) (.node (boot_o_3 P) (.node (boot_o_7 P) .nil .nil) (.node (F.o_1 P) .nil .nil)) (.node (boot_o_5 P) (.node (boot_o_9 P) .nil .nil) (.node (F.o_3 P) .nil .nil))) (.node (boot_o_2 P) (.node (boot_o_4 P) (.node (boot_o_8 P) .nil .nil) (.node (F.o_2 P) .nil .nil)) (.node (boot_o_6 P) (.node (boot_o_10 P) .nil .nil) (.node (F.o_4 P) .nil .nil))))
noncomputable def T1 (P : Params) : BT := (.node (boot_o_0 P) (.node (boot_o_1 P) (.node (q_0 P) (.node (boot_o_7 P) (.node (F.o_7 P) (.node (F.o_23 P) .nil .nil) (.node (F.o_39 P) .nil .nil)) (.node (F.o_15 P) (.node (F.o_31 P) .nil .nil) (.node (F.o_47 P) .nil .nil))) (.node (F.o_1 P) (.node (F.o_11 P) (.node (F.o_27 P) .nil .nil) (.node (F.o_43 P) .nil .nil)) (.node (F.o_19 P) (.node (F.o_35 P) .nil .nil) .nil))) (.node (boot_o_5 P) (.node (boot_o_9 P) (.node (F.o_9 P) (.node (F.o_25 P) .nil .nil) (.node (F.o_41 P) .nil .nil)) (.node (F.o_17 P) (.node (F.o_33 P) .nil .nil) (.node (F.o_49 P) .nil .nil))) (.node (F.o_3 P) (.node (F.o_13 P) (.node (F.o_29 P) .nil .nil) (.node (F.o_45 P) .nil .nil)) (.node (F.o_21 P) (.node (F.o_37 P) .nil .nil) .nil)))) (.node (boot_o_2 P) (.node (boot_o_4 P) (.node (boot_o_8 P) (.node (F.o_8 P) (.node (F.o_24 P) .nil .nil) (.node (F.o_40 P) .nil .nil)) (.node (F.o_16 P) (.node (F.o_32 P) .nil .nil) (.node (F.o_48 P) .nil .nil))) (.node (q_1 P) (.node (F.o_12 P) (.node (F.o_28 P) .nil .nil) (.node (F.o_44 P) .nil .nil)) (.node (F.o_20 P) (.node (F.o_36 P) .nil .nil) .nil))) (.node (boot_o_6 P) (.node (boot_o_10 P) (.node (F.o_10 P) (.node (F.o_26 P) .nil .nil) (.node (F.o_42 P) .nil .nil)) (.node (F.o_18 P) (.node (F.o_34 P) .nil .nil) (.node (F.o_50 P) .nil .nil))) (.node (F.o_4 P) (.node (F.o_14 P) (.node (F.o_30 P) .nil .nil) (.node (F.o_46 P) .nil .nil)) (.node (F.o_22 P) (.node (F.o_38 P) .nil .nil) .nil)))))
noncomputable def b_174 (P : Params) : BT := (.node (boot_o_7 P) (b_5 P) (.node (F.o_15 P) (b_8 P) (.node (F.o_47 P) (.node (F.o_82 P) .nil .nil) (b_11 P))))
noncomputable def b_175 (P : Params) : BT := (.node (F.o_1 P) (.node (F.o_11 P) (b_16 P) (.node (F.o_43 P) (.node (F.o_78 P) .nil .nil) (b_19 P))) (b_26 P))
noncomputable def b_176 (P : Params) : BT := (.node (boot_o_5 P) (.node (boot_o_9 P) (b_32 P) (.node (F.o_17 P) (b_35 P) (.node (F.o_49 P) (.node (F.o_84 P) .nil .nil) (b_38 P)))) (.node (F.o_3 P) (.node (F.o_13 P) (b_44 P) (.node (F.o_45 P) (.node (F.o_80 P) .nil .nil) (b_47 P))) (b_54 P)))
noncomputable def b_177 (P : Params) : BT := (.node (boot_o_2 P) (.node (boot_o_4 P) (.node (boot_o_8 P) (b_60 P) (.node (F.o_16 P) (b_63 P) (.node (F.o_48 P) (.node (F.o_83 P) .nil .nil) (b_64 P)))) (.node (q_3 P) (.node (F.o_12 P) (b_67 P) (.node (F.o_44 P) (.node (F.o_79 P) .nil .nil) (b_68 P))) (b_73 P))) (.node (boot_o_6 P) (.node (boot_o_10 P) (b_79 P) (.node (F.o_18 P) (b_82 P) (.node (F.o_50 P) (.node (F.o_85 P) .nil .nil) (b_83 P)))) (.node (F.o_4 P) (.node (F.o_14 P) (b_86 P) (.node (F.o_46 P) (.node (F.o_81 P) .nil .nil) (b_89 P))) (b_96 P))))
noncomputable def T2 (P : Params) : BT := (.node (boot_o_0 P) (.node (boot_o_1 P) (.node (q_2 P) (b_174 P) (b_175 P)) (b_176 P)) (b_177 P))
noncomputable def T3 (P : Params) : BT := (.node (boot_o_0 P) (.node (boot_o_1 P) (.node (q_4 P) (b_174 P) (b_175 P)) (b_176 P)) (b_177 P))
noncomputable def b_178 (P : Params) : BT := (.node (boot_o_5 P) (b_125 P) (b_104 P))
noncomputable def b_179 (P : Params) : BT := (.node (boot_o_4 P) (b_130 P) (b_116 P))
noncomputable def T72 (P : Params) (x0 x1 : FsD) : BT := (.node (boot_o_0 P) (.node (boot_o_1 P) (.node (q_4 P) (.node (boot_o_7 P) (.node (F.o_7 P) (.node (F.o_23 P) (b_1 P) (.node (F.o_90 P) (.node (fsO x1) .nil .nil) .nil)) (b_4 P)) (b_13 P)) (b_100 P)) (b_178 P)) (.node (boot_o_2 P) (b_179 P) (.node (boot_o_6 P) (.node (boot_o_10 P) (b_134 P) (.node (F.o_18 P) (b_82 P) (.node (F.o_50 P) (.node (F.o_85 P) (.node (fsO x0) .nil .nil) .nil) (b_83 P)))) (b_121 P))))
noncomputable def T73 (P : Params) (x0 x1 x2 : FsD) : BT := (.node (boot_o_0 P) (.node (boot_o_1 P) (.node (q_4 P) (.node (boot_o_7 P) (.node (F.o_7 P) (.node (F.o_23 P) (b_1 P) (.node (F.o_90 P) (.node (fsO x1) .nil .nil) .nil)) (b_4 P)) (b_13 P)) (.node (F.o_1 P) (.node (F.o_11 P) (.node (F.o_27 P) (b_15 P) (.node (F.o_94 P) (.node (fsO x2) .nil .nil) .nil)) (b_20 P)) (b_99 P))) (b_178 P)) (.node (boot_o_2 P) (b_179 P) (.node (boot_o_6 P) (.node (boot_o_10 P) (b_134 P) (.node (F.o_18 P) (b_82 P) (.node (F.o_50 P) (.node (F.o_85 P) (.node (fsO x0) .nil .nil) .nil) (b_83 P)))) (b_121 P))))
noncomputable def T74 (P : Params) (x0 x1 x2 : FsD) : BT := (.node (boot_o_0 P) (.node (boot_o_1 P) (.node (q_83 P) (.node (boot_o_7 P) (.node (F.o_7 P) (.node (F.o_23 P) (b_1 P) (.node (F.o_90 P) (.node (fsO x1) .nil .nil) .nil)) (b_4 P)) (b_13 P)) (.node (F.o_1 P) (.node (F.o_11 P) (.node (F.o_27 P) (b_15 P) (.node (F.o_94 P) (.node (fsO x2) .nil .nil) .nil)) (b_20 P)) (b_99 P))) (b_178 P)) (.node (boot_o_2 P) (b_179 P) (.node (boot_o_6 P) (.node (boot_o_10 P) (b_134 P) (.node (F.o_18 P) (b_82 P) (.node (F.o_50 P) (.node (F.o_85 P) (.node (fsO x0) .nil .nil) .nil) (b_83 P)))) (b_121 P))))
noncomputable def b_180 (P : Params) : BT := (.node (boot_o_5 P) (b_125 P) (b_142 P))
noncomputable def T78 (P : Params) (x0 x1 x2 x3 : FsD) : BT := (.node (boot_o_0 P) (.node (boot_o_1 P) (.node (q_83 P) (.node (boot_o_7 P) (.node (F.o_7 P) (.node (F.o_23 P) (b_1 P) (.node (F.o_90 P) (.node (fsO x1) .nil .nil) .nil)) (b_4 P)) (b_138 P)) (.node (F.o_1 P) (.node (F.o_11 P) (.node (F.o_27 P) (b_15 P) (.node (F.o_94 P) (.node (fsO x2) .nil .nil) .nil)) (b_20 P)) (b_99 P))) (b_180 P)) (.node (boot_o_2 P) (.node (boot_o_4 P) (b_130 P) (.node (q_5 P) (.node (F.o_12 P) (.node (F.o_28 P) (b_66 P) (.node (F.o_95 P) (.node (fsO x3) .nil .nil) .nil)) (b_111 P)) (b_115 P))) (.node (boot_o_6 P) (.node (boot_o_10 P) (b_134 P) (.node (F.o_18 P) (b_82 P) (.node (F.o_50 P) (.node (F.o_85 P) (.node (fsO x0) .nil .nil) .nil) (b_83 P)))) (b_146 P))))
noncomputable def T79 (P : Params) (x0 x1 x2 x3 x4 : FsD) : BT := (.node (boot_o_0 P) (.node (boot_o_1 P) (.node (q_83 P) (.node (boot_o_7 P) (.node (F.o_7 P) (.node (F.o_23 P) (b_1 P) (.node (F.o_90 P) (.node (fsO x1) .nil .nil) .nil)) (b_4 P)) (b_138 P)) (.node (F.o_1 P) (.node (F.o_11 P) (.node (F.o_27 P) (b_15 P) (.node (F.o_94 P) (.node (fsO x2) .nil .nil) .nil)) (b_20 P)) (b_99 P))) (b_180 P)) (.node (boot_o_2 P) (.node (boot_o_4 P) (.node (boot_o_8 P) (b_129 P) (.node (F.o_16 P) (.node (F.o_32 P) (b_62 P) (.node (F.o_99 P) (.node (fsO x4) .nil .nil) .nil)) (b_107 P))) (.node (q_5 P) (.node (F.o_12 P) (.node (F.o_28 P) (b_66 P) (.node (F.o_95 P) (.node (fsO x3) .nil .nil) .nil)) (b_111 P)) (b_115 P))) (.node (boot_o_6 P) (.node (boot_o_10 P) (b_134 P) (.node (F.o_18 P) (b_82 P) (.node (F.o_50 P) (.node (F.o_85 P) (.node (fsO x0) .nil .nil) .nil) (b_83 P)))) (b_146 P))))
noncomputable def T80 (P : Params) (x0 x1 x2 x3 x4 : FsD) : BT := (.node (boot_o_0 P) (.node (boot_o_1 P) (.node (q_87 P) (.node (boot_o_7 P) (.node (F.o_7 P) (.node (F.o_23 P) (b_1 P) (.node (F.o_90 P) (.node (fsO x1) .nil .nil) .nil)) (b_4 P)) (b_138 P)) (.node (F.o_1 P) (.node (F.o_11 P) (.node (F.o_27 P) (b_15 P) (.node (F.o_94 P) (.node (fsO x2) .nil .nil) .nil)) (b_20 P)) (b_99 P))) (b_180 P)) (.node (boot_o_2 P) (.node (boot_o_4 P) (.node (boot_o_8 P) (b_129 P) (.node (F.o_16 P) (.node (F.o_32 P) (b_62 P) (.node (F.o_99 P) (.node (fsO x4) .nil .nil) .nil)) (b_107 P))) (.node (q_5 P) (.node (F.o_12 P) (.node (F.o_28 P) (b_66 P) (.node (F.o_95 P) (.node (fsO x3) .nil .nil) .nil)) (b_111 P)) (b_115 P))) (.node (boot_o_6 P) (.node (boot_o_10 P) (b_134 P) (.node (F.o_18 P) (b_82 P) (.node (F.o_50 P) (.node (F.o_85 P) (.node (fsO x0) .nil .nil) .nil) (b_83 P)))) (b_146 P))))
noncomputable def T86 (P : Params) (x0 x1 x2 x3 x4 x5 : FsD) : BT := (.node (boot_o_0 P) (.node (boot_o_1 P) (.node (q_87 P) (.node (boot_o_7 P) (.node (F.o_7 P) (.node (F.o_23 P) (b_1 P) (.node (F.o_90 P) (.node (fsO x1) .nil .nil) .nil)) (b_4 P)) (b_138 P)) (.node (F.o_1 P) (.node (F.o_11 P) (.node (F.o_27 P) (b_15 P) (.node (F.o_94 P) (.node (fsO x2) .nil .nil) .nil)) (b_20 P)) (b_149 P))) (.node (boot_o_5 P) (.node (boot_o_9 P) (b_124 P) (.node (F.o_17 P) (.node (F.o_33 P) (b_34 P) (.node (F.o_100 P) (.node (fsO x5) .nil .nil) .nil)) (b_39 P))) (b_142 P))) (.node (boot_o_2 P) (.node (boot_o_4 P) (.node (boot_o_8 P) (b_129 P) (.node (F.o_16 P) (.node (F.o_32 P) (b_62 P) (.node (F.o_99 P) (.node (fsO x4) .nil .nil) .nil)) (b_107 P))) (.node (q_5 P) (.node (F.o_12 P) (.node (F.o_28 P) (b_66 P) (.node (F.o_95 P) (.node (fsO x3) .nil .nil) .nil)) (b_111 P)) (b_153 P))) (.node (boot_o_6 P) (.node (boot_o_10 P) (b_134 P) (.node (F.o_18 P) (b_156 P) (.node (F.o_50 P) (.node (F.o_85 P) (.node (fsO x0) .nil .nil) .nil) (b_83 P)))) (b_146 P))))
noncomputable def T87 (P : Params) (x0 x1 x2 x3 x4 x5 x6 : FsD) : BT := (.node (boot_o_0 P) (.node (boot_o_1 P) (.node (q_87 P) (.node (boot_o_7 P) (.node (F.o_7 P) (.node (F.o_23 P) (b_1 P) (.node (F.o_90 P) (.node (fsO x1) .nil .nil) .nil)) (b_4 P)) (b_138 P)) (.node (F.o_1 P) (.node (F.o_11 P) (.node (F.o_27 P) (b_15 P) (.node (F.o_94 P) (.node (fsO x2) .nil .nil) .nil)) (b_20 P)) (b_149 P))) (.node (boot_o_5 P) (.node (boot_o_9 P) (b_124 P) (.node (F.o_17 P) (.node (F.o_33 P) (b_34 P) (.node (F.o_100 P) (.node (fsO x5) .nil .nil) .nil)) (b_39 P))) (.node (F.o_3 P) (b_141 P) (.node (F.o_21 P) (.node (F.o_37 P) (b_51 P) (.node (F.o_104 P) (.node (fsO x6) .nil .nil) .nil)) (b_102 P))))) (.node (boot_o_2 P) (.node (boot_o_4 P) (.node (boot_o_8 P) (b_129 P) (.node (F.o_16 P) (.node (F.o_32 P) (b_62 P) (.node (F.o_99 P) (.node (fsO x4) .nil .nil) .nil)) (b_107 P))) (.node (q_5 P) (.node (F.o_12 P) (.node (F.o_28 P) (b_66 P) (.node (F.o_95 P) (.node (fsO x3) .nil .nil) .nil)) (b_111 P)) (b_153 P))) (.node (boot_o_6 P) (.node (boot_o_10 P) (b_134 P) (.node (F.o_18 P) (b_156 P) (.node (F.o_50 P) (.node (F.o_85 P) (.node (fsO x0) .nil .nil) .nil) (b_83 P)))) (b_146 P))))
noncomputable def T88 (P : Params) (x0 x1 x2 x3 x4 x5 x6 : FsD) : BT := (.node (boot_o_0 P) (.node (boot_o_1 P) (.node (q_93 P) (.node (boot_o_7 P) (.node (F.o_7 P) (.node (F.o_23 P) (b_1 P) (.node (F.o_90 P) (.node (fsO x1) .nil .nil) .nil)) (b_4 P)) (b_138 P)) (.node (F.o_1 P) (.node (F.o_11 P) (.node (F.o_27 P) (b_15 P) (.node (F.o_94 P) (.node (fsO x2) .nil .nil) .nil)) (b_20 P)) (b_149 P))) (.node (boot_o_5 P) (.node (boot_o_9 P) (b_124 P) (.node (F.o_17 P) (.node (F.o_33 P) (b_34 P) (.node (F.o_100 P) (.node (fsO x5) .nil .nil) .nil)) (b_39 P))) (.node (F.o_3 P) (b_141 P) (.node (F.o_21 P) (.node (F.o_37 P) (b_51 P) (.node (F.o_104 P) (.node (fsO x6) .nil .nil) .nil)) (b_102 P))))) (.node (boot_o_2 P) (.node (boot_o_4 P) (.node (boot_o_8 P) (b_129 P) (.node (F.o_16 P) (.node (F.o_32 P) (b_62 P) (.node (F.o_99 P) (.node (fsO x4) .nil .nil) .nil)) (b_107 P))) (.node (q_5 P) (.node (F.o_12 P) (.node (F.o_28 P) (b_66 P) (.node (F.o_95 P) (.node (fsO x3) .nil .nil) .nil)) (b_111 P)) (b_153 P))) (.node (boot_o_6 P) (.node (boot_o_10 P) (b_134 P) (.node (F.o_18 P) (b_156 P) (.node (F.o_50 P) (.node (F.o_85 P) (.node (fsO x0) .nil .nil) .nil) (b_83 P)))) (b_146 P))))
noncomputable def T94 (P : Params) (x0 x1 x2 x3 x4 x5 x6 x7 : FsD) : BT := (.node (boot_o_0 P) (.node (boot_o_1 P) (.node (q_98 P) (.node (boot_o_7 P) (.node (F.o_7 P) (.node (F.o_23 P) (b_1 P) (.node (F.o_90 P) (.node (fsO x1) .nil .nil) .nil)) (b_158 P)) (b_138 P)) (.node (F.o_1 P) (.node (F.o_11 P) (.node (F.o_27 P) (b_15 P) (.node (F.o_94 P) (.node (fsO x2) .nil .nil) .nil)) (b_20 P)) (b_149 P))) (.node (boot_o_5 P) (.node (boot_o_9 P) (b_162 P) (.node (F.o_17 P) (.node (F.o_33 P) (b_34 P) (.node (F.o_100 P) (.node (fsO x5) .nil .nil) .nil)) (b_39 P))) (.node (F.o_3 P) (b_141 P) (.node (F.o_21 P) (.node (F.o_37 P) (b_51 P) (.node (F.o_104 P) (.node (fsO x6) .nil .nil) .nil)) (b_102 P))))) (.node (boot_o_2 P) (.node (boot_o_4 P) (.node (boot_o_8 P) (b_165 P) (.node (F.o_16 P) (.node (F.o_32 P) (b_62 P) (.node (F.o_99 P) (.node (fsO x4) .nil .nil) .nil)) (b_107 P))) (.node (q_5 P) (.node (F.o_12 P) (.node (F.o_28 P) (b_66 P) (.node (F.o_95 P) (.node (fsO x3) .nil .nil) .nil)) (b_111 P)) (b_153 P))) (.node (boot_o_6 P) (.node (boot_o_10 P) (b_134 P) (.node (F.o_18 P) (b_156 P) (.node (F.o_50 P) (.node (F.o_85 P) (.node (fsO x0) .nil .nil) .nil) (b_83 P)))) (.node (F.o_4 P) (b_145 P) (.node (F.o_22 P) (.node (F.o_38 P) (b_93 P) (.node (F.o_105 P) (.node (fsO x7) .nil .nil) .nil)) (b_119 P))))))
noncomputable def T98 (P : Params) (x0 x1 x2 x3 x4 x5 x6 x7 x8 : FsD) : BT := (.node (boot_o_0 P) (.node (boot_o_1 P) (.node (q_98 P) (.node (boot_o_7 P) (.node (F.o_7 P) (.node (F.o_23 P) (b_1 P) (.node (F.o_90 P) (.node (fsO x1) .nil .nil) .nil)) (b_158 P)) (b_138 P)) (.node (F.o_1 P) (.node (F.o_11 P) (.node (F.o_27 P) (b_15 P) (.node (F.o_94 P) (.node (fsO x2) .nil .nil) .nil)) (b_167 P)) (b_149 P))) (.node (boot_o_5 P) (.node (boot_o_9 P) (b_162 P) (.node (F.o_17 P) (.node (F.o_33 P) (b_34 P) (.node (F.o_100 P) (.node (fsO x5) .nil .nil) .nil)) (b_39 P))) (.node (F.o_3 P) (b_171 P) (.node (F.o_21 P) (.node (F.o_37 P) (b_51 P) (.node (F.o_104 P) (.node (fsO x6) .nil .nil) .nil)) (b_102 P))))) (.node (boot_o_2 P) (.node (boot_o_4 P) (.node (boot_o_8 P) (b_165 P) (.node (F.o_16 P) (.node (F.o_32 P) (b_62 P) (.node (F.o_99 P) (.node (fsO x4) .nil .nil) .nil)) (b_107 P))) (.node (q_5 P) (.node (F.o_12 P) (.node (F.o_28 P) (b_66 P) (.node (F.o_95 P) (.node (fsO x3) .nil .nil) .nil)) (b_173 P)) (b_153 P))) (.node (boot_o_6 P) (.node (boot_o_10 P) (.node (F.o_10 P) (b_133 P) (.node (F.o_42 P) (b_77 P) (.node (F.o_109 P) (.node (fsO x8) .nil .nil) .nil))) (.node (F.o_18 P) (b_156 P) (.node (F.o_50 P) (.node (F.o_85 P) (.node (fsO x0) .nil .nil) .nil) (b_83 P)))) (.node (F.o_4 P) (b_145 P) (.node (F.o_22 P) (.node (F.o_38 P) (b_93 P) (.node (F.o_105 P) (.node (fsO x7) .nil .nil) .nil)) (b_119 P))))))
noncomputable def T99 (P : Params) (x0 x1 x2 x3 x4 x5 x6 x7 x8 x9 : FsD) : BT := (.node (boot_o_0 P) (.node (boot_o_1 P) (.node (q_98 P) (.node (boot_o_7 P) (.node (F.o_7 P) (.node (F.o_23 P) (b_1 P) (.node (F.o_90 P) (.node (fsO x1) .nil .nil) .nil)) (b_158 P)) (b_138 P)) (.node (F.o_1 P) (.node (F.o_11 P) (.node (F.o_27 P) (b_15 P) (.node (F.o_94 P) (.node (fsO x2) .nil .nil) .nil)) (b_167 P)) (b_149 P))) (.node (boot_o_5 P) (.node (boot_o_9 P) (b_162 P) (.node (F.o_17 P) (.node (F.o_33 P) (b_34 P) (.node (F.o_100 P) (.node (fsO x5) .nil .nil) .nil)) (b_39 P))) (.node (F.o_3 P) (b_171 P) (.node (F.o_21 P) (.node (F.o_37 P) (b_51 P) (.node (F.o_104 P) (.node (fsO x6) .nil .nil) .nil)) (b_102 P))))) (.node (boot_o_2 P) (.node (boot_o_4 P) (.node (boot_o_8 P) (b_165 P) (.node (F.o_16 P) (.node (F.o_32 P) (b_62 P) (.node (F.o_99 P) (.node (fsO x4) .nil .nil) .nil)) (b_107 P))) (.node (q_5 P) (.node (F.o_12 P) (.node (F.o_28 P) (b_66 P) (.node (F.o_95 P) (.node (fsO x3) .nil .nil) .nil)) (b_173 P)) (b_153 P))) (.node (boot_o_6 P) (.node (boot_o_10 P) (.node (F.o_10 P) (b_133 P) (.node (F.o_42 P) (b_77 P) (.node (F.o_109 P) (.node (fsO x8) .nil .nil) .nil))) (.node (F.o_18 P) (b_156 P) (.node (F.o_50 P) (.node (F.o_85 P) (.node (fsO x0) .nil .nil) .nil) (b_83 P)))) (.node (F.o_4 P) (.node (F.o_14 P) (b_144 P) (.node (F.o_46 P) (b_88 P) (.node (F.o_113 P) (.node (fsO x9) .nil .nil) .nil))) (.node (F.o_22 P) (.node (F.o_38 P) (b_93 P) (.node (F.o_105 P) (.node (fsO x7) .nil .nil) .nil)) (b_119 P))))))
noncomputable def T100 (P : Params) (x0 x1 x2 x3 x4 x5 x6 x7 x8 x9 : FsD) : BT := (.node (boot_o_0 P) (.node (boot_o_1 P) (.node (q_103 P) (.node (boot_o_7 P) (.node (F.o_7 P) (.node (F.o_23 P) (b_1 P) (.node (F.o_90 P) (.node (fsO x1) .nil .nil) .nil)) (b_158 P)) (b_138 P)) (.node (F.o_1 P) (.node (F.o_11 P) (.node (F.o_27 P) (b_15 P) (.node (F.o_94 P) (.node (fsO x2) .nil .nil) .nil)) (b_167 P)) (b_149 P))) (.node (boot_o_5 P) (.node (boot_o_9 P) (b_162 P) (.node (F.o_17 P) (.node (F.o_33 P) (b_34 P) (.node (F.o_100 P) (.node (fsO x5) .nil .nil) .nil)) (b_39 P))) (.node (F.o_3 P) (b_171 P) (.node (F.o_21 P) (.node (F.o_37 P) (b_51 P) (.node (F.o_104 P) (.node (fsO x6) .nil .nil) .nil)) (b_102 P))))) (.node (boot_o_2 P) (.node (boot_o_4 P) (.node (boot_o_8 P) (b_165 P) (.node (F.o_16 P) (.node (F.o_32 P) (b_62 P) (.node (F.o_99 P) (.node (fsO x4) .nil .nil) .nil)) (b_107 P))) (.node (q_5 P) (.node (F.o_12 P) (.node (F.o_28 P) (b_66 P) (.node (F.o_95 P) (.node (fsO x3) .nil .nil) .nil)) (b_173 P)) (b_153 P))) (.node (boot_o_6 P) (.node (boot_o_10 P) (.node (F.o_10 P) (b_133 P) (.node (F.o_42 P) (b_77 P) (.node (F.o_109 P) (.node (fsO x8) .nil .nil) .nil))) (.node (F.o_18 P) (b_156 P) (.node (F.o_50 P) (.node (F.o_85 P) (.node (fsO x0) .nil .nil) .nil) (b_83 P)))) (.node (F.o_4 P) (.node (F.o_14 P) (b_144 P) (.node (F.o_46 P) (b_88 P) (.node (F.o_113 P) (.node (fsO x9) .nil .nil) .nil))) (.node (F.o_22 P) (.node (F.o_38 P) (b_93 P) (.node (F.o_105 P) (.node (fsO x7) .nil .nil) .nil)) (b_119 P))))))
noncomputable def b_181 (P : Params) : BT := (.node (F.o_116 P) (b_45 P) .nil)
noncomputable def b_182 (P : Params) : BT := (.node (F.o_49 P) (b_37 P) (b_181 P))
noncomputable def b_183 (P : Params) : BT := (.node (q_129 P) .nil .nil)
noncomputable def b_184 (P : Params) : BT := (.node (F.o_115 P) (b_183 P) .nil)
noncomputable def b_185 (P : Params) : BT := (.node (F.o_48 P) (b_106 P) (b_184 P))
noncomputable def b_186 (P : Params) : BT := (.node (q_130 P) .nil .nil)
noncomputable def b_187 (P : Params) : BT := (.node (F.o_117 P) (b_186 P) .nil)
noncomputable def T146 (P : Params) (x0 x1 x2 x3 x4 x5 x6 x7 x8 x9 x10 : FsD) : BT := (.node (boot_o_0 P) (.node (boot_o_1 P) (.node (q_128 P) (.node (boot_o_7 P) (.node (F.o_7 P) (.node (F.o_23 P) (b_1 P) (.node (F.o_90 P) (.node (fsO x1) .nil .nil) .nil)) (b_158 P)) (.node (F.o_15 P) (b_137 P) (.node (F.o_47 P) (b_10 P) (.node (F.o_114 P) (.node (fsO x10) .nil .nil) .nil)))) (.node (F.o_1 P) (.node (F.o_11 P) (.node (F.o_27 P) (b_15 P) (.node (F.o_94 P) (.node (fsO x2) .nil .nil) .nil)) (b_167 P)) (b_149 P))) (.node (boot_o_5 P) (.node (boot_o_9 P) (b_162 P) (.node (F.o_17 P) (.node (F.o_33 P) (b_34 P) (.node (F.o_100 P) (.node (fsO x5) .nil .nil) .nil)) (b_182 P))) (.node (F.o_3 P) (b_171 P) (.node (F.o_21 P) (.node (F.o_37 P) (b_51 P) (.node (F.o_104 P) (.node (fsO x6) .nil .nil) .nil)) (b_102 P))))) (.node (boot_o_2 P) (.node (boot_o_4 P) (.node (boot_o_8 P) (b_165 P) (.node (F.o_16 P) (.node (F.o_32 P) (b_62 P) (.node (F.o_99 P) (.node (fsO x4) .nil .nil) .nil)) (b_185 P))) (.node (q_5 P) (.node (F.o_12 P) (.node (F.o_28 P) (b_66 P) (.node (F.o_95 P) (.node (fsO x3) .nil .nil) .nil)) (b_173 P)) (b_153 P))) (.node (boot_o_6 P) (.node (boot_o_10 P) (.node (F.o_10 P) (b_133 P) (.node (F.o_42 P) (b_77 P) (.node (F.o_109 P) (.node (fsO x8) .nil .nil) .nil))) (.node (F.o_18 P) (b_156 P) (.node (F.o_50 P) (.node (F.o_85 P) (.node (fsO x0) .nil .nil) .nil) (b_187 P)))) (.node (F.o_4 P) (.node (F.o_14 P) (b_144 P) (.node (F.o_46 P) (b_88 P) (.node (F.o_113 P) (.node (fsO x9) .nil .nil) .nil))) (.node (F.o_22 P) (.node (F.o_38 P) (b_93 P) (.node (F.o_105 P) (.node (fsO x7) .nil .nil) .nil)) (b_119 P))))))
noncomputable def b_188 (P : Params) : BT := (.node (F.o_252 P) .nil .nil)
noncomputable def b_189 (P : Params) : BT := (.node (F.o_118 P) (b_188 P) .nil)
noncomputable def b_190 (P : Params) : BT := (.node (F.o_19 P) (b_148 P) (.node (F.o_54 P) (b_97 P) (b_189 P)))
noncomputable def b_191 (P : Params) : BT := (.node (F.o_257 P) .nil .nil)
noncomputable def b_192 (P : Params) : BT := (.node (F.o_120 P) (b_191 P) .nil)
noncomputable def b_193 (P : Params) : BT := (.node (F.o_56 P) (b_101 P) (b_192 P))
noncomputable def b_194 (P : Params) : BT := (.node (F.o_256 P) .nil .nil)
noncomputable def b_195 (P : Params) : BT := (.node (F.o_119 P) (b_194 P) .nil)
noncomputable def b_196 (P : Params) : BT := (.node (F.o_20 P) (b_152 P) (.node (F.o_55 P) (b_113 P) (b_195 P)))
noncomputable def T147 (P : Params) (x0 x1 x2 x3 x4 x5 x6 x7 x8 x9 x10 : FsD) : BT := (.node (boot_o_0 P) (.node (boot_o_1 P) (.node (q_131 P) (.node (boot_o_7 P) (.node (F.o_7 P) (.node (F.o_23 P) (b_1 P) (.node (F.o_90 P) (.node (fsO x1) .nil .nil) .nil)) (b_158 P)) (.node (F.o_15 P) (b_137 P) (.node (F.o_47 P) (b_10 P) (.node (F.o_114 P) (.node (fsO x10) .nil .nil) .nil)))) (.node (F.o_1 P) (.node (F.o_11 P) (.node (F.o_27 P) (b_15 P) (.node (F.o_94 P) (.node (fsO x2) .nil .nil) .nil)) (b_167 P)) (b_190 P))) (.node (boot_o_5 P) (.node (boot_o_9 P) (b_162 P) (.node (F.o_17 P) (.node (F.o_33 P) (b_34 P) (.node (F.o_100 P) (.node (fsO x5) .nil .nil) .nil)) (b_182 P))) (.node (F.o_3 P) (b_171 P) (.node (F.o_21 P) (.node (F.o_37 P) (b_51 P) (.node (F.o_104 P) (.node (fsO x6) .nil .nil) .nil)) (b_193 P))))) (.node (boot_o_2 P) (.node (boot_o_4 P) (.node (boot_o_8 P) (b_165 P) (.node (F.o_16 P) (.node (F.o_32 P) (b_62 P) (.node (F.o_99 P) (.node (fsO x4) .nil .nil) .nil)) (b_185 P))) (.node (q_5 P) (.node (F.o_12 P) (.node (F.o_28 P) (b_66 P) (.node (F.o_95 P) (.node (fsO x3) .nil .nil) .nil)) (b_173 P)) (b_196 P))) (.node (boot_o_6 P) (.node (boot_o_10 P) (.node (F.o_10 P) (b_133 P) (.node (F.o_42 P) (b_77 P) (.node (F.o_109 P) (.node (fsO x8) .nil .nil) .nil))) (.node (F.o_18 P) (b_156 P) (.node (F.o_50 P) (.node (F.o_85 P) (.node (fsO x0) .nil .nil) .nil) (b_187 P)))) (.node (F.o_4 P) (.node (F.o_14 P) (b_144 P) (.node (F.o_46 P) (b_88 P) (.node (F.o_113 P) (.node (fsO x9) .nil .nil) .nil))) (.node (F.o_22 P) (.node (F.o_38 P) (b_93 P) (.node (F.o_105 P) (.node (fsO x7) .nil .nil) .nil)) (b_119 P))))))
noncomputable def b_197 (P : Params) : BT := (.node (F.o_259 P) .nil .nil)
noncomputable def b_198 (P : Params) : BT := (.node (F.o_58 P) (b_0 P) (b_197 P))
noncomputable def b_199 (P : Params) : BT := (.node (F.o_267 P) .nil .nil)
noncomputable def b_200 (P : Params) : BT := (.node (F.o_66 P) (b_6 P) (b_199 P))
noncomputable def b_201 (P : Params) : BT := (.node (F.o_263 P) .nil .nil)
noncomputable def b_202 (P : Params) : BT := (.node (F.o_62 P) (b_14 P) (b_201 P))
noncomputable def b_203 (P : Params) : BT := (.node (F.o_261 P) .nil .nil)
noncomputable def b_204 (P : Params) : BT := (.node (F.o_60 P) (b_27 P) (b_203 P))
noncomputable def b_205 (P : Params) : BT := (.node (F.o_269 P) .nil .nil)
noncomputable def b_206 (P : Params) : BT := (.node (F.o_68 P) (b_33 P) (b_205 P))
noncomputable def b_207 (P : Params) : BT := (.node (F.o_265 P) .nil .nil)
noncomputable def b_208 (P : Params) : BT := (.node (F.o_64 P) (b_42 P) (b_207 P))
noncomputable def b_209 (P : Params) : BT := (.node (F.o_260 P) .nil .nil)
noncomputable def b_210 (P : Params) : BT := (.node (F.o_59 P) (b_55 P) (b_209 P))
noncomputable def b_211 (P : Params) : BT := (.node (F.o_268 P) .nil .nil)
noncomputable def b_212 (P : Params) : BT := (.node (F.o_67 P) (b_61 P) (b_211 P))
noncomputable def b_213 (P : Params) : BT := (.node (F.o_264 P) .nil .nil)
noncomputable def b_214 (P : Params) : BT := (.node (F.o_63 P) (b_65 P) (b_213 P))
noncomputable def b_215 (P : Params) : BT := (.node (F.o_262 P) .nil .nil)
noncomputable def b_216 (P : Params) : BT := (.node (F.o_61 P) (b_74 P) (b_215 P))
noncomputable def b_217 (P : Params) : BT := (.node (F.o_270 P) .nil .nil)
noncomputable def b_218 (P : Params) : BT := (.node (F.o_34 P) (.node (F.o_69 P) (b_80 P) (b_217 P)) (b_155 P))
noncomputable def b_219 (P : Params) : BT := (.node (F.o_266 P) .nil .nil)
noncomputable def b_220 (P : Params) : BT := (.node (F.o_65 P) (b_84 P) (b_219 P))
noncomputable def b_221 (P : Params) : BT := (.node (F.o_258 P) .nil .nil)
noncomputable def b_222 (P : Params) : BT := (.node (F.o_121 P) (b_221 P) .nil)
noncomputable def T148 (P : Params) (x0 x1 x2 x3 x4 x5 x6 x7 x8 x9 x10 : FsD) : BT := (.node (boot_o_0 P) (.node (boot_o_1 P) (.node (q_132 P) (.node (boot_o_7 P) (.node (F.o_7 P) (.node (F.o_23 P) (b_198 P) (.node (F.o_90 P) (.node (fsO x1) .nil .nil) .nil)) (b_158 P)) (.node (F.o_15 P) (.node (F.o_31 P) (b_200 P) (b_136 P)) (.node (F.o_47 P) (b_10 P) (.node (F.o_114 P) (.node (fsO x10) .nil .nil) .nil)))) (.node (F.o_1 P) (.node (F.o_11 P) (.node (F.o_27 P) (b_202 P) (.node (F.o_94 P) (.node (fsO x2) .nil .nil) .nil)) (b_167 P)) (b_190 P))) (.node (boot_o_5 P) (.node (boot_o_9 P) (.node (F.o_9 P) (.node (F.o_25 P) (b_204 P) (b_122 P)) (b_161 P)) (.node (F.o_17 P) (.node (F.o_33 P) (b_206 P) (.node (F.o_100 P) (.node (fsO x5) .nil .nil) .nil)) (b_182 P))) (.node (F.o_3 P) (.node (F.o_13 P) (.node (F.o_29 P) (b_208 P) (b_139 P)) (b_170 P)) (.node (F.o_21 P) (.node (F.o_37 P) (b_51 P) (.node (F.o_104 P) (.node (fsO x6) .nil .nil) .nil)) (b_193 P))))) (.node (boot_o_2 P) (.node (boot_o_4 P) (.node (boot_o_8 P) (.node (F.o_8 P) (.node (F.o_24 P) (b_210 P) (b_127 P)) (b_164 P)) (.node (F.o_16 P) (.node (F.o_32 P) (b_212 P) (.node (F.o_99 P) (.node (fsO x4) .nil .nil) .nil)) (b_185 P))) (.node (q_133 P) (.node (F.o_12 P) (.node (F.o_28 P) (b_214 P) (.node (F.o_95 P) (.node (fsO x3) .nil .nil) .nil)) (b_173 P)) (b_196 P))) (.node (boot_o_6 P) (.node (boot_o_10 P) (.node (F.o_10 P) (.node (F.o_26 P) (b_216 P) (b_132 P)) (.node (F.o_42 P) (b_77 P) (.node (F.o_109 P) (.node (fsO x8) .nil .nil) .nil))) (.node (F.o_18 P) (b_218 P) (.node (F.o_50 P) (.node (F.o_85 P) (.node (fsO x0) .nil .nil) .nil) (b_187 P)))) (.node (F.o_4 P) (.node (F.o_14 P) (.node (F.o_30 P) (b_220 P) (b_143 P)) (.node (F.o_46 P) (b_88 P) (.node (F.o_113 P) (.node (fsO x9) .nil .nil) .nil))) (.node (F.o_22 P) (.node (F.o_38 P) (b_93 P) (.node (F.o_105 P) (.node (fsO x7) .nil .nil) .nil)) (.node (F.o_57 P) (b_118 P) (b_222 P)))))))
noncomputable def b_223 (P : Params) : BT := (.node (F.o_296 P) .nil .nil)
noncomputable def b_224 (P : Params) : BT := (.node (F.o_275 P) .nil .nil)
noncomputable def b_225 (P : Params) : BT := (.node (F.o_74 P) (b_2 P) (b_224 P))
noncomputable def b_226 (P : Params) : BT := (.node (F.o_304 P) .nil .nil)
noncomputable def b_227 (P : Params) : BT := (.node (F.o_98 P) (b_135 P) (b_226 P))
noncomputable def b_228 (P : Params) : BT := (.node (F.o_283 P) .nil .nil)
noncomputable def b_229 (P : Params) : BT := (.node (F.o_82 P) (b_9 P) (b_228 P))
noncomputable def b_230 (P : Params) : BT := (.node (F.o_300 P) .nil .nil)
noncomputable def b_231 (P : Params) : BT := (.node (F.o_279 P) .nil .nil)
noncomputable def b_232 (P : Params) : BT := (.node (F.o_78 P) (b_17 P) (b_231 P))
noncomputable def b_233 (P : Params) : BT := (.node (F.o_271 P) .nil .nil)
noncomputable def b_234 (P : Params) : BT := (.node (F.o_70 P) (b_22 P) (b_233 P))
noncomputable def b_235 (P : Params) : BT := (.node (F.o_292 P) .nil .nil)
noncomputable def b_236 (P : Params) : BT := (.node (F.o_86 P) (b_45 P) (b_235 P))
noncomputable def b_237 (P : Params) : BT := (.node (F.o_298 P) .nil .nil)
noncomputable def b_238 (P : Params) : BT := (.node (F.o_92 P) (b_45 P) (b_237 P))
noncomputable def b_239 (P : Params) : BT := (.node (F.o_277 P) .nil .nil)
noncomputable def b_240 (P : Params) : BT := (.node (F.o_76 P) (b_29 P) (b_239 P))
noncomputable def b_241 (P : Params) : BT := (.node (F.o_290 P) .nil .nil)
noncomputable def b_242 (P : Params) : BT := (.node (F.o_84 P) (b_36 P) (b_241 P))
noncomputable def b_243 (P : Params) : BT := (.node (F.o_302 P) .nil .nil)
noncomputable def b_244 (P : Params) : BT := (.node (F.o_96 P) (b_126 P) (b_243 P))
noncomputable def b_245 (P : Params) : BT := (.node (F.o_281 P) .nil .nil)
noncomputable def b_246 (P : Params) : BT := (.node (F.o_80 P) (b_45 P) (b_245 P))
noncomputable def b_247 (P : Params) : BT := (.node (F.o_273 P) .nil .nil)
noncomputable def b_248 (P : Params) : BT := (.node (F.o_72 P) (b_50 P) (b_247 P))
noncomputable def b_249 (P : Params) : BT := (.node (F.o_294 P) .nil .nil)
noncomputable def b_250 (P : Params) : BT := (.node (F.o_88 P) (b_45 P) (b_249 P))
noncomputable def b_251 (P : Params) : BT := (.node (F.o_297 P) .nil .nil)
noncomputable def b_252 (P : Params) : BT := (.node (F.o_91 P) (b_126 P) (b_251 P))
noncomputable def b_253 (P : Params) : BT := (.node (F.o_276 P) .nil .nil)
noncomputable def b_254 (P : Params) : BT := (.node (F.o_75 P) (b_57 P) (b_253 P))
noncomputable def b_255 (P : Params) : BT := (.node (F.o_284 P) .nil .nil)
noncomputable def b_256 (P : Params) : BT := (.node (F.o_83 P) (b_105 P) (b_255 P))
noncomputable def b_257 (P : Params) : BT := (.node (F.o_301 P) .nil .nil)
noncomputable def b_258 (P : Params) : BT := (.node (F.o_280 P) .nil .nil)
noncomputable def b_259 (P : Params) : BT := (.node (F.o_79 P) (b_109 P) (b_258 P))
noncomputable def b_260 (P : Params) : BT := (.node (F.o_272 P) .nil .nil)
noncomputable def b_261 (P : Params) : BT := (.node (F.o_71 P) (b_69 P) (b_260 P))
noncomputable def b_262 (P : Params) : BT := (.node (F.o_293 P) .nil .nil)
noncomputable def b_263 (P : Params) : BT := (.node (F.o_87 P) (b_112 P) (b_262 P))
noncomputable def b_264 (P : Params) : BT := (.node (F.o_299 P) .nil .nil)
noncomputable def b_265 (P : Params) : BT := (.node (F.o_93 P) (b_131 P) (b_264 P))
noncomputable def b_266 (P : Params) : BT := (.node (F.o_278 P) .nil .nil)
noncomputable def b_267 (P : Params) : BT := (.node (F.o_77 P) (b_76 P) (b_266 P))
noncomputable def b_268 (P : Params) : BT := (.node (F.o_291 P) .nil .nil)
noncomputable def b_269 (P : Params) : BT := (.node (F.o_303 P) .nil .nil)
noncomputable def b_270 (P : Params) : BT := (.node (F.o_97 P) (b_45 P) (b_269 P))
noncomputable def b_271 (P : Params) : BT := (.node (F.o_282 P) .nil .nil)
noncomputable def b_272 (P : Params) : BT := (.node (F.o_81 P) (b_87 P) (b_271 P))
noncomputable def b_273 (P : Params) : BT := (.node (F.o_274 P) .nil .nil)
noncomputable def b_274 (P : Params) : BT := (.node (F.o_73 P) (b_92 P) (b_273 P))
noncomputable def b_275 (P : Params) : BT := (.node (F.o_295 P) .nil .nil)
noncomputable def b_276 (P : Params) : BT := (.node (F.o_89 P) (b_117 P) (b_275 P))
noncomputable def T149 (P : Params) (x0 x1 x2 x3 x4 x5 x6 x7 x8 x9 x10 : FsD) : BT := (.node (boot_o_0 P) (.node (boot_o_1 P) (.node (q_134 P) (.node (boot_o_7 P) (.node (F.o_7 P) (.node (F.o_23 P) (b_198 P) (.node (F.o_90 P) (.node (fsO x1) .nil .nil) (b_223 P))) (.node (F.o_39 P) (b_225 P) (b_157 P))) (.node (F.o_15 P) (.node (F.o_31 P) (b_200 P) (b_227 P)) (.node (F.o_47 P) (b_229 P) (.node (F.o_114 P) (.node (fsO x10) .nil .nil) .nil)))) (.node (F.o_1 P) (.node (F.o_11 P) (.node (F.o_27 P) (b_202 P) (.node (F.o_94 P) (.node (fsO x2) .nil .nil) (b_230 P))) (.node (F.o_43 P) (b_232 P) (b_166 P))) (.node (F.o_19 P) (.node (F.o_35 P) (b_234 P) (b_147 P)) (.node (F.o_54 P) (b_236 P) (b_189 P))))) (.node (boot_o_5 P) (.node (boot_o_9 P) (.node (F.o_9 P) (.node (F.o_25 P) (b_204 P) (b_238 P)) (.node (F.o_41 P) (b_240 P) (b_160 P))) (.node (F.o_17 P) (.node (F.o_33 P) (b_206 P) (.node (F.o_100 P) (.node (fsO x5) .nil .nil) .nil)) (.node (F.o_49 P) (b_242 P) (b_181 P)))) (.node (F.o_3 P) (.node (F.o_13 P) (.node (F.o_29 P) (b_208 P) (b_244 P)) (.node (F.o_45 P) (b_246 P) (b_169 P))) (.node (F.o_21 P) (.node (F.o_37 P) (b_248 P) (.node (F.o_104 P) (.node (fsO x6) .nil .nil) .nil)) (.node (F.o_56 P) (b_250 P) (b_192 P)))))) (.node (boot_o_2 P) (.node (boot_o_4 P) (.node (boot_o_8 P) (.node (F.o_8 P) (.node (F.o_24 P) (b_210 P) (b_252 P)) (.node (F.o_40 P) (b_254 P) (b_163 P))) (.node (F.o_16 P) (.node (F.o_32 P) (b_212 P) (.node (F.o_99 P) (.node (fsO x4) .nil .nil) .nil)) (.node (F.o_48 P) (b_256 P) (b_184 P)))) (.node (q_135 P) (.node (F.o_12 P) (.node (F.o_28 P) (b_214 P) (.node (F.o_95 P) (.node (fsO x3) .nil .nil) (b_257 P))) (.node (F.o_44 P) (b_259 P) (b_172 P))) (.node (F.o_20 P) (.node (F.o_36 P) (b_261 P) (b_151 P)) (.node (F.o_55 P) (b_263 P) (b_195 P))))) (.node (boot_o_6 P) (.node (boot_o_10 P) (.node (F.o_10 P) (.node (F.o_26 P) (b_216 P) (b_265 P)) (.node (F.o_42 P) (b_267 P) (.node (F.o_109 P) (.node (fsO x8) .nil .nil) .nil))) (.node (F.o_18 P) (b_218 P) (.node (F.o_50 P) (.node (F.o_85 P) (.node (fsO x0) .nil .nil) (b_268 P)) (b_187 P)))) (.node (F.o_4 P) (.node (F.o_14 P) (.node (F.o_30 P) (b_220 P) (b_270 P)) (.node (F.o_46 P) (b_272 P) (.node (F.o_113 P) (.node (fsO x9) .nil .nil) .nil))) (.node (F.o_22 P) (.node (F.o_38 P) (b_274 P) (.node (F.o_105 P) (.node (fsO x7) .nil .nil) .nil)) (.node (F.o_57 P) (b_276 P) (b_222 P)))))))
noncomputable def b_277 (P : Params) : BT := (.node (F.o_122 P) (.node (F.o_328 P) .nil .nil) .nil)
noncomputable def b_278 (P : Params) : BT := (.node (F.o_58 P) (b_277 P) (b_197 P))
noncomputable def b_279 (P : Params) : BT := (.node (F.o_312 P) .nil .nil)
noncomputable def b_280 (P : Params) : BT := (.node (F.o_106 P) (b_154 P) (b_279 P))
noncomputable def b_281 (P : Params) : BT := (.node (F.o_130 P) (.node (F.o_336 P) .nil .nil) .nil)
noncomputable def b_282 (P : Params) : BT := (.node (F.o_31 P) (.node (F.o_66 P) (b_281 P) (b_199 P)) (b_227 P))
noncomputable def b_283 (P : Params) : BT := (.node (F.o_320 P) .nil .nil)
noncomputable def b_284 (P : Params) : BT := (.node (F.o_126 P) (.node (F.o_332 P) .nil .nil) .nil)
noncomputable def b_285 (P : Params) : BT := (.node (F.o_62 P) (b_284 P) (b_201 P))
noncomputable def b_286 (P : Params) : BT := (.node (F.o_316 P) .nil .nil)
noncomputable def b_287 (P : Params) : BT := (.node (F.o_110 P) (b_126 P) (b_286 P))
noncomputable def b_288 (P : Params) : BT := (.node (F.o_308 P) .nil .nil)
noncomputable def b_289 (P : Params) : BT := (.node (F.o_102 P) (b_45 P) (b_288 P))
noncomputable def b_290 (P : Params) : BT := (.node (F.o_324 P) .nil .nil)
noncomputable def b_291 (P : Params) : BT := (.node (F.o_118 P) (b_188 P) (b_290 P))
noncomputable def b_292 (P : Params) : BT := (.node (F.o_124 P) (.node (F.o_330 P) .nil .nil) .nil)
noncomputable def b_293 (P : Params) : BT := (.node (F.o_60 P) (b_292 P) (b_203 P))
noncomputable def b_294 (P : Params) : BT := (.node (F.o_314 P) .nil .nil)
noncomputable def b_295 (P : Params) : BT := (.node (F.o_108 P) (b_159 P) (b_294 P))
noncomputable def b_296 (P : Params) : BT := (.node (F.o_132 P) (.node (F.o_338 P) .nil .nil) .nil)
noncomputable def b_297 (P : Params) : BT := (.node (F.o_68 P) (b_296 P) (b_205 P))
noncomputable def b_298 (P : Params) : BT := (.node (F.o_306 P) .nil .nil)
noncomputable def b_299 (P : Params) : BT := (.node (F.o_322 P) .nil .nil)
noncomputable def b_300 (P : Params) : BT := (.node (F.o_116 P) (b_45 P) (b_299 P))
noncomputable def b_301 (P : Params) : BT := (.node (F.o_128 P) (.node (F.o_334 P) .nil .nil) .nil)
noncomputable def b_302 (P : Params) : BT := (.node (F.o_64 P) (b_301 P) (b_207 P))
noncomputable def b_303 (P : Params) : BT := (.node (F.o_318 P) .nil .nil)
noncomputable def b_304 (P : Params) : BT := (.node (F.o_112 P) (b_168 P) (b_303 P))
noncomputable def b_305 (P : Params) : BT := (.node (F.o_310 P) .nil .nil)
noncomputable def b_306 (P : Params) : BT := (.node (F.o_326 P) .nil .nil)
noncomputable def b_307 (P : Params) : BT := (.node (F.o_120 P) (b_191 P) (b_306 P))
noncomputable def b_308 (P : Params) : BT := (.node (F.o_123 P) (.node (F.o_329 P) .nil .nil) .nil)
noncomputable def b_309 (P : Params) : BT := (.node (F.o_59 P) (b_308 P) (b_209 P))
noncomputable def b_310 (P : Params) : BT := (.node (F.o_313 P) .nil .nil)
noncomputable def b_311 (P : Params) : BT := (.node (F.o_107 P) (b_45 P) (b_310 P))
noncomputable def b_312 (P : Params) : BT := (.node (F.o_131 P) (.node (F.o_337 P) .nil .nil) .nil)
noncomputable def b_313 (P : Params) : BT := (.node (F.o_67 P) (b_312 P) (b_211 P))
noncomputable def b_314 (P : Params) : BT := (.node (F.o_305 P) .nil .nil)
noncomputable def b_315 (P : Params) : BT := (.node (F.o_321 P) .nil .nil)
noncomputable def b_316 (P : Params) : BT := (.node (F.o_115 P) (b_183 P) (b_315 P))
noncomputable def b_317 (P : Params) : BT := (.node (F.o_127 P) (.node (F.o_333 P) .nil .nil) .nil)
noncomputable def b_318 (P : Params) : BT := (.node (F.o_63 P) (b_317 P) (b_213 P))
noncomputable def b_319 (P : Params) : BT := (.node (F.o_317 P) .nil .nil)
noncomputable def b_320 (P : Params) : BT := (.node (F.o_111 P) (b_45 P) (b_319 P))
noncomputable def b_321 (P : Params) : BT := (.node (F.o_309 P) .nil .nil)
noncomputable def b_322 (P : Params) : BT := (.node (F.o_103 P) (b_150 P) (b_321 P))
noncomputable def b_323 (P : Params) : BT := (.node (F.o_325 P) .nil .nil)
noncomputable def b_324 (P : Params) : BT := (.node (F.o_119 P) (b_194 P) (b_323 P))
noncomputable def b_325 (P : Params) : BT := (.node (F.o_125 P) (.node (F.o_331 P) .nil .nil) .nil)
noncomputable def b_326 (P : Params) : BT := (.node (F.o_61 P) (b_325 P) (b_215 P))
noncomputable def b_327 (P : Params) : BT := (.node (F.o_315 P) .nil .nil)
noncomputable def b_328 (P : Params) : BT := (.node (F.o_133 P) (.node (F.o_339 P) .nil .nil) .nil)
noncomputable def b_329 (P : Params) : BT := (.node (F.o_307 P) .nil .nil)
noncomputable def b_330 (P : Params) : BT := (.node (F.o_34 P) (.node (F.o_69 P) (b_328 P) (b_217 P)) (.node (F.o_101 P) (b_154 P) (b_329 P)))
noncomputable def b_331 (P : Params) : BT := (.node (F.o_323 P) .nil .nil)
noncomputable def b_332 (P : Params) : BT := (.node (F.o_117 P) (b_186 P) (b_331 P))
noncomputable def b_333 (P : Params) : BT := (.node (F.o_129 P) (.node (F.o_335 P) .nil .nil) .nil)
noncomputable def b_334 (P : Params) : BT := (.node (F.o_65 P) (b_333 P) (b_219 P))
noncomputable def b_335 (P : Params) : BT := (.node (F.o_319 P) .nil .nil)
noncomputable def b_336 (P : Params) : BT := (.node (F.o_311 P) .nil .nil)
noncomputable def b_337 (P : Params) : BT := (.node (F.o_327 P) .nil .nil)
noncomputable def b_338 (P : Params) : BT := (.node (F.o_121 P) (b_221 P) (b_337 P))
noncomputable def T150 (P : Params) (x0 x1 x2 x3 x4 x5 x6 x7 x8 x9 x10 : FsD) : BT := (.node (boot_o_0 P) (.node (boot_o_1 P) (.node (q_136 P) (.node (boot_o_7 P) (.node (F.o_7 P) (.node (F.o_23 P) (b_278 P) (.node (F.o_90 P) (.node (fsO x1) .nil .nil) (b_223 P))) (.node (F.o_39 P) (b_225 P) (b_280 P))) (.node (F.o_15 P) (b_282 P) (.node (F.o_47 P) (b_229 P) (.node (F.o_114 P) (.node (fsO x10) .nil .nil) (b_283 P))))) (.node (F.o_1 P) (.node (F.o_11 P) (.node (F.o_27 P) (b_285 P) (.node (F.o_94 P) (.node (fsO x2) .nil .nil) (b_230 P))) (.node (F.o_43 P) (b_232 P) (b_287 P))) (.node (F.o_19 P) (.node (F.o_35 P) (b_234 P) (b_289 P)) (.node (F.o_54 P) (b_236 P) (b_291 P))))) (.node (boot_o_5 P) (.node (boot_o_9 P) (.node (F.o_9 P) (.node (F.o_25 P) (b_293 P) (b_238 P)) (.node (F.o_41 P) (b_240 P) (b_295 P))) (.node (F.o_17 P) (.node (F.o_33 P) (b_297 P) (.node (F.o_100 P) (.node (fsO x5) .nil .nil) (b_298 P))) (.node (F.o_49 P) (b_242 P) (b_300 P)))) (.node (F.o_3 P) (.node (F.o_13 P) (.node (F.o_29 P) (b_302 P) (b_244 P)) (.node (F.o_45 P) (b_246 P) (b_304 P))) (.node (F.o_21 P) (.node (F.o_37 P) (b_248 P) (.node (F.o_104 P) (.node (fsO x6) .nil .nil) (b_305 P))) (.node (F.o_56 P) (b_250 P) (b_307 P)))))) (.node (boot_o_2 P) (.node (boot_o_4 P) (.node (boot_o_8 P) (.node (F.o_8 P) (.node (F.o_24 P) (b_309 P) (b_252 P)) (.node (F.o_40 P) (b_254 P) (b_311 P))) (.node (F.o_16 P) (.node (F.o_32 P) (b_313 P) (.node (F.o_99 P) (.node (fsO x4) .nil .nil) (b_314 P))) (.node (F.o_48 P) (b_256 P) (b_316 P)))) (.node (q_137 P) (.node (F.o_12 P) (.node (F.o_28 P) (b_318 P) (.node (F.o_95 P) (.node (fsO x3) .nil .nil) (b_257 P))) (.node (F.o_44 P) (b_259 P) (b_320 P))) (.node (F.o_20 P) (.node (F.o_36 P) (b_261 P) (b_322 P)) (.node (F.o_55 P) (b_263 P) (b_324 P))))) (.node (boot_o_6 P) (.node (boot_o_10 P) (.node (F.o_10 P) (.node (F.o_26 P) (b_326 P) (b_265 P)) (.node (F.o_42 P) (b_267 P) (.node (F.o_109 P) (.node (fsO x8) .nil .nil) (b_327 P)))) (.node (F.o_18 P) (b_330 P) (.node (F.o_50 P) (.node (F.o_85 P) (.node (fsO x0) .nil .nil) (b_268 P)) (b_332 P)))) (.node (F.o_4 P) (.node (F.o_14 P) (.node (F.o_30 P) (b_334 P) (b_270 P)) (.node (F.o_46 P) (b_272 P) (.node (F.o_113 P) (.node (fsO x9) .nil .nil) (b_335 P)))) (.node (F.o_22 P) (.node (F.o_38 P) (b_274 P) (.node (F.o_105 P) (.node (fsO x7) .nil .nil) (b_336 P))) (.node (F.o_57 P) (b_276 P) (b_338 P)))))))
noncomputable def b_339 (P : Params) : BT := (.node (F.o_360 P) .nil .nil)
noncomputable def b_340 (P : Params) : BT := (.node (F.o_74 P) (.node (F.o_138 P) (.node (F.o_344 P) .nil .nil) .nil) (b_224 P))
noncomputable def b_341 (P : Params) : BT := (.node (F.o_82 P) (.node (q_10 P) (.node (F.o_352 P) .nil .nil) .nil) (b_228 P))
noncomputable def b_342 (P : Params) : BT := (.node (F.o_364 P) .nil .nil)
noncomputable def b_343 (P : Params) : BT := (.node (F.o_78 P) (.node (q_6 P) (.node (F.o_348 P) .nil .nil) .nil) (b_231 P))
noncomputable def b_344 (P : Params) : BT := (.node (F.o_134 P) (.node (F.o_340 P) .nil .nil) .nil)
noncomputable def b_345 (P : Params) : BT := (.node (F.o_86 P) (.node (q_8 P) (.node (F.o_356 P) .nil .nil) .nil) (b_235 P))
noncomputable def b_346 (P : Params) : BT := (.node (F.o_92 P) (.node (q_8 P) (.node (F.o_362 P) .nil .nil) .nil) (b_237 P))
noncomputable def b_347 (P : Params) : BT := (.node (F.o_76 P) (.node (F.o_140 P) (.node (F.o_346 P) .nil .nil) .nil) (b_239 P))
noncomputable def b_348 (P : Params) : BT := (.node (F.o_84 P) (.node (q_12 P) (.node (F.o_354 P) .nil .nil) .nil) (b_241 P))
noncomputable def b_349 (P : Params) : BT := (.node (F.o_96 P) (.node (q_81 P) (.node (F.o_366 P) .nil .nil) .nil) (b_243 P))
noncomputable def b_350 (P : Params) : BT := (.node (F.o_80 P) (.node (q_8 P) (.node (F.o_350 P) .nil .nil) .nil) (b_245 P))
noncomputable def b_351 (P : Params) : BT := (.node (F.o_72 P) (.node (F.o_136 P) (.node (F.o_342 P) .nil .nil) .nil) (b_247 P))
noncomputable def b_352 (P : Params) : BT := (.node (F.o_88 P) (.node (q_8 P) (.node (F.o_358 P) .nil .nil) .nil) (b_249 P))
noncomputable def b_353 (P : Params) : BT := (.node (F.o_91 P) (.node (q_81 P) (.node (F.o_361 P) .nil .nil) .nil) (b_251 P))
noncomputable def b_354 (P : Params) : BT := (.node (F.o_75 P) (.node (F.o_139 P) (.node (F.o_345 P) .nil .nil) .nil) (b_253 P))
noncomputable def b_355 (P : Params) : BT := (.node (F.o_83 P) (.node (q_76 P) (.node (F.o_353 P) .nil .nil) .nil) (b_255 P))
noncomputable def b_356 (P : Params) : BT := (.node (F.o_365 P) .nil .nil)
noncomputable def b_357 (P : Params) : BT := (.node (F.o_79 P) (.node (q_75 P) (.node (F.o_349 P) .nil .nil) .nil) (b_258 P))
noncomputable def b_358 (P : Params) : BT := (.node (F.o_135 P) (.node (F.o_341 P) .nil .nil) .nil)
noncomputable def b_359 (P : Params) : BT := (.node (F.o_87 P) (.node (q_77 P) (.node (F.o_357 P) .nil .nil) .nil) (b_262 P))
noncomputable def b_360 (P : Params) : BT := (.node (F.o_93 P) (.node (q_82 P) (.node (F.o_363 P) .nil .nil) .nil) (b_264 P))
noncomputable def b_361 (P : Params) : BT := (.node (F.o_77 P) (.node (F.o_141 P) (.node (F.o_347 P) .nil .nil) .nil) (b_266 P))
noncomputable def b_362 (P : Params) : BT := (.node (F.o_355 P) .nil .nil)
noncomputable def b_363 (P : Params) : BT := (.node (F.o_97 P) (.node (q_8 P) (.node (F.o_367 P) .nil .nil) .nil) (b_269 P))
noncomputable def b_364 (P : Params) : BT := (.node (F.o_81 P) (.node (q_9 P) (.node (F.o_351 P) .nil .nil) .nil) (b_271 P))
noncomputable def b_365 (P : Params) : BT := (.node (F.o_73 P) (.node (F.o_137 P) (.node (F.o_343 P) .nil .nil) .nil) (b_273 P))
noncomputable def b_366 (P : Params) : BT := (.node (F.o_89 P) (.node (q_78 P) (.node (F.o_359 P) .nil .nil) .nil) (b_275 P))
noncomputable def T151 (P : Params) (x0 x1 x2 x3 x4 x5 x6 x7 x8 x9 x10 : FsD) : BT := (.node (boot_o_0 P) (.node (boot_o_1 P) (.node (q_138 P) (.node (boot_o_7 P) (.node (F.o_7 P) (.node (F.o_23 P) (b_278 P) (.node (F.o_90 P) (.node (fsO x1) (b_339 P) .nil) (b_223 P))) (.node (F.o_39 P) (b_340 P) (b_280 P))) (.node (F.o_15 P) (b_282 P) (.node (F.o_47 P) (b_341 P) (.node (F.o_114 P) (.node (fsO x10) .nil .nil) (b_283 P))))) (.node (F.o_1 P) (.node (F.o_11 P) (.node (F.o_27 P) (b_285 P) (.node (F.o_94 P) (.node (fsO x2) (b_342 P) .nil) (b_230 P))) (.node (F.o_43 P) (b_343 P) (b_287 P))) (.node (F.o_19 P) (.node (F.o_35 P) (.node (F.o_70 P) (b_344 P) (b_233 P)) (b_289 P)) (.node (F.o_54 P) (b_345 P) (b_291 P))))) (.node (boot_o_5 P) (.node (boot_o_9 P) (.node (F.o_9 P) (.node (F.o_25 P) (b_293 P) (b_346 P)) (.node (F.o_41 P) (b_347 P) (b_295 P))) (.node (F.o_17 P) (.node (F.o_33 P) (b_297 P) (.node (F.o_100 P) (.node (fsO x5) .nil .nil) (b_298 P))) (.node (F.o_49 P) (b_348 P) (b_300 P)))) (.node (F.o_3 P) (.node (F.o_13 P) (.node (F.o_29 P) (b_302 P) (b_349 P)) (.node (F.o_45 P) (b_350 P) (b_304 P))) (.node (F.o_21 P) (.node (F.o_37 P) (b_351 P) (.node (F.o_104 P) (.node (fsO x6) .nil .nil) (b_305 P))) (.node (F.o_56 P) (b_352 P) (b_307 P)))))) (.node (boot_o_2 P) (.node (boot_o_4 P) (.node (boot_o_8 P) (.node (F.o_8 P) (.node (F.o_24 P) (b_309 P) (b_353 P)) (.node (F.o_40 P) (b_354 P) (b_311 P))) (.node (F.o_16 P) (.node (F.o_32 P) (b_313 P) (.node (F.o_99 P) (.node (fsO x4) .nil .nil) (b_314 P))) (.node (F.o_48 P) (b_355 P) (b_316 P)))) (.node (q_139 P) (.node (F.o_12 P) (.node (F.o_28 P) (b_318 P) (.node (F.o_95 P) (.node (fsO x3) (b_356 P) .nil) (b_257 P))) (.node (F.o_44 P) (b_357 P) (b_320 P))) (.node (F.o_20 P) (.node (F.o_36 P) (.node (F.o_71 P) (b_358 P) (b_260 P)) (b_322 P)) (.node (F.o_55 P) (b_359 P) (b_324 P))))) (.node (boot_o_6 P) (.node (boot_o_10 P) (.node (F.o_10 P) (.node (F.o_26 P) (b_326 P) (b_360 P)) (.node (F.o_42 P) (b_361 P) (.node (F.o_109 P) (.node (fsO x8) .nil .nil) (b_327 P)))) (.node (F.o_18 P) (b_330 P) (.node (F.o_50 P) (.node (F.o_85 P) (.node (fsO x0) (b_362 P) .nil) (b_268 P)) (b_332 P)))) (.node (F.o_4 P) (.node (F.o_14 P) (.node (F.o_30 P) (b_334 P) (b_363 P)) (.node (F.o_46 P) (b_364 P) (.node (F.o_113 P) (.node (fsO x9) .nil .nil) (b_335 P)))) (.node (F.o_22 P) (.node (F.o_38 P) (b_365 P) (.node (F.o_105 P) (.node (fsO x7) .nil .nil) (b_336 P))) (.node (F.o_57 P) (b_366 P) (b_338 P)))))))
noncomputable def T152 (P : Params) (x0 x1 x2 x3 x4 x5 x6 x7 x8 x9 x10 : FsD) : BT := (.node (boot_o_0 P) (.node (boot_o_1 P) (.node (q_140 P) (.node (boot_o_7 P) (.node (F.o_7 P) (.node (F.o_23 P) (.node (F.o_58 P) (b_277 P) (.node (F.o_259 P) (.node (F.o_395 P) .nil .nil) .nil)) (.node (F.o_90 P) (.node (fsO x1) (b_339 P) .nil) (b_223 P))) (.node (F.o_39 P) (b_340 P) (.node (F.o_106 P) (.node (q_91 P) (.node (F.o_379 P) .nil .nil) .nil) (b_279 P)))) (.node (F.o_15 P) (.node (F.o_31 P) (.node (F.o_66 P) (b_281 P) (.node (F.o_267 P) (.node (F.o_403 P) .nil .nil) .nil)) (.node (F.o_98 P) (.node (q_86 P) (.node (F.o_371 P) .nil .nil) .nil) (b_226 P))) (.node (F.o_47 P) (b_341 P) (.node (F.o_114 P) (.node (fsO x10) (.node (F.o_387 P) .nil .nil) .nil) (b_283 P))))) (.node (F.o_1 P) (.node (F.o_11 P) (.node (F.o_27 P) (.node (F.o_62 P) (b_284 P) (.node (F.o_263 P) (.node (F.o_399 P) .nil .nil) .nil)) (.node (F.o_94 P) (.node (fsO x2) (b_342 P) .nil) (b_230 P))) (.node (F.o_43 P) (b_343 P) (.node (F.o_110 P) (.node (q_81 P) (.node (F.o_383 P) .nil .nil) .nil) (b_286 P)))) (.node (F.o_19 P) (.node (F.o_35 P) (.node (F.o_70 P) (b_344 P) (.node (F.o_271 P) (.node (F.o_407 P) .nil .nil) .nil)) (.node (F.o_102 P) (.node (q_8 P) (.node (F.o_375 P) .nil .nil) .nil) (b_288 P))) (.node (F.o_54 P) (b_345 P) (.node (F.o_118 P) (.node (F.o_252 P) (.node (F.o_391 P) .nil .nil) .nil) (b_290 P)))))) (.node (boot_o_5 P) (.node (boot_o_9 P) (.node (F.o_9 P) (.node (F.o_25 P) (.node (F.o_60 P) (b_292 P) (.node (F.o_261 P) (.node (F.o_397 P) .nil .nil) .nil)) (b_346 P)) (.node (F.o_41 P) (b_347 P) (.node (F.o_108 P) (.node (q_99 P) (.node (F.o_381 P) .nil .nil) .nil) (b_294 P)))) (.node (F.o_17 P) (.node (F.o_33 P) (.node (F.o_68 P) (b_296 P) (.node (F.o_269 P) (.node (F.o_405 P) .nil .nil) .nil)) (.node (F.o_100 P) (.node (fsO x5) (.node (F.o_373 P) .nil .nil) .nil) (b_298 P))) (.node (F.o_49 P) (b_348 P) (.node (F.o_116 P) (.node (q_8 P) (.node (F.o_389 P) .nil .nil) .nil) (b_299 P))))) (.node (F.o_3 P) (.node (F.o_13 P) (.node (F.o_29 P) (.node (F.o_64 P) (b_301 P) (.node (F.o_265 P) (.node (F.o_401 P) .nil .nil) .nil)) (b_349 P)) (.node (F.o_45 P) (b_350 P) (.node (F.o_112 P) (.node (q_102 P) (.node (F.o_385 P) .nil .nil) .nil) (b_303 P)))) (.node (F.o_21 P) (.node (F.o_37 P) (b_351 P) (.node (F.o_104 P) (.node (fsO x6) (.node (F.o_377 P) .nil .nil) .nil) (b_305 P))) (.node (F.o_56 P) (b_352 P) (.node (F.o_120 P) (.node (F.o_257 P) (.node (F.o_393 P) .nil .nil) .nil) (b_306 P))))))) (.node (boot_o_2 P) (.node (boot_o_4 P) (.node (boot_o_8 P) (.node (F.o_8 P) (.node (F.o_24 P) (.node (F.o_59 P) (b_308 P) (.node (F.o_260 P) (.node (F.o_396 P) .nil .nil) .nil)) (b_353 P)) (.node (F.o_40 P) (b_354 P) (.node (F.o_107 P) (.node (q_8 P) (.node (F.o_380 P) .nil .nil) .nil) (b_310 P)))) (.node (F.o_16 P) (.node (F.o_32 P) (.node (F.o_67 P) (b_312 P) (.node (F.o_268 P) (.node (F.o_404 P) .nil .nil) .nil)) (.node (F.o_99 P) (.node (fsO x4) (.node (F.o_372 P) .nil .nil) .nil) (b_314 P))) (.node (F.o_48 P) (b_355 P) (.node (F.o_115 P) (.node (q_129 P) (.node (F.o_388 P) .nil .nil) .nil) (b_315 P))))) (.node (q_141 P) (.node (F.o_12 P) (.node (F.o_28 P) (.node (F.o_63 P) (b_317 P) (.node (F.o_264 P) (.node (F.o_400 P) .nil .nil) .nil)) (.node (F.o_95 P) (.node (fsO x3) (b_356 P) .nil) (b_257 P))) (.node (F.o_44 P) (b_357 P) (.node (F.o_111 P) (.node (q_8 P) (.node (F.o_384 P) .nil .nil) .nil) (b_319 P)))) (.node (F.o_20 P) (.node (F.o_36 P) (.node (F.o_71 P) (b_358 P) (.node (F.o_272 P) (.node (F.o_408 P) .nil .nil) .nil)) (.node (F.o_103 P) (.node (q_92 P) (.node (F.o_376 P) .nil .nil) .nil) (b_321 P))) (.node (F.o_55 P) (b_359 P) (.node (F.o_119 P) (.node (F.o_256 P) (.node (F.o_392 P) .nil .nil) .nil) (b_323 P)))))) (.node (boot_o_6 P) (.node (boot_o_10 P) (.node (F.o_10 P) (.node (F.o_26 P) (.node (F.o_61 P) (b_325 P) (.node (F.o_262 P) (.node (F.o_398 P) .nil .nil) .nil)) (b_360 P)) (.node (F.o_42 P) (b_361 P) (.node (F.o_109 P) (.node (fsO x8) (.node (F.o_382 P) .nil .nil) .nil) (b_327 P)))) (.node (F.o_18 P) (.node (F.o_34 P) (.node (F.o_69 P) (b_328 P) (.node (F.o_270 P) (.node (F.o_406 P) .nil .nil) .nil)) (.node (F.o_101 P) (.node (q_91 P) (.node (F.o_374 P) .nil .nil) .nil) (b_329 P))) (.node (F.o_50 P) (.node (F.o_85 P) (.node (fsO x0) (b_362 P) .nil) (b_268 P)) (.node (F.o_117 P) (.node (q_130 P) (.node (F.o_390 P) .nil .nil) .nil) (b_331 P))))) (.node (F.o_4 P) (.node (F.o_14 P) (.node (F.o_30 P) (.node (F.o_65 P) (b_333 P) (.node (F.o_266 P) (.node (F.o_402 P) .nil .nil) .nil)) (b_363 P)) (.node (F.o_46 P) (b_364 P) (.node (F.o_113 P) (.node (fsO x9) (.node (F.o_386 P) .nil .nil) .nil) (b_335 P)))) (.node (F.o_22 P) (.node (F.o_38 P) (b_365 P) (.node (F.o_105 P) (.node (fsO x7) (.node (F.o_378 P) .nil .nil) .nil) (b_336 P))) (.node (F.o_57 P) (b_366 P) (.node (F.o_121 P) (.node (F.o_258 P) (.node (F.o_394 P) .nil .nil) .nil) (b_337 P))))))))
theorem L1 (w : World) (os : OsState) (b : List Stmt) : iGo PW w 384 ⟨T0 w.params, 15, {}, #[], {}, 187, os⟩ (thS b 0 pz) = some (⟨T1 w.params, 59, {}, #[], {}, 253, os⟩, thS b 8 ⟨16, 0, 16, 14⟩) := by kernel_rfl
theorem L2 (w : World) (os : OsState) (b : List Stmt) : iGo PW w 629 ⟨T1 w.params, 59, {}, #[], {}, 253, os⟩ (thS b 8 ⟨16, 0, 16, 14⟩) = some (⟨T2 w.params, 147, {}, #[], {}, 402, os⟩, thS b 9 ⟨17, 0, 83, 16⟩) := by kernel_rfl
theorem L3 (w : World) (os : OsState) (b : List Stmt) : iGo PW w 9 ⟨T2 w.params, 147, {}, #[], {}, 402, os⟩ (thS b 9 ⟨17, 0, 83, 16⟩) = some (⟨T3 w.params, 147, {}, #[], {}, 404, os⟩, thS b 10 ⟨84, 0, 84, 8⟩) := by kernel_rfl
noncomputable def st0 (w : World) (os : OsState) (b : List Stmt) : List Frame := stkOf (iGo PW (fx w) 86 ⟨T3 w.params, 147, {}, #[], {}, 404, os⟩ (thS b 10 ⟨84, 0, 84, 8⟩))
noncomputable def gF (w : World) (os : OsState) (b : List Stmt) : Array GenState := gensOf (iGo PW (fx w) 86 ⟨T3 w.params, 147, {}, #[], {}, 404, os⟩ (thS b 10 ⟨84, 0, 84, 8⟩))
noncomputable def Q_L4 (w : World) : Prop := ∀ (os : OsState) (b : List Stmt), iGo PW w 86 ⟨T3 w.params, 147, {}, #[], {}, 404, os⟩ (thS b 10 ⟨84, 0, 84, 8⟩) = some (⟨TG0 w.params (fresh w) (q_7 w.params) (q_11 w.params), 155, {}, (gF w os b), {}, 415, os⟩, ⟨den (upC 154 153), upC 154 153, ⟨85, 13, 85, 51⟩, (st0 w os b)⟩)
theorem L4 : ∀ w : World, Q_L4 w := (byRow2 "set-order" (P := fun w => Q_L4 w) (byRow2 "special-get-raises" (P := fun w => Q_L4 (World.withFollow w "set-order" false)) (fun w os b => by kernel_rfl) (fun w os b => by kernel_rfl)) (byRow2 "special-get-raises" (P := fun w => Q_L4 (World.withFollow w "set-order" true)) (fun w os b => by kernel_rfl) (fun w os b => by kernel_rfl)))
noncomputable def gK (w : World) (os : OsState) (b : List Stmt) : Array GenState := gensOf (iGo PW (fx w) (cond ((fx w).params.followText "comprehension-iter-twice") 46 56) ⟨TG0 w.params (fresh w) (q_7 w.params) (q_11 w.params), 155, {}, (gF w os b), {}, 415, os⟩ (⟨den (upC 154 153), upC 154 153, ⟨85, 13, 85, 51⟩, (st0 w os b)⟩))
noncomputable def Q_L5 (w : World) : Prop := ∀ (os : OsState) (b : List Stmt), iGo PW w (cond (w.params.followText "comprehension-iter-twice") 46 56) ⟨TG0 w.params (fresh w) (q_7 w.params) (q_11 w.params), 155, {}, (gF w os b), {}, 415, os⟩ (⟨den (upC 154 153), upC 154 153, ⟨85, 13, 85, 51⟩, (st0 w os b)⟩) = some (⟨TG0 w.params (fresh w) (q_13 w.params) (q_14 w.params), 155, {}, (gK w os b), {}, 418, os⟩, adT 154 [0] 417 (upC 154 153) ⟨85, 13, 85, 51⟩ (st0 w os b))
theorem L5 : ∀ w : World, Q_L5 w := (byRow2 "comprehension-iter-twice" (P := fun w => Q_L5 w) (byRow2 "special-get-raises" (P := fun w => Q_L5 (World.withFollow w "comprehension-iter-twice" false)) (fun w os b => by kernel_rfl) (fun w os b => by kernel_rfl)) (byRow2 "special-get-raises" (P := fun w => Q_L5 (World.withFollow w "comprehension-iter-twice" true)) (fun w os b => by kernel_rfl) (fun w os b => by kernel_rfl)))
theorem L7 (w : World) (os : OsState) (b : List Stmt) (x0 : FsD) (q : Pos) : iGo PW w 46 ⟨TG0 w.params x0 (q_13 w.params) (q_14 w.params), 155, {}, (gK w os b), {}, 419, os⟩ (agT (upC 154 153) q (st0 w os b)) = some (⟨TG0 w.params x0 (q_15 w.params) (q_16 w.params), 155, {}, (gK w os b), {}, 422, os⟩, adT 154 [1] 421 (upC 154 153) q (st0 w os b)) := by kernel_rfl
theorem L9 (w : World) (os : OsState) (b : List Stmt) (x0 : FsD) (q : Pos) : iGo PW w 46 ⟨TG0 w.params x0 (q_15 w.params) (q_16 w.params), 155, {}, (gK w os b), {}, 423, os⟩ (agT (upC 154 153) q (st0 w os b)) = some (⟨TG0 w.params x0 (q_17 w.params) (q_18 w.params), 155, {}, (gK w os b), {}, 426, os⟩, adT 154 [2] 425 (upC 154 153) q (st0 w os b)) := by kernel_rfl
theorem L11 (w : World) (os : OsState) (b : List Stmt) (x0 : FsD) (q : Pos) : iGo PW w 46 ⟨TG0 w.params x0 (q_17 w.params) (q_18 w.params), 155, {}, (gK w os b), {}, 427, os⟩ (agT (upC 154 153) q (st0 w os b)) = some (⟨TG0 w.params x0 (q_19 w.params) (q_20 w.params), 155, {}, (gK w os b), {}, 430, os⟩, adT 154 [3] 429 (upC 154 153) q (st0 w os b)) := by kernel_rfl
theorem L13 (w : World) (os : OsState) (b : List Stmt) (x0 : FsD) (q : Pos) : iGo PW w 46 ⟨TG0 w.params x0 (q_19 w.params) (q_20 w.params), 155, {}, (gK w os b), {}, 431, os⟩ (agT (upC 154 153) q (st0 w os b)) = some (⟨TG0 w.params x0 (q_21 w.params) (q_22 w.params), 155, {}, (gK w os b), {}, 434, os⟩, adT 154 [4] 433 (upC 154 153) q (st0 w os b)) := by kernel_rfl
theorem L15 (w : World) (os : OsState) (b : List Stmt) (x0 : FsD) (q : Pos) : iGo PW w 46 ⟨TG0 w.params x0 (q_21 w.params) (q_22 w.params), 155, {}, (gK w os b), {}, 435, os⟩ (agT (upC 154 153) q (st0 w os b)) = some (⟨TG0 w.params x0 (q_23 w.params) (q_24 w.params), 155, {}, (gK w os b), {}, 438, os⟩, adT 154 [5] 437 (upC 154 153) q (st0 w os b)) := by kernel_rfl
theorem L17 (w : World) (os : OsState) (b : List Stmt) (x0 : FsD) (q : Pos) : iGo PW w 46 ⟨TG0 w.params x0 (q_23 w.params) (q_24 w.params), 155, {}, (gK w os b), {}, 439, os⟩ (agT (upC 154 153) q (st0 w os b)) = some (⟨TG0 w.params x0 (q_25 w.params) (q_26 w.params), 155, {}, (gK w os b), {}, 442, os⟩, adT 154 [6] 441 (upC 154 153) q (st0 w os b)) := by kernel_rfl
theorem L19 (w : World) (os : OsState) (b : List Stmt) (x0 : FsD) (q : Pos) : iGo PW w 46 ⟨TG0 w.params x0 (q_25 w.params) (q_26 w.params), 155, {}, (gK w os b), {}, 443, os⟩ (agT (upC 154 153) q (st0 w os b)) = some (⟨TG0 w.params x0 (q_27 w.params) (q_28 w.params), 155, {}, (gK w os b), {}, 446, os⟩, adT 154 [7] 445 (upC 154 153) q (st0 w os b)) := by kernel_rfl
theorem L21 (w : World) (os : OsState) (b : List Stmt) (x0 : FsD) (q : Pos) : iGo PW w 46 ⟨TG0 w.params x0 (q_27 w.params) (q_28 w.params), 155, {}, (gK w os b), {}, 447, os⟩ (agT (upC 154 153) q (st0 w os b)) = some (⟨TG0 w.params x0 (q_29 w.params) (q_30 w.params), 155, {}, (gK w os b), {}, 450, os⟩, adT 154 [8] 449 (upC 154 153) q (st0 w os b)) := by kernel_rfl
theorem L23 (w : World) (os : OsState) (b : List Stmt) (x0 : FsD) (q : Pos) : iGo PW w 46 ⟨TG0 w.params x0 (q_29 w.params) (q_30 w.params), 155, {}, (gK w os b), {}, 451, os⟩ (agT (upC 154 153) q (st0 w os b)) = some (⟨TG0 w.params x0 (q_31 w.params) (q_32 w.params), 155, {}, (gK w os b), {}, 454, os⟩, adT 154 [9] 453 (upC 154 153) q (st0 w os b)) := by kernel_rfl
theorem L25 (w : World) (os : OsState) (b : List Stmt) (x0 : FsD) (q : Pos) : iGo PW w 46 ⟨TG0 w.params x0 (q_31 w.params) (q_32 w.params), 155, {}, (gK w os b), {}, 455, os⟩ (agT (upC 154 153) q (st0 w os b)) = some (⟨TG0 w.params x0 (q_33 w.params) (q_34 w.params), 155, {}, (gK w os b), {}, 458, os⟩, adT 154 [10] 457 (upC 154 153) q (st0 w os b)) := by kernel_rfl
theorem L27 (w : World) (os : OsState) (b : List Stmt) (x0 : FsD) (q : Pos) : iGo PW w 46 ⟨TG0 w.params x0 (q_33 w.params) (q_34 w.params), 155, {}, (gK w os b), {}, 459, os⟩ (agT (upC 154 153) q (st0 w os b)) = some (⟨TG0 w.params x0 (q_35 w.params) (q_36 w.params), 155, {}, (gK w os b), {}, 462, os⟩, adT 154 [11] 461 (upC 154 153) q (st0 w os b)) := by kernel_rfl
theorem L29 (w : World) (os : OsState) (b : List Stmt) (x0 : FsD) (q : Pos) : iGo PW w 46 ⟨TG0 w.params x0 (q_35 w.params) (q_36 w.params), 155, {}, (gK w os b), {}, 463, os⟩ (agT (upC 154 153) q (st0 w os b)) = some (⟨TG0 w.params x0 (q_37 w.params) (q_38 w.params), 155, {}, (gK w os b), {}, 466, os⟩, adT 154 [12] 465 (upC 154 153) q (st0 w os b)) := by kernel_rfl
theorem L31 (w : World) (os : OsState) (b : List Stmt) (x0 : FsD) (q : Pos) : iGo PW w 46 ⟨TG0 w.params x0 (q_37 w.params) (q_38 w.params), 155, {}, (gK w os b), {}, 467, os⟩ (agT (upC 154 153) q (st0 w os b)) = some (⟨TG0 w.params x0 (q_39 w.params) (q_40 w.params), 155, {}, (gK w os b), {}, 470, os⟩, adT 154 [13] 469 (upC 154 153) q (st0 w os b)) := by kernel_rfl
theorem L33 (w : World) (os : OsState) (b : List Stmt) (x0 : FsD) (q : Pos) : iGo PW w 46 ⟨TG0 w.params x0 (q_39 w.params) (q_40 w.params), 155, {}, (gK w os b), {}, 471, os⟩ (agT (upC 154 153) q (st0 w os b)) = some (⟨TG0 w.params x0 (q_41 w.params) (q_42 w.params), 155, {}, (gK w os b), {}, 474, os⟩, adT 154 [14] 473 (upC 154 153) q (st0 w os b)) := by kernel_rfl
theorem L35 (w : World) (os : OsState) (b : List Stmt) (x0 : FsD) (q : Pos) : iGo PW w 46 ⟨TG0 w.params x0 (q_41 w.params) (q_42 w.params), 155, {}, (gK w os b), {}, 475, os⟩ (agT (upC 154 153) q (st0 w os b)) = some (⟨TG0 w.params x0 (q_43 w.params) (q_44 w.params), 155, {}, (gK w os b), {}, 478, os⟩, adT 154 [15] 477 (upC 154 153) q (st0 w os b)) := by kernel_rfl
theorem L37 (w : World) (os : OsState) (b : List Stmt) (x0 : FsD) (q : Pos) : iGo PW w 46 ⟨TG0 w.params x0 (q_43 w.params) (q_44 w.params), 155, {}, (gK w os b), {}, 479, os⟩ (agT (upC 154 153) q (st0 w os b)) = some (⟨TG0 w.params x0 (q_45 w.params) (q_46 w.params), 155, {}, (gK w os b), {}, 482, os⟩, adT 154 [16] 481 (upC 154 153) q (st0 w os b)) := by kernel_rfl
theorem L39 (w : World) (os : OsState) (b : List Stmt) (x0 : FsD) (q : Pos) : iGo PW w 46 ⟨TG0 w.params x0 (q_45 w.params) (q_46 w.params), 155, {}, (gK w os b), {}, 483, os⟩ (agT (upC 154 153) q (st0 w os b)) = some (⟨TG0 w.params x0 (q_47 w.params) (q_48 w.params), 155, {}, (gK w os b), {}, 486, os⟩, adT 154 [17] 485 (upC 154 153) q (st0 w os b)) := by kernel_rfl
theorem L41 (w : World) (os : OsState) (b : List Stmt) (x0 : FsD) (q : Pos) : iGo PW w 46 ⟨TG0 w.params x0 (q_47 w.params) (q_48 w.params), 155, {}, (gK w os b), {}, 487, os⟩ (agT (upC 154 153) q (st0 w os b)) = some (⟨TG0 w.params x0 (q_49 w.params) (q_50 w.params), 155, {}, (gK w os b), {}, 490, os⟩, adT 154 [18] 489 (upC 154 153) q (st0 w os b)) := by kernel_rfl
theorem L43 (w : World) (os : OsState) (b : List Stmt) (x0 : FsD) (q : Pos) : iGo PW w 46 ⟨TG0 w.params x0 (q_49 w.params) (q_50 w.params), 155, {}, (gK w os b), {}, 491, os⟩ (agT (upC 154 153) q (st0 w os b)) = some (⟨TG0 w.params x0 (q_51 w.params) (q_52 w.params), 155, {}, (gK w os b), {}, 494, os⟩, adT 154 [19] 493 (upC 154 153) q (st0 w os b)) := by kernel_rfl
theorem L45 (w : World) (os : OsState) (b : List Stmt) (x0 : FsD) (q : Pos) : iGo PW w 46 ⟨TG0 w.params x0 (q_51 w.params) (q_52 w.params), 155, {}, (gK w os b), {}, 495, os⟩ (agT (upC 154 153) q (st0 w os b)) = some (⟨TG0 w.params x0 (q_53 w.params) (q_54 w.params), 155, {}, (gK w os b), {}, 498, os⟩, adT 154 [20] 497 (upC 154 153) q (st0 w os b)) := by kernel_rfl
theorem L47 (w : World) (os : OsState) (b : List Stmt) (x0 : FsD) (q : Pos) : iGo PW w 46 ⟨TG0 w.params x0 (q_53 w.params) (q_54 w.params), 155, {}, (gK w os b), {}, 499, os⟩ (agT (upC 154 153) q (st0 w os b)) = some (⟨TG0 w.params x0 (q_55 w.params) (q_56 w.params), 155, {}, (gK w os b), {}, 502, os⟩, adT 154 [21] 501 (upC 154 153) q (st0 w os b)) := by kernel_rfl
theorem L49 (w : World) (os : OsState) (b : List Stmt) (x0 : FsD) (q : Pos) : iGo PW w 46 ⟨TG0 w.params x0 (q_55 w.params) (q_56 w.params), 155, {}, (gK w os b), {}, 503, os⟩ (agT (upC 154 153) q (st0 w os b)) = some (⟨TG0 w.params x0 (q_57 w.params) (q_58 w.params), 155, {}, (gK w os b), {}, 506, os⟩, adT 154 [22] 505 (upC 154 153) q (st0 w os b)) := by kernel_rfl
theorem L51 (w : World) (os : OsState) (b : List Stmt) (x0 : FsD) (q : Pos) : iGo PW w 46 ⟨TG0 w.params x0 (q_57 w.params) (q_58 w.params), 155, {}, (gK w os b), {}, 507, os⟩ (agT (upC 154 153) q (st0 w os b)) = some (⟨TG0 w.params x0 (q_59 w.params) (q_60 w.params), 155, {}, (gK w os b), {}, 510, os⟩, adT 154 [23] 509 (upC 154 153) q (st0 w os b)) := by kernel_rfl
theorem L53 (w : World) (os : OsState) (b : List Stmt) (x0 : FsD) (q : Pos) : iGo PW w 46 ⟨TG0 w.params x0 (q_59 w.params) (q_60 w.params), 155, {}, (gK w os b), {}, 511, os⟩ (agT (upC 154 153) q (st0 w os b)) = some (⟨TG0 w.params x0 (q_61 w.params) (q_62 w.params), 155, {}, (gK w os b), {}, 514, os⟩, adT 154 [24] 513 (upC 154 153) q (st0 w os b)) := by kernel_rfl
theorem L55 (w : World) (os : OsState) (b : List Stmt) (x0 : FsD) (q : Pos) : iGo PW w 46 ⟨TG0 w.params x0 (q_61 w.params) (q_62 w.params), 155, {}, (gK w os b), {}, 515, os⟩ (agT (upC 154 153) q (st0 w os b)) = some (⟨TG0 w.params x0 (q_63 w.params) (q_64 w.params), 155, {}, (gK w os b), {}, 518, os⟩, adT 154 [25] 517 (upC 154 153) q (st0 w os b)) := by kernel_rfl
theorem L57 (w : World) (os : OsState) (b : List Stmt) (x0 : FsD) (q : Pos) : iGo PW w 46 ⟨TG0 w.params x0 (q_63 w.params) (q_64 w.params), 155, {}, (gK w os b), {}, 519, os⟩ (agT (upC 154 153) q (st0 w os b)) = some (⟨TG0 w.params x0 (q_65 w.params) (q_66 w.params), 155, {}, (gK w os b), {}, 522, os⟩, adT 154 [26] 521 (upC 154 153) q (st0 w os b)) := by kernel_rfl
theorem L59 (w : World) (os : OsState) (b : List Stmt) (x0 : FsD) (q : Pos) : iGo PW w 46 ⟨TG0 w.params x0 (q_65 w.params) (q_66 w.params), 155, {}, (gK w os b), {}, 523, os⟩ (agT (upC 154 153) q (st0 w os b)) = some (⟨TG0 w.params x0 (q_67 w.params) (q_68 w.params), 155, {}, (gK w os b), {}, 526, os⟩, adT 154 [27] 525 (upC 154 153) q (st0 w os b)) := by kernel_rfl
theorem L61 (w : World) (os : OsState) (b : List Stmt) (x0 : FsD) (q : Pos) : iGo PW w 46 ⟨TG0 w.params x0 (q_67 w.params) (q_68 w.params), 155, {}, (gK w os b), {}, 527, os⟩ (agT (upC 154 153) q (st0 w os b)) = some (⟨TG0 w.params x0 (q_69 w.params) (q_70 w.params), 155, {}, (gK w os b), {}, 530, os⟩, adT 154 [28] 529 (upC 154 153) q (st0 w os b)) := by kernel_rfl
theorem L63 (w : World) (os : OsState) (b : List Stmt) (x0 : FsD) (q : Pos) : iGo PW w 46 ⟨TG0 w.params x0 (q_69 w.params) (q_70 w.params), 155, {}, (gK w os b), {}, 531, os⟩ (agT (upC 154 153) q (st0 w os b)) = some (⟨TG0 w.params x0 (q_71 w.params) (q_72 w.params), 155, {}, (gK w os b), {}, 534, os⟩, adT 154 [29] 533 (upC 154 153) q (st0 w os b)) := by kernel_rfl
theorem L65 (w : World) (os : OsState) (b : List Stmt) (x0 : FsD) (q : Pos) : iGo PW w 46 ⟨TG0 w.params x0 (q_71 w.params) (q_72 w.params), 155, {}, (gK w os b), {}, 535, os⟩ (agT (upC 154 153) q (st0 w os b)) = some (⟨TG0 w.params x0 (q_73 w.params) (q_74 w.params), 155, {}, (gK w os b), {}, 538, os⟩, adT 154 [30] 537 (upC 154 153) q (st0 w os b)) := by kernel_rfl
theorem L67 (w : World) (os : OsState) (b : List Stmt) (x0 : FsD) (q : Pos) : iGo PW w 46 ⟨TG0 w.params x0 (q_73 w.params) (q_74 w.params), 155, {}, (gK w os b), {}, 539, os⟩ (agT (upC 154 153) q (st0 w os b)) = some (⟨TG0 w.params x0 (q_75 w.params) (q_76 w.params), 155, {}, (gK w os b), {}, 542, os⟩, adT 154 [31] 541 (upC 154 153) q (st0 w os b)) := by kernel_rfl
noncomputable def st1 (w : World) (os : OsState) (b : List Stmt) (x0 : FsD) (q0 : Pos) : List Frame := stkOf (iGo PW (fx w) 69 ⟨TG0 w.params x0 (q_75 w.params) (q_76 w.params), 155, {}, (gK w os b), {}, 543, os⟩ (agT (upC 154 153) q0 (st0 w os b)))
noncomputable def Q_L69 (w : World) : Prop := ∀ (os : OsState) (b : List Stmt) (x0 : FsD) (q0 : Pos), iGo PW w 69 ⟨TG0 w.params x0 (q_75 w.params) (q_76 w.params), 155, {}, (gK w os b), {}, 543, os⟩ (agT (upC 154 153) q0 (st0 w os b)) = some (⟨TG1 w.params x0 (fresh w) (q_79 w.params), 161, {}, #[.finished], {}, 545, os⟩, ⟨den (upC 159 160), upC 159 160, ⟨85, 54, 85, 73⟩, (st1 w os b x0 q0)⟩)
theorem L69 : ∀ w : World, Q_L69 w := (byRow2 "special-get-raises" (P := fun w => Q_L69 w) (byRow2 "set-order" (P := fun w => Q_L69 (World.withFollow w "special-get-raises" false)) (fun w os b x0 q0 => by kernel_rfl) (fun w os b x0 q0 => by kernel_rfl)) (byRow2 "set-order" (P := fun w => Q_L69 (World.withFollow w "special-get-raises" true)) (fun w os b x0 q0 => by kernel_rfl) (fun w os b x0 q0 => by kernel_rfl)))
theorem L70 (w : World) (os : OsState) (b : List Stmt) (x0 : FsD) (q0 : Pos) : iGo PW w 10 ⟨TG1 w.params x0 (fresh w) (q_79 w.params), 161, {}, #[.finished], {}, 545, os⟩ (⟨den (upC 159 160), upC 159 160, ⟨85, 54, 85, 73⟩, (st1 w os b x0 q0)⟩) = some (⟨TG1 w.params x0 (fresh w) (q_80 w.params), 161, {}, #[.finished], {}, 546, os⟩, adT 159 [127] 545 (upC 159 160) ⟨85, 54, 85, 73⟩ (st1 w os b x0 q0)) := by kernel_rfl
noncomputable def so72 (w : World) (os : OsState) (b : List Stmt) (x0 x1 : FsD) (q0 q1 : Pos) : List Frame := stkOf (iGo PW (fx w) 33 ⟨TG1 w.params x0 x1 (q_80 w.params), 161, {}, #[.finished], {}, 547, os⟩ (agT (upC 159 160) q1 (st1 w os b x0 q0)))
theorem L72 (w : World) (os : OsState) (b : List Stmt) (x0 x1 : FsD) (q0 q1 : Pos) : iGo PW w 33 ⟨TG1 w.params x0 x1 (q_80 w.params), 161, {}, #[.finished], {}, 547, os⟩ (agT (upC 159 160) q1 (st1 w os b x0 q0)) = some (⟨T72 w.params x0 x1, 163, {}, #[.finished], {}, 547, os⟩, ⟨.pure (.again (.builtin "frozenset.__or__" ⟨[.ref 154, .ref 159], []⟩)), .call (.builtin "frozenset.__or__") ⟨[.ref 154, .ref 159], []⟩, ⟨85, 13, 85, 73⟩, (so72 w os b x0 x1 q0 q1)⟩) := by kernel_rfl
theorem L74 (w : World) (os : OsState) (b : List Stmt) (x0 x1 x2 : FsD) (q0 q1 qo : Pos) : iGo PW w 9 ⟨T73 w.params x0 x1 x2, 164, {}, #[.finished], {}, 547, os⟩ (⟨.pure (.done (.ret (.ref 163))), (.builtin "frozenset.__or__" ⟨[.ref 154, .ref 159], []⟩), qo, (so72 w os b x0 x1 q0 q1)⟩) = some (⟨T74 w.params x0 x1 x2, 164, {}, #[.finished], {}, 548, os⟩, thS b 11 ⟨85, 0, 85, 10⟩) := by kernel_rfl
noncomputable def st2 (w : World) (os : OsState) (b : List Stmt) (x0 x1 x2 : FsD) : List Frame := stkOf (iGo PW (fx w) 21 ⟨T74 w.params x0 x1 x2, 164, {}, #[.finished], {}, 548, os⟩ (thS b 11 ⟨85, 0, 85, 10⟩))
noncomputable def Q_L75 (w : World) : Prop := ∀ (os : OsState) (b : List Stmt) (x0 x1 x2 : FsD), iGo PW w 21 ⟨T74 w.params x0 x1 x2, 164, {}, #[.finished], {}, 548, os⟩ (thS b 11 ⟨85, 0, 85, 10⟩) = some (⟨TG2 w.params x0 x1 x2 (fresh w) (q_84 w.params), 166, {}, #[.finished], {}, 549, os⟩, ⟨den (upC 164 165), upC 164 165, ⟨86, 39, 86, 54⟩, (st2 w os b x0 x1 x2)⟩)
theorem L75 : ∀ w : World, Q_L75 w := (byRow2 "special-get-raises" (P := fun w => Q_L75 w) (byRow2 "set-order" (P := fun w => Q_L75 (World.withFollow w "special-get-raises" false)) (fun w os b x0 x1 x2 => by kernel_rfl) (fun w os b x0 x1 x2 => by kernel_rfl)) (byRow2 "set-order" (P := fun w => Q_L75 (World.withFollow w "special-get-raises" true)) (fun w os b x0 x1 x2 => by kernel_rfl) (fun w os b x0 x1 x2 => by kernel_rfl)))
theorem L76 (w : World) (os : OsState) (b : List Stmt) (x0 x1 x2 : FsD) : iGo PW w 10 ⟨TG2 w.params x0 x1 x2 (fresh w) (q_84 w.params), 166, {}, #[.finished], {}, 549, os⟩ (⟨den (upC 164 165), upC 164 165, ⟨86, 39, 86, 54⟩, (st2 w os b x0 x1 x2)⟩) = some (⟨TG2 w.params x0 x1 x2 (fresh w) (q_85 w.params), 166, {}, #[.finished], {}, 550, os⟩, adT 164 [9] 549 (upC 164 165) ⟨86, 39, 86, 54⟩ (st2 w os b x0 x1 x2)) := by kernel_rfl
noncomputable def so78 (w : World) (os : OsState) (b : List Stmt) (x0 x1 x2 x3 : FsD) (q2 : Pos) : List Frame := stkOf (iGo PW (fx w) 33 ⟨TG2 w.params x0 x1 x2 x3 (q_85 w.params), 166, {}, #[.finished], {}, 551, os⟩ (agT (upC 164 165) q2 (st2 w os b x0 x1 x2)))
theorem L78 (w : World) (os : OsState) (b : List Stmt) (x0 x1 x2 x3 : FsD) (q2 : Pos) : iGo PW w 33 ⟨TG2 w.params x0 x1 x2 x3 (q_85 w.params), 166, {}, #[.finished], {}, 551, os⟩ (agT (upC 164 165) q2 (st2 w os b x0 x1 x2)) = some (⟨T78 w.params x0 x1 x2 x3, 168, {}, #[.finished], {}, 551, os⟩, ⟨.pure (.again (.builtin "frozenset.__sub__" ⟨[.ref 163, .ref 164], []⟩)), .call (.builtin "frozenset.__sub__") ⟨[.ref 163, .ref 164], []⟩, ⟨86, 26, 86, 54⟩, (so78 w os b x0 x1 x2 x3 q2)⟩) := by kernel_rfl
theorem L80 (w : World) (os : OsState) (b : List Stmt) (x0 x1 x2 x3 x4 : FsD) (q2 qo : Pos) : iGo PW w 9 ⟨T79 w.params x0 x1 x2 x3 x4, 169, {}, #[.finished], {}, 551, os⟩ (⟨.pure (.done (.ret (.ref 168))), (.builtin "frozenset.__sub__" ⟨[.ref 163, .ref 164], []⟩), qo, (so78 w os b x0 x1 x2 x3 q2)⟩) = some (⟨T80 w.params x0 x1 x2 x3 x4, 169, {}, #[.finished], {}, 552, os⟩, thS b 12 ⟨86, 0, 86, 23⟩) := by kernel_rfl
noncomputable def st3 (w : World) (os : OsState) (b : List Stmt) (x0 x1 x2 x3 x4 : FsD) : List Frame := stkOf (iGo PW (fx w) 21 ⟨T80 w.params x0 x1 x2 x3 x4, 169, {}, #[.finished], {}, 552, os⟩ (thS b 12 ⟨86, 0, 86, 23⟩))
noncomputable def Q_L81 (w : World) : Prop := ∀ (os : OsState) (b : List Stmt) (x0 x1 x2 x3 x4 : FsD), iGo PW w 21 ⟨T80 w.params x0 x1 x2 x3 x4, 169, {}, #[.finished], {}, 552, os⟩ (thS b 12 ⟨86, 0, 86, 23⟩) = some (⟨TG3 w.params x0 x1 x2 x3 x4 (fresh w) (q_88 w.params), 171, {}, #[.finished], {}, 553, os⟩, ⟨den (upC 169 170), upC 169 170, ⟨87, 49, 87, 66⟩, (st3 w os b x0 x1 x2 x3 x4)⟩)
theorem L81 : ∀ w : World, Q_L81 w := (byRow2 "special-get-raises" (P := fun w => Q_L81 w) (byRow2 "set-order" (P := fun w => Q_L81 (World.withFollow w "special-get-raises" false)) (fun w os b x0 x1 x2 x3 x4 => by kernel_rfl) (fun w os b x0 x1 x2 x3 x4 => by kernel_rfl)) (byRow2 "set-order" (P := fun w => Q_L81 (World.withFollow w "special-get-raises" true)) (fun w os b x0 x1 x2 x3 x4 => by kernel_rfl) (fun w os b x0 x1 x2 x3 x4 => by kernel_rfl)))
theorem L82 (w : World) (os : OsState) (b : List Stmt) (x0 x1 x2 x3 x4 : FsD) : iGo PW w 10 ⟨TG3 w.params x0 x1 x2 x3 x4 (fresh w) (q_88 w.params), 171, {}, #[.finished], {}, 553, os⟩ (⟨den (upC 169 170), upC 169 170, ⟨87, 49, 87, 66⟩, (st3 w os b x0 x1 x2 x3 x4)⟩) = some (⟨TG3 w.params x0 x1 x2 x3 x4 (fresh w) (q_89 w.params), 171, {}, #[.finished], {}, 554, os⟩, adT 169 [9] 553 (upC 169 170) ⟨87, 49, 87, 66⟩ (st3 w os b x0 x1 x2 x3 x4)) := by kernel_rfl
theorem L84 (w : World) (os : OsState) (b : List Stmt) (x0 x1 x2 x3 x4 x5 : FsD) (q : Pos) : iGo PW w 11 ⟨TG3 w.params x0 x1 x2 x3 x4 x5 (q_89 w.params), 171, {}, #[.finished], {}, 555, os⟩ (agT (upC 169 170) q (st3 w os b x0 x1 x2 x3 x4)) = some (⟨TG3 w.params x0 x1 x2 x3 x4 x5 (q_90 w.params), 171, {}, #[.finished], {}, 556, os⟩, adT 169 [10] 555 (upC 169 170) q (st3 w os b x0 x1 x2 x3 x4)) := by kernel_rfl
noncomputable def so86 (w : World) (os : OsState) (b : List Stmt) (x0 x1 x2 x3 x4 x5 : FsD) (q3 : Pos) : List Frame := stkOf (iGo PW (fx w) 33 ⟨TG3 w.params x0 x1 x2 x3 x4 x5 (q_90 w.params), 171, {}, #[.finished], {}, 557, os⟩ (agT (upC 169 170) q3 (st3 w os b x0 x1 x2 x3 x4)))
theorem L86 (w : World) (os : OsState) (b : List Stmt) (x0 x1 x2 x3 x4 x5 : FsD) (q3 : Pos) : iGo PW w 33 ⟨TG3 w.params x0 x1 x2 x3 x4 x5 (q_90 w.params), 171, {}, #[.finished], {}, 557, os⟩ (agT (upC 169 170) q3 (st3 w os b x0 x1 x2 x3 x4)) = some (⟨T86 w.params x0 x1 x2 x3 x4 x5, 173, {}, #[.finished], {}, 557, os⟩, ⟨.pure (.again (.builtin "frozenset.__sub__" ⟨[.ref 163, .ref 169], []⟩)), .call (.builtin "frozenset.__sub__") ⟨[.ref 163, .ref 169], []⟩, ⟨87, 36, 87, 66⟩, (so86 w os b x0 x1 x2 x3 x4 x5 q3)⟩) := by kernel_rfl
theorem L88 (w : World) (os : OsState) (b : List Stmt) (x0 x1 x2 x3 x4 x5 x6 : FsD) (q3 qo : Pos) : iGo PW w 9 ⟨T87 w.params x0 x1 x2 x3 x4 x5 x6, 174, {}, #[.finished], {}, 557, os⟩ (⟨.pure (.done (.ret (.ref 173))), (.builtin "frozenset.__sub__" ⟨[.ref 163, .ref 169], []⟩), qo, (so86 w os b x0 x1 x2 x3 x4 x5 q3)⟩) = some (⟨T88 w.params x0 x1 x2 x3 x4 x5 x6, 174, {}, #[.finished], {}, 558, os⟩, thS b 13 ⟨87, 0, 87, 33⟩) := by kernel_rfl
noncomputable def st4 (w : World) (os : OsState) (b : List Stmt) (x0 x1 x2 x3 x4 x5 x6 : FsD) : List Frame := stkOf (iGo PW (fx w) 29 ⟨T88 w.params x0 x1 x2 x3 x4 x5 x6, 174, {}, #[.finished], {}, 558, os⟩ (thS b 13 ⟨87, 0, 87, 33⟩))
noncomputable def Q_L89 (w : World) : Prop := ∀ (os : OsState) (b : List Stmt) (x0 x1 x2 x3 x4 x5 x6 : FsD), iGo PW w 29 ⟨T88 w.params x0 x1 x2 x3 x4 x5 x6, 174, {}, #[.finished], {}, 558, os⟩ (thS b 13 ⟨87, 0, 87, 33⟩) = some (⟨TG4 w.params x0 x1 x2 x3 x4 x5 x6 (fresh w) (q_95 w.params), 176, {}, #[.finished], {}, 560, os⟩, ⟨den (upC 174 175), upC 174 175, ⟨89, 10, 89, 26⟩, (st4 w os b x0 x1 x2 x3 x4 x5 x6)⟩)
theorem L89 : ∀ w : World, Q_L89 w := (byRow2 "special-get-raises" (P := fun w => Q_L89 w) (byRow2 "set-order" (P := fun w => Q_L89 (World.withFollow w "special-get-raises" false)) (fun w os b x0 x1 x2 x3 x4 x5 x6 => by kernel_rfl) (fun w os b x0 x1 x2 x3 x4 x5 x6 => by kernel_rfl)) (byRow2 "set-order" (P := fun w => Q_L89 (World.withFollow w "special-get-raises" true)) (fun w os b x0 x1 x2 x3 x4 x5 x6 => by kernel_rfl) (fun w os b x0 x1 x2 x3 x4 x5 x6 => by kernel_rfl)))
theorem L90 (w : World) (os : OsState) (b : List Stmt) (x0 x1 x2 x3 x4 x5 x6 : FsD) : iGo PW w 10 ⟨TG4 w.params x0 x1 x2 x3 x4 x5 x6 (fresh w) (q_95 w.params), 176, {}, #[.finished], {}, 560, os⟩ (⟨den (upC 174 175), upC 174 175, ⟨89, 10, 89, 26⟩, (st4 w os b x0 x1 x2 x3 x4 x5 x6)⟩) = some (⟨TG4 w.params x0 x1 x2 x3 x4 x5 x6 (fresh w) (q_96 w.params), 176, {}, #[.finished], {}, 561, os⟩, adT 174 [32] 560 (upC 174 175) ⟨89, 10, 89, 26⟩ (st4 w os b x0 x1 x2 x3 x4 x5 x6)) := by kernel_rfl
theorem L92 (w : World) (os : OsState) (b : List Stmt) (x0 x1 x2 x3 x4 x5 x6 x7 : FsD) (q : Pos) : iGo PW w 11 ⟨TG4 w.params x0 x1 x2 x3 x4 x5 x6 x7 (q_96 w.params), 176, {}, #[.finished], {}, 562, os⟩ (agT (upC 174 175) q (st4 w os b x0 x1 x2 x3 x4 x5 x6)) = some (⟨TG4 w.params x0 x1 x2 x3 x4 x5 x6 x7 (q_97 w.params), 176, {}, #[.finished], {}, 563, os⟩, adT 174 [9] 562 (upC 174 175) q (st4 w os b x0 x1 x2 x3 x4 x5 x6)) := by kernel_rfl
theorem L94 (w : World) (os : OsState) (b : List Stmt) (x0 x1 x2 x3 x4 x5 x6 x7 : FsD) (q4 : Pos) : iGo PW w 34 ⟨TG4 w.params x0 x1 x2 x3 x4 x5 x6 x7 (q_97 w.params), 176, {}, #[.finished], {}, 564, os⟩ (agT (upC 174 175) q4 (st4 w os b x0 x1 x2 x3 x4 x5 x6)) = some (⟨T94 w.params x0 x1 x2 x3 x4 x5 x6 x7, 178, {}, #[.finished], {}, 565, os⟩, thS b 15 ⟨89, 0, 89, 7⟩) := by kernel_rfl
noncomputable def st5 (w : World) (os : OsState) (b : List Stmt) (x0 x1 x2 x3 x4 x5 x6 x7 : FsD) : List Frame := stkOf (iGo PW (fx w) 21 ⟨T94 w.params x0 x1 x2 x3 x4 x5 x6 x7, 178, {}, #[.finished], {}, 565, os⟩ (thS b 15 ⟨89, 0, 89, 7⟩))
noncomputable def Q_L95 (w : World) : Prop := ∀ (os : OsState) (b : List Stmt) (x0 x1 x2 x3 x4 x5 x6 x7 : FsD), iGo PW w 21 ⟨T94 w.params x0 x1 x2 x3 x4 x5 x6 x7, 178, {}, #[.finished], {}, 565, os⟩ (thS b 15 ⟨89, 0, 89, 7⟩) = some (⟨TG5 w.params x0 x1 x2 x3 x4 x5 x6 x7 (fresh w) (q_100 w.params), 180, {}, #[.finished], {}, 566, os⟩, ⟨den (upC 178 179), upC 178 179, ⟨90, 32, 90, 47⟩, (st5 w os b x0 x1 x2 x3 x4 x5 x6 x7)⟩)
theorem L95 : ∀ w : World, Q_L95 w := (byRow2 "special-get-raises" (P := fun w => Q_L95 w) (byRow2 "set-order" (P := fun w => Q_L95 (World.withFollow w "special-get-raises" false)) (fun w os b x0 x1 x2 x3 x4 x5 x6 x7 => by kernel_rfl) (fun w os b x0 x1 x2 x3 x4 x5 x6 x7 => by kernel_rfl)) (byRow2 "set-order" (P := fun w => Q_L95 (World.withFollow w "special-get-raises" true)) (fun w os b x0 x1 x2 x3 x4 x5 x6 x7 => by kernel_rfl) (fun w os b x0 x1 x2 x3 x4 x5 x6 x7 => by kernel_rfl)))
theorem L96 (w : World) (os : OsState) (b : List Stmt) (x0 x1 x2 x3 x4 x5 x6 x7 : FsD) : iGo PW w 10 ⟨TG5 w.params x0 x1 x2 x3 x4 x5 x6 x7 (fresh w) (q_100 w.params), 180, {}, #[.finished], {}, 566, os⟩ (⟨den (upC 178 179), upC 178 179, ⟨90, 32, 90, 47⟩, (st5 w os b x0 x1 x2 x3 x4 x5 x6 x7)⟩) = some (⟨TG5 w.params x0 x1 x2 x3 x4 x5 x6 x7 (fresh w) (q_101 w.params), 180, {}, #[.finished], {}, 567, os⟩, adT 178 [10] 566 (upC 178 179) ⟨90, 32, 90, 47⟩ (st5 w os b x0 x1 x2 x3 x4 x5 x6 x7)) := by kernel_rfl
noncomputable def so98 (w : World) (os : OsState) (b : List Stmt) (x0 x1 x2 x3 x4 x5 x6 x7 x8 : FsD) (q5 : Pos) : List Frame := stkOf (iGo PW (fx w) 33 ⟨TG5 w.params x0 x1 x2 x3 x4 x5 x6 x7 x8 (q_101 w.params), 180, {}, #[.finished], {}, 568, os⟩ (agT (upC 178 179) q5 (st5 w os b x0 x1 x2 x3 x4 x5 x6 x7)))
theorem L98 (w : World) (os : OsState) (b : List Stmt) (x0 x1 x2 x3 x4 x5 x6 x7 x8 : FsD) (q5 : Pos) : iGo PW w 33 ⟨TG5 w.params x0 x1 x2 x3 x4 x5 x6 x7 x8 (q_101 w.params), 180, {}, #[.finished], {}, 568, os⟩ (agT (upC 178 179) q5 (st5 w os b x0 x1 x2 x3 x4 x5 x6 x7)) = some (⟨T98 w.params x0 x1 x2 x3 x4 x5 x6 x7 x8, 182, {}, #[.finished], {}, 568, os⟩, ⟨.pure (.again (.builtin "frozenset.__or__" ⟨[.ref 174, .ref 178], []⟩)), .call (.builtin "frozenset.__or__") ⟨[.ref 174, .ref 178], []⟩, ⟨90, 22, 90, 47⟩, (so98 w os b x0 x1 x2 x3 x4 x5 x6 x7 x8 q5)⟩) := by kernel_rfl
theorem L100 (w : World) (os : OsState) (b : List Stmt) (x0 x1 x2 x3 x4 x5 x6 x7 x8 x9 : FsD) (q5 qo : Pos) : iGo PW w 9 ⟨T99 w.params x0 x1 x2 x3 x4 x5 x6 x7 x8 x9, 183, {}, #[.finished], {}, 568, os⟩ (⟨.pure (.done (.ret (.ref 182))), (.builtin "frozenset.__or__" ⟨[.ref 174, .ref 178], []⟩), qo, (so98 w os b x0 x1 x2 x3 x4 x5 x6 x7 x8 q5)⟩) = some (⟨T100 w.params x0 x1 x2 x3 x4 x5 x6 x7 x8 x9, 183, {}, #[.finished], {}, 569, os⟩, thS b 16 ⟨90, 0, 90, 19⟩) := by kernel_rfl
noncomputable def st6 (w : World) (os : OsState) (b : List Stmt) (x0 x1 x2 x3 x4 x5 x6 x7 x8 x9 : FsD) : List Frame := stkOf (iGo PW (fx w) 53 ⟨T100 w.params x0 x1 x2 x3 x4 x5 x6 x7 x8 x9, 183, {}, #[.finished], {}, 569, os⟩ (thS b 16 ⟨90, 0, 90, 19⟩))
noncomputable def Q_L101 (w : World) : Prop := ∀ (os : OsState) (b : List Stmt) (x0 x1 x2 x3 x4 x5 x6 x7 x8 x9 : FsD), iGo PW w 53 ⟨T100 w.params x0 x1 x2 x3 x4 x5 x6 x7 x8 x9, 183, {}, #[.finished], {}, 569, os⟩ (thS b 16 ⟨90, 0, 90, 19⟩) = some (⟨TG6 w.params x0 x1 x2 x3 x4 x5 x6 x7 x8 x9 (fresh w) (q_105 w.params), 185, {}, #[.finished], {}, 576, os⟩, ⟨den (upC 183 184), upC 183 184, ⟨93, 17, 93, 37⟩, (st6 w os b x0 x1 x2 x3 x4 x5 x6 x7 x8 x9)⟩)
theorem L101 : ∀ w : World, Q_L101 w := (byRow2 "special-get-raises" (P := fun w => Q_L101 w) (byRow2 "set-order" (P := fun w => Q_L101 (World.withFollow w "special-get-raises" false)) (fun w os b x0 x1 x2 x3 x4 x5 x6 x7 x8 x9 => by kernel_rfl) (fun w os b x0 x1 x2 x3 x4 x5 x6 x7 x8 x9 => by kernel_rfl)) (byRow2 "set-order" (P := fun w => Q_L101 (World.withFollow w "special-get-raises" true)) (fun w os b x0 x1 x2 x3 x4 x5 x6 x7 x8 x9 => by kernel_rfl) (fun w os b x0 x1 x2 x3 x4 x5 x6 x7 x8 x9 => by kernel_rfl)))
theorem L102 (w : World) (os : OsState) (b : List Stmt) (x0 x1 x2 x3 x4 x5 x6 x7 x8 x9 : FsD) : iGo PW w 10 ⟨TG6 w.params x0 x1 x2 x3 x4 x5 x6 x7 x8 x9 (fresh w) (q_105 w.params), 185, {}, #[.finished], {}, 576, os⟩ (⟨den (upC 183 184), upC 183 184, ⟨93, 17, 93, 37⟩, (st6 w os b x0 x1 x2 x3 x4 x5 x6 x7 x8 x9)⟩) = some (⟨TG6 w.params x0 x1 x2 x3 x4 x5 x6 x7 x8 x9 (fresh w) (q_106 w.params), 185, {}, #[.finished], {}, 577, os⟩, adT 183 [48] 576 (upC 183 184) ⟨93, 17, 93, 37⟩ (st6 w os b x0 x1 x2 x3 x4 x5 x6 x7 x8 x9)) := by kernel_rfl
theorem L104 (w : World) (os : OsState) (b : List Stmt) (x0 x1 x2 x3 x4 x5 x6 x7 x8 x9 x10 : FsD) (q : Pos) : iGo PW w 11 ⟨TG6 w.params x0 x1 x2 x3 x4 x5 x6 x7 x8 x9 x10 (q_106 w.params), 185, {}, #[.finished], {}, 578, os⟩ (agT (upC 183 184) q (st6 w os b x0 x1 x2 x3 x4 x5 x6 x7 x8 x9)) = some (⟨TG6 w.params x0 x1 x2 x3 x4 x5 x6 x7 x8 x9 x10 (q_107 w.params), 185, {}, #[.finished], {}, 579, os⟩, adT 183 [49] 578 (upC 183 184) q (st6 w os b x0 x1 x2 x3 x4 x5 x6 x7 x8 x9)) := by kernel_rfl
theorem L106 (w : World) (os : OsState) (b : List Stmt) (x0 x1 x2 x3 x4 x5 x6 x7 x8 x9 x10 : FsD) (q : Pos) : iGo PW w 11 ⟨TG6 w.params x0 x1 x2 x3 x4 x5 x6 x7 x8 x9 x10 (q_107 w.params), 185, {}, #[.finished], {}, 580, os⟩ (agT (upC 183 184) q (st6 w os b x0 x1 x2 x3 x4 x5 x6 x7 x8 x9)) = some (⟨TG6 w.params x0 x1 x2 x3 x4 x5 x6 x7 x8 x9 x10 (q_108 w.params), 185, {}, #[.finished], {}, 581, os⟩, adT 183 [50] 580 (upC 183 184) q (st6 w os b x0 x1 x2 x3 x4 x5 x6 x7 x8 x9)) := by kernel_rfl
theorem L108 (w : World) (os : OsState) (b : List Stmt) (x0 x1 x2 x3 x4 x5 x6 x7 x8 x9 x10 : FsD) (q : Pos) : iGo PW w 11 ⟨TG6 w.params x0 x1 x2 x3 x4 x5 x6 x7 x8 x9 x10 (q_108 w.params), 185, {}, #[.finished], {}, 582, os⟩ (agT (upC 183 184) q (st6 w os b x0 x1 x2 x3 x4 x5 x6 x7 x8 x9)) = some (⟨TG6 w.params x0 x1 x2 x3 x4 x5 x6 x7 x8 x9 x10 (q_109 w.params), 185, {}, #[.finished], {}, 583, os⟩, adT 183 [51] 582 (upC 183 184) q (st6 w os b x0 x1 x2 x3 x4 x5 x6 x7 x8 x9)) := by kernel_rfl
theorem L110 (w : World) (os : OsState) (b : List Stmt) (x0 x1 x2 x3 x4 x5 x6 x7 x8 x9 x10 : FsD) (q : Pos) : iGo PW w 11 ⟨TG6 w.params x0 x1 x2 x3 x4 x5 x6 x7 x8 x9 x10 (q_109 w.params), 185, {}, #[.finished], {}, 584, os⟩ (agT (upC 183 184) q (st6 w os b x0 x1 x2 x3 x4 x5 x6 x7 x8 x9)) = some (⟨TG6 w.params x0 x1 x2 x3 x4 x5 x6 x7 x8 x9 x10 (q_110 w.params), 185, {}, #[.finished], {}, 585, os⟩, adT 183 [52] 584 (upC 183 184) q (st6 w os b x0 x1 x2 x3 x4 x5 x6 x7 x8 x9)) := by kernel_rfl
theorem L112 (w : World) (os : OsState) (b : List Stmt) (x0 x1 x2 x3 x4 x5 x6 x7 x8 x9 x10 : FsD) (q : Pos) : iGo PW w 11 ⟨TG6 w.params x0 x1 x2 x3 x4 x5 x6 x7 x8 x9 x10 (q_110 w.params), 185, {}, #[.finished], {}, 586, os⟩ (agT (upC 183 184) q (st6 w os b x0 x1 x2 x3 x4 x5 x6 x7 x8 x9)) = some (⟨TG6 w.params x0 x1 x2 x3 x4 x5 x6 x7 x8 x9 x10 (q_111 w.params), 185, {}, #[.finished], {}, 587, os⟩, adT 183 [53] 586 (upC 183 184) q (st6 w os b x0 x1 x2 x3 x4 x5 x6 x7 x8 x9)) := by kernel_rfl
theorem L114 (w : World) (os : OsState) (b : List Stmt) (x0 x1 x2 x3 x4 x5 x6 x7 x8 x9 x10 : FsD) (q : Pos) : iGo PW w 11 ⟨TG6 w.params x0 x1 x2 x3 x4 x5 x6 x7 x8 x9 x10 (q_111 w.params), 185, {}, #[.finished], {}, 588, os⟩ (agT (upC 183 184) q (st6 w os b x0 x1 x2 x3 x4 x5 x6 x7 x8 x9)) = some (⟨TG6 w.params x0 x1 x2 x3 x4 x5 x6 x7 x8 x9 x10 (q_112 w.params), 185, {}, #[.finished], {}, 589, os⟩, adT 183 [54] 588 (upC 183 184) q (st6 w os b x0 x1 x2 x3 x4 x5 x6 x7 x8 x9)) := by kernel_rfl
theorem L116 (w : World) (os : OsState) (b : List Stmt) (x0 x1 x2 x3 x4 x5 x6 x7 x8 x9 x10 : FsD) (q : Pos) : iGo PW w 11 ⟨TG6 w.params x0 x1 x2 x3 x4 x5 x6 x7 x8 x9 x10 (q_112 w.params), 185, {}, #[.finished], {}, 590, os⟩ (agT (upC 183 184) q (st6 w os b x0 x1 x2 x3 x4 x5 x6 x7 x8 x9)) = some (⟨TG6 w.params x0 x1 x2 x3 x4 x5 x6 x7 x8 x9 x10 (q_113 w.params), 185, {}, #[.finished], {}, 591, os⟩, adT 183 [55] 590 (upC 183 184) q (st6 w os b x0 x1 x2 x3 x4 x5 x6 x7 x8 x9)) := by kernel_rfl
theorem L118 (w : World) (os : OsState) (b : List Stmt) (x0 x1 x2 x3 x4 x5 x6 x7 x8 x9 x10 : FsD) (q : Pos) : iGo PW w 11 ⟨TG6 w.params x0 x1 x2 x3 x4 x5 x6 x7 x8 x9 x10 (q_113 w.params), 185, {}, #[.finished], {}, 592, os⟩ (agT (upC 183 184) q (st6 w os b x0 x1 x2 x3 x4 x5 x6 x7 x8 x9)) = some (⟨TG6 w.params x0 x1 x2 x3 x4 x5 x6 x7 x8 x9 x10 (q_114 w.params), 185, {}, #[.finished], {}, 593, os⟩, adT 183 [56] 592 (upC 183 184) q (st6 w os b x0 x1 x2 x3 x4 x5 x6 x7 x8 x9)) := by kernel_rfl
theorem L120 (w : World) (os : OsState) (b : List Stmt) (x0 x1 x2 x3 x4 x5 x6 x7 x8 x9 x10 : FsD) (q : Pos) : iGo PW w 11 ⟨TG6 w.params x0 x1 x2 x3 x4 x5 x6 x7 x8 x9 x10 (q_114 w.params), 185, {}, #[.finished], {}, 594, os⟩ (agT (upC 183 184) q (st6 w os b x0 x1 x2 x3 x4 x5 x6 x7 x8 x9)) = some (⟨TG6 w.params x0 x1 x2 x3 x4 x5 x6 x7 x8 x9 x10 (q_115 w.params), 185, {}, #[.finished], {}, 595, os⟩, adT 183 [57] 594 (upC 183 184) q (st6 w os b x0 x1 x2 x3 x4 x5 x6 x7 x8 x9)) := by kernel_rfl
theorem L122 (w : World) (os : OsState) (b : List Stmt) (x0 x1 x2 x3 x4 x5 x6 x7 x8 x9 x10 : FsD) (q : Pos) : iGo PW w 11 ⟨TG6 w.params x0 x1 x2 x3 x4 x5 x6 x7 x8 x9 x10 (q_115 w.params), 185, {}, #[.finished], {}, 596, os⟩ (agT (upC 183 184) q (st6 w os b x0 x1 x2 x3 x4 x5 x6 x7 x8 x9)) = some (⟨TG6 w.params x0 x1 x2 x3 x4 x5 x6 x7 x8 x9 x10 (q_116 w.params), 185, {}, #[.finished], {}, 597, os⟩, adT 183 [97] 596 (upC 183 184) q (st6 w os b x0 x1 x2 x3 x4 x5 x6 x7 x8 x9)) := by kernel_rfl
theorem L124 (w : World) (os : OsState) (b : List Stmt) (x0 x1 x2 x3 x4 x5 x6 x7 x8 x9 x10 : FsD) (q : Pos) : iGo PW w 11 ⟨TG6 w.params x0 x1 x2 x3 x4 x5 x6 x7 x8 x9 x10 (q_116 w.params), 185, {}, #[.finished], {}, 598, os⟩ (agT (upC 183 184) q (st6 w os b x0 x1 x2 x3 x4 x5 x6 x7 x8 x9)) = some (⟨TG6 w.params x0 x1 x2 x3 x4 x5 x6 x7 x8 x9 x10 (q_117 w.params), 185, {}, #[.finished], {}, 599, os⟩, adT 183 [98] 598 (upC 183 184) q (st6 w os b x0 x1 x2 x3 x4 x5 x6 x7 x8 x9)) := by kernel_rfl
theorem L126 (w : World) (os : OsState) (b : List Stmt) (x0 x1 x2 x3 x4 x5 x6 x7 x8 x9 x10 : FsD) (q : Pos) : iGo PW w 11 ⟨TG6 w.params x0 x1 x2 x3 x4 x5 x6 x7 x8 x9 x10 (q_117 w.params), 185, {}, #[.finished], {}, 600, os⟩ (agT (upC 183 184) q (st6 w os b x0 x1 x2 x3 x4 x5 x6 x7 x8 x9)) = some (⟨TG6 w.params x0 x1 x2 x3 x4 x5 x6 x7 x8 x9 x10 (q_118 w.params), 185, {}, #[.finished], {}, 601, os⟩, adT 183 [99] 600 (upC 183 184) q (st6 w os b x0 x1 x2 x3 x4 x5 x6 x7 x8 x9)) := by kernel_rfl
theorem L128 (w : World) (os : OsState) (b : List Stmt) (x0 x1 x2 x3 x4 x5 x6 x7 x8 x9 x10 : FsD) (q : Pos) : iGo PW w 11 ⟨TG6 w.params x0 x1 x2 x3 x4 x5 x6 x7 x8 x9 x10 (q_118 w.params), 185, {}, #[.finished], {}, 602, os⟩ (agT (upC 183 184) q (st6 w os b x0 x1 x2 x3 x4 x5 x6 x7 x8 x9)) = some (⟨TG6 w.params x0 x1 x2 x3 x4 x5 x6 x7 x8 x9 x10 (q_119 w.params), 185, {}, #[.finished], {}, 603, os⟩, adT 183 [100] 602 (upC 183 184) q (st6 w os b x0 x1 x2 x3 x4 x5 x6 x7 x8 x9)) := by kernel_rfl
theorem L130 (w : World) (os : OsState) (b : List Stmt) (x0 x1 x2 x3 x4 x5 x6 x7 x8 x9 x10 : FsD) (q : Pos) : iGo PW w 11 ⟨TG6 w.params x0 x1 x2 x3 x4 x5 x6 x7 x8 x9 x10 (q_119 w.params), 185, {}, #[.finished], {}, 604, os⟩ (agT (upC 183 184) q (st6 w os b x0 x1 x2 x3 x4 x5 x6 x7 x8 x9)) = some (⟨TG6 w.params x0 x1 x2 x3 x4 x5 x6 x7 x8 x9 x10 (q_120 w.params), 185, {}, #[.finished], {}, 605, os⟩, adT 183 [101] 604 (upC 183 184) q (st6 w os b x0 x1 x2 x3 x4 x5 x6 x7 x8 x9)) := by kernel_rfl
theorem L132 (w : World) (os : OsState) (b : List Stmt) (x0 x1 x2 x3 x4 x5 x6 x7 x8 x9 x10 : FsD) (q : Pos) : iGo PW w 11 ⟨TG6 w.params x0 x1 x2 x3 x4 x5 x6 x7 x8 x9 x10 (q_120 w.params), 185, {}, #[.finished], {}, 606, os⟩ (agT (upC 183 184) q (st6 w os b x0 x1 x2 x3 x4 x5 x6 x7 x8 x9)) = some (⟨TG6 w.params x0 x1 x2 x3 x4 x5 x6 x7 x8 x9 x10 (q_121 w.params), 185, {}, #[.finished], {}, 607, os⟩, adT 183 [102] 606 (upC 183 184) q (st6 w os b x0 x1 x2 x3 x4 x5 x6 x7 x8 x9)) := by kernel_rfl
theorem L134 (w : World) (os : OsState) (b : List Stmt) (x0 x1 x2 x3 x4 x5 x6 x7 x8 x9 x10 : FsD) (q : Pos) : iGo PW w 11 ⟨TG6 w.params x0 x1 x2 x3 x4 x5 x6 x7 x8 x9 x10 (q_121 w.params), 185, {}, #[.finished], {}, 608, os⟩ (agT (upC 183 184) q (st6 w os b x0 x1 x2 x3 x4 x5 x6 x7 x8 x9)) = some (⟨TG6 w.params x0 x1 x2 x3 x4 x5 x6 x7 x8 x9 x10 (q_122 w.params), 185, {}, #[.finished], {}, 609, os⟩, adT 183 [65] 608 (upC 183 184) q (st6 w os b x0 x1 x2 x3 x4 x5 x6 x7 x8 x9)) := by kernel_rfl
theorem L136 (w : World) (os : OsState) (b : List Stmt) (x0 x1 x2 x3 x4 x5 x6 x7 x8 x9 x10 : FsD) (q : Pos) : iGo PW w 11 ⟨TG6 w.params x0 x1 x2 x3 x4 x5 x6 x7 x8 x9 x10 (q_122 w.params), 185, {}, #[.finished], {}, 610, os⟩ (agT (upC 183 184) q (st6 w os b x0 x1 x2 x3 x4 x5 x6 x7 x8 x9)) = some (⟨TG6 w.params x0 x1 x2 x3 x4 x5 x6 x7 x8 x9 x10 (q_123 w.params), 185, {}, #[.finished], {}, 611, os⟩, adT 183 [66] 610 (upC 183 184) q (st6 w os b x0 x1 x2 x3 x4 x5 x6 x7 x8 x9)) := by kernel_rfl
theorem L138 (w : World) (os : OsState) (b : List Stmt) (x0 x1 x2 x3 x4 x5 x6 x7 x8 x9 x10 : FsD) (q : Pos) : iGo PW w 11 ⟨TG6 w.params x0 x1 x2 x3 x4 x5 x6 x7 x8 x9 x10 (q_123 w.params), 185, {}, #[.finished], {}, 612, os⟩ (agT (upC 183 184) q (st6 w os b x0 x1 x2 x3 x4 x5 x6 x7 x8 x9)) = some (⟨TG6 w.params x0 x1 x2 x3 x4 x5 x6 x7 x8 x9 x10 (q_124 w.params), 185, {}, #[.finished], {}, 613, os⟩, adT 183 [67] 612 (upC 183 184) q (st6 w os b x0 x1 x2 x3 x4 x5 x6 x7 x8 x9)) := by kernel_rfl
theorem L140 (w : World) (os : OsState) (b : List Stmt) (x0 x1 x2 x3 x4 x5 x6 x7 x8 x9 x10 : FsD) (q : Pos) : iGo PW w 11 ⟨TG6 w.params x0 x1 x2 x3 x4 x5 x6 x7 x8 x9 x10 (q_124 w.params), 185, {}, #[.finished], {}, 614, os⟩ (agT (upC 183 184) q (st6 w os b x0 x1 x2 x3 x4 x5 x6 x7 x8 x9)) = some (⟨TG6 w.params x0 x1 x2 x3 x4 x5 x6 x7 x8 x9 x10 (q_125 w.params), 185, {}, #[.finished], {}, 615, os⟩, adT 183 [68] 614 (upC 183 184) q (st6 w os b x0 x1 x2 x3 x4 x5 x6 x7 x8 x9)) := by kernel_rfl
theorem L142 (w : World) (os : OsState) (b : List Stmt) (x0 x1 x2 x3 x4 x5 x6 x7 x8 x9 x10 : FsD) (q : Pos) : iGo PW w 11 ⟨TG6 w.params x0 x1 x2 x3 x4 x5 x6 x7 x8 x9 x10 (q_125 w.params), 185, {}, #[.finished], {}, 616, os⟩ (agT (upC 183 184) q (st6 w os b x0 x1 x2 x3 x4 x5 x6 x7 x8 x9)) = some (⟨TG6 w.params x0 x1 x2 x3 x4 x5 x6 x7 x8 x9 x10 (q_126 w.params), 185, {}, #[.finished], {}, 617, os⟩, adT 183 [69] 616 (upC 183 184) q (st6 w os b x0 x1 x2 x3 x4 x5 x6 x7 x8 x9)) := by kernel_rfl
theorem L144 (w : World) (os : OsState) (b : List Stmt) (x0 x1 x2 x3 x4 x5 x6 x7 x8 x9 x10 : FsD) (q : Pos) : iGo PW w 11 ⟨TG6 w.params x0 x1 x2 x3 x4 x5 x6 x7 x8 x9 x10 (q_126 w.params), 185, {}, #[.finished], {}, 618, os⟩ (agT (upC 183 184) q (st6 w os b x0 x1 x2 x3 x4 x5 x6 x7 x8 x9)) = some (⟨TG6 w.params x0 x1 x2 x3 x4 x5 x6 x7 x8 x9 x10 (q_127 w.params), 185, {}, #[.finished], {}, 619, os⟩, adT 183 [70] 618 (upC 183 184) q (st6 w os b x0 x1 x2 x3 x4 x5 x6 x7 x8 x9)) := by kernel_rfl
theorem L146 (w : World) (os : OsState) (b : List Stmt) (x0 x1 x2 x3 x4 x5 x6 x7 x8 x9 x10 : FsD) (q6 : Pos) : iGo PW w 34 ⟨TG6 w.params x0 x1 x2 x3 x4 x5 x6 x7 x8 x9 x10 (q_127 w.params), 185, {}, #[.finished], {}, 620, os⟩ (agT (upC 183 184) q6 (st6 w os b x0 x1 x2 x3 x4 x5 x6 x7 x8 x9)) = some (⟨T146 w.params x0 x1 x2 x3 x4 x5 x6 x7 x8 x9 x10, 187, {}, #[.finished], {}, 621, os⟩, thS b 19 ⟨93, 0, 93, 14⟩) := by kernel_rfl
noncomputable def Q_L147 (w : World) : Prop := ∀ (os : OsState) (b : List Stmt) (x0 x1 x2 x3 x4 x5 x6 x7 x8 x9 x10 : FsD), iGo PW w 190 ⟨T146 w.params x0 x1 x2 x3 x4 x5 x6 x7 x8 x9 x10, 187, {}, #[.finished], {}, 621, os⟩ (thS b 19 ⟨93, 0, 93, 14⟩) = some (⟨T147 w.params x0 x1 x2 x3 x4 x5 x6 x7 x8 x9 x10, 190, {}, #[.finished], {}, 649, os⟩, thS b 23 ⟨97, 0, 97, 29⟩)
theorem L147 : ∀ w : World, Q_L147 w := (byRow2 "special-get-raises" (P := fun w => Q_L147 w) (fun w os b x0 x1 x2 x3 x4 x5 x6 x7 x8 x9 x10 => by kernel_rfl) (fun w os b x0 x1 x2 x3 x4 x5 x6 x7 x8 x9 x10 => by kernel_rfl))
theorem L148 (w : World) (os : OsState) (b : List Stmt) (x0 x1 x2 x3 x4 x5 x6 x7 x8 x9 x10 : FsD) : iGo PW w 186 ⟨T147 w.params x0 x1 x2 x3 x4 x5 x6 x7 x8 x9 x10, 190, {}, #[.finished], {}, 649, os⟩ (thS b 23 ⟨97, 0, 97, 29⟩) = some (⟨T148 w.params x0 x1 x2 x3 x4 x5 x6 x7 x8 x9 x10, 203, {}, #[.finished], {}, 667, os⟩, thS b 24 ⟨98, 0, 99, 8⟩) := by kernel_rfl
theorem L149 (w : World) (os : OsState) (b : List Stmt) (x0 x1 x2 x3 x4 x5 x6 x7 x8 x9 x10 : FsD) : iGo PW w 133 ⟨T148 w.params x0 x1 x2 x3 x4 x5 x6 x7 x8 x9 x10, 203, {}, #[.finished], {}, 667, os⟩ (thS b 24 ⟨98, 0, 99, 8⟩) = some (⟨T149 w.params x0 x1 x2 x3 x4 x5 x6 x7 x8 x9 x10, 232, {}, #[.finished], {}, 708, os⟩, thS b 28 ⟨142, 0, 143, 59⟩) := by kernel_rfl
theorem L150 (w : World) (os : OsState) (b : List Stmt) (x0 x1 x2 x3 x4 x5 x6 x7 x8 x9 x10 : FsD) : iGo PW w 165 ⟨T149 w.params x0 x1 x2 x3 x4 x5 x6 x7 x8 x9 x10, 232, {}, #[.finished], {}, 708, os⟩ (thS b 28 ⟨142, 0, 143, 59⟩) = some (⟨T150 w.params x0 x1 x2 x3 x4 x5 x6 x7 x8 x9 x10, 267, {}, #[.finished], {}, 763, os⟩, thS b 33 ⟨214, 0, 215, 67⟩) := by kernel_rfl
theorem L151 (w : World) (os : OsState) (b : List Stmt) (x0 x1 x2 x3 x4 x5 x6 x7 x8 x9 x10 : FsD) : iGo PW w 146 ⟨T150 w.params x0 x1 x2 x3 x4 x5 x6 x7 x8 x9 x10, 267, {}, #[.finished], {}, 763, os⟩ (thS b 33 ⟨214, 0, 215, 67⟩) = some (⟨T151 w.params x0 x1 x2 x3 x4 x5 x6 x7 x8 x9 x10, 295, {}, #[.finished], {}, 814, os⟩, thS b 38 ⟨243, 0, 258, 24⟩) := by kernel_rfl
theorem L152 (w : World) (os : OsState) (b : List Stmt) (x0 x1 x2 x3 x4 x5 x6 x7 x8 x9 x10 : FsD) : iGo PW w 190 ⟨T151 w.params x0 x1 x2 x3 x4 x5 x6 x7 x8 x9 x10, 295, {}, #[.finished], {}, 814, os⟩ (thS b 38 ⟨243, 0, 258, 24⟩) = some (⟨T152 w.params x0 x1 x2 x3 x4 x5 x6 x7 x8 x9 x10, 333, {}, #[.finished], {}, 876, os⟩, thS b 44 ⟨294, 0, 297, 69⟩) := by kernel_rfl
theorem Lfin (w : World) (os : OsState) (b : List Stmt) (x0 x1 x2 x3 x4 x5 x6 x7 x8 x9 x10 : FsD) : iGo PW w 1 ⟨T152 w.params x0 x1 x2 x3 x4 x5 x6 x7 x8 x9 x10, 333, {}, #[.finished], {}, 876, os⟩ (thS b 44 ⟨294, 0, 297, 69⟩) = some (⟨T152 w.params x0 x1 x2 x3 x4 x5 x6 x7 x8 x9 x10, 333, {}, #[.finished], {}, 876, os⟩, ⟨.pure (.done (.ret .none)), .builtin "claim.caller" {}, pz, []⟩) := by kernel_rfl
end
-- HdOps
section
variable {prog : Program} {w : World}
noncomputable abbrev kL (l : List (List Nat)) : List Str := l.map fun c => ⟨c.toArray⟩
theorem entry_or : entryFor table "frozenset.__or__" = some Builtin.«frozenset.__or__» := entryFor_of_tree (by kernel_rfl)
theorem entry_sub : entryFor table "frozenset.__sub__" = some Builtin.«frozenset.__sub__» := entryFor_of_tree (by kernel_rfl)
theorem Good.of_eq {x : FsD} {l l' : List Str} (G : Good w x l) (e : l = l') : Good w x l' := e ▸ G
section
variable {T : BT} {T' : FsD → BT} {n : Nat} {life : Life} {gens : Array GenState} {drawn : Drawn} {toks : Nat} {os : OsState} {a b : Addr} {x y : FsD} {l lb : List Str} {k : Str} {c₀ : Code} {p : Pos} {st : List Frame}
theorem get_abs (h : Nat.blt a n = true) (g : T.get a = some (fsO x)) : (SharedT.mk T n life gens drawn toks os).abs.heap.get? a = some (fsO x) := by
  show (absHeap T n life).get? a = _
  rw [abs_get (Nat.le_of_ble_eq_true h) g]
  rfl
theorem push_abs (hT : ∀ x', T.ins n (fsO x') = T' x') (hi : ∀ x', ((T.ins n (fsO x')).get n).isSome = true) (x' : FsD) :
    ({ (SharedT.mk T n life gens drawn toks os).abs with heap := (SharedT.mk T n life gens drawn toks os).abs.heap.push (fsO x') } : Shared) = (SharedT.mk (T' x') (n + 1) life gens drawn toks os).abs := by
  show Shared.mk _ _ _ _ _ = Shared.mk _ _ _ _ _
  rw [← hT x']
  show Shared.mk ((absHeap T n life).push (fsO x')) _ _ _ _ = Shared.mk (absHeap (T.ins n (fsO x')) (n + 1) life) _ _ _ _
  rw [absHeap_ins (hi x')]
  rfl
theorem size_abs : (SharedT.mk T n life gens drawn toks os).abs.heap.objs.size = n := absHeap_size T n life
theorem den_of {id : String} {args : Args} {b : Builtin} (hb : entryFor table id = some b) : denote table (.builtin id args) = b args := by
  show (match entryFor table id with | some b => b args | none => unsupported ((withoutEnding? id "#data").getD id)) = _
  rw [hb]
theorem quiet_or : plainId "frozenset.__or__" = true := by decide +kernel
theorem quiet_sub : plainId "frozenset.__sub__" = true := by decide +kernel
theorem again_comes {s : Shared} {c c₀ : Code} (hq : c.quiet = true) : Comes (model prog w) s ⟨.pure (.again c), c₀, p, st⟩ s ⟨denote table c, c, p, st⟩ :=
  Comes.step (M := model prog w) (PySem.step_again (model prog w) s c₀ p st c hq) (Comes.refl _ _)
theorem or_comes (hT : ∀ x', T.ins n (fsO x') = T' x') (hi : ∀ x', ((T.ins n (fsO x')).get n).isSome = true) (ha : T.get a = some (fsO x)) (hb : T.get b = some (fsO y)) (hla : Nat.blt a n = true) (hlb : Nat.blt b n = true) (hne : Nat.beq a b = false)
    (G : Good w x l) (Gb : Good w y [k]) (hk : l.contains k = false) (h1 : l.length = 32 ∨ l.length = 2) :
    ∃ x' p', Good w x' (l ++ [k]) ∧ Comes (model prog w) (SharedT.mk T n life gens drawn toks os).abs ⟨.pure (.again (.builtin "frozenset.__or__" ⟨[.ref a, .ref b], []⟩)), c₀, p, st⟩
      (SharedT.mk (T' x') (n + 1) life gens drawn toks os).abs ⟨.pure (.done (.ret (.ref n))), .builtin "frozenset.__or__" ⟨[.ref a, .ref b], []⟩, p', st⟩ := by
  obtain ⟨s', p', f, hc, x', G', rfl, rfl⟩ := comes_of_wp (prog := prog) (w := w) (t := denote table (.builtin "frozenset.__or__" ⟨[.ref a, .ref b], []⟩))
    (Q := fun f s' => ∃ x', Good w x' (l ++ [k]) ∧ f = .done (.ret (.ref n)) ∧ s' = (SharedT.mk (T' x') (n + 1) life gens drawn toks os).abs)
    (s := (SharedT.mk T n life gens drawn toks os).abs) (c := .builtin "frozenset.__or__" ⟨[.ref a, .ref b], []⟩) (p := p) (st := st) (fun A => by
      rw [den_of entry_or]
      refine wp_or (Nat.ne_of_beq_eq_false hne) (get_abs hla ha) (get_abs hlb hb) G Gb (fun q => by rw [← List.contains_iff_mem, hk] at q; cases q) h1 fun x' G' => ⟨x', G', ?_, push_abs hT hi x'⟩
      rw [size_abs])
  exact ⟨x', p', G', (again_comes (plainId_quiet quiet_or _)).trans hc⟩
theorem sub_comes (hT : ∀ x', T.ins n (fsO x') = T' x') (hi : ∀ x', ((T.ins n (fsO x')).get n).isSome = true) (ha : T.get a = some (fsO x)) (hb : T.get b = some (fsO y)) (hla : Nat.blt a n = true) (hlb : Nat.blt b n = true) (hne : Nat.beq a b = false)
    (G : Good w x l) (Gb : Good w y lb) (hin : lb.all l.contains = true) (hnd : lb.Nodup) (h1 : l.length = 33) (h2 : lb.length ≤ 2) :
    ∃ x' p', Good w x' (eraseAll l lb) ∧ Comes (model prog w) (SharedT.mk T n life gens drawn toks os).abs ⟨.pure (.again (.builtin "frozenset.__sub__" ⟨[.ref a, .ref b], []⟩)), c₀, p, st⟩
      (SharedT.mk (T' x') (n + 1) life gens drawn toks os).abs ⟨.pure (.done (.ret (.ref n))), .builtin "frozenset.__sub__" ⟨[.ref a, .ref b], []⟩, p', st⟩ := by
  obtain ⟨s', p', f, hc, x', G', rfl, rfl⟩ := comes_of_wp (prog := prog) (w := w) (t := denote table (.builtin "frozenset.__sub__" ⟨[.ref a, .ref b], []⟩))
    (Q := fun f s' => ∃ x', Good w x' (eraseAll l lb) ∧ f = .done (.ret (.ref n)) ∧ s' = (SharedT.mk (T' x') (n + 1) life gens drawn toks os).abs)
    (s := (SharedT.mk T n life gens drawn toks os).abs) (c := .builtin "frozenset.__sub__" ⟨[.ref a, .ref b], []⟩) (p := p) (st := st) (fun A => by
      rw [den_of entry_sub]
      refine wp_sub (Nat.ne_of_beq_eq_false hne) (get_abs hla ha) (get_abs hlb hb) G Gb (fun k hk => List.contains_iff_mem.mp (List.all_eq_true.mp hin k hk)) hnd h1 h2 fun x' G' => ⟨x', G', ?_, push_abs hT hi x'⟩
      rw [size_abs])
  exact ⟨x', p', G', (again_comes (plainId_quiet quiet_sub _)).trans hc⟩
end
end
-- HdChain
section
set_option maxRecDepth 100000
set_option maxHeartbeats 8000000
/-- under a run of adds: somewhere the set holds l and the next name k is at hand -/
noncomputable def RD (w : World) (S0 : Shared) (th0 : Thread) (T : FsD → BT) (n : Nat) (gens : Array GenState) (toks : Nat) (os : OsState) (a : Addr) (k : List Nat) (tk : Tok) (c : Code) (st : List Frame) (l : List Str) : Prop :=
  ∃ x q, Good w x l ∧ Comes (model PW w) S0 th0 (SharedT.mk (T x) n {} gens {} toks os).abs (adT a k tk c q st)
theorem add_round {w : World} {S0 : Shared} {th0 : Thread} {T T' : FsD → BT} {n toks toks' N : Nat} {gens : Array GenState} {os : OsState} {a : Addr} {k k' : List Nat} {tk tk' : Tok} {c : Code} {st : List Frame} {l : List Str}
    (h : RD w S0 th0 T n gens toks os a k tk c st l) (hn : Nat.blt a n = true) (hg : ∀ x, (T x).get a = some (fsO x)) (hs : ∀ x x', (T x).set a (fun _ => fsO x') = T x') (hk : l.contains ⟨k.toArray⟩ = false) (hl : Nat.blt l.length 100 = true)
    (L : ∀ x q, iGo PW w N ⟨T x, n, {}, gens, {}, toks + 1, os⟩ (agT c q st) = some (⟨T' x, n, {}, gens, {}, toks', os⟩, adT a k' tk' c q st)) : RD w S0 th0 T' n gens toks' os a k' tk' c st (l ++ [⟨k.toArray⟩]) := by
  obtain ⟨x, q, G, C⟩ := h
  obtain ⟨x', q', G', d⟩ := add_comes (prog := PW) (w := w) (T := T) (n := n) (life := {}) (gens := gens) (drawn := {}) (toks := toks) (os := os) (a := a) (c := c) (p := q) (st := st) (tk := tk) (k := ⟨k.toArray⟩) hn hg hs G hk hl
  exact ⟨x', q', G', C.trans (d.trans (iGo_comes (L x' q')))⟩
theorem R0 (w : World) (os : OsState) (b : List Stmt) : Comes (model PW w) (SharedT.mk (T0 w.params) (15) ({}) (#[]) ({}) (187) (os)).abs (thS b 0 pz) (SharedT.mk (T1 w.params) (59) ({}) (#[]) ({}) (253) (os)).abs (thS b 8 ⟨16, 0, 16, 14⟩) := by
  have c0 := iGo_comes (L1 w os b)
  exact c0
theorem R1 (w : World) (os : OsState) (b : List Stmt) : Comes (model PW w) (SharedT.mk (T1 w.params) (59) ({}) (#[]) ({}) (253) (os)).abs (thS b 8 ⟨16, 0, 16, 14⟩) (SharedT.mk (T2 w.params) (147) ({}) (#[]) ({}) (402) (os)).abs (thS b 9 ⟨17, 0, 83, 16⟩) := by
  have c1 := iGo_comes (L2 w os b)
  exact c1
theorem R2 (w : World) (os : OsState) (b : List Stmt) : Comes (model PW w) (SharedT.mk (T2 w.params) (147) ({}) (#[]) ({}) (402) (os)).abs (thS b 9 ⟨17, 0, 83, 16⟩) (SharedT.mk (T3 w.params) (147) ({}) (#[]) ({}) (404) (os)).abs (thS b 10 ⟨84, 0, 84, 8⟩) := by
  have c2 := iGo_comes (L3 w os b)
  exact c2
theorem R3 (w : World) (os : OsState) (b : List Stmt) : ∃ x0 : FsD, ∃ x1 : FsD, ∃ x2 : FsD, Good w x0 (kL [[0], [1], [2], [3], [4], [5], [6], [7], [8], [9], [10], [11], [12], [13], [14], [15], [16], [17], [18], [19], [20], [21], [22], [23], [24], [25], [26], [27], [28], [29], [30], [31]]) ∧ Good w x1 (kL [[127]]) ∧ Good w x2 (kL [[0], [1], [2], [3], [4], [5], [6], [7], [8], [9], [10], [11], [12], [13], [14], [15], [16], [17], [18], [19], [20], [21], [22], [23], [24], [25], [26], [27], [28], [29], [30], [31], [127]]) ∧ Comes (model PW w) (SharedT.mk (T3 w.params) (147) ({}) (#[]) ({}) (404) (os)).abs (thS b 10 ⟨84, 0, 84, 8⟩) (SharedT.mk (T74 w.params x0 x1 x2) (164) ({}) (#[.finished]) ({}) (548) (os)).abs (thS b 11 ⟨85, 0, 85, 10⟩) := by
  have c3 := iGo_comes (L4 w os b)
  have c4 := iGo_comes (L5 w os b)
  have r0 : RD w _ _ (fun y => TG0 w.params y (q_13 w.params) (q_14 w.params)) 155 ((gK w os b)) 418 os 154 [0] 417 (upC 154 153) ((st0 w os b)) [] := ⟨_, _, good_fresh w, c3.trans c4⟩
  obtain ⟨x0_30, q0_30, gx0_30, cR⟩ := (add_round (add_round (add_round (add_round (add_round (add_round (add_round (add_round (add_round (add_round (add_round (add_round (add_round (add_round (add_round (add_round (add_round (add_round (add_round (add_round (add_round (add_round (add_round (add_round (add_round (add_round (add_round (add_round (add_round (add_round (add_round r0 rfl (fun y => TG0_get _  (q_13 w.params) (q_14 w.params) y) (fun y y' => TG0_set _  (q_13 w.params) (q_14 w.params) y y') (by kernel_rfl) (by kernel_rfl) (L7 w os b)) rfl (fun y => TG0_get _  (q_15 w.params) (q_16 w.params) y) (fun y y' => TG0_set _  (q_15 w.params) (q_16 w.params) y y') (by kernel_rfl) (by kernel_rfl) (L9 w os b)) rfl (fun y => TG0_get _  (q_17 w.params) (q_18 w.params) y) (fun y y' => TG0_set _  (q_17 w.params) (q_18 w.params) y y') (by kernel_rfl) (by kernel_rfl) (L11 w os b)) rfl (fun y => TG0_get _  (q_19 w.params) (q_20 w.params) y) (fun y y' => TG0_set _  (q_19 w.params) (q_20 w.params) y y') (by kernel_rfl) (by kernel_rfl) (L13 w os b)) rfl (fun y => TG0_get _  (q_21 w.params) (q_22 w.params) y) (fun y y' => TG0_set _  (q_21 w.params) (q_22 w.params) y y') (by kernel_rfl) (by kernel_rfl) (L15 w os b)) rfl (fun y => TG0_get _  (q_23 w.params) (q_24 w.params) y) (fun y y' => TG0_set _  (q_23 w.params) (q_24 w.params) y y') (by kernel_rfl) (by kernel_rfl) (L17 w os b)) rfl (fun y => TG0_get _  (q_25 w.params) (q_26 w.params) y) (fun y y' => TG0_set _  (q_25 w.params) (q_26 w.params) y y') (by kernel_rfl) (by kernel_rfl) (L19 w os b)) rfl (fun y => TG0_get _  (q_27 w.params) (q_28 w.params) y) (fun y y' => TG0_set _  (q_27 w.params) (q_28 w.params) y y') (by kernel_rfl) (by kernel_rfl) (L21 w os b)) rfl (fun y => TG0_get _  (q_29 w.params) (q_30 w.params) y) (fun y y' => TG0_set _  (q_29 w.params) (q_30 w.params) y y') (by kernel_rfl) (by kernel_rfl) (L23 w os b)) rfl (fun y => TG0_get _  (q_31 w.params) (q_32 w.params) y) (fun y y' => TG0_set _  (q_31 w.params) (q_32 w.params) y y') (by kernel_rfl) (by kernel_rfl) (L25 w os b)) rfl (fun y => TG0_get _  (q_33 w.params) (q_34 w.params) y) (fun y y' => TG0_set _  (q_33 w.params) (q_34 w.params) y y') (by kernel_rfl) (by kernel_rfl) (L27 w os b)) rfl (fun y => TG0_get _  (q_35 w.params) (q_36 w.params) y) (fun y y' => TG0_set _  (q_35 w.params) (q_36 w.params) y y') (by kernel_rfl) (by kernel_rfl) (L29 w os b)) rfl (fun y => TG0_get _  (q_37 w.params) (q_38 w.params) y) (fun y y' => TG0_set _  (q_37 w.params) (q_38 w.params) y y') (by kernel_rfl) (by kernel_rfl) (L31 w os b)) rfl (fun y => TG0_get _  (q_39 w.params) (q_40 w.params) y) (fun y y' => TG0_set _  (q_39 w.params) (q_40 w.params) y y') (by kernel_rfl) (by kernel_rfl) (L33 w os b)) rfl (fun y => TG0_get _  (q_41 w.params) (q_42 w.params) y) (fun y y' => TG0_set _  (q_41 w.params) (q_42 w.params) y y') (by kernel_rfl) (by kernel_rfl) (L35 w os b)) rfl (fun y => TG0_get _  (q_43 w.params) (q_44 w.params) y) (fun y y' => TG0_set _  (q_43 w.params) (q_44 w.params) y y') (by kernel_rfl) (by kernel_rfl) (L37 w os b)) rfl (fun y => TG0_get _  (q_45 w.params) (q_46 w.params) y) (fun y y' => TG0_set _  (q_45 w.params) (q_46 w.params) y y') (by kernel_rfl) (by kernel_rfl) (L39 w os b)) rfl (fun y => TG0_get _  (q_47 w.params) (q_48 w.params) y) (fun y y' => TG0_set _  (q_47 w.params) (q_48 w.params) y y') (by kernel_rfl) (by kernel_rfl) (L41 w os b)) rfl (fun y => TG0_get _  (q_49 w.params) (q_50 w.params) y) (fun y y' => TG0_set _  (q_49 w.params) (q_50 w.params) y y') (by kernel_rfl) (by kernel_rfl) (L43 w os b)) rfl (fun y => TG0_get _  (q_51 w.params) (q_52 w.params) y) (fun y y' => TG0_set _  (q_51 w.params) (q_52 w.params) y y') (by kernel_rfl) (by kernel_rfl) (L45 w os b)) rfl (fun y => TG0_get _  (q_53 w.params) (q_54 w.params) y) (fun y y' => TG0_set _  (q_53 w.params) (q_54 w.params) y y') (by kernel_rfl) (by kernel_rfl) (L47 w os b)) rfl (fun y => TG0_get _  (q_55 w.params) (q_56 w.params) y) (fun y y' => TG0_set _  (q_55 w.params) (q_56 w.params) y y') (by kernel_rfl) (by kernel_rfl) (L49 w os b)) rfl (fun y => TG0_get _  (q_57 w.params) (q_58 w.params) y) (fun y y' => TG0_set _  (q_57 w.params) (q_58 w.params) y y') (by kernel_rfl) (by kernel_rfl) (L51 w os b)) rfl (fun y => TG0_get _  (q_59 w.params) (q_60 w.params) y) (fun y y' => TG0_set _  (q_59 w.params) (q_60 w.params) y y') (by kernel_rfl) (by kernel_rfl) (L53 w os b)) rfl (fun y => TG0_get _  (q_61 w.params) (q_62 w.params) y) (fun y y' => TG0_set _  (q_61 w.params) (q_62 w.params) y y') (by kernel_rfl) (by kernel_rfl) (L55 w os b)) rfl (fun y => TG0_get _  (q_63 w.params) (q_64 w.params) y) (fun y y' => TG0_set _  (q_63 w.params) (q_64 w.params) y y') (by kernel_rfl) (by kernel_rfl) (L57 w os b)) rfl (fun y => TG0_get _  (q_65 w.params) (q_66 w.params) y) (fun y y' => TG0_set _  (q_65 w.params) (q_66 w.params) y y') (by kernel_rfl) (by kernel_rfl) (L59 w os b)) rfl (fun y => TG0_get _  (q_67 w.params) (q_68 w.params) y) (fun y y' => TG0_set _  (q_67 w.params) (q_68 w.params) y y') (by kernel_rfl) (by kernel_rfl) (L61 w os b)) rfl (fun y => TG0_get _  (q_69 w.params) (q_70 w.params) y) (fun y y' => TG0_set _  (q_69 w.params) (q_70 w.params) y y') (by kernel_rfl) (by kernel_rfl) (L63 w os b)) rfl (fun y => TG0_get _  (q_71 w.params) (q_72 w.params) y) (fun y y' => TG0_set _  (q_71 w.params) (q_72 w.params) y y') (by kernel_rfl) (by kernel_rfl) (L65 w os b)) rfl (fun y => TG0_get _  (q_73 w.params) (q_74 w.params) y) (fun y y' => TG0_set _  (q_73 w.params) (q_74 w.params) y y') (by kernel_rfl) (by kernel_rfl) (L67 w os b))
  obtain ⟨x0_31, q0_31, gx0_31, d67⟩ := add_comes (prog := PW) (w := w) (T := fun y => TG0 w.params y (q_75 w.params) (q_76 w.params)) (n := 155) (life := {}) (gens := (gK w os b)) (drawn := {}) (toks := 542) (os := os) (a := 154) (c := upC 154 153) (p := q0_30) (st := (st0 w os b)) (tk := 541) (k := ⟨([31] : List Nat).toArray⟩) rfl (fun y => TG0_get _  (q_75 w.params) (q_76 w.params) y) (fun y y' => TG0_set _  (q_75 w.params) (q_76 w.params) y y') gx0_30 (by kernel_rfl) (by kernel_rfl)
  have g_x0 : Good w x0_31 (kL [[0], [1], [2], [3], [4], [5], [6], [7], [8], [9], [10], [11], [12], [13], [14], [15], [16], [17], [18], [19], [20], [21], [22], [23], [24], [25], [26], [27], [28], [29], [30], [31]]) := gx0_31.of_eq (by kernel_rfl)
  have ex_x0 : ∃ z, z = x0_31 := ⟨_, rfl⟩
  obtain ⟨x0, e_x0⟩ := ex_x0
  subst e_x0
  have exq0 : ∃ z, z = q0_31 := ⟨_, rfl⟩
  obtain ⟨q0, eq0⟩ := exq0
  subst eq0
  have c68 := iGo_comes (L69 w os b x0 q0)
  have c69 := iGo_comes (L70 w os b x0 q0)
  obtain ⟨x1_0, q1_0, gx1_0, d70⟩ := add_comes (prog := PW) (w := w) (T := fun y => TG1 w.params x0 y (q_80 w.params)) (n := 161) (life := {}) (gens := #[.finished]) (drawn := {}) (toks := 546) (os := os) (a := 159) (c := upC 159 160) (p := ⟨85, 54, 85, 73⟩) (st := (st1 w os b x0 q0)) (tk := 545) (k := ⟨([127] : List Nat).toArray⟩) rfl (fun y => TG1_get _ x0  (q_80 w.params) y) (fun y y' => TG1_set _ x0  (q_80 w.params) y y') (good_fresh w) (by kernel_rfl) (by kernel_rfl)
  have g_x1 : Good w x1_0 (kL [[127]]) := gx1_0.of_eq (by kernel_rfl)
  have ex_x1 : ∃ z, z = x1_0 := ⟨_, rfl⟩
  obtain ⟨x1, e_x1⟩ := ex_x1
  subst e_x1
  have exq1 : ∃ z, z = q1_0 := ⟨_, rfl⟩
  obtain ⟨q1, eq1⟩ := exq1
  subst eq1
  have c71 := iGo_comes (L72 w os b x0 x1 q0 q1)
  obtain ⟨x2, qo, gx2_r, d72⟩ := or_comes (prog := PW) (w := w) (T := T72 w.params x0 x1) (T' := fun z => T73 w.params x0 x1 z) (n := 163) (life := {}) (gens := #[.finished]) (drawn := {}) (toks := 547) (os := os) (a := 154) (b := 159) (p := ⟨85, 13, 85, 73⟩) (st := (so72 w os b x0 x1 q0 q1)) (c₀ := .call (.builtin "frozenset.__or__") ⟨[.ref 154, .ref 159], []⟩) (fun z => by kernel_rfl) (fun z => by kernel_rfl) (x := x0) (y := x1) (by kernel_rfl) (by kernel_rfl) rfl rfl rfl g_x0 g_x1 (by kernel_rfl) (.inl rfl)
  have g_x2 : Good w x2 (kL [[0], [1], [2], [3], [4], [5], [6], [7], [8], [9], [10], [11], [12], [13], [14], [15], [16], [17], [18], [19], [20], [21], [22], [23], [24], [25], [26], [27], [28], [29], [30], [31], [127]]) := gx2_r.of_eq (by kernel_rfl)
  have c73 := iGo_comes (L74 w os b x0 x1 x2 q0 q1 qo)
  exact ⟨x0, x1, x2, g_x0, g_x1, g_x2, cR.trans (d67.trans (c68.trans (c69.trans (d70.trans (c71.trans (d72.trans (c73)))))))⟩
theorem R4 (w : World) (os : OsState) (b : List Stmt) (x0 x1 x2 : FsD) (g_x2 : Good w x2 (kL [[0], [1], [2], [3], [4], [5], [6], [7], [8], [9], [10], [11], [12], [13], [14], [15], [16], [17], [18], [19], [20], [21], [22], [23], [24], [25], [26], [27], [28], [29], [30], [31], [127]])) : ∃ x3 : FsD, ∃ x4 : FsD, Good w x3 (kL [[9]]) ∧ Good w x4 (kL [[0], [1], [2], [3], [4], [5], [6], [7], [8], [10], [11], [12], [13], [14], [15], [16], [17], [18], [19], [20], [21], [22], [23], [24], [25], [26], [27], [28], [29], [30], [31], [127]]) ∧ Comes (model PW w) (SharedT.mk (T74 w.params x0 x1 x2) (164) ({}) (#[.finished]) ({}) (548) (os)).abs (thS b 11 ⟨85, 0, 85, 10⟩) (SharedT.mk (T80 w.params x0 x1 x2 x3 x4) (169) ({}) (#[.finished]) ({}) (552) (os)).abs (thS b 12 ⟨86, 0, 86, 23⟩) := by
  have c74 := iGo_comes (L75 w os b x0 x1 x2)
  have c75 := iGo_comes (L76 w os b x0 x1 x2)
  obtain ⟨x3_0, q2_0, gx3_0, d76⟩ := add_comes (prog := PW) (w := w) (T := fun y => TG2 w.params x0 x1 x2 y (q_85 w.params)) (n := 166) (life := {}) (gens := #[.finished]) (drawn := {}) (toks := 550) (os := os) (a := 164) (c := upC 164 165) (p := ⟨86, 39, 86, 54⟩) (st := (st2 w os b x0 x1 x2)) (tk := 549) (k := ⟨([9] : List Nat).toArray⟩) rfl (fun y => TG2_get _ x0 x1 x2  (q_85 w.params) y) (fun y y' => TG2_set _ x0 x1 x2  (q_85 w.params) y y') (good_fresh w) (by kernel_rfl) (by kernel_rfl)
  have g_x3 : Good w x3_0 (kL [[9]]) := gx3_0.of_eq (by kernel_rfl)
  have ex_x3 : ∃ z, z = x3_0 := ⟨_, rfl⟩
  obtain ⟨x3, e_x3⟩ := ex_x3
  subst e_x3
  have exq2 : ∃ z, z = q2_0 := ⟨_, rfl⟩
  obtain ⟨q2, eq2⟩ := exq2
  subst eq2
  have c77 := iGo_comes (L78 w os b x0 x1 x2 x3 q2)
  obtain ⟨x4, qo, gx4_r, d78⟩ := sub_comes (prog := PW) (w := w) (T := T78 w.params x0 x1 x2 x3) (T' := fun z => T79 w.params x0 x1 x2 x3 z) (n := 168) (life := {}) (gens := #[.finished]) (drawn := {}) (toks := 551) (os := os) (a := 163) (b := 164) (p := ⟨86, 26, 86, 54⟩) (st := (so78 w os b x0 x1 x2 x3 q2)) (c₀ := .call (.builtin "frozenset.__sub__") ⟨[.ref 163, .ref 164], []⟩) (fun z => by kernel_rfl) (fun z => by kernel_rfl) (x := x2) (y := x3) (by kernel_rfl) (by kernel_rfl) rfl rfl rfl g_x2 g_x3 (by kernel_rfl) (by decide) rfl (by decide)
  have g_x4 : Good w x4 (kL [[0], [1], [2], [3], [4], [5], [6], [7], [8], [10], [11], [12], [13], [14], [15], [16], [17], [18], [19], [20], [21], [22], [23], [24], [25], [26], [27], [28], [29], [30], [31], [127]]) := gx4_r.of_eq (by kernel_rfl)
  have c79 := iGo_comes (L80 w os b x0 x1 x2 x3 x4 q2 qo)
  exact ⟨x3, x4, g_x3, g_x4, c74.trans (c75.trans (d76.trans (c77.trans (d78.trans (c79)))))⟩
theorem R5 (w : World) (os : OsState) (b : List Stmt) (x0 x1 x2 x3 x4 : FsD) (g_x2 : Good w x2 (kL [[0], [1], [2], [3], [4], [5], [6], [7], [8], [9], [10], [11], [12], [13], [14], [15], [16], [17], [18], [19], [20], [21], [22], [23], [24], [25], [26], [27], [28], [29], [30], [31], [127]])) : ∃ x5 : FsD, ∃ x6 : FsD, Good w x5 (kL [[9], [10]]) ∧ Good w x6 (kL [[0], [1], [2], [3], [4], [5], [6], [7], [8], [11], [12], [13], [14], [15], [16], [17], [18], [19], [20], [21], [22], [23], [24], [25], [26], [27], [28], [29], [30], [31], [127]]) ∧ Comes (model PW w) (SharedT.mk (T80 w.params x0 x1 x2 x3 x4) (169) ({}) (#[.finished]) ({}) (552) (os)).abs (thS b 12 ⟨86, 0, 86, 23⟩) (SharedT.mk (T88 w.params x0 x1 x2 x3 x4 x5 x6) (174) ({}) (#[.finished]) ({}) (558) (os)).abs (thS b 13 ⟨87, 0, 87, 33⟩) := by
  have c80 := iGo_comes (L81 w os b x0 x1 x2 x3 x4)
  have c81 := iGo_comes (L82 w os b x0 x1 x2 x3 x4)
  obtain ⟨x5_0, q3_0, gx5_0, d82⟩ := add_comes (prog := PW) (w := w) (T := fun y => TG3 w.params x0 x1 x2 x3 x4 y (q_89 w.params)) (n := 171) (life := {}) (gens := #[.finished]) (drawn := {}) (toks := 554) (os := os) (a := 169) (c := upC 169 170) (p := ⟨87, 49, 87, 66⟩) (st := (st3 w os b x0 x1 x2 x3 x4)) (tk := 553) (k := ⟨([9] : List Nat).toArray⟩) rfl (fun y => TG3_get _ x0 x1 x2 x3 x4  (q_89 w.params) y) (fun y y' => TG3_set _ x0 x1 x2 x3 x4  (q_89 w.params) y y') (good_fresh w) (by kernel_rfl) (by kernel_rfl)
  have c83 := iGo_comes (L84 w os b x0 x1 x2 x3 x4 x5_0 q3_0)
  obtain ⟨x5_1, q3_1, gx5_1, d84⟩ := add_comes (prog := PW) (w := w) (T := fun y => TG3 w.params x0 x1 x2 x3 x4 y (q_90 w.params)) (n := 171) (life := {}) (gens := #[.finished]) (drawn := {}) (toks := 556) (os := os) (a := 169) (c := upC 169 170) (p := q3_0) (st := (st3 w os b x0 x1 x2 x3 x4)) (tk := 555) (k := ⟨([10] : List Nat).toArray⟩) rfl (fun y => TG3_get _ x0 x1 x2 x3 x4  (q_90 w.params) y) (fun y y' => TG3_set _ x0 x1 x2 x3 x4  (q_90 w.params) y y') gx5_0 (by kernel_rfl) (by kernel_rfl)
  have g_x5 : Good w x5_1 (kL [[9], [10]]) := gx5_1.of_eq (by kernel_rfl)
  have ex_x5 : ∃ z, z = x5_1 := ⟨_, rfl⟩
  obtain ⟨x5, e_x5⟩ := ex_x5
  subst e_x5
  have exq3 : ∃ z, z = q3_1 := ⟨_, rfl⟩
  obtain ⟨q3, eq3⟩ := exq3
  subst eq3
  have c85 := iGo_comes (L86 w os b x0 x1 x2 x3 x4 x5 q3)
  obtain ⟨x6, qo, gx6_r, d86⟩ := sub_comes (prog := PW) (w := w) (T := T86 w.params x0 x1 x2 x3 x4 x5) (T' := fun z => T87 w.params x0 x1 x2 x3 x4 x5 z) (n := 173) (life := {}) (gens := #[.finished]) (drawn := {}) (toks := 557) (os := os) (a := 163) (b := 169) (p := ⟨87, 36, 87, 66⟩) (st := (so86 w os b x0 x1 x2 x3 x4 x5 q3)) (c₀ := .call (.builtin "frozenset.__sub__") ⟨[.ref 163, .ref 169], []⟩) (fun z => by kernel_rfl) (fun z => by kernel_rfl) (x := x2) (y := x5) (by kernel_rfl) (by kernel_rfl) rfl rfl rfl g_x2 g_x5 (by kernel_rfl) (by decide) rfl (by decide)
  have g_x6 : Good w x6 (kL [[0], [1], [2], [3], [4], [5], [6], [7], [8], [11], [12], [13], [14], [15], [16], [17], [18], [19], [20], [21], [22], [23], [24], [25], [26], [27], [28], [29], [30], [31], [127]]) := gx6_r.of_eq (by kernel_rfl)
  have c87 := iGo_comes (L88 w os b x0 x1 x2 x3 x4 x5 x6 q3 qo)
  exact ⟨x5, x6, g_x5, g_x6, c80.trans (c81.trans (d82.trans (c83.trans (d84.trans (c85.trans (d86.trans (c87)))))))⟩
theorem R6 (w : World) (os : OsState) (b : List Stmt) (x0 x1 x2 x3 x4 x5 x6 : FsD) (g_x2 : Good w x2 (kL [[0], [1], [2], [3], [4], [5], [6], [7], [8], [9], [10], [11], [12], [13], [14], [15], [16], [17], [18], [19], [20], [21], [22], [23], [24], [25], [26], [27], [28], [29], [30], [31], [127]])) : ∃ x7 : FsD, Good w x7 (kL [[32], [9]]) ∧ Comes (model PW w) (SharedT.mk (T88 w.params x0 x1 x2 x3 x4 x5 x6) (174) ({}) (#[.finished]) ({}) (558) (os)).abs (thS b 13 ⟨87, 0, 87, 33⟩) (SharedT.mk (T94 w.params x0 x1 x2 x3 x4 x5 x6 x7) (178) ({}) (#[.finished]) ({}) (565) (os)).abs (thS b 15 ⟨89, 0, 89, 7⟩) := by
  have c88 := iGo_comes (L89 w os b x0 x1 x2 x3 x4 x5 x6)
  have c89 := iGo_comes (L90 w os b x0 x1 x2 x3 x4 x5 x6)
  obtain ⟨x7_0, q4_0, gx7_0, d90⟩ := add_comes (prog := PW) (w := w) (T := fun y => TG4 w.params x0 x1 x2 x3 x4 x5 x6 y (q_96 w.params)) (n := 176) (life := {}) (gens := #[.finished]) (drawn := {}) (toks := 561) (os := os) (a := 174) (c := upC 174 175) (p := ⟨89, 10, 89, 26⟩) (st := (st4 w os b x0 x1 x2 x3 x4 x5 x6)) (tk := 560) (k := ⟨([32] : List Nat).toArray⟩) rfl (fun y => TG4_get _ x0 x1 x2 x3 x4 x5 x6  (q_96 w.params) y) (fun y y' => TG4_set _ x0 x1 x2 x3 x4 x5 x6  (q_96 w.params) y y') (good_fresh w) (by kernel_rfl) (by kernel_rfl)
  have c91 := iGo_comes (L92 w os b x0 x1 x2 x3 x4 x5 x6 x7_0 q4_0)
  obtain ⟨x7_1, q4_1, gx7_1, d92⟩ := add_comes (prog := PW) (w := w) (T := fun y => TG4 w.params x0 x1 x2 x3 x4 x5 x6 y (q_97 w.params)) (n := 176) (life := {}) (gens := #[.finished]) (drawn := {}) (toks := 563) (os := os) (a := 174) (c := upC 174 175) (p := q4_0) (st := (st4 w os b x0 x1 x2 x3 x4 x5 x6)) (tk := 562) (k := ⟨([9] : List Nat).toArray⟩) rfl (fun y => TG4_get _ x0 x1 x2 x3 x4 x5 x6  (q_97 w.params) y) (fun y y' => TG4_set _ x0 x1 x2 x3 x4 x5 x6  (q_97 w.params) y y') gx7_0 (by kernel_rfl) (by kernel_rfl)
  have g_x7 : Good w x7_1 (kL [[32], [9]]) := gx7_1.of_eq (by kernel_rfl)
  have ex_x7 : ∃ z, z = x7_1 := ⟨_, rfl⟩
  obtain ⟨x7, e_x7⟩ := ex_x7
  subst e_x7
  have exq4 : ∃ z, z = q4_1 := ⟨_, rfl⟩
  obtain ⟨q4, eq4⟩ := exq4
  subst eq4
  have c93 := iGo_comes (L94 w os b x0 x1 x2 x3 x4 x5 x6 x7 q4)
  exact ⟨x7, g_x7, c88.trans (c89.trans (d90.trans (c91.trans (d92.trans (c93)))))⟩
theorem R7 (w : World) (os : OsState) (b : List Stmt) (x0 x1 x2 x3 x4 x5 x6 x7 : FsD) (g_x2 : Good w x2 (kL [[0], [1], [2], [3], [4], [5], [6], [7], [8], [9], [10], [11], [12], [13], [14], [15], [16], [17], [18], [19], [20], [21], [22], [23], [24], [25], [26], [27], [28], [29], [30], [31], [127]])) (g_x7 : Good w x7 (kL [[32], [9]])) : ∃ x8 : FsD, ∃ x9 : FsD, Good w x8 (kL [[10]]) ∧ Good w x9 (kL [[32], [9], [10]]) ∧ Comes (model PW w) (SharedT.mk (T94 w.params x0 x1 x2 x3 x4 x5 x6 x7) (178) ({}) (#[.finished]) ({}) (565) (os)).abs (thS b 15 ⟨89, 0, 89, 7⟩) (SharedT.mk (T100 w.params x0 x1 x2 x3 x4 x5 x6 x7 x8 x9) (183) ({}) (#[.finished]) ({}) (569) (os)).abs (thS b 16 ⟨90, 0, 90, 19⟩) := by
  have c94 := iGo_comes (L95 w os b x0 x1 x2 x3 x4 x5 x6 x7)
  have c95 := iGo_comes (L96 w os b x0 x1 x2 x3 x4 x5 x6 x7)
  obtain ⟨x8_0, q5_0, gx8_0, d96⟩ := add_comes (prog := PW) (w := w) (T := fun y => TG5 w.params x0 x1 x2 x3 x4 x5 x6 x7 y (q_101 w.params)) (n := 180) (life := {}) (gens := #[.finished]) (drawn := {}) (toks := 567) (os := os) (a := 178) (c := upC 178 179) (p := ⟨90, 32, 90, 47⟩) (st := (st5 w os b x0 x1 x2 x3 x4 x5 x6 x7)) (tk := 566) (k := ⟨([10] : List Nat).toArray⟩) rfl (fun y => TG5_get _ x0 x1 x2 x3 x4 x5 x6 x7  (q_101 w.params) y) (fun y y' => TG5_set _ x0 x1 x2 x3 x4 x5 x6 x7  (q_101 w.params) y y') (good_fresh w) (by kernel_rfl) (by kernel_rfl)
  have g_x8 : Good w x8_0 (kL [[10]]) := gx8_0.of_eq (by kernel_rfl)
  have ex_x8 : ∃ z, z = x8_0 := ⟨_, rfl⟩
  obtain ⟨x8, e_x8⟩ := ex_x8
  subst e_x8
  have exq5 : ∃ z, z = q5_0 := ⟨_, rfl⟩
  obtain ⟨q5, eq5⟩ := exq5
  subst eq5
  have c97 := iGo_comes (L98 w os b x0 x1 x2 x3 x4 x5 x6 x7 x8 q5)
  obtain ⟨x9, qo, gx9_r, d98⟩ := or_comes (prog := PW) (w := w) (T := T98 w.params x0 x1 x2 x3 x4 x5 x6 x7 x8) (T' := fun z => T99 w.params x0 x1 x2 x3 x4 x5 x6 x7 x8 z) (n := 182) (life := {}) (gens := #[.finished]) (drawn := {}) (toks := 568) (os := os) (a := 174) (b := 178) (p := ⟨90, 22, 90, 47⟩) (st := (so98 w os b x0 x1 x2 x3 x4 x5 x6 x7 x8 q5)) (c₀ := .call (.builtin "frozenset.__or__") ⟨[.ref 174, .ref 178], []⟩) (fun z => by kernel_rfl) (fun z => by kernel_rfl) (x := x7) (y := x8) (by kernel_rfl) (by kernel_rfl) rfl rfl rfl g_x7 g_x8 (by kernel_rfl) (.inr rfl)
  have g_x9 : Good w x9 (kL [[32], [9], [10]]) := gx9_r.of_eq (by kernel_rfl)
  have c99 := iGo_comes (L100 w os b x0 x1 x2 x3 x4 x5 x6 x7 x8 x9 q5 qo)
  exact ⟨x8, x9, g_x8, g_x9, c94.trans (c95.trans (d96.trans (c97.trans (d98.trans (c99)))))⟩
theorem R8 (w : World) (os : OsState) (b : List Stmt) (x0 x1 x2 x3 x4 x5 x6 x7 x8 x9 : FsD) (g_x2 : Good w x2 (kL [[0], [1], [2], [3], [4], [5], [6], [7], [8], [9], [10], [11], [12], [13], [14], [15], [16], [17], [18], [19], [20], [21], [22], [23], [24], [25], [26], [27], [28], [29], [30], [31], [127]])) (g_x7 : Good w x7 (kL [[32], [9]])) : ∃ x10 : FsD, Good w x10 (kL [[48], [49], [50], [51], [52], [53], [54], [55], [56], [57], [97], [98], [99], [100], [101], [102], [65], [66], [67], [68], [69], [70]]) ∧ Comes (model PW w) (SharedT.mk (T100 w.params x0 x1 x2 x3 x4 x5 x6 x7 x8 x9) (183) ({}) (#[.finished]) ({}) (569) (os)).abs (thS b 16 ⟨90, 0, 90, 19⟩) (SharedT.mk (T146 w.params x0 x1 x2 x3 x4 x5 x6 x7 x8 x9 x10) (187) ({}) (#[.finished]) ({}) (621) (os)).abs (thS b 19 ⟨93, 0, 93, 14⟩) := by
  have c100 := iGo_comes (L101 w os b x0 x1 x2 x3 x4 x5 x6 x7 x8 x9)
  have c101 := iGo_comes (L102 w os b x0 x1 x2 x3 x4 x5 x6 x7 x8 x9)
  have r0 : RD w _ _ (fun y => TG6 w.params x0 x1 x2 x3 x4 x5 x6 x7 x8 x9 y (q_106 w.params)) 185 (#[.finished]) 577 os 183 [48] 576 (upC 183 184) ((st6 w os b x0 x1 x2 x3 x4 x5 x6 x7 x8 x9)) [] := ⟨_, _, good_fresh w, c100.trans c101⟩
  obtain ⟨x10_20, q6_20, gx10_20, cR⟩ := (add_round (add_round (add_round (add_round (add_round (add_round (add_round (add_round (add_round (add_round (add_round (add_round (add_round (add_round (add_round (add_round (add_round (add_round (add_round (add_round (add_round r0 rfl (fun y => TG6_get _ x0 x1 x2 x3 x4 x5 x6 x7 x8 x9  (q_106 w.params) y) (fun y y' => TG6_set _ x0 x1 x2 x3 x4 x5 x6 x7 x8 x9  (q_106 w.params) y y') (by kernel_rfl) (by kernel_rfl) (L104 w os b x0 x1 x2 x3 x4 x5 x6 x7 x8 x9)) rfl (fun y => TG6_get _ x0 x1 x2 x3 x4 x5 x6 x7 x8 x9  (q_107 w.params) y) (fun y y' => TG6_set _ x0 x1 x2 x3 x4 x5 x6 x7 x8 x9  (q_107 w.params) y y') (by kernel_rfl) (by kernel_rfl) (L106 w os b x0 x1 x2 x3 x4 x5 x6 x7 x8 x9)) rfl (fun y => TG6_get _ x0 x1 x2 x3 x4 x5 x6 x7 x8 x9  (q_108 w.params) y) (fun y y' => TG6_set _ x0 x1 x2 x3 x4 x5 x6 x7 x8 x9  (q_108 w.params) y y') (by kernel_rfl) (by kernel_rfl) (L108 w os b x0 x1 x2 x3 x4 x5 x6 x7 x8 x9)) rfl (fun y => TG6_get _ x0 x1 x2 x3 x4 x5 x6 x7 x8 x9  (q_109 w.params) y) (fun y y' => TG6_set _ x0 x1 x2 x3 x4 x5 x6 x7 x8 x9  (q_109 w.params) y y') (by kernel_rfl) (by kernel_rfl) (L110 w os b x0 x1 x2 x3 x4 x5 x6 x7 x8 x9)) rfl (fun y => TG6_get _ x0 x1 x2 x3 x4 x5 x6 x7 x8 x9  (q_110 w.params) y) (fun y y' => TG6_set _ x0 x1 x2 x3 x4 x5 x6 x7 x8 x9  (q_110 w.params) y y') (by kernel_rfl) (by kernel_rfl) (L112 w os b x0 x1 x2 x3 x4 x5 x6 x7 x8 x9)) rfl (fun y => TG6_get _ x0 x1 x2 x3 x4 x5 x6 x7 x8 x9  (q_111 w.params) y) (fun y y' => TG6_set _ x0 x1 x2 x3 x4 x5 x6 x7 x8 x9  (q_111 w.params) y y') (by kernel_rfl) (by kernel_rfl) (L114 w os b x0 x1 x2 x3 x4 x5 x6 x7 x8 x9)) rfl (fun y => TG6_get _ x0 x1 x2 x3 x4 x5 x6 x7 x8 x9  (q_112 w.params) y) (fun y y' => TG6_set _ x0 x1 x2 x3 x4 x5 x6 x7 x8 x9  (q_112 w.params) y y') (by kernel_rfl) (by kernel_rfl) (L116 w os b x0 x1 x2 x3 x4 x5 x6 x7 x8 x9)) rfl (fun y => TG6_get _ x0 x1 x2 x3 x4 x5 x6 x7 x8 x9  (q_113 w.params) y) (fun y y' => TG6_set _ x0 x1 x2 x3 x4 x5 x6 x7 x8 x9  (q_113 w.params) y y') (by kernel_rfl) (by kernel_rfl) (L118 w os b x0 x1 x2 x3 x4 x5 x6 x7 x8 x9)) rfl (fun y => TG6_get _ x0 x1 x2 x3 x4 x5 x6 x7 x8 x9  (q_114 w.params) y) (fun y y' => TG6_set _ x0 x1 x2 x3 x4 x5 x6 x7 x8 x9  (q_114 w.params) y y') (by kernel_rfl) (by kernel_rfl) (L120 w os b x0 x1 x2 x3 x4 x5 x6 x7 x8 x9)) rfl (fun y => TG6_get _ x0 x1 x2 x3 x4 x5 x6 x7 x8 x9  (q_115 w.params) y) (fun y y' => TG6_set _ x0 x1 x2 x3 x4 x5 x6 x7 x8 x9  (q_115 w.params) y y') (by kernel_rfl) (by kernel_rfl) (L122 w os b x0 x1 x2 x3 x4 x5 x6 x7 x8 x9)) rfl (fun y => TG6_get _ x0 x1 x2 x3 x4 x5 x6 x7 x8 x9  (q_116 w.params) y) (fun y y' => TG6_set _ x0 x1 x2 x3 x4 x5 x6 x7 x8 x9  (q_116 w.params) y y') (by kernel_rfl) (by kernel_rfl) (L124 w os b x0 x1 x2 x3 x4 x5 x6 x7 x8 x9)) rfl (fun y => TG6_get _ x0 x1 x2 x3 x4 x5 x6 x7 x8 x9  (q_117 w.params) y) (fun y y' => TG6_set _ x0 x1 x2 x3 x4 x5 x6 x7 x8 x9  (q_117 w.params) y y') (by kernel_rfl) (by kernel_rfl) (L126 w os b x0 x1 x2 x3 x4 x5 x6 x7 x8 x9)) rfl (fun y => TG6_get _ x0 x1 x2 x3 x4 x5 x6 x7 x8 x9  (q_118 w.params) y) (fun y y' => TG6_set _ x0 x1 x2 x3 x4 x5 x6 x7 x8 x9  (q_118 w.params) y y') (by kernel_rfl) (by kernel_rfl) (L128 w os b x0 x1 x2 x3 x4 x5 x6 x7 x8 x9)) rfl (fun y => TG6_get _ x0 x1 x2 x3 x4 x5 x6 x7 x8 x9  (q_119 w.params) y) (fun y y' => TG6_set _ x0 x1 x2 x3 x4 x5 x6 x7 x8 x9  (q_119 w.params) y y') (by kernel_rfl) (by kernel_rfl) (L130 w os b x0 x1 x2 x3 x4 x5 x6 x7 x8 x9)) rfl (fun y => TG6_get _ x0 x1 x2 x3 x4 x5 x6 x7 x8 x9  (q_120 w.params) y) (fun y y' => TG6_set _ x0 x1 x2 x3 x4 x5 x6 x7 x8 x9  (q_120 w.params) y y') (by kernel_rfl) (by kernel_rfl) (L132 w os b x0 x1 x2 x3 x4 x5 x6 x7 x8 x9)) rfl (fun y => TG6_get _ x0 x1 x2 x3 x4 x5 x6 x7 x8 x9  (q_121 w.params) y) (fun y y' => TG6_set _ x0 x1 x2 x3 x4 x5 x6 x7 x8 x9  (q_121 w.params) y y') (by kernel_rfl) (by kernel_rfl) (L134 w os b x0 x1 x2 x3 x4 x5 x6 x7 x8 x9)) rfl (fun y => TG6_get _ x0 x1 x2 x3 x4 x5 x6 x7 x8 x9  (q_122 w.params) y) (fun y y' => TG6_set _ x0 x1 x2 x3 x4 x5 x6 x7 x8 x9  (q_122 w.params) y y') (by kernel_rfl) (by kernel_rfl) (L136 w os b x0 x1 x2 x3 x4 x5 x6 x7 x8 x9)) rfl (fun y => TG6_get _ x0 x1 x2 x3 x4 x5 x6 x7 x8 x9  (q_123 w.params) y) (fun y y' => TG6_set _ x0 x1 x2 x3 x4 x5 x6 x7 x8 x9  (q_123 w.params) y y') (by kernel_rfl) (by kernel_rfl) (L138 w os b x0 x1 x2 x3 x4 x5 x6 x7 x8 x9)) rfl (fun y => TG6_get _ x0 x1 x2 x3 x4 x5 x6 x7 x8 x9  (q_124 w.params) y) (fun y y' => TG6_set _ x0 x1 x2 x3 x4 x5 x6 x7 x8 x9  (q_124 w.params) y y') (by kernel_rfl) (by kernel_rfl) (L140 w os b x0 x1 x2 x3 x4 x5 x6 x7 x8 x9)) rfl (fun y => TG6_get _ x0 x1 x2 x3 x4 x5 x6 x7 x8 x9  (q_125 w.params) y) (fun y y' => TG6_set _ x0 x1 x2 x3 x4 x5 x6 x7 x8 x9  (q_125 w.params) y y') (by kernel_rfl) (by kernel_rfl) (L142 w os b x0 x1 x2 x3 x4 x5 x6 x7 x8 x9)) rfl (fun y => TG6_get _ x0 x1 x2 x3 x4 x5 x6 x7 x8 x9  (q_126 w.params) y) (fun y y' => TG6_set _ x0 x1 x2 x3 x4 x5 x6 x7 x8 x9  (q_126 w.params) y y') (by kernel_rfl) (by kernel_rfl) (L144 w os b x0 x1 x2 x3 x4 x5 x6 x7 x8 x9))
  obtain ⟨x10_21, q6_21, gx10_21, d144⟩ := add_comes (prog := PW) (w := w) (T := fun y => TG6 w.params x0 x1 x2 x3 x4 x5 x6 x7 x8 x9 y (q_127 w.params)) (n := 185) (life := {}) (gens := #[.finished]) (drawn := {}) (toks := 619) (os := os) (a := 183) (c := upC 183 184) (p := q6_20) (st := (st6 w os b x0 x1 x2 x3 x4 x5 x6 x7 x8 x9)) (tk := 618) (k := ⟨([70] : List Nat).toArray⟩) rfl (fun y => TG6_get _ x0 x1 x2 x3 x4 x5 x6 x7 x8 x9  (q_127 w.params) y) (fun y y' => TG6_set _ x0 x1 x2 x3 x4 x5 x6 x7 x8 x9  (q_127 w.params) y y') gx10_20 (by kernel_rfl) (by kernel_rfl)
  have g_x10 : Good w x10_21 (kL [[48], [49], [50], [51], [52], [53], [54], [55], [56], [57], [97], [98], [99], [100], [101], [102], [65], [66], [67], [68], [69], [70]]) := gx10_21.of_eq (by kernel_rfl)
  have ex_x10 : ∃ z, z = x10_21 := ⟨_, rfl⟩
  obtain ⟨x10, e_x10⟩ := ex_x10
  subst e_x10
  have exq6 : ∃ z, z = q6_21 := ⟨_, rfl⟩
  obtain ⟨q6, eq6⟩ := exq6
  subst eq6
  have c145 := iGo_comes (L146 w os b x0 x1 x2 x3 x4 x5 x6 x7 x8 x9 x10 q6)
  exact ⟨x10, g_x10, cR.trans (d144.trans (c145))⟩
theorem R9 (w : World) (os : OsState) (b : List Stmt) (x0 x1 x2 x3 x4 x5 x6 x7 x8 x9 x10 : FsD) (g_x2 : Good w x2 (kL [[0], [1], [2], [3], [4], [5], [6], [7], [8], [9], [10], [11], [12], [13], [14], [15], [16], [17], [18], [19], [20], [21], [22], [23], [24], [25], [26], [27], [28], [29], [30], [31], [127]])) (g_x7 : Good w x7 (kL [[32], [9]])) : Comes (model PW w) (SharedT.mk (T146 w.params x0 x1 x2 x3 x4 x5 x6 x7 x8 x9 x10) (187) ({}) (#[.finished]) ({}) (621) (os)).abs (thS b 19 ⟨93, 0, 93, 14⟩) (SharedT.mk (T147 w.params x0 x1 x2 x3 x4 x5 x6 x7 x8 x9 x10) (190) ({}) (#[.finished]) ({}) (649) (os)).abs (thS b 23 ⟨97, 0, 97, 29⟩) := by
  have c146 := iGo_comes (L147 w os b x0 x1 x2 x3 x4 x5 x6 x7 x8 x9 x10)
  exact c146
theorem R10 (w : World) (os : OsState) (b : List Stmt) (x0 x1 x2 x3 x4 x5 x6 x7 x8 x9 x10 : FsD) (g_x2 : Good w x2 (kL [[0], [1], [2], [3], [4], [5], [6], [7], [8], [9], [10], [11], [12], [13], [14], [15], [16], [17], [18], [19], [20], [21], [22], [23], [24], [25], [26], [27], [28], [29], [30], [31], [127]])) (g_x7 : Good w x7 (kL [[32], [9]])) : Comes (model PW w) (SharedT.mk (T147 w.params x0 x1 x2 x3 x4 x5 x6 x7 x8 x9 x10) (190) ({}) (#[.finished]) ({}) (649) (os)).abs (thS b 23 ⟨97, 0, 97, 29⟩) (SharedT.mk (T148 w.params x0 x1 x2 x3 x4 x5 x6 x7 x8 x9 x10) (203) ({}) (#[.finished]) ({}) (667) (os)).abs (thS b 24 ⟨98, 0, 99, 8⟩) := by
  have c147 := iGo_comes (L148 w os b x0 x1 x2 x3 x4 x5 x6 x7 x8 x9 x10)
  exact c147
theorem R11 (w : World) (os : OsState) (b : List Stmt) (x0 x1 x2 x3 x4 x5 x6 x7 x8 x9 x10 : FsD) (g_x2 : Good w x2 (kL [[0], [1], [2], [3], [4], [5], [6], [7], [8], [9], [10], [11], [12], [13], [14], [15], [16], [17], [18], [19], [20], [21], [22], [23], [24], [25], [26], [27], [28], [29], [30], [31], [127]])) (g_x7 : Good w x7 (kL [[32], [9]])) : Comes (model PW w) (SharedT.mk (T148 w.params x0 x1 x2 x3 x4 x5 x6 x7 x8 x9 x10) (203) ({}) (#[.finished]) ({}) (667) (os)).abs (thS b 24 ⟨98, 0, 99, 8⟩) (SharedT.mk (T149 w.params x0 x1 x2 x3 x4 x5 x6 x7 x8 x9 x10) (232) ({}) (#[.finished]) ({}) (708) (os)).abs (thS b 28 ⟨142, 0, 143, 59⟩) := by
  have c148 := iGo_comes (L149 w os b x0 x1 x2 x3 x4 x5 x6 x7 x8 x9 x10)
  exact c148
theorem R12 (w : World) (os : OsState) (b : List Stmt) (x0 x1 x2 x3 x4 x5 x6 x7 x8 x9 x10 : FsD) (g_x2 : Good w x2 (kL [[0], [1], [2], [3], [4], [5], [6], [7], [8], [9], [10], [11], [12], [13], [14], [15], [16], [17], [18], [19], [20], [21], [22], [23], [24], [25], [26], [27], [28], [29], [30], [31], [127]])) (g_x7 : Good w x7 (kL [[32], [9]])) : Comes (model PW w) (SharedT.mk (T149 w.params x0 x1 x2 x3 x4 x5 x6 x7 x8 x9 x10) (232) ({}) (#[.finished]) ({}) (708) (os)).abs (thS b 28 ⟨142, 0, 143, 59⟩) (SharedT.mk (T150 w.params x0 x1 x2 x3 x4 x5 x6 x7 x8 x9 x10) (267) ({}) (#[.finished]) ({}) (763) (os)).abs (thS b 33 ⟨214, 0, 215, 67⟩) := by
  have c149 := iGo_comes (L150 w os b x0 x1 x2 x3 x4 x5 x6 x7 x8 x9 x10)
  exact c149
theorem R13 (w : World) (os : OsState) (b : List Stmt) (x0 x1 x2 x3 x4 x5 x6 x7 x8 x9 x10 : FsD) (g_x2 : Good w x2 (kL [[0], [1], [2], [3], [4], [5], [6], [7], [8], [9], [10], [11], [12], [13], [14], [15], [16], [17], [18], [19], [20], [21], [22], [23], [24], [25], [26], [27], [28], [29], [30], [31], [127]])) (g_x7 : Good w x7 (kL [[32], [9]])) : Comes (model PW w) (SharedT.mk (T150 w.params x0 x1 x2 x3 x4 x5 x6 x7 x8 x9 x10) (267) ({}) (#[.finished]) ({}) (763) (os)).abs (thS b 33 ⟨214, 0, 215, 67⟩) (SharedT.mk (T151 w.params x0 x1 x2 x3 x4 x5 x6 x7 x8 x9 x10) (295) ({}) (#[.finished]) ({}) (814) (os)).abs (thS b 38 ⟨243, 0, 258, 24⟩) := by
  have c150 := iGo_comes (L151 w os b x0 x1 x2 x3 x4 x5 x6 x7 x8 x9 x10)
  exact c150
theorem R14 (w : World) (os : OsState) (b : List Stmt) (x0 x1 x2 x3 x4 x5 x6 x7 x8 x9 x10 : FsD) (g_x2 : Good w x2 (kL [[0], [1], [2], [3], [4], [5], [6], [7], [8], [9], [10], [11], [12], [13], [14], [15], [16], [17], [18], [19], [20], [21], [22], [23], [24], [25], [26], [27], [28], [29], [30], [31], [127]])) (g_x7 : Good w x7 (kL [[32], [9]])) : Comes (model PW w) (SharedT.mk (T151 w.params x0 x1 x2 x3 x4 x5 x6 x7 x8 x9 x10) (295) ({}) (#[.finished]) ({}) (814) (os)).abs (thS b 38 ⟨243, 0, 258, 24⟩) (SharedT.mk (T152 w.params x0 x1 x2 x3 x4 x5 x6 x7 x8 x9 x10) (333) ({}) (#[.finished]) ({}) (876) (os)).abs (thS b 44 ⟨294, 0, 297, 69⟩) := by
  have c151 := iGo_comes (L152 w os b x0 x1 x2 x3 x4 x5 x6 x7 x8 x9 x10)
  exact c151
theorem R15 (w : World) (os : OsState) (b : List Stmt) (x0 x1 x2 x3 x4 x5 x6 x7 x8 x9 x10 : FsD) (g_x2 : Good w x2 (kL [[0], [1], [2], [3], [4], [5], [6], [7], [8], [9], [10], [11], [12], [13], [14], [15], [16], [17], [18], [19], [20], [21], [22], [23], [24], [25], [26], [27], [28], [29], [30], [31], [127]])) (g_x7 : Good w x7 (kL [[32], [9]])) : Comes (model PW w) (SharedT.mk (T152 w.params x0 x1 x2 x3 x4 x5 x6 x7 x8 x9 x10) (333) ({}) (#[.finished]) ({}) (876) (os)).abs (thS b 44 ⟨294, 0, 297, 69⟩) (SharedT.mk (T152 w.params x0 x1 x2 x3 x4 x5 x6 x7 x8 x9 x10) (333) ({}) (#[.finished]) ({}) (876) (os)).abs (⟨.pure (.done (.ret .none)), .builtin "claim.caller" {}, pz, []⟩) := by
  have c152 := iGo_comes (Lfin w os b x0 x1 x2 x3 x4 x5 x6 x7 x8 x9 x10)
  exact c152
end
-- HdTop
section
set_option maxRecDepth 100000
set_option maxHeartbeats 8000000
noncomputable def TB (P : Params) : BT := (.node (boot_o_0 P) (.node (boot_o_1 P) (.node (boot_o_3 P) (.node (boot_o_7 P) .nil .nil) .nil) (.node (boot_o_5 P) (.node (boot_o_9 P) .nil .nil) .nil)) (.node (boot_o_2 P) (.node (boot_o_4 P) (.node (boot_o_8 P) .nil .nil) .nil) (.node (boot_o_6 P) (.node (boot_o_10 P) .nil .nil) .nil)))
theorem bootT (P : Params) : absHeap (TB P) 11 {} = boot_heap P := by kernel_rfl
noncomputable abbrev BB : List Stmt := behindTheImports PW
theorem Lboot (w : World) (os : OsState) : iGo PW w 12 ⟨TB w.params, 11, {}, #[], boot_drawn, boot_toks, os⟩ (topStub PW) = some (⟨T0 w.params, 15, {}, #[], {}, 187, os⟩, ⟨den (bC BB), bC BB, pz, [topFrame pz]⟩) := by kernel_rfl
theorem bb_is : BB = bodyL.drop 0 := by kernel_rfl
theorem blockStart_is : blockStart BB F.env_1 = pure () := by kernel_rfl
theorem den_body : den (bC BB) = (execs BB F.env_1).wrap doneF (leaveH F.env_1) id id := by
  rw [← den_eq]
  show denote table (.body BB F.env_1) = _
  rw [body_wrap, blockStart_is]
  rfl
theorem boot_comes (w : World) (os : OsState) : Comes (model PW w) (SharedT.mk (TB w.params) 11 {} #[] boot_drawn boot_toks os).abs (topStub PW) (SharedT.mk (T0 w.params) 15 {} #[] {} 187 os).abs (thS BB 0 pz) := by
  have h := iGo_comes (Lboot w os)
  rw [den_body] at h
  have e : thS BB 0 pz = ⟨(execs BB F.env_1).wrap doneF (leaveH F.env_1) id id, bC BB, pz, [topFrame pz]⟩ := by
    unfold thS restOf
    rw [← bb_is]
  rw [e]
  exact h
noncomputable def finS (P : Params) (os : OsState) (x0 x1 x2 x3 x4 x5 x6 x7 x8 x9 x10 : FsD) : SharedT := SharedT.mk (T152 P x0 x1 x2 x3 x4 x5 x6 x7 x8 x9 x10) (333) ({}) (#[.finished]) ({}) (876) (os)
theorem run_top (w : World) (os : OsState) : ∃ x0 x1 x2 x3 x4 x5 x6 x7 x8 x9 x10 : FsD, Good w x2 (kL [[0], [1], [2], [3], [4], [5], [6], [7], [8], [9], [10], [11], [12], [13], [14], [15], [16], [17], [18], [19], [20], [21], [22], [23], [24], [25], [26], [27], [28], [29], [30], [31], [127]]) ∧ Good w x4 (kL [[0], [1], [2], [3], [4], [5], [6], [7], [8], [10], [11], [12], [13], [14], [15], [16], [17], [18], [19], [20], [21], [22], [23], [24], [25], [26], [27], [28], [29], [30], [31], [127]]) ∧ Good w x6 (kL [[0], [1], [2], [3], [4], [5], [6], [7], [8], [11], [12], [13], [14], [15], [16], [17], [18], [19], [20], [21], [22], [23], [24], [25], [26], [27], [28], [29], [30], [31], [127]]) ∧ Good w x7 (kL [[32], [9]]) ∧ Good w x9 (kL [[32], [9], [10]]) ∧ Good w x10 (kL [[48], [49], [50], [51], [52], [53], [54], [55], [56], [57], [97], [98], [99], [100], [101], [102], [65], [66], [67], [68], [69], [70]]) ∧ Comes (model PW w) (SharedT.mk (TB w.params) 11 {} #[] boot_drawn boot_toks os).abs (topStub PW) (finS w.params os x0 x1 x2 x3 x4 x5 x6 x7 x8 x9 x10).abs ⟨.pure (.done (.ret .none)), .builtin "claim.caller" {}, pz, []⟩ := by
  have b0 := boot_comes w os
  have cR0 := R0 w os (behindTheImports PW)
  have cR1 := R1 w os (behindTheImports PW)
  have cR2 := R2 w os (behindTheImports PW)
  obtain ⟨x0, x1, x2, g_x0, g_x1, g_x2, cR3⟩ := R3 w os (behindTheImports PW)
  obtain ⟨x3, x4, g_x3, g_x4, cR4⟩ := R4 w os (behindTheImports PW) x0 x1 x2 g_x2
  obtain ⟨x5, x6, g_x5, g_x6, cR5⟩ := R5 w os (behindTheImports PW) x0 x1 x2 x3 x4 g_x2
  obtain ⟨x7, g_x7, cR6⟩ := R6 w os (behindTheImports PW) x0 x1 x2 x3 x4 x5 x6 g_x2
  obtain ⟨x8, x9, g_x8, g_x9, cR7⟩ := R7 w os (behindTheImports PW) x0 x1 x2 x3 x4 x5 x6 x7 g_x2 g_x7
  obtain ⟨x10, g_x10, cR8⟩ := R8 w os (behindTheImports PW) x0 x1 x2 x3 x4 x5 x6 x7 x8 x9 g_x2 g_x7
  have cR9 := R9 w os (behindTheImports PW) x0 x1 x2 x3 x4 x5 x6 x7 x8 x9 x10 g_x2 g_x7
  have cR10 := R10 w os (behindTheImports PW) x0 x1 x2 x3 x4 x5 x6 x7 x8 x9 x10 g_x2 g_x7
  have cR11 := R11 w os (behindTheImports PW) x0 x1 x2 x3 x4 x5 x6 x7 x8 x9 x10 g_x2 g_x7
  have cR12 := R12 w os (behindTheImports PW) x0 x1 x2 x3 x4 x5 x6 x7 x8 x9 x10 g_x2 g_x7
  have cR13 := R13 w os (behindTheImports PW) x0 x1 x2 x3 x4 x5 x6 x7 x8 x9 x10 g_x2 g_x7
  have cR14 := R14 w os (behindTheImports PW) x0 x1 x2 x3 x4 x5 x6 x7 x8 x9 x10 g_x2 g_x7
  have cR15 := R15 w os (behindTheImports PW) x0 x1 x2 x3 x4 x5 x6 x7 x8 x9 x10 g_x2 g_x7
  exact ⟨x0, x1, x2, x3, x4, x5, x6, x7, x8, x9, x10, g_x2, g_x4, g_x6, g_x7, g_x9, g_x10, b0.trans (cR0.trans (cR1.trans (cR2.trans (cR3.trans (cR4.trans (cR5.trans (cR6.trans (cR7.trans (cR8.trans (cR9.trans (cR10.trans (cR11.trans (cR12.trans (cR13.trans (cR14.trans (cR15))))))))))))))))⟩
end
-- HdLook
section
set_option maxRecDepth 100000
set_option maxHeartbeats 8000000
/-- the view that keeps the law's def alone -/
noncomputable def qv : Program := { PySem.Challenge.pw_ij0193_01 with main := { PySem.Challenge.pw_ij0193_01.main with body := PySem.Challenge.pw_ij0193_01.main.body.drop 43 } }
noncomputable def looseL : List Str := (["_wall", "_WallAttr", "IS_CHARACTER_JUNK", "file_template_difflib", "styles_difflib", "table_template_difflib", "legend_difflib", "HtmlDiff", "ASCII_CTRL", "ILLEGAL_BASIC_STR_CHARS", "ILLEGAL_MULTILINE_BASIC_STR_CHARS",
  "ILLEGAL_MULTILINE_LITERAL_STR_CHARS", "TOML_WS", "TOML_WS_AND_NEWLINE", "digits", "hexdigits", "HEXDIGIT_CHARS", "MappingProxyType", "BASIC_STR_ESCAPE_REPLACEMENTS", "TOMLDecodeError", "skip_chars", "skip_until", "parse_basic_str_escape",
  "parse_basic_str_escape_multiline", "parse_hex_char", "parse_multiline_str", "parse_basic_str", "suffixed_err", "is_unicode_scalar_value", "_law_drawn", "_law_figures", "_law_spelled", "_law_written", "_law_found", "_law_due", "_law_whole", "_law_broken", "_law_all"] : List String).map Str.ofString
noncomputable abbrev finAbs (w : World) (os : OsState) (x0 x1 x2 x3 x4 x5 x6 x7 x8 x9 x10 : FsD) : Shared := (finS w.params os x0 x1 x2 x3 x4 x5 x6 x7 x8 x9 x10).abs
theorem chains_ok : chainsOk qv = true := by kernel_rfl
theorem looks (w : World) (os : OsState) (x0 x1 x2 x3 x4 x5 x6 x7 x8 x9 x10 : FsD) :
    openSeen qv looseL (importedModules PW.main.body) (fun _ => true) false (finAbs w os x0 x1 x2 x3 x4 x5 x6 x7 x8 x9 x10) = openGood qv looseL := by kernel_rfl
theorem looks2 (w : World) (os : OsState) (x0 x1 x2 x3 x4 x5 x6 x7 x8 x9 x10 : FsD) :
    (staticsOk (importedModules PW.main.body) (boot_heap w.params) (finAbs w os x0 x1 x2 x3 x4 x5 x6 x7 x8 x9 x10).heap && namesBound PW (finAbs w os x0 x1 x2 x3 x4 x5 x6 x7 x8 x9 x10).heap && gensDone (finAbs w os x0 x1 x2 x3 x4 x5 x6 x7 x8 x9 x10) && laidKept (boot_heap w.params) (finAbs w os x0 x1 x2 x3 x4 x5 x6 x7 x8 x9 x10).heap) = true := by kernel_rfl
end
-- HdK
section
set_option maxRecDepth 100000
set_option maxHeartbeats 8000000
/-- the written part of the top's heap -/
noncomputable def KK (P : Params) : Frag := (nat_lit 2, boot_o_2 P) :: (nat_lit 3, q_140 P) :: (nat_lit 15, F.o_7 P) :: (nat_lit 17, F.o_9 P) :: (nat_lit 18, F.o_10 P) :: (nat_lit 20, F.o_12 P) :: (nat_lit 21, F.o_13 P) :: (nat_lit 51, F.o_43 P) :: (nat_lit 52, F.o_44 P) :: (nat_lit 54, F.o_46 P) :: (nat_lit 55, F.o_47 P) :: (nat_lit 57, F.o_49 P) :: (nat_lit 58, F.o_50 P) :: (nat_lit 59, F.o_54 P) :: (nat_lit 66, F.o_61 P) :: (nat_lit 67, F.o_62 P) :: (nat_lit 69, F.o_64 P) :: (nat_lit 70, F.o_65 P) :: (nat_lit 72, F.o_67 P) :: (nat_lit 73, F.o_68 P) :: (nat_lit 74, F.o_69 P) :: (nat_lit 75, F.o_70 P) :: (nat_lit 76, F.o_71 P) :: (nat_lit 78, F.o_73 P) :: (nat_lit 79, F.o_74 P) :: (nat_lit 81, F.o_76 P) :: (nat_lit 82, F.o_77 P) :: (nat_lit 83, F.o_78 P) :: (nat_lit 85, F.o_80 P) :: (nat_lit 86, F.o_81 P) :: (nat_lit 88, F.o_83 P) :: (nat_lit 89, F.o_84 P) :: (nat_lit 90, F.o_85 P) :: (nat_lit 92, F.o_87 P) :: (nat_lit 93, F.o_88 P) :: (nat_lit 95, F.o_90 P) :: (nat_lit 96, F.o_91 P) :: (nat_lit 97, F.o_92 P) :: (nat_lit 99, F.o_94 P) :: (nat_lit 100, F.o_95 P) :: (nat_lit 102, F.o_97 P) :: (nat_lit 103, F.o_98 P) :: (nat_lit 104, F.o_99 P) :: (nat_lit 106, F.o_101 P) :: (nat_lit 107, F.o_102 P) :: (nat_lit 109, F.o_104 P) :: (nat_lit 110, F.o_105 P) :: (nat_lit 111, F.o_106 P) :: (nat_lit 113, F.o_108 P) :: (nat_lit 114, F.o_109 P) :: (nat_lit 116, F.o_111 P) :: (nat_lit 117, F.o_112 P) :: (nat_lit 118, F.o_113 P) :: (nat_lit 120, F.o_115 P) :: (nat_lit 121, F.o_116 P) :: (nat_lit 123, F.o_118 P) :: (nat_lit 124, F.o_119 P) :: (nat_lit 125, F.o_120 P) :: (nat_lit 127, F.o_122 P) :: (nat_lit 128, F.o_123 P) :: (nat_lit 130, F.o_125 P) :: (nat_lit 131, F.o_126 P) :: (nat_lit 132, F.o_127 P) :: (nat_lit 133, F.o_128 P) :: (nat_lit 135, F.o_130 P) :: (nat_lit 136, F.o_131 P) :: (nat_lit 138, F.o_133 P) :: (nat_lit 139, F.o_134 P) :: (nat_lit 140, F.o_135 P) :: (nat_lit 141, F.o_136 P) :: (nat_lit 142, F.o_137 P) :: (nat_lit 143, F.o_138 P) :: (nat_lit 144, F.o_139 P) :: (nat_lit 188, F.o_256 P) :: (nat_lit 189, F.o_257 P) :: (nat_lit 190, F.o_258 P) :: (nat_lit 197, F.o_265 P) :: (nat_lit 198, F.o_266 P) :: (nat_lit 199, F.o_267 P) :: (nat_lit 200, F.o_268 P) :: (nat_lit 203, F.o_271 P) :: (nat_lit 205, F.o_273 P) :: (nat_lit 206, F.o_274 P) :: (nat_lit 208, F.o_276 P) :: (nat_lit 209, F.o_277 P) :: (nat_lit 210, F.o_278 P) :: (nat_lit 212, F.o_280 P) :: (nat_lit 213, F.o_281 P) :: (nat_lit 215, F.o_283 P) :: (nat_lit 216, F.o_284 P) :: (nat_lit 217, F.o_290 P) :: (nat_lit 218, F.o_291 P) :: (nat_lit 220, F.o_293 P) :: (nat_lit 221, F.o_294 P) :: (nat_lit 223, F.o_296 P) :: (nat_lit 224, F.o_297 P) :: (nat_lit 225, F.o_298 P) :: (nat_lit 227, F.o_300 P) :: (nat_lit 228, F.o_301 P) :: (nat_lit 230, F.o_303 P) :: (nat_lit 231, F.o_304 P) :: (nat_lit 232, F.o_305 P) :: (nat_lit 234, F.o_307 P) :: (nat_lit 235, F.o_308 P) :: (nat_lit 237, F.o_310 P) :: (nat_lit 238, F.o_311 P) :: (nat_lit 239, F.o_312 P) :: (nat_lit 241, F.o_314 P) :: (nat_lit 242, F.o_315 P) :: (nat_lit 244, F.o_317 P) :: (nat_lit 245, F.o_318 P) :: (nat_lit 246, F.o_319 P) :: (nat_lit 248, F.o_321 P) :: (nat_lit 249, F.o_322 P) :: (nat_lit 251, F.o_324 P) :: (nat_lit 252, F.o_325 P) :: (nat_lit 253, F.o_326 P) :: (nat_lit 255, F.o_328 P) :: (nat_lit 256, F.o_329 P) :: (nat_lit 258, F.o_331 P) :: (nat_lit 259, F.o_332 P) :: (nat_lit 260, F.o_333 P) :: (nat_lit 262, F.o_335 P) :: (nat_lit 263, F.o_336 P) :: (nat_lit 265, F.o_338 P) :: (nat_lit 266, F.o_339 P) :: (nat_lit 267, F.o_340 P) :: (nat_lit 269, F.o_342 P) :: (nat_lit 270, F.o_343 P) :: (nat_lit 272, F.o_345 P) :: (nat_lit 273, F.o_346 P) :: (nat_lit 274, F.o_347 P) :: (nat_lit 276, F.o_349 P) :: (nat_lit 277, F.o_350 P) :: (nat_lit 279, F.o_352 P) :: (nat_lit 280, F.o_353 P) :: (nat_lit 281, F.o_354 P) :: (nat_lit 283, F.o_356 P) :: (nat_lit 284, F.o_357 P) :: (nat_lit 286, F.o_359 P) :: (nat_lit 287, F.o_360 P) :: (nat_lit 288, F.o_361 P) :: (nat_lit 290, F.o_363 P) :: (nat_lit 291, F.o_364 P) :: (nat_lit 293, F.o_366 P) :: (nat_lit 294, F.o_367 P) :: (nat_lit 295, F.o_371 P) :: (nat_lit 297, F.o_373 P) :: (nat_lit 298, F.o_374 P) :: (nat_lit 300, F.o_376 P) :: (nat_lit 301, F.o_377 P) :: (nat_lit 302, F.o_378 P) :: (nat_lit 305, F.o_381 P) :: (nat_lit 306, F.o_382 P) :: (nat_lit 307, F.o_383 P) :: (nat_lit 309, F.o_385 P) :: (nat_lit 310, F.o_386 P) :: (nat_lit 312, F.o_388 P) :: (nat_lit 313, F.o_389 P) :: (nat_lit 314, F.o_390 P) :: (nat_lit 316, F.o_392 P) :: (nat_lit 317, F.o_393 P) :: (nat_lit 319, F.o_395 P) :: (nat_lit 320, F.o_396 P) :: (nat_lit 321, F.o_397 P) :: (nat_lit 324, F.o_400 P) :: (nat_lit 325, F.o_401 P) :: (nat_lit 326, F.o_402 P) :: (nat_lit 328, F.o_404 P) :: (nat_lit 329, F.o_405 P) :: (nat_lit 331, F.o_407 P) :: (nat_lit 332, F.o_408 P) :: []
theorem kk_get (P : Params) (x0 x1 x2 x3 x4 x5 x6 x7 x8 x9 x10 : FsD) : (KK P).map (fun p => (T152 P x0 x1 x2 x3 x4 x5 x6 x7 x8 x9 x10).get p.1) = (KK P).map (fun p => some p.2) := by kernel_rfl
theorem kk_alive (P : Params) : (KK P).all (fun p => Nat.blt p.1 333 && !p.2.isFreed) = true := by kernel_rfl
theorem lookup_mem {a : Addr} {o : Obj} : ∀ {l : List (Addr × Obj)}, l.lookup a = some o → (a, o) ∈ l
  | [], h => by cases h
  | (b, p) :: l, h => by
    rw [List.lookup_cons] at h
    by_cases e : (a == b) = true
    · rw [e] at h
      cases h
      rw [eq_of_beq e]
      exact .head _
    · rw [Bool.not_eq_true] at e
      rw [e] at h
      exact .tail _ (lookup_mem h)
theorem kk_in (w : World) (os : OsState) (x0 x1 x2 x3 x4 x5 x6 x7 x8 x9 x10 : FsD) : (KK w.params).In (finAbs w os x0 x1 x2 x3 x4 x5 x6 x7 x8 x9 x10).heap := by
  intro a o h
  have hm : (a, o) ∈ KK w.params := lookup_mem h
  have h1 := List.map_inj_left.mp (kk_get w.params x0 x1 x2 x3 x4 x5 x6 x7 x8 x9 x10) (a, o) hm
  have h2 := List.all_eq_true.mp (kk_alive w.params) (a, o) hm
  simp only [Bool.and_eq_true, Bool.not_eq_true'] at h2
  show (absHeap (T152 w.params x0 x1 x2 x3 x4 x5 x6 x7 x8 x9 x10) 333 {}).get? a = some o
  rw [abs_get (Nat.le_of_ble_eq_true h2.1) h1]
  obtain ⟨c, d, dt, sl⟩ := o
  cases dt <;> first | rfl | (exact absurd h2.2 (by simp [Obj.isFreed]))
theorem at_x2 (w : World) (os : OsState) (x0 x1 x2 x3 x4 x5 x6 x7 x8 x9 x10 : FsD) : (finAbs w os x0 x1 x2 x3 x4 x5 x6 x7 x8 x9 x10).heap.get? 163 = some (fsO x2) := get_abs (T := T152 w.params x0 x1 x2 x3 x4 x5 x6 x7 x8 x9 x10) rfl (by kernel_rfl)
theorem at_x4 (w : World) (os : OsState) (x0 x1 x2 x3 x4 x5 x6 x7 x8 x9 x10 : FsD) : (finAbs w os x0 x1 x2 x3 x4 x5 x6 x7 x8 x9 x10).heap.get? 168 = some (fsO x4) := get_abs (T := T152 w.params x0 x1 x2 x3 x4 x5 x6 x7 x8 x9 x10) rfl (by kernel_rfl)
theorem at_x6 (w : World) (os : OsState) (x0 x1 x2 x3 x4 x5 x6 x7 x8 x9 x10 : FsD) : (finAbs w os x0 x1 x2 x3 x4 x5 x6 x7 x8 x9 x10).heap.get? 173 = some (fsO x6) := get_abs (T := T152 w.params x0 x1 x2 x3 x4 x5 x6 x7 x8 x9 x10) rfl (by kernel_rfl)
theorem at_x7 (w : World) (os : OsState) (x0 x1 x2 x3 x4 x5 x6 x7 x8 x9 x10 : FsD) : (finAbs w os x0 x1 x2 x3 x4 x5 x6 x7 x8 x9 x10).heap.get? 174 = some (fsO x7) := get_abs (T := T152 w.params x0 x1 x2 x3 x4 x5 x6 x7 x8 x9 x10) rfl (by kernel_rfl)
theorem at_x9 (w : World) (os : OsState) (x0 x1 x2 x3 x4 x5 x6 x7 x8 x9 x10 : FsD) : (finAbs w os x0 x1 x2 x3 x4 x5 x6 x7 x8 x9 x10).heap.get? 182 = some (fsO x9) := get_abs (T := T152 w.params x0 x1 x2 x3 x4 x5 x6 x7 x8 x9 x10) rfl (by kernel_rfl)
theorem at_x10 (w : World) (os : OsState) (x0 x1 x2 x3 x4 x5 x6 x7 x8 x9 x10 : FsD) : (finAbs w os x0 x1 x2 x3 x4 x5 x6 x7 x8 x9 x10).heap.get? 183 = some (fsO x10) := get_abs (T := T152 w.params x0 x1 x2 x3 x4 x5 x6 x7 x8 x9 x10) rfl (by kernel_rfl)
end
-- HdHold
section
set_option maxRecDepth 100000
set_option maxHeartbeats 8000000
theorem noSusp_fin {s : Shared} (h : s.gens = #[.finished]) : s.NoSusp := by
  intro x hx
  rw [h] at hx
  simp at hx
  subst hx
  trivial
theorem sched_of_comes {p : Program} {w : World} {s s₁ : Shared} {t : Thread} {c : Code} {q : Pos} {v : Value} (hz : s.asleep) (C : Comes (model p w) s t s₁ ⟨.pure (.done (.ret v)), c, q, []⟩) (hg : s₁.gens = #[.finished]) :
    ∃ n t', schedN (denote table) p w n (.single s t) = .running (.single s₁ t') ∧ through t' = true := by
  obtain ⟨n, hn⟩ := C
  have hstep : (model p w).step s₁ ⟨.pure (.done (.ret v)), c, q, []⟩ = .halt (outcomeOf (.ok (.ret v))) s₁ := by
    have := step_leaf_nil (model p w) s₁ c q (.ok (.ret v))
    refine (show (model p w).step s₁ ⟨.pure (.done (.ret v)), c, q, []⟩ = _ from this).trans ?_
    unfold PySem.finish
    have : leftWithCleanup s₁.gens = false := (noSusp_fin hg).noCleanup
    simp [this]
  have h1 : runNI (denote table) p w (n + 1) s t = .halted (outcomeOf (.ok (.ret v))) s₁ := by
    have := runN_snoc hn
    rw [hstep] at this
    exact this
  obtain ⟨s'', hr, hf, hc⟩ := runNI_real _ _ _ h1 (outcomeOf_ends _)
  have hne : ∀ k s₂, runN (denote table) p w k s t ≠ .halted (.unsupported "lifetime:generator-with-cleanup-left-suspended") s₂ := by
    intro k s₂ hk
    have a := runN_mono (denote table) p w (n + 1) k s t _ s'' hr
    have b := runN_mono (denote table) p w k (n + 1) s t _ s₂ hk
    rw [Nat.add_comm, b] at a
    injection a with a1 _
    exact absurd (a1 ▸ outcomeOf_ends (.ok (.ret v))) (by simp [Outcome.ends])
  have hs := schedN_eq_runN (denote table) p w s t hz ⟨hc, hne⟩ n
  obtain ⟨σ, τ, h2, h3, h4⟩ := runNI_running_real (show runNI (denote table) p w n s t = .running s₁ _ from hn)
  obtain rfl := Shared.eq_of_forget_eq' h3 (noSusp_fin hg)
  rw [h2] at hs
  refine ⟨n, τ, hs, ?_⟩
  obtain ⟨cur, code, pos, stack⟩ := τ
  simp only [Thread.forget, Thread.mk.injEq, forgetAll] at h4
  obtain ⟨e1, e2, e3, e4⟩ := h4
  have hst : stack = [] := by cases stack with | nil => rfl | cons x xs => simp at e4
  subst hst e1
  rfl
noncomputable def ctrlL : List Str := kL [[0], [1], [2], [3], [4], [5], [6], [7], [8], [9], [10], [11], [12], [13], [14], [15], [16], [17], [18], [19], [20], [21], [22], [23], [24], [25], [26], [27], [28], [29], [30], [31], [127]]
noncomputable def illBasicL : List Str := kL [[0], [1], [2], [3], [4], [5], [6], [7], [8], [10], [11], [12], [13], [14], [15], [16], [17], [18], [19], [20], [21], [22], [23], [24], [25], [26], [27], [28], [29], [30], [31], [127]]
noncomputable def illMultiL : List Str := kL [[0], [1], [2], [3], [4], [5], [6], [7], [8], [11], [12], [13], [14], [15], [16], [17], [18], [19], [20], [21], [22], [23], [24], [25], [26], [27], [28], [29], [30], [31], [127]]
noncomputable def wsL : List Str := kL [[32], [9]]
noncomputable def wsnlL : List Str := kL [[32], [9], [10]]
noncomputable def hexL : List Str := kL [[48], [49], [50], [51], [52], [53], [54], [55], [56], [57], [97], [98], [99], [100], [101], [102], [65], [66], [67], [68], [69], [70]]
noncomputable abbrev FrS (w : World) (h : Heap) (a : Addr) (l : List Str) : Prop := FrozAt (strKind PW w) h a (fun k => l.contains k) l.length
/-- what is known of the top's heap, besides the ground -/
structure Facts (w : World) (h : Heap) : Prop where
  K : (KK w.params).In h
  s2 : FrS w h 163 ctrlL
  s4 : FrS w h 168 illBasicL
  s6 : FrS w h 173 illMultiL
  s7 : FrS w h 174 wsL
  s9 : FrS w h 182 wsnlL
  s10 : FrS w h 183 hexL
theorem FrS.keeps {w : World} {h h' : Heap} {a : Addr} {l : List Str} (F : FrS w h a l) (k : ∀ b o, h.get? b = some o → h'.get? b = some o) : FrS w h' a l := by
  obtain ⟨es, ep, t, ho, r⟩ := F
  exact ⟨es, ep, t, k _ _ ho, r⟩
theorem Facts.keeps {w : World} {h h' : Heap} (F : Facts w h) (k : ∀ b o, h.get? b = some o → h'.get? b = some o) : Facts w h' :=
  ⟨F.K.keeps k, F.s2.keeps k, F.s4.keeps k, F.s6.keeps k, F.s7.keeps k, F.s9.keeps k, F.s10.keeps k⟩
theorem open_is (w : World) : (fencedOpening treeTable PW w 600).map (fun s => (s.heap, s.gens, s.drawn, s.toks)) = some (boot_heap w.params, Array.mk [], boot_drawn, boot_toks) :=
  boot_open (p := PW) (N := 600) (by kernel_rfl) rfl (fun s => rfl) w
theorem boot_keeps (P : Params) (x0 x1 x2 x3 x4 x5 x6 x7 x8 x9 x10 : FsD) : ((List.range 11).filter (fun i => i != 3 && i != cStatics && i != 6)).map (fun i => (T152 P x0 x1 x2 x3 x4 x5 x6 x7 x8 x9 x10).get i) =
    ((List.range 11).filter (fun i => i != 3 && i != cStatics && i != 6)).map (fun i => (TB P).get i) := by kernel_rfl
theorem ann_is (P : Params) : globalOf (boot_heap P) "__annotations__" = some (.ref 6) := by kernel_rfl
theorem tb_all (P : Params) : (List.range 11).all (fun i => ((TB P).get i).isSome) = true := by kernel_rfl
end
-- HdHold2
section
set_option maxRecDepth 100000
set_option maxHeartbeats 8000000
theorem fin_keeps (P : Params) (x0 x1 x2 x3 x4 x5 x6 x7 x8 x9 x10 : FsD) {b : Addr} {o : Obj} (h : (boot_heap P).get? b = some o) (h1 : b ≠ mainNs) (h2 : b ≠ cStatics) (h3 : b ≠ 6) :
    (absHeap (T152 P x0 x1 x2 x3 x4 x5 x6 x7 x8 x9 x10) 333 {}).get? b = some o := by
  rw [← bootT] at h
  have hb : b < 11 := by
    have := Heap.lt_size h
    rwa [absHeap_size] at this
  have hm : b ∈ (List.range 11).filter (fun i => i != 3 && i != cStatics && i != 6) := by
    rw [List.mem_filter]
    refine ⟨List.mem_range.mpr hb, ?_⟩
    simp only [Bool.and_eq_true, bne_iff_ne]
    exact ⟨⟨h1, h2⟩, h3⟩
  have e := List.map_inj_left.mp (boot_keeps P x0 x1 x2 x3 x4 x5 x6 x7 x8 x9 x10) b hm
  obtain ⟨o', ho⟩ := Option.isSome_iff_exists.mp (List.all_eq_true.mp (tb_all P) b (List.mem_range.mpr hb))
  rw [abs_get hb ho] at h
  rw [abs_get (Nat.lt_of_lt_of_le hb (by decide)) (e.trans ho)]
  exact h
theorem behind_mine (w : World) : (∃ s, AfterRun (opening PW) w s) ∧ ∀ s', AfterRun (opening PW) w s' → ∃ s₀, fenceModules? PW s' = some s₀ ∧ s₀.gens = #[] ∧ ∃ s₁, TopRan PW w s₀ s₁ ∧ s₁.asleep ∧ leftWithCleanup s₁.gens = false ∧
    s₁.heap.isNs mainGlobals = true ∧ Ground qv looseL [] (fun _ _ => True) w s₁ (s₁.heap.nsMap mainGlobals) (s₁.heap.nsMap builtinsNs) s₁.heap ∧ Facts w s₁.heap := by
  obtain ⟨s₀, h2, hv⟩ := Option.map_eq_some_iff.mp (open_is w)
  rw [← table_eq_tree] at h2
  unfold fencedOpening at h2
  obtain ⟨s, h4, h5⟩ := Option.bind_eq_some_iff.mp h2
  have A := AfterImport.of_importEnds h4
  refine ⟨⟨s, A⟩, fun s' hs' => ?_⟩
  obtain rfl : s' = s := AfterImport.unique hs' A
  have z : s₀.asleep := Shared.asleep_of_life (fence_lifeW h5) A.life
  obtain ⟨heap, gens, drawn, toks, os⟩ := s₀
  simp only [Prod.mk.injEq] at hv
  obtain ⟨rfl, rfl, rfl, rfl⟩ := hv
  obtain ⟨x0, x1, x2, x3, x4, x5, x6, x7, x8, x9, x10, g2, g4, g6, g7, g9, g10, C⟩ := run_top w os
  have e0 : (SharedT.mk (TB w.params) 11 {} #[] boot_drawn boot_toks os).abs = ⟨boot_heap w.params, Array.mk [], boot_drawn, boot_toks, os⟩ := by
    show Shared.mk (absHeap (TB w.params) 11 {}) _ _ _ _ = _
    rw [bootT]
  rw [e0] at C
  obtain ⟨G, q0, q1, q2, q3, q4, q5⟩ := ground_of_open (w := w) (XP := fun _ _ => True) (fun _ _ => trivial) chains_ok (looks w os x0 x1 x2 x3 x4 x5 x6 x7 x8 x9 x10)
  have hl2 := looks2 w os x0 x1 x2 x3 x4 x5 x6 x7 x8 x9 x10
  obtain ⟨hs, hlk⟩ := Bool.and_eq_true_iff.mp hl2
  obtain ⟨hs, hgd⟩ := Bool.and_eq_true_iff.mp hs
  obtain ⟨hs, hnb⟩ := Bool.and_eq_true_iff.mp hs
  have hlife : (finAbs w os x0 x1 x2 x3 x4 x5 x6 x7 x8 x9 x10).heap.life = (boot_heap w.params).life := rfl
  refine ⟨_, h5, rfl, finAbs w os x0 x1 x2 x3 x4 x5 x6 x7 x8 x9 x10, ⟨sched_of_comes z C rfl, hlife, Shared.rest_eq rfl, fun b o hb hn => ?_, q2, statics_of_ok hs, q3, q4, q5, gens_of_done hgd, names_of_bound hnb, laid_of_kept hlk⟩,
    Shared.asleep_of_life hlife z, (noSusp_fin rfl).noCleanup, q1, G, kk_in w os x0 x1 x2 x3 x4 x5 x6 x7 x8 x9 x10,
    g2.froz (at_x2 w os x0 x1 x2 x3 x4 x5 x6 x7 x8 x9 x10), g4.froz (at_x4 w os x0 x1 x2 x3 x4 x5 x6 x7 x8 x9 x10), g6.froz (at_x6 w os x0 x1 x2 x3 x4 x5 x6 x7 x8 x9 x10),
    g7.froz (at_x7 w os x0 x1 x2 x3 x4 x5 x6 x7 x8 x9 x10), g9.froz (at_x9 w os x0 x1 x2 x3 x4 x5 x6 x7 x8 x9 x10), g10.froz (at_x10 w os x0 x1 x2 x3 x4 x5 x6 x7 x8 x9 x10)⟩
  exact fin_keeps w.params x0 x1 x2 x3 x4 x5 x6 x7 x8 x9 x10 hb (fun q => hn (.inl q)) (fun q => hn (.inr (.inl q))) (fun q => hn (.inr (.inr (by rw [q]; exact ann_is w.params))))
end
-- HdFin
section
set_option maxRecDepth 100000
set_option maxHeartbeats 8000000
noncomputable abbrev XP0 : (Str → Option Value) → Heap → Prop := fun _ _ => True
/-- what is left: the call -/
noncomputable abbrev WalkM : Prop :=
  ∀ (w : World) (s₀ s₁ : Shared) (mg mb : Str → Option Value), Ground qv looseL RR.records XP0 w s₀ mg mb s₁.heap → Facts w s₁.heap → ∀ (f : Value), mg RR.name = some f → s₁.gens = #[] →
    ∀ (args : List WData) (vals : List Value) (as : List Addr), RR.claim.pre args = true → WData.layableAll args = true → ReadsAllW RR.records (classAt s₀.heap) s₁.heap vals args as → WellAll w.params s₁.heap vals args → (∀ a ∈ as, (a == sysModules) = false) →
      wpAny (model RR.prog w) callerA (PySem.call f vals) (fun v s' => GoodW RR.claim (classAt s₀.heap) (ExcName.means s₀.heap) args s₁ (.ok (.ret v)) s')
        (fun e s' => GoodW RR.claim (classAt s₀.heap) (ExcName.means s₀.heap) args s₁ (.error e) s') s₁
theorem frees_ok : (frees RR && RR.within.isEmpty) = true := by rfl
theorem opens_ok : opensWell PW = true := by kernel_rfl
theorem pin_mine {w : World} {s : Shared} (hg : s.heap.isNs mainGlobals = true) (G : Ground qv looseL [] XP0 w s (s.heap.nsMap mainGlobals) (s.heap.nsMap builtinsNs) s.heap) : isTheDefsW PW s.heap RR.name :=
  pinned_of_view (q := qv) (loose := looseL) hg G (by rfl) (by rfl) (by rfl)
theorem open_mine (call : WalkM) (hw : RR.promised) : RR.claim.HoldsOpenBy (callStub RR.name) [RR.name] RW.row.keeps false := by
  obtain ⟨k5, k6⟩ := Bool.and_eq_true_iff.mp frees_ok
  obtain ⟨hsame, hu, ha, hap, hm⟩ := frees_parts k5
  refine ⟨⟨⟨rfl, rfl, rfl, rfl, rfl, by decide +kernel⟩, opens_ok, rfl⟩, hw.witness, fun w => ⟨(behind_mine w).1, fun s' hs' => ?_⟩⟩
  obtain ⟨s₀, hf, hg0, s, hT, hz, hgens, hg, G, y⟩ := (behind_mine w).2 s' hs'
  refine ⟨s₀, hf, hg0, s, hT, fun n hn => ?_, fun x hx => (nomatch hx), fun x hx => (nomatch hx), ?_⟩
  · obtain rfl := List.mem_singleton.mp hn
    exact pin_mine hg G
  refine ClaimW.callFrom_of_specN (c := RR.claim) hz hgens fun args hpre hlay ord hord => ?_
  obtain ⟨⟨vs, s₁⟩, hlaid⟩ := Option.isSome_iff_exists.mp (layAllW_isSome (P := w.params) (ord := ord) G.has args RR.args s (pre_splitW hpre).1)
  have keeps := layAllW_keeps _ _ _ hlaid
  have hal := layAllW_rest _ _ _ hlaid
  obtain ⟨as, hrd, hin, hold⟩ := reads_layAllW hord _ _ _ hlaid hlay s₁.heap (fun _ _ e => e)
  have G₁ := G.keeps (fun _ _ _ x _ => x) keeps
  obtain ⟨⟨d, kwd⟩, hd⟩ : ∃ d, defOf qv RR.name = some d := Option.isSome_iff_exists.mp (by kernel_rfl)
  obtain ⟨a, o, pm, cd, doc, dV, kV, f1, _⟩ := G₁.fn hd
  have h := call w s { s₁ with gens := #[] } _ _ G₁ (y.keeps keeps) (.ref a) f1 rfl args vs as hpre hlay hrd (well_layAllW hord args s _ hlaid _ fun _ _ e => e)
    (fun a ha => beq_eq_false_iff_ne.mpr fun e => by have := (hin.2.2 a ha).1; subst e; exact absurd G.low (Nat.not_lt.mpr this))
  have hi := ident_freeW hu ha hap
  have hwi : RR.claim.within = [] := List.isEmpty_iff.mp k6
  refine ⟨vs, s₁, hlaid, ?_⟩
  refine wpAny_bind (wpAny_nsGet G₁.T.g ?_)
  rw [f1]
  refine wpAny_bind (wpAny_mono h (fun v s' g => wpAny_pure ⟨_, rfl, ?_⟩) fun e s' g => ?_)
  · have z := g.endsN (c := RR.claim) hsame hwi hi hrd hold hal.2.2.1
    exact ⟨z.1, z.2.1, z.2.2, fun q => (nomatch q)⟩
  · have z := g.endsN (c := RR.claim) hsame hwi hi hrd hold hal.2.2.1
    exact ⟨z.1, z.2.1, z.2.2, fun q => (nomatch q)⟩
end
-- HdTab
section
set_option maxRecDepth 100000
set_option maxHeartbeats 8000000
theorem at_tab (w : World) (os : OsState) (x0 x1 x2 x3 x4 x5 x6 x7 x8 x9 x10 : FsD) : (finAbs w os x0 x1 x2 x3 x4 x5 x6 x7 x8 x9 x10).heap.get? 254 = some (tabObj #[]) := by
  have h : (T152 w.params x0 x1 x2 x3 x4 x5 x6 x7 x8 x9 x10).get 254 = some (tabObj #[]) := by kernel_rfl
  show (absHeap (T152 w.params x0 x1 x2 x3 x4 x5 x6 x7 x8 x9 x10) 333 {}).get? 254 = some _
  rw [abs_get (by decide) h]
  rfl
theorem behind_tab (w : World) : (∃ s, AfterRun (opening PW) w s) ∧ ∀ s', AfterRun (opening PW) w s' → ∃ s₀, fenceModules? PW s' = some s₀ ∧ s₀.gens = #[] ∧ ∃ s₁, TopRan PW w s₀ s₁ ∧ s₁.asleep ∧ leftWithCleanup s₁.gens = false ∧
    s₁.heap.isNs mainGlobals = true ∧ Ground qv looseL [] (fun _ _ => True) w s₁ (s₁.heap.nsMap mainGlobals) (s₁.heap.nsMap builtinsNs) s₁.heap ∧ Facts w s₁.heap ∧ s₁.heap.get? 254 = some (tabObj #[]) := by
  obtain ⟨s₀, h2, hv⟩ := Option.map_eq_some_iff.mp (open_is w)
  rw [← table_eq_tree] at h2
  unfold fencedOpening at h2
  obtain ⟨s, h4, h5⟩ := Option.bind_eq_some_iff.mp h2
  have A := AfterImport.of_importEnds h4
  refine ⟨⟨s, A⟩, fun s' hs' => ?_⟩
  obtain rfl : s' = s := AfterImport.unique hs' A
  have z : s₀.asleep := Shared.asleep_of_life (fence_lifeW h5) A.life
  obtain ⟨heap, gens, drawn, toks, os⟩ := s₀
  simp only [Prod.mk.injEq] at hv
  obtain ⟨rfl, rfl, rfl, rfl⟩ := hv
  obtain ⟨x0, x1, x2, x3, x4, x5, x6, x7, x8, x9, x10, g2, g4, g6, g7, g9, g10, C⟩ := run_top w os
  have e0 : (SharedT.mk (TB w.params) 11 {} #[] boot_drawn boot_toks os).abs = ⟨boot_heap w.params, Array.mk [], boot_drawn, boot_toks, os⟩ := by
    show Shared.mk (absHeap (TB w.params) 11 {}) _ _ _ _ = _
    rw [bootT]
  rw [e0] at C
  obtain ⟨G, q0, q1, q2, q3, q4, q5⟩ := ground_of_open (w := w) (XP := fun _ _ => True) (fun _ _ => trivial) chains_ok (looks w os x0 x1 x2 x3 x4 x5 x6 x7 x8 x9 x10)
  have hl2 := looks2 w os x0 x1 x2 x3 x4 x5 x6 x7 x8 x9 x10
  obtain ⟨hs, hlk⟩ := Bool.and_eq_true_iff.mp hl2
  obtain ⟨hs, hgd⟩ := Bool.and_eq_true_iff.mp hs
  obtain ⟨hs, hnb⟩ := Bool.and_eq_true_iff.mp hs
  have hlife : (finAbs w os x0 x1 x2 x3 x4 x5 x6 x7 x8 x9 x10).heap.life = (boot_heap w.params).life := rfl
  refine ⟨_, h5, rfl, finAbs w os x0 x1 x2 x3 x4 x5 x6 x7 x8 x9 x10, ⟨sched_of_comes z C rfl, hlife, Shared.rest_eq rfl, fun b o hb hn => ?_, q2, statics_of_ok hs, q3, q4, q5, gens_of_done hgd, names_of_bound hnb, laid_of_kept hlk⟩,
    Shared.asleep_of_life hlife z, (noSusp_fin rfl).noCleanup, q1, G, ⟨kk_in w os x0 x1 x2 x3 x4 x5 x6 x7 x8 x9 x10,
    g2.froz (at_x2 w os x0 x1 x2 x3 x4 x5 x6 x7 x8 x9 x10), g4.froz (at_x4 w os x0 x1 x2 x3 x4 x5 x6 x7 x8 x9 x10), g6.froz (at_x6 w os x0 x1 x2 x3 x4 x5 x6 x7 x8 x9 x10),
    g7.froz (at_x7 w os x0 x1 x2 x3 x4 x5 x6 x7 x8 x9 x10), g9.froz (at_x9 w os x0 x1 x2 x3 x4 x5 x6 x7 x8 x9 x10), g10.froz (at_x10 w os x0 x1 x2 x3 x4 x5 x6 x7 x8 x9 x10)⟩, at_tab w os x0 x1 x2 x3 x4 x5 x6 x7 x8 x9 x10⟩
  exact fin_keeps w.params x0 x1 x2 x3 x4 x5 x6 x7 x8 x9 x10 hb (fun q => hn (.inl q)) (fun q => hn (.inr (.inl q))) (fun q => hn (.inr (.inr (by rw [q]; exact ann_is w.params))))
/-- the claim's end where a code's table may grow -/
noncomputable def GoodT (c : ClaimW) (cl : Str → Option Addr) (mean : ExcName → Option Value) (args : List WData) (s₁ : Shared) (res : Result) (s' : Shared) : Prop :=
  ((∃ v d as, res = .ok (.ret v) ∧ (∀ cls, c.raises args cls = false) ∧ ReadsW c.records cl s'.heap v d as ∧ c.post args d args = true ∧
      (c.unshared = true → as.Nodup ∧ ∀ a ∈ as, s₁.heap.get? a = none)) ∨
    (∃ e ob cls, res = .error (.ref e) ∧ s'.heap.get? e = some ob ∧ mean cls = some ob.cls ∧ c.raises args cls = true ∧ s₁.heap.get? e = none)) ∧
  OldK s₁.heap s'.heap ∧ s'.os = s₁.os ∧ s'.gens = #[]
theorem GoodT.ends {c : ClaimW} {s₀ s₁ s' : Shared} {args : List WData} {vs : List Value} {as : List Addr} {r : Result} (hsame : c.same = none) (hwi : c.within = []) (hi : ∀ a b, c.ident a b = true)
    (hrd : ReadsAllW c.records (classAt s₀.heap) s₁.heap vs args as) (hold : ∀ a ∈ as, ∃ o, s₁.heap.get? a = some o) (hos₁ : s₁.os = s₀.os)
    (g : GoodT c (classAt s₀.heap) (ExcName.means s₀.heap) args { s₁ with gens := #[] } r s') : c.Ends s₀ args vs s₁ r s' ∧ s'.os = s₀.os ∧ s'.gens = #[] := by
  obtain ⟨hcase, hK, hos, hg'⟩ := g
  refine ⟨?_, hos.trans hos₁, hg'⟩
  rcases hcase with ⟨v, d, bs, rfl, hnr, hrv, hpost, hun⟩ | ⟨e, ob, cls, rfl, he, hcls, hpr, hnew⟩
  · exact .inl ⟨v, rfl, hnr, ⟨d, args, bs, as, hrv, hrd.keepsK fun b o e hc => hK.get_of_cls e hc, hpost, fun hu => ⟨(hun hu).1, (hun hu).2, fun a ha hb' => by
      obtain ⟨o, ho⟩ := hold a hb'
      have := (hun hu).2 a ha
      rw [show s₁.heap.get? a = none from this] at ho; cases ho⟩, fun _ _ => hi _ _⟩, (fun i hi' => by rw [hsame] at hi'; cases hi'), (fun b o hb' _ _ => hK.old b o hb'), fun i hi' => by rw [hwi] at hi'; cases hi'⟩
  · exact .inr ⟨e, ob, cls, rfl, he, hcls, hpr, hnew, fun b o hb' => hK.old b o hb'⟩
/-- what is left: the call -/
noncomputable abbrev WalkT : Prop :=
  ∀ (w : World) (s₀ s₁ : Shared) (mg mb : Str → Option Value), Ground qv looseL RR.records XP0 w s₀ mg mb s₁.heap → Facts w s₁.heap → s₁.heap.get? 254 = some (tabObj #[]) → ∀ (f : Value), mg RR.name = some f → s₁.gens = #[] →
    ∀ (args : List WData) (vals : List Value) (as : List Addr), RR.claim.pre args = true → WData.layableAll args = true → ReadsAllW RR.records (classAt s₀.heap) s₁.heap vals args as → WellAll w.params s₁.heap vals args → (∀ a ∈ as, (a == sysModules) = false) →
      wpAny (model RR.prog w) callerA (PySem.call f vals) (fun v s' => GoodT RR.claim (classAt s₀.heap) (ExcName.means s₀.heap) args s₁ (.ok (.ret v)) s')
        (fun e s' => GoodT RR.claim (classAt s₀.heap) (ExcName.means s₀.heap) args s₁ (.error e) s') s₁
theorem open_tab (call : WalkT) (hw : RR.promised) : RR.claim.HoldsOpenBy (callStub RR.name) [RR.name] RW.row.keeps false := by
  obtain ⟨k5, k6⟩ := Bool.and_eq_true_iff.mp frees_ok
  obtain ⟨hsame, hu, ha, hap, hm⟩ := frees_parts k5
  refine ⟨⟨⟨rfl, rfl, rfl, rfl, rfl, by decide +kernel⟩, opens_ok, rfl⟩, hw.witness, fun w => ⟨(behind_tab w).1, fun s' hs' => ?_⟩⟩
  obtain ⟨s₀, hf, hg0, s, hT, hz, hgens, hg, G, y, yt⟩ := (behind_tab w).2 s' hs'
  refine ⟨s₀, hf, hg0, s, hT, fun n hn => ?_, fun x hx => (nomatch hx), fun x hx => (nomatch hx), ?_⟩
  · obtain rfl := List.mem_singleton.mp hn
    exact pin_mine hg G
  refine ClaimW.callFrom_of_specN (c := RR.claim) hz hgens fun args hpre hlay ord hord => ?_
  obtain ⟨⟨vs, s₁⟩, hlaid⟩ := Option.isSome_iff_exists.mp (layAllW_isSome (P := w.params) (ord := ord) G.has args RR.args s (pre_splitW hpre).1)
  have keeps := layAllW_keeps _ _ _ hlaid
  have hal := layAllW_rest _ _ _ hlaid
  obtain ⟨as, hrd, hin, hold⟩ := reads_layAllW hord _ _ _ hlaid hlay s₁.heap (fun _ _ e => e)
  have G₁ := G.keeps (fun _ _ _ x _ => x) keeps
  obtain ⟨⟨d, kwd⟩, hd⟩ : ∃ d, defOf qv RR.name = some d := Option.isSome_iff_exists.mp (by kernel_rfl)
  obtain ⟨a, o, pm, cd, doc, dV, kV, f1, _⟩ := G₁.fn hd
  have h := call w s { s₁ with gens := #[] } _ _ G₁ (y.keeps keeps) (keeps _ _ yt) (.ref a) f1 rfl args vs as hpre hlay hrd (well_layAllW hord args s _ hlaid _ fun _ _ e => e)
    (fun a ha => beq_eq_false_iff_ne.mpr fun e => by have := (hin.2.2 a ha).1; subst e; exact absurd G.low (Nat.not_lt.mpr this))
  have hi := ident_freeW hu ha hap
  have hwi : RR.claim.within = [] := List.isEmpty_iff.mp k6
  refine ⟨vs, s₁, hlaid, ?_⟩
  refine wpAny_bind (wpAny_nsGet G₁.T.g ?_)
  rw [f1]
  refine wpAny_bind (wpAny_mono h (fun v s' g => wpAny_pure ⟨_, rfl, ?_⟩) fun e s' g => ?_)
  · have z := GoodT.ends (c := RR.claim) hsame hwi hi hrd hold hal.2.2.1 g
    exact ⟨z.1, z.2.1, z.2.2, fun q => (nomatch q)⟩
  · have z := GoodT.ends (c := RR.claim) hsame hwi hi hrd hold hal.2.2.1 g
    exact ⟨z.1, z.2.1, z.2.2, fun q => (nomatch q)⟩
end
-- Wk0
section
/-- a mark that names the written part and the row: k_fill looks for them -/
noncomputable def Tag (_K : Params → Frag) (_l : OpenLaw) (P : Prop) : Prop := P
theorem Tag.mk {K : Params → Frag} {l : OpenLaw} {P : Prop} (h : P) : Tag K l P := h
noncomputable abbrev TopQ (w : World) (mean : ExcName → Option Value) (mg mb : Str → Option Value) (h : Heap) : Prop := Top qv (looseW qv looseL) mean mg mb h
/-- where a call stands -/
structure At (w : World) (A : Around) (outer : List Env) (env : Env) (A₀ : Around) (base h₀ : Heap) (L : Addr) (m : Str → Option Value) (news : List (Addr × Obj)) (h : Heap) (mean : ExcName → Option Value) (mg mb : Str → Option Value) : Prop where
  B : Below A₀ base outer h₀
  F : Fr h₀ L h m
  X : Facts w h₀
  N : News h₀ L h news
  T : TopQ w mean mg mb h₀
  hA : A.frames = some (env :: outer)
  hf : env.frame = some L
  hk : env.scope.kind = .function
/-- a contract: called anywhere with these values, the def hands back a value of R, with new objects -/
noncomputable def Spec (w : World) (d : Nat) (f : Addr) (vs : List Value) (R : Value → List (Addr × Obj) → Prop) : Prop :=
  ∀ (A : Around) (outer : List Env) (env : Env) (A₀ : Around) (base h₀ : Heap) (L : Addr) (m : Str → Option Value) (news : List (Addr × Obj)) (s : Shared) (mean : ExcName → Option Value) (mg mb : Str → Option Value) (Q E : Value → Shared → Prop),
    At w A outer env A₀ base h₀ L m news s.heap mean mg mb → A.handled = none → A.depth + d < recursionLimit →
    (∀ v tl h' tk', Fr h₀ L h' m → News h₀ L h' (tl ++ news) → R v tl → Q v { s with heap := h', toks := tk' }) →
    wpAny (model PW w) A (call (.ref f) vs) Q E s
theorem dp1 {A : Around} {env : Env} {d d' : Nat} (h : A.depth + d < recursionLimit) (hd : Nat.ble (d' + 1) d = true) : (A.deeper env).depth + d' < recursionLimit := by
  have := Nat.le_of_ble_eq_true hd
  rw [depth_deeper]; omega
theorem dp0 {A : Around} {d d' : Nat} (h : A.depth + d < recursionLimit) (hd : Nat.ble d' d = true) : A.depth + d' < recursionLimit := by
  have := Nat.le_of_ble_eq_true hd
  omega
/-! Two maps of names are equal: both are some map m0 but for the names ks, and there they agree. -/
noncomputable def Ov (ks : List Str) (m m0 : Str → Option Value) : Prop := ∀ y, ks.contains y = false → m y = m0 y
theorem Ov.here {ks : List Str} {m : Str → Option Value} : Ov ks m m := fun _ _ => rfl
theorem Ov.upd {ks : List Str} {k : Str} {v : Option Value} {m m0 : Str → Option Value} (hk : ks.contains k = true) (h : Ov ks m m0) : Ov ks (fun y => if y = k then v else m y) m0 := fun y hy => by
  have : y ≠ k := fun e => by rw [e, hk] at hy; cases hy
  exact (if_neg this).trans (h y hy)
noncomputable def look (m : Str → Option Value) (k : Str) : Option Value := m k
noncomputable def EqOn : List Str → (Str → Option Value) → (Str → Option Value) → Prop
  | [], _, _ => True
  | k :: l, m, m' => look m k = look m' k ∧ EqOn l m m'
theorem EqOn.nil {m m' : Str → Option Value} : EqOn [] m m' := True.intro
theorem EqOn.cons {k : Str} {l : List Str} {m m' : Str → Option Value} (h : look m k = look m' k) (t : EqOn l m m') : EqOn (k :: l) m m' := ⟨h, t⟩
theorem EqOn.at {m m' : Str → Option Value} {y : Str} : ∀ {ks : List Str}, EqOn ks m m' → ks.contains y = true → m y = m' y
  | [], _, h => by cases h
  | k :: l, e, h => by
    rw [List.contains_cons, Bool.or_eq_true] at h
    rcases h with h | h
    · rw [eq_of_beq h]; exact e.1
    · exact EqOn.at e.2 h
theorem Ov.eq {ks : List Str} {m m' m0 : Str → Option Value} (h : Ov ks m m0) (h' : Ov ks m' m0) (hv : EqOn ks m m') : m = m' := funext fun y => by
  cases hy : ks.contains y with
  | false => exact (h y hy).trans (h' y hy).symm
  | true => exact hv.at hy
/-- a frame's map gets a name -/
theorem let_map {G : Prop} {h₀ h : Heap} {L : Addr} {m : Str → Option Value} (F : Fr h₀ L h m) (k : let M := m; Fr h₀ L h M → G) : G := k F
/-- the call of a def whose contract stands -/
theorem call_spec {w : World} {d : Nat} {f : Addr} {vs : List Value} {R : Value → List (Addr × Obj) → Prop} (S : Tag KK RW (Spec w d f vs R)) {A : Around} {outer : List Env} {env : Env} {A₀ : Around} {base h₀ : Heap} {L : Addr} {m : Str → Option Value} {news : List (Addr × Obj)} {sh : Heap} {sg : Array GenState} {sd : Drawn} {sk : Nat} {so : OsState} {mean : ExcName → Option Value} {mg mb : Str → Option Value} {Q E : Value → Shared → Prop}
    (B : Below A₀ base outer h₀) (F : Fr h₀ L sh m) (X : Facts w h₀) (N : News h₀ L sh news) (T : TopQ w mean mg mb h₀) (hA : A.frames = some (env :: outer)) (hf : env.frame = some L) (hk : env.scope.kind = .function)
    (hh : A.handled = none) (hd : A.depth + d < recursionLimit)
    (h : ∀ v tl h' tk', R v tl → Fr h₀ L h' m → News h₀ L h' (tl ++ news) → Q v ⟨h', sg, sd, tk', so⟩) :
    wpAny (model PW w) A (call (.ref f) vs) Q E ⟨sh, sg, sd, sk, so⟩ :=
  S A outer env A₀ base h₀ L m news ⟨sh, sg, sd, sk, so⟩ mean mg mb Q E ⟨B, F, X, N, T, hA, hf, hk⟩ hh hd fun v tl h' tk' F' N' r => h v tl h' tk' r F' N'
theorem sub_str₀ {prog : Program} {w : World} {A : Around} {E : Value → Shared → Prop} {s : Shared} {value slice : Expr} {x : Str} {t u : Tok} {i : Int} {c : Nat} {Q : Value → Shared → Prop} (h0 : 0 ≤ i) (hi : i < 2 ^ 62) (hc : x.cps[i.toNat]? = some c)
    (h : Q (.str ⟨#[c]⟩ s.toks) { s with toks := s.toks + 1 })
    (hs : subscripted slice false (.str x t) (.int i u) = operate [.str x t, .int i u] (getItem (.str x t) (.int i u)) := by with_unfolding_all rfl) :
    wpAny (model prog w) A (subscriptTail value slice (.str x t) (.int i u)) Q E s := by
  have hlt : i.toNat < x.length := by
    obtain ⟨q, _⟩ := Array.getElem?_eq_some_iff.mp hc
    exact q
  have hr : (decide (i < -(2 ^ 63 : Int)) || decide (i ≥ 2 ^ 63)) = false := by
    rw [Bool.or_eq_false_iff]
    exact ⟨decide_eq_false (by omega), decide_eq_false (by omega)⟩
  have hq : (seqIndex? i x.length).bind (x.cps[·]?) = some c := by
    have : seqIndex? i x.length = some i.toNat := by
      unfold seqIndex?
      rw [if_neg (Int.not_lt.mpr h0)]
      dsimp only
      rw [if_pos (by rw [Bool.and_eq_true, decide_eq_true_eq, decide_eq_true_eq]; omega)]
    rw [this]
    exact hc
  exact tail_any (typeIs_str s x t) F.slot_str_getitem.lookup (P.getItem_str hr hq h) hs
theorem sub_str {prog : Program} {w : World} {A : Around} {E : Value → Shared → Prop} {sh : Heap} {sg : Array GenState} {sd : Drawn} {sk : Nat} {so : OsState} {value slice : Expr} {x : Str} {t u : Tok} {i : Int} {c : Nat} {Q : Value → Shared → Prop} (h0 : 0 ≤ i) (hi : i < 2 ^ 62) (hc : x.cps[i.toNat]? = some c)
    (h : Q (.str ⟨#[c]⟩ sk) ⟨sh, sg, sd, sk + 1, so⟩)
    (hs : subscripted slice false (.str x t) (.int i u) = operate [.str x t, .int i u] (getItem (.str x t) (.int i u)) := by with_unfolding_all rfl) :
    wpAny (model prog w) A (subscriptTail value slice (.str x t) (.int i u)) Q E ⟨sh, sg, sd, sk, so⟩ := sub_str₀ (s := ⟨sh, sg, sd, sk, so⟩) h0 hi hc h hs
theorem pos_eq {a b : Int} {t : Tok} (h : a = b) : some (Value.int a t) = some (Value.int b t) := h ▸ rfl
theorem in_fz₀ {w : World} {A : Around} {E : Value → Shared → Prop} {s : Shared} {a L : Addr} {h₀ : Heap} {m : Str → Option Value} {l : List Str} {x : Str} {t : Tok} {b : Bool} {Q : Value → Shared → Prop} (F : Fr h₀ L s.heap m) (hS : FrS w h₀ a l) (hb : Nat.blt l.length 100 = true) (e : l.contains x = b)
    (h : Q (.bool b) { s with toks := s.toks + 1 }) : wpAny (model PW w) A (compareOp .In (.str x t) (.ref a)) Q E s := by
  subst e
  exact in_froz (k := x) F hS (isStrOf_self x t) rfl (by have := Nat.le_of_ble_eq_true hb; omega) h
theorem in_fz {w : World} {A : Around} {E : Value → Shared → Prop} {sh : Heap} {sg : Array GenState} {sd : Drawn} {sk : Nat} {so : OsState} {a L : Addr} {h₀ : Heap} {m : Str → Option Value} {l : List Str} {x : Str} {t : Tok} {b : Bool} {Q : Value → Shared → Prop} (F : Fr h₀ L sh m) (hS : FrS w h₀ a l) (hb : Nat.blt l.length 100 = true) (e : l.contains x = b)
    (h : Q (.bool b) ⟨sh, sg, sd, sk + 1, so⟩) : wpAny (model PW w) A (compareOp .In (.str x t) (.ref a)) Q E ⟨sh, sg, sd, sk, so⟩ := in_fz₀ (s := ⟨sh, sg, sd, sk, so⟩) F hS hb e h
/-! Steps of the walk whose next state is written with no projection of the last one. -/
section
variable {M : Model} {A : Around} {E : Value → Shared → Prop} {env : Env} {h : Heap} {g : Array GenState} {d : Drawn} {k : Nat} {o : OsState}
/-- what is left of a block behind a statement -/
noncomputable def KC (M : Model) (A : Around) (rest : List Stmt) (env : Env) (Q : Flow → Shared → Prop) (E : Value → Shared → Prop) (f : Flow) (s : Shared) : Prop := match f with | .next => wpAny M A (execs rest env) Q E s | f => Q f s
theorem execs_K {st : Stmt} {rest : List Stmt} {s : Shared} {Q : Flow → Shared → Prop} (h : wpAny M A (exec st env) (KC M A rest env Q E) E s) : wpAny M A (execs (st :: rest) env) Q E s := wpAny_execs_cons h
theorem KC.last {s : Shared} {Q : Flow → Shared → Prop} (h : Q .next s) : KC M A [] env Q E .next s := wpAny_execs_nil h
theorem KC.go {rest : List Stmt} {s : Shared} {Q : Flow → Shared → Prop} (h : wpAny M A (execs rest env) Q E s) : KC M A rest env Q E .next s := h
theorem KC.ret {rest : List Stmt} {s : Shared} {v : Value} {Q : Flow → Shared → Prop} (h : Q (.ret v) s) : KC M A rest env Q E (.ret v) s := h
theorem KC.brk {rest : List Stmt} {s : Shared} {Q : Flow → Shared → Prop} (h : Q .brk s) : KC M A rest env Q E .brk s := h
theorem KC.cont {rest : List Stmt} {s : Shared} {Q : Flow → Shared → Prop} (h : Q .cont s) : KC M A rest env Q E .cont s := h
theorem c_str {x : Str} {n : Nat} {pos : Pos} {Q : Value → Shared → Prop} (e : Q (.str x k) ⟨h, g, d, k + 1, o⟩) : wpAny M A (eval (.Constant (.str x) n pos) env) Q E ⟨h, g, d, k, o⟩ := Calls.Constant_str e
theorem c_int {i : Int} {n : Nat} {pos : Pos} {Q : Value → Shared → Prop} (e : Q (.int i k) ⟨h, g, d, k + 1, o⟩) : wpAny M A (eval (.Constant (.int i) n pos) env) Q E ⟨h, g, d, k, o⟩ := wpAny_Constant_int e
theorem st_L {h₀ : Heap} {L a : Addr} {m : Str → Option Value} {cn : Str} {cs : Scope} {ccd : Value} {cl : List (Str × Addr)} {x : Str} {v : Value} {news : List (Addr × Obj)} {Q : Unit → Shared → Prop} (F : Fr h₀ L h m) (N : News h₀ L h news)
    (e : ∀ h', Fr h₀ L h' (fun y => if y = x then some v else m y) → News h₀ L h' news → Q () ⟨h', g, d, k + 1, o⟩)
    (hk : cs.kind = .function := by rfl) (hx : (envX cn cs L a ccd cl).kindOf x = some .local := by rfl) : wpAny M A (storeName (envX cn cs L a ccd cl) x v) Q E ⟨h, g, d, k, o⟩ := storeX_L F N e hk hx
theorem a_add {prog : Program} {w : World} {a b : Int} {t u : Tok} {Q : Value → Shared → Prop} (e : Q (.int (a + b) k) ⟨h, g, d, k + 1, o⟩) : wpAny (model prog w) A (binaryOp .Add (.int a t) (.int b u)) Q E ⟨h, g, d, k, o⟩ := add_int e
theorem a_iadd {prog : Program} {w : World} {a b : Int} {t u : Tok} {Q : Value → Shared → Prop} (e : Q (.int (a + b) k) ⟨h, g, d, k + 1, o⟩) : wpAny (model prog w) A (inplaceOp .Add (.int a t) (.int b u)) Q E ⟨h, g, d, k, o⟩ := iadd_int e
theorem a_sub {prog : Program} {w : World} {a b : Int} {t u : Tok} {Q : Value → Shared → Prop} (e : Q (.int (a - b) k) ⟨h, g, d, k + 1, o⟩) : wpAny (model prog w) A (binaryOp .Sub (.int a t) (.int b u)) Q E ⟨h, g, d, k, o⟩ := sub_int e
theorem isS {x : Str} {v : Value} {s : Shared} {Q : Unit → Shared → Prop} (h : wpAny M A (storeName env x v) Q E s) : wpAny M A (storeName env x v) Q E s := h
theorem isW {a b c d : _} {s : Shared} {Q : Flow → Shared → Prop} (h : wpAny M A (exec (.While a b c d) env) Q E s) : wpAny M A (exec (.While a b c d) env) Q E s := h
theorem isF {a b c d f : _} {s : Shared} {Q : Flow → Shared → Prop} (h : wpAny M A (exec (.For a b c d f) env) Q E s) : wpAny M A (exec (.For a b c d f) env) Q E s := h
theorem isI {a b c d : _} {s : Shared} {Q : Flow → Shared → Prop} (h : wpAny M A (exec (.If a b c d) env) Q E s) : wpAny M A (exec (.If a b c d) env) Q E s := h
theorem gRI {a b : Expr} {r : Addr} {i : Int} {t : Tok} {s : Shared} {Q : Value → Shared → Prop} (h : wpAny M A (subscriptTail a b (.ref r) (.int i t)) Q E s) : wpAny M A (subscriptTail a b (.ref r) (.int i t)) Q E s := h
theorem gSI {a b : Expr} {x : Str} {u : Tok} {i : Int} {t : Tok} {s : Shared} {Q : Value → Shared → Prop} (h : wpAny M A (subscriptTail a b (.str x u) (.int i t)) Q E s) : wpAny M A (subscriptTail a b (.str x u) (.int i t)) Q E s := h
theorem gLS {x : Str} {u : Tok} {s : Shared} {Q : Value → Shared → Prop} (h : wpAny M A (call (.builtin "len") [.str x u]) Q E s) : wpAny M A (call (.builtin "len") [.str x u]) Q E s := h
theorem gLR {r : Addr} {s : Shared} {Q : Value → Shared → Prop} (h : wpAny M A (call (.builtin "len") [.ref r]) Q E s) : wpAny M A (call (.builtin "len") [.ref r]) Q E s := h
theorem gSup {r : Addr} {pl : Sem Bool} {s : Shared} {Q : Value × List Value → Shared → Prop} (h : wpAny M A (getMethod (.ref r) (Str.ofString "issuperset") pl) Q E s) : wpAny M A (getMethod (.ref r) (Str.ofString "issuperset") pl) Q E s := h
end
/-- a while by an invariant over its start's names -/
theorem While_over {w : World} {A : Around} {E : Value → Shared → Prop} {Q : Flow → Shared → Prop} {sh : Heap} {sg : Array GenState} {sd : Drawn} {sk : Nat} {so : OsState} {env : Env} {h₀ : Heap} {L : Addr} {test : Expr} {body : List Stmt} {pos : Pos} {m : Str → Option Value} {news : List (Addr × Obj)}
    (J : (Str → Option Value) → Nat → (Str → Option Value) → List (Addr × Obj) → Prop) {n₀ : Nat} (F : Fr h₀ L sh m) (N : News h₀ L sh news) (hJ : J m n₀ m news)
    (turn : ∀ n m₁ news₁ h₁ tk₁, Fr h₀ L h₁ m₁ → News h₀ L h₁ news₁ → J m n m₁ news₁ →
      wpAny (model PW w) A (isTrue test env (eval test env)) (fun b s₂ =>
        if b = true then wpAny (model PW w) A (execs body env) (WhileStep2 h₀ L ⟨sh, sg, sd, sk, so⟩ (J m) Q n) E s₂ else Q .next s₂) E ⟨h₁, sg, sd, tk₁, so⟩)
    (hE : PassesOwn (model PW w) A env E) : wpAny (model PW w) A (exec (.While test body [] pos) env) Q E ⟨sh, sg, sd, sk, so⟩ := While_inv2 (s := ⟨sh, sg, sd, sk, so⟩) (J m) F N hJ turn hE
theorem while_next {h₀ : Heap} {s : Shared} {Q : Flow → Shared → Prop} {L : Addr} {n n' : Nat} {J : Nat → (Str → Option Value) → List (Addr × Obj) → Prop} {h' : Heap} {tk : Nat} {m' : Str → Option Value} {news' : List (Addr × Obj)} (F : Fr h₀ L h' m') (N : News h₀ L h' news') (hn : n' < n) (j : J n' m' news') :
    WhileStep2 h₀ L s J Q n .next { s with heap := h', toks := tk } := ⟨h', tk, m', news', n', rfl, F, N, hn, j⟩
theorem in_of {a b : Int} {t : Tok} (h : a = b) : some (Value.int a t) = some (Value.int b t) := h ▸ rfl
theorem st_of {a b : Str} {t : Tok} (h : a = b) : some (Value.str a t) = some (Value.str b t) := h ▸ rfl
theorem call_args {M : Model} {A : Around} {E : Value → Shared → Prop} {s : Shared} {f : Value} {vs vs' : List Value} {kw : List (Str × Value)} {Q : Value → Shared → Prop} (h : vs = vs') (k : wpAny M A (call f vs' kw) Q E s) : wpAny M A (call f vs kw) Q E s := by rw [h]; exact k
end
-- Wk1
local macro_rules | `(tactic| walk_at "mine ov") => `(tactic| (first | with_reducible exact Ov.here | (refine Ov.upd rfl ?_; walk_at "mine ov")))
section
inductive SkJ (p : Int) (k : Nat) (news : List (Addr × Obj)) (m0 : Str → Option Value) : Nat → (Str → Option Value) → List (Addr × Obj) → Prop
  | mk (i : Nat) (t : Tok) (h : i ≤ k) : SkJ p k news m0 (k - i) (fun y => if y = Str.ofString "pos" then some (.int (p + i) t) else m0 y) news
theorem SkJ.of {p : Int} {k i : Nat} {news : List (Addr × Obj)} {m0 m₁ : Str → Option Value} {t : Tok} (h : i ≤ k) (o : Ov [Str.ofString "pos"] m₁ m0) (e : look m₁ (Str.ofString "pos") = some (.int (p + i) t)) : SkJ p k news m0 (k - i) m₁ news := by
  have hm : m₁ = fun y => if y = Str.ofString "pos" then some (.int (p + i) t) else m0 y := Ov.eq o (by walk_at "mine ov") (.cons e .nil)
  exact hm ▸ .mk i t h
end
local macro_rules | `(tactic| walk_at "mine noloop") => `(tactic| ((fail_if_success (with_reducible first | refine isW ?_ | refine isF ?_)); (fail_if_success (with_reducible show wpAny _ _ (pyIter (Value.ref _)) (fun it s₂ => LoopAtV _ _ _ _ _ _ _ _ _ it s₂) _ _))))
local macro_rules | `(tactic| walk_at "mine one") => `(tactic| ((first | (k_unfold; (try dsimp only)) | (with_reducible first | refine execs_K ?_ | refine KC.last ?_ | refine KC.go ?_ | refine KC.ret ?_ | refine c_str ?_ | refine c_int ?_ | refine a_add ?_ | refine a_iadd ?_ | refine a_sub ?_) | ((fail_if_success (fail_if_success with_reducible refine isS ?_)); k_dflt (refine st_L (by k_asm) (by k_asm) ?_); intros; (try k_sweep)) | (k_end; wrow_close) | walk1 | (dsimp only; walk1) | (leave1; try dsimp only) | fail "no step")))
local macro_rules | `(tactic| walk_at "mine steps") => `(tactic| (repeat' (walk_at "mine noloop"; walk_at "mine one")))
local macro_rules | `(tactic| walk_at "subscriptTail Name Name str int") => `(tactic| k_dflt refine sub_str (by omega) (by omega) (by assumption) ?_)
local macro_rules | `(tactic| walk_at "compareOp In str ref") => `(tactic| k_dflt refine in_fz (by k_asm) (by first | exact (by assumption : ∀ h, Facts _ h → FrS _ h _ _) _ (by assumption) | exact Facts.s7 (by assumption) | exact Facts.s9 (by assumption) | exact Facts.s6 (by assumption)) (by first | rfl | assumption) (by assumption) ?_)
section
set_option maxRecDepth 100000 in
set_option maxHeartbeats 8000000 in
theorem skip_spec (w : World) (a : Addr) (l : List Str) (hS : ∀ h, Facts w h → FrS w h a l) (hl : Nat.blt l.length 100 = true) (src : Str) (p : Int) (k : Nat) (t1 t2 : Tok) (h0 : 0 ≤ p) (hp : p < 2 ^ 60) (hk2 : k < 2 ^ 60) (hin : ∀ i, i < k → ∃ c, src.cps[(p + i).toNat]? = some c ∧ l.contains ⟨#[c]⟩ = true) (hout : ∃ c, src.cps[(p + k).toNat]? = some c ∧ l.contains ⟨#[c]⟩ = false) :
    Tag KK RW (Spec w 1 209 [.str src t1, .int p t2, .ref a] (fun v tl => tl = [] ∧ ∃ t, v = .int (p + k) t)) := by
  k_fill
  unfold Tag Spec
  intro A outer env A₀ base h₀ L m news s mean mg mb Q E hAt hh hd hret
  obtain ⟨B, F, X, N, T, hA, hf, hk⟩ := hAt
  have KX := X.K
  refine wpAny_call ?_
  k_dflt ((refine' code_def ?k1_1 ?k2_1 ?k3_1 ?k4_1 ?k5_1 ?kA_1 ?kF_1 ?kK_1 ?k6_1 ?k7_1 ?k8_1 ?k9_1 ?kB_1 ?_ ?c2_1 ?c3_1 ?c4_1 ?c5_1; (case kA_1 => assumption); (case kF_1 => assumption); (case kK_1 => assumption); (case k1_1 => k_asm); (case k2_1 => k_asm); (case k3_1 => k_asm); (case k4_1 => k_asm); (case k5_1 => k_asm); (case k6_1 => k_is); (case k7_1 => k_is); (case k8_1 => ktr_room); (case k9_1 => first | exact (by assumption : BindsTo _ _ _ _) | exact BindsTo.of_eq rfl); (case c5_1 => decide); (case kB_1 => exact locs rfl); (case c2_1 => exact rfl); (case c3_1 => exact rfl); (case c4_1 => exact rfl); k_whole; intro g' L' h' FG' F' N' B' X' T'; (try dsimp only); (try k_fold)))
  walk_at "mine steps"
  rename Fr _ _ _ _ => FX
  rename Fr h₀ L _ m => FG
  have XX := X.keeps FG.keep
  rename News _ _ _ news => NX
  refine let_map FX ?_
  intro M0 FX
  refine While_over (SkJ p k news) (n₀ := k) FX NX ?_ ?_ ?_
  · exact SkJ.of (i := 0) (Nat.zero_le _) (by walk_at "mine ov") (by exact in_of (Int.add_zero p).symm)
  · rintro n m₁ news₁ h₁ tk₁ F₁ N₁ ⟨i, t, hi⟩
    by_cases hik : i < k
    · obtain ⟨c, hc, hw⟩ := hin i hik
      walk_at "mine steps"
      exact while_next (n' := k - (i + 1)) (by assumption) (by assumption) (by omega) (SkJ.of (i := i + 1) hik (by walk_at "mine ov") (by exact in_of (by omega)))
    · obtain rfl : i = k := by omega
      obtain ⟨c, hc, hw⟩ := hout
      walk_at "mine steps"
      exact hret _ [] _ _ (by assumption) (by assumption) ⟨rfl, _, rfl⟩
  · passes_own
end
-- Wk2
section
set_option maxRecDepth 100000 in
set_option maxHeartbeats 8000000 in
theorem uni_spec (w : World) (n : Int) (t1 : Tok) (h0 : 0 ≤ n) (hn : n ≤ 55295 ∨ 57344 ≤ n) (hp : n ≤ 1114111) :
    Tag KK RW (Spec w 1 266 [.int n t1] (fun v tl => tl = [] ∧ v = .bool true)) := by
  k_fill
  unfold Tag Spec
  intro A outer env A₀ base h₀ L m news s mean mg mb Q E hAt hh hd hret
  obtain ⟨B, F, X, N, T, hA, hf, hk⟩ := hAt
  have KX := X.K
  refine wpAny_call ?_
  k_dflt ((refine' code_def ?k1_26 ?k2_26 ?k3_26 ?k4_26 ?k5_26 ?kA_26 ?kF_26 ?kK_26 ?k6_26 ?k7_26 ?k8_26 ?k9_26 ?kB_26 ?_ ?c2_26 ?c3_26 ?c4_26 ?c5_26; (case kA_26 => assumption); (case kF_26 => assumption); (case kK_26 => assumption); (case k1_26 => k_asm); (case k2_26 => k_asm); (case k3_26 => k_asm); (case k4_26 => k_asm); (case k5_26 => k_asm); (case k6_26 => k_is); (case k7_26 => k_is); (case k8_26 => ktr_room); (case k9_26 => first | exact (by assumption : BindsTo _ _ _ _) | exact BindsTo.of_eq rfl); (case c5_26 => decide); (case kB_26 => exact locs rfl); (case c2_26 => exact rfl); (case c3_26 => exact rfl); (case c4_26 => exact rfl); k_whole; intro g' L' h' FG' F' N' B' X' T'; (try dsimp only); (try k_fold)))
  rcases hn with hn | hn
  · walk_at "mine steps"
    exact hret _ [] _ _ (by assumption) (by assumption) ⟨rfl, by congr 1; exact decide_eq_true (by omega)⟩
  · by_cases h1 : n ≤ 55295
    · omega
    walk_at "mine steps"
    exact hret _ [] _ _ (by assumption) (by assumption) ⟨rfl, by congr 1; exact decide_eq_true (by omega)⟩
end
-- WkSup
section
set_option maxRecDepth 100000
theorem slot_issup : Slot "frozenset" "issuperset" "frozenset.issuperset" :=
  .of (owner := "frozenset") (n := "issuperset") (by rw [typeLookup_type, builtinLookup_eq_fast]; kernel_rfl) (by decide +kernel) (by decide +kernel) (by decide +kernel)
    (by first | exact .inl (by decide +kernel) | exact .inr (by decide +kernel)) (by rw [isSubtype_type]; kernel_rfl)
theorem entry_issup : entryFor table "frozenset.issuperset" = some Builtin.«frozenset.issuperset» := entryFor_of_tree (by kernel_rfl)
theorem entry_issup_loop : entryFor table "frozenset.issuperset.loop" = some Builtin.«frozenset.issuperset.loop» := entryFor_of_tree (by kernel_rfl)
theorem plain_issup : plainId "frozenset.issuperset" = true := by decide +kernel
theorem plain_issup_loop : plainId "frozenset.issuperset.loop" = true := by decide +kernel
theorem args_issup (a b : Value) : argsOk "frozenset.issuperset" ⟨[a, b], []⟩ := by unfold argsOk; kernel_rfl
theorem str_not_set : isSubtype (.type "str") (.type "set") = pure false := by rw [isSubtype_type]; kernel_rfl
theorem str_not_froz : isSubtype (.type "str") (.type "frozenset") = pure false := by rw [isSubtype_type]; kernel_rfl
variable {w : World} {A : Around} {E : Value → Shared → Prop} {s : Shared} {a L : Addr} {h₀ : Heap} {m : Str → Option Value} {l : List Str} {x : Str} {t : Tok} {news : List (Addr × Obj)}
theorem wp_contains {k : Str} {tk : Tok} {h : Heap} {b : Bool} {Q : Bool → Shared → Prop} (hS : FrS w h a l) (hk : ∀ o, h.get? a = some o → s.heap.get? a = some o) (hb : l.length < 100) (e : l.contains k = b) (q : Q b { s with toks := s.toks + 1 }) :
    wpAny (model PW w) A (setContains a (.str k tk)) Q E s := by
  subst e
  obtain ⟨es, ep, t, ho, hel, hmem, hn, hf⟩ := hS
  unfold setContains
  refine wpAny_holding (wpAny_bind ((strKind PW w).pyHash (k := k) (isStrOf_self k tk) ?_))
  refine wpAny_bind (setFind_any (knd := strKind PW w) (s := { s with toks := s.toks + 1 }) (isStrOf_self k tk) rfl (hk _ ho) rfl hel hmem (by rw [hn]; show _ < 4096; omega) hf fun r hr => ?_)
  refine wpAny_pure ?_
  rw [hr]
  exact q
theorem fr_but {h h' : Heap} {I : Addr} (F : Fr h₀ L h m) (hI : L < I) (hm : ∀ b o, b ∉ [I] → h.get? b = some o → h'.get? b = some o) : Fr h₀ L h' m :=
  ⟨F.ns.at (hm L · (by simpa using Nat.ne_of_lt hI)), fun b o e => hm b o (by simpa using Nat.ne_of_lt (Nat.lt_trans (Nat.lt_of_lt_of_le (Heap.lt_size e) F.above) hI)) (F.keep b o e), F.above⟩
theorem news_but {h h' : Heap} {I : Addr} (N : News h₀ L h news) (hlt : ∀ p ∈ news, p.1 < I) (hm : ∀ b o, b ∉ [I] → h.get? b = some o → h'.get? b = some o) : News h₀ L h' news :=
  fun p hp => ⟨hm _ _ (by simpa using Nat.ne_of_lt (hlt p hp)) (N p hp).1, (N p hp).2⟩
/-- the loop of issuperset over a text's signs -/
theorem issup_loop (hh : A.handled = none) {I : Addr} {St : Nat → Heap → Prop} (W : ∀ A' : Around, A'.handled = none → Walks PW w A' I [I] [I] x.cps.size (SignAt x) St) (hI : L < I) (hS : FrS w h₀ a l) (hl : l.length < 100)
    (hin : ∀ c ∈ x.cps.toList, l.contains ⟨#[c]⟩ = true) {R : Result → Shared → Prop} :
    ∀ (k i : Nat) (s : Shared), x.cps.size - i = k → i ≤ x.cps.size → St i s.heap → Fr h₀ L s.heap m → News h₀ L s.heap news → (∀ p ∈ news, p.1 < I) →
      (∀ h' tk, Fr h₀ L h' m → News h₀ L h' news → R (.ok (.ret (.bool true))) { s with heap := h', toks := tk }) →
      codeAny (model PW w) A (.builtin "frozenset.issuperset.loop" ⟨[.ref a, .ref I], []⟩) R s := by
  intro k
  induction k with
  | zero =>
    intro i s hk hi hst F N hlt hR
    obtain rfl : i = x.cps.size := by omega
    refine codeAny_builtin entry_issup_loop ?_
    rw [Around.under_plainId plain_issup_loop _]
    show wpAny _ A.in1 (pyNext (.ref I) >>= _) _ _ s
    refine wpAny_bind ((W A.in1 hh).done s _ _ hst fun h' tk hm => ?_)
    exact wpAny_pure (hR h' tk (fr_but F hI hm) (news_but N hlt hm))
  | succ k ih =>
    intro i s hk hi hst F N hlt hR
    have hlt' : i < x.cps.size := by omega
    refine codeAny_builtin entry_issup_loop ?_
    rw [Around.under_plainId plain_issup_loop _]
    show wpAny _ A.in1 (pyNext (.ref I) >>= _) _ _ s
    refine wpAny_bind ((W A.in1 hh).item i s _ _ hlt' hst fun v h' tk hP hst' hm => ?_)
    obtain ⟨c, t', hc, rfl⟩ := hP
    have hc' : c ∈ x.cps.toList := by
      obtain ⟨q, rfl⟩ := Array.getElem?_eq_some_iff.mp hc
      exact Array.getElem_mem_toList q
    show wpAny _ A.in1 (holding [Value.str ⟨#[c]⟩ t'] (setContains a (Value.str ⟨#[c]⟩ t')) >>= _) _ _ _
    refine wpAny_bind (wpAny_holding (wp_contains (s := { s with heap := h', toks := tk }) hS (fun o e => (fr_but F hI hm).keep _ _ e) hl (hin c hc') ?_))
    simp only [↓reduceIte]
    refine wpAny_pure ⟨plainId_quiet plain_issup_loop _, ?_⟩
    exact ih (i + 1) _ (by omega) hlt' hst' (fr_but F hI hm) (news_but N hlt hm) hlt fun h2 tk2 F2 N2 => hR h2 tk2 F2 N2
/-- every sign of the text is in the set: issuperset says True -/
theorem issup_str {Q : Value → Shared → Prop} (hh : A.handled = none) (F : Fr h₀ L s.heap m) (N : News h₀ L s.heap news) (hS : FrS w h₀ a l) (hl : Nat.blt l.length 100 = true) (hin : ∀ c ∈ x.cps.toList, l.contains ⟨#[c]⟩ = true)
    (h : ∀ h' tk, Fr h₀ L h' m → News h₀ L h' news → Q (.bool true) { s with heap := h', toks := tk }) :
    wpAny (model PW w) A (call (.builtin "frozenset.issuperset") [.ref a, .str x t]) Q E s := by
  have hS' := hS
  obtain ⟨es, ep, tt, ho, r⟩ := hS'
  have hT : s.TypeIs (.ref a) "frozenset" := ⟨_, F.keep _ _ ho, rfl⟩
  refine wpAny_call (codeAny_call_builtin plain_issup entry_issup (slot_issup.check _ _ _ _ _ _ _ _ hT (args_issup _ _) ?_))
  unfold Builtin.«frozenset.issuperset» Builtin.Frozenset.oneOther
  simp only [List.isEmpty_nil, bind_assoc]
  unfold Builtin.Frozenset.addrOf
  refine wpAny_bind (wpAny_pure ?_)
  refine wpAny_bind (wpAny_pure ?_)
  refine wpAny_bind ?_
  unfold Builtin.Frozenset.isAnySet
  refine wpAny_bind (wpAny_isInstance (typeIs_str s x t) str_not_set ?_)
  refine wpAny_isInstance (typeIs_str s x t) str_not_froz ?_
  simp only [Bool.false_eq_true, ↓reduceIte]
  refine wpAny_bind (wpAny_pyIter_str fun o St W hst => ?_)
  refine wpAny_pure ⟨plainId_quiet plain_issup_loop _, ?_⟩
  refine issup_loop hh W F.ns.lt hS (Nat.le_of_ble_eq_true hl) hin _ 0 _ rfl (Nat.zero_le _) hst (F.push _) (fun p hp => ⟨Heap.get?_push_of_some _ (N p hp).1, (N p hp).2⟩) (fun p hp => Heap.lt_size (N p hp).1) fun h' tk F' N' => h h' tk F' N'
theorem plainAttrs_froz : PlainAttrs "frozenset" :=
  ⟨⟨"object.__getattribute__", by rw [typeLookup_type, builtinLookup_eq_fast]; kernel_rfl, by decide +kernel⟩, by rw [typeLookup_type, builtinLookup_eq_fast]; kernel_rfl⟩
theorem type_issup : typeOf (.builtin "frozenset.issuperset") = pure (.type "method_descriptor") := by show builtinType _ = _; rw [builtinType_eq_fast]; kernel_rfl
/-- the method of a frozenset that lies at the base -/
theorem issup_method {pl : Sem Bool} {Q : Value × List Value → Shared → Prop} (F : Fr h₀ L s.heap m) (hS : FrS w h₀ a l) (h : Q (.builtin "frozenset.issuperset", [.ref a]) s) : wpAny (model PW w) A (getMethod (.ref a) "issuperset" pl) Q E s := by
  obtain ⟨es, ep, tt, ho, r⟩ := hS
  exact getMethod_builtin ⟨_, F.keep _ _ ho, rfl⟩ plainAttrs_froz slot_issup type_issup (fun b e => by cases e; exact ⟨_, F.keep _ _ ho, rfl⟩) h
end
-- WkInt
section
open PySem PySem.W PySem.NumText PyProof.Rows
set_option maxRecDepth 100000
/-- the sign of a small hexadecimal figure -/
noncomputable def hc (d : Nat) : Nat := if d < 10 then 48 + d else 87 + d
noncomputable def hexTxt (ds : List Nat) : Str := ⟨(ds.map hc).toArray⟩
noncomputable def hexVal (ds : List Nat) : Nat := ds.foldl (fun acc d => acc * 16 + d) 0
theorem hc_fact : ∀ d, d < 16 → digit? (hc d) = some d ∧ blank (hc d) = false ∧ hc d ≠ 45 ∧ hc d ≠ 43 ∧ hc d ≠ 120 ∧ hc d ≠ 88 ∧ hc d ≠ 95 ∧ hc d ≠ 0 ∧ hc d < 128 := by decide
theorem drop_hex {ds : List Nat} (h : ∀ d ∈ ds, d < 16) : (ds.map hc).dropWhile blank = ds.map hc := by
  cases ds with
  | nil => rfl
  | cons d r =>
    rw [List.map_cons, List.dropWhile_cons_of_neg]
    rw [(hc_fact d (h d (by simp))).2.1]
    decide
theorem take_hex {ds : List Nat} (h : ∀ d ∈ ds, d < 16) : (ds.map hc).takeWhile (· != 0) = ds.map hc := by
  induction ds with
  | nil => rfl
  | cons d r ih =>
    rw [List.map_cons, List.takeWhile_cons_of_pos, ih fun x hx => h x (by simp [hx])]
    have := (hc_fact d (h d (by simp))).2.2.2.2.2.2.2.1
    simpa using this
theorem sign_hex {ds : List Nat} (h : ∀ d ∈ ds, d < 16) : sign (ds.map hc) = (false, ds.map hc) := by
  cases ds with
  | nil => rfl
  | cons d r =>
    have hd := hc_fact d (h d (by simp))
    rw [List.map_cons]
    unfold sign
    split
    · rename_i e; injection e with e1 _; exact absurd e1 hd.2.2.1
    · rename_i e; injection e with e1 _; exact absurd e1 hd.2.2.2.1
    · rfl
theorem prefix_hex {ds : List Nat} (h : ∀ d ∈ ds, d < 16) : prefix? (ds.map hc) ≠ some 16 := by
  intro e
  unfold prefix? at e
  split at e
  · rename_i c r he
    match ds, h, he with
    | [], h, he => cases he
    | [_], h, he => injection he with _ he; cases he
    | d :: d2 :: r', h, he =>
      injection he with _ he
      injection he with he _
      have hd := hc_fact d2 (h d2 (by simp))
      rw [he] at hd
      have h1 : (c == 120) = false := beq_eq_false_iff_ne.mpr hd.2.2.2.2.1
      have h2 : (c == 88) = false := beq_eq_false_iff_ne.mpr hd.2.2.2.2.2.1
      rw [h1, h2] at e
      simp only [Bool.or_self, Bool.false_eq_true, if_false] at e
      repeat' split at e
      all_goals cases e
  · cases e
theorem based_hex {ds : List Nat} (h : ∀ d ∈ ds, d < 16) : based 16 (ds.map hc) = (16, false, ds.map hc) := by
  unfold based
  split
  · rename_i p hp
    have hne : ((16 : Nat) == 0 || (16 : Nat) == p) = false := Bool.or_eq_false_iff.mpr ⟨rfl, beq_eq_false_iff_ne.mpr fun e => prefix_hex h (e ▸ hp)⟩
    rw [hne]; rfl
  · rfl
theorem fold_hex : ∀ (ds : List Nat), (∀ d ∈ ds, d < 16) → ∀ a b, (ds.map hc).foldlM (NumText.step 16) (a, b) = some (a ++ ds.toArray, b || !ds.isEmpty)
  | [], _, a, b => by simp
  | d :: r, h, a, b => by
    have hd := hc_fact d (h d (by simp))
    have e1 : NumText.step 16 (a, b) (hc d) = some (a.push d, true) := by
      unfold NumText.step
      have h1 : (hc d == 95) = false := beq_eq_false_iff_ne.mpr hd.2.2.2.2.2.2.1
      rw [h1, hd.1]
      simp [h d (by simp)]
    rw [List.map_cons, List.foldlM_cons, e1]
    show (r.map hc).foldlM (NumText.step 16) (a.push d, true) = _
    rw [fold_hex r (fun x hx => h x (by simp [hx]))]
    simp
theorem digits_hex {ds : List Nat} (h : ∀ d ∈ ds, d < 16) (hn : ds ≠ []) : digits? 16 (ds.map hc) = some ds.toArray := by
  unfold digits?
  rw [fold_hex ds h]
  cases ds with
  | nil => exact absurd rfl hn
  | cons d r => simp
theorem read_hex {ds : List Nat} (h : ∀ d ∈ ds, d < 16) (hn : ds ≠ []) : (int_private% "readNumeral") 0 16 (ds.map hc) = (int_private% "Numeral.value") (hexVal ds) := by
  rw [readNumeral_eq, drop_hex h, sign_hex h]
  dsimp only
  rw [based_hex h]
  dsimp only
  have e : (ds.map hc).reverse.dropWhile blank = (ds.map hc).reverse := by
    rw [← List.map_reverse]
    exact drop_hex fun d hd => h d (by simpa using hd)
  rw [e, List.reverse_reverse, digits_hex h hn]
  unfold judge hexVal
  simp
theorem args_int2 (a b : Value) : checkTypeCall "int" ⟨[a, b], []⟩ = pure () := by kernel_rfl
theorem args_new2 (a b : Value) : checkBuiltinCall "int.__new__" ⟨[.type "int", a, b], []⟩ = pure () := by kernel_rfl
theorem args_init3 (obj a b : Value) : argsOk "object.__init__" ⟨[obj, a, b], []⟩ := by unfold argsOk; kernel_rfl
theorem wp_text16 {M : Model} {A : Around} {E : Value → Shared → Prop} {s : Shared} {Q : Value → Shared → Prop} {v : Value} {text : List Nat} {n : Int}
    (hs : (text.takeWhile (· != 0)).length ≤ 640) (hr : (int_private% "readNumeral") 0 16 (text.takeWhile (· != 0)) = (int_private% "Numeral.value") n)
    (ha : ((text.takeWhile (· != 0)).length == text.length) = true) (h : Q (.int n s.toks) { s with toks := s.toks + 1 }) :
    wpAny M A ((int_private% "intFromText") v text 16) Q E s := by
  obtain ⟨hp, g, d, tk, os⟩ := s
  repeat (any_goals (first
    | assumption
    | (with_reducible refine wpAny_ite_true (decide_eq_true hs) ?_)
    | (with_reducible refine wpAny_ite_true (decide_eq_true ha) ?_)
    | wp_step))
  all_goals (try rw [hr])
  all_goals (try dsimp only)
  repeat (any_goals (first
    | assumption
    | (with_reducible refine wpAny_ite_true (decide_eq_true hs) ?_)
    | (with_reducible refine wpAny_ite_true (decide_eq_true ha) ?_)
    | wp_step))
theorem seen_hex {ds : List Nat} (h : ∀ d ∈ ds, d < 16) : numTextOf (hexTxt ds) = ds.map hc := by
  have : (hexTxt ds).cps.all (· < 128) = true := by
    rw [Array.all_eq_true]
    intro i hi
    have hm : (hexTxt ds).cps[i] ∈ ds.map hc := Array.getElem_mem_toList hi
    obtain ⟨d, hd, e⟩ := List.mem_map.mp hm
    rw [← e]
    exact decide_eq_true (hc_fact d (h d hd)).2.2.2.2.2.2.2.2
  unfold numTextOf
  rw [if_pos this]
  rfl
set_option maxHeartbeats 4000000 in
theorem gives_hex {ds : List Nat} {u u' : Tok} (h : ∀ d ∈ ds, d < 16) (hn : ds ≠ []) (hl : ds.length ≤ 8) : Gives (Builtin.«int.__new__» ⟨[.type "int", .str (hexTxt ds) u, .int 16 u'], []⟩) (.int (hexVal ds)) :=
  .of_wp fun M A E s Q hq => by
    obtain ⟨hp, g, d, tk, os⟩ := s
    have f1 := F.conv_sub_int
    have f2 := F.madeHere_int
    have f6 : typeOf (.str (hexTxt ds) u) = pure (.type "str") := rfl
    have hk : (numSeenOf (hexTxt ds)).length ≤ 640 ∧ (int_private% "readNumeral") 0 16 (numSeenOf (hexTxt ds)) = (int_private% "Numeral.value") (hexVal ds : Int) ∧ ((numSeenOf (hexTxt ds)).length == (numTextOf (hexTxt ds)).length) = true := by
      unfold numSeenOf
      rw [seen_hex h, take_hex h]
      exact ⟨by rw [List.length_map]; omega, read_hex h hn, by simp⟩
    have hk := KIN.Hid.mk hk
    clear hl h hn
    repeat (any_goals (first
      | assumption
      | ((with_reducible show wpAny _ _ ((int_private% "intFromText") _ _ _) _ _ _); refine wp_text16 hk.out.1 hk.out.2.1 hk.out.2.2 ?_)
      | wp_step))
    all_goals first | exact ⟨_, rfl, hq⟩ | skip
variable {w : World} {A : Around} {E : Value → Shared → Prop} {s : Shared} {Q : Value → Shared → Prop}
theorem int_hex {ds : List Nat} {u u' : Tok} (h : ∀ d ∈ ds, d < 16) (hn : ds ≠ []) (hl : ds.length ≤ 8) (hq : Q (.int (hexVal ds) s.toks) { s with toks := s.toks + 1 }) :
    wpAny (model PW w) A (call (.type "int") [.str (hexTxt ds) u, .int 16 u']) Q E s :=
  callType_new F.called_int F.newNe_int (args_int2 _ _) (args_new2 _ _) (fun obj => args_init3 obj _ _) F.entry_int_new (gives_hex h hn hl).meets (show (Made.int (hexVal ds)).post _ s from ⟨rfl, hq⟩)
end
-- WkRul
section
/-- a slice of a text, its value named -/
theorem slice_is₀ {w : World} {A : Around} {E : Value → Shared → Prop} {s : Shared} {h₀ : Heap} {L : Addr} {m : Str → Option Value} {news : List (Addr × Obj)} {value slice : Expr} {x y : Str} {t ui uj : Tok} {i j : Int} {Q : Value → Shared → Prop}
    (hF : Fr h₀ L s.heap m) (hN : News h₀ L s.heap news) (e : Txt.slice x (some i) (some j) = y) (hsz : x.length ≤ sizeLine)
    (h : ∀ h' t' k, Fr h₀ L h' m → News h₀ L h' news → Q (.str y t') { s with heap := h', toks := k })
    (hs : subscripted slice false (.str x t) (.ref s.heap.objs.size) = operate [.ref s.heap.objs.size, .str x t] (getItem (.str x t) (.ref s.heap.objs.size)) := by with_unfolding_all rfl)
    (ht : ∀ r, letTemporaryGo value (.str x t) r = pure () := by intro _; with_unfolding_all rfl) :
    wpAny (model PW w) A (subscriptTail value slice (.str x t) (.ref s.heap.objs.size)) Q E { s with heap := s.heap.push { cls := .type "slice", data := .fields #[.int i ui, .int j uj, .none] } } := by
  subst e
  exact slice_strN_ss hF hN h hs ht hsz
theorem slice_is {w : World} {A : Around} {E : Value → Shared → Prop} {sh : Heap} {sg : Array GenState} {sd : Drawn} {sk : Nat} {so : OsState} {h₀ : Heap} {L : Addr} {m : Str → Option Value} {news : List (Addr × Obj)} {value slice : Expr} {x y : Str} {t ui uj : Tok} {i j : Int} {Q : Value → Shared → Prop}
    (hF : Fr h₀ L sh m) (hN : News h₀ L sh news) (e : Txt.slice x (some i) (some j) = y) (hsz : x.length ≤ sizeLine)
    (h : ∀ h' t' k, Fr h₀ L h' m → News h₀ L h' news → Q (.str y t') ⟨h', sg, sd, k, so⟩)
    (hs : subscripted slice false (.str x t) (.ref sh.objs.size) = operate [.ref sh.objs.size, .str x t] (getItem (.str x t) (.ref sh.objs.size)) := by with_unfolding_all rfl)
    (ht : ∀ r, letTemporaryGo value (.str x t) r = pure () := by intro _; with_unfolding_all rfl) :
    wpAny (model PW w) A (subscriptTail value slice (.str x t) (.ref sh.objs.size)) Q E ⟨sh.push { cls := .type "slice", data := .fields #[.int i ui, .int j uj, .none] }, sg, sd, sk, so⟩ := slice_is₀ (s := ⟨sh, sg, sd, sk, so⟩) hF hN e hsz h hs ht
theorem news_mid {h₀ h : Heap} {L : Addr} {a b : Addr × Obj} {l : List (Addr × Obj)} (N : News h₀ L h ([a] ++ (b :: l))) : News h₀ L h ([a] ++ l) := fun p hp => N p (by
  rcases List.mem_append.mp hp with hp | hp
  · exact List.mem_append_left _ hp
  · exact List.mem_append_right _ (List.mem_cons_of_mem _ hp))
end
-- Wk3
local macro_rules | `(tactic| walk_at "subscriptTail Name Slice str ref") => `(tactic| (k_dflt refine slice_is (by k_asm) (by k_asm) (by assumption) (by assumption) ?_; intros))
local macro_rules | `(tactic| walk_at "call builtin:len") => `(tactic| ((fail_if_success fail_if_success with_reducible refine gLS ?_); k_dflt refine P.len_str (by assumption) ?_))
local macro_rules | `(tactic| walk_at "getMethod ref") => `(tactic| ((fail_if_success fail_if_success with_reducible refine gSup ?_); k_dflt refine issup_method (by k_asm) (Facts.s10 (by assumption)) ?_))
local macro_rules | `(tactic| walk_at "call builtin:frozenset.issuperset") => `(tactic| (k_dflt refine issup_str (by with_unfolding_all assumption) (by k_asm) (by k_asm) (Facts.s10 (by assumption)) rfl (by assumption) ?_; intros))
local macro_rules | `(tactic| walk_at "call type:int") => `(tactic| refine int_hex (by assumption) (by assumption) (by assumption) ?_)
section
set_option maxRecDepth 100000 in
set_option maxHeartbeats 8000000 in
theorem hex_spec (w : World) (src : Str) (p : Int) (k : Nat) (ds : List Nat) (t1 t2 t3 : Tok) (h0 : 0 ≤ p) (hp : p < 2 ^ 60) (hk : k = 4 ∨ k = 8)
    (hz : src.length ≤ sizeLine) (hsl : Txt.slice src (some p) (some (p + k)) = hexTxt ds) (hl1 : (hexTxt ds).length = k) (hl2 : (hexTxt ds).length ≤ sizeLine) (hd16 : ∀ d ∈ ds, d < 16) (hne : ds ≠ []) (hle : ds.length ≤ 8) (hsup : ∀ c ∈ (hexTxt ds).cps.toList, hexL.contains ⟨#[c]⟩ = true) (hn : hexVal ds ≤ 55295 ∨ 57344 ≤ hexVal ds) (hp : hexVal ds ≤ 1114111) :
    Tag KK RW (Spec w 2 238 [.str src t1, .int p t2, .int k t3] (fun v tl => ∃ l t t', v = .ref l ∧ tl = [(l, { cls := .type "tuple", data := .seq #[.int (p + k) t, .str ⟨#[hexVal ds]⟩ t'] })])) := by
  k_fill
  unfold Tag Spec
  intro A outer env A₀ base h₀ L m news s mean mg mb Q E hAt hh hd hret
  obtain ⟨B, F, X, N, T, hA, hf, hk⟩ := hAt
  have KX := X.K
  refine wpAny_call ?_
  k_dflt ((refine' code_def ?k1_41 ?k2_41 ?k3_41 ?k4_41 ?k5_41 ?kA_41 ?kF_41 ?kK_41 ?k6_41 ?k7_41 ?k8_41 ?k9_41 ?kB_41 ?_ ?c2_41 ?c3_41 ?c4_41 ?c5_41; (case kA_41 => assumption); (case kF_41 => assumption); (case kK_41 => assumption); (case k1_41 => k_asm); (case k2_41 => k_asm); (case k3_41 => k_asm); (case k4_41 => k_asm); (case k5_41 => k_asm); (case k6_41 => k_is); (case k7_41 => k_is); (case k8_41 => ktr_room); (case k9_41 => first | exact (by assumption : BindsTo _ _ _ _) | exact BindsTo.of_eq rfl); (case c5_41 => decide); (case kB_41 => exact locs rfl); (case c2_41 => exact rfl); (case c3_41 => exact rfl); (case c4_41 => exact rfl); k_whole; intro g' L' h' FG' F' N' B' X' T'; (try dsimp only); (try k_fold)))
  have XX := X.keeps (by assumption : Fr h₀ L _ m).keep
  walk_at "mine steps"
  k_dflt (refine' call_spec (uni_spec w _ _ ?a1 ?a2 ?a3) ?B ?F ?X ?N ?T ?hA ?hf ?hk ?hh ?hd ?_; (case a1 => omega); (case a2 => omega); (case a3 => omega); (((case B => k_asm); (case F => k_asm); (case X => assumption); (case N => k_asm); (case T => k_asm); (case hA => exact Around.frames_deeper (by assumption)); (case hf => exact rfl); (case hk => exact rfl); (case hh => with_unfolding_all assumption); (case hd => first | exact dp1 (by assumption) rfl | exact dp0 (by assumption) rfl | (simp only [depth_under_make, depth_under_kw, depth_in1, depth_deeper, depth_caller] at *; omega)))); k_whole)
  rintro v tl h1 tk1 ⟨rfl, rfl⟩ F1 N1
  walk_at "mine steps"
  exact hret _ [(_, _)] _ _ (by assumption) (by assumption) ⟨_, _, _, rfl, rfl⟩
end
-- Wk5
section
set_option maxRecDepth 100000 in
set_option maxHeartbeats 8000000 in
theorem escu_spec (w : World) (src esc : Str) (p : Int) (ds : List Nat) (t1 t2 : Tok) (h0 : 0 ≤ p) (hp : p < 2 ^ 59)
    (hz : src.length ≤ sizeLine) (hsl : Txt.slice src (some p) (some (p + 2)) = esc) (e1 : (false || decide (esc = Str.ofString "\\ ") || decide (esc = Str.ofString "\\\t") || decide (esc = Str.ofString "\\\n")) = false) (e2 : (esc == Str.ofString "\\u") = true)
    (hsl2 : Txt.slice src (some (p + 2)) (some (p + 2 + (4 : Nat))) = hexTxt ds) (hl1 : (hexTxt ds).length = 4) (hl2 : (hexTxt ds).length ≤ sizeLine) (hd16 : ∀ d ∈ ds, d < 16) (hne : ds ≠ []) (hle : ds.length ≤ 8) (hsup : ∀ c ∈ (hexTxt ds).cps.toList, hexL.contains ⟨#[c]⟩ = true) (hn : hexVal ds ≤ 55295 ∨ 57344 ≤ hexVal ds) (hx : hexVal ds ≤ 1114111) :
    Tag KK RW (Spec w 4 231 [.str src t1, .int p t2] (fun v tl => ∃ l t t', v = .ref l ∧ tl = [(l, { cls := .type "tuple", data := .seq #[.int (p + 2 + (4 : Nat)) t, .str ⟨#[hexVal ds]⟩ t'] })])) := by
  k_fill
  unfold Tag Spec
  intro A outer env A₀ base h₀ L m news s mean mg mb Q E hAt hh hd hret
  obtain ⟨B, F, X, N, T, hA, hf, hk⟩ := hAt
  have KX := X.K
  refine wpAny_call ?_
  k_dflt ((refine' code_def ?k1_43 ?k2_43 ?k3_43 ?k4_43 ?k5_43 ?kA_43 ?kF_43 ?kK_43 ?k6_43 ?k7_43 ?k8_43 ?k9_43 ?kB_43 ?_ ?c2_43 ?c3_43 ?c4_43 ?c5_43; (case kA_43 => first | assumption | exact Around.frames_deeper (by assumption)); (case kF_43 => first | assumption | exact rfl); (case kK_43 => first | assumption | exact rfl); (case k1_43 => k_asm); (case k2_43 => k_asm); (case k3_43 => k_asm); (case k4_43 => k_asm); (case k5_43 => k_asm); (case k6_43 => k_is); (case k7_43 => k_is); (case k8_43 => ktr_room); (case k9_43 => first | exact (by assumption : BindsTo _ _ _ _) | exact BindsTo.of_eq rfl); (case c5_43 => decide); (case kB_43 => exact locs rfl); (case c2_43 => exact rfl); (case c3_43 => exact rfl); (case c4_43 => exact rfl); k_whole; intro g' L' h' FG' F' N' B' X' T'; (try dsimp only); (try k_fold)))
  have XX := X.keeps (by assumption : Fr h₀ L _ m).keep
  walk_at "mine steps"
  refine wpAny_call ?_
  k_dflt ((refine' code_def ?k1_44 ?k2_44 ?k3_44 ?k4_44 ?k5_44 ?kA_44 ?kF_44 ?kK_44 ?k6_44 ?k7_44 ?k8_44 ?k9_44 ?kB_44 ?_ ?c2_44 ?c3_44 ?c4_44 ?c5_44; (case kA_44 => first | assumption | exact Around.frames_deeper (by assumption)); (case kF_44 => first | assumption | exact rfl); (case kK_44 => first | assumption | exact rfl); (case k1_44 => k_asm); (case k2_44 => k_asm); (case k3_44 => k_asm); (case k4_44 => k_asm); (case k5_44 => k_asm); (case k6_44 => k_is); (case k7_44 => k_is); (case k8_44 => ktr_room); (case k9_44 => first | exact (by assumption : BindsTo _ _ _ _) | exact BindsTo.of_eq rfl); (case c5_44 => decide); (case kB_44 => exact locs rfl); (case c2_44 => exact rfl); (case c3_44 => exact rfl); (case c4_44 => exact rfl); k_whole; intro g' L' h' FG' F' N' B' X' T'; (try dsimp only); (try k_fold)))
  have XX := Facts.keeps XX (Fr.keep (by assumption))
  walk_at "mine steps"
  k_dflt (refine' call_spec (hex_spec w src (p + 2) 4 ds _ _ _ ?a1 ?a2 ?a3 ?a4 ?a5 ?a6 ?a7 ?a8 ?a9 ?a10 ?a11 ?a12 ?a13) ?B ?F ?X ?N ?T ?hA ?hf ?hk ?hh ?hd ?_; (case a1 => omega); (case a2 => omega); (case a3 => omega); (case a4 => assumption); (case a5 => assumption); (case a6 => assumption); (case a7 => assumption); (case a8 => assumption); (case a9 => assumption); (case a10 => assumption); (case a11 => assumption); (case a12 => assumption); (case a13 => assumption); (((case B => k_asm); (case F => k_asm); (case X => assumption); (case N => k_asm); (case T => k_asm); (case hA => first | exact Around.frames_deeper (by assumption) | exact Around.frames_deeper (Around.frames_deeper (by assumption))); (case hf => exact rfl); (case hk => exact rfl); (case hh => with_unfolding_all assumption); (case hd => first | exact dp1 (by assumption) rfl | exact dp0 (by assumption) rfl | (simp only [depth_under_make, depth_under_kw, depth_in1, depth_deeper, depth_caller] at *; omega)))); k_whole)
  rintro v tl h1 tk1 ⟨l, t, t', rfl, rfl⟩ F1 N1
  walk_at "mine steps"
  exact hret _ [(_, _)] _ _ (by assumption) (news_mid (by assumption)) ⟨_, _, _, rfl, rfl⟩
end
-- Wk6
section
set_option maxRecDepth 100000 in
set_option maxHeartbeats 8000000 in
theorem escU_spec (w : World) (src esc : Str) (p : Int) (ds : List Nat) (t1 t2 : Tok) (h0 : 0 ≤ p) (hp : p < 2 ^ 59)
    (hz : src.length ≤ sizeLine) (hsl : Txt.slice src (some p) (some (p + 2)) = esc) (e1 : (false || decide (esc = Str.ofString "\\ ") || decide (esc = Str.ofString "\\\t") || decide (esc = Str.ofString "\\\n")) = false) (e2 : (esc == Str.ofString "\\u") = false) (e3 : (esc == Str.ofString "\\U") = true)
    (hsl2 : Txt.slice src (some (p + 2)) (some (p + 2 + (8 : Nat))) = hexTxt ds) (hl1 : (hexTxt ds).length = 8) (hl2 : (hexTxt ds).length ≤ sizeLine) (hd16 : ∀ d ∈ ds, d < 16) (hne : ds ≠ []) (hle : ds.length ≤ 8) (hsup : ∀ c ∈ (hexTxt ds).cps.toList, hexL.contains ⟨#[c]⟩ = true) (hn : hexVal ds ≤ 55295 ∨ 57344 ≤ hexVal ds) (hx : hexVal ds ≤ 1114111) :
    Tag KK RW (Spec w 4 231 [.str src t1, .int p t2] (fun v tl => ∃ l t t', v = .ref l ∧ tl = [(l, { cls := .type "tuple", data := .seq #[.int (p + 2 + (8 : Nat)) t, .str ⟨#[hexVal ds]⟩ t'] })])) := by
  k_fill
  unfold Tag Spec
  intro A outer env A₀ base h₀ L m news s mean mg mb Q E hAt hh hd hret
  obtain ⟨B, F, X, N, T, hA, hf, hk⟩ := hAt
  have KX := X.K
  refine wpAny_call ?_
  k_dflt ((refine' code_def ?k1_46 ?k2_46 ?k3_46 ?k4_46 ?k5_46 ?kA_46 ?kF_46 ?kK_46 ?k6_46 ?k7_46 ?k8_46 ?k9_46 ?kB_46 ?_ ?c2_46 ?c3_46 ?c4_46 ?c5_46; (case kA_46 => first | assumption | exact Around.frames_deeper (by assumption)); (case kF_46 => first | assumption | exact rfl); (case kK_46 => first | assumption | exact rfl); (case k1_46 => k_asm); (case k2_46 => k_asm); (case k3_46 => k_asm); (case k4_46 => k_asm); (case k5_46 => k_asm); (case k6_46 => k_is); (case k7_46 => k_is); (case k8_46 => ktr_room); (case k9_46 => first | exact (by assumption : BindsTo _ _ _ _) | exact BindsTo.of_eq rfl); (case c5_46 => decide); (case kB_46 => exact locs rfl); (case c2_46 => exact rfl); (case c3_46 => exact rfl); (case c4_46 => exact rfl); k_whole; intro g' L' h' FG' F' N' B' X' T'; (try dsimp only); (try k_fold)))
  have XX := X.keeps (by assumption : Fr h₀ L _ m).keep
  walk_at "mine steps"
  refine wpAny_call ?_
  k_dflt ((refine' code_def ?k1_47 ?k2_47 ?k3_47 ?k4_47 ?k5_47 ?kA_47 ?kF_47 ?kK_47 ?k6_47 ?k7_47 ?k8_47 ?k9_47 ?kB_47 ?_ ?c2_47 ?c3_47 ?c4_47 ?c5_47; (case kA_47 => first | assumption | exact Around.frames_deeper (by assumption)); (case kF_47 => first | assumption | exact rfl); (case kK_47 => first | assumption | exact rfl); (case k1_47 => k_asm); (case k2_47 => k_asm); (case k3_47 => k_asm); (case k4_47 => k_asm); (case k5_47 => k_asm); (case k6_47 => k_is); (case k7_47 => k_is); (case k8_47 => ktr_room); (case k9_47 => first | exact (by assumption : BindsTo _ _ _ _) | exact BindsTo.of_eq rfl); (case c5_47 => decide); (case kB_47 => exact locs rfl); (case c2_47 => exact rfl); (case c3_47 => exact rfl); (case c4_47 => exact rfl); k_whole; intro g' L' h' FG' F' N' B' X' T'; (try dsimp only); (try k_fold)))
  have XX := Facts.keeps XX (Fr.keep (by assumption))
  walk_at "mine steps"
  k_dflt (refine' call_spec (hex_spec w src (p + 2) 8 ds _ _ _ ?a1 ?a2 ?a3 ?a4 ?a5 ?a6 ?a7 ?a8 ?a9 ?a10 ?a11 ?a12 ?a13) ?B ?F ?X ?N ?T ?hA ?hf ?hk ?hh ?hd ?_; (case a1 => omega); (case a2 => omega); (case a3 => omega); (case a4 => assumption); (case a5 => assumption); (case a6 => assumption); (case a7 => assumption); (case a8 => assumption); (case a9 => assumption); (case a10 => assumption); (case a11 => assumption); (case a12 => assumption); (case a13 => assumption); (((case B => k_asm); (case F => k_asm); (case X => assumption); (case N => k_asm); (case T => k_asm); (case hA => first | exact Around.frames_deeper (by assumption) | exact Around.frames_deeper (Around.frames_deeper (by assumption))); (case hf => exact rfl); (case hk => exact rfl); (case hh => with_unfolding_all assumption); (case hd => first | exact dp1 (by assumption) rfl | exact dp0 (by assumption) rfl | (simp only [depth_under_make, depth_under_kw, depth_in1, depth_deeper, depth_caller] at *; omega)))); k_whole)
  rintro v tl h1 tk1 ⟨l, t, t', rfl, rfl⟩ F1 N1
  walk_at "mine steps"
  exact hret _ [(_, _)] _ _ (by assumption) (news_mid (by assumption)) ⟨_, _, _, rfl, rfl⟩
end
-- WkMap
section
open PySem PySem.W PyProof.Rows PyProof.V PyProof.Rows.KTD
set_option maxRecDepth 100000
theorem slot_mp : Slot "mappingproxy" "__getitem__" "mappingproxy.__getitem__" :=
  .of (owner := "mappingproxy") (n := "__getitem__") (by rw [typeLookup_type, builtinLookup_eq_fast]; kernel_rfl) (by decide +kernel) (by decide +kernel) (by decide +kernel)
    (by first | exact .inl (by decide +kernel) | exact .inr (by decide +kernel)) (by rw [isSubtype_type]; kernel_rfl)
theorem entry_mp : entryFor table "mappingproxy.__getitem__" = some Builtin.«mappingproxy.__getitem__» := entryFor_of_tree (by kernel_rfl)
theorem args_mp (a b : Value) : argsOk "mappingproxy.__getitem__" ⟨[a, b], []⟩ := by unfold argsOk; kernel_rfl
/-- the escapes' table -/
noncomputable def escD : List (Str × KTD.Dat) := [(Str.ofString "\\b", .flat (.str (Str.ofString "\x08"))), (Str.ofString "\\t", .flat (.str (Str.ofString "\t"))), (Str.ofString "\\n", .flat (.str (Str.ofString "\n"))), (Str.ofString "\\f", .flat (.str (Str.ofString "\x0c"))), (Str.ofString "\\r", .flat (.str (Str.ofString "\r"))), (Str.ofString "\\\"", .flat (.str (Str.ofString "\""))), (Str.ofString "\\\\", .flat (.str (Str.ofString "\\")))]
variable {w : World} {A : Around} {E : Value → Shared → Prop} {s : Shared} {L : Addr} {h₀ : Heap} {m : Str → Option Value} {k : Str} {tk : Tok}
theorem esc_tab (X : Facts w h₀) : TextTab h₀ 188 escD := by
  have e : (KK w.params).lookup 188 = some (F.o_256 w.params) := rfl
  refine ⟨rfl, _, _, _, X.K _ _ e, ⟨rfl, rfl, rfl⟩, rfl, ?_⟩
  unfold escD
  repeat' first
    | exact KTD.Rows.nil
    | refine KTD.Rows.cons rfl ?_ ?_
    | exact Flat.str _ _
theorem mp_obj (X : Facts w h₀) : h₀.get? 189 = some { cls := .type "mappingproxy", data := .fields #[.ref 188] } := X.K _ _ rfl
theorem mp_item {value slice : Expr} {Q : Value → Shared → Prop} (F : Fr h₀ L s.heap m) (X : Facts w h₀) (hmem : inKeys k escD = true) (h : EachL h₀ k (fun v => Q v { s with toks := s.toks + 1 }) escD)
    (hs : subscripted slice false (.ref 189) (.str k tk) = operate [.ref 189, .str k tk] (getItem (.ref 189) (.str k tk)) := by with_unfolding_all rfl) (hg : ∀ r, letTemporaryGo value (.ref 189) r = pure () := by intro _; with_unfolding_all rfl) :
    wpAny (model PW w) A (subscriptTail value slice (.ref 189) (.str k tk)) Q E s := by
  have hT : s.TypeIs (.ref 189) "mappingproxy" := ⟨_, F.keep _ _ (mp_obj X), rfl⟩
  have T : KTD.Here h₀ s.heap 188 escD := ⟨esc_tab X, F.keep⟩
  refine subscriptTail_builtin hT slot_mp.lookup ?_ hs hg
  unfold getItem
  try with_reducible refine wpAny_holding ?_
  refine wpAny_bind (wpAny_sequenceKey hT (by decide) ?_)
  refine wpAny_bind (wpAny_callSpecial?_slot (name := Str.ofString "__getitem__") hT slot_mp
    (wpAny_call_entry slot_mp hT entry_mp ?_ (args_mp _ _)))
  unfold Builtin.«mappingproxy.__getitem__»
  refine wpAny_bind (wpAny_pure ?_)
  dsimp only
  refine wpAny_bind (wpAny_field (F.keep _ _ (mp_obj X)) rfl rfl ?_)
  refine wpAny_bind ?_
  unfold getItem
  try with_reducible refine wpAny_holding ?_
  refine wpAny_bind (wpAny_sequenceKey T.typeIs (by decide) ?_)
  refine wpAny_bind (wpAny_callSpecial?_slot (name := Str.ofString "__getitem__") T.typeIs PySem.F.slot_dict_getitem
    (wpAny_call_entry PySem.F.slot_dict_getitem T.typeIs PySem.F.entry_dict_getitem ?_ (args_dict_getitem _ _)))
  show wpAny _ _ (dictGet 188 (.str k tk) >>= _) _ _ s
  refine wpAny_bind (dictGet_text T (fun d v ha hv => wpAny_pure ⟨v, rfl, wpAny_pure (wpAny_pure ⟨v, rfl, wpAny_pure (h.some_of d v ha hv)⟩)⟩) fun hn => absurd hn (at_of_mem hmem))
/-- a sign behind the backslash, looked up -/
theorem mp_is {value slice : Expr} {Q : Value → Shared → Prop} (F : Fr h₀ L s.heap m) (X : Facts w h₀) {c : Str} (hc : datumAt k escD = some (.flat (.str c))) (h : ∀ t, Q (.str c t) { s with toks := s.toks + 1 })
    (hs : subscripted slice false (.ref 189) (.str k tk) = operate [.ref 189, .str k tk] (getItem (.ref 189) (.str k tk)) := by with_unfolding_all rfl) (hg : ∀ r, letTemporaryGo value (.ref 189) r = pure () := by intro _; with_unfolding_all rfl) :
    wpAny (model PW w) A (subscriptTail value slice (.ref 189) (.str k tk)) Q E s := by
  have hT : s.TypeIs (.ref 189) "mappingproxy" := ⟨_, F.keep _ _ (mp_obj X), rfl⟩
  have T : KTD.Here h₀ s.heap 188 escD := ⟨esc_tab X, F.keep⟩
  refine subscriptTail_builtin hT slot_mp.lookup ?_ hs hg
  unfold getItem
  try with_reducible refine wpAny_holding ?_
  refine wpAny_bind (wpAny_sequenceKey hT (by decide) ?_)
  refine wpAny_bind (wpAny_callSpecial?_slot (name := Str.ofString "__getitem__") hT slot_mp
    (wpAny_call_entry slot_mp hT entry_mp ?_ (args_mp _ _)))
  unfold Builtin.«mappingproxy.__getitem__»
  refine wpAny_bind (wpAny_pure ?_)
  dsimp only
  refine wpAny_bind (wpAny_field (F.keep _ _ (mp_obj X)) rfl rfl ?_)
  refine wpAny_bind ?_
  unfold getItem
  try with_reducible refine wpAny_holding ?_
  refine wpAny_bind (wpAny_sequenceKey T.typeIs (by decide) ?_)
  refine wpAny_bind (wpAny_callSpecial?_slot (name := Str.ofString "__getitem__") T.typeIs PySem.F.slot_dict_getitem
    (wpAny_call_entry PySem.F.slot_dict_getitem T.typeIs PySem.F.entry_dict_getitem ?_ (args_dict_getitem _ _)))
  show wpAny _ _ (dictGet 188 (.str k tk) >>= _) _ _ s
  refine wpAny_bind (dictGet_text T (fun d v ha hv => wpAny_pure ⟨v, rfl, wpAny_pure (wpAny_pure ⟨v, rfl, wpAny_pure ?_⟩)⟩) fun hn => by rw [hc] at hn; cases hn)
  rw [hc] at ha
  cases ha
  obtain ⟨t, rfl⟩ := Flat.str_inv hv
  exact h _
end
-- Wk7
local macro_rules | `(tactic| walk_at "subscriptTail Name Name ref str") => `(tactic| (k_dflt refine mp_is (by k_asm) (by assumption) (by assumption) ?_; intros))
section
set_option maxRecDepth 100000 in
set_option maxHeartbeats 8000000 in
theorem escS_spec (w : World) (src esc c : Str) (p : Int) (t1 t2 : Tok) (h0 : 0 ≤ p) (hp : p < 2 ^ 59)
    (hz : src.length ≤ sizeLine) (hsl : Txt.slice src (some p) (some (p + 2)) = esc) (e1 : (false || decide (esc = Str.ofString "\\ ") || decide (esc = Str.ofString "\\\t") || decide (esc = Str.ofString "\\\n")) = false) (e2 : (esc == Str.ofString "\\u") = false) (e3 : (esc == Str.ofString "\\U") = false) (hc : KTD.datumAt esc escD = some (.flat (.str c))) :
    Tag KK RW (Spec w 4 231 [.str src t1, .int p t2] (fun v tl => ∃ l t t', v = .ref l ∧ tl = [(l, { cls := .type "tuple", data := .seq #[.int (p + 2) t, .str c t'] })])) := by
  k_fill
  unfold Tag Spec
  intro A outer env A₀ base h₀ L m news s mean mg mb Q E hAt hh hd hret
  obtain ⟨B, F, X, N, T, hA, hf, hk⟩ := hAt
  have KX := X.K
  refine wpAny_call ?_
  k_dflt ((refine' code_def ?k1_49 ?k2_49 ?k3_49 ?k4_49 ?k5_49 ?kA_49 ?kF_49 ?kK_49 ?k6_49 ?k7_49 ?k8_49 ?k9_49 ?kB_49 ?_ ?c2_49 ?c3_49 ?c4_49 ?c5_49; (case kA_49 => first | assumption | exact Around.frames_deeper (by assumption)); (case kF_49 => first | assumption | exact rfl); (case kK_49 => first | assumption | exact rfl); (case k1_49 => k_asm); (case k2_49 => k_asm); (case k3_49 => k_asm); (case k4_49 => k_asm); (case k5_49 => k_asm); (case k6_49 => k_is); (case k7_49 => k_is); (case k8_49 => ktr_room); (case k9_49 => first | exact (by assumption : BindsTo _ _ _ _) | exact BindsTo.of_eq rfl); (case c5_49 => decide); (case kB_49 => exact locs rfl); (case c2_49 => exact rfl); (case c3_49 => exact rfl); (case c4_49 => exact rfl); k_whole; intro g' L' h' FG' F' N' B' X' T'; (try dsimp only); (try k_fold)))
  have XX := X.keeps (by assumption : Fr h₀ L _ m).keep
  walk_at "mine steps"
  refine wpAny_call ?_
  k_dflt ((refine' code_def ?k1_50 ?k2_50 ?k3_50 ?k4_50 ?k5_50 ?kA_50 ?kF_50 ?kK_50 ?k6_50 ?k7_50 ?k8_50 ?k9_50 ?kB_50 ?_ ?c2_50 ?c3_50 ?c4_50 ?c5_50; (case kA_50 => first | assumption | exact Around.frames_deeper (by assumption)); (case kF_50 => first | assumption | exact rfl); (case kK_50 => first | assumption | exact rfl); (case k1_50 => k_asm); (case k2_50 => k_asm); (case k3_50 => k_asm); (case k4_50 => k_asm); (case k5_50 => k_asm); (case k6_50 => k_is); (case k7_50 => k_is); (case k8_50 => ktr_room); (case k9_50 => first | exact (by assumption : BindsTo _ _ _ _) | exact BindsTo.of_eq rfl); (case c5_50 => decide); (case kB_50 => exact locs rfl); (case c2_50 => exact rfl); (case c3_50 => exact rfl); (case c4_50 => exact rfl); k_whole; intro g' L' h' FG' F' N' B' X' T'; (try dsimp only); (try k_fold)))
  have XX := Facts.keeps XX (Fr.keep (by assumption))
  walk_at "mine steps"
  exact hret _ [(_, _)] _ _ (by assumption) (news_mid (by assumption)) ⟨_, _, _, rfl, rfl⟩
end
-- Wk8
section
set_option maxRecDepth 100000 in
set_option maxHeartbeats 8000000 in
theorem escF_spec (w : World) (src esc : Str) (p : Int) (k : Nat) (t1 t2 : Tok) (h0 : 0 ≤ p) (hp : p < 2 ^ 59) (hkk : k < 2 ^ 59)
    (hz : src.length ≤ sizeLine) (hsl : Txt.slice src (some p) (some (p + 2)) = esc) (e1 : (false || decide (esc = Str.ofString "\\ ") || decide (esc = Str.ofString "\\\t") || decide (esc = Str.ofString "\\\n")) = true) (e2 : (esc != Str.ofString "\\\n") = false)
    (hin : ∀ i, i < k → ∃ c, src.cps[(p + 2 + i).toNat]? = some c ∧ wsnlL.contains ⟨#[c]⟩ = true) (hout : ∃ c, src.cps[(p + 2 + k).toNat]? = some c ∧ wsnlL.contains ⟨#[c]⟩ = false) :
    Tag KK RW (Spec w 4 231 [.str src t1, .int p t2] (fun v tl => ∃ l t t', v = .ref l ∧ tl = [(l, { cls := .type "tuple", data := .seq #[.int (p + 2 + k) t, .str (Str.ofString "") t'] })])) := by
  k_fill
  unfold Tag Spec
  intro A outer env A₀ base h₀ L m news s mean mg mb Q E hAt hh hd hret
  obtain ⟨B, F, X, N, T, hA, hf, hk⟩ := hAt
  have KX := X.K
  refine wpAny_call ?_
  k_dflt ((refine' code_def ?k1_51 ?k2_51 ?k3_51 ?k4_51 ?k5_51 ?kA_51 ?kF_51 ?kK_51 ?k6_51 ?k7_51 ?k8_51 ?k9_51 ?kB_51 ?_ ?c2_51 ?c3_51 ?c4_51 ?c5_51; (case kA_51 => first | assumption | exact Around.frames_deeper (by assumption)); (case kF_51 => first | assumption | exact rfl); (case kK_51 => first | assumption | exact rfl); (case k1_51 => k_asm); (case k2_51 => k_asm); (case k3_51 => k_asm); (case k4_51 => k_asm); (case k5_51 => k_asm); (case k6_51 => k_is); (case k7_51 => k_is); (case k8_51 => ktr_room); (case k9_51 => first | exact (by assumption : BindsTo _ _ _ _) | exact BindsTo.of_eq rfl); (case c5_51 => decide); (case kB_51 => exact locs rfl); (case c2_51 => exact rfl); (case c3_51 => exact rfl); (case c4_51 => exact rfl); k_whole; intro g' L' h' FG' F' N' B' X' T'; (try dsimp only); (try k_fold)))
  have XX := X.keeps (by assumption : Fr h₀ L _ m).keep
  walk_at "mine steps"
  refine wpAny_call ?_
  k_dflt ((refine' code_def ?k1_52 ?k2_52 ?k3_52 ?k4_52 ?k5_52 ?kA_52 ?kF_52 ?kK_52 ?k6_52 ?k7_52 ?k8_52 ?k9_52 ?kB_52 ?_ ?c2_52 ?c3_52 ?c4_52 ?c5_52; (case kA_52 => first | assumption | exact Around.frames_deeper (by assumption)); (case kF_52 => first | assumption | exact rfl); (case kK_52 => first | assumption | exact rfl); (case k1_52 => k_asm); (case k2_52 => k_asm); (case k3_52 => k_asm); (case k4_52 => k_asm); (case k5_52 => k_asm); (case k6_52 => k_is); (case k7_52 => k_is); (case k8_52 => ktr_room); (case k9_52 => first | exact (by assumption : BindsTo _ _ _ _) | exact BindsTo.of_eq rfl); (case c5_52 => decide); (case kB_52 => exact locs rfl); (case c2_52 => exact rfl); (case c3_52 => exact rfl); (case c4_52 => exact rfl); k_whole; intro g' L' h' FG' F' N' B' X' T'; (try dsimp only); (try k_fold)))
  have XX := Facts.keeps XX (Fr.keep (by assumption))
  walk_at "mine steps"
  k_dflt (refine' call_spec (skip_spec w 182 wsnlL (fun _ X => X.s9) rfl src (p + 2) k _ _ ?a1 ?a2 ?a3 ?a4 ?a5) ?B ?F ?X ?N ?T ?hA ?hf ?hk ?hh ?hd ?_; (case a1 => omega); (case a2 => omega); (case a3 => omega); (case a4 => assumption); (case a5 => assumption); (((case B => k_asm); (case F => k_asm); (case X => assumption); (case N => k_asm); (case T => k_asm); (case hA => first | exact Around.frames_deeper (by assumption) | exact Around.frames_deeper (Around.frames_deeper (by assumption))); (case hf => exact rfl); (case hk => exact rfl); (case hh => with_unfolding_all assumption); (case hd => first | exact dp1 (by assumption) rfl | exact dp0 (by assumption) rfl | (simp only [depth_under_make, depth_under_kw, depth_in1, depth_deeper, depth_caller] at *; omega)))); k_whole)
  rintro v tl h1 tk1 ⟨rfl, t, rfl⟩ F1 N1
  walk_at "mine steps"
  exact hret _ [(_, _)] _ _ (by assumption) (news_mid (by assumption)) ⟨_, _, _, rfl, rfl⟩
end
-- Wk9
section
set_option maxRecDepth 100000 in
set_option maxHeartbeats 8000000 in
theorem escG_spec (w : World) (src esc : Str) (p : Int) (j k : Nat) (t1 t2 : Tok) (h0 : 0 ≤ p) (hp : p < 2 ^ 58) (hjj : j < 2 ^ 58) (hkk : k < 2 ^ 59)
    (hz : src.length ≤ sizeLine) (hsl : Txt.slice src (some p) (some (p + 2)) = esc) (e1 : (false || decide (esc = Str.ofString "\\ ") || decide (esc = Str.ofString "\\\t") || decide (esc = Str.ofString "\\\n")) = true) (e2 : (esc != Str.ofString "\\\n") = true)
    (hin0 : ∀ i, i < j → ∃ c, src.cps[(p + 2 + i).toNat]? = some c ∧ wsL.contains ⟨#[c]⟩ = true) (hlf : src.cps[(p + 2 + j).toNat]? = some 10)
    (hin : ∀ i, i < k → ∃ c, src.cps[(p + 2 + j + 1 + i).toNat]? = some c ∧ wsnlL.contains ⟨#[c]⟩ = true) (hout : ∃ c, src.cps[(p + 2 + j + 1 + k).toNat]? = some c ∧ wsnlL.contains ⟨#[c]⟩ = false) :
    Tag KK RW (Spec w 4 231 [.str src t1, .int p t2] (fun v tl => ∃ l t t', v = .ref l ∧ tl = [(l, { cls := .type "tuple", data := .seq #[.int (p + 2 + j + 1 + k) t, .str (Str.ofString "") t'] })])) := by
  k_fill
  unfold Tag Spec
  intro A outer env A₀ base h₀ L m news s mean mg mb Q E hAt hh hd hret
  obtain ⟨B, F, X, N, T, hA, hf, hk⟩ := hAt
  have KX := X.K
  refine wpAny_call ?_
  k_dflt ((refine' code_def ?k1_54 ?k2_54 ?k3_54 ?k4_54 ?k5_54 ?kA_54 ?kF_54 ?kK_54 ?k6_54 ?k7_54 ?k8_54 ?k9_54 ?kB_54 ?_ ?c2_54 ?c3_54 ?c4_54 ?c5_54; (case kA_54 => first | assumption | exact Around.frames_deeper (by assumption)); (case kF_54 => first | assumption | exact rfl); (case kK_54 => first | assumption | exact rfl); (case k1_54 => k_asm); (case k2_54 => k_asm); (case k3_54 => k_asm); (case k4_54 => k_asm); (case k5_54 => k_asm); (case k6_54 => k_is); (case k7_54 => k_is); (case k8_54 => ktr_room); (case k9_54 => first | exact (by assumption : BindsTo _ _ _ _) | exact BindsTo.of_eq rfl); (case c5_54 => decide); (case kB_54 => exact locs rfl); (case c2_54 => exact rfl); (case c3_54 => exact rfl); (case c4_54 => exact rfl); k_whole; intro g' L' h' FG' F' N' B' X' T'; (try dsimp only); (try k_fold)))
  have XX := X.keeps (by assumption : Fr h₀ L _ m).keep
  walk_at "mine steps"
  refine wpAny_call ?_
  k_dflt ((refine' code_def ?k1_55 ?k2_55 ?k3_55 ?k4_55 ?k5_55 ?kA_55 ?kF_55 ?kK_55 ?k6_55 ?k7_55 ?k8_55 ?k9_55 ?kB_55 ?_ ?c2_55 ?c3_55 ?c4_55 ?c5_55; (case kA_55 => first | assumption | exact Around.frames_deeper (by assumption)); (case kF_55 => first | assumption | exact rfl); (case kK_55 => first | assumption | exact rfl); (case k1_55 => k_asm); (case k2_55 => k_asm); (case k3_55 => k_asm); (case k4_55 => k_asm); (case k5_55 => k_asm); (case k6_55 => k_is); (case k7_55 => k_is); (case k8_55 => ktr_room); (case k9_55 => first | exact (by assumption : BindsTo _ _ _ _) | exact BindsTo.of_eq rfl); (case c5_55 => decide); (case kB_55 => exact locs rfl); (case c2_55 => exact rfl); (case c3_55 => exact rfl); (case c4_55 => exact rfl); k_whole; intro g' L' h' FG' F' N' B' X' T'; (try dsimp only); (try k_fold)))
  have XX := Facts.keeps XX (Fr.keep (by assumption))
  walk_at "mine steps"
  k_dflt (refine' call_spec (skip_spec w 174 wsL (fun _ X => X.s7) rfl src (p + 2) j _ _ ?a1 ?a2 ?a3 ?a4 ?a5) ?B ?F ?X ?N ?T ?hA ?hf ?hk ?hh ?hd ?_; (case a1 => omega); (case a2 => omega); (case a3 => omega); (case a4 => assumption); (case a5 => exact ⟨10, hlf, rfl⟩); (((case B => k_asm); (case F => k_asm); (case X => assumption); (case N => k_asm); (case T => k_asm); (case hA => first | exact Around.frames_deeper (by assumption) | exact Around.frames_deeper (Around.frames_deeper (by assumption))); (case hf => exact rfl); (case hk => exact rfl); (case hh => with_unfolding_all assumption); (case hd => first | exact dp1 (by assumption) rfl | exact dp0 (by assumption) rfl | (simp only [depth_under_make, depth_under_kw, depth_in1, depth_deeper, depth_caller] at *; omega)))); k_whole)
  rintro v tl h1 tk1 ⟨rfl, t, rfl⟩ F1 N1
  walk_at "mine steps"
  k_dflt (refine' call_spec (skip_spec w 182 wsnlL (fun _ X => X.s9) rfl src (p + 2 + j + 1) k _ _ ?a1 ?a2 ?a3 ?a4 ?a5) ?B ?F ?X ?N ?T ?hA ?hf ?hk ?hh ?hd ?_; (case a1 => omega); (case a2 => omega); (case a3 => omega); (case a4 => assumption); (case a5 => assumption); (((case B => k_asm); (case F => k_asm); (case X => assumption); (case N => k_asm); (case T => k_asm); (case hA => first | exact Around.frames_deeper (by assumption) | exact Around.frames_deeper (Around.frames_deeper (by assumption))); (case hf => exact rfl); (case hk => exact rfl); (case hh => with_unfolding_all assumption); (case hd => first | exact dp1 (by assumption) rfl | exact dp0 (by assumption) rfl | (simp only [depth_under_make, depth_under_kw, depth_in1, depth_deeper, depth_caller] at *; omega)))); k_whole)
  rintro v tl h1 tk1 ⟨rfl, t, rfl⟩ F1 N1
  walk_at "mine steps"
  exact hret _ [(_, _)] _ _ (by assumption) (news_mid (by assumption)) ⟨_, _, _, rfl, rfl⟩
end
-- WkG
section
/-- a contract over the ledger: P of the base and the ledger ahead, R of the value, the ledger ahead and behind -/
noncomputable def SpecG (w : World) (d : Nat) (f : Addr) (vs : List Value) (kw : List (Str × Value)) (P : Heap → List (Addr × Obj) → Prop) (R : Value → List (Addr × Obj) → List (Addr × Obj) → Prop) : Prop :=
  ∀ (A : Around) (outer : List Env) (env : Env) (A₀ : Around) (base h₀ : Heap) (L : Addr) (m : Str → Option Value) (news : List (Addr × Obj)) (s : Shared) (mean : ExcName → Option Value) (mg mb : Str → Option Value) (Q E : Value → Shared → Prop),
    At w A outer env A₀ base h₀ L m news s.heap mean mg mb → A.handled = none → A.depth + d < recursionLimit → P h₀ news →
    (∀ v news' h' tk', Fr h₀ L h' m → News h₀ L h' news' → R v news news' → Q v { s with heap := h', toks := tk' }) →
    wpAny (model PW w) A (call (.ref f) vs kw) Q E s
theorem call_specG {w : World} {d : Nat} {f : Addr} {vs : List Value} {kw : List (Str × Value)} {P : Heap → List (Addr × Obj) → Prop} {R : Value → List (Addr × Obj) → List (Addr × Obj) → Prop} (S : Tag KK RW (SpecG w d f vs kw P R)) {A : Around} {outer : List Env} {env : Env} {A₀ : Around} {base h₀ : Heap} {L : Addr} {m : Str → Option Value} {news : List (Addr × Obj)} {sh : Heap} {sg : Array GenState} {sd : Drawn} {sk : Nat} {so : OsState} {mean : ExcName → Option Value} {mg mb : Str → Option Value} {Q E : Value → Shared → Prop}
    (B : Below A₀ base outer h₀) (F : Fr h₀ L sh m) (X : Facts w h₀) (N : News h₀ L sh news) (T : TopQ w mean mg mb h₀) (hA : A.frames = some (env :: outer)) (hf : env.frame = some L) (hk : env.scope.kind = .function)
    (hh : A.handled = none) (hd : A.depth + d < recursionLimit) (hP : P h₀ news)
    (h : ∀ v news' h' tk', R v news news' → Fr h₀ L h' m → News h₀ L h' news' → Q v ⟨h', sg, sd, tk', so⟩) :
    wpAny (model PW w) A (call (.ref f) vs kw) Q E ⟨sh, sg, sd, sk, so⟩ :=
  S A outer env A₀ base h₀ L m news ⟨sh, sg, sd, sk, so⟩ mean mg mb Q E ⟨B, F, X, N, T, hA, hf, hk⟩ hh hd hP fun v news' h' tk' F' N' r => h v news' h' tk' r F' N'
theorem news_sub {h₀ h : Heap} {L : Addr} {news news' : List (Addr × Obj)} (N : News h₀ L h news) (hs : ∀ p ∈ news', p ∈ news) : News h₀ L h news' := fun p hp => N p (hs p hp)
/-- a text by its signs' numbers -/
noncomputable def tx (l : List Nat) : Str := ⟨l.toArray⟩
/-- an escape at p, read by the multiline escape reader -/
noncomputable def EscOk (w : World) (src : Str) (p q : Nat) (o : List Nat) : Prop :=
  ∀ t1 t2, Tag KK RW (Spec w 4 231 [.str src t1, .int p t2] (fun v tl => ∃ l t t', v = .ref l ∧ tl = [(l, { cls := .type "tuple", data := .seq #[.int q t, .str (tx o) t'] })]))
/-- what the reader makes of src between p and e -/
inductive Reads1 (w : World) (src : Str) : Nat → Nat → List Nat → Prop
  | done (p : Nat) : Reads1 w src p p []
  | raw {p e c : Nat} {out : List Nat} : src.cps[p]? = some c → c ≠ 34 → c ≠ 92 → illMultiL.contains ⟨#[c]⟩ = false → Reads1 w src (p + 1) e out → Reads1 w src p e (c :: out)
  | esc {p q e : Nat} {o out : List Nat} : src.cps[p]? = some 92 → EscOk w src p q o → p < q → o.length ≤ q - p → Reads1 w src q e out → Reads1 w src p e (o ++ out)
theorem Reads1.le {w : World} {src : Str} {p e : Nat} {o : List Nat} (r : Reads1 w src p e o) : p ≤ e := by
  induction r with
  | done => exact Nat.le_refl _
  | raw _ _ _ _ _ ih => omega
  | esc _ _ _ _ _ ih => omega
theorem Reads1.trans {w : World} {src : Str} {p q e : Nat} {o o' : List Nat} (r : Reads1 w src p q o) (r' : Reads1 w src q e o') : Reads1 w src p e (o ++ o') := by
  induction r with
  | done => exact r'
  | raw a b c d _ ih => exact .raw a b c d (ih r')
  | esc a b c d _ ih => rw [List.append_assoc]; exact .esc a b c d (ih r')
theorem tx_append (a b : List Nat) : tx a ++ tx b = tx (a ++ b) := by
  apply Str.ext'
  rw [Str.cps_append]
  simp [tx]
theorem tx_length (a : List Nat) : (tx a).length = a.length := by
  show (a.toArray).size = a.length
  simp
theorem tx_of (x : Str) : tx x.cps.toList = x := by
  cases x; simp [tx]
theorem one_eq {c d : Nat} : ((⟨#[c]⟩ : Str) == ⟨#[d]⟩) = (c == d) := by
  rw [Bool.eq_iff_iff]
  simp
end
-- WkL
section
theorem range_nat (n : Nat) : Builtin.Range.rangeSize 0 (n : Int) 1 = (n : Int) := by
  unfold Builtin.Range.rangeSize
  rw [if_pos (by decide)]
  split
  · rw [Int.ediv_one]; omega
  · omega
theorem fits_nat {z : Int} (h0 : 0 ≤ z) (h : z < 1099511627777) : Builtin.Range.rangeFitsLong z = true := by
  unfold Builtin.Range.rangeFitsLong
  exact Bool.and_eq_true_iff.mpr ⟨decide_eq_true (by omega), decide_eq_true (by omega)⟩
theorem small_nat {n : Nat} (h : n < 1099511627776) : Builtin.Range.small 0 (n : Int) 1 = true := by
  unfold Builtin.Range.small
  rw [range_nat, fits_nat (Int.le_refl _) (by decide), fits_nat (z := (n : Int)) (by omega) (by omega), fits_nat (z := 1) (by decide) (by decide)]
  rw [if_pos (by decide), fits_nat (z := (n : Int) + (1 - 1)) (by omega) (by omega)]
  simp
theorem item_nat {x : Str} {i c : Nat} (h : x.cps[i]? = some c) : Txt.item x (i : Int) = ⟨#[c]⟩ := by
  have hlt : i < x.length := (Array.getElem?_eq_some_iff.mp h).1
  have e : seqIndex? (i : Int) x.length = some i := by
    unfold seqIndex?
    rw [if_neg (Int.not_lt.mpr (Int.natCast_nonneg i))]
    dsimp only
    rw [if_pos (by rw [Bool.and_eq_true, decide_eq_true_eq, decide_eq_true_eq]; omega)]
    rfl
  unfold Txt.item Txt.charAt
  rw [e]
  show (⟨#[(x.cps[i]?).getD 0]⟩ : Str) = _
  rw [h]
  rfl
section
variable {w : World} {A : Around} {E : Value → Shared → Prop} {s : Shared} {env : Env} {h₀ : Heap} {x : Str} {body : List Stmt} {Q : Flow → Shared → Prop} {m₀ : Str → Option Value} {news : List (Addr × Obj)}
theorem UnrEnd.mono {L : Addr} {s₁ s₂ : Shared} {I : Addr} {it : Obj} {J J' : (Str → Option Value) → List (Addr × Obj) → Prop} (h : UnrEnd h₀ L s₁ I it J s₂) (k : ∀ m n, (∀ p ∈ n, p.1 ≠ I) → J m n → J' m n) : UnrEnd h₀ L s₁ I it J' s₂ := by
  obtain ⟨h', tk, m', n', e, F, N, o, j⟩ := h
  exact ⟨h', tk, m', n', e, F, N, o, k _ _ o j⟩
theorem UnrPost.mono {L : Addr} {s₁ s₂ : Shared} {f : Flow} {I : Addr} {it : Obj} {J J' : (Str → Option Value) → List (Addr × Obj) → Prop} (h : UnrPost h₀ L s₁ I it J Q f s₂) (k : ∀ m n, (∀ p ∈ n, p.1 ≠ I) → J m n → J' m n) : UnrPost h₀ L s₁ I it J' Q f s₂ := by
  cases f with
  | ret v => exact h
  | brk => exact h
  | next => exact UnrEnd.mono h k
  | cont => exact UnrEnd.mono h k
theorem execs_app_wp {M : Model} {Γ : Ctx} {l₂ : List Stmt} {env : Env} {Q' : Flow → Pos → Shared → Prop} {E' : Value → Pos → Shared → Prop} : ∀ (l₁ : List Stmt) (p : Pos) (s : Shared),
    Sem.wp M Γ (execs l₁ env) (fun f p' s' => match f with | .next => Sem.wp M Γ (execs l₂ env) Q' E' p' s' | f => Q' f p' s') E' p s → Sem.wp M Γ (execs (l₁ ++ l₂) env) Q' E' p s
  | [], _, _, h => h
  | a :: l, p, s, h => by
    have h' : Sem.wp M Γ (execs (a :: l) env) (fun f p' s' => match f with | .next => Sem.wp M Γ (execs l₂ env) Q' E' p' s' | f => Q' f p' s') E' p s := h
    rw [execs_cons, Sem.wp_bind'] at h'
    show Sem.wp M Γ (execs (a :: (l ++ l₂)) env) Q' E' p s
    rw [execs_cons, Sem.wp_bind']
    refine Sem.wp_mono M Γ _ (fun f p' s' k => ?_) (fun _ _ _ k => k) _ _ h'
    cases f with
    | next => exact execs_app_wp l p' s' k
    | _ => exact k
theorem execs_app {l₁ l₂ : List Stmt} {env : Env} {Q : Flow → Shared → Prop} (h : wpAny (model PW w) A (execs l₁ env) (fun f s' => match f with | .next => wpAny (model PW w) A (execs l₂ env) Q E s' | f => Q f s') E s) : wpAny (model PW w) A (execs (l₁ ++ l₂) env) Q E s :=
  fun Γ p hΓ => execs_app_wp l₁ p s (Sem.wp_mono _ Γ _ (fun f p' s' k => by
    cases f with
    | next => exact k Γ p' hΓ
    | _ => exact k) (fun _ _ _ k => k) _ _ (h Γ p hΓ))
noncomputable def CutEnd (h₀ : Heap) (L : Addr) (s : Shared) (J : (Str → Option Value) → List (Addr × Obj) → Prop) (f : Flow) (s' : Shared) : Prop := f = .next ∧ ∃ h' tk m' news', s' = { s with heap := h', toks := tk } ∧ Fr h₀ L h' m' ∧ News h₀ L h' news' ∧ J m' news'
theorem CutEnd.intro {L : Addr} {J : (Str → Option Value) → List (Addr × Obj) → Prop} {h' : Heap} {tk : Nat} {m' : Str → Option Value} {news' : List (Addr × Obj)} (F : Fr h₀ L h' m') (N : News h₀ L h' news') (j : J m' news') : CutEnd h₀ L s J .next { s with heap := h', toks := tk } := ⟨rfl, h', tk, m', news', rfl, F, N, j⟩
/-- ways that meet: what the first statements leave is told by J -/
theorem cut_over {l₁ l₂ : List Stmt} {env : Env} {Q : Flow → Shared → Prop} {L : Addr} {m : Str → Option Value} (J : (Str → Option Value) → (Str → Option Value) → List (Addr × Obj) → Prop) (_F : Fr h₀ L s.heap m)
    (turn : wpAny (model PW w) A (execs l₁ env) (CutEnd h₀ L s (J m)) E s)
    (k : ∀ h' tk m' news', Fr h₀ L h' m' → News h₀ L h' news' → J m m' news' → wpAny (model PW w) A (execs l₂ env) Q E { s with heap := h', toks := tk }) :
    wpAny (model PW w) A (execs (l₁ ++ l₂) env) Q E s := by
  refine execs_app (wpAny_mono turn (fun f s' h => ?_) fun _ _ e => e)
  obtain ⟨rfl, h', tk, m', news', rfl, F', N', j⟩ := h
  exact k h' tk m' news' F' N' j
theorem cut1 {sh : Heap} {sg : Array GenState} {sd : Drawn} {sk : Nat} {so : OsState} {a : Stmt} {l₂ : List Stmt} {env : Env} {Q : Flow → Shared → Prop} {L : Addr} {m : Str → Option Value} (J : (Str → Option Value) → (Str → Option Value) → List (Addr × Obj) → Prop) (F : Fr h₀ L sh m)
    (turn : wpAny (model PW w) A (execs [a] env) (CutEnd h₀ L ⟨sh, sg, sd, sk, so⟩ (J m)) E ⟨sh, sg, sd, sk, so⟩)
    (k : ∀ h' tk m' news', Fr h₀ L h' m' → News h₀ L h' news' → J m m' news' → wpAny (model PW w) A (execs l₂ env) Q E ⟨h', sg, sd, tk, so⟩) :
    wpAny (model PW w) A (execs (a :: l₂) env) Q E ⟨sh, sg, sd, sk, so⟩ := cut_over (s := ⟨sh, sg, sd, sk, so⟩) (l₁ := [a]) J F turn k
theorem cut2 {sh : Heap} {sg : Array GenState} {sd : Drawn} {sk : Nat} {so : OsState} {a b : Stmt} {l₂ : List Stmt} {env : Env} {Q : Flow → Shared → Prop} {L : Addr} {m : Str → Option Value} (J : (Str → Option Value) → (Str → Option Value) → List (Addr × Obj) → Prop) (F : Fr h₀ L sh m)
    (turn : wpAny (model PW w) A (execs [a, b] env) (CutEnd h₀ L ⟨sh, sg, sd, sk, so⟩ (J m)) E ⟨sh, sg, sd, sk, so⟩)
    (k : ∀ h' tk m' news', Fr h₀ L h' m' → News h₀ L h' news' → J m m' news' → wpAny (model PW w) A (execs l₂ env) Q E ⟨h', sg, sd, tk, so⟩) :
    wpAny (model PW w) A (execs (a :: b :: l₂) env) Q E ⟨sh, sg, sd, sk, so⟩ := cut_over (s := ⟨sh, sg, sd, sk, so⟩) (l₁ := [a, b]) J F turn k
theorem cut3 {sh : Heap} {sg : Array GenState} {sd : Drawn} {sk : Nat} {so : OsState} {a b c : Stmt} {l₂ : List Stmt} {env : Env} {Q : Flow → Shared → Prop} {L : Addr} {m : Str → Option Value} (J : (Str → Option Value) → (Str → Option Value) → List (Addr × Obj) → Prop) (F : Fr h₀ L sh m)
    (turn : wpAny (model PW w) A (execs [a, b, c] env) (CutEnd h₀ L ⟨sh, sg, sd, sk, so⟩ (J m)) E ⟨sh, sg, sd, sk, so⟩)
    (k : ∀ h' tk m' news', Fr h₀ L h' m' → News h₀ L h' news' → J m m' news' → wpAny (model PW w) A (execs l₂ env) Q E ⟨h', sg, sd, tk, so⟩) :
    wpAny (model PW w) A (execs (a :: b :: c :: l₂) env) Q E ⟨sh, sg, sd, sk, so⟩ := cut_over (s := ⟨sh, sg, sd, sk, so⟩) (l₁ := [a, b, c]) J F turn k
/-- a for over a range, by an invariant over its start's names -/
theorem iter_rangeJ₀ (J : (Str → Option Value) → Nat → (Str → Option Value) → List (Addr × Obj) → Prop) {r : Addr} {a₀ b₀ : Int} {t₀ u₀ v₀ : Tok} {n : Nat}
    (hh : A.handled = none) (hr : IsRange s.heap r a₀ b₀ 1 t₀ u₀ v₀) (hsmall : Builtin.Range.small a₀ b₀ 1 = true) (hn : Builtin.Range.rangeSize a₀ b₀ 1 = (n : Int)) (F : Fr h₀ env.locals s.heap m₀) (N : News h₀ env.locals s.heap news)
    (hj : J m₀ 0 m₀ news)
    (turn : ∀ i m₁ news₁ I it t h tk, i < n → (∀ p ∈ news₁, p.1 ≠ I) → J m₀ i m₁ news₁ → Fr h₀ env.locals h (fun y => if y = x then some (.int (a₀ + (i : Int)) t) else m₁ y) → News h₀ env.locals h ((I, it) :: news₁) →
      wpAny (model PW w) A (execs body env) (UnrPost h₀ env.locals { s with heap := h, toks := tk } I it (J m₀ (i + 1)) Q) E { s with heap := h, toks := tk })
    (done : ∀ m₁ news₁ h tk, J m₀ n m₁ news₁ → Fr h₀ env.locals h m₁ → News h₀ env.locals h news₁ → Q .next { s with heap := h, toks := tk }) :
    wpAny (model PW w) A (pyIter (.ref r)) (fun it s₂ => LoopAtV PW w A h₀ env x body Q E it s₂) E s := by
  refine iter_rangeUnr hh hr hsmall hn F N fun I hI => ?_
  have go : ∀ k i m₁ news₁, i + k = n → (∀ p ∈ news₁, p.1 ≠ I) → J m₀ i m₁ news₁ → RangeRest PW w A E h₀ env x body Q s I a₀ n k i m₁ news₁ := by
    intro k
    induction k with
    | zero =>
      intro i m₁ news₁ e o j
      obtain rfl : i = n := by omega
      exact RangeRest.zero fun h tk F N => done _ _ _ _ j F N
    | succ k ih =>
      intro i m₁ news₁ e o j
      refine RangeRest.succ fun t h tk F N => ?_
      exact wpAny_mono (turn i m₁ news₁ I _ t h tk (by omega) o j F N) (fun f s₂ p => UnrPost.mono p fun m n o q => ih (i + 1) m n (by omega) o q) fun _ _ e => e
  exact go n 0 m₀ news (by omega) (fun p hp => Nat.ne_of_lt (hI p hp)) hj
theorem iter_rangeJ {sh : Heap} {sg : Array GenState} {sd : Drawn} {sk : Nat} {so : OsState} (J : (Str → Option Value) → Nat → (Str → Option Value) → List (Addr × Obj) → Prop) {r : Addr} {a₀ b₀ : Int} {t₀ u₀ v₀ : Tok} {n : Nat}
    (hh : A.handled = none) (hr : IsRange sh r a₀ b₀ 1 t₀ u₀ v₀) (hsmall : Builtin.Range.small a₀ b₀ 1 = true) (hn : Builtin.Range.rangeSize a₀ b₀ 1 = (n : Int)) (F : Fr h₀ env.locals sh m₀) (N : News h₀ env.locals sh news)
    (hj : J m₀ 0 m₀ news)
    (turn : ∀ i m₁ news₁ I it t h tk, i < n → (∀ p ∈ news₁, p.1 ≠ I) → J m₀ i m₁ news₁ → Fr h₀ env.locals h (fun y => if y = x then some (.int (a₀ + (i : Int)) t) else m₁ y) → News h₀ env.locals h ((I, it) :: news₁) →
      wpAny (model PW w) A (execs body env) (UnrPost h₀ env.locals ⟨h, sg, sd, tk, so⟩ I it (J m₀ (i + 1)) Q) E ⟨h, sg, sd, tk, so⟩)
    (done : ∀ m₁ news₁ h tk, J m₀ n m₁ news₁ → Fr h₀ env.locals h m₁ → News h₀ env.locals h news₁ → Q .next ⟨h, sg, sd, tk, so⟩) :
    wpAny (model PW w) A (pyIter (.ref r)) (fun it s₂ => LoopAtV PW w A h₀ env x body Q E it s₂) E ⟨sh, sg, sd, sk, so⟩ := iter_rangeJ₀ (s := ⟨sh, sg, sd, sk, so⟩) J hh hr hsmall hn F N hj turn done
/-- a for over a list of the ledger, by an invariant over its start's names -/
theorem iter_listJ₀ (J : (Str → Option Value) → Nat → (Str → Option Value) → List (Addr × Obj) → Prop) {ax : Addr} {lo : Obj} {vs : List Value} {n : Nat}
    (hh : A.handled = none) (F : Fr h₀ env.locals s.heap m₀) (N : News h₀ env.locals s.heap news) (hm : (ax, lo) ∈ news) (hc : lo.cls = .type "list") (hd : lo.data = .seq vs.toArray n)
    (hj : J m₀ 0 m₀ news)
    (turn : ∀ i v m₁ news₁ I it h tk, vs[i]? = some v → (∀ p ∈ news₁, p.1 ≠ I) → J m₀ i m₁ news₁ → Fr h₀ env.locals h (fun y => if y = x then some v else m₁ y) → News h₀ env.locals h ((I, it) :: news₁) →
      wpAny (model PW w) A (execs body env) (UnrPost h₀ env.locals { s with heap := h, toks := tk } I it (fun m n => (ax, lo) ∈ n ∧ J m₀ (i + 1) m n) Q) E { s with heap := h, toks := tk })
    (done : ∀ m₁ news₁ h tk, J m₀ vs.length m₁ news₁ → Fr h₀ env.locals h m₁ → News h₀ env.locals h news₁ → Q .next { s with heap := h, toks := tk }) :
    wpAny (model PW w) A (pyIter (.ref ax)) (fun it s₂ => LoopAtV PW w A h₀ env x body Q E it s₂) E s := by
  refine iter_listUnr hh F N hm hc hd fun I hI => ?_
  have go : ∀ r i m₁ news₁, vs.drop i = r → i ≤ vs.length → (∀ p ∈ news₁, p.1 ≠ I) → J m₀ i m₁ news₁ → ListRest PW w A E h₀ env x body Q s I (ax, lo) r m₁ news₁ := by
    intro r
    induction r with
    | nil =>
      intro i m₁ news₁ e hi o j
      have : vs.length ≤ i := List.drop_eq_nil_iff.mp e
      obtain rfl : i = vs.length := by omega
      exact ListRest.zero fun h tk F N => done _ _ _ _ j F N
    | cons v r ih =>
      intro i m₁ news₁ e hi o j
      have hv : vs[i]? = some v := by
        have := congrArg (fun l => l[0]?) e
        simpa using this
      have hlt : i < vs.length := (List.getElem?_eq_some_iff.mp hv).1
      have he : vs.drop (i + 1) = r := by
        rw [List.drop_eq_getElem_cons hlt] at e
        exact (List.cons.inj e).2
      refine ListRest.succ fun it h tk _ F N => ?_
      exact wpAny_mono (turn i v m₁ news₁ I it h tk hv o j F N) (fun f s₂ p => UnrPost.mono p fun m n o q => ⟨q.1, ih (i + 1) m n he (by omega) o q.2⟩) fun _ _ e => e
  exact go vs 0 m₀ news (by simp) (by omega) (fun p hp => Nat.ne_of_lt (hI p hp)) hj
theorem iter_listJ {sh : Heap} {sg : Array GenState} {sd : Drawn} {sk : Nat} {so : OsState} (J : (Str → Option Value) → Nat → (Str → Option Value) → List (Addr × Obj) → Prop) {ax : Addr} {lo : Obj} {vs : List Value} {n : Nat}
    (hh : A.handled = none) (F : Fr h₀ env.locals sh m₀) (N : News h₀ env.locals sh news) (hm : (ax, lo) ∈ news) (hc : lo.cls = .type "list") (hd : lo.data = .seq vs.toArray n)
    (hj : J m₀ 0 m₀ news)
    (turn : ∀ i v m₁ news₁ I it h tk, vs[i]? = some v → (∀ p ∈ news₁, p.1 ≠ I) → J m₀ i m₁ news₁ → Fr h₀ env.locals h (fun y => if y = x then some v else m₁ y) → News h₀ env.locals h ((I, it) :: news₁) →
      wpAny (model PW w) A (execs body env) (UnrPost h₀ env.locals ⟨h, sg, sd, tk, so⟩ I it (fun m n => (ax, lo) ∈ n ∧ J m₀ (i + 1) m n) Q) E ⟨h, sg, sd, tk, so⟩)
    (done : ∀ m₁ news₁ h tk, J m₀ vs.length m₁ news₁ → Fr h₀ env.locals h m₁ → News h₀ env.locals h news₁ → Q .next ⟨h, sg, sd, tk, so⟩) :
    wpAny (model PW w) A (pyIter (.ref ax)) (fun it s₂ => LoopAtV PW w A h₀ env x body Q E it s₂) E ⟨sh, sg, sd, sk, so⟩ := iter_listJ₀ (s := ⟨sh, sg, sd, sk, so⟩) J hh F N hm hc hd hj turn done
theorem unr_next {L : Addr} {I : Addr} {it : Obj} {J : (Str → Option Value) → List (Addr × Obj) → Prop} {h' : Heap} {tk : Nat} {m' : Str → Option Value} {news' : List (Addr × Obj)} (F : Fr h₀ L h' m') (N : News h₀ L h' ((I, it) :: news')) (o : ∀ p ∈ news', p.1 ≠ I) (j : J m' news') :
    UnrEnd h₀ L s I it J { s with heap := h', toks := tk } := ⟨h', tk, m', news', rfl, F, N, o, j⟩
end
end
-- WkR
section
section
variable {w : World} {A : Around} {E : Value → Shared → Prop} {s : Shared} {h₀ : Heap} {L : Addr} {news : List (Addr × Obj)} {l : Addr} {vs : List Value} {n : Nat} {Q : Value → Shared → Prop}
theorem led_list (N : News h₀ L s.heap news) (hm : (l, W.listOf vs.toArray n) ∈ news) : s.heap.IsList l vs.toArray := ⟨_, (N _ hm).1, rfl, n, rfl⟩
theorem len_led₀ (N : News h₀ L s.heap news) (hm : (l, W.listOf vs.toArray n) ∈ news) (hf : vs.length < 1000000) (h : ∀ t k, Q (.int (vs.length : Int) t) { s with toks := k }) : wpAny (model PW w) A (call (.builtin "len") [.ref l]) Q E s :=
  len_list (led_list N hm) (by rw [List.size_toArray]; omega) (by rw [List.size_toArray]; exact h _ _)
theorem len_led {sh : Heap} {sg : Array GenState} {sd : Drawn} {sk : Nat} {so : OsState} (N : News h₀ L sh news) (hm : (l, W.listOf vs.toArray n) ∈ news) (hf : vs.length < 1000000) (h : ∀ t k, Q (.int (vs.length : Int) t) ⟨sh, sg, sd, k, so⟩) : wpAny (model PW w) A (call (.builtin "len") [.ref l]) Q E ⟨sh, sg, sd, sk, so⟩ := len_led₀ (s := ⟨sh, sg, sd, sk, so⟩) N hm hf h
theorem item_led {value slice : Expr} {k : Int} {j : Nat} {u : Tok} {v : Value} (N : News h₀ L s.heap news) (hm : (l, W.listOf vs.toArray n) ∈ news) (hk : k = (j : Int)) (hj : j < 1000000) (hx : vs[j]? = some v) (h : Q v s)
    (hs : subscripted slice false (.ref l) (.int k u) = operate [.ref l, .int k u] (getItem (.ref l) (.int k u)) := by with_unfolding_all rfl) (hg : ∀ r, letTemporaryGo value (.ref l) r = pure () := by intro _; with_unfolding_all rfl) :
    wpAny (model PW w) A (subscriptTail value slice (.ref l) (.int k u)) Q E s := by
  subst hk
  exact item_list (led_list N hm) (by omega) (by omega) (by simpa using hx) h hs hg
theorem item_menu {value slice : Expr} {k : Int} {j : Nat} {u : Tok} {x : Str} (N : News h₀ L s.heap news) (hm : (l, W.listOf vs.toArray n) ∈ news) (hk : k = (j : Int)) (hj : j < 1000000) (hx : ∃ t, vs[j]? = some (.str x t)) (hl : x.length ≤ 10) (h : ∀ t, x.length ≤ 10 → Q (.str x t) s)
    (hs : subscripted slice false (.ref l) (.int k u) = operate [.ref l, .int k u] (getItem (.ref l) (.int k u)) := by with_unfolding_all rfl) (hg : ∀ r, letTemporaryGo value (.ref l) r = pure () := by intro _; with_unfolding_all rfl) :
    wpAny (model PW w) A (subscriptTail value slice (.ref l) (.int k u)) Q E s := by
  obtain ⟨t, hx⟩ := hx
  exact item_led N hm hk hj hx (h t hl) hs hg
end
noncomputable def sel4 (j : Nat) (a b c d : Str) : Str := match j with | 0 => a | 1 => b | 2 => c | _ => d
theorem menu4 {j : Nat} (h : j < 4) {a b c d : Str} {t0 t1 t2 t3 : Tok} : ∃ t, ([.str a t0, .str b t1, .str c t2, .str d t3] : List Value)[j]? = some (.str (sel4 j a b c d) t) := by
  match j, h with
  | 0, _ => exact ⟨_, rfl⟩
  | 1, _ => exact ⟨_, rfl⟩
  | 2, _ => exact ⟨_, rfl⟩
  | 3, _ => exact ⟨_, rfl⟩
theorem sel4_len {j : Nat} {a b c d : Str} {n : Nat} (ha : a.length ≤ n) (hb : b.length ≤ n) (hc : c.length ≤ n) (hd : d.length ≤ n) : (sel4 j a b c d).length ≤ n := by
  unfold sel4
  split <;> assumption
section
variable {w : World} {A : Around} {E : Value → Shared → Prop} {s : Shared} {h₀ : Heap} {L : Addr} {m : Str → Option Value} {news : List (Addr × Obj)} {value slice : Expr} {x y : Str} {t ui uj : Tok} {i j : Int} {Q : Value → Shared → Prop}
theorem slice_to₀ (hF : Fr h₀ L s.heap m) (hN : News h₀ L s.heap news) (e : Txt.slice x none (some j) = y) (hsz : x.length ≤ sizeLine)
    (h : ∀ h' t' k, Fr h₀ L h' m → News h₀ L h' news → Q (.str y t') { s with heap := h', toks := k })
    (hs : subscripted slice false (.str x t) (.ref s.heap.objs.size) = operate [.ref s.heap.objs.size, .str x t] (getItem (.str x t) (.ref s.heap.objs.size)) := by with_unfolding_all rfl)
    (ht : ∀ r, letTemporaryGo value (.str x t) r = pure () := by intro _; with_unfolding_all rfl) :
    wpAny (model PW w) A (subscriptTail value slice (.str x t) (.ref s.heap.objs.size)) Q E { s with heap := s.heap.push { cls := .type "slice", data := .fields #[.none, .int j uj, .none] } } := by
  subst e
  exact slice_strN_ns hF hN h hs ht hsz
theorem slice_to {sh : Heap} {sg : Array GenState} {sd : Drawn} {sk : Nat} {so : OsState} (hF : Fr h₀ L sh m) (hN : News h₀ L sh news) (e : Txt.slice x none (some j) = y) (hsz : x.length ≤ sizeLine)
    (h : ∀ h' t' k, Fr h₀ L h' m → News h₀ L h' news → Q (.str y t') ⟨h', sg, sd, k, so⟩)
    (hs : subscripted slice false (.str x t) (.ref sh.objs.size) = operate [.ref sh.objs.size, .str x t] (getItem (.str x t) (.ref sh.objs.size)) := by with_unfolding_all rfl)
    (ht : ∀ r, letTemporaryGo value (.str x t) r = pure () := by intro _; with_unfolding_all rfl) :
    wpAny (model PW w) A (subscriptTail value slice (.str x t) (.ref sh.objs.size)) Q E ⟨sh.push { cls := .type "slice", data := .fields #[.none, .int j uj, .none] }, sg, sd, sk, so⟩ := slice_to₀ (s := ⟨sh, sg, sd, sk, so⟩) hF hN e hsz h hs ht
theorem slice_fr₀ (hF : Fr h₀ L s.heap m) (hN : News h₀ L s.heap news) (e : Txt.slice x (some i) none = y) (hsz : x.length ≤ sizeLine)
    (h : ∀ h' t' k, Fr h₀ L h' m → News h₀ L h' news → Q (.str y t') { s with heap := h', toks := k })
    (hs : subscripted slice false (.str x t) (.ref s.heap.objs.size) = operate [.ref s.heap.objs.size, .str x t] (getItem (.str x t) (.ref s.heap.objs.size)) := by with_unfolding_all rfl)
    (ht : ∀ r, letTemporaryGo value (.str x t) r = pure () := by intro _; with_unfolding_all rfl) :
    wpAny (model PW w) A (subscriptTail value slice (.str x t) (.ref s.heap.objs.size)) Q E { s with heap := s.heap.push { cls := .type "slice", data := .fields #[.int i ui, .none, .none] } } := by
  subst e
  exact slice_strN_sn hF hN h hs ht hsz
theorem slice_fr {sh : Heap} {sg : Array GenState} {sd : Drawn} {sk : Nat} {so : OsState} (hF : Fr h₀ L sh m) (hN : News h₀ L sh news) (e : Txt.slice x (some i) none = y) (hsz : x.length ≤ sizeLine)
    (h : ∀ h' t' k, Fr h₀ L h' m → News h₀ L h' news → Q (.str y t') ⟨h', sg, sd, k, so⟩)
    (hs : subscripted slice false (.str x t) (.ref sh.objs.size) = operate [.ref sh.objs.size, .str x t] (getItem (.str x t) (.ref sh.objs.size)) := by with_unfolding_all rfl)
    (ht : ∀ r, letTemporaryGo value (.str x t) r = pure () := by intro _; with_unfolding_all rfl) :
    wpAny (model PW w) A (subscriptTail value slice (.str x t) (.ref sh.objs.size)) Q E ⟨sh.push { cls := .type "slice", data := .fields #[.int i ui, .none, .none] }, sg, sd, sk, so⟩ := slice_fr₀ (s := ⟨sh, sg, sd, sk, so⟩) hF hN e hsz h hs ht
end
theorem take_tx {T : List Nat} {j : Nat} (h : j ≤ T.length) : Txt.slice (tx T) none (some (j : Int)) = tx (T.take j) := by
  have hl : (tx T).cps.toList.length = T.length := rfl
  have := eq_of_beq (slice_closes_to (x := tx T) (j := (j : Int)) ⟨by omega, by rw [hl]; omega⟩)
  rw [this]
  show (⟨_⟩ : Str) = ⟨_⟩
  simp [tx]
theorem drop_tx {T : List Nat} {j : Nat} (h : j ≤ T.length) : Txt.slice (tx T) (some (j : Int)) none = tx (T.drop j) := by
  have hl : (tx T).length = T.length := tx_length T
  rw [slice_from_eq (x := tx T) (i := (j : Int)) (b := (T.length : Int)) (by omega) (by rw [hl]; omega) (by rw [hl])]
  show (⟨_⟩ : Str) = ⟨_⟩
  congr 2
  simp only [tx, Int.toNat_natCast]
  rw [List.take_of_length_le]
  rw [List.length_drop]
  omega
/-- a list of texts in the ledger -/
noncomputable def TextsIn (news : List (Addr × Obj)) (l : Addr) (ps : List (List Nat)) : Prop := ∃ (vs : List Value) (n : Nat), (l, W.listOf vs.toArray n) ∈ news ∧ vs.length = ps.length ∧ ∀ (i : Nat) (p : List Nat), ps[i]? = some p → ∃ t, vs[i]? = some (Value.str (tx p) t)
/-- the list of signs with their manners -/
noncomputable def DrawnIn (news : List (Addr × Obj)) (l : Addr) (dr : List (Nat × Nat)) : Prop := ∃ (vs : List Value) (n : Nat), (l, W.listOf vs.toArray n) ∈ news ∧ vs.length = dr.length ∧ ∀ (i : Nat) (p : Nat × Nat), dr[i]? = some p → ∃ (r : Addr) (n' : Nat) (t t' : Tok), vs[i]? = some (Value.ref r) ∧ (r, W.listOf [Value.str ⟨#[p.1]⟩ t, Value.int (p.2 : Int) t'].toArray n') ∈ news
end
-- WkE
section
/-- the code of suffixed_err and its table -/
theorem codeHd_mine {P : Params} {h : Heap} (X : (KK P).In h) : CodeHd h 258 254 := by
  have e : h.get? 258 = some (F.o_331 P) := X 258 _ (by kernel_rfl)
  unfold F.o_331 at e
  exact ⟨_, _, _, _, _, _, _, _, _, e, rfl, rfl, rfl, rfl, rfl, rfl, rfl, rfl, by decide⟩
theorem noTabs_mine (P : Params) : noTabs (KK P) = true := by kernel_rfl
/-- a contract that may be called in a handler -/
noncomputable def SpecH (w : World) (d : Nat) (f : Addr) (vs : List Value) (kw : List (Str × Value)) (P : Heap → List (Addr × Obj) → Prop) (R : Value → List (Addr × Obj) → List (Addr × Obj) → Prop) : Prop :=
  ∀ (A : Around) (outer : List Env) (env : Env) (A₀ : Around) (base h₀ : Heap) (L : Addr) (m : Str → Option Value) (news : List (Addr × Obj)) (s : Shared) (mean : ExcName → Option Value) (mg mb : Str → Option Value) (Q E : Value → Shared → Prop),
    At w A outer env A₀ base h₀ L m news s.heap mean mg mb → A.depth + d < recursionLimit → P h₀ news →
    (∀ v news' h' tk', Fr h₀ L h' m → News h₀ L h' news' → R v news news' → Q v { s with heap := h', toks := tk' }) →
    wpAny (model PW w) A (call (.ref f) vs kw) Q E s
end
-- WkS
section
open PySem PySem.W PyProof.Rows Builtin.Str
theorem gives_count4 (x y : Str) (i j : Int) (t u v v' : Tok) : Gives (Builtin.«str.count» ⟨[.str x t, .str y u, .int i v, .int j v'], []⟩) (.int (occurrences x y (fromIndex x.length i) (min (fromIndex x.length j) x.length) (x.length + 1)).length) := by
  show Gives (retInt (occurrences x y (fromIndex x.length i) (min (fromIndex x.length j) x.length) (x.length + 1)).length) _
  exact .of_eq rfl
theorem gives_rindex4 (x y : Str) (i j : Int) (t u v v' : Tok) (k : Nat) (h : lastOccurrence x y (fromIndex x.length i) (min (fromIndex x.length j) x.length) = some k) : Gives (Builtin.«str.rindex» ⟨[.str x t, .str y u, .int i v, .int j v'], []⟩) (.int k) := by
  show Gives (match lastOccurrence x y (fromIndex x.length i) (min (fromIndex x.length j) x.length) with | some i => retInt i | none => (do rule "str.rindex.not-found"; raiseError "ValueError" "substring not found")) _
  rw [h]
  exact .of_eq rfl
theorem from_nat {n p : Nat} : fromIndex n (p : Int) = p := by
  unfold fromIndex
  rw [if_neg (Int.not_lt.mpr (Int.natCast_nonneg p)), Int.max_eq_right (Int.natCast_nonneg p)]
  rfl
section
variable {prog : Program} {w : World} {A : Around} {E : Value → Shared → Prop} {s : Shared} {x y : Str} {t u v v' : Tok} {p : Nat} {Q : Value → Shared → Prop}
theorem count4 {n : Nat} (hp : p ≤ x.length) (hn : (occurrences x y 0 p (x.length + 1)).length = n) (hq : Q (.int n s.toks) { s with toks := s.toks + 1 }) : wpAny (model prog w) A (call (.builtin "str.count") [.str x t, .str y u, .int 0 v, .int p v']) Q E s := by
  have g := gives_count4 x y 0 p t u v v'
  rw [from_nat, show fromIndex x.length 0 = 0 from rfl, Nat.min_eq_left hp, hn] at g
  exact call_gives F.slot_str_count (typeIs_str _ _ _) F.entry_str_count (F.args_str_count_4 _ _ _ _) g hq
theorem rindex4 {k : Nat} (hp : p ≤ x.length) (hk : lastOccurrence x y 0 p = some k) (hq : Q (.int k s.toks) { s with toks := s.toks + 1 }) : wpAny (model prog w) A (call (.builtin "str.rindex") [.str x t, .str y u, .int 0 v, .int p v']) Q E s := by
  have g := gives_rindex4 x y 0 p t u v v' k (by rw [from_nat, show fromIndex x.length 0 = 0 from rfl, Nat.min_eq_left hp]; exact hk)
  exact call_gives F.slot_str_rindex (typeIs_str _ _ _) F.entry_str_rindex (F.args_str_rindex_4 _ _ _ _) g hq
end
/-- the refusal's object -/
noncomputable abbrev excO (t : Addr) : Obj := { cls := .ref 199, data := .fields #[.ref t, .none, .none, .none, .bool false, .none] }
theorem make_exc {w : World} {A : Around} {E : Value → Shared → Prop} {s : Shared} {h₀ : Heap} {L : Addr} {m : Str → Option Value} {news : List (Addr × Obj)} {x : Str} {t : Tok} {Q : Value → Shared → Prop} (X : (KK w.params).In h₀) (F : Fr h₀ L s.heap m) (N : News h₀ L s.heap news)
    (h : ∀ h' e t', Fr h₀ L h' m → News h₀ L h' ((e, excO t') :: (t', { cls := .type "tuple", data := .seq #[.str x t] }) :: news) → Q (.ref e) { s with heap := h' }) :
    wpAny (model PW w) A (call (.ref 199) [.str x t]) Q E s := by
  have XX : (KK w.params).In s.heap := X.keeps F.keep
  have e267 : s.heap.get? 199 = some (Mine.F.o_267 w.params) := XX 199 _ (by kernel_rfl)
  unfold Mine.F.o_267 at e267
  obtain ⟨hp, g, d, tk, os⟩ := s
  refine wpAny_call_exc_sub PySem.F.excBase_ValueError e267 (.of_isNs (isNs_of_in XX (by kernel_rfl))) (nsMap_none_of_in XX (by kernel_rfl) (by kernel_rfl)) fun h' e hm => ?_
  obtain ⟨t', h1, h2, h3⟩ := hm.there
  have F' : Fr h₀ L h' m := ⟨F.ns.keeps hm.keeps, fun b o q => hm.keeps b o (F.keep b o q), F.above⟩
  have N' : News h₀ L h' news := fun q hq => ⟨hm.keeps _ _ (N q hq).1, (N q hq).2⟩
  exact h h' e t' F' (News.more F' (News.more F' N' h3 (fun es n q => by cases q) (kts_none F.keep h2)) h1 (fun es n q => by cases q) (kts_none F.keep hm.new))
end
-- Wk17
section
open PySem PySem.W PyProof.Rows Builtin.Str
/-- the refusal's text -/
noncomputable def refuse (msg : Str) (n : Nat) (col : Int) : Str := Str.empty ++ msg ++ Str.ofString " (at " ++ (Str.empty ++ Str.ofString "line " ++ Str.ofString (toString ((n : Int) + 1)) ++ Str.ofString ", column " ++ Str.ofString (toString col)) ++ Str.ofString ")"
theorem news_exc {g h : Heap} {L : Addr} {a b c d x y : Addr × Obj} (N : News g L h [a, b, c, d, x, y]) : News g L h [a, b, x, y] := news_sub N (fun q hq => by
  rcases List.mem_cons.mp hq with rfl | hq
  · exact .head _
  · rcases List.mem_cons.mp hq with rfl | hq
    · exact .tail _ (.head _)
    · exact .tail _ (.tail _ (.tail _ (.tail _ hq))))
/-- the column is told -/
inductive ColJ (v : Int) (news : List (Addr × Obj)) (m : Str → Option Value) : (Str → Option Value) → List (Addr × Obj) → Prop
  | mk (t : Tok) : ColJ v news m (fun y => if y = Str.ofString "column" then some (.int v t) else m y) news
theorem ColJ.of {a v : Int} {news : List (Addr × Obj)} {m : Str → Option Value} {t : Tok} (h : a = v) : ColJ v news m (fun y => if y = Str.ofString "column" then some (.int a t) else m y) news := h ▸ .mk t
section
variable {w : World} {A : Around} {E : Value → Shared → Prop} {env : Env} {h₀ : Heap} {L : Addr} {m : Str → Option Value} {news : List (Addr × Obj)} {sh : Heap} {sg : Array GenState} {sd : Drawn} {sk : Nat} {so : OsState} {a : Stmt} {l₂ : List Stmt} {Q : Flow → Shared → Prop}
theorem cut1N (J : List (Addr × Obj) → (Str → Option Value) → (Str → Option Value) → List (Addr × Obj) → Prop) (F : Fr h₀ L sh m) (_N : News h₀ L sh news)
    (turn : wpAny (model PW w) A (execs [a] env) (CutEnd h₀ L ⟨sh, sg, sd, sk, so⟩ (J news m)) E ⟨sh, sg, sd, sk, so⟩)
    (k : ∀ h' tk m' news', Fr h₀ L h' m' → News h₀ L h' news' → J news m m' news' → wpAny (model PW w) A (execs l₂ env) Q E ⟨h', sg, sd, tk, so⟩) :
    wpAny (model PW w) A (execs (a :: l₂) env) Q E ⟨sh, sg, sd, sk, so⟩ := cut1 (J news) F turn k
theorem isXI {a b c d : _} {l : List Stmt} {s : Shared} (h : wpAny (model PW w) A (execs (.If a b c d :: l) env) Q E s) : wpAny (model PW w) A (execs (.If a b c d :: l) env) Q E s := h
end
end
local macro_rules | `(tactic| walk_at "assign Tuple") => `(tactic| (k_dflt refine unpackN_ (by k_asm) (by k_asm) (by first | with_reducible assumption | refine News.isTup (by k_asm) (by k_mem)) (by with_unfolding_all assumption) rfl rfl ?_; intros))
local macro_rules | `(tactic| walk_at "call builtin:str.startswith") => `(tactic| refine SC.startswith3 ?_)
local macro_rules | `(tactic| walk_at "mine mem") => `(tactic| (first | assumption | exact .head _ | (refine .tail _ ?_; walk_at "mine mem") | (refine List.mem_append_right _ ?_; walk_at "mine mem") | (refine List.mem_append_left _ ?_; walk_at "mine mem")))
local macro_rules | `(tactic| walk_at "call builtin:len") => `(tactic| ((fail_if_success fail_if_success with_reducible refine gLR ?_); k_dflt refine len_led (by k_asm) (by walk_at "mine mem") (by omega) ?_; intros))
local macro_rules | `(tactic| walk_at "subscriptTail") => `(tactic| ((fail_if_success fail_if_success with_reducible refine gRI ?_); k_dflt refine item_led (by k_asm) (by walk_at "mine mem") (by first | assumption | exact Int.zero_add _) (by omega) (by assumption) ?_))
local macro_rules | `(tactic| walk_at "subscriptTail") => `(tactic| ((fail_if_success fail_if_success with_reducible refine gRI ?_); k_dflt refine item_menu (by k_asm) (.head _) (by assumption) (by omega) (menu4 (by omega)) (sel4_len (by decide) (by decide) (by decide) (by decide)) ?_; intros))
local macro_rules | `(tactic| walk_at "subscriptTail") => `(tactic| ((fail_if_success fail_if_success with_reducible refine gSI ?_); k_dflt refine sub_str (by omega) (by omega) (by assumption) ?_))
local macro_rules | `(tactic| walk_at "mine upd") => `(tactic| (first | exact Upd.head (by assumption) | (refine' Upd.tail ?a ?b; (case a => first | k_ne | exact Ne.symm (by assumption) | assumption); (case b => walk_at "mine upd"))))
local macro_rules | `(tactic| walk_at "call builtin:list.append") => `(tactic| (k_dflt (refine' append_K ?k1 ?k2 ?k3 ?_ ?z; (case k1 => k_asm); (case k2 => k_asm); (case k3 => walk_at "mine upd"); (case z => assumption)); intros))
local macro_rules | `(tactic| walk_at "subscriptTail Name Slice str ref") => `(tactic| (k_dflt first | refine slice_to (by k_asm) (by k_asm) (by assumption) (by assumption) ?_ | refine slice_fr (by k_asm) (by k_asm) (by assumption) (by assumption) ?_; intros))
local macro_rules | `(tactic| walk_at "eval Name") => `(tactic| (k_here; (with_reducible show wpAny _ _ (eval (Expr.Name _ _) (compEnvC _ _ _ _)) _ _ _); k_dflt (first | (refine' lcf_cell ?N ?c ?m ?d ?_ ?a ?b; (case a => rfl); (case b => rfl); (case N => k_asm); (case c => rfl); (case m => walk_at "mine mem"); (case d => k_asm); k_whole) | refine LCgL.ld_own (by k_asm) (by k_mem) (by assumption) (by assumption) ?_)))
section
open PySem PySem.W PyProof.Rows Builtin.Str
local macro_rules | `(tactic| walk_at "call builtin:str.count") => `(tactic| refine count4 (by omega) (by with_reducible assumption) ?_)
local macro_rules | `(tactic| walk_at "call builtin:str.rindex") => `(tactic| refine rindex4 (by omega) (Or.resolve_right (by with_reducible assumption) (fun h => by omega)) ?_)
set_option maxRecDepth 100000 in
set_option maxHeartbeats 8000000 in
theorem sufx_spec (w : World) (q0 : Addr × Obj) (hq0 : q0.1 ≠ 254) (src msg : Str) (p n k : Nat) (t1 t2 t3 : Tok) (hz : src.length ≤ sizeLine) (hp : p < src.length) (hm : msg.length ≤ 100)
    (hn : (occurrences src (Str.ofString "\n") 0 p (src.length + 1)).length = n) (hnp : n ≤ p) (hkp : k < p ∨ n = 0) (hk : lastOccurrence src (Str.ofString "\n") 0 p = some k ∨ n = 0) :
    Tag KK RW (SpecH w 5 259 [.str src t1, .int p t2, .str msg t3] [] (fun h news => news = [(254, tabObj #[]), q0]) (fun v news news' => ∃ e t tm ps, v = .ref e ∧ news' = [(e, excO t), (t, { cls := .type "tuple", data := .seq #[.str (refuse msg n (if n = 0 then (p : Int) + 1 else (p : Int) - k)) tm] }), (254, tabObj ps), q0])) := by
  k_fill
  unfold Tag SpecH
  intro A outer env A₀ base h₀ L m news s mean mg mb Q E hAt hd hP hret
  obtain ⟨B, F, X, N, T, hA, hf, hkk⟩ := hAt
  have KX := X.K
  have hsl := sizeLine_eq
  subst hP
  obtain ⟨e0, o0⟩ := q0
  dsimp only at hq0
  generalize hv : (if n = 0 then (p : Int) + 1 else (p : Int) - k) = v at hret
  have hvb : 0 ≤ v ∧ v ≤ 16777217 := by rw [← hv]; split <;> omega
  refine wpAny_call ?_
  k_dflt (refine' code_def (binds := [(Str.ofString "src", Value.str src t1), (Str.ofString "pos", Value.int p t2), (Str.ofString "msg", Value.str msg t3)]) ?k1 ?k2 ?k3 ?k4 ?k5 ?kA ?kF ?kK ?k6 ?k7 ?k8 ?k9 ?kB ?_ ?c2 ?c3 ?c4 ?c5; (case kA => first | assumption | exact Around.frames_deeper (by assumption)); (case kF => first | assumption | exact rfl); (case kK => first | assumption | exact rfl); (case k1 => k_asm); (case k2 => k_asm); (case k3 => k_asm); (case k4 => k_asm); (case k5 => k_asm); (case k6 => k_is); (case k7 => k_is); (case k8 => ktr_room); (case k9 => first | exact (by assumption : BindsTo _ _ _ _) | exact BindsTo.of_eq rfl); (case c5 => decide); (case kB => exact locs rfl); (case c2 => exact rfl); (case c3 => exact rfl); (case c4 => exact rfl); k_whole; intro g' L' h' FG' F' N' B' X' T'; (try dsimp only); (try k_fold))
  have XX := X.keeps (by assumption : Fr h₀ L _ m).keep
  have CH := codeHd_mine XX.K
  generalize (s.toks + List.length _) = tk0
  walk_at "mine steps"
  refine wpAny_call ?_
  k_dflt ((refine' code_nest ?k1_19 ?k2_19 ?k3_19 ?k4_19 ?k5_19 ?kA_19 ?kF_19 ?kK_19 ?k6_19 ?k7_19 ?k8_19 ?k9_19 ?kB_19 ?_ ?c2_19 ?c3_19 ?c4_19 ?c5_19; (case kA_19 => first | assumption | exact Around.frames_deeper (by assumption)); (case kF_19 => exact rfl); (case kK_19 => exact rfl); (case k1_19 => k_asm); (case k2_19 => k_asm); (case k3_19 => k_asm); (case k4_19 => k_asm); (case k5_19 => k_asm); (case k6_19 => k_mem); (case k7_19 => exact codeRec_news (by k_asm) (by k_mem) (by assumption) (by assumption)); (case k8_19 => ktr_room); (case k9_19 => exact BindsTo.of_eq rfl); (case c5_19 => decide); (case kB_19 => exact locs rfl); (case c2_19 => exact rfl); (case c3_19 => exact rfl); (case c4_19 => exact rfl); k_whole; intro g' L' h' FG' F' N' B' X' T'; (try dsimp only); (try k_fold)))
  with_reducible refine execs_K ?_
  repeat' ((fail_if_success with_reducible refine isXI ?_); walk_at "mine noloop"; walk_at "mine one")
  rename Fr _ _ _ _ => FX
  rename News _ _ _ _ => NX
  with_reducible refine cut1N (ColJ v) FX NX ?_ ?_
  · walk_at "mine steps"
    · exact CutEnd.intro (by assumption) (by assumption) (ColJ.of ((if_pos (by omega)).symm.trans hv))
    · exact CutEnd.intro (by assumption) (by assumption) (ColJ.of ((if_neg (by omega)).symm.trans hv))
  clear hv hkp hk hn
  rintro h4 tk4 m4 news4 F4 N4 ⟨tc⟩
  walk_at "mine steps"
  k_dflt (refine' make_exc ?X ?F ?N ?_; (case X => k_asm); (case F => k_asm); (case N => k_asm); k_whole)
  intro h2 e2 t2 F2 N2
  replace N2 := news_exc N2
  walk_at "mine steps"
  exact hret _ _ _ _ (by assumption) (by assumption) ⟨_, _, _, _, rfl, rfl⟩
end
-- WkN
section
open PySem PySem.W PyProof.Rows Builtin.Str
theorem entry_unchain : entryFor table "proto.unchain" = some Builtin.«proto.unchain» := entryFor_of_tree (by kernel_rfl)
theorem quiet_unchain (a : Args) : (Code.builtin "proto.unchain" a).quiet = true := Code.quiet_builtin _ (by decide +kernel)
section
variable {M : Model} {w : World} {A : Around} {E : Value → Shared → Prop} {s : Shared}
/-- the raised object, raised from None in a handler -/
noncomputable abbrev excN (t e0 : Addr) : Obj := { cls := .ref 199, data := .fields #[.ref t, .none, .ref e0, .none, .bool true, .none] }
theorem unchain_end {e e0 : Addr} {o0 : Obj} {vs : Array Value} {Q : Value → Shared → Prop} (h0 : s.heap.get? e0 = some o0) (hd : o0.data = .fields vs) (h2 : vs[2]? = some .none) (hQ : Q .none s) :
    wpAny (model PW w) A (runValue (.builtin "proto.unchain" ⟨[.ref e, .ref e0, .ref e0, .bool false], []⟩)) Q E s := by
  refine wpAny_runValue (codeAny_builtin entry_unchain ?_)
  unfold Builtin.«proto.unchain»
  dsimp only
  refine wpAny_bind (wpAny_field h0 hd h2 ?_)
  rw [if_pos (show (Value.none == Value.none) = true from by decide)]
  exact wpAny_pure hQ
theorem raise_none {env : Env} {e0 : Addr} {x c : Expr} {pos : Pos} {Q : Flow → Shared → Prop} (hh : A.handled = some (.ref e0)) (hc : eval c env = pure .none)
    (h : wpAny (model PW w) A (eval x env) (fun v s₁ => ∃ e t o0 vs, v = .ref e ∧ e0 ≠ e ∧ s₁.heap.get? 199 = some (Mine.F.o_267 w.params) ∧ s₁.heap.get? e = some (excO t) ∧ s₁.heap.get? e0 = some o0 ∧ o0.data = .fields vs ∧ vs[2]? = some .none ∧
      ∀ h', h'.get? e = some (excN t e0) → (∀ b, b ≠ e → h'.get? b = s₁.heap.get? b) → E (.ref e) { s₁ with heap := h' }) E s) :
    wpAny (model PW w) A (exec (.Raise (some x) (some c) pos) env) Q E s := by
  rw [arm_exec_Raise]
  refine wpAny_bind (wpAny_standAt ?_)
  simp only [evalOpt, Option.map, hc]
  unfold raiseStmt
  refine wpAny_bind (wpAny_bind (wpAny_mono h (fun v s₁ h₁ => wpAny_bind (wpAny_standAt (wpAny_pure ?_))) fun _ _ y => y))
  obtain ⟨e, t, o0, vs, rfl, hne, hC, he, h0, hd0, h2, hE⟩ := h₁
  obtain ⟨hp, g, d, tk, os⟩ := s₁
  unfold Mine.F.o_267 at hC
  repeat (first | with_reducible refine wpAny_loadPart_at he ?_ | with_reducible refine wpAny_loadPart_at hC ?_ | wp_step)
  show wpAny _ _ (isSubtype (.ref 199) (.type "BaseException")) _ _ _
  refine wpAny_isSubtype_exc hC ?_
  rw [show (Value.ref 199 :: ([.type "ValueError", .type "Exception", .type "BaseException", .type "object"] : List Value)).contains (.type "BaseException") = true from by rfl]
  rw [if_pos rfl]
  refine wpAny_pure ?_
  dsimp only
  rw [if_pos (show (Value.none == Value.none) = true from by decide)]
  refine wpAny_bind (wpAny_pure ?_)
  have hz : (excO t).data = .fields #[.ref t, .none, .none, .none, .bool false, .none] := rfl
  refine wpAny_bind (wpAny_setField he hz (by show 3 < 6; decide) ?_)
  have he1 := Heap.get?_update_self (Obj.mapFields (·.setIfInBounds 3 Value.none)) he (Obj.isFreed_of_fields (Obj.data_mapFields hz _))
  refine wpAny_bind (wpAny_setField he1 (Obj.data_mapFields hz _) (by show 4 < 6; decide) ?_)
  have he2 := Heap.get?_update_self (Obj.mapFields (·.setIfInBounds 4 (Value.bool true))) he1 (Obj.isFreed_of_fields (Obj.data_mapFields (Obj.data_mapFields hz _) _))
  dsimp only at he h0 hC he2 hE ⊢
  have ho : ∀ b, b ≠ e → ((hp.update e (Obj.mapFields (·.setIfInBounds 3 Value.none))).update e (Obj.mapFields (·.setIfInBounds 4 (Value.bool true)))).get? b = hp.get? b := fun b hb => (Heap.get?_update_other _ _ (Ne.symm hb)).trans (Heap.get?_update_other _ _ (Ne.symm hb))
  replace he2 : ((hp.update e (Obj.mapFields (·.setIfInBounds 3 Value.none))).update e (Obj.mapFields (·.setIfInBounds 4 (Value.bool true)))).get? e = some { cls := .ref 199, data := .fields #[.ref t, .none, .none, .none, .bool true, .none] } := he2
  have hC2 := (ho 199 (fun z => by rw [← z, hC] at he; cases he)).trans hC
  have h02 := (ho e0 hne).trans h0
  generalize (hp.update e (Obj.mapFields (·.setIfInBounds 3 Value.none))).update e (Obj.mapFields (·.setIfInBounds 4 (Value.bool true))) = H2 at he2 ho hC2 h02 ⊢
  have hcB : (Value.ref 199 :: ([.type "ValueError", .type "Exception", .type "BaseException", .type "object"] : List Value)).contains (.type "BaseException") = true := by rfl
  repeat (first | with_reducible refine wpAny_loadPart_at he2 ?_ | with_reducible refine wpAny_loadPart_at hC2 ?_ | (with_reducible refine wpAny_isSubtype_exc hC2 ?_; rw [hcB]) | wp_step)
  unfold raiseNew
  refine wpAny_bind (wpAny_handled ?_)
  rw [hh]
  dsimp only
  rw [if_pos (show (Value.ref e0 != Value.ref e) = true from bne_iff_ne.mpr fun z => hne (Value.ref.inj z))]
  refine wpAny_bind (wpAny_holding (unchain_end h02 hd0 h2 ?_))
  refine wpAny_bind ?_
  show wpAny _ _ (setField (.ref e) 2 (.ref e0)) _ _ _
  refine wpAny_setField he2 rfl (by show 2 < 6; decide) (wpAny_throw (hE _ ?_ fun b hb => (Heap.get?_update_other _ _ (Ne.symm hb)).trans (ho b hb)))
  exact Heap.get?_update_self (Obj.mapFields (·.setIfInBounds 2 (Value.ref e0))) he2 (Obj.isFreed_of_fields (Obj.data_mapFields rfl _))
end
end
-- WkK
section
open PySem PySem.W PyProof.Rows Builtin.Str
section
variable {w : World} {A₀ : Around} {E : Value → Shared → Prop} {s' : Shared} {base g h G : Heap} {outer : List Env} {L a e : Addr} {m : Str → Option Value} {name : Str} {scope : Scope} {cd : Value} {news : List (Addr × Obj)}
/-- a fresh exception is noted in the own frame, however deep -/
theorem entry_own {M : Model} {A : Around} {B : Heap} {env : Env} {s : Shared} {oe : Obj} {vs : Array Value} {Q : Unit → Shared → Prop}
    (hfr : A.frames = some (env :: outer)) (hl : s.heap.FunFrames B (env :: outer)) (hf : env.frame = some L)
    (he : s.heap.get? e = some oe) (hkb : B.StaysIn s.heap) (hen : B.get? e = none) (hd : oe.data = .fields vs) (hsz : 1 < vs.size) (h1 : vs[1]? = some .none)
    (k : ∀ h' T oT ts, B.StaysIn h' → h'.get? e = some (oe.mapFields (·.setIfInBounds 1 (.ref T))) → B.get? T = none → T ≠ e → h'.get? T = some oT → oT.data = .fields ts → 3 < ts.size →
      (∀ b o, s.heap.get? b = some o → (∀ vs, o.data ≠ .fields vs) → ∃ sl, h'.get? b = some { o with slots := sl }) → Q () { s with heap := h' }) :
    wpAny M A (noteFrame (.ref e) env) Q E s := by
  have hene : e ∉ (env :: outer).filterMap (·.frame) := fun hm => by
    obtain ⟨_, o, ho, hnf⟩ := hl.mem hm
    rw [he] at ho; injection ho with ho; subst ho; exact hnf vs hd
  unfold noteFrame
  simp only [hf]
  refine wpAny_bind (wpAny_field he hd h1 ?_)
  rw [if_neg (by decide)]
  refine wpAny_bind (wpAny_frameOf_fun hfr hl hf fun h₁ hs₁ => ?_)
  refine wpAny_bind (wpAny_entryPlaceOf fun pl hpl => ?_)
  unfold EntryCells.newEntry newFields
  refine wpAny_bind (wpAny_newObj_type ?_ (hpl.sizeOk5 _ _ _ _ _))
  have he₁ : h₁.get? e = some oe := (hs₁.2.1 e hene).trans he
  have kb₁ : B.StaysIn h₁ := fun b o hbo => (hs₁.2.1 b fun hm => by rw [(hl.mem hm).1] at hbo; cases hbo).trans (hkb b o hbo)
  have he₂ := Heap.get?_push_of_some (h := h₁) { cls := .type "traceback", dict := none, data := .fields ([.none, .ref L, .none, rawInt L, .none] ++ (if pl.isEmpty then List.replicate 6 Value.none else pl)).toArray } he₁
  refine wpAny_setField he₂ hd hsz ?_
  have hTe : h₁.objs.size ≠ e := Nat.ne_of_gt (Heap.lt_size he₁)
  have hd₃ := Obj.data_mapFields hd (·.setIfInBounds 1 (Value.ref h₁.objs.size))
  have he₃ := Heap.get?_update_self (Obj.mapFields (·.setIfInBounds 1 (Value.ref h₁.objs.size))) he₂ (Obj.isFreed_of_fields hd₃)
  have hT₃ := (Heap.get?_update_other (h₁.push { cls := .type "traceback", dict := none, data := .fields ([.none, .ref L, .none, rawInt L, .none] ++ (if pl.isEmpty then List.replicate 6 Value.none else pl)).toArray })
    (Obj.mapFields (·.setIfInBounds 1 (Value.ref h₁.objs.size))) (Ne.symm hTe)).trans (Heap.get?_push_size h₁ rfl)
  have keep : ∀ b o, b ≠ e → h₁.get? b = some o →
      ((h₁.push { cls := .type "traceback", dict := none, data := .fields ([.none, .ref L, .none, rawInt L, .none] ++ (if pl.isEmpty then List.replicate 6 Value.none else pl)).toArray }).update e (Obj.mapFields (·.setIfInBounds 1 (Value.ref h₁.objs.size)))).get? b = some o :=
    fun b o hbe hb => by
      rw [Heap.get?_update_other _ _ (Ne.symm hbe)]
      exact Heap.get?_push_of_some _ hb
  have noRecord : ∀ b o, s.heap.get? b = some o → (∀ vs, o.data ≠ .fields vs) → b ≠ e := fun b o hb hnf q => by
    rw [q, he] at hb; injection hb with hb; subst hb; exact hnf vs hd
  refine k _ h₁.objs.size _ _ (fun b o hbo => keep b o (fun q => by rw [q, hen] at hbo; cases hbo) (kb₁ b o hbo)) he₃ kb₁.fresh hTe hT₃ rfl (by first | (simp; done) | (rcases hpl with rfl | ⟨_, _, _, _, _, _, _, rfl⟩ <;> simp)) (fun b o hb hnf => ?_)
  obtain ⟨sl, hs⟩ := hs₁.2.2 b o hb
  exact ⟨sl, keep b _ (noRecord b o hb hnf) hs⟩
/-- the object of an exception that was noted once -/
noncomputable abbrev NotedO (X : String) (o : Obj) : Prop := o.cls = .type X ∧ ∃ tt T, o.data = .fields #[tt, .ref T, .none, .none, .bool false, .none]
variable {b₀ : Stmt} {suite : List Stmt} {pos np : Pos} {rest : List ExceptHandler} {Q : Flow → Shared → Prop} {KF : Frag} {p : Program} {loose : List Str} {mean : ExcName → Option Value} {mg mb : Str → Option Value} {x : Str} {X T' : String}
/-- an exception of the own frame, caught in it -/
theorem caught_own (F : Fr g L h m) (N : News g L h news) (K : Below A₀ base outer g) (hx : Heap.NewExc h s'.heap e X) (XB : KF.In base) (TB : Top p loose mean mg mb base)
    (ex : nsIn KF mainGlobals x = some none) (hv : bootBuiltins x = some (.type T')) (hn' : x ≠ "__name__")
    (hexc : isSubtype (.type T') (.type "BaseException") = pure true) (hnt : isSubtype (.type ((Manifest.find? T').elim "type" fun y => y.metatype)) (.type "tuple") = pure false) (hsub : isSubtype (.type X) (.type T') = pure true)
    (k : ∀ h' g' o, NotedO X o → KtsTurn (outer.filterMap (·.frame)) g g' → Fr g' L h' m → News g' L h' ((e, o) :: news) → Below A₀ base outer g' →
      wpAny (model PW w) ((A₀.deeper (envOf name scope L a cd)).mark (some (.ref e))) (execs (b₀ :: suite) (envOf name scope L a cd)) Q E { s' with heap := h' })
    (hk : scope.kind = .function := by rfl) (hxk : (envOf name scope L a cd).kindOf x = some .globalImplicit := by rfl) (hdb : (x == ("__debug__" : Str)) = false := by decide)
    (hE : PassesOwnAt (model PW w) ((A₀.deeper (envOf name scope L a cd)).mark (some (.ref e))) (A₀.deeper (envOf name scope L a cd)) (envOf name scope L a cd) E := by passes_own) :
    wpAny (model PW w) (A₀.deeper (envOf name scope L a cd)) (noteFrame (.ref e) (envOf name scope L a cd))
      (fun _ s₂ => wpAny (model PW w) (A₀.deeper (envOf name scope L a cd)) (setFlight (.ref e) none) (fun _ s₃ =>
        wpAny (model PW w) (A₀.deeper (envOf name scope L a cd)) (handleBy (.ref e) (envOf name scope L a cd) (.ExceptHandler (some (.Name x np)) none (b₀ :: suite) pos :: rest)) Q E s₃) E s₂) E s' := by
  have K' := K.push (name := name) (a := a) (cd := cd) F hk
  obtain ⟨ob, tt, he, hcls, hd⟩ := hx.there
  have hin : ∀ env ∈ (envOf name scope L a cd :: outer), ∀ b, env.frame = some b → b ∈ (envOf name scope L a cd :: outer).filterMap (·.frame) := fun env he b hb => List.mem_filterMap.mpr ⟨env, he, hb⟩
  let B : Heap := hideAll h ((envOf name scope L a cd :: outer).filterMap (·.frame))
  have hB : base.StaysIn B := fun b o q => hideAll_get _ (K'.stays b o q) fun hm => by
    rw [(K'.frames.mem hm).1] at q; cases q
  have hBG : ∀ b o, h.get? b = some o → b ∉ (envOf name scope L a cd :: outer).filterMap (·.frame) → B.get? b = some o := fun b o q nm => hideAll_get _ q nm
  have hBh : B.StaysIn s'.heap := fun b o q => hx.keeps _ _ (of_hideAll _ q)
  have hl : s'.heap.FunFrames B (envOf name scope L a cd :: outer) := (funFrames_hide K'.frames hin).of_keeps fun b o q _ => ⟨o, hx.keeps b o q, rfl⟩
  have hen : B.get? e = none := by
    cases q : B.get? e with
    | none => rfl
    | some o => have := of_hideAll _ q; rw [hx.new] at this; cases this
  have hNB : ∀ q ∈ news, B.get? q.1 = some q.2 := fun q hq => hideAll_get _ (N q hq).1 fun hm => by
    rcases kts_mem hm with z | z
    · exact (N q hq).2.1 z
    · obtain ⟨o, ho, _⟩ := (K.frames.mem z).2
      rw [(N q hq).2.2] at ho; cases ho
  refine entry_own (Around.frames_deeper K.stack) hl rfl he hBh hen hd (by show 1 < 6; decide) rfl fun h₄ T oT ts s₄ e₄ hBT hTe t₄ hdT hsz u₄ => ?_
  have hd₄ : (ob.mapFields (·.setIfInBounds 1 (.ref T))).data = .fields #[tt, .ref T, .none, .none, .bool false, .none] := Obj.data_mapFields hd _
  have hc₄ : (ob.mapFields (·.setIfInBounds 1 (.ref T))).cls = .type X := (Obj.cls_mapFields _ _).trans hcls
  refine wpAny_setFlight_none e₄ hd₄ rfl t₄ hdT hsz ?_
  have other : ∀ (H : Heap) b, b ≠ T → (H.update T (Obj.mapFields (·.setIfInBounds 3 Value.none))).get? b = H.get? b := fun H b hb => Heap.get?_update_other _ _ (Ne.symm hb)
  have hT₅ := Heap.get?_update_self (Obj.mapFields (·.setIfInBounds 3 Value.none)) t₄ (Obj.isFreed_of_fields (Obj.data_mapFields hdT _))
  have s₅ : B.StaysIn (h₄.update T (Obj.mapFields (·.setIfInBounds 3 Value.none))) := fun b o q => (other _ b fun z => by rw [z, hBT] at q; cases q).trans (s₄ b o q)
  have s₆ : B.StaysIn ((h₄.update T (Obj.mapFields (·.setIfInBounds 3 Value.none))).update T (Obj.mapFields (·.setIfInBounds 3 Value.none))) := fun b o q => (other _ b fun z => by rw [z, hBT] at q; cases q).trans (s₅ b o q)
  have noT : ∀ b o, h₄.get? b = some o → (∀ vs, o.data ≠ .fields vs) → b ≠ T := fun b o hb hnf q => by
    rw [q, t₄] at hb; injection hb with hb; subst hb; exact hnf ts hdT
  have u₅ : h.UpToSlots (h₄.update T (Obj.mapFields (·.setIfInBounds 3 Value.none))) := fun b o hb hnf => by
    obtain ⟨sl, hs⟩ := u₄ b o (hx.keeps _ _ hb) hnf
    exact ⟨sl, (other _ b (noT b _ hs hnf)).trans hs⟩
  have u₆ : h.UpToSlots ((h₄.update T (Obj.mapFields (·.setIfInBounds 3 Value.none))).update T (Obj.mapFields (·.setIfInBounds 3 Value.none))) := fun b o hb hnf => by
    obtain ⟨sl, hs⟩ := u₄ b o (hx.keeps _ _ hb) hnf
    exact ⟨sl, (other _ b (noT b _ hs hnf)).trans ((other _ b (noT b _ hs hnf)).trans hs)⟩
  obtain ⟨g₅, T₅, F₅, K₅⟩ := kts_ground K F hBG s₅ u₅
  have X₅ : KF.In g₅ := XB.keeps K₅.stays
  have P₅ : TopRead p loose mg mb g₅ := topRead_of (TB.keeps K₅.stays)
  have e₅ := (other h₄ e hTe.symm).trans e₄
  refine wpAny_handleBy_builtin (X := X) (T := T') (b := true) hexc hnt hsub (name_B F₅ X₅ P₅ ex hv hn' ⟨rfl, ⟨_, e₅, hc₄⟩, ?_⟩ hk hxk hdb)
  rw [if_pos rfl]
  refine wpAny_setFlight_none e₅ hd₄ rfl hT₅ (Obj.data_mapFields hdT _) (by simp only [Array.size_setIfInBounds]; exact hsz) ?_
  obtain ⟨g₆, T₆, F₆, K₆⟩ := kts_ground K F hBG s₆ u₆
  have e₆ := (other (h₄.update T (Obj.mapFields (·.setIfInBounds 3 Value.none))) e hTe.symm).trans e₅
  have ne₆ : g₆.get? e = none := T₆.none_ _ (kts_none F.keep hx.new)
  have hL : B.get? L = none := hideAll_none _ (.head _)
  have N₆ := News.more F₆ (fun q hq => ⟨s₆ _ _ (hNB q hq), (N q hq).2.1, T₆.none_ _ (N q hq).2.2⟩ : News g₆ L _ news) e₆ (fun es n q => by rw [hd₄] at q; cases q) ne₆
  exact wpAny_passesOwnAt hE (k _ g₆ _ ⟨hc₄, tt, T, hd₄⟩ T₆ F₆ N₆ K₆)
/-- a refusal on turned ground is one on the ground before -/
theorem RaisedS.turned {l : List Env} {t : Addr} {cls : Value} {vs : List Value} {g' : Heap} (R : RaisedS base g' l e cls t vs news h) (T : KtsTurn (l.filterMap (·.frame)) g g') : RaisedS base g l e cls t vs news h := by
  obtain ⟨⟨B, hB, hBG, hl, hfl, hnew⟩, htup⟩ := R
  exact ⟨⟨B, hB, fun b o q nm => hBG b o (T.other b o q nm) nm, fun q hq => ⟨(hl q hq).1, (by
    cases z : g.get? q.1 with
    | none => rfl
    | some o => obtain ⟨sl, hs⟩ := T.up z; have := (hl q hq).2.1; rw [hs] at this; cases this), (hl q hq).2.2⟩, hfl, hnew⟩, htup⟩
theorem turned_up {fs : List Addr} {g' : Heap} (T : KtsTurn fs g g') (U : g'.UpToSlots h) : g.UpToSlots h := fun b o e hn => by
  obtain ⟨sl, hs⟩ := T.up e
  obtain ⟨sl', hs'⟩ := U b { o with slots := sl } hs hn
  exact ⟨sl', hs'⟩
end
end
-- WkX
section
open PySem PySem.W PyProof.Rows Builtin.Str
/-- a contract of a call that raises the refusal -/
noncomputable def SpecE (w : World) (d : Nat) (f : Addr) (vs : List Value) (kw : List (Str × Value)) (P : Heap → List (Addr × Obj) → Prop) (msg : Str) : Prop :=
  ∀ (A : Around) (outer : List Env) (env : Env) (A₀ : Around) (base h₀ : Heap) (L : Addr) (m : Str → Option Value) (news : List (Addr × Obj)) (s : Shared) (mean : ExcName → Option Value) (mg mb : Str → Option Value) (Q E : Value → Shared → Prop),
    At w A outer env A₀ base h₀ L m news s.heap mean mg mb → Facts w base → TopQ w mean mg mb base → A.handled = none → A.depth + d < recursionLimit → P h₀ news →
    (∀ g e t tm ps h' tk', Fr h₀ L g m → RaisedS base g (env :: outer) e (.ref 199) t [.str msg tm] [(254, tabObj ps)] h' → g.UpToSlots h' → E (.ref e) { s with heap := h', toks := tk' }) →
    wpAny (model PW w) A (call (.ref f) vs kw) Q E s
theorem call_specE {w : World} {d : Nat} {f : Addr} {vs : List Value} {kw : List (Str × Value)} {P : Heap → List (Addr × Obj) → Prop} {msg : Str} (S : Tag KK RW (SpecE w d f vs kw P msg)) {A : Around} {outer : List Env} {env : Env} {A₀ : Around} {base h₀ : Heap} {L : Addr} {m : Str → Option Value} {news : List (Addr × Obj)} {sh : Heap} {sg : Array GenState} {sd : Drawn} {sk : Nat} {so : OsState} {mean : ExcName → Option Value} {mg mb : Str → Option Value} {Q E : Value → Shared → Prop}
    (B : Below A₀ base outer h₀) (F : Fr h₀ L sh m) (X : Facts w h₀) (N : News h₀ L sh news) (T : TopQ w mean mg mb h₀) (hA : A.frames = some (env :: outer)) (hf : env.frame = some L) (hk : env.scope.kind = .function)
    (XB : Facts w base) (TB : TopQ w mean mg mb base) (hh : A.handled = none) (hd : A.depth + d < recursionLimit) (hP : P h₀ news)
    (h : ∀ g e t tm ps h' tk', Fr h₀ L g m → RaisedS base g (env :: outer) e (.ref 199) t [.str msg tm] [(254, tabObj ps)] h' → g.UpToSlots h' → E (.ref e) ⟨h', sg, sd, tk', so⟩) :
    wpAny (model PW w) A (call (.ref f) vs kw) Q E ⟨sh, sg, sd, sk, so⟩ :=
  S A outer env A₀ base h₀ L m news ⟨sh, sg, sd, sk, so⟩ mean mg mb Q E ⟨B, F, X, N, T, hA, hf, hk⟩ XB TB hh hd hP h
/-- an object of the ledger leaves its frame, raised: fields beyond the first two are free -/
theorem leave_ledS {M : Model} {A : Around} {E : Value → Shared → Prop} {s' : Shared} {base g : Heap} {outer : List Env} {L a e t : Addr} {m : Str → Option Value} {name : Str} {scope : Scope} {cd : Value} {Q : Unit → Shared → Prop} {x2 x3 x4 x5 : Value} {vs : List Value} {ps : Array Value}
    (K : Below A base outer g) (F : Fr g L s'.heap m) (N : News g L s'.heap [(e, { cls := .ref 199, data := .fields #[.ref t, .none, x2, x3, x4, x5] }), (t, { cls := .type "tuple", data := .seq vs.toArray }), (254, tabObj ps)])
    (hQ : ∀ h', RaisedS base g outer e (.ref 199) t vs [(254, tabObj ps)] h' → g.UpToSlots h' → Q () { s' with heap := h' }) (hk : scope.kind = .function := by rfl) :
    wpAny M (A.deeper (envOf name scope L a cd)) («leaving» (envOf name scope L a cd) (.ref e)) Q E s' := by
  have K' := K.push (name := name) (a := a) (cd := cd) F hk
  have ne := N _ (.head _)
  have nt := N _ (.tail _ (.head _))
  have nP := N _ (.tail _ (.tail _ (.head _)))
  have he : e ≠ 254 := fun z => by
    have h1 := ne.1
    have h2 := nP.1
    dsimp only at h1 h2
    rw [z, h2] at h1
    cases h1
  have htn : t ≠ 254 := fun z => by
    have h1 := nt.1
    have h2 := nP.1
    dsimp only at h1 h2
    rw [z, h2] at h1
    cases h1
  have be : base.get? e = none := fresh_of_stays K.stays ne.2.2
  have bt : base.get? t = none := fresh_of_stays K.stays nt.2.2
  have hin : ∀ env ∈ (envOf name scope L a cd :: outer), ∀ b, env.frame = some b → b ∈ e :: t :: (envOf name scope L a cd :: outer).filterMap (·.frame) := fun env he b hb => .tail _ (.tail _ (List.mem_filterMap.mpr ⟨env, he, hb⟩))
  have st : base.StaysIn (hideAll s'.heap (e :: t :: (envOf name scope L a cd :: outer).filterMap (·.frame))) := fun b o q => hideAll_get _ (K'.stays b o q) fun hm => by
    rcases List.mem_cons.mp hm with rfl | hm
    · rw [be] at q; cases q
    · rcases List.mem_cons.mp hm with rfl | hm
      · rw [bt] at q; cases q
      · rw [(K'.frames.mem hm).1] at q; cases q
  have sg : ∀ b o, g.get? b = some o → b ∉ outer.filterMap (·.frame) → (hideAll s'.heap (e :: t :: (envOf name scope L a cd :: outer).filterMap (·.frame))).get? b = some o := fun b o q nm => hideAll_get _ (F.keep b o q) fun hm => by
    rcases List.mem_cons.mp hm with rfl | hm
    · have := ne.2.2; rw [q] at this; cases this
    · rcases List.mem_cons.mp hm with rfl | hm
      · have := nt.2.2; rw [q] at this; cases this
      · rcases kts_mem hm with z | z
        · rw [z, kts_self F] at q
          cases q
        · exact nm z
  have hP : (hideAll s'.heap (e :: t :: (envOf name scope L a cd :: outer).filterMap (·.frame))).get? 254 = some (tabObj ps) := hideAll_get _ nP.1 fun hm => by
    rcases List.mem_cons.mp hm with z | hm
    · exact he z.symm
    · rcases List.mem_cons.mp hm with z | hm
      · exact htn z.symm
      · rcases kts_mem hm with z | z
        · exact nP.2.1 z
        · obtain ⟨o, ho, _⟩ := (K.frames.mem z).2
          have := nP.2.2; rw [ho] at this; cases this
  refine wpAny_leaving_firstW (a0 := .ref t) (base := hideAll s'.heap (e :: t :: (envOf name scope L a cd :: outer).filterMap (·.frame))) (Around.frames_deeper K.stack) (funFrames_hide K'.frames hin) rfl ne.1 (fun b o q => of_hideAll _ q) (hideAll_none _ (.head _)) rfl rfl rfl fun h' hL => ?_
  obtain ⟨k1, ⟨_, _, k2⟩, k3, k4⟩ := hL
  have hl : ∀ q ∈ [((254 : Addr), tabObj ps)], (hideAll s'.heap (e :: t :: (envOf name scope L a cd :: outer).filterMap (·.frame))).get? q.1 = some q.2 ∧ g.get? q.1 = none ∧ base.get? q.1 = none := fun q hq => by
    obtain rfl := List.mem_singleton.mp hq
    exact ⟨hP, nP.2.2, fresh_of_stays K.stays nP.2.2⟩
  exact hQ h' ⟨⟨_, st, sg, hl, ⟨k1, hideAll_none _ (.head _), k2, k3⟩, hideAll_none _ (.tail _ (.head _))⟩, Heap.TupAt.of_slots ⟨_, _, nt.1, rfl, rfl⟩ k4⟩ ((Heap.UpToSlots.of_keeps F.keep).trans k4)
/-- raise of a made object, no handler around -/
theorem raise_led {w : World} {A : Around} {E : Value → Shared → Prop} {s : Shared} {env : Env} {x : Expr} {pos : Pos} {Q : Flow → Shared → Prop} (hh : A.handled = none)
    (h : wpAny (model PW w) A (eval x env) (fun v s₁ => ∃ e t, v = .ref e ∧ s₁.heap.get? 199 = some (Mine.F.o_267 w.params) ∧ s₁.heap.get? e = some (excO t) ∧ E (.ref e) s₁) E s) :
    wpAny (model PW w) A (exec (.Raise (some x) none pos) env) Q E s := by
  rw [arm_exec_Raise]
  refine wpAny_bind (wpAny_standAt (wpAny_raiseStmt_made_sub (C := 199) (nm := Str.ofString "TOMLDecodeError") (q := Str.ofString "TOMLDecodeError") (N := 198) (bs := [.type "ValueError"]) (bm := [.type "ValueError", .type "Exception", .type "BaseException", .type "object"]) (hdct := true) (sn := []) (sub := []) (ab := false) (col := none) (dd := none) (k0 := some (.ref 190)) (k1 := none) (k2 := some (.str (Str.ofString "TOMLDecodeError") 649)) (k3 := some (.str (Str.ofString "TOMLDecodeError") 657)) (k5 := some (.bool true)) (newId := "ValueError.__new__") (by rfl) hh ?_))
  exact wpAny_bind (wpAny_mono h (fun v s₁ ⟨e, t, hv, hC, he, hE⟩ => wpAny_bind (wpAny_standAt (wpAny_pure ⟨e, t, hv, hC, he, hE⟩))) fun _ _ y => y)
theorem call_specH {w : World} {d : Nat} {f : Addr} {vs : List Value} {kw : List (Str × Value)} {P : Heap → List (Addr × Obj) → Prop} {R : Value → List (Addr × Obj) → List (Addr × Obj) → Prop} (S : Tag KK RW (SpecH w d f vs kw P R)) {A : Around} {outer : List Env} {env : Env} {A₀ : Around} {base h₀ : Heap} {L : Addr} {m : Str → Option Value} {news : List (Addr × Obj)} {sh : Heap} {sg : Array GenState} {sd : Drawn} {sk : Nat} {so : OsState} {mean : ExcName → Option Value} {mg mb : Str → Option Value} {Q E : Value → Shared → Prop}
    (B : Below A₀ base outer h₀) (F : Fr h₀ L sh m) (X : Facts w h₀) (N : News h₀ L sh news) (T : TopQ w mean mg mb h₀) (hA : A.frames = some (env :: outer)) (hf : env.frame = some L) (hk : env.scope.kind = .function)
    (hd : A.depth + d < recursionLimit) (hP : P h₀ news)
    (h : ∀ v news' h' tk', R v news news' → Fr h₀ L h' m → News h₀ L h' news' → Q v ⟨h', sg, sd, tk', so⟩) :
    wpAny (model PW w) A (call (.ref f) vs kw) Q E ⟨sh, sg, sd, sk, so⟩ :=
  S A outer env A₀ base h₀ L m news ⟨sh, sg, sd, sk, so⟩ mean mg mb Q E ⟨B, F, X, N, T, hA, hf, hk⟩ hd hP fun v news' h' tk' F' N' r => h v news' h' tk' r F' N'
theorem news_tab {g h : Heap} {L : Addr} {news : List (Addr × Obj)} (N : News g L h news) (hm : ((254 : Addr), tabObj #[]) ∈ news) : News g L h [(254, tabObj #[])] := news_sub N fun q hq => by
  obtain rfl := List.mem_singleton.mp hq
  exact hm
theorem news_tab2 {g h : Heap} {L : Addr} {news : List (Addr × Obj)} {q0 : Addr × Obj} (N : News g L h news) (hm : ((254 : Addr), tabObj #[]) ∈ news) (hq : q0 ∈ news) : News g L h [(254, tabObj #[]), q0] := news_sub N fun q hq' => by
  rcases List.mem_cons.mp hq' with rfl | hq'
  · exact hm
  · obtain rfl := List.mem_singleton.mp hq'
    exact hq
/-- the ledger of a call that may make a refusal -/
noncomputable def TabN (news : List (Addr × Obj)) : Prop := ((254 : Addr), tabObj #[]) ∈ news ∧ ∃ q0 ∈ news, q0.1 ≠ 254
theorem news_cut3 {g h : Heap} {L : Addr} {a b c d : Addr × Obj} (N : News g L h [a, b, c, d]) : News g L h [a, b, c] := news_sub N fun q hq => by
  rcases List.mem_cons.mp hq with rfl | hq
  · exact .head _
  rcases List.mem_cons.mp hq with rfl | hq
  · exact .tail _ (.head _)
  obtain rfl := List.mem_singleton.mp hq
  exact .tail _ (.tail _ (.head _))
theorem not_tab {g h : Heap} {L : Addr} {news : List (Addr × Obj)} {q0 : Addr × Obj} (N : News g L h news) (hm : ((254 : Addr), tabObj #[]) ∈ news) (hq : q0 ∈ news) (ho : q0.2.cls ≠ .none) : q0.1 ≠ 254 := fun z => by
  have h1 := (N _ hq).1
  have h2 := (N _ hm).1
  dsimp only at h2
  rw [z, h2] at h1
  exact ho (by rw [← Option.some.inj h1])
end
-- Wk10
section
theorem slice_take (src : Str) (i j : Nat) (h : i ≤ j) (hj : j ≤ src.length) : Txt.slice src (some (i : Int)) (some (j : Int)) = tx ((src.cps.toList.take j).drop i) := by
  have hl : src.cps.toList.length = src.length := rfl
  have := eq_of_beq (slice_closes (x := src) (i := i) (j := j) ⟨by omega, by omega, by omega⟩)
  rw [this]
  unfold tx
  rw [List.drop_take]
  congr 3
  omega
theorem mid_length {src : Str} {i j : Nat} (_h : i ≤ j) (hj : j ≤ src.length) : (tx ((src.cps.toList.take j).drop i)).length = j - i := by
  have : src.cps.toList.length = src.length := rfl
  rw [tx_length, List.length_drop, List.length_take]
  omega
theorem take_next {src : Str} {q sp c : Nat} (hc : src.cps[q]? = some c) (h : sp ≤ q) : (src.cps.toList.take (q + 1)).drop sp = (src.cps.toList.take q).drop sp ++ [c] := by
  have h1 : src.cps.toList[q]? = some c := by simpa using hc
  have h2 : q < src.cps.toList.length := (List.getElem?_eq_some_iff.mp h1).1
  rw [List.take_add_one, h1, List.drop_append_of_le_length (by rw [List.length_take]; omega)]
  rfl
theorem one_ne {c d : Nat} (h : c ≠ d) : ((⟨#[c]⟩ : Str) == ⟨#[d]⟩) = false := by
  rw [one_eq]
  exact beq_eq_false_iff_ne.mpr h
theorem news_tail {h₀ h : Heap} {L : Addr} {p : Addr × Obj} {news : List (Addr × Obj)} (N : News h₀ L h (p :: news)) : News h₀ L h news := fun q hq => N q (.tail _ hq)
noncomputable abbrev ovB (m0 : Str → Option Value) (p : Nat) (tp : Tok) (r : Str) (tr : Tok) (sp : Nat) (ts : Tok) (u u' : Option Value) : Str → Option Value := fun y =>
  if y = Str.ofString "pos" then some (.int (p : Int) tp) else if y = Str.ofString "result" then some (.str r tr) else if y = Str.ofString "start_pos" then some (.int (sp : Int) ts)
  else if y = Str.ofString "char" then u else if y = Str.ofString "parsed_escape" then u' else m0 y
/-- the loop's state: at p, the text read so far is r and what lies between sp and p -/
inductive BJ (w : World) (src : Str) (e : Nat) (out : List Nat) (news : List (Addr × Obj)) (m0 : Str → Option Value) : Nat → (Str → Option Value) → List (Addr × Obj) → Prop
  | mk (p sp : Nat) (r rest : List Nat) (tp tr ts : Tok) (u u' : Option Value) (hsp : sp ≤ p) (hpe : p ≤ e) (R : Reads1 w src p e rest) (ho : r ++ (src.cps.toList.take p).drop sp ++ rest = out) (hl : r.length + (p - sp) ≤ p) : BJ w src e out news m0 (e - p) (ovB m0 p tp (tx r) tr sp ts u u') news
noncomputable abbrev ksB : List Str := [Str.ofString "pos", Str.ofString "result", Str.ofString "start_pos", Str.ofString "char", Str.ofString "parsed_escape"]
theorem BJ.of {w : World} {src : Str} {e : Nat} {out : List Nat} {news : List (Addr × Obj)} {m0 m₁ : Str → Option Value} {p sp : Nat} {r rest : List Nat} {tp tr ts : Tok} {u u' : Option Value} (hsp : sp ≤ p) (hpe : p ≤ e) (R : Reads1 w src p e rest) (ho : r ++ (src.cps.toList.take p).drop sp ++ rest = out) (hl : r.length + (p - sp) ≤ p)
    (h : Ov ksB m₁ m0) (e1 : look m₁ (Str.ofString "pos") = some (.int p tp)) (e2 : look m₁ (Str.ofString "result") = some (.str (tx r) tr)) (e3 : look m₁ (Str.ofString "start_pos") = some (.int sp ts)) (e4 : look m₁ (Str.ofString "char") = u) (e5 : look m₁ (Str.ofString "parsed_escape") = u') : BJ w src e out news m0 (e - p) m₁ news := by
  have hm : m₁ = ovB m0 p tp (tx r) tr sp ts u u' := Ov.eq h (by walk_at "mine ov") (.cons e1 (.cons e2 (.cons e3 (.cons e4 (.cons e5 .nil)))))
  subst hm
  exact .mk p sp r rest tp tr ts u u' hsp hpe R ho hl
section
variable {h₀ h' : Heap} {L : Addr} {s : Shared} {J : Nat → (Str → Option Value) → List (Addr × Obj) → Prop} {n n' tk : Nat} {m' : Str → Option Value} {news : List (Addr × Obj)}
theorem while_ex (F : Fr h₀ L h' m') (N : News h₀ L h' news) (hn : n' < n) (j : J n' m' news) : ∃ h'' tk' m₂ news₂ n'', (⟨h', s.gens, s.drawn, tk, s.os⟩ : Shared) = { s with heap := h'', toks := tk' } ∧ Fr h₀ L h'' m₂ ∧ News h₀ L h'' news₂ ∧ n'' < n ∧ J n'' m₂ news₂ := ⟨_, _, _, _, _, rfl, F, N, hn, j⟩
end
/-- the text ends: by three marks, or it is broken at a backslash -/
noncomputable def BEnd (w : World) (src : Str) (e : Nat) (out : List Nat) (msg : Str) (A : Around) (outer : List Env) (env : Env) (base h₀ : Heap) (L : Addr) (m : Str → Option Value) (news : List (Addr × Obj)) (s : Shared) (mean : ExcName → Option Value) (mg mb : Str → Option Value) (Q E : Value → Shared → Prop) : Prop :=
  (src.cps[e]? = some 34 ∧ Txt.startswith3 src (Str.ofString "\"\"\"") (e : Int) = true ∧ ∀ v news' h' tk', Fr h₀ L h' m → News h₀ L h' news' → (∃ l t t', v = .ref l ∧ news' = (l, { cls := .type "tuple", data := .seq #[.int (e + 3 : Int) t, .str (tx out) t'] }) :: news) → Q v { s with heap := h', toks := tk' }) ∨
  (src.cps[e]? = some 92 ∧ (∀ t1 t2, Tag KK RW (SpecE w 8 231 [.str src t1, .int e t2] [] (fun _ news => TabN news) msg)) ∧ Facts w base ∧ TopQ w mean mg mb base ∧ A.depth + 10 < recursionLimit ∧ TabN news ∧
    ∀ g e t tm ps h' tk', Fr h₀ L g m → RaisedS base g (env :: outer) e (.ref 199) t [.str msg tm] [(254, tabObj ps)] h' → g.UpToSlots h' → E (.ref e) { s with heap := h', toks := tk' })
set_option maxRecDepth 100000 in
set_option maxHeartbeats 8000000 in
theorem basic_any (w : World) (src : Str) (p e : Nat) (out : List Nat) (msg : Str) (t1 t2 : Tok) (hz : src.length ≤ sizeLine) (R : Reads1 w src p e out) {A : Around} {outer : List Env} {env : Env} {A₀ : Around} {base h₀ : Heap} {L : Addr} {m : Str → Option Value} {news : List (Addr × Obj)} {s : Shared} {mean : ExcName → Option Value} {mg mb : Str → Option Value} {Q E : Value → Shared → Prop}
    (hAt : At w A outer env A₀ base h₀ L m news s.heap mean mg mb) (hh : A.handled = none) (hd : A.depth + 6 < recursionLimit) (hEnd : BEnd w src e out msg A outer env base h₀ L m news s mean mg mb Q E) :
    Tag KK RW (wpAny (model PW w) A (call (.ref 252) [.str src t1, .int p t2] [(Str.ofString "multiline", .bool true)]) Q E s) := by
  k_fill
  unfold Tag
  obtain ⟨B, F, X, N, T, hA, hf, hk⟩ := hAt
  have KX := X.K
  have hele : e < src.length := by rcases hEnd with z | z <;> exact (Array.getElem?_eq_some_iff.mp z.1).1
  have hsl := sizeLine_eq
  refine wpAny_call ?_
  k_dflt (refine' code_def (binds := [(Str.ofString "src", Value.str src t1), (Str.ofString "pos", Value.int p t2), (Str.ofString "multiline", Value.bool true)]) ?k1 ?k2 ?k3 ?k4 ?k5 ?kA ?kF ?kK ?k6 ?k7 ?k8 ?k9 ?kB ?_ ?c2 ?c3 ?c4 ?c5; (case kA => first | assumption | exact Around.frames_deeper (by assumption)); (case kF => first | assumption | exact rfl); (case kK => first | assumption | exact rfl); (case k1 => k_asm); (case k2 => k_asm); (case k3 => k_asm); (case k4 => k_asm); (case k5 => k_asm); (case k6 => k_is); (case k7 => k_is); (case k8 => ktr_room); (case k9 => first | exact (by assumption : BindsTo _ _ _ _) | exact BindsTo.of_eq rfl); (case c5 => decide); (case kB => exact locs rfl); (case c2 => exact rfl); (case c3 => exact rfl); (case c4 => exact rfl); k_whole; intro g' L' h' FG' F' N' B' X' T'; (try dsimp only); (try k_fold))
  have XX := X.keeps (by assumption : Fr h₀ L _ m).keep
  walk_at "mine steps"
  rename Fr _ _ _ _ => FX
  rename News _ _ _ news => NX
  refine let_map FX ?_
  intro M0 FX0
  clear FX
  refine While_over (BJ w src e out news) (n₀ := e - p) FX0 NX ?_ ?_ ?_
  · clear hEnd
    exact BJ.of (sp := p) (r := []) (Nat.le_refl _) R.le R (by simp) (by simp) (by walk_at "mine ov") (by rfl) (by rfl) (by rfl) (by rfl) (by rfl)
  · rintro n m₁ news₁ h₁ tk₁ F₁ N₁ ⟨q, sp, r, rest, tp, tr, ts, u, u', hsp, hqe, Rq, hout, hlen⟩
    have hslc : Txt.slice src (some (sp : Int)) (some (q : Int)) = tx ((src.cps.toList.take q).drop sp) := slice_take src sp q hsp (by omega)
    have hmid : (tx ((src.cps.toList.take q).drop sp)).length = q - sp := mid_length hsp (by omega)
    have hr1 : (tx r).length = r.length := tx_length r
    have hr2 : (tx r).length ≤ sizeLine := by omega
    have hr3 : (tx ((src.cps.toList.take q).drop sp)).length ≤ sizeLine := by omega
    cases Rq with
    | done =>
      cases hEnd with
      | inl z =>
        have he := z.1
        have hst := z.2.1
        have hfin : tx r ++ tx ((src.cps.toList.take e).drop sp) = tx out := by rw [tx_append, ← hout, List.append_nil]
        walk_at "mine steps"
        dsimp only [WhileStep2]
        walk_at "mine steps"
        refine z.2.2 _ _ _ _ (by assumption) (by assumption) ⟨_, ?ta, ?tb, rfl, ?eq⟩
        case eq => rw [← hfin]
      | inr z =>
        have he := z.1
        walk_at "mine steps"
        k_dflt (refine' call_specE (z.2.1 _ _) ?zB ?zF ?zX ?zN ?zT ?zA ?zf ?zk z.2.2.1 z.2.2.2.1 ?zh ?zd z.2.2.2.2.2.1 ?_; (case zN => k_asm); (case zB => k_asm); (case zF => k_asm); (case zX => assumption); (case zT => k_asm); (case zA => first | exact Around.frames_deeper (by assumption) | exact Around.frames_deeper (Around.frames_deeper (by assumption))); (case zf => exact rfl); (case zk => exact rfl); (case zh => with_unfolding_all assumption); (case zd => exact dp1 z.2.2.2.2.1 rfl); k_whole)
        intro g3 e3 t3 tm3 ps3 h3 tk3 F3 R3 U3
        refine leave_onS (by assumption) F3 R3 U3 (fun h4 R4 _ U4 => ?_)
        exact z.2.2.2.2.2.2 _ _ _ _ _ _ _ (by assumption) R4 U4
    | raw hc n34 n92 nil Rn =>
      clear hEnd
      rename_i c out'
      have c1 : (({ cps := #[c] } : Str) == Str.ofString "\"") = false := one_ne n34
      have c2 : (({ cps := #[c] } : Str) == Str.ofString "\\") = false := one_ne n92
      have hle := Rn.le
      walk_at "mine steps"
      exact while_next (n' := e - (q + 1)) (by assumption) (by assumption) (by omega) (BJ.of (sp := sp) (r := r) (by omega) hle Rn (by rw [take_next hc hsp, ← hout]; simp) (by omega) (by walk_at "mine ov") (by exact in_of (Int.natCast_succ q).symm) (by rfl) (by rfl) (by rfl) (by rfl))
    | esc hc ok hlt hol Rn =>
      clear hEnd
      rename_i q' o out'
      have hle := Rn.le
      have ho1 : (tx o).length = o.length := tx_length o
      have hfin : tx r ++ tx ((src.cps.toList.take q).drop sp) ++ tx o = tx (r ++ (src.cps.toList.take q).drop sp ++ o) := by rw [tx_append, tx_append]
      walk_at "mine steps"
      k_dflt (refine' call_spec (ok _ _) ?B ?F ?X ?N ?T ?hA ?hf ?hk ?hh ?hd ?_; (((case B => k_asm); (case F => k_asm); (case X => assumption); (case N => k_asm); (case T => k_asm); (case hA => first | exact Around.frames_deeper (by assumption) | exact Around.frames_deeper (Around.frames_deeper (by assumption))); (case hf => exact rfl); (case hk => exact rfl); (case hh => with_unfolding_all assumption); (case hd => first | exact dp1 (by assumption) rfl | exact dp0 (by assumption) rfl | (simp only [depth_under_make, depth_under_kw, depth_in1, depth_deeper, depth_caller] at *; omega)))); k_whole)
      rintro v tl h1 tk1 ⟨l, t, t', rfl, rfl⟩ F1 N1
      walk_at "mine steps"
      have hl2 : (r ++ (src.cps.toList.take q).drop sp ++ o).length + (q' - q') ≤ q' := by
        have : ((src.cps.toList.take q).drop sp).length = q - sp := by rw [← tx_length]; exact hmid
        simp only [List.length_append]
        omega
      exact while_ex (n' := e - q') (by assumption) (news_tail (by assumption)) (by omega) (BJ.of (sp := q') (Nat.le_refl _) hle Rn (by rw [← hout]; simp) hl2 (by walk_at "mine ov") (by rfl) (by exact st_of hfin) (by rfl) (by rfl) (by rfl))
  · passes_own
theorem basic_spec (w : World) (src : Str) (p e : Nat) (out : List Nat) (t1 t2 : Tok) (hz : src.length ≤ sizeLine) (R : Reads1 w src p e out) (he : src.cps[e]? = some 34) (hst : Txt.startswith3 src (Str.ofString "\"\"\"") (e : Int) = true) :
    Tag KK RW (SpecG w 6 252 [.str src t1, .int p t2] [(Str.ofString "multiline", .bool true)] (fun _ _ => True) (fun v news news' => ∃ l t t', v = .ref l ∧ news' = (l, { cls := .type "tuple", data := .seq #[.int (e + 3 : Int) t, .str (tx out) t'] }) :: news)) :=
  fun _ _ _ _ _ _ _ _ _ _ _ _ _ _ _ hAt hh hd _ hret => basic_any w src p e out Str.empty t1 t2 hz R hAt hh hd (.inl ⟨he, hst, hret⟩)
theorem basicX_spec (w : World) (src : Str) (p e : Nat) (out : List Nat) (msg : Str) (t1 t2 : Tok) (hz : src.length ≤ sizeLine) (R : Reads1 w src p e out) (he : src.cps[e]? = some 92) (bad : ∀ t1 t2, Tag KK RW (SpecE w 8 231 [.str src t1, .int e t2] [] (fun _ news => TabN news) msg)) :
    Tag KK RW (SpecE w 10 252 [.str src t1, .int p t2] [(Str.ofString "multiline", .bool true)] (fun _ news => TabN news) msg) :=
  fun _ _ _ _ _ _ _ _ _ _ _ _ _ _ _ hAt XB TB hh hd hP hret => basic_any w src p e out msg t1 t2 hz R hAt hh (dp0 hd rfl) (.inr ⟨he, bad, XB, TB, hd, hP, hret⟩)
end
-- Wk11
section
theorem news_mid1 {h₀ h : Heap} {L : Addr} {a b : Addr × Obj} {l : List (Addr × Obj)} (N : News h₀ L h (a :: b :: l)) : News h₀ L h (a :: l) := fun p hp => N p (by
  rcases List.mem_cons.mp hp with hp | hp
  · rw [hp]; exact .head _
  · exact .tail _ (.tail _ hp))
/-- the place stands at q -/
inductive PosJ (q : Nat) (news : List (Addr × Obj)) (m : Str → Option Value) : (Str → Option Value) → List (Addr × Obj) → Prop
  | mk (t : Tok) : PosJ q news m (fun y => if y = Str.ofString "pos" then some (.int (q : Int) t) else m y) news
theorem PosJ.of {q : Nat} {news : List (Addr × Obj)} {m m₁ : Str → Option Value} {t : Tok} (o : Ov [Str.ofString "pos"] m₁ m) (e : look m₁ (Str.ofString "pos") = some (.int (q : Int) t)) : PosJ q news m m₁ news := by
  have hm : m₁ = fun y => if y = Str.ofString "pos" then some (.int (q : Int) t) else m y := Ov.eq o (by walk_at "mine ov") (.cons e .nil)
  exact hm ▸ .mk t
set_option maxRecDepth 100000 in
set_option maxHeartbeats 8000000 in
theorem multi_spec (w : World) (src : Str) (p q e k : Nat) (b : Bool) (out : List Nat) (t1 t2 : Tok) (hz : src.length ≤ sizeLine) (hb : Txt.startswith3 src (Str.ofString "\n") (p + 3) = b) (hq : q = p + 3 + b.toNat) (R : Reads1 w src q e out) (hol : out.length ≤ 100000) (he : src.cps[e]? = some 34) (hst : Txt.startswith3 src (Str.ofString "\"\"\"") (e : Int) = true)
    (hk : k ≤ 2) (hk1 : Txt.startswith3 src (Str.ofString "\"") (e + 3 : Int) = decide (1 ≤ k)) (hk2 : Txt.startswith3 src (Str.ofString "\"") (e + 3 + 1 : Int) = decide (2 ≤ k)) :
    Tag KK RW (SpecG w 8 245 [.str src t1, .int p t2] [(Str.ofString "literal", .bool false)] (fun _ _ => True) (fun v news news' => ∃ l t t', v = .ref l ∧ news' = (l, { cls := .type "tuple", data := .seq #[.int ((e + 3 + k : Nat) : Int) t, .str (tx (out ++ List.replicate k 34)) t'] }) :: news)) := by
  k_fill
  unfold Tag SpecG
  intro A outer env A₀ base h₀ L m news s mean mg mb Q E hAt hh hd _ hret
  obtain ⟨B, F, X, N, T, hA, hf, hk⟩ := hAt
  have KX := X.K
  have hele : e < src.length := (Array.getElem?_eq_some_iff.mp he).1
  have hsl := sizeLine_eq
  have hle := R.le
  have hol2 : (tx out).length ≤ 100000 := by rw [tx_length]; exact hol
  refine wpAny_call ?_
  k_dflt (refine' code_def (binds := [(Str.ofString "src", Value.str src t1), (Str.ofString "pos", Value.int p t2), (Str.ofString "literal", Value.bool false)]) ?k1 ?k2 ?k3 ?k4 ?k5 ?kA ?kF ?kK ?k6 ?k7 ?k8 ?k9 ?kB ?_ ?c2 ?c3 ?c4 ?c5; (case kA => first | assumption | exact Around.frames_deeper (by assumption)); (case kF => first | assumption | exact rfl); (case kK => first | assumption | exact rfl); (case k1 => k_asm); (case k2 => k_asm); (case k3 => k_asm); (case k4 => k_asm); (case k5 => k_asm); (case k6 => k_is); (case k7 => k_is); (case k8 => ktr_room); (case k9 => first | exact (by assumption : BindsTo _ _ _ _) | exact BindsTo.of_eq rfl); (case c5 => decide); (case kB => exact locs rfl); (case c2 => exact rfl); (case c3 => exact rfl); (case c4 => exact rfl); k_whole; intro g' L' h' FG' F' N' B' X' T'; (try dsimp only); (try k_fold))
  have XX := X.keeps (by assumption : Fr h₀ L _ m).keep
  have hcase : k = 0 ∨ k = 1 ∨ k = 2 := by omega
  rename Fr _ _ _ _ => FX
  with_reducible refine cut2 (PosJ q news) FX ?_ ?_
  · cases b with
    | false =>
      walk_at "mine steps"
      exact CutEnd.intro (by assumption) (by assumption) (PosJ.of (by walk_at "mine ov") (by exact in_of (by rw [hq]; rfl)))
    | true =>
      walk_at "mine steps"
      exact CutEnd.intro (by assumption) (by assumption) (PosJ.of (by walk_at "mine ov") (by exact in_of (by rw [hq]; rfl)))
  · rintro h2 tk2 m2 news2 F2 N2 ⟨tq⟩
    walk_at "mine steps"
    k_dflt (refine' call_specG (basic_spec w src q e out _ _ hz R he hst) ?B ?F ?X ?N ?T ?hA ?hf ?hk ?hh ?hd trivial ?_; (((case B => k_asm); (case F => k_asm); (case X => assumption); (case N => k_asm); (case T => k_asm); (case hA => first | exact Around.frames_deeper (by assumption) | exact Around.frames_deeper (Around.frames_deeper (by assumption))); (case hf => exact rfl); (case hk => exact rfl); (case hh => with_unfolding_all assumption); (case hd => first | exact dp1 (by assumption) rfl | exact dp0 (by assumption) rfl | (simp only [depth_under_make, depth_under_kw, depth_in1, depth_deeper, depth_caller] at *; omega)))); k_whole)
    rintro v news' h1 tk1 ⟨l, t, t', rfl, rfl⟩ F1 N1
    rcases hcase with rfl | rfl | rfl
    · have g1 : Txt.startswith3 src (Str.ofString "\"") (e + 3 : Int) = false := by rw [hk1]; rfl
      walk_at "mine steps"
      refine hret _ _ _ _ (by assumption) (news_mid1 (by assumption)) ⟨_, ?A1, ?A2, rfl, ?A3⟩
      case A3 => simp only [List.replicate_zero, List.append_nil]; rfl
    · have g1 : Txt.startswith3 src (Str.ofString "\"") (e + 3 : Int) = true := by rw [hk1]; rfl
      have g2 : Txt.startswith3 src (Str.ofString "\"") (e + 3 + 1 : Int) = false := by rw [hk2]; rfl
      have g3 : tx out ++ Str.ofString "\"" = tx (out ++ List.replicate 1 34) := tx_append out [34]
      walk_at "mine steps"
      refine hret _ _ _ _ (by assumption) (news_mid1 (by assumption)) ⟨_, ?B1, ?B2, rfl, ?B3⟩
      case B3 => rw [← g3]; rfl
    · have g1 : Txt.startswith3 src (Str.ofString "\"") (e + 3 : Int) = true := by rw [hk1]; rfl
      have g2 : Txt.startswith3 src (Str.ofString "\"") (e + 3 + 1 : Int) = true := by rw [hk2]; rfl
      have g3 : tx out ++ Str.ofString "\"\"" = tx (out ++ List.replicate 2 34) := tx_append out [34, 34]
      walk_at "mine steps"
      refine hret _ _ _ _ (by assumption) (news_mid1 (by assumption)) ⟨_, ?C1, ?C2, rfl, ?C3⟩
      case C3 => rw [← g3]; rfl
end
-- Wk12
section
/-- the hexadecimal figures of a number, k of them -/
noncomputable def figs : Nat → Nat → List Nat
  | 0, _ => []
  | k + 1, n => figs k (n / 16) ++ [n % 16]
/-- the loop's names: number, figures, k -/
noncomputable abbrev ovF (m0 : Str → Option Value) (n : Nat) (tn : Tok) (f : Str) (tf : Tok) (u : Option Value) : Str → Option Value := fun y =>
  if y = Str.ofString "number" then some (.int (n : Int) tn) else if y = Str.ofString "figures" then some (.str f tf) else if y = Str.ofString "k" then u else m0 y
noncomputable def FJ (N k : Nat) (news : List (Addr × Obj)) (m0 : Str → Option Value) (i : Nat) (m₁ : Str → Option Value) (news₁ : List (Addr × Obj)) : Prop :=
  ∃ (n : Nat) (ds : List Nat) (tn tf : Tok) (u : Option Value), ds.length = i ∧ figs (k - i) n ++ ds = figs k N ∧ n < 2 ^ 40 ∧ news₁ = news ∧ m₁ = ovF m0 n tn (hexTxt ds) tf u
theorem figs_sub {k i n : Nat} (h : i < k) : figs (k - i) n = figs (k - (i + 1)) (n / 16) ++ [n % 16] := by
  have : k - i = (k - (i + 1)) + 1 := by omega
  rw [this]
  rfl
theorem hex_at (d : Nat) (h : d < 16) : (Str.ofString "0123456789abcdef").cps[d]? = some (hc d) := by
  have : ∀ d, d < 16 → (Str.ofString "0123456789abcdef").cps[d]? = some (hc d) := by decide +kernel
  exact this d h
theorem hex_cons (d : Nat) (ds : List Nat) : (⟨#[hc d]⟩ : Str) ++ hexTxt ds = hexTxt (d :: ds) := by
  apply Str.ext'
  rw [Str.cps_append]
  simp [hexTxt]
set_option maxRecDepth 100000 in
set_option maxHeartbeats 8000000 in
theorem figures_spec (w : World) (n k : Nat) (t1 t2 : Tok) (hn : n < 2 ^ 40) (hk : k ≤ 8) :
    Tag KK RW (SpecG w 1 280 [.int n t1, .int k t2] [] (fun _ _ => True) (fun v news news' => (∃ t, v = .str (hexTxt (figs k n)) t) ∧ news' = news)) := by
  k_fill
  unfold Tag SpecG
  intro A outer env A₀ base h₀ L m news s mean mg mb Q E hAt hh hd _ hret
  obtain ⟨B, F, X, N, T, hA, hf, hkk⟩ := hAt
  have KX := X.K
  have hsl := sizeLine_eq
  refine wpAny_call ?_
  k_dflt (refine' code_def (binds := [(Str.ofString "number", Value.int n t1), (Str.ofString "size", Value.int k t2)]) ?k1 ?k2 ?k3 ?k4 ?k5 ?kA ?kF ?kK ?k6 ?k7 ?k8 ?k9 ?kB ?_ ?c2 ?c3 ?c4 ?c5; (case kA => first | assumption | exact Around.frames_deeper (by assumption)); (case kF => first | assumption | exact rfl); (case kK => first | assumption | exact rfl); (case k1 => k_asm); (case k2 => k_asm); (case k3 => k_asm); (case k4 => k_asm); (case k5 => k_asm); (case k6 => k_is); (case k7 => k_is); (case k8 => ktr_room); (case k9 => first | exact (by assumption : BindsTo _ _ _ _) | exact BindsTo.of_eq rfl); (case c5 => decide); (case kB => exact locs rfl); (case c2 => exact rfl); (case c3 => exact rfl); (case c4 => exact rfl); k_whole; intro g' L' h' FG' F' N' B' X' T'; (try dsimp only); (try k_fold))
  have XX := X.keeps (by assumption : Fr h₀ L _ m).keep
  walk_at "mine steps"
  k_dflt (((rename Fr _ _ _ _ => lF'); (with_unfolding_all refine' For_invVF lF' ?k1_901 ?k2_901 ?_; (case k1_901 => exact rfl); (case k2_901 => exact rfl); k_whole)))
  walk_at "mine steps"
  rename IsRange _ _ _ _ _ _ _ _ => hR
  rename Fr _ _ _ _ => FX
  rename News _ _ _ news => NX
  k_dflt (refine iter_rangeJ (FJ n k news) (n := k) (by with_unfolding_all assumption) hR ?hs ?hz FX NX ?hj ?turn ?done)
  case hs => exact small_nat (by omega)
  case hz => exact range_nat k
  case hj =>
    refine ⟨n, [], t1, ?tf, none, rfl, by simp, hn, rfl, ?e3⟩
    case e3 =>
      funext y
      by_cases e1 : y = Str.ofString "number"
      · subst e1; rfl
      by_cases e2 : y = Str.ofString "figures"
      · subst e2; rfl
      by_cases e3 : y = Str.ofString "k"
      · subst e3; rfl
      simp only [ovF, if_neg e1, if_neg e2, if_neg e3]
  case turn =>
    rintro i m₁ news₁ I it t h tk hik hoff ⟨n', ds, tn, tf, u, hds, hf, hn', rfl, rfl⟩ F₁ N₁
    have hx : (Str.ofString "0123456789abcdef").cps[((n' : Int) % 16).toNat]? = some (hc (n' % 16)) := by
      have : ((n' : Int) % 16).toNat = n' % 16 := by omega
      rw [this]
      exact hex_at _ (Nat.mod_lt _ (by decide))
    have hl : (hexTxt ds).length ≤ 100 := by
      show ((ds.map hc).toArray).size ≤ 100
      simp; omega
    have hT : Txt.item (Str.ofString "0123456789abcdef") ((n' : Int).fmod 16) ++ hexTxt ds = hexTxt (n' % 16 :: ds) := by
      rw [← hex_cons]
      congr 1
      have e : (n' : Int).fmod 16 = ((n' % 16 : Nat) : Int) := by rw [Int.fmod_eq_emod_of_nonneg _ (by decide)]; omega
      rw [e]
      exact item_nat (hex_at _ (Nat.mod_lt _ (by decide)))
    have hN : (n' : Int).fdiv 16 = ((n' / 16 : Nat) : Int) := by rw [Int.fdiv_eq_ediv_of_nonneg _ (by decide)]; omega
    walk_at "mine steps"
    refine ⟨_, _, _, news₁, rfl, by assumption, by assumption, hoff, n' / 16, n' % 16 :: ds, ?A1, ?A2, ?A3, by simp [hds], ?B1, by omega, rfl, ?B2⟩
    case B1 => rw [← hf, figs_sub hik]; simp
    case B2 =>
      funext y
      by_cases e1 : y = Str.ofString "number"
      · subst e1; exact congrArg (fun z => some (Value.int z _)) hN
      by_cases e2 : y = Str.ofString "figures"
      · subst e2; exact congrArg (fun z => some (Value.str z _)) hT
      by_cases e3 : y = Str.ofString "k"
      · subst e3; rfl
      simp only [ovF, if_neg e1, if_neg e2, if_neg e3]
  case done =>
    rintro m₁ news₁ h tk ⟨n', ds, tn, tf, u, hds, hf, hn', rfl, rfl⟩ F₁ N₁
    walk_at "mine steps"
    refine hret _ _ _ _ (by assumption) (by assumption) ⟨⟨?CT, ?C1⟩, rfl⟩
    case C1 =>
      have : figs (k - k) n' ++ ds = ds := by rw [Nat.sub_self]; rfl
      rw [← hf, this]
end
-- Wk13
section
noncomputable def mustB (c : Nat) (b : Bool) : Bool := (c == 34 || c == 92 || c == 127) || ((decide (c < 32) && !(c == 9 || c == 10)) || (b && (c == 32 || c == 9 || c == 10)))
noncomputable def shortOf (c : Nat) : Option Nat := if c = 34 then some 34 else if c = 92 then some 92 else if c = 9 then some 116 else if c = 10 then some 110 else if c = 13 then some 114 else none
/-- a sign, spelled -/
noncomputable def spell (c mn : Nat) (b : Bool) : List Nat :=
  if mn = 0 ∧ mustB c b = false then [c] else match (if mn = 0 then shortOf c else none) with
  | some z => [92, z]
  | none => if mn = 2 ∨ 65535 < c then 92 :: 85 :: (figs 8 c).map hc else 92 :: 117 :: (figs 4 c).map hc
noncomputable abbrev shortP (a : Nat → Tok) : List (Value × Value) := [(.str (Str.ofString "\"") (a 0), .str (Str.ofString "\\\"") (a 1)), (.str (Str.ofString "\\") (a 2), .str (Str.ofString "\\\\") (a 3)), (.str (Str.ofString "\t") (a 4), .str (Str.ofString "\\t") (a 5)), (.str (Str.ofString "\n") (a 6), .str (Str.ofString "\\n") (a 7)), (.str (Str.ofString "\r") (a 8), .str (Str.ofString "\\r") (a 9))]
noncomputable def SJ1 (w : World) (news : List (Addr × Obj)) (m m' : Str → Option Value) (news' : List (Addr × Obj)) : Prop :=
  ∃ (D : Addr) (o : Obj) (a : Nat → Tok), m' = (fun y => if y = Str.ofString "short" then some (.ref D) else m y) ∧ news' = (D, o) :: news ∧ (∀ p ∈ news, p.1 < D) ∧ (D == sysModules) = false ∧ Obj.IsDictOf (PySem.strKind PW w) o (strPairs (shortP a)) ∧
    PyProof.V.FlatPairs PyData.str (strPairs (shortP a)) (strData (shortP a))
noncomputable def SJ2 (x : Bool) (news : List (Addr × Obj)) (m m' : Str → Option Value) (news' : List (Addr × Obj)) : Prop :=
  m' = (fun y => if y = Str.ofString "must" then some (.bool x) else m y) ∧ news' = news
theorem lk_cons (x y : Str) (v : PyData) (r : List (PyData × PyData)) : Spec.lookup (.str x) ((.str y, v) :: r) = if (y == x) = true then some v else Spec.lookup (.str x) r := by
  simp [Spec.lookup, Spec.same]
theorem lk_none {c : Nat} {a : Nat → Tok} (h1 : c ≠ 34) (h2 : c ≠ 92) (h3 : c ≠ 9) (h4 : c ≠ 10) (h5 : c ≠ 13) : (Spec.lookup (PyData.str ⟨#[c]⟩) (strData (shortP a))).isSome = false := by
  have e : ∀ d, c ≠ d → ((⟨#[d]⟩ : Str) == ⟨#[c]⟩) = false := fun d h => by rw [one_eq]; exact beq_eq_false_iff_ne.mpr (Ne.symm h)
  have z : strData (shortP a) = [(.str ⟨#[34]⟩, .str (Str.ofString "\\\"")), (.str ⟨#[92]⟩, .str (Str.ofString "\\\\")), (.str ⟨#[9]⟩, .str (Str.ofString "\\t")), (.str ⟨#[10]⟩, .str (Str.ofString "\\n")), (.str ⟨#[13]⟩, .str (Str.ofString "\\r"))] := rfl
  rw [z, lk_cons, e _ h1, if_neg (by simp), lk_cons, e _ h2, if_neg (by simp), lk_cons, e _ h3, if_neg (by simp), lk_cons, e _ h4, if_neg (by simp), lk_cons, e _ h5, if_neg (by simp)]
  rfl
theorem any_ofs (l : List Nat) (c : Nat) : ((l.map fun d => (⟨#[d]⟩ : Str)).any fun x => x == ⟨#[c]⟩) = l.contains c := by
  induction l with
  | nil => rfl
  | cons d l ih => rw [List.map_cons, List.any_cons, ih, one_eq, List.contains_cons, show (d == c) = (c == d) from Bool.eq_iff_iff.mpr (by rw [beq_iff_eq, beq_iff_eq]; exact eq_comm)]
theorem mustB_is (c : Nat) (b : Bool) : mustB c b = (([34, 92, 127].contains c || (decide (c < 32) && !([9, 10].contains c))) || (b && [32, 9, 10].contains c)) := by
  unfold mustB
  simp only [List.contains_cons, List.contains_nil, Bool.or_false, Bool.or_assoc]
theorem upd_twice {m : Str → Option Value} {k : Str} {a b : Option Value} : (fun y => if y = k then a else if y = k then b else m y) = fun y => if y = k then a else m y := funext fun y => by
  by_cases e : y = k
  · rw [if_pos e, if_pos e]
  · rw [if_neg e, if_neg e, if_neg e]
theorem upd_eq {m : Str → Option Value} {k : Str} {a b : Bool} (h : a = b) : (fun y => if y = k then some (Value.bool a) else m y) = fun y => if y = k then some (.bool b) else m y := by rw [h]
theorem hex_len (ds : List Nat) : (hexTxt ds).length = ds.length := by
  show ((ds.map hc).toArray).size = _
  simp
theorem figs_len : ∀ (k n : Nat), (figs k n).length = k
  | 0, _ => rfl
  | k + 1, n => by rw [figs, List.length_append, figs_len k]; rfl
theorem spell_raw {c : Nat} {b : Bool} (h : mustB c b = false) : tx (spell c 0 b) = ⟨#[c]⟩ := by
  unfold spell
  rw [if_pos ⟨rfl, h⟩]
  rfl
theorem spell_short {c z : Nat} {b : Bool} (h : mustB c b = true) (hz : shortOf c = some z) : tx (spell c 0 b) = tx [92, z] := by
  unfold spell
  rw [if_neg (by rw [h]; simp), if_pos rfl, hz]
theorem spell_U {c mn : Nat} {b : Bool} (h0 : mn = 0 → mustB c b = true) (h1 : mn = 0 → shortOf c = none) (h2 : mn = 2 ∨ 65535 < c) : Str.ofString "\\U" ++ hexTxt (figs 8 c) = tx (spell c mn b) := by
  unfold spell
  rw [if_neg (by rintro ⟨q, r⟩; rw [h0 q] at r; cases r)]
  have : (if mn = 0 then shortOf c else none) = none := by
    split
    · exact h1 (by assumption)
    · rfl
  rw [this]
  dsimp only
  rw [if_pos h2]
  exact tx_append [92, 85] _
theorem spell_u {c mn : Nat} {b : Bool} (h0 : mn = 0 → mustB c b = true) (h1 : mn = 0 → shortOf c = none) (h2 : ¬ (mn = 2 ∨ 65535 < c)) : Str.ofString "\\u" ++ hexTxt (figs 4 c) = tx (spell c mn b) := by
  unfold spell
  rw [if_neg (by rintro ⟨q, r⟩; rw [h0 q] at r; cases r)]
  have : (if mn = 0 then shortOf c else none) = none := by
    split
    · exact h1 (by assumption)
    · rfl
  rw [this]
  dsimp only
  rw [if_neg h2]
  exact tx_append [92, 117] _
local macro_rules | `(tactic| walk_at "call builtin:chr") => `(tactic| k_dflt refine chr_of_range (by decide) (by decide) ?_)
set_option maxRecDepth 100000 in
set_option maxHeartbeats 8000000 in
theorem spelled_spec (w : World) (c mn : Nat) (b : Bool) (t1 t2 : Tok) (hc : c < 1114112) (hm : mn ≤ 2) :
    Tag KK RW (SpecG w 2 287 [.str ⟨#[c]⟩ t1, .int mn t2, .bool b] [] (fun _ _ => True) (fun v news news' => (∃ t, v = .str (tx (spell c mn b)) t) ∧ news' = news)) := by
  k_fill
  unfold Tag SpecG
  intro A outer env A₀ base h₀ L m news s mean mg mb Q E hAt hh hd _ hret
  obtain ⟨B, F, X, N, T, hA, hf, hkk⟩ := hAt
  have KX := X.K
  have hsl := sizeLine_eq
  refine wpAny_call ?_
  k_dflt (refine' code_def (binds := [(Str.ofString "sign", Value.str ⟨#[c]⟩ t1), (Str.ofString "manner", Value.int mn t2), (Str.ofString "first", Value.bool b)]) ?k1 ?k2 ?k3 ?k4 ?k5 ?kA ?kF ?kK ?k6 ?k7 ?k8 ?k9 ?kB ?_ ?c2 ?c3 ?c4 ?c5; (case kA => first | assumption | exact Around.frames_deeper (by assumption)); (case kF => first | assumption | exact rfl); (case kK => first | assumption | exact rfl); (case k1 => k_asm); (case k2 => k_asm); (case k3 => k_asm); (case k4 => k_asm); (case k5 => k_asm); (case k6 => k_is); (case k7 => k_is); (case k8 => ktr_room); (case k9 => first | exact (by assumption : BindsTo _ _ _ _) | exact BindsTo.of_eq rfl); (case c5 => decide); (case kB => exact locs rfl); (case c2 => exact rfl); (case c3 => exact rfl); (case c4 => exact rfl); k_whole; intro g' L' h' FG' F' N' B' X' T'; (try dsimp only); (try k_fold))
  have XX := X.keeps (by assumption : Fr h₀ L _ m).keep
  generalize (s.toks + List.length _) = tk0
  rename Fr _ _ _ _ => FX
  with_reducible refine cut1 (SJ1 w news) FX ?_ ?_
  · walk_at "mine steps"
    exact CutEnd.intro (by assumption) (by assumption) ⟨_, _, fun i => tk0 + i, rfl, rfl, by assumption, by assumption, by assumption, by assumption⟩
  · rintro h1 tk1 m1 news1 F1 N1 ⟨D, o, a, rfl, rfl, l1, lo, hd', hf'⟩
    obtain ⟨x, hx⟩ : ∃ x, mustB c b = x := ⟨_, rfl⟩
    obtain ⟨y1, hy1⟩ : ∃ z, ([34, 92, 127].contains c || (decide (c < 32) && !([9, 10].contains c))) = z := ⟨_, rfl⟩
    have hxx := hx
    rw [mustB_is, hy1] at hxx
    refine let_map F1 ?_
    intro M1 F1
    with_reducible refine cut1 (SJ2 y1 ((D, o) :: news)) F1 ?_ ?_
    · clear hx hxx
      have q1 := any_ofs [34, 92, 127] c
      have q3 := any_ofs [9, 10] c
      cases hA : [34, 92, 127].contains c with
      | true =>
        have g1 : ([Str.ofString "\"", Str.ofString "\\", Str.ofString "\x7f"].any fun x => x == { cps := #[c] }) = true := q1.trans hA
        rw [hA] at hy1
        clear q1 q3
        have hX : true = y1 := hy1
        walk_at "mine steps"
        exact CutEnd.intro (by assumption) (by first | assumption | exact news_tail (by assumption) | exact news_tail (news_tail (by assumption)) | exact news_tail (news_tail (news_tail (by assumption)))) ⟨upd_eq (g1.trans hX), rfl⟩
      | false =>
        have g1 : ([Str.ofString "\"", Str.ofString "\\", Str.ofString "\x7f"].any fun x => x == { cps := #[c] }) = false := q1.trans hA
        rw [hA] at hy1
        clear q1
        by_cases hL : c < 32
        · rw [decide_eq_true hL] at hy1
          cases hN : [9, 10].contains c with
          | false =>
            have g3 : ([Str.ofString "\t", Str.ofString "\n"].any fun x => x == { cps := #[c] }) = false := q3.trans hN
            rw [hN] at hy1
            clear q3
            have hX : true = y1 := hy1
            walk_at "mine steps"
            exact CutEnd.intro (by assumption) (by first | assumption | exact news_tail (by assumption) | exact news_tail (news_tail (by assumption)) | exact news_tail (news_tail (news_tail (by assumption)))) ⟨upd_eq ((congrArg (!·) g3).trans hX), rfl⟩
          | true =>
            have g3 : ([Str.ofString "\t", Str.ofString "\n"].any fun x => x == { cps := #[c] }) = true := q3.trans hN
            rw [hN] at hy1
            clear q3
            have hX : false = y1 := hy1
            walk_at "mine steps"
            exact CutEnd.intro (by assumption) (by first | assumption | exact news_tail (by assumption) | exact news_tail (news_tail (by assumption)) | exact news_tail (news_tail (news_tail (by assumption)))) ⟨upd_eq ((congrArg (!·) g3).trans hX), rfl⟩
        · rw [decide_eq_false hL] at hy1
          clear q3
          have hX : false = y1 := hy1
          walk_at "mine steps"
          exact CutEnd.intro (by assumption) (by first | assumption | exact news_tail (by assumption) | exact news_tail (news_tail (by assumption)) | exact news_tail (news_tail (news_tail (by assumption)))) ⟨upd_eq ((decide_eq_false (p := (c : Int) < 32) (by omega)).trans hX), rfl⟩
    rintro h2 tk2 m2 news2 F2 N2 ⟨rfl, rfl⟩
    clear hy1
    with_reducible refine cut1 (fun _ => SJ2 x ((D, o) :: news) M1) F2 ?_ ?_
    · have q2 := any_ofs [32, 9, 10] c
      cases b with
      | false =>
        clear q2
        have hX : y1 = x := (Bool.or_false _).symm.trans hxx
        walk_at "mine steps"
        exact CutEnd.intro (by assumption) (by first | assumption | exact news_tail (by assumption) | exact news_tail (news_tail (by assumption)) | exact news_tail (news_tail (news_tail (by assumption)))) ⟨upd_eq hX, rfl⟩
      | true =>
        cases hW : [32, 9, 10].contains c with
        | false =>
          have g2 : ([Str.ofString " ", Str.ofString "\t", Str.ofString "\n"].any fun x => x == { cps := #[c] }) = false := q2.trans hW
          rw [hW] at hxx
          clear q2
          have hX : y1 = x := (Bool.or_false _).symm.trans hxx
          walk_at "mine steps"
          exact CutEnd.intro (by assumption) (by first | assumption | exact news_tail (by assumption) | exact news_tail (news_tail (by assumption)) | exact news_tail (news_tail (news_tail (by assumption)))) ⟨upd_eq hX, rfl⟩
        | true =>
          have g2 : ([Str.ofString " ", Str.ofString "\t", Str.ofString "\n"].any fun x => x == { cps := #[c] }) = true := q2.trans hW
          rw [hW] at hxx
          clear q2
          have hX : true = x := (Bool.or_true _).symm.trans hxx
          walk_at "mine steps"
          exact CutEnd.intro (by assumption) (by first | assumption | exact news_tail (by assumption) | exact news_tail (news_tail (by assumption)) | exact news_tail (news_tail (news_tail (by assumption)))) ⟨upd_twice.trans (upd_eq hX), rfl⟩
    · clear hxx
      rintro h2 tk2 m2 news2 F2 N2 ⟨rfl, rfl⟩
      have hmn : mn = 0 ∨ mn = 1 ∨ mn = 2 := by omega
      rcases hmn with rfl | rfl | rfl
      · cases x with
        | false =>
          walk_at "mine steps"
          refine hret _ _ _ _ (by assumption) (news_tail (by assumption)) ⟨⟨?TA, ?A⟩, rfl⟩
          case A => rw [spell_raw hx]
        | true =>
          have h128 : c < 128 := by unfold mustB at hx; simp at hx; omega
          by_cases h1 : c = 34
          · subst h1
            have hlk : (Spec.lookup (PyData.str ⟨#[34]⟩) (strData (shortP a))).isSome = true := rfl
            walk_at "mine steps"
            refine hret _ _ _ _ (by assumption) (news_tail (by assumption)) ⟨⟨?TS0, ?S0⟩, rfl⟩
            case S0 => rw [spell_short hx rfl]; rfl
          by_cases h2 : c = 92
          · subst h2
            have hlk : (Spec.lookup (PyData.str ⟨#[92]⟩) (strData (shortP a))).isSome = true := rfl
            walk_at "mine steps"
            refine hret _ _ _ _ (by assumption) (news_tail (by assumption)) ⟨⟨?TS1, ?S1⟩, rfl⟩
            case S1 => rw [spell_short hx rfl]; rfl
          by_cases h3 : c = 9
          · subst h3
            have hlk : (Spec.lookup (PyData.str ⟨#[9]⟩) (strData (shortP a))).isSome = true := rfl
            walk_at "mine steps"
            refine hret _ _ _ _ (by assumption) (news_tail (by assumption)) ⟨⟨?TS2, ?S2⟩, rfl⟩
            case S2 => rw [spell_short hx rfl]; rfl
          by_cases h4 : c = 10
          · subst h4
            have hlk : (Spec.lookup (PyData.str ⟨#[10]⟩) (strData (shortP a))).isSome = true := rfl
            walk_at "mine steps"
            refine hret _ _ _ _ (by assumption) (news_tail (by assumption)) ⟨⟨?TS3, ?S3⟩, rfl⟩
            case S3 => rw [spell_short hx rfl]; rfl
          by_cases h5 : c = 13
          · subst h5
            have hlk : (Spec.lookup (PyData.str ⟨#[13]⟩) (strData (shortP a))).isSome = true := rfl
            walk_at "mine steps"
            refine hret _ _ _ _ (by assumption) (news_tail (by assumption)) ⟨⟨?TS4, ?S4⟩, rfl⟩
            case S4 => rw [spell_short hx rfl]; rfl
          have hlk := lk_none (a := a) h1 h2 h3 h4 h5
          have hsn : shortOf c = none := by unfold shortOf; rw [if_neg h1, if_neg h2, if_neg h3, if_neg h4, if_neg h5]
          walk_at "mine steps"
          k_dflt (refine' call_specG (figures_spec w c 4 _ _ ?a1 ?a2) ?B ?F ?X ?N ?T ?hA ?hf ?hk ?hh ?hd trivial ?_; (case a1 => omega); (case a2 => omega); (((case B => k_asm); (case F => k_asm); (case X => assumption); (case N => k_asm); (case T => k_asm); (case hA => first | exact Around.frames_deeper (by assumption) | exact Around.frames_deeper (Around.frames_deeper (by assumption))); (case hf => exact rfl); (case hk => exact rfl); (case hh => with_unfolding_all assumption); (case hd => first | exact dp1 (by assumption) rfl | exact dp0 (by assumption) rfl | (simp only [depth_under_make, depth_under_kw, depth_in1, depth_deeper, depth_caller] at *; omega)))); k_whole)
          rintro v news' h1 tk1 ⟨⟨t, rfl⟩, rfl⟩ F1 N1
          have hl : (hexTxt (figs 4 c)).length ≤ 100 := by rw [hex_len, figs_len]; omega
          walk_at "mine steps"
          refine hret _ _ _ _ (by assumption) (news_tail (by assumption)) ⟨⟨?TB, ?B⟩, rfl⟩
          case B => rw [← spell_u (b := b) (by exact fun _ => hx) (by exact fun _ => hsn) (by omega)]
      · by_cases hbig : 65535 < c
        · walk_at "mine steps"
          k_dflt (refine' call_specG (figures_spec w c 8 _ _ ?a1 ?a2) ?B ?F ?X ?N ?T ?hA ?hf ?hk ?hh ?hd trivial ?_; (case a1 => omega); (case a2 => omega); (((case B => k_asm); (case F => k_asm); (case X => assumption); (case N => k_asm); (case T => k_asm); (case hA => first | exact Around.frames_deeper (by assumption) | exact Around.frames_deeper (Around.frames_deeper (by assumption))); (case hf => exact rfl); (case hk => exact rfl); (case hh => with_unfolding_all assumption); (case hd => first | exact dp1 (by assumption) rfl | exact dp0 (by assumption) rfl | (simp only [depth_under_make, depth_under_kw, depth_in1, depth_deeper, depth_caller] at *; omega)))); k_whole)
          rintro v news' h1 tk1 ⟨⟨t, rfl⟩, rfl⟩ F1 N1
          have hl : (hexTxt (figs 8 c)).length ≤ 100 := by rw [hex_len, figs_len]; omega
          walk_at "mine steps"
          refine hret _ _ _ _ (by assumption) (news_tail (by assumption)) ⟨⟨?TC, ?C⟩, rfl⟩
          case C => rw [← spell_U (b := b) (by omega) (by omega) (by omega)]
        · walk_at "mine steps"
          k_dflt (refine' call_specG (figures_spec w c 4 _ _ ?a1 ?a2) ?B ?F ?X ?N ?T ?hA ?hf ?hk ?hh ?hd trivial ?_; (case a1 => omega); (case a2 => omega); (((case B => k_asm); (case F => k_asm); (case X => assumption); (case N => k_asm); (case T => k_asm); (case hA => first | exact Around.frames_deeper (by assumption) | exact Around.frames_deeper (Around.frames_deeper (by assumption))); (case hf => exact rfl); (case hk => exact rfl); (case hh => with_unfolding_all assumption); (case hd => first | exact dp1 (by assumption) rfl | exact dp0 (by assumption) rfl | (simp only [depth_under_make, depth_under_kw, depth_in1, depth_deeper, depth_caller] at *; omega)))); k_whole)
          rintro v news' h1 tk1 ⟨⟨t, rfl⟩, rfl⟩ F1 N1
          have hl : (hexTxt (figs 4 c)).length ≤ 100 := by rw [hex_len, figs_len]; omega
          walk_at "mine steps"
          refine hret _ _ _ _ (by assumption) (news_tail (by assumption)) ⟨⟨?TD, ?D⟩, rfl⟩
          case D => rw [← spell_u (b := b) (by omega) (by omega) (by omega)]
      · walk_at "mine steps"
        k_dflt (refine' call_specG (figures_spec w c 8 _ _ ?a1 ?a2) ?B ?F ?X ?N ?T ?hA ?hf ?hk ?hh ?hd trivial ?_; (case a1 => omega); (case a2 => omega); (((case B => k_asm); (case F => k_asm); (case X => assumption); (case N => k_asm); (case T => k_asm); (case hA => first | exact Around.frames_deeper (by assumption) | exact Around.frames_deeper (Around.frames_deeper (by assumption))); (case hf => exact rfl); (case hk => exact rfl); (case hh => with_unfolding_all assumption); (case hd => first | exact dp1 (by assumption) rfl | exact dp0 (by assumption) rfl | (simp only [depth_under_make, depth_under_kw, depth_in1, depth_deeper, depth_caller] at *; omega)))); k_whole)
        rintro v news' h1 tk1 ⟨⟨t, rfl⟩, rfl⟩ F1 N1
        have hl : (hexTxt (figs 8 c)).length ≤ 100 := by rw [hex_len, figs_len]; omega
        walk_at "mine steps"
        refine hret _ _ _ _ (by assumption) (news_tail (by assumption)) ⟨⟨?TE2, ?E2⟩, rfl⟩
        case E2 => rw [← spell_U (b := b) (by omega) (by omega) (by omega)]
end
-- Wk14
section
noncomputable def blanks (j : Nat) : List Nat := match j with | 0 => [] | 1 => [32] | 2 => [9] | _ => [32, 9]
noncomputable def whites (j : Nat) : List Nat := match j with | 0 => [] | 1 => [32] | 2 => [10] | _ => [9, 10, 32, 32]
noncomputable def badS (j : Nat) : Nat := match j with | 0 => 120 | 1 => 40 | 2 => 35 | _ => 233
noncomputable def foldOf (sd k : Nat) : Nat := (sd + 5 * k) % 16
/-- a fold ahead of piece k -/
noncomputable def gap (sd br k : Nat) : List Nat := if k = 0 then [] else [92] ++ blanks (foldOf sd k % 4) ++ (if k = br then [badS (sd % 4)] else []) ++ [10] ++ whites (foldOf sd k / 4)
noncomputable def sgn (dr : List (Nat × Nat)) (at' : Nat) (p : List Nat) (j : Nat) : List Nat := spell (p.getD j 0) (dr.getD ((at' + j) % dr.length) (0, 0)).2 (j == 0)
noncomputable def pieceT (dr : List (Nat × Nat)) (at' : Nat) (p : List Nat) (n : Nat) : List Nat := (List.range n).flatMap (sgn dr at' p)
noncomputable def atOf (ps : List (List Nat)) (k : Nat) : Nat := ((ps.take k).map List.length).sum
noncomputable def segT (sd br : Nat) (dr : List (Nat × Nat)) (ps : List (List Nat)) (k : Nat) : List Nat := gap sd br k ++ pieceT dr (atOf ps k) (ps.getD k []) (ps.getD k []).length
/-- the first k pieces, written -/
noncomputable def wr (sd br : Nat) (dr : List (Nat × Nat)) (ps : List (List Nat)) (k : Nat) : List Nat := (List.range k).flatMap (segT sd br dr ps)
noncomputable def placeOf (sd br : Nat) (dr : List (Nat × Nat)) (ps : List (List Nat)) (k : Nat) : Nat := if 0 < br ∧ br < k then (wr sd br dr ps br).length + 1 + (blanks (foldOf sd br % 4)).length + (if foldOf sd br % 4 = 0 then 1 else 0) else 0
theorem sel_blanks (j : Nat) : sel4 j (Str.ofString "") (Str.ofString " ") (Str.ofString "\t") (Str.ofString " \t") = tx (blanks j) := match j with | 0 => rfl | 1 => rfl | 2 => rfl | _ + 3 => rfl
theorem sel_whites (j : Nat) : sel4 j (Str.ofString "") (Str.ofString " ") (Str.ofString "\n") (Str.ofString "\t\n  ") = tx (whites j) := match j with | 0 => rfl | 1 => rfl | 2 => rfl | _ + 3 => rfl
theorem sel_bad (j : Nat) : sel4 j (Str.ofString "x") (Str.ofString "(") (Str.ofString "#") (Str.ofString "\xe9") = tx [badS j] := match j with | 0 => rfl | 1 => rfl | 2 => rfl | _ + 3 => rfl
theorem spell_le (c mn : Nat) (b : Bool) : (spell c mn b).length ≤ 10 := by
  unfold spell
  split
  · simp
  · split
    · simp
    · split
      · simp [figs_len]
      · simp [figs_len]
theorem blanks_le (j : Nat) : (blanks j).length ≤ 2 := by unfold blanks; split <;> simp
theorem whites_le (j : Nat) : (whites j).length ≤ 5 := by unfold whites; split <;> simp
theorem gap_le (sd br k : Nat) : (gap sd br k).length ≤ 10 := by
  have h1 := blanks_le (foldOf sd k % 4)
  have h2 := whites_le (foldOf sd k / 4)
  unfold gap
  split
  · simp
  · simp only [List.length_append, List.length_cons, List.length_nil]
    split <;> simp <;> omega
theorem pieceT_succ (dr : List (Nat × Nat)) (a : Nat) (p : List Nat) (n : Nat) : pieceT dr a p (n + 1) = pieceT dr a p n ++ sgn dr a p n := by
  unfold pieceT
  rw [List.range_succ, List.flatMap_append]
  simp
theorem wr_succ (sd br : Nat) (dr : List (Nat × Nat)) (ps : List (List Nat)) (k : Nat) : wr sd br dr ps (k + 1) = wr sd br dr ps k ++ segT sd br dr ps k := by
  unfold wr
  rw [List.range_succ, List.flatMap_append]
  simp
theorem pieceT_le (dr : List (Nat × Nat)) (a : Nat) (p : List Nat) : ∀ n, (pieceT dr a p n).length ≤ 10 * n
  | 0 => by simp [pieceT]
  | n + 1 => by
    have := pieceT_le dr a p n
    have h2 : (sgn dr a p n).length ≤ 10 := spell_le _ _ _
    rw [pieceT_succ, List.length_append]
    omega
theorem atOf_succ {ps : List (List Nat)} {k : Nat} {p : List Nat} (h : ps[k]? = some p) : atOf ps (k + 1) = atOf ps k + p.length := by
  unfold atOf
  rw [List.take_add_one, h]
  simp
theorem atOf_mono {ps : List (List Nat)} {i j : Nat} (h : i ≤ j) : atOf ps i ≤ atOf ps j := by
  induction j with
  | zero => obtain rfl : i = 0 := by omega
            exact Nat.le_refl _
  | succ j ih =>
    by_cases e : i = j + 1
    · rw [e]; exact Nat.le_refl _
    · refine Nat.le_trans (ih (by omega)) ?_
      cases hp : ps[j]? with
      | some p => rw [atOf_succ hp]; omega
      | none =>
        unfold atOf
        have := List.getElem?_eq_none_iff.mp hp
        rw [List.take_of_length_le (by omega), List.take_of_length_le (by omega)]
        exact Nat.le_refl _
theorem wr_le (sd br : Nat) (dr : List (Nat × Nat)) (ps : List (List Nat)) : ∀ k, k ≤ ps.length → (wr sd br dr ps k).length ≤ 10 * k + 10 * atOf ps k
  | 0, _ => by simp [wr]
  | k + 1, h => by
    have ih := wr_le sd br dr ps k (by omega)
    have hp : ps[k]? = some ps[k] := List.getElem?_eq_getElem (by omega)
    have hg := gap_le sd br k
    have hq := pieceT_le dr (atOf ps k) (ps.getD k []) (ps.getD k []).length
    have e : (ps.getD k []).length = ps[k].length := by rw [List.getD_eq_getElem?_getD, hp]; rfl
    rw [wr_succ, List.length_append, atOf_succ hp]
    unfold segT
    rw [List.length_append]
    omega
/-- names of the outer loop -/
noncomputable def ovW (m0 : Str → Option Value) (T : Str) (tt : Tok) (pl : Nat) (tp : Tok) (a : Nat) (ta : Tok) (u1 u2 u3 : Option Value) : Str → Option Value := fun y =>
  if y = Str.ofString "text" then some (.str T tt) else if y = Str.ofString "place" then some (.int (pl : Int) tp) else if y = Str.ofString "at" then some (.int (a : Int) ta)
  else if y = Str.ofString "k" then u1 else if y = Str.ofString "fold" then u2 else if y = Str.ofString "c" then u3 else m0 y
noncomputable def ovG (m0 : Str → Option Value) (T : Str) (tt : Tok) (pl : Nat) (tp : Tok) (u : Option Value) : Str → Option Value := fun y =>
  if y = Str.ofString "text" then some (.str T tt) else if y = Str.ofString "place" then some (.int (pl : Int) tp) else if y = Str.ofString "fold" then u else m0 y
noncomputable def ovG1 (m0 : Str → Option Value) (T : Str) (tt : Tok) (f : Nat) (tf : Tok) : Str → Option Value := fun y =>
  if y = Str.ofString "text" then some (.str T tt) else if y = Str.ofString "fold" then some (.int (f : Int) tf) else m0 y
noncomputable def ovG2 (m0 : Str → Option Value) (T : Str) (tt : Tok) (pl : Nat) (tp : Tok) : Str → Option Value := fun y =>
  if y = Str.ofString "text" then some (.str T tt) else if y = Str.ofString "place" then some (.int (pl : Int) tp) else m0 y
noncomputable def ovI (m0 : Str → Option Value) (T : Str) (tt : Tok) (a : Nat) (ta : Tok) (u : Option Value) : Str → Option Value := fun y =>
  if y = Str.ofString "text" then some (.str T tt) else if y = Str.ofString "at" then some (.int (a : Int) ta) else if y = Str.ofString "c" then u else m0 y
noncomputable abbrev ksW : List Str := [Str.ofString "text", Str.ofString "place", Str.ofString "at", Str.ofString "k", Str.ofString "fold", Str.ofString "c"]
noncomputable abbrev ksG : List Str := [Str.ofString "text", Str.ofString "place", Str.ofString "fold"]
noncomputable abbrev ksG1 : List Str := [Str.ofString "text", Str.ofString "fold"]
noncomputable abbrev ksG2 : List Str := [Str.ofString "text", Str.ofString "place"]
noncomputable abbrev ksI : List Str := [Str.ofString "text", Str.ofString "at", Str.ofString "c"]
inductive WJ (sd br : Nat) (dr : List (Nat × Nat)) (ps : List (List Nat)) (news : List (Addr × Obj)) (m0 : Str → Option Value) (i : Nat) : (Str → Option Value) → List (Addr × Obj) → Prop
  | mk (tt tp ta : Tok) (u1 u2 u3 : Option Value) : WJ sd br dr ps news m0 i (ovW m0 (tx (wr sd br dr ps i)) tt (placeOf sd br dr ps i) tp (atOf ps i) ta u1 u2 u3) news
theorem WJ.of {sd br : Nat} {dr : List (Nat × Nat)} {ps : List (List Nat)} {news : List (Addr × Obj)} {m0 m : Str → Option Value} {i : Nat} (tt tp ta : Tok) (u1 u2 u3 : Option Value) (h : m = ovW m0 (tx (wr sd br dr ps i)) tt (placeOf sd br dr ps i) tp (atOf ps i) ta u1 u2 u3) : WJ sd br dr ps news m0 i m news := by
  subst h; exact .mk ..
inductive GJ (sd br : Nat) (dr : List (Nat × Nat)) (ps : List (List Nat)) (i : Nat) (news : List (Addr × Obj)) (m0 : Str → Option Value) : (Str → Option Value) → List (Addr × Obj) → Prop
  | mk (tt tp : Tok) (u : Option Value) : GJ sd br dr ps i news m0 (ovG m0 (tx (wr sd br dr ps i ++ gap sd br i)) tt (placeOf sd br dr ps (i + 1)) tp u) news
theorem GJ.of {sd br : Nat} {dr : List (Nat × Nat)} {ps : List (List Nat)} {i : Nat} {news : List (Addr × Obj)} {m0 m : Str → Option Value} (tt tp : Tok) (u : Option Value) (h : m = ovG m0 (tx (wr sd br dr ps i ++ gap sd br i)) tt (placeOf sd br dr ps (i + 1)) tp u) : GJ sd br dr ps i news m0 m news := by
  subst h; exact .mk ..
inductive GJ1 (sd br : Nat) (dr : List (Nat × Nat)) (ps : List (List Nat)) (i : Nat) (news : List (Addr × Obj)) (m0 : Str → Option Value) : (Str → Option Value) → List (Addr × Obj) → Prop
  | mk (tt tf : Tok) : GJ1 sd br dr ps i news m0 (ovG1 m0 (tx (wr sd br dr ps i ++ [92] ++ blanks (foldOf sd i % 4))) tt (foldOf sd i) tf) news
theorem GJ1.of {sd br : Nat} {dr : List (Nat × Nat)} {ps : List (List Nat)} {i : Nat} {news : List (Addr × Obj)} {m0 m : Str → Option Value} (tt tf : Tok) (h : m = ovG1 m0 (tx (wr sd br dr ps i ++ [92] ++ blanks (foldOf sd i % 4))) tt (foldOf sd i) tf) : GJ1 sd br dr ps i news m0 m news := by
  subst h; exact .mk ..
inductive GJ2 (sd br : Nat) (dr : List (Nat × Nat)) (ps : List (List Nat)) (i : Nat) (news : List (Addr × Obj)) (m0 : Str → Option Value) : (Str → Option Value) → List (Addr × Obj) → Prop
  | mk (tt tp : Tok) : GJ2 sd br dr ps i news m0 (ovG2 m0 (tx (wr sd br dr ps i ++ [92] ++ blanks (foldOf sd i % 4) ++ (if i = br then [badS (sd % 4)] else []))) tt (placeOf sd br dr ps (i + 1)) tp) news
theorem GJ2.of {sd br : Nat} {dr : List (Nat × Nat)} {ps : List (List Nat)} {i : Nat} {news : List (Addr × Obj)} {m0 m : Str → Option Value} (tt tp : Tok) (h : m = ovG2 m0 (tx (wr sd br dr ps i ++ [92] ++ blanks (foldOf sd i % 4) ++ (if i = br then [badS (sd % 4)] else []))) tt (placeOf sd br dr ps (i + 1)) tp) : GJ2 sd br dr ps i news m0 m news := by
  subst h; exact .mk ..
theorem place_ne {sd br i : Nat} {dr : List (Nat × Nat)} {ps : List (List Nat)} (h : i = 0 ∨ i ≠ br) : placeOf sd br dr ps (i + 1) = placeOf sd br dr ps i := by
  unfold placeOf
  by_cases h1 : 0 < br ∧ br < i
  · rw [if_pos h1, if_pos (by omega)]
  · rw [if_neg h1, if_neg (by omega)]
theorem place_eq {sd br i : Nat} {dr : List (Nat × Nat)} {ps : List (List Nat)} (h : i = br) (h0 : 0 < i) : placeOf sd br dr ps (i + 1) = (tx (wr sd br dr ps i ++ [92] ++ blanks (foldOf sd i % 4))).length + (if foldOf sd i % 4 = 0 then 1 else 0) := by
  subst h
  unfold placeOf
  rw [if_pos ⟨h0, by omega⟩, tx_length]
  simp only [List.length_append, List.length_cons, List.length_nil]
theorem gap_0 {sd br : Nat} : gap sd br 0 = [] := rfl
theorem gap_pos {sd br i : Nat} (h : 0 < i) : gap sd br i = [92] ++ blanks (foldOf sd i % 4) ++ (if i = br then [badS (sd % 4)] else []) ++ [10] ++ whites (foldOf sd i / 4) := if_neg (by omega)
inductive IJ (dr : List (Nat × Nat)) (a : Nat) (p T0 : List Nat) (news : List (Addr × Obj)) (m0 : Str → Option Value) (j : Nat) : (Str → Option Value) → List (Addr × Obj) → Prop
  | mk (tt ta : Tok) (u : Option Value) : IJ dr a p T0 news m0 j (ovI m0 (tx (T0 ++ pieceT dr a p j)) tt (a + j) ta u) news
theorem IJ.of {dr : List (Nat × Nat)} {a : Nat} {p T0 : List Nat} {news : List (Addr × Obj)} {m0 m : Str → Option Value} {j : Nat} (tt ta : Tok) (u : Option Value) (h : m = ovI m0 (tx (T0 ++ pieceT dr a p j)) tt (a + j) ta u) : IJ dr a p T0 news m0 j m news := by
  subst h; exact .mk ..
theorem st_ex {a b : Str} {t : Tok} (h : a = b) : some (Value.str a t) = some (Value.str b t) := by rw [h]
theorem in_ex {a b : Int} {t : Tok} (h : a = b) : some (Value.int a t) = some (Value.int b t) := by rw [h]
set_option maxRecDepth 100000 in
set_option maxHeartbeats 8000000 in
theorem written_spec (w : World) (lp ld : Addr) (ps : List (List Nat)) (dr : List (Nat × Nat)) (sd br : Nat) (t1 t2 : Tok) (hps : ps.length ≤ 40) (hat : atOf ps ps.length ≤ 100) (hsd : sd < 16) (hbr : br ≤ 40) (hdr : 0 < dr.length) (hdr2 : dr.length ≤ 40) (hmn : ∀ p ∈ dr, p.2 ≤ 2) (hcp : ∀ p ∈ ps, ∀ c ∈ p, c < 1114112) :
    Tag KK RW (SpecG w 4 294 [.ref lp, .ref ld, .int sd t1, .int br t2] [] (fun _ news => TextsIn news lp ps ∧ DrawnIn news ld dr) (fun v news news' => ∃ l t t', v = .ref l ∧ news' = (l, { cls := .type "tuple", data := .seq #[.str (tx (wr sd br dr ps ps.length)) t, .int (placeOf sd br dr ps ps.length : Nat) t'] }) :: news)) := by
  k_fill
  unfold Tag SpecG
  intro A outer env A₀ base h₀ L m news s mean mg mb Q E hAt hh hd hP hret
  obtain ⟨B, F, X, N, T, hA, hf, hkk⟩ := hAt
  obtain ⟨⟨pv, pn, hpm, hpl, hpi⟩, ⟨dv, dn, hdm, hdl, hdi⟩⟩ := hP
  have KX := X.K
  have hsl := sizeLine_eq
  refine wpAny_call ?_
  k_dflt (refine' code_def (binds := [(Str.ofString "pieces", Value.ref lp), (Str.ofString "drawn", Value.ref ld), (Str.ofString "seed", Value.int sd t1), (Str.ofString "broken", Value.int br t2)]) ?k1 ?k2 ?k3 ?k4 ?k5 ?kA ?kF ?kK ?k6 ?k7 ?k8 ?k9 ?kB ?_ ?c2 ?c3 ?c4 ?c5; (case kA => first | assumption | exact Around.frames_deeper (by assumption)); (case kF => first | assumption | exact rfl); (case kK => first | assumption | exact rfl); (case k1 => k_asm); (case k2 => k_asm); (case k3 => k_asm); (case k4 => k_asm); (case k5 => k_asm); (case k6 => k_is); (case k7 => k_is); (case k8 => ktr_room); (case k9 => first | exact (by assumption : BindsTo _ _ _ _) | exact BindsTo.of_eq rfl); (case c5 => decide); (case kB => exact locs rfl); (case c2 => exact rfl); (case c3 => exact rfl); (case c4 => exact rfl); k_whole; intro g' L' h' FG' F' N' B' X' T'; (try dsimp only); (try k_fold))
  have XX := X.keeps (by assumption : Fr h₀ L _ m).keep
  generalize (s.toks + List.length _) = tk0
  walk_at "mine steps"
  k_dflt (((rename Fr _ _ _ _ => lF'); (with_unfolding_all refine' For_invVF lF' ?k1_902 ?k2_902 ?_; (case k1_902 => exact rfl); (case k2_902 => exact rfl); k_whole)))
  walk_at "mine steps"
  rename IsRange _ _ _ _ _ _ _ _ => hR
  rename Fr _ _ _ _ => FX
  rename News _ _ _ news => NX
  rw [hpl] at hR
  refine let_map FX ?_
  clear FX
  intro M0 FX
  k_dflt (refine iter_rangeJ (WJ sd br dr ps news) (n := ps.length) (by with_unfolding_all assumption) hR ?hs ?hz FX NX ?hj ?turn ?done)
  case hs => exact small_nat (by omega)
  case hz => exact range_nat _
  case hj =>
    have z1 : wr sd br dr ps 0 = [] := rfl
    have z2 : placeOf sd br dr ps 0 = 0 := if_neg (by omega)
    have z3 : atOf ps 0 = 0 := rfl
    refine WJ.of ?ha1 ?ha2 ?ha3 none none none ?ha4
    case ha4 =>
      rw [z1, z2, z3]
      exact Ov.eq (ks := ksW) (m0 := M0) (by walk_at "mine ov") (by walk_at "mine ov") (.cons (by rfl) (.cons (by rfl) (.cons (by rfl) (.cons (by rfl) (.cons (by rfl) (.cons (by rfl) .nil))))))
  case turn =>
    rintro i m₁ news₁ I it t h tk hik hoff ⟨tt, tp, ta, u1, u2, u3⟩ F₁ N₁
    have hp : ps[i]? = some ps[i] := List.getElem?_eq_getElem hik
    obtain ⟨tpv, hpv⟩ := hpi i _ hp
    have hf16 : foldOf sd i < 16 := Nat.mod_lt _ (by decide)
    have f1 : ((sd : Int) + 5 * (0 + (i : Int))).fmod 16 = ((foldOf sd i : Nat) : Int) := by
      rw [Int.fmod_eq_emod_of_nonneg _ (by decide)]; unfold foldOf; omega
    have f2 : (((sd : Int) + 5 * (0 + (i : Int))).fmod 16).fmod 4 = ((foldOf sd i % 4 : Nat) : Int) := by
      rw [f1, Int.fmod_eq_emod_of_nonneg _ (by decide)]; omega
    have f3 : (((sd : Int) + 5 * (0 + (i : Int))).fmod 16).fdiv 4 = ((foldOf sd i / 4 : Nat) : Int) := by
      rw [f1, Int.fdiv_eq_ediv_of_nonneg _ (by decide)]; omega
    have f2' : ((foldOf sd i : Nat) : Int).fmod 4 = ((foldOf sd i % 4 : Nat) : Int) := by
      rw [Int.fmod_eq_emod_of_nonneg _ (by decide)]; omega
    have f3' : ((foldOf sd i : Nat) : Int).fdiv 4 = ((foldOf sd i / 4 : Nat) : Int) := by
      rw [Int.fdiv_eq_ediv_of_nonneg _ (by decide)]; omega
    have f4 : ((sd : Int)).fmod 4 = ((sd % 4 : Nat) : Int) := by
      rw [Int.fmod_eq_emod_of_nonneg _ (by decide)]; omega
    have hT : (tx (wr sd br dr ps i)).length ≤ 1500 := by
      have := wr_le sd br dr ps i (by omega)
      have h2 : atOf ps i ≤ atOf ps ps.length := atOf_mono (by omega)
      rw [tx_length]; omega
    refine let_map F₁ ?_
    clear F₁
    intro M1 F₁
    with_reducible refine cut1 (GJ sd br dr ps i ((I, it) :: news)) F₁ ?_ ?_
    · have hcs : i = 0 ∨ (0 < i ∧ i ≠ br) ∨ (0 < i ∧ i = br ∧ foldOf sd i % 4 = 0) ∨ (0 < i ∧ i = br ∧ foldOf sd i % 4 ≠ 0) := by omega
      clear hdi hmn hcp hpi hat
      have hcs : i = 0 ∨ 0 < i := by omega
      rcases hcs with hc | hc
      · walk_at "mine steps"
        refine CutEnd.intro (by assumption) (by assumption) (GJ.of ?hb1 ?hb2 ?hb3 ?hb4)
        case hb4 =>
          subst hc
          rw [gap_0, place_ne (.inl rfl), List.append_nil]
          exact Ov.eq (ks := ksG) (m0 := M1) (by walk_at "mine ov") (by walk_at "mine ov") (.cons (by rfl) (.cons (by rfl) (.cons (by rfl) .nil)))
      · ((first | walk1 | (dsimp only; walk1)))
        (repeat' ((fail_if_success (with_reducible show wpAny _ _ (execs (_ :: _) _) _ _ _)); walk_at "mine noloop"; walk_at "mine one"))
        rename Fr _ _ _ _ => F2
        rename News _ _ _ ((I, it) :: news) => N2
        with_reducible refine cut2 (GJ1 sd br dr ps i ((I, it) :: news)) F2 ?_ ?_
        · walk_at "mine steps"
          have q1 : tx (wr sd br dr ps i) ++ Str.ofString "\\" ++ sel4 (foldOf sd i % 4) (Str.ofString "") (Str.ofString " ") (Str.ofString "\t") (Str.ofString " \t") = tx (wr sd br dr ps i ++ [92] ++ blanks (foldOf sd i % 4)) := by
            rw [sel_blanks, show Str.ofString "\\" = tx [92] from rfl, tx_append, tx_append]
          refine CutEnd.intro (by assumption) (news_tail (by assumption)) (GJ1.of ?hc1 ?hc2 ?hc3)
          case hc3 =>
            exact Ov.eq (ks := ksG1) (m0 := M1) (by walk_at "mine ov") (by walk_at "mine ov") (.cons (by exact st_ex q1) (.cons (by exact in_ex f1) .nil))
        · rintro h3 tk3 m3 news3 F3 N3 ⟨tt3, tf3⟩
          have hT3 : (tx (wr sd br dr ps i ++ [92] ++ blanks (foldOf sd i % 4))).length ≤ 1600 := by
            have := blanks_le (foldOf sd i % 4)
            rw [tx_length] at hT ⊢
            simp only [List.length_append, List.length_cons, List.length_nil]
            omega
          refine let_map F3 ?_
          clear F3
          intro M3 F3
          with_reducible refine cut1 (GJ2 sd br dr ps i ((I, it) :: news)) F3 ?_ ?_
          · have hcs : i ≠ br ∨ (i = br ∧ foldOf sd i % 4 = 0) ∨ (i = br ∧ foldOf sd i % 4 ≠ 0) := by omega
            rcases hcs with hc2 | ⟨hc2, hc3⟩ | ⟨hc2, hc3⟩
            · have hc4 : ((0 : Int) + (i : Int) == (br : Int)) = false := beq_eq_false_iff_ne.mpr (by omega)
              walk_at "mine steps"
              have qa : tx (wr sd br dr ps i ++ [92] ++ blanks (foldOf sd i % 4)) = tx (wr sd br dr ps i ++ [92] ++ blanks (foldOf sd i % 4) ++ (if i = br then [badS (sd % 4)] else [])) := by rw [if_neg hc2, List.append_nil]
              have qb : ((placeOf sd br dr ps i : Nat) : Int) = ((placeOf sd br dr ps (i + 1) : Nat) : Int) := by rw [place_ne (.inr hc2)]
              refine CutEnd.intro (by assumption) (by assumption) (GJ2.of ?hd1 ?hd2 ?hd3)
              case hd3 => exact Ov.eq (ks := ksG2) (m0 := M3) (by walk_at "mine ov") (by walk_at "mine ov") (.cons (by exact st_ex qa) (.cons (by exact in_ex qb) .nil))
            · have hc4 : ((0 : Int) + (i : Int) == (br : Int)) = true := beq_iff_eq.mpr (by omega)
              have hc5 : (((foldOf sd i : Nat) : Int).fmod 4 == 0) = true := by rw [f2', beq_iff_eq]; omega
              walk_at "mine steps"
              have q2 : tx (wr sd br dr ps i ++ [92] ++ blanks (foldOf sd i % 4)) ++ sel4 (sd % 4) (Str.ofString "x") (Str.ofString "(") (Str.ofString "#") (Str.ofString "\xe9") = tx (wr sd br dr ps i ++ [92] ++ blanks (foldOf sd i % 4) ++ (if i = br then [badS (sd % 4)] else [])) := by
                rw [sel_bad, tx_append, if_pos hc2]
              have qb : (((tx (wr sd br dr ps i ++ [92] ++ blanks (foldOf sd i % 4))).length : Nat) : Int) + 1 = ((placeOf sd br dr ps (i + 1) : Nat) : Int) := by rw [place_eq hc2 hc, if_pos hc3]; rfl
              refine CutEnd.intro (by assumption) (news_tail (by assumption)) (GJ2.of ?he1 ?he2 ?he3)
              case he3 => exact Ov.eq (ks := ksG2) (m0 := M3) (by walk_at "mine ov") (by walk_at "mine ov") (.cons (by exact st_ex q2) (.cons (by exact in_ex qb) .nil))
            · have hc4 : ((0 : Int) + (i : Int) == (br : Int)) = true := beq_iff_eq.mpr (by omega)
              have hc5 : (((foldOf sd i : Nat) : Int).fmod 4 == 0) = false := by rw [f2']; exact beq_eq_false_iff_ne.mpr (by omega)
              walk_at "mine steps"
              have q2 : tx (wr sd br dr ps i ++ [92] ++ blanks (foldOf sd i % 4)) ++ sel4 (sd % 4) (Str.ofString "x") (Str.ofString "(") (Str.ofString "#") (Str.ofString "\xe9") = tx (wr sd br dr ps i ++ [92] ++ blanks (foldOf sd i % 4) ++ (if i = br then [badS (sd % 4)] else [])) := by
                rw [sel_bad, tx_append, if_pos hc2]
              have qb : (((tx (wr sd br dr ps i ++ [92] ++ blanks (foldOf sd i % 4))).length : Nat) : Int) + 0 = ((placeOf sd br dr ps (i + 1) : Nat) : Int) := by rw [place_eq hc2 hc, if_neg hc3]; rfl
              refine CutEnd.intro (by assumption) (news_tail (by assumption)) (GJ2.of ?hf1 ?hf2 ?hf3)
              case hf3 => exact Ov.eq (ks := ksG2) (m0 := M3) (by walk_at "mine ov") (by walk_at "mine ov") (.cons (by exact st_ex q2) (.cons (by exact in_ex qb) .nil))
          · rintro h4 tk4 m4 news4 F4 N4 ⟨tt4, tp4⟩
            have hT4 : (tx (wr sd br dr ps i ++ [92] ++ blanks (foldOf sd i % 4) ++ (if i = br then [badS (sd % 4)] else []))).length ≤ 1700 := by
              rw [tx_length] at hT3 ⊢
              rw [List.length_append]
              split <;> simp only [List.length_cons, List.length_nil] <;> omega
            walk_at "mine steps"
            have q3 : tx (wr sd br dr ps i ++ [92] ++ blanks (foldOf sd i % 4) ++ (if i = br then [badS (sd % 4)] else [])) ++ Str.ofString "\n" ++ sel4 (foldOf sd i / 4) (Str.ofString "") (Str.ofString " ") (Str.ofString "\n") (Str.ofString "\t\n  ") = tx (wr sd br dr ps i ++ gap sd br i) := by
              rw [sel_whites, show Str.ofString "\n" = tx [10] from rfl, tx_append, tx_append, gap_pos hc]
              simp only [List.append_assoc]
            refine CutEnd.intro (by assumption) (news_tail (by assumption)) (GJ.of ?hg1 ?hg2 ?hg3 ?hg4)
            case hg4 =>
              exact Ov.eq (ks := ksG) (m0 := M1) (by walk_at "mine ov") (by walk_at "mine ov") (.cons (by exact st_ex q3) (.cons (by rfl) (.cons (by rfl) .nil)))
    · rintro h1 tk1 m1 news1 F1 N1 ⟨tt', tp', u'⟩
      have hk1 : (0 : Int) + (i : Int) = (i : Int) := Int.zero_add _
      have hT5 : (wr sd br dr ps i ++ gap sd br i).length ≤ 1600 := by
        have := gap_le sd br i
        rw [tx_length] at hT
        rw [List.length_append]; omega
      have hpl2 : ps[i].length ≤ 100 := by
        have h1 := atOf_succ hp
        have h2 : atOf ps (i + 1) ≤ atOf ps ps.length := atOf_mono (by omega)
        omega
      have hpl3 : (tx ps[i]).length = ps[i].length := tx_length _
      walk_at "mine steps"
      k_dflt (((rename Fr _ _ _ _ => lF'); (with_unfolding_all refine' For_invVF lF' ?k1_903 ?k2_903 ?_; (case k1_903 => exact rfl); (case k2_903 => exact rfl); k_whole)))
      walk_at "mine steps"
      rename IsRange _ _ _ _ _ _ _ _ => hR2
      rename Fr _ _ _ _ => FX2
      rename News _ _ _ ((I, it) :: news) => NX2
      rw [hpl3] at hR2
      refine let_map FX2 ?_
      clear FX2
      intro M2 FX2
      k_dflt (refine iter_rangeJ (IJ dr (atOf ps i) ps[i] (wr sd br dr ps i ++ gap sd br i) ((I, it) :: news)) (n := ps[i].length) (by with_unfolding_all assumption) hR2 ?hs2 ?hz2 FX2 NX2 ?hj2 ?turn2 ?done2)
      case hs2 => exact small_nat (by omega)
      case hz2 => exact range_nat _
      case hj2 =>
        refine IJ.of ?hk1 ?hk2 ?hk4 ?hk3
        case hk3 =>
          have z1 : pieceT dr (atOf ps i) ps[i] 0 = [] := rfl
          rw [z1, List.append_nil]
          exact Ov.eq (ks := ksI) (m0 := M2) (by walk_at "mine ov") (by walk_at "mine ov") (.cons (by rfl) (.cons (by rfl) (.cons (by rfl) .nil)))
      case turn2 =>
        rintro j m₂ news₂ I2 it2 t2 h tk hjk hoff2 ⟨ttj, taj, uj⟩ F₂ N₂
        have hsg : (sgn dr (atOf ps i) ps[i] j).length ≤ 10 := spell_le _ _ _
        have hdlt : (atOf ps i + j) % dr.length < dr.length := Nat.mod_lt _ hdr
        have hdg : dr[(atOf ps i + j) % dr.length]? = some dr[(atOf ps i + j) % dr.length] := List.getElem?_eq_getElem hdlt
        obtain ⟨r, rn, tr, tr', hr1, hr2⟩ := hdi _ _ hdg
        have hr3 : ([Value.str ⟨#[(dr[(atOf ps i + j) % dr.length]).1]⟩ tr, Value.int ((dr[(atOf ps i + j) % dr.length]).2 : Int) tr'] : List Value)[1]? = some (Value.int ((dr[(atOf ps i + j) % dr.length]).2 : Int) tr') := rfl
        have hone : (1 : Int) = ((1 : Nat) : Int) := rfl
        have hcj : (tx ps[i]).cps[((0 : Int) + (j : Int)).toNat]? = some ps[i][j] := by
          rw [Int.zero_add, Int.toNat_natCast]
          show (ps[i].toArray)[j]? = _
          simp
        have hmod : (((atOf ps i + j : Nat) : Int)).fmod (dv.length : Int) = (((atOf ps i + j) % dr.length : Nat) : Int) := by
          rw [hdl, Int.fmod_eq_emod_of_nonneg _ (by omega)]; rfl
        have hdv0 : 0 < dv.length := by omega
        have hTj : (tx (wr sd br dr ps i ++ gap sd br i ++ pieceT dr (atOf ps i) ps[i] j)).length ≤ 2700 := by
          have := pieceT_le dr (atOf ps i) ps[i] j
          rw [tx_length, List.length_append]; omega
        have hchr : ps[i][j] < 1114112 := hcp _ (List.getElem_mem _) _ (List.getElem_mem _)
        have hman : (dr[(atOf ps i + j) % dr.length]).2 ≤ 2 := hmn _ (List.getElem_mem _)
        walk_at "mine steps"
        k_dflt (refine' call_specG (spelled_spec w _ _ _ _ _ hchr hman) ?B ?F ?X ?N ?T ?hA ?hf ?hk ?hh ?hd trivial ?_; (((case B => k_asm); (case F => k_asm); (case X => assumption); (case N => k_asm); (case T => k_asm); (case hA => first | exact Around.frames_deeper (by assumption) | exact Around.frames_deeper (Around.frames_deeper (by assumption))); (case hf => exact rfl); (case hk => exact rfl); (case hh => with_unfolding_all assumption); (case hd => first | exact dp1 (by assumption) rfl | exact dp0 (by assumption) rfl | (simp only [depth_under_make, depth_under_kw, depth_in1, depth_deeper, depth_caller] at *; omega)))); k_whole)
        rintro v news' h1 tk1 ⟨⟨tsp, rfl⟩, rfl⟩ F1 N1
        have hj0 : ((0 : Int) + (j : Int) == 0) = (j == 0) := by rw [Bool.eq_iff_iff, beq_iff_eq, beq_iff_eq]; omega
        have hspl : (tx (spell ps[i][j] (dr[(atOf ps i + j) % dr.length]).2 ((0 : Int) + (j : Int) == 0))).length ≤ 10 := by rw [tx_length]; exact spell_le _ _ _
        have hsq : tx (wr sd br dr ps i ++ gap sd br i ++ pieceT dr (atOf ps i) ps[i] j) ++ tx (spell ps[i][j] (dr[(atOf ps i + j) % dr.length]).2 ((0 : Int) + (j : Int) == 0)) = tx (wr sd br dr ps i ++ gap sd br i ++ pieceT dr (atOf ps i) ps[i] (j + 1)) := by
          rw [tx_append, pieceT_succ, hj0]
          unfold sgn
          rw [List.getD_eq_getElem?_getD, List.getElem?_eq_getElem hjk, List.getD_eq_getElem?_getD, hdg]
          simp only [Option.getD_some, List.append_assoc]
        walk_at "mine steps"
        refine unr_next (by assumption) (by assumption) hoff2 (IJ.of ?hm1 ?hm2 ?hm3 ?hm4)
        case hm4 =>
          exact Ov.eq (ks := ksI) (m0 := M2) (by walk_at "mine ov") (by walk_at "mine ov") (.cons (by exact st_ex hsq) (.cons (by rfl) (.cons (by rfl) .nil)))
      case done2 =>
        rintro m₂ news₂ h tk ⟨ttj, taj, uj⟩ F₂ N₂
        have hw : tx (wr sd br dr ps i ++ gap sd br i ++ pieceT dr (atOf ps i) ps[i] ps[i].length) = tx (wr sd br dr ps (i + 1)) := by
          rw [wr_succ]
          unfold segT
          rw [List.getD_eq_getElem?_getD, hp]
          simp only [Option.getD_some, List.append_assoc]
        have hat2 : (((atOf ps i + ps[i].length : Nat)) : Int) = ((atOf ps (i + 1) : Nat) : Int) := by rw [atOf_succ hp]
        walk_at "mine steps"
        refine unr_next (by assumption) (by assumption) hoff (WJ.of ?hn1 ?hn2 ?hn3 ?hn4 ?hn5 ?hn6 ?hn7)
        case hn7 =>
          exact Ov.eq (ks := ksW) (m0 := M0) (by walk_at "mine ov") (by walk_at "mine ov") (.cons (by exact st_ex hw) (.cons (by rfl) (.cons (by exact in_ex hat2) (.cons (by rfl) (.cons (by rfl) (.cons (by rfl) .nil))))))
  case done =>
    rintro m₁ news₁ h tk ⟨tt, tp, ta, u1, u2, u3⟩ F₁ N₁
    walk_at "mine steps"
    exact hret _ _ _ _ (by assumption) (by assumption) ⟨_, _, _, rfl, rfl⟩
end
-- Wk15
section
noncomputable def signOf (j : Nat) : Nat := match j with | 0 => 97 | 1 => 34 | 2 => 39 | 3 => 32 | 4 => 92 | 5 => 9 | 6 => 10 | 7 => 13 | 8 => 127 | 9 => 233 | _ => 128512
noncomputable def uOf (x : Int) : Nat := if 0 ≤ x then (2 * x).toNat else (-2 * x - 1).toNat
noncomputable def drawnOf (x : Int) : Nat × Nat := (if uOf x % 12 < 11 then signOf (uOf x % 12) else 2 + uOf x / 12 % 55294, uOf x / 12 % 3)
noncomputable def drawn5 : List (Nat × Nat) := [(97, 0), (34, 0), (32, 0), (10, 0), (98, 0)]
/-- the items of a drawn list, their objects in a ledger -/
noncomputable def ItemsIn (inner : List (Addr × Obj)) (vs : List Value) (dr : List (Nat × Nat)) : Prop := vs.length = dr.length ∧ ∀ (i : Nat) (p : Nat × Nat), dr[i]? = some p → ∃ (r : Addr) (n' : Nat) (t t' : Tok), vs[i]? = some (Value.ref r) ∧ (r, W.listOf [Value.str ⟨#[p.1]⟩ t, Value.int (p.2 : Int) t'].toArray n') ∈ inner
theorem ItemsIn.snoc {inner : List (Addr × Obj)} {vs : List Value} {dr : List (Nat × Nat)} (h : ItemsIn inner vs dr) {r : Addr} {n' : Nat} {t t' : Tok} {p : Nat × Nat} : ItemsIn ((r, W.listOf [Value.str ⟨#[p.1]⟩ t, Value.int (p.2 : Int) t'].toArray n') :: inner) (vs ++ [Value.ref r]) (dr ++ [p]) := by
  obtain ⟨hl, hi⟩ := h
  refine ⟨by simp [hl], fun i q hq => ?_⟩
  by_cases e : i < dr.length
  · rw [List.getElem?_append_left e] at hq
    obtain ⟨r', n2, t2, t3, h1, h2⟩ := hi i q hq
    exact ⟨r', n2, t2, t3, by rw [List.getElem?_append_left (by omega)]; exact h1, .tail _ h2⟩
  · have h2 : i = dr.length := by
      have := (List.getElem?_eq_some_iff.mp hq).1
      simp at this; omega
    subst h2
    simp at hq
    subst hq
    exact ⟨r, n', t, t', by rw [← hl]; simp, .head _⟩
noncomputable abbrev signsL (t : Nat) : List Value := [Value.str (Str.ofString "a") t, .str (Str.ofString "\"") (t + 1), .str (Str.ofString "'") (t + 2), .str (Str.ofString " ") (t + 3), .str (Str.ofString "\\") (t + 4), .str (Str.ofString "\t") (t + 5), .str (Str.ofString "\n") (t + 6), .str (Str.ofString "\r") (t + 8), .str (Str.ofString "\x7f") (t + 10), .str (Str.ofString "\xe9") (t + 12), .str { cps := #[Int.toNat 128512] } (t + 14)]
theorem sign11 {j : Nat} (h : j < 11) {t0 : Nat} : ∃ t, (signsL t0)[j]? = some (Value.str ⟨#[signOf j]⟩ t) := by
  rw [show signsL t0 = (List.range 11).map (fun j => Value.str ⟨#[signOf j]⟩ (t0 + [0, 1, 2, 3, 4, 5, 6, 8, 10, 12, 14].getD j 0)) from rfl, List.getElem?_map, List.getElem?_range h]
  exact ⟨_, rfl⟩
theorem ItemsIn.nil {inner : List (Addr × Obj)} : ItemsIn inner [] [] := ⟨rfl, fun i p h => by cases h⟩
theorem ItemsIn.cons {inner : List (Addr × Obj)} {vs : List Value} {dr : List (Nat × Nat)} {p : Nat × Nat} {r : Addr} {n : Nat} {t t' : Tok} (m : (r, W.listOf [Value.str ⟨#[p.1]⟩ t, Value.int (p.2 : Int) t'].toArray n) ∈ inner) (h : ItemsIn inner vs dr) : ItemsIn inner (.ref r :: vs) (p :: dr) := by
  refine ⟨congrArg (· + 1) h.1, fun i q hq => ?_⟩
  cases i with
  | zero => cases hq; exact ⟨r, n, t, t', rfl, m⟩
  | succ i => exact h.2 i q hq
inductive DJ (xs : List Int) (sl : Addr × Obj) (ld : Addr) (nb : List (Addr × Obj)) (m0 : Str → Option Value) (i : Nat) : (Str → Option Value) → List (Addr × Obj) → Prop
  | mk (vs : List Value) (n : Nat) (inner : List (Addr × Obj)) (u1 u2 u3 : Option Value) (h1 : ∀ p ∈ inner, p.1 ≠ ld) (h2 : ItemsIn inner vs (drawn5 ++ (xs.take i).map drawnOf)) :
    DJ xs sl ld nb m0 i (fun y => if y = Str.ofString "x" then u1 else if y = Str.ofString "u" then u2 else if y = Str.ofString "q" then u3 else m0 y) (sl :: (ld, W.listOf vs.toArray n) :: (inner ++ nb))
noncomputable abbrev ksD : List Str := [Str.ofString "x", Str.ofString "u", Str.ofString "q"]
theorem DJ.of {xs : List Int} {sl : Addr × Obj} {ld : Addr} {nb : List (Addr × Obj)} {m0 m₁ : Str → Option Value} {i : Nat} {vs : List Value} {n : Nat} {inner : List (Addr × Obj)} (h : Ov ksD m₁ m0) (h1 : ∀ p ∈ inner, p.1 ≠ ld) (h2 : ItemsIn inner vs (drawn5 ++ (xs.take i).map drawnOf)) :
    DJ xs sl ld nb m0 i m₁ (sl :: (ld, W.listOf vs.toArray n) :: (inner ++ nb)) := by
  have hm : m₁ = fun y => if y = Str.ofString "x" then look m₁ (Str.ofString "x") else if y = Str.ofString "u" then look m₁ (Str.ofString "u") else if y = Str.ofString "q" then look m₁ (Str.ofString "q") else m0 y :=
    Ov.eq h (by walk_at "mine ov") (.cons rfl (.cons rfl (.cons rfl .nil)))
  exact hm ▸ .mk vs n inner _ _ _ h1 h2
/-- u stands for x without a sign -/
inductive UJ (x : Int) (news : List (Addr × Obj)) (m : Str → Option Value) : (Str → Option Value) → List (Addr × Obj) → Prop
  | mk (t : Tok) : UJ x news m (fun y => if y = Str.ofString "u" then some (.int (uOf x : Nat) t) else m y) news
theorem UJ.of {x a : Int} {news : List (Addr × Obj)} {m : Str → Option Value} {t : Tok} (h : a = (uOf x : Nat)) : UJ x news m (fun y => if y = Str.ofString "u" then some (.int a t) else m y) news := h ▸ .mk t
theorem fm_nat (n : Nat) : (n : Int).fmod 12 = ((n % 12 : Nat) : Int) := by rw [Int.fmod_eq_emod_of_nonneg _ (by decide)]; rfl
theorem fd_nat (n : Nat) : (n : Int).fdiv 12 = ((n / 12 : Nat) : Int) := by rw [Int.fdiv_eq_ediv_of_nonneg _ (by decide)]; rfl
theorem drawn_lt {x : Int} (h : uOf x % 12 < 11) : signOf (uOf x % 12) = (drawnOf x).1 := by unfold drawnOf; rw [if_pos h]
theorem drawn_ge {x : Int} (h : ¬ uOf x % 12 < 11) : (2 + (((uOf x : Nat) : Int).fdiv 12).fmod 55294).toNat = (drawnOf x).1 := by
  rw [fd_nat, Int.fmod_eq_emod_of_nonneg _ (by decide)]; unfold drawnOf; rw [if_neg h]; omega
theorem drawn_snd {x : Int} : (((uOf x : Nat) : Int).fdiv 12).fmod 3 = ((drawnOf x).2 : Int) := by rw [fd_nat, Int.fmod_eq_emod_of_nonneg _ (by decide)]; unfold drawnOf; omega
theorem allLt_mem {d : Addr} : ∀ {l : List (Addr × Obj)}, AllLt d l → ∀ p ∈ l, p.1 < d
  | [], _, _, h => nomatch h
  | _ :: _, x, p, h => by
    rcases List.mem_cons.mp h with rfl | h
    · exact x.1
    · exact allLt_mem x.2 p h
theorem dj_end {g h' : Heap} {L I D ld r : Addr} {s₁ : Shared} {it : Obj} {ws vs1 : List Value} {n1 tk' cc : Nat} {mm : Int} {inner nb : List (Addr × Obj)} {ta tb : Tok} {m' m0 : Str → Option Value} {xs : List Int} {i : Nat} {x : Int}
    (F' : Fr g L h' m') (N' : News g L h' ((r, W.listOf #[Value.str ⟨#[cc]⟩ ta, Value.int mm tb] 0) :: (I, it) :: (D, W.listOf ws.toArray 0) :: (ld, W.listOf (vs1.toArray.push (Value.ref r)) (n1 + 1)) :: (inner ++ nb)))
    (hoff : ∀ p ∈ (D, W.listOf ws.toArray 0) :: (ld, W.listOf vs1.toArray n1) :: (inner ++ nb), p.1 ≠ I) (hin : ∀ p ∈ inner, p.1 ≠ ld) (hit : ItemsIn inner vs1 (drawn5 ++ (xs.take i).map drawnOf)) (hxi : xs[i]? = some x)
    (hcc : cc = (drawnOf x).1) (hmm : mm = ((drawnOf x).2 : Int)) (hrl : r ≠ ld) (hrI : r ≠ I) (hm : Ov ksD m' m0) :
    UnrEnd g L s₁ I it (fun m n => (D, W.listOf ws.toArray 0) ∈ n ∧ DJ xs (D, W.listOf ws.toArray 0) ld nb m0 (i + 1) m n) { s₁ with heap := h', toks := tk' } := by
  subst hcc hmm
  refine ⟨h', tk', m', (D, W.listOf ws.toArray 0) :: (ld, W.listOf (vs1 ++ [Value.ref r]).toArray (n1 + 1)) :: (((r, W.listOf [Value.str ⟨#[(drawnOf x).1]⟩ ta, Value.int ((drawnOf x).2 : Int) tb].toArray 0) :: inner) ++ nb), rfl, F', news_sub N' ?_, ?_, .head _, DJ.of (inner := (r, _) :: inner) hm ?_ ?_⟩
  · intro p hp
    have e : (vs1 ++ [Value.ref r]).toArray = vs1.toArray.push (Value.ref r) := by simp
    rw [e] at hp
    simp only [List.mem_cons, List.mem_append, List.cons_append] at hp ⊢
    rcases hp with hp | hp | hp | hp | hp | hp
    · exact .inr (.inl hp)
    · exact .inr (.inr (.inl hp))
    · exact .inr (.inr (.inr (.inl hp)))
    · exact .inl hp
    · exact .inr (.inr (.inr (.inr (.inl hp))))
    · exact .inr (.inr (.inr (.inr (.inr hp))))
  · intro p hp
    simp only [List.mem_cons, List.mem_append, List.cons_append] at hp
    rcases hp with rfl | rfl | rfl | hp | hp
    · exact hoff _ (.head _)
    · exact hoff (ld, W.listOf vs1.toArray n1) (.tail _ (.head _))
    · exact hrI
    · exact hoff p (.tail _ (.tail _ (List.mem_append_left _ hp)))
    · exact hoff p (.tail _ (.tail _ (List.mem_append_right _ hp)))
  · intro p hp
    rcases List.mem_cons.mp hp with rfl | hp
    · exact hrl
    · exact hin p hp
  · rw [List.take_add_one, hxi, Option.toList_some, List.map_append, ← List.append_assoc]
    exact hit.snoc
set_option maxRecDepth 100000 in
set_option maxHeartbeats 8000000 in
theorem drawn_spec (w : World) (sc : Addr) (vs : List Value) (ns : List Int) (hi : IntsAre vs ns) (hlen : ns.length ≤ 63) :
    Tag KK RW (SpecG w 2 273 [.ref sc] [] (fun h _ => h.IsList sc vs.toArray) (fun v news news' => ∃ ld tl, v = .ref ld ∧ news' = tl ++ news ∧ DrawnIn tl ld (drawn5 ++ ((ns.drop 1).take 12).map drawnOf))) := by
  k_fill
  unfold Tag SpecG
  intro A outer env A₀ base h₀ L m news s mean mg mb Q E hAt hh hd hP hret
  obtain ⟨B, F, X, N, T, hA, hf, hkk⟩ := hAt
  have KX := X.K
  have hsl := sizeLine_eq
  refine wpAny_call ?_
  k_dflt (refine' code_def (binds := [(Str.ofString "script", Value.ref sc)]) ?k1 ?k2 ?k3 ?k4 ?k5 ?kA ?kF ?kK ?k6 ?k7 ?k8 ?k9 ?kB ?_ ?c2 ?c3 ?c4 ?c5; (case kA => first | assumption | exact Around.frames_deeper (by assumption)); (case kF => first | assumption | exact rfl); (case kK => first | assumption | exact rfl); (case k1 => k_asm); (case k2 => k_asm); (case k3 => k_asm); (case k4 => k_asm); (case k5 => k_asm); (case k6 => k_is); (case k7 => k_is); (case k8 => ktr_room); (case k9 => first | exact (by assumption : BindsTo _ _ _ _) | exact BindsTo.of_eq rfl); (case c5 => decide); (case kB => exact locs rfl); (case c2 => exact rfl); (case c3 => exact rfl); (case c4 => exact rfl); k_whole; intro g' L' h' FG' F' N' B' X' T'; (try dsimp only); (try k_fold))
  have XX := X.keeps (by assumption : Fr h₀ L _ m).keep
  rename Fr h₀ L _ m => FGx
  have hPl := hP.at fun o e => FGx.keep _ o e
  generalize (s.toks + List.length _) = tk0
  walk_at "mine steps"
  k_dflt (((rename Fr _ _ _ _ => lF'); (with_unfolding_all refine' For_invVF lF' ?k1_904 ?k2_904 ?_; (case k1_904 => exact rfl); (case k2_904 => exact rfl); k_whole)))
  walk_at "mine steps"
  rename IntsAre _ (List.take _ _) => hI2
  rename Fr _ _ _ _ => FX
  rename News _ _ _ (_ :: _) => NX
  generalize hxs : List.take (min 13 ns.length - 1) (List.drop 1 ns) = xs at hI2
  have hxl : xs.length ≤ 12 := by rw [← hxs, List.length_take, List.length_drop]; omega
  rename_i ls _ _ tkk la _ _ lb _ _ lc _ _ lld _ _ le _ _ ld _ lt1 _ D ws _ _ _ lt2
  have hnl : ∀ p ∈ news, p.1 < ld := allLt_mem lt1.2.2.2.2.2.2
  k_dflt (refine iter_listJ (DJ xs (D, W.listOf ws.toArray 0) ld ((ls, W.listOf (signsL tk0).toArray 0) :: news)) (by with_unfolding_all assumption) FX NX (.head _) rfl rfl ?hj ?turn ?done)
  case hj =>
    refine' DJ.of (vs := [_, _, _, _, _]) (n := 0) (inner := [(le, _), (lld, _), (lc, _), (lb, _), (la, _)]) ?o ?h1 ?h2
    case o => walk_at "mine ov"
    case h1 =>
      intro p hp
      simp only [List.mem_cons, List.not_mem_nil, or_false] at hp
      rcases hp with rfl | rfl | rfl | rfl | rfl <;> k_ne
    case h2 => exact .cons (by k_mem) (.cons (by k_mem) (.cons (by k_mem) (.cons (by k_mem) (.cons (by k_mem) .nil))))
  case turn =>
    rintro i v m₁ news₁ I it h tk hv hoff ⟨vs1, n1, inner, u1, u2, u3, hin, hitems⟩ F₁ N₁
    have hix : xs[i]? = some (xs.getD i 0) ∧ ∃ t, v = .int (xs.getD i 0) t := by
      obtain ⟨n, t, e, hn⟩ := hI2.at i v hv
      exact ⟨by rw [List.getD_eq_getElem?_getD, hn]; rfl, t, by rw [List.getD_eq_getElem?_getD, hn]; exact e⟩
    obtain ⟨hxi, tx1, rfl⟩ := hix
    generalize xs.getD i 0 = x at hxi F₁
    have hdne : ld ≠ I := hoff (ld, _) (.tail _ (.head _))
    have hmem : (ls, W.listOf (signsL tk0).toArray 0) ∈ inner ++ (ls, W.listOf (signsL tk0).toArray 0) :: news := List.mem_append_right _ (.head _)
    have hrest : ∀ p ∈ inner ++ (ls, W.listOf (signsL tk0).toArray 0) :: news, p.1 ≠ ld := by
      intro p hp
      rcases List.mem_append.mp hp with hp | hp
      · exact hin p hp
      · rcases List.mem_cons.mp hp with rfl | hp
        · k_ne
        · have := hnl p hp
          intro e
          rw [e] at this
          exact absurd this (Nat.lt_irrefl _)
    have hvl : vs1.toArray.size ≤ sizeLine := by
      have h1 := hitems.1
      have h2 : i < ws.length := (List.getElem?_eq_some_iff.mp hv).1
      have h3 := hI2.length
      rw [List.size_toArray, h1, List.length_append, List.length_map, List.length_take, hsl]
      have : drawn5.length = 5 := rfl
      omega
    with_reducible refine cut1 (UJ x ((I, it) :: (D, W.listOf ws.toArray 0) :: (ld, W.listOf vs1.toArray n1) :: (inner ++ (ls, W.listOf (signsL tk0).toArray 0) :: news))) F₁ ?_ ?_
    · by_cases hx0 : 0 ≤ x
      · walk_at "mine steps"
        exact CutEnd.intro (by assumption) (by assumption) (UJ.of (by unfold uOf; rw [if_pos hx0]; omega))
      · walk_at "mine steps"
        exact CutEnd.intro (by assumption) (by assumption) (UJ.of (by unfold uOf; rw [if_neg hx0]; omega))
    rintro h2 tk2 m2 news2 F2 N2 ⟨tu⟩
    have hm := fm_nat (uOf x)
    by_cases hlt : uOf x % 12 < 11
    · obtain ⟨tsg, hsg⟩ := sign11 (t0 := tk0) hlt
      walk_at "mine steps"
      exact dj_end (by assumption) (by assumption) hoff hin hitems hxi (drawn_lt hlt) drawn_snd (by k_ne) (by k_ne) (by walk_at "mine ov")
    · walk_at "mine steps"
      exact dj_end (by assumption) (by assumption) hoff hin hitems hxi (drawn_ge hlt) drawn_snd (by k_ne) (by k_ne) (by walk_at "mine ov")
  case done =>
    rintro m₁ news₁ h tk ⟨vs1, n1, inner, u1, u2, u3, hin, hitems⟩ F₁ N₁
    walk_at "mine steps"
    have hdr : (xs.take ws.length) = (ns.drop 1).take 12 := by
      have h3 := hI2.length
      rw [h3, List.take_length, ← hxs]
      by_cases hc : 13 ≤ ns.length
      · rw [show min 13 ns.length - 1 = 12 by omega]
      · rw [List.take_of_length_le (by rw [List.length_drop]; omega), List.take_of_length_le (by rw [List.length_drop]; omega)]
    rw [hdr] at hitems
    obtain ⟨q1, q2⟩ := hitems
    refine hret _ _ _ _ (by assumption) (by assumption) ⟨ld, (D, W.listOf ws.toArray 0) :: (ld, W.listOf vs1.toArray n1) :: (inner ++ [(ls, W.listOf (signsL tk0).toArray 0)]), rfl, by simp, vs1, n1, .tail _ (.head _), q1, fun i p hp => ?_⟩
    obtain ⟨r, n', t, t', h1, h2⟩ := q2 i p hp
    exact ⟨r, n', t, t', h1, .tail _ (.tail _ (List.mem_append_left _ h2))⟩
end
-- Wk16
section
/-- what stands at a piece's head -/
inductive Hd where
  | num (n : Int)
  | gt
noncomputable def HdV : Hd → Value → Prop
  | .num n, v => ∃ t, v = .int n t
  | .gt, v => ∃ t, v = .str (Str.ofString ">") t
noncomputable def chunksF (col : Nat) : Nat → List Nat → List (List Nat)
  | 0, T => [T]
  | k + 1, T => if T.length ≤ col then [T] else T.take col :: chunksF col k (T.drop col)
noncomputable def headed : Hd → List (List Nat) → List (Hd × List Nat)
  | _, [] => []
  | h, p :: r => (h, p) :: headed .gt r
/-- what _split_line lays down -/
noncomputable def splitL (col k : Nat) (h : Hd) (T : List Nat) : List (Hd × List Nat) := match h with
  | .num 0 => [(.num 0, T)]
  | h => headed h (chunksF col k T)
/-- tuples of a head and a piece, their objects in a ledger -/
noncomputable def TupsIn (led : List (Addr × Obj)) (vs : List Value) (ps : List (Hd × List Nat)) : Prop := vs.length = ps.length ∧ ∀ (i : Nat) (p : Hd × List Nat), ps[i]? = some p → ∃ (r : Addr) (hv : Value) (t : Tok), vs[i]? = some (Value.ref r) ∧ (r, ({ cls := .type "tuple", data := .seq #[hv, Value.str (tx p.2) t] } : Obj)) ∈ led ∧ HdV p.1 hv
noncomputable abbrev selfD (w : World) (col : Nat) (a : Nat → Tok) : Obj := dictOf [{ hash := PyData.keyHash w.params (Str.ofString "_tabsize"), key := Value.str (Str.ofString "_tabsize") (a 0), val := Value.int 8 271 }, { hash := PyData.keyHash w.params (Str.ofString "_wrapcolumn"), key := Value.str (Str.ofString "_wrapcolumn") (a 1), val := Value.int (col : Int) (a 2) },
  { hash := PyData.keyHash w.params (Str.ofString "_linejunk"), key := Value.str (Str.ofString "_linejunk") (a 3), val := Value.none }, { hash := PyData.keyHash w.params (Str.ofString "_charjunk"), key := Value.str (Str.ofString "_charjunk") (a 4), val := Value.ref 58 }] 4
noncomputable def SplitP (w : World) (col : Nat) (x l : Addr) (its : List Value) (n : Nat) (news : List (Addr × Obj)) : Prop :=
  ∃ (dx : Addr) (a : Nat → Tok) (rest : List (Addr × Obj)), news = (l, W.listOf its.toArray n) :: (x, instObj 142 dx) :: (dx, selfD w col a) :: rest ∧ x ≠ l ∧ dx ≠ l ∧ ∀ p ∈ rest, p.1 ≠ l
noncomputable def SplitR (l : Addr) (its : List Value) (ps : List (Hd × List Nat)) (v : Value) (news news' : List (Addr × Obj)) : Prop :=
  v = .none ∧ ∃ (vs : List Value) (n' : Nat) (tl : List (Addr × Obj)), news' = (l, W.listOf (its ++ vs).toArray n') :: (tl ++ news.tail) ∧ (∀ p ∈ tl, p.1 ≠ l) ∧ TupsIn tl vs ps
noncomputable def KeepJ (news : List (Addr × Obj)) (m m' : Str → Option Value) (news' : List (Addr × Obj)) : Prop := m' = m ∧ news' = news
inductive SJ (col : Nat) (news : List (Addr × Obj)) (m0 : Str → Option Value) : Nat → (Str → Option Value) → List (Addr × Obj) → Prop
  | mk (j : Nat) (ti tn : Tok) (h : j ≤ col) : SJ col news m0 (col - j) (fun y => if y = Str.ofString "i" then some (.int (j : Int) ti) else if y = Str.ofString "n" then some (.int (j : Int) tn) else m0 y) news
theorem SJ.of {col j : Nat} {news : List (Addr × Obj)} {m0 m₁ : Str → Option Value} {ti tn : Tok} (h : j ≤ col) (o : Ov [Str.ofString "i", Str.ofString "n"] m₁ m0) (e1 : look m₁ (Str.ofString "i") = some (.int (j : Int) ti)) (e2 : look m₁ (Str.ofString "n") = some (.int (j : Int) tn)) : SJ col news m0 (col - j) m₁ news := by
  have hm : m₁ = fun y => if y = Str.ofString "i" then some (.int (j : Int) ti) else if y = Str.ofString "n" then some (.int (j : Int) tn) else m0 y := Ov.eq o (by walk_at "mine ov") (.cons e1 (.cons e2 .nil))
  exact hm ▸ .mk j ti tn h
theorem no_nul (T : List Nat) (h : ∀ c ∈ T, c ≠ 0 ∧ c ≠ 1) : Txt.count (tx T) (Str.ofString "\x00") = 0 := by
  unfold Txt.count
  rw [W.occ_nil_of_no]
  · rfl
  intro i hi
  rw [StrLaws.subAt_eq]
  have e1 : (Str.ofString "\x00").length = 1 := rfl
  have e2 : (Str.ofString "\x00").cps.toList = [0] := rfl
  rw [e1] at hi ⊢
  rw [e2]
  have hl : (tx T).length = T.length := tx_length T
  have hiT : i < T.length := by omega
  have : ((tx T).cps.toList.drop i).take 1 = [T[i]] := by
    show (T.toArray.toList.drop i).take 1 = _
    rw [List.toList_toArray, List.drop_eq_getElem_cons hiT]
    rfl
  rw [this]
  have := (h T[i] (List.getElem_mem _)).1
  simp [this]
theorem split_news {h₀ h' : Heap} {L l D : Addr} {its : List Value} {n : Nat} {o : Obj} {rest : List (Addr × Obj)} (N : News h₀ L h' ((D, o) :: (l, W.listOf (its.toArray.push (Value.ref D)) (n + 1)) :: rest)) :
    News h₀ L h' ((l, W.listOf (its ++ [Value.ref D]).toArray (n + 1)) :: ([(D, o)] ++ rest)) := by
  have e : (its ++ [Value.ref D]).toArray = its.toArray.push (Value.ref D) := by simp
  rw [e]
  refine news_sub N fun p hp => ?_
  simp only [List.mem_cons, List.cons_append, List.nil_append] at hp ⊢
  rcases hp with hp | hp | hp
  · exact .inr (.inl hp)
  · exact .inl hp
  · exact .inr (.inr hp)
theorem split_news2 {h₀ h' : Heap} {L l D x dx : Addr} {its : List Value} {n : Nat} {o o1 o2 : Obj} {rest : List (Addr × Obj)} (N : News h₀ L h' ((D, o) :: (l, W.listOf (its.toArray.push (Value.ref D)) (n + 1)) :: (x, o1) :: (dx, o2) :: rest)) :
    News h₀ L h' ((l, W.listOf (its ++ [Value.ref D]).toArray (n + 1)) :: (x, o1) :: (dx, o2) :: (D, o) :: rest) := by
  refine news_sub (split_news N) fun p hp => ?_
  simp only [List.mem_cons, List.cons_append, List.nil_append] at hp ⊢
  rcases hp with hp | hp | hp | hp | hp
  · exact .inl hp
  · exact .inr (.inr (.inl hp))
  · exact .inr (.inr (.inr (.inl hp)))
  · exact .inr (.inl hp)
  · exact .inr (.inr (.inr (.inr hp)))
theorem split_R1 {l D : Addr} {its : List Value} {n n' : Nat} {hd : Hd} {hv : Value} {T : List Nat} {t : Tok} {rest : List (Addr × Obj)} (hD : D ≠ l) (hhv : HdV hd hv) :
    SplitR l its [(hd, T)] .none ((l, W.listOf its.toArray n) :: rest) ((l, W.listOf (its ++ [Value.ref D]).toArray n') :: ([(D, ({ cls := .type "tuple", data := .seq #[hv, Value.str (tx T) t] } : Obj))] ++ rest)) := by
  refine ⟨rfl, [Value.ref D], n', [(D, _)], rfl, fun p hp => by rw [List.mem_singleton.mp hp]; exact hD, rfl, fun i p hp => ?_⟩
  match i, hp with
  | 0, hp => cases hp; exact ⟨D, hv, t, rfl, .head _, hhv⟩
theorem TupsIn.cons {led led' : List (Addr × Obj)} {vs : List Value} {ps : List (Hd × List Nat)} (h : TupsIn led vs ps) {D : Addr} {hv : Value} {t : Tok} {hd : Hd} {T : List Nat} (hs : ∀ p ∈ led, p ∈ led') (hm : (D, ({ cls := .type "tuple", data := .seq #[hv, Value.str (tx T) t] } : Obj)) ∈ led') (hhv : HdV hd hv) : TupsIn led' (Value.ref D :: vs) ((hd, T) :: ps) := by
  obtain ⟨h1, h2⟩ := h
  refine ⟨by simp [h1], fun i p hp => ?_⟩
  match i, hp with
  | 0, hp => cases hp; exact ⟨D, hv, t, rfl, hm, hhv⟩
  | i + 1, hp =>
    obtain ⟨r, hv, t, a, b, c⟩ := h2 i p (by simpa using hp)
    exact ⟨r, hv, t, by simpa using a, hs _ b, c⟩
theorem not_zero {hd : Hd} {hv : Value} (h : HdV hd hv) (h0 : ¬ ∃ t, hv = .int 0 t) : hd ≠ .num 0 := by
  rintro rfl
  exact h0 h
theorem splitL_ne {col k : Nat} {h : Hd} {T : List Nat} (h0 : h ≠ .num 0) : splitL col k h T = headed h (chunksF col k T) := by
  unfold splitL
  split
  · exact absurd rfl h0
  · rfl
theorem zero_hd {hd : Hd} {t : Tok} (h : HdV hd (.int 0 t)) : hd = .num 0 := by
  cases hd with
  | num z => obtain ⟨t', e⟩ := h; cases e; rfl
  | gt => obtain ⟨t', e⟩ := h; cases e
theorem split_newsE {h₀ h' : Heap} {L l D : Addr} {its vs : List Value} {n : Nat} {o : Obj} {p1 p2 : Addr × Obj} {tl rest : List (Addr × Obj)} (N : News h₀ L h' ((l, W.listOf ((its ++ [Value.ref D]) ++ vs).toArray n) :: (tl ++ p1 :: p2 :: (D, o) :: rest))) :
    News h₀ L h' ((l, W.listOf (its ++ Value.ref D :: vs).toArray n) :: ((tl ++ [(D, o)]) ++ (p1 :: p2 :: rest))) := by
  refine news_sub N fun p hp => ?_
  rw [List.append_assoc, List.singleton_append]
  simp only [List.mem_cons, List.mem_append, List.mem_singleton, List.not_mem_nil, or_false] at hp ⊢
  rcases hp with hp | (hp | hp) | hp | hp | hp
  · exact .inl hp
  · exact .inr (.inl hp)
  · exact .inr (.inr (.inr (.inr (.inl hp))))
  · exact .inr (.inr (.inl hp))
  · exact .inr (.inr (.inr (.inl hp)))
  · exact .inr (.inr (.inr (.inr (.inr hp))))
theorem split_RE {l D : Addr} {its vs : List Value} {n n' : Nat} {hd : Hd} {hv : Value} {T : List Nat} {t : Tok} {ps : List (Hd × List Nat)} {tl rest : List (Addr × Obj)} (hD : D ≠ l) (hhv : HdV hd hv) (htl : ∀ p ∈ tl, p.1 ≠ l) (h : TupsIn tl vs ps) :
    SplitR l its ((hd, T) :: ps) .none ((l, W.listOf its.toArray n) :: rest) ((l, W.listOf (its ++ Value.ref D :: vs).toArray n') :: ((tl ++ [(D, ({ cls := .type "tuple", data := .seq #[hv, Value.str (tx T) t] } : Obj))]) ++ rest)) := by
  refine ⟨rfl, _, n', _, rfl, fun p hp => ?_, h.cons (fun p hp => List.mem_append_left _ hp) (List.mem_append_right _ (.head _)) hhv⟩
  rcases List.mem_append.mp hp with hp | hp
  · exact htl p hp
  · rw [List.mem_singleton.mp hp]; exact hD
theorem call_split {w : World} {col d : Nat} {x l dx : Addr} {its : List Value} {n : Nat} {hv : Value} {y : Str} {t1 : Tok} {ps : List (Hd × List Nat)} {a : Nat → Tok} {D : Addr} {o : Obj} {rest : List (Addr × Obj)}
    (S : ∀ D, Tag KK RW (SpecG w d 96 [.ref x, .ref l, hv, .str y t1] [] (fun _ news => SplitP w col x l (its ++ [Value.ref D]) (n + 1) news) (SplitR l (its ++ [Value.ref D]) ps))) {A : Around} {outer : List Env} {env : Env} {A₀ : Around} {base h₀ : Heap} {L : Addr} {m : Str → Option Value} {s : Shared} {mean : ExcName → Option Value} {mg mb : Str → Option Value} {Q E : Value → Shared → Prop}
    (B : Below A₀ base outer h₀) (F : Fr h₀ L s.heap m) (X : Facts w h₀) (N : News h₀ L s.heap ((D, o) :: (l, W.listOf (its.toArray.push (Value.ref D)) (n + 1)) :: (x, instObj 142 dx) :: (dx, selfD w col a) :: rest)) (T : TopQ w mean mg mb h₀) (hA : A.frames = some (env :: outer)) (hf : env.frame = some L) (hk : env.scope.kind = .function)
    (hh : A.handled = none) (hd : A.depth + d < recursionLimit) (hxl : x ≠ l) (hdl : dx ≠ l) (hrest : ∀ p ∈ rest, p.1 ≠ l) (hD : D ≠ l)
    (h : ∀ vs n' tl h' tk', (∀ p ∈ tl, p.1 ≠ l) → TupsIn tl vs ps → Fr h₀ L h' m → News h₀ L h' ((l, W.listOf ((its ++ [Value.ref D]) ++ vs).toArray n') :: (tl ++ (x, instObj 142 dx) :: (dx, selfD w col a) :: (D, o) :: rest)) → Q .none { s with heap := h', toks := tk' }) :
    wpAny (model PW w) A (call (.ref 96) [.ref x, .ref l, hv, .str y t1]) Q E s :=
  call_specG (S D) B F X (split_news2 N) T hA hf hk hh hd ⟨dx, a, (D, o) :: rest, rfl, hxl, hdl, fun p hp => by
    rcases List.mem_cons.mp hp with rfl | hp
    · exact hD
    · exact hrest p hp⟩ fun v news' h' tk' r F' N' => by
      obtain ⟨rfl, vs, n', tl, rfl, htl, ht⟩ := r
      exact h vs n' tl h' tk' htl ht F' N'
set_option maxRecDepth 100000 in
set_option maxHeartbeats 8000000 in
theorem split_spec (w : World) (col : Nat) (hc1 : 1 ≤ col) (hc5 : col ≤ 5) (x l : Addr) : ∀ (k : Nat) (T : List Nat) (its : List Value) (n : Nat) (hd : Hd) (hv : Value) (t1 : Tok), T.length ≤ k → k ≤ 40 → its.length + k ≤ 100 → (∀ c ∈ T, c ≠ 0 ∧ c ≠ 1) → HdV hd hv →
    Tag KK RW (SpecG w (k + 2) 96 [.ref x, .ref l, hv, .str (tx T) t1] [] (fun _ news => SplitP w col x l its n news) (SplitR l its (splitL col k hd T))) := by
  intro k
  induction k using Nat.strongRecOn with
  | ind k ih =>
    intro T its n hd hv t1 hTk hk40 hits hT01 hhv
    k_fill
    unfold Tag SpecG
    intro A outer env A₀ base h₀ L m news s mean mg mb Q E hAt hh hdp hP hret
    obtain ⟨B, F, X, N, T', hA, hf, hkk⟩ := hAt
    obtain ⟨dx, a, rest, rfl, hxl, hdl, hrest⟩ := hP
    have KX := X.K
    have hsl := sizeLine_eq
    have hTl : (tx T).length = T.length := tx_length T
    refine wpAny_call ?_
    k_dflt (refine' code_def (binds := [(Str.ofString "self", Value.ref x), (Str.ofString "data_list", Value.ref l), (Str.ofString "line_num", hv), (Str.ofString "text", Value.str (tx T) t1)]) ?k1 ?k2 ?k3 ?k4 ?k5 ?kA ?kF ?kK ?k6 ?k7 ?k8 ?k9 ?kB ?_ ?c2 ?c3 ?c4 ?c5; (case kA => first | assumption | exact Around.frames_deeper (by assumption)); (case kF => first | assumption | exact rfl); (case kK => first | assumption | exact rfl); (case k1 => k_asm); (case k2 => k_asm); (case k3 => k_asm); (case k4 => k_asm); (case k5 => k_asm); (case k6 => k_is); (case k7 => k_is); (case k8 => ktr_room); (case k9 => first | exact (by assumption : BindsTo _ _ _ _) | exact BindsTo.of_eq rfl); (case c5 => decide); (case kB => exact locs rfl); (case c2 => exact rfl); (case c3 => exact rfl); (case c4 => exact rfl); k_whole; intro g' L' h' FG' F' N' B' X' T'; (try dsimp only); (try k_fold))
    have XX := X.keeps (by assumption : Fr h₀ L _ m).keep
    generalize (s.toks + List.length _) = tk0
    have hiz : its.toArray.size ≤ sizeLine := by rw [List.size_toArray, hsl]; omega
    have hrest2 : ∀ p ∈ (x, instObj 142 dx) :: (dx, selfD w col a) :: rest, p.1 ≠ l := by
      intro p hp
      rcases List.mem_cons.mp hp with rfl | hp
      · exact hxl
      rcases List.mem_cons.mp hp with rfl | hp
      · exact hdl
      exact hrest p hp
    rename Fr _ _ _ _ => FX
    by_cases h0 : ∃ t, hv = .int 0 t
    · obtain ⟨t0, rfl⟩ := h0
      walk_at "mine steps"
      rw [zero_hd hhv] at hret
      refine hret _ _ _ _ (by assumption) (split_news (by assumption)) (split_R1 (by k_ne) ⟨_, rfl⟩)
    · with_reducible refine cut1 (KeepJ ((l, W.listOf its.toArray n) :: (x, instObj 142 dx) :: (dx, selfD w col a) :: rest)) FX ?_ ?_
      · cases hd with
        | gt =>
          obtain ⟨th, rfl⟩ := hhv
          walk_at "mine steps"
          exact CutEnd.intro (by assumption) (by assumption) ⟨rfl, rfl⟩
        | num z =>
          obtain ⟨th, rfl⟩ := hhv
          have hz : (z == 0) = false := beq_eq_false_iff_ne.mpr fun e => h0 ⟨th, by rw [e]⟩
          have hz2 : z ≠ 0 := fun e => h0 ⟨th, by rw [e]⟩
          have hz3 : (z != 0) = true := bne_iff_ne.mpr hz2
          walk_at "mine steps"
          exact CutEnd.intro (by assumption) (by assumption) ⟨rfl, rfl⟩
      · rintro h1 tk1 m1 news1 F1 N1 ⟨rfl, rfl⟩
        by_cases hle : T.length ≤ col
        · walk_at "mine steps"
          have e : splitL col k hd T = [(hd, T)] := by
            rw [splitL_ne (not_zero hhv h0)]
            cases k with
            | zero => rfl
            | succ k => unfold chunksF; rw [if_pos hle]; rfl
          rw [e] at hret
          refine hret _ _ _ _ (by assumption) (split_news (by assumption)) (split_R1 (by k_ne) hhv)
        · obtain ⟨k, rfl⟩ : ∃ k', k = k' + 1 := ⟨k - 1, by omega⟩
          have hcn := no_nul T hT01
          walk_at "mine steps"
          rename Fr _ _ _ _ => FX
          rename News _ _ _ _ => NX
          refine let_map FX ?_
          intro M0 FX
          refine While_over (SJ col ((l, W.listOf its.toArray n) :: (x, instObj 142 dx) :: (dx, selfD w col a) :: rest)) (n₀ := col) FX NX ?_ ?_ ?_
          · exact SJ.of (j := 0) (Nat.zero_le _) (by walk_at "mine ov") (by rfl) (by rfl)
          · rintro nn m₁ news₁ h₁ tk₁ F₁ N₁ ⟨j, ti, tn, hjc⟩
            by_cases hj : j < col
            · have hjT : j < T.length := by omega
              have hcj : (tx T).cps[((j : Int)).toNat]? = some T[j] := by
                rw [Int.toNat_natCast]
                show (T.toArray)[j]? = _
                simp
              have hc01 := hT01 T[j] (List.getElem_mem _)
              have e0 : (({ cps := #[T[j]] } : Str) == Str.ofString "\x00") = false := one_ne hc01.1
              have e1 : (({ cps := #[T[j]] } : Str) == Str.ofString "\x01") = false := one_ne hc01.2
              walk_at "mine steps"
              exact while_next (n' := col - (j + 1)) (by assumption) (by assumption) (by omega) (SJ.of (j := j + 1) (by omega) (by walk_at "mine ov") (by exact in_of (Int.natCast_succ j).symm) (by exact in_of (Int.natCast_succ j).symm))
            · obtain rfl : col = j := by omega
              have htk := take_tx (T := T) (j := col) (by omega)
              have hdr := drop_tx (T := T) (j := col) (by omega)
              have hTz : (tx T).length ≤ sizeLine := by omega
              walk_at "mine steps"
              rename News _ _ _ (_ :: _) => NX3
              k_dflt (refine' call_split (ps := splitL col k .gt (T.drop col)) (fun D => ih k (Nat.lt_succ_self k) (T.drop col) (its ++ [Value.ref D]) (n + 1) .gt _ _ ?a1 ?a2 ?a3 ?a4 ⟨_, rfl⟩) ?B ?F ?X NX3 ?T ?hA ?hf ?hk ?hh ?hd hxl hdl hrest ?D ?_; (case a1 => (rw [List.length_drop]; omega)); (case a2 => omega); (case a3 => (rw [List.length_append]; simp; omega)); (case a4 => exact fun c hc => hT01 c (List.mem_of_mem_drop hc)); (case D => k_ne); (((case B => k_asm); (case F => k_asm); (case X => assumption); (case T => k_asm); (case hA => first | exact Around.frames_deeper (by assumption) | exact Around.frames_deeper (Around.frames_deeper (by assumption))); (case hf => exact rfl); (case hk => exact rfl); (case hh => with_unfolding_all assumption); (case hd => first | exact dp1 (by assumption) rfl | exact dp0 (by assumption) rfl | (simp only [depth_under_make, depth_under_kw, depth_in1, depth_deeper, depth_caller] at *; omega)))); k_whole)
              rintro vs' n' tl h1 tk1 htl htups F1 N1
              walk_at "mine steps"
              have e : splitL col (k + 1) hd T = (hd, T.take col) :: splitL col k .gt (T.drop col) := by
                rw [splitL_ne (not_zero hhv h0), splitL_ne (by intro q; cases q)]
                unfold chunksF
                rw [if_neg hle]
                cases k <;> rfl
              rw [e] at hret
              refine hret _ _ _ _ (by assumption) (split_newsE (by assumption)) (split_RE (by k_ne) hhv htl htups)
          · passes_own
end
-- Wk18
section
/-- a list of tuples in a ledger -/
noncomputable def FoundIn (led : List (Addr × Obj)) (l : Addr) (ps : List (Hd × List Nat)) : Prop := ∃ (vs : List Value) (n : Nat), (l, W.listOf vs.toArray n) ∈ led ∧ TupsIn led vs ps
theorem allLt_ne {d : Addr} {l : List (Addr × Obj)} (h : AllLt d l) : ∀ p ∈ l, p.1 ≠ d := fun p hp => Nat.ne_of_lt (allLt_mem h p hp)
theorem call_split0 {w : World} {col k : Nat} {x l dx : Addr} {hd : Hd} {hv : Value} {T : List Nat} {t1 : Tok} {a0 a1 a2 a3 a4 tz tz' : Tok} {D : Addr} {rest : List (Addr × Obj)} (hc1 : 1 ≤ col) (hc5 : col ≤ 5) (hTk : T.length ≤ k) (hk40 : k ≤ 40) (h01 : ∀ c ∈ T, c ≠ 0 ∧ c ≠ 1) (hhv : HdV hd hv)
    {A : Around} {outer : List Env} {env : Env} {A₀ : Around} {base h₀ : Heap} {L : Addr} {m : Str → Option Value} {s : Shared} {mean : ExcName → Option Value} {mg mb : Str → Option Value} {Q E : Value → Shared → Prop}
    (B : Below A₀ base outer h₀) (F : Fr h₀ L s.heap m) (X : Facts w h₀)
    (N : News h₀ L s.heap ((x, instObj 142 dx) :: (dx, dictOf [{ hash := PyData.keyHash w.params (Str.ofString "_tabsize"), key := Value.str (Str.ofString "_tabsize") a0, val := Value.int 8 271 }, { hash := PyData.keyHash w.params (Str.ofString "_wrapcolumn"), key := Value.str (Str.ofString "_wrapcolumn") a1, val := Value.int (col : Int) a2 },
      { hash := PyData.keyHash w.params (Str.ofString "_linejunk"), key := Value.str (Str.ofString "_linejunk") a3, val := Value.none }, { hash := PyData.keyHash w.params (Str.ofString "_charjunk"), key := Value.str (Str.ofString "_charjunk") a4, val := Value.ref 58 }] 4) :: (l, W.listOf #[Value.ref D] 0) :: (D, ({ cls := .type "tuple", data := .seq #[Value.int 3 tz, Value.str (Str.ofString "z") tz'] } : Obj)) :: rest))
    (T' : TopQ w mean mg mb h₀) (hA : A.frames = some (env :: outer)) (hf : env.frame = some L) (hk : env.scope.kind = .function)
    (hh : A.handled = none) (hdp : A.depth + (k + 2) < recursionLimit) (hxl : x ≠ l) (hdl : dx ≠ l) (hDl : D ≠ l) (hrest : ∀ p ∈ rest, p.1 ≠ l)
    (h : ∀ tl h' tk', FoundIn tl l ((.num 3, [122]) :: splitL col k hd T) → Fr h₀ L h' m → News h₀ L h' (tl ++ rest) → Q .none { s with heap := h', toks := tk' }) :
    wpAny (model PW w) A (call (.ref 96) [.ref x, .ref l, hv, .str (tx T) t1]) Q E s := by
  let a : Nat → Tok := fun i => match i with | 0 => a0 | 1 => a1 | 2 => a2 | 3 => a3 | _ => a4
  have N2 : News h₀ L s.heap ((l, W.listOf [Value.ref D].toArray 0) :: (x, instObj 142 dx) :: (dx, selfD w col a) :: (D, ({ cls := .type "tuple", data := .seq #[Value.int 3 tz, Value.str (Str.ofString "z") tz'] } : Obj)) :: rest) := by
    refine news_sub N fun p hp => ?_
    simp only [List.mem_cons] at hp ⊢
    rcases hp with hp | hp | hp | hp | hp
    · exact .inr (.inr (.inl hp))
    · exact .inl hp
    · exact .inr (.inl hp)
    · exact .inr (.inr (.inr (.inl hp)))
    · exact .inr (.inr (.inr (.inr hp)))
  refine call_specG (split_spec w col hc1 hc5 x l k T [Value.ref D] 0 hd hv t1 hTk hk40 (by simp; omega) h01 hhv) B F X N2 T' hA hf hk hh hdp ⟨dx, a, _, rfl, hxl, hdl, ?_⟩ fun v news' h' tk' r F' N' => ?_
  · intro p hp
    rcases List.mem_cons.mp hp with rfl | hp
    · exact hDl
    · exact hrest p hp
  · obtain ⟨rfl, vs, n', tl, rfl, htl, ht⟩ := r
    refine h ((l, W.listOf ([Value.ref D] ++ vs).toArray n') :: (tl ++ [(x, instObj 142 dx), (dx, selfD w col a), (D, ({ cls := .type "tuple", data := .seq #[Value.int 3 tz, Value.str (Str.ofString "z") tz'] } : Obj))])) h' tk' ⟨_, _, .head _, ?_⟩ F' (news_sub N' fun p hp => ?_)
    · refine ht.cons (hv := Value.int 3 tz) (t := tz') (fun p hp => .tail _ (List.mem_append_left _ hp)) (.tail _ (List.mem_append_right _ (.tail _ (.tail _ (.head _))))) ⟨tz, rfl⟩
    · simpa [List.mem_append, List.mem_cons, or_assoc] using hp
set_option maxRecDepth 100000 in
set_option maxHeartbeats 8000000 in
theorem found_spec (w : World) (T0 : List Nat) (num col k : Nat) (t1 t2 t3 : Tok) (hc1 : 1 ≤ col) (hc5 : col ≤ 5) (hTk : T0.length ≤ k) (hk40 : k ≤ 40) (h01 : ∀ c ∈ T0, c ≠ 0 ∧ c ≠ 1) :
    Tag KK RW (SpecG w (k + 4) 301 [.str (tx T0) t1, .int num t2, .int col t3] [] (fun h _ => True) (fun v news news' => ∃ l tl, v = .ref l ∧ news' = tl ++ news ∧ FoundIn tl l ((.num 3, [122]) :: splitL col k (.num num) T0))) := by
  k_fill
  unfold Tag SpecG
  intro A outer env A₀ base h₀ L m news s mean mg mb Q E hAt hh hdp hP hret
  obtain ⟨B, F, X, N, T, hA, hf, hkk⟩ := hAt
  have KX := X.K
  have hsl := sizeLine_eq
  refine wpAny_call ?_
  k_dflt (refine' code_def (binds := [(Str.ofString "text", Value.str (tx T0) t1), (Str.ofString "number", Value.int num t2), (Str.ofString "column", Value.int col t3)]) ?k1 ?k2 ?k3 ?k4 ?k5 ?kA ?kF ?kK ?k6 ?k7 ?k8 ?k9 ?kB ?_ ?c2 ?c3 ?c4 ?c5; (case kA => first | assumption | exact Around.frames_deeper (by assumption)); (case kF => first | assumption | exact rfl); (case kK => first | assumption | exact rfl); (case k1 => k_asm); (case k2 => k_asm); (case k3 => k_asm); (case k4 => k_asm); (case k5 => k_asm); (case k6 => k_is); (case k7 => k_is); (case k8 => ktr_room); (case k9 => first | exact (by assumption : BindsTo _ _ _ _) | exact BindsTo.of_eq rfl); (case c5 => decide); (case kB => exact locs rfl); (case c2 => exact rfl); (case c3 => exact rfl); (case c4 => exact rfl); k_whole; intro g' L' h' FG' F' N' B' X' T'; (try dsimp only); (try k_fold))
  have XX := X.keeps (by assumption : Fr h₀ L _ m).keep
  generalize (s.toks + List.length _) = tk0
  walk_at "mine steps"
  k_dflt ((refine' call_cls ?k1_23 ?k2_23 ?k3_23 ?k4_23 ?k5_23 ?k6_23 ?_; (case k1_23 => k_asm); (case k2_23 => k_asm); (case k3_23 => k_asm); (case k4_23 => k_is); (case k5_23 => k_is); (case k6_23 => k_is); k_whole; intro x' d' h' F' N' l1 l2; (try k_lt l1); (try k_lt2 l2); (try k_sweep); ((refine' code_def ?k1_24 ?k2_24 ?k3_24 ?k4_24 ?k5_24 ?kA_24 ?kF_24 ?kK_24 ?k6_24 ?k7_24 ?k8_24 ?k9_24 ?kB_24 ?_ ?c2_24 ?c3_24 ?c4_24 ?c5_24; (case kA_24 => first | assumption | exact Around.frames_deeper (by assumption) | with_unfolding_all assumption | with_unfolding_all exact Around.frames_deeper (by assumption)); (case kF_24 => first | assumption | exact rfl); (case kK_24 => first | assumption | exact rfl); (case k1_24 => k_asm); (case k2_24 => k_asm); (case k3_24 => k_asm); (case k4_24 => k_asm); (case k5_24 => k_asm); (case k6_24 => k_is); (case k7_24 => k_is); (case k8_24 => ktr_room); (case k9_24 => first | exact (by assumption : BindsTo _ _ _ _) | exact BindsTo.of_eq rfl | exact binds_K (by k_in) rfl (by k_is) rfl rfl rfl); (case c5_24 => decide); (case kB_24 => exact locs rfl); (case c2_24 => exact rfl); (case c3_24 => exact rfl); (case c4_24 => exact rfl); k_whole; intro g' L' h' FG' F' N' B' X' T'; (try dsimp only); (try k_fold)))))
  walk_at "mine steps"
  rename News _ _ _ (_ :: _ :: _ :: _ :: _) => NX
  k_dflt (refine' call_split0 (hd := .num num) hc1 hc5 hTk hk40 h01 ⟨_, rfl⟩ ?B ?F ?X NX ?T ?hA ?hf ?hk ?hh ?hd ?q1 ?q2 ?q3 ?q4 ?_; (case q1 => k_ne); (case q2 => k_ne); (case q3 => k_ne); (case q4 => exact allLt_ne (And.right (by assumption))); (((case B => k_asm); (case F => k_asm); (case X => assumption); (case T => k_asm); (case hA => first | exact Around.frames_deeper (by assumption) | exact Around.frames_deeper (Around.frames_deeper (by assumption))); (case hf => exact rfl); (case hk => exact rfl); (case hh => with_unfolding_all assumption); (case hd => first | exact dp1 (by assumption) rfl | exact dp0 (by assumption) rfl | (simp only [depth_under_make, depth_under_kw, depth_in1, depth_deeper, depth_caller] at *; omega)))); k_whole)
  rintro tl h1 tk1 hfound F1 N1
  walk_at "mine steps"
  exact hret _ _ _ _ (by assumption) (by assumption) ⟨_, tl, rfl, rfl, hfound⟩
end
-- WkC
section
open PySem PySem.Spec PySem.Calls PySem.W PyProof.Rows PyProof.Rows.LCg
section
variable {w : World} {A : Around} {E : Value → Shared → Prop} {s : Shared} {h₀ : Heap} {L : Addr} {m : Str → Option Value} {env : Env}
theorem stepR_walks {I : Addr} (hh : A.handled = none) (a c : Int) (n : Nat) : Walks (PW) w A I [I] [I] n (fun i v => ∃ t, v = .int (a + (i : Int) * c) t) (fun i h => IsRangeIter h I (a + (i : Nat) * c) ((n : Int) - (i : Nat)) c) := Walks.range hh I a c n
theorem stepR_st {I : Addr} {a c : Int} {n : Nat} : ∀ i (h h' : Heap) (o : Obj) (nw : List (Addr × Obj)), IsRangeIter h I (a + (i : Nat) * c) ((n : Int) - (i : Nat)) c → h.get? I = some o → h'.get? I = some o → (∀ b o, h₀.get? b = some o → h'.get? b = some o) → News h₀ L h' nw → True → IsRangeIter h' I (a + (i : Nat) * c) ((n : Int) - (i : Nat)) c :=
  fun i h h' o nw st e e' _ _ _ => by
    have st' : h.get? I = some _ := st
    show h'.get? I = some _
    rw [e', ← e]; exact st'
theorem compRestJ {elt : Expr} {x : Str} {scope : Scope} {cl : List (Str × Addr)} {S : List (Addr × Obj) → Prop} {P : Nat → Value → Prop} {Fin : List Value → List (Addr × Obj) → Prop} (J : Nat → List Value → List (Addr × Obj) → Prop) {n : Nat}
    (turn : ∀ i ys news v I oI C oC D m₂ h tk (E' : Value → Shared → Prop), i < n → J i ys news → P i v → NsObj oC m₂ → m₂ x = some v → Fr h₀ L h m → News h₀ L h ((I, oI) :: (C, oC) :: (D, lst ys) :: news) → Off3 I C D news → ((@Ne Nat I C) ∧ (@Ne Nat I D) ∧ (@Ne Nat C D)) →
      wpAny (model PW w) A (eval elt (compEnvC scope cl C env)) (CompEnd h₀ L m { s with heap := h, toks := tk } I oI C oC D (lst ys) S (fun y news' => J (i + 1) (ys ++ [y]) news')) E' { s with heap := h, toks := tk })
    (fin : ∀ ys news, J n ys news → Fin ys news) : ∀ k i ys news, i + k = n → J i ys news → CompRest PW w A h₀ L m env elt x scope cl s S P Fin k i ys news
  | 0, i, ys, news, e, j => by
    obtain rfl : i = n := by omega
    exact CompRest.zero (fin _ _ j)
  | k + 1, i, ys, news, e, j => CompRest.succ fun v I oI C oC D m₂ h tk E' hP hC hx F N off ne =>
      wpAny_mono (turn i ys news v I oI C oC D m₂ h tk E' (by omega) j hP hC hx F N off ne) (fun y s₂ c => by
        obtain ⟨h', tk', news', e1, F', N', off', hS, r⟩ := c
        exact ⟨h', tk', news', e1, F', N', off', hS, compRestJ J turn fin k (i + 1) _ _ (by omega) r⟩) fun _ _ e => e
theorem compRest0 {elt : Expr} {x : Str} {scope : Scope} {cl : List (Str × Addr)} {S : List (Addr × Obj) → Prop} {P : Nat → Value → Prop} {Fin : List Value → List (Addr × Obj) → Prop} {news : List (Addr × Obj)} (J : List (Addr × Obj) → Nat → List Value → List (Addr × Obj) → Prop) {n : Nat} (hj : J news 0 [] news)
    (turn : ∀ i ys news₁ v I oI C oC D m₂ h tk (E' : Value → Shared → Prop), i < n → J news i ys news₁ → P i v → NsObj oC m₂ → m₂ x = some v → Fr h₀ L h m → News h₀ L h ((I, oI) :: (C, oC) :: (D, lst ys) :: news₁) → Off3 I C D news₁ → ((@Ne Nat I C) ∧ (@Ne Nat I D) ∧ (@Ne Nat C D)) →
      wpAny (model PW w) A (eval elt (compEnvC scope cl C env)) (CompEnd h₀ L m { s with heap := h, toks := tk } I oI C oC D (lst ys) S (fun y news' => J news (i + 1) (ys ++ [y]) news')) E' { s with heap := h, toks := tk })
    (fin : ∀ ys news₁, J news n ys news₁ → Fin ys news₁) : CompRest PW w A h₀ L m env elt x scope cl s S P Fin n 0 [] news := compRestJ (J news) turn fin n 0 [] news (Nat.zero_add n) hj
/-- where a list comprehension over a stepped range begins -/
noncomputable def StepSrc (w : World) (A : Around) (h₀ : Heap) (L : Addr) (m : Str → Option Value) (env : Env) (elt : Expr) (x : Str) (scope : Scope) (cl : List (Str × Addr)) (Fin : Shared → List Value → List (Addr × Obj) → Prop) (xv : Value) (s₁ : Shared) : Prop :=
  ∃ r a b c t u v n news, xv = .ref r ∧ A.handled = none ∧ Fr h₀ L s₁.heap m ∧ News h₀ L s₁.heap news ∧ IsRange s₁.heap r a b c t u v ∧ Builtin.Range.small a b c = true ∧ Builtin.Range.rangeSize a b c = ((n : Nat) : Int) ∧ n ≤ sizeLine ∧
    ∀ s₂ : Shared, (∃ h, s₂ = { s₁ with heap := h }) → CompRest PW w A h₀ L m env elt x scope cl s₂ (fun _ => True) (fun i v => ∃ t, v = .int (a + (i : Int) * c) t) (Fin s₂) n 0 [] news
theorem Assign_comp_step {elt iter : Expr} {x y : Str} {px py : Pos} {scope : Scope} {cl : List (Str × Addr)} {pos spos : Pos} {Q : Flow → Shared → Prop} (_F₀ : Fr h₀ L s.heap m) (hLe : env.locals = L)
    (hsw : swapsWith (.ListComp elt [⟨.Name x px, iter, [], 0⟩] scope pos) (some (.Name y py)) spos.line env = pure true)
    (hclos : closureFor scope env = pure cl) (hcell : ∀ z ∈ scope.names, z.2 ≠ .cell) (hkind : scope.kind = .function)
    (hnames : ∀ z ∈ scope.names, z.2 = .local → scope.names.lookup z.1 = some .local) (hx : scope.names.lookup x = some .local)
    (hy : env.kindOf y = some .local) (hp : (env.scope.kind == .class || (env.scope.kind == .module && env.locals != env.globals)) = false)
    (h : wpAny (model PW w) A (eval iter env) (StepSrc w A h₀ L m env elt x scope cl (fun s₂ => FinA h₀ L m s₂ y Q)) E s)
    (hs : ∀ x, foldedSetIterable iter env x = pure x := by intro _; rfl) :
    wpAny (model PW w) A (exec (.Assign [.Name y py] (.ListComp elt [⟨.Name x px, iter, [], 0⟩] scope pos) spos) env) Q E s := by
  subst hLe
  rw [exec_Assign_Name_used _ _ _ _ hsw]
  refine wpAny_bind (wpAny_standAt (wpAny_bind ?_))
  show wpAny _ A (do let _ ← comprehension (.ListComp elt [⟨.Name x px, iter, [], 0⟩] scope pos) scope env _ (newList []) false (eval iter env) (some (assign (.Name y py) env))) _ _ s
  refine wpAny_bind (wpAny_mono (wpAny_comprehension_free (use := some (assign (.Name y py) env)) (Q := fun _ s' => Q .next s') rfl hs hclos hkind hnames
    (wpAny_mono h (fun xv s₁ h₁ => ?_) fun _ _ e => e)) (fun _ s' hq => wpAny_pure (wpAny_pure hq)) fun _ _ e => e)
  obtain ⟨r, a, b, c, t, u, v, n, news, rfl, hh, F, N, hr, hsm, hn, hsz, R⟩ := h₁
  refine wpAny_pyIter_range hr hsm ?_
  refine block_U (stepR_walks hh a c n) hsz (fun i h st => ⟨_, st⟩) stepR_st hcell hkind hx (by show IsRangeIter _ _ _ _ _; rw [hn]; simpa using Heap.get?_push_size _ rfl) (fun b hb => ?_)
    (F.keeps fun _ _ e => Heap.get?_push_of_some _ e) (N.grown fun _ _ e => Heap.get?_push_of_some _ e) (Nat.ne_of_lt F.ns.lt) (next_is_new F) (fun p hp => Nat.ne_of_lt (Heap.lt_size (N p hp).1)) trivial (R _ ⟨_, rfl⟩) ?_
  · rw [List.mem_singleton.mp hb]
    show s₁.heap.objs.size < (s₁.heap.push _).objs.size
    rw [Heap.size_push]; exact Nat.lt_succ_self _
  · intro D C h' tk m' ys news' F' N' o1 hn hC₀ hD₀ hCL hDL hCD offC fin
    show wpAny _ A (assign (.Name y py) env (.ref D)) _ _ _
    refine wpAny_assign_Name (wpAny_storeName_local hy F'.ns (fun h₂ hn₂ hs₂ => ?_) hp)
    have hL₀ : h₀.get? env.locals = none := Heap.get?_none_of_le F'.above
    have F₂ : Fr h₀ env.locals h₂ (fun z => if z = y then some (.ref D) else m z) := ⟨hn₂, fun b o e => hs₂.extBut b o (fun q => by rw [q, hL₀] at e; cases e) (F'.keep b o e), F'.above⟩
    refine ⟨m', hn.sameBut hs₂ hCL, fun h'' hs'' => fin D h'' _ (F₂.change hs'' hCL hC₀) (fun p hp => ?_) o1⟩
    have z : h₂.get? p.1 = some p.2 := hs₂.extBut _ _ (N' p hp).2.1 (N' p hp).1
    refine ⟨hs''.extBut _ _ ?_ z, (N' p hp).2⟩
    rcases List.mem_cons.mp hp with rfl | hp
    · exact Ne.symm hCD
    · exact offC p hp
end
end
-- Wk19
section
open PySem PySem.W PyProof.Rows PyProof.Rows.LCg
noncomputable def nSl (col len : Nat) : Nat := if col < len then (len - col - 1) / col + 1 else 0
noncomputable def gtsL (col : Nat) (T : List Nat) (i : Nat) : List (Hd × List Nat) := (List.range i).map fun j => (Hd.gt, (T.drop (col + j * col)).take col)
theorem nSl_step {col len : Nat} (hc : 1 ≤ col) (h : col < len) : nSl col len = nSl col (len - col) + 1 := by
  unfold nSl
  rw [if_pos h]
  by_cases h2 : col < len - col
  · rw [if_pos h2]
    congr 1
    have : len - col - 1 = (len - col - col - 1) + col := by omega
    rw [this, Nat.add_div_right _ (by omega)]
  · rw [if_neg h2, Nat.div_eq_of_lt (by omega)]
theorem chunks_eq {col : Nat} (hc : 1 ≤ col) : ∀ (k : Nat) (T : List Nat), T.length ≤ k → chunksF col k T = (List.range (nSl col T.length + 1)).map fun i => (T.drop (i * col)).take col
  | 0, T, h => by
    have : T = [] := List.eq_nil_of_length_eq_zero (by omega)
    subst this
    simp [chunksF, nSl]
  | k + 1, T, h => by
    unfold chunksF
    by_cases hl : T.length ≤ col
    · rw [if_pos hl]
      have : nSl col T.length = 0 := by unfold nSl; rw [if_neg (by omega)]
      rw [this]
      simp [List.take_of_length_le hl]
    · rw [if_neg hl, chunks_eq hc k (T.drop col) (by rw [List.length_drop]; omega), List.length_drop, nSl_step (len := T.length) hc (by omega), List.range_succ_eq_map (n := nSl col (T.length - col) + 1), List.map_cons, List.map_map]
      congr 1
      · simp
      · refine List.map_congr_left fun i _ => ?_
        simp only [Function.comp, List.drop_drop]
        congr 2
        rw [Nat.succ_mul]; omega
theorem headed_gt : ∀ (l : List (List Nat)), headed .gt l = l.map fun p => (Hd.gt, p)
  | [] => rfl
  | p :: l => by rw [headed, headed_gt l]; rfl
theorem split_due {col k : Nat} {T : List Nat} {h : Hd} (hc : 1 ≤ col) (hk : T.length ≤ k) (h0 : h ≠ .num 0) : splitL col k h T = (h, T.take col) :: gtsL col T (nSl col T.length) := by
  rw [splitL_ne h0, chunks_eq hc k T hk, List.range_succ_eq_map, List.map_cons, headed, headed_gt, List.map_map, List.map_map]
  unfold gtsL
  simp only [Nat.zero_mul, List.drop_zero]
  congr 1
  refine List.map_congr_left fun i _ => ?_
  simp only [Function.comp]
  congr 3
  rw [Nat.succ_mul]; omega
theorem slice_over {x : Str} {i j : Int} (h : (x.length : Int) ≤ j) : Txt.slice x (some i) (some j) = Txt.slice x (some i) none := by
  have e : Builtin.Str.strSliceIndices (some i) (some j) 1 x.length = Builtin.Str.strSliceIndices (some i) none 1 x.length := by
    have h1 : ¬ (j < 0) := by omega
    have h2 : (1 : Int) > 0 := by decide
    simp only [Builtin.Str.strSliceIndices, h1, h2, if_false, if_true, Int.min_eq_right h]
    rw [Int.max_eq_right (Int.natCast_nonneg _)]
  unfold Txt.slice
  rw [e]
theorem slice_over0 {x : Str} {j : Int} (h : (x.length : Int) ≤ j) : Txt.slice x none (some j) = Txt.slice x none (some (x.length : Int)) := by
  have e : Builtin.Str.strSliceIndices none (some j) 1 x.length = Builtin.Str.strSliceIndices none (some (x.length : Int)) 1 x.length := by
    have h1 : ¬ (j < 0) := by omega
    have h2 : (1 : Int) > 0 := by decide
    have h3 : ¬ ((x.length : Int) < 0) := by omega
    simp only [Builtin.Str.strSliceIndices, h1, h2, h3, if_false, if_true, Int.min_eq_right h, Int.min_self]
  unfold Txt.slice
  rw [e]
theorem take_any (T : List Nat) (j : Nat) : Txt.slice (tx T) none (some (j : Int)) = tx (T.take j) := by
  by_cases h : j ≤ T.length
  · exact take_tx h
  · have hl : (tx T).length = T.length := tx_length T
    rw [slice_over0 (by rw [hl]; omega), hl, take_tx (Nat.le_refl _), List.take_of_length_le (Nat.le_refl _), List.take_of_length_le (by omega)]
theorem cut_any {T : List Nat} {i c : Nat} (h : i ≤ T.length) : Txt.slice (tx T) (some (i : Int)) (some ((i + c : Nat) : Int)) = tx ((T.drop i).take c) := by
  have hl : (tx T).length = T.length := tx_length T
  by_cases h2 : i + c ≤ T.length
  · have := slice_take (tx T) i (i + c) (by omega) (by rw [hl]; exact h2)
    rw [this]
    show tx (((T.toArray.toList).take (i + c)).drop i) = _
    rw [List.toList_toArray, List.drop_take]
    congr 2
    omega
  · rw [slice_over (by rw [hl]; omega), drop_tx h, List.take_of_length_le (by rw [List.length_drop]; omega)]
theorem range_step {a b c : Nat} (hc : 1 ≤ c) : Builtin.Range.rangeSize (a : Int) (b : Int) (c : Int) = ((if a < b then (b - a - 1) / c + 1 else 0 : Nat) : Int) := by
  unfold Builtin.Range.rangeSize
  rw [if_pos (by omega)]
  by_cases h : a < b
  · rw [if_pos (by omega), if_pos h]
    have : ((b : Int) - a - 1) = ((b - a - 1 : Nat) : Int) := by omega
    rw [this]
    rfl
  · rw [if_neg (by omega), if_neg h]
    rfl
end
-- Wk20
section
open PySem PySem.W PyProof.Rows PyProof.Rows.LCg
noncomputable def DueJ (T : List Nat) (col : Nat) (nb : List (Addr × Obj)) (i : Nat) (ys : List Value) (news : List (Addr × Obj)) : Prop :=
  ∃ tl : List (Addr × Obj), news = tl ++ nb ∧ TupsIn tl ys (gtsL col T i)
theorem nSl_in {col len i : Nat} (hc : 1 ≤ col) (h : i < nSl col len) : col + i * col ≤ len := by
  unfold nSl at h
  split at h
  · rename_i hl
    have h1 : i ≤ (len - col - 1) / col := by omega
    have h2 : i * col ≤ (len - col - 1) / col * col := Nat.mul_le_mul_right _ h1
    have h3 := Nat.div_mul_le_self (len - col - 1) col
    omega
  · omega
noncomputable abbrev tup2 (hv : Value) (x : Str) (t : Tok) : Obj := { cls := .type "tuple", data := .seq #[hv, Value.str x t] }
theorem due_split {p1 p2 p3 p4 p5 c1 c2 : Addr × Obj} {tl news : List (Addr × Obj)} : p1 :: p2 :: p3 :: p4 :: p5 :: (tl ++ c1 :: c2 :: news) = (p1 :: p2 :: p3 :: p4 :: p5 :: (tl ++ [c1, c2])) ++ news := by simp
theorem due_split0 {p1 p2 p3 c1 c2 : Addr × Obj} {news : List (Addr × Obj)} : p1 :: p2 :: p3 :: c1 :: c2 :: news = [p1, p2, p3, c1, c2] ++ news := rfl
theorem due_fin0 {l D1 D2 : Addr} {ta tb tc t1 : Tok} {T : List Nat} {col k : Nat} {c1 c2 : Addr × Obj} :
    FoundIn [(l, W.listOf #[Value.ref D1, Value.ref D2] 0), (D2, tup2 (Value.int ((0 : Nat) : Int) ta) (tx T) t1), (D1, tup2 (Value.int 3 tb) (Str.ofString "z") tc), c1, c2] l ((.num 3, [122]) :: splitL col k (.num ((0 : Nat) : Int)) T) := by
  refine ⟨[Value.ref D1, Value.ref D2], 0, .head _, rfl, fun i p hp => ?_⟩
  match i, hp with
  | 0, hp => cases hp; exact ⟨D1, _, tc, rfl, by k_mem, ⟨tb, rfl⟩⟩
  | 1, hp => cases hp; exact ⟨D2, _, t1, rfl, by k_mem, ⟨ta, rfl⟩⟩
theorem due_fin {l l' D1 D2 Dc : Addr} {ta tb tc t1 : Tok} {T : List Nat} {num col k n : Nat} {ys : List Value} {c1 c2 : Addr × Obj} {o5 o2 : Obj} {tl : List (Addr × Obj)} (h0 : ¬ num = 0) (hc1 : 1 ≤ col) (hTk : T.length ≤ k) (hn : nSl col T.length = n) (htups : TupsIn tl ys (gtsL col T n)) :
    FoundIn ((l, W.listOf ([Value.ref D1, Value.ref D2] ++ ys).toArray 0) :: (l', o2) :: (D2, tup2 (Value.int (num : Int) ta) (tx (List.take col T)) t1) :: (D1, tup2 (Value.int 3 tb) (Str.ofString "z") tc) :: (Dc, o5) :: (tl ++ [c1, c2])) l ((.num 3, [122]) :: splitL col k (.num (num : Int)) T) := by
  rw [split_due hc1 hTk (by intro q; injection q with q; omega), hn]
  refine ⟨Value.ref D1 :: Value.ref D2 :: ys, 0, .head _, ?_⟩
  refine TupsIn.cons (led := (l, W.listOf ([Value.ref D1, Value.ref D2] ++ ys).toArray 0) :: (l', o2) :: (D2, tup2 (Value.int (num : Int) ta) (tx (List.take col T)) t1) :: (D1, tup2 (Value.int 3 tb) (Str.ofString "z") tc) :: (Dc, o5) :: (tl ++ [c1, c2])) (hv := Value.int 3 tb) (t := tc) ?_ (fun p hp => hp) (by k_mem) ⟨tb, rfl⟩
  refine TupsIn.cons htups (hv := Value.int (num : Int) ta) (t := t1) (fun p hp => ?_) (by k_mem) ⟨ta, rfl⟩
  exact .tail _ (.tail _ (.tail _ (.tail _ (.tail _ (List.mem_append_left _ hp)))))
theorem add_led {w : World} {A : Around} {E : Value → Shared → Prop} {s : Shared} {h₀ : Heap} {L : Addr} {m : Str → Option Value} {news : List (Addr × Obj)} {l b : Addr} {vs ws : List Value} {n n' : Nat} {Q : Value → Shared → Prop} (F : Fr h₀ L s.heap m) (N : News h₀ L s.heap news)
    (h1 : (l, W.listOf vs.toArray n) ∈ news) (h2 : (b, W.listOf ws.toArray n') ∈ news) (hsz : vs.length + ws.length ≤ sizeLine) (h : ∀ h', Fr h₀ L h' m → News h₀ L h' ((s.heap.objs.size, W.listOf (vs ++ ws).toArray 0) :: news) → Q (.ref s.heap.objs.size) { s with heap := h' }) :
    wpAny (model PW w) A (binaryOp .Add (.ref l) (.ref b)) Q E s := add_lists F N (led_list N h1) (led_list N h2) h hsz
theorem due_end {h₀ h' : Heap} {L r I C D : Addr} {m : Str → Option Value} {s₁ : Shared} {oI oC : Obj} {ys : List Value} {T : List Nat} {col i tk : Nat} {ta tb : Tok} {tl nb : List (Addr × Obj)} (F' : Fr h₀ L h' m)
    (N' : News h₀ L h' ((r, ({ cls := .type "tuple", data := .seq #[Value.str (Str.ofString ">") ta, Value.str (tx (List.take col (List.drop (col + i * col) T))) tb] } : Obj)) :: (I, oI) :: (C, oC) :: (D, lst ys) :: (tl ++ nb))) (off : Off3 I C D (tl ++ nb)) (h1 : r ≠ I) (h2 : r ≠ C) (h3 : r ≠ D) (htups : TupsIn tl ys (gtsL col T i)) :
    CompEnd h₀ L m s₁ I oI C oC D (lst ys) (fun _ => True) (fun y news' => DueJ T col nb (i + 1) (ys ++ [y]) news') (.ref r) { s₁ with heap := h', toks := tk } := by
  refine CompEnd.intro F' N' ((r, ({ cls := .type "tuple", data := .seq #[Value.str (Str.ofString ">") ta, Value.str (tx (List.take col (List.drop (col + i * col) T))) tb] } : Obj)) :: (tl ++ nb)) (fun p hp => ?_) ⟨⟨h1, h2, h3⟩, off⟩ trivial ⟨(r, ({ cls := .type "tuple", data := .seq #[Value.str (Str.ofString ">") ta, Value.str (tx (List.take col (List.drop (col + i * col) T))) tb] } : Obj)) :: tl, rfl, ?_⟩
  · simp only [List.mem_cons] at hp ⊢
    rcases hp with hp | hp | hp | hp | hp
    · exact .inr (.inl hp)
    · exact .inr (.inr (.inl hp))
    · exact .inr (.inr (.inr (.inl hp)))
    · exact .inl hp
    · exact .inr (.inr (.inr (.inr hp)))
  · obtain ⟨q1, q2⟩ := htups
    have e : gtsL col T (i + 1) = gtsL col T i ++ [(Hd.gt, (T.drop (col + i * col)).take col)] := by
      unfold gtsL
      rw [List.range_succ, List.map_append]
      rfl
    rw [e]
    refine ⟨by simp [q1], fun j p hp => ?_⟩
    by_cases hj : j < (gtsL col T i).length
    · rw [List.getElem?_append_left hj] at hp
      obtain ⟨r', hv, t, a, b, c⟩ := q2 j p hp
      exact ⟨r', hv, t, by rw [List.getElem?_append_left (by omega)]; exact a, .tail _ b, c⟩
    · have hje : j = (gtsL col T i).length := by
        have := (List.getElem?_eq_some_iff.mp hp).1
        simp at this; omega
      subst hje
      simp at hp
      subst hp
      exact ⟨r, _, tb, by rw [← q1]; simp, .head _, ⟨ta, rfl⟩⟩
local macro_rules | `(tactic| walk_at "eval Name") => `(tactic| (k_here; (with_reducible show wpAny _ _ (eval (Expr.Name _ _) (envOfC _ _ _ _ _)) _ _ _); k_dflt (refine' nameX_C ?N ?c ?m ?d ?_ ?a ?b; (case a => rfl); (case b => rfl); (case N => k_asm); (case c => rfl); (case m => walk_at "mine mem"); (case d => k_asm); k_whole)))
set_option maxRecDepth 100000 in
set_option maxHeartbeats 8000000 in
theorem due_spec (w : World) (T0 : List Nat) (num col k : Nat) (t1 t2 t3 : Tok) (hc1 : 1 ≤ col) (hc5 : col ≤ 5) (hTk : T0.length ≤ k) (hk40 : k ≤ 40) :
    Tag KK RW (SpecG w (k + 4) 306 [.str (tx T0) t1, .int num t2, .int col t3] [] (fun h _ => True) (fun v news news' => ∃ l tl, v = .ref l ∧ news' = tl ++ news ∧ FoundIn tl l ((.num 3, [122]) :: splitL col k (.num num) T0))) := by
  k_fill
  unfold Tag SpecG
  intro A outer env A₀ base h₀ L m news s mean mg mb Q E hAt hh hdp hP hret
  obtain ⟨B, F, X, N, T, hA, hf, hkk⟩ := hAt
  have KX := X.K
  have hsl := sizeLine_eq
  have hTl : (tx T0).length = T0.length := tx_length T0
  have hTz : (tx T0).length ≤ sizeLine := by omega
  refine wpAny_call ?_
  k_dflt (refine' code_defC (binds := [(Str.ofString "text", Value.str (tx T0) t1), (Str.ofString "number", Value.int num t2), (Str.ofString "column", Value.int col t3)]) ?k1 ?k2 ?k3 ?k4 ?k5 ?kA ?kF ?kK ?k6 ?k7 ?k8 ?k9 ?kB ?kD ?_ ?c2 ?c3 ?c4; (case kA => first | assumption | exact Around.frames_deeper (by assumption)); (case kF => first | assumption | exact rfl); (case kK => first | assumption | exact rfl); (case k1 => k_asm); (case k2 => k_asm); (case k3 => k_asm); (case k4 => k_asm); (case k5 => k_asm); (case k6 => k_is); (case k7 => k_is); (case k8 => ktr_room); (case k9 => exact BindsTo.of_eq rfl); (case kB => exact rfl); (case kD => decide +kernel); (case c2 => exact rfl); (case c3 => exact rfl); (case c4 => exact rfl); k_whole; intro g' L' h' tk' cells' FG' F' N' Y' B' X' T' l1; (try k_lt l1); k_cells Y'; (try simp only [List.cons_append, List.nil_append] at N'); (try dsimp only); (try k_fold))
  have XX := X.keeps (by assumption : Fr h₀ L _ m).keep
  by_cases h0 : num = 0
  · subst h0
    walk_at "mine steps"
    refine hret _ _ _ _ (by assumption) (by assumption) ⟨_, _, rfl, due_split0, due_fin0⟩
  · have hnz : ((num : Int) == 0) = false := beq_eq_false_iff_ne.mpr (by omega)
    have hcz : ((col : Int) == 0) = false := beq_eq_false_iff_ne.mpr (by omega)
    have hcz2 : (col : Int) ≠ 0 := by omega
    walk_at "mine steps"
    k_dflt (refine Assign_comp_step (by k_asm) (by rfl) (by with_unfolding_all rfl) (by with_unfolding_all rfl) (by decide) (by rfl) (by decide) (by rfl) (by rfl) (by rfl) ?_)
    walk_at "mine steps"
    rename IsRange _ _ _ _ _ _ _ _ => hR
    rw [hTl] at hR
    obtain ⟨n, hn⟩ : ∃ n, nSl col T0.length = n := ⟨_, rfl⟩
    have hn100 : n ≤ 100 := by
      rw [← hn]
      unfold nSl
      split
      · have := Nat.div_le_self (T0.length - col - 1) col
        omega
      · omega
    have hrs : Builtin.Range.rangeSize (col : Int) (T0.length : Int) (col : Int) = ((n : Nat) : Int) := by rw [← hn]; exact range_step hc1
    refine ⟨_, _, _, _, _, _, _, n, _, rfl, by with_unfolding_all assumption, by assumption, by assumption, hR, ?hsm, hrs, ?hsz, ?_⟩
    case hsm =>
      unfold Builtin.Range.small
      rw [hrs, fits_nat (z := (col : Int)) (by omega) (by omega), fits_nat (z := (T0.length : Int)) (by omega) (by omega), fits_nat (z := (n : Int)) (by omega) (by omega), if_pos (by omega), fits_nat (z := (T0.length : Int) + ((col : Int) - 1)) (by omega) (by omega)]
      simp
    case hsz => omega
    rintro s₂ ⟨h2, rfl⟩
    with_reducible refine compRest0 (DueJ T0 col) ?hj ?turn ?fin
    case hj => exact ⟨[], rfl, rfl, fun i p hp => (by cases hp)⟩
    case turn =>
      rintro i ys news₁ v I oI C oC D m₂ h tk E' hi ⟨tl, rfl, htups⟩ ⟨tv, rfl⟩ hC hx F₁ N₁ hoff ⟨ne1, ne2, ne3⟩
      have hil : col + i * col ≤ T0.length := nSl_in hc1 (by rw [hn]; exact hi)
      have hcut := cut_any (T := T0) (i := col + i * col) (c := col) hil
      have hcut2 : Txt.slice (tx T0) (some ((col : Int) + (i : Int) * (col : Int))) (some ((col : Int) + (i : Int) * (col : Int) + (col : Int))) = tx (List.take col (List.drop (col + i * col) T0)) := by
        rw [← hcut]
        push_cast
        rfl
      walk_at "mine steps"
      exact due_end (by assumption) (by assumption) hoff (by k_ne) (by k_ne) (by k_ne) htups
    case fin =>
      rintro ys news₁ ⟨tl, rfl, htups⟩
      have htk := take_any T0 col
      have hysz : ys.length ≤ 100 := by
        rw [htups.1]
        show (List.map _ (List.range n)).length ≤ 100
        rw [List.length_map, List.length_range]
        exact hn100
      walk_at "FinA"
      walk_at "mine steps"
      refine hret _ _ _ _ (by assumption) (by assumption) ⟨_, _, rfl, due_split, due_fin h0 hc1 hTk hn htups⟩
end
-- Pl1
section
/-! What lies in a text behind a place. -/
section
variable {l X S : List Nat} {q i c : Nat}
theorem dr_get (H : l.drop q = X ++ S) (h : X[i]? = some c) : (tx l).cps[q + i]? = some c := by
  have hi := (List.getElem?_eq_some_iff.mp h).1
  show l.toArray[q + i]? = _
  rw [List.getElem?_toArray, ← List.getElem?_drop, H, List.getElem?_append_left hi, h]
theorem dr_next (H : l.drop q = X ++ S) : l.drop (q + X.length) = S := by rw [← List.drop_drop, H, List.drop_left]
theorem dr_run {f : Nat → Bool} {z : Int} (H : l.drop q = X ++ S) (hX : ∀ c ∈ X, f c = true) (hz : z = (q : Nat)) : ∀ i, i < X.length → ∃ c, (tx l).cps[(z + (i : Int)).toNat]? = some c ∧ f c = true := by
  subst hz
  exact fun i hi => ⟨X[i], dr_get H (List.getElem?_eq_getElem hi), hX _ (List.getElem_mem hi)⟩
theorem dr_at {z : Int} (H : l.drop q = c :: S) (hz : z = (q : Nat)) : (tx l).cps[z.toNat]? = some c := by
  subst hz
  exact dr_get (X := [c]) (i := 0) H rfl
theorem dr_cut (H : l.drop q = X ++ S) (h : X.length = c) (hq : q ≤ l.length) : Txt.slice (tx l) (some (q : Int)) (some ((q : Int) + (c : Int))) = tx X := by
  have := cut_any (T := l) (i := q) (c := c) hq
  push_cast at this
  rw [this, H, ← h, List.take_left]
theorem dr_le (H : l.drop q = c :: S) : q < l.length := Nat.lt_of_sub_pos (by rw [← List.length_drop, H]; exact Nat.succ_pos _)
theorem dr_end (H : l.drop q = X ++ S) (hq : q ≤ l.length) : q + X.length ≤ l.length := Nat.add_le_of_le_sub' hq (by rw [← List.length_drop, H, List.length_append]; exact Nat.le_add_right _ _)
theorem dr_line (h : l.length ≤ 100000) : (tx l).length ≤ sizeLine := by rw [tx_length, sizeLine_eq]; exact Nat.le_trans h (by decide)
theorem dr_int {n : Nat} (h : q < l.length) (hl : l.length ≤ 100000) (hn : Nat.ble 100000 n = true) : (q : Int) < (n : Nat) := Int.ofNat_lt.mpr (Nat.lt_of_lt_of_le h (Nat.le_trans hl (Nat.le_of_ble_eq_true hn)))
end
noncomputable def okSign (c : Nat) : Prop := 2 ≤ c ∧ (c < 55296 ∨ c = 128512)
theorem contains_one (l : List Nat) (c : Nat) : (l.map fun d => (⟨#[d]⟩ : Str)).contains ⟨#[c]⟩ = l.contains c := by
  induction l with
  | nil => rfl
  | cons d l ih => rw [List.map_cons, List.contains_cons, List.contains_cons, ih, one_eq]
theorem not_one {l : List Nat} {c n : Nat} (hl : l.all (fun d => Nat.blt d n) = true) (h : n ≤ c) : (l.map fun d => (⟨#[d]⟩ : Str)).contains ⟨#[c]⟩ = false := by
  rw [contains_one]
  cases e : l.contains c with
  | false => rfl
  | true => exact absurd (Nat.lt_of_lt_of_le (Nat.le_of_ble_eq_true (List.all_eq_true.mp hl c (List.contains_iff_mem.mp e))) h) (Nat.lt_irrefl _)
theorem ill_big {c : Nat} (h : 128 ≤ c) : illMultiL.contains ⟨#[c]⟩ = false :=
  not_one (l := [0, 1, 2, 3, 4, 5, 6, 7, 8, 11, 12, 13, 14, 15, 16, 17, 18, 19, 20, 21, 22, 23, 24, 25, 26, 27, 28, 29, 30, 31, 127]) (n := 128) rfl h
theorem raw_reads {w : World} {l S : List Nat} {p c : Nat} {b : Bool} (h : mustB c b = false) (H : l.drop p = [c] ++ S) : Reads1 w (tx l) p (p + 1) [c] := by
  have F : ∀ c, c < 128 → ∀ b, mustB c b = false → c ≠ 34 ∧ c ≠ 92 ∧ illMultiL.contains ⟨#[c]⟩ = false := by decide +kernel
  have f : c ≠ 34 ∧ c ≠ 92 ∧ illMultiL.contains ⟨#[c]⟩ = false := by
    by_cases hc : c < 128
    · exact F c hc b h
    · exact ⟨fun e => hc (e ▸ by decide), fun e => hc (e ▸ by decide), ill_big (Nat.le_of_not_lt hc)⟩
  exact .raw (dr_at H rfl) f.1 f.2.1 f.2.2 (.done _)
theorem ite_some {c a x z : Nat} {r : Option Nat} {G : Prop} (h : (if c = a then some x else r) = some z) (f : a = c → x = z → G) (k : r = some z → G) : G := by
  by_cases e : c = a
  · rw [if_pos e] at h; exact f e.symm (Option.some.inj h)
  · rw [if_neg e] at h; exact k h
noncomputable def ShortOk (c z : Nat) : Prop := (false || decide (tx [92, z] = Str.ofString "\\ ") || decide (tx [92, z] = Str.ofString "\\\t") || decide (tx [92, z] = Str.ofString "\\\n")) = false ∧ (tx [92, z] == Str.ofString "\\u") = false ∧ (tx [92, z] == Str.ofString "\\U") = false ∧ KTD.datumAt (tx [92, z]) escD = some (.flat (.str (tx [c])))
theorem short_ok {c z : Nat} (h : shortOf c = some z) : ShortOk c z :=
  ite_some h (fun a b => a ▸ b ▸ ⟨rfl, rfl, rfl, rfl⟩) fun h => ite_some h (fun a b => a ▸ b ▸ ⟨rfl, rfl, rfl, rfl⟩) fun h => ite_some h (fun a b => a ▸ b ▸ ⟨rfl, rfl, rfl, rfl⟩) fun h =>
    ite_some h (fun a b => a ▸ b ▸ ⟨rfl, rfl, rfl, rfl⟩) fun h => ite_some h (fun a b => a ▸ b ▸ ⟨rfl, rfl, rfl, rfl⟩) fun h => nomatch h
theorem short_reads {w : World} {l S : List Nat} {p c z : Nat} (hz : shortOf c = some z) (H : l.drop p = [92, z] ++ S) (hl : l.length ≤ 100000) : Reads1 w (tx l) p (p + 2) [c] := by
  have f := short_ok hz
  have hp := dr_le H
  exact .esc (o := [c]) (out := []) (dr_at H rfl) (fun t1 t2 => escS_spec w _ _ _ _ t1 t2 (Int.natCast_nonneg _) (dr_int hp hl rfl) (dr_line hl) (dr_cut (X := [92, z]) (c := 2) H rfl (Nat.le_of_lt hp)) f.1 f.2.1 f.2.2.1 f.2.2.2) (Nat.lt_add_of_pos_right (by decide)) (by rw [Nat.add_sub_cancel_left]; exact Nat.le_succ 1) (.done _)
theorem figs_lt : ∀ (k n : Nat), ∀ d ∈ figs k n, d < 16
  | 0, _, _, h => by cases h
  | k + 1, n, d, h => by
    rw [figs] at h
    rcases List.mem_append.mp h with h | h
    · exact figs_lt k _ d h
    · rw [List.mem_singleton.mp h]; exact Nat.mod_lt _ (by decide)
theorem figs_val : ∀ (k n : Nat), n < 16 ^ k → hexVal (figs k n) = n
  | 0, n, h => by
    have : n = 0 := by simpa using h
    subst this; rfl
  | k + 1, n, h => by
    have h2 : n / 16 < 16 ^ k := by rw [Nat.pow_succ] at h; omega
    have ih := figs_val k (n / 16) h2
    unfold hexVal at ih ⊢
    rw [figs, List.foldl_append, ih]
    show n / 16 * 16 + n % 16 = n
    omega
theorem hex_sup {ds : List Nat} (h : ∀ d ∈ ds, d < 16) : ∀ c ∈ (hexTxt ds).cps.toList, hexL.contains ⟨#[c]⟩ = true := by
  intro c hc'
  have : c ∈ ds.map hc := hc'
  obtain ⟨d, hd, rfl⟩ := List.mem_map.mp this
  have : ∀ d, d < 16 → hexL.contains ⟨#[hc d]⟩ = true := by decide +kernel
  exact this d (h d hd)
theorem hex_facts {c n : Nat} (hok : okSign c) (hc : c < 16 ^ n) (hn : 0 < n) (h8 : n ≤ 8) : hexVal (figs n c) = c ∧ (hexTxt (figs n c)).length = n ∧ (hexTxt (figs n c)).length ≤ sizeLine ∧ figs n c ≠ [] ∧ (figs n c).length ≤ 8 ∧ (hexVal (figs n c) ≤ 55295 ∨ 57344 ≤ hexVal (figs n c)) ∧ hexVal (figs n c) ≤ 1114111 := by
  have hl := figs_len n c
  rw [figs_val n c hc, hex_len, hl]
  refine ⟨rfl, rfl, Nat.le_trans h8 (by rw [sizeLine_eq]; decide), fun q => ?_, h8, ?_⟩
  · rw [q] at hl; exact absurd hl (Nat.ne_of_lt hn)
  · rcases hok.2 with h | h
    · exact ⟨.inl (Nat.le_of_lt_succ h), Nat.le_trans (Nat.le_of_lt h) (by decide)⟩
    · subst h; decide
theorem u_reads {w : World} {l S : List Nat} {p c : Nat} (hok : okSign c) (h16 : c < 65536) (H : l.drop p = (92 :: 117 :: (figs 4 c).map hc) ++ S) (hl : l.length ≤ 100000) : Reads1 w (tx l) p (p + 6) [c] := by
  have hp := dr_le H
  have H2 := dr_next (X := [92, 117]) H
  obtain ⟨hv, f1, f2, f3, f4, f5, f6⟩ := hex_facts (n := 4) hok h16 (by decide) (by decide)
  refine .esc (o := [c]) (out := []) (dr_at H rfl) (fun t1 t2 => ?_) (Nat.lt_add_of_pos_right (by decide)) (by rw [Nat.add_sub_cancel_left]; exact Nat.le_add_left 1 5) (.done _)
  have := escu_spec w (tx l) (tx [92, 117]) (p : Int) (figs 4 c) t1 t2 (Int.natCast_nonneg _) (dr_int hp hl rfl) (dr_line hl) (dr_cut (X := [92, 117]) (c := 2) H rfl (Nat.le_of_lt hp)) rfl rfl (dr_cut H2 f1 (dr_end (X := [92, 117]) H (Nat.le_of_lt hp))) f1 f2 (figs_lt 4 c) f3 f4 (hex_sup (figs_lt 4 c)) f5 f6
  rw [hv] at this
  exact this
theorem U_reads {w : World} {l S : List Nat} {p c : Nat} (hok : okSign c) (H : l.drop p = (92 :: 85 :: (figs 8 c).map hc) ++ S) (hl : l.length ≤ 100000) : Reads1 w (tx l) p (p + 10) [c] := by
  have hp := dr_le H
  have H2 := dr_next (X := [92, 85]) H
  obtain ⟨hv, f1, f2, f3, f4, f5, f6⟩ := hex_facts (n := 8) hok (by unfold okSign at hok; omega) (by decide) (by decide)
  refine .esc (o := [c]) (out := []) (dr_at H rfl) (fun t1 t2 => ?_) (Nat.lt_add_of_pos_right (by decide)) (by rw [Nat.add_sub_cancel_left]; exact Nat.le_add_left 1 9) (.done _)
  have := escU_spec w (tx l) (tx [92, 85]) (p : Int) (figs 8 c) t1 t2 (Int.natCast_nonneg _) (dr_int hp hl rfl) (dr_line hl) (dr_cut (X := [92, 85]) (c := 2) H rfl (Nat.le_of_lt hp)) rfl rfl rfl (dr_cut H2 f1 (dr_end (X := [92, 85]) H (Nat.le_of_lt hp))) f1 f2 (figs_lt 8 c) f3 f4 (hex_sup (figs_lt 8 c)) f5 f6
  rw [hv] at this
  exact this
/-- a sign's spelling is read as the sign -/
theorem spell_reads {w : World} {l S : List Nat} {p c mn : Nat} {b : Bool} (hok : okSign c) (H : l.drop p = spell c mn b ++ S) (hl : l.length ≤ 100000) : Reads1 w (tx l) p (p + (spell c mn b).length) [c] := by
  unfold spell at H ⊢
  split at H
  · next h =>
    rw [if_pos h]
    exact raw_reads h.2 H
  · next h =>
    rw [if_neg h]
    split at H
    · next z hz =>
      split at hz
      · exact short_reads hz H hl
      · cases hz
    · next hz =>
      split at H
      · next g =>
        show Reads1 w (tx l) p (p + (ite _ _ _ : List Nat).length) [c]
        rw [if_pos g]
        have : (92 :: 85 :: (figs 8 c).map hc).length = 10 := by rw [List.length_cons, List.length_cons, List.length_map, figs_len]
        rw [this]
        exact U_reads hok H hl
      · next g =>
        show Reads1 w (tx l) p (p + (ite _ _ _ : List Nat).length) [c]
        rw [if_neg g]
        have : (92 :: 117 :: (figs 4 c).map hc).length = 6 := by rw [List.length_cons, List.length_cons, List.length_map, figs_len]
        rw [this]
        exact u_reads hok (by omega) H hl
end
-- Pl2
section
theorem wsnl_one {c : Nat} : wsnlL.contains ⟨#[c]⟩ = ([32, 9, 10] : List Nat).contains c := by
  have e : wsnlL = ([32, 9, 10] : List Nat).map fun d => (⟨#[d]⟩ : Str) := rfl
  rw [e, contains_one]
theorem ws_one {c : Nat} : wsL.contains ⟨#[c]⟩ = ([32, 9] : List Nat).contains c := by
  have e : wsL = ([32, 9] : List Nat).map fun d => (⟨#[d]⟩ : Str) := rfl
  rw [e, contains_one]
noncomputable def white (c : Nat) : Prop := c = 32 ∨ c = 9 ∨ c = 10
theorem all_in {f : Nat → Bool} {l : List Nat} {c : Nat} (hl : l.all f = true) (h : c ∈ l) : f c = true := List.all_eq_true.mp hl c h
theorem blanks_ws {j c : Nat} (h : c ∈ blanks j) : c = 32 ∨ c = 9 := by
  have : (c == 32 || c == 9) = true := by
    unfold blanks at h
    split at h <;> exact all_in (f := fun c => c == 32 || c == 9) rfl h
  rw [Bool.or_eq_true, beq_iff_eq, beq_iff_eq] at this
  exact this
theorem whites_ws {j c : Nat} (h : c ∈ whites j) : white c := by
  have : (c == 32 || (c == 9 || c == 10)) = true := by
    unfold whites at h
    split at h <;> exact all_in (f := fun c => c == 32 || (c == 9 || c == 10)) rfl h
  rw [Bool.or_eq_true, Bool.or_eq_true, beq_iff_eq, beq_iff_eq, beq_iff_eq] at this
  exact this
theorem white_in {c : Nat} (h : white c) : wsnlL.contains ⟨#[c]⟩ = true := by
  rcases h with rfl | rfl | rfl <;> rfl
theorem white_out {c : Nat} (h : ¬ white c) : wsnlL.contains ⟨#[c]⟩ = false := by
  rw [wsnl_one]
  cases e : ([32, 9, 10] : List Nat).contains c with
  | false => rfl
  | true =>
    rcases List.mem_cons.mp (List.contains_iff_mem.mp e) with e | e
    · exact absurd (.inl e) h
    · rcases List.mem_cons.mp e with e | e
      · exact absurd (.inr (.inl e)) h
      · exact absurd (.inr (.inr (List.mem_singleton.mp e))) h
theorem blank_in {c : Nat} (h : c = 32 ∨ c = 9) : wsL.contains ⟨#[c]⟩ = true := by
  rcases h with rfl | rfl <;> rfl
theorem head_blank {b0 : Nat} (h : b0 = 32 ∨ b0 = 9) : ((false || decide (tx [92, b0] = Str.ofString "\\ ") || decide (tx [92, b0] = Str.ofString "\\\t") || decide (tx [92, b0] = Str.ofString "\\\n")) = true) ∧ (tx [92, b0] != Str.ofString "\\\n") = true := by
  rcases h with rfl | rfl
  · exact ⟨rfl, rfl⟩
  · exact ⟨rfl, rfl⟩
/-- a fold is read as nothing -/
theorem fold_reads {w : World} {l S : List Nat} {p j k nx : Nat} (hn : ¬ white nx) (H : l.drop p = ([92] ++ blanks j ++ [10] ++ whites k) ++ nx :: S) (hl : l.length ≤ 100000) :
    Reads1 w (tx l) p (p + ([92] ++ blanks j ++ [10] ++ whites k).length) [] := by
  rw [List.append_assoc, List.append_assoc, List.append_assoc, List.singleton_append] at H
  have hp : p < l.length := dr_le H
  have hwl := whites_le k
  have hws : ∀ c ∈ whites k, wsnlL.contains ⟨#[c]⟩ = true := fun c h => white_in (whites_ws h)
  have hnx := white_out hn
  have hbl := blanks_le j
  have hbw : ∀ c ∈ blanks j, c = 32 ∨ c = 9 := fun c h => blanks_ws h
  generalize whites k = W at *
  cases hb : blanks j with
  | nil =>
    rw [hb] at H
    have H2 : l.drop (p + 2) = W ++ nx :: S := dr_next (X := [92, 10]) H
    have e : p + ([92] ++ [] ++ [10] ++ W).length = p + 2 + W.length := by rw [List.length_append, ← Nat.add_assoc]; rfl
    rw [e]
    exact .esc (o := []) (out := []) (dr_at (z := p) H rfl) (fun t1 t2 => escF_spec w _ _ (p : Int) W.length t1 t2 (Int.natCast_nonneg _) (dr_int hp hl rfl) (Nat.lt_of_le_of_lt hwl (by decide)) (dr_line hl) (dr_cut (X := [92, 10]) (c := 2) H rfl (Nat.le_of_lt hp)) rfl rfl (dr_run H2 hws rfl) ⟨nx, dr_at (dr_next H2) rfl, hnx⟩)
      (Nat.lt_of_lt_of_le (Nat.lt_add_of_pos_right (by decide)) (Nat.le_add_right _ _)) (Nat.zero_le _) (.done _)
  | cons b0 bs =>
    rw [hb] at H hbl hbw
    have he := head_blank (hbw b0 (.head _))
    have H1 : l.drop p = [92, b0] ++ (bs ++ 10 :: (W ++ nx :: S)) := H
    have H2 : l.drop (p + 2) = bs ++ 10 :: (W ++ nx :: S) := dr_next (X := [92, b0]) H1
    have H3 := dr_next H2
    have H4 : l.drop (p + 2 + bs.length + 1) = W ++ nx :: S := dr_next (X := [10]) H3
    have e : p + ([92] ++ (b0 :: bs) ++ [10] ++ W).length = p + 2 + bs.length + 1 + W.length := by simp only [List.length_append, List.length_cons, List.length_nil]; omega
    rw [e]
    exact .esc (o := []) (out := []) (dr_at (z := p) H1 rfl) (fun t1 t2 => escG_spec w _ _ (p : Int) bs.length W.length t1 t2 (Int.natCast_nonneg _) (dr_int hp hl rfl) (Nat.lt_of_le_of_lt (Nat.le_of_succ_le hbl) (by decide)) (Nat.lt_of_le_of_lt hwl (by decide)) (dr_line hl) (dr_cut (X := [92, b0]) (c := 2) H1 rfl (Nat.le_of_lt hp)) he.1 he.2
      (dr_run H2 (fun c h => blank_in (hbw c (.tail _ h))) rfl) (dr_at H3 rfl) (dr_run H4 hws rfl) ⟨nx, dr_at (dr_next H4) rfl, hnx⟩) (by omega) (Nat.zero_le _) (.done _)
/-- a piece's signs -/
theorem piece_reads {w : World} {dr : List (Nat × Nat)} {a : Nat} {p l : List Nat} {q : Nat} (hok : ∀ c ∈ p, okSign c) (hl : l.length ≤ 100000) : ∀ (n : Nat) (S : List Nat), n ≤ p.length → l.drop q = pieceT dr a p n ++ S → Reads1 w (tx l) q (q + (pieceT dr a p n).length) (p.take n)
  | 0, S, _, _ => by simp [pieceT]; exact .done _
  | n + 1, S, hn, H => by
    rw [pieceT_succ, List.append_assoc] at H
    have h1 := piece_reads (w := w) hok hl n (sgn dr a p n ++ S) (Nat.le_of_succ_le hn) H
    have hg : p.getD n 0 = p[n] := by rw [List.getD_eq_getElem?_getD, List.getElem?_eq_getElem hn]; rfl
    have h2 : Reads1 w (tx l) (q + (pieceT dr a p n).length) (q + (pieceT dr a p n).length + (sgn dr a p n).length) [p.getD n 0] :=
      spell_reads (by rw [hg]; exact hok _ (List.getElem_mem hn)) (dr_next H) hl
    have e3 : p.take (n + 1) = p.take n ++ [p[n]] := by rw [List.take_add_one, List.getElem?_eq_getElem hn]; rfl
    rw [e3, pieceT_succ, List.length_append, ← Nat.add_assoc]
    rw [hg] at h2
    exact h1.trans h2
/-- a spelling at a piece's head begins with no white sign -/
theorem spell_head {c mn : Nat} : ∃ x r, spell c mn true = x :: r ∧ ¬ white x := by
  have h92 : ¬ white 92 := by unfold white; decide
  unfold spell
  split
  · next h => exact ⟨c, [], rfl, fun k => by rcases k with rfl | rfl | rfl <;> exact absurd h.2 (by decide)⟩
  · split
    · exact ⟨92, _, rfl, h92⟩
    · split
      · exact ⟨92, _, rfl, h92⟩
      · exact ⟨92, _, rfl, h92⟩
theorem piece_head {dr : List (Nat × Nat)} {a : Nat} {p : List Nat} (hp : p ≠ []) : ∃ x r, pieceT dr a p p.length = x :: r ∧ ¬ white x := by
  obtain ⟨c, q, rfl⟩ := List.exists_cons_of_ne_nil hp
  obtain ⟨x, r, h1, h2⟩ := spell_head (c := c) (mn := (dr.getD ((a + 0) % dr.length) (0, 0)).2)
  refine ⟨x, r ++ (List.range q.length).flatMap (fun j => sgn dr a (c :: q) (j + 1)), ?_, h2⟩
  unfold pieceT
  rw [List.length_cons, List.range_succ_eq_map, List.flatMap_cons, List.flatMap_map]
  have e : sgn dr a (c :: q) 0 = x :: r := h1
  rw [e]
  rfl
/-- the pieces, read from the front (no fold is broken up to k) -/
theorem wr_reads {w : World} {sd br q : Nat} {dr : List (Nat × Nat)} {ps : List (List Nat)} {l : List Nat} (hok : ∀ p ∈ ps, ∀ c ∈ p, okSign c) (hne : ∀ p ∈ ps, p ≠ []) (hl : l.length ≤ 100000) :
    ∀ (k : Nat) (S : List Nat), k ≤ ps.length → (br = 0 ∨ k ≤ br) → l.drop q = wr sd br dr ps k ++ S → Reads1 w (tx l) q (q + (wr sd br dr ps k).length) ((ps.take k).flatten)
  | 0, S, _, _, _ => by simp [wr]; exact .done _
  | k + 1, S, hk, hb, H => by
    have hp : ps.getD k [] = ps[k] := by rw [List.getD_eq_getElem?_getD, List.getElem?_eq_getElem hk]; rfl
    have hpm : ps[k] ∈ ps := List.getElem_mem hk
    have es : wr sd br dr ps (k + 1) = wr sd br dr ps k ++ (gap sd br k ++ pieceT dr (atOf ps k) ps[k] ps[k].length) := by rw [wr_succ]; unfold segT; rw [hp]
    have l4 : (ps.take (k + 1)).flatten = (ps.take k).flatten ++ [] ++ ps[k] := by rw [List.take_add_one, List.getElem?_eq_getElem hk, Option.toList_some, List.flatten_append, List.flatten_singleton, List.append_nil]
    rw [es, List.append_assoc, List.append_assoc] at H
    rw [es, l4, List.length_append, List.length_append, ← Nat.add_assoc, ← Nat.add_assoc]
    have h1 := wr_reads (w := w) (q := q) hok hne hl k _ (Nat.le_of_succ_le hk) (hb.imp_right Nat.le_of_succ_le) H
    have H2 := dr_next H
    have h3 := piece_reads (w := w) (hok _ hpm) hl _ S (Nat.le_refl _) (dr_next H2)
    rw [List.take_length] at h3
    refine (h1.trans ?_).trans h3
    clear h3 h1
    by_cases hk0 : k = 0
    · subst hk0
      exact .done _
    · obtain ⟨x, r, hx1, hx2⟩ := piece_head (dr := dr) (a := atOf ps k) (hne _ hpm)
      have hgp : gap sd br k = [92] ++ blanks (foldOf sd k % 4) ++ [10] ++ whites (foldOf sd k / 4) := by rw [gap_pos (Nat.pos_of_ne_zero hk0), if_neg (by omega), List.append_nil]
      rw [hx1, hgp] at H2
      rw [hgp]
      exact fold_reads hx2 H2 hl
end
-- Wk21
section
theorem starts_at {L Y : List Nat} {i : Nat} (hi : i ≤ L.length) : Txt.startswith3 (tx L) (tx Y) (i : Int) = ((L.drop i).take Y.length == Y) := by
  have hl : (tx L).length = L.length := tx_length L
  have hy : (tx Y).length = Y.length := tx_length Y
  have hf : fromIndex (tx L).length (i : Int) = i := by
    unfold fromIndex
    rw [if_neg (Int.not_lt.mpr (Int.natCast_nonneg i)), Int.max_eq_right (Int.natCast_nonneg i)]
    rfl
  unfold Txt.startswith3
  rw [hf, StrLaws.subAt_eq, hl, hy]
  show (decide (i + Y.length ≤ L.length) && ((L.drop i).take Y.length == Y)) = _
  by_cases h : i + Y.length ≤ L.length
  · rw [decide_eq_true h, Bool.true_and]
  · rw [decide_eq_false h, Bool.false_and]
    symm
    rw [beq_eq_false_iff_ne]
    intro q
    have := congrArg List.length q
    rw [List.length_take, List.length_drop] at this
    omega
noncomputable abbrev openK : List Nat := [107, 32, 61, 32, 34, 34, 34]
noncomputable def srcL (op inner mo : List Nat) : List Nat := openK ++ op ++ inner ++ [34, 34, 34] ++ mo ++ [35]
theorem src_tx (op inner mo : List Nat) : Str.ofString "k = \"\"\"" ++ tx op ++ tx inner ++ Str.ofString "\"\"\"" ++ tx mo ++ Str.ofString "#" = tx (srcL op inner mo) := by
  rw [show Str.ofString "k = \"\"\"" = tx openK from rfl, show Str.ofString "\"\"\"" = tx [34, 34, 34] from rfl, show Str.ofString "#" = tx [35] from rfl, tx_append, tx_append, tx_append, tx_append, tx_append]
  rfl
theorem atOf_flat {ps : List (List Nat)} : atOf ps ps.length = ps.flatten.length := by
  unfold atOf
  rw [List.take_length, List.length_flatten]
theorem wr_head {sd br : Nat} {dr : List (Nat × Nat)} {ps : List (List Nat)} (hne : ∀ p ∈ ps, p ≠ []) : ∀ k, k ≤ ps.length → wr sd br dr ps k = [] ∨ ∃ x r, wr sd br dr ps k = x :: r ∧ ¬ white x
  | 0, _ => .inl rfl
  | k + 1, hk => by
    rcases wr_head (sd := sd) (br := br) (dr := dr) hne k (by omega) with h | ⟨x, r, h, hx⟩
    · rw [wr_succ, h]
      by_cases hk0 : k = 0
      · subst hk0
        have hp : ps.getD 0 [] = ps[0] := by rw [List.getD_eq_getElem?_getD, List.getElem?_eq_getElem (by omega)]; rfl
        obtain ⟨x, r, h1, h2⟩ := piece_head (dr := dr) (a := atOf ps 0) (hne ps[0] (List.getElem_mem _))
        refine .inr ⟨x, r, ?_, h2⟩
        unfold segT
        rw [hp, h1]
        rfl
      · unfold segT
        rw [gap_pos (by omega)]
        exact .inr ⟨92, _, rfl, by unfold white; omega⟩
    · rw [wr_succ, h]
      exact .inr ⟨x, _, rfl, hx⟩
/-- a contract with room on the machine's own stack -/
noncomputable def SpecU (w : World) (d u : Nat) (f : Addr) (vs : List Value) (P : Heap → List (Addr × Obj) → Prop) (R : Value → List (Addr × Obj) → List (Addr × Obj) → Prop) : Prop :=
  ∀ (A : Around) (outer : List Env) (env : Env) (A₀ : Around) (base h₀ : Heap) (L : Addr) (m : Str → Option Value) (news : List (Addr × Obj)) (s : Shared) (mean : ExcName → Option Value) (mg mb : Str → Option Value) (Q E : Value → Shared → Prop),
    At w A outer env A₀ base h₀ L m news s.heap mean mg mb → A.handled = none → A.depth + d < recursionLimit → A.units + u < cLine → P h₀ news →
    (∀ v news' h' tk', Fr h₀ L h' m → News h₀ L h' news' → R v news news' → Q v { s with heap := h', toks := tk' }) →
    wpAny (model PW w) A (call (.ref f) vs) Q E s
theorem call_specU {w : World} {d u : Nat} {f : Addr} {vs : List Value} {P : Heap → List (Addr × Obj) → Prop} {R : Value → List (Addr × Obj) → List (Addr × Obj) → Prop} (S : Tag KK RW (SpecU w d u f vs P R)) {A : Around} {outer : List Env} {env : Env} {A₀ : Around} {base h₀ : Heap} {L : Addr} {m : Str → Option Value} {news : List (Addr × Obj)} {s : Shared} {mean : ExcName → Option Value} {mg mb : Str → Option Value} {Q E : Value → Shared → Prop}
    (B : Below A₀ base outer h₀) (F : Fr h₀ L s.heap m) (X : Facts w h₀) (N : News h₀ L s.heap news) (T : TopQ w mean mg mb h₀) (hA : A.frames = some (env :: outer)) (hf : env.frame = some L) (hk : env.scope.kind = .function)
    (hh : A.handled = none) (hd : A.depth + d < recursionLimit) (hu : A.units + u < cLine) (hP : P h₀ news)
    (h : ∀ v news' h' tk', R v news news' → Fr h₀ L h' m → News h₀ L h' news' → Q v { s with heap := h', toks := tk' }) :
    wpAny (model PW w) A (call (.ref f) vs) Q E s :=
  S A outer env A₀ base h₀ L m news s mean mg mb Q E ⟨B, F, X, N, T, hA, hf, hk⟩ hh hd hu hP fun v news' h' tk' F' N' r => h v news' h' tk' r F' N'
open PyProof.V PySem.Spec in
theorem tup_eq {w : World} {A : Around} {E : Value → Shared → Prop} {s : Shared} {h₀ : Heap} {L : Addr} {news : List (Addr × Obj)} {a b : Addr} {i j : Int} {x y : Str} {t t' u u' : Tok} {Q : Value → Shared → Prop} (N : News h₀ L s.heap news)
    (h1 : (a, ({ cls := .type "tuple", data := .seq #[.int i t, .str x t'] } : Obj)) ∈ news) (h2 : (b, ({ cls := .type "tuple", data := .seq #[.int j u, .str y u'] } : Obj)) ∈ news) (e1 : i = j) (e2 : x = y) (hx : PyData.strOk x = true) (hu : A.units + 64 < cLine)
    (h : Q (.bool true) s) : wpAny (model PW w) A (compareOp .Eq (.ref a) (.ref b)) Q E s := by
  subst e1 e2
  have ok : kqdOk 8 (.tuple [.int i, .str x]) = true := by simp [kqdOk, hx]
  obtain ⟨as, ra⟩ := kqd_in N 8 (d := .tuple [.int i, .str x]) (.tuple (vs := [.int i t, .str x t']) h1 (.cons (.int _ _) (.cons (.str _ _) .nil))) ok
  obtain ⟨bs, rb⟩ := kqd_in N 8 (d := .tuple [.int i, .str x]) (.tuple (vs := [.int i u, .str x u']) h2 (.cons (.int _ _) (.cons (.str _ _) .nil))) ok
  have la := kqd_lay 8 _ ok
  have sh : SeqAt.shaped (kqdP (.tuple [.int i, .str x])) = true := by
    unfold SeqAt.shaped; rw [la.1, Bool.true_and]; exact decide_eq_true (Nat.le_trans la.2 (by decide))
  refine eq_dataH ra rb sh sh hu ?_
  have := (kqd_eqv 8 (.tuple [.int i, .str x]) (.tuple [.int i, .str x]) 8 ok ok).mpr rfl
  rw [this]
  exact h
/-- a text as it is written, read -/
structure WholeAt (w : World) (L : List Nat) (p e k : Nat) (ob : Bool) (T : List Nat) : Prop where
  len : L.length = e + 3 + k + 1
  reads : Reads1 w (tx L) p e T
  quote : Txt.startswith3 (tx L) (tx [34, 34, 34]) ((e : Nat) : Int) = true
  q1 : Txt.startswith3 (tx L) (tx [34]) ((e + 3 : Nat) : Int) = decide (1 ≤ k)
  q2 : Txt.startswith3 (tx L) (tx [34]) ((e + 3 + 1 : Nat) : Int) = decide (2 ≤ k)
  lf : Txt.startswith3 (tx L) (tx [10]) ((4 + 3 : Nat) : Int) = ob
  back : (tx L).cps[e]? = some 34
theorem whole_facts {w : World} {sd mk : Nat} {ob : Bool} {dr : List (Nat × Nat)} {ps : List (List Nat)} {op mo inner T0 : List Nat} (hop : (if ob then [10] else [] : List Nat) = op) (hmo : List.replicate mk 34 = mo) (hok : ∀ p ∈ ps, ∀ c ∈ p, okSign c) (hne : ∀ p ∈ ps, p ≠ []) (hmk : mk ≤ 2)
    (hwr : wr sd 0 dr ps ps.length = inner) (hflat : ps.flatten = T0) (hin2 : inner.length ≤ 1500) : WholeAt w (srcL op inner mo) (4 + 3 + ob.toNat) (4 + 3 + ob.toNat + inner.length) mk ob T0 := by
  have hopn : op.length = ob.toNat := by rw [← hop]; cases ob <;> rfl
  have hmon : mo.length = mk := by rw [← hmo]; exact List.length_replicate
  have H0 : (srcL op inner mo).drop 7 = op ++ (inner ++ ([34, 34, 34] ++ (mo ++ [35]))) := by
    show op ++ inner ++ [34, 34, 34] ++ mo ++ [35] = _
    rw [List.append_assoc, List.append_assoc, List.append_assoc]
  have hlen : (srcL op inner mo).length = 7 + op.length + inner.length + 3 + mo.length + 1 := by
    unfold srcL
    rw [List.length_append, List.length_append, List.length_append, List.length_append, List.length_append]
    rfl
  generalize srcL op inner mo = L at *
  have H1 := dr_next H0
  rw [hopn] at H1 hlen
  rw [hmon] at hlen
  have hob : ob.toNat ≤ 1 := by cases ob <;> decide
  have hl : L.length ≤ 100000 := by omega
  have e7 : 4 + 3 ≤ L.length := by omega
  have hR := wr_reads (w := w) (sd := sd) (br := 0) (dr := dr) hok hne hl ps.length _ (Nat.le_refl _) (.inl rfl) (by rw [hwr]; exact H1)
  rw [hwr, List.take_length, hflat] at hR
  have H2 := dr_next H1
  have H3 := dr_next (X := [34, 34, 34]) H2
  have H4 : L.drop (7 + ob.toNat + inner.length + 3 + 1) = (mo ++ [35]).drop 1 := by rw [← List.drop_drop]; exact congrArg (List.drop 1) H3
  generalize 7 + ob.toNat + inner.length = e at *
  have e0 : e ≤ L.length := by omega
  have e1 : e + 3 ≤ L.length := by omega
  have e2 : e + 3 + 1 ≤ L.length := by omega
  have hmk3 : mk = 0 ∨ mk = 1 ∨ mk = 2 := by omega
  clear hl hin2 hok
  refine ⟨hlen, hR, ?_, ?_, ?_, ?_, dr_get (X := [34]) (i := 0) H2 rfl⟩
  · rw [starts_at e0, H2]; rfl
  · rw [starts_at e1, show L.drop (e + 3) = mo ++ [35] from H3, ← hmo]
    rcases hmk3 with rfl | rfl | rfl <;> rfl
  · rw [starts_at e2, H4, ← hmo]
    rcases hmk3 with rfl | rfl | rfl <;> rfl
  · rw [starts_at e7, show L.drop (4 + 3) = _ from H0, ← hop]
    cases ob with
    | true => rfl
    | false =>
      rcases wr_head (sd := sd) (br := 0) (dr := dr) hne ps.length (Nat.le_refl _) with h | ⟨x, r, h, hx⟩
      · rw [hwr] at h; rw [h]; rfl
      · rw [hwr] at h; rw [h]
        show (x == 10 && _) = false
        rw [beq_eq_false_iff_ne.mpr (fun q => hx (.inr (.inr q)))]; rfl
set_option maxRecDepth 100000 in
set_option maxHeartbeats 8000000 in
theorem whole_spec (w : World) (lp ld : Addr) (T0 : List Nat) (ps : List (List Nat)) (dr : List (Nat × Nat)) (sd : Nat) (ob : Bool) (mk : Nat) (t1 t2 t3 t4 : Tok) (hps : ps.length ≤ 40) (hat : atOf ps ps.length ≤ 100) (hsd : sd < 16) (hdr : 0 < dr.length) (hdr2 : dr.length ≤ 40) (hmn : ∀ p ∈ dr, p.2 ≤ 2) (hok : ∀ p ∈ ps, ∀ c ∈ p, okSign c) (hne : ∀ p ∈ ps, p ≠ [])
    (hflat : ps.flatten = T0) (hmk : mk ≤ 2) :
    Tag KK RW (SpecU w 12 100 313 [.ref lp, .ref ld, .str (tx T0) t1, .int sd t2, .str (tx (if ob then [10] else [])) t3,   .str (tx (List.replicate mk 34)) t4] (fun _ news => TextsIn news lp ps ∧ DrawnIn news ld dr) (fun v news news' => v = .bool true ∧ ∃ tl, news' = tl ++ news)) := by
  k_fill
  unfold Tag SpecU
  intro A outer env A₀ base h₀ L m news s mean mg mb Q E hAt hh hd hu hP hret
  obtain ⟨B, F, X, N, T, hA, hf, hkk⟩ := hAt
  have KX := X.K
  have hsl := sizeLine_eq
  generalize hop : (if ob then [10] else [] : List Nat) = op
  generalize hmo : List.replicate mk 34 = mo
  have hopl : (tx op).length ≤ 1 := by rw [tx_length, ← hop]; split <;> simp
  have hmol : (tx mo).length ≤ 2 := by rw [tx_length, ← hmo]; simp; exact hmk
  generalize hwr : wr sd 0 dr ps ps.length = inner
  have hil : (tx inner).length ≤ 1500 := by
    have := wr_le sd 0 dr ps ps.length (Nat.le_refl _)
    rw [tx_length, ← hwr]; omega
  refine wpAny_call ?_
  k_dflt (refine' code_def (binds := [(Str.ofString "pieces", Value.ref lp), (Str.ofString "drawn", Value.ref ld), (Str.ofString "text", Value.str (tx T0) t1), (Str.ofString "seed", Value.int sd t2), (Str.ofString "opener", Value.str (tx op) t3), (Str.ofString "more", Value.str (tx mo) t4)]) ?k1 ?k2 ?k3 ?k4 ?k5 ?kA ?kF ?kK ?k6 ?k7 ?k8 ?k9 ?kB ?_ ?c2 ?c3 ?c4 ?c5; (case kA => first | assumption | exact Around.frames_deeper (by assumption)); (case kF => first | assumption | exact rfl); (case kK => first | assumption | exact rfl); (case k1 => k_asm); (case k2 => k_asm); (case k3 => k_asm); (case k4 => k_asm); (case k5 => k_asm); (case k6 => k_is); (case k7 => k_is); (case k8 => ktr_room); (case k9 => first | exact (by assumption : BindsTo _ _ _ _) | exact BindsTo.of_eq rfl); (case c5 => decide); (case kB => exact locs rfl); (case c2 => exact rfl); (case c3 => exact rfl); (case c4 => exact rfl); k_whole; intro g' L' h' FG' F' N' B' X' T'; (try dsimp only); (try k_fold))
  have XX := X.keeps (by assumption : Fr h₀ L _ m).keep
  generalize (s.toks + List.length _) = tk0
  have hTf : T0.length ≤ 100 := by rw [← hflat, ← atOf_flat]; exact hat
  have hT0 : (tx T0).length ≤ 100 := by rw [tx_length]; exact hTf
  walk_at "mine steps"
  k_dflt (refine' call_specG (written_spec w lp ld ps dr sd 0 _ _ hps hat hsd (by decide) hdr hdr2 hmn ?c1) ?B ?F ?X ?N ?T ?hA ?hf ?hk ?hh ?hd hP ?_; (case c1 => exact fun p hp c hc => by have := hok p hp c hc; unfold okSign at this; omega); (((case B => k_asm); (case F => k_asm); (case X => assumption); (case N => k_asm); (case T => k_asm); (case hA => first | exact Around.frames_deeper (by assumption) | exact Around.frames_deeper (Around.frames_deeper (by assumption))); (case hf => exact rfl); (case hk => exact rfl); (case hh => with_unfolding_all assumption); (case hd => first | exact dp1 (by assumption) rfl | exact dp0 (by assumption) rfl | (simp only [depth_under_make, depth_under_kw, depth_in1, depth_deeper, depth_caller] at *; omega)))); k_whole)
  rintro v news' h1 tk1 ⟨l, t, t', rfl, rfl⟩ F1 N1
  rw [hwr] at N1
  walk_at "mine steps"
  refine call_args (congrArg (fun z => [Value.str z _, _]) (src_tx _ _ _)) ?_
  have W := whole_facts (w := w) hop hmo hok hne hmk hwr hflat (by rw [tx_length] at hil; exact hil)
  have hslen := W.len
  have hob : ob.toNat ≤ 1 := by cases ob <;> decide
  have hopn : op.length = ob.toNat := by rw [← hop]; cases ob <;> rfl
  have hmon : mo.length = mk := by rw [← hmo]; simp
  have hsl3 : (tx (srcL op inner mo)).length = (srcL op inner mo).length := tx_length _
  have hin2 : inner.length ≤ 1500 := by rw [tx_length] at hil; exact hil
  k_dflt (refine' call_specG (multi_spec w (tx (srcL op inner mo)) 4 (4 + 3 + ob.toNat) (4 + 3 + ob.toNat + inner.length) mk ob T0 _ _ (by omega) W.lf rfl W.reads (by omega) W.back W.quote hmk W.q1 W.q2) ?B ?F ?X ?N ?T ?hA ?hf ?hk ?hh ?hd trivial ?_; (((case B => k_asm); (case F => k_asm); (case X => assumption); (case N => k_asm); (case T => k_asm); (case hA => first | exact Around.frames_deeper (by assumption) | exact Around.frames_deeper (Around.frames_deeper (by assumption))); (case hf => exact rfl); (case hk => exact rfl); (case hh => with_unfolding_all assumption); (case hd => first | exact dp1 (by assumption) rfl | exact dp0 (by assumption) rfl | (simp only [depth_under_make, depth_under_kw, depth_in1, depth_deeper, depth_caller] at *; omega)))); k_whole)
  rintro v news' h1 tk1 ⟨l2, t5, t6, rfl, rfl⟩ F2 N2
  rw [hmo] at N2
  have htx : tx (T0 ++ mo) = tx T0 ++ tx mo := (tx_append _ _).symm
  walk_at "mine steps"
  have hstr : PyData.strOk (tx (T0 ++ mo)) = true := by
    refine Array.all_eq_true_iff_forall_mem.mpr fun c hc => decide_eq_true ?_
    have hc : c ∈ T0 ++ mo := by simpa [tx] using hc
    rcases List.mem_append.mp hc with q | q
    · rw [← hflat] at q
      obtain ⟨p, hp, hc⟩ := List.mem_flatten.mp q
      have := hok p hp c hc; unfold okSign at this; omega
    · rw [← hmo] at q
      have := List.eq_of_mem_replicate q; omega
  k_dflt (refine' tup_eq ?N ?m1 ?m2 ?e1 ?e2 ?hx ?hu ?_; (case N => k_asm); (case m1 => walk_at "mine mem"); (case m2 => walk_at "mine mem"); (case e1 => (show _ = _; rw [tx_length, tx_length, tx_length, hopn, hmon, show (Str.ofString "k = \"\"\"").length = 7 from rfl, show (Str.ofString "\"\"\"").length = 3 from rfl, show (Str.ofString "#").length = 1 from rfl]; omega)); (case e2 => exact htx); (case hx => exact hstr); (case hu => (simp only [units_deeper] at *; omega)); k_whole)
  walk_at "mine steps"
  exact hret _ _ _ _ (by assumption) (by assumption) ⟨rfl, [_, _, _], rfl⟩
end
-- Wk22
section
open PySem PySem.W PyProof.Rows Builtin.Str
noncomputable abbrev unesc : Str := Str.ofString "Unescaped '\\' in a string"
set_option maxRecDepth 100000 in
set_option maxHeartbeats 8000000 in
theorem escGX_spec (w : World) (src esc : Str) (p : Int) (q j n k : Nat) (t1 t2 : Tok) (h0 : 0 ≤ p) (hp : p < 2 ^ 58) (hq : p + 2 + j = q) (hql : q < src.length) (hjj : j < 2 ^ 58)
    (hz : src.length ≤ sizeLine) (hsl : Txt.slice src (some p) (some (p + 2)) = esc) (e1 : (false || decide (esc = Str.ofString "\\ ") || decide (esc = Str.ofString "\\\t") || decide (esc = Str.ofString "\\\n")) = true) (e2 : (esc != Str.ofString "\\\n") = true)
    (hin0 : ∀ i, i < j → ∃ c, src.cps[(p + 2 + i).toNat]? = some c ∧ wsL.contains ⟨#[c]⟩ = true) (hlf : ∃ c, src.cps[(p + 2 + j).toNat]? = some c ∧ wsL.contains ⟨#[c]⟩ = false ∧ c ≠ 10)
    (hn : (occurrences src (Str.ofString "\n") 0 q (src.length + 1)).length = n) (hnp : n ≤ q) (hkp : k < q ∨ n = 0) (hk : lastOccurrence src (Str.ofString "\n") 0 q = some k ∨ n = 0) :
    Tag KK RW (SpecE w 8 231 [.str src t1, .int p t2] [] (fun _ news => TabN news) (refuse unesc n (if n = 0 then (q : Int) + 1 else (q : Int) - k))) := by
  k_fill
  unfold Tag SpecE
  intro A outer env A₀ base h₀ L m news s mean mg mb Q E hAt XB TB hh hd hP hret
  obtain ⟨B, F, X, N, T, hA, hf, hkk⟩ := hAt
  have KX := X.K
  refine wpAny_call ?_
  k_dflt ((refine' code_def ?k1_32 ?k2_32 ?k3_32 ?k4_32 ?k5_32 ?kA_32 ?kF_32 ?kK_32 ?k6_32 ?k7_32 ?k8_32 ?k9_32 ?kB_32 ?_ ?c2_32 ?c3_32 ?c4_32 ?c5_32; (case kA_32 => first | assumption | exact Around.frames_deeper (by assumption)); (case kF_32 => first | assumption | exact rfl); (case kK_32 => first | assumption | exact rfl); (case k1_32 => k_asm); (case k2_32 => k_asm); (case k3_32 => k_asm); (case k4_32 => k_asm); (case k5_32 => k_asm); (case k6_32 => k_is); (case k7_32 => k_is); (case k8_32 => ktr_room); (case k9_32 => first | exact (by assumption : BindsTo _ _ _ _) | exact BindsTo.of_eq rfl); (case c5_32 => decide); (case kB_32 => exact locs rfl); (case c2_32 => exact rfl); (case c3_32 => exact rfl); (case c4_32 => exact rfl); k_whole; intro g' L' h' FG' F' N' B' X' T'; (try dsimp only); (try k_fold)))
  have XX := X.keeps (by assumption : Fr h₀ L _ m).keep
  walk_at "mine steps"
  refine wpAny_call ?_
  k_dflt ((refine' code_def ?k1_33 ?k2_33 ?k3_33 ?k4_33 ?k5_33 ?kA_33 ?kF_33 ?kK_33 ?k6_33 ?k7_33 ?k8_33 ?k9_33 ?kB_33 ?_ ?c2_33 ?c3_33 ?c4_33 ?c5_33; (case kA_33 => first | assumption | exact Around.frames_deeper (by assumption)); (case kF_33 => first | assumption | exact rfl); (case kK_33 => first | assumption | exact rfl); (case k1_33 => k_asm); (case k2_33 => k_asm); (case k3_33 => k_asm); (case k4_33 => k_asm); (case k5_33 => k_asm); (case k6_33 => k_is); (case k7_33 => k_is); (case k8_33 => ktr_room); (case k9_33 => first | exact (by assumption : BindsTo _ _ _ _) | exact BindsTo.of_eq rfl); (case c5_33 => decide); (case kB_33 => exact locs rfl); (case c2_33 => exact rfl); (case c3_33 => exact rfl); (case c4_33 => exact rfl); k_whole; intro g' L' h' FG' F' N' B' X' T'; (try dsimp only); (try k_fold)))
  have XX := Facts.keeps XX (Fr.keep (by assumption))
  obtain ⟨c, hc, hcw, hcn⟩ := hlf
  have hcn2 : ((⟨#[c]⟩ : Str) != Str.ofString "\n") = true := by
    rw [bne_iff_ne]; intro z
    exact hcn (by have := congrArg (fun x : Str => x.cps[0]?) z; exact Option.some.inj this)
  walk_at "mine steps"
  k_dflt (refine' call_spec (skip_spec w 174 wsL (fun _ X => X.s7) rfl src (p + 2) j _ _ ?a1 ?a2 ?a3 ?a4 ?a5) ?B ?F ?X ?N ?T ?hA ?hf ?hk ?hh ?hd ?_; (case a1 => omega); (case a2 => omega); (case a3 => omega); (case a4 => assumption); (case a5 => exact ⟨c, hc, hcw⟩); (((case B => k_asm); (case F => k_asm); (case X => assumption); (case N => k_asm); (case T => k_asm); (case hA => first | exact Around.frames_deeper (by assumption) | exact Around.frames_deeper (Around.frames_deeper (by assumption))); (case hf => exact rfl); (case hk => exact rfl); (case hh => with_unfolding_all assumption); (case hd => first | exact dp1 (by assumption) rfl | exact dp0 (by assumption) rfl | (simp only [depth_under_make, depth_under_kw, depth_in1, depth_deeper, depth_caller] at *; omega)))); k_whole)
  rintro v tl h1 tk1 ⟨rfl, t, rfl⟩ F1 N1
  walk_at "mine steps"
  k_dflt (refine' raise_led ?hh ?_; (case hh => with_unfolding_all assumption); k_whole)
  walk_at "mine steps"
  refine call_args (congrArg (fun z => [_, Value.int z _, _]) hq) ?_
  obtain ⟨hm0, q0, hq1, hq2⟩ := hP
  k_dflt (refine' call_specH (sufx_spec w q0 hq2 src unesc q n k _ _ _ hz hql (by decide) hn hnp hkp hk) ?B ?F ?X ?N ?T ?hA ?hf ?hk ?hd rfl ?_; (case N => (refine news_tab2 (by k_asm) ?_ ?_ <;> walk_at "mine mem")); (case B => k_asm); (case F => k_asm); (case X => assumption); (case T => k_asm); (case hA => first | exact Around.frames_deeper (by assumption) | exact Around.frames_deeper (Around.frames_deeper (by assumption))); (case hf => exact rfl); (case hk => exact rfl); (case hd => first | exact dp1 (by assumption) rfl | exact dp0 (by assumption) rfl | exact dp1 (d := 6) (dp1 (by assumption) rfl) rfl | (simp only [depth_deeper] at *; omega)); k_whole)
  rintro v news' h2 tk2 ⟨e, t0, tm, ps, rfl, rfl⟩ F2 N2
  replace N2 := news_cut3 N2
  refine ⟨e, t0, rfl, F2.keep _ _ (XX.K 199 _ (by kernel_rfl)), (N2 _ (.head _)).1, ?_⟩
  refine leave_ledS (by assumption) F2 N2 (fun h3 R3 U3 => ?_)
  refine leave_onS (by assumption) (by assumption) R3 U3 (fun h4 R4 _ U4 => ?_)
  exact hret _ _ _ _ _ _ _ (by assumption) R4 U4
end
-- WkM
section
open PySem PySem.W PyProof.Rows PyProof.V PyProof.Rows.KTD
set_option maxRecDepth 100000
theorem led_upd {g h h' : Heap} {L e : Addr} {m : Str → Option Value} {o o' : Obj} {rest : List (Addr × Obj)} (F : Fr g L h m) (N : News g L h ((e, o) :: rest)) (hne : ∀ q ∈ rest, q.2 ≠ o) (he : h'.get? e = some o') (ho : ∀ b, b ≠ e → h'.get? b = h.get? b) : Fr g L h' m ∧ News g L h' ((e, o') :: rest) := by
  obtain ⟨e1, e2, e3⟩ := N _ (.head _)
  dsimp only at e1 e2 e3
  refine ⟨⟨?_, fun b x q => (ho b fun z => by rw [z, e3] at q; cases q).trans (F.keep b x q), F.above⟩, fun q hq => ?_⟩
  · obtain ⟨oL, es, ep, hL, r⟩ := F.ns
    exact ⟨oL, es, ep, (ho L (fun z => e2 z.symm)).trans hL, r⟩
  · rcases List.mem_cons.mp hq with rfl | hq
    · exact ⟨he, e2, e3⟩
    · obtain ⟨f1, f2, f3⟩ := N q (.tail _ hq)
      exact ⟨(ho q.1 fun z => by rw [z, e1] at f1; exact hne q hq (Option.some.inj f1).symm).trans f1, f2, f3⟩
variable {w : World} {A : Around} {E : Value → Shared → Prop} {s : Shared} {L : Addr} {h₀ : Heap} {m : Str → Option Value} {k : Str} {tk : Tok}
/-- a sign behind the backslash that the table lacks -/
theorem mp_miss {value slice : Expr} {Q : Value → Shared → Prop} (F : Fr h₀ L s.heap m) (X : Facts w h₀) (hh : A.handled = none) (hc : datumAt k escD = none) (h : ∀ h' e, Heap.NewExc s.heap h' e "KeyError" → E (.ref e) { s with heap := h', toks := s.toks + 1 })
    (hs : subscripted slice false (.ref 189) (.str k tk) = operate [.ref 189, .str k tk] (getItem (.ref 189) (.str k tk)) := by with_unfolding_all rfl) (hg : ∀ r, letTemporaryGo value (.ref 189) r = pure () := by intro _; with_unfolding_all rfl) :
    wpAny (model PW w) A (subscriptTail value slice (.ref 189) (.str k tk)) Q E s := by
  have hT : s.TypeIs (.ref 189) "mappingproxy" := ⟨_, F.keep _ _ (mp_obj X), rfl⟩
  have T : KTD.Here h₀ s.heap 188 escD := ⟨esc_tab X, F.keep⟩
  refine subscriptTail_builtin hT slot_mp.lookup ?_ hs hg
  unfold getItem
  try with_reducible refine wpAny_holding ?_
  refine wpAny_bind (wpAny_sequenceKey hT (by decide) ?_)
  refine wpAny_bind (wpAny_callSpecial?_slot (name := Str.ofString "__getitem__") hT slot_mp
    (wpAny_call_entry slot_mp hT entry_mp ?_ (args_mp _ _)))
  unfold Builtin.«mappingproxy.__getitem__»
  refine wpAny_bind (wpAny_pure ?_)
  dsimp only
  refine wpAny_bind (wpAny_field (F.keep _ _ (mp_obj X)) rfl rfl ?_)
  refine wpAny_bind ?_
  unfold getItem
  try with_reducible refine wpAny_holding ?_
  refine wpAny_bind (wpAny_sequenceKey T.typeIs (by decide) ?_)
  refine wpAny_bind (wpAny_callSpecial?_slot (name := Str.ofString "__getitem__") T.typeIs PySem.F.slot_dict_getitem
    (wpAny_call_entry PySem.F.slot_dict_getitem T.typeIs PySem.F.entry_dict_getitem ?_ (args_dict_getitem _ _)))
  show wpAny _ _ (dictGet 188 (.str k tk) >>= _) _ _ s
  refine wpAny_bind (dictGet_text T (fun d v ha hv => by rw [hc] at ha; cases ha) fun hn => ?_)
  show wpAny _ _ (Builtin.Dict.missed 188 (.str k tk) >>= _) _ _ _
  refine wpAny_bind (wpAny_missed_other T.1.1 ?_)
  refine wpAny_bind (wpAny_typeOf (s := { s with toks := s.toks + 1 }) T.typeIs ?_)
  show wpAny _ _ (if (Value.type "dict" != Value.type "dict") = true then _ else _) _ _ _
  rw [if_neg (by decide)]
  exact wpAny_bind (wpAny_rule (wpAny_raise_newExc plainExc_KeyError (by exact hh) h))
end
-- Wk23
section
open PySem PySem.W PyProof.Rows Builtin.Str
set_option maxRecDepth 100000 in
set_option maxHeartbeats 8000000 in
theorem escKX_spec (w : World) (src esc : Str) (p : Int) (q n k : Nat) (t1 t2 : Tok) (h0 : 0 ≤ p) (hp : p < 2 ^ 58) (hq : p + 2 = q) (hql : q < src.length)
    (hz : src.length ≤ sizeLine) (hsl : Txt.slice src (some p) (some (p + 2)) = esc) (e1 : (false || decide (esc = Str.ofString "\\ ") || decide (esc = Str.ofString "\\\t") || decide (esc = Str.ofString "\\\n")) = false) (e2 : (esc == Str.ofString "\\u") = false) (e3 : (esc == Str.ofString "\\U") = false) (hc : KTD.datumAt esc escD = none)
    (hn : (occurrences src (Str.ofString "\n") 0 q (src.length + 1)).length = n) (hnp : n ≤ q) (hkp : k < q ∨ n = 0) (hk : lastOccurrence src (Str.ofString "\n") 0 q = some k ∨ n = 0) :
    Tag KK RW (SpecE w 8 231 [.str src t1, .int p t2] [] (fun _ news => TabN news) (refuse unesc n (if n = 0 then (q : Int) + 1 else (q : Int) - k))) := by
  k_fill
  unfold Tag SpecE
  intro A outer env A₀ base h₀ L m news s mean mg mb Q E hAt XB TB hh hd hP hret
  obtain ⟨B, F, X, N, T, hA, hf, hkk⟩ := hAt
  have KX := X.K
  refine wpAny_call ?_
  k_dflt ((refine' code_def ?k1_35 ?k2_35 ?k3_35 ?k4_35 ?k5_35 ?kA_35 ?kF_35 ?kK_35 ?k6_35 ?k7_35 ?k8_35 ?k9_35 ?kB_35 ?_ ?c2_35 ?c3_35 ?c4_35 ?c5_35; (case kA_35 => first | assumption | exact Around.frames_deeper (by assumption)); (case kF_35 => first | assumption | exact rfl); (case kK_35 => first | assumption | exact rfl); (case k1_35 => k_asm); (case k2_35 => k_asm); (case k3_35 => k_asm); (case k4_35 => k_asm); (case k5_35 => k_asm); (case k6_35 => k_is); (case k7_35 => k_is); (case k8_35 => ktr_room); (case k9_35 => first | exact (by assumption : BindsTo _ _ _ _) | exact BindsTo.of_eq rfl); (case c5_35 => decide); (case kB_35 => exact locs rfl); (case c2_35 => exact rfl); (case c3_35 => exact rfl); (case c4_35 => exact rfl); k_whole; intro g' L' h' FG' F' N' B' X' T'; (try dsimp only); (try k_fold)))
  have XX := X.keeps (by assumption : Fr h₀ L _ m).keep
  walk_at "mine steps"
  refine wpAny_call ?_
  k_dflt ((refine' code_def ?k1_36 ?k2_36 ?k3_36 ?k4_36 ?k5_36 ?kA_36 ?kF_36 ?kK_36 ?k6_36 ?k7_36 ?k8_36 ?k9_36 ?kB_36 ?_ ?c2_36 ?c3_36 ?c4_36 ?c5_36; (case kA_36 => first | assumption | exact Around.frames_deeper (by assumption)); (case kF_36 => first | assumption | exact rfl); (case kK_36 => first | assumption | exact rfl); (case k1_36 => k_asm); (case k2_36 => k_asm); (case k3_36 => k_asm); (case k4_36 => k_asm); (case k5_36 => k_asm); (case k6_36 => k_is); (case k7_36 => k_is); (case k8_36 => ktr_room); (case k9_36 => first | exact (by assumption : BindsTo _ _ _ _) | exact BindsTo.of_eq rfl); (case c5_36 => decide); (case kB_36 => exact locs rfl); (case c2_36 => exact rfl); (case c3_36 => exact rfl); (case c4_36 => exact rfl); k_whole; intro g' L' h' FG' F' N' B' X' T'; (try dsimp only); (try k_fold)))
  have XX := Facts.keeps XX (Fr.keep (by assumption))
  walk_at "mine steps"
  k_dflt (refine' mp_miss ?F ?X ?hh hc ?_; (case F => k_asm); (case X => assumption); (case hh => with_unfolding_all assumption); k_whole)
  intro hE0 e0 hx0
  k_dflt (refine' caught_own (X := "KeyError") (T' := "KeyError") (KF := KK w.params) ?F ?N ?K hx0 XB.K TB ?ex PyProof.Rows.Boot.«KeyError» ?hn kr_isExc_KeyError kr_notTuple_KeyError ?hs ?_; (case F => k_asm); (case N => k_asm); (case K => assumption); (case hs => kts_sub); (case ex => k_is); (case hn => decide); k_whole)
  rintro h5 g5 o5 ⟨hoc, tt, Tb, hod⟩ T5 F5 N5 B5
  have XX := XB.keeps B5.stays
  have T6 := TB.keeps B5.stays
  have KX5 := XX.K
  walk_at "mine steps"
  k_dflt (refine' raise_none ?hh ?hc ?_; (case hh => exact rfl); (case hc => exact rfl); k_whole)
  walk_at "mine steps"
  refine call_args (congrArg (fun z => [_, Value.int z _, _]) hq) ?_
  obtain ⟨hm0, -⟩ := hP
  have hq2 : e0 ≠ 254 := not_tab (q0 := (e0, o5)) N5 (by walk_at "mine mem") (.head _) (by rw [hoc]; intro z; cases z)
  k_dflt (refine' call_specH (sufx_spec w (e0, o5) hq2 src unesc q n k _ _ _ hz hql (by decide) hn hnp hkp hk) ?B9 ?F9 ?X9 ?N9 ?T9 ?hA9 ?hf9 ?hk9 ?hd9 rfl ?_; (case N9 => (refine news_tab2 N5 ?_ ?_ <;> walk_at "mine mem")); (case B9 => k_asm); (case F9 => k_asm); (case X9 => assumption); (case T9 => assumption); (case hA9 => first | exact Around.frames_deeper (by assumption) | exact Around.frames_deeper (Around.frames_deeper (by assumption))); (case hf9 => exact rfl); (case hk9 => exact rfl); (case hd9 => (simp only [depth_mark, depth_deeper] at *; omega)); k_whole)
  rintro v news' h2 tk2 ⟨e, t0, tm, ps, rfl, rfl⟩ F2 N2
  have hne9 : e0 ≠ e := fun z => by
    have z1 := (N2 _ (.tail _ (.tail _ (.tail _ (.head _))))).1
    have z2 := (N2 _ (.head _)).1
    dsimp only at z1 z2
    rw [z, z2] at z1
    rw [← Option.some.inj z1] at hoc
    cases hoc
  refine ⟨e, t0, o5, _, rfl, hne9, F2.keep _ _ (XX.K 199 _ (by kernel_rfl)), (N2 _ (.head _)).1, (N2 _ (.tail _ (.tail _ (.tail _ (.head _))))).1, hod, rfl, fun h7 he7 ho7 => ?_⟩
  obtain ⟨F7, N7⟩ := led_upd F2 (news_cut3 N2) (fun q hq => by
    rcases List.mem_cons.mp hq with rfl | hq
    · intro z; cases congrArg Obj.cls z
    · obtain rfl := List.mem_singleton.mp hq
      intro z; cases congrArg Obj.cls z) he7 ho7
  refine leave_ledS B5 F7 N7 (fun h3 R3 U3 => ?_)
  refine leave_onS (by assumption) (by assumption) (Mine.RaisedS.turned R3 T5) (turned_up T5 U3) (fun h4 R4 _ U4 => ?_)
  exact hret _ _ _ _ _ _ _ (by assumption) R4 U4
end
-- Wk25
section
set_option maxRecDepth 100000 in
set_option maxHeartbeats 8000000 in
theorem multiX_spec (w : World) (src : Str) (p q e : Nat) (b : Bool) (out : List Nat) (msg : Str) (t1 t2 : Tok) (hz : src.length ≤ sizeLine) (hb : Txt.startswith3 src (Str.ofString "\n") (p + 3) = b) (hq : q = p + 3 + b.toNat) (R : Reads1 w src q e out) (he : src.cps[e]? = some 92) (bad : ∀ t1 t2, Tag KK RW (SpecE w 8 231 [.str src t1, .int e t2] [] (fun _ news => TabN news) msg)) :
    Tag KK RW (SpecE w 12 245 [.str src t1, .int p t2] [(Str.ofString "literal", .bool false)] (fun _ news => TabN news) msg) := by
  k_fill
  unfold Tag SpecE
  intro A outer env A₀ base h₀ L m news s mean mg mb Q E hAt XB TB hh hd hP hret
  obtain ⟨B, F, X, N, T, hA, hf, hk⟩ := hAt
  have KX := X.K
  have hele : e < src.length := (Array.getElem?_eq_some_iff.mp he).1
  have hsl := sizeLine_eq
  have hle := R.le
  refine wpAny_call ?_
  k_dflt (refine' code_def (binds := [(Str.ofString "src", Value.str src t1), (Str.ofString "pos", Value.int p t2), (Str.ofString "literal", Value.bool false)]) ?k1 ?k2 ?k3 ?k4 ?k5 ?kA ?kF ?kK ?k6 ?k7 ?k8 ?k9 ?kB ?_ ?c2 ?c3 ?c4 ?c5; (case kA => first | assumption | exact Around.frames_deeper (by assumption)); (case kF => first | assumption | exact rfl); (case kK => first | assumption | exact rfl); (case k1 => k_asm); (case k2 => k_asm); (case k3 => k_asm); (case k4 => k_asm); (case k5 => k_asm); (case k6 => k_is); (case k7 => k_is); (case k8 => ktr_room); (case k9 => first | exact (by assumption : BindsTo _ _ _ _) | exact BindsTo.of_eq rfl); (case c5 => decide); (case kB => exact locs rfl); (case c2 => exact rfl); (case c3 => exact rfl); (case c4 => exact rfl); k_whole; intro g' L' h' FG' F' N' B' X' T'; (try dsimp only); (try k_fold))
  have XX := X.keeps (by assumption : Fr h₀ L _ m).keep
  cases b with
  | false =>
    obtain rfl : q = p + 3 := by simpa using hq
    walk_at "mine steps"
    k_dflt (refine' call_specE (basicX_spec w src (p + 3) e out msg _ _ hz R he bad) ?yB ?yF ?yX ?yN ?yT ?yA ?yf ?yk XB TB ?yh ?yd hP ?_; (case yN => k_asm); (case yB => k_asm); (case yF => k_asm); (case yX => assumption); (case yT => k_asm); (case yA => first | exact Around.frames_deeper (by assumption) | exact Around.frames_deeper (Around.frames_deeper (by assumption))); (case yf => exact rfl); (case yk => exact rfl); (case yh => with_unfolding_all assumption); (case yd => first | exact dp1 (by assumption) rfl | exact dp0 (by assumption) rfl | exact dp1 (d := 6) (dp1 (by assumption) rfl) rfl | (simp only [depth_deeper] at *; omega)); k_whole)
    intro g3 e3 t3 tm3 ps3 h3 tk3 F3 R3 U3
    refine leave_onS (by assumption) F3 R3 U3 (fun h4 R4 _ U4 => ?_)
    exact hret _ _ _ _ _ _ _ (by assumption) R4 U4
  | true =>
    obtain rfl : q = p + 3 + 1 := by simpa using hq
    walk_at "mine steps"
    k_dflt (refine' call_specE (basicX_spec w src (p + 3 + 1) e out msg _ _ hz R he bad) ?zB ?zF ?zX ?zN ?zT ?zA ?zf ?zk XB TB ?zh ?zd hP ?_; (case zN => k_asm); (case zB => k_asm); (case zF => k_asm); (case zX => assumption); (case zT => k_asm); (case zA => first | exact Around.frames_deeper (by assumption) | exact Around.frames_deeper (Around.frames_deeper (by assumption))); (case zf => exact rfl); (case zk => exact rfl); (case zh => with_unfolding_all assumption); (case zd => first | exact dp1 (by assumption) rfl | exact dp0 (by assumption) rfl | exact dp1 (d := 6) (dp1 (by assumption) rfl) rfl | (simp only [depth_deeper] at *; omega)); k_whole)
    intro g3 e3 t3 tm3 ps3 h3 tk3 F3 R3 U3
    refine leave_onS (by assumption) F3 R3 U3 (fun h4 R4 _ U4 => ?_)
    exact hret _ _ _ _ _ _ _ (by assumption) R4 U4
end
-- Pl3
section
open PySem PySem.W PyProof.Rows Builtin.Str
/-- where a text of one sign lies -/
noncomputable def lies (s sub : Str) (hi i : Nat) : Bool := decide (i + 1 ≤ hi) && subAt s sub i
theorem occ_go {s sub : Str} {hi limit : Nat} (h1 : sub.length = 1) : ∀ (len a free : Nat) (found : Array Nat), free ≤ a → found.size + len ≤ limit →
    (forIn (List.range' a len) (found, free) (StrLaws.occBody s sub hi limit)).run.fst.toList = found.toList ++ (List.range' a len).filter (lies s sub hi)
  | 0, a, free, found, _, _ => by simp
  | len + 1, a, free, found, hf, hl => by
    rw [List.range'_succ, List.forIn_cons]
    unfold StrLaws.occBody
    by_cases hc : lies s sub hi a = true
    · have hc' : a + 1 ≤ hi ∧ subAt s sub a = true := by unfold lies at hc; simpa using hc
      rw [List.filter_cons_of_pos hc]
      rw [if_pos (by refine ⟨⟨⟨?_, ?_⟩, ?_⟩, ?_⟩ <;> first | exact hc'.2 | omega | (dsimp only; omega))]
      have := occ_go (s := s) (sub := sub) (hi := hi) (limit := limit) h1 len (a + 1) (a + sub.length) (found.push a) (by omega) (by rw [Array.size_push]; omega)
      refine Eq.trans this ?_
      simp
    · have hc' : ¬ (a + 1 ≤ hi ∧ subAt s sub a = true) := by unfold lies at hc; simpa using hc
      rw [List.filter_cons_of_neg hc]
      rw [if_neg (fun z => hc' ⟨by have := z.1.2; omega, z.2⟩)]
      exact occ_go (s := s) (sub := sub) (hi := hi) (limit := limit) h1 len (a + 1) free found (by omega) (by omega)
theorem occ_is {s sub : Str} {hi limit : Nat} (h1 : sub.length = 1) (hl : hi + 1 ≤ limit) : occurrences s sub 0 hi limit = (List.range' 0 (hi + 1)).filter (lies s sub hi) := by
  rw [StrLaws.occ_eq]
  have := occ_go (s := s) (sub := sub) (hi := hi) (limit := limit) h1 (hi + 1) 0 0 #[] (Nat.le_refl _) (by simpa using hl)
  simpa using this
theorem last_go {s sub : Str} {hi : Nat} (h1 : sub.length = 1) : ∀ (len a : Nat) (st : Option Nat), (forIn (List.range' a len) st (StrLaws.lastBody s sub hi)).run = ((List.range' a len).filter (lies s sub hi)).getLast?.or st
  | 0, a, st => by simp
  | len + 1, a, st => by
    rw [List.range'_succ, List.forIn_cons]
    unfold StrLaws.lastBody
    by_cases hc : lies s sub hi a = true
    · have hc' : a + 1 ≤ hi ∧ subAt s sub a = true := by unfold lies at hc; simpa using hc
      rw [List.filter_cons_of_pos hc]
      rw [if_pos (by rw [h1]; exact hc')]
      refine Eq.trans (last_go (s := s) (sub := sub) (hi := hi) h1 len (a + 1) (some a)) ?_
      rw [List.getLast?_cons]
      cases ((List.range' (a + 1) len).filter (lies s sub hi)).getLast? <;> rfl
    · have hc' : ¬ (a + 1 ≤ hi ∧ subAt s sub a = true) := by unfold lies at hc; simpa using hc
      rw [List.filter_cons_of_neg hc]
      rw [if_neg (by rw [h1]; exact hc')]
      exact last_go (s := s) (sub := sub) (hi := hi) h1 len (a + 1) st
theorem last_is {s sub : Str} {hi : Nat} (h1 : sub.length = 1) : lastOccurrence s sub 0 hi = ((List.range' 0 (hi + 1)).filter (lies s sub hi)).getLast? := by
  rw [StrLaws.last_eq]
  have := last_go (s := s) (sub := sub) (hi := hi) h1 (hi + 1) 0 none
  simpa using this
noncomputable abbrev LF : Str := Str.ofString "\n"
theorem lies_one {s : Str} {hi i : Nat} : lies s LF hi i = true ↔ i < hi ∧ s.cps.toList[i]? = some 10 := by
  unfold lies
  rw [Bool.and_eq_true, decide_eq_true_eq, StrLaws.subAt_eq]
  show (i + 1 ≤ hi ∧ ((s.cps.toList.drop i).take 1 == [10]) = true) ↔ _
  rw [StrLaws.take1_drop]
  constructor
  · exact fun h => ⟨h.1, h.2⟩
  · exact fun h => ⟨h.1, h.2⟩
/-- the rows of a text's head -/
structure RowsAt (l : List Nat) (q n k : Nat) : Prop where
  cnt : (occurrences (tx l) LF 0 q ((tx l).length + 1)).length = n
  le : n ≤ q
  kq : k < q ∨ n = 0
  last : lastOccurrence (tx l) LF 0 q = some k ∨ n = 0
  parts : (Txt.split (tx (l.take q)) LF).length = n + 1
  row : ∃ z, (Txt.split (tx (l.take q)) LF)[n]? = some z ∧ z.length ≤ q ∧ (z.length : Int) + 1 = if n = 0 then (q : Int) + 1 else (q : Int) - k
theorem rows_law {l : List Nat} {q : Nat} (hq : q ≤ l.length) (h0 : 0 < q) : ∃ n k : Nat, RowsAt l q n k := by
  have hl : (tx l).length = l.length := tx_length l
  have hx : (tx (l.take q)).length = q := by rw [tx_length, List.length_take]; omega
  have hb : ∀ i, lies (tx (l.take q)) LF q i = lies (tx l) LF q i := fun i => by
    rw [Bool.eq_iff_iff, lies_one, lies_one]
    show (i < q ∧ (l.take q)[i]? = some 10) ↔ (i < q ∧ l[i]? = some 10)
    constructor
    · exact fun h => ⟨h.1, by rw [← h.2, List.getElem?_take, if_pos h.1]⟩
    · exact fun h => ⟨h.1, by rw [← h.2, List.getElem?_take, if_pos h.1]⟩
  have o1 := occ_is (s := tx l) (sub := LF) (hi := q) (limit := (tx l).length + 1) rfl (by omega)
  have o2 := occ_is (s := tx (l.take q)) (sub := LF) (hi := q) (limit := q + 1) rfl (by omega)
  have o3 := last_is (s := tx l) (sub := LF) (hi := q) rfl
  have e : (List.range' 0 (q + 1)).filter (lies (tx (l.take q)) LF q) = (List.range' 0 (q + 1)).filter (lies (tx l) LF q) := List.filter_congr fun i _ => hb i
  rw [e] at o2
  have hm : ∀ i ∈ (List.range' 0 (q + 1)).filter (lies (tx l) LF q), i < q := fun i hi => (lies_one.mp (List.mem_filter.mp hi).2).1
  have hn : ((List.range' 0 (q + 1)).filter (lies (tx l) LF q)).length ≤ q := by
    rw [show List.range' 0 (q + 1) = List.range' 0 q ++ [q] from by rw [List.range'_concat]; simp, List.filter_append, List.length_append]
    have h1 := List.length_filter_le (lies (tx l) LF q) (List.range' 0 q)
    rw [List.length_range'] at h1
    have h2 : [q].filter (lies (tx l) LF q) = [] := by
      rw [List.filter_cons_of_neg (fun z => Nat.lt_irrefl _ (lies_one.mp z).1)]
      rfl
    rw [h2]
    exact h1
  generalize (List.range' 0 (q + 1)).filter (lies (tx l) LF q) = cuts at o1 o2 o3 hm hn
  have hk : strKind (tx (l.take q)) < strKind LF → False := by
    have : strKind LF = 1 := by decide +kernel
    rw [this]
    unfold Builtin.Str.strKind
    repeat' split
    all_goals omega
  have hs : Txt.split (tx (l.take q)) LF = if cuts.isEmpty = true then [tx (l.take q)] else partsBetween (tx (l.take q)) cuts 1 := by
    unfold Txt.split
    rw [hx, o2, if_neg (by
      rw [Bool.or_eq_true, decide_eq_true_eq, decide_eq_true_eq]
      rintro (z | z)
      · have : LF.length = 1 := rfl
        omega
      · exact hk z)]
    rfl
  cases hc : cuts.getLast? with
  | none =>
    obtain rfl := List.getLast?_eq_none_iff.mp hc
    exact ⟨0, 0, by rw [o1]; rfl, Nat.zero_le _, .inr rfl, .inr rfl, by rw [hs]; rfl, _, by rw [hs]; rfl, Nat.le_of_eq hx, by rw [if_pos rfl, hx]⟩
  | some k =>
    have hne : cuts ≠ [] := fun z => by rw [z] at hc; cases hc
    have hpos : 0 < cuts.length := List.length_pos_iff.mpr hne
    have hk1 : k < q := hm k (List.mem_of_getLast? hc)
    have ho := hc
    rw [List.getLast?_eq_getElem?] at hc
    rw [if_neg (by rw [List.isEmpty_iff]; exact hne)] at hs
    refine ⟨cuts.length, k, by rw [o1], hn, .inl hk1, .inl (o3.trans ho), ?_, strSub (tx (l.take q)) (k + 1) (tx (l.take q)).length, ?_, ?_, ?_⟩
    · rw [hs]; unfold partsBetween
      simp
    · rw [hs]; unfold partsBetween
      dsimp only
      rw [List.getElem?_map]
      have hz : ((0 :: cuts.map (· + 1)).zip (cuts ++ [(tx (l.take q)).length]))[cuts.length]? = some (k + 1, (tx (l.take q)).length) := by
        rw [List.getElem?_zip_eq_some]
        constructor
        · rw [show cuts.length = (cuts.length - 1) + 1 from by omega, List.getElem?_cons_succ, List.getElem?_map, hc]
          rfl
        · rw [List.getElem?_append_right (Nat.le_refl _), Nat.sub_self]
          rfl
      rw [hz]
      rfl
    · show ((tx (l.take q)).cps.extract (k + 1) (tx (l.take q)).length).size ≤ q
      rw [Array.size_extract]
      have : (tx (l.take q)).cps.size = q := hx
      omega
    · rw [if_neg (by omega)]
      show (((tx (l.take q)).cps.extract (k + 1) (tx (l.take q)).length).size : Int) + 1 = _
      rw [Array.size_extract]
      have : (tx (l.take q)).cps.size = q := hx
      rw [this, hx]
      omega
end
-- Pl4
section
open PySem PySem.W PyProof.Rows Builtin.Str
noncomputable def BadOk (c : Nat) : Prop := (false || decide (tx [92, c] = Str.ofString "\\ ") || decide (tx [92, c] = Str.ofString "\\\t") || decide (tx [92, c] = Str.ofString "\\\n")) = false ∧ (tx [92, c] == Str.ofString "\\u") = false ∧ (tx [92, c] == Str.ofString "\\U") = false ∧ KTD.datumAt (tx [92, c]) escD = none ∧ wsL.contains ⟨#[c]⟩ = false ∧ c ≠ 10
theorem bad_ok {c : Nat} (h : c = 120 ∨ c = 40 ∨ c = 35 ∨ c = 233) : BadOk c := by
  rcases h with rfl | rfl | rfl | rfl <;> exact ⟨rfl, rfl, rfl, rfl, rfl, by decide⟩
/-- a broken fold is refused -/
theorem bad_reads {w : World} {l S : List Nat} {p j bd n k q : Nat} (hb : BadOk bd) (H : l.drop p = ([92] ++ blanks j ++ [bd]) ++ 10 :: S) (hl : l.length ≤ 100000) (hq : q = p + 1 + (blanks j).length + (if j = 0 then 1 else 0))
    (hn : (occurrences (tx l) LF 0 q ((tx l).length + 1)).length = n) (hnp : n ≤ q) (hkp : k < q ∨ n = 0) (hk : lastOccurrence (tx l) LF 0 q = some k ∨ n = 0) (t1 t2 : Tok) :
    Tag KK RW (SpecE w 8 231 [.str (tx l) t1, .int (p : Nat) t2] [] (fun _ news => TabN news) (refuse unesc n (if n = 0 then (q : Int) + 1 else (q : Int) - k))) := by
  rw [List.append_assoc, List.append_assoc, List.singleton_append] at H
  have hp := dr_le H
  have hbl := blanks_le j
  have hbw : ∀ c ∈ blanks j, c = 32 ∨ c = 9 := fun c h => blanks_ws h
  by_cases hj : j = 0
  · subst hj
    have H0 : l.drop p = [92, bd] ++ 10 :: S := H
    have hq2 : q = p + 2 := hq
    subst hq2
    exact escKX_spec w _ _ (p : Int) _ n k t1 t2 (Int.natCast_nonneg _) (dr_int hp hl rfl) rfl (by rw [tx_length]; exact dr_le (dr_next (X := [92, bd]) H0)) (dr_line hl) (dr_cut (X := [92, bd]) (c := 2) H0 rfl (Nat.le_of_lt hp)) hb.1 hb.2.1 hb.2.2.1 hb.2.2.2.1 hn hnp hkp hk
  · rw [if_neg hj] at hq
    obtain ⟨b0, bs, hbe⟩ : ∃ b0 bs, blanks j = b0 :: bs := by
      match j, hj with
      | 1, _ => exact ⟨_, _, rfl⟩
      | 2, _ => exact ⟨_, _, rfl⟩
      | _ + 3, _ => exact ⟨_, _, rfl⟩
    rw [hbe] at H hbl hbw hq
    have he := head_blank (hbw b0 (.head _))
    have H1 : l.drop p = [92, b0] ++ (bs ++ bd :: 10 :: S) := H
    have H2 : l.drop (p + 2) = bs ++ bd :: 10 :: S := dr_next (X := [92, b0]) H1
    have H3 := dr_next H2
    have hq2 : q = p + 2 + bs.length := by rw [hq, List.length_cons]; omega
    subst hq2
    exact escGX_spec w _ _ (p : Int) _ bs.length n k t1 t2 (Int.natCast_nonneg _) (dr_int hp hl rfl) rfl (by rw [tx_length]; exact dr_le H3) (Nat.lt_of_le_of_lt (Nat.le_of_succ_le hbl) (by decide)) (dr_line hl) (dr_cut (X := [92, b0]) (c := 2) H1 rfl (Nat.le_of_lt hp)) he.1 he.2
      (dr_run H2 (fun c h => blank_in (hbw c (.tail _ h))) rfl) ⟨bd, dr_at H3 rfl, hb.2.2.2.2.1, hb.2.2.2.2.2⟩ hn hnp hkp hk
theorem wr_on {sd br : Nat} {dr : List (Nat × Nat)} {ps : List (List Nat)} {k : Nat} : ∀ n, k + 1 ≤ n → ∃ S, wr sd br dr ps n = wr sd br dr ps k ++ (gap sd br k ++ S)
  | 0, h => by omega
  | n + 1, h => by
    rw [wr_succ]
    by_cases e : n = k
    · subst e
      exact ⟨pieceT dr (atOf ps n) (ps.getD n []) (ps.getD n []).length, rfl⟩
    · obtain ⟨S, hS⟩ := wr_on (sd := sd) (br := br) (dr := dr) (ps := ps) (k := k) n (by omega)
      rw [hS]
      exact ⟨S ++ segT sd br dr ps n, by simp⟩
theorem src_txB (op inner : List Nat) : Str.ofString "k = \"\"\"" ++ tx op ++ tx inner ++ Str.ofString "\"\"\"#" = tx (openK ++ op ++ inner ++ [34, 34, 34, 35]) := by
  rw [show Str.ofString "k = \"\"\"" = tx openK from rfl, show Str.ofString "\"\"\"#" = tx [34, 34, 34, 35] from rfl, tx_append, tx_append, tx_append]
theorem badS_is (j : Nat) : badS j = 120 ∨ badS j = 40 ∨ badS j = 35 ∨ badS j = 233 := by
  unfold badS
  split <;> simp
/-- what the reader does with a text whose fold is broken -/
structure BrokenAt (w : World) (L R : List Nat) (ob : Bool) (p place e n k : Nat) (out : List Nat) (z : Str) : Prop where
  reads : Reads1 w (tx L) p e out
  back : (tx L).cps[e]? = some 92
  bad : ∀ t1 t2, Tag KK RW (SpecE w 8 231 [.str (tx L) t1, .int e t2] [] (fun _ news => TabN news) (refuse unesc n (if n = 0 then ((place : Nat) : Int) + 1 else ((place : Nat) : Int) - (k : Int))))
  lf : Txt.startswith3 (tx L) (Str.ofString "\n") ((4 : Nat) + 3) = ob
  few : n ≤ 2000
  parts : (Txt.split (tx R) LF).length = n + 1
  row : (Txt.split (tx R) LF)[n]? = some z
  zle : z.length ≤ 2000
  zis : (z.length : Int) + 1 = if n = 0 then ((place : Nat) : Int) + 1 else ((place : Nat) : Int) - (k : Int)
theorem broken_facts {w : World} {sd br place : Nat} {ob : Bool} {dr : List (Nat × Nat)} {ps : List (List Nat)} {op inner : List Nat} (hop : (if ob then [10] else [] : List Nat) = op) (hok : ∀ p ∈ ps, ∀ c ∈ p, okSign c) (hne : ∀ p ∈ ps, p ≠ [])
    (hbr : 0 < br ∧ br < ps.length) (hwr : wr sd br dr ps ps.length = inner) (hpl : placeOf sd br dr ps ps.length = place) (hil : inner.length ≤ 1500) {G : Prop}
    (K : place ≤ inner.length → ∀ e n k out z, BrokenAt w (openK ++ op ++ inner ++ [34, 34, 34, 35]) (openK ++ op ++ inner.take place) ob (4 + 3 + ob.toNat) ((openK ++ op).length + place) e n k out z → G) : G := by
  have hopn : op.length = ob.toNat := by rw [← hop]; cases ob <;> rfl
  have hob : ob.toNat ≤ 1 := by cases ob <;> decide
  have hPl : (openK ++ op).length = 4 + 3 + ob.toNat := by rw [List.length_append, hopn]; rfl
  obtain ⟨S, hS⟩ := wr_on (sd := sd) (br := br) (dr := dr) (ps := ps) (k := br) ps.length (by omega)
  rw [gap_pos hbr.1, if_pos rfl, hwr] at hS
  have hplc : place = (wr sd br dr ps br).length + 1 + (blanks (foldOf sd br % 4)).length + (if foldOf sd br % 4 = 0 then 1 else 0) := by
    rw [← hpl]
    unfold placeOf
    rw [if_pos hbr]
  generalize hj : foldOf sd br % 4 = j at hS hplc
  generalize foldOf sd br / 4 = j2 at hS
  generalize hbd : badS (sd % 4) = bd at hS
  have hb : BadOk bd := by rw [← hbd]; exact bad_ok (badS_is _)
  have hlen : (openK ++ op ++ inner ++ [34, 34, 34, 35]).length = 4 + 3 + ob.toNat + inner.length + 4 := by rw [List.length_append, List.length_append, hPl]; rfl
  have hil2 : inner.length = (wr sd br dr ps br).length + (1 + (blanks j).length + 1 + 1 + (whites j2).length + S.length) := by rw [hS]; simp; omega
  have hpli : place ≤ inner.length := by rw [hplc, hil2]; split <;> omega
  have H0 : (openK ++ op ++ inner ++ [34, 34, 34, 35]).drop (4 + 3 + ob.toNat) = wr sd br dr ps br ++ (([92] ++ blanks j ++ [bd]) ++ 10 :: (whites j2 ++ S ++ [34, 34, 34, 35])) := by
    rw [List.append_assoc (openK ++ op), ← hPl, List.drop_left, hS]; simp
  obtain ⟨n, k, r⟩ := rows_law (l := openK ++ op ++ inner ++ [34, 34, 34, 35]) (q := (openK ++ op).length + place) (by rw [hlen, hPl]; omega) (by omega)
  have htk : (openK ++ op ++ inner ++ [34, 34, 34, 35]).take ((openK ++ op).length + place) = openK ++ op ++ inner.take place := by
    rw [List.append_assoc (openK ++ op), List.take_append, List.take_of_length_le (by omega), Nat.add_sub_cancel_left, List.take_append_of_le_length hpli]
  have r5 := r.parts
  have r6 := r.row
  rw [htk] at r5 r6
  have hl : (openK ++ op ++ inner ++ [34, 34, 34, 35]).length ≤ 100000 := by rw [hlen]; omega
  have hR := wr_reads (w := w) (sd := sd) (br := br) (dr := dr) hok hne hl br _ (Nat.le_of_lt hbr.2) (.inr (Nat.le_refl _)) H0
  have H1 := dr_next H0
  obtain ⟨z, z1, z2, z3⟩ := r6
  refine K hpli (4 + 3 + ob.toNat + (wr sd br dr ps br).length) n k _ z ⟨hR, dr_get (X := [92]) (i := 0) (S := blanks j ++ ([bd] ++ (10 :: (whites j2 ++ S ++ [34, 34, 34, 35])))) (H1.trans (by simp)) rfl, fun t1 t2 => ?_, ?_, Nat.le_trans r.le ?_, r5, z1, Nat.le_trans z2 ?_, z3⟩
  · exact bad_reads (w := w) (j := j) (bd := bd) (n := n) (k := k) (q := (openK ++ op).length + place) hb H1 hl (by rw [hplc, hPl]; omega) r.cnt r.le r.kq r.last t1 t2
  · show Txt.startswith3 _ (tx [10]) ((4 + 3 : Nat) : Int) = ob
    rw [starts_at (by omega)]
    have : (openK ++ op ++ inner ++ [34, 34, 34, 35]).drop (4 + 3) = op ++ inner ++ [34, 34, 34, 35] := rfl
    rw [this, ← hop]
    cases ob with
    | true => rfl
    | false =>
      rcases wr_head (sd := sd) (br := br) (dr := dr) hne ps.length (Nat.le_refl _) with h | ⟨x, r, h, hx⟩
      · rw [hwr] at h; rw [h]; rfl
      · rw [hwr] at h; rw [h]
        unfold white at hx
        simp
        omega
  · omega
  · omega
end
-- WkT
section
open PySem.Builtin PySem.Builtin.Str PySem.Builtin.BaseException
set_option maxRecDepth 100000
/-- the refusal's words are the law's -/
theorem refuse_is (n : Nat) (c : Int) : refuse unesc n c = Str.ofString "Unescaped '\\' in a string (at line " ++ Str.ofString (toString ((n : Int) + 1)) ++ Str.ofString ", column " ++ Str.ofString (toString c) ++ Str.ofString ")" := by
  have e : Str.ofString "Unescaped '\\' in a string (at line " = unesc ++ Str.ofString " (at " ++ Str.ofString "line " := by decide +kernel
  rw [e]
  unfold refuse
  have e0 : ∀ x : Str, Str.empty ++ x = x := fun x => by
    apply Str.ext'
    rw [Str.cps_append]
    show #[] ++ x.cps = x.cps
    simp
  rw [e0, e0]
  apply Str.ext'
  simp only [Str.cps_append, Array.append_assoc]
/-- where the refusal lies -/
structure RefAt (w : World) (h : Heap) (e : Addr) (m : Str) (tk : Tok) : Prop where
  C : h.get? 199 = some (Mine.F.o_267 w.params)
  ns : ∃ mN : Str → Option Value, h.Ns 198 mN ∧ mN "__str__" = none
  at_ : ∃ o vs t0, h.get? e = some o ∧ o.cls = .ref 199 ∧ o.data = .fields vs ∧ vs[0]? = some (.ref t0) ∧ h.TupAt t0 [.str m tk]
theorem kind_bstr : builtinKind "BaseException.__str__" = some .slot := by kernel_rfl
theorem split_bstr : splitId "BaseException.__str__" = some ("BaseException", "__str__") := by kernel_rfl
section
variable {prog : Program} {w w' : World} {A : Around} {E : Value → Shared → Prop} {s : Shared} {e : Addr} {m : Str} {tk : Tok}
theorem ref_args {M : Model} {Q : Value × List Value → Shared → Prop} (x : RefAt w s.heap e m tk) (hq : ∀ v, Q (v, [.str m tk]) s) : wpAny M A (bexcArgs (.ref e)) Q E s := by
  obtain ⟨_, _, o, vs, t0, ho, _, hd, h0, ot, k, hto, _, htd⟩ := x
  unfold bexcArgs
  refine wpAny_bind (wpAny_field ho hd h0 (wpAny_bind (wpAny_seqItems hto htd ?_)))
  exact wpAny_pure (hq _)
theorem ref_check {M : Model} {Q : Unit → Shared → Prop} (x : RefAt w s.heap e m tk) (hq : Q () s) : wpAny M A (checkBuiltinCall "BaseException.__str__" ⟨[.ref e], []⟩) Q E s := by
  obtain ⟨hC, _, o, vs, t0, ho, hc, hd, h0, ht⟩ := x
  obtain ⟨hp, g, d, t, os⟩ := s
  unfold Mine.F.o_267 at hC
  simp only [checkBuiltinCall, kind_bstr, split_bstr]
  repeat (first | (with_reducible refine wpAny_loadPart_at ho ?_; rw [hc]) | with_reducible refine wpAny_loadPart_at hC ?_ | (with_reducible refine wpAny_isSubtype_exc hC ?_) | wp_step)
  exact hq
theorem ref_str {Q : Value → Shared → Prop} (x : RefAt w s.heap e m tk) (hq : Q (.str m tk) s) : wpAny (model prog w') A (call (.builtin "BaseException.__str__") [.ref e]) Q E s := by
  refine wpAny_call (codeAny_call_builtin F.excStr_ValueError.str.plain F.entry_bexc_str (ref_check x ?_))
  unfold Builtin.«BaseException.__str__»
  repeat (first | with_reducible refine ref_args x fun _ => ?_ | wp_step)
  exact hq
theorem ref_special {Q : Option Value → Shared → Prop} (x : RefAt w s.heap e m tk) (hq : Q (some (.str m tk)) s) : wpAny (model prog w') A (callSpecial? (.ref e) (Str.ofString "__str__")) Q E s := by
  have hx := x
  obtain ⟨hC, ⟨mN, hn, hnone⟩, o, vs, t0, ho, hc, hd, h0, ht⟩ := x
  obtain ⟨hp, g, d, t, os⟩ := s
  unfold Mine.F.o_267 at hC
  simp only [callSpecial?]
  unfold specialOf
  refine wpAny_bind (wpAny_bind ?_)
  unfold typeOf
  refine wpAny_bind (wpAny_loadPart_at ho (wpAny_pure ?_))
  rw [hc]
  refine wpAny_typeLookup_exc (B := "ValueError") (y := some (.builtin "BaseException.__str__")) hC hn F.excBase_ValueError.mroIs F.excStr_ValueError.str.lookup ?_
  rw [hnone]
  dsimp only
  simp only [F.excStr_ValueError.str.bind]
  exact wpAny_holding (wpAny_bind (wpAny_pure (wpAny_bind (wpAny_mono (ref_str hx hq) (fun v s' h' => wpAny_pure h') fun _ _ h' => h'))))
theorem strOf_ref (hu : A.units < cLine) {Q : Value → Shared → Prop} (x : RefAt w s.heap e m tk) (hq : Q (.str m tk) s) : wpAny (model prog w') A (Builtin.Str.strOf (.ref e)) Q E s := by
  unfold Builtin.Str.strOf
  repeat (first | with_reducible refine wpAny_cRoomFor hu ?_ | with_reducible refine ref_special x ?_ | wp_step)
  exact hq
theorem str_of_ref (hu : A.units + 2 < cLine) {Q : Value → Shared → Prop} (x : RefAt w s.heap e m tk) (h : Q (.str m tk) s) : wpAny (model prog w') A (call (.type "str") [.ref e]) Q E s :=
  callType_new F.called_str (by decide) (F.typeCall_str_1 _) (F.newCall_str_1 _) (fun obj => F.args_object_init_2 obj _) F.entry_str_new
    (meets_str_new (S := fun A' R s' => A'.units + 1 < cLine ∧ RefAt w s'.heap e m tk ∧ R (.ok (.ret (.str m tk))) s')
      fun _ _ A' _ _ hq => strOf_ref (A := A'.in1) hq.1 hq.2.1 hq.2.2)
    ⟨(show A.units + 1 + 1 < cLine from hu), x, typeIs_str _ _ _, h⟩
end
section
variable {w : World} {A : Around} {E : Value → Shared → Prop} {s : Shared} {h₀ : Heap} {L : Addr} {m : Str → Option Value} {news : List (Addr × Obj)} {Q : Value → Shared → Prop}
theorem split_tx {x y : Str} {t u : Tok} (F : Fr h₀ L s.heap m) (N : News h₀ L s.heap news) (e : x = y) (hsz : y.length + 2 ≤ sizeLine)
    (h : ∀ (D : Addr) (vs : List Value) (h' : Heap) (k : Tok), vs.length = (Txt.split y (Str.ofString "\n")).length → (∀ (i : Nat) (z : Str), (Txt.split y (Str.ofString "\n"))[i]? = some z → ∃ t, vs[i]? = some (Value.str z t)) → Fr h₀ L h' m → News h₀ L h' ((D, W.listOf vs.toArray 0) :: news) → Q (.ref D) { s with heap := h', toks := k }) :
    wpAny (model PW w) A (call (.builtin "str.split") [.str x t, .str (Str.ofString "\n") u]) Q E s := by
  subst e
  refine KSpl.split1 F N (by decide) (fun D l h' k e _ F' N' _ => h D (strValues l) h' k ?_ (fun i z hz => ?_) F' N') hsz
  · rw [← e]; simp [strValues]
  · rw [← e, List.getElem?_map] at hz
    cases hl : l[i]? with
    | none => rw [hl] at hz; cases hz
    | some p =>
      rw [hl] at hz
      have : p.1 = z := Option.some.inj hz
      exact ⟨p.2, by rw [strValues, List.getElem?_map, hl, ← this]; rfl⟩
theorem item_last {value slice : Expr} {l : Addr} {vs : List Value} {n k : Nat} {u : Tok} {v : Value} (N : News h₀ L s.heap news) (hm : (l, W.listOf vs.toArray n) ∈ news) (hn : vs.length = k + 1) (hx : vs[k]? = some v) (h : Q v s)
    (hs : subscripted slice false (.ref l) (.int (-1) u) = operate [.ref l, .int (-1) u] (getItem (.ref l) (.int (-1) u)) := by with_unfolding_all rfl) (hg : ∀ r, letTemporaryGo value (.ref l) r = pure () := by intro _; with_unfolding_all rfl) :
    wpAny (model PW w) A (subscriptTail value slice (.ref l) (.int (-1) u)) Q E s :=
  subscriptTail_builtin (led_list N hm).typeIs slot_list_getitem.lookup (wpAny_getItem_list_neg (led_list N hm) (by decide) (by rw [List.size_toArray]; omega) (by decide) (by rw [List.size_toArray, hn, show (-1 + ((k + 1 : Nat) : Int)).toNat = k from by omega]; simpa using hx) h) hs hg
theorem str_led {prog : Program} {w' : World} {e t0 : Addr} {oe ot : Obj} {ws : Array Value} {nt : Nat} {x : Str} {tk : Tok} (X : (KK w.params).In h₀) (F : Fr h₀ L s.heap m) (N : News h₀ L s.heap news) (me : (e, oe) ∈ news) (mt : (t0, ot) ∈ news) (hc : oe.cls = .ref 199) (hd : oe.data = .fields ws) (h0 : ws[0]? = some (.ref t0)) (hc2 : ot.cls = .type "tuple") (hd2 : ot.data = .seq [.str x tk].toArray nt)
    (hu : A.units + 2 < cLine) (h : Q (.str x tk) s) : wpAny (model prog w') A (call (.type "str") [.ref e]) Q E s := by
  have XX : (KK w.params).In s.heap := X.keeps F.keep
  refine str_of_ref (w := w) hu ⟨XX 199 _ (by kernel_rfl), ⟨_, .of_isNs (isNs_of_in XX (by kernel_rfl)), nsMap_none_of_in XX (by kernel_rfl) (by kernel_rfl)⟩, ⟨oe, ws, t0, (N _ me).1, hc, hd, h0, ot, nt, (N _ mt).1, hc2, hd2⟩⟩ h
end
end
-- Wk26
section
open PySem PySem.W PyProof.Rows Builtin.Str
theorem units_mark (A : Around) (h : Option Value) : (A.mark h).units = A.units := rfl
/-- a contract of a call that may leave its caller's ground turned -/
noncomputable def SpecT (w : World) (d u : Nat) (f : Addr) (vs : List Value) (P : Heap → List (Addr × Obj) → Prop) (R : Value → Prop) : Prop :=
  ∀ (A : Around) (outer : List Env) (cn : Str) (cs : Scope) (ca : Addr) (ccd : Value) (A₀ : Around) (base h₀ : Heap) (L : Addr) (m : Str → Option Value) (news : List (Addr × Obj)) (s : Shared) (mean : ExcName → Option Value) (mg mb : Str → Option Value) (Q E : Value → Shared → Prop),
    At w A outer (envOf cn cs L ca ccd) A₀ base h₀ L m news s.heap mean mg mb → Facts w base → TopQ w mean mg mb base → KtsDicts (outer.filterMap (·.frame)) h₀ → A.handled = none → A.depth + d < recursionLimit → A.units + u < cLine → P h₀ news →
    (∀ v h₀' h' tk', KtsTurn (outer.filterMap (·.frame)) h₀ h₀' → Fr h₀' L h' m → (∃ ps, h'.get? 254 = some (tabObj ps)) → R v → Q v { s with heap := h', toks := tk' }) →
    wpAny (model PW w) A (call (.ref f) vs) Q E s
theorem got_led {g h : Heap} {L e t : Addr} {n r : List (Addr × Obj)} {c : Value} {vs : List Value} {G : Prop} (x : Got n e t c vs) (N : News g L h n) (M : News g L h r)
    (K : ∀ oe ot ws nt, News g L h ((e, oe) :: (t, ot) :: r) → oe.cls = c → oe.data = .fields ws → ws[0]? = some (.ref t) → ot.cls = .type "tuple" → ot.data = .seq vs.toArray nt → G) : G := by
  obtain ⟨oe, ot, ws, nt, h1, h2, h3, h4, h5, h6, h7⟩ := x
  exact K oe ot ws nt (fun q hq => by
    rcases List.mem_cons.mp hq with rfl | hq
    · exact N _ h1
    rcases List.mem_cons.mp hq with rfl | hq
    · exact N _ h2
    · exact M _ hq) h3 h4 h5 h6 h7
local macro_rules | `(tactic| walk_at "call builtin:str.split") => `(tactic| (k_dflt refine split_tx (by k_asm) (by k_asm) (by assumption) (by omega) ?_; intros))
local macro_rules | `(tactic| walk_at "subscriptTail") => `(tactic| ((fail_if_success fail_if_success with_reducible refine gRI ?_); k_dflt refine item_last (by k_asm) (by walk_at "mine mem") (by with_reducible assumption) (by with_reducible assumption) ?_))
local macro_rules | `(tactic| walk_at "call type:str") => `(tactic| (k_here; (with_reducible show wpAny _ _ (call (Value.type "str") [Value.ref _]) _ _ _); k_dflt (refine' str_led ?X ?F ?N ?me ?mt ?hc ?hd ?h0 ?hc2 ?hd2 ?u ?_; (case N => k_asm); (case F => k_asm); (case X => k_asm); (case hc => assumption); (case hd => assumption); (case h0 => assumption); (case hc2 => assumption); (case hd2 => assumption); (case me => walk_at "mine mem"); (case mt => walk_at "mine mem"); (case u => (simp only [units_mark, units_deeper]; omega)); k_whole)))
set_option maxRecDepth 100000 in
set_option maxHeartbeats 8000000 in
theorem broken_spec (w : World) (lp ld : Addr) (ps : List (List Nat)) (dr : List (Nat × Nat)) (sd : Nat) (ob : Bool) (t1 t2 : Tok) (hps : ps.length ≤ 40) (hat : atOf ps ps.length ≤ 100) (hsd : sd < 16) (hdr : 0 < dr.length) (hdr2 : dr.length ≤ 40) (hmn : ∀ p ∈ dr, p.2 ≤ 2) (hok : ∀ p ∈ ps, ∀ c ∈ p, okSign c) (hne : ∀ p ∈ ps, p ≠ []) :
    Tag KK RW (SpecT w 15 100 320 [.ref lp, .ref ld, .int sd t1, .str (tx (if ob then [10] else [])) t2] (fun _ news => (TextsIn news lp ps ∧ DrawnIn news ld dr) ∧ TabN news) (fun v => v = .bool true)) := by
  k_fill
  unfold Tag SpecT
  intro A outer cn cs ca ccd A₀ base h₀ L m news s mean mg mb Q E hAt XB TB DD hh hd hu hP hret
  obtain ⟨B, F, X, N, T, hA, hf, hkk⟩ := hAt
  have KX := X.K
  have hsl := sizeLine_eq
  generalize hop : (if ob then [10] else [] : List Nat) = op
  have hopl : (tx op).length ≤ 1 := by rw [tx_length, ← hop]; split <;> simp
  obtain ⟨hP1, hP2⟩ := hP
  obtain ⟨vs, n0, hv1, hv2, hv3⟩ := id hP1.1
  refine wpAny_call ?_
  k_dflt ((refine' code_defS ?k1_38 ?k2_38 ?k3_38 ?k4_38 ?k5_38 ?XB_38 ?TB_38 ?D_38 ?T0_38 ?kA_38 ?k6_38 ?k7_38 ?k8_38 ?k9_38 ?kB_38 ?_ ?cK_38 ?c2_38 ?c3_38 ?c4_38 ?c5_38; (case kA_38 => assumption); (case k2_38 => k_asm); (case k1_38 => k_asm); (case XB_38 => exact Facts.K (by assumption)); (case TB_38 => assumption); (case D_38 => assumption); (case T0_38 => exact KtsTurn.refl); (case k3_38 => k_asm); (case k4_38 => k_asm); (case k5_38 => k_asm); (case k6_38 => k_is); (case k7_38 => k_is); (case k8_38 => ktr_room); (case k9_38 => exact BindsTo.of_eq rfl); (case kB_38 => exact locs rfl); (case cK_38 => assumption); (case c2_38 => exact rfl); (case c3_38 => exact rfl); (case c4_38 => exact rfl); (case c5_38 => decide); k_whole; intro g' L' h' FG' F' N' B' X' T' D'; (try dsimp only); (try k_fold)))
  have XX := X.keeps (by assumption : Fr h₀ L _ m).keep
  generalize (s.toks + List.length _) = tk0
  by_cases hlen : ps.length < 2
  · walk_at "mine steps"
    rename News h₀ L _ news => NZ
    exact hret _ _ _ _ KtsTurn.refl (by assumption) ⟨_, (NZ _ hP2.1).1⟩ rfl
  · have hbr : (1 + (sd : Int).fmod ((vs.length : Int) - 1)) = ((1 + sd % (ps.length - 1) : Nat) : Int) := by
      rw [hv2, show ((ps.length : Int) - 1) = ((ps.length - 1 : Nat) : Int) from by omega, Int.fmod_eq_emod_of_nonneg _ (by omega)]
      push_cast
      rfl
    have hbr1 : 0 < 1 + sd % (ps.length - 1) ∧ 1 + sd % (ps.length - 1) < ps.length := by
      have := Nat.mod_lt sd (show 0 < ps.length - 1 by omega)
      omega
    generalize 1 + sd % (ps.length - 1) = br at hbr hbr1
    walk_at "mine steps"
    refine call_args (congrArg (fun z => [_, _, _, Value.int z _]) hbr) ?_
    k_dflt (refine' call_specG (written_spec w lp ld ps dr sd br _ _ hps hat hsd (by omega) hdr hdr2 hmn ?c1) ?B ?F ?X ?N ?T ?hA ?hf ?hk ?hh ?hd hP1 ?_; (case c1 => exact fun p hp c hc => by have := hok p hp c hc; unfold okSign at this; omega); (((case B => k_asm); (case F => k_asm); (case X => assumption); (case N => k_asm); (case T => k_asm); (case hA => first | exact Around.frames_deeper (by assumption) | exact Around.frames_deeper (Around.frames_deeper (by assumption))); (case hf => exact rfl); (case hk => exact rfl); (case hh => with_unfolding_all assumption); (case hd => first | exact dp1 (by assumption) rfl | exact dp0 (by assumption) rfl | (simp only [depth_under_make, depth_under_kw, depth_in1, depth_deeper, depth_caller] at *; omega)))); k_whole)
    rintro v news' h1 tk1 ⟨l, t, t', rfl, rfl⟩ F1 N1
    generalize hwr : wr sd br dr ps ps.length = inner at N1
    generalize hpl : placeOf sd br dr ps ps.length = place at N1
    have hil : (tx inner).length ≤ 1500 := by
      have := wr_le sd br dr ps ps.length (Nat.le_refl _)
      rw [tx_length, ← hwr]; omega
    walk_at "mine steps"
    refine call_args (congrArg (fun z => [Value.str z _, _]) (src_txB _ _)) ?_
    refine broken_facts (w := w) hop hok hne hbr1 hwr hpl (by rw [tx_length] at hil; exact hil) fun hpi e n k out z BR => ?_
    have hn2 := BR.few
    have hz1 := BR.zle
    have hopn : op.length ≤ 1 := by rw [tx_length] at hopl; exact hopl
    have hinn : inner.length ≤ 1500 := by rw [tx_length] at hil; exact hil
    have hlen2 : (tx (openK ++ op ++ inner ++ [34, 34, 34, 35])).length ≤ 2000 := by
      rw [tx_length, List.length_append, List.length_append, List.length_append]
      show 7 + op.length + inner.length + 4 ≤ 2000
      omega
    obtain ⟨hm0, q0, hq1, hq2⟩ := hP2
    k_dflt (refine' call_specE (multiX_spec w (tx (openK ++ op ++ inner ++ [34, 34, 34, 35])) 4 (4 + 3 + ob.toNat) e ob out _ _ _ (by omega) BR.lf rfl BR.reads BR.back BR.bad) ?wB ?wF ?wX ?wN ?wT ?wA ?wf ?wk XB TB ?wh ?wd ?wP ?_; (case wN => k_asm); (case wB => k_asm); (case wF => k_asm); (case wX => assumption); (case wT => k_asm); (case wA => first | exact Around.frames_deeper (by assumption) | exact Around.frames_deeper (Around.frames_deeper (by assumption))); (case wf => exact rfl); (case wk => exact rfl); (case wh => with_unfolding_all assumption); (case wd => first | exact dp1 (by assumption) rfl | exact dp0 (by assumption) rfl | exact dp1 (d := 6) (dp1 (by assumption) rfl) rfl | (simp only [depth_deeper] at *; omega)); (case wP => (refine ⟨?_, q0, ?_, hq2⟩ <;> walk_at "mine mem")); k_whole)
    intro g3 e3 t3 tm3 ps3 h3 tk3 F3 R3 U3
    have hex : nsIn (KK w.params) mainGlobals (Str.ofString "TOMLDecodeError") = some (some (.ref 199)) := by k_is
    have hki : ktsIn (KK w.params) 199 "BaseException" = true := by kernel_rfl
    k_dflt (refine' caught_SOB (KF := KK w.params) (C := 199) R3 F3 ?vK U3 XB.K TB ?vD KtsTurn.refl hex hki ?_; (case vK => assumption); (case vD => assumption); k_whole)
    intro h5 g5 n5 tk5 T5 F5 N5 G5 M5 B5 X5 P5 D5
    have XX := XB.keeps B5.stays
    refine got_led G5 N5 M5 fun oe ot ws nt N6 hoc hod ho0 hoc2 hod2 => ?_
    clear N5 M5
    have hsl9 : Txt.slice (tx inner) none (some (place : Int)) = tx (inner.take place) := take_tx hpi
    have hsl8 : (tx (inner.take place)).length ≤ 1500 := by rw [tx_length, List.length_take]; omega
    have hx9 : Str.ofString "k = \"\"\"" ++ tx op ++ Txt.slice (tx inner) none (some (place : Int)) = tx (openK ++ op ++ inner.take place) := by
      rw [hsl9, show Str.ofString "k = \"\"\"" = tx openK from rfl, tx_append, tx_append]
    have hx8 : (tx (openK ++ op ++ inner.take place)).length ≤ 2000 := by
      rw [tx_length, List.length_append, List.length_append]
      have : (inner.take place).length ≤ 1500 := by rw [List.length_take]; omega
      show 7 + op.length + _ ≤ 2000
      omega
    walk_at "mine steps"
    rename _ = (Txt.split _ _).length => hv
    rename ∀ (i : Nat) (z : Str), (Txt.split _ _)[i]? = some z → _ => hw
    rw [BR.parts] at hv
    obtain ⟨tz, hzz⟩ := hw n z BR.row
    walk_at "mine steps"
    rename News _ L _ _ => NZ
    refine hret _ _ _ _ (by assumption) (by assumption) ⟨ps3, (NZ (254, tabObj ps3) (by walk_at "mine mem")).1⟩ ?_
    refine congrArg Value.bool (beq_iff_eq.mpr ?_)
    refine Eq.trans (congrArg (refuse unesc n) BR.zis.symm) ?_
    rw [refuse_is, hv]
    rfl
end
-- WkP
section
open PySem PySem.W PyProof.Rows PyProof.Rows.LCg
section
variable {prog : Program} {w : World} {A : Around} {E : Value → Shared → Prop} {s : Shared}
theorem draw_lst {it l : Addr} {items : Array Value} (hne : l ≠ it) : ∀ (n i : Nat) (s : Shared) (Q : List Value → Shared → Prop), s.heap.IsListIter it l i → s.heap.IsList l items → i + n ≤ items.size →
    (∀ h', h'.IsListIter it l (i + n) → Heap.SameBut it s.heap h' → Q ((items.toList.drop i).take n) { s with heap := h' }) → wpAny (model prog w) A (draw (.ref it) n) Q E s
  | 0, i, s, Q, hit, _, _, hQ => by
    show wpAny _ _ (pure []) Q E s
    exact wpAny_pure (by simpa using hQ s.heap hit (Heap.SameBut.refl ..))
  | n + 1, i, s, Q, hit, hl, hle, hQ => by
    have hlt : i < items.size := by omega
    show wpAny _ _ (pyNext (.ref it) >>= _) Q E s
    refine wpAny_bind (wpAny_pyNext_list_item hit hl (x := items[i]) (by simp [hlt]) fun h₁ hit₁ hs₁ => ?_)
    refine wpAny_bind (wpAny_holding (draw_lst hne n (i + 1) _ _ hit₁ (hl.extBut hs₁.extBut hne) (by omega) fun h₂ hit₂ hs₂ => wpAny_pure ?_))
    have hd : items.toList.drop i = items[i] :: items.toList.drop (i + 1) := by simp [List.drop_eq_getElem_cons, hlt]
    have := hQ h₂ (by rw [show i + (n + 1) = i + 1 + n by omega]; exact hit₂) (hs₁.trans hs₂)
    rw [hd, List.take_succ_cons] at this
    exact this
theorem unpackItems_lst {l : Addr} {items : Array Value} {Q : List Value → Shared → Prop} (hh : A.handled = none) (hl : s.heap.IsList l items)
    (hQ : ∀ h', Heap.ExtBut s.heap.objs.size s.heap h' → Q items.toList { s with heap := h' }) : wpAny (model prog w) A (unpackItems (.ref l) items.size none) Q E s := by
  have hlt : l ≠ s.heap.objs.size := by obtain ⟨o, ho, _⟩ := hl; exact Nat.ne_of_lt (Heap.lt_size ho)
  unfold unpackItems
  refine wpAny_bind ?_
  unfold notIterableAtAll
  refine wpAny_bind (wpAny_specialOf hl.typeIs slot_list_iter.lookup ?_)
  refine wpAny_pure ?_
  simp only [Bool.false_eq_true, if_false]
  refine wpAny_bind (wpAny_holding (wpAny_pyIter_list hl ?_))
  refine wpAny_bind (wpAny_holding (draw_lst hlt items.size 0 _ _ ⟨_, Heap.get?_push_size _ rfl, rfl, rfl⟩ (hl.push _) (by omega) fun h₁ hit₁ hs₁ => ?_))
  have hall : List.take items.size (List.drop 0 items.toList) = items.toList := by
    rw [List.drop_zero]; exact List.take_of_length_le (by simp)
  rw [hall]
  rw [if_neg (by simp)]
  have ht₁ : h₁.IsList l items := (hl.push _).extBut hs₁.extBut hlt
  refine wpAny_bind (wpAny_holding (wpAny_pyNext_list_end hh hit₁ ht₁ (by simp) fun h₂ he₂ => ?_))
  simp only [Option.isSome_none, Bool.false_eq_true, if_false]
  exact wpAny_pure (hQ h₂ fun b o hb e => he₂ b o hb (hs₁.extBut b o hb (Heap.get?_push_of_some _ e)))
theorem unpack_lst {l : Addr} {items : Array Value} {targets : List (Bool × (Value → Sem Unit))} {Q : Unit → Shared → Prop} (hh : A.handled = none) (hl : s.heap.IsList l items) (hn : targets.length = items.size) (hstar : targets.findIdx? (·.1) = none)
    (h : ∀ h', Heap.ExtBut s.heap.objs.size s.heap h' → wpAny (model prog w) A (assignInOrder (targets.map (·.2)) items.toList) Q E { s with heap := h' }) : wpAny (model prog w) A (unpack (.ref l) targets) Q E s := by
  unfold unpack
  rw [hn, hstar]
  exact wpAny_bind (wpAny_holding (unpackItems_lst hh hl h))
/-- a pair: a tuple or a list of two -/
noncomputable def PairAt (h : Heap) (t : Addr) (v₁ v₂ : Value) : Prop := IsTup h t #[v₁, v₂] ∨ h.IsList t #[v₁, v₂]
theorem assign_pair {env : Env} {a b : Str} {pa pb tp : Pos} {kk} {T : Addr} {x y : Value} {m : Str → Option Value} {Q : Unit → Shared → Prop} (hh : A.handled = none) (ht : PairAt s.heap T x y)
    (ha : env.kindOf a = some .local) (hb : env.kindOf b = some .local) (hp : (env.scope.kind == .class || (env.scope.kind == .module && env.locals != env.globals)) = false) (hn : s.heap.Ns env.locals m)
    (h : ∀ (h' : Heap) (tk : Nat), h'.Ns env.locals (fun z => if z = b then some y else if z = a then some x else m z) → (∀ c o, c ≠ env.locals → s.heap.get? c = some o → h'.get? c = some o) → Q () { s with heap := h', toks := tk }) :
    wpAny (model prog w) A (assign (.Tuple [.Name a pa, .Name b pb] kk tp) env (.ref T)) Q E s := by
  have go : ∀ h₁, Heap.ExtBut s.heap.objs.size s.heap h₁ → wpAny (model prog w) A (assignInOrder [assign (.Name a pa) env, assign (.Name b pb) env] [x, y]) Q E { s with heap := h₁ } := fun h₁ he₁ => by
    have hL : env.locals ≠ s.heap.objs.size := Nat.ne_of_lt hn.lt
    have hn₁ : h₁.Ns env.locals m := hn.at' fun o e => he₁ _ o hL e
    have up₁ : ∀ c o, s.heap.get? c = some o → h₁.get? c = some o := fun c o e => he₁ c o (Nat.ne_of_lt (Heap.lt_size e)) e
    refine assignInOrder_cons (wpAny_assign_Name (wpAny_storeName_local ha hn₁ (fun h₂ hn₂ hs₂ => ?_) hp))
    refine assignInOrder_cons (wpAny_assign_Name (wpAny_storeName_local hb hn₂ (fun h₃ hn₃ hs₃ => ?_) hp))
    exact assignInOrder_nil (h h₃ _ hn₃ fun c o hc e => hs₃.extBut c o hc (hs₂.extBut c o hc (up₁ c o e)))
  rcases ht with ht | ht
  · exact assign_Tuple_tuple hh ht rfl rfl go
  · rw [assign_Tuple]
    exact wpAny_bind (wpAny_standAt (unpack_lst hh ht rfl rfl go))
end
/-- the source of a comprehension over pairs that hands on one of the two -/
noncomputable def SelIn (news : List (Addr × Obj)) (b : Bool) (its : Array Value) (ys : List Value) : Prop :=
  ys.length = its.size ∧ ∀ (i : Nat), i < its.size → ∃ (t : Addr) (ot : Obj) (v₁ v₂ : Value) (nt : Nat), its[i]? = some (.ref t) ∧ (t, ot) ∈ news ∧ (ot.cls = .type "tuple" ∨ ot.cls = .type "list") ∧ ot.data = .seq #[v₁, v₂] nt ∧ ys[i]? = some (cond b v₁ v₂)
section
variable {prog : Program} {w : World} {A : Around} {E : Value → Shared → Prop} {s : Shared} {h₀ : Heap} {L : Addr} {m : Str → Option Value} {env : Env}
theorem sel_block {iter : Expr} {x x₂ : Str} {px px₂ tp pz : Pos} {tk} {scope : Scope} {cl : List (Str × Addr)} {pos : Pos} {s₂ : Shared} {I ax : Addr} {b : Bool} {its : Array Value} {ys : List Value} {nk : Nat} {news : List (Addr × Obj)} {RR : Value → Addr → Result → Shared → Prop}
    (hsz : its.size ≤ sizeLine) (hcell : ∀ y ∈ scope.names, y.2 ≠ .cell) (hkind : scope.kind = .function) (hx : scope.names.lookup x = some .local) (hx₂ : scope.names.lookup x₂ = some .local) (hxx : x ≠ x₂) (hdb : (cond b x x₂ == ("__debug__" : Str)) = false) (hh : A.handled = none)
    (hit : s₂.heap.IsListIter I ax 0) (F : Fr h₀ L s₂.heap m) (N : News h₀ L s₂.heap news) (hIL : L ≠ I) (hI₀ : h₀.get? I = none) (off : ∀ p ∈ news, p.1 ≠ I)
    (hm : (ax, ({ cls := .type "list", data := .seq its nk } : Obj)) ∈ news) (hS : SelIn news b its ys)
    (hRR : ∀ D C h tk m', Fr h₀ L h m → News h₀ L h ((D, lst ys) :: news) → h.Ns C m' → h₀.get? C = none → h₀.get? D = none → C ≠ L → D ≠ L → C ≠ D → (∀ p ∈ news, p.1 ≠ C) → RR (.ref D) C (.ok .next) { s₂ with heap := h, toks := tk }) :
    wpAny (model prog w) A (newList []) (fun acc s₃ => wpAny (model prog w) A (newFunctionEnv scope env.globals cl [] env.qual none .none (some env)) (fun cenv s₄ =>
      codeAny (model prog w) A (.compStart (.ListComp (.Name (cond b x x₂) pz) [⟨.Tuple [.Name x px, .Name x₂ px₂] tk tp, iter, [], 0⟩] scope pos) 0 (.ref I) acc { cenv with scope := relabel scope env }) (RR acc cenv.locals) s₄) E s₃) E s₂ := by
  refine wpAny_newObj_type (wpAny_newFunctionEnv hcell (by intro y hy; simp at hy) (fun h₁ hns₁ hsb₁ => ?_) hkind)
  dsimp only at hns₁ hsb₁ ⊢
  generalize hH2 : s₂.heap.push { cls := .type "list", dict := none, data := .seq ([] : List Value).toArray } = H2 at hns₁ hsb₁ ⊢
  have hC : H2.objs.size = s₂.heap.objs.size + 1 := by rw [← hH2, Heap.size_push]
  have below : ∀ c : Nat, c < s₂.heap.objs.size → c ≠ H2.objs.size ∧ c ≠ s₂.heap.objs.size := fun c hc => ⟨by rw [hC]; exact Nat.ne_of_lt (Nat.lt_succ_of_lt hc), Nat.ne_of_lt hc⟩
  have hDC : s₂.heap.objs.size ≠ H2.objs.size := by rw [hC]; exact Nat.ne_of_lt (Nat.lt_succ_self _)
  have old : ∀ c o, s₂.heap.get? c = some o → h₁.get? c = some o := fun c o e => hsb₁.extBut c o (below c (Heap.lt_size e)).1 (Heap.get?_push_of_some _ (hH2 ▸ Heap.get?_push_of_some _ e))
  have hacc : h₁.get? s₂.heap.objs.size = some (lst []) := hsb₁.extBut _ _ hDC (Heap.get?_push_of_some _ (hH2 ▸ Heap.get?_push_size _ rfl))
  have fresh₀ : ∀ a : Nat, s₂.heap.objs.size ≤ a → h₀.get? a = none := fun a ha => by
    cases e : h₀.get? a with
    | none => rfl
    | some o' => exact absurd (Heap.lt_size (F.keep a o' e)) (Nat.not_lt.mpr ha)
  have hD₀ := fresh₀ _ (Nat.le_refl _)
  have hC₀ := fresh₀ H2.objs.size (by rw [hC]; exact Nat.le_succ _)
  have hDL : s₂.heap.objs.size ≠ L := Ne.symm (below L F.ns.lt).2
  have hCL : H2.objs.size ≠ L := Ne.symm (below L F.ns.lt).1
  have hIlt : I < s₂.heap.objs.size := by obtain ⟨o, e, _⟩ := hit; exact Heap.lt_size e
  have hCI : I ≠ H2.objs.size := (below I hIlt).1
  have hDI : I ≠ s₂.heap.objs.size := (below I hIlt).2
  have hCD : H2.objs.size ≠ s₂.heap.objs.size := Ne.symm hDC
  have offC : ∀ p ∈ news, p.1 ≠ H2.objs.size := fun p hp => (below _ (Heap.lt_size (N p hp).1)).1
  have offD : ∀ p ∈ news, p.1 ≠ s₂.heap.objs.size := fun p hp => (below _ (Heap.lt_size (N p hp).1)).2
  clear hC below fresh₀ hIlt
  generalize hDD : s₂.heap.objs.size = D at hacc hD₀ hDL hDI hCD offD hDC ⊢
  generalize H2.objs.size = C at hns₁ hsb₁ hC₀ hCL hCI hCD offC hDC ⊢
  have hlI : ax ≠ I := off _ hm
  have loop : ∀ s₃ : Shared, s₃ = { s₂ with heap := h₁, toks := s₂.toks + ([] : List (Str × Value)).length } →
      codeAny (model prog w) A (.compLoop (.ListComp (.Name (cond b x x₂) pz) [⟨.Tuple [.Name x px, .Name x₂ px₂] tk tp, iter, [], 0⟩] scope pos) 0 (.ref I) (.ref D) (compEnvC scope cl C env)) (RR (.ref D) C) s₃ := by
    rintro s₃ rfl
    refine LCp.codeAny_compLoop_pair
      (fun k s' => ∃ h' tk i m', s' = { s₂ with heap := h', toks := tk } ∧ i ≤ its.size ∧ k = its.size + 1 - i ∧ h'.IsListIter I ax i ∧ Fr h₀ L h' m ∧ h'.Ns C m' ∧ News h₀ L h' ((D, lst (ys.take i)) :: news)) ?_ (its.size + 1)
      ⟨h₁, _, 0, _, rfl, Nat.zero_le _, rfl, hit.at fun o e => old _ o e, F.keeps old, hns₁, fun p hp => ?_⟩
    · rintro k s' ⟨h', tk, i, m', rfl, hi, rfl, hit', F', hn', N'⟩
      have N₀ : News h₀ L h' news := fun p hp => N' p (.tail _ hp)
      have hl' : h'.IsList ax its := ⟨_, (N₀ _ hm).1, rfl, _, rfl⟩
      by_cases hlt' : i < its.size
      · obtain ⟨t, ot, v₁, v₂, nt, e1, e2, e3, e4, e5⟩ := hS.2 i hlt'
        refine wpAny_pyNext_list_item hit' hl' e1 fun h₂ hit₂ hs₂ => ?_
        refine wpAny_letOwnedTupleGo_listiter hit₂ ?_
        have up₂ : ∀ c o, c ≠ I → h'.get? c = some o → h₂.get? c = some o := fun c o hc e => hs₂.extBut c o hc e
        have hn₂ : h₂.Ns C m' := hn'.at' fun o e => up₂ _ o (Ne.symm hCI) e
        have ht₂ : PairAt h₂ t v₁ v₂ := by
          have := up₂ _ _ (off _ e2) (N₀ _ e2).1
          rcases e3 with e3 | e3
          · exact .inl ⟨ot, this, e3, nt, e4⟩
          · exact .inr ⟨ot, this, e3, nt, e4⟩
        refine assign_pair hh ht₂ (lookup_relabel_local hx) (lookup_relabel_local hx₂) (by simp [compEnvC, relabel, hkind]) hn₂ fun h₃ tk₃ hn₃ up₃ => ?_
        refine wpAny_Name (wpAny_loadName_local (v := cond b v₁ v₂) (by simp [compEnvC, relabel, hkind]) (by cases b <;> first | exact lookup_relabel_local hx | exact lookup_relabel_local hx₂) hn₃ (by cases b <;> simp [hxx]) ?_) hdb
        have up : ∀ c o, c ≠ I → c ≠ C → h'.get? c = some o → h₃.get? c = some o := fun c o h1 h2 e => up₃ c o h2 (up₂ c o h1 e)
        have zD := up _ _ (Ne.symm hDI) (Ne.symm hCD) (N' _ (.head _)).1
        have hyl : (ys.take i).length = i := by rw [List.length_take, hS.1]; omega
        refine append_at (hsz := by show (ys.take i).toArray.size ≤ sizeLine; rw [List.size_toArray, hyl]; omega) zD fun h₅ hs₅ hD₅ => ?_
        have up₅ : ∀ c o, c ≠ I → c ≠ C → c ≠ D → h'.get? c = some o → h₅.get? c = some o := fun c o h1 h2 h3 e => hs₅.extBut c o h3 (up c o h1 h2 e)
        refine ⟨its.size + 1 - (i + 1), by omega, h₅, _, i + 1, _, rfl, hlt', rfl, (hit₂.at fun o e => up₃ _ o hCI e).at fun o e => hs₅.extBut _ o hDI e, ⟨F'.ns.at' fun o e => up₅ _ o hIL (Ne.symm hCL) (Ne.symm hDL) e, fun c o e => up₅ c o (fun z => by rw [z, hI₀] at e; cases e) (fun z => by rw [z, hC₀] at e; cases e) (fun z => by rw [z, hD₀] at e; cases e) (F'.keep c o e), F'.above⟩, hn₃.sameBut hs₅ hCD, fun p hp => ?_⟩
        rcases List.mem_cons.mp hp with rfl | hp
        · refine ⟨hD₅.trans (congrArg some ?_), hDL, hD₀⟩
          have : ys.take (i + 1) = ys.take i ++ [cond b v₁ v₂] := by rw [List.take_add_one, e5]; rfl
          rw [this]
          exact lst_snoc _ _
        · exact ⟨up₅ _ _ (off p hp) (offC p hp) (offD p hp) (N₀ p hp).1, (N₀ p hp).2⟩
      · obtain rfl : i = its.size := Nat.le_antisymm hi (Nat.not_lt.mp hlt')
        refine wpAny_pyNext_list_end hh hit' hl' (by simp) fun h₂ he₂ => ?_
        have hyl : ys.take its.size = ys := List.take_of_length_le (by rw [hS.1]; exact Nat.le_refl _)
        rw [hyl] at N'
        exact hRR D C h₂ tk _ ⟨F'.ns.at' fun o e => he₂ _ o hIL e, fun c o e => he₂ c o (fun z => by rw [z, hI₀] at e; cases e) (F'.keep c o e), F'.above⟩ (fun p hp => ⟨he₂ _ _ (by
          rcases List.mem_cons.mp hp with rfl | hp
          · exact Ne.symm hDI
          · exact off p hp) (N' p hp).1, (N' p hp).2⟩) (hn'.at' fun o e => he₂ _ o (Ne.symm hCI) e) hC₀ hD₀ hCL hDL hCD offC
    · rcases List.mem_cons.mp hp with rfl | hp
      · exact ⟨hacc, hDL, hD₀⟩
      · exact ⟨old _ _ (N p hp).1, (N p hp).2⟩
  exact codeAny_compStart_list (loop _ rfl) (wpAny_pyIter_listiter (hit.at fun o e => old _ o e) (loop _ rfl))
/-- where such a comprehension begins -/
noncomputable def SelSrc (A : Around) (h₀ : Heap) (L : Addr) (m : Str → Option Value) (b : Bool) (Fin : Shared → List Value → List (Addr × Obj) → Prop) (xv : Value) (s₁ : Shared) : Prop :=
  ∃ ax its nk ys news, xv = .ref ax ∧ A.handled = none ∧ Fr h₀ L s₁.heap m ∧ News h₀ L s₁.heap news ∧ (ax, ({ cls := .type "list", data := .seq its nk } : Obj)) ∈ news ∧ its.size ≤ sizeLine ∧ SelIn news b its ys ∧ ∀ s₂ : Shared, (∃ h, s₂ = { s₁ with heap := h }) → Fin s₂ ys news
noncomputable def SelE (h₀ : Heap) (L : Addr) (m : Str → Option Value) (Q : Value → Shared → Prop) (s : Shared) (ys : List Value) (news : List (Addr × Obj)) : Prop :=
  ∀ D h tk, Fr h₀ L h m → News h₀ L h ((D, lst ys) :: news) → Q (.ref D) { s with heap := h, toks := tk }
noncomputable def SelA (h₀ : Heap) (L : Addr) (m : Str → Option Value) (y : Str) (Q : Flow → Shared → Prop) (s : Shared) (ys : List Value) (news : List (Addr × Obj)) : Prop :=
  ∀ D h tk, Fr h₀ L h (fun z => if z = y then some (.ref D) else m z) → News h₀ L h ((D, lst ys) :: news) → Q .next { s with heap := h, toks := tk }
theorem sel_eval {iter : Expr} {x x₂ : Str} {px px₂ tp pz : Pos} {tk} {scope : Scope} {cl : List (Str × Addr)} {pos : Pos} {b : Bool} {Q : Value → Shared → Prop} (_F₀ : Fr h₀ L s.heap m)
    (hclos : closureFor scope env = pure cl) (hcell : ∀ y ∈ scope.names, y.2 ≠ .cell) (hkind : scope.kind = .function)
    (hnames : ∀ y ∈ scope.names, y.2 = .local → scope.names.lookup y.1 = some .local) (hx : scope.names.lookup x = some .local) (hx₂ : scope.names.lookup x₂ = some .local) (hxx : x ≠ x₂) (hdb : (cond b x x₂ == ("__debug__" : Str)) = false)
    (h : wpAny (model prog w) A (eval iter env) (SelSrc A h₀ L m b (SelE h₀ L m Q)) E s)
    (hs : ∀ x, foldedSetIterable iter env x = pure x := by intro _; rfl) :
    wpAny (model prog w) A (eval (.ListComp (.Name (cond b x x₂) pz) [⟨.Tuple [.Name x px, .Name x₂ px₂] tk tp, iter, [], 0⟩] scope pos) env) Q E s := by
  rw [eval_ListComp]
  refine wpAny_comprehension_free (use := none) rfl hs hclos hkind hnames (wpAny_mono h (fun xv s₁ h₁ => ?_) fun _ _ e => e)
  obtain ⟨ax, its, nk, ys, news, rfl, hh, F, N, hm, hsz, S, R⟩ := h₁
  have hl : s₁.heap.IsList ax its := ⟨_, (N _ hm).1, rfl, _, rfl⟩
  refine wpAny_pyIter_list hl ?_
  have up : ∀ b o, s₁.heap.get? b = some o → (s₁.heap.push { cls := .type "list_iterator", data := .fields #[.ref ax, .int 0 0] }).get? b = some o := fun b o e => Heap.get?_push_of_some _ e
  refine sel_block hsz hcell hkind hx hx₂ hxx hdb hh ⟨_, Heap.get?_push_size _ rfl, rfl, rfl⟩ (F.keeps up) (N.grown up) (Nat.ne_of_lt F.ns.lt) (next_is_new F) (fun p hp => Nat.ne_of_lt (Heap.lt_size (N p hp).1)) hm S ?_
  intro D C h tk m' F' N' hn hC₀ hD₀ hCL hDL hCD offC
  refine ⟨m', hn, fun h'' hs'' => R { s₁ with heap := h'' } ⟨_, rfl⟩ D h'' tk (F'.change hs'' hCL hC₀) (fun p hp => ?_)⟩
  refine ⟨hs''.extBut _ _ ?_ (N' p hp).1, (N' p hp).2⟩
  rcases List.mem_cons.mp hp with rfl | hp
  · exact Ne.symm hCD
  · exact offC p hp
theorem sel_assign {iter : Expr} {x x₂ y : Str} {px px₂ tp pz py : Pos} {tk} {scope : Scope} {cl : List (Str × Addr)} {pos spos : Pos} {b : Bool} {Q : Flow → Shared → Prop} (_F₀ : Fr h₀ L s.heap m) (hLe : env.locals = L)
    (hsw : swapsWith (.ListComp (.Name (cond b x x₂) pz) [⟨.Tuple [.Name x px, .Name x₂ px₂] tk tp, iter, [], 0⟩] scope pos) (some (.Name y py)) spos.line env = pure true)
    (hclos : closureFor scope env = pure cl) (hcell : ∀ z ∈ scope.names, z.2 ≠ .cell) (hkind : scope.kind = .function)
    (hnames : ∀ z ∈ scope.names, z.2 = .local → scope.names.lookup z.1 = some .local) (hx : scope.names.lookup x = some .local) (hx₂ : scope.names.lookup x₂ = some .local) (hxx : x ≠ x₂) (hdb : (cond b x x₂ == ("__debug__" : Str)) = false)
    (hy : env.kindOf y = some .local) (hp : (env.scope.kind == .class || (env.scope.kind == .module && env.locals != env.globals)) = false)
    (h : wpAny (model prog w) A (eval iter env) (SelSrc A h₀ L m b (SelA h₀ L m y Q)) E s)
    (hs : ∀ x, foldedSetIterable iter env x = pure x := by intro _; rfl) :
    wpAny (model prog w) A (exec (.Assign [.Name y py] (.ListComp (.Name (cond b x x₂) pz) [⟨.Tuple [.Name x px, .Name x₂ px₂] tk tp, iter, [], 0⟩] scope pos) spos) env) Q E s := by
  subst hLe
  rw [exec_Assign_Name_used _ _ _ _ hsw]
  refine wpAny_bind (wpAny_standAt (wpAny_bind ?_))
  show wpAny _ A (do let _ ← comprehension (.ListComp (.Name (cond b x x₂) pz) [⟨.Tuple [.Name x px, .Name x₂ px₂] tk tp, iter, [], 0⟩] scope pos) scope env _ (newList []) false (eval iter env) (some (assign (.Name y py) env))) _ _ s
  refine wpAny_bind (wpAny_mono (wpAny_comprehension_free (use := some (assign (.Name y py) env)) (Q := fun _ s' => Q .next s') rfl hs hclos hkind hnames
    (wpAny_mono h (fun xv s₁ h₁ => ?_) fun _ _ e => e)) (fun _ s' hq => wpAny_pure (wpAny_pure hq)) fun _ _ e => e)
  obtain ⟨ax, its, nk, ys, news, rfl, hh, F, N, hm, hsz, S, R⟩ := h₁
  have hl : s₁.heap.IsList ax its := ⟨_, (N _ hm).1, rfl, _, rfl⟩
  refine wpAny_pyIter_list hl ?_
  have up : ∀ b o, s₁.heap.get? b = some o → (s₁.heap.push { cls := .type "list_iterator", data := .fields #[.ref ax, .int 0 0] }).get? b = some o := fun b o e => Heap.get?_push_of_some _ e
  refine sel_block hsz hcell hkind hx hx₂ hxx hdb hh ⟨_, Heap.get?_push_size _ rfl, rfl, rfl⟩ (F.keeps up) (N.grown up) (Nat.ne_of_lt F.ns.lt) (next_is_new F) (fun p hp => Nat.ne_of_lt (Heap.lt_size (N p hp).1)) hm S ?_
  intro D C h' tk m' F' N' hn hC₀ hD₀ hCL hDL hCD offC
  show wpAny _ A (assign (.Name y py) env (.ref D)) _ _ _
  refine wpAny_assign_Name (wpAny_storeName_local hy F'.ns (fun h₂ hn₂ hs₂ => ?_) hp)
  have hL₀ : h₀.get? env.locals = none := Heap.get?_none_of_le F'.above
  have F₂ : Fr h₀ env.locals h₂ (fun z => if z = y then some (.ref D) else m z) := ⟨hn₂, fun b o e => hs₂.extBut b o (fun q => by rw [q, hL₀] at e; cases e) (F'.keep b o e), F'.above⟩
  refine ⟨m', hn.sameBut hs₂ hCL, fun h'' hs'' => R { s₁ with heap := h'' } ⟨_, rfl⟩ D h'' _ (F₂.change hs'' hCL hC₀) (fun p hp => ?_)⟩
  have z : h₂.get? p.1 = some p.2 := hs₂.extBut _ _ (N' p hp).2.1 (N' p hp).1
  refine ⟨hs''.extBut _ _ ?_ z, (N' p hp).2⟩
  rcases List.mem_cons.mp hp with rfl | hp
  · exact Ne.symm hCD
  · exact offC p hp
end
end
-- WkQ
section
theorem choice_list {P : Nat → Value → Prop} : ∀ (n : Nat), (∀ i, i < n → ∃ y, P i y) → ∃ ys : List Value, ys.length = n ∧ ∀ i, i < n → ∃ y, ys[i]? = some y ∧ P i y
  | 0, _ => ⟨[], rfl, fun i h => by omega⟩
  | n + 1, h => by
    obtain ⟨ys, hl, hy⟩ := choice_list n fun i hi => h i (by omega)
    obtain ⟨y, hp⟩ := h n (by omega)
    refine ⟨ys ++ [y], by rw [List.length_append, hl]; rfl, fun i hi => ?_⟩
    by_cases e : i < n
    · obtain ⟨z, h1, h2⟩ := hy i e
      exact ⟨z, by rw [List.getElem?_append_left (by omega)]; exact h1, h2⟩
    · obtain rfl : i = n := by omega
      exact ⟨y, by rw [List.getElem?_append_right (by omega), hl, Nat.sub_self]; rfl, hp⟩
theorem carried_of {ys : List Value} : ∀ {l : List Nat}, ys.length = l.length → (∀ (i c : Nat), l[i]? = some c → ∃ t, ys[i]? = some (Value.str ⟨#[c]⟩ t)) → CarriedAll ys (l.map fun c => PyData.str ⟨#[c]⟩) := by
  induction ys with
  | nil =>
    intro l hl _
    cases l with
    | nil => exact .nil
    | cons c l => cases hl
  | cons y ys ih =>
    intro l hl h
    cases l with
    | nil => cases hl
    | cons c l =>
      obtain ⟨t, ht⟩ := h 0 c rfl
      obtain rfl : y = Value.str ⟨#[c]⟩ t := Option.some.inj ht
      exact .cons (.str _ _) (ih (Nat.succ.inj hl) fun i c hc => h (i + 1) c hc)
theorem sel_drawn {news : List (Addr × Obj)} {ld : Addr} {dr : List (Nat × Nat)} (h : DrawnIn news ld dr) : ∃ (vs : List Value) (n : Nat) (ys : List Value), (ld, W.listOf vs.toArray n) ∈ news ∧ vs.length = dr.length ∧ SelIn news true vs.toArray ys ∧ CarriedAll ys ((dr.map (·.1)).map fun c => PyData.str ⟨#[c]⟩) := by
  obtain ⟨vs, n, hm, hl, hv⟩ := h
  obtain ⟨ys, hyl, hy⟩ := choice_list (P := fun i y => ∃ (t : Addr) (ot : Obj) (v₁ v₂ : Value) (nt : Nat) (p : Nat × Nat) (tk : Tok), vs.toArray[i]? = some (.ref t) ∧ (t, ot) ∈ news ∧ (ot.cls = .type "tuple" ∨ ot.cls = .type "list") ∧ ot.data = .seq #[v₁, v₂] nt ∧ y = cond true v₁ v₂ ∧ dr[i]? = some p ∧ y = Value.str ⟨#[p.1]⟩ tk) dr.length fun i hi => by
    obtain ⟨r, n', t, t', h1, h2⟩ := hv i dr[i] (List.getElem?_eq_getElem hi)
    exact ⟨_, r, _, _, _, n', dr[i], t, by simpa using h1, h2, .inr rfl, rfl, rfl, List.getElem?_eq_getElem hi, rfl⟩
  refine ⟨vs, n, ys, hm, hl, ⟨by rw [hyl, List.size_toArray, hl], fun i hi => ?_⟩, carried_of (by rw [hyl, List.length_map]) fun i c hc => ?_⟩
  · obtain ⟨y, e, t, ot, v₁, v₂, nt, p, tk, h1, h2, h3, h4, h5, _, _⟩ := hy i (by rw [List.size_toArray, hl] at hi; exact hi)
    exact ⟨t, ot, v₁, v₂, nt, h1, h2, h3, h4, by rw [e, h5]⟩
  · rw [List.getElem?_map] at hc
    cases hd : dr[i]? with
    | none => rw [hd] at hc; cases hc
    | some p =>
      rw [hd] at hc
      obtain rfl : p.1 = c := Option.some.inj hc
      obtain ⟨y, e, t, ot, v₁, v₂, nt, p', tk, h1, h2, h3, h4, h5, h6, h7⟩ := hy i (List.getElem?_eq_some_iff.mp hd).1
      rw [hd] at h6
      obtain rfl := Option.some.inj h6
      exact ⟨tk, by rw [e, h7]⟩
theorem sel_found {led : List (Addr × Obj)} {vs : List Value} {ps : List (Hd × List Nat)} (h : TupsIn led vs ps) : ∃ (ys : List Value), SelIn led false vs.toArray ys ∧ ys.length = (ps.map (·.2)).length ∧ ∀ (i : Nat) (p : List Nat), (ps.map (·.2))[i]? = some p → ∃ t, ys[i]? = some (Value.str (tx p) t) := by
  obtain ⟨hl, hv⟩ := h
  obtain ⟨ys, hyl, hy⟩ := choice_list (P := fun i y => ∃ (t : Addr) (ot : Obj) (v₁ v₂ : Value) (nt : Nat) (p : Hd × List Nat) (tk : Tok), vs.toArray[i]? = some (.ref t) ∧ (t, ot) ∈ led ∧ (ot.cls = .type "tuple" ∨ ot.cls = .type "list") ∧ ot.data = .seq #[v₁, v₂] nt ∧ y = cond false v₁ v₂ ∧ ps[i]? = some p ∧ y = Value.str (tx p.2) tk) ps.length fun i hi => by
    obtain ⟨r, hv', t, h1, h2, _⟩ := hv i ps[i] (List.getElem?_eq_getElem hi)
    exact ⟨_, r, _, _, _, 0, ps[i], t, by simpa using h1, h2, .inl rfl, rfl, rfl, List.getElem?_eq_getElem hi, rfl⟩
  refine ⟨ys, ⟨by rw [hyl, List.size_toArray, hl], fun i hi => ?_⟩, by rw [hyl, List.length_map], fun i c hc => ?_⟩
  · obtain ⟨y, e, t, ot, v₁, v₂, nt, p, tk, h1, h2, h3, h4, h5, _, _⟩ := hy i (by rw [List.size_toArray, hl] at hi; exact hi)
    exact ⟨t, ot, v₁, v₂, nt, h1, h2, h3, h4, by rw [e, h5]⟩
  · rw [List.getElem?_map] at hc
    cases hd : ps[i]? with
    | none => rw [hd] at hc; cases hc
    | some p =>
      rw [hd] at hc
      obtain rfl : p.2 = c := Option.some.inj hc
      obtain ⟨y, e, t, ot, v₁, v₂, nt, p', tk, h1, h2, h3, h4, h5, h6, h7⟩ := hy i (List.getElem?_eq_some_iff.mp hd).1
      rw [hd] at h6
      obtain rfl := Option.some.inj h6
      exact ⟨tk, by rw [e, h7]⟩
theorem selIn_sub {news news' : List (Addr × Obj)} {b : Bool} {its : Array Value} {ys : List Value} (h : SelIn news b its ys) (hs : ∀ p ∈ news, p ∈ news') : SelIn news' b its ys :=
  ⟨h.1, fun i hi => by obtain ⟨t, ot, v₁, v₂, nt, h1, h2, h3⟩ := h.2 i hi; exact ⟨t, ot, v₁, v₂, nt, h1, hs _ h2, h3⟩⟩
theorem drawnIn_sub {news news' : List (Addr × Obj)} {ld : Addr} {dr : List (Nat × Nat)} (h : DrawnIn news ld dr) (hs : ∀ p ∈ news, p ∈ news') : DrawnIn news' ld dr := by
  obtain ⟨vs, n, hm, hl, hv⟩ := h
  exact ⟨vs, n, hs _ hm, hl, fun i p hp => by obtain ⟨r, n', t, t', h1, h2⟩ := hv i p hp; exact ⟨r, n', t, t', h1, hs _ h2⟩⟩
theorem textsIn_sub {news news' : List (Addr × Obj)} {ld : Addr} {ps : List (List Nat)} (h : TextsIn news ld ps) (hs : ∀ p ∈ news, p ∈ news') : TextsIn news' ld ps := by
  obtain ⟨vs, n, hm, r⟩ := h
  exact ⟨vs, n, hs _ hm, r⟩
theorem tups_tail {led : List (Addr × Obj)} {vs : List Value} {p : Hd × List Nat} {ps : List (Hd × List Nat)} (h : TupsIn led vs (p :: ps)) : TupsIn led (vs.drop 1) ps :=
  ⟨by rw [List.length_drop, h.1]; rfl, fun i q hq => by
    obtain ⟨r, hv, t, h1, h2⟩ := h.2 (i + 1) q (by simpa using hq)
    exact ⟨r, hv, t, by rw [List.getElem?_drop, Nat.add_comm]; exact h1, h2⟩⟩
/-- the join of signs -/
theorem join_signs (l : List Nat) : Txt.join (Str.ofString "") (l.map fun c => (⟨#[c]⟩ : Str)) = tx l := by
  show Builtin.Str.glued (Str.ofString "") _ = _
  cases l with
  | nil => rfl
  | cons c l =>
    unfold Builtin.Str.glued
    rw [List.map_cons]
    show (⟨(l.map fun c => (⟨#[c]⟩ : Str)).foldl (fun acc p => acc ++ (Str.ofString "").cps ++ p.cps) #[c]⟩ : Str) = ⟨(c :: l).toArray⟩
    have : ∀ (l : List Nat) (a : Array Nat), (l.map fun c => (⟨#[c]⟩ : Str)).foldl (fun acc p => acc ++ (Str.ofString "").cps ++ p.cps) a = a ++ l.toArray := by
      intro l
      induction l with
      | nil => intro a; simp
      | cons c l ih =>
        intro a
        rw [List.map_cons, List.foldl_cons, ih]
        have e : (Str.ofString "").cps = #[] := rfl
        rw [e]
        simp
    rw [this]
    simp
/-- the pieces of a text -/
noncomputable def pcs (col k : Nat) (h : Hd) (T : List Nat) : List (List Nat) := (splitL col k h T).map (·.2)
theorem headed_snd (h : Hd) : ∀ l : List (List Nat), (headed h l).map (·.2) = l := fun l => by
  induction l generalizing h with
  | nil => rfl
  | cons p l ih => rw [headed, List.map_cons, ih]
theorem chunks_flat (col : Nat) : ∀ (k : Nat) (T : List Nat), (chunksF col k T).flatten = T
  | 0, T => by simp [chunksF]
  | k + 1, T => by
    unfold chunksF
    split
    · simp
    · rw [List.flatten_cons, chunks_flat col k, List.take_append_drop]
theorem chunks_ne {col : Nat} (hc : 1 ≤ col) : ∀ (k : Nat) (T : List Nat), T ≠ [] → ∀ p ∈ chunksF col k T, p ≠ []
  | 0, T, h, p, hp => by rw [chunksF, List.mem_singleton] at hp; rw [hp]; exact h
  | k + 1, T, h, p, hp => by
    unfold chunksF at hp
    split at hp
    · rw [List.mem_singleton] at hp; rw [hp]; exact h
    · rename_i hl
      rcases List.mem_cons.mp hp with rfl | hp
      · intro z
        have := congrArg List.length z
        rw [List.length_take, List.length_nil] at this
        omega
      · refine chunks_ne hc k (T.drop col) (fun z => ?_) p hp
        have := congrArg List.length z
        rw [List.length_drop, List.length_nil] at this
        omega
theorem chunks_len (col : Nat) : ∀ (k : Nat) (T : List Nat), (chunksF col k T).length ≤ k + 1
  | 0, T => by simp [chunksF]
  | k + 1, T => by
    unfold chunksF
    split
    · simp
    · rw [List.length_cons]; have := chunks_len col k (T.drop col); omega
theorem pcs_cases (col k : Nat) (h : Hd) (T : List Nat) : pcs col k h T = [T] ∨ pcs col k h T = chunksF col k T := by
  unfold pcs splitL
  split
  · exact .inl rfl
  · exact .inr (headed_snd _ _)
theorem pcs_law {col k : Nat} {h : Hd} {T : List Nat} (hc : 1 ≤ col) (hT : T ≠ []) : (pcs col k h T).flatten = T ∧ (∀ p ∈ pcs col k h T, p ≠ []) ∧ (pcs col k h T).length ≤ k + 1 := by
  rcases pcs_cases col k h T with e | e
  · rw [e]
    exact ⟨by simp, fun p hp => by rw [List.mem_singleton] at hp; rw [hp]; exact hT, by simp⟩
  · rw [e]
    exact ⟨chunks_flat col k T, chunks_ne hc k T hT, chunks_len col k T⟩
/-- what is drawn -/
theorem sign_ok (j : Nat) : okSign (signOf j) := by
  unfold signOf okSign
  split <;> omega
theorem drawn_ok (xs : List Int) : ∀ p ∈ drawn5 ++ xs.map drawnOf, okSign p.1 ∧ p.2 ≤ 2 := by
  intro p hp
  rcases List.mem_append.mp hp with hp | hp
  · unfold drawn5 at hp
    simp only [List.mem_cons, List.not_mem_nil, or_false] at hp
    unfold okSign
    rcases hp with rfl | rfl | rfl | rfl | rfl <;> decide
  · obtain ⟨x, _, rfl⟩ := List.mem_map.mp hp
    unfold drawnOf
    refine ⟨?_, ?_⟩
    · dsimp only
      split
      · exact sign_ok _
      · unfold okSign
        have := Nat.mod_lt (uOf x / 12) (show 0 < 55294 by decide)
        omega
    · dsimp only
      have := Nat.mod_lt (uOf x / 12) (show 0 < 3 by decide)
      omega
section
variable {w : World} {A : Around} {E : Value → Shared → Prop} {s : Shared} {h₀ : Heap} {L : Addr} {news : List (Addr × Obj)} {Q : Value → Shared → Prop}
noncomputable def hdDat : Hd → PySem.W.Dat
  | .num n => .int n
  | .gt => .str (Str.ofString ">")
noncomputable def pairDat (p : Hd × List Nat) : PySem.W.Dat := .tuple [hdDat p.1, .str (tx p.2)]
theorem dat_of {led : List (Addr × Obj)} : ∀ {ps : List (Hd × List Nat)} {vs : List Value}, TupsIn led vs ps → DatAll led vs (ps.map pairDat)
  | [], vs, h => by
    obtain rfl := List.eq_nil_of_length_eq_zero h.1
    exact .nil
  | p :: ps, vs, h => by
    obtain ⟨r, hv, t, h1, h2, h3⟩ := h.2 0 p rfl
    cases vs with
    | nil => cases h1
    | cons v vs =>
      obtain rfl : v = .ref r := Option.some.inj h1
      refine .cons (.tuple (vs := [hv, .str (tx p.2) t]) h2 (.cons ?_ (.cons (.str _ _) .nil))) (dat_of (tups_tail h))
      obtain ⟨hd, q⟩ := p
      cases hd with
      | num n => obtain ⟨t', rfl⟩ := h3; exact .int _ _
      | gt => obtain ⟨t', rfl⟩ := h3; exact .str _ _
theorem ne_found {a b : Addr} {l1 l2 : List (Addr × Obj)} {ps : List (Hd × List Nat)} (N : News h₀ L s.heap news) (f1 : FoundIn l1 a ps) (s1 : ∀ p ∈ l1, p ∈ news) (f2 : FoundIn l2 b ps) (s2 : ∀ p ∈ l2, p ∈ news)
    (hok : ∀ p ∈ ps, PyData.strOk (tx p.2) = true) (hu : A.units + 64 < cLine) (h : Q (.bool false) s) : wpAny (model PW w) A (compareOp .NotEq (.ref a) (.ref b)) Q E s := by
  obtain ⟨vs, n, hm, ht⟩ := f1
  obtain ⟨vs', n', hm', ht'⟩ := f2
  have hk : ∀ d ∈ ps.map pairDat, kqdOk 8 d = true := fun d hd => by
    obtain ⟨p, hp, rfl⟩ := List.mem_map.mp hd
    obtain ⟨z, q⟩ := p
    have hq := hok _ hp
    have hg : PyData.strOk (Str.ofString ">") = true := by decide +kernel
    cases z with
    | num n => simp [pairDat, hdDat, kqdOk, hq]
    | gt => simp [pairDat, hdDat, kqdOk, hq, hg]
  refine kqd_ne N (s1 _ hm) rfl rfl (dat_of ht) s1 (s2 _ hm') rfl rfl (dat_of ht') s2 hk hk hu ?_
  simpa using h
end
section
variable {w : World} {A : Around} {E : Value → Shared → Prop} {s : Shared} {h₀ : Heap} {L l : Addr} {m : Str → Option Value} {news : List (Addr × Obj)} {value slice : Expr} {vs : List Value} {n : Nat} {ui : Tok} {Q : Value → Shared → Prop}
theorem pick_one (vs : List Value) (h1 : 1 ≤ vs.length) : slicePick vs.toArray (some 1) none none = (vs.drop 1).toArray := by
  have e : sliceBounds (some 1) none none vs.toArray.size = (((1 : Nat) : Int), ((vs.length : Nat) : Int), 1) := by
    rw [List.size_toArray]
    unfold sliceBounds
    simp
    omega
  rw [kmk_pick_nat _ e]
  congr 1
  rw [List.take_of_length_le]
  rw [List.length_drop]
  simp
theorem slice_one (F : Fr h₀ L s.heap m) (N : News h₀ L s.heap news) (hm : (l, W.listOf vs.toArray n) ∈ news) (h1 : 1 ≤ vs.length) (hz : vs.length ≤ 1000)
    (h : ∀ D h', Fr h₀ L h' m → News h₀ L h' ((D, W.listOf (vs.drop 1).toArray 0) :: news) → Q (.ref D) { s with heap := h' })
    (hs : subscripted slice false (.ref l) (.ref s.heap.objs.size) = operate [.ref s.heap.objs.size, .ref l] (getItem (.ref l) (.ref s.heap.objs.size)) := by with_unfolding_all rfl) (ht : ∀ r, letTemporaryGo value (.ref l) r = pure () := by intro _; with_unfolding_all rfl) :
    wpAny (model PW w) A (subscriptTail value slice (.ref l) (.ref s.heap.objs.size)) Q E { s with heap := s.heap.push { cls := .type "slice", data := .fields #[.int 1 ui, .none, .none] } } := by
  have hsl := sizeLine_eq
  refine kmk_slice F N (led_list N hm) (.int 1 ui) .none (fun D h' F' N' _ => h D h' F' ?_) hs ht (by rw [List.size_toArray]; omega)
  rw [pick_one vs h1] at N'
  exact N'
end
end
-- Wk27
section
open PySem PySem.W PyProof.Rows Builtin.Str
theorem isl_keeps {h h' : Heap} {a : Addr} {its : Array Value} (x : h.IsList a its) (k : ∀ b o, h.get? b = some o → h'.get? b = some o) : h'.IsList a its := let ⟨o, e, r⟩ := x; ⟨o, k _ _ e, r⟩
theorem join_at {w : World} {A : Around} {E : Value → Shared → Prop} {s : Shared} {h₀ : Heap} {L D : Addr} {news : List (Addr × Obj)} {ys : List Value} {l : List Nat} {t : Tok} {Q : Value → Shared → Prop} (N : News h₀ L s.heap news) (hm : (D, LCg.lst ys) ∈ news) (hc : CarriedAll ys (l.map fun c => PyData.str ⟨#[c]⟩)) (hn : l.length ≤ 1000)
    (h : ∀ t' k, Q (.str (tx l) t') { s with toks := k }) : wpAny (model PW w) A (call (.builtin "str.join") [.str (Str.ofString "") t, .ref D]) Q E s :=
  KT.join_1 (g := fun c => (⟨#[c]⟩ : Str)) (l := l) ⟨_, (N _ hm).1, rfl, _, rfl⟩ hc (fun _ _ => rfl) (by omega) fun t' k _ => by rw [join_signs]; exact h t' k
theorem sum_base {w : World} {A : Around} {E : Value → Shared → Prop} {s : Shared} {h₀ : Heap} {L l : Addr} {m : Str → Option Value} {news : List (Addr × Obj)} {vs : List Value} {ns : List Int} {Q : Value → Shared → Prop} (hh : A.handled = none) (F : Fr h₀ L s.heap m) (N : News h₀ L s.heap news) (hl : h₀.IsList l vs.toArray) (hi : IntsAre vs ns)
    (h : ∀ h' tk t', Fr h₀ L h' m → News h₀ L h' news → Q (.int ns.sum t') { s with heap := h', toks := tk }) : wpAny (model PW w) A (call (.builtin "sum") [.ref l]) Q E s := sumK hh F N (isl_keeps hl F.keep) hi h
theorem len_base {w : World} {A : Around} {E : Value → Shared → Prop} {s : Shared} {h₀ : Heap} {L l : Addr} {m : Str → Option Value} {vs : List Value} {Q : Value → Shared → Prop} (F : Fr h₀ L s.heap m) (hl : h₀.IsList l vs.toArray) (hf : vs.length < 1000000) (h : ∀ t k, Q (.int (vs.length : Int) t) { s with toks := k }) : wpAny (model PW w) A (call (.builtin "len") [.ref l]) Q E s :=
  len_list (isl_keeps hl F.keep) (by rw [List.size_toArray]; omega) (by rw [List.size_toArray]; exact h _ _)
theorem item_two {w : World} {A : Around} {E : Value → Shared → Prop} {s : Shared} {h₀ : Heap} {L l : Addr} {news : List (Addr × Obj)} {value slice : Expr} {k : Int} {j n : Nat} {u t0 t1 : Tok} {a b y : Str} {Q : Value → Shared → Prop} (N : News h₀ L s.heap news) (hm : (l, W.listOf [Value.str a t0, Value.str b t1].toArray n) ∈ news) (hk : k = (j : Int)) (hj : j < 2) (hy : (if j = 0 then a else b) = y) (h : ∀ t, Q (.str y t) s)
    (hs : subscripted slice false (.ref l) (.int k u) = operate [.ref l, .int k u] (getItem (.ref l) (.int k u)) := by with_unfolding_all rfl) (hg : ∀ r, letTemporaryGo value (.ref l) r = pure () := by intro _; with_unfolding_all rfl) :
    wpAny (model PW w) A (subscriptTail value slice (.ref l) (.int k u)) Q E s := by
  subst hy
  match j, hj with
  | 0, _ => exact item_led N hm hk (by decide) rfl (h t0) hs hg
  | 1, _ => exact item_led N hm hk (by decide) rfl (h t1) hs hg
theorem call_specT {w : World} {d u : Nat} {f : Addr} {vs : List Value} {P : Heap → List (Addr × Obj) → Prop} {R : Value → Prop} (S : Tag KK RW (SpecT w d u f vs P R)) {A : Around} {outer : List Env} {cn : Str} {cs : Scope} {ca : Addr} {ccd : Value} {A₀ : Around} {base h₀ : Heap} {L : Addr} {m : Str → Option Value} {news : List (Addr × Obj)} {s : Shared} {mean : ExcName → Option Value} {mg mb : Str → Option Value} {Q E : Value → Shared → Prop}
    (B : Below A₀ base outer h₀) (F : Fr h₀ L s.heap m) (X : Facts w h₀) (N : News h₀ L s.heap news) (T : TopQ w mean mg mb h₀) (hA : A.frames = some (envOf cn cs L ca ccd :: outer)) (hk : cs.kind = .function)
    (XB : Facts w base) (TB : TopQ w mean mg mb base) (D : KtsDicts (outer.filterMap (·.frame)) h₀) (hh : A.handled = none) (hd : A.depth + d < recursionLimit) (hu : A.units + u < cLine) (hP : P h₀ news)
    (h : ∀ v h₀' h' tk', KtsTurn (outer.filterMap (·.frame)) h₀ h₀' → Fr h₀' L h' m → (∃ ps, h'.get? 254 = some (tabObj ps)) → R v → Q v { s with heap := h', toks := tk' }) :
    wpAny (model PW w) A (call (.ref f) vs) Q E s :=
  S A outer cn cs ca ccd A₀ base h₀ L m news s mean mg mb Q E ⟨B, F, X, N, T, hA, rfl, hk⟩ XB TB D hh hd hu hP h
local macro_rules | `(tactic| walk_at "eval ListComp") => `(tactic| (k_here; k_dflt (refine sel_eval (b := true) (_F₀ := by k_asm) (by with_unfolding_all rfl) (by decide) (by rfl) (by decide) (by rfl) (by rfl) (by decide) (by rfl) ?_)))
local macro_rules | `(tactic| walk_at "call builtin:str.join") => `(tactic| (k_dflt refine join_at (by k_asm) (by walk_at "mine mem") (by with_reducible assumption) (by omega) ?_; intros))
local macro_rules | `(tactic| walk_at "call builtin:sum") => `(tactic| (k_dflt refine sum_base (by with_unfolding_all assumption) (by k_asm) (by k_asm) (by with_reducible assumption) (by with_reducible assumption) ?_; intros))
end
local macro_rules | `(tactic| walk_at "call builtin:len") => `(tactic| (k_here; (with_reducible show wpAny _ _ (call (Value.builtin "len") [Value.ref _]) _ _ _); k_dflt (refine' len_base ?F ?hl ?hf ?_; (case hl => with_reducible assumption); (case F => k_asm); (case hf => omega); k_whole); intro _ _))
section
open PySem PySem.W PyProof.Rows Builtin.Str
local macro_rules | `(tactic| walk_at "eval ListComp") => `(tactic| (k_here; k_dflt (refine sel_eval (b := true) (_F₀ := by k_asm) (by with_unfolding_all rfl) (by decide) (by rfl) (by decide) (by rfl) (by rfl) (by decide) (by rfl) ?_)))
local macro_rules | `(tactic| walk_at "call builtin:str.join") => `(tactic| (k_dflt refine join_at (by k_asm) (by walk_at "mine mem") (by with_reducible assumption) (by omega) ?_; intros))
local macro_rules | `(tactic| walk_at "call builtin:sum") => `(tactic| (k_dflt refine sum_base (by with_unfolding_all assumption) (by k_asm) (by k_asm) (by with_reducible assumption) (by with_reducible assumption) ?_; intros))
local macro_rules | `(tactic| walk_at "subscriptTail") => `(tactic| ((fail_if_success fail_if_success with_reducible refine gRI ?_); k_dflt refine item_two (by k_asm) (.head _) (by with_reducible assumption) (by omega) (by with_reducible assumption) ?_; intros))
local macro_rules | `(tactic| walk_at "exec Assign cons ListComp") => `(tactic| (k_here; k_dflt (refine sel_assign (b := false) (_F₀ := by k_asm) (by rfl) (by with_unfolding_all rfl) (by with_unfolding_all rfl) (by decide) (by rfl) (by decide) (by rfl) (by rfl) (by decide) (by rfl) (by rfl) (by rfl) ?_)))
set_option maxRecDepth 100000 in
set_option maxHeartbeats 8000000 in
theorem all_spec (w : World) (sc ld : Addr) (vs : List Value) (ns : List Int) (dr : List (Nat × Nat)) (T0 : List Nat) (num col : Nat) (t1 t2 : Tok) (hi : IntsAre vs ns) (hlen : ns.length ≤ 63) (hdr : 5 ≤ dr.length) (hdr2 : dr.length ≤ 17) (hok : ∀ p ∈ dr, okSign p.1 ∧ p.2 ≤ 2) (hT : dr.map (·.1) = T0) (hc1 : 1 ≤ col) (hc5 : col ≤ 5) :
    Tag KK RW (SpecT w 60 300 325 [.ref sc, .ref ld, .int num t1, .int col t2] (fun h news => h.IsList sc vs.toArray ∧ DrawnIn news ld dr ∧ TabN news) (fun v => v = .bool true)) := by
  k_fill
  unfold Tag SpecT
  intro A outer cn cs ca ccd A₀ base h₀ L m news s mean mg mb Q E hAt XB TB DD hh hd hu hP hret
  obtain ⟨B, F, X, N, T, hA, hf, hkk⟩ := hAt
  have KX := X.K
  have hsl := sizeLine_eq
  obtain ⟨hP1, hP2, hP3⟩ := hP
  obtain ⟨dvs, dn, dys, hd1, hd2, hd3, hd4⟩ := sel_drawn hP2
  have hTl : T0.length = dr.length := by rw [← hT, List.length_map]
  rw [hT] at hd4
  have hTok : ∀ c ∈ T0, okSign c := fun c hc => by
    rw [← hT] at hc
    obtain ⟨p, hp, rfl⟩ := List.mem_map.mp hc
    exact (hok p hp).1
  have hT01 : ∀ c ∈ T0, c ≠ 0 ∧ c ≠ 1 := fun c hc => by have := hTok c hc; unfold okSign at this; omega
  have hTx : (tx T0).length ≤ 17 := by rw [tx_length]; omega
  have hvl : vs.length = ns.length := by
    clear hP1 hlen
    induction hi with
    | nil => rfl
    | cons _ _ _ ih => rw [List.length_cons, List.length_cons, ih]
  obtain ⟨ob, hob1, hob2⟩ : ∃ ob : Bool, (vs.length : Int).fmod 2 = ((ob.toNat : Nat) : Int) ∧ (if ob.toNat = 0 then Str.ofString "" else Str.ofString "\n") = tx (if ob then [10] else []) := by
    refine ⟨decide (vs.length % 2 = 1), ?_, ?_⟩
    · rw [Int.fmod_eq_emod_of_nonneg _ (by decide)]
      rcases (by omega : vs.length % 2 = 0 ∨ vs.length % 2 = 1) with h | h
      · rw [h]; simp; omega
      · rw [h]; simp; omega
    · cases decide (vs.length % 2 = 1) <;> rfl
  have hobl : ob.toNat < 2 := by cases ob <;> decide
  have hopl : (tx (if ob then [10] else [])).length ≤ 1 := by rw [tx_length]; split <;> simp
  generalize hmk : vs.length % 3 = mk
  have hmk2 : mk ≤ 2 := by omega
  have hmk3 : (vs.length : Int).fmod 3 = (mk : Int) := by rw [Int.fmod_eq_emod_of_nonneg _ (by decide)]; omega
  obtain ⟨sd, hsd1, hsd2⟩ : ∃ sd : Nat, ns.sum.fmod 16 = (sd : Int) ∧ sd < 16 := by
    rw [Int.fmod_eq_emod_of_nonneg _ (by decide)]
    exact ⟨(ns.sum % 16).toNat, by omega, by omega⟩
  refine wpAny_call ?_
  k_dflt (refine' code_defS (binds := [(Str.ofString "script", Value.ref sc), (Str.ofString "drawn", Value.ref ld), (Str.ofString "number", Value.int num t1), (Str.ofString "column", Value.int col t2)]) ?k1 ?k2 ?k3 ?k4 ?k5 ?XB ?TB ?D ?T0 ?kA ?k6 ?k7 ?k8 ?k9 ?kB ?_ ?cK ?c2 ?c3 ?c4 ?c5; (case kA => assumption); (case k2 => k_asm); (case k1 => k_asm); (case XB => exact Facts.K (by assumption)); (case TB => assumption); (case D => assumption); (case T0 => exact KtsTurn.refl); (case k3 => k_asm); (case k4 => k_asm); (case k5 => k_asm); (case k6 => k_is); (case k7 => k_is); (case k8 => ktr_room); (case k9 => exact BindsTo.of_eq rfl); (case kB => exact locs rfl); (case cK => assumption); (case c2 => exact rfl); (case c3 => exact rfl); (case c4 => exact rfl); (case c5 => decide); k_whole; intro g' L' h' FG' F' N' B' X' T' D'; (try dsimp only); (try k_fold))
  have XX := X.keeps (by assumption : Fr h₀ L _ m).keep
  have hlist := isl_keeps hP1 (by assumption : Fr h₀ L _ m).keep
  generalize (s.toks + List.length _) = tk0
  walk_at "mine steps"
  refine ⟨_, _, _, dys, _, rfl, by with_unfolding_all assumption, by assumption, by assumption, hd1, by rw [List.size_toArray]; omega, hd3, ?_⟩
  rintro s₂ ⟨h2, rfl⟩
  intro D h3 tk3 F3 N3
  walk_at "mine steps"
  k_dflt (refine' call_specG (found_spec w T0 num col T0.length _ _ _ hc1 hc5 (Nat.le_refl _) (by omega) hT01) ?B ?F ?X ?N ?T ?hA ?hf ?hk ?hh ?hd trivial ?_; (((case B => k_asm); (case F => k_asm); (case X => assumption); (case N => k_asm); (case T => k_asm); (case hA => first | exact Around.frames_deeper (by assumption) | exact Around.frames_deeper (Around.frames_deeper (by assumption))); (case hf => exact rfl); (case hk => exact rfl); (case hh => with_unfolding_all assumption); (case hd => first | exact dp1 (by assumption) rfl | exact dp0 (by assumption) rfl | (simp only [depth_under_make, depth_under_kw, depth_in1, depth_deeper, depth_caller] at *; omega)))); k_whole)
  rintro v1 news1 h1 tk1 ⟨l1, tl1, rfl, rfl, hf1⟩ F1 N1
  walk_at "mine steps"
  k_dflt (refine' call_specG (due_spec w T0 num col T0.length _ _ _ hc1 hc5 (Nat.le_refl _) (by omega)) ?B2 ?F2 ?X2 ?N2 ?T2 ?hA2 ?hf2 ?hk2 ?hh2 ?hd2 trivial ?_; (case B2 => k_asm); (case F2 => k_asm); (case X2 => assumption); (case N2 => k_asm); (case T2 => k_asm); (case hA2 => first | exact Around.frames_deeper (by assumption) | exact Around.frames_deeper (Around.frames_deeper (by assumption))); (case hf2 => exact rfl); (case hk2 => exact rfl); (case hh2 => with_unfolding_all assumption); (case hd2 => first | exact dp1 (by assumption) rfl | exact dp0 (by assumption) rfl | exact dp1 (d := 6) (dp1 (by assumption) rfl) rfl | (simp only [depth_deeper] at *; omega)); k_whole)
  rintro v2 news2 h2' tk2 ⟨l2, tl2, rfl, rfl, hf2⟩ F2 N2
  walk_at "mine steps"
  have hTne : T0 ≠ [] := fun z => by rw [z] at hTl; simp at hTl; omega
  obtain ⟨hpf, hpn, hpl⟩ := pcs_law (col := col) (k := T0.length) (h := .num num) hc1 hTne
  have hpok : ∀ p ∈ pcs col T0.length (.num num) T0, ∀ c ∈ p, okSign c := fun p hp c hc => hTok c (by rw [← hpf]; exact List.mem_flatten.mpr ⟨p, hp, hc⟩)
  have hstr : ∀ p ∈ ((.num 3, [122]) :: splitL col T0.length (.num num) T0 : List (Hd × List Nat)), PyData.strOk (tx p.2) = true := fun p hp => by
    refine Array.all_eq_true_iff_forall_mem.mpr fun c hc => decide_eq_true ?_
    have hc : c ∈ p.2 := by simpa [tx] using hc
    rcases List.mem_cons.mp hp with rfl | hp
    · have := List.mem_singleton.mp hc; omega
    · have := hpok p.2 (List.mem_map.mpr ⟨p, hp, rfl⟩) c hc
      unfold okSign at this; omega
  k_dflt (refine' ne_found ?nN hf1 ?ns1 hf2 ?ns2 hstr ?nu ?_; (case nN => k_asm); (case ns1 => exact fun p hp => List.mem_append_right _ (List.mem_append_left _ hp)); (case ns2 => exact fun p hp => List.mem_append_left _ hp); (case nu => (simp only [units_deeper]; omega)); k_whole)
  walk_at "mine steps"
  obtain ⟨vF, nF, hmF, htF⟩ := hf1
  obtain ⟨ysF, hs1, hs2, hs3⟩ := sel_found (tups_tail htF)
  have hvF : vF.length = (splitL col T0.length (.num num) T0).length + 1 := by rw [htF.1]; rfl
  have hpl2 : (splitL col T0.length (.num num) T0).length ≤ 18 := by
    have : (pcs col T0.length (.num num) T0).length = (splitL col T0.length (.num num) T0).length := List.length_map _
    omega
  k_dflt (refine' slice_one (vs := vF) (n := nF) ?lF ?lN ?lm ?l1 ?lz ?_ ?ls ?lt; (case lF => k_asm); (case lN => k_asm); (case lm => exact List.mem_append_right _ (List.mem_append_left _ hmF)); (case l1 => omega); (case lz => omega); (case ls => with_unfolding_all rfl); (case lt => (intro _; with_unfolding_all rfl)); k_whole)
  intro D4 h4 F4 N4
  refine ⟨_, _, _, ysF, _, rfl, by with_unfolding_all assumption, F4, N4, .head _, by rw [List.size_toArray, List.length_drop]; omega, selIn_sub hs1 (fun p hp => .tail _ (List.mem_append_right _ (List.mem_append_left _ hp))), ?_⟩
  rintro s₂ ⟨h5, rfl⟩
  intro D6 h6 tk6 F6 N6
  walk_at "mine steps"
  have hmul : Txt.mul (Str.ofString "\"") ((vs.length : Int).fmod 3) = tx (List.replicate mk 34) := by
    rw [hmk3]
    rcases (by omega : mk = 0 ∨ mk = 1 ∨ mk = 2) with rfl | rfl | rfl <;> rfl
  refine call_args (congrArg (fun z => [_, _, _, Value.int z _, _, _]) hsd1) ?_
  refine call_args (congrArg (fun z => [_, _, _, _, _, Value.str z _]) hmul) ?_
  have hat : atOf (pcs col T0.length (.num num) T0) (pcs col T0.length (.num num) T0).length ≤ 100 := by rw [atOf_flat, hpf]; omega
  have hmn : ∀ p ∈ dr, p.2 ≤ 2 := fun p hp => (hok p hp).2
  k_dflt (refine' call_specU (whole_spec w D6 ld T0 (pcs col T0.length (.num num) T0) dr sd ob mk _ _ _ _ (by omega) hat hsd2 (by omega) (by omega) hmn hpok hpn hpf hmk2) ?wB ?wF ?wX ?wN ?wT ?wA ?wf ?wk ?wh ?wd ?wu ?wP ?_; (case wB => k_asm); (case wF => k_asm); (case wX => assumption); (case wN => k_asm); (case wT => k_asm); (case wA => first | exact Around.frames_deeper (by assumption) | exact Around.frames_deeper (Around.frames_deeper (by assumption))); (case wf => exact rfl); (case wk => exact rfl); (case wh => with_unfolding_all assumption); (case wd => first | exact dp1 (by assumption) rfl | exact dp0 (by assumption) rfl | exact dp1 (d := 6) (dp1 (by assumption) rfl) rfl | (simp only [depth_deeper] at *; omega)); (case wu => (simp only [units_deeper]; omega)); (case wP => exact ⟨⟨ysF, ysF.length, .head _, hs2, hs3⟩, drawnIn_sub hP2 (fun p hp => by walk_at "mine mem")⟩); k_whole)
  rintro v7 n7 h7 tk7 ⟨rfl, tl7, rfl⟩ F7 N7
  replace N7 : News _ _ _ ((D6, LCg.lst ysF) :: news) := news_sub N7 (fun p hp => List.mem_append_right _ (by
    rcases List.mem_cons.mp hp with rfl | hp
    · exact .head _
    · walk_at "mine mem"))
  walk_at "mine steps"
  refine call_args (congrArg (fun z => [_, _, Value.int z _, _]) hsd1) ?_
  k_dflt (refine' call_specT (broken_spec w D6 ld (pcs col T0.length (.num num) T0) dr sd ob _ _ (by omega) hat hsd2 (by omega) (by omega) hmn hpok hpn) ?vB ?vF ?vX ?vN ?vT ?vA ?vk XB TB ?vD ?vh ?vd ?vu ?vP ?_; (case vB => k_asm); (case vF => k_asm); (case vX => assumption); (case vN => k_asm); (case vT => k_asm); (case vA => first | exact Around.frames_deeper (by assumption) | exact Around.frames_deeper (Around.frames_deeper (by assumption))); (case vk => exact rfl); (case vD => assumption); (case vh => with_unfolding_all assumption); (case vd => first | exact dp1 (by assumption) rfl | exact dp0 (by assumption) rfl | exact dp1 (d := 6) (dp1 (by assumption) rfl) rfl | (simp only [depth_deeper] at *; omega)); (case vu => (simp only [units_deeper]; omega)); (case vP => exact ⟨⟨⟨ysF, ysF.length, .head _, hs2, hs3⟩, drawnIn_sub hP2 (fun p hp => .tail _ hp)⟩, .tail _ hP3.1, let ⟨q, h1, h2⟩ := hP3.2; ⟨q, .tail _ h1, h2⟩⟩); k_whole)
  rintro v8 g8 h8 tk8 T8 F8 ⟨ps8, hps8⟩ rfl
  have N8 : News g8 _ h8 [(254, tabObj ps8)] := fun p hp => by
    obtain rfl := List.mem_singleton.mp hp
    obtain ⟨_, z2, z3⟩ := N7 _ (.tail _ hP3.1)
    exact ⟨hps8, z2, T8.none_ _ z3⟩
  walk_at "mine steps"
  rename News _ L _ _ => NZ
  exact hret _ _ _ _ (by assumption) (by assumption) ⟨ps8, (NZ (254, tabObj ps8) (.head _)).1⟩ rfl
end
-- WkY
section
open PySem PySem.W PyProof.Rows PySem.Spec PySem.Calls
set_option maxRecDepth 100000
noncomputable abbrev tabs1 : List (Addr × Addr) := [(258, 254)]
theorem tabs_at {w : World} {h : Heap} (Y : Facts w h) (hT : h.get? 254 = some (tabObj #[])) : TabsAt tabs1 h := fun q hq => by
  obtain rfl := List.mem_singleton.mp hq
  exact ⟨codeHd_mine Y.K, hT⟩
theorem ghost_frs {w : World} {h : Heap} {a : Addr} {l : List Str} (hT : TabsAt tabs1 h) (F : FrS w h a l) : FrS w (ghostOf h tabs1) a l := by
  obtain ⟨es, ep, t, ho, r⟩ := F
  exact ⟨es, ep, t, ghost_get hT ho (fun q => by cases congrArg Obj.cls q), r⟩
theorem ghost_facts {w : World} {h : Heap} (hT : TabsAt tabs1 h) (Y : Facts w h) : Facts w (ghostOf h tabs1) :=
  ⟨ghost_K hT Y.K (noTabs_mine _), ghost_frs hT Y.s2, ghost_frs hT Y.s4, ghost_frs hT Y.s6, ghost_frs hT Y.s7, ghost_frs hT Y.s9, ghost_frs hT Y.s10⟩
theorem own_qv : ownsOf qv = [] := by kernel_rfl
theorem recs_qv : (recsOf qv).map (·.name) = [Str.ofString "law"] := by kernel_rfl
/-- the law's own table is another one -/
theorem law_tab {P : Params} {h : Heap} {mg : Str → Option Value} {a c Q : Addr} {o : Obj} {fd : FuncData} {ps : Array Value} (X : (KK P).In h) (G : h.Ns mainGlobals mg) (hm : mg (Str.ofString "law") = some (.ref a)) (ho : h.get? a = some o) (hd : o.data = .func fd) (hc : fd.code = .ref c) (ht : h.TableAt c Q ps) : Q ≠ 254 := by
  have e1 := mg_of X G (show nsIn (KK P) mainGlobals (Str.ofString "law") = some (some (.ref 332)) from by kernel_rfl)
  rw [hm] at e1
  obtain rfl : a = 332 := Value.ref.inj (Option.some.inj e1)
  have e3 : h.get? 332 = some (F.o_408 P) := X 332 _ (by kernel_rfl)
  unfold F.o_408 at e3
  rw [ho] at e3
  obtain rfl := Option.some.inj e3
  cases hd
  obtain rfl : 331 = c := Value.ref.inj hc
  obtain ⟨⟨o', vs', a1, q1, q2, q3⟩, _⟩ := ht
  have e4 : h.get? 331 = some (F.o_407 P) := X 331 _ (by kernel_rfl)
  unfold F.o_407 at e4
  rw [a1] at e4
  obtain rfl := Option.some.inj e4
  cases q2
  intro z
  subst z
  exact absurd q3 (by simp)
theorem ghost_seer {h : Heap} (hT : TabsAt tabs1 h) (x : h.NoSeer) : (ghostOf h tabs1).NoSeer := by
  have gns : ∀ {a m}, h.Ns a m → (ghostOf h tabs1).Ns a m := fun {a m} z => by
    obtain ⟨o, es, ep, e, hd, r⟩ := z
    exact ⟨o, es, ep, ghost_get hT e (fun q => by rw [q] at hd; cases hd), hd, r⟩
  exact ⟨let ⟨mc, a, b⟩ := x.statics; ⟨mc, gns a, b⟩, let ⟨mc, a, b⟩ := x.mods; ⟨mc, gns a, b⟩, let ⟨mc, a, b⟩ := x.imp; ⟨mc, gns a, b⟩,
    let ⟨mg, bm, ob, a, b, c, d, e⟩ := x.main; ⟨mg, bm, ob, gns a, b, ghost_get hT c (fun q => by rw [q] at d; cases d), d, e⟩⟩
theorem ghost_topq {w : World} {h : Heap} {mean : ExcName → Option Value} {mg mb : Str → Option Value} (hT : TabsAt tabs1 h) (X : (KK w.params).In h) (T : Top qv (looseW qv looseL) mean mg mb h) : Top qv (looseW qv looseL) mean mg mb (ghostOf h tabs1) where
  g := ghost_ns hT T.g
  b := ghost_ns hT T.b
  nolimit := let ⟨mc, a, r⟩ := T.nolimit; ⟨mc, ghost_ns hT a, r⟩
  nodigits := let ⟨mc, a, r⟩ := T.nodigits; ⟨mc, ghost_ns hT a, r⟩
  fn := fun d hd => by
    obtain ⟨a, o, pm, code, doc, e1, e2, e3, c, oc, vs, t, e4, e5, e6, e7⟩ := T.fn d hd
    exact ⟨a, o, pm, code, doc, e1, ghost_get hT e2 (fun q => by rw [q] at e3; cases e3), e3, c, oc, vs, t, e4, ghost_get hT e5 (fun q => by
      rw [q] at e6
      have e6' : #[] = vs := by cases e6; rfl
      rw [← e6'] at e7; cases e7), e6, e7⟩
  own := fun o ho => by rw [own_qv] at ho; cases ho
  const := T.const
  free := T.free
  builtins := T.builtins
  tab := fun d hd => by
    obtain ⟨a, o, fd, c, P, e1, e2, e3, e4, e5, e6⟩ := T.tab d hd
    have hn : d.name = Str.ofString "law" := by
      have := List.mem_map_of_mem (f := (·.name)) hd
      rw [recs_qv] at this
      exact List.mem_singleton.mp this
    have hP := law_tab X T.g (hn ▸ e1) e2 e3 e4 e6
    obtain ⟨oc, vs, file, tf, flags, tg, inF, text, tt, op, a0, r1, r2, r3, r4, r5, r6, b, r⟩ := e5
    obtain ⟨⟨oc', vs', a1, q1, q2, q3⟩, q4⟩ := e6
    have hPm : P ∉ tabs1.map (·.2) := fun z => hP (List.mem_singleton.mp z)
    have hcc : oc' ≠ tabObj #[] := fun z => by rw [z] at q1; cases q1
    have ac := ghost_get hT a1 hcc
    refine ⟨a, o, fd, c, P, e1, ghost_get hT e2 (fun q => by rw [q] at e3; cases e3), e3, e4, ⟨oc, vs, file, tf, flags, tg, inF, text, tt, op, ?_, r1, r2, r3, r4, r5, r6, ghost_ne b hPm, r⟩, ⟨⟨oc', vs', ac, q1, q2, q3⟩, ghost_ne q4 hPm⟩⟩
    rw [ac, ← a0, a1]
  bmain := let ⟨bm, ob, a1, a2, a3, a4, r⟩ := T.bmain; ⟨bm, ob, a1, a2, ghost_get hT a3 (fun q => by rw [q] at a4; cases a4), a4, r⟩
  seer := fun e => ghost_seer hT (T.seer e)
end
-- WkZ
section
open PySem PySem.W PyProof.Rows PySem.Spec PySem.Calls
set_option maxRecDepth 100000
noncomputable def TopEnd (s₁ : Shared) (v : Value) (s' : Shared) : Prop :=
  v = .bool true ∧ (∀ b o, (ghostOf s₁.heap tabs1).get? b = some o → s'.heap.get? b = some o) ∧ (∃ ps, s'.heap.get? 254 = some (tabObj ps)) ∧ s'.os = s₁.os ∧ s'.gens = #[]
theorem good_of_end {cl : Str → Option Addr} {mean : ExcName → Option Value} {args : List WData} {s₁ s' : Shared} {v : Value} (hT : TabsAt tabs1 s₁.heap) (hpost : RR.claim.post args (.bool true) args = true) (e : TopEnd s₁ v s') : GoodT RR.claim cl mean args s₁ (.ok (.ret v)) s' := by
  obtain ⟨rfl, hk, ⟨ps, hP⟩, hos, hg⟩ := e
  have keep : ∀ b o, b ≠ 254 → s₁.heap.get? b = some o → s'.heap.get? b = some o := fun b o hb e => hk b o (ghost_ne e fun q => hb (List.mem_singleton.mp q))
  have h254 : s₁.heap.get? 254 = some (tabObj #[]) := (hT _ (.head _)).2
  refine ⟨.inl ⟨.bool true, .bool true, [], rfl, fun _ => ?c1, ReadsW.bool true, ?c2, fun _ => ⟨.nil, fun a ha => nomatch ha⟩⟩, ⟨fun b o e => ?_, fun b o e => ?_⟩, hos, hg⟩
  case c1 => rfl
  case c2 => exact hpost
  · by_cases hb : b = 254
    · subst hb
      rw [h254] at e
      obtain rfl := Option.some.inj e
      exact .inr (.inl ⟨((hT _ (.head _)).1.tab h254).isCodeTable, rfl, #[], ps, rfl, by rw [Array.empty_append]; exact hP⟩)
    · exact .inl (keep b o hb e)
  · by_cases hb : b = 254
    · subst hb
      exact ⟨_, hP⟩
    · exact ⟨o, keep b o hb e⟩
/-- the script that the call is handed -/
theorem args_are {w : World} {cl : Str → Option Addr} {h : Heap} {args : List WData} {vals : List Value} {as : List Addr} (hpre : RR.claim.pre args = true) (hlay : WData.layableAll args = true) (hrd : ReadsAllW RR.records cl h vals args as) (hwl : WellAll w.params h vals args) (hlo : ∀ a ∈ as, (a == sysModules) = false) :
    ∃ sc vs ns, vals = [.ref sc] ∧ h.IsList sc (List.toArray vs) ∧ IntsAre vs ns ∧ ns.length ≤ 63 ∧ RR.claim.post args (.bool true) args = true := by
  wrow_args hpre hlay hrd hwl hlo
  refine ⟨_, _, _, rfl, by assumption, by assumption, by omega, ?_⟩
  wrow_post
end
-- WkW
section
open PySem PySem.W PyProof.Rows PySem.Spec PySem.Calls
theorem code_top {w : World} {A : Around} {s : Shared} {mean : ExcName → Option Value} {mg mb : Str → Option Value} {R : Result → Shared → Prop} {name qual : Str} {params : Arguments} {body : List Stmt} {scope : Scope} {dV kV doc pm cdv ct oc : Value} {an od : Option Addr} {osl : Array (Option Value)} {f : Addr} {args : Args} {binds : List (Str × Value)}
    (hAf : A.frames = some []) (hroom : A.depth < recursionLimit) (hT : TabsAt tabs1 s.heap) (Y : Facts w s.heap) (T : TopQ w mean mg mb s.heap)
    (ho : (KK w.params).lookup f = some ⟨oc, od, .func (fnOf name qual params body scope dV kV doc pm an cdv ct), osl⟩) (hcd : codeIn (KK w.params) cdv qual = true)
    (hbind : BindsTo s (fnOf name qual params body scope dV kV doc pm an cdv ct) args binds) (hloc : ∀ y ∈ binds, scope.names.lookup y.1 = some .local)
    (h : ∀ g L' h₁, g = ghostOf s.heap tabs1 → Fr g L' h₁ (fun y => binds.reverse.lookup y) → News g L' h₁ [(254, tabObj #[])] → Below A g [] g → (KK w.params).In g → TopQ w mean mg mb g → Facts w g →
      wpAny (model PW w) (A.deeper (envOf qual scope L' f cdv)) (execs body (envOf qual scope L' f cdv)) (fun fl s' => R (.ok (.ret (match fl with | .ret v => v | _ => .none))) s')
        (fun e s' => wpAny (model PW w) (A.deeper (envOf qual scope L' f cdv)) («leaving» (envOf qual scope L' f cdv) e) (fun _ s'' => R (.error e) s'') (fun e' s'' => R (.error e') s'') s')
        { s with heap := h₁, toks := s.toks + binds.length })
    (hco : scope.isCoroutine = false) (hgen : scope.isGenerator = false) (hk : scope.kind = .function) (hcell : ∀ x ∈ scope.names, x.2 ≠ .cell) : codeAny (model PW w) A (.call (.ref f) args) R s := by
  refine codeAny_call_def (fd := fnOf name qual params body scope dV kV doc pm an cdv ct) (body := body) (binds := binds) hroom (Y.K _ _ ho) rfl T.nolimit (codeRec_of Y.K hcd) rfl hbind hcell hloc (fun h₁ hns hk₁ => ?_) hco hgen hk
  have F : Fr s.heap s.heap.objs.size h₁ (fun y => binds.reverse.lookup y) := ⟨hns, hk₁, Nat.le_refl _⟩
  exact h _ _ h₁ rfl (ghost_fr hT F) (ghost_news hT F News.nil) ⟨hAf, fun _ _ e => e, trivial⟩ (ghost_facts hT Y).K (ghost_topq hT Y.K T) (ghost_facts hT Y)
theorem item_base {w : World} {A : Around} {E : Value → Shared → Prop} {s : Shared} {h₀ : Heap} {L l : Addr} {m : Str → Option Value} {value slice : Expr} {vs : List Value} {u : Tok} {v : Value} {Q : Value → Shared → Prop} (F : Fr h₀ L s.heap m) (hl : h₀.IsList l vs.toArray) (hx : vs[0]? = some v) (h : Q v s)
    (hs : subscripted slice false (.ref l) (.int 0 u) = operate [.ref l, .int 0 u] (getItem (.ref l) (.int 0 u)) := by with_unfolding_all rfl) (hg : ∀ r, letTemporaryGo value (.ref l) r = pure () := by intro _; with_unfolding_all rfl) :
    wpAny (model PW w) A (subscriptTail value slice (.ref l) (.int 0 u)) Q E s := item_list (isl_keeps hl F.keep) (by decide) (by decide) (by simpa using hx) h hs hg
theorem item_three {w : World} {A : Around} {E : Value → Shared → Prop} {s : Shared} {h₀ : Heap} {L l : Addr} {news : List (Addr × Obj)} {value slice : Expr} {k : Int} {j n : Nat} {u t0 t1 t2 : Tok} {Q : Value → Shared → Prop} (N : News h₀ L s.heap news) (hm : (l, W.listOf [Value.int 7 t0, Value.int 12 t1, Value.int 0 t2].toArray n) ∈ news) (hk : k = (j : Int)) (hj : j < 3) (h : ∀ (num : Nat) t, Q (.int (num : Int) t) s)
    (hs : subscripted slice false (.ref l) (.int k u) = operate [.ref l, .int k u] (getItem (.ref l) (.int k u)) := by with_unfolding_all rfl) (hg : ∀ r, letTemporaryGo value (.ref l) r = pure () := by intro _; with_unfolding_all rfl) :
    wpAny (model PW w) A (subscriptTail value slice (.ref l) (.int k u)) Q E s := by
  match j, hj with
  | 0, _ => exact item_led N hm hk (by decide) rfl (h 7 t0) hs hg
  | 1, _ => exact item_led N hm hk (by decide) rfl (h 12 t1) hs hg
  | 2, _ => exact item_led N hm hk (by decide) rfl (h 0 t2) hs hg
theorem seven_nat : ∀ j : Nat, ∃ num : Nat, ([7, 12, 0] : List Int).getD j 0 = (num : Int)
  | 0 => ⟨7, rfl⟩
  | 1 => ⟨12, rfl⟩
  | 2 => ⟨0, rfl⟩
  | _ + 3 => ⟨0, rfl⟩
theorem col_nat (X : Int) : ∃ col : Nat, 1 + X.fmod 5 = (col : Int) ∧ 1 ≤ col ∧ col ≤ 5 := by
  rw [Int.fmod_eq_emod_of_nonneg _ (by decide)]
  exact ⟨(1 + X % 5).toNat, by omega, by omega, by omega⟩
theorem tabN_of {news : List (Addr × Obj)} {g h : Heap} {L ld : Addr} {tl : List (Addr × Obj)} {dr : List (Nat × Nat)} (N : News g L h (tl ++ [(254, tabObj #[])])) (hd : DrawnIn tl ld dr) : TabN (tl ++ [(254, tabObj #[])]) := by
  obtain ⟨vs, n, hm, _⟩ := hd
  have h1 : ((254 : Addr), tabObj #[]) ∈ tl ++ [(254, tabObj #[])] := List.mem_append_right _ (.head _)
  refine ⟨h1, _, List.mem_append_left _ hm, not_tab N h1 (List.mem_append_left _ hm) (fun z => by cases z)⟩
local macro_rules | `(tactic| walk_at "subscriptTail") => `(tactic| (k_here; (with_reducible show wpAny _ _ (subscriptTail _ _ (Value.ref _) (Value.int 0 _)) _ _ _); k_dflt (refine' item_base ?F ?hl ?x ?_; (case hl => with_reducible assumption); (case F => k_asm); (case x => with_reducible assumption); k_whole)))
local macro_rules | `(tactic| walk_at "subscriptTail") => `(tactic| ((fail_if_success fail_if_success with_reducible refine gRI ?_); k_dflt refine item_three (by k_asm) (.head _) (by with_reducible assumption) (by omega) ?_; intros))
set_option maxRecDepth 100000 in
set_option maxHeartbeats 8000000 in
theorem walk_top (w : World) (s₁ : Shared) (mean : ExcName → Option Value) (mg mb : Str → Option Value) (sc : Addr) (vs : List Value) (ns : List Int) (A : Around) (E : Value → Shared → Prop) (hT : TabsAt tabs1 s₁.heap) (Y : Facts w s₁.heap) (T : TopQ w mean mg mb s₁.heap) (hgens : s₁.gens = #[]) (hlist : s₁.heap.IsList sc vs.toArray) (hi : IntsAre vs ns) (hlen : ns.length ≤ 63) (hAf : A.frames = some []) (hh : A.handled = none) (hd : A.depth + 80 < recursionLimit) (hu : A.units + 400 < cLine) :
    Tag KK RW (wpAny (model PW w) A (call (.ref 332) [.ref sc]) (TopEnd s₁) E s₁) := by
  k_fill
  unfold Tag
  refine wpAny_call ?_
  k_dflt (refine' code_top (binds := [(Str.ofString "script", Value.ref sc)]) hAf (by omega) hT Y T ?k6 ?k7 ?k9 ?kB ?_ ?c2 ?c3 ?c4 ?c5; (case k6 => k_is); (case k7 => k_is); (case k9 => exact BindsTo.of_eq rfl); (case c5 => decide); (case kB => exact locs rfl); (case c2 => exact rfl); (case c3 => exact rfl); (case c4 => exact rfl); k_whole; intro g' L' h' hg' F' N' B' X' T' XX; (try dsimp only); (try k_fold))
  rename Facts w _ => XX
  generalize (s₁.toks + List.length _) = tk0
  walk_at "mine steps"
  have hgl : g'.IsList sc vs.toArray := by rw [hg']; exact ghost_list hT hlist
  have hvl : vs.length = ns.length := by
    clear hlist hgl hlen
    induction hi with
    | nil => rfl
    | cons _ _ _ ih => rw [List.length_cons, List.length_cons, ih]
  k_dflt (refine' call_specG (drawn_spec w sc vs ns hi hlen) ?B ?F ?X ?N ?T ?hA ?hf ?hk ?hh ?hd hgl ?_; (((case B => k_asm); (case F => k_asm); (case X => assumption); (case N => k_asm); (case T => k_asm); (case hA => first | exact Around.frames_deeper (by assumption) | exact Around.frames_deeper (Around.frames_deeper (by assumption))); (case hf => exact rfl); (case hk => exact rfl); (case hh => with_unfolding_all assumption); (case hd => first | exact dp1 (by assumption) rfl | exact dp0 (by assumption) rfl | (simp only [depth_under_make, depth_under_kw, depth_in1, depth_deeper, depth_caller] at *; omega)))); k_whole)
  rintro v1 news1 h1 tk1 ⟨ld, tl, rfl, rfl, hdr⟩ F1 N1
  have hd5 : 5 ≤ (drawn5 ++ ((ns.drop 1).take 12).map drawnOf).length := by rw [List.length_append]; show 5 ≤ 5 + _; omega
  have hd17 : (drawn5 ++ ((ns.drop 1).take 12).map drawnOf).length ≤ 17 := by rw [List.length_append, List.length_map, List.length_take]; show 5 + _ ≤ 17; omega
  have htabN : TabN (tl ++ [(254, tabObj #[])]) := tabN_of (news := []) N1 hdr
  have hi0 := hi
  cases hi with
  | nil =>
    have hv0 : ([] : List Value).length = 0 := rfl
    walk_at "mine steps"
    obtain ⟨num, hnum⟩ : ∃ num : Nat, (7 : Int) = (num : Int) := ⟨7, rfl⟩
    obtain ⟨col, hcol, hc1, hc5⟩ := col_nat 0
    refine call_args (congrArg (fun z => [_, _, Value.int z _, _]) hnum) ?_
    refine call_args (congrArg (fun z => [_, _, _, Value.int z _]) hcol) ?_
    k_dflt (refine' call_specT (all_spec w sc ld _ _ (drawn5 ++ ((([] : List Int).drop 1).take 12).map drawnOf) _ num col _ _ hi0 hlen hd5 hd17 (drawn_ok _) rfl hc1 hc5) ?aB ?aF ?aX ?aN ?aT ?aA ?ak XX T' ?aD ?ah ?ad ?au ?aP ?_; (case aB => k_asm); (case aF => k_asm); (case aX => assumption); (case aN => k_asm); (case aT => k_asm); (case aA => first | exact Around.frames_deeper (by assumption) | exact Around.frames_deeper (Around.frames_deeper (by assumption))); (case ak => exact rfl); (case aD => exact ktsDicts_nil); (case ah => with_unfolding_all assumption); (case ad => first | exact dp1 (by assumption) rfl | exact dp0 (by assumption) rfl | exact dp1 (d := 6) (dp1 (by assumption) rfl) rfl | (simp only [depth_deeper] at *; omega)); (case au => (simp only [units_deeper]; omega)); (case aP => exact ⟨hgl, drawnIn_sub hdr (fun p hp => .tail _ (List.mem_append_left _ hp)), ⟨.tail _ htabN.1, let ⟨q, h1, h2⟩ := htabN.2; ⟨q, .tail _ h1, h2⟩⟩⟩); k_whole)
    rintro v8 g8 h8 tk8 T8 F8 ⟨ps8, hps8⟩ rfl
    exact ⟨rfl, fun b o e => F8.keep b o (T8.other b o (by rw [hg']; exact e) (fun z => nomatch z)), ⟨ps8, hps8⟩, rfl, hgens⟩
  | cons x t0 hi' =>
    rename_i vs' ns'
    have hv0 : 0 < (Value.int x t0 :: vs').length := by simp
    have hx0 : (Value.int x t0 :: vs')[0]? = some (.int x t0) := rfl
    walk_at "mine steps"
    generalize (if (x :: ns').getD (Int.toNat 0) 0 < 0 then -(x :: ns').getD (Int.toNat 0) 0 else (x :: ns').getD (Int.toNat 0) 0) = X0
    obtain ⟨num, hnum⟩ := seven_nat ((X0.fdiv 5).fmod 3).toNat
    obtain ⟨col, hcol, hc1, hc5⟩ := col_nat X0
    refine call_args (congrArg (fun z => [_, _, Value.int z _, _]) hnum) ?_
    refine call_args (congrArg (fun z => [_, _, _, Value.int z _]) hcol) ?_
    k_dflt (refine' call_specT (all_spec w sc ld _ _ (drawn5 ++ (((x :: ns').drop 1).take 12).map drawnOf) _ num col _ _ hi0 hlen hd5 hd17 (drawn_ok _) rfl hc1 hc5) ?bB ?bF ?bX ?bN ?bT ?bA ?bk XX T' ?bD ?bh ?bd ?bu ?bP ?_; (case bB => k_asm); (case bF => k_asm); (case bX => assumption); (case bN => k_asm); (case bT => k_asm); (case bA => first | exact Around.frames_deeper (by assumption) | exact Around.frames_deeper (Around.frames_deeper (by assumption))); (case bk => exact rfl); (case bD => exact ktsDicts_nil); (case bh => with_unfolding_all assumption); (case bd => first | exact dp1 (by assumption) rfl | exact dp0 (by assumption) rfl | exact dp1 (d := 6) (dp1 (by assumption) rfl) rfl | (simp only [depth_deeper] at *; omega)); (case bu => (simp only [units_deeper]; omega)); (case bP => exact ⟨hgl, drawnIn_sub hdr (fun p hp => .tail _ (List.mem_append_left _ hp)), ⟨.tail _ htabN.1, let ⟨q, h1, h2⟩ := htabN.2; ⟨q, .tail _ h1, h2⟩⟩⟩); k_whole)
    rintro v8 g8 h8 tk8 T8 F8 ⟨ps8, hps8⟩ rfl
    exact ⟨rfl, fun b o e => F8.keep b o (T8.other b o (by rw [hg']; exact e) (fun z => nomatch z)), ⟨ps8, hps8⟩, rfl, hgens⟩
end
-- WkOk
section
open PySem PySem.W PyProof.Rows PySem.Spec PySem.Calls
theorem walk_ok : WalkT := by
  intro w s₀ s₁ mg mb G Y h254 f hmg hgens args vals as hpre hlay hrd hwl hlo
  have hT := tabs_at Y h254
  obtain ⟨sc, vs, ns, rfl, hlist, hi, hlen, hpost⟩ := args_are hpre hlay hrd hwl hlo
  have e1 := mg_of Y.K G.T.g (show nsIn (KK w.params) mainGlobals (Str.ofString "law") = some (some (.ref 332)) from by kernel_rfl)
  have hn : RR.name = Str.ofString "law" := by rfl
  rw [hn, e1] at hmg
  obtain rfl := Option.some.inj hmg
  have h := walk_top w s₁ _ mg mb sc vs ns callerA (fun e s' => GoodT RR.claim (classAt s₀.heap) (ExcName.means s₀.heap) args s₁ (.error e) s') hT Y G.T hgens hlist hi hlen rfl rfl (by decide) (by decide)
  exact wpAny_mono h (fun v s' e => good_of_end hT hpost e) (fun e s' x => x)
end
end Mine
theorem PySem.Challenge.cw_ij0193_01_holds : PySem.Challenge.rw_ij0193_01.Holds := by
  exact Mine.law_pre (Mine.open_tab Mine.walk_ok Mine.promised_ok)
