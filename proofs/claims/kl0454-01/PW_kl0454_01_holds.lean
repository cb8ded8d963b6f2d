import PyProof.Rows.All
import Wide.All
import OpenK.AllK
import Wide.FinOn
import Lean
import PySem.Challenge.RW_kl0454_01
open PySem PySem.W PyProof.Rows
set_option Elab.async false
namespace Mine
def isLeap (y : Int) : Bool := (y.fmod 4 == 0) && ((y.fmod 100 != 0) || (y.fmod 400 == 0))
def dby (y : Int) : Int := (y - 1) * 365 + (y - 1).fdiv 4 - (y - 1).fdiv 100 + (y - 1).fdiv 400
def dbm0 (m : Int) : Int := List.getD [-1, 0, 31, 59, 90, 120, 151, 181, 212, 243, 273, 304, 334] m.toNat 0
def dbm (y m : Int) : Int := dbm0 m + (if decide (m > 2) && isLeap y then 1 else 0)
def lsun (y m : Int) : Int := (dby y + dbm y m).fdiv 7 * 7 + 7
def lawTwo (n : Int) : Str := Txt.slice (Str.ofString (toString (100 + n))) (some 1) none
def movedOf (y m : Int) : Int := if decide (m < 3) = true then y - 1 else y
def nameOf (y m d : Int) : Int := (movedOf y m + (movedOf y m).fdiv 4 - (movedOf y m).fdiv 100 + (movedOf y m).fdiv 400 + List.getD [0, 3, 2, 5, 0, 3, 5, 1, 4, 6, 2, 4] (m - 1).toNat 0 + d).fmod 7
def lawLine (y m d c h : Int) : Str :=
  Txt.slice (Str.ofString "SunMonTueWedThuFriSat") (some (3 * nameOf y m d)) (some (3 * nameOf y m d + 3)) ++ Str.ofString ", " ++ lawTwo d ++ Str.ofString " " ++
    Txt.slice (Str.ofString "JanFebMarAprMayJunJulAugSepOctNovDec") (some (3 * m - 3)) (some (3 * m)) ++ Str.ofString " " ++
    Txt.mul (Str.ofString "0") (4 - ((Str.ofString (toString y)).length : Int)) ++ Str.ofString (toString y) ++ Str.ofString " " ++
    lawTwo (c.fdiv 3600) ++ Str.ofString ":" ++ lawTwo ((c.fdiv 60).fmod 60) ++ Str.ofString ":" ++ lawTwo (c.fmod 60) ++ Str.ofString " -0" ++ Str.ofString (toString h) ++ Str.ofString "00"
def ck0N (n : Int) : Int := (n + 3600).fmod 14400
def kdN (n : Int) : Int := (n.fdiv 14400).fmod 3
def yrN (n : Int) : Int := (n.fdiv 43200 + 2023).fmod 12000 + 1
def ptN (n : Int) : Int := n.fdiv 518400000
def shN (y : Int) : Int := (y + y.fdiv 4 - y.fdiv 100 + y.fdiv 400 + 2).fmod 7
def moN (n : Int) : Int := if kdN n = 2 then ((ptN n).fdiv 6).fmod 12 + 1 else 11 - 8 * kdN n
def lgM (y m : Int) : Int := if m = 2 then (if isLeap y = true then 29 else 28) else 31 - ((m - 1).fmod 7).fmod 2
def dyN (n : Int) : Int := if kdN n = 2 then (if lgM (yrN n) (moN n) < ((ptN n).fdiv 72).fmod 31 + 1 then lgM (yrN n) (moN n) else ((ptN n).fdiv 72).fmod 31 + 1) else 7 + 7 * kdN n - shN (yrN n) + (ptN n).fmod 2 * 7
def ckN (n : Int) : Int := if kdN n = 2 then ck0N n * 6 + (ptN n).fmod 6 else ck0N n
def spN (y : Int) : Int := (lsun y 3 + 7) * 86400 + 25200
def auN (y : Int) : Int := lsun y 11 * 86400 + 21600
def wkN (y : Int) : Int := if decide (shN y + (if isLeap (y + 1) = true then 2 else 1) > 6) = true then 19 else 18
def daysOf (y m d : Int) : Int := dby y + dbm y m + d
def hourOf (m d c : Int) : Int := (m * 100 + d) * 100 + c.fdiv 3600
def gapOf (y : Int) : Int := (314 - shN y) * 100 + 2
def foldOf (y : Int) : Int := (1107 - shN y) * 100 + 1
def zonesOf (y m d c : Int) : List Int :=
  if hourOf m d c = gapOf y then [] else if hourOf m d c = foldOf y then [4, 5] else if gapOf y < hourOf m d c ∧ hourOf m d c < foldOf y then [4] else [5]
def numD1 (y m d c h : Int) : Dat := .tuple [.int (daysOf y m d * 86400 + c + h * 3600), .str (lawLine y m d c h)]
def figD1 (y m d c h : Int) : Dat := .tuple [.int (y * 1000000 + hourOf m d c), .int h, .int (c.fmod 3600), .str (lawLine y m d c h)]
def numD (n : Int) : List Dat := (zonesOf (yrN n) (moN n) (dyN n) (ckN n)).map (numD1 (yrN n) (moN n) (dyN n) (ckN n))
def figD (n : Int) : List Dat := (zonesOf (yrN n) (moN n) (dyN n) (ckN n)).map (figD1 (yrN n) (moN n) (dyN n) (ckN n))
def Wd (pre : List Int) (a b : List Dat) : Prop := a.length ≤ 2 * pre.length ∧ b.length ≤ 2 * pre.length ∧ a = pre.flatMap numD ∧ b = pre.flatMap figD
theorem zonesOf_len (y m d c : Int) : (zonesOf y m d c).length ≤ 2 := by
  unfold zonesOf
  split <;> (try split) <;> (try split) <;> simp
theorem wd_start : Wd [] [] [] := ⟨by simp, by simp, rfl, rfl⟩
theorem wd_step {pre : List Int} {n : Int} {a b : List Dat} (h : Wd pre a b) : Wd (pre ++ [n]) (a ++ numD n) (b ++ figD n) := by
  obtain ⟨h1, h2, rfl, rfl⟩ := h
  have hz := zonesOf_len (yrN n) (moN n) (dyN n) (ckN n)
  refine ⟨?_, ?_, ?_, ?_⟩
  · simp only [List.length_append, numD, List.length_map, List.length_singleton] at *; omega
  · simp only [List.length_append, figD, List.length_map, List.length_singleton] at *; omega
  · simp
  · simp
def dig (n : Int) : List Nat := (Str.ofString (toString n)).cps.toList
def pad (k : Nat) (n : Int) : Str := ⟨(List.replicate (k - (dig n).length) 48 ++ dig n).toArray⟩
def wdName (i : Int) : Str := List.getD [Str.ofString "Mon", Str.ofString "Tue", Str.ofString "Wed", Str.ofString "Thu", Str.ofString "Fri", Str.ofString "Sat", Str.ofString "Sun"] i.toNat PySem.Str.empty
def moName (m : Int) : Str := List.getD [Str.ofString "Jan", Str.ofString "Feb", Str.ofString "Mar", Str.ofString "Apr", Str.ofString "May", Str.ofString "Jun", Str.ofString "Jul", Str.ofString "Aug", Str.ofString "Sep", Str.ofString "Oct", Str.ofString "Nov", Str.ofString "Dec"] (m - 1).toNat PySem.Str.empty
def fmtLine (y m d hh mi ss wd : Int) (z : Str) : Str :=
  wdName wd ++ Str.ofString ", " ++ pad 2 d ++ Str.ofString " " ++ moName m ++ Str.ofString " " ++ pad 4 y ++ Str.ofString " " ++ pad 2 hh ++ Str.ofString ":" ++ pad 2 mi ++ Str.ofString ":" ++ pad 2 ss ++ Str.ofString " " ++ z
theorem getD_len {l : List Str} {i : Nat} (h : ∀ x ∈ l, x.length ≤ 1000) : (l.getD i PySem.Str.empty).length ≤ 1000 := by
  by_cases hi : i < l.length
  · rw [List.getD_eq_getElem?_getD, List.getElem?_eq_getElem hi]
    exact h _ (List.getElem_mem hi)
  · rw [List.getD_eq_getElem?_getD, List.getElem?_eq_none (Nat.le_of_not_lt hi)]
    exact Nat.zero_le _
theorem wdName_len (i : Int) : (wdName i).length ≤ 1000 := getD_len (by decide +kernel)
theorem moName_len (i : Int) : (moName i).length ≤ 1000 := getD_len (by decide +kernel)
end Mine
namespace Mine
theorem yr_range (n : Int) : 1 ≤ yrN n ∧ yrN n ≤ 12000 := by
  unfold yrN; rw [Int.fmod_eq_emod_of_nonneg _ (by decide)]; omega
theorem mo_range (n : Int) : 1 ≤ moN n ∧ moN n ≤ 12 := by
  have hk : 0 ≤ kdN n ∧ kdN n < 3 := by unfold kdN; rw [Int.fmod_eq_emod_of_nonneg _ (by decide)]; omega
  unfold moN
  split
  · rw [Int.fmod_eq_emod_of_nonneg _ (by decide)]; omega
  · omega
theorem sh_range (y : Int) : 0 ≤ shN y ∧ shN y < 7 := by
  unfold shN; rw [Int.fmod_eq_emod_of_nonneg _ (by decide)]; omega
theorem ck_range (n : Int) : 0 ≤ ckN n ∧ ckN n < 86400 := by
  have h0 : 0 ≤ ck0N n ∧ ck0N n < 14400 := by unfold ck0N; rw [Int.fmod_eq_emod_of_nonneg _ (by decide)]; omega
  unfold ckN
  split
  · rw [Int.fmod_eq_emod_of_nonneg _ (by decide)]; omega
  · omega
theorem lg_range (y m : Int) : 28 ≤ lgM y m ∧ lgM y m ≤ 31 := by
  unfold lgM
  split
  · split <;> omega
  · rw [Int.fmod_eq_emod_of_nonneg _ (by decide), Int.fmod_eq_emod_of_nonneg _ (by decide)]; omega
theorem dy_range (n : Int) : 1 ≤ dyN n ∧ dyN n ≤ 31 := by
  have hl := lg_range (yrN n) (moN n)
  have hs := sh_range (yrN n)
  have hk : 0 ≤ kdN n ∧ kdN n < 3 := by unfold kdN; rw [Int.fmod_eq_emod_of_nonneg _ (by decide)]; omega
  unfold dyN
  split
  · rw [Int.fmod_eq_emod_of_nonneg _ (by decide)]; split <;> omega
  · rw [Int.fmod_eq_emod_of_nonneg _ (by decide)]; omega
theorem dy_long (n : Int) : dyN n ≤ lgM (yrN n) (moN n) := by
  have hs := sh_range (yrN n)
  have hk : 0 ≤ kdN n ∧ kdN n < 3 := by unfold kdN; rw [Int.fmod_eq_emod_of_nonneg _ (by decide)]; omega
  unfold dyN
  split
  · split <;> omega
  · rename_i h
    have hm : moN n = 11 - 8 * kdN n := by unfold moN; rw [if_neg h]
    rw [Int.fmod_eq_emod_of_nonneg _ (by decide)]
    have h2 : kdN n = 0 ∨ kdN n = 1 := by omega
    rcases h2 with h2 | h2
    · rw [hm, h2, show lgM (yrN n) (11 - 8 * 0) = 30 from rfl]; omega
    · rw [hm, h2, show lgM (yrN n) (11 - 8 * 1) = 31 from rfl]; omega
theorem dbm3 (y : Int) : dbm y 3 = 59 + (if isLeap y = true then 1 else 0) := rfl
theorem dbm11 (y : Int) : dbm y 11 = 304 + (if isLeap y = true then 1 else 0) := rfl
theorem leap_iff (y : Int) : isLeap y = true ↔ (y % 4 = 0 ∧ (y % 100 ≠ 0 ∨ y % 400 = 0)) := by
  unfold isLeap
  rw [Int.fmod_eq_emod_of_nonneg _ (by decide), Int.fmod_eq_emod_of_nonneg _ (by decide), Int.fmod_eq_emod_of_nonneg _ (by decide)]
  simp
theorem dby_is (y : Int) : dby y = (y - 1) * 365 + (y - 1) / 4 - (y - 1) / 100 + (y - 1) / 400 := by
  unfold dby
  rw [Int.fdiv_eq_ediv_of_nonneg _ (by decide), Int.fdiv_eq_ediv_of_nonneg _ (by decide), Int.fdiv_eq_ediv_of_nonneg _ (by decide)]
theorem sh_is (y : Int) : shN y = (y + y / 4 - y / 100 + y / 400 + 2) % 7 := by
  unfold shN
  rw [Int.fmod_eq_emod_of_nonneg _ (by decide), Int.fdiv_eq_ediv_of_nonneg _ (by decide), Int.fdiv_eq_ediv_of_nonneg _ (by decide), Int.fdiv_eq_ediv_of_nonneg _ (by decide)]
theorem lsun_is (y m : Int) : lsun y m = (dby y + dbm y m) / 7 * 7 + 7 := by
  unfold lsun; rw [Int.fdiv_eq_ediv_of_nonneg _ (by decide)]
theorem div4 (x : Int) : (x + 1) / 4 = x / 4 + if (x + 1) % 4 = 0 then 1 else 0 := by split <;> omega
theorem div100 (x : Int) : (x + 1) / 100 = x / 100 + if (x + 1) % 100 = 0 then 1 else 0 := by split <;> omega
theorem div400 (x : Int) : (x + 1) / 400 = x / 400 + if (x + 1) % 400 = 0 then 1 else 0 := by split <;> omega
/-- the leap days grow by one at a leap year -/
theorem leap_sum (x : Int) : (x + 1) / 4 - (x + 1) / 100 + (x + 1) / 400 = x / 4 - x / 100 + x / 400 + if isLeap (x + 1) = true then 1 else 0 := by
  rw [div4, div100, div400]
  have h1 : (x + 1) % 100 = 0 → (x + 1) % 4 = 0 := by omega
  have h2 : (x + 1) % 400 = 0 → (x + 1) % 100 = 0 := by omega
  have hl := leap_iff (x + 1)
  generalize x / 4 = a
  generalize x / 100 = b
  generalize x / 400 = c
  by_cases p4 : (x + 1) % 4 = 0
  · by_cases p1 : (x + 1) % 100 = 0
    · by_cases p2 : (x + 1) % 400 = 0
      · rw [if_pos p4, if_pos p1, if_pos p2, if_pos (hl.mpr ⟨p4, Or.inr p2⟩)]; clear h1 h2 hl p4 p1 p2; omega
      · rw [if_pos p4, if_pos p1, if_neg p2, if_neg (fun h => (hl.mp h).2.elim (fun q => q p1) p2)]; clear h1 h2 hl p4 p1 p2; omega
    · rw [if_pos p4, if_neg p1, if_neg (fun p => p1 (h2 p)), if_pos (hl.mpr ⟨p4, Or.inl p1⟩)]; clear h1 h2 hl p4 p1; omega
  · have p1 : ¬ (x + 1) % 100 = 0 := fun p => p4 (h1 p)
    rw [if_neg p4, if_neg p1, if_neg (fun p => p1 (h2 p)), if_neg (fun h => p4 (hl.mp h).1)]; clear h1 h2 hl p4 p1; omega
/-- the leap day in the number of days before the next year -/
theorem dby_leap (y : Int) : dby y + (if isLeap y = true then 1 else 0) = (y - 1) * 365 + y / 4 - y / 100 + y / 400 := by
  have h := leap_sum (y - 1)
  rw [Int.sub_add_cancel] at h
  rw [dby_is]
  generalize (if isLeap y = true then (1 : Int) else 0) = l at *
  generalize y / 4 = a at *
  generalize y / 100 = b at *
  generalize y / 400 = c at *
  generalize (y - 1) / 4 = a' at *
  generalize (y - 1) / 100 = b' at *
  generalize (y - 1) / 400 = c' at *
  omega
theorem lsun11 (y : Int) : lsun y 11 = dby y + dbm y 11 - shN y + 7 := by
  rw [lsun_is, dbm11, sh_is]; have := dby_leap y; omega
theorem lsun3 (y : Int) : lsun y 3 = dby y + dbm y 3 - shN y + 7 := by
  rw [lsun_is, dbm3, sh_is]; have := dby_leap y; omega
theorem au_sp (y : Int) : auN y - spN y = 238 * 86400 - 3600 := by
  unfold auN spN; rw [lsun11, lsun3, dbm11, dbm3]; omega
theorem sh_sum (y : Int) : (y + 1) + (y + 1) / 4 - (y + 1) / 100 + (y + 1) / 400 = (y + y / 4 - y / 100 + y / 400) + (if isLeap (y + 1) = true then 2 else 1) := by
  have h := leap_sum y
  have e : (if isLeap (y + 1) = true then (2 : Int) else 1) = 1 + if isLeap (y + 1) = true then 1 else 0 := by split <;> rfl
  rw [e]
  generalize (if isLeap (y + 1) = true then (1 : Int) else 0) = l at *
  generalize y / 4 = a at *
  generalize y / 100 = b at *
  generalize y / 400 = c at *
  generalize (y + 1) / 4 = a' at *
  generalize (y + 1) / 100 = b' at *
  generalize (y + 1) / 400 = c' at *
  omega
theorem sh_next (y : Int) : shN (y + 1) = (shN y + (if isLeap (y + 1) = true then 2 else 1)) % 7 := by
  have := sh_sum y
  rw [sh_is, sh_is]
  generalize (if isLeap (y + 1) = true then (2 : Int) else 1) = q at this
  omega
theorem sp_au (y : Int) : spN (y + 1) - auN y = wkN y * 604800 + 3600 := by
  have e := sh_next y
  have r := sh_range y
  have d := dby_leap y
  have d2 : dby (y + 1) = y * 365 + y / 4 - y / 100 + y / 400 := by rw [dby_is]; simp
  unfold spN auN wkN
  rw [lsun11, lsun3, dbm11, dbm3, e, d2]
  simp only [decide_eq_true_eq]
  generalize (if isLeap y = true then (1 : Int) else 0) = l at d ⊢
  by_cases h : isLeap (y + 1) = true
  · simp only [if_pos h]
    by_cases hw : shN y + 2 > 6
    · rw [if_pos hw]; omega
    · rw [if_neg hw]; omega
  · simp only [if_neg h]
    by_cases hw : shN y + 1 > 6
    · rw [if_pos hw]; omega
    · rw [if_neg hw]; omega
end Mine
namespace Mine
def lp (y : Int) : Int := if isLeap y = true then 1 else 0
theorem lp_range (y : Int) : 0 ≤ lp y ∧ lp y ≤ 1 := by unfold lp; split <;> omega
theorem lg2 (y : Int) : lgM y 2 = 28 + lp y := by
  have e : lgM y 2 = (if isLeap y = true then 29 else 28) := rfl
  rw [e]; unfold lp; split <;> rfl
theorem mo_cases {m : Int} (h : 1 ≤ m ∧ m ≤ 12) : m = 1 ∨ m = 2 ∨ m = 3 ∨ m = 4 ∨ m = 5 ∨ m = 6 ∨ m = 7 ∨ m = 8 ∨ m = 9 ∨ m = 10 ∨ m = 11 ∨ m = 12 := by omega
/-- month and its number of days before it, in a form for omega -/
theorem dbm_tab (y : Int) {m : Int} (h : 1 ≤ m ∧ m ≤ 12) :
    (m = 1 ∧ dbm y m = 0 ∧ lgM y m = 31) ∨ (m = 2 ∧ dbm y m = 31 ∧ lgM y m = 28 + lp y) ∨ (m = 3 ∧ dbm y m = 59 + lp y ∧ lgM y m = 31) ∨ (m = 4 ∧ dbm y m = 90 + lp y ∧ lgM y m = 30) ∨
    (m = 5 ∧ dbm y m = 120 + lp y ∧ lgM y m = 31) ∨ (m = 6 ∧ dbm y m = 151 + lp y ∧ lgM y m = 30) ∨ (m = 7 ∧ dbm y m = 181 + lp y ∧ lgM y m = 31) ∨ (m = 8 ∧ dbm y m = 212 + lp y ∧ lgM y m = 31) ∨
    (m = 9 ∧ dbm y m = 243 + lp y ∧ lgM y m = 30) ∨ (m = 10 ∧ dbm y m = 273 + lp y ∧ lgM y m = 31) ∨ (m = 11 ∧ dbm y m = 304 + lp y ∧ lgM y m = 30) ∨ (m = 12 ∧ dbm y m = 334 + lp y ∧ lgM y m = 31) := by
  rcases mo_cases h with h | h | h | h | h | h | h | h | h | h | h | h <;> subst h
  · exact Or.inl ⟨rfl, rfl, rfl⟩
  · exact Or.inr (Or.inl ⟨rfl, rfl, lg2 y⟩)
  · exact Or.inr (Or.inr (Or.inl ⟨rfl, rfl, rfl⟩))
  · exact Or.inr (Or.inr (Or.inr (Or.inl ⟨rfl, rfl, rfl⟩)))
  · exact Or.inr (Or.inr (Or.inr (Or.inr (Or.inl ⟨rfl, rfl, rfl⟩))))
  · exact Or.inr (Or.inr (Or.inr (Or.inr (Or.inr (Or.inl ⟨rfl, rfl, rfl⟩)))))
  · exact Or.inr (Or.inr (Or.inr (Or.inr (Or.inr (Or.inr (Or.inl ⟨rfl, rfl, rfl⟩))))))
  · exact Or.inr (Or.inr (Or.inr (Or.inr (Or.inr (Or.inr (Or.inr (Or.inl ⟨rfl, rfl, rfl⟩)))))))
  · exact Or.inr (Or.inr (Or.inr (Or.inr (Or.inr (Or.inr (Or.inr (Or.inr (Or.inl ⟨rfl, rfl, rfl⟩))))))))
  · exact Or.inr (Or.inr (Or.inr (Or.inr (Or.inr (Or.inr (Or.inr (Or.inr (Or.inr (Or.inl ⟨rfl, rfl, rfl⟩)))))))))
  · exact Or.inr (Or.inr (Or.inr (Or.inr (Or.inr (Or.inr (Or.inr (Or.inr (Or.inr (Or.inr (Or.inl ⟨rfl, rfl, rfl⟩))))))))))
  · exact Or.inr (Or.inr (Or.inr (Or.inr (Or.inr (Or.inr (Or.inr (Or.inr (Or.inr (Or.inr (Or.inr ⟨rfl, rfl, rfl⟩))))))))))
theorem sp_is (y : Int) : spN y = (dby y + 59 + lp y - shN y + 14) * 86400 + 25200 := by
  unfold spN; rw [lsun3, dbm3]; unfold lp; omega
theorem au_is (y : Int) : auN y = (dby y + 304 + lp y - shN y + 7) * 86400 + 21600 := by
  unfold auN; rw [lsun11, dbm11]; unfold lp; omega
theorem hour_is (m d c : Int) : hourOf m d c = (m * 100 + d) * 100 + c / 3600 := by
  unfold hourOf; rw [Int.fdiv_eq_ediv_of_nonneg _ (by decide)]
theorem mon_lo (y : Int) {m d : Int} (h1 : 1 ≤ m) (h2 : m ≤ 2) (hd : d ≤ lgM y m) : dbm y m + d ≤ 59 + lp y := by
  rcases (show m = 1 ∨ m = 2 by omega) with rfl | rfl
  · have e : lgM y 1 = 31 := rfl
    have e2 : dbm y 1 = 0 := rfl
    have := lp_range y
    omega
  · have e := lg2 y
    have e2 : dbm y 2 = 31 := rfl
    omega
theorem mon_mid (y : Int) {m d : Int} (h1 : 4 ≤ m) (h2 : m ≤ 10) (hd : d ≤ lgM y m) : 90 + lp y ≤ dbm y m ∧ dbm y m + d ≤ 304 + lp y := by
  have hm : 1 ≤ m ∧ m ≤ 12 := by omega
  rcases dbm_tab y hm with ⟨e, _⟩ | ⟨e, _⟩ | ⟨e, _⟩ | ⟨_, a, b⟩ | ⟨_, a, b⟩ | ⟨_, a, b⟩ | ⟨_, a, b⟩ | ⟨_, a, b⟩ | ⟨_, a, b⟩ | ⟨_, a, b⟩ | ⟨e, _⟩ | ⟨e, _⟩
  · exact absurd e (by omega)
  · exact absurd e (by omega)
  · exact absurd e (by omega)
  all_goals first
    | (rw [a]; rw [b] at hd; clear a b h1 h2 hm; generalize lp y = l at *; omega)
    | exact absurd e (by omega)
theorem spring_at {y m d c D : Int} (hm : 1 ≤ m ∧ m ≤ 12) (hd : 1 ≤ d ∧ d ≤ lgM y m) (hc : 0 ≤ c ∧ c < 86400) :
    ((hourOf m d c ≤ gapOf y ∧ (D + dbm y m + d) * 86400 + c + 4 * 3600 < (D + 59 + lp y - shN y + 14) * 86400 + 25200) ∨ (gapOf y < hourOf m d c ∧ (D + 59 + lp y - shN y + 14) * 86400 + 25200 ≤ (D + dbm y m + d) * 86400 + c + 4 * 3600)) ∧
    ((hourOf m d c < gapOf y ∧ (D + dbm y m + d) * 86400 + c + 5 * 3600 < (D + 59 + lp y - shN y + 14) * 86400 + 25200) ∨ (gapOf y ≤ hourOf m d c ∧ (D + 59 + lp y - shN y + 14) * 86400 + 25200 ≤ (D + dbm y m + d) * 86400 + c + 5 * 3600)) := by
  have hs := sh_range y
  rw [hour_is]
  unfold gapOf
  have hq : 0 ≤ c / 3600 ∧ c / 3600 < 24 ∧ 3600 * (c / 3600) ≤ c ∧ c < 3600 * (c / 3600) + 3600 := by omega
  have lg := lg_range y m
  by_cases h3 : m = 3
  · have e : dbm y m = 59 + lp y := by rw [h3]; rfl
    rw [e, h3]
    clear e h3
    generalize shN y = sh at *
    generalize lp y = l at *
    generalize c / 3600 = q at *
    omega
  · by_cases h2 : m ≤ 2
    · have e := mon_lo y hm.1 h2 hd.2
      generalize shN y = sh at *
      generalize lp y = l at *
      generalize c / 3600 = q at *
      generalize dbm y m = b at *
      omega
    · have e : 90 + lp y ≤ dbm y m := by
        by_cases h10 : m ≤ 10
        · exact (mon_mid y (by omega) h10 hd.2).1
        · rcases (show m = 11 ∨ m = 12 by omega) with rfl | rfl
          · have : dbm y 11 = 304 + lp y := rfl
            omega
          · have : dbm y 12 = 334 + lp y := rfl
            omega
      generalize shN y = sh at *
      generalize lp y = l at *
      generalize c / 3600 = q at *
      generalize dbm y m = b at *
      omega
theorem autumn_at {y m d c D : Int} (hm : 1 ≤ m ∧ m ≤ 12) (hd : 1 ≤ d ∧ d ≤ lgM y m) (hc : 0 ≤ c ∧ c < 86400) :
    ((hourOf m d c ≤ foldOf y ∧ (D + dbm y m + d) * 86400 + c + 4 * 3600 < (D + 304 + lp y - shN y + 7) * 86400 + 21600) ∨ (foldOf y < hourOf m d c ∧ (D + 304 + lp y - shN y + 7) * 86400 + 21600 ≤ (D + dbm y m + d) * 86400 + c + 4 * 3600)) ∧
    ((hourOf m d c < foldOf y ∧ (D + dbm y m + d) * 86400 + c + 5 * 3600 < (D + 304 + lp y - shN y + 7) * 86400 + 21600) ∨ (foldOf y ≤ hourOf m d c ∧ (D + 304 + lp y - shN y + 7) * 86400 + 21600 ≤ (D + dbm y m + d) * 86400 + c + 5 * 3600)) := by
  have hs := sh_range y
  rw [hour_is]
  unfold foldOf
  have hq : 0 ≤ c / 3600 ∧ c / 3600 < 24 ∧ 3600 * (c / 3600) ≤ c ∧ c < 3600 * (c / 3600) + 3600 := by omega
  have lg := lg_range y m
  by_cases h11 : m = 11
  · have e : dbm y m = 304 + lp y := by rw [h11]; rfl
    rw [e, h11]
    clear e h11
    generalize shN y = sh at *
    generalize lp y = l at *
    generalize c / 3600 = q at *
    omega
  · by_cases h12 : m = 12
    · have e : dbm y m = 334 + lp y := by rw [h12]; rfl
      rw [e, h12]
      clear e h11 h12
      generalize shN y = sh at *
      generalize lp y = l at *
      generalize c / 3600 = q at *
      omega
    · have e : dbm y m + d ≤ 304 + lp y := by
        by_cases h4 : 4 ≤ m
        · exact (mon_mid y h4 (by omega) hd.2).2
        · by_cases h3 : m = 3
          · have e : dbm y m = 59 + lp y := by rw [h3]; rfl
            omega
          · have := mon_lo y hm.1 (by omega) hd.2
            omega
      generalize shN y = sh at *
      generalize lp y = l at *
      generalize c / 3600 = q at *
      generalize dbm y m = b at *
      omega
/-- where an instant lies, by the figures alone -/
theorem zone_at {y m d c : Int} (hm : 1 ≤ m ∧ m ≤ 12) (hd : 1 ≤ d ∧ d ≤ lgM y m) (hc : 0 ≤ c ∧ c < 86400) :
    ((hourOf m d c ≤ gapOf y ∧ daysOf y m d * 86400 + c + 4 * 3600 < spN y) ∨ (gapOf y < hourOf m d c ∧ spN y ≤ daysOf y m d * 86400 + c + 4 * 3600)) ∧
    ((hourOf m d c < gapOf y ∧ daysOf y m d * 86400 + c + 5 * 3600 < spN y) ∨ (gapOf y ≤ hourOf m d c ∧ spN y ≤ daysOf y m d * 86400 + c + 5 * 3600)) ∧
    ((hourOf m d c ≤ foldOf y ∧ daysOf y m d * 86400 + c + 4 * 3600 < auN y) ∨ (foldOf y < hourOf m d c ∧ auN y ≤ daysOf y m d * 86400 + c + 4 * 3600)) ∧
    ((hourOf m d c < foldOf y ∧ daysOf y m d * 86400 + c + 5 * 3600 < auN y) ∨ (foldOf y ≤ hourOf m d c ∧ auN y ≤ daysOf y m d * 86400 + c + 5 * 3600)) := by
  rw [sp_is, au_is]
  exact ⟨(spring_at hm hd hc).1, (spring_at hm hd hc).2, autumn_at hm hd hc⟩
end Mine
namespace Mine
/-- all that the turn asks of the number n: kept closed till the loop over the two zones -/
structure ZFacts (n : Int) : Prop where
  out :
    (hourOf (moN n) (dyN n) (ckN n) = gapOf (yrN n) ∧ zonesOf (yrN n) (moN n) (dyN n) (ckN n) = [] ∧
      ¬ spN (yrN n) ≤ daysOf (yrN n) (moN n) (dyN n) * 86400 + ckN n + 4 * 3600 ∧ spN (yrN n) ≤ daysOf (yrN n) (moN n) (dyN n) * 86400 + ckN n + 5 * 3600 ∧ daysOf (yrN n) (moN n) (dyN n) * 86400 + ckN n + 5 * 3600 < auN (yrN n)) ∨
    (hourOf (moN n) (dyN n) (ckN n) ≠ gapOf (yrN n) ∧ hourOf (moN n) (dyN n) (ckN n) = foldOf (yrN n) ∧ zonesOf (yrN n) (moN n) (dyN n) (ckN n) = [4, 5] ∧
      spN (yrN n) ≤ daysOf (yrN n) (moN n) (dyN n) * 86400 + ckN n + 4 * 3600 ∧ daysOf (yrN n) (moN n) (dyN n) * 86400 + ckN n + 4 * 3600 < auN (yrN n) ∧ spN (yrN n) ≤ daysOf (yrN n) (moN n) (dyN n) * 86400 + ckN n + 5 * 3600 ∧ ¬ daysOf (yrN n) (moN n) (dyN n) * 86400 + ckN n + 5 * 3600 < auN (yrN n)) ∨
    (hourOf (moN n) (dyN n) (ckN n) ≠ gapOf (yrN n) ∧ hourOf (moN n) (dyN n) (ckN n) ≠ foldOf (yrN n) ∧ gapOf (yrN n) < hourOf (moN n) (dyN n) (ckN n) ∧ hourOf (moN n) (dyN n) (ckN n) < foldOf (yrN n) ∧ zonesOf (yrN n) (moN n) (dyN n) (ckN n) = [4] ∧
      spN (yrN n) ≤ daysOf (yrN n) (moN n) (dyN n) * 86400 + ckN n + 4 * 3600 ∧ daysOf (yrN n) (moN n) (dyN n) * 86400 + ckN n + 4 * 3600 < auN (yrN n) ∧ spN (yrN n) ≤ daysOf (yrN n) (moN n) (dyN n) * 86400 + ckN n + 5 * 3600 ∧ daysOf (yrN n) (moN n) (dyN n) * 86400 + ckN n + 5 * 3600 < auN (yrN n)) ∨
    (hourOf (moN n) (dyN n) (ckN n) ≠ gapOf (yrN n) ∧ hourOf (moN n) (dyN n) (ckN n) ≠ foldOf (yrN n) ∧ ¬ gapOf (yrN n) < hourOf (moN n) (dyN n) (ckN n) ∧ zonesOf (yrN n) (moN n) (dyN n) (ckN n) = [5] ∧
      ¬ spN (yrN n) ≤ daysOf (yrN n) (moN n) (dyN n) * 86400 + ckN n + 4 * 3600 ∧ ¬ spN (yrN n) ≤ daysOf (yrN n) (moN n) (dyN n) * 86400 + ckN n + 5 * 3600) ∨
    (hourOf (moN n) (dyN n) (ckN n) ≠ gapOf (yrN n) ∧ hourOf (moN n) (dyN n) (ckN n) ≠ foldOf (yrN n) ∧ gapOf (yrN n) < hourOf (moN n) (dyN n) (ckN n) ∧ ¬ hourOf (moN n) (dyN n) (ckN n) < foldOf (yrN n) ∧ zonesOf (yrN n) (moN n) (dyN n) (ckN n) = [5] ∧
      spN (yrN n) ≤ daysOf (yrN n) (moN n) (dyN n) * 86400 + ckN n + 4 * 3600 ∧ ¬ daysOf (yrN n) (moN n) (dyN n) * 86400 + ckN n + 4 * 3600 < auN (yrN n) ∧ spN (yrN n) ≤ daysOf (yrN n) (moN n) (dyN n) * 86400 + ckN n + 5 * 3600 ∧ ¬ daysOf (yrN n) (moN n) (dyN n) * 86400 + ckN n + 5 * 3600 < auN (yrN n))
theorem zfacts (n : Int) : ZFacts n := by
  refine ⟨?_⟩
  have z := zone_at (y := yrN n) (mo_range n) ⟨(dy_range n).1, dy_long n⟩ (ck_range n)
  have hg : gapOf (yrN n) < foldOf (yrN n) := by unfold gapOf foldOf; omega
  have ha := au_sp (yrN n)
  unfold zonesOf
  generalize hourOf (moN n) (dyN n) (ckN n) = h at *
  generalize gapOf (yrN n) = g at *
  generalize foldOf (yrN n) = f at *
  generalize spN (yrN n) = S at *
  generalize auN (yrN n) = U at *
  generalize daysOf (yrN n) (moN n) (dyN n) * 86400 = D at *
  by_cases e1 : h = g
  · refine Or.inl ⟨e1, if_pos e1, ?_⟩; omega
  · rw [if_neg e1]
    by_cases e2 : h = f
    · rw [if_pos e2]; refine Or.inr (Or.inl ⟨e1, e2, rfl, ?_⟩); omega
    · rw [if_neg e2]
      by_cases e3 : g < h
      · by_cases e4 : h < f
        · rw [if_pos ⟨e3, e4⟩]; refine Or.inr (Or.inr (Or.inl ⟨e1, e2, e3, e4, rfl, ?_⟩)); omega
        · rw [if_neg (fun q => e4 q.2)]; refine Or.inr (Or.inr (Or.inr (Or.inr ⟨e1, e2, e3, e4, rfl, ?_⟩))); omega
      · rw [if_neg (fun q => e3 q.1)]; refine Or.inr (Or.inr (Or.inr (Or.inl ⟨e1, e2, e3, rfl, ?_⟩))); omega
theorem ck24 (n : Int) : 0 ≤ (ckN n).fdiv 3600 ∧ (ckN n).fdiv 3600 < 24 := by
  have := ck_range n
  rw [Int.fdiv_eq_ediv_of_nonneg _ (by decide)]; omega
theorem in7 (n : Int) : 0 ≤ n.fmod 7 ∧ n.fmod 7 < 7 := by rw [Int.fmod_eq_emod_of_nonneg _ (by decide)]; omega
end Mine
namespace Mine
theorem sak1 : List.getD [0, 3, 2, 5, 0, 3, 5, 1, 4, 6, 2, 4] (((1 : Int) - 1).toNat) (0 : Int) = 0 := rfl
theorem sak2 : List.getD [0, 3, 2, 5, 0, 3, 5, 1, 4, 6, 2, 4] (((2 : Int) - 1).toNat) (0 : Int) = 3 := rfl
/-- Sakamoto's row: by how much the days ahead of a month differ from it, by 7 -/
theorem sak_lo {m : Int} (y : Int) (h : m = 1 ∨ m = 2) : (dbm y m - List.getD [0, 3, 2, 5, 0, 3, 5, 1, 4, 6, 2, 4] (m - 1).toNat (0 : Int)) % 7 = 0 := by
  rcases h with h | h <;> subst h
  · rw [sak1, show dbm y 1 = 0 from rfl]; rfl
  · rw [sak2, show dbm y 2 = 31 from rfl]; rfl
theorem sak_hi {m : Int} (y : Int) (h : 3 ≤ m ∧ m ≤ 12) : (dbm y m - lp y - 1 - List.getD [0, 3, 2, 5, 0, 3, 5, 1, 4, 6, 2, 4] (m - 1).toNat (0 : Int)) % 7 = 0 := by
  have go : ∀ {b l t : Int} (k : Int), b = k + l → (k - 1 - t) % 7 = 0 → (b - l - 1 - t) % 7 = 0 := fun k h1 h2 => by
    subst h1; rw [show k + _ - _ - 1 = k - 1 by omega]; exact h2
  rcases (show m = 3 ∨ m = 4 ∨ m = 5 ∨ m = 6 ∨ m = 7 ∨ m = 8 ∨ m = 9 ∨ m = 10 ∨ m = 11 ∨ m = 12 by omega) with h | h | h | h | h | h | h | h | h | h <;> subst h
  · exact go 59 rfl rfl
  · exact go 90 rfl rfl
  · exact go 120 rfl rfl
  · exact go 151 rfl rfl
  · exact go 181 rfl rfl
  · exact go 212 rfl rfl
  · exact go 243 rfl rfl
  · exact go 273 rfl rfl
  · exact go 304 rfl rfl
  · exact go 334 rfl rfl
theorem name_is (y m d : Int) (hm : 1 ≤ m ∧ m ≤ 12) : nameOf y m d = daysOf y m d % 7 := by
  unfold nameOf movedOf daysOf
  rw [Int.fmod_eq_emod_of_nonneg _ (by decide), Int.fdiv_eq_ediv_of_nonneg _ (by decide), Int.fdiv_eq_ediv_of_nonneg _ (by decide), Int.fdiv_eq_ediv_of_nonneg _ (by decide)]
  by_cases h3 : m < 3
  · rw [if_pos (decide_eq_true h3), dby_is]
    have t := sak_lo y (m := m) (by omega)
    clear hm h3
    generalize List.getD [0, 3, 2, 5, 0, 3, 5, 1, 4, 6, 2, 4] (m - 1).toNat (0 : Int) = k at *
    generalize dbm y m = b at *
    generalize (y - 1) / 4 = p at *
    generalize (y - 1) / 100 = q at *
    generalize (y - 1) / 400 = r at *
    omega
  · rw [if_neg (fun h => h3 (of_decide_eq_true h))]
    have t := sak_hi y (m := m) (by omega)
    have hl := dby_leap y
    have el : (if isLeap y = true then (1 : Int) else 0) = lp y := rfl
    rw [el] at hl
    clear hm h3 el
    generalize List.getD [0, 3, 2, 5, 0, 3, 5, 1, 4, 6, 2, 4] (m - 1).toNat (0 : Int) = k at *
    generalize dbm y m = b at *
    generalize lp y = l at *
    generalize dby y = D at *
    generalize y / 4 = p at *
    generalize y / 100 = q at *
    generalize y / 400 = r at *
    omega
theorem wd_text : ∀ k : Fin 7, wdName (((k.val : Int) + 6) % 7) = Txt.slice (Str.ofString "SunMonTueWedThuFriSat") (some (3 * (k.val : Int))) (some (3 * (k.val : Int) + 3)) := by decide +kernel
theorem mo_text : ∀ k : Fin 12, moName ((k.val : Int) + 1) = Txt.slice (Str.ofString "JanFebMarAprMayJunJulAugSepOctNovDec") (some (3 * ((k.val : Int) + 1) - 3)) (some (3 * ((k.val : Int) + 1))) := by decide +kernel
theorem pad2_text : ∀ k : Fin 100, pad 2 (k.val : Int) = lawTwo (k.val : Int) := by decide +kernel
theorem pad2_is {n : Int} (h0 : 0 ≤ n) (h1 : n < 100) : pad 2 n = lawTwo n := by
  have h := pad2_text ⟨n.toNat, by omega⟩
  have e : ((n.toNat : Nat) : Int) = n := Int.toNat_of_nonneg h0
  rw [show ((⟨n.toNat, by omega⟩ : Fin 100).val : Int) = n from e] at h
  exact h
theorem mo_is {m : Int} (h : 1 ≤ m ∧ m ≤ 12) : moName m = Txt.slice (Str.ofString "JanFebMarAprMayJunJulAugSepOctNovDec") (some (3 * m - 3)) (some (3 * m)) := by
  have h' := mo_text ⟨(m - 1).toNat, by omega⟩
  have e : (((m - 1).toNat : Nat) : Int) + 1 = m := by omega
  rw [show ((⟨(m - 1).toNat, by omega⟩ : Fin 12).val : Int) + 1 = m from e] at h'
  exact h'
theorem wd_is (D : Int) : wdName ((D + 6).fmod 7) = Txt.slice (Str.ofString "SunMonTueWedThuFriSat") (some (3 * (D % 7))) (some (3 * (D % 7) + 3)) := by
  have h' := wd_text ⟨(D % 7).toNat, by omega⟩
  have e : (((D % 7).toNat : Nat) : Int) = D % 7 := Int.toNat_of_nonneg (by omega)
  rw [show ((⟨(D % 7).toNat, by omega⟩ : Fin 7).val : Int) = D % 7 from e] at h'
  rw [Int.fmod_eq_emod_of_nonneg _ (by decide), show (D + 6) % 7 = (D % 7 + 6) % 7 by omega]
  exact h'
theorem mul0 : ∀ k : Fin 5, Txt.mul (Str.ofString "0") (4 - (k.val : Int)) = ⟨(List.replicate (4 - k.val) 48).toArray⟩ := by decide +kernel
theorem mul_is (n : Nat) : Txt.mul (Str.ofString "0") (4 - (n : Int)) = ⟨(List.replicate (4 - n) 48).toArray⟩ := by
  by_cases h : n < 5
  · exact mul0 ⟨n, h⟩
  · have e : 4 - n = 0 := by omega
    rw [e]
    unfold Txt.mul
    rw [if_pos (by omega)]
    rfl
theorem pad4_is (n : Int) : pad 4 n = Txt.mul (Str.ofString "0") (4 - ((Str.ofString (toString n)).length : Int)) ++ Str.ofString (toString n) := by
  rw [mul_is]
  unfold pad dig
  apply PySem.Str.ext'
  rw [PySem.Str.cps_append]
  apply Array.toList_inj.mp
  simp [PySem.Str.length]
theorem minus_text : Str.ofString " " ++ Str.ofString "-0" = Str.ofString " -0" := by decide +kernel
theorem fmt_is {y m d c h : Int} (hm : 1 ≤ m ∧ m ≤ 12) (hd : 1 ≤ d ∧ d ≤ 31) (hc : 0 ≤ c ∧ c < 86400) :
    fmtLine y m d (c.fdiv 3600) ((c.fdiv 60).fmod 60) (c.fmod 60) ((daysOf y m d + 6).fmod 7) (Str.ofString "-0" ++ Str.ofString (toString h) ++ Str.ofString "00") = lawLine y m d c h := by
  have h1 : 0 ≤ c.fdiv 3600 ∧ c.fdiv 3600 < 100 := by rw [Int.fdiv_eq_ediv_of_nonneg c (by decide)]; omega
  have h2 : 0 ≤ (c.fdiv 60).fmod 60 ∧ (c.fdiv 60).fmod 60 < 100 := by rw [Int.fmod_eq_emod_of_nonneg _ (by decide)]; omega
  have h3 : 0 ≤ c.fmod 60 ∧ c.fmod 60 < 100 := by rw [Int.fmod_eq_emod_of_nonneg _ (by decide)]; omega
  unfold fmtLine lawLine
  rw [wd_is, name_is y m d hm, mo_is hm, pad2_is (by omega) (by omega), pad4_is, pad2_is h1.1 h1.2, pad2_is h2.1 h2.2, pad2_is h3.1 h3.2, ← minus_text]
  simp only [PySem.Str.append_assoc]
theorem fmt_law (n h : Int) :
    fmtLine (yrN n) (moN n) (dyN n) ((ckN n).fdiv 3600) (((ckN n).fdiv 60).fmod 60) ((ckN n).fmod 60) ((daysOf (yrN n) (moN n) (dyN n) + 6).fmod 7) (Str.ofString "-0" ++ Str.ofString (toString h) ++ Str.ofString "00") = lawLine (yrN n) (moN n) (dyN n) (ckN n) h :=
  fmt_is (mo_range n) (dy_range n) (ck_range n)
end Mine
namespace Mine
theorem wd0 {pre : List Int} {n : Int} {a b : List Dat} (hw : Wd pre a b) (z : zonesOf (yrN n) (moN n) (dyN n) (ckN n) = []) : Wd (pre ++ [n]) a b := by
  have := wd_step (n := n) hw
  rw [show numD n = [] by unfold numD; rw [z]; rfl, show figD n = [] by unfold figD; rw [z]; rfl, List.append_nil, List.append_nil] at this
  exact this
theorem wd1 {pre : List Int} {n h : Int} {a b : List Dat} {x y : Dat} (hw : Wd pre a b) (z : zonesOf (yrN n) (moN n) (dyN n) (ckN n) = [h]) (hx : x = numD1 (yrN n) (moN n) (dyN n) (ckN n) h) (hy : y = figD1 (yrN n) (moN n) (dyN n) (ckN n) h) : Wd (pre ++ [n]) (a ++ [x]) (b ++ [y]) := by
  have := wd_step (n := n) hw
  rw [show numD n = [x] by unfold numD; rw [z, hx]; rfl, show figD n = [y] by unfold figD; rw [z, hy]; rfl] at this
  exact this
theorem wd2 {pre : List Int} {n h k : Int} {a b : List Dat} {x y x' y' : Dat} (hw : Wd pre a b) (z : zonesOf (yrN n) (moN n) (dyN n) (ckN n) = [h, k]) (hx : x = numD1 (yrN n) (moN n) (dyN n) (ckN n) h) (hy : y = figD1 (yrN n) (moN n) (dyN n) (ckN n) h)
    (hx' : x' = numD1 (yrN n) (moN n) (dyN n) (ckN n) k) (hy' : y' = figD1 (yrN n) (moN n) (dyN n) (ckN n) k) : Wd (pre ++ [n]) (a ++ [x] ++ [x']) (b ++ [y] ++ [y']) := by
  have := wd_step (n := n) hw
  rw [show numD n = [x, x'] by unfold numD; rw [z, hx, hx']; rfl, show figD n = [y, y'] by unfold figD; rw [z, hy, hy']; rfl] at this
  simpa using this
theorem num_eq {n h : Int} (hh : h = 4 ∨ h = 5) : Dat.tuple [.int (daysOf (yrN n) (moN n) (dyN n) * 86400 + ckN n + h * 3600), .str (fmtLine (yrN n) (moN n) (dyN n) ((ckN n).fdiv 3600) (((ckN n).fdiv 60).fmod 60) ((ckN n).fmod 60) ((daysOf (yrN n) (moN n) (dyN n) + 6).fmod 7) (Str.ofString "-0" ++ Str.ofString (toString h) ++ Str.ofString "00"))] = numD1 (yrN n) (moN n) (dyN n) (ckN n) h := by
  unfold numD1; rw [fmt_law n h]
end Mine
namespace Mine
/-- one letter's tuple in the list by number, as the walk builds it -/
abbrev numW (n h : Int) : Dat := Dat.tuple [.int (daysOf (yrN n) (moN n) (dyN n) * 86400 + ckN n + h * 3600), .str (fmtLine (yrN n) (moN n) (dyN n) ((ckN n).fdiv 3600) (((ckN n).fdiv 60).fmod 60) ((ckN n).fmod 60) ((daysOf (yrN n) (moN n) (dyN n) + 6).fmod 7) (Str.ofString "-0" ++ Str.ofString (toString h) ++ Str.ofString "00"))]
abbrev figW (n h : Int) : Dat := Dat.tuple [.int (yrN n * 1000000 + hourOf (moN n) (dyN n) (ckN n)), .int h, .int ((ckN n).fmod 3600), .str (lawLine (yrN n) (moN n) (dyN n) (ckN n) h)]
theorem wd45 {pre : List Int} {n : Int} {a b : List Dat} (hw : Wd pre a b) (z : zonesOf (yrN n) (moN n) (dyN n) (ckN n) = [4, 5]) : Wd (pre ++ [n]) (a ++ [numW n 4, numW n 5]) (b ++ [figW n 4, figW n 5]) := by
  have := wd2 hw z (num_eq (n := n) (h := 4) (Or.inl rfl)) (rfl : figW n 4 = _) (num_eq (n := n) (h := 5) (Or.inr rfl)) (rfl : figW n 5 = _)
  simpa only [List.append_assoc, List.singleton_append] using this
theorem wd4 {pre : List Int} {n : Int} {a b : List Dat} (hw : Wd pre a b) (z : zonesOf (yrN n) (moN n) (dyN n) (ckN n) = [4]) : Wd (pre ++ [n]) (a ++ [numW n 4]) (b ++ [figW n 4]) :=
  wd1 hw z (num_eq (n := n) (h := 4) (Or.inl rfl)) (rfl : figW n 4 = _)
theorem wd5 {pre : List Int} {n : Int} {a b : List Dat} (hw : Wd pre a b) (z : zonesOf (yrN n) (moN n) (dyN n) (ckN n) = [5]) : Wd (pre ++ [n]) (a ++ [numW n 5]) (b ++ [figW n 5]) :=
  wd1 hw z (num_eq (n := n) (h := 5) (Or.inr rfl)) (rfl : figW n 5 = _)
end Mine
namespace Mine
open PySem.Builtin PySem.Builtin.Str
theorem dig_is {n : Int} (hn : 0 ≤ n) : dig n = (Nat.toDigits 10 n.toNat).map Char.toNat := by
  have e : ((n.toNat : Nat) : Int) = n := Int.toNat_of_nonneg hn
  unfold dig
  rw [← e]
  exact PySem.W.KIN.signs_num n.toNat
theorem dig_mem {n : Int} (hn : 0 ≤ n) {c : Nat} (hc : c ∈ dig n) : 48 ≤ c ∧ c ≤ 57 := by
  rw [dig_is hn] at hc
  obtain ⟨ch, hch, rfl⟩ := List.mem_map.mp hc
  have := Nat.isDigit_of_mem_toDigits (by decide) (by decide) hch
  simp only [Char.isDigit, Bool.and_eq_true, decide_eq_true_eq] at this
  obtain ⟨a, b⟩ := this
  have a' : (48 : UInt32).toNat ≤ ch.val.toNat := a
  have b' : ch.val.toNat ≤ (57 : UInt32).toNat := b
  exact ⟨a', b'⟩
theorem field_pad {f : Percent} {n : Int} {k : Nat} (h1 : f.ljust = false) (h2 : f.sign = false) (h3 : f.blank = false) (h4 : f.alt = false) (h5 : f.zero = true) (h6 : f.width = some k) (h7 : f.prec = none) (h8 : f.type = 100) (hn : 0 ≤ n) :
    percentField f true (dig n) = if k ≤ (dig n).length then none else some (List.replicate (k - (dig n).length) 48 ++ dig n) := by
  unfold percentField
  simp only [h1, h2, h3, h4, h5, h6, h7, h8, Option.all_some, Option.all_none, Bool.and_true, Bool.not_false, decide_eq_true_eq, Bool.false_and, Bool.false_eq_true, if_false, Bool.true_and, if_true]
  split
  · rfl
  · have hs : ∀ r, dig n ≠ 45 :: r ∧ dig n ≠ 43 :: r := by
      intro r
      refine ⟨fun e => ?_, fun e => ?_⟩
      · have := dig_mem hn (c := 45) (by rw [e]; exact List.mem_cons_self); omega
      · have := dig_mem hn (c := 43) (by rw [e]; exact List.mem_cons_self); omega
    simp only [Bool.not_true, Bool.false_eq_true, if_false]
    split
    · rename_i r h; exact absurd h (hs r).1
    · rename_i r h; exact absurd h (hs r).2
    · simp
theorem text_pad {f : Percent} {n : Int} (h1 : f.alt = false) (h2 : f.type = 100) (h3 : f.prec = none) (hn : 0 ≤ n) : percentInt f (decide (n < 0)) (Str.ofString (toString ((n.natAbs : Nat) : Int))).cps.toList = dig n := by
  have en : ((n.natAbs : Nat) : Int) = n := Int.natAbs_of_nonneg hn
  rw [KPc.int_text f h1 (Or.inl h2) h3 hn, en]
  rfl
theorem pad_len {k : Nat} {n : Int} (hn : 0 ≤ n) (hm : n < 10 ^ 10) (hk : k ≤ 10) : (pad k n).length ≤ 20 := by
  have h := toString_length_le (k := 10) hn (by decide) hm
  have e : (Str.ofString (toString n)).length = (dig n).length := by unfold dig PySem.Str.length; simp
  rw [e] at h
  unfold pad PySem.Str.length
  simp only [List.size_toArray, List.length_append, List.length_replicate]
  omega
section
variable {M : Model} {A : Around} {E : Value → Shared → Prop} {s : Shared} {l : List Nat} {p : List Value} {r : List Nat}
  {F : Nat → List Value × Writer × List Nat → Sem (ForInStep (List Value × Writer × List Nat))} {Q : List Value × Writer × List Nat → Shared → Prop}
  {w : Writer} {T : PySem.Str} {N : Nat} {o : Option Value}
theorem after_pad {n : Int} {k : Nat} (g : KPc.Good w T N) (hn : 0 ≤ n) (hm : n < 10 ^ 10) (hk : k ≤ 10) (h : ∀ w', KPc.Good w' (T ++ pad k n) (N + 20) → wpAny M A (forIn l (p, w', r) F) Q E s) :
    wpAny M A (forIn l (p, w.add (pad k n) none, r) F) Q E s :=
  h _ (KPc.good_mono (KPc.good_add g (KPc.obj_none rfl)) (Nat.add_le_add_left (pad_len hn hm hk) _))
end
end Mine
namespace Mine
open PySem.Builtin PySem.Builtin.Str
local macro_rules | `(tactic| walk_at $s:str) => `(tactic| k_extra $s)
theorem wp_eq {α : Type} {M : Model} {A : Around} {Q : α → Shared → Prop} {E : Value → Shared → Prop} {s : Shared} {t t' : Sem α} (e : t = t') (h : wpAny M A t' Q E s) : wpAny M A t Q E s := e ▸ h
theorem yield_eq {p : List Value} {w : Writer} {x x' : Str} {o o' : Option Value} {r : List Nat} (hx : x = x') (ho : o = o') : (pure (ForInStep.yield (p, w.add x o, r)) : Sem (ForInStep (List Value × Writer × List Nat))) = pure (ForInStep.yield (p, w.add x' o', r)) := by rw [hx, ho]
theorem pad_short {k : Nat} {n : Int} {txt : List Nat} (ht : txt = dig n) (h : k ≤ (dig n).length) : (⟨txt.toArray⟩ : Str) = pad k n := by
  unfold pad
  rw [ht, Nat.sub_eq_zero_of_le h]
  rfl
theorem obj_end {r : List Nat} {v : Str} {t : Tok} : KPc.Obj (if r.isEmpty = true then some (Value.str v t) else none) v := by
  split
  · exact KPc.obj_some rfl
  · exact KPc.obj_none rfl
abbrev FStep := Nat → List Value × Writer × List Nat → Sem (ForInStep (List Value × Writer × List Nat))
def StLit (M : Model) (A : Around) (E : Value → Shared → Prop) (s : Shared) (F : FStep) (cs : List Nat) (x : Str) : Prop :=
  ∀ (i : Nat) (l : List Nat) (p : List Value) (r : List Nat) (w : Writer) (T : Str) (N : Nat) (tk : Nat) (Q : List Value × Writer × List Nat → Shared → Prop), KPc.Good w T N → N ≤ 16777216 →
    (∀ w' tk', KPc.Good w' (T ++ x) (N + 1000) → wpAny M A (forIn l (p, w', 37 :: r) F) Q E { s with toks := tk' }) → wpAny M A (forIn (i :: l) (p, w, cs ++ 37 :: r) F) Q E { s with toks := tk }
def StStr (M : Model) (A : Around) (E : Value → Shared → Prop) (s : Shared) (F : FStep) : Prop :=
  ∀ (v : Str) (t : Tok) (i : Nat) (l : List Nat) (p : List Value) (r : List Nat) (w : Writer) (T : Str) (N : Nat) (tk : Nat) (Q : List Value × Writer × List Nat → Shared → Prop), v.length ≤ 1000 → KPc.Good w T N → N ≤ 16777216 →
    (∀ w' tk', KPc.Good w' (T ++ v) (N + 1000) → wpAny M A (forIn l (p, w', r) F) Q E { s with toks := tk' }) → wpAny M A (forIn (i :: l) (.str v t :: p, w, 37 :: 115 :: r) F) Q E { s with toks := tk }
def StPad (M : Model) (A : Around) (E : Value → Shared → Prop) (s : Shared) (F : FStep) (c : Nat) (k : Nat) : Prop :=
  ∀ (n : Int) (t : Tok) (i : Nat) (l : List Nat) (p : List Value) (r : List Nat) (w : Writer) (T : Str) (N : Nat) (tk : Nat) (Q : List Value × Writer × List Nat → Shared → Prop), 0 ≤ n → n < 10 ^ 10 → KPc.Good w T N → N ≤ 16777216 →
    (∀ w' tk', KPc.Good w' (T ++ pad k n) (N + 1000) → wpAny M A (forIn l (p, w', r) F) Q E { s with toks := tk' }) → wpAny M A (forIn (i :: l) (.int n t :: p, w, 37 :: 48 :: c :: 100 :: r) F) Q E { s with toks := tk }
theorem chain {M : Model} {A : Around} {E : Value → Shared → Prop} {s : Shared} {F : FStep} {Q : List Value × Writer × List Nat → Shared → Prop} {t1 t2 t3 t4 t5 t6 t7 t8 : Tok} {a c z : Str} {d y hh mi ss : Int}
    (ha : a.length ≤ 1000) (hc : c.length ≤ 1000) (hz : z.length ≤ 1000) (hd : 0 ≤ d ∧ d < 100) (hy : 0 ≤ y ∧ y < 100000) (hh9 : 0 ≤ hh ∧ hh < 100) (hmi : 0 ≤ mi ∧ mi < 100) (hss : 0 ≤ ss ∧ ss < 100)
    (L1 : StLit M A E s F [44, 32] (Str.ofString ", ")) (L2 : StLit M A E s F [32] (Str.ofString " ")) (L3 : StLit M A E s F [58] (Str.ofString ":")) (S : StStr M A E s F) (P2 : StPad M A E s F 50 2) (P4 : StPad M A E s F 52 4)
    (done : ∀ w' tk', KPc.Good w' (a ++ Str.ofString ", " ++ pad 2 d ++ Str.ofString " " ++ c ++ Str.ofString " " ++ pad 4 y ++ Str.ofString " " ++ pad 2 hh ++ Str.ofString ":" ++ pad 2 mi ++ Str.ofString ":" ++ pad 2 ss ++ Str.ofString " " ++ z) 15000 → wpAny M A (forIn (List.range' 15 19 1) ([], w', []) F) Q E { s with toks := tk' }) :
    ∀ w', KPc.Good w' Str.empty 0 → wpAny M A (forIn (List.range' 0 34 1) ([.str a t1, .int d t2, .str c t3, .int y t4, .int hh t5, .int mi t6, .int ss t7, .str z t8], w', [37, 115, 44, 32, 37, 48, 50, 100, 32, 37, 115, 32, 37, 48, 52, 100, 32, 37, 48, 50, 100, 58, 37, 48, 50, 100, 58, 37, 48, 50, 100, 32, 37, 115]) F) Q E s := by
  have up : ∀ {n : Int}, n < 100 → n < 10 ^ 10 := fun h => Int.lt_trans h (by decide)
  intro w g
  show wpAny M A _ Q E { s with toks := s.toks }
  refine S _ _ _ _ _ _ _ _ _ _ _ ha g (by decide) fun w tk g => ?_
  rw [KPc.empty_app] at g
  refine L1 _ _ _ _ _ _ _ _ _ g (by decide) fun w tk g => ?_
  refine P2 _ _ _ _ _ _ _ _ _ _ _ hd.1 (up hd.2) g (by decide) fun w tk g => ?_
  refine L2 _ _ _ _ _ _ _ _ _ g (by decide) fun w tk g => ?_
  refine S _ _ _ _ _ _ _ _ _ _ _ hc g (by decide) fun w tk g => ?_
  refine L2 _ _ _ _ _ _ _ _ _ g (by decide) fun w tk g => ?_
  refine P4 _ _ _ _ _ _ _ _ _ _ _ hy.1 (Int.lt_trans hy.2 (by decide)) g (by decide) fun w tk g => ?_
  refine L2 _ _ _ _ _ _ _ _ _ g (by decide) fun w tk g => ?_
  refine P2 _ _ _ _ _ _ _ _ _ _ _ hh9.1 (up hh9.2) g (by decide) fun w tk g => ?_
  refine L3 _ _ _ _ _ _ _ _ _ g (by decide) fun w tk g => ?_
  refine P2 _ _ _ _ _ _ _ _ _ _ _ hmi.1 (up hmi.2) g (by decide) fun w tk g => ?_
  refine L3 _ _ _ _ _ _ _ _ _ g (by decide) fun w tk g => ?_
  refine P2 _ _ _ _ _ _ _ _ _ _ _ hss.1 (up hss.2) g (by decide) fun w tk g => ?_
  refine L2 _ _ _ _ _ _ _ _ _ g (by decide) fun w tk g => ?_
  refine S _ _ _ _ _ _ _ _ _ _ _ hz g (by decide) fun w tk g => ?_
  exact done w tk g
theorem stPad_of {M : Model} {A : Around} {E : Value → Shared → Prop} {s : Shared} {F : FStep} {c k : Nat} (hk : k ≤ 10)
    (h : ∀ (n : Int) (t : Tok) (i : Nat) (p : List Value) (r : List Nat) (w : Writer) (tk : Nat) (R : ForInStep (List Value × Writer × List Nat) → Shared → Prop), 0 ≤ n → n < 10 ^ 10 → ¬ (tooLong w.total = true) →
      (∀ tk', R (ForInStep.yield (p, w.add (pad k n) none, r)) { s with toks := tk' }) → wpAny M A (F i (.int n t :: p, w, 37 :: 48 :: c :: 100 :: r)) R E { s with toks := tk }) : StPad M A E s F c k :=
  fun n t i _ p r w _ _ tk _ h0 h1 g hN hh => KPc.turn (h n t i p r w tk _ h0 h1 (KPc.short_good g hN) fun tk' => after_pad g h0 h1 hk fun w' g' => hh w' tk' (KPc.good_mono g' (Nat.add_le_add_left (by decide) _)))
set_option maxRecDepth 100000
set_option maxHeartbeats 100000000
theorem fmt_meets {b : Addr} {t t1 t2 t3 t4 t5 t6 t7 t8 : Tok} {a c z : Str} {d y hh mi ss : Int} (ha : a.length ≤ 1000) (hc : c.length ≤ 1000) (hz : z.length ≤ 1000) (hd : 0 ≤ d ∧ d < 100) (hy : 0 ≤ y ∧ y < 100000) (hh9 : 0 ≤ hh ∧ hh < 100) (hmi : 0 ≤ mi ∧ mi < 100) (hss : 0 ≤ ss ∧ ss < 100) :
    Meets («str.__mod__» ⟨[.str (Str.mk #[37, 115, 44, 32, 37, 48, 50, 100, 32, 37, 115, 32, 37, 48, 52, 100, 32, 37, 48, 50, 100, 58, 37, 48, 50, 100, 58, 37, 48, 50, 100, 32, 37, 115]) t, .ref b], []⟩)
      (fun _ R s => IsTup s.heap b #[.str a t1, .int d t2, .str c t3, .int y t4, .int hh t5, .int mi t6, .int ss t7, .str z t8] ∧ ∀ t' k, R (.ok (.ret (.str (a ++ Str.ofString ", " ++ pad 2 d ++ Str.ofString " " ++ c ++ Str.ofString " " ++ pad 4 y ++ Str.ofString " " ++ pad 2 hh ++ Str.ofString ":" ++ pad 2 mi ++ Str.ofString ":" ++ pad 2 ss ++ Str.ofString " " ++ z) t'))) { s with toks := k }) := by
  k_with_none
  k_with "turn lit" => ((
      intro i l p r w T N tk Q g hN h
      refine KPc.turn ?_
      refine wpAny_ite (KPc.ite_no (KPc.short_good g hN) ?_)
      (repeat kpc_if)
      refine wpAny_pure ?_
      refine KPc.after_add g (by kpc_text) (by kpc_obj) ?_
      exact fun w' g' => h w' _ (KPc.good_mono g' (Nat.add_le_add_left (by decide +kernel) _))))
  k_with "turn str" => ((
      intro v t i l p r w T N tk Q hv g hN h
      refine KPc.turn ?_
      refine wpAny_ite (KPc.ite_no (KPc.short_good g hN) ?_)
      (repeat kpc_if)
      refine wpAny_bind ?_; refine wpAny_holding ?_; (repeat kpc_if); kpt_conv; refine wpAny_pure ?_; refine wpAny_pure ?_
      refine KPc.after_str g hv obj_end ?_
      exact fun w' g' => h w' _ g'))
  k_with "turn pad 2" => ((
      refine stPad_of (by decide) ?_
      intro n t i p r w tk R h0 h1 hl hR
      refine wpAny_ite (KPc.ite_no hl ?_)
      (repeat kpc_if)
      refine wpAny_bind ?_; refine wpAny_holding ?_; (repeat kpc_if); kpt_conv; refine wpAny_pure ?_
      dsimp only
      generalize hk : percentField _ _ _ = o
      have h2 := hk.symm.trans ((congrArg (percentField _ true) (text_pad rfl rfl rfl h0)).trans (field_pad (k := 2) rfl rfl rfl rfl rfl rfl rfl rfl h0))
      clear hk
      refine wp_eq (t' := pure (ForInStep.yield (p, Writer.add w (pad 2 n) none, r))) ?q9padE (wpAny_pure (hR _))
      case q9padE =>
        split at h2
        · rename_i hc
          subst h2
          refine yield_eq (pad_short ?q9padT hc) ?q9padO
          case q9padT => exact text_pad rfl rfl rfl h0
          case q9padO => first | rfl | exact ite_self _
        · subst h2
          exact yield_eq rfl rfl))
  k_with "turn pad 4" => ((
      refine stPad_of (by decide) ?_
      intro n t i p r w tk R h0 h1 hl hR
      refine wpAny_ite (KPc.ite_no hl ?_)
      (repeat kpc_if)
      refine wpAny_bind ?_; refine wpAny_holding ?_; (repeat kpc_if); kpt_conv; refine wpAny_pure ?_
      dsimp only
      generalize hk : percentField _ _ _ = o
      have h2 := hk.symm.trans ((congrArg (percentField _ true) (text_pad rfl rfl rfl h0)).trans (field_pad (k := 4) rfl rfl rfl rfl rfl rfl rfl rfl h0))
      clear hk
      refine wp_eq (t' := pure (ForInStep.yield (p, Writer.add w (pad 4 n) none, r))) ?q9padE (wpAny_pure (hR _))
      case q9padE =>
        split at h2
        · rename_i hc
          subst h2
          refine yield_eq (pad_short ?q9padT hc) ?q9padO
          case q9padT => exact text_pad rfl rfl rfl h0
          case q9padO => first | rfl | exact ite_self _
        · subst h2
          exact yield_eq rfl rfl))
  apply KPt.meets_tup
  intro _ _ _ _ _ _ kptH _
  obtain ⟨kptO, kptG, kptC, kptN, kptD⟩ := kptH
  rw [KPt.entry_is_r]
  unfold Builtin.Str.percentFormat
  refine wpAny_bind (wpAny_isInstance (T := "tuple") ⟨kptO, kptG, kptC⟩ KPt.sub_tt ?_)
  refine wpAny_bind (KPt.asStr_ref kptG kptD ?_)
  refine wpAny_bind (KPt.fills_ref ⟨kptO, kptG, kptC⟩ ?_)
  intro _
  kpc_if
  refine wpAny_bind (wpAny_seqItems kptG kptD ?_)
  refine wpAny_bind (wpAny_pure ?_)
  refine wpAny_bind ?_
  rw [KPc.range_list]
  refine KPc.start ?_
  refine chain ha hc hz hd hy hh9 hmi hss ?L1 ?L2 ?L3 ?S ?P2 ?P4 ?done
  case L1 => walk_at "turn lit"
  case L2 => walk_at "turn lit"
  case L3 => walk_at "turn lit"
  case S => walk_at "turn str"
  case P2 => walk_at "turn pad 2"
  case P4 => walk_at "turn pad 4"
  case done =>
    intro w' tk' g
    refine KPc.turn ?_
    kpc_check
    (repeat kpc_if)
    kpc_close
end Mine
namespace Mine
section
variable {α β : Type}
/-- the tree's answer where each question has a plain answer -/
def runT (lt : Nat → Nat → Bool) : KasT α → α
  | .ret a => a
  | .ask i j k => runT lt (k (lt i j))
/-- each question lies below n, and the answer is P -/
def Asks (n : Nat) (P : α → Prop) : KasT α → Prop
  | .ret a => P a
  | .ask i j k => i < n ∧ j < n ∧ ∀ b, Asks n P (k b)
theorem asks_bind {n : Nat} {P : β → Prop} {f : α → KasT β} : ∀ (t : KasT α), Asks n (fun a => Asks n P (f a)) t → Asks n P (t.bind f)
  | .ret _, h => h
  | .ask _ _ k, h => ⟨h.1, h.2.1, fun b => asks_bind (k b) (h.2.2 b)⟩
theorem asks_mono {n : Nat} {P P' : α → Prop} (hp : ∀ a, P a → P' a) : ∀ (t : KasT α), Asks n P t → Asks n P' t
  | .ret a, h => hp a h
  | .ask _ _ k, h => ⟨h.1, h.2.1, fun b => asks_mono hp (k b) (h.2.2 b)⟩
theorem asks_run {n : Nat} {P : α → Prop} (lt : Nat → Nat → Bool) : ∀ (t : KasT α), Asks n P t → P (runT lt t)
  | .ret _, h => h
  | .ask i j k, h => asks_run lt (k (lt i j)) (h.2.2 _)
theorem run_congr {n : Nat} {P : α → Prop} {lt lt' : Nat → Nat → Bool} (e : ∀ i j, i < n → j < n → lt i j = lt' i j) : ∀ (t : KasT α), Asks n P t → runT lt t = runT lt' t
  | .ret _, _ => rfl
  | .ask i j k, h => by
    show runT lt (k (lt i j)) = runT lt' (k (lt' i j))
    rw [← e i j h.1 h.2.1]
    exact run_congr e _ (h.2.2 _)
theorem runs_wp {n : Nat} {P : α → Prop} {cmp : Nat → Nat → (Bool → Shared → Prop) → Shared → Prop} {lt : Nat → Nat → Bool} {s : Shared} {Q : α → Shared → Prop} (hc : ∀ i j C, i < n → j < n → C (lt i j) s → cmp i j C s) :
    ∀ (t : KasT α), Asks n P t → Q (runT lt t) s → t.kasWp cmp Q s
  | .ret _, _, hq => hq
  | .ask i j k, h, hq => hc i j _ h.1 h.2.1 (runs_wp hc (k (lt i j)) (h.2.2 _) hq)
end
abbrev Pm (n : Nat) (p : Array Nat) : Prop := p.Perm (List.toArray (List.range n))
theorem pm_lt {n : Nat} {p : Array Nat} (h : Pm n p) (h0 : 0 < n) (i : Nat) : p.getD i 0 < n := by
  by_cases hi : i < p.size
  · have e : p.getD i 0 = p[i] := by simp [Array.getD, hi]
    rw [e]
    have : p[i] ∈ (List.toArray (List.range n)) := h.mem_iff.mp (Array.getElem_mem hi)
    simpa using this
  · have e : p.getD i 0 = 0 := by simp [Array.getD, hi]
    rw [e]; exact h0
theorem pm_rev {n : Nat} {p : Array Nat} (h : Pm n p) (i j : Nat) : Pm n (kas_rev p i j) := (foldl_swaps_perm _ _ _ _).trans h
theorem pm_bub {n : Nat} {p : Array Nat} (h : Pm n p) (i j : Nat) : Pm n (bubble p i j) := (bubble_perm _ _ _).trans h
section
variable {N : Nat} (h0 : 0 < N)
include h0
theorem asks_asc {p : Array Nat} (h : Pm N p) : ∀ f n, Asks N (fun _ => True) (kas_asc p f n)
  | 0, _ => True.intro
  | f + 1, n => ⟨pm_lt h h0 _, pm_lt h h0 _, fun b => by
    cases b
    · exact asks_asc h f (n + 1)
    · exact True.intro⟩
theorem asks_desc : ∀ f (p : Array Nat) n q, Pm N p → Asks N (fun r => Pm N r.1) (kas_desc f p n q)
  | 0, _, _, _, h => h
  | f + 1, p, n, q, h => ⟨pm_lt h h0 _, pm_lt h h0 _, fun b => by
    cases b
    · refine ⟨pm_lt h h0 _, pm_lt h h0 _, fun d => ?_⟩
      cases d
      · exact asks_desc f p (n + 1) (q + 1) h
      · exact h
    · show Asks N _ (if q > 0 then _ else _)
      split
      · exact asks_desc f _ _ _ (pm_rev h _ _)
      · exact asks_desc f _ _ _ h⟩
theorem asks_tail3 {p : Array Nat} (h : Pm N p) (n nrem : Nat) : Asks N (fun r => Pm N r.2) (kas_tail3 n nrem p) :=
  asks_bind _ (asks_mono (fun _ _ => (pm_rev h _ _ : Pm N (kas_rev p 0 n))) _ (asks_asc h0 (pm_rev h 0 n) _ _))
theorem asks_descPart {p : Array Nat} (h : Pm N p) (n nrem : Nat) : Asks N (fun r => Pm N r.2) (kas_descPart n nrem p) := by
  refine asks_bind _ (asks_mono (fun r hr => ?_) _ (asks_desc h0 _ p _ _ h))
  show Asks N _ (if r.2.2 > 0 then _ else _)
  split
  · exact asks_tail3 h0 (pm_rev hr _ _) _ _
  · exact asks_tail3 h0 hr _ _
theorem asks_count {p : Array Nat} (h : Pm N p) (nrem : Nat) : Asks N (fun r => Pm N r.2) (kas_count nrem p) := by
  refine asks_bind _ (asks_mono (fun n _ => ?_) _ (asks_asc h0 h _ _))
  show Asks N _ (if (n == nrem) = true then _ else _)
  split
  · exact h
  · split
    · refine ⟨pm_lt h h0 _, pm_lt h h0 _, fun b => ?_⟩
      cases b
      · exact asks_descPart h0 (pm_rev h _ _) _ _
      · exact h
    · exact asks_descPart h0 h _ _
theorem asks_place {p : Array Nat} (h : Pm N p) (k : Nat) : ∀ f l r, Asks N (fun _ => True) (kas_place p k f l r)
  | 0, _, _ => True.intro
  | f + 1, l, r => by
    show Asks N _ (if l ≥ r then _ else _)
    split
    · exact True.intro
    · refine ⟨pm_lt h h0 _, pm_lt h h0 _, fun b => ?_⟩
      cases b
      · exact asks_place h k f _ _
      · exact asks_place h k f _ _
theorem asks_bin : ∀ f (p : Array Nat) k, Pm N p → Asks N (fun r => Pm N r) (kas_bin f p k)
  | 0, _, _, h => h
  | f + 1, p, k, h => asks_bind _ (asks_mono (fun l _ => asks_bin f _ _ (pm_bub h k (k - l))) _ (asks_place h0 h k _ _ _))
theorem asks_sort : Asks N (fun p => Pm N p) (kas_sort N) := by
  refine asks_bind _ (asks_mono (fun r hr => ?_) _ (asks_count h0 (Array.Perm.refl _) _))
  show Asks N _ (if r.1 < N then _ else _)
  split
  · exact asks_bin h0 _ _ _ hr
  · exact hr
end
end Mine
namespace Mine
/-- two rows of atoms, kind by kind alike -/
inductive Kin : List Dat → List Dat → Prop
  | nil : Kin [] []
  | int (a b : Int) {r q : List Dat} : Kin r q → Kin (.int a :: r) (.int b :: q)
  | str (a b : Str) {r q : List Dat} : Kin r q → Kin (.str a :: r) (.str b :: q)
def lexLt : List Dat → List Dat → Bool
  | .int a :: r, .int b :: q => if (a == b) = true then lexLt r q else decide (a < b)
  | .str a :: r, .str b :: q => if decide (a = b) = true then lexLt r q else decide (a.cps.toList < b.cps.toList)
  | _, _ => false
section
variable {prog : Program} {w : World} {A : Around} {E : Value → Shared → Prop} {s : Shared} {h₀ : Heap} {L : Addr} {m : Str → Option Value} {news : List (Addr × Obj)}
theorem one_int (f : Bool) {a b : Int} {t u : Tok} {Q : Bool → Shared → Prop} (h : Q (decide (a < b)) s) : wpAny (model prog w) A (oneLt' f (.int a t) (.int b u)) Q E s := by
  cases f
  · exact kat_one _ _ (lt_int h)
  · exact oneLt_int h
theorem one_str (f : Bool) {a b : Str} {t u : Tok} {Q : Bool → Shared → Prop} (h : Q (decide (a.cps.toList < b.cps.toList)) s) : wpAny (model prog w) A (oneLt' f (.str a t) (.str b u)) Q E s := by
  cases f
  · exact kat_one _ _ (lt_str h)
  · exact oneLt_str h
theorem lex_of {b : Bool} {Q : Bool → Shared → Prop} {news' : List (Addr × Obj)} : ∀ {ds es : List Dat} {vs ws : List Value} (i : Nat), Kin ds es → DatAll news vs ds → DatAll news' ws es → Q (lexLt ds es) s → KatLex prog w A b false Q (vs.zip ws) i s
  | _, _, _, _, _, .nil, .nil, .nil, h => kat_nil h
  | _, _, _, _, i, .int a c k, .cons hv rv, .cons hw rw', h => by
    cases hv with
    | int _ t =>
      cases hw with
      | int _ u =>
        refine kat_cons (wpAny_eqBool_int ?_)
        cases e : (a == c) with
        | true => exact kat_yes (lex_of (i + 1) k rv rw' (by unfold lexLt at h; rw [e, if_pos rfl] at h; exact h))
        | false => exact kat_no (one_int _ (by unfold lexLt at h; rw [e, if_neg (by decide)] at h; exact h))
  | _, _, _, _, i, .str a c k, .cons hv rv, .cons hw rw', h => by
    cases hv with
    | str _ t =>
      cases hw with
      | str _ u =>
        refine kat_cons (wpAny_eqBool_str ?_)
        cases e : decide (a = c) with
        | true => exact kat_yes (lex_of (i + 1) k rv rw' (by unfold lexLt at h; rw [e, if_pos rfl] at h; exact h))
        | false => exact kat_no (one_str _ (by unfold lexLt at h; rw [e, if_neg (by decide)] at h; exact h))
theorem Kin.length {ds es : List Dat} (h : Kin ds es) : ds.length = es.length := by
  induction h with
  | nil => rfl
  | int _ _ _ ih => simp [ih]
  | str _ _ _ ih => simp [ih]
theorem key_of {b : Bool} {v u : Value} {ds es : List Dat} {Q : Bool → Shared → Prop} (N : News h₀ L s.heap news) (hv : DatIn news v (.tuple ds)) (hu : DatIn news u (.tuple es)) (k : Kin ds es) (h : Q (lexLt ds es) s) :
    wpAny (model prog w) A (keyLt' (tuples' b) v u) Q E s := by
  cases hv with
  | @tuple a1 vs1 n1 _ m1 r1 =>
    cases hu with
    | @tuple a2 vs2 n2 _ m2 r2 =>
      refine kat_lt (N _ m1).1 rfl (N _ m2).1 rfl ?_
      have e1 := r1.length
      have e2 := r2.length
      have e3 := k.length
      have e : decide ((List.toArray vs1).size < (List.toArray vs2).size) = false := decide_eq_false (by rw [List.size_toArray, List.size_toArray]; omega)
      rw [e]
      exact lex_of 0 k r1 r2 h
theorem firsts_of {h : Heap} (N : News h₀ L h news) : ∀ {vs : List Value} {ds : List (List Dat)}, DatAll news vs (ds.map Dat.tuple) → (∀ d ∈ ds, ∃ a r, d = Dat.int a :: r) → ∃ fs, KatTups h vs fs ∧ fs.length = ds.length ∧ ∀ v ∈ fs, ∃ a t, v = Value.int a t
  | _, [], .nil, _ => ⟨[], trivial, rfl, fun _ h => nomatch h⟩
  | _, d :: ds, .cons hv r, hf => by
    obtain ⟨fs, k, hl, hi⟩ := firsts_of N r fun d hd => hf d (List.mem_cons_of_mem _ hd)
    obtain ⟨a, q, rfl⟩ := hf d List.mem_cons_self
    cases hv with
    | tuple m1 r1 =>
      cases r1 with
      | cons h1 _ =>
        cases h1 with
        | int _ t =>
          refine ⟨.int a t :: fs, KatTups.cons (N _ m1).1 rfl rfl rfl k, by simp [hl], fun v hv => ?_⟩
          rcases List.mem_cons.mp hv with rfl | hv
          · exact ⟨_, _, rfl⟩
          · exact hi v hv
/-- the order in which sorted hands the rows back -/
def ordOf (ds : List (List Dat)) : List Nat := (runT (fun i j => lexLt (ds.getD i []) (ds.getD j [])) (kas_sort ds.length)).toList
theorem ordOf_lt {ds : List (List Dat)} (h : 0 < ds.length) : ∀ i ∈ ordOf ds, i < ds.length := by
  intro i hi
  have p := asks_run (fun i j => lexLt (ds.getD i []) (ds.getD j [])) _ (asks_sort h)
  have : i ∈ (List.toArray (List.range ds.length)) := p.mem_iff.mp (Array.mem_def.mpr hi)
  simpa using this
theorem ordOf_len {ds : List (List Dat)} (h : 0 < ds.length) : (ordOf ds).length = ds.length := by
  have p := asks_run (fun i j => lexLt (ds.getD i []) (ds.getD j [])) _ (asks_sort h)
  have := p.size_eq
  unfold ordOf
  rw [Array.length_toList, this]
  simp
theorem ordOf_congr {ds es : List (List Dat)} (h : 0 < ds.length) (hl : ds.length = es.length) (e : ∀ i j, i < ds.length → j < ds.length → lexLt (ds.getD i []) (ds.getD j []) = lexLt (es.getD i []) (es.getD j [])) : ordOf ds = ordOf es := by
  unfold ordOf
  rw [← hl]
  exact congrArg Array.toList (run_congr e _ (asks_sort h))
theorem DatAll.getD {vs : List Value} {ds : List (List Dat)} (h : DatAll news vs (ds.map Dat.tuple)) {i : Nat} (hi : i < ds.length) : DatIn news (vs.getD i Value.none) (.tuple (ds.getD i [])) := by
  obtain ⟨v, hv, hd⟩ := h.get (k := i) (by simpa using hi)
  have e : vs.getD i Value.none = v := by rw [List.getD_eq_getElem?_getD, hv]; rfl
  have e2 : ds.getD i [] = ds[i] := by rw [List.getD_eq_getElem?_getD, List.getElem?_eq_getElem hi]; rfl
  rw [e, e2]
  simpa using hd
theorem sorted_dat {l : Addr} {n : Nat} {vs : List Value} {ds : List (List Dat)} {Q : Value → Shared → Prop} (F : Fr h₀ L s.heap m) (N : News h₀ L s.heap news) (hl : (l, W.listOf vs.toArray n) ∈ news)
    (hd : DatAll news vs (ds.map Dat.tuple)) (hk : ∀ d ∈ ds, ∀ e ∈ ds, Kin d e) (hf : ∀ d ∈ ds, ∃ a r, d = Dat.int a :: r) (h2 : 2 ≤ ds.length) (h64 : ds.length < 64)
    (h : ∀ D c h', Fr h₀ L h' m → News h₀ L h' ((D, W.listOf (List.toArray ((ordOf ds).map fun i => vs.getD i Value.none)) c) :: news) → (∀ q ∈ news, q.1 < D) → Q (.ref D) { s with heap := h' }) :
    wpAny (model prog w) A (call (.builtin "sorted") [.ref l]) Q E s := by
  have hlen : vs.length = ds.length := by simpa using hd.length
  refine kat_sorted F N ⟨_, (N _ hl).1, rfl, n, rfl⟩ (by omega) (by omega) fun D e1 h' F' N' lo => ?_
  have N0 : News h₀ L h' news := fun p hp => N' p (List.mem_cons_of_mem _ hp)
  obtain ⟨fs, k, hfl, hi⟩ := firsts_of N0 hd hf
  refine kat_kind (T := .type "int") (s := { s with heap := h' }) k (by omega) (fun v hv => ?_) rfl ?_
  · obtain ⟨a, t, rfl⟩ := hi v hv
    exact Looks.of_pure rfl
  · rw [hlen]
    refine runs_wp (n := ds.length) (P := fun p => Pm ds.length p) (lt := fun i j => lexLt (ds.getD i []) (ds.getD j [])) (fun i j C hi hj hC => ?_) _ (asks_sort (by omega)) ?_
    · have mi : ds.getD i [] ∈ ds := by rw [List.getD_eq_getElem?_getD, List.getElem?_eq_getElem hi]; exact List.getElem_mem hi
      have mj : ds.getD j [] ∈ ds := by rw [List.getD_eq_getElem?_getD, List.getElem?_eq_getElem hj]; exact List.getElem_mem hj
      exact key_of (s := { s with heap := h' }) N0 (DatAll.getD hd hi) (DatAll.getD hd hj) (hk _ mi _ mj) hC
    · exact KasFin.intro F' N' (.head fun p hp => Nat.ne_of_lt (lo p hp)) fun h'' c F'' N'' => h D c h'' F'' N'' lo
end
end Mine
namespace Mine
/-- a letter: a number and its zone -/
abbrev Let := Int × Int
def momOf (l : Let) : Int := daysOf (yrN l.1) (moN l.1) (dyN l.1) * 86400 + ckN l.1 + l.2 * 3600
def figOf (l : Let) : Int := yrN l.1 * 1000000 + hourOf (moN l.1) (dyN l.1) (ckN l.1)
def linOf (l : Let) : Str := lawLine (yrN l.1) (moN l.1) (dyN l.1) (ckN l.1) l.2
def letN (n : Int) : List Let := (zonesOf (yrN n) (moN n) (dyN n) (ckN n)).map fun h => (n, h)
def lets (ns : List Int) : List Let := ns.flatMap letN
def numRow (l : Let) : List Dat := [.int (momOf l), .str (linOf l)]
def figRow (l : Let) : List Dat := [.int (figOf l), .int l.2, .int ((ckN l.1).fmod 3600), .str (linOf l)]
theorem numD_lets (n : Int) : numD n = (letN n).map fun l => Dat.tuple (numRow l) := by
  unfold numD letN; rw [List.map_map]; rfl
theorem figD_lets (n : Int) : figD n = (letN n).map fun l => Dat.tuple (figRow l) := by
  unfold figD letN; rw [List.map_map]; rfl
theorem nums_lets (ns : List Int) : ns.flatMap numD = ((lets ns).map numRow).map Dat.tuple := by
  unfold lets
  induction ns with
  | nil => rfl
  | cons n ns ih => simp only [List.flatMap_cons, ih, numD_lets, List.map_append, List.map_map, Function.comp_def]
theorem figs_lets (ns : List Int) : ns.flatMap figD = ((lets ns).map figRow).map Dat.tuple := by
  unfold lets
  induction ns with
  | nil => rfl
  | cons n ns ih => simp only [List.flatMap_cons, ih, figD_lets, List.map_append, List.map_map, Function.comp_def]
theorem dby_next (y : Int) : dby (y + 1) = dby y + 365 + lp y := by
  have h := dby_leap y
  have e : (if isLeap y = true then (1 : Int) else 0) = lp y := rfl
  rw [e] at h
  rw [dby_is (y + 1)]
  simp only [Int.add_sub_cancel]
  rw [dby_is] at h ⊢
  omega
theorem dby_mono {y z : Int} (h : y < z) : dby y + 365 + lp y ≤ dby z := by
  rw [← dby_next, dby_is, dby_is]; omega
/-- the days of a year lie within it, the months one behind the other -/
theorem mon_step (y : Int) {m : Int} (hm : 1 ≤ m ∧ m ≤ 11) : dbm y m + lgM y m = dbm y (m + 1) := by
  have go : ∀ {a b c k l : Int}, dbm y k = a → lgM y k = b → dbm y l = c → a + b = c → dbm y k + lgM y k = dbm y l := fun h1 h2 h3 h4 => by rw [h1, h2, h3, h4]
  rcases (show m = 1 ∨ m = 2 ∨ m = 3 ∨ m = 4 ∨ m = 5 ∨ m = 6 ∨ m = 7 ∨ m = 8 ∨ m = 9 ∨ m = 10 ∨ m = 11 by omega) with h | h | h | h | h | h | h | h | h | h | h <;> subst h
  · exact go (a := 0) (b := 31) (c := 31) rfl rfl rfl rfl
  · exact go (a := 31) (b := 28 + lp y) (c := 59 + lp y) rfl (lg2 y) rfl (by omega)
  · exact go (a := 59 + lp y) (b := 31) (c := 90 + lp y) rfl rfl rfl (by omega)
  · exact go (a := 90 + lp y) (b := 30) (c := 120 + lp y) rfl rfl rfl (by omega)
  · exact go (a := 120 + lp y) (b := 31) (c := 151 + lp y) rfl rfl rfl (by omega)
  · exact go (a := 151 + lp y) (b := 30) (c := 181 + lp y) rfl rfl rfl (by omega)
  · exact go (a := 181 + lp y) (b := 31) (c := 212 + lp y) rfl rfl rfl (by omega)
  · exact go (a := 212 + lp y) (b := 31) (c := 243 + lp y) rfl rfl rfl (by omega)
  · exact go (a := 243 + lp y) (b := 30) (c := 273 + lp y) rfl rfl rfl (by omega)
  · exact go (a := 273 + lp y) (b := 31) (c := 304 + lp y) rfl rfl rfl (by omega)
  · exact go (a := 304 + lp y) (b := 30) (c := 334 + lp y) rfl rfl rfl (by omega)
theorem mon_le (y : Int) : ∀ (k : Nat) (m : Int), 1 ≤ m → m + 1 + (k : Int) ≤ 12 → dbm y m + lgM y m ≤ dbm y (m + 1 + (k : Int))
  | 0, m, h1, h2 => by
    have := mon_step y (m := m) (by omega)
    have e : m + 1 + ((0 : Nat) : Int) = m + 1 := by omega
    rw [e]; omega
  | k + 1, m, h1, h2 => by
    have h := mon_le y k m h1 (by omega)
    have s := mon_step y (m := m + 1 + (k : Int)) (by omega)
    have l := lg_range y (m + 1 + (k : Int))
    have e : m + 1 + ((k + 1 : Nat) : Int) = m + 1 + (k : Int) + 1 := by omega
    rw [e]; omega
theorem mon_lt (y : Int) {m m' : Int} (h1 : 1 ≤ m) (h : m < m') (h2 : m' ≤ 12) : dbm y m + lgM y m ≤ dbm y m' := by
  have := mon_le y (m' - m - 1).toNat m h1 (by omega)
  have e : m + 1 + ((m' - m - 1).toNat : Int) = m' := by omega
  rw [e] at this
  exact this
theorem day_in (y : Int) {m d : Int} (hm : 1 ≤ m ∧ m ≤ 12) (hd : 1 ≤ d ∧ d ≤ lgM y m) : 1 ≤ dbm y m + d ∧ dbm y m + d ≤ 365 + lp y := by
  have h12 : dbm y 12 = 334 + lp y := rfl
  have g12 : lgM y 12 = 31 := rfl
  have h1 : dbm y 1 = 0 := rfl
  have g1 : lgM y 1 = 31 := rfl
  have a : 0 ≤ dbm y m := by
    by_cases h : m = 1
    · rw [h, h1]; exact Int.le_refl _
    · have := mon_lt y (m := 1) (m' := m) (by omega) (by omega) hm.2
      omega
  refine ⟨by omega, ?_⟩
  by_cases h : m = 12
  · subst h; omega
  · have := mon_lt y (m := m) (m' := 12) hm.1 (by omega) (by omega)
    omega
structure LetOk (y m d c h : Int) : Prop where
  hy : 1 ≤ y
  hm : 1 ≤ m ∧ m ≤ 12
  hd : 1 ≤ d ∧ d ≤ lgM y m
  hc : 0 ≤ c ∧ c < 86400
  hz : h ∈ zonesOf y m d c
theorem zone_of {y m d c h : Int} (h9 : h ∈ zonesOf y m d c) : (h = 4 ∧ gapOf y < hourOf m d c ∧ hourOf m d c ≤ foldOf y) ∨ (h = 5 ∧ (hourOf m d c < gapOf y ∨ foldOf y ≤ hourOf m d c)) := by
  have hg : gapOf y < foldOf y := by
    have := sh_range y
    unfold gapOf foldOf; omega
  unfold zonesOf at h9
  split at h9
  · simp at h9
  · split at h9
    · simp at h9
      omega
    · split at h9
      · simp at h9; omega
      · simp at h9; omega
/-- an earlier hour of the same year, by day and hour -/
theorem hour_lt {y m d c m' d' c' : Int} (hm : 1 ≤ m ∧ m ≤ 12) (hd : 1 ≤ d ∧ d ≤ lgM y m) (hc : 0 ≤ c ∧ c < 86400) (hm' : 1 ≤ m' ∧ m' ≤ 12) (hd' : 1 ≤ d' ∧ d' ≤ lgM y m') (hc' : 0 ≤ c' ∧ c' < 86400) (h : hourOf m d c < hourOf m' d' c') :
    daysOf y m d < daysOf y m' d' ∨ (daysOf y m d = daysOf y m' d' ∧ c / 3600 < c' / 3600) := by
  rw [hour_is, hour_is] at h
  have g := (lg_range y m').2
  have g' := (lg_range y m).2
  have hq : 0 ≤ c / 3600 ∧ c / 3600 < 24 := by omega
  have hq' : 0 ≤ c' / 3600 ∧ c' / 3600 < 24 := by omega
  generalize c / 3600 = q at *
  generalize c' / 3600 = q' at *
  clear hc hc'
  unfold daysOf
  by_cases hmm : m < m'
  · have := mon_lt y hm.1 hmm hm'.2
    clear h hm hm' hq hq' g g'
    exact Or.inl (by omega)
  · have hme : m = m' := by omega
    subst hme
    clear hm hm' hmm
    by_cases hdd : d < d'
    · exact Or.inl (by omega)
    · have e : d = d' := by omega
      subst e
      exact Or.inr ⟨rfl, by omega⟩
/-- the two readings' instants by day and hour -/
theorem inst_lt {D D' c c' h h' : Int} (hc : 0 ≤ c ∧ c < 86400) (hc' : 0 ≤ c' ∧ c' < 86400) (hk : D < D' ∨ (D = D' ∧ c / 3600 < c' / 3600)) (hh : h ≤ h') : D * 86400 + c + h * 3600 < D' * 86400 + c' + h' * 3600 := by
  rcases hk with hk | ⟨rfl, hk⟩
  · omega
  · omega
/-- an instant of the earlier reading lies before that of the later one -/
theorem mono_mom {y m d c h y' m' d' c' h' : Int} (A : LetOk y m d c h) (B : LetOk y' m' d' c' h') (hf : y * 1000000 + hourOf m d c < y' * 1000000 + hourOf m' d' c') :
    daysOf y m d * 86400 + c + h * 3600 < daysOf y' m' d' * 86400 + c' + h' * 3600 := by
  have za := zone_of A.hz
  have zb := zone_of B.hz
  by_cases hyy : y < y'
  · have hk : daysOf y m d < daysOf y' m' d' := by
      have da := (day_in y A.hm A.hd).2
      have db := (day_in y' B.hm B.hd).1
      have dm := dby_mono hyy
      unfold daysOf
      clear hf za zb hyy
      omega
    by_cases hh : h ≤ h'
    · exact inst_lt A.hc B.hc (Or.inl hk) hh
    · have e : h = 5 ∧ h' = 4 := by clear hf hyy hk; omega
      obtain ⟨rfl, rfl⟩ := e
      have zc : gapOf y' < hourOf m' d' c' := by clear hf za hyy hk hh; omega
      have pb := (zone_at B.hm B.hd B.hc).1
      have hp : spN y' ≤ daysOf y' m' d' * 86400 + c' + 4 * 3600 := by clear hf za zb hyy hk hh; omega
      rw [sp_is] at hp
      have ls := sh_range y'
      have ll := lp_range y'
      have da := (day_in y A.hm A.hd).2
      have dm := dby_mono hyy
      have hc := A.hc
      have e1 : daysOf y m d ≤ dby y' := by unfold daysOf; clear hf za zb hyy hk hh zc pb hp ls ll hc; omega
      clear hf za zb hyy hk hh zc pb da dm
      omega
  · have ra := hour_is m d c
    have rb := hour_is m' d' c'
    have hye : y = y' := by
      have hm := A.hm
      have hm' := B.hm
      have hd := A.hd
      have hd' := B.hd
      have hc := A.hc
      have hc' := B.hc
      have la := (lg_range y m).2
      have lb := (lg_range y' m').2
      clear za zb
      omega
    subst hye
    have hh : hourOf m d c < hourOf m' d' c' := by clear za zb hyy ra rb; omega
    have hk := hour_lt A.hm A.hd A.hc B.hm B.hd B.hc hh
    by_cases hz : h ≤ h'
    · exact inst_lt A.hc B.hc hk hz
    · have e : h = 5 ∧ h' = 4 := by clear hf ra rb hh hk; omega
      obtain ⟨rfl, rfl⟩ := e
      have z1 : gapOf y < hourOf m' d' c' := by clear hf za ra rb hh hk; omega
      have z2 : hourOf m d c < gapOf y := by clear hf ra rb hk z1; omega
      have pa := (zone_at A.hm A.hd A.hc).2.1
      have pb := (zone_at B.hm B.hd B.hc).1
      have h1 : daysOf y m d * 86400 + c + 5 * 3600 < spN y := by clear hf za zb ra rb hh hk pb z1; omega
      have h2 : spN y ≤ daysOf y m' d' * 86400 + c' + 4 * 3600 := by clear hf za zb ra rb hh hk pa z2 h1; omega
      exact Int.lt_of_lt_of_le h1 h2
theorem let_ok {ns : List Int} {l : Let} (h : l ∈ lets ns) : LetOk (yrN l.1) (moN l.1) (dyN l.1) (ckN l.1) l.2 := by
  obtain ⟨n, _, hl⟩ := List.mem_flatMap.mp h
  obtain ⟨z, hz, rfl⟩ := List.mem_map.mp hl
  exact ⟨(yr_range n).1, mo_range n, ⟨(dy_range n).1, dy_long n⟩, ck_range n, hz⟩
/-- the same reading: the zone, then the second tell -/
theorem same_fig {y m d c y' m' d' c' : Int} (hm : 1 ≤ m ∧ m ≤ 12) (hm' : 1 ≤ m' ∧ m' ≤ 12) (hd : 1 ≤ d ∧ d ≤ 31) (hd' : 1 ≤ d' ∧ d' ≤ 31) (hc : 0 ≤ c ∧ c < 86400) (hc' : 0 ≤ c' ∧ c' < 86400) (h : y * 1000000 + hourOf m d c = y' * 1000000 + hourOf m' d' c') :
    y = y' ∧ m = m' ∧ d = d' ∧ c / 3600 = c' / 3600 := by
  have ha := hour_is m d c
  have hb := hour_is m' d' c'
  have hq : 0 ≤ c / 3600 ∧ c / 3600 < 24 := by omega
  have hq' : 0 ≤ c' / 3600 ∧ c' / 3600 < 24 := by omega
  have h1 : y = y' := by omega
  have h2 : m = m' := by omega
  have h3 : d = d' := by omega
  exact ⟨h1, h2, h3, by omega⟩
theorem zone_le {y m d c h : Int} (h9 : h ∈ zonesOf y m d c) : h = 4 ∨ h = 5 := by
  rcases zone_of h9 with ⟨e, _⟩ | ⟨e, _⟩
  · exact Or.inl e
  · exact Or.inr e
/-- PLAIN LAW: both rows order alike -/
theorem order_law {ns : List Int} {l r : Let} (hl : l ∈ lets ns) (hr : r ∈ lets ns) : lexLt (numRow l) (numRow r) = lexLt (figRow l) (figRow r) := by
  have A := let_ok hl
  have B := let_ok hr
  have f1 : figOf l < figOf r → momOf l < momOf r := fun h => mono_mom A B h
  have f2 : figOf r < figOf l → momOf r < momOf l := fun h => mono_mom B A h
  have c1 := A.hc
  have c2 := B.hc
  have k1 : (ckN l.1).fmod 3600 = ckN l.1 % 3600 := Int.fmod_eq_emod_of_nonneg _ (by decide)
  have k2 : (ckN r.1).fmod 3600 = ckN r.1 % 3600 := Int.fmod_eq_emod_of_nonneg _ (by decide)
  have f3 : figOf l = figOf r → momOf r - momOf l = (r.2 - l.2) * 3600 + ((ckN r.1).fmod 3600 - (ckN l.1).fmod 3600) := by
    intro h
    obtain ⟨e1, e2, e3, e4⟩ := same_fig A.hm B.hm (dy_range l.1) (dy_range r.1) A.hc B.hc h
    unfold momOf
    rw [e1, e2, e3, k1, k2]
    omega
  have z1 := zone_le A.hz
  have z2 := zone_le B.hz
  unfold numRow figRow
  simp only [lexLt, beq_iff_eq]
  rw [k1, k2] at *
  generalize momOf l = a at *
  generalize momOf r = b at *
  generalize figOf l = f at *
  generalize figOf r = g at *
  by_cases hf : f = g
  · have h3 := f3 hf
    rw [if_pos hf]
    by_cases hh : l.2 = r.2
    · rw [if_pos hh]
      by_cases hs : ckN l.1 % 3600 = ckN r.1 % 3600
      · rw [if_pos hs, if_pos (show a = b by omega)]
      · rw [if_neg hs, if_neg (show ¬ a = b by omega)]
        exact decide_eq_decide.mpr (by omega)
    · rw [if_neg hh, if_neg (show ¬ a = b by omega)]
      exact decide_eq_decide.mpr (by omega)
  · rw [if_neg hf, if_neg (show ¬ a = b by omega)]
    exact decide_eq_decide.mpr (by omega)
end Mine
namespace Mine
section
variable {prog : Program} {w : World} {A : Around} {h₀ : Heap} {L : Addr} {m : Str → Option Value} {env : Env} {x : Str} {scope : Scope} {cl : List (Str × Addr)} {s : Shared} {S : List (Addr × Obj) → Prop} {Fin : List Value → List (Addr × Obj) → Prop} {news : List (Addr × Obj)}
theorem dat_snoc {y : Str} {t : Tok} : ∀ {vs : List Value} {ys : List Str}, DatAll news vs (ys.map Dat.str) → DatAll news (vs ++ [.str y t]) ((ys ++ [y]).map Dat.str)
  | [], [], _ => .cons (.str y t) .nil
  | _ :: _, _ :: _, .cons h r => .cons h (dat_snoc r)
/-- [pair[j] for pair in ..] over tuples of known data -/
theorem comp_dat {its : List Value} {ds : List (List Dat)} {j : Nat} {px pc ps : Pos} (ts : Nat → Str) {kc}
    (hd : DatAll news its (ds.map Dat.tuple)) (hS : S news) (ht : ∀ i, i < ds.length → (ds.getD i [])[j]? = some (.str (ts i))) (hj : j < 2 ^ 63)
    (hk : ∀ C, (compEnvC scope cl C env).scope.kind = .function) (hl : ∀ C, (compEnvC scope cl C env).kindOf x = some .local) (hx : (x == ("__debug__" : Str)) = false)
    (fin : ∀ ys, DatAll news ys (((List.range ds.length).map ts).map Dat.str) → Fin ys news) :
    LCg.CompRest prog w A h₀ L m env (.Subscript (.Name x px) (.Constant (.int (j : Int)) kc pc) ps) x scope cl s S (fun i v => its.toArray[i]? = some v) Fin its.toArray.size 0 [] news := by
  have hlen : its.length = ds.length := by simpa using hd.length
  have hsz : its.toArray.size = ds.length := by simp [hlen]
  rw [hsz]
  have key : ∀ (c i : Nat) (ys : List Value), i + c = ds.length → DatAll news ys (((List.range i).map ts).map Dat.str) → LCg.CompRest prog w A h₀ L m env (.Subscript (.Name x px) (.Constant (.int (j : Int)) kc pc) ps) x scope cl s S (fun i v => its.toArray[i]? = some v) Fin c i ys news := by
    intro c
    induction c with
    | zero =>
      intro i ys hi hy
      have e : i = ds.length := by omega
      subst e
      exact LCg.CompRest.zero (fin ys hy)
    | succ c ih =>
      intro i ys hi hy
      refine LCg.CompRest.succ ?_
      intro v I oI C oC D m₂ h tk E' hv hC hx' F N off ne
      have hi' : i < ds.length := by omega
      have hv' : its.getD i Value.none = v := by
        rw [List.getD_eq_getElem?_getD]
        have : its[i]? = some v := by simpa using hv
        rw [this]; rfl
      have hD := DatAll.getD hd hi'
      rw [hv'] at hD
      have ht' := ht i hi'
      have N0 : News h₀ L h news := fun p hp => N p (List.mem_cons_of_mem _ (List.mem_cons_of_mem _ (List.mem_cons_of_mem _ hp)))
      cases hD with
      | @tuple a vs n _ hm r =>
        have hjl : j < (ds.getD i []).length := by
          by_cases hq : j < (ds.getD i []).length
          · exact hq
          · rw [List.getElem?_eq_none (Nat.le_of_not_lt hq)] at ht'; cases ht'
        obtain ⟨u, hu, hud⟩ := r.get hjl
        have hds : (ds.getD i [])[j] = .str (ts i) := by
          rw [List.getElem?_eq_getElem hjl] at ht'; exact Option.some.inj ht'
        rw [hds] at hud
        cases hud with
        | str _ t =>
          refine Subscript_ (LCgL.ld_own (s := { s with heap := h, toks := tk }) N (List.mem_cons_of_mem _ List.mem_cons_self) hC hx' ?_ (hk := hk C) (hl := hl C) (hd := hx))
          refine wpAny_Constant_int ?_
          refine item_tupleT (j := j) (x := .str (ts i) t) ⟨_, (N0 _ hm).1, rfl, _, rfl⟩ (by omega) (by omega) ?_ hu ?_
          · unfold seqIndex?
            have hvs : vs.length = (ds.getD i []).length := r.length
            have e1 : ¬ ((j : Int) < 0) := by omega
            have e2 : (0 ≤ (j : Int)) := by omega
            have e3 : (j : Int) < (vs.length : Int) := by omega
            simp [e1, e2, e3]
          · refine ⟨h, _, news, rfl, F, N, off, hS, ?_⟩
            refine ih (i + 1) _ (by omega) ?_
            rw [List.range_succ, List.map_append]
            exact dat_snoc hy
  exact key ds.length 0 [] (by omega) .nil
end
end Mine
namespace Mine
def Oks (x : Str) : Prop := ∀ c ∈ x.cps.toList, c < 0x110000
theorem oks_of {x : Str} (h : Oks x) : PyData.strOk x = true := by
  unfold PyData.strOk
  rw [Array.all_eq_true]
  intro i hi
  exact decide_eq_true (h _ (by simp))
theorem oks_app {x y : Str} (h : Oks x) (k : Oks y) : Oks (x ++ y) := by
  intro c hc
  rw [PySem.Str.cps_append, Array.toList_append] at hc
  rcases List.mem_append.mp hc with hc | hc
  · exact h c hc
  · exact k c hc
theorem oks_slice {x : Str} {a b : Option Int} (h : Oks x) : Oks (Txt.slice x a b) := by
  unfold Txt.slice
  split
  · exact h
  · intro c hc
    obtain ⟨i, _, hi⟩ := List.mem_filterMap.mp (by simpa using hc)
    exact h c (by
      have := Array.mem_of_getElem? hi
      simpa using this)
theorem oks_int {n : Int} (h : 0 ≤ n) : Oks (Str.ofString (toString n)) := fun c hc => by
  have := dig_mem h (c := c) hc
  omega
theorem oks_mul (n : Nat) : Oks (Txt.mul (Str.ofString "0") (4 - (n : Int))) := by
  rw [mul_is]
  intro c hc
  have := (List.mem_replicate.mp (by simpa using hc)).2
  omega
theorem oks_lit {x : Str} (h : x.cps.toList.all (fun c => decide (c < 0x110000)) = true) : Oks x := fun c hc => by
  have := List.all_eq_true.mp h c hc
  simpa using this
theorem oks_two {n : Int} (h : 0 ≤ n) : Oks (lawTwo n) := oks_slice (oks_int (by omega))
theorem oks_line {y m d c h : Int} (hy : 0 ≤ y) (hd : 0 ≤ d) (hc : 0 ≤ c) (hh : 0 ≤ h) : Oks (lawLine y m d c h) := by
  have l1 : Oks (Str.ofString "SunMonTueWedThuFriSat") := oks_lit (by decide +kernel)
  have l2 : Oks (Str.ofString "JanFebMarAprMayJunJulAugSepOctNovDec") := oks_lit (by decide +kernel)
  have l3 : Oks (Str.ofString ", ") := oks_lit (by decide +kernel)
  have l4 : Oks (Str.ofString " ") := oks_lit (by decide +kernel)
  have l5 : Oks (Str.ofString ":") := oks_lit (by decide +kernel)
  have l6 : Oks (Str.ofString " -0") := oks_lit (by decide +kernel)
  have l7 : Oks (Str.ofString "00") := oks_lit (by decide +kernel)
  have h1 : 0 ≤ c.fdiv 3600 := by rw [Int.fdiv_eq_ediv_of_nonneg c (by decide)]; omega
  have h2 : 0 ≤ (c.fdiv 60).fmod 60 := by rw [Int.fmod_eq_emod_of_nonneg _ (by decide)]; omega
  have h3 : 0 ≤ c.fmod 60 := by rw [Int.fmod_eq_emod_of_nonneg _ (by decide)]; omega
  unfold lawLine
  exact oks_app (oks_app (oks_app (oks_app (oks_app (oks_app (oks_app (oks_app (oks_app (oks_app (oks_app (oks_app (oks_app (oks_app (oks_app (oks_app (oks_slice l1) l3) (oks_two hd)) l4) (oks_slice l2)) l4) (oks_mul _)) (oks_int hy)) l4) (oks_two h1)) l5) (oks_two h2)) l5) (oks_two h3)) l6) (oks_int hh)) l7
theorem lets_len (ns : List Int) : (lets ns).length ≤ 2 * ns.length := by
  unfold lets
  induction ns with
  | nil => simp
  | cons n ns ih =>
    have hz := zonesOf_len (yrN n) (moN n) (dyN n) (ckN n)
    rw [List.flatMap_cons, List.length_append]
    have e : (letN n).length = (zonesOf (yrN n) (moN n) (dyN n) (ckN n)).length := by unfold letN; rw [List.length_map]
    simp only [List.length_cons]
    omega
theorem let600 : (letN 600).length = 2 := by
  unfold letN; rw [List.length_map]; decide +kernel
theorem lets_two (ns : List Int) : 2 ≤ (lets (600 :: ns)).length := by
  unfold lets
  rw [List.flatMap_cons, List.length_append, let600]
  omega
theorem kin_num (l r : Let) : Kin (numRow l) (numRow r) := .int _ _ (.str _ _ .nil)
theorem kin_fig (l r : Let) : Kin (figRow l) (figRow r) := .int _ _ (.int _ _ (.int _ _ (.str _ _ .nil)))
/-- the letters in their order -/
def slN (ns : List Int) : List Let := (ordOf ((lets ns).map numRow)).map fun i => (lets ns).getD i (0, 0)
theorem getD_map {α β : Type} {f : α → β} {ls : List α} {d : β} {e : α} {i : Nat} (hi : i < ls.length) : (ls.map f).getD i d = f (ls.getD i e) := by
  rw [List.getD_eq_getElem?_getD, List.getD_eq_getElem?_getD, List.getElem?_map, List.getElem?_eq_getElem hi]; rfl
theorem ord_eq {ns : List Int} (h : 0 < (lets ns).length) : ordOf ((lets ns).map numRow) = ordOf ((lets ns).map figRow) := by
  refine ordOf_congr (by rw [List.length_map]; exact h) (by rw [List.length_map, List.length_map]) fun i j hi hj => ?_
  rw [List.length_map] at hi hj
  rw [getD_map (e := (0, 0)) hi, getD_map (e := (0, 0)) hj, getD_map (e := (0, 0)) hi, getD_map (e := (0, 0)) hj]
  have mem : ∀ k, k < (lets ns).length → (lets ns).getD k (0, 0) ∈ lets ns := fun k hk => by
    rw [List.getD_eq_getElem?_getD, List.getElem?_eq_getElem hk]; exact List.getElem_mem hk
  exact order_law (mem i hi) (mem j hj)
theorem perm_dat {news : List (Addr × Obj)} {vs : List Value} {f : Let → List Dat} {ls : List Let} (hd : DatAll news vs ((ls.map f).map Dat.tuple)) : ∀ {ord : List Nat}, (∀ i ∈ ord, i < ls.length) →
    DatAll news (ord.map fun i => vs.getD i Value.none) (((ord.map fun i => ls.getD i (0, 0)).map f).map Dat.tuple)
  | [], _ => .nil
  | i :: ord, ho => by
    have h := DatAll.getD hd (i := i) (by rw [List.length_map]; exact ho i List.mem_cons_self)
    rw [getD_map (e := (0, 0)) (ho i List.mem_cons_self)] at h
    exact .cons h (perm_dat hd fun k hk => ho k (List.mem_cons_of_mem _ hk))
def linesOf (ns : List Int) : List Str := (List.range (slN ns).length).map fun i => linOf ((slN ns).getD i (0, 0))
theorem sl_mem {ns : List Int} (h : 0 < (lets ns).length) {l : Let} (hl : l ∈ slN ns) : l ∈ lets ns := by
  obtain ⟨i, hi, rfl⟩ := List.mem_map.mp hl
  have hi' := ordOf_lt (ds := (lets ns).map numRow) (by rw [List.length_map]; exact h) i hi
  rw [List.length_map] at hi'
  rw [List.getD_eq_getElem?_getD, List.getElem?_eq_getElem hi']; exact List.getElem_mem hi'
theorem lines_ok {ns : List Int} (h : 0 < (lets ns).length) : ∀ d ∈ (linesOf ns).map Dat.str, kqdOk 8 d = true := by
  intro d hd
  obtain ⟨x, hx, rfl⟩ := List.mem_map.mp hd
  obtain ⟨i, hi, rfl⟩ := List.mem_map.mp hx
  have hi' := List.mem_range.mp hi
  have hm : (slN ns).getD i (0, 0) ∈ slN ns := by
    rw [List.getD_eq_getElem?_getD, List.getElem?_eq_getElem hi']; exact List.getElem_mem hi'
  have ok := let_ok (sl_mem h hm)
  have z := zone_le ok.hz
  exact oks_of (oks_line (by have := ok.hy; omega) (by have := ok.hd; omega) ok.hc.1 (by omega))
end Mine
namespace Mine
structure EndFacts (ns : List Int) (cst : List (Addr × Obj)) (v1 v2 : List Value) : Prop where
  num : DatAll cst v1 (((lets ns).map numRow).map Dat.tuple)
  fig : DatAll cst v2 (((lets ns).map figRow).map Dat.tuple)
  two : 2 ≤ (lets ns).length
  few : (lets ns).length < 64
theorem end_facts {x : List Int} {cst : List (Addr × Obj)} {v1 v2 : List Value} {d1 d2 : List Dat} (h : Wd ([600, 1800, 3600, 14399, 17999, 18000, 21600, 88200, 3304800] ++ List.take 4 x) d1 d2) (r1 : DatAll cst v1 d1) (r2 : DatAll cst v2 d2) :
    EndFacts ([600, 1800, 3600, 14399, 17999, 18000, 21600, 88200, 3304800] ++ List.take 4 x) cst v1 v2 := by
  obtain ⟨_, _, h3, h4⟩ := h
  refine ⟨by rw [← nums_lets, ← h3]; exact r1, by rw [← figs_lets, ← h4]; exact r2, lets_two _, ?_⟩
  have := lets_len ([600, 1800, 3600, 14399, 17999, 18000, 21600, 88200, 3304800] ++ List.take 4 x)
  have hl : ([600, 1800, 3600, 14399, 17999, 18000, 21600, 88200, 3304800] ++ List.take 4 x).length ≤ 13 := by
    rw [List.length_append, List.length_take]
    simp only [List.length_cons, List.length_nil]
    omega
  omega
structure Rows (f : Let → List Dat) (ns : List Int) (news : List (Addr × Obj)) (its : List Value) : Prop where
  all : DatAll news its (((slN ns).map f).map Dat.tuple)
  few : its.length < 64
  one : 0 < (lets ns).length
section
variable {prog : Program} {w : World} {A : Around} {E : Value → Shared → Prop} {s : Shared} {h₀ : Heap} {L l : Addr} {m : Str → Option Value} {news cst : List (Addr × Obj)} {ns : List Int} {v1 v2 : List Value} {n : Nat} {Q : Value → Shared → Prop}
theorem sorted_row {f : Let → List Dat} {vs : List Value} (F : Fr h₀ L s.heap m) (N : News h₀ L s.heap news) (hl : (l, W.listOf vs.toArray n) ∈ news) (hd : DatAll news vs (((lets ns).map f).map Dat.tuple)) (hk : ∀ a b, Kin (f a) (f b)) (hf : ∀ a, ∃ i r, f a = Dat.int i :: r)
    (he : ordOf ((lets ns).map numRow) = ordOf ((lets ns).map f)) (h2 : 2 ≤ (lets ns).length) (h64 : (lets ns).length < 64)
    (h : ∀ D c h' its, Fr h₀ L h' m → News h₀ L h' ((D, W.listOf (List.toArray its) c) :: news) → Rows f ns news its → (∀ q ∈ news, q.1 < D) → Q (.ref D) { s with heap := h' }) :
    wpAny (model prog w) A (call (.builtin "sorted") [.ref l]) Q E s := by
  have h0 : 0 < (lets ns).length := by omega
  refine sorted_dat F N hl hd (fun d hd e he => ?_) (fun d hd => ?_) (by rw [List.length_map]; exact h2) (by rw [List.length_map]; exact h64) fun D c h' F' N' lo => h D c h' _ F' N' ⟨?_, ?_, h0⟩ lo
  · obtain ⟨a, _, rfl⟩ := List.mem_map.mp hd
    obtain ⟨b, _, rfl⟩ := List.mem_map.mp he
    exact hk a b
  · obtain ⟨a, _, rfl⟩ := List.mem_map.mp hd
    exact hf a
  · have p := perm_dat hd (ord := ordOf ((lets ns).map f)) fun i hi => by
      have := ordOf_lt (ds := (lets ns).map f) (by rw [List.length_map]; exact h0) i hi
      rwa [List.length_map] at this
    unfold slN
    rw [he]
    exact p
  · rw [List.length_map, ordOf_len (by rw [List.length_map]; exact h0), List.length_map]
    exact h64
theorem sorted_num (e : EndFacts ns cst v1 v2) (F : Fr h₀ L s.heap m) (N : News h₀ L s.heap news) (hl : (l, W.listOf v1.toArray n) ∈ news) (hs : ∀ p ∈ cst, p ∈ news)
    (h : ∀ D c h' its, Fr h₀ L h' m → News h₀ L h' ((D, W.listOf (List.toArray its) c) :: news) → Rows numRow ns news its → (∀ q ∈ news, q.1 < D) → Q (.ref D) { s with heap := h' }) :
    wpAny (model prog w) A (call (.builtin "sorted") [.ref l]) Q E s :=
  sorted_row F N hl (e.num.mono hs) kin_num (fun _ => ⟨_, _, rfl⟩) rfl e.two e.few h
theorem sorted_fig (e : EndFacts ns cst v1 v2) (F : Fr h₀ L s.heap m) (N : News h₀ L s.heap news) (hl : (l, W.listOf v2.toArray n) ∈ news) (hs : ∀ p ∈ cst, p ∈ news)
    (h : ∀ D c h' its, Fr h₀ L h' m → News h₀ L h' ((D, W.listOf (List.toArray its) c) :: news) → Rows figRow ns news its → (∀ q ∈ news, q.1 < D) → Q (.ref D) { s with heap := h' }) :
    wpAny (model prog w) A (call (.builtin "sorted") [.ref l]) Q E s :=
  sorted_row F N hl (e.fig.mono hs) kin_fig (fun _ => ⟨_, _, rfl⟩) (ord_eq (by have := e.two; omega)) e.two e.few h
/-- what a comprehension over the sorted rows leaves -/
structure Lines (ns : List Int) (news : List (Addr × Obj)) (ys : List Value) : Prop where
  all : DatAll news ys ((linesOf ns).map Dat.str)
  ok : ∀ d ∈ (linesOf ns).map Dat.str, kqdOk 8 d = true
theorem src_rows {f : Let → List Dat} {j : Nat} {D : Addr} {its : List Value} {c : Nat} {env : Env} {x : Str} {scope : Scope} {cl : List (Str × Addr)} {px pc ps : Pos} {kc} {Fin : Shared → List Value → List (Addr × Obj) → Prop} (R : Rows f ns news its) (hj : ∀ a, (f a)[j]? = some (Dat.str (linOf a))) (hj2 : j < 2 ^ 63)
    (hh : A.handled = none) (F : Fr h₀ L s.heap m) (N : News h₀ L s.heap ((D, W.listOf (List.toArray its) c) :: news))
    (hk : ∀ C, (compEnvC scope cl C env).scope.kind = .function) (hl : ∀ C, (compEnvC scope cl C env).kindOf x = some .local) (hx : (x == ("__debug__" : Str)) = false)
    (fin : ∀ g ys, Lines ns ((D, W.listOf (List.toArray its) c) :: news) ys → Fin { s with heap := g } ys ((D, W.listOf (List.toArray its) c) :: news)) :
    LCg.CompSrc prog w A h₀ L m env (.Subscript (.Name x px) (.Constant (.int (j : Int)) kc pc) ps) x scope cl Fin (.ref D) s := by
  refine LCg.CompSrc.ledger hh F N List.mem_cons_self (by rw [List.size_toArray, sizeLine_eq]; have := R.few; omega) fun g => ?_
  refine comp_dat (ds := (slN ns).map f) (fun i => linOf ((slN ns).getD i (0, 0))) (R.all.mono fun p hp => List.mem_cons_of_mem _ hp) (Or.inr ⟨_, List.mem_cons_self, rfl, _, rfl⟩) (fun i hi => ?_) hj2 hk hl hx fun ys hy => fin g ys ⟨?_, lines_ok R.one⟩
  · rw [List.length_map] at hi
    rw [getD_map (e := (0, 0)) hi]
    exact hj _
  · rw [List.length_map] at hy
    exact hy
open Classical in
theorem eq_lines {a b : Addr} {xs ys : List Value} {n₁ n₂ : List (Addr × Obj)} (N : News h₀ L s.heap news) (X : Lines ns n₁ xs) (Y : Lines ns n₂ ys) (ma : (a, LCg.lst xs) ∈ news) (sa : ∀ p ∈ n₁, p ∈ news) (mb : (b, LCg.lst ys) ∈ news) (sb : ∀ p ∈ n₂, p ∈ news)
    (hu : A.units + 64 < cLine) (h : Q (.bool true) s) : wpAny (model prog w) A (compareOp .Eq (.ref a) (.ref b)) Q E s :=
  kqd_eq N ma rfl rfl X.all sa mb rfl rfl Y.all sb X.ok Y.ok hu (by rw [decide_eq_true rfl]; exact h)
end
end Mine
namespace Mine
section
variable {h₀ h' : Heap} {L : Addr} {m' : Str → Option Value} {s₁ : Shared} {I : Addr} {o : Obj} {rest : (Str → Option Value) → List (Addr × Obj) → Prop} {news₀ B : List (Addr × Obj)} {tk : Nat}
theorem off_of (hlt : ∀ p ∈ news₀, p.1 < I) (hB : B.map (·.1) = news₀.map (·.1)) : ∀ p ∈ B, p.1 < I := by
  intro p hp
  have : p.1 ∈ B.map (·.1) := List.mem_map.mpr ⟨p, hp, rfl⟩
  rw [hB] at this
  obtain ⟨q, hq, e⟩ := List.mem_map.mp this
  rw [← e]
  exact hlt q hq
theorem unr0 (hlt : ∀ p ∈ news₀, p.1 < I) (F : Fr h₀ L h' m') (N : News h₀ L h' ((I, o) :: B)) (hB : B.map (·.1) = news₀.map (·.1)) (r : rest m' B) :
    UnrEndW h₀ L s₁ [(I, o)] rest { s₁ with heap := h', toks := tk } :=
  ⟨h', tk, m', B, rfl, F, N, fun p hp q hq => by
    rw [List.mem_singleton.mp hq]; exact Nat.ne_of_lt (off_of hlt hB p hp), r⟩
theorem unr1 {p1 : Addr × Obj} (hlt : ∀ p ∈ news₀, p.1 < I) (F : Fr h₀ L h' m') (N : News h₀ L h' (p1 :: (I, o) :: B)) (h1 : I < p1.1) (hB : B.map (·.1) = news₀.map (·.1)) (r : rest m' (p1 :: B)) :
    UnrEndW h₀ L s₁ [(I, o)] rest { s₁ with heap := h', toks := tk } :=
  ⟨h', tk, m', p1 :: B, rfl, F, fun p hp => N p (by simp only [List.cons_append, List.nil_append, List.mem_cons] at hp ⊢; rcases hp with h | h | h <;> simp [h]), fun p hp q hq => by
    rw [List.mem_singleton.mp hq]
    rcases List.mem_cons.mp hp with rfl | hp
    · exact Nat.ne_of_gt h1
    · exact Nat.ne_of_lt (off_of hlt hB p hp), r⟩
theorem unr2 {p1 p2 : Addr × Obj} (hlt : ∀ p ∈ news₀, p.1 < I) (F : Fr h₀ L h' m') (N : News h₀ L h' (p1 :: p2 :: (I, o) :: B)) (h1 : I < p1.1) (h2 : I < p2.1) (hB : B.map (·.1) = news₀.map (·.1)) (r : rest m' (p1 :: p2 :: B)) :
    UnrEndW h₀ L s₁ [(I, o)] rest { s₁ with heap := h', toks := tk } :=
  ⟨h', tk, m', p1 :: p2 :: B, rfl, F, fun p hp => N p (by simp only [List.cons_append, List.nil_append, List.mem_cons] at hp ⊢; rcases hp with h | h | h | h <;> simp [h]), fun p hp q hq => by
    rw [List.mem_singleton.mp hq]
    rcases List.mem_cons.mp hp with rfl | hp
    · exact Nat.ne_of_gt h1
    · rcases List.mem_cons.mp hp with rfl | hp
      · exact Nat.ne_of_gt h2
      · exact Nat.ne_of_lt (off_of hlt hB p hp), r⟩
theorem unr22 {p1 p2 q1 q2 : Addr × Obj} (hlt : ∀ p ∈ news₀, p.1 < I) (F : Fr h₀ L h' m') (N : News h₀ L h' (p1 :: p2 :: (I, o) :: q1 :: q2 :: B)) (h1 : I < p1.1) (h2 : I < p2.1) (h3 : I < q1.1) (h4 : I < q2.1) (hB : B.map (·.1) = news₀.map (·.1)) (r : rest m' (p1 :: p2 :: q1 :: q2 :: B)) :
    UnrEndW h₀ L s₁ [(I, o)] rest { s₁ with heap := h', toks := tk } :=
  ⟨h', tk, m', p1 :: p2 :: q1 :: q2 :: B, rfl, F, fun p hp => N p (by simp only [List.cons_append, List.nil_append, List.mem_cons] at hp ⊢; rcases hp with h | h | h | h | h | h <;> simp [h]), fun p hp q hq => by
    rw [List.mem_singleton.mp hq]
    simp only [List.mem_cons] at hp
    rcases hp with rfl | rfl | rfl | rfl | hp
    · exact Nat.ne_of_gt h1
    · exact Nat.ne_of_gt h2
    · exact Nat.ne_of_gt h3
    · exact Nat.ne_of_gt h4
    · exact Nat.ne_of_lt (off_of hlt hB p hp), r⟩
theorem unr02 {q1 q2 : Addr × Obj} (hlt : ∀ p ∈ news₀, p.1 < I) (F : Fr h₀ L h' m') (N : News h₀ L h' ((I, o) :: q1 :: q2 :: B)) (h1 : I < q1.1) (h2 : I < q2.1) (hB : B.map (·.1) = news₀.map (·.1)) (r : rest m' (q1 :: q2 :: B)) :
    UnrEndW h₀ L s₁ [(I, o)] rest { s₁ with heap := h', toks := tk } :=
  ⟨h', tk, m', q1 :: q2 :: B, rfl, F, fun p hp => N p (by simp only [List.cons_append, List.nil_append, List.mem_cons] at hp ⊢; rcases hp with h | h | h | h <;> simp [h]), fun p hp q hq => by
    rw [List.mem_singleton.mp hq]
    simp only [List.mem_cons] at hp
    rcases hp with rfl | rfl | hp
    · exact Nat.ne_of_gt h1
    · exact Nat.ne_of_gt h2
    · exact Nat.ne_of_lt (off_of hlt hB p hp), r⟩
theorem unr11 {p1 q1 : Addr × Obj} (hlt : ∀ p ∈ news₀, p.1 < I) (F : Fr h₀ L h' m') (N : News h₀ L h' (p1 :: (I, o) :: q1 :: B)) (h1 : I < p1.1) (h2 : I < q1.1) (hB : B.map (·.1) = news₀.map (·.1)) (r : rest m' (p1 :: q1 :: B)) :
    UnrEndW h₀ L s₁ [(I, o)] rest { s₁ with heap := h', toks := tk } :=
  ⟨h', tk, m', p1 :: q1 :: B, rfl, F, fun p hp => N p (by simp only [List.cons_append, List.nil_append, List.mem_cons] at hp ⊢; rcases hp with h | h | h | h <;> simp [h]), fun p hp q hq => by
    rw [List.mem_singleton.mp hq]
    simp only [List.mem_cons] at hp
    rcases hp with rfl | rfl | hp
    · exact Nat.ne_of_gt h1
    · exact Nat.ne_of_gt h2
    · exact Nat.ne_of_lt (off_of hlt hB p hp), r⟩
end
theorem news_front {h₀ h : Heap} {L : Addr} {news : List (Addr × Obj)} {p : Addr × Obj} (N : News h₀ L h news) (hm : p ∈ news) : News h₀ L h (p :: news) := fun q hq => by
  rcases List.mem_cons.mp hq with rfl | hq
  · exact N _ hm
  · exact N q hq
theorem news_back {h₀ h : Heap} {L : Addr} {news : List (Addr × Obj)} {p : Addr × Obj} (N : News h₀ L h (p :: news)) : News h₀ L h news := fun q hq => N q (List.mem_cons_of_mem _ hq)
end Mine
namespace Mine
set_option maxRecDepth 100000 in
set_option maxHeartbeats 8000000 in
open_top hd for PySem.Challenge.rw_kl0454_01
end Mine
namespace Mine
abbrev FClaim (prog : Program) (w : World) (K : Frag) (p : Program) (loose : List Str) (mean : ExcName → Option Value) (mg mb : Str → Option Value) (r : Nat) (f : Addr) (vs : List Value) (R : Tok → Value) : Prop :=
  ∀ (news : List (Addr × Obj)) (dp un : Nat) (gd : Option (List Code)) (cn : Str) (cs : Scope) (a : Addr) (ccd : Value) (cl : List (Str × Addr)) (outer : List Env) (A₀ : Around) (base h₀ : Heap) (L : Addr) (m : Str → Option Value) (s : Shared) (Q E : Value → Shared → Prop),
    Below A₀ base outer h₀ → Fr h₀ L s.heap m → K.In h₀ → News h₀ L s.heap news → Top p loose mean mg mb h₀ → cs.kind = .function →
    dp + r < recursionLimit → un + 8 * r < cLine → CbRet h₀ L m news s Q R →
      wpAny (model prog w) (ktrTop dp un gd cn cs L a ccd cl outer) (call (.ref f) vs) Q E s
abbrev LClaim (w : World) (mean : ExcName → Option Value) (mg mb : Str → Option Value) (r : Nat) (f : Addr) (vs : List Value) (R : Tok → Value) : Prop :=
  FClaim PySem.Challenge.rw_kl0454_01.row.prog w (hd.heap_39 w.params) hd.view_39 (looseW hd.view_39 [Str.ofString "_DAYS_IN_MONTH", Str.ofString "_DAYS_BEFORE_MONTH"]) mean mg mb r f vs R
section
variable {w : World} {mean : ExcName → Option Value} {mg mb : Str → Option Value}
set_option maxRecDepth 100000
set_option maxHeartbeats 8000000
theorem c_is_leap (y : Int) (t : Tok) : LClaim w mean mg mb 2 35 [.int y t] (fun _ => .bool (isLeap y)) := by
  dsimp only [LClaim, FClaim, CbRet]
  k_fill
  w_on
  k_with_none
  intro news dp un gd cn cs a ccd cl outer A₀ base h₀ L m s Q E hB hF hX hN hT hk hd hu hret
  refine wpAny_call ?_
  k_dflt cell_enter
  k_steps
  all_goals exact cb_retB (Q := Q) hret (by simp_all [isLeap]) (by k_asm) (by k_asm)
theorem c_dby (y : Int) (t : Tok) : LClaim w mean mg mb 2 42 [.int y t] (fun t => .int (dby y) t) := by
  dsimp only [LClaim, FClaim, CbRet]
  k_fill
  w_on
  k_with_none
  intro news dp un gd cn cs a ccd cl outer A₀ base h₀ L m s Q E hB hF hX hN hT hk hd hu hret
  refine wpAny_call ?_
  k_dflt cell_enter
  k_steps
  all_goals exact cb_retI (Q := Q) hret (by rfl) (by k_asm) (by k_asm)
end
end Mine
namespace Mine
local macro_rules | `(tactic| walk_at $s:str) => `(tactic| k_extra $s)
theorem dbm_hi {y m : Int} (h : 2 < m) : List.getD [-1, 0, 31, 59, 90, 120, 151, 181, 212, 243, 273, 304, 334] m.toNat 0 + (if isLeap y = true then 1 else 0) = dbm y m := by
  unfold dbm dbm0; rw [show decide (m > 2) = true from decide_eq_true h]; rfl
theorem dbm_lo {y m : Int} (h : ¬ 2 < m) : List.getD [-1, 0, 31, 59, 90, 120, 151, 181, 212, 243, 273, 304, 334] m.toNat 0 + (if decide (2 < m) = true then 1 else 0) = dbm y m := by
  unfold dbm dbm0; rw [show decide (m > 2) = false from decide_eq_false h]; simp [h]
theorem topListAny {prog : Program} {w : World} {A : Around} {E : Value → Shared → Prop} {s : Shared} {K : Frag} {h₀ : Heap} {L a : Addr} {m : Str → Option Value} {n : Nat} {value slice : PySem.Expr} {l : List Value} {ns : List Int} {dd : Option Addr} {sl : Array (Option Value)} {k : Int} {u : Tok} {Q : Value → Shared → Prop} (F : Fr h₀ L s.heap m) (X₀ : K.In h₀)
    (hl : K.lookup a = some ⟨.type "list", dd, .seq l.toArray n, sl⟩) (hi : IntsAre l ns) (h0 : 0 ≤ k) (h1 : k < ns.length) (hfit : k < 2 ^ 63) (h : ∀ t, Q (.int (ns.getD k.toNat 0) t) s)
    (hs : subscripted slice false (.ref a) (.int k u) = operate [.ref a, .int k u] (getItem (.ref a) (.int k u)) := by with_unfolding_all rfl) :
    wpAny (model prog w) A (subscriptTail value slice (.ref a) (.int k u)) Q E s := by
  obtain ⟨t, hx⟩ := hi.get k.toNat _ (ints_getD h0 h1)
  exact topList_K F X₀ hl h0 hfit hx (h t) hs
section
variable {w : World} {mean : ExcName → Option Value} {mg mb : Str → Option Value}
set_option maxRecDepth 100000
set_option maxHeartbeats 8000000
theorem c_dbm (y mo : Int) (t u : Tok) (h1 : 1 ≤ mo) (h2 : mo ≤ 12) : LClaim w mean mg mb 4 49 [.int y t, .int mo u] (fun t => .int (dbm y mo) t) := by
  dsimp only [LClaim, FClaim, CbRet]
  k_fill
  w_on
  k_with_none
  k_with "subscriptTail" => ((k_here; (with_reducible show wpAny _ _ (subscriptTail _ _ (Value.ref _) (Value.int _ _)) _ _ _); kmn_open; (with_unfolding_all
       (refine' topListAny ?q9F ?q9X ?q9l ?q9i ?q9k3 ?q9k4 ?q9k5 ?_; (case q9F => k_asm); (case q9X => k_asm); (case q9l => k_is); (case q9i => l_ints); (case q9k3 => l_idx); (case q9k4 => l_idx); (case q9k5 => l_idx); k_whole)); intro _))
  k_with "eval Call Name" => (((with_reducible show wpAny _ _ (eval (Expr.Call (Expr.Name _ _) _ [] _) _) _ _ _); refine Call_ ?_))
  k_with "call ref" => ((k_here; (with_reducible show wpAny _ _ (call (Value.ref 35) [Value.int _ _]) _ _ _); (k_dflt (refine' c_is_leap _ _ _ _ _ _ _ _ _ _ _ _ _ _ _ _ _ _ _ _ ?q9k1 ?q9k2 ?q9k3 ?q9k4 ?q9k5 ?q9k6 ?q9k7 ?q9k8 ?_; (case q9k1 => k_asm); (case q9k2 => k_asm); (case q9k3 => k_asm); (case q9k4 => k_asm); (case q9k5 => k_asm); (case q9k6 => first | exact rfl | assumption); (case q9k7 => ktr_room); (case q9k8 => ktr_units))); intro t9 h9 tk9 F9 N9; (try dsimp only); (try k_fold)))
  intro news dp un gd cn cs a ccd cl outer A₀ base h₀ L m s Q E hB hF hX hN hT hk hd hu hret
  refine wpAny_call ?_
  k_dflt cell_enter
  k_steps
  all_goals exact cb_retI (Q := Q) hret (by first | exact dbm_hi (by omega) | exact dbm_lo (by omega)) (by k_asm) (by k_asm)
end
end Mine
namespace Mine
local macro_rules | `(tactic| walk_at $s:str) => `(tactic| k_extra $s)
section
variable {w : World} {mean : ExcName → Option Value} {mg mb : Str → Option Value}
set_option maxRecDepth 100000
set_option maxHeartbeats 8000000
theorem c_lsun (y mo : Int) (t u : Tok) (h1 : 1 ≤ mo) (h2 : mo ≤ 12) : LClaim w mean mg mb 6 56 [.int y t, .int mo u] (fun t => .int (lsun y mo) t) := by
  dsimp only [LClaim, FClaim, CbRet]
  k_fill
  w_on
  k_with_none
  k_with "subscriptTail" => ((k_here; (with_reducible show wpAny _ _ (subscriptTail _ _ (Value.ref _) (Value.int _ _)) _ _ _); kmn_open; (with_unfolding_all
       (refine' topListAny ?q9F ?q9X ?q9l ?q9i ?q9k3 ?q9k4 ?q9k5 ?_; (case q9F => k_asm); (case q9X => k_asm); (case q9l => k_is); (case q9i => l_ints); (case q9k3 => l_idx); (case q9k4 => l_idx); (case q9k5 => l_idx); k_whole)); intro _))
  k_with "eval Call Name" => (((with_reducible show wpAny _ _ (eval (Expr.Call (Expr.Name _ _) _ [] _) _) _ _ _); refine Call_ ?_))
  k_with "call ref" => ((k_here; (with_reducible show wpAny _ _ (call (Value.ref 35) [Value.int _ _]) _ _ _); (k_dflt (refine' c_is_leap _ _ _ _ _ _ _ _ _ _ _ _ _ _ _ _ _ _ _ _ ?q9k1 ?q9k2 ?q9k3 ?q9k4 ?q9k5 ?q9k6 ?q9k7 ?q9k8 ?_; (case q9k1 => k_asm); (case q9k2 => k_asm); (case q9k3 => k_asm); (case q9k4 => k_asm); (case q9k5 => k_asm); (case q9k6 => first | exact rfl | assumption); (case q9k7 => ktr_room); (case q9k8 => ktr_units))); intro t9 h9 tk9 F9 N9; (try dsimp only); (try k_fold)))
  k_with "call ref" => ((k_here; (with_reducible show wpAny _ _ (call (Value.ref 42) [Value.int _ _]) _ _ _); (k_dflt (refine' c_dby _ _ _ _ _ _ _ _ _ _ _ _ _ _ _ _ _ _ _ _ ?q9k1 ?q9k2 ?q9k3 ?q9k4 ?q9k5 ?q9k6 ?q9k7 ?q9k8 ?_; (case q9k1 => k_asm); (case q9k2 => k_asm); (case q9k3 => k_asm); (case q9k4 => k_asm); (case q9k5 => k_asm); (case q9k6 => first | exact rfl | assumption); (case q9k7 => ktr_room); (case q9k8 => ktr_units))); intro t9 h9 tk9 F9 N9; (try dsimp only); (try k_fold)))
  k_with "call ref" => ((k_here; (with_reducible show wpAny _ _ (call (Value.ref 49) [Value.int _ _, Value.int _ _]) _ _ _); (k_dflt (refine' c_dbm _ _ _ _ ?q9p1 ?q9p2 _ _ _ _ _ _ _ _ _ _ _ _ _ _ _ _ _ _ ?q9k1 ?q9k2 ?q9k3 ?q9k4 ?q9k5 ?q9k6 ?q9k7 ?q9k8 ?_; (case q9p1 => omega); (case q9p2 => omega); (case q9k1 => k_asm); (case q9k2 => k_asm); (case q9k3 => k_asm); (case q9k4 => k_asm); (case q9k5 => k_asm); (case q9k6 => first | exact rfl | assumption); (case q9k7 => ktr_room); (case q9k8 => ktr_units))); intro t9 h9 tk9 F9 N9; (try dsimp only); (try k_fold)))
  intro news dp un gd cn cs a ccd cl outer A₀ base h₀ L m s Q E hB hF hX hN hT hk hd hu hret
  refine wpAny_call ?_
  k_dflt cell_enter
  k_steps
  all_goals exact cb_retI (Q := Q) hret (by rfl) (by k_asm) (by k_asm)
theorem c_two (n : Int) (t : Tok) (h1 : 0 ≤ n) (h2 : n < 100) : LClaim w mean mg mb 2 63 [.int n t] (fun t => .str (lawTwo n) t) := by
  dsimp only [LClaim, FClaim, CbRet]
  k_fill
  w_on
  intro news dp un gd cn cs a ccd cl outer A₀ base h₀ L m s Q E hB hF hX hN hT hk hd hu hret
  refine wpAny_call ?_
  k_dflt cell_enter
  k_steps
  all_goals exact cb_retS (Q := Q) hret (by rfl) (by k_asm) (by k_asm)
end
end Mine
namespace Mine
local macro_rules | `(tactic| walk_at $s:str) => `(tactic| k_extra $s)
theorem ln_slice {x : Str} {n : Nat} {a b : Option Int} (h : x.length ≤ n) : (Txt.slice x a b).length ≤ n := Nat.le_trans (Txt.slice_le x a b) h
theorem ln_app {x y : Str} {n m : Nat} (h : x.length ≤ n) (k : y.length ≤ m) : (x ++ y).length ≤ n + m := by rw [PySem.Str.length_append]; omega
theorem ln_int {a : Int} (h : a.natAbs < 10 ^ 9) : (Str.ofString (toString a)).length ≤ 10 := by
  rw [PySem.ofString_length]; exact int_text_length_le10 (by decide) h
theorem ln_two {a : Int} (h0 : 0 ≤ a) (h : a < 100) : (lawTwo a).length ≤ 10 := ln_slice (ln_int (by omega))
theorem fdiv_in {c : Int} (h0 : 0 ≤ c) (h1 : c < 86400) : 0 ≤ c.fdiv 3600 ∧ c.fdiv 3600 < 24 := by
  rw [Int.fdiv_eq_ediv_of_nonneg c (by decide)]; omega
theorem fmod_in60 (c : Int) : 0 ≤ c.fmod 60 ∧ c.fmod 60 < 60 := by
  rw [Int.fmod_eq_emod_of_nonneg c (by decide)]; omega
structure JV (v : Int) (h₀ : Heap) (L : Addr) (m : Str → Option Value) (news : List (Addr × Obj)) (s : Shared) (x : Value) (s' : Shared) : Prop where
  val : ∃ t : Tok, x = .int v t
  here : KJoinAt h₀ L m news s s'
def JB2 (P : Prop) : Prop := P
section
variable {M : Model} {A : Around} {E : Value → Shared → Prop} {s : Shared} {env : Env} {h₀ : Heap} {L : Addr} {m : Str → Option Value} {news : List (Addr × Obj)}
theorem join_if {test a b : PySem.Expr} {pos : Pos} {c : Bool} {va vb : Int} {Q : Value → Shared → Prop} (_F : Fr h₀ L s.heap m) (_N : News h₀ L s.heap news)
    (hc : wpAny M A (isTrue test env (eval test env)) (fun k s₂ => KJoinC c h₀ L m news s k s₂) E s)
    (ha : KJoinB1 (c = true → ∀ s₂, KJoinAt h₀ L m news s s₂ → wpAny M A (eval a env) (fun x s₃ => JV va h₀ L m news s x s₃) E s₂))
    (hb : KJoinB1 (c = false → ∀ s₂, KJoinAt h₀ L m news s s₂ → wpAny M A (eval b env) (fun x s₃ => JV vb h₀ L m news s x s₃) E s₂))
    (hk : JB2 (∀ (t : Tok) (s₃ : Shared), KJoinAt h₀ L m news s s₃ → Q (.int (if c = true then va else vb) t) s₃)) :
    wpAny M A (eval (.IfExp test a b pos) env) Q E s := by
  refine IfExp_ (wpAny_mono hc (fun k s₂ hkc => ?_) fun _ _ h => h)
  obtain ⟨hkc, hat⟩ := hkc
  subst hkc
  cases k with
  | true =>
    refine wpAny_mono (ha rfl s₂ hat) (fun x s₃ hx => ?_) fun _ _ h => h
    obtain ⟨⟨t, rfl⟩, ht⟩ := hx
    have := hk t s₃ ht
    simpa using this
  | false =>
    refine wpAny_mono (hb rfl s₂ hat) (fun x s₃ hx => ?_) fun _ _ h => h
    obtain ⟨⟨t, rfl⟩, ht⟩ := hx
    have := hk t s₃ ht
    simpa using this
end
local macro_rules | `(tactic| kt_len) => `(tactic| first
  | ((with_reducible show PySem.Str.length (lawTwo _) ≤ _); exact ln_two (by omega) (by omega))
  | ((with_reducible show PySem.Str.length (Str.ofString (toString _)) ≤ _); exact ln_int (by omega))
  | ((with_reducible show PySem.Str.length (Str.ofString _) ≤ _); exact Nat.le_of_ble_eq_true (m := 40) rfl)
  | ((with_reducible show PySem.Str.length (Txt.slice _ _ _) ≤ _); refine' ln_slice ?ka; (case ka => kt_len))
  | ((with_reducible show PySem.Str.length (Txt.mul _ _) ≤ _); refine' len_mul_leN (N := 4) ?ka ?kb; (case ka => kt_len); (case kb => omega))
  | ((with_reducible show PySem.Str.length (_ ++ _) ≤ _); refine' ln_app ?ka ?kb; (case ka => kt_len); (case kb => kt_len)))
section
variable {w : World} {mean : ExcName → Option Value} {mg mb : Str → Option Value}
set_option maxRecDepth 100000
set_option maxHeartbeats 8000000
theorem c_line (y mo d c h : Int) (t1 t2 t3 t4 t5 : Tok) (hy : 1 ≤ y ∧ y ≤ 12000) (hm : 1 ≤ mo ∧ mo ≤ 12) (hd9 : 1 ≤ d ∧ d ≤ 31) (hc9 : 0 ≤ c ∧ c < 86400) (hh9 : h = 4 ∨ h = 5) : LClaim w mean mg mb 4 70 [.int y t1, .int mo t2, .int d t3, .int c t4, .int h t5] (fun t => .str (lawLine y mo d c h) t) := by
  dsimp only [LClaim, FClaim, CbRet]
  k_fill
  w_on
  k_with_none
  k_with "subscriptTail" => ((k_here; (with_reducible show wpAny _ _ (subscriptTail _ _ (Value.ref _) (Value.int _ _)) _ _ _); kmn_open; (with_unfolding_all
       (refine' topListAny ?q9F ?q9X ?q9l ?q9i ?q9k3 ?q9k4 ?q9k5 ?_; (case q9F => k_asm); (case q9X => k_asm); (case q9l => k_is); (case q9i => l_ints); (case q9k3 => l_idx); (case q9k4 => l_idx); (case q9k5 => l_idx); k_whole)); intro _))
  k_with "eval Call Name" => (((with_reducible show wpAny _ _ (eval (Expr.Call (Expr.Name _ _) _ [] _) _) _ _ _); refine Call_ ?_))
  k_with "call ref" => ((k_here; (with_reducible show wpAny _ _ (call (Value.ref 63) [Value.int _ _]) _ _ _); (k_dflt (refine' c_two _ _ ?q9p1 ?q9p2 _ _ _ _ _ _ _ _ _ _ _ _ _ _ _ _ _ _ ?q9k1 ?q9k2 ?q9k3 ?q9k4 ?q9k5 ?q9k6 ?q9k7 ?q9k8 ?_; (case q9p1 => omega); (case q9p2 => omega); (case q9k1 => k_asm); (case q9k2 => k_asm); (case q9k3 => k_asm); (case q9k4 => k_asm); (case q9k5 => k_asm); (case q9k6 => first | exact rfl | assumption); (case q9k7 => ktr_room); (case q9k8 => ktr_units))); intro t9 h9 tk9 F9 N9; (try dsimp only); (try k_fold)))
  k_with "JV" => (exact ⟨⟨_, rfl⟩, ⟨⟨_, _, rfl, by assumption, by assumption⟩⟩⟩)
  k_with "JB2" => (((show ∀ _ _, _ → _); intro t' s' hJ'; obtain ⟨h', tk', e', F'', N''⟩ := KJoinAt.at_ hJ'; subst e'; (try dsimp only)))
  k_with "eval IfExp" => ((k_here; (rename Fr _ _ _ _ => lF'); (rename News _ _ _ _ => lN'); k_dflt (refine' join_if lF' lN' ?_ ?_ ?_ ?_)))
  intro news dp un gd cn cs a ccd cl outer A₀ base h₀ L m s Q E hB hF hX hN hT hk hd hu hret
  have hf1 := fdiv_in hc9.1 hc9.2
  have hf2 := fmod_in60 (c.fdiv 60)
  have hf3 := fmod_in60 c
  refine wpAny_call ?_
  k_dflt cell_enter
  k_steps
  all_goals exact cb_retS (Q := Q) hret (by rfl) (by k_asm) (by k_asm)
end
end Mine
namespace Mine
local macro_rules | `(tactic| walk_at $s:str) => `(tactic| k_extra $s)

section
variable {w : World} {mean : ExcName → Option Value} {mg mb : Str → Option Value}
set_option maxRecDepth 100000
set_option maxHeartbeats 8000000
theorem c_fmt (ra : Addr) (n : Nat) (y mo d hh mi ss wd : Int) (z : Str) (t1 t2 t3 t4 t5 t6 t7 t8 : Tok) (hz : z.length ≤ 1000) (hy : 1 ≤ y ∧ y ≤ 12000) (hm : 1 ≤ mo ∧ mo ≤ 12) (hd9 : 1 ≤ d ∧ d ≤ 31) (hh9 : 0 ≤ hh ∧ hh < 24) (hmi : 0 ≤ mi ∧ mi < 60) (hss : 0 ≤ ss ∧ ss < 60) (hwd : 0 ≤ wd ∧ wd < 7) :
  ∀ (news : List (Addr × Obj)) (dp un : Nat) (gd : Option (List Code)) (cn : Str) (cs : Scope) (a : Addr) (ccd : Value) (cl : List (Str × Addr)) (outer : List Env) (A₀ : Around) (base h₀ : Heap) (L : Addr) (m : Str → Option Value) (s : Shared) (Q E : Value → Shared → Prop),
    Below A₀ base outer h₀ → Fr h₀ L s.heap m → (hd.heap_39 w.params).In h₀ → News h₀ L s.heap ((ra, ({ cls := .type "tuple", data := .seq #[.int y t1, .int mo t2, .int d t3, .int hh t4, .int mi t5, .int ss t6, .int wd t7] n } : Obj)) :: news) →
    Top hd.view_39 (looseW hd.view_39 [Str.ofString "_DAYS_IN_MONTH", Str.ofString "_DAYS_BEFORE_MONTH"]) mean mg mb h₀ → cs.kind = .function → dp + 2 < recursionLimit → un + 8 * 2 < cLine →
    (∀ (t : Tok) (h' : Heap) (tk' : Nat), Fr h₀ L h' m → News h₀ L h' ((ra, ({ cls := .type "tuple", data := .seq #[.int y t1, .int mo t2, .int d t3, .int hh t4, .int mi t5, .int ss t6, .int wd t7] n } : Obj)) :: news) → Q (.str (fmtLine y mo d hh mi ss wd z) t) { s with heap := h', toks := tk' }) →
    wpAny (model PySem.Challenge.rw_kl0454_01.row.prog w) (ktrTop dp un gd cn cs L a ccd cl outer) (call (.ref 21) [.ref ra, .str z t8]) Q E s := by
  k_fill
  w_on
  k_with_none
  k_with "eval Call Name" => (((with_reducible show wpAny _ _ (eval (Expr.Call (Expr.Name _ _) _ [] _) _) _ _ _); refine Call_ ?_))
  k_with "binaryOp Mod str ref" => ((k_here; (with_reducible show wpAny _ _ (binaryOp Operator.Mod (Value.str _ _) (Value.ref _)) _ _ _); k_dflt (refine' KPt.mod_tuple ?q9kptN ?q9kptb ?q9kptF ?q9kptm ?_; (case q9kptN => k_asm); (case q9kptb => k_mem); (case q9kptF => kpt_eq); (case q9kptm => exact fmt_meets (wdName_len _) (moName_len _) (by assumption) ⟨by omega, by omega⟩ ⟨by omega, by omega⟩ ⟨by omega, by omega⟩ ⟨by omega, by omega⟩ ⟨by omega, by omega⟩)); intro _ _))
  k_with "table" => skip
  intro news dp un gd cn cs a ccd cl outer A₀ base h₀ L m s Q E hB hF hX hN hT hk hd hu hret
  refine wpAny_call ?_
  k_dflt cell_enter
  k_steps
  all_goals exact cb_retS (Q := Q) hret (by rfl) (by k_asm) (by (refine' cb_drop ?cbN ?cbS; (case cbN => assumption); (case cbS => kcj_all)))
end
end Mine
namespace Mine
/-- a branch of the joined if: what the frame holds behind it -/
structure JS (J : (Str → Option Value) → Prop) (h₀ : Heap) (L : Addr) (news : List (Addr × Obj)) (s : Shared) (f : Flow) (s' : Shared) : Prop where
  next : f = .next
  here : ∃ m', J m' ∧ KJoinAt h₀ L m' news s s'
def JB3 (P : Prop) : Prop := P
section
variable {M : Model} {A : Around} {E : Value → Shared → Prop} {s : Shared} {env : Env} {h₀ : Heap} {L : Addr} {m : Str → Option Value} {news : List (Addr × Obj)}
theorem join_stmt {test : PySem.Expr} {b1 b2 : List Stmt} {pos : Pos} {c : Bool} {J : (Str → Option Value) → Prop} {Q : Flow → Shared → Prop} (_F : Fr h₀ L s.heap m) (_N : News h₀ L s.heap news)
    (hc : wpAny M A (isTrue test env (eval test env)) (fun k s₂ => KJoinC c h₀ L m news s k s₂) E s)
    (ha : KJoinB1 (c = true → ∀ s₂, KJoinAt h₀ L m news s s₂ → wpAny M A (execs b1 env) (fun f s₃ => JS J h₀ L news s f s₃) E s₂))
    (hb : KJoinB1 (c = false → ∀ s₂, KJoinAt h₀ L m news s s₂ → wpAny M A (execs b2 env) (fun f s₃ => JS J h₀ L news s f s₃) E s₂))
    (hk : ∀ (m' : Str → Option Value) (h : Heap) (tk : Nat), J m' → Fr h₀ L h m' → News h₀ L h news → Q .next { s with heap := h, toks := tk }) :
    wpAny M A (exec (.If test b1 b2 pos) env) Q E s := by
  refine wpAny_If (wpAny_mono hc (fun k s₂ hkc => ?_) fun _ _ h => h)
  obtain ⟨hkc, hat⟩ := hkc
  subst hkc
  have fin : ∀ (f : Flow) (s₃ : Shared), JS J h₀ L news s f s₃ → Q f s₃ := by
    rintro f s₃ ⟨rfl, m', hJ, ⟨h, tk, rfl, F, N⟩⟩
    exact hk m' h tk hJ F N
  cases k with
  | true => exact wpAny_mono (ha rfl s₂ hat) fin fun _ _ h => h
  | false => exact wpAny_mono (hb rfl s₂ hat) fin fun _ _ h => h
theorem store_as {x : Str} {v v' : Int} {t : Tok} {Q : Unit → Shared → Prop} (e : v = v') (h : wpAny M A (storeName env x (.int v' t)) Q E s) : wpAny M A (storeName env x (.int v t)) Q E s := by
  rw [e]; exact h
end
/-- what the frame holds behind `if kind == 2` -/
structure JDay (n : Int) (m : Str → Option Value) (m' : Str → Option Value) : Prop where
  clock : ∃ t, m' (Str.ofString "clock") = some (.int (ckN n) t)
  month : ∃ t, m' (Str.ofString "month") = some (.int (moN n) t)
  day : ∃ t, m' (Str.ofString "day") = some (.int (dyN n) t)
  rest : ∀ z, z ≠ Str.ofString "clock" → z ≠ Str.ofString "month" → z ≠ Str.ofString "day" → z ≠ Str.ofString "longest" → m' z = m z
theorem JDay.frame {n : Int} {m m' : Str → Option Value} (h : JDay n m m') : ∃ t1 t2 t3 u, m' = fun y => if y = Str.ofString "clock" then some (.int (ckN n) t1) else if y = Str.ofString "month" then some (.int (moN n) t2) else if y = Str.ofString "day" then some (.int (dyN n) t3) else if y = Str.ofString "longest" then u else m y := by
  obtain ⟨t1, h1⟩ := h.clock
  obtain ⟨t2, h2⟩ := h.month
  obtain ⟨t3, h3⟩ := h.day
  refine ⟨t1, t2, t3, m' (Str.ofString "longest"), funext fun y => ?_⟩
  by_cases e1 : y = Str.ofString "clock"
  · rw [if_pos e1, e1, h1]
  · rw [if_neg e1]
    by_cases e2 : y = Str.ofString "month"
    · rw [if_pos e2, e2, h2]
    · rw [if_neg e2]
      by_cases e3 : y = Str.ofString "day"
      · rw [if_pos e3, e3, h3]
      · rw [if_neg e3]
        by_cases e4 : y = Str.ofString "longest"
        · rw [if_pos e4, e4]
        · rw [if_neg e4]
          exact h.rest y e1 e2 e3 e4
section
variable {M : Model} {A : Around} {E : Value → Shared → Prop} {s : Shared} {env : Env} {h₀ : Heap} {L : Addr} {m : Str → Option Value} {news : List (Addr × Obj)}
theorem join_day {n : Int} {t : Tok} {test : PySem.Expr} {b1 b2 : List Stmt} {pos : Pos} {c : Bool} {Q : Flow → Shared → Prop} (F : Fr h₀ L s.heap m) (N : News h₀ L s.heap news) (_hn : m (Str.ofString "kind") = some (.int (kdN n) t))
    (hc : wpAny M A (isTrue test env (eval test env)) (fun k s₂ => KJoinC c h₀ L m news s k s₂) E s)
    (ha : KJoinB1 (c = true → ∀ s₂, KJoinAt h₀ L m news s s₂ → wpAny M A (execs b1 env) (fun f s₃ => JS (JDay n m) h₀ L news s f s₃) E s₂))
    (hb : KJoinB1 (c = false → ∀ s₂, KJoinAt h₀ L m news s s₂ → wpAny M A (execs b2 env) (fun f s₃ => JS (JDay n m) h₀ L news s f s₃) E s₂))
    (hk : JB3 (∀ (m' : Str → Option Value) (h : Heap) (tk : Nat), JDay n m m' → Fr h₀ L h m' → News h₀ L h news → Q .next { s with heap := h, toks := tk })) :
    wpAny M A (exec (.If test b1 b2 pos) env) Q E s := join_stmt F N hc ha hb hk
theorem js_end {n : Int} {m' : Str → Option Value} {h : Heap} {tk : Nat} {vc vm vd : Int} {tc tm td : Tok} (F : Fr h₀ L h m') (N : News h₀ L h news)
    (a : m' (Str.ofString "clock") = some (.int vc tc)) (b : m' (Str.ofString "month") = some (.int vm tm)) (c : m' (Str.ofString "day") = some (.int vd td))
    (ea : vc = ckN n) (eb : vm = moN n) (ec : vd = dyN n)
    (r : ∀ z, z ≠ Str.ofString "clock" → z ≠ Str.ofString "month" → z ≠ Str.ofString "day" → z ≠ Str.ofString "longest" → m' z = m z) : JS (JDay n m) h₀ L news s .next { s with heap := h, toks := tk } :=
  ⟨rfl, m', ⟨⟨_, ea ▸ a⟩, ⟨_, eb ▸ b⟩, ⟨_, ec ▸ c⟩, r⟩, ⟨⟨h, tk, rfl, F, N⟩⟩⟩
end
theorem bne_off {a b : Int} (h : a = b) : (a != b) = false := by simp [h]
theorem eqb_tt {P : Prop} [Decidable P] {b : Bool} (hb : b = true) (h : P) : (decide P == b) = true := by simp [hb, h]
theorem eqb_tf {P : Prop} [Decidable P] {b : Bool} (hb : b = true) (h : ¬ P) : (decide P == b) = false := by simp [hb, h]
theorem eqb_ft {P : Prop} [Decidable P] {b : Bool} (hb : b = false) (h : ¬ P) : (decide P == b) = true := by simp [hb, h]
theorem eqb_ff {P : Prop} [Decidable P] {b : Bool} (hb : b = false) (h : P) : (decide P == b) = false := by simp [hb, h]
theorem beq_on {a b : Int} (h : a = b) : (a == b) = true := by simp [h]
theorem beq_off {a b : Int} (h : a ≠ b) : (a == b) = false := by simp [h]
theorem ck2 {n : Int} (h : kdN n = 2) : ck0N n * 6 + (ptN n).fmod 6 = ckN n := by unfold ckN; rw [if_pos h]
theorem ck1 {n : Int} (h : ¬ kdN n = 2) : ck0N n = ckN n := by unfold ckN; rw [if_neg h]
theorem mo2 {n : Int} (h : kdN n = 2) : ((ptN n).fdiv 6).fmod 12 + 1 = moN n := by unfold moN; rw [if_pos h]
theorem mo1 {n : Int} (h : ¬ kdN n = 2) : 11 - 8 * kdN n = moN n := by unfold moN; rw [if_neg h]
theorem dy1 {n : Int} (h : ¬ kdN n = 2) : 7 + 7 * kdN n - shN (yrN n) + (ptN n).fmod 2 * 7 = dyN n := by unfold dyN; rw [if_neg h]
theorem dy2a {n : Int} (h : kdN n = 2) (hm : ((ptN n).fdiv 6).fmod 12 + 1 = 2) : (if (if isLeap (yrN n) = true then 29 else 28) < ((ptN n).fdiv 72).fmod 31 + 1 then (if isLeap (yrN n) = true then 29 else 28) else ((ptN n).fdiv 72).fmod 31 + 1) = dyN n := by
  have e : lgM (yrN n) (moN n) = (if isLeap (yrN n) = true then 29 else 28) := by unfold lgM; rw [if_pos ((mo2 h).symm.trans hm)]
  unfold dyN; rw [if_pos h, e]
theorem dy2b {n : Int} (h : kdN n = 2) (hm : ¬ ((ptN n).fdiv 6).fmod 12 + 1 = 2) : (if 31 - ((((ptN n).fdiv 6).fmod 12 + 1 - 1).fmod 7).fmod 2 < ((ptN n).fdiv 72).fmod 31 + 1 then 31 - ((((ptN n).fdiv 6).fmod 12 + 1 - 1).fmod 7).fmod 2 else ((ptN n).fdiv 72).fmod 31 + 1) = dyN n := by
  have e : lgM (yrN n) (moN n) = 31 - ((((ptN n).fdiv 6).fmod 12 + 1 - 1).fmod 7).fmod 2 := by unfold lgM; rw [← mo2 h, if_neg hm]
  unfold dyN; rw [if_pos h, e]
end Mine
namespace Mine
local macro_rules | `(tactic| walk_at $s:str) => `(tactic| k_extra $s)
local macro_rules | `(tactic| k_ne) => `(tactic| (refine neN ?_; (try dsimp only); first | exact Nat.ne_of_lt (by walk_at "lt and") | exact Nat.ne_of_gt (by walk_at "lt and") | omega))
local macro_rules | `(tactic| kd_adr) => `(tactic| (refine List.forall_mem_cons.mpr ⟨?zkh, ?zkt⟩; (case zkh => ((try dsimp only); first | exact Nat.ne_of_lt (by walk_at "lt and") | exact Nat.ne_of_gt (by walk_at "lt and") | (refine neN ?_; omega))); (case zkt => kd_adr)))
set_option maxRecDepth 100000 in
set_option maxHeartbeats 400000000 in
theorem law_true : PySem.Challenge.rw_kl0454_01.Holds := hd (by
  w_on
  k_with_none
  k_with "exec For Name BinOp cons nil" => ((rename Fr _ _ _ _ => lF'); (with_unfolding_all refine' For_invVF lF' ?k1 ?k2 ?_; (case k1 => exact rfl); (case k2 => exact rfl); k_whole))
  k_with "pyIter ref" => (k_of "number" => k_dat (fun (pre : List Int) (a : List Dat) (b : List Dat) => Wd pre a b) "by_number*" "by_figures*")
  k_with "state" => exact wd_start
  k_go0
  all_goals try k_fold
  iterate 45 (first | (k_unfold; (try dsimp only)) | (k_end; wrow_close) | walk1 | (dsimp only; walk1))
  walk1
  walk1
  · k_with_none
    k_with "lt and" => (first
        | with_reducible assumption
        | exact And.left (by with_reducible assumption)
        | exact And.left (And.right (by with_reducible assumption))
        | exact And.left (And.right (And.right (by with_reducible assumption)))
        | exact And.left (And.right (And.right (And.right (by with_reducible assumption))))
        | exact And.left (And.right (And.right (And.right (And.right (by with_reducible assumption)))))
        | exact And.left (And.right (And.right (And.right (And.right (And.right (by with_reducible assumption))))))
        | exact And.left (And.right (And.right (And.right (And.right (And.right (And.right (by with_reducible assumption)))))))
        | exact And.left (And.right (And.right (And.right (And.right (And.right (And.right (And.right (by with_reducible assumption))))))))
        | exact And.left (And.right (And.right (And.right (And.right (And.right (And.right (And.right (And.right (by with_reducible assumption)))))))))
        | exact And.left (And.right (And.right (And.right (And.right (And.right (And.right (And.right (And.right (And.right (by with_reducible assumption))))))))))
        | exact And.left (And.right (And.right (And.right (And.right (And.right (And.right (And.right (And.right (And.right (And.right (by with_reducible assumption)))))))))))
        | exact And.left (And.right (And.right (And.right (And.right (And.right (And.right (And.right (And.right (And.right (And.right (And.right (by with_reducible assumption))))))))))))
        | exact And.left (And.right (And.right (And.right (And.right (And.right (And.right (And.right (And.right (And.right (And.right (And.right (And.right (by with_reducible assumption)))))))))))))
        | exact And.left (And.right (And.right (And.right (And.right (And.right (And.right (And.right (And.right (And.right (And.right (And.right (And.right (And.right (by with_reducible assumption))))))))))))))
        | exact And.left (And.right (And.right (And.right (And.right (And.right (And.right (And.right (And.right (And.right (And.right (And.right (And.right (And.right (And.right (by with_reducible assumption))))))))))))))))
    k_with "eval Call Name" => (((with_reducible show wpAny _ _ (eval (Expr.Call (Expr.Name _ _) _ [] _) _) _ _ _); refine Call_ ?_))
    k_with "JV" => (exact ⟨⟨_, rfl⟩, ⟨⟨_, _, rfl, by assumption, by assumption⟩⟩⟩)
    k_with "JB2" => (((show ∀ _ _, _ → _); intro t' s' hJ'; obtain ⟨h', tk', e', F'', N''⟩ := KJoinAt.at_ hJ'; subst e'; (try dsimp only)))
    k_with "JB3" => (((show ∀ _ _ _, _ → _ → _ → _); intro m' h' tk' hJ' F' N'; obtain ⟨t1', t2', t3', u', e'⟩ := JDay.frame hJ'; subst e'; clear hJ'; (try dsimp only)))
    k_with "eval IfExp" => ((k_here; (rename Fr _ _ _ _ => lF'); (rename News _ _ _ _ => lN'); k_dflt (refine' join_if lF' lN' ?_ ?_ ?_ ?_)))
    k_with "exec If" => ((k_here; (with_reducible show wpAny _ _ (exec (Stmt.If (Expr.Compare (Expr.Name (Str.ofString "kind") _) _ _ _) _ _ _) _) _ _ _); (rename Fr _ _ _ _ => lF'); (rename News _ _ _ _ => lN'); k_dflt (refine' join_day lF' lN' ?q9hn ?_ ?_ ?_ ?_); (case q9hn => with_unfolding_all rfl)))
    k_with "JS" => ((k_dflt (refine' js_end ?q9F ?q9N ?q9a ?q9b ?q9c ?q9ea ?q9eb ?q9ec ?q9r; (case q9F => k_asm); (case q9N => k_asm); (case q9a => with_unfolding_all rfl); (case q9b => with_unfolding_all rfl); (case q9c => with_unfolding_all rfl); (case q9ea => walk_at "day vals"); (case q9eb => walk_at "day vals"); (case q9ec => walk_at "day vals"); (case q9r => (intro z h1 h2 h3 h4; simp only [h1, h2, h3, h4, if_false])))))
    k_with "day vals" => (first | exact ck2 (by assumption) | exact ck1 (by assumption) | exact mo2 (by assumption) | exact mo1 (by assumption) | exact dy1 (by assumption) | exact dy2a (by assumption) (by assumption) | exact dy2b (by assumption) (by assumption))
    k_with "storing" => (k_dflt (refine' storeX_L ?q9F ?q9N ?_ ?q9a ?q9b; (case q9F => k_asm); (case q9N => k_asm); (case q9a => rfl); (case q9b => rfl); k_whole; intro h' F' N'; (try k_sweep); (try dsimp only at F' N' ⊢)))
    k_with "storeName" => ((k_here; first
        | ((with_reducible show wpAny _ _ (storeName _ (Str.ofString "clock") (Value.int (Int.fmod _ 14400) _)) _ _ _); refine store_as (v' := ck0N _) rfl ?_; walk_at "storing")
        | ((with_reducible show wpAny _ _ (storeName _ (Str.ofString "kind") (Value.int _ _)) _ _ _); refine store_as (v' := kdN _) rfl ?_; walk_at "storing")
        | ((with_reducible show wpAny _ _ (storeName _ (Str.ofString "year") (Value.int _ _)) _ _ _); refine store_as (v' := yrN _) rfl ?_; walk_at "storing")
        | ((with_reducible show wpAny _ _ (storeName _ (Str.ofString "part") (Value.int _ _)) _ _ _); refine store_as (v' := ptN _) rfl ?_; walk_at "storing")
        | ((with_reducible show wpAny _ _ (storeName _ (Str.ofString "shift") (Value.int _ _)) _ _ _); refine store_as (v' := shN _) rfl ?_; walk_at "storing")
        | ((with_reducible show wpAny _ _ (storeName _ (Str.ofString "spring") (Value.int _ _)) _ _ _); refine store_as (v' := spN _) rfl ?_; walk_at "storing")
        | ((with_reducible show wpAny _ _ (storeName _ (Str.ofString "autumn") (Value.int _ _)) _ _ _); refine store_as (v' := auN _) rfl ?_; walk_at "storing")
        | ((with_reducible show wpAny _ _ (storeName _ (Str.ofString "coming") (Value.int _ _)) _ _ _); refine store_as (v' := spN _) rfl ?_; walk_at "storing")
        | ((with_reducible show wpAny _ _ (storeName _ (Str.ofString "weeks") (Value.int _ _)) _ _ _); refine store_as (v' := wkN _) rfl ?_; walk_at "storing")
        | ((with_reducible show wpAny _ _ (storeName _ (Str.ofString "days") (Value.int _ _)) _ _ _); refine store_as (v' := daysOf _ _ _) rfl ?_; walk_at "storing")
        | ((with_reducible show wpAny _ _ (storeName _ (Str.ofString "hour") (Value.int _ _)) _ _ _); refine store_as (v' := hourOf _ _ _) rfl ?_; walk_at "storing")
        | ((with_reducible show wpAny _ _ (storeName _ (Str.ofString "gap") (Value.int _ _)) _ _ _); refine store_as (v' := gapOf _) rfl ?_; walk_at "storing")
        | ((with_reducible show wpAny _ _ (storeName _ (Str.ofString "fold") (Value.int _ _)) _ _ _); refine store_as (v' := foldOf _) rfl ?_; walk_at "storing")))
    k_with "got" => (((case q9k1 => k_asm); (case q9k2 => k_asm); (case q9k3 => k_asm); (case q9k4 => k_asm); (case q9k5 => k_asm); (case q9k6 => first | exact rfl | assumption); (case q9k7 => ktr_room); (case q9k8 => ktr_units)))
    k_with "call ref" => ((k_here; (with_reducible show wpAny _ _ (call (Value.ref 35) [Value.int _ _]) _ _ _); (k_dflt (refine' c_is_leap _ _ _ _ _ _ _ _ _ _ _ _ _ _ _ _ _ _ _ _ ?q9k1 ?q9k2 ?q9k3 ?q9k4 ?q9k5 ?q9k6 ?q9k7 ?q9k8 ?_; walk_at "got")); intro t9 h9 tk9 F9 N9; (try dsimp only); (try k_fold)))
    k_with "call ref" => ((k_here; (with_reducible show wpAny _ _ (call (Value.ref 42) [Value.int _ _]) _ _ _); (k_dflt (refine' c_dby _ _ _ _ _ _ _ _ _ _ _ _ _ _ _ _ _ _ _ _ ?q9k1 ?q9k2 ?q9k3 ?q9k4 ?q9k5 ?q9k6 ?q9k7 ?q9k8 ?_; walk_at "got")); intro t9 h9 tk9 F9 N9; (try dsimp only); (try k_fold)))
    k_with "call ref" => ((k_here; (with_reducible show wpAny _ _ (call (Value.ref 49) [Value.int _ _, Value.int _ _]) _ _ _); (k_dflt (refine' c_dbm _ _ _ _ ?q9p1 ?q9p2 _ _ _ _ _ _ _ _ _ _ _ _ _ _ _ _ _ _ ?q9k1 ?q9k2 ?q9k3 ?q9k4 ?q9k5 ?q9k6 ?q9k7 ?q9k8 ?_; (case q9p1 => omega); (case q9p2 => omega); walk_at "got")); intro t9 h9 tk9 F9 N9; (try dsimp only); (try k_fold)))
    k_with "call ref" => ((k_here; (with_reducible show wpAny _ _ (call (Value.ref 56) [Value.int _ _, Value.int _ _]) _ _ _); (k_dflt (refine' c_lsun _ _ _ _ ?q9p1 ?q9p2 _ _ _ _ _ _ _ _ _ _ _ _ _ _ _ _ _ _ ?q9k1 ?q9k2 ?q9k3 ?q9k4 ?q9k5 ?q9k6 ?q9k7 ?q9k8 ?_; (case q9p1 => decide); (case q9p2 => decide); walk_at "got")); intro t9 h9 tk9 F9 N9; (try dsimp only); (try k_fold)))
    k_with "eval Name" => ((k_here; (first | (with_reducible show wpAny _ _ (eval (Expr.Name (Str.ofString "_is_leap") _) _) _ _ _) | (with_reducible show wpAny _ _ (eval (Expr.Name (Str.ofString "_days_before_year") _) _) _ _ _) | (with_reducible show wpAny _ _ (eval (Expr.Name (Str.ofString "_days_before_month") _) _) _ _ _) | (with_reducible show wpAny _ _ (eval (Expr.Name (Str.ofString "_law_sunday") _) _) _ _ _) | (with_reducible show wpAny _ _ (eval (Expr.Name (Str.ofString "_law_line") _) _) _ _ _) | (with_reducible show wpAny _ _ (eval (Expr.Name (Str.ofString "_format_timetuple_and_zone") _) _) _ _ _)); k_dflt (refine' nameX_K ?q9F ?q9X ?q9T ?q9e ?_ ?q9a ?q9b; (case q9F => k_asm); (case q9X => k_asm); (case q9T => k_asm); (case q9a => rfl); (case q9b => rfl); (case q9e => k_is))))
    k_with "callWith ref" => ((k_here; k_dflt (refine' callWith_K ?q9k1 ?q9k2 ?_; (case q9k1 => k_asm); (case q9k2 => k_is))))
    k_with "exec For Name Tuple cons nil" => ((k_here; (rename ZFacts _ => hz); (rcases ZFacts.out hz with ⟨z1, z2, z3, z4, z5⟩ | ⟨z1, z2, z3, z4, z5, z6, z7⟩ | ⟨z1, z2, z3, z4, z5, z6, z7, z8, z9⟩ | ⟨z1, z2, z3, z4, z5, z6⟩ | ⟨z1, z2, z3, z4, z5, z6, z7, z8, z9⟩) <;> clear hz))
    k_with "ite" => (first
        | (with_reducible refine ite_neg Bool.false_ne_true ?_)
        | (with_reducible refine ite_pos (rfl : true = true) ?_)
        | ((with_reducible show if (decide _ == _) = true then _ else _); first
          | refine ite_pos (eqb_tt rfl (by with_reducible assumption)) ?_
          | refine ite_isFalse (eqb_tf rfl (by with_reducible assumption)) ?_
          | refine ite_pos (eqb_ft rfl (by with_reducible assumption)) ?_
          | refine ite_isFalse (eqb_ff rfl (by with_reducible assumption)) ?_)
        | ((with_reducible show if ((_ : Int) == _) = true then _ else _); first
          | refine ite_pos (beq_on (by with_reducible assumption)) ?_
          | refine ite_isFalse (beq_off (by with_reducible assumption)) ?_)
        | ((with_reducible show if (_ != _) = true then _ else _); refine ite_isFalse (bne_off (by with_reducible assumption)) ?_)
        | ((with_reducible show if decide _ = true then _ else _); refine ite_isFalse (decide_eq_false (by with_reducible assumption)) ?_)
        | ((with_reducible show if decide _ = true then _ else _); refine ite_pos (decide_eq_true (by with_reducible assumption)) ?_))
    k_with "execs nil" => (refine wpAny_execs_nil ?_)
    k_with "pyIter ref" => ((k_here; (with_reducible show wpAny _ _ (pyIter (Value.ref _)) (fun it s₂ => TurnsAt _ _ _ _ _ _ _ _ _ it s₂) _ _); (k_dflt (refine' iter_tupTurns ?q9a ?q9b ?q9c ?q9d ?q9e ?q9f ?_; (case q9a => rfl); (case q9b => k_asm); (case q9c => k_asm); (case q9d => k_mem); (case q9e => rfl); (case q9f => rfl))); intro I' l1; (have l2 := l1); (try k_lt l2); (try dsimp only [List.map])))
    k_with "UnrEndW" => (first
        | (k_dflt (refine' unr0 ?q9l ?q9F ?q9N ?q9B ?_; (case q9l => assumption); (case q9F => k_asm); (case q9N => k_asm); (case q9B => rfl)); refine ⟨⟨by k_mem, trivial⟩, ?_⟩)
        | (k_dflt (refine' unr1 ?q9l ?q9F ?q9N ?q9h ?q9B ?_; (case q9l => assumption); (case q9F => k_asm); (case q9N => k_asm); (case q9h => (refine ltN ?_; (try dsimp only); omega)); (case q9B => rfl)); refine ⟨⟨by k_mem, trivial⟩, ?_⟩)
        | (k_dflt (refine' unr2 ?q9l ?q9F ?q9N ?q9h ?q9g ?q9B ?_; (case q9l => assumption); (case q9F => k_asm); (case q9N => k_asm); (case q9h => (refine ltN ?_; (try dsimp only); omega)); (case q9g => (refine ltN ?_; (try dsimp only); omega)); (case q9B => rfl)); refine ⟨⟨by k_mem, trivial⟩, ?_⟩)
        | (k_dflt (refine' unr02 ?q9l ?q9F ?q9N ?q9h ?q9g ?q9B ?_; (case q9l => assumption); (case q9F => k_asm); (case q9N => k_asm); (case q9h => (refine ltN ?_; (try dsimp only); omega)); (case q9g => (refine ltN ?_; (try dsimp only); omega)); (case q9B => rfl)); refine ⟨⟨by k_mem, trivial⟩, ?_⟩)
        | (k_dflt (refine' unr11 ?q9l ?q9F ?q9N ?q9h ?q9g ?q9B ?_; (case q9l => assumption); (case q9F => k_asm); (case q9N => k_asm); (case q9h => (refine ltN ?_; (try dsimp only); omega)); (case q9g => (refine ltN ?_; (try dsimp only); omega)); (case q9B => rfl)); refine ⟨⟨by k_mem, trivial⟩, ?_⟩)
        | (k_dflt (refine' unr22 ?q9l ?q9F ?q9N ?q9h ?q9g ?q9e ?q9f ?q9B ?_; (case q9l => assumption); (case q9F => k_asm); (case q9N => k_asm); (case q9h => (refine ltN ?_; (try dsimp only); omega)); (case q9g => (refine ltN ?_; (try dsimp only); omega)); (case q9e => (refine ltN ?_; (try dsimp only); omega)); (case q9f => (refine ltN ?_; (try dsimp only); omega)); (case q9B => rfl)); refine ⟨⟨by k_mem, trivial⟩, ?_⟩))
    k_with "call ref" => ((k_here; (with_reducible show wpAny _ _ (call (Value.ref 21) [Value.ref _, Value.str _ _]) _ _ _); (k_dflt (refine' c_fmt _ _ _ _ _ _ _ _ _ _ _ _ _ _ _ _ _ _ ?q9p1 ?q9p2 ?q9p3 ?q9p4 ?q9p5 ?q9p6 ?q9p7 ?q9p8 _ _ _ _ _ _ _ _ _ _ _ _ _ _ _ _ _ _ ?q9k1 ?q9k2 ?q9k3 ?q9k4 ?q9k5 ?q9k6 ?q9k7 ?q9k8 ?_; (case q9k4 => exact news_front (by k_asm) (by k_mem)); (case q9p1 => decide +kernel); (case q9p2 => exact yr_range _); (case q9p3 => exact mo_range _); (case q9p4 => exact dy_range _); (case q9p5 => exact ck24 _); (case q9p6 => exact fmod_in60 _); (case q9p7 => exact fmod_in60 _); (case q9p8 => exact in7 _); (case q9k1 => k_asm); (case q9k2 => k_asm); (case q9k3 => k_asm); (case q9k5 => k_asm); (case q9k6 => first | exact rfl | assumption); (case q9k7 => ktr_room); (case q9k8 => ktr_units))); intro t9 h9 tk9 F9 N9; (have N8 := news_back N9); clear N9; (try dsimp only); (try k_fold)))
    k_with "call ref" => ((k_here; (with_reducible show wpAny _ _ (call (Value.ref 70) [Value.int _ _, Value.int _ _, Value.int _ _, Value.int _ _, Value.int _ _]) _ _ _); (k_dflt (refine' c_line _ _ _ _ _ _ _ _ _ _ ?q9p1 ?q9p2 ?q9p3 ?q9p4 ?q9p5 _ _ _ _ _ _ _ _ _ _ _ _ _ _ _ _ _ _ ?q9k1 ?q9k2 ?q9k3 ?q9k4 ?q9k5 ?q9k6 ?q9k7 ?q9k8 ?_; (case q9p1 => exact yr_range _); (case q9p2 => exact mo_range _); (case q9p3 => exact dy_range _); (case q9p4 => exact ck_range _); (case q9p5 => first | exact Or.inl rfl | exact Or.inr rfl); walk_at "got")); intro t9 h9 tk9 F9 N9; (try dsimp only); (try k_fold)))
    k_with "exec For Name Name cons nil" => ((k_here; (with_reducible show wpAny _ _ (exec (Stmt.For (Expr.Name (Str.ofString "hours") _) (Expr.Name (Str.ofString "zones") _) _ _ _) _) _ _ _); (rename Fr _ _ _ _ => lF'); (with_unfolding_all refine' For_turns lF' ?_)))
    k_with "call builtin:list.append" => (((fail_if_success (with_reducible show wpAny _ _ (call (Value.builtin "list.append") [Value.ref _, _]) _ _ _)); (with_unfolding_all show wpAny _ _ (call (Value.builtin "list.append") [Value.ref _, _]) _ _ _)))
    k_with "state" => (first
      | (have hz9 : zonesOf _ _ _ _ = ([] : List Int) := (by with_reducible assumption); exact wd0 (by with_reducible assumption) hz9)
      | (have hz9 : zonesOf _ _ _ _ = ([4, 5] : List Int) := (by with_reducible assumption); exact wd45 (by with_reducible assumption) hz9)
      | (have hz9 : zonesOf _ _ _ _ = ([4] : List Int) := (by with_reducible assumption); exact wd4 (by with_reducible assumption) hz9)
      | (have hz9 : zonesOf _ _ _ _ = ([5] : List Int) := (by with_reducible assumption); exact wd5 (by with_reducible assumption) hz9))
    have hPl : kPre.length ≤ 13 := by
      have h9 := congrArg List.length kEq
      simp only [List.length_append, List.length_cons, List.length_nil, List.length_take] at h9
      omega
    have hWl1 := kInv.1
    have hWl2 := kInv.2.1
    have hYr := yr_range kN
    have hMo := mo_range kN
    have hDy := dy_range kN
    have hCk := ck_range kN
    have hAS := au_sp (yrN kN)
    have hSA := sp_au (yrN kN)
    have hZ := zfacts kN
    k_steps
  · k_with_none
    k_with "eval ListComp" => (k_dflt (refine LCg.ListComp_U (F₀ := by k_asm) (by with_unfolding_all rfl) (by decide) (by rfl) (by decide) (by rfl) ?_))
    k_with "call builtin:sorted" => ((k_here; (first
        | k_dflt (refine' sorted_num ?q9e ?q9F ?q9N ?q9l ?q9s ?_; (case q9e => assumption); (case q9F => k_asm); (case q9N => k_asm); (case q9l => k_mem); (case q9s => kqd_sub))
        | k_dflt (refine' sorted_fig ?q9e ?q9F ?q9N ?q9l ?q9s ?_; (case q9e => assumption); (case q9F => k_asm); (case q9N => k_asm); (case q9l => k_mem); (case q9s => kqd_sub))); intro D' c' h' its' F' N' R' l1))
    k_with "CompSrc" => ((k_here; (first
        | k_dflt (refine' src_rows (f := numRow) (j := 1) ?q9R (fun _ => rfl) ?q9j ?q9h ?q9F ?q9N (fun _ => rfl) (fun _ => rfl) ?q9x ?_; (case q9R => assumption); (case q9j => decide); (case q9h => rfl); (case q9F => k_asm); (case q9N => k_asm); (case q9x => decide))
        | k_dflt (refine' src_rows (f := figRow) (j := 3) ?q9R (fun _ => rfl) ?q9j ?q9h ?q9F ?q9N (fun _ => rfl) (fun _ => rfl) ?q9x ?_; (case q9R => assumption); (case q9j => decide); (case q9h => rfl); (case q9F => k_asm); (case q9N => k_asm); (case q9x => decide))); intro g' ys' Y'))
    k_with "FinE" => (((unfold LCg.FinE); intro D' h' tk' F' N' o1'; clear o1'; (try dsimp only)))
    k_with "compareOp Eq ref ref" => ((k_here; k_dflt (refine' eq_lines ?q9N ?q9X ?q9Y ?q9a ?q9b ?q9c ?q9d ?q9u ?_; (case q9N => k_asm); (case q9a => k_mem); (case q9c => k_mem); (case q9X => with_reducible assumption); (case q9Y => with_reducible assumption); (case q9b => kqd_sub); (case q9d => kqd_sub); (case q9u => ke_room))))
    have hE := end_facts kInv (by assumption) (by assumption)
    k_steps)
end Mine
theorem PySem.Challenge.cw_kl0454_01_holds : PySem.Challenge.rw_kl0454_01.Holds := by
  exact Mine.law_true
