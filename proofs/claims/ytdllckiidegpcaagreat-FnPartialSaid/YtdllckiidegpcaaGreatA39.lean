/- A part of the walk of laws.FnPartial (part 39): contracts of functions that it comes to, and the plain laws that these lean on. Conditions stand in each contract. -/
import Derived.Test.YtdllckiidegpcaaGreatA35
import Derived.Test.YtdllckiidegpcaaGreatA36
import Derived.Test.YtdllckiidegpcaaGreatA38
set_option linter.unusedSimpArgs false
set_option linter.unusedVariables false
set_option maxHeartbeats 4000000
namespace Go.Proofs.YtdllckiidegpcaaGreat
open Go.RowKit
section
set_option maxRecDepth 8000
theorem widthAt_c (w : World) (n h : Nat) (hn : n ≤ 64) (hh : h ≤ 7) (x y : Int) (hx : x = n) (hy : y = h) : Calls Tryz.prog 64 #[.int .i64 x,.int .i64 y] w fun e w' => e = .returned (.int .i64 (wid n h)) ∧ w = w' := by
 subst hx hy
 have hn1 : (n : Int) ≤ 64 := by omega
 have hn0 : (0 : Int) ≤ n := by omega
 obtain ⟨v,hv⟩ : ∃ v,v = wid n h := ⟨_,rfl⟩
 rw [← hv]
 have HV := hid hv
 clear hv hn
 have hc : h = 0 ∨ h = 1 ∨ h = 2 ∨ h = 3 ∨ h = 4 ∨ h = 5 ∨ h = 6 ∨ h = 7 := by omega
 clear hh
 rcases hc with rfl | rfl | rfl | rfl | rfl | rfl | rfl | rfl
 all_goals
  go_enter Tryz.func64,Tryz.ntmps64
  go_wp2_with fail
  go_ret
  refine ⟨congrArg (fun b => Ending.returned (.int .i64 b)) ?_,rfl⟩
  rw [HV.out,wid]
  simp only [Nat.reducePow]
  omega
/-- The height of the tree over n leaves. -/
def hgt (n : Nat) : Nat := if n ≤ 1 then 0 else if n ≤ 2 then 1 else if n ≤ 4 then 2 else if n ≤ 8 then 3 else if n ≤ 16 then 4 else if n ≤ 32 then 5 else 6
theorem hgt_le (n : Nat) : hgt n ≤ 6 := by
 unfold hgt
 repeat' split
 all_goals omega
theorem wid_hgt_all : ∀ n < 65,∀ h < 7,decide (1 < wid n h) = decide (h < hgt n) := by decide
theorem wid_hgt {n h : Nat} (hn : n ≤ 64) (hh : h ≤ 6) : 1 < wid n h ↔ h < hgt n := by
 have := wid_hgt_all n (by omega) h (by omega)
 simpa using this
theorem heightOf_c (w : World) (n : Nat) (hn : n ≤ 64) (x : Int) (hx : x = n) : Calls Tryz.prog 33 #[.int .i64 x] w fun e w' => e = .returned (.int .i64 (hgt n)) ∧ w = w' := by
 subst hx
 have hn1 : (n : Int) ≤ 64 := by omega
 have hg6 := hgt_le n
 go_enter Tryz.func33,Tryz.ntmps33
 go_wp2_with fail
 go_loopg [3] (hgt n) (fun gk v3 wr => ∃ h,gk = hgt n - h ∧ h ≤ hgt n ∧ v3 = .int .i64 (h : Int) ∧ w = wr)
 case atStart => exact ⟨0,rfl,Nat.zero_le _,rfl,rfl⟩
 case round =>
  obtain ⟨h,rfl,hi,rfl,rfl⟩ := hrel
  have hh7 : (h : Int) ≤ 7 := by omega
  go_wp2_with fail
  refine (widthAt_c w n h hn (by omega) _ _ rfl rfl).mono ?_
  rintro e w' ⟨rfl,rfl⟩
  have hw := wid_hgt hn (show h ≤ 6 by omega)
  by_cases hlt : h < hgt n
  ·have h1 : (1 : Int) < (wid n h : Int) := by have := hw.mpr hlt; omega
   clear hw
   go_wp2_with fail
   go_roundg (hgt n - (h + 1))
   case measure => omega
   case rel => exact ⟨h + 1,rfl,by omega,by simp,rfl⟩
  ·have h1 : ¬ (1 : Int) < (wid n h : Int) := by have := mt hw.mp hlt; omega
   clear hw
   go_wp2_with fail
   go_ret
   have : h = hgt n := by omega
   subst this
   exact ⟨rfl,rfl⟩
/-- Bools out of numbers: 1 is true. -/
def bc (m : List Int) : List Value := m.map fun x => .bool (decide (x = 1))
@[simp] theorem bc_length (m : List Int) : (bc m).length = m.length := by simp [bc]
theorem bc_nth (m : List Int) (i : Nat) (h : i < (bc m).length) : (bc m)[i] = .bool (decide (nth m i = 1)) := by
 have : i < m.length := by simpa using h
 simp [bc,nth_eq _ _ this]
abbrev BoolB (B : Nat) (w : World) (v : Value) (m : List Int) : Prop := RdB B w v m.length (bc m)
theorem meant_true {m : List Int} {h p i : Nat} (h1 : p * 2 ^ h ≤ i) (h2 : i < (p + 1) * 2 ^ h) (hi : i < m.length) (hm : nth m i = 1) : meantB m h p = true := by
 rw [meantB,List.any_eq_true]
 exact ⟨i,List.mem_range.mpr hi,by simp [h1,h2,hm]⟩
theorem meant_false {m : List Int} {h p : Nat} (hn : ∀ j,p * 2 ^ h ≤ j → j < (p + 1) * 2 ^ h → j < m.length → nth m j ≠ 1) : meantB m h p = false := by
 rw [meantB,List.any_eq_false]
 intro j hj
 have := hn j
 simp only [decide_eq_true_eq]
 rintro ⟨a,b,c⟩
 exact this a b (List.mem_range.mp hj) c
theorem meantBelow_c (w : World) (B : Nat) (hBw : B ≤ w.heap.size) (v : Value) (m : List Int) (hv : BoolB B w v m) (hm : m.length ≤ 64) (h p : Nat) (hh : h ≤ 6) (hp : p ≤ 64) (x y : Int) (hx : x = h) (hy : y = p) :
  Calls Tryz.prog 96 #[v,.int .i64 x,.int .i64 y] w fun e w' => e = .returned (.bool (meantB m h p)) ∧ w = w' := by
 subst hx hy
 obtain ⟨a,cap,rfl,_,_,hcs⟩ := hv
 have hm6 : (m.length : Int) ≤ 64 := by omega
 have hp6 : (p : Int) ≤ 64 := by omega
 have hp0 : (0 : Int) ≤ p := by omega
 have HC : Hid (∀ i,i < m.length → ∃ b off,a = some ⟨b,off,none⟩ ∧ b < w.heap.size ∧ w.cell? ⟨b,off + i,none⟩ = some (.bool (decide (nth m i = 1)))) := by
  intro i hi
  rcases hcs with ⟨_,_,he⟩ | ⟨b,off,rfl,hb,hc⟩
  ·have : (bc m).length = 0 := by rw [he]; rfl
   rw [bc_length] at this; omega
  ·exact ⟨b,off,rfl,Nat.lt_of_lt_of_le hb hBw,by rw [hc i (by simpa using hi),bc_nth]⟩
 clear hcs
 obtain ⟨R,hR⟩ : ∃ R,R = meantB m h p := ⟨_,rfl⟩
 obtain ⟨lo,hlo⟩ : ∃ lo,lo = p * 2 ^ h := ⟨_,rfl⟩
 obtain ⟨hi',hhi⟩ : ∃ hi',hi' = (p + 1) * 2 ^ h := ⟨_,rfl⟩
 have HT : Hid (∀ i,lo ≤ i → i < hi' → i < m.length → nth m i = 1 → R = true) := by
  intro i h1 h2 h3 h4; rw [hR]; exact meant_true (by omega) (by omega) h3 h4
 have HN : Hid ((∀ j,lo ≤ j → j < hi' → j < m.length → nth m j ≠ 1) → R = false) := by
  intro h1; rw [hR]; exact meant_false (fun j a b c => h1 j (by omega) (by omega) c)
 rw [← hR]
 clear hR
 have hc : h = 0 ∨ h = 1 ∨ h = 2 ∨ h = 3 ∨ h = 4 ∨ h = 5 ∨ h = 6 := by omega
 clear hh
 rcases hc with rfl | rfl | rfl | rfl | rfl | rfl | rfl
 ·simp only [Nat.reducePow] at hlo hhi
  have HLo := hid hlo
  have HHi := hid hhi
  clear hlo hhi
  go_enter Tryz.func96,Tryz.ntmps96
  go_wp2_with fail
  go_loopg [7] (hi' - lo) (fun gk v7 wr => ∃ (i : Nat) (z : Int),gk = hi' - i ∧ lo ≤ i ∧ i ≤ hi' ∧ v7 = .int .i64 z ∧ Hid (z = i) ∧ Hid (∀ j,lo ≤ j → j < i → j < m.length → nth m j ≠ 1) ∧ w = wr)
  case atStart => exact ⟨lo,_,rfl,Nat.le_refl _,by have := HLo.out; have := HHi.out; omega,rfl,by have := HLo.out; show _ = _; omega,fun j h1 h2 => by omega,rfl⟩
  case round =>
   obtain ⟨i,z,rfl,hi1,hi2,rfl,HZ,HJ,rfl⟩ := hrel
   obtain rfl : z = (i : Int) := HZ.out
   have hz9 : (i : Int) ≤ 5000 := by have := HHi.out; omega
   by_cases hlt : i < hi'
   ·have hA : (i : Int) < (p : Int) + 1 := by have := HHi.out; omega
    by_cases hlm : i < m.length
    ·have hlmi : (i : Int) < m.length := by omega
     obtain ⟨b,off,rfl,hb,hc⟩ := HC.out i hlm
     by_cases h1 : nth m i = 1
     ·have hR := hid (HT.out i hi1 hlt hlm h1)
      rw [decide_eq_true h1] at hc
      clear h1 hlt hlm hi1 hi2
      go_wp2_with fail
      go_ret
      exact ⟨congrArg (fun b => Ending.returned (.bool b)) hR.out.symm,rfl⟩
     ·have HJ2 : Hid (∀ j,lo ≤ j → j < i + 1 → j < m.length → nth m j ≠ 1) := by
       intro j j1 j2 j3
       by_cases e : j = i
       ·subst e; exact h1
       ·exact HJ.out j j1 (by omega) j3
      rw [decide_eq_false h1] at hc
      clear h1 hlm
      go_wp2_with fail
      go_roundg (hi' - (i + 1))
      case measure => omega
      case rel => exact ⟨i + 1,(i : Int) + 1,rfl,by omega,by omega,rfl,by show _ = _; omega,HJ2,rfl⟩
    ·have hlmi : ¬ (i : Int) < m.length := by omega
     have hR : Hid (R = false) := HN.out (fun j j1 j2 j3 => HJ.out j j1 (by omega) j3)
     go_wp2_with fail
     go_ret
     exact ⟨congrArg (fun b => Ending.returned (.bool b)) hR.out.symm,rfl⟩
   ·have hA : ¬ (i : Int) < (p : Int) + 1 := by have := HHi.out; omega
    have hR : Hid (R = false) := HN.out (fun j j1 j2 j3 => HJ.out j j1 (by omega) j3)
    go_wp2_with fail
    go_ret
    exact ⟨congrArg (fun b => Ending.returned (.bool b)) hR.out.symm,rfl⟩
 ·simp only [Nat.reducePow] at hlo hhi
  have HLo := hid hlo
  have HHi := hid hhi
  clear hlo hhi
  go_enter Tryz.func96,Tryz.ntmps96
  go_wp2_with fail
  go_loopg [7] (hi' - lo) (fun gk v7 wr => ∃ (i : Nat) (z : Int),gk = hi' - i ∧ lo ≤ i ∧ i ≤ hi' ∧ v7 = .int .i64 z ∧ Hid (z = i) ∧ Hid (∀ j,lo ≤ j → j < i → j < m.length → nth m j ≠ 1) ∧ w = wr)
  case atStart => exact ⟨lo,_,rfl,Nat.le_refl _,by have := HLo.out; have := HHi.out; omega,rfl,by have := HLo.out; show _ = _; omega,fun j h1 h2 => by omega,rfl⟩
  case round =>
   obtain ⟨i,z,rfl,hi1,hi2,rfl,HZ,HJ,rfl⟩ := hrel
   obtain rfl : z = (i : Int) := HZ.out
   have hz9 : (i : Int) ≤ 5000 := by have := HHi.out; omega
   by_cases hlt : i < hi'
   ·have hA : (i : Int) < ((p : Int) + 1) * 2 := by have := HHi.out; omega
    by_cases hlm : i < m.length
    ·have hlmi : (i : Int) < m.length := by omega
     obtain ⟨b,off,rfl,hb,hc⟩ := HC.out i hlm
     by_cases h1 : nth m i = 1
     ·have hR := hid (HT.out i hi1 hlt hlm h1)
      rw [decide_eq_true h1] at hc
      clear h1 hlt hlm hi1 hi2
      go_wp2_with fail
      go_ret
      exact ⟨congrArg (fun b => Ending.returned (.bool b)) hR.out.symm,rfl⟩
     ·have HJ2 : Hid (∀ j,lo ≤ j → j < i + 1 → j < m.length → nth m j ≠ 1) := by
       intro j j1 j2 j3
       by_cases e : j = i
       ·subst e; exact h1
       ·exact HJ.out j j1 (by omega) j3
      rw [decide_eq_false h1] at hc
      clear h1 hlm
      go_wp2_with fail
      go_roundg (hi' - (i + 1))
      case measure => omega
      case rel => exact ⟨i + 1,(i : Int) + 1,rfl,by omega,by omega,rfl,by show _ = _; omega,HJ2,rfl⟩
    ·have hlmi : ¬ (i : Int) < m.length := by omega
     have hR : Hid (R = false) := HN.out (fun j j1 j2 j3 => HJ.out j j1 (by omega) j3)
     go_wp2_with fail
     go_ret
     exact ⟨congrArg (fun b => Ending.returned (.bool b)) hR.out.symm,rfl⟩
   ·have hA : ¬ (i : Int) < ((p : Int) + 1) * 2 := by have := HHi.out; omega
    have hR : Hid (R = false) := HN.out (fun j j1 j2 j3 => HJ.out j j1 (by omega) j3)
    go_wp2_with fail
    go_ret
    exact ⟨congrArg (fun b => Ending.returned (.bool b)) hR.out.symm,rfl⟩
 ·simp only [Nat.reducePow] at hlo hhi
  have HLo := hid hlo
  have HHi := hid hhi
  clear hlo hhi
  go_enter Tryz.func96,Tryz.ntmps96
  go_wp2_with fail
  go_loopg [7] (hi' - lo) (fun gk v7 wr => ∃ (i : Nat) (z : Int),gk = hi' - i ∧ lo ≤ i ∧ i ≤ hi' ∧ v7 = .int .i64 z ∧ Hid (z = i) ∧ Hid (∀ j,lo ≤ j → j < i → j < m.length → nth m j ≠ 1) ∧ w = wr)
  case atStart => exact ⟨lo,_,rfl,Nat.le_refl _,by have := HLo.out; have := HHi.out; omega,rfl,by have := HLo.out; show _ = _; omega,fun j h1 h2 => by omega,rfl⟩
  case round =>
   obtain ⟨i,z,rfl,hi1,hi2,rfl,HZ,HJ,rfl⟩ := hrel
   obtain rfl : z = (i : Int) := HZ.out
   have hz9 : (i : Int) ≤ 5000 := by have := HHi.out; omega
   by_cases hlt : i < hi'
   ·have hA : (i : Int) < ((p : Int) + 1) * 4 := by have := HHi.out; omega
    by_cases hlm : i < m.length
    ·have hlmi : (i : Int) < m.length := by omega
     obtain ⟨b,off,rfl,hb,hc⟩ := HC.out i hlm
     by_cases h1 : nth m i = 1
     ·have hR := hid (HT.out i hi1 hlt hlm h1)
      rw [decide_eq_true h1] at hc
      clear h1 hlt hlm hi1 hi2
      go_wp2_with fail
      go_ret
      exact ⟨congrArg (fun b => Ending.returned (.bool b)) hR.out.symm,rfl⟩
     ·have HJ2 : Hid (∀ j,lo ≤ j → j < i + 1 → j < m.length → nth m j ≠ 1) := by
       intro j j1 j2 j3
       by_cases e : j = i
       ·subst e; exact h1
       ·exact HJ.out j j1 (by omega) j3
      rw [decide_eq_false h1] at hc
      clear h1 hlm
      go_wp2_with fail
      go_roundg (hi' - (i + 1))
      case measure => omega
      case rel => exact ⟨i + 1,(i : Int) + 1,rfl,by omega,by omega,rfl,by show _ = _; omega,HJ2,rfl⟩
    ·have hlmi : ¬ (i : Int) < m.length := by omega
     have hR : Hid (R = false) := HN.out (fun j j1 j2 j3 => HJ.out j j1 (by omega) j3)
     go_wp2_with fail
     go_ret
     exact ⟨congrArg (fun b => Ending.returned (.bool b)) hR.out.symm,rfl⟩
   ·have hA : ¬ (i : Int) < ((p : Int) + 1) * 4 := by have := HHi.out; omega
    have hR : Hid (R = false) := HN.out (fun j j1 j2 j3 => HJ.out j j1 (by omega) j3)
    go_wp2_with fail
    go_ret
    exact ⟨congrArg (fun b => Ending.returned (.bool b)) hR.out.symm,rfl⟩
 ·simp only [Nat.reducePow] at hlo hhi
  have HLo := hid hlo
  have HHi := hid hhi
  clear hlo hhi
  go_enter Tryz.func96,Tryz.ntmps96
  go_wp2_with fail
  go_loopg [7] (hi' - lo) (fun gk v7 wr => ∃ (i : Nat) (z : Int),gk = hi' - i ∧ lo ≤ i ∧ i ≤ hi' ∧ v7 = .int .i64 z ∧ Hid (z = i) ∧ Hid (∀ j,lo ≤ j → j < i → j < m.length → nth m j ≠ 1) ∧ w = wr)
  case atStart => exact ⟨lo,_,rfl,Nat.le_refl _,by have := HLo.out; have := HHi.out; omega,rfl,by have := HLo.out; show _ = _; omega,fun j h1 h2 => by omega,rfl⟩
  case round =>
   obtain ⟨i,z,rfl,hi1,hi2,rfl,HZ,HJ,rfl⟩ := hrel
   obtain rfl : z = (i : Int) := HZ.out
   have hz9 : (i : Int) ≤ 5000 := by have := HHi.out; omega
   by_cases hlt : i < hi'
   ·have hA : (i : Int) < ((p : Int) + 1) * 8 := by have := HHi.out; omega
    by_cases hlm : i < m.length
    ·have hlmi : (i : Int) < m.length := by omega
     obtain ⟨b,off,rfl,hb,hc⟩ := HC.out i hlm
     by_cases h1 : nth m i = 1
     ·have hR := hid (HT.out i hi1 hlt hlm h1)
      rw [decide_eq_true h1] at hc
      clear h1 hlt hlm hi1 hi2
      go_wp2_with fail
      go_ret
      exact ⟨congrArg (fun b => Ending.returned (.bool b)) hR.out.symm,rfl⟩
     ·have HJ2 : Hid (∀ j,lo ≤ j → j < i + 1 → j < m.length → nth m j ≠ 1) := by
       intro j j1 j2 j3
       by_cases e : j = i
       ·subst e; exact h1
       ·exact HJ.out j j1 (by omega) j3
      rw [decide_eq_false h1] at hc
      clear h1 hlm
      go_wp2_with fail
      go_roundg (hi' - (i + 1))
      case measure => omega
      case rel => exact ⟨i + 1,(i : Int) + 1,rfl,by omega,by omega,rfl,by show _ = _; omega,HJ2,rfl⟩
    ·have hlmi : ¬ (i : Int) < m.length := by omega
     have hR : Hid (R = false) := HN.out (fun j j1 j2 j3 => HJ.out j j1 (by omega) j3)
     go_wp2_with fail
     go_ret
     exact ⟨congrArg (fun b => Ending.returned (.bool b)) hR.out.symm,rfl⟩
   ·have hA : ¬ (i : Int) < ((p : Int) + 1) * 8 := by have := HHi.out; omega
    have hR : Hid (R = false) := HN.out (fun j j1 j2 j3 => HJ.out j j1 (by omega) j3)
    go_wp2_with fail
    go_ret
    exact ⟨congrArg (fun b => Ending.returned (.bool b)) hR.out.symm,rfl⟩
 ·simp only [Nat.reducePow] at hlo hhi
  have HLo := hid hlo
  have HHi := hid hhi
  clear hlo hhi
  go_enter Tryz.func96,Tryz.ntmps96
  go_wp2_with fail
  go_loopg [7] (hi' - lo) (fun gk v7 wr => ∃ (i : Nat) (z : Int),gk = hi' - i ∧ lo ≤ i ∧ i ≤ hi' ∧ v7 = .int .i64 z ∧ Hid (z = i) ∧ Hid (∀ j,lo ≤ j → j < i → j < m.length → nth m j ≠ 1) ∧ w = wr)
  case atStart => exact ⟨lo,_,rfl,Nat.le_refl _,by have := HLo.out; have := HHi.out; omega,rfl,by have := HLo.out; show _ = _; omega,fun j h1 h2 => by omega,rfl⟩
  case round =>
   obtain ⟨i,z,rfl,hi1,hi2,rfl,HZ,HJ,rfl⟩ := hrel
   obtain rfl : z = (i : Int) := HZ.out
   have hz9 : (i : Int) ≤ 5000 := by have := HHi.out; omega
   by_cases hlt : i < hi'
   ·have hA : (i : Int) < ((p : Int) + 1) * 16 := by have := HHi.out; omega
    by_cases hlm : i < m.length
    ·have hlmi : (i : Int) < m.length := by omega
     obtain ⟨b,off,rfl,hb,hc⟩ := HC.out i hlm
     by_cases h1 : nth m i = 1
     ·have hR := hid (HT.out i hi1 hlt hlm h1)
      rw [decide_eq_true h1] at hc
      clear h1 hlt hlm hi1 hi2
      go_wp2_with fail
      go_ret
      exact ⟨congrArg (fun b => Ending.returned (.bool b)) hR.out.symm,rfl⟩
     ·have HJ2 : Hid (∀ j,lo ≤ j → j < i + 1 → j < m.length → nth m j ≠ 1) := by
       intro j j1 j2 j3
       by_cases e : j = i
       ·subst e; exact h1
       ·exact HJ.out j j1 (by omega) j3
      rw [decide_eq_false h1] at hc
      clear h1 hlm
      go_wp2_with fail
      go_roundg (hi' - (i + 1))
      case measure => omega
      case rel => exact ⟨i + 1,(i : Int) + 1,rfl,by omega,by omega,rfl,by show _ = _; omega,HJ2,rfl⟩
    ·have hlmi : ¬ (i : Int) < m.length := by omega
     have hR : Hid (R = false) := HN.out (fun j j1 j2 j3 => HJ.out j j1 (by omega) j3)
     go_wp2_with fail
     go_ret
     exact ⟨congrArg (fun b => Ending.returned (.bool b)) hR.out.symm,rfl⟩
   ·have hA : ¬ (i : Int) < ((p : Int) + 1) * 16 := by have := HHi.out; omega
    have hR : Hid (R = false) := HN.out (fun j j1 j2 j3 => HJ.out j j1 (by omega) j3)
    go_wp2_with fail
    go_ret
    exact ⟨congrArg (fun b => Ending.returned (.bool b)) hR.out.symm,rfl⟩
 ·simp only [Nat.reducePow] at hlo hhi
  have HLo := hid hlo
  have HHi := hid hhi
  clear hlo hhi
  go_enter Tryz.func96,Tryz.ntmps96
  go_wp2_with fail
  go_loopg [7] (hi' - lo) (fun gk v7 wr => ∃ (i : Nat) (z : Int),gk = hi' - i ∧ lo ≤ i ∧ i ≤ hi' ∧ v7 = .int .i64 z ∧ Hid (z = i) ∧ Hid (∀ j,lo ≤ j → j < i → j < m.length → nth m j ≠ 1) ∧ w = wr)
  case atStart => exact ⟨lo,_,rfl,Nat.le_refl _,by have := HLo.out; have := HHi.out; omega,rfl,by have := HLo.out; show _ = _; omega,fun j h1 h2 => by omega,rfl⟩
  case round =>
   obtain ⟨i,z,rfl,hi1,hi2,rfl,HZ,HJ,rfl⟩ := hrel
   obtain rfl : z = (i : Int) := HZ.out
   have hz9 : (i : Int) ≤ 5000 := by have := HHi.out; omega
   by_cases hlt : i < hi'
   ·have hA : (i : Int) < ((p : Int) + 1) * 32 := by have := HHi.out; omega
    by_cases hlm : i < m.length
    ·have hlmi : (i : Int) < m.length := by omega
     obtain ⟨b,off,rfl,hb,hc⟩ := HC.out i hlm
     by_cases h1 : nth m i = 1
     ·have hR := hid (HT.out i hi1 hlt hlm h1)
      rw [decide_eq_true h1] at hc
      clear h1 hlt hlm hi1 hi2
      go_wp2_with fail
      go_ret
      exact ⟨congrArg (fun b => Ending.returned (.bool b)) hR.out.symm,rfl⟩
     ·have HJ2 : Hid (∀ j,lo ≤ j → j < i + 1 → j < m.length → nth m j ≠ 1) := by
       intro j j1 j2 j3
       by_cases e : j = i
       ·subst e; exact h1
       ·exact HJ.out j j1 (by omega) j3
      rw [decide_eq_false h1] at hc
      clear h1 hlm
      go_wp2_with fail
      go_roundg (hi' - (i + 1))
      case measure => omega
      case rel => exact ⟨i + 1,(i : Int) + 1,rfl,by omega,by omega,rfl,by show _ = _; omega,HJ2,rfl⟩
    ·have hlmi : ¬ (i : Int) < m.length := by omega
     have hR : Hid (R = false) := HN.out (fun j j1 j2 j3 => HJ.out j j1 (by omega) j3)
     go_wp2_with fail
     go_ret
     exact ⟨congrArg (fun b => Ending.returned (.bool b)) hR.out.symm,rfl⟩
   ·have hA : ¬ (i : Int) < ((p : Int) + 1) * 32 := by have := HHi.out; omega
    have hR : Hid (R = false) := HN.out (fun j j1 j2 j3 => HJ.out j j1 (by omega) j3)
    go_wp2_with fail
    go_ret
    exact ⟨congrArg (fun b => Ending.returned (.bool b)) hR.out.symm,rfl⟩
 ·simp only [Nat.reducePow] at hlo hhi
  have HLo := hid hlo
  have HHi := hid hhi
  clear hlo hhi
  go_enter Tryz.func96,Tryz.ntmps96
  go_wp2_with fail
  go_loopg [7] (hi' - lo) (fun gk v7 wr => ∃ (i : Nat) (z : Int),gk = hi' - i ∧ lo ≤ i ∧ i ≤ hi' ∧ v7 = .int .i64 z ∧ Hid (z = i) ∧ Hid (∀ j,lo ≤ j → j < i → j < m.length → nth m j ≠ 1) ∧ w = wr)
  case atStart => exact ⟨lo,_,rfl,Nat.le_refl _,by have := HLo.out; have := HHi.out; omega,rfl,by have := HLo.out; show _ = _; omega,fun j h1 h2 => by omega,rfl⟩
  case round =>
   obtain ⟨i,z,rfl,hi1,hi2,rfl,HZ,HJ,rfl⟩ := hrel
   obtain rfl : z = (i : Int) := HZ.out
   have hz9 : (i : Int) ≤ 5000 := by have := HHi.out; omega
   by_cases hlt : i < hi'
   ·have hA : (i : Int) < ((p : Int) + 1) * 64 := by have := HHi.out; omega
    by_cases hlm : i < m.length
    ·have hlmi : (i : Int) < m.length := by omega
     obtain ⟨b,off,rfl,hb,hc⟩ := HC.out i hlm
     by_cases h1 : nth m i = 1
     ·have hR := hid (HT.out i hi1 hlt hlm h1)
      rw [decide_eq_true h1] at hc
      clear h1 hlt hlm hi1 hi2
      go_wp2_with fail
      go_ret
      exact ⟨congrArg (fun b => Ending.returned (.bool b)) hR.out.symm,rfl⟩
     ·have HJ2 : Hid (∀ j,lo ≤ j → j < i + 1 → j < m.length → nth m j ≠ 1) := by
       intro j j1 j2 j3
       by_cases e : j = i
       ·subst e; exact h1
       ·exact HJ.out j j1 (by omega) j3
      rw [decide_eq_false h1] at hc
      clear h1 hlm
      go_wp2_with fail
      go_roundg (hi' - (i + 1))
      case measure => omega
      case rel => exact ⟨i + 1,(i : Int) + 1,rfl,by omega,by omega,rfl,by show _ = _; omega,HJ2,rfl⟩
    ·have hlmi : ¬ (i : Int) < m.length := by omega
     have hR : Hid (R = false) := HN.out (fun j j1 j2 j3 => HJ.out j j1 (by omega) j3)
     go_wp2_with fail
     go_ret
     exact ⟨congrArg (fun b => Ending.returned (.bool b)) hR.out.symm,rfl⟩
   ·have hA : ¬ (i : Int) < ((p : Int) + 1) * 64 := by have := HHi.out; omega
    have hR : Hid (R = false) := HN.out (fun j j1 j2 j3 => HJ.out j j1 (by omega) j3)
    go_wp2_with fail
    go_ret
    exact ⟨congrArg (fun b => Ending.returned (.bool b)) hR.out.symm,rfl⟩
end
section
set_option maxRecDepth 8000
/-- Bits in bytes, the lowest first. -/
def pack (m : List Int) : Nat → List Int
 | 0 => List.replicate ((m.length + 7) / 8) 0
 | i + 1 => if nth m i = 1 then setB (pack m i) i else pack m i
theorem pack_length (m : List Int) (i : Nat) : (pack m i).length = (m.length + 7) / 8 := by
 induction i with
 | zero => simp [pack]
 | succ i ih => rw [pack]; split; { rw [setB_length,ih] }; exact ih
theorem pack_u8 (m : List Int) (i : Nat) : U8 (pack m i) := by
 induction i with
 | zero => intro x hx; rw [pack,List.mem_replicate] at hx; omega
 | succ i ih => rw [pack]; split; { exact setB_u8 ih _ }; exact ih
theorem arr_bytesT {w : World} {b n : Nat} {x : List Int} (h : Blk w b 5 (ic .u8 x)) (hx : x.length = n) (hn : n ≤ maxLen) : BytesT w.heap.size w (.slice (some ⟨b,0,none⟩) n n) x := by
 subst hx
 exact ⟨_,_,rfl,Nat.le_refl _,hn,.inr ⟨b,0,_,_,rfl,h.lt,h,fun i hi => by rw [Nat.zero_add]; exact h.cell i hi⟩⟩
set_option maxHeartbeats 1000000 in
theorem partialBytes_c (w : World) (B : Nat) (hBw : B ≤ w.heap.size) (v : Value) (m : List Int) (hv : BoolB B w v m) (hm : m.length ≤ 1000) :
  Calls Tryz.prog 27 #[v] w fun e w' => ∃ v',e = .returned v' ∧ Fr [] w w' ∧ BytesT w'.heap.size w' v' (pack m m.length) := by
 obtain ⟨a,cap,rfl,hq1,hq2,hcs⟩ := hv
 clear hq1 hq2
 have hm6 : (m.length : Int) ≤ 1000 := by omega
 have HC : Hid (∀ i,i < m.length → ∃ b off,a = some ⟨b,off,none⟩ ∧ b < w.heap.size ∧ w.cell? ⟨b,off + i,none⟩ = some (.bool (decide (nth m i = 1)))) := by
  intro i hi
  rcases hcs with ⟨_,_,he⟩ | ⟨b,off,rfl,hb,hc⟩
  ·have : (bc m).length = 0 := by rw [he]; rfl
   rw [bc_length] at this; omega
  ·exact ⟨b,off,rfl,Nat.lt_of_lt_of_le hb hBw,by rw [hc i (by simpa using hi),bc_nth]⟩
 clear hcs
 obtain ⟨n,hn⟩ : ∃ n,n = (m.length + 7) / 8 := ⟨_,rfl⟩
 have hni : ((m.length : Int) + 7) / 8 = (n : Int) := by omega
 have hb1 : Hid (1 * n ≤ 281474976710656) := by show _ ≤ _; omega
 have hb2 : Hid (n ≤ maxLen) := by show _ ≤ _; unfold maxLen; omega
 have Hn := hid hn; clear hn
 have hu29 : Tryz.prog.underlying 29 = some (.slice 5) := by kernel_rfl
 go_enter Tryz.func27,Tryz.ntmps27
 go_wp2_with (with_reducible refine wpList_make (op := ⟨some 9,_,_,_,_,_⟩) rfl 29 _ _ rfl 5 (.int .u8 0) 1 made5 hu29 .i64 .i64 n n ?_ ?_ (Nat.le_refl _) hb1.out hb2.out ?_)
 ·exact congrArg (Value.int .i64) hni
 ·exact congrArg (Value.int .i64) hni
 have HF1 : Hid (Fr [] w (w.alloc (.cells (Array.replicate n (Value.int .u8 0)) 5))) := (Fr.refl _ _).alloc _
 have HR1 : Hid (Blk (w.alloc (.cells (Array.replicate n (Value.int .u8 0)) 5)) w.heap.size 5 (ic .u8 (pack m 0))) := by
  show Blk _ _ _ (ic .u8 (pack m 0))
  rw [pack,← Hn.out,show ic .u8 (List.replicate n 0) = List.replicate n (Value.int .u8 0) by simp [ic]]
  exact Blk.new w (List.replicate n (Value.int .u8 0)) 5
 generalize World.alloc w _ = w1 at HF1 HR1 ⊢
 obtain ⟨R,hR⟩ : ∃ R,R = w.heap.size := ⟨_,rfl⟩
 rw [← hR] at HR1 ⊢
 have HRw : Hid (w.heap.size ≤ R) := by show _ ≤ _; omega
 clear hR
 go_wp2_with fail
 go_loopg [4] (m.length) (fun gk v4 wr => ∃ i,gk = m.length - i ∧ i ≤ m.length ∧ v4 = .int .i64 (i : Int) ∧ Blk wr R 5 (ic .u8 (pack m i)) ∧ Fr [R] w1 wr)
 case atStart => exact ⟨0,rfl,Nat.zero_le _,rfl,HR1.out,Fr.refl _ _⟩
 case round =>
  clear HR1
  obtain ⟨i,rfl,hi,rfl,hb,hf⟩ := hrel
  have HB := hid hb; clear hb
  have HF := hid hf; clear hf
  have HFw : Hid (Fr [] w wr) := HF1.out.andThen HF.out (by intro k hk; simp at hk; subst hk; exact .inr HRw.out)
  by_cases hlt : i < m.length
  ·have hlti : (i : Int) < m.length := by omega
   obtain ⟨b,off,rfl,hbl,hc⟩ := HC.out i hlt
   have hcw : wr.cell? ⟨b,off + i,none⟩ = some (.bool (decide (nth m i = 1))) := by rw [HFw.out.cells.1 _ _ hbl (by simp)]; exact hc
   have hbl2 : b < wr.heap.size := Nat.lt_of_lt_of_le hbl HFw.out.size
   clear hc hbl
   by_cases h1 : nth m i = 1
   ·have HP : Hid (pack m (i + 1) = (pack m i).set (i / 8) (or8 (nth (pack m i) (i / 8)) (i % 8))) := by show _ = _; rw [pack,if_pos h1,setB]
    rw [decide_eq_true h1] at hcw
    clear h1
    have hlen := pack_length m i
    have hp : i / 8 < (pack m i).length := by rw [hlen]; omega
    have hpn : (i : Int) / 8 < (n : Int) := by have := Hn.out; omega
    have e1 : wr.cell? ⟨R,i / 8,none⟩ = some (.int .u8 (nth (pack m i) (i / 8))) := HB.out.int _ hp
    have f1 := HB.out.free (i / 8)
    have hRl := HB.out.lt
    obtain ⟨q,hq⟩ : ∃ q,q = i % 8 := ⟨_,rfl⟩
    have hq7 : q ≤ 7 := by omega
    have hqi : (q : Int) ≤ 7 := by omega
    have hmod : (i : Int) % 8 = (q : Int) := by omega
    have hbd := (pack_u8 m i).bd (i / 8)
    have hob := or_one_bit (nth (pack m i) (i / 8)) q hbd.1 hbd.2 hq7
    rw [← hq] at HP
    have Hp := hid hp
    clear hq hbd hlen hp
    obtain ⟨y,hy⟩ : ∃ y,y = nth (pack m i) (i / 8) := ⟨_,rfl⟩
    rw [← hy] at e1 hob HP
    clear hy
    go_upto_region 6 with fail
    refine qtail 13 (by kernel_rfl) (by kernel_rfl) ?_
    simp only [List.take_succ_cons,List.take_zero,List.drop_succ_cons,List.drop_zero]
    repeat (go_big_quiet_step (fail))
    refine wpQuiet_nil ?_
    go_wp2_with fail
    go_roundg (m.length - (i + 1))
    case measure => omega
    case rel =>
     refine ⟨i + 1,rfl,by omega,by simp, ?_,HF.out.drew.setCell _ _ (by simp)⟩
     have := HB.out.drew.set (i / 8) (.int .u8 (or8 y q))
     rw [ic_set,← HP.out] at this
     exact this
   ·have HP : Hid (pack m (i + 1) = pack m i) := by show _ = _; rw [pack,if_neg h1]
    rw [decide_eq_false h1] at hcw
    clear h1
    go_wp2_with fail
    go_roundg (m.length - (i + 1))
    case measure => omega
    case rel => exact ⟨i + 1,rfl,by omega,by simp,by rw [HP.out]; exact HB.out,HF.out⟩
  ·obtain rfl : i = m.length := by omega
   have hln := pack_length m m.length
   have HBy : Hid (BytesT wr.heap.size wr (.slice (some ⟨R,0,none⟩) n n) (pack m m.length)) := arr_bytesT HB.out (by rw [hln,← Hn.out]) hb2.out
   clear hln
   go_wp2_with fail
   go_ret
   exact ⟨_,rfl,HFw.out,HBy.out⟩
end
section
set_option maxRecDepth 8000
theorem whole_bytes {w : World} {b : Nat} {T : TypeId} {x : List Int} (h : Blk w b T (ic .u8 x)) (hx : x.length = 32) : Bytes w (.slice (some ⟨b,0,none⟩) 32 32) x := arr_bytes h hx (by decide)
theorem sBranch_c (K : List Int) (hK : K.length = 64) (w : World) (hKc : Blk w 1 379 (ic .u32 K)) (x y : List Int) (hx : x.length = 32) (hy : y.length = 32) :
  Calls Tryz.prog 65 #[HFn,arr x,arr y] w fun e w' => e = .returned (arr (H2 K (x ++ y))) ∧ Fr [] w w' := by
 obtain ⟨z,hz⟩ : ∃ z : List Int,z = List.replicate 32 0 := ⟨_,rfl⟩
 have HZl : Hid (z.length = 32) := by rw [hz]; exact List.length_replicate
 have HhK := hid hK; clear hK
 have HhKc := hid hKc; clear hKc
 have Hhx := hid hx; clear hx
 have Hhy := hid hy; clear hy
 go_enter Tryz.func65,Tryz.ntmps65
 go_upto_region 1 with fail
 have HF1 : Hid (Fr [] w (((w.alloc (.cells (ic .u8 x).toArray 22)).alloc (.cells (ic .u8 y).toArray 22)).alloc (.cells (ic .u8 z).toArray 22))) := (((Fr.refl _ _).alloc _).alloc _).alloc _
 have HX1 : Hid (Blk (((w.alloc (.cells (ic .u8 x).toArray 22)).alloc (.cells (ic .u8 y).toArray 22)).alloc (.cells (ic .u8 z).toArray 22)) w.heap.size 22 (ic .u8 x)) := ((Blk.new _ _ _).alloc _).alloc _
 have HY1 : Hid (Blk (((w.alloc (.cells (ic .u8 x).toArray 22)).alloc (.cells (ic .u8 y).toArray 22)).alloc (.cells (ic .u8 z).toArray 22)) (w.heap.size + 1) 22 (ic .u8 y)) := by
  have := (Blk.new (w.alloc (.cells (ic .u8 x).toArray 22)) (ic .u8 y) 22).alloc (.cells (ic .u8 z).toArray 22)
  rwa [show (w.alloc (.cells (ic .u8 x).toArray 22)).heap.size = w.heap.size + 1 by simp] at this
 have HR1 : Hid (Blk (((w.alloc (.cells (ic .u8 x).toArray 22)).alloc (.cells (ic .u8 y).toArray 22)).alloc (.cells (ic .u8 z).toArray 22)) (w.heap.size + 1 + 1) 22 (ic .u8 z)) := by
  have := Blk.new ((w.alloc (.cells (ic .u8 x).toArray 22)).alloc (.cells (ic .u8 y).toArray 22)) (ic .u8 z) 22
  rwa [show ((w.alloc (.cells (ic .u8 x).toArray 22)).alloc (.cells (ic .u8 y).toArray 22)).heap.size = w.heap.size + 1 + 1 by simp] at this
 change Code.wp _ _ _ _ (((w.alloc (.cells (ic .u8 x).toArray 22)).alloc (.cells (ic .u8 y).toArray 22)).alloc (.cells (ic .u8 (List.replicate 32 0)).toArray 22))
 rw [← hz]
 generalize World.alloc (World.alloc (World.alloc w _) _) _ = w1 at HF1 HX1 HY1 HR1 ⊢
 clear hz
 obtain ⟨X,hX⟩ : ∃ X,X = w.heap.size := ⟨_,rfl⟩
 rw [← hX] at HX1 HY1 HR1 ⊢
 obtain ⟨Y,hY⟩ : ∃ Y,Y = X + 1 := ⟨_,rfl⟩
 rw [← hY] at HY1 HR1 ⊢
 obtain ⟨R,hR⟩ : ∃ R,R = Y + 1 := ⟨_,rfl⟩
 rw [← hR] at HR1 ⊢
 have HRw : Hid (w.heap.size ≤ R) := by show _ ≤ _; omega
 clear hX hY hR
 refine seg_begin (fun w' => Fr [R] w1 w') (by kernel_rfl) ?_
 refine seg_quiet (fuel := 5) (by kernel_rfl) (fun d _ _ _ _ h => by cases d <;> exact h) ((Fr.refl _ _).drew) [0,2,4] _ _ (by kernel_rfl) ?_
 simp only [pickL,nthO]
 refine wpQuiet_rfl (HFn) rfl (fun _ => rfl) ?_
 simp only [Act.put,nA,nB,nC]
 refine wpQuiet_rfl (.slice (some ⟨X,0,none⟩) 32 32) rfl (fun _ => rfl) ?_
 simp only [Act.put,nA,nB,nC]
 refine wpQuiet_rfl (.slice (some ⟨Y,0,none⟩) 32 32) rfl (fun _ => rfl) ?_
 simp only [Act.put,nA,nB,nC]
 refine wpQuiet_nil ?_
 refine seg_act 1 rfl rfl (by kernel_rfl) ?_
 go_wp2_with fail
 have HF2 : Hid (Fr [] w1 (w1.drew.alloc (.cells #[] 5))) := (Fr.refl _ _).drew.alloc _
 have HO2 : Hid (Fresh w1.heap.size (w1.drew.alloc (.cells #[] 5)) (.slice (some ⟨w1.drew.heap.size,0,none⟩) 0 0) []) := Fresh.empty w1.drew
 refine ⟨HF2.out.mono (by simp),fun _ => ?_⟩
 change wpAnyH _ _ _ _ _ _ _ _ (w1.drew.alloc (.cells #[] 5))
 generalize World.alloc w1.drew _ = w2 at HF2 HO2 ⊢
 have HX2 := hid (whole_bytes (HX1.out.fr HF2.out (by simp)) Hhx.out)
 refine seg_act 3 (o := ⟨some 10,_,_,_,_,_⟩) rfl rfl (by kernel_rfl) ?_
 refine wpList_appF rfl (.tmp 8) (.tmp 9) rfl w1 _ _ [] x rfl rfl HO2.out HF2.out HX2.out (by rw [Hhx.out]; decide) ?_
 intro v3 w3 HO3 HF3 _
 refine wpList_nil ?_
 simp only [Act.put,nA,nB,nC]
 refine ⟨HF3.out.mono (by simp),fun _ => ?_⟩
 have HY3 := hid (whole_bytes (HY1.out.fr HF3.out (by simp)) Hhy.out)
 refine seg_act 5 (o := ⟨some 12,_,_,_,_,_⟩) rfl rfl (by kernel_rfl) ?_
 refine wpList_appF rfl (.tmp 10) (.tmp 11) rfl w1 _ _ _ y rfl rfl HO3.out HF3.out HY3.out (by rw [Hhy.out]; simp [Hhx.out]) ?_
 intro v4 w4 HO4 HF4 _
 rw [List.nil_append] at HO4
 refine wpList_nil ?_
 simp only [Act.put,nA,nB,nC]
 refine ⟨HF4.out.mono (by simp),fun _ => ?_⟩
 refine seg_act 6 rfl rfl (by kernel_rfl) ?_
 go_wp2_with fail
 refine (hash_c K HhK.out w4 (x ++ y) _ (HhKc.out.fr (HF1.out.trans HF4.out) (by simp)) HO4.out.rd (by rw [List.length_append,Hhx.out,Hhy.out]; decide)).mono ?_
 rintro e w5 ⟨rfl,hf⟩
 have HF5 : Hid (Fr [] w1 w5) := HF4.out.trans hf
 have HR5 := hid (HR1.out.fr HF5.out (by simp))
 clear hf
 have Htl := hid (H2_length K (x ++ y))
 go_wp2_with fail
 refine ⟨HF5.out.mono (by simp),fun _ => ?_⟩
 refine seg_act 7 (o := ⟨none,_,_,_,_,_⟩) rfl rfl (by kernel_rfl) ?_
 refine wpList_storeB rfl 22 (.tmp 6) (.tmp 13) rfl rfl R _ (ic .u8 (H2 K (x ++ y))) HR5.out rfl rfl (by rw [ic_length,ic_length,Htl.out,HZl.out]) (by rw [ic_length,Htl.out]; kernel_rfl) (ic_one _ _) ?_
 intro w6 hf hb
 have HF6 : Hid (Fr [R] w1 w6) := (HF5.out.mono (by simp)).trans hf
 have HR6 := hid hb
 clear hf hb
 refine wpList_nil ?_
 refine ⟨HF6.out,fun _ => ?_⟩
 refine seg_end (by kernel_rfl) ?_
 refine (‹∀ (a : Act) (w : World),Code.wp Tryz.prog Code.ret _ a w → _›) _ _ ?_
 refine wp_ret ?_
 refine ret_arr rfl rfl (.array 32 5) HR6.out rfl rfl (by rw [Htl.out]; kernel_rfl) rfl ?_
 exact ⟨rfl,HF1.out.andThen HF6.out (by intro k hk; simp at hk; subst hk; exact .inr HRw.out)⟩
theorem leaves_c (K : List Int) (hK : K.length = 64) (w : World) (hKc : Blk w 1 379 (ic .u32 K)) (B : Nat) (hBw : B ≤ w.heap.size) (v : Value) (l : List Tx) (hv : ListB B 4 (TxE B) w v l) (hl : l.length ≤ 64) (ht : ∀ t ∈ l,t.Ok ∧ t.Small ∧ (txB t).length ≤ 5000000) :
  Calls Tryz.prog 26 #[HFn,v,.bool false] w fun e w' => ∃ v',e = .returned v' ∧ Fr [] w w' ∧ ListT w'.heap.size 22 32 HashE w' v' (l.map (txH K)) := by
 obtain ⟨a,cap,rfl,hq1,hq2⟩ := hv.len
 clear hq1 hq2
 have hn6 : (l.length : Int) ≤ 64 := by omega
 have HhK := hid hK; clear hK
 have HhKc := hid hKc; clear hKc
 have Hhv := hid hv; clear hv
 have Hht := hid ht; clear ht
 go_enter Tryz.func26,Tryz.ntmps26
 go_wp2_with fail
 go_loopg [7,8] (l.length) (fun gk v7 v8 wr => ∃ i vr,vr = v7 ∧ gk = l.length - i ∧ i ≤ l.length ∧ v8 = .int .i64 (i : Int) ∧ Grows w.heap.size 22 32 HashE wr vr ((l.take i).map (txH K)) ∧ Fr [] w wr)
 case atStart => exact ⟨0,_,rfl,rfl,Nat.zero_le _,rfl,Grows.nil _,Fr.refl _ _⟩
 case round =>
  obtain ⟨i,vr,rfl,rfl,hi,rfl,hg,hf⟩ := hrel
  have HG := hid hg; clear hg
  have HF := hid hf; clear hf
  by_cases hlt : i < l.length
  ·have hlti : (i : Int) < l.length := by omega
   obtain ⟨b,off,cap',c,he,hb,hcl,hrg,hE⟩ := Hhv.out.at hlt (by decide)
   simp only [Value.slice.injEq] at he
   obtain ⟨rfl,_,rfl⟩ := he
   have HRg := hid (hrg w (Below.refl _ _))
   have HRg2 := hid (hrg wr (HF.out.below.mono hBw)); clear hrg
   have HE := hid (hE.below (HF.out.below.mono hBw)); clear hE
   have HCl := hid hcl; clear hcl hb
   have HT := hid (Hht.out _ (List.getElem_mem hlt))
   go_upto_region 5 with fail
   refine wp_region_lit ?_
   refine wpList_run (v := vr) rfl rfl ?_
   simp only [Act.put,nA,nB,nC]
   refine wpList_run (v := HFn) rfl rfl ?_
   simp only [Act.put,nA,nB,nC]
   refine wpList_run (v := .slice (some ⟨b,off,none⟩) l.length cap) rfl rfl ?_
   simp only [Act.put,nA,nB,nC]
   refine wpList_run (v := .int .i64 (i : Int)) rfl rfl ?_
   simp only [Act.put,nA,nB,nC]
   refine wpList_index rfl 26 (.tmp 17) (.tmp 18) rfl b off l.length cap i 4 .i64 39 rfl rfl hlt (by kernel_rfl) (by kernel_rfl) ?_
   simp only [Act.put,nA,nB,nC]
   refine wpList_load_mid rfl 39 (.tmp 19) rfl b (off + i * 4) rfl (c) _ (HRg2.out) rfl rfl (by rw [HCl.out]; kernel_rfl) ?_
   simp only [Act.put,nA,nB,nC]
   go_wp2_with fail
   refine (txid_c K HhK.out wr (HhKc.out.fr HF.out (by simp)) B (Nat.le_trans hBw HF.out.size) c l[i] HT.out.1 HT.out.2.1 HT.out.2.2 HE.out).mono ?_
   rintro e w2 ⟨rfl,hf⟩
   have HF2 := hid (HF.out.trans hf)
   have HG2 := hid (HG.out.fr hf (E' := HashE) (fun _ _ h => h))
   clear hf
   simp only []
   refine (‹∀ (a : Act) (w : World),wpList Tryz.prog _ _ _ a w → _›) _ _ ?_
   refine wpList_hashPush rfl rfl (.tmp 15) (.tmp 21) 22 rfl rfl rfl (by simp) w vr _ (txH K l[i]) (fun _ => rfl) rfl (H2_length _ _) HG2.out HF2.out (by rw [List.length_map,List.length_take]; omega) ?_
   intro v3 w3 HG3 HF3 _
   have HE3 : Hid ((l.take i).map (txH K) ++ [txH K l[i]] = (l.take (i + 1)).map (txH K)) := by show _ = _; rw [List.take_add_one,List.getElem?_eq_getElem hlt,List.map_append]; rfl
   rw [HE3.out] at HG3
   simp only [Act.put,nA,nB,nC]
   clear HE3 HG2 HF2 HG HE HRg HRg2
   generalize arr (txH K l[i]) = V21
   generalize Value.agg c.toArray = V20
   go_wp2_with fail
   go_roundg (l.length - (i + 1))
   case measure => omega
   case rel => exact ⟨i + 1,_,rfl,rfl,by omega,by simp,HG3.out,HF3.out⟩
  ·have HG2 : Hid (Grows w.heap.size 22 32 HashE wr vr (l.map (txH K))) := by have := HG.out; rwa [List.take_of_length_le (by omega)] at this
   go_wp2_with fail
   go_ret
   exact ⟨_,rfl,HF.out,HG2.out.listT⟩
end
section
set_option maxRecDepth 8000
theorem hash_at {B : Nat} {w : World} {v : Value} {hs : List (List Int)} (h : ListB B 32 HashE w v hs) {i : Nat} (hi : i < hs.length) : ∃ b off cap,v = .slice (some ⟨b,off,none⟩) hs.length cap ∧ b < B ∧ ∀ w',Below B w w' → w'.rangeAt b (off + i * 32) (ic .u8 hs[i]) := by
 obtain ⟨b,off,cap,c,h1,h2,h3,h4,h5⟩ := h.at hi (by decide)
 have h5' : c = ic .u8 hs[i] := h5
 subst h5'
 exact ⟨b,off,cap,h1,h2,h4⟩
set_option maxHeartbeats 2000000 in
theorem nodeAt_c (K : List Int) (hK : K.length = 64) (hs : List (List Int)) (hl : ∀ l ∈ hs,l.length = 32) (hn : hs.length ≤ 64) (B : Nat) (v : Value) : ∀ (h : Nat),h ≤ 6 → ∀ (p : Nat),p < wid hs.length h → ∀ (w : World),B ≤ w.heap.size → Blk w 1 379 (ic .u32 K) → ListB B 32 HashE w v hs →
  ∀ (x y : Int),x = h → y = p → Calls Tryz.prog 97 #[HFn,v,.int .i64 x,.int .i64 y] w fun e w' => e = .returned (arr (node K hs h p)) ∧ Fr [] w w' := by
 intro h
 induction h with
 | zero =>
  intro _ p hp w hBw hKc hH x y hx hy
  subst hx hy
  have hp' : p < hs.length := by unfold wid at hp; simpa using hp
  obtain ⟨b,off,cap,rfl,hb,hrg⟩ := hash_at hH hp'
  obtain ⟨z,hz⟩ : ∃ z : List Int,z = List.replicate 32 0 := ⟨_,rfl⟩
  have HZl : Hid (z.length = 32) := by rw [hz]; exact List.length_replicate
  obtain ⟨q,hq⟩ : ∃ q,q = hs[p] := ⟨_,rfl⟩
  have Hql : Hid (q.length = 32) := by rw [hq]; exact hl _ (List.getElem_mem hp')
  have HN : Hid (node K hs 0 p = q) := by show _ = _; rw [hq]; simp [node,List.getElem?_eq_getElem hp']
  have hpi : (p : Int) < hs.length := by omega
  rw [← hq] at hrg
  have HRg := hid hrg
  clear hrg hq hl hKc hH hp
  go_enter Tryz.func97,Tryz.ntmps97
  go_upto_region 2 with fail
  have HF1 : Hid (Fr [] w (w.alloc (.cells (ic .u8 z).toArray 22))) := (Fr.refl _ _).alloc _
  have HR1 : Hid (Blk (w.alloc (.cells (ic .u8 z).toArray 22)) w.heap.size 22 (ic .u8 z)) := Blk.new _ _ _
  change Code.wp _ _ _ _ (w.alloc (.cells (ic .u8 (List.replicate 32 0)).toArray 22))
  rw [← hz]
  generalize World.alloc w _ = w1 at HF1 HR1 ⊢
  clear hz
  refine wp_region_lit ?_
  refine wpList_run (v := .slice (some ⟨b,off,none⟩) hs.length cap) rfl rfl ?_
  simp only [Act.put,nA,nB,nC]
  refine wpList_run (v := .int .i64 (p : Int)) rfl rfl ?_
  simp only [Act.put,nA,nB,nC]
  refine wpList_index rfl 42 (.tmp 12) (.tmp 13) rfl b off hs.length cap p 32 .i64 22 rfl rfl hp' (by kernel_rfl) (by kernel_rfl) ?_
  simp only [Act.put,nA,nB,nC]
  refine wpList_load_mid rfl 22 (.tmp 14) rfl b (off + p * 32) rfl (ic .u8 q) _ (HRg.out w1 (HF1.out.below.mono hBw)) rfl rfl (by rw [ic_length,Hql.out]; kernel_rfl) ?_
  simp only [Act.put,nA,nB,nC]
  refine wpList_storeB rfl 22 (.tmp 8) (.tmp 15) rfl rfl w.heap.size _ (ic .u8 q) HR1.out rfl rfl (by rw [ic_length,ic_length,Hql.out,HZl.out]) (by rw [ic_length,Hql.out]; kernel_rfl) (ic_one _ _) ?_
  intro w6 hf hb6
  refine wpList_nil ?_
  refine (‹∀ (a : Act) (w : World),Code.wp Tryz.prog Code.ret _ a w → _›) _ _ ?_
  refine wp_ret ?_
  simp only [Exit.then]
  refine ret_arr rfl rfl (.array 32 5) hb6 rfl rfl (by rw [Hql.out]; kernel_rfl) rfl ?_
  rw [HN.out]
  exact ⟨rfl,HF1.out.andThen hf (by intro k hk; simp at hk; subst hk; exact .inr (Nat.le_refl _))⟩
 | succ h ih =>
  intro hh p hp w hBw hKc hH x y hx hy
  obtain ⟨a,cap,rfl,hq1,hq2⟩ := hH.len
  clear hq1 hq2
  have hp2 := wid_step hp
  have hpn := wid_le (n := hs.length) (h := h)
  obtain ⟨z,hz⟩ : ∃ z : List Int,z = List.replicate 32 0 := ⟨_,rfl⟩
  have HZl : Hid (z.length = 32) := by rw [hz]; exact List.length_replicate
  have HI := hid ih; clear ih
  have HKc := hid hKc; clear hKc
  have HH := hid hH; clear hH
  have Hp2 := hid hp2
  have hyi : y ≤ 32 := by omega
  have hy0 : 0 ≤ y := by omega
  have hxi : x ≤ 7 := by omega
  have hx1 : 1 ≤ x := by omega
  have hx0 : (x == 0) = false := by simp; omega
  have HX := hid hx
  have HY := hid hy
  have Hhh := hid hh
  have Hpn := hid hpn
  have Hll : Hid ((node K hs h (2 * p)).length = 32) := node_len hl _ _ hp2
  have hn1 : (hs.length : Int) ≤ 64 := by omega
  clear hx hy hp hp2 hh hpn
  go_enter Tryz.func97,Tryz.ntmps97
  go_upto_region 3 with fail
  have HF1 : Hid (Fr [] w (w.alloc (.cells (ic .u8 z).toArray 22))) := (Fr.refl _ _).alloc _
  have HR1 : Hid (Blk (w.alloc (.cells (ic .u8 z).toArray 22)) w.heap.size 22 (ic .u8 z)) := Blk.new _ _ _
  change Code.wp _ _ _ _ (w.alloc (.cells (ic .u8 (List.replicate 32 0)).toArray 22))
  rw [← hz]
  generalize World.alloc w _ = w1 at HF1 HR1 ⊢
  clear hz
  obtain ⟨R,hR⟩ : ∃ R,R = w.heap.size := ⟨_,rfl⟩
  rw [← hR] at HR1 ⊢
  have HRw : Hid (w.heap.size ≤ R) := by show _ ≤ _; omega
  clear hR
  have hB1 : B ≤ w1.heap.size := Nat.le_trans hBw HF1.out.size
  have HH1 := hid (HH.out.below (HF1.out.below.mono hBw) (fun _ _ h => h))
  go_wp2_with fail
  refine (HI.out (by have := Hhh.out; omega) (2 * p) Hp2.out w1 hB1 (HKc.out.fr HF1.out (by simp)) HH1.out _ _ (by have := HX.out; omega) (by have := HY.out; omega)).mono ?_
  rintro e w2 ⟨rfl,hf⟩
  have HF2 := hid hf
  clear hf
  obtain ⟨q,hq⟩ : ∃ q,q = node K hs h (2 * p) := ⟨_,rfl⟩
  rw [← hq] at Hll ⊢
  have Hq := hid hq; clear hq
  simp only []
  refine (‹∀ (a : Act) (w : World),wpList Tryz.prog _ _ _ a w → _›) _ _ ?_
  refine wpList_new rfl rfl 22 (.tmp 22) 9 rfl rfl rfl rfl (by simp [Act.put]) (ic .u8 q) (ic .u8 (List.replicate 32 0)) (fun _ => rfl) (by rw [ic_length,Hll.out]; kernel_rfl) (fun _ => rfl) (by rw [ic_length,ic_length,Hll.out]; simp) (ic_one _ _) ?_
  simp only [Act.put,nA,nB,nC]
  have HF3 : Hid (Fr [] w1 (w2.alloc (.cells (ic .u8 q).toArray 22))) := HF2.out.alloc _
  have HL3 : Hid (Blk (w2.alloc (.cells (ic .u8 q).toArray 22)) w2.heap.size 22 (ic .u8 q)) := Blk.new _ _ _
  have HRL : Hid (R ≠ w2.heap.size) := by have := HR1.out.lt; have := HF2.out.size; show _ ≠ _; omega
  generalize World.alloc w2 _ = w3 at HF3 HL3 ⊢
  obtain ⟨L,hL⟩ : ∃ L,L = w2.heap.size := ⟨_,rfl⟩
  rw [← hL] at HL3 HRL ⊢
  clear hL HF2
  refine wpList_nil ?_
  simp only [Exit.then]
  have HR3 := hid (HR1.out.fr HF3.out (by simp))
  have HFw3 : Hid (Fr [] w w3) := HF1.out.trans HF3.out
  have HH3 := hid (HH.out.below (HFw3.out.below.mono hBw) (fun _ _ h => h))
  have hB3 : B ≤ w3.heap.size := Nat.le_trans hBw HFw3.out.size
  have HK3 := hid (HKc.out.fr HFw3.out (by simp))
  generalize arr q = V22
  go_wp2_with fail
  refine (widthAt_c w3 hs.length h hn (by have := Hhh.out; omega) _ _ rfl (by have := HX.out; omega)).mono ?_
  rintro e w' ⟨rfl,rfl⟩
  by_cases hr : 2 * p + 1 < wid hs.length h
  ·have hri : 2 * y + 1 < (wid hs.length h : Int) := by have := HY.out; omega
   have Hr := hid hr
   have Hrl : Hid ((node K hs h (2 * p + 1)).length = 32) := node_len hl _ _ hr
   clear hr
   go_upto_region 5 with fail
   refine seg_begin (fun w' => Fr [R] w3 w') (by kernel_rfl) ?_
   refine seg_quiet (fuel := 3) (by kernel_rfl) (fun d _ _ _ _ h => by cases d <;> exact h) ((Fr.refl _ _).drew) [0,1,2,3,4,5,6,7,8] _ _ (by kernel_rfl) ?_
   simp only [pickL,nthO]
   refine wpQuiet_rfl (HFn) rfl (fun _ => rfl) ?_
   simp only [Act.put,nA,nB,nC]
   refine wpQuiet_load rfl 22 (.tmp 9) rfl L 0 rfl (ic .u8 q) _ (fun w' hf => (HL3.out.fr hf (by simpa using (Ne.symm HRL.out))).range) rfl rfl (by rw [ic_length,Hll.out]; kernel_rfl) ?_
   simp only [Act.put,nA,nB,nC]
   refine wpQuiet_rfl (HFn) rfl (fun _ => rfl) ?_
   simp only [Act.put,nA,nB,nC]
   refine wpQuiet_rfl (.slice a hs.length cap) rfl (fun _ => rfl) ?_
   simp only [Act.put,nA,nB,nC]
   refine wpQuiet_rfl (.int .i64 x) rfl (fun _ => rfl) ?_
   simp only [Act.put,nA,nB,nC]
   refine wpQuiet_run rfl (.int .i64 (h : Int)) (fun w => by rw [run_sub .i64 3 3 (.tmp 36) _ rfl x 1 rfl rfl,IntWalk.i64_in _ (by omega)]; congr 3; have := HX.out; omega) ?_
   simp only [Act.put,nA,nB,nC]
   refine wpQuiet_rfl (.int .i64 y) rfl (fun _ => rfl) ?_
   simp only [Act.put,nA,nB,nC]
   refine wpQuiet_run rfl (.int .i64 (2 * y)) (fun w => by rw [run_mul .i64 3 3 _ (.tmp 38) rfl 2 y rfl rfl,IntWalk.i64_in _ (by omega)]) ?_
   simp only [Act.put,nA,nB,nC]
   refine wpQuiet_run rfl (.int .i64 (2 * y + 1)) (fun w => by rw [run_add .i64 3 3 (.tmp 39) _ rfl (2 * y) 1 rfl rfl,IntWalk.i64_in _ (by omega)]) ?_
   simp only [Act.put,nA,nB,nC]
   refine wpQuiet_nil ?_
   refine seg_act 9 rfl rfl (by kernel_rfl) ?_
   go_wp2_with fail
   refine (HI.out (by have := Hhh.out; omega) (2 * p + 1) Hr.out w3.drew hB3 HK3.out.drew (HH3.out.below (Below.refl _ _).drew (fun _ _ h => h)) _ _ rfl (by have := HY.out; omega)).mono ?_
   rintro e w4 ⟨rfl,hf⟩
   have HF4 : Hid (Fr [] w3 w4) := (Fr.refl _ _).drew.trans hf
   clear hf
   go_wp2_with fail
   refine ⟨HF4.out.mono (by simp),fun _ => ?_⟩
   refine seg_act 10 rfl rfl (by kernel_rfl) ?_
   go_wp2_with fail
   refine (sBranch_c K hK w4 (HK3.out.fr HF4.out (by simp)) q (node K hs h (2 * p + 1)) Hll.out Hrl.out).mono ?_
   rintro e w5 ⟨rfl,hf⟩
   have HF5 : Hid (Fr [] w3 w5) := HF4.out.trans hf
   clear hf
   have HN : Hid (H2 K (q ++ node K hs h (2 * p + 1)) = node K hs (h + 1) p) := by show _ = _; rw [node,if_pos Hr.out,Hq.out]
   rw [HN.out]
   have Hnl : Hid ((node K hs (h + 1) p).length = 32) := by rw [← HN.out]; exact H2_length _ _
   have HR5 := hid (HR3.out.fr HF5.out (by simp))
   go_wp2_with fail
   refine ⟨HF5.out.mono (by simp),fun _ => ?_⟩
   refine seg_act 11 (o := ⟨none,_,_,_,_,_⟩) rfl rfl (by kernel_rfl) ?_
   refine wpList_storeB rfl 22 (.tmp 8) (.tmp 42) rfl rfl R _ (ic .u8 (node K hs (h + 1) p)) HR5.out rfl rfl (by rw [ic_length,ic_length,Hnl.out,HZl.out]) (by rw [ic_length,Hnl.out]; kernel_rfl) (ic_one _ _) ?_
   intro w6 hf hb
   have HF6 : Hid (Fr [R] w3 w6) := (HF5.out.mono (by simp)).trans hf
   have HR6 := hid hb
   clear hf hb
   refine wpList_nil ?_
   refine ⟨HF6.out,fun _ => ?_⟩
   refine seg_end (by kernel_rfl) ?_
   refine (‹∀ (a : Act) (w : World),Code.wp Tryz.prog Code.ret _ a w → _›) _ _ ?_
   refine wp_ret ?_
   simp only [Exit.then]
   refine ret_arr rfl rfl (.array 32 5) HR6.out rfl rfl (by rw [Hnl.out]; kernel_rfl) rfl ?_
   exact ⟨rfl,HFw3.out.andThen HF6.out (by intro k hk; simp at hk; subst hk; exact .inr HRw.out)⟩
  ·have hri : ¬ (2 * y + 1 < (wid hs.length h : Int)) := by have := HY.out; omega
   have HN : Hid (H2 K (q ++ q) = node K hs (h + 1) p) := by show _ = _; rw [node,if_neg hr,Hq.out]
   clear hr
   go_upto_region 6 with fail
   refine wp_region_lit ?_
   refine wpList_run (v := HFn) rfl rfl ?_
   simp only [Act.put,nA,nB,nC]
   refine wpList_load_mid rfl 22 (.tmp 9) rfl L 0 rfl (ic .u8 q) _ (HL3.out.range) rfl rfl (by rw [ic_length,Hll.out]; kernel_rfl) ?_
   simp only [Act.put,nA,nB,nC]
   refine wpList_load_mid rfl 22 (.tmp 9) rfl L 0 rfl (ic .u8 q) _ (HL3.out.range) rfl rfl (by rw [ic_length,Hll.out]; kernel_rfl) ?_
   simp only [Act.put,nA,nB,nC]
   go_wp2_with fail
   refine (sBranch_c K hK w3 HK3.out q q Hll.out Hll.out).mono ?_
   rintro e w5 ⟨rfl,hf⟩
   have HF5 : Hid (Fr [] w3 w5) := hf
   clear hf
   rw [HN.out]
   have Hnl : Hid ((node K hs (h + 1) p).length = 32) := by rw [← HN.out]; exact H2_length _ _
   have HR5 := hid (HR3.out.fr HF5.out (by simp))
   simp only []
   refine (‹∀ (a : Act) (w : World),wpList Tryz.prog _ _ _ a w → _›) _ _ ?_
   refine wpList_storeB rfl 22 (.tmp 8) (.tmp 46) rfl rfl R _ (ic .u8 (node K hs (h + 1) p)) HR5.out rfl rfl (by rw [ic_length,ic_length,Hnl.out,HZl.out]) (by rw [ic_length,Hnl.out]; kernel_rfl) (ic_one _ _) ?_
   intro w6 hf hb
   have HF6 : Hid (Fr [R] w3 w6) := (HF5.out.mono (by simp)).trans hf
   have HR6 := hid hb
   clear hf hb
   refine wpList_nil ?_
   refine (‹∀ (a : Act) (w : World),Code.wp Tryz.prog Code.ret _ a w → _›) _ _ ?_
   refine wp_ret ?_
   refine ret_arr rfl rfl (.array 32 5) HR6.out rfl rfl (by rw [Hnl.out]; kernel_rfl) rfl ?_
   exact ⟨rfl,HFw3.out.andThen HF6.out (by intro k hk; simp at hk; subst hk; exact .inr HRw.out)⟩
end
section
set_option maxRecDepth 8000
def BoolE (_ : World) (c : List Value) (b : Int) : Prop := c = [.bool (decide (b = 1))]
theorem boolE_b2i (w : World) (mb : Bool) : BoolE w [.bool mb] (b2i mb) := by cases mb <;> rfl
structure BldS (n g : Nat) (w0 : World) (bits : List Int) (fin : List (List Int)) (w : World) : Prop where
 fr : Fr [g] w0 w
 blk : ∃ bv hv,Blk w g 55 [.int .i64 n,bv,hv] ∧ Grows w0.heap.size 4 1 BoolE w bv bits ∧ Grows w0.heap.size 22 32 HashE w hv fin
def BldC (K : List Int) (g : Nat) (hs : List (List Int)) (m : List Int) (v mv : Value) (w0 : World) (h : Nat) : Prop :=
 ∀ (p : Nat),p < wid hs.length h → ∀ (w : World) (bits : List Int) (fin : List (List Int)),BldS hs.length g w0 bits fin w → bits.length + 2 ^ (h + 1) ≤ 100000 → fin.length + 2 ^ (h + 1) ≤ 100000 →
  ∀ (x y : Int),x = h → y = p → Calls Tryz.prog 61 #[.pointer (some ⟨g,0,none⟩),HFn,v,mv,.int .i64 x,.int .i64 y] w fun e w' => e = .returned (.tuple #[]) ∧ BldS hs.length g w0 (bits ++ (trav K hs m h p).1) (fin ++ (trav K hs m h p).2) w'
set_option maxHeartbeats 8000000 in
theorem bld_step (K : List Int) (hK : K.length = 64) (g : Nat) (hs : List (List Int)) (hl : ∀ l ∈ hs,l.length = 32) (hn : hs.length ≤ 64) (m : List Int) (hm : m.length = hs.length) (B : Nat) (v mv : Value) (w0 : World) (hg0 : g < w0.heap.size) (hB0 : B ≤ w0.heap.size)
  (hH : ∀ w,Fr [g] w0 w → ListB B 32 HashE w v hs) (hmb : ∀ w,Fr [g] w0 w → BoolB B w mv m) (hKg : ∀ w,Fr [g] w0 w → Blk w 1 379 (ic .u32 K)) (h : Nat) (hh : h ≤ 6) (ih : ∀ h',h = h' + 1 → BldC K g hs m v mv w0 h') : BldC K g hs m v mv w0 h := by
 intro p hp w bits fin hS hb1 hf1 x y hx hy
 have hpn : p ≤ 64 := Nat.le_trans (Nat.le_of_lt hp) (Nat.le_trans wid_le hn)
 obtain ⟨av,cv,hvs,hq1,hq2⟩ := (hH w0 (Fr.refl _ _)).len
 subst hvs
 obtain ⟨am,cm,hms,hq3,hq4⟩ := (hmb w0 (Fr.refl _ _)).form
 subst hms
 clear hq1 hq2 hq3 hq4
 obtain ⟨bv,hv,hB,hGb,hGh⟩ := hS.blk
 obtain ⟨mb,hmbq⟩ : ∃ mb,mb = meantB m h p := ⟨_,rfl⟩
 obtain ⟨q,hq⟩ : ∃ q,q = node K hs h p := ⟨_,rfl⟩
 have Hql : Hid (q.length = 32) := by rw [hq]; exact node_len hl _ _ hp
 have HMB := hid hmbq
 have HTl : Hid ((h = 0 ∨ mb = false) → trav K hs m h p = ([b2i mb],[q])) := by
  intro hc; rw [hmbq,hq]; exact trav_leaf (by rw [← hmbq]; exact hc)
 have HTn : Hid (∀ h',h = h' + 1 → mb = true → trav K hs m h p = (1 :: ((trav K hs m h' (2 * p)).1 ++ if 2 * p + 1 < wid hs.length h' then (trav K hs m h' (2 * p + 1)).1 else []),(trav K hs m h' (2 * p)).2 ++ if 2 * p + 1 < wid hs.length h' then (trav K hs m h' (2 * p + 1)).2 else [])) := by
  intro h' e1 e2; subst e1; rw [trav,if_pos (by rw [← hmbq]; exact e2)]
 have HQ := hid hq
 clear hq
 have c1 : w.cell? ⟨g,1,none⟩ = some bv := hB.cell_at rfl
 have hgl := hB.lt
 have hx7 : x ≤ 7 := by omega
 have hx0 : 0 ≤ x := by omega
 have hy64 : y ≤ 64 := by omega
 have hy0 : 0 ≤ y := by omega
 have hn1 : (hs.length : Int) ≤ 64 := by omega
 have HX := hid hx
 have HY := hid hy
 have Hp := hid hp
 have Hb1 : Hid (bits.length + 2 ≤ 100000) := by have : 2 ^ (h + 1) ≥ 2 := (by rw [Nat.pow_succ]; have := Nat.two_pow_pos h; omega); show _ ≤ _; omega
 have Hf1 : Hid (fin.length + 2 ≤ 100000) := by have : 2 ^ (h + 1) ≥ 2 := (by rw [Nat.pow_succ]; have := Nat.two_pow_pos h; omega); show _ ≤ _; omega
 have Hb1' := hid hb1
 have Hf1' := hid hf1
 have HS := hid hS
 have HB := hid hB
 have HGb := hid hGb
 have HGh := hid hGh
 have Hhh := hid hh
 have HH := hid hH
 have HMb := hid hmb
 have HKg := hid hKg
 have HIh := hid ih
 have Hpn := hid hpn
 have Hm := hid hm
 clear hx hy hp hb1 hf1 hS hB hGb hGh hh hH hmb hKg ih hpn hm hmbq
 have hBw : B ≤ w.heap.size := Nat.le_trans hB0 HS.out.fr.size
 go_enter Tryz.func61,Tryz.ntmps61
 go_wp2_with fail
 refine (meantBelow_c w B hBw _ m (HMb.out w HS.out.fr) (by rw [Hm.out]; exact hn) h p Hhh.out Hpn.out _ _ HX.out HY.out).mono ?_
 rintro e w' ⟨rfl,rfl⟩
 rw [← HMB.out]
 go_upto_region 1 with fail
 have HC1 := hid c1
 clear c1
 refine wp_region_lit ?_
 refine wpList_run (v := .pointer (some ⟨g,0,none⟩)) rfl rfl ?_
 simp only [Act.put,nA,nB,nC]
 refine wpList_run (v := .pointer (some ⟨g,0,none⟩)) rfl rfl ?_
 simp only [Act.put,nA,nB,nC]
 refine wpList_run (v := .pointer (some ⟨g,0,none⟩)) rfl rfl ?_
 simp only [Act.put,nA,nB,nC]
 refine wpList_run (v := .pointer (some ⟨g,1,none⟩)) rfl rfl ?_
 simp only [Act.put,nA,nB,nC]
 obtain ⟨ab,cb,rfl⟩ := HGb.out.slice
 refine wpList_load1 rfl 53 (.tmp 20) rfl g 1 rfl (.slice ab bits.length cb) _ (HC1.out) rfl rfl ?_
 simp only [Act.put,nA,nB,nC]
 refine wpList_run (v := .bool mb) rfl rfl ?_
 simp only [Act.put,nA,nB,nC]
 refine wpList_bs1 rfl 53 (.tmp 22) rfl 4 1 1 elem53 (by decide) (.bool mb) [.bool mb] rfl rfl rfl ?_
 simp only [Act.put,nA,nB,nC]
 refine wpList_pushS rfl (.tmp 21) (.tmp 23) 53 rfl 4 1 1 elem53 [g] w0 w BoolE (.slice ab bits.length cb) bits rfl #[.bool mb] rfl rfl HGb.out HS.out.fr rfl (by intro u hu; rw [List.mem_singleton] at hu; subst hu; rfl) (fun _ _ _ _ _ _ h => h) (b2i mb) (boolE_b2i _ _) (by have := Hb1.out; omega) ?_
 intro v2 w2 HG2 HF2 HT2 _
 obtain ⟨ab2,cb2,rfl⟩ := HG2.out.slice
 rw [show (bits ++ [b2i mb]).length = bits.length + 1 by simp] at HG2 ⊢
 simp only [Act.put,nA,nB,nC]
 have HB2 : Hid (Blk w2 g 55 [.int .i64 hs.length,.slice ab bits.length cb,hv]) := HB.out.frT HT2.out (by decide)
 have HGh2 : Hid (Grows w0.heap.size 22 32 HashE w2 hv fin) := HGh.out.frT HT2.out (by decide) (fun _ _ h => h)
 clear HC1 HB HGb HGh hgl
 have c1 : w2.cell? ⟨g,1,none⟩ = some (.slice ab bits.length cb) := HB2.out.cell_at rfl
 have f1 := HB2.out.free 1
 have hgl := HB2.out.lt
 go_upto_region 2 with fail
 have hf3 : Fr [g] w2 (w2.setCell ⟨g,1,none⟩ (.slice ab2 (bits.length + 1) cb2)) := (Fr.refl _ _).setCell _ _ (by simp)
 have hT3 : FrT 55 w2 (w2.setCell ⟨g,1,none⟩ (.slice ab2 (bits.length + 1) cb2)) := hf3.frT (fun k hk _ => by simp at hk; subst hk; exact ⟨_,_,HB2.out⟩)
 have HF3 : Hid (Fr [g] w0 (w2.setCell ⟨g,1,none⟩ (.slice ab2 (bits.length + 1) cb2))) := HF2.out.trans hf3
 have HB3 : Hid (Blk (w2.setCell ⟨g,1,none⟩ (.slice ab2 (bits.length + 1) cb2)) g 55 [.int .i64 hs.length,.slice ab2 (bits.length + 1) cb2,hv]) := HB2.out.set 1 (.slice ab2 (bits.length + 1) cb2)
 have HGb3 : Hid (Grows w0.heap.size 4 1 BoolE (w2.setCell ⟨g,1,none⟩ (.slice ab2 (bits.length + 1) cb2)) (.slice ab2 (bits.length + 1) cb2) (bits ++ [b2i mb])) := HG2.out.frT hT3 (by decide) (fun _ _ h => h)
 have HGh3 : Hid (Grows w0.heap.size 22 32 HashE (w2.setCell ⟨g,1,none⟩ (.slice ab2 (bits.length + 1) cb2)) hv fin) := HGh2.out.frT hT3 (by decide) (fun _ _ h => h)
 generalize World.setCell w2 _ _ = w3 at HF3 HB3 HGb3 HGh3 ⊢
 clear hf3 hT3 HB2 HGh2 HG2 HF2 HT2 c1 f1 hgl HS
 obtain ⟨ah,ch,rfl⟩ := HGh3.out.slice
 have hBw3 : B ≤ w3.heap.size := Nat.le_trans hB0 HF3.out.size
 obtain ⟨bb,hbb⟩ : ∃ bb,bb = b2i mb := ⟨_,rfl⟩
 rw [← hbb] at HGb3 HTl
 have HBb := hid hbb; clear hbb
 by_cases hleaf : h = 0 ∨ mb = false
 ·have HTe := hid (HTl.out hleaf)
  have hcase : (x == 0) = true ∨ ((x == 0) = false ∧ mb = false) := by
   rcases hleaf with e | e
   ·left; have := HX.out; simp; omega
   ·by_cases e2 : h = 0
    ·left; have := HX.out; simp; omega
    ·right; refine ⟨?_,e⟩; have := HX.out; simp; omega
  clear hleaf HTl HTn
  rcases hcase with hxb | ⟨hxb,rfl⟩
  all_goals
   go_upto_region 3 with fail
   refine segS_begin (fun w' => FrT 22 w3 w') 14 (by kernel_rfl) ?_
   refine segS_quiet (fuel := 6) (by kernel_rfl) (fun d _ _ _ _ h => by cases d <;> exact h) ((Fr.refl _ _).drew.toT) [0,1,2,3,4,5,6,7,8] _ _ (by kernel_rfl) ?_
   simp only [pickL,nthO]
   refine wpQuiet_rfl (.pointer (some ⟨g,0,none⟩)) rfl (fun _ => rfl) ?_
   simp only [Act.put,nA,nB,nC]
   refine wpQuiet_rfl (.pointer (some ⟨g,0,none⟩)) rfl (fun _ => rfl) ?_
   simp only [Act.put,nA,nB,nC]
   refine wpQuiet_rfl (.pointer (some ⟨g,0,none⟩)) rfl (fun _ => rfl) ?_
   simp only [Act.put,nA,nB,nC]
   refine wpQuiet_rfl (.pointer (some ⟨g,2,none⟩)) rfl (fun _ => rfl) ?_
   simp only [Act.put,nA,nB,nC]
   refine wpQuiet_load1 rfl 42 (.tmp 36) rfl g 2 rfl (.slice ah fin.length ch) _ (fun w' hf => (HB3.out.frT hf (by decide)).cell_at rfl) rfl rfl ?_
   simp only [Act.put,nA,nB,nC]
   refine wpQuiet_rfl (HFn) rfl (fun _ => rfl) ?_
   simp only [Act.put,nA,nB,nC]
   refine wpQuiet_rfl (.slice av hs.length cv) rfl (fun _ => rfl) ?_
   simp only [Act.put,nA,nB,nC]
   refine wpQuiet_rfl (.int .i64 x) rfl (fun _ => rfl) ?_
   simp only [Act.put,nA,nB,nC]
   refine wpQuiet_rfl (.int .i64 y) rfl (fun _ => rfl) ?_
   simp only [Act.put,nA,nB,nC]
   refine wpQuiet_nil ?_
   refine segS_act 9 rfl rfl (by kernel_rfl) ?_
   go_wp2_with fail
   refine (nodeAt_c K hK hs hl hn B _ h Hhh.out p Hp.out w3.drew hBw3 (HKg.out w3 HF3.out).drew (HH.out _ HF3.out.drew) _ _ HX.out HY.out).mono ?_
   rintro e w4 ⟨rfl,hf⟩
   rw [← HQ.out]
   have HF4 : Hid (Fr [] w3 w4) := (Fr.refl _ _).drew.trans hf
   clear hf
   go_wp2_with fail
   refine ⟨fun _ => HF4.out.toT, ?_⟩
   refine segS_act 10 (o := ⟨some 43,_,_,_,_,_⟩) rfl rfl (by kernel_rfl) ?_
   refine wpList_bs1 rfl 42 (.tmp 42) rfl 22 32 32 elem42 (by decide) (arr q) (ic .u8 q) rfl rfl (by rw [ic_length,Hql.out]) ?_
   refine wpList_nil ?_
   simp only [Act.put,nA,nB,nC]
   refine ⟨fun _ => (HF4.out.alloc _).toT, ?_⟩
   refine segS_act 11 (o := ⟨some 44,_,_,_,_,_⟩) rfl rfl (by kernel_rfl) ?_
   refine wpList_hashPush2 rfl (.tmp 37) (.tmp 43) rfl [g] w0 w4 (.slice ah fin.length ch) fin q rfl rfl rfl Hql.out (HGh3.out.fr HF4.out (fun _ _ h => h)) (HF3.out.trans (HF4.out.mono (by simp))) (by have := Hf1.out; omega) ?_
   intro v5 w5 HG5 HF5 HT5 _
   refine wpList_nil ?_
   simp only [Act.put,nA,nB,nC]
   have HT35 : Hid (FrT 22 w3 w5) := HF4.out.toT.trans' HT5.out
   refine ⟨fun _ => HT35.out, ?_⟩
   refine segS_act 12 rfl rfl (by kernel_rfl) ?_
   go_wp2_with fail
   refine ⟨fun _ => HT35.out, ?_⟩
   refine segS_act 13 rfl rfl (by kernel_rfl) ?_
   go_wp2_with fail
   refine ⟨fun _ => HT35.out, ?_⟩
   have HB5 : Hid (Blk w5 g 55 [.int .i64 hs.length,.slice ab2 (bits.length + 1) cb2,.slice ah fin.length ch]) := HB3.out.frT HT35.out (by decide)
   have HGb5 : Hid (Grows w0.heap.size 4 1 BoolE w5 (.slice ab2 (bits.length + 1) cb2) (bits ++ [bb])) := HGb3.out.frT HT35.out (by decide) (fun _ _ h => h)
   obtain ⟨a5,c5,rfl⟩ := HG5.out.slice
   rw [show (fin ++ [q]).length = fin.length + 1 by simp] at HG5 ⊢
   have c2 : w5.cell? ⟨g,2,none⟩ = some (.slice ah fin.length ch) := HB5.out.cell_at rfl
   have f2 := HB5.out.free 2
   have hgl := HB5.out.lt
   refine segS_act 14 rfl rfl (by kernel_rfl) ?_
   go_wp2_with fail
   refine ⟨fun h => absurd rfl h, ?_⟩
   refine segS_end (by kernel_rfl) ?_
   go_wp2_with fail
   refine bodyPost_ret (results_none rfl _ _ _) rfl ?_
   have hf6 : Fr [g] w5 (w5.setCell ⟨g,2,none⟩ (.slice a5 (fin.length + 1) c5)) := (Fr.refl _ _).setCell _ _ (by simp)
   have hT6 : FrT 55 w5 (w5.setCell ⟨g,2,none⟩ (.slice a5 (fin.length + 1) c5)) := hf6.frT (fun k hk _ => by simp at hk; subst hk; exact ⟨_,_,HB5.out⟩)
   rw [HTe.out]
   exact ⟨rfl,⟨HF5.out.trans hf6,_,_,HB5.out.set 2 _,HGb5.out.frT hT6 (by decide) (fun _ _ h => h),HG5.out.frT hT6 (by decide) (fun _ _ h => h)⟩⟩
 ·obtain ⟨h',rfl⟩ : ∃ h',h = h' + 1 := ⟨h - 1,by omega⟩
  have hmt : mb = true := by cases mb; { simp at hleaf }; rfl
  subst hmt
  have HT := hid (HTn.out h' rfl rfl)
  have Hbb : Hid (bb = 1) := HBb.out
  have hxb : (x == 0) = false := by have := HX.out; simp; omega
  have hx1 : 1 ≤ x := by have := HX.out; omega
  have HS3 : Hid (BldS hs.length g w0 (bits ++ [bb]) fin w3) := ⟨HF3.out,_,_,HB3.out,HGb3.out,HGh3.out⟩
  have Hpw : Hid (2 ^ (h' + 1 + 1) = 2 * 2 ^ (h' + 1)) := by show _ = _; rw [Nat.pow_succ]; omega
  have Hln := hid (trav_len K hs m h' (2 * p))
  clear hleaf HTl HTn HB3 HGb3 HGh3 HF3
  go_wp2_with fail
  refine (HIh.out h' rfl (2 * p) (wid_step Hp.out) w3 _ _ HS3.out (by have h1 := Hb1'.out; have h2 := Hpw.out; have h3 := Nat.two_pow_pos (h' + 1); rw [List.length_append]; simp only [List.length_cons,List.length_nil]; omega) (by have h1 := Hf1'.out; have h2 := Hpw.out; have h3 := Nat.two_pow_pos (h' + 1); omega) _ _ (by have := HX.out; omega) (by have := HY.out; omega)).mono ?_
  rintro e w4 ⟨rfl,hS4⟩
  have HS4 := hid hS4
  clear hS4
  go_wp2_with fail
  refine (widthAt_c w4 hs.length h' hn (by have := Hhh.out; omega) _ _ rfl (by have := HX.out; omega)).mono ?_
  rintro e w' ⟨rfl,rfl⟩
  by_cases hr : 2 * p + 1 < wid hs.length h'
  ·have hri : 2 * y + 1 < (wid hs.length h' : Int) := by have := HY.out; omega
   have Hr := hid hr
   clear hr
   go_wp2_with fail
   refine (HIh.out h' rfl (2 * p + 1) Hr.out w4 _ _ HS4.out (by have h1 := Hb1'.out; have h2 := Hpw.out; have h3 := Hln.out; rw [List.length_append,List.length_append]; simp only [List.length_cons,List.length_nil]; omega) (by have h1 := Hf1'.out; have h2 := Hpw.out; have h3 := Hln.out; rw [List.length_append]; omega) _ _ (by have := HX.out; omega) (by have := HY.out; omega)).mono ?_
   rintro e w5 ⟨rfl,hS5⟩
   have HS5 := hid hS5
   clear hS5
   go_wp2_with fail
   go_end0
   refine ⟨rfl, ?_⟩
   have := HS5.out
   rw [HT.out,if_pos Hr.out,if_pos Hr.out]
   rw [Hbb.out] at this
   simpa using this
  ·have hri : ¬ (2 * y + 1 < (wid hs.length h' : Int)) := by have := HY.out; omega
   have Hr := hid hr
   clear hr
   go_wp2_with fail
   go_end0
   refine ⟨rfl, ?_⟩
   have := HS4.out
   rw [HT.out,if_neg Hr.out,if_neg Hr.out]
   rw [Hbb.out] at this
   simpa using this
theorem bld_c (K : List Int) (hK : K.length = 64) (g : Nat) (hs : List (List Int)) (hl : ∀ l ∈ hs,l.length = 32) (hn : hs.length ≤ 64) (m : List Int) (hm : m.length = hs.length) (B : Nat) (v mv : Value) (w0 : World) (hg0 : g < w0.heap.size) (hB0 : B ≤ w0.heap.size)
  (hH : ∀ w,Fr [g] w0 w → ListB B 32 HashE w v hs) (hmb : ∀ w,Fr [g] w0 w → BoolB B w mv m) (hKg : ∀ w,Fr [g] w0 w → Blk w 1 379 (ic .u32 K)) (h : Nat) (hh : h ≤ 6) : BldC K g hs m v mv w0 h := by
 induction h with
 | zero => exact bld_step K hK g hs hl hn m hm B v mv w0 hg0 hB0 hH hmb hKg 0 hh (by omega)
 | succ h ih => exact bld_step K hK g hs hl hn m hm B v mv w0 hg0 hB0 hH hmb hKg (h + 1) hh (fun h' e => by cases e; exact ih (by omega))
end
end Go.Proofs.YtdllckiidegpcaaGreat
