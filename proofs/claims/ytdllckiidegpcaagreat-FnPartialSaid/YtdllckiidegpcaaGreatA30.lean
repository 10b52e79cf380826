/- A part of the walk of laws.FnPartial (part 30): contracts of functions that it comes to, and the plain laws that these lean on. Conditions stand in each contract. -/
import Derived.Test.YtdllckiidegpcaaGreatA19
import Derived.Test.YtdllckiidegpcaaGreatA28
import Derived.Test.YtdllckiidegpcaaGreatA29
set_option linter.unusedSimpArgs false
set_option linter.unusedVariables false
set_option maxHeartbeats 4000000
namespace Go.Proofs.YtdllckiidegpcaaGreat
open Go.RowKit
section
set_option maxRecDepth 8000
def growsB (s : List Int) : Bool := keyB s || multiB s
theorem multi_last {s : List Int} (h : multiB s = true) : nth s (s.length - 1) = 174 := by
 rw [multiB,Bool.and_eq_true,decide_eq_true_eq] at h; exact h.1.2
theorem not_multi_of {s : List Int} {n : Nat} {x : Int} (hl : s.length = n) (hx : nth s (n - 1) = x) (hn : x ≠ 174) : multiB s = false := by
 cases h : multiB s with
 | false => rfl
 | true => exact absurd (by rw [← hx,← hl]; exact multi_last h) hn
theorem pkh_not {s : List Int} (h : pkhB s = true) : multiB s = false := by
 simp only [pkhB,decide_eq_true_eq] at h; exact not_multi_of (n := 25) h.1 h.2.2.2.2.2 (by decide)
theorem sh_not {s : List Int} (h : shB s = true) : multiB s = false := by
 simp only [shB,decide_eq_true_eq] at h; exact not_multi_of (n := 23) h.1 h.2.2.2 (by decide)
theorem prog_not {s : List Int} {m : Nat} (hm : 1 ≤ m ∧ m < 76) (hl : s.length = m + 2) (h0 : nth s 0 = 0) (h1 : nth s 1 = m) : multiB s = false := by
 have t0 : tokAt s 0 = some ([],1) := by
  unfold tokAt; rw [h0]; simp
 have t1 : tokAt s 1 = some ((s.drop 2).take m,m + 2) := by
  unfold tokAt
  simp only [h1]
  rw [if_pos (by omega),if_pos (by simp [hl])]
  simp only [Int.toNat_natCast]
  congr 2; omega
 have e0 : (toks s).1 = [⟨0,[],0⟩,⟨m,(s.drop 2).take m,1⟩] := by
  rw [toks,toksFrom_step (by omega) t0,toksFrom_step (by omega) t1,toksFrom_end (by omega),h0,h1]
 have hs : smallB (m : Int) = false := by simp [smallB]; omega
 rw [multiB,e0]
 simp [mRun,hs]
theorem wpkh_not {s : List Int} (h : wpkhB s = true) : multiB s = false := by
 simp only [wpkhB,decide_eq_true_eq] at h; exact prog_not (m := 20) (by omega) h.1 h.2.1 h.2.2
theorem wsh_not {s : List Int} (h : wshB s = true) : multiB s = false := by
 simp only [wshB,decide_eq_true_eq] at h; exact prog_not (m := 32) (by omega) h.1 h.2.1 h.2.2
/-- A class that tells whether the script is a key's or a multisig's. -/
def ClsR (s : List Int) (w : World) (e : Ending) (w' : World) : Prop := Fr [] w w' ∧ ∃ c : Int,e = .returned (.int .u8 c) ∧ ((c = 1 ∧ growsB s = true) ∨ (c = 6 ∧ growsB s = true) ∨ (0 ≤ c ∧ c ≤ 9 ∧ c ≠ 1 ∧ c ≠ 6 ∧ growsB s = false))
theorem grows_key {s : List Int} (h : keyB s = true) : growsB s = true := by simp [growsB,h]
theorem grows_multi {s : List Int} (h : multiB s = true) : growsB s = true := by simp [growsB,h]
theorem grows_none {s : List Int} (h : keyB s = false) (h2 : multiB s = false) : growsB s = false := by simp [growsB,h,h2]
theorem type0_c (w : World) (B : Nat) (hBw : B ≤ w.heap.size) (v : Value) (s : List Int) (hv : BytesB B w v s) (hu : U8 s) (hs : s.length ≤ 1000000) :
  Calls Tryz.prog 165 #[.int .u16 0,v] w (ClsR s w) := by
 obtain ⟨a,cap,rfl,hq1,hq2⟩ := hv.form
 clear hq1 hq2
 have HV := hid hv; clear hv
 have Hu := hid hu; clear hu
 have Hs := hid hs; clear hs
 go_enter Tryz.func165,Tryz.ntmps165
 go_wp2_with fail
 refine (isKey_c w B hBw _ s HV.out).mono ?_
 rintro e w1 ⟨rfl,hf⟩
 have HF1 : Hid (Fr [] w w1) := hf
 clear hf
 cases hb : keyB s
 case true =>
  have HK := hid hb; clear hb
  go_wp2_with fail
  go_ret
  exact ⟨HF1.out,1,rfl,.inl ⟨rfl,grows_key HK.out⟩⟩
 have HK := hid hb; clear hb
 go_wp2_with fail
 refine (isPkh_c w1 B (Nat.le_trans hBw HF1.out.size) _ s (HV.out.below (HF1.out.below.mono hBw))).mono ?_
 rintro e w2 ⟨rfl,hf⟩
 have HF2 : Hid (Fr [] w w2) := HF1.out.trans hf
 clear hf
 cases hb : pkhB s
 case true =>
  have HA := hid hb; clear hb
  go_wp2_with fail
  go_ret
  exact ⟨HF2.out,2,rfl,.inr (.inr ⟨by omega,by omega,by omega,by omega,grows_none HK.out (pkh_not HA.out)⟩)⟩
 have HA := hid hb; clear hb
 go_wp2_with fail
 refine (isSh_c w2 B (Nat.le_trans hBw HF2.out.size) _ s (HV.out.below (HF2.out.below.mono hBw))).mono ?_
 rintro e w3 ⟨rfl,hf⟩
 have HF3 : Hid (Fr [] w w3) := HF2.out.trans hf
 clear hf
 cases hb : shB s
 case true =>
  have HB' := hid hb; clear hb
  go_wp2_with fail
  go_ret
  exact ⟨HF3.out,4,rfl,.inr (.inr ⟨by omega,by omega,by omega,by omega,grows_none HK.out (sh_not HB'.out)⟩)⟩
 have HB' := hid hb; clear hb
 go_wp2_with fail
 refine (isWpkh_c w3 B (Nat.le_trans hBw HF3.out.size) _ s (HV.out.below (HF3.out.below.mono hBw))).mono ?_
 rintro e w4 ⟨rfl,hf⟩
 have HF4 : Hid (Fr [] w w4) := HF3.out.trans hf
 clear hf
 cases hb : wpkhB s
 case true =>
  have HC := hid hb; clear hb
  go_wp2_with fail
  go_ret
  exact ⟨HF4.out,3,rfl,.inr (.inr ⟨by omega,by omega,by omega,by omega,grows_none HK.out (wpkh_not HC.out)⟩)⟩
 have HC := hid hb; clear hb
 go_wp2_with fail
 refine (isWsh_c w4 B (Nat.le_trans hBw HF4.out.size) _ s (HV.out.below (HF4.out.below.mono hBw))).mono ?_
 rintro e w5 ⟨rfl,hf⟩
 have HF5 : Hid (Fr [] w w5) := HF4.out.trans hf
 clear hf
 cases hb : wshB s
 case true =>
  have HD := hid hb; clear hb
  go_wp2_with fail
  go_ret
  exact ⟨HF5.out,5,rfl,.inr (.inr ⟨by omega,by omega,by omega,by omega,grows_none HK.out (wsh_not HD.out)⟩)⟩
 have HD := hid hb; clear hb
 go_wp2_with fail
 refine (isMulti_c w5 B (Nat.le_trans hBw HF5.out.size) _ s (HV.out.below (HF5.out.below.mono hBw)) Hu.out Hs.out).mono ?_
 rintro e w6 ⟨rfl,hf⟩
 have HF6 : Hid (Fr [] w w6) := HF5.out.trans hf
 clear hf
 cases hb : multiB s
 case true =>
  have HM := hid hb; clear hb
  go_wp2_with fail
  go_ret
  exact ⟨HF6.out,6,rfl,.inr (.inl ⟨rfl,grows_multi HM.out⟩)⟩
 have HM := hid hb; clear hb
 go_wp2_with fail
 refine (null_c w6 B (Nat.le_trans hBw HF6.out.size) _ s (HV.out.below (HF6.out.below.mono hBw)) Hu.out Hs.out).mono ?_
 rintro e w7 ⟨hf,b,rfl⟩
 have HF7 : Hid (Fr [] w w7) := HF6.out.trans hf
 clear hf
 cases b
 ·go_wp2_with fail
  go_ret
  exact ⟨HF7.out,0,rfl,.inr (.inr ⟨by omega,by omega,by omega,by omega,grows_none HK.out HM.out⟩)⟩
 ·go_wp2_with fail
  go_ret
  exact ⟨HF7.out,7,rfl,.inr (.inr ⟨by omega,by omega,by omega,by omega,grows_none HK.out HM.out⟩)⟩
theorem type1_c (w : World) (B : Nat) (hBw : B ≤ w.heap.size) (v : Value) (s : List Int) (hv : BytesB B w v s) :
  Calls Tryz.prog 165 #[.int .u16 1,v] w fun e w' => Fr [] w w' ∧ ∃ c : Int,e = .returned (.int .u8 c) ∧ 0 ≤ c ∧ c ≤ 9 ∧ c ≠ 1 ∧ c ≠ 6 := by
 obtain ⟨a,cap,rfl,hq1,hq2⟩ := hv.form
 clear hq1 hq2
 have HV := hid hv; clear hv
 go_enter Tryz.func165,Tryz.ntmps165
 go_wp2_with fail
 refine (anchor_c w B hBw _ s HV.out).mono ?_
 rintro e w1 ⟨hf,b,rfl⟩
 have HF1 := hid hf; clear hf
 cases b
 ·go_wp2_with fail
  refine (isTr_c w1 B (Nat.le_trans hBw HF1.out.size) _ s (HV.out.below (HF1.out.below.mono hBw))).mono ?_
  rintro e w2 ⟨rfl,hf⟩
  have HF2 : Hid (Fr [] w w2) := HF1.out.trans hf
  clear hf
  generalize trB s = b
  cases b
  ·go_wp2_with fail
   go_ret
   exact ⟨HF2.out,0,rfl,by omega,by omega,by omega,by omega⟩
  ·go_wp2_with fail
   go_ret
   exact ⟨HF2.out,8,rfl,by omega,by omega,by omega,by omega⟩
 ·go_wp2_with fail
  go_ret
  exact ⟨HF1.out,9,rfl,by omega,by omega,by omega,by omega⟩
theorem class_c (w : World) (B : Nat) (hBw : B ≤ w.heap.size) (v : Value) (s : List Int) (hv : BytesB B w v s) (hu : U8 s) (hs : s.length ≤ 1000000) :
  Calls Tryz.prog 142 #[v] w (ClsR s w) := by
 obtain ⟨a,cap,rfl,hq1,hq2⟩ := hv.form
 clear hq1 hq2
 have HV := hid hv; clear hv
 have Hu := hid hu; clear hu
 have Hs := hid hs; clear hs
 go_enter Tryz.func142,Tryz.ntmps142
 go_wp2_with fail
 refine (type0_c w B hBw _ s HV.out Hu.out Hs.out).mono ?_
 rintro e w1 ⟨hf,c,rfl,hc⟩
 have HF1 := hid hf; clear hf
 have HC := hid hc; clear hc
 by_cases h0 : c = 0
 ·subst h0
  have Hg : Hid (growsB s = false) := by rcases HC.out with ⟨h,_⟩ | ⟨h,_⟩ | ⟨_,_,_,_,h⟩ <;> first | exact h | omega
  clear HC
  go_wp2_with fail
  refine (type1_c w1 B (Nat.le_trans hBw HF1.out.size) _ s (HV.out.below (HF1.out.below.mono hBw))).mono ?_
  rintro e w2 ⟨hf,c,rfl,h1,h2,h3,h4⟩
  have HF2 : Hid (Fr [] w w2) := HF1.out.trans hf
  have HCC := hid (And.intro h1 (And.intro h2 (And.intro h3 h4)))
  clear hf h1 h2 h3 h4
  go_wp2_with fail
  go_ret
  exact ⟨HF2.out,c,rfl,.inr (.inr ⟨HCC.out.1,HCC.out.2.1,HCC.out.2.2.1,HCC.out.2.2.2,Hg.out⟩)⟩
 ·have hc0 : (c == 0) = false := by simp [h0]
  clear h0
  go_wp2_with fail
  go_ret
  exact ⟨HF1.out,c,rfl,HC.out⟩
end
section
set_option maxRecDepth 8000
/-- Whether a filter of that flag grows by an output of that script. -/
def growB (flag : Int) (s : List Int) : Bool := decide (flag = 1) || (decide (flag = 2) && growsB s)
/-- The filter behind an output that matched. -/
def mayF (flag : Int) (s : List Int) (f : Blm) (p : OutP) : Blm := if growB flag s then bAdd f (opB p) else f
def MayR (g m a cap : Nat) (st : Int) (f : Blm) (flag : Int) (w : World) (e : Ending) (w' : World) : Prop := e = .returned (.tuple #[]) ∧ Fr [a] w w' ∧ FltAt w' g m a cap st f flag
theorem maybe_c (w : World) (B : Nat) (hBw : B ≤ w.heap.size) (g m a cap : Nat) (st : Int) (f : Blm) (flag : Int) (hF : FltAt w g m a cap st f flag) (hfl : 0 ≤ flag ∧ flag ≤ 2) (v : Value) (s : List Int) (hv : BytesB B w v s) (hu : U8 s) (hs : s.length ≤ 1000000)
  (hb0 o : Nat) (p : OutP) (hp : p.Ok) (hh : w.rangeAt hb0 o (ic .u8 p.hash)) (hlt : hb0 < w.heap.size) (h1 : 1 ≤ f.bytes.length) (h2 : f.bytes.length ≤ 1000000) (h3 : 1 ≤ f.funcs) (h4 : f.funcs ≤ 50) (hb : U8 f.bytes) :
  Calls Tryz.prog 109 #[.pointer (some ⟨g,0,none⟩),v,.pointer (some ⟨hb0,o,none⟩),.int .u32 p.idx] w (MayR g m a cap st (mayF flag s f p) flag w) := by
 obtain ⟨sa,sc,rfl,hq1,hq2⟩ := hv.form
 clear hq1 hq2
 have c1 : w.cell? ⟨g,1,none⟩ = some (.int .u32 0) := hF.top.cell_at rfl
 have c2 : w.cell? ⟨g,2,none⟩ = some (.pointer (some ⟨m,0,none⟩)) := hF.top.cell_at rfl
 have c3 : w.cell? ⟨m,3,none⟩ = some (.int .u8 flag) := hF.msg.cell_at rfl
 have hgl := hF.top.lt
 have hml := hF.msg.lt
 have HFl := hid hF; clear hF
 have HV := hid hv; clear hv
 have Hu := hid hu; clear hu
 have Hs := hid hs; clear hs
 have HH := hid hh; clear hh
 have HP := hid hp; clear hp
 have Hlt := hid hlt; clear hlt
 have Hc := hid (And.intro h1 (And.intro h2 (And.intro h3 (And.intro h4 hb)))); clear h1 h2 h3 h4 hb
 have hc : flag = 0 ∨ flag = 1 ∨ flag = 2 := by omega
 clear hfl
 rcases hc with rfl | rfl | h2
 ·have hR : Hid (¬ growB 0 s = true) := by show ¬ _; simp [growB]
  go_enter Tryz.func109,Tryz.ntmps109
  go_wp2_with fail
  go_end0
  exact ⟨rfl,Fr.refl _ _,by rw [mayF,if_neg hR.out]; exact HFl.out⟩
 ·have hR : Hid (growB 1 s = true) := by show _ = _; simp [growB]
  go_enter Tryz.func109,Tryz.ntmps109
  go_wp2_with fail
  refine (newOut_c w hb0 o p HP.out HH.out).mono ?_
  rintro e w5 ⟨hf,gp,hgp,rfl,hB⟩
  have HF5 : Hid (Fr [] w w5) := hf
  have HB5 := hid hB
  clear hf hB hgp
  go_wp2_with fail
  refine (addO_c w5 g m a cap st f 1 (HFl.out.grow HF5.out) gp 0 p HP.out HB5.out.range HB5.out.lt Hc.out.1 Hc.out.2.1 Hc.out.2.2.1 Hc.out.2.2.2.1 Hc.out.2.2.2.2).mono ?_
  rintro e w6 ⟨rfl,hf,hfl⟩
  have HF6 : Hid (Fr [a] w w6) := (HF5.out.mono (by simp)).trans hf
  have HFl6 := hid hfl
  clear hf hfl
  go_wp2_with fail
  go_end0
  exact ⟨rfl,HF6.out,by rw [mayF,if_pos hR.out]; exact HFl6.out⟩
 ·have hG : Hid (growB flag s = growsB s) := by show _ = _; simp [growB,h2]
  have g1 : (flag == 1) = false := by simp [h2]
  have g2 : (flag == 2) = true := by simp [h2]
  clear h2
  go_enter Tryz.func109,Tryz.ntmps109
  go_wp2_with fail
  ·skip
   clear c1 c2 c3 hgl hml
   refine (class_c w B hBw _ s HV.out Hu.out Hs.out).mono ?_
   rintro e w1 ⟨hf,c,rfl,hc⟩
   have HF1 := hid hf; clear hf
   rcases hc with ⟨rfl,hc⟩ | ⟨rfl,hc⟩ | ⟨hc0,hc9,hc1,hc6,hc⟩
   ·have hR : Hid (growB flag s = true) := by show _ = _; rw [hG.out]; exact hc
    clear hc
    go_wp2_with fail
    refine (newOut_c w1 hb0 o p HP.out (rangeAt_fr HH.out HF1.out Hlt.out)).mono ?_
    rintro e w5 ⟨hf,gp,hgp,rfl,hB⟩
    have HF5 : Hid (Fr [] w w5) := HF1.out.trans hf
    have HB5 := hid hB
    clear hf hB hgp
    go_wp2_with fail
    refine (addO_c w5 g m a cap st f flag (HFl.out.grow HF5.out) gp 0 p HP.out HB5.out.range HB5.out.lt Hc.out.1 Hc.out.2.1 Hc.out.2.2.1 Hc.out.2.2.2.1 Hc.out.2.2.2.2).mono ?_
    rintro e w6 ⟨rfl,hf,hfl⟩
    have HF6 : Hid (Fr [a] w w6) := (HF5.out.mono (by simp)).trans hf
    have HFl6 := hid hfl
    clear hf hfl
    go_wp2_with fail
    go_end0
    exact ⟨rfl,HF6.out,by rw [mayF,if_pos hR.out]; exact HFl6.out⟩
   ·have hR : Hid (growB flag s = true) := by show _ = _; rw [hG.out]; exact hc
    clear hc
    go_wp2_with fail
    refine (newOut_c w1 hb0 o p HP.out (rangeAt_fr HH.out HF1.out Hlt.out)).mono ?_
    rintro e w5 ⟨hf,gp,hgp,rfl,hB⟩
    have HF5 : Hid (Fr [] w w5) := HF1.out.trans hf
    have HB5 := hid hB
    clear hf hB hgp
    go_wp2_with fail
    refine (addO_c w5 g m a cap st f flag (HFl.out.grow HF5.out) gp 0 p HP.out HB5.out.range HB5.out.lt Hc.out.1 Hc.out.2.1 Hc.out.2.2.1 Hc.out.2.2.2.1 Hc.out.2.2.2.2).mono ?_
    rintro e w6 ⟨rfl,hf,hfl⟩
    have HF6 : Hid (Fr [a] w w6) := (HF5.out.mono (by simp)).trans hf
    have HFl6 := hid hfl
    clear hf hfl
    go_wp2_with fail
    go_end0
    exact ⟨rfl,HF6.out,by rw [mayF,if_pos hR.out]; exact HFl6.out⟩
   ·have hR : Hid (¬ growB flag s = true) := by show ¬ _; rw [hG.out,hc]; simp
    have k1 : (c == 1) = false := by simp [hc1]
    have k6 : (c == 6) = false := by simp [hc6]
    clear hc hc0 hc9 hc1 hc6
    go_wp2_with fail
    go_end0
    exact ⟨rfl,HF1.out.mono (by simp),by rw [mayF,if_neg hR.out]; exact HFl.out.grow HF1.out⟩
end
/-- btcutil.Tx at g over wire's transaction at m; hp: the hash, if it was reckoned. -/
def utx (m : Nat) (hp : Value) (idx : Int) : List Value := [.pointer (some ⟨m,0,none⟩),hp,.pointer none,.pointer none,.int .i64 idx,.slice none 0 0]
/-- hp is nil, or it points to the transaction's name. -/
def HpOk (K : List Int) (w : World) (t : Tx) (hp : Value) : Prop := hp = .pointer none ∨ ∃ P,hp = .pointer (some ⟨P,0,none⟩) ∧ Blk w P 81 (ic .u8 (txH K t))
theorem newTx_c (w : World) (m : Nat) : Calls Tryz.prog 70 #[.pointer (some ⟨m,0,none⟩)] w fun e w' => e = .returned (.pointer (some ⟨w.heap.size,0,none⟩)) ∧ Fr [] w w' ∧ Blk w' w.heap.size 204 (utx m (.pointer none) (-1)) := by
 go_enter Tryz.func70,Tryz.ntmps70
 go_wp2_with fail
 go_ret
 exact ⟨rfl,(Fr.refl _ _).alloc _,Blk.new w (utx m (.pointer none) (-1)) 204⟩
theorem setIndex_c (w : World) (g m : Nat) (hp : Value) (i j : Int) (h : Blk w g 204 (utx m hp j)) : Calls Tryz.prog 71 #[.pointer (some ⟨g,0,none⟩),.int .i64 i] w fun e w' => e = .returned (.tuple #[]) ∧ Fr [g] w w' ∧ Blk w' g 204 (utx m hp i) := by
 have c4 : w.cell? ⟨g,4,none⟩ = some (.int .i64 j) := h.cell_at rfl
 have f4 := h.free 4
 have hl := h.lt
 have H := hid h; clear h
 go_enter Tryz.func71,Tryz.ntmps71
 go_wp2_with fail
 go_end0
 exact ⟨rfl,(Fr.refl _ _).setCell _ _ (by simp),H.out.set 4 _⟩
theorem msgTx_c (w : World) (g m : Nat) (hp : Value) (j : Int) (h : Blk w g 204 (utx m hp j)) : Calls Tryz.prog 107 #[.pointer (some ⟨g,0,none⟩)] w fun e w' => e = .returned (.pointer (some ⟨m,0,none⟩)) ∧ w = w' := by
 have c4 : w.cell? ⟨g,0,none⟩ = some (.pointer (some ⟨m,0,none⟩)) := h.cell_at rfl
 have hl := h.lt
 clear h
 go_enter Tryz.func107,Tryz.ntmps107
 go_wp2_with fail
 go_ret
 exact ⟨rfl,rfl⟩
/-- What Hash leaves. -/
def HashR (K : List Int) (t : Tx) (g m : Nat) (idx : Int) (w : World) (e : Ending) (w' : World) : Prop :=
 ∃ P,e = .returned (.pointer (some ⟨P,0,none⟩)) ∧ Fr [g] w w' ∧ Blk w' g 204 (utx m (.pointer (some ⟨P,0,none⟩)) idx) ∧ Blk w' P 81 (ic .u8 (txH K t))
set_option maxRecDepth 8000 in
theorem hashT_c (K : List Int) (hK : K.length = 64) (w : World) (B g m : Nat) (hBw : B ≤ w.heap.size) (hKc : Blk w 1 379 (ic .u32 K)) (hp : Value) (idx : Int) (t : Tx) (d : List Value) (hg : Blk w g 204 (utx m hp idx)) (hhp : HpOk K w t hp) (ht : t.Ok) (hs : t.Small) (hD : Blk w m 227 d) (hE : MsgTxT B w d t) (hDB : m < B) (hlen : (txB t).length ≤ 5000000) :
  Calls Tryz.prog 39 #[.pointer (some ⟨g,0,none⟩)] w (HashR K t g m idx w) := by
 have HE := hid hE; clear hE
 have HD := hid hD; clear hD
 have Ht := hid ht; clear ht
 have Hs := hid hs; clear hs
 have HKc := hid hKc; clear hKc
 have Hlen := hid hlen; clear hlen
 have HKl := hid hK; clear hK
 have HG := hid hg; clear hg
 have HH := hid hhp; clear hhp
 have hq : ∀ w,(binOp .eql 29 (.slice none 0 0) (.slice none 0 0)).run Tryz.prog w = .ok (.bool true) w := fun _ => rfl
 go_enter Tryz.func39,Tryz.ntmps39
 go_upto_region 1 with fail
 have HF1 : Hid (Fr [] w (w.alloc (.cells #[.pointer (some ⟨g,0,none⟩)] 109))) := (Fr.refl _ _).alloc _
 have HT1 : Hid (Blk (w.alloc (.cells #[.pointer (some ⟨g,0,none⟩)] 109)) w.heap.size 109 [.pointer (some ⟨g,0,none⟩)]) := Blk.new _ _ _
 generalize World.alloc w _ = w1 at HF1 HT1 ⊢
 have HG1 : Hid (Blk w1 g 204 (utx m hp idx)) := HG.out.fr HF1.out (by simp)
 have ct : w1.cell? ⟨w.heap.size,0,none⟩ = some (.pointer (some ⟨g,0,none⟩)) := HT1.out.cell_at rfl
 have hl := HG1.out.lt
 have hl2 := HT1.out.lt
 rcases HH.out with rfl | ⟨P,rfl,hP⟩
 ·have c0 : w1.cell? ⟨g,0,none⟩ = some (.pointer (some ⟨m,0,none⟩)) := HG1.out.cell_at rfl
  have c1 : w1.cell? ⟨g,1,none⟩ = some (.pointer none) := HG1.out.cell_at rfl
  have c5 : w1.cell? ⟨g,5,none⟩ = some (.slice none 0 0) := HG1.out.cell_at rfl
  go_wp2_with fail
  refine (txhash_c K HKl.out w1 B (Nat.le_trans hBw HF1.out.size) (HKc.out.fr HF1.out (by simp)) m t d Ht.out Hs.out (HD.out.fr HF1.out (by simp)) (HE.out.below (HF1.out.below.mono hBw)) hDB Hlen.out).mono ?_
  rintro e w2 ⟨rfl,hf⟩
  have HF2 : Hid (Fr [] w w2) := HF1.out.trans hf
  have HG2 : Hid (Blk w2 g 204 (utx m (.pointer none) idx)) := HG1.out.fr hf (by simp)
  have HT2 : Hid (Blk w2 w.heap.size 109 [.pointer (some ⟨g,0,none⟩)]) := HT1.out.fr hf (by simp)
  clear hf c0 c1 c5 ct hl hl2 HG1 HT1 HF1
  simp only []
  refine (‹∀ (a : Act) (w : World),wpList Tryz.prog _ _ _ a w → _›) _ _ ?_
  obtain ⟨z,hz,hzl⟩ : ∃ z : List Value,Zero Tryz.prog 81 z ∧ z.length = 32 := ⟨_,fun w => rfl,rfl⟩
  have htl : (txH K t).length = 32 := H2_length _ _
  refine wpList_run (v := .pointer (some ⟨w2.heap.size,0,none⟩)) (w' := w2.alloc (.cells z.toArray 81)) rfl (by have := hz w2; unfold execOp; simp only [Sem.run_bind,this]; rfl) ?_
  simp only [Act.put,nA,nB,nC]
  have hN : Blk (w2.alloc (.cells z.toArray 81)) w2.heap.size 81 z := Blk.new _ _ _
  refine wpList_store_mid rfl 81 (.tmp 3) (.tmp 26) rfl w2.heap.size 0 (ic .u8 (txH K t)).toArray rfl rfl (hN.there (by simp [hzl,htl])) (by rw [List.size_toArray,ic_length,htl]; kernel_rfl) (all_oneCell_toArray (ic_one _ _)) ?_
  simp only [Act.put,nA,nB,nC]
  change wpList _ _ _ _ _ (World.setCells (w2.alloc (.cells z.toArray 81)) w2.heap.size 0 (ic .u8 (txH K t)))
  rw [alloc_setAll w2 z (ic .u8 (txH K t)) 81 (by simp [hzl,htl])]
  clear hN hz hzl htl
  have HF3 : Hid (Fr [] w2 (w2.alloc (.cells (ic .u8 (txH K t)).toArray 81))) := (Fr.refl _ _).alloc _
  have HP3 : Hid (Blk (w2.alloc (.cells (ic .u8 (txH K t)).toArray 81)) w2.heap.size 81 (ic .u8 (txH K t))) := Blk.new _ _ _
  generalize World.alloc w2 _ = w3 at HF3 HP3 ⊢
  obtain ⟨P,hP⟩ : ∃ P,P = w2.heap.size := ⟨_,rfl⟩
  rw [← hP] at HP3 ⊢
  clear hP
  have HG3 : Hid (Blk w3 g 204 (utx m (.pointer none) idx)) := HG2.out.fr HF3.out (by simp)
  have HT3 : Hid (Blk w3 w.heap.size 109 [.pointer (some ⟨g,0,none⟩)]) := HT2.out.fr HF3.out (by simp)
  have ct : w3.cell? ⟨w.heap.size,0,none⟩ = some (.pointer (some ⟨g,0,none⟩)) := HT3.out.cell_at rfl
  have c1 : w3.cell? ⟨g,1,none⟩ = some (.pointer none) := HG3.out.cell_at rfl
  have f1 := HG3.out.free 1
  have hl := HG3.out.lt
  have hl2 := HT3.out.lt
  have HPg := hid (HP3.out.ne HG3.out (by decide))
  refine wpList_nil ?_
  simp only [Exit.then]
  generalize Value.agg (ic .u8 (txH K t)).toArray = VV
  go_wp2_with fail
  go_ret
  refine ⟨P,rfl,((HF2.out.trans HF3.out).mono (by simp)).setCell _ _ (by simp),HG3.out.set 1 _,HP3.out.set_ne _ _ HPg.out⟩
 ·have c1 : w1.cell? ⟨g,1,none⟩ = some (.pointer (some ⟨P,0,none⟩)) := HG1.out.cell_at rfl
  have HP := hid (hP.fr HF1.out (by simp)); clear hP
  go_wp2_with fail
  go_ret
  exact ⟨P,rfl,HF1.out.mono (by simp),HG1.out,HP.out⟩
section
set_option maxRecDepth 8000
def FGood (f : Blm) : Prop := 1 ≤ f.bytes.length ∧ f.bytes.length ≤ 1000000 ∧ 1 ≤ f.funcs ∧ f.funcs ≤ 50 ∧ U8 f.bytes
theorem FGood.add {f : Blm} (h : FGood f) (l : List Int) : FGood (bAdd f l) := by
 refine ⟨?_, ?_,h.2.2.1,h.2.2.2.1,addN_u8 _ _ _ h.2.2.2.2⟩
 ·show 1 ≤ (addN f l _).length; rw [addN_length]; exact h.1
 ·show (addN f l _).length ≤ _; rw [addN_length]; exact h.2.1
theorem FGood.may {f : Blm} (h : FGood f) (flag : Int) (s : List Int) (p : OutP) : FGood (mayF flag s f p) := by
 unfold mayF; split
 ·exact h.add _
 ·exact h
/-- What a whole script pushes. -/
def pushesW (s : List Int) : List (List Int) := if (toks s).2 = none then pushes s else []
def hitsB (f : Blm) (s : List Int) : Bool := (pushesW s).any (bHas f)
def outStep (flag : Int) (id : List Int) (i : Nat) (o : TxOut) (st : Bool × Blm) : Bool × Blm := if hitsB st.2 o.script then (true,mayF flag o.script st.2 ⟨id,i⟩) else st
def outsTo (flag : Int) (id : List Int) (l : List TxOut) (st : Bool × Blm) : Nat → Bool × Blm
 | 0 => st
 | i + 1 => match l[i]? with
  | some o => outStep flag id i o (outsTo flag id l st i)
  | none => outsTo flag id l st i
theorem outsTo_succ {flag : Int} {id : List Int} {l : List TxOut} {st : Bool × Blm} {i : Nat} (h : i < l.length) : outsTo flag id l st (i + 1) = outStep flag id i l[i] (outsTo flag id l st i) := by
 rw [outsTo,List.getElem?_eq_getElem h]
theorem outsTo_good {flag : Int} {id : List Int} {l : List TxOut} {st : Bool × Blm} (h : FGood st.2) (i : Nat) : FGood (outsTo flag id l st i).2 := by
 induction i with
 | zero => exact h
 | succ i ih =>
  rw [outsTo]
  split
  ·unfold outStep; split
   ·exact ih.may _ _ _
   ·exact ih
  ·exact ih
def inHit (f : Blm) (x : TxIn) : Bool := bHas f (opB x.prev) || hitsB f x.script
/-- Whether a filter lets a transaction by, and the filter behind it. -/
def mTx (K : List Int) (flag : Int) (f : Blm) (t : Tx) : Bool × Blm :=
 let st := outsTo flag (txH K t) t.outs (bHas f (txH K t),f) t.outs.length
 (st.1 || t.ins.any (inHit st.2),st.2)
theorem arr_bytes {w : World} {b n : Nat} {T : TypeId} {x : List Int} (h : Blk w b T (ic .u8 x)) (hx : x.length = n) (hn : n ≤ maxLen) : Bytes w (.slice (some ⟨b,0,none⟩) n n) x := by
 subst hx
 exact ints_mk (by simp) (Nat.le_refl _) hn h.lt (fun i hi => by rw [h.int _ (by omega),Nat.zero_add])
/-- The world while a transaction is matched. -/
structure MxS (K : List Int) (t : Tx) (g m a cap : Nat) (st flag : Int) (gt mB : Nat) (idx : Int) (f : Blm) (w0 w : World) : Prop where
 fr : Fr [a,gt] w0 w
 flt : FltAt w g m a cap st f flag
 tx : ∃ hp,Blk w gt 204 (utx mB hp idx) ∧ HpOk K w t hp
section
variable {K : List Int} {t : Tx} {g m a cap : Nat} {st flag : Int} {gt mB : Nat} {idx : Int} {f : Blm} {w0 w w' : World}
theorem MxS.grow (h : MxS K t g m a cap st flag gt mB idx f w0 w) (hf : Fr [] w w') : MxS K t g m a cap st flag gt mB idx f w0 w' := by
 obtain ⟨hp,h1,h2⟩ := h.tx
 refine ⟨h.fr.trans (hf.mono (by simp)),h.flt.grow hf,hp,h1.fr hf (by simp), ?_⟩
 rcases h2 with h2 | ⟨P,h2,h3⟩
 ·exact .inl h2
 ·exact .inr ⟨P,h2,h3.fr hf (by simp)⟩
theorem blk_ne {b c : Nat} {T T' : TypeId} {xs ys : List Value} (h1 : Blk w b T xs) (h2 : Blk w c T' ys) (hT : T ≠ T') : b ≠ c := by
 rintro rfl
 have e1 : w.heap[b]? = _ := h1
 have e2 : w.heap[b]? = _ := h2
 rw [e1] at e2
 simp at e2
 exact hT e2.2
theorem MxS.add {f' : Blm} (h : MxS K t g m a cap st flag gt mB idx f w0 w) (hf : Fr [a] w w') (hl : FltAt w' g m a cap st f' flag) : MxS K t g m a cap st flag gt mB idx f' w0 w' := by
 obtain ⟨hp,h1,h2⟩ := h.tx
 obtain ⟨post,hpost⟩ := h.flt.arr
 refine ⟨h.fr.trans (hf.mono (by simp)),hl,hp,h1.fr hf (by simpa using (blk_ne h1 hpost (by decide))), ?_⟩
 rcases h2 with h2 | ⟨P,h2,h3⟩
 ·exact .inl h2
 ·exact .inr ⟨P,h2,h3.fr hf (by simpa using (blk_ne h3 hpost (by decide)))⟩
/-- The hash, in that world. -/
theorem MxS.hash {B : Nat} (h : MxS K t g m a cap st flag gt mB idx f w0 w) (hK : K.length = 64) (hBw : B ≤ w0.heap.size) (hKc : Blk w0 1 379 (ic .u32 K)) (d : List Value) (ht : t.Ok) (hs : t.Small) (hD : Blk w0 mB 227 d) (hE : MsgTxT B w0 d t) (hDB : mB < B) (hlen : (txB t).length ≤ 5000000)
  (hBa : B ≤ a) (hBg : B ≤ gt) (hK1 : 1 < B) :
  Calls Tryz.prog 39 #[.pointer (some ⟨gt,0,none⟩)] w fun e w' => ∃ P,e = .returned (.pointer (some ⟨P,0,none⟩)) ∧ Fr [gt] w w' ∧ MxS K t g m a cap st flag gt mB idx f w0 w' ∧ Blk w' P 81 (ic .u8 (txH K t)) := by
 obtain ⟨hp,h1,h2⟩ := h.tx
 have hb : Below B w0 w := h.fr.to_below hBw (by intro k hk; simp at hk; rcases hk with rfl | rfl <;> assumption)
 refine (hashT_c K hK w B gt mB (Nat.le_trans hBw h.fr.size) (hKc.fr h.fr (by simp; omega)) hp idx t d h1 h2 ht hs (hD.fr h.fr (by simp; omega)) (hE.below hb) hDB hlen).mono ?_
 rintro e w' ⟨P,rfl,hf,hg,hP⟩
 obtain ⟨post,hpost⟩ := h.flt.arr
 have n1 : g ≠ gt := blk_ne h.flt.top h1 (by decide)
 have n2 : m ≠ gt := blk_ne h.flt.msg h1 (by decide)
 have n3 : a ≠ gt := blk_ne hpost h1 (by decide)
 exact ⟨P,rfl,hf,⟨h.fr.trans (hf.mono (by simp)),h.flt.fr hf (by simpa using n1) (by simpa using n2) (by simpa using n3),_,hg,.inr ⟨P,rfl,hP⟩⟩,hP⟩
end
end
theorem tokAt_ok {s : List Int} {p q : Nat} {d : List Int} (hu : U8 s) (h : tokAt s p = some (d,q)) : U8 d ∧ d.length ≤ s.length := by
 unfold tokAt at h
 simp only [] at h
 generalize 2 ^ (nth s p - 76).toNat = wd at h
 split at h
 ·split at h
  ·simp only [Option.some.injEq,Prod.mk.injEq] at h
   rw [← h.1]; exact ⟨(hu.drop _).take _,by simp; omega⟩
  ·cases h
 ·split at h
  ·split at h
   ·cases h
   ·split at h
    ·simp only [Option.some.injEq,Prod.mk.injEq] at h
     rw [← h.1]; exact ⟨((hu.drop _).drop _).take _,by simp; omega⟩
    ·cases h
  ·simp only [Option.some.injEq,Prod.mk.injEq] at h
   rw [← h.1]; exact ⟨(by intro x hx; cases hx),Nat.zero_le _⟩
theorem toksF_ok {s : List Int} (hu : U8 s) : ∀ (f p : Nat),∀ t ∈ (toksF s f p).1,U8 t.data ∧ t.data.length ≤ s.length := by
 intro f
 induction f with
 | zero => intro p t ht; cases ht
 | succ f ih =>
  intro p t ht
  simp only [toksF] at ht
  split at ht
  ·split at ht
   ·cases ht
   ·rename_i d q hd
    rcases List.mem_cons.mp ht with rfl | ht
    ·exact tokAt_ok hu hd
    ·exact ih _ t ht
  ·cases ht
theorem pushes_ok {s : List Int} (hu : U8 s) {d : List Int} (h : d ∈ pushes s) : U8 d ∧ d.length ≤ s.length := by
 unfold pushes pushesOf at h
 obtain ⟨t,ht,rfl⟩ := List.mem_map.mp h
 exact toksF_ok hu _ _ t (List.mem_filter.mp ht).1
section
set_option maxRecDepth 8000
theorem splice_lr {x y z : List Int} (hx : x.length = 32) (hy : y.length = 32) (hz : z.length = 64) : splice (splice z 0 x) 32 y = x ++ y := by
 unfold splice
 simp [hx,hy,hz]
theorem copy_part {w : World} {p : Nat} {l : List Int} {T : TypeId} (h : Blk w p T (ic .u8 l)) : ∀ j v,(ic .u8 l)[j]? = some v → w.cell? ((⟨p,0,none⟩ : Addr).add j) = some v := by
 intro j v hj
 rw [Addr.add_mid]
 exact h.range j v hj
theorem branch_c (K : List Int) (hK : K.length = 64) (w : World) (hKc : Blk w 1 379 (ic .u32 K)) (p q : Nat) (x y : List Int) (hp : Blk w p 81 (ic .u8 x)) (hq : Blk w q 81 (ic .u8 y)) (hx : x.length = 32) (hy : y.length = 32) :
  Calls Tryz.prog 113 #[.pointer (some ⟨p,0,none⟩),.pointer (some ⟨q,0,none⟩)] w fun e w' => e = .returned (arr (H2 K (x ++ y))) ∧ Fr [] w w' := by
 obtain ⟨z,hz⟩ : ∃ z : List Int,z = List.replicate 64 0 := ⟨_,rfl⟩
 obtain ⟨z2,hz2⟩ : ∃ z2 : List Int,z2 = List.replicate 32 0 := ⟨_,rfl⟩
 have HZl : Hid (z.length = 64) := by rw [hz]; exact List.length_replicate
 have HZ2 : Hid (z2.length = 32) := by rw [hz2]; exact List.length_replicate
 have HK := hid hKc; clear hKc
 have HKl := hid hK; clear hK
 have HP := hid hp; clear hp
 have HQ := hid hq; clear hq
 have HX := hid hx; clear hx
 have HY := hid hy; clear hy
 go_enter Tryz.func113,Tryz.ntmps113
 go_wp2_with fail
 have HF1 : Hid (Fr [] w ((w.alloc (.cells (ic .u8 z2).toArray 81)).alloc (.cells (ic .u8 z).toArray 324))) := ((Fr.refl _ _).alloc _).alloc _
 have HR1 : Hid (Blk ((w.alloc (.cells (ic .u8 z2).toArray 81)).alloc (.cells (ic .u8 z).toArray 324)) w.heap.size 81 (ic .u8 z2)) := (Blk.new _ _ _).alloc _
 have HB1 : Hid (Blk ((w.alloc (.cells (ic .u8 z2).toArray 81)).alloc (.cells (ic .u8 z).toArray 324)) (w.heap.size + 1) 324 (ic .u8 z)) := by
  have := Blk.new (w.alloc (.cells (ic .u8 z2).toArray 81)) (ic .u8 z) 324
  rwa [show (w.alloc (.cells (ic .u8 z2).toArray 81)).heap.size = w.heap.size + 1 by simp] at this
 change Code.wp _ _ _ _ ((w.alloc (.cells (ic .u8 (List.replicate 32 0)).toArray 81)).alloc (.cells (ic .u8 (List.replicate 64 0)).toArray 324))
 rw [← hz,← hz2]
 generalize World.alloc (World.alloc w _) _ = w1 at HF1 HB1 HR1 ⊢
 clear hz hz2
 obtain ⟨r,hr⟩ : ∃ r,r = w.heap.size := ⟨_,rfl⟩
 rw [← hr] at HB1 HR1 ⊢
 have HRw : Hid (w.heap.size ≤ r) := by show _ ≤ _; omega
 clear hr
 obtain ⟨b,hb⟩ : ∃ b,b = r + 1 := ⟨_,rfl⟩
 rw [← hb] at HB1 ⊢
 have HBw : Hid (w.heap.size ≤ b ∧ r ≠ b) := by have := HRw.out; show _ ∧ _; omega
 clear hb
 refine qtail 4 (by kernel_rfl) (by kernel_rfl) ?_
 simp only [List.take_succ_cons,List.take_zero,List.drop_succ_cons,List.drop_zero]
 repeat (go_big_quiet_step (fail))
 refine wpQuiet_nil ?_
 refine wpList_copy_blk rfl (.tmp 6) (.tmp 9) 29 29 rfl 5 rfl rfl (some ⟨b,0,none⟩) (some ⟨p,0,none⟩) 32 64 32 32 rfl rfl b 0 (ic .u8 z) 324 HB1.out.drew (ic .u8 x) (by rw [ic_length,HX.out]; rfl) (fun _ => ⟨rfl,_,rfl,copy_part (HP.out.fr HF1.out.drew (by simp))⟩) (by rw [ic_length,ic_length,HX.out,HZl.out]; omega) (ic_one _ _) [b] w1.drew (Fr.refl _ _) (by simp) ?_
 intro w2 HB2 HF2
 have HF3 : Hid (Fr [] w w2) := HF1.out.drew.andThen HF2.out (by intro k hk; simp at hk; subst hk; exact .inr HBw.out.1)
 have HB3 : Hid (Blk w2 b 324 (ic .u8 (splice z 0 x))) := by
  have := HB2.out; rwa [show splice (ic .u8 z) 0 (ic .u8 x) = ic .u8 (splice z 0 x) by simp [splice,ic]] at this
 have HR3 : Hid (Blk w2 r 81 (ic .u8 z2)) := HR1.out.drew.fr HF2.out (by simpa using HBw.out.2)
 clear HB2 HF2 HB1 HF1 HR1
 generalize goInt (ic .u8 x).length = V10
 simp only [Act.put,nA,nB,nC]
 refine wpList_nil ?_
 simp only [Exit.then]
 go_wp2_with fail
 refine qtail 4 (by kernel_rfl) (by kernel_rfl) ?_
 simp only [List.take_succ_cons,List.take_zero,List.drop_succ_cons,List.drop_zero]
 repeat (go_big_quiet_step (fail))
 refine wpQuiet_nil ?_
 refine wpList_copy_blk rfl (.tmp 11) (.tmp 14) 29 29 rfl 5 rfl rfl (some ⟨b,32,none⟩) (some ⟨q,0,none⟩) 32 32 32 32 rfl rfl b 32 (ic .u8 (splice z 0 x)) 324 HB3.out.drew (ic .u8 y) (by rw [ic_length,HY.out]; rfl) (fun _ => ⟨rfl,_,rfl,copy_part (HQ.out.fr HF3.out.drew (by simp))⟩) (by rw [ic_length,ic_length,HY.out,length_splice _ _ _ (by rw [HX.out,HZl.out]; omega),HZl.out]; omega) (ic_one _ _) [b] w2.drew (Fr.refl _ _) (by simp) ?_
 intro w3 HB4 HF4
 have HF5 : Hid (Fr [] w w3) := HF3.out.drew.andThen HF4.out (by intro k hk; simp at hk; subst hk; exact .inr HBw.out.1)
 have HB5 : Hid (Blk w3 b 324 (ic .u8 (x ++ y))) := by
  have := HB4.out
  rwa [show splice (ic .u8 (splice z 0 x)) 32 (ic .u8 y) = ic .u8 (splice (splice z 0 x) 32 y) by simp [splice,ic],splice_lr HX.out HY.out HZl.out] at this
 have HR5 : Hid (Blk w3 r 81 (ic .u8 z2)) := HR3.out.drew.fr HF4.out (by simpa using HBw.out.2)
 clear HB4 HF4 HB3 HF3 HR3
 generalize goInt (ic .u8 y).length = V15
 simp only [Act.put,nA,nB,nC]
 refine wpList_nil ?_
 simp only [Exit.then]
 go_wp2_with fail
 refine (dhash_c K HKl.out w3 (x ++ y) _ (HK.out.fr HF5.out (by simp)) (arr_bytes (n := 64) HB5.out (by simp [HX.out,HY.out]) (by decide)) (by simp [HX.out,HY.out])).mono ?_
 rintro e w4 ⟨rfl,hf⟩
 have HF6 : Hid (Fr [] w w4) := HF5.out.trans hf
 have HR6 : Hid (Blk w4 r 81 (ic .u8 z2)) := HR5.out.fr hf (by simp)
 clear hf
 have htl : (H2 K (x ++ y)).length = 32 := H2_length _ _
 have Htl := hid htl; clear htl
 simp only []
 refine (‹∀ (a : Act) (w : World),wpList Tryz.prog _ _ _ a w → _›) _ _ ?_
 refine wpList_store_mid rfl 81 (.tmp 4) (.tmp 17) rfl r 0 (ic .u8 (H2 K (x ++ y))).toArray rfl rfl (HR6.out.there (by rw [List.size_toArray,ic_length,ic_length,Htl.out,HZ2.out]; omega)) (by rw [List.size_toArray,ic_length,Htl.out]; kernel_rfl) (all_oneCell_toArray (ic_one _ _)) ?_
 have HR7 : Hid (Blk (w4.setCells r 0 (ic .u8 (H2 K (x ++ y))).toArray.toList) r 81 (ic .u8 (H2 K (x ++ y)))) := HR6.out.putAll _ (by rw [ic_length,ic_length,Htl.out,HZ2.out])
 have HF7 : Hid (Fr [] w (w4.setCells r 0 (ic .u8 (H2 K (x ++ y))).toArray.toList)) := HF6.out.andThen (fr_setCells (S := [r]) (by simp) _ _ _ (Fr.refl _ _)) (by intro k hk; simp at hk; subst hk; exact .inr HRw.out)
 generalize World.setCells _ _ _ _ = w5 at HR7 HF7 ⊢
 simp only [Act.put,nA,nB,nC]
 refine wpList_nil ?_
 refine (‹∀ (a : Act) (w : World),Code.wp Tryz.prog Code.ret _ a w → _›) _ _ ?_
 refine wp_ret ?_
 refine ret_arr rfl rfl (.array 32 5) HR7.out rfl rfl (by rw [Htl.out]; kernel_rfl) rfl ?_
 exact ⟨rfl,HF7.out⟩
end
/-- btcutil's transaction at G: over wire's transaction below B. -/
def UTxE (K : List Int) (B : Nat) (w : World) (G : Nat) (t : Tx) : Prop := ∃ m d hp idx,Blk w G 204 (utx m hp idx) ∧ HpOk K w t hp ∧ m < B ∧ Blk w m 227 d ∧ MsgTxT B w d t
theorem HpOk.fr {K : List Int} {S : List Nat} {w w' : World} {t : Tx} {hp : Value} (h : HpOk K w t hp) (hf : Fr S w w') (hS : ∀ k ∈ S,∀ xs,¬ Blk w k 81 xs) : HpOk K w' t hp := by
 rcases h with h | ⟨P,h,hP⟩
 ·exact .inl h
 ·exact .inr ⟨P,h,hP.fr hf (fun hm => hS P hm _ hP)⟩
theorem UTxE.fr {K : List Int} {B : Nat} {S : List Nat} {w w' : World} {G : Nat} {t : Tx} (h : UTxE K B w G t) (hf : Fr S w w') (hBw : B ≤ w.heap.size) (hB : ∀ k ∈ S,B ≤ k) (hG : G ∉ S) (hS : ∀ k ∈ S,∀ xs,¬ Blk w k 81 xs) : UTxE K B w' G t := by
 obtain ⟨m,d,hp,idx,h1,h2,h3,h4,h5⟩ := h
 refine ⟨m,d,hp,idx,h1.fr hf hG,h2.fr hf hS,h3,h4.fr hf (fun hm => by have := hB m hm; omega),h5.below (hf.to_below hBw hB)⟩
def ptrs (Gs : List Nat) : List Value := Gs.map fun G => .pointer (some ⟨G,0,none⟩)
/-- The list of transactions at R. -/
structure UTxs (K : List Int) (B : Nat) (w : World) (R : Nat) (Gs : List Nat) (l : List Tx) : Prop where
 len : Gs.length = l.length
 row : Blk w R 109 (ptrs Gs)
 nodup : Gs.Nodup
 each : ∀ i (h : i < Gs.length) (h' : i < l.length),UTxE K B w Gs[i] l[i]
theorem UTxE.lt {K : List Int} {B : Nat} {w : World} {G : Nat} {t : Tx} (h : UTxE K B w G t) : G < w.heap.size := by obtain ⟨m,d,hp,idx,h1,_⟩ := h; exact h1.lt
theorem UTxs.fr {K : List Int} {B : Nat} {S : List Nat} {w w' : World} {R : Nat} {Gs : List Nat} {l : List Tx} (h : UTxs K B w R Gs l) (hf : Fr S w w') (hBw : B ≤ w.heap.size) (hB : ∀ k ∈ S,B ≤ k) (hS : ∀ k ∈ S,∀ T xs,Blk w k T xs → T ≠ 81 ∧ T ≠ 109 ∧ T ≠ 204) : UTxs K B w' R Gs l := by
 refine ⟨h.len,h.row.fr hf (fun hm => (hS _ hm _ _ h.row).2.1 rfl),h.nodup,fun i hi hi' => ?_⟩
 have he := h.each i hi hi'
 refine he.fr hf hBw hB (fun hm => ?_) (fun k hk xs hb => (hS k hk _ _ hb).1 rfl)
 obtain ⟨m,d,hp,idx,h1,_⟩ := he
 exact (hS _ hm _ _ h1).2.2 rfl
theorem UTxs.grow {K : List Int} {B : Nat} {w w' : World} {R : Nat} {Gs : List Nat} {l : List Tx} (h : UTxs K B w R Gs l) (hf : Fr [] w w') (hBw : B ≤ w.heap.size) : UTxs K B w' R Gs l := h.fr hf hBw (by simp) (by simp)
/-- The block's cells when its list is made; fl: it is whole. -/
def blkTrs (m R n : Nat) (fl : Bool) : List Value := [.pointer (some ⟨m,0,none⟩),.slice none 0 0,.slice none 0 0,.pointer none,.int .i32 (-1),.slice (some ⟨R,0,none⟩) n n,.bool fl]
theorem trs2_c (w : World) (g m R n : Nat) (h : Blk w g 188 (blkTrs m R n true)) :
  Calls Tryz.prog 37 #[.pointer (some ⟨g,0,none⟩)] w fun e w' => e = .returned (.slice (some ⟨R,0,none⟩) n n) ∧ w = w' := by
 have c6 : w.cell? ⟨g,6,none⟩ = some (.bool true) := h.cell_at rfl
 have c5 : w.cell? ⟨g,5,none⟩ = some (.slice (some ⟨R,0,none⟩) n n) := h.cell_at rfl
 have hl := h.lt
 clear h
 go_enter Tryz.func37,Tryz.ntmps37
 go_wp2_with fail
 go_ret
 exact ⟨rfl,rfl⟩
theorem msgBlock_c (w : World) (g m R n : Nat) (fl : Bool) (h : Blk w g 188 (blkTrs m R n fl)) :
  Calls Tryz.prog 42 #[.pointer (some ⟨g,0,none⟩)] w fun e w' => e = .returned (.pointer (some ⟨m,0,none⟩)) ∧ w = w' := by
 have c6 : w.cell? ⟨g,0,none⟩ = some (.pointer (some ⟨m,0,none⟩)) := h.cell_at rfl
 have hl := h.lt
 clear h
 go_enter Tryz.func42,Tryz.ntmps42
 go_wp2_with fail
 go_ret
 exact ⟨rfl,rfl⟩
/-- What the first call leaves. -/
def TrsR (K : List Int) (B : Nat) (k : Blck) (g m : Nat) (w : World) (e : Ending) (w' : World) : Prop :=
 ∃ R Gs,e = .returned (.slice (some ⟨R,0,none⟩) k.txs.length k.txs.length) ∧ Fr [g] w w' ∧ w.heap.size ≤ R ∧ (∀ G ∈ Gs,w.heap.size ≤ G) ∧ Blk w' g 188 (blkTrs m R k.txs.length true) ∧ UTxs K B w' R Gs k.txs
set_option maxRecDepth 8000 in
set_option maxHeartbeats 1000000 in
theorem trs1_c (K : List Int) (w : World) (B g m : Nat) (hBw : B ≤ w.heap.size) (hBg : B ≤ g) (hmB : m < B) (k : Blck) (d : List Value) (hk : k.Ok) (hs : k.Small) (h1 : 1 ≤ k.txs.length) (hg : Blk w g 188 (blkNew m)) (hm : Blk w m 121 d) (hE : MsgBlockT B w d k) :
  Calls Tryz.prog 37 #[.pointer (some ⟨g,0,none⟩)] w (TrsR K B k g m w) := by
 obtain ⟨tv,rfl,ht⟩ := hE
 obtain ⟨at',ct,rfl,hq1,hq2⟩ := (ht.listB (fun _ _ h => h)).len
 clear hq1 hq2
 have HT := hid ht; clear ht
 have HG := hid hg; clear hg
 have HM := hid hm; clear hm
 have Hk := hid hk; clear hk
 have hn6 : (k.txs.length : Int) ≤ 1000000 := by have := hs.num; omega
 have hn1 : (1 : Int) ≤ k.txs.length := by omega
 have hnn : k.txs.length ≤ 1000000 := hs.num
 have Hnn := hid hnn; clear hnn
 have Hs := hid hs; clear hs
 have H1 := hid h1; clear h1
 have hwl := Hdr.wire_length Hk.out.hdr
 have HWL := hid hwl; clear hwl
 have c6 : w.cell? ⟨g,6,none⟩ = some (.bool false) := HG.out.cell_at rfl
 have c5 : w.cell? ⟨g,5,none⟩ = some (.slice none 0 0) := HG.out.cell_at rfl
 have c0 : w.cell? ⟨g,0,none⟩ = some (.pointer (some ⟨m,0,none⟩)) := HG.out.cell_at rfl
 have cm : w.cell? ⟨m,68,none⟩ = some (.slice at' k.txs.length ct) := HM.out.cell_at (by rw [List.getElem?_append_right (by rw [HWL.out]; omega),HWL.out]; rfl)
 have hgl := HG.out.lt
 have hml := HM.out.lt
 have f5 := HG.out.free 5
 go_enter Tryz.func37,Tryz.ntmps37
 have hb1 : 8 * k.txs.length ≤ 281474976710656 := by have := Hnn.out; omega
 have hb2 : k.txs.length ≤ maxLen := by have := Hnn.out; unfold maxLen; omega
 have Hb1 := hid hb1; clear hb1
 have Hb2 := hid hb2; clear hb2
 have hu104 : Tryz.prog.underlying 104 = some (.slice 109) := by kernel_rfl
 go_wp2_with (with_reducible refine wpList_make (op := ⟨some 31,_,_,_,_,_⟩) rfl 104 _ _ rfl 109 (.pointer none) 8 made109 hu104 .i64 .i64 k.txs.length k.txs.length ?_ ?_ (Nat.le_refl _) Hb1.out Hb2.out ?_)
 ·rfl
 ·rfl
 have HF1 : Hid (Fr [g] w ((w.setCell ⟨g,5,none⟩ (.slice (some ⟨w.heap.size,0,none⟩) k.txs.length k.txs.length)).alloc (.cells (List.replicate k.txs.length (Value.pointer none)).toArray 109))) := ((Fr.refl _ _).setCell _ _ (by simp)).alloc _
 have HG1 : Hid (Blk ((w.setCell ⟨g,5,none⟩ (.slice (some ⟨w.heap.size,0,none⟩) k.txs.length k.txs.length)).alloc (.cells (List.replicate k.txs.length (Value.pointer none)).toArray 109)) g 188 (blkTrs m w.heap.size k.txs.length false)) := (HG.out.set 5 _).alloc _
 have HR1 : Hid (Blk ((w.setCell ⟨g,5,none⟩ (.slice (some ⟨w.heap.size,0,none⟩) k.txs.length k.txs.length)).alloc (.cells (List.replicate k.txs.length (Value.pointer none)).toArray 109)) w.heap.size 109 (List.replicate k.txs.length (Value.pointer none))) := by
  have := Blk.new (w.setCell ⟨g,5,none⟩ (.slice (some ⟨w.heap.size,0,none⟩) k.txs.length k.txs.length)) (List.replicate k.txs.length (Value.pointer none)) 109
  rwa [show (w.setCell ⟨g,5,none⟩ (.slice (some ⟨w.heap.size,0,none⟩) k.txs.length k.txs.length)).heap.size = w.heap.size by simp [World.setCell]] at this
 change Calls _ _ _ ((w.setCell ⟨g,5,none⟩ (.slice (some ⟨w.heap.size,0,none⟩) k.txs.length k.txs.length)).alloc (.cells (List.replicate k.txs.length (Value.pointer none)).toArray 109)) _
 generalize World.alloc (World.setCell w _ _) _ = w1 at HF1 HG1 HR1 ⊢
 obtain ⟨R,hR⟩ : ∃ R,R = w.heap.size := ⟨_,rfl⟩
 rw [← hR] at HG1 HR1 ⊢
 have HRw : Hid (w.heap.size ≤ R) := by rw [hR]; exact Nat.le_refl _
 have HgR : Hid (g < R) := by rw [hR]; exact HG.out.lt
 have HmR : Hid (m < R) := by rw [hR]; exact HM.out.lt
 clear hR c6 c5 c0 cm hgl hml f5
 have HmG : Hid (m ≠ g) := HM.out.ne HG.out (by decide)
 have c5 : w1.cell? ⟨g,5,none⟩ = some (.slice (some ⟨R,0,none⟩) k.txs.length k.txs.length) := HG1.out.cell_at rfl
 have hgl := HG1.out.lt
 refine (vis_c _ _).mono ?_
 rintro e w' ⟨rfl,rfl⟩
 go_wp2_with fail
 clear c5 hgl
 go_loopg [50] (k.txs.length) (fun gk v50 wr => ∃ i Gs,gk = k.txs.length - i ∧ i ≤ k.txs.length ∧ v50 = .int .i64 (i : Int) ∧ List.length Gs = i ∧ Blk wr R 109 (ptrs Gs ++ List.replicate (k.txs.length - i) (.pointer none)) ∧ Blk wr g 188 (blkTrs m R k.txs.length false) ∧ List.Nodup Gs ∧ (∀ G ∈ Gs,R < G) ∧ (∀ j (h : j < Gs.length) (h' : j < k.txs.length),UTxE K B wr Gs[j] k.txs[j]) ∧ Fr [g] w wr)
 case atStart => exact ⟨0,[],rfl,Nat.zero_le _,rfl,rfl,by simpa [ptrs] using HR1.out,HG1.out,List.nodup_nil,by simp,by simp,HF1.out⟩
 case round =>
  clear HF1 HG1 HR1
  obtain ⟨i,Gs,rfl,hi,rfl,hgs,hr,hg,hnd,hgt,hea,hf⟩ := hrel
  have Hgs := hid hgs; clear hgs
  have HR := hid hr; clear hr
  have HGb := hid hg; clear hg
  have Hnd := hid hnd; clear hnd
  have Hgt := hid hgt; clear hgt
  have Hea := hid hea; clear hea
  have HF := hid hf; clear hf
  have hpl : (ptrs Gs).length = i := by simp [ptrs,Hgs.out]
  have Hpl := hid hpl; clear hpl
  by_cases hlt : i < k.txs.length
  ·have hlti : (i : Int) < k.txs.length := by omega
   have hii : (i : Int) ≤ 1000000 := by omega
   obtain ⟨b,off,cap',u,he,hbB,hrg,hE⟩ := HT.out.at' hlt
   simp only [Value.slice.injEq] at he
   obtain ⟨rfl,_,rfl⟩ := he
   obtain ⟨M,dm,hu,hMB,hMb,hME⟩ := hE
   simp only [List.cons.injEq,and_true] at hu
   subst hu
   have HBl : Hid (Below B w wr) := HF.out.to_below hBw (by simp; exact hBg)
   have HMb : Hid (Blk wr M 227 dm) := hMb.below HBl.out hMB
   have HME : Hid (MsgTxT B wr dm k.txs[i]) := hME.below HBl.out
   have Hrg : Hid (∀ w',Below B w w' → w'.cell? ⟨b,off + i,none⟩ = some (.pointer (some ⟨M,0,none⟩))) := hrg
   clear hrg hMb hME
   have HM1 : Hid (Blk wr m 121 (k.hdr.wire ++ [.slice (some ⟨b,off,none⟩) k.txs.length ct])) := HM.out.fr HF.out (by simp; exact HmG.out)
   have e1 := Hrg.out wr HBl.out
   have cR : wr.cell? ⟨R,i,none⟩ = some (.pointer none) := HR.out.cell_at (by rw [List.getElem?_append_right (by rw [Hpl.out]; omega),Hpl.out,Nat.sub_self]; rw [List.getElem?_replicate]; simp; omega)
   have c0 : wr.cell? ⟨g,0,none⟩ = some (.pointer (some ⟨m,0,none⟩)) := HGb.out.cell_at rfl
   have cm : wr.cell? ⟨m,68,none⟩ = some (.slice (some ⟨b,off,none⟩) k.txs.length ct) := HM1.out.cell_at (by rw [List.getElem?_append_right (by rw [HWL.out]; omega),HWL.out]; rfl)
   have hgl := HGb.out.lt
   have hml := HM1.out.lt
   have hRl := HR.out.lt
   have hbl : b < wr.heap.size := Nat.lt_of_lt_of_le hbB (Nat.le_trans hBw HF.out.size)
   go_wp2_with fail
   refine (newTx_c wr M).mono ?_
   rintro e w2 ⟨rfl,hf,hb⟩
   obtain ⟨G,hG⟩ : ∃ G,G = wr.heap.size := ⟨_,rfl⟩
   rw [← hG] at hb ⊢
   have HGr : Hid (G = wr.heap.size) := hG
   have HF2 : Hid (Fr [G] wr w2) := hf.mono (by simp)
   have HT2 := hid hb
   clear hf hb hG c0 cm e1 cR hgl hml hRl hbl
   go_wp2_with fail
   refine (setIndex_c w2 G M _ i _ HT2.out).mono ?_
   rintro e w3 ⟨rfl,hf,hb⟩
   have HF3 : Hid (Fr [G] wr w3) := HF2.out.trans hf
   have HT3 := hid hb
   clear hf hb HF2 HT2
   have HGg : Hid (g ∉ [G]) := by have := HGb.out.lt; have := HGr.out; show _ ∉ _; simp; omega
   have HGR : Hid (R ∉ [G]) := by have := HR.out.lt; have := HGr.out; show _ ∉ _; simp; omega
   have HGm : Hid (m ∉ [G]) := by have := HM1.out.lt; have := HGr.out; show _ ∉ _; simp; omega
   have HFw3 : Hid (Fr [g] w w3) := HF.out.andThen HF3.out (by intro k hk; simp at hk; subst hk; right; have := HGr.out; have := HF.out.size; omega)
   have HBl3 : Hid (Below B w w3) := HFw3.out.to_below hBw (by simp; exact hBg)
   have HGb3 : Hid (Blk w3 g 188 (blkTrs m R k.txs.length false)) := HGb.out.fr HF3.out HGg.out
   have HM3 : Hid (Blk w3 m 121 (k.hdr.wire ++ [.slice (some ⟨b,off,none⟩) k.txs.length ct])) := HM1.out.fr HF3.out HGm.out
   have HMB : Hid (M ∉ [G]) := by have := HMb.out.lt; have := HGr.out; show _ ∉ _; simp; omega
   have c0 : w3.cell? ⟨g,0,none⟩ = some (.pointer (some ⟨m,0,none⟩)) := HGb3.out.cell_at rfl
   have cm : w3.cell? ⟨m,68,none⟩ = some (.slice (some ⟨b,off,none⟩) k.txs.length ct) := HM3.out.cell_at (by rw [List.getElem?_append_right (by rw [HWL.out]; omega),HWL.out]; rfl)
   have e1 := Hrg.out w3 HBl3.out
   have hgl := HGb3.out.lt
   have hml := HM3.out.lt
   have hbl : b < w3.heap.size := Nat.lt_of_lt_of_le hbB (Nat.le_trans hBw HFw3.out.size)
   go_wp2_with fail
   refine (txSize2_c w3 B M (Nat.le_trans hBw HFw3.out.size) k.txs[i] dm (Hk.out.txs _ (List.getElem_mem hlt)) (Hs.out.txs _ (List.getElem_mem hlt)) (HMb.out.fr HF3.out HMB.out) (HME.out.below (HF3.out.to_below (Nat.le_trans hBw HF.out.size) (by simp; have := HGr.out; have := HF.out.size; omega)))).mono ?_
   rintro e w4 ⟨n4,rfl,hf⟩
   have HF4 : Hid (Fr [G] wr w4) := HF3.out.trans (hf.mono (by simp))
   have HT4 : Hid (Blk w4 G 204 (utx M (.pointer none) i)) := HT3.out.fr hf (by simp)
   have HGb4 : Hid (Blk w4 g 188 (blkTrs m R k.txs.length false)) := HGb3.out.fr hf (by simp)
   have HR4 : Hid (Blk w4 R 109 (ptrs Gs ++ List.replicate (k.txs.length - i) (.pointer none))) := HR.out.fr HF4.out HGR.out
   have HFw4 : Hid (Fr [g] w w4) := HFw3.out.trans (hf.mono (by simp))
   clear hf c0 cm e1 hgl hml hbl HF3 HT3 HGb3 HM3 HBl3 HFw3
   have c1 : w4.cell? ⟨g,1,none⟩ = some (.slice none 0 0) := HGb4.out.cell_at rfl
   have c5 : w4.cell? ⟨g,5,none⟩ = some (.slice (some ⟨R,0,none⟩) k.txs.length k.txs.length) := HGb4.out.cell_at rfl
   have cR : w4.cell? ⟨R,i,none⟩ = some (.pointer none) := HR4.out.cell_at (by rw [List.getElem?_append_right (by rw [Hpl.out]; omega),Hpl.out,Nat.sub_self]; rw [List.getElem?_replicate]; simp; omega)
   have fR := HR4.out.free i
   have hgl := HGb4.out.lt
   have hRl := HR4.out.lt
   go_wp2_with fail
   have HF5 : Hid (Fr [g] w (w4.setCell ⟨R,i,none⟩ (.pointer (some ⟨G,0,none⟩)))) := ((HFw4.out.mono (S' := [g,R]) (by simp)).setCell _ _ (by simp)).drop (by intro k hk; simp at hk; rcases hk with rfl | rfl; { left; simp }; right; exact HRw.out)
   have HR5 : Hid (Blk (w4.setCell ⟨R,i,none⟩ (.pointer (some ⟨G,0,none⟩))) R 109 (ptrs (Gs ++ [G]) ++ List.replicate (k.txs.length - (i + 1)) (.pointer none))) := by
    have := HR4.out.set i (.pointer (some ⟨G,0,none⟩))
    rw [List.set_append_right _ _ (by rw [Hpl.out]; omega),Hpl.out,Nat.sub_self,show k.txs.length - i = (k.txs.length - (i + 1)) + 1 by omega,List.replicate_succ,List.set_cons_zero] at this
    have e : ptrs (Gs ++ [G]) ++ List.replicate (k.txs.length - (i + 1)) (Value.pointer none) = ptrs Gs ++ (Value.pointer (some ⟨G,0,none⟩) :: List.replicate (k.txs.length - (i + 1)) (Value.pointer none)) := by simp [ptrs]
    rw [e]; exact this
   have HFR : Hid (Fr [R] w4 (w4.setCell ⟨R,i,none⟩ (.pointer (some ⟨G,0,none⟩)))) := (Fr.refl _ _).setCell _ _ (by simp)
   generalize World.setCell w4 _ _ = w5 at HF5 HR5 HFR ⊢
   have HgR' : Hid (g ∉ [R]) := by have := HgR.out; show _ ∉ _; simp; omega
   have HGR2 : Hid (G ≠ R) := by have := HGR.out; simp at this; exact fun h => this h.symm
   have HGb5 : Hid (Blk w5 g 188 (blkTrs m R k.txs.length false)) := HGb4.out.fr HFR.out HgR'.out
   have HG5 : Hid (Blk w5 G 204 (utx M (.pointer none) i)) := HT4.out.fr HFR.out (by simp; exact HGR2.out)
   have HE5 : Hid (∀ j (h : j < (Gs ++ [G]).length) (h' : j < k.txs.length),UTxE K B w5 (Gs ++ [G])[j] k.txs[j]) := by
    intro j h h'
    have hB5 : B ≤ wr.heap.size := Nat.le_trans hBw HF.out.size
    have hBr : B ≤ R := Nat.le_trans hBw HRw.out
    have hFA : Fr [G,R] wr w5 := (HF4.out.mono (by simp)).trans (HFR.out.mono (by simp))
    by_cases hj : j < Gs.length
    ·rw [List.getElem_append_left hj]
     have he := Hea.out j hj h'
     refine he.fr hFA hB5 ?_ ?_ ?_
     ·intro x hx; simp at hx; rcases hx with rfl | rfl
      ·have := HGr.out; omega
      ·exact hBr
     ·have h1 := he.lt
      have h2 := Hgt.out _ (List.getElem_mem hj)
      have := HGr.out
      simp; omega
     ·intro x hx xs hb; simp at hx; rcases hx with rfl | rfl
      ·have := hb.lt; have := HGr.out; omega
      ·exact absurd rfl (HR.out.ne hb (by decide))
    ·have hje : j = Gs.length := by simp at h; omega
     subst hje
     have e1 : (Gs ++ [G])[Gs.length]'h = G := by simp
     rw [e1]
     have e2 : k.txs[Gs.length]'(h') = k.txs[i] := by first | (congr 1; exact Hgs.out) | congr 1
     rw [e2]
     have hbl : Below B wr w5 := hFA.to_below hB5 (by intro x hx; simp at hx; rcases hx with rfl | rfl; { have := HGr.out; omega }; exact hBr)
     exact ⟨M,dm,_,_,HG5.out,.inl rfl,hMB,HMb.out.below hbl hMB,HME.out.below hbl⟩
   have HN5 : Hid (List.Nodup (Gs ++ [G])) := by
    show List.Nodup _
    rw [List.nodup_append]
    refine ⟨Hnd.out,by simp, ?_⟩
    intro x hx y hy
    simp at hy; subst hy
    obtain ⟨j,hj,rfl⟩ := List.getElem_of_mem hx
    have := (Hea.out j hj (by have := Hgs.out; omega)).lt
    have := HGr.out
    omega
   have HGt5 : Hid (∀ x ∈ Gs ++ [G],R < x) := by
    intro x hx
    rcases List.mem_append.mp hx with h | h
    ·exact Hgt.out x h
    ·simp at h; subst h; have := HGr.out; have := HR.out.lt; omega
   clear c1 c5 cR fR hgl hRl HR4 HGb4 HT4 HF4 HFw4
   go_wp2_with fail
   go_roundg (k.txs.length - (i + 1))
   case measure => omega
   case rel => exact ⟨i + 1,Gs ++ [G],rfl,by omega,by simp,by simp [Hgs.out],HR5.out,HGb5.out,HN5.out,HGt5.out,HE5.out,HF5.out⟩
  ·have hie : i = k.txs.length := by omega
   have HRf : Hid (Blk wr R 109 (ptrs Gs)) := by have := HR.out; rw [hie,Nat.sub_self,List.replicate_zero,List.append_nil] at this; exact this
   have Hie := hid hie; clear hie
   have c6 : wr.cell? ⟨g,6,none⟩ = some (.bool false) := HGb.out.cell_at rfl
   have c5 : wr.cell? ⟨g,5,none⟩ = some (.slice (some ⟨R,0,none⟩) k.txs.length k.txs.length) := HGb.out.cell_at rfl
   have f6 := HGb.out.free 6
   have hgl := HGb.out.lt
   go_wp2_with fail
   go_ret
   have hF6 : Fr [g] wr (wr.setCell ⟨g,6,none⟩ (.bool true)) := (Fr.refl _ _).setCell _ _ (by simp)
   have hU : UTxs K B wr R Gs k.txs := ⟨by rw [Hgs.out,Hie.out],HRf.out,Hnd.out,Hea.out⟩
   refine ⟨R,Gs,rfl,HF.out.trans hF6,HRw.out,fun G hG => by have := Hgt.out G hG; have := HRw.out; omega,HGb.out.set 6 _,hU.fr hF6 (Nat.le_trans hBw HF.out.size) (by simp; exact hBg) ?_⟩
   intro x hx T xs hb
   simp at hx; subst hx
   have e1 : wr.heap[x]? = _ := HGb.out
   have e2 : wr.heap[x]? = _ := hb
   rw [e1] at e2
   simp at e2
   obtain ⟨_,rfl⟩ := e2
   decide
theorem own1_size {base : Nat} {w : World} {v : Value} {l : List Int} (h : Fresh base w v l) : ∀ k ∈ own1 v,base ≤ k := fun k hk => (h.own k (own1_mem hk)).1
/-- append(s, x...), bytes. -/
theorem wpList_appF {w : World} {ops : Array Oper} {rest : List Oper} {o : Oper} {a : Act} {Q : Exit → Act → World → Prop} (hgd : o.guard = none) (s x : Operand)
  (ho : o.op = .call { callee := .builtin .append,args := #[s,x],argTypes := #[29,29] }) (W : World) (v xv : Value) (l m : List Int) (hs : a.eval s = v) (hx : a.eval x = xv)
  (hown : Fresh W.heap.size w v l) (hf : Fr [] W w) (hxv : Bytes w xv m) (hbytes : l.length + m.length ≤ 140737488355328)
  (h : ∀ v' w',Hid (Fresh W.heap.size w' v' (l ++ m)) → Hid (Fr [] W w') → Hid (Fr (own1 v) w w') → wpList Tryz.prog ops Q rest (a.put o.dst v') w') : wpList Tryz.prog ops Q (o :: rest) a w := by
 refine wpList_appB hgd s x ho W.heap.size v xv l m hs hx hown hxv hbytes hf.size ?_
 intro v' w' h1 h2
 exact h v' w' h1 (hown.fr1 hf h2.out (Nat.le_refl _)) h2
theorem lit_bytes (w : World) (l : List Int) (hl : l.length ≤ maxLen) : Bytes (w.alloc (.cells (ic .u8 l).toArray 5)) (.slice (some ⟨w.heap.size,0,none⟩) l.length l.length) l := arr_bytes (Blk.new _ _ _) rfl hl
/-- append(s, b), one byte: its own literal was made just ahead. -/
theorem wpList_app1 {w : World} {ops : Array Oper} {rest : List Oper} {o : Oper} {a : Act} {Q : Exit → Act → World → Prop} (hgd : o.guard = none) (s x : Operand)
  (ho : o.op = .call { callee := .builtin .append,args := #[s,x],argTypes := #[29,29] }) (W w1 : World) (v : Value) (l : List Int) (b : Int) (hs : a.eval s = v) (hw : w = w1.alloc (.cells #[Value.int .u8 b] 5)) (hx : a.eval x = .slice (some ⟨w1.heap.size,0,none⟩) 1 1)
  (hown : Fresh W.heap.size w1 v l) (hf : Fr [] W w1) (hbytes : l.length + 1 ≤ 140737488355328)
  (h : ∀ v' w',Hid (Fresh W.heap.size w' v' (l ++ [b])) → Hid (Fr [] W w') → Hid (Fr (own1 v) w1 w') → wpList Tryz.prog ops Q rest (a.put o.dst v') w') : wpList Tryz.prog ops Q (o :: rest) a w := by
 subst hw
 have h1 : Fr [] w1 (w1.alloc (.cells #[Value.int .u8 b] 5)) := (Fr.refl _ _).alloc _
 refine wpList_appF hgd s x ho W v _ l [b] hs hx (hown.fr h1) (hf.trans h1) (lit_bytes w1 [b] (by simp [maxLen])) hbytes ?_
 intro v' w' h2 h3 h4
 exact h v' w' h2 h3 ((h1.mono (by simp)).trans h4.out)
/-- append(s, e), one element: its own literal was made just ahead. -/
theorem wpList_pushF {α : Type} {P : Program} {w : World} {ops : Array Oper} {rest : List Oper} {o : Oper} {a : Act} {Q : Exit → Act → World → Prop} (hgd : o.guard = none) (s x : Operand) (t : TypeId)
  (ho : o.op = .call { callee := .builtin .append,args := #[s,x],argTypes := #[t,t] })
  (T : TypeId) (size bytes : Nat) (he : Elem P t T size bytes) (W w1 : World) (E : World → List Value → α → Prop) (v : Value) (l : List α) (hs : a.eval s = v) (c : Array Value) (hw : w = w1.alloc (.cells c T)) (hx : a.eval x = .slice (some ⟨w1.heap.size,0,none⟩) 1 1)
  (hown : Grows W.heap.size T size E w1 v l) (hf : Fr [] W w1) (hcl : c.size = size) (h1 : ∀ u ∈ c.toList,u.oneCell' = true)
  (hE : ∀ wa w',FrT T wa w' → Below W.heap.size wa w' → ∀ c y,E wa c y → E w' c y) (y : α) (hy : E w1 c.toList y) (hbytes : (l.length + 1) * bytes ≤ 140737488355328)
  (h : ∀ v' w',Hid (Grows W.heap.size T size E w' v' (l ++ [y])) → Hid (Fr [] W w') → Hid (FrT T w1 w') → Hid (Fr (own1 v) w1 w') → wpList P ops Q rest (a.put o.dst v') w') : wpList P ops Q (o :: rest) a w := by
 subst hw
 have hf1 : Fr [] w1 (w1.alloc (.cells c T)) := (Fr.refl _ _).alloc _
 have hB : Blk (w1.alloc (.cells c T)) w1.heap.size T c.toList := by have := Blk.new w1 c.toList T; simpa using this
 have hft : FrT T w1 (w1.alloc (.cells c T)) := hf1.frT (by simp)
 have hbl : Below W.heap.size w1 (w1.alloc (.cells c T)) := hf1.to_below hf.size (by simp)
 refine wpList_push2 hgd s x t ho T size bytes he W.heap.size E v l hs (hown.fr hf1 (hE _ _ hft hbl)) w1.heap.size T c.toList hB hx (by simpa using hcl) h1 (fun w' => hE _ w') y (hE _ _ hft hbl _ _ hy) hbytes (Nat.le_trans hf.size hf1.size) ?_
 intro v' w' h2 h3 h4 h5
 exact h v' w' h2 (hf.andThen ((hf1.mono (by simp)).trans h4.out) (fun k hk => .inr (hown.own k (own1_mem hk)).1)) (hft.trans' h3.out) ((hf1.mono (by simp)).trans h4.out)
end Go.Proofs.YtdllckiidegpcaaGreat
