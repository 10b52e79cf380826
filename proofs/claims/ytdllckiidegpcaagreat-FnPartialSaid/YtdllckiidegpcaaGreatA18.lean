/- A part of the walk of laws.FnPartial (part 18): contracts of functions that it comes to, and the plain laws that these lean on. Conditions stand in each contract. -/
import Derived.Deep.DeepCutAuto
import Derived.Test.YtdllckiidegpcaaGreatA12
import Derived.Test.YtdllckiidegpcaaGreatA17
set_option linter.unusedSimpArgs false
set_option linter.unusedVariables false
namespace Go.Proofs.YtdllckiidegpcaaGreat
open Go.RowKit
def TokE (B : Nat) (w : World) (c : List Value) (t : Tok) : Prop := ∃ dv,c = [.int .i64 t.op,dv,.int .i64 (t.pos : Int)] ∧ BytesB B w dv t.data
theorem TokE.below {B : Nat} {w w' : World} {c : List Value} {t : Tok} (h : TokE B w c t) (hb : Below B w w') : TokE B w' c t := by
 obtain ⟨dv,rfl,h⟩ := h; exact ⟨dv,rfl,h.below hb⟩
theorem elem99 : Elem Tryz.prog 99 103 3 40 := Elem.mk' (by kernel_rfl) (by kernel_rfl) (by decide) (by decide)
def badInt : Option Nat → Int
 | none => -1
 | some p => p
theorem ic_drop (k : IntKind) (l : List Int) (n : Nat) : (ic k l).drop n = ic k (l.drop n) := by simp [ic,List.map_drop]
theorem ic_take (k : IntKind) (l : List Int) (n : Nat) : (ic k l).take n = ic k (l.take n) := by simp [ic,List.map_take]
set_option maxRecDepth 8000 in
set_option maxHeartbeats 1000000 in
theorem tokens_c (w : World) (B : Nat) (hBw : B ≤ w.heap.size) (v : Value) (s : List Int) (hv : BytesB B w v s) (hu : U8 s) (hs : s.length ≤ 1000000) :
  Calls Tryz.prog 36 #[v] w fun e w' => ∃ tv,e = .returned (.tuple #[tv,.int .i64 (badInt (toks s).2)]) ∧ Fr [] w w' ∧ ListT w'.heap.size 103 3 (TokE B) w' tv (toks s).1 := by
 obtain ⟨a,cap,rfl,h1,h2⟩ := hv.form
 have HV := hid hv; clear hv
 have Hu := hid hu; clear hu
 have Hs := hid hs; clear hs
 have Hc1 := hid h1; clear h1
 have Hc2 := hid h2; clear h2
 go_enter Tryz.func36,Tryz.ntmps36
 go_wp2_with fail
 go_loopg [2,4] (s.length) (fun gk v2 v4 wr => ∃ p l vr,vr = v2 ∧ gk = s.length - p ∧ p ≤ s.length ∧ v4 = .int .i64 (p : Int) ∧ Grows w.heap.size 103 3 (TokE B) wr vr l ∧ toks s = (l ++ (toksFrom s p).1,(toksFrom s p).2) ∧ l.length ≤ p ∧ Fr [] w wr)
 case atStart => exact ⟨0,[],_,rfl,rfl,Nat.zero_le _,rfl,Grows.nil _,rfl,Nat.le_refl _,Fr.refl _ _⟩
 case round =>
  obtain ⟨p,l,vr,rfl,rfl,hp,rfl,hg,ht,hlp,hf⟩ := hrel
  obtain ⟨av,cv,rfl⟩ := hg.slice
  have HG := hid hg; clear hg
  have HT := hid ht; clear ht
  have HL := hid hlp; clear hlp
  have HF := hid hf; clear hf
  by_cases hlt : p < s.length
  ·have hlti : (p : Int) < s.length := by omega
   have hp6 : (p : Int) ≤ 1000000 := by have := Hs.out; omega
   have HV1 : Hid (BytesB B wr (.slice a s.length cap) s) := HV.out.below (HF.out.below.mono hBw)
   obtain ⟨_,_,he,hq1,hq2,hcs⟩ := HV1.out
   clear hq1 hq2
   simp only [Value.slice.injEq] at he
   obtain ⟨rfl,_,rfl⟩ := he
   rcases hcs with ⟨_,_,hcs⟩ | ⟨b,off,rfl,hb,hcs⟩
   ·have := congrArg List.length hcs; rw [ic_length,List.length_nil] at this; omega
   have e1 := hcs p (by simpa using hlt)
   rw [ic_nth] at e1
   clear hcs
   have hx := Hu.out.bd p
   obtain ⟨x,hxe⟩ : ∃ x,x = nth s p := ⟨_,rfl⟩
   rw [← hxe] at e1 hx
   have Hx := hid hxe; clear hxe
   have hx1 := hx.1
   have hx2 := hx.2
   clear hx
   go_upto_region 4 with fail
   refine wp_region_lit ?_
   refine wpList_run (v := .slice (some ⟨b,off,none⟩) s.length cap) rfl rfl ?_
   simp only [Act.put,nA,nB,nC]
   refine wpList_run (v := .int .i64 (p : Int)) rfl rfl ?_
   simp only [Act.put,nA,nB,nC]
   refine wpList_run (v := .int .i64 ((p + 1 : Nat) : Int)) rfl (by rw [show (((p + 1 : Nat) : Int)) = IntKind.i64.wrap ((p : Int) + 1) by rw [IntWalk.i64_in _ (by omega)]; rfl]; rfl) ?_
   simp only [Act.put,nA,nB,nC]
   refine wpList_slc_l rfl 29 (.tmp 19) (.tmp 21) rfl 5 (by kernel_rfl) (by kernel_rfl) .i64 rfl rfl HV1.out (by simp) (by omega) ?_
   intro rv hrv
   rw [ic_drop] at hrv
   obtain ⟨ar,cr,rfl,hr1,hr2⟩ := hrv.form
   have HR : Hid (BytesB B wr (.slice ar (s.length - (p + 1)) cr) (s.drop (p + 1))) := by
    have := hrv; show RdB _ _ _ _ _; rwa [List.length_drop]
   clear hrv hr1 hr2
   have hrl : (((s.length - (p + 1) : Nat)) : Int) = s.length - p - 1 := by omega
   obtain ⟨n,hn⟩ : ∃ n,n = s.length - (p + 1) := ⟨_,rfl⟩
   rw [← hn] at HR ⊢
   have Hn := hid hn; clear hn hrl
   have hn6 : (n : Int) ≤ 1000000 := by have := Hs.out; have := Hn.out; omega
   have hnl : n = (s.drop (p + 1)).length := by rw [List.length_drop]; exact Hn.out
   obtain ⟨C0,rfl⟩ := Int.eq_ofNat_of_zero_le hx1
   have hcase : C0 = 0 ∨ (1 ≤ C0 ∧ C0 < 76) ∨ C0 = 76 ∨ C0 = 77 ∨ C0 = 78 ∨ 78 < C0 := by omega
   have HNL := hid hnl; clear hnl
   have HRn : Hid (RdB B wr (.slice ar n cr) n (ic .u8 (s.drop (p + 1)))) := by
    have := HR.out; show RdB _ _ _ _ _; rw [HNL.out] at this ⊢; exact this
   rcases hcase with rfl | hA | rfl | rfl | rfl | hA
   ·have hok : Hid (tokAt s p = if 0 ≤ n - 0 then some (((s.drop (p + 1)).drop 0).take 0,p + 1 + 0 + 0) else none) := by
     show _ = _
     unfold tokAt; rw [← Hx.out]; simp
    have HW : Hid (0 ≤ n) := Nat.zero_le _
    go_upto_region 11 with fail
    go_upto_region 13 with fail
    have hsum : 0 + 0 ≤ n := by have := HW.out; omega
    refine wp_region_lit ?_
    refine wpList_run (v := .slice av l.length cv) rfl rfl ?_
    simp only [Act.put,nA,nB,nC]
    refine wpList_run (v := .int .i64 0) rfl rfl ?_
    simp only [Act.put,nA,nB,nC]
    refine wpList_run (v := .slice ar n cr) rfl rfl ?_
    simp only [Act.put,nA,nB,nC]
    refine wpList_run (v := .int .i64 0) rfl rfl ?_
    simp only [Act.put,nA,nB,nC]
    refine wpList_run (v := .int .i64 0) rfl rfl ?_
    simp only [Act.put,nA,nB,nC]
    refine wpList_run (v := .int .i64 0) rfl rfl ?_
    simp only [Act.put,nA,nB,nC]
    refine wpList_add rfl 3 3 (.tmp 63) (.tmp 64) rfl 0 0 ((0 + 0 : Nat) : Int) rfl rfl (by omega) (by omega) (by omega) ?_
    simp only [Act.put,nA,nB,nC]
    refine wpList_slc_lh (lo := 0) (hi := 0 + 0) rfl 29 (.tmp 61) (.tmp 62) (.tmp 65) rfl 5 (by kernel_rfl) (by kernel_rfl) .i64 .i64 rfl rfl rfl HRn.out (by have := HNL.out; rw [ic_length,← this]) (by omega) hsum ?_
    intro dv hdv
    rw [ic_drop,ic_take,Nat.add_sub_cancel_left] at hdv
    have HD : Hid (BytesB B wr dv (((s.drop (p + 1)).drop 0).take 0)) := by
     have e : (((s.drop (p + 1)).drop 0).take 0).length = 0 := by
      have := HNL.out
      rw [List.length_take,List.length_drop,← this]; omega
     show RdB _ _ _ _ _
     rw [e]; exact hdv
    clear hdv
    obtain ⟨ad,nd,cd,rfl⟩ : ∃ ad nd cd,dv = .slice ad nd cd := by obtain ⟨_,_,h,_⟩ := HD.out.form; exact ⟨_,_,_,h⟩
    have HFN : Hid (Fr [] wr (wr.alloc (.cells #[.int .i64 0,.slice ad nd cd,.int .i64 (p : Int)] 103))) := (Fr.refl _ _).alloc _
    have HBN : Hid (Blk (wr.alloc (.cells #[.int .i64 0,.slice ad nd cd,.int .i64 (p : Int)] 103)) wr.heap.size 103 [.int .i64 0,.slice ad nd cd,.int .i64 (p : Int)]) := Blk.new _ _ _
    have HG2 : Hid (Grows w.heap.size 103 3 (TokE B) (wr.alloc (.cells #[.int .i64 0,.slice ad nd cd,.int .i64 (p : Int)] 103)) (.slice av l.length cv) l) := HG.out.fr HFN.out (fun _ _ h => h.below (HFN.out.below.mono (Nat.le_trans hBw HF.out.size)))
    have HY : Hid (TokE B (wr.alloc (.cells #[.int .i64 0,.slice ad nd cd,.int .i64 (p : Int)] 103)) [.int .i64 0,.slice ad nd cd,.int .i64 (p : Int)] ⟨0,((s.drop (p + 1)).drop 0).take 0,p⟩) := ⟨_,rfl,HD.out.below (HFN.out.below.mono (Nat.le_trans hBw HF.out.size))⟩
    have hby : (l.length + 1) * 40 ≤ 140737488355328 := by have := HL.out; have := Hs.out; omega
    have hl3 : Hid (([.int .i64 0,.slice ad nd cd,.int .i64 (p : Int)] : List Value).length = 3) := hid rfl
    have h1c : Hid (∀ u ∈ ([.int .i64 0,.slice ad nd cd,.int .i64 (p : Int)] : List Value),u.oneCell' = true) := by intro u hu; simp only [List.mem_cons,List.not_mem_nil,or_false] at hu; rcases hu with rfl | rfl | rfl <;> rfl
    have hEc : Hid (∀ w',FrT 103 (wr.alloc (.cells #[.int .i64 0,.slice ad nd cd,.int .i64 (p : Int)] 103)) w' → Below w.heap.size (wr.alloc (.cells #[.int .i64 0,.slice ad nd cd,.int .i64 (p : Int)] 103)) w' → ∀ c y,TokE B (wr.alloc (.cells #[.int .i64 0,.slice ad nd cd,.int .i64 (p : Int)] 103)) c y → TokE B w' c y) := fun w' _ hb c y h => h.below (hb.mono hBw)
    have hbs : Hid (w.heap.size ≤ (wr.alloc (.cells #[.int .i64 0,.slice ad nd cd,.int .i64 (p : Int)] 103)).heap.size) := Nat.le_trans HF.out.size HFN.out.size
    have Hby := hid hby; clear hby
    go_wp2_with (with_reducible refine wpList_push2 (o := ⟨some 70,_,_,_,_,_⟩) rfl (.tmp 59) (.tmp 69) 99 rfl 103 3 40 elem99 w.heap.size (TokE B) (.slice av l.length cv) l ?_ HG2.out wr.heap.size 103 _ HBN.out ?_ hl3.out h1c.out hEc.out _ HY.out Hby.out hbs.out ?_)
    ·rfl
    ·rfl
    intro v3 w3 HG3 HFT3 HFo3 HBl3
    have HF3 : Hid (Fr [] w w3) := (HF.out.trans HFN.out).andThen HFo3.out (fun k hk => .inr (HG2.out.own k (own1_mem hk)).1)
    have htk : Hid (tokAt s p = some (((s.drop (p + 1)).drop 0).take 0,p + 1 + 0 + 0)) := by
     show _ = _
     rw [hok.out,if_pos (by first | exact Nat.zero_le _ | exact HC.out)]
    have hq : p + 1 + 0 + 0 ≤ s.length := by have := Hn.out; omega
    clear Hby HY HG2 HBN HFN HFo3 HBl3 hok
    go_wp2_with fail
    go_roundg (s.length - (p + 1 + 0 + 0))
    case measure => omega
    case rel =>
     refine ⟨p + 1 + 0 + 0,_,_,rfl,rfl,hq,congrArg (Value.int .i64) (by omega),HG3.out, ?_, ?_,HF3.out⟩
     ·have e := HT.out
      rw [toksFrom_step hlt htk.out] at e
      rw [e,← Hx.out]; simp
     ·have := HL.out; simp; omega
   ·obtain ⟨hA1,hA2⟩ := hA
    have hA3 : (1 : Int) ≤ C0 := by omega
    have hA4 : (C0 : Int) < 76 := by omega
    have hok : Hid (tokAt s p = if C0 ≤ n - 0 then some (((s.drop (p + 1)).drop 0).take C0,p + 1 + 0 + C0) else none) := by
     show _ = _
     unfold tokAt; rw [← Hx.out]; simp only []; rw [if_pos (by omega),HNL.out]; simp
    have HW : Hid (0 ≤ n) := Nat.zero_le _
    obtain ⟨C,rfl⟩ : ∃ C,C = C0 := ⟨_,rfl⟩
    have hC6 : (C : Int) ≤ 4294967295 := by omega
    go_upto_region 11 with fail
    by_cases hC : C ≤ n - 0
    ·have hCi : (C : Int) ≤ (n : Int) - 0 := by have := HW.out; omega
     have HC := hid hC; clear hC
     go_upto_region 13 with fail
     have hsum : 0 + C ≤ n := by have := HW.out; have := HC.out; omega
     refine wp_region_lit ?_
     refine wpList_run (v := .slice av l.length cv) rfl rfl ?_
     simp only [Act.put,nA,nB,nC]
     refine wpList_run (v := .int .i64 (C : Int)) rfl rfl ?_
     simp only [Act.put,nA,nB,nC]
     refine wpList_run (v := .slice ar n cr) rfl rfl ?_
     simp only [Act.put,nA,nB,nC]
     refine wpList_run (v := .int .i64 0) rfl rfl ?_
     simp only [Act.put,nA,nB,nC]
     refine wpList_run (v := .int .i64 0) rfl rfl ?_
     simp only [Act.put,nA,nB,nC]
     refine wpList_run (v := .int .i64 C) rfl rfl ?_
     simp only [Act.put,nA,nB,nC]
     refine wpList_add rfl 3 3 (.tmp 63) (.tmp 64) rfl 0 C ((0 + C : Nat) : Int) rfl rfl (by omega) (by omega) (by omega) ?_
     simp only [Act.put,nA,nB,nC]
     refine wpList_slc_lh (lo := 0) (hi := 0 + C) rfl 29 (.tmp 61) (.tmp 62) (.tmp 65) rfl 5 (by kernel_rfl) (by kernel_rfl) .i64 .i64 rfl rfl rfl HRn.out (by have := HNL.out; rw [ic_length,← this]) (by omega) hsum ?_
     intro dv hdv
     rw [ic_drop,ic_take,Nat.add_sub_cancel_left] at hdv
     have HD : Hid (BytesB B wr dv (((s.drop (p + 1)).drop 0).take C)) := by
      have e : (((s.drop (p + 1)).drop 0).take C).length = C := by
       have := HNL.out
       rw [List.length_take,List.length_drop,← this]; omega
      show RdB _ _ _ _ _
      rw [e]; exact hdv
     clear hdv
     obtain ⟨ad,nd,cd,rfl⟩ : ∃ ad nd cd,dv = .slice ad nd cd := by obtain ⟨_,_,h,_⟩ := HD.out.form; exact ⟨_,_,_,h⟩
     have HFN : Hid (Fr [] wr (wr.alloc (.cells #[.int .i64 (C : Int),.slice ad nd cd,.int .i64 (p : Int)] 103))) := (Fr.refl _ _).alloc _
     have HBN : Hid (Blk (wr.alloc (.cells #[.int .i64 (C : Int),.slice ad nd cd,.int .i64 (p : Int)] 103)) wr.heap.size 103 [.int .i64 (C : Int),.slice ad nd cd,.int .i64 (p : Int)]) := Blk.new _ _ _
     have HG2 : Hid (Grows w.heap.size 103 3 (TokE B) (wr.alloc (.cells #[.int .i64 (C : Int),.slice ad nd cd,.int .i64 (p : Int)] 103)) (.slice av l.length cv) l) := HG.out.fr HFN.out (fun _ _ h => h.below (HFN.out.below.mono (Nat.le_trans hBw HF.out.size)))
     have HY : Hid (TokE B (wr.alloc (.cells #[.int .i64 (C : Int),.slice ad nd cd,.int .i64 (p : Int)] 103)) [.int .i64 (C : Int),.slice ad nd cd,.int .i64 (p : Int)] ⟨(C : Int),((s.drop (p + 1)).drop 0).take C,p⟩) := ⟨_,rfl,HD.out.below (HFN.out.below.mono (Nat.le_trans hBw HF.out.size))⟩
     have hby : (l.length + 1) * 40 ≤ 140737488355328 := by have := HL.out; have := Hs.out; omega
     have hl3 : Hid (([.int .i64 (C : Int),.slice ad nd cd,.int .i64 (p : Int)] : List Value).length = 3) := hid rfl
     have h1c : Hid (∀ u ∈ ([.int .i64 (C : Int),.slice ad nd cd,.int .i64 (p : Int)] : List Value),u.oneCell' = true) := by intro u hu; simp only [List.mem_cons,List.not_mem_nil,or_false] at hu; rcases hu with rfl | rfl | rfl <;> rfl
     have hEc : Hid (∀ w',FrT 103 (wr.alloc (.cells #[.int .i64 (C : Int),.slice ad nd cd,.int .i64 (p : Int)] 103)) w' → Below w.heap.size (wr.alloc (.cells #[.int .i64 (C : Int),.slice ad nd cd,.int .i64 (p : Int)] 103)) w' → ∀ c y,TokE B (wr.alloc (.cells #[.int .i64 (C : Int),.slice ad nd cd,.int .i64 (p : Int)] 103)) c y → TokE B w' c y) := fun w' _ hb c y h => h.below (hb.mono hBw)
     have hbs : Hid (w.heap.size ≤ (wr.alloc (.cells #[.int .i64 (C : Int),.slice ad nd cd,.int .i64 (p : Int)] 103)).heap.size) := Nat.le_trans HF.out.size HFN.out.size
     have Hby := hid hby; clear hby
     go_wp2_with (with_reducible refine wpList_push2 (o := ⟨some 70,_,_,_,_,_⟩) rfl (.tmp 59) (.tmp 69) 99 rfl 103 3 40 elem99 w.heap.size (TokE B) (.slice av l.length cv) l ?_ HG2.out wr.heap.size 103 _ HBN.out ?_ hl3.out h1c.out hEc.out _ HY.out Hby.out hbs.out ?_)
     ·rfl
     ·rfl
     intro v3 w3 HG3 HFT3 HFo3 HBl3
     have HF3 : Hid (Fr [] w w3) := (HF.out.trans HFN.out).andThen HFo3.out (fun k hk => .inr (HG2.out.own k (own1_mem hk)).1)
     have htk : Hid (tokAt s p = some (((s.drop (p + 1)).drop 0).take C,p + 1 + 0 + C)) := by
      show _ = _
      rw [hok.out,if_pos (by first | exact Nat.zero_le _ | exact HC.out)]
     have hq : p + 1 + 0 + C ≤ s.length := by have := Hn.out; omega
     clear Hby HY HG2 HBN HFN HFo3 HBl3 hok
     go_wp2_with fail
     go_roundg (s.length - (p + 1 + 0 + C))
     case measure => omega
     case rel =>
      refine ⟨p + 1 + 0 + C,_,_,rfl,rfl,hq,congrArg (Value.int .i64) (by omega),HG3.out, ?_, ?_,HF3.out⟩
      ·have e := HT.out
       rw [toksFrom_step hlt htk.out] at e
       rw [e,← Hx.out]; simp
      ·have := HL.out; simp; omega
    ·have hCi : ¬ (C : Int) ≤ (n : Int) - 0 := by have := HW.out; omega
     have HC := hid hC; clear hC
     have hbad : Hid (tokAt s p = none) := by
      show _ = _
      rw [hok.out,if_neg HC.out]
     have hWi : (0 : Int) ≤ n := by have := HW.out; omega
     go_wp2_with fail
     go_ret2
     have e := HT.out
     rw [toksFrom_bad hlt hbad.out] at e
     simp only [List.append_nil] at e
     rw [e]
     exact ⟨_,rfl,HF.out,HG.out.listT⟩
   ·go_wp2_with fail
    refine (word_c wr _ (s.drop (p + 1)) 1 (HR.out.rd (Nat.le_trans hBw HF.out.size)) (Hu.out.drop _) (by omega) (by omega)).mono ?_
    rintro e w' ⟨rfl,rfl⟩
    by_cases hwd : (s.drop (p + 1)).length < 1
    ·rw [if_pos hwd]
     have hbad : Hid (tokAt s p = none) := by
      show _ = _
      unfold tokAt; rw [← Hx.out]; simp only []; rw [if_neg (by omega),if_pos (by omega)]; rw [if_pos (by simpa using hwd)]
     go_wp2_with fail
     go_ret2
     have e := HT.out
     rw [toksFrom_bad hlt hbad.out] at e
     simp only [List.append_nil] at e
     rw [e]
     exact ⟨_,rfl,HF.out,HG.out.listT⟩
    ·rw [if_neg hwd]
     have hbd := leNum_bd4 ((s.drop (p + 1)).take 1) ((Hu.out.drop _).take _) (by simp; omega)
     obtain ⟨C,hC⟩ := Int.eq_ofNat_of_zero_le hbd.1
     have HW : Hid (1 ≤ n) := by have := HNL.out; show _ ≤ _; omega
     have hok : Hid (tokAt s p = if C ≤ n - 1 then some (((s.drop (p + 1)).drop 1).take C,p + 1 + 1 + C) else none) := by
      show _ = _
      unfold tokAt; rw [← Hx.out]; simp only []; rw [if_neg (by omega),if_pos (by omega)]; rw [if_neg (by simpa using hwd)]
      show (if (leNum ((s.drop (p + 1)).take 1)).toNat ≤ (s.drop (p + 1)).length - 1 then some (((s.drop (p + 1)).drop 1).take (leNum ((s.drop (p + 1)).take 1)).toNat,p + 1 + 1 + (leNum ((s.drop (p + 1)).take 1)).toNat) else none) = _
      rw [hC,← HNL.out]; rfl
     rw [hC]
     have hC6 : (C : Int) ≤ 4294967295 := by omega
     clear hbd hC hwd
     go_upto_region 11 with fail
     by_cases hC : C ≤ n - 1
     ·have hCi : (C : Int) ≤ (n : Int) - 1 := by have := HW.out; omega
      have HC := hid hC; clear hC
      go_upto_region 13 with fail
      have hsum : 1 + C ≤ n := by have := HW.out; have := HC.out; omega
      refine wp_region_lit ?_
      refine wpList_run (v := .slice av l.length cv) rfl rfl ?_
      simp only [Act.put,nA,nB,nC]
      refine wpList_run (v := .int .i64 76) rfl rfl ?_
      simp only [Act.put,nA,nB,nC]
      refine wpList_run (v := .slice ar n cr) rfl rfl ?_
      simp only [Act.put,nA,nB,nC]
      refine wpList_run (v := .int .i64 1) rfl rfl ?_
      simp only [Act.put,nA,nB,nC]
      refine wpList_run (v := .int .i64 1) rfl rfl ?_
      simp only [Act.put,nA,nB,nC]
      refine wpList_run (v := .int .i64 C) rfl rfl ?_
      simp only [Act.put,nA,nB,nC]
      refine wpList_add rfl 3 3 (.tmp 63) (.tmp 64) rfl 1 C ((1 + C : Nat) : Int) rfl rfl (by omega) (by omega) (by omega) ?_
      simp only [Act.put,nA,nB,nC]
      refine wpList_slc_lh (lo := 1) (hi := 1 + C) rfl 29 (.tmp 61) (.tmp 62) (.tmp 65) rfl 5 (by kernel_rfl) (by kernel_rfl) .i64 .i64 rfl rfl rfl HRn.out (by have := HNL.out; rw [ic_length,← this]) (by omega) hsum ?_
      intro dv hdv
      rw [ic_drop,ic_take,Nat.add_sub_cancel_left] at hdv
      have HD : Hid (BytesB B wr dv (((s.drop (p + 1)).drop 1).take C)) := by
       have e : (((s.drop (p + 1)).drop 1).take C).length = C := by
        have := HNL.out
        rw [List.length_take,List.length_drop,← this]; omega
       show RdB _ _ _ _ _
       rw [e]; exact hdv
      clear hdv
      obtain ⟨ad,nd,cd,rfl⟩ : ∃ ad nd cd,dv = .slice ad nd cd := by obtain ⟨_,_,h,_⟩ := HD.out.form; exact ⟨_,_,_,h⟩
      have HFN : Hid (Fr [] wr (wr.alloc (.cells #[.int .i64 76,.slice ad nd cd,.int .i64 (p : Int)] 103))) := (Fr.refl _ _).alloc _
      have HBN : Hid (Blk (wr.alloc (.cells #[.int .i64 76,.slice ad nd cd,.int .i64 (p : Int)] 103)) wr.heap.size 103 [.int .i64 76,.slice ad nd cd,.int .i64 (p : Int)]) := Blk.new _ _ _
      have HG2 : Hid (Grows w.heap.size 103 3 (TokE B) (wr.alloc (.cells #[.int .i64 76,.slice ad nd cd,.int .i64 (p : Int)] 103)) (.slice av l.length cv) l) := HG.out.fr HFN.out (fun _ _ h => h.below (HFN.out.below.mono (Nat.le_trans hBw HF.out.size)))
      have HY : Hid (TokE B (wr.alloc (.cells #[.int .i64 76,.slice ad nd cd,.int .i64 (p : Int)] 103)) [.int .i64 76,.slice ad nd cd,.int .i64 (p : Int)] ⟨76,((s.drop (p + 1)).drop 1).take C,p⟩) := ⟨_,rfl,HD.out.below (HFN.out.below.mono (Nat.le_trans hBw HF.out.size))⟩
      have hby : (l.length + 1) * 40 ≤ 140737488355328 := by have := HL.out; have := Hs.out; omega
      have hl3 : Hid (([.int .i64 76,.slice ad nd cd,.int .i64 (p : Int)] : List Value).length = 3) := hid rfl
      have h1c : Hid (∀ u ∈ ([.int .i64 76,.slice ad nd cd,.int .i64 (p : Int)] : List Value),u.oneCell' = true) := by intro u hu; simp only [List.mem_cons,List.not_mem_nil,or_false] at hu; rcases hu with rfl | rfl | rfl <;> rfl
      have hEc : Hid (∀ w',FrT 103 (wr.alloc (.cells #[.int .i64 76,.slice ad nd cd,.int .i64 (p : Int)] 103)) w' → Below w.heap.size (wr.alloc (.cells #[.int .i64 76,.slice ad nd cd,.int .i64 (p : Int)] 103)) w' → ∀ c y,TokE B (wr.alloc (.cells #[.int .i64 76,.slice ad nd cd,.int .i64 (p : Int)] 103)) c y → TokE B w' c y) := fun w' _ hb c y h => h.below (hb.mono hBw)
      have hbs : Hid (w.heap.size ≤ (wr.alloc (.cells #[.int .i64 76,.slice ad nd cd,.int .i64 (p : Int)] 103)).heap.size) := Nat.le_trans HF.out.size HFN.out.size
      have Hby := hid hby; clear hby
      go_wp2_with (with_reducible refine wpList_push2 (o := ⟨some 70,_,_,_,_,_⟩) rfl (.tmp 59) (.tmp 69) 99 rfl 103 3 40 elem99 w.heap.size (TokE B) (.slice av l.length cv) l ?_ HG2.out wr.heap.size 103 _ HBN.out ?_ hl3.out h1c.out hEc.out _ HY.out Hby.out hbs.out ?_)
      ·rfl
      ·rfl
      intro v3 w3 HG3 HFT3 HFo3 HBl3
      have HF3 : Hid (Fr [] w w3) := (HF.out.trans HFN.out).andThen HFo3.out (fun k hk => .inr (HG2.out.own k (own1_mem hk)).1)
      have htk : Hid (tokAt s p = some (((s.drop (p + 1)).drop 1).take C,p + 1 + 1 + C)) := by
       show _ = _
       rw [hok.out,if_pos (by first | exact Nat.zero_le _ | exact HC.out)]
      have hq : p + 1 + 1 + C ≤ s.length := by have := Hn.out; omega
      clear Hby HY HG2 HBN HFN HFo3 HBl3 hok
      go_wp2_with fail
      go_roundg (s.length - (p + 1 + 1 + C))
      case measure => omega
      case rel =>
       refine ⟨p + 1 + 1 + C,_,_,rfl,rfl,hq,congrArg (Value.int .i64) (by omega),HG3.out, ?_, ?_,HF3.out⟩
       ·have e := HT.out
        rw [toksFrom_step hlt htk.out] at e
        rw [e,← Hx.out]; simp
       ·have := HL.out; simp; omega
     ·have hCi : ¬ (C : Int) ≤ (n : Int) - 1 := by have := HW.out; omega
      have HC := hid hC; clear hC
      have hbad : Hid (tokAt s p = none) := by
       show _ = _
       rw [hok.out,if_neg HC.out]
      have hWi : (1 : Int) ≤ n := by have := HW.out; omega
      go_wp2_with fail
      go_ret2
      have e := HT.out
      rw [toksFrom_bad hlt hbad.out] at e
      simp only [List.append_nil] at e
      rw [e]
      exact ⟨_,rfl,HF.out,HG.out.listT⟩
   ·go_wp2_with fail
    refine (word_c wr _ (s.drop (p + 1)) 2 (HR.out.rd (Nat.le_trans hBw HF.out.size)) (Hu.out.drop _) (by omega) (by omega)).mono ?_
    rintro e w' ⟨rfl,rfl⟩
    by_cases hwd : (s.drop (p + 1)).length < 2
    ·rw [if_pos hwd]
     have hbad : Hid (tokAt s p = none) := by
      show _ = _
      unfold tokAt; rw [← Hx.out]; simp only []; rw [if_neg (by omega),if_pos (by omega)]; rw [if_pos (by simpa using hwd)]
     go_wp2_with fail
     go_ret2
     have e := HT.out
     rw [toksFrom_bad hlt hbad.out] at e
     simp only [List.append_nil] at e
     rw [e]
     exact ⟨_,rfl,HF.out,HG.out.listT⟩
    ·rw [if_neg hwd]
     have hbd := leNum_bd4 ((s.drop (p + 1)).take 2) ((Hu.out.drop _).take _) (by simp; omega)
     obtain ⟨C,hC⟩ := Int.eq_ofNat_of_zero_le hbd.1
     have HW : Hid (2 ≤ n) := by have := HNL.out; show _ ≤ _; omega
     have hok : Hid (tokAt s p = if C ≤ n - 2 then some (((s.drop (p + 1)).drop 2).take C,p + 1 + 2 + C) else none) := by
      show _ = _
      unfold tokAt; rw [← Hx.out]; simp only []; rw [if_neg (by omega),if_pos (by omega)]; rw [if_neg (by simpa using hwd)]
      show (if (leNum ((s.drop (p + 1)).take 2)).toNat ≤ (s.drop (p + 1)).length - 2 then some (((s.drop (p + 1)).drop 2).take (leNum ((s.drop (p + 1)).take 2)).toNat,p + 1 + 2 + (leNum ((s.drop (p + 1)).take 2)).toNat) else none) = _
      rw [hC,← HNL.out]; rfl
     rw [hC]
     have hC6 : (C : Int) ≤ 4294967295 := by omega
     clear hbd hC hwd
     go_upto_region 11 with fail
     by_cases hC : C ≤ n - 2
     ·have hCi : (C : Int) ≤ (n : Int) - 2 := by have := HW.out; omega
      have HC := hid hC; clear hC
      go_upto_region 13 with fail
      have hsum : 2 + C ≤ n := by have := HW.out; have := HC.out; omega
      refine wp_region_lit ?_
      refine wpList_run (v := .slice av l.length cv) rfl rfl ?_
      simp only [Act.put,nA,nB,nC]
      refine wpList_run (v := .int .i64 77) rfl rfl ?_
      simp only [Act.put,nA,nB,nC]
      refine wpList_run (v := .slice ar n cr) rfl rfl ?_
      simp only [Act.put,nA,nB,nC]
      refine wpList_run (v := .int .i64 2) rfl rfl ?_
      simp only [Act.put,nA,nB,nC]
      refine wpList_run (v := .int .i64 2) rfl rfl ?_
      simp only [Act.put,nA,nB,nC]
      refine wpList_run (v := .int .i64 C) rfl rfl ?_
      simp only [Act.put,nA,nB,nC]
      refine wpList_add rfl 3 3 (.tmp 63) (.tmp 64) rfl 2 C ((2 + C : Nat) : Int) rfl rfl (by omega) (by omega) (by omega) ?_
      simp only [Act.put,nA,nB,nC]
      refine wpList_slc_lh (lo := 2) (hi := 2 + C) rfl 29 (.tmp 61) (.tmp 62) (.tmp 65) rfl 5 (by kernel_rfl) (by kernel_rfl) .i64 .i64 rfl rfl rfl HRn.out (by have := HNL.out; rw [ic_length,← this]) (by omega) hsum ?_
      intro dv hdv
      rw [ic_drop,ic_take,Nat.add_sub_cancel_left] at hdv
      have HD : Hid (BytesB B wr dv (((s.drop (p + 1)).drop 2).take C)) := by
       have e : (((s.drop (p + 1)).drop 2).take C).length = C := by
        have := HNL.out
        rw [List.length_take,List.length_drop,← this]; omega
       show RdB _ _ _ _ _
       rw [e]; exact hdv
      clear hdv
      obtain ⟨ad,nd,cd,rfl⟩ : ∃ ad nd cd,dv = .slice ad nd cd := by obtain ⟨_,_,h,_⟩ := HD.out.form; exact ⟨_,_,_,h⟩
      have HFN : Hid (Fr [] wr (wr.alloc (.cells #[.int .i64 77,.slice ad nd cd,.int .i64 (p : Int)] 103))) := (Fr.refl _ _).alloc _
      have HBN : Hid (Blk (wr.alloc (.cells #[.int .i64 77,.slice ad nd cd,.int .i64 (p : Int)] 103)) wr.heap.size 103 [.int .i64 77,.slice ad nd cd,.int .i64 (p : Int)]) := Blk.new _ _ _
      have HG2 : Hid (Grows w.heap.size 103 3 (TokE B) (wr.alloc (.cells #[.int .i64 77,.slice ad nd cd,.int .i64 (p : Int)] 103)) (.slice av l.length cv) l) := HG.out.fr HFN.out (fun _ _ h => h.below (HFN.out.below.mono (Nat.le_trans hBw HF.out.size)))
      have HY : Hid (TokE B (wr.alloc (.cells #[.int .i64 77,.slice ad nd cd,.int .i64 (p : Int)] 103)) [.int .i64 77,.slice ad nd cd,.int .i64 (p : Int)] ⟨77,((s.drop (p + 1)).drop 2).take C,p⟩) := ⟨_,rfl,HD.out.below (HFN.out.below.mono (Nat.le_trans hBw HF.out.size))⟩
      have hby : (l.length + 1) * 40 ≤ 140737488355328 := by have := HL.out; have := Hs.out; omega
      have hl3 : Hid (([.int .i64 77,.slice ad nd cd,.int .i64 (p : Int)] : List Value).length = 3) := hid rfl
      have h1c : Hid (∀ u ∈ ([.int .i64 77,.slice ad nd cd,.int .i64 (p : Int)] : List Value),u.oneCell' = true) := by intro u hu; simp only [List.mem_cons,List.not_mem_nil,or_false] at hu; rcases hu with rfl | rfl | rfl <;> rfl
      have hEc : Hid (∀ w',FrT 103 (wr.alloc (.cells #[.int .i64 77,.slice ad nd cd,.int .i64 (p : Int)] 103)) w' → Below w.heap.size (wr.alloc (.cells #[.int .i64 77,.slice ad nd cd,.int .i64 (p : Int)] 103)) w' → ∀ c y,TokE B (wr.alloc (.cells #[.int .i64 77,.slice ad nd cd,.int .i64 (p : Int)] 103)) c y → TokE B w' c y) := fun w' _ hb c y h => h.below (hb.mono hBw)
      have hbs : Hid (w.heap.size ≤ (wr.alloc (.cells #[.int .i64 77,.slice ad nd cd,.int .i64 (p : Int)] 103)).heap.size) := Nat.le_trans HF.out.size HFN.out.size
      have Hby := hid hby; clear hby
      go_wp2_with (with_reducible refine wpList_push2 (o := ⟨some 70,_,_,_,_,_⟩) rfl (.tmp 59) (.tmp 69) 99 rfl 103 3 40 elem99 w.heap.size (TokE B) (.slice av l.length cv) l ?_ HG2.out wr.heap.size 103 _ HBN.out ?_ hl3.out h1c.out hEc.out _ HY.out Hby.out hbs.out ?_)
      ·rfl
      ·rfl
      intro v3 w3 HG3 HFT3 HFo3 HBl3
      have HF3 : Hid (Fr [] w w3) := (HF.out.trans HFN.out).andThen HFo3.out (fun k hk => .inr (HG2.out.own k (own1_mem hk)).1)
      have htk : Hid (tokAt s p = some (((s.drop (p + 1)).drop 2).take C,p + 1 + 2 + C)) := by
       show _ = _
       rw [hok.out,if_pos (by first | exact Nat.zero_le _ | exact HC.out)]
      have hq : p + 1 + 2 + C ≤ s.length := by have := Hn.out; omega
      clear Hby HY HG2 HBN HFN HFo3 HBl3 hok
      go_wp2_with fail
      go_roundg (s.length - (p + 1 + 2 + C))
      case measure => omega
      case rel =>
       refine ⟨p + 1 + 2 + C,_,_,rfl,rfl,hq,congrArg (Value.int .i64) (by omega),HG3.out, ?_, ?_,HF3.out⟩
       ·have e := HT.out
        rw [toksFrom_step hlt htk.out] at e
        rw [e,← Hx.out]; simp
       ·have := HL.out; simp; omega
     ·have hCi : ¬ (C : Int) ≤ (n : Int) - 2 := by have := HW.out; omega
      have HC := hid hC; clear hC
      have hbad : Hid (tokAt s p = none) := by
       show _ = _
       rw [hok.out,if_neg HC.out]
      have hWi : (2 : Int) ≤ n := by have := HW.out; omega
      go_wp2_with fail
      go_ret2
      have e := HT.out
      rw [toksFrom_bad hlt hbad.out] at e
      simp only [List.append_nil] at e
      rw [e]
      exact ⟨_,rfl,HF.out,HG.out.listT⟩
   ·go_wp2_with fail
    refine (word_c wr _ (s.drop (p + 1)) 4 (HR.out.rd (Nat.le_trans hBw HF.out.size)) (Hu.out.drop _) (by omega) (by omega)).mono ?_
    rintro e w' ⟨rfl,rfl⟩
    by_cases hwd : (s.drop (p + 1)).length < 4
    ·rw [if_pos hwd]
     have hbad : Hid (tokAt s p = none) := by
      show _ = _
      unfold tokAt; rw [← Hx.out]; simp only []; rw [if_neg (by omega),if_pos (by omega)]; rw [if_pos (by simpa using hwd)]
     go_wp2_with fail
     go_ret2
     have e := HT.out
     rw [toksFrom_bad hlt hbad.out] at e
     simp only [List.append_nil] at e
     rw [e]
     exact ⟨_,rfl,HF.out,HG.out.listT⟩
    ·rw [if_neg hwd]
     have hbd := leNum_bd4 ((s.drop (p + 1)).take 4) ((Hu.out.drop _).take _) (by simp; omega)
     obtain ⟨C,hC⟩ := Int.eq_ofNat_of_zero_le hbd.1
     have HW : Hid (4 ≤ n) := by have := HNL.out; show _ ≤ _; omega
     have hok : Hid (tokAt s p = if C ≤ n - 4 then some (((s.drop (p + 1)).drop 4).take C,p + 1 + 4 + C) else none) := by
      show _ = _
      unfold tokAt; rw [← Hx.out]; simp only []; rw [if_neg (by omega),if_pos (by omega)]; rw [if_neg (by simpa using hwd)]
      show (if (leNum ((s.drop (p + 1)).take 4)).toNat ≤ (s.drop (p + 1)).length - 4 then some (((s.drop (p + 1)).drop 4).take (leNum ((s.drop (p + 1)).take 4)).toNat,p + 1 + 4 + (leNum ((s.drop (p + 1)).take 4)).toNat) else none) = _
      rw [hC,← HNL.out]; rfl
     rw [hC]
     have hC6 : (C : Int) ≤ 4294967295 := by omega
     clear hbd hC hwd
     go_upto_region 11 with fail
     by_cases hC : C ≤ n - 4
     ·have hCi : (C : Int) ≤ (n : Int) - 4 := by have := HW.out; omega
      have HC := hid hC; clear hC
      go_upto_region 13 with fail
      have hsum : 4 + C ≤ n := by have := HW.out; have := HC.out; omega
      refine wp_region_lit ?_
      refine wpList_run (v := .slice av l.length cv) rfl rfl ?_
      simp only [Act.put,nA,nB,nC]
      refine wpList_run (v := .int .i64 78) rfl rfl ?_
      simp only [Act.put,nA,nB,nC]
      refine wpList_run (v := .slice ar n cr) rfl rfl ?_
      simp only [Act.put,nA,nB,nC]
      refine wpList_run (v := .int .i64 4) rfl rfl ?_
      simp only [Act.put,nA,nB,nC]
      refine wpList_run (v := .int .i64 4) rfl rfl ?_
      simp only [Act.put,nA,nB,nC]
      refine wpList_run (v := .int .i64 C) rfl rfl ?_
      simp only [Act.put,nA,nB,nC]
      refine wpList_add rfl 3 3 (.tmp 63) (.tmp 64) rfl 4 C ((4 + C : Nat) : Int) rfl rfl (by omega) (by omega) (by omega) ?_
      simp only [Act.put,nA,nB,nC]
      refine wpList_slc_lh (lo := 4) (hi := 4 + C) rfl 29 (.tmp 61) (.tmp 62) (.tmp 65) rfl 5 (by kernel_rfl) (by kernel_rfl) .i64 .i64 rfl rfl rfl HRn.out (by have := HNL.out; rw [ic_length,← this]) (by omega) hsum ?_
      intro dv hdv
      rw [ic_drop,ic_take,Nat.add_sub_cancel_left] at hdv
      have HD : Hid (BytesB B wr dv (((s.drop (p + 1)).drop 4).take C)) := by
       have e : (((s.drop (p + 1)).drop 4).take C).length = C := by
        have := HNL.out
        rw [List.length_take,List.length_drop,← this]; omega
       show RdB _ _ _ _ _
       rw [e]; exact hdv
      clear hdv
      obtain ⟨ad,nd,cd,rfl⟩ : ∃ ad nd cd,dv = .slice ad nd cd := by obtain ⟨_,_,h,_⟩ := HD.out.form; exact ⟨_,_,_,h⟩
      have HFN : Hid (Fr [] wr (wr.alloc (.cells #[.int .i64 78,.slice ad nd cd,.int .i64 (p : Int)] 103))) := (Fr.refl _ _).alloc _
      have HBN : Hid (Blk (wr.alloc (.cells #[.int .i64 78,.slice ad nd cd,.int .i64 (p : Int)] 103)) wr.heap.size 103 [.int .i64 78,.slice ad nd cd,.int .i64 (p : Int)]) := Blk.new _ _ _
      have HG2 : Hid (Grows w.heap.size 103 3 (TokE B) (wr.alloc (.cells #[.int .i64 78,.slice ad nd cd,.int .i64 (p : Int)] 103)) (.slice av l.length cv) l) := HG.out.fr HFN.out (fun _ _ h => h.below (HFN.out.below.mono (Nat.le_trans hBw HF.out.size)))
      have HY : Hid (TokE B (wr.alloc (.cells #[.int .i64 78,.slice ad nd cd,.int .i64 (p : Int)] 103)) [.int .i64 78,.slice ad nd cd,.int .i64 (p : Int)] ⟨78,((s.drop (p + 1)).drop 4).take C,p⟩) := ⟨_,rfl,HD.out.below (HFN.out.below.mono (Nat.le_trans hBw HF.out.size))⟩
      have hby : (l.length + 1) * 40 ≤ 140737488355328 := by have := HL.out; have := Hs.out; omega
      have hl3 : Hid (([.int .i64 78,.slice ad nd cd,.int .i64 (p : Int)] : List Value).length = 3) := hid rfl
      have h1c : Hid (∀ u ∈ ([.int .i64 78,.slice ad nd cd,.int .i64 (p : Int)] : List Value),u.oneCell' = true) := by intro u hu; simp only [List.mem_cons,List.not_mem_nil,or_false] at hu; rcases hu with rfl | rfl | rfl <;> rfl
      have hEc : Hid (∀ w',FrT 103 (wr.alloc (.cells #[.int .i64 78,.slice ad nd cd,.int .i64 (p : Int)] 103)) w' → Below w.heap.size (wr.alloc (.cells #[.int .i64 78,.slice ad nd cd,.int .i64 (p : Int)] 103)) w' → ∀ c y,TokE B (wr.alloc (.cells #[.int .i64 78,.slice ad nd cd,.int .i64 (p : Int)] 103)) c y → TokE B w' c y) := fun w' _ hb c y h => h.below (hb.mono hBw)
      have hbs : Hid (w.heap.size ≤ (wr.alloc (.cells #[.int .i64 78,.slice ad nd cd,.int .i64 (p : Int)] 103)).heap.size) := Nat.le_trans HF.out.size HFN.out.size
      have Hby := hid hby; clear hby
      go_wp2_with (with_reducible refine wpList_push2 (o := ⟨some 70,_,_,_,_,_⟩) rfl (.tmp 59) (.tmp 69) 99 rfl 103 3 40 elem99 w.heap.size (TokE B) (.slice av l.length cv) l ?_ HG2.out wr.heap.size 103 _ HBN.out ?_ hl3.out h1c.out hEc.out _ HY.out Hby.out hbs.out ?_)
      ·rfl
      ·rfl
      intro v3 w3 HG3 HFT3 HFo3 HBl3
      have HF3 : Hid (Fr [] w w3) := (HF.out.trans HFN.out).andThen HFo3.out (fun k hk => .inr (HG2.out.own k (own1_mem hk)).1)
      have htk : Hid (tokAt s p = some (((s.drop (p + 1)).drop 4).take C,p + 1 + 4 + C)) := by
       show _ = _
       rw [hok.out,if_pos (by first | exact Nat.zero_le _ | exact HC.out)]
      have hq : p + 1 + 4 + C ≤ s.length := by have := Hn.out; omega
      clear Hby HY HG2 HBN HFN HFo3 HBl3 hok
      go_wp2_with fail
      go_roundg (s.length - (p + 1 + 4 + C))
      case measure => omega
      case rel =>
       refine ⟨p + 1 + 4 + C,_,_,rfl,rfl,hq,congrArg (Value.int .i64) (by omega),HG3.out, ?_, ?_,HF3.out⟩
       ·have e := HT.out
        rw [toksFrom_step hlt htk.out] at e
        rw [e,← Hx.out]; simp
       ·have := HL.out; simp; omega
     ·have hCi : ¬ (C : Int) ≤ (n : Int) - 4 := by have := HW.out; omega
      have HC := hid hC; clear hC
      have hbad : Hid (tokAt s p = none) := by
       show _ = _
       rw [hok.out,if_neg HC.out]
      have hWi : (4 : Int) ≤ n := by have := HW.out; omega
      go_wp2_with fail
      go_ret2
      have e := HT.out
      rw [toksFrom_bad hlt hbad.out] at e
      simp only [List.append_nil] at e
      rw [e]
      exact ⟨_,rfl,HF.out,HG.out.listT⟩
   ·have hA3 : (78 : Int) < C0 := by omega
    have hok : Hid (tokAt s p = if 0 ≤ n - 0 then some (((s.drop (p + 1)).drop 0).take 0,p + 1 + 0 + 0) else none) := by
     show _ = _
     unfold tokAt; rw [← Hx.out]; simp only []; rw [if_neg (by omega),if_neg (by omega)]; simp
    have HW : Hid (0 ≤ n) := Nat.zero_le _
    go_upto_region 11 with fail
    go_upto_region 13 with fail
    have hsum : 0 + 0 ≤ n := by have := HW.out; omega
    refine wp_region_lit ?_
    refine wpList_run (v := .slice av l.length cv) rfl rfl ?_
    simp only [Act.put,nA,nB,nC]
    refine wpList_run (v := .int .i64 (C0 : Int)) rfl rfl ?_
    simp only [Act.put,nA,nB,nC]
    refine wpList_run (v := .slice ar n cr) rfl rfl ?_
    simp only [Act.put,nA,nB,nC]
    refine wpList_run (v := .int .i64 0) rfl rfl ?_
    simp only [Act.put,nA,nB,nC]
    refine wpList_run (v := .int .i64 0) rfl rfl ?_
    simp only [Act.put,nA,nB,nC]
    refine wpList_run (v := .int .i64 0) rfl rfl ?_
    simp only [Act.put,nA,nB,nC]
    refine wpList_add rfl 3 3 (.tmp 63) (.tmp 64) rfl 0 0 ((0 + 0 : Nat) : Int) rfl rfl (by omega) (by omega) (by omega) ?_
    simp only [Act.put,nA,nB,nC]
    refine wpList_slc_lh (lo := 0) (hi := 0 + 0) rfl 29 (.tmp 61) (.tmp 62) (.tmp 65) rfl 5 (by kernel_rfl) (by kernel_rfl) .i64 .i64 rfl rfl rfl HRn.out (by have := HNL.out; rw [ic_length,← this]) (by omega) hsum ?_
    intro dv hdv
    rw [ic_drop,ic_take,Nat.add_sub_cancel_left] at hdv
    have HD : Hid (BytesB B wr dv (((s.drop (p + 1)).drop 0).take 0)) := by
     have e : (((s.drop (p + 1)).drop 0).take 0).length = 0 := by
      have := HNL.out
      rw [List.length_take,List.length_drop,← this]; omega
     show RdB _ _ _ _ _
     rw [e]; exact hdv
    clear hdv
    obtain ⟨ad,nd,cd,rfl⟩ : ∃ ad nd cd,dv = .slice ad nd cd := by obtain ⟨_,_,h,_⟩ := HD.out.form; exact ⟨_,_,_,h⟩
    have HFN : Hid (Fr [] wr (wr.alloc (.cells #[.int .i64 (C0 : Int),.slice ad nd cd,.int .i64 (p : Int)] 103))) := (Fr.refl _ _).alloc _
    have HBN : Hid (Blk (wr.alloc (.cells #[.int .i64 (C0 : Int),.slice ad nd cd,.int .i64 (p : Int)] 103)) wr.heap.size 103 [.int .i64 (C0 : Int),.slice ad nd cd,.int .i64 (p : Int)]) := Blk.new _ _ _
    have HG2 : Hid (Grows w.heap.size 103 3 (TokE B) (wr.alloc (.cells #[.int .i64 (C0 : Int),.slice ad nd cd,.int .i64 (p : Int)] 103)) (.slice av l.length cv) l) := HG.out.fr HFN.out (fun _ _ h => h.below (HFN.out.below.mono (Nat.le_trans hBw HF.out.size)))
    have HY : Hid (TokE B (wr.alloc (.cells #[.int .i64 (C0 : Int),.slice ad nd cd,.int .i64 (p : Int)] 103)) [.int .i64 (C0 : Int),.slice ad nd cd,.int .i64 (p : Int)] ⟨(C0 : Int),((s.drop (p + 1)).drop 0).take 0,p⟩) := ⟨_,rfl,HD.out.below (HFN.out.below.mono (Nat.le_trans hBw HF.out.size))⟩
    have hby : (l.length + 1) * 40 ≤ 140737488355328 := by have := HL.out; have := Hs.out; omega
    have hl3 : Hid (([.int .i64 (C0 : Int),.slice ad nd cd,.int .i64 (p : Int)] : List Value).length = 3) := hid rfl
    have h1c : Hid (∀ u ∈ ([.int .i64 (C0 : Int),.slice ad nd cd,.int .i64 (p : Int)] : List Value),u.oneCell' = true) := by intro u hu; simp only [List.mem_cons,List.not_mem_nil,or_false] at hu; rcases hu with rfl | rfl | rfl <;> rfl
    have hEc : Hid (∀ w',FrT 103 (wr.alloc (.cells #[.int .i64 (C0 : Int),.slice ad nd cd,.int .i64 (p : Int)] 103)) w' → Below w.heap.size (wr.alloc (.cells #[.int .i64 (C0 : Int),.slice ad nd cd,.int .i64 (p : Int)] 103)) w' → ∀ c y,TokE B (wr.alloc (.cells #[.int .i64 (C0 : Int),.slice ad nd cd,.int .i64 (p : Int)] 103)) c y → TokE B w' c y) := fun w' _ hb c y h => h.below (hb.mono hBw)
    have hbs : Hid (w.heap.size ≤ (wr.alloc (.cells #[.int .i64 (C0 : Int),.slice ad nd cd,.int .i64 (p : Int)] 103)).heap.size) := Nat.le_trans HF.out.size HFN.out.size
    have Hby := hid hby; clear hby
    go_wp2_with (with_reducible refine wpList_push2 (o := ⟨some 70,_,_,_,_,_⟩) rfl (.tmp 59) (.tmp 69) 99 rfl 103 3 40 elem99 w.heap.size (TokE B) (.slice av l.length cv) l ?_ HG2.out wr.heap.size 103 _ HBN.out ?_ hl3.out h1c.out hEc.out _ HY.out Hby.out hbs.out ?_)
    ·rfl
    ·rfl
    intro v3 w3 HG3 HFT3 HFo3 HBl3
    have HF3 : Hid (Fr [] w w3) := (HF.out.trans HFN.out).andThen HFo3.out (fun k hk => .inr (HG2.out.own k (own1_mem hk)).1)
    have htk : Hid (tokAt s p = some (((s.drop (p + 1)).drop 0).take 0,p + 1 + 0 + 0)) := by
     show _ = _
     rw [hok.out,if_pos (by first | exact Nat.zero_le _ | exact HC.out)]
    have hq : p + 1 + 0 + 0 ≤ s.length := by have := Hn.out; omega
    clear Hby HY HG2 HBN HFN HFo3 HBl3 hok
    go_wp2_with fail
    go_roundg (s.length - (p + 1 + 0 + 0))
    case measure => omega
    case rel =>
     refine ⟨p + 1 + 0 + 0,_,_,rfl,rfl,hq,congrArg (Value.int .i64) (by omega),HG3.out, ?_, ?_,HF3.out⟩
     ·have e := HT.out
      rw [toksFrom_step hlt htk.out] at e
      rw [e,← Hx.out]; simp
     ·have := HL.out; simp; omega
  ·go_wp2_with fail
   go_ret2
   obtain rfl : p = s.length := by omega
   have e := HT.out
   rw [toksFrom_end (Nat.le_refl _)] at e
   simp only [List.append_nil] at e
   rw [e]
   exact ⟨_,rfl,HF.out,HG.out.listT⟩
end Go.Proofs.YtdllckiidegpcaaGreat
