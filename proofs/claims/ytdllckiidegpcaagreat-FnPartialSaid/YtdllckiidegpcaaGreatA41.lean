/- A part of the walk of laws.FnPartial (part 41): contracts of functions that it comes to, and the plain laws that these lean on. Conditions stand in each contract. -/
import Derived.Test.YtdllckiidegpcaaGreatA39
import Derived.Test.YtdllckiidegpcaaGreatA40
set_option linter.unusedSimpArgs false
set_option linter.unusedVariables false
set_option maxHeartbeats 4000000
namespace Go.Proofs.YtdllckiidegpcaaGreat
open Go.RowKit
section
set_option maxRecDepth 8000
theorem BlmE.mono {B B' : Nat} {w : World} {c : List Value} {f : Blm} (h : BlmE B w c f) (hb : B ≤ B') : BlmE B' w c f := by obtain ⟨bv,rfl,h⟩ := h; exact ⟨bv,rfl,h.mono hb⟩
theorem BlmE.grow {w w' : World} {c : List Value} {f : Blm} (h : BlmE w.heap.size w c f) (hf : Fr [] w w') : BlmE w'.heap.size w' c f := (h.below hf.below).mono hf.size
/-- A filter below B, or one of its own. -/
def BlmX (B : Nat) (w : World) (c : List Value) (f : Blm) : Prop := BlmE B w c f ∨ BlmT w c f
theorem BlmT.e {w : World} {c : List Value} {f : Blm} (h : BlmT w c f) : BlmE w.heap.size w c f := by obtain ⟨bv,rfl,h⟩ := h; exact ⟨bv,rfl,h.rdB⟩
theorem BlmX.e {B : Nat} {w : World} {c : List Value} {f : Blm} (h : BlmX B w c f) (hB : B ≤ w.heap.size) : BlmE w.heap.size w c f := h.elim (fun h => h.mono hB) (fun h => h.e)
theorem BlmX.grow {B : Nat} {w w' : World} {c : List Value} {f : Blm} (h : BlmX B w c f) (hB : B ≤ w.heap.size) (hf : Fr [] w w') : BlmX B w' c f := by
 rcases h with h | ⟨bv,rfl,h⟩
 ·exact .inl (h.below (hf.below.mono hB))
 ·exact .inr ⟨bv,rfl,(h.below hf.below).mono hf.size⟩
theorem BlmX.put {B F : Nat} {w w' : World} {c cx : List Value} {f : Blm} (h : BlmX B w c f) (hB : B ≤ w.heap.size) (hBF : B ≤ F) (hF : Blk w F 31 cx) (hf : Fr [F] w w') : BlmX B w' c f := by
 rcases h with h | ⟨bv,rfl,h⟩
 ·exact .inl (h.below (hf.to_below hB (by intro k hk; simp at hk; subst hk; exact hBF)))
 ·refine .inr ⟨bv,rfl, ?_⟩
  have hT : FrT 31 w w' := hf.frT (fun k hk _ => by simp at hk; subst hk; exact ⟨_,_,hF⟩)
  exact (h.frT hT (by decide)).mono hf.size
theorem BlmE.len {B : Nat} {w : World} {c : List Value} {f : Blm} (h : BlmE B w c f) : c.length = 3 := by obtain ⟨bv,rfl,h⟩ := h; rfl
theorem BlmE.one {B : Nat} {w : World} {c : List Value} {f : Blm} (h : BlmE B w c f) : ∀ u ∈ c,u.oneCell' = true := by
 obtain ⟨bv,rfl,h⟩ := h
 obtain ⟨a,cap,rfl,_⟩ := h
 intro u hu
 simp only [List.mem_cons,List.not_mem_nil,or_false] at hu
 rcases hu with rfl | rfl | rfl <;> rfl
theorem pushesW_ok {s : List Int} (hu : U8 s) (hs : s.length ≤ 1000000) : (∀ y ∈ pushesW s,U8 y ∧ y.length ≤ 1000000) ∧ (pushesW s).length ≤ 1000000 := by
 unfold pushesW
 split
 ·refine ⟨fun y hy => ?_, ?_⟩
  ·have := pushes_ok hu hy; exact ⟨this.1,by omega⟩
  ·have h1 := pushesOf_le (toks s).1
   have h2 : (toks s).1.length ≤ s.length - 0 := toks_len s 0
   show (pushesOf (toks s).1).length ≤ _; omega
 ·exact ⟨by simp,by simp⟩
theorem odd_no {t : Tx} (h : oddB t = false) {o : TxOut} (ho : o ∈ t.outs) : hybridB o.script = false := by
 unfold oddB at h
 rw [List.any_eq_false] at h
 have := h o ho
 simpa using this
/-- What BloomMatches answers. -/
def SxR (B : Nat) (w : World) (b : Bool) (f : Blm) (e : Ending) (w' : World) : Prop := ∃ c',e = .returned (.tuple #[.bool b,.agg c'.toArray]) ∧ Fr [] w w' ∧ BlmX B w' c' f
set_option maxHeartbeats 4000000 in
theorem sMatches_c (K : List Int) (hK : K.length = 64) (w : World) (hKc : Blk w 1 379 (ic .u32 K)) (B : Nat) (hBw : B ≤ w.heap.size) (cf : List Value) (f : Blm) (hf : BlmX B w cf f) (hg : FGood f) (flag : Int) (hfl : 0 ≤ flag ∧ flag ≤ 2) (ct : List Value) (t : Tx) (ht : t.Ok) (hs : t.Small) (hlen : (txB t).length ≤ 5000000) (hodd : oddB t = false) (hc : TxE B w ct t) :
  Calls Tryz.prog 24 #[HFn,.agg cf.toArray,.int .u8 flag,.agg ct.toArray] w (SxR B w (mTx K flag f t).1 (mTx K flag f t).2) := by
 have hctl : ct.length = 4 := by obtain ⟨iv,ov,rfl,_,_⟩ := hc; rfl
 have hcfl := (hf.e hBw).len
 obtain ⟨iv,ov,hct,hi,ho⟩ := hc
 obtain ⟨ai,ci,rfl,hq1,hq2⟩ := hi.len
 clear hq1 hq2
 obtain ⟨ao,co,rfl,hq1,hq2⟩ := ho.len
 clear hq1 hq2
 have HTx : Hid (TxE B w ct t) := ⟨_,_,hct,hi,ho⟩
 have hi6 : (t.ins.length : Int) ≤ 1000000 := by have := hs.ins; omega
 have ho6 : (t.outs.length : Int) ≤ 1000000 := by have := hs.outs; omega
 obtain ⟨id,hid'⟩ : ∃ id,id = txH K t := ⟨_,rfl⟩
 have hidl : id.length = 32 := by rw [hid']; exact H2_length _ _
 have hidu : U8 id := by rw [hid']; exact H2_u8 _ _
 obtain ⟨b0,hb0⟩ : ∃ b0,b0 = bHas f id := ⟨_,rfl⟩
 have HM : Hid (mTx K flag f t = ((outsTo flag id t.outs (b0,f) t.outs.length).1 || t.ins.any (inHit (outsTo flag id t.outs (b0,f) t.outs.length).2),(outsTo flag id t.outs (b0,f) t.outs.length).2)) := by show _ = _; rw [hb0,hid']; rfl
 rw [HM.out]
 clear HM
 have Hid' := hid hid'; clear hid'
 have Hb0 := hid hb0; clear hb0
 have HG := hid hg; clear hg
 have HhKc := hid hKc; clear hKc
 have HhK := hid hK; clear hK
 have Hhf := hid hf; clear hf
 have Hht := hid ht; clear ht
 have Hhs := hid hs; clear hs
 have Hhlen := hid hlen; clear hlen
 have Hhodd := hid hodd; clear hodd
 have Hhct := hid hct; clear hct
 have Hhi := hid hi; clear hi
 have Hho := hid ho; clear ho
 have Hhctl := hid hctl; clear hctl
 have Hhcfl := hid hcfl; clear hcfl
 have Hhidl := hid hidl; clear hidl
 have Hhidu := hid hidu; clear hidu
 go_enter Tryz.func24,Tryz.ntmps24
 go_upto_region 1 with fail
 have HF1 : Hid (Fr [] w (((w.alloc (.cells cf.toArray 31)).alloc (.cells ct.toArray 39)).alloc (.cells [.slice none 0 0,.int .u32 0,.int .u32 0].toArray 31))) := (((Fr.refl _ _).alloc _).alloc _).alloc _
 have HB1 : Hid (Blk (((w.alloc (.cells cf.toArray 31)).alloc (.cells ct.toArray 39)).alloc (.cells [.slice none 0 0,.int .u32 0,.int .u32 0].toArray 31)) w.heap.size 31 cf) := ((Blk.new _ _ _).alloc _).alloc _
 have HT1 : Hid (Blk (((w.alloc (.cells cf.toArray 31)).alloc (.cells ct.toArray 39)).alloc (.cells [.slice none 0 0,.int .u32 0,.int .u32 0].toArray 31)) (w.heap.size + 1) 39 ct) := by
  have := (Blk.new (w.alloc (.cells cf.toArray 31)) ct 39).alloc (.cells [.slice none 0 0,.int .u32 0,.int .u32 0].toArray 31)
  rwa [show (w.alloc (.cells cf.toArray 31)).heap.size = w.heap.size + 1 by simp] at this
 have HR1 : Hid (Blk (((w.alloc (.cells cf.toArray 31)).alloc (.cells ct.toArray 39)).alloc (.cells [.slice none 0 0,.int .u32 0,.int .u32 0].toArray 31)) (w.heap.size + 2) 31 [.slice none 0 0,.int .u32 0,.int .u32 0]) := by
  have := Blk.new ((w.alloc (.cells cf.toArray 31)).alloc (.cells ct.toArray 39)) [.slice none 0 0,.int .u32 0,.int .u32 0] 31
  rwa [show ((w.alloc (.cells cf.toArray 31)).alloc (.cells ct.toArray 39)).heap.size = w.heap.size + 2 by simp] at this
 change Code.wp _ _ _ _ (((w.alloc (.cells cf.toArray 31)).alloc (.cells ct.toArray 39)).alloc (.cells [.slice none 0 0,.int .u32 0,.int .u32 0].toArray 31))
 generalize World.alloc (World.alloc (World.alloc w _) _) _ = w1 at HF1 HB1 HT1 HR1 ⊢
 obtain ⟨F,hF⟩ : ∃ F,F = w.heap.size := ⟨_,rfl⟩
 rw [← hF] at HB1 HT1 HR1 ⊢
 obtain ⟨T,hT⟩ : ∃ T,T = F + 1 := ⟨_,rfl⟩
 rw [← hT] at HT1 ⊢
 have hR2 : F + 2 = T + 1 := by omega
 rw [hR2] at HR1
 clear hR2
 obtain ⟨R,hR⟩ : ∃ R,R = T + 1 := ⟨_,rfl⟩
 rw [← hR] at HR1 ⊢
 have HFw : Hid (w.heap.size ≤ F ∧ w.heap.size ≤ R ∧ F ≠ T ∧ F ≠ R ∧ T ≠ R) := by show _ ∧ _ ∧ _ ∧ _ ∧ _; omega
 clear hF hT hR
 refine wp_region_lit ?_
 refine wpList_run (v := HFn) rfl rfl ?_
 simp only [Act.put,nA,nB,nC]
 refine wpList_load_mid rfl 39 (.tmp 7) rfl T 0 rfl (ct) _ (HT1.out.range) rfl rfl (by rw [Hhctl.out]; kernel_rfl) ?_
 simp only [Act.put,nA,nB,nC]
 go_wp2_with fail
 refine (txid_c K HhK.out w1 (HhKc.out.fr HF1.out (by simp)) B (Nat.le_trans hBw HF1.out.size) ct t Hht.out Hhs.out Hhlen.out (HTx.out.below (HF1.out.below.mono hBw))).mono ?_
 rintro e w2 ⟨rfl,hf⟩
 rw [← Hid'.out]
 have HF2 : Hid (Fr [] w1 w2) := hf
 clear hf
 simp only []
 refine (‹∀ (a : Act) (w : World),wpList Tryz.prog _ _ _ a w → _›) _ _ ?_
 refine wpList_new rfl rfl 22 (.tmp 17) 10 rfl rfl rfl rfl (by simp [Act.put]) (ic .u8 id) (ic .u8 (List.replicate 32 0)) (fun _ => rfl) (by rw [ic_length,Hhidl.out]; kernel_rfl) (fun _ => rfl) (by rw [ic_length,ic_length,Hhidl.out]; simp) (ic_one _ _) ?_
 simp only [Act.put,nA,nB,nC]
 have HF3 : Hid (Fr [] w1 (w2.alloc (.cells (ic .u8 id).toArray 22))) := HF2.out.alloc _
 have HI3 : Hid (Blk (w2.alloc (.cells (ic .u8 id).toArray 22)) w2.heap.size 22 (ic .u8 id)) := Blk.new _ _ _
 have hw1 : w1.heap.size ≤ w2.heap.size := HF2.out.size
 generalize World.alloc w2 _ = w3 at HF3 HI3 ⊢
 obtain ⟨I,hI⟩ : ∃ I,I = w2.heap.size := ⟨_,rfl⟩
 rw [← hI] at HI3 hw1 ⊢
 have HIw : Hid (F ≠ I ∧ R ≠ I) := by have := HB1.out.lt; have := HR1.out.lt; show _ ∧ _; omega
 clear hI hw1 HF2
 generalize arr id = V17
 refine wpList_nil ?_
 simp only [Exit.then]
 go_wp2_with fail
 have HB3 := hid (HB1.out.fr HF3.out (by simp))
 refine qtail 2 (by kernel_rfl) (by kernel_rfl) ?_
 simp only [List.take_succ_cons,List.take_zero,List.drop_succ_cons,List.drop_zero]
 refine wpQuiet_load rfl 31 (.tmp 5) rfl F 0 rfl (cf) _ (fun w' hf => by subst hf; exact HB3.out.range) rfl rfl (by rw [Hhcfl.out]; kernel_rfl) ?_
 simp only [Act.put,nA,nB,nC]
 refine wpQuiet_rfl (.slice (some ⟨I,0,none⟩) 32 32) rfl (fun _ => rfl) ?_
 simp only [Act.put,nA,nB,nC]
 refine wpQuiet_nil ?_
 go_wp2_with fail
 have hBw3 : B ≤ w3.heap.size := Nat.le_trans hBw (Nat.le_trans HF1.out.size HF3.out.size)
 refine (sHas_c w3.drew w3.heap.size (Nat.le_refl _) cf f ((Hhf.out.grow hBw (HF1.out.trans HF3.out).drew).e hBw3) HG.out _ id (arr_bytes HI3.out.drew Hhidl.out (by decide)) Hhidu.out (by rw [Hhidl.out]; decide)).mono ?_
 rintro e w4 ⟨rfl,hf⟩
 rw [← Hb0.out]
 have HF4 : Hid (Fr [] w3 w4) := (Fr.refl _ _).drew.trans hf
 clear hf hBw3
 have HB4 := hid (HB3.out.fr HF4.out (by simp))
 have HI4 := hid (HI3.out.fr HF4.out (by simp))
 have HT4 := hid (HT1.out.fr (HF3.out.trans HF4.out) (by simp))
 have HR4 := hid (HR1.out.fr (HF3.out.trans HF4.out) (by simp))
 have HF14 : Hid (Fr [] w w4) := (HF1.out.trans HF3.out).trans HF4.out
 clear HB1 HT1 HR1 HB3 HI3 HF1 HF3 HF4
 have HE4 : Hid (BlmX B w4 cf f) := Hhf.out.grow hBw HF14.out
 go_wp2_with fail
 go_loopg [11,12] (t.outs.length) (fun gk v11 v12 wr => ∃ (i : Nat) (st : Bool × Blm) (cx : List Value),gk = t.outs.length - i ∧ i ≤ t.outs.length ∧ Hid (outsTo flag id t.outs (b0,f) i = st) ∧ v12 = .int .i64 (i : Int) ∧ v11 = .bool st.1 ∧ Blk wr F 31 cx ∧ BlmX B wr cx st.2 ∧ Fr [F] w4 wr)
 case atStart => exact ⟨0,(b0,f),cf,rfl,Nat.zero_le _,rfl,rfl,rfl,HB4.out,HE4.out,Fr.refl _ _⟩
 case round =>
  clear HB4 HE4
  obtain ⟨i,st,cx,rfl,hi,HSt,rfl,rfl,hb,he,hf⟩ := hrel
  have HBx := hid hb; clear hb
  have HEx := hid he; clear he
  have HFr := hid hf; clear hf
  have HTr := hid (HT4.out.fr HFr.out (by simpa using (Ne.symm HFw.out.2.2.1)))
  have HIr := hid (HI4.out.fr HFr.out (by simpa using (Ne.symm HIw.out.1)))
  have HFwr : Hid (Fr [] w wr) := HF14.out.andThen HFr.out (by intro k hk; simp at hk; subst hk; exact .inr HFw.out.1)
  have hgs : FGood st.2 := by rw [← HSt.out]; exact outsTo_good HG.out i
  have HGs := hid hgs; clear hgs
  obtain ⟨sb,sf⟩ := st
  have hBr : B ≤ wr.heap.size := Nat.le_trans hBw HFwr.out.size
  by_cases hlt : i < t.outs.length
  ·have hlti : (i : Int) < t.outs.length := by omega
   obtain ⟨b,off,cap',c,he,hb,hcl,hrg,hE⟩ := Hho.out.at hlt (by decide)
   simp only [Value.slice.injEq] at he
   obtain ⟨rfl,_,rfl⟩ := he
   obtain ⟨sv,rfl,hsv⟩ := hE
   obtain ⟨asv,csv,rfl,hq1,hq2⟩ := hsv.form
   clear hq1 hq2
   have HSV := hid (hsv.below (HFwr.out.below.mono hBw)); clear hsv
   obtain ⟨s,hs'⟩ : ∃ s,s = t.outs[i].script := ⟨_,rfl⟩
   have e1 : wr.cell? ⟨b,off + i * 2 + 1,none⟩ = some (.slice asv s.length csv) := by rw [hs']; exact hrg wr (HFwr.out.below.mono hBw) 1 _ rfl
   have hbl : b < wr.heap.size := Nat.lt_of_lt_of_le hb hBr
   have c2 : wr.cell? ⟨T,2,none⟩ = some (.slice (some ⟨b,off,none⟩) t.outs.length co) := HTr.out.cell_at (by rw [Hhct.out]; rfl)
   have hTl := HTr.out.lt
   rw [← hs'] at HSV
   have HSu : Hid (U8 s ∧ s.length ≤ 1000000 ∧ hybridB s = false) := by
    show _ ∧ _ ∧ _
    rw [hs']
    exact ⟨(Hht.out.outs _ (List.getElem_mem hlt)).u8,Hhs.out.oscript _ (List.getElem_mem hlt),odd_no Hhodd.out (List.getElem_mem hlt)⟩
   have HOs : Hid (outsTo flag id t.outs (b0,f) (i + 1) = if hitsB sf s then (true,mayF flag s sf ⟨id,i⟩) else (sb,sf)) := by
    show _ = _
    rw [outsTo_succ hlt,HSt.out,outStep,← hs']
   clear hs' hrg hcl hb
   go_upto_region 7 with fail
   clear e1 c2 hTl hbl
   refine seg_begin (fun w' => Fr [] wr w') (by kernel_rfl) ?_
   refine seg_quiet (fuel := 3) (by kernel_rfl) (fun d _ _ _ _ h => by cases d <;> exact h) ((Fr.refl _ _).drew) [0,1] _ _ (by kernel_rfl) ?_
   simp only [pickL,nthO]
   refine wpQuiet_load rfl 31 (.tmp 5) rfl F 0 rfl (cx) _ (fun w' hf => (HBx.out.fr hf (by simp)).range) rfl rfl (by rw [(HEx.out.e hBr).len]; kernel_rfl) ?_
   simp only [Act.put,nA,nB,nC]
   refine wpQuiet_rfl (.slice asv s.length csv) rfl (fun _ => rfl) ?_
   simp only [Act.put,nA,nB,nC]
   refine wpQuiet_nil ?_
   refine seg_act 2 rfl rfl (by kernel_rfl) ?_
   go_wp2_with fail
   refine (sPushes_c wr.drew B hBr _ s (HSV.out.below (Below.refl _ _).drew) HSu.out.1 HSu.out.2.1).mono ?_
   rintro e w5 ⟨v5,rfl,hf,hl5⟩
   have HF5 : Hid (Fr [] wr w5) := (Fr.refl _ _).drew.trans hf
   have HL5 := hid hl5
   clear hf hl5
   go_wp2_with fail
   refine ⟨HF5.out,fun _ => ?_⟩
   have hpo := pushesW_ok HSu.out.1 HSu.out.2.1
   have hB5 : B ≤ w5.heap.size := Nat.le_trans hBr HF5.out.size
   refine seg_act 3 rfl rfl (by kernel_rfl) ?_
   go_wp2_with fail
   refine (hasAny_c w5 w5.heap.size (Nat.le_refl _) cx sf ((HEx.out.grow hBr HF5.out).e hB5) HGs.out v5 (pushesW s) ((HL5.out.listB (fun _ _ h => h)).mono (Nat.le_refl _) (fun _ _ h => h.mono hB5)) hpo.1 hpo.2).mono ?_
   rintro e w6 ⟨rfl,hf⟩
   have HF6 : Hid (Fr [] wr w6) := HF5.out.trans hf
   clear hf hpo hB5
   obtain ⟨hbit,hbr⟩ : ∃ hbit,hbit = hitsB sf s := ⟨_,rfl⟩
   rw [show (pushesW s).any (bHas sf) = hbit from hbr.symm]
   rw [← hbr] at HOs
   clear hbr
   go_wp2_with fail
   refine ⟨HF6.out,fun _ => ?_⟩
   refine seg_quiet (fuel := 0) (by kernel_rfl) (fun d _ _ _ _ h => by cases d <;> exact h) (HF6.out) [4] _ _ (by kernel_rfl) ?_
   simp only [pickL,nthO]
   refine wpQuiet_rfl (.bool (!hbit)) rfl (fun _ => rfl) ?_
   simp only [Act.put,nA,nB,nC]
   refine wpQuiet_nil ?_
   refine seg_end (by kernel_rfl) ?_
   cases hbit
   ·have HN : Hid (outsTo flag id t.outs (b0,f) (i + 1) = (sb,sf)) := by show _ = _; rw [HOs.out]; rfl
    go_wp2_with fail
    go_roundg (t.outs.length - (i + 1))
    case measure => omega
    case rel => exact ⟨i + 1,(sb,sf),cx,rfl,by omega,HN,by simp,rfl,HBx.out.fr HF6.out (by simp),HEx.out.grow hBr HF6.out,HFr.out.trans (HF6.out.mono (by simp))⟩
   ·have HN : Hid (outsTo flag id t.outs (b0,f) (i + 1) = (true,mayF flag s sf ⟨id,i⟩)) := by show _ = _; rw [HOs.out]; rfl
    go_wp2_with fail
    refine (growsFor_c w6 B (Nat.le_trans hBr HF6.out.size) flag hfl _ s (HSV.out.below (HF6.out.below.mono hBr)) HSu.out.1 HSu.out.2.1 HSu.out.2.2).mono ?_
    rintro e w7 ⟨rfl,hf⟩
    have HF7 : Hid (Fr [] wr w7) := HF6.out.trans hf
    clear hf
    have HB7 := hid (HBx.out.fr HF7.out (by simp))
    have HE7 := hid (HEx.out.grow hBr HF7.out)
    have hB7 : B ≤ w7.heap.size := Nat.le_trans hBr HF7.out.size
    have HI7 := hid (HIr.out.fr HF7.out (by simp))
    cases hgb : growB flag s
    ·have HN2 : Hid (outsTo flag id t.outs (b0,f) (i + 1) = (true,sf)) := by show _ = _; rw [HN.out,mayF,hgb]; rfl
     clear hgb
     go_wp2_with fail
     go_roundg (t.outs.length - (i + 1))
     case measure => omega
     case rel => exact ⟨i + 1,(true,sf),cx,rfl,by omega,HN2,by simp,rfl,HB7.out,HE7.out,HFr.out.trans (HF7.out.mono (by simp))⟩
    ·have HN2 : Hid (outsTo flag id t.outs (b0,f) (i + 1) = (true,bAdd sf (opB ⟨id,i⟩))) := by show _ = _; rw [HN.out,mayF,hgb]; rfl
     clear hgb
     have HP : Hid (OutP.Ok ⟨id,(i : Int)⟩) := ⟨Hhidl.out,Hhidu.out,by show (0 : Int) ≤ (i : Int) ∧ (i : Int) < 4294967296; omega⟩
     have hi6' : (i : Int) ≤ 1000000 := by omega
     go_upto_region 10 with fail
     refine segS_begin (fun w' => Fr [] w7 w') 7 (by kernel_rfl) ?_
     refine segS_quiet (fuel := 3) (by kernel_rfl) (fun d _ _ _ _ h => by cases d <;> exact h) ((Fr.refl _ _).drew) [0,1,2,3,4] _ _ (by kernel_rfl) ?_
     simp only [pickL,nthO]
     refine wpQuiet_load rfl 31 (.tmp 5) rfl F 0 rfl (cx) _ (fun w' hf => (HB7.out.fr hf (by simp)).range) rfl rfl (by rw [(HE7.out.e hB7).len]; kernel_rfl) ?_
     simp only [Act.put,nA,nB,nC]
     refine wpQuiet_load rfl 22 (.tmp 10) rfl I 0 rfl (ic .u8 id) _ (fun w' hf => (HI7.out.fr hf (by simp)).range) rfl rfl (by rw [ic_length,Hhidl.out]; kernel_rfl) ?_
     simp only [Act.put,nA,nB,nC]
     refine wpQuiet_rfl (.int .i64 (i : Int)) rfl (fun _ => rfl) ?_
     simp only [Act.put,nA,nB,nC]
     refine wpQuiet_rfl (.int .u32 (IntKind.u32.wrap (i : Int))) rfl (fun _ => rfl) ?_
     simp only [Act.put,nA,nB,nC]
     refine wpQuiet_build rfl 95 _ rfl [(0,.agg (ic .u8 id).toArray),(1,.int .u32 (IntKind.u32.wrap (i : Int)))] (by simp only [List.map_toArray]; rfl) [ic .u8 (List.replicate 32 0),[.int .u32 0]] (by kernel_rfl) (by simp [offs,Value.cells,Hhidl.out]) (OutP.cells ⟨id,(i : Int)⟩) (by rw [IntWalk.u32_in _ (by omega)]; simp [OutP.cells,Value.cells]) ?_
     simp only [Act.put,nA,nB,nC]
     refine wpQuiet_nil ?_
     refine segS_act 5 rfl rfl (by kernel_rfl) ?_
     go_wp2_with fail
     refine (outPointBytes_c _ ⟨id,(i : Int)⟩ HP.out).mono ?_
     rintro e w8 ⟨v8,rfl,hf,ho8⟩
     have HF8 : Hid (Fr [] w7 w8) := (Fr.refl _ _).drew.trans hf
     have HO8 := hid ho8.rd
     clear hf ho8
     go_wp2_with fail
     refine ⟨fun _ => HF8.out, ?_⟩
     refine segS_act 6 rfl rfl (by kernel_rfl) ?_
     go_wp2_with fail
     refine (sAdd_c w8 w8.heap.size (Nat.le_refl _) cx sf ((HE7.out.grow hB7 HF8.out).e (Nat.le_trans hB7 HF8.out.size)) HGs.out v8 (opB ⟨id,(i : Int)⟩) HO8.out (opB_u8 HP.out) (by rw [opB_length HP.out]; omega)).mono ?_
     rintro e w9 ⟨c9,rfl,hf,he9⟩
     have HF9 : Hid (Fr [] w7 w9) := HF8.out.trans hf
     have HE9 := hid he9
     have HB9 := hid (HB7.out.fr HF9.out (by simp))
     clear hf he9
     go_wp2_with fail
     refine ⟨fun _ => HF9.out, ?_⟩
     refine segS_act 7 (o := ⟨none,_,_,_,_,_⟩) rfl rfl (by kernel_rfl) ?_
     refine wpList_storeB rfl 31 (.tmp 5) (.tmp 48) rfl rfl F cx c9 HB9.out rfl rfl (by rw [HE9.out.e.len,(HE7.out.e hB7).len]) (by rw [HE9.out.e.len]; kernel_rfl) HE9.out.e.one ?_
     intro w10 hf hb
     have HF10 : Hid (Fr [F] w9 w10) := hf
     have HB10 := hid hb
     clear hf hb
     have HE10 : Hid (BlmX B w10 c9 (bAdd sf (opB ⟨id,(i : Int)⟩))) := BlmX.put (.inr HE9.out) (Nat.le_trans hB7 HF9.out.size) (Nat.le_trans hBw HFw.out.1) HB9.out HF10.out
     have HF11 : Hid (Fr [F] wr w10) := (HF7.out.mono (by simp)).trans ((HF9.out.mono (by simp)).trans HF10.out)
     clear HE9 HB9 HF8 HF9 HF10 HB7 HE7 HI7
     refine wpList_nil ?_
     refine ⟨fun h => absurd rfl h, ?_⟩
     refine segS_end (by kernel_rfl) ?_
     go_wp2_with fail
     go_roundg (t.outs.length - (i + 1))
     case measure => omega
     case rel => exact ⟨i + 1,(true,bAdd sf (opB ⟨id,i⟩)),c9,rfl,by omega,HN2,by simp,rfl,HB10.out,HE10.out,HFr.out.trans HF11.out⟩
  ·obtain rfl : i = t.outs.length := by omega
   have HRr := hid (HR4.out.fr HFr.out (by simpa using (Ne.symm HFw.out.2.2.2.1)))
   clear hi hlt HIr HI4 HR4 HT4
   obtain ⟨w0,hw0⟩ : ∃ w0,w0 = wr := ⟨_,rfl⟩
   rw [← hw0] at HRr HBx HEx HTr HFwr hBr ⊢
   clear hw0 HFr
   have c2 : w0.cell? ⟨T,2,none⟩ = some (.slice ao t.outs.length co) := HTr.out.cell_at (by rw [Hhct.out]; rfl)
   have hTl := HTr.out.lt
   go_wp2_with fail
   clear c2 hTl
   go_loopg [11,14] (t.ins.length) (fun gk v11 v14 wr => ∃ (j : Nat) (bj : Bool),gk = t.ins.length - j ∧ j ≤ t.ins.length ∧ v14 = .int .i64 (j : Int) ∧ v11 = .bool bj ∧ Hid (bj = (sb || (t.ins.take j).any (inHit sf))) ∧ Fr [] w0 wr)
   case atStart => exact ⟨0,sb,rfl,Nat.zero_le _,rfl,rfl,by show _ = _; simp,Fr.refl _ _⟩
   case round =>
    obtain ⟨j,bj,rfl,hj,rfl,rfl,HBj,hf⟩ := hrel
    have HFx := hid hf; clear hf
    have HB2 := hid (HBx.out.fr HFx.out (by simp))
    have HT2 := hid (HTr.out.fr HFx.out (by simp))
    have HE2 := hid (HEx.out.grow hBr HFx.out)
    have HFw2 : Hid (Fr [] w wr) := HFwr.out.trans HFx.out
    have hB2 : B ≤ wr.heap.size := Nat.le_trans hBr HFx.out.size
    have c1 : wr.cell? ⟨T,1,none⟩ = some (.slice ai t.ins.length ci) := HT2.out.cell_at (by rw [Hhct.out]; rfl)
    have hTl := HT2.out.lt
    by_cases hlt : j < t.ins.length
    ·have hlti : (j : Int) < t.ins.length := by omega
     have HAny : Hid (bj = true → (sb || (t.ins.take (j + 1)).any (inHit sf)) = true) := by
      intro hb; rw [HBj.out] at hb
      rw [List.take_add_one,List.getElem?_eq_getElem hlt,List.any_append,← Bool.or_assoc,hb]; rfl
     have HAn2 : Hid (bj = false → (sb || (t.ins.take (j + 1)).any (inHit sf)) = inHit sf t.ins[j]) := by
      intro hb; rw [HBj.out] at hb
      rw [List.take_add_one,List.getElem?_eq_getElem hlt,List.any_append,← Bool.or_assoc,hb]; simp
     obtain ⟨b,off,cap',c,he,hb,hcl,hrg,hE⟩ := Hhi.out.at hlt (by decide)
     simp only [Value.slice.injEq] at he
     obtain ⟨rfl,_,rfl⟩ := he
     cases bj
     ·obtain ⟨sv,wv,hcc,hsv,hwv⟩ := hE
      clear hwv
      obtain ⟨asv,csv,rfl,hq1,hq2⟩ := hsv.form
      clear hq1 hq2
      clear HAny
      obtain ⟨xi,hxi⟩ : ∃ xi,xi = t.ins[j] := ⟨_,rfl⟩
      rw [← hxi] at hcc hsv HAn2
      have hxm : xi ∈ t.ins := by rw [hxi]; exact List.getElem_mem hlt
      have Hxk := hid (Hht.out.ins xi hxm)
      have Hxs := hid (Hhs.out.script xi hxm)
      clear hxm
      have HRg := hid (hrg wr (HFw2.out.below.mono hBw)); clear hrg
      have hpl := OutP.cells_length Hxk.out.prev
      have HPl := hid hpl; clear hpl
      have HR33 : Hid (wr.rangeAt b (off + j * 36) xi.prev.cells) := fun k u hu => HRg.out k u (by rw [hcc,List.getElem?_append_left (List.getElem?_eq_some_iff.mp hu).1]; exact hu)
      have HC33 : Hid (wr.cell? ⟨b,off + j * 36 + 33,none⟩ = some (.slice asv xi.script.length csv)) := HRg.out 33 _ (by rw [hcc,List.getElem?_append_right (by rw [HPl.out]; omega),HPl.out]; rfl)
      have HSV := hid (hsv.below (HFw2.out.below.mono hBw)); clear hsv hcc HRg
      rw [← hxi] at *
      clear hxi hcl
      have hbl : b < wr.heap.size := Nat.lt_of_lt_of_le hb hB2
      clear hb
      obtain ⟨r,hr⟩ : ∃ r,r = (sb || (t.ins.take (j + 1)).any (inHit sf)) := ⟨_,rfl⟩
      have HRr2 : Hid (r = (bHas sf (opB xi.prev) || hitsB sf xi.script)) := by show _ = _; rw [hr,HAn2.out rfl]; rfl
      have Hr := hid hr
      clear hr HAn2 HBj
      go_upto_region 14 with fail
      have HC1 := hid c1
      clear c1 hTl
      refine seg_begin (fun w' => Fr [] wr w') (by kernel_rfl) ?_
      refine seg_quiet (fuel := 15) (by kernel_rfl) (fun d _ _ _ _ h => by cases d <;> exact h) ((Fr.refl _ _).drew) [0,1,2,3,4,5,6,7,8] _ _ (by kernel_rfl) ?_
      simp only [pickL,nthO]
      refine wpQuiet_rfl (.bool false) rfl (fun _ => rfl) ?_
      simp only [Act.put,nA,nB,nC]
      refine wpQuiet_rfl (.bool false) rfl (fun _ => rfl) ?_
      simp only [Act.put,nA,nB,nC]
      refine wpQuiet_g rfl ?_
      refine wpQuiet_load rfl 31 (.tmp 5) rfl F 0 rfl (cx) _ (fun w' hf => (HB2.out.fr hf (by simp)).range) rfl rfl (by rw [(HE2.out.e hB2).len]; kernel_rfl) ?_
      simp only [Act.put,nA,nB,nC]
      refine wpQuiet_g rfl ?_
      refine wpQuiet_rfl (.pointer (some ⟨T,1,none⟩)) rfl (fun _ => rfl) ?_
      simp only [Act.put,nA,nB,nC]
      refine wpQuiet_g rfl ?_
      refine wpQuiet_load1 rfl 36 (.tmp 59) rfl T 1 rfl (.slice (some ⟨b,off,none⟩) t.ins.length ci) _ (fun w' hf => (HT2.out.fr hf (by simp)).cell_at (by rw [Hhct.out]; rfl)) rfl rfl ?_
      simp only [Act.put,nA,nB,nC]
      refine wpQuiet_g rfl ?_
      refine wpQuiet_rfl (.int .i64 (j : Int)) rfl (fun _ => rfl) ?_
      simp only [Act.put,nA,nB,nC]
      refine wpQuiet_g rfl ?_
      refine wpQuiet_index rfl 36 (.tmp 60) (.tmp 61) rfl b off t.ins.length ci j 36 .i64 98 rfl rfl hlt (by kernel_rfl) (by kernel_rfl) ?_
      simp only [Act.put,nA,nB,nC]
      refine wpQuiet_g rfl ?_
      refine wpQuiet_rfl (.pointer (some ⟨b,off + j * 36,none⟩)) rfl (fun _ => rfl) ?_
      simp only [Act.put,nA,nB,nC]
      refine wpQuiet_g rfl ?_
      refine wpQuiet_load rfl 95 (.tmp 63) rfl b (off + j * 36) rfl (xi.prev.cells) _ (fun w' hf => rangeAt_fr HR33.out hf hbl) rfl rfl (by rw [HPl.out]; kernel_rfl) ?_
      simp only [Act.put,nA,nB,nC]
      refine wpQuiet_nil ?_
      refine seg_actW 9 (o := ⟨some 65,_,_,_,_,_⟩) rfl rfl (by kernel_rfl) ?_
      go_wp2_with fail
      refine (outPointBytes_c _ xi.prev Hxk.out.prev).mono ?_
      rintro e w5 ⟨v5,rfl,hf,ho⟩
      have HF5 : Hid (Fr [] wr w5) := (Fr.refl _ _).drew.trans hf
      have HO5 := hid ho.rd
      clear hf ho
      go_wp2_with fail
      refine ⟨HF5.out,fun _ => ?_⟩
      refine seg_actW 10 (o := ⟨some 66,_,_,_,_,_⟩) rfl rfl (by kernel_rfl) ?_
      have hB5 : B ≤ w5.heap.size := Nat.le_trans hB2 HF5.out.size
      go_wp2_with fail
      refine (sHas_c w5 w5.heap.size (Nat.le_refl _) cx sf ((HE2.out.grow hB2 HF5.out).e hB5) HGs.out v5 (opB xi.prev) HO5.out (opB_u8 Hxk.out.prev) (by rw [opB_length Hxk.out.prev]; omega)).mono ?_
      rintro e w6 ⟨rfl,hf⟩
      have HF6 : Hid (Fr [] wr w6) := HF5.out.trans hf
      clear hf
      have hB6 : B ≤ w6.heap.size := Nat.le_trans hB2 HF6.out.size
      obtain ⟨h1,hh1⟩ : ∃ h1,h1 = bHas sf (opB xi.prev) := ⟨_,rfl⟩
      rw [← hh1] at HRr2 ⊢
      clear hh1
      go_wp2_with fail
      refine ⟨HF6.out,fun _ => ?_⟩
      cases h1
      ·skip
       refine seg_quiet (fuel := 4) (by kernel_rfl) (fun d _ _ _ _ h => by cases d <;> exact h) (HF6.out) [11,12,13,14,15,16,17,18,19] _ _ (by kernel_rfl) ?_
       simp only [pickL,nthO]
       refine wpQuiet_rfl (.bool false) rfl (fun _ => rfl) ?_
       simp only [Act.put,nA,nB,nC]
       refine wpQuiet_rfl (.bool false) rfl (fun _ => rfl) ?_
       simp only [Act.put,nA,nB,nC]
       refine wpQuiet_g rfl ?_
       refine wpQuiet_load rfl 31 (.tmp 5) rfl F 0 rfl (cx) _ (fun w' hf => (HB2.out.fr hf (by simp)).range) rfl rfl (by rw [(HE2.out.e hB2).len]; kernel_rfl) ?_
       simp only [Act.put,nA,nB,nC]
       refine wpQuiet_g rfl ?_
       refine wpQuiet_rfl (.pointer (some ⟨T,1,none⟩)) rfl (fun _ => rfl) ?_
       simp only [Act.put,nA,nB,nC]
       refine wpQuiet_g rfl ?_
       refine wpQuiet_load1 rfl 36 (.tmp 70) rfl T 1 rfl (.slice (some ⟨b,off,none⟩) t.ins.length ci) _ (fun w' hf => (HT2.out.fr hf (by simp)).cell_at (by rw [Hhct.out]; rfl)) rfl rfl ?_
       simp only [Act.put,nA,nB,nC]
       refine wpQuiet_g rfl ?_
       refine wpQuiet_rfl (.int .i64 (j : Int)) rfl (fun _ => rfl) ?_
       simp only [Act.put,nA,nB,nC]
       refine wpQuiet_g rfl ?_
       refine wpQuiet_index rfl 36 (.tmp 71) (.tmp 72) rfl b off t.ins.length ci j 36 .i64 98 rfl rfl hlt (by kernel_rfl) (by kernel_rfl) ?_
       simp only [Act.put,nA,nB,nC]
       refine wpQuiet_g rfl ?_
       refine wpQuiet_rfl (.pointer (some ⟨b,off + j * 36 + 33,none⟩)) rfl (fun _ => rfl) ?_
       simp only [Act.put,nA,nB,nC]
       refine wpQuiet_g rfl ?_
       refine wpQuiet_load1 rfl 29 (.tmp 74) rfl b (off + j * 36 + 33) rfl (.slice asv xi.script.length csv) _ (fun w' hf => by rw [hf.cells.1 _ _ hbl (by simp)]; exact HC33.out) rfl rfl ?_
       simp only [Act.put,nA,nB,nC]
       refine wpQuiet_nil ?_
       refine seg_actW 20 (o := ⟨some 76,_,_,_,_,_⟩) rfl rfl (by kernel_rfl) ?_
       go_wp2_with fail
       refine (sPushes_c w6 B hB6 _ xi.script (HSV.out.below (HF6.out.below.mono hB2)) Hxk.out.u8 Hxs.out).mono ?_
       rintro e w7 ⟨v7,rfl,hf,hl7⟩
       have HF7 : Hid (Fr [] wr w7) := HF6.out.trans hf
       have HL7 := hid hl7
       clear hf hl7
       go_wp2_with fail
       refine ⟨HF7.out,fun _ => ?_⟩
       have hpo := pushesW_ok Hxk.out.u8 Hxs.out
       have hB7 : B ≤ w7.heap.size := Nat.le_trans hB2 HF7.out.size
       refine seg_actW 21 (o := ⟨some 77,_,_,_,_,_⟩) rfl rfl (by kernel_rfl) ?_
       go_wp2_with fail
       refine (hasAny_c w7 w7.heap.size (Nat.le_refl _) cx sf ((HE2.out.grow hB2 HF7.out).e hB7) HGs.out v7 (pushesW xi.script) ((HL7.out.listB (fun _ _ h => h)).mono (Nat.le_refl _) (fun _ _ h => h.mono hB7)) hpo.1 hpo.2).mono ?_
       rintro e w8 ⟨rfl,hf⟩
       have HF8 : Hid (Fr [] wr w8) := HF7.out.trans hf
       clear hf hpo hB7
       rw [show (pushesW xi.script).any (bHas sf) = r from by rw [HRr2.out]; rfl]
       go_wp2_with fail
       refine ⟨HF8.out,fun _ => ?_⟩
       refine seg_quiet (fuel := 0) (by kernel_rfl) (fun d _ _ _ _ h => by cases d <;> exact h) (HF8.out) [22,23] _ _ (by kernel_rfl) ?_
       simp only [pickL,nthO]
       refine wpQuiet_rfl (.bool r) rfl (fun _ => rfl) ?_
       simp only [Act.put,nA,nB,nC]
       refine wpQuiet_rfl (.bool r) rfl (fun _ => rfl) ?_
       simp only [Act.put,nA,nB,nC]
       refine wpQuiet_nil ?_
       refine seg_end (by kernel_rfl) ?_
       clear HC1
       go_wp2_with fail
       go_roundg (t.ins.length - (j + 1))
       case measure => omega
       case rel => exact ⟨j + 1,r,rfl,by omega,by simp,rfl,Hr.out,HFx.out.trans HF8.out⟩
      ·have hrt : r = true := by rw [HRr2.out,Bool.true_or]
       refine seg_quiet (fuel := 11) (by kernel_rfl) (fun d _ _ _ _ h => by cases d <;> exact h) (HF6.out) [11,12] _ _ (by kernel_rfl) ?_
       simp only [pickL,nthO]
       refine wpQuiet_rfl (.bool true) rfl (fun _ => rfl) ?_
       simp only [Act.put,nA,nB,nC]
       refine wpQuiet_rfl (.bool true) rfl (fun _ => rfl) ?_
       simp only [Act.put,nA,nB,nC]
       refine wpQuiet_nil ?_
       refine seg_skip 13 (o := ⟨some 69,_,_,_,_,_⟩) rfl (by kernel_rfl) (fun d _ _ _ _ h => by cases d <;> exact h) HF6.out (by kernel_rfl) (by kernel_rfl) (by kernel_rfl) ?_
       simp only [Act.put,nA,nB,nC]
       refine seg_skip 14 (o := ⟨some 70,_,_,_,_,_⟩) rfl (by kernel_rfl) (fun d _ _ _ _ h => by cases d <;> exact h) HF6.out (by kernel_rfl) (by kernel_rfl) (by kernel_rfl) ?_
       simp only [Act.put,nA,nB,nC]
       refine seg_skip 15 (o := ⟨some 71,_,_,_,_,_⟩) rfl (by kernel_rfl) (fun d _ _ _ _ h => by cases d <;> exact h) HF6.out (by kernel_rfl) (by kernel_rfl) (by kernel_rfl) ?_
       simp only [Act.put,nA,nB,nC]
       refine seg_skip 16 (o := ⟨some 72,_,_,_,_,_⟩) rfl (by kernel_rfl) (fun d _ _ _ _ h => by cases d <;> exact h) HF6.out (by kernel_rfl) (by kernel_rfl) (by kernel_rfl) ?_
       simp only [Act.put,nA,nB,nC]
       refine seg_skip 17 (o := ⟨some 73,_,_,_,_,_⟩) rfl (by kernel_rfl) (fun d _ _ _ _ h => by cases d <;> exact h) HF6.out (by kernel_rfl) (by kernel_rfl) (by kernel_rfl) ?_
       simp only [Act.put,nA,nB,nC]
       refine seg_skip 18 (o := ⟨some 74,_,_,_,_,_⟩) rfl (by kernel_rfl) (fun d _ _ _ _ h => by cases d <;> exact h) HF6.out (by kernel_rfl) (by kernel_rfl) (by kernel_rfl) ?_
       simp only [Act.put,nA,nB,nC]
       refine seg_skip 19 (o := ⟨some 75,_,_,_,_,_⟩) rfl (by kernel_rfl) (fun d _ _ _ _ h => by cases d <;> exact h) HF6.out (by kernel_rfl) (by kernel_rfl) (by kernel_rfl) ?_
       simp only [Act.put,nA,nB,nC]
       refine seg_skip 20 (o := ⟨some 76,_,_,_,_,_⟩) rfl (by kernel_rfl) (fun d _ _ _ _ h => by cases d <;> exact h) HF6.out (by kernel_rfl) (by kernel_rfl) (by kernel_rfl) ?_
       simp only [Act.put,nA,nB,nC]
       refine seg_skip 21 (o := ⟨some 77,_,_,_,_,_⟩) rfl (by kernel_rfl) (fun d _ _ _ _ h => by cases d <;> exact h) HF6.out (by kernel_rfl) (by kernel_rfl) (by kernel_rfl) ?_
       simp only [Act.put,nA,nB,nC]
       refine seg_quiet (fuel := 0) (by kernel_rfl) (fun d _ _ _ _ h => by cases d <;> exact h) (HF6.out) [22,23] _ _ (by kernel_rfl) ?_
       simp only [pickL,nthO]
       refine wpQuiet_rfl (.bool true) rfl (fun _ => rfl) ?_
       simp only [Act.put,nA,nB,nC]
       refine wpQuiet_rfl (.bool true) rfl (fun _ => rfl) ?_
       simp only [Act.put,nA,nB,nC]
       refine wpQuiet_nil ?_
       refine seg_end (by kernel_rfl) ?_
       clear HC1
       rw [hrt] at Hr
       clear hrt
       go_wp2_with fail
       go_roundg (t.ins.length - (j + 1))
       case measure => omega
       case rel => exact ⟨j + 1,true,rfl,by omega,by simp,rfl,Hr.out,HFx.out.trans HF6.out⟩
     ·clear hrg hE hcl hb
      have HA := hid (HAny.out rfl)
      clear HAny HAn2
      go_upto_region 14 with fail
      go_quiet (fail)
      go_wp2_with fail
      go_roundg (t.ins.length - (j + 1))
      case measure => omega
      case rel => exact ⟨j + 1,true,rfl,by omega,by simp,rfl,HA.out.symm,HFx.out.drewN _⟩
    ·have HBf : Hid ((sb || t.ins.any (inHit sf)) = bj) := by have h := HBj.out; rw [List.take_of_length_le (by omega)] at h; exact h.symm
     have HR2 := hid (HRr.out.fr HFx.out (by simp))
     go_upto_region 15 with fail
     refine qtail 3 (by kernel_rfl) (by kernel_rfl) ?_
     simp only [List.take_succ_cons,List.take_zero,List.drop_succ_cons,List.drop_zero]
     refine wpQuiet_rfl (.bool bj) rfl (fun _ => rfl) ?_
     simp only [Act.put,nA,nB,nC]
     refine wpQuiet_load rfl 31 (.tmp 5) rfl F 0 rfl (cx) _ (fun w' hf => by subst hf; exact HB2.out.range) rfl rfl (by rw [(HE2.out.e hB2).len]; kernel_rfl) ?_
     simp only [Act.put,nA,nB,nC]
     refine wpQuiet_rfl (.bool bj) rfl (fun _ => rfl) ?_
     simp only [Act.put,nA,nB,nC]
     refine wpQuiet_nil ?_
     refine wpList_storeB rfl 31 (.tmp 9) (.tmp 80) rfl rfl R _ cx HR2.out.drew rfl rfl (by rw [(HE2.out.e hB2).len]; rfl) (by rw [(HE2.out.e hB2).len]; kernel_rfl) (HE2.out.e hB2).one ?_
     intro w9 hf hb
     have HFf : Hid (Fr [R] wr w9) := (Fr.refl _ _).drew.trans hf
     have HBf9 := hid hb
     clear hf hb
     refine wpList_nil ?_
     refine (‹∀ (a : Act) (w : World),Code.wp Tryz.prog Code.ret _ a w → _›) _ _ ?_
     refine wp_ret ?_
     refine ret_tc rfl rfl rfl _ HBf9.out rfl rfl (by rw [(HE2.out.e hB2).len]; kernel_rfl) rfl ?_
     rw [HSt.out,HBf.out]
     exact ⟨cx,rfl,HFw2.out.andThen HFf.out (by intro k hk; simp at hk; subst hk; exact .inr HFw.out.2.1),HE2.out.put hB2 (Nat.le_trans hBw HFw.out.2.1) HR2.out HFf.out⟩
end
section
set_option maxRecDepth 8000
def PtR (K : List Int) (hs : List (List Int)) (m : List Int) (w : World) (e : Ending) (w' : World) : Prop := ∃ bv hv,e = .returned (.agg [.int .i64 hs.length,bv,hv].toArray) ∧ Fr [] w w' ∧ ListT w'.heap.size 4 1 BoolE w' bv (trav K hs m (hgt hs.length) 0).1 ∧ ListT w'.heap.size 22 32 HashE w' hv (trav K hs m (hgt hs.length) 0).2
set_option maxHeartbeats 4000000 in
theorem partialTree_c (K : List Int) (hK : K.length = 64) (w : World) (hKc : Blk w 1 379 (ic .u32 K)) (hs : List (List Int)) (hl : ∀ l ∈ hs,l.length = 32) (h1 : 1 ≤ hs.length) (hn : hs.length ≤ 64) (m : List Int) (hm : m.length = hs.length) (B : Nat) (hBw : B ≤ w.heap.size) (v mv : Value) (hv : ListB B 32 HashE w v hs) (hmv : BoolB B w mv m) :
  Calls Tryz.prog 25 #[HFn,v,mv] w (PtR K hs m w) := by
 obtain ⟨av,cv,hvs,hq1,hq2⟩ := hv.len
 subst hvs
 obtain ⟨am,cm,hms,hq3,hq4⟩ := hmv.form
 subst hms
 clear hq1 hq2 hq3 hq4
 have hn1 : (hs.length : Int) ≤ 64 := by omega
 have hgl := hgt_le hs.length
 have HGl := hid hgl; clear hgl
 have H1 := hid h1; clear h1
 have HhKc := hid hKc; clear hKc
 have Hhv := hid hv; clear hv
 have Hhmv := hid hmv; clear hmv
 have Hhm := hid hm; clear hm
 go_enter Tryz.func25,Tryz.ntmps25
 go_upto_region 2 with fail
 have HF1 : Hid (Fr [] w ((w.alloc (.cells [.int .i64 0,.slice none 0 0,.slice none 0 0].toArray 55)).alloc (.cells [.int .i64 hs.length,.slice none 0 0,.slice none 0 0].toArray 55))) := ((Fr.refl _ _).alloc _).alloc _
 have HR1 : Hid (Blk ((w.alloc (.cells [.int .i64 0,.slice none 0 0,.slice none 0 0].toArray 55)).alloc (.cells [.int .i64 hs.length,.slice none 0 0,.slice none 0 0].toArray 55)) w.heap.size 55 [.int .i64 0,.slice none 0 0,.slice none 0 0]) := (Blk.new _ _ _).alloc _
 have HG1 : Hid (Blk ((w.alloc (.cells [.int .i64 0,.slice none 0 0,.slice none 0 0].toArray 55)).alloc (.cells [.int .i64 hs.length,.slice none 0 0,.slice none 0 0].toArray 55)) (w.heap.size + 1) 55 [.int .i64 hs.length,.slice none 0 0,.slice none 0 0]) := by
  have := Blk.new (w.alloc (.cells [.int .i64 0,.slice none 0 0,.slice none 0 0].toArray 55)) [.int .i64 hs.length,.slice none 0 0,.slice none 0 0] 55
  rwa [show (w.alloc (.cells [.int .i64 0,.slice none 0 0,.slice none 0 0].toArray 55)).heap.size = w.heap.size + 1 by simp] at this
 change Code.wp _ _ _ _ ((w.alloc (.cells [.int .i64 0,.slice none 0 0,.slice none 0 0].toArray 55)).alloc (.cells [.int .i64 hs.length,.slice none 0 0,.slice none 0 0].toArray 55))
 generalize World.alloc (World.alloc w _) _ = w1 at HF1 HR1 HG1 ⊢
 obtain ⟨R,hR⟩ : ∃ R,R = w.heap.size := ⟨_,rfl⟩
 rw [← hR] at HR1 HG1 ⊢
 obtain ⟨G,hG⟩ : ∃ G,G = R + 1 := ⟨_,rfl⟩
 rw [← hG] at HG1 ⊢
 have HRw : Hid (w.heap.size ≤ R ∧ w.heap.size ≤ G ∧ R ≠ G ∧ B ≤ G) := by show _ ∧ _ ∧ _ ∧ _; omega
 clear hR hG
 go_wp2_with fail
 refine (heightOf_c w1 hs.length hn _ rfl).mono ?_
 rintro e w' ⟨rfl,rfl⟩
 go_wp2_with fail
 have hwid : 0 < wid hs.length (hgt hs.length) := by
  unfold wid
  have := H1.out
  exact Nat.div_pos (by omega) (Nat.two_pow_pos _)
 have hp7 : 2 ^ (hgt hs.length + 1) ≤ 100000 := Nat.le_trans (Nat.pow_le_pow_right (by omega) (show hgt hs.length + 1 ≤ 7 by have := HGl.out; omega)) (by decide)
 have hB1 : B ≤ w1.heap.size := Nat.le_trans hBw HF1.out.size
 have hbe : ∀ w2,Fr [G] w1 w2 → Below B w w2 := fun w2 hf => (HF1.out.below.mono hBw).trans (hf.to_below hB1 (by intro k hk; simp at hk; subst hk; exact HRw.out.2.2.2))
 have hG1 : w.heap.size ≠ 0 ∧ 1 < w.heap.size := by have := HhKc.out.lt; omega
 have hC : BldC K G hs m (.slice av hs.length cv) (.slice am m.length cm) w1 (hgt hs.length) := by
  refine bld_c K hK G hs hl hn m Hhm.out B _ _ w1 HG1.out.lt hB1 ?_ ?_ ?_ (hgt hs.length) HGl.out
  ·exact fun w2 hf => Hhv.out.below (hbe w2 hf) (fun _ _ h => h)
  ·exact fun w2 hf => Hhmv.out.below (hbe w2 hf)
  ·exact fun w2 hf => (HhKc.out.fr HF1.out (by simp)).fr hf (by have := HRw.out; simp; omega)
 have hS0 : BldS hs.length G w1 [] [] w1 := ⟨Fr.refl _ _,_,_,HG1.out,Grows.nil _,Grows.nil _⟩
 have hb0 : ([] : List Int).length + 2 ^ (hgt hs.length + 1) ≤ 100000 := by rw [List.length_nil,Nat.zero_add]; exact hp7
 have hf0 : ([] : List (List Int)).length + 2 ^ (hgt hs.length + 1) ≤ 100000 := by rw [List.length_nil,Nat.zero_add]; exact hp7
 have hcc := hC 0 hwid w1 [] [] hS0 hb0 hf0 (hgt hs.length : Int) 0 rfl rfl
 refine hcc.mono ?_
 clear hcc hC hS0 hb0 hf0
 clear hwid hp7 hbe hG1
 rintro e w2 ⟨rfl,hS⟩
 obtain ⟨bv,hv',hB,hGb,hGh⟩ := hS.blk
 rw [List.nil_append] at hGb hGh
 have HF2 : Hid (Fr [G] w1 w2) := hS.fr
 have HB2 := hid hB
 have HLb := hid hGb.listT
 have HLh := hid hGh.listT
 obtain ⟨ab,cb,hbe⟩ := hGb.slice
 obtain ⟨ah,ch,hhe⟩ := hGh.slice
 have HOne : Hid (∀ u ∈ [.int .i64 hs.length,bv,hv'],u.oneCell' = true) := by
  intro u hu
  simp only [List.mem_cons,List.not_mem_nil,or_false] at hu
  rcases hu with rfl | rfl | rfl
  ·rfl
  ·rw [hbe]; rfl
  ·rw [hhe]; rfl
 have HR2 := hid (HR1.out.fr HF2.out (by simpa using HRw.out.2.2.1))
 clear hS hB hGb hGh hbe hhe
 go_upto_region 3 with fail
 refine wp_region_lit ?_
 refine wpList_load_mid rfl 55 (.tmp 7) rfl G 0 rfl ([.int .i64 hs.length,bv,hv']) _ (HB2.out.range) rfl rfl (by kernel_rfl) ?_
 simp only [Act.put,nA,nB,nC]
 refine wpList_storeB rfl 55 (.tmp 6) (.tmp 18) rfl rfl R _ [.int .i64 hs.length,bv,hv'] HR2.out rfl rfl rfl (by kernel_rfl) HOne.out ?_
 intro w6 hf hb
 have HF6 : Hid (Fr [R] w2 w6) := hf
 have HR6 := hid hb
 have hT : FrT 55 w2 w6 := hf.frT (fun k hk _ => by simp at hk; subst hk; exact ⟨_,_,HR2.out⟩)
 clear hf hb
 refine wpList_nil ?_
 refine (‹∀ (a : Act) (w : World),Code.wp Tryz.prog Code.ret _ a w → _›) _ _ ?_
 refine wp_ret ?_
 refine ret_cells rfl rfl _ HR6.out rfl rfl (by kernel_rfl) rfl ?_
 refine ⟨bv,hv',rfl,(HF1.out.andThen HF2.out (by intro k hk; simp at hk; subst hk; exact .inr HRw.out.2.1)).andThen HF6.out (by intro k hk; simp at hk; subst hk; exact .inr HRw.out.1), ?_, ?_⟩
 ·exact (HLb.out.frT hT (by decide) (fun _ _ h => h)).mono hT.size (fun _ _ h => h)
 ·exact (HLh.out.frT hT (by decide) (fun _ _ h => h)).mono hT.size (fun _ _ h => h)
end
section
/-- The marks of the first transactions, and the filter behind them. -/
def mFold (K : List Int) (flag : Int) (f : Blm) (l : List Tx) : Nat → List Int × Blm
 | 0 => ([],f)
 | i + 1 => match l[i]? with
  | some t => ((mFold K flag f l i).1 ++ [b2i (mTx K flag (mFold K flag f l i).2 t).1],(mTx K flag (mFold K flag f l i).2 t).2)
  | none => mFold K flag f l i
section
variable {K : List Int} {flag : Int} {f : Blm} {l : List Tx} {i : Nat}
theorem mFold_succ (h : i < l.length) : mFold K flag f l (i + 1) = ((mFold K flag f l i).1 ++ [b2i (mTx K flag (mFold K flag f l i).2 l[i]).1],(mTx K flag (mFold K flag f l i).2 l[i]).2) := by
 rw [mFold,List.getElem?_eq_getElem h]
theorem mTx_good {t : Tx} (h : FGood f) : FGood (mTx K flag f t).2 := outsTo_good (st := (bHas f (txH K t),f)) h _
theorem mFold_good (h : FGood f) (i : Nat) : FGood (mFold K flag f l i).2 := by
 induction i with
 | zero => exact h
 | succ i ih =>
  rw [mFold]
  split
  ·exact mTx_good ih
  ·exact ih
theorem mFold_len (h : i ≤ l.length) : (mFold K flag f l i).1.length = i := by
 induction i with
 | zero => rfl
 | succ i ih => rw [mFold_succ (by omega)]; simp [ih (by omega)]
theorem b2i_01 (b : Bool) : b2i b = 0 ∨ b2i b = 1 := by cases b; { left; rfl }; right; rfl
theorem mFold_01 (i : Nat) : ∀ x ∈ (mFold K flag f l i).1,x = 0 ∨ x = 1 := by
 induction i with
 | zero => intro x hx; cases hx
 | succ i ih =>
  rw [mFold]
  split
  ·intro x hx
   rcases List.mem_append.mp hx with h | h
   ·exact ih x h
   ·rw [List.mem_singleton] at h; rw [h]; exact b2i_01 _
  ·exact ih
end
/-- The places of the marks. -/
def idxs (m : List Int) : List Int := ((List.range m.length).filter fun i => decide (nth m i = 1)).map fun (i : Nat) => (i : Int)
theorem nth_app {m : List Int} {x : Int} {i : Nat} (h : i < m.length) : nth (m ++ [x]) i = nth m i := by simp [nth,List.getElem?_append_left h]
theorem nth_app2 (m : List Int) (x : Int) : nth (m ++ [x]) m.length = x := by simp [nth]
theorem idxs_snoc (m : List Int) (b : Bool) : idxs (m ++ [b2i b]) = idxs m ++ (if b then [(m.length : Int)] else []) := by
 unfold idxs
 rw [List.length_append,List.length_singleton,List.range_succ,List.filter_append,List.map_append]
 congr 1
 ·congr 1
  apply List.filter_congr
  intro i hi
  rw [nth_app (List.mem_range.mp hi)]
 ·cases b <;> simp [nth_app2,b2i,List.filter_cons]
theorem idxs_len (m : List Int) : (idxs m).length ≤ m.length := by
 unfold idxs
 rw [List.length_map]
 exact Nat.le_trans (List.length_filter_le _ _) (by simp)
def IntE (k : IntKind) (_ : World) (c : List Value) (x : Int) : Prop := c = [.int k x]
theorem flat_map {α : Type} {E : List Value → α → Prop} (f : α → Value) (hE : ∀ c x,E c x → c = [f x]) : ∀ (cs : List (List Value)) (l : List α),cs.length = l.length → (∀ i (h : i < cs.length) (h' : i < l.length),E cs[i] l[i]) → cs.flatten = l.map f := by
 intro cs
 induction cs with
 | nil => intro l hl _; cases l; { rfl }; simp at hl
 | cons c cs ih =>
  intro l hl h
  cases l with
  | nil => simp at hl
  | cons x l =>
   have h0 := hE _ _ (h 0 (by simp) (by simp))
   simp only [List.getElem_cons_zero] at h0
   subst h0
   rw [List.flatten_cons,List.map_cons,ih l (by simpa using hl) (fun i hi hi' => by have := h (i + 1) (by simpa using hi) (by simpa using hi'); simpa using this)]
   rfl
theorem ListT.ints {B : Nat} {T : TypeId} {k : IntKind} {w : World} {v : Value} {l : List Int} (h : ListT B T 1 (IntE k) w v l) : IntsB k B w v l := by
 obtain ⟨cs,h1,h2,h3,h4⟩ := h
 have := flat_map (E := fun c x => IntE k w c x) (fun x => .int k x) (fun c x h => h) cs l h1 h4
 have h5 := h3.rdB
 rw [this] at h5
 exact h5
theorem ListT.bools {B : Nat} {T : TypeId} {w : World} {v : Value} {l : List Int} (h : ListT B T 1 BoolE w v l) : BoolB B w v l := by
 obtain ⟨cs,h1,h2,h3,h4⟩ := h
 have := flat_map (E := fun c x => BoolE w c x) (fun x => .bool (decide (x = 1))) (fun c x h => h) cs l h1 h4
 have h5 := h3.rdB
 rw [this] at h5
 exact h5
def HdrE (_ : World) (c : List Value) (h : Hdr) : Prop := c = h.cells
/-- "merkleblock" -/
def mbName : ByteArray := ⟨#[109,101,114,107,108,101,98,108,111,99,107]⟩
def z32 : List Value := ic .u8 (List.replicate 32 0)
/-- The fields of a message, all zero. -/
def msgZ : List (List Value) := [[.string ⟨#[]⟩],[.int .u64 0],[.slice none 0 0],[.int .u32 0],[.slice none 0 0],z32,z32,[.slice none 0 0],[.int .i32 0,.slice none 0 0,.slice none 0 0,.int .u32 0],
 .int .i32 0 :: (z32 ++ (z32 ++ [.int .u32 0,.int .u32 0,.int .u32 0,.slice none 0 0])),[.int .i64 0],[.slice none 0 0],[.int .u32 0],[.int .u32 0],[.int .u32 0],[.int .u8 0],[.string ⟨#[]⟩],[.string ⟨#[]⟩]]
/-- A message that bears a part of a tree. -/
def msgF (cmd : ByteArray) (hv hd bv : Value) (total : Int) : List (List Value) := [[.string cmd],[.int .u64 0],[.slice none 0 0],[.int .u32 0],[hv],z32,z32,[hd],[.int .i32 0,.slice none 0 0,.slice none 0 0,.int .u32 0],
 .int .i32 0 :: (z32 ++ (z32 ++ [.int .u32 0,.int .u32 0,.int .u32 0,.slice none 0 0])),[.int .i64 0],[bv],[.int .u32 0],[.int .u32 0],[.int .u32 total],[.int .u8 0],[.string ⟨#[]⟩],[.string ⟨#[]⟩]]
def msgC (cmd : ByteArray) (hv hd bv : Value) (total : Int) : List Value := (msgF cmd hv hd bv total).flatten
theorem msgC_length (cmd : ByteArray) (hv hd bv : Value) (total : Int) : (msgC cmd hv hd bv total).length = 151 := by simp [msgC,msgF,z32]
theorem msg_places : builtPlaces Tryz.prog 45 = some (msgZ.flatten,offs 0 msgZ) := by kernel_rfl
theorem msgC_one {cmd : ByteArray} {hv hd bv : Value} {total : Int} (h1 : hv.oneCell' = true) (h2 : hd.oneCell' = true) (h3 : bv.oneCell' = true) : ∀ u ∈ msgC cmd hv hd bv total,u.oneCell' = true := by
 intro u hu
 have hz : ∀ u ∈ z32,u.oneCell' = true := ic_one _ _
 simp only [msgC,msgF,List.flatten_cons,List.flatten_nil,List.mem_append,List.mem_cons,List.not_mem_nil,or_false,false_or] at hu
 rcases hu with rfl | rfl | rfl | rfl | rfl | h | h | rfl | (rfl | rfl | rfl | rfl) | (rfl | h | h | rfl | rfl | rfl | rfl) | rfl | rfl | rfl | rfl | rfl | rfl | rfl | rfl
 all_goals first | rfl | assumption | exact hz _ h
end
end Go.Proofs.YtdllckiidegpcaaGreat
