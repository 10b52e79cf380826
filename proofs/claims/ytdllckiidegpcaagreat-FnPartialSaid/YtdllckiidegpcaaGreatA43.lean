/- A part of the walk of laws.FnPartial (part 43): contracts of functions that it comes to, and the plain laws that these lean on. Conditions stand in each contract. -/
import Derived.Test.YtdllckiidegpcaaGreatA41
set_option linter.unusedSimpArgs false
set_option linter.unusedVariables false
set_option maxHeartbeats 4000000
namespace Go.Proofs.YtdllckiidegpcaaGreat
open Go.RowKit
section
set_option maxRecDepth 8000
/-- What a block's transactions must be. -/
def TxsOk (l : List Tx) : Prop := 1 ≤ l.length ∧ l.length ≤ 64 ∧ ∀ t ∈ l,t.Ok ∧ t.Small ∧ (txB t).length ≤ 5000000 ∧ oddB t = false
/-- The message and the places, in a world. -/
structure MsgIs (w : World) (c : List Value) (mv : Value) (n : Int) (hd : Hdr) (fin : List (List Int)) (by' : List Int) (ms : List Int) : Prop where
 it : ∃ hv hdv bv,c = msgC mbName hv hdv bv n ∧ ListT w.heap.size 22 32 HashE w hv fin ∧ ListT w.heap.size 25 68 HdrE w hdv [hd] ∧ Bytes w bv by' ∧ bv.oneCell' = true
 ms : Ints .i64 w mv ms
def PbR (K : List Int) (flag : Int) (f : Blm) (k : Blck) (w : World) (e : Ending) (w' : World) : Prop :=
 ∃ c mv,e = .returned (.tuple #[.agg c.toArray,mv]) ∧ Fr [] w w' ∧ MsgIs w' c mv k.txs.length k.hdr (trav K (k.txs.map (txH K)) (mFold K flag f k.txs k.txs.length).1 (hgt k.txs.length) 0).2
  (pack (trav K (k.txs.map (txH K)) (mFold K flag f k.txs k.txs.length).1 (hgt k.txs.length) 0).1 (trav K (k.txs.map (txH K)) (mFold K flag f k.txs k.txs.length).1 (hgt k.txs.length) 0).1.length) (idxs (mFold K flag f k.txs k.txs.length).1)
set_option maxHeartbeats 8000000 in
theorem partialBlock_c (K : List Int) (hK : K.length = 64) (w : World) (hKc : Blk w 1 379 (ic .u32 K)) (B : Nat) (hBw : B ≤ w.heap.size) (cf : List Value) (f : Blm) (hf : BlmE B w cf f) (hg : FGood f) (flag : Int) (hfl : 0 ≤ flag ∧ flag ≤ 2) (ck : List Value) (k : Blck) (hkh : k.hdr.Ok) (hkt : TxsOk k.txs) (hc : BlckE B w ck k) :
  Calls Tryz.prog 10 #[HFn,.agg cf.toArray,.int .u8 flag,.agg ck.toArray] w (PbR K flag f k w) := by
 obtain ⟨tv,hck,ht⟩ := hc
 obtain ⟨at',ct,rfl,hq1,hq2⟩ := ht.len
 clear hq1 hq2
 have hcfl := hf.len
 have hwl := Hdr.cells_length hkh
 have hn6 : (k.txs.length : Int) ≤ 64 := by have := hkt.2.1; omega
 obtain ⟨l,hl⟩ : ∃ l,l = k.txs := ⟨_,rfl⟩
 obtain ⟨hd,hhd⟩ : ∃ hd,hd = k.hdr := ⟨_,rfl⟩
 have HRes : Hid (∀ e w',(∃ c mv,e = .returned (.tuple #[.agg c.toArray,mv]) ∧ Fr [] w w' ∧ MsgIs w' c mv l.length hd (trav K (l.map (txH K)) (mFold K flag f l l.length).1 (hgt l.length) 0).2 (pack (trav K (l.map (txH K)) (mFold K flag f l l.length).1 (hgt l.length) 0).1 (trav K (l.map (txH K)) (mFold K flag f l l.length).1 (hgt l.length) 0).1.length) (idxs (mFold K flag f l l.length).1)) → PbR K flag f k w e w') := by
  intro e w' h; rw [hl,hhd] at h; exact h
 rw [← hl] at hck ht hkt hn6
 rw [← hhd] at hck hwl
 clear hl hhd hkh
 have hckl : ck.length = 69 := by rw [hck,List.length_append,hwl]; rfl
 have HG := hid hg; clear hg
 have HhKc := hid hKc; clear hKc
 have HhK := hid hK; clear hK
 have Hhf := hid hf; clear hf
 have Hhkt := hid hkt; clear hkt
 have Hhck := hid hck; clear hck
 have Hht := hid ht; clear ht
 have Hhcfl := hid hcfl; clear hcfl
 have Hhwl := hid hwl; clear hwl
 have Hhckl := hid hckl; clear hckl
 go_enter Tryz.func10,Tryz.ntmps10
 obtain ⟨zc,hzc,hzl⟩ : ∃ zc : List Value,zc = msgZ.flatten ∧ zc.length = 151 := ⟨_,rfl,by simp [msgZ,z32]⟩
 have HZl := hid hzl; clear hzl
 go_upto_region 1 with fail
 have HF1 : Hid (Fr [] w (((w.alloc (.cells cf.toArray 31)).alloc (.cells ck.toArray 28)).alloc (.cells zc.toArray 45))) := (((Fr.refl _ _).alloc _).alloc _).alloc _
 have HB1 : Hid (Blk (((w.alloc (.cells cf.toArray 31)).alloc (.cells ck.toArray 28)).alloc (.cells zc.toArray 45)) w.heap.size 31 cf) := ((Blk.new _ _ _).alloc _).alloc _
 have HT1 : Hid (Blk (((w.alloc (.cells cf.toArray 31)).alloc (.cells ck.toArray 28)).alloc (.cells zc.toArray 45)) (w.heap.size + 1) 28 ck) := by
  have := (Blk.new (w.alloc (.cells cf.toArray 31)) ck 28).alloc (.cells zc.toArray 45)
  rwa [show (w.alloc (.cells cf.toArray 31)).heap.size = w.heap.size + 1 by simp] at this
 have HR1 : Hid (Blk (((w.alloc (.cells cf.toArray 31)).alloc (.cells ck.toArray 28)).alloc (.cells zc.toArray 45)) (w.heap.size + 1 + 1) 45 zc) := by
  have := Blk.new ((w.alloc (.cells cf.toArray 31)).alloc (.cells ck.toArray 28)) zc 45
  rwa [show ((w.alloc (.cells cf.toArray 31)).alloc (.cells ck.toArray 28)).heap.size = w.heap.size + 1 + 1 by simp] at this
 change Code.wp _ _ _ _ (((w.alloc (.cells cf.toArray 31)).alloc (.cells ck.toArray 28)).alloc (.cells msgZ.flatten.toArray 45))
 rw [← hzc]
 clear hzc
 generalize World.alloc (World.alloc (World.alloc w _) _) _ = w1 at HF1 HB1 HT1 HR1 ⊢
 obtain ⟨F,hF⟩ : ∃ F,F = w.heap.size := ⟨_,rfl⟩
 rw [← hF] at HB1 HT1 HR1 ⊢
 obtain ⟨T,hT⟩ : ∃ T,T = F + 1 := ⟨_,rfl⟩
 rw [← hT] at HT1 HR1 ⊢
 obtain ⟨R,hR⟩ : ∃ R,R = T + 1 := ⟨_,rfl⟩
 rw [← hR] at HR1 ⊢
 have HFw : Hid (w.heap.size ≤ F ∧ w.heap.size ≤ R ∧ F ≠ T ∧ F ≠ R ∧ T ≠ R ∧ 1 < F) := by have := HhKc.out.lt; show _ ∧ _ ∧ _ ∧ _ ∧ _ ∧ _; omega
 clear hF hT hR
 go_wp2_with fail
 go_loopg [9,10,11] (l.length) (fun gk v9 v10 v11 wr => ∃ (i : Nat) (mf : List Int × Blm) (cx : List Value) (u9 u10 : Value),u9 = v9 ∧ u10 = v10 ∧ gk = l.length - i ∧ i ≤ l.length ∧ v11 = .int .i64 (i : Int) ∧ Hid (mFold K flag f l i = mf) ∧ Grows w1.heap.size 3 1 (IntE .i64) wr u9 (idxs mf.1) ∧ Grows w1.heap.size 4 1 BoolE wr u10 mf.1 ∧ Blk wr F 31 cx ∧ BlmX B wr cx mf.2 ∧ Fr [F] w1 wr)
 case atStart => exact ⟨0,([],f),cf,_,_,rfl,rfl,rfl,Nat.zero_le _,rfl,rfl,Grows.nil _,Grows.nil _,HB1.out,.inl (Hhf.out.below (HF1.out.below.mono hBw)),Fr.refl _ _⟩
 case round =>
  obtain ⟨i,mf,cx,u9,u10,rfl,rfl,rfl,hi,rfl,HMf,hg9,hg10,hb,he,hf⟩ := hrel
  have HG9 := hid hg9; clear hg9
  have HG10 := hid hg10; clear hg10
  have HBx := hid hb; clear hb
  have HEx := hid he; clear he
  have HFr := hid hf; clear hf
  have HTr := hid (HT1.out.fr HFr.out (by simpa using (Ne.symm HFw.out.2.2.1)))
  have HFwr : Hid (Fr [] w wr) := HF1.out.andThen HFr.out (by intro k hk; simp at hk; subst hk; exact .inr HFw.out.1)
  have hBr : B ≤ wr.heap.size := Nat.le_trans hBw HFwr.out.size
  have hTl := HTr.out.lt
  have c68 : wr.cell? ⟨T,68,none⟩ = some (.slice at' l.length ct) := HTr.out.cell_at (by rw [Hhck.out,List.getElem?_append_right (by rw [Hhwl.out]; omega),Hhwl.out]; rfl)
  have HMl : Hid (mf.1.length = i) := by rw [← HMf.out]; exact mFold_len hi
  have HGs : Hid (FGood mf.2) := by rw [← HMf.out]; exact mFold_good HG.out i
  by_cases hlt : i < l.length
  ·have hlti : (i : Int) < l.length := by omega
   obtain ⟨b,off,cap',c,he,hb,hcl,hrg,hE⟩ := Hht.out.at hlt (by decide)
   simp only [Value.slice.injEq] at he
   obtain ⟨rfl,_,rfl⟩ := he
   have HRg := hid (hrg wr (HFwr.out.below.mono hBw)); clear hrg
   have HE := hid (hE.below (HFwr.out.below.mono hBw)); clear hE
   have HCl := hid hcl; clear hcl
   have hbl : b < wr.heap.size := Nat.lt_of_lt_of_le hb hBr
   clear hb
   have HTk := hid (Hhkt.out.2.2 _ (List.getElem_mem hlt))
   have HMs : Hid (mFold K flag f l (i + 1) = (mf.1 ++ [b2i (mTx K flag mf.2 l[i]).1],(mTx K flag mf.2 l[i]).2)) := by show _ = _; rw [mFold_succ hlt,HMf.out]
   have HC68 := hid c68
   go_upto_region 6 with fail
   clear c68 hTl
   refine segS_begin (fun w' => Fr [] wr w') 13 (by kernel_rfl) ?_
   refine segS_quiet (fuel := 6) (by kernel_rfl) (fun d _ _ _ _ h => by cases d <;> exact h) ((Fr.refl _ _).drew) [0,1,2,3,4,5,6,7] _ _ (by kernel_rfl) ?_
   simp only [pickL,nthO]
   refine wpQuiet_rfl (HFn) rfl (fun _ => rfl) ?_
   simp only [Act.put,nA,nB,nC]
   refine wpQuiet_load rfl 31 (.tmp 5) rfl F 0 rfl (cx) _ (fun w' hf => (HBx.out.fr hf (by simp)).range) rfl rfl (by rw [(HEx.out.e hBr).len]; kernel_rfl) ?_
   simp only [Act.put,nA,nB,nC]
   refine wpQuiet_rfl (.int .u8 flag) rfl (fun _ => rfl) ?_
   simp only [Act.put,nA,nB,nC]
   refine wpQuiet_rfl (.pointer (some ⟨T,68,none⟩)) rfl (fun _ => rfl) ?_
   simp only [Act.put,nA,nB,nC]
   refine wpQuiet_load1 rfl 26 (.tmp 25) rfl T 68 rfl (.slice (some ⟨b,off,none⟩) l.length ct) _ (fun w' hf => by rw [hf.cells.1 _ _ HTr.out.lt (by simp)]; exact HC68.out) rfl rfl ?_
   simp only [Act.put,nA,nB,nC]
   refine wpQuiet_rfl (.int .i64 (i : Int)) rfl (fun _ => rfl) ?_
   simp only [Act.put,nA,nB,nC]
   refine wpQuiet_index rfl 26 (.tmp 26) (.tmp 27) rfl b off l.length ct i 4 .i64 39 rfl rfl hlt (by kernel_rfl) (by kernel_rfl) ?_
   simp only [Act.put,nA,nB,nC]
   refine wpQuiet_load rfl 39 (.tmp 28) rfl b (off + i * 4) rfl (c) _ (fun w' hf => rangeAt_fr HRg.out hf hbl) rfl rfl (by rw [HCl.out]; kernel_rfl) ?_
   simp only [Act.put,nA,nB,nC]
   refine wpQuiet_nil ?_
   refine segS_act 8 rfl rfl (by kernel_rfl) ?_
   go_wp2_with fail
   refine (sMatches_c K HhK.out wr.drew ((HhKc.out.fr HFwr.out (by simp)).drew) B hBr cx mf.2 (HEx.out.grow hBr (Fr.refl [] _).drew) HGs.out flag hfl c l[i] HTk.out.1 HTk.out.2.1 HTk.out.2.2.1 HTk.out.2.2.2 (HE.out.below (Below.refl _ _).drew)).mono ?_
   rintro e w5 ⟨c5,rfl,hf,he5⟩
   have HF5 : Hid (Fr [] wr w5) := (Fr.refl _ _).drew.trans hf
   have HE5x := hid he5
   have hB5 : B ≤ w5.heap.size := Nat.le_trans hBr HF5.out.size
   clear hf he5
   obtain ⟨r1,hr1⟩ : ∃ r1,r1 = (mTx K flag mf.2 l[i]).1 := ⟨_,rfl⟩
   rw [← hr1] at HMs ⊢
   clear hr1
   obtain ⟨r2,hr2⟩ : ∃ r2,r2 = (mTx K flag mf.2 l[i]).2 := ⟨_,rfl⟩
   rw [← hr2] at HMs HE5x
   clear hr2
   go_wp2_with fail
   refine ⟨fun _ => HF5.out, ?_⟩
   refine segS_quiet (fuel := 1) (by kernel_rfl) (fun d _ _ _ _ h => by cases d <;> exact h) (HF5.out) [9,10,11,12] _ _ (by kernel_rfl) ?_
   simp only [pickL,nthO]
   refine wpQuiet_rfl (.tuple #[.bool r1,.agg c5.toArray]) rfl (fun _ => rfl) ?_
   simp only [Act.put,nA,nB,nC]
   refine wpQuiet_rfl (.bool r1) rfl (fun _ => rfl) ?_
   simp only [Act.put,nA,nB,nC]
   refine wpQuiet_rfl (.agg c5.toArray) rfl (fun _ => rfl) ?_
   simp only [Act.put,nA,nB,nC]
   refine wpQuiet_rfl (.bool r1) rfl (fun _ => rfl) ?_
   simp only [Act.put,nA,nB,nC]
   refine wpQuiet_nil ?_
   have HB5 := hid (HBx.out.fr HF5.out (by simp))
   refine segS_act 13 (o := ⟨none,_,_,_,_,_⟩) rfl rfl (by kernel_rfl) ?_
   refine wpList_storeB rfl 31 (.tmp 5) (.tmp 32) rfl rfl F cx c5 HB5.out rfl rfl (by rw [(HE5x.out.e hB5).len,(HEx.out.e hBr).len]) (by rw [(HE5x.out.e hB5).len]; kernel_rfl) (HE5x.out.e hB5).one ?_
   intro w6 hf hb
   have HF6 : Hid (Fr [F] w5 w6) := hf
   have HB6 := hid hb
   clear hf hb
   refine wpList_nil ?_
   refine ⟨fun h => absurd rfl h, ?_⟩
   refine segS_end (by kernel_rfl) ?_
   have HE6 := hid (HE5x.out.put hB5 (Nat.le_trans hBw HFw.out.1) HB5.out HF6.out)
   have HT6 : Hid (FrT 31 w5 w6) := HF6.out.frT (fun k hk _ => by simp at hk; subst hk; exact ⟨_,_,HB5.out⟩)
   have HG96 : Hid (Grows w1.heap.size 3 1 (IntE .i64) w6 u9 (idxs mf.1)) := (HG9.out.fr HF5.out (E' := IntE .i64) (fun _ _ h => h)).frT HT6.out (by decide) (fun _ _ h => h)
   have HG106 : Hid (Grows w1.heap.size 4 1 BoolE w6 u10 mf.1) := (HG10.out.fr HF5.out (E' := BoolE) (fun _ _ h => h)).frT HT6.out (by decide) (fun _ _ h => h)
   have HFr6 : Hid (Fr [F] w1 w6) := HFr.out.trans ((HF5.out.mono (by simp)).trans HF6.out)
   clear HT6 HG9 HG10 HF5 HF6 HB5 HE5x HBx HEx HC68 HRg HE HTr hbl hB5
   generalize Value.agg c5.toArray = V5
   generalize Value.agg cx.toArray = Vx
   generalize Value.agg c.toArray = Vc
   go_upto_region 7 with fail
   obtain ⟨a10,c10,rfl⟩ := HG106.out.slice
   refine wp_region_lit ?_
   refine wpList_run (v := .slice a10 mf.1.length c10) rfl rfl ?_
   simp only [Act.put,nA,nB,nC]
   refine wpList_run (v := .bool r1) rfl rfl ?_
   simp only [Act.put,nA,nB,nC]
   refine wpList_bs1 rfl 53 (.tmp 34) rfl 4 1 1 elem53 (by decide) (.bool r1) [.bool r1] rfl rfl rfl ?_
   simp only [Act.put,nA,nB,nC]
   refine wpList_pushS rfl (.tmp 33) (.tmp 35) 53 rfl 4 1 1 elem53 [F] w1 w6 BoolE (.slice a10 mf.1.length c10) mf.1 rfl #[.bool r1] rfl rfl HG106.out HFr6.out rfl (by intro u hu; rw [List.mem_singleton] at hu; subst hu; rfl) (fun _ _ _ _ _ _ h => h) (b2i r1) (boolE_b2i _ _) (by rw [HMl.out]; omega) ?_
   intro v7 w7 HG7 HF7 HT7 HO7
   simp only [Act.put,nA,nB,nC]
   have HG97 : Hid (Grows w1.heap.size 3 1 (IntE .i64) w7 u9 (idxs mf.1)) := HG96.out.frT HT7.out (by decide) (fun _ _ h => h)
   have HB7 : Hid (Blk w7 F 31 c5) := HB6.out.frT HT7.out (by decide)
   have HE7 : Hid (BlmX B w7 c5 r2) := by
    rcases HE6.out with h | ⟨bv,rfl,h⟩
    ·exact .inl (h.below (HO7.out.to_below (Nat.le_trans hBw (Nat.le_trans HF1.out.size HFr6.out.size)) (fun k hk => Nat.le_trans hBw (Nat.le_trans HF1.out.size (HG106.out.own k (own1_mem hk)).1))))
    ·exact .inr ⟨bv,rfl,(h.frT HT7.out (by decide)).mono HT7.out.size⟩
   clear HG96 HG106 HB6 HE6 HT7 HO7 HFr6
   have HLe : Hid ((idxs mf.1).length ≤ 64) := by have := idxs_len mf.1; rw [HMl.out] at this; have := Hhkt.out.2.1; show _ ≤ _; omega
   cases r1
   ·have HMs2 : Hid (mFold K flag f l (i + 1) = (mf.1 ++ [b2i false],r2)) := HMs.out
    have HI2 : Hid (idxs (mf.1 ++ [b2i false]) = idxs mf.1) := by show _ = _; rw [idxs_snoc]; simp
    clear HMs
    go_wp2_with fail
    go_roundg (l.length - (i + 1))
    case measure => omega
    case rel => exact ⟨i + 1,(mf.1 ++ [b2i false],r2),c5,u9,_,rfl,rfl,rfl,by omega,by simp,HMs2.out,by rw [HI2.out]; exact HG97.out,HG7.out,HB7.out,HE7.out,HF7.out⟩
   ·have HMs2 : Hid (mFold K flag f l (i + 1) = (mf.1 ++ [b2i true],r2)) := HMs.out
    have HI2 : Hid (idxs (mf.1 ++ [b2i true]) = idxs mf.1 ++ [(i : Int)]) := by show _ = _; rw [idxs_snoc,HMl.out]; simp
    clear HMs
    obtain ⟨a9,c9,rfl⟩ := HG97.out.slice
    go_upto_region 9 with fail
    refine wp_region_lit ?_
    refine wpList_run (v := .slice a9 (idxs mf.1).length c9) rfl rfl ?_
    simp only [Act.put,nA,nB,nC]
    refine wpList_run (v := .int .i64 (i : Int)) rfl rfl ?_
    simp only [Act.put,nA,nB,nC]
    refine wpList_bs1 rfl 46 (.tmp 39) rfl 3 1 8 elem46 (by decide) (.int .i64 (i : Int)) [.int .i64 (i : Int)] rfl rfl rfl ?_
    simp only [Act.put,nA,nB,nC]
    refine wpList_pushS rfl (.tmp 38) (.tmp 40) 46 rfl 3 1 8 elem46 [F] w1 w7 (IntE .i64) (.slice a9 (idxs mf.1).length c9) (idxs mf.1) rfl #[.int .i64 (i : Int)] rfl rfl HG97.out HF7.out rfl (by intro u hu; rw [List.mem_singleton] at hu; subst hu; rfl) (fun _ _ _ _ _ _ h => h) (i : Int) rfl (by have := HLe.out; omega) ?_
    intro v8 w8 HG8 HF8 HT8 HO8
    simp only [Act.put,nA,nB,nC]
    have HG78 : Hid (Grows w1.heap.size 4 1 BoolE w8 v7 (mf.1 ++ [b2i true])) := HG7.out.frT HT8.out (by decide) (fun _ _ h => h)
    have HB8 : Hid (Blk w8 F 31 c5) := HB7.out.frT HT8.out (by decide)
    have HE8 : Hid (BlmX B w8 c5 r2) := by
     rcases HE7.out with h | ⟨bv,rfl,h⟩
     ·exact .inl (h.below (HO8.out.to_below (Nat.le_trans hBw (Nat.le_trans HF1.out.size HF7.out.size)) (fun k hk => Nat.le_trans hBw (Nat.le_trans HF1.out.size (HG97.out.own k (own1_mem hk)).1))))
     ·exact .inr ⟨bv,rfl,(h.frT HT8.out (by decide)).mono HT8.out.size⟩
    rw [← HI2.out] at HG8
    clear HG97 HG7 HB7 HE7 HT8 HO8 HF7 HI2
    go_wp2_with fail
    go_roundg (l.length - (i + 1))
    case measure => omega
    case rel => exact ⟨i + 1,(mf.1 ++ [b2i true],r2),c5,_,_,rfl,rfl,rfl,by omega,by simp,HMs2.out,HG8.out,HG78.out,HB8.out,HE8.out,HF8.out⟩
  ·have hie : i = l.length := by omega
   subst hie
   clear hi hlt
   have HTxs : Hid (∀ t ∈ l,t.Ok ∧ t.Small ∧ (txB t).length ≤ 5000000) := fun t ht => ⟨(Hhkt.out.2.2 t ht).1,(Hhkt.out.2.2 t ht).2.1,(Hhkt.out.2.2 t ht).2.2.1⟩
   obtain ⟨hs,hhs⟩ : ∃ hs,hs = l.map (txH K) := ⟨_,rfl⟩
   have HHl : Hid (hs.length = l.length) := by rw [hhs]; exact List.length_map _
   have HH32 : Hid (∀ x ∈ hs,x.length = 32) := by
    rw [hhs]; intro x hx; obtain ⟨t,_,rfl⟩ := List.mem_map.mp hx; exact H2_length _ _
   obtain ⟨fin,hfin⟩ : ∃ fin,fin = (trav K hs mf.1 (hgt hs.length) 0).2 := ⟨_,rfl⟩
   obtain ⟨bits,hbits⟩ : ∃ bits,bits = (trav K hs mf.1 (hgt hs.length) 0).1 := ⟨_,rfl⟩
   have HBits : Hid (bits.length ≤ 1000) := by
    have h1 := (trav_len K hs mf.1 (hgt hs.length) 0).1
    have h2 : 2 ^ (hgt hs.length + 1) ≤ 2 ^ 7 := Nat.pow_le_pow_right (by omega) (by have := hgt_le hs.length; omega)
    rw [← hbits] at h1
    show _ ≤ _; omega
   have HFin : Hid (∀ e w',(∃ c mv,e = .returned (.tuple #[.agg c.toArray,mv]) ∧ Fr [] w w' ∧ MsgIs w' c mv l.length hd fin (pack bits bits.length) (idxs mf.1)) → PbR K flag f k w e w') := by
    intro e w' h
    refine HRes.out e w' ?_
    rw [hfin,hbits,HHl.out,hhs] at h
    rw [HMf.out]
    exact h
   have HHs := hid hhs
   have Hfin := hid hfin
   have Hbits := hid hbits
   clear hhs hfin hbits
   have c68' := hid c68
   go_wp2_with fail
   refine (leaves_c K HhK.out wr (HhKc.out.fr HFwr.out (by simp)) B hBr _ l (Hht.out.below (HFwr.out.below.mono hBw) (fun _ _ h => h.below (HFwr.out.below.mono hBw))) Hhkt.out.2.1 HTxs.out).mono ?_
   rintro e w2 ⟨v2,rfl,hf,hl2⟩
   rw [← HHs.out] at hl2
   have HF2 := hid hf
   have HL2 := hid hl2
   have HG92 := hid (HG9.out.fr hf (E' := IntE .i64) (fun _ _ h => h))
   have HG102 := hid (HG10.out.fr hf (E' := BoolE) (fun _ _ h => h))
   clear hf hl2 c68 hTl HG9 HG10
   go_wp2_with fail
   refine (partialTree_c K HhK.out w2 (HhKc.out.fr (HFwr.out.trans HF2.out) (by simp)) hs HH32.out (by rw [HHl.out]; exact Hhkt.out.1) (by rw [HHl.out]; exact Hhkt.out.2.1) mf.1 (by rw [HMl.out,HHl.out]) w2.heap.size (Nat.le_refl _) v2 u10 (HL2.out.listB (fun _ _ h => h)) HG102.out.listT.bools).mono ?_
   rintro e w3 ⟨bv,hv,rfl,hf,hlb,hlh⟩
   rw [← Hbits.out] at hlb
   rw [← Hfin.out] at hlh
   have HF3 : Hid (Fr [] wr w3) := HF2.out.trans hf
   have HLb := hid hlb
   have HLh := hid hlh
   have HG93 := hid (HG92.out.fr hf (E' := IntE .i64) (fun _ _ h => h))
   obtain ⟨ab,cb,rfl,hq1,hq2⟩ := (hlb.listB (fun _ _ h => h)).len
   obtain ⟨ah,ch,rfl,hq3,hq4⟩ := (hlh.listB (fun _ _ h => h)).len
   clear hf hlb hlh hq1 hq2 hq3 hq4 HG92 HG102
   rw [HHl.out]
   simp only []
   refine (‹∀ (a : Act) (w : World),wpList Tryz.prog _ _ _ a w → _›) _ _ ?_
   refine wpList_new rfl rfl 55 (.tmp 48) 13 rfl rfl rfl rfl (by simp [Act.put]) [.int .i64 l.length,.slice ab bits.length cb,.slice ah fin.length ch] [.int .i64 0,.slice none 0 0,.slice none 0 0] (fun _ => rfl) (by kernel_rfl) (fun _ => rfl) rfl (by intro u hu; simp only [List.mem_cons,List.not_mem_nil,or_false] at hu; rcases hu with rfl | rfl | rfl <;> rfl) ?_
   simp only [Act.put,nA,nB,nC]
   have HF4 : Hid (Fr [] wr (w3.alloc (.cells [.int .i64 l.length,.slice ab bits.length cb,.slice ah fin.length ch].toArray 55))) := HF3.out.alloc _
   have HP4 : Hid (Blk (w3.alloc (.cells [.int .i64 l.length,.slice ab bits.length cb,.slice ah fin.length ch].toArray 55)) w3.heap.size 55 [.int .i64 l.length,.slice ab bits.length cb,.slice ah fin.length ch]) := Blk.new _ _ _
   have hf34 : Fr [] w3 (w3.alloc (.cells [.int .i64 l.length,.slice ab bits.length cb,.slice ah fin.length ch].toArray 55)) := (Fr.refl _ _).alloc _
   have HLb4 := hid ((HLb.out.below hf34.below (fun _ _ h => h)).mono hf34.size (fun _ _ h => h))
   have HLh4 := hid ((HLh.out.below hf34.below (fun _ _ h => h)).mono hf34.size (fun _ _ h => h))
   have HG94 := hid (HG93.out.fr hf34 (E' := IntE .i64) (fun _ _ h => h))
   clear hf34
   generalize World.alloc w3 _ = w4 at HF4 HP4 HLb4 HLh4 HG94 ⊢
   obtain ⟨P,hP⟩ : ∃ P,P = w3.heap.size := ⟨_,rfl⟩
   rw [← hP] at HP4 ⊢
   have HPR : Hid (P ≠ R) := by have := HR1.out.lt; have := HFr.out.size; have := HF3.out.size; show _ ≠ _; omega
   clear hP HLb HLh HG93 HF2 HF3
   refine wpList_nil ?_
   simp only [Exit.then]
   generalize Value.agg [.int .i64 l.length,.slice ab bits.length cb,.slice ah fin.length ch].toArray = V48
   have HRn : Hid (Blk w4 R 45 zc) := (HR1.out.fr HFr.out (by simpa using (Ne.symm HFw.out.2.2.2.1))).fr HF4.out (by simp)
   have HTn : Hid (Blk w4 T 28 ck) := HTr.out.fr HF4.out (by simp)
   have HFw4 : Hid (Fr [] w w4) := HFwr.out.trans HF4.out
   obtain ⟨a9,c9,rfl⟩ := HG94.out.slice
   have hl64 : (l.length : Int) ≤ 64 := hn6
   go_upto_region 11 with fail
   refine seg_begin (fun w' => Fr [R] w4 w') (by kernel_rfl) ?_
   refine seg_quiet (fuel := 5) (by kernel_rfl) (fun d _ _ _ _ h => by cases d <;> exact h) ((Fr.refl _ _).drew) [0,1,3,4,5,6,7,8,9,12] _ _ (by kernel_rfl) ?_
   simp only [pickL,nthO]
   refine wpQuiet_rfl (.pointer (some ⟨T,0,none⟩)) rfl (fun _ => rfl) ?_
   simp only [Act.put,nA,nB,nC]
   refine wpQuiet_load rfl 25 (.tmp 49) rfl T 0 rfl (hd.cells) _ (fun w' hf => (HTn.out.fr hf (by simpa using HFw.out.2.2.2.2.1)).part [] _ _ (by rw [Hhck.out]; rfl)) rfl rfl (by rw [Hhwl.out]; kernel_rfl) ?_
   simp only [Act.put,nA,nB,nC]
   refine wpQuiet_rfl (.pointer (some ⟨P,0,none⟩)) rfl (fun _ => rfl) ?_
   simp only [Act.put,nA,nB,nC]
   refine wpQuiet_load1 rfl 3 (.tmp 52) rfl P 0 rfl (.int .i64 (l.length : Int)) _ (fun w' hf => (HP4.out.fr hf (by simpa using HPR.out)).cell_at rfl) rfl rfl ?_
   simp only [Act.put,nA,nB,nC]
   refine wpQuiet_rfl (.int .u32 (IntKind.u32.wrap (l.length : Int))) rfl (fun _ => rfl) ?_
   simp only [Act.put,nA,nB,nC]
   refine wpQuiet_rfl (.pointer (some ⟨P,2,none⟩)) rfl (fun _ => rfl) ?_
   simp only [Act.put,nA,nB,nC]
   refine wpQuiet_load1 rfl 42 (.tmp 55) rfl P 2 rfl (.slice ah fin.length ch) _ (fun w' hf => (HP4.out.fr hf (by simpa using HPR.out)).cell_at rfl) rfl rfl ?_
   simp only [Act.put,nA,nB,nC]
   refine wpQuiet_rfl (.pointer (some ⟨P,1,none⟩)) rfl (fun _ => rfl) ?_
   simp only [Act.put,nA,nB,nC]
   refine wpQuiet_load1 rfl 53 (.tmp 57) rfl P 1 rfl (.slice ab bits.length cb) _ (fun w' hf => (HP4.out.fr hf (by simpa using HPR.out)).cell_at rfl) rfl rfl ?_
   simp only [Act.put,nA,nB,nC]
   refine wpQuiet_rfl (.slice a9 (idxs mf.1).length c9) rfl (fun _ => rfl) ?_
   simp only [Act.put,nA,nB,nC]
   refine wpQuiet_nil ?_
   rw [IntWalk.u32_in (l.length : Int) (by omega)]
   refine seg_two 2 10 (oi := ⟨some 51,_,_,_,_,_⟩) (oj := ⟨some 59,_,_,_,_,_⟩) rfl rfl rfl rfl (by kernel_rfl) ?_ ?_
   ·skip
    refine wpList_bs1 rfl 43 (.tmp 50) rfl 25 68 80 elem43 (by decide) (.agg hd.cells.toArray) hd.cells rfl rfl Hhwl.out ?_
    refine wpList_nil ?_
    simp only [Act.put,nA,nB,nC]
    have HFa : Hid (Fr [] w4 (w4.drew.alloc (.cells hd.cells.toArray 25))) := (Fr.refl [] w4).drew.alloc _
    have HNa : Hid (Blk (w4.drew.alloc (.cells hd.cells.toArray 25)) w4.drew.heap.size 25 hd.cells) := Blk.new _ _ _
    refine ⟨HFa.out.mono (by simp),fun _ => ?_⟩
    generalize World.alloc w4.drew _ = wa at HFa HNa ⊢
    obtain ⟨N,hN⟩ : ∃ N,N = w4.drew.heap.size := ⟨_,rfl⟩
    rw [← hN] at HNa ⊢
    clear hN
    refine seg_act 10 rfl rfl (by kernel_rfl) ?_
    go_wp2_with fail
    refine (partialBytes_c wa wa.heap.size (Nat.le_refl _) _ bits (((HLb4.out.below HFa.out.below (fun _ _ h => h)).mono HFa.out.size (fun _ _ h => h)).bools) HBits.out).mono ?_
    rintro e w5 ⟨v5,rfl,hf,hy5⟩
    have HF5 : Hid (Fr [] w4 w5) := HFa.out.trans hf
    have HNn := hid (HNa.out.fr hf (by simp))
    have HY := hid hy5
    clear hf hy5
    go_wp2_with fail
    refine ⟨HF5.out.mono (by simp),fun _ => ?_⟩
    obtain ⟨ay,cy,rfl,hq1,hq2⟩ := HY.out.rdB.form
    clear hq1 hq2
    refine seg_quiet (fuel := 2) (by kernel_rfl) (fun d _ _ _ _ h => by cases d <;> exact h) (HF5.out.mono (by simp)) [11] _ _ (by kernel_rfl) ?_
    simp only [pickL,nthO]
    refine wpQuiet_build rfl 45 _ rfl [(0,.string mbName),(7,.slice (some ⟨N,0,none⟩) 1 1),(14,.int .u32 (l.length : Int)),(4,.slice ah fin.length ch),(11,.slice ay (pack bits bits.length).length cy)] (by simp only [List.map_toArray]; rfl) msgZ msg_places (by simp [offs,msgZ,z32,Value.cells]) (msgC mbName (.slice ah fin.length ch) (.slice (some ⟨N,0,none⟩) 1 1) (.slice ay (pack bits bits.length).length cy) (l.length : Int)) (by simp [msgZ,msgC,msgF,Value.cells]) ?_
    simp only [Act.put,nA,nB,nC]
    refine wpQuiet_nil ?_
    refine seg_act 13 (o := ⟨none,_,_,_,_,_⟩) rfl rfl (by kernel_rfl) ?_
    refine wpList_storeB rfl 45 (.tmp 8) (.tmp 60) rfl rfl R zc _ (HRn.out.fr HF5.out (by simp)) rfl rfl (by rw [msgC_length,HZl.out]) (by rw [msgC_length]; kernel_rfl) (msgC_one rfl rfl rfl) ?_
    intro w6 hf hb
    have HF6 : Hid (Fr [R] w4 w6) := (HF5.out.mono (by simp)).trans hf
    have HR6 := hid hb
    have HT6 : Hid (FrT 45 w5 w6) := hf.frT (fun k hk _ => by simp at hk; subst hk; exact ⟨_,_,HRn.out.fr HF5.out (by simp)⟩)
    clear hf hb
    refine wpList_nil ?_
    refine ⟨HF6.out,fun _ => ?_⟩
    refine seg_quiet (fuel := 0) (by kernel_rfl) (fun d _ _ _ _ h => by cases d <;> exact h) (HF6.out) [14] _ _ (by kernel_rfl) ?_
    simp only [pickL,nthO]
    refine wpQuiet_rfl (.slice a9 (idxs mf.1).length c9) rfl (fun _ => rfl) ?_
    simp only [Act.put,nA,nB,nC]
    refine wpQuiet_nil ?_
    refine seg_end (by kernel_rfl) ?_
    refine (‹∀ (a : Act) (w : World),Code.wp Tryz.prog Code.ret _ a w → _›) _ _ ?_
    refine wp_ret ?_
    refine ret_ct rfl rfl rfl _ HR6.out rfl rfl (by rw [msgC_length]; kernel_rfl) rfl ?_
    refine HFin.out _ _ ⟨_,_,rfl,HFw4.out.andThen HF6.out (by intro k hk; simp at hk; subst hk; exact .inr HFw.out.2.1),⟨_,_,_,rfl, ?_, ?_, ?_,rfl⟩, ?_⟩
    ·exact ((((HLh4.out.below HF5.out.below (fun _ _ h => h)).mono HF5.out.size (fun _ _ h => h)).frT HT6.out (by decide) (fun _ _ h => h)).mono HT6.out.size (fun _ _ h => h))
    ·have hb := (HNn.out.frT HT6.out (by decide))
     refine ⟨[hd.cells],rfl, ?_,⟨_,1,rfl,Nat.le_refl _,by unfold maxLen; omega,.inr ⟨N,0,_,_,rfl,hb.lt,hb, ?_⟩⟩, ?_⟩
     ·intro c hc; rw [List.mem_singleton] at hc; rw [hc]; exact Hhwl.out
     ·intro i hi
      rw [Nat.zero_add]
      simp only [List.flatten_cons,List.flatten_nil,List.append_nil]
      exact hb.cell i (by simpa using hi)
     ·intro i hi hi'
      have h0 : i = 0 := by simpa using hi
      subst h0
      rfl
    ·exact ((HY.out.frT HT6.out (by decide)).mono HT6.out.size).rdB.rd (Nat.le_refl _)
    ·exact (((HG94.out.fr HF5.out (E' := IntE .i64) (fun _ _ h => h)).frT HT6.out (by decide) (fun _ _ h => h) (E' := IntE .i64)).listT.ints).rd (Nat.le_refl _)
   ·skip
    go_wp2_with fail
    refine (partialBytes_c w4.drew w4.drew.heap.size (Nat.le_refl _) _ bits (((HLb4.out.below ((Fr.refl [] w4).drew).below (fun _ _ h => h)).mono ((Fr.refl [] w4).drew).size (fun _ _ h => h)).bools) HBits.out).mono ?_
    rintro e w5 ⟨v5,rfl,hf,hy5⟩
    have HFb : Hid (Fr [] w4 w5) := (Fr.refl _ _).drew.trans hf
    have HYb := hid hy5
    clear hf hy5
    go_wp2_with fail
    refine ⟨HFb.out.mono (by simp),fun _ => ?_⟩
    obtain ⟨wb,hwb⟩ : ∃ wb,wb = w5 := ⟨_,rfl⟩
    rw [← hwb] at HFb HYb ⊢
    clear hwb
    refine seg_act 2 (o := ⟨some 51,_,_,_,_,_⟩) rfl rfl (by kernel_rfl) ?_
    refine wpList_bs1 rfl 43 (.tmp 50) rfl 25 68 80 elem43 (by decide) (.agg hd.cells.toArray) hd.cells rfl rfl Hhwl.out ?_
    refine wpList_nil ?_
    simp only [Act.put,nA,nB,nC]
    have HFa : Hid (Fr [] w4 (wb.alloc (.cells hd.cells.toArray 25))) := HFb.out.alloc _
    have HNa : Hid (Blk (wb.alloc (.cells hd.cells.toArray 25)) wb.heap.size 25 hd.cells) := Blk.new _ _ _
    refine ⟨HFa.out.mono (by simp),fun _ => ?_⟩
    obtain ⟨N,hN⟩ : ∃ N,N = wb.heap.size := ⟨_,rfl⟩
    have HY : Hid (BytesT (wb.alloc (.cells hd.cells.toArray 25)).heap.size (wb.alloc (.cells hd.cells.toArray 25)) v5 (pack bits bits.length)) := (HYb.out.below ((Fr.refl [] wb).alloc _).below).mono ((Fr.refl [] wb).alloc _).size
    rw [← hN] at HNa ⊢
    clear hN
    generalize World.alloc wb _ = w5 at HFa HNa HY ⊢
    have HF5 := HFa
    have HNn := HNa
    obtain ⟨ay,cy,rfl,hq1,hq2⟩ := HY.out.rdB.form
    clear hq1 hq2
    refine seg_quiet (fuel := 2) (by kernel_rfl) (fun d _ _ _ _ h => by cases d <;> exact h) (HF5.out.mono (by simp)) [11] _ _ (by kernel_rfl) ?_
    simp only [pickL,nthO]
    refine wpQuiet_build rfl 45 _ rfl [(0,.string mbName),(7,.slice (some ⟨N,0,none⟩) 1 1),(14,.int .u32 (l.length : Int)),(4,.slice ah fin.length ch),(11,.slice ay (pack bits bits.length).length cy)] (by simp only [List.map_toArray]; rfl) msgZ msg_places (by simp [offs,msgZ,z32,Value.cells]) (msgC mbName (.slice ah fin.length ch) (.slice (some ⟨N,0,none⟩) 1 1) (.slice ay (pack bits bits.length).length cy) (l.length : Int)) (by simp [msgZ,msgC,msgF,Value.cells]) ?_
    simp only [Act.put,nA,nB,nC]
    refine wpQuiet_nil ?_
    refine seg_act 13 (o := ⟨none,_,_,_,_,_⟩) rfl rfl (by kernel_rfl) ?_
    refine wpList_storeB rfl 45 (.tmp 8) (.tmp 60) rfl rfl R zc _ (HRn.out.fr HF5.out (by simp)) rfl rfl (by rw [msgC_length,HZl.out]) (by rw [msgC_length]; kernel_rfl) (msgC_one rfl rfl rfl) ?_
    intro w6 hf hb
    have HF6 : Hid (Fr [R] w4 w6) := (HF5.out.mono (by simp)).trans hf
    have HR6 := hid hb
    have HT6 : Hid (FrT 45 w5 w6) := hf.frT (fun k hk _ => by simp at hk; subst hk; exact ⟨_,_,HRn.out.fr HF5.out (by simp)⟩)
    clear hf hb
    refine wpList_nil ?_
    refine ⟨HF6.out,fun _ => ?_⟩
    refine seg_quiet (fuel := 0) (by kernel_rfl) (fun d _ _ _ _ h => by cases d <;> exact h) (HF6.out) [14] _ _ (by kernel_rfl) ?_
    simp only [pickL,nthO]
    refine wpQuiet_rfl (.slice a9 (idxs mf.1).length c9) rfl (fun _ => rfl) ?_
    simp only [Act.put,nA,nB,nC]
    refine wpQuiet_nil ?_
    refine seg_end (by kernel_rfl) ?_
    refine (‹∀ (a : Act) (w : World),Code.wp Tryz.prog Code.ret _ a w → _›) _ _ ?_
    refine wp_ret ?_
    refine ret_ct rfl rfl rfl _ HR6.out rfl rfl (by rw [msgC_length]; kernel_rfl) rfl ?_
    refine HFin.out _ _ ⟨_,_,rfl,HFw4.out.andThen HF6.out (by intro k hk; simp at hk; subst hk; exact .inr HFw.out.2.1),⟨_,_,_,rfl, ?_, ?_, ?_,rfl⟩, ?_⟩
    ·exact ((((HLh4.out.below HF5.out.below (fun _ _ h => h)).mono HF5.out.size (fun _ _ h => h)).frT HT6.out (by decide) (fun _ _ h => h)).mono HT6.out.size (fun _ _ h => h))
    ·have hb := (HNn.out.frT HT6.out (by decide))
     refine ⟨[hd.cells],rfl, ?_,⟨_,1,rfl,Nat.le_refl _,by unfold maxLen; omega,.inr ⟨N,0,_,_,rfl,hb.lt,hb, ?_⟩⟩, ?_⟩
     ·intro c hc; rw [List.mem_singleton] at hc; rw [hc]; exact Hhwl.out
     ·intro i hi
      rw [Nat.zero_add]
      simp only [List.flatten_cons,List.flatten_nil,List.append_nil]
      exact hb.cell i (by simpa using hi)
     ·intro i hi hi'
      have h0 : i = 0 := by simpa using hi
      subst h0
      rfl
    ·exact ((HY.out.frT HT6.out (by decide)).mono HT6.out.size).rdB.rd (Nat.le_refl _)
    ·exact (((HG94.out.fr HF5.out (E' := IntE .i64) (fun _ _ h => h)).frT HT6.out (by decide) (fun _ _ h => h) (E' := IntE .i64)).listT.ints).rd (Nat.le_refl _)
end
end Go.Proofs.YtdllckiidegpcaaGreat
