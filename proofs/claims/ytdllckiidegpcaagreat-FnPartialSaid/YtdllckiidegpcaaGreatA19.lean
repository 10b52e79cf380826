/- A part of the walk of laws.FnPartial (part 19): contracts of functions that it comes to, and the plain laws that these lean on. Conditions stand in each contract. -/
import Derived.Test.YtdllckiidegpcaaGreatA10
import Derived.Test.YtdllckiidegpcaaGreatA12
import Derived.Test.YtdllckiidegpcaaGreatA14
set_option linter.unusedSimpArgs false
set_option linter.unusedVariables false
namespace Go.Proofs.YtdllckiidegpcaaGreat
open Go.RowKit
abbrev TxP (w : World) : List Value → Tx → Prop := PtrE w.heap.size 227 (MsgTxT w.heap.size) w
theorem TxP.grow {w w' : World} {c : List Value} {t : Tx} (h : TxP w c t) (hf : Fr [] w w') : TxP w' c t :=
 (h.below hf.below (fun _ _ h => h.below hf.below)).mono hf.size (fun _ _ h => h.mono hf.size)
theorem TxP.growT {w w' : World} {T : TypeId} {c : List Value} {t : Tx} (h : TxP w c t) (hf : FrT T w w') (h0 : 227 ≠ T) (h5 : 5 ≠ T) (h29 : 29 ≠ T) (h1 : 228 ≠ T) (h2 : 237 ≠ T) (h3 : 233 ≠ T) (h4 : 236 ≠ T) : TxP w' c t :=
 (h.frT hf h0 (fun _ _ h => h.frT hf h5 h29 h1 h2 h3 h4)).mono hf.size (fun _ _ h => h.mono hf.size)
theorem elem119 : Elem Tryz.prog 119 166 1 8 := Elem.mk' (by kernel_rfl) (by kernel_rfl) (by decide) (by decide)
theorem Hdr.one (h : Hdr) : ∀ u ∈ h.cells,u.oneCell' = true := by
 intro u hu
 simp only [Hdr.cells,List.mem_cons,List.mem_append,List.not_mem_nil,or_false] at hu
 rcases hu with rfl | h | h | rfl | rfl | rfl
 ·rfl
 ·exact ic_one _ _ _ h
 ·exact ic_one _ _ _ h
 ·rfl
 ·rfl
 ·rfl
theorem MsgBlockT.below {B : Nat} {w w' : World} {c : List Value} {k : Blck} (h : MsgBlockT B w c k) (hb : Below B w w') : MsgBlockT B w' c k := by
 obtain ⟨tv,rfl,h1⟩ := h
 exact ⟨tv,rfl,h1.below hb (fun _ _ h => h.below hb (fun _ _ h => h.below hb))⟩
structure Blck.Ok (k : Blck) : Prop where
 hdr : k.hdr.Ok
 txs : ∀ t ∈ k.txs,t.Ok
structure Blck.Small (k : Blck) : Prop where
 num : k.txs.length ≤ 1000000
 txs : ∀ t ∈ k.txs,t.Small
set_option maxRecDepth 8000 in
set_option maxHeartbeats 2000000 in
theorem blockOf_c (w : World) (B : Nat) (hBw : B ≤ w.heap.size) (c : List Value) (k : Blck) (hc : BlckE B w c k) (hk : k.Ok) (hs : k.Small) :
  Calls Tryz.prog 45 #[.agg c.toArray] w fun e w' => ∃ g d,e = .returned (.pointer (some ⟨g,0,none⟩)) ∧ Fr [] w w' ∧ w.heap.size ≤ g ∧ Blk w' g 121 d ∧ MsgBlockT w'.heap.size w' d k := by
 obtain ⟨tv,hc,ht⟩ := hc
 obtain ⟨at',ct,rfl,ht1,ht2⟩ := ht.len
 clear ht1 ht2
 have HT := hid ht; clear ht
 have Hk := hid hk; clear hk
 have Hs := hid hs; clear hs
 have Hc := hid hc; clear hc
 go_enter Tryz.func45,Tryz.ntmps45
 go_upto_region 1 with fail
 have HF1 : Hid (Fr [] w (w.alloc (.cells c.toArray 28))) := (Fr.refl _ _).alloc _
 have HK1 : Hid (Blk (w.alloc (.cells c.toArray 28)) w.heap.size 28 c) := Blk.new _ _ _
 generalize World.alloc w _ = w1 at HF1 HK1 ⊢
 refine wp_region_lit ?_
 refine wpList_run (v := .pointer (some ⟨w.heap.size,0,none⟩)) rfl rfl ?_
 simp only [Act.put,nA,nB,nC]
 refine wpList_load_mid rfl 25 (.tmp 5) rfl w.heap.size 0 rfl k.hdr.cells _ (HK1.out.part [] _ _ (by rw [Hc.out]; rfl)) rfl rfl (by rw [Hdr.cells_length Hk.out.hdr]; kernel_rfl) ?_
 simp only [Act.put,nA,nB,nC]
 go_wp2_with fail
 refine (headerOf_c w1 k.hdr Hk.out.hdr).mono ?_
 rintro e w2 ⟨g0,rfl,hf,hg,hb⟩
 have HF2 : Hid (Fr [] w1 w2) := hf
 have HB2 := hid hb
 clear hf hg hb
 simp only []
 refine (‹∀ (a : Act) (w : World),wpList Tryz.prog _ _ _ a w → _›) _ _ ?_
 refine wpList_run (v := .pointer (some ⟨g0,0,none⟩)) rfl rfl ?_
 simp only [Act.put,nA,nB,nC]
 refine wpList_load_mid rfl 118 (.tmp 8) rfl g0 0 rfl k.hdr.wire _ HB2.out.range rfl rfl (by rw [Hdr.wire_length Hk.out.hdr]; kernel_rfl) ?_
 simp only [Act.put,nA,nB,nC]
 refine wpList_build rfl 121 _ rfl [(0,.agg k.hdr.wire.toArray)] (by simp only [List.map_toArray]; rfl) [.int .i32 0 :: (ic .u8 (List.replicate 32 0) ++ (ic .u8 (List.replicate 32 0) ++ [.int .i64 0,.int .u32 0,.int .u32 0])),[.slice none 0 0]] (by kernel_rfl) (by simp [offs,Value.cells,Hdr.wire_length Hk.out.hdr,ic]) (k.hdr.wire ++ [Value.slice none 0 0]) (by simp [Value.cells]) ?_
 simp only [Act.put,nA,nB,nC]
 go_wp2_with fail
 have HF3 : Hid (Fr [] w2 (w2.alloc (.cells (k.hdr.wire ++ [Value.slice none 0 0]).toArray 121))) := (Fr.refl _ _).alloc _
 have HM3 : Hid (Blk (w2.alloc (.cells (k.hdr.wire ++ [Value.slice none 0 0]).toArray 121)) w2.heap.size 121 (k.hdr.wire ++ [Value.slice none 0 0])) := Blk.new _ _ _
 generalize World.alloc w2 _ = w3 at HF3 HM3 ⊢
 obtain ⟨M,hM⟩ : ∃ M,M = w2.heap.size := ⟨_,rfl⟩
 rw [← hM] at HM3 ⊢
 have HMM : Hid (w.heap.size < M) := by have := HK1.out.lt; have := HF2.out.size; have := HF1.out.size; rw [hM]; show _ < _; omega
 clear hM
 have HFA : Hid (Fr [] w w3) := (HF1.out.trans HF2.out).trans HF3.out
 have HKA : Hid (Blk w3 w.heap.size 28 c) := HK1.out.fr (HF2.out.trans HF3.out) (by simp)
 clear HF1 HK1 HF2 HB2 HF3
 go_loopg [4] (k.txs.length) (fun gk v4 wr => ∃ i tv',gk = k.txs.length - i ∧ i ≤ k.txs.length ∧ v4 = .int .i64 (i : Int) ∧ Blk wr M 121 (k.hdr.wire ++ [tv']) ∧ Grows w.heap.size 166 1 TxP wr tv' (k.txs.take i) ∧ Fr [] w wr ∧ Blk wr w.heap.size 28 c)
 case atStart => exact ⟨0,_,rfl,Nat.zero_le _,rfl,HM3.out,Grows.nil _,HFA.out,HKA.out⟩
 case round =>
  clear HM3 HFA HKA
  obtain ⟨i,tv',rfl,hi,rfl,hm,hg,hf,hk⟩ := hrel
  obtain ⟨av,cv,rfl⟩ : ∃ av cv,tv' = .slice av i cv := by obtain ⟨a,c,h⟩ := hg.slice; rw [List.length_take_of_le hi] at h; exact ⟨a,c,h⟩
  have hk1 : wr.cell? ⟨w.heap.size,68,none⟩ = some (.slice at' k.txs.length ct) := hk.cell_at (by rw [Hc.out,List.getElem?_append_right (by rw [Hdr.cells_length Hk.out.hdr]; omega),Hdr.cells_length Hk.out.hdr]; rfl)
  have hkl := hk.lt
  have HM := hid hm; clear hm
  have HG := hid hg; clear hg
  have HF := hid hf; clear hf
  have HK := hid hk; clear hk
  have hwl := Hdr.wire_length Hk.out.hdr
  have HWL := hid hwl; clear hwl
  by_cases hlt : i < k.txs.length
  ·have hlti : (i : Int) < k.txs.length := by omega
   obtain ⟨b,off,cap',c',he,hb,hcl,hrg,hE⟩ := HT.out.at hlt (by decide)
   simp only [Value.slice.injEq] at he
   obtain ⟨rfl,_,rfl⟩ := he
   obtain ⟨x,hx⟩ : ∃ x,x = k.txs[i] := ⟨_,rfl⟩
   rw [← hx] at hE
   have HX := hid hx
   have HXO : Hid (x.Ok) := Hk.out.txs x (by rw [hx]; exact List.getElem_mem hlt)
   have HXS : Hid (x.Small) := Hs.out.txs x (by rw [hx]; exact List.getElem_mem hlt)
   clear hx
   have HE : Hid (TxE B wr c' x) := hE.below (HF.out.below.mono hBw)
   have Hcl := hid hcl
   have Hrg : Hid (∀ w',Below B wr w' → w'.rangeAt b (off + i * 4) c') := fun w' hb => hrg w' ((HF.out.below.mono hBw).trans hb)
   clear hE hcl hrg
   go_upto_region 5 with fail
   refine segS_begin (fun w' => FrT 166 wr w' ∧ Below w.heap.size wr w') 15 (by kernel_rfl) ?_
   refine segS_quiet (fuel := 6) (by kernel_rfl) (fun d _ _ _ _ h => by cases d <;> exact h) ⟨(Fr.refl _ _).drew.toT,(Below.refl _ _).drew⟩ [0,1,2,3,4,5,6,7,8,9] _ _ (by kernel_rfl) ?_
   simp only [pickL,nthO]
   refine wpQuiet_rfl (.pointer (some ⟨M,0,none⟩)) rfl (fun _ => rfl) ?_
   simp only [Act.put,nA,nB,nC]
   refine wpQuiet_rfl (.pointer (some ⟨M,0,none⟩)) rfl (fun _ => rfl) ?_
   simp only [Act.put,nA,nB,nC]
   refine wpQuiet_rfl (.pointer (some ⟨M,0,none⟩)) rfl (fun _ => rfl) ?_
   simp only [Act.put,nA,nB,nC]
   refine wpQuiet_rfl (.pointer (some ⟨M,68,none⟩)) rfl (fun _ => rfl) ?_
   simp only [Act.put,nA,nB,nC]
   refine wpQuiet_load1 rfl 119 (.tmp 22) rfl M 68 rfl (.slice av i cv) _ (fun w' hf => (HM.out.frT hf.1 (by decide)).cell_at (by rw [List.getElem?_append_right (by rw [HWL.out]; omega),HWL.out]; rfl)) rfl rfl ?_
   simp only [Act.put,nA,nB,nC]
   refine wpQuiet_rfl (.pointer (some ⟨w.heap.size,68,none⟩)) rfl (fun _ => rfl) ?_
   simp only [Act.put,nA,nB,nC]
   refine wpQuiet_load1 rfl 26 (.tmp 24) rfl w.heap.size 68 rfl (.slice (some ⟨b,off,none⟩) k.txs.length ct) _ (fun w' hf => (HK.out.frT hf.1 (by decide)).cell_at (by rw [Hc.out,List.getElem?_append_right (by rw [Hdr.cells_length Hk.out.hdr]; omega),Hdr.cells_length Hk.out.hdr]; rfl)) rfl rfl ?_
   simp only [Act.put,nA,nB,nC]
   refine wpQuiet_rfl (.int .i64 (i : Int)) rfl (fun _ => rfl) ?_
   simp only [Act.put,nA,nB,nC]
   refine wpQuiet_index rfl 26 (.tmp 25) (.tmp 26) rfl b off k.txs.length ct i 4 .i64 39 rfl rfl hlt (by kernel_rfl) (by kernel_rfl) ?_
   simp only [Act.put,nA,nB,nC]
   refine wpQuiet_load rfl 39 (.tmp 27) rfl b (off + i * 4) rfl c' _ (fun w' hf => Hrg.out w' (hf.2.mono hBw)) rfl rfl (by rw [Hcl.out]; kernel_rfl) ?_
   simp only [Act.put,nA,nB,nC]
   refine wpQuiet_nil ?_
   refine segS_act 10 rfl rfl (by kernel_rfl) ?_
   go_wp2_with fail
   have HB4 : Hid (Below B wr wr.drew) := (Below.refl _ _).drew
   refine (txOf_c wr.drew B (Nat.le_trans hBw HF.out.size) c' x (HE.out.below HB4.out) HXO.out HXS.out).mono ?_
   rintro e w4 ⟨g4,d4,rfl,hf,hg4,hb4,hm4⟩
   have HF4 : Hid (Fr [] wr w4) := (Fr.refl _ _).drew.trans hf
   have HX4 : Hid (TxP w4 [.pointer (some ⟨g4,0,none⟩)] x) := ⟨g4,d4,rfl,hb4.lt,hb4,hm4⟩
   clear hf hg4 hb4 hm4 HB4
   go_wp2_with fail
   refine ⟨fun _ => ⟨HF4.out.toT,HF4.out.below.mono HF.out.size⟩, ?_⟩
   refine segS_act 11 rfl rfl (by kernel_rfl) ?_
   go_wp2_with fail
   have HF5 : Hid (Fr [] w4 (w4.alloc (.cells [.pointer (some ⟨g4,0,none⟩)].toArray 166))) := (Fr.refl _ _).alloc _
   have HP5 : Hid (Blk (w4.alloc (.cells [.pointer (some ⟨g4,0,none⟩)].toArray 166)) w4.heap.size 166 [.pointer (some ⟨g4,0,none⟩)]) := Blk.new _ _ _
   refine ⟨fun _ => ⟨(HF4.out.trans HF5.out).toT,(HF4.out.trans HF5.out).below.mono HF.out.size⟩, ?_⟩
   generalize World.alloc w4 _ = w5 at HF5 HP5 ⊢
   obtain ⟨N5,hN5⟩ : ∃ N5,N5 = w4.heap.size := ⟨_,rfl⟩
   rw [← hN5] at HP5 ⊢
   clear hN5
   have HF5r : Hid (Fr [] wr w5) := HF4.out.trans HF5.out
   have HG5 : Hid (Grows w.heap.size 166 1 TxP w5 (.slice av i cv) (k.txs.take i)) := HG.out.fr HF5r.out (fun _ _ h => h.grow HF5r.out)
   have HX5 : Hid (TxP w5 [.pointer (some ⟨g4,0,none⟩)] x) := HX4.out.grow HF5.out
   have hE5 : ∀ w',FrT 166 w5 w' → Below w.heap.size w5 w' → ∀ c y,TxP w5 c y → TxP w' c y := fun w' hf _ c y h => h.growT hf (by decide) (by decide) (by decide) (by decide) (by decide) (by decide) (by decide)
   have hby : ((k.txs.take i).length + 1) * 8 ≤ 140737488355328 := by have := Hs.out.num; simp; omega
   refine segS_act 12 rfl rfl (by kernel_rfl) ?_
   refine wpList_push2 rfl (.tmp 23) (.tmp 30) 119 rfl 166 1 8 elem119 w.heap.size TxP (.slice av i cv) (k.txs.take i) rfl HG5.out N5 166 [.pointer (some ⟨g4,0,none⟩)] HP5.out rfl rfl (by intro u hu; rw [List.mem_singleton] at hu; subst hu; rfl) hE5 x HX5.out hby (Nat.le_trans HF.out.size HF5r.out.size) ?_
   intro tv2 w6 HG6 HFT6 HFo6 HBl6
   refine wpList_nil ?_
   have HST : Hid (FrT 166 wr w6 ∧ Below w.heap.size wr w6) := ⟨HF5r.out.toT.trans' HFT6.out,(HF5r.out.below.mono HF.out.size).trans HBl6.out⟩
   refine ⟨fun _ => HST.out, ?_⟩
   simp only [Act.put,nA,nB,nC]
   refine segS_act 13 rfl rfl (by kernel_rfl) ?_
   go_wp2_with fail
   refine ⟨fun _ => HST.out, ?_⟩
   refine segS_act 14 rfl rfl (by kernel_rfl) ?_
   go_wp2_with fail
   refine ⟨fun _ => HST.out, ?_⟩
   have HM6 : Hid (Blk w6 M 121 (k.hdr.wire ++ [.slice av i cv])) := HM.out.frT HST.out.1 (by decide)
   have HK6 : Hid (Blk w6 w.heap.size 28 c) := HK.out.frT HST.out.1 (by decide)
   have HF6 : Hid (Fr [] w w6) := (HF.out.trans HF5r.out).andThen HFo6.out (fun k hk => .inr (HG5.out.own k (own1_mem hk)).1)
   obtain ⟨a6,c6,rfl⟩ := HG6.out.slice
   obtain ⟨n6,hn6⟩ : ∃ n6,n6 = (k.txs.take i ++ [x]).length := ⟨_,rfl⟩
   rw [← hn6] at HG6 ⊢
   clear hn6
   have hm6 := HM6.out.lt
   have c6' : w6.cell? ⟨M,68,none⟩ = some (.slice av i cv) := HM6.out.cell_at (by rw [List.getElem?_append_right (by rw [HWL.out]; omega),HWL.out]; rfl)
   have f6 := HM6.out.free 68
   refine segS_act 15 rfl rfl (by kernel_rfl) ?_
   go_wp2_with fail
   refine ⟨fun h => absurd rfl h, ?_⟩
   refine segS_end (by kernel_rfl) ?_
   have HM7 : Hid (Blk (w6.setCell ⟨M,68,none⟩ (.slice a6 n6 c6)) M 121 (k.hdr.wire ++ [.slice a6 n6 c6])) := by
    have := HM6.out.set 68 (.slice a6 n6 c6)
    rwa [List.set_append_right _ _ (by rw [HWL.out]; omega),HWL.out] at this
   have HF7 : Hid (Fr [] w (w6.setCell ⟨M,68,none⟩ (.slice a6 n6 c6))) := ((HF6.out.mono (S' := [M]) (by simp)).setCell _ _ (by simp)).drop (by intro k hk; rw [List.mem_singleton] at hk; subst hk; exact .inr (Nat.le_of_lt HMM.out))
   have HFT7 : Hid (FrT 121 w6 (w6.setCell ⟨M,68,none⟩ (.slice a6 n6 c6))) :=
    Fr.frT (S := [M]) ((Fr.refl _ _).setCell _ _ (by simp)) (fun k hk _ => by rw [List.mem_singleton] at hk; subst hk; exact ⟨_,_,HM6.out⟩)
   have HG7 : Hid (Grows w.heap.size 166 1 TxP (w6.setCell ⟨M,68,none⟩ (.slice a6 n6 c6)) (.slice a6 n6 c6) (k.txs.take i ++ [x])) :=
    HG6.out.frT HFT7.out (by decide) (fun c y h => h.growT HFT7.out (by decide) (by decide) (by decide) (by decide) (by decide) (by decide) (by decide))
   have HK7 := hid (HK6.out.frT HFT7.out (by decide))
   have htk : k.txs.take i ++ [x] = k.txs.take (i + 1) := by rw [List.take_add_one,List.getElem?_eq_getElem hlt,HX.out]; rfl
   rw [htk] at HG7
   clear htk c6' f6 hm6 HG6 hby hE5
   generalize World.setCell w6 _ _ = w7 at HM7 HF7 HG7 HK7 HFT7 ⊢
   have hi6 : (i : Int) ≤ 1000000 := by have := Hs.out.num; omega
   go_wp2_with fail
   go_roundg (k.txs.length - (i + 1))
   case measure => omega
   case rel => exact ⟨i + 1,_,rfl,by omega,by simp,HM7.out,HG7.out,HF7.out,HK7.out⟩
  ·have hT : Hid (k.txs.take i = k.txs) := by show _ = _; rw [show i = k.txs.length by omega,List.take_length]
   go_wp2_with fail
   go_ret
   refine ⟨M,_,rfl,HF.out,Nat.le_of_lt HMM.out,HM.out,_,rfl, ?_⟩
   have := HG.out.listT
   rw [hT.out] at this
   exact this
/-- btcutil's block over a wire block below B. -/
def UBlk (w : World) (g : Nat) (k : Blck) : Prop := ∃ m d,Blk w g 188 (blkNew m) ∧ m < g ∧ Blk w m 121 d ∧ MsgBlockT g w d k
set_option maxRecDepth 8000 in
theorem utilBlock_c (w : World) (B : Nat) (hBw : B ≤ w.heap.size) (c : List Value) (k : Blck) (hc : BlckE B w c k) (hk : k.Ok) (hs : k.Small) :
  Calls Tryz.prog 21 #[.agg c.toArray] w fun e w' => ∃ g,e = .returned (.pointer (some ⟨g,0,none⟩)) ∧ Fr [] w w' ∧ w.heap.size ≤ g ∧ UBlk w' g k := by
 have Hc := hid hc; clear hc
 have Hk := hid hk; clear hk
 have Hs := hid hs; clear hs
 go_enter Tryz.func21,Tryz.ntmps21
 go_upto_region 1 with fail
 have HF1 : Hid (Fr [] w (w.alloc (.cells c.toArray 28))) := (Fr.refl _ _).alloc _
 have HK1 : Hid (Blk (w.alloc (.cells c.toArray 28)) w.heap.size 28 c) := Blk.new _ _ _
 generalize World.alloc w _ = w1 at HF1 HK1 ⊢
 refine wp_region_lit ?_
 refine wpList_load_mid rfl 28 (.tmp 1) rfl w.heap.size 0 rfl c _ HK1.out.range rfl rfl (by obtain ⟨tv,hc,_⟩ := Hc.out; rw [hc,List.length_append,Hdr.cells_length Hk.out.hdr]; kernel_rfl) ?_
 simp only [Act.put,nA,nB,nC]
 go_wp2_with fail
 refine (blockOf_c w1 B (Nat.le_trans hBw HF1.out.size) c k (Hc.out.below (HF1.out.below.mono hBw)) Hk.out Hs.out).mono ?_
 rintro e w2 ⟨m,d,rfl,hf,hg,hb,hm⟩
 have HF2 : Hid (Fr [] w w2) := HF1.out.trans hf
 have HB2 := hid hb
 have HM2 := hid hm
 clear hf hg hb hm
 go_wp2_with fail
 refine (newBlock_c w2 m).mono ?_
 rintro e w3 ⟨rfl,hf,hb⟩
 have HF3 : Hid (Fr [] w w3) := HF2.out.trans hf
 have HU : Hid (UBlk w3 w2.heap.size k) := ⟨m,d,hb,HB2.out.lt,HB2.out.fr hf (by simp),HM2.out.below hf.below⟩
 clear hf hb
 go_wp2_with fail
 go_ret
 exact ⟨_,rfl,HF3.out,HF2.out.size,HU.out⟩
end Go.Proofs.YtdllckiidegpcaaGreat
