/- A part of the walk of laws.FnPartial (part 52): contracts of functions that it comes to, and the plain laws that these lean on. Conditions stand in each contract. -/
import Derived.Test.YtdllckiidegpcaaGreatA20
import Derived.Test.YtdllckiidegpcaaGreatA49
import Derived.Test.YtdllckiidegpcaaGreatA50
import Derived.Test.YtdllckiidegpcaaGreatA51
set_option linter.unusedSimpArgs false
set_option linter.unusedVariables false
set_option maxHeartbeats 4000000
namespace Go.Proofs.YtdllckiidegpcaaGreat
open Go.RowKit
theorem flat_le {α : Type} (f : α → List Int) (g : α → Nat) (l : List α) (h : ∀ x ∈ l,(f x).length ≤ g x) : (l.flatMap f).length ≤ (l.map g).sum := by
 induction l with
 | nil => simp
 | cons x l ih =>
  have h1 := h x (by simp)
  have h2 := ih (fun y hy => h y (by simp [hy]))
  simp only [List.flatMap_cons,List.length_append,List.map_cons,List.sum_cons]; omega
theorem mem_sum {α : Type} (g : α → Nat) (l : List α) (x : α) (h : x ∈ l) : g x ≤ (l.map g).sum := by
 induction l with
 | nil => cases h
 | cons y l ih =>
  simp only [List.map_cons,List.sum_cons]
  rcases List.mem_cons.mp h with rfl | h
  ·omega
  ·have := ih h; omega
theorem len_sum {α : Type} (g : α → Nat) (l : List α) (h : ∀ x ∈ l,1 ≤ g x) : l.length ≤ (l.map g).sum := by
 induction l with
 | nil => simp
 | cons y l ih =>
  have h1 := h y (by simp)
  have h2 := ih (fun y hy => h y (by simp [hy]))
  simp only [List.map_cons,List.sum_cons,List.length_cons]; omega
theorem inB_len {x : TxIn} (h : x.Ok) : (inB x).length ≤ 50 + x.script.length + witSum x.wit := by
 have h1 := h.prev.len
 have h2 := vint_length x.script.length
 simp only [inB,vbytes,List.length_append,le_length,h1]; omega
theorem outB_len (x : TxOut) : (outB x).length ≤ 17 + x.script.length := by
 have h2 := vint_length x.script.length
 simp only [outB,vbytes,List.length_append,le_length]; omega
theorem txB_len {t : Tx} (h : t.Ok) : (txB t).length ≤ txSum t + 8 := by
 have h1 := flat_le inB (fun x => 50 + x.script.length + witSum x.wit) t.ins (fun x hx => inB_len (h.ins x hx))
 have h2 := flat_le outB (fun x => 17 + x.script.length) t.outs (fun x _ => outB_len x)
 have h3 := vint_length t.ins.length
 have h4 := vint_length t.outs.length
 simp only [txB,List.length_append,le_length,txSum,inSum,outSum]; omega
theorem small_of {t : Tx} (h : txSum t ≤ 1000000) : t.Small := by
 unfold txSum at h
 have hi : ∀ x ∈ t.ins,50 + x.script.length + witSum x.wit ≤ inSum t.ins := fun x hx => mem_sum (fun x => 50 + x.script.length + witSum x.wit) t.ins x hx
 have ho : ∀ x ∈ t.outs,17 + x.script.length ≤ outSum t.outs := fun x hx => mem_sum (fun x => 17 + x.script.length) t.outs x hx
 have hw : ∀ x : TxIn,∀ y ∈ x.wit,9 + y.length ≤ witSum x.wit := fun x y hy => mem_sum (fun y => 9 + y.length) x.wit y hy
 refine ⟨?_, ?_, ?_, ?_, ?_, ?_⟩
 ·have := len_sum (fun x : TxIn => 50 + x.script.length + witSum x.wit) t.ins (fun x _ => by omega)
  unfold inSum at h; omega
 ·have := len_sum (fun x : TxOut => 17 + x.script.length) t.outs (fun x _ => by omega)
  unfold outSum at h; omega
 ·intro x hx; have := hi x hx; omega
 ·intro x hx
  have h1 := hi x hx
  have h2 := len_sum (fun y : List Int => 9 + y.length) x.wit (fun y _ => by omega)
  unfold witSum at h1; omega
 ·intro x hx y hy; have := hi x hx; have := hw x y hy; omega
 ·intro x hx; have := ho x hx; omega
theorem blk_tx {l : List Tx} {t : Tx} (h : t ∈ l) : txSum t ≤ blkSum l := by have := mem_sum txSum l t h; unfold blkSum; omega
theorem good_of {f : Blm} (hf : f.Ok) (h : blmB f = true) : FGood f := by
 unfold blmB at h
 have := of_decide_eq_true h
 exact ⟨this.1,by omega,this.2.2.1,this.2.2.2,hf.u8⟩
theorem txsOk_of {l : List Tx} (hk : ∀ t ∈ l,t.Ok) (hs : blkSum l ≤ 100000) (h1 : 1 ≤ l.length) (h2 : l.length ≤ 64) (h3 : ∀ t ∈ l,oddB t = false) : TxsOk l :=
 ⟨h1,h2,fun t ht => ⟨hk t ht,small_of (by have := blk_tx ht; omega),by have := txB_len (hk t ht); have := blk_tx ht; omega,h3 t ht⟩⟩
theorem blckSmall_of {k : Blck} (hs : blkSum k.txs ≤ 100000) (h2 : k.txs.length ≤ 64) : k.Small := ⟨by omega,fun t ht => small_of (by have := blk_tx ht; omega)⟩
theorem b2i_bitAt (l : List Int) (i : Nat) (hu : U8 l) : (bits .and .u8 (nth l (i / 8) / 2 ^ (i % 8)) 1 == 0) = !(bitAt l i) := by
 have hb := hu.bd (i / 8)
 rw [shr_one_bit _ _ hb.1 hb.2]; rfl
theorem and_one_01 (x : Int) (h0 : 0 ≤ x) (h1 : x ≤ 255) : bits .and .u8 x 1 = 0 ∨ bits .and .u8 x 1 = 1 := by
 obtain ⟨n,rfl⟩ := Int.eq_ofNat_of_zero_le h0
 rw [show (1 : Int) = ((1 : Nat) : Int) from rfl,and_u8 n 1 (by omega) (by omega)]
 have : n &&& 1 = n % 2 := Nat.and_one_is_mod n
 rw [this]; omega
section
set_option maxRecDepth 8000
/-- The law's answer. -/
def LawR (w : World) (e : Ending) (w' : World) : Prop := e = .returned (.bool true) ∧ Fr [] w w'
theorem run_and8 {op : Oper} {a : Act} {w : World} (t1 t2 : TypeId) (x : Operand) (ho : op.op = .binOp .and t1 x (.const (.int .u8 1)) t2) (v : Int) (hx : a.eval x = .int .u8 v) : (execOp a.eval op).run Tryz.prog w = .ok (.value (.int .u8 (bits .and .u8 v 1))) w := by
 unfold execOp; simp only [ho,hx]
 rfl
theorem run_eq1 {op : Oper} {a : Act} {w : World} (t1 t2 : TypeId) (x : Operand) (ho : op.op = .binOp .eql t1 x (.const (.int .u8 1)) t2) (v : Int) (hx : a.eval x = .int .u8 v) (b : Bool) (hb : (v == 1) = b) : (execOp a.eval op).run Tryz.prog w = .ok (.value (.bool b)) w := by
 unfold execOp; simp only [ho,hx]
 rw [← hb]; rfl
theorem run_gt2 {op : Oper} {a : Act} {w : World} (t1 t2 : TypeId) (x : Operand) (ho : op.op = .binOp .gtr t1 x (.const (.int .u8 2)) t2) (v : Int) (hx : a.eval x = .int .u8 v) (hv : ¬ 2 < v) : (execOp a.eval op).run Tryz.prog w = .ok (.value (.bool false)) w := by
 have h1 : decide (2 < v) = false := decide_eq_false hv
 unfold execOp; simp only [ho,hx]
 rw [← h1]; rfl
set_option maxHeartbeats 16000000 in
theorem law_c (K : List Int) (hK : K.length = 64) (w : World) (hKc : Blk w 1 379 (ic .u32 K)) (B : Nat) (hBw : B ≤ w.heap.size) (cf : List Value) (f : Blm) (hfo : f.Ok) (hf : BlmE B w cf f) (flag : Int) (hfl : 0 ≤ flag) (ck : List Value) (k : Blck) (hk : k.Ok) (hc : BlckE B w ck k) :
  Calls Tryz.prog 3 #[.agg ck.toArray,.agg cf.toArray,.int .u8 flag] w (LawR w) := by
 have hcfl := hf.len
 have hwl := Hdr.cells_length hk.hdr
 obtain ⟨tv,hck,ht⟩ := hc
 obtain ⟨at',ct,rfl,hq1,hq2⟩ := ht.len
 have hnm : (k.txs.length : Int) ≤ 9223372036854775807 := by have := Nat.le_trans hq1 hq2; unfold maxLen at this; omega
 clear hq1 hq2
 have hc : BlckE B w ck k := ⟨_,hck,ht⟩
 have hckl : ck.length = 69 := by rw [hck,List.length_append,hwl]; rfl
 have h1w : 1 < w.heap.size := hKc.lt
 have Hhk := hid hk; clear hk
 have Hhc := hid hc; clear hc
 have Hhf := hid hf; clear hf
 have Hhfo := hid hfo; clear hfo
 have HhK := hid hK; clear hK
 have HhKc := hid hKc; clear hKc
 have Hhcfl := hid hcfl; clear hcfl
 have Hhckl := hid hckl; clear hckl
 have Hhwl := hid hwl; clear hwl
 have Hht := hid ht; clear ht
 have Hhck := hid hck; clear hck
 have Hh1w := hid h1w; clear h1w
 go_enter Tryz.func3,Tryz.ntmps3
 go_upto_region 1 with fail
 have HF1 : Hid (Fr [] w ((w.alloc (.cells ck.toArray 28)).alloc (.cells cf.toArray 31))) := ((Fr.refl _ _).alloc _).alloc _
 have HB1 : Hid (Blk ((w.alloc (.cells ck.toArray 28)).alloc (.cells cf.toArray 31)) w.heap.size 28 ck) := (Blk.new _ _ _).alloc _
 have HT1 : Hid (Blk ((w.alloc (.cells ck.toArray 28)).alloc (.cells cf.toArray 31)) (w.heap.size + 1) 31 cf) := by
  have := Blk.new (w.alloc (.cells ck.toArray 28)) cf 31
  rwa [show (w.alloc (.cells ck.toArray 28)).heap.size = w.heap.size + 1 by simp] at this
 change Code.wp _ _ _ _ ((w.alloc (.cells ck.toArray 28)).alloc (.cells cf.toArray 31))
 generalize World.alloc (World.alloc w _) _ = w1 at HF1 HB1 HT1 ⊢
 obtain ⟨T,hT⟩ : ∃ T,T = w.heap.size := ⟨_,rfl⟩
 rw [← hT] at HB1 HT1 ⊢
 obtain ⟨F,hF⟩ : ∃ F,F = T + 1 := ⟨_,rfl⟩
 rw [← hF] at HT1 ⊢
 clear hT hF
 refine wp_region_lit ?_
 refine wpList_load_mid rfl 28 (.tmp 3) rfl T 0 rfl (ck) _ (HB1.out.range) rfl rfl (by rw [Hhckl.out]; kernel_rfl) ?_
 simp only [Act.put,nA,nB,nC]
 go_wp2_with fail
 refine (fits8_c w1 B (Nat.le_trans hBw HF1.out.size) ck k Hhk.out.hdr Hhk.out.txs (Hhc.out.below (HF1.out.below.mono hBw))).mono ?_
 rintro e w2 ⟨b1,rfl,hf⟩
 have HF2 : Hid (Fr [] w1 w2) := hf
 clear hf
 cases b1
 ·skip
  go_wp2_with fail
  go_ret
  exact ⟨rfl,HF1.out.trans HF2.out⟩
 simp only []
 refine (‹∀ (a : Act) (w : World),wpList Tryz.prog _ _ _ a w → _›) _ _ ?_
 refine wpList_run (v := .bool false) rfl rfl ?_
 simp only [Act.put,nA,nB,nC]
 refine wpList_run (v := .bool false) rfl rfl ?_
 simp only [Act.put,nA,nB,nC]
 refine wpList_g rfl ?_
 refine wpList_load_mid rfl 31 (.tmp 4) rfl F 0 rfl (cf) _ ((HT1.out.fr HF2.out (by simp)).range) rfl rfl (by rw [Hhcfl.out]; kernel_rfl) ?_
 simp only [Act.put,nA,nB,nC]
 go_wp2_with fail
 refine (fits14_c w2 B cf f (Hhf.out.below ((HF1.out.trans HF2.out).below.mono hBw))).mono ?_
 rintro e w3 ⟨b2,rfl,hf⟩
 have HF3 : Hid (Fr [] w1 w3) := HF2.out.trans hf
 clear hf HF2
 cases b2
 ·skip
  go_wp2_with fail
  go_ret
  exact ⟨rfl,HF1.out.trans HF3.out⟩
 go_upto_region 3 with fail
 refine wp_region_lit ?_
 refine wpList_load_mid rfl 31 (.tmp 4) rfl F 0 rfl (cf) _ ((HT1.out.fr HF3.out (by simp)).range) rfl rfl (by rw [Hhcfl.out]; kernel_rfl) ?_
 simp only [Act.put,nA,nB,nC]
 go_wp2_with fail
 refine (bloom_c w3 B cf f Hhfo.out (Hhf.out.below ((HF1.out.trans HF3.out).below.mono hBw))).mono ?_
 rintro e w4 ⟨rfl,hf⟩
 have HF4 : Hid (Fr [] w1 w4) := HF3.out.trans hf
 clear hf HF3
 cases hbl : blmB f
 ·skip
  go_wp2_with fail
  go_ret
  exact ⟨rfl,HF1.out.trans HF4.out⟩
 have Hg : Hid (FGood f) := good_of Hhfo.out hbl
 clear hbl
 by_cases hf2 : flag ≤ 2
 rotate_left
 ·have hf3 : (2 : Int) < flag := by omega
  go_wp2_with fail
  go_ret
  exact ⟨rfl,HF1.out.trans HF4.out⟩
 have hfl2 : Hid (0 ≤ flag ∧ flag ≤ 2) := ⟨hfl,hf2⟩
 have hf3 : ¬ ((2 : Int) < flag) := by omega
 simp only []
 refine (‹∀ (a : Act) (w : World),wpList Tryz.prog _ _ _ a w → _›) _ _ ?_
 refine wpList_run (v := .bool false) rfl rfl ?_
 simp only [Act.put,nA,nB,nC]
 refine wpList_run (v := .bool false) rfl rfl ?_
 simp only [Act.put,nA,nB,nC]
 refine wpList_g rfl ?_
 refine wpList_run (v := .int .u8 flag) rfl rfl ?_
 simp only [Act.put,nA,nB,nC]
 refine wpList_g rfl ?_
 refine wpList_run (v := .bool false) (w' := w4) rfl (run_gt2 5 5 (.tmp 29) rfl flag rfl hf3) ?_
 simp only [Act.put,nA,nB,nC]
 refine wpList_run (v := .bool false) rfl rfl ?_
 simp only [Act.put,nA,nB,nC]
 refine wpList_run (v := .bool false) rfl rfl ?_
 simp only [Act.put,nA,nB,nC]
 refine wpList_g rfl ?_
 refine wpList_load_mid rfl 28 (.tmp 3) rfl T 0 rfl (ck) _ ((HB1.out.fr HF4.out (by simp)).range) rfl rfl (by rw [Hhckl.out]; kernel_rfl) ?_
 simp only [Act.put,nA,nB,nC]
 go_wp2_with fail
 refine (blockSize_c w4 B (Nat.le_trans hBw (Nat.le_trans HF1.out.size HF4.out.size)) ck k Hhk.out.hdr Hhk.out.txs (Hhc.out.below ((HF1.out.trans HF4.out).below.mono hBw))).mono ?_
 rintro e w5 ⟨bs,rfl,hsat,hf⟩
 have HF5 : Hid (Fr [] w1 w5) := HF4.out.trans hf
 clear hf HF4
 by_cases hbs : bs ≤ 100000
 rotate_left
 ·have hbs2 : (100000 : Int) < bs := by omega
  clear hsat
  go_wp2_with fail
  go_ret
  exact ⟨rfl,HF1.out.trans HF5.out⟩
 have hbs2 : ¬ ((100000 : Int) < bs) := by omega
 have HBs : Hid (blkSum k.txs ≤ 100000) := by have h := hsat.2.2 hbs; have h0 := hsat.1; show _ ≤ _; omega
 clear hsat hbs
 have HT5 := hid (HT1.out.fr HF5.out (by simp))
 have HB5 := hid (HB1.out.fr HF5.out (by simp))
 have c68 : w5.cell? ⟨T,68,none⟩ = some (.slice at' k.txs.length ct) := HB5.out.cell_at (by rw [Hhck.out,List.getElem?_append_right (by rw [Hhwl.out]; omega),Hhwl.out]; rfl)
 have hTl := HB5.out.lt
 by_cases hn0 : (k.txs.length : Int) = 0
 ·have hn0' : ((k.txs.length : Int) == 0) = true := by rw [hn0]; rfl
  go_wp2_with fail
  go_ret
  exact ⟨rfl,HF1.out.trans HF5.out⟩
 have hn0' : ((k.txs.length : Int) == 0) = false := beq_false_of_ne hn0
 by_cases hn64 : (k.txs.length : Int) ≤ 64
 rotate_left
 ·have hn65 : (64 : Int) < k.txs.length := by omega
  go_wp2_with fail
  go_ret
  exact ⟨rfl,HF1.out.trans HF5.out⟩
 have hn65 : ¬ ((64 : Int) < k.txs.length) := by omega
 clear hnm
 have HN1 : Hid (1 ≤ k.txs.length ∧ k.txs.length ≤ 64) := by show _ ∧ _; omega
 go_wp2_with fail
 clear c68 hTl hn0 hn0' hn65 hbs2
 have HSc : Hid (∀ t ∈ k.txs,∀ o ∈ t.outs,o.script.length ≤ 1000000) := fun t ht o ho => (blckSmall_of HBs.out HN1.out.2).txs t ht |>.oscript o ho
 go_loopg [7] (k.txs.length) (fun gk v7 wr => ∃ i : Nat,gk = k.txs.length - i ∧ i ≤ k.txs.length ∧ v7 = .int .i64 (i : Int) ∧ Fr [] w5 wr ∧ Hid (∀ j (h : j < k.txs.length),j < i → oddB k.txs[j] = false))
 case atStart => exact ⟨0,rfl,Nat.zero_le _,rfl,Fr.refl _ _,fun j _ h => absurd h (by omega)⟩
 case round =>
  obtain ⟨i,rfl,hi,rfl,hf,HO⟩ := hrel
  have HF := hid hf
  clear hf
  have HBr := hid (HB5.out.fr HF.out (by simp))
  have HTr := hid (HT5.out.fr HF.out (by simp))
  have HFwr : Hid (Fr [] w wr) := HF1.out.trans (HF5.out.trans HF.out)
  have c68 : wr.cell? ⟨T,68,none⟩ = some (.slice at' k.txs.length ct) := HBr.out.cell_at (by rw [Hhck.out,List.getElem?_append_right (by rw [Hhwl.out]; omega),Hhwl.out]; rfl)
  have hTl := HBr.out.lt
  by_cases hlt : i < k.txs.length
  ·have hli : (i : Int) < k.txs.length := by omega
   obtain ⟨b,off,cap',c,he,hb,hcl,hrg,hE⟩ := Hht.out.at hlt (by decide)
   simp only [Value.slice.injEq] at he
   obtain ⟨rfl,_,rfl⟩ := he
   have HRg := hid (hrg wr (HFwr.out.below.mono hBw)); clear hrg
   have HE := hid (hE.below (HFwr.out.below.mono hBw)); clear hE
   have HCl := hid hcl; clear hcl hb
   have HOd := hid (odd_c wr B (Nat.le_trans hBw HFwr.out.size) c k.txs[i] (Hhk.out.txs _ (List.getElem_mem hlt)) (HSc.out _ (List.getElem_mem hlt)) HE.out)
   have HC68 := hid c68
   go_upto_region 8 with fail
   clear c68
   refine wp_region_lit ?_
   refine wpList_run (v := .pointer (some ⟨T,68,none⟩)) rfl rfl ?_
   simp only [Act.put,nA,nB,nC]
   refine wpList_load1 rfl 26 (.tmp 56) rfl T 68 rfl (.slice (some ⟨b,off,none⟩) k.txs.length ct) _ (HC68.out) rfl rfl ?_
   simp only [Act.put,nA,nB,nC]
   refine wpList_run (v := .int .i64 (i : Int)) rfl rfl ?_
   simp only [Act.put,nA,nB,nC]
   refine wpList_index rfl 26 (.tmp 57) (.tmp 58) rfl b off k.txs.length ct i 4 .i64 39 rfl rfl hlt (by kernel_rfl) (by kernel_rfl) ?_
   simp only [Act.put,nA,nB,nC]
   refine wpList_load_mid rfl 39 (.tmp 59) rfl b (off + i * 4) rfl (c) _ (HRg.out) rfl rfl (by rw [HCl.out]; kernel_rfl) ?_
   simp only [Act.put,nA,nB,nC]
   go_wp2_with fail
   refine HOd.out.mono ?_
   rintro e w6 ⟨rfl,hf⟩
   have HF6 : Hid (Fr [] w5 w6) := HF.out.trans hf
   clear hf HOd
   generalize Value.agg c.toArray = Vc
   cases hod : oddB k.txs[i]
   ·have HO6 : Hid (∀ j (h : j < k.txs.length),j < i + 1 → oddB k.txs[j] = false) := by
     intro j hj hji
     by_cases e : j = i
     ·subst e; exact hod
     ·exact HO.out j hj (by omega)
    clear hod
    go_wp2_with fail
    go_roundg (k.txs.length - (i + 1))
    case measure => omega
    case rel => exact ⟨i + 1,rfl,by omega,by simp,HF6.out,HO6⟩
   ·clear hod
    go_wp2_with fail
    go_ret
    exact ⟨rfl,HF1.out.trans (HF5.out.trans HF6.out)⟩
  ·have hie : i = k.txs.length := by omega
   have hli : ¬ ((i : Int) < k.txs.length) := by omega
   have HOk : Hid (TxsOk k.txs) := txsOk_of Hhk.out.txs HBs.out HN1.out.1 HN1.out.2 (by
    intro t ht
    obtain ⟨j,hj,rfl⟩ := List.getElem_of_mem ht
    exact HO.out j hj (by omega))
   have HSm : Hid k.Small := blckSmall_of HBs.out HN1.out.2
   clear HO HSc
   obtain ⟨hs,hhs⟩ : ∃ hs,hs = k.txs.map (txH K) := ⟨_,rfl⟩
   obtain ⟨mk,hmk⟩ : ∃ mk,mk = (mFold K flag f k.txs k.txs.length).1 := ⟨_,rfl⟩
   obtain ⟨ms,hms⟩ : ∃ ms,ms = idxs mk := ⟨_,rfl⟩
   obtain ⟨fin,hfin⟩ : ∃ fin,fin = (trav K hs mk (hgt k.txs.length) 0).2 := ⟨_,rfl⟩
   obtain ⟨tb,hbits⟩ : ∃ tb,tb = (trav K hs mk (hgt k.txs.length) 0).1 := ⟨_,rfl⟩
   obtain ⟨py,hpy⟩ : ∃ py,py = pack tb tb.length := ⟨_,rfl⟩
   have HhL : Hid (hs.length = k.txs.length) := by show _ = _; rw [hhs,List.length_map]
   have Hh32 : Hid (∀ x ∈ hs,x.length = 32) := by intro x hx; rw [hhs] at hx; obtain ⟨t,_,rfl⟩ := List.mem_map.mp hx; exact H2_length _ _
   have HmL : Hid (mk.length = k.txs.length) := by show _ = _; rw [hmk]; exact mFold_len (Nat.le_refl _)
   have Hw0 : Hid (0 < wid hs.length (hgt k.txs.length)) := by
    show _ < _
    rw [HhL.out]; unfold wid
    have h1 : 0 < 2 ^ hgt k.txs.length := Nat.pos_of_ne_zero (by simp)
    have h2 := HOk.out.1
    exact Nat.div_pos (by omega) h1
   have Hf32 : Hid (∀ x ∈ fin,x.length = 32) := by rw [hfin]; exact trav_32 Hh32.out _ _ _ Hw0.out
   have H01 : Hid (∀ x ∈ tb,x = 0 ∨ x = 1) := by rw [hbits]; exact trav_01 _ _ _ _ _
   have HLn : Hid (fin.length ≤ 1000 ∧ tb.length ≤ 1000) := by
    have h1 := trav_len K hs mk (hgt k.txs.length) 0
    have h2 : 2 ^ (hgt k.txs.length + 1) ≤ 2 ^ 7 := Nat.pow_le_pow_right (by omega) (by have := hgt_le k.txs.length; omega)
    rw [← hfin,← hbits] at h1
    show _ ∧ _; omega
   have HPl : Hid (py.length = (tb.length + 7) / 8) := by show _ = _; rw [hpy,pack_length]
   have HPu : Hid (U8 py) := by rw [hpy]; exact pack_u8 _ _
   have HUn : Hid (unpack py (8 * py.length) = tb ++ List.replicate (8 * ((tb.length + 7) / 8) - tb.length) 0) := by show _ = _; rw [HPl.out,hpy]; exact unpack_pack _ H01.out
   have HmsL : Hid (ms.length ≤ 64) := by have := idxs_len mk; rw [HmL.out] at this; have := HN1.out.2; show _ ≤ _; rw [hms]; omega
   have HPb1 : Hid (∀ w e w',PbR K flag f k w e w' → ∃ ha da ba mv,e = .returned (.tuple #[.agg (msgC mbName ha da ba k.txs.length).toArray,mv]) ∧ Fr [] w w' ∧ ListT w'.heap.size 22 32 HashE w' ha fin ∧ ListT w'.heap.size 25 68 HdrE w' da [k.hdr] ∧ Bytes w' ba py ∧ ba.oneCell' = true ∧ Ints .i64 w' mv ms) := by
    rintro w e w' ⟨c,mv,he,hf,⟨⟨ha,da,ba,rfl,h1,h2,h3,h4⟩,h5⟩⟩
    rw [← hhs,← hmk,← hbits,← hfin,← hpy,← hms] at *
    exact ⟨ha,da,ba,mv,he,hf,h1,h2,h3,h4,h5⟩
   have Hhs := hid hhs; clear hhs
   have Hfin := hid hfin; clear hfin
   have Hbits := hid hbits; clear hbits
   have Hms := hid hms; clear hms
   clear hmk hpy
   have HKr : Hid (Blk wr 1 379 (ic .u32 K)) := HhKc.out.fr HFwr.out (by simp)
   have hBwr : B ≤ wr.heap.size := Nat.le_trans hBw HFwr.out.size
   have HPo := hid (partialOf_c K HhK.out wr HKr.out B hBwr (HKr.out.lt) cf f (Hhf.out.below (HFwr.out.below.mono hBw)) Hg.out flag hfl2.out ck k Hhk.out HSm.out HOk.out (Hhc.out.below (HFwr.out.below.mono hBw)))
   have HTr2 := hid (HTr.out)
   go_upto_region 10 with fail
   refine wp_region_lit ?_
   refine wpList_load_mid rfl 28 (.tmp 3) rfl T 0 rfl (ck) _ (HBr.out.range) rfl rfl (by rw [Hhckl.out]; kernel_rfl) ?_
   simp only [Act.put,nA,nB,nC]
   refine wpList_load_mid rfl 31 (.tmp 4) rfl F 0 rfl (cf) _ (HTr.out.range) rfl rfl (by rw [Hhcfl.out]; kernel_rfl) ?_
   simp only [Act.put,nA,nB,nC]
   refine wpList_run (v := .int .u8 flag) rfl rfl ?_
   simp only [Act.put,nA,nB,nC]
   go_wp2_with fail
   refine HPo.out.mono ?_
   intro e w6 h
   obtain ⟨ha,da,ba,m1,rfl,hf,hLa,hDa,hBa,hOa,hMa⟩ := HPb1.out _ _ _ h
   clear h HPo
   have HF6 := hid hf
   have HLa := hid hLa
   have HDa := hid hDa
   have HBa := hid hBa
   have HOa := hid hOa
   have HMa := hid hMa
   clear hf hLa hDa hBa hOa hMa
   simp only []
   refine (‹∀ (a : Act) (w : World),wpList Tryz.prog _ _ _ a w → _›) _ _ ?_
   refine wpList_run (v := .tuple #[.agg (msgC mbName ha da ba k.txs.length).toArray,m1]) rfl rfl ?_
   simp only [Act.put,nA,nB,nC]
   refine wpList_run (v := .agg (msgC mbName ha da ba k.txs.length).toArray) rfl rfl ?_
   simp only [Act.put,nA,nB,nC]
   refine wpList_run (v := m1) rfl rfl ?_
   simp only [Act.put,nA,nB,nC]
   refine wpList_new rfl rfl 45 (.tmp 67) 8 rfl rfl rfl rfl (by simp [Act.put]) (msgC mbName ha da ba k.txs.length) msgZ.flatten (fun _ => rfl) (by rw [msgC_length]; kernel_rfl) (fun _ => rfl) (by rw [msgC_length]; simp [msgZ,z32]) (msgC_one HLa.out.one HDa.out.one HOa.out) ?_
   simp only [Act.put,nA,nB,nC]
   refine wpList_run (v := m1) rfl rfl ?_
   simp only [Act.put,nA,nB,nC]
   refine wpList_nil ?_
   try simp only [Exit.then]
   have HF7 : Hid (Fr [] wr (w6.alloc (.cells (msgC mbName ha da ba k.txs.length).toArray 45))) := HF6.out.alloc _
   have H67 : Hid (Fr [] w6 (w6.alloc (.cells (msgC mbName ha da ba k.txs.length).toArray 45))) := (Fr.refl _ _).alloc _
   have HA7 : Hid (Blk (w6.alloc (.cells (msgC mbName ha da ba k.txs.length).toArray 45)) w6.heap.size 45 (msgC mbName ha da ba k.txs.length)) := Blk.new _ _ _
   generalize World.alloc w6 _ = w7 at HF7 H67 HA7 ⊢
   obtain ⟨A,hA⟩ : ∃ A,A = w6.heap.size := ⟨_,rfl⟩
   rw [← hA] at HA7 ⊢
   clear hA
   generalize Value.agg (msgC mbName ha da ba k.txs.length).toArray = VA
   generalize Value.agg ck.toArray = Vk
   generalize Value.agg cf.toArray = Vf
   have HFw7 : Hid (Fr [] w w7) := HFwr.out.trans HF7.out
   have HPB := hid (partialBlock_c K HhK.out w7 (HhKc.out.fr HFw7.out (by simp)) B (Nat.le_trans hBw HFw7.out.size) cf f (Hhf.out.below (HFw7.out.below.mono hBw)) Hg.out flag hfl2.out ck k Hhk.out.hdr HOk.out (Hhc.out.below (HFw7.out.below.mono hBw)))
   go_upto_region 11 with fail
   refine wp_region_lit ?_
   refine wpList_load_mid rfl 31 (.tmp 4) rfl F 0 rfl (cf) _ ((HTr.out.fr HF7.out (by simp)).range) rfl rfl (by rw [Hhcfl.out]; kernel_rfl) ?_
   simp only [Act.put,nA,nB,nC]
   refine wpList_run (v := .int .u8 flag) rfl rfl ?_
   simp only [Act.put,nA,nB,nC]
   refine wpList_load_mid rfl 28 (.tmp 3) rfl T 0 rfl (ck) _ ((HBr.out.fr HF7.out (by simp)).range) rfl rfl (by rw [Hhckl.out]; kernel_rfl) ?_
   simp only [Act.put,nA,nB,nC]
   go_wp2_with fail
   refine HPB.out.mono ?_
   intro e w8 h
   obtain ⟨hb,db,bb,m2,rfl,hf,hLb,hDb,hBb,hOb,hMb⟩ := HPb1.out _ _ _ h
   clear h HPB
   have HF8 := hid hf
   have HLb := hid hLb
   have HDb := hid hDb
   have HBb := hid hBb
   have HOb := hid hOb
   have HMb := hid hMb
   clear hf hLb hDb hBb hOb hMb
   simp only []
   refine (‹∀ (a : Act) (w : World),wpList Tryz.prog _ _ _ a w → _›) _ _ ?_
   refine wpList_run (v := .tuple #[.agg (msgC mbName hb db bb k.txs.length).toArray,m2]) rfl rfl ?_
   simp only [Act.put,nA,nB,nC]
   refine wpList_run (v := .agg (msgC mbName hb db bb k.txs.length).toArray) rfl rfl ?_
   simp only [Act.put,nA,nB,nC]
   refine wpList_run (v := m2) rfl rfl ?_
   simp only [Act.put,nA,nB,nC]
   refine wpList_new rfl rfl 45 (.tmp 74) 10 rfl rfl rfl rfl (by simp [Act.put]) (msgC mbName hb db bb k.txs.length) msgZ.flatten (fun _ => rfl) (by rw [msgC_length]; kernel_rfl) (fun _ => rfl) (by rw [msgC_length]; simp [msgZ,z32]) (msgC_one HLb.out.one HDb.out.one HOb.out) ?_
   simp only [Act.put,nA,nB,nC]
   refine wpList_run (v := m2) rfl rfl ?_
   simp only [Act.put,nA,nB,nC]
   refine wpList_nil ?_
   try simp only [Exit.then]
   have H89 : Hid (Fr [] w8 (w8.alloc (.cells (msgC mbName hb db bb k.txs.length).toArray 45))) := (Fr.refl _ _).alloc _
   have HD9 : Hid (Blk (w8.alloc (.cells (msgC mbName hb db bb k.txs.length).toArray 45)) w8.heap.size 45 (msgC mbName hb db bb k.txs.length)) := Blk.new _ _ _
   generalize World.alloc w8 _ = w9 at H89 HD9 ⊢
   obtain ⟨D,hD⟩ : ∃ D,D = w8.heap.size := ⟨_,rfl⟩
   rw [← hD] at HD9 ⊢
   clear hD
   have H69 : Hid (Fr [] w6 w9) := H67.out.trans (HF8.out.trans H89.out)
   have HFr9 : Hid (Fr [] wr w9) := HF6.out.trans H69.out
   have HA9 : Hid (Blk w9 A 45 (msgC mbName ha da ba k.txs.length)) := HA7.out.fr (HF8.out.trans H89.out) (by simp)
   have HLa9 : Hid (ListT w9.heap.size 22 32 HashE w9 ha fin) := (HLa.out.below H69.out.below (fun _ _ h => h)).mono H69.out.size (fun _ _ h => h)
   have HDa9 : Hid (ListT w9.heap.size 25 68 HdrE w9 da [k.hdr]) := (HDa.out.below H69.out.below (fun _ _ h => h)).mono H69.out.size (fun _ _ h => h)
   have HBa9 : Hid (Bytes w9 ba py) := Rd.below HBa.out H69.out.below
   have HMa9 : Hid (Ints .i64 w9 m1 ms) := Rd.below HMa.out H69.out.below
   have HLb9 : Hid (ListT w9.heap.size 22 32 HashE w9 hb fin) := (HLb.out.below H89.out.below (fun _ _ h => h)).mono H89.out.size (fun _ _ h => h)
   have HDb9 : Hid (ListT w9.heap.size 25 68 HdrE w9 db [k.hdr]) := (HDb.out.below H89.out.below (fun _ _ h => h)).mono H89.out.size (fun _ _ h => h)
   have HBb9 : Hid (Bytes w9 bb py) := Rd.below HBb.out H89.out.below
   have HMb9 : Hid (Ints .i64 w9 m2 ms) := Rd.below HMb.out H89.out.below
   have HBr9 := hid (HBr.out.fr HFr9.out (by simp))
   have HFw9 : Hid (Fr [] w w9) := HFwr.out.trans HFr9.out
   clear HLa HDa HBa HMa HLb HDb HBb HMb HBr HTr HTr2 HA7 HF6 HF7 HF8 H67 H89 H69 c68 hTl HFw7 HT5 HB5 HF
   generalize Value.agg (msgC mbName hb db bb k.txs.length).toArray = VB
   generalize Value.agg ck.toArray = Vk2
   generalize Value.agg cf.toArray = Vf2
   have HSm9 := hid (sameMsg_c w9 k.txs.length ha da ba hb db bb fin k.hdr Hhk.out.hdr py Hf32.out (by have := HLn.out; omega) (by have := HLn.out; have := HPl.out; omega) HLa9.out HLb9.out HDa9.out HDb9.out HBa9.out HBb9.out)
   go_upto_region 12 with fail
   refine wp_region_lit ?_
   refine wpList_load_mid rfl 45 (.tmp 8) rfl A 0 rfl ((msgC mbName ha da ba k.txs.length)) _ (HA9.out.range) rfl rfl (by rw [msgC_length]; kernel_rfl) ?_
   simp only [Act.put,nA,nB,nC]
   refine wpList_load_mid rfl 45 (.tmp 10) rfl D 0 rfl ((msgC mbName hb db bb k.txs.length)) _ (HD9.out.range) rfl rfl (by rw [msgC_length]; kernel_rfl) ?_
   simp only [Act.put,nA,nB,nC]
   go_wp2_with fail
   refine HSm9.out.mono ?_
   rintro e w10 ⟨rfl,hf⟩
   have HF10 : Hid (Fr [] w9 w10) := hf
   clear hf HSm9
   simp only []
   refine (‹∀ (a : Act) (w : World),wpList Tryz.prog _ _ _ a w → _›) _ _ ?_
   generalize Value.agg (msgC mbName ha da ba k.txs.length).toArray = VA2
   generalize Value.agg (msgC mbName hb db bb k.txs.length).toArray = VB2
   refine wpList_run (v := .bool false) rfl rfl ?_
   simp only [Act.put,nA,nB,nC]
   refine wpList_run (v := .bool false) rfl rfl ?_
   simp only [Act.put,nA,nB,nC]
   refine wpList_g rfl ?_
   refine wpList_run (v := m1) rfl rfl ?_
   simp only [Act.put,nA,nB,nC]
   refine wpList_g rfl ?_
   refine wpList_run (v := m2) rfl rfl ?_
   simp only [Act.put,nA,nB,nC]
   have HSi := hid (sameInts_t w10 m1 m2 ms (Rd.below HMa9.out HF10.out.below) (Rd.below HMb9.out HF10.out.below) (by have := HmsL.out; omega))
   go_wp2_with fail
   refine HSi.out.mono ?_
   rintro e w11 ⟨rfl,hf⟩
   have HF11 : Hid (Fr [] w9 w11) := HF10.out.trans hf
   clear hf HSi HF10
   have HA11 := hid (HA9.out.fr HF11.out (by simp))
   have HB11 := hid (HBr9.out.fr HF11.out (by simp))
   have cA147 : w11.cell? ⟨A,147,none⟩ = some (.int .u32 k.txs.length) := HA11.out.cell_at rfl
   have c68 : w11.cell? ⟨T,68,none⟩ = some (.slice at' k.txs.length ct) := HB11.out.cell_at (by rw [Hhck.out,List.getElem?_append_right (by rw [Hhwl.out]; omega),Hhwl.out]; rfl)
   have hAl := HA11.out.lt
   have hTl := HB11.out.lt
   have hn6 : (k.txs.length : Int) ≤ 64 := by have := HN1.out.2; omega
   have HLa11 : Hid (ListT w11.heap.size 22 32 HashE w11 ha fin) := (HLa9.out.below HF11.out.below (fun _ _ h => h)).mono HF11.out.size (fun _ _ h => h)
   have HBa11 : Hid (Bytes w11 ba py) := Rd.below HBa9.out HF11.out.below
   have HMa11 : Hid (Ints .i64 w11 m1 ms) := Rd.below HMa9.out HF11.out.below
   have HFw11 : Hid (Fr [] w w11) := HFw9.out.trans HF11.out
   have hal := HLa11.out.listB (E' := HashE) (fun _ _ h => h)
   obtain ⟨aH,cH,rfl,hq1,hq2⟩ := hal.len
   clear hq1 hq2 hal
   obtain ⟨aB,cB,rfl,hq1,hq2,hbc⟩ := ints_cases HBa11.out
   have HBc := hid hbc
   clear hq1 hq2 hbc
   have cA4 : w11.cell? ⟨A,4,none⟩ = some (.slice aH fin.length cH) := HA11.out.cell_at rfl
   clear HLa9 HDa9 HBa9 HMa9 HLb9 HDb9 HBb9 HMb9 HD9 HA9 HBr9 HFw9 HF11 HFr9 HFwr
   go_upto_region 15 with fail
   have HPn : Hid (Blk (w11.alloc (.cells #[.int .i64 k.txs.length,.slice none 0 0,.slice aH fin.length cH] 55)) w11.heap.size 55 [.int .i64 k.txs.length,.slice none 0 0,.slice aH fin.length cH]) := Blk.new _ _ _
   have HF12 : Hid (Fr [] w11 (w11.alloc (.cells #[.int .i64 k.txs.length,.slice none 0 0,.slice aH fin.length cH] 55))) := (Fr.refl _ _).alloc _
   generalize World.alloc w11 _ = w12 at HPn HF12 ⊢
   obtain ⟨P,hP⟩ : ∃ P,P = w11.heap.size := ⟨_,rfl⟩
   rw [← hP] at HPn ⊢
   have HPw : Hid (w11.heap.size ≤ P) := by show _ ≤ _; omega
   clear hP cA147 c68 cA4 hAl hTl
   have hpl : (py.length : Int) ≤ 1000 := by have := HLn.out; have := HPl.out; omega
   go_wp2_with fail
   go_loopg [13] (8 * py.length) (fun gk v13 wl => ∃ (i : Nat) (u : Value),gk = 8 * py.length - i ∧ i ≤ 8 * py.length ∧ v13 = .int .i64 (i : Int) ∧ Blk wl P 55 [.int .i64 k.txs.length,u,.slice aH fin.length cH] ∧ Grows w11.heap.size 4 1 BoolE wl u (unpack py i) ∧ Fr [] w11 wl)
   case atStart => exact ⟨0,_,rfl,Nat.zero_le _,rfl,HPn.out,Grows.nil _,HF12.out⟩
   case round =>
    clear HPn HF12
    obtain ⟨wl,hwl⟩ : ∃ wl,wl = wr := ⟨_,rfl⟩
    subst hwl
    obtain ⟨i,u,rfl,hi,rfl,hp,hg,hf⟩ := hrel
    have HP := hid hp; clear hp
    have HG := hid hg; clear hg
    have HF := hid hf; clear hf
    have HAl := hid (HA11.out.fr HF.out (by simp))
    have cA144 : wl.cell? ⟨A,144,none⟩ = some (.slice aB py.length cB) := HAl.out.cell_at rfl
    have hAl := HAl.out.lt
    obtain ⟨L,hL⟩ : ∃ L,L = unpack py i := ⟨_,rfl⟩
    have HLl : Hid (L.length = i) := by show _ = _; rw [hL,unpack_length]
    rw [← hL] at HG
    obtain ⟨au,cu,rfl⟩ := HG.out.slice
    by_cases hlt : i < 8 * py.length
    ·have hli : (i : Int) < 8 * (py.length : Int) := by omega
     have hi8 : i / 8 < py.length := by omega
     rcases HBc.out with ⟨_,_,hcs⟩ | ⟨b2,off2,rfl,hb2,hcs⟩
     ·exfalso; rw [hcs] at hlt; simp at hlt
     have Hy : Hid (∀ w',Fr (own1 (.slice au L.length cu)) wl w' → w'.cell? ⟨b2,off2 + i / 8,none⟩ = some (.int .u8 (nth py (i / 8)))) := by
      intro w' hf
      have hown : b2 ∉ own1 (.slice au L.length cu) := fun hm => by have := (HG.out.ownBlk b2 hm).1; omega
      rw [hf.cells.1 _ _ (Nat.lt_of_lt_of_le hb2 HF.out.size) hown,HF.out.cells.1 _ _ hb2 (by simp),hcs _ hi8]
     have HAo : Hid (A ∉ own1 (.slice au L.length cu)) := fun hm => by have := (HG.out.ownBlk A hm).1; have := HA11.out.lt; omega
     have HPo : Hid (P ∉ own1 (.slice au L.length cu)) := fun hm => by obtain ⟨_,xs,hb⟩ := HG.out.ownBlk P hm; exact absurd rfl (blk_ne HP.out hb (by decide))
     have HcA : Hid (∀ w',Fr (own1 (.slice au L.length cu)) wl w' → w'.cell? ⟨A,144,none⟩ = some (.slice (some ⟨b2,off2,none⟩) py.length cB)) := fun w' hf => (HAl.out.fr hf HAo.out).cell_at rfl
     have HcP : Hid (∀ w',Fr (own1 (.slice au L.length cu)) wl w' → w'.cell? ⟨P,1,none⟩ = some (.slice au L.length cu)) := fun w' hf => (HP.out.fr hf HPo.out).cell_at rfl
     have hbd := HPu.out.bd (i / 8)
     obtain ⟨q,hq⟩ : ∃ q,q = i % 8 := ⟨_,rfl⟩
     have hmod : (i : Int) % 8 = (q : Int) := by omega
     have hq7 : (q : Int) ≤ 7 := by omega
     have hob := b2i_bitAt py i HPu.out
     rw [← hq] at hob
     have h01 := and_one_01 (nth py (i / 8) / 2 ^ q) (Int.ediv_nonneg hbd.1 (Int.pow_nonneg (by omega))) (Int.le_trans (Int.ediv_le_self _ hbd.1) hbd.2)
     have HUs : Hid (unpack py (i + 1) = L ++ [b2i (bitAt py i)]) := by show _ = _; rw [unpack_succ,hL]
     obtain ⟨bt,hbt⟩ : ∃ bt,bt = bitAt py i := ⟨_,rfl⟩
     rw [← hbt] at hob HUs
     have HAn : Hid ((bits .and .u8 (nth py (i / 8) / 2 ^ q) 1 == 1) = bt) := by
      show _ = _
      rcases h01 with h | h <;> rw [h] at hob ⊢ <;> cases bt <;> first | rfl | (exact absurd hob (by decide))
     obtain ⟨y,hy⟩ : ∃ y,y = nth py (i / 8) := ⟨_,rfl⟩
     rw [← hy] at Hy HAn
     clear hbd hq hob h01 hbt hy hcs
     have hbl2 : b2 < wl.heap.size := Nat.lt_of_lt_of_le hb2 HF.out.size
     have Hb2 := hid hb2; clear hb2
     have Hlt := hid hlt
     have Hi8 := hid hi8; clear hi8
     go_upto_region 18 with fail
     clear cA144
     have hli8 : (i : Int) ≤ 8000 := by omega
     refine segS_begin (fun w' => Fr (own1 (.slice au L.length cu)) wl w') 16 (by kernel_rfl) ?_
     refine segS_quiet (fuel := 4) (by kernel_rfl) (fun d _ _ _ _ h => by cases d <;> exact h) (((Fr.refl _ _).drew)) [0,1,2,3,4,5,6,7,8,9,10,11,12] _ _ (by kernel_rfl) ?_
     simp only [pickL,nthO]
     refine wpQuiet_rfl (.pointer (some ⟨P,1,none⟩)) rfl (fun _ => rfl) ?_
     simp only [Act.put,nA,nB,nC]
     refine wpQuiet_load1 rfl 53 (.tmp 109) rfl P 1 rfl (.slice au L.length cu) _ (fun w' hf => HcP.out _ hf) rfl rfl ?_
     simp only [Act.put,nA,nB,nC]
     refine wpQuiet_rfl (.pointer (some ⟨A,144,none⟩)) rfl (fun _ => rfl) ?_
     simp only [Act.put,nA,nB,nC]
     refine wpQuiet_load1 rfl 29 (.tmp 111) rfl A 144 rfl (.slice (some ⟨b2,off2,none⟩) py.length cB) _ (fun w' hf => HcA.out _ hf) rfl rfl ?_
     simp only [Act.put,nA,nB,nC]
     refine wpQuiet_rfl (.int .i64 (i : Int)) rfl (fun _ => rfl) ?_
     simp only [Act.put,nA,nB,nC]
     refine wpQuiet_run rfl (.int .i64 ((i / 8 : Nat) : Int)) (fun w => run_quo8 3 3 (.tmp 113) rfl _ rfl (by omega) (by omega)) ?_
     simp only [Act.put,nA,nB,nC]
     refine wpQuiet_index rfl 29 (.tmp 112) (.tmp 114) rfl b2 off2 py.length cB (i / 8) 1 .i64 5 rfl rfl Hi8.out (by kernel_rfl) (by kernel_rfl) ?_
     simp only [Act.put,nA,nB,nC]
     refine wpQuiet_load1 rfl 5 (.tmp 115) rfl b2 (off2 + i / 8 * 1) rfl (.int .u8 y) _ (fun w' hf => by rw [Nat.mul_one]; exact Hy.out _ hf) rfl rfl ?_
     simp only [Act.put,nA,nB,nC]
     refine wpQuiet_rfl (.int .i64 (i : Int)) rfl (fun _ => rfl) ?_
     simp only [Act.put,nA,nB,nC]
     iterate 1 go_big_quiet_step (((intro hw; first | with_reducible rfl | rfl | (simp [Result.andThen]; done) | (simp [Result.andThen]; rfl))))
     iterate 1 go_big_quiet_step (((intro hw; first | with_reducible rfl | rfl | (simp [Result.andThen]; done) | (simp [Result.andThen]; rfl))))
     refine wpQuiet_run rfl (.int .u8 (bits .and .u8 (y / 2 ^ q) 1)) (fun w => run_and8 5 5 (.tmp 119) rfl _ rfl) ?_
     simp only [Act.put,nA,nB,nC]
     refine wpQuiet_run rfl (.bool bt) (fun w => run_eq1 5 5 (.tmp 120) rfl _ rfl bt HAn.out) ?_
     simp only [Act.put,nA,nB,nC]
     refine wpQuiet_nil ?_
     refine segS_act 13 (o := ⟨some 122,_,_,_,_,_⟩) rfl rfl (by kernel_rfl) ?_
     refine wpList_bs1 rfl 53 (.tmp 121) rfl 4 1 1 elem53 (by decide) (.bool bt) [.bool bt] rfl rfl rfl ?_
     refine wpList_nil ?_
     simp only [Act.put,nA,nB,nC]
     have HFN : Hid (Fr [] wl (wl.drew.alloc (.cells [Value.bool bt].toArray 4))) := (Fr.refl [] wl).drew.alloc _
     have HBN : Hid (Blk (wl.drew.alloc (.cells [Value.bool bt].toArray 4)) wl.drew.heap.size 4 [.bool bt]) := Blk.new _ _ _
     generalize World.alloc wl.drew _ = w9 at HFN HBN ⊢
     obtain ⟨N,hN⟩ : ∃ N,N = wl.drew.heap.size := ⟨_,rfl⟩
     rw [← hN] at HBN ⊢
     clear hN
     refine ⟨fun _ => HFN.out.mono (by simp), ?_⟩
     have hby : (L.length + 1) * 1 ≤ 140737488355328 := by have := HLl.out; omega
     have hbs : w11.heap.size ≤ w9.heap.size := (HF.out.trans HFN.out).size
     have HG9 : Hid (Grows w11.heap.size 4 1 BoolE w9 (.slice au L.length cu) L) := HG.out.fr HFN.out (fun _ _ h => h)
     refine segS_act 14 (o := ⟨some 123,_,_,_,_,_⟩) rfl rfl (by kernel_rfl) ?_
     refine wpList_push2 rfl (.tmp 110) (.tmp 122) 53 rfl 4 1 1 elem53 w11.heap.size BoolE (.slice au L.length cu) L rfl HG9.out N 4 [.bool bt] HBN.out rfl rfl (by intro u hu; rw [List.mem_singleton] at hu; subst hu; rfl) (fun w' _ _ c y hE => hE) (b2i bt) (boolE_b2i _ _) hby hbs ?_
     intro v10 w10 HG10 _ HFo10 _
     clear hby hbs
     have HS10 : Hid (Fr (own1 (.slice au L.length cu)) wl w10) := (HFN.out.mono (by simp)).trans HFo10.out
     have HP10 := hid (HP.out.fr HS10.out HPo.out)
     have HF10 : Hid (Fr [] w11 w10) := HF.out.andThen HS10.out (fun x hx => .inr (HG.out.ownBlk x hx).1)
     rw [← HUs.out] at HG10
     obtain ⟨L2,hL2⟩ : ∃ L2,L2 = unpack py (i + 1) := ⟨_,rfl⟩
     rw [← hL2] at HG10
     have HL2 := hid hL2; clear hL2
     obtain ⟨a10,c10,rfl⟩ := HG10.out.slice
     refine wpList_nil ?_
     simp only [Act.put,nA,nB,nC]
     refine ⟨fun _ => HS10.out, ?_⟩
     refine segS_act 15 rfl rfl (by kernel_rfl) ?_
     go_wp2_with fail
     refine ⟨fun _ => HS10.out, ?_⟩
     refine segS_act 16 rfl rfl (by kernel_rfl) ?_
     have c1' : w10.cell? ⟨P,1,none⟩ = some (.slice au L.length cu) := HP10.out.cell_at rfl
     have f1' := HP10.out.free 1
     have hPl10 := HP10.out.lt
     go_wp2_with fail
     refine ⟨fun h => absurd rfl h, ?_⟩
     refine segS_end (by kernel_rfl) ?_
     have hsf : Hid (Fr [P] w10 (w10.setCell ⟨P,1,none⟩ (.slice a10 L2.length c10))) := (Fr.refl _ _).setCell _ _ (by simp)
     have HP11 : Hid (Blk (w10.setCell ⟨P,1,none⟩ (.slice a10 L2.length c10)) P 55 [.int .i64 k.txs.length,.slice a10 L2.length c10,.slice aH fin.length cH]) := HP10.out.set 1 _
     have HSt : Hid (Stp 55 w11.heap.size w10 (w10.setCell ⟨P,1,none⟩ (.slice a10 L2.length c10))) := Stp.of1 hsf.out HP10.out HPw.out
     have HG11 : Hid (Grows w11.heap.size 4 1 BoolE (w10.setCell ⟨P,1,none⟩ (.slice a10 L2.length c10)) (.slice a10 L2.length c10) L2) := HSt.out.gro HG10.out (by decide) (fun _ _ h => h)
     have HF11 : Hid (Fr [] w11 (w10.setCell ⟨P,1,none⟩ (.slice a10 L2.length c10))) := HSt.out.fr HF10.out (Nat.le_refl _)
     clear HSt hsf c1' f1' hPl10 HP10 HG10 HF10 HS10
     generalize World.setCell w10 _ _ = w12 at HP11 HG11 HF11 ⊢
     have hlt2 := Hlt.out
     go_wp2_with fail
     go_roundg (8 * py.length - (i + 1))
     case measure => omega
     case rel => exact ⟨i + 1,_,rfl,by omega,by simp,HP11.out,by rw [← HL2.out]; exact HG11.out,HF11.out⟩
    ·have hie : i = 8 * py.length := by omega
     have hli : ¬ ((i : Int) < 8 * (py.length : Int)) := by omega
     have HTl := hid (HB11.out.fr HF.out (by simp))
     have HFwl : Hid (Fr [] w wl) := HFw11.out.trans HF.out
     have HKl : Hid (Blk wl 1 379 (ic .u32 K)) := HhKc.out.fr HFwl.out (by simp)
     have HLb : Hid (L = tb ++ List.replicate (8 * ((tb.length + 7) / 8) - tb.length) 0) := by show _ = _; rw [hL,hie,HUn.out]
     have HRp := readPartial_c K HhK.out wl HKl.out hs Hh32.out (by rw [HhL.out]; exact HN1.out.1) (by rw [HhL.out]; exact HN1.out.2) mk L (List.replicate (8 * ((tb.length + 7) / 8) - tb.length) 0) (by rw [HhL.out,← Hbits.out,HLb.out]) (by have := HLn.out; have := HPl.out; have := HLl.out; omega)
      (by rw [HhL.out,← Hbits.out,HLb.out,List.length_append,List.length_replicate]; omega) (by rw [HhL.out,← Hfin.out]; have := HLn.out; omega) wl.heap.size (Nat.le_refl _) (.slice au L.length cu) (.slice aH fin.length cH) HG.out.listT.bools (by rw [HhL.out,← Hfin.out]; exact (((HLa11.out.below HF.out.below (fun _ _ h => h)).mono HF.out.size (fun _ _ h => h)).listB (fun _ _ h => h)))
     rw [HhL.out] at HRp
     have HRp := hid HRp
     obtain ⟨root,hroot⟩ : ∃ root,root = node K hs (hgt k.txs.length) 0 := ⟨_,rfl⟩
     have Hrl : Hid (root.length = 32) := by show _ = _; rw [hroot]; exact node_len Hh32.out _ _ Hw0.out
     have HTr := hid (txRoot_c K HhK.out)
     have Hroot := hid hroot; clear hroot
     clear hL hie
     go_upto_region 19 with fail
     refine wp_region_lit ?_
     refine wpList_load_mid rfl 55 (.tmp 12) rfl P 0 rfl ([.int .i64 k.txs.length,.slice au L.length cu,.slice aH fin.length cH]) _ (HP.out.range) rfl rfl (by kernel_rfl) ?_
     simp only [Act.put,nA,nB,nC]
     go_wp2_with fail
     refine HRp.out.mono ?_
     rintro e w13 ⟨mv,rfl,hf,hmv⟩
     have HF13 := hid hf; clear hf
     rw [HhL.out] at hmv
     rw [found_root HmL.out HN1.out.2,← Hms.out] at hmv
     have HMv : Hid (Ints .i64 w13 mv ms) := hmv.ints.rd (Nat.le_refl _)
     clear hmv HRp
     rw [HhL.out,← Hroot.out]
     simp only []
     refine (‹∀ (a : Act) (w : World),wpList Tryz.prog _ _ _ a w → _›) _ _ ?_
     refine wpList_run (v := .tuple #[arr root,mv,.bool true]) rfl rfl ?_
     simp only [Act.put,nA,nB,nC]
     refine wpList_run (v := arr root) rfl rfl ?_
     simp only [Act.put,nA,nB,nC]
     refine wpList_run (v := mv) rfl rfl ?_
     simp only [Act.put,nA,nB,nC]
     refine wpList_run (v := .bool true) rfl rfl ?_
     simp only [Act.put,nA,nB,nC]
     refine wpList_new rfl rfl 22 (.tmp 128) 14 rfl rfl rfl rfl (by simp [Act.put]) (ic .u8 root) (ic .u8 (List.replicate 32 0)) (fun _ => rfl) (by rw [ic_length,Hrl.out]; kernel_rfl) (fun _ => rfl) (by rw [ic_length,ic_length,Hrl.out]; simp) (ic_one _ _) ?_
     simp only [Act.put,nA,nB,nC]
     refine wpList_run (v := mv) rfl rfl ?_
     simp only [Act.put,nA,nB,nC]
     refine wpList_run (v := .bool true) rfl rfl ?_
     simp only [Act.put,nA,nB,nC]
     refine wpList_nil ?_
     try simp only [Exit.then]
     have H1314 : Hid (Fr [] w13 (w13.alloc (.cells (ic .u8 root).toArray 22))) := (Fr.refl _ _).alloc _
     have HR14 : Hid (Blk (w13.alloc (.cells (ic .u8 root).toArray 22)) w13.heap.size 22 (ic .u8 root)) := Blk.new _ _ _
     generalize World.alloc w13 _ = w14 at H1314 HR14 ⊢
     obtain ⟨Z,hZ⟩ : ∃ Z,Z = w13.heap.size := ⟨_,rfl⟩
     rw [← hZ] at HR14 ⊢
     clear hZ
     have HF14 : Hid (Fr [] wl w14) := HF13.out.trans H1314.out
     have HFw14 : Hid (Fr [] w w14) := HFwl.out.trans HF14.out
     have HMv14 : Hid (Ints .i64 w14 mv ms) := Rd.below HMv.out H1314.out.below
     have HMa14 : Hid (Ints .i64 w14 m1 ms) := Rd.below HMa11.out (HF.out.trans HF14.out).below
     have HB14 := hid (HTl.out.fr HF14.out (by simp))
     have Hc68 : Hid (∀ w',Fr [] w14 w' → w'.cell? ⟨T,68,none⟩ = some (.slice at' k.txs.length ct)) := fun w' hf => (HB14.out.fr hf (by simp)).cell_at (by rw [Hhck.out,List.getElem?_append_right (by rw [Hhwl.out]; omega),Hhwl.out]; rfl)
     have HTx := hid (HTr.out w14.drew ((HhKc.out.fr HFw14.out (by simp)).drew) B (Nat.le_trans hBw HFw14.out.size) (.slice at' k.txs.length ct) k.txs (Hht.out.below (HFw14.out.drew.below.mono hBw) (fun _ _ h => h.below (HFw14.out.drew.below.mono hBw))) HN1.out.1 HN1.out.2 (fun t ht => ⟨(HOk.out.2.2 t ht).1,(HOk.out.2.2 t ht).2.1,(HOk.out.2.2 t ht).2.2.1⟩))
     go_upto_region 20 with fail
     refine seg_begin (fun w' => Fr [] w14 w') (by kernel_rfl) ?_
     refine seg_quiet (fuel := 9) (by kernel_rfl) (fun d _ _ _ _ h => by cases d <;> exact h) ((Fr.refl _ _).drew) [0,1,2,3,4] _ _ (by kernel_rfl) ?_
     simp only [pickL,nthO]
     refine wpQuiet_rfl (.bool true) rfl (fun _ => rfl) ?_
     simp only [Act.put,nA,nB,nC]
     refine wpQuiet_rfl (.bool true) rfl (fun _ => rfl) ?_
     simp only [Act.put,nA,nB,nC]
     refine wpQuiet_g rfl ?_
     refine wpQuiet_load rfl 22 (.tmp 14) rfl Z 0 rfl (ic .u8 root) _ (fun w' hf => (HR14.out.fr hf (by simp)).range) rfl rfl (by rw [ic_length,Hrl.out]; kernel_rfl) ?_
     simp only [Act.put,nA,nB,nC]
     refine wpQuiet_g rfl ?_
     refine wpQuiet_rfl (.pointer (some ⟨T,68,none⟩)) rfl (fun _ => rfl) ?_
     simp only [Act.put,nA,nB,nC]
     refine wpQuiet_g rfl ?_
     refine wpQuiet_load1 rfl 26 (.tmp 134) rfl T 68 rfl (.slice at' k.txs.length ct) _ (fun w' hf => Hc68.out _ hf) rfl rfl ?_
     simp only [Act.put,nA,nB,nC]
     refine wpQuiet_nil ?_
     refine seg_actW 5 rfl rfl (by kernel_rfl) ?_
     go_wp2_with fail
     refine HTx.out.mono ?_
     rintro e w15 ⟨rfl,hf⟩
     have HF15 : Hid (Fr [] w14 w15) := (Fr.refl _ _).drew.trans hf
     clear hf HTx
     rw [← Hhs.out,← Hroot.out]
     go_wp2_with fail
     refine ⟨HF15.out,fun _ => ?_⟩
     refine seg_quiet (fuel := 3) (by kernel_rfl) (fun d _ _ _ _ h => by cases d <;> exact h) (HF15.out) [6,7,8,9,10] _ _ (by kernel_rfl) ?_
     simp only [pickL,nthO]
     refine wpQuiet_g rfl ?_
     refine wpQuiet_run rfl (.bool true) (fun w => by unfold execOp; simp only [Act.eval]; simp [arr,eql_arr,eqg_arr,Hrl.out,Sem.run_bind,Result.andThen]) ?_
     simp only [Act.put,nA,nB,nC]
     refine wpQuiet_rfl (.bool true) rfl (fun _ => rfl) ?_
     simp only [Act.put,nA,nB,nC]
     refine wpQuiet_rfl (.bool true) rfl (fun _ => rfl) ?_
     simp only [Act.put,nA,nB,nC]
     refine wpQuiet_g rfl ?_
     refine wpQuiet_rfl (mv) rfl (fun _ => rfl) ?_
     simp only [Act.put,nA,nB,nC]
     refine wpQuiet_g rfl ?_
     refine wpQuiet_rfl (m1) rfl (fun _ => rfl) ?_
     simp only [Act.put,nA,nB,nC]
     refine wpQuiet_nil ?_
     refine seg_actW 11 rfl rfl (by kernel_rfl) ?_
     go_wp2_with fail
     refine (sameInts_t w15 mv m1 ms (Rd.below HMv14.out HF15.out.below) (Rd.below HMa14.out HF15.out.below) (by have := HmsL.out; omega)).mono ?_
     rintro e w16 ⟨rfl,hf⟩
     have HF16 : Hid (Fr [] w14 w16) := HF15.out.trans hf
     clear hf
     go_wp2_with fail
     refine ⟨HF16.out,fun _ => ?_⟩
     refine seg_quiet (fuel := 0) (by kernel_rfl) (fun d _ _ _ _ h => by cases d <;> exact h) (HF16.out) [12,13] _ _ (by kernel_rfl) ?_
     simp only [pickL,nthO]
     refine wpQuiet_rfl (.bool true) rfl (fun _ => rfl) ?_
     simp only [Act.put,nA,nB,nC]
     refine wpQuiet_rfl (.bool true) rfl (fun _ => rfl) ?_
     simp only [Act.put,nA,nB,nC]
     refine wpQuiet_nil ?_
     refine seg_end (by kernel_rfl) ?_
     go_wp2_with fail
     go_ret
     exact ⟨rfl,HFw14.out.trans HF16.out⟩
end
end Go.Proofs.YtdllckiidegpcaaGreat
