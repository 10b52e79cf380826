/- A part of the walk of laws.FnPartial (part 10): contracts of functions that it comes to, and the plain laws that these lean on. Conditions stand in each contract. -/
import Derived.Test.YtdllckiidegpcaaGreatA07
set_option linter.unusedSimpArgs false
set_option linter.unusedVariables false
namespace Go.Proofs.YtdllckiidegpcaaGreat
open Go.RowKit
/-- Sizes that keep all sums far from the kinds' ends. -/
structure Tx.Small (t : Tx) : Prop where
 ins : t.ins.length ≤ 1000000
 outs : t.outs.length ≤ 1000000
 script : ∀ x ∈ t.ins,x.script.length ≤ 1000000
 wit : ∀ x ∈ t.ins,x.wit.length ≤ 1000000
 wits : ∀ x ∈ t.ins,∀ y ∈ x.wit,y.length ≤ 1000000
 oscript : ∀ x ∈ t.outs,x.script.length ≤ 1000000
theorem elem224 : Elem Tryz.prog 224 228 1 8 := Elem.mk' (by kernel_rfl) (by kernel_rfl) (by decide) (by decide)
theorem elem225 : Elem Tryz.prog 225 237 1 8 := Elem.mk' (by kernel_rfl) (by kernel_rfl) (by decide) (by decide)
theorem Fr.toT {T : TypeId} {w w' : World} (h : Fr [] w w') : FrT T w w' := h.frT (fun k hk => by simp at hk)
theorem FrT.trans {T : TypeId} {a b c : World} (h : FrT T a b) (k : FrT T b c) (hT : ∀ i,i < a.heap.size → (∀ d fr,a.heap[i]? ≠ some (.cells d T fr)) → ∀ d fr,b.heap[i]? ≠ some (.cells d T fr)) : FrT T a c :=
 ⟨k.os.trans h.os,k.tape.trans h.tape,k.output.trans h.output,Nat.le_trans h.size k.size,fun i hi hn => (k.block i (Nat.lt_of_lt_of_le hi h.size) (hT i hi hn)).trans (h.block i hi hn)⟩
theorem FrT.trans' {T : TypeId} {a b c : World} (h : FrT T a b) (k : FrT T b c) : FrT T a c :=
 h.trans k (fun i hi hn d fr he => hn d fr (by rw [← h.block i hi hn]; exact he))
abbrev InP (w : World) : List Value → TxIn → Prop := PtrE w.heap.size 233 (TxInT w.heap.size) w
abbrev OutPt (w : World) : List Value → TxOut → Prop := PtrE w.heap.size 236 (TxOutT w.heap.size) w
set_option maxRecDepth 8000 in
set_option maxHeartbeats 2000000 in
theorem txOf_c (w : World) (B : Nat) (hBw : B ≤ w.heap.size) (c : List Value) (t : Tx) (hc : TxE B w c t) (ht : t.Ok) (hs : t.Small) :
  Calls Tryz.prog 86 #[.agg c.toArray] w fun e w' => ∃ g d,e = .returned (.pointer (some ⟨g,0,none⟩)) ∧ Fr [] w w' ∧ w.heap.size ≤ g ∧ Blk w' g 227 d ∧ MsgTxT w'.heap.size w' d t := by
 obtain ⟨iv,ov,rfl,hi,ho⟩ := hc
 obtain ⟨ai,ci,rfl,hi1,hi2⟩ := hi.len
 obtain ⟨ao,co,rfl,ho1,ho2⟩ := ho.len
 have HI := hid hi; clear hi
 have HO := hid ho; clear ho
 have Ht := hid ht; clear ht
 have Hs := hid hs; clear hs
 have H1 := hid hi1; clear hi1
 have H2 := hid hi2; clear hi2
 have H3 := hid ho1; clear ho1
 have H4 := hid ho2; clear ho2
 go_enter Tryz.func86,Tryz.ntmps86
 go_wp2_with fail
 change Code.wp _ _ _ _ ((w.alloc (.cells [.int .i32 t.version,.slice ai t.ins.length ci,.slice ao t.outs.length co,.int .u32 t.lock].toArray 39)).alloc (.cells [.int .i32 t.version,.slice none 0 0,.slice none 0 0,.int .u32 t.lock].toArray 227))
 have HF1 : Hid (Fr [] w ((w.alloc (.cells [.int .i32 t.version,.slice ai t.ins.length ci,.slice ao t.outs.length co,.int .u32 t.lock].toArray 39)).alloc (.cells [.int .i32 t.version,.slice none 0 0,.slice none 0 0,.int .u32 t.lock].toArray 227))) := ((Fr.refl _ _).alloc _).alloc _
 have HK1 : Hid (Blk ((w.alloc (.cells [.int .i32 t.version,.slice ai t.ins.length ci,.slice ao t.outs.length co,.int .u32 t.lock].toArray 39)).alloc (.cells [.int .i32 t.version,.slice none 0 0,.slice none 0 0,.int .u32 t.lock].toArray 227)) w.heap.size 39 [.int .i32 t.version,.slice ai t.ins.length ci,.slice ao t.outs.length co,.int .u32 t.lock]) := (Blk.new _ _ _).alloc _
 have HM1 : Hid (Blk ((w.alloc (.cells [.int .i32 t.version,.slice ai t.ins.length ci,.slice ao t.outs.length co,.int .u32 t.lock].toArray 39)).alloc (.cells [.int .i32 t.version,.slice none 0 0,.slice none 0 0,.int .u32 t.lock].toArray 227)) (w.heap.size + 1) 227 [.int .i32 t.version,.slice none 0 0,.slice none 0 0,.int .u32 t.lock]) := by
  have := Blk.new (w.alloc (.cells [.int .i32 t.version,.slice ai t.ins.length ci,.slice ao t.outs.length co,.int .u32 t.lock].toArray 39)) [.int .i32 t.version,.slice none 0 0,.slice none 0 0,.int .u32 t.lock] 227
  rwa [show (w.alloc (.cells [.int .i32 t.version,.slice ai t.ins.length ci,.slice ao t.outs.length co,.int .u32 t.lock].toArray 39)).heap.size = w.heap.size + 1 by simp] at this
 generalize World.alloc (World.alloc w _) _ = w1 at HF1 HK1 HM1 ⊢
 go_loopg [4] (t.ins.length) (fun gk v4 wr => ∃ i iv',gk = t.ins.length - i ∧ i ≤ t.ins.length ∧ v4 = .int .i64 (i : Int) ∧ Blk wr (w.heap.size + 1) 227 [.int .i32 t.version,iv',.slice none 0 0,.int .u32 t.lock] ∧
  Grows w.heap.size 228 1 InP wr iv' (t.ins.take i) ∧ Fr [] w wr ∧ Blk wr w.heap.size 39 [.int .i32 t.version,.slice ai t.ins.length ci,.slice ao t.outs.length co,.int .u32 t.lock])
 case atStart => exact ⟨0,_,rfl,Nat.zero_le _,rfl,HM1.out,Grows.nil _,HF1.out,HK1.out⟩
 case round =>
  clear HF1 HK1 HM1
  obtain ⟨i,iv',rfl,hi,rfl,hm,hg,hf,hk⟩ := hrel
  have hk1 : wr.cell? ⟨w.heap.size,1,none⟩ = some (.slice ai t.ins.length ci) := hk.cell_at rfl
  have hk2 : wr.cell? ⟨w.heap.size,2,none⟩ = some (.slice ao t.outs.length co) := hk.cell_at rfl
  have hkl := hk.lt
  have HM := hid hm; clear hm
  have HG := hid hg; clear hg
  have HF := hid hf; clear hf
  have HK := hid hk; clear hk
  by_cases hlt : i < t.ins.length
  ·have hlti : (i : Int) < t.ins.length := by omega
   go_upto_region 5 with fail
   obtain ⟨b,off,cap',c,he,hb,hcl,hrg,sv,wv,hc,hsv,hwv⟩ := HI.out.at hlt (by decide)
   simp only [Value.slice.injEq] at he
   obtain ⟨rfl,_,rfl⟩ := he
   obtain ⟨x,hx⟩ : ∃ x,x = t.ins[i] := ⟨_,rfl⟩
   rw [← hx] at hc hsv hwv
   have hxm : x ∈ t.ins := by rw [hx]; exact List.getElem_mem hlt
   have hxo := Ht.out.ins x hxm
   have HX := hid hx; clear hx
   refine wp_region_lit ?_
   refine wpList_run (v := .pointer (some ⟨w.heap.size,1,none⟩)) rfl rfl ?_
   refine wpList_load1 rfl 36 (.tmp 20) rfl w.heap.size 1 rfl _ _ hk1 rfl rfl ?_
   refine wpList_run (v := .int .i64 (i : Int)) rfl rfl ?_
   simp only [Act.put,nA,nB,nC]
   refine wpList_index rfl 36 (.tmp 21) (.tmp 22) rfl b off t.ins.length ci i 36 .i64 98 rfl rfl hlt (by kernel_rfl) (by kernel_rfl) ?_
   simp only [Act.put,nA,nB,nC]
   refine wpList_load_mid rfl 98 (.tmp 23) rfl b (off + i * 36) rfl c _ (hrg wr (HF.out.below.mono hBw)) rfl rfl (by rw [hcl]; kernel_rfl) ?_
   simp only [Act.put,nA,nB,nC]
   obtain ⟨z98,hz98,hz98l⟩ : ∃ z : List Value,(∀ w : World,(Instr.alloc 98 true (.tuple #[])).run Tryz.prog w = .ok (.pointer (some ⟨w.heap.size,0,none⟩)) (w.alloc (.cells z.toArray 98))) ∧ z.length = 36 := ⟨_,fun w => rfl,rfl⟩
   refine wpList_run (v := .pointer (some ⟨wr.heap.size,0,none⟩)) (w' := wr.alloc (.cells z98.toArray 98)) rfl (by have := hz98 wr; unfold execOp; simp only [Sem.run_bind,this]; rfl) ?_
   simp only [Act.put,nA,nB,nC]
   have HF2 : Hid (Fr [] wr (wr.alloc (.cells z98.toArray 98))) := (Fr.refl _ _).alloc _
   have HN2 : Hid (Blk (wr.alloc (.cells z98.toArray 98)) wr.heap.size 98 z98) := Blk.new _ _ _
   generalize World.alloc wr _ = w2 at HF2 HN2 ⊢
   have hc1 : ∀ u ∈ c,u.oneCell' = true := by
    rw [hc]; intro u hu
    rcases List.mem_append.mp hu with h | h
    ·exact x.prev.one u h
    ·simp only [List.mem_cons,List.not_mem_nil,or_false] at h
     obtain ⟨_,_,h1,_⟩ := hsv
     obtain ⟨_,_,h2,_⟩ := hwv.len
     rcases h with rfl | rfl | rfl
     ·rw [h1]; rfl
     ·rw [h2]; rfl
     ·rfl
   refine wpList_store_mid rfl 98 (.tmp 5) (.tmp 24) rfl wr.heap.size 0 c.toArray rfl rfl (HN2.out.there (by simp [hcl,hz98l])) (by rw [List.size_toArray,hcl]; kernel_rfl) (all_oneCell_toArray hc1) ?_
   have HN3 : Hid (Blk (w2.setCells wr.heap.size 0 c.toArray.toList) wr.heap.size 98 c) := HN2.out.putAll _ (by rw [hcl,hz98l])
   have HF3 : Hid (Fr [] wr (w2.setCells wr.heap.size 0 c.toArray.toList)) := ((HF2.out.mono (by simp)).trans (fr_setCells (S := [wr.heap.size]) (by simp) _ _ _ (Fr.refl _ _))).drop (by simp)
   generalize World.setCells _ _ _ _ = w3 at HN3 HF3 ⊢
   obtain ⟨N,hN⟩ : ∃ N,N = wr.heap.size := ⟨_,rfl⟩
   rw [← hN] at HN3 ⊢
   have HNs := hid hN; clear hN
   clear HF2 HN2 hz98 hz98l hc1
   have Hrg := hid hrg; clear hrg
   refine wpList_nil ?_
   simp only [Exit.then]
   simp only [Act.put,nA,nB,nC]
   go_upto_region 6 with fail
   have HM3 : Hid (Blk w3 (w.heap.size + 1) 227 [.int .i32 t.version,iv',.slice none 0 0,.int .u32 t.lock]) := HM.out.fr HF3.out (by simp)
   have HG3 : Hid (Grows w.heap.size 228 1 InP w3 iv' (t.ins.take i)) := HG.out.fr HF3.out (fun _ _ h => (h.below HF3.out.below (fun _ _ h => h.below HF3.out.below)).mono HF3.out.size (fun _ _ h => h.mono HF3.out.size))
   have hm3 := HM3.out.lt
   have hn3 := HN3.out.lt
   have hxp := hxo.prev
   have cM1 : Hid (w3.cell? ⟨w.heap.size + 1,1,none⟩ = some iv') := HM3.out.cell_at rfl
   have rN0 : Hid (w3.rangeAt N 0 x.prev.cells) := HN3.out.part [] _ _ (by rw [hc]; rfl)
   have cN33 : Hid (w3.cell? ⟨N,33,none⟩ = some sv) := HN3.out.cell_at (by rw [hc,List.getElem?_append_right (by rw [OutP.cells_length hxp]; omega),OutP.cells_length hxp]; rfl)
   have cN34 : Hid (w3.cell? ⟨N,34,none⟩ = some wv) := HN3.out.cell_at (by rw [hc,List.getElem?_append_right (by rw [OutP.cells_length hxp]; omega),OutP.cells_length hxp]; rfl)
   have cN35 : Hid (w3.cell? ⟨N,35,none⟩ = some (.int .u32 x.seq)) := HN3.out.cell_at (by rw [hc,List.getElem?_append_right (by rw [OutP.cells_length hxp]; omega),OutP.cells_length hxp]; rfl)
   have HSV : Hid (Bytes w3 sv x.script) := ((hsv.below (HF.out.below.mono hBw)).below (HF3.out.below.mono (Nat.le_trans hBw HF.out.size))).rd (Nat.le_trans hBw (Nat.le_trans HF.out.size HF3.out.size))
   have HWV : Hid (ListB B 1 (BytE B) w3 wv x.wit) := (hwv.below (HF.out.below.mono hBw) (fun _ _ h => h.below (HF.out.below.mono hBw))).below (HF3.out.below.mono (Nat.le_trans hBw HF.out.size)) (fun _ _ h => h.below (HF3.out.below.mono (Nat.le_trans hBw HF.out.size)))
   refine segS_begin (fun w' => FrT 228 w3 w') 22 (by kernel_rfl) ?_
   refine segS_quiet (fuel := 10) (by kernel_rfl) (fun d _ _ _ _ h => by cases d <;> exact h) ((Fr.refl _ _).drew.toT) [0,1,2,3,4,5,6,8,9,11,12,14,15] _ _ (by kernel_rfl) ?_
   simp only [pickL,nthO]
   refine wpQuiet_rfl (.pointer (some ⟨w.heap.size + 1,0,none⟩)) rfl (fun _ => rfl) ?_
   simp only [Act.put,nA,nB,nC]
   refine wpQuiet_rfl (.pointer (some ⟨w.heap.size + 1,0,none⟩)) rfl (fun _ => rfl) ?_
   simp only [Act.put,nA,nB,nC]
   refine wpQuiet_rfl (.pointer (some ⟨w.heap.size + 1,0,none⟩)) rfl (fun _ => rfl) ?_
   simp only [Act.put,nA,nB,nC]
   refine wpQuiet_rfl (.pointer (some ⟨w.heap.size + 1,1,none⟩)) rfl (fun _ => rfl) ?_
   simp only [Act.put,nA,nB,nC]
   refine wpQuiet_load1 rfl 224 (.tmp 28) rfl (w.heap.size + 1) 1 rfl iv' _ (fun w' hf => (HM3.out.frT hf (by decide)).cell_at rfl) rfl rfl ?_
   simp only [Act.put,nA,nB,nC]
   refine wpQuiet_rfl (.pointer (some ⟨N,0,none⟩)) rfl (fun _ => rfl) ?_
   simp only [Act.put,nA,nB,nC]
   refine wpQuiet_load rfl 95 (.tmp 30) rfl N 0 rfl x.prev.cells _ (fun w' hf => (HN3.out.frT hf (by decide)).part [] _ _ (by rw [hc]; rfl)) rfl rfl (by rw [OutP.cells_length hxp]; kernel_rfl) ?_
   simp only [Act.put,nA,nB,nC]
   refine wpQuiet_rfl (.pointer (some ⟨N,33,none⟩)) rfl (fun _ => rfl) ?_
   simp only [Act.put,nA,nB,nC]
   refine wpQuiet_load1 rfl 29 (.tmp 33) rfl N 33 rfl sv _ (fun w' hf => (HN3.out.frT hf (by decide)).cell_at (by rw [hc,List.getElem?_append_right (by rw [OutP.cells_length hxp]; omega),OutP.cells_length hxp]; rfl)) rfl rfl ?_
   simp only [Act.put,nA,nB,nC]
   refine wpQuiet_rfl (.pointer (some ⟨N,34,none⟩)) rfl (fun _ => rfl) ?_
   simp only [Act.put,nA,nB,nC]
   refine wpQuiet_load1 rfl 96 (.tmp 36) rfl N 34 rfl wv _ (fun w' hf => (HN3.out.frT hf (by decide)).cell_at (by rw [hc,List.getElem?_append_right (by rw [OutP.cells_length hxp]; omega),OutP.cells_length hxp]; rfl)) rfl rfl ?_
   simp only [Act.put,nA,nB,nC]
   refine wpQuiet_rfl (.pointer (some ⟨N,35,none⟩)) rfl (fun _ => rfl) ?_
   simp only [Act.put,nA,nB,nC]
   refine wpQuiet_load1 rfl 23 (.tmp 39) rfl N 35 rfl (.int .u32 x.seq) _ (fun w' hf => (HN3.out.frT hf (by decide)).cell_at (by rw [hc,List.getElem?_append_right (by rw [OutP.cells_length hxp]; omega),OutP.cells_length hxp]; rfl)) rfl rfl ?_
   simp only [Act.put,nA,nB,nC]
   refine wpQuiet_nil ?_
   refine segS_act 7 rfl rfl (by kernel_rfl) ?_
   go_wp2_with fail
   refine (outPoint_c _ x.prev hxp).mono ?_
   rintro e w4 ⟨rfl,hf⟩
   have HF4 : Hid (Fr [] w3 w4) := (Fr.refl _ _).drew.trans hf
   clear hf
   go_wp2_with fail
   refine ⟨fun _ => HF4.out.toT, ?_⟩
   refine segS_act 10 rfl rfl (by kernel_rfl) ?_
   go_wp2_with fail
   refine (copied_c w4 sv x.script (HSV.out.below HF4.out.below) (by have := Hs.out.script x hxm; omega)).mono ?_
   rintro e w5 ⟨sv',rfl,hf,hso⟩
   have HF5 : Hid (Fr [] w3 w5) := HF4.out.trans hf
   have HS5 : Hid (BytesT w5.heap.size w5 sv' x.script) := owns_rdT hso
   clear hf hso
   go_wp2_with fail
   refine ⟨fun _ => HF5.out.toT, ?_⟩
   refine segS_act 13 rfl rfl (by kernel_rfl) ?_
   go_wp2_with fail
   have hB3 : B ≤ w3.heap.size := Nat.le_trans hBw (Nat.le_trans HF.out.size HF3.out.size)
   refine (copies_c w5 B (Nat.le_trans hB3 HF5.out.size) wv x.wit (HWV.out.below (HF5.out.below.mono hB3) (fun _ _ h => h.below (HF5.out.below.mono hB3))) (Hs.out.wit x hxm) (Hs.out.wits x hxm)).mono ?_
   rintro e w6 ⟨wv',rfl,hf,hwo⟩
   have HF6 : Hid (Fr [] w3 w6) := HF5.out.trans hf
   have HS6 : Hid (BytesT w6.heap.size w6 sv' x.script) := (HS5.out.below hf.below).mono hf.size
   have HW6 := hid hwo
   clear hf hwo
   go_wp2_with fail
   refine ⟨fun _ => HF6.out.toT, ?_⟩
   obtain ⟨a1,n1,c1,rfl⟩ : ∃ a1 n1 c1,sv' = .slice a1 n1 c1 := by obtain ⟨_,_,h,_⟩ := HS6.out; exact ⟨_,_,_,h⟩
   obtain ⟨a2,n2,c2,rfl⟩ : ∃ a2 n2 c2,wv' = .slice a2 n2 c2 := by obtain ⟨_,_,_,⟨_,_,h,_⟩,_⟩ := HW6.out; exact ⟨_,_,_,h⟩
   obtain ⟨d,hd⟩ : ∃ d,d = x.prev.cells ++ [.slice a1 n1 c1,.slice a2 n2 c2,.int .u32 x.seq] := ⟨_,rfl⟩
   have Hd := hid hd; clear hd
   refine segS_quiet (fuel := 6) (by kernel_rfl) (fun d _ _ _ _ h => by cases d <;> exact h) HF6.out.toT [16] _ _ (by kernel_rfl) ?_
   simp only [pickL,nthO]
   refine wpQuiet_build rfl 233 _ rfl [(0,.agg x.prev.cells.toArray),(1,.slice a1 n1 c1),(2,.slice a2 n2 c2),(3,.int .u32 x.seq)] (by simp only [List.map_toArray]; rfl)
    [opz,[.slice none 0 0],[.slice none 0 0],[.int .u32 0]] (by kernel_rfl) (by simp [offs,Value.cells,opz_length,OutP.cells_length hxp]) d (by rw [Hd.out]; simp [Value.cells]) ?_
   simp only [Act.put,nA,nB,nC]
   refine wpQuiet_nil ?_
   refine segS_act 17 rfl rfl (by kernel_rfl) ?_
   go_wp2_with fail
   have HF7 : Hid (Fr [] w6 (w6.alloc (.cells d.toArray 233))) := (Fr.refl _ _).alloc _
   have HD7 : Hid (Blk (w6.alloc (.cells d.toArray 233)) w6.heap.size 233 d) := Blk.new _ _ _
   refine ⟨fun _ => (HF6.out.trans HF7.out).toT, ?_⟩
   have hsz7 : (w6.alloc (.cells d.toArray 233)).heap.size = w6.heap.size + 1 := by simp
   have Hsz7 := hid hsz7; clear hsz7
   generalize World.alloc w6 _ = w7 at HF7 HD7 Hsz7 ⊢
   obtain ⟨D,hD⟩ : ∃ D,D = w6.heap.size := ⟨_,rfl⟩
   rw [← hD] at HD7 ⊢
   have HDd := hid hD; clear hD
   refine segS_act 18 rfl rfl (by kernel_rfl) ?_
   go_wp2_with fail
   have HF8 : Hid (Fr [] w7 (w7.alloc (.cells [.pointer (some ⟨D,0,none⟩)].toArray 228))) := (Fr.refl _ _).alloc _
   have HP8 : Hid (Blk (w7.alloc (.cells [.pointer (some ⟨D,0,none⟩)].toArray 228)) w7.heap.size 228 [.pointer (some ⟨D,0,none⟩)]) := Blk.new _ _ _
   refine ⟨fun _ => ((HF6.out.trans HF7.out).trans HF8.out).toT, ?_⟩
   generalize World.alloc w7 _ = w8 at HF8 HP8 ⊢
   obtain ⟨N8,hN8⟩ : ∃ N8,N8 = w7.heap.size := ⟨_,rfl⟩
   rw [← hN8] at HP8 ⊢
   have HN8 := hid hN8; clear hN8
   have HF38 : Hid (Fr [] w3 w8) := (HF6.out.trans HF7.out).trans HF8.out
   have HFr8 : Hid (Fr [] wr w8) := HF3.out.trans HF38.out
   have HG8 : Hid (Grows w.heap.size 228 1 InP w8 iv' (t.ins.take i)) := HG3.out.fr HF38.out (fun _ _ h => (h.below HF38.out.below (fun _ _ h => h.below HF38.out.below)).mono HF38.out.size (fun _ _ h => h.mono HF38.out.size))
   have HY : Hid (InP w8 [.pointer (some ⟨D,0,none⟩)] x) := by
    have h68 : Fr [] w6 w8 := HF7.out.trans HF8.out
    have hDlt : D < w8.heap.size := Nat.lt_of_lt_of_le HD7.out.lt HF8.out.size
    refine ⟨D,d,rfl,hDlt,HD7.out.fr HF8.out (by simp),_,_,Hd.out,(HS6.out.below h68.below).mono h68.size,(HW6.out.below h68.below (fun _ _ h => h.below h68.below)).mono h68.size (fun _ _ h => h.mono h68.size)⟩
   have HE8 : Hid (∀ w',FrT 228 w8 w' → ∀ c y,InP w8 c y → InP w' c y) := by
    intro w' hf c y h
    exact (h.frT hf (by decide) (fun _ _ h => h.frT hf (by decide) (by decide))).mono hf.size (fun _ _ h => h.mono hf.size)
   have HM8 : Hid (Blk w8 (w.heap.size + 1) 227 [.int .i32 t.version,iv',.slice none 0 0,.int .u32 t.lock]) := HM3.out.fr HF38.out (by simp)
   have HK8 := hid (HK.out.fr HFr8.out (by simp))
   have hby : ((t.ins.take i).length + 1) * 8 ≤ 140737488355328 := by have := Hs.out.ins; simp; omega
   have hbs : w.heap.size ≤ w8.heap.size := Nat.le_trans HF.out.size HFr8.out.size
   refine segS_act 19 rfl rfl (by kernel_rfl) ?_
   refine wpList_push rfl (.tmp 29) (.tmp 43) 224 rfl 228 1 8 elem224 w.heap.size InP iv' (t.ins.take i) rfl HG8.out N8 228 [.pointer (some ⟨D,0,none⟩)] HP8.out rfl rfl (by intro u hu; rw [List.mem_singleton] at hu; subst hu; rfl) HE8.out x HY.out hby hbs ?_
   intro iv2 w9 HG9 HFT9 HFo9
   refine wpList_nil ?_
   refine ⟨fun _ => HF38.out.toT.trans' HFT9.out, ?_⟩
   simp only [Act.put,nA,nB,nC]
   have HM9 : Hid (Blk w9 (w.heap.size + 1) 227 [.int .i32 t.version,iv',.slice none 0 0,.int .u32 t.lock]) := HM8.out.frT HFT9.out (by decide)
   have HK9 := hid (HK8.out.frT HFT9.out (by decide))
   have HF9 : Hid (Fr [] w w9) := (HF.out.trans HFr8.out).andThen HFo9.out (fun k hk => .inr (HG8.out.own k (own1_mem hk)).1)
   obtain ⟨a3,c3,rfl⟩ : ∃ a3 c3,iv2 = .slice a3 (t.ins.take i ++ [x]).length c3 := HG9.out.slice
   have hm9 := HM9.out.lt
   have c9 : w9.cell? ⟨w.heap.size + 1,1,none⟩ = some iv' := HM9.out.cell_at rfl
   have f9 := HM9.out.free 1
   have HST := hid (HF38.out.toT.trans' HFT9.out)
   have HM10 : Hid (Blk (w9.setCell ⟨w.heap.size + 1,1,none⟩ (.slice a3 (t.ins.take i ++ [x]).length c3)) (w.heap.size + 1) 227 [.int .i32 t.version,.slice a3 (t.ins.take i ++ [x]).length c3,.slice none 0 0,.int .u32 t.lock]) := HM9.out.set 1 _
   have HF10 : Hid (Fr [] w (w9.setCell ⟨w.heap.size + 1,1,none⟩ (.slice a3 (t.ins.take i ++ [x]).length c3))) := ((HF9.out.mono (S' := [w.heap.size + 1]) (by simp)).setCell _ _ (by simp)).drop (by simp)
   have hft : FrT 227 w9 (w9.setCell ⟨w.heap.size + 1,1,none⟩ (.slice a3 (t.ins.take i ++ [x]).length c3)) :=
    Fr.frT (S := [w.heap.size + 1]) ((Fr.refl _ _).setCell _ _ (by simp)) (fun k hk _ => by rw [List.mem_singleton] at hk; subst hk; exact ⟨_,_,HM9.out⟩)
   have HFT10 := hid hft; clear hft
   have HG10 : Hid (Grows w.heap.size 228 1 InP (w9.setCell ⟨w.heap.size + 1,1,none⟩ (.slice a3 (t.ins.take i ++ [x]).length c3)) (.slice a3 (t.ins.take i ++ [x]).length c3) (t.ins.take i ++ [x])) :=
    HG9.out.frT HFT10.out (by decide) (fun c y h => (h.frT HFT10.out (by decide) (fun _ _ h => h.frT HFT10.out (by decide) (by decide))).mono HFT10.out.size (fun _ _ h => h.mono HFT10.out.size))
   have HK10 := hid (HK9.out.frT HFT10.out (by decide))
   have htk : t.ins.take i ++ [x] = t.ins.take (i + 1) := by rw [List.take_add_one,List.getElem?_eq_getElem hlt,HX.out]; rfl
   obtain ⟨n3,hn3⟩ : ∃ n3,n3 = (t.ins.take i ++ [x]).length := ⟨_,rfl⟩
   rw [← hn3] at HM10 HF10 HG10 HK10 HFT10 ⊢
   rw [htk] at HG10
   have Hn3 := hid hn3; clear hn3
   clear htk
   refine segS_act 20 rfl rfl (by kernel_rfl) ?_
   go_wp2_with fail
   refine ⟨fun _ => HST.out, ?_⟩
   refine segS_act 21 rfl rfl (by kernel_rfl) ?_
   go_wp2_with fail
   refine ⟨fun _ => HST.out, ?_⟩
   refine segS_act 22 rfl rfl (by kernel_rfl) ?_
   go_wp2_with fail
   refine ⟨fun h => absurd rfl h, ?_⟩
   refine segS_end (by kernel_rfl) ?_
   generalize World.setCell w9 _ _ = w10 at HM10 HF10 HG10 HK10 HFT10 ⊢
   have hi6 : (i : Int) < 1000000 := by have := Hs.out.ins; omega
   go_wp2_with fail
   go_roundg (t.ins.length - (i + 1))
   case measure => omega
   case rel => exact ⟨i + 1,_,rfl,by omega,by simp,HM10.out,HG10.out,HF10.out,HK10.out⟩
  ·obtain rfl : i = t.ins.length := by omega
   rw [List.take_length] at HG
   go_wp2_with fail
   generalize Value.bool (decide ((t.ins.length : Int) < t.ins.length)) = vb
   go_loopg [6] (t.outs.length) (fun gk v6 wr2 => ∃ i ov',gk = t.outs.length - i ∧ i ≤ t.outs.length ∧ v6 = .int .i64 (i : Int) ∧ Blk wr2 (w.heap.size + 1) 227 [.int .i32 t.version,iv',ov',.int .u32 t.lock] ∧
    Grows w.heap.size 228 1 InP wr2 iv' t.ins ∧ Grows w.heap.size 237 1 OutPt wr2 ov' (t.outs.take i) ∧ Fr [] w wr2 ∧ Blk wr2 w.heap.size 39 [.int .i32 t.version,.slice ai t.ins.length ci,.slice ao t.outs.length co,.int .u32 t.lock])
   case atStart => exact ⟨0,_,rfl,Nat.zero_le _,rfl,HM.out,HG.out,Grows.nil _,HF.out,HK.out⟩
   case round =>
    clear hk1 hk2 hkl HM HG HF HK
    obtain ⟨i,ov',rfl,hi,rfl,hm,hgi,hg,hf,hk⟩ := hrel
    have hk1 : wr.cell? ⟨w.heap.size,1,none⟩ = some (.slice ai t.ins.length ci) := hk.cell_at rfl
    have hk2 : wr.cell? ⟨w.heap.size,2,none⟩ = some (.slice ao t.outs.length co) := hk.cell_at rfl
    have hkl := hk.lt
    have HM := hid hm; clear hm
    have HG := hid hg; clear hg
    have HGi := hid hgi; clear hgi
    have HF := hid hf; clear hf
    have HK := hid hk; clear hk
    by_cases hlt : i < t.outs.length
    ·have hlti : (i : Int) < t.outs.length := by omega
     go_upto_region 10 with fail
     obtain ⟨b,off,cap',c,he,hb,hcl,hrg,sv,hc,hsv⟩ := HO.out.at hlt (by decide)
     simp only [Value.slice.injEq] at he
     obtain ⟨rfl,_,rfl⟩ := he
     obtain ⟨x,hx⟩ : ∃ x,x = t.outs[i] := ⟨_,rfl⟩
     rw [← hx] at hc hsv
     have hxm : x ∈ t.outs := by rw [hx]; exact List.getElem_mem hlt
     have HX := hid hx; clear hx
     subst hc
     have cE : ∀ w',FrT 237 wr w' ∧ Below w.heap.size wr w' → w'.rangeAt b (off + i * 2) [.int .i64 x.value,sv] := fun w' hf => hrg w' ((HF.out.below.mono hBw).trans (hf.2.mono hBw))
     have c0 : ∀ w',FrT 237 wr w' ∧ Below w.heap.size wr w' → w'.cell? ⟨b,off + i * 2,none⟩ = some (.int .i64 x.value) := fun w' hf => cE w' hf 0 _ rfl
     have c1 : ∀ w',FrT 237 wr w' ∧ Below w.heap.size wr w' → w'.cell? ⟨b,off + i * 2 + 1,none⟩ = some sv := fun w' hf => cE w' hf 1 _ rfl
     have C0 := hid c0; clear c0
     have C1 := hid c1; clear c1 cE
     have Hrg := hid hrg; clear hrg
     have HSV : Hid (Bytes wr sv x.script) := (hsv.below (HF.out.below.mono hBw)).rd (Nat.le_trans hBw HF.out.size)
     refine segS_begin (fun w' => FrT 237 wr w' ∧ Below w.heap.size wr w') 24 (by kernel_rfl) ?_
     refine segS_quiet (fuel := 8) (by kernel_rfl) (fun d _ _ _ _ h => by cases d <;> exact h) ⟨(Fr.refl _ _).drew.toT,(Below.refl _ _).drew⟩ [0,1,2,3,4,5,6,7,8,9,10,11,12,13,14,15,16] _ _ (by kernel_rfl) ?_
     simp only [pickL,nthO]
     refine wpQuiet_rfl (.pointer (some ⟨w.heap.size + 1,0,none⟩)) rfl (fun _ => rfl) ?_
     simp only [Act.put,nA,nB,nC]
     refine wpQuiet_rfl (.pointer (some ⟨w.heap.size + 1,0,none⟩)) rfl (fun _ => rfl) ?_
     simp only [Act.put,nA,nB,nC]
     refine wpQuiet_rfl (.pointer (some ⟨w.heap.size + 1,0,none⟩)) rfl (fun _ => rfl) ?_
     simp only [Act.put,nA,nB,nC]
     refine wpQuiet_rfl (.pointer (some ⟨w.heap.size + 1,2,none⟩)) rfl (fun _ => rfl) ?_
     simp only [Act.put,nA,nB,nC]
     refine wpQuiet_load1 rfl 225 (.tmp 57) rfl (w.heap.size + 1) 2 rfl ov' _ (fun w' hf => (HM.out.frT hf.1 (by decide)).cell_at rfl) rfl rfl ?_
     simp only [Act.put,nA,nB,nC]
     refine wpQuiet_rfl (.pointer (some ⟨w.heap.size,2,none⟩)) rfl (fun _ => rfl) ?_
     simp only [Act.put,nA,nB,nC]
     refine wpQuiet_load1 rfl 37 (.tmp 59) rfl w.heap.size 2 rfl _ _ (fun w' hf => (HK.out.frT hf.1 (by decide)).cell_at rfl) rfl rfl ?_
     simp only [Act.put,nA,nB,nC]
     refine wpQuiet_rfl (.int .i64 (i : Int)) rfl (fun _ => rfl) ?_
     simp only [Act.put,nA,nB,nC]
     refine wpQuiet_index rfl 37 (.tmp 60) (.tmp 61) rfl b off t.outs.length co i 2 .i64 65 rfl rfl hlt (by kernel_rfl) (by kernel_rfl) ?_
     simp only [Act.put,nA,nB,nC]
     refine wpQuiet_val (.pointer (some ⟨b,off + i * 2,none⟩)) rfl (fun _ _ => rfl) ?_
     simp only [Act.put,nA,nB,nC]
     refine wpQuiet_load1 rfl 2 (.tmp 63) rfl b (off + i * 2) rfl (.int .i64 x.value) _ (fun w' hf => C0.out w' hf) rfl rfl ?_
     simp only [Act.put,nA,nB,nC]
     refine wpQuiet_rfl (.pointer (some ⟨w.heap.size,2,none⟩)) rfl (fun _ => rfl) ?_
     simp only [Act.put,nA,nB,nC]
     refine wpQuiet_load1 rfl 37 (.tmp 65) rfl w.heap.size 2 rfl _ _ (fun w' hf => (HK.out.frT hf.1 (by decide)).cell_at rfl) rfl rfl ?_
     simp only [Act.put,nA,nB,nC]
     refine wpQuiet_rfl (.int .i64 (i : Int)) rfl (fun _ => rfl) ?_
     simp only [Act.put,nA,nB,nC]
     refine wpQuiet_index rfl 37 (.tmp 66) (.tmp 67) rfl b off t.outs.length co i 2 .i64 65 rfl rfl hlt (by kernel_rfl) (by kernel_rfl) ?_
     simp only [Act.put,nA,nB,nC]
     refine wpQuiet_val (.pointer (some ⟨b,off + i * 2 + 1,none⟩)) rfl (fun _ _ => rfl) ?_
     simp only [Act.put,nA,nB,nC]
     refine wpQuiet_load1 rfl 29 (.tmp 69) rfl b (off + i * 2 + 1) rfl sv _ (fun w' hf => C1.out w' hf) rfl rfl ?_
     simp only [Act.put,nA,nB,nC]
     refine wpQuiet_nil ?_
     refine segS_act 17 rfl rfl (by kernel_rfl) ?_
     go_wp2_with fail
     have hS : ∀ w',Fr [] wr w' → FrT 237 wr w' ∧ Below w.heap.size wr w' := fun w' h => ⟨h.toT,h.below.mono HF.out.size⟩
     have HSx := hid hS; clear hS
     refine (copied_c _ sv x.script (HSV.out.drew) (by have := Hs.out.oscript x hxm; omega)).mono ?_
     rintro e w5 ⟨sv',rfl,hf,hso⟩
     have HF5 : Hid (Fr [] wr w5) := (Fr.refl _ _).drew.trans hf
     have HS5 : Hid (BytesT w5.heap.size w5 sv' x.script) := owns_rdT hso
     clear hf hso
     go_wp2_with fail
     refine ⟨fun _ => HSx.out _ HF5.out, ?_⟩
     obtain ⟨a1,n1,c1,rfl⟩ : ∃ a1 n1 c1,sv' = .slice a1 n1 c1 := by obtain ⟨_,_,h,_⟩ := HS5.out; exact ⟨_,_,_,h⟩
     obtain ⟨d,hd⟩ : ∃ d,d = [Value.int .i64 x.value,.slice a1 n1 c1] := ⟨_,rfl⟩
     have Hd := hid hd; clear hd
     refine segS_quiet (fuel := 6) (by kernel_rfl) (fun d _ _ _ _ h => by cases d <;> exact h) (HSx.out _ HF5.out) [18] _ _ (by kernel_rfl) ?_
     simp only [pickL,nthO]
     refine wpQuiet_build rfl 236 _ rfl [(0,.int .i64 x.value),(1,.slice a1 n1 c1)] (by simp only [List.map_toArray]; rfl)
      [[.int .i64 0],[.slice none 0 0]] (by kernel_rfl) (by simp [offs,Value.cells]) d (by rw [Hd.out]; simp [Value.cells]) ?_
     simp only [Act.put,nA,nB,nC]
     refine wpQuiet_nil ?_
     refine segS_act 19 rfl rfl (by kernel_rfl) ?_
     go_wp2_with fail
     have HF7 : Hid (Fr [] w5 (w5.alloc (.cells d.toArray 236))) := (Fr.refl _ _).alloc _
     have HD7 : Hid (Blk (w5.alloc (.cells d.toArray 236)) w5.heap.size 236 d) := Blk.new _ _ _
     refine ⟨fun _ => HSx.out _ (HF5.out.trans HF7.out), ?_⟩
     generalize World.alloc w5 _ = w7 at HF7 HD7 ⊢
     obtain ⟨D,hD⟩ : ∃ D,D = w5.heap.size := ⟨_,rfl⟩
     rw [← hD] at HD7 ⊢
     have HDd := hid hD; clear hD
     refine segS_act 20 rfl rfl (by kernel_rfl) ?_
     go_wp2_with fail
     have HF8 : Hid (Fr [] w7 (w7.alloc (.cells [.pointer (some ⟨D,0,none⟩)].toArray 237))) := (Fr.refl _ _).alloc _
     have HP8 : Hid (Blk (w7.alloc (.cells [.pointer (some ⟨D,0,none⟩)].toArray 237)) w7.heap.size 237 [.pointer (some ⟨D,0,none⟩)]) := Blk.new _ _ _
     refine ⟨fun _ => HSx.out _ ((HF5.out.trans HF7.out).trans HF8.out), ?_⟩
     generalize World.alloc w7 _ = w8 at HF8 HP8 ⊢
     obtain ⟨N8,hN8⟩ : ∃ N8,N8 = w7.heap.size := ⟨_,rfl⟩
     rw [← hN8] at HP8 ⊢
     have HN8 := hid hN8; clear hN8
     have HF38 : Hid (Fr [] wr w8) := (HF5.out.trans HF7.out).trans HF8.out
     have HG8 : Hid (Grows w.heap.size 237 1 OutPt w8 ov' (t.outs.take i)) := HG.out.fr HF38.out (fun _ _ h => (h.below HF38.out.below (fun _ _ h => h.below HF38.out.below)).mono HF38.out.size (fun _ _ h => h.mono HF38.out.size))
     have HI8 : Hid (Grows w.heap.size 228 1 InP w8 iv' t.ins) := HGi.out.fr HF38.out (fun _ _ h => (h.below HF38.out.below (fun _ _ h => h.below HF38.out.below)).mono HF38.out.size (fun _ _ h => h.mono HF38.out.size))
     have HY : Hid (OutPt w8 [.pointer (some ⟨D,0,none⟩)] x) := by
      have h68 : Fr [] w5 w8 := HF7.out.trans HF8.out
      have hDlt : D < w8.heap.size := Nat.lt_of_lt_of_le HD7.out.lt HF8.out.size
      exact ⟨D,d,rfl,hDlt,HD7.out.fr HF8.out (by simp),_,Hd.out,(HS5.out.below h68.below).mono h68.size⟩
     have HE8 : Hid (∀ w',FrT 237 w8 w' → ∀ c y,OutPt w8 c y → OutPt w' c y) := by
      intro w' hf c y h
      exact (h.frT hf (by decide) (fun _ _ h => h.frT hf (by decide))).mono hf.size (fun _ _ h => h.mono hf.size)
     have HM8 : Hid (Blk w8 (w.heap.size + 1) 227 [.int .i32 t.version,iv',ov',.int .u32 t.lock]) := HM.out.fr HF38.out (by simp)
     have HK8 := hid (HK.out.fr HF38.out (by simp))
     have hby : ((t.outs.take i).length + 1) * 8 ≤ 140737488355328 := by have := Hs.out.outs; simp; omega
     have hbs : w.heap.size ≤ w8.heap.size := Nat.le_trans HF.out.size HF38.out.size
     refine segS_act 21 rfl rfl (by kernel_rfl) ?_
     refine wpList_push rfl (.tmp 58) (.tmp 74) 225 rfl 237 1 8 elem225 w.heap.size OutPt ov' (t.outs.take i) rfl HG8.out N8 237 [.pointer (some ⟨D,0,none⟩)] HP8.out rfl rfl (by intro u hu; rw [List.mem_singleton] at hu; subst hu; rfl) HE8.out x HY.out hby hbs ?_
     intro iv2 w9 HG9 HFT9 HFo9
     have HF89 : Hid (Below w.heap.size w8 w9) := HFo9.out.to_below hbs (fun k hk => (HG8.out.own k (own1_mem hk)).1)
     have HST : Hid (FrT 237 wr w9 ∧ Below w.heap.size wr w9) := ⟨HF38.out.toT.trans' HFT9.out,(HSx.out _ HF38.out).2.trans HF89.out⟩
     refine wpList_nil ?_
     refine ⟨fun _ => HST.out, ?_⟩
     simp only [Act.put,nA,nB,nC]
     have HM9 : Hid (Blk w9 (w.heap.size + 1) 227 [.int .i32 t.version,iv',ov',.int .u32 t.lock]) := HM8.out.frT HFT9.out (by decide)
     have HI9 : Hid (Grows w.heap.size 228 1 InP w9 iv' t.ins) := HI8.out.frT HFT9.out (by decide) (fun c y h => (h.frT HFT9.out (by decide) (fun _ _ h => h.frT HFT9.out (by decide) (by decide))).mono HFT9.out.size (fun _ _ h => h.mono HFT9.out.size))
     have HK9 := hid (HK8.out.frT HFT9.out (by decide))
     have HF9 : Hid (Fr [] w w9) := (HF.out.trans HF38.out).andThen HFo9.out (fun k hk => .inr (HG8.out.own k (own1_mem hk)).1)
     obtain ⟨a3,c3,rfl⟩ : ∃ a3 c3,iv2 = .slice a3 (t.outs.take i ++ [x]).length c3 := HG9.out.slice
     have hm9 := HM9.out.lt
     have c9 : w9.cell? ⟨w.heap.size + 1,2,none⟩ = some ov' := HM9.out.cell_at rfl
     have f9 := HM9.out.free 2
     have HM10 : Hid (Blk (w9.setCell ⟨w.heap.size + 1,2,none⟩ (.slice a3 (t.outs.take i ++ [x]).length c3)) (w.heap.size + 1) 227 [.int .i32 t.version,iv',.slice a3 (t.outs.take i ++ [x]).length c3,.int .u32 t.lock]) := HM9.out.set 2 _
     have HF10 : Hid (Fr [] w (w9.setCell ⟨w.heap.size + 1,2,none⟩ (.slice a3 (t.outs.take i ++ [x]).length c3))) := ((HF9.out.mono (S' := [w.heap.size + 1]) (by simp)).setCell _ _ (by simp)).drop (by simp)
     have hft : FrT 227 w9 (w9.setCell ⟨w.heap.size + 1,2,none⟩ (.slice a3 (t.outs.take i ++ [x]).length c3)) :=
      Fr.frT (S := [w.heap.size + 1]) ((Fr.refl _ _).setCell _ _ (by simp)) (fun k hk _ => by rw [List.mem_singleton] at hk; subst hk; exact ⟨_,_,HM9.out⟩)
     have HFT10 := hid hft; clear hft
     have HG10 : Hid (Grows w.heap.size 237 1 OutPt (w9.setCell ⟨w.heap.size + 1,2,none⟩ (.slice a3 (t.outs.take i ++ [x]).length c3)) (.slice a3 (t.outs.take i ++ [x]).length c3) (t.outs.take i ++ [x])) :=
      HG9.out.frT HFT10.out (by decide) (fun c y h => (h.frT HFT10.out (by decide) (fun _ _ h => h.frT HFT10.out (by decide))).mono HFT10.out.size (fun _ _ h => h.mono HFT10.out.size))
     have HI10 : Hid (Grows w.heap.size 228 1 InP (w9.setCell ⟨w.heap.size + 1,2,none⟩ (.slice a3 (t.outs.take i ++ [x]).length c3)) iv' t.ins) := HI9.out.frT HFT10.out (by decide) (fun c y h => (h.frT HFT10.out (by decide) (fun _ _ h => h.frT HFT10.out (by decide) (by decide))).mono HFT10.out.size (fun _ _ h => h.mono HFT10.out.size))
     have HK10 := hid (HK9.out.frT HFT10.out (by decide))
     have htk : t.outs.take i ++ [x] = t.outs.take (i + 1) := by rw [List.take_add_one,List.getElem?_eq_getElem hlt,HX.out]; rfl
     obtain ⟨n3,hn3⟩ : ∃ n3,n3 = (t.outs.take i ++ [x]).length := ⟨_,rfl⟩
     rw [← hn3] at HM10 HF10 HG10 HI10 HK10 HFT10 ⊢
     rw [htk] at HG10
     have Hn3 := hid hn3; clear hn3
     clear htk
     refine segS_act 22 rfl rfl (by kernel_rfl) ?_
     go_wp2_with fail
     refine ⟨fun _ => HST.out, ?_⟩
     refine segS_act 23 rfl rfl (by kernel_rfl) ?_
     go_wp2_with fail
     refine ⟨fun _ => HST.out, ?_⟩
     refine segS_act 24 rfl rfl (by kernel_rfl) ?_
     go_wp2_with fail
     refine ⟨fun h => absurd rfl h, ?_⟩
     refine segS_end (by kernel_rfl) ?_
     generalize World.setCell w9 _ _ = w10 at HM10 HF10 HG10 HI10 HK10 HFT10 ⊢
     have hi6 : (i : Int) < 1000000 := by have := Hs.out.outs; omega
     go_wp2_with fail
     go_roundg (t.outs.length - (i + 1))
     case measure => omega
     case rel => exact ⟨i + 1,_,rfl,by omega,by simp,HM10.out,HI10.out,HG10.out,HF10.out,HK10.out⟩
    ·obtain rfl : i = t.outs.length := by omega
     rw [List.take_length] at HG
     go_wp2_with fail
     go_ret
     exact ⟨_,_,rfl,HF.out,by omega,HM.out,_,_,rfl,HGi.out.listT,HG.out.listT⟩
end Go.Proofs.YtdllckiidegpcaaGreat
