/- A part of the walk of laws.FnPartial (part 50): contracts of functions that it comes to, and the plain laws that these lean on. Conditions stand in each contract. -/
import Derived.Test.YtdllckiidegpcaaGreatA44
import Derived.Test.YtdllckiidegpcaaGreatA46
import Derived.Test.YtdllckiidegpcaaGreatA47
set_option linter.unusedSimpArgs false
set_option linter.unusedVariables false
set_option maxHeartbeats 4000000
namespace Go.Proofs.YtdllckiidegpcaaGreat
open Go.RowKit
@[go_sem] theorem ta66 (v : Value) (w : World) : (Instr.typeAssert (.iface 66 v) 138 66 true).run Tryz.prog w = .ok (.tuple #[v,.bool true]) w := by kernel_rfl
@[go_sem] theorem ta238 (v : Value) (w : World) : (Instr.typeAssert (.iface 66 v) 138 238 true).run Tryz.prog w = .ok (.tuple #[.pointer none,.bool false]) w := by kernel_rfl
@[go_sem] theorem ta132 (v : Value) (w : World) : (Instr.typeAssert (.iface 66 v) 138 132 true).run Tryz.prog w = .ok (.tuple #[.pointer none,.bool false]) w := by kernel_rfl
@[go_sem] theorem ta140 (v : Value) (w : World) : (Instr.typeAssert (.iface 66 v) 138 140 true).run Tryz.prog w = .ok (.tuple #[.pointer none,.bool false]) w := by kernel_rfl
@[go_sem] theorem ta143 (v : Value) (w : World) : (Instr.typeAssert (.iface 66 v) 138 143 true).run Tryz.prog w = .ok (.tuple #[.pointer none,.bool false]) w := by kernel_rfl
@[go_sem] theorem ta145 (v : Value) (w : World) : (Instr.typeAssert (.iface 66 v) 138 145 true).run Tryz.prog w = .ok (.tuple #[.pointer none,.bool false]) w := by kernel_rfl
@[go_sem] theorem ta150 (v : Value) (w : World) : (Instr.typeAssert (.iface 66 v) 138 150 true).run Tryz.prog w = .ok (.tuple #[.pointer none,.bool false]) w := by kernel_rfl
@[go_sem] theorem ta152 (v : Value) (w : World) : (Instr.typeAssert (.iface 66 v) 138 152 true).run Tryz.prog w = .ok (.tuple #[.pointer none,.bool false]) w := by kernel_rfl
@[go_sem] theorem ta154 (v : Value) (w : World) : (Instr.typeAssert (.iface 66 v) 138 154 true).run Tryz.prog w = .ok (.tuple #[.pointer none,.bool false]) w := by kernel_rfl
@[go_sem] theorem ta158 (v : Value) (w : World) : (Instr.typeAssert (.iface 66 v) 138 158 true).run Tryz.prog w = .ok (.tuple #[.pointer none,.bool false]) w := by kernel_rfl
@[go_sem] theorem ta160 (v : Value) (w : World) : (Instr.typeAssert (.iface 66 v) 138 160 true).run Tryz.prog w = .ok (.tuple #[.pointer none,.bool false]) w := by kernel_rfl
@[go_sem] theorem ta166 (v : Value) (w : World) : (Instr.typeAssert (.iface 66 v) 138 166 true).run Tryz.prog w = .ok (.tuple #[.pointer none,.bool false]) w := by kernel_rfl
@[go_sem] theorem ta122 (v : Value) (w : World) : (Instr.typeAssert (.iface 66 v) 138 122 true).run Tryz.prog w = .ok (.tuple #[.pointer none,.bool false]) w := by kernel_rfl
@[go_sem] theorem ta169 (v : Value) (w : World) : (Instr.typeAssert (.iface 66 v) 138 169 true).run Tryz.prog w = .ok (.tuple #[.pointer none,.bool false]) w := by kernel_rfl
@[go_sem] theorem cmCommand (v : Value) (w : World) : (callMethod (.iface 66 v) "Command" #[]).run Tryz.prog w = .ok (.enter 219 #[v]) w := by kernel_rfl
section
set_option maxRecDepth 8000
theorem msg_set (cmd : ByteArray) (n : Int) (hv hd bv : Value) : ((((msgC cmd (.slice none 0 0) (.slice none 0 0) (.slice none 0 0) 0).set 69 hd).set 147 (.int .u32 n)).set 4 hv).set 144 bv = msgC cmd hv hd bv n := rfl
theorem hdr_list {w : World} {N : Nat} {h : Hdr} (hN : Blk w N 25 h.cells) (hl : h.cells.length = 68) : ListT w.heap.size 25 68 HdrE w (.slice (some ⟨N,0,none⟩) 1 1) [h] := by
 refine ⟨[h.cells],rfl,by simp [hl],⟨some ⟨N,0,none⟩,1,rfl,Nat.le_refl _,by decide,.inr ⟨N,0,h.cells.toArray,(0,0),rfl,hN.lt,hN,fun i hi => hN.cell_at ?_⟩⟩, ?_⟩
 ·simp only [List.flatten_cons,List.flatten_nil,List.append_nil] at hi ⊢
  rw [Nat.zero_add,List.getElem?_eq_getElem hi]
 ·intro i h1 h2
  match i,h1,h2 with
  | 0,_,_ => rfl
set_option maxHeartbeats 4000000 in
theorem ofFilter_c (w : World) (B : Nat) (hBw : B ≤ w.heap.size) (M G : Nat) (hMG : M ≠ G) (h : Hdr) (hk : h.Ok) (cmd : ByteArray) (hM : Blk w M 45 (msgC cmd (.slice none 0 0) (.slice none 0 0) (.slice none 0 0) 0)) (n : Nat) (hv fl : Value) (hG : Blk w G 125 (h.wire ++ [.int .u32 n,hv,fl]))
  (hs : List (List Int)) (hl : ∀ l ∈ hs,l.length = 32) (hn : hs.length ≤ 100000) (hH : ListT B 111 1 HpE w hv hs) (bs : List Int) (hbn : bs.length ≤ 100000) (hfl : Bytes w fl bs) :
  Calls Tryz.prog 53 #[.pointer (some ⟨M,0,none⟩),.iface 66 (.pointer (some ⟨G,0,none⟩))] w fun e w' => e = .returned (.tuple #[]) ∧ Fr [M] w w' ∧ ∃ hv' hd' bv',Blk w' M 45 (msgC cmd hv' hd' bv' n) ∧ ListT w'.heap.size 22 32 HashE w' hv' hs ∧ ListT w'.heap.size 25 68 HdrE w' hd' [h] ∧ BytesT w'.heap.size w' bv' bs ∧ bv'.oneCell' = true := by
 have hv0 := hH.listB (E' := HpE) (fun _ _ h => h)
 obtain ⟨ah,ch,rfl,hq1,hq2⟩ := hv0.len
 clear hq1 hq2 hv0
 obtain ⟨af,cf,rfl,hq1,hq2,hq3⟩ := ints_cases hfl
 clear hq1 hq2 hq3
 have hwl := Hdr.wire_length hk
 have d68 : (h.wire ++ [Value.int .u32 n,.slice ah hs.length ch,.slice af bs.length cf])[68]? = some (.int .u32 n) := by rw [List.getElem?_append_right (by omega),hwl]; rfl
 have d69 : (h.wire ++ [Value.int .u32 n,.slice ah hs.length ch,.slice af bs.length cf])[69]? = some (.slice ah hs.length ch) := by rw [List.getElem?_append_right (by omega),hwl]; rfl
 have d70 : (h.wire ++ [Value.int .u32 n,.slice ah hs.length ch,.slice af bs.length cf])[70]? = some (.slice af bs.length cf) := by rw [List.getElem?_append_right (by omega),hwl]; rfl
 have HC : Hid (∀ w',Fr [M] w w' → ∀ j v,(h.wire ++ [Value.int .u32 n,.slice ah hs.length ch,.slice af bs.length cf])[j]? = some v → w'.cell? ⟨G,j,none⟩ = some v) := fun w' hf j v hv => (hG.fr hf (by simpa using (Ne.symm hMG))).cell_at hv
 have HW : Hid (∀ j v,h.wire[j]? = some v → (h.wire ++ [Value.int .u32 n,.slice ah hs.length ch,.slice af bs.length cf])[j]? = some v) := fun j v hv => by rw [List.getElem?_append_left (List.getElem?_eq_some_iff.mp hv).1]; exact hv
 have Hd68 := hid d68; clear d68
 have Hd69 := hid d69; clear d69
 have Hd70 := hid d70; clear d70
 have Hhwl := hid hwl; clear hwl
 have Hhk := hid hk; clear hk
 have HhM := hid hM; clear hM
 have HhG := hid hG; clear hG
 have HhH := hid hH; clear hH
 have Hhfl := hid hfl; clear hfl
 have Hhl := hid hl; clear hl
 have HhMG := hid hMG; clear hMG
 have Hhn := hid hn; clear hn
 have Hhbn := hid hbn; clear hbn
 go_enter Tryz.func53,Tryz.ntmps53
 go_upto_region 9 with fail
 refine seg_begin (fun w' => Fr [M] w w') (by kernel_rfl) ?_
 refine seg_quiet (fuel := 16) (by kernel_rfl) (fun d _ _ _ _ h => by cases d <;> exact h) ((Fr.refl _ _).drew) [0,1,2,3,4,5,6,9,10,11,12,13,14,15,16,18,19,20,21] _ _ (by kernel_rfl) ?_
 simp only [pickL,nthO]
 refine wpQuiet_rfl (.pointer (some ⟨M,0,none⟩)) rfl (fun _ => rfl) ?_
 simp only [Act.put,nA,nB,nC]
 refine wpQuiet_rfl (.pointer (some ⟨M,0,none⟩)) rfl (fun _ => rfl) ?_
 simp only [Act.put,nA,nB,nC]
 refine wpQuiet_rfl (.pointer (some ⟨M,0,none⟩)) rfl (fun _ => rfl) ?_
 simp only [Act.put,nA,nB,nC]
 refine wpQuiet_rfl (.pointer (some ⟨M,0,none⟩)) rfl (fun _ => rfl) ?_
 simp only [Act.put,nA,nB,nC]
 refine wpQuiet_rfl (.pointer (some ⟨G,0,none⟩)) rfl (fun _ => rfl) ?_
 simp only [Act.put,nA,nB,nC]
 refine wpQuiet_rfl (.pointer (some ⟨G,0,none⟩)) rfl (fun _ => rfl) ?_
 simp only [Act.put,nA,nB,nC]
 refine wpQuiet_rfl (.pointer (some ⟨G,0,none⟩)) rfl (fun _ => rfl) ?_
 simp only [Act.put,nA,nB,nC]
 refine wpQuiet_rfl (.pointer (some ⟨G,0,none⟩)) rfl (fun _ => rfl) ?_
 simp only [Act.put,nA,nB,nC]
 refine wpQuiet_rfl (.pointer (some ⟨G,0,none⟩)) rfl (fun _ => rfl) ?_
 simp only [Act.put,nA,nB,nC]
 refine wpQuiet_rfl (.pointer (some ⟨G,68,none⟩)) rfl (fun _ => rfl) ?_
 simp only [Act.put,nA,nB,nC]
 refine wpQuiet_load1 rfl 23 (.tmp 72) rfl G 68 rfl (.int .u32 n) _ (fun w' hf => HC.out w' hf _ _ Hd68.out) rfl rfl ?_
 simp only [Act.put,nA,nB,nC]
 refine wpQuiet_rfl (.pointer (some ⟨G,0,none⟩)) rfl (fun _ => rfl) ?_
 simp only [Act.put,nA,nB,nC]
 refine wpQuiet_rfl (.pointer (some ⟨G,0,none⟩)) rfl (fun _ => rfl) ?_
 simp only [Act.put,nA,nB,nC]
 refine wpQuiet_rfl (.pointer (some ⟨G,69,none⟩)) rfl (fun _ => rfl) ?_
 simp only [Act.put,nA,nB,nC]
 refine wpQuiet_load1 rfl 106 (.tmp 76) rfl G 69 rfl (.slice ah hs.length ch) _ (fun w' hf => HC.out w' hf _ _ Hd69.out) rfl rfl ?_
 simp only [Act.put,nA,nB,nC]
 refine wpQuiet_rfl (.pointer (some ⟨G,0,none⟩)) rfl (fun _ => rfl) ?_
 simp only [Act.put,nA,nB,nC]
 refine wpQuiet_rfl (.pointer (some ⟨G,0,none⟩)) rfl (fun _ => rfl) ?_
 simp only [Act.put,nA,nB,nC]
 refine wpQuiet_rfl (.pointer (some ⟨G,70,none⟩)) rfl (fun _ => rfl) ?_
 simp only [Act.put,nA,nB,nC]
 refine wpQuiet_load1 rfl 29 (.tmp 81) rfl G 70 rfl (.slice af bs.length cf) _ (fun w' hf => HC.out w' hf _ _ Hd70.out) rfl rfl ?_
 simp only [Act.put,nA,nB,nC]
 refine wpQuiet_nil ?_
 refine seg_act 7 rfl rfl (by kernel_rfl) ?_
 go_wp2_with fail
 refine (ofHeader_c w.drew G h Hhk.out HhG.out.lt (fun j v hv => HC.out _ (Fr.refl _ _).drew j v (HW.out j v hv))).mono ?_
 rintro e w2 ⟨rfl,hf⟩
 have HF2 : Hid (Fr [] w w2) := (Fr.refl _ _).drew.trans hf
 clear hf
 go_wp2_with fail
 refine ⟨HF2.out.mono (by simp),fun _ => ?_⟩
 have HHl := hid (Hdr.cells_length Hhk.out)
 refine seg_two 8 17 (oi := ⟨some 69,_,_,_,_,_⟩) (oj := ⟨some 78,_,_,_,_,_⟩) rfl rfl rfl rfl (by kernel_rfl) ?_ ?_
 refine wpList_bs1 rfl 43 (.tmp 68) rfl 25 68 80 elem43 (by decide) (.agg h.cells.toArray) h.cells rfl rfl (by rw [HHl.out]) ?_
 refine wpList_nil ?_
 simp only [Act.put,nA,nB,nC]
 have HF3 : Hid (Fr [] w (w2.alloc (.cells h.cells.toArray 25))) := HF2.out.alloc _
 have HN3 : Hid (Blk (w2.alloc (.cells h.cells.toArray 25)) w2.heap.size 25 h.cells) := Blk.new _ _ _
 refine ⟨HF3.out.mono (by simp),fun _ => ?_⟩
 generalize World.alloc w2 _ = w3 at HF3 HN3 ⊢
 obtain ⟨N,hN⟩ : ∃ N,N = w2.heap.size := ⟨_,rfl⟩
 rw [← hN] at HN3 ⊢
 clear hN
 refine seg_act 17 (o := ⟨some 78,_,_,_,_,_⟩) rfl rfl (by kernel_rfl) ?_
 focus go_wp2_with fail
 refine (ofHashes_c w3 B (Nat.le_trans hBw HF3.out.size) _ hs Hhl.out Hhn.out (HhH.out.below (HF3.out.below.mono hBw) (fun _ _ h => h.fr HF3.out))).mono ?_
 rintro e w4 ⟨v78,rfl,hf,hL⟩
 have HF4 := hid (HF3.out.trans hf)
 have HL4 := hid hL
 have HN4 := hid (HN3.out.fr hf (by simp))
 clear hf hL
 focus go_wp2_with fail
 refine ⟨HF4.out.mono (by simp),fun _ => ?_⟩
 refine seg_act 22 (o := ⟨some 83,_,_,_,_,_⟩) rfl rfl (by kernel_rfl) ?_
 focus go_wp2_with fail
 refine (copied_c w4 _ bs (Rd.below Hhfl.out HF4.out.below) (by have := Hhbn.out; omega)).mono ?_
 rintro e w5 ⟨v83,rfl,hf,hb⟩
 have HF5 := hid (HF4.out.trans hf)
 have HB5 : Hid (BytesT w5.heap.size w5 v83 bs) := owns_rdT hb
 have HL5 : Hid (ListT w5.heap.size 22 32 HashE w5 v78 hs) := (HL4.out.below hf.below (fun _ _ h => h)).mono hf.size (fun _ _ h => h)
 have HN5 := hid (HN4.out.fr hf (by simp))
 clear hf hb
 focus go_wp2_with fail
 refine ⟨HF5.out.mono (by simp),fun _ => ?_⟩
 rotate_left
 focus go_wp2_with fail
 refine (ofHashes_c w2 B (Nat.le_trans hBw HF2.out.size) _ hs Hhl.out Hhn.out (HhH.out.below (HF2.out.below.mono hBw) (fun _ _ h => h.fr HF2.out))).mono ?_
 rintro e w3 ⟨v78,rfl,hf,hL⟩
 have HF3 := hid (HF2.out.trans hf)
 have HL3 := hid hL
 clear hf hL
 focus go_wp2_with fail
 refine ⟨HF3.out.mono (by simp),fun _ => ?_⟩
 refine seg_two 8 22 (oi := ⟨some 69,_,_,_,_,_⟩) (oj := ⟨some 83,_,_,_,_,_⟩) rfl rfl rfl rfl (by kernel_rfl) ?_ ?_
 refine wpList_bs1 rfl 43 (.tmp 68) rfl 25 68 80 elem43 (by decide) (.agg h.cells.toArray) h.cells rfl rfl (by rw [HHl.out]) ?_
 refine wpList_nil ?_
 simp only [Act.put,nA,nB,nC]
 have HF4 : Hid (Fr [] w (w3.alloc (.cells h.cells.toArray 25))) := HF3.out.alloc _
 have HN4 : Hid (Blk (w3.alloc (.cells h.cells.toArray 25)) w3.heap.size 25 h.cells) := Blk.new _ _ _
 have HL4 : Hid (ListT (w3.alloc (.cells h.cells.toArray 25)).heap.size 22 32 HashE (w3.alloc (.cells h.cells.toArray 25)) v78 hs) := (HL3.out.below ((Fr.refl [] w3).alloc _).below (fun _ _ h => h)).mono ((Fr.refl [] w3).alloc _).size (fun _ _ h => h)
 refine ⟨HF4.out.mono (by simp),fun _ => ?_⟩
 generalize World.alloc w3 _ = w4 at HF4 HN4 HL4 ⊢
 obtain ⟨N,hN⟩ : ∃ N,N = w3.heap.size := ⟨_,rfl⟩
 rw [← hN] at HN4 ⊢
 clear hN
 refine seg_act 22 (o := ⟨some 83,_,_,_,_,_⟩) rfl rfl (by kernel_rfl) ?_
 focus go_wp2_with fail
 refine (copied_c w4 _ bs (Rd.below Hhfl.out HF4.out.below) (by have := Hhbn.out; omega)).mono ?_
 rintro e w5 ⟨v83,rfl,hf,hb⟩
 have HF5 := hid (HF4.out.trans hf)
 have HB5 : Hid (BytesT w5.heap.size w5 v83 bs) := owns_rdT hb
 have HL5 : Hid (ListT w5.heap.size 22 32 HashE w5 v78 hs) := (HL4.out.below hf.below (fun _ _ h => h)).mono hf.size (fun _ _ h => h)
 have HN5 := hid (HN4.out.fr hf (by simp))
 clear hf hb
 focus go_wp2_with fail
 refine ⟨HF5.out.mono (by simp),fun _ => ?_⟩
 rotate_left
 focus go_wp2_with fail
 refine (copied_c w3 _ bs (Rd.below Hhfl.out HF3.out.below) (by have := Hhbn.out; omega)).mono ?_
 rintro e w4 ⟨v83,rfl,hf,hb⟩
 have HF4 := hid (HF3.out.trans hf)
 have HB4 : Hid (BytesT w4.heap.size w4 v83 bs) := owns_rdT hb
 have HL4 : Hid (ListT w4.heap.size 22 32 HashE w4 v78 hs) := (HL3.out.below hf.below (fun _ _ h => h)).mono hf.size (fun _ _ h => h)
 clear hf hb
 focus go_wp2_with fail
 refine ⟨HF4.out.mono (by simp),fun _ => ?_⟩
 refine seg_act 8 (o := ⟨some 69,_,_,_,_,_⟩) rfl rfl (by kernel_rfl) ?_
 refine wpList_bs1 rfl 43 (.tmp 68) rfl 25 68 80 elem43 (by decide) (.agg h.cells.toArray) h.cells rfl rfl (by rw [HHl.out]) ?_
 refine wpList_nil ?_
 simp only [Act.put,nA,nB,nC]
 have HF5 : Hid (Fr [] w (w4.alloc (.cells h.cells.toArray 25))) := HF4.out.alloc _
 have HN5 : Hid (Blk (w4.alloc (.cells h.cells.toArray 25)) w4.heap.size 25 h.cells) := Blk.new _ _ _
 have HL5 : Hid (ListT (w4.alloc (.cells h.cells.toArray 25)).heap.size 22 32 HashE (w4.alloc (.cells h.cells.toArray 25)) v78 hs) := (HL4.out.below ((Fr.refl [] w4).alloc _).below (fun _ _ h => h)).mono ((Fr.refl [] w4).alloc _).size (fun _ _ h => h)
 have HB5 : Hid (BytesT (w4.alloc (.cells h.cells.toArray 25)).heap.size (w4.alloc (.cells h.cells.toArray 25)) v83 bs) := (HB4.out.below ((Fr.refl [] w4).alloc _).below).mono ((Fr.refl [] w4).alloc _).size
 refine ⟨HF5.out.mono (by simp),fun _ => ?_⟩
 generalize World.alloc w4 _ = w5 at HF5 HN5 HL5 HB5 ⊢
 obtain ⟨N,hN⟩ : ∃ N,N = w4.heap.size := ⟨_,rfl⟩
 rw [← hN] at HN5 ⊢
 clear hN
 all_goals
  have HM5 := hid (HhM.out.fr HF5.out (by simp))
  have HS5 : Hid (Fr [M] w w5) := HF5.out.mono (by simp)
  have HT5 : Hid (FrT 45 w5 w5) := (Fr.refl [] w5).toT
  obtain ⟨a7,c7,rfl,hq1,hq2⟩ := (HL5.out.listB (E' := HashE) (fun _ _ h => h)).len
  clear hq1 hq2
  obtain ⟨a8,c8,rfl,hq1,hq2,hq3⟩ := ints_cases (HB5.out.rdB : Bytes w5 v83 bs)
  clear hq1 hq2 hq3
  refine seg_quiet (fuel := 10) (by kernel_rfl) (fun d _ _ _ _ h => by cases d <;> exact h) (HS5.out) [23,24] _ _ (by kernel_rfl) ?_
  simp only [pickL,nthO]
  refine wpQuiet_rfl (.pointer (some ⟨M,0,none⟩)) rfl (fun _ => rfl) ?_
  simp only [Act.put,nA,nB,nC]
  refine wpQuiet_rfl (.pointer (some ⟨M,69,none⟩)) rfl (fun _ => rfl) ?_
  simp only [Act.put,nA,nB,nC]
  refine wpQuiet_nil ?_
  have hml := HM5.out.lt
  have fz := HM5.out.free 69
  have cz : w5.cell? ⟨M,69,none⟩ = some (.slice none 0 0) := HM5.out.cell_at rfl
  refine seg_act 25 (o := ⟨none,_,_,_,_,_⟩) rfl rfl (by kernel_rfl) ?_
  focus go_wp2_with fail
  have HS6 : Hid (Fr [M] w (w5.setCell ⟨M,69,none⟩ (.slice (some ⟨N,0,none⟩) 1 1))) := HS5.out.setCell _ _ (by simp)
  have HM6 := hid (HM5.out.set 69 (.slice (some ⟨N,0,none⟩) 1 1))
  have HT6 : Hid (FrT 45 w5 (w5.setCell ⟨M,69,none⟩ (.slice (some ⟨N,0,none⟩) 1 1))) := HT5.out.trans' (((Fr.refl [M] w5).setCell _ _ (by simp)).frT (fun k hk _ => by simp at hk; subst hk; exact ⟨_,_,HM5.out⟩))
  refine ⟨HS6.out,fun _ => ?_⟩
  generalize World.setCell w5 _ _ = w6 at HS6 HM6 HT6 ⊢
  clear fz cz hml HM5 HS5 HT5
  refine seg_quiet (fuel := 7) (by kernel_rfl) (fun d _ _ _ _ h => by cases d <;> exact h) (HS6.out) [26,27] _ _ (by kernel_rfl) ?_
  simp only [pickL,nthO]
  refine wpQuiet_rfl (.pointer (some ⟨M,0,none⟩)) rfl (fun _ => rfl) ?_
  simp only [Act.put,nA,nB,nC]
  refine wpQuiet_rfl (.pointer (some ⟨M,147,none⟩)) rfl (fun _ => rfl) ?_
  simp only [Act.put,nA,nB,nC]
  refine wpQuiet_nil ?_
  have hml := HM6.out.lt
  have fz := HM6.out.free 147
  have cz : w6.cell? ⟨M,147,none⟩ = some (.int .u32 0) := HM6.out.cell_at rfl
  refine seg_act 28 (o := ⟨none,_,_,_,_,_⟩) rfl rfl (by kernel_rfl) ?_
  focus go_wp2_with fail
  have HS7 : Hid (Fr [M] w (w6.setCell ⟨M,147,none⟩ (.int .u32 n))) := HS6.out.setCell _ _ (by simp)
  have HM7 := hid (HM6.out.set 147 (.int .u32 n))
  have HT7 : Hid (FrT 45 w5 (w6.setCell ⟨M,147,none⟩ (.int .u32 n))) := HT6.out.trans' (((Fr.refl [M] w6).setCell _ _ (by simp)).frT (fun k hk _ => by simp at hk; subst hk; exact ⟨_,_,HM6.out⟩))
  refine ⟨HS7.out,fun _ => ?_⟩
  generalize World.setCell w6 _ _ = w7 at HS7 HM7 HT7 ⊢
  clear fz cz hml HM6 HS6 HT6
  refine seg_quiet (fuel := 4) (by kernel_rfl) (fun d _ _ _ _ h => by cases d <;> exact h) (HS7.out) [29,30] _ _ (by kernel_rfl) ?_
  simp only [pickL,nthO]
  refine wpQuiet_rfl (.pointer (some ⟨M,0,none⟩)) rfl (fun _ => rfl) ?_
  simp only [Act.put,nA,nB,nC]
  refine wpQuiet_rfl (.pointer (some ⟨M,4,none⟩)) rfl (fun _ => rfl) ?_
  simp only [Act.put,nA,nB,nC]
  refine wpQuiet_nil ?_
  have hml := HM7.out.lt
  have fz := HM7.out.free 4
  have cz : w7.cell? ⟨M,4,none⟩ = some (.slice none 0 0) := HM7.out.cell_at rfl
  refine seg_act 31 (o := ⟨none,_,_,_,_,_⟩) rfl rfl (by kernel_rfl) ?_
  focus go_wp2_with fail
  have HS8 : Hid (Fr [M] w (w7.setCell ⟨M,4,none⟩ (.slice a7 hs.length c7))) := HS7.out.setCell _ _ (by simp)
  have HM8 := hid (HM7.out.set 4 (.slice a7 hs.length c7))
  have HT8 : Hid (FrT 45 w5 (w7.setCell ⟨M,4,none⟩ (.slice a7 hs.length c7))) := HT7.out.trans' (((Fr.refl [M] w7).setCell _ _ (by simp)).frT (fun k hk _ => by simp at hk; subst hk; exact ⟨_,_,HM7.out⟩))
  refine ⟨HS8.out,fun _ => ?_⟩
  generalize World.setCell w7 _ _ = w8 at HS8 HM8 HT8 ⊢
  clear fz cz hml HM7 HS7 HT7
  refine seg_quiet (fuel := 1) (by kernel_rfl) (fun d _ _ _ _ h => by cases d <;> exact h) (HS8.out) [32,33] _ _ (by kernel_rfl) ?_
  simp only [pickL,nthO]
  refine wpQuiet_rfl (.pointer (some ⟨M,0,none⟩)) rfl (fun _ => rfl) ?_
  simp only [Act.put,nA,nB,nC]
  refine wpQuiet_rfl (.pointer (some ⟨M,144,none⟩)) rfl (fun _ => rfl) ?_
  simp only [Act.put,nA,nB,nC]
  refine wpQuiet_nil ?_
  have hml := HM8.out.lt
  have fz := HM8.out.free 144
  have cz : w8.cell? ⟨M,144,none⟩ = some (.slice none 0 0) := HM8.out.cell_at rfl
  refine seg_act 34 (o := ⟨none,_,_,_,_,_⟩) rfl rfl (by kernel_rfl) ?_
  focus go_wp2_with fail
  have HS9 : Hid (Fr [M] w (w8.setCell ⟨M,144,none⟩ (.slice a8 bs.length c8))) := HS8.out.setCell _ _ (by simp)
  have HM9 := hid (HM8.out.set 144 (.slice a8 bs.length c8))
  have HT9 : Hid (FrT 45 w5 (w8.setCell ⟨M,144,none⟩ (.slice a8 bs.length c8))) := HT8.out.trans' (((Fr.refl [M] w8).setCell _ _ (by simp)).frT (fun k hk _ => by simp at hk; subst hk; exact ⟨_,_,HM8.out⟩))
  refine ⟨HS9.out,fun _ => ?_⟩
  generalize World.setCell w8 _ _ = w9 at HS9 HM9 HT9 ⊢
  clear fz cz hml HM8 HS8 HT8
  refine seg_end (by kernel_rfl) ?_
  focus go_wp2_with fail
  rw [msg_set] at HM9
  have HN9 := hid (HN5.out.frT HT9.out (by decide))
  have HL9 : Hid (ListT w9.heap.size 22 32 HashE w9 (.slice a7 hs.length c7) hs) := (HL5.out.frT HT9.out (by decide) (fun _ _ h => h)).mono HT9.out.size (fun _ _ h => h)
  have HB9 : Hid (BytesT w9.heap.size w9 (.slice a8 bs.length c8) bs) := (HB5.out.frT HT9.out (by decide)).mono HT9.out.size
  focus go_end0
  exact ⟨rfl,HS9.out,_,_,_,HM9.out,HL9.out,hdr_list HN9.out HHl.out,HB9.out,rfl⟩
end
section
set_option maxRecDepth 8000
/-- What ofMessage answers. -/
def OmR (n : Nat) (h : Hdr) (hs : List (List Int)) (bs : List Int) (w : World) (e : Ending) (w' : World) : Prop :=
 ∃ hv' hd' bv',e = .returned (.agg (msgC mbName hv' hd' bv' n).toArray) ∧ Fr [] w w' ∧ ListT w'.heap.size 22 32 HashE w' hv' hs ∧ ListT w'.heap.size 25 68 HdrE w' hd' [h] ∧ BytesT w'.heap.size w' bv' bs ∧ bv'.oneCell' = true
theorem ListT.one {α : Type} {B : Nat} {T : TypeId} {size : Nat} {E : World → List Value → α → Prop} {w : World} {v : Value} {l : List α} (h : ListT B T size E w v l) : v.oneCell' = true := by
 obtain ⟨cs,_,_,⟨a,c,rfl,_⟩,_⟩ := h; rfl
set_option maxHeartbeats 4000000 in
theorem ofMessage_c (w : World) (B : Nat) (hBw : B ≤ w.heap.size) (G : Nat) (h : Hdr) (hk : h.Ok) (n : Nat) (hv fl : Value) (hG : Blk w G 125 (h.wire ++ [.int .u32 n,hv,fl]))
  (hs : List (List Int)) (hl : ∀ l ∈ hs,l.length = 32) (hn : hs.length ≤ 100000) (hH : ListT B 111 1 HpE w hv hs) (bs : List Int) (hbn : bs.length ≤ 100000) (hfl : Bytes w fl bs) :
  Calls Tryz.prog 23 #[.iface 66 (.pointer (some ⟨G,0,none⟩))] w (OmR n h hs bs w) := by
 obtain ⟨zc,hzc,hzl⟩ : ∃ zc : List Value,zc = msgZ.flatten ∧ zc.length = 151 := ⟨_,rfl,by simp [msgZ,z32]⟩
 have HZl := hid hzl; clear hzl
 have Hhk := hid hk; clear hk
 have HhG := hid hG; clear hG
 have Hhl := hid hl; clear hl
 have Hhn := hid hn; clear hn
 have HhH := hid hH; clear hH
 have Hhbn := hid hbn; clear hbn
 have Hhfl := hid hfl; clear hfl
 go_enter Tryz.func23,Tryz.ntmps23
 go_upto_region 1 with fail
 have HF1 : Hid (Fr [] w (w.alloc (.cells zc.toArray 45))) := (Fr.refl _ _).alloc _
 have HR1 : Hid (Blk (w.alloc (.cells zc.toArray 45)) w.heap.size 45 zc) := Blk.new _ _ _
 change Code.wp _ _ _ _ (w.alloc (.cells msgZ.flatten.toArray 45))
 rw [← hzc]
 generalize World.alloc w _ = w1 at HF1 HR1 ⊢
 clear hzc
 obtain ⟨R,hR⟩ : ∃ R,R = w.heap.size := ⟨_,rfl⟩
 rw [← hR] at HR1 ⊢
 have HRw : Hid (w.heap.size ≤ R) := by show _ ≤ _; omega
 clear hR
 refine wp_region_lit ?_
 refine wpList_run (v := .iface 66 (.pointer (some ⟨G,0,none⟩))) rfl rfl ?_
 simp only [Act.put,nA,nB,nC]
 go_wp2_with fail
 refine (command_c w1 _).mono ?_
 rintro e w' ⟨rfl,rfl⟩
 simp only []
 refine (‹∀ (a : Act) (w : World),wpList Tryz.prog _ _ _ a w → _›) _ _ ?_
 refine wpList_build rfl 45 _ rfl [(0,.string mbName)] (by simp only [List.map_toArray]; rfl) msgZ msg_places (by simp [offs,msgZ,z32,Value.cells]) (msgC mbName (.slice none 0 0) (.slice none 0 0) (.slice none 0 0) 0) (by simp [msgZ,msgC,msgF,Value.cells]) ?_
 simp only [Act.put,nA,nB,nC]
 refine wpList_new rfl rfl 45 (.tmp 19) 3 rfl rfl rfl rfl (by simp [Act.put]) (msgC mbName (.slice none 0 0) (.slice none 0 0) (.slice none 0 0) 0) msgZ.flatten (fun _ => rfl) (by rw [msgC_length]; kernel_rfl) (fun _ => rfl) (by rw [msgC_length]; simp [msgZ,z32]) (msgC_one rfl rfl rfl) ?_
 simp only [Act.put,nA,nB,nC]
 have HF2 : Hid (Fr [] w1 (w1.alloc (.cells (msgC mbName (.slice none 0 0) (.slice none 0 0) (.slice none 0 0) 0).toArray 45))) := (Fr.refl _ _).alloc _
 have HM2 : Hid (Blk (w1.alloc (.cells (msgC mbName (.slice none 0 0) (.slice none 0 0) (.slice none 0 0) 0).toArray 45)) w1.heap.size 45 (msgC mbName (.slice none 0 0) (.slice none 0 0) (.slice none 0 0) 0)) := Blk.new _ _ _
 generalize World.alloc w1 _ = w2 at HF2 HM2 ⊢
 generalize Value.agg (msgC mbName (.slice none 0 0) (.slice none 0 0) (.slice none 0 0) 0).toArray = V19
 obtain ⟨M,hMq⟩ : ∃ M,M = w1.heap.size := ⟨_,rfl⟩
 rw [← hMq] at HM2 ⊢
 have HMw : Hid (w.heap.size ≤ M ∧ M ≠ R ∧ M ≠ G) := by have h1 := HF1.out.size; have h2 := HR1.out.lt; have h3 := HhG.out.lt; show _ ∧ _ ∧ _; omega
 clear hMq
 refine wpList_nil ?_
 simp only [Exit.then]
 have HFw := hid (HF1.out.trans HF2.out)
 go_wp2_with fail
 refine (ofFilter_c w2 B (Nat.le_trans hBw HFw.out.size) M G HMw.out.2.2 h Hhk.out mbName HM2.out n hv fl (HhG.out.fr HFw.out (by simp)) hs Hhl.out Hhn.out (HhH.out.below (HFw.out.below.mono hBw) (fun _ _ h => h.fr HFw.out)) bs Hhbn.out (Rd.below Hhfl.out HFw.out.below)).mono ?_
 rintro e w3 ⟨rfl,hf,hv',hd',bv',hM,hL,hHd,hB,hO⟩
 have HM3 := hid hM
 have HL3 := hid hL
 have HD3 := hid hHd
 have HB3 := hid hB
 have HO3 := hid hO
 have HF3 := hid (HFw.out.andThen hf (by intro k hk; simp at hk; subst hk; exact .inr HMw.out.1))
 have HR3 := hid ((HR1.out.fr HF2.out (by simp)).fr hf (by simpa using (Ne.symm HMw.out.2.1)))
 clear hf hM hL hHd hB hO
 go_upto_region 41 with fail
 refine wp_region_lit ?_
 refine wpList_load_mid rfl 45 (.tmp 3) rfl M 0 rfl (msgC mbName hv' hd' bv' n) _ (HM3.out.range) rfl rfl (by rw [msgC_length]; kernel_rfl) ?_
 simp only [Act.put,nA,nB,nC]
 refine wpList_storeB rfl 45 (.tmp 2) (.tmp 149) rfl rfl R _ (msgC mbName hv' hd' bv' n) HR3.out rfl rfl (by rw [msgC_length,HZl.out]) (by rw [msgC_length]; kernel_rfl) (msgC_one HL3.out.one HD3.out.one HO3.out) ?_
 intro w8 hf hb
 have hT : FrT 45 w3 w8 := hf.frT (fun k hk _ => by simp at hk; subst hk; exact ⟨_,_,HR3.out⟩)
 refine wpList_nil ?_
 refine (‹∀ (a : Act) (w : World),Code.wp Tryz.prog Code.ret _ a w → _›) _ _ ?_
 refine wp_ret ?_
 refine ret_cells rfl rfl _ hb rfl rfl (by rw [msgC_length]; kernel_rfl) rfl ?_
 refine ⟨_,_,_,rfl,HF3.out.andThen hf (by intro k hk; simp at hk; subst hk; exact .inr HRw.out), ?_, ?_, ?_,HO3.out⟩
 ·exact (HL3.out.frT hT (by decide) (fun _ _ h => h)).mono hT.size (fun _ _ h => h)
 ·exact (HD3.out.frT hT (by decide) (fun _ _ h => h)).mono hT.size (fun _ _ h => h)
 ·exact (HB3.out.frT hT (by decide)).mono hT.size
end
section
set_option maxRecDepth 8000
theorem trav_32 {K : List Int} {hs : List (List Int)} (hl : ∀ l ∈ hs,l.length = 32) (m : List Int) : ∀ (h p : Nat),p < wid hs.length h → ∀ x ∈ (trav K hs m h p).2,x.length = 32 := by
 intro h
 induction h with
 | zero => intro p hp x hx; rw [trav,List.mem_singleton] at hx; subst hx; exact node_len hl _ _ hp
 | succ h ih =>
  intro p hp x hx
  rw [trav] at hx
  split at hx
  ·rcases List.mem_append.mp hx with hx | hx
   ·exact ih _ (wid_step hp) _ hx
   ·split at hx
    ·rename_i hr; exact ih _ hr _ hx
    ·cases hx
  ·rw [List.mem_singleton] at hx; subst hx; exact node_len hl _ _ hp
theorem idxs_bd {m : List Int} : ∀ x ∈ idxs m,0 ≤ x ∧ x < m.length := by
 intro x hx
 unfold idxs at hx
 obtain ⟨i,hi,rfl⟩ := List.mem_map.mp hx
 have := List.mem_range.mp (List.mem_filter.mp hi).1
 omega
theorem nth_get {l : List Int} {i : Nat} (h : i < l.length) : nth l i = l[i] := by rw [nth,List.getD_eq_getElem?_getD,List.getElem?_eq_getElem h]; rfl
set_option maxHeartbeats 8000000 in
theorem partialOf_c (K : List Int) (hK : K.length = 64) (w : World) (hKc : Blk w 1 379 (ic .u32 K)) (B : Nat) (hBw : B ≤ w.heap.size) (hB1 : 1 < w.heap.size) (cf : List Value) (f : Blm) (hf : BlmE B w cf f) (hg : FGood f) (flag : Int) (hfl : 0 ≤ flag ∧ flag ≤ 2) (ck : List Value) (k : Blck) (hk : k.Ok) (hs : k.Small) (hkt : TxsOk k.txs) (hc : BlckE B w ck k) :
  Calls Tryz.prog 9 #[.agg ck.toArray,.agg cf.toArray,.int .u8 flag] w (PbR K flag f k w) := by
 have hcfl := hf.len
 have hwl := Hdr.cells_length hk.hdr
 have hckl : ck.length = 69 := by
  obtain ⟨tv,rfl,ht⟩ := hc
  rw [List.length_append,hwl]; rfl
 obtain ⟨R0,hR0⟩ : ∃ R0,R0 = PbR K flag f k w := ⟨_,rfl⟩
 rw [← hR0]
 have HhR0 := hid hR0; clear hR0
 have Hhk := hid hk; clear hk
 have Hhs := hid hs; clear hs
 have Hhkt := hid hkt; clear hkt
 have Hhc := hid hc; clear hc
 have Hhf := hid hf; clear hf
 have Hhg := hid hg; clear hg
 have HhK := hid hK; clear hK
 have HhKc := hid hKc; clear hKc
 have Hhcfl := hid hcfl; clear hcfl
 have Hhckl := hid hckl; clear hckl
 have Hhwl := hid hwl; clear hwl
 go_enter Tryz.func9,Tryz.ntmps9
 obtain ⟨zc,hzc,hzl⟩ : ∃ zc : List Value,zc = msgZ.flatten ∧ zc.length = 151 := ⟨_,rfl,by simp [msgZ,z32]⟩
 have HZl := hid hzl; clear hzl
 go_upto_region 1 with fail
 have HF1 : Hid (Fr [] w (((w.alloc (.cells ck.toArray 28)).alloc (.cells cf.toArray 31)).alloc (.cells zc.toArray 45))) := (((Fr.refl _ _).alloc _).alloc _).alloc _
 have HB1 : Hid (Blk (((w.alloc (.cells ck.toArray 28)).alloc (.cells cf.toArray 31)).alloc (.cells zc.toArray 45)) w.heap.size 28 ck) := ((Blk.new _ _ _).alloc _).alloc _
 have HT1 : Hid (Blk (((w.alloc (.cells ck.toArray 28)).alloc (.cells cf.toArray 31)).alloc (.cells zc.toArray 45)) (w.heap.size + 1) 31 cf) := by
  have := (Blk.new (w.alloc (.cells ck.toArray 28)) cf 31).alloc (.cells zc.toArray 45)
  rwa [show (w.alloc (.cells ck.toArray 28)).heap.size = w.heap.size + 1 by simp] at this
 have HR1 : Hid (Blk (((w.alloc (.cells ck.toArray 28)).alloc (.cells cf.toArray 31)).alloc (.cells zc.toArray 45)) (w.heap.size + 1 + 1) 45 zc) := by
  have := Blk.new ((w.alloc (.cells ck.toArray 28)).alloc (.cells cf.toArray 31)) zc 45
  rwa [show ((w.alloc (.cells ck.toArray 28)).alloc (.cells cf.toArray 31)).heap.size = w.heap.size + 1 + 1 by simp] at this
 change Code.wp _ _ _ _ (((w.alloc (.cells ck.toArray 28)).alloc (.cells cf.toArray 31)).alloc (.cells msgZ.flatten.toArray 45))
 rw [← hzc]
 clear hzc
 generalize World.alloc (World.alloc (World.alloc w _) _) _ = w1 at HF1 HB1 HT1 HR1 ⊢
 obtain ⟨T,hT⟩ : ∃ T,T = w.heap.size := ⟨_,rfl⟩
 rw [← hT] at HB1 HT1 HR1 ⊢
 obtain ⟨F,hF⟩ : ∃ F,F = T + 1 := ⟨_,rfl⟩
 rw [← hF] at HT1 HR1 ⊢
 obtain ⟨R,hR⟩ : ∃ R,R = F + 1 := ⟨_,rfl⟩
 rw [← hR] at HR1 ⊢
 have HFw : Hid (w.heap.size ≤ R) := by show _ ≤ _; omega
 clear hT hF hR
 have HB1w := hid hB1; clear hB1
 refine seg_begin (fun w' => Fr [] w1 w') (by kernel_rfl) ?_
 refine seg_quiet (fuel := 8) (by kernel_rfl) (fun d _ _ _ _ h => by cases d <;> exact h) ((Fr.refl _ _).drew) [0,2,3] _ _ (by kernel_rfl) ?_
 simp only [pickL,nthO]
 refine wpQuiet_load rfl 28 (.tmp 3) rfl T 0 rfl (ck) _ (fun w' hf => (HB1.out.fr hf (by simp)).range) rfl rfl (by rw [Hhckl.out]; kernel_rfl) ?_
 simp only [Act.put,nA,nB,nC]
 refine wpQuiet_load rfl 31 (.tmp 4) rfl F 0 rfl (cf) _ (fun w' hf => (HT1.out.fr hf (by simp)).range) rfl rfl (by rw [Hhcfl.out]; kernel_rfl) ?_
 simp only [Act.put,nA,nB,nC]
 refine wpQuiet_rfl (.int .u8 flag) rfl (fun _ => rfl) ?_
 simp only [Act.put,nA,nB,nC]
 refine wpQuiet_nil ?_
 refine seg_act 1 rfl rfl (by kernel_rfl) ?_
 go_wp2_with fail
 have HFd : Hid (Fr [] w w1.drew) := HF1.out.drew
 refine (utilBlock_c w1.drew B (Nat.le_trans hBw HFd.out.size) ck k (Hhc.out.below (HFd.out.below.mono hBw)) Hhk.out Hhs.out).mono ?_
 rintro e w2 ⟨gb,rfl,hf,hgb,m,d,hU1,hU2,hU3,hU4⟩
 have HF2 : Hid (Fr [] w1 w2) := (Fr.refl _ _).drew.trans hf
 have HFw2 : Hid (Fr [] w w2) := HF1.out.trans HF2.out
 have Hgb : Hid (w1.heap.size ≤ gb) := hgb
 have HU := hid (And.intro hU1 (And.intro hU2 (And.intro hU3 hU4)))
 clear hf hgb hU1 hU2 hU3 hU4 HFd
 go_wp2_with fail
 refine ⟨HF2.out,fun _ => ?_⟩
 refine seg_act 4 rfl rfl (by kernel_rfl) ?_
 go_wp2_with fail
 refine (filterOf_c w2 B (Nat.le_trans hBw HFw2.out.size) cf f flag (Hhf.out.below (HFw2.out.below.mono hBw)) Hhg.out.1 Hhg.out.2.1).mono ?_
 rintro e w3 ⟨gF,mF,aF,cap,rfl,hf,hg1,hg2,hg3,hFl⟩
 have HF3 : Hid (Fr [] w1 w3) := HF2.out.trans hf
 have HFw3 : Hid (Fr [] w w3) := HFw2.out.trans hf
 have HgF : Hid (w2.heap.size ≤ gF ∧ w2.heap.size ≤ aF) := ⟨hg1,hg3⟩
 have HU3 : Hid (Blk w3 gb 188 (blkNew m) ∧ m < gb ∧ Blk w3 m 121 d ∧ MsgBlockT gb w3 d k) := ⟨HU.out.1.fr hf (by simp),HU.out.2.1,HU.out.2.2.1.fr hf (by simp),HU.out.2.2.2.below (hf.below.mono (Nat.le_of_lt HU.out.1.lt))⟩
 have HFl := hid hFl
 have Hgb2 : Hid (gb < w2.heap.size) := HU.out.1.lt
 clear hf hg1 hg2 hg3 hFl HU HF2 HFw2
 go_wp2_with fail
 refine ⟨HF3.out,fun _ => ?_⟩
 refine seg_act 5 rfl rfl (by kernel_rfl) ?_
 go_wp2_with fail
 refine (newMb_c K HhK.out w3 (HhKc.out.fr HFw3.out (by simp)) gb gb m gF mF aF cap (Nat.le_of_lt HU3.out.1.lt) (by have := HB1w.out; have := HF1.out.size; have := Hgb.out; omega) (Nat.le_refl _) HU3.out.2.1 (by have := HgF.out; have := Hgb2.out; omega) (by have := HgF.out; have := Hgb2.out; omega) k d Hhk.out Hhs.out Hhkt.out HU3.out.1 HU3.out.2.2.1 HU3.out.2.2.2 f Hhg.out flag hfl HFl.out).mono ?_
 rintro e w4 ⟨M,hv,fl,mv,rfl,hf,hM,hH,hy,hmv⟩
 have hS : ∀ x ∈ [gb,gF,aF],w1.heap.size ≤ x := by
  intro x hx
  have := HgF.out; have := Hgb2.out; have := Hgb.out
  simp only [List.mem_cons,List.not_mem_nil,or_false] at hx
  rcases hx with rfl | rfl | rfl <;> omega
 have HF4 : Hid (Fr [] w1 w4) := HF3.out.andThen hf (fun x hx => .inr (hS x hx))
 have HFw4 : Hid (Fr [] w w4) := HF1.out.trans HF4.out
 have HM4 := hid hM
 have HH4 := hid hH
 have HY4 := hid hy
 have HMv4 := hid hmv
 clear hf hM hH hy hmv hS HF3 HFw3 HgF HU3 HFl Hgb2 Hgb
 obtain ⟨ms,hms⟩ : ∃ ms,ms = idxs (mFold K flag f k.txs k.txs.length).1 := ⟨_,rfl⟩
 obtain ⟨hs,hhs⟩ : ∃ hs,hs = k.txs.map (txH K) := ⟨_,rfl⟩
 obtain ⟨mk,hmk⟩ : ∃ mk,mk = (mFold K flag f k.txs k.txs.length).1 := ⟨_,rfl⟩
 have HhL : Hid (hs.length = k.txs.length) := by show _ = _; rw [hhs,List.length_map]
 have HmL : Hid (mk.length = k.txs.length) := by show _ = _; rw [hmk]; exact mFold_len (Nat.le_refl _)
 obtain ⟨fin,hfin⟩ : ∃ fin,fin = (trav K (k.txs.map (txH K)) (mFold K flag f k.txs k.txs.length).1 (hgt k.txs.length) 0).2 := ⟨_,rfl⟩
 obtain ⟨bits,hbits⟩ : ∃ bits,bits = (trav K (k.txs.map (txH K)) (mFold K flag f k.txs k.txs.length).1 (hgt k.txs.length) 0).1 := ⟨_,rfl⟩
 have HRes : Hid (∀ e w',(∃ c mv,e = .returned (.tuple #[.agg c.toArray,mv]) ∧ Fr [] w w' ∧ MsgIs w' c mv k.txs.length k.hdr fin (pack bits bits.length) ms) → R0 e w') := by
  intro e w' h
  rw [HhR0.out]
  unfold PbR
  rw [← hfin,← hbits,← hms]
  exact h
 have Hms : Hid (ms.length ≤ 64 ∧ ∀ x ∈ ms,0 ≤ x ∧ x ≤ 64) := by
  have h1 := idxs_len mk; have h2 := idxs_bd (m := mk); rw [HmL.out] at h1 h2
  have h3 := Hhkt.out.2.1
  rw [hms,← hmk]
  exact ⟨by omega,fun x hx => by have := h2 x hx; omega⟩
 have Hhk2 : Hid (∀ x ∈ fin,x.length = 32) := by
  rw [hfin]
  refine trav_32 (fun x hx => by obtain ⟨t,_,rfl⟩ := List.mem_map.mp hx; exact H2_length _ _) _ _ _ ?_
  rw [List.length_map]
  unfold wid
  have h1 : 0 < 2 ^ hgt k.txs.length := Nat.pos_of_ne_zero (by simp)
  have h2 := Hhkt.out.1
  exact Nat.div_pos (by omega) h1
 have HLn : Hid (fin.length ≤ 1000 ∧ (pack bits bits.length).length ≤ 1000) := by
  have h1 := trav_len K (k.txs.map (txH K)) (mFold K flag f k.txs k.txs.length).1 (hgt k.txs.length) 0
  have h2 : 2 ^ (hgt k.txs.length + 1) ≤ 2 ^ 7 := Nat.pow_le_pow_right (by omega) (by have := hgt_le k.txs.length; omega)
  rw [← hfin,← hbits] at h1
  rw [pack_length]
  show _ ∧ _
  omega
 rw [← hms] at HMv4
 rw [← hfin] at HH4
 rw [← hbits] at HY4
 clear hfin hbits hms hmk hhs HhL HmL
 obtain ⟨py,hpy⟩ : ∃ py,py = pack bits bits.length := ⟨_,rfl⟩
 rw [← hpy] at HRes HLn HY4
 clear hpy
 have hm0 := HMv4.out.listB (fun _ _ h => h)
 obtain ⟨am,cm,rfl,hq1,hq2⟩ := hm0.len
 clear hq1 hq2 hm0
 have hml : (ms.length : Int) ≤ 64 := by have := Hms.out.1; omega
 go_wp2_with fail
 refine ⟨HF4.out,fun _ => ?_⟩
 refine seg_quiet (fuel := 0) (by kernel_rfl) (fun d _ _ _ _ h => by cases d <;> exact h) (HF4.out) [6,7,8,9,10] _ _ (by kernel_rfl) ?_
 simp only [pickL,nthO]
 refine wpQuiet_rfl (.tuple #[.pointer (some ⟨M,0,none⟩),.slice am ms.length cm]) rfl (fun _ => rfl) ?_
 simp only [Act.put,nA,nB,nC]
 refine wpQuiet_rfl (.pointer (some ⟨M,0,none⟩)) rfl (fun _ => rfl) ?_
 simp only [Act.put,nA,nB,nC]
 refine wpQuiet_rfl (.slice am ms.length cm) rfl (fun _ => rfl) ?_
 simp only [Act.put,nA,nB,nC]
 refine wpQuiet_rfl (.pointer (some ⟨M,0,none⟩)) rfl (fun _ => rfl) ?_
 simp only [Act.put,nA,nB,nC]
 refine wpQuiet_rfl (.slice am ms.length cm) rfl (fun _ => rfl) ?_
 simp only [Act.put,nA,nB,nC]
 refine wpQuiet_nil ?_
 refine seg_end (by kernel_rfl) ?_
 go_wp2_with fail
 go_loopg [7,10] (ms.length) (fun gk v7 v10 wr => ∃ (i : Nat) (u7 : Value),u7 = v7 ∧ gk = ms.length - i ∧ i ≤ ms.length ∧ v10 = .int .i64 (i : Int) ∧ Grows w4.heap.size 3 1 (IntE .i64) wr u7 (ms.take i) ∧ Fr [] w4 wr)
 case atStart => exact ⟨0,_,rfl,rfl,Nat.zero_le _,rfl,Grows.nil _,Fr.refl _ _⟩
 case round =>
  obtain ⟨i,u7,rfl,rfl,hi,rfl,hg,hf⟩ := hrel
  have HG := hid hg
  have HF := hid hf
  clear hg hf
  have HFwr : Hid (Fr [] w wr) := HFw4.out.trans HF.out
  obtain ⟨L,hL⟩ : ∃ L,L = ms.take i := ⟨_,rfl⟩
  rw [← hL] at HG
  have HLl : Hid (L.length ≤ 64) := by have := Hms.out.1; show _ ≤ _; rw [hL,List.length_take]; omega
  by_cases hlt : i < ms.length
  ·have hli : (i : Int) < ms.length := by omega
   obtain ⟨b,off,cap',u,he,hbB,hrg,hE⟩ := HMv4.out.at' hlt
   simp only [Value.slice.injEq] at he
   obtain ⟨rfl,_,rfl⟩ := he
   simp only [IntE,List.cons.injEq,and_true] at hE
   subst hE
   have e1 := hrg wr HF.out.below
   have hbl : b < wr.heap.size := Nat.lt_of_lt_of_le hbB HF.out.size
   obtain ⟨y,hy⟩ : ∃ y,y = ms[i] := ⟨_,rfl⟩
   rw [← hy] at e1
   have hyb : 0 ≤ y ∧ y ≤ 64 := by rw [hy]; exact Hms.out.2 _ (List.getElem_mem hlt)
   obtain ⟨hy0,hy64⟩ := hyb
   have HTk : Hid (ms.take (i + 1) = L ++ [y]) := by show _ = _; rw [List.take_add_one,List.getElem?_eq_getElem hlt,← hy,hL]; rfl
   clear hrg hy hL
   obtain ⟨a7,c7,rfl⟩ := HG.out.slice
   have HFN : Hid (Fr [] wr (wr.alloc (.cells #[.int .i64 y] 3))) := (Fr.refl _ _).alloc _
   have HBN : Hid (Blk (wr.alloc (.cells #[.int .i64 y] 3)) wr.heap.size 3 [.int .i64 y]) := Blk.new _ _ _
   have HG2 : Hid (Grows w4.heap.size 3 1 (IntE .i64) (wr.alloc (.cells #[.int .i64 y] 3)) (.slice a7 L.length c7) L) := HG.out.fr HFN.out (fun _ _ h => h)
   have HYb : Hid (IntE .i64 (wr.alloc (.cells #[.int .i64 y] 3)) [.int .i64 y] y) := rfl
   have Hby : Hid ((L.length + 1) * 8 ≤ 140737488355328) := by have := HLl.out; show _ ≤ _; omega
   have hl3 : Hid (([.int .i64 y] : List Value).length = 1) := hid rfl
   have h1c : Hid (∀ u ∈ ([.int .i64 y] : List Value),u.oneCell' = true) := by intro u hu; rw [List.mem_singleton] at hu; subst hu; rfl
   have hEc : Hid (∀ w',FrT 3 (wr.alloc (.cells #[.int .i64 y] 3)) w' → Below w4.heap.size (wr.alloc (.cells #[.int .i64 y] 3)) w' → ∀ c y',IntE .i64 (wr.alloc (.cells #[.int .i64 y] 3)) c y' → IntE .i64 w' c y') := fun w' _ hb c y h => h
   have hbs : Hid (w4.heap.size ≤ (wr.alloc (.cells #[.int .i64 y] 3)).heap.size) := Nat.le_trans HF.out.size HFN.out.size
   go_wp2_with (with_reducible refine wpList_push2 (o := ⟨some 33,_,_,_,_,_⟩) rfl (.tmp 26) (.tmp 32) 46 rfl 3 1 8 elem46 w4.heap.size (IntE .i64) (.slice a7 L.length c7) L ?_ HG2.out wr.heap.size 3 _ HBN.out ?_ hl3.out h1c.out hEc.out y HYb.out Hby.out hbs.out ?_)
   ·rfl
   ·rfl
   intro v5 w5 HG5 _ HFo5 _
   have HF5 : Hid (Fr [] w4 w5) := (HF.out.trans HFN.out).andThen HFo5.out (fun x hx => .inr (HG2.out.ownBlk x hx).1)
   rw [← HTk.out] at HG5
   clear HG HG2 HFo5 HFN HBN HYb Hby hl3 h1c hEc hbs e1 hbl
   go_wp2_with fail
   go_roundg (ms.length - (i + 1))
   case measure => omega
   case rel => exact ⟨i + 1,_,rfl,rfl,by omega,by simp,HG5.out,HF5.out⟩
  ·have hie : i = ms.length := by omega
   subst hie
   have hli : ¬ ((ms.length : Int) < ms.length) := by omega
   rw [List.take_length] at hL
   subst hL
   have HRr : Hid (Blk wr R 45 zc) := HR1.out.fr (HF4.out.trans HF.out) (by simp)
   obtain ⟨a7,c7,rfl⟩ := HG.out.slice
   have HMr : Hid (Blk wr M 125 (k.hdr.wire ++ [.int .u32 k.txs.length,hv,fl])) := HM4.out.fr HF.out (by simp)
   have HOm := hid (ofMessage_c wr w4.heap.size HF.out.size M k.hdr Hhk.out.hdr k.txs.length hv fl HMr.out fin Hhk2.out (by have := HLn.out.1; omega) (HH4.out.below HF.out.below (fun _ _ h => h.fr HF.out)) py (by have := HLn.out.2; omega) (Rd.below HY4.out HF.out.below))
   go_upto_region 6 with fail
   refine wp_region_lit ?_
   refine wpList_run (v := .pointer (some ⟨M,0,none⟩)) rfl rfl ?_
   simp only [Act.put,nA,nB,nC]
   refine wpList_run (v := .iface 66 (.pointer (some ⟨M,0,none⟩))) rfl rfl ?_
   simp only [Act.put,nA,nB,nC]
   go_wp2_with fail
   refine HOm.out.mono ?_
   rintro e w5 ⟨hv',hd',bv',rfl,hf,hl1,hl2,hl3,ho⟩
   have HF5 : Hid (Fr [] w4 w5) := HF.out.trans hf
   have HG5 : Hid (Grows w4.heap.size 3 1 (IntE .i64) w5 (.slice a7 L.length c7 ) L) := HG.out.fr hf (fun _ _ h => h)
   have HR5 : Hid (Blk w5 R 45 zc) := HRr.out.fr hf (by simp)
   have HL1 := hid hl1
   have HL2 := hid hl2
   have HL3 := hid hl3
   have HO := hid ho
   clear hf hl1 hl2 hl3 ho HOm
   simp only []
   refine (‹∀ (a : Act) (w : World),wpList Tryz.prog _ _ _ a w → _›) _ _ ?_
   refine wpList_run (v := .slice a7 L.length c7) rfl rfl ?_
   simp only [Act.put,nA,nB,nC]
   refine wpList_storeB rfl 45 (.tmp 6) (.tmp 36) rfl rfl R _ (msgC mbName hv' hd' bv' k.txs.length) HR5.out rfl rfl (by rw [msgC_length,HZl.out]) (by rw [msgC_length]; kernel_rfl) (msgC_one HL1.out.one HL2.out.one HO.out) ?_
   intro w8 hf hb
   have hT : FrT 45 w5 w8 := hf.frT (fun k hk _ => by simp at hk; subst hk; exact ⟨_,_,HR5.out⟩)
   refine wpList_run (v := .slice a7 L.length c7) rfl rfl ?_
   simp only [Act.put,nA,nB,nC]
   refine wpList_nil ?_
   refine (‹∀ (a : Act) (w : World),Code.wp Tryz.prog Code.ret _ a w → _›) _ _ ?_
   refine wp_ret ?_
   refine ret_ct rfl rfl rfl _ hb rfl rfl (by rw [msgC_length]; kernel_rfl) rfl ?_
   refine HRes.out _ _ ⟨_,_,rfl,(HFw4.out.trans HF5.out).andThen hf (by intro k hk; simp at hk; subst hk; exact .inr HFw.out),⟨_,_,_,rfl, ?_, ?_, ?_,HO.out⟩, ?_⟩
   ·exact (HL1.out.frT hT (by decide) (fun _ _ h => h)).mono hT.size (fun _ _ h => h)
   ·exact (HL2.out.frT hT (by decide) (fun _ _ h => h)).mono hT.size (fun _ _ h => h)
   ·exact ((HL3.out.frT hT (by decide)).mono hT.size).rdB.rd (Nat.le_refl _)
   ·exact (((HG5.out.frT hT (by decide) (fun _ _ h => h) (E' := IntE .i64)).listT.ints)).rd (Nat.le_refl _)
end
theorem part_cell (w : World) (t : TypeId) (c : List Value) (i : Nat) (v : Value) (ht : ∀ w,(isAgg t).run Tryz.prog w = .ok false w) (h : c[i]? = some v) : (part t c.toArray i).run Tryz.prog w = .ok v w := by
 have hg : c.toArray[i]? = some v := by rw [List.getElem?_toArray]; exact h
 simp only [part,Sem.run_bind,ht,Result.andThen_ok,Bool.false_eq_true,if_false,hg,Sem.run_pure]
theorem part_arr (w : World) (c : List Value) (pre post : List Value) (x : List Int) (k : Nat) (hk : pre.length = k) (hx : x.length = 32) (h : c = pre ++ (ic .u8 x ++ post)) : (part 22 c.toArray k).run Tryz.prog w = .ok (.agg (ic .u8 x).toArray) w := by
 have ha : (isAgg 22).run Tryz.prog w = .ok true w := by kernel_rfl
 have hs : (sizeOf 22).run Tryz.prog w = .ok 32 w := by kernel_rfl
 have he : c.toArray.extract k (k + 32) = (ic .u8 x).toArray := by
  rw [h,List.extract_toArray,List.extract_eq_take_drop,← hk,List.drop_left,Nat.add_sub_cancel_left]
  have hl : (ic .u8 x).length = 32 := by simpa using hx
  rw [← hl,List.take_left]
 simp only [part,Sem.run_bind,ha,hs,Result.andThen_ok,if_true,Sem.run_pure,he]
theorem tys25 : (Tryz.prog.fieldsOf 25).toList.map (fun f => (f.type,f.offset)) = [(21,0),(22,1),(22,33),(23,65),(23,66),(23,67)] := by kernel_rfl
theorem eqFields_refl (D : Nat) (xs : Array Value) (w : World) : ∀ fs : List Field,(∀ f ∈ fs,∃ v,∀ w,(part f.type xs f.offset).run Tryz.prog w = .ok v w ∧ (Op.equalIn D f.type v v).run Tryz.prog w = .ok true w) → (Op.eqFields D xs xs fs).run Tryz.prog w = .ok true w := by
 intro fs
 induction fs with
 | nil => intro _; simp [Op.eqFields]
 | cons f fs ih =>
  intro h
  obtain ⟨v,hv⟩ := h f (by simp)
  have hi := ih (fun g hg => h g (by simp [hg]))
  simp only [Op.eqFields,Sem.run_bind,Sem.run_ite]
  split
  ·simp only [(hv w).1,(hv w).2,Result.andThen_ok,Bool.not_true,Bool.false_eq_true,if_false]
   first | exact hi | simpa using hi
  ·first | exact hi | simpa using hi
theorem neq_hdr (w : World) (h : Hdr) (hk : h.Ok) : (binOp .neq 25 (.agg h.cells.toArray) (.agg h.cells.toArray)).run Tryz.prog w = .ok (.bool false) w := by
 have hE : (Op.equalIn 10000 25 (.agg h.cells.toArray) (.agg h.cells.toArray)).run Tryz.prog w = .ok true w := by
  rw [run_equalIn_agg _ 9999 25 _ _ (by kernel_rfl) (by kernel_rfl)]
  apply eqFields_refl
  intro f hf
  have hm : (f.type,f.offset) ∈ (Tryz.prog.fieldsOf 25).toList.map (fun f => (f.type,f.offset)) := List.mem_map.mpr ⟨f,hf,rfl⟩
  rw [tys25] at hm
  simp only [List.mem_cons,Prod.mk.injEq,List.not_mem_nil,or_false] at hm
  rcases hm with ⟨h1,h2⟩ | ⟨h1,h2⟩ | ⟨h1,h2⟩ | ⟨h1,h2⟩ | ⟨h1,h2⟩ | ⟨h1,h2⟩
  all_goals rw [h1,h2]
  ·exact ⟨.int .i32 h.version,fun w => ⟨part_cell w 21 _ 0 _ (fun w => by kernel_rfl) rfl,by rw [run_equalIn_int _ 9998 21 .i32 .i32 _ _ (by kernel_rfl)]; simp⟩⟩
  ·exact ⟨arr h.prev,fun w => ⟨part_arr w _ [.int .i32 h.version] _ h.prev 1 rfl hk.prev rfl,run_eq_array' w 9998 h.prev hk.prev (fun a w => by rw [run_equalIn_int _ 9997 5 .u8 .u8 a a (by kernel_rfl)]; simp)⟩⟩
  ·exact ⟨arr h.root,fun w => ⟨part_arr w _ (.int .i32 h.version :: ic .u8 h.prev) [.int .u32 h.time,.int .u32 h.bits,.int .u32 h.nonce] h.root 33 (by simp [hk.prev]) hk.root (by simp [Hdr.cells]),run_eq_array' w 9998 h.root hk.root (fun a w => by rw [run_equalIn_int _ 9997 5 .u8 .u8 a a (by kernel_rfl)]; simp)⟩⟩
  ·exact ⟨.int .u32 h.time,fun w => ⟨part_cell w 23 _ 65 _ (fun w => by kernel_rfl) (by simp [Hdr.cells,hk.prev,hk.root]),by rw [run_equalIn_int _ 9998 23 .u32 .u32 _ _ (by kernel_rfl)]; simp⟩⟩
  ·exact ⟨.int .u32 h.bits,fun w => ⟨part_cell w 23 _ 66 _ (fun w => by kernel_rfl) (by simp [Hdr.cells,hk.prev,hk.root]),by rw [run_equalIn_int _ 9998 23 .u32 .u32 _ _ (by kernel_rfl)]; simp⟩⟩
  ·exact ⟨.int .u32 h.nonce,fun w => ⟨part_cell w 23 _ 67 _ (fun w => by kernel_rfl) (by simp [Hdr.cells,hk.prev,hk.root]),by rw [run_equalIn_int _ 9998 23 .u32 .u32 _ _ (by kernel_rfl)]; simp⟩⟩
 rw [run_neq_struct,hE]; rfl
section
set_option maxRecDepth 8000
theorem msg_at0 (cmd : ByteArray) (hv hd bv : Value) (n : Int) : (msgC cmd hv hd bv n)[0]? = some (.string cmd) := rfl
theorem msg_at1 (cmd : ByteArray) (hv hd bv : Value) (n : Int) : (msgC cmd hv hd bv n)[1]? = some (.int .u64 0) := rfl
theorem msg_at3 (cmd : ByteArray) (hv hd bv : Value) (n : Int) : (msgC cmd hv hd bv n)[3]? = some (.int .u32 0) := rfl
theorem msg_at143 (cmd : ByteArray) (hv hd bv : Value) (n : Int) : (msgC cmd hv hd bv n)[143]? = some (.int .i64 0) := rfl
theorem msg_at145 (cmd : ByteArray) (hv hd bv : Value) (n : Int) : (msgC cmd hv hd bv n)[145]? = some (.int .u32 0) := rfl
theorem msg_at146 (cmd : ByteArray) (hv hd bv : Value) (n : Int) : (msgC cmd hv hd bv n)[146]? = some (.int .u32 0) := rfl
theorem msg_at147 (cmd : ByteArray) (hv hd bv : Value) (n : Int) : (msgC cmd hv hd bv n)[147]? = some (.int .u32 n) := rfl
theorem msg_at148 (cmd : ByteArray) (hv hd bv : Value) (n : Int) : (msgC cmd hv hd bv n)[148]? = some (.int .u8 0) := rfl
theorem msg_at149 (cmd : ByteArray) (hv hd bv : Value) (n : Int) : (msgC cmd hv hd bv n)[149]? = some (.string ⟨#[]⟩) := rfl
theorem msg_at150 (cmd : ByteArray) (hv hd bv : Value) (n : Int) : (msgC cmd hv hd bv n)[150]? = some (.string ⟨#[]⟩) := rfl
theorem msg_at2 (cmd : ByteArray) (hv hd bv : Value) (n : Int) : (msgC cmd hv hd bv n)[2]? = some (.slice none 0 0) := rfl
theorem msg_at4 (cmd : ByteArray) (hv hd bv : Value) (n : Int) : (msgC cmd hv hd bv n)[4]? = some (hv) := rfl
theorem msg_at69 (cmd : ByteArray) (hv hd bv : Value) (n : Int) : (msgC cmd hv hd bv n)[69]? = some (hd) := rfl
theorem msg_at144 (cmd : ByteArray) (hv hd bv : Value) (n : Int) : (msgC cmd hv hd bv n)[144]? = some (bv) := rfl
theorem neq_arr0 (w : World) : (binOp .neq 22 (.agg z32.toArray) (.agg z32.toArray)).run Tryz.prog w = .ok (.bool false) w := neq_arr w _ (by simp)
theorem msg_part5 (cmd : ByteArray) (hv hd bv : Value) (n : Int) : ∃ pre post,msgC cmd hv hd bv n = pre ++ (z32 ++ post) ∧ pre.length = 5 := ⟨[.string cmd,.int .u64 0,.slice none 0 0,.int .u32 0,hv],_,rfl,rfl⟩
theorem msg_part37 (cmd : ByteArray) (hv hd bv : Value) (n : Int) : ∃ pre post,msgC cmd hv hd bv n = pre ++ (z32 ++ post) ∧ pre.length = 37 := ⟨[.string cmd,.int .u64 0,.slice none 0 0,.int .u32 0,hv] ++ z32,_,rfl,rfl⟩
theorem msg_part70 (cmd : ByteArray) (hv hd bv : Value) (n : Int) : ∃ pre post,msgC cmd hv hd bv n = pre ++ ([.int .i32 0,.slice none 0 0,.slice none 0 0,.int .u32 0] ++ post) ∧ pre.length = 70 := ⟨[.string cmd,.int .u64 0,.slice none 0 0,.int .u32 0,hv] ++ (z32 ++ (z32 ++ [hd])),_,rfl,rfl⟩
theorem msg_part74 (cmd : ByteArray) (hv hd bv : Value) (n : Int) : ∃ pre post,msgC cmd hv hd bv n = pre ++ (blk0 ++ post) ∧ pre.length = 74 := ⟨[.string cmd,.int .u64 0,.slice none 0 0,.int .u32 0,hv] ++ (z32 ++ (z32 ++ [hd,.int .i32 0,.slice none 0 0,.slice none 0 0,.int .u32 0])),_,rfl,rfl⟩
theorem Blk.part' {w : World} {g : Nat} {T : TypeId} {xs cs : List Value} {k : Nat} (h : Blk w g T xs) (hx : ∃ pre post,xs = pre ++ (cs ++ post) ∧ pre.length = k) : w.rangeAt g k cs := by
 obtain ⟨pre,post,h1,rfl⟩ := hx
 exact h.part pre cs post h1
theorem neq_self (n : Int) : (n != n) = false := by simp
set_option maxHeartbeats 8000000 in
theorem sameMsg_c (w : World) (n : Int) (ha da ba hb db bb : Value) (fin : List (List Int)) (h : Hdr) (hk : h.Ok) (bs : List Int) (hl : ∀ l ∈ fin,l.length = 32) (hfn : fin.length ≤ 100000) (hbn : bs.length ≤ 100000)
  (hLa : ListT w.heap.size 22 32 HashE w ha fin) (hLb : ListT w.heap.size 22 32 HashE w hb fin) (hDa : ListT w.heap.size 25 68 HdrE w da [h]) (hDb : ListT w.heap.size 25 68 HdrE w db [h]) (hBa : Bytes w ba bs) (hBb : Bytes w bb bs) :
  Calls Tryz.prog 12 #[.agg (msgC mbName ha da ba n).toArray,.agg (msgC mbName hb db bb n).toArray] w fun e w' => e = .returned (.bool true) ∧ Fr [] w w' := by
 obtain ⟨a1,e1,rfl,hq1,hq2⟩ := (hLa.listB (E' := HashE) (fun _ _ h => h)).len
 clear hq1 hq2
 obtain ⟨b1,f1,rfl,hq1,hq2⟩ := (hLb.listB (E' := HashE) (fun _ _ h => h)).len
 clear hq1 hq2
 obtain ⟨a2,e2,hq,hq1,hq2⟩ := (hDa.listB (E' := HdrE) (fun _ _ h => h)).len
 have hq' : da = .slice a2 1 e2 := hq
 subst hq'
 clear hq hq1 hq2
 obtain ⟨b2,f2,hq,hq1,hq2⟩ := (hDb.listB (E' := HdrE) (fun _ _ h => h)).len
 have hq' : db = .slice b2 1 f2 := hq
 subst hq'
 clear hq hq1 hq2
 obtain ⟨a3,e3,rfl,hq1,hq2,hq3⟩ := ints_cases hBa
 clear hq1 hq2 hq3
 obtain ⟨b3,f3,rfl,hq1,hq2,hq3⟩ := ints_cases hBb
 clear hq1 hq2 hq3
 have hfn1 : (fin.length : Int) ≤ 100000 := by omega
 have hbn1 : (bs.length : Int) ≤ 100000 := by omega
 obtain ⟨ca,hca⟩ : ∃ c,c = msgC mbName (.slice a1 fin.length e1) (.slice a2 1 e2) (.slice a3 bs.length e3) n := ⟨_,rfl⟩
 obtain ⟨cb,hcb⟩ : ∃ c,c = msgC mbName (.slice b1 fin.length f1) (.slice b2 1 f2) (.slice b3 bs.length f3) n := ⟨_,rfl⟩
 rw [← hca,← hcb]
 have Hhk := hid hk; clear hk
 have Hhl := hid hl; clear hl
 have Hhfn := hid hfn; clear hfn
 have Hhbn := hid hbn; clear hbn
 have HhLa := hid hLa; clear hLa
 have HhLb := hid hLb; clear hLb
 have HhDa := hid hDa; clear hDa
 have HhDb := hid hDb; clear hDb
 have HhBa := hid hBa; clear hBa
 have HhBb := hid hBb; clear hBb
 have Hhca := hid hca; clear hca
 have Hhcb := hid hcb; clear hcb
 go_enter Tryz.func12,Tryz.ntmps12
 go_upto_region 1 with fail
 have HF1 : Hid (Fr [] w ((w.alloc (.cells ca.toArray 45)).alloc (.cells cb.toArray 45))) := ((Fr.refl _ _).alloc _).alloc _
 have HA1 : Hid (Blk ((w.alloc (.cells ca.toArray 45)).alloc (.cells cb.toArray 45)) w.heap.size 45 ca) := (Blk.new _ _ _).alloc _
 have HB1 : Hid (Blk ((w.alloc (.cells ca.toArray 45)).alloc (.cells cb.toArray 45)) (w.heap.size + 1) 45 cb) := by
  have := Blk.new (w.alloc (.cells ca.toArray 45)) cb 45
  rwa [show (w.alloc (.cells ca.toArray 45)).heap.size = w.heap.size + 1 by simp] at this
 generalize World.alloc (World.alloc w _) _ = w1 at HF1 HA1 HB1 ⊢
 obtain ⟨A,hA⟩ : ∃ A,A = w.heap.size := ⟨_,rfl⟩
 rw [← hA] at HA1 HB1 ⊢
 clear hA
 obtain ⟨B,hB⟩ : ∃ B,B = A + 1 := ⟨_,rfl⟩
 rw [← hB] at HB1 ⊢
 clear hB
 rw [Hhca.out] at HA1
 rw [Hhcb.out] at HB1
 refine wp_region_lit ?_
 refine wpList_run (v := .pointer (some ⟨A,0,none⟩)) rfl rfl ?_
 simp only [Act.put,nA,nB,nC]
 refine wpList_load1 rfl 9 (.tmp 8) rfl A 0 rfl (.string mbName) _ (HA1.out.cell_at (msg_at0 _ _ _ _ _)) rfl rfl ?_
 simp only [Act.put,nA,nB,nC]
 refine wpList_run (v := .pointer (some ⟨B,0,none⟩)) rfl rfl ?_
 simp only [Act.put,nA,nB,nC]
 refine wpList_load1 rfl 9 (.tmp 10) rfl B 0 rfl (.string mbName) _ (HB1.out.cell_at (msg_at0 _ _ _ _ _)) rfl rfl ?_
 simp only [Act.put,nA,nB,nC]
 refine wpList_run (v := .bool false) (w' := w1) rfl (by kernel_rfl) ?_
 simp only [Act.put,nA,nB,nC]
 refine wpList_run (v := .bool false) rfl rfl ?_
 simp only [Act.put,nA,nB,nC]
 refine wpList_g rfl ?_
 refine wpList_run (v := .pointer (some ⟨A,1,none⟩)) rfl rfl ?_
 simp only [Act.put,nA,nB,nC]
 refine wpList_g rfl ?_
 refine wpList_load1 rfl 40 (.tmp 14) rfl A 1 rfl (.int .u64 0) _ (HA1.out.cell_at (msg_at1 _ _ _ _ _)) rfl rfl ?_
 simp only [Act.put,nA,nB,nC]
 refine wpList_g rfl ?_
 refine wpList_run (v := .pointer (some ⟨B,1,none⟩)) rfl rfl ?_
 simp only [Act.put,nA,nB,nC]
 refine wpList_g rfl ?_
 refine wpList_load1 rfl 40 (.tmp 16) rfl B 1 rfl (.int .u64 0) _ (HB1.out.cell_at (msg_at1 _ _ _ _ _)) rfl rfl ?_
 simp only [Act.put,nA,nB,nC]
 refine wpList_g rfl ?_
 refine wpList_run (v := .bool false) (w' := w1) rfl (by kernel_rfl) ?_
 simp only [Act.put,nA,nB,nC]
 refine wpList_run (v := .bool false) rfl rfl ?_
 simp only [Act.put,nA,nB,nC]
 refine wpList_run (v := .bool false) rfl rfl ?_
 simp only [Act.put,nA,nB,nC]
 refine wpList_g rfl ?_
 refine wpList_run (v := .pointer (some ⟨A,3,none⟩)) rfl rfl ?_
 simp only [Act.put,nA,nB,nC]
 refine wpList_g rfl ?_
 refine wpList_load1 rfl 23 (.tmp 21) rfl A 3 rfl (.int .u32 0) _ (HA1.out.cell_at (msg_at3 _ _ _ _ _)) rfl rfl ?_
 simp only [Act.put,nA,nB,nC]
 refine wpList_g rfl ?_
 refine wpList_run (v := .pointer (some ⟨B,3,none⟩)) rfl rfl ?_
 simp only [Act.put,nA,nB,nC]
 refine wpList_g rfl ?_
 refine wpList_load1 rfl 23 (.tmp 23) rfl B 3 rfl (.int .u32 0) _ (HB1.out.cell_at (msg_at3 _ _ _ _ _)) rfl rfl ?_
 simp only [Act.put,nA,nB,nC]
 refine wpList_g rfl ?_
 refine wpList_run (v := .bool false) (w' := w1) rfl (by kernel_rfl) ?_
 simp only [Act.put,nA,nB,nC]
 refine wpList_run (v := .bool false) rfl rfl ?_
 simp only [Act.put,nA,nB,nC]
 refine wpList_run (v := .bool false) rfl rfl ?_
 simp only [Act.put,nA,nB,nC]
 refine wpList_g rfl ?_
 refine wpList_run (v := .pointer (some ⟨A,5,none⟩)) rfl rfl ?_
 simp only [Act.put,nA,nB,nC]
 refine wpList_g rfl ?_
 refine wpList_load_mid rfl 22 (.tmp 28) rfl A 5 rfl (z32) _ (HA1.out.part' (msg_part5 _ _ _ _ _)) rfl rfl (by kernel_rfl) ?_
 simp only [Act.put,nA,nB,nC]
 refine wpList_g rfl ?_
 refine wpList_run (v := .pointer (some ⟨B,5,none⟩)) rfl rfl ?_
 simp only [Act.put,nA,nB,nC]
 refine wpList_g rfl ?_
 refine wpList_load_mid rfl 22 (.tmp 30) rfl B 5 rfl (z32) _ (HB1.out.part' (msg_part5 _ _ _ _ _)) rfl rfl (by kernel_rfl) ?_
 simp only [Act.put,nA,nB,nC]
 refine wpList_g rfl ?_
 refine wpList_run (v := .bool false) (w' := w1) rfl (by unfold execOp; simp only [Act.eval]; simp [neq_arr0,eqg_arr,Sem.run_bind,Result.andThen]) ?_
 simp only [Act.put,nA,nB,nC]
 refine wpList_run (v := .bool false) rfl rfl ?_
 simp only [Act.put,nA,nB,nC]
 refine wpList_run (v := .bool false) rfl rfl ?_
 simp only [Act.put,nA,nB,nC]
 refine wpList_g rfl ?_
 refine wpList_run (v := .pointer (some ⟨A,37,none⟩)) rfl rfl ?_
 simp only [Act.put,nA,nB,nC]
 refine wpList_g rfl ?_
 refine wpList_load_mid rfl 22 (.tmp 35) rfl A 37 rfl (z32) _ (HA1.out.part' (msg_part37 _ _ _ _ _)) rfl rfl (by kernel_rfl) ?_
 simp only [Act.put,nA,nB,nC]
 refine wpList_g rfl ?_
 refine wpList_run (v := .pointer (some ⟨B,37,none⟩)) rfl rfl ?_
 simp only [Act.put,nA,nB,nC]
 refine wpList_g rfl ?_
 refine wpList_load_mid rfl 22 (.tmp 37) rfl B 37 rfl (z32) _ (HB1.out.part' (msg_part37 _ _ _ _ _)) rfl rfl (by kernel_rfl) ?_
 simp only [Act.put,nA,nB,nC]
 refine wpList_g rfl ?_
 refine wpList_run (v := .bool false) (w' := w1) rfl (by unfold execOp; simp only [Act.eval]; simp [neq_arr0,eqg_arr,Sem.run_bind,Result.andThen]) ?_
 simp only [Act.put,nA,nB,nC]
 refine wpList_run (v := .bool false) rfl rfl ?_
 simp only [Act.put,nA,nB,nC]
 refine wpList_run (v := .bool false) rfl rfl ?_
 simp only [Act.put,nA,nB,nC]
 refine wpList_g rfl ?_
 refine wpList_run (v := .pointer (some ⟨A,143,none⟩)) rfl rfl ?_
 simp only [Act.put,nA,nB,nC]
 refine wpList_g rfl ?_
 refine wpList_load1 rfl 2 (.tmp 42) rfl A 143 rfl (.int .i64 0) _ (HA1.out.cell_at (msg_at143 _ _ _ _ _)) rfl rfl ?_
 simp only [Act.put,nA,nB,nC]
 refine wpList_g rfl ?_
 refine wpList_run (v := .pointer (some ⟨B,143,none⟩)) rfl rfl ?_
 simp only [Act.put,nA,nB,nC]
 refine wpList_g rfl ?_
 refine wpList_load1 rfl 2 (.tmp 44) rfl B 143 rfl (.int .i64 0) _ (HB1.out.cell_at (msg_at143 _ _ _ _ _)) rfl rfl ?_
 simp only [Act.put,nA,nB,nC]
 refine wpList_g rfl ?_
 refine wpList_run (v := .bool false) (w' := w1) rfl (by kernel_rfl) ?_
 simp only [Act.put,nA,nB,nC]
 refine wpList_run (v := .bool false) rfl rfl ?_
 simp only [Act.put,nA,nB,nC]
 refine wpList_run (v := .bool false) rfl rfl ?_
 simp only [Act.put,nA,nB,nC]
 refine wpList_g rfl ?_
 refine wpList_run (v := .pointer (some ⟨A,145,none⟩)) rfl rfl ?_
 simp only [Act.put,nA,nB,nC]
 refine wpList_g rfl ?_
 refine wpList_load1 rfl 23 (.tmp 49) rfl A 145 rfl (.int .u32 0) _ (HA1.out.cell_at (msg_at145 _ _ _ _ _)) rfl rfl ?_
 simp only [Act.put,nA,nB,nC]
 refine wpList_g rfl ?_
 refine wpList_run (v := .pointer (some ⟨B,145,none⟩)) rfl rfl ?_
 simp only [Act.put,nA,nB,nC]
 refine wpList_g rfl ?_
 refine wpList_load1 rfl 23 (.tmp 51) rfl B 145 rfl (.int .u32 0) _ (HB1.out.cell_at (msg_at145 _ _ _ _ _)) rfl rfl ?_
 simp only [Act.put,nA,nB,nC]
 refine wpList_g rfl ?_
 refine wpList_run (v := .bool false) (w' := w1) rfl (by kernel_rfl) ?_
 simp only [Act.put,nA,nB,nC]
 refine wpList_run (v := .bool false) rfl rfl ?_
 simp only [Act.put,nA,nB,nC]
 refine wpList_run (v := .bool false) rfl rfl ?_
 simp only [Act.put,nA,nB,nC]
 refine wpList_g rfl ?_
 refine wpList_run (v := .pointer (some ⟨A,146,none⟩)) rfl rfl ?_
 simp only [Act.put,nA,nB,nC]
 refine wpList_g rfl ?_
 refine wpList_load1 rfl 23 (.tmp 56) rfl A 146 rfl (.int .u32 0) _ (HA1.out.cell_at (msg_at146 _ _ _ _ _)) rfl rfl ?_
 simp only [Act.put,nA,nB,nC]
 refine wpList_g rfl ?_
 refine wpList_run (v := .pointer (some ⟨B,146,none⟩)) rfl rfl ?_
 simp only [Act.put,nA,nB,nC]
 refine wpList_g rfl ?_
 refine wpList_load1 rfl 23 (.tmp 58) rfl B 146 rfl (.int .u32 0) _ (HB1.out.cell_at (msg_at146 _ _ _ _ _)) rfl rfl ?_
 simp only [Act.put,nA,nB,nC]
 refine wpList_g rfl ?_
 refine wpList_run (v := .bool false) (w' := w1) rfl (by kernel_rfl) ?_
 simp only [Act.put,nA,nB,nC]
 refine wpList_run (v := .bool false) rfl rfl ?_
 simp only [Act.put,nA,nB,nC]
 refine wpList_run (v := .bool false) rfl rfl ?_
 simp only [Act.put,nA,nB,nC]
 refine wpList_g rfl ?_
 refine wpList_run (v := .pointer (some ⟨A,147,none⟩)) rfl rfl ?_
 simp only [Act.put,nA,nB,nC]
 refine wpList_g rfl ?_
 refine wpList_load1 rfl 23 (.tmp 63) rfl A 147 rfl (.int .u32 n) _ (HA1.out.cell_at (msg_at147 _ _ _ _ _)) rfl rfl ?_
 simp only [Act.put,nA,nB,nC]
 refine wpList_g rfl ?_
 refine wpList_run (v := .pointer (some ⟨B,147,none⟩)) rfl rfl ?_
 simp only [Act.put,nA,nB,nC]
 refine wpList_g rfl ?_
 refine wpList_load1 rfl 23 (.tmp 65) rfl B 147 rfl (.int .u32 n) _ (HB1.out.cell_at (msg_at147 _ _ _ _ _)) rfl rfl ?_
 simp only [Act.put,nA,nB,nC]
 refine wpList_g rfl ?_
 refine wpList_run (v := .bool false) (w' := w1) rfl (by show _ = Result.ok (Next.value (Value.bool false)) _; rw [← neq_self n]; rfl) ?_
 simp only [Act.put,nA,nB,nC]
 refine wpList_run (v := .bool false) rfl rfl ?_
 simp only [Act.put,nA,nB,nC]
 refine wpList_run (v := .bool false) rfl rfl ?_
 simp only [Act.put,nA,nB,nC]
 refine wpList_g rfl ?_
 refine wpList_run (v := .pointer (some ⟨A,148,none⟩)) rfl rfl ?_
 simp only [Act.put,nA,nB,nC]
 refine wpList_g rfl ?_
 refine wpList_load1 rfl 5 (.tmp 70) rfl A 148 rfl (.int .u8 0) _ (HA1.out.cell_at (msg_at148 _ _ _ _ _)) rfl rfl ?_
 simp only [Act.put,nA,nB,nC]
 refine wpList_g rfl ?_
 refine wpList_run (v := .pointer (some ⟨B,148,none⟩)) rfl rfl ?_
 simp only [Act.put,nA,nB,nC]
 refine wpList_g rfl ?_
 refine wpList_load1 rfl 5 (.tmp 72) rfl B 148 rfl (.int .u8 0) _ (HB1.out.cell_at (msg_at148 _ _ _ _ _)) rfl rfl ?_
 simp only [Act.put,nA,nB,nC]
 refine wpList_g rfl ?_
 refine wpList_run (v := .bool false) (w' := w1) rfl (by kernel_rfl) ?_
 simp only [Act.put,nA,nB,nC]
 refine wpList_run (v := .bool false) rfl rfl ?_
 simp only [Act.put,nA,nB,nC]
 refine wpList_run (v := .bool false) rfl rfl ?_
 simp only [Act.put,nA,nB,nC]
 refine wpList_g rfl ?_
 refine wpList_run (v := .pointer (some ⟨A,149,none⟩)) rfl rfl ?_
 simp only [Act.put,nA,nB,nC]
 refine wpList_g rfl ?_
 refine wpList_load1 rfl 9 (.tmp 77) rfl A 149 rfl (.string ⟨#[]⟩) _ (HA1.out.cell_at (msg_at149 _ _ _ _ _)) rfl rfl ?_
 simp only [Act.put,nA,nB,nC]
 refine wpList_g rfl ?_
 refine wpList_run (v := .pointer (some ⟨B,149,none⟩)) rfl rfl ?_
 simp only [Act.put,nA,nB,nC]
 refine wpList_g rfl ?_
 refine wpList_load1 rfl 9 (.tmp 79) rfl B 149 rfl (.string ⟨#[]⟩) _ (HB1.out.cell_at (msg_at149 _ _ _ _ _)) rfl rfl ?_
 simp only [Act.put,nA,nB,nC]
 refine wpList_g rfl ?_
 refine wpList_run (v := .bool false) (w' := w1) rfl (by kernel_rfl) ?_
 simp only [Act.put,nA,nB,nC]
 refine wpList_run (v := .bool false) rfl rfl ?_
 simp only [Act.put,nA,nB,nC]
 refine wpList_run (v := .bool false) rfl rfl ?_
 simp only [Act.put,nA,nB,nC]
 refine wpList_g rfl ?_
 refine wpList_run (v := .pointer (some ⟨A,150,none⟩)) rfl rfl ?_
 simp only [Act.put,nA,nB,nC]
 refine wpList_g rfl ?_
 refine wpList_load1 rfl 9 (.tmp 84) rfl A 150 rfl (.string ⟨#[]⟩) _ (HA1.out.cell_at (msg_at150 _ _ _ _ _)) rfl rfl ?_
 simp only [Act.put,nA,nB,nC]
 refine wpList_g rfl ?_
 refine wpList_run (v := .pointer (some ⟨B,150,none⟩)) rfl rfl ?_
 simp only [Act.put,nA,nB,nC]
 refine wpList_g rfl ?_
 refine wpList_load1 rfl 9 (.tmp 86) rfl B 150 rfl (.string ⟨#[]⟩) _ (HB1.out.cell_at (msg_at150 _ _ _ _ _)) rfl rfl ?_
 simp only [Act.put,nA,nB,nC]
 refine wpList_g rfl ?_
 refine wpList_run (v := .bool false) (w' := w1) rfl (by kernel_rfl) ?_
 simp only [Act.put,nA,nB,nC]
 refine wpList_run (v := .bool false) rfl rfl ?_
 simp only [Act.put,nA,nB,nC]
 refine wpList_nil ?_
 simp only [Exit.then]
 have ca2 : w1.cell? ⟨A,2,none⟩ = some (.slice none 0 0) := HA1.out.cell_at (msg_at2 _ _ _ _ _)
 have ca4 : w1.cell? ⟨A,4,none⟩ = some (.slice a1 fin.length e1) := HA1.out.cell_at (msg_at4 _ _ _ _ _)
 have ca7 : w1.cell? ⟨A,69,none⟩ = some (.slice a2 1 e2) := HA1.out.cell_at (msg_at69 _ _ _ _ _)
 have ca11 : w1.cell? ⟨A,144,none⟩ = some (.slice a3 bs.length e3) := HA1.out.cell_at (msg_at144 _ _ _ _ _)
 have cb2 : w1.cell? ⟨B,2,none⟩ = some (.slice none 0 0) := HB1.out.cell_at (msg_at2 _ _ _ _ _)
 have cb4 : w1.cell? ⟨B,4,none⟩ = some (.slice b1 fin.length f1) := HB1.out.cell_at (msg_at4 _ _ _ _ _)
 have cb7 : w1.cell? ⟨B,69,none⟩ = some (.slice b2 1 f2) := HB1.out.cell_at (msg_at69 _ _ _ _ _)
 have cb11 : w1.cell? ⟨B,144,none⟩ = some (.slice b3 bs.length f3) := HB1.out.cell_at (msg_at144 _ _ _ _ _)
 have hal := HA1.out.lt
 have hbl := HB1.out.lt
 generalize Value.agg z32.toArray = V29
 go_wp2_with fail
 refine (sameBytes_t w1 _ _ bs (Rd.below HhBa.out HF1.out.below) (Rd.below HhBb.out HF1.out.below) (by have := Hhbn.out; omega)).mono ?_
 rintro e w2 ⟨rfl,hf⟩
 have HF2 := hid (HF1.out.trans hf)
 have HA2 := hid (HA1.out.fr hf (by simp))
 have HB2 := hid (HB1.out.fr hf (by simp))
 clear ca2 ca4 ca7 ca11 cb2 cb4 cb7 cb11 hal hbl hf HA1 HB1
 have ca2 : w2.cell? ⟨A,2,none⟩ = some (.slice none 0 0) := HA2.out.cell_at (msg_at2 _ _ _ _ _)
 have ca4 : w2.cell? ⟨A,4,none⟩ = some (.slice a1 fin.length e1) := HA2.out.cell_at (msg_at4 _ _ _ _ _)
 have ca7 : w2.cell? ⟨A,69,none⟩ = some (.slice a2 1 e2) := HA2.out.cell_at (msg_at69 _ _ _ _ _)
 have hal := HA2.out.lt
 have hbl := HB2.out.lt
 go_wp2_with fail
 go_loopg [5] 0 (fun gk v5 wr => gk = 0 ∧ v5 = .int .i64 0 ∧ w2 = wr)
 case atStart => exact ⟨rfl,rfl,rfl⟩
 case round =>
  obtain ⟨rfl,rfl,rfl⟩ := hrel
  go_wp2_with fail
  go_loopg [6] fin.length (fun gk v6 wr => ∃ (i : Nat) (wi : World),wi = wr ∧ gk = fin.length - i ∧ i ≤ fin.length ∧ v6 = .int .i64 (i : Int) ∧ Fr [] w2 wi)
  case atStart => exact ⟨0,_,rfl,rfl,Nat.zero_le _,rfl,Fr.refl _ _⟩
  case round =>
   obtain ⟨i,wi,rfl,rfl,hi,rfl,hwi⟩ := hrel
   have HA3 := hid (HA2.out.fr hwi (by simp))
   have HB3 := hid (HB2.out.fr hwi (by simp))
   have HF3 := hid (HF2.out.trans hwi)
   have Hwi := hid hwi; clear hwi
   have ca4 : wi.cell? ⟨A,4,none⟩ = some (.slice a1 fin.length e1) := HA3.out.cell_at (msg_at4 _ _ _ _ _)
   have ca7 : wi.cell? ⟨A,69,none⟩ = some (.slice a2 1 e2) := HA3.out.cell_at (msg_at69 _ _ _ _ _)
   have hal3 := HA3.out.lt
   by_cases hlt : i < fin.length
   ·have hlti : (i : Int) < fin.length := by omega
    obtain ⟨p,po,pc,he,hp,hpr⟩ := hash_at (HhLa.out.listB (fun _ _ h => h)) hlt
    simp only [Value.slice.injEq] at he
    obtain ⟨rfl,_,rfl⟩ := he
    obtain ⟨q,qo,qc,he,hq,hqr⟩ := hash_at (HhLb.out.listB (fun _ _ h => h)) hlt
    simp only [Value.slice.injEq] at he
    obtain ⟨rfl,_,rfl⟩ := he
    obtain ⟨x,hx⟩ : ∃ x,x = fin[i] := ⟨_,rfl⟩
    rw [← hx] at hpr hqr
    have HX : Hid (x.length = 32) := by rw [hx]; exact Hhl.out _ (List.getElem_mem _)
    have HP := hid (fun w' (hf : Fr [] wi w') => hpr w' (HF3.out.trans hf).below)
    have HQ := hid (fun w' (hf : Fr [] wi w') => hqr w' (HF3.out.trans hf).below)
    have Hlt := hid hlt
    clear hx hpr hqr hp hq
    go_upto_region 13 with fail
    refine seg_begin (fun w' => Fr [] wi w') (by kernel_rfl) ?_
    refine seg_quiet (fuel := 0) (by kernel_rfl) (fun d _ _ _ _ h => by cases d <;> exact h) ((Fr.refl _ _).drew) [0,1,2,3,4,5,6,7,8,9,10] _ _ (by kernel_rfl) ?_
    simp only [pickL,nthO]
    refine wpQuiet_rfl (.pointer (some ⟨A,4,none⟩)) rfl (fun _ => rfl) ?_
    simp only [Act.put,nA,nB,nC]
    refine wpQuiet_load1 rfl 42 (.tmp 148) rfl A 4 rfl (.slice (some ⟨p,po,none⟩) fin.length e1) _ (fun w' hf => (HA3.out.fr hf (by simp)).cell_at (msg_at4 _ _ _ _ _)) rfl rfl ?_
    simp only [Act.put,nA,nB,nC]
    refine wpQuiet_rfl (.int .i64 (i : Int)) rfl (fun _ => rfl) ?_
    simp only [Act.put,nA,nB,nC]
    refine wpQuiet_index rfl 42 (.tmp 149) (.tmp 150) rfl p po fin.length e1 i 32 .i64 22 rfl rfl Hlt.out (by kernel_rfl) (by kernel_rfl) ?_
    simp only [Act.put,nA,nB,nC]
    refine wpQuiet_load rfl 22 (.tmp 151) rfl p (po + i * 32) rfl (ic .u8 x) _ (fun w' hf => HP.out w' hf) rfl rfl (by rw [ic_length,HX.out]; kernel_rfl) ?_
    simp only [Act.put,nA,nB,nC]
    refine wpQuiet_rfl (.pointer (some ⟨B,4,none⟩)) rfl (fun _ => rfl) ?_
    simp only [Act.put,nA,nB,nC]
    refine wpQuiet_load1 rfl 42 (.tmp 153) rfl B 4 rfl (.slice (some ⟨q,qo,none⟩) fin.length f1) _ (fun w' hf => (HB3.out.fr hf (by simp)).cell_at (msg_at4 _ _ _ _ _)) rfl rfl ?_
    simp only [Act.put,nA,nB,nC]
    refine wpQuiet_rfl (.int .i64 (i : Int)) rfl (fun _ => rfl) ?_
    simp only [Act.put,nA,nB,nC]
    refine wpQuiet_index rfl 42 (.tmp 154) (.tmp 155) rfl q qo fin.length f1 i 32 .i64 22 rfl rfl Hlt.out (by kernel_rfl) (by kernel_rfl) ?_
    simp only [Act.put,nA,nB,nC]
    refine wpQuiet_load rfl 22 (.tmp 156) rfl q (qo + i * 32) rfl (ic .u8 x) _ (fun w' hf => HQ.out w' hf) rfl rfl (by rw [ic_length,HX.out]; kernel_rfl) ?_
    simp only [Act.put,nA,nB,nC]
    refine wpQuiet_run rfl (.bool false) (fun w => by unfold execOp; simp only [Act.eval]; simp [neq_arr w x HX.out,eqg_arr,Sem.run_bind,Result.andThen]) ?_
    simp only [Act.put,nA,nB,nC]
    refine wpQuiet_nil ?_
    refine seg_end (by kernel_rfl) ?_
    generalize Value.agg (ic .u8 x).toArray = V152
    go_wp2_with fail
    go_roundg (fin.length - (i + 1))
    case measure => omega
    case rel => exact ⟨i + 1,_,rfl,rfl,by omega,by simp,Hwi.out.drew⟩
   ·have hlti : ¬ ((i : Int) < fin.length) := by omega
    go_wp2_with fail
    go_loopg [7] 1 (fun gk v7 wr => ∃ (j : Nat) (wj : World),wj = wr ∧ gk = 1 - j ∧ j ≤ 1 ∧ v7 = .int .i64 (j : Int) ∧ Fr [] wi wj)
    case atStart => exact ⟨0,_,rfl,rfl,Nat.zero_le _,rfl,Fr.refl _ _⟩
    case round =>
     obtain ⟨j,wj,rfl,rfl,hj,rfl,hwj⟩ := hrel
     have HA4 := hid (HA3.out.fr hwj (by simp))
     have HB4 := hid (HB3.out.fr hwj (by simp))
     have HF4 := hid (HF3.out.trans hwj)
     have Hwj := hid hwj; clear hwj
     have ca7 : wj.cell? ⟨A,69,none⟩ = some (.slice a2 1 e2) := HA4.out.cell_at (msg_at69 _ _ _ _ _)
     have hal4 := HA4.out.lt
     have hbl4 := HB4.out.lt
     by_cases hjt : j < 1
     ·have hjti : (j : Int) < 1 := by omega
      obtain ⟨p,po,pc,c,he,hp,hpl,hpr,hpe⟩ := (HhDa.out.listB (E' := HdrE) (fun _ _ h => h)).at (i := 0) (by simp) (by decide)
      have hpe' : c = h.cells := hpe
      subst hpe'
      have he' : Value.slice a2 1 e2 = .slice (some ⟨p,po,none⟩) 1 pc := he
      simp only [Value.slice.injEq] at he'
      obtain ⟨rfl,_,rfl⟩ := he'
      obtain ⟨q,qo,qc,c,he,hq,hql,hqr,hqe⟩ := (HhDb.out.listB (E' := HdrE) (fun _ _ h => h)).at (i := 0) (by simp) (by decide)
      have hqe' : c = h.cells := hqe
      subst hqe'
      have he' : Value.slice b2 1 f2 = .slice (some ⟨q,qo,none⟩) 1 qc := he
      simp only [Value.slice.injEq] at he'
      obtain ⟨rfl,_,rfl⟩ := he'
      have HP := hid (fun w' (hf : Fr [] wj w') => hpr w' (HF4.out.trans hf).below)
      have HQ := hid (fun w' (hf : Fr [] wj w') => hqr w' (HF4.out.trans hf).below)
      have Hpl := hid hpl
      obtain rfl : j = 0 := by omega
      clear hpr hqr hp hq hpe hqe hpl hql
      go_upto_region 18 with fail
      refine seg_begin (fun w' => Fr [] wj w') (by kernel_rfl) ?_
      refine seg_quiet (fuel := 0) (by kernel_rfl) (fun d _ _ _ _ h => by cases d <;> exact h) ((Fr.refl _ _).drew) [0,1,2,3,4,5,6,7,8,9,10] _ _ (by kernel_rfl) ?_
      simp only [pickL,nthO]
      refine wpQuiet_rfl (.pointer (some ⟨A,69,none⟩)) rfl (fun _ => rfl) ?_
      simp only [Act.put,nA,nB,nC]
      refine wpQuiet_load1 rfl 43 (.tmp 166) rfl A 69 rfl (.slice (some ⟨p,po,none⟩) 1 e2) _ (fun w' hf => (HA4.out.fr hf (by simp)).cell_at (msg_at69 _ _ _ _ _)) rfl rfl ?_
      simp only [Act.put,nA,nB,nC]
      refine wpQuiet_rfl (.int .i64 ((0 : Nat) : Int)) rfl (fun _ => rfl) ?_
      simp only [Act.put,nA,nB,nC]
      refine wpQuiet_index rfl 43 (.tmp 167) (.tmp 168) rfl p po 1 e2 0 68 .i64 25 rfl rfl (by decide) (by kernel_rfl) (by kernel_rfl) ?_
      simp only [Act.put,nA,nB,nC]
      refine wpQuiet_load rfl 25 (.tmp 169) rfl p (po + 0 * 68) rfl (h.cells) _ (fun w' hf => HP.out w' hf) rfl rfl (by rw [Hpl.out]; kernel_rfl) ?_
      simp only [Act.put,nA,nB,nC]
      refine wpQuiet_rfl (.pointer (some ⟨B,69,none⟩)) rfl (fun _ => rfl) ?_
      simp only [Act.put,nA,nB,nC]
      refine wpQuiet_load1 rfl 43 (.tmp 171) rfl B 69 rfl (.slice (some ⟨q,qo,none⟩) 1 f2) _ (fun w' hf => (HB4.out.fr hf (by simp)).cell_at (msg_at69 _ _ _ _ _)) rfl rfl ?_
      simp only [Act.put,nA,nB,nC]
      refine wpQuiet_rfl (.int .i64 ((0 : Nat) : Int)) rfl (fun _ => rfl) ?_
      simp only [Act.put,nA,nB,nC]
      refine wpQuiet_index rfl 43 (.tmp 172) (.tmp 173) rfl q qo 1 f2 0 68 .i64 25 rfl rfl (by decide) (by kernel_rfl) (by kernel_rfl) ?_
      simp only [Act.put,nA,nB,nC]
      refine wpQuiet_load rfl 25 (.tmp 174) rfl q (qo + 0 * 68) rfl (h.cells) _ (fun w' hf => HQ.out w' hf) rfl rfl (by rw [Hpl.out]; kernel_rfl) ?_
      simp only [Act.put,nA,nB,nC]
      refine wpQuiet_run rfl (.bool false) (fun w => by unfold execOp; simp only [Act.eval]; simp [neq_hdr w h Hhk.out,eqg_hdr,Sem.run_bind,Result.andThen]) ?_
      simp only [Act.put,nA,nB,nC]
      refine wpQuiet_nil ?_
      refine seg_end (by kernel_rfl) ?_
      generalize Value.agg h.cells.toArray = V170
      go_wp2_with fail
      go_roundg 0
      case measure => omega
      case rel => exact ⟨1,_,rfl,rfl,by omega,by simp,Hwj.out.drew⟩
     ·have hjti : ¬ ((j : Int) < 1) := by omega
      go_upto_region 20 with fail
      refine wp_region_lit ?_
      refine wpList_run (v := .pointer (some ⟨A,70,none⟩)) rfl rfl ?_
      simp only [Act.put,nA,nB,nC]
      refine wpList_load_mid rfl 39 (.tmp 177) rfl A 70 rfl ([.int .i32 0,.slice none 0 0,.slice none 0 0,.int .u32 0]) _ (HA4.out.part' (msg_part70 _ _ _ _ _)) rfl rfl (by kernel_rfl) ?_
      simp only [Act.put,nA,nB,nC]
      refine wpList_run (v := .pointer (some ⟨B,70,none⟩)) rfl rfl ?_
      simp only [Act.put,nA,nB,nC]
      refine wpList_load_mid rfl 39 (.tmp 179) rfl B 70 rfl ([.int .i32 0,.slice none 0 0,.slice none 0 0,.int .u32 0]) _ (HB4.out.part' (msg_part70 _ _ _ _ _)) rfl rfl (by kernel_rfl) ?_
      simp only [Act.put,nA,nB,nC]
      go_wp2_with fail
      refine (sameTx0_c _).mono ?_
      rintro e w5 ⟨rfl,hf⟩
      have HF5 := hid (HF4.out.trans hf)
      have HA5 := hid (HA4.out.fr hf (by simp))
      have HB5 := hid (HB4.out.fr hf (by simp))
      clear hf
      simp only []
      refine (‹∀ (a : Act) (w : World),wpList Tryz.prog _ _ _ a w → _›) _ _ ?_
      refine wpList_run (v := .bool true) rfl rfl ?_
      simp only [Act.put,nA,nB,nC]
      refine wpList_g rfl ?_
      refine wpList_run (v := .pointer (some ⟨A,74,none⟩)) rfl rfl ?_
      simp only [Act.put,nA,nB,nC]
      refine wpList_g rfl ?_
      refine wpList_load_mid rfl 28 (.tmp 183) rfl A 74 rfl (blk0) _ (HA5.out.part' (msg_part74 _ _ _ _ _)) rfl rfl (by kernel_rfl) ?_
      simp only [Act.put,nA,nB,nC]
      refine wpList_g rfl ?_
      refine wpList_run (v := .pointer (some ⟨B,74,none⟩)) rfl rfl ?_
      simp only [Act.put,nA,nB,nC]
      refine wpList_g rfl ?_
      refine wpList_load_mid rfl 28 (.tmp 185) rfl B 74 rfl (blk0) _ (HB5.out.part' (msg_part74 _ _ _ _ _)) rfl rfl (by kernel_rfl) ?_
      simp only [Act.put,nA,nB,nC]
      refine wpList_g rfl ?_
      go_wp2_with fail
      refine (sameBlock0_c _).mono ?_
      rintro e w6 ⟨rfl,hf⟩
      have HF6 := hid (HF5.out.trans hf)
      clear hf
      go_wp2_with fail
      go_ret
      exact ⟨rfl,HF6.out⟩
end
end Go.Proofs.YtdllckiidegpcaaGreat
