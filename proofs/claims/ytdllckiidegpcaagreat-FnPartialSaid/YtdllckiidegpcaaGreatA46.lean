/- A part of the walk of laws.FnPartial (part 46): contracts of functions that it comes to, and the plain laws that these lean on. Conditions stand in each contract. -/
import Derived.Test.YtdllckiidegpcaaGreatA43
import Derived.Test.YtdllckiidegpcaaGreatA45
set_option linter.unusedSimpArgs false
set_option linter.unusedVariables false
set_option maxHeartbeats 4000000
namespace Go.Proofs.YtdllckiidegpcaaGreat
open Go.RowKit
section
set_option maxRecDepth 8000
/-- What NewMerkleBlock answers. -/
def NmR (K : List Int) (flag : Int) (f : Blm) (k : Blck) (bg gF aF : Nat) (w : World) (e : Ending) (w' : World) : Prop :=
 ∃ M hv fl mv,e = .returned (.tuple #[.pointer (some ⟨M,0,none⟩),mv]) ∧ Fr [bg,gF,aF] w w' ∧ Blk w' M 125 (k.hdr.wire ++ [.int .u32 k.txs.length,hv,fl]) ∧
  ListT w'.heap.size 111 1 HpE w' hv (trav K (k.txs.map (txH K)) (mFold K flag f k.txs k.txs.length).1 (hgt k.txs.length) 0).2 ∧
  Bytes w' fl (pack (trav K (k.txs.map (txH K)) (mFold K flag f k.txs k.txs.length).1 (hgt k.txs.length) 0).1 (trav K (k.txs.map (txH K)) (mFold K flag f k.txs k.txs.length).1 (hgt k.txs.length) 0).1.length) ∧
  ListT w'.heap.size 23 1 (IntE .u32) w' mv (idxs (mFold K flag f k.txs k.txs.length).1)
def z108 : List Value := [.int .u32 0,.slice none 0 0,.slice none 0 0,.slice none 0 0,.slice none 0 0]
theorem z108_zero : Zero Tryz.prog 108 z108 := fun _ => rfl
theorem b108_one {n : Nat} {ah fh mb bv : Value} (h1 : ah.oneCell' = true) (h2 : fh.oneCell' = true) (h3 : mb.oneCell' = true) (h4 : bv.oneCell' = true) : ∀ u ∈ b108 n ah fh mb bv,u.oneCell' = true := by
 intro u hu; simp only [b108,List.mem_cons,List.not_mem_nil,or_false] at hu; rcases hu with rfl | rfl | rfl | rfl | rfl
 ·rfl
 ·exact h1
 ·exact h2
 ·exact h3
 ·exact h4
def mbC (h : Hdr) (n : Nat) (hv fl : Value) : List Value := h.wire ++ [.int .u32 n,hv,fl]
def z118 : List Value := .int .i32 0 :: (ic .u8 (List.replicate 32 0) ++ (ic .u8 (List.replicate 32 0) ++ [.int .i64 0,.int .u32 0,.int .u32 0]))
def z125 : List Value := z118 ++ [.int .u32 0,.slice none 0 0,.slice none 0 0]
theorem z125_len : z125.length = 71 := rfl
theorem z125_zero : Zero Tryz.prog 125 z125 := fun _ => rfl
theorem wire_one {h : Hdr} {n : Nat} {v1 v2 : Value} (h1 : v1.oneCell' = true) (h2 : v2.oneCell' = true) : ∀ u ∈ mbC h n v1 v2,u.oneCell' = true := by
 intro u hu
 simp only [mbC,Hdr.wire,List.mem_append,List.mem_cons,List.not_mem_nil,or_false] at hu
 rcases hu with (rfl | h | h | rfl | rfl | rfl) | rfl | rfl | rfl
 ·rfl
 ·exact ic_one _ _ _ h
 ·exact ic_one _ _ _ h
 ·rfl
 ·rfl
 ·rfl
 ·rfl
 ·exact h1
 ·exact h2
def zsB : List (List Value) := [z118,[.int .u32 0],[.slice none 0 0],[.slice none 0 0]]
theorem mb_places : builtPlaces Tryz.prog 125 = some (zsB.flatten,offs 0 zsB) := by kernel_rfl
def mbP (h : Hdr) (n : Nat) (a1 : Addr) (l1 c1 : Nat) (a2 : Addr) (l2 c2 : Nat) : List (Nat × Value) := [(0,.agg h.wire.toArray),(1,.int .u32 (n : Int)),(2,.slice (some a1) l1 c1),(3,.slice (some a2) l2 c2)]
theorem mb_offs : offs 0 zsB = [(0,68),(68,1),(69,1),(70,1)] := rfl
theorem mb_parts {h : Hdr} (hw : h.wire.length = 68) {n : Nat} {a1 : Addr} {l1 c1 : Nat} {a2 : Addr} {l2 c2 : Nat} : ∀ x ∈ mbP h n a1 l1 c1 a2 l2 c2,∃ off,(offs 0 zsB)[x.1]? = some (off,x.2.cells.size) := by
 rw [mb_offs]
 intro x hx
 simp only [mbP,List.mem_cons,List.not_mem_nil,or_false] at hx
 rcases hx with rfl | rfl | rfl | rfl
 ·exact ⟨0,by show some (0,68) = some (0,h.wire.toArray.size); rw [List.size_toArray,hw]⟩
 ·exact ⟨68,rfl⟩
 ·exact ⟨69,rfl⟩
 ·exact ⟨70,rfl⟩
theorem mb_fold {h : Hdr} {n : Nat} {a1 : Addr} {l1 c1 : Nat} {a2 : Addr} {l2 c2 : Nat} : ((mbP h n a1 l1 c1 a2 l2 c2).foldl (fun z x => z.set x.1 x.2.cells.toList) zsB).flatten = mbC h n (.slice (some a1) l1 c1) (.slice (some a2) l2 c2) := by
 simp only [mbP,zsB,List.foldl_cons,List.foldl_nil,List.set_cons_zero,List.set_cons_succ,List.flatten_cons,List.flatten_nil,mbC,Value.cells]
 simp
theorem or_zero_bits (x : Int) (h0 : 0 ≤ x) (h1 : x ≤ 255) : bits .or .u8 x 0 = x := by
 obtain ⟨n,rfl⟩ := Int.eq_ofNat_of_zero_le h0
 have := or_u8 n 0 (by omega) (by omega)
 simpa using this
theorem run_quo8 {op : Oper} {a : Act} {w : World} (t1 t2 : TypeId) (x : Operand) (ho : op.op = .binOp .quo t1 x (.const (.int .i64 8)) t2) (v : Int) {nb : Nat} (hx : a.eval x = .int .i64 v) (h0 : 0 ≤ v ∧ v ≤ 1000000) (hv : v / 8 = (nb : Int)) : (execOp a.eval op).run Tryz.prog w = .ok (.value (.int .i64 (nb : Int))) w := by
 have h1 : IntKind.i64.wrap (Int.tdiv v 8) = (nb : Int) := by
  rw [Int.tdiv_eq_ediv_of_nonneg h0.1,hv,IntWalk.i64_in _ (by omega)]
 unfold execOp; simp only [ho,hx]
 show ((do pure (Next.value (← Go.binOp .quo t1 (.int .i64 v) (.int .i64 8))) : Sem Next).run Tryz.prog w) = _
 rw [← h1]; rfl
set_option maxHeartbeats 16000000 in
theorem newMb_c (K : List Int) (hK : K.length = 64) (w : World) (hKc : Blk w 1 379 (ic .u32 K)) (B bg m gF mF aF cap : Nat) (hBw : B ≤ w.heap.size) (hB1 : 1 < B) (hBb : B ≤ bg) (hmB : m < B) (hBg : B ≤ gF) (hBa : B ≤ aF) (k : Blck) (d : List Value) (hk : k.Ok) (hs : k.Small) (hkt : TxsOk k.txs)
  (hg : Blk w bg 188 (blkNew m)) (hm : Blk w m 121 d) (hE : MsgBlockT B w d k) (f : Blm) (hfg : FGood f) (flag : Int) (hfl : 0 ≤ flag ∧ flag ≤ 2) (hF : FltAt w gF mF aF cap 0 f flag) :
  Calls Tryz.prog 20 #[.pointer (some ⟨bg,0,none⟩),.pointer (some ⟨gF,0,none⟩)] w (NmR K flag f k bg gF aF w) := by
 obtain ⟨n,hn⟩ : ∃ n,n = k.txs.length := ⟨_,rfl⟩
 have hn64 : n ≤ 64 := by have := hkt.2.1; omega
 have hn6 : (n : Int) ≤ 64 := by omega
 have hn1 : (1 : Int) ≤ n := by have := hkt.1; omega
 have HB8 : Hid (8 * n ≤ 281474976710656) := by show _ ≤ _; omega
 have HB1 : Hid (1 * n ≤ 281474976710656) := by show _ ≤ _; omega
 have HBm : Hid (n ≤ maxLen) := by show _ ≤ _; unfold maxLen; omega
 have Hn := hid hn
 have Hn64 := hid hn64
 have HhK := hid hK; clear hK
 have HhKc := hid hKc; clear hKc
 have HhkO := hid hk; clear hk
 have HhkS := hid hs; clear hs
 have Hhkt := hid hkt; clear hkt
 have Hhg := hid hg; clear hg
 have Hhm := hid hm; clear hm
 have HhE := hid hE; clear hE
 have Hfg := hid hfg; clear hfg
 have HhF := hid hF; clear hF
 have HBB : Hid (B ≤ w.heap.size ∧ 1 < B ∧ B ≤ bg ∧ m < B ∧ B ≤ gF ∧ B ≤ aF) := ⟨hBw,hB1,hBb,hmB,hBg,hBa⟩
 have HNe : Hid (bg ≠ gF ∧ bg ≠ aF ∧ bg ≠ mF) := by
  obtain ⟨post,hp⟩ := HhF.out.arr
  exact ⟨blk_ne Hhg.out HhF.out.top (by decide),blk_ne Hhg.out hp (by decide),blk_ne Hhg.out HhF.out.msg (by decide)⟩
 clear hBw hB1 hBb hmB hBg hBa hn hn64
 have hu106 : Tryz.prog.underlying 106 = some (.slice 111) := by kernel_rfl
 have hu29 : Tryz.prog.underlying 29 = some (.slice 5) := by kernel_rfl
 go_enter Tryz.func20,Tryz.ntmps20
 go_wp2_with (fail)
 refine (trs1_c K w B bg m HBB.out.1 HBB.out.2.2.1 HBB.out.2.2.2.1 k d HhkO.out HhkS.out Hhkt.out.1 Hhg.out Hhm.out HhE.out).mono ?_
 rintro e w1 ⟨R,Gs,rfl,hf,hR,hGs,hb,hu⟩
 have HF1 := hid hf
 have HGs := hid hGs
 have HRr := hid hR
 have HB1k := hid hb
 have HU1 := hid hu
 clear hf hR hGs hb hu
 rw [← Hn.out] at HB1k ⊢
 go_upto_region 2 with fail
 refine region_cut (fun a a' w' => ∃ p q g : Nat,a' = ((((((a.put (some 20) (.int .u32 n)).put (some 21) (.int .u32 n)).put (some 23) (.int .u32 n)).put (some 22) (.slice (some ⟨p,0,none⟩) 0 n)).put (some 24) (.slice (some ⟨q,0,none⟩) 0 n)).put (some 25) (.agg (b108 n (.slice (some ⟨p,0,none⟩) 0 n) (.slice none 0 0) (.slice (some ⟨q,0,none⟩) 0 n) (.slice none 0 0)).toArray)).put (some 7) (.pointer (some ⟨g,0,none⟩)) ∧ Fr [] w1 w' ∧ Blk w' p 111 (List.replicate n (.pointer none)) ∧ Blk w' q 5 (List.replicate n (.int .u8 0)) ∧ Blk w' g 108 (b108 n (.slice (some ⟨p,0,none⟩) 0 n) (.slice none 0 0) (.slice (some ⟨q,0,none⟩) 0 n) (.slice none 0 0)) ∧ w1.heap.size ≤ p ∧ w1.heap.size ≤ q ∧ w1.heap.size ≤ g) ?_ ?_
 ·refine seg_begin (fun w' => Fr [] w1 w') (by kernel_rfl) ?_
  refine seg_quiet (fuel := 5) (by kernel_rfl) (fun _ _ _ _ _ h => nomatch h.1) (Fr.refl _ _).drew [0,1,3] _ _ (by kernel_rfl) ?_
  simp only [pickL,nthO]
  refine wpQuiet_rfl (.int .u32 (n : Int)) rfl (fun _ => rfl) ?_
  simp only [Act.put,nA,nB,nC]
  refine wpQuiet_rfl (.int .u32 (n : Int)) rfl (fun _ => rfl) ?_
  simp only [Act.put,nA,nB,nC]
  refine wpQuiet_rfl (.int .u32 (n : Int)) rfl (fun _ => rfl) ?_
  simp only [Act.put,nA,nB,nC]
  refine wpQuiet_nil ?_
  have HFwd : Hid (Fr [] w1 w1.drew) := (Fr.refl _ _).drew
  change wpAnyH _ _ _ _ _ _ _ _ w1.drew
  generalize w1.drew = wd at HFwd ⊢
  refine seg_three 2 4 6 (oi := ⟨some 22,_,_,_,_,_⟩) (oj := ⟨some 24,_,_,_,_,_⟩) (ok := ⟨some 7,_,_,_,_,_⟩) rfl rfl rfl rfl rfl rfl (by kernel_rfl) ?_ ?_ ?_
  refine step_make rfl 106 _ _ rfl 111 (.pointer none) 8 made111 hu106 .i64 .u32 0 n rfl rfl (Nat.zero_le _) HB8.out HBm.out ?_
  intro wa p hab hp hB
  have HFwa := hid (HFwd.out.trans hab)
  have Hpwa := hid hB
  have Hpw : Hid (w1.heap.size ≤ p) := Nat.le_trans HFwd.out.size hp
  clear hab hp hB
  simp only [Act.put,nA,nB,nC]
  refine ⟨HFwa.out, ?_⟩
  refine seg_two 4 6 (oi := ⟨some 24,_,_,_,_,_⟩) (oj := ⟨some 7,_,_,_,_,_⟩) rfl rfl rfl rfl (by kernel_rfl) ?_ ?_
  refine step_make rfl 29 _ _ rfl 5 (.int .u8 0) 1 made5 hu29 .i64 .u32 0 n rfl rfl (Nat.zero_le _) HB1.out HBm.out ?_
  intro wb q hab hp hB
  have HFwb := hid (HFwa.out.trans hab)
  have Hqwb := hid hB
  have Hqw : Hid (w1.heap.size ≤ q) := Nat.le_trans HFwa.out.size hp
  have Hpwb := hid (Hpwa.out.fr hab (by simp))
  clear hab hp hB
  simp only [Act.put,nA,nB,nC]
  refine ⟨HFwb.out, ?_⟩
  refine seg_quiet (fuel := 2) (by kernel_rfl) (fun _ _ _ _ _ h => nomatch h.1) HFwb.out [5] _ _ (by kernel_rfl) ?_
  simp only [pickL,nthO]
  refine wpQuiet_build rfl 108 _ rfl [(0,.int .u32 (n : Int)),(1,.slice (some ⟨p,0,none⟩) 0 n),(3,.slice (some ⟨q,0,none⟩) 0 n)] (by simp only [List.map_toArray]; rfl) [[.int .u32 0],[.slice none 0 0],[.slice none 0 0],[.slice none 0 0],[.slice none 0 0]] (by kernel_rfl) (by simp [offs,Value.cells]) (b108 n (.slice (some ⟨p,0,none⟩) 0 n) (.slice none 0 0) (.slice (some ⟨q,0,none⟩) 0 n) (.slice none 0 0)) (by simp [b108,Value.cells]) ?_
  simp only [Act.put,nA,nB,nC]
  refine wpQuiet_nil ?_
  refine seg_act 6 (o := ⟨some 7,_,_,_,_,_⟩) rfl rfl (by kernel_rfl) ?_
  refine step_new rfl 108 rfl z108 z108_zero ?_
  intro wc g hab hp hB
  have HFwc := hid (HFwb.out.trans hab)
  have Hgwc := hid hB
  have Hgw : Hid (w1.heap.size ≤ g) := Nat.le_trans HFwb.out.size hp
  have Hpwc := hid (Hpwb.out.fr hab (by simp))
  have Hqwc := hid (Hqwb.out.fr hab (by simp))
  clear hab hp hB
  simp only [Act.put,nA,nB,nC]
  refine ⟨HFwc.out, ?_⟩
  rotate_left
  refine step_new rfl 108 rfl z108 z108_zero ?_
  intro wb g hab hp hB
  have HFwb := hid (HFwa.out.trans hab)
  have Hgwb := hid hB
  have Hgw : Hid (w1.heap.size ≤ g) := Nat.le_trans HFwa.out.size hp
  have Hpwb := hid (Hpwa.out.fr hab (by simp))
  clear hab hp hB
  simp only [Act.put,nA,nB,nC]
  refine ⟨HFwb.out, ?_⟩
  refine seg_act 4 (o := ⟨some 24,_,_,_,_,_⟩) rfl rfl (by kernel_rfl) ?_
  refine step_make rfl 29 _ _ rfl 5 (.int .u8 0) 1 made5 hu29 .i64 .u32 0 n rfl rfl (Nat.zero_le _) HB1.out HBm.out ?_
  intro wc q hab hp hB
  have HFwc := hid (HFwb.out.trans hab)
  have Hqwc := hid hB
  have Hqw : Hid (w1.heap.size ≤ q) := Nat.le_trans HFwb.out.size hp
  have Hpwc := hid (Hpwb.out.fr hab (by simp))
  have Hgwc := hid (Hgwb.out.fr hab (by simp))
  clear hab hp hB
  simp only [Act.put,nA,nB,nC]
  refine ⟨HFwc.out, ?_⟩
  refine seg_quiet (fuel := 1) (by kernel_rfl) (fun _ _ _ _ _ h => nomatch h.1) HFwc.out [5] _ _ (by kernel_rfl) ?_
  simp only [pickL,nthO]
  refine wpQuiet_build rfl 108 _ rfl [(0,.int .u32 (n : Int)),(1,.slice (some ⟨p,0,none⟩) 0 n),(3,.slice (some ⟨q,0,none⟩) 0 n)] (by simp only [List.map_toArray]; rfl) [[.int .u32 0],[.slice none 0 0],[.slice none 0 0],[.slice none 0 0],[.slice none 0 0]] (by kernel_rfl) (by simp [offs,Value.cells]) (b108 n (.slice (some ⟨p,0,none⟩) 0 n) (.slice none 0 0) (.slice (some ⟨q,0,none⟩) 0 n) (.slice none 0 0)) (by simp [b108,Value.cells]) ?_
  simp only [Act.put,nA,nB,nC]
  refine wpQuiet_nil ?_
  rotate_left
  refine step_make rfl 29 _ _ rfl 5 (.int .u8 0) 1 made5 hu29 .i64 .u32 0 n rfl rfl (Nat.zero_le _) HB1.out HBm.out ?_
  intro wa q hab hp hB
  have HFwa := hid (HFwd.out.trans hab)
  have Hqwa := hid hB
  have Hqw : Hid (w1.heap.size ≤ q) := Nat.le_trans HFwd.out.size hp
  clear hab hp hB
  simp only [Act.put,nA,nB,nC]
  refine ⟨HFwa.out, ?_⟩
  refine seg_two 2 6 (oi := ⟨some 22,_,_,_,_,_⟩) (oj := ⟨some 7,_,_,_,_,_⟩) rfl rfl rfl rfl (by kernel_rfl) ?_ ?_
  refine step_make rfl 106 _ _ rfl 111 (.pointer none) 8 made111 hu106 .i64 .u32 0 n rfl rfl (Nat.zero_le _) HB8.out HBm.out ?_
  intro wb p hab hp hB
  have HFwb := hid (HFwa.out.trans hab)
  have Hpwb := hid hB
  have Hpw : Hid (w1.heap.size ≤ p) := Nat.le_trans HFwa.out.size hp
  have Hqwb := hid (Hqwa.out.fr hab (by simp))
  clear hab hp hB
  simp only [Act.put,nA,nB,nC]
  refine ⟨HFwb.out, ?_⟩
  refine seg_quiet (fuel := 2) (by kernel_rfl) (fun _ _ _ _ _ h => nomatch h.1) HFwb.out [5] _ _ (by kernel_rfl) ?_
  simp only [pickL,nthO]
  refine wpQuiet_build rfl 108 _ rfl [(0,.int .u32 (n : Int)),(1,.slice (some ⟨p,0,none⟩) 0 n),(3,.slice (some ⟨q,0,none⟩) 0 n)] (by simp only [List.map_toArray]; rfl) [[.int .u32 0],[.slice none 0 0],[.slice none 0 0],[.slice none 0 0],[.slice none 0 0]] (by kernel_rfl) (by simp [offs,Value.cells]) (b108 n (.slice (some ⟨p,0,none⟩) 0 n) (.slice none 0 0) (.slice (some ⟨q,0,none⟩) 0 n) (.slice none 0 0)) (by simp [b108,Value.cells]) ?_
  simp only [Act.put,nA,nB,nC]
  refine wpQuiet_nil ?_
  refine seg_act 6 (o := ⟨some 7,_,_,_,_,_⟩) rfl rfl (by kernel_rfl) ?_
  refine step_new rfl 108 rfl z108 z108_zero ?_
  intro wc g hab hp hB
  have HFwc := hid (HFwb.out.trans hab)
  have Hgwc := hid hB
  have Hgw : Hid (w1.heap.size ≤ g) := Nat.le_trans HFwb.out.size hp
  have Hqwc := hid (Hqwb.out.fr hab (by simp))
  have Hpwc := hid (Hpwb.out.fr hab (by simp))
  clear hab hp hB
  simp only [Act.put,nA,nB,nC]
  refine ⟨HFwc.out, ?_⟩
  rotate_left
  refine step_new rfl 108 rfl z108 z108_zero ?_
  intro wb g hab hp hB
  have HFwb := hid (HFwa.out.trans hab)
  have Hgwb := hid hB
  have Hgw : Hid (w1.heap.size ≤ g) := Nat.le_trans HFwa.out.size hp
  have Hqwb := hid (Hqwa.out.fr hab (by simp))
  clear hab hp hB
  simp only [Act.put,nA,nB,nC]
  refine ⟨HFwb.out, ?_⟩
  refine seg_act 2 (o := ⟨some 22,_,_,_,_,_⟩) rfl rfl (by kernel_rfl) ?_
  refine step_make rfl 106 _ _ rfl 111 (.pointer none) 8 made111 hu106 .i64 .u32 0 n rfl rfl (Nat.zero_le _) HB8.out HBm.out ?_
  intro wc p hab hp hB
  have HFwc := hid (HFwb.out.trans hab)
  have Hpwc := hid hB
  have Hpw : Hid (w1.heap.size ≤ p) := Nat.le_trans HFwb.out.size hp
  have Hqwc := hid (Hqwb.out.fr hab (by simp))
  have Hgwc := hid (Hgwb.out.fr hab (by simp))
  clear hab hp hB
  simp only [Act.put,nA,nB,nC]
  refine ⟨HFwc.out, ?_⟩
  refine seg_quiet (fuel := 1) (by kernel_rfl) (fun _ _ _ _ _ h => nomatch h.1) HFwc.out [5] _ _ (by kernel_rfl) ?_
  simp only [pickL,nthO]
  refine wpQuiet_build rfl 108 _ rfl [(0,.int .u32 (n : Int)),(1,.slice (some ⟨p,0,none⟩) 0 n),(3,.slice (some ⟨q,0,none⟩) 0 n)] (by simp only [List.map_toArray]; rfl) [[.int .u32 0],[.slice none 0 0],[.slice none 0 0],[.slice none 0 0],[.slice none 0 0]] (by kernel_rfl) (by simp [offs,Value.cells]) (b108 n (.slice (some ⟨p,0,none⟩) 0 n) (.slice none 0 0) (.slice (some ⟨q,0,none⟩) 0 n) (.slice none 0 0)) (by simp [b108,Value.cells]) ?_
  simp only [Act.put,nA,nB,nC]
  refine wpQuiet_nil ?_
  rotate_left
  refine step_new rfl 108 rfl z108 z108_zero ?_
  intro wa g hab hp hB
  have HFwa := hid (HFwd.out.trans hab)
  have Hgwa := hid hB
  have Hgw : Hid (w1.heap.size ≤ g) := Nat.le_trans HFwd.out.size hp
  clear hab hp hB
  simp only [Act.put,nA,nB,nC]
  refine ⟨HFwa.out, ?_⟩
  refine seg_two 2 4 (oi := ⟨some 22,_,_,_,_,_⟩) (oj := ⟨some 24,_,_,_,_,_⟩) rfl rfl rfl rfl (by kernel_rfl) ?_ ?_
  refine step_make rfl 106 _ _ rfl 111 (.pointer none) 8 made111 hu106 .i64 .u32 0 n rfl rfl (Nat.zero_le _) HB8.out HBm.out ?_
  intro wb p hab hp hB
  have HFwb := hid (HFwa.out.trans hab)
  have Hpwb := hid hB
  have Hpw : Hid (w1.heap.size ≤ p) := Nat.le_trans HFwa.out.size hp
  have Hgwb := hid (Hgwa.out.fr hab (by simp))
  clear hab hp hB
  simp only [Act.put,nA,nB,nC]
  refine ⟨HFwb.out, ?_⟩
  refine seg_act 4 (o := ⟨some 24,_,_,_,_,_⟩) rfl rfl (by kernel_rfl) ?_
  refine step_make rfl 29 _ _ rfl 5 (.int .u8 0) 1 made5 hu29 .i64 .u32 0 n rfl rfl (Nat.zero_le _) HB1.out HBm.out ?_
  intro wc q hab hp hB
  have HFwc := hid (HFwb.out.trans hab)
  have Hqwc := hid hB
  have Hqw : Hid (w1.heap.size ≤ q) := Nat.le_trans HFwb.out.size hp
  have Hgwc := hid (Hgwb.out.fr hab (by simp))
  have Hpwc := hid (Hpwb.out.fr hab (by simp))
  clear hab hp hB
  simp only [Act.put,nA,nB,nC]
  refine ⟨HFwc.out, ?_⟩
  refine seg_quiet (fuel := 1) (by kernel_rfl) (fun _ _ _ _ _ h => nomatch h.1) HFwc.out [5] _ _ (by kernel_rfl) ?_
  simp only [pickL,nthO]
  refine wpQuiet_build rfl 108 _ rfl [(0,.int .u32 (n : Int)),(1,.slice (some ⟨p,0,none⟩) 0 n),(3,.slice (some ⟨q,0,none⟩) 0 n)] (by simp only [List.map_toArray]; rfl) [[.int .u32 0],[.slice none 0 0],[.slice none 0 0],[.slice none 0 0],[.slice none 0 0]] (by kernel_rfl) (by simp [offs,Value.cells]) (b108 n (.slice (some ⟨p,0,none⟩) 0 n) (.slice none 0 0) (.slice (some ⟨q,0,none⟩) 0 n) (.slice none 0 0)) (by simp [b108,Value.cells]) ?_
  simp only [Act.put,nA,nB,nC]
  refine wpQuiet_nil ?_
  rotate_left
  refine step_make rfl 29 _ _ rfl 5 (.int .u8 0) 1 made5 hu29 .i64 .u32 0 n rfl rfl (Nat.zero_le _) HB1.out HBm.out ?_
  intro wb q hab hp hB
  have HFwb := hid (HFwa.out.trans hab)
  have Hqwb := hid hB
  have Hqw : Hid (w1.heap.size ≤ q) := Nat.le_trans HFwa.out.size hp
  have Hgwb := hid (Hgwa.out.fr hab (by simp))
  clear hab hp hB
  simp only [Act.put,nA,nB,nC]
  refine ⟨HFwb.out, ?_⟩
  refine seg_act 2 (o := ⟨some 22,_,_,_,_,_⟩) rfl rfl (by kernel_rfl) ?_
  refine step_make rfl 106 _ _ rfl 111 (.pointer none) 8 made111 hu106 .i64 .u32 0 n rfl rfl (Nat.zero_le _) HB8.out HBm.out ?_
  intro wc p hab hp hB
  have HFwc := hid (HFwb.out.trans hab)
  have Hpwc := hid hB
  have Hpw : Hid (w1.heap.size ≤ p) := Nat.le_trans HFwb.out.size hp
  have Hgwc := hid (Hgwb.out.fr hab (by simp))
  have Hqwc := hid (Hqwb.out.fr hab (by simp))
  clear hab hp hB
  simp only [Act.put,nA,nB,nC]
  refine ⟨HFwc.out, ?_⟩
  refine seg_quiet (fuel := 1) (by kernel_rfl) (fun _ _ _ _ _ h => nomatch h.1) HFwc.out [5] _ _ (by kernel_rfl) ?_
  simp only [pickL,nthO]
  refine wpQuiet_build rfl 108 _ rfl [(0,.int .u32 (n : Int)),(1,.slice (some ⟨p,0,none⟩) 0 n),(3,.slice (some ⟨q,0,none⟩) 0 n)] (by simp only [List.map_toArray]; rfl) [[.int .u32 0],[.slice none 0 0],[.slice none 0 0],[.slice none 0 0],[.slice none 0 0]] (by kernel_rfl) (by simp [offs,Value.cells]) (b108 n (.slice (some ⟨p,0,none⟩) 0 n) (.slice none 0 0) (.slice (some ⟨q,0,none⟩) 0 n) (.slice none 0 0)) (by simp [b108,Value.cells]) ?_
  simp only [Act.put,nA,nB,nC]
  refine wpQuiet_nil ?_
  rotate_left
  all_goals
   refine seg_act 7 (o := ⟨none,_,_,_,_,_⟩) rfl rfl (by kernel_rfl) ?_
   refine step_store rfl 108 (.tmp 7) (.tmp 25) rfl rfl g z108 (b108 n (.slice (some ⟨p,0,none⟩) 0 n) (.slice none 0 0) (.slice (some ⟨q,0,none⟩) 0 n) (.slice none 0 0)) Hgwc.out rfl rfl rfl (by kernel_rfl) (b108_one rfl rfl rfl rfl) ?_
   intro we hf hb
   have hF : Fr [] w1 we := HFwc.out.andThen hf (by intro k hk; simp at hk; subst hk; exact .inr Hgw.out)
   refine ⟨hF, ?_⟩
   refine seg_end (by kernel_rfl) ?_
   refine ⟨rfl,p,q,g, ?_,hF,Hpwc.out.fr hf (by simpa using (blk_ne Hpwc.out Hgwc.out (by decide))),Hqwc.out.fr hf (by simpa using (blk_ne Hqwc.out Hgwc.out (by decide))),hb,Hpw.out,Hqw.out,Hgw.out⟩
   simp only [Act.put,nA,nB,nC]
 ·rintro a' w2 ⟨p,q,g,rfl,hF,hP,hQ,hG,hp,hq,hg⟩
  simp only [Exit.then]
  simp only [Act.put,nA,nB,nC]
  refine (‹∀ (a : Act) (w : World),Code.wp Tryz.prog _ _ a w → _›) _ _ ?_
  have HFw2 : Hid (Fr [bg] w w2) := HF1.out.andThen hF (by simp)
  have HG2 := hid hG
  have HAh2 : Hid (Grows w.heap.size 111 1 HpE w2 (.slice (some ⟨p,0,none⟩) 0 n) []) := Grows.emptyC hP (Nat.le_trans HF1.out.size hp) HBm.out
  have HMb2 : Hid (Grows w.heap.size 5 1 BitE w2 (.slice (some ⟨q,0,none⟩) 0 n) []) := Grows.emptyC hQ (Nat.le_trans HF1.out.size hq) HBm.out
  have HU2 : Hid (UTxs K B w2 R Gs k.txs) := HU1.out.grow hF (Nat.le_trans HBB.out.1 HF1.out.size)
  have HB2 : Hid (Blk w2 bg 188 (blkTrs m R n true)) := HB1k.out.fr hF (by simp)
  have Hgw : Hid (w.heap.size ≤ g) := Nat.le_trans HF1.out.size hg
  have HL2 : Hid (FltAt w2 gF mF aF cap 0 f flag) := HhF.out.fr HFw2.out (by simpa using (Ne.symm HNe.out.1)) (by simpa using (Ne.symm HNe.out.2.2)) (by simpa using (Ne.symm HNe.out.2.1))
  clear hF hP hQ hG hp hq hg HB1k HU1 HF1
  go_wp2_with fail
  refine (trs2_c w2 bg m R n HB2.out).mono ?_
  rintro e w' ⟨rfl,rfl⟩
  go_wp2_with fail
  go_loopg [8,29] n (fun gk v8 v29 wr => ∃ (i : Nat) (mf : List Int × Blm) (u8 ahv mbv : Value),u8 = v8 ∧ gk = n - i ∧ i ≤ n ∧ v29 = .int .i64 (i : Int) ∧ Hid (mFold K flag f k.txs i = mf) ∧ Grows w.heap.size 23 1 (IntE .u32) wr u8 (idxs mf.1) ∧ Blk wr g 108 (b108 n ahv (.slice none 0 0) mbv (.slice none 0 0)) ∧ Grows w.heap.size 111 1 HpE wr ahv ((k.txs.map (txH K)).take i) ∧ Grows w.heap.size 5 1 BitE wr mbv mf.1 ∧ FltAt wr gF mF aF cap 0 mf.2 flag ∧ UTxs K B wr R Gs k.txs ∧ Fr [bg,gF,aF] w wr ∧ Blk wr bg 188 (blkTrs m R n true))
  case atStart => exact ⟨0,([],f),_,_,_,rfl,rfl,Nat.zero_le _,rfl,rfl,Grows.nil _,HG2.out,HAh2.out,HMb2.out,HL2.out,HU2.out,HFw2.out.mono (by simp),HB2.out⟩
  case round =>
   obtain ⟨i,mf,u8,ahv,mbv,rfl,rfl,hi,rfl,HMf,hg8,hg,hga,hgm,hl,hu,hf,hb⟩ := hrel
   have HG8 := hid hg8; clear hg8
   have HGb := hid hg; clear hg
   have HGa := hid hga; clear hga
   have HGm := hid hgm; clear hgm
   have HL := hid hl; clear hl
   have HU := hid hu; clear hu
   have HF := hid hf; clear hf
   have HB := hid hb; clear hb
   clear HG2 HAh2 HMb2 HU2 HB2 HL2 HFw2
   have HMl : Hid (mf.1.length = i) := by rw [← HMf.out]; exact mFold_len (by rw [← Hn.out]; exact hi)
   have HGs2 : Hid (FGood mf.2) := by rw [← HMf.out]; exact mFold_good Hfg.out i
   by_cases hlt : i < n
   ·skip
    have hlti : (i : Int) < n := by omega
    have hlk : i < k.txs.length := by rw [← Hn.out]; exact hlt
    have hGl : i < Gs.length := by rw [HU.out.len]; exact hlk
    obtain ⟨G,hGe⟩ : ∃ G,G = Gs[i] := ⟨_,rfl⟩
    have hGp : (ptrs Gs)[i]? = some (.pointer (some ⟨G,0,none⟩)) := by unfold ptrs; rw [List.getElem?_map,List.getElem?_eq_getElem hGl,hGe]; rfl
    have e1 : wr.cell? ⟨R,i,none⟩ = some (.pointer (some ⟨G,0,none⟩)) := HU.out.row.cell_at hGp
    have hRl := HU.out.row.lt
    obtain ⟨mB,dm,hp,idx,hx,hh,hmB,hD,hE⟩ := HU.out.each i hGl hlk
    rw [← hGe] at hx
    have HGw : Hid (w.heap.size ≤ G) := HGs.out G (hGe ▸ List.getElem_mem hGl)
    have HGe : Hid (Gs[i]? = some G) := by show _ = _; rw [hGe,List.getElem?_eq_getElem hGl]
    clear hGe hGp
    obtain ⟨t,hte⟩ : ∃ t,t = k.txs[i] := ⟨_,rfl⟩
    have Hte : Hid (k.txs[i]? = some t) := by show _ = _; rw [hte,List.getElem?_eq_getElem hlk]
    have HTt := hid (Hhkt.out.2.2 _ (List.getElem_mem hlk))
    rw [← hte] at hh hE HTt
    have HMTx := hid (matchU_c K HhK.out t gF mF aF cap flag G mB idx mf.2 wr HL.out hp hx hh B (Nat.le_trans HBB.out.1 HF.out.size) (HhKc.out.fr HF.out (by have := HBB.out; simp; omega)) dm HTt.out.1 HTt.out.2.1 hD hE hmB HTt.out.2.2.1 HBB.out.2.2.2.2.1 HBB.out.2.2.2.2.2 (Nat.le_trans HBB.out.1 HGw.out) HBB.out.2.1 HGs2.out hfl)
    have HhmB := hid hmB; clear hmB hh
    have HD := hid hD; clear hD
    have HE := hid hE; clear hE
    have Hx := hid hx; clear hx
    have HMs : Hid (mFold K flag f k.txs (i + 1) = (mf.1 ++ [b2i (mTx K flag mf.2 t).1],(mTx K flag mf.2 t).2)) := by show _ = _; rw [mFold_succ hlk,HMf.out,hte]
    have HTk : Hid ((k.txs.map (txH K)).take (i + 1) = (k.txs.map (txH K)).take i ++ [txH K t]) := by show _ = _; rw [List.take_add_one,List.getElem?_map,List.getElem?_eq_getElem hlk,← hte]; rfl
    have Hlk := hid hlk; clear hte hlk
    have HGl := hid hGl; clear hGl
    go_wp2_with fail
    refine HMTx.out.mono ?_
    rintro e w3 ⟨rfl,hf,hl3,hp3,hx3,hh3⟩
    have HF3 := hid hf; clear hf
    have HL3 := hid hl3; clear hl3
    have Hx3 := hid hx3; clear hx3
    have Hh3 := hid hh3; clear hh3
    clear e1 hRl HMTx
    have HTy : Hid (∀ x ∈ [gF,aF,G],x < w.heap.size ∧ (∃ xs,Blk wr x 201 xs) ∨ x < w.heap.size ∧ (∃ xs,Blk wr x 5 xs) ∨ ∃ xs,Blk wr x 204 xs) := by
     intro x hx
     obtain ⟨post,hpost⟩ := HhF.out.arr
     simp only [List.mem_cons,List.not_mem_nil,or_false] at hx
     rcases hx with rfl | rfl | rfl
     ·exact .inl ⟨HhF.out.top.lt,_,HL.out.top⟩
     ·obtain ⟨post,hp⟩ := HL.out.arr
      exact .inr (.inl ⟨hpost.lt,_,hp⟩)
     ·exact .inr (.inr ⟨_,Hx.out⟩)
    have HNg : Hid (∀ (T : TypeId) (y : Nat) (ys : List Value),Blk wr y T ys → T ≠ 201 → T ≠ 5 → T ≠ 204 → y ∉ [gF,aF,G]) := by
     intro T y ys hy h1 h2 h3 hm
     rcases HTy.out y hm with ⟨_,xs,hb⟩ | ⟨_,xs,hb⟩ | ⟨xs,hb⟩
     ·exact absurd rfl (blk_ne hy hb h1)
     ·exact absurd rfl (blk_ne hy hb h2)
     ·exact absurd rfl (blk_ne hy hb h3)
    have HSt : Hid (∀ T,T ≠ 204 → ∀ x ∈ [gF,aF,G],x < w.heap.size ∨ ∃ T' xs,Blk wr x T' xs ∧ T ≠ T') := by
     intro T h3 x hx
     rcases HTy.out x hx with ⟨h,_⟩ | ⟨h,_⟩ | ⟨xs,hb⟩
     ·exact .inl h
     ·exact .inl h
     ·exact .inr ⟨_,_,hb,h3⟩
    have HHp : Hid (∀ c x,HpE wr c x → HpE w3 c x) := by
     intro c x hc
     refine hc.frK HF3.out (fun y hy => ?_)
     rcases HTy.out y hy with ⟨_,xs,hb⟩ | ⟨_,xs,hb⟩ | ⟨xs,hb⟩
     ·exact ⟨_,_,hb,by decide⟩
     ·exact ⟨_,_,hb,by decide⟩
     ·exact ⟨_,_,hb,by decide⟩
    have HU3 : Hid (UTxs K B w3 R Gs k.txs) := by
     refine HU.out.upd HF3.out (Nat.le_trans HBB.out.1 HF.out.size) ?_ i HGl.out Hlk.out ?_ ?_
     ·intro x hx
      simp only [List.mem_cons,List.not_mem_nil,or_false] at hx
      have := HBB.out
      rcases hx with rfl | rfl | rfl
      ·exact this.2.2.2.2.1
      ·exact this.2.2.2.2.2
      ·exact Nat.le_trans this.1 HGw.out
     ·intro x hx
      simp only [List.mem_cons,List.not_mem_nil,or_false] at hx
      rcases hx with rfl | rfl | rfl
      ·right; intro T xs hb
       have hne : ∀ T',T' ≠ 201 → T ≠ T' := fun T' h e => absurd rfl (blk_ne (e ▸ hb) HL.out.top h)
       exact ⟨hne _ (by decide),hne _ (by decide),hne _ (by decide)⟩
      ·right; intro T xs hb
       obtain ⟨post,hp⟩ := HL.out.arr
       have hne : ∀ T',T' ≠ 5 → T ≠ T' := fun T' h e => absurd rfl (blk_ne (e ▸ hb) hp h)
       exact ⟨hne _ (by decide),hne _ (by decide),hne _ (by decide)⟩
      ·left; exact (List.getElem?_eq_some_iff.mp HGe.out).2.symm
     ·rw [(List.getElem?_eq_some_iff.mp HGe.out).2,(List.getElem?_eq_some_iff.mp Hte.out).2]
      have hbl : Below B wr w3 := HF3.out.to_below (Nat.le_trans HBB.out.1 HF.out.size) (by
       intro x hx
       simp only [List.mem_cons,List.not_mem_nil,or_false] at hx
       have := HBB.out
       rcases hx with rfl | rfl | rfl
       ·exact this.2.2.2.2.1
       ·exact this.2.2.2.2.2
       ·exact Nat.le_trans this.1 HGw.out)
      exact ⟨mB,dm,hp3,idx,Hx3.out,Hh3.out,HhmB.out,HD.out.below hbl HhmB.out,HE.out.below hbl⟩
    have HGb3 : Hid (Blk w3 g 108 (b108 n ahv (.slice none 0 0) mbv (.slice none 0 0))) := HGb.out.fr HF3.out (HNg.out _ _ _ HGb.out (by decide) (by decide) (by decide))
    have HB3 : Hid (Blk w3 bg 188 (blkTrs m R n true)) := HB.out.fr HF3.out (HNg.out _ _ _ HB.out (by decide) (by decide) (by decide))
    have HG83 : Hid (Grows w.heap.size 23 1 (IntE .u32) w3 u8 (idxs mf.1)) := HG8.out.frK HF3.out (HSt.out 23 (by decide)) (fun _ _ h => h)
    have HGa3 : Hid (Grows w.heap.size 111 1 HpE w3 ahv ((k.txs.map (txH K)).take i)) := HGa.out.frK HF3.out (HSt.out 111 (by decide)) HHp.out
    have HGm3 : Hid (Grows w.heap.size 5 1 BitE w3 mbv mf.1) := HGm.out.frK HF3.out (HSt.out 5 (by decide)) (fun _ _ h => h)
    have HFw3 : Hid (Fr [bg,gF,aF] w w3) := HF.out.andThen HF3.out (by intro x hx; simp only [List.mem_cons,List.not_mem_nil,or_false] at hx ⊢; rcases hx with rfl | rfl | rfl; { left; simp }; { left; simp }; right; exact HGw.out)
    clear HF3 HTy HNg HSt HHp HL HU HGb HB HG8 HGa HGm HF HD HE Hx Hh3
    clear Hx3
    obtain ⟨r1,hr1⟩ : ∃ r1,r1 = (mTx K flag mf.2 t).1 := ⟨_,rfl⟩
    rw [← hr1] at HMs ⊢
    clear hr1
    obtain ⟨r2,hr2⟩ : ∃ r2,r2 = (mTx K flag mf.2 t).2 := ⟨_,rfl⟩
    rw [← hr2] at HMs HL3
    clear hr2
    have HF3 := HFw3; clear HFw3
    have HNl : Hid (gF < w.heap.size ∧ mF < w.heap.size ∧ aF < w.heap.size) := by obtain ⟨post,hp⟩ := HhF.out.arr; exact ⟨HhF.out.top.lt,HhF.out.msg.lt,hp.lt⟩
    obtain ⟨L,hLe⟩ : ∃ L,L = (k.txs.map (txH K)).take i := ⟨_,rfl⟩
    rw [← hLe] at HTk HGa3
    have HLl : Hid (L.length = i) := by show _ = _; rw [hLe,List.length_take,List.length_map]; exact Nat.min_eq_left (Nat.le_of_lt Hlk.out)
    clear hLe
    obtain ⟨I8,hI8⟩ : ∃ I8,I8 = idxs mf.1 := ⟨_,rfl⟩
    have HIl : Hid (I8.length ≤ 64) := by have := idxs_len mf.1; rw [HMl.out,← hI8] at this; have := Hn64.out; show _ ≤ _; omega
    have HI8 := hid hI8
    rw [← hI8] at HG83
    clear hI8
    obtain ⟨aa,ca,rfl⟩ := HGa3.out.slice
    obtain ⟨am,cm,rfl⟩ := HGm3.out.slice
    obtain ⟨a8,c8,rfl⟩ := HG83.out.slice
    have c3 : w3.cell? ⟨g,3,none⟩ = some (.slice am mf.1.length cm) := HGb3.out.cell_at rfl
    have hgl := HGb3.out.lt
    cases r1
    have HMs2 : Hid (mFold K flag f k.txs (i + 1) = (mf.1 ++ [b2i false],r2)) := HMs.out
    have HI2 : Hid (idxs (mf.1 ++ [b2i false]) = I8) := by show _ = _; rw [idxs_snoc,HI8.out]; simp
    clear HMs
    have HFN : Hid (Fr [] w3 (w3.alloc (.cells #[.int .u8 0] 5))) := (Fr.refl _ _).alloc _
    have HBN : Hid (Blk (w3.alloc (.cells #[.int .u8 0] 5)) w3.heap.size 5 [.int .u8 0]) := Blk.new _ _ _
    have HG2 : Hid (Grows w.heap.size 5 1 (BitE) (w3.alloc (.cells #[.int .u8 0] 5)) (.slice am mf.1.length cm) mf.1) := HGm3.out.fr HFN.out (fun _ _ h => h)
    have HYb : Hid ((BitE) (w3.alloc (.cells #[.int .u8 0] 5)) [.int .u8 0] 0) := rfl
    have Hby : Hid ((mf.1.length + 1) * 1 ≤ 140737488355328) := by have := HMl.out; have := Hn64.out; show _ ≤ _; omega
    have hl3 : Hid (([.int .u8 0] : List Value).length = 1) := hid rfl
    have h1c : Hid (∀ u ∈ ([.int .u8 0] : List Value),u.oneCell' = true) := by intro u hu; rw [List.mem_singleton] at hu; subst hu; rfl
    have hEc : Hid (∀ w',FrT 5 (w3.alloc (.cells #[.int .u8 0] 5)) w' → Below w.heap.size (w3.alloc (.cells #[.int .u8 0] 5)) w' → ∀ c y,BitE (w3.alloc (.cells #[.int .u8 0] 5)) c y → BitE w' c y) := fun w' _ hb c y h => h
    have hbs : Hid (w.heap.size ≤ (w3.alloc (.cells #[.int .u8 0] 5)).heap.size) := Nat.le_trans HF3.out.size HFN.out.size
    focus go_wp2_with (with_reducible refine wpList_push2 (o := ⟨some 50,_,_,_,_,_⟩) rfl (.tmp 48) (.tmp 49) 29 rfl 5 1 1 elem29 w.heap.size (BitE) (.slice am mf.1.length cm) mf.1 ?_ HG2.out w3.heap.size 5 _ HBN.out ?_ hl3.out h1c.out hEc.out 0 HYb.out Hby.out hbs.out ?_)
    ·rfl
    ·rfl
    intro v5 w5 HGm5 _ HFo5 _
    obtain ⟨m2,hm2⟩ : ∃ m2,m2 = mf.1 ++ [b2i false] := ⟨_,rfl⟩
    have HGm5' : Hid (Grows w.heap.size 5 1 BitE w5 v5 m2) := by rw [hm2]; exact HGm5.out
    rotate_left
    have HMs2 : Hid (mFold K flag f k.txs (i + 1) = (mf.1 ++ [b2i true],r2)) := HMs.out
    have HI2 : Hid (idxs (mf.1 ++ [b2i true]) = I8 ++ [(i : Int)]) := by show _ = _; rw [idxs_snoc,HMl.out,HI8.out]; simp
    clear HMs
    have HFN : Hid (Fr [] w3 (w3.alloc (.cells #[.int .u8 1] 5))) := (Fr.refl _ _).alloc _
    have HBN : Hid (Blk (w3.alloc (.cells #[.int .u8 1] 5)) w3.heap.size 5 [.int .u8 1]) := Blk.new _ _ _
    have HG2 : Hid (Grows w.heap.size 5 1 (BitE) (w3.alloc (.cells #[.int .u8 1] 5)) (.slice am mf.1.length cm) mf.1) := HGm3.out.fr HFN.out (fun _ _ h => h)
    have HYb : Hid ((BitE) (w3.alloc (.cells #[.int .u8 1] 5)) [.int .u8 1] 1) := rfl
    have Hby : Hid ((mf.1.length + 1) * 1 ≤ 140737488355328) := by have := HMl.out; have := Hn64.out; show _ ≤ _; omega
    have hl3 : Hid (([.int .u8 1] : List Value).length = 1) := hid rfl
    have h1c : Hid (∀ u ∈ ([.int .u8 1] : List Value),u.oneCell' = true) := by intro u hu; rw [List.mem_singleton] at hu; subst hu; rfl
    have hEc : Hid (∀ w',FrT 5 (w3.alloc (.cells #[.int .u8 1] 5)) w' → Below w.heap.size (w3.alloc (.cells #[.int .u8 1] 5)) w' → ∀ c y,BitE (w3.alloc (.cells #[.int .u8 1] 5)) c y → BitE w' c y) := fun w' _ hb c y h => h
    have hbs : Hid (w.heap.size ≤ (w3.alloc (.cells #[.int .u8 1] 5)).heap.size) := Nat.le_trans HF3.out.size HFN.out.size
    focus go_wp2_with (with_reducible refine wpList_push2 (o := ⟨some 40,_,_,_,_,_⟩) rfl (.tmp 38) (.tmp 39) 29 rfl 5 1 1 elem29 w.heap.size (BitE) (.slice am mf.1.length cm) mf.1 ?_ HG2.out w3.heap.size 5 _ HBN.out ?_ hl3.out h1c.out hEc.out 1 HYb.out Hby.out hbs.out ?_)
    ·rfl
    ·rfl
    intro v5 w5 HGm5 _ HFo5 _
    obtain ⟨m2,hm2⟩ : ∃ m2,m2 = mf.1 ++ [b2i true] := ⟨_,rfl⟩
    have HGm5' : Hid (Grows w.heap.size 5 1 BitE w5 v5 m2) := by rw [hm2]; exact HGm5.out
    rotate_left
    all_goals
     have HSn : Hid (Stp 5 w.heap.size w3 _) := Stp.of0 _ _ HFN.out
     have HSo : Hid (Stp 5 w.heap.size _ w5) := Stp.ofOwn HG2.out HFo5.out
     have HG8n := hid (HSn.out.gro HG83.out (by decide) (E' := IntE .u32) (fun _ _ h => h))
     have HGbn := hid (HSn.out.blk HGb3.out (by decide))
     have HGan := hid (HSn.out.gro HGa3.out (by decide) (E' := HpE) (fun _ _ h => HSn.out.hp h (by decide)))
     have HLn := hid (HSn.out.flt HL3.out HNl.out)
     have HUn := hid (HSn.out.us HU3.out HBB.out.1 (Nat.le_trans HBB.out.1 HF3.out.size) (by decide) (by decide) (by decide))
     have HBn := hid (HSn.out.blk HB3.out (by decide))
     have HFn := hid (HSn.out.fr HF3.out (Nat.le_refl _))
     have HG85 := hid (HSo.out.gro HG8n.out (by decide) (E' := IntE .u32) (fun _ _ h => h))
     have HGb5 := hid (HSo.out.blk HGbn.out (by decide))
     have HGa5 := hid (HSo.out.gro HGan.out (by decide) (E' := HpE) (fun _ _ h => HSo.out.hp h (by decide)))
     have HL5 := hid (HSo.out.flt HLn.out HNl.out)
     have HU5 := hid (HSo.out.us HUn.out HBB.out.1 (Nat.le_trans HBB.out.1 HFn.out.size) (by decide) (by decide) (by decide))
     have HB5 := hid (HSo.out.blk HBn.out (by decide))
     have HF5 := hid (HSo.out.fr HFn.out (Nat.le_refl _))
     clear HSn HSo HFN HBN HG2 HYb Hby hl3 h1c hEc hbs HFo5 c3 hgl HG8n HGbn HGan HLn HUn HBn HFn HG83 HGb3 HGa3 HGm3 HL3 HU3 HB3 HF3
     have Hm2 := hid hm2; clear hm2 HGm5
     have HGm5 := HGm5'; clear HGm5'
     obtain ⟨av5,cv5,rfl⟩ := HGm5.out.slice
     have c3' : w5.cell? ⟨g,3,none⟩ = some (.slice am mf.1.length cm) := HGb5.out.cell_at rfl
     have f3' := HGb5.out.free 3
     have hgl5 := HGb5.out.lt
    focus go_upto_region 11 with fail
    have HS6 : Hid (Stp 108 w.heap.size w5 (w5.setCell ⟨g,3,none⟩ (.slice av5 m2.length cv5))) := Stp.of1 ((Fr.refl _ _).setCell _ _ (by simp)) HGb5.out Hgw.out
    have HGbt : Hid (Blk (w5.setCell ⟨g,3,none⟩ (.slice av5 m2.length cv5)) g 108 (b108 n (.slice aa L.length ca) (.slice none 0 0) (.slice av5 m2.length cv5) (.slice none 0 0))) := HGb5.out.set 3 _
    have HG8t := hid (HS6.out.gro HG85.out (by decide) (E' := IntE .u32) (fun _ _ h => h))
    have HGat := hid (HS6.out.gro HGa5.out (by decide) (E' := HpE) (fun _ _ h => HS6.out.hp h (by decide)))
    have HGmt := hid (HS6.out.gro HGm5.out (by decide) (E' := BitE) (fun _ _ h => h))
    have HLt := hid (HS6.out.flt HL5.out HNl.out)
    have HUt := hid (HS6.out.us HU5.out HBB.out.1 (Nat.le_trans HBB.out.1 HF5.out.size) (by decide) (by decide) (by decide))
    have HBt := hid (HS6.out.blk HB5.out (by decide))
    have HFt := hid (HS6.out.fr HF5.out (Nat.le_refl _))
    clear HS6 c3' f3' hgl5 HG85 HGb5 HGa5 HGm5 HL5 HU5 HB5 HF5
    generalize World.setCell w5 _ _ = wt at HG8t HGbt HGat HGmt HLt HUt HBt HFt ⊢
    rotate_left
    focus go_upto_region 9 with fail
    have HS6 : Hid (Stp 108 w.heap.size w5 (w5.setCell ⟨g,3,none⟩ (.slice av5 m2.length cv5))) := Stp.of1 ((Fr.refl _ _).setCell _ _ (by simp)) HGb5.out Hgw.out
    have HGb6 : Hid (Blk (w5.setCell ⟨g,3,none⟩ (.slice av5 m2.length cv5)) g 108 (b108 n (.slice aa L.length ca) (.slice none 0 0) (.slice av5 m2.length cv5) (.slice none 0 0))) := HGb5.out.set 3 _
    have HG86 := hid (HS6.out.gro HG85.out (by decide) (E' := IntE .u32) (fun _ _ h => h))
    have HGa6 := hid (HS6.out.gro HGa5.out (by decide) (E' := HpE) (fun _ _ h => HS6.out.hp h (by decide)))
    have HGm6 := hid (HS6.out.gro HGm5.out (by decide) (E' := BitE) (fun _ _ h => h))
    have HL6 := hid (HS6.out.flt HL5.out HNl.out)
    have HU6 := hid (HS6.out.us HU5.out HBB.out.1 (Nat.le_trans HBB.out.1 HF5.out.size) (by decide) (by decide) (by decide))
    have HB6 := hid (HS6.out.blk HB5.out (by decide))
    have HF6 := hid (HS6.out.fr HF5.out (Nat.le_refl _))
    clear HS6 c3' f3' hgl5 HG85 HGb5 HGa5 HGm5 HL5 HU5 HB5 HF5
    generalize World.setCell w5 _ _ = w6 at HG86 HGb6 HGa6 HGm6 HL6 HU6 HB6 HF6 ⊢
    have HFN : Hid (Fr [] w6 (w6.alloc (.cells #[.int .u32 (i : Int)] 23))) := (Fr.refl _ _).alloc _
    have HBN : Hid (Blk (w6.alloc (.cells #[.int .u32 (i : Int)] 23)) w6.heap.size 23 [.int .u32 (i : Int)]) := Blk.new _ _ _
    have HG2 : Hid (Grows w.heap.size 23 1 (IntE .u32) (w6.alloc (.cells #[.int .u32 (i : Int)] 23)) (.slice a8 I8.length c8) I8) := HG86.out.fr HFN.out (fun _ _ h => h)
    have HYb : Hid ((IntE .u32) (w6.alloc (.cells #[.int .u32 (i : Int)] 23)) [.int .u32 (i : Int)] (i : Int)) := rfl
    have Hby : Hid ((I8.length + 1) * 4 ≤ 140737488355328) := by have := HIl.out; show _ ≤ _; omega
    have hl3 : Hid (([.int .u32 (i : Int)] : List Value).length = 1) := hid rfl
    have h1c : Hid (∀ u ∈ ([.int .u32 (i : Int)] : List Value),u.oneCell' = true) := by intro u hu; rw [List.mem_singleton] at hu; subst hu; rfl
    have hEc : Hid (∀ w',FrT 23 (w6.alloc (.cells #[.int .u32 (i : Int)] 23)) w' → Below w.heap.size (w6.alloc (.cells #[.int .u32 (i : Int)] 23)) w' → ∀ c y,IntE .u32 (w6.alloc (.cells #[.int .u32 (i : Int)] 23)) c y → IntE .u32 w' c y) := fun w' _ hb c y h => h
    have hbs : Hid (w.heap.size ≤ (w6.alloc (.cells #[.int .u32 (i : Int)] 23)).heap.size) := Nat.le_trans HF6.out.size HFN.out.size
    focus go_wp2_with (with_reducible refine wpList_push2 (o := ⟨some 46,_,_,_,_,_⟩) rfl (.tmp 42) (.tmp 45) 67 rfl 23 1 4 elem67 w.heap.size (IntE .u32) (.slice a8 I8.length c8) I8 ?_ HG2.out w6.heap.size 23 _ HBN.out ?_ hl3.out h1c.out hEc.out (i : Int) HYb.out Hby.out hbs.out ?_)
    ·rfl
    ·rfl
    intro v7 wt HG8t _ HFo7 _
    have HSn : Hid (Stp 23 w.heap.size w6 _) := Stp.of0 _ _ HFN.out
    have HSo : Hid (Stp 23 w.heap.size _ wt) := Stp.ofOwn HG2.out HFo7.out
    have HGbn := hid (HSn.out.blk HGb6.out (by decide))
    have HGan := hid (HSn.out.gro HGa6.out (by decide) (E' := HpE) (fun _ _ h => HSn.out.hp h (by decide)))
    have HGmn := hid (HSn.out.gro HGm6.out (by decide) (E' := BitE) (fun _ _ h => h))
    have HLn := hid (HSn.out.flt HL6.out HNl.out)
    have HUn := hid (HSn.out.us HU6.out HBB.out.1 (Nat.le_trans HBB.out.1 HF6.out.size) (by decide) (by decide) (by decide))
    have HBn := hid (HSn.out.blk HB6.out (by decide))
    have HFn := hid (HSn.out.fr HF6.out (Nat.le_refl _))
    have HGbt := hid (HSo.out.blk HGbn.out (by decide))
    have HGat := hid (HSo.out.gro HGan.out (by decide) (E' := HpE) (fun _ _ h => HSo.out.hp h (by decide)))
    have HGmt := hid (HSo.out.gro HGmn.out (by decide) (E' := BitE) (fun _ _ h => h))
    have HLt := hid (HSo.out.flt HLn.out HNl.out)
    have HUt := hid (HSo.out.us HUn.out HBB.out.1 (Nat.le_trans HBB.out.1 HFn.out.size) (by decide) (by decide) (by decide))
    have HBt := hid (HSo.out.blk HBn.out (by decide))
    have HFt := hid (HSo.out.fr HFn.out (Nat.le_refl _))
    clear HSn HSo HFN HBN HG2 HYb Hby hl3 h1c hEc hbs HFo7 HGbn HGan HGmn HLn HUn HBn HFn HG86 HGb6 HGa6 HGm6 HL6 HU6 HB6 HF6
    all_goals
     have HUd := hid (HUt.out.grow ((Fr.refl [] _).drew) (Nat.le_trans HBB.out.1 HFt.out.size))
     have hGg := (List.getElem?_eq_some_iff.mp HGe.out).2
     obtain ⟨mX,dX,hpX,ixX,hxX,hhX,hmX,hDX,hEX⟩ := HUd.out.each i HGl.out Hlk.out
     rw [hGg] at hxX
     rw [(List.getElem?_eq_some_iff.mp Hte.out).2] at hhX hEX
     have HHt := hid (hashT_c K HhK.out wt.drew B G mX (Nat.le_trans HBB.out.1 HFt.out.size) (HhKc.out.fr (HFt.out.drew) (by have := HBB.out; simp; omega)) hpX ixX t dX hxX hhX HTt.out.1 HTt.out.2.1 hDX hEX hmX HTt.out.2.2.1)
     have HxX := hid hxX; clear hxX
     have HDX : Hid (mX < B ∧ Blk wt.drew mX 227 dX ∧ MsgTxT B wt.drew dX t) := ⟨hmX,hDX,hEX⟩
     clear hhX hmX hDX hEX hGg
     go_upto_region 11 with fail
     refine segS_begin (fun w' => w'.cell? ⟨g,1,none⟩ = some (.slice aa L.length ca)) 7 (by kernel_rfl) ?_
     refine segS_quiet (fuel := 5) (by kernel_rfl) (fun d _ _ _ _ h => by cases d <;> exact h) ((HGbt.out.drew.cell_at rfl)) [0,1,2] _ _ (by kernel_rfl) ?_
     simp only [pickL,nthO]
     refine wpQuiet_rfl (.pointer (some ⟨g,1,none⟩)) rfl (fun _ => rfl) ?_
     simp only [Act.put,nA,nB,nC]
     refine wpQuiet_load1 rfl 106 (.tmp 52) rfl g 1 rfl (.slice aa L.length ca) _ (fun w' hf => hf) rfl rfl ?_
     simp only [Act.put,nA,nB,nC]
     refine wpQuiet_rfl (.pointer (some ⟨G,0,none⟩)) rfl (fun _ => rfl) ?_
     simp only [Act.put,nA,nB,nC]
     refine wpQuiet_nil ?_
     refine segS_act 3 rfl rfl (by kernel_rfl) ?_
     go_wp2_with fail
     refine HHt.out.mono ?_
     rintro e w8 ⟨P,rfl,hf,hg8,hP⟩
     have HS8 : Hid (Stp 204 w.heap.size wt.drew w8) := Stp.of1 hf HxX.out HGw.out
     have HSd : Hid (Stp 204 w.heap.size wt wt.drew) := Stp.of0 _ _ (Fr.refl _ _).drew
     have HG8d := hid (HSd.out.gro HG8t.out (by decide) (E' := IntE .u32) (fun _ _ h => h))
     have HGbd := hid (HSd.out.blk HGbt.out (by decide))
     have HGad := hid (HSd.out.gro HGat.out (by decide) (E' := HpE) (fun _ _ h => HSd.out.hp h (by decide)))
     have HGmd := hid (HSd.out.gro HGmt.out (by decide) (E' := BitE) (fun _ _ h => h))
     have HLd := hid (HSd.out.flt HLt.out HNl.out)
     have HBd := hid (HSd.out.blk HBt.out (by decide))
     have HFd := hid (HSd.out.fr HFt.out (Nat.le_refl _))
     have HG88 := hid (HS8.out.gro HG8d.out (by decide) (E' := IntE .u32) (fun _ _ h => h))
     have HGb8 := hid (HS8.out.blk HGbd.out (by decide))
     have HGa8 := hid (HS8.out.gro HGad.out (by decide) (E' := HpE) (fun _ _ h => HS8.out.hp h (by decide)))
     have HGm8 := hid (HS8.out.gro HGmd.out (by decide) (E' := BitE) (fun _ _ h => h))
     have HL8 := hid (HS8.out.flt HLd.out HNl.out)
     have HB8 := hid (HS8.out.blk HBd.out (by decide))
     have HF8 := hid (HS8.out.fr HFd.out (Nat.le_refl _))
     have HU8 : Hid (UTxs K B w8 R Gs k.txs) := by
      have hB := Nat.le_trans HBB.out.1 HFt.out.size
      refine HUd.out.upd hf hB (fun x hx => ?_) i HGl.out Hlk.out (fun x hx => ?_) ?_
      ·rw [List.mem_singleton] at hx; subst hx; exact Nat.le_trans HBB.out.1 HGw.out
      ·rw [List.mem_singleton] at hx; subst hx; left; exact (List.getElem?_eq_some_iff.mp HGe.out).2.symm
      ·rw [(List.getElem?_eq_some_iff.mp HGe.out).2,(List.getElem?_eq_some_iff.mp Hte.out).2]
       have hbl : Below B wt.drew w8 := hf.to_below hB (fun x hx => by rw [List.mem_singleton] at hx; subst hx; exact Nat.le_trans HBB.out.1 HGw.out)
       exact ⟨mX,dX,_,ixX,hg8,.inr ⟨P,rfl,hP⟩,HDX.out.1,HDX.out.2.1.below hbl HDX.out.1,HDX.out.2.2.below hbl⟩
     have HP8 := hid hP
     clear hf hg8 hP HHt HxX HDX HS8 HSd HG8d HGbd HGad HGmd HLd HUd HBd HFd HG8t HGbt HGat HGmt HLt HUt HBt HFt
     go_wp2_with fail
     refine ⟨fun _ => HGb8.out.cell_at rfl, ?_⟩
     refine segS_act 4 rfl rfl (by kernel_rfl) ?_
     go_wp2_with fail
     have HFN : Hid (Fr [] w8 (w8.alloc (.cells #[.pointer (some ⟨P,0,none⟩)] 111))) := (Fr.refl _ _).alloc _
     have HPN : Hid (Blk (w8.alloc (.cells #[.pointer (some ⟨P,0,none⟩)] 111)) w8.heap.size 111 [.pointer (some ⟨P,0,none⟩)]) := Blk.new _ _ _
     have HYp : Hid (HpE (w8.alloc (.cells #[.pointer (some ⟨P,0,none⟩)] 111)) [.pointer (some ⟨P,0,none⟩)] (txH K t)) := ⟨P,rfl,HP8.out.fr HFN.out (by simp)⟩
     have HS9 : Hid (Stp 111 w.heap.size w8 (w8.alloc (.cells #[.pointer (some ⟨P,0,none⟩)] 111))) := Stp.of0 _ _ HFN.out
     have HGa9 : Hid (Grows w.heap.size 111 1 HpE (w8.alloc (.cells #[.pointer (some ⟨P,0,none⟩)] 111)) (.slice aa L.length ca) L) := HGa8.out.fr HFN.out (fun _ _ h => h.fr HFN.out)
     have HG89 := hid (HS9.out.gro HG88.out (by decide) (E' := IntE .u32) (fun _ _ h => h))
     have HGb9 := hid (HS9.out.blk HGb8.out (by decide))
     have HGm9 := hid (HS9.out.gro HGm8.out (by decide) (E' := BitE) (fun _ _ h => h))
     have HL9 := hid (HS9.out.flt HL8.out HNl.out)
     have HU9 := hid (HS9.out.us HU8.out HBB.out.1 (Nat.le_trans HBB.out.1 HF8.out.size) (by decide) (by decide) (by decide))
     have HB9 := hid (HS9.out.blk HB8.out (by decide))
     have HF9 := hid (HS9.out.fr HF8.out (Nat.le_refl _))
     generalize World.alloc w8 _ = w9 at HPN HYp HGa9 HG89 HGb9 HGm9 HL9 HU9 HB9 HF9 ⊢
     obtain ⟨N8,hN8⟩ : ∃ N8,N8 = w8.heap.size := ⟨_,rfl⟩
     rw [← hN8] at HPN ⊢
     clear hN8
     clear HFN HS9 HP8 HG88 HGb8 HGa8 HGm8 HL8 HU8 HB8 HF8
     refine ⟨fun _ => HGb9.out.cell_at rfl, ?_⟩
     have hby : (L.length + 1) * 8 ≤ 140737488355328 := by have := HLl.out; have := Hn64.out; omega
     have hbs : w.heap.size ≤ w9.heap.size := HF9.out.size
     refine segS_act 5 rfl rfl (by kernel_rfl) ?_
     refine wpList_push2 rfl (.tmp 53) (.tmp 56) 106 rfl 111 1 8 elem106 w.heap.size HpE (.slice aa L.length ca) L rfl HGa9.out N8 111 [.pointer (some ⟨P,0,none⟩)] HPN.out rfl rfl (by intro u hu; rw [List.mem_singleton] at hu; subst hu; rfl) (fun w' hT _ c y hE => hE.frT hT (by decide)) (txH K t) HYp.out hby hbs ?_
     intro v10 w10 HGa10 _ HFo10 _
     clear hby hbs
     have HS10 : Hid (Stp 111 w.heap.size w9 w10) := Stp.ofOwn HGa9.out HFo10.out
     have HG810 := hid (HS10.out.gro HG89.out (by decide) (E' := IntE .u32) (fun _ _ h => h))
     have HGb10 := hid (HS10.out.blk HGb9.out (by decide))
     have HGm10 := hid (HS10.out.gro HGm9.out (by decide) (E' := BitE) (fun _ _ h => h))
     have HL10 := hid (HS10.out.flt HL9.out HNl.out)
     have HU10 := hid (HS10.out.us HU9.out HBB.out.1 (Nat.le_trans HBB.out.1 HF9.out.size) (by decide) (by decide) (by decide))
     have HB10 := hid (HS10.out.blk HB9.out (by decide))
     have HF10 := hid (HS10.out.fr HF9.out (Nat.le_refl _))
     clear HS10 HFo10 HPN HYp HG89 HGb9 HGa9 HGm9 HL9 HU9 HB9 HF9
     rw [← HTk.out] at HGa10
     obtain ⟨L2,hL2⟩ : ∃ L2,L2 = (k.txs.map (txH K)).take (i + 1) := ⟨_,rfl⟩
     rw [← hL2] at HGa10
     have HL2 := hid hL2; clear hL2
     obtain ⟨a10,c10,rfl⟩ := HGa10.out.slice
     refine wpList_nil ?_
     simp only [Act.put,nA,nB,nC]
     refine ⟨fun _ => HGb10.out.cell_at rfl, ?_⟩
     refine segS_act 6 rfl rfl (by kernel_rfl) ?_
     go_wp2_with fail
     refine ⟨fun _ => HGb10.out.cell_at rfl, ?_⟩
     refine segS_act 7 rfl rfl (by kernel_rfl) ?_
     have c1' : w10.cell? ⟨g,1,none⟩ = some (.slice aa L.length ca) := HGb10.out.cell_at rfl
     have f1' := HGb10.out.free 1
     have hgl10 := HGb10.out.lt
     go_wp2_with fail
     refine ⟨fun h => absurd rfl h, ?_⟩
     refine segS_end (by kernel_rfl) ?_
     have HS11 : Hid (Stp 108 w.heap.size w10 (w10.setCell ⟨g,1,none⟩ (.slice a10 L2.length c10))) := Stp.of1 ((Fr.refl _ _).setCell _ _ (by simp)) HGb10.out Hgw.out
     have HGb11 : Hid (Blk (w10.setCell ⟨g,1,none⟩ (.slice a10 L2.length c10)) g 108 (b108 n (.slice a10 L2.length c10) (.slice none 0 0) (.slice av5 m2.length cv5) (.slice none 0 0))) := HGb10.out.set 1 _
     have HG811 := hid (HS11.out.gro HG810.out (by decide) (E' := IntE .u32) (fun _ _ h => h))
     have HGa11 := hid (HS11.out.gro HGa10.out (by decide) (E' := HpE) (fun _ _ h => HS11.out.hp h (by decide)))
     have HGm11 := hid (HS11.out.gro HGm10.out (by decide) (E' := BitE) (fun _ _ h => h))
     have HL11 := hid (HS11.out.flt HL10.out HNl.out)
     have HU11 := hid (HS11.out.us HU10.out HBB.out.1 (Nat.le_trans HBB.out.1 HF10.out.size) (by decide) (by decide) (by decide))
     have HB11 := hid (HS11.out.blk HB10.out (by decide))
     have HF11 := hid (HS11.out.fr HF10.out (Nat.le_refl _))
     clear HS11 c1' f1' hgl10 HG810 HGb10 HGa10 HGm10 HL10 HU10 HB10 HF10
     generalize World.setCell w10 _ _ = w11 at HG811 HGb11 HGa11 HGm11 HL11 HU11 HB11 HF11 ⊢
     go_wp2_with fail
     go_roundg (n - (i + 1))
     case measure => omega
     case rel => exact ⟨i + 1,_,_,_,_,rfl,rfl,by omega,by simp,HMs2.out,by rw [HI2.out]; exact HG811.out,HGb11.out,by rw [← HL2.out]; exact HGa11.out,by rw [← Hm2.out]; exact HGm11.out,HL11.out,HU11.out,HF11.out,HB11.out⟩
   ·skip
    have hin : i = n := by omega
    obtain ⟨hs,hhs⟩ : ∃ hs,hs = k.txs.map (txH K) := ⟨_,rfl⟩
    have HhL : Hid (hs.length = n) := by show _ = _; rw [hhs,List.length_map,Hn.out]
    have Hh32 : Hid (∀ x ∈ hs,x.length = 32) := by
     intro x hx; rw [hhs] at hx; obtain ⟨t,_,rfl⟩ := List.mem_map.mp hx; exact H2_length _ _
    have HGa' : Hid (Grows w.heap.size 111 1 HpE wr ahv hs) := by
     have h := HGa.out
     rw [← hhs,hin,← HhL.out,List.take_length] at h
     exact h
    obtain ⟨ms,hms⟩ : ∃ ms,ms = mf.1 := ⟨_,rfl⟩
    have Hml : Hid (ms.length = hs.length) := by show _ = _; rw [hms,HMl.out,HhL.out,hin]
    have Hm01 : Hid (∀ x,nth ms x = 0 ∨ nth ms x = 1) := fun x => nth_01 (by rw [hms,← HMf.out]; exact mFold_01 _) x
    have HTrv : Hid (trav K (k.txs.map (txH K)) (mFold K flag f k.txs k.txs.length).1 (hgt k.txs.length) 0 = trav K hs ms (hgt n) 0) := by show _ = _; rw [← Hn.out,← hhs,hms,← HMf.out,hin]
    have HIx : Hid (idxs (mFold K flag f k.txs k.txs.length).1 = idxs ms) := by show _ = _; rw [← Hn.out,hms,← HMf.out,hin]
    rw [← hms] at HG8 HGm
    clear HGa hhs hms HMf HMl HGs2 hi HU HL
    obtain ⟨h6,hh6⟩ : ∃ h6,h6 = hgt n := ⟨_,rfl⟩
    rw [← hh6] at HTrv
    have Hh6 : Hid (h6 ≤ 6) := by show _ ≤ _; rw [hh6]; exact hgt_le n
    have HWd : Hid (∀ h,h ≤ 6 → (1 < wid n h ↔ h < h6)) := fun h hh => by rw [hh6]; exact wid_hgt Hn64.out hh
    have h66 : (h6 : Int) ≤ 6 := by have := Hh6.out; omega
    clear hh6
    obtain ⟨I8,hI8⟩ : ∃ I8,I8 = idxs ms := ⟨_,rfl⟩
    rw [← hI8] at HG8 HIx
    clear hI8
    obtain ⟨a8,c8,rfl⟩ := HG8.out.slice
    have hnl : ¬ ((i : Int) < n) := by omega
    subst hin
    go_wp2_with fail
    go_loopg [11] (h6 + 1) (fun gk v11 wl => ∃ h : Nat,gk = h6 + 1 - h ∧ h ≤ h6 ∧ v11 = .int .u32 (h : Int) ∧ wr = wl)
    case atStart => exact ⟨0,rfl,Nat.zero_le _,rfl,rfl⟩
    case round =>
     obtain ⟨h,rfl,hh,rfl,rfl⟩ := hrel
     have hh6 : (h : Int) ≤ 6 := by omega
     go_upto_region 14 with fail
     go_wp2_with fail
     refine (width_c wr g i h _ HGb.out Hn64.out (by have := Hh6.out; omega)).mono ?_
     rintro e w' ⟨rfl,rfl⟩
     by_cases hlt2 : h < h6
     ·have hwi : (1 : Int) < (wid i h : Int) := by have := (HWd.out h (by omega)).mpr hlt2; omega
      go_wp2_with fail
      go_roundg (h6 + 1 - (h + 1))
      case measure => omega
      case rel => exact ⟨h + 1,rfl,by omega,rfl,rfl⟩
     ·have hwi : ¬ ((1 : Int) < (wid i h : Int)) := by have := (HWd.out h (by omega)); intro hc; exact hlt2 (this.mp (by omega))
      have hhe : h = h6 := by omega
      subst hhe
      have HWp : Hid (0 < wid hs.length h) := by
       show _ < _
       rw [HhL.out]; unfold wid
       have h1 : 0 < 2 ^ h := Nat.pos_of_ne_zero (by simp)
       have := Hhkt.out.1; rw [← Hn.out] at this
       exact Nat.div_pos (by omega) h1
      go_wp2_with fail
      obtain ⟨ah',ca',rfl⟩ := HGa'.out.slice
      have HTv := hid (trv_c K HhK.out g hs Hh32.out (by rw [HhL.out]; exact Hn64.out) ms Hml.out Hm01.out _ mbv wr HGb.out.lt
       (fun w' hf => HGa'.out.hsAt (hf.frT (T := 108) (fun x hx _ => by rw [List.mem_singleton] at hx; subst hx; exact ⟨_,_,HGb.out⟩)) (by decide) (by decide) Hh32.out (by rw [HhL.out]; omega))
       (fun w' hf => HGm.out.bytesF (hf.frT (T := 108) (fun x hx _ => by rw [List.mem_singleton] at hx; subst hx; exact ⟨_,_,HGb.out⟩)) (by decide))
       (fun w' hf => (HhKc.out.fr HF.out (by have := HBB.out; simp; omega)).fr hf (by simpa using (blk_ne (HhKc.out.fr HF.out (by have := HBB.out; simp; omega)) HGb.out (by decide)))) h (by have := Hh6.out; omega)
       0 HWp.out wr [] [] ⟨Fr.refl _ _,_,_,by have h2 := HGb.out; rw [HhL.out] at h2 ⊢; exact h2,Grows.nil _,Grows.nil _⟩
       (by have := Nat.pow_le_pow_right (n := 2) (by omega) (show h + 1 ≤ 7 by have := Hh6.out; omega); simp; omega)
       (by have := Nat.pow_le_pow_right (n := 2) (by omega) (show h + 1 ≤ 7 by have := Hh6.out; omega); simp; omega) h 0 rfl rfl)
      refine HTv.out.mono ?_
      clear HTv
      rintro e wT ⟨rfl,hS⟩
      rw [List.nil_append,List.nil_append,HhL.out] at hS
      have HTl := hid (trav_len K hs ms h 0)
      have HT01 := hid (trav_01 K hs ms h 0)
      obtain ⟨bits,hbits⟩ : ∃ bits,bits = (trav K hs ms h 0).1 := ⟨_,rfl⟩
      obtain ⟨fin,hfin⟩ : ∃ fin,fin = (trav K hs ms h 0).2 := ⟨_,rfl⟩
      rw [← hbits,← hfin] at hS HTl
      rw [← hbits] at HT01
      have Hbits := hid hbits; clear hbits
      have Hfin := hid hfin; clear hfin
      have HTl2 : Hid (bits.length ≤ 128 ∧ fin.length ≤ 128) := by have := Nat.pow_le_pow_right (n := 2) (by omega) (show h + 1 ≤ 7 by have := Hh6.out; omega); have := HTl.out; show _ ∧ _; omega
      clear HTl
      have HTS := hid hS; clear hS
      have HS1 : Hid (Stp 108 w.heap.size wr wT) := Stp.of1 HTS.out.fr HGb.out Hgw.out
      have HG8T := hid (HS1.out.gro HG8.out (by decide) (E' := IntE .u32) (fun _ _ h => h))
      have HBT := hid (HS1.out.blk HB.out (by decide))
      have HFT := hid (HS1.out.fr HF.out (Nat.le_refl _))
      clear HS1 HG8 HB HF HGm HGb
      obtain ⟨fh,bv,hgT,hbT,hfT⟩ := HTS.out.blk
      have HgT := hid hgT; clear hgT
      have HbT := hid hbT; clear hbT
      have HfT := hid hfT; clear hfT
      clear HTS
      obtain ⟨ab,cb,rfl⟩ := HbT.out.slice
      obtain ⟨af,cf,rfl⟩ := HfT.out.slice
      have HmT : Hid (Blk wT m 121 d) := Hhm.out.fr HFT.out (by have := HBB.out; simp; omega)
      obtain ⟨tv,hd⟩ := HhE.out
      have hdw := hd.1
      have HhdrL := hid (Hdr.wire_length HhkO.out.hdr)
      have Hdw := hid hdw
      clear hdw hd
      have hbl : (bits.length : Int) ≤ 128 := by have := HTl2.out; omega
      have hfl2 : (fin.length : Int) ≤ 128 := by have := HTl2.out; omega
      obtain ⟨nb,hnb⟩ : ∃ nb,nb = (bits.length + 7) / 8 := ⟨_,rfl⟩
      have Hnb := hid hnb
      have HB8f : Hid (8 * fin.length ≤ 281474976710656) := by have := HTl2.out; show _ ≤ _; omega
      have HBmf : Hid (fin.length ≤ maxLen) := by have := HTl2.out; show _ ≤ _; unfold maxLen; omega
      have HB1b : Hid (1 * nb ≤ 281474976710656) := by have := HTl2.out; show _ ≤ _; omega
      have HBmb : Hid (nb ≤ maxLen) := by have := HTl2.out; show _ ≤ _; unfold maxLen; omega
      clear hnb
      go_upto_region 17 with fail
      refine region_cut (fun a a' w' => ∃ hh ff M : Nat,a' = (((((((((((((((((((a.put (some 67) (.pointer (some ⟨bg,0,none⟩))).put (some 72) (.pointer (some ⟨g,0,none⟩))).put (some 73) (.int .u32 (i : Int))).put (some 74) (.pointer (some ⟨g,2,none⟩))).put (some 75) (.slice af fin.length cf)).put (some 76) (.int .i64 (fin.length : Int))).put (some 78) (.pointer (some ⟨g,4,none⟩))).put (some 79) (.slice ab bits.length cb)).put (some 80) (.int .i64 (bits.length : Int))).put (some 81) (.int .i64 ((bits.length : Int) + 7))).put (some 82) (.int .i64 (nb : Int))).put (some 68) (.pointer (some ⟨m,0,none⟩))).put (some 69) (.pointer (some ⟨m,0,none⟩))).put (some 70) (.pointer (some ⟨m,0,none⟩))).put (some 71) (.agg k.hdr.wire.toArray)).put (some 77) (.slice (some ⟨hh,0,none⟩) 0 fin.length)).put (some 83) (.slice (some ⟨ff,0,none⟩) nb nb)).put (some 84) (.agg (mbC k.hdr i (.slice (some ⟨hh,0,none⟩) 0 fin.length) (.slice (some ⟨ff,0,none⟩) nb nb)).toArray)).put (some 12) (.pointer (some ⟨M,0,none⟩))) ∧ Fr [] wT w' ∧ Blk w' hh 111 (List.replicate fin.length (.pointer none)) ∧ Blk w' ff 5 (List.replicate nb (.int .u8 0)) ∧ Blk w' M 125 (mbC k.hdr i (.slice (some ⟨hh,0,none⟩) 0 fin.length) (.slice (some ⟨ff,0,none⟩) nb nb)) ∧ wT.heap.size ≤ hh ∧ wT.heap.size ≤ ff ∧ wT.heap.size ≤ M) ?_ ?_
      ·skip
       refine seg_begin (fun w' => Fr [] wT w') (by kernel_rfl) ?_
       refine seg_quiet (fuel := 9) (by kernel_rfl) (fun _ _ _ _ _ h => nomatch h.1) (Fr.refl _ _).drew [0,5,6,7,8,9,11,12,13,14,15] _ _ (by kernel_rfl) ?_
       simp only [pickL,nthO]
       refine wpQuiet_rfl (.pointer (some ⟨bg,0,none⟩)) rfl (fun _ => rfl) ?_
       simp only [Act.put,nA,nB,nC]
       refine wpQuiet_rfl (.pointer (some ⟨g,0,none⟩)) rfl (fun _ => rfl) ?_
       simp only [Act.put,nA,nB,nC]
       refine wpQuiet_load1 rfl 23 (.tmp 72) rfl g 0 rfl (.int .u32 (i : Int)) _ (fun w' hf => (HgT.out.fr hf (by simp)).cell_at rfl) rfl rfl ?_
       simp only [Act.put,nA,nB,nC]
       refine wpQuiet_rfl (.pointer (some ⟨g,2,none⟩)) rfl (fun _ => rfl) ?_
       simp only [Act.put,nA,nB,nC]
       refine wpQuiet_load1 rfl 106 (.tmp 74) rfl g 2 rfl (.slice af fin.length cf) _ (fun w' hf => (HgT.out.fr hf (by simp)).cell_at rfl) rfl rfl ?_
       simp only [Act.put,nA,nB,nC]
       iterate 1 go_big_quiet_step (((intro hw; first | with_reducible rfl | rfl | (simp [Result.andThen]; done) | (simp [Result.andThen]; rfl))))
       refine wpQuiet_rfl (.pointer (some ⟨g,4,none⟩)) rfl (fun _ => rfl) ?_
       simp only [Act.put,nA,nB,nC]
       refine wpQuiet_load1 rfl 29 (.tmp 78) rfl g 4 rfl (.slice ab bits.length cb) _ (fun w' hf => (HgT.out.fr hf (by simp)).cell_at rfl) rfl rfl ?_
       simp only [Act.put,nA,nB,nC]
       iterate 1 go_big_quiet_step (((intro hw; first | with_reducible rfl | rfl | (simp [Result.andThen]; done) | (simp [Result.andThen]; rfl))))
       refine wpQuiet_run rfl (.int .i64 ((bits.length : Int) + 7)) (fun w => by rw [run_add .i64 3 3 (.tmp 80) _ rfl bits.length 7 rfl rfl,IntWalk.i64_in _ (by omega)]) ?_
       simp only [Act.put,nA,nB,nC]
       refine wpQuiet_run rfl (.int .i64 (nb : Int)) (fun w => run_quo8 3 3 (.tmp 81) rfl _ rfl (by omega) (by have := Hnb.out; omega)) ?_
       simp only [Act.put,nA,nB,nC]
       refine wpQuiet_nil ?_
       refine seg_calm (oi := ⟨some 68,_,_,_,_,_⟩) 1 67 42 70 (.pointer (some ⟨bg,0,none⟩)) (.pointer (some ⟨m,0,none⟩)) rfl rfl rfl (by kernel_rfl) (by kernel_rfl) (by kernel_rfl) (fun _ _ _ _ _ h => nomatch h.1) rfl (Fr.refl _ _).drew (fn := Tryz.f42) (by kernel_rfl) (by kernel_rfl) rfl (fun w' hf => (msgBlock_c w' bg m R i true (HBT.out.fr hf (by simp)))) ?_
       simp only [Act.put,nA,nB,nC]
       refine seg_quiet (fuel := 5) (by kernel_rfl) (fun _ _ _ _ _ h => nomatch h.1) (Fr.refl _ _).drew [2,3,4] _ _ (by kernel_rfl) ?_
       simp only [pickL,nthO]
       refine wpQuiet_rfl (.pointer (some ⟨m,0,none⟩)) rfl (fun _ => rfl) ?_
       simp only [Act.put,nA,nB,nC]
       refine wpQuiet_rfl (.pointer (some ⟨m,0,none⟩)) rfl (fun _ => rfl) ?_
       simp only [Act.put,nA,nB,nC]
       refine wpQuiet_load rfl 118 (.tmp 70) rfl m 0 rfl (k.hdr.wire) _ (fun w' hf => (HmT.out.fr hf (by simp)).part [] _ _ (by rw [Hdw.out]; rfl)) rfl rfl (by rw [HhdrL.out]; kernel_rfl) ?_
       simp only [Act.put,nA,nB,nC]
       refine wpQuiet_nil ?_
       have HFwd : Hid (Fr [] wT wT.drew) := (Fr.refl _ _).drew
       change wpAnyH _ _ _ _ _ _ _ _ wT.drew
       generalize wT.drew = wd at HFwd ⊢
       refine seg_three 10 16 18 (oi := ⟨some 77,_,_,_,_,_⟩) (oj := ⟨some 83,_,_,_,_,_⟩) (ok := ⟨some 12,_,_,_,_,_⟩) rfl rfl rfl rfl rfl rfl (by kernel_rfl) ?_ ?_ ?_
       refine step_make rfl 106 _ _ rfl 111 (.pointer none) 8 made111 hu106 .i64 .i64 0 fin.length rfl rfl (Nat.zero_le _) HB8f.out HBmf.out ?_
       intro wa hh hab hp hB
       have HFwa := hid (HFwd.out.trans hab)
       have Hhhwa := hid hB
       have Hhhw : Hid (wT.heap.size ≤ hh) := Nat.le_trans HFwd.out.size hp
       clear hab hp hB
       simp only [Act.put,nA,nB,nC]
       refine ⟨HFwa.out, ?_⟩
       refine seg_two 16 18 (oi := ⟨some 83,_,_,_,_,_⟩) (oj := ⟨some 12,_,_,_,_,_⟩) rfl rfl rfl rfl (by kernel_rfl) ?_ ?_
       refine step_make rfl 29 _ _ rfl 5 (.int .u8 0) 1 made5 hu29 .i64 .i64 nb nb rfl rfl (Nat.le_refl _) HB1b.out HBmb.out ?_
       intro wb ff hab hp hB
       have HFwb := hid (HFwa.out.trans hab)
       have Hffwb := hid hB
       have Hffw : Hid (wT.heap.size ≤ ff) := Nat.le_trans HFwa.out.size hp
       have Hhhwb := hid (Hhhwa.out.fr hab (by simp))
       clear hab hp hB
       simp only [Act.put,nA,nB,nC]
       refine ⟨HFwb.out, ?_⟩
       refine seg_quiet (fuel := 2) (by kernel_rfl) (fun _ _ _ _ _ h => nomatch h.1) HFwb.out [17] _ _ (by kernel_rfl) ?_
       simp only [pickL,nthO]
       refine wpQuiet_build rfl 125 _ rfl (mbP k.hdr i ⟨hh,0,none⟩ 0 fin.length ⟨ff,0,none⟩ nb nb) (by simp only [List.map_toArray]; rfl) zsB mb_places (mb_parts HhdrL.out) (mbC k.hdr i (.slice (some ⟨hh,0,none⟩) 0 fin.length) (.slice (some ⟨ff,0,none⟩) nb nb)) mb_fold ?_
       simp only [Act.put,nA,nB,nC]
       refine wpQuiet_nil ?_
       refine seg_act 18 (o := ⟨some 12,_,_,_,_,_⟩) rfl rfl (by kernel_rfl) ?_
       refine step_new rfl 125 rfl z125 z125_zero ?_
       intro wc M hab hp hB
       have HFwc := hid (HFwb.out.trans hab)
       have HMwc := hid hB
       have HMw : Hid (wT.heap.size ≤ M) := Nat.le_trans HFwb.out.size hp
       have Hhhwc := hid (Hhhwb.out.fr hab (by simp))
       have Hffwc := hid (Hffwb.out.fr hab (by simp))
       clear hab hp hB
       simp only [Act.put,nA,nB,nC]
       refine ⟨HFwc.out, ?_⟩
       rotate_left
       refine step_new rfl 125 rfl z125 z125_zero ?_
       intro wb M hab hp hB
       have HFwb := hid (HFwa.out.trans hab)
       have HMwb := hid hB
       have HMw : Hid (wT.heap.size ≤ M) := Nat.le_trans HFwa.out.size hp
       have Hhhwb := hid (Hhhwa.out.fr hab (by simp))
       clear hab hp hB
       simp only [Act.put,nA,nB,nC]
       refine ⟨HFwb.out, ?_⟩
       refine seg_act 16 (o := ⟨some 83,_,_,_,_,_⟩) rfl rfl (by kernel_rfl) ?_
       refine step_make rfl 29 _ _ rfl 5 (.int .u8 0) 1 made5 hu29 .i64 .i64 nb nb rfl rfl (Nat.le_refl _) HB1b.out HBmb.out ?_
       intro wc ff hab hp hB
       have HFwc := hid (HFwb.out.trans hab)
       have Hffwc := hid hB
       have Hffw : Hid (wT.heap.size ≤ ff) := Nat.le_trans HFwb.out.size hp
       have Hhhwc := hid (Hhhwb.out.fr hab (by simp))
       have HMwc := hid (HMwb.out.fr hab (by simp))
       clear hab hp hB
       simp only [Act.put,nA,nB,nC]
       refine ⟨HFwc.out, ?_⟩
       refine seg_quiet (fuel := 1) (by kernel_rfl) (fun _ _ _ _ _ h => nomatch h.1) HFwc.out [17] _ _ (by kernel_rfl) ?_
       simp only [pickL,nthO]
       refine wpQuiet_build rfl 125 _ rfl (mbP k.hdr i ⟨hh,0,none⟩ 0 fin.length ⟨ff,0,none⟩ nb nb) (by simp only [List.map_toArray]; rfl) zsB mb_places (mb_parts HhdrL.out) (mbC k.hdr i (.slice (some ⟨hh,0,none⟩) 0 fin.length) (.slice (some ⟨ff,0,none⟩) nb nb)) mb_fold ?_
       simp only [Act.put,nA,nB,nC]
       refine wpQuiet_nil ?_
       rotate_left
       refine step_make rfl 29 _ _ rfl 5 (.int .u8 0) 1 made5 hu29 .i64 .i64 nb nb rfl rfl (Nat.le_refl _) HB1b.out HBmb.out ?_
       intro wa ff hab hp hB
       have HFwa := hid (HFwd.out.trans hab)
       have Hffwa := hid hB
       have Hffw : Hid (wT.heap.size ≤ ff) := Nat.le_trans HFwd.out.size hp
       clear hab hp hB
       simp only [Act.put,nA,nB,nC]
       refine ⟨HFwa.out, ?_⟩
       refine seg_two 10 18 (oi := ⟨some 77,_,_,_,_,_⟩) (oj := ⟨some 12,_,_,_,_,_⟩) rfl rfl rfl rfl (by kernel_rfl) ?_ ?_
       refine step_make rfl 106 _ _ rfl 111 (.pointer none) 8 made111 hu106 .i64 .i64 0 fin.length rfl rfl (Nat.zero_le _) HB8f.out HBmf.out ?_
       intro wb hh hab hp hB
       have HFwb := hid (HFwa.out.trans hab)
       have Hhhwb := hid hB
       have Hhhw : Hid (wT.heap.size ≤ hh) := Nat.le_trans HFwa.out.size hp
       have Hffwb := hid (Hffwa.out.fr hab (by simp))
       clear hab hp hB
       simp only [Act.put,nA,nB,nC]
       refine ⟨HFwb.out, ?_⟩
       refine seg_quiet (fuel := 2) (by kernel_rfl) (fun _ _ _ _ _ h => nomatch h.1) HFwb.out [17] _ _ (by kernel_rfl) ?_
       simp only [pickL,nthO]
       refine wpQuiet_build rfl 125 _ rfl (mbP k.hdr i ⟨hh,0,none⟩ 0 fin.length ⟨ff,0,none⟩ nb nb) (by simp only [List.map_toArray]; rfl) zsB mb_places (mb_parts HhdrL.out) (mbC k.hdr i (.slice (some ⟨hh,0,none⟩) 0 fin.length) (.slice (some ⟨ff,0,none⟩) nb nb)) mb_fold ?_
       simp only [Act.put,nA,nB,nC]
       refine wpQuiet_nil ?_
       refine seg_act 18 (o := ⟨some 12,_,_,_,_,_⟩) rfl rfl (by kernel_rfl) ?_
       refine step_new rfl 125 rfl z125 z125_zero ?_
       intro wc M hab hp hB
       have HFwc := hid (HFwb.out.trans hab)
       have HMwc := hid hB
       have HMw : Hid (wT.heap.size ≤ M) := Nat.le_trans HFwb.out.size hp
       have Hffwc := hid (Hffwb.out.fr hab (by simp))
       have Hhhwc := hid (Hhhwb.out.fr hab (by simp))
       clear hab hp hB
       simp only [Act.put,nA,nB,nC]
       refine ⟨HFwc.out, ?_⟩
       rotate_left
       refine step_new rfl 125 rfl z125 z125_zero ?_
       intro wb M hab hp hB
       have HFwb := hid (HFwa.out.trans hab)
       have HMwb := hid hB
       have HMw : Hid (wT.heap.size ≤ M) := Nat.le_trans HFwa.out.size hp
       have Hffwb := hid (Hffwa.out.fr hab (by simp))
       clear hab hp hB
       simp only [Act.put,nA,nB,nC]
       refine ⟨HFwb.out, ?_⟩
       refine seg_act 10 (o := ⟨some 77,_,_,_,_,_⟩) rfl rfl (by kernel_rfl) ?_
       refine step_make rfl 106 _ _ rfl 111 (.pointer none) 8 made111 hu106 .i64 .i64 0 fin.length rfl rfl (Nat.zero_le _) HB8f.out HBmf.out ?_
       intro wc hh hab hp hB
       have HFwc := hid (HFwb.out.trans hab)
       have Hhhwc := hid hB
       have Hhhw : Hid (wT.heap.size ≤ hh) := Nat.le_trans HFwb.out.size hp
       have Hffwc := hid (Hffwb.out.fr hab (by simp))
       have HMwc := hid (HMwb.out.fr hab (by simp))
       clear hab hp hB
       simp only [Act.put,nA,nB,nC]
       refine ⟨HFwc.out, ?_⟩
       refine seg_quiet (fuel := 1) (by kernel_rfl) (fun _ _ _ _ _ h => nomatch h.1) HFwc.out [17] _ _ (by kernel_rfl) ?_
       simp only [pickL,nthO]
       refine wpQuiet_build rfl 125 _ rfl (mbP k.hdr i ⟨hh,0,none⟩ 0 fin.length ⟨ff,0,none⟩ nb nb) (by simp only [List.map_toArray]; rfl) zsB mb_places (mb_parts HhdrL.out) (mbC k.hdr i (.slice (some ⟨hh,0,none⟩) 0 fin.length) (.slice (some ⟨ff,0,none⟩) nb nb)) mb_fold ?_
       simp only [Act.put,nA,nB,nC]
       refine wpQuiet_nil ?_
       rotate_left
       refine step_new rfl 125 rfl z125 z125_zero ?_
       intro wa M hab hp hB
       have HFwa := hid (HFwd.out.trans hab)
       have HMwa := hid hB
       have HMw : Hid (wT.heap.size ≤ M) := Nat.le_trans HFwd.out.size hp
       clear hab hp hB
       simp only [Act.put,nA,nB,nC]
       refine ⟨HFwa.out, ?_⟩
       refine seg_two 10 16 (oi := ⟨some 77,_,_,_,_,_⟩) (oj := ⟨some 83,_,_,_,_,_⟩) rfl rfl rfl rfl (by kernel_rfl) ?_ ?_
       refine step_make rfl 106 _ _ rfl 111 (.pointer none) 8 made111 hu106 .i64 .i64 0 fin.length rfl rfl (Nat.zero_le _) HB8f.out HBmf.out ?_
       intro wb hh hab hp hB
       have HFwb := hid (HFwa.out.trans hab)
       have Hhhwb := hid hB
       have Hhhw : Hid (wT.heap.size ≤ hh) := Nat.le_trans HFwa.out.size hp
       have HMwb := hid (HMwa.out.fr hab (by simp))
       clear hab hp hB
       simp only [Act.put,nA,nB,nC]
       refine ⟨HFwb.out, ?_⟩
       refine seg_act 16 (o := ⟨some 83,_,_,_,_,_⟩) rfl rfl (by kernel_rfl) ?_
       refine step_make rfl 29 _ _ rfl 5 (.int .u8 0) 1 made5 hu29 .i64 .i64 nb nb rfl rfl (Nat.le_refl _) HB1b.out HBmb.out ?_
       intro wc ff hab hp hB
       have HFwc := hid (HFwb.out.trans hab)
       have Hffwc := hid hB
       have Hffw : Hid (wT.heap.size ≤ ff) := Nat.le_trans HFwb.out.size hp
       have HMwc := hid (HMwb.out.fr hab (by simp))
       have Hhhwc := hid (Hhhwb.out.fr hab (by simp))
       clear hab hp hB
       simp only [Act.put,nA,nB,nC]
       refine ⟨HFwc.out, ?_⟩
       refine seg_quiet (fuel := 1) (by kernel_rfl) (fun _ _ _ _ _ h => nomatch h.1) HFwc.out [17] _ _ (by kernel_rfl) ?_
       simp only [pickL,nthO]
       refine wpQuiet_build rfl 125 _ rfl (mbP k.hdr i ⟨hh,0,none⟩ 0 fin.length ⟨ff,0,none⟩ nb nb) (by simp only [List.map_toArray]; rfl) zsB mb_places (mb_parts HhdrL.out) (mbC k.hdr i (.slice (some ⟨hh,0,none⟩) 0 fin.length) (.slice (some ⟨ff,0,none⟩) nb nb)) mb_fold ?_
       simp only [Act.put,nA,nB,nC]
       refine wpQuiet_nil ?_
       rotate_left
       refine step_make rfl 29 _ _ rfl 5 (.int .u8 0) 1 made5 hu29 .i64 .i64 nb nb rfl rfl (Nat.le_refl _) HB1b.out HBmb.out ?_
       intro wb ff hab hp hB
       have HFwb := hid (HFwa.out.trans hab)
       have Hffwb := hid hB
       have Hffw : Hid (wT.heap.size ≤ ff) := Nat.le_trans HFwa.out.size hp
       have HMwb := hid (HMwa.out.fr hab (by simp))
       clear hab hp hB
       simp only [Act.put,nA,nB,nC]
       refine ⟨HFwb.out, ?_⟩
       refine seg_act 10 (o := ⟨some 77,_,_,_,_,_⟩) rfl rfl (by kernel_rfl) ?_
       refine step_make rfl 106 _ _ rfl 111 (.pointer none) 8 made111 hu106 .i64 .i64 0 fin.length rfl rfl (Nat.zero_le _) HB8f.out HBmf.out ?_
       intro wc hh hab hp hB
       have HFwc := hid (HFwb.out.trans hab)
       have Hhhwc := hid hB
       have Hhhw : Hid (wT.heap.size ≤ hh) := Nat.le_trans HFwb.out.size hp
       have HMwc := hid (HMwb.out.fr hab (by simp))
       have Hffwc := hid (Hffwb.out.fr hab (by simp))
       clear hab hp hB
       simp only [Act.put,nA,nB,nC]
       refine ⟨HFwc.out, ?_⟩
       refine seg_quiet (fuel := 1) (by kernel_rfl) (fun _ _ _ _ _ h => nomatch h.1) HFwc.out [17] _ _ (by kernel_rfl) ?_
       simp only [pickL,nthO]
       refine wpQuiet_build rfl 125 _ rfl (mbP k.hdr i ⟨hh,0,none⟩ 0 fin.length ⟨ff,0,none⟩ nb nb) (by simp only [List.map_toArray]; rfl) zsB mb_places (mb_parts HhdrL.out) (mbC k.hdr i (.slice (some ⟨hh,0,none⟩) 0 fin.length) (.slice (some ⟨ff,0,none⟩) nb nb)) mb_fold ?_
       simp only [Act.put,nA,nB,nC]
       refine wpQuiet_nil ?_
       rotate_left
       all_goals
        refine seg_act 19 (o := ⟨none,_,_,_,_,_⟩) rfl rfl (by kernel_rfl) ?_
        refine step_store rfl 125 (.tmp 12) (.tmp 84) rfl rfl M z125 (mbC k.hdr i (.slice (some ⟨hh,0,none⟩) 0 fin.length) (.slice (some ⟨ff,0,none⟩) nb nb)) HMwc.out rfl rfl (by rw [mbC,List.length_append,HhdrL.out,z125_len]; rfl) (by rw [mbC,List.length_append,HhdrL.out]; kernel_rfl) (wire_one rfl rfl) ?_
        intro we hf hb
        have hF : Fr [] wT we := HFwc.out.andThen hf (by intro k hk; simp at hk; subst hk; exact .inr HMw.out)
        refine ⟨hF, ?_⟩
        refine seg_end (by kernel_rfl) ?_
        refine ⟨rfl,hh,ff,M, ?_,hF,Hhhwc.out.fr hf (by simpa using (blk_ne Hhhwc.out HMwc.out (by decide))),Hffwc.out.fr hf (by simpa using (blk_ne Hffwc.out HMwc.out (by decide))),hb,Hhhw.out,Hffw.out,HMw.out⟩
        simp only [Act.put,nA,nB,nC]
      ·rintro a' wM ⟨hh,ff,M,rfl,hF,hP,hQ,hG,hp,hq,hg⟩
       simp only [Exit.then]
       simp only [Act.put,nA,nB,nC]
       refine (‹∀ (a : Act) (w : World),Code.wp Tryz.prog _ _ a w → _›) _ _ ?_
       have HFM := hid hF
       have HMM := hid hG
       have HhM : Hid (Grows wT.heap.size 111 1 HpE wM (.slice (some ⟨hh,0,none⟩) 0 fin.length) []) := Grows.emptyC hP hp HBmf.out
       have HfM : Hid (Blk wM ff 5 (ic .u8 (List.replicate nb 0))) := by rw [show ic .u8 (List.replicate nb 0) = List.replicate nb (Value.int .u8 0) by simp [ic]]; exact hQ
       have Hffw := hid hq
       have HMw := hid hg
       have HgM := hid (HgT.out.fr hF (by simp))
       clear hF hP hQ hG hp hq hg
       have HG8M : Hid (Grows w.heap.size 23 1 (IntE .u32) wM (.slice a8 I8.length c8) I8) := HG8T.out.fr HFM.out (fun _ _ h => h)
       have HfM2 := hid (HfT.out.listT)
       have HbM2 := hid (HbT.out.bytesB)
       clear HG8T HBT HmT
       have c2 : wM.cell? ⟨g,2,none⟩ = some (.slice af fin.length cf) := HgM.out.cell_at rfl
       have hgl := HgM.out.lt
       have HFwM : Hid (Fr [bg,gF,aF] w wM) := HFT.out.trans (HFM.out.mono (by simp))
       go_wp2_with fail
       go_loopg [88] (fin.length) (fun gk v88 wl => ∃ (j : Nat) (hv : Value),gk = fin.length - j ∧ j ≤ fin.length ∧ v88 = .int .i64 (j : Int) ∧ Blk wl M 125 (mbC k.hdr i hv (.slice (some ⟨ff,0,none⟩) nb nb)) ∧ Grows wT.heap.size 111 1 HpE wl hv (fin.take j) ∧ Blk wl ff 5 (ic .u8 (List.replicate nb 0)) ∧ Fr [] wT wl ∧ Fr [bg,gF,aF] w wl ∧ Grows w.heap.size 23 1 (IntE .u32) wl (.slice a8 I8.length c8) I8)
       case atStart => exact ⟨0,_,rfl,Nat.zero_le _,rfl,HMM.out,HhM.out,HfM.out,HFM.out,HFwM.out,HG8M.out⟩
       case round =>
        clear HMM HhM HfM HG8M c2 hgl HgM HFwM
        obtain ⟨wl,hwl⟩ : ∃ wl,wl = wr := ⟨_,rfl⟩
        subst hwl
        obtain ⟨j,hv,rfl,hj,rfl,hM,hH,hf,hF,hFw,hG8⟩ := hrel
        have HM := hid hM; clear hM
        have HH := hid hH; clear hH
        have Hff := hid hf; clear hf
        have HFl := hid hF; clear hF
        have HFw := hid hFw; clear hFw
        have HG8l := hid hG8; clear hG8
        by_cases hjl : j < fin.length
        ·have hji : (j : Int) < fin.length := by omega
         obtain ⟨b,off,cap',u,he,hbB,hrg,P,hu,hP⟩ := HfM2.out.at' hjl
         simp only [Value.slice.injEq] at he
         obtain ⟨rfl,_,rfl⟩ := he
         simp only [List.cons.injEq,and_true] at hu
         subst hu
         have e1 := hrg wl HFl.out.below
         have hbl2 : b < wl.heap.size := Nat.lt_of_lt_of_le hbB HFl.out.size
         have HP : Hid (Blk wl P 81 (ic .u8 fin[j])) := hP.fr HFl.out (by simp)
         obtain ⟨y,hy⟩ : ∃ y,y = fin[j] := ⟨_,rfl⟩
         rw [← hy] at HP
         have HTk : Hid (fin.take (j + 1) = fin.take j ++ [y]) := by show _ = _; rw [List.take_add_one,List.getElem?_eq_getElem hjl,← hy]; rfl
         clear hrg hP hy
         have HAd := hid (addHash_c wl wT.heap.size M P k.hdr.wire HhdrL.out i hv (.slice (some ⟨ff,0,none⟩) nb nb) (fin.take j) y HM.out HH.out HFl.out.size (by rw [List.length_take]; have := HTl2.out; omega) HP.out)
         go_wp2_with fail
         refine HAd.out.mono ?_
         rintro e w5 ⟨rfl,hf,hv',hM5,hH5⟩
         have hSu : ∀ x ∈ M :: own1 hv,wT.heap.size ≤ x := by
          intro x hx
          rcases List.mem_cons.mp hx with rfl | hx
          ·exact HMw.out
          ·exact (HH.out.ownBlk x hx).1
         have hTy : ∀ (T : TypeId) (xs : List Value) (x : Nat),Blk wl x T xs → T ≠ 125 → T ≠ 111 → x ∉ M :: own1 hv := by
          intro T xs x hx h1 h2 hm
          rcases List.mem_cons.mp hm with rfl | hm
          ·exact absurd rfl (blk_ne hx HM.out h1)
          ·obtain ⟨_,ys,hb⟩ := HH.out.ownBlk x hm
           exact absurd rfl (blk_ne hx hb h2)
         have hTN : wT.heap.size ≥ w.heap.size := HFT.out.size
         have HF5 : Hid (Fr [] wT w5) := HFl.out.andThen hf (fun x hx => .inr (hSu x hx))
         have HFw5 : Hid (Fr [bg,gF,aF] w w5) := HFw.out.andThen hf (fun x hx => .inr (Nat.le_trans hTN (hSu x hx)))
         have Hff5 : Hid (Blk w5 ff 5 (ic .u8 (List.replicate nb 0))) := Hff.out.fr hf (hTy _ _ _ Hff.out (by decide) (by decide))
         have HG85 : Hid (Grows w.heap.size 23 1 (IntE .u32) w5 (.slice a8 I8.length c8) I8) := HG8l.out.frK hf (by
          intro x hx
          rcases List.mem_cons.mp hx with rfl | hx
          ·exact .inr ⟨_,_,HM.out,by decide⟩
          ·obtain ⟨_,ys,hb⟩ := HH.out.ownBlk x hx
           exact .inr ⟨_,_,hb,by decide⟩) (fun _ _ h => h)
         have HM5 := hid hM5
         have HH5 := hid hH5
         clear hf hM5 hH5 hSu hTy hTN HAd e1 hbl2
         go_wp2_with fail
         go_roundg (fin.length - (j + 1))
         case measure => omega
         case rel => exact ⟨j + 1,hv',rfl,by omega,by simp,HM5.out,by rw [HTk.out]; exact HH5.out,Hff5.out,HF5.out,HFw5.out,HG85.out⟩
        ·have hje : j = fin.length := by omega
         subst hje
         have hji : ¬ ((fin.length : Int) < fin.length) := by omega
         have HH' : Hid (Grows wT.heap.size 111 1 HpE wl hv fin) := by have h := HH.out; rwa [List.take_length] at h
         clear HH
         have HH := HH'; clear HH'
         have Hpl : Hid (nb = (pack bits 0).length) := by show _ = _; rw [pack_length,Hnb.out]
         have Hff0 : Hid (Blk wl ff 5 (ic .u8 (pack bits 0))) := by have h := Hff.out; rw [Hnb.out] at h; exact h
         clear Hff
         have HMne : Hid (M ∉ [ff]) := by show _ ∉ _; rw [List.mem_singleton]; exact blk_ne HM.out Hff0.out (by decide)
         obtain ⟨ah7,ch7,rfl⟩ := HH.out.slice
         go_wp2_with fail
         go_loopg [15] (bits.length) (fun gk v15 wz => ∃ (q : Nat),gk = bits.length - q ∧ q ≤ bits.length ∧ v15 = .int .u32 (q : Int) ∧ Blk wz ff 5 (ic .u8 (pack bits q)) ∧ Fr [ff] wl wz)
         case atStart => exact ⟨0,rfl,Nat.zero_le _,rfl,Hff0.out,Fr.refl _ _⟩
         case round =>
          obtain ⟨wz,hwz⟩ : ∃ wz,wz = wr := ⟨_,rfl⟩
          subst hwz
          obtain ⟨q,rfl,hq,rfl,hfb,hfz⟩ := hrel
          have HB := hid hfb; clear hfb
          have HFz := hid hfz; clear hfz
          have HFTz : Hid (Fr [] wT wz) := HFl.out.andThen HFz.out (by intro x hx; rw [List.mem_singleton] at hx; subst hx; exact .inr Hffw.out)
          have HgZ := hid (HgT.out.fr HFTz.out (by simp))
          have c4 : wz.cell? ⟨g,4,none⟩ = some (.slice ab bits.length cb) := HgZ.out.cell_at rfl
          have hgl := HgZ.out.lt
          have HMz := hid (HM.out.fr HFz.out HMne.out)
          by_cases hql : q < bits.length
          ·have hqi : (q : Int) < bits.length := by omega
           obtain ⟨ab2,cb2,he,hq1,hq2,hcs⟩ := HbM2.out
           simp only [Value.slice.injEq] at he
           obtain ⟨rfl,_,rfl⟩ := he
           rcases hcs with ⟨_,_,hcs⟩ | ⟨b2,off2,rfl,hb2,hcs⟩
           ·exfalso; have := congrArg List.length hcs; rw [ic_length,List.length_nil] at this; omega
           have eb : wz.cell? ⟨b2,off2 + q,none⟩ = some (.int .u8 (nth bits q)) := by rw [HFTz.out.cells.1 _ _ hb2 (by simp),hcs q (by rw [ic_length]; exact hql),ic_nth]
           have hbl2 : b2 < wz.heap.size := Nat.lt_of_lt_of_le hb2 HFTz.out.size
           clear hcs hq1 hq2 hb2
           have c70 : wz.cell? ⟨M,70,none⟩ = some (.slice (some ⟨ff,0,none⟩) nb nb) := HMz.out.cell_at (by rw [mbC,List.getElem?_append_right (by rw [HhdrL.out]; omega),HhdrL.out]; rfl)
           have hMl := HMz.out.lt
           have hlen := pack_length bits q
           have hp : q / 8 < (pack bits q).length := by rw [hlen]; omega
           have hpn : (q : Int) / 8 < (nb : Int) := by have := Hnb.out; omega
           have e5 : wz.cell? ⟨ff,q / 8,none⟩ = some (.int .u8 (nth (pack bits q) (q / 8))) := HB.out.int _ hp
           have f5 := HB.out.free (q / 8)
           have hfl3 := HB.out.lt
           obtain ⟨r,hr⟩ : ∃ r,r = q % 8 := ⟨_,rfl⟩
           have hr7 : r ≤ 7 := by omega
           have hri : (r : Int) ≤ 7 := by omega
           have hmod : (q : Int) % 8 = (r : Int) := by omega
           have hbd := (pack_u8 bits q).bd (q / 8)
           have hq128 : (q : Int) ≤ 128 := by omega
           by_cases h1 : nth bits q = 1
           ·have HP : Hid (pack bits (q + 1) = (pack bits q).set (q / 8) (or8 (nth (pack bits q) (q / 8)) r)) := by show _ = _; rw [pack,if_pos h1,setB,hr]
            have hob := or_one_bit (nth (pack bits q) (q / 8)) r hbd.1 hbd.2 hr7
            rw [h1] at eb
            have Hr := hid hr
            clear h1 hbd hlen hp hr
            obtain ⟨y,hy⟩ : ∃ y,y = nth (pack bits q) (q / 8) := ⟨_,rfl⟩
            rw [← hy] at e5 hob HP
            clear hy
            go_upto_region 26 with fail
            refine qtail 16 (by kernel_rfl) (by kernel_rfl) ?_
            simp only [List.take_succ_cons,List.take_zero,List.drop_succ_cons,List.drop_zero]
            repeat (go_big_quiet_step (fail))
            refine wpQuiet_nil ?_
            go_wp2_with fail
            go_roundg (bits.length - (q + 1))
            case measure => omega
            case rel =>
             refine ⟨q + 1,rfl,by omega,by simp, ?_,HFz.out.drew.setCell _ _ (by simp)⟩
             have := HB.out.drew.set (q / 8) (.int .u8 (or8 y r))
             rw [ic_set,← HP.out] at this
             exact this
           ·have HP : Hid (pack bits (q + 1) = (pack bits q).set (q / 8) (nth (pack bits q) (q / 8))) := by
             show _ = _
             rw [pack,if_neg h1]
             apply List.ext_getElem?
             intro x
             rw [List.getElem?_set]
             split
             ·rename_i hx; subst hx; rw [List.getElem?_eq_getElem hp,nth,List.getD_eq_getElem?_getD,List.getElem?_eq_getElem hp]; rfl
             ·rfl
            have hob := or_zero_bits (nth (pack bits q) (q / 8)) hbd.1 hbd.2
            have h0 : nth bits q = 0 := (nth_01 HT01.out q).resolve_right h1
            rw [h0] at eb
            have Hr := hid hr
            clear h0 h1 hbd hlen hp hr
            obtain ⟨y,hy⟩ : ∃ y,y = nth (pack bits q) (q / 8) := ⟨_,rfl⟩
            rw [← hy] at e5 hob HP
            clear hy
            go_upto_region 26 with fail
            refine qtail 16 (by kernel_rfl) (by kernel_rfl) ?_
            simp only [List.take_succ_cons,List.take_zero,List.drop_succ_cons,List.drop_zero]
            repeat (go_big_quiet_step (fail))
            refine wpQuiet_nil ?_
            go_wp2_with fail
            go_roundg (bits.length - (q + 1))
            case measure => omega
            case rel =>
             refine ⟨q + 1,rfl,by omega,by simp, ?_,HFz.out.drew.setCell _ _ (by simp)⟩
             have := HB.out.drew.set (q / 8) (.int .u8 y)
             rw [ic_set,← HP.out] at this
             exact this
          ·have hqe : q = bits.length := by omega
           subst hqe
           have hqi : ¬ ((bits.length : Int) < bits.length) := by omega
           have HSz : Hid (Stp 5 wT.heap.size wl wz) := Stp.of1 HFz.out Hff0.out Hffw.out
           have HHz : Hid (Grows wT.heap.size 111 1 HpE wz (.slice ah7 fin.length ch7) fin) := HSz.out.gro HH.out (by decide) (fun _ _ h => HSz.out.hp h (by decide))
           have HG8z : Hid (Grows w.heap.size 23 1 (IntE .u32) wz (.slice a8 I8.length c8) I8) := HSz.out.gro HG8l.out (by decide) (fun _ _ h => h)
           have HFwz : Hid (Fr [bg,gF,aF] w wz) := HSz.out.fr HFw.out HFT.out.size
           clear HSz HH HG8l
           go_wp2_with fail
           go_ret2
           refine ⟨M,_,_,_,rfl,HFwz.out,by rw [← Hn.out]; exact HMz.out, ?_, ?_, ?_⟩
           ·rw [HTrv.out,← Hfin.out]; exact HHz.out.listT
           ·rw [HTrv.out,← Hbits.out]; exact arr_bytes HB.out (by rw [pack_length,Hnb.out]) HBmb.out
           ·rw [HIx.out]; exact HG8z.out.listT
end
end Go.Proofs.YtdllckiidegpcaaGreat
