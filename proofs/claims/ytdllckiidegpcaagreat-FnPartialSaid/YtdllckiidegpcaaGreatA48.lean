/- A part of the walk of laws.FnPartial (part 48): contracts of functions that it comes to, and the plain laws that these lean on. Conditions stand in each contract. -/
import Derived.Test.YtdllckiidegpcaaGreatA42
set_option linter.unusedSimpArgs false
set_option linter.unusedVariables false
set_option maxHeartbeats 4000000
namespace Go.Proofs.YtdllckiidegpcaaGreat
open Go.RowKit
section
set_option maxRecDepth 8000
def RpR (K : List Int) (hs : List (List Int)) (m : List Int) (w : World) (e : Ending) (w' : World) : Prop := ∃ mv,e = .returned (.tuple #[arr (node K hs (hgt hs.length) 0),mv,.bool true]) ∧ Fr [] w w' ∧ ListT w'.heap.size 3 1 (IntE .i64) w' mv (found m hs.length (hgt hs.length) 0)
set_option maxHeartbeats 4000000 in
theorem readPartial_c (K : List Int) (hK : K.length = 64) (w : World) (hKc : Blk w 1 379 (ic .u32 K)) (hs : List (List Int)) (hl : ∀ l ∈ hs,l.length = 32) (h1 : 1 ≤ hs.length) (hn : hs.length ≤ 64) (m bits pad : List Int) (hbits : bits = (trav K hs m (hgt hs.length) 0).1 ++ pad) (hbl : bits.length ≤ 100000) (h8 : ((trav K hs m (hgt hs.length) 0).1.length + 7) / 8 = (bits.length + 7) / 8)
  (hfl : (trav K hs m (hgt hs.length) 0).2.length ≤ 100000) (B : Nat) (hBw : B ≤ w.heap.size) (bv hv : Value) (hb : BoolB B w bv bits) (hf : ListB B 32 HashE w hv (trav K hs m (hgt hs.length) 0).2) :
  Calls Tryz.prog 14 #[HFn,.agg [.int .i64 hs.length,bv,hv].toArray] w (RpR K hs m w) := by
 obtain ⟨fin,hfin⟩ : ∃ fin,fin = (trav K hs m (hgt hs.length) 0).2 := ⟨_,rfl⟩
 rw [← hfin] at hfl hf
 obtain ⟨q,hq⟩ : ∃ q,q = node K hs (hgt hs.length) 0 := ⟨_,rfl⟩
 have hwid : 0 < wid hs.length (hgt hs.length) := by
  unfold wid
  exact Nat.div_pos (by omega) (Nat.two_pow_pos _)
 have Hql : Hid (q.length = 32) := by rw [hq]; exact node_len hl _ _ hwid
 obtain ⟨ab,cb,hvs,hq1,hq2⟩ := hb.form
 subst hvs
 obtain ⟨af,cf,hms,hq3,hq4⟩ := hf.len
 subst hms
 clear hq1 hq2 hq3 hq4
 obtain ⟨z,hz⟩ : ∃ z : List Int,z = List.replicate 32 0 := ⟨_,rfl⟩
 have HZl : Hid (z.length = 32) := by rw [hz]; exact List.length_replicate
 have hn1 : (hs.length : Int) ≤ 64 := by omega
 have hn0 : 1 ≤ (hs.length : Int) := by omega
 have hgl := hgt_le hs.length
 have hz' := hz
 have HhKc := hid hKc; clear hKc
 have Hh1 := hid h1; clear h1
 have Hhbits := hid hbits; clear hbits
 have Hhbl := hid hbl; clear hbl
 have Hh8 := hid h8; clear h8
 have Hhfl := hid hfl; clear hfl
 have Hhb := hid hb; clear hb
 have Hhf := hid hf; clear hf
 have Hhfin := hid hfin; clear hfin
 have Hhq := hid hq; clear hq
 have Hhwid := hid hwid; clear hwid
 have Hhgl := hid hgl; clear hgl
 go_enter Tryz.func14,Tryz.ntmps14
 go_upto_region 4 with fail
 have HF1 : Hid (Fr [] w (((w.alloc (.cells [.int .i64 hs.length,.slice ab bits.length cb,.slice af fin.length cf].toArray 55)).alloc (.cells (ic .u8 z).toArray 22)).alloc (.cells (rdr hs.length (.slice ab bits.length cb) (.slice af fin.length cf) 0 0 (.slice none 0 0)).toArray 90))) := (((Fr.refl _ _).alloc _).alloc _).alloc _
 have HP1 : Hid (Blk (((w.alloc (.cells [.int .i64 hs.length,.slice ab bits.length cb,.slice af fin.length cf].toArray 55)).alloc (.cells (ic .u8 z).toArray 22)).alloc (.cells (rdr hs.length (.slice ab bits.length cb) (.slice af fin.length cf) 0 0 (.slice none 0 0)).toArray 90)) w.heap.size 55 [.int .i64 hs.length,.slice ab bits.length cb,.slice af fin.length cf]) := ((Blk.new _ _ _).alloc _).alloc _
 have HR1 : Hid (Blk (((w.alloc (.cells [.int .i64 hs.length,.slice ab bits.length cb,.slice af fin.length cf].toArray 55)).alloc (.cells (ic .u8 z).toArray 22)).alloc (.cells (rdr hs.length (.slice ab bits.length cb) (.slice af fin.length cf) 0 0 (.slice none 0 0)).toArray 90)) (w.heap.size + 1) 22 (ic .u8 z)) := by
  have := (Blk.new (w.alloc (.cells [.int .i64 hs.length,.slice ab bits.length cb,.slice af fin.length cf].toArray 55)) (ic .u8 z) 22).alloc (.cells (rdr hs.length (.slice ab bits.length cb) (.slice af fin.length cf) 0 0 (.slice none 0 0)).toArray 90)
  rwa [show (w.alloc (.cells [.int .i64 hs.length,.slice ab bits.length cb,.slice af fin.length cf].toArray 55)).heap.size = w.heap.size + 1 by simp] at this
 have HG1 : Hid (Blk (((w.alloc (.cells [.int .i64 hs.length,.slice ab bits.length cb,.slice af fin.length cf].toArray 55)).alloc (.cells (ic .u8 z).toArray 22)).alloc (.cells (rdr hs.length (.slice ab bits.length cb) (.slice af fin.length cf) 0 0 (.slice none 0 0)).toArray 90)) (w.heap.size + 1 + 1) 90 (rdr hs.length (.slice ab bits.length cb) (.slice af fin.length cf) 0 0 (.slice none 0 0))) := by
  have := Blk.new ((w.alloc (.cells [.int .i64 hs.length,.slice ab bits.length cb,.slice af fin.length cf].toArray 55)).alloc (.cells (ic .u8 z).toArray 22)) (rdr hs.length (.slice ab bits.length cb) (.slice af fin.length cf) 0 0 (.slice none 0 0)) 90
  rwa [show ((w.alloc (.cells [.int .i64 hs.length,.slice ab bits.length cb,.slice af fin.length cf].toArray 55)).alloc (.cells (ic .u8 z).toArray 22)).heap.size = w.heap.size + 1 + 1 by simp] at this
 change Code.wp _ _ _ _ (((w.alloc (.cells [.int .i64 hs.length,.slice ab bits.length cb,.slice af fin.length cf].toArray 55)).alloc (.cells (ic .u8 (List.replicate 32 0)).toArray 22)).alloc (.cells (rdr hs.length (.slice ab bits.length cb) (.slice af fin.length cf) 0 0 (.slice none 0 0)).toArray 90))
 rw [← hz]
 generalize World.alloc (World.alloc (World.alloc w _) _) _ = w1 at HF1 HP1 HR1 HG1 ⊢
 clear hz hz'
 obtain ⟨P,hP⟩ : ∃ P,P = w.heap.size := ⟨_,rfl⟩
 rw [← hP] at HP1 HR1 HG1 ⊢
 obtain ⟨R,hR⟩ : ∃ R,R = P + 1 := ⟨_,rfl⟩
 have hR2 : P + 2 = R + 1 := by omega
 rw [← hR] at HR1 HG1
 try rw [hR2]
 try rw [← hR]
 obtain ⟨G,hG⟩ : ∃ G,G = R + 1 := ⟨_,rfl⟩
 rw [← hG] at HG1 ⊢
 have HRw : Hid (w.heap.size ≤ P ∧ w.heap.size ≤ R ∧ w.heap.size ≤ G ∧ R ≠ G ∧ P ≠ G ∧ P ≠ R ∧ B ≤ G) := by refine ⟨?_, ?_, ?_, ?_, ?_, ?_, ?_⟩ <;> omega
 clear hP hR hR2 hG
 have c0 : w1.cell? ⟨P,0,none⟩ = some (.int .i64 hs.length) := HP1.out.cell_at rfl
 have hpl := HP1.out.lt
 go_wp2_with fail
 refine (heightOf_c w1 hs.length hn _ rfl).mono ?_
 rintro e w' ⟨rfl,rfl⟩
 go_wp2_with fail
 have hbe : Below B w w1 := HF1.out.below.mono hBw
 have hB1 : B ≤ w1.heap.size := Nat.le_trans hBw HF1.out.size
 have hRd := rd_c K hK G hs hl hn m bits fin Hhbl.out Hhfl.out B (.slice ab bits.length cb) (.slice af fin.length cf) w1 HG1.out.lt hB1 HRw.out.2.2.2.2.2.2 (Hhb.out.below hbe) (Hhf.out.below hbe (fun _ _ h => h)) (fun w2 hf => (HhKc.out.fr HF1.out (by simp)).fr hf (by have := HRw.out; have := HhKc.out.lt; simp; omega)) (hgt hs.length) Hhgl.out
 have hS0 : RdS hs.length G (.slice ab bits.length cb) (.slice af fin.length cf) w1 0 0 [] w1 := ⟨Fr.refl _ _,_,HG1.out,Grows.nil _⟩
 have hp7 : 2 ^ (hgt hs.length) ≤ 100000 := Nat.le_trans (Nat.pow_le_pow_right (by omega) Hhgl.out) (by decide)
 refine (hRd 0 Hhwid.out w1 0 0 [] [] pad [] [] hS0 (by rw [List.nil_append]; exact Hhbits.out) rfl (by rw [List.nil_append,List.append_nil]; exact Hhfin.out) rfl (by rw [List.length_nil,Nat.zero_add]; exact hp7) (hgt hs.length : Int) 0 rfl rfl).mono ?_
 clear hRd hS0 hp7 hbe hB1 c0 hpl
 rintro e w2 ⟨rfl,hk,hS⟩
 rw [← Hhq.out]
 rw [List.nil_append,Nat.zero_add,Nat.zero_add,← Hhfin.out] at hS
 obtain ⟨mv,hB,hGr⟩ := hS.blk
 have HF2 : Hid (Fr [G] w1 w2) := hS.fr
 have HR2 := hid (hk.blk _ _ HRw.out.2.2.2.1 HR1.out)
 have HP2 := hid (HP1.out.fr HF2.out (by simpa using HRw.out.2.2.2.2.1))
 have HG2 := hid hB
 have HM2 := hid hGr
 clear hk hS hB hGr HR1 HP1 HG1
 simp only []
 refine (‹∀ (a : Act) (w : World),wpList Tryz.prog _ _ _ a w → _›) _ _ ?_
 refine wpList_storeB rfl 22 (.tmp 4) (.tmp 20) rfl rfl R _ (ic .u8 q) HR2.out rfl rfl (by rw [ic_length,ic_length,Hql.out,HZl.out]) (by rw [ic_length,Hql.out]; kernel_rfl) (ic_one _ _) ?_
 intro w3 hf3 hb3
 have hT3 : FrT 22 w2 w3 := hf3.frT (fun k hk _ => by simp at hk; subst hk; exact ⟨_,_,HR2.out⟩)
 have HF3 : Hid (Fr [] w w3) := (HF1.out.andThen HF2.out (by intro k hk; simp at hk; subst hk; exact .inr HRw.out.2.2.1)).andThen hf3 (by intro k hk; simp at hk; subst hk; exact .inr HRw.out.2.1)
 have HR3 := hid hb3
 have HP3 := hid (HP2.out.fr hf3 (by simpa using HRw.out.2.2.2.2.2.1))
 have HG3 := hid (HG2.out.fr hf3 (by simpa using (Ne.symm HRw.out.2.2.2.1)))
 have HM3 : Hid (ListT w3.heap.size 3 1 (IntE .i64) w3 mv (found m hs.length (hgt hs.length) 0)) := (HM2.out.listT.frT hT3 (by decide) (fun _ _ h => h)).mono hT3.size (fun _ _ h => h)
 clear hf3 hb3 hT3 HR2 HP2 HG2
 obtain ⟨am,cm,rfl⟩ := HM2.out.slice
 clear HM2 HF1 HF2
 generalize arr q = V20
 refine wpList_nil ?_
 simp only [Exit.then]
 obtain ⟨nb,hnb⟩ : ∃ nb,nb = (trav K hs m (hgt hs.length) 0).1.length := ⟨_,rfl⟩
 rw [← hnb] at HG3
 have h8' : (nb + 7) / 8 = (bits.length + 7) / 8 := by rw [hnb]; exact Hh8.out
 have hnl : nb ≤ bits.length := by rw [hnb,Hhbits.out]; simp
 have Hnl := hid hnl
 have hb1 : (bits.length : Int) ≤ 100000 := by have := Hhbl.out; omega
 have hnb1 : (nb : Int) ≤ 100000 := by have := Hhbl.out; omega
 have Hq8 : Hid (((nb : Int) + 7) / 8 = ((bits.length : Int) + 7) / 8) := by show _ = _; omega
 clear hnb h8' hnl
 have hfl1 : (fin.length : Int) ≤ 100000 := by have := Hhfl.out; omega
 have hgl : G < w3.heap.size := HG3.out.lt
 have hpl : P < w3.heap.size := HP3.out.lt
 have c6 : w3.cell? ⟨G,6,none⟩ = some (.bool false) := HG3.out.cell_at rfl
 have c4 : w3.cell? ⟨G,4,none⟩ = some (.int .i64 fin.length) := HG3.out.cell_at rfl
 have c3 : w3.cell? ⟨G,3,none⟩ = some (.int .i64 nb) := HG3.out.cell_at rfl
 have d2 : w3.cell? ⟨P,2,none⟩ = some (.slice af fin.length cf) := HP3.out.cell_at rfl
 have d1 : w3.cell? ⟨P,1,none⟩ = some (.slice ab bits.length cb) := HP3.out.cell_at rfl
 go_upto_region 5 with fail
 go_quiet (fail)
 have hne : ((((nb : Int) + 7) / 8) != (((bits.length : Int) + 7) / 8)) = false := by rw [Hq8.out]; simp
 go_upto_region 7 with fail
 have HF5 : Hid (Fr [] w (w3.drewN nq)) := HF3.out.drewN _
 have HR5 : Hid (Blk (w3.drewN nq) R 22 (ic .u8 q)) := HR3.out.drewN _
 have HG5 : Hid (Blk (w3.drewN nq) G 90 _) := HG3.out.drewN _
 have HM5 : Hid (ListT (w3.drewN nq).heap.size 3 1 (IntE .i64) (w3.drewN nq) (.slice am (found m hs.length (hgt hs.length) 0).length cm) (found m hs.length (hgt hs.length) 0)) := HM3.out
 generalize World.drewN w3 nq = w5 at HF5 HR5 HG5 HM5 ⊢
 clear hne c6 c4 c3 d2 d1 hgl hpl HM3 HG3 HR3 HP3 HF3
 refine seg_begin (fun w' => Fr [R] w5 w' ∧ Blk w' R 22 (ic .u8 q)) (by kernel_rfl) ?_
 refine seg_quiet (fuel := 3) (by kernel_rfl) (fun d _ _ _ _ h => by cases d <;> exact h) (⟨(Fr.refl _ _).drew,HR5.out.drew⟩) [0,1,2,3,4] _ _ (by kernel_rfl) ?_
 simp only [pickL,nthO]
 refine wpQuiet_load rfl 22 (.tmp 4) rfl R 0 rfl (ic .u8 q) _ (fun w' hf => hf.2.range) rfl rfl (by rw [ic_length,Hql.out]; kernel_rfl) ?_
 simp only [Act.put,nA,nB,nC]
 refine wpQuiet_rfl (.pointer (some ⟨G,0,none⟩)) rfl (fun _ => rfl) ?_
 simp only [Act.put,nA,nB,nC]
 refine wpQuiet_rfl (.pointer (some ⟨G,0,none⟩)) rfl (fun _ => rfl) ?_
 simp only [Act.put,nA,nB,nC]
 refine wpQuiet_rfl (.pointer (some ⟨G,5,none⟩)) rfl (fun _ => rfl) ?_
 simp only [Act.put,nA,nB,nC]
 refine wpQuiet_load1 rfl 46 (.tmp 53) rfl G 5 rfl (.slice am (found m hs.length (hgt hs.length) 0).length cm) _ (fun w' hf => (HG5.out.fr hf.1 (by simpa using (Ne.symm HRw.out.2.2.2.1))).cell_at rfl) rfl rfl ?_
 simp only [Act.put,nA,nB,nC]
 refine wpQuiet_nil ?_
 refine seg_act 5 (o := ⟨none,_,_,_,_,_⟩) rfl rfl (by kernel_rfl) ?_
 refine wpList_storeB rfl 22 (.tmp 4) (.tmp 50) rfl rfl R _ (ic .u8 q) HR5.out.drew rfl rfl rfl (by rw [ic_length,Hql.out]; kernel_rfl) (ic_one _ _) ?_
 intro w6 hf6 hb6
 have hT6 : FrT 22 w5 w6 := (((Fr.refl [] w5).drew).toT).trans' (hf6.frT (fun k hk _ => by simp at hk; subst hk; exact ⟨_,_,HR5.out.drew⟩))
 have HF6 : Hid (Fr [] w w6) := HF5.out.drew.andThen hf6 (by intro k hk; simp at hk; subst hk; exact .inr HRw.out.2.1)
 have HR6 := hid hb6
 have HM6 : Hid (ListT w6.heap.size 3 1 (IntE .i64) w6 (.slice am (found m hs.length (hgt hs.length) 0).length cm) (found m hs.length (hgt hs.length) 0)) := (HM5.out.frT hT6 (by decide) (fun _ _ h => h)).mono hT6.size (fun _ _ h => h)
 have HS5 : Hid (Fr [R] w5 w6) := (Fr.refl _ _).drew.trans hf6
 clear hf6 hb6 hT6
 refine wpList_nil ?_
 have HS6 : Hid (Fr [R] w5 w6 ∧ Blk w6 R 22 (ic .u8 q)) := ⟨HS5.out,HR6.out⟩
 refine ⟨HS6.out,fun _ => ?_⟩
 refine seg_quiet (fuel := 0) (by kernel_rfl) (fun d _ _ _ _ h => by cases d <;> exact h) (HS6.out) [6,7] _ _ (by kernel_rfl) ?_
 simp only [pickL,nthO]
 refine wpQuiet_rfl (.slice am (found m hs.length (hgt hs.length) 0).length cm) rfl (fun _ => rfl) ?_
 simp only [Act.put,nA,nB,nC]
 refine wpQuiet_rfl (.bool true) rfl (fun _ => rfl) ?_
 simp only [Act.put,nA,nB,nC]
 refine wpQuiet_nil ?_
 refine seg_end (by kernel_rfl) ?_
 refine (‹∀ (a : Act) (w : World),Code.wp Tryz.prog Code.ret _ a w → _›) _ _ ?_
 refine wp_ret ?_
 refine ret_ctt rfl rfl rfl rfl (.array 32 5) HR6.out rfl rfl (by rw [ic_length,Hql.out]; kernel_rfl) rfl ?_
 rw [Hhq.out]
 exact ⟨_,rfl,HF6.out,HM6.out⟩
end
end Go.Proofs.YtdllckiidegpcaaGreat
