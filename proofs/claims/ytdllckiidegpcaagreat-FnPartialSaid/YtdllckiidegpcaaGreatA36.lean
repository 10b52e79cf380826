/- A part of the walk of laws.FnPartial (part 36): contracts of functions that it comes to, and the plain laws that these lean on. Conditions stand in each contract. -/
import Derived.Test.YtdllckiidegpcaaGreatA33
set_option linter.unusedSimpArgs false
set_option linter.unusedVariables false
set_option maxHeartbeats 4000000
namespace Go.Proofs.YtdllckiidegpcaaGreat
open Go.RowKit
section
set_option maxRecDepth 8000
theorem u64_of (x : Int) : IntKind.u64.wrap x = x % 18446744073709551616 := by simp [IntKind.wrap,IntKind.bits,IntKind.signed]
/-- The bytes of an array that stands at the front of a block's cells. -/
theorem front_bytes {w : World} {b : Nat} {T : TypeId} {x : List Int} {r : List Value} (h : Blk w b T (ic .u8 x ++ r)) (hx : x.length = 32) : Bytes w (.slice (some ⟨b,0,none⟩) 32 32) x :=
 ints_mk hx.symm (Nat.le_refl _) (by decide) h.lt (fun i hi => by
  rw [Nat.zero_add]
  exact h.cell_at (by rw [List.getElem?_append_left (by simpa using hi),List.getElem?_eq_getElem (by simpa using hi),ic_nth]))
theorem outPointBytes_c (w : World) (p : OutP) (hp : p.Ok) : Calls Tryz.prog 60 #[.agg p.cells.toArray] w fun e w' => ∃ v',e = .returned v' ∧ Fr [] w w' ∧ Fresh w.heap.size w' v' (opB p) := by
 have hlen := hp.len
 have hi0 := hp.idx.1
 have hi1 : p.idx ≤ 4294967295 := by have := hp.idx.2; omega
 have HP := hid hp; clear hp
 have HI := hid hi1; clear hi1
 have HL := hid hlen; clear hlen
 go_enter Tryz.func60,Tryz.ntmps60
 go_upto_region 1 with fail
 have HF1 : Hid (Fr [] w (w.alloc (.cells p.cells.toArray 95))) := (Fr.refl _ _).alloc _
 have HB1 : Hid (Blk (w.alloc (.cells p.cells.toArray 95)) w.heap.size 95 p.cells) := Blk.new _ _ _
 generalize World.alloc w _ = w1 at HF1 HB1 ⊢
 obtain ⟨N,hN⟩ : ∃ N,N = w.heap.size := ⟨_,rfl⟩
 rw [← hN] at HB1 ⊢
 clear hN
 refine seg_begin (fun w' => Fr [] w1 w') (by kernel_rfl) ?_
 refine seg_quiet (fuel := 5) (by kernel_rfl) (fun d _ _ _ _ h => by cases d <;> exact h) ((Fr.refl _ _).drew) [1,2,4,5,6] _ _ (by kernel_rfl) ?_
 simp only [pickL,nthO]
 refine wpQuiet_rfl (.pointer (some ⟨N,0,none⟩)) rfl (fun _ => rfl) ?_
 simp only [Act.put,nA,nB,nC]
 refine wpQuiet_rfl (.slice (some ⟨N,0,none⟩) 32 32) rfl (fun _ => rfl) ?_
 simp only [Act.put,nA,nB,nC]
 refine wpQuiet_rfl (.pointer (some ⟨N,32,none⟩)) rfl (fun _ => rfl) ?_
 simp only [Act.put,nA,nB,nC]
 refine wpQuiet_load1 rfl 23 (.tmp 7) rfl N 32 rfl (.int .u32 p.idx) _ (fun w' hf => (HB1.out.fr hf (by simp)).cell_at (by simp [OutP.cells,HL.out])) rfl rfl ?_
 simp only [Act.put,nA,nB,nC]
 refine wpQuiet_rfl (.int .u64 (IntKind.u64.wrap p.idx)) rfl (fun _ => rfl) ?_
 simp only [Act.put,nA,nB,nC]
 refine wpQuiet_nil ?_
 have HW : Hid (IntKind.u64.wrap p.idx = p.idx) := by have := HI.out; exact IntWalk.u64_in _ ⟨hi0,by omega⟩
 rw [HW.out]
 refine seg_act 0 rfl rfl (by kernel_rfl) ?_
 go_wp2_with fail
 have HF2 : Hid (Fr [] w1 (w1.drew.alloc (.cells #[] 5))) := (Fr.refl _ _).drew.alloc _
 have HO2 : Hid (Fresh w1.heap.size (w1.drew.alloc (.cells #[] 5)) (.slice (some ⟨w1.drew.heap.size,0,none⟩) 0 0) []) := Fresh.empty w1.drew
 refine ⟨HF2.out,fun _ => ?_⟩
 change wpAnyH _ _ _ _ _ _ _ _ (w1.drew.alloc (.cells #[] 5))
 generalize World.alloc w1.drew _ = w2 at HF2 HO2 ⊢
 have HX2 : Hid (Bytes w2 (.slice (some ⟨N,0,none⟩) 32 32) p.hash) := front_bytes (r := [.int .u32 p.idx]) (HB1.out.fr HF2.out (by simp)) HL.out
 refine seg_act 3 (o := ⟨some 6,_,_,_,_,_⟩) rfl rfl (by kernel_rfl) ?_
 refine wpList_appF rfl (.tmp 3) (.tmp 5) rfl w1 _ _ [] p.hash rfl rfl HO2.out HF2.out HX2.out (by rw [HL.out]; decide) ?_
 intro v3 w3 HO3 HF3 _
 refine wpList_nil ?_
 simp only [Act.put,nA,nB,nC]
 refine ⟨HF3.out,fun _ => ?_⟩
 refine seg_act 7 rfl rfl (by kernel_rfl) ?_
 go_wp2_with fail
 refine (little_c _ _ hi0 (by have := HI.out; omega) 4 (by decide) _ rfl).mono ?_
 rintro e w4 ⟨v4,rfl,hf,ho⟩
 have HF4 : Hid (Fr [] w1 w4) := HF3.out.trans hf
 have HO4 := hid (HO3.out.fr hf)
 have HX4 := hid ho.rd
 clear hf ho
 go_wp2_with fail
 refine ⟨HF4.out,fun _ => ?_⟩
 refine seg_act 8 (o := ⟨some 11,_,_,_,_,_⟩) rfl rfl (by kernel_rfl) ?_
 refine wpList_appF rfl (.tmp 6) (.tmp 10) rfl w1 _ _ _ _ rfl rfl HO4.out HF4.out HX4.out (by rw [le_length]; simp [HL.out]) ?_
 intro v5 w5 HO5 HF5 _
 refine wpList_nil ?_
 simp only [Act.put,nA,nB,nC]
 refine ⟨HF5.out,fun _ => ?_⟩
 refine seg_quiet (fuel := 0) (by kernel_rfl) (fun d _ _ _ _ h => by cases d <;> exact h) (HF5.out) [9] _ _ (by kernel_rfl) ?_
 simp only [pickL,nthO]
 refine wpQuiet_rfl (v5) rfl (fun _ => rfl) ?_
 simp only [Act.put,nA,nB,nC]
 refine wpQuiet_nil ?_
 refine seg_end (by kernel_rfl) ?_
 go_wp2_with fail
 go_ret
 refine ⟨_,rfl,HF1.out.trans HF5.out, ?_⟩
 have := HO5.out.mono HF1.out.size
 simpa [opB] using this
theorem outBytes_c (w : World) (B : Nat) (hBw : B ≤ w.heap.size) (c : List Value) (x : TxOut) (hs : x.script.length ≤ 1000000) (hc : TxOutE B w c x) :
  Calls Tryz.prog 119 #[.agg c.toArray] w fun e w' => ∃ v',e = .returned v' ∧ Fr [] w w' ∧ Fresh w.heap.size w' v' (outB x) := by
 obtain ⟨sv,rfl,hsv⟩ := hc
 obtain ⟨a,cap,rfl,hq1,hq2⟩ := hsv.form
 clear hq1 hq2
 have HS := hid hs; clear hs
 have HV := hid hsv; clear hsv
 go_enter Tryz.func119,Tryz.ntmps119
 go_upto_region 1 with fail
 have HF1 : Hid (Fr [] w (w.alloc (.cells [.int .i64 x.value,.slice a x.script.length cap].toArray 65))) := (Fr.refl _ _).alloc _
 have HB1 : Hid (Blk (w.alloc (.cells [.int .i64 x.value,.slice a x.script.length cap].toArray 65)) w.heap.size 65 [.int .i64 x.value,.slice a x.script.length cap]) := Blk.new _ _ _
 change Code.wp _ _ _ _ (w.alloc (.cells [.int .i64 x.value,.slice a x.script.length cap].toArray 65))
 generalize World.alloc w _ = w1 at HF1 HB1 ⊢
 obtain ⟨N,hN⟩ : ∃ N,N = w.heap.size := ⟨_,rfl⟩
 rw [← hN] at HB1 ⊢
 clear hN
 refine seg_begin (fun w' => Fr [] w1 w') (by kernel_rfl) ?_
 refine seg_quiet (fuel := 4) (by kernel_rfl) (fun d _ _ _ _ h => by cases d <;> exact h) ((Fr.refl _ _).drew) [0,1,2,4,5] _ _ (by kernel_rfl) ?_
 simp only [pickL,nthO]
 refine wpQuiet_rfl (.pointer (some ⟨N,0,none⟩)) rfl (fun _ => rfl) ?_
 simp only [Act.put,nA,nB,nC]
 refine wpQuiet_load1 rfl 2 (.tmp 3) rfl N 0 rfl (.int .i64 x.value) _ (fun w' hf => (HB1.out.fr hf (by simp)).cell_at rfl) rfl rfl ?_
 simp only [Act.put,nA,nB,nC]
 refine wpQuiet_rfl (.int .u64 (IntKind.u64.wrap x.value)) rfl (fun _ => rfl) ?_
 simp only [Act.put,nA,nB,nC]
 refine wpQuiet_rfl (.pointer (some ⟨N,1,none⟩)) rfl (fun _ => rfl) ?_
 simp only [Act.put,nA,nB,nC]
 refine wpQuiet_load1 rfl 29 (.tmp 7) rfl N 1 rfl (.slice a x.script.length cap) _ (fun w' hf => (HB1.out.fr hf (by simp)).cell_at rfl) rfl rfl ?_
 simp only [Act.put,nA,nB,nC]
 refine wpQuiet_nil ?_
 have HW : Hid (0 ≤ IntKind.u64.wrap x.value ∧ IntKind.u64.wrap x.value ≤ 18446744073709551615) := by rw [u64_of]; show _ ∧ _; omega
 refine seg_act 3 rfl rfl (by kernel_rfl) ?_
 go_wp2_with fail
 refine (little_c _ _ HW.out.1 HW.out.2 8 (by decide) _ rfl).mono ?_
 rintro e w2 ⟨v2,rfl,hf,ho⟩
 have HF2 : Hid (Fr [] w1 w2) := (Fr.refl _ _).drew.trans hf
 have HO2 : Hid (Fresh w1.heap.size w2 v2 _) := ho
 clear hf ho
 go_wp2_with fail
 refine ⟨HF2.out,fun _ => ?_⟩
 refine seg_act 6 rfl rfl (by kernel_rfl) ?_
 go_wp2_with fail
 refine (varBytes_c w2 _ x.script (((HV.out.below (HF1.out.below.mono hBw)).below (HF2.out.below.mono (Nat.le_trans hBw HF1.out.size))).rd (Nat.le_trans hBw (HF1.out.trans HF2.out).size)) HS.out).mono ?_
 rintro e w3 ⟨v3,rfl,hf,ho⟩
 have HF3 : Hid (Fr [] w1 w3) := HF2.out.trans hf
 have HO3 := hid (HO2.out.fr hf)
 have HX3 := hid ho.rd
 clear hf ho
 go_wp2_with fail
 refine ⟨HF3.out,fun _ => ?_⟩
 refine seg_act 7 (o := ⟨some 10,_,_,_,_,_⟩) rfl rfl (by kernel_rfl) ?_
 refine wpList_appF rfl (.tmp 6) (.tmp 9) rfl w1 _ _ _ _ rfl rfl HO3.out HF3.out HX3.out (by have := HS.out; have := vint_len x.script.length; rw [le_length]; simp [vbytes]; omega) ?_
 intro v5 w5 HO5 HF5 _
 refine wpList_nil ?_
 simp only [Act.put,nA,nB,nC]
 refine ⟨HF5.out,fun _ => ?_⟩
 refine seg_quiet (fuel := 0) (by kernel_rfl) (fun d _ _ _ _ h => by cases d <;> exact h) (HF5.out) [8] _ _ (by kernel_rfl) ?_
 simp only [pickL,nthO]
 refine wpQuiet_rfl (v5) rfl (fun _ => rfl) ?_
 simp only [Act.put,nA,nB,nC]
 refine wpQuiet_nil ?_
 refine seg_end (by kernel_rfl) ?_
 go_wp2_with fail
 go_ret
 refine ⟨_,rfl,HF1.out.trans HF5.out, ?_⟩
 have := HO5.out.mono HF1.out.size
 rw [u64_of] at this
 exact this
set_option maxHeartbeats 2000000 in
theorem inBytes_c (w : World) (B : Nat) (hBw : B ≤ w.heap.size) (c : List Value) (x : TxIn) (hx : x.Ok) (hs : x.script.length ≤ 1000000) (hc : TxInE B w c x) :
  Calls Tryz.prog 118 #[.agg c.toArray] w fun e w' => ∃ v',e = .returned v' ∧ Fr [] w w' ∧ Fresh w.heap.size w' v' (inB x) := by
 obtain ⟨sv,wv,hcc,hsv,hwv⟩ := hc
 clear hwv
 obtain ⟨a,cap,rfl,hq1,hq2⟩ := hsv.form
 clear hq1 hq2
 have HS := hid hs; clear hs
 have HV := hid hsv; clear hsv
 have HC := hid hcc; clear hcc
 have HP := hid hx.prev
 have hi0 := hx.prev.idx.1
 have hi1 : x.prev.idx ≤ 4294967295 := by have := hx.prev.idx.2; omega
 have hs0 := hx.seq.1
 have hs1 : x.seq ≤ 4294967295 := by have := hx.seq.2; omega
 clear hx
 have HL := hid HP.out.len
 go_enter Tryz.func118,Tryz.ntmps118
 go_upto_region 1 with fail
 have HF1 : Hid (Fr [] w (w.alloc (.cells c.toArray 98))) := (Fr.refl _ _).alloc _
 have HB1 : Hid (Blk (w.alloc (.cells c.toArray 98)) w.heap.size 98 c) := Blk.new _ _ _
 generalize World.alloc w _ = w1 at HF1 HB1 ⊢
 obtain ⟨N,hN⟩ : ∃ N,N = w.heap.size := ⟨_,rfl⟩
 rw [← hN] at HB1 ⊢
 clear hN
 have HO2 : Hid (Fresh w1.heap.size (w1.alloc (.cells #[] 5)) (.slice (some ⟨w1.heap.size,0,none⟩) 0 0) []) := Fresh.empty w1
 have HF2 : Hid (Fr [] w1 (w1.alloc (.cells #[] 5))) := (Fr.refl _ _).alloc _
 have HX2 : Hid (Bytes (w1.alloc (.cells #[] 5)) (.slice (some ⟨N,0,none⟩) 32 32) x.prev.hash) := by
  have h1 := HB1.out.fr HF2.out (by simp)
  rw [HC.out,OutP.cells,List.append_assoc] at h1
  exact front_bytes h1 HL.out
 have HB0 : Hid (([] : List Int).length + x.prev.hash.length ≤ 140737488355328) := by rw [HL.out]; show _ ≤ _; decide
 have hNl := HB1.out.lt
 go_wp2_with (with_reducible refine wpList_appF (o := ⟨some 8,_,_,_,_,_⟩) rfl (.tmp 4) (.tmp 7) rfl w1 _ _ _ _ ?_ ?_ HO2.out HF2.out HX2.out HB0.out ?_)
 ·rfl
 ·rfl
 intro v3 w3 HO3 HF3 _
 clear HB0 HX2 HO2 HF2 hNl
 have HB3 := hid (HB1.out.fr HF3.out (by simp))
 have c3 : w3.cell? ⟨N,32,none⟩ = some (.int .u32 x.prev.idx) := HB3.out.cell_at (by rw [HC.out]; simp [OutP.cells,HL.out])
 have hl3 := HB3.out.lt
 go_wp2_with fail
 refine (little_c _ _ hi0 (by omega) 4 (by decide) _ rfl).mono ?_
 rintro e w4 ⟨v4,rfl,hf,ho⟩
 have HF4 : Hid (Fr [] w1 w4) := HF3.out.trans hf
 have HO4 := hid (HO3.out.fr hf)
 have HX4 := hid ho.rd
 clear hf ho c3 hl3 HB3
 have HB4 : Hid (([] ++ x.prev.hash).length + (le 4 x.prev.idx).length ≤ 140737488355328) := by show _ ≤ _; simp [HL.out,le_length]
 simp only []
 refine (‹∀ (a : Act) (w : World),wpList Tryz.prog _ _ _ a w → _›) _ _ ?_
 refine wpList_appF rfl (.tmp 9) (.tmp 14) rfl w1 _ _ _ _ rfl rfl HO4.out HF4.out HX4.out HB4.out ?_
 intro v5 w5 HO5 HF5 _
 simp only [Act.put,nA,nB,nC]
 clear HB4 HX4 HO4
 have HB5 := hid (HB1.out.fr HF5.out (by simp))
 have c3 : w5.cell? ⟨N,33,none⟩ = some (.slice a x.script.length cap) := HB5.out.cell_at (by rw [HC.out,List.getElem?_append_right (by rw [OutP.cells_length HP.out]; omega),OutP.cells_length HP.out]; rfl)
 have hl3 := HB5.out.lt
 go_wp2_with fail
 refine (varBytes_c w5 _ x.script (((HV.out.below (HF1.out.below.mono hBw)).below (HF5.out.below.mono (Nat.le_trans hBw HF1.out.size))).rd (Nat.le_trans hBw (HF1.out.trans HF5.out).size)) HS.out).mono ?_
 rintro e w6 ⟨v6,rfl,hf,ho⟩
 have HF6 : Hid (Fr [] w1 w6) := HF5.out.trans hf
 have HO6 := hid (HO5.out.fr hf)
 have HX6 := hid ho.rd
 clear hf ho c3 hl3 HB5
 have HB6 : Hid (([] ++ x.prev.hash ++ le 4 x.prev.idx).length + (vbytes x.script).length ≤ 140737488355328) := by
  have := HS.out; have := vint_len x.script.length
  show _ ≤ _; simp [HL.out,le_length,vbytes]; omega
 simp only []
 refine (‹∀ (a : Act) (w : World),wpList Tryz.prog _ _ _ a w → _›) _ _ ?_
 refine wpList_appF rfl (.tmp 16) (.tmp 19) rfl w1 _ _ _ _ rfl rfl HO6.out HF6.out HX6.out HB6.out ?_
 intro v7 w7 HO7 HF7 _
 simp only [Act.put,nA,nB,nC]
 clear HB6 HX6 HO6
 have HB7 := hid (HB1.out.fr HF7.out (by simp))
 have c3 : w7.cell? ⟨N,35,none⟩ = some (.int .u32 x.seq) := HB7.out.cell_at (by rw [HC.out,List.getElem?_append_right (by rw [OutP.cells_length HP.out]; omega),OutP.cells_length HP.out]; rfl)
 have hl3 := HB7.out.lt
 go_wp2_with fail
 refine (little_c _ _ hs0 (by omega) 4 (by decide) _ rfl).mono ?_
 rintro e w8 ⟨v8,rfl,hf,ho⟩
 have HF8 : Hid (Fr [] w1 w8) := HF7.out.trans hf
 have HO8 := hid (HO7.out.fr hf)
 have HX8 := hid ho.rd
 clear hf ho c3 hl3 HB7
 have HB8 : Hid (([] ++ x.prev.hash ++ le 4 x.prev.idx ++ vbytes x.script).length + (le 4 x.seq).length ≤ 140737488355328) := by
  have := HS.out; have := vint_len x.script.length
  show _ ≤ _; simp [HL.out,le_length,vbytes]; omega
 simp only []
 refine (‹∀ (a : Act) (w : World),wpList Tryz.prog _ _ _ a w → _›) _ _ ?_
 refine wpList_appF rfl (.tmp 21) (.tmp 25) rfl w1 _ _ _ _ rfl rfl HO8.out HF8.out HX8.out HB8.out ?_
 intro v9 w9 HO9 HF9 _
 simp only [Act.put,nA,nB,nC]
 go_wp2_with fail
 go_ret
 refine ⟨_,rfl,HF1.out.trans HF9.out, ?_⟩
 have := HO9.out.mono HF1.out.size
 simpa [inB] using this
end
section
set_option maxRecDepth 8000
/-- The hash, as a function value. -/
abbrev HFn : Value := .func (.func 11) #[] #[]
set_option maxHeartbeats 4000000 in
theorem txBytes_c (w : World) (B : Nat) (hBw : B ≤ w.heap.size) (c : List Value) (t : Tx) (ht : t.Ok) (hs : t.Small) (hlen : (txB t).length ≤ 5000000) (hc : TxE B w c t) :
  Calls Tryz.prog 90 #[.agg c.toArray,.bool false] w fun e w' => ∃ v',e = .returned v' ∧ Fr [] w w' ∧ Fresh w.heap.size w' v' (txB t) := by
 obtain ⟨iv,ov,rfl,hi,ho⟩ := hc
 obtain ⟨ai,ci,rfl,hi1,hi2⟩ := hi.len
 obtain ⟨ao,co,rfl,ho1,ho2⟩ := ho.len
 clear hi1 hi2 ho1 ho2
 have HI := hid hi; clear hi
 have HO := hid ho; clear ho
 have Ht := hid ht; clear ht
 have Hs := hid hs; clear hs
 obtain ⟨V,hV⟩ : ∃ V,V = t.version % 4294967296 := ⟨_,rfl⟩
 have hV0 : 0 ≤ V := by omega
 have hV1 : V ≤ 4294967295 := by omega
 obtain ⟨A1,hA1⟩ : ∃ A1,A1 = le 4 V ++ vint t.ins.length := ⟨_,rfl⟩
 obtain ⟨A2,hA2⟩ : ∃ A2,A2 = A1 ++ t.ins.flatMap inB ++ vint t.outs.length := ⟨_,rfl⟩
 have HT : Hid (A2 ++ t.outs.flatMap outB ++ le 4 t.lock = txB t) := by show _ = _; rw [hA2,hA1,hV,txB]; simp
 have HL := hid hlen; clear hlen
 have Hb1 : Hid (∀ i,(A1 ++ (t.ins.take i).flatMap inB).length ≤ 5000000) := by
  intro i
  have h1 := flatMap_take_le inB t.ins i
  have h2 := HL.out
  rw [← HT.out,hA2] at h2
  simp only [List.length_append] at h2 ⊢
  omega
 have Hb2 : Hid (∀ i,(A2 ++ (t.outs.take i).flatMap outB).length ≤ 5000000) := by
  intro i
  have h1 := flatMap_take_le outB t.outs i
  have h2 := HL.out
  rw [← HT.out] at h2
  simp only [List.length_append] at h2 ⊢
  omega
 have hi6 : (t.ins.length : Int) ≤ 1000000 := by have := Hs.out.ins; omega
 have ho6 : (t.outs.length : Int) ≤ 1000000 := by have := Hs.out.outs; omega
 have hk0 := Ht.out.lock.1
 have hk1 : t.lock ≤ 4294967295 := by have := Ht.out.lock.2; omega
 have HA1 := hid hA1; clear hA1
 have HA2 := hid hA2; clear hA2
 go_enter Tryz.func90,Tryz.ntmps90
 go_upto_region 1 with fail
 have HF1 : Hid (Fr [] w (w.alloc (.cells [.int .i32 t.version,.slice ai t.ins.length ci,.slice ao t.outs.length co,.int .u32 t.lock].toArray 39))) := (Fr.refl _ _).alloc _
 have HB1 : Hid (Blk (w.alloc (.cells [.int .i32 t.version,.slice ai t.ins.length ci,.slice ao t.outs.length co,.int .u32 t.lock].toArray 39)) w.heap.size 39 [.int .i32 t.version,.slice ai t.ins.length ci,.slice ao t.outs.length co,.int .u32 t.lock]) := Blk.new _ _ _
 change Code.wp _ _ _ _ (w.alloc (.cells [.int .i32 t.version,.slice ai t.ins.length ci,.slice ao t.outs.length co,.int .u32 t.lock].toArray 39))
 generalize World.alloc w _ = w1 at HF1 HB1 ⊢
 obtain ⟨N,hN⟩ : ∃ N,N = w.heap.size := ⟨_,rfl⟩
 rw [← hN] at HB1 ⊢
 clear hN
 have HBw1 : Hid (B ≤ w1.heap.size) := Nat.le_trans hBw HF1.out.size
 have HI1 : Hid (ListB B 36 (TxInE B) w1 (.slice ai t.ins.length ci) t.ins) := HI.out.below (HF1.out.below.mono hBw) (fun _ _ h => h.below (HF1.out.below.mono hBw))
 have HO1 : Hid (ListB B 2 (TxOutE B) w1 (.slice ao t.outs.length co) t.outs) := HO.out.below (HF1.out.below.mono hBw) (fun _ _ h => h.below (HF1.out.below.mono hBw))
 clear HI HO
 have c0 : w1.cell? ⟨N,0,none⟩ = some (.int .i32 t.version) := HB1.out.cell_at rfl
 have hl1 := HB1.out.lt
 go_wp2_with fail
 rw [← hV]
 refine (little_c _ V hV0 (by omega) 4 (by decide) _ rfl).mono ?_
 rintro e w2 ⟨v2,rfl,hf,ho⟩
 have HF2 := hid hf
 have HO2 := hid ho
 clear hf ho c0 hl1
 have c1 : w2.cell? ⟨N,1,none⟩ = some (.slice ai t.ins.length ci) := (HB1.out.fr HF2.out (by simp)).cell_at rfl
 have hl2 := (HB1.out.fr HF2.out (by simp)).lt
 have HV := hid hV; clear hV
 go_wp2_with fail
 refine (varInt_c _ t.ins.length Hs.out.ins).mono ?_
 rintro e w3 ⟨v3,rfl,hf,ho⟩
 have HF3 : Hid (Fr [] w1 w3) := HF2.out.trans hf
 have HO3 : Hid (Fresh w1.heap.size w3 v2 (le 4 V)) := HO2.out.fr hf
 have HX3 := hid ho.rd
 clear hf ho c1 hl2
 have HB3 : Hid ((le 4 V).length + (vint t.ins.length).length ≤ 140737488355328) := by have := vint_len t.ins.length; rw [le_length]; show _ ≤ _; omega
 simp only []
 refine (‹∀ (a : Act) (w : World),wpList Tryz.prog _ _ _ a w → _›) _ _ ?_
 refine wpList_appF rfl (.tmp 24) (.tmp 29) rfl w1 _ _ _ _ rfl rfl HO3.out HF3.out HX3.out HB3.out ?_
 intro v4 w4 HO4 HF4 _
 simp only [Act.put,nA,nB,nC]
 clear HO3 HF3 HX3 HB3 HO2 HF2
 rw [← HA1.out] at HO4
 go_wp2_with fail
 go_loopg [6,7] (t.ins.length) (fun gk v6 v7 wr => ∃ i vr,vr = v6 ∧ gk = t.ins.length - i ∧ i ≤ t.ins.length ∧ v7 = .int .i64 (i : Int) ∧ Fresh w1.heap.size wr vr (A1 ++ (t.ins.take i).flatMap inB) ∧ Fr [] w1 wr)
 case atStart => exact ⟨0,_,rfl,rfl,Nat.zero_le _,rfl,by simpa using HO4.out,HF4.out⟩
 case round =>
  clear HO4 HF4
  obtain ⟨i,vr,rfl,rfl,hi,rfl,hown,hf⟩ := hrel
  have HOr := hid hown; clear hown
  have HFr := hid hf; clear hf
  have HBr := hid (HB1.out.fr HFr.out (by simp))
  have hlr := HBr.out.lt
  have c1 : wr.cell? ⟨N,1,none⟩ = some (.slice ai t.ins.length ci) := HBr.out.cell_at rfl
  by_cases hlt : i < t.ins.length
  ·have hlti : (i : Int) < t.ins.length := by omega
   obtain ⟨b,off,cap',c,he,hb,hcl,hrg,hE⟩ := HI1.out.at hlt (by decide)
   simp only [Value.slice.injEq] at he
   obtain ⟨rfl,_,rfl⟩ := he
   have HBl : Hid (Below B w1 wr) := HFr.out.below.mono HBw1.out
   have Hrg := hid (hrg wr HBl.out); clear hrg
   have HE := hid (hE.below HBl.out); clear hE
   have Hcl := hid hcl; clear hcl
   clear hb
   go_upto_region 9 with fail
   refine wp_region_lit ?_
   refine wpList_run (v := vr) rfl rfl ?_
   simp only [Act.put,nA,nB,nC]
   refine wpList_run (v := .pointer (some ⟨N,1,none⟩)) rfl rfl ?_
   simp only [Act.put,nA,nB,nC]
   refine wpList_load1 rfl 36 (.tmp 39) rfl N 1 rfl (.slice (some ⟨b,off,none⟩) t.ins.length ci) _ (c1) rfl rfl ?_
   simp only [Act.put,nA,nB,nC]
   refine wpList_run (v := .int .i64 (i : Int)) rfl rfl ?_
   simp only [Act.put,nA,nB,nC]
   refine wpList_index rfl 36 (.tmp 40) (.tmp 41) rfl b off t.ins.length ci i 36 .i64 98 rfl rfl hlt (by kernel_rfl) (by kernel_rfl) ?_
   simp only [Act.put,nA,nB,nC]
   refine wpList_load_mid rfl 98 (.tmp 42) rfl b (off + i * 36) rfl (c) _ (Hrg.out) rfl rfl (by rw [Hcl.out]; kernel_rfl) ?_
   simp only [Act.put,nA,nB,nC]
   clear c1
   go_wp2_with fail
   refine (inBytes_c wr B (Nat.le_trans HBw1.out HFr.out.size) c t.ins[i] (Ht.out.ins _ (List.getElem_mem hlt)) (Hs.out.script _ (List.getElem_mem hlt)) HE.out).mono ?_
   rintro e w5 ⟨v5,rfl,hf,ho⟩
   have HF5 : Hid (Fr [] w1 w5) := HFr.out.trans hf
   have HO5 := hid (HOr.out.fr hf)
   have HX5 := hid ho.rd
   clear hf ho
   have HE5 : Hid (A1 ++ (t.ins.take i).flatMap inB ++ inB t.ins[i] = A1 ++ (t.ins.take (i + 1)).flatMap inB) := by show _ = _; rw [flatMap_take_succ inB _ _ hlt,List.append_assoc]
   have HB5 : Hid ((A1 ++ (t.ins.take i).flatMap inB).length + (inB t.ins[i]).length ≤ 140737488355328) := by
    have h1 := Hb1.out (i + 1)
    rw [← HE5.out,List.length_append] at h1
    show _ ≤ _; omega
   simp only []
   refine (‹∀ (a : Act) (w : World),wpList Tryz.prog _ _ _ a w → _›) _ _ ?_
   refine wpList_appF rfl (.tmp 38) (.tmp 44) rfl w1 _ _ _ _ rfl rfl HO5.out HF5.out HX5.out HB5.out ?_
   intro v6 w6 HO6 HF6 _
   simp only [Act.put,nA,nB,nC]
   rw [HE5.out] at HO6
   clear HE5 HB5 HX5 HO5 HF5 HE Hrg Hcl
   go_wp2_with fail
   go_roundg (t.ins.length - (i + 1))
   case measure => omega
   case rel => exact ⟨i + 1,_,rfl,rfl,by omega,by simp,HO6.out,HF6.out⟩
  ·obtain rfl : i = t.ins.length := by omega
   have HO4 : Hid (Fresh w1.heap.size wr vr (A1 ++ t.ins.flatMap inB)) := by have := HOr.out; rwa [List.take_length] at this
   clear HOr hi hlt
   have c2 : wr.cell? ⟨N,2,none⟩ = some (.slice ao t.outs.length co) := HBr.out.cell_at rfl
   go_wp2_with fail
   refine (varInt_c _ t.outs.length Hs.out.outs).mono ?_
   rintro e w3 ⟨v3,rfl,hf,ho⟩
   have HF3 : Hid (Fr [] w1 w3) := HFr.out.trans hf
   have HO3 := hid (HO4.out.fr hf)
   have HX3 := hid ho.rd
   clear hf ho c1 c2 hlr
   have HB3 : Hid ((A1 ++ t.ins.flatMap inB).length + (vint t.outs.length).length ≤ 140737488355328) := by
    have h1 := Hb1.out t.ins.length
    rw [List.take_length] at h1
    have := vint_len t.outs.length; show _ ≤ _; omega
   simp only []
   refine (‹∀ (a : Act) (w : World),wpList Tryz.prog _ _ _ a w → _›) _ _ ?_
   refine wpList_appF rfl (.tmp 46) (.tmp 51) rfl w1 _ _ _ _ rfl rfl HO3.out HF3.out HX3.out HB3.out ?_
   intro v4 w4 HO5 HF4 _
   simp only [Act.put,nA,nB,nC]
   clear HO3 HF3 HX3 HB3 HO4 HFr HBr
   rw [← HA2.out] at HO5
   go_wp2_with fail
   go_loopg [6,8] (t.outs.length) (fun gk v6 v8 wr => ∃ i vr,vr = v6 ∧ gk = t.outs.length - i ∧ i ≤ t.outs.length ∧ v8 = .int .i64 (i : Int) ∧ Fresh w1.heap.size wr vr (A2 ++ (t.outs.take i).flatMap outB) ∧ Fr [] w1 wr)
   case atStart => exact ⟨0,_,rfl,rfl,Nat.zero_le _,rfl,by simpa using HO5.out,HF4.out⟩
   case round =>
    clear HO5 HF4
    obtain ⟨i,vr,rfl,rfl,hi,rfl,hown,hf⟩ := hrel
    have HOr := hid hown; clear hown
    have HFr := hid hf; clear hf
    have HBr := hid (HB1.out.fr HFr.out (by simp))
    have hlr := HBr.out.lt
    have c2 : wr.cell? ⟨N,2,none⟩ = some (.slice ao t.outs.length co) := HBr.out.cell_at rfl
    by_cases hlt : i < t.outs.length
    ·have hlti : (i : Int) < t.outs.length := by omega
     obtain ⟨b,off,cap',c,he,hb,hcl,hrg,hE⟩ := HO1.out.at hlt (by decide)
     simp only [Value.slice.injEq] at he
     obtain ⟨rfl,_,rfl⟩ := he
     have HBl : Hid (Below B w1 wr) := HFr.out.below.mono HBw1.out
     have Hrg := hid (hrg wr HBl.out); clear hrg
     have HE := hid (hE.below HBl.out); clear hE
     have Hcl := hid hcl; clear hcl
     clear hb
     go_upto_region 14 with fail
     refine wp_region_lit ?_
     refine wpList_run (v := vr) rfl rfl ?_
     simp only [Act.put,nA,nB,nC]
     refine wpList_run (v := .pointer (some ⟨N,2,none⟩)) rfl rfl ?_
     simp only [Act.put,nA,nB,nC]
     refine wpList_load1 rfl 37 (.tmp 61) rfl N 2 rfl (.slice (some ⟨b,off,none⟩) t.outs.length co) _ (c2) rfl rfl ?_
     simp only [Act.put,nA,nB,nC]
     refine wpList_run (v := .int .i64 (i : Int)) rfl rfl ?_
     simp only [Act.put,nA,nB,nC]
     refine wpList_index rfl 37 (.tmp 62) (.tmp 63) rfl b off t.outs.length co i 2 .i64 65 rfl rfl hlt (by kernel_rfl) (by kernel_rfl) ?_
     simp only [Act.put,nA,nB,nC]
     refine wpList_load_mid rfl 65 (.tmp 64) rfl b (off + i * 2) rfl (c) _ (Hrg.out) rfl rfl (by rw [Hcl.out]; kernel_rfl) ?_
     simp only [Act.put,nA,nB,nC]
     clear c2
     go_wp2_with fail
     refine (outBytes_c wr B (Nat.le_trans HBw1.out HFr.out.size) c t.outs[i] (Hs.out.oscript _ (List.getElem_mem hlt)) HE.out).mono ?_
     rintro e w5 ⟨v5,rfl,hf,ho⟩
     have HF5 : Hid (Fr [] w1 w5) := HFr.out.trans hf
     have HO5 := hid (HOr.out.fr hf)
     have HX5 := hid ho.rd
     clear hf ho
     have HE5 : Hid (A2 ++ (t.outs.take i).flatMap outB ++ outB t.outs[i] = A2 ++ (t.outs.take (i + 1)).flatMap outB) := by show _ = _; rw [flatMap_take_succ outB _ _ hlt,List.append_assoc]
     have HB5 : Hid ((A2 ++ (t.outs.take i).flatMap outB).length + (outB t.outs[i]).length ≤ 140737488355328) := by
      have h1 := Hb2.out (i + 1)
      rw [← HE5.out,List.length_append] at h1
      show _ ≤ _; omega
     simp only []
     refine (‹∀ (a : Act) (w : World),wpList Tryz.prog _ _ _ a w → _›) _ _ ?_
     refine wpList_appF rfl (.tmp 60) (.tmp 66) rfl w1 _ _ _ _ rfl rfl HO5.out HF5.out HX5.out HB5.out ?_
     intro v6 w6 HO6 HF6 _
     simp only [Act.put,nA,nB,nC]
     rw [HE5.out] at HO6
     clear HE5 HB5 HX5 HO5 HF5 HE Hrg Hcl
     go_wp2_with fail
     go_roundg (t.outs.length - (i + 1))
     case measure => omega
     case rel => exact ⟨i + 1,_,rfl,rfl,by omega,by simp,HO6.out,HF6.out⟩
    ·obtain rfl : i = t.outs.length := by omega
     have HO4 : Hid (Fresh w1.heap.size wr vr (A2 ++ t.outs.flatMap outB)) := by have := HOr.out; rwa [List.take_length] at this
     clear HOr hi hlt
     go_wp2_with fail
     clear c2 hlr
     go_loopg [6,9] (0) (fun gk v6 v9 wx => gk = 0 ∧ vr = v6 ∧ v9 = .int .i64 0 ∧ wr = wx)
     case atStart => exact ⟨rfl,rfl,rfl,rfl⟩
     case round =>
      obtain ⟨rfl,rfl,rfl,rfl⟩ := hrel
      have hlr := HBr.out.lt
      have c3 : wr.cell? ⟨N,3,none⟩ = some (.int .u32 t.lock) := HBr.out.cell_at rfl
      go_wp2_with fail
      refine (little_c _ _ hk0 (by omega) 4 (by decide) _ rfl).mono ?_
      rintro e w3 ⟨v3,rfl,hf,ho⟩
      have HF3 : Hid (Fr [] w1 w3) := HFr.out.trans hf
      have HO3 := hid (HO4.out.fr hf)
      have HX3 := hid ho.rd
      clear hf ho c3 hlr
      have HB3 : Hid ((A2 ++ t.outs.flatMap outB).length + (le 4 t.lock).length ≤ 140737488355328) := by
       have h1 := Hb2.out t.outs.length
       rw [List.take_length] at h1
       rw [le_length]; show _ ≤ _; omega
      simp only []
      refine (‹∀ (a : Act) (w : World),wpList Tryz.prog _ _ _ a w → _›) _ _ ?_
      refine wpList_appF rfl (.tmp 87) (.tmp 91) rfl w1 _ _ _ _ rfl rfl HO3.out HF3.out HX3.out HB3.out ?_
      intro v4 w4 HO5 HF4 _
      simp only [Act.put,nA,nB,nC]
      rw [HT.out] at HO5
      go_wp2_with fail
      go_ret
      exact ⟨_,rfl,HF1.out.trans HF4.out,HO5.out.mono HF1.out.size⟩
/-- spec.TxID, by the hash that is given: the same as the text's own. -/
theorem txid_c (K : List Int) (hK : K.length = 64) (w : World) (hKc : Blk w 1 379 (ic .u32 K)) (B : Nat) (hBw : B ≤ w.heap.size) (c : List Value) (t : Tx) (ht : t.Ok) (hs : t.Small) (hlen : (txB t).length ≤ 5000000) (hc : TxE B w c t) :
  Calls Tryz.prog 54 #[HFn,.agg c.toArray] w fun e w' => e = .returned (arr (txH K t)) ∧ Fr [] w w' := by
 have hcl : c.length = 4 := by obtain ⟨iv,ov,rfl,_,_⟩ := hc; rfl
 obtain ⟨z,hz⟩ : ∃ z : List Int,z = List.replicate 32 0 := ⟨_,rfl⟩
 have HZl : Hid (z.length = 32) := by rw [hz]; exact List.length_replicate
 have HhKc := hid hKc; clear hKc
 have HhK := hid hK; clear hK
 have Hhc := hid hc; clear hc
 have Hht := hid ht; clear ht
 have Hhs := hid hs; clear hs
 have Hhlen := hid hlen; clear hlen
 have Hhcl := hid hcl; clear hcl
 go_enter Tryz.func54,Tryz.ntmps54
 go_upto_region 1 with fail
 have HF1 : Hid (Fr [] w ((w.alloc (.cells c.toArray 39)).alloc (.cells (ic .u8 z).toArray 22))) := ((Fr.refl _ _).alloc _).alloc _
 have HB1 : Hid (Blk ((w.alloc (.cells c.toArray 39)).alloc (.cells (ic .u8 z).toArray 22)) w.heap.size 39 c) := (Blk.new _ _ _).alloc _
 have HR1 : Hid (Blk ((w.alloc (.cells c.toArray 39)).alloc (.cells (ic .u8 z).toArray 22)) (w.heap.size + 1) 22 (ic .u8 z)) := by
  have := Blk.new (w.alloc (.cells c.toArray 39)) (ic .u8 z) 22
  rwa [show (w.alloc (.cells c.toArray 39)).heap.size = w.heap.size + 1 by simp] at this
 change Code.wp _ _ _ _ ((w.alloc (.cells c.toArray 39)).alloc (.cells (ic .u8 (List.replicate 32 0)).toArray 22))
 rw [← hz]
 generalize World.alloc (World.alloc w _) _ = w1 at HF1 HB1 HR1 ⊢
 clear hz
 obtain ⟨N,hN⟩ : ∃ N,N = w.heap.size := ⟨_,rfl⟩
 rw [← hN] at HB1 HR1 ⊢
 obtain ⟨R,hR⟩ : ∃ R,R = N + 1 := ⟨_,rfl⟩
 rw [← hR] at HR1 ⊢
 have HRw : Hid (w.heap.size ≤ R) := by show _ ≤ _; omega
 clear hN hR
 refine wp_region_lit ?_
 refine wpList_run (v := HFn) rfl rfl ?_
 simp only [Act.put,nA,nB,nC]
 refine wpList_load_mid rfl 39 (.tmp 3) rfl N 0 rfl (c) _ (HB1.out.range) rfl rfl (by rw [Hhcl.out]; kernel_rfl) ?_
 simp only [Act.put,nA,nB,nC]
 go_wp2_with fail
 refine (txBytes_c w1 B (Nat.le_trans hBw HF1.out.size) c t Hht.out Hhs.out Hhlen.out (Hhc.out.below (HF1.out.below.mono hBw))).mono ?_
 rintro e w2 ⟨v2,rfl,hf,ho⟩
 have HF2 : Hid (Fr [] w w2) := HF1.out.trans hf
 have HR2 := hid (HR1.out.fr hf (by simp))
 have HX2 := hid ho.rd
 clear hf ho
 go_wp2_with fail
 refine (hash_c K HhK.out w2 (txB t) _ (HhKc.out.fr HF2.out (by simp)) HX2.out (by have := Hhlen.out; omega)).mono ?_
 rintro e w4 ⟨rfl,hf⟩
 have HF6 : Hid (Fr [] w w4) := HF2.out.trans hf
 have HR6 : Hid (Blk w4 R 22 (ic .u8 z)) := HR2.out.fr hf (by simp)
 clear hf
 have Htl := hid (H2_length K (txB t))
 simp only []
 refine (‹∀ (a : Act) (w : World),wpList Tryz.prog _ _ _ a w → _›) _ _ ?_
 refine wpList_store_mid rfl 22 (.tmp 4) (.tmp 8) rfl R 0 (ic .u8 (H2 K (txB t))).toArray rfl rfl (HR6.out.there (by rw [List.size_toArray,ic_length,ic_length,Htl.out,HZl.out]; omega)) (by rw [List.size_toArray,ic_length,Htl.out]; kernel_rfl) (all_oneCell_toArray (ic_one _ _)) ?_
 have HR7 : Hid (Blk (w4.setCells R 0 (ic .u8 (H2 K (txB t))).toArray.toList) R 22 (ic .u8 (H2 K (txB t)))) := HR6.out.putAll _ (by rw [ic_length,ic_length,Htl.out,HZl.out])
 have HF7 : Hid (Fr [] w (w4.setCells R 0 (ic .u8 (H2 K (txB t))).toArray.toList)) := HF6.out.andThen (fr_setCells (S := [R]) (by simp) _ _ _ (Fr.refl _ _)) (by intro k hk; simp at hk; subst hk; exact .inr HRw.out)
 generalize World.setCells _ _ _ _ = w5 at HR7 HF7 ⊢
 simp only [Act.put,nA,nB,nC]
 refine wpList_nil ?_
 refine (‹∀ (a : Act) (w : World),Code.wp Tryz.prog Code.ret _ a w → _›) _ _ ?_
 refine wp_ret ?_
 refine ret_arr rfl rfl (.array 32 5) HR7.out rfl rfl (by rw [Htl.out]; kernel_rfl) rfl ?_
 exact ⟨rfl,HF7.out⟩
end
end Go.Proofs.YtdllckiidegpcaaGreat
