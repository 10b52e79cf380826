/- A part of the walk of laws.FnPartial (part 47): contracts of functions that it comes to, and the plain laws that these lean on. Conditions stand in each contract. -/
import Derived.Test.YtdllckiidegpcaaGreatA45
set_option linter.unusedSimpArgs false
set_option linter.unusedVariables false
set_option maxHeartbeats 4000000
namespace Go.Proofs.YtdllckiidegpcaaGreat
open Go.RowKit
section
set_option maxRecDepth 8000
theorem unixOf_c (w : World) (s : Int) : Calls Tryz.prog 88 #[.agg #[.int .i64 s]] w fun e w' => e = .returned (.int .i64 s) ∧ Fr [] w w' := by
 go_enter Tryz.func88,Tryz.ntmps88
 go_wp2_with fail
 go_ret
 exact ⟨rfl,(Fr.refl _ _).alloc _⟩
section
variable {h : Hdr}
theorem wire_prev {j : Nat} {v : Value} (hv : (ic .u8 h.prev)[j]? = some v) : h.wire[1 + j]? = some v := by
 rw [Nat.add_comm,Hdr.wire,List.getElem?_cons_succ,List.getElem?_append_left (List.getElem?_eq_some_iff.mp hv).1]; exact hv
theorem wire_root (hk : h.Ok) {j : Nat} {v : Value} (hv : (ic .u8 h.root)[j]? = some v) : h.wire[33 + j]? = some v := by
 rw [show 33 + j = (32 + j) + 1 by omega,Hdr.wire,List.getElem?_cons_succ,List.getElem?_append_right (by rw [ic_length,hk.prev]; omega),ic_length,hk.prev,Nat.add_sub_cancel_left,List.getElem?_append_left (List.getElem?_eq_some_iff.mp hv).1]; exact hv
theorem wire_65 (hk : h.Ok) : h.wire[65]? = some (.int .i64 h.time) := by simp [Hdr.wire,hk.prev,hk.root]
theorem wire_t (hk : h.Ok) {j : Nat} {v : Value} (hv : [Value.int .i64 h.time][j]? = some v) : h.wire[65 + j]? = some v := by
 cases j with
 | zero => simp at hv; subst hv; exact wire_65 hk
 | succ j => simp at hv
theorem wire_66 (hk : h.Ok) : h.wire[66]? = some (.int .u32 h.bits) := by simp [Hdr.wire,hk.prev,hk.root]
theorem wire_67 (hk : h.Ok) : h.wire[67]? = some (.int .u32 h.nonce) := by simp [Hdr.wire,hk.prev,hk.root]
end
theorem hdr_one {h : Hdr} : ∀ u ∈ h.cells,u.oneCell' = true := by
 intro u hu
 simp only [Hdr.cells,List.mem_cons,List.mem_append,List.not_mem_nil,or_false] at hu
 rcases hu with rfl | hu | hu | rfl | rfl | rfl
 all_goals first | rfl | exact ic_one _ _ u hu
def hdrZ : List Value := .int .i32 0 :: (z32 ++ (z32 ++ [.int .u32 0,.int .u32 0,.int .u32 0]))
theorem hdrZ_length : hdrZ.length = 68 := by simp [hdrZ,z32]
set_option maxHeartbeats 2000000 in
theorem ofHeader_c (w : World) (H : Nat) (h : Hdr) (hk : h.Ok) (hH : H < w.heap.size) (hr : ∀ j v,h.wire[j]? = some v → w.cell? ⟨H,j,none⟩ = some v) :
  Calls Tryz.prog 50 #[.pointer (some ⟨H,0,none⟩)] w fun e w' => e = .returned (.agg h.cells.toArray) ∧ Fr [] w w' := by
 have ht0 := hk.time.1
 have ht1 := hk.time.2
 have hbb : h.cells.length = 68 := Hdr.cells_length hk
 obtain ⟨Z,hZ⟩ : ∃ Z,Z = hdrZ := ⟨_,rfl⟩
 have HZl : Hid (Z.length = 68) := by rw [hZ]; exact hdrZ_length
 have Ht0 := hid ht0
 have Ht1 := hid ht1
 clear ht0 ht1
 have Hhk := hid hk; clear hk
 have Hhr := hid hr; clear hr
 have HhH := hid hH; clear hH
 have Hhbb := hid hbb; clear hbb
 go_enter Tryz.func50,Tryz.ntmps50
 go_upto_region 1 with fail
 have HF1 : Hid (Fr [] w (w.alloc (.cells Z.toArray 25))) := (Fr.refl _ _).alloc _
 have HR1 : Hid (Blk (w.alloc (.cells Z.toArray 25)) w.heap.size 25 Z) := Blk.new _ _ _
 change Code.wp _ _ _ _ (w.alloc (.cells hdrZ.toArray 25))
 rw [← hZ]
 generalize World.alloc w _ = w1 at HF1 HR1 ⊢
 clear hZ
 obtain ⟨R,hR⟩ : ∃ R,R = w.heap.size := ⟨_,rfl⟩
 rw [← hR] at HR1 ⊢
 have HRw : Hid (w.heap.size ≤ R ∧ H ≠ R) := by have := HhH.out; show _ ∧ _; omega
 have HC : Hid (∀ w',Fr [R] w1 w' → ∀ j v,h.wire[j]? = some v → w'.cell? ⟨H,j,none⟩ = some v) := by
  intro w' hf j v hv
  have hl := HhH.out
  rw [hf.cells.1 _ _ (Nat.lt_of_lt_of_le hl HF1.out.size) (by simp; exact HRw.out.2),HF1.out.cells.1 _ _ hl (by simp)]
  exact Hhr.out j v hv
 clear hR
 refine seg_begin (fun w' => Fr [R] w1 w') (by kernel_rfl) ?_
 refine seg_quiet (fuel := 4) (by kernel_rfl) (fun d _ _ _ _ h => by cases d <;> exact h) ((Fr.refl _ _).drew) [0,1,2,3,4,5,6,7,8,9,10,11,12,13,14,15,18,19,20,21,22,23,24,25] _ _ (by kernel_rfl) ?_
 simp only [pickL,nthO]
 refine wpQuiet_rfl (.pointer (some ⟨H,0,none⟩)) rfl (fun _ => rfl) ?_
 simp only [Act.put,nA,nB,nC]
 refine wpQuiet_rfl (.pointer (some ⟨H,0,none⟩)) rfl (fun _ => rfl) ?_
 simp only [Act.put,nA,nB,nC]
 refine wpQuiet_rfl (.pointer (some ⟨H,0,none⟩)) rfl (fun _ => rfl) ?_
 simp only [Act.put,nA,nB,nC]
 refine wpQuiet_load1 rfl 21 (.tmp 5) rfl H 0 rfl (.int .i32 h.version) _ (fun w' hf => HC.out w' hf 0 _ rfl) rfl rfl ?_
 simp only [Act.put,nA,nB,nC]
 refine wpQuiet_rfl (.pointer (some ⟨H,0,none⟩)) rfl (fun _ => rfl) ?_
 simp only [Act.put,nA,nB,nC]
 refine wpQuiet_rfl (.pointer (some ⟨H,0,none⟩)) rfl (fun _ => rfl) ?_
 simp only [Act.put,nA,nB,nC]
 refine wpQuiet_rfl (.pointer (some ⟨H,1,none⟩)) rfl (fun _ => rfl) ?_
 simp only [Act.put,nA,nB,nC]
 refine wpQuiet_load rfl 81 (.tmp 9) rfl H 1 rfl (ic .u8 h.prev) _ (fun w' hf => fun j v hv => HC.out w' hf _ v (wire_prev hv)) rfl rfl (by rw [ic_length,Hhk.out.prev]; kernel_rfl) ?_
 simp only [Act.put,nA,nB,nC]
 refine wpQuiet_rfl (.pointer (some ⟨H,0,none⟩)) rfl (fun _ => rfl) ?_
 simp only [Act.put,nA,nB,nC]
 refine wpQuiet_rfl (.pointer (some ⟨H,0,none⟩)) rfl (fun _ => rfl) ?_
 simp only [Act.put,nA,nB,nC]
 refine wpQuiet_rfl (.pointer (some ⟨H,33,none⟩)) rfl (fun _ => rfl) ?_
 simp only [Act.put,nA,nB,nC]
 refine wpQuiet_load rfl 81 (.tmp 13) rfl H 33 rfl (ic .u8 h.root) _ (fun w' hf => fun j v hv => HC.out w' hf _ v (wire_root Hhk.out hv)) rfl rfl (by rw [ic_length,Hhk.out.root]; kernel_rfl) ?_
 simp only [Act.put,nA,nB,nC]
 refine wpQuiet_rfl (.pointer (some ⟨H,0,none⟩)) rfl (fun _ => rfl) ?_
 simp only [Act.put,nA,nB,nC]
 refine wpQuiet_rfl (.pointer (some ⟨H,0,none⟩)) rfl (fun _ => rfl) ?_
 simp only [Act.put,nA,nB,nC]
 refine wpQuiet_rfl (.pointer (some ⟨H,65,none⟩)) rfl (fun _ => rfl) ?_
 simp only [Act.put,nA,nB,nC]
 refine wpQuiet_load rfl 116 (.tmp 17) rfl H 65 rfl ([.int .i64 h.time]) _ (fun w' hf => fun j v hv => HC.out w' hf _ v (wire_t Hhk.out hv)) rfl rfl (by kernel_rfl) ?_
 simp only [Act.put,nA,nB,nC]
 refine wpQuiet_rfl (.pointer (some ⟨H,0,none⟩)) rfl (fun _ => rfl) ?_
 simp only [Act.put,nA,nB,nC]
 refine wpQuiet_rfl (.pointer (some ⟨H,0,none⟩)) rfl (fun _ => rfl) ?_
 simp only [Act.put,nA,nB,nC]
 refine wpQuiet_rfl (.pointer (some ⟨H,66,none⟩)) rfl (fun _ => rfl) ?_
 simp only [Act.put,nA,nB,nC]
 refine wpQuiet_load1 rfl 23 (.tmp 23) rfl H 66 rfl (.int .u32 h.bits) _ (fun w' hf => HC.out w' hf 66 _ (wire_66 Hhk.out)) rfl rfl ?_
 simp only [Act.put,nA,nB,nC]
 refine wpQuiet_rfl (.pointer (some ⟨H,0,none⟩)) rfl (fun _ => rfl) ?_
 simp only [Act.put,nA,nB,nC]
 refine wpQuiet_rfl (.pointer (some ⟨H,0,none⟩)) rfl (fun _ => rfl) ?_
 simp only [Act.put,nA,nB,nC]
 refine wpQuiet_rfl (.pointer (some ⟨H,67,none⟩)) rfl (fun _ => rfl) ?_
 simp only [Act.put,nA,nB,nC]
 refine wpQuiet_load1 rfl 23 (.tmp 27) rfl H 67 rfl (.int .u32 h.nonce) _ (fun w' hf => HC.out w' hf 67 _ (wire_67 Hhk.out)) rfl rfl ?_
 simp only [Act.put,nA,nB,nC]
 refine wpQuiet_nil ?_
 refine seg_act 16 rfl rfl (by kernel_rfl) ?_
 go_wp2_with fail
 refine (unixOf_c _ _).mono ?_
 rintro e w2 ⟨rfl,hf⟩
 have HBk2 : Hid (Blk w2 R 25 Z) := HR1.out.fr ((Fr.refl _ _).drew.trans hf) (by simp)
 have HF2 : Hid (Fr [R] w1 w2) := ((Fr.refl _ _).drew.trans hf).mono (by simp)
 clear hf
 go_wp2_with fail
 refine ⟨HF2.out,fun _ => ?_⟩
 generalize hV1 : Value.agg (ic .u8 h.prev).toArray = V1
 generalize hV2 : Value.agg (ic .u8 h.root).toArray = V2
 have HV1 := hid hV1; clear hV1
 have HV2 := hid hV2; clear hV2
 refine seg_quiet (fuel := 1) (by kernel_rfl) (fun d _ _ _ _ h => by cases d <;> exact h) (HF2.out) [17,26] _ _ (by kernel_rfl) ?_
 simp only [pickL,nthO]
 have ht0 := Ht0.out
 have ht1 := Ht1.out
 iterate 1 go_big_quiet_step (((intro hw; first | with_reducible rfl | rfl | (simp [Result.andThen]; done) | (simp [Result.andThen]; rfl))))
 refine wpQuiet_build rfl 25 _ rfl [(0,.int .i32 h.version),(1,V1),(2,V2),(3,.int .u32 h.time),(4,.int .u32 h.bits),(5,.int .u32 h.nonce)] (by simp only [List.map_toArray]; rfl)
  [[.int .i32 0],ic .u8 (List.replicate 32 0),ic .u8 (List.replicate 32 0),[.int .u32 0],[.int .u32 0],[.int .u32 0]] (by kernel_rfl) ?_ h.cells ?_ ?_
 ·rw [← HV1.out,← HV2.out]
  have e1 := Hhk.out.prev
  have e2 := Hhk.out.root
  simp [offs,Value.cells,e1,e2]
 ·rw [← HV1.out,← HV2.out]
  simp [Hdr.cells,Value.cells]
 simp only [Act.put,nA,nB,nC]
 refine wpQuiet_nil ?_
 refine seg_act 27 (o := ⟨none,_,_,_,_,_⟩) rfl rfl (by kernel_rfl) ?_
 refine wpList_storeB rfl 25 (.tmp 2) (.tmp 29) rfl rfl R Z h.cells HBk2.out rfl rfl (by rw [Hhbb.out,HZl.out]) (by rw [Hhbb.out]; kernel_rfl) hdr_one ?_
 intro w6 hf hb
 have HF6 : Hid (Fr [R] w1 w6) := HF2.out.trans hf
 have HR6 := hid hb
 clear hf hb
 refine wpList_nil ?_
 refine ⟨HF6.out,fun _ => ?_⟩
 refine seg_end (by kernel_rfl) ?_
 refine (‹∀ (a : Act) (w : World),Code.wp Tryz.prog Code.ret _ a w → _›) _ _ ?_
 refine wp_ret ?_
 refine ret_cells rfl rfl _ HR6.out rfl rfl (by rw [Hhbb.out]; kernel_rfl) rfl ?_
 exact ⟨rfl,HF1.out.andThen HF6.out (by intro k hk; simp at hk; subst hk; exact .inr HRw.out.1)⟩
end
end Go.Proofs.YtdllckiidegpcaaGreat
