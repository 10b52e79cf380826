/- A part of the walk of laws.FnPartial (part 44): contracts of functions that it comes to, and the plain laws that these lean on. Conditions stand in each contract. -/
import Derived.Test.YtdllckiidegpcaaGreatA41
set_option linter.unusedSimpArgs false
set_option linter.unusedVariables false
set_option maxHeartbeats 4000000
namespace Go.Proofs.YtdllckiidegpcaaGreat
open Go.RowKit
section
set_option maxRecDepth 8000
theorem sameTx0_c (w : World) : Calls Tryz.prog 30 #[.agg #[.int .i32 0,.slice none 0 0,.slice none 0 0,.int .u32 0],.agg #[.int .i32 0,.slice none 0 0,.slice none 0 0,.int .u32 0]] w fun e w' => e = .returned (.bool true) ∧ Fr [] w w' := by
 go_enter Tryz.func30,Tryz.ntmps30
 go_wp2_with fail
 have HF1 : Hid (Fr [] w ((w.alloc (.cells [.int .i32 0,.slice none 0 0,.slice none 0 0,.int .u32 0].toArray 39)).alloc (.cells [.int .i32 0,.slice none 0 0,.slice none 0 0,.int .u32 0].toArray 39))) := ((Fr.refl _ _).alloc _).alloc _
 have HA1 : Hid (Blk ((w.alloc (.cells [.int .i32 0,.slice none 0 0,.slice none 0 0,.int .u32 0].toArray 39)).alloc (.cells [.int .i32 0,.slice none 0 0,.slice none 0 0,.int .u32 0].toArray 39)) w.heap.size 39 [.int .i32 0,.slice none 0 0,.slice none 0 0,.int .u32 0]) := (Blk.new _ _ _).alloc _
 change Code.wp _ _ _ _ ((w.alloc (.cells [.int .i32 0,.slice none 0 0,.slice none 0 0,.int .u32 0].toArray 39)).alloc (.cells [.int .i32 0,.slice none 0 0,.slice none 0 0,.int .u32 0].toArray 39))
 generalize World.alloc (World.alloc w _) _ = w1 at HF1 HA1 ⊢
 obtain ⟨A,hA⟩ : ∃ A,A = w.heap.size := ⟨_,rfl⟩
 rw [← hA] at HA1 ⊢
 clear hA
 have c1 : w1.cell? ⟨A,1,none⟩ = some (.slice none 0 0) := HA1.out.cell_at rfl
 have c2 : w1.cell? ⟨A,2,none⟩ = some (.slice none 0 0) := HA1.out.cell_at rfl
 have hal := HA1.out.lt
 go_loopg [5] 0 (fun gk v5 wr => gk = 0 ∧ v5 = .int .i64 0 ∧ w1 = wr)
 case atStart => exact ⟨rfl,rfl,rfl⟩
 case round =>
  obtain ⟨rfl,rfl,rfl⟩ := hrel
  go_wp2_with fail
  go_loopg [9] 0 (fun gk v9 wr => gk = 0 ∧ v9 = .int .i64 0 ∧ w1 = wr)
  case atStart => exact ⟨rfl,rfl,rfl⟩
  case round =>
   obtain ⟨rfl,rfl,rfl⟩ := hrel
   go_wp2_with fail
   go_ret
   exact ⟨rfl,HF1.out⟩
def blk0 : List Value := .int .i32 0 :: (z32 ++ (z32 ++ [.int .u32 0,.int .u32 0,.int .u32 0,.slice none 0 0]))
def hdr0 : List Value := .int .i32 0 :: (z32 ++ (z32 ++ [.int .u32 0,.int .u32 0,.int .u32 0]))
theorem neq_hdr0 (w : World) : (binOp .neq 25 (.agg hdr0.toArray) (.agg hdr0.toArray)).run Tryz.prog w = .ok (.bool false) w := by kernel_rfl
theorem eqg_hdr0 (w : World) : (eqGuard .neq 25 (.tmp 7) (.tmp 9) (.agg hdr0.toArray) (.agg hdr0.toArray)).run Tryz.prog w = .ok () w := by kernel_rfl
theorem sameBlock0_c (w : World) : Calls Tryz.prog 31 #[.agg blk0.toArray,.agg blk0.toArray] w fun e w' => e = .returned (.bool true) ∧ Fr [] w w' := by
 obtain ⟨zb,hzb⟩ : ∃ zb,zb = blk0 := ⟨_,rfl⟩
 obtain ⟨zh,hzh⟩ : ∃ zh,zh = hdr0 := ⟨_,rfl⟩
 have HZb : Hid (zb = zh ++ [.slice none 0 0]) := by rw [hzb,hzh]; rfl
 have HZh : Hid (zh.length = 68) := by rw [hzh]; rfl
 have HNe : Hid (∀ w,(binOp .neq 25 (.agg zh.toArray) (.agg zh.toArray)).run Tryz.prog w = .ok (.bool false) w) := by rw [hzh]; exact neq_hdr0
 have HGd : Hid (∀ w,(eqGuard .neq 25 (.tmp 7) (.tmp 9) (.agg zh.toArray) (.agg zh.toArray)).run Tryz.prog w = .ok () w) := by rw [hzh]; exact eqg_hdr0
 rw [← hzb]
 clear hzb hzh
 go_enter Tryz.func31,Tryz.ntmps31
 go_upto_region 1 with fail
 have HF1 : Hid (Fr [] w ((w.alloc (.cells zb.toArray 28)).alloc (.cells zb.toArray 28))) := ((Fr.refl _ _).alloc _).alloc _
 have HA1 : Hid (Blk ((w.alloc (.cells zb.toArray 28)).alloc (.cells zb.toArray 28)) w.heap.size 28 zb) := (Blk.new _ _ _).alloc _
 have HB1 : Hid (Blk ((w.alloc (.cells zb.toArray 28)).alloc (.cells zb.toArray 28)) (w.heap.size + 1) 28 zb) := by
  have := Blk.new (w.alloc (.cells zb.toArray 28)) zb 28
  rwa [show (w.alloc (.cells zb.toArray 28)).heap.size = w.heap.size + 1 by simp] at this
 generalize World.alloc (World.alloc w _) _ = w1 at HF1 HA1 HB1 ⊢
 obtain ⟨A,hA⟩ : ∃ A,A = w.heap.size := ⟨_,rfl⟩
 rw [← hA] at HA1 HB1 ⊢
 clear hA
 obtain ⟨B,hB⟩ : ∃ B,B = A + 1 := ⟨_,rfl⟩
 rw [← hB] at HB1 ⊢
 clear hB
 have c1 : w1.cell? ⟨A,68,none⟩ = some (.slice none 0 0) := HA1.out.cell_at (by rw [HZb.out,List.getElem?_append_right (by rw [HZh.out]; omega),HZh.out]; rfl)
 have d1 : w1.cell? ⟨B,68,none⟩ = some (.slice none 0 0) := HB1.out.cell_at (by rw [HZb.out,List.getElem?_append_right (by rw [HZh.out]; omega),HZh.out]; rfl)
 have hal := HA1.out.lt
 have hbl := HB1.out.lt
 refine wp_region_lit ?_
 refine wpList_run (v := .pointer (some ⟨A,0,none⟩)) rfl rfl ?_
 simp only [Act.put,nA,nB,nC]
 refine wpList_load_mid rfl 25 (.tmp 6) rfl A 0 rfl (zh) _ (HA1.out.part [] _ _ HZb.out) rfl rfl (by rw [HZh.out]; kernel_rfl) ?_
 simp only [Act.put,nA,nB,nC]
 refine wpList_run (v := .pointer (some ⟨B,0,none⟩)) rfl rfl ?_
 simp only [Act.put,nA,nB,nC]
 refine wpList_load_mid rfl 25 (.tmp 8) rfl B 0 rfl (zh) _ (HB1.out.part [] _ _ HZb.out) rfl rfl (by rw [HZh.out]; kernel_rfl) ?_
 simp only [Act.put,nA,nB,nC]
 refine wpList_run (v := .bool false) (w' := w1) rfl (by unfold execOp; simp only [Act.eval]; simp [HNe.out,HGd.out,Sem.run_bind,Result.andThen]) ?_
 simp only [Act.put,nA,nB,nC]
 generalize Value.agg zh.toArray = V7
 go_wp2_with fail
 go_loopg [5] 0 (fun gk v5 wr => gk = 0 ∧ v5 = .int .i64 0 ∧ w1 = wr)
 case atStart => exact ⟨rfl,rfl,rfl⟩
 case round =>
  obtain ⟨rfl,rfl,rfl⟩ := hrel
  go_wp2_with fail
  go_ret
  exact ⟨rfl,HF1.out⟩
end
end Go.Proofs.YtdllckiidegpcaaGreat
