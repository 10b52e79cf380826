/- A part of the walk of laws.FnPartial (part 11): contracts of functions that it comes to, and the plain laws that these lean on. Conditions stand in each contract. -/
import Derived.Deep.DeepCutAuto
import Derived.Test.YtdllckiidegpcaaGreatA07
set_option linter.unusedSimpArgs false
set_option linter.unusedVariables false
namespace Go.Proofs.YtdllckiidegpcaaGreat
open Go.RowKit
/-- A call returns a bool and leaves what was there alone. -/
def SomeBool (w : World) (e : Ending) (w' : World) : Prop := ∃ b,e = .returned (.bool b) ∧ Fr [] w w'
theorem fits5_c (w : World) (B : Nat) (hBw : B ≤ w.heap.size) (v : Value) (l : List (List Int)) (hv : ListB B 1 (BytE B) w v l) :
  Calls Tryz.prog 126 #[v] w (SomeBool w) := by
 obtain ⟨a,cap,rfl,hc1,hc2⟩ := hv.len
 have HV := hid hv; clear hv
 have Hc1 := hid hc1; clear hc1
 have hcl : l.length ≤ maxLen := Nat.le_trans Hc1.out hc2
 clear hc2
 unfold maxLen at hcl
 by_cases hbig : 2147483647 < l.length
 ·have hb' : (2147483647 : Int) < l.length := by omega
  go_enter Tryz.func126,Tryz.ntmps126
  go_wp2_with fail
  go_ret
  exact ⟨_,rfl,Fr.refl _ _⟩
 ·have hb' : (l.length : Int) ≤ 2147483647 := by omega
  clear hcl
  go_enter Tryz.func126,Tryz.ntmps126
  go_wp2_with fail
  go_loopg [10] (l.length) (fun gk v10 wr => ∃ i,gk = l.length - i ∧ i ≤ l.length ∧ v10 = .int .i64 (i : Int) ∧ w = wr)
  case atStart => exact ⟨0,rfl,Nat.zero_le _,rfl,rfl⟩
  case round =>
   obtain ⟨i,rfl,hi,rfl,rfl⟩ := hrel
   by_cases hlt : i < l.length
   ·have hlti : (i : Int) < l.length := by omega
    obtain ⟨b,off,cap',c,he,hb,hcs1,hrg,sv,hc,hsv⟩ := HV.out.at hlt (by decide)
    simp only [Value.slice.injEq] at he
    obtain ⟨rfl,_,rfl⟩ := he
    subst hc
    have hcell := hrg w (Below.refl _ _) 0 sv rfl
    rw [Nat.mul_one,Nat.add_zero] at hcell
    obtain ⟨a',c',rfl,_,_⟩ := hsv
    have Hrg := hid hrg; clear hrg
    by_cases h2 : (2147483647 : Int) < (l[i]).length
    ·go_wp2_with fail
     go_ret
     exact ⟨_,rfl,Fr.refl _ _⟩
    ·go_wp2_with fail
     go_roundg (l.length - (i + 1))
     case measure => omega
     case rel => exact ⟨i + 1,rfl,by omega,by simp,rfl⟩
   ·go_wp2_with fail
    go_ret
    exact ⟨_,rfl,Fr.refl _ _⟩
theorem TxIn.one {B : Nat} {w : World} {c : List Value} {x : TxIn} (h : TxInE B w c x) : ∀ u ∈ c,u.oneCell' = true := by
 obtain ⟨sv,wv,rfl,hsv,hwv⟩ := h
 intro u hu
 rcases List.mem_append.mp hu with h | h
 ·exact x.prev.one u h
 ·simp only [List.mem_cons,List.not_mem_nil,or_false] at h
  obtain ⟨_,_,h1,_⟩ := hsv
  obtain ⟨_,_,h2,_⟩ := hwv.len
  rcases h with rfl | rfl | rfl
  ·rw [h1]; rfl
  ·rw [h2]; rfl
  ·rfl
theorem TxOut.one {B : Nat} {w : World} {c : List Value} {x : TxOut} (h : TxOutE B w c x) : ∀ u ∈ c,u.oneCell' = true := by
 obtain ⟨sv,rfl,hsv⟩ := h
 intro u hu
 simp only [List.mem_cons,List.not_mem_nil,or_false] at hu
 obtain ⟨_,_,h1,_⟩ := hsv
 rcases hu with rfl | rfl
 ·rfl
 ·rw [h1]; rfl
theorem Tx.one {B : Nat} {w : World} {c : List Value} {x : Tx} (h : TxE B w c x) : ∀ u ∈ c,u.oneCell' = true := by
 obtain ⟨iv,ov,rfl,hi,ho⟩ := h
 intro u hu
 simp only [List.mem_cons,List.not_mem_nil,or_false] at hu
 obtain ⟨_,_,h1,_⟩ := hi.len
 obtain ⟨_,_,h2,_⟩ := ho.len
 rcases hu with rfl | rfl | rfl | rfl
 ·rfl
 ·rw [h1]; rfl
 ·rw [h2]; rfl
 ·rfl
set_option maxRecDepth 8000 in
theorem fits4_c (w : World) (B : Nat) (hBw : B ≤ w.heap.size) (c : List Value) (x : TxIn) (hp : x.prev.Ok) (hc : TxInE B w c x) :
  Calls Tryz.prog 100 #[.agg c.toArray] w (SomeBool w) := by
 obtain ⟨sv,wv,hc,hsv,hwv⟩ := hc
 obtain ⟨a',c',rfl,_,_⟩ := hsv
 have HW := hid hwv; clear hwv
 have Hc := hid hc; clear hc
 go_enter Tryz.func100,Tryz.ntmps100
 go_upto_region 1 with fail
 have HF1 : Hid (Fr [] w (w.alloc (.cells c.toArray 98))) := (Fr.refl _ _).alloc _
 have HB1 : Hid (Blk (w.alloc (.cells c.toArray 98)) w.heap.size 98 c) := Blk.new _ _ _
 generalize World.alloc w _ = w1 at HF1 HB1 ⊢
 have c1 : w1.cell? ⟨w.heap.size,33,none⟩ = some (.slice a' x.script.length c') := HB1.out.cell_at (by rw [Hc.out,List.getElem?_append_right (by rw [OutP.cells_length hp]; omega),OutP.cells_length hp]; rfl)
 have c2 : w1.cell? ⟨w.heap.size,34,none⟩ = some wv := HB1.out.cell_at (by rw [Hc.out,List.getElem?_append_right (by rw [OutP.cells_length hp]; omega),OutP.cells_length hp]; rfl)
 have hl := HB1.out.lt
 have HW1 : Hid (ListB B 1 (BytE B) w1 wv x.wit) := HW.out.below (HF1.out.below.mono hBw) (fun _ _ h => h.below (HF1.out.below.mono hBw))
 go_wp2_with ((refine (fits5_c w1 B (Nat.le_trans hBw HF1.out.size) wv x.wit HW1.out).mono ?_); rintro e w' ⟨b,rfl,hf⟩)
 all_goals
  go_ret
  first | exact ⟨_,rfl,HF1.out⟩ | exact ⟨_,rfl,HF1.out.trans hf⟩
set_option maxRecDepth 8000 in
theorem fits3_c (w : World) (B : Nat) (hBw : B ≤ w.heap.size) (v : Value) (l : List TxIn) (hp : ∀ x ∈ l,x.prev.Ok) (hv : ListB B 36 (TxInE B) w v l) :
  Calls Tryz.prog 66 #[v] w (SomeBool w) := by
 obtain ⟨a,cap,rfl,hc1,hc2⟩ := hv.len
 have HV := hid hv; clear hv
 have Hc1 := hid hc1; clear hc1
 have hcl : l.length ≤ maxLen := Nat.le_trans Hc1.out hc2
 clear hc2
 unfold maxLen at hcl
 by_cases hbig : 2147483647 < l.length
 ·have hb' : (2147483647 : Int) < l.length := by omega
  go_enter Tryz.func66,Tryz.ntmps66
  go_wp2_with fail
  go_ret
  exact ⟨_,rfl,Fr.refl _ _⟩
 ·have hb' : (l.length : Int) ≤ 2147483647 := by omega
  clear hcl
  go_enter Tryz.func66,Tryz.ntmps66
  go_wp2_with fail
  go_loopg [10] (l.length) (fun gk v10 wr => ∃ i,gk = l.length - i ∧ i ≤ l.length ∧ v10 = .int .i64 (i : Int) ∧ Fr [] w wr)
  case atStart => exact ⟨0,rfl,Nat.zero_le _,rfl,Fr.refl _ _⟩
  case round =>
   obtain ⟨i,rfl,hi,rfl,hf⟩ := hrel
   have HF := hid hf; clear hf
   by_cases hlt : i < l.length
   ·have hlti : (i : Int) < l.length := by omega
    obtain ⟨b,off,cap',c,he,hb,hcs1,hrg,hE⟩ := HV.out.at hlt (by decide)
    simp only [Value.slice.injEq] at he
    obtain ⟨rfl,_,rfl⟩ := he
    have Hrg := hid (hrg wr (HF.out.below.mono hBw)); clear hrg
    have HE := hid (hE.below (HF.out.below.mono hBw)); clear hE
    have Hcs := hid hcs1; clear hcs1
    have Hn := hid hb; clear hb
    go_upto_region 5 with fail
    refine wp_region_lit ?_
    obtain ⟨z,hz,hzl⟩ : ∃ z : List Value,Zero Tryz.prog 98 z ∧ z.length = 36 := ⟨_,fun w => rfl,rfl⟩
    refine wpList_elem rfl rfl rfl rfl 36 98 _ _ _ _ _ rfl rfl rfl rfl rfl rfl rfl rfl (by simp) (by simp) (by simp) (by decide) b off l.length cap i 36 .i64 rfl rfl hlt (by kernel_rfl) (by kernel_rfl) c z _ Hrg.out Hcs.out rfl rfl hz hzl (TxIn.one HE.out) ?_
    refine wpList_nil ?_
    simp only [Exit.then]
    simp only [Act.put,nA,nB,nC]
    clear hz hzl
    have HF2 : Hid (Fr [] w (wr.alloc (.cells c.toArray 98))) := HF.out.alloc _
    have HB2 : Hid (Blk (wr.alloc (.cells c.toArray 98)) wr.heap.size 98 c) := Blk.new _ _ _
    have HE2 : Hid (TxInE B (wr.alloc (.cells c.toArray 98)) c l[i]) := HE.out.below (((Below.refl B wr).alloc (Nat.le_trans hBw HF.out.size) _))
    generalize World.alloc wr _ = w2 at HF2 HB2 HE2 ⊢
    go_upto_region 6 with fail
    refine wp_region_lit ?_
    refine wpList_load_mid rfl 98 (.tmp 4) rfl wr.heap.size 0 rfl c _ HB2.out.range rfl rfl (by rw [Hcs.out]; kernel_rfl) ?_
    simp only [Act.put,nA,nB,nC]
    go_wp2_with fail
    refine (fits4_c w2 B (Nat.le_trans hBw HF2.out.size) c l[i] (hp _ (List.getElem_mem hlt)) HE2.out).mono ?_
    rintro e w3 ⟨bb,rfl,hf3⟩
    have HF3 : Hid (Fr [] w w3) := HF2.out.trans hf3
    clear hf3
    cases bb
    ·go_wp2_with fail
     go_ret
     exact ⟨_,rfl,HF3.out⟩
    ·go_wp2_with fail
     go_roundg (l.length - (i + 1))
     case measure => omega
     case rel => exact ⟨i + 1,rfl,by omega,by simp,HF3.out⟩
   ·go_wp2_with fail
    go_ret
    exact ⟨_,rfl,HF.out⟩
theorem fits7_c (w : World) (B : Nat) (c : List Value) (x : TxOut) (hc : TxOutE B w c x) :
  Calls Tryz.prog 101 #[.agg c.toArray] w (SomeBool w) := by
 obtain ⟨sv,rfl,hsv⟩ := hc
 obtain ⟨a',c',rfl,_,_⟩ := hsv
 go_enter Tryz.func101,Tryz.ntmps101
 go_wp2_with fail
 all_goals
  go_ret
  exact ⟨_,rfl,(Fr.refl _ _).alloc _⟩
set_option maxRecDepth 8000 in
theorem fits6_c (w : World) (B : Nat) (hBw : B ≤ w.heap.size) (v : Value) (l : List TxOut) (hv : ListB B 2 (TxOutE B) w v l) :
  Calls Tryz.prog 67 #[v] w (SomeBool w) := by
 obtain ⟨a,cap,rfl,hc1,hc2⟩ := hv.len
 have HV := hid hv; clear hv
 have Hc1 := hid hc1; clear hc1
 have hcl : l.length ≤ maxLen := Nat.le_trans Hc1.out hc2
 clear hc2
 unfold maxLen at hcl
 by_cases hbig : 2147483647 < l.length
 ·have hb' : (2147483647 : Int) < l.length := by omega
  go_enter Tryz.func67,Tryz.ntmps67
  go_wp2_with fail
  go_ret
  exact ⟨_,rfl,Fr.refl _ _⟩
 ·have hb' : (l.length : Int) ≤ 2147483647 := by omega
  clear hcl
  go_enter Tryz.func67,Tryz.ntmps67
  go_wp2_with fail
  go_loopg [10] (l.length) (fun gk v10 wr => ∃ i,gk = l.length - i ∧ i ≤ l.length ∧ v10 = .int .i64 (i : Int) ∧ Fr [] w wr)
  case atStart => exact ⟨0,rfl,Nat.zero_le _,rfl,Fr.refl _ _⟩
  case round =>
   obtain ⟨i,rfl,hi,rfl,hf⟩ := hrel
   have HF := hid hf; clear hf
   by_cases hlt : i < l.length
   ·have hlti : (i : Int) < l.length := by omega
    obtain ⟨b,off,cap',c,he,hb,hcs1,hrg,hE⟩ := HV.out.at hlt (by decide)
    simp only [Value.slice.injEq] at he
    obtain ⟨rfl,_,rfl⟩ := he
    have Hrg := hid (hrg wr (HF.out.below.mono hBw)); clear hrg
    have HE := hid (hE.below (HF.out.below.mono hBw)); clear hE
    have Hcs := hid hcs1; clear hcs1
    have Hn := hid hb; clear hb
    go_upto_region 5 with fail
    refine wp_region_lit ?_
    obtain ⟨z,hz,hzl⟩ : ∃ z : List Value,Zero Tryz.prog 65 z ∧ z.length = 2 := ⟨_,fun w => rfl,rfl⟩
    refine wpList_elem rfl rfl rfl rfl 37 65 _ _ _ _ _ rfl rfl rfl rfl rfl rfl rfl rfl (by simp) (by simp) (by simp) (by decide) b off l.length cap i 2 .i64 rfl rfl hlt (by kernel_rfl) (by kernel_rfl) c z _ Hrg.out Hcs.out rfl rfl hz hzl (TxOut.one HE.out) ?_
    refine wpList_nil ?_
    simp only [Exit.then]
    simp only [Act.put,nA,nB,nC]
    clear hz hzl
    have HF2 : Hid (Fr [] w (wr.alloc (.cells c.toArray 65))) := HF.out.alloc _
    have HB2 : Hid (Blk (wr.alloc (.cells c.toArray 65)) wr.heap.size 65 c) := Blk.new _ _ _
    have HE2 : Hid (TxOutE B (wr.alloc (.cells c.toArray 65)) c l[i]) := HE.out.below (((Below.refl B wr).alloc (Nat.le_trans hBw HF.out.size) _))
    generalize World.alloc wr _ = w2 at HF2 HB2 HE2 ⊢
    go_upto_region 6 with fail
    refine wp_region_lit ?_
    refine wpList_load_mid rfl 65 (.tmp 4) rfl wr.heap.size 0 rfl c _ HB2.out.range rfl rfl (by rw [Hcs.out]; kernel_rfl) ?_
    simp only [Act.put,nA,nB,nC]
    go_wp2_with fail
    refine (fits7_c w2 B c l[i] HE2.out).mono ?_
    rintro e w3 ⟨bb,rfl,hf3⟩
    have HF3 : Hid (Fr [] w w3) := HF2.out.trans hf3
    clear hf3
    cases bb
    ·go_wp2_with fail
     go_ret
     exact ⟨_,rfl,HF3.out⟩
    ·go_wp2_with fail
     go_roundg (l.length - (i + 1))
     case measure => omega
     case rel => exact ⟨i + 1,rfl,by omega,by simp,HF3.out⟩
   ·go_wp2_with fail
    go_ret
    exact ⟨_,rfl,HF.out⟩
set_option maxRecDepth 8000 in
theorem fits10_c (w : World) (B : Nat) (hBw : B ≤ w.heap.size) (c : List Value) (x : Tx) (hx : x.Ok) (hc : TxE B w c x) :
  Calls Tryz.prog 35 #[.agg c.toArray] w (SomeBool w) := by
 obtain ⟨iv,ov,rfl,hi,ho⟩ := hc
 have Hi := hid hi; clear hi
 have Ho := hid ho; clear ho
 have Hx := hid hx; clear hx
 go_enter Tryz.func35,Tryz.ntmps35
 go_upto_region 1 with fail
 have HF1 : Hid (Fr [] w (w.alloc (.cells [.int .i32 x.version,iv,ov,.int .u32 x.lock].toArray 39))) := (Fr.refl _ _).alloc _
 have HB1 : Hid (Blk (w.alloc (.cells [.int .i32 x.version,iv,ov,.int .u32 x.lock].toArray 39)) w.heap.size 39 [.int .i32 x.version,iv,ov,.int .u32 x.lock]) := Blk.new _ _ _
 change Code.wp _ _ _ _ (w.alloc (.cells [.int .i32 x.version,iv,ov,.int .u32 x.lock].toArray 39))
 generalize World.alloc w _ = w1 at HF1 HB1 ⊢
 have c1 : w1.cell? ⟨w.heap.size,1,none⟩ = some iv := HB1.out.cell_at rfl
 have hl := HB1.out.lt
 have HI1 : Hid (ListB B 36 (TxInE B) w1 iv x.ins) := Hi.out.below (HF1.out.below.mono hBw) (fun _ _ h => h.below (HF1.out.below.mono hBw))
 go_wp2_with fail
 refine (fits3_c w1 B (Nat.le_trans hBw HF1.out.size) iv x.ins (fun y hy => (Hx.out.ins y hy).prev) HI1.out).mono ?_
 rintro e w2 ⟨b,rfl,hf⟩
 have HF2 : Hid (Fr [] w w2) := HF1.out.trans hf
 have c2 : w2.cell? ⟨w.heap.size,2,none⟩ = some ov := (HB1.out.fr hf (by simp)).cell_at rfl
 have HO2 : Hid (ListB B 2 (TxOutE B) w2 ov x.outs) := Ho.out.below (HF2.out.below.mono hBw) (fun _ _ h => h.below (HF2.out.below.mono hBw))
 have hl2 := (HB1.out.fr hf (by simp)).lt
 clear hf
 cases b
 ·go_wp2_with fail
  go_ret
  exact ⟨_,rfl,HF2.out⟩
 ·go_wp2_with fail
  refine (fits6_c w2 B (Nat.le_trans hBw HF2.out.size) ov x.outs HO2.out).mono ?_
  rintro e w3 ⟨b,rfl,hf⟩
  have HF3 : Hid (Fr [] w w3) := HF2.out.trans hf
  clear hf
  cases b
  ·go_wp2_with fail
   go_ret
   exact ⟨_,rfl,HF3.out⟩
  ·go_wp2_with fail
   go_ret
   exact ⟨_,rfl,HF3.out⟩
set_option maxRecDepth 8000 in
theorem fits9_c (w : World) (B : Nat) (hBw : B ≤ w.heap.size) (v : Value) (l : List Tx) (hp : ∀ x ∈ l,x.Ok) (hv : ListB B 4 (TxE B) w v l) :
  Calls Tryz.prog 16 #[v] w (SomeBool w) := by
 obtain ⟨a,cap,rfl,hc1,hc2⟩ := hv.len
 have HV := hid hv; clear hv
 have Hc1 := hid hc1; clear hc1
 have hcl : l.length ≤ maxLen := Nat.le_trans Hc1.out hc2
 clear hc2
 unfold maxLen at hcl
 by_cases hbig : 2147483647 < l.length
 ·have hb' : (2147483647 : Int) < l.length := by omega
  go_enter Tryz.func16,Tryz.ntmps16
  go_wp2_with fail
  go_ret
  exact ⟨_,rfl,Fr.refl _ _⟩
 ·have hb' : (l.length : Int) ≤ 2147483647 := by omega
  clear hcl
  go_enter Tryz.func16,Tryz.ntmps16
  go_wp2_with fail
  go_loopg [10] (l.length) (fun gk v10 wr => ∃ i,gk = l.length - i ∧ i ≤ l.length ∧ v10 = .int .i64 (i : Int) ∧ Fr [] w wr)
  case atStart => exact ⟨0,rfl,Nat.zero_le _,rfl,Fr.refl _ _⟩
  case round =>
   obtain ⟨i,rfl,hi,rfl,hf⟩ := hrel
   have HF := hid hf; clear hf
   by_cases hlt : i < l.length
   ·have hlti : (i : Int) < l.length := by omega
    obtain ⟨b,off,cap',c,he,hb,hcs1,hrg,hE⟩ := HV.out.at hlt (by decide)
    simp only [Value.slice.injEq] at he
    obtain ⟨rfl,_,rfl⟩ := he
    have Hrg := hid (hrg wr (HF.out.below.mono hBw)); clear hrg
    have HE := hid (hE.below (HF.out.below.mono hBw)); clear hE
    have Hcs := hid hcs1; clear hcs1
    have Hn := hid hb; clear hb
    go_upto_region 5 with fail
    refine wp_region_lit ?_
    obtain ⟨z,hz,hzl⟩ : ∃ z : List Value,Zero Tryz.prog 39 z ∧ z.length = 4 := ⟨_,fun w => rfl,rfl⟩
    refine wpList_elem rfl rfl rfl rfl 26 39 _ _ _ _ _ rfl rfl rfl rfl rfl rfl rfl rfl (by simp) (by simp) (by simp) (by decide) b off l.length cap i 4 .i64 rfl rfl hlt (by kernel_rfl) (by kernel_rfl) c z _ Hrg.out Hcs.out rfl rfl hz hzl (Tx.one HE.out) ?_
    refine wpList_nil ?_
    simp only [Exit.then]
    simp only [Act.put,nA,nB,nC]
    clear hz hzl
    have HF2 : Hid (Fr [] w (wr.alloc (.cells c.toArray 39))) := HF.out.alloc _
    have HB2 : Hid (Blk (wr.alloc (.cells c.toArray 39)) wr.heap.size 39 c) := Blk.new _ _ _
    have HE2 : Hid (TxE B (wr.alloc (.cells c.toArray 39)) c l[i]) := HE.out.below (((Below.refl B wr).alloc (Nat.le_trans hBw HF.out.size) _))
    generalize World.alloc wr _ = w2 at HF2 HB2 HE2 ⊢
    go_upto_region 6 with fail
    refine wp_region_lit ?_
    refine wpList_load_mid rfl 39 (.tmp 4) rfl wr.heap.size 0 rfl c _ HB2.out.range rfl rfl (by rw [Hcs.out]; kernel_rfl) ?_
    simp only [Act.put,nA,nB,nC]
    go_wp2_with fail
    refine (fits10_c w2 B (Nat.le_trans hBw HF2.out.size) c l[i] (hp _ (List.getElem_mem hlt)) HE2.out).mono ?_
    rintro e w3 ⟨bb,rfl,hf3⟩
    have HF3 : Hid (Fr [] w w3) := HF2.out.trans hf3
    clear hf3
    cases bb
    ·go_wp2_with fail
     go_ret
     exact ⟨_,rfl,HF3.out⟩
    ·go_wp2_with fail
     go_roundg (l.length - (i + 1))
     case measure => omega
     case rel => exact ⟨i + 1,rfl,by omega,by simp,HF3.out⟩
   ·go_wp2_with fail
    go_ret
    exact ⟨_,rfl,HF.out⟩
set_option maxRecDepth 8000 in
theorem fits8_c (w : World) (B : Nat) (hBw : B ≤ w.heap.size) (c : List Value) (x : Blck) (hh : x.hdr.Ok) (hx : ∀ t ∈ x.txs,t.Ok) (hc : BlckE B w c x) :
  Calls Tryz.prog 4 #[.agg c.toArray] w (SomeBool w) := by
 obtain ⟨tv,hc,ht⟩ := hc
 have Ht := hid ht; clear ht
 have Hx := hid hx; clear hx
 have Hc := hid hc; clear hc
 go_enter Tryz.func4,Tryz.ntmps4
 go_upto_region 1 with fail
 have HF1 : Hid (Fr [] w (w.alloc (.cells c.toArray 28))) := (Fr.refl _ _).alloc _
 have HB1 : Hid (Blk (w.alloc (.cells c.toArray 28)) w.heap.size 28 c) := Blk.new _ _ _
 generalize World.alloc w _ = w1 at HF1 HB1 ⊢
 have c1 : w1.cell? ⟨w.heap.size,68,none⟩ = some tv := HB1.out.cell_at (by rw [Hc.out,List.getElem?_append_right (by rw [Hdr.cells_length hh]; omega),Hdr.cells_length hh]; rfl)
 have hl := HB1.out.lt
 have HI1 : Hid (ListB B 4 (TxE B) w1 tv x.txs) := Ht.out.below (HF1.out.below.mono hBw) (fun _ _ h => h.below (HF1.out.below.mono hBw))
 go_wp2_with fail
 refine (fits9_c w1 B (Nat.le_trans hBw HF1.out.size) tv x.txs Hx.out HI1.out).mono ?_
 rintro e w2 ⟨b,rfl,hf⟩
 have HF2 : Hid (Fr [] w w2) := HF1.out.trans hf
 clear hf
 cases b
 ·go_wp2_with fail
  go_ret
  exact ⟨_,rfl,HF2.out⟩
 ·go_wp2_with fail
  go_ret
  exact ⟨_,rfl,HF2.out⟩
/-- spec.Bloom, as cells: bytes, functions, tweak. -/
structure Blm where
 bytes : List Int
 funcs : Int
 tweak : Int
def BlmE (B : Nat) (w : World) (c : List Value) (f : Blm) : Prop := ∃ bv,c = [bv,.int .u32 f.funcs,.int .u32 f.tweak] ∧ BytesB B w bv f.bytes
structure Blm.Ok (f : Blm) : Prop where
 u8 : U8 f.bytes
 funcs : 0 ≤ f.funcs ∧ f.funcs < 4294967296
 tweak : 0 ≤ f.tweak ∧ f.tweak < 4294967296
theorem BlmE.below {B : Nat} {w w' : World} {c : List Value} {x : Blm} (h : BlmE B w c x) (hb : Below B w w') : BlmE B w' c x := by
 obtain ⟨sv,rfl,h1⟩ := h; exact ⟨sv,rfl,h1.below hb⟩
theorem fits14_c (w : World) (B : Nat) (c : List Value) (x : Blm) (hc : BlmE B w c x) :
  Calls Tryz.prog 5 #[.agg c.toArray] w (SomeBool w) := by
 obtain ⟨sv,rfl,hsv⟩ := hc
 obtain ⟨a',c',rfl,_,_⟩ := hsv
 go_enter Tryz.func5,Tryz.ntmps5
 go_wp2_with fail
 all_goals
  go_ret
  exact ⟨_,rfl,(Fr.refl _ _).alloc _⟩
end Go.Proofs.YtdllckiidegpcaaGreat
