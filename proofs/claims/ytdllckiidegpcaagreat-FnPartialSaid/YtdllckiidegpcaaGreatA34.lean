/- A part of the walk of laws.FnPartial (part 34): contracts of functions that it comes to, and the plain laws that these lean on. Conditions stand in each contract. -/
import Derived.Test.YtdllckiidegpcaaGreatA30
set_option linter.unusedSimpArgs false
set_option linter.unusedVariables false
set_option maxHeartbeats 4000000
namespace Go.Proofs.YtdllckiidegpcaaGreat
open Go.RowKit
section
set_option maxRecDepth 8000
/-- The node of the tree over some hashes at a height and a place. -/
def node (K : List Int) (hs : List (List Int)) : Nat → Nat → List Int
 | 0,p => hs[p]?.getD []
 | h + 1,p => H2 K (node K hs h (2 * p) ++ if 2 * p + 1 < wid hs.length h then node K hs h (2 * p + 1) else node K hs h (2 * p))
/-- The hashes of the leaves stand in the list. -/
def HsAt (w : World) (v : Value) (hs : List (List Int)) : Prop := ∃ b off cap,v = .slice (some ⟨b,off,none⟩) hs.length cap ∧ b < w.heap.size ∧ ∀ i (h : i < hs.length),∃ P,w.cell? ⟨b,off + i,none⟩ = some (.pointer (some ⟨P,0,none⟩)) ∧ Blk w P 81 (ic .u8 hs[i]) ∧ hs[i].length = 32
theorem HsAt.fr {w w' : World} {v : Value} {hs : List (List Int)} (h : HsAt w v hs) (hf : Fr [] w w') : HsAt w' v hs := by
 obtain ⟨b,off,cap,rfl,hb,hc⟩ := h
 refine ⟨b,off,cap,rfl,Nat.lt_of_lt_of_le hb hf.size,fun i hi => ?_⟩
 obtain ⟨P,h1,h2,h3⟩ := hc i hi
 exact ⟨P,by rw [hf.cells.1 _ _ hb (by simp)]; exact h1,h2.fr hf (by simp),h3⟩
theorem wid_step {n h p : Nat} (hp : p < wid n (h + 1)) : 2 * p < wid n h := by
 unfold wid at *
 have h1 : 0 < 2 ^ h := Nat.pos_of_ne_zero (by simp)
 have e : 2 ^ (h + 1) = 2 ^ h * 2 := Nat.pow_succ ..
 rw [e] at hp
 rw [Nat.lt_div_iff_mul_lt (by omega)] at hp
 rw [Nat.lt_div_iff_mul_lt h1]
 have : p * (2 ^ h * 2) = 2 * p * 2 ^ h := by rw [Nat.mul_comm (2 ^ h) 2,← Nat.mul_assoc,Nat.mul_comm p 2]
 omega
theorem wid_le {n h : Nat} : wid n h ≤ n := by
 unfold wid
 have h1 : 0 < 2 ^ h := Nat.pos_of_ne_zero (by simp)
 apply Nat.le_of_lt_succ
 rw [Nat.div_lt_iff_lt_mul h1]
 have : n + 2 ^ h ≤ n * 2 ^ h + 2 ^ h := by have := Nat.le_mul_of_pos_right n h1; omega
 rw [Nat.succ_mul]; omega
theorem node_len {K : List Int} {hs : List (List Int)} (hl : ∀ l ∈ hs,l.length = 32) : ∀ (h p : Nat),p < wid hs.length h → (node K hs h p).length = 32 := by
 intro h
 cases h with
 | zero =>
  intro p hp
  have : p < hs.length := by unfold wid at hp; simpa using hp
  simp only [node,List.getElem?_eq_getElem this,Option.getD_some]
  exact hl _ (List.getElem_mem this)
 | succ h => intro p hp; exact H2_length _ _
theorem width_c' (w : World) (g n h : Nat) (rest : List Value) (hB : Blk w g 108 (.int .u32 n :: rest)) (hn : n ≤ 64) (hh : h ≤ 7) (x : Int) (hx : x = h) :
  Calls Tryz.prog 40 #[.pointer (some ⟨g,0,none⟩),.int .u32 x] w fun e w' => e = .returned (.int .u32 (wid n h)) ∧ w = w' := by subst hx; exact width_c w g n h rest hB hn hh
theorem calc_c (K : List Int) (hK : K.length = 64) (g : Nat) (hs : List (List Int)) (hl : ∀ l ∈ hs,l.length = 32) (hn : hs.length ≤ 64) (ah fh mb bv : Value) : ∀ (h : Nat),h ≤ 7 → ∀ (p : Nat),p < wid hs.length h → ∀ (w : World),Blk w 1 379 (ic .u32 K) → Blk w g 108 [.int .u32 hs.length,ah,fh,mb,bv] → HsAt w ah hs →
  ∀ (x y : Int),x = h → y = p → Calls Tryz.prog 83 #[.pointer (some ⟨g,0,none⟩),.int .u32 x,.int .u32 y] w fun e w' => Fr [] w w' ∧ ∃ P,e = .returned (.pointer (some ⟨P,0,none⟩)) ∧ Blk w' P 81 (ic .u8 (node K hs h p)) := by
 intro h
 induction h with
 | zero =>
  intro _ p hp w hKc hg hH x y hx hy
  subst hx hy
  have hp' : p < hs.length := by unfold wid at hp; simpa using hp
  obtain ⟨b,off,cap,rfl,hb,hc⟩ := hH
  obtain ⟨P,h1,h2,h3⟩ := hc p hp'
  have c1 : w.cell? ⟨g,1,none⟩ = some (.slice (some ⟨b,off,none⟩) hs.length cap) := hg.cell_at rfl
  have hgl := hg.lt
  have hpi : (p : Int) < hs.length := by omega
  have hni : (hs.length : Int) ≤ 64 := by omega
  have H2' := hid h2
  have hnd : node K hs 0 p = hs[p] := by simp [node,List.getElem?_eq_getElem hp']
  have HN := hid hnd
  clear h2 hnd hKc hg hc h3 hp hl
  go_enter Tryz.func83,Tryz.ntmps83
  go_wp2_with fail
  go_ret
  exact ⟨Fr.refl _ _,P,rfl,by rw [HN.out]; exact H2'.out⟩
 | succ h ih =>
  intro hh p hp w hKc hg hH x y hx hy
  have hp2 := wid_step hp
  have hpn := wid_le (n := hs.length) (h := h)
  have HI := hid ih; clear ih
  have HK := hid hKc; clear hKc
  have HG := hid hg; clear hg
  have HH := hid hH; clear hH
  have Hp2 := hid hp2
  have hpi : y ≤ 32 := by omega
  have hpi0 : 0 ≤ y := by omega
  have hxi : x ≤ 7 := by omega
  have hx1 : 1 ≤ x := by omega
  have hx0 : (x == 0) = false := by simp; omega
  have HX := hid hx
  have HY := hid hy
  have Hhh := hid hh
  have Hpn := hid hpn
  clear hx hy hp hp2 hh hpn
  go_enter Tryz.func83,Tryz.ntmps83
  go_wp2_with fail
  refine (HI.out (by have := Hhh.out; omega) (2 * p) Hp2.out w HK.out HG.out HH.out _ _ (by have := HX.out; omega) (by have := HY.out; omega)).mono ?_
  rintro e w1 ⟨hf,P1,rfl,hP1⟩
  have HF1 := hid hf
  have HP1 := hid hP1
  have HG1 : Hid (Blk w1 g 108 [.int .u32 hs.length,ah,fh,mb,bv]) := HG.out.fr hf (by simp)
  clear hf hP1
  go_wp2_with fail
  refine (width_c' w1 g hs.length h _ HG1.out hn (by have := Hhh.out; omega) (x - 1) (by have := HX.out; omega)).mono ?_
  rintro e w' ⟨rfl,rfl⟩
  by_cases hr : 2 * p + 1 < wid hs.length h
  ·have hri : y * 2 + 1 < (wid hs.length h : Int) := by have := HY.out; omega
   have Hr := hid hr
   clear hr
   go_wp2_with fail
   refine (HI.out (by have := Hhh.out; omega) (2 * p + 1) Hr.out w1 (HK.out.fr HF1.out (by simp)) HG1.out (HH.out.fr HF1.out) _ _ (by have := HX.out; omega) (by have := HY.out; omega)).mono ?_
   rintro e w2 ⟨hf,P2,rfl,hP2⟩
   have HF2 : Hid (Fr [] w w2) := HF1.out.trans hf
   have HF12 := hid hf
   have HP2 := hid hP2
   clear hf hP2 hri
   go_wp2_with fail
   refine (branch_c K hK w2 (HK.out.fr HF2.out (by simp)) P1 P2 (node K hs h (2 * p)) (node K hs h (2 * p + 1)) (HP1.out.fr HF12.out (by simp)) HP2.out (node_len hl _ _ Hp2.out) (node_len hl _ _ Hr.out)).mono ?_
   rintro e w5 ⟨rfl,hf⟩
   have HF5 : Hid (Fr [] w w5) := HF2.out.trans hf
   clear hf
   simp only []
   refine (‹∀ (a : Act) (w : World),wpList Tryz.prog _ _ _ a w → _›) _ _ ?_
   obtain ⟨q,hq⟩ : ∃ q,q = H2 K (node K hs h (2 * p) ++ (node K hs h (2 * p + 1))) := ⟨_,rfl⟩
   rw [← hq]
   have HN : Hid (node K hs (h + 1) p = q) := by show _ = _; rw [node,if_pos Hr.out,hq]
   have hql : q.length = 32 := by rw [hq]; exact H2_length _ _
   have Hql := hid hql
   clear hq hql
   refine wpList_new rfl rfl 81 (.tmp 43) 9 rfl rfl rfl rfl (by simp [Act.put]) (ic .u8 q) (ic .u8 (List.replicate 32 0)) (fun _ => rfl) (by rw [ic_length,Hql.out]; kernel_rfl) (fun _ => rfl) (by rw [ic_length,ic_length,Hql.out]; simp) (ic_one _ _) ?_
   simp only [Act.put,nA,nB,nC]
   have HF6 : Hid (Fr [] w (w5.alloc (.cells (ic .u8 q).toArray 81))) := HF5.out.alloc _
   have HQ6 : Hid (Blk (w5.alloc (.cells (ic .u8 q).toArray 81)) w5.heap.size 81 (ic .u8 q)) := Blk.new _ _ _
   generalize World.alloc w5 _ = w6 at HF6 HQ6 ⊢
   generalize w5.heap.size = gq at HQ6 ⊢
   generalize arr q = V43
   refine wpList_nil ?_
   simp only [Exit.then]
   go_wp2_with fail
   go_ret
   exact ⟨HF6.out,gq,rfl,by rw [HN.out]; exact HQ6.out⟩
  ·have hri : ¬ (y * 2 + 1 < (wid hs.length h : Int)) := by have := HY.out; omega
   have Hr := hid hr
   clear hr
   go_wp2_with fail
   refine (branch_c K hK w1 (HK.out.fr HF1.out (by simp)) P1 P1 (node K hs h (2 * p)) (node K hs h (2 * p)) (HP1.out.fr (Fr.refl [] _) (by simp)) HP1.out (node_len hl _ _ Hp2.out) (node_len hl _ _ Hp2.out)).mono ?_
   rintro e w5 ⟨rfl,hf⟩
   have HF5 : Hid (Fr [] w w5) := HF1.out.trans hf
   clear hf
   simp only []
   refine (‹∀ (a : Act) (w : World),wpList Tryz.prog _ _ _ a w → _›) _ _ ?_
   obtain ⟨q,hq⟩ : ∃ q,q = H2 K (node K hs h (2 * p) ++ (node K hs h (2 * p))) := ⟨_,rfl⟩
   rw [← hq]
   have HN : Hid (node K hs (h + 1) p = q) := by show _ = _; rw [node,if_neg Hr.out,hq]
   have hql : q.length = 32 := by rw [hq]; exact H2_length _ _
   have Hql := hid hql
   clear hq hql
   refine wpList_new rfl rfl 81 (.tmp 43) 9 rfl rfl rfl rfl (by simp [Act.put]) (ic .u8 q) (ic .u8 (List.replicate 32 0)) (fun _ => rfl) (by rw [ic_length,Hql.out]; kernel_rfl) (fun _ => rfl) (by rw [ic_length,ic_length,Hql.out]; simp) (ic_one _ _) ?_
   simp only [Act.put,nA,nB,nC]
   have HF6 : Hid (Fr [] w (w5.alloc (.cells (ic .u8 q).toArray 81))) := HF5.out.alloc _
   have HQ6 : Hid (Blk (w5.alloc (.cells (ic .u8 q).toArray 81)) w5.heap.size 81 (ic .u8 q)) := Blk.new _ _ _
   generalize World.alloc w5 _ = w6 at HF6 HQ6 ⊢
   generalize w5.heap.size = gq at HQ6 ⊢
   generalize arr q = V43
   refine wpList_nil ?_
   simp only [Exit.then]
   go_wp2_with fail
   go_ret
   exact ⟨HF6.out,gq,rfl,by rw [HN.out]; exact HQ6.out⟩
end
section
set_option maxRecDepth 8000
theorem sameBytes_t (w : World) (v u : Value) (s : List Int) (hv : Ints .u8 w v s) (hu : Ints .u8 w u s) (hs : s.length ≤ 1000000) : Calls Tryz.prog 29 #[v,u] w fun e w' => e = .returned (.bool true) ∧ Fr [] w w' := by
 obtain ⟨a,ca,rfl,hq1,hq2,hca⟩ := ints_cases hv
 obtain ⟨b,cb,rfl,hq3,hq4,hcb⟩ := ints_cases hu
 clear hq1 hq2 hq3 hq4 hv hu
 have hs6 : (s.length : Int) ≤ 1000000 := by omega
 have HCA := hid hca; clear hca
 have HCB := hid hcb; clear hcb
 go_enter Tryz.func29,Tryz.ntmps29
 go_wp2_with fail
 go_loopg [5] (s.length) (fun gk v5 wr => ∃ i,gk = s.length - i ∧ i ≤ s.length ∧ v5 = .int .i64 (i : Int) ∧ Fr [] w wr)
 case atStart => exact ⟨0,rfl,Nat.zero_le _,rfl,Fr.refl _ _⟩
 case round =>
  obtain ⟨i,rfl,hi,rfl,hf⟩ := hrel
  have HF := hid hf; clear hf
  by_cases hlt : i < s.length
  ·have hlti : (i : Int) < s.length := by omega
   rcases HCA.out with ⟨_,_,he⟩ | ⟨a,oa,rfl,ha,hca⟩
   ·exfalso; rw [he] at hlt; simp at hlt
   rcases HCB.out with ⟨_,_,he⟩ | ⟨b,ob,rfl,hb,hcb⟩
   ·exfalso; rw [he] at hlt; simp at hlt
   have e1 : wr.cell? ⟨a,oa + i,none⟩ = some (.int .u8 (nth s i)) := by rw [HF.out.cells.1 _ _ ha (by simp)]; exact hca i hlt
   have e2 : wr.cell? ⟨b,ob + i,none⟩ = some (.int .u8 (nth s i)) := by rw [HF.out.cells.1 _ _ hb (by simp)]; exact hcb i hlt
   have hal : a < wr.heap.size := Nat.lt_of_lt_of_le ha HF.out.size
   have hbl : b < wr.heap.size := Nat.lt_of_lt_of_le hb HF.out.size
   clear hca hcb ha hb
   obtain ⟨y,hy⟩ : ∃ y,y = nth s i := ⟨_,rfl⟩
   rw [← hy] at e1 e2
   clear hy
   go_upto_region 6 with fail
   go_quiet (fail)
   clear e1 e2 hal hbl
   go_wp2_with fail
   go_roundg (s.length - (i + 1))
   case measure => omega
   case rel => exact ⟨i + 1,rfl,by omega,by simp,HF.out.drewN _⟩
  ·go_wp2_with fail
   go_ret
   exact ⟨rfl,HF.out⟩
theorem sameInts_t (w : World) (v u : Value) (s : List Int) (hv : Ints .i64 w v s) (hu : Ints .i64 w u s) (hs : s.length ≤ 1000000) : Calls Tryz.prog 13 #[v,u] w fun e w' => e = .returned (.bool true) ∧ Fr [] w w' := by
 obtain ⟨a,ca,rfl,hq1,hq2,hca⟩ := ints_cases hv
 obtain ⟨b,cb,rfl,hq3,hq4,hcb⟩ := ints_cases hu
 clear hq1 hq2 hq3 hq4 hv hu
 have hs6 : (s.length : Int) ≤ 1000000 := by omega
 have HCA := hid hca; clear hca
 have HCB := hid hcb; clear hcb
 go_enter Tryz.func13,Tryz.ntmps13
 go_wp2_with fail
 go_loopg [5] (s.length) (fun gk v5 wr => ∃ i,gk = s.length - i ∧ i ≤ s.length ∧ v5 = .int .i64 (i : Int) ∧ Fr [] w wr)
 case atStart => exact ⟨0,rfl,Nat.zero_le _,rfl,Fr.refl _ _⟩
 case round =>
  obtain ⟨i,rfl,hi,rfl,hf⟩ := hrel
  have HF := hid hf; clear hf
  by_cases hlt : i < s.length
  ·have hlti : (i : Int) < s.length := by omega
   rcases HCA.out with ⟨_,_,he⟩ | ⟨a,oa,rfl,ha,hca⟩
   ·exfalso; rw [he] at hlt; simp at hlt
   rcases HCB.out with ⟨_,_,he⟩ | ⟨b,ob,rfl,hb,hcb⟩
   ·exfalso; rw [he] at hlt; simp at hlt
   have e1 : wr.cell? ⟨a,oa + i,none⟩ = some (.int .i64 (nth s i)) := by rw [HF.out.cells.1 _ _ ha (by simp)]; exact hca i hlt
   have e2 : wr.cell? ⟨b,ob + i,none⟩ = some (.int .i64 (nth s i)) := by rw [HF.out.cells.1 _ _ hb (by simp)]; exact hcb i hlt
   have hal : a < wr.heap.size := Nat.lt_of_lt_of_le ha HF.out.size
   have hbl : b < wr.heap.size := Nat.lt_of_lt_of_le hb HF.out.size
   clear hca hcb ha hb
   obtain ⟨y,hy⟩ : ∃ y,y = nth s i := ⟨_,rfl⟩
   rw [← hy] at e1 e2
   clear hy
   go_upto_region 6 with fail
   go_quiet (fail)
   clear e1 e2 hal hbl
   go_wp2_with fail
   go_roundg (s.length - (i + 1))
   case measure => omega
   case rel => exact ⟨i + 1,rfl,by omega,by simp,HF.out.drewN _⟩
  ·go_wp2_with fail
   go_ret
   exact ⟨rfl,HF.out⟩
end
end Go.Proofs.YtdllckiidegpcaaGreat
