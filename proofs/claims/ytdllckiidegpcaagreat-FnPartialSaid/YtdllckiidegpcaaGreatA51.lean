/- A part of the walk of laws.FnPartial (part 51): contracts of functions that it comes to, and the plain laws that these lean on. Conditions stand in each contract. -/
import Derived.Test.YtdllckiidegpcaaGreatA48
set_option linter.unusedSimpArgs false
set_option linter.unusedVariables false
set_option maxHeartbeats 4000000
namespace Go.Proofs.YtdllckiidegpcaaGreat
open Go.RowKit
theorem wid_half_all : ∀ n < 65,∀ h < 7,wid n (h + 1) = (wid n h + 1) / 2 := by decide
theorem wid_half {n h : Nat} (hn : n ≤ 64) (hh : h ≤ 6) : wid n (h + 1) = (wid n h + 1) / 2 := wid_half_all n (by omega) h (by omega)
theorem wid_zero (n : Nat) : wid n 0 = n := by simp [wid]
/-- The nodes at a height. -/
def level (K : List Int) (hs : List (List Int)) (h : Nat) : List (List Int) := (List.range (wid hs.length h)).map (node K hs h)
theorem level_length (K : List Int) (hs : List (List Int)) (h : Nat) : (level K hs h).length = wid hs.length h := by simp [level]
theorem level_zero (K : List Int) (hs : List (List Int)) : level K hs 0 = hs := by
 apply List.ext_getElem
 ·rw [level_length,wid_zero]
 ·intro i h1 h2
  simp [level,node,List.getElem?_eq_getElem h2]
theorem level_get {K : List Int} {hs : List (List Int)} {h p : Nat} (hp : p < wid hs.length h) : (level K hs h)[p]? = some (node K hs h p) := by
 simp [level,List.getElem?_map,hp]
/-- A level, of even length: the last one twice where it is odd. -/
def evened (l : List (List Int)) : List (List Int) := if l.length % 2 = 1 then l ++ [l.getLastD []] else l
def pairs (K : List Int) (M : List (List Int)) (j : Nat) : List (List Int) := (List.range j).map fun p => H2 K (M.getD (2 * p) [] ++ M.getD (2 * p + 1) [])
theorem pairs_succ (K : List Int) (M : List (List Int)) (j : Nat) : pairs K M (j + 1) = pairs K M j ++ [H2 K (M.getD (2 * j) [] ++ M.getD (2 * j + 1) [])] := by
 simp [pairs,List.range_succ]
theorem pairs_length (K : List Int) (M : List (List Int)) (j : Nat) : (pairs K M j).length = j := by simp [pairs]
theorem evened_length (l : List (List Int)) : (evened l).length = 2 * ((l.length + 1) / 2) := by
 unfold evened; split
 ·rw [List.length_append,List.length_singleton]; omega
 ·omega
theorem evened_level (K : List Int) (hs : List (List Int)) (h : Nat) (hn : hs.length ≤ 64) (hh : h ≤ 6) : pairs K (evened (level K hs h)) (wid hs.length (h + 1)) = level K hs (h + 1) := by
 unfold pairs
 conv => rhs; unfold level
 apply List.map_congr_left
 intro p hp
 rw [List.mem_range,wid_half hn hh] at hp
 have h0 : 2 * p < wid hs.length h := by omega
 have e0 : (evened (level K hs h)).getD (2 * p) [] = node K hs h (2 * p) := by
  unfold evened
  split
  ·rw [List.getD_eq_getElem?_getD,List.getElem?_append_left (by rw [level_length]; omega),level_get h0]; rfl
  ·rw [List.getD_eq_getElem?_getD,level_get h0]; rfl
 rw [e0,node]
 congr 2
 by_cases h1 : 2 * p + 1 < wid hs.length h
 ·rw [if_pos h1]
  unfold evened
  split
  ·rw [List.getD_eq_getElem?_getD,List.getElem?_append_left (by rw [level_length]; omega),level_get h1]; rfl
  ·rw [List.getD_eq_getElem?_getD,level_get h1]; rfl
 ·rw [if_neg h1]
  have hl : wid hs.length h = 2 * p + 1 := by omega
  unfold evened
  rw [if_pos (by rw [level_length]; omega),List.getD_eq_getElem?_getD,List.getElem?_append_right (by rw [level_length]; omega),level_length,hl,Nat.sub_self]
  simp only [List.getElem?_cons_zero,Option.getD_some]
  rw [List.getLastD_eq_getLast?,List.getLast?_eq_getElem?,level_length,hl]
  simp only [Nat.add_sub_cancel]
  rw [level_get h0]; rfl
theorem level_32 {K : List Int} {hs : List (List Int)} (hl : ∀ l ∈ hs,l.length = 32) (h : Nat) : ∀ x ∈ level K hs h,x.length = 32 := by
 intro x hx
 obtain ⟨p,hp,rfl⟩ := List.mem_map.mp hx
 exact node_len hl _ _ (List.mem_range.mp hp)
theorem evened_32 {l : List (List Int)} (hl : ∀ x ∈ l,x.length = 32) : ∀ x ∈ evened l,x.length = 32 := by
 intro x hx
 unfold evened at hx
 split at hx
 ·rename_i h
  rcases List.mem_append.mp hx with h1 | h1
  ·exact hl x h1
  ·rw [List.mem_singleton] at h1
   subst h1
   have hne : l ≠ [] := by rintro rfl; simp at h
   rw [List.getLastD_eq_getLast?,List.getLast?_eq_some_getLast hne]
   exact hl _ (List.getLast_mem hne)
 ·exact hl x hx
theorem Grows.empty32 (w : World) : Grows w.heap.size 22 32 HashE (w.alloc (.cells #[] 22)) (.slice (some ⟨w.heap.size,0,none⟩) 0 0) [] := ⟨[],rfl,by simp,owns_empty w 22 32,by simp⟩
/-- append(s, x...), hashes. -/
theorem wpList_hashAll {w : World} {ops : Array Oper} {rest : List Oper} {o : Oper} {a : Act} {Q : Exit → Act → World → Prop} (hgd : o.guard = none) (s x : Operand)
  (ho : o.op = .call { callee := .builtin .append,args := #[s,x],argTypes := #[42,42] }) (W : World) (v xv : Value) (l m : List (List Int)) (hs : a.eval s = v) (hx : a.eval x = xv)
  (hown : Grows W.heap.size 22 32 HashE w v l) (hf : Fr [] W w) (hm : ListB w.heap.size 32 HashE w xv m) (hbytes : l.length + m.length ≤ 1000000)
  (h : ∀ v' w',Hid (Grows W.heap.size 22 32 HashE w' v' (l ++ m)) → Hid (Fr [] W w') → Hid (Fr (own1 v) w w') → wpList Tryz.prog ops Q rest (a.put o.dst v') w') : wpList Tryz.prog ops Q (o :: rest) a w := by
 obtain ⟨cs,k1,k2,k3,k4⟩ := hown
 obtain ⟨ds,d1,d2,⟨ao,cap,rfl,e1,e2,e3⟩,d4⟩ := hm
 have hone : ∀ u ∈ ds.flatten,u.oneCell' = true := by
  intro u hu
  obtain ⟨c,hc,hu⟩ := List.mem_flatten.mp hu
  obtain ⟨i,hi,rfl⟩ := List.mem_iff_getElem.mp hc
  have hE : ds[i] = ic .u8 (m[i]'(by omega)) := d4 i hi (by omega)
  rw [hE] at hu
  exact ic_one _ _ u hu
 refine wpList_app hgd s x 42 ho 22 32 32 elem42 W.heap.size v l.length cs.flatten hs k3 ao m.length cap ds.flatten hx (by rw [flat_length ds d2,d1]) ?_ ?_ hone (by omega) hf.size (own1 v) w (Fr.refl _ _) (fun k hk => .inl (by unfold own1; rw [hk]; simp)) ?_
 ·intro hn
  rcases e3 with ⟨_,h2,h3⟩ | ⟨b,off,h2,_⟩
  ·have h4 := flat_length ds d2
   rw [h3,List.length_nil] at h4
   exact ⟨by omega,h2⟩
  ·rw [hn] at h2; cases h2
 ·intro ad had j u hj
  rcases e3 with ⟨_,_,h1⟩ | ⟨b,off,h2,_,h4⟩
  ·rw [h1] at hj; simp at hj
  ·rw [had] at h2
   cases h2
   obtain ⟨hj1,rfl⟩ := List.getElem?_eq_some_iff.mp hj
   rw [Addr.add_mid]
   exact h4 j hj1
 ·intro v' w' ho' hf'
  refine h v' w' ⟨cs ++ ds,by simp [k1,d1], ?_,by simpa using ho'.out, ?_⟩ (hf.andThen hf'.out (fun k hk => .inr (k3.lt k (own1_mem hk)).1)) hf'
  ·intro d hd
   rcases List.mem_append.mp hd with h | h
   ·exact k2 d h
   ·exact d2 d h
  ·intro i hi hi'
   by_cases hic : i < cs.length
   ·rw [List.getElem_append_left hic,List.getElem_append_left (by omega)]
    exact k4 i hic (by omega)
   ·rw [List.getElem_append_right (by omega),List.getElem_append_right (by omega)]
    have := d4 (i - cs.length) (by simp at hi; omega) (by simp at hi; omega)
    have e : i - cs.length = i - l.length := by omega
    simp only [← e]
    exact this
theorem Grows.base {α : Type} {base base' : Nat} {T : TypeId} {size : Nat} {E : World → List Value → α → Prop} {w : World} {v : Value} {l : List α} (h : Grows base T size E w v l) (hb : base' ≤ base) : Grows base' T size E w v l := by
 obtain ⟨cs,h1,h2,⟨h3,h4⟩,h5⟩ := h
 refine ⟨cs,h1,h2,⟨h3, ?_⟩,h5⟩
 rcases h4 with h4 | ⟨g,cap,cur,e1,e2,e3⟩
 ·exact .inl h4
 ·exact .inr ⟨g,cap,cur,e1,Nat.le_trans hb e2,e3⟩
theorem blk_beside {base T : Nat} {size : Nat} {α : Type} {E : World → List Value → α → Prop} {w0 w w' : World} {v : Value} {l : List α} {N T' : Nat} {c : List Value} (h : Grows base T size E w0 v l) (hN : N < base ∨ w0.heap.size ≤ N) (hB : Blk w N T' c) (hf : Fr (own1 v) w w') : Blk w' N T' c :=
 hB.fr hf (fun hm => by have := h.own N (own1_mem hm); omega)
section
set_option maxRecDepth 8000
set_option maxHeartbeats 4000000 in
theorem root_c (K : List Int) (hK : K.length = 64) (w : World) (hKc : Blk w 1 379 (ic .u32 K)) (hs : List (List Int)) (hl : ∀ l ∈ hs,l.length = 32) (h1 : 1 ≤ hs.length) (hn : hs.length ≤ 64) (v : Value) (hv : ListB w.heap.size 32 HashE w v hs) :
  Calls Tryz.prog 34 #[HFn,v] w fun e w' => e = .returned (arr (node K hs (hgt hs.length) 0)) ∧ Fr [] w w' := by
 obtain ⟨av,cv,hvs,hq1,hq2⟩ := hv.len
 subst hvs
 clear hq1 hq2
 obtain ⟨q,hq⟩ : ∃ q,q = node K hs (hgt hs.length) 0 := ⟨_,rfl⟩
 have hwid : 0 < wid hs.length (hgt hs.length) := by
  unfold wid
  exact Nat.div_pos (by omega) (Nat.two_pow_pos _)
 have Hql : Hid (q.length = 32) := by rw [hq]; exact node_len hl _ _ hwid
 obtain ⟨z,hz⟩ : ∃ z : List Int,z = List.replicate 32 0 := ⟨_,rfl⟩
 have HZl : Hid (z.length = 32) := by rw [hz]; exact List.length_replicate
 have hgl := hgt_le hs.length
 have hw1 : wid hs.length (hgt hs.length) ≤ 1 := by
  have := wid_hgt (n := hs.length) (h := hgt hs.length) hn hgl
  omega
 have Hw1 : Hid (wid hs.length (hgt hs.length) = 1) := by show _ = _; omega
 have Hst : Hid (∀ h,h ≤ 6 → (1 < wid hs.length h ↔ h < hgt hs.length)) := fun h hh => wid_hgt hn hh
 clear hw1
 rw [← hq]
 have HhKc := hid hKc; clear hKc
 have Hh1 := hid h1; clear h1
 have Hhv := hid hv; clear hv
 have Hhq := hid hq; clear hq
 have Hhwid := hid hwid; clear hwid
 have Hhgl := hid hgl; clear hgl
 go_enter Tryz.func34,Tryz.ntmps34
 go_wp2_with fail
 have HF1 : Hid (Fr [] w (w.alloc (.cells (ic .u8 z).toArray 22))) := (Fr.refl _ _).alloc _
 have HR1 : Hid (Blk (w.alloc (.cells (ic .u8 z).toArray 22)) w.heap.size 22 (ic .u8 z)) := Blk.new _ _ _
 change Code.wp _ _ _ _ (w.alloc (.cells (ic .u8 (List.replicate 32 0)).toArray 22))
 rw [← hz]
 have HV1 : Hid (ListB (w.alloc (.cells (ic .u8 z).toArray 22)).heap.size 32 HashE (w.alloc (.cells (ic .u8 z).toArray 22)) (.slice av hs.length cv) hs) := (Hhv.out.below HF1.out.below (fun _ _ h => h)).mono HF1.out.size (fun _ _ h => h)
 generalize World.alloc w _ = w1 at HF1 HR1 HV1 ⊢
 clear hz
 obtain ⟨R,hR⟩ : ∃ R,R = w.heap.size := ⟨_,rfl⟩
 rw [← hR] at HR1 ⊢
 have HRw : Hid (w.heap.size ≤ R) := by show _ ≤ _; omega
 clear hR
 have HKc1 := hid (HhKc.out.fr HF1.out (by simp))
 go_loopg [1] (hgt hs.length) (fun gk v1 wr => ∃ h,gk = hgt hs.length - h ∧ h ≤ hgt hs.length ∧ ListB wr.heap.size 32 HashE wr v1 (level K hs h) ∧ Fr [] w1 wr)
 case atStart => exact ⟨0,rfl,Nat.zero_le _,by rw [level_zero]; exact HV1.out,Fr.refl _ _⟩
 case round =>
  obtain ⟨h,rfl,hh,hg,hf⟩ := hrel
  have HFr := hid hf
  have HG := hid hg
  have Hh6 : Hid (h ≤ 6) := Nat.le_trans hh Hhgl.out
  obtain ⟨L,hL⟩ : ∃ L,L = level K hs h := ⟨_,rfl⟩
  have HLn : Hid (L.length = wid hs.length h) := by rw [hL]; exact level_length _ _ _
  have HL32 : Hid (∀ x ∈ L,x.length = 32) := by rw [hL]; exact level_32 hl h
  have HPr : Hid (pairs K (evened L) (wid hs.length (h + 1)) = level K hs (h + 1)) := by rw [hL]; exact evened_level K hs h hn Hh6.out
  have HL0 : Hid (∀ hp : h = hgt hs.length,L[0]? = some q) := by intro hp; rw [hL,level_get (by rw [hp]; exact Hhwid.out),hp,Hhq.out]
  have HWs : Hid (wid hs.length (h + 1) = (wid hs.length h + 1) / 2) := wid_half hn Hh6.out
  rw [← hL] at HG
  have hLn : (L.length : Int) ≤ 64 := by have := wid_le (n := hs.length) (h := h); have := HLn.out; omega
  obtain ⟨a1,c1,rfl,hq1,hq2⟩ := HG.out.len
  have HLq := hid hL
  clear hg hf hq1 hq2 hL
  by_cases hlt : h < hgt hs.length
  ·have hn2 : 1 < (L.length : Int) := by have := (Hst.out h Hh6.out).mpr hlt; have := HLn.out; omega
   have Hlt := hid hlt
   by_cases hodd : (L.length : Int) % 2 = 1
   have ho : (0 : Int) < (L.length : Int) % 2 := by omega
   have hLp : L.length - 1 < L.length := by omega
   obtain ⟨b,off,cap,he,hb,hrg⟩ := hash_at HG.out hLp
   simp only [Value.slice.injEq] at he
   obtain ⟨rfl,_,rfl⟩ := he
   obtain ⟨x,hx⟩ : ∃ x,x = L[L.length - 1] := ⟨_,rfl⟩
   rw [← hx] at hrg
   have Hx : Hid (x.length = 32) := by rw [hx]; exact HL32.out _ (List.getElem_mem _)
   have HRg := hid hrg
   have HEv : Hid (evened L = L ++ [x]) := by
    show _ = _
    unfold evened
    rw [if_pos (by omega),hx,List.getLastD_eq_getLast?,List.getLast?_eq_getElem?,List.getElem?_eq_getElem hLp]; rfl
   have HLs : Hid (∀ w',Fr [] wr w' → ListB w'.heap.size 32 HashE w' (.slice (some ⟨b,off,none⟩) L.length c1) L) := fun w' hf => (HG.out.below hf.below (fun _ _ h => h)).mono hf.size (fun _ _ h => h)
   have Hlp := hid hLp
   clear hrg hx hb hLp
   go_upto_region 3 with fail
   clear hodd ho
   refine seg_begin (fun w' => Fr [] wr w') (by kernel_rfl) ?_
   refine seg_quiet (fuel := 5) (by kernel_rfl) (fun d _ _ _ _ h => by cases d <;> exact h) ((Fr.refl _ _).drew) [1,3,4,5,6,7,8] _ _ (by kernel_rfl) ?_
   simp only [pickL,nthO]
   refine wpQuiet_rfl (.slice (some ⟨b,off,none⟩) L.length c1) rfl (fun _ => rfl) ?_
   simp only [Act.put,nA,nB,nC]
   refine wpQuiet_rfl (.slice (some ⟨b,off,none⟩) L.length c1) rfl (fun _ => rfl) ?_
   simp only [Act.put,nA,nB,nC]
   refine wpQuiet_rfl (.slice (some ⟨b,off,none⟩) L.length c1) rfl (fun _ => rfl) ?_
   simp only [Act.put,nA,nB,nC]
   iterate 1 go_big_quiet_step (((intro hw; first | with_reducible rfl | rfl | (simp [Result.andThen]; done) | (simp [Result.andThen]; rfl))))
   refine wpQuiet_run rfl (.int .i64 ((L.length - 1 : Nat) : Int)) (fun w => by rw [run_sub .i64 3 3 (.tmp 19) _ rfl L.length 1 rfl rfl,IntWalk.i64_in _ (by omega)]; congr 3; omega) ?_
   simp only [Act.put,nA,nB,nC]
   refine wpQuiet_index rfl 42 (.tmp 17) (.tmp 20) rfl b off L.length c1 (L.length - 1) 32 .i64 22 rfl rfl Hlp.out (by kernel_rfl) (by kernel_rfl) ?_
   simp only [Act.put,nA,nB,nC]
   refine wpQuiet_load rfl 22 (.tmp 21) rfl b (off + (L.length - 1) * 32) rfl (ic .u8 x) _ (fun w' hf => HRg.out w' hf.below) rfl rfl (by rw [ic_length,Hx.out]; kernel_rfl) ?_
   simp only [Act.put,nA,nB,nC]
   refine wpQuiet_nil ?_
   have HFd : Hid (Fr [] wr wr.drew) := (Fr.refl _ _).drew
   refine seg_two 0 9 (oi := ⟨some 14,_,_,_,_,_⟩) (oj := ⟨some 23,_,_,_,_,_⟩) rfl rfl rfl rfl (by kernel_rfl) ?_ ?_
   change wpList _ _ _ _ _ wr.drew
   generalize wr.drew = wd at HFd ⊢
   focus go_wp2_with fail
   have HGwA' : Hid (Grows wd.heap.size 22 32 HashE (wd.alloc (.cells #[] 22)) (.slice (some ⟨wd.heap.size,0,none⟩) 0 0) []) := Grows.empty32 wd
   have HFwA : Hid (Fr [] wr (wd.alloc (.cells #[] 22))) := HFd.out.alloc _
   have HswA : Hid (wd.heap.size ≤ (wd.alloc (.cells #[] 22)).heap.size) := by show _ ≤ _; simp
   refine ⟨HFwA.out,fun _ => ?_⟩
   obtain ⟨A,hA⟩ : ∃ A,A = wd.heap.size := ⟨_,rfl⟩
   rw [← hA] at HGwA' HswA ⊢
   generalize World.alloc wd _ = wA at HGwA' HFwA HswA ⊢
   have HGwA := hid (HGwA'.out.base (by have := (HFd.out).size; omega : wr.heap.size ≤ A))
   clear hA
   refine seg_two 2 9 (oi := ⟨some 16,_,_,_,_,_⟩) (oj := ⟨some 23,_,_,_,_,_⟩) rfl rfl rfl rfl (by kernel_rfl) ?_ ?_
   rotate_left
   refine wpList_bs1 rfl 42 (.tmp 22) rfl 22 32 32 elem42 (by decide) (arr x) (ic .u8 x) rfl rfl (by rw [ic_length,Hx.out]) ?_
   refine wpList_nil ?_
   simp only [Act.put,nA,nB,nC]
   have HFwB : Hid (Fr [] wr (wA.alloc (.cells (ic .u8 x).toArray 22))) := HFwA.out.alloc _
   have HNwB : Hid (Blk (wA.alloc (.cells (ic .u8 x).toArray 22)) wA.heap.size 22 (ic .u8 x)) := Blk.new _ _ _
   have HGwB : Hid (Grows wr.heap.size 22 32 HashE (wA.alloc (.cells (ic .u8 x).toArray 22)) (.slice (some ⟨A,0,none⟩) 0 0) []) := HGwA.out.fr ((Fr.refl _ _).alloc _) (fun _ _ h => h)
   refine ⟨HFwB.out,fun _ => ?_⟩
   generalize World.alloc wA _ = wB at HFwB HNwB HGwB ⊢
   obtain ⟨N,hN⟩ : ∃ N,N = wA.heap.size := ⟨_,rfl⟩
   rw [← hN] at HNwB ⊢
   have HNs := hid hN; clear hN
   refine seg_act 2 (o := ⟨some 16,_,_,_,_,_⟩) rfl rfl (by kernel_rfl) ?_
   refine wpList_hashAll rfl (.tmp 14) (.tmp 15) rfl wr _ _ [] L rfl rfl HGwB.out HFwB.out (HLs.out _ HFwB.out) (by simp; omega) ?_
   intro v16 wC HGwC HFwC HOwC
   rw [List.nil_append] at HGwC
   refine wpList_nil ?_
   simp only [Act.put,nA,nB,nC]
   refine ⟨HFwC.out,fun _ => ?_⟩
   have HNwC := hid (blk_beside HGwA.out (.inr (by have := HNs.out; omega)) HNwB.out HOwC.out)
   rotate_left
   change wpList _ _ _ _ _ wr.drew
   generalize wr.drew = wd at HFd ⊢
   refine wpList_bs1 rfl 42 (.tmp 22) rfl 22 32 32 elem42 (by decide) (arr x) (ic .u8 x) rfl rfl (by rw [ic_length,Hx.out]) ?_
   refine wpList_nil ?_
   simp only [Act.put,nA,nB,nC]
   have HFwA : Hid (Fr [] wr (wd.alloc (.cells (ic .u8 x).toArray 22))) := HFd.out.alloc _
   have HNwA : Hid (Blk (wd.alloc (.cells (ic .u8 x).toArray 22)) wd.heap.size 22 (ic .u8 x)) := Blk.new _ _ _
   refine ⟨HFwA.out,fun _ => ?_⟩
   generalize World.alloc wd _ = wA at HFwA HNwA ⊢
   obtain ⟨N,hN⟩ : ∃ N,N = wd.heap.size := ⟨_,rfl⟩
   rw [← hN] at HNwA ⊢
   have HNs := hid hN; clear hN
   refine seg_act 0 rfl rfl (by kernel_rfl) ?_
   focus go_wp2_with fail
   have HGwB' : Hid (Grows wA.heap.size 22 32 HashE (wA.alloc (.cells #[] 22)) (.slice (some ⟨wA.heap.size,0,none⟩) 0 0) []) := Grows.empty32 wA
   have HFwB : Hid (Fr [] wr (wA.alloc (.cells #[] 22))) := HFwA.out.alloc _
   have HswB : Hid (wA.heap.size ≤ (wA.alloc (.cells #[] 22)).heap.size) := by show _ ≤ _; simp
   have HNwB := hid (HNwA.out.alloc (.cells #[] 22))
   have hNlt := HNwA.out.lt
   refine ⟨HFwB.out,fun _ => ?_⟩
   obtain ⟨A,hA⟩ : ∃ A,A = wA.heap.size := ⟨_,rfl⟩
   rw [← hA] at HGwB' HswB ⊢
   generalize World.alloc wA _ = wB at HGwB' HFwB HswB HNwB ⊢
   have HGwB := hid (HGwB'.out.base (by have := (HFwA.out).size; omega : wr.heap.size ≤ A))
   refine seg_act 2 (o := ⟨some 16,_,_,_,_,_⟩) rfl rfl (by kernel_rfl) ?_
   refine wpList_hashAll rfl (.tmp 14) (.tmp 15) rfl wr _ _ [] L rfl rfl HGwB.out HFwB.out (HLs.out _ HFwB.out) (by simp; omega) ?_
   intro v16 wC HGwC HFwC HOwC
   rw [List.nil_append] at HGwC
   refine wpList_nil ?_
   simp only [Act.put,nA,nB,nC]
   refine ⟨HFwC.out,fun _ => ?_⟩
   have HNwC := hid (blk_beside HGwB'.out (.inl (by omega)) HNwB.out HOwC.out)
   rotate_left
   have ho : ¬ ((0 : Int) < (L.length : Int) % 2) := by omega
   have HM : Hid (ListB wr.heap.size 32 HashE wr (.slice a1 L.length c1) (evened L)) := by unfold evened; rw [if_neg (by omega)]; exact HG.out
   have HF6 : Hid (Fr [] wr wr) := Fr.refl _ _
   focus go_upto_region 4 with fail
   clear hodd ho
   generalize Value.slice a1 L.length c1 = v24 at HM ⊢
   obtain ⟨w6,hw6⟩ : ∃ w6,w6 = wr := ⟨_,rfl⟩
   have HF6 : Hid (Fr [] wr w6) := by rw [hw6]; exact HF6.out
   rw [← hw6] at HM
   rw (occs := .pos [1]) [← hw6]
   have hw7 := hid hw6; clear hw6
   rotate_left
   refine wpList_hashAll rfl (.tmp 14) (.tmp 15) rfl wr _ _ [] L rfl rfl HGwA.out HFwA.out (HLs.out _ HFwA.out) (by simp; omega) ?_
   intro v16 wB HGwB HFwB HOwB
   rw [List.nil_append] at HGwB
   refine wpList_nil ?_
   simp only [Act.put,nA,nB,nC]
   refine ⟨HFwB.out,fun _ => ?_⟩
   refine seg_act 9 (o := ⟨some 23,_,_,_,_,_⟩) rfl rfl (by kernel_rfl) ?_
   refine wpList_bs1 rfl 42 (.tmp 22) rfl 22 32 32 elem42 (by decide) (arr x) (ic .u8 x) rfl rfl (by rw [ic_length,Hx.out]) ?_
   refine wpList_nil ?_
   simp only [Act.put,nA,nB,nC]
   have HFwC : Hid (Fr [] wr (wB.alloc (.cells (ic .u8 x).toArray 22))) := HFwB.out.alloc _
   have HNwC : Hid (Blk (wB.alloc (.cells (ic .u8 x).toArray 22)) wB.heap.size 22 (ic .u8 x)) := Blk.new _ _ _
   have HGwC : Hid (Grows wr.heap.size 22 32 HashE (wB.alloc (.cells (ic .u8 x).toArray 22)) v16 L) := HGwB.out.fr ((Fr.refl _ _).alloc _) (fun _ _ h => h)
   refine ⟨HFwC.out,fun _ => ?_⟩
   generalize World.alloc wB _ = wC at HFwC HNwC HGwC ⊢
   obtain ⟨N,hN⟩ : ∃ N,N = wB.heap.size := ⟨_,rfl⟩
   rw [← hN] at HNwC ⊢
   have HNs := hid hN; clear hN
   all_goals try clear hA
   iterate 3
    refine seg_act 10 (o := ⟨some 24,_,_,_,_,_⟩) rfl rfl (by kernel_rfl) ?_
    refine wpList_push2 rfl (.tmp 16) (.tmp 23) 42 rfl 22 32 32 elem42 wr.heap.size HashE v16 L rfl HGwC.out N 22 (ic .u8 x) HNwC.out rfl (by rw [ic_length,Hx.out]) (ic_one _ _) (fun _ _ _ _ _ h => h) x rfl (by omega) HFwC.out.size ?_
    intro v24 w6 HG6 _ HO6 _
    have HF6 : Hid (Fr [] wr w6) := HFwC.out.andThen HO6.out (fun k hk => .inr (HGwC.out.own k (own1_mem hk)).1)
    refine wpList_nil ?_
    simp only [Act.put,nA,nB,nC]
    refine ⟨HF6.out,fun _ => ?_⟩
    refine seg_quiet (fuel := 0) (by kernel_rfl) (fun d _ _ _ _ h => by cases d <;> exact h) (HF6.out) [11] _ _ (by kernel_rfl) ?_
    simp only [pickL,nthO]
    refine wpQuiet_rfl (v24) rfl (fun _ => rfl) ?_
    simp only [Act.put,nA,nB,nC]
    refine wpQuiet_nil ?_
    refine seg_end (by kernel_rfl) ?_
    have HM : Hid (ListB w6.heap.size 32 HashE w6 v24 (evened L)) := by rw [HEv.out]; exact HG6.out.listT.listB (fun _ _ h => h)
    rotate_left
   all_goals
    obtain ⟨M,hM⟩ : ∃ M,M = evened L := ⟨_,rfl⟩
    rw [← hM] at HM
    have HM32 : Hid (∀ x ∈ M,x.length = 32) := by rw [hM]; exact evened_32 HL32.out
    obtain ⟨n1,hn1⟩ : ∃ n1,n1 = wid hs.length (h + 1) := ⟨_,rfl⟩
    have HMl : Hid (M.length = 2 * n1) := by show _ = _; rw [hM,evened_length,hn1,HWs.out,HLn.out]
    have HP1 : Hid (pairs K M n1 = level K hs (h + 1)) := by rw [hM,hn1]; exact HPr.out
    have hMl : (M.length : Int) ≤ 66 := by have h1 := HMl.out; have h2 := HWs.out; have h3 := HLn.out; omega
    clear hM hn1
    obtain ⟨aM,cM,hvM,hq1,hq2⟩ := HM.out.len
    subst hvM
    clear hq1 hq2
    go_wp2_with fail
    go_loopg [5,6] n1 (fun gk v5' v6 wi' => ∃ (j i : Nat) (v5 : Value) (wi : World),v5 = v5' ∧ wi = wi' ∧ gk = n1 - j ∧ j ≤ n1 ∧ Hid (i = 2 * j) ∧ v6 = .int .i64 (i : Int) ∧ Grows w6.heap.size 22 32 HashE wi v5 (pairs K M j) ∧ Fr [] w6 wi)
    case atStart => exact ⟨0,0,_,_,rfl,rfl,rfl,Nat.zero_le _,rfl,rfl,Grows.nil _,Fr.refl _ _⟩
    case round =>
     obtain ⟨j,i,v5,wi,rfl,rfl,rfl,hj,HI,rfl,hg,hf⟩ := hrel
     have HG := hid hg
     have HF := hid hf
     clear hg hf
     by_cases hjt : j < n1
     ·have hi1 : i + 1 < M.length := by have h1 := HMl.out; have h2 := HI.out; omega
      have hii : (i : Int) < M.length := by omega
      have hii1 : (i : Int) + 1 < M.length := by omega
      obtain ⟨b,off,cap,he,hb,hr0⟩ := hash_at HM.out (show i < M.length by omega)
      simp only [Value.slice.injEq] at he
      obtain ⟨rfl,_,rfl⟩ := he
      obtain ⟨b',off',cap',he,hb',hr1⟩ := hash_at HM.out hi1
      simp only [Value.slice.injEq,Option.some.injEq,Addr.mk.injEq] at he
      obtain ⟨⟨rfl,rfl,_⟩,_,rfl⟩ := he
      obtain ⟨x0,hx0⟩ : ∃ x,x = M[i] := ⟨_,rfl⟩
      obtain ⟨x1,hx1⟩ : ∃ x,x = M[i + 1] := ⟨_,rfl⟩
      rw [← hx0] at hr0
      rw [← hx1] at hr1
      have HX0 : Hid (x0.length = 32) := by rw [hx0]; exact HM32.out _ (List.getElem_mem _)
      have HX1 : Hid (x1.length = 32) := by rw [hx1]; exact HM32.out _ (List.getElem_mem _)
      have HPs : Hid (pairs K M j ++ [H2 K (x0 ++ x1)] = pairs K M (j + 1)) := by
       show _ = _
       rw [pairs_succ,← HI.out,List.getD_eq_getElem?_getD,List.getD_eq_getElem?_getD,List.getElem?_eq_getElem hi1,List.getElem?_eq_getElem (by omega),hx0,hx1]; rfl
      have HR0 := hid hr0
      have HR1' := hid hr1
      have Hi1 := hid hi1
      clear hr0 hr1 hx0 hx1 hb hb' hi1
      go_upto_region 8 with fail
      refine seg_begin (fun w' => Fr [] w6 w') (by kernel_rfl) ?_
      refine seg_quiet (fuel := 4) (by kernel_rfl) (fun d _ _ _ _ h => by cases d <;> exact h) (HF.out.drew) [0,1,2,3,4,5,6,7,8,9,10] _ _ (by kernel_rfl) ?_
      simp only [pickL,nthO]
      refine wpQuiet_rfl (v5) rfl (fun _ => rfl) ?_
      simp only [Act.put,nA,nB,nC]
      refine wpQuiet_rfl (HFn) rfl (fun _ => rfl) ?_
      simp only [Act.put,nA,nB,nC]
      refine wpQuiet_rfl (.slice (some ⟨b,off,none⟩) M.length cM) rfl (fun _ => rfl) ?_
      simp only [Act.put,nA,nB,nC]
      refine wpQuiet_rfl (.int .i64 (i : Int)) rfl (fun _ => rfl) ?_
      simp only [Act.put,nA,nB,nC]
      refine wpQuiet_index rfl 42 (.tmp 33) (.tmp 34) rfl b off M.length cM i 32 .i64 22 rfl rfl (by have := Hi1.out; omega) (by kernel_rfl) (by kernel_rfl) ?_
      simp only [Act.put,nA,nB,nC]
      refine wpQuiet_load rfl 22 (.tmp 35) rfl b (off + i * 32) rfl (ic .u8 x0) _ (fun w' hf => HR0.out w' hf.below) rfl rfl (by rw [ic_length,HX0.out]; kernel_rfl) ?_
      simp only [Act.put,nA,nB,nC]
      refine wpQuiet_rfl (.slice (some ⟨b,off,none⟩) M.length cM) rfl (fun _ => rfl) ?_
      simp only [Act.put,nA,nB,nC]
      refine wpQuiet_rfl (.int .i64 (i : Int)) rfl (fun _ => rfl) ?_
      simp only [Act.put,nA,nB,nC]
      refine wpQuiet_run rfl (.int .i64 ((i + 1 : Nat) : Int)) (fun w => by rw [run_add .i64 3 3 (.tmp 38) _ rfl i 1 rfl rfl,IntWalk.i64_in _ (by omega)]; congr 3) ?_
      simp only [Act.put,nA,nB,nC]
      refine wpQuiet_index rfl 42 (.tmp 37) (.tmp 39) rfl b off M.length cM (i + 1) 32 .i64 22 rfl rfl Hi1.out (by kernel_rfl) (by kernel_rfl) ?_
      simp only [Act.put,nA,nB,nC]
      refine wpQuiet_load rfl 22 (.tmp 40) rfl b (off + (i + 1) * 32) rfl (ic .u8 x1) _ (fun w' hf => HR1'.out w' hf.below) rfl rfl (by rw [ic_length,HX1.out]; kernel_rfl) ?_
      simp only [Act.put,nA,nB,nC]
      refine wpQuiet_nil ?_
      refine seg_act 11 rfl rfl (by kernel_rfl) ?_
      go_wp2_with fail
      refine (sBranch_c K hK wi.drew ((HKc1.out.fr (HFr.out.trans (HF6.out.trans HF.out)) (by simp)).drew) x0 x1 HX0.out HX1.out).mono ?_
      rintro e w7 ⟨rfl,hf⟩
      have HF7 : Hid (Fr [] w6 w7) := HF.out.drew.trans hf
      have HG7 : Hid (Grows w6.heap.size 22 32 HashE w7 v5 (pairs K M j)) := HG.out.fr ((Fr.refl _ _).drew.trans hf) (fun _ _ h => h)
      clear hf
      have Hyl := hid (H2_length K (x0 ++ x1))
      go_wp2_with fail
      refine ⟨HF7.out,fun _ => ?_⟩
      refine seg_act 12 (o := ⟨some 43,_,_,_,_,_⟩) rfl rfl (by kernel_rfl) ?_
      refine wpList_bs1 rfl 42 (.tmp 42) rfl 22 32 32 elem42 (by decide) (arr (H2 K (x0 ++ x1))) (ic .u8 (H2 K (x0 ++ x1))) rfl rfl (by rw [ic_length,Hyl.out]) ?_
      refine wpList_nil ?_
      simp only [Act.put,nA,nB,nC]
      refine ⟨HF7.out.alloc _,fun _ => ?_⟩
      refine seg_act 13 (o := ⟨some 44,_,_,_,_,_⟩) rfl rfl (by kernel_rfl) ?_
      refine wpList_hashPush2 rfl (.tmp 31) (.tmp 43) rfl [] w6 w7 v5 (pairs K M j) (H2 K (x0 ++ x1)) rfl rfl rfl Hyl.out HG7.out HF7.out (by rw [pairs_length]; have := HMl.out; omega) ?_
      intro v8 w8 HG8 HF8 _ _
      rw [HPs.out] at HG8
      refine wpList_nil ?_
      simp only [Act.put,nA,nB,nC]
      refine ⟨HF8.out,fun _ => ?_⟩
      refine seg_quiet (fuel := 0) (by kernel_rfl) (fun d _ _ _ _ h => by cases d <;> exact h) (HF8.out) [14] _ _ (by kernel_rfl) ?_
      simp only [pickL,nthO]
      refine wpQuiet_rfl (v8) rfl (fun _ => rfl) ?_
      simp only [Act.put,nA,nB,nC]
      refine wpQuiet_nil ?_
      refine seg_end (by kernel_rfl) ?_
      generalize arr (H2 K (x0 ++ x1)) = V42
      generalize Value.agg (ic .u8 x0).toArray = V36
      generalize Value.agg (ic .u8 x1).toArray = V41
      clear HG7 HF7 HPs HX0 HX1 HR0 HR1' Hyl
      go_wp2_with fail
      go_roundg (n1 - (j + 1))
      case measure => omega
      case rel => exact ⟨j + 1,i + 2,_,_,rfl,rfl,rfl,by omega,by have := HI.out; show _ = _; omega,by simp,HG8.out,HF8.out⟩
     ·have hij : ¬ ((i : Int) < M.length) := by have h1 := HMl.out; have h2 := HI.out; omega
      have HGl : Hid (Grows w6.heap.size 22 32 HashE wi v5 (level K hs (h + 1))) := by have := HG.out; rwa [show j = n1 by omega,HP1.out] at this
      go_wp2_with fail
      go_roundg (hgt hs.length - (h + 1))
      case measure => have := Hlt.out; omega
      case rel => exact ⟨h + 1,rfl,by have := Hlt.out; omega,HGl.out.listT.listB (fun _ _ h => h),HFr.out.trans (HF6.out.trans HF.out)⟩
  ·have hhe : h = hgt hs.length := by omega
   have hL1 : L.length = 1 := by have := HLn.out; rw [hhe,Hw1.out] at this; exact this
   have hL1i : (L.length : Int) = 1 := by omega
   have hLq := HL0.out hhe
   have hLp : 0 < L.length := by omega
   obtain ⟨b,off,cap,he,hb,hrg⟩ := hash_at HG.out hLp
   simp only [Value.slice.injEq] at he
   obtain ⟨rfl,_,rfl⟩ := he
   have hx : L[0] = q := by rw [List.getElem?_eq_getElem hLp] at hLq; simpa using hLq
   rw [hx] at hrg
   have HRg := hid hrg
   have Hlp := hid hLp
   have hng : ¬ (1 < (L.length : Int)) := by omega
   have HLi := hid hL1i
   clear hrg hx hb hLp hL1i hL1 hLq hhe hlt
   have HRr := hid (HR1.out.fr HFr.out (by simp))
   go_upto_region 10 with fail
   refine wp_region_lit ?_
   refine wpList_run (v := .slice (some ⟨b,off,none⟩) L.length c1) rfl rfl ?_
   simp only [Act.put,nA,nB,nC]
   refine wpList_index rfl 42 (.tmp 46) (.const (.int .i64 0)) rfl b off L.length c1 0 32 .i64 22 rfl rfl Hlp.out (by kernel_rfl) (by kernel_rfl) ?_
   simp only [Act.put,nA,nB,nC]
   refine wpList_load_mid rfl 22 (.tmp 47) rfl b (off + 0 * 32) rfl (ic .u8 q) _ (HRg.out wr (Below.refl _ _)) rfl rfl (by rw [ic_length,Hql.out]; kernel_rfl) ?_
   simp only [Act.put,nA,nB,nC]
   refine wpList_storeB rfl 22 (.tmp 4) (.tmp 48) rfl rfl R _ (ic .u8 q) HRr.out rfl rfl (by rw [ic_length,ic_length,Hql.out,HZl.out]) (by rw [ic_length,Hql.out]; kernel_rfl) (ic_one _ _) ?_
   intro w8 hf hb
   refine wpList_nil ?_
   refine (‹∀ (a : Act) (w : World),Code.wp Tryz.prog Code.ret _ a w → _›) _ _ ?_
   refine wp_ret ?_
   refine ret_arr rfl rfl (.array 32 5) hb rfl rfl (by rw [Hql.out]; kernel_rfl) rfl ?_
   exact ⟨rfl,(HF1.out.trans HFr.out).andThen hf (by intro k hk; simp at hk; subst hk; exact .inr HRw.out)⟩
end
section
set_option maxRecDepth 8000
theorem txRoot_c (K : List Int) (hK : K.length = 64) (w : World) (hKc : Blk w 1 379 (ic .u32 K)) (B : Nat) (hBw : B ≤ w.heap.size) (v : Value) (l : List Tx) (hv : ListB B 4 (TxE B) w v l) (h1 : 1 ≤ l.length) (hl : l.length ≤ 64) (ht : ∀ t ∈ l,t.Ok ∧ t.Small ∧ (txB t).length ≤ 5000000) :
  Calls Tryz.prog 15 #[HFn,v,.bool false] w fun e w' => e = .returned (arr (node K (l.map (txH K)) (hgt l.length) 0)) ∧ Fr [] w w' := by
 obtain ⟨av,cv,hvs,hq1,hq2⟩ := hv.len
 subst hvs
 clear hq1 hq2
 obtain ⟨hs,hhs⟩ : ∃ hs,hs = l.map (txH K) := ⟨_,rfl⟩
 have HHl : Hid (hs.length = l.length) := by show _ = _; rw [hhs,List.length_map]
 have hl32 : ∀ x ∈ hs,x.length = 32 := by intro x hx; rw [hhs] at hx; obtain ⟨t,_,rfl⟩ := List.mem_map.mp hx; exact H2_length _ _
 obtain ⟨q,hq⟩ : ∃ q,q = node K hs (hgt l.length) 0 := ⟨_,rfl⟩
 have hwid : 0 < wid hs.length (hgt l.length) := by
  unfold wid
  exact Nat.div_pos (by rw [HHl.out]; omega) (Nat.two_pow_pos _)
 have Hql : Hid (q.length = 32) := by rw [hq]; exact node_len hl32 _ _ hwid
 obtain ⟨z,hz⟩ : ∃ z : List Int,z = List.replicate 32 0 := ⟨_,rfl⟩
 have HZl : Hid (z.length = 32) := by rw [hz]; exact List.length_replicate
 rw [← hhs,← hq]
 have hn1 : (l.length : Int) ≤ 64 := by omega
 have Hhs := hid hhs
 have HhKc := hid hKc; clear hKc
 have Hhv := hid hv; clear hv
 have Hht := hid ht; clear ht
 have Hhq := hid hq; clear hq
 have Hh1 := hid h1; clear h1
 have Hhhs := hid hhs; clear hhs
 have Hhwid := hid hwid; clear hwid
 go_enter Tryz.func15,Tryz.ntmps15
 go_upto_region 1 with fail
 have HF1 : Hid (Fr [] w (w.alloc (.cells (ic .u8 z).toArray 22))) := (Fr.refl _ _).alloc _
 have HR1 : Hid (Blk (w.alloc (.cells (ic .u8 z).toArray 22)) w.heap.size 22 (ic .u8 z)) := Blk.new _ _ _
 change Code.wp _ _ _ _ (w.alloc (.cells (ic .u8 (List.replicate 32 0)).toArray 22))
 rw [← hz]
 generalize World.alloc w _ = w1 at HF1 HR1 ⊢
 clear hz
 obtain ⟨R,hR⟩ : ∃ R,R = w.heap.size := ⟨_,rfl⟩
 rw [← hR] at HR1 ⊢
 have HRw : Hid (w.heap.size ≤ R) := by show _ ≤ _; omega
 clear hR
 go_wp2_with fail
 refine (leaves_c K hK w1 (HhKc.out.fr HF1.out (by simp)) B (Nat.le_trans hBw HF1.out.size) _ l (Hhv.out.below (HF1.out.below.mono hBw) (fun _ _ h => h.below (HF1.out.below.mono hBw))) hl Hht.out).mono ?_
 rintro e w2 ⟨v2,rfl,hf,hL⟩
 rw [← Hhs.out] at hL
 have HF2 := hid (HF1.out.trans hf)
 have HR2 := hid (HR1.out.fr hf (by simp))
 have HL2 := hid hL
 clear hf hL
 go_wp2_with fail
 refine (root_c K hK w2 (HhKc.out.fr HF2.out (by simp)) hs hl32 (by rw [HHl.out]; exact Hh1.out) (by rw [HHl.out]; exact hl) v2 (HL2.out.listB (fun _ _ h => h))).mono ?_
 rw [HHl.out,← Hhq.out]
 rintro e w3 ⟨rfl,hf⟩
 have HF3 := hid (HF2.out.trans hf)
 have HR3 := hid (HR2.out.fr hf (by simp))
 clear hf
 simp only []
 refine (‹∀ (a : Act) (w : World),wpList Tryz.prog _ _ _ a w → _›) _ _ ?_
 refine wpList_storeB rfl 22 (.tmp 6) (.tmp 12) rfl rfl R _ (ic .u8 q) HR3.out rfl rfl (by rw [ic_length,ic_length,Hql.out,HZl.out]) (by rw [ic_length,Hql.out]; kernel_rfl) (ic_one _ _) ?_
 intro w8 hf hb
 refine wpList_nil ?_
 refine (‹∀ (a : Act) (w : World),Code.wp Tryz.prog Code.ret _ a w → _›) _ _ ?_
 refine wp_ret ?_
 refine ret_arr rfl rfl (.array 32 5) hb rfl rfl (by rw [Hql.out]; kernel_rfl) rfl ?_
 exact ⟨rfl,HF3.out.andThen hf (by intro k hk; simp at hk; subst hk; exact .inr HRw.out)⟩
end
end Go.Proofs.YtdllckiidegpcaaGreat
