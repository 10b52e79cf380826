/- A part of the walk of laws.FnPartial (part 45): contracts of functions that it comes to, and the plain laws that these lean on. Conditions stand in each contract. -/
import Derived.Test.YtdllckiidegpcaaGreatA41
set_option linter.unusedSimpArgs false
set_option linter.unusedVariables false
set_option maxHeartbeats 4000000
namespace Go.Proofs.YtdllckiidegpcaaGreat
open Go.RowKit
section
set_option maxRecDepth 8000
theorem Grows.emptyC {α : Type} {base : Nat} {T : TypeId} {E : World → List Value → α → Prop} {w : World} {p n : Nat} {z : Value} (h : Blk w p T (List.replicate n z)) (hb : base ≤ p) (hn : n ≤ maxLen) : Grows base T 1 E w (.slice (some ⟨p,0,none⟩) 0 n) ([] : List α) :=
 ⟨[],rfl,by simp,⟨by simp,.inr ⟨p,n,(List.replicate n z).toArray,rfl,hb,h,Nat.zero_le _,hn,by simp,by simp⟩⟩,by simp⟩
/-- One transaction of the list was touched. -/
theorem UTxs.upd {K : List Int} {B : Nat} {S : List Nat} {w w' : World} {R : Nat} {Gs : List Nat} {l : List Tx} (h : UTxs K B w R Gs l) (hf : Fr S w w') (hBw : B ≤ w.heap.size) (hB : ∀ k ∈ S,B ≤ k) (i : Nat) (hi : i < Gs.length) (hi' : i < l.length)
  (hS : ∀ k ∈ S,k = Gs[i] ∨ ∀ T xs,Blk w k T xs → T ≠ 81 ∧ T ≠ 109 ∧ T ≠ 204) (he : UTxE K B w' Gs[i] l[i]) : UTxs K B w' R Gs l := by
 have hGi : ∃ xs,Blk w Gs[i] 204 xs := by obtain ⟨m,d,hp,idx,h1,_⟩ := h.each i hi hi'; exact ⟨_,h1⟩
 obtain ⟨gx,hgx⟩ := hGi
 have hK : ∀ k ∈ S,∀ xs,¬ Blk w k 81 xs := by
  intro k hk xs hb
  rcases hS k hk with rfl | hq
  ·exact absurd rfl (blk_ne hb hgx (by decide))
  ·exact (hq _ _ hb).1 rfl
 refine ⟨h.len,h.row.fr hf (fun hm => ?_),h.nodup,fun j hj hj' => ?_⟩
 ·rcases hS R hm with e | hq
  ·subst e; exact absurd rfl (blk_ne h.row hgx (by decide))
  ·exact (hq _ _ h.row).2.1 rfl
 ·by_cases hji : j = i
  ·subst hji; exact he
  ·have hej := h.each j hj hj'
   refine hej.fr hf hBw hB (fun hm => ?_) hK
   rcases hS _ hm with e | hq
   ·exact hji ((List.getElem_inj h.nodup).mp e)
   ·obtain ⟨m,d,hp,idx,h1,_⟩ := hej
    exact (hq _ _ h1).2.2 rfl
theorem RdB.join {B B' : Nat} {w w' : World} {v : Value} {n : Nat} {xs : List Value} (h : RdB B w v n xs) (h' : RdB B' w' v n xs) : RdB B w' v n xs := by
 obtain ⟨a,cap,rfl,h1,h2,h3⟩ := h
 obtain ⟨a',cap',he,k1,k2,k3⟩ := h'
 simp only [Value.slice.injEq] at he
 obtain ⟨rfl,_,rfl⟩ := he
 refine ⟨a,cap,rfl,h1,h2, ?_⟩
 rcases h3 with h3 | ⟨b,off,rfl,hb,hc⟩
 ·exact .inl h3
 ·rcases k3 with k3 | ⟨b',off',he,_,hc'⟩
  ·exact .inl k3
  ·simp only [Option.some.injEq,Addr.mk.injEq] at he
   obtain ⟨rfl,rfl,_⟩ := he
   exact .inr ⟨b,off,rfl,hb,hc'⟩
theorem Grows.bytesB {base : Nat} {w : World} {v : Value} {l : List Int} (h : Grows base 5 1 BitE w v l) : BytesB w.heap.size w v l := (ListT.ints (k := .u8) (h.listT))
/-- The marks stay as they are while only blocks of another type turn. -/
theorem Grows.bytesF {base : Nat} {w w' : World} {v : Value} {l : List Int} (h : Grows base 5 1 BitE w v l) {T : TypeId} (hf : FrT T w w') (hT : 5 ≠ T) : BytesB w.heap.size w' v l :=
 RdB.join h.bytesB (Grows.bytesB (h.frT hf hT (fun _ _ h => h)))
theorem Grows.hsAt {base : Nat} {w w' : World} {v : Value} {l : List (List Int)} (h : Grows base 111 1 HpE w v l) {T : TypeId} (hf : FrT T w w') (hT : 111 ≠ T) (hT2 : 81 ≠ T) (hl : ∀ x ∈ l,x.length = 32) (h1 : 1 ≤ l.length) : HsAt w' v l :=
 hsAt_of (Nat.le_refl _) (Grows.listT (h.frT hf hT (fun _ _ h => h.frT hf hT2) (E' := HpE))) hl h1
theorem mTx_len {K : List Int} {flag : Int} {f : Blm} {t : Tx} : (txH K t).length = 32 := H2_length _ _
theorem elem29' : Elem Tryz.prog 29 5 1 1 := elem29
theorem Grows.frK {α : Type} {base : Nat} {T : TypeId} {size : Nat} {E E' : World → List Value → α → Prop} {w w' : World} {v : Value} {l : List α} {S : List Nat} (h : Grows base T size E w v l) (hf : Fr S w w') (hS : ∀ k ∈ S,k < base ∨ ∃ T' xs,Blk w k T' xs ∧ T ≠ T') (hE : ∀ c x,E w c x → E' w' c x) : Grows base T size E' w' v l := by
 obtain ⟨cs,h1,h2,⟨hl,h3⟩,h4⟩ := h
 refine ⟨cs,h1,h2,⟨hl, ?_⟩,fun i h h' => hE _ _ (h4 i h h')⟩
 rcases h3 with h3 | ⟨g,cap,cur,e1,e2,e3,e4⟩
 ·exact .inl h3
 ·refine .inr ⟨g,cap,cur,e1,e2,(hf.block g (Array.getElem?_eq_some_iff.mp e3).1 (fun hm => ?_)).trans e3,e4⟩
  rcases hS g hm with h | ⟨T',xs,hb,hT⟩
  ·omega
  ·have e : w.heap[g]? = _ := hb
   rw [e3] at e
   simp at e
   exact hT e.2
theorem HpE.frK {w w' : World} {c : List Value} {l : List Int} {S : List Nat} (h : HpE w c l) (hf : Fr S w w') (hS : ∀ k ∈ S,∃ T xs,Blk w k T xs ∧ 81 ≠ T) : HpE w' c l := by
 obtain ⟨P,h1,h2⟩ := h
 refine ⟨P,h1,h2.fr hf (fun hm => ?_)⟩
 obtain ⟨T,xs,hb,hT⟩ := hS P hm
 exact absurd rfl (blk_ne h2 hb hT)
theorem trav_01 (K : List Int) (hs : List (List Int)) (m : List Int) : ∀ (h p : Nat),∀ x ∈ (trav K hs m h p).1,x = 0 ∨ x = 1 := by
 intro h
 induction h with
 | zero => intro p x hx; rw [trav,List.mem_singleton] at hx; subst hx; split; { right; rfl }; left; rfl
 | succ h ih =>
  intro p x hx
  rw [trav] at hx
  split at hx
  ·rcases List.mem_cons.mp hx with rfl | hx
   ·right; rfl
   ·rcases List.mem_append.mp hx with hx | hx
    ·exact ih _ _ hx
    ·split at hx
     ·exact ih _ _ hx
     ·cases hx
  ·rw [List.mem_singleton] at hx; subst hx; left; rfl
theorem nth_01 {m : List Int} (h : ∀ x ∈ m,x = 0 ∨ x = 1) (i : Nat) : nth m i = 0 ∨ nth m i = 1 := by
 unfold nth
 rw [List.getD_eq_getElem?_getD]
 by_cases hi : i < m.length
 ·rw [List.getElem?_eq_getElem hi]; exact h _ (List.getElem_mem hi)
 ·rw [List.getElem?_eq_none (by omega)]; left; rfl
/-- Between two worlds only blocks of one type, from a number on, may turn; new ones may come. -/
def Stp (TT : TypeId) (N : Nat) (a b : World) : Prop := ∃ S,Fr S a b ∧ ∀ x ∈ S,N ≤ x ∧ ∃ xs,Blk a x TT xs
section
variable {TT T : TypeId} {N : Nat} {a b w0 : World}
theorem Stp.of0 (TT : TypeId) (N : Nat) (h : Fr [] a b) : Stp TT N a b := ⟨[],h,by simp⟩
theorem Stp.of1 {x : Nat} {xs : List Value} (h : Fr [x] a b) (hx : Blk a x TT xs) (hN : N ≤ x) : Stp TT N a b := ⟨[x],h,by intro y hy; rw [List.mem_singleton] at hy; subst hy; exact ⟨hN,_,hx⟩⟩
theorem Grows.ownBlk {α : Type} {base : Nat} {size : Nat} {E : World → List Value → α → Prop} {v : Value} {l : List α} (h : Grows base TT size E a v l) : ∀ x ∈ own1 v,base ≤ x ∧ ∃ xs,Blk a x TT xs := by
 obtain ⟨cs,h1,h2,⟨hl,h3⟩,h4⟩ := h
 intro x hx
 have hv := own1_mem hx
 rcases h3 with ⟨rfl,_⟩ | ⟨g,cap,cur,rfl,e2,e3,e4⟩
 ·cases hv
 ·cases hv; exact ⟨e2,cur.toList,by simpa [Blk] using e3⟩
theorem Stp.ofOwn {α : Type} {size : Nat} {E : World → List Value → α → Prop} {v : Value} {l : List α} (hG : Grows N TT size E a v l) (h : Fr (own1 v) a b) : Stp TT N a b := ⟨_,h,hG.ownBlk⟩
theorem Stp.blk {x : Nat} {xs : List Value} (h : Stp TT N a b) (hb : Blk a x T xs) (hT : T ≠ TT) : Blk b x T xs := by
 obtain ⟨S,hf,hS⟩ := h
 exact hb.fr hf (fun hm => by obtain ⟨_,ys,hy⟩ := hS x hm; exact absurd rfl (blk_ne hb hy hT))
theorem Stp.hp {c : List Value} {l : List Int} (h : Stp TT N a b) (hb : HpE a c l) (hT : 81 ≠ TT) : HpE b c l := by
 obtain ⟨P,h1,h2⟩ := hb; exact ⟨P,h1,h.blk h2 hT⟩
theorem Stp.gro {α : Type} {base : Nat} {size : Nat} {E E' : World → List Value → α → Prop} {v : Value} {l : List α} (h : Stp TT N a b) (hG : Grows base T size E a v l) (hT : T ≠ TT) (hE : ∀ c x,E a c x → E' b c x) : Grows base T size E' b v l := by
 obtain ⟨S,hf,hS⟩ := h
 exact hG.frK hf (fun x hx => by obtain ⟨_,ys,hy⟩ := hS x hx; exact .inr ⟨_,_,hy,hT⟩) hE
theorem Stp.flt {g m aF cap : Nat} {st : Int} {f : Blm} {flag : Int} (h : Stp TT N a b) (hF : FltAt a g m aF cap st f flag) (hlt : g < N ∧ m < N ∧ aF < N) : FltAt b g m aF cap st f flag := by
 obtain ⟨S,hf,hS⟩ := h
 refine hF.fr hf (fun hm => ?_) (fun hm => ?_) (fun hm => ?_)
 ·have := (hS _ hm).1; omega
 ·have := (hS _ hm).1; omega
 ·have := (hS _ hm).1; omega
theorem Stp.us {K : List Int} {B R : Nat} {Gs : List Nat} {l : List Tx} (h : Stp TT N a b) (hU : UTxs K B a R Gs l) (hB : B ≤ N) (hBa : B ≤ a.heap.size) (h1 : TT ≠ 81) (h2 : TT ≠ 109) (h3 : TT ≠ 204) : UTxs K B b R Gs l := by
 obtain ⟨S,hf,hS⟩ := h
 refine hU.fr hf hBa (fun x hx => Nat.le_trans hB (hS x hx).1) (fun x hx T xs hb => ?_)
 obtain ⟨_,ys,hy⟩ := hS x hx
 have hne : ∀ T',TT ≠ T' → T ≠ T' := fun T' hT e => absurd rfl (blk_ne hy (e ▸ hb) hT)
 exact ⟨hne _ h1,hne _ h2,hne _ h3⟩
theorem Stp.fr {S0 : List Nat} (h : Stp TT N a b) (hf : Fr S0 w0 a) (hN : w0.heap.size ≤ N) : Fr S0 w0 b := by
 obtain ⟨S,hf2,hS⟩ := h
 exact hf.andThen hf2 (fun x hx => .inr (Nat.le_trans hN (hS x hx).1))
theorem Stp.size (h : Stp TT N a b) : a.heap.size ≤ b.heap.size := by obtain ⟨S,hf,_⟩ := h; exact hf.size
end
def b108 (n : Nat) (ah fh mb bv : Value) : List Value := [.int .u32 n,ah,fh,mb,bv]
end
section
set_option maxRecDepth 8000
theorem command_c (w : World) (p : Value) : Calls Tryz.prog 219 #[p] w fun e w' => e = .returned (.string mbName) ∧ w = w' := by
 go_enter Tryz.func219,Tryz.ntmps219
 go_wp2_with fail
 go_ret
 exact ⟨rfl,rfl⟩
theorem ofHashes_c (w : World) (B : Nat) (hBw : B ≤ w.heap.size) (v : Value) (hs : List (List Int)) (hl : ∀ l ∈ hs,l.length = 32) (hn : hs.length ≤ 100000) (hv : ListT B 111 1 HpE w v hs) :
  Calls Tryz.prog 49 #[v] w fun e w' => ∃ v',e = .returned v' ∧ Fr [] w w' ∧ ListT w'.heap.size 22 32 HashE w' v' hs := by
 have hv0 := hv.listB (E' := HpE) (fun _ _ h => h)
 obtain ⟨a,cap,rfl,hq1,hq2⟩ := hv0.len
 clear hq1 hq2 hv0
 have hn6 : (hs.length : Int) ≤ 100000 := by omega
 have Hhv := hid hv; clear hv
 have Hhl := hid hl; clear hl
 go_enter Tryz.func49,Tryz.ntmps49
 go_wp2_with fail
 go_loopg [3,4] (hs.length) (fun gk v7 v8 wr => ∃ i vr wi,vr = v7 ∧ wi = wr ∧ gk = hs.length - i ∧ i ≤ hs.length ∧ v8 = .int .i64 (i : Int) ∧ Grows w.heap.size 22 32 HashE wi vr (hs.take i) ∧ Fr [] w wi)
 case atStart => exact ⟨0,_,_,rfl,rfl,rfl,Nat.zero_le _,rfl,Grows.nil _,Fr.refl _ _⟩
 case round =>
  obtain ⟨i,vr,wi,rfl,rfl,rfl,hi,rfl,hg,hf⟩ := hrel
  have HG := hid hg; clear hg
  have HF := hid hf; clear hf
  by_cases hlt : i < hs.length
  ·obtain ⟨b,off,cap',u,he,hb,hc,P,hu,hP⟩ := Hhv.out.at' hlt
   simp only [Value.slice.injEq] at he
   obtain ⟨rfl,_,rfl⟩ := he
   simp only [List.cons.injEq,and_true] at hu
   subst hu
   obtain ⟨x,hx⟩ : ∃ x,x = hs[i] := ⟨_,rfl⟩
   rw [← hx] at hP
   have HX : Hid (x.length = 32) := by rw [hx]; exact Hhl.out _ (List.getElem_mem _)
   have HE : Hid (hs.take i ++ [x] = hs.take (i + 1)) := by show _ = _; rw [List.take_add_one,List.getElem?_eq_getElem hlt,hx]; rfl
   have HC := hid (hc wi (HF.out.below.mono hBw))
   have HP := hid (hP.fr HF.out (by simp))
   have hbl : b < wi.heap.size := Nat.lt_of_lt_of_le hb (Nat.le_trans hBw HF.out.size)
   have Hlt := hid hlt
   clear hx hP hc hb
   have hlti : (i : Int) < hs.length := by omega
   go_upto_region 5 with fail
   refine wp_region_lit ?_
   refine wpList_run (v := vr) rfl rfl ?_
   simp only [Act.put,nA,nB,nC]
   refine wpList_run (v := .slice (some ⟨b,off,none⟩) hs.length cap) rfl rfl ?_
   simp only [Act.put,nA,nB,nC]
   refine wpList_run (v := .int .i64 (i : Int)) rfl rfl ?_
   simp only [Act.put,nA,nB,nC]
   refine wpList_index rfl 106 (.tmp 12) (.tmp 13) rfl b off hs.length cap i 1 .i64 111 rfl rfl Hlt.out (by kernel_rfl) (by kernel_rfl) ?_
   simp only [Act.put,nA,nB,nC]
   refine wpList_load1 rfl 111 (.tmp 14) rfl b (off + i * 1) rfl (.pointer (some ⟨P,0,none⟩)) _ (by rw [Nat.mul_one]; exact HC.out) rfl rfl ?_
   simp only [Act.put,nA,nB,nC]
   refine wpList_run (v := .pointer (some ⟨P,0,none⟩)) rfl rfl ?_
   simp only [Act.put,nA,nB,nC]
   refine wpList_load_mid rfl 81 (.tmp 16) rfl P 0 rfl (ic .u8 x) _ (HP.out.range) rfl rfl (by rw [ic_length,HX.out]; kernel_rfl) ?_
   simp only [Act.put,nA,nB,nC]
   refine wpList_hashPush rfl rfl (.tmp 11) (.tmp 17) 18 rfl rfl rfl (by simp) w vr _ x (fun _ => rfl) rfl HX.out HG.out HF.out (by rw [List.length_take]; omega) ?_
   intro v3 w3 HG3 HF3 _
   rw [HE.out] at HG3
   simp only [Act.put,nA,nB,nC]
   clear HE HG HF HC HP hbl
   generalize Value.agg (ic .u8 x).toArray = V17
   go_wp2_with fail
   go_roundg (hs.length - (i + 1))
   case measure => omega
   case rel => exact ⟨i + 1,_,_,rfl,rfl,rfl,by omega,by simp,HG3.out,HF3.out⟩
  ·have HG2 : Hid (Grows w.heap.size 22 32 HashE wi vr hs) := by have := HG.out; rwa [List.take_of_length_le (by omega)] at this
   go_wp2_with fail
   go_ret
   exact ⟨_,rfl,HF.out,HG2.out.listT⟩
end
def bitAt (l : List Int) (i : Nat) : Bool := (nth l (i / 8)).toNat.testBit (i % 8)
theorem bitAt_setB (l : List Int) (p i : Nat) (hp : p / 8 < l.length) : bitAt (setB l p) i = (decide (i = p) || bitAt l i) := by
 unfold bitAt setB
 by_cases h : i / 8 = p / 8
 ·have e : nth (l.set (p / 8) (or8 (nth l (p / 8)) (p % 8))) (i / 8) = or8 (nth l (p / 8)) (p % 8) := by
   rw [h]; simp [nth,hp]
  rw [e,h]
  unfold or8
  rw [Int.toNat_natCast,Nat.testBit_or,Nat.testBit_two_pow,Bool.or_comm]
  congr 1
  have : (p % 8 = i % 8) ↔ (i = p) := by omega
  simp [this]
 ·have e : nth (l.set (p / 8) (or8 (nth l (p / 8)) (p % 8))) (i / 8) = nth l (i / 8) := by
   simp [nth,List.getElem?_set,Ne.symm h]
  have hne : i ≠ p := by rintro rfl; exact h rfl
  rw [e]; simp [hne]
theorem pack_bit (m : List Int) (i : Nat) : ∀ j,j ≤ m.length → bitAt (pack m j) i = decide (i < j ∧ nth m i = 1) := by
 intro j
 induction j with
 | zero =>
  intro _
  unfold bitAt
  have e : nth (pack m 0) (i / 8) = 0 := by
   simp only [pack,nth,List.getD_eq_getElem?_getD,List.getElem?_replicate]
   split <;> rfl
  rw [e]; simp
 | succ j ih =>
  intro hj
  have ih := ih (by omega)
  rw [pack]
  by_cases h : nth m j = 1
  ·rw [if_pos h,bitAt_setB _ _ _ (by rw [pack_length]; omega),ih]
   by_cases e : i = j
   ·subst e; simp [h]
   ·have : i < j + 1 ↔ i < j := by omega
    simp [e,this]
  ·rw [if_neg h,ih]
   by_cases e : i = j
   ·subst e; simp [h]
   ·have : i < j + 1 ↔ i < j := by omega
    simp [this]
def unpack (l : List Int) (k : Nat) : List Int := (List.range k).map fun i => b2i (bitAt l i)
theorem unpack_succ (l : List Int) (k : Nat) : unpack l (k + 1) = unpack l k ++ [b2i (bitAt l k)] := by simp [unpack,List.range_succ]
theorem unpack_length (l : List Int) (k : Nat) : (unpack l k).length = k := by simp [unpack]
theorem unpack_pack (m : List Int) (h01 : ∀ x ∈ m,x = 0 ∨ x = 1) : unpack (pack m m.length) (8 * ((m.length + 7) / 8)) = m ++ List.replicate (8 * ((m.length + 7) / 8) - m.length) 0 := by
 have hk : m.length ≤ 8 * ((m.length + 7) / 8) := by omega
 apply List.ext_getElem
 ·rw [unpack_length,List.length_append,List.length_replicate]; omega
 ·intro i h1 h2
  simp only [unpack,List.getElem_map,List.getElem_range]
  rw [pack_bit m i m.length (Nat.le_refl _)]
  by_cases hi : i < m.length
  ·rw [List.getElem_append_left hi]
   rcases h01 _ (List.getElem_mem hi) with h | h
   ·rw [nth_eq m i hi,h]; simp [b2i]
   ·rw [nth_eq m i hi,h]; simp [b2i,hi]
  ·rw [List.getElem_append_right (by omega)]
   simp [hi,b2i]
end Go.Proofs.YtdllckiidegpcaaGreat
