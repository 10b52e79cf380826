/- A part of the walk of laws.FnPartial (part 32): contracts of functions that it comes to, and the plain laws that these lean on. Conditions stand in each contract. -/
import Derived.Test.YtdllckiidegpcaaGreatA30
set_option linter.unusedSimpArgs false
set_option linter.unusedVariables false
set_option maxHeartbeats 4000000
namespace Go.Proofs.YtdllckiidegpcaaGreat
open Go.RowKit
section
set_option maxRecDepth 8000
theorem rotate15_c (w : World) (x : Int) (h0 : 0 ≤ x) (h1 : x ≤ 4294967295) : Calls Tryz.prog 150 #[.int .u32 x,.int .i64 15] w fun e w' => e = .returned (.int .u32 (rot32 x 15)) ∧ Fr [] w w' := by
 go_enter Tryz.func150,Tryz.ntmps150
 go_upto_region 1 with fail
 go_quiet (fail)
 go_wp2_with fail
 go_ret
 exact ⟨rfl,(Fr.refl _ _).drewN _⟩
theorem rotate13_c (w : World) (x : Int) (h0 : 0 ≤ x) (h1 : x ≤ 4294967295) : Calls Tryz.prog 150 #[.int .u32 x,.int .i64 13] w fun e w' => e = .returned (.int .u32 (rot32 x 13)) ∧ Fr [] w w' := by
 go_enter Tryz.func150,Tryz.ntmps150
 go_upto_region 1 with fail
 go_quiet (fail)
 go_wp2_with fail
 go_ret
 exact ⟨rfl,(Fr.refl _ _).drewN _⟩
theorem mix_c (w : World) (k : Int) (h0 : 0 ≤ k) (h1 : k ≤ 4294967295) : Calls Tryz.prog 149 #[.int .u32 k] w fun e w' => e = .returned (.int .u32 (mMix k)) ∧ Fr [] w w' := by
 obtain ⟨m,hm⟩ : ∃ m,m = k * 3432918353 % 4294967296 := ⟨_,rfl⟩
 have hm0 : 0 ≤ m := by omega
 have hm1 : m ≤ 4294967295 := by omega
 have HM := hid hm; clear hm
 have hb := rot32_bd m 15
 go_enter Tryz.func149,Tryz.ntmps149
 go_wp2_with fail
 rw [← HM.out]
 refine (rotate15_c w m hm0 hm1).mono ?_
 rintro e w2 ⟨rfl,hf⟩
 have HF := hid hf; clear hf
 obtain ⟨b0,b1⟩ := hb
 have b2 : rot32 m 15 ≤ 4294967295 := by omega
 have HX : Hid (mMix k = rot32 m 15 * 461845907 % 4294967296) := by show _ = _; rw [HM.out]; rfl
 generalize rot32 m 15 = r at b0 b2 HX ⊢
 clear b1
 go_wp2_with fail
 go_ret
 exact ⟨by rw [HX.out]; rfl,HF.out⟩
theorem leNum_cons (l : List Int) (i : Nat) (h : i < l.length) : leNum (l.drop i) = nth l i + 256 * leNum (l.drop (i + 1)) := by rw [drop_cons h]; rfl
set_option maxHeartbeats 2000000 in
theorem smurmur_c (w : World) (seed : Int) (v : Value) (l : List Int) (hv : Bytes w v l) (hu : U8 l) (hl : l.length ≤ 1000000) (hs : 0 ≤ seed ∧ seed < 4294967296) :
  Calls Tryz.prog 121 #[.int .u32 seed,v] w fun e w' => e = .returned (.int .u32 (murmur seed l)) ∧ Fr [] w w' := by
 obtain ⟨a,cap,rfl,h1,h2,h3⟩ := ints_cases hv
 clear h1 h2 hv
 have Hhu := hid hu; clear hu
 have Hhl := hid hl; clear hl
 have Hh3 := hid h3; clear h3
 have Hhs := hid hs; clear hs
 have hn1 : (l.length : Int) ≤ 1000000 := by have := Hhl.out; omega
 go_enter Tryz.func121,Tryz.ntmps121
 go_wp2_with fail
 obtain ⟨q,hq⟩ : ∃ q,q = l.length / 4 := ⟨_,rfl⟩
 have Hq := hid hq; clear hq
 go_loopg [5,8] (q) (fun gk v5 v8 wr => ∃ j T : Nat,gk = q - j ∧ j ≤ q ∧ Hid (T = 4 * j) ∧ v8 = .int .i64 (T : Int) ∧ v5 = .int .u32 (mAbs seed l j) ∧ Fr [] w wr)
 case atStart => exact ⟨0,0,rfl,Nat.zero_le _,rfl,rfl,rfl,Fr.refl _ _⟩
 case round =>
  obtain ⟨j,T,rfl,hj,HT,rfl,rfl,hf⟩ := hrel
  have HF := hid hf; clear hf
  have hab := mAbs_bd seed l j Hhs.out
  by_cases hlt : j < q
  ·have hT : T + 4 ≤ l.length := by have := HT.out; have := Hq.out; omega
   have hTi : (T : Int) + 4 ≤ l.length := by omega
   have hT6 : (T : Int) ≤ 1000000 := by have := Hhl.out; omega
   rcases Hh3.out with ⟨_,_,h⟩ | ⟨b,off,rfl,hb,hc⟩
   ·exfalso; rw [h] at hT; simp at hT
   have hc' : ∀ i,i < l.length → wr.cell? ⟨b,off + i,none⟩ = some (.int .u8 (nth l i)) := fun i hi => by rw [HF.out.cells.1 _ _ hb (by simp)]; exact hc i hi
   have e0 := hc' T (by omega)
   have e1 := hc' (T + 1) (by omega)
   have e2 := hc' (T + 2) (by omega)
   have e3 := hc' (T + 3) (by omega)
   have b0 := Hhu.out.bd T
   have b1 := Hhu.out.bd (T + 1)
   have b2 := Hhu.out.bd (T + 2)
   have b3 := Hhu.out.bd (T + 3)
   obtain ⟨k,hk⟩ : ∃ k,k = leNum ((l.drop T).take 4) := ⟨_,rfl⟩
   have hk4 : k = nth l T + nth l (T + 1) * 256 + nth l (T + 2) * 65536 + nth l (T + 3) * 16777216 := by
    rw [hk,leNum4 _ (by simp; omega)]; simp only [nth_drop',Nat.add_zero]; omega
   have HN : Hid (mAbs seed l (j + 1) = mRound (mAbs seed l j) k) := by show _ = _; rw [hk,HT.out]; rfl
   clear hk
   obtain ⟨x0,hx0⟩ : ∃ x,x = nth l T := ⟨_,rfl⟩
   obtain ⟨x1,hx1⟩ : ∃ x,x = nth l (T + 1) := ⟨_,rfl⟩
   obtain ⟨x2,hx2⟩ : ∃ x,x = nth l (T + 2) := ⟨_,rfl⟩
   obtain ⟨x3,hx3⟩ : ∃ x,x = nth l (T + 3) := ⟨_,rfl⟩
   rw [← hx0] at e0 b0 hk4
   rw [← hx1] at e1 b1 hk4
   rw [← hx2] at e2 b2 hk4
   rw [← hx3] at e3 b3 hk4
   clear hx0 hx1 hx2 hx3 hc hc'
   obtain ⟨p0,q0⟩ := b0
   obtain ⟨p1,q1⟩ := b1
   obtain ⟨p2,q2⟩ := b2
   obtain ⟨p3,q3⟩ := b3
   have hbl : b < wr.heap.size := Nat.lt_of_lt_of_le hb HF.out.size
   have hlti : (T : Int) < l.length := by omega
   have hlt1 : (T : Int) + 1 < l.length := by omega
   have hlt2 : (T : Int) + 2 < l.length := by omega
   have hlt3 : (T : Int) + 3 < l.length := by omega
   have HK4 := hid hk4; clear hk4
   have HTl := hid hT
   clear hT
   go_upto_region 6 with fail
   have hT0 : 0 ≤ (T : Int) := by omega
   have w1 : IntKind.i64.wrap ((T : Int) + 1) = T + 1 := IntWalk.i64_in _ (by omega)
   have w2 : IntKind.i64.wrap ((T : Int) + 2) = T + 2 := IntWalk.i64_in _ (by omega)
   have w3 : IntKind.i64.wrap ((T : Int) + 3) = T + 3 := IntWalk.i64_in _ (by omega)
   have n1 : 0 ≤ (T : Int) + 1 := by omega
   have n2 : 0 ≤ (T : Int) + 2 := by omega
   have n3 : 0 ≤ (T : Int) + 3 := by omega
   have t1 : ((T : Int) + 1).toNat = T + 1 := by omega
   have t2 : ((T : Int) + 2).toNat = T + 2 := by omega
   have t3 : ((T : Int) + 3).toNat = T + 3 := by omega
   go_quiet (fail)
   rw [← HK4.out]
   have hk0 : 0 ≤ k := by have := HK4.out; omega
   have hk1 : k ≤ 4294967295 := by have := HK4.out; omega
   clear w1 w2 w3 n1 n2 n3 t1 t2 t3 hT0 e0 e1 e2 e3 p0 q0 p1 q1 p2 q2 p3 q3 hlti hlt1 hlt2 hlt3 hbl hTi HK4
   obtain ⟨a0,a1⟩ := hab
   generalize mAbs seed l j = hh at a0 a1 HN ⊢
   have a2 : hh ≤ 4294967295 := by omega
   clear a1
   go_wp2_with fail
   refine (mix_c _ k hk0 hk1).mono ?_
   rintro e w4 ⟨rfl,hf⟩
   have HF4 : Hid (Fr [] w w4) := (HF.out.drewN _).trans hf
   clear hf hk0 hk1
   have hmb := mMix_bd k
   obtain ⟨m0,m1⟩ := hmb
   have hxb := bits_u32_bd .xor hh (mMix k)
   obtain ⟨y,hy⟩ : ∃ y,y = bits .xor .u32 hh (mMix k) := ⟨_,rfl⟩
   rw [← hy] at hxb
   obtain ⟨y0,y1⟩ := hxb
   have y2 : y ≤ 4294967295 := by omega
   have hrb := rot32_bd y 13
   obtain ⟨r,hr⟩ : ∃ r,r = rot32 y 13 := ⟨_,rfl⟩
   rw [← hr] at hrb
   obtain ⟨r0,r1⟩ := hrb
   have r2 : r ≤ 4294967295 := by omega
   have HX : Hid (mAbs seed l (j + 1) = (r * 5 % 4294967296 + 3864292196) % 4294967296) := by show _ = _; rw [HN.out,hr,hy]; rfl
   clear HN m0 m1 y1 r1
   generalize mMix k = mm at hy ⊢
   have HY := hid hy; clear hy
   have HR := hid hr; clear hr
   go_wp2_with fail
   rw [← HY.out]
   refine (rotate13_c _ y y0 y2).mono ?_
   rintro e w5 ⟨rfl,hf⟩
   have HF5 : Hid (Fr [] w w5) := HF4.out.trans hf
   clear hf
   rw [← HR.out]
   clear HY HR y0 y2
   go_wp2_with fail
   go_roundg (q - (j + 1))
   case measure => omega
   case rel => exact ⟨j + 1,T + 4,rfl,by omega,by have := HT.out; show _ = _; omega,by simp,by rw [HX.out],HF5.out⟩
  ·obtain rfl : j = q := by omega
   have hT : T ≤ l.length := by have := HT.out; have := Hq.out; omega
   have hT4 : l.length < T + 4 := by have := HT.out; have := Hq.out; omega
   have hTn : ¬ ((T : Int) + 4 ≤ l.length) := by omega
   have hT6 : (T : Int) ≤ 1000000 := by have := Hhl.out; omega
   obtain ⟨a0,a1⟩ := hab
   have HTa : Hid (mTail seed l = bits .xor .u32 (mAbs seed l j) (mMix (leNum (l.drop T)))) := by show _ = _; rw [mTail,← Hq.out,HT.out]
   generalize mAbs seed l j = hh at a0 a1 HTa ⊢
   have a2 : hh ≤ 4294967295 := by omega
   clear a1
   have HTl := hid hT; clear hT
   have HT4 := hid hT4; clear hT4
   go_wp2_with fail
   clear hTn
   go_loopg [10,11] (l.length - T) (fun gk v10 v11 wx => ∃ (p : Nat) (x : Int),gk = p - T ∧ T ≤ p ∧ p ≤ l.length ∧ Hid (x = (p : Int) - 1) ∧ v11 = .int .i64 x ∧ v10 = .int .u32 (leNum (l.drop p)) ∧ Fr [] w wx)
   case atStart => exact ⟨l.length,(l.length : Int) - 1,rfl,HTl.out,Nat.le_refl _,rfl,rfl,by rw [List.drop_length]; rfl,HF.out⟩
   case round =>
    clear HF
    obtain ⟨p,x,rfl,hp1,hp2,HXp,rfl,rfl,hf⟩ := hrel
    have HF := hid hf; clear hf
    by_cases hpt : T < p
    ·obtain ⟨m,rfl⟩ : ∃ m,p = m + 1 := ⟨p - 1,by omega⟩
     obtain rfl : x = (m : Int) := by have := HXp.out; omega
     clear HXp
     rcases Hh3.out with ⟨_,_,h⟩ | ⟨b,off,rfl,hb,hc⟩
     ·exfalso; rw [h] at hp2; simp at hp2
     have e0 : wr.cell? ⟨b,off + m,none⟩ = some (.int .u8 (nth l m)) := by rw [HF.out.cells.1 _ _ hb (by simp)]; exact hc m (by omega)
     have hbl : b < wr.heap.size := Nat.lt_of_lt_of_le hb HF.out.size
     clear hb hc
     have hmT : (T : Int) ≤ m := by omega
     have hml : (m : Int) < l.length := by omega
     have b0 := Hhu.out.bd m
     have hk2 : 0 ≤ leNum (l.drop (m + 1)) ∧ leNum (l.drop (m + 1)) ≤ 65535 := by
      have h1 := leNum_bd _ (Hhu.out.drop (m + 1))
      have h2 : (l.drop (m + 1)).length ≤ 2 := by have := HT4.out; rw [List.length_drop]; omega
      have h3 : (256 : Int) ^ (l.drop (m + 1)).length ≤ 65536 := by
       have : (l.drop (m + 1)).length = 0 ∨ (l.drop (m + 1)).length = 1 ∨ (l.drop (m + 1)).length = 2 := by omega
       rcases this with h | h | h <;> rw [h] <;> decide
      omega
     have HN := hid (leNum_cons l m (by omega))
     obtain ⟨y,hy⟩ : ∃ y,y = nth l m := ⟨_,rfl⟩
     rw [← hy] at e0 b0 HN
     clear hy
     obtain ⟨y0,y1⟩ := b0
     obtain ⟨k0,k1⟩ := hk2
     generalize leNum (l.drop (m + 1)) = k at k0 k1 HN ⊢
     clear hp1 hp2 hpt
     go_wp2_with fail
     go_roundg (m - T)
     case measure => omega
     case rel => exact ⟨m,(m : Int) - 1,rfl,by omega,by omega,rfl,rfl,by rw [HN.out]; exact congrArg (Value.int .u32) (by omega),HF.out⟩
    ·obtain rfl : p = T := by omega
     have hxT : ¬ ((p : Int) ≤ x) := by have := HXp.out; omega
     have hk2 := leNum_bd4 _ (Hhu.out.drop p) (by have := HT4.out; rw [List.length_drop]; omega)
     obtain ⟨k0,k1⟩ := hk2
     generalize leNum (l.drop p) = k at k0 k1 HTa ⊢
     clear hp1 hp2 hpt
     go_wp2_with fail
     refine (mix_c _ k k0 k1).mono ?_
     rintro e w4 ⟨rfl,hf⟩
     have HF4 : Hid (Fr [] w w4) := HF.out.trans hf
     clear hf k0 k1 hxT
     generalize mMix k = mm at HTa ⊢
     go_wp2_with fail
     go_ret
     refine ⟨congrArg (fun x => Ending.returned (.int .u32 x)) ?_,HF4.out⟩
     rw [murmur,HTa.out]
     rfl
theorem bit_c (w : World) (B : Nat) (hBw : B ≤ w.heap.size) (c : List Value) (f : Blm) (hc : BlmE B w c f) (i : Int) (hi0 : 0 ≤ i) (hi1 : i ≤ 4294967295) (v : Value) (l : List Int) (hv : Bytes w v l) (hu : U8 l) (hl : l.length ≤ 1000000) (h1 : 1 ≤ f.bytes.length) (h2 : f.bytes.length ≤ 1000000) :
  Calls Tryz.prog 91 #[.agg c.toArray,.int .u32 i,v] w fun e w' => e = .returned (.int .u32 (bIdx f i l)) ∧ Fr [] w w' := by
 obtain ⟨bv,rfl,hbv⟩ := hc
 obtain ⟨ab,cb,rfl,hq1,hq2⟩ := hbv.form
 clear hq1 hq2 hbv
 obtain ⟨a,cap,rfl,hq1,hq2⟩ := RdB.form hv
 clear hq1 hq2
 have Hhv := hid hv; clear hv
 have Hhu := hid hu; clear hu
 have Hhl := hid hl; clear hl
 have hn1 : (1 : Int) ≤ f.bytes.length := by omega
 have hn2 : (f.bytes.length : Int) ≤ 1000000 := by omega
 clear h1 h2
 go_enter Tryz.func91,Tryz.ntmps91
 go_upto_region 1 with fail
 have HF1 : Hid (Fr [] w (w.alloc (.cells [.slice ab f.bytes.length cb,.int .u32 f.funcs,.int .u32 f.tweak].toArray 31))) := (Fr.refl _ _).alloc _
 have HB1 : Hid (Blk (w.alloc (.cells [.slice ab f.bytes.length cb,.int .u32 f.funcs,.int .u32 f.tweak].toArray 31)) w.heap.size 31 [.slice ab f.bytes.length cb,.int .u32 f.funcs,.int .u32 f.tweak]) := Blk.new _ _ _
 change Code.wp _ _ _ _ (w.alloc (.cells [.slice ab f.bytes.length cb,.int .u32 f.funcs,.int .u32 f.tweak].toArray 31))
 generalize World.alloc w _ = w1 at HF1 HB1 ⊢
 obtain ⟨N,hN⟩ : ∃ N,N = w.heap.size := ⟨_,rfl⟩
 rw [← hN] at HB1 ⊢
 clear hN
 refine seg_begin (fun w' => Fr [] w1 w') (by kernel_rfl) ?_
 refine seg_quiet (fuel := 3) (by kernel_rfl) (fun d _ _ _ _ h => by cases d <;> exact h) ((Fr.refl _ _).drew) [0,1,2,3,4,5,7,8,9,10,11] _ _ (by kernel_rfl) ?_
 simp only [pickL,nthO]
 refine wpQuiet_rfl (.int .u32 i) rfl (fun _ => rfl) ?_
 simp only [Act.put,nA,nB,nC]
 refine wpQuiet_run rfl (.int .u32 (IntKind.u32.wrap (i * 4221880213))) (fun w => run_mul .u32 23 23 (.tmp 7) _ rfl i 4221880213 rfl rfl) ?_
 simp only [Act.put,nA,nB,nC]
 refine wpQuiet_rfl (.pointer (some ⟨N,2,none⟩)) rfl (fun _ => rfl) ?_
 simp only [Act.put,nA,nB,nC]
 refine wpQuiet_load1 rfl 23 (.tmp 9) rfl N 2 rfl (.int .u32 f.tweak) _ (fun w' hf => (HB1.out.fr hf (by simp)).cell_at rfl) rfl rfl ?_
 simp only [Act.put,nA,nB,nC]
 refine wpQuiet_run rfl (.int .u32 (IntKind.u32.wrap (IntKind.u32.wrap (i * 4221880213) + f.tweak))) (fun w => run_add .u32 23 23 (.tmp 8) (.tmp 10) rfl _ _ rfl rfl) ?_
 simp only [Act.put,nA,nB,nC]
 refine wpQuiet_rfl (.slice a l.length cap) rfl (fun _ => rfl) ?_
 simp only [Act.put,nA,nB,nC]
 refine wpQuiet_rfl (.pointer (some ⟨N,0,none⟩)) rfl (fun _ => rfl) ?_
 simp only [Act.put,nA,nB,nC]
 refine wpQuiet_load1 rfl 29 (.tmp 14) rfl N 0 rfl (.slice ab f.bytes.length cb) _ (fun w' hf => (HB1.out.fr hf (by simp)).cell_at rfl) rfl rfl ?_
 simp only [Act.put,nA,nB,nC]
 iterate 1 go_big_quiet_step (((intro hw; first | with_reducible rfl | rfl | (simp [Result.andThen]; done) | (simp [Result.andThen]; rfl))))
 refine wpQuiet_run rfl (.int .i64 (8 * (f.bytes.length : Int))) (fun w => by rw [run_mul .i64 3 3 _ (.tmp 16) rfl 8 (f.bytes.length : Int) rfl rfl,IntWalk.i64_in _ (by omega)]) ?_
 simp only [Act.put,nA,nB,nC]
 refine wpQuiet_rfl (.int .u32 (IntKind.u32.wrap (8 * (f.bytes.length : Int)))) rfl (fun _ => rfl) ?_
 simp only [Act.put,nA,nB,nC]
 refine wpQuiet_nil ?_
 rw [IntWalk.u32_in (8 * (f.bytes.length : Int)) (by omega)]
 have e1 : IntKind.u32.wrap (IntKind.u32.wrap (i * 4221880213) + f.tweak) = (i * 4221880213 + f.tweak) % 4294967296 := by simp only [IntKind.wrap_u32]; omega
 rw [e1]
 have HI : Hid (bIdx f i l = murmur ((i * 4221880213 + f.tweak) % 4294967296) l % (8 * (f.bytes.length : Int))) := by show _ = _; rw [bIdx,Int.mul_comm 8]
 have hs : 0 ≤ (i * 4221880213 + f.tweak) % 4294967296 ∧ (i * 4221880213 + f.tweak) % 4294967296 < 4294967296 := by omega
 obtain ⟨s,hsq⟩ : ∃ s,s = (i * 4221880213 + f.tweak) % 4294967296 := ⟨_,rfl⟩
 rw [← hsq] at hs HI ⊢
 have Hs := hid hs
 clear hs hsq e1 hi0 hi1
 refine seg_act 6 rfl rfl (by kernel_rfl) ?_
 go_wp2_with fail
 refine (smurmur_c _ s _ l (Hhv.out.below (HF1.out.trans (Fr.refl [] _).drew).below) Hhu.out Hhl.out Hs.out).mono ?_
 rintro e w2 ⟨rfl,hf⟩
 have HF2 : Hid (Fr [] w1 w2) := (Fr.refl _ _).drew.trans hf
 clear hf
 have hmb := murmur_bd s l
 generalize murmur s l = m at hmb HI ⊢
 obtain ⟨m0,m1⟩ := hmb
 go_wp2_with fail
 refine ⟨HF2.out,fun _ => ?_⟩
 refine seg_quiet (fuel := 0) (by kernel_rfl) (fun d _ _ _ _ h => by cases d <;> exact h) (HF2.out) [12,13] _ _ (by kernel_rfl) ?_
 simp only [pickL,nthO]
 have hz : ¬ (8 * (f.bytes.length : Int) = 0) := by omega
 iterate 2 go_big_quiet_step (((intro hw; first | with_reducible rfl | rfl | (simp [Result.andThen]; done) | (simp [Result.andThen]; rfl))))
 refine wpQuiet_nil ?_
 refine seg_end (by kernel_rfl) ?_
 go_wp2_with fail
 go_ret
 refine ⟨congrArg (fun x => Ending.returned (.int .u32 x)) ?_,HF1.out.trans HF2.out⟩
 rw [HI.out]
end
end Go.Proofs.YtdllckiidegpcaaGreat
