/- A part of the walk of laws.FnPartial (part 23): contracts of functions that it comes to, and the plain laws that these lean on. Conditions stand in each contract. -/
import Derived.Test.YtdllckiidegpcaaGreatA18
import Derived.Test.YtdllckiidegpcaaGreatA21
set_option linter.unusedSimpArgs false
set_option linter.unusedVariables false
namespace Go.Proofs.YtdllckiidegpcaaGreat
open Go.RowKit
theorem xor_comm32 (x y : Int) : bits .xor .u32 x y = bits .xor .u32 y x := by
 show IntKind.u32.wrap ((BitVec.ofInt 32 x ^^^ BitVec.ofInt 32 y).toNat : Int) = IntKind.u32.wrap ((BitVec.ofInt 32 y ^^^ BitVec.ofInt 32 x).toNat : Int)
 rw [BitVec.xor_comm]
set_option maxRecDepth 8000 in
set_option maxHeartbeats 1000000 in
theorem murmur_i (w : World) (seed : Int) (v : Value) (l : List Int) (hv : Bytes w v l) (hu : U8 l) (hl : l.length ≤ 1000000) (hs : 0 ≤ seed ∧ seed < 4294967296) :
  Calls Tryz.prog 158 #[.int .u32 seed,v] w fun e w' => e = .returned (.int .u32 (murmur seed l)) ∧ Fr [] w w' := by
 obtain ⟨a,cap,rfl,h1,h2,h3⟩ := ints_cases hv
 have HV := hid hv; clear hv
 have Hu := hid hu; clear hu
 have Hl := hid hl; clear hl
 have H3 := hid h3; clear h3
 have Hs := hid hs; clear hs
 clear h1 h2
 have hn1 : (l.length : Int) ≤ 1000000 := by have := Hl.out; omega
 have hnd : (l.length : Int) / 4 = ((l.length / 4 : Nat) : Int) := by omega
 have Hnd := hid hnd; clear hnd
 go_enter Tryz.func158,Tryz.ntmps158
 go_wp2_with fail
 rw [Hnd.out]
 obtain ⟨q,hq⟩ : ∃ q,q = l.length / 4 := ⟨_,rfl⟩
 have hq4 : 4 * q ≤ l.length := by omega
 have Hq4 := hid hq4; clear hq4
 rw [← hq]
 have Hq := hid hq; clear hq
 go_loopg [6,9] (q) (fun gk v6 v9 wr => ∃ i,gk = q - i ∧ i ≤ q ∧ v9 = .int .u32 (i : Int) ∧ v6 = .int .u32 (mAbs seed l i) ∧ Fr [] w wr)
 case atStart => exact ⟨0,rfl,Nat.zero_le _,rfl,rfl,Fr.refl _ _⟩
 case round =>
  obtain ⟨i,rfl,hi,rfl,rfl,hf⟩ := hrel
  have HF := hid hf; clear hf
  by_cases hlt : i < q
  ·have hlti : (i : Int) < q := by omega
   have hi6 : (i : Int) ≤ 1000000 := by have := Hq4.out; have := Hl.out; omega
   go_upto_region 8 with fail
   have HV1 : Hid (BytesB w.heap.size wr (.slice a l.length cap) l) := RdB.below HV.out.rdB HF.out.below
   refine seg_begin (fun w' => Fr [] wr w') (by kernel_rfl) ?_
   refine seg_quiet (fuel := 2) (by kernel_rfl) (fun d _ _ _ _ h => by cases d <;> exact h) ((Fr.refl _ _).drew) [0,1,2,3,4] _ _ (by kernel_rfl) ?_
   simp only [pickL,nthO]
   refine wpQuiet_load rfl 318 (.global 0) rfl _ 0 rfl [] _ (fun w' hf j v h => by simp at h) rfl rfl (by kernel_rfl) ?_
   simp only [Act.put,nA,nB,nC]
   refine wpQuiet_rfl (.slice a l.length cap) rfl (fun _ => rfl) ?_
   simp only [Act.put,nA,nB,nC]
   refine wpQuiet_rfl (.int .u32 (i : Int)) rfl (fun _ => rfl) ?_
   simp only [Act.put,nA,nB,nC]
   refine wpQuiet_run rfl (.int .u32 ((i * 4 : Nat) : Int)) (fun w => by rw [run_mul .u32 23 23 (.tmp 24) _ rfl (i : Int) 4 rfl rfl,IntKind.wrap_u32]; congr 3; omega) ?_
   refine wpQuiet_slc_l rfl 29 (.tmp 23) (.tmp 25) rfl 5 (by kernel_rfl) (by kernel_rfl) .u32 rfl rfl HV1.out (by simp) (by have := Hq4.out; omega) ?_
   intro dv hdv
   rw [ic_drop] at hdv
   have HD : Hid (BytesB w.heap.size wr dv (l.drop (i * 4))) := by show RdB _ _ _ _ _; rw [List.length_drop]; exact hdv
   clear hdv
   refine wpQuiet_nil ?_
   refine seg_act 5 rfl rfl (by kernel_rfl) ?_
   go_wp2_with fail
   refine (u32_q wr.drew dv (l.drop (i * 4)) ((HD.out.below ((Below.refl _ _).drew.mono HF.out.size)).rd HF.out.size) (Hu.out.drop _) (by have := Hq4.out; simp; omega)).mono ?_
   rintro e w2 ⟨rfl,hf⟩
   have HF2 : Hid (Fr [] wr w2) := (Fr.refl _ _).drew.trans hf
   clear hf HD
   obtain ⟨k,hk⟩ : ∃ k,k = leNum ((l.drop (i * 4)).take 4) := ⟨_,rfl⟩
   rw [← hk]
   have HK := hid hk; clear hk
   have hkb : 0 ≤ k ∧ k ≤ 4294967295 := by
    rw [HK.out]; exact leNum_bd4 _ ((Hu.out.drop _).take _) (by simp; omega)
   obtain ⟨hk0,hk1⟩ := hkb
   go_wp2_with fail
   refine ⟨HF2.out,fun _ => ?_⟩
   refine seg_act 6 rfl rfl (by kernel_rfl) ?_
   go_wp2_with fail
   refine ⟨HF2.out,fun _ => ?_⟩
   refine seg_end (by kernel_rfl) ?_
   have hab := mAbs_bd seed l i Hs.out
   have HN : Hid (mAbs seed l (i + 1) = mRound (mAbs seed l i) k) := by
    show _ = _
    rw [HK.out,Nat.mul_comm i 4]; rfl
   obtain ⟨ha0,ha1⟩ := hab
   have ha2 : mAbs seed l i ≤ 4294967295 := by omega
   clear ha1
   generalize mAbs seed l i = hh at ha0 ha2 HN ⊢
   have HF3 : Hid (Fr [] w w2) := HF.out.trans HF2.out
   clear HV1
   go_wp2_with fail
   go_roundg (q - (i + 1))
   case measure => omega
   case rel => exact ⟨i + 1,rfl,by omega,by simp,by rw [HN.out]; rfl,HF3.out⟩
  ·obtain rfl : i = q := by omega
   have hq6 : (i : Int) ≤ 1000000 := by have := Hq4.out; have := Hl.out; omega
   have hab := mAbs_bd seed l i Hs.out
   have HM : Hid (mTail seed l = bits .xor .u32 (mAbs seed l i) (mMix (leNum (l.drop (4 * i))))) := by
    show _ = _
    unfold mTail; rw [← Hq.out]
   have HM0 : Hid (l.length % 4 = 0 → mTail seed l = mAbs seed l i) := by
    intro h; rw [mTail0 seed l Hs.out h,← Hq.out]
   obtain ⟨ha0,ha1⟩ := hab
   have ha2 : mAbs seed l i ≤ 4294967295 := by omega
   clear ha1
   generalize mAbs seed l i = hh at ha0 ha2 HM HM0 ⊢
   have HR : Hid (l.length = 4 * i + l.length % 4) := by have := Hq.out; show _ = _; omega
   go_upto_region 15 with fail
   refine wp_region_lit ?_
   obtain ⟨tq,htq⟩ : ∃ tq,tq = 4 * i := ⟨_,rfl⟩
   refine wpList_run (v := .int .u32 (i : Int)) rfl rfl ?_
   simp only [Act.put,nA,nB,nC]
   refine wpList_run (v := .int .u32 (tq : Int)) rfl (by rw [run_mul .u32 23 23 (.tmp 48) _ rfl (i : Int) 4 rfl rfl,IntKind.wrap_u32]; congr 3; omega) ?_
   simp only [Act.put,nA,nB,nC]
   refine wpList_run (v := .int .u32 (tq : Int)) rfl rfl ?_
   simp only [Act.put,nA,nB,nC]
   refine wpList_nil ?_
   simp only [Exit.then]
   rw [← htq] at HM HR
   clear htq
   have hr4 : l.length % 4 = 0 ∨ l.length % 4 = 1 ∨ l.length % 4 = 2 ∨ l.length % 4 = 3 := by omega
   have hband : bits .and .u32 (l.length : Int) 3 = ((l.length % 4 : Nat) : Int) := by
    rw [show (3 : Int) = ((3 : Nat) : Int) from rfl,and_u32 l.length 3 (by omega) (by decide),show l.length &&& 3 = l.length % 4 from Nat.and_two_pow_sub_one_eq_mod l.length 2]
   have ht6 : (tq : Int) ≤ 1000000 := by have := HR.out; have := Hl.out; omega
   rcases hr4 with hr | hr | hr | hr
   ·rw [hr] at hband
    have hb0 : bits .and .u32 (l.length : Int) 3 = 0 := hband
    clear hband
    have HM1 := hid (HM0.out hr)
    clear hr
    go_wp2_with fail
    go_ret
    refine ⟨congrArg (fun x => Ending.returned (.int .u32 x)) ?_,HF.out⟩
    rw [murmur,HM1.out]
    rfl
   ·rw [hr] at hband
    have hb0 : bits .and .u32 (l.length : Int) 3 = 1 := hband
    clear hband HM0
    have hlr : l.length = tq + 1 := by have := HR.out; omega
    have Hlr := hid hlr; clear hlr hr
    rcases H3.out with ⟨_,_,h⟩ | ⟨b,off,rfl,hb,hc⟩
    ·have := Hlr.out; rw [h] at this; simp at this
    have e0 : wr.cell? ⟨b,off + tq,none⟩ = some (.int .u8 (nth l tq)) := by
     rw [HF.out.cells.1 _ _ hb (by simp)]; exact hc _ (by have := Hlr.out; omega)
    have b0 := Hu.out.bd tq
    obtain ⟨x0,hx0⟩ : ∃ x,x = nth l tq := ⟨_,rfl⟩
    rw [← hx0] at e0 b0
    have HX0 := hid hx0; clear hx0
    obtain ⟨p0,q0⟩ := b0
    have i0 : (tq : Int) < l.length := by have := Hlr.out; omega
    clear hc
    have hle : leNum (l.drop tq) = x0 := by
     rw [drop_cons (by have := Hlr.out; omega),List.drop_eq_nil_of_le (by have := Hlr.out; omega)]
     simp only [leNum]
     rw [HX0.out]; omega
    have hxo : bits .xor .u32 0 x0 = x0 := xor0_u32' x0 p0 (by omega)
    have HXO := hid hxo; clear hxo
    have HLE := hid hle; clear hle
    go_wp2_with fail
    go_ret
    refine ⟨congrArg (fun x => Ending.returned (.int .u32 x)) ?_,HF.out⟩
    refine Eq.trans (rfl : _ = mF3 (mF2 (mF1 (bits .xor .u32 (bits .xor .u32 hh (mMix (bits .xor .u32 0 x0))) (l.length : Int))))) ?_
    rw [murmur,HM.out,HLE.out,HXO.out]
   ·rw [hr] at hband
    have hb0 : bits .and .u32 (l.length : Int) 3 = 2 := hband
    clear hband HM0
    have hlr : l.length = tq + 2 := by have := HR.out; omega
    have Hlr := hid hlr; clear hlr hr
    rcases H3.out with ⟨_,_,h⟩ | ⟨b,off,rfl,hb,hc⟩
    ·have := Hlr.out; rw [h] at this; simp at this
    have e0 : wr.cell? ⟨b,off + tq,none⟩ = some (.int .u8 (nth l tq)) := by
     rw [HF.out.cells.1 _ _ hb (by simp)]; exact hc _ (by have := Hlr.out; omega)
    have b0 := Hu.out.bd tq
    obtain ⟨x0,hx0⟩ : ∃ x,x = nth l tq := ⟨_,rfl⟩
    rw [← hx0] at e0 b0
    have HX0 := hid hx0; clear hx0
    obtain ⟨p0,q0⟩ := b0
    have i0 : (tq : Int) < l.length := by have := Hlr.out; omega
    have e1 : wr.cell? ⟨b,off + (tq + 1),none⟩ = some (.int .u8 (nth l (tq + 1))) := by
     rw [HF.out.cells.1 _ _ hb (by simp)]; exact hc _ (by have := Hlr.out; omega)
    have b1 := Hu.out.bd (tq + 1)
    obtain ⟨x1,hx1⟩ : ∃ x,x = nth l (tq + 1) := ⟨_,rfl⟩
    rw [← hx1] at e1 b1
    have HX1 := hid hx1; clear hx1
    obtain ⟨p1,q1⟩ := b1
    have i1 : (tq : Int) + 1 < l.length := by have := Hlr.out; omega
    clear hc
    have hle : leNum (l.drop tq) = x0 + x1 * 2 ^ 8 := by
     rw [drop_cons (by have := Hlr.out; omega),drop_cons (by have := Hlr.out; omega),List.drop_eq_nil_of_le (by have := Hlr.out; omega)]
     simp only [leNum]
     rw [HX0.out,HX1.out]; omega
    have ho1 : bits .xor .u32 (bits .xor .u32 0 (x1 * 256)) x0 = x0 + x1 * 2 ^ 8 := by
     rw [xor0_u32' (x1 * 256) (by omega) (by omega),xor_comm32]; exact xorI_u32 x0 x1 8 p0 (by omega) p1 (by omega) (by omega)
    have HXO := hid ho1; clear ho1
    have HLE := hid hle; clear hle
    go_wp2_with fail
    go_ret
    refine ⟨congrArg (fun x => Ending.returned (.int .u32 x)) ?_,HF.out⟩
    refine Eq.trans (rfl : _ = mF3 (mF2 (mF1 (bits .xor .u32 (bits .xor .u32 hh (mMix (bits .xor .u32 (bits .xor .u32 0 (x1 * 256)) x0))) (l.length : Int))))) ?_
    rw [murmur,HM.out,HLE.out,HXO.out]
   ·rw [hr] at hband
    have hb0 : bits .and .u32 (l.length : Int) 3 = 3 := hband
    clear hband HM0
    have hlr : l.length = tq + 3 := by have := HR.out; omega
    have Hlr := hid hlr; clear hlr hr
    rcases H3.out with ⟨_,_,h⟩ | ⟨b,off,rfl,hb,hc⟩
    ·have := Hlr.out; rw [h] at this; simp at this
    have e0 : wr.cell? ⟨b,off + tq,none⟩ = some (.int .u8 (nth l tq)) := by
     rw [HF.out.cells.1 _ _ hb (by simp)]; exact hc _ (by have := Hlr.out; omega)
    have b0 := Hu.out.bd tq
    obtain ⟨x0,hx0⟩ : ∃ x,x = nth l tq := ⟨_,rfl⟩
    rw [← hx0] at e0 b0
    have HX0 := hid hx0; clear hx0
    obtain ⟨p0,q0⟩ := b0
    have i0 : (tq : Int) < l.length := by have := Hlr.out; omega
    have e1 : wr.cell? ⟨b,off + (tq + 1),none⟩ = some (.int .u8 (nth l (tq + 1))) := by
     rw [HF.out.cells.1 _ _ hb (by simp)]; exact hc _ (by have := Hlr.out; omega)
    have b1 := Hu.out.bd (tq + 1)
    obtain ⟨x1,hx1⟩ : ∃ x,x = nth l (tq + 1) := ⟨_,rfl⟩
    rw [← hx1] at e1 b1
    have HX1 := hid hx1; clear hx1
    obtain ⟨p1,q1⟩ := b1
    have i1 : (tq : Int) + 1 < l.length := by have := Hlr.out; omega
    have e2 : wr.cell? ⟨b,off + (tq + 2),none⟩ = some (.int .u8 (nth l (tq + 2))) := by
     rw [HF.out.cells.1 _ _ hb (by simp)]; exact hc _ (by have := Hlr.out; omega)
    have b2 := Hu.out.bd (tq + 2)
    obtain ⟨x2,hx2⟩ : ∃ x,x = nth l (tq + 2) := ⟨_,rfl⟩
    rw [← hx2] at e2 b2
    have HX2 := hid hx2; clear hx2
    obtain ⟨p2,q2⟩ := b2
    have i2 : (tq : Int) + 2 < l.length := by have := Hlr.out; omega
    clear hc
    have hle : leNum (l.drop tq) = x0 + x1 * 2 ^ 8 + x2 * 2 ^ 16 := by
     rw [drop_cons (by have := Hlr.out; omega),drop_cons (by have := Hlr.out; omega),drop_cons (by have := Hlr.out; omega),List.drop_eq_nil_of_le (by have := Hlr.out; omega)]
     simp only [leNum,Nat.add_assoc,Nat.reduceAdd]
     rw [HX0.out,HX1.out,HX2.out]; omega
    have ho1 : bits .xor .u32 (bits .xor .u32 (bits .xor .u32 0 (x2 * 65536)) (x1 * 256)) x0 = x0 + x1 * 2 ^ 8 + x2 * 2 ^ 16 := by
     rw [xor0_u32' (x2 * 65536) (by omega) (by omega),xor_comm32,xor_comm32 (x2 * 65536) (x1 * 256)]
     have h1 : bits .xor .u32 (x1 * 256) (x2 * 65536) = (x1 + x2 * 256) * 256 := by
      have := xorI_u32 (x1 * 256) x2 16 (by omega) (by omega) p2 (by omega) (by omega)
      rw [show (65536 : Int) = 2 ^ 16 from rfl,this]; omega
     rw [h1]
     exact (xorI_u32 x0 (x1 + x2 * 256) 8 p0 (by omega) (by omega) (by omega) (by omega)).trans (by omega)
    have HXO := hid ho1; clear ho1
    have HLE := hid hle; clear hle
    go_wp2_with fail
    go_ret
    refine ⟨congrArg (fun x => Ending.returned (.int .u32 x)) ?_,HF.out⟩
    refine Eq.trans (rfl : _ = mF3 (mF2 (mF1 (bits .xor .u32 (bits .xor .u32 hh (mMix (bits .xor .u32 (bits .xor .u32 (bits .xor .u32 0 (x2 * 65536)) (x1 * 256)) x0))) (l.length : Int))))) ?_
    rw [murmur,HM.out,HLE.out,HXO.out]
/-- The bit that hash number i names. -/
def bIdx (f : Blm) (i : Int) (b : List Int) : Int := murmur ((i * 4221880213 + f.tweak) % 4294967296) b % ((f.bytes.length : Int) * 8)
/-- The bit at p is set. -/
def hitB (bytes : List Int) (p : Nat) : Bool := (nth bytes (p / 8)).toNat.testBit (p % 8)
/-- The filter may have bytes. -/
def bHas (f : Blm) (b : List Int) : Bool := (List.range f.funcs.toNat).all fun i => hitB f.bytes (bIdx f (i : Int) b).toNat
theorem and_one_bit (x : Int) (q : Nat) (h0 : 0 ≤ x) (h1 : x ≤ 255) (hq : q ≤ 7) : (bits .and .u8 x (2 ^ q % 256) == 0) = !(x.toNat.testBit q) := by
 obtain ⟨n,rfl⟩ := Int.eq_ofNat_of_zero_le h0
 have hq' : q = 0 ∨ q = 1 ∨ q = 2 ∨ q = 3 ∨ q = 4 ∨ q = 5 ∨ q = 6 ∨ q = 7 := by omega
 have e : ((2 : Int) ^ q % 256) = ((2 ^ q : Nat) : Int) := by rcases hq' with h | h | h | h | h | h | h | h <;> subst h <;> rfl
 have hp : 2 ^ q < 2 ^ 8 := Nat.pow_lt_pow_right (by omega) (by omega)
 have ha : n &&& 2 ^ q = if n.testBit q then 2 ^ q else 0 := by
  apply Nat.eq_of_testBit_eq
  intro j
  rw [Nat.testBit_and,Nat.testBit_two_pow]
  by_cases hj : q = j
  ·subst hj
   cases h : n.testBit q <;> simp
  ·cases h : n.testBit q <;> simp [hj,Nat.testBit_two_pow]
 rw [e,and_u8 n _ (by omega) hp,ha,Int.toNat_natCast]
 have hpos : 0 < 2 ^ q := Nat.two_pow_pos q
 cases h : n.testBit q
 ·simp
 ·simp; omega
theorem all_range_succ (f : Nat → Bool) (n : Nat) : (List.range (n + 1)).all f = ((List.range n).all f && f n) := by
 rw [List.range_succ,List.all_append]; simp
theorem all_range_at (f : Nat → Bool) (n i : Nat) (h : i < n) (hf : f i = false) : (List.range n).all f = false := by
 rw [List.all_eq_false]; exact ⟨i,List.mem_range.mpr h,by simp [hf]⟩
theorem hash_q (w : World) (g m a cap : Nat) (st : Int) (f : Blm) (flag : Int) (hF : FltAt w g m a cap st f flag) (i : Int) (v : Value) (l : List Int) (hv : Bytes w v l) (hu : U8 l) (hl : l.length ≤ 1000000) (h1 : 1 ≤ f.bytes.length) (h2 : f.bytes.length ≤ 1000000) :
  Calls Tryz.prog 134 #[.pointer (some ⟨g,0,none⟩),.int .u32 i,v] w fun e w' => e = .returned (.int .u32 (bIdx f i l)) ∧ Fr [] w w' := by
 have c1 : w.cell? ⟨g,2,none⟩ = some (.pointer (some ⟨m,0,none⟩)) := hF.top.cell_at rfl
 have c2 : w.cell? ⟨m,0,none⟩ = some (.slice (some ⟨a,0,none⟩) f.bytes.length cap) := hF.msg.cell_at rfl
 have c3 : w.cell? ⟨m,2,none⟩ = some (.int .u32 f.tweak) := hF.msg.cell_at rfl
 have hgl := hF.top.lt
 have hml := hF.msg.lt
 have HFl := hid hF; clear hF
 have HV := hid hv; clear hv
 have Hu := hid hu; clear hu
 have Hl := hid hl; clear hl
 have hn1 : (1 : Int) ≤ f.bytes.length := by omega
 have hn2 : (f.bytes.length : Int) ≤ 1000000 := by omega
 clear h1 h2
 go_enter Tryz.func134,Tryz.ntmps134
 go_wp2_with fail
 refine (murmur_i w _ v l HV.out Hu.out Hl.out (by omega)).mono ?_
 rintro e w1 ⟨rfl,hf⟩
 have HF1 := hid hf
 have hmb := murmur_bd ((i * 4221880213 + f.tweak) % 4294967296) l
 obtain ⟨mm,hmm⟩ : ∃ mm,mm = murmur ((i * 4221880213 + f.tweak) % 4294967296) l := ⟨_,rfl⟩
 rw [← hmm] at hmb ⊢
 have hm0 := hmb.1
 have Hmm := hid hmm
 clear hmm hmb
 have c1' : w1.cell? ⟨g,2,none⟩ = some (.pointer (some ⟨m,0,none⟩)) := (HFl.out.grow hf).top.cell_at rfl
 have c2' : w1.cell? ⟨m,0,none⟩ = some (.slice (some ⟨a,0,none⟩) f.bytes.length cap) := (HFl.out.grow hf).msg.cell_at rfl
 have hgl' := (HFl.out.grow hf).top.lt
 have hml' := (HFl.out.grow hf).msg.lt
 clear hf c1 c2 c3 hgl hml
 go_wp2_with fail
 go_ret
 refine ⟨congrArg (fun x => Ending.returned (.int .u32 x)) ?_,HF1.out⟩
 unfold bIdx
 rw [← Hmm.out]
set_option maxRecDepth 8000 in
theorem matches_c (w : World) (g m a cap : Nat) (st : Int) (f : Blm) (flag : Int) (hF : FltAt w g m a cap st f flag) (v : Value) (l : List Int) (hv : Bytes w v l) (hu : U8 l) (hl : l.length ≤ 1000000) (h1 : 1 ≤ f.bytes.length) (h2 : f.bytes.length ≤ 1000000) (h3 : 1 ≤ f.funcs) (h4 : f.funcs ≤ 50) (hb : U8 f.bytes) :
  Calls Tryz.prog 106 #[.pointer (some ⟨g,0,none⟩),v] w fun e w' => e = .returned (.bool (bHas f l)) ∧ Fr [] w w' := by
 have c1 : w.cell? ⟨g,2,none⟩ = some (.pointer (some ⟨m,0,none⟩)) := hF.top.cell_at rfl
 have hgl := hF.top.lt
 have HFl := hid hF; clear hF
 have HV := hid hv; clear hv
 have Hu := hid hu; clear hu
 have Hl := hid hl; clear hl
 have Hb := hid hb; clear hb
 go_enter Tryz.func106,Tryz.ntmps106
 go_wp2_with fail
 clear c1 hgl
 go_loopg [5] (f.funcs.toNat) (fun gk v5 wr => ∃ i,gk = f.funcs.toNat - i ∧ i ≤ f.funcs.toNat ∧ v5 = .int .u32 (i : Int) ∧ (List.range i).all (fun i => hitB f.bytes (bIdx f (i : Int) l).toNat) = true ∧ Fr [] w wr)
 case atStart => exact ⟨0,rfl,Nat.zero_le _,rfl,rfl,Fr.refl _ _⟩
 case round =>
  obtain ⟨i,rfl,hi,rfl,ha,hf⟩ := hrel
  have HA := hid ha; clear ha
  have HFl1 := hid (HFl.out.grow hf)
  have HF := hid hf; clear hf
  have c1 : wr.cell? ⟨g,2,none⟩ = some (.pointer (some ⟨m,0,none⟩)) := HFl1.out.top.cell_at rfl
  have c2 : wr.cell? ⟨m,1,none⟩ = some (.int .u32 f.funcs) := HFl1.out.msg.cell_at rfl
  have hgl := HFl1.out.top.lt
  have hml := HFl1.out.msg.lt
  by_cases hlt : (i : Int) < f.funcs
  ·go_wp2_with fail
   refine (hash_q wr g m a cap st f flag HFl1.out i v l (HV.out.below HF.out.below) Hu.out Hl.out h1 h2).mono ?_
   rintro e w1 ⟨rfl,hf⟩
   have HFl2 := hid (HFl1.out.grow hf)
   have HF2 := hid (HF.out.trans hf)
   clear hf c1 c2 hgl hml
   have c1 : w1.cell? ⟨g,2,none⟩ = some (.pointer (some ⟨m,0,none⟩)) := HFl2.out.top.cell_at rfl
   have c2 : w1.cell? ⟨m,0,none⟩ = some (.slice (some ⟨a,0,none⟩) f.bytes.length cap) := HFl2.out.msg.cell_at rfl
   have hgl := HFl2.out.top.lt
   have hml := HFl2.out.msg.lt
   obtain ⟨x,hx⟩ : ∃ x,x = bIdx f i l := ⟨_,rfl⟩
   rw [← hx]
   have hx0 : 0 ≤ x := by rw [hx]; exact Int.emod_nonneg _ (by omega)
   have hx1 : x < (f.bytes.length : Int) * 8 := by rw [hx]; exact Int.emod_lt_of_pos _ (by omega)
   have Hx := hid hx; clear hx
   obtain ⟨p,rfl⟩ := Int.eq_ofNat_of_zero_le hx0
   have hp : p / 8 < f.bytes.length := by omega
   have hpi : (p : Int) / 8 < f.bytes.length := by omega
   have e1 : w1.cell? ⟨a,p / 8,none⟩ = some (.int .u8 (nth f.bytes (p / 8))) := by
    obtain ⟨post,hpost⟩ := HFl2.out.arr
    exact hpost.cell_at (by rw [List.getElem?_append_left (by simpa using hp),List.getElem?_eq_getElem (by simpa using hp),ic_nth])
   obtain ⟨q,hq⟩ : ∃ q,q = p % 8 := ⟨_,rfl⟩
   have hq7 : q ≤ 7 := by omega
   have hqi : (q : Int) ≤ 7 := by omega
   have hand7 : bits .and .u32 (p : Int) 7 = (q : Int) := by
    rw [show (7 : Int) = ((7 : Nat) : Int) from rfl,and_u32 p 7 (by omega) (by decide),hq,show p &&& 7 = p % 8 from Nat.and_two_pow_sub_one_eq_mod p 3]
   have Hq := hid hq; clear hq
   have hal : a < w1.heap.size := by obtain ⟨post,hpost⟩ := HFl2.out.arr; exact hpost.lt
   have hbd := Hb.out.bd (p / 8)
   have hob := and_one_bit (nth f.bytes (p / 8)) q hbd.1 hbd.2 hq7
   have Hbit : Hid (hitB f.bytes (bIdx f (i : Int) l).toNat = (nth f.bytes (p / 8)).toNat.testBit q) := by
    show _ = _
    rw [← Hx.out,Int.toNat_natCast,hitB,← Hq.out]
   have hilt : i < f.funcs.toNat := by omega
   have hi50 : (i : Int) ≤ 50 := by omega
   clear hbd
   cases hbt : (nth f.bytes (p / 8)).toNat.testBit q
   ·rw [hbt] at hob Hbit
    have hob' : (bits .and .u8 (nth f.bytes (p / 8)) (2 ^ q % 256) == 0) = true := hob
    clear hob hbt
    have HT : Hid (bHas f l = false) := all_range_at _ _ _ hilt Hbit.out
    go_wp2_with fail
    go_ret
    exact ⟨congrArg (fun b => Ending.returned (.bool b)) HT.out.symm,HF2.out⟩
   ·rw [hbt] at hob Hbit
    have hob' : (bits .and .u8 (nth f.bytes (p / 8)) (2 ^ q % 256) == 0) = false := hob
    clear hob hbt
    have HT : Hid ((List.range (i + 1)).all (fun i => hitB f.bytes (bIdx f (i : Int) l).toNat) = true) := by
     show _ = _
     rw [all_range_succ,HA.out,Hbit.out]; rfl
    go_wp2_with fail
    go_roundg (f.funcs.toNat - (i + 1))
    case measure => omega
    case rel => exact ⟨i + 1,rfl,by omega,by simp,HT.out,HF2.out⟩
  ·have HT : Hid (bHas f l = true) := by
    have : i = f.funcs.toNat := by omega
    rw [this] at HA
    exact HA
   have hdec : decide (0 < f.funcs) = true := decide_eq_true (by omega)
   go_wp2_with fail
   go_ret
   exact ⟨congrArg (fun b => Ending.returned (.bool b)) HT.out.symm,HF.out⟩
end Go.Proofs.YtdllckiidegpcaaGreat
