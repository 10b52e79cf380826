/- A part of the walk of laws.FnPartial (part 38): contracts of functions that it comes to, and the plain laws that these lean on. Conditions stand in each contract. -/
import Derived.Test.YtdllckiidegpcaaGreatA31
import Derived.Test.YtdllckiidegpcaaGreatA32
import Derived.Test.YtdllckiidegpcaaGreatA33
set_option linter.unusedSimpArgs false
set_option linter.unusedVariables false
set_option maxHeartbeats 4000000
namespace Go.Proofs.YtdllckiidegpcaaGreat
open Go.RowKit
section
set_option maxRecDepth 8000
def MtuR (K : List Int) (t : Tx) (g m a cap : Nat) (flag : Int) (gt mB : Nat) (idx : Int) (f : Blm) (w : World) (e : Ending) (w' : World) : Prop :=
 e = .returned (.bool (mTx K flag f t).1) ∧ Fr [g,a,gt] w w' ∧ FltAt w' g m a cap 0 (mTx K flag f t).2 flag ∧ ∃ hp,Blk w' gt 204 (utx mB hp idx) ∧ HpOk K w' t hp
theorem matchU_c (K : List Int) (hK : K.length = 64) (t : Tx) (g m a cap : Nat) (flag : Int) (gt mB : Nat) (idx : Int) (f : Blm) (w : World) (hF : FltAt w g m a cap 0 f flag) (hp : Value) (hx : Blk w gt 204 (utx mB hp idx)) (hh : HpOk K w t hp) (B : Nat) (hBw : B ≤ w.heap.size) (hKc : Blk w 1 379 (ic .u32 K)) (d : List Value) (ht : t.Ok) (hs : t.Small) (hD : Blk w mB 227 d) (hE : MsgTxT B w d t) (hDB : mB < B) (hlen : (txB t).length ≤ 5000000)
  (hBG : B ≤ g) (hBa : B ≤ a) (hBg : B ≤ gt) (hK1 : 1 < B) (hfg : FGood f) (hfl : 0 ≤ flag ∧ flag ≤ 2) :
  Calls Tryz.prog 38 #[.pointer (some ⟨g,0,none⟩),.pointer (some ⟨gt,0,none⟩)] w (MtuR K t g m a cap flag gt mB idx f w) := by
 have HM : Hid (∀ w1,Fr [g] w w1 → FltAt w1 g m a cap 1 f flag → Calls Tryz.prog 75 #[.pointer (some ⟨g,0,none⟩),.pointer (some ⟨gt,0,none⟩)] w1 fun e w' => e = .returned (.bool (mTx K flag f t).1) ∧ MxS K t g m a cap 1 flag gt mB idx (mTx K flag f t).2 w1 w') := by
  intro w1 hf hl
  have hn : gt ≠ g := blk_ne hx hF.top (by decide)
  refine matchTx_c K hK t g m a cap 1 flag gt mB idx f w1 ⟨Fr.refl _ _,hl,hp,hx.fr hf (by simpa using hn), ?_⟩ B (Nat.le_trans hBw hf.size) (hKc.fr hf (by simp; omega)) d ht hs (hD.fr hf (by simp; omega)) (hE.below (hf.to_below hBw (by intro k hk; simp at hk; subst hk; exact hBG))) hDB hlen hBa hBg hK1 hfg hfl
  rcases hh with hh | ⟨P,hh,hP⟩
  ·exact .inl hh
  ·exact .inr ⟨P,hh,hP.fr hf (by simpa using (blk_ne hP hF.top (by decide)))⟩
 have HFl := hid hF
 have hgl := hF.top.lt
 clear hF hx hh hKc hE hD hBG hBa hBg hK1 hfg hfl hDB hlen hK
 go_enter Tryz.func38,Tryz.ntmps38
 go_wp2_with fail
 refine (lock_c w g m a cap f flag HFl.out).mono ?_
 rintro e w1 ⟨rfl,hf,hl⟩
 have HF1 := hid hf
 have HL1 := hid hl
 clear hf hl
 have hgl1 := HL1.out.top.lt
 go_wp2_with fail
 refine (HM.out w1 HF1.out HL1.out).mono ?_
 rintro e w2 ⟨rfl,hS⟩
 have HS := hid hS; clear hS
 obtain ⟨R,hR⟩ : ∃ R,R = mTx K flag f t := ⟨_,rfl⟩
 rw [← hR] at HS ⊢
 have HR := hid hR; clear hR
 have hgl2 := HS.out.flt.top.lt
 go_wp2_with fail
 refine (unlock_c w2 g m a cap R.2 flag HS.out.flt).mono ?_
 rintro e w3 ⟨rfl,hf,hl⟩
 have HF3 := hid hf
 have HL3 := hid hl
 clear hf hl
 go_wp2_with fail
 go_ret
 refine ⟨by rw [← HR.out]; rfl,((HF1.out.mono (by simp)).trans (HS.out.fr.mono (by simp))).trans (HF3.out.mono (by simp)),by rw [← HR.out]; exact HL3.out, ?_⟩
 obtain ⟨hp',h1,h2⟩ := HS.out.tx
 have hn : gt ≠ g := blk_ne h1 HS.out.flt.top (by decide)
 refine ⟨hp',h1.fr HF3.out (by simpa using hn), ?_⟩
 rcases h2 with h2 | ⟨P,h2,hP⟩
 ·exact .inl h2
 ·exact .inr ⟨P,h2,hP.fr HF3.out (by simpa using (blk_ne hP HS.out.flt.top (by decide)))⟩
end
section
set_option maxRecDepth 8000
theorem shr_one_bit (x : Int) (q : Nat) (h0 : 0 ≤ x) (h1 : x ≤ 255) : (bits .and .u8 (x / 2 ^ q) 1 == 0) = !(x.toNat.testBit q) := by
 obtain ⟨n,rfl⟩ := Int.eq_ofNat_of_zero_le h0
 have e : ((n : Int) / 2 ^ q) = ((n / 2 ^ q : Nat) : Int) := by simp
 have hd : n / 2 ^ q ≤ n := Nat.div_le_self _ _
 rw [e,show (1 : Int) = ((1 : Nat) : Int) from rfl,and_u8 _ 1 (by omega) (by decide),Int.toNat_natCast]
 have h2 : (n / 2 ^ q) &&& 1 = (n / 2 ^ q) % 2 := Nat.and_two_pow_sub_one_eq_mod _ 1
 rw [h2]
 have ht : n.testBit q = decide ((n / 2 ^ q) % 2 = 1) := by rw [Nat.testBit_eq_decide_div_mod_eq]
 rw [ht]
 rcases Nat.mod_two_eq_zero_or_one (n / 2 ^ q) with h | h <;> rw [h] <;> rfl
theorem sHas_c (w : World) (B : Nat) (hBw : B ≤ w.heap.size) (c : List Value) (f : Blm) (hc : BlmE B w c f) (hg : FGood f) (v : Value) (l : List Int) (hv : Bytes w v l) (hu : U8 l) (hl : l.length ≤ 1000000) :
  Calls Tryz.prog 55 #[.agg c.toArray,v] w fun e w' => e = .returned (.bool (bHas f l)) ∧ Fr [] w w' := by
 obtain ⟨bv,rfl,hbv⟩ := hc
 obtain ⟨ab,cb,rfl,hq1,hq2⟩ := hbv.form
 clear hq1 hq2
 have h1i : (1 : Int) ≤ f.bytes.length := by have := hg.1; omega
 have h2i : (f.bytes.length : Int) ≤ 1000000 := by have := hg.2.1; omega
 have h1n : ((f.bytes.length : Int) == 0) = false := by rw [beq_eq_false_iff_ne]; omega
 have h50 : f.funcs ≤ 50 := hg.2.2.2.1
 have Hhbv := hid hbv; clear hbv
 have Hhv := hid hv; clear hv
 have Hhu := hid hu; clear hu
 have Hhl := hid hl; clear hl
 have Hhg := hid hg; clear hg
 go_enter Tryz.func55,Tryz.ntmps55
 go_upto_region 1 with fail
 have HF1 : Hid (Fr [] w (w.alloc (.cells [.slice ab f.bytes.length cb,.int .u32 f.funcs,.int .u32 f.tweak].toArray 31))) := (Fr.refl _ _).alloc _
 have HB1 : Hid (Blk (w.alloc (.cells [.slice ab f.bytes.length cb,.int .u32 f.funcs,.int .u32 f.tweak].toArray 31)) w.heap.size 31 [.slice ab f.bytes.length cb,.int .u32 f.funcs,.int .u32 f.tweak]) := Blk.new _ _ _
 change Code.wp _ _ _ _ (w.alloc (.cells [.slice ab f.bytes.length cb,.int .u32 f.funcs,.int .u32 f.tweak].toArray 31))
 generalize World.alloc w _ = w1 at HF1 HB1 ⊢
 obtain ⟨N,hN⟩ : ∃ N,N = w.heap.size := ⟨_,rfl⟩
 rw [← hN] at HB1 ⊢
 clear hN
 have c0 : w1.cell? ⟨N,0,none⟩ = some (.slice ab f.bytes.length cb) := HB1.out.cell_at rfl
 have hl1 := HB1.out.lt
 go_wp2_with fail
 clear c0 hl1 h1n
 go_loopg [5] (f.funcs.toNat) (fun gk v5 wr => ∃ i,gk = f.funcs.toNat - i ∧ i ≤ f.funcs.toNat ∧ v5 = .int .u32 (i : Int) ∧ (List.range i).all (fun i => hitB f.bytes (bIdx f (i : Int) l).toNat) = true ∧ Fr [] w1 wr)
 case atStart => exact ⟨0,rfl,Nat.zero_le _,rfl,rfl,Fr.refl _ _⟩
 case round =>
  obtain ⟨i,rfl,hi,rfl,ha,hf⟩ := hrel
  have HA := hid ha; clear ha
  have HF := hid hf; clear hf
  have HBr := hid (HB1.out.fr HF.out (by simp))
  have c0 : wr.cell? ⟨N,0,none⟩ = some (.slice ab f.bytes.length cb) := HBr.out.cell_at rfl
  have c1 : wr.cell? ⟨N,1,none⟩ = some (.int .u32 f.funcs) := HBr.out.cell_at rfl
  have c2 : wr.cell? ⟨N,2,none⟩ = some (.int .u32 f.tweak) := HBr.out.cell_at rfl
  have hlr := HBr.out.lt
  have HFw : Hid (Fr [] w wr) := HF1.out.trans HF.out
  by_cases hlt : (i : Int) < f.funcs
  ·have hi50 : (i : Int) ≤ 50 := by omega
   go_wp2_with fail
   refine (bit_c wr B (Nat.le_trans hBw HFw.out.size) [.slice ab f.bytes.length cb,.int .u32 f.funcs,.int .u32 f.tweak] f ⟨_,rfl,Hhbv.out.below (HFw.out.below.mono hBw)⟩ i (by omega) (by omega) v l (Hhv.out.below HFw.out.below) Hhu.out Hhl.out Hhg.out.1 Hhg.out.2.1).mono ?_
   rintro e w2 ⟨rfl,hf⟩
   have HF2 : Hid (Fr [] w1 w2) := HF.out.trans hf
   clear hf c0 c1 c2 hlr
   have HB2 := hid (HB1.out.fr HF2.out (by simp))
   have c0 : w2.cell? ⟨N,0,none⟩ = some (.slice ab f.bytes.length cb) := HB2.out.cell_at rfl
   have hl2 := HB2.out.lt
   obtain ⟨x,hx⟩ : ∃ x,x = bIdx f i l := ⟨_,rfl⟩
   rw [← hx]
   have hx0 : 0 ≤ x := by rw [hx]; exact Int.emod_nonneg _ (by omega)
   have hx1 : x < (f.bytes.length : Int) * 8 := by rw [hx]; exact Int.emod_lt_of_pos _ (by omega)
   have Hx := hid hx; clear hx
   obtain ⟨p,rfl⟩ := Int.eq_ofNat_of_zero_le hx0
   have hp : p / 8 < f.bytes.length := by omega
   have hpi : (p : Int) / 8 < f.bytes.length := by omega
   have HFw2 : Hid (Fr [] w w2) := HF1.out.trans HF2.out
   obtain ⟨_,_,he,_,_,hcs⟩ := Hhbv.out.below (HFw2.out.below.mono hBw)
   rcases hcs with ⟨_,_,h⟩ | ⟨b,off,rfl,hb,hcs⟩
   ·exfalso
    have : (ic .u8 f.bytes).length = 0 := by rw [h]; rfl
    rw [ic_length] at this; omega
   simp only [Value.slice.injEq] at he
   obtain ⟨rfl,_,rfl⟩ := he
   have e1 : w2.cell? ⟨b,off + p / 8,none⟩ = some (.int .u8 (nth f.bytes (p / 8))) := by rw [hcs (p / 8) (by simpa using hp),ic_nth]
   have hbl : b < w2.heap.size := Nat.lt_of_lt_of_le hb (Nat.le_trans hBw HFw2.out.size)
   clear hcs hb
   obtain ⟨q,hq⟩ : ∃ q,q = p % 8 := ⟨_,rfl⟩
   have hq7 : q ≤ 7 := by omega
   have hqi : (q : Int) ≤ 7 := by omega
   have hmod : (p : Int) % 8 = (q : Int) := by omega
   have hbd := Hhg.out.2.2.2.2.bd (p / 8)
   have hob := shr_one_bit (nth f.bytes (p / 8)) q hbd.1 hbd.2
   have Hbit : Hid (hitB f.bytes (bIdx f (i : Int) l).toNat = (nth f.bytes (p / 8)).toNat.testBit q) := by
    show _ = _
    rw [← Hx.out,Int.toNat_natCast,hitB,← hq]
   have hilt : i < f.funcs.toNat := by omega
   have hx0' : (0 : Int) ≤ p := by omega
   have hxs : (p : Int) ≤ 8000000 := by omega
   clear hq hx1
   obtain ⟨y,hy⟩ : ∃ y,y = nth f.bytes (p / 8) := ⟨_,rfl⟩
   rw [← hy] at e1 hob Hbit hbd
   clear hy
   obtain ⟨y0,y1⟩ := hbd
   cases hbt : y.toNat.testBit q
   ·rw [hbt] at hob Hbit
    have hob' : (bits .and .u8 (y / 2 ^ q) 1 == 0) = true := hob
    clear hob hbt
    have HT : Hid (bHas f l = false) := all_range_at _ _ _ hilt Hbit.out
    go_wp2_with fail
    go_ret
    exact ⟨congrArg (fun b => Ending.returned (.bool b)) HT.out.symm,HFw2.out⟩
   ·rw [hbt] at hob Hbit
    have hob' : (bits .and .u8 (y / 2 ^ q) 1 == 0) = false := hob
    clear hob hbt
    have HT : Hid ((List.range (i + 1)).all (fun i => hitB f.bytes (bIdx f (i : Int) l).toNat) = true) := by
     show _ = _
     rw [all_range_succ,HA.out,Hbit.out]; rfl
    go_wp2_with fail
    go_roundg (f.funcs.toNat - (i + 1))
    case measure => omega
    case rel => exact ⟨i + 1,rfl,by omega,by simp,HT.out,HF2.out⟩
  ·have HT : Hid (bHas f l = true) := by
    have : i = f.funcs.toNat := by omega
    rw [this] at HA
    exact HA
   go_wp2_with fail
   go_ret
   exact ⟨congrArg (fun b => Ending.returned (.bool b)) HT.out.symm,HFw.out⟩
theorem hasAny_c (w : World) (B : Nat) (hBw : B ≤ w.heap.size) (c : List Value) (f : Blm) (hc : BlmE B w c f) (hg : FGood f) (v : Value) (ls : List (List Int)) (hv : ListB B 1 (BytE B) w v ls) (hu : ∀ y ∈ ls,U8 y ∧ y.length ≤ 1000000) (hn : ls.length ≤ 1000000) :
  Calls Tryz.prog 56 #[.agg c.toArray,v] w fun e w' => e = .returned (.bool (ls.any (bHas f))) ∧ Fr [] w w' := by
 obtain ⟨bv,rfl,hbv⟩ := hc
 obtain ⟨av,cv,rfl,hq1,hq2⟩ := hv.len
 clear hq1 hq2
 have hn6 : (ls.length : Int) ≤ 1000000 := by omega
 have Hhbv := hid hbv; clear hbv
 have Hhv := hid hv; clear hv
 have Hhu := hid hu; clear hu
 have Hhg := hid hg; clear hg
 have Hhn := hid hn; clear hn
 go_enter Tryz.func56,Tryz.ntmps56
 go_upto_region 1 with fail
 have HF1 : Hid (Fr [] w (w.alloc (.cells [bv,.int .u32 f.funcs,.int .u32 f.tweak].toArray 31))) := (Fr.refl _ _).alloc _
 have HB1 : Hid (Blk (w.alloc (.cells [bv,.int .u32 f.funcs,.int .u32 f.tweak].toArray 31)) w.heap.size 31 [bv,.int .u32 f.funcs,.int .u32 f.tweak]) := Blk.new _ _ _
 change Code.wp _ _ _ _ (w.alloc (.cells [bv,.int .u32 f.funcs,.int .u32 f.tweak].toArray 31))
 generalize World.alloc w _ = w1 at HF1 HB1 ⊢
 obtain ⟨N,hN⟩ : ∃ N,N = w.heap.size := ⟨_,rfl⟩
 rw [← hN] at HB1 ⊢
 clear hN
 go_wp2_with fail
 go_loopg [5] (ls.length) (fun gk v5 wr => ∃ i,gk = ls.length - i ∧ i ≤ ls.length ∧ v5 = .int .i64 (i : Int) ∧ (ls.take i).any (bHas f) = false ∧ Fr [] w1 wr)
 case atStart => exact ⟨0,rfl,Nat.zero_le _,rfl,rfl,Fr.refl _ _⟩
 case round =>
  obtain ⟨i,rfl,hi,rfl,ha,hf⟩ := hrel
  have HA := hid ha; clear ha
  have HF := hid hf; clear hf
  have HBr := hid (HB1.out.fr HF.out (by simp))
  have HFw : Hid (Fr [] w wr) := HF1.out.trans HF.out
  by_cases hlt : i < ls.length
  ·have hlti : (i : Int) < ls.length := by omega
   obtain ⟨b,off,cap',cc,he,hb,hcl,hrg,sv,hcc,hsv⟩ := Hhv.out.at hlt (by decide)
   simp only [Value.slice.injEq] at he
   obtain ⟨rfl,_,rfl⟩ := he
   subst hcc
   have hcell := hrg wr (HFw.out.below.mono hBw) 0 sv rfl
   rw [Nat.mul_one,Nat.add_zero] at hcell
   have HC := hid hcell; clear hcell hrg hcl
   have HSV := hid (hsv.below (HFw.out.below.mono hBw)); clear hsv
   have hbl : b < wr.heap.size := Nat.lt_of_lt_of_le hb (Nat.le_trans hBw HFw.out.size)
   go_upto_region 4 with fail
   refine qtail 5 (by kernel_rfl) (by kernel_rfl) ?_
   simp only [List.take_succ_cons,List.take_zero,List.drop_succ_cons,List.drop_zero]
   refine wpQuiet_load rfl 31 (.tmp 2) rfl N 0 rfl [bv,.int .u32 f.funcs,.int .u32 f.tweak] _ (fun w' hw => by subst hw; exact HBr.out.range) rfl rfl (by kernel_rfl) ?_
   simp only [Act.put,nA,nB,nC]
   refine wpQuiet_rfl (.slice (some ⟨b,off,none⟩) ls.length cv) rfl (fun _ => rfl) ?_
   simp only [Act.put,nA,nB,nC]
   refine wpQuiet_rfl (.int .i64 (i : Int)) rfl (fun _ => rfl) ?_
   simp only [Act.put,nA,nB,nC]
   refine wpQuiet_index rfl 96 (.tmp 13) (.tmp 14) rfl b off ls.length cv i 1 .i64 29 rfl rfl hlt (by kernel_rfl) (by kernel_rfl) ?_
   simp only [Act.put,nA,nB,nC]
   refine wpQuiet_load1 rfl 29 (.tmp 15) rfl b (off + i * 1) rfl sv _ (fun w' hw => by subst hw; rw [Nat.mul_one]; exact HC.out) rfl rfl ?_
   simp only [Act.put,nA,nB,nC]
   refine wpQuiet_nil ?_
   have HY := hid (Hhu.out ls[i] (List.getElem_mem hlt))
   go_wp2_with fail
   refine (sHas_c wr.drew B (Nat.le_trans hBw HFw.out.size) [bv,.int .u32 f.funcs,.int .u32 f.tweak] f ⟨_,rfl,Hhbv.out.below ((HFw.out.trans (Fr.refl [] _).drew).below.mono hBw)⟩ Hhg.out sv ls[i] ((HSV.out.below (Below.refl _ _).drew).rd (Nat.le_trans hBw HFw.out.size)) HY.out.1 HY.out.2).mono ?_
   rintro e w2 ⟨rfl,hf⟩
   have HF2 : Hid (Fr [] w1 w2) := (HF.out.trans (Fr.refl [] _).drew).trans hf
   clear hf
   cases hbt : bHas f ls[i]
   ·have HT : Hid ((ls.take (i + 1)).any (bHas f) = false) := by show _ = _; rw [List.take_add_one,List.getElem?_eq_getElem hlt,List.any_append,HA.out]; simp [hbt]
    clear hbt
    go_wp2_with fail
    go_roundg (ls.length - (i + 1))
    case measure => omega
    case rel => exact ⟨i + 1,rfl,by omega,by simp,HT.out,HF2.out⟩
   ·have HT : Hid (ls.any (bHas f) = true) := by show _ = _; rw [List.any_eq_true]; exact ⟨_,List.getElem_mem hlt,hbt⟩
    clear hbt
    go_wp2_with fail
    go_ret
    exact ⟨congrArg (fun b => Ending.returned (.bool b)) HT.out.symm,HF1.out.trans HF2.out⟩
  ·have HT : Hid (ls.any (bHas f) = false) := by
    have h := HA.out
    rw [List.take_of_length_le (by omega)] at h; exact h
   go_wp2_with fail
   go_ret
   exact ⟨congrArg (fun b => Ending.returned (.bool b)) HT.out.symm,HFw.out⟩
/-- A filter whose bytes stand in a block of its own. -/
theorem blm_own {w : World} {A n cap : Nat} {post : List Value} {f : Blm} (h : Blk w A 5 (ic .u8 f.bytes ++ post)) (hn : n = f.bytes.length) (h1 : n ≤ cap) (h2 : cap ≤ maxLen) : BlmE w.heap.size w [.slice (some ⟨A,0,none⟩) n cap,.int .u32 f.funcs,.int .u32 f.tweak] f := by
 subst hn
 exact ⟨_,rfl,_,cap,rfl,h1,h2,.inr ⟨A,0,rfl,h.lt,fun i hi => by rw [Nat.zero_add]; exact h.cell_at (by rw [List.getElem?_append_left hi,List.getElem?_eq_getElem hi])⟩⟩
/-- A filter whose bytes stand in a block of bytes. -/
def BlmT (w : World) (c : List Value) (f : Blm) : Prop := ∃ bv,c = [bv,.int .u32 f.funcs,.int .u32 f.tweak] ∧ BytesT w.heap.size w bv f.bytes
theorem blm_ownT {w : World} {A n cap : Nat} {post : List Value} {f : Blm} (h : Blk w A 5 (ic .u8 f.bytes ++ post)) (hn : n = f.bytes.length) (h1 : n ≤ cap) (h2 : cap ≤ maxLen) : BlmT w [.slice (some ⟨A,0,none⟩) n cap,.int .u32 f.funcs,.int .u32 f.tweak] f := by
 subst hn
 exact ⟨_,rfl,_,cap,rfl,h1,h2,.inr ⟨A,0,_,_,rfl,h.lt,h,fun i hi => by rw [Nat.zero_add]; exact h.cell_at (by rw [List.getElem?_append_left hi,List.getElem?_eq_getElem hi])⟩⟩
set_option maxHeartbeats 2000000 in
theorem sAdd_c (w : World) (B : Nat) (hBw : B ≤ w.heap.size) (c : List Value) (f : Blm) (hc : BlmE B w c f) (hg : FGood f) (v : Value) (l : List Int) (hv : Bytes w v l) (hu : U8 l) (hl : l.length ≤ 1000000) :
  Calls Tryz.prog 59 #[.agg c.toArray,v] w fun e w' => ∃ c',e = .returned (.agg c'.toArray) ∧ Fr [] w w' ∧ BlmT w' c' (bAdd f l) := by
 obtain ⟨bv,rfl,hbv⟩ := hc
 obtain ⟨ab,cb,rfl,hq1,hq2⟩ := hbv.form
 clear hq1 hq2
 have h1i : (1 : Int) ≤ f.bytes.length := by have := hg.1; omega
 have h2i : (f.bytes.length : Int) ≤ 1000000 := by have := hg.2.1; omega
 have h1n : ((f.bytes.length : Int) == 0) = false := by rw [beq_eq_false_iff_ne]; omega
 have h50 : f.funcs ≤ 50 := hg.2.2.2.1
 have Hhbv := hid hbv; clear hbv
 have Hhv := hid hv; clear hv
 have Hhu := hid hu; clear hu
 have Hhl := hid hl; clear hl
 have Hhg := hid hg; clear hg
 go_enter Tryz.func59,Tryz.ntmps59
 go_upto_region 1 with fail
 have HF1 : Hid (Fr [] w ((w.alloc (.cells [.slice ab f.bytes.length cb,.int .u32 f.funcs,.int .u32 f.tweak].toArray 31)).alloc (.cells [.slice none 0 0,.int .u32 0,.int .u32 0].toArray 31))) := ((Fr.refl _ _).alloc _).alloc _
 have HB1 : Hid (Blk ((w.alloc (.cells [.slice ab f.bytes.length cb,.int .u32 f.funcs,.int .u32 f.tweak].toArray 31)).alloc (.cells [.slice none 0 0,.int .u32 0,.int .u32 0].toArray 31)) w.heap.size 31 [.slice ab f.bytes.length cb,.int .u32 f.funcs,.int .u32 f.tweak]) := (Blk.new _ _ _).alloc _
 have HR1 : Hid (Blk ((w.alloc (.cells [.slice ab f.bytes.length cb,.int .u32 f.funcs,.int .u32 f.tweak].toArray 31)).alloc (.cells [.slice none 0 0,.int .u32 0,.int .u32 0].toArray 31)) (w.heap.size + 1) 31 [.slice none 0 0,.int .u32 0,.int .u32 0]) := by
  have := Blk.new (w.alloc (.cells [.slice ab f.bytes.length cb,.int .u32 f.funcs,.int .u32 f.tweak].toArray 31)) [.slice none 0 0,.int .u32 0,.int .u32 0] 31
  rwa [show (w.alloc (.cells [.slice ab f.bytes.length cb,.int .u32 f.funcs,.int .u32 f.tweak].toArray 31)).heap.size = w.heap.size + 1 by simp] at this
 change Code.wp _ _ _ _ ((w.alloc (.cells [.slice ab f.bytes.length cb,.int .u32 f.funcs,.int .u32 f.tweak].toArray 31)).alloc (.cells [.slice none 0 0,.int .u32 0,.int .u32 0].toArray 31))
 generalize World.alloc (World.alloc w _) _ = w1 at HF1 HB1 HR1 ⊢
 obtain ⟨N,hN⟩ : ∃ N,N = w.heap.size := ⟨_,rfl⟩
 rw [← hN] at HB1 HR1 ⊢
 obtain ⟨R,hR⟩ : ∃ R,R = N + 1 := ⟨_,rfl⟩
 rw [← hR] at HR1 ⊢
 have HNw : Hid (w.heap.size ≤ N) := by show _ ≤ _; omega
 have HRw : Hid (w.heap.size ≤ R ∧ N ≠ R) := by show _ ∧ _; omega
 clear hN hR
 have HO2 : Hid (Fresh w1.heap.size (w1.alloc (.cells #[] 5)) (.slice (some ⟨w1.heap.size,0,none⟩) 0 0) []) := Fresh.empty w1
 have HF2 : Hid (Fr [] w1 (w1.alloc (.cells #[] 5))) := (Fr.refl _ _).alloc _
 have HX2 : Hid (Bytes (w1.alloc (.cells #[] 5)) (.slice ab f.bytes.length cb) f.bytes) := (Hhbv.out.below ((HF1.out.trans HF2.out).below.mono hBw)).rd (Nat.le_trans hBw (HF1.out.trans HF2.out).size)
 have HB0 : Hid (([] : List Int).length + f.bytes.length ≤ 140737488355328) := by show _ ≤ _; simp; omega
 have c0 : w1.cell? ⟨N,0,none⟩ = some (.slice ab f.bytes.length cb) := HB1.out.cell_at rfl
 have hNl := HB1.out.lt
 go_wp2_with (with_reducible refine wpList_appF (o := ⟨some 10,_,_,_,_,_⟩) rfl (.tmp 7) (.tmp 9) rfl w1 _ _ _ _ ?_ ?_ HO2.out HF2.out HX2.out HB0.out ?_)
 ·rfl
 ·rfl
 intro v3 w3 HO3 HF3 _
 clear HB0 HX2 HO2 HF2 hNl c0
 obtain ⟨A,cap,post,rfl,hA,hP,hc1,hc2⟩ := owns_bytes (l := f.bytes) HO3.out Hhg.out.1
 have HAw := hid hA
 have HP3 := hid hP
 have HC1 := hid hc1
 have HC2 := hid hc2
 clear HO3 hA hP hc1 hc2
 have HB3 := hid (HB1.out.fr HF3.out (by simp))
 have HR3 := hid (HR1.out.fr HF3.out (by simp))
 have HNA : Hid (N ≠ A) := by have := HB1.out.lt; have := HAw.out; show _ ≠ _; omega
 have HRA : Hid (R ≠ A) := by have := HR1.out.lt; have := HAw.out; show _ ≠ _; omega
 have c0 : w3.cell? ⟨N,0,none⟩ = some (.slice ab f.bytes.length cb) := HB3.out.cell_at rfl
 have f0 := HB3.out.free 0
 have hNl := HB3.out.lt
 go_upto_region 2 with fail
 have HF4 : Hid (Fr [] w (w3.setCell ⟨N,0,none⟩ (.slice (some ⟨A,0,none⟩) f.bytes.length cap))) := (HF1.out.trans HF3.out).andThen ((Fr.refl [N] w3).setCell _ _ (by simp)) (by intro k hk; simp at hk; subst hk; exact .inr HNw.out)
 have HB4 : Hid (Blk (w3.setCell ⟨N,0,none⟩ (.slice (some ⟨A,0,none⟩) f.bytes.length cap)) N 31 [.slice (some ⟨A,0,none⟩) f.bytes.length cap,.int .u32 f.funcs,.int .u32 f.tweak]) := HB3.out.set 0 _
 have HR4 : Hid (Blk (w3.setCell ⟨N,0,none⟩ (.slice (some ⟨A,0,none⟩) f.bytes.length cap)) R 31 [.slice none 0 0,.int .u32 0,.int .u32 0]) := HR3.out.set_ne _ _ (Ne.symm HRw.out.2)
 have HP4 : Hid (Blk (w3.setCell ⟨N,0,none⟩ (.slice (some ⟨A,0,none⟩) f.bytes.length cap)) A 5 (ic .u8 f.bytes ++ post)) := HP3.out.set_ne _ _ (Ne.symm HNA.out)
 have HAw4 : Hid (w.heap.size ≤ A) := Nat.le_trans HF1.out.size HAw.out
 change Code.wp _ _ _ _ (w3.setCell ⟨N,0,none⟩ (.slice (some ⟨A,0,none⟩) f.bytes.length cap))
 generalize World.setCell w3 _ _ = w4 at HF4 HB4 HR4 HP4 ⊢
 clear c0 f0 hNl HB3 HR3 HP3 HF3 HAw HB1 HR1 HF1
 have c0 : w4.cell? ⟨N,0,none⟩ = some (.slice (some ⟨A,0,none⟩) f.bytes.length cap) := HB4.out.cell_at rfl
 have hNl := HB4.out.lt
 go_wp2_with fail
 clear c0 hNl h1n
 go_loopg [5] (f.funcs.toNat) (fun gk v5 wr => ∃ i,gk = f.funcs.toNat - i ∧ i ≤ f.funcs.toNat ∧ v5 = .int .u32 (i : Int) ∧ Blk wr A 5 (ic .u8 (addN f l i) ++ post) ∧ Fr [A] w4 wr)
 case atStart => exact ⟨0,rfl,Nat.zero_le _,rfl,HP4.out,Fr.refl _ _⟩
 case round =>
  obtain ⟨i,rfl,hi,rfl,hp,hf⟩ := hrel
  have HP := hid hp; clear hp
  have HF := hid hf; clear hf
  have HBr := hid (HB4.out.fr HF.out (by simpa using HNA.out))
  have HFw : Hid (Fr [] w wr) := HF4.out.andThen HF.out (by intro k hk; simp at hk; subst hk; exact .inr HAw4.out)
  have c0 : wr.cell? ⟨N,0,none⟩ = some (.slice (some ⟨A,0,none⟩) f.bytes.length cap) := HBr.out.cell_at rfl
  have c1 : wr.cell? ⟨N,1,none⟩ = some (.int .u32 f.funcs) := HBr.out.cell_at rfl
  have c2 : wr.cell? ⟨N,2,none⟩ = some (.int .u32 f.tweak) := HBr.out.cell_at rfl
  have hlr := HBr.out.lt
  by_cases hlt : (i : Int) < f.funcs
  ·have hi50 : (i : Int) ≤ 50 := by omega
   have hlen := addN_length f l i
   have HE : Hid (BlmE wr.heap.size wr [.slice (some ⟨A,0,none⟩) f.bytes.length cap,.int .u32 f.funcs,.int .u32 f.tweak] { f with bytes := addN f l i }) := blm_own (f := { f with bytes := addN f l i }) HP.out hlen.symm HC1.out HC2.out
   have HLen := hid hlen; clear hlen
   go_wp2_with fail
   refine (bit_c wr wr.heap.size (Nat.le_refl _) _ { f with bytes := addN f l i } HE.out i (by omega) (by omega) v l (Hhv.out.below HFw.out.below) Hhu.out Hhl.out (by rw [HLen.out]; exact Hhg.out.1) (by rw [HLen.out]; exact Hhg.out.2.1)).mono ?_
   rintro e w2 ⟨rfl,hf⟩
   have HF2 : Hid (Fr [A] w4 w2) := HF.out.trans (hf.mono (by simp))
   have HP2 := hid (HP.out.fr hf (by simp))
   have HB2 := hid (HBr.out.fr hf (by simp))
   clear hf c0 c1 c2 hlr HE
   have hbe : bIdx { f with bytes := addN f l i } i l = bIdx f i l := by unfold bIdx; rw [HLen.out]
   rw [hbe]
   clear hbe
   have c0 : w2.cell? ⟨N,0,none⟩ = some (.slice (some ⟨A,0,none⟩) f.bytes.length cap) := HB2.out.cell_at rfl
   have hl2 := HB2.out.lt
   obtain ⟨x,hx⟩ : ∃ x,x = bIdx f i l := ⟨_,rfl⟩
   rw [← hx]
   have hx0 : 0 ≤ x := by rw [hx]; exact Int.emod_nonneg _ (by omega)
   have hx1 : x < (f.bytes.length : Int) * 8 := by rw [hx]; exact Int.emod_lt_of_pos _ (by omega)
   have Hx := hid hx; clear hx
   obtain ⟨p,rfl⟩ := Int.eq_ofNat_of_zero_le hx0
   have hp : p / 8 < (addN f l i).length := by rw [HLen.out]; omega
   have hpi : (p : Int) / 8 < f.bytes.length := by omega
   have e1 : w2.cell? ⟨A,p / 8,none⟩ = some (.int .u8 (nth (addN f l i) (p / 8))) := HP2.out.cell_at (by rw [List.getElem?_append_left (by simpa using hp),List.getElem?_eq_getElem (by simpa using hp),ic_nth])
   have f1 := HP2.out.free (p / 8)
   have hAl := HP2.out.lt
   obtain ⟨q,hq⟩ : ∃ q,q = p % 8 := ⟨_,rfl⟩
   have hq7 : q ≤ 7 := by omega
   have hqi : (q : Int) ≤ 7 := by omega
   have hmod : (p : Int) % 8 = (q : Int) := by omega
   have hbd := (addN_u8 f l i Hhg.out.2.2.2.2).bd (p / 8)
   have hob := or_one_bit (nth (addN f l i) (p / 8)) q hbd.1 hbd.2 hq7
   have HN : Hid (addN f l (i + 1) = (addN f l i).set (p / 8) (or8 (nth (addN f l i) (p / 8)) q)) := by show _ = _; rw [addN,← Hx.out,Int.toNat_natCast,setB,hq]
   have hx0' : (0 : Int) ≤ p := by omega
   have hxs : (p : Int) ≤ 8000000 := by omega
   have Hp := hid hp
   clear hq hx1 hbd hp
   obtain ⟨y,hy⟩ : ∃ y,y = nth (addN f l i) (p / 8) := ⟨_,rfl⟩
   rw [← hy] at e1 hob HN
   clear hy
   go_upto_region 8 with fail
   refine qtail 15 (by kernel_rfl) (by kernel_rfl) ?_
   simp only [List.take_succ_cons,List.take_zero,List.drop_succ_cons,List.drop_zero]
   repeat (go_big_quiet_step (fail))
   refine wpQuiet_nil ?_
   go_wp2_with fail
   go_roundg (f.funcs.toNat - (i + 1))
   case measure => omega
   case rel =>
    refine ⟨i + 1,rfl,by omega,by simp, ?_,HF2.out.drew.setCell _ _ (by simp)⟩
    have := HP2.out.drew.set (p / 8) (.int .u8 (or8 y q))
    rw [List.set_append_left _ _ (by simpa using Hp.out),ic_set,← HN.out] at this
    exact this
  ·have hie : i = f.funcs.toNat := by omega
   have HPf : Hid (Blk wr A 5 (ic .u8 (bAdd f l).bytes ++ post)) := by rw [hie] at HP; exact HP.out
   have HRr := hid (HR4.out.fr HF.out (by simpa using HRA.out))
   go_upto_region 9 with fail
   refine wp_region_lit ?_
   refine wpList_load_mid rfl 31 (.tmp 2) rfl N 0 rfl ([.slice (some ⟨A,0,none⟩) f.bytes.length cap,.int .u32 f.funcs,.int .u32 f.tweak]) _ (HBr.out.range) rfl rfl (by kernel_rfl) ?_
   simp only [Act.put,nA,nB,nC]
   refine wpList_store_mid rfl 31 (.tmp 4) (.tmp 42) rfl R 0 [.slice (some ⟨A,0,none⟩) f.bytes.length cap,.int .u32 f.funcs,.int .u32 f.tweak].toArray rfl rfl (HRr.out.there (by simp)) (by kernel_rfl) (all_oneCell_toArray (by intro u hu; simp only [List.mem_cons,List.not_mem_nil,or_false] at hu; rcases hu with rfl | rfl | rfl <;> rfl)) ?_
   have HR7 : Hid (Blk (wr.setCells R 0 [.slice (some ⟨A,0,none⟩) f.bytes.length cap,.int .u32 f.funcs,.int .u32 f.tweak].toArray.toList) R 31 [.slice (some ⟨A,0,none⟩) f.bytes.length cap,.int .u32 f.funcs,.int .u32 f.tweak]) := HRr.out.putAll _ rfl
   have HFs : Hid (Fr [R] wr (wr.setCells R 0 [.slice (some ⟨A,0,none⟩) f.bytes.length cap,.int .u32 f.funcs,.int .u32 f.tweak].toArray.toList)) := fr_setCells (S := [R]) (by simp) _ _ _ (Fr.refl _ _)
   generalize World.setCells _ _ _ _ = w5 at HR7 HFs ⊢
   simp only [Act.put,nA,nB,nC]
   refine wpList_nil ?_
   refine (‹∀ (a : Act) (w : World),Code.wp Tryz.prog Code.ret _ a w → _›) _ _ ?_
   refine wp_ret ?_
   refine ret_cells rfl rfl _ HR7.out rfl rfl (by kernel_rfl) rfl ?_
   refine ⟨_,rfl,HFw.out.andThen HFs.out (by intro k hk; simp at hk; subst hk; exact .inr HRw.out.1), ?_⟩
   exact blm_ownT (f := bAdd f l) (HPf.out.fr HFs.out (by simpa using (Ne.symm HRA.out))) (addN_length f l _).symm HC1.out HC2.out
end
theorem wpList_pushS {α : Type} {P : Program} {w : World} {ops : Array Oper} {rest : List Oper} {o : Oper} {a : Act} {Q : Exit → Act → World → Prop} (hgd : o.guard = none) (s x : Operand) (t : TypeId)
  (ho : o.op = .call { callee := .builtin .append,args := #[s,x],argTypes := #[t,t] })
  (T : TypeId) (size bytes : Nat) (he : Elem P t T size bytes) (S : List Nat) (W w1 : World) (E : World → List Value → α → Prop) (v : Value) (l : List α) (hs : a.eval s = v) (c : Array Value) (hw : w = w1.alloc (.cells c T)) (hx : a.eval x = .slice (some ⟨w1.heap.size,0,none⟩) 1 1)
  (hown : Grows W.heap.size T size E w1 v l) (hf : Fr S W w1) (hcl : c.size = size) (h1 : ∀ u ∈ c.toList,u.oneCell' = true)
  (hE : ∀ wa w',FrT T wa w' → Below W.heap.size wa w' → ∀ c y,E wa c y → E w' c y) (y : α) (hy : E w1 c.toList y) (hbytes : (l.length + 1) * bytes ≤ 140737488355328)
  (h : ∀ v' w',Hid (Grows W.heap.size T size E w' v' (l ++ [y])) → Hid (Fr S W w') → Hid (FrT T w1 w') → Hid (Fr (own1 v) w1 w') → wpList P ops Q rest (a.put o.dst v') w') : wpList P ops Q (o :: rest) a w := by
 subst hw
 have hf1 : Fr [] w1 (w1.alloc (.cells c T)) := (Fr.refl _ _).alloc _
 have hB : Blk (w1.alloc (.cells c T)) w1.heap.size T c.toList := by have := Blk.new w1 c.toList T; simpa using this
 have hft : FrT T w1 (w1.alloc (.cells c T)) := hf1.frT (by simp)
 have hbl : Below W.heap.size w1 (w1.alloc (.cells c T)) := hf1.to_below hf.size (by simp)
 refine wpList_push2 hgd s x t ho T size bytes he W.heap.size E v l hs (hown.fr hf1 (hE _ _ hft hbl)) w1.heap.size T c.toList hB hx (by simpa using hcl) h1 (fun w' => hE _ w') y (hE _ _ hft hbl _ _ hy) hbytes (Nat.le_trans hf.size hf1.size) ?_
 intro v' w' h2 h3 h4 h5
 exact h v' w' h2 (hf.andThen ((hf1.mono (by simp)).trans h4.out) (fun k hk => .inr (hown.own k (own1_mem hk)).1)) (hft.trans' h3.out) ((hf1.mono (by simp)).trans h4.out)
/-- append(s, h), a hash: the append behind its literal. -/
theorem wpList_hashPush2 {ops : Array Oper} {Q : Exit → Act → World → Prop} {o2 : Oper} {rest : List Oper} {a : Act} {w : World} (g2 : o2.guard = none) (s x : Operand)
  (h2 : o2.op = .call { callee := .builtin .append,args := #[s,x],argTypes := #[42,42] }) (S : List Nat) (W w1 : World) (v : Value) (l : List (List Int)) (y : List Int) (hs : a.eval s = v) (hw : w = w1.alloc (.cells (ic .u8 y).toArray 22)) (hx : a.eval x = .slice (some ⟨w1.heap.size,0,none⟩) 1 1) (hy : y.length = 32)
  (hown : Grows W.heap.size 22 32 HashE w1 v l) (hf : Fr S W w1) (hl : l.length ≤ 1000000)
  (h : ∀ v' w',Hid (Grows W.heap.size 22 32 HashE w' v' (l ++ [y])) → Hid (Fr S W w') → Hid (FrT 22 w1 w') → Hid (Fr (own1 v) w1 w') → wpList Tryz.prog ops Q rest (a.put o2.dst v') w') : wpList Tryz.prog ops Q (o2 :: rest) a w :=
 wpList_pushS g2 s x 42 h2 22 32 32 elem42 S W w1 HashE v l hs (ic .u8 y).toArray hw hx hown hf (by simpa using hy) (by simpa using ic_one _ _) (fun _ _ _ _ _ _ h => h) y rfl (by omega) h
end Go.Proofs.YtdllckiidegpcaaGreat
