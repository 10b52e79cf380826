/- A part of the walk of laws.FnPartial (part 20): contracts of functions that it comes to, and the plain laws that these lean on. Conditions stand in each contract. -/
import Derived.Test.YtdllckiidegpcaaGreatA14
set_option linter.unusedSimpArgs false
set_option linter.unusedVariables false
namespace Go.Proofs.YtdllckiidegpcaaGreat
open Go.RowKit
set_option maxRecDepth 8000 in
theorem blockSize_c (w : World) (B : Nat) (hBw : B ≤ w.heap.size) (c : List Value) (k : Blck) (hh : k.hdr.Ok) (hx : ∀ t ∈ k.txs,t.Ok) (hc : BlckE B w c k) :
  Calls Tryz.prog 7 #[.agg c.toArray] w fun e w' => ∃ n,e = .returned (.int .i64 n) ∧ Sat (blkSum k.txs) n ∧ Fr [] w w' := by
 obtain ⟨tv,hc,ht⟩ := hc
 obtain ⟨at',ct,rfl,ht1,ht2⟩ := ht.len
 have htl : k.txs.length ≤ maxLen := Nat.le_trans ht1 ht2
 unfold maxLen at htl
 have Htl := hid htl; clear htl
 clear ht1 ht2
 have HT := hid ht; clear ht
 have Hx := hid hx; clear hx
 have Hc := hid hc; clear hc
 go_enter Tryz.func7,Tryz.ntmps7
 go_upto_region 1 with fail
 have HF1 : Hid (Fr [] w (w.alloc (.cells c.toArray 28))) := (Fr.refl _ _).alloc _
 have HB1 : Hid (Blk (w.alloc (.cells c.toArray 28)) w.heap.size 28 c) := Blk.new _ _ _
 generalize World.alloc w _ = w1 at HF1 HB1 ⊢
 go_wp2_with fail
 go_loopg [3,4] (k.txs.length) (fun gk v3 v4 wr => ∃ i n,gk = k.txs.length - i ∧ i ≤ k.txs.length ∧ v4 = .int .i64 (i : Int) ∧ v3 = .int .i64 n ∧ Sat (blkSum (k.txs.take i)) n ∧ Fr [] w1 wr)
 case atStart => exact ⟨0,90,rfl,Nat.zero_le _,rfl,rfl,⟨by omega,by omega,fun _ => rfl⟩,Fr.refl _ _⟩
 case round =>
  obtain ⟨i,n,rfl,hi,rfl,rfl,hn,hf⟩ := hrel
  have hn1 := hn.1
  have hn2 := hn.2.1
  have HN := hid hn; clear hn
  have HF := hid hf; clear hf
  have HB := hid (HB1.out.fr HF.out (by simp))
  have c1 : wr.cell? ⟨w.heap.size,68,none⟩ = some (.slice at' k.txs.length ct) := HB.out.cell_at (by rw [Hc.out,List.getElem?_append_right (by rw [Hdr.cells_length hh]; omega),Hdr.cells_length hh]; rfl)
  have hl := HB.out.lt
  by_cases hlt : i < k.txs.length
  ·have hlti : (i : Int) < k.txs.length := by omega
   by_cases hn3 : n ≤ 100000
   ·obtain ⟨b,off,cap',c',he,hb,hcl,hrg,hE⟩ := HT.out.at hlt (by decide)
    simp only [Value.slice.injEq] at he
    obtain ⟨rfl,_,rfl⟩ := he
    obtain ⟨x,hx⟩ : ∃ x,x = k.txs[i] := ⟨_,rfl⟩
    rw [← hx] at hE
    have hxo := Hx.out x (by rw [hx]; exact List.getElem_mem hlt)
    have HX := hid hx; clear hx
    have HXO := hid hxo; clear hxo
    have HE : Hid (TxE B wr c' x) := hE.below ((HF1.out.trans HF.out).below.mono hBw)
    have HR := hid (hrg wr ((HF1.out.trans HF.out).below.mono hBw))
    have Hcl := hid hcl
    clear hE hrg hcl
    go_upto_region 5 with fail
    refine wp_region_lit ?_
    refine wpList_run (v := .int .i64 n) rfl rfl ?_
    refine wpList_run (v := .pointer (some ⟨w.heap.size,68,none⟩)) rfl rfl ?_
    refine wpList_load1 rfl 26 (.tmp 17) rfl w.heap.size 68 rfl _ _ c1 rfl rfl ?_
    refine wpList_run (v := .int .i64 (i : Int)) rfl rfl ?_
    simp only [Act.put,nA,nB,nC]
    refine wpList_index rfl 26 (.tmp 18) (.tmp 19) rfl b off k.txs.length ct i 4 .i64 39 rfl rfl hlt (by kernel_rfl) (by kernel_rfl) ?_
    refine wpList_load_mid rfl 39 (.tmp 20) rfl b (off + i * 4) rfl c' _ HR.out rfl rfl (by rw [Hcl.out]; kernel_rfl) ?_
    simp only [Act.put,nA,nB,nC]
    go_wp2_with fail
    refine (txSize_c wr B (Nat.le_trans hBw (HF1.out.trans HF.out).size) c' x HXO.out HE.out).mono ?_
    rintro e w2 ⟨m,rfl,hs,hf2⟩
    have hs1 := hs.1
    have hs2 := hs.2.1
    have HS := hid hs
    have HF2 : Hid (Fr [] w1 w2) := HF.out.trans hf2
    clear hs hf2
    go_wp2_with fail
    refine (more_c w2 n m ⟨hn1,by omega⟩ ⟨hs1,by omega⟩).mono ?_
    rintro e w3 ⟨rfl,rfl⟩
    have HN1 : Hid (Sat (blkSum (k.txs.take (i + 1))) (moreN n m)) := by
     rw [blkSum,sum_take _ _ _ hlt,← Nat.add_assoc,← blkSum,← HX.out]
     obtain ⟨h1,h2,h3⟩ := HN.out
     obtain ⟨k1,k2,k3⟩ := HS.out
     have hb := more_bd n m h1 k1
     refine ⟨hb.1,hb.2,fun hle => ?_⟩
     unfold moreN at hle ⊢
     split at hle
     ·omega
     ·rename_i hc; rw [if_neg hc]; omega
    have hj6 : (i : Int) < 9223372036854775807 := by have := Htl.out; omega
    clear hn1 hn2 hn3 HN hs1 hs2 HS
    generalize moreN n m = n1 at HN1 ⊢
    go_wp2_with fail
    go_roundg (k.txs.length - (i + 1))
    case measure => omega
    case rel => exact ⟨i + 1,n1,rfl,by omega,by simp,rfl,HN1.out,HF2.out⟩
   ·have HS : Hid (Sat (blkSum k.txs) n) := HN.out.any hn3
    go_wp2_with fail
    go_ret
    exact ⟨n,rfl,HS.out,HF1.out.trans HF.out⟩
  ·have HS : Hid (Sat (blkSum k.txs) n) := by
    have hj2 : i = k.txs.length := by omega
    have := HN.out
    rwa [hj2,List.take_length] at this
   go_wp2_with fail
   go_ret
   exact ⟨n,rfl,HS.out,HF1.out.trans HF.out⟩
/-- laws.bloom as reckoning. -/
def blmB (f : Blm) : Bool := decide (1 ≤ f.bytes.length ∧ f.bytes.length ≤ 2000 ∧ 1 ≤ f.funcs ∧ f.funcs ≤ 50)
theorem bloom_c (w : World) (B : Nat) (c : List Value) (f : Blm) (hf : f.Ok) (hc : BlmE B w c f) :
  Calls Tryz.prog 6 #[.agg c.toArray] w fun e w' => e = .returned (.bool (blmB f)) ∧ Fr [] w w' := by
 obtain ⟨sv,rfl,hsv⟩ := hc
 obtain ⟨a',c',rfl,_,_⟩ := hsv
 have h1 := hf.funcs.1
 have h2 := hf.funcs.2
 have Hf := hid hf; clear hf
 by_cases k1 : (1 : Int) ≤ f.bytes.length
 ·by_cases k2 : (f.bytes.length : Int) ≤ 2000
  ·by_cases k3 : 1 ≤ f.funcs
   ·by_cases k4 : f.funcs ≤ 50
    ·have hb : blmB f = true := by simp [blmB]; omega
     rw [hb]; clear hb
     go_enter Tryz.func6,Tryz.ntmps6
     go_wp2_with fail
     go_ret
     exact ⟨rfl,(Fr.refl _ _).alloc _⟩
    ·have hb : blmB f = false := by simp [blmB]; omega
     rw [hb]; clear hb
     go_enter Tryz.func6,Tryz.ntmps6
     go_wp2_with fail
     go_ret
     exact ⟨rfl,(Fr.refl _ _).alloc _⟩
   ·have hb : blmB f = false := by simp [blmB]; omega
    rw [hb]; clear hb
    go_enter Tryz.func6,Tryz.ntmps6
    go_wp2_with fail
    go_ret
    exact ⟨rfl,(Fr.refl _ _).alloc _⟩
  ·have hb : blmB f = false := by simp [blmB]; omega
   rw [hb]; clear hb
   go_enter Tryz.func6,Tryz.ntmps6
   go_wp2_with fail
   go_ret
   exact ⟨rfl,(Fr.refl _ _).alloc _⟩
 ·have hb : blmB f = false := by simp [blmB]; omega
  rw [hb]; clear hb
  go_enter Tryz.func6,Tryz.ntmps6
  go_wp2_with fail
  go_ret
  exact ⟨rfl,(Fr.refl _ _).alloc _⟩
end Go.Proofs.YtdllckiidegpcaaGreat
