/- A part of the walk of laws.FnPartial (part 14): contracts of functions that it comes to, and the plain laws that these lean on. Conditions stand in each contract. -/
import Derived.Test.YtdllckiidegpcaaGreatA09
import Derived.Test.YtdllckiidegpcaaGreatA11
set_option linter.unusedSimpArgs false
set_option linter.unusedVariables false
namespace Go.Proofs.YtdllckiidegpcaaGreat
open Go.RowKit
/-- n is the sum s, or beyond the bound. -/
def Sat (s : Nat) (n : Int) : Prop := 0 ≤ n ∧ n ≤ 100001 ∧ (n ≤ 100000 → n = s)
theorem more_bd (n b : Int) (hn : 0 ≤ n) (hb : 0 ≤ b) : 0 ≤ moreN n b ∧ moreN n b ≤ 100001 := by
 unfold moreN; split <;> omega
theorem Sat.more {s t : Nat} {n : Int} (h : Sat s n) : Sat (s + t) (moreN n t) := by
 obtain ⟨h1,h2,h3⟩ := h
 unfold moreN Sat
 split <;> omega
theorem Sat.any {s t : Nat} {n : Int} (h : Sat s n) (hn : ¬ n ≤ 100000) : Sat t n := ⟨h.1,h.2.1,fun h => absurd h hn⟩
theorem more_q (w : World) (n b : Int) (hn : 0 ≤ n) (hn' : n ≤ 100001) (hb : 0 ≤ b) (hb' : b < 9223372036854775808) :
  Calls Tryz.prog 17 #[.int .i64 n,.int .i64 b] w fun e w' => e = .returned (.int .i64 (moreN n b)) ∧ w' = w :=
 (more_c w n b ⟨hn,by omega⟩ ⟨hb,hb'⟩).mono fun _ _ h => ⟨h.1,h.2.symm⟩
def witSum (l : List (List Int)) : Nat := (l.map fun y => 9 + y.length).sum
def inSum (l : List TxIn) : Nat := (l.map fun x => 50 + x.script.length + witSum x.wit).sum
def outSum (l : List TxOut) : Nat := (l.map fun x => 17 + x.script.length).sum
def txSum (t : Tx) : Nat := 10 + inSum t.ins + outSum t.outs
def blkSum (l : List Tx) : Nat := 90 + (l.map txSum).sum
theorem sum_take {α : Type} (f : α → Nat) (l : List α) (i : Nat) (h : i < l.length) : ((l.take (i + 1)).map f).sum = ((l.take i).map f).sum + f l[i] := by
 rw [List.take_add_one,List.getElem?_eq_getElem h,List.map_append,List.sum_append]; simp only [Option.toList,List.map_cons,List.map_nil,List.sum_cons,List.sum_nil,Nat.add_zero]
set_option maxRecDepth 8000 in
set_option maxHeartbeats 1000000 in
theorem txSize_c (w : World) (B : Nat) (hBw : B ≤ w.heap.size) (c : List Value) (t : Tx) (ht : t.Ok) (hc : TxE B w c t) :
  Calls Tryz.prog 18 #[.agg c.toArray] w fun e w' => ∃ n,e = .returned (.int .i64 n) ∧ Sat (txSum t) n ∧ Fr [] w w' := by
 obtain ⟨iv,ov,rfl,hi,ho⟩ := hc
 obtain ⟨ai,ci,rfl,hi1,hi2⟩ := hi.len
 obtain ⟨ao,co,rfl,ho1,ho2⟩ := ho.len
 have hil : t.ins.length ≤ maxLen := Nat.le_trans hi1 hi2
 have hol : t.outs.length ≤ maxLen := Nat.le_trans ho1 ho2
 unfold maxLen at hil hol
 have Hil := hid hil; clear hil
 have Hol := hid hol; clear hol
 clear hi1 hi2 ho1 ho2
 have HI := hid hi; clear hi
 have HO := hid ho; clear ho
 have Ht := hid ht; clear ht
 go_enter Tryz.func18,Tryz.ntmps18
 go_upto_region 1 with fail
 change Code.wp _ _ _ _ (w.alloc (.cells [.int .i32 t.version,.slice ai t.ins.length ci,.slice ao t.outs.length co,.int .u32 t.lock].toArray 39))
 have HF1 : Hid (Fr [] w (w.alloc (.cells [.int .i32 t.version,.slice ai t.ins.length ci,.slice ao t.outs.length co,.int .u32 t.lock].toArray 39))) := (Fr.refl _ _).alloc _
 have HB1 : Hid (Blk (w.alloc (.cells [.int .i32 t.version,.slice ai t.ins.length ci,.slice ao t.outs.length co,.int .u32 t.lock].toArray 39)) w.heap.size 39 [.int .i32 t.version,.slice ai t.ins.length ci,.slice ao t.outs.length co,.int .u32 t.lock]) := Blk.new _ _ _
 generalize World.alloc w _ = w1 at HF1 HB1 ⊢
 go_wp2_with fail
 go_loopg [3,4] (t.ins.length) (fun gk v3 v4 wr => ∃ i n,gk = t.ins.length - i ∧ i ≤ t.ins.length ∧ v4 = .int .i64 (i : Int) ∧ v3 = .int .i64 n ∧ Sat (10 + inSum (t.ins.take i)) n ∧ Fr [] w1 wr)
 case atStart => exact ⟨0,10,rfl,Nat.zero_le _,rfl,rfl,⟨by omega,by omega,fun _ => rfl⟩,Fr.refl _ _⟩
 case round =>
  obtain ⟨i,n,rfl,hi,rfl,rfl,hn,hf⟩ := hrel
  have hn1 := hn.1
  have hn2 := hn.2.1
  have HN := hid hn; clear hn
  have HF := hid hf; clear hf
  have HB := hid (HB1.out.fr HF.out (by simp))
  have c1 : wr.cell? ⟨w.heap.size,1,none⟩ = some (.slice ai t.ins.length ci) := HB.out.cell_at rfl
  have hl := HB.out.lt
  by_cases hlt : i < t.ins.length
  ·have hlti : (i : Int) < t.ins.length := by omega
   by_cases hn3 : n ≤ 100000
   ·obtain ⟨b,off,cap',c,he,hb,hcl,hrg,hE⟩ := HI.out.at hlt (by decide)
    simp only [Value.slice.injEq] at he
    obtain ⟨rfl,_,rfl⟩ := he
    obtain ⟨x,hx⟩ : ∃ x,x = t.ins[i] := ⟨_,rfl⟩
    rw [← hx] at hE
    have hxp := (Ht.out.ins x (by rw [hx]; exact List.getElem_mem hlt)).prev
    have HX := hid hx; clear hx
    obtain ⟨sv,wv,hc,hsv,hwv⟩ := hE
    obtain ⟨as',cs',rfl,hs1,hs2⟩ := hsv
    obtain ⟨aw,cw,rfl,hw1,hw2⟩ := hwv.len
    have hsl : x.script.length ≤ maxLen := Nat.le_trans hs1 hs2.1
    have hwl : x.wit.length ≤ maxLen := Nat.le_trans hw1 hw2
    unfold maxLen at hsl hwl
    have hsl' : (x.script.length : Int) < 9223372036854775808 := by omega
    clear hsl hs1 hs2 hw1 hw2
    have r1 := hrg wr ((HF1.out.trans HF.out).below.mono hBw)
    have e1 := r1 33 (.slice as' x.script.length cs') (by rw [hc,List.getElem?_append_right (by rw [OutP.cells_length hxp]; omega),OutP.cells_length hxp]; rfl)
    have Hrg := hid hrg; clear hrg r1
    have Hc := hid hc; clear hc
    have HWV := hid hwv; clear hwv
    have m1 := more_bd n 50 hn1 (by omega)
    have m2 := more_bd (moreN n 50) x.script.length m1.1 (by omega)
    have m3 := m1.1
    have m4 := m1.2
    clear m1
    have Hwl := hid hwl; clear hwl
    go_upto_region 5 with fail
    go_quiet ((exact Calls.quiet_of_same (more_q _ _ _ (by omega) (by omega) (by omega) (by omega))))
    have HN1 : Hid (Sat (10 + inSum (t.ins.take i) + (50 + x.script.length)) (moreN (moreN n 50) x.script.length)) := by
     have := (HN.out.more (t := 50)).more (t := x.script.length)
     rw [← Nat.add_assoc]; exact this
    clear hn3 hn1 hn2 m3 m4 HN hsl'
    generalize moreN (moreN n 50) x.script.length = n1 at m2 HN1 ⊢
    have HF2 : Hid (Fr [] w1 (wr.drewN nq)) := HF.out.drewN nq
    generalize World.drewN wr nq = w2 at HF2 ⊢
    clear HB c1 hl e1
    go_wp2_with fail
    go_loopg [3,5] (x.wit.length) (fun gk v3 v5 wr => ∃ j n,gk = x.wit.length - j ∧ j ≤ x.wit.length ∧ v5 = .int .i64 (j : Int) ∧ v3 = .int .i64 n ∧ Sat (10 + inSum (t.ins.take i) + (50 + x.script.length + witSum (x.wit.take j))) n ∧ Fr [] w1 wr)
    case atStart => exact ⟨0,n1,rfl,Nat.zero_le _,rfl,rfl,HN1.out,HF2.out⟩
    case round =>
     clear HF HF2 HN1 m2
     obtain ⟨j,n,rfl,hj,rfl,rfl,hn,hf⟩ := hrel
     have hn1 := hn.1
     have hn2 := hn.2.1
     have HN := hid hn; clear hn
     have HF := hid hf; clear hf
     have HB := hid (HB1.out.fr HF.out (by simp))
     have c1 : wr.cell? ⟨w.heap.size,1,none⟩ = some (.slice (some ⟨b,off,none⟩) t.ins.length ci) := HB.out.cell_at rfl
     have hl := HB.out.lt
     have r1 := Hrg.out wr ((HF1.out.trans HF.out).below.mono hBw)
     have e2 := r1 34 (.slice aw x.wit.length cw) (by rw [Hc.out,List.getElem?_append_right (by rw [OutP.cells_length hxp]; omega),OutP.cells_length hxp]; rfl)
     clear r1
     by_cases hjl : j < x.wit.length
     ·have hjli : (j : Int) < x.wit.length := by omega
      by_cases hn3 : n ≤ 100000
      ·obtain ⟨b2,off2,cap2,c2,he,hb2,hcl2,hrg2,sv2,hc2,hsv2⟩ := HWV.out.at hjl (by decide)
       simp only [Value.slice.injEq] at he
       obtain ⟨rfl,_,rfl⟩ := he
       subst hc2
       obtain ⟨a2,cc2,rfl,hs1,hs2⟩ := hsv2
       have hyl : (x.wit[j]).length ≤ maxLen := Nat.le_trans hs1 hs2.1
       unfold maxLen at hyl
       have hyl' : ((x.wit[j]).length : Int) < 9223372036854775808 := by omega
       clear hyl hs1 hs2
       have e3 := hrg2 wr ((HF1.out.trans HF.out).below.mono hBw) 0 _ rfl
       rw [Nat.mul_one,Nat.add_zero] at e3
       clear hrg2
       obtain ⟨y,hy⟩ : ∃ y,y = x.wit[j] := ⟨_,rfl⟩
       rw [← hy] at hyl' e3
       have HY := hid hy; clear hy
       have m1 := more_bd n 9 hn1 (by omega)
       have m2 := more_bd (moreN n 9) y.length m1.1 (by omega)
       have m3 := m1.1
       have m4 := m1.2
       clear m1
       go_upto_region 9 with fail
       go_quiet ((exact Calls.quiet_of_same (more_q _ _ _ (by omega) (by omega) (by omega) (by omega))))
       have HN1 : Hid (Sat (10 + inSum (t.ins.take i) + (50 + x.script.length + witSum (x.wit.take (j + 1)))) (moreN (moreN n 9) y.length)) := by
        have := (HN.out.more (t := 9)).more (t := y.length)
        rw [witSum,sum_take _ _ _ hjl,← HY.out,← witSum]
        rw [show 10 + inSum (t.ins.take i) + (50 + x.script.length + (witSum (x.wit.take j) + (9 + y.length))) = 10 + inSum (t.ins.take i) + (50 + x.script.length + witSum (x.wit.take j)) + 9 + y.length by omega]
        exact this
       have hj6 : (j : Int) < 9223372036854775807 := by have := Hwl.out; omega
       clear hn3 hn1 hn2 m3 m4 HN hyl' e3
       generalize moreN (moreN n 9) y.length = n1 at m2 HN1 ⊢
       go_wp2_with fail
       go_roundg (x.wit.length - (j + 1))
       case measure => omega
       case rel => exact ⟨j + 1,n1,rfl,by omega,by simp,rfl,HN1.out,HF.out.drewN _⟩
      ·have HS : Hid (Sat (10 + inSum (t.ins.take (i + 1))) n) := HN.out.any hn3
       have hi6 : (i : Int) < 9223372036854775807 := by have := Hil.out; omega
       go_wp2_with fail
       go_roundg (t.ins.length - (i + 1))
       case measure => omega
       case rel => exact ⟨i + 1,n,rfl,by omega,by simp,rfl,HS.out,HF.out⟩
     ·have HS : Hid (Sat (10 + inSum (t.ins.take (i + 1))) n) := by
       have hj2 : j = x.wit.length := by omega
       have := HN.out
       rw [hj2,List.take_length] at this
       rw [inSum,sum_take _ _ _ hlt,← HX.out,← inSum]
       rw [← Nat.add_assoc]
       exact this
      have hi6 : (i : Int) < 9223372036854775807 := by have := Hil.out; omega
      go_wp2_with fail
      go_roundg (t.ins.length - (i + 1))
      case measure => omega
      case rel => exact ⟨i + 1,n,rfl,by omega,by simp,rfl,HS.out,HF.out⟩
   ·have HS : Hid (Sat (10 + inSum t.ins) n) := HN.out.any hn3
    go_wp2_with fail
    clear c1 hl HB
    generalize hgv : Value.bool (decide ((i : Int) < t.ins.length)) = vb
    clear hgv
    go_loopg [3,6] (t.outs.length) (fun gk v3 v6 wr => ∃ i n,gk = t.outs.length - i ∧ i ≤ t.outs.length ∧ v6 = .int .i64 (i : Int) ∧ v3 = .int .i64 n ∧ Sat (10 + inSum t.ins + outSum (t.outs.take i)) n ∧ Fr [] w1 wr)
    case atStart => exact ⟨0,n,rfl,Nat.zero_le _,rfl,rfl,HS.out,HF.out⟩
    case round =>
     clear HF HS HN hn1 hn2
     obtain ⟨i,n,rfl,hi,rfl,rfl,hn,hf⟩ := hrel
     have hn1 := hn.1
     have hn2 := hn.2.1
     have HN := hid hn; clear hn
     have HF := hid hf; clear hf
     have HB := hid (HB1.out.fr HF.out (by simp))
     have c1 : wr.cell? ⟨w.heap.size,2,none⟩ = some (.slice ao t.outs.length co) := HB.out.cell_at rfl
     have hl := HB.out.lt
     by_cases hlt : i < t.outs.length
     ·have hlti : (i : Int) < t.outs.length := by omega
      by_cases hn3 : n ≤ 100000
      ·obtain ⟨b,off,cap',c,he,hb,hcl,hrg,hE⟩ := HO.out.at hlt (by decide)
       simp only [Value.slice.injEq] at he
       obtain ⟨rfl,_,rfl⟩ := he
       obtain ⟨x,hx⟩ : ∃ x,x = t.outs[i] := ⟨_,rfl⟩
       rw [← hx] at hE
       have HX := hid hx; clear hx
       obtain ⟨sv,rfl,hsv⟩ := hE
       obtain ⟨as',cs',rfl,hs1,hs2⟩ := hsv
       have hsl : x.script.length ≤ maxLen := Nat.le_trans hs1 hs2.1
       unfold maxLen at hsl
       have hsl' : (x.script.length : Int) < 9223372036854775808 := by omega
       clear hsl hs1 hs2
       have e1 := hrg wr ((HF1.out.trans HF.out).below.mono hBw) 1 _ rfl
       clear hrg
       have m1 := more_bd n 17 hn1 (by omega)
       have m2 := more_bd (moreN n 17) x.script.length m1.1 (by omega)
       have m3 := m1.1
       have m4 := m1.2
       clear m1
       go_upto_region 13 with fail
       go_quiet ((exact Calls.quiet_of_same (more_q _ _ _ (by omega) (by omega) (by omega) (by omega))))
       have HN1 : Hid (Sat (10 + inSum t.ins + outSum (t.outs.take (i + 1))) (moreN (moreN n 17) x.script.length)) := by
        have := (HN.out.more (t := 17)).more (t := x.script.length)
        rw [outSum,sum_take _ _ _ hlt,← HX.out,← outSum]
        rw [show 10 + inSum t.ins + (outSum (t.outs.take i) + (17 + x.script.length)) = 10 + inSum t.ins + outSum (t.outs.take i) + 17 + x.script.length by omega]
        exact this
       have hj6 : (i : Int) < 9223372036854775807 := by have := Hol.out; omega
       clear hn3 hn1 hn2 m3 m4 HN hsl' e1
       generalize moreN (moreN n 17) x.script.length = n1 at m2 HN1 ⊢
       go_wp2_with fail
       go_roundg (t.outs.length - (i + 1))
       case measure => omega
       case rel => exact ⟨i + 1,n1,rfl,by omega,by simp,rfl,HN1.out,HF.out.drewN _⟩
      ·have HS : Hid (Sat (txSum t) n) := HN.out.any hn3
       go_wp2_with fail
       go_ret
       exact ⟨n,rfl,HS.out,HF1.out.trans HF.out⟩
     ·have HS : Hid (Sat (txSum t) n) := by
       have hj2 : i = t.outs.length := by omega
       have := HN.out
       rwa [hj2,List.take_length] at this
      go_wp2_with fail
      go_ret
      exact ⟨n,rfl,HS.out,HF1.out.trans HF.out⟩
  ·have HS : Hid (Sat (10 + inSum t.ins) n) := by
    have hj2 : i = t.ins.length := by omega
    have := HN.out
    rwa [hj2,List.take_length] at this
   go_wp2_with fail
   clear c1 hl HB
   generalize hgv : Value.bool (decide ((i : Int) < t.ins.length)) = vb
   clear hgv
   go_loopg [3,6] (t.outs.length) (fun gk v3 v6 wr => ∃ i n,gk = t.outs.length - i ∧ i ≤ t.outs.length ∧ v6 = .int .i64 (i : Int) ∧ v3 = .int .i64 n ∧ Sat (10 + inSum t.ins + outSum (t.outs.take i)) n ∧ Fr [] w1 wr)
   case atStart => exact ⟨0,n,rfl,Nat.zero_le _,rfl,rfl,HS.out,HF.out⟩
   case round =>
    clear HF HS HN hn1 hn2
    obtain ⟨i,n,rfl,hi,rfl,rfl,hn,hf⟩ := hrel
    have hn1 := hn.1
    have hn2 := hn.2.1
    have HN := hid hn; clear hn
    have HF := hid hf; clear hf
    have HB := hid (HB1.out.fr HF.out (by simp))
    have c1 : wr.cell? ⟨w.heap.size,2,none⟩ = some (.slice ao t.outs.length co) := HB.out.cell_at rfl
    have hl := HB.out.lt
    by_cases hlt : i < t.outs.length
    ·have hlti : (i : Int) < t.outs.length := by omega
     by_cases hn3 : n ≤ 100000
     ·obtain ⟨b,off,cap',c,he,hb,hcl,hrg,hE⟩ := HO.out.at hlt (by decide)
      simp only [Value.slice.injEq] at he
      obtain ⟨rfl,_,rfl⟩ := he
      obtain ⟨x,hx⟩ : ∃ x,x = t.outs[i] := ⟨_,rfl⟩
      rw [← hx] at hE
      have HX := hid hx; clear hx
      obtain ⟨sv,rfl,hsv⟩ := hE
      obtain ⟨as',cs',rfl,hs1,hs2⟩ := hsv
      have hsl : x.script.length ≤ maxLen := Nat.le_trans hs1 hs2.1
      unfold maxLen at hsl
      have hsl' : (x.script.length : Int) < 9223372036854775808 := by omega
      clear hsl hs1 hs2
      have e1 := hrg wr ((HF1.out.trans HF.out).below.mono hBw) 1 _ rfl
      clear hrg
      have m1 := more_bd n 17 hn1 (by omega)
      have m2 := more_bd (moreN n 17) x.script.length m1.1 (by omega)
      have m3 := m1.1
      have m4 := m1.2
      clear m1
      go_upto_region 13 with fail
      go_quiet ((exact Calls.quiet_of_same (more_q _ _ _ (by omega) (by omega) (by omega) (by omega))))
      have HN1 : Hid (Sat (10 + inSum t.ins + outSum (t.outs.take (i + 1))) (moreN (moreN n 17) x.script.length)) := by
       have := (HN.out.more (t := 17)).more (t := x.script.length)
       rw [outSum,sum_take _ _ _ hlt,← HX.out,← outSum]
       rw [show 10 + inSum t.ins + (outSum (t.outs.take i) + (17 + x.script.length)) = 10 + inSum t.ins + outSum (t.outs.take i) + 17 + x.script.length by omega]
       exact this
      have hj6 : (i : Int) < 9223372036854775807 := by have := Hol.out; omega
      clear hn3 hn1 hn2 m3 m4 HN hsl' e1
      generalize moreN (moreN n 17) x.script.length = n1 at m2 HN1 ⊢
      go_wp2_with fail
      go_roundg (t.outs.length - (i + 1))
      case measure => omega
      case rel => exact ⟨i + 1,n1,rfl,by omega,by simp,rfl,HN1.out,HF.out.drewN _⟩
     ·have HS : Hid (Sat (txSum t) n) := HN.out.any hn3
      go_wp2_with fail
      go_ret
      exact ⟨n,rfl,HS.out,HF1.out.trans HF.out⟩
    ·have HS : Hid (Sat (txSum t) n) := by
      have hj2 : i = t.outs.length := by omega
      have := HN.out
      rwa [hj2,List.take_length] at this
     go_wp2_with fail
     go_ret
     exact ⟨n,rfl,HS.out,HF1.out.trans HF.out⟩
end Go.Proofs.YtdllckiidegpcaaGreat
