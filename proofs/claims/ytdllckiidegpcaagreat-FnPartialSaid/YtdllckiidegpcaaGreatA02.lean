/- A part of the walk of laws.FnPartial (part 2): contracts of functions that it comes to, and the plain laws that these lean on. Conditions stand in each contract. -/
import Derived.Deep.DeepCutAuto
import Derived.Test.YtdllckiidegpcaaGreatA01
set_option linter.unusedSimpArgs false
set_option linter.unusedVariables false
namespace Go.Proofs.YtdllckiidegpcaaGreat
open Go.RowKit
theorem rm17 : bits .and .u64 (IntKind.u64.wrap (-17)) 31 = ((15:Nat):Int) := by decide
theorem rm19 : bits .and .u64 (IntKind.u64.wrap (-19)) 31 = ((13:Nat):Int) := by decide
theorem rm7 : bits .and .u64 (IntKind.u64.wrap (-7)) 31 = ((25:Nat):Int) := by decide
theorem rm18 : bits .and .u64 (IntKind.u64.wrap (-18)) 31 = ((14:Nat):Int) := by decide
theorem rm6 : bits .and .u64 (IntKind.u64.wrap (-6)) 31 = ((26:Nat):Int) := by decide
theorem rm11 : bits .and .u64 (IntKind.u64.wrap (-11)) 31 = ((21:Nat):Int) := by decide
theorem rm25 : bits .and .u64 (IntKind.u64.wrap (-25)) 31 = ((7:Nat):Int) := by decide
theorem rm2 : bits .and .u64 (IntKind.u64.wrap (-2)) 31 = ((30:Nat):Int) := by decide
theorem rm13 : bits .and .u64 (IntKind.u64.wrap (-13)) 31 = ((19:Nat):Int) := by decide
theorem rm22 : bits .and .u64 (IntKind.u64.wrap (-22)) 31 = ((10:Nat):Int) := by decide
theorem rq6 (x : Int) (w : World) (n : Nat) : Calls Tryz.prog 312 #[.int .u32 x,.int .i64 (-6)] (w.drewN n) fun e w' => e = .returned (.int .u32 (rotl x 26)) ∧ ∃ m,w' = w.drewN m := rot_q _ _ rm6 (by decide) x w n
theorem rq11 (x : Int) (w : World) (n : Nat) : Calls Tryz.prog 312 #[.int .u32 x,.int .i64 (-11)] (w.drewN n) fun e w' => e = .returned (.int .u32 (rotl x 21)) ∧ ∃ m,w' = w.drewN m := rot_q _ _ rm11 (by decide) x w n
theorem rq25 (x : Int) (w : World) (n : Nat) : Calls Tryz.prog 312 #[.int .u32 x,.int .i64 (-25)] (w.drewN n) fun e w' => e = .returned (.int .u32 (rotl x 7)) ∧ ∃ m,w' = w.drewN m := rot_q _ _ rm25 (by decide) x w n
set_option maxRecDepth 8000 in
set_option maxHeartbeats 0 in
theorem block_any (w : World) (g : Nat) (s0 : S8) (x : List Int) (nx len : Int) (b off cap m : Nat) (p K : List Int) (hp : p.length = 64 * m) (hcap : 64 * m ≤ cap) (hm : cap ≤ maxLen)
  (hpc : ∀ i,i < p.length → w.cell? ⟨b,off + i,none⟩ = some (.int .u8 (nth p i))) (hb : b < w.heap.size)
  (hD : Blk w g 328 (dig s0 x nx len)) (hK : K.length = 64) (hKc : Blk w 1 379 (ic .u32 K)) :
  Calls Tryz.prog 151 #[.pointer (some ⟨g,0,none⟩),.slice (some ⟨b,off,none⟩) (64*m) cap] w (BlkPost K p m g s0 x nx len w) := by
 have hglt := hD.lt
 have d0 : w.cell? ⟨g,0,none⟩ = some (.int .u32 s0.a) := hD.cell_at (by simp [dig])
 have d1 : w.cell? ⟨g,1,none⟩ = some (.int .u32 s0.b) := hD.cell_at (by simp [dig])
 have d2 : w.cell? ⟨g,2,none⟩ = some (.int .u32 s0.c) := hD.cell_at (by simp [dig])
 have d3 : w.cell? ⟨g,3,none⟩ = some (.int .u32 s0.d) := hD.cell_at (by simp [dig])
 have d4 : w.cell? ⟨g,4,none⟩ = some (.int .u32 s0.e) := hD.cell_at (by simp [dig])
 have d5 : w.cell? ⟨g,5,none⟩ = some (.int .u32 s0.f) := hD.cell_at (by simp [dig])
 have d6 : w.cell? ⟨g,6,none⟩ = some (.int .u32 s0.g) := hD.cell_at (by simp [dig])
 have d7 : w.cell? ⟨g,7,none⟩ = some (.int .u32 s0.h) := hD.cell_at (by simp [dig])
 have HD := hid hD; clear hD
 have HKc := hid hKc; clear hKc
 have Hpc := hid hpc; clear hpc
 have Hp := hid hp; clear hp
 have HKl := hid hK; clear hK
 go_enter Tryz.func151,Tryz.ntmps151
 go_wp2_with fail
 generalize hw1 : World.alloc w _ = w1
 have B1 : Below w.heap.size w w1 := by rw [← hw1]; exact (Below.refl _ _).alloc (Nat.le_refl _) _
 have W1 : Blk w1 w.heap.size 379 (ic .u32 (List.replicate 64 0)) := by rw [← hw1]; exact Blk.new w _ _
 have L1 : g < w1.heap.size := Nat.lt_of_lt_of_le hglt B1.size
 clear hw1
 rw [← B1.cell (p := ⟨g,0,none⟩) hglt] at d0
 rw [← B1.cell (p := ⟨g,1,none⟩) hglt] at d1
 rw [← B1.cell (p := ⟨g,2,none⟩) hglt] at d2
 rw [← B1.cell (p := ⟨g,3,none⟩) hglt] at d3
 rw [← B1.cell (p := ⟨g,4,none⟩) hglt] at d4
 rw [← B1.cell (p := ⟨g,5,none⟩) hglt] at d5
 rw [← B1.cell (p := ⟨g,6,none⟩) hglt] at d6
 rw [← B1.cell (p := ⟨g,7,none⟩) hglt] at d7
 have HB1 := hid B1; clear B1
 have HW1 := hid W1; clear W1
 go_quiet (fail)
 clear d0 d1 d2 d3 d4 d5 d6 d7
 go_wp2_with fail
 go_loopg [1,5,6,7,8,9,10,11,12] (m+1) (fun gk v1 v5 v6 v7 v8 v9 v10 v11 v12 wr => ∃ k a W s,gk = m + 1 - k ∧ k ≤ m ∧ v1 = .slice a (64*m - 64*k) (cap - 64*k) ∧ (k < m → a = some ⟨b,off + 64*k,none⟩) ∧ v5 = .int .u32 (S8.a s) ∧ v6 = .int .u32 s.b ∧ v7 = .int .u32 s.c ∧ v8 = .int .u32 s.d ∧ v9 = .int .u32 s.e ∧ v10 = .int .u32 s.f ∧ v11 = .int .u32 s.g ∧ v12 = .int .u32 s.h ∧ s = absN K p s0 k ∧ Below w.heap.size w wr ∧ Blk wr w.heap.size 379 (ic .u32 W) ∧ List.length W = 64)
 case atStart => exact ⟨0,_,_,s0,rfl,Nat.zero_le _,rfl,fun _ => rfl,rfl,rfl,rfl,rfl,rfl,rfl,rfl,rfl,rfl,below_drewN HB1.out _,HW1.out.drewN _,by simp⟩
 case round =>
  clear HB1 HW1 L1
  obtain ⟨k,a,W,s,rfl,hk,rfl,ha,rfl,rfl,rfl,rfl,rfl,rfl,rfl,rfl,hs,hBr,hWr,hWl⟩ := hrel
  have Hs := hid hs; clear hs
  have HBr := hid hBr; clear hBr
  have HWr := hid hWr; clear hWr
  have HWl := hid hWl; clear hWl
  have Ha := hid ha; clear ha
  generalize hg1 : m + 1 - k = g1
  have Hg1 := hid hg1; clear hg1
  by_cases hkm : k < m
  ·obtain rfl := Ha.out hkm
   have hge : 64 ≤ 64 * m - 64 * k := by omega
   go_wp2_with fail
   have Hge := hid hge; clear hge
   go_loopg [13,14,15,16,17,18,19,20,80] 65 (fun gi v13 v14 v15 v16 v17 v18 v19 v20 v80 wq => ∃ i W' r,gi = 65 - i ∧ i ≤ 64 ∧ v80 = .int .i64 (i : Int) ∧ v13 = .int .u32 (S8.a r) ∧ v14 = .int .u32 r.b ∧ v15 = .int .u32 r.c ∧ v16 = .int .u32 r.d ∧ v17 = .int .u32 r.e ∧ v18 = .int .u32 r.f ∧ v19 = .int .u32 r.g ∧ v20 = .int .u32 r.h ∧ r = rnds K (p.drop (64*k)) s i ∧ List.take i W' = wsq (p.drop (64*k)) i ∧ Below w.heap.size w wq ∧ Blk wq w.heap.size 379 (ic .u32 W') ∧ List.length W' = 64)
   case atStart => exact ⟨0,W,s,rfl,by omega,rfl,rfl,rfl,rfl,rfl,rfl,rfl,rfl,rfl,rfl,by simp [wsq],HBr.out,HWr.out,HWl.out⟩
   case round =>
    clear HBr HWr HWl
    obtain ⟨i,W',r,rfl,hi,rfl,rfl,rfl,rfl,rfl,rfl,rfl,rfl,rfl,hr,hW',hBq,hWq,hWl⟩ := hrel
    have Hr := hid hr; clear hr
    have HW' := hid hW'; clear hW'
    have HBq := hid hBq; clear hBq
    have HWq := hid hWq; clear hWq
    have HWl := hid hWl; clear hWl
    generalize hg2 : 65 - i = g2
    have Hg2 := hid hg2; clear hg2
    by_cases hi64 : i < 64
    ·go_upto_if 84 with fail
     go_cut [] (fun wc => Below w.heap.size w wc ∧ Blk wc w.heap.size 379 (ic .u32 (W'.set i (wNew (p.drop (64*k)) (wsq (p.drop (64*k)) i) i))))
     case first => as_aux_lemma =>
      have hk1 : 64 * k + 64 ≤ p.length := by rw [Hp.out]; omega
      have hbq := HBq.out.size
      by_cases h16 : i < 16
      ·have hblt : b < wr.heap.size := by omega
       have p0 : wr.cell? ⟨b,off + 64*k + i*4,none⟩ = some (.int .u8 (nth p (64*k + i*4))) := by
        rw [(bcell HBq.out).1 _ _ hb,← Hpc.out _ (by omega)]; congr 2; omega
       have p1 : wr.cell? ⟨b,off + 64*k + (i*4+1),none⟩ = some (.int .u8 (nth p (64*k + (i*4+1)))) := by
        rw [(bcell HBq.out).1 _ _ hb,← Hpc.out _ (by omega)]; congr 2; omega
       have p2 : wr.cell? ⟨b,off + 64*k + (i*4+2),none⟩ = some (.int .u8 (nth p (64*k + (i*4+2)))) := by
        rw [(bcell HBq.out).1 _ _ hb,← Hpc.out _ (by omega)]; congr 2; omega
       have p3 : wr.cell? ⟨b,off + 64*k + (i*4+3),none⟩ = some (.int .u8 (nth p (64*k + (i*4+3)))) := by
        rw [(bcell HBq.out).1 _ _ hb,← Hpc.out _ (by omega)]; congr 2; omega
       have wc := HWq.out.cell i (by simp; have := HWl.out; omega)
       have wf := HWq.out.free i
       have wl := HWq.out.lt
       have hge := Hge.out
       go_wp2_with fail
       refine qtail 30 (by kernel_rfl) (by kernel_rfl) ?_
       simp only [List.take_succ_cons,List.take_zero,List.drop_succ_cons,List.drop_zero]
       repeat (go_big_quiet_step (fail))
       refine wpQuiet_nil ?_
       go_wp2_with fail
       go_meet
       case rel =>
        refine ⟨(Below.drew HBq.out).setCell (Nat.le_refl _) _, ?_⟩
        have e : wNew (p.drop (64*k)) (wsq (p.drop (64*k)) i) i = bits .or .u32 (bits .or .u32 (bits .or .u32 (nth p (64*k + i*4) % 4294967296 * 16777216 % 4294967296) (nth p (64*k + (i*4+1)) % 4294967296 * 65536 % 4294967296)) (nth p (64*k + (i*4+2)) % 4294967296 * 256 % 4294967296)) (nth p (64*k + (i*4+3)) % 4294967296) := by
         simp only [wNew,if_pos h16,wIn,nth_drop]
        rw [e]
        exact (HWq.out.drew).seti i _
      ·have q2 := HWq.out.int (i-2) (by have := HWl.out; omega)
       have q15 := HWq.out.int (i-15) (by have := HWl.out; omega)
       have q7 := HWq.out.int (i-7) (by have := HWl.out; omega)
       have q16 := HWq.out.int (i-16) (by have := HWl.out; omega)
       have wc := HWq.out.cell i (by simp; have := HWl.out; omega)
       have wf := HWq.out.free i
       have wl := HWq.out.lt
       go_wp2_with fail
       refine Calls.mono (rot_c (-17) 15 rm17 (by decide) _ _) ?_
       rintro _ _ ⟨rfl,rfl⟩
       go_wp2_with fail
       refine Calls.mono (rot_c (-19) 13 rm19 (by decide) _ _) ?_
       rintro _ _ ⟨rfl,rfl⟩
       go_wp2_with fail
       refine Calls.mono (rot_c (-7) 25 rm7 (by decide) _ _) ?_
       rintro _ _ ⟨rfl,rfl⟩
       go_wp2_with fail
       refine Calls.mono (rot_c (-18) 14 rm18 (by decide) _ _) ?_
       rintro _ _ ⟨rfl,rfl⟩
       go_wp2_with fail
       refine qtail 14 (by kernel_rfl) (by kernel_rfl) ?_
       simp only [List.take_succ_cons,List.take_zero,List.drop_succ_cons,List.drop_zero]
       repeat (go_big_quiet_step (fail))
       refine wpQuiet_nil ?_
       go_wp2_with fail
       go_meet
       case rel =>
        refine ⟨(Below.drew HBq.out).setCell (Nat.le_refl _) _, ?_⟩
        rw [wNew,if_neg h16,wOld,← nth_of_take HW'.out (i := i-2) (by omega),← nth_of_take HW'.out (i := i-7) (by omega),← nth_of_take HW'.out (i := i-15) (by omega),← nth_of_take HW'.out (i := i-16) (by omega)]
        exact (HWq.out.drew).seti i _
     case rest => as_aux_lemma =>
      obtain ⟨hBc,hWc⟩ := hcut
      have HBc := hid hBc; clear hBc
      have wc2 : wc.cell? ⟨w.heap.size,i,none⟩ = some (.int .u32 (wNew (p.drop (64*k)) (wsq (p.drop (64*k)) i) i)) := by
       have := hWc.int i (by simp [HWl.out,hi64])
       rw [this,nth_eq _ _ (by simp [HWl.out,hi64])]; simp
      have kc : wc.cell? ⟨1,i,none⟩ = some (.int .u32 (nth K i)) := by
       rw [(bcell HBc.out).1 _ _ HKc.out.lt,HKc.out.int i (by rw [HKl.out]; exact hi64)]
      have hl1 : 1 < wc.heap.size := Nat.lt_of_lt_of_le HKc.out.lt HBc.out.size
      have hl2 := hWc.lt
      have HWc := hid hWc; clear hWc
      clear HBq HWq
      go_wp2_with fail
      go_quiet (first | (go_at_call 312; (with_reducible exact rq6 _ _ _)) | (go_at_call 312; (with_reducible exact rq11 _ _ _)) | (go_at_call 312; (with_reducible exact rq25 _ _ _)))
      go_wp2_with fail
      refine Calls.mono (rot_c (-2) 30 rm2 (by decide) _ _) ?_
      rintro _ _ ⟨rfl,rfl⟩
      go_wp2_with fail
      refine Calls.mono (rot_c (-13) 19 rm13 (by decide) _ _) ?_
      rintro _ _ ⟨rfl,rfl⟩
      go_wp2_with fail
      refine Calls.mono (rot_c (-22) 10 rm22 (by decide) _ _) ?_
      rintro _ _ ⟨rfl,rfl⟩
      go_wp2_with fail
      go_roundg (65 - (i+1))
      case measure => omega
      case rel =>
       refine ⟨i+1,W'.set i (wNew (p.drop (64*k)) (wsq (p.drop (64*k)) i) i),rnd r (nth K i) (wNew (p.drop (64*k)) (wsq (p.drop (64*k)) i) i),rfl,by omega, ?_, ?_,rfl,rfl,rfl, ?_,rfl,rfl,rfl, ?_, ?_, ?_,HWc.out, ?_⟩
       ·simp
       ·simp only [rnd,t1,t2,Value.int.injEq,true_and]; omega
       ·simp only [rnd,t1,t2,Value.int.injEq,true_and]; omega
       ·rw [Hr.out]; rfl
       ·rw [take_set_succ _ _ _ (by rw [HWl.out]; exact hi64),HW'.out]; rfl
       ·exact below_drewN HBc.out _
       ·simp [HWl.out]
    ·as_aux_lemma =>
     obtain rfl : i = 64 := by omega
     have hsl := Hge.out
     have Hcap := hid hcap; clear hcap
     have HS : Hid (absN K p s0 (k+1) = plus8 s r) := by
      show blk K (p.drop (64*k)) (absN K p s0 k) = _
      rw [← Hs.out,blk,← Hr.out]
     go_wp2_with fail
     ·go_roundg (m + 1 - (k+1))
      case measure => omega
      case rel =>
       have := Hcap.out
       refine ⟨k+1,some ⟨b,off + 64*k,none⟩,W',plus8 s r,rfl,by omega, ?_, ?_,rfl,rfl,rfl,rfl,rfl,rfl,rfl,rfl,HS.out.symm,HBq.out,HWq.out,HWl.out⟩
       ·congr 1 <;> omega
       ·intro h; omega
     ·go_roundg (m + 1 - (k+1))
      case measure => omega
      case rel =>
       refine ⟨k+1,some ⟨b,off + 64*k + 64,none⟩,W',plus8 s r,rfl,by omega, ?_, ?_,rfl,rfl,rfl,rfl,rfl,rfl,rfl,rfl,HS.out.symm,HBq.out,HWq.out,HWl.out⟩
       ·congr 1 <;> omega
       ·intro h; congr 2
  ·have hge : ¬ 64 ≤ 64 * m - 64 * k := by omega
   obtain rfl : k = m := by omega
   have hglt : g < wr.heap.size := Nat.lt_of_lt_of_le hglt HBr.out.size
   have Hc := fun i hi => HBr.out.cell (p := ⟨g,i,none⟩) hi
   have e0 : wr.cell? ⟨g,0,none⟩ = some (.int .u32 s0.a) := (HBr.out.cell (p := ⟨g,0,none⟩) HD.out.lt).trans (HD.out.cell_at (by simp [dig]))
   have e1 : wr.cell? ⟨g,1,none⟩ = some (.int .u32 s0.b) := (HBr.out.cell (p := ⟨g,1,none⟩) HD.out.lt).trans (HD.out.cell_at (by simp [dig]))
   have e2 : wr.cell? ⟨g,2,none⟩ = some (.int .u32 s0.c) := (HBr.out.cell (p := ⟨g,2,none⟩) HD.out.lt).trans (HD.out.cell_at (by simp [dig]))
   have e3 : wr.cell? ⟨g,3,none⟩ = some (.int .u32 s0.d) := (HBr.out.cell (p := ⟨g,3,none⟩) HD.out.lt).trans (HD.out.cell_at (by simp [dig]))
   have e4 : wr.cell? ⟨g,4,none⟩ = some (.int .u32 s0.e) := (HBr.out.cell (p := ⟨g,4,none⟩) HD.out.lt).trans (HD.out.cell_at (by simp [dig]))
   have e5 : wr.cell? ⟨g,5,none⟩ = some (.int .u32 s0.f) := (HBr.out.cell (p := ⟨g,5,none⟩) HD.out.lt).trans (HD.out.cell_at (by simp [dig]))
   have e6 : wr.cell? ⟨g,6,none⟩ = some (.int .u32 s0.g) := (HBr.out.cell (p := ⟨g,6,none⟩) HD.out.lt).trans (HD.out.cell_at (by simp [dig]))
   have e7 : wr.cell? ⟨g,7,none⟩ = some (.int .u32 s0.h) := (HBr.out.cell (p := ⟨g,7,none⟩) HD.out.lt).trans (HD.out.cell_at (by simp [dig]))
   have f0 : wr.frozen? ⟨g,0,none⟩ = false := (HBr.out.frozen (p := ⟨g,0,none⟩) HD.out.lt).trans (HD.out.free _)
   have f1 : wr.frozen? ⟨g,1,none⟩ = false := (HBr.out.frozen (p := ⟨g,1,none⟩) HD.out.lt).trans (HD.out.free _)
   have f2 : wr.frozen? ⟨g,2,none⟩ = false := (HBr.out.frozen (p := ⟨g,2,none⟩) HD.out.lt).trans (HD.out.free _)
   have f3 : wr.frozen? ⟨g,3,none⟩ = false := (HBr.out.frozen (p := ⟨g,3,none⟩) HD.out.lt).trans (HD.out.free _)
   have f4 : wr.frozen? ⟨g,4,none⟩ = false := (HBr.out.frozen (p := ⟨g,4,none⟩) HD.out.lt).trans (HD.out.free _)
   have f5 : wr.frozen? ⟨g,5,none⟩ = false := (HBr.out.frozen (p := ⟨g,5,none⟩) HD.out.lt).trans (HD.out.free _)
   have f6 : wr.frozen? ⟨g,6,none⟩ = false := (HBr.out.frozen (p := ⟨g,6,none⟩) HD.out.lt).trans (HD.out.free _)
   have f7 : wr.frozen? ⟨g,7,none⟩ = false := (HBr.out.frozen (p := ⟨g,7,none⟩) HD.out.lt).trans (HD.out.free _)
   have HP : Hid (BlkPost K p k g s0 x nx len w (.returned (.tuple #[])) (put8 wr g s).drew) := by rw [Hs.out]; exact blk_post HD.out HBr.out
   clear Hc
   go_wp2_with fail
   go_region
   go_end0
   exact HP.out
theorem record_c (w : World) : Calls Tryz.prog 305 #[] w fun e w' => e = .returned (.tuple #[]) ∧ w' = w := by
 have h308 : (callFunc 308 #[]).run Tryz.prog w = .ok (.value (.int .u8 0)) w := by
  rw [run_callFunc_extern Tryz.func308 (by kernel_rfl) (by kernel_rfl) (by kernel_rfl) (e := fun _ => pure (.int .u8 0)) (by kernel_rfl)]
  rfl
 have h309 : (callFunc 309 #[.int .u8 2]).run Tryz.prog w = .ok (.value (.tuple #[])) w := by
  rw [run_callFunc_extern Tryz.func309 (by kernel_rfl) (by kernel_rfl) (by kernel_rfl) (e := Extern.CryptoHooks.nothing) (by kernel_rfl)]
  rfl
 go_enter Tryz.func305,Tryz.ntmps305
 go_wp2_with fail
 go_end0
 exact ⟨rfl,rfl⟩
theorem reset_c (w : World) (g : Nat) (s : S8) (x : List Int) (nx len : Int) (hD : Blk w g 328 (dig s x nx len)) (hx : x.length = 64) :
  Calls Tryz.prog 152 #[.pointer (some ⟨g,0,none⟩)] w fun e w' => e = .returned (.tuple #[]) ∧ Fr [g] w w' ∧ Blk w' g 328 (dig iv x 0 0) := by
 have hlt := hD.lt
 have d0 : w.cell? ⟨g,0,none⟩ = some (.int .u32 s.a) := hD.cell_at (by simp [dig])
 have d1 : w.cell? ⟨g,1,none⟩ = some (.int .u32 s.b) := hD.cell_at (by simp [dig])
 have d2 : w.cell? ⟨g,2,none⟩ = some (.int .u32 s.c) := hD.cell_at (by simp [dig])
 have d3 : w.cell? ⟨g,3,none⟩ = some (.int .u32 s.d) := hD.cell_at (by simp [dig])
 have d4 : w.cell? ⟨g,4,none⟩ = some (.int .u32 s.e) := hD.cell_at (by simp [dig])
 have d5 : w.cell? ⟨g,5,none⟩ = some (.int .u32 s.f) := hD.cell_at (by simp [dig])
 have d6 : w.cell? ⟨g,6,none⟩ = some (.int .u32 s.g) := hD.cell_at (by simp [dig])
 have d7 : w.cell? ⟨g,7,none⟩ = some (.int .u32 s.h) := hD.cell_at (by simp [dig])
 have d72 : w.cell? ⟨g,72,none⟩ = some (.int .i64 nx) := hD.cell_at (by simp [dig,hx])
 have d73 : w.cell? ⟨g,73,none⟩ = some (.int .u64 len) := hD.cell_at (by simp [dig,hx])
 have d74 : w.cell? ⟨g,74,none⟩ = some (.bool false) := hD.cell_at (by simp [dig,hx])
 have f0 := hD.free 0
 have f1 := hD.free 1
 have f2 := hD.free 2
 have f3 := hD.free 3
 have f4 := hD.free 4
 have f5 := hD.free 5
 have f6 := hD.free 6
 have f7 := hD.free 7
 have f72 := hD.free 72
 have f73 := hD.free 73
 have HD := hid hD; clear hD
 have Hx := hid hx; clear hx
 go_enter Tryz.func152,Tryz.ntmps152
 go_wp2_with fail
 go_end0
 refine ⟨rfl, ?_, ?_⟩
 ·exact (put8_fr iv (Fr.refl [g] w)).setCell ⟨g,72,none⟩ _ (by simp) |>.setCell ⟨g,73,none⟩ _ (by simp)
 ·have h1 := ((put8_dig (s := iv) HD.out).set 72 (.int .i64 0)).set 73 (.int .u64 0)
  have e : ((dig iv x nx len).set 72 (.int .i64 0)).set 73 (.int .u64 0) = dig iv x 0 0 := by
   have hx' := Hx.out
   simp only [dig,List.set_append]
   simp [hx']
  rw [e] at h1
  exact h1
set_option maxRecDepth 8000 in
theorem new0_c (w : World) :
  Calls Tryz.prog 125 #[] w fun e w' => e = .returned (.pointer (some ⟨w.heap.size,0,none⟩)) ∧ Fr [] w w' ∧ Blk w' w.heap.size 328 (dig iv (List.replicate 64 0) 0 0) := by
 go_enter Tryz.func125,Tryz.ntmps125
 go_wp2_with fail
 generalize hw1 : World.alloc w _ = w1
 have B1 : Fr [] w w1 := by rw [← hw1]; exact (Fr.refl _ _).alloc _
 have W1 : Blk w1 w.heap.size 328 (dig ⟨0,0,0,0,0,0,0,0⟩ (List.replicate 64 0) 0 0) := by rw [← hw1]; exact Blk.new w _ _
 clear hw1
 go_call (reset_c w1 w.heap.size _ _ _ _ W1 (by simp)) as e w' ⟨rfl,hf,hb⟩
 go_wp2_with fail
 go_ret
 exact ⟨rfl,⟨hf.os.trans B1.os,hf.tape.trans B1.tape,hf.output.trans B1.output,Nat.le_trans B1.size hf.size,fun k hk _ => (hf.block k (Nat.lt_of_lt_of_le hk B1.size) (by simp; omega)).trans (B1.block k hk (by simp))⟩,hb⟩
theorem new_c (w : World) :
  Calls Tryz.prog 99 #[] w fun e w' => e = .returned (.iface 296 (.pointer (some ⟨w.heap.size,0,none⟩))) ∧ Fr [] w w' ∧ Blk w' w.heap.size 328 (dig iv (List.replicate 64 0) 0 0) := by
 go_enter Tryz.func99,Tryz.ntmps99
 go_wp2_with fail
 go_call (new0_c w) as e w' ⟨rfl,hf,hb⟩
 go_wp2_with fail
 go_ret
 exact ⟨rfl,hf,hb⟩
theorem block_c (w : World) (g : Nat) (s0 : S8) (x : List Int) (nx len : Int) (b off cap m : Nat) (p K : List Int) (hp : p.length = 64 * m) (hcap : 64 * m ≤ cap) (hm : cap ≤ maxLen)
  (hpc : ∀ i,i < p.length → w.cell? ⟨b,off + i,none⟩ = some (.int .u8 (nth p i))) (hb : b < w.heap.size)
  (hD : Blk w g 328 (dig s0 x nx len)) (hK : K.length = 64) (hKc : Blk w 1 379 (ic .u32 K)) :
  Calls Tryz.prog 307 #[.pointer (some ⟨g,0,none⟩),.slice (some ⟨b,off,none⟩) (64*m) cap] w (BlkPost K p m g s0 x nx len w) := by
 have H := block_any w g s0 x nx len b off cap m p K hp hcap hm hpc hb hD hK hKc
 go_enter Tryz.func307,Tryz.ntmps307
 go_wp2_with fail
 refine H.mono ?_
 rintro e w' ⟨rfl,h⟩
 have h2 := hid h; clear h
 go_wp2_with fail
 go_end0
 exact ⟨rfl,h2.out⟩
/-- The digest at g has taken in msg. -/
def DigAt (K : List Int) (w : World) (g : Nat) (msg : List Int) : Prop := ∃ s x,DSt K msg s x ∧ Blk w g 328 (dig s x ((msg.length % 64 : Nat) : Int) (msg.length : Int))
theorem splice_dig {s : S8} {x q : List Int} {nx T : Int} {o : Nat} (hx : x.length = 64) (hq : o + q.length ≤ 64) : splice (dig s x nx T) (8 + o) (ic .u8 q) = dig s (splice x o q) nx T := by
 have e1 : dig s x nx T = [.int .u32 s.a,.int .u32 s.b,.int .u32 s.c,.int .u32 s.d,.int .u32 s.e,.int .u32 s.f,.int .u32 s.g,.int .u32 s.h] ++ (ic .u8 x ++ [.int .i64 nx,.int .u64 T,.bool false]) := by simp [dig]
 rw [e1,splice,List.take_append,List.drop_append]
 simp only [dig,splice,ic,List.map_append,List.map_take,List.map_drop,List.length_cons,List.length_nil,List.length_map,List.append_assoc]
 rw [List.take_of_length_le (by simp),List.drop_eq_nil_of_le (by simp; omega),List.take_append_of_le_length (by simp; omega),List.drop_append_of_le_length (by simp; omega)]
 simp only [Nat.zero_add,Nat.reduceAdd,Nat.add_sub_cancel_left,List.nil_append,List.cons_append,List.append_assoc]
 have : 8 + o + q.length - 8 = o + q.length := by omega
 rw [this]
theorem dig_set72 {s : S8} {x : List Int} {nx T : Int} (y : Int) (hx : x.length = 64) : (dig s x nx T).set 72 (.int .i64 y) = dig s x y T := by
 simp only [dig,List.set_append]; simp [hx]
theorem dig_set73 {s : S8} {x : List Int} {nx T : Int} (y : Int) (hx : x.length = 64) : (dig s x nx T).set 73 (.int .u64 y) = dig s x nx y := by
 simp only [dig,List.set_append]; simp [hx]
theorem dig_x {s : S8} {x : List Int} {nx T : Int} (hx : x.length = 64) {i : Nat} (hi : i < 64) : (dig s x nx T)[8 + i]? = some (.int .u8 (nth x i)) := by
 have e1 : dig s x nx T = [.int .u32 s.a,.int .u32 s.b,.int .u32 s.c,.int .u32 s.d,.int .u32 s.e,.int .u32 s.f,.int .u32 s.g,.int .u32 s.h] ++ (ic .u8 x ++ [.int .i64 nx,.int .u64 T,.bool false]) := by simp [dig]
 rw [e1,List.getElem?_append_right (by simp),List.getElem?_append_left (by simp; omega)]
 simp [ic,nth,hx,hi]
/-- In the middle of a Write: of p the front q is taken in, p1 is still to come. -/
def Mid (K : List Int) (g b : Nat) (msg p : List Int) (T : Int) (w : World) (v1 : Value) (wc : World) : Prop :=
 ∃ q p1 s x,p = q ++ p1 ∧ Bytes wc v1 p1 ∧ (∀ b' off' n' cap',v1 = .slice (some ⟨b',off',none⟩) n' cap' → b' = b) ∧ DSt K (msg ++ q) s x ∧
  Blk wc g 328 (dig s x (((msg ++ q).length % 64 : Nat) : Int) T) ∧ Fr [g] w wc ∧ ((msg ++ q).length % 64 = 0 ∨ p1 = [])
/-- Whole blocks are being taken in: 64 * n7 bytes of them are still to come. -/
def Mid3 (K : List Int) (g b : Nat) (msg p : List Int) (T : Int) (w : World) (n7 : Nat) (v1 : Value) (wc : World) : Prop :=
 ∃ q p1 s x off1 c1,p = q ++ p1 ∧ v1 = .slice (some ⟨b,off1,none⟩) p1.length c1 ∧ p1.length ≤ c1 ∧ c1 ≤ maxLen ∧ (∀ i,i < p1.length → w.cell? ⟨b,off1 + i,none⟩ = some (.int .u8 (nth p1 i))) ∧ DSt K (msg ++ q) s x ∧
  Blk wc g 328 (dig s x 0 T) ∧ Fr [g] w wc ∧ (msg ++ q).length % 64 = 0 ∧ 64 * n7 ≤ p1.length ∧ p1.length < 64 * n7 + 64 ∧ 1 ≤ n7
/-- What is left is less than a block. -/
def Mid2 (K : List Int) (g b : Nat) (msg p : List Int) (T : Int) (w : World) (v1 : Value) (wc : World) : Prop :=
 ∃ q p1 s x,p = q ++ p1 ∧ Bytes wc v1 p1 ∧ (∀ b' off' n' cap',v1 = .slice (some ⟨b',off',none⟩) n' cap' → b' = b) ∧ DSt K (msg ++ q) s x ∧
  Blk wc g 328 (dig s x (((msg ++ q).length % 64 : Nat) : Int) T) ∧ Fr [g] w wc ∧ ((msg ++ q).length % 64 = 0 ∨ p1 = []) ∧ p1.length < 64
set_option maxRecDepth 8000 in
set_option maxHeartbeats 4000000 in
theorem write_c (K : List Int) (hK : K.length = 64) (w : World) (g : Nat) (msg p : List Int) (v : Value) (hKc : Blk w 1 379 (ic .u32 K)) (hg1 : g ≠ 1)
  (hD : DigAt K w g msg) (hp : Bytes w v p) (hv : ∀ b off n cap,v = .slice (some ⟨b,off,none⟩) n cap → cap ≠ 0 → b ≠ g) (hlen : msg.length + p.length < 2 ^ 62) :
  Calls Tryz.prog 304 #[.pointer (some ⟨g,0,none⟩),v] w fun e w' => e = .returned (.tuple #[.int .i64 (p.length : Int),.nilIface]) ∧ Fr [g] w w' ∧ DigAt K w' g (msg ++ p) := by
 obtain ⟨s,x,hS,hB⟩ := hD
 obtain ⟨a,cap,rfl,h1,h2,h3⟩ := hp
 replace h3 : (cap = 0 ∧ cap = 0 ∧ ic .u8 p = []) ∨ ∃ b off,a = some ⟨b,off,none⟩ ∧ (b < w.heap.size ∧ cap ≠ 0) ∧ ∀ i (h : i < (ic .u8 p).length),w.cell? ⟨b,off + i,none⟩ = some (ic .u8 p)[i] := by
  by_cases hc0 : cap = 0
  ·exact .inl ⟨hc0,hc0,by rw [hc0] at h1; exact List.length_eq_zero_iff.mp (by rw [ic_length]; omega)⟩
  ·rcases h3 with h | ⟨b,off,ha,hb,hc⟩
   ·exact .inl h
   ·exact .inr ⟨b,off,ha,⟨hb,hc0⟩,hc⟩
 have hglt := hB.lt
 have hx := hS.len
 obtain ⟨L,hL⟩ : ∃ L,L = msg.length := ⟨_,rfl⟩
 obtain ⟨n,hn⟩ : ∃ n,n = p.length := ⟨_,rfl⟩
 obtain ⟨r,hr⟩ : ∃ r,r = L % 64 := ⟨_,rfl⟩
 have hr64 : r < 64 := by omega
 rw [← hL] at hB hlen
 rw [← hn] at h1 hlen
 rw [← hr] at hB
 rw [← hn]
 have d72 : w.cell? ⟨g,72,none⟩ = some (.int .i64 (r : Int)) := hB.cell_at (by simp [dig,hx])
 have d73 : w.cell? ⟨g,73,none⟩ = some (.int .u64 (L : Int)) := hB.cell_at (by simp [dig,hx])
 have f72 := hB.free 72
 have f73 := hB.free 73
 have HB := hid hB; clear hB
 have HS := hid hS; clear hS
 have Hx := hid hx; clear hx
 have HL := hid hL; clear hL
 have Hn := hid hn; clear hn
 have Hr := hid hr; clear hr
 have HKc := hid hKc; clear hKc
 have Hv := hid hv; clear hv
 have Hlen := hid hlen; clear hlen
 have hlen2 : (L : Int) + (n : Int) < 4611686018427387904 := by have := Hlen.out; omega
 rcases h3 with ⟨rfl,_,hpe⟩ | ⟨b,off,rfl,⟨hlt,hcap0⟩,hc⟩
 ·obtain rfl : p = [] := by simpa [ic] using hpe
  obtain rfl : n = 0 := Hn.out
  have hri : (r : Int) ≤ 64 := by omega
  have hrne : ¬ (64 = r) := by omega
  have hrnei : ¬ ((r : Int) = 64) := by omega
  have hLi : (L : Int) < 4611686018427387904 := by omega
  clear hlen2 h1 h2 hpe Hv
  have HF1 : Hid (Fr [g] w (w.setCell ⟨g,73,none⟩ (.int .u64 (L : Int)))) := (Fr.refl _ _).setCell _ _ (by simp)
  have HB1 : Hid (Blk (w.setCell ⟨g,73,none⟩ (.int .u64 (L : Int))) g 328 (dig s x r (L : Int))) := by
   rw [← dig_set73 (T := (L : Int)) _ Hx.out]; exact HB.out.set 73 _
  have hD : Hid (DigAt K w g (msg ++ [])) := by
   rw [List.append_nil]; exact ⟨s,x,HS.out,by rw [← HL.out,← Hr.out]; exact HB.out⟩
  have HE : ∀ w2,Fr [g] w w2 → Blk w2 g 328 (dig s x r (L : Int)) → DigAt K w2 g (msg ++ []) := by
   intro w2 _ hb
   rw [List.append_nil]; exact ⟨s,x,HS.out,by rw [← HL.out,← Hr.out]; exact hb⟩
  have HEh := hid HE; clear HE
  go_enter Tryz.func304,Tryz.ntmps304
  go_upto_if 23 with fail
  clear hLi
  by_cases hr0 : 0 < r
  ·generalize hw1 : World.setCell w _ _ = w1 at *
   clear hw1 HB
   have d72 : w1.cell? ⟨g,72,none⟩ = some (.int .i64 (r : Int)) := HB1.out.cell_at (by simp [dig,Hx.out])
   have f72 := HB1.out.free 72
   have hg1lt := HB1.out.lt
   go_wp2_with fail
   refine qtail 9 (by kernel_rfl) (by kernel_rfl) ?_
   simp only [List.take_succ_cons,List.take_zero,List.drop_succ_cons,List.drop_zero]
   repeat (go_big_quiet_step (fail))
   refine wpQuiet_nil ?_
   refine wpList_copy_nothing rfl (.tmp 31) (.tmp 32) 29 29 rfl 5 rfl rfl _ _ _ _ _ _ rfl rfl (by simp) ?_
   go_wp2_with fail
   go_ret2
   refine ⟨rfl,(HF1.out.setCell _ _ (by simp)).drew,HEh.out _ (HF1.out.setCell _ _ (by simp)).drew ?_⟩
   have h3 := (HB1.out.set 72 (.int .i64 (r : Int))).drew
   rw [dig_set72 _ Hx.out] at h3
   exact h3
  ·go_wp2_with fail
   go_ret2
   exact ⟨rfl,HF1.out,by have h := HEh.out _ HF1.out HB1.out; first | exact h | (rw [List.append_nil] at h; exact h)⟩
 ·have Hc := hid hc; clear hc
  have Hcap0 := hid hcap0; clear hcap0
  have H1 := hid h1; clear h1
  have H2 := hid h2; clear h2
  go_enter Tryz.func304,Tryz.ntmps304
  go_upto_if 23 with fail
  generalize hw1 : World.setCell w _ _ = w1
  have HF1 : Hid (Fr [g] w w1) := by rw [← hw1]; exact (Fr.refl _ _).setCell _ _ (by simp)
  have HB1 : Hid (Blk w1 g 328 (dig s x r ((L + n : Nat) : Int))) := by
   rw [← hw1,← dig_set73 (T := (L : Int)) _ Hx.out]; exact HB.out.set 73 _
  clear hw1 HB d72 d73 f72 f73 hlen2
  have hg1lt : g < w1.heap.size := HB1.out.lt
  have hb1lt : b < w1.heap.size := Nat.lt_of_lt_of_le hlt HF1.out.size
  have d72 : w1.cell? ⟨g,72,none⟩ = some (.int .i64 (r : Int)) := HB1.out.cell_at (by simp [dig,Hx.out])
  have f72 := HB1.out.free 72
  have hbg : b ≠ g := Hv.out b off n cap (by rw [Hn.out]) Hcap0.out
  obtain ⟨T,hT⟩ : ∃ T,T = ((L + n : Nat) : Int) := ⟨_,rfl⟩
  have HT := hid hT
  rw [← hT] at HB1
  clear hT
  go_cut [1] (Mid K g b msg p T w)
  case first =>
   by_cases hr0 : 0 < r
   ·obtain ⟨n1,hn1⟩ : ∃ n1,n1 = min (64 - r) n := ⟨_,rfl⟩
    have hn1' : n1 ≤ n ∧ n1 ≤ 64 - r ∧ (n1 = n ∨ n1 = 64 - r) := by omega
    clear hn1
    have hrle : r ≤ 64 := by omega
    have hri : (r : Int) ≤ 64 := by omega
    have hrne : ¬ (64 = r) := by omega
    go_wp2_with fail
    refine qtail 9 (by kernel_rfl) (by kernel_rfl) ?_
    simp only [List.take_succ_cons,List.take_zero,List.drop_succ_cons,List.drop_zero]
    repeat (go_big_quiet_step (fail))
    refine wpQuiet_nil ?_
    obtain ⟨cs,hcs⟩ : ∃ cs,cs = ic .u8 (p.take n1) := ⟨_,rfl⟩
    have hcl : cs.length = n1 := by rw [hcs]; simp; have := Hn.out; omega
    have hsrc : ∀ j v,cs[j]? = some v → w1.drew.cell? ((⟨b,off,none⟩ : Addr).add j) = some v := by
     intro j v hj
     subst hcs
     have hj' : j < (ic .u8 (p.take n1)).length := (List.getElem?_eq_some_iff.mp hj).1
     have hj2 : j < n1 := by rw [hcl] at hj'; exact hj'
     have hj3 : j < p.length := by have := Hn.out; omega
     have e1 : w1.cell? ⟨b,off + j,none⟩ = w.cell? ⟨b,off + j,none⟩ := HF1.out.cells.1 b (off + j) hlt (by simpa using hbg)
     have ea : (⟨b,off,none⟩ : Addr).add j = ⟨b,off + j,none⟩ := by simp [Addr.add]
     have ew : w1.drew.cell? ⟨b,off + j,none⟩ = w1.cell? ⟨b,off + j,none⟩ := rfl
     rw [ea,ew]
     rw [e1,Hc.out j (by simpa using hj3),← hj,List.getElem?_eq_getElem hj',ic_get,ic_get]
     simp
    refine wpList_copy_blk rfl (.tmp 31) (.tmp 32) 29 29 rfl 5 rfl rfl (some ⟨g,8+r,none⟩) (some ⟨b,off,none⟩) (64-r) (64-r) n cap rfl rfl g (8+r) (dig s x r T) 328 HB1.out.drew cs (by rw [hcl]; show n1 = min n (64 - r); omega) (fun _ => ⟨rfl,_,rfl,hsrc⟩)
     (by rw [hcl]; have := Hx.out; simp [dig]; omega) (by rw [hcs]; exact ic_one _ _) [g] w HF1.out.drew (by simp) ?_
    intro w2 HB2 HF2
    have HB3 : Hid (Blk w2 g 328 (dig s (splice x r (p.take n1)) r T)) := by
     rw [← splice_dig Hx.out (by simp; omega),← hcs]; exact HB2.out
    rw [hcl]
    clear hsrc hcl hcs HB2 HB1 HF1 d72 f72
    have hxl : (splice x r (p.take n1)).length = 64 := by rw [length_splice _ _ _ (by have := Hx.out; simp; omega)]; exact Hx.out
    have d72 : w2.cell? ⟨g,72,none⟩ = some (.int .i64 (r : Int)) := HB3.out.cell_at (by simp [dig,hxl])
    have f72 := HB3.out.free 72
    have Hxl := hid hxl; clear hxl
    have hglt2 := HB3.out.lt
    have hn1i : (r : Int) + n1 ≤ 64 := by omega
    have Hc2 : Hid (∀ i,i < p.length → ∀ wc,Fr [g] w wc → wc.cell? ⟨b,off + i,none⟩ = some (.int .u8 (nth p i))) := by
     intro i hi wc hf
     rw [hf.cells.1 b (off + i) hlt (by simpa using hbg),Hc.out i (by simpa using hi),ic_nth]
    have HS2 := HS.out
    have hql : (p.take n1).length = n1 := by simp; have := Hn.out; omega
    have hrm : msg.length % 64 = r := by rw [Hr.out,HL.out]
    have Hend : ∀ wc,cap ≤ n1 → Fr [g] w wc → Bytes wc (.slice (some ⟨b,off,none⟩) (n - n1) 0) (p.drop n1) := by
     intro wc hcn hf
     have e : p.drop n1 = [] := List.drop_eq_nil_of_le (by have := Hn.out; have := H1.out; omega)
     rw [e]
     exact ints_mk (by simp; have := H1.out; omega) (by have := H1.out; omega) (by omega) (Nat.lt_of_lt_of_le hlt hf.size) (fun i hi => by simp at hi)
    have Hgo : ∀ wc,Fr [g] w wc → Bytes wc (.slice (some ⟨b,off + n1,none⟩) (n - n1) (cap - n1)) (p.drop n1) := fun wc hf =>
     ints_drop Hn.out hn1'.1 H1.out H2.out (Nat.lt_of_lt_of_le hlt hf.size) (fun i hi => Hc2.out i hi wc hf)
    by_cases hfull : r + n1 = 64
    ·have hfi : (r : Int) + n1 = 64 := by omega
     go_wp2_with fail
     generalize hw3 : World.setCell w2 _ _ = w3
     have HB4 : Hid (Blk w3 g 328 (dig s (splice x r (p.take n1)) 64 T)) := by
      rw [← hw3,← dig_set72 (nx := (r : Int)) _ Hxl.out]; exact HB3.out.set 72 _
     have HF3 : Hid (Fr [g] w w3) := by rw [← hw3]; exact HF2.out.setCell _ _ (by simp)
     have HK3 : Hid (Blk w3 1 379 (ic .u32 K)) := HKc.out.fr HF3.out (by simp; omega)
     clear hw3 HB3 HF2 d72 f72
     refine (block_c w3 g s (splice x r (p.take n1)) 64 _ g 8 64 1 (splice x r (p.take n1)) K Hxl.out (by omega) (by decide) (fun i hi => HB4.out.cell_at (dig_x Hxl.out (by rw [Hxl.out] at hi; exact hi))) HB4.out.lt HB4.out hK HK3.out).mono ?_
     rintro e w4 ⟨rfl,hf4,hb4⟩
     have HB5 := hid hb4; clear hb4
     have HF5 : Hid (Fr [g] w w4) := HF3.out.trans hf4
     clear hf4 HB4 HF3
     have hg4 := HB5.out.lt
     have d72 : w4.cell? ⟨g,72,none⟩ = some (.int .i64 64) := HB5.out.cell_at (by simp [dig,Hxl.out])
     have f72 := HB5.out.free 72
     have HM : Hid (∀ v1 wc,(Fr [g] w wc → Bytes wc v1 (p.drop n1)) → (∀ b' off' n' cap',v1 = .slice (some ⟨b',off',none⟩) n' cap' → b' = b) →
       wc = w4.setCell ⟨g,72,none⟩ (.int .i64 0) → Mid K g b msg p T w v1 wc) := by
      intro v1 wc hbv hvb hwc
      have hf : Fr [g] w wc := by rw [hwc]; exact HF5.out.setCell _ _ (by simp)
      obtain ⟨hd1,hd2⟩ := HS.out.full (q := p.take n1) (by rw [hrm,hql]; exact hfull)
      rw [hrm] at hd1
      refine ⟨p.take n1,p.drop n1,_,_,(List.take_append_drop _ _).symm,hbv hf,hvb,hd1, ?_,hf,.inl hd2⟩
      rw [hd2,hwc,← dig_set72 (nx := 64) _ Hxl.out]
      exact HB5.out.set 72 _
     go_wp2_with fail
     ·go_meet
      case rel =>
       exact HM.out _ _ (fun hf => Hend _ (by omega) hf) (by rintro _ _ _ _ h; cases h; rfl) rfl
     ·go_meet
      case rel => exact HM.out _ _ (fun hf => Hgo _ hf) (by rintro _ _ _ _ h; cases h; rfl) rfl
    ·have hfi : ¬ ((r : Int) + n1 = 64) := by omega
     have HM : Hid (∀ v1 wc,(Fr [g] w wc → Bytes wc v1 (p.drop n1)) → (∀ b' off' n' cap',v1 = .slice (some ⟨b',off',none⟩) n' cap' → b' = b) →
       wc = w2.setCell ⟨g,72,none⟩ (.int .i64 ((r : Int) + n1)) → Mid K g b msg p T w v1 wc) := by
      intro v1 wc hbv hvb hwc
      have hf : Fr [g] w wc := by rw [hwc]; exact HF2.out.setCell _ _ (by simp)
      have hd := HS.out.fill (q := p.take n1) (by rw [hrm,hql]; omega)
      rw [hrm] at hd
      have em : (msg ++ p.take n1).length % 64 = r + n1 := by rw [List.length_append,hql]; omega
      refine ⟨p.take n1,p.drop n1,_,_,(List.take_append_drop _ _).symm,hbv hf,hvb,hd, ?_,hf,.inr (List.drop_eq_nil_of_le (by have := Hn.out; omega))⟩
      rw [em,hwc,← dig_set72 (nx := (r : Int)) _ Hxl.out]
      exact HB3.out.set 72 _
     clear hrm hql
     go_wp2_with fail
     ·go_meet
      case rel =>
       exact HM.out _ _ (fun hf => Hend _ (by omega) hf) (by rintro _ _ _ _ h; cases h; rfl) rfl
     ·go_meet
      case rel => exact HM.out _ _ (fun hf => Hgo _ hf) (by rintro _ _ _ _ h; cases h; rfl) rfl
   ·go_wp2_with fail
    go_meet
    case rel =>
     obtain rfl : r = 0 := by omega
     have hrm : msg.length % 64 = 0 := by rw [← HL.out,← Hr.out]
     refine ⟨[],p,s,x,rfl,ints_mk Hn.out H1.out H2.out hb1lt (fun i hi => ?_),(by rintro _ _ _ _ h; cases h; rfl), ?_, ?_,HF1.out,.inl (by simpa using hrm)⟩
     ·rw [HF1.out.cells.1 b (off + i) hlt (by simpa using hbg),Hc.out i (by simpa using hi),ic_nth]
     ·rw [List.append_nil]; exact HS.out
     ·rw [List.append_nil,hrm]; exact HB1.out
  case rest =>
   obtain ⟨q,p1,s1,x1,hq,hb1,hv1,hS1,hB1,hF1,h0⟩ := hcut
   clear d72 f72 HS HB1 HF1 Hx Hc H1 H2 hg1lt hb1lt hr64
   obtain ⟨a1,c1,rfl,h11,h12,h13⟩ := ints_cases hb1
   clear hb1
   have Hq := hid hq; clear hq
   have HS := hid hS1; clear hS1
   have HB := hid hB1; clear hB1
   have HF := hid hF1; clear hF1
   have Hv1 := hid hv1; clear hv1
   have H11 := hid h11; clear h11
   have H12 := hid h12; clear h12
   have H0 := hid h0; clear h0
   go_upto_if 61 with fail
   go_cut [1] (Mid2 K g b msg p T w)
   case first =>
    by_cases h64 : 64 ≤ p1.length
    ·rcases h13 with ⟨_,_,rfl⟩ | ⟨b1,off1,rfl,hb1lt,hc1⟩
     ·simp at h64
     obtain rfl : b1 = b := Hv1.out _ _ _ _ rfl
     have Hc1 : Hid (∀ i,i < p1.length → w.cell? ⟨b1,off1 + i,none⟩ = some (.int .u8 (nth p1 i))) := by
      intro i hi
      rw [← HF.out.cells.1 b1 (off1 + i) hlt (by simpa using hbg)]; exact hc1 i hi
     clear hc1
     have h64i : (64 : Int) ≤ p1.length := by omega
     have hpl : p1.length ≤ p.length := by rw [Hq.out]; simp
     obtain ⟨m7,hm7⟩ : ∃ m7,m7 = p1.length / 64 := ⟨_,rfl⟩
     have hbit : bits .andNot .i64 (p1.length : Int) 63 = 64 * (m7 : Int) := by
      rw [hm7,andNot63 _ (by have := Hlen.out; have := Hn.out; omega)]; omega
     have hq0 : (msg ++ q).length % 64 = 0 := by
      rcases H0.out with h | h
      ·exact h
      ·rw [h] at h64; simp at h64
     have hr7 : 64 * m7 ≤ p1.length ∧ p1.length < 64 * m7 + 64 ∧ 1 ≤ m7 := by omega
     clear hm7
     have HM3 : Hid (Mid3 K g b1 msg p T w m7 (.slice (some ⟨b1,off1,none⟩) p1.length c1) wc) :=
      ⟨q,p1,s1,x1,off1,c1,Hq.out,rfl,H11.out,H12.out,Hc1.out,HS.out,by have := HB.out; rw [hq0] at this; exact this,HF.out,hq0,hr7.1,hr7.2.1,hr7.2.2⟩
     go_wp2_with fail
     clear hbit HB HF HS Hc1 H11 H12 Hq hq0 h64i h64 hpl H0 Hv1 hr7
     generalize Value.bool (decide ((64 : Int) ≤ ↑p1.length)) = v61
     go_loopg [1,7] m7 (fun gk v1 v7 wr => v7 = .int .i64 (64 * (gk : Int)) ∧ Mid3 K g b1 msg p T w gk v1 wr)
     case atStart => exact ⟨rfl,HM3.out⟩
     case round =>
      clear HM3
      obtain ⟨rfl,q2,p2,s2,x2,off2,c2,hq2,rfl,h21,h22,hc2,hS2,hB2,hF2,hz2,hm1,hm2,hm3⟩ := hrel
      have Hq := hid hq2; clear hq2
      have HS := hid hS2; clear hS2
      have HB := hid hB2; clear hB2
      have HF := hid hF2; clear hF2
      have H11 := hid h21; clear h21
      have H12 := hid h22; clear h22
      have Hz := hid hz2; clear hz2
      have Hc := hid hc2; clear hc2
      have Hcw : Hid (∀ wc,Fr [g] w wc → ∀ i,i < p2.length → wc.cell? ⟨b1,off2 + i,none⟩ = some (.int .u8 (nth p2 i))) := by
       intro wc hf i hi
       rw [hf.cells.1 b1 (off2 + i) hlt (by simpa using hbg)]; exact Hc.out i hi
      by_cases hbig : 1024 < gk
      ·have hb7 : 64 * (gk : Int) < 4611686018427387904 := by
        have : p2.length ≤ p.length := by rw [Hq.out]; simp
        have := Hlen.out; have := Hn.out; omega
       have hb1 : 65536 < 64 * gk := by omega
       have hb2 : (65536 : Int) < 64 * (gk : Int) := by omega
       have hb3 : 65536 ≤ c2 := by have := H11.out; omega
       have hb4 : 65536 ≤ p2.length := by omega
       have hb5 : (65536 : Int) ≤ c2 := by omega
       have hb6 : ¬ (c2 = 65536) := by have := H11.out; omega
       have hlt2 : b1 < wr.heap.size := Nat.lt_of_lt_of_le hlt HF.out.size
       have hK2 : Hid (Blk wr 1 379 (ic .u32 K)) := HKc.out.fr HF.out (by simp; omega)
       have hlen2 : (p2.take 65536).length = 64 * 1024 := by simp; omega
       go_wp2_with fail
       refine (block_c wr g s2 x2 0 _ b1 off2 c2 1024 (p2.take 65536) K hlen2 hb3 H12.out (fun i hi => by rw [nth_take' _ _ _ (by omega)]; exact Hcw.out wr HF.out i (by omega)) hlt2 HB.out hK hK2.out).mono ?_
       rintro e w4 ⟨rfl,hf4,hb4⟩
       have HB5 := hid hb4; clear hb4
       have HF5 : Hid (Fr [g] w w4) := HF.out.trans hf4
       clear hf4 hlen2
       go_wp2_with fail
       go_roundg (gk - 1024)
       case measure => omega
       case rel =>
        obtain ⟨hd1,hd2⟩ := HS.out.blocks Hz.out (q := p2.take 65536) (m := 1024) (by simp; omega)
        refine ⟨?_,q2 ++ p2.take 65536,p2.drop 65536,_,x2,off2 + 65536,c2 - 65536, ?_, ?_, ?_, ?_, ?_, ?_,HB5.out,HF5.out, ?_, ?_, ?_, ?_⟩
        ·congr 1; omega
        ·rw [Hq.out,List.append_assoc,List.take_append_drop]
        ·simp
        ·have := H11.out; simp; omega
        ·have := H12.out; omega
        ·intro i hi
         rw [nth_drop',Nat.add_assoc]
         exact Hc.out _ (by simp at hi; omega)
        ·rw [← List.append_assoc]; exact hd1
        ·rw [← List.append_assoc]; exact hd2
        ·simp; omega
        ·simp; omega
        ·omega
      ·have hb2 : ¬ (65536 : Int) < 64 * (gk : Int) := by omega
       have hb3 : 64 * gk ≤ c2 := by have := H11.out; omega
       have hb5 : 64 * (gk : Int) ≤ c2 := by omega
       have hlt2 : b1 < wr.heap.size := Nat.lt_of_lt_of_le hlt HF.out.size
       have hK2 : Hid (Blk wr 1 379 (ic .u32 K)) := HKc.out.fr HF.out (by simp; omega)
       have hlen2 : (p2.take (64 * gk)).length = 64 * gk := by simp; omega
       go_wp2_with fail
       refine (block_c wr g s2 x2 0 _ b1 off2 c2 gk (p2.take (64 * gk)) K hlen2 hb3 H12.out (fun i hi => by rw [nth_take' _ _ _ (by omega)]; exact Hcw.out wr HF.out i (by omega)) hlt2 HB.out hK hK2.out).mono ?_
       rintro e w4 ⟨rfl,hf4,hb4⟩
       have HB5 := hid hb4; clear hb4
       have HF5 : Hid (Fr [g] w w4) := HF.out.trans hf4
       have hlt4 : Hid (b1 < w4.heap.size) := Nat.lt_of_lt_of_le hlt HF5.out.size
       clear hf4 hlen2
       have Hfin : Hid (∀ v1,Bytes w4 v1 (p2.drop (64 * gk)) → (∀ b' off' n' cap',v1 = .slice (some ⟨b',off',none⟩) n' cap' → b' = b1) → Mid2 K g b1 msg p T w v1 w4) := by
        intro v1 hb hv
        obtain ⟨hd1,hd2⟩ := HS.out.blocks Hz.out (q := p2.take (64 * gk)) (m := gk) (by simp; omega)
        refine ⟨q2 ++ p2.take (64 * gk),p2.drop (64 * gk),absN K (p2.take (64 * gk)) s2 gk,x2, ?_,hb,hv, ?_, ?_,HF5.out, ?_, ?_⟩
        ·rw [Hq.out,List.append_assoc,List.take_append_drop]
        ·rw [← List.append_assoc]; exact hd1
        ·rw [← List.append_assoc,hd2]; exact HB5.out
        ·rw [← List.append_assoc]; exact .inl hd2
        ·simp; omega
       go_wp2_with fail
       ·go_meet
        case rel =>
         refine Hfin.out _ ?_ (by rintro _ _ _ _ h; cases h; rfl)
         have e : p2.drop (64 * gk) = [] := List.drop_eq_nil_of_le (by have := H11.out; omega)
         rw [e]
         exact ints_mk (by simp; have := H11.out; omega) (by have := H11.out; omega) (by omega) hlt4.out (fun i hi => by simp at hi)
       ·go_meet
        case rel =>
         refine Hfin.out _ ?_ (by rintro _ _ _ _ h; cases h; rfl)
         exact ints_drop rfl hm1 H11.out H12.out hlt4.out (fun i hi => Hcw.out _ HF5.out i hi)
    ·have h64i : ¬ (64 : Int) ≤ p1.length := by omega
     go_wp2_with fail
     go_meet
     case rel =>
      refine ⟨q,p1,s1,x1,Hq.out, ?_,Hv1.out,HS.out,HB.out,HF.out,H0.out,by omega⟩
      rcases h13 with ⟨rfl,_,rfl⟩ | ⟨b1,off1,rfl,hb1lt,hc1⟩
      ·exact ⟨_,_,rfl,Nat.le_refl _,Nat.zero_le _,.inl ⟨rfl,rfl,rfl⟩⟩
      ·exact ints_mk rfl H11.out H12.out hb1lt hc1
   case rest =>
    obtain ⟨q4,p4,s4,x4,hq4,hb4,hv4,hS4,hB4,hF4,hz4,hl4⟩ := hcut
    clear HS HB HF h13 Hq Hv1 H11 H12 H0
    obtain ⟨a4,c4,rfl,h41,h42,h43⟩ := ints_cases hb4
    clear hb4
    have Hq := hid hq4; clear hq4
    have HS := hid hS4; clear hS4
    have HB := hid hB4; clear hB4
    have HF := hid hF4; clear hF4
    have Hv4 := hid hv4; clear hv4
    have H41 := hid h41; clear h41
    have H42 := hid h42; clear h42
    have H0 := hid hz4; clear hz4
    by_cases hz : 0 < p4.length
    ·have hzi : (0 : Int) < p4.length := by omega
     rcases h43 with ⟨_,_,rfl⟩ | ⟨b4,off4,rfl,hb4lt,hc4⟩
     ·simp at hz
     obtain rfl : b4 = b := Hv4.out _ _ _ _ rfl
     have Hc := hid hc4; clear hc4
     have hu29 : Tryz.prog.underlying 29 = some (.slice 5) := by kernel_rfl
     have hs5 : (Tryz.prog.info? 5).map (·.size) = some 1 := by kernel_rfl
     have hcn : (ic .u8 p4).length = Nat.min p4.length 64 := by simp; show _ = min _ _; omega
     have hcp : 0 < (ic .u8 p4).length → some (⟨g,8,none⟩ : Addr) = some ⟨g,8,none⟩ ∧ ∃ ad,some (⟨b4,off4,none⟩ : Addr) = some ad ∧ ∀ j v,(ic .u8 p4)[j]? = some v → wc.cell? (ad.add j) = some v := by
      refine fun _ => ⟨rfl,_,rfl, ?_⟩
      intro j v hj
      have hj' := (List.getElem?_eq_some_iff.mp hj).1
      have ea : (⟨b4,off4,none⟩ : Addr).add j = ⟨b4,off4 + j,none⟩ := by
       unfold Addr.add; split
       ·rename_i h0; rw [h0]; rfl
       ·rfl
      rw [ea,Hc.out j (by simpa using hj'),← hj,List.getElem?_eq_getElem hj',ic_nth]
     have hx4 := hid HS.out.len
     obtain ⟨r4,hr4⟩ : ∃ r4,r4 = (((msg ++ q4).length % 64 : Nat) : Int) := ⟨_,rfl⟩
     have Hr4 := hid hr4
     rw [← hr4] at HB
     clear hr4
     have hcf : 8 + (ic .u8 p4).length ≤ (dig s4 x4 r4 T).length := by have := hx4.out; simp [dig]; omega
     have Hcf := hid hcf; clear hcf
     have Hcp := hid hcp; clear hcp
     have Hcn := hid hcn; clear hcn
     have hgm : g ∈ [g] := by simp
     have hq40 : (msg ++ q4).length % 64 = 0 := by
      rcases H0.out with h | h
      ·exact h
      ·rw [h] at hz; simp at hz
     have f72 := HB.out.free 72
     have d72 : wc.cell? ⟨g,72,none⟩ = some (.int .i64 r4) := HB.out.cell_at (by simp [dig,hx4.out])
     have Hq40 := hid hq40; clear hq40
     go_wp2_with (with_reducible refine wpList_copy_blk (o := ⟨some 92,_,_,_,_,_⟩) rfl _ _ 29 29 rfl 5 hu29 hs5 (some ⟨g,8,none⟩) (some ⟨b4,off4,none⟩) 64 64 p4.length c4 ?_ ?_ g 8 (dig s4 x4 r4 T) 328 HB.out (ic .u8 p4) Hcn.out Hcp.out Hcf.out (ic_one _ _) [g] w HF.out hgm ?_)
     intro w5 HB5 HF5
     have HB6 : Hid (Blk w5 g 328 (dig s4 (splice x4 0 p4) r4 T)) := by rw [← splice_dig hx4.out (by omega)]; exact HB5.out
     clear HB5 HB HF
     have hxl : (splice x4 0 p4).length = 64 := by rw [length_splice _ _ _ (by have := hx4.out; omega)]; exact hx4.out
     have Hxl := hid hxl; clear hxl
     have hg5 := HB6.out.lt
     have e72 : w5.cell? ⟨g,72,none⟩ = some (.int .i64 r4) := HB6.out.cell_at (by simp [dig,Hxl.out])
     have g72 := HB6.out.free 72
     clear d72 f72
     go_wp2_with fail
     go_ret2
     refine ⟨rfl,HF5.out.setCell _ _ (by simp),s4,splice x4 0 p4, ?_, ?_⟩
     ·have hd := HS.out.fill (q := p4) (by rw [Hq40.out]; omega)
      rw [Hq40.out,List.append_assoc,← Hq.out] at hd; exact hd
     ·have e : ((L + n : Nat) : Int) = (((msg ++ p).length : Nat) : Int) := by
       have e1 := HL.out; have e2 := Hn.out; simp; omega
      have e3 : (msg ++ p).length % 64 = p4.length := by
       have := Hq40.out; rw [Hq.out,← List.append_assoc,List.length_append]; omega
      have hB7 := HB6.out.set 72 (.int .i64 (p4.length : Int))
      rw [dig_set72 _ Hxl.out,HT.out,e] at hB7
      rw [e3]; exact hB7
    ·obtain rfl : p4 = [] := List.eq_nil_of_length_eq_zero (by omega)
     go_wp2_with fail
     go_ret2
     refine ⟨rfl,HF.out,s4,x4, ?_, ?_⟩
     ·have := HS.out; rw [Hq.out,List.append_nil]; exact this
     ·have := HB.out
      rw [Hq.out,List.append_nil]
      have e : T = (((msg ++ q4).length : Nat) : Int) := by
       rw [HT.out]
       have e1 := HL.out; have e2 := Hn.out; rw [Hq.out] at e2; simp at e2 ⊢; omega
      rw [← e]; exact this
set_option maxRecDepth 8000 in
set_option maxHeartbeats 4000000 in
theorem checkSum_c (K : List Int) (hK : K.length = 64) (w : World) (g : Nat) (msg : List Int) (hKc : Blk w 1 379 (ic .u32 K)) (hg1 : g ≠ 1)
  (hD : DigAt K w g msg) (hlen : msg.length < 2 ^ 60) :
  Calls Tryz.prog 306 #[.pointer (some ⟨g,0,none⟩)] w fun e w' => e = .returned (.agg (ic .u8 (sha K msg)).toArray) ∧ Fr [g] w w' ∧ ∃ s' x' nx' T',List.length x' = 64 ∧ Blk w' g 328 (dig s' x' nx' T') := by
 obtain ⟨s,x,hS,hB⟩ := hD
 have hglt := hB.lt
 have hx := hS.len
 obtain ⟨L,hL⟩ : ∃ L,L = msg.length := ⟨_,rfl⟩
 rw [← hL] at hB hlen
 have d73 : w.cell? ⟨g,73,none⟩ = some (.int .u64 (L : Int)) := hB.cell_at (by simp [dig,hx])
 have HB := hid hB; clear hB
 have HS := hid hS; clear hS
 have Hx := hid hx; clear hx
 have HL := hid hL; clear hL
 have HKc := hid hKc; clear hKc
 have hLi : (L : Int) < 1152921504606846976 := by omega
 go_enter Tryz.func306,Tryz.ntmps306
 go_upto_if 15 with fail
 generalize hw1 : World.alloc (World.alloc w _) _ = w1
 have HF1 : Hid (Fr [] w w1) := by rw [← hw1]; exact ((Fr.refl _ _).alloc _).alloc _
 have HR1 : Hid (Blk w1 w.heap.size 22 (ic .u8 (List.replicate 32 0))) := by
  rw [← hw1]
  exact (Blk.new w (ic .u8 (List.replicate 32 0)) 22).alloc _
 have HT1 : Hid (Blk w1 (w.heap.size + 1) 378 (ic .u8 (128 :: List.replicate 71 0))) := by
  rw [← hw1]
  have h := (Blk.new (w.alloc (.cells (ic .u8 (List.replicate 32 0)).toArray 22)) (ic .u8 (128 :: List.replicate 71 0)) 378)
  have e : (w.alloc (.cells (ic .u8 (List.replicate 32 0)).toArray 22)).heap.size = w.heap.size + 1 := by simp
  rw [e] at h
  exact h
 have hsz : w1.heap.size = w.heap.size + 2 := by rw [← hw1]; simp
 clear hw1 hLi
 have hpn := padN_pos L
 go_cut [5] (fun v5 wc => v5 = .int .u64 ((padN L : Nat) : Int) ∧ w1 = wc)
 case first =>
  by_cases h56 : L % 64 < 56
  ·have h56i : (L : Int) % 64 < 56 := by omega
   go_wp2_with fail
   go_meet
   case rel => exact ⟨by unfold padN; rw [if_pos h56]; congr 1; omega,rfl⟩
  ·have h56i : ¬ (L : Int) % 64 < 56 := by omega
   go_wp2_with fail
   go_meet
   case rel => exact ⟨by unfold padN; rw [if_neg h56]; congr 1; omega,rfl⟩
 case rest =>
  obtain ⟨rfl,rfl⟩ := hcut
  clear d73
  have hLi : (L : Int) < 1152921504606846976 := by omega
  obtain ⟨t,ht⟩ : ∃ t,t = padN L := ⟨_,rfl⟩
  rw [← ht] at hpn
  rw [← ht]
  have Ht := hid ht; clear ht
  have htr : (t : Int) + 8 ≤ 72 := by omega
  have htr0 : (0 : Int) ≤ (t : Int) + 8 := by omega
  have ht64 : (t : Int) ≤ 64 := by omega
  have ht1 : t ≤ 64 := by omega
  have ht8 : ¬ (t = 72) := by omega
  go_wp2_with fail
  refine (put64f (w.heap.size + 1) t (72 - t) 8 378 _ _ w1 HT1.out (by simp; omega) (by omega)).mono ?_
  rintro e w2 ⟨rfl,hf2,hb2⟩
  have hg2 : g < w.heap.size := hglt
  have HF2 : Hid (Fr [] w w2) := HF1.out.andThen hf2 (by simp)
  have HR2 : Hid (Blk w2 w.heap.size 22 (ic .u8 (List.replicate 32 0))) := HR1.out.fr hf2 (by simp)
  have HP2 : Hid (Bytes w2 (.slice (some ⟨w.heap.size + 1,0,none⟩) (t + 8) 72) (pad L)) := by
   have e1 : pad L = (splice (128 :: List.replicate 71 0) t (be8 ((L : Int) * 8))).take (t + 8) := by
    rw [pad_splice L _ _ hpn,pad,← Ht.out,Int.emod_eq_of_lt (by omega) (by omega)]
   have e2 : (splice (128 :: List.replicate 71 0) t (be8 ((L : Int) * 8))).length = 72 := by rw [length_splice _ _ _ (by simp [be8]; omega)]; simp
   rw [e1]
   refine ints_mk (by rw [List.length_take,e2]; omega) (by omega) (by decide) hb2.lt (fun i hi => ?_)
   rw [List.length_take,e2] at hi
   rw [nth_take' _ _ _ (by omega),Nat.zero_add]
   exact hb2.int i (by omega)
  have HD2 : Hid (DigAt K w2 g msg) := ⟨s,x,HS.out,by have := HB.out.below HF2.out.below hglt; rw [HL.out] at this; exact this⟩
  have HK2 : Hid (Blk w2 1 379 (ic .u32 K)) := HKc.out.below HF2.out.below HKc.out.lt
  have hs2 : w1.heap.size ≤ w2.heap.size := hf2.size
  have Hs2 := hid hs2
  clear hf2 hb2 HF1 HR1 HT1 hs2
  go_wp2_with fail
  refine (write_c K hK w2 g msg (pad L) _ HK2.out hg1 HD2.out HP2.out (by rintro _ _ _ _ h _; cases h; omega) (by rw [pad_length,← Ht.out]; have := HL.out; omega)).mono ?_
  rintro e w3 ⟨rfl,hf3,hd3⟩
  obtain ⟨s3,x3,hS3,hB3⟩ := hd3
  have HF3 : Hid (Fr [g] w w3) := (HF2.out.mono (by simp)).trans hf3
  have HR3 : Hid (Blk w3 w.heap.size 22 (ic .u8 (List.replicate 32 0))) := HR2.out.fr hf3 (by simp; omega)
  have Hs3 : Hid (w2.heap.size ≤ w3.heap.size) := hf3.size
  have hx3 := hS3.len
  have hB4 : Blk w3 g 328 (dig s3 x3 0 ((msg ++ pad L).length : Int)) := by
   have : (msg ++ pad L).length % 64 = 0 := by rw [HL.out]; exact pad_whole msg
   rw [this] at hB3; exact hB3
  have d72 : w3.cell? ⟨g,72,none⟩ = some (.int .i64 0) := hB4.cell_at (by simp [dig,hx3])
  have HB4 := hid hB4; clear hB4
  have Hx3 := hid hx3; clear hx3
  have hs3 : s3 = absN K (msg ++ pad msg.length) iv ((msg ++ pad msg.length).length / 64) := by rw [← HL.out]; exact hS3.st
  have Hsh : Hid (sha K msg = out8 s3) := by rw [hs3]; rfl
  clear hs3 hS3 hB3 hf3 HF2 HR2 HP2 HD2 HK2 HB
  go_wp2_with fail
  have hr4 := HR3.out.lt
  generalize hw4 : World.alloc w3 _ = w4
  have HB5 : Hid (Blk w4 g 328 (dig s3 x3 0 ((msg ++ pad L).length : Int))) := by rw [← hw4]; exact HB4.out.alloc _
  have HF4 : Hid (Fr [g] w w4) := by rw [← hw4]; exact HF3.out.alloc _
  have HR4 : Hid (Blk w4 w.heap.size 22 (ic .u8 (List.replicate 32 0))) := by rw [← hw4]; exact HR3.out.alloc _
  obtain ⟨D,hD⟩ : ∃ D,D = w3.heap.size := ⟨_,rfl⟩
  have HD4 : Hid (Blk w4 D 22 (ic .u8 (List.replicate 32 0))) := by rw [← hw4,hD]; exact Blk.new _ _ _
  rw [← hD] at hr4
  have hDg : w.heap.size ≤ D := by rw [hD]; exact HF3.out.size
  rw [← hD]
  clear d72 hw4 hD HB4 HF3 HR3 Hs2 Hs3
  have hgD : g ≠ D := by omega
  have hk0 : (((List.replicate 32 0) : List Int)).length = 32 := by simp
  have d0 : w4.cell? ⟨g,0,none⟩ = some (.int .u32 s3.a) := HB5.out.cell_at (by simp [dig])
  refine qtail 6 (by kernel_rfl) (by kernel_rfl) ?_
  simp only [List.take_succ_cons,List.take_zero,List.drop_succ_cons,List.drop_zero]
  repeat (go_big_quiet_step (fail))
  refine wpQuiet_nil ?_
  go_wp2_with fail
  refine (put32f D 0 _ _ 22 _ s3.a _ HD4.out.drew (by rw [hk0]; omega) (by omega)).mono ?_
  rintro e w5 ⟨rfl,hf,hb⟩
  have HB6 : Hid (Blk w5 g 328 (dig s3 x3 0 ((msg ++ pad L).length : Int))) := HB5.out.drew.fr hf (by simp; omega)
  have HF5 : Hid (Fr [g] w w5) := HF4.out.drew.andThen hf (by simp; omega)
  have HR5 : Hid (Blk w5 w.heap.size 22 (ic .u8 (List.replicate 32 0))) := HR4.out.drew.fr hf (by simp; omega)
  have HD5 := hid hb
  have hk1 : (splice (List.replicate 32 0) 0 (be4 s3.a)).length = 32 := by rw [length_splice _ _ _ (by rw [hk0]; simp [be4])]; exact hk0
  clear hf hb d0 HB5 HF4 HR4 HD4
  go_wp2_with fail
  have d1 : w5.cell? ⟨g,1,none⟩ = some (.int .u32 s3.b) := HB6.out.cell_at (by simp [dig])
  refine qtail 6 (by kernel_rfl) (by kernel_rfl) ?_
  simp only [List.take_succ_cons,List.take_zero,List.drop_succ_cons,List.drop_zero]
  repeat (go_big_quiet_step (fail))
  refine wpQuiet_nil ?_
  go_wp2_with fail
  refine (put32f D 4 _ _ 22 _ s3.b _ HD5.out.drew (by rw [hk1]; omega) (by omega)).mono ?_
  rintro e w6 ⟨rfl,hf,hb⟩
  have HB7 : Hid (Blk w6 g 328 (dig s3 x3 0 ((msg ++ pad L).length : Int))) := HB6.out.drew.fr hf (by simp; omega)
  have HF6 : Hid (Fr [g] w w6) := HF5.out.drew.andThen hf (by simp; omega)
  have HR6 : Hid (Blk w6 w.heap.size 22 (ic .u8 (List.replicate 32 0))) := HR5.out.drew.fr hf (by simp; omega)
  have HD6 := hid hb
  have hk2 : (splice (splice (List.replicate 32 0) 0 (be4 s3.a)) 4 (be4 s3.b)).length = 32 := by rw [length_splice _ _ _ (by rw [hk1]; simp [be4])]; exact hk1
  clear hf hb d1 HB6 HF5 HR5 HD5
  go_wp2_with fail
  have d2 : w6.cell? ⟨g,2,none⟩ = some (.int .u32 s3.c) := HB7.out.cell_at (by simp [dig])
  refine qtail 6 (by kernel_rfl) (by kernel_rfl) ?_
  simp only [List.take_succ_cons,List.take_zero,List.drop_succ_cons,List.drop_zero]
  repeat (go_big_quiet_step (fail))
  refine wpQuiet_nil ?_
  go_wp2_with fail
  refine (put32f D 8 _ _ 22 _ s3.c _ HD6.out.drew (by rw [hk2]; omega) (by omega)).mono ?_
  rintro e w7 ⟨rfl,hf,hb⟩
  have HB8 : Hid (Blk w7 g 328 (dig s3 x3 0 ((msg ++ pad L).length : Int))) := HB7.out.drew.fr hf (by simp; omega)
  have HF7 : Hid (Fr [g] w w7) := HF6.out.drew.andThen hf (by simp; omega)
  have HR7 : Hid (Blk w7 w.heap.size 22 (ic .u8 (List.replicate 32 0))) := HR6.out.drew.fr hf (by simp; omega)
  have HD7 := hid hb
  have hk3 : (splice (splice (splice (List.replicate 32 0) 0 (be4 s3.a)) 4 (be4 s3.b)) 8 (be4 s3.c)).length = 32 := by rw [length_splice _ _ _ (by rw [hk2]; simp [be4])]; exact hk2
  clear hf hb d2 HB7 HF6 HR6 HD6
  go_wp2_with fail
  have d3 : w7.cell? ⟨g,3,none⟩ = some (.int .u32 s3.d) := HB8.out.cell_at (by simp [dig])
  refine qtail 6 (by kernel_rfl) (by kernel_rfl) ?_
  simp only [List.take_succ_cons,List.take_zero,List.drop_succ_cons,List.drop_zero]
  repeat (go_big_quiet_step (fail))
  refine wpQuiet_nil ?_
  go_wp2_with fail
  refine (put32f D 12 _ _ 22 _ s3.d _ HD7.out.drew (by rw [hk3]; omega) (by omega)).mono ?_
  rintro e w8 ⟨rfl,hf,hb⟩
  have HB9 : Hid (Blk w8 g 328 (dig s3 x3 0 ((msg ++ pad L).length : Int))) := HB8.out.drew.fr hf (by simp; omega)
  have HF8 : Hid (Fr [g] w w8) := HF7.out.drew.andThen hf (by simp; omega)
  have HR8 : Hid (Blk w8 w.heap.size 22 (ic .u8 (List.replicate 32 0))) := HR7.out.drew.fr hf (by simp; omega)
  have HD8 := hid hb
  have hk4 : (splice (splice (splice (splice (List.replicate 32 0) 0 (be4 s3.a)) 4 (be4 s3.b)) 8 (be4 s3.c)) 12 (be4 s3.d)).length = 32 := by rw [length_splice _ _ _ (by rw [hk3]; simp [be4])]; exact hk3
  clear hf hb d3 HB8 HF7 HR7 HD7
  go_wp2_with fail
  have d4 : w8.cell? ⟨g,4,none⟩ = some (.int .u32 s3.e) := HB9.out.cell_at (by simp [dig])
  refine qtail 6 (by kernel_rfl) (by kernel_rfl) ?_
  simp only [List.take_succ_cons,List.take_zero,List.drop_succ_cons,List.drop_zero]
  repeat (go_big_quiet_step (fail))
  refine wpQuiet_nil ?_
  go_wp2_with fail
  refine (put32f D 16 _ _ 22 _ s3.e _ HD8.out.drew (by rw [hk4]; omega) (by omega)).mono ?_
  rintro e w9 ⟨rfl,hf,hb⟩
  have HB10 : Hid (Blk w9 g 328 (dig s3 x3 0 ((msg ++ pad L).length : Int))) := HB9.out.drew.fr hf (by simp; omega)
  have HF9 : Hid (Fr [g] w w9) := HF8.out.drew.andThen hf (by simp; omega)
  have HR9 : Hid (Blk w9 w.heap.size 22 (ic .u8 (List.replicate 32 0))) := HR8.out.drew.fr hf (by simp; omega)
  have HD9 := hid hb
  have hk5 : (splice (splice (splice (splice (splice (List.replicate 32 0) 0 (be4 s3.a)) 4 (be4 s3.b)) 8 (be4 s3.c)) 12 (be4 s3.d)) 16 (be4 s3.e)).length = 32 := by rw [length_splice _ _ _ (by rw [hk4]; simp [be4])]; exact hk4
  clear hf hb d4 HB9 HF8 HR8 HD8
  go_wp2_with fail
  have d5 : w9.cell? ⟨g,5,none⟩ = some (.int .u32 s3.f) := HB10.out.cell_at (by simp [dig])
  refine qtail 6 (by kernel_rfl) (by kernel_rfl) ?_
  simp only [List.take_succ_cons,List.take_zero,List.drop_succ_cons,List.drop_zero]
  repeat (go_big_quiet_step (fail))
  refine wpQuiet_nil ?_
  go_wp2_with fail
  refine (put32f D 20 _ _ 22 _ s3.f _ HD9.out.drew (by rw [hk5]; omega) (by omega)).mono ?_
  rintro e w10 ⟨rfl,hf,hb⟩
  have HB11 : Hid (Blk w10 g 328 (dig s3 x3 0 ((msg ++ pad L).length : Int))) := HB10.out.drew.fr hf (by simp; omega)
  have HF10 : Hid (Fr [g] w w10) := HF9.out.drew.andThen hf (by simp; omega)
  have HR10 : Hid (Blk w10 w.heap.size 22 (ic .u8 (List.replicate 32 0))) := HR9.out.drew.fr hf (by simp; omega)
  have HD10 := hid hb
  have hk6 : (splice (splice (splice (splice (splice (splice (List.replicate 32 0) 0 (be4 s3.a)) 4 (be4 s3.b)) 8 (be4 s3.c)) 12 (be4 s3.d)) 16 (be4 s3.e)) 20 (be4 s3.f)).length = 32 := by rw [length_splice _ _ _ (by rw [hk5]; simp [be4])]; exact hk5
  clear hf hb d5 HB10 HF9 HR9 HD9
  go_wp2_with fail
  have d6 : w10.cell? ⟨g,6,none⟩ = some (.int .u32 s3.g) := HB11.out.cell_at (by simp [dig])
  refine qtail 6 (by kernel_rfl) (by kernel_rfl) ?_
  simp only [List.take_succ_cons,List.take_zero,List.drop_succ_cons,List.drop_zero]
  repeat (go_big_quiet_step (fail))
  refine wpQuiet_nil ?_
  go_wp2_with fail
  refine (put32f D 24 _ _ 22 _ s3.g _ HD10.out.drew (by rw [hk6]; omega) (by omega)).mono ?_
  rintro e w11 ⟨rfl,hf,hb⟩
  have HB12 : Hid (Blk w11 g 328 (dig s3 x3 0 ((msg ++ pad L).length : Int))) := HB11.out.drew.fr hf (by simp; omega)
  have HF11 : Hid (Fr [g] w w11) := HF10.out.drew.andThen hf (by simp; omega)
  have HR11 : Hid (Blk w11 w.heap.size 22 (ic .u8 (List.replicate 32 0))) := HR10.out.drew.fr hf (by simp; omega)
  have HD11 := hid hb
  have hk7 : (splice (splice (splice (splice (splice (splice (splice (List.replicate 32 0) 0 (be4 s3.a)) 4 (be4 s3.b)) 8 (be4 s3.c)) 12 (be4 s3.d)) 16 (be4 s3.e)) 20 (be4 s3.f)) 24 (be4 s3.g)).length = 32 := by rw [length_splice _ _ _ (by rw [hk6]; simp [be4])]; exact hk6
  clear hf hb d6 HB11 HF10 HR10 HD10
  have d74 : w11.cell? ⟨g,74,none⟩ = some (.bool false) := HB12.out.cell_at (by simp [dig,Hx3.out])
  go_wp2_with fail
  have d7 : w11.cell? ⟨g,7,none⟩ = some (.int .u32 s3.h) := HB12.out.cell_at (by simp [dig])
  refine qtail 6 (by kernel_rfl) (by kernel_rfl) ?_
  simp only [List.take_succ_cons,List.take_zero,List.drop_succ_cons,List.drop_zero]
  repeat (go_big_quiet_step (fail))
  refine wpQuiet_nil ?_
  go_wp2_with fail
  refine (put32f D 28 _ _ 22 _ s3.h _ HD11.out.drew (by rw [hk7]; omega) (by omega)).mono ?_
  rintro e w12 ⟨rfl,hf,hb⟩
  have HB13 : Hid (Blk w12 g 328 (dig s3 x3 0 ((msg ++ pad L).length : Int))) := HB12.out.drew.fr hf (by simp; omega)
  have HF12 : Hid (Fr [g] w w12) := HF11.out.drew.andThen hf (by simp; omega)
  have HR12 : Hid (Blk w12 w.heap.size 22 (ic .u8 (List.replicate 32 0))) := HR11.out.drew.fr hf (by simp; omega)
  have HD12 := hid hb
  have hk8 : (splice (splice (splice (splice (splice (splice (splice (splice (List.replicate 32 0) 0 (be4 s3.a)) 4 (be4 s3.b)) 8 (be4 s3.c)) 12 (be4 s3.d)) 16 (be4 s3.e)) 20 (be4 s3.f)) 24 (be4 s3.g)) 28 (be4 s3.h)).length = 32 := by rw [length_splice _ _ _ (by rw [hk7]; simp [be4])]; exact hk7
  clear hf hb d7 HB12 HF11 HR11 HD11
  have hdl := HD12.out
  rw [out8_splice] at hdl
  have hload := load_arr (P := Tryz.prog) (ty := 22) hdl _ rfl rfl (by kernel_rfl)
  have hstore := store_arr (P := Tryz.prog) (ty := 22) (l := out8 s3) HR12.out (by rw [out8_length]; simp) (by kernel_rfl)
  have HW := hid (HR12.out.putArr (l := out8 s3) (by rw [out8_length]; simp))
  have hload2 := load_arr (P := Tryz.prog) (ty := 22) HW.out _ rfl rfl (by kernel_rfl)
  have HF13 : Hid (Fr [g] w (w12.setCells w.heap.size 0 (ic .u8 (out8 s3)))) :=
   ((HF12.out.mono (S' := [g,w.heap.size]) (by simp)).trans (fr_setCells (S := [g,w.heap.size]) (by simp) _ _ _ (Fr.refl _ _))).drop (by simp)
  have Hdl := hid hdl; clear hdl
  clear hk0 hk1 hk2 hk3 hk4 hk5 hk6 hk7 hk8
  go_upto_region 24 with fail
  clear hload hload2 hstore
  have hu22 : Tryz.prog.underlying 22 = some (.array 32 5) := by kernel_rfl
  have hi22 : (Tryz.prog.info? 22).map (·.size) = some (ic .u8 (out8 s3)).length := by rw [ic_length,out8_length]; kernel_rfl
  have hrg := Hdl.out.range
  have hrow : (TypeDesc.array 32 5).isRow = true := rfl
  have Hrg := hid hrg; clear hrg
  have Hi22 := hid hi22; clear hi22
  have Hu22 := hid hu22; clear hu22
  have hth : w12.there w.heap.size 0 (ic .u8 (out8 s3)).toArray.size := HR12.out.there (by simp [out8_length])
  refine wp_region_lit ?_
  refine wpList_load_mid rfl 22 (.tmp 7) rfl D 0 rfl (ic .u8 (out8 s3)) (.array 32 5) Hrg.out Hu22.out hrow Hi22.out ?_
  refine wpList_store_mid rfl 22 (.tmp 2) (.tmp 103) rfl w.heap.size 0 (ic .u8 (out8 s3)).toArray rfl rfl hth (by simpa using Hi22.out) (all_oneCell_toArray (ic_one _ _)) ?_
  have HW13 : Hid (Blk (w12.setCells w.heap.size 0 (ic .u8 (out8 s3)).toArray.toList) w.heap.size 22 (ic .u8 (out8 s3))) := HR12.out.putArr (by rw [out8_length]; simp)
  have HF14 : Hid (Fr [g] w (w12.setCells w.heap.size 0 (ic .u8 (out8 s3)).toArray.toList)) := HF13.out
  have HB14 : Hid (Blk (w12.setCells w.heap.size 0 (ic .u8 (out8 s3)).toArray.toList) g 328 (dig s3 x3 0 ((msg ++ pad L).length : Int))) := HB13.out.fr (fr_setCells (S := [w.heap.size]) (by simp) _ _ _ (Fr.refl _ _)) (by simp; omega)
  generalize World.setCells _ _ _ _ = w13 at HW13 HF14 HB14 ⊢
  clear hth hrow
  refine wpList_nil ?_
  simp only [Exit.then]
  refine (‹∀ (a : Act) (w : World),Code.wp Tryz.prog Code.ret _ a w → _›) _ _ ?_
  refine wp_ret ?_
  refine ret_arr rfl rfl (.array 32 5) HW13.out rfl rfl (by rw [out8_length]; kernel_rfl) rfl ?_
  exact ⟨by rw [Hsh.out]; rfl,HF14.out,s3,x3,0,_,Hx3.out,HB14.out⟩
end Go.Proofs.YtdllckiidegpcaaGreat
