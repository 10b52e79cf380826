/- A part of the walk of laws.FnPartial (part 26): contracts of functions that it comes to, and the plain laws that these lean on. Conditions stand in each contract. -/
import Derived.Test.YtdllckiidegpcaaGreatA16
import Derived.Test.YtdllckiidegpcaaGreatA22
import Derived.Test.YtdllckiidegpcaaGreatA24
set_option linter.unusedSimpArgs false
set_option linter.unusedVariables false
set_option maxHeartbeats 4000000
namespace Go.Proofs.YtdllckiidegpcaaGreat
open Go.RowKit
/-- What an opcode pushed: nil where it pushes nothing. -/
def DvOk (B : Nat) (w : World) (x : Int) (dv : Value) (d : List Int) : Prop :=
 ((x = 0 ∨ 78 < x) ∧ dv = .slice none 0 0 ∧ d = []) ∨ ((1 ≤ x ∧ x ≤ 78) ∧ ∃ a n c,dv = .slice (some a) n c ∧ BytesB B w dv d)
theorem DvOk.nil' {B : Nat} {w : World} {x : Int} (h : x = 0 ∨ 78 < x) : DvOk B w x (.slice none 0 0) [] := .inl ⟨h,rfl,rfl⟩
theorem DvOk.some' {B : Nat} {w : World} {x : Int} {a : Addr} {n c : Nat} {d : List Int} (h : 1 ≤ x ∧ x ≤ 78) (hd : BytesB B w (.slice (some a) n c) d) : DvOk B w x (.slice (some a) n c) d := .inr ⟨h,a,n,c,rfl,hd⟩
theorem TkOp.mk' {w : World} {O : Nat} {x y : Int} {s : ByteArray} {l : Int} (h : Blk w O 340 [.int .u8 y,.string s,.int .i64 l]) (hx : x = y) : TkOp w (.pointer (some ⟨O,0,none⟩)) x := by subst hx; exact ⟨O,s,l,rfl,h⟩
def NextR (B : Nat) (s : List Int) (sv : Value) (p : Nat) (pos : Int) (g : Nat) (op data : Value) (w : World) (e : Ending) (w' : World) : Prop := Fr [g] w w' ∧
 ((s.length ≤ p ∧ e = .returned (.bool false) ∧ Blk w' g 308 (tkc sv p pos op data .nilIface))
 ∨ (p < s.length ∧ tokAt s p = none ∧ e = .returned (.bool false) ∧ ∃ t v,Blk w' g 308 (tkc sv p (pos + 1) op data (.iface t v)))
 ∨ (∃ d q,p < s.length ∧ tokAt s p = some (d,q) ∧ e = .returned (.bool true) ∧ ∃ op' dv,Blk w' g 308 (tkc sv q (pos + 1) op' dv .nilIface) ∧ TkOp w' op' (nth s p) ∧ DvOk B w' (nth s p) dv d))
theorem scriptError_c (w : World) (k : Int) (m : ByteArray) : Calls Tryz.prog 159 #[.int .i64 k,.string m] w fun e w' => e = .returned (.agg #[.int .i64 k,.string m]) ∧ Fr [] w w' := by
 go_enter Tryz.func159,Tryz.ntmps159
 go_wp2_with fail
 go_returns
 exact ⟨rfl,(Fr.refl _ _).alloc _⟩
theorem run_neg {P : Program} {op : Oper} {a : Act} {w : World} (k : IntKind) {t : TypeId} (x : Operand) (ho : op.op = .unOp .neg t x) (p : Int) (hx : a.eval x = .int k p) : (execOp a.eval op).run P w = .ok (.value (.int k (k.wrap (0 - p)))) w := by
 unfold execOp; simp only [ho,hx]; cases k <;> rfl
theorem opLen1 (n : Nat) (h : n = 0 ∨ 78 < n) : opLen n = 1 := by
 unfold opLen
 rcases h with h | h
 ·rw [if_pos h]
 ·rw [if_neg (by omega),if_neg (by omega),if_neg (by omega),if_neg (by omega),if_neg (by omega)]
theorem opLenD (n : Nat) (h1 : 1 ≤ n) (h2 : n < 76) : opLen n = n + 1 := by
 unfold opLen; rw [if_neg (by omega),if_pos h2]
set_option maxRecDepth 8000 in
set_option maxHeartbeats 2000000 in
theorem next_c (w : World) (B g : Nat) (hBw : B ≤ w.heap.size) (hBg : B ≤ g) (sv : Value) (s : List Int) (hv : BytesB B w sv s) (hu : U8 s) (hs : s.length ≤ 1000000) (p : Nat) (hp : p ≤ s.length) (pos : Int) (hpos0 : -1 ≤ pos) (hpos1 : pos ≤ 1000000) (op data : Value)
  (hg : Blk w g 308 (tkc sv p pos op data .nilIface)) : Calls Tryz.prog 136 #[.pointer (some ⟨g,0,none⟩)] w (NextR B s sv p pos g op data w) := by
 obtain ⟨a,cap,rfl,hq1,hq2⟩ := hv.form
 clear hq1 hq2
 have HV := hid hv; clear hv
 have Hu := hid hu; clear hu
 have HG := hid hg; clear hg
 have Hs := hid hs; clear hs
 have Hp := hid hp; clear hp
 have hsi : (s.length : Int) ≤ 1000000 := by have := Hs.out; omega
 by_cases hlt : p < s.length
 ·have hd : decide (s.length ≤ p) = false := decide_eq_false (by omega)
  go_enter Tryz.func136,Tryz.ntmps136
  go_wp2_with fail
  refine (done_c w g a s.length cap p pos op data HG.out Hs.out (by have := Hs.out; omega)).mono ?_
  rintro e w1 ⟨rfl,hf⟩
  have HF1 := hid hf; clear hf
  have HG1 : Hid (Blk w1 g 308 (tkc (.slice a s.length cap) p pos op data .nilIface)) := HG.out.fr HF1.out (by simp)
  have c3 : w1.cell? ⟨g,3,none⟩ = some (.int .i32 pos) := HG1.out.cell_at rfl
  have f3 := HG1.out.free 3
  have hl := HG1.out.lt
  go_upto_region 4 with fail
  have HF2 : Hid (Fr [g] w (w1.setCell ⟨g,3,none⟩ (.int .i32 (pos + 1)))) := (HF1.out.mono (by simp)).setCell _ _ (by simp)
  have HG2 : Hid (Blk (w1.setCell ⟨g,3,none⟩ (.int .i32 (pos + 1))) g 308 (tkc (.slice a s.length cap) p (pos + 1) op data .nilIface)) := HG1.out.set 3 _
  generalize World.setCell w1 _ _ = w2 at HF2 HG2 ⊢
  clear c3 f3 hl HG1 HF1
  have HV2 : Hid (BytesB B w2 (.slice a s.length cap) s) := HV.out.below (HF2.out.to_below hBw (by simp; exact hBg))
  obtain ⟨_,_,he,hq1,hq2,hcs⟩ := HV2.out
  clear hq1 hq2
  simp only [Value.slice.injEq] at he
  obtain ⟨rfl,_,rfl⟩ := he
  rcases hcs with ⟨_,_,hcs⟩ | ⟨b,off,rfl,hb,hcs⟩
  ·have := congrArg List.length hcs; rw [ic_length,List.length_nil] at this; omega
  have e1 := hcs p (by simpa using hlt)
  rw [ic_nth] at e1
  clear hcs
  have hx := Hu.out.bd p
  obtain ⟨C,hC⟩ := Int.eq_ofNat_of_zero_le hx.1
  have hC255 : C < 256 := by omega
  rw [hC] at e1
  have HC := hid hC; clear hC hx
  have hBl2 : Below B w w2 := HF2.out.to_below hBw (by simp; exact hBg)
  have hbw2 : b < w2.heap.size := Nat.lt_of_lt_of_le hb (Nat.le_trans hBw HF2.out.size)
  have E1 : Hid (∀ w',Fr [] w2 w' → w'.cell? ⟨b,off + p,none⟩ = some (.int .u8 (C : Int))) := fun w' hf => by rw [hf.cells.1 _ _ hbw2 (by simp)]; exact e1
  clear e1
  refine seg_begin (fun w' => Fr [] w2 w') (by kernel_rfl) ?_
  refine seg_quiet (fuel := 2) (by kernel_rfl) (fun d _ _ _ _ h => by cases d <;> exact h) ((Fr.refl _ _).drew) [0,1,2,3,4,5,6,7,8,9] _ _ (by kernel_rfl) ?_
  simp only [pickL,nthO]
  refine wpQuiet_rfl (.pointer (some ⟨g,0,none⟩)) rfl (fun _ => rfl) ?_
  simp only [Act.put,nA,nB,nC]
  refine wpQuiet_rfl (.pointer (some ⟨g,0,none⟩)) rfl (fun _ => rfl) ?_
  simp only [Act.put,nA,nB,nC]
  refine wpQuiet_rfl (.pointer (some ⟨g,0,none⟩)) rfl (fun _ => rfl) ?_
  simp only [Act.put,nA,nB,nC]
  refine wpQuiet_load1 rfl 29 (.tmp 22) rfl g 0 rfl (.slice (some ⟨b,off,none⟩) s.length cap) _ (fun w' hf => (HG2.out.fr hf (by simp)).cell_at rfl) rfl rfl ?_
  simp only [Act.put,nA,nB,nC]
  refine wpQuiet_rfl (.pointer (some ⟨g,0,none⟩)) rfl (fun _ => rfl) ?_
  simp only [Act.put,nA,nB,nC]
  refine wpQuiet_rfl (.pointer (some ⟨g,0,none⟩)) rfl (fun _ => rfl) ?_
  simp only [Act.put,nA,nB,nC]
  refine wpQuiet_rfl (.pointer (some ⟨g,2,none⟩)) rfl (fun _ => rfl) ?_
  simp only [Act.put,nA,nB,nC]
  refine wpQuiet_load1 rfl 21 (.tmp 26) rfl g 2 rfl (.int .i32 (p : Int)) _ (fun w' hf => (HG2.out.fr hf (by simp)).cell_at rfl) rfl rfl ?_
  simp only [Act.put,nA,nB,nC]
  refine wpQuiet_index rfl 29 (.tmp 23) (.tmp 27) rfl b off s.length cap p 1 .i32 5 rfl rfl hlt (by kernel_rfl) (by kernel_rfl) ?_
  simp only [Act.put,nA,nB,nC]
  refine wpQuiet_load1 rfl 5 (.tmp 28) rfl b (off + p * 1) rfl (.int .u8 (C : Int)) _ (fun w' hf => by rw [Nat.mul_one]; exact E1.out w' hf) rfl rfl ?_
  simp only [Act.put,nA,nB,nC]
  refine wpQuiet_nil ?_
  refine seg_act 10 rfl rfl (by kernel_rfl) ?_
  go_wp2_with fail
  refine (opcodeOf_c w2.drew C hC255).mono ?_
  rintro e w3 ⟨str,rfl,rfl⟩
  have HF3 : Hid (Fr [] w2 (w2.drew.alloc (.cells #[.int .u8 (C : Int),.string str,.int .i64 (opLen C)] 340))) := (Fr.refl _ _).drew.alloc _
  have HO3 : Hid (Blk (w2.drew.alloc (.cells #[.int .u8 (C : Int),.string str,.int .i64 (opLen C)] 340)) w2.drew.heap.size 340 [.int .u8 (C : Int),.string str,.int .i64 (opLen C)]) := Blk.new _ _ _
  generalize World.alloc w2.drew _ = w3 at HF3 HO3 ⊢
  obtain ⟨O,hO⟩ : ∃ O,O = w2.drew.heap.size := ⟨_,rfl⟩
  rw [← hO] at HO3 ⊢
  clear hO
  go_wp2_with fail
  refine ⟨HF3.out,fun _ => ?_⟩
  refine seg_act 11 rfl rfl (by kernel_rfl) ?_
  go_wp2_with fail
  refine ⟨HF3.out,fun _ => ?_⟩
  refine seg_end (by kernel_rfl) ?_
  have HG3 : Hid (Blk w3 g 308 (tkc (.slice (some ⟨b,off,none⟩) s.length cap) p (pos + 1) op data .nilIface)) := HG2.out.fr HF3.out (by simp)
  have HFw3 : Hid (Fr [g] w w3) := HF2.out.trans (HF3.out.mono (by simp))
  have HV3 : Hid (BytesB B w3 (.slice (some ⟨b,off,none⟩) s.length cap) s) := HV.out.below (HFw3.out.to_below hBw (by simp; exact hBg))
  have HOg : Hid (O ≠ g) := HO3.out.ne HG3.out (by decide)
  clear HF2 HG2 HV2 hBl2 hbw2 E1 HF3
  have cO : w3.cell? ⟨O,2,none⟩ = some (.int .i64 (opLen C)) := HO3.out.cell_at rfl
  have hOl := HO3.out.lt
  have hgl := HG3.out.lt
  have c2 : w3.cell? ⟨g,2,none⟩ = some (.int .i32 (p : Int)) := HG3.out.cell_at rfl
  have c4 : w3.cell? ⟨g,4,none⟩ = some op := HG3.out.cell_at rfl
  have c5 : w3.cell? ⟨g,5,none⟩ = some data := HG3.out.cell_at rfl
  have c6 : w3.cell? ⟨g,6,none⟩ = some .nilIface := HG3.out.cell_at rfl
  have f2 := HG3.out.free 2
  have f4 := HG3.out.free 4
  have f5 := HG3.out.free 5
  have f6 := HG3.out.free 6
  have hpi : (p : Int) ≤ 1000000 := by omega
  have hcase : (C = 0 ∨ 78 < C) ∨ (1 ≤ C ∧ C < 76) ∨ C = 76 ∨ C = 77 ∨ C = 78 := by omega
  have HC255 := hid hC255; clear hC255
  have hlti : (p : Int) < s.length := by omega
  have Hlt := hid hlt; clear hlt
  clear hd
  rcases hcase with hA | ⟨hA1,hA2⟩ | rfl | rfl | rfl
  ·have hl1 := opLen1 C hA
   rw [hl1] at cO
   have hok : Hid (tokAt s p = some ([],p + 1)) := by
    show _ = _
    unfold tokAt; rw [HC.out]; simp only []; rw [if_neg (by omega),if_neg (by omega)]
   have HA := hid hA; clear hA hl1
   go_wp2_with fail
   go_ret
   have hFr : Fr [g] w3 (((w3.setCell ⟨g,2,none⟩ (.int .i32 ((p : Int) + 1))).setCell ⟨g,4,none⟩ (.pointer (some ⟨O,0,none⟩))).setCell ⟨g,5,none⟩ (.slice none 0 0)) := (((Fr.refl [g] w3).setCell _ _ (by simp)).setCell _ _ (by simp)).setCell _ _ (by simp)
   refine ⟨HFw3.out.trans hFr,.inr (.inr ⟨[],p + 1,Hlt.out,hok.out,rfl,.pointer (some ⟨O,0,none⟩),.slice none 0 0,((HG3.out.set 2 _).set 4 _).set 5 _,TkOp.mk' (HO3.out.fr hFr (by simp; exact HOg.out)) HC.out,DvOk.nil' (by rw [HC.out]; have := HA.out; omega)⟩)⟩
  ·have hl1 := opLenD C hA1 hA2
   rw [hl1] at cO
   clear hl1
   go_upto_region 11 with fail
   refine seg_begin (fun w' => Fr [] w3 w') (by kernel_rfl) ?_
   refine seg_quiet (fuel := 0) (by kernel_rfl) (fun d _ _ _ _ h => by cases d <;> exact h) ((Fr.refl _ _).drew) [0,1,2,3,4,5,6,7,8,9] _ _ (by kernel_rfl) ?_
   simp only [pickL,nthO]
   refine wpQuiet_rfl (.pointer (some ⟨g,0,none⟩)) rfl (fun _ => rfl) ?_
   simp only [Act.put,nA,nB,nC]
   refine wpQuiet_rfl (.pointer (some ⟨g,0,none⟩)) rfl (fun _ => rfl) ?_
   simp only [Act.put,nA,nB,nC]
   refine wpQuiet_rfl (.pointer (some ⟨g,0,none⟩)) rfl (fun _ => rfl) ?_
   simp only [Act.put,nA,nB,nC]
   refine wpQuiet_load1 rfl 29 (.tmp 59) rfl g 0 rfl (.slice (some ⟨b,off,none⟩) s.length cap) _ (fun w' hf => (HG3.out.fr hf (by simp)).cell_at rfl) rfl rfl ?_
   simp only [Act.put,nA,nB,nC]
   refine wpQuiet_rfl (.pointer (some ⟨g,0,none⟩)) rfl (fun _ => rfl) ?_
   simp only [Act.put,nA,nB,nC]
   refine wpQuiet_rfl (.pointer (some ⟨g,0,none⟩)) rfl (fun _ => rfl) ?_
   simp only [Act.put,nA,nB,nC]
   refine wpQuiet_rfl (.pointer (some ⟨g,2,none⟩)) rfl (fun _ => rfl) ?_
   simp only [Act.put,nA,nB,nC]
   refine wpQuiet_load1 rfl 21 (.tmp 63) rfl g 2 rfl (.int .i32 (p : Int)) _ (fun w' hf => (HG3.out.fr hf (by simp)).cell_at rfl) rfl rfl ?_
   simp only [Act.put,nA,nB,nC]
   refine wpQuiet_slcS_l rfl 29 (.tmp 60) (.tmp 64) rfl 5 (by kernel_rfl) (by kernel_rfl) .i32 rfl rfl HV3.out (by simp) (Nat.le_of_lt Hlt.out) ?_
   intro ar hrv
   rw [ic_drop] at hrv
   obtain ⟨cr,hcr⟩ : ∃ cr,cr = cap - p := ⟨_,rfl⟩
   rw [← hcr] at hrv ⊢
   clear hcr
   obtain ⟨n,hn⟩ : ∃ n,n = s.length - p := ⟨_,rfl⟩
   rw [← hn] at hrv ⊢
   have HR : Hid (RdB B w3 (.slice (some ar) n cr) n (ic .u8 (s.drop p))) := hrv
   have Hn := hid hn; clear hn hrv
   have hn6 : (n : Int) ≤ 1000000 := by have := Hn.out; omega
   simp only [Act.put,nA,nB,nC]
   go_big_quiet_step ((intro hw; first | with_reducible rfl | rfl))
   refine wpQuiet_nil ?_
   refine seg_end (by kernel_rfl) ?_
   have HFr : Hid (Fr [] w3 w3.drew) := (Fr.refl _ _).drew
   generalize w3.drew = w4 at HFr ⊢
   have HG4 : Hid (Blk w4 g 308 (tkc (.slice (some ⟨b,off,none⟩) s.length cap) p (pos + 1) op data .nilIface)) := HG3.out.fr HFr.out (by simp)
   have HO4 : Hid (Blk w4 O 340 [.int .u8 (C : Int),.string str,.int .i64 (C + 1)]) := by have := HO3.out.fr HFr.out (by simp); rwa [opLenD C hA1 hA2] at this
   have HFw4 : Hid (Fr [g] w w4) := HFw3.out.trans (HFr.out.mono (by simp))
   have HR4 : Hid (RdB B w4 (.slice (some ar) n cr) n (ic .u8 (s.drop p))) := HR.out.below (HFr.out.below.mono (Nat.le_trans hBw HFw3.out.size))
   clear cO hOl hgl c2 c4 c5 c6 f2 f4 f5 f6 HG3 HO3 HFw3 HR HV3
   have cO : w4.cell? ⟨O,2,none⟩ = some (.int .i64 ((C : Int) + 1)) := HO4.out.cell_at rfl
   have hOl := HO4.out.lt
   have hgl := HG4.out.lt
   have c2 : w4.cell? ⟨g,2,none⟩ = some (.int .i32 (p : Int)) := HG4.out.cell_at rfl
   have c4 : w4.cell? ⟨g,4,none⟩ = some op := HG4.out.cell_at rfl
   have c5 : w4.cell? ⟨g,5,none⟩ = some data := HG4.out.cell_at rfl
   have c6 : w4.cell? ⟨g,6,none⟩ = some .nilIface := HG4.out.cell_at rfl
   have f2 := HG4.out.free 2
   have f4 := HG4.out.free 4
   have f5 := HG4.out.free 5
   have f6 := HG4.out.free 6
   have HA1 := hid hA1; clear hA1
   have hC75 : (C : Int) ≤ 75 := by omega
   have HA2 := hid hA2; clear hA2
   by_cases hbad : n < C + 1
   ·have hbadi : (n : Int) < C + 1 := by omega
    have hok : Hid (tokAt s p = none) := by
     have := Hn.out; have := HA1.out; have := HA2.out
     show _ = _
     unfold tokAt; rw [HC.out]; simp only [List.length_drop,Int.toNat_natCast]; rw [if_pos (by omega),if_neg (by omega)]
    have Hbad := hid hbad; clear hbad
    go_wp2_with fail
    refine (scriptError_c w4 _ _).mono ?_
    rintro e w5 ⟨rfl,hf⟩
    have HF5 := hid hf; clear hf
    have HG5 : Hid (Blk w5 g 308 (tkc (.slice (some ⟨b,off,none⟩) s.length cap) p (pos + 1) op data .nilIface)) := HG4.out.fr HF5.out (by simp)
    have c6' : w5.cell? ⟨g,6,none⟩ = some .nilIface := HG5.out.cell_at rfl
    have f6' := HG5.out.free 6
    have hgl' := HG5.out.lt
    clear cO hOl hgl c2 c4 c5 c6 f2 f4 f5 f6
    go_wp2_with fail
    go_ret
    exact ⟨HFw4.out.trans ((HF5.out.mono (by simp)).setCell _ _ (by simp)),.inr (.inl ⟨Hlt.out,hok.out,rfl,_,_,HG5.out.set 6 _⟩)⟩
   ·have hbadi : ((C : Int) + 1) ≤ n := by omega
    have Hbad := hid hbad; clear hbad
    have hok : Hid (tokAt s p = some ((s.drop (p + 1)).take C,p + 1 + C)) := by
     have := Hn.out; have := HA1.out; have := HA2.out; have := Hbad.out
     show _ = _
     unfold tokAt; rw [HC.out]; simp only [List.length_drop,Int.toNat_natCast]; rw [if_pos (by omega),if_pos (by omega)]
    go_upto_region 16 with fail
    refine qtail 12 (by kernel_rfl) (by kernel_rfl) ?_
    simp only [List.take_succ_cons,List.take_zero,List.drop_succ_cons,List.drop_zero]
    repeat (go_big_quiet_step (fail))
    refine wpQuiet_nil ?_
    go_upto_region 17 with fail
    have HF5 : Hid (Fr [g] w4 (w4.setCell ⟨g,2,none⟩ (.int .i32 ((p : Int) + (C + 1)))).drew) := ((Fr.refl _ _).setCell _ _ (by simp)).drew
    have HG5 : Hid (Blk (w4.setCell ⟨g,2,none⟩ (.int .i32 ((p : Int) + (C + 1)))).drew g 308 (tkc (.slice (some ⟨b,off,none⟩) s.length cap) ((p : Int) + (C + 1)) (pos + 1) op data .nilIface)) := (HG4.out.set 2 _).drew
    generalize World.drew (World.setCell w4 _ _) = w5 at HF5 HG5 ⊢
    clear cO hOl hgl c2 c4 c5 c6 f2 f4 f5 f6
    have c4 : w5.cell? ⟨g,4,none⟩ = some op := HG5.out.cell_at rfl
    have f4 := HG5.out.free 4
    have hgl := HG5.out.lt
    go_upto_region 18 with fail
    have HF6 : Hid (Fr [g] w4 (w5.setCell ⟨g,4,none⟩ (.pointer (some ⟨O,0,none⟩)))) := HF5.out.setCell _ _ (by simp)
    have HG6 : Hid (Blk (w5.setCell ⟨g,4,none⟩ (.pointer (some ⟨O,0,none⟩))) g 308 (tkc (.slice (some ⟨b,off,none⟩) s.length cap) ((p : Int) + (C + 1)) (pos + 1) (.pointer (some ⟨O,0,none⟩)) data .nilIface)) := HG5.out.set 4 _
    generalize World.setCell w5 _ _ = w6 at HF6 HG6 ⊢
    clear c4 f4 hgl HF5 HG5
    have HO6 : Hid (Blk w6 O 340 [.int .u8 (C : Int),.string str,.int .i64 (C + 1)]) := HO4.out.fr HF6.out (by simp; exact HOg.out)
    have HR6 : Hid (RdB B w6 (.slice (some ar) n cr) n (ic .u8 (s.drop p))) := HR4.out.below (HF6.out.to_below (Nat.le_trans hBw HFw4.out.size) (by simp; exact hBg))
    have cO : w6.cell? ⟨O,2,none⟩ = some (.int .i64 ((C : Int) + 1)) := HO6.out.cell_at rfl
    have hbd : C + 1 ≤ n := by have := Hbad.out; omega
    refine wp_region_lit ?_
    refine wpList_run (v := .pointer (some ⟨g,0,none⟩)) rfl rfl ?_
    simp only [Act.put,nA,nB,nC]
    refine wpList_run (v := .slice (some ar) n cr) rfl rfl ?_
    simp only [Act.put,nA,nB,nC]
    refine wpList_run (v := .pointer (some ⟨O,0,none⟩)) rfl rfl ?_
    simp only [Act.put,nA,nB,nC]
    refine wpList_run (v := .pointer (some ⟨O,0,none⟩)) rfl rfl ?_
    simp only [Act.put,nA,nB,nC]
    refine wpList_run (v := .pointer (some ⟨O,2,none⟩)) rfl rfl ?_
    simp only [Act.put,nA,nB,nC]
    refine wpList_load1 rfl 3 (.tmp 99) rfl O 2 rfl (.int .i64 ((C + 1 : Nat) : Int)) _ cO rfl rfl ?_
    simp only [Act.put,nA,nB,nC]
    refine wpList_slcS_lh (lo := 1) (hi := C + 1) rfl 29 (.tmp 96) _ (.tmp 100) rfl 5 (by kernel_rfl) (by kernel_rfl) .i64 .i64 rfl rfl rfl HR6.out (by have := Hn.out; simp; omega) (by omega) hbd ?_
    intro ad hdv
    rw [ic_drop,ic_take,List.drop_drop,Nat.add_sub_cancel] at hdv
    simp only [Nat.add_sub_cancel]
    simp only [Act.put,nA,nB,nC]
    have HD6 : Hid (BytesB B w6 (.slice (some ad) C (cr - 1)) ((s.drop (p + 1)).take C)) := by
     have e : ((s.drop (p + 1)).take C).length = C := by have := Hn.out; rw [List.length_take,List.length_drop]; omega
     show RdB _ _ _ _ _
     rw [e]
     exact hdv
    clear hdv cO hbd
    have c5 : w6.cell? ⟨g,5,none⟩ = some data := HG6.out.cell_at rfl
    have f5 := HG6.out.free 5
    have hgl := HG6.out.lt
    go_wp2_with fail
    go_ret
    have hF7 : Fr [g] w6 (w6.setCell ⟨g,5,none⟩ (.slice (some ad) C (cr - 1))) := (Fr.refl _ _).setCell _ _ (by simp)
    refine ⟨HFw4.out.trans (HF6.out.trans hF7),.inr (.inr ⟨_,p + 1 + C,Hlt.out,hok.out,rfl,.pointer (some ⟨O,0,none⟩),.slice (some ad) C (cr - 1), ?_,TkOp.mk' (HO6.out.fr hF7 (by simp; exact HOg.out)) HC.out,DvOk.some' ?_ (HD6.out.below (hF7.to_below (Nat.le_trans hBw (Nat.le_trans HFw4.out.size HF6.out.size)) (by simp; exact hBg)))⟩)⟩
    ·have := HG6.out.set 5 (.slice (some ad) C (cr - 1))
     rw [show ((p + 1 + C : Nat) : Int) = (p : Int) + (C + 1) by omega]
     exact this
    ·rw [HC.out]; have := HA1.out; have := HA2.out; omega
  ·have hl1 : opLen 76 = -1 := by decide
   rw [hl1] at cO
   clear hl1
   go_upto_region 21 with fail
   refine seg_begin (fun w' => Fr [] w3 w') (by kernel_rfl) ?_
   refine seg_quiet (fuel := 0) (by kernel_rfl) (fun d _ _ _ _ h => by cases d <;> exact h) ((Fr.refl _ _).drew) [0,1,2,3,4,5,6,7,8,9,10] _ _ (by kernel_rfl) ?_
   simp only [pickL,nthO]
   refine wpQuiet_rfl (.pointer (some ⟨g,0,none⟩)) rfl (fun _ => rfl) ?_
   simp only [Act.put,nA,nB,nC]
   refine wpQuiet_rfl (.pointer (some ⟨g,0,none⟩)) rfl (fun _ => rfl) ?_
   simp only [Act.put,nA,nB,nC]
   refine wpQuiet_rfl (.pointer (some ⟨g,0,none⟩)) rfl (fun _ => rfl) ?_
   simp only [Act.put,nA,nB,nC]
   refine wpQuiet_load1 rfl 29 (.tmp 112) rfl g 0 rfl (.slice (some ⟨b,off,none⟩) s.length cap) _ (fun w' hf => (HG3.out.fr hf (by simp)).cell_at rfl) rfl rfl ?_
   simp only [Act.put,nA,nB,nC]
   refine wpQuiet_rfl (.pointer (some ⟨g,0,none⟩)) rfl (fun _ => rfl) ?_
   simp only [Act.put,nA,nB,nC]
   refine wpQuiet_rfl (.pointer (some ⟨g,0,none⟩)) rfl (fun _ => rfl) ?_
   simp only [Act.put,nA,nB,nC]
   refine wpQuiet_rfl (.pointer (some ⟨g,2,none⟩)) rfl (fun _ => rfl) ?_
   simp only [Act.put,nA,nB,nC]
   refine wpQuiet_load1 rfl 21 (.tmp 116) rfl g 2 rfl (.int .i32 (p : Int)) _ (fun w' hf => (HG3.out.fr hf (by simp)).cell_at rfl) rfl rfl ?_
   simp only [Act.put,nA,nB,nC]
   have hw1 : IntKind.i32.wrap ((p : Int) + 1) = ((p + 1 : Nat) : Int) := by rw [IntKind.wrap_i32]; omega
   refine wpQuiet_run rfl (.int .i32 ((p + 1 : Nat) : Int)) (fun w => by rw [run_add .i32 21 21 (.tmp 117) _ rfl (p : Int) 1 rfl rfl,hw1]) ?_
   simp only [Act.put,nA,nB,nC]
   clear hw1
   refine wpQuiet_slcS_l rfl 29 (.tmp 113) (.tmp 118) rfl 5 (by kernel_rfl) (by kernel_rfl) .i32 rfl rfl HV3.out (by simp) Hlt.out ?_
   intro ar hrv
   rw [ic_drop] at hrv
   obtain ⟨cr,hcr⟩ : ∃ cr,cr = cap - (p + 1) := ⟨_,rfl⟩
   rw [← hcr] at hrv ⊢
   clear hcr
   obtain ⟨n,hn⟩ : ∃ n,n = s.length - (p + 1) := ⟨_,rfl⟩
   rw [← hn] at hrv ⊢
   have HR : Hid (RdB B w3 (.slice (some ar) n cr) n (ic .u8 (s.drop (p + 1)))) := hrv
   have Hn := hid hn; clear hn hrv
   have hn6 : (n : Int) ≤ 1000000 := by have := Hn.out; omega
   simp only [Act.put,nA,nB,nC]
   go_big_quiet_step ((intro hw; first | with_reducible rfl | rfl))
   refine wpQuiet_nil ?_
   refine seg_end (by kernel_rfl) ?_
   have HFr : Hid (Fr [] w3 w3.drew) := (Fr.refl _ _).drew
   generalize w3.drew = w4 at HFr ⊢
   have HG4 : Hid (Blk w4 g 308 (tkc (.slice (some ⟨b,off,none⟩) s.length cap) p (pos + 1) op data .nilIface)) := HG3.out.fr HFr.out (by simp)
   have HO4 : Hid (Blk w4 O 340 [.int .u8 ((76 : Nat) : Int),.string str,.int .i64 (-1)]) := by have := HO3.out.fr HFr.out (by simp); rwa [show opLen 76 = -1 by decide] at this
   have HFw4 : Hid (Fr [g] w w4) := HFw3.out.trans (HFr.out.mono (by simp))
   have HR4 : Hid (RdB B w4 (.slice (some ar) n cr) n (ic .u8 (s.drop (p + 1)))) := HR.out.below (HFr.out.below.mono (Nat.le_trans hBw HFw3.out.size))
   clear cO hOl hgl c2 c4 c5 c6 f2 f4 f5 f6 HG3 HO3 HFw3 HR HV3
   have cO : w4.cell? ⟨O,2,none⟩ = some (.int .i64 (-1)) := HO4.out.cell_at rfl
   have hOl := HO4.out.lt
   have hgl := HG4.out.lt
   have c2 : w4.cell? ⟨g,2,none⟩ = some (.int .i32 (p : Int)) := HG4.out.cell_at rfl
   have c4 : w4.cell? ⟨g,4,none⟩ = some op := HG4.out.cell_at rfl
   have c5 : w4.cell? ⟨g,5,none⟩ = some data := HG4.out.cell_at rfl
   have c6 : w4.cell? ⟨g,6,none⟩ = some .nilIface := HG4.out.cell_at rfl
   have f2 := HG4.out.free 2
   have f4 := HG4.out.free 4
   have f5 := HG4.out.free 5
   have f6 := HG4.out.free 6
   by_cases hbad : n < 1
   ·have hbadi : (n : Int) < 1 := by omega
    have hok : Hid (tokAt s p = none) := by
     have := Hn.out
     show _ = _
     unfold tokAt; rw [HC.out]; simp only [List.length_drop]; rw [if_neg (by omega),if_pos (by omega),if_pos (by show _ < 1; omega)]
    have Hbad := hid hbad; clear hbad
    go_wp2_with fail
    refine (scriptError_c w4 _ _).mono ?_
    rintro e w5 ⟨rfl,hf⟩
    have HF5 := hid hf; clear hf
    have HG5 : Hid (Blk w5 g 308 (tkc (.slice (some ⟨b,off,none⟩) s.length cap) p (pos + 1) op data .nilIface)) := HG4.out.fr HF5.out (by simp)
    have c6' : w5.cell? ⟨g,6,none⟩ = some .nilIface := HG5.out.cell_at rfl
    have f6' := HG5.out.free 6
    have hgl' := HG5.out.lt
    clear cO hOl hgl c2 c4 c5 c6 f2 f4 f5 f6
    go_wp2_with fail
    go_ret
    exact ⟨HFw4.out.trans ((HF5.out.mono (by simp)).setCell _ _ (by simp)),.inr (.inl ⟨Hlt.out,hok.out,rfl,_,_,HG5.out.set 6 _⟩)⟩
   ·have hbadi : (1 : Int) ≤ n := by omega
    have Hbad := hid hbad; clear hbad
    have hLb := leNum_bd4 ((s.drop (p + 1)).take 1) ((Hu.out.drop _).take _) (by simp; omega)
    obtain ⟨L,hL⟩ := Int.eq_ofNat_of_zero_le hLb.1
    rw [hL] at hLb
    have hL6 : (L : Int) ≤ 4294967295 := hLb.2
    have hok : Hid (tokAt s p = if L ≤ n - 1 then some (((s.drop (p + 1)).drop 1).take L,p + 1 + 1 + L) else none) := by
     have h1 := Hn.out
     have h2 := Hbad.out
     show _ = _
     unfold tokAt; rw [HC.out]; simp only [List.length_drop]; rw [if_neg (by omega),if_pos (by omega),if_neg (by show ¬ _ < 1; omega)]
     show (if (leNum ((s.drop (p + 1)).take 1)).toNat ≤ s.length - (p + 1) - 1 then some (((s.drop (p + 1)).drop 1).take (leNum ((s.drop (p + 1)).take 1)).toNat,p + 1 + 1 + (leNum ((s.drop (p + 1)).take 1)).toNat) else none) = _
     rw [hL,← h1]; rfl
    have HL := hid hL; clear hL hLb
    have hL1 : (L : Int) ≤ 255 := by
     have h := (Hu.out).bd (p + 1)
     have h1 := Hn.out
     have h2 := Hbad.out
     have e := HL.out
     rw [drop_cons (by omega)] at e
     simp only [List.take_succ_cons,List.take_zero,leNum] at e
     omega
    obtain ⟨ba,oa,hba,hbB,hca⟩ : ∃ ba oa,ar = ⟨ba,oa,none⟩ ∧ ba < B ∧ ∀ i (h : i < (ic .u8 (s.drop (p + 1))).length),w4.cell? ⟨ba,oa + i,none⟩ = some (ic .u8 (s.drop (p + 1)))[i] := by
     obtain ⟨a',cap',he,_,_,h⟩ := HR4.out
     simp only [Value.slice.injEq] at he
     obtain ⟨he,_,_⟩ := he
     subst he
     rcases h with ⟨_,_,h⟩ | ⟨ba,oa,h,hlt,hc⟩
     ·exfalso
      have h1 := Hn.out
      have h2 := Hbad.out
      have h3 := congrArg List.length h
      rw [ic_length,List.length_drop,List.length_nil] at h3
      omega
     ·exact ⟨ba,oa,by cases h; rfl,hlt,hc⟩
    subst hba
    have ea : w4.cell? ⟨ba,oa,none⟩ = some (.int .u8 (L : Int)) := by
     have h1 := Hn.out
     have h2 := Hbad.out
     have := hca 0 (by simp; omega)
     rw [ic_nth,Nat.add_zero] at this
     rw [this]
     have e := HL.out
     rw [drop_cons (by omega)] at e
     simp only [List.take_succ_cons,List.take_zero,leNum] at e
     rw [nth_drop' s (p + 1) 0,Nat.add_zero,← e]; simp
    have hbal : ba < w4.heap.size := Nat.lt_of_lt_of_le hbB (Nat.le_trans hBw HFw4.out.size)
    clear hca
    have hn0 : (0 : Int) < n := by omega
    go_upto_region 37 with fail
    clear ea hbal hn0
    have HF5 : Hid (Fr [] w4 w4) := Fr.refl _ _
    have HG5 := HG4; have HO5 := HO4; have HFw5 := HFw4; have HR5 := HR4
    clear HG4 HO4 HFw4 HR4 HF5
    refine wp_region_lit ?_
    refine wpList_run (v := .slice (some ⟨ba,oa,none⟩) n cr) rfl rfl ?_
    simp only [Act.put,nA,nB,nC]
    refine wpList_run (v := .pointer (some ⟨O,0,none⟩)) rfl rfl ?_
    simp only [Act.put,nA,nB,nC]
    refine wpList_run (v := .pointer (some ⟨O,0,none⟩)) rfl rfl ?_
    simp only [Act.put,nA,nB,nC]
    refine wpList_run (v := .pointer (some ⟨O,2,none⟩)) rfl rfl ?_
    simp only [Act.put,nA,nB,nC]
    refine wpList_load1 rfl 3 (.tmp 167) rfl O 2 rfl _ _ cO rfl rfl ?_
    simp only [Act.put,nA,nB,nC]
    refine wpList_run (v := .int .i64 1) rfl (by rw [run_neg .i64 (.tmp 168) rfl (-1) rfl]; rfl) ?_
    simp only [Act.put,nA,nB,nC]
    refine wpList_slcS_l (lo := 1) rfl 29 (.tmp 164) (.tmp 169) rfl 5 (by kernel_rfl) (by kernel_rfl) .i64 rfl rfl HR5.out (by have := Hn.out; simp; omega) (by have := Hbad.out; omega) ?_
    intro a2 hr2
    rw [ic_drop] at hr2
    obtain ⟨n2,hn2⟩ : ∃ n2,n2 = n - 1 := ⟨_,rfl⟩
    rw [← hn2] at hr2 ⊢
    obtain ⟨cr2,hcr2⟩ : ∃ c2,c2 = cr - 1 := ⟨_,rfl⟩
    rw [← hcr2] at hr2 ⊢
    clear hcr2
    have HR6 : Hid (RdB B w4 (.slice (some a2) n2 cr2) n2 (ic .u8 ((s.drop (p + 1)).drop 1))) := hr2
    have Hn2 := hid hn2; clear hn2 hr2
    have hn26 : (n2 : Int) ≤ 1000000 := by have := Hn2.out; omega
    simp only [Act.put,nA,nB,nC]
    by_cases hL2 : L ≤ n2
    ·have hLn : (L : Int) ≤ n2 := by omega
     have HL2 := hid hL2; clear hL2
     go_upto_region 42 with fail
     refine qtail 16 (by kernel_rfl) (by kernel_rfl) ?_
     simp only [List.take_succ_cons,List.take_zero,List.drop_succ_cons,List.drop_zero]
     repeat (go_big_quiet_step (fail))
     refine wpQuiet_nil ?_
     go_upto_region 43 with fail
     have HF7 : Hid (Fr [g] w4 (w4.setCell ⟨g,2,none⟩ (.int .i32 ((p : Int) + (2 + (L : Int))))).drew) := ((Fr.refl _ _).setCell _ _ (by simp)).drew
     have HG7 : Hid (Blk (w4.setCell ⟨g,2,none⟩ (.int .i32 ((p : Int) + (2 + (L : Int))))).drew g 308 (tkc (.slice (some ⟨b,off,none⟩) s.length cap) ((p : Int) + (2 + (L : Int))) (pos + 1) op data .nilIface)) := (HG5.out.set 2 _).drew
     generalize World.drew (World.setCell w4 _ _) = w7 at HF7 HG7 ⊢
     clear cO hOl hgl c2 c4 c5 c6 f2 f4 f5 f6
     have c4 : w7.cell? ⟨g,4,none⟩ = some op := HG7.out.cell_at rfl
     have f4 := HG7.out.free 4
     have hgl := HG7.out.lt
     go_upto_region 44 with fail
     have HF8 : Hid (Fr [g] w4 (w7.setCell ⟨g,4,none⟩ (.pointer (some ⟨O,0,none⟩)))) := HF7.out.setCell _ _ (by simp)
     have HG8 : Hid (Blk (w7.setCell ⟨g,4,none⟩ (.pointer (some ⟨O,0,none⟩))) g 308 (tkc (.slice (some ⟨b,off,none⟩) s.length cap) ((p : Int) + (2 + (L : Int))) (pos + 1) (.pointer (some ⟨O,0,none⟩)) data .nilIface)) := HG7.out.set 4 _
     generalize World.setCell w7 _ _ = w8 at HF8 HG8 ⊢
     clear c4 f4 hgl HF7 HG7
     have HO8 : Hid (Blk w8 O 340 [.int .u8 ((76 : Nat) : Int),.string str,.int .i64 (-1)]) := HO5.out.fr HF8.out (by simp; exact HOg.out)
     have HR8 : Hid (RdB B w8 (.slice (some a2) n2 cr2) n2 (ic .u8 ((s.drop (p + 1)).drop 1))) := HR6.out.below (HF8.out.to_below (Nat.le_trans hBw HFw5.out.size) (by simp; exact hBg))
     refine wp_region_lit ?_
     refine wpList_run (v := .pointer (some ⟨g,0,none⟩)) rfl rfl ?_
     simp only [Act.put,nA,nB,nC]
     refine wpList_run (v := .slice (some a2) n2 cr2) rfl rfl ?_
     simp only [Act.put,nA,nB,nC]
     refine wpList_run (v := .int .i32 (L : Int)) rfl rfl ?_
     simp only [Act.put,nA,nB,nC]
     refine wpList_slcS_h (hi := L) rfl 29 (.tmp 207) (.tmp 208) rfl 5 (by kernel_rfl) (by kernel_rfl) .i32 rfl rfl HR8.out (by have := Hn2.out; have := Hn.out; simp; omega) HL2.out ?_
     intro ad hdv
     rw [ic_take] at hdv
     simp only [Act.put,nA,nB,nC]
     have HD8 : Hid (BytesB B w8 (.slice (some ad) L cr2) (((s.drop (p + 1)).drop 1).take L)) := by
      have e : (((s.drop (p + 1)).drop 1).take L).length = L := by have := Hn.out; have := Hn2.out; have := HL2.out; rw [List.length_take,List.length_drop,List.length_drop]; omega
      show RdB _ _ _ _ _
      rw [e]
      exact hdv
     clear hdv
     have c5 : w8.cell? ⟨g,5,none⟩ = some data := HG8.out.cell_at rfl
     have f5 := HG8.out.free 5
     have hgl := HG8.out.lt
     go_wp2_with fail
     go_ret
     have hF9 : Fr [g] w8 (w8.setCell ⟨g,5,none⟩ (.slice (some ad) L cr2)) := (Fr.refl _ _).setCell _ _ (by simp)
     refine ⟨HFw5.out.trans (HF8.out.trans hF9),.inr (.inr ⟨((s.drop (p + 1)).drop 1).take L,p + 1 + 1 + L,Hlt.out, ?_,rfl,.pointer (some ⟨O,0,none⟩),.slice (some ad) L cr2, ?_,TkOp.mk' (HO8.out.fr hF9 (by simp; exact HOg.out)) HC.out,DvOk.some' ?_ (HD8.out.below (hF9.to_below (Nat.le_trans hBw (Nat.le_trans HFw5.out.size HF8.out.size)) (by simp; exact hBg)))⟩)⟩
     ·have := Hn2.out; have := HL2.out; rw [hok.out,if_pos (by omega)]
     ·have := HG8.out.set 5 (.slice (some ad) L cr2)
      rw [show ((p + 1 + 1 + L : Nat) : Int) = ((p : Int) + (2 + (L : Int))) by omega]
      exact this
     ·rw [HC.out]; decide
    ·have hLn : ¬ (L : Int) ≤ n2 := by omega
     have hLn2 : (n2 : Int) < L := by omega
     have Hbad2 := hid hL2; clear hL2
     have hokn : Hid (tokAt s p = none) := by
      have := Hn2.out; have := Hbad2.out; show _ = _; rw [hok.out,if_neg (by omega)]
     have hok := hokn
     go_wp2_with fail
     refine (scriptError_c w4 _ _).mono ?_
     rintro e w5 ⟨rfl,hf⟩
     have HF5 := hid hf; clear hf
     have HG5 : Hid (Blk w5 g 308 (tkc (.slice (some ⟨b,off,none⟩) s.length cap) p (pos + 1) op data .nilIface)) := HG5.out.fr HF5.out (by simp)
     have c6' : w5.cell? ⟨g,6,none⟩ = some .nilIface := HG5.out.cell_at rfl
     have f6' := HG5.out.free 6
     have hgl' := HG5.out.lt
     clear cO hOl hgl c2 c4 c5 c6 f2 f4 f5 f6
     go_wp2_with fail
     go_ret
     exact ⟨HFw5.out.trans ((HF5.out.mono (by simp)).setCell _ _ (by simp)),.inr (.inl ⟨Hlt.out,hok.out,rfl,_,_,HG5.out.set 6 _⟩)⟩
  ·have hl1 : opLen 77 = -2 := by decide
   rw [hl1] at cO
   clear hl1
   go_upto_region 21 with fail
   refine seg_begin (fun w' => Fr [] w3 w') (by kernel_rfl) ?_
   refine seg_quiet (fuel := 0) (by kernel_rfl) (fun d _ _ _ _ h => by cases d <;> exact h) ((Fr.refl _ _).drew) [0,1,2,3,4,5,6,7,8,9,10] _ _ (by kernel_rfl) ?_
   simp only [pickL,nthO]
   refine wpQuiet_rfl (.pointer (some ⟨g,0,none⟩)) rfl (fun _ => rfl) ?_
   simp only [Act.put,nA,nB,nC]
   refine wpQuiet_rfl (.pointer (some ⟨g,0,none⟩)) rfl (fun _ => rfl) ?_
   simp only [Act.put,nA,nB,nC]
   refine wpQuiet_rfl (.pointer (some ⟨g,0,none⟩)) rfl (fun _ => rfl) ?_
   simp only [Act.put,nA,nB,nC]
   refine wpQuiet_load1 rfl 29 (.tmp 112) rfl g 0 rfl (.slice (some ⟨b,off,none⟩) s.length cap) _ (fun w' hf => (HG3.out.fr hf (by simp)).cell_at rfl) rfl rfl ?_
   simp only [Act.put,nA,nB,nC]
   refine wpQuiet_rfl (.pointer (some ⟨g,0,none⟩)) rfl (fun _ => rfl) ?_
   simp only [Act.put,nA,nB,nC]
   refine wpQuiet_rfl (.pointer (some ⟨g,0,none⟩)) rfl (fun _ => rfl) ?_
   simp only [Act.put,nA,nB,nC]
   refine wpQuiet_rfl (.pointer (some ⟨g,2,none⟩)) rfl (fun _ => rfl) ?_
   simp only [Act.put,nA,nB,nC]
   refine wpQuiet_load1 rfl 21 (.tmp 116) rfl g 2 rfl (.int .i32 (p : Int)) _ (fun w' hf => (HG3.out.fr hf (by simp)).cell_at rfl) rfl rfl ?_
   simp only [Act.put,nA,nB,nC]
   have hw1 : IntKind.i32.wrap ((p : Int) + 1) = ((p + 1 : Nat) : Int) := by rw [IntKind.wrap_i32]; omega
   refine wpQuiet_run rfl (.int .i32 ((p + 1 : Nat) : Int)) (fun w => by rw [run_add .i32 21 21 (.tmp 117) _ rfl (p : Int) 1 rfl rfl,hw1]) ?_
   simp only [Act.put,nA,nB,nC]
   clear hw1
   refine wpQuiet_slcS_l rfl 29 (.tmp 113) (.tmp 118) rfl 5 (by kernel_rfl) (by kernel_rfl) .i32 rfl rfl HV3.out (by simp) Hlt.out ?_
   intro ar hrv
   rw [ic_drop] at hrv
   obtain ⟨cr,hcr⟩ : ∃ cr,cr = cap - (p + 1) := ⟨_,rfl⟩
   rw [← hcr] at hrv ⊢
   clear hcr
   obtain ⟨n,hn⟩ : ∃ n,n = s.length - (p + 1) := ⟨_,rfl⟩
   rw [← hn] at hrv ⊢
   have HR : Hid (RdB B w3 (.slice (some ar) n cr) n (ic .u8 (s.drop (p + 1)))) := hrv
   have Hn := hid hn; clear hn hrv
   have hn6 : (n : Int) ≤ 1000000 := by have := Hn.out; omega
   simp only [Act.put,nA,nB,nC]
   go_big_quiet_step ((intro hw; first | with_reducible rfl | rfl))
   refine wpQuiet_nil ?_
   refine seg_end (by kernel_rfl) ?_
   have HFr : Hid (Fr [] w3 w3.drew) := (Fr.refl _ _).drew
   generalize w3.drew = w4 at HFr ⊢
   have HG4 : Hid (Blk w4 g 308 (tkc (.slice (some ⟨b,off,none⟩) s.length cap) p (pos + 1) op data .nilIface)) := HG3.out.fr HFr.out (by simp)
   have HO4 : Hid (Blk w4 O 340 [.int .u8 ((77 : Nat) : Int),.string str,.int .i64 (-2)]) := by have := HO3.out.fr HFr.out (by simp); rwa [show opLen 77 = -2 by decide] at this
   have HFw4 : Hid (Fr [g] w w4) := HFw3.out.trans (HFr.out.mono (by simp))
   have HR4 : Hid (RdB B w4 (.slice (some ar) n cr) n (ic .u8 (s.drop (p + 1)))) := HR.out.below (HFr.out.below.mono (Nat.le_trans hBw HFw3.out.size))
   clear cO hOl hgl c2 c4 c5 c6 f2 f4 f5 f6 HG3 HO3 HFw3 HR HV3
   have cO : w4.cell? ⟨O,2,none⟩ = some (.int .i64 (-2)) := HO4.out.cell_at rfl
   have hOl := HO4.out.lt
   have hgl := HG4.out.lt
   have c2 : w4.cell? ⟨g,2,none⟩ = some (.int .i32 (p : Int)) := HG4.out.cell_at rfl
   have c4 : w4.cell? ⟨g,4,none⟩ = some op := HG4.out.cell_at rfl
   have c5 : w4.cell? ⟨g,5,none⟩ = some data := HG4.out.cell_at rfl
   have c6 : w4.cell? ⟨g,6,none⟩ = some .nilIface := HG4.out.cell_at rfl
   have f2 := HG4.out.free 2
   have f4 := HG4.out.free 4
   have f5 := HG4.out.free 5
   have f6 := HG4.out.free 6
   by_cases hbad : n < 2
   ·have hbadi : (n : Int) < 2 := by omega
    have hok : Hid (tokAt s p = none) := by
     have := Hn.out
     show _ = _
     unfold tokAt; rw [HC.out]; simp only [List.length_drop]; rw [if_neg (by omega),if_pos (by omega),if_pos (by show _ < 2; omega)]
    have Hbad := hid hbad; clear hbad
    go_wp2_with fail
    refine (scriptError_c w4 _ _).mono ?_
    rintro e w5 ⟨rfl,hf⟩
    have HF5 := hid hf; clear hf
    have HG5 : Hid (Blk w5 g 308 (tkc (.slice (some ⟨b,off,none⟩) s.length cap) p (pos + 1) op data .nilIface)) := HG4.out.fr HF5.out (by simp)
    have c6' : w5.cell? ⟨g,6,none⟩ = some .nilIface := HG5.out.cell_at rfl
    have f6' := HG5.out.free 6
    have hgl' := HG5.out.lt
    clear cO hOl hgl c2 c4 c5 c6 f2 f4 f5 f6
    go_wp2_with fail
    go_ret
    exact ⟨HFw4.out.trans ((HF5.out.mono (by simp)).setCell _ _ (by simp)),.inr (.inl ⟨Hlt.out,hok.out,rfl,_,_,HG5.out.set 6 _⟩)⟩
   ·have hbadi : (2 : Int) ≤ n := by omega
    have Hbad := hid hbad; clear hbad
    have hLb := leNum_bd4 ((s.drop (p + 1)).take 2) ((Hu.out.drop _).take _) (by simp; omega)
    obtain ⟨L,hL⟩ := Int.eq_ofNat_of_zero_le hLb.1
    rw [hL] at hLb
    have hL6 : (L : Int) ≤ 4294967295 := hLb.2
    have hok : Hid (tokAt s p = if L ≤ n - 2 then some (((s.drop (p + 1)).drop 2).take L,p + 1 + 2 + L) else none) := by
     have h1 := Hn.out
     have h2 := Hbad.out
     show _ = _
     unfold tokAt; rw [HC.out]; simp only [List.length_drop]; rw [if_neg (by omega),if_pos (by omega),if_neg (by show ¬ _ < 2; omega)]
     show (if (leNum ((s.drop (p + 1)).take 2)).toNat ≤ s.length - (p + 1) - 2 then some (((s.drop (p + 1)).drop 2).take (leNum ((s.drop (p + 1)).take 2)).toNat,p + 1 + 2 + (leNum ((s.drop (p + 1)).take 2)).toNat) else none) = _
     rw [hL,← h1]; rfl
    have HL := hid hL; clear hL hLb
    go_upto_region 34 with fail
    refine seg_begin (fun w' => Fr [] w4 w') (by kernel_rfl) ?_
    refine seg_quiet (fuel := 3) (by kernel_rfl) (fun d _ _ _ _ h => by cases d <;> exact h) ((Fr.refl _ _).drew) [0,1,2] _ _ (by kernel_rfl) ?_
    simp only [pickL,nthO]
    refine wpQuiet_load rfl 318 (.global 0) rfl _ 0 rfl [] _ (fun w' hf j v h => by simp at h) rfl rfl (by kernel_rfl) ?_
    simp only [Act.put,nA,nB,nC]
    refine wpQuiet_rfl (.slice (some ar) n cr) rfl (fun _ => rfl) ?_
    simp only [Act.put,nA,nB,nC]
    refine wpQuiet_slcS_h (hi := 2) rfl 29 (.tmp 153) _ rfl 5 (by kernel_rfl) (by kernel_rfl) .i64 rfl rfl HR4.out (by have := Hn.out; simp; omega) (by have := Hbad.out; omega) ?_
    intro aw hrw
    rw [ic_take] at hrw
    have HW4 : Hid (BytesB B w4 (.slice (some aw) 2 cr) ((s.drop (p + 1)).take 2)) := by
     have e : ((s.drop (p + 1)).take 2).length = 2 := by have := Hn.out; have := Hbad.out; rw [List.length_take,List.length_drop]; omega
     show RdB _ _ _ _ _
     rw [e]; exact hrw
    clear hrw
    simp only [Act.put,nA,nB,nC]
    refine wpQuiet_nil ?_
    refine seg_act 3 rfl rfl (by kernel_rfl) ?_
    go_wp2_with fail
    refine (u16_q w4.drew _ ((s.drop (p + 1)).take 2) ((HW4.out.below ((Below.refl _ _).drew)).rd (Nat.le_trans hBw HFw4.out.size)) ((Hu.out.drop _).take _) (by have := Hn.out; have := Hbad.out; simp; omega)).mono ?_
    rintro e w' ⟨rfl,hf⟩
    have HF5 : Hid (Fr [] w4 w') := (Fr.refl _ _).drew.trans hf
    clear hf
    rw [List.take_take,Nat.min_self,HL.out]
    obtain ⟨w5,hw5⟩ : ∃ w5,w5 = w' := ⟨_,rfl⟩
    rw [← hw5] at HF5 ⊢
    clear hw5 HW4
    have hL1 : (L : Int) ≤ 65535 := by
     have h := leNum_bd ((s.drop (p + 1)).take 2) ((Hu.out.drop _).take _)
     rw [HL.out] at h
     have e : ((s.drop (p + 1)).take 2).length = 2 := by have := Hn.out; have := Hbad.out; rw [List.length_take,List.length_drop]; omega
     rw [e] at h; omega
    go_wp2_with fail
    refine ⟨HF5.out,fun _ => ?_⟩
    refine seg_act 4 rfl rfl (by kernel_rfl) ?_
    go_wp2_with fail
    refine ⟨HF5.out,fun _ => ?_⟩
    refine seg_act 5 rfl rfl (by kernel_rfl) ?_
    go_wp2_with fail
    refine ⟨HF5.out,fun _ => ?_⟩
    refine seg_end (by kernel_rfl) ?_
    have HG5 : Hid (Blk w5 g 308 (tkc (.slice (some ⟨b,off,none⟩) s.length cap) p (pos + 1) op data .nilIface)) := HG4.out.fr HF5.out (by simp)
    have HO5 : Hid (Blk w5 O 340 [.int .u8 ((77 : Nat) : Int),.string str,.int .i64 (-2)]) := HO4.out.fr HF5.out (by simp)
    have HFw5 : Hid (Fr [g] w w5) := HFw4.out.trans (HF5.out.mono (by simp))
    have HR5 : Hid (RdB B w5 (.slice (some ar) n cr) n (ic .u8 (s.drop (p + 1)))) := HR4.out.below (HF5.out.below.mono (Nat.le_trans hBw HFw4.out.size))
    clear cO hOl hgl c2 c4 c5 c6 f2 f4 f5 f6 HG4 HO4 HFw4 HR4 HF5
    have cO : w5.cell? ⟨O,2,none⟩ = some (.int .i64 (-2)) := HO5.out.cell_at rfl
    have hOl := HO5.out.lt
    have hgl := HG5.out.lt
    have c2 : w5.cell? ⟨g,2,none⟩ = some (.int .i32 (p : Int)) := HG5.out.cell_at rfl
    have c4 : w5.cell? ⟨g,4,none⟩ = some op := HG5.out.cell_at rfl
    have c5 : w5.cell? ⟨g,5,none⟩ = some data := HG5.out.cell_at rfl
    have c6 : w5.cell? ⟨g,6,none⟩ = some .nilIface := HG5.out.cell_at rfl
    have f2 := HG5.out.free 2
    have f4 := HG5.out.free 4
    have f5 := HG5.out.free 5
    have f6 := HG5.out.free 6
    go_upto_region 37 with fail
    refine wp_region_lit ?_
    refine wpList_run (v := .slice (some ar) n cr) rfl rfl ?_
    simp only [Act.put,nA,nB,nC]
    refine wpList_run (v := .pointer (some ⟨O,0,none⟩)) rfl rfl ?_
    simp only [Act.put,nA,nB,nC]
    refine wpList_run (v := .pointer (some ⟨O,0,none⟩)) rfl rfl ?_
    simp only [Act.put,nA,nB,nC]
    refine wpList_run (v := .pointer (some ⟨O,2,none⟩)) rfl rfl ?_
    simp only [Act.put,nA,nB,nC]
    refine wpList_load1 rfl 3 (.tmp 167) rfl O 2 rfl _ _ cO rfl rfl ?_
    simp only [Act.put,nA,nB,nC]
    refine wpList_run (v := .int .i64 2) rfl (by rw [run_neg .i64 (.tmp 168) rfl (-2) rfl]; rfl) ?_
    simp only [Act.put,nA,nB,nC]
    refine wpList_slcS_l (lo := 2) rfl 29 (.tmp 164) (.tmp 169) rfl 5 (by kernel_rfl) (by kernel_rfl) .i64 rfl rfl HR5.out (by have := Hn.out; simp; omega) (by have := Hbad.out; omega) ?_
    intro a2 hr2
    rw [ic_drop] at hr2
    obtain ⟨n2,hn2⟩ : ∃ n2,n2 = n - 2 := ⟨_,rfl⟩
    rw [← hn2] at hr2 ⊢
    obtain ⟨cr2,hcr2⟩ : ∃ c2,c2 = cr - 2 := ⟨_,rfl⟩
    rw [← hcr2] at hr2 ⊢
    clear hcr2
    have HR6 : Hid (RdB B w5 (.slice (some a2) n2 cr2) n2 (ic .u8 ((s.drop (p + 1)).drop 2))) := hr2
    have Hn2 := hid hn2; clear hn2 hr2
    have hn26 : (n2 : Int) ≤ 1000000 := by have := Hn2.out; omega
    simp only [Act.put,nA,nB,nC]
    by_cases hL2 : L ≤ n2
    ·have hLn : (L : Int) ≤ n2 := by omega
     have HL2 := hid hL2; clear hL2
     go_upto_region 42 with fail
     refine qtail 16 (by kernel_rfl) (by kernel_rfl) ?_
     simp only [List.take_succ_cons,List.take_zero,List.drop_succ_cons,List.drop_zero]
     repeat (go_big_quiet_step (fail))
     refine wpQuiet_nil ?_
     go_upto_region 43 with fail
     have HF7 : Hid (Fr [g] w5 (w5.setCell ⟨g,2,none⟩ (.int .i32 ((p : Int) + (3 + (L : Int))))).drew) := ((Fr.refl _ _).setCell _ _ (by simp)).drew
     have HG7 : Hid (Blk (w5.setCell ⟨g,2,none⟩ (.int .i32 ((p : Int) + (3 + (L : Int))))).drew g 308 (tkc (.slice (some ⟨b,off,none⟩) s.length cap) ((p : Int) + (3 + (L : Int))) (pos + 1) op data .nilIface)) := (HG5.out.set 2 _).drew
     generalize World.drew (World.setCell w5 _ _) = w7 at HF7 HG7 ⊢
     clear cO hOl hgl c2 c4 c5 c6 f2 f4 f5 f6
     have c4 : w7.cell? ⟨g,4,none⟩ = some op := HG7.out.cell_at rfl
     have f4 := HG7.out.free 4
     have hgl := HG7.out.lt
     go_upto_region 44 with fail
     have HF8 : Hid (Fr [g] w5 (w7.setCell ⟨g,4,none⟩ (.pointer (some ⟨O,0,none⟩)))) := HF7.out.setCell _ _ (by simp)
     have HG8 : Hid (Blk (w7.setCell ⟨g,4,none⟩ (.pointer (some ⟨O,0,none⟩))) g 308 (tkc (.slice (some ⟨b,off,none⟩) s.length cap) ((p : Int) + (3 + (L : Int))) (pos + 1) (.pointer (some ⟨O,0,none⟩)) data .nilIface)) := HG7.out.set 4 _
     generalize World.setCell w7 _ _ = w8 at HF8 HG8 ⊢
     clear c4 f4 hgl HF7 HG7
     have HO8 : Hid (Blk w8 O 340 [.int .u8 ((77 : Nat) : Int),.string str,.int .i64 (-2)]) := HO5.out.fr HF8.out (by simp; exact HOg.out)
     have HR8 : Hid (RdB B w8 (.slice (some a2) n2 cr2) n2 (ic .u8 ((s.drop (p + 1)).drop 2))) := HR6.out.below (HF8.out.to_below (Nat.le_trans hBw HFw5.out.size) (by simp; exact hBg))
     refine wp_region_lit ?_
     refine wpList_run (v := .pointer (some ⟨g,0,none⟩)) rfl rfl ?_
     simp only [Act.put,nA,nB,nC]
     refine wpList_run (v := .slice (some a2) n2 cr2) rfl rfl ?_
     simp only [Act.put,nA,nB,nC]
     refine wpList_run (v := .int .i32 (L : Int)) rfl rfl ?_
     simp only [Act.put,nA,nB,nC]
     refine wpList_slcS_h (hi := L) rfl 29 (.tmp 207) (.tmp 208) rfl 5 (by kernel_rfl) (by kernel_rfl) .i32 rfl rfl HR8.out (by have := Hn2.out; have := Hn.out; simp; omega) HL2.out ?_
     intro ad hdv
     rw [ic_take] at hdv
     simp only [Act.put,nA,nB,nC]
     have HD8 : Hid (BytesB B w8 (.slice (some ad) L cr2) (((s.drop (p + 1)).drop 2).take L)) := by
      have e : (((s.drop (p + 1)).drop 2).take L).length = L := by have := Hn.out; have := Hn2.out; have := HL2.out; rw [List.length_take,List.length_drop,List.length_drop]; omega
      show RdB _ _ _ _ _
      rw [e]
      exact hdv
     clear hdv
     have c5 : w8.cell? ⟨g,5,none⟩ = some data := HG8.out.cell_at rfl
     have f5 := HG8.out.free 5
     have hgl := HG8.out.lt
     go_wp2_with fail
     go_ret
     have hF9 : Fr [g] w8 (w8.setCell ⟨g,5,none⟩ (.slice (some ad) L cr2)) := (Fr.refl _ _).setCell _ _ (by simp)
     refine ⟨HFw5.out.trans (HF8.out.trans hF9),.inr (.inr ⟨((s.drop (p + 1)).drop 2).take L,p + 1 + 2 + L,Hlt.out, ?_,rfl,.pointer (some ⟨O,0,none⟩),.slice (some ad) L cr2, ?_,TkOp.mk' (HO8.out.fr hF9 (by simp; exact HOg.out)) HC.out,DvOk.some' ?_ (HD8.out.below (hF9.to_below (Nat.le_trans hBw (Nat.le_trans HFw5.out.size HF8.out.size)) (by simp; exact hBg)))⟩)⟩
     ·have := Hn2.out; have := HL2.out; rw [hok.out,if_pos (by omega)]
     ·have := HG8.out.set 5 (.slice (some ad) L cr2)
      rw [show ((p + 1 + 2 + L : Nat) : Int) = ((p : Int) + (3 + (L : Int))) by omega]
      exact this
     ·rw [HC.out]; decide
    ·have hLn : ¬ (L : Int) ≤ n2 := by omega
     have hLn2 : (n2 : Int) < L := by omega
     have Hbad2 := hid hL2; clear hL2
     have hokn : Hid (tokAt s p = none) := by
      have := Hn2.out; have := Hbad2.out; show _ = _; rw [hok.out,if_neg (by omega)]
     have hok := hokn
     go_wp2_with fail
     refine (scriptError_c w5 _ _).mono ?_
     rintro e w5 ⟨rfl,hf⟩
     have HF5 := hid hf; clear hf
     have HG5 : Hid (Blk w5 g 308 (tkc (.slice (some ⟨b,off,none⟩) s.length cap) p (pos + 1) op data .nilIface)) := HG5.out.fr HF5.out (by simp)
     have c6' : w5.cell? ⟨g,6,none⟩ = some .nilIface := HG5.out.cell_at rfl
     have f6' := HG5.out.free 6
     have hgl' := HG5.out.lt
     clear cO hOl hgl c2 c4 c5 c6 f2 f4 f5 f6
     go_wp2_with fail
     go_ret
     exact ⟨HFw5.out.trans ((HF5.out.mono (by simp)).setCell _ _ (by simp)),.inr (.inl ⟨Hlt.out,hok.out,rfl,_,_,HG5.out.set 6 _⟩)⟩
  ·have hl1 : opLen 78 = -4 := by decide
   rw [hl1] at cO
   clear hl1
   go_upto_region 21 with fail
   refine seg_begin (fun w' => Fr [] w3 w') (by kernel_rfl) ?_
   refine seg_quiet (fuel := 0) (by kernel_rfl) (fun d _ _ _ _ h => by cases d <;> exact h) ((Fr.refl _ _).drew) [0,1,2,3,4,5,6,7,8,9,10] _ _ (by kernel_rfl) ?_
   simp only [pickL,nthO]
   refine wpQuiet_rfl (.pointer (some ⟨g,0,none⟩)) rfl (fun _ => rfl) ?_
   simp only [Act.put,nA,nB,nC]
   refine wpQuiet_rfl (.pointer (some ⟨g,0,none⟩)) rfl (fun _ => rfl) ?_
   simp only [Act.put,nA,nB,nC]
   refine wpQuiet_rfl (.pointer (some ⟨g,0,none⟩)) rfl (fun _ => rfl) ?_
   simp only [Act.put,nA,nB,nC]
   refine wpQuiet_load1 rfl 29 (.tmp 112) rfl g 0 rfl (.slice (some ⟨b,off,none⟩) s.length cap) _ (fun w' hf => (HG3.out.fr hf (by simp)).cell_at rfl) rfl rfl ?_
   simp only [Act.put,nA,nB,nC]
   refine wpQuiet_rfl (.pointer (some ⟨g,0,none⟩)) rfl (fun _ => rfl) ?_
   simp only [Act.put,nA,nB,nC]
   refine wpQuiet_rfl (.pointer (some ⟨g,0,none⟩)) rfl (fun _ => rfl) ?_
   simp only [Act.put,nA,nB,nC]
   refine wpQuiet_rfl (.pointer (some ⟨g,2,none⟩)) rfl (fun _ => rfl) ?_
   simp only [Act.put,nA,nB,nC]
   refine wpQuiet_load1 rfl 21 (.tmp 116) rfl g 2 rfl (.int .i32 (p : Int)) _ (fun w' hf => (HG3.out.fr hf (by simp)).cell_at rfl) rfl rfl ?_
   simp only [Act.put,nA,nB,nC]
   have hw1 : IntKind.i32.wrap ((p : Int) + 1) = ((p + 1 : Nat) : Int) := by rw [IntKind.wrap_i32]; omega
   refine wpQuiet_run rfl (.int .i32 ((p + 1 : Nat) : Int)) (fun w => by rw [run_add .i32 21 21 (.tmp 117) _ rfl (p : Int) 1 rfl rfl,hw1]) ?_
   simp only [Act.put,nA,nB,nC]
   clear hw1
   refine wpQuiet_slcS_l rfl 29 (.tmp 113) (.tmp 118) rfl 5 (by kernel_rfl) (by kernel_rfl) .i32 rfl rfl HV3.out (by simp) Hlt.out ?_
   intro ar hrv
   rw [ic_drop] at hrv
   obtain ⟨cr,hcr⟩ : ∃ cr,cr = cap - (p + 1) := ⟨_,rfl⟩
   rw [← hcr] at hrv ⊢
   clear hcr
   obtain ⟨n,hn⟩ : ∃ n,n = s.length - (p + 1) := ⟨_,rfl⟩
   rw [← hn] at hrv ⊢
   have HR : Hid (RdB B w3 (.slice (some ar) n cr) n (ic .u8 (s.drop (p + 1)))) := hrv
   have Hn := hid hn; clear hn hrv
   have hn6 : (n : Int) ≤ 1000000 := by have := Hn.out; omega
   simp only [Act.put,nA,nB,nC]
   go_big_quiet_step ((intro hw; first | with_reducible rfl | rfl))
   refine wpQuiet_nil ?_
   refine seg_end (by kernel_rfl) ?_
   have HFr : Hid (Fr [] w3 w3.drew) := (Fr.refl _ _).drew
   generalize w3.drew = w4 at HFr ⊢
   have HG4 : Hid (Blk w4 g 308 (tkc (.slice (some ⟨b,off,none⟩) s.length cap) p (pos + 1) op data .nilIface)) := HG3.out.fr HFr.out (by simp)
   have HO4 : Hid (Blk w4 O 340 [.int .u8 ((78 : Nat) : Int),.string str,.int .i64 (-4)]) := by have := HO3.out.fr HFr.out (by simp); rwa [show opLen 78 = -4 by decide] at this
   have HFw4 : Hid (Fr [g] w w4) := HFw3.out.trans (HFr.out.mono (by simp))
   have HR4 : Hid (RdB B w4 (.slice (some ar) n cr) n (ic .u8 (s.drop (p + 1)))) := HR.out.below (HFr.out.below.mono (Nat.le_trans hBw HFw3.out.size))
   clear cO hOl hgl c2 c4 c5 c6 f2 f4 f5 f6 HG3 HO3 HFw3 HR HV3
   have cO : w4.cell? ⟨O,2,none⟩ = some (.int .i64 (-4)) := HO4.out.cell_at rfl
   have hOl := HO4.out.lt
   have hgl := HG4.out.lt
   have c2 : w4.cell? ⟨g,2,none⟩ = some (.int .i32 (p : Int)) := HG4.out.cell_at rfl
   have c4 : w4.cell? ⟨g,4,none⟩ = some op := HG4.out.cell_at rfl
   have c5 : w4.cell? ⟨g,5,none⟩ = some data := HG4.out.cell_at rfl
   have c6 : w4.cell? ⟨g,6,none⟩ = some .nilIface := HG4.out.cell_at rfl
   have f2 := HG4.out.free 2
   have f4 := HG4.out.free 4
   have f5 := HG4.out.free 5
   have f6 := HG4.out.free 6
   by_cases hbad : n < 4
   ·have hbadi : (n : Int) < 4 := by omega
    have hok : Hid (tokAt s p = none) := by
     have := Hn.out
     show _ = _
     unfold tokAt; rw [HC.out]; simp only [List.length_drop]; rw [if_neg (by omega),if_pos (by omega),if_pos (by show _ < 4; omega)]
    have Hbad := hid hbad; clear hbad
    go_wp2_with fail
    refine (scriptError_c w4 _ _).mono ?_
    rintro e w5 ⟨rfl,hf⟩
    have HF5 := hid hf; clear hf
    have HG5 : Hid (Blk w5 g 308 (tkc (.slice (some ⟨b,off,none⟩) s.length cap) p (pos + 1) op data .nilIface)) := HG4.out.fr HF5.out (by simp)
    have c6' : w5.cell? ⟨g,6,none⟩ = some .nilIface := HG5.out.cell_at rfl
    have f6' := HG5.out.free 6
    have hgl' := HG5.out.lt
    clear cO hOl hgl c2 c4 c5 c6 f2 f4 f5 f6
    go_wp2_with fail
    go_ret
    exact ⟨HFw4.out.trans ((HF5.out.mono (by simp)).setCell _ _ (by simp)),.inr (.inl ⟨Hlt.out,hok.out,rfl,_,_,HG5.out.set 6 _⟩)⟩
   ·have hbadi : (4 : Int) ≤ n := by omega
    have Hbad := hid hbad; clear hbad
    have hLb := leNum_bd4 ((s.drop (p + 1)).take 4) ((Hu.out.drop _).take _) (by simp; omega)
    obtain ⟨L,hL⟩ := Int.eq_ofNat_of_zero_le hLb.1
    rw [hL] at hLb
    have hL6 : (L : Int) ≤ 4294967295 := hLb.2
    have hok : Hid (tokAt s p = if L ≤ n - 4 then some (((s.drop (p + 1)).drop 4).take L,p + 1 + 4 + L) else none) := by
     have h1 := Hn.out
     have h2 := Hbad.out
     show _ = _
     unfold tokAt; rw [HC.out]; simp only [List.length_drop]; rw [if_neg (by omega),if_pos (by omega),if_neg (by show ¬ _ < 4; omega)]
     show (if (leNum ((s.drop (p + 1)).take 4)).toNat ≤ s.length - (p + 1) - 4 then some (((s.drop (p + 1)).drop 4).take (leNum ((s.drop (p + 1)).take 4)).toNat,p + 1 + 4 + (leNum ((s.drop (p + 1)).take 4)).toNat) else none) = _
     rw [hL,← h1]; rfl
    have HL := hid hL; clear hL hLb
    go_upto_region 36 with fail
    refine seg_begin (fun w' => Fr [] w4 w') (by kernel_rfl) ?_
    refine seg_quiet (fuel := 3) (by kernel_rfl) (fun d _ _ _ _ h => by cases d <;> exact h) ((Fr.refl _ _).drew) [0,1,2] _ _ (by kernel_rfl) ?_
    simp only [pickL,nthO]
    refine wpQuiet_load rfl 318 (.global 0) rfl _ 0 rfl [] _ (fun w' hf j v h => by simp at h) rfl rfl (by kernel_rfl) ?_
    simp only [Act.put,nA,nB,nC]
    refine wpQuiet_rfl (.slice (some ar) n cr) rfl (fun _ => rfl) ?_
    simp only [Act.put,nA,nB,nC]
    refine wpQuiet_slcS_h (hi := 4) rfl 29 (.tmp 160) _ rfl 5 (by kernel_rfl) (by kernel_rfl) .i64 rfl rfl HR4.out (by have := Hn.out; simp; omega) (by have := Hbad.out; omega) ?_
    intro aw hrw
    rw [ic_take] at hrw
    have HW4 : Hid (BytesB B w4 (.slice (some aw) 4 cr) ((s.drop (p + 1)).take 4)) := by
     have e : ((s.drop (p + 1)).take 4).length = 4 := by have := Hn.out; have := Hbad.out; rw [List.length_take,List.length_drop]; omega
     show RdB _ _ _ _ _
     rw [e]; exact hrw
    clear hrw
    simp only [Act.put,nA,nB,nC]
    refine wpQuiet_nil ?_
    refine seg_act 3 rfl rfl (by kernel_rfl) ?_
    go_wp2_with fail
    refine (u32_q w4.drew _ ((s.drop (p + 1)).take 4) ((HW4.out.below ((Below.refl _ _).drew)).rd (Nat.le_trans hBw HFw4.out.size)) ((Hu.out.drop _).take _) (by have := Hn.out; have := Hbad.out; simp; omega)).mono ?_
    rintro e w' ⟨rfl,hf⟩
    have HF5 : Hid (Fr [] w4 w') := (Fr.refl _ _).drew.trans hf
    clear hf
    rw [List.take_take,Nat.min_self,HL.out]
    obtain ⟨w5,hw5⟩ : ∃ w5,w5 = w' := ⟨_,rfl⟩
    rw [← hw5] at HF5 ⊢
    clear hw5 HW4
    go_wp2_with fail
    refine ⟨HF5.out,fun _ => ?_⟩
    by_cases hneg : L < 2147483648
    ·have hL1 : (L : Int) ≤ 2147483647 := by omega
     clear hneg
     refine seg_act 4 rfl rfl (by kernel_rfl) ?_
     go_wp2_with fail
     refine ⟨HF5.out,fun _ => ?_⟩
     refine seg_act 5 rfl rfl (by kernel_rfl) ?_
     go_wp2_with fail
     refine ⟨HF5.out,fun _ => ?_⟩
     refine seg_end (by kernel_rfl) ?_
     have HG5 : Hid (Blk w5 g 308 (tkc (.slice (some ⟨b,off,none⟩) s.length cap) p (pos + 1) op data .nilIface)) := HG4.out.fr HF5.out (by simp)
     have HO5 : Hid (Blk w5 O 340 [.int .u8 ((78 : Nat) : Int),.string str,.int .i64 (-4)]) := HO4.out.fr HF5.out (by simp)
     have HFw5 : Hid (Fr [g] w w5) := HFw4.out.trans (HF5.out.mono (by simp))
     have HR5 : Hid (RdB B w5 (.slice (some ar) n cr) n (ic .u8 (s.drop (p + 1)))) := HR4.out.below (HF5.out.below.mono (Nat.le_trans hBw HFw4.out.size))
     clear cO hOl hgl c2 c4 c5 c6 f2 f4 f5 f6 HG4 HO4 HFw4 HR4 HF5
     have cO : w5.cell? ⟨O,2,none⟩ = some (.int .i64 (-4)) := HO5.out.cell_at rfl
     have hOl := HO5.out.lt
     have hgl := HG5.out.lt
     have c2 : w5.cell? ⟨g,2,none⟩ = some (.int .i32 (p : Int)) := HG5.out.cell_at rfl
     have c4 : w5.cell? ⟨g,4,none⟩ = some op := HG5.out.cell_at rfl
     have c5 : w5.cell? ⟨g,5,none⟩ = some data := HG5.out.cell_at rfl
     have c6 : w5.cell? ⟨g,6,none⟩ = some .nilIface := HG5.out.cell_at rfl
     have f2 := HG5.out.free 2
     have f4 := HG5.out.free 4
     have f5 := HG5.out.free 5
     have f6 := HG5.out.free 6
     go_upto_region 37 with fail
     refine wp_region_lit ?_
     refine wpList_run (v := .slice (some ar) n cr) rfl rfl ?_
     simp only [Act.put,nA,nB,nC]
     refine wpList_run (v := .pointer (some ⟨O,0,none⟩)) rfl rfl ?_
     simp only [Act.put,nA,nB,nC]
     refine wpList_run (v := .pointer (some ⟨O,0,none⟩)) rfl rfl ?_
     simp only [Act.put,nA,nB,nC]
     refine wpList_run (v := .pointer (some ⟨O,2,none⟩)) rfl rfl ?_
     simp only [Act.put,nA,nB,nC]
     refine wpList_load1 rfl 3 (.tmp 167) rfl O 2 rfl _ _ cO rfl rfl ?_
     simp only [Act.put,nA,nB,nC]
     refine wpList_run (v := .int .i64 4) rfl (by rw [run_neg .i64 (.tmp 168) rfl (-4) rfl]; rfl) ?_
     simp only [Act.put,nA,nB,nC]
     refine wpList_slcS_l (lo := 4) rfl 29 (.tmp 164) (.tmp 169) rfl 5 (by kernel_rfl) (by kernel_rfl) .i64 rfl rfl HR5.out (by have := Hn.out; simp; omega) (by have := Hbad.out; omega) ?_
     intro a2 hr2
     rw [ic_drop] at hr2
     obtain ⟨n2,hn2⟩ : ∃ n2,n2 = n - 4 := ⟨_,rfl⟩
     rw [← hn2] at hr2 ⊢
     obtain ⟨cr2,hcr2⟩ : ∃ c2,c2 = cr - 4 := ⟨_,rfl⟩
     rw [← hcr2] at hr2 ⊢
     clear hcr2
     have HR6 : Hid (RdB B w5 (.slice (some a2) n2 cr2) n2 (ic .u8 ((s.drop (p + 1)).drop 4))) := hr2
     have Hn2 := hid hn2; clear hn2 hr2
     have hn26 : (n2 : Int) ≤ 1000000 := by have := Hn2.out; omega
     simp only [Act.put,nA,nB,nC]
     by_cases hL2 : L ≤ n2
     ·have hLn : (L : Int) ≤ n2 := by omega
      have HL2 := hid hL2; clear hL2
      go_upto_region 42 with fail
      refine qtail 16 (by kernel_rfl) (by kernel_rfl) ?_
      simp only [List.take_succ_cons,List.take_zero,List.drop_succ_cons,List.drop_zero]
      repeat (go_big_quiet_step (fail))
      refine wpQuiet_nil ?_
      go_upto_region 43 with fail
      have HF7 : Hid (Fr [g] w5 (w5.setCell ⟨g,2,none⟩ (.int .i32 ((p : Int) + (5 + (L : Int))))).drew) := ((Fr.refl _ _).setCell _ _ (by simp)).drew
      have HG7 : Hid (Blk (w5.setCell ⟨g,2,none⟩ (.int .i32 ((p : Int) + (5 + (L : Int))))).drew g 308 (tkc (.slice (some ⟨b,off,none⟩) s.length cap) ((p : Int) + (5 + (L : Int))) (pos + 1) op data .nilIface)) := (HG5.out.set 2 _).drew
      generalize World.drew (World.setCell w5 _ _) = w7 at HF7 HG7 ⊢
      clear cO hOl hgl c2 c4 c5 c6 f2 f4 f5 f6
      have c4 : w7.cell? ⟨g,4,none⟩ = some op := HG7.out.cell_at rfl
      have f4 := HG7.out.free 4
      have hgl := HG7.out.lt
      go_upto_region 44 with fail
      have HF8 : Hid (Fr [g] w5 (w7.setCell ⟨g,4,none⟩ (.pointer (some ⟨O,0,none⟩)))) := HF7.out.setCell _ _ (by simp)
      have HG8 : Hid (Blk (w7.setCell ⟨g,4,none⟩ (.pointer (some ⟨O,0,none⟩))) g 308 (tkc (.slice (some ⟨b,off,none⟩) s.length cap) ((p : Int) + (5 + (L : Int))) (pos + 1) (.pointer (some ⟨O,0,none⟩)) data .nilIface)) := HG7.out.set 4 _
      generalize World.setCell w7 _ _ = w8 at HF8 HG8 ⊢
      clear c4 f4 hgl HF7 HG7
      have HO8 : Hid (Blk w8 O 340 [.int .u8 ((78 : Nat) : Int),.string str,.int .i64 (-4)]) := HO5.out.fr HF8.out (by simp; exact HOg.out)
      have HR8 : Hid (RdB B w8 (.slice (some a2) n2 cr2) n2 (ic .u8 ((s.drop (p + 1)).drop 4))) := HR6.out.below (HF8.out.to_below (Nat.le_trans hBw HFw5.out.size) (by simp; exact hBg))
      refine wp_region_lit ?_
      refine wpList_run (v := .pointer (some ⟨g,0,none⟩)) rfl rfl ?_
      simp only [Act.put,nA,nB,nC]
      refine wpList_run (v := .slice (some a2) n2 cr2) rfl rfl ?_
      simp only [Act.put,nA,nB,nC]
      refine wpList_run (v := .int .i32 (L : Int)) rfl rfl ?_
      simp only [Act.put,nA,nB,nC]
      refine wpList_slcS_h (hi := L) rfl 29 (.tmp 207) (.tmp 208) rfl 5 (by kernel_rfl) (by kernel_rfl) .i32 rfl rfl HR8.out (by have := Hn2.out; have := Hn.out; simp; omega) HL2.out ?_
      intro ad hdv
      rw [ic_take] at hdv
      simp only [Act.put,nA,nB,nC]
      have HD8 : Hid (BytesB B w8 (.slice (some ad) L cr2) (((s.drop (p + 1)).drop 4).take L)) := by
       have e : (((s.drop (p + 1)).drop 4).take L).length = L := by have := Hn.out; have := Hn2.out; have := HL2.out; rw [List.length_take,List.length_drop,List.length_drop]; omega
       show RdB _ _ _ _ _
       rw [e]
       exact hdv
      clear hdv
      have c5 : w8.cell? ⟨g,5,none⟩ = some data := HG8.out.cell_at rfl
      have f5 := HG8.out.free 5
      have hgl := HG8.out.lt
      go_wp2_with fail
      go_ret
      have hF9 : Fr [g] w8 (w8.setCell ⟨g,5,none⟩ (.slice (some ad) L cr2)) := (Fr.refl _ _).setCell _ _ (by simp)
      refine ⟨HFw5.out.trans (HF8.out.trans hF9),.inr (.inr ⟨((s.drop (p + 1)).drop 4).take L,p + 1 + 4 + L,Hlt.out, ?_,rfl,.pointer (some ⟨O,0,none⟩),.slice (some ad) L cr2, ?_,TkOp.mk' (HO8.out.fr hF9 (by simp; exact HOg.out)) HC.out,DvOk.some' ?_ (HD8.out.below (hF9.to_below (Nat.le_trans hBw (Nat.le_trans HFw5.out.size HF8.out.size)) (by simp; exact hBg)))⟩)⟩
      ·have := Hn2.out; have := HL2.out; rw [hok.out,if_pos (by omega)]
      ·have := HG8.out.set 5 (.slice (some ad) L cr2)
       rw [show ((p + 1 + 4 + L : Nat) : Int) = ((p : Int) + (5 + (L : Int))) by omega]
       exact this
      ·rw [HC.out]; decide
     ·have hLn : ¬ (L : Int) ≤ n2 := by omega
      have hLn2 : (n2 : Int) < L := by omega
      have Hbad2 := hid hL2; clear hL2
      have hokn : Hid (tokAt s p = none) := by
       have := Hn2.out; have := Hbad2.out; show _ = _; rw [hok.out,if_neg (by omega)]
      have hok := hokn
      go_wp2_with fail
      refine (scriptError_c w5 _ _).mono ?_
      rintro e w5 ⟨rfl,hf⟩
      have HF5 := hid hf; clear hf
      have HG5 : Hid (Blk w5 g 308 (tkc (.slice (some ⟨b,off,none⟩) s.length cap) p (pos + 1) op data .nilIface)) := HG5.out.fr HF5.out (by simp)
      have c6' : w5.cell? ⟨g,6,none⟩ = some .nilIface := HG5.out.cell_at rfl
      have f6' := HG5.out.free 6
      have hgl' := HG5.out.lt
      clear cO hOl hgl c2 c4 c5 c6 f2 f4 f5 f6
      go_wp2_with fail
      go_ret
      exact ⟨HFw5.out.trans ((HF5.out.mono (by simp)).setCell _ _ (by simp)),.inr (.inl ⟨Hlt.out,hok.out,rfl,_,_,HG5.out.set 6 _⟩)⟩
    ·have hL0 : (2147483648 : Int) ≤ L := by omega
     clear hneg
     have hwr : IntKind.i32.wrap (L : Int) = (L : Int) - 4294967296 := by rw [IntKind.wrap_i32]; omega
     refine seg_act 4 rfl rfl (by kernel_rfl) ?_
     go_wp2_with fail
     refine ⟨HF5.out,fun _ => ?_⟩
     refine seg_act 5 rfl rfl (by kernel_rfl) ?_
     go_wp2_with fail
     refine ⟨HF5.out,fun _ => ?_⟩
     refine seg_end (by kernel_rfl) ?_
     have HG5 : Hid (Blk w5 g 308 (tkc (.slice (some ⟨b,off,none⟩) s.length cap) p (pos + 1) op data .nilIface)) := HG4.out.fr HF5.out (by simp)
     have HO5 : Hid (Blk w5 O 340 [.int .u8 ((78 : Nat) : Int),.string str,.int .i64 (-4)]) := HO4.out.fr HF5.out (by simp)
     have HFw5 : Hid (Fr [g] w w5) := HFw4.out.trans (HF5.out.mono (by simp))
     have HR5 : Hid (RdB B w5 (.slice (some ar) n cr) n (ic .u8 (s.drop (p + 1)))) := HR4.out.below (HF5.out.below.mono (Nat.le_trans hBw HFw4.out.size))
     clear cO hOl hgl c2 c4 c5 c6 f2 f4 f5 f6 HG4 HO4 HFw4 HR4 HF5
     have cO : w5.cell? ⟨O,2,none⟩ = some (.int .i64 (-4)) := HO5.out.cell_at rfl
     have hOl := HO5.out.lt
     have hgl := HG5.out.lt
     have c2 : w5.cell? ⟨g,2,none⟩ = some (.int .i32 (p : Int)) := HG5.out.cell_at rfl
     have c4 : w5.cell? ⟨g,4,none⟩ = some op := HG5.out.cell_at rfl
     have c5 : w5.cell? ⟨g,5,none⟩ = some data := HG5.out.cell_at rfl
     have c6 : w5.cell? ⟨g,6,none⟩ = some .nilIface := HG5.out.cell_at rfl
     have f2 := HG5.out.free 2
     have f4 := HG5.out.free 4
     have f5 := HG5.out.free 5
     have f6 := HG5.out.free 6
     go_upto_region 37 with fail
     refine wp_region_lit ?_
     refine wpList_run (v := .slice (some ar) n cr) rfl rfl ?_
     simp only [Act.put,nA,nB,nC]
     refine wpList_run (v := .pointer (some ⟨O,0,none⟩)) rfl rfl ?_
     simp only [Act.put,nA,nB,nC]
     refine wpList_run (v := .pointer (some ⟨O,0,none⟩)) rfl rfl ?_
     simp only [Act.put,nA,nB,nC]
     refine wpList_run (v := .pointer (some ⟨O,2,none⟩)) rfl rfl ?_
     simp only [Act.put,nA,nB,nC]
     refine wpList_load1 rfl 3 (.tmp 167) rfl O 2 rfl _ _ cO rfl rfl ?_
     simp only [Act.put,nA,nB,nC]
     refine wpList_run (v := .int .i64 4) rfl (by rw [run_neg .i64 (.tmp 168) rfl (-4) rfl]; rfl) ?_
     simp only [Act.put,nA,nB,nC]
     refine wpList_slcS_l (lo := 4) rfl 29 (.tmp 164) (.tmp 169) rfl 5 (by kernel_rfl) (by kernel_rfl) .i64 rfl rfl HR5.out (by have := Hn.out; simp; omega) (by have := Hbad.out; omega) ?_
     intro a2 hr2
     rw [ic_drop] at hr2
     obtain ⟨n2,hn2⟩ : ∃ n2,n2 = n - 4 := ⟨_,rfl⟩
     rw [← hn2] at hr2 ⊢
     obtain ⟨cr2,hcr2⟩ : ∃ c2,c2 = cr - 4 := ⟨_,rfl⟩
     rw [← hcr2] at hr2 ⊢
     clear hcr2
     have HR6 : Hid (RdB B w5 (.slice (some a2) n2 cr2) n2 (ic .u8 ((s.drop (p + 1)).drop 4))) := hr2
     have Hn2 := hid hn2; clear hn2 hr2
     have hn26 : (n2 : Int) ≤ 1000000 := by have := Hn2.out; omega
     simp only [Act.put,nA,nB,nC]
     have Hbad2 : Hid (¬ L ≤ n2) := by have := Hn2.out; show ¬ _; omega
     have hng1 : ((L : Int) - 4294967296) < 0 := by omega
     have hng2 : ¬ ((L : Int) - 4294967296) > (n2 : Int) := by omega
     obtain ⟨dl,hdl⟩ : ∃ dl,dl = ((L : Int) - 4294967296) := ⟨_,rfl⟩
     rw [← hdl] at hng1 hng2 ⊢
     clear hdl
     have hng3 : dl ≤ n2 := by omega
     have hokn : Hid (tokAt s p = none) := by
      have := Hn2.out; have := Hbad2.out; show _ = _; rw [hok.out,if_neg (by omega)]
     have hok := hokn
     go_wp2_with fail
     refine (scriptError_c w5 _ _).mono ?_
     rintro e w5 ⟨rfl,hf⟩
     have HF5 := hid hf; clear hf
     have HG5 : Hid (Blk w5 g 308 (tkc (.slice (some ⟨b,off,none⟩) s.length cap) p (pos + 1) op data .nilIface)) := HG5.out.fr HF5.out (by simp)
     have c6' : w5.cell? ⟨g,6,none⟩ = some .nilIface := HG5.out.cell_at rfl
     have f6' := HG5.out.free 6
     have hgl' := HG5.out.lt
     clear cO hOl hgl c2 c4 c5 c6 f2 f4 f5 f6
     go_wp2_with fail
     go_ret
     exact ⟨HFw5.out.trans ((HF5.out.mono (by simp)).setCell _ _ (by simp)),.inr (.inl ⟨Hlt.out,hok.out,rfl,_,_,HG5.out.set 6 _⟩)⟩
 ·have hd : decide (s.length ≤ p) = true := decide_eq_true (by omega)
  have Hlt := hid hlt; clear hlt
  go_enter Tryz.func136,Tryz.ntmps136
  go_wp2_with fail
  refine (done_c w g a s.length cap p pos op data HG.out Hs.out (by have := Hs.out; have := Hp.out; omega)).mono ?_
  rintro e w1 ⟨rfl,hf⟩
  have HF1 := hid hf; clear hf
  go_wp2_with fail
  go_ret
  exact ⟨HF1.out.mono (by simp),.inl ⟨by have := Hlt.out; omega,rfl,HG.out.fr HF1.out (by simp)⟩⟩
def pushT (t : Tok) : Bool := decide (t.op ≤ 78)
def pushesOf (l : List Tok) : List (List Int) := (l.filter pushT).map (·.data)
/-- What a script pushes; none if it is not whole. -/
def pushes (s : List Int) : List (List Int) := pushesOf (toks s).1
theorem pushesOf_append (l m : List Tok) : pushesOf (l ++ m) = pushesOf l ++ pushesOf m := by simp [pushesOf]
theorem RdB.nil' (B : Nat) (w : World) : RdB B w (.slice none 0 0) 0 [] := ⟨none,0,rfl,Nat.le_refl _,Nat.zero_le _,.inl ⟨rfl,rfl,rfl⟩⟩
/-- What PushedData answers. -/
def PdR (B : Nat) (s : List Int) (w : World) (e : Ending) (w' : World) : Prop := Fr [] w w' ∧
 (((toks s).2 = none ∧ ∃ v,e = .returned (.tuple #[v,.nilIface]) ∧ ListT w'.heap.size 29 1 (BytE B) w' v (pushes s)) ∨
  ((toks s).2 ≠ none ∧ ∃ t x,e = .returned (.tuple #[.slice none 0 0,.iface t x])))
set_option maxRecDepth 8000 in
set_option maxHeartbeats 2000000 in
theorem pushedData_c (w : World) (B : Nat) (hBw : B ≤ w.heap.size) (sv : Value) (s : List Int) (hv : BytesB B w sv s) (hu : U8 s) (hs : s.length ≤ 1000000) :
  Calls Tryz.prog 108 #[sv] w (PdR B s w) := by
 obtain ⟨a,cap,rfl,hq1,hq2⟩ := hv.form
 clear hq1 hq2
 have HV := hid hv; clear hv
 have Hu := hid hu; clear hu
 have Hs := hid hs; clear hs
 have hne : ∀ (ad : Addr) (n c : Nat) (w : World),(binOp .neq 29 (.slice (some ad) n c) (.slice none 0 0)).run Tryz.prog w = .ok (.bool true) w := fun _ _ _ _ => rfl
 have hnn : ∀ (w : World),(binOp .neq 29 (.slice none 0 0) (.slice none 0 0)).run Tryz.prog w = .ok (.bool false) w := fun _ => rfl
 have hni : ∀ (t : TypeId) (v : Value) (w : World),(binOp .neq 127 (.iface t v) .nilIface).run Tryz.prog w = .ok (.bool true) w := fun _ _ _ => rfl
 go_enter Tryz.func108,Tryz.ntmps108
 go_wp2_with fail
 refine (mkTok_c w _ a s.length cap rfl).mono ?_
 rintro e w1 ⟨rfl,hf⟩
 have HF1 := hid hf; clear hf
 simp only []
 refine (‹∀ (a : Act) (w : World),wpList Tryz.prog _ _ _ a w → _›) _ _ ?_
 obtain ⟨z,hz,hzl⟩ : ∃ z : List Value,Zero Tryz.prog 308 z ∧ z.length = 7 := ⟨_,fun w => rfl,rfl⟩
 refine wpList_new rfl rfl 308 (.tmp 8) 5 rfl rfl rfl rfl (by simp [Act.put]) (tkc (.slice a s.length cap) 0 (-1) (.pointer none) (.slice none 0 0) .nilIface) z (fun _ => rfl) (by show _ = some 7; kernel_rfl) hz hzl (by intro u hu; simp only [tkc,List.mem_cons,List.not_mem_nil,or_false] at hu; rcases hu with rfl | rfl | rfl | rfl | rfl | rfl | rfl <;> rfl) ?_
 simp only [Act.put,nA,nB,nC]
 clear hz hzl
 have HF2 : Hid (Fr [] w (w1.alloc (.cells (tkc (.slice a s.length cap) 0 (-1) (.pointer none) (.slice none 0 0) .nilIface).toArray 308))) := HF1.out.alloc _
 have HT2 : Hid (Blk (w1.alloc (.cells (tkc (.slice a s.length cap) 0 (-1) (.pointer none) (.slice none 0 0) .nilIface).toArray 308)) w1.heap.size 308 (tkc (.slice a s.length cap) 0 (-1) (.pointer none) (.slice none 0 0) .nilIface)) := Blk.new _ _ _
 generalize World.alloc w1 _ = w2 at HF2 HT2 ⊢
 obtain ⟨T,hT⟩ : ∃ T,T = w1.heap.size := ⟨_,rfl⟩
 rw [← hT] at HT2 ⊢
 have HTw : Hid (w.heap.size ≤ T) := by rw [hT]; exact HF1.out.size
 clear hT HF1
 refine wpList_nil ?_
 simp only [Exit.then]
 generalize Value.agg (tkc (.slice a s.length cap) 0 (-1) (.pointer none) (.slice none 0 0) .nilIface).toArray = V8
 go_wp2_with fail
 go_loopg [4] (s.length) (fun gk v4 wr => ∃ (p : Nat) (pos : Int) (vr op dv : Value) (acc : List (List Int)) (pre : List Tok),vr = v4 ∧ gk = s.length - p ∧ p ≤ s.length ∧ -1 ≤ pos ∧ pos ≤ (p : Int) - 1 ∧ acc.length ≤ p ∧ Blk wr T 308 (tkc (.slice a s.length cap) p pos op dv .nilIface) ∧
  Grows w.heap.size 29 1 (BytE B) wr vr acc ∧ toks s = (pre ++ (toksFrom s p).1,(toksFrom s p).2) ∧ acc = pushesOf pre ∧ Fr [] w wr)
 case atStart => exact ⟨0,-1,_,_,_,[],[],rfl,rfl,Nat.zero_le _,by omega,by omega,Nat.zero_le _,HT2.out,Grows.nil _,rfl,rfl,HF2.out⟩
 case round =>
  clear HT2 HF2
  obtain ⟨p,pos,vr,op,dv0,acc,pre,rfl,rfl,hp,hpos0,hpos1,hacc,ht,hg,htk,hacp,hf⟩ := hrel
  obtain ⟨av,cv,rfl⟩ := hg.slice
  have HT := hid ht; clear ht
  have HG := hid hg; clear hg
  have HTK := hid htk; clear htk
  have HP := hid hacp; clear hacp
  have Hacc := hid hacc; clear hacc
  have HF := hid hf; clear hf
  have Hp := hid hp; clear hp
  have Hpos := hid (And.intro hpos0 hpos1); clear hpos0 hpos1
  go_wp2_with fail
  refine (next_c wr B T (Nat.le_trans hBw HF.out.size) (Nat.le_trans hBw HTw.out) _ s (HV.out.below (HF.out.below.mono hBw)) Hu.out Hs.out p Hp.out pos Hpos.out.1 (by have := Hpos.out; have := Hp.out; have := Hs.out; omega) op dv0 HT.out).mono ?_
  rintro e w4 ⟨hf,hN⟩
  have HFn : Hid (Fr [T] wr w4) := hf
  have HF4 : Hid (Fr [] w w4) := HF.out.andThen hf (by intro k hk; simp at hk; subst hk; exact .inr HTw.out)
  have hB4 : Below B wr w4 := hf.to_below (Nat.le_trans hBw HF.out.size) (by intro k hk; simp at hk; subst hk; exact Nat.le_trans hBw HTw.out)
  have HG4 : Hid (Grows w.heap.size 29 1 (BytE B) w4 (.slice av acc.length cv) acc) :=
   HG.out.frT (hf.frT (T := 308) (fun k hk _ => by simp at hk; subst hk; exact ⟨_,_,HT.out⟩)) (by decide) (fun _ _ h => h.below hB4)
  clear hf HG hB4
  rcases hN with ⟨hge,rfl,hb⟩ | ⟨hlt,hbad,rfl,t,v,hb⟩ | ⟨d,q,hlt,hok,rfl,op',dv,hb,hop,hdv⟩
  ·have HT4 := hid hb; clear hb
   have hpe : p = s.length := by have := Hp.out; omega
   have Hpe := hid hpe; clear hpe hge
   go_wp2_with fail
   refine (err_c w4 T _ _ _ _ _ _ HT4.out).mono ?_
   rintro e w' ⟨rfl,rfl⟩
   go_wp2_with fail
   go_ret2
   have htk : (toks s).2 = none ∧ (toks s).1 = pre := by rw [HTK.out,Hpe.out,toksFrom_end (Nat.le_refl _)]; simp
   refine ⟨HF4.out,.inl ⟨htk.1,_,rfl, ?_⟩⟩
   have := HG4.out.listT
   rw [pushes,htk.2,← HP.out]
   exact this
  ·have HT4 := hid hb; clear hb
   have Hbad := hid hbad; clear hbad
   have Hlt := hid hlt; clear hlt
   go_wp2_with fail
   refine (err_c w4 T _ _ _ _ _ _ HT4.out).mono ?_
   rintro e w' ⟨rfl,rfl⟩
   go_wp2_with fail
   go_ret2
   refine ⟨HF4.out,.inr ⟨?_,t,v,rfl⟩⟩
   rw [HTK.out,toksFrom_bad Hlt.out Hbad.out]; simp
  ·have HT4 := hid hb; clear hb
   have Hop' := hid hop; clear hop
   have Hok := hid hok
   have Hlt := hid hlt
   have Hq : Hid (p < q ∧ q ≤ s.length) := tokAt_gt hok hlt
   have Htk : Hid (toks s = ((pre ++ [⟨nth s p,d,p⟩]) ++ (toksFrom s q).1,(toksFrom s q).2)) := by
    show _ = _
    rw [HTK.out,toksFrom_step hlt hok]; simp
   clear hok hlt
   rcases hdv with ⟨hx,rfl,rfl⟩ | ⟨hx,ad,nd,cd,rfl,hd⟩
   ·have Hx := hid hx; clear hx
    go_wp2_with fail
    refine (data_c w4 T _ _ _ _ _ _ HT4.out).mono ?_
    rintro e w' ⟨rfl,rfl⟩
    have hxb := Hu.out.bd p
    have Hxb := hid hxb; clear hxb
    go_wp2_with fail
    refine (opcode_c w4 T _ _ _ _ _ _ (nth s p) HT4.out Hop'.out).mono ?_
    rintro e w' ⟨rfl,rfl⟩
    by_cases h0 : nth s p = 0
    ·have Hop : Hid (nth s p ≤ 78) := by rw [h0]; show _ ≤ _; omega
     have H0 := hid h0
     have e0 : (nth s p == 0) = true := by simp [h0]
     clear h0
     have HFN : Hid (Fr [] w4 (w4.alloc (.cells #[.slice none 0 0] 29))) := (Fr.refl _ _).alloc _
     have HBN : Hid (Blk (w4.alloc (.cells #[.slice none 0 0] 29)) w4.heap.size 29 [.slice none 0 0]) := Blk.new _ _ _
     have HG2 : Hid (Grows w.heap.size 29 1 (BytE B) (w4.alloc (.cells #[.slice none 0 0] 29)) (.slice av acc.length cv) acc) := HG4.out.fr HFN.out (fun _ _ h => h.below (HFN.out.below.mono (Nat.le_trans hBw HF4.out.size)))
     have HY : Hid (BytE B (w4.alloc (.cells #[.slice none 0 0] 29)) [.slice none 0 0] []) := ⟨_,rfl,(RdB.nil' B w4).below (HFN.out.below.mono (Nat.le_trans hBw HF4.out.size))⟩
     have Hby : Hid ((acc.length + 1) * 24 ≤ 140737488355328) := by have := Hacc.out; have := Hs.out; have := Hp.out; show _ ≤ _; omega
     have hl3 : Hid (([.slice none 0 0] : List Value).length = 1) := hid rfl
     have h1c : Hid (∀ u ∈ ([.slice none 0 0] : List Value),u.oneCell' = true) := by intro u hu; rw [List.mem_singleton] at hu; subst hu; rfl
     have hEc : Hid (∀ w',FrT 29 (w4.alloc (.cells #[.slice none 0 0] 29)) w' → Below w.heap.size (w4.alloc (.cells #[.slice none 0 0] 29)) w' → ∀ c y,BytE B (w4.alloc (.cells #[.slice none 0 0] 29)) c y → BytE B w' c y) := fun w' _ hb c y h => h.below (hb.mono hBw)
     have hbs : Hid (w.heap.size ≤ (w4.alloc (.cells #[.slice none 0 0] 29)).heap.size) := Nat.le_trans HF4.out.size HFN.out.size
     go_wp2_with (with_reducible refine wpList_push2 (o := ⟨some 20,_,_,_,_,_⟩) rfl (.tmp 18) (.tmp 19) 96 rfl 29 1 24 elem96 w.heap.size (BytE B) (.slice av acc.length cv) acc ?_ HG2.out w4.heap.size 29 _ HBN.out ?_ hl3.out h1c.out hEc.out _ HY.out Hby.out hbs.out ?_)
     ·rfl
     ·rfl
     intro v5 w5 HG5 HFT5 HFo5 HBl5
     have HF5 : Hid (Fr [] w w5) := (HF4.out.trans HFN.out).andThen HFo5.out (fun k hk => .inr (HG2.out.own k (own1_mem hk)).1)
     have HT5 : Hid (Blk w5 T 308 (tkc (.slice a s.length cap) q (pos + 1) op' (.slice none 0 0) .nilIface)) := (HT4.out.fr HFN.out (by simp)).frT HFT5.out (by decide)
     clear HG2 HY Hby hl3 h1c hEc hbs HBN
     go_wp2_with fail
     go_roundg (s.length - q)
     case measure => have := Hq.out; omega
     case rel => exact ⟨q,pos + 1,_,op',.slice none 0 0,acc ++ [[]],pre ++ [⟨nth s p,[],p⟩],rfl,rfl,Hq.out.2,by have := Hpos.out; omega,by have := Hpos.out; have := Hq.out; omega,by have := Hacc.out; have := Hq.out; simp; omega,HT5.out,HG5.out,Htk.out,by rw [pushesOf_append,← HP.out]; simp [pushesOf,pushT,Hop.out],HF5.out⟩
    ·have e0 : (nth s p == 0) = false := by simp [h0]
     have Hn : Hid (¬ nth s p ≤ 78) := by have := Hx.out; show ¬ _; omega
     clear h0
     go_wp2_with fail
     go_roundg (s.length - q)
     case measure => have := Hq.out; omega
     case rel => exact ⟨q,pos + 1,_,op',.slice none 0 0,acc,pre ++ [⟨nth s p,[],p⟩],rfl,rfl,Hq.out.2,by have := Hpos.out; omega,by have := Hpos.out; have := Hq.out; omega,by have := Hacc.out; have := Hq.out; omega,HT4.out,HG4.out,Htk.out,by rw [pushesOf_append,← HP.out]; simp [pushesOf,pushT,Hn.out],HF4.out⟩
   ·have Hop : Hid (nth s p ≤ 78) := hx.2
    have HD := hid hd; clear hd hx
    go_wp2_with fail
    refine (data_c w4 T _ _ _ _ _ _ HT4.out).mono ?_
    rintro e w' ⟨rfl,rfl⟩
    go_wp2_with fail
    refine (data_c w4 T _ _ _ _ _ _ HT4.out).mono ?_
    rintro e w' ⟨rfl,rfl⟩
    have HFN : Hid (Fr [] w4 (w4.alloc (.cells #[.slice (some ad) nd cd] 29))) := (Fr.refl _ _).alloc _
    have HBN : Hid (Blk (w4.alloc (.cells #[.slice (some ad) nd cd] 29)) w4.heap.size 29 [.slice (some ad) nd cd]) := Blk.new _ _ _
    have HG2 : Hid (Grows w.heap.size 29 1 (BytE B) (w4.alloc (.cells #[.slice (some ad) nd cd] 29)) (.slice av acc.length cv) acc) := HG4.out.fr HFN.out (fun _ _ h => h.below (HFN.out.below.mono (Nat.le_trans hBw HF4.out.size)))
    have HY : Hid (BytE B (w4.alloc (.cells #[.slice (some ad) nd cd] 29)) [.slice (some ad) nd cd] d) := ⟨_,rfl,HD.out.below (HFN.out.below.mono (Nat.le_trans hBw HF4.out.size))⟩
    have Hby : Hid ((acc.length + 1) * 24 ≤ 140737488355328) := by have := Hacc.out; have := Hs.out; have := Hp.out; show _ ≤ _; omega
    have hl3 : Hid (([.slice (some ad) nd cd] : List Value).length = 1) := hid rfl
    have h1c : Hid (∀ u ∈ ([.slice (some ad) nd cd] : List Value),u.oneCell' = true) := by intro u hu; rw [List.mem_singleton] at hu; subst hu; rfl
    have hEc : Hid (∀ w',FrT 29 (w4.alloc (.cells #[.slice (some ad) nd cd] 29)) w' → Below w.heap.size (w4.alloc (.cells #[.slice (some ad) nd cd] 29)) w' → ∀ c y,BytE B (w4.alloc (.cells #[.slice (some ad) nd cd] 29)) c y → BytE B w' c y) := fun w' _ hb c y h => h.below (hb.mono hBw)
    have hbs : Hid (w.heap.size ≤ (w4.alloc (.cells #[.slice (some ad) nd cd] 29)).heap.size) := Nat.le_trans HF4.out.size HFN.out.size
    go_wp2_with (with_reducible refine wpList_push2 (o := ⟨some 15,_,_,_,_,_⟩) rfl (.tmp 12) (.tmp 14) 96 rfl 29 1 24 elem96 w.heap.size (BytE B) (.slice av acc.length cv) acc ?_ HG2.out w4.heap.size 29 _ HBN.out ?_ hl3.out h1c.out hEc.out _ HY.out Hby.out hbs.out ?_)
    ·rfl
    ·rfl
    intro v5 w5 HG5 HFT5 HFo5 HBl5
    have HF5 : Hid (Fr [] w w5) := (HF4.out.trans HFN.out).andThen HFo5.out (fun k hk => .inr (HG2.out.own k (own1_mem hk)).1)
    have HT5 : Hid (Blk w5 T 308 (tkc (.slice a s.length cap) q (pos + 1) op' (.slice (some ad) nd cd) .nilIface)) := (HT4.out.fr HFN.out (by simp)).frT HFT5.out (by decide)
    clear HG2 HY Hby hl3 h1c hEc hbs HBN
    go_wp2_with fail
    go_roundg (s.length - q)
    case measure => have := Hq.out; omega
    case rel => exact ⟨q,pos + 1,_,op',.slice (some ad) nd cd,acc ++ [d],pre ++ [⟨nth s p,d,p⟩],rfl,rfl,Hq.out.2,by have := Hpos.out; omega,by have := Hpos.out; have := Hq.out; omega,by have := Hacc.out; have := Hq.out; simp; omega,HT5.out,HG5.out,Htk.out,by rw [pushesOf_append,← HP.out]; simp [pushesOf,pushT,Hop.out],HF5.out⟩
end Go.Proofs.YtdllckiidegpcaaGreat
