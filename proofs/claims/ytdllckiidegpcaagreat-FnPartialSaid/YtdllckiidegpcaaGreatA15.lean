/- A part of the walk of laws.FnPartial (part 15): contracts of functions that it comes to, and the plain laws that these lean on. Conditions stand in each contract. -/
import Derived.Test.YtdllckiidegpcaaGreatA11
set_option linter.unusedSimpArgs false
set_option linter.unusedVariables false
namespace Go.Proofs.YtdllckiidegpcaaGreat
open Go.RowKit
/-- bloom.Filter at g, its message at m, its bytes at a. -/
structure FltAt (w : World) (g m a cap : Nat) (st : Int) (f : Blm) (flag : Int) : Prop where
 top : Blk w g 201 [.int .i32 st,.int .u32 0,.pointer (some ⟨m,0,none⟩)]
 msg : Blk w m 136 [.slice (some ⟨a,0,none⟩) f.bytes.length cap,.int .u32 f.funcs,.int .u32 f.tweak,.int .u8 flag]
 arr : ∃ post,Blk w a 5 (ic .u8 f.bytes ++ post)
 cap1 : f.bytes.length ≤ cap
 cap2 : cap ≤ maxLen
theorem FltAt.fr {S : List Nat} {w w' : World} {g m a cap : Nat} {st : Int} {f : Blm} {flag : Int} (h : FltAt w g m a cap st f flag) (hf : Fr S w w') (hg : g ∉ S) (hm : m ∉ S) (ha : a ∉ S) : FltAt w' g m a cap st f flag := by
 obtain ⟨post,hp⟩ := h.arr
 exact ⟨h.top.fr hf hg,h.msg.fr hf hm,⟨post,hp.fr hf ha⟩,h.cap1,h.cap2⟩
theorem FltAt.grow {w w' : World} {g m a cap : Nat} {st : Int} {f : Blm} {flag : Int} (h : FltAt w g m a cap st f flag) (hf : Fr [] w w') : FltAt w' g m a cap st f flag := h.fr hf (by simp) (by simp) (by simp)
theorem normalize_c (w : World) (g m : Nat) (v : Value) (n : Nat) (x y z : Value) (hn : 1 ≤ n) (a : Option Addr) (cap : Nat) (hv : v = .slice a n cap)
  (ht : Blk w g 201 [.int .i32 0,.int .u32 0,.pointer (some ⟨m,0,none⟩)]) (hm : Blk w m 136 [v,x,y,z]) :
  Calls Tryz.prog 87 #[.pointer (some ⟨g,0,none⟩)] w fun e w' => e = .returned (.tuple #[]) ∧ w = w' := by
 subst hv
 have c1 : w.cell? ⟨g,2,none⟩ = some (.pointer (some ⟨m,0,none⟩)) := ht.cell_at rfl
 have c2 : w.cell? ⟨m,0,none⟩ = some (.slice a n cap) := hm.cell_at rfl
 have hn1 : ¬ ((n : Int) = 0) := by omega
 have hn2 : ((n : Int) == 0) = false := by simp; omega
 have hn3 : ¬ (n = 0) := by omega
 have hn4 : (n == 0) = false := by simp; omega
 have hgl := ht.lt
 have hml := hm.lt
 have HT := hid ht; clear ht
 have HM := hid hm; clear hm
 go_enter Tryz.func87,Tryz.ntmps87
 go_wp2_with fail
 go_end0
 exact ⟨rfl,rfl⟩
theorem loadFilter_c (w : World) (m : Nat) (v : Value) (n : Nat) (x y z : Value) (hn : 1 ≤ n) (a : Option Addr) (cap : Nat) (hv : v = .slice a n cap) (hm : Blk w m 136 [v,x,y,z]) :
  Calls Tryz.prog 46 #[.pointer (some ⟨m,0,none⟩)] w fun e w' => e = .returned (.pointer (some ⟨w.heap.size,0,none⟩)) ∧ Fr [] w w' ∧ Blk w' w.heap.size 201 [.int .i32 0,.int .u32 0,.pointer (some ⟨m,0,none⟩)] := by
 have HM := hid hm; clear hm
 have Hv := hid hv; clear hv
 go_enter Tryz.func46,Tryz.ntmps46
 go_wp2_with fail
 have HF1 : Hid (Fr [] w (w.alloc (.cells [.int .i32 0,.int .u32 0,.pointer (some ⟨m,0,none⟩)].toArray 201))) := (Fr.refl _ _).alloc _
 have HB1 : Hid (Blk (w.alloc (.cells [.int .i32 0,.int .u32 0,.pointer (some ⟨m,0,none⟩)].toArray 201)) w.heap.size 201 [.int .i32 0,.int .u32 0,.pointer (some ⟨m,0,none⟩)]) := Blk.new _ _ _
 change Calls _ _ _ (w.alloc (.cells [.int .i32 0,.int .u32 0,.pointer (some ⟨m,0,none⟩)].toArray 201)) _
 generalize World.alloc w _ = w1 at HF1 HB1 ⊢
 refine (normalize_c w1 w.heap.size m v n x y z hn a cap Hv.out HB1.out (HM.out.fr HF1.out (by simp))).mono ?_
 rintro e w' ⟨rfl,rfl⟩
 go_wp2_with fail
 go_ret
 exact ⟨rfl,HF1.out,HB1.out⟩
theorem owns_bytes {w : World} {base : Nat} {v : Value} {l : List Int} (h : w.ownsRow base 5 1 v l.length (ic .u8 l)) (hl : 1 ≤ l.length) :
  ∃ a cap post,v = .slice (some ⟨a,0,none⟩) l.length cap ∧ base ≤ a ∧ Blk w a 5 (ic .u8 l ++ post) ∧ l.length ≤ cap ∧ cap ≤ maxLen := by
 obtain ⟨_,h⟩ := h
 rcases h with ⟨rfl,h⟩ | ⟨a,cap,cur,rfl,hB,hh,h1,h2,h3,h4⟩
 ·omega
 ·refine ⟨a,cap,cur.toList.drop l.length,rfl,hB, ?_,h1,h2⟩
  have e : ic .u8 l ++ cur.toList.drop l.length = cur.toList := by
   rw [Nat.mul_one] at h4
   rw [← h4,List.take_append_drop]
  rw [e]
  exact hh
set_option maxRecDepth 8000 in
theorem filterOf_c (w : World) (B : Nat) (hBw : B ≤ w.heap.size) (c : List Value) (f : Blm) (flag : Int) (hc : BlmE B w c f) (h1 : 1 ≤ f.bytes.length) (h2 : f.bytes.length ≤ 1000000) :
  Calls Tryz.prog 22 #[.agg c.toArray,.int .u8 flag] w fun e w' => ∃ g m a cap,e = .returned (.pointer (some ⟨g,0,none⟩)) ∧ Fr [] w w' ∧ w.heap.size ≤ g ∧ w.heap.size ≤ m ∧ w.heap.size ≤ a ∧ FltAt w' g m a cap 0 f flag := by
 obtain ⟨sv,rfl,hsv⟩ := hc
 have HSV := hid hsv; clear hsv
 have H2 := hid h2; clear h2
 go_enter Tryz.func22,Tryz.ntmps22
 go_upto_region 1 with fail
 have HF1 : Hid (Fr [] w (w.alloc (.cells [sv,.int .u32 f.funcs,.int .u32 f.tweak].toArray 31))) := (Fr.refl _ _).alloc _
 have HB1 : Hid (Blk (w.alloc (.cells [sv,.int .u32 f.funcs,.int .u32 f.tweak].toArray 31)) w.heap.size 31 [sv,.int .u32 f.funcs,.int .u32 f.tweak]) := Blk.new _ _ _
 change Code.wp _ _ _ _ (w.alloc (.cells [sv,.int .u32 f.funcs,.int .u32 f.tweak].toArray 31))
 generalize World.alloc w _ = w1 at HF1 HB1 ⊢
 have hl := HB1.out.lt
 have HS1 : Hid (BytesB B w1 sv f.bytes) := HSV.out.below (HF1.out.below.mono hBw)
 refine seg_begin (fun w' => Fr [] w1 w') (by kernel_rfl) ?_
 refine seg_quiet (fuel := 5) (by kernel_rfl) (fun d _ _ _ _ h => by cases d <;> exact h) ((Fr.refl _ _).drew) [0,1,3,4,5,6,7] _ _ (by kernel_rfl) ?_
 simp only [pickL,nthO]
 refine wpQuiet_rfl (.pointer (some ⟨w.heap.size,0,none⟩)) rfl (fun _ => rfl) ?_
 simp only [Act.put,nA,nB,nC]
 refine wpQuiet_load1 rfl 29 (.tmp 5) rfl w.heap.size 0 rfl sv _ (fun w' hf => (HB1.out.fr hf (by simp)).cell_at rfl) rfl rfl ?_
 simp only [Act.put,nA,nB,nC]
 refine wpQuiet_rfl (.pointer (some ⟨w.heap.size,1,none⟩)) rfl (fun _ => rfl) ?_
 simp only [Act.put,nA,nB,nC]
 refine wpQuiet_load1 rfl 23 (.tmp 8) rfl w.heap.size 1 rfl (.int .u32 f.funcs) _ (fun w' hf => (HB1.out.fr hf (by simp)).cell_at rfl) rfl rfl ?_
 simp only [Act.put,nA,nB,nC]
 refine wpQuiet_rfl (.pointer (some ⟨w.heap.size,2,none⟩)) rfl (fun _ => rfl) ?_
 simp only [Act.put,nA,nB,nC]
 refine wpQuiet_load1 rfl 23 (.tmp 10) rfl w.heap.size 2 rfl (.int .u32 f.tweak) _ (fun w' hf => (HB1.out.fr hf (by simp)).cell_at rfl) rfl rfl ?_
 simp only [Act.put,nA,nB,nC]
 refine wpQuiet_rfl (.int .u8 flag) rfl (fun _ => rfl) ?_
 simp only [Act.put,nA,nB,nC]
 refine wpQuiet_nil ?_
 refine seg_act 2 rfl rfl (by kernel_rfl) ?_
 go_wp2_with fail
 refine (copied_c w1.drew sv f.bytes ((HS1.out.below ((Below.refl _ _).drew)).rd (Nat.le_trans hBw HF1.out.size)) (by have := H2.out; omega)).mono ?_
 rintro e w2 ⟨v2,rfl,hf,ho⟩
 obtain ⟨a,cap,post,rfl,ha,hb,hc1,hc2⟩ := owns_bytes ho h1
 have HF2 : Hid (Fr [] w1 w2) := (Fr.refl _ _).drew.trans hf
 have HA2 := hid ha
 have HP2 := hid hb
 have HC1 := hid hc1
 have HC2 := hid hc2
 clear hf ho ha hb hc1 hc2
 go_wp2_with fail
 refine ⟨HF2.out,fun _ => ?_⟩
 refine seg_act 8 rfl rfl (by kernel_rfl) ?_
 go_wp2_with fail
 refine ⟨HF2.out,fun _ => ?_⟩
 refine seg_act 9 rfl rfl (by kernel_rfl) ?_
 go_wp2_with fail
 have HF3 : Hid (Fr [] w2 (w2.alloc (.cells [.slice (some ⟨a,0,none⟩) f.bytes.length cap,.int .u32 f.funcs,.int .u32 f.tweak,.int .u8 flag].toArray 136))) := (Fr.refl _ _).alloc _
 have HB3 : Hid (Blk (w2.alloc (.cells [.slice (some ⟨a,0,none⟩) f.bytes.length cap,.int .u32 f.funcs,.int .u32 f.tweak,.int .u8 flag].toArray 136)) w2.heap.size 136 [.slice (some ⟨a,0,none⟩) f.bytes.length cap,.int .u32 f.funcs,.int .u32 f.tweak,.int .u8 flag]) := Blk.new _ _ _
 refine ⟨HF2.out.trans HF3.out,fun _ => ?_⟩
 generalize World.alloc w2 _ = w3 at HF3 HB3 ⊢
 refine seg_act 10 rfl rfl (by kernel_rfl) ?_
 go_wp2_with fail
 refine (loadFilter_c w3 w2.heap.size _ f.bytes.length _ _ _ h1 _ _ rfl HB3.out).mono ?_
 rintro e w4 ⟨rfl,hf,hb⟩
 have HF4 : Hid (Fr [] w3 w4) := hf
 have HB4 := hid hb
 clear hf hb
 go_wp2_with fail
 refine ⟨(HF2.out.trans HF3.out).trans HF4.out,fun _ => ?_⟩
 refine seg_act 11 rfl rfl (by kernel_rfl) ?_
 go_wp2_with fail
 refine ⟨(HF2.out.trans HF3.out).trans HF4.out,fun _ => ?_⟩
 refine seg_end (by kernel_rfl) ?_
 go_wp2_with fail
 go_ret
 have h12 : w.heap.size ≤ w1.heap.size := HF1.out.size
 have h23 : w1.heap.size ≤ w2.heap.size := HF2.out.size
 have h34 : w2.heap.size ≤ w3.heap.size := HF3.out.size
 exact ⟨w3.heap.size,w2.heap.size,a,cap,rfl,HF1.out.trans ((HF2.out.trans HF3.out).trans HF4.out),by omega,by omega,Nat.le_trans h12 HA2.out,
  ⟨HB4.out,HB3.out.fr HF4.out (by simp),⟨post,(HP2.out.fr HF3.out (by simp)).fr HF4.out (by simp)⟩,HC1.out,HC2.out⟩⟩
end Go.Proofs.YtdllckiidegpcaaGreat
