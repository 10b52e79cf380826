/- A part of the walk of laws.FnPartial (part 28): contracts of functions that it comes to, and the plain laws that these lean on. Conditions stand in each contract. -/
import Derived.Defers
import Derived.Test.YtdllckiidegpcaaGreatA10
import Derived.Test.YtdllckiidegpcaaGreatA27
set_option linter.unusedSimpArgs false
set_option linter.unusedVariables false
set_option maxHeartbeats 4000000
namespace Go.Proofs.YtdllckiidegpcaaGreat
open Go.RowKit
theorem vint_length (n : Nat) : (vint n).length ≤ 5 := by
 unfold vint; split
 ·simp
 ·split <;> simp [le_length]
/-- Bytes with their number ahead. -/
def vbytes (p : List Int) : List Int := vint p.length ++ p
set_option maxRecDepth 8000 in
theorem varbytesW_c (K : List Int) (w : World) (B g bf : Nat) (hBw : B ≤ w.heap.size) (hBg : B ≤ g) (hBb : B ≤ bf) (msg : List Int) (h : WSt K w g bf msg) (pv : Int) (v : Value) (p : List Int) (hv : BytesB B w v p) (hp : p.length ≤ 1000000) (hm : msg.length ≤ 50000000) :
  Calls Tryz.prog 196 #[.iface 296 (.pointer (some ⟨g,0,none⟩)),.int .u32 pv,v,.slice (some ⟨bf,0,none⟩) 8 8] w fun e w' => e = .returned .nilIface ∧ Fr [g,bf] w w' ∧ WSt K w' g bf (msg ++ vbytes p) := by
 obtain ⟨av,cv,rfl,hq1,hq2⟩ := hv.form
 clear hq1 hq2
 have Hw := hid h; clear h
 have Hm := hid hm; clear hm
 have Hv := hid hv; clear hv
 have hah := write_ahead g
 have hp1 : (p.length : Int) ≤ 1000000 := by omega
 go_enter Tryz.func196,Tryz.ntmps196
 go_wp2_with fail
 refine (varint_c K w g bf msg Hw.out pv p.length hp (by have := Hm.out; omega)).mono ?_
 rintro e w1 ⟨rfl,hf,hb⟩
 have HF1 := hid hf
 have Hw1 := hid hb
 clear hf hb
 go_wp2_with fail
 have hbl : Below B w w1 := HF1.out.belowB hBw (by intro k hk; simp at hk; rcases hk with rfl | rfl <;> assumption)
 have hb1 : BytesB B w1 (.slice av p.length cv) p := Hv.out.below hbl
 refine (wr_c Hw1.out p _ (hb1.rd (Nat.le_trans hBw HF1.out.size)) ?_ (by have := Hm.out; have := vint_length p.length; simp; omega)).mono ?_
 ·intro b off n cap e hc0
  cases e
  obtain ⟨_,_,he,_,_,hc⟩ := hb1
  simp only [Value.slice.injEq] at he
  obtain ⟨he,_,rfl⟩ := he
  subst he
  rcases hc with ⟨h,_⟩ | ⟨b2,off2,he,hlt,_⟩
  ·exact absurd h hc0
  ·cases he; omega
 rintro e w2 ⟨rfl,hf,hb⟩
 have HF2 := hid hf
 have Hw2 := hid hb
 clear hf hb hb1 hbl
 go_wp2_with fail
 go_ret
 refine ⟨rfl,HF1.out.trans (HF2.out.mono (by simp)), ?_⟩
 rw [vbytes,← List.append_assoc]; exact Hw2.out
/-- An input's bytes, but for its witness. -/
def inB (x : TxIn) : List Int := (x.prev.hash ++ le 4 x.prev.idx) ++ (vbytes x.script ++ le 4 x.seq)
set_option maxRecDepth 8000 in
theorem txinW_c (K : List Int) (w : World) (B g bf : Nat) (hBw : B ≤ w.heap.size) (hBg : B ≤ g) (hBb : B ≤ bf) (msg : List Int) (h : WSt K w g bf msg) (pv vr : Int) (D : Nat) (x : TxIn) (d : List Value) (hp : x.prev.Ok) (hs : x.script.length ≤ 1000000) (hD : Blk w D 233 d) (hE : TxInT B w d x) (hDB : D < B) (hm : msg.length ≤ 10000000) :
  Calls Tryz.prog 181 #[.iface 296 (.pointer (some ⟨g,0,none⟩)),.int .u32 pv,.int .i32 vr,.pointer (some ⟨D,0,none⟩),.slice (some ⟨bf,0,none⟩) 8 8] w fun e w' => e = .returned .nilIface ∧ Fr [g,bf] w w' ∧ WSt K w' g bf (msg ++ inB x) := by
 obtain ⟨sv,wv,rfl,hsv,hwv⟩ := hE
 have Hw := hid h; clear h
 have Hm := hid hm; clear hm
 have HS := hid hsv.rdB; clear hsv hwv
 have hah := write_ahead g
 have hDg : D ≠ g := by omega
 have hDb : D ≠ bf := by omega
 have HDg := hid hDg; clear hDg
 have HDb := hid hDb; clear hDb
 have HD := hid hD; clear hD
 have Hp := hid hp; clear hp
 have hl0 := HD.out.lt
 have hpl := OutP.cells_length Hp.out
 have Hpl := hid hpl; clear hpl
 go_enter Tryz.func181,Tryz.ntmps181
 go_wp2_with fail
 refine (outpointW_c K w B g bf hBg hBb msg Hw.out pv vr D 233 x.prev Hp.out _ HD.out hDB (by have := Hm.out; omega)).mono ?_
 rintro e w1 ⟨rfl,hf,hb⟩
 have HF1 := hid hf
 have Hw1 := hid hb
 clear hf hb
 have HD1 : Hid (Blk w1 D 233 (x.prev.cells ++ [sv,wv,.int .u32 x.seq])) := HD.out.fr HF1.out (by simp; exact ⟨HDg.out,HDb.out⟩)
 have c33 : w1.cell? ⟨D,33,none⟩ = some sv := HD1.out.cell_at (by rw [List.getElem?_append_right (by rw [Hpl.out]; omega),Hpl.out]; rfl)
 have hl1 := HD1.out.lt
 have Hb1 : Hid (Below B w w1) := HF1.out.belowB hBw (by intro k hk; simp at hk; rcases hk with rfl | rfl <;> assumption)
 go_wp2_with fail
 have hlen1 : (msg ++ (x.prev.hash ++ le 4 x.prev.idx)).length ≤ 50000000 := by have := Hm.out; have := Hp.out.len; simp [le_length]; omega
 refine (varbytesW_c K w1 B g bf (Nat.le_trans hBw HF1.out.size) hBg hBb _ Hw1.out pv sv x.script (HS.out.below Hb1.out) hs hlen1).mono ?_
 rintro e w2 ⟨rfl,hf,hb⟩
 have HF2 := hid hf
 have Hw2 := hid hb
 clear hf hb c33 hl1 hlen1
 have HD2 : Hid (Blk w2 D 233 (x.prev.cells ++ [sv,wv,.int .u32 x.seq])) := HD1.out.fr HF2.out (by simp; exact ⟨HDg.out,HDb.out⟩)
 have cI : ∀ w',Fr [g,bf] w2 w' → w'.cell? ⟨D,35,none⟩ = some (.int .u32 x.seq) := fun w' hf => (HD2.out.fr hf (by simp; exact ⟨HDg.out,HDb.out⟩)).cell_at (by rw [List.getElem?_append_right (by rw [Hpl.out]; omega),Hpl.out]; rfl)
 have HcI := hid cI; clear cI
 have hl2 := HD2.out.lt
 have HL2 : Hid ((msg ++ (x.prev.hash ++ le 4 x.prev.idx) ++ vbytes x.script).length ≤ 100000000) := by
  have := Hm.out; have := Hp.out.len; have := vint_length x.script.length
  show _ ≤ _; simp [le_length,vbytes]; omega
 obtain ⟨msg2,hmsg2⟩ : ∃ m,m = msg ++ (x.prev.hash ++ le 4 x.prev.idx) ++ vbytes x.script := ⟨_,rfl⟩
 rw [← hmsg2] at Hw2 HL2
 have Hmsg2 := hid hmsg2; clear hmsg2
 go_upto_region 7 with fail
 refine seg_begin (fun w' => Fr [g,bf] w2 w') (by kernel_rfl) ?_
 refine seg_quiet (fuel := 1) (by kernel_rfl) (fun d _ _ _ _ h => by cases d <;> exact h) ((Fr.refl _ _).drew) [0,1,2,3,4,5,6] _ _ (by kernel_rfl) ?_
 simp only [pickL,nthO]
 refine wpQuiet_load rfl 318 (.global 0) rfl _ 0 rfl [] _ (fun w' hf j v h => by simp at h) rfl rfl (by kernel_rfl) ?_
 simp only [Act.put,nA,nB,nC]
 refine wpQuiet_rfl (.slice (some ⟨bf,0,none⟩) 8 8) rfl (fun _ => rfl) ?_
 simp only [Act.put,nA,nB,nC]
 refine wpQuiet_slcK_h (hi := 4) rfl 29 (.tmp 35) _ rfl 5 (by kernel_rfl) (by kernel_rfl) bf 0 8 8 .i64 rfl rfl (by decide) (by decide) ?_
 simp only [Act.put,nA,nB,nC]
 iterate 4 go_big_quiet_step (((intro hw; first | with_reducible rfl | rfl | (simp [HcI.out _ hw,Result.andThen]; done) | (simp [HcI.out _ hw,Result.andThen]; rfl))))
 refine wpQuiet_nil ?_
 refine seg_act 7 rfl rfl (by kernel_rfl) ?_
 go_wp2_with fail
 refine (put4_c (Hw2.out.grow (Fr.refl _ _).drew) x.seq 4).mono ?_
 rintro e w' ⟨rfl,hf,hb⟩
 have HFw3 : Hid (Fr [g,bf] w2 w') := (Fr.refl _ _).drew.trans (hf.mono (by simp))
 have Hw3 := hid hb
 clear hf hb
 obtain ⟨w3,hw3⟩ : ∃ w3,w3 = w' := ⟨_,rfl⟩
 rw [← hw3] at HFw3 Hw3 ⊢
 clear hw3
 go_wp2_with fail
 refine ⟨HFw3.out,fun _ => ?_⟩
 refine seg_end (by kernel_rfl) ?_
 go_upto_region 8 with fail
 refine seg_begin (fun w' => Fr [g,bf] w3 w') (by kernel_rfl) ?_
 refine seg_quiet (fuel := 5) (by kernel_rfl) (fun d _ _ _ _ h => by cases d <;> exact h) ((Fr.refl _ _).drew) [0,1,2,3,4,5] _ _ (by kernel_rfl) ?_
 simp only [pickL,nthO]
 refine wpQuiet_rfl (.iface 296 (.pointer (some ⟨g,0,none⟩))) rfl (fun _ => rfl) ?_
 simp only [Act.put,nA,nB,nC]
 refine wpQuiet_rfl (.slice (some ⟨bf,0,none⟩) 8 8) rfl (fun _ => rfl) ?_
 simp only [Act.put,nA,nB,nC]
 refine wpQuiet_slcK_h (hi := 4) rfl 29 (.tmp 44) _ rfl 5 (by kernel_rfl) (by kernel_rfl) bf 0 8 8 .i64 rfl rfl (by decide) (by decide) ?_
 simp only [Act.put,nA,nB,nC]
 iterate 2 go_big_quiet_step (((intro hw; first | with_reducible rfl | rfl | (simp [Result.andThen]; done) | (simp [Result.andThen]; rfl))))
 refine wpQuiet_rfl (.iface 296 (.pointer (some ⟨g,0,none⟩))) rfl (fun _ => rfl) ?_
 simp only [Act.put,nA,nB,nC]
 refine wpQuiet_nil ?_
 refine seg_act 6 rfl rfl (by kernel_rfl) ?_
 go_wp2_with fail
 refine (wrW_c (Hw3.out.grow (Fr.refl _ _).drew) (q := le 4 x.seq) (by rw [le_length]; exact ⟨by decide,HL2.out⟩)).mono ?_
 rintro e w' ⟨rfl,hf,hb⟩
 have HFw4 : Hid (Fr [g,bf] w3 w') := (Fr.refl _ _).drew.trans (hf.mono (by simp))
 have Hw4 := hid hb
 clear hf hb
 obtain ⟨w4,hw4⟩ : ∃ w4,w4 = w' := ⟨_,rfl⟩
 rw [← hw4] at HFw4 Hw4 ⊢
 clear hw4
 go_wp2_with fail
 refine ⟨HFw4.out,fun _ => ?_⟩
 refine seg_quiet (fuel := 0) (by kernel_rfl) (fun d _ _ _ _ h => by cases d <;> exact h) HFw4.out [7,8,9,10] _ _ (by kernel_rfl) ?_
 simp only [pickL,nthO]
 iterate 4 go_big_quiet_step (((intro hw; first | with_reducible rfl | rfl | (simp [Result.andThen]; done) | (simp [Result.andThen]; rfl))))
 refine wpQuiet_nil ?_
 refine seg_end (by kernel_rfl) ?_
 go_wp2_with fail
 go_ret
 refine ⟨rfl,((HF1.out.trans HF2.out).trans HFw3.out).trans HFw4.out, ?_⟩
 have := Hw4.out
 rw [Hmsg2.out] at this
 simpa [inB,List.append_assoc] using this
/-- An output's bytes. -/
def outB (x : TxOut) : List Int := le 8 (x.value % 18446744073709551616) ++ vbytes x.script
set_option maxRecDepth 8000 in
theorem txoutW_c (K : List Int) (w : World) (B g bf : Nat) (hBw : B ≤ w.heap.size) (hBg : B ≤ g) (hBb : B ≤ bf) (msg : List Int) (h : WSt K w g bf msg) (pv vr : Int) (D : Nat) (x : TxOut) (d : List Value) (hs : x.script.length ≤ 1000000) (hD : Blk w D 236 d) (hE : TxOutT B w d x) (hDB : D < B) (hm : msg.length ≤ 10000000) :
  Calls Tryz.prog 182 #[.iface 296 (.pointer (some ⟨g,0,none⟩)),.int .u32 pv,.int .i32 vr,.pointer (some ⟨D,0,none⟩),.slice (some ⟨bf,0,none⟩) 8 8] w fun e w' => e = .returned .nilIface ∧ Fr [g,bf] w w' ∧ WSt K w' g bf (msg ++ outB x) := by
 obtain ⟨sv,rfl,hsv⟩ := hE
 have Hw := hid h; clear h
 have Hm := hid hm; clear hm
 have HS := hid hsv.rdB; clear hsv
 have hah := write_ahead g
 have hDg : D ≠ g := by omega
 have hDb : D ≠ bf := by omega
 have HDg := hid hDg; clear hDg
 have HDb := hid hDb; clear hDb
 have HD := hid hD; clear hD
 have hl0 := HD.out.lt
 have cI : ∀ w',Fr [g,bf] w w' → w'.cell? ⟨D,0,none⟩ = some (.int .i64 x.value) := fun w' hf => (HD.out.fr hf (by simp; exact ⟨HDg.out,HDb.out⟩)).cell_at rfl
 have HcI := hid cI; clear cI
 go_enter Tryz.func182,Tryz.ntmps182
 go_upto_region 1 with fail
 refine seg_begin (fun w' => Fr [g,bf] w w') (by kernel_rfl) ?_
 refine seg_quiet (fuel := 1) (by kernel_rfl) (fun d _ _ _ _ h => by cases d <;> exact h) ((Fr.refl _ _).drew) [0,1,2,3,4,5,6] _ _ (by kernel_rfl) ?_
 simp only [pickL,nthO]
 refine wpQuiet_load rfl 318 (.global 0) rfl _ 0 rfl [] _ (fun w' hf j v h => by simp at h) rfl rfl (by kernel_rfl) ?_
 simp only [Act.put,nA,nB,nC]
 refine wpQuiet_rfl (.slice (some ⟨bf,0,none⟩) 8 8) rfl (fun _ => rfl) ?_
 simp only [Act.put,nA,nB,nC]
 iterate 5 go_big_quiet_step (((intro hw; first | with_reducible rfl | rfl | (simp [HcI.out _ hw,Result.andThen]; done) | (simp [HcI.out _ hw,Result.andThen]; rfl))))
 refine wpQuiet_nil ?_
 refine seg_act 7 rfl rfl (by kernel_rfl) ?_
 go_wp2_with fail
 refine (put8_c (Hw.out.grow (Fr.refl _ _).drew) (x.value % 18446744073709551616) 8).mono ?_
 rintro e w' ⟨rfl,hf,hb⟩
 have HFw1 : Hid (Fr [g,bf] w w') := (Fr.refl _ _).drew.trans (hf.mono (by simp))
 have Hw1 := hid hb
 clear hf hb
 obtain ⟨w1,hw1⟩ : ∃ w1,w1 = w' := ⟨_,rfl⟩
 rw [← hw1] at HFw1 Hw1 ⊢
 clear hw1
 go_wp2_with fail
 refine ⟨HFw1.out,fun _ => ?_⟩
 refine seg_end (by kernel_rfl) ?_
 go_wp2_with fail
 refine (wrW_c Hw1.out (q := le 8 (x.value % 18446744073709551616)) (by rw [le_length]; exact ⟨by decide,by have := Hm.out; omega⟩)).mono ?_
 rintro e w' ⟨rfl,hf,hb⟩
 have HFw2 : Hid (Fr [g,bf] w1 w') := hf.mono (by simp)
 have Hw2 := hid hb
 clear hf hb
 obtain ⟨w2,hw2⟩ : ∃ w2,w2 = w' := ⟨_,rfl⟩
 rw [← hw2] at HFw2 Hw2 ⊢
 clear hw2
 have HD2 : Hid (Blk w2 D 236 [.int .i64 x.value,sv]) := (HD.out.fr HFw1.out (by simp; exact ⟨HDg.out,HDb.out⟩)).fr HFw2.out (by simp; exact ⟨HDg.out,HDb.out⟩)
 have c1 : w2.cell? ⟨D,1,none⟩ = some sv := HD2.out.cell_at rfl
 have hl2 := HD2.out.lt
 have HFA : Hid (Fr [g,bf] w w2) := HFw1.out.trans HFw2.out
 have Hb2 : Hid (Below B w w2) := HFA.out.belowB hBw (by intro k hk; simp at hk; rcases hk with rfl | rfl <;> assumption)
 go_wp2_with fail
 refine (varbytesW_c K w2 B g bf (Nat.le_trans hBw HFA.out.size) hBg hBb _ Hw2.out pv sv x.script (HS.out.below Hb2.out) hs (by have := Hm.out; simp [le_length]; omega)).mono ?_
 rintro e w3 ⟨rfl,hf,hb⟩
 have HF3 := hid hf
 have Hw3 := hid hb
 clear hf hb
 go_wp2_with fail
 go_ret
 refine ⟨rfl,HFA.out.trans HF3.out, ?_⟩
 have := Hw3.out
 simpa [outB,List.append_assoc] using this
/-- A transaction's bytes, without witnesses. -/
def txB (t : Tx) : List Int := le 4 (t.version % 4294967296) ++ (vint t.ins.length ++ (t.ins.flatMap inB ++ (vint t.outs.length ++ (t.outs.flatMap outB ++ le 4 t.lock))))
theorem flatMap_take_succ {α : Type} (f : α → List Int) (l : List α) (i : Nat) (h : i < l.length) : (l.take (i + 1)).flatMap f = (l.take i).flatMap f ++ f l[i] := by
 rw [List.take_add_one,List.getElem?_eq_getElem h,List.flatMap_append]; simp
theorem flatMap_take_le {α : Type} (f : α → List Int) (l : List α) (i : Nat) : ((l.take i).flatMap f).length ≤ (l.flatMap f).length := by
 have := congrArg List.length (congrArg (List.flatMap f) (List.take_append_drop i l))
 rw [List.flatMap_append,List.length_append] at this; omega
theorem ListT.at' {α : Type} {B : Nat} {T : TypeId} {E : World → List Value → α → Prop} {w : World} {v : Value} {l : List α} (h : ListT B T 1 E w v l) {i : Nat} (hi : i < l.length) :
  ∃ b off cap u,v = .slice (some ⟨b,off,none⟩) l.length cap ∧ b < B ∧ (∀ w',Below B w w' → w'.cell? ⟨b,off + i,none⟩ = some u) ∧ E w [u] l[i] := by
 obtain ⟨b,off,cap,c,h1,h2,h3,h4,h5⟩ := (h.listB (fun _ _ h => h)).at hi (by decide)
 match c,h3 with
 | [u],_ =>
  refine ⟨b,off,cap,u,h1,h2,fun w' hb => ?_,h5⟩
  have := h4 w' hb 0 u rfl
  rwa [Nat.mul_one,Nat.add_zero] at this
set_option maxRecDepth 8000 in
set_option maxHeartbeats 1000000 in
theorem encode_c (K : List Int) (w : World) (B g bf : Nat) (hBw : B ≤ w.heap.size) (hBg : B ≤ g) (hBb : B ≤ bf) (h : WSt K w g bf []) (pv : Int) (D : Nat) (t : Tx) (d : List Value) (ht : t.Ok) (hs : t.Small) (hD : Blk w D 227 d) (hE : MsgTxT B w d t) (hDB : D < B) (hlen : (txB t).length ≤ 5000000) :
  Calls Tryz.prog 170 #[.pointer (some ⟨D,0,none⟩),.iface 296 (.pointer (some ⟨g,0,none⟩)),.int .u32 pv,.int .u32 1,.slice (some ⟨bf,0,none⟩) 8 8] w fun e w' => e = .returned .nilIface ∧ Fr [g,bf] w w' ∧ WSt K w' g bf (txB t) := by
 obtain ⟨iv,ov,rfl,hi,ho⟩ := hE
 obtain ⟨ai,ci,rfl,hi1,hi2⟩ := (hi.listB (fun _ _ h => h)).len
 obtain ⟨ao,co,rfl,ho1,ho2⟩ := (ho.listB (fun _ _ h => h)).len
 clear hi1 hi2 ho1 ho2
 have HI := hid hi; clear hi
 have HO := hid ho; clear ho
 have Ht := hid ht; clear ht
 have Hs := hid hs; clear hs
 have Hw := hid h; clear h
 have Hlen := hid hlen; clear hlen
 have hah := write_ahead g
 have hS : ∀ (w1 w2 : World),Fr [g,bf] w1 w2 → B ≤ w1.heap.size → Below B w1 w2 := fun _ _ hf hb => hf.belowB hb (by intro k hk; simp at hk; rcases hk with rfl | rfl <;> assumption)
 have HS := hid hS; clear hS
 have hDg : D ≠ g := by omega
 have hDb : D ≠ bf := by omega
 have HDg := hid hDg; clear hDg
 have HDb := hid hDb; clear hDb
 have hcD : ∀ w',Fr [g,bf] w w' → Blk w' D 227 [.int .i32 t.version,.slice ai t.ins.length ci,.slice ao t.outs.length co,.int .u32 t.lock] := fun w' hf => hD.fr hf (by simp; exact ⟨HDg.out,HDb.out⟩)
 have HcD := hid hcD; clear hcD hD
 have cI : ∀ w',Fr [g,bf] w w' → w'.cell? ⟨D,0,none⟩ = some (.int .i32 t.version) := fun w' hf => (HcD.out w' hf).cell_at rfl
 have HcI := hid cI; clear cI
 go_enter Tryz.func170,Tryz.ntmps170
 go_upto_region 1 with fail
 refine seg_begin (fun w' => Fr [g,bf] w w') (by kernel_rfl) ?_
 refine seg_quiet (fuel := 1) (by kernel_rfl) (fun d _ _ _ _ h => by cases d <;> exact h) ((Fr.refl _ _).drew) [0,1,2,3,4,5,6,7] _ _ (by kernel_rfl) ?_
 simp only [pickL,nthO]
 refine wpQuiet_load rfl 318 (.global 0) rfl _ 0 rfl [] _ (fun w' hf j v h => by simp at h) rfl rfl (by kernel_rfl) ?_
 simp only [Act.put,nA,nB,nC]
 refine wpQuiet_rfl (.slice (some ⟨bf,0,none⟩) 8 8) rfl (fun _ => rfl) ?_
 simp only [Act.put,nA,nB,nC]
 refine wpQuiet_slcK_h (hi := 4) rfl 29 (.tmp 25) _ rfl 5 (by kernel_rfl) (by kernel_rfl) bf 0 8 8 .i64 rfl rfl (by decide) (by decide) ?_
 simp only [Act.put,nA,nB,nC]
 iterate 5 go_big_quiet_step (((intro hw; first | with_reducible rfl | rfl | (simp [HcI.out _ hw,Result.andThen]; done) | (simp [HcI.out _ hw,Result.andThen]; rfl))))
 refine wpQuiet_nil ?_
 refine seg_act 8 rfl rfl (by kernel_rfl) ?_
 go_wp2_with fail
 refine (put4_c (Hw.out.grow (Fr.refl _ _).drew) (t.version % 4294967296) 4).mono ?_
 rintro e w' ⟨rfl,hf,hb⟩
 have HFw1 : Hid (Fr [g,bf] w w') := (Fr.refl _ _).drew.trans (hf.mono (by simp))
 have Hw1 := hid hb
 clear hf hb
 obtain ⟨w1,hw1⟩ : ∃ w1,w1 = w' := ⟨_,rfl⟩
 rw [← hw1] at HFw1 Hw1 ⊢
 clear hw1
 go_wp2_with fail
 refine ⟨HFw1.out,fun _ => ?_⟩
 refine seg_end (by kernel_rfl) ?_
 go_upto_region 2 with fail
 refine seg_begin (fun w' => Fr [g,bf] w1 w') (by kernel_rfl) ?_
 refine seg_quiet (fuel := 6) (by kernel_rfl) (fun d _ _ _ _ h => by cases d <;> exact h) ((Fr.refl _ _).drew) [0,1,2,3,4,5] _ _ (by kernel_rfl) ?_
 simp only [pickL,nthO]
 refine wpQuiet_rfl (.iface 296 (.pointer (some ⟨g,0,none⟩))) rfl (fun _ => rfl) ?_
 simp only [Act.put,nA,nB,nC]
 refine wpQuiet_rfl (.slice (some ⟨bf,0,none⟩) 8 8) rfl (fun _ => rfl) ?_
 simp only [Act.put,nA,nB,nC]
 refine wpQuiet_slcK_h (hi := 4) rfl 29 (.tmp 35) _ rfl 5 (by kernel_rfl) (by kernel_rfl) bf 0 8 8 .i64 rfl rfl (by decide) (by decide) ?_
 simp only [Act.put,nA,nB,nC]
 iterate 2 go_big_quiet_step (((intro hw; first | with_reducible rfl | rfl | (simp [Result.andThen]; done) | (simp [Result.andThen]; rfl))))
 refine wpQuiet_rfl (.iface 296 (.pointer (some ⟨g,0,none⟩))) rfl (fun _ => rfl) ?_
 simp only [Act.put,nA,nB,nC]
 refine wpQuiet_nil ?_
 refine seg_act 6 rfl rfl (by kernel_rfl) ?_
 go_wp2_with fail
 refine (wrW_c (Hw1.out.grow (Fr.refl _ _).drew) (q := le 4 (t.version % 4294967296)) (by rw [le_length]; exact ⟨by decide,by decide⟩)).mono ?_
 rintro e w' ⟨rfl,hf,hb⟩
 have HFw2 : Hid (Fr [g,bf] w1 w') := (Fr.refl _ _).drew.trans (hf.mono (by simp))
 have Hw2 := hid hb
 clear hf hb
 obtain ⟨w2,hw2⟩ : ∃ w2,w2 = w' := ⟨_,rfl⟩
 rw [← hw2] at HFw2 Hw2 ⊢
 clear hw2
 go_wp2_with fail
 refine ⟨HFw2.out,fun _ => ?_⟩
 refine seg_quiet (fuel := 0) (by kernel_rfl) (fun d _ _ _ _ h => by cases d <;> exact h) HFw2.out [7,8,9,10,11] _ _ (by kernel_rfl) ?_
 simp only [pickL,nthO]
 iterate 5 go_big_quiet_step (((intro hw; first | with_reducible rfl | rfl | (simp [Result.andThen]; done) | (simp [Result.andThen]; rfl))))
 refine wpQuiet_nil ?_
 refine seg_end (by kernel_rfl) ?_
 have HFA : Hid (Fr [g,bf] w w2) := HFw1.out.trans HFw2.out
 have HD2 := HcD.out w2 HFA.out
 have c1 : w2.cell? ⟨D,1,none⟩ = some (.slice ai t.ins.length ci) := HD2.cell_at rfl
 have hl2 := HD2.lt
 have hi6 : (t.ins.length : Int) ≤ 1000000 := by have := Hs.out.ins; omega
 have ho6 : (t.outs.length : Int) ≤ 1000000 := by have := Hs.out.outs; omega
 clear HD2
 go_wp2_with fail
 refine (varint_c K w2 g bf _ Hw2.out pv t.ins.length Hs.out.ins (by simp [le_length])).mono ?_
 rintro e w3 ⟨rfl,hf,hb⟩
 have HFB : Hid (Fr [g,bf] w w3) := HFA.out.trans hf
 have Hw3 := hid hb
 clear hf hb c1 hl2
 have HD3 := HcD.out w3 HFB.out
 have c1 : w3.cell? ⟨D,1,none⟩ = some (.slice ai t.ins.length ci) := HD3.cell_at rfl
 have hl2 := HD3.lt
 clear HD3
 go_wp2_with fail
 go_loopg [81] (t.ins.length) (fun gk v wr => ∃ i,gk = t.ins.length - i ∧ i ≤ t.ins.length ∧ v = .int .i64 (i : Int) ∧ Fr [g,bf] w wr ∧ WSt K wr g bf ([] ++ le 4 (t.version % 4294967296) ++ vint t.ins.length ++ (t.ins.take i).flatMap inB))
 case atStart => exact ⟨0,rfl,Nat.zero_le _,rfl,HFB.out,by simpa using Hw3.out⟩
 case round =>
  clear HFB Hw3 c1 hl2
  obtain ⟨i,rfl,hi,rfl,hf,hw⟩ := hrel
  have HF := hid hf
  have Hw' := hid hw
  clear hf hw
  by_cases hlt : i < t.ins.length
  ·have hlti : (i : Int) < t.ins.length := by omega
   obtain ⟨b,off,cap',u,he,hbB,hrg,hE⟩ := HI.out.at' hlt
   simp only [Value.slice.injEq] at he
   obtain ⟨rfl,_,rfl⟩ := he
   obtain ⟨G,dg,hu,hG,hGb,hGE⟩ := hE
   simp only [List.cons.injEq,and_true] at hu
   subst hu
   have hBl : Below B w wr := HS.out w wr HF.out hBw
   have e1 := hrg wr hBl
   have HGb : Hid (Blk wr G 233 dg) := hGb.below hBl hG
   have HGE : Hid (TxInT B wr dg t.ins[i]) := hGE.below hBl
   have hDr := HcD.out wr HF.out
   have c0 : wr.cell? ⟨D,0,none⟩ = some (.int .i32 t.version) := hDr.cell_at rfl
   have hl2 := hDr.lt
   have hbl : b < wr.heap.size := Nat.lt_of_lt_of_le hbB (Nat.le_trans hBw HF.out.size)
   have hii : (i : Int) ≤ 1000000 := by omega
   clear hrg hGb hGE hDr hBl
   have HM : Hid (([] ++ le 4 (t.version % 4294967296) ++ vint t.ins.length ++ (t.ins.take i).flatMap inB).length ≤ 10000000) := by
    have h1 := Hlen.out
    have h2 := flatMap_take_le inB t.ins i
    show _ ≤ _
    simp only [txB,List.length_append,List.nil_append] at h1 ⊢
    omega
   go_wp2_with fail
   refine (txinW_c K wr B g bf (Nat.le_trans hBw HF.out.size) hBg hBb _ Hw'.out pv t.version G t.ins[i] dg (Ht.out.ins _ (List.getElem_mem hlt)).prev (Hs.out.script _ (List.getElem_mem hlt)) HGb.out HGE.out hG HM.out).mono ?_
   rintro e w4 ⟨rfl,hf,hb⟩
   have HF4 : Hid (Fr [g,bf] w w4) := HF.out.trans hf
   have Hw4 : Hid (WSt K w4 g bf ([] ++ le 4 (t.version % 4294967296) ++ vint t.ins.length ++ (t.ins.take (i + 1)).flatMap inB)) := by
    rw [flatMap_take_succ inB t.ins i hlt,← List.append_assoc]; exact hb
   clear hf hb e1 c0 hl2
   go_wp2_with fail
   go_roundg (t.ins.length - (i + 1))
   case measure => omega
   case rel => exact ⟨i + 1,rfl,by omega,by simp,HF4.out,Hw4.out⟩
  ·have hie : i = t.ins.length := by omega
   have Hw5 : Hid (WSt K wr g bf ([] ++ le 4 (t.version % 4294967296) ++ vint t.ins.length ++ t.ins.flatMap inB)) := by have := Hw'.out; rwa [hie,List.take_length] at this
   clear hie
   have hDr := HcD.out wr HF.out
   have c1 : wr.cell? ⟨D,2,none⟩ = some (.slice ao t.outs.length co) := hDr.cell_at rfl
   have hl2 := hDr.lt
   clear hDr
   have HM : Hid (([] ++ le 4 (t.version % 4294967296) ++ vint t.ins.length ++ t.ins.flatMap inB).length ≤ 100000000) := by
    have h1 := Hlen.out
    show _ ≤ _
    simp only [txB,List.length_append,List.nil_append] at h1 ⊢
    omega
   go_wp2_with fail
   refine (varint_c K wr g bf _ Hw5.out pv t.outs.length Hs.out.outs HM.out).mono ?_
   rintro e w6 ⟨rfl,hf,hb⟩
   have HF6 : Hid (Fr [g,bf] w w6) := HF.out.trans hf
   have Hw6 := hid hb
   clear hf hb c1 hl2
   have HD3 := HcD.out w6 HF6.out
   have c1 : w6.cell? ⟨D,2,none⟩ = some (.slice ao t.outs.length co) := HD3.cell_at rfl
   have hl2 := HD3.lt
   clear HD3 HM
   go_wp2_with fail
   go_loopg [117] (t.outs.length) (fun gk v wr => ∃ i,gk = t.outs.length - i ∧ i ≤ t.outs.length ∧ v = .int .i64 (i : Int) ∧ Fr [g,bf] w wr ∧ WSt K wr g bf (([] ++ le 4 (t.version % 4294967296) ++ vint t.ins.length ++ t.ins.flatMap inB) ++ vint t.outs.length ++ (t.outs.take i).flatMap outB))
   case atStart => exact ⟨0,rfl,Nat.zero_le _,rfl,HF6.out,by simpa using Hw6.out⟩
   case round =>
    clear HF6 Hw6 c1 hl2
    obtain ⟨i,rfl,hi,rfl,hf,hw⟩ := hrel
    have HF := hid hf
    have Hw' := hid hw
    clear hf hw
    by_cases hlt : i < t.outs.length
    ·have hlti : (i : Int) < t.outs.length := by omega
     obtain ⟨b,off,cap',u,he,hbB,hrg,hE⟩ := HO.out.at' hlt
     simp only [Value.slice.injEq] at he
     obtain ⟨rfl,_,rfl⟩ := he
     obtain ⟨G,dg,hu,hG,hGb,hGE⟩ := hE
     simp only [List.cons.injEq,and_true] at hu
     subst hu
     have hBl : Below B w wr := HS.out w wr HF.out hBw
     have e1 := hrg wr hBl
     have HGb : Hid (Blk wr G 236 dg) := hGb.below hBl hG
     have HGE : Hid (TxOutT B wr dg t.outs[i]) := hGE.below hBl
     have hDr := HcD.out wr HF.out
     have c0 : wr.cell? ⟨D,0,none⟩ = some (.int .i32 t.version) := hDr.cell_at rfl
     have hl2 := hDr.lt
     have hbl : b < wr.heap.size := Nat.lt_of_lt_of_le hbB (Nat.le_trans hBw HF.out.size)
     have hii : (i : Int) ≤ 1000000 := by omega
     clear hrg hGb hGE hDr hBl
     have HM : Hid ((([] ++ le 4 (t.version % 4294967296) ++ vint t.ins.length ++ t.ins.flatMap inB) ++ vint t.outs.length ++ (t.outs.take i).flatMap outB).length ≤ 10000000) := by
      have h1 := Hlen.out
      have h2 := flatMap_take_le outB t.outs i
      show _ ≤ _
      simp only [txB,List.length_append,List.nil_append] at h1 ⊢
      omega
     go_wp2_with fail
     refine (txoutW_c K wr B g bf (Nat.le_trans hBw HF.out.size) hBg hBb _ Hw'.out pv t.version G t.outs[i] dg (Hs.out.oscript _ (List.getElem_mem hlt)) HGb.out HGE.out hG HM.out).mono ?_
     rintro e w4 ⟨rfl,hf,hb⟩
     have HF4 : Hid (Fr [g,bf] w w4) := HF.out.trans hf
     have Hw4 : Hid (WSt K w4 g bf (([] ++ le 4 (t.version % 4294967296) ++ vint t.ins.length ++ t.ins.flatMap inB) ++ vint t.outs.length ++ (t.outs.take (i + 1)).flatMap outB)) := by
      rw [flatMap_take_succ outB t.outs i hlt,← List.append_assoc]; exact hb
     clear hf hb e1 c0 hl2
     go_wp2_with fail
     go_roundg (t.outs.length - (i + 1))
     case measure => omega
     case rel => exact ⟨i + 1,rfl,by omega,by simp,HF4.out,Hw4.out⟩
    ·have hie : i = t.outs.length := by omega
     have Hw5 : Hid (WSt K wr g bf (([] ++ le 4 (t.version % 4294967296) ++ vint t.ins.length ++ t.ins.flatMap inB) ++ vint t.outs.length ++ t.outs.flatMap outB)) := by have := Hw'.out; rwa [hie,List.take_length] at this
     clear hie
     have cL : ∀ w',Fr [g,bf] wr w' → w'.cell? ⟨D,3,none⟩ = some (.int .u32 t.lock) := fun w' hf => (HcD.out w' (HF.out.trans hf)).cell_at rfl
     have HcL := hid cL; clear cL
     have HM : Hid ((([] ++ le 4 (t.version % 4294967296) ++ vint t.ins.length ++ t.ins.flatMap inB) ++ vint t.outs.length ++ t.outs.flatMap outB).length ≤ 100000000) := by
      have h1 := Hlen.out
      show _ ≤ _
      simp only [txB,List.length_append,List.nil_append] at h1 ⊢
      omega
     obtain ⟨msg2,hmsg2⟩ : ∃ m,m = ([] ++ le 4 (t.version % 4294967296) ++ vint t.ins.length ++ t.ins.flatMap inB) ++ vint t.outs.length ++ t.outs.flatMap outB := ⟨_,rfl⟩
     rw [← hmsg2] at Hw5 HM
     have Hmsg2 := hid hmsg2; clear hmsg2
     have Hwr := Hw5
     go_upto_region 40 with fail
     refine seg_begin (fun w' => Fr [g,bf] wr w') (by kernel_rfl) ?_
     refine seg_quiet (fuel := 1) (by kernel_rfl) (fun d _ _ _ _ h => by cases d <;> exact h) ((Fr.refl _ _).drew) [0,1,2,3,4,5,6] _ _ (by kernel_rfl) ?_
     simp only [pickL,nthO]
     refine wpQuiet_load rfl 318 (.global 0) rfl _ 0 rfl [] _ (fun w' hf j v h => by simp at h) rfl rfl (by kernel_rfl) ?_
     simp only [Act.put,nA,nB,nC]
     refine wpQuiet_rfl (.slice (some ⟨bf,0,none⟩) 8 8) rfl (fun _ => rfl) ?_
     simp only [Act.put,nA,nB,nC]
     refine wpQuiet_slcK_h (hi := 4) rfl 29 (.tmp 161) _ rfl 5 (by kernel_rfl) (by kernel_rfl) bf 0 8 8 .i64 rfl rfl (by decide) (by decide) ?_
     simp only [Act.put,nA,nB,nC]
     iterate 4 go_big_quiet_step (((intro hw; first | with_reducible rfl | rfl | (simp [HcL.out _ hw,Result.andThen]; done) | (simp [HcL.out _ hw,Result.andThen]; rfl))))
     refine wpQuiet_nil ?_
     refine seg_act 7 rfl rfl (by kernel_rfl) ?_
     go_wp2_with fail
     refine (put4_c (Hwr.out.grow (Fr.refl _ _).drew) t.lock 4).mono ?_
     rintro e w' ⟨rfl,hf,hb⟩
     have HFw7 : Hid (Fr [g,bf] wr w') := (Fr.refl _ _).drew.trans (hf.mono (by simp))
     have Hw7 := hid hb
     clear hf hb
     obtain ⟨w7,hw7⟩ : ∃ w7,w7 = w' := ⟨_,rfl⟩
     rw [← hw7] at HFw7 Hw7 ⊢
     clear hw7
     go_wp2_with fail
     refine ⟨HFw7.out,fun _ => ?_⟩
     refine seg_end (by kernel_rfl) ?_
     go_upto_region 41 with fail
     refine seg_begin (fun w' => Fr [g,bf] w7 w') (by kernel_rfl) ?_
     refine seg_quiet (fuel := 5) (by kernel_rfl) (fun d _ _ _ _ h => by cases d <;> exact h) ((Fr.refl _ _).drew) [0,1,2,3,4,5] _ _ (by kernel_rfl) ?_
     simp only [pickL,nthO]
     refine wpQuiet_rfl (.iface 296 (.pointer (some ⟨g,0,none⟩))) rfl (fun _ => rfl) ?_
     simp only [Act.put,nA,nB,nC]
     refine wpQuiet_rfl (.slice (some ⟨bf,0,none⟩) 8 8) rfl (fun _ => rfl) ?_
     simp only [Act.put,nA,nB,nC]
     refine wpQuiet_slcK_h (hi := 4) rfl 29 (.tmp 170) _ rfl 5 (by kernel_rfl) (by kernel_rfl) bf 0 8 8 .i64 rfl rfl (by decide) (by decide) ?_
     simp only [Act.put,nA,nB,nC]
     iterate 2 go_big_quiet_step (((intro hw; first | with_reducible rfl | rfl | (simp [Result.andThen]; done) | (simp [Result.andThen]; rfl))))
     refine wpQuiet_rfl (.iface 296 (.pointer (some ⟨g,0,none⟩))) rfl (fun _ => rfl) ?_
     simp only [Act.put,nA,nB,nC]
     refine wpQuiet_nil ?_
     refine seg_act 6 rfl rfl (by kernel_rfl) ?_
     go_wp2_with fail
     refine (wrW_c (Hw7.out.grow (Fr.refl _ _).drew) (q := le 4 t.lock) (by rw [le_length]; exact ⟨by decide,HM.out⟩)).mono ?_
     rintro e w' ⟨rfl,hf,hb⟩
     have HFw8 : Hid (Fr [g,bf] w7 w') := (Fr.refl _ _).drew.trans (hf.mono (by simp))
     have Hw8 := hid hb
     clear hf hb
     obtain ⟨w8,hw8⟩ : ∃ w8,w8 = w' := ⟨_,rfl⟩
     rw [← hw8] at HFw8 Hw8 ⊢
     clear hw8
     go_wp2_with fail
     refine ⟨HFw8.out,fun _ => ?_⟩
     refine seg_quiet (fuel := 0) (by kernel_rfl) (fun d _ _ _ _ h => by cases d <;> exact h) HFw8.out [7,8,9,10] _ _ (by kernel_rfl) ?_
     simp only [pickL,nthO]
     iterate 4 go_big_quiet_step (((intro hw; first | with_reducible rfl | rfl | (simp [Result.andThen]; done) | (simp [Result.andThen]; rfl))))
     refine wpQuiet_nil ?_
     refine seg_end (by kernel_rfl) ?_
     go_wp2_with fail
     go_ret
     refine ⟨rfl,(HF.out.trans HFw7.out).trans HFw8.out, ?_⟩
     have := Hw8.out
     rw [Hmsg2.out] at this
     simpa [txB,List.append_assoc] using this
theorem return_d (u : FrameMode) (w : World) (y : Value) : CallsD Tryz.prog 169 #[.agg #[],y] u w fun e u' w' => u' = u ∧ (e = .returned (.tuple #[]) ∧ Fr [] w w') := by
 go_enter_d Tryz.func169,Tryz.ntmps169
 go_wp2_with fail
 go_end0
 exact ⟨rfl,(Fr.refl _ _).alloc _⟩
set_option maxRecDepth 8000 in
theorem borrow_c (w : World) : Calls Tryz.prog 168 #[.agg #[]] w fun e w' => ∃ bf,e = .returned (.slice (some ⟨bf,0,none⟩) 8 8) ∧ Fr [] w w' ∧ w.heap.size ≤ bf ∧ Blk w' bf 5 (ic .u8 (List.replicate 8 0)) := by
 go_enter Tryz.func168,Tryz.ntmps168
 go_upto_region 1 with fail
 have HF0 : Hid (Fr [] w (w.alloc (.cells #[] 344))) := (Fr.refl _ _).alloc _
 generalize World.alloc w _ = w1 at HF0 ⊢
 refine wp_region_lit ?_
 refine wpList_make rfl 29 _ _ rfl 5 (.int .u8 0) 1 made5 (by kernel_rfl) .i64 .i64 8 8 rfl rfl (by decide) (by decide) (by decide) ?_
 have HF1 : Hid (Fr [] w1 (w1.alloc (.cells (List.replicate 8 (Value.int .u8 0)).toArray 5))) := (Fr.refl _ _).alloc _
 have HB1 : Hid (Blk (w1.alloc (.cells (List.replicate 8 (Value.int .u8 0)).toArray 5)) w1.heap.size 5 (ic .u8 (List.replicate 8 0))) := Blk.new w1 (ic .u8 (List.replicate 8 0)) 5
 generalize World.alloc w1 _ = w2 at HF1 HB1 ⊢
 go_wp2_with fail
 go_ret
 exact ⟨_,rfl,HF0.out.trans HF1.out,HF0.out.size,HB1.out⟩
/-- A digest that takes a transaction's bytes. -/
def BteR (K : List Int) (t : Tx) (w : World) (g : Nat) (e : Ending) (w' : World) : Prop := e = .returned .nilIface ∧ Fr [g] w w' ∧ DigAt K w' g (txB t)
set_option maxRecDepth 8000 in
theorem bte_c (K : List Int) (hK : K.length = 64) (w : World) (B g : Nat) (hBw : B ≤ w.heap.size) (hBg : B ≤ g) (hg1 : g ≠ 1) (hKc : Blk w 1 379 (ic .u32 K)) (hd : DigAt K w g []) (pv : Int) (D : Nat) (t : Tx) (d : List Value) (ht : t.Ok) (hs : t.Small) (hD : Blk w D 227 d) (hE : MsgTxT B w d t) (hDB : D < B) (hlen : (txB t).length ≤ 5000000) :
  Calls Tryz.prog 147 #[.pointer (some ⟨D,0,none⟩),.iface 296 (.pointer (some ⟨g,0,none⟩)),.int .u32 pv,.int .u32 1] w (BteR K t w g) := by
 have HE := hid hE; clear hE
 have HD := hid hD; clear hD
 have Ht := hid ht; clear ht
 have Hs := hid hs; clear hs
 have HKc := hid hKc; clear hKc
 have Hd := hid hd; clear hd
 have Hlen := hid hlen; clear hlen
 have HKl := hid hK; clear hK
 go_enter_defers Tryz.func147,Tryz.ntmps147
 go_wp2_with fail
 refine (borrow_c w).mono ?_
 rintro e w1 ⟨bf,rfl,hf,hbf,hb⟩
 have HF1 := hid hf
 have HW1 : Hid (WSt K w1 g bf []) := ⟨HKc.out.fr hf (by simp),HKl.out,hg1,Hd.out.fr hf (by simp),⟨_,by simp,hb⟩⟩
 have HBb : Hid (B ≤ bf) := Nat.le_trans hBw hbf
 have HBf := hid hbf
 clear hf hb hbf
 go_wp2_with fail
 refine (encode_c K w1 B g bf (Nat.le_trans hBw HF1.out.size) hBg HBb.out HW1.out pv D t d Ht.out Hs.out (HD.out.fr HF1.out (by simp)) (HE.out.below (HF1.out.below.mono hBw)) hDB Hlen.out).mono ?_
 rintro e w2 ⟨rfl,hf,hw⟩
 have HF2 := hid hf
 have HW2 := hid hw
 clear hf hw
 go_wp2_with fail
 refine leaves_cons (f := 169) (args := #[.agg #[],.slice (some ⟨bf,0,none⟩) 8 8]) (by simp) (by simp [go_sem]) ?_
 refine (return_d .returning w2 _).mono ?_
 rintro e u' w3 ⟨rfl,rfl,hf⟩
 refine ⟨_,results_tmp rfl _ _ _,rfl, ?_,HW2.out.dig.fr hf (by simp)⟩
 exact ((HF1.out.mono (S' := [g]) (by simp)).andThen HF2.out (by intro k hk; simp at hk; rcases hk with rfl | rfl; { left; simp }; right; exact HBf.out)).trans (hf.mono (by simp))
theorem serialize_c (K : List Int) (hK : K.length = 64) (w : World) (B g : Nat) (hBw : B ≤ w.heap.size) (hBg : B ≤ g) (hg1 : g ≠ 1) (hKc : Blk w 1 379 (ic .u32 K)) (hd : DigAt K w g []) (D : Nat) (t : Tx) (d : List Value) (ht : t.Ok) (hs : t.Small) (hD : Blk w D 227 d) (hE : MsgTxT B w d t) (hDB : D < B) (hlen : (txB t).length ≤ 5000000) :
  Calls Tryz.prog 112 #[.pointer (some ⟨D,0,none⟩),.iface 296 (.pointer (some ⟨g,0,none⟩))] w (BteR K t w g) := by
 have H := hid (bte_c K hK w B g hBw hBg hg1 hKc hd 0 D t d ht hs hD hE hDB hlen)
 clear hE hD ht hs hKc hd hlen hK
 go_enter Tryz.func112,Tryz.ntmps112
 go_wp2_with fail
 refine H.out.mono ?_
 rintro e w' ⟨rfl,hf,hd⟩
 have HF := hid hf; clear hf
 have HD := hid hd; clear hd
 go_wp2_with fail
 go_ret
 exact ⟨rfl,HF.out,HD.out⟩
/-- A transaction's name. -/
def txH (K : List Int) (t : Tx) : List Int := H2 K (txB t)
set_option maxRecDepth 8000 in
set_option maxHeartbeats 1000000 in
theorem raw_c (K : List Int) (hK : K.length = 64) (w : World) (B : Nat) (hBw : B ≤ w.heap.size) (hKc : Blk w 1 379 (ic .u32 K)) (D : Nat) (t : Tx) (d : List Value) (ht : t.Ok) (hs : t.Small) (hD : Blk w D 227 d) (hE : MsgTxT B w d t) (hDB : D < B) (hlen : (txB t).length ≤ 5000000) :
  Calls Tryz.prog 80 #[.func (.func 112) #[.pointer (some ⟨D,0,none⟩)] #[]] w fun e w' => e = .returned (arr (txH K t)) ∧ Fr [] w w' := by
 have HE := hid hE; clear hE
 have HD := hid hD; clear hD
 have Ht := hid ht; clear ht
 have Hs := hid hs; clear hs
 have HKc := hid hKc; clear hKc
 have Hlen := hid hlen; clear hlen
 have HKl := hid hK; clear hK
 have h1w := HKc.out.lt
 go_enter Tryz.func80,Tryz.ntmps80
 go_wp2_with fail
 have HF1 : Hid (Fr [] w (w.alloc (.cells (ic .u8 (List.replicate 32 0)).toArray 81))) := (Fr.refl _ _).alloc _
 have HR1 : Hid (Blk (w.alloc (.cells (ic .u8 (List.replicate 32 0)).toArray 81)) w.heap.size 81 (ic .u8 (List.replicate 32 0))) := Blk.new _ _ _
 have hs1 : (w.alloc (.cells (ic .u8 (List.replicate 32 0)).toArray 81)).heap.size = w.heap.size + 1 := by simp
 refine Calls.mono (P := Tryz.prog) (w := w.alloc (.cells (ic .u8 (List.replicate 32 0)).toArray 81)) (new_c _) ?_
 generalize World.alloc w _ = w1 at HF1 HR1 hs1 ⊢
 rintro e w2 ⟨rfl,hf,hb⟩
 obtain ⟨g,hg⟩ : ∃ g,g = w1.heap.size := ⟨_,rfl⟩
 rw [← hg] at hb ⊢
 have HF2 : Hid (Fr [] w w2) := HF1.out.trans hf
 have HR2 : Hid (Blk w2 w.heap.size 81 (ic .u8 (List.replicate 32 0))) := HR1.out.fr hf (by simp)
 have HD2 := hid (DigAt.zero (K := K) hb)
 have hgw : w.heap.size < g := by omega
 have hg1 : g ≠ 1 := by omega
 clear hf hb hs1 HF1 HR1 hg
 go_wp2_with fail
 refine (serialize_c K HKl.out w2 B g (Nat.le_trans hBw HF2.out.size) (by omega) hg1 (HKc.out.fr HF2.out (by simp)) HD2.out D t d Ht.out Hs.out (HD.out.fr HF2.out (by simp)) (HE.out.below (HF2.out.below.mono hBw)) hDB Hlen.out).mono ?_
 rintro e w3 ⟨rfl,hf,hd⟩
 have HF3 : Hid (Fr [] w w3) := HF2.out.andThen hf (by intro k hk; simp at hk; subst hk; right; omega)
 have HR3 : Hid (Blk w3 w.heap.size 81 (ic .u8 (List.replicate 32 0))) := HR2.out.fr hf (by simp; omega)
 have HD3 := hid hd
 clear hf hd HF2 HR2 HD2
 go_upto_region 3 with fail
 refine wp_region_lit ?_
 refine wpList_make rfl 29 _ _ rfl 5 (.int .u8 0) 1 made5 (by kernel_rfl) .i64 .i64 0 32 rfl rfl (by decide) (by decide) (by decide) ?_
 have HF4 : Hid (Fr [] w (w3.alloc (.cells (List.replicate 32 (Value.int .u8 0)).toArray 5))) := HF3.out.alloc _
 have HR4 : Hid (Blk (w3.alloc (.cells (List.replicate 32 (Value.int .u8 0)).toArray 5)) w.heap.size 81 (ic .u8 (List.replicate 32 0))) := HR3.out.alloc _
 have HD4 : Hid (DigAt K (w3.alloc (.cells (List.replicate 32 (Value.int .u8 0)).toArray 5)) g (txB t)) := HD3.out.fr ((Fr.refl [] _).alloc _) (by simp)
 have HS4 : Hid (Blk (w3.alloc (.cells (List.replicate 32 (Value.int .u8 0)).toArray 5)) w3.heap.size 5 (ic .u8 (List.replicate 32 0))) := Blk.new w3 (ic .u8 (List.replicate 32 0)) 5
 obtain ⟨S,hS⟩ : ∃ S,S = w3.heap.size := ⟨_,rfl⟩
 rw [← hS] at HS4 ⊢
 have hSg : g < S := by
  obtain ⟨s,x,_,h⟩ := HD3.out
  have := h.lt
  omega
 have hSw : w.heap.size < S := by omega
 generalize World.alloc w3 _ = w4 at HF4 HR4 HD4 HS4 ⊢
 clear HF3 HR3 HD3 hS
 have hlen2 : (txB t).length < 2 ^ 60 := by have := Hlen.out; omega
 have Hlen2 := hid hlen2; clear hlen2
 go_wp2_with fail
 refine (sum_c K HKl.out w4 g S 5 (txB t) _ (HKc.out.fr HF4.out (by simp)) hg1 HD4.out Hlen2.out HS4.out (by simp)).mono ?_
 rintro e w5 ⟨rfl,hf,hb⟩
 have HF5 : Hid (Fr [] w w5) := HF4.out.andThen hf (by intro k hk; simp at hk; subst hk; right; omega)
 have HR5 : Hid (Blk w5 w.heap.size 81 (ic .u8 (List.replicate 32 0))) := HR4.out.fr hf (by simp; omega)
 have HD5 : Hid (DigAt K w5 g (txB t)) := HD4.out.fr hf (by simp; omega)
 have HS5 := hid hb
 clear hf hb HF4 HR4 HD4 HS4
 go_wp2_with fail
 obtain ⟨s,x,hds,hdb⟩ := HD5.out
 refine (reset_c w5 g s x _ _ hdb hds.len).mono ?_
 rintro e w6 ⟨rfl,hf,hb⟩
 have HF6 : Hid (Fr [] w w6) := HF5.out.andThen hf (by intro k hk; simp at hk; subst hk; right; omega)
 have HR6 : Hid (Blk w6 w.heap.size 81 (ic .u8 (List.replicate 32 0))) := HR5.out.fr hf (by simp; omega)
 have HD6 : Hid (DigAt K w6 g []) := ⟨iv,x,DSt.zero K x hds.len,hb⟩
 have HS6 : Hid (Blk w6 S 5 (ic .u8 (sha K (txB t)))) := HS5.out.fr hf (by simp; omega)
 clear hf hb HF5 HR5 HD5 HS5 hds hdb
 go_wp2_with fail
 have hin : Bytes w6 (.slice (some ⟨S,0,none⟩) 32 32) (sha K (txB t)) := by have := ints_whole HS6.out (by rw [sha_length]; decide); rwa [sha_length] at this
 refine (write_c K HKl.out w6 g [] (sha K (txB t)) _ (HKc.out.fr HF6.out (by simp)) hg1 HD6.out hin (by intro b off n cap h _; cases h; omega) (by rw [sha_length]; decide)).mono ?_
 rintro e w7 ⟨rfl,hf,hd⟩
 have HF7 : Hid (Fr [] w w7) := HF6.out.andThen hf (by intro k hk; simp at hk; subst hk; right; omega)
 have HR7 : Hid (Blk w7 w.heap.size 81 (ic .u8 (List.replicate 32 0))) := HR6.out.fr hf (by simp; omega)
 have HD7 : Hid (DigAt K w7 g (sha K (txB t))) := hd
 have HS7 : Hid (Blk w7 S 5 (ic .u8 (sha K (txB t)))) := HS6.out.fr hf (by simp; omega)
 clear hf hd hin HF6 HR6 HD6 HS6
 go_wp2_with fail
 refine (sum_c K HKl.out w7 g S 5 (sha K (txB t)) _ (HKc.out.fr HF7.out (by simp)) hg1 HD7.out (by rw [sha_length]; decide) HS7.out (by rw [sha_length])).mono ?_
 rintro e w8 ⟨rfl,hf,hb⟩
 have HF8 : Hid (Fr [] w w8) := HF7.out.andThen hf (by intro k hk; simp at hk; subst hk; right; omega)
 have HR8 : Hid (Blk w8 w.heap.size 81 (ic .u8 (List.replicate 32 0))) := HR7.out.fr hf (by simp; omega)
 have HS8 : Hid (Blk w8 S 5 (ic .u8 (txH K t))) := hb
 clear hf hb HF7 HR7 HD7 HS7
 go_upto_region 8 with fail
 refine wp_region_lit ?_
 refine wpList_run (v := .slice (some ⟨S,0,none⟩) 32 32) rfl rfl ?_
 simp only [Act.put,nA,nB,nC]
 refine wpList_run (v := .pointer (some ⟨S,0,none⟩)) rfl rfl ?_
 simp only [Act.put,nA,nB,nC]
 refine wpList_run (v := .pointer (some ⟨S,0,none⟩)) rfl rfl ?_
 simp only [Act.put,nA,nB,nC]
 have htl : (txH K t).length = 32 := H2_length _ _
 refine wpList_load_mid rfl 81 (.tmp 25) rfl S 0 rfl (ic .u8 (txH K t)) (.array 32 5) HS8.out.range rfl rfl (by rw [ic_length,htl]; kernel_rfl) ?_
 simp only [Act.put,nA,nB,nC]
 refine wpList_store_mid rfl 81 (.tmp 2) (.tmp 26) rfl w.heap.size 0 (ic .u8 (txH K t)).toArray rfl rfl (HR8.out.there (by simp [htl])) (by rw [List.size_toArray,ic_length,htl]; kernel_rfl) (all_oneCell_toArray (ic_one _ _)) ?_
 simp only [Act.put,nA,nB,nC]
 have HR9 : Hid (Blk (w8.setCells w.heap.size 0 (ic .u8 (txH K t)).toArray.toList) w.heap.size 81 (ic .u8 (txH K t))) := HR8.out.putAll _ (by simp [htl])
 have HF9 : Hid (Fr [] w (w8.setCells w.heap.size 0 (ic .u8 (txH K t)).toArray.toList)) := ((HF8.out.mono (by simp)).trans (fr_setCells (S := [w.heap.size]) (by simp) _ _ _ (Fr.refl _ _))).drop (by simp)
 generalize World.setCells _ _ _ _ = w9 at HR9 HF9 ⊢
 refine wpList_nil ?_
 refine (‹∀ (a : Act) (w : World),Code.wp Tryz.prog Code.ret _ a w → _›) _ _ ?_
 refine wp_ret ?_
 refine ret_arr rfl rfl (.array 32 5) HR9.out rfl rfl (by rw [htl]; kernel_rfl) rfl ?_
 exact ⟨rfl,HF9.out⟩
set_option maxRecDepth 8000 in
theorem txhash_c (K : List Int) (hK : K.length = 64) (w : World) (B : Nat) (hBw : B ≤ w.heap.size) (hKc : Blk w 1 379 (ic .u32 K)) (D : Nat) (t : Tx) (d : List Value) (ht : t.Ok) (hs : t.Small) (hD : Blk w D 227 d) (hE : MsgTxT B w d t) (hDB : D < B) (hlen : (txB t).length ≤ 5000000) :
  Calls Tryz.prog 77 #[.pointer (some ⟨D,0,none⟩)] w fun e w' => e = .returned (arr (txH K t)) ∧ Fr [] w w' := by
 have HE := hid hE; clear hE
 have HD := hid hD; clear hD
 have Ht := hid ht; clear ht
 have Hs := hid hs; clear hs
 have HKc := hid hKc; clear hKc
 have Hlen := hid hlen; clear hlen
 have HKl := hid hK; clear hK
 go_enter Tryz.func77,Tryz.ntmps77
 go_wp2_with fail
 have HF1 : Hid (Fr [] w (w.alloc (.cells (ic .u8 (List.replicate 32 0)).toArray 81))) := (Fr.refl _ _).alloc _
 have HR1 : Hid (Blk (w.alloc (.cells (ic .u8 (List.replicate 32 0)).toArray 81)) w.heap.size 81 (ic .u8 (List.replicate 32 0))) := Blk.new _ _ _
 refine Calls.mono (P := Tryz.prog) (w := w.alloc (.cells (ic .u8 (List.replicate 32 0)).toArray 81)) (raw_c K HKl.out _ B (Nat.le_trans hBw HF1.out.size) (HKc.out.fr HF1.out (by simp)) D t d Ht.out Hs.out (HD.out.fr HF1.out (by simp)) (HE.out.below (HF1.out.below.mono hBw)) hDB Hlen.out) ?_
 generalize World.alloc w _ = w1 at HF1 HR1 ⊢
 rintro e w8 ⟨rfl,hf⟩
 have HF8 : Hid (Fr [] w w8) := HF1.out.trans hf
 have HR8 : Hid (Blk w8 w.heap.size 81 (ic .u8 (List.replicate 32 0))) := HR1.out.fr hf (by simp)
 clear hf HF1 HR1
 simp only []
 refine (‹∀ (a : Act) (w : World),wpList Tryz.prog _ _ _ a w → _›) _ _ ?_
 have htl : (txH K t).length = 32 := H2_length _ _
 refine wpList_store_mid rfl 81 (.tmp 2) (.tmp 5) rfl w.heap.size 0 (ic .u8 (txH K t)).toArray rfl rfl (HR8.out.there (by simp [htl])) (by rw [List.size_toArray,ic_length,htl]; kernel_rfl) (all_oneCell_toArray (ic_one _ _)) ?_
 simp only [Act.put,nA,nB,nC]
 have HR9 : Hid (Blk (w8.setCells w.heap.size 0 (ic .u8 (txH K t)).toArray.toList) w.heap.size 81 (ic .u8 (txH K t))) := HR8.out.putAll _ (by simp [htl])
 have HF9 : Hid (Fr [] w (w8.setCells w.heap.size 0 (ic .u8 (txH K t)).toArray.toList)) := ((HF8.out.mono (by simp)).trans (fr_setCells (S := [w.heap.size]) (by simp) _ _ _ (Fr.refl _ _))).drop (by simp)
 generalize World.setCells _ _ _ _ = w9 at HR9 HF9 ⊢
 refine wpList_nil ?_
 refine (‹∀ (a : Act) (w : World),Code.wp Tryz.prog Code.ret _ a w → _›) _ _ ?_
 refine wp_ret ?_
 refine ret_arr rfl rfl (.array 32 5) HR9.out rfl rfl (by rw [htl]; kernel_rfl) rfl ?_
 exact ⟨rfl,HF9.out⟩
def SomeInt (w : World) (e : Ending) (w' : World) : Prop := ∃ n,e = .returned (.int .i64 n) ∧ Fr [] w w'
def vis (n : Int) : Int := if n < 253 then 1 else if n ≤ 65535 then 3 else if n ≤ 4294967295 then 5 else 9
theorem vis_c (w : World) (n : Int) : Calls Tryz.prog 69 #[.int .u64 n] w fun e w' => e = .returned (.int .i64 (vis n)) ∧ w' = w := by
 by_cases h1 : n < 253
 ·have hv : Hid (vis n = 1) := by show _ = _; rw [vis,if_pos h1]
  go_enter Tryz.func69,Tryz.ntmps69
  go_wp2_with fail
  go_ret
  exact ⟨congrArg (fun x => Ending.returned (.int .i64 x)) hv.out.symm,rfl⟩
 ·by_cases h2 : n ≤ 65535
  ·have hv : Hid (vis n = 3) := by show _ = _; rw [vis,if_neg h1,if_pos h2]
   go_enter Tryz.func69,Tryz.ntmps69
   go_wp2_with fail
   go_ret
   exact ⟨congrArg (fun x => Ending.returned (.int .i64 x)) hv.out.symm,rfl⟩
  ·by_cases h3 : n ≤ 4294967295
   ·have hv : Hid (vis n = 5) := by show _ = _; rw [vis,if_neg h1,if_neg h2,if_pos h3]
    go_enter Tryz.func69,Tryz.ntmps69
    go_wp2_with fail
    go_ret
    exact ⟨congrArg (fun x => Ending.returned (.int .i64 x)) hv.out.symm,rfl⟩
   ·have hv : Hid (vis n = 9) := by show _ = _; rw [vis,if_neg h1,if_neg h2,if_neg h3]
    go_enter Tryz.func69,Tryz.ntmps69
    go_wp2_with fail
    go_ret
    exact ⟨congrArg (fun x => Ending.returned (.int .i64 x)) hv.out.symm,rfl⟩
theorem inSize_c (w : World) (B D : Nat) (x : TxIn) (d : List Value) (hp : x.prev.Ok) (hD : Blk w D 233 d) (hE : TxInT B w d x) : Calls Tryz.prog 127 #[.pointer (some ⟨D,0,none⟩)] w (SomeInt w) := by
 obtain ⟨sv,wv,rfl,hsv,hwv⟩ := hE
 obtain ⟨a,c,rfl,hq1,hq2,hq3⟩ := hsv
 have c1 : w.cell? ⟨D,33,none⟩ = some (.slice a x.script.length c) := hD.cell_at (by rw [List.getElem?_append_right (by rw [OutP.cells_length hp]; omega),OutP.cells_length hp]; rfl)
 have hl := hD.lt
 clear hq1 hq2 hq3 hwv hD
 have Hp := hid hp; clear hp
 go_enter Tryz.func127,Tryz.ntmps127
 go_upto_region 1 with fail
 go_quiet ((exact Calls.quiet_of_same (vis_c _ _)))
 go_wp2_with fail
 go_ret
 exact ⟨_,rfl,(Fr.refl _ _).drewN _⟩
theorem outSize_c (w : World) (B D : Nat) (x : TxOut) (d : List Value) (hD : Blk w D 236 d) (hE : TxOutT B w d x) : Calls Tryz.prog 128 #[.pointer (some ⟨D,0,none⟩)] w (SomeInt w) := by
 obtain ⟨sv,rfl,hsv⟩ := hE
 obtain ⟨a,c,rfl,hq1,hq2,hq3⟩ := hsv
 have c1 : w.cell? ⟨D,1,none⟩ = some (.slice a x.script.length c) := hD.cell_at rfl
 have hl := hD.lt
 clear hq1 hq2 hq3 hD
 go_enter Tryz.func128,Tryz.ntmps128
 go_upto_region 1 with fail
 go_quiet ((exact Calls.quiet_of_same (vis_c _ _)))
 go_wp2_with fail
 go_ret
 exact ⟨_,rfl,(Fr.refl _ _).drewN _⟩
theorem witSize_c (w : World) (B : Nat) (hBw : B ≤ w.heap.size) (v : Value) (l : List (List Int)) (hv : ListT B 29 1 (BytT B) w v l) (hl : l.length ≤ 1000000) : Calls Tryz.prog 104 #[v] w (SomeInt w) := by
 obtain ⟨a,c,rfl,h1,h2⟩ := (hv.listB (fun _ _ h => h)).len
 clear h1 h2
 have HV := hid hv; clear hv
 have hli : (l.length : Int) ≤ 1000000 := by omega
 clear hl
 go_enter Tryz.func104,Tryz.ntmps104
 go_wp2_with fail
 refine (vis_c _ _).mono ?_
 rintro e w' ⟨rfl,rfl⟩
 go_wp2_with fail
 go_loopg [3,12] (l.length) (fun gk v3 v12 wr => ∃ i n,gk = l.length - i ∧ i ≤ l.length ∧ v12 = .int .i64 (i : Int) ∧ v3 = .int .i64 n ∧ w' = wr)
 case atStart => exact ⟨0,_,rfl,Nat.zero_le _,rfl,rfl,rfl⟩
 case round =>
  obtain ⟨i,n,rfl,hi,rfl,rfl,rfl⟩ := hrel
  by_cases hlt : i < l.length
  ·have hlti : (i : Int) < l.length := by omega
   obtain ⟨b,off,cap',u,he,hb,hrg,hE⟩ := HV.out.at' hlt
   simp only [Value.slice.injEq] at he
   obtain ⟨rfl,_,rfl⟩ := he
   obtain ⟨bv,hu,hbv⟩ := hE
   simp only [List.cons.injEq,and_true] at hu
   subst hu
   obtain ⟨a',c',rfl,hq1,hq2,hq3⟩ := hbv
   have e1 := hrg w' (Below.refl _ _)
   have hbl : b < w'.heap.size := Nat.lt_of_lt_of_le hb hBw
   have hii : (i : Int) ≤ 1000000 := by omega
   clear hq1 hq2 hq3 hrg
   go_wp2_with fail
   refine (vis_c _ _).mono ?_
   rintro e w'' ⟨rfl,rfl⟩
   go_wp2_with fail
   go_roundg (l.length - (i + 1))
   case measure => omega
   case rel => exact ⟨i + 1,_,rfl,by omega,by simp,rfl,rfl⟩
  ·go_wp2_with fail
   go_ret
   exact ⟨_,rfl,Fr.refl _ _⟩
theorem hasWit_c (w : World) (B D : Nat) (hBw : B ≤ w.heap.size) (t : Tx) (d : List Value) (ht : t.Ok) (hs : t.Small) (hD : Blk w D 227 d) (hE : MsgTxT B w d t) : Calls Tryz.prog 103 #[.pointer (some ⟨D,0,none⟩)] w (SomeBool w) := by
 obtain ⟨iv,ov,rfl,hi,ho⟩ := hE
 obtain ⟨ai,ci,rfl,hi1,hi2⟩ := (hi.listB (fun _ _ h => h)).len
 obtain ⟨ao,co,rfl,ho1,ho2⟩ := (ho.listB (fun _ _ h => h)).len
 clear hi1 hi2 ho1 ho2
 have HI := hid hi; clear hi
 have HO := hid ho; clear ho
 have Ht := hid ht; clear ht
 have hi6 : (t.ins.length : Int) ≤ 1000000 := by have := hs.ins; omega
 have ho6 : (t.outs.length : Int) ≤ 1000000 := by have := hs.outs; omega
 have Hs := hid hs; clear hs
 have HD := hid hD; clear hD
 have c1 : w.cell? ⟨D,1,none⟩ = some (.slice ai t.ins.length ci) := HD.out.cell_at rfl
 have hl := HD.out.lt
 go_enter Tryz.func103,Tryz.ntmps103
 go_wp2_with fail
 go_loopg [10] (t.ins.length) (fun gk v10 wr => ∃ i,gk = t.ins.length - i ∧ i ≤ t.ins.length ∧ v10 = .int .i64 (i : Int) ∧ w = wr)
 case atStart => exact ⟨0,rfl,Nat.zero_le _,rfl,rfl⟩
 case round =>
  obtain ⟨i,rfl,hi,rfl,rfl⟩ := hrel
  by_cases hlt : i < t.ins.length
  ·have hlti : (i : Int) < t.ins.length := by omega
   obtain ⟨b,off,cap',u,he,hbB,hrg,hE⟩ := HI.out.at' hlt
   simp only [Value.slice.injEq] at he
   obtain ⟨rfl,_,rfl⟩ := he
   obtain ⟨G,dg,hu,hG,hGb,hGE⟩ := hE
   simp only [List.cons.injEq,and_true] at hu
   subst hu
   have hxp := (Ht.out.ins _ (List.getElem_mem hlt)).prev
   obtain ⟨sv,wv,rfl,hsv,hwv⟩ := hGE
   obtain ⟨aw,cw,rfl,hw1,hw2⟩ := (hwv.listB (fun _ _ h => h)).len
   have e1 := hrg w (Below.refl _ _)
   have hbl : b < w.heap.size := Nat.lt_of_lt_of_le hbB hBw
   have hii : (i : Int) ≤ 1000000 := by omega
   have e2 : w.cell? ⟨G,34,none⟩ = some (.slice aw (t.ins[i]).wit.length cw) := hGb.cell_at (by rw [List.getElem?_append_right (by rw [OutP.cells_length hxp]; omega),OutP.cells_length hxp]; rfl)
   have hgl := hGb.lt
   clear hsv hwv hw1 hw2 hrg hGb hxp
   go_wp2_with fail
   all_goals first
    | (go_ret; exact ⟨_,rfl,Fr.refl _ _⟩)
    | (go_roundg (t.ins.length - (i + 1)); (case measure => omega); (case rel => exact ⟨i + 1,rfl,by omega,by simp,rfl⟩))
  ·go_wp2_with fail
   go_ret
   exact ⟨_,rfl,Fr.refl _ _⟩
theorem baseSize_c (w : World) (B D : Nat) (hBw : B ≤ w.heap.size) (t : Tx) (d : List Value) (ht : t.Ok) (hs : t.Small) (hD : Blk w D 227 d) (hE : MsgTxT B w d t) : Calls Tryz.prog 102 #[.pointer (some ⟨D,0,none⟩)] w (SomeInt w) := by
 obtain ⟨iv,ov,rfl,hi,ho⟩ := hE
 obtain ⟨ai,ci,rfl,hi1,hi2⟩ := (hi.listB (fun _ _ h => h)).len
 obtain ⟨ao,co,rfl,ho1,ho2⟩ := (ho.listB (fun _ _ h => h)).len
 clear hi1 hi2 ho1 ho2
 have HI := hid hi; clear hi
 have HO := hid ho; clear ho
 have Ht := hid ht; clear ht
 have hi6 : (t.ins.length : Int) ≤ 1000000 := by have := hs.ins; omega
 have ho6 : (t.outs.length : Int) ≤ 1000000 := by have := hs.outs; omega
 have Hs := hid hs; clear hs
 have HD := hid hD; clear hD
 have c1 : w.cell? ⟨D,1,none⟩ = some (.slice ai t.ins.length ci) := HD.out.cell_at rfl
 have c2 : w.cell? ⟨D,2,none⟩ = some (.slice ao t.outs.length co) := HD.out.cell_at rfl
 have hl := HD.out.lt
 go_enter Tryz.func102,Tryz.ntmps102
 go_upto_region 1 with fail
 go_quiet ((exact Calls.quiet_of_same (vis_c _ _)))
 have HF0 : Hid (Fr [] w (w.drewN nq)) := (Fr.refl _ _).drewN _
 generalize World.drewN w nq = w0 at HF0 ⊢
 have c1' : w0.cell? ⟨D,1,none⟩ = some (.slice ai t.ins.length ci) := (HD.out.fr HF0.out (by simp)).cell_at rfl
 have hl' := (HD.out.fr HF0.out (by simp)).lt
 clear c1 c2 hl
 go_wp2_with fail
 clear c1' hl'
 go_loopg [3,29] (t.ins.length) (fun gk v3 v29 wr => ∃ i n,gk = t.ins.length - i ∧ i ≤ t.ins.length ∧ v29 = .int .i64 (i : Int) ∧ v3 = .int .i64 n ∧ Fr [] w wr)
 case atStart => exact ⟨0,_,rfl,Nat.zero_le _,rfl,rfl,HF0.out⟩
 case round =>
  clear HF0
  obtain ⟨i,n,rfl,hi,rfl,rfl,hf⟩ := hrel
  have HF := hid hf; clear hf
  by_cases hlt : i < t.ins.length
  ·have hlti : (i : Int) < t.ins.length := by omega
   obtain ⟨b,off,cap',u,he,hbB,hrg,hE⟩ := HI.out.at' hlt
   simp only [Value.slice.injEq] at he
   obtain ⟨rfl,_,rfl⟩ := he
   obtain ⟨G,dg,hu,hG,hGb,hGE⟩ := hE
   simp only [List.cons.injEq,and_true] at hu
   subst hu
   have hxp := hid (Ht.out.ins _ (List.getElem_mem hlt)).prev
   have e1 := hrg wr (HF.out.below.mono hBw)
   have hbl : b < wr.heap.size := Nat.lt_of_lt_of_le hbB (Nat.le_trans hBw HF.out.size)
   have hii : (i : Int) ≤ 1000000 := by omega
   have HGb := hid (hGb.fr HF.out (by simp))
   have HGE := hid (hGE.below (HF.out.below.mono hBw))
   clear hrg hGb hGE
   go_wp2_with fail
   refine (inSize_c wr B G _ dg hxp.out HGb.out HGE.out).mono ?_
   rintro e w' ⟨m,rfl,hf⟩
   have HF2 := hid (HF.out.trans hf)
   clear hf e1 hbl
   go_wp2_with fail
   go_roundg (t.ins.length - (i + 1))
   case measure => omega
   case rel => exact ⟨i + 1,_,rfl,by omega,by simp,rfl,HF2.out⟩
  ·have c2 : wr.cell? ⟨D,2,none⟩ = some (.slice ao t.outs.length co) := (HD.out.fr HF.out (by simp)).cell_at rfl
   have hl := (HD.out.fr HF.out (by simp)).lt
   go_wp2_with fail
   clear c2 hl
   go_loopg [3,43] (t.outs.length) (fun gk v3 v29 wr => ∃ i n,gk = t.outs.length - i ∧ i ≤ t.outs.length ∧ v29 = .int .i64 (i : Int) ∧ v3 = .int .i64 n ∧ Fr [] w wr)
   case atStart => exact ⟨0,_,rfl,Nat.zero_le _,rfl,rfl,HF.out⟩
   case round =>
    clear HF
    obtain ⟨i,n,rfl,hi,rfl,rfl,hf⟩ := hrel
    have HF := hid hf; clear hf
    by_cases hlt : i < t.outs.length
    ·have hlti : (i : Int) < t.outs.length := by omega
     obtain ⟨b,off,cap',u,he,hbB,hrg,hE⟩ := HO.out.at' hlt
     simp only [Value.slice.injEq] at he
     obtain ⟨rfl,_,rfl⟩ := he
     obtain ⟨G,dg,hu,hG,hGb,hGE⟩ := hE
     simp only [List.cons.injEq,and_true] at hu
     subst hu
     have e1 := hrg wr (HF.out.below.mono hBw)
     have hbl : b < wr.heap.size := Nat.lt_of_lt_of_le hbB (Nat.le_trans hBw HF.out.size)
     have hii : (i : Int) ≤ 1000000 := by omega
     have HGb := hid (hGb.fr HF.out (by simp))
     have HGE := hid (hGE.below (HF.out.below.mono hBw))
     clear hrg hGb hGE
     go_wp2_with fail
     refine (outSize_c wr B G _ dg HGb.out HGE.out).mono ?_
     rintro e w' ⟨m,rfl,hf⟩
     have HF2 := hid (HF.out.trans hf)
     clear hf e1 hbl
     go_wp2_with fail
     go_roundg (t.outs.length - (i + 1))
     case measure => omega
     case rel => exact ⟨i + 1,_,rfl,by omega,by simp,rfl,HF2.out⟩
    ·go_wp2_with fail
     go_ret
     exact ⟨_,rfl,HF.out⟩
theorem txSize2_c (w : World) (B D : Nat) (hBw : B ≤ w.heap.size) (t : Tx) (d : List Value) (ht : t.Ok) (hs : t.Small) (hD : Blk w D 227 d) (hE : MsgTxT B w d t) : Calls Tryz.prog 72 #[.pointer (some ⟨D,0,none⟩)] w (SomeInt w) := by
 have Hb := hid (baseSize_c w B D hBw t d ht hs hD hE)
 have Hsv := hid (And.intro ht (And.intro hs (And.intro hD hE)))
 obtain ⟨iv,ov,rfl,hi,ho⟩ := hE
 obtain ⟨ai,ci,rfl,hi1,hi2⟩ := (hi.listB (fun _ _ h => h)).len
 obtain ⟨ao,co,rfl,ho1,ho2⟩ := (ho.listB (fun _ _ h => h)).len
 clear hi1 hi2 ho1 ho2
 have HI := hid hi; clear hi
 have HO := hid ho; clear ho
 have Ht := hid ht; clear ht
 have hi6 : (t.ins.length : Int) ≤ 1000000 := by have := hs.ins; omega
 have ho6 : (t.outs.length : Int) ≤ 1000000 := by have := hs.outs; omega
 have Hs := hid hs; clear hs
 have HD := hid hD; clear hD
 go_enter Tryz.func72,Tryz.ntmps72
 go_wp2_with fail
 refine Hb.out.mono ?_
 rintro e w1 ⟨n0,rfl,hf⟩
 have HF1 := hid hf; clear hf
 go_wp2_with fail
 refine (hasWit_c w1 B D (Nat.le_trans hBw HF1.out.size) t _ Hsv.out.1 Hsv.out.2.1 (Hsv.out.2.2.1.fr HF1.out (by simp)) (Hsv.out.2.2.2.below (HF1.out.below.mono hBw))).mono ?_
 rintro e w2 ⟨bb,rfl,hf⟩
 have HF2 := hid (HF1.out.trans hf); clear hf HF1 Hb
 cases bb
 ·go_wp2_with fail
  go_ret
  exact ⟨_,rfl,HF2.out⟩
 ·have c1 : w2.cell? ⟨D,1,none⟩ = some (.slice ai t.ins.length ci) := (HD.out.fr HF2.out (by simp)).cell_at rfl
  have hl := (HD.out.fr HF2.out (by simp)).lt
  go_wp2_with fail
  clear c1 hl
  go_loopg [3,17] (t.ins.length) (fun gk v3 v29 wr => ∃ i n,gk = t.ins.length - i ∧ i ≤ t.ins.length ∧ v29 = .int .i64 (i : Int) ∧ v3 = .int .i64 n ∧ Fr [] w wr)
  case atStart => exact ⟨0,_,rfl,Nat.zero_le _,rfl,rfl,HF2.out⟩
  case round =>
   clear HF2
   obtain ⟨i,n,rfl,hi,rfl,rfl,hf⟩ := hrel
   have HF := hid hf; clear hf
   by_cases hlt : i < t.ins.length
   ·have hlti : (i : Int) < t.ins.length := by omega
    obtain ⟨b,off,cap',u,he,hbB,hrg,hE⟩ := HI.out.at' hlt
    simp only [Value.slice.injEq] at he
    obtain ⟨rfl,_,rfl⟩ := he
    obtain ⟨G,dg,hu,hG,hGb,hGE⟩ := hE
    simp only [List.cons.injEq,and_true] at hu
    subst hu
    have hxp := (Ht.out.ins _ (List.getElem_mem hlt)).prev
    obtain ⟨sv,wv,rfl,hsv,hwv⟩ := hGE
    have e1 := hrg wr (HF.out.below.mono hBw)
    have hbl : b < wr.heap.size := Nat.lt_of_lt_of_le hbB (Nat.le_trans hBw HF.out.size)
    have hii : (i : Int) ≤ 1000000 := by omega
    have e2 : wr.cell? ⟨G,34,none⟩ = some wv := (hGb.fr HF.out (by simp)).cell_at (by rw [List.getElem?_append_right (by rw [OutP.cells_length hxp]; omega),OutP.cells_length hxp]; rfl)
    have hgl := (hGb.fr HF.out (by simp)).lt
    have HW := hid (hwv.below (HF.out.below.mono hBw) (fun _ _ h => h.below (HF.out.below.mono hBw)))
    have Hwl := hid (Hs.out.wit _ (List.getElem_mem hlt))
    clear hsv hwv hrg hGb hxp
    go_wp2_with fail
    refine (witSize_c wr B (Nat.le_trans hBw HF.out.size) wv _ HW.out Hwl.out).mono ?_
    rintro e w' ⟨m,rfl,hf⟩
    have HF2 := hid (HF.out.trans hf)
    clear hf e1 e2 hbl hgl
    go_wp2_with fail
    go_roundg (t.ins.length - (i + 1))
    case measure => omega
    case rel => exact ⟨i + 1,_,rfl,by omega,by simp,rfl,HF2.out⟩
   ·go_wp2_with fail
    go_ret
    exact ⟨_,rfl,HF.out⟩
end Go.Proofs.YtdllckiidegpcaaGreat
