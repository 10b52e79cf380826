/- A part of the walk of laws.FnPartial (part 8): contracts of functions that it comes to, and the plain laws that these lean on. Conditions stand in each contract. -/
import Derived.Test.YtdllckiidegpcaaGreatA02
set_option linter.unusedSimpArgs false
set_option linter.unusedVariables false
namespace Go.Proofs.YtdllckiidegpcaaGreat
open Go.RowKit
theorem dig_one {s : S8} {x : List Int} {nx T : Int} : ∀ u ∈ dig s x nx T,u.oneCell' = true := by
 intro u hu
 simp only [dig,List.mem_append,List.mem_cons,List.not_mem_nil,or_false] at hu
 rcases hu with (h | h) | h
 ·rcases h with rfl | rfl | rfl | rfl | rfl | rfl | rfl | rfl <;> rfl
 ·exact ic_one _ _ _ h
 ·rcases h with rfl | rfl | rfl <;> rfl
theorem dig_len {s : S8} {x : List Int} {nx T : Int} (hx : x.length = 64) : (dig s x nx T).length = 75 := by simp [dig,hx]
theorem u29 : Tryz.prog.underlying 29 = some (.slice 5) := by kernel_rfl
theorem info5 : ∃ i,Tryz.prog.info? 5 = some i ∧ i.size = 1 := by
 have h : (Tryz.prog.info? 5).map (·.size) = some 1 := by kernel_rfl
 cases hq : Tryz.prog.info? 5 with
 | none => rw [hq] at h; cases h
 | some i => exact ⟨i,rfl,by rw [hq] at h; simpa using h⟩
set_option maxRecDepth 8000 in
set_option maxHeartbeats 4000000 in
theorem sum_c (K : List Int) (hK : K.length = 64) (w : World) (g S : Nat) (T : TypeId) (msg m : List Int) (hKc : Blk w 1 379 (ic .u32 K)) (hg1 : g ≠ 1)
  (hD : DigAt K w g msg) (hlen : msg.length < 2 ^ 60) (hS : Blk w S T (ic .u8 m)) (hm : m.length = 32) :
  Calls Tryz.prog 303 #[.pointer (some ⟨g,0,none⟩),.slice (some ⟨S,0,none⟩) 0 32] w fun e w' => e = .returned (.slice (some ⟨S,0,none⟩) 32 32) ∧ Fr [S] w w' ∧ Blk w' S T (ic .u8 (sha K msg)) := by
 obtain ⟨s,x,hS1,hB⟩ := hD
 have hx := hS1.len
 have hglt := hB.lt
 have hsz : w.heap.size ≠ 1 := by have := hKc.lt; omega
 have HK := hid hKc; clear hKc
 have HD := hid hB; clear hB
 have HSt := hid hS1; clear hS1
 have HS := hid hS; clear hS
 have Hm := hid hm; clear hm
 go_enter Tryz.func303,Tryz.ntmps303
 go_wp2_with fail
 refine (record_c w).mono ?_
 rintro e w1 ⟨rfl,hw1⟩
 obtain rfl := hw1.symm
 go_upto_region 2 with fail
 refine wp_region_lit ?_
 refine wpList_run rfl rfl ?_
 refine wpList_run rfl rfl ?_
 refine wpList_load_mid rfl 328 _ rfl g 0 rfl _ _ HD.out.range rfl rfl (by rw [dig_len hx]; kernel_rfl) ?_
 refine wpList_run (v := .pointer (some ⟨w.heap.size,0,none⟩)) (w' := w.alloc (.cells (dig ⟨0,0,0,0,0,0,0,0⟩ (List.replicate 64 0) 0 0).toArray 328)) rfl rfl ?_
 generalize hw2 : World.alloc w _ = w2
 have HF2 : Hid (Fr [] w w2) := by rw [← hw2]; exact (Fr.refl _ _).alloc _
 have HB2 : Hid (Blk w2 w.heap.size 328 (dig ⟨0,0,0,0,0,0,0,0⟩ (List.replicate 64 0) 0 0)) := by rw [← hw2]; exact Blk.new w _ _
 clear hw2
 refine wpList_store_mid rfl 328 (.tmp 5) (.tmp 10) rfl w.heap.size 0 (dig s x _ _).toArray rfl rfl (HB2.out.there (by simp [dig,hx])) (by rw [List.size_toArray,dig_len hx]; kernel_rfl) (all_oneCell_toArray dig_one) ?_
 have HB3 : Hid (Blk (w2.setCells w.heap.size 0 (dig s x ((msg.length % 64 : Nat) : Int) (msg.length : Int)).toArray.toList) w.heap.size 328 (dig s x ((msg.length % 64 : Nat) : Int) (msg.length : Int))) := HB2.out.putAll _ (by rw [dig_len hx,dig_len (by simp)])
 have HF3 : Hid (Fr [] w (w2.setCells w.heap.size 0 (dig s x ((msg.length % 64 : Nat) : Int) (msg.length : Int)).toArray.toList)) := ((HF2.out.mono (by simp)).trans (fr_setCells (S := [w.heap.size]) (by simp) _ _ _ (Fr.refl _ _))).drop (by simp)
 generalize World.setCells _ _ _ _ = w3 at HB3 HF3 ⊢
 clear HB2 HF2
 generalize Value.agg (dig s x ((msg.length % 64 : Nat) : Int) (msg.length : Int)).toArray = V10
 refine wpList_nil ?_
 have Hlen := hid hlen; clear hlen
 have HKl := hid hK; clear hK
 have Hsz := hid hsz; clear hsz
 have Hx := hid hx; clear hx hg1
 go_upto_region 3 with fail
 go_wp2_with fail
 refine (checkSum_c K HKl.out w3 w.heap.size msg (HK.out.below HF3.out.below HK.out.lt) Hsz.out ⟨s,x,HSt.out,HB3.out⟩ Hlen.out).mono ?_
 rintro e w4 ⟨rfl,hf4,s4,x4,nx4,T4,hx4,hb4⟩
 have HX4 := hid hx4; clear hx4
 have HB4 := hid hb4; clear hb4
 simp only []
 refine (‹∀ (a : Act) (w : World),wpList Tryz.prog _ _ _ a w → _›) _ _ ?_
 have HF4 : Hid (Fr [] w w4) := HF3.out.andThen hf4 (by simp)
 refine wpList_run (v := .pointer (some ⟨w4.heap.size,0,none⟩)) (w' := w4.alloc (.cells (ic .u8 (List.replicate 32 0)).toArray 22)) rfl rfl ?_
 have HF5 : Hid (Fr [] w (w4.alloc (.cells (ic .u8 (List.replicate 32 0)).toArray 22))) := HF4.out.alloc _
 have HA5 : Hid (Blk (w4.alloc (.cells (ic .u8 (List.replicate 32 0)).toArray 22)) w4.heap.size 22 (ic .u8 (List.replicate 32 0))) := Blk.new _ _ _
 have HB5 : Hid (Blk (w4.alloc (.cells (ic .u8 (List.replicate 32 0)).toArray 22)) w.heap.size 328 (dig s4 x4 nx4 T4)) := HB4.out.alloc _
 generalize World.alloc w4 _ = w5 at HF5 HA5 HB5 ⊢
 refine wpList_store_mid rfl 22 (.tmp 6) (.tmp 11) rfl w4.heap.size 0 (ic .u8 (sha K msg)).toArray rfl rfl (HA5.out.there (by simp [sha_length])) (by rw [List.size_toArray,ic_length,sha_length]; kernel_rfl) (all_oneCell_toArray (ic_one _ _)) ?_
 have HA6 : Hid (Blk (w5.setCells w4.heap.size 0 (ic .u8 (sha K msg)).toArray.toList) w4.heap.size 22 (ic .u8 (sha K msg))) := HA5.out.putAll _ (by simp [sha_length])
 have HF6 : Hid (Fr [] w (w5.setCells w4.heap.size 0 (ic .u8 (sha K msg)).toArray.toList)) := ((HF5.out.mono (by simp)).trans (fr_setCells (S := [w4.heap.size]) (by simp) _ _ _ (Fr.refl _ _))).drop (by simp; exact HF4.out.size)
 have hbl := HB4.out.lt
 have HB6 : Hid (Blk (w5.setCells w4.heap.size 0 (ic .u8 (sha K msg)).toArray.toList) w.heap.size 328 (dig s4 x4 nx4 T4)) := HB5.out.fr (fr_setCells (S := [w4.heap.size]) (by simp) _ _ _ (Fr.refl _ _)) (by simp; omega)
 generalize World.setCells _ _ _ _ = w6 at HA6 HF6 HB6 ⊢
 obtain ⟨A,hA⟩ : ∃ A,A = w4.heap.size := ⟨_,rfl⟩
 rw [← hA] at HA6 ⊢
 have hAw : w.heap.size ≤ A := by rw [hA]; exact HF4.out.size
 have HA := hid hA; clear hA
 refine wpList_nil ?_
 simp only [Exit.then]
 simp only [Act.put]
 go_upto_region 4 with fail
 have d74 : w6.cell? ⟨w.heap.size,74,none⟩ = some (.bool false) := HB6.out.cell_at (by simp [dig,HX4.out])
 have hl6 := HB6.out.lt
 clear hbl
 generalize Value.agg (ic .u8 (sha K msg)).toArray = V11
 have hSlt := HS.out.lt
 have HS6 : Hid (Blk w6 S T (ic .u8 m)) := HS.out.below HF6.out.below hSlt
 obtain ⟨i5,hi5,hi1⟩ := info5
 have Hi5 := hid hi5; clear hi5
 have Hi1 := hid hi1; clear hi1
 have hu29 := u29
 have Hu29 := hid hu29; clear hu29
 have hnews : ∀ j u,(ic .u8 (sha K msg))[j]? = some u → w6.cell? ((⟨A,0,none⟩ : Addr).add j) = some u := by
  intro j u hj
  rw [Addr.add_mid]; exact HA6.out.range j u hj
 have Hnews := hid hnews; clear hnews
 have hsl : (ic .u8 (sha K msg)).length = 32 := by rw [ic_length,sha_length]
 have Hsl := hid hsl; clear hsl
 have hml : 0 + 32 ≤ (ic .u8 m).length := by rw [ic_length,Hm.out]; omega
 have Hml := hid hml; clear hml
 have hfr : Fr [S] w w6 := HF6.out.mono (by simp)
 have Hfr := hid hfr; clear hfr
 have hSS : S ∈ [S] := by simp
 have hroom : 0 + 32 ≤ 32 := by omega
 go_wp2_with (with_reducible refine wpList_append_room (o := ⟨some 19,_,_,_,_,_⟩) rfl _ _ 29 rfl 5 i5 Hu29.out Hi5.out Hi1.out S 0 32 T (ic .u8 m) HS6.out ⟨A,0,none⟩ 32 32 ?_ ?_ (ic .u8 (sha K msg)) Hsl.out Hnews.out (ic_one _ _) hroom Hml.out [S] w Hfr.out hSS ?_)
 ·rfl
 ·rfl
 intro w7 HB7 HF7
 go_wp2_with fail
 go_ret
 refine ⟨rfl,HF7.out, ?_⟩
 have h := HB7.out
 rw [splice_all _ _ (by rw [ic_length,ic_length,sha_length,Hm.out])] at h
 exact h
theorem Rd.lt' {w : World} {v : Value} {n : Nat} {xs : List Value} (h : Rd w v n xs) : ∀ b off m cap,v = .slice (some ⟨b,off,none⟩) m cap → cap ≠ 0 → b < w.heap.size := by
 obtain ⟨a,cap,rfl,_,_,h3⟩ := h
 rintro b off m c he hc0
 rcases h3 with ⟨rfl,_⟩ | ⟨b',off',rfl,hb,_⟩
 ·cases he; exact absurd rfl hc0
 ·cases he; exact hb
theorem DigAt.zero {K : List Int} {w : World} {g : Nat} (h : Blk w g 328 (dig iv (List.replicate 64 0) 0 0)) : DigAt K w g [] :=
 ⟨iv,_,DSt.zero K _ (by simp),h⟩
theorem sum_ahead (G : Nat) (w : World) : (nilAhead 482 296 (.pointer (some ⟨G,0,none⟩)) "Sum").run Tryz.prog w = .ok (some false) w := by kernel_rfl
set_option maxRecDepth 8000 in
theorem sum256_c (K : List Int) (hK : K.length = 64) (w : World) (p : List Int) (v : Value) (hKc : Blk w 1 379 (ic .u32 K)) (hp : Bytes w v p) (hlen : p.length < 2 ^ 60) :
  Calls Tryz.prog 63 #[v] w fun e w' => e = .returned (arr (sha K p)) ∧ Fr [] w w' := by
 have h1w := hKc.lt
 have HK := hid hKc; clear hKc
 have HP := hid hp; clear hp
 have Hlen := hid hlen; clear hlen
 have HKl := hid hK; clear hK
 go_enter Tryz.func63,Tryz.ntmps63
 go_wp2_with fail
 have HF1 : Hid (Fr [] w (w.alloc (.cells (ic .u8 (List.replicate 32 0)).toArray 22))) := (Fr.refl _ _).alloc _
 have HR1 : Hid (Blk (w.alloc (.cells (ic .u8 (List.replicate 32 0)).toArray 22)) w.heap.size 22 (ic .u8 (List.replicate 32 0))) := Blk.new _ _ _
 have hs1 : (w.alloc (.cells (ic .u8 (List.replicate 32 0)).toArray 22)).heap.size = w.heap.size + 1 := by simp
 refine Calls.mono (P := Tryz.prog) (w := w.alloc (.cells (ic .u8 (List.replicate 32 0)).toArray 22)) (new_c _) ?_
 generalize World.alloc w _ = w1 at HF1 HR1 hs1 ⊢
 rintro e w2 ⟨rfl,hf,hb⟩
 rw [hs1] at hb ⊢
 have HF2 : Hid (Fr [] w w2) := HF1.out.trans hf
 have HR2 : Hid (Blk w2 w.heap.size 22 (ic .u8 (List.replicate 32 0))) := HR1.out.fr hf (by simp)
 have HD2 := hid (DigAt.zero (K := K) hb)
 clear hf hb hs1 HF1 HR1
 go_wp2_with fail
 refine (write_c K HKl.out w2 (w.heap.size + 1) [] p v (HK.out.below HF2.out.below HK.out.lt) (by omega) HD2.out (HP.out.below HF2.out.below) (fun b off n cap h h0 => by have := HP.out.lt' b off n cap h h0; omega) (by have := Hlen.out; simp; omega)).mono ?_
 rintro e w3 ⟨rfl,hf,hd⟩
 have HF3 : Hid (Fr [] w w3) := HF2.out.andThen hf (by simp)
 have HR3 : Hid (Blk w3 w.heap.size 22 (ic .u8 (List.replicate 32 0))) := HR2.out.fr hf (by simp)
 have HD3 : Hid (DigAt K w3 (w.heap.size + 1) p) := hd
 have hGlt : w.heap.size + 1 < w3.heap.size := by obtain ⟨s,x,_,h⟩ := hd; exact h.lt
 clear hf hd HD2 HF2 HR2
 go_wp2_with fail
 have HF4 : Hid (Fr [] w (w3.alloc (.cells (ic .u8 (List.replicate 32 0)).toArray 22))) := HF3.out.alloc _
 have HR4 : Hid (Blk (w3.alloc (.cells (ic .u8 (List.replicate 32 0)).toArray 22)) w.heap.size 22 (ic .u8 (List.replicate 32 0))) := HR3.out.alloc _
 have HD4 : Hid (DigAt K (w3.alloc (.cells (ic .u8 (List.replicate 32 0)).toArray 22)) (w.heap.size + 1) p) := by
  obtain ⟨s,x,h1,h2⟩ := HD3.out
  exact ⟨s,x,h1,h2.alloc _⟩
 have HS4 : Hid (Blk (w3.alloc (.cells (ic .u8 (List.replicate 32 0)).toArray 22)) w3.heap.size 22 (ic .u8 (List.replicate 32 0))) := Blk.new _ _ _
 have hs4 : (w3.alloc (.cells (ic .u8 (List.replicate 32 0)).toArray 22)).heap.size = w3.heap.size + 1 := by simp
 have hah := sum_ahead (w.heap.size + 1)
 refine qtail 5 (by kernel_rfl) (by kernel_rfl) ?_
 simp only [List.take_succ_cons,List.take_zero,List.drop_succ_cons,List.drop_zero]
 repeat (go_big_quiet_step (fail))
 refine wpQuiet_nil ?_
 go_wp2_with fail
 refine Calls.mono (P := Tryz.prog) (w := (w3.alloc (.cells (ic .u8 (List.replicate 32 0)).toArray 22)).drew) (sum_c K HKl.out _ (w.heap.size + 1) w3.heap.size 22 p (List.replicate 32 0) (HK.out.below HF4.out.below HK.out.lt).drew (by omega) ?_ Hlen.out HS4.out.drew (by simp)) ?_
 ·obtain ⟨s,x,h1,h2⟩ := HD4.out
  exact ⟨s,x,h1,h2.drew⟩
 generalize World.alloc w3 _ = w4 at HF4 HR4 HD4 HS4 hs4 ⊢
 rintro e w5 ⟨rfl,hf,hb⟩
 have HF5 : Hid (Fr [] w w5) := HF4.out.drew.andThen hf (by simp; exact HF3.out.size)
 have HR5 : Hid (Blk w5 w.heap.size 22 (ic .u8 (List.replicate 32 0))) := HR4.out.drew.fr hf (by simp; have := HF3.out.size; omega)
 have HS5 : Hid (Blk w5 w3.heap.size 22 (ic .u8 (sha K p))) := hb
 obtain ⟨S,hS⟩ : ∃ S,S = w3.heap.size := ⟨_,rfl⟩
 rw [← hS] at HS5 ⊢
 clear hf hb HF4 HR4 HD4 HS4 hs4 HF3 HR3 HD3 hGlt hS
 go_upto_region 6 with fail
 refine wp_region_lit ?_
 refine wpList_load_mid rfl 22 (.tmp 4) rfl S 0 rfl (ic .u8 (sha K p)) (.array 32 5) HS5.out.range rfl rfl (by rw [ic_length,sha_length]; kernel_rfl) ?_
 refine wpList_store_mid rfl 22 (.tmp 2) (.tmp 17) rfl w.heap.size 0 (ic .u8 (sha K p)).toArray rfl rfl (HR5.out.there (by simp [sha_length])) (by rw [List.size_toArray,ic_length,sha_length]; kernel_rfl) (all_oneCell_toArray (ic_one _ _)) ?_
 have HR6 : Hid (Blk (w5.setCells w.heap.size 0 (ic .u8 (sha K p)).toArray.toList) w.heap.size 22 (ic .u8 (sha K p))) := HR5.out.putAll _ (by simp [sha_length])
 have HF6 : Hid (Fr [] w (w5.setCells w.heap.size 0 (ic .u8 (sha K p)).toArray.toList)) := ((HF5.out.mono (by simp)).trans (fr_setCells (S := [w.heap.size]) (by simp) _ _ _ (Fr.refl _ _))).drop (by simp)
 generalize World.setCells _ _ _ _ = w6 at HR6 HF6 ⊢
 refine wpList_nil ?_
 refine (‹∀ (a : Act) (w : World),Code.wp Tryz.prog Code.ret _ a w → _›) _ _ ?_
 refine wp_ret ?_
 refine ret_arr rfl rfl (.array 32 5) HR6.out rfl rfl (by rw [sha_length]; kernel_rfl) rfl ?_
 exact ⟨rfl,HF6.out⟩
/-- The hash: SHA-256 twice. -/
def H2 (K p : List Int) : List Int := sha K (sha K p)
theorem H2_length (K p : List Int) : (H2 K p).length = 32 := sha_length _ _
theorem H2_u8 (K p : List Int) : U8 (H2 K p) := sha_u8 _ _
theorem ints_whole {k : IntKind} {w : World} {g : Nat} {T : TypeId} {l : List Int} (h : Blk w g T (ic k l)) (hl : l.length ≤ maxLen) : Ints k w (.slice (some ⟨g,0,none⟩) l.length l.length) l :=
 ints_mk rfl (Nat.le_refl _) hl h.lt (fun i hi => by rw [Nat.zero_add]; exact h.int i hi)
set_option maxRecDepth 8000 in
theorem dhash_c (K : List Int) (hK : K.length = 64) (w : World) (p : List Int) (v : Value) (hKc : Blk w 1 379 (ic .u32 K)) (hp : Bytes w v p) (hlen : p.length < 2 ^ 60) :
  Calls Tryz.prog 28 #[v] w fun e w' => e = .returned (arr (H2 K p)) ∧ Fr [] w w' := by
 have h1w := hKc.lt
 have HK := hid hKc; clear hKc
 have HP := hid hp; clear hp
 have Hlen := hid hlen; clear hlen
 have HKl := hid hK; clear hK
 go_enter Tryz.func28,Tryz.ntmps28
 go_wp2_with fail
 have HF1 : Hid (Fr [] w (w.alloc (.cells (ic .u8 (List.replicate 32 0)).toArray 81))) := (Fr.refl _ _).alloc _
 have HR1 : Hid (Blk (w.alloc (.cells (ic .u8 (List.replicate 32 0)).toArray 81)) w.heap.size 81 (ic .u8 (List.replicate 32 0))) := Blk.new _ _ _
 refine Calls.mono (P := Tryz.prog) (w := w.alloc (.cells (ic .u8 (List.replicate 32 0)).toArray 81)) (sum256_c K HKl.out _ p v (HK.out.below HF1.out.below HK.out.lt) (HP.out.below HF1.out.below) Hlen.out) ?_
 generalize World.alloc w _ = w1 at HF1 HR1 ⊢
 rintro e w2 ⟨rfl,hf⟩
 have HF2 : Hid (Fr [] w w2) := HF1.out.trans hf
 have HR2 : Hid (Blk w2 w.heap.size 81 (ic .u8 (List.replicate 32 0))) := HR1.out.fr hf (by simp)
 clear hf HF1 HR1
 simp only []
 refine (‹∀ (a : Act) (w : World),wpList Tryz.prog _ _ _ a w → _›) _ _ ?_
 refine wpList_run (v := .pointer (some ⟨w2.heap.size,0,none⟩)) (w' := w2.alloc (.cells (ic .u8 (List.replicate 32 0)).toArray 22)) rfl rfl ?_
 have HF3 : Hid (Fr [] w (w2.alloc (.cells (ic .u8 (List.replicate 32 0)).toArray 22))) := HF2.out.alloc _
 have HR3 : Hid (Blk (w2.alloc (.cells (ic .u8 (List.replicate 32 0)).toArray 22)) w.heap.size 81 (ic .u8 (List.replicate 32 0))) := HR2.out.alloc _
 have HS3 : Hid (Blk (w2.alloc (.cells (ic .u8 (List.replicate 32 0)).toArray 22)) w2.heap.size 22 (ic .u8 (List.replicate 32 0))) := Blk.new _ _ _
 generalize World.alloc w2 _ = w3 at HF3 HR3 HS3 ⊢
 have hr2 := HR2.out.lt
 refine wpList_store_mid rfl 22 (.tmp 3) (.tmp 5) rfl w2.heap.size 0 (ic .u8 (sha K p)).toArray rfl rfl (HS3.out.there (by simp [sha_length])) (by rw [List.size_toArray,ic_length,sha_length]; kernel_rfl) (all_oneCell_toArray (ic_one _ _)) ?_
 have HS4 : Hid (Blk (w3.setCells w2.heap.size 0 (ic .u8 (sha K p)).toArray.toList) w2.heap.size 22 (ic .u8 (sha K p))) := HS3.out.putAll _ (by simp [sha_length])
 have HR4 : Hid (Blk (w3.setCells w2.heap.size 0 (ic .u8 (sha K p)).toArray.toList) w.heap.size 81 (ic .u8 (List.replicate 32 0))) := HR3.out.fr (fr_setCells (S := [w2.heap.size]) (by simp) _ _ _ (Fr.refl _ _)) (by simp; omega)
 have HF4 : Hid (Fr [] w (w3.setCells w2.heap.size 0 (ic .u8 (sha K p)).toArray.toList)) := ((HF3.out.mono (by simp)).trans (fr_setCells (S := [w2.heap.size]) (by simp) _ _ _ (Fr.refl _ _))).drop (by simp; exact HF2.out.size)
 generalize World.setCells _ _ _ _ = w4 at HR4 HF4 HS4 ⊢
 obtain ⟨S,hS⟩ : ∃ S,S = w2.heap.size := ⟨_,rfl⟩
 rw [← hS] at HS4 ⊢
 clear HF2 HR2 HF3 HR3 HS3 hr2 hS
 refine wpList_nil ?_
 simp only [Exit.then]
 simp only [Act.put]
 generalize hV : arr (sha K p) = V
 clear hV
 go_wp2_with fail
 have hin : Bytes w4 (.slice (some ⟨S,0,none⟩) 32 32) (sha K p) := by have := ints_whole HS4.out (by rw [sha_length]; decide); rwa [sha_length] at this
 refine (sum256_c K HKl.out w4 (sha K p) _ (HK.out.below HF4.out.below HK.out.lt) hin (by rw [sha_length]; decide)).mono ?_
 rintro e w5 ⟨rfl,hf⟩
 have HF5 : Hid (Fr [] w w5) := HF4.out.trans hf
 have HR5 : Hid (Blk w5 w.heap.size 81 (ic .u8 (List.replicate 32 0))) := HR4.out.fr hf (by simp)
 clear hf HF4 HR4 HS4 hin
 simp only []
 refine (‹∀ (a : Act) (w : World),wpList Tryz.prog _ _ _ a w → _›) _ _ ?_
 refine wpList_store_mid rfl 81 (.tmp 2) (.tmp 7) rfl w.heap.size 0 (ic .u8 (H2 K p)).toArray rfl rfl (HR5.out.there (by simp [H2_length])) (by rw [List.size_toArray,ic_length,H2_length]; kernel_rfl) (all_oneCell_toArray (ic_one _ _)) ?_
 have HR6 : Hid (Blk (w5.setCells w.heap.size 0 (ic .u8 (H2 K p)).toArray.toList) w.heap.size 81 (ic .u8 (H2 K p))) := HR5.out.putAll _ (by simp [H2_length])
 have HF6 : Hid (Fr [] w (w5.setCells w.heap.size 0 (ic .u8 (H2 K p)).toArray.toList)) := ((HF5.out.mono (by simp)).trans (fr_setCells (S := [w.heap.size]) (by simp) _ _ _ (Fr.refl _ _))).drop (by simp)
 generalize World.setCells _ _ _ _ = w6 at HR6 HF6 ⊢
 refine wpList_nil ?_
 refine (‹∀ (a : Act) (w : World),Code.wp Tryz.prog Code.ret _ a w → _›) _ _ ?_
 refine wp_ret ?_
 refine ret_arr rfl rfl (.array 32 5) HR6.out rfl rfl (by rw [H2_length]; kernel_rfl) rfl ?_
 exact ⟨rfl,HF6.out⟩
set_option maxRecDepth 8000 in
theorem hash_c (K : List Int) (hK : K.length = 64) (w : World) (p : List Int) (v : Value) (hKc : Blk w 1 379 (ic .u32 K)) (hp : Bytes w v p) (hlen : p.length < 2 ^ 60) :
  Calls Tryz.prog 11 #[v] w fun e w' => e = .returned (arr (H2 K p)) ∧ Fr [] w w' := by
 have h1w := hKc.lt
 have HK := hid hKc; clear hKc
 have HP := hid hp; clear hp
 have Hlen := hid hlen; clear hlen
 have HKl := hid hK; clear hK
 go_enter Tryz.func11,Tryz.ntmps11
 go_wp2_with fail
 have HF1 : Hid (Fr [] w (w.alloc (.cells (ic .u8 (List.replicate 32 0)).toArray 22))) := (Fr.refl _ _).alloc _
 have HR1 : Hid (Blk (w.alloc (.cells (ic .u8 (List.replicate 32 0)).toArray 22)) w.heap.size 22 (ic .u8 (List.replicate 32 0))) := Blk.new _ _ _
 refine Calls.mono (P := Tryz.prog) (w := w.alloc (.cells (ic .u8 (List.replicate 32 0)).toArray 22)) (dhash_c K HKl.out _ p v (HK.out.below HF1.out.below HK.out.lt) (HP.out.below HF1.out.below) Hlen.out) ?_
 generalize World.alloc w _ = w1 at HF1 HR1 ⊢
 rintro e w5 ⟨rfl,hf⟩
 have HF5 : Hid (Fr [] w w5) := HF1.out.trans hf
 have HR5 : Hid (Blk w5 w.heap.size 22 (ic .u8 (List.replicate 32 0))) := HR1.out.fr hf (by simp)
 clear hf HF1 HR1
 simp only []
 refine (‹∀ (a : Act) (w : World),wpList Tryz.prog _ _ _ a w → _›) _ _ ?_
 refine wpList_store_mid rfl 22 (.tmp 2) (.tmp 4) rfl w.heap.size 0 (ic .u8 (H2 K p)).toArray rfl rfl (HR5.out.there (by simp [H2_length])) (by rw [List.size_toArray,ic_length,H2_length]; kernel_rfl) (all_oneCell_toArray (ic_one _ _)) ?_
 have HR6 : Hid (Blk (w5.setCells w.heap.size 0 (ic .u8 (H2 K p)).toArray.toList) w.heap.size 22 (ic .u8 (H2 K p))) := HR5.out.putAll _ (by simp [H2_length])
 have HF6 : Hid (Fr [] w (w5.setCells w.heap.size 0 (ic .u8 (H2 K p)).toArray.toList)) := ((HF5.out.mono (by simp)).trans (fr_setCells (S := [w.heap.size]) (by simp) _ _ _ (Fr.refl _ _))).drop (by simp)
 generalize World.setCells _ _ _ _ = w6 at HR6 HF6 ⊢
 refine wpList_nil ?_
 refine (‹∀ (a : Act) (w : World),Code.wp Tryz.prog Code.ret _ a w → _›) _ _ ?_
 refine wp_ret ?_
 refine ret_arr rfl rfl (.array 32 5) HR6.out rfl rfl (by rw [H2_length]; kernel_rfl) rfl ?_
 exact ⟨rfl,HF6.out⟩
end Go.Proofs.YtdllckiidegpcaaGreat
