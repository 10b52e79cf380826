/- A part of the walk of laws.FnPartial (part 37): contracts of functions that it comes to, and the plain laws that these lean on. Conditions stand in each contract. -/
import Derived.Test.YtdllckiidegpcaaGreatA33
set_option linter.unusedSimpArgs false
set_option linter.unusedVariables false
set_option maxHeartbeats 4000000
namespace Go.Proofs.YtdllckiidegpcaaGreat
open Go.RowKit
section
set_option maxRecDepth 8000
theorem pushesOf_snoc (l : List Tok) (i : Nat) (h : i < l.length) : pushesOf (l.take (i + 1)) = pushesOf (l.take i) ++ (if pushT l[i] then [l[i].data] else []) := by
 rw [List.take_add_one,List.getElem?_eq_getElem h,pushesOf_append]
 congr 1
 unfold pushesOf
 cases hp : pushT l[i] <;> simp [hp]
theorem pushesOf_le (l : List Tok) : (pushesOf l).length ≤ l.length := by unfold pushesOf; rw [List.length_map]; exact List.length_filter_le _ _
theorem pushed_c (w : World) (B Bt : Nat) (hBt : Bt ≤ w.heap.size) (hBw : B ≤ w.heap.size) (v : Value) (l : List Tok) (hv : ListB Bt 3 (TokE B) w v l) (hn : l.length ≤ 1000000) :
  Calls Tryz.prog 92 #[v] w fun e w' => ∃ v',e = .returned v' ∧ Fr [] w w' ∧ ListT w'.heap.size 29 1 (BytE B) w' v' (pushesOf l) := by
 obtain ⟨a,cap,rfl,hq1,hq2⟩ := hv.len
 clear hq1 hq2
 have hn6 : (l.length : Int) ≤ 1000000 := by omega
 have Hhv := hid hv; clear hv
 have Hhn := hid hn; clear hn
 go_enter Tryz.func92,Tryz.ntmps92
 go_wp2_with fail
 go_loopg [3,4] (l.length) (fun gk v3 v4 wr => ∃ i vr,vr = v3 ∧ gk = l.length - i ∧ i ≤ l.length ∧ v4 = .int .i64 (i : Int) ∧ Grows w.heap.size 29 1 (BytE B) wr vr (pushesOf (l.take i)) ∧ Fr [] w wr)
 case atStart => exact ⟨0,_,rfl,rfl,Nat.zero_le _,rfl,Grows.nil _,Fr.refl _ _⟩
 case round =>
  obtain ⟨i,vr,rfl,rfl,hi,rfl,hg,hf⟩ := hrel
  have HG := hid hg; clear hg
  have HF := hid hf; clear hf
  by_cases hlt : i < l.length
  ·have hlti : (i : Int) < l.length := by omega
   obtain ⟨b,off,cap',c,he,hb,hcl,hrg,hE⟩ := Hhv.out.at hlt (by decide)
   simp only [Value.slice.injEq] at he
   obtain ⟨rfl,_,rfl⟩ := he
   obtain ⟨dv,rfl,hd⟩ := hE
   have e0 : wr.cell? ⟨b,off + i * 3,none⟩ = some (.int .i64 l[i].op) := hrg wr (HF.out.below.mono hBt) 0 _ rfl
   have e1 : wr.cell? ⟨b,off + i * 3 + 1,none⟩ = some dv := hrg wr (HF.out.below.mono hBt) 1 _ rfl
   have hbl : b < wr.heap.size := Nat.lt_of_lt_of_le hb (Nat.le_trans hBt HF.out.size)
   have HD := hid (hd.below (HF.out.below.mono hBw)); clear hd hrg hcl
   have Hsn := hid (pushesOf_snoc l i hlt)
   have Hle : Hid ((pushesOf (l.take i)).length ≤ 1000000) := by have h1 := pushesOf_le (l.take i); have h2 := List.length_take_le i l; have := Hhn.out; rw [List.length_take] at h1; show _ ≤ _; omega
   obtain ⟨tk,htk⟩ : ∃ tk,tk = l[i] := ⟨_,rfl⟩
   rw [← htk] at e0 HD Hsn
   clear htk
   by_cases hop : tk.op ≤ 78
   ·have HS2 : Hid (pushesOf (l.take (i + 1)) = pushesOf (l.take i) ++ [tk.data]) := by show _ = _; rw [Hsn.out,if_pos (by simpa [pushT] using hop)]
    clear Hsn
    obtain ⟨ad,cd,rfl,hq1,hq2⟩ := HD.out.form
    clear hq1 hq2
    have HE1 := hid e1
    go_upto_region 6 with fail
    refine wp_region_lit ?_
    refine wpList_run (v := vr) rfl rfl ?_
    simp only [Act.put,nA,nB,nC]
    refine wpList_run (v := .slice (some ⟨b,off,none⟩) l.length cap) rfl rfl ?_
    simp only [Act.put,nA,nB,nC]
    refine wpList_run (v := .int .i64 (i : Int)) rfl rfl ?_
    simp only [Act.put,nA,nB,nC]
    refine wpList_index rfl 99 (.tmp 18) (.tmp 19) rfl b off l.length cap i 3 .i64 103 rfl rfl hlt (by kernel_rfl) (by kernel_rfl) ?_
    simp only [Act.put,nA,nB,nC]
    refine wpList_run (v := .pointer (some ⟨b,off + i * 3 + 1,none⟩)) rfl rfl ?_
    simp only [Act.put,nA,nB,nC]
    refine wpList_load1 rfl 29 (.tmp 21) rfl b (off + i * 3 + 1) rfl (.slice ad tk.data.length cd) _ (HE1.out) rfl rfl ?_
    simp only [Act.put,nA,nB,nC]
    refine wpList_bs1 rfl 96 (.tmp 22) rfl 29 1 24 elem96 (by decide) (.slice ad tk.data.length cd) [.slice ad tk.data.length cd] rfl rfl rfl ?_
    simp only [Act.put,nA,nB,nC]
    refine wpList_pushF rfl (.tmp 17) (.tmp 23) 96 rfl 29 1 24 elem96 w wr (BytE B) vr _ rfl #[.slice ad tk.data.length cd] rfl rfl HG.out HF.out rfl (by intro u hu; rw [List.mem_singleton] at hu; subst hu; rfl) (fun wa w' _ hb c y h => h.below (hb.mono hBw)) tk.data ⟨_,rfl,HD.out⟩ (by have := Hle.out; omega) ?_
    intro v2 w2 HG2 HF2 _ _
    rw [← HS2.out] at HG2
    simp only [Act.put,nA,nB,nC]
    clear e0 e1 HE1 hbl HD HG
    go_wp2_with fail
    go_roundg (l.length - (i + 1))
    case measure => omega
    case rel => exact ⟨i + 1,_,rfl,rfl,by omega,by simp,HG2.out,HF2.out⟩
   ·have HS2 : Hid (pushesOf (l.take (i + 1)) = pushesOf (l.take i)) := by show _ = _; rw [Hsn.out,if_neg (by simpa [pushT] using hop),List.append_nil]
    clear Hsn
    rw [← HS2.out] at HG
    go_wp2_with fail
    go_roundg (l.length - (i + 1))
    case measure => omega
    case rel => exact ⟨i + 1,_,rfl,rfl,by omega,by simp,HG.out,HF.out⟩
  ·have HG2 : Hid (Grows w.heap.size 29 1 (BytE B) wr vr (pushesOf l)) := by have := HG.out; rwa [List.take_of_length_le (by omega)] at this
   go_wp2_with fail
   go_ret
   exact ⟨_,rfl,HF.out,HG2.out.listT⟩
theorem toks_len (s : List Int) (p : Nat) : (toksFrom s p).1.length ≤ s.length - p := by
 unfold toksFrom
 have : ∀ f p,(toksF s f p).1.length ≤ f := by
  intro f
  induction f with
  | zero => intro p; simp [toksF]
  | succ f ih =>
   intro p
   simp only [toksF]
   split
   ·split
    ·simp
    ·rename_i d q _; simp only [List.length_cons]; have := ih q; omega
   ·simp
 exact this _ _
theorem sPushes_c (w : World) (B : Nat) (hBw : B ≤ w.heap.size) (v : Value) (s : List Int) (hv : BytesB B w v s) (hu : U8 s) (hs : s.length ≤ 1000000) :
  Calls Tryz.prog 57 #[v] w fun e w' => ∃ v',e = .returned v' ∧ Fr [] w w' ∧ ListT w'.heap.size 29 1 (BytE B) w' v' (pushesW s) := by
 obtain ⟨a,cap,rfl,hq1,hq2⟩ := hv.form
 clear hq1 hq2
 have Hhv := hid hv; clear hv
 have Hhu := hid hu; clear hu
 have Hhs := hid hs; clear hs
 go_enter Tryz.func57,Tryz.ntmps57
 go_wp2_with fail
 refine (tokens_c w B hBw _ s Hhv.out Hhu.out Hhs.out).mono ?_
 rintro e w1 ⟨tv,rfl,hf,ht⟩
 have HF := hid hf; clear hf
 have HT := hid ht; clear ht
 have HLn : Hid ((toks s).1.length ≤ 1000000) := by have := toks_len s 0; have := Hhs.out; show (toksFrom s 0).1.length ≤ _; omega
 cases hb : (toks s).2 with
 | none =>
  have HP : Hid (pushesW s = pushesOf (toks s).1) := by show _ = _; rw [pushesW,if_pos hb]; rfl
  clear hb
  have hbi : badInt none = -1 := rfl
  rw [hbi]
  clear hbi
  go_wp2_with fail
  refine (pushed_c w1 B w1.heap.size (Nat.le_refl _) (Nat.le_trans hBw HF.out.size) tv (toks s).1 (HT.out.listB (fun _ _ h => ?_)) HLn.out).mono ?_
  ·exact h
  rintro e w2 ⟨v2,rfl,hf,hl⟩
  have HF2 := hid (HF.out.trans hf)
  have HL := hid hl
  clear hf hl
  go_wp2_with fail
  go_ret
  exact ⟨_,rfl,HF2.out,by rw [HP.out]; exact HL.out⟩
 | some p =>
  have HP : Hid (pushesW s = []) := by show _ = _; rw [pushesW,if_neg (by rw [hb]; simp)]
  clear hb
  have hbi : badInt (some p) = (p : Int) := rfl
  rw [hbi]
  clear hbi
  have hp0 : (0 : Int) ≤ p := by omega
  go_wp2_with fail
  go_ret
  exact ⟨_,rfl,HF.out,by rw [HP.out]; exact ⟨[],rfl,by simp,RdT.nil,by simp⟩⟩
end
section
set_option maxRecDepth 8000
/-- The number that a token pushes as a small one; else 0. -/
def smallV (x : Int) : Int := if smallB x then smallN x else 0
theorem smallV_t {x : Int} (h : smallB x = true) : smallV x = smallN x := by rw [smallV,if_pos h]
theorem smallV_f {x : Int} (h : smallB x = false) : smallV x = 0 := by rw [smallV,h]; rfl
theorem small_c (w : World) (x : Int) (h0 : 0 ≤ x) (h1 : x ≤ 255) : Calls Tryz.prog 122 #[.int .i64 x] w fun e w' => e = .returned (.tuple #[.int .i64 (smallV x),.bool (smallB x)]) ∧ w = w' := by
 by_cases hx : x = 0
 ·subst hx
  go_enter Tryz.func122,Tryz.ntmps122
  go_wp2_with fail
  go_ret2
  exact ⟨rfl,rfl⟩
 ·have hx0 : (x == 0) = false := by rw [beq_eq_false_iff_ne]; exact hx
  by_cases h2 : 81 ≤ x
  ·by_cases h3 : x ≤ 96
   ·have HR : Hid (smallB x = true ∧ smallN x = x - 81 + 1) := by show _ ∧ _; refine ⟨by simp [smallB]; omega, ?_⟩; rw [smallN,if_neg hx]; omega
    clear hx
    go_enter Tryz.func122,Tryz.ntmps122
    go_wp2_with fail
    go_ret2
    rw [smallV_t HR.out.1,HR.out.1,HR.out.2]
    exact ⟨rfl,rfl⟩
   ·have HR : Hid (smallB x = false) := by show _ = _; simp [smallB]; omega
    clear hx
    go_enter Tryz.func122,Tryz.ntmps122
    go_wp2_with fail
    go_ret2
    rw [smallV_f HR.out,HR.out]
    exact ⟨rfl,rfl⟩
  ·have HR : Hid (smallB x = false) := by show _ = _; simp [smallB]; omega
   clear hx
   go_enter Tryz.func122,Tryz.ntmps122
   go_wp2_with fail
   go_ret2
   rw [smallV_f HR.out,HR.out]
   exact ⟨rfl,rfl⟩
/-- How many bytes a key has by its first byte. -/
def keyForm (d : List Int) : Int := if d.length = 33 ∧ (nth d 0 = 2 ∨ nth d 0 = 3) then 33 else if d.length = 65 ∧ nth d 0 = 4 then 65 else 0
theorem keyForm_c (w : World) (B : Nat) (hBw : B ≤ w.heap.size) (v : Value) (d : List Int) (hv : BytesB B w v d) : Calls Tryz.prog 123 #[v] w fun e w' => e = .returned (.int .i64 (keyForm d)) ∧ w' = w := by
 obtain ⟨a,cap,rfl,hq1,hq2,hc⟩ := hv
 clear hq1 hq2
 have HC : Hid (1 ≤ d.length → ∃ b off,a = some ⟨b,off,none⟩ ∧ b < w.heap.size ∧ w.cell? ⟨b,off,none⟩ = some (.int .u8 (nth d 0))) := by
  intro h1
  rcases hc with ⟨_,_,he⟩ | ⟨b,off,rfl,hb,hc⟩
  ·have : (ic .u8 d).length = 0 := by rw [he]; rfl
   rw [ic_length] at this; omega
  ·refine ⟨b,off,rfl,Nat.lt_of_lt_of_le hb hBw, ?_⟩
   have := hc 0 (by rw [ic_length]; omega)
   rwa [Nat.add_zero,ic_nth] at this
 clear hc
 obtain ⟨n,hn⟩ : ∃ n,n = d.length := ⟨_,rfl⟩
 obtain ⟨y,hy⟩ : ∃ y,y = nth d 0 := ⟨_,rfl⟩
 have HK : Hid (keyForm d = if n = 33 ∧ (y = 2 ∨ y = 3) then 33 else if n = 65 ∧ y = 4 then 65 else 0) := by show _ = _; rw [hn,hy]; rfl
 rw [← hn] at HC ⊢
 rw [← hy] at HC
 clear hn hy
 by_cases h33 : n = 33
 ·subst h33
  obtain ⟨b,off,rfl,hb,hcl⟩ := HC.out (by omega)
  clear HC
  by_cases h2 : y = 2
  ·subst h2
   go_enter Tryz.func123,Tryz.ntmps123
   go_wp2_with fail
   go_ret
   rw [HK.out]; exact ⟨rfl,rfl⟩
  ·by_cases h3 : y = 3
   ·subst h3
    clear h2
    go_enter Tryz.func123,Tryz.ntmps123
    go_wp2_with fail
    go_ret
    rw [HK.out]; exact ⟨rfl,rfl⟩
   ·have e2 : (y == 2) = false := by rw [beq_eq_false_iff_ne]; exact h2
    have e3 : (y == 3) = false := by rw [beq_eq_false_iff_ne]; exact h3
    have HR : Hid (keyForm d = 0) := by show _ = _; rw [HK.out,if_neg (by omega),if_neg (by omega)]
    clear h2 h3
    go_enter Tryz.func123,Tryz.ntmps123
    go_wp2_with fail
    go_ret
    rw [HR.out]; exact ⟨rfl,rfl⟩
 ·by_cases h65 : n = 65
  ·subst h65
   obtain ⟨b,off,rfl,hb,hcl⟩ := HC.out (by omega)
   clear HC h33
   by_cases h4 : y = 4
   ·subst h4
    go_enter Tryz.func123,Tryz.ntmps123
    go_wp2_with fail
    go_ret
    rw [HK.out]; exact ⟨rfl,rfl⟩
   ·have e4 : (y == 4) = false := by rw [beq_eq_false_iff_ne]; exact h4
    have HR : Hid (keyForm d = 0) := by show _ = _; rw [HK.out,if_neg (by omega),if_neg (by omega)]
    clear h4
    go_enter Tryz.func123,Tryz.ntmps123
    go_wp2_with fail
    go_ret
    rw [HR.out]; exact ⟨rfl,rfl⟩
  ·have e1 : ((n : Int) == 33) = false := by rw [beq_eq_false_iff_ne]; omega
   have e2 : ((n : Int) == 65) = false := by rw [beq_eq_false_iff_ne]; omega
   have HR : Hid (keyForm d = 0) := by show _ = _; rw [HK.out,if_neg (by omega),if_neg (by omega)]
   clear h33 h65 HC
   go_enter Tryz.func123,Tryz.ntmps123
   go_wp2_with fail
   go_ret
   rw [HR.out]; exact ⟨rfl,rfl⟩
/-- A key's script, by its tokens. -/
def sKeyL (l : List Tok) : Bool := match l with
 | [t,u] => decide (t.op = t.data.length) && decide (0 < keyForm t.data) && decide (u.op = 172)
 | _ => false
def sKeyB (s : List Int) : Bool := decide ((toks s).2 = none) && sKeyL (toks s).1
set_option maxHeartbeats 1000000 in
theorem sIsKey_c (w : World) (B : Nat) (hBw : B ≤ w.heap.size) (v : Value) (s : List Int) (hv : BytesB B w v s) (hu : U8 s) (hs : s.length ≤ 1000000) :
  Calls Tryz.prog 94 #[v] w fun e w' => e = .returned (.bool (sKeyB s)) ∧ Fr [] w w' := by
 obtain ⟨a,cap,rfl,hq1,hq2⟩ := hv.form
 clear hq1 hq2
 have Hhv := hid hv; clear hv
 have Hhu := hid hu; clear hu
 have Hhs := hid hs; clear hs
 go_enter Tryz.func94,Tryz.ntmps94
 go_wp2_with fail
 refine (tokens_c w B hBw _ s Hhv.out Hhu.out Hhs.out).mono ?_
 rintro e w1 ⟨tv,rfl,hf,ht⟩
 have HF := hid hf; clear hf
 have HT := hid (ht.listB (fun _ _ h => h)); clear ht
 obtain ⟨at',ct,rfl,hc1,hc2⟩ := HT.out.len
 clear hc1 hc2
 have HLn : Hid ((toks s).1.length ≤ 1000000) := by have := toks_len s 0; have := Hhs.out; show (toksFrom s 0).1.length ≤ _; omega
 obtain ⟨l,hl⟩ : ∃ l,l = (toks s).1 := ⟨_,rfl⟩
 have HS : Hid (sKeyB s = (decide ((toks s).2 = none) && sKeyL l)) := by show _ = _; rw [hl]; rfl
 rw [← hl] at HT HLn ⊢
 clear hl
 cases hb : (toks s).2 with
 | some p =>
  have HR : Hid (sKeyB s = false) := by show _ = _; rw [HS.out,hb]; rfl
  have hbi : badInt (some p) = (p : Int) := rfl
  rw [hbi]
  have hp0 : ¬ ((p : Int) < 0) := by omega
  have hpd : decide ((p : Int) < 0) = false := decide_eq_false hp0
  clear hb hbi
  go_upto_region 2 with fail
  go_quiet (fail)
  go_wp2_with fail
  go_ret
  exact ⟨congrArg (fun b => Ending.returned (.bool b)) HR.out.symm,HF.out.drewN _⟩
 | none =>
  rw [hb] at HS
  have hbi : badInt none = -1 := rfl
  rw [hbi]
  clear hb hbi
  by_cases h2 : l.length = 2
  ·have hL : l = [l[0],l[1]] := by
    match l,h2 with
    | [t,u],_ => rfl
   obtain ⟨b,off,cap',c,he,hbB,hcl,hrg,hE⟩ := HT.out.at (i := 0) (by omega) (by decide)
   simp only [Value.slice.injEq] at he
   obtain ⟨rfl,_,rfl⟩ := he
   obtain ⟨b',off',cap'',c',he',hbB',hcl',hrg',hE'⟩ := HT.out.at (i := 1) (by omega) (by decide)
   simp only [Value.slice.injEq,Option.some.injEq,Addr.mk.injEq] at he'
   obtain ⟨⟨rfl,rfl,_⟩,_,rfl⟩ := he'
   obtain ⟨dv,rfl,hd⟩ := hE
   obtain ⟨dv',rfl,hd'⟩ := hE'
   have e0 : w1.cell? ⟨b,off,none⟩ = some (.int .i64 l[0].op) := by have := hrg w1 (Below.refl _ _) 0 _ rfl; simpa using this
   have e1 : w1.cell? ⟨b,off + 1,none⟩ = some dv := by have := hrg w1 (Below.refl _ _) 1 _ rfl; simpa using this
   have e3 : w1.cell? ⟨b,off + 3,none⟩ = some (.int .i64 l[1].op) := by have := hrg' w1 (Below.refl _ _) 0 _ rfl; simpa using this
   obtain ⟨t,ht⟩ : ∃ t,t = l[0] := ⟨_,rfl⟩
   obtain ⟨u,hu⟩ : ∃ u,u = l[1] := ⟨_,rfl⟩
   rw [← ht] at e0 hL hd
   rw [← hu] at e3 hL
   rw [h2]
   have HS2 : Hid (sKeyB s = (decide (t.op = t.data.length) && decide (0 < keyForm t.data) && decide (u.op = 172))) := by show _ = _; rw [HS.out,hL]; rfl
   have HD : Hid (BytesB B w1 dv t.data) := hd
   obtain ⟨ad,cd,rfl,hq1,hq2⟩ := HD.out.form
   have hbl : b < w1.heap.size := hbB
   clear hq1 hq2 hd hd' hrg hrg' hcl hcl' hbB hbB' HT hL h2 ht hu HS HLn
   have hBw1 : B ≤ w1.heap.size := Nat.le_trans hBw HF.out.size
   have HK := hid (fun n : Nat => keyForm_c (w1.drewN n) B hBw1 _ t.data HD.out)
   have hkf : 0 ≤ keyForm t.data := by unfold keyForm; split; { decide }; split <;> decide
   obtain ⟨ot,hto⟩ : ∃ ot,ot = t.op := ⟨_,rfl⟩
   obtain ⟨ou,huo⟩ : ∃ ou,ou = u.op := ⟨_,rfl⟩
   rw [← hto,← huo] at HS2
   rw [← hto] at e0
   rw [← huo] at e3
   clear hto huo HD hBw1
   generalize keyForm t.data = kf at HS2 HK hkf
   generalize t.data.length = n at HS2 e1 HK
   by_cases h1 : ot = (n : Int)
   ·subst h1
    by_cases h3 : 0 < kf
    ·by_cases h4 : ou = 172
     ·subst h4
      have HR : Hid (sKeyB s = true) := by show _ = _; rw [HS2.out]; simp [h3]
      clear HS2
      go_upto_region 2 with fail
      go_quiet ((exact Calls.quiet_of_same (HK.out _)))
      go_wp2_with fail
      go_ret
      exact ⟨congrArg (fun b => Ending.returned (.bool b)) HR.out.symm,HF.out.drewN _⟩
     ·have HR : Hid (sKeyB s = false) := by show _ = _; rw [HS2.out]; simp [h4]
      have h4b : (ou == 172) = false := by rw [beq_eq_false_iff_ne]; exact h4
      clear HS2 h4
      go_upto_region 2 with fail
      go_quiet ((exact Calls.quiet_of_same (HK.out _)))
      go_wp2_with fail
      go_ret
      exact ⟨congrArg (fun b => Ending.returned (.bool b)) HR.out.symm,HF.out.drewN _⟩
    ·have HR : Hid (sKeyB s = false) := by show _ = _; rw [HS2.out]; simp [h3]
     have h3d : decide (0 < kf) = false := decide_eq_false h3
     clear HS2
     go_upto_region 2 with fail
     go_quiet ((exact Calls.quiet_of_same (HK.out _)))
     go_wp2_with fail
     go_ret
     exact ⟨congrArg (fun b => Ending.returned (.bool b)) HR.out.symm,HF.out.drewN _⟩
   ·have HR : Hid (sKeyB s = false) := by show _ = _; rw [HS2.out]; simp [h1]
    have h1b : (ot == (n : Int)) = false := by rw [beq_eq_false_iff_ne]; exact h1
    clear HS2 h1
    go_upto_region 2 with fail
    go_quiet (fail)
    go_wp2_with fail
    go_ret
    exact ⟨congrArg (fun b => Ending.returned (.bool b)) HR.out.symm,HF.out.drewN _⟩
  ·have HR : Hid (sKeyB s = false) := by
    show _ = _; rw [HS.out]
    have : sKeyL l = false := by
     match l,h2 with
     | [],_ => rfl
     | [_],_ => rfl
     | [_,_],h => exact absurd rfl h
     | _ :: _ :: _ :: _,_ => rfl
    rw [this]; rfl
   have h2b : ((l.length : Int) == 2) = false := by rw [beq_eq_false_iff_ne]; omega
   clear HS h2 HT HLn
   go_upto_region 2 with fail
   go_quiet (fail)
   go_wp2_with fail
   go_ret
   exact ⟨congrArg (fun b => Ending.returned (.bool b)) HR.out.symm,HF.out.drewN _⟩
end
end Go.Proofs.YtdllckiidegpcaaGreat
