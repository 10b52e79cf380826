/- A part of the walk of laws.FnPartial (part 22): contracts of functions that it comes to, and the plain laws that these lean on. Conditions stand in each contract. -/
import Derived.Test.YtdllckiidegpcaaGreatA14
import Derived.Test.YtdllckiidegpcaaGreatA18
import Derived.Test.YtdllckiidegpcaaGreatA21
set_option linter.unusedSimpArgs false
set_option linter.unusedVariables false
namespace Go.Proofs.YtdllckiidegpcaaGreat
open Go.RowKit
def hybTok (t : Tok) : Bool := decide (t.data.length = 65 ∧ (nth t.data 0 = 6 ∨ nth t.data 0 = 7))
def hybridB (s : List Int) : Bool := (toks s).1.any hybTok
theorem any_take {α : Type} (f : α → Bool) (l : List α) (i : Nat) (h : i < l.length) : (l.take (i + 1)).any f = ((l.take i).any f || f l[i]) := by
 rw [List.take_add_one,List.getElem?_eq_getElem h,List.any_append]; simp
theorem any_at {α : Type} (f : α → Bool) (l : List α) (i : Nat) (h : i < l.length) (hf : f l[i] = true) : l.any f = true := List.any_eq_true.mpr ⟨_,List.getElem_mem h,hf⟩
set_option maxRecDepth 8000 in
theorem hybrid_c (w : World) (B : Nat) (hBw : B ≤ w.heap.size) (v : Value) (s : List Int) (hv : BytesB B w v s) (hu : U8 s) (hs : s.length ≤ 1000000) :
  Calls Tryz.prog 19 #[v] w fun e w' => e = .returned (.bool (hybridB s)) ∧ Fr [] w w' := by
 obtain ⟨a,cap,rfl,h1,h2⟩ := hv.form
 have HV := hid hv; clear hv
 have Hu := hid hu; clear hu
 have Hs := hid hs; clear hs
 clear h1 h2
 go_enter Tryz.func19,Tryz.ntmps19
 go_wp2_with fail
 refine (tokens_c w B hBw _ s HV.out Hu.out Hs.out).mono ?_
 rintro e w1 ⟨tv,rfl,hf,ht⟩
 have HF := hid hf; clear hf
 have HT := hid (ht.listB (fun _ _ h => h)); clear ht
 obtain ⟨at',ct,rfl,hc1,hc2⟩ := HT.out.len
 have hll : (toks s).1.length ≤ maxLen := Nat.le_trans hc1 hc2
 unfold maxLen at hll
 have hli : ((toks s).1.length : Int) ≤ 9223372036854775807 := by omega
 clear hc1 hc2 hll
 obtain ⟨l,hl⟩ : ∃ l,l = (toks s).1 := ⟨_,rfl⟩
 have Hb : Hid (hybridB s = l.any hybTok) := by show _ = _; rw [hl]; rfl
 rw [← hl] at HT hli ⊢
 clear hl
 go_wp2_with fail
 go_loopg [5] (l.length) (fun gk v5 wr => ∃ i,gk = l.length - i ∧ i ≤ l.length ∧ v5 = .int .i64 (i : Int) ∧ (l.take i).any hybTok = false ∧ w1 = wr)
 case atStart => exact ⟨0,rfl,Nat.zero_le _,rfl,rfl,rfl⟩
 case round =>
  obtain ⟨i,rfl,hi,rfl,hn,rfl⟩ := hrel
  have HN := hid hn; clear hn
  by_cases hlt : i < l.length
  ·have hlti : (i : Int) < l.length := by omega
   obtain ⟨b,off,cap',c,he,hb,hcl,hrg,hE⟩ := HT.out.at hlt (by decide)
   simp only [Value.slice.injEq] at he
   obtain ⟨rfl,_,rfl⟩ := he
   obtain ⟨dv,rfl,hd⟩ := hE
   have e1 := hrg w1 (Below.refl _ _) 1 dv rfl
   clear hrg
   have HD := hid hd; clear hd
   obtain ⟨ad,cd,rfl,hq1,hq2⟩ := HD.out.form
   clear hq1 hq2
   have htk := any_take hybTok l i hlt
   have Htk := hid htk; clear htk
   by_cases h65 : l[i].data.length = 65
   ·obtain ⟨_,_,he,hq1,hq2,hcs⟩ := HD.out
    clear hq1 hq2
    simp only [Value.slice.injEq] at he
    obtain ⟨rfl,_,rfl⟩ := he
    rcases hcs with ⟨_,_,hcs⟩ | ⟨b2,off2,rfl,hb2,hcs⟩
    ·have := congrArg List.length hcs; rw [ic_length,List.length_nil] at this; omega
    have e2 := hcs 0 (by rw [ic_length]; omega)
    rw [ic_nth,Nat.add_zero] at e2
    clear hcs
    rw [h65] at e1
    obtain ⟨x,hx⟩ : ∃ x,x = nth l[i].data 0 := ⟨_,rfl⟩
    rw [← hx] at e2
    have Hx := hid hx; clear hx
    have H65 := hid h65; clear h65
    by_cases hx6 : x = 6
    ·subst hx6
     have hT : Hid (l.any hybTok = true) := any_at hybTok l i hlt (by simp [hybTok,H65.out,← Hx.out])
     go_wp2_with fail
     go_ret
     exact ⟨congrArg (fun b => Ending.returned (.bool b)) (by rw [Hb.out,hT.out]),HF.out⟩
    ·by_cases hx7 : x = 7
     ·subst hx7
      have hT : Hid (l.any hybTok = true) := any_at hybTok l i hlt (by simp [hybTok,H65.out,← Hx.out])
      go_wp2_with fail
      go_ret
      exact ⟨congrArg (fun b => Ending.returned (.bool b)) (by rw [Hb.out,hT.out]),HF.out⟩
     ·have hN1 : Hid ((l.take (i + 1)).any hybTok = false) := by
       show _ = _
       rw [Htk.out,HN.out]; simp [hybTok,← Hx.out,hx6,hx7]
      have e6 : (x == 6) = false := by simp [hx6]
      have e7 : (x == 7) = false := by simp [hx7]
      go_wp2_with fail
      go_roundg (l.length - (i + 1))
      case measure => omega
      case rel => exact ⟨i + 1,rfl,by omega,by simp,hN1.out,rfl⟩
   ·have h65i : ¬ ((l[i].data.length : Int) = 65) := by omega
    have hN1 : Hid ((l.take (i + 1)).any hybTok = false) := by
     show _ = _
     rw [Htk.out,HN.out]; simp [hybTok,h65]
    clear h65
    go_wp2_with fail
    go_roundg (l.length - (i + 1))
    case measure => omega
    case rel => exact ⟨i + 1,rfl,by omega,by simp,hN1.out,rfl⟩
  ·have hT : Hid (l.any hybTok = false) := by
    have : i = l.length := by omega
    have h := HN.out
    rwa [this,List.take_length] at h
   go_wp2_with fail
   go_ret
   exact ⟨congrArg (fun b => Ending.returned (.bool b)) (by rw [Hb.out,hT.out]),HF.out⟩
def oddB (t : Tx) : Bool := t.outs.any fun o => hybridB o.script
set_option maxRecDepth 8000 in
theorem odd_c (w : World) (B : Nat) (hBw : B ≤ w.heap.size) (c : List Value) (t : Tx) (ht : t.Ok) (hsz : ∀ o ∈ t.outs,o.script.length ≤ 1000000) (hc : TxE B w c t) :
  Calls Tryz.prog 8 #[.agg c.toArray] w fun e w' => e = .returned (.bool (oddB t)) ∧ Fr [] w w' := by
 obtain ⟨iv,ov,rfl,hi,ho⟩ := hc
 obtain ⟨ao,co,rfl,ho1,ho2⟩ := ho.len
 have hol : t.outs.length ≤ maxLen := Nat.le_trans ho1 ho2
 unfold maxLen at hol
 have hol' : (t.outs.length : Int) ≤ 9223372036854775807 := by omega
 clear ho1 ho2 hol hi
 have HO := hid ho; clear ho
 have Ht := hid ht; clear ht
 have Hsz := hid hsz; clear hsz
 go_enter Tryz.func8,Tryz.ntmps8
 go_upto_region 1 with fail
 have HF1 : Hid (Fr [] w (w.alloc (.cells [.int .i32 t.version,iv,.slice ao t.outs.length co,.int .u32 t.lock].toArray 39))) := (Fr.refl _ _).alloc _
 have HB1 : Hid (Blk (w.alloc (.cells [.int .i32 t.version,iv,.slice ao t.outs.length co,.int .u32 t.lock].toArray 39)) w.heap.size 39 [.int .i32 t.version,iv,.slice ao t.outs.length co,.int .u32 t.lock]) := Blk.new _ _ _
 change Code.wp _ _ _ _ (w.alloc (.cells [.int .i32 t.version,iv,.slice ao t.outs.length co,.int .u32 t.lock].toArray 39))
 generalize World.alloc w _ = w1 at HF1 HB1 ⊢
 go_wp2_with fail
 go_loopg [3] (t.outs.length) (fun gk v3 wr => ∃ i,gk = t.outs.length - i ∧ i ≤ t.outs.length ∧ v3 = .int .i64 (i : Int) ∧ (t.outs.take i).any (fun o => hybridB o.script) = false ∧ Fr [] w1 wr)
 case atStart => exact ⟨0,rfl,Nat.zero_le _,rfl,rfl,Fr.refl _ _⟩
 case round =>
  obtain ⟨i,rfl,hi,rfl,hn,hf⟩ := hrel
  have HN := hid hn; clear hn
  have HF := hid hf; clear hf
  have HB := hid (HB1.out.fr HF.out (by simp))
  have c1 : wr.cell? ⟨w.heap.size,2,none⟩ = some (.slice ao t.outs.length co) := HB.out.cell_at rfl
  have hl := HB.out.lt
  by_cases hlt : i < t.outs.length
  ·have hlti : (i : Int) < t.outs.length := by omega
   obtain ⟨b,off,cap',c,he,hb,hcl,hrg,hE⟩ := HO.out.at hlt (by decide)
   simp only [Value.slice.injEq] at he
   obtain ⟨rfl,_,rfl⟩ := he
   obtain ⟨sv,rfl,hsv⟩ := hE
   have e1 := hrg wr ((HF1.out.trans HF.out).below.mono hBw) 1 sv rfl
   clear hrg
   have HS : Hid (BytesB B wr sv t.outs[i].script) := hsv.below ((HF1.out.trans HF.out).below.mono hBw)
   clear hsv
   have Htk := hid (any_take (fun o => hybridB o.script) t.outs i hlt)
   go_wp2_with fail
   refine (hybrid_c wr B (Nat.le_trans hBw (HF1.out.trans HF.out).size) sv _ HS.out (Ht.out.outs _ (List.getElem_mem hlt)).u8 (Hsz.out _ (List.getElem_mem hlt))).mono ?_
   rintro e w2 ⟨rfl,hf2⟩
   have HF2 : Hid (Fr [] w1 w2) := HF.out.trans hf2
   clear hf2
   cases hb : hybridB t.outs[i].script
   ·have hN1 : Hid ((t.outs.take (i + 1)).any (fun o => hybridB o.script) = false) := by
     show _ = _
     rw [Htk.out,HN.out,hb]; rfl
    clear hb
    go_wp2_with fail
    go_roundg (t.outs.length - (i + 1))
    case measure => omega
    case rel => exact ⟨i + 1,rfl,by omega,by simp,hN1.out,HF2.out⟩
   ·have hT : Hid (oddB t = true) := hid (show t.outs.any (fun o => hybridB o.script) = true from any_at (fun o : TxOut => hybridB o.script) t.outs i hlt hb)
    clear hb
    go_wp2_with fail
    go_ret
    exact ⟨congrArg (fun b => Ending.returned (.bool b)) hT.out.symm,HF1.out.trans HF2.out⟩
  ·have hT : Hid (oddB t = false) := by
    have : i = t.outs.length := by omega
    have h := HN.out
    rwa [this,List.take_length] at h
   go_wp2_with fail
   go_ret
   exact ⟨congrArg (fun b => Ending.returned (.bool b)) hT.out.symm,HF1.out.trans HF.out⟩
/-- The tokenizer's cells. -/
def tkc (sv : Value) (off pos : Int) (op data err : Value) : List Value := [sv,.int .u16 0,.int .i32 off,.int .i32 pos,op,data,err]
theorem mkTok_c (w : World) (sv : Value) (a : Option Addr) (n c : Nat) (hs : sv = .slice a n c) : Calls Tryz.prog 135 #[.int .u16 0,sv] w fun e w' => e = .returned (.agg (tkc sv 0 (-1) (.pointer none) (.slice none 0 0) .nilIface).toArray) ∧ Fr [] w w' := by
 subst hs
 go_enter Tryz.func135,Tryz.ntmps135
 go_wp2_with fail
 go_returns
 exact ⟨rfl,(Fr.refl _ _).alloc _⟩
theorem data_c (w : World) (g : Nat) (sv : Value) (off pos : Int) (op data err : Value) (h : Blk w g 308 (tkc sv off pos op data err)) : Calls Tryz.prog 137 #[.pointer (some ⟨g,0,none⟩)] w fun e w' => e = .returned data ∧ w = w' := by
 have c : w.cell? ⟨g,5,none⟩ = some data := h.cell_at rfl
 have hl := h.lt
 clear h
 go_enter Tryz.func137,Tryz.ntmps137
 go_wp2_with fail
 go_ret
 exact ⟨rfl,rfl⟩
theorem err_c (w : World) (g : Nat) (sv : Value) (off pos : Int) (op data err : Value) (h : Blk w g 308 (tkc sv off pos op data err)) : Calls Tryz.prog 139 #[.pointer (some ⟨g,0,none⟩)] w fun e w' => e = .returned err ∧ w = w' := by
 have c : w.cell? ⟨g,6,none⟩ = some err := h.cell_at rfl
 have hl := h.lt
 clear h
 go_enter Tryz.func139,Tryz.ntmps139
 go_wp2_with fail
 go_ret
 exact ⟨rfl,rfl⟩
theorem script_c (w : World) (g : Nat) (sv : Value) (off pos : Int) (op data err : Value) (h : Blk w g 308 (tkc sv off pos op data err)) : Calls Tryz.prog 201 #[.pointer (some ⟨g,0,none⟩)] w fun e w' => e = .returned sv ∧ w = w' := by
 have c : w.cell? ⟨g,0,none⟩ = some sv := h.cell_at rfl
 have hl := h.lt
 clear h
 go_enter Tryz.func201,Tryz.ntmps201
 go_wp2_with fail
 go_ret
 exact ⟨rfl,rfl⟩
theorem byteIndex_c (w : World) (g : Nat) (sv : Value) (off pos : Int) (op data err : Value) (h : Blk w g 308 (tkc sv off pos op data err)) : Calls Tryz.prog 202 #[.pointer (some ⟨g,0,none⟩)] w fun e w' => e = .returned (.int .i32 off) ∧ w = w' := by
 have c : w.cell? ⟨g,2,none⟩ = some (.int .i32 off) := h.cell_at rfl
 have hl := h.lt
 clear h
 go_enter Tryz.func202,Tryz.ntmps202
 go_wp2_with fail
 go_ret
 exact ⟨rfl,rfl⟩
/-- op points to an opcode of that number. -/
def TkOp (w : World) (op : Value) (x : Int) : Prop := ∃ O s l,op = .pointer (some ⟨O,0,none⟩) ∧ Blk w O 340 [.int .u8 x,.string s,.int .i64 l]
theorem TkOp.fr {S : List Nat} {w w' : World} {op : Value} {x : Int} (h : TkOp w op x) (hf : Fr S w w') (hS : ∀ k ∈ S,∀ xs,¬ Blk w k 340 xs) : TkOp w' op x := by
 obtain ⟨O,s,l,h1,h2⟩ := h; exact ⟨O,s,l,h1,h2.fr hf (fun hm => hS O hm _ h2)⟩
theorem opcode_c (w : World) (g : Nat) (sv : Value) (off pos : Int) (op data err : Value) (x : Int) (h : Blk w g 308 (tkc sv off pos op data err)) (ho : TkOp w op x) : Calls Tryz.prog 138 #[.pointer (some ⟨g,0,none⟩)] w fun e w' => e = .returned (.int .u8 x) ∧ w = w' := by
 obtain ⟨O,s,l,rfl,hO⟩ := ho
 have c : w.cell? ⟨g,4,none⟩ = some (.pointer (some ⟨O,0,none⟩)) := h.cell_at rfl
 have c2 : w.cell? ⟨O,0,none⟩ = some (.int .u8 x) := hO.cell_at rfl
 have hl := h.lt
 have hl2 := hO.lt
 clear h hO
 go_enter Tryz.func138,Tryz.ntmps138
 go_wp2_with fail
 go_ret
 exact ⟨rfl,rfl⟩
def smallB (x : Int) : Bool := decide (x = 0 ∨ (81 ≤ x ∧ x ≤ 96))
theorem isSmall_c (w : World) (x : Int) (h0 : 0 ≤ x) (h1 : x ≤ 255) : Calls Tryz.prog 190 #[.int .u8 x] w fun e w' => e = .returned (.bool (smallB x)) ∧ w = w' := by
 by_cases hx : x = 0
 ·subst hx
  go_enter Tryz.func190,Tryz.ntmps190
  go_wp2_with fail
  go_ret
  exact ⟨rfl,rfl⟩
 ·have e1 : (x == 0) = false := by simp [hx]
  by_cases h2 : 81 ≤ x
  ·by_cases h3 : x ≤ 96
   ·have hs : Hid (smallB x = true) := by show _ = _; simp [smallB]; omega
    go_enter Tryz.func190,Tryz.ntmps190
    go_wp2_with fail
    go_ret
    exact ⟨congrArg (fun b => Ending.returned (.bool b)) hs.out.symm,rfl⟩
   ·have hs : Hid (smallB x = false) := by show _ = _; simp [smallB]; omega
    go_enter Tryz.func190,Tryz.ntmps190
    go_wp2_with fail
    go_ret
    exact ⟨congrArg (fun b => Ending.returned (.bool b)) hs.out.symm,rfl⟩
  ·have hs : Hid (smallB x = false) := by show _ = _; simp [smallB]; omega
   go_enter Tryz.func190,Tryz.ntmps190
   go_wp2_with fail
   go_ret
   exact ⟨congrArg (fun b => Ending.returned (.bool b)) hs.out.symm,rfl⟩
def smallN (x : Int) : Int := if x = 0 then 0 else x - 80
theorem asSmall_c (w : World) (x : Int) (h0 : 0 ≤ x) (h1 : x ≤ 255) (hs : smallB x = true) : Calls Tryz.prog 199 #[.int .u8 x] w fun e w' => e = .returned (.int .i64 (smallN x)) ∧ w = w' := by
 have hs' : x = 0 ∨ (81 ≤ x ∧ x ≤ 96) := by simpa [smallB] using hs
 clear hs
 rcases hs' with rfl | ⟨h2,h3⟩
 ·go_enter Tryz.func199,Tryz.ntmps199
  go_wp2_with fail
  go_ret
  exact ⟨rfl,rfl⟩
 ·have e1 : (x == 0) = false := by simp; omega
  have hv : Hid (smallN x = x - 80) := by show _ = _; rw [smallN,if_neg (by omega)]
  go_enter Tryz.func199,Tryz.ntmps199
  go_wp2_with fail
  go_ret
  exact ⟨congrArg (fun b => Ending.returned (.int .i64 b)) hv.out.symm,rfl⟩
theorem done_c (w : World) (g : Nat) (a : Option Addr) (n c p : Nat) (pos : Int) (op data : Value) (h : Blk w g 308 (tkc (.slice a n c) p pos op data .nilIface)) (hn : n ≤ 1000000) (hp : p ≤ 1000000) : Calls Tryz.prog 160 #[.pointer (some ⟨g,0,none⟩)] w fun e w' => e = .returned (.bool (decide (n ≤ p))) ∧ Fr [] w w' := by
 have c6 : w.cell? ⟨g,6,none⟩ = some .nilIface := h.cell_at rfl
 have c2 : w.cell? ⟨g,2,none⟩ = some (.int .i32 (p : Int)) := h.cell_at rfl
 have c0 : w.cell? ⟨g,0,none⟩ = some (.slice a n c) := h.cell_at rfl
 have hl := h.lt
 clear h
 have hni : (n : Int) ≤ 1000000 := by omega
 have hpi : (p : Int) ≤ 1000000 := by omega
 clear hn hp
 go_enter Tryz.func160,Tryz.ntmps160
 go_upto_region 1 with fail
 go_quiet (fail)
 go_wp2_with fail
 go_ret
 exact ⟨rfl,(Fr.refl _ _).drewN _⟩
theorem done_err_c (w : World) (g : Nat) (sv : Value) (off pos : Int) (op data : Value) (t : TypeId) (v : Value) (h : Blk w g 308 (tkc sv off pos op data (.iface t v))) : Calls Tryz.prog 160 #[.pointer (some ⟨g,0,none⟩)] w fun e w' => e = .returned (.bool true) ∧ Fr [] w w' := by
 have c6 : w.cell? ⟨g,6,none⟩ = some (.iface t v) := h.cell_at rfl
 have hl := h.lt
 clear h
 go_enter Tryz.func160,Tryz.ntmps160
 go_upto_region 1 with fail
 go_quiet (fail)
 go_wp2_with fail
 go_ret
 exact ⟨rfl,(Fr.refl _ _).drewN _⟩
/-- A slice, if b holds, and nil else. -/
def PatR (b : Bool) (w : World) (e : Ending) (w' : World) : Prop := Fr [] w w' ∧ ((b = true ∧ ∃ a n c,e = .returned (.slice (some a) n c)) ∨ (b = false ∧ e = .returned (.slice none 0 0)))
def cKeyB (s : List Int) : Bool := decide (s.length = 35 ∧ nth s 34 = 172 ∧ nth s 0 = 33 ∧ (nth s 1 = 2 ∨ nth s 1 = 3))
set_option maxRecDepth 8000 in
theorem cKeyB_c (w : World) (B : Nat) (v : Value) (s : List Int) (hv : BytesB B w v s) : Calls Tryz.prog 197 #[v] w (PatR (cKeyB s) w) := by
 obtain ⟨a,cap,rfl,hc1,hc2⟩ := hv.form
 have Hc1 := hid hc1; clear hc1 hc2
 by_cases hL : s.length = 35
 ·obtain ⟨_,_,he,hq1,hq2,hcs⟩ := hv
  clear hq1 hq2
  simp only [Value.slice.injEq] at he
  obtain ⟨rfl,_,rfl⟩ := he
  rcases hcs with ⟨_,_,hcs⟩ | ⟨b2,off2,rfl,hb2,hcs⟩
  ·have := congrArg List.length hcs; rw [ic_length,List.length_nil] at this; omega
  have HL := hid hL
  have e0 := hcs 0 (by rw [ic_length]; omega)
  rw [ic_nth,Nat.add_zero] at e0
  have e1 := hcs 1 (by rw [ic_length]; omega)
  rw [ic_nth] at e1
  have e34 := hcs 34 (by rw [ic_length]; omega)
  rw [ic_nth] at e34
  clear hcs hb2
  have hci : ((35 : Nat) : Int) ≤ (cap : Int) := by have := Hc1.out; omega
  have Hci := hid hci; clear hci
  rw [hL]; clear hL
  obtain ⟨x0,hx0⟩ : ∃ x,x = nth s 0 := ⟨_,rfl⟩
  rw [← hx0] at e0
  have Hx0 := hid hx0; clear hx0
  obtain ⟨x1,hx1⟩ : ∃ x,x = nth s 1 := ⟨_,rfl⟩
  rw [← hx1] at e1
  have Hx1 := hid hx1; clear hx1
  obtain ⟨x34,hx34⟩ : ∃ x,x = nth s 34 := ⟨_,rfl⟩
  rw [← hx34] at e34
  have Hx34 := hid hx34; clear hx34
  by_cases t0 : x34 = 172
  ·subst t0
   by_cases t1 : x0 = 33
   ·subst t1
    by_cases n0 : x1 = 2
    ·subst n0
     have hR : Hid (cKeyB s = true) := by show _ = _; simp [cKeyB,HL.out,← Hx0.out,← Hx1.out,← Hx34.out]
     go_enter Tryz.func197,Tryz.ntmps197
     have hcp : ((35 : Nat) : Int) ≤ (cap : Int) := Hci.out
     go_wp2_with fail
     go_ret
     exact ⟨Fr.refl _ _,.inl ⟨hR.out,_,_,_,rfl⟩⟩
    ·skip
     by_cases n1 : x1 = 3
     ·subst n1
      have hR : Hid (cKeyB s = true) := by show _ = _; simp [cKeyB,HL.out,← Hx0.out,← Hx1.out,← Hx34.out]
      go_enter Tryz.func197,Tryz.ntmps197
      have hcp : ((35 : Nat) : Int) ≤ (cap : Int) := Hci.out
      go_wp2_with fail
      go_ret
      exact ⟨Fr.refl _ _,.inl ⟨hR.out,_,_,_,rfl⟩⟩
     ·skip
      have f0 : (x1 == 2) = false := by simp [n0]
      have f1 : (x1 == 3) = false := by simp [n1]
      have hR : Hid (cKeyB s = false) := by show _ = _; simp [cKeyB,HL.out,← Hx0.out,← Hx1.out,← Hx34.out, *]
      go_enter Tryz.func197,Tryz.ntmps197
      go_wp2_with fail
      go_ret
      exact ⟨Fr.refl _ _,.inr ⟨hR.out,rfl⟩⟩
   ·have g1 : (x0 == 33) = false := by simp [t1]
    have hR : Hid (cKeyB s = false) := by show _ = _; simp [cKeyB,HL.out,← Hx0.out,← Hx1.out,← Hx34.out, *]
    go_enter Tryz.func197,Tryz.ntmps197
    go_wp2_with fail
    go_ret
    exact ⟨Fr.refl _ _,.inr ⟨hR.out,rfl⟩⟩
  ·have g0 : (x34 == 172) = false := by simp [t0]
   have hR : Hid (cKeyB s = false) := by show _ = _; simp [cKeyB,HL.out,← Hx0.out,← Hx1.out,← Hx34.out, *]
   go_enter Tryz.func197,Tryz.ntmps197
   go_wp2_with fail
   go_ret
   exact ⟨Fr.refl _ _,.inr ⟨hR.out,rfl⟩⟩
 ·have hR : Hid (cKeyB s = false) := by show _ = _; simp [cKeyB,hL]
  have hLi : ¬ ((s.length : Int) = 35) := by omega
  clear hL hv
  go_enter Tryz.func197,Tryz.ntmps197
  go_wp2_with fail
  go_ret
  exact ⟨Fr.refl _ _,.inr ⟨hR.out,rfl⟩⟩
def uKeyB (s : List Int) : Bool := decide (s.length = 67 ∧ nth s 66 = 172 ∧ nth s 0 = 65 ∧ (nth s 1 = 4 ∨ nth s 1 = 6 ∨ nth s 1 = 7))
set_option maxRecDepth 8000 in
theorem uKeyB_c (w : World) (B : Nat) (v : Value) (s : List Int) (hv : BytesB B w v s) : Calls Tryz.prog 198 #[v] w (PatR (uKeyB s) w) := by
 obtain ⟨a,cap,rfl,hc1,hc2⟩ := hv.form
 have Hc1 := hid hc1; clear hc1 hc2
 by_cases hL : s.length = 67
 ·obtain ⟨_,_,he,hq1,hq2,hcs⟩ := hv
  clear hq1 hq2
  simp only [Value.slice.injEq] at he
  obtain ⟨rfl,_,rfl⟩ := he
  rcases hcs with ⟨_,_,hcs⟩ | ⟨b2,off2,rfl,hb2,hcs⟩
  ·have := congrArg List.length hcs; rw [ic_length,List.length_nil] at this; omega
  have HL := hid hL
  have e0 := hcs 0 (by rw [ic_length]; omega)
  rw [ic_nth,Nat.add_zero] at e0
  have e1 := hcs 1 (by rw [ic_length]; omega)
  rw [ic_nth] at e1
  have e66 := hcs 66 (by rw [ic_length]; omega)
  rw [ic_nth] at e66
  clear hcs hb2
  have hci : ((67 : Nat) : Int) ≤ (cap : Int) := by have := Hc1.out; omega
  have Hci := hid hci; clear hci
  rw [hL]; clear hL
  obtain ⟨x0,hx0⟩ : ∃ x,x = nth s 0 := ⟨_,rfl⟩
  rw [← hx0] at e0
  have Hx0 := hid hx0; clear hx0
  obtain ⟨x1,hx1⟩ : ∃ x,x = nth s 1 := ⟨_,rfl⟩
  rw [← hx1] at e1
  have Hx1 := hid hx1; clear hx1
  obtain ⟨x66,hx66⟩ : ∃ x,x = nth s 66 := ⟨_,rfl⟩
  rw [← hx66] at e66
  have Hx66 := hid hx66; clear hx66
  by_cases t0 : x66 = 172
  ·subst t0
   by_cases t1 : x0 = 65
   ·subst t1
    by_cases n0 : x1 = 4
    ·subst n0
     have hR : Hid (uKeyB s = true) := by show _ = _; simp [uKeyB,HL.out,← Hx0.out,← Hx1.out,← Hx66.out]
     go_enter Tryz.func198,Tryz.ntmps198
     have hcp : ((67 : Nat) : Int) ≤ (cap : Int) := Hci.out
     go_wp2_with fail
     go_ret
     exact ⟨Fr.refl _ _,.inl ⟨hR.out,_,_,_,rfl⟩⟩
    ·skip
     by_cases n1 : x1 = 6
     ·subst n1
      have hR : Hid (uKeyB s = true) := by show _ = _; simp [uKeyB,HL.out,← Hx0.out,← Hx1.out,← Hx66.out]
      go_enter Tryz.func198,Tryz.ntmps198
      have hcp : ((67 : Nat) : Int) ≤ (cap : Int) := Hci.out
      go_wp2_with fail
      go_ret
      exact ⟨Fr.refl _ _,.inl ⟨hR.out,_,_,_,rfl⟩⟩
     ·skip
      by_cases n2 : x1 = 7
      ·subst n2
       have hR : Hid (uKeyB s = true) := by show _ = _; simp [uKeyB,HL.out,← Hx0.out,← Hx1.out,← Hx66.out]
       go_enter Tryz.func198,Tryz.ntmps198
       have hcp : ((67 : Nat) : Int) ≤ (cap : Int) := Hci.out
       go_wp2_with fail
       go_ret
       exact ⟨Fr.refl _ _,.inl ⟨hR.out,_,_,_,rfl⟩⟩
      ·skip
       have f0 : (x1 == 4) = false := by simp [n0]
       have f1 : (x1 == 6) = false := by simp [n1]
       have f2 : (x1 == 7) = false := by simp [n2]
       have hR : Hid (uKeyB s = false) := by show _ = _; simp [uKeyB,HL.out,← Hx0.out,← Hx1.out,← Hx66.out, *]
       go_enter Tryz.func198,Tryz.ntmps198
       go_wp2_with fail
       go_ret
       exact ⟨Fr.refl _ _,.inr ⟨hR.out,rfl⟩⟩
   ·have g1 : (x0 == 65) = false := by simp [t1]
    have hR : Hid (uKeyB s = false) := by show _ = _; simp [uKeyB,HL.out,← Hx0.out,← Hx1.out,← Hx66.out, *]
    go_enter Tryz.func198,Tryz.ntmps198
    go_wp2_with fail
    go_ret
    exact ⟨Fr.refl _ _,.inr ⟨hR.out,rfl⟩⟩
  ·have g0 : (x66 == 172) = false := by simp [t0]
   have hR : Hid (uKeyB s = false) := by show _ = _; simp [uKeyB,HL.out,← Hx0.out,← Hx1.out,← Hx66.out, *]
   go_enter Tryz.func198,Tryz.ntmps198
   go_wp2_with fail
   go_ret
   exact ⟨Fr.refl _ _,.inr ⟨hR.out,rfl⟩⟩
 ·have hR : Hid (uKeyB s = false) := by show _ = _; simp [uKeyB,hL]
  have hLi : ¬ ((s.length : Int) = 67) := by omega
  clear hL hv
  go_enter Tryz.func198,Tryz.ntmps198
  go_wp2_with fail
  go_ret
  exact ⟨Fr.refl _ _,.inr ⟨hR.out,rfl⟩⟩
def pkhB (s : List Int) : Bool := decide (s.length = 25 ∧ nth s 0 = 118 ∧ nth s 1 = 169 ∧ nth s 2 = 20 ∧ nth s 23 = 136 ∧ nth s 24 = 172)
set_option maxRecDepth 8000 in
theorem pkhB_c (w : World) (B : Nat) (v : Value) (s : List Int) (hv : BytesB B w v s) : Calls Tryz.prog 185 #[v] w (PatR (pkhB s) w) := by
 obtain ⟨a,cap,rfl,hc1,hc2⟩ := hv.form
 have Hc1 := hid hc1; clear hc1 hc2
 by_cases hL : s.length = 25
 ·obtain ⟨_,_,he,hq1,hq2,hcs⟩ := hv
  clear hq1 hq2
  simp only [Value.slice.injEq] at he
  obtain ⟨rfl,_,rfl⟩ := he
  rcases hcs with ⟨_,_,hcs⟩ | ⟨b2,off2,rfl,hb2,hcs⟩
  ·have := congrArg List.length hcs; rw [ic_length,List.length_nil] at this; omega
  have HL := hid hL
  have e0 := hcs 0 (by rw [ic_length]; omega)
  rw [ic_nth,Nat.add_zero] at e0
  have e1 := hcs 1 (by rw [ic_length]; omega)
  rw [ic_nth] at e1
  have e2 := hcs 2 (by rw [ic_length]; omega)
  rw [ic_nth] at e2
  have e23 := hcs 23 (by rw [ic_length]; omega)
  rw [ic_nth] at e23
  have e24 := hcs 24 (by rw [ic_length]; omega)
  rw [ic_nth] at e24
  clear hcs hb2
  have hci : ((25 : Nat) : Int) ≤ (cap : Int) := by have := Hc1.out; omega
  have Hci := hid hci; clear hci
  rw [hL]; clear hL
  obtain ⟨x0,hx0⟩ : ∃ x,x = nth s 0 := ⟨_,rfl⟩
  rw [← hx0] at e0
  have Hx0 := hid hx0; clear hx0
  obtain ⟨x1,hx1⟩ : ∃ x,x = nth s 1 := ⟨_,rfl⟩
  rw [← hx1] at e1
  have Hx1 := hid hx1; clear hx1
  obtain ⟨x2,hx2⟩ : ∃ x,x = nth s 2 := ⟨_,rfl⟩
  rw [← hx2] at e2
  have Hx2 := hid hx2; clear hx2
  obtain ⟨x23,hx23⟩ : ∃ x,x = nth s 23 := ⟨_,rfl⟩
  rw [← hx23] at e23
  have Hx23 := hid hx23; clear hx23
  obtain ⟨x24,hx24⟩ : ∃ x,x = nth s 24 := ⟨_,rfl⟩
  rw [← hx24] at e24
  have Hx24 := hid hx24; clear hx24
  by_cases t0 : x0 = 118
  ·subst t0
   by_cases t1 : x1 = 169
   ·subst t1
    by_cases t2 : x2 = 20
    ·subst t2
     by_cases t3 : x23 = 136
     ·subst t3
      by_cases t4 : x24 = 172
      ·subst t4
       have hR : Hid (pkhB s = true) := by show _ = _; simp [pkhB,HL.out,← Hx0.out,← Hx1.out,← Hx2.out,← Hx23.out,← Hx24.out]
       go_enter Tryz.func185,Tryz.ntmps185
       have hcp : ((25 : Nat) : Int) ≤ (cap : Int) := Hci.out
       go_wp2_with fail
       go_ret
       exact ⟨Fr.refl _ _,.inl ⟨hR.out,_,_,_,rfl⟩⟩
      ·have g4 : (x24 == 172) = false := by simp [t4]
       have hR : Hid (pkhB s = false) := by show _ = _; simp [pkhB,HL.out,← Hx0.out,← Hx1.out,← Hx2.out,← Hx23.out,← Hx24.out, *]
       go_enter Tryz.func185,Tryz.ntmps185
       go_wp2_with fail
       go_ret
       exact ⟨Fr.refl _ _,.inr ⟨hR.out,rfl⟩⟩
     ·have g3 : (x23 == 136) = false := by simp [t3]
      have hR : Hid (pkhB s = false) := by show _ = _; simp [pkhB,HL.out,← Hx0.out,← Hx1.out,← Hx2.out,← Hx23.out,← Hx24.out, *]
      go_enter Tryz.func185,Tryz.ntmps185
      go_wp2_with fail
      go_ret
      exact ⟨Fr.refl _ _,.inr ⟨hR.out,rfl⟩⟩
    ·have g2 : (x2 == 20) = false := by simp [t2]
     have hR : Hid (pkhB s = false) := by show _ = _; simp [pkhB,HL.out,← Hx0.out,← Hx1.out,← Hx2.out,← Hx23.out,← Hx24.out, *]
     go_enter Tryz.func185,Tryz.ntmps185
     go_wp2_with fail
     go_ret
     exact ⟨Fr.refl _ _,.inr ⟨hR.out,rfl⟩⟩
   ·have g1 : (x1 == 169) = false := by simp [t1]
    have hR : Hid (pkhB s = false) := by show _ = _; simp [pkhB,HL.out,← Hx0.out,← Hx1.out,← Hx2.out,← Hx23.out,← Hx24.out, *]
    go_enter Tryz.func185,Tryz.ntmps185
    go_wp2_with fail
    go_ret
    exact ⟨Fr.refl _ _,.inr ⟨hR.out,rfl⟩⟩
  ·have g0 : (x0 == 118) = false := by simp [t0]
   have hR : Hid (pkhB s = false) := by show _ = _; simp [pkhB,HL.out,← Hx0.out,← Hx1.out,← Hx2.out,← Hx23.out,← Hx24.out, *]
   go_enter Tryz.func185,Tryz.ntmps185
   go_wp2_with fail
   go_ret
   exact ⟨Fr.refl _ _,.inr ⟨hR.out,rfl⟩⟩
 ·have hR : Hid (pkhB s = false) := by show _ = _; simp [pkhB,hL]
  have hLi : ¬ ((s.length : Int) = 25) := by omega
  clear hL hv
  go_enter Tryz.func185,Tryz.ntmps185
  go_wp2_with fail
  go_ret
  exact ⟨Fr.refl _ _,.inr ⟨hR.out,rfl⟩⟩
def shB (s : List Int) : Bool := decide (s.length = 23 ∧ nth s 0 = 169 ∧ nth s 1 = 20 ∧ nth s 22 = 135)
set_option maxRecDepth 8000 in
theorem shB_c (w : World) (B : Nat) (v : Value) (s : List Int) (hv : BytesB B w v s) : Calls Tryz.prog 186 #[v] w (PatR (shB s) w) := by
 obtain ⟨a,cap,rfl,hc1,hc2⟩ := hv.form
 have Hc1 := hid hc1; clear hc1 hc2
 by_cases hL : s.length = 23
 ·obtain ⟨_,_,he,hq1,hq2,hcs⟩ := hv
  clear hq1 hq2
  simp only [Value.slice.injEq] at he
  obtain ⟨rfl,_,rfl⟩ := he
  rcases hcs with ⟨_,_,hcs⟩ | ⟨b2,off2,rfl,hb2,hcs⟩
  ·have := congrArg List.length hcs; rw [ic_length,List.length_nil] at this; omega
  have HL := hid hL
  have e0 := hcs 0 (by rw [ic_length]; omega)
  rw [ic_nth,Nat.add_zero] at e0
  have e1 := hcs 1 (by rw [ic_length]; omega)
  rw [ic_nth] at e1
  have e22 := hcs 22 (by rw [ic_length]; omega)
  rw [ic_nth] at e22
  clear hcs hb2
  have hci : ((23 : Nat) : Int) ≤ (cap : Int) := by have := Hc1.out; omega
  have Hci := hid hci; clear hci
  rw [hL]; clear hL
  obtain ⟨x0,hx0⟩ : ∃ x,x = nth s 0 := ⟨_,rfl⟩
  rw [← hx0] at e0
  have Hx0 := hid hx0; clear hx0
  obtain ⟨x1,hx1⟩ : ∃ x,x = nth s 1 := ⟨_,rfl⟩
  rw [← hx1] at e1
  have Hx1 := hid hx1; clear hx1
  obtain ⟨x22,hx22⟩ : ∃ x,x = nth s 22 := ⟨_,rfl⟩
  rw [← hx22] at e22
  have Hx22 := hid hx22; clear hx22
  by_cases t0 : x0 = 169
  ·subst t0
   by_cases t1 : x1 = 20
   ·subst t1
    by_cases t2 : x22 = 135
    ·subst t2
     have hR : Hid (shB s = true) := by show _ = _; simp [shB,HL.out,← Hx0.out,← Hx1.out,← Hx22.out]
     go_enter Tryz.func186,Tryz.ntmps186
     have hcp : ((23 : Nat) : Int) ≤ (cap : Int) := Hci.out
     go_wp2_with fail
     go_ret
     exact ⟨Fr.refl _ _,.inl ⟨hR.out,_,_,_,rfl⟩⟩
    ·have g2 : (x22 == 135) = false := by simp [t2]
     have hR : Hid (shB s = false) := by show _ = _; simp [shB,HL.out,← Hx0.out,← Hx1.out,← Hx22.out, *]
     go_enter Tryz.func186,Tryz.ntmps186
     go_wp2_with fail
     go_ret
     exact ⟨Fr.refl _ _,.inr ⟨hR.out,rfl⟩⟩
   ·have g1 : (x1 == 20) = false := by simp [t1]
    have hR : Hid (shB s = false) := by show _ = _; simp [shB,HL.out,← Hx0.out,← Hx1.out,← Hx22.out, *]
    go_enter Tryz.func186,Tryz.ntmps186
    go_wp2_with fail
    go_ret
    exact ⟨Fr.refl _ _,.inr ⟨hR.out,rfl⟩⟩
  ·have g0 : (x0 == 169) = false := by simp [t0]
   have hR : Hid (shB s = false) := by show _ = _; simp [shB,HL.out,← Hx0.out,← Hx1.out,← Hx22.out, *]
   go_enter Tryz.func186,Tryz.ntmps186
   go_wp2_with fail
   go_ret
   exact ⟨Fr.refl _ _,.inr ⟨hR.out,rfl⟩⟩
 ·have hR : Hid (shB s = false) := by show _ = _; simp [shB,hL]
  have hLi : ¬ ((s.length : Int) = 23) := by omega
  clear hL hv
  go_enter Tryz.func186,Tryz.ntmps186
  go_wp2_with fail
  go_ret
  exact ⟨Fr.refl _ _,.inr ⟨hR.out,rfl⟩⟩
def wpkhB (s : List Int) : Bool := decide (s.length = 22 ∧ nth s 0 = 0 ∧ nth s 1 = 20)
set_option maxRecDepth 8000 in
theorem wpkhB_c (w : World) (B : Nat) (v : Value) (s : List Int) (hv : BytesB B w v s) : Calls Tryz.prog 187 #[v] w (PatR (wpkhB s) w) := by
 obtain ⟨a,cap,rfl,hc1,hc2⟩ := hv.form
 have Hc1 := hid hc1; clear hc1 hc2
 by_cases hL : s.length = 22
 ·obtain ⟨_,_,he,hq1,hq2,hcs⟩ := hv
  clear hq1 hq2
  simp only [Value.slice.injEq] at he
  obtain ⟨rfl,_,rfl⟩ := he
  rcases hcs with ⟨_,_,hcs⟩ | ⟨b2,off2,rfl,hb2,hcs⟩
  ·have := congrArg List.length hcs; rw [ic_length,List.length_nil] at this; omega
  have HL := hid hL
  have e0 := hcs 0 (by rw [ic_length]; omega)
  rw [ic_nth,Nat.add_zero] at e0
  have e1 := hcs 1 (by rw [ic_length]; omega)
  rw [ic_nth] at e1
  clear hcs hb2
  have hci : ((22 : Nat) : Int) ≤ (cap : Int) := by have := Hc1.out; omega
  have Hci := hid hci; clear hci
  rw [hL]; clear hL
  obtain ⟨x0,hx0⟩ : ∃ x,x = nth s 0 := ⟨_,rfl⟩
  rw [← hx0] at e0
  have Hx0 := hid hx0; clear hx0
  obtain ⟨x1,hx1⟩ : ∃ x,x = nth s 1 := ⟨_,rfl⟩
  rw [← hx1] at e1
  have Hx1 := hid hx1; clear hx1
  by_cases t0 : x0 = 0
  ·subst t0
   by_cases t1 : x1 = 20
   ·subst t1
    have hR : Hid (wpkhB s = true) := by show _ = _; simp [wpkhB,HL.out,← Hx0.out,← Hx1.out]
    go_enter Tryz.func187,Tryz.ntmps187
    have hcp : ((22 : Nat) : Int) ≤ (cap : Int) := Hci.out
    go_wp2_with fail
    go_ret
    exact ⟨Fr.refl _ _,.inl ⟨hR.out,_,_,_,rfl⟩⟩
   ·have g1 : (x1 == 20) = false := by simp [t1]
    have hR : Hid (wpkhB s = false) := by show _ = _; simp [wpkhB,HL.out,← Hx0.out,← Hx1.out, *]
    go_enter Tryz.func187,Tryz.ntmps187
    go_wp2_with fail
    go_ret
    exact ⟨Fr.refl _ _,.inr ⟨hR.out,rfl⟩⟩
  ·have g0 : (x0 == 0) = false := by simp [t0]
   have hR : Hid (wpkhB s = false) := by show _ = _; simp [wpkhB,HL.out,← Hx0.out,← Hx1.out, *]
   go_enter Tryz.func187,Tryz.ntmps187
   go_wp2_with fail
   go_ret
   exact ⟨Fr.refl _ _,.inr ⟨hR.out,rfl⟩⟩
 ·have hR : Hid (wpkhB s = false) := by show _ = _; simp [wpkhB,hL]
  have hLi : ¬ ((s.length : Int) = 22) := by omega
  clear hL hv
  go_enter Tryz.func187,Tryz.ntmps187
  go_wp2_with fail
  go_ret
  exact ⟨Fr.refl _ _,.inr ⟨hR.out,rfl⟩⟩
def wshB (s : List Int) : Bool := decide (s.length = 34 ∧ nth s 0 = 0 ∧ nth s 1 = 32)
set_option maxRecDepth 8000 in
theorem wshB_c (w : World) (B : Nat) (v : Value) (s : List Int) (hv : BytesB B w v s) : Calls Tryz.prog 188 #[v] w (PatR (wshB s) w) := by
 obtain ⟨a,cap,rfl,hc1,hc2⟩ := hv.form
 have Hc1 := hid hc1; clear hc1 hc2
 by_cases hL : s.length = 34
 ·obtain ⟨_,_,he,hq1,hq2,hcs⟩ := hv
  clear hq1 hq2
  simp only [Value.slice.injEq] at he
  obtain ⟨rfl,_,rfl⟩ := he
  rcases hcs with ⟨_,_,hcs⟩ | ⟨b2,off2,rfl,hb2,hcs⟩
  ·have := congrArg List.length hcs; rw [ic_length,List.length_nil] at this; omega
  have HL := hid hL
  have e0 := hcs 0 (by rw [ic_length]; omega)
  rw [ic_nth,Nat.add_zero] at e0
  have e1 := hcs 1 (by rw [ic_length]; omega)
  rw [ic_nth] at e1
  clear hcs hb2
  have hci : ((34 : Nat) : Int) ≤ (cap : Int) := by have := Hc1.out; omega
  have Hci := hid hci; clear hci
  rw [hL]; clear hL
  obtain ⟨x0,hx0⟩ : ∃ x,x = nth s 0 := ⟨_,rfl⟩
  rw [← hx0] at e0
  have Hx0 := hid hx0; clear hx0
  obtain ⟨x1,hx1⟩ : ∃ x,x = nth s 1 := ⟨_,rfl⟩
  rw [← hx1] at e1
  have Hx1 := hid hx1; clear hx1
  by_cases t0 : x0 = 0
  ·subst t0
   by_cases t1 : x1 = 32
   ·subst t1
    have hR : Hid (wshB s = true) := by show _ = _; simp [wshB,HL.out,← Hx0.out,← Hx1.out]
    go_enter Tryz.func188,Tryz.ntmps188
    have hcp : ((34 : Nat) : Int) ≤ (cap : Int) := Hci.out
    go_wp2_with fail
    go_ret
    exact ⟨Fr.refl _ _,.inl ⟨hR.out,_,_,_,rfl⟩⟩
   ·have g1 : (x1 == 32) = false := by simp [t1]
    have hR : Hid (wshB s = false) := by show _ = _; simp [wshB,HL.out,← Hx0.out,← Hx1.out, *]
    go_enter Tryz.func188,Tryz.ntmps188
    go_wp2_with fail
    go_ret
    exact ⟨Fr.refl _ _,.inr ⟨hR.out,rfl⟩⟩
  ·have g0 : (x0 == 0) = false := by simp [t0]
   have hR : Hid (wshB s = false) := by show _ = _; simp [wshB,HL.out,← Hx0.out,← Hx1.out, *]
   go_enter Tryz.func188,Tryz.ntmps188
   go_wp2_with fail
   go_ret
   exact ⟨Fr.refl _ _,.inr ⟨hR.out,rfl⟩⟩
 ·have hR : Hid (wshB s = false) := by show _ = _; simp [wshB,hL]
  have hLi : ¬ ((s.length : Int) = 34) := by omega
  clear hL hv
  go_enter Tryz.func188,Tryz.ntmps188
  go_wp2_with fail
  go_ret
  exact ⟨Fr.refl _ _,.inr ⟨hR.out,rfl⟩⟩
def trB (s : List Int) : Bool := decide (s.length = 34 ∧ nth s 0 = 81 ∧ nth s 1 = 32)
set_option maxRecDepth 8000 in
theorem trB_c (w : World) (B : Nat) (v : Value) (s : List Int) (hv : BytesB B w v s) : Calls Tryz.prog 192 #[v] w (PatR (trB s) w) := by
 obtain ⟨a,cap,rfl,hc1,hc2⟩ := hv.form
 have Hc1 := hid hc1; clear hc1 hc2
 by_cases hL : s.length = 34
 ·obtain ⟨_,_,he,hq1,hq2,hcs⟩ := hv
  clear hq1 hq2
  simp only [Value.slice.injEq] at he
  obtain ⟨rfl,_,rfl⟩ := he
  rcases hcs with ⟨_,_,hcs⟩ | ⟨b2,off2,rfl,hb2,hcs⟩
  ·have := congrArg List.length hcs; rw [ic_length,List.length_nil] at this; omega
  have HL := hid hL
  have e0 := hcs 0 (by rw [ic_length]; omega)
  rw [ic_nth,Nat.add_zero] at e0
  have e1 := hcs 1 (by rw [ic_length]; omega)
  rw [ic_nth] at e1
  clear hcs hb2
  have hci : ((34 : Nat) : Int) ≤ (cap : Int) := by have := Hc1.out; omega
  have Hci := hid hci; clear hci
  rw [hL]; clear hL
  obtain ⟨x0,hx0⟩ : ∃ x,x = nth s 0 := ⟨_,rfl⟩
  rw [← hx0] at e0
  have Hx0 := hid hx0; clear hx0
  obtain ⟨x1,hx1⟩ : ∃ x,x = nth s 1 := ⟨_,rfl⟩
  rw [← hx1] at e1
  have Hx1 := hid hx1; clear hx1
  by_cases t0 : x0 = 81
  ·subst t0
   by_cases t1 : x1 = 32
   ·subst t1
    have hR : Hid (trB s = true) := by show _ = _; simp [trB,HL.out,← Hx0.out,← Hx1.out]
    go_enter Tryz.func192,Tryz.ntmps192
    have hcp : ((34 : Nat) : Int) ≤ (cap : Int) := Hci.out
    go_wp2_with fail
    go_ret
    exact ⟨Fr.refl _ _,.inl ⟨hR.out,_,_,_,rfl⟩⟩
   ·have g1 : (x1 == 32) = false := by simp [t1]
    have hR : Hid (trB s = false) := by show _ = _; simp [trB,HL.out,← Hx0.out,← Hx1.out, *]
    go_enter Tryz.func192,Tryz.ntmps192
    go_wp2_with fail
    go_ret
    exact ⟨Fr.refl _ _,.inr ⟨hR.out,rfl⟩⟩
  ·have g0 : (x0 == 81) = false := by simp [t0]
   have hR : Hid (trB s = false) := by show _ = _; simp [trB,HL.out,← Hx0.out,← Hx1.out, *]
   go_enter Tryz.func192,Tryz.ntmps192
   go_wp2_with fail
   go_ret
   exact ⟨Fr.refl _ _,.inr ⟨hR.out,rfl⟩⟩
 ·have hR : Hid (trB s = false) := by show _ = _; simp [trB,hL]
  have hLi : ¬ ((s.length : Int) = 34) := by omega
  clear hL hv
  go_enter Tryz.func192,Tryz.ntmps192
  go_wp2_with fail
  go_ret
  exact ⟨Fr.refl _ _,.inr ⟨hR.out,rfl⟩⟩
end Go.Proofs.YtdllckiidegpcaaGreat
