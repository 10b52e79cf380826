/- A part of the walk of laws.FnPartial (part 40): contracts of functions that it comes to, and the plain laws that these lean on. Conditions stand in each contract. -/
import Derived.Test.YtdllckiidegpcaaGreatA37
set_option linter.unusedSimpArgs false
set_option linter.unusedVariables false
set_option maxHeartbeats 4000000
namespace Go.Proofs.YtdllckiidegpcaaGreat
open Go.RowKit
theorem toksFrom_cons {s : List Int} {p : Nat} {t : Tok} {r : List Tok} {b : Option Nat} (h : toksFrom s p = (t :: r,b)) : p < s.length ∧ ∃ q,tokAt s p = some (t.data,q) ∧ t.op = nth s p ∧ t.pos = p ∧ toksFrom s q = (r,b) := by
 by_cases hp : p < s.length
 ·cases ht : tokAt s p with
  | none => rw [toksFrom_bad hp ht] at h; simp at h
  | some x =>
   obtain ⟨d,q⟩ := x
   rw [toksFrom_step hp ht] at h
   simp only [Prod.mk.injEq,List.cons.injEq] at h
   obtain ⟨⟨rfl,h2⟩,h3⟩ := h
   exact ⟨hp,q,rfl,rfl,rfl,by rw [← h2,← h3]⟩
 ·rw [toksFrom_end (by omega)] at h; simp at h
theorem toksFrom_nil {s : List Int} {p : Nat} (h : toksFrom s p = ([],none)) : s.length ≤ p := by
 by_cases hp : p < s.length
 ·cases ht : tokAt s p with
  | none => rw [toksFrom_bad hp ht] at h; simp at h
  | some x =>
   obtain ⟨d,q⟩ := x
   rw [toksFrom_step hp ht] at h
   simp at h
 ·omega
theorem tokAt_byte {s : List Int} {p : Nat} (h : 79 ≤ nth s p ∨ nth s p = 0) : tokAt s p = some ([],p + 1) := by
 unfold tokAt; rw [if_neg (by omega),if_neg (by omega)]
/-- Behind the first token: the first small number tells how many stand ahead of it, and one opcode stands behind it. -/
def mid : List Tok → Int → Bool
 | [],_ => false
 | t :: l,k => if smallB t.op then decide (smallN t.op = k) && (match l with | [u] => decide (u.op = 174) | _ => false) else mid l (k + 1)
theorem mid_run {s : List Int} (h3 : 3 ≤ s.length) : ∀ (l : List Tok) (p : Nat) (k : Int) (b : Option Nat),toksFrom s p = (l,b) → ((nth s (s.length - 1) = 174 ∧ mRun s.length l k = true) ↔ (b = none ∧ mid l k = true)) := by
 intro l
 induction l with
 | nil => intro p k b _; simp [mRun,mid]
 | cons t r ih =>
  intro p k b h
  obtain ⟨hp,q,ht,hop,hpos,hr⟩ := toksFrom_cons h
  by_cases hs : smallB t.op = true
  ·have hq : q = p + 1 := small_tok ht (by rw [← hop]; exact hs)
   subst hq
   simp only [mRun,mid,hs,if_true,Bool.and_eq_true,decide_eq_true_eq]
   constructor
   ·rintro ⟨h1,h2,h4⟩
    have hpn : p + 2 = s.length := by rw [hpos] at h4; omega
    have h5 : nth s (p + 1) = 174 := by rw [show p + 1 = s.length - 1 by omega]; exact h1
    have h6 := toksFrom_step (s := s) (p := p + 1) (by omega) (tokAt_byte (by omega))
    rw [hr,toksFrom_end (by omega : s.length ≤ p + 1 + 1)] at h6
    simp only [Prod.mk.injEq] at h6
    obtain ⟨h7,h8⟩ := h6
    subst h7
    exact ⟨h8,h2,by simp [h5]⟩
   ·rintro ⟨hb,h2,h4⟩
    subst hb
    match r,h4,hr with
    | [u],h4,hr =>
     have hu : u.op = 174 := by simpa using h4
     obtain ⟨hp2,q2,ht2,hop2,hpos2,hr2⟩ := toksFrom_cons hr
     have e := tokAt_byte (s := s) (p := p + 1) (by omega)
     rw [e] at ht2
     simp only [Option.some.injEq,Prod.mk.injEq] at ht2
     have hq2 : q2 = p + 1 + 1 := ht2.2.symm
     subst hq2
     have hn := toksFrom_nil hr2
     refine ⟨?_,h2, ?_⟩
     ·rw [show s.length - 1 = p + 1 by omega,← hop2]; exact hu
     ·rw [hpos]; omega
  ·have hs' : smallB t.op = false := by simpa using hs
   simp only [mRun,mid,hs',Bool.false_eq_true,if_false]
   exact ih q (k + 1) b hr
def opAt (l : List Tok) (i : Nat) : Int := (l[i]?.map (·.op)).getD 0
theorem opAt_eq (l : List Tok) (i : Nat) (h : i < l.length) : opAt l i = l[i].op := by simp [opAt,h]
/-- Many keys, by the tokens' places. -/
def manyL (l : List Tok) : Prop := 3 ≤ l.length ∧ opAt l (l.length - 1) = 174 ∧ smallB (opAt l 0) = true ∧ smallB (opAt l (l.length - 2)) = true ∧ smallN (opAt l (l.length - 2)) = (l.length : Int) - 3 ∧ ∀ i,1 ≤ i → i < l.length - 2 → smallB (opAt l i) = false
def manyP (s : List Int) : Prop := (toks s).2 = none ∧ manyL (toks s).1
theorem mid_snoc (t u : Tok) : ∀ (ms : List Tok) (k : Int),mid (ms ++ [t,u]) k = true ↔ (u.op = 174 ∧ smallB t.op = true ∧ smallN t.op = k + ms.length ∧ ∀ m ∈ ms,smallB m.op = false) := by
 intro ms
 induction ms with
 | nil =>
  intro k
  simp only [List.nil_append,mid]
  by_cases ht : smallB t.op = true
  ·simp [ht]; exact And.comm
  ·simp only [ht,Bool.false_eq_true,if_false,false_and,and_false,iff_false]
   by_cases hu : smallB u.op = true <;> simp [hu]
 | cons m ms ih =>
  intro k
  simp only [List.cons_append,mid]
  by_cases hm : smallB m.op = true
  ·simp only [hm,if_true]
   constructor
   ·intro h
    exfalso
    match ms with
    | [] => simp at h
    | a :: r => match r with
     | [] => simp at h
     | _ :: _ => simp at h
   ·rintro ⟨_,_,_,h⟩
    have := h m (by simp)
    rw [hm] at this; cases this
  ·have hm' : smallB m.op = false := by simpa using hm
   rw [hm']
   simp only [Bool.false_eq_true,if_false]
   rw [ih (k + 1)]
   constructor
   ·rintro ⟨h1,h2,h3,h4⟩
    refine ⟨h1,h2,by rw [h3]; simp only [List.length_cons]; omega, ?_⟩
    intro x hx
    rcases List.mem_cons.mp hx with rfl | hx
    ·exact hm'
    ·exact h4 x hx
   ·rintro ⟨h1,h2,h3,h4⟩
    exact ⟨h1,h2,by rw [h3]; simp only [List.length_cons]; omega,fun x hx => h4 x (by simp [hx])⟩
theorem two_ends (l : List Tok) (h : 2 ≤ l.length) : ∃ ms t u,l = ms ++ [t,u] := by
 refine ⟨l.take (l.length - 2),l[l.length - 2],l[l.length - 1], ?_⟩
 have h1 := List.take_append_drop (l.length - 2) l
 have h2 : l.drop (l.length - 2) = [l[l.length - 2],l[l.length - 1]] := by
  rw [List.drop_eq_getElem_cons (by omega),List.drop_eq_getElem_cons (by omega)]
  simp only [show l.length - 2 + 1 = l.length - 1 by omega]
  rw [List.drop_eq_nil_of_le (by omega)]
 rw [h2] at h1
 exact h1.symm
theorem mid_short {l : List Tok} {k : Int} (h : l.length < 2) : mid l k = false := by
 match l,h with
 | [],_ => rfl
 | [t],_ => simp only [mid]; split <;> simp
theorem manyL_mid (t : Tok) (l : List Tok) : manyL (t :: l) ↔ (smallB t.op = true ∧ mid l 0 = true) := by
 by_cases hl : 2 ≤ l.length
 ·obtain ⟨ms,x,u,rfl⟩ := two_ends l hl
  rw [mid_snoc]
  have hn : (t :: (ms ++ [x,u])).length = ms.length + 3 := by simp
  have e0 : opAt (t :: (ms ++ [x,u])) 0 = t.op := rfl
  have e1 : opAt (t :: (ms ++ [x,u])) (ms.length + 2) = u.op := by simp [opAt]
  have e2 : opAt (t :: (ms ++ [x,u])) (ms.length + 1) = x.op := by simp [opAt]
  unfold manyL
  rw [hn,show ms.length + 3 - 1 = ms.length + 2 by omega,show ms.length + 3 - 2 = ms.length + 1 by omega,e0,e1,e2]
  constructor
  ·rintro ⟨_,h1,h2,h3,h4,h5⟩
   refine ⟨h2,h1,h3,by omega, ?_⟩
   intro m hm
   obtain ⟨i,hi,rfl⟩ := List.mem_iff_getElem.mp hm
   have := h5 (i + 1) (by omega) (by omega)
   rw [opAt_eq _ _ (by simp; omega)] at this
   rw [List.getElem_cons_succ,List.getElem_append_left hi] at this
   exact this
  ·rintro ⟨h2,h1,h3,h4,h5⟩
   refine ⟨by omega,h1,h2,h3,by omega, ?_⟩
   intro i hi1 hi2
   obtain ⟨j,rfl⟩ : ∃ j,i = j + 1 := ⟨i - 1,by omega⟩
   have hj : j < ms.length := by omega
   rw [opAt_eq _ _ (by simp; omega),List.getElem_cons_succ,List.getElem_append_left hj]
   exact h5 _ (List.getElem_mem hj)
 ·have h1 := mid_short (k := 0) (show l.length < 2 by omega)
  rw [h1]
  unfold manyL
  simp only [List.length_cons,Bool.false_eq_true,and_false,iff_false]
  rintro ⟨h,_⟩; omega
theorem multi_many (s : List Int) : multiB s = true ↔ manyP s := by
 unfold multiB manyP
 rw [Bool.and_eq_true,decide_eq_true_eq]
 cases hl : (toks s).1 with
 | nil => simp [manyL]
 | cons t l =>
  have hf : toksFrom s 0 = (t :: l,(toks s).2) := by rw [← hl]; rfl
  obtain ⟨hp,q,ht,hop,hpos,hr⟩ := toksFrom_cons hf
  rw [manyL_mid]
  simp only [Bool.and_eq_true]
  by_cases h3 : 3 ≤ s.length
  ·have := mid_run h3 l q 0 _ hr
   constructor
   ·rintro ⟨⟨_,h1⟩,h2,h4⟩
    have h5 := this.mp ⟨h1,h4⟩
    exact ⟨h5.1,h2,h5.2⟩
   ·rintro ⟨h1,h2,h4⟩
    have h5 := this.mpr ⟨h1,h4⟩
    exact ⟨⟨h3,h5.1⟩,h2,h5.2⟩
  ·constructor
   ·rintro ⟨⟨h,_⟩,_⟩; exact absurd h h3
   ·rintro ⟨h1,h2,h4⟩
    exfalso
    by_cases hl2 : l.length < 2
    ·rw [mid_short hl2] at h4; cases h4
    ·have := toks_len s 0
     have e : (toksFrom s 0).1 = t :: l := by rw [hf]
     rw [e,List.length_cons] at this
     omega
theorem nth_takeP {l : List Int} {n i : Nat} (h : i < n) : nth (l.take n) i = nth l i := by simp [nth,List.getElem?_take,h]
/-- A push of n bytes and one opcode: its tokens. -/
theorem toks_two {s : List Int} (n : Nat) (hn : 1 ≤ n) (hn2 : n ≤ 75) (hl : s.length = n + 2) (h0 : nth s 0 = n) (hz : nth s (n + 1) = 172) : toks s = ([⟨n,(s.drop 1).take n,0⟩,⟨172,[],n + 1⟩],none) := by
 have h1 : tokAt s 0 = some ((s.drop 1).take n,n + 1) := by
  unfold tokAt
  simp only [h0,Nat.zero_add]
  rw [if_pos (by omega),Int.toNat_natCast,if_pos (by rw [List.length_drop]; omega)]
  rw [Nat.add_comm 1 n]
 have h2 : tokAt s (n + 1) = some ([],n + 1 + 1) := tokAt_byte (by omega)
 show toksFrom s 0 = _
 rw [toksFrom_step (by omega) h1,toksFrom_step (by omega) h2,toksFrom_end (by omega),h0,hz]
theorem sKey_of {s : List Int} (h : sKeyB s = true) : ∃ n : Nat,(n = 33 ∨ n = 65) ∧ s.length = n + 2 ∧ nth s 0 = n ∧ nth s (n + 1) = 172 ∧ ((n = 33 ∧ (nth s 1 = 2 ∨ nth s 1 = 3)) ∨ (n = 65 ∧ nth s 1 = 4)) := by
 unfold sKeyB at h
 rw [Bool.and_eq_true,decide_eq_true_eq] at h
 obtain ⟨hb,hk⟩ := h
 have hf : toksFrom s 0 = ((toks s).1,none) := by rw [← hb]; rfl
 match hl : (toks s).1,hk,hf with
 | [t,u],hk,hf =>
  simp only [sKeyL,Bool.and_eq_true,decide_eq_true_eq] at hk
  obtain ⟨⟨h1,h2⟩,h3⟩ := hk
  obtain ⟨hp,q,ht,hop,hpos,hr⟩ := toksFrom_cons hf
  obtain ⟨hp2,q2,ht2,hop2,hpos2,hr2⟩ := toksFrom_cons hr
  have e := tokAt_byte (s := s) (p := q) (by omega)
  rw [e] at ht2
  simp only [Option.some.injEq,Prod.mk.injEq] at ht2
  have hq2 : q2 = q + 1 := ht2.2.symm
  subst hq2
  have hn := toksFrom_nil hr2
  have hkf : (t.data.length = 33 ∧ (nth t.data 0 = 2 ∨ nth t.data 0 = 3)) ∨ (t.data.length = 65 ∧ nth t.data 0 = 4) := by
   unfold keyForm at h2
   split at h2
   ·left; assumption
   ·split at h2
    ·right; assumption
    ·omega
  have hlen : t.data.length = 33 ∨ t.data.length = 65 := by rcases hkf with h | h <;> omega
  obtain ⟨n,hnn⟩ : ∃ n,n = t.data.length := ⟨_,rfl⟩
  have hn0 : nth s 0 = (n : Int) := by rw [← hop,h1,hnn]
  have hta : tokAt s 0 = if n ≤ (s.drop 1).length then some ((s.drop 1).take n,0 + 1 + n) else none := by
   unfold tokAt
   simp only [hn0,Nat.zero_add]
   rw [if_pos (by omega),Int.toNat_natCast]
  rw [hta] at ht
  split at ht
  ·simp only [Option.some.injEq,Prod.mk.injEq] at ht
   obtain ⟨hd,hq⟩ := ht
   rw [List.length_drop] at *
   refine ⟨n,by omega,by omega,hn0,by rw [show n + 1 = q by omega,← hop2]; exact h3, ?_⟩
   have e1 : nth t.data 0 = nth s 1 := by rw [← hd,nth_takeP (by omega),nth_drop']
   rw [e1] at hkf
   rcases hkf with h | h
   ·left; exact ⟨by omega,h.2⟩
   ·right; exact ⟨by omega,h.2⟩
  ·cases ht
theorem key_iff {s : List Int} (hh : hybridB s = false) : keyB s = true ↔ sKeyB s = true := by
 constructor
 ·intro h
  unfold keyB at h
  rw [Bool.or_eq_true] at h
  rcases h with h | h
  ·unfold cKeyB at h
   rw [decide_eq_true_eq] at h
   obtain ⟨h1,h2,h3,h4⟩ := h
   have ht := toks_two (s := s) 33 (by omega) (by omega) h1 h3 h2
   have hd : ((s.drop 1).take 33).length = 33 := by rw [List.length_take,List.length_drop]; omega
   have hn : nth ((s.drop 1).take 33) 0 = nth s 1 := by rw [nth_takeP (by omega),nth_drop']
   unfold sKeyB
   rw [ht]
   simp only [sKeyL,keyForm,hd,hn]
   rcases h4 with h4 | h4 <;> rw [h4] <;> decide
  ·unfold uKeyB at h
   rw [decide_eq_true_eq] at h
   obtain ⟨h1,h2,h3,h4⟩ := h
   have ht := toks_two (s := s) 65 (by omega) (by omega) h1 h3 h2
   have hd : ((s.drop 1).take 65).length = 65 := by rw [List.length_take,List.length_drop]; omega
   have hn : nth ((s.drop 1).take 65) 0 = nth s 1 := by rw [nth_takeP (by omega),nth_drop']
   have h5 : nth s 1 = 4 := by
    unfold hybridB at hh
    rw [ht,List.any_eq_false] at hh
    have := hh _ (by simp : (⟨65,(s.drop 1).take 65,0⟩ : Tok) ∈ _)
    simp only [hybTok,decide_eq_true_eq,hd,hn,true_and] at this
    omega
   unfold sKeyB
   rw [ht]
   simp only [sKeyL,keyForm,hd,hn,h5]
   decide
 ·intro h
  obtain ⟨n,h1,h2,h3,h4,h5⟩ := sKey_of h
  unfold keyB
  rw [Bool.or_eq_true]
  rcases h5 with ⟨rfl,h5⟩ | ⟨rfl,h5⟩
  ·left; unfold cKeyB; rw [decide_eq_true_eq]; exact ⟨h2,h4,h3,h5⟩
  ·right; unfold uKeyB; rw [decide_eq_true_eq]; exact ⟨h2,h4,h3,.inl h5⟩
theorem grows_iff {s : List Int} (hh : hybridB s = false) : growsB s = true ↔ (manyP s ∨ sKeyB s = true) := by
 unfold growsB
 rw [Bool.or_eq_true,key_iff hh,multi_many]
 exact Or.comm
section
set_option maxRecDepth 8000
theorem toks_op {s : List Int} (hu : U8 s) : ∀ (l : List Tok) (p : Nat) (b : Option Nat),toksFrom s p = (l,b) → ∀ i,0 ≤ opAt l i ∧ opAt l i ≤ 255 := by
 intro l
 induction l with
 | nil => intro p b _ i; simp [opAt]
 | cons t r ih =>
  intro p b h i
  obtain ⟨hp,q,ht,hop,hpos,hr⟩ := toksFrom_cons h
  cases i with
  | zero => show 0 ≤ t.op ∧ t.op ≤ 255; rw [hop]; exact hu.bd p
  | succ i => exact ih q b hr i
def ManyR (s : List Int) (w : World) (e : Ending) (w' : World) : Prop := Fr [] w w' ∧ ∃ (k n : Int) (b : Bool),e = .returned (.tuple #[.int .i64 k,.int .i64 n,.bool b]) ∧ (b = true ↔ manyP s)
set_option maxHeartbeats 2000000 in
theorem many_c (w : World) (B : Nat) (hBw : B ≤ w.heap.size) (v : Value) (s : List Int) (hv : BytesB B w v s) (hu : U8 s) (hs : s.length ≤ 1000000) :
  Calls Tryz.prog 93 #[v] w (ManyR s w) := by
 obtain ⟨a,cap,rfl,hq1,hq2⟩ := hv.form
 clear hq1 hq2
 have Hhv := hid hv; clear hv
 have Hhu := hid hu; clear hu
 have Hhs := hid hs; clear hs
 go_enter Tryz.func93,Tryz.ntmps93
 go_wp2_with fail
 refine (tokens_c w B hBw _ s Hhv.out Hhu.out Hhs.out).mono ?_
 rintro e w1 ⟨tv,rfl,hf,ht⟩
 have HF := hid hf; clear hf
 have HT := hid (ht.listB (fun _ _ h => h)); clear ht
 obtain ⟨at',ct,rfl,hc1,hc2⟩ := HT.out.len
 clear hc1 hc2
 have hln : (toks s).1.length ≤ 1000000 := by have := toks_len s 0; have := Hhs.out; show (toksFrom s 0).1.length ≤ _; omega
 have hop := toks_op Hhu.out (toks s).1 0 (toks s).2 rfl
 obtain ⟨l,hl⟩ : ∃ l,l = (toks s).1 := ⟨_,rfl⟩
 have HM : Hid (manyP s ↔ ((toks s).2 = none ∧ manyL l)) := by show _ ↔ _; rw [hl]; exact Iff.rfl
 rw [← hl] at HT hln hop ⊢
 clear hl
 have HOp := hid hop; clear hop
 cases hb : (toks s).2 with
 | some p =>
  have HR : Hid ((false = true) ↔ manyP s) := by show _ ↔ _; rw [HM.out,hb]; simp
  have hbi : badInt (some p) = (p : Int) := rfl
  rw [hbi]
  have hp0 : (0 : Int) ≤ p := by omega
  clear hb hbi HM
  go_wp2_with fail
  refine bodyPost_ret (v := .tuple #[.int .i64 0,.int .i64 0,.bool false]) (by simp [results,Tryz.results93,go_sem]) rfl ⟨HF.out,0,0,false,rfl,HR.out⟩
 | none =>
  have HM2 : Hid (manyP s ↔ manyL l) := by show _ ↔ _; rw [HM.out,hb]; simp
  have hbi : badInt none = -1 := rfl
  rw [hbi]
  clear hb hbi HM
  obtain ⟨n,hn⟩ : ∃ n,n = l.length := ⟨_,rfl⟩
  have Hn := hid hn
  rw [← hn] at hln ⊢
  clear hn
  have hn6 : (n : Int) ≤ 1000000 := by omega
  by_cases h3 : n < 3
  ·have h3i : (n : Int) < 3 := by omega
   have HR : Hid ((false = true) ↔ manyP s) := by
    show _ ↔ _; rw [HM2.out]
    simp only [Bool.false_eq_true,false_iff]
    rintro ⟨h,_⟩; have := Hn.out; omega
   clear h3
   go_wp2_with fail
   refine bodyPost_ret (v := .tuple #[.int .i64 0,.int .i64 0,.bool false]) (by simp [results,Tryz.results93,go_sem]) rfl ⟨HF.out,0,0,false,rfl,HR.out⟩
  ·have h3i : ¬ (n : Int) < 3 := by omega
   obtain ⟨m1,hm1⟩ : ∃ m1,m1 = n - 1 := ⟨_,rfl⟩
   obtain ⟨m2,hm2⟩ : ∃ m2,m2 = n - 2 := ⟨_,rfl⟩
   obtain ⟨m3,hm3⟩ : ∃ m3,m3 = n - 3 := ⟨_,rfl⟩
   have q1 : (n : Int) - 1 = (m1 : Int) := by omega
   have q2 : (n : Int) - 2 = (m2 : Int) := by omega
   have q3 : (n : Int) - 3 = (m3 : Int) := by omega
   have HE : Hid (∀ i,i < n → ∃ b off,at' = some ⟨b,off,none⟩ ∧ b < w1.heap.size ∧ w1.cell? ⟨b,off + i * 3,none⟩ = some (.int .i64 (opAt l i))) := by
    intro i hi
    have hi' : i < l.length := by have := Hn.out; omega
    obtain ⟨b,off,cap',c,he,hbB,hcl,hrg,hE⟩ := HT.out.at hi' (by decide)
    simp only [Value.slice.injEq] at he
    obtain ⟨rfl,_,_⟩ := he
    obtain ⟨dv,rfl,hd⟩ := hE
    exact ⟨b,off,rfl,hbB,by have := hrg w1 (Below.refl _ _) 0 _ rfl; rw [opAt_eq _ _ hi']; simpa using this⟩
   clear HT
   obtain ⟨b,off,rfl,hbl,e0⟩ := HE.out 0 (by omega)
   have HE2 : Hid (∀ i,i < n → w1.cell? ⟨b,off + i * 3,none⟩ = some (.int .i64 (opAt l i))) := by
    intro i hi
    obtain ⟨b',off',he,_,hc⟩ := HE.out i hi
    simp only [Option.some.injEq,Addr.mk.injEq] at he
    obtain ⟨rfl,rfl,_⟩ := he
    exact hc
   clear HE
   have e1 := HE2.out m1 (by omega)
   have e2 := HE2.out m2 (by omega)
   rw [Nat.zero_mul,Nat.add_zero] at e0
   have l1 : (m1 : Int) < n := by omega
   have l2 : (m2 : Int) < n := by omega
   have l0 : (0 : Int) < n := by omega
   have HMs : Hid (manyP s ↔ (opAt l m1 = 174 ∧ smallB (opAt l 0) = true ∧ smallB (opAt l m2) = true ∧ smallN (opAt l m2) = (m3 : Int) ∧ ∀ i,1 ≤ i → i < m2 → smallB (opAt l i) = false)) := by
    show _ ↔ _
    rw [HM2.out,manyL,← Hn.out,← hm1,← hm2,q3]
    constructor
    ·rintro ⟨_,h⟩; exact h
    ·intro h; exact ⟨by omega,h⟩
   have Hq := hid (And.intro hm1 (And.intro hm2 hm3))
   clear hm1 hm2 hm3 HM2
   by_cases hz : opAt l m1 = 174
   ·have hzb : ((opAt l m1) != 174) = false := by rw [hz]; rfl
    clear hz
    have bo0 := HOp.out 0
    have bo2 := HOp.out m2
    have HMs2 : Hid (manyP s ↔ (smallB (opAt l 0) = true ∧ smallB (opAt l m2) = true ∧ smallN (opAt l m2) = (m3 : Int) ∧ ∀ i,1 ≤ i → i < m2 → smallB (opAt l i) = false)) := by
     have : opAt l m1 = 174 := by simpa using hzb
     show _ ↔ _
     rw [HMs.out]; simp [this]
    clear HMs
    obtain ⟨z,hz⟩ : ∃ z,z = opAt l m1 := ⟨_,rfl⟩
    rw [← hz] at e1 hzb
    clear hz
    obtain ⟨x,hx⟩ : ∃ x,x = opAt l 0 := ⟨_,rfl⟩
    rw [← hx] at e0 bo0 HMs2
    clear hx
    obtain ⟨y,hy⟩ : ∃ y,y = opAt l m2 := ⟨_,rfl⟩
    rw [← hy] at e2 bo2 HMs2
    clear hy
    obtain ⟨x0,x1⟩ := bo0
    obtain ⟨y0,y1⟩ := bo2
    go_wp2_with fail
    refine (small_c w1 x x0 x1).mono ?_
    rintro e w' ⟨rfl,rfl⟩
    go_wp2_with fail
    refine (small_c w1 y y0 y1).mono ?_
    rintro e w' ⟨rfl,rfl⟩
    cases hsx : smallB x
    ·have HR : Hid ((false = true) ↔ manyP s) := by show _ ↔ _; rw [HMs2.out,hsx]; simp
     clear hsx
     go_wp2_with fail
     refine bodyPost_ret (v := .tuple #[.int .i64 0,.int .i64 0,.bool false]) (by simp [results,Tryz.results93,go_sem]) rfl ⟨HF.out,0,0,false,rfl,HR.out⟩
    ·cases hsy : smallB y
     ·have HR : Hid ((false = true) ↔ manyP s) := by show _ ↔ _; rw [HMs2.out,hsy]; simp
      clear hsx hsy
      go_wp2_with fail
      refine bodyPost_ret (v := .tuple #[.int .i64 0,.int .i64 0,.bool false]) (by simp [results,Tryz.results93,go_sem]) rfl ⟨HF.out,0,0,false,rfl,HR.out⟩
     ·by_cases hk : smallV y = (m3 : Int)
      ·have HMs3 : Hid (manyP s ↔ ∀ i,1 ≤ i → i < m2 → smallB (opAt l i) = false) := by
        show _ ↔ _; rw [HMs2.out,hsx,hsy]
        rw [smallV_t hsy] at hk
        simp [hk]
       have hkb : ((smallV y) != (m3 : Int)) = false := by rw [hk]; simp
       clear hsx hsy hk HMs2
       generalize smallV y = ky at hkb ⊢
       generalize smallV x = kx
       clear e0 e1 e2
       go_wp2_with fail
       go_loopg [2,3,10] (m2 - 1) (fun gk v2 v3 v10 wr => ∃ i,gk = m2 - i ∧ 1 ≤ i ∧ i ≤ m2 ∧ v2 = .int .i64 ky ∧ v3 = .int .i64 kx ∧ v10 = .int .i64 (i : Int) ∧ Hid (∀ j,1 ≤ j → j < i → smallB (opAt l j) = false) ∧ w1 = wr)
       case atStart => exact ⟨1,rfl,Nat.le_refl _,by have := Hq.out; omega,rfl,rfl,rfl,fun j h1 h2 => by omega,rfl⟩
       case round =>
        obtain ⟨i,rfl,hi1,hi2,rfl,rfl,rfl,HJ,rfl⟩ := hrel
        by_cases hlt : i < m2
        ·have hlti : (i : Int) < m2 := by omega
         have hltn : (i : Int) < n := by omega
         have e3 := HE2.out i (by omega)
         have bo := HOp.out i
         obtain ⟨u,hu⟩ : ∃ u,u = opAt l i := ⟨_,rfl⟩
         rw [← hu] at e3 bo
         have Hu := hid hu; clear hu
         obtain ⟨u0,u1⟩ := bo
         go_wp2_with fail
         refine (small_c w1 u u0 u1).mono ?_
         rintro e w' ⟨rfl,rfl⟩
         cases hsu : smallB u
         ·have HJ2 : Hid (∀ j,1 ≤ j → j < i + 1 → smallB (opAt l j) = false) := by
           intro j j1 j2
           by_cases e : j = i
           ·subst e; rw [← Hu.out]; exact hsu
           ·exact HJ.out j j1 (by omega)
          clear hsu
          go_wp2_with fail
          go_roundg (m2 - (i + 1))
          case measure => omega
          case rel => exact ⟨i + 1,rfl,by omega,by omega,rfl,rfl,by simp,HJ2,rfl⟩
         ·have HR : Hid ((false = true) ↔ manyP s) := by
           show _ ↔ _; rw [HMs3.out]
           simp only [Bool.false_eq_true,false_iff]
           intro h; have := h i hi1 hlt; rw [← Hu.out,hsu] at this; cases this
          clear hsu
          go_wp2_with fail
          refine bodyPost_ret (v := .tuple #[.int .i64 0,.int .i64 0,.bool false]) (by simp [results,Tryz.results93,go_sem]) rfl ⟨HF.out,0,0,false,rfl,HR.out⟩
        ·have hlti : ¬ (i : Int) < m2 := by omega
         have HR : Hid (manyP s) := by
          show manyP s; rw [HMs3.out]
          intro j j1 j2; exact HJ.out j j1 (by omega)
         go_wp2_with fail
         refine bodyPost_ret (v := .tuple #[.int .i64 ky,.int .i64 kx,.bool true]) (by simp [results,Tryz.results93,go_sem]) rfl ⟨HF.out,ky,kx,true,rfl,fun _ => HR.out,fun _ => rfl⟩
      ·have HR : Hid ((false = true) ↔ manyP s) := by
        show _ ↔ _; rw [HMs2.out]
        rw [smallV_t hsy] at hk
        simp [hk]
       have hkb : ((smallV y) != (m3 : Int)) = true := by rw [bne_iff_ne]; exact hk
       clear hsx hsy hk HMs2
       generalize smallV y = ky at hkb ⊢
       go_wp2_with fail
       refine bodyPost_ret (v := .tuple #[.int .i64 0,.int .i64 0,.bool false]) (by simp [results,Tryz.results93,go_sem]) rfl ⟨HF.out,0,0,false,rfl,HR.out⟩
   ·have hzb : ((opAt l m1) != 174) = true := by rw [bne_iff_ne]; exact hz
    have HR : Hid ((false = true) ↔ manyP s) := by show _ ↔ _; rw [HMs.out]; simp [hz]
    clear hz HMs
    go_wp2_with fail
    refine bodyPost_ret (v := .tuple #[.int .i64 0,.int .i64 0,.bool false]) (by simp [results,Tryz.results93,go_sem]) rfl ⟨HF.out,0,0,false,rfl,HR.out⟩
theorem growsFor_c (w : World) (B : Nat) (hBw : B ≤ w.heap.size) (flag : Int) (hfl : 0 ≤ flag ∧ flag ≤ 2) (v : Value) (s : List Int) (hv : BytesB B w v s) (hu : U8 s) (hs : s.length ≤ 1000000) (hh : hybridB s = false) :
  Calls Tryz.prog 58 #[.int .u8 flag,v] w fun e w' => e = .returned (.bool (growB flag s)) ∧ Fr [] w w' := by
 obtain ⟨a,cap,rfl,hq1,hq2⟩ := hv.form
 clear hq1 hq2
 have hg := grows_iff hh
 obtain ⟨G,hG⟩ : ∃ G,G = growsB s := ⟨_,rfl⟩
 have HGw : Hid (growB flag s = (decide (flag = 1) || (decide (flag = 2) && G))) := by show _ = _; rw [hG]; rfl
 rw [← hG] at hg
 have HG := hid hg
 clear hG hg hh
 have Hhv := hid hv; clear hv
 have Hhu := hid hu; clear hu
 have Hhs := hid hs; clear hs
 have hf3 : flag = 0 ∨ flag = 1 ∨ flag = 2 := by omega
 clear hfl
 go_enter Tryz.func58,Tryz.ntmps58
 go_wp2_with fail
 refine (many_c w B hBw _ s Hhv.out Hhu.out Hhs.out).mono ?_
 rintro e w1 ⟨hf,k,n,b,rfl,hb⟩
 have HF := hid hf; clear hf
 have Hb := hid hb; clear hb
 rcases hf3 with rfl | rfl | rfl
 ·go_wp2_with fail
  go_ret
  exact ⟨by rw [HGw.out]; rfl,HF.out⟩
 ·go_wp2_with fail
  go_ret
  exact ⟨by rw [HGw.out]; rfl,HF.out⟩
 ·cases b
  ·go_wp2_with fail
   refine (sIsKey_c w1 B (Nat.le_trans hBw HF.out.size) _ s (Hhv.out.below (HF.out.below.mono hBw)) Hhu.out Hhs.out).mono ?_
   rintro e w2 ⟨rfl,hf⟩
   have HF2 := hid (HF.out.trans hf)
   clear hf
   have HR : Hid (sKeyB s = G) := by
    have h1 := Hb.out
    have h2 := HG.out
    show _ = _
    cases hk : sKeyB s
    ·cases hG : G
     ·rfl
     ·exfalso
      rcases h2.mp hG with h | h
      ·have := h1.mpr h; cases this
      ·rw [hk] at h; cases h
    ·rw [(h2.mpr (.inr hk))]
   rw [HR.out]
   clear HR
   go_wp2_with fail
   all_goals
    go_ret
    exact ⟨by rw [HGw.out]; simp_all,HF2.out⟩
  ·have HR : Hid (G = true) := HG.out.mpr (.inl (Hb.out.mp rfl))
   go_wp2_with fail
   go_ret
   exact ⟨by rw [HGw.out,HR.out]; rfl,HF.out⟩
end
end Go.Proofs.YtdllckiidegpcaaGreat
