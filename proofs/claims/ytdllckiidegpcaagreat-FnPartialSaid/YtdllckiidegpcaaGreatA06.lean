/- A part of the walk of laws.FnPartial (part 6): contracts of functions that it comes to, and the plain laws that these lean on. Conditions stand in each contract. -/
import Derived.Test.YtdllckiidegpcaaGreatA03
import Derived.Test.YtdllckiidegpcaaGreatA04
set_option linter.unusedSimpArgs false
set_option linter.unusedVariables false
namespace Go.Proofs.YtdllckiidegpcaaGreat
open Go.RowKit
def leNum : List Int → Int
 | [] => 0
 | x :: l => x + 256 * leNum l
theorem leNum_bd (l : List Int) (h : U8 l) : 0 ≤ leNum l ∧ leNum l < 256 ^ l.length := by
 induction l with
 | nil => simp [leNum]
 | cons x l ih =>
  have hx := h x (by simp)
  have := ih (fun y hy => h y (by simp [hy]))
  simp only [leNum,List.length_cons,Int.pow_succ]
  omega
theorem leNum_bd4 (l : List Int) (h : U8 l) (hl : l.length ≤ 4) : 0 ≤ leNum l ∧ leNum l ≤ 4294967295 := by
 have := leNum_bd l h
 have h2 : (256 : Int) ^ l.length ≤ 4294967296 := by
  have : l.length = 0 ∨ l.length = 1 ∨ l.length = 2 ∨ l.length = 3 ∨ l.length = 4 := by omega
  rcases this with h | h | h | h | h <;> rw [h] <;> decide
 omega
theorem U8.drop {l : List Int} (h : U8 l) (n : Nat) : U8 (l.drop n) := fun x hx => h x (List.mem_of_mem_drop hx)
theorem U8.take {l : List Int} (h : U8 l) (n : Nat) : U8 (l.take n) := fun x hx => h x (List.mem_of_mem_take hx)
theorem U8.bd {l : List Int} (h : U8 l) (i : Nat) : 0 ≤ nth l i ∧ nth l i ≤ 255 := by
 by_cases hi : i < l.length
 ·have := h _ (List.getElem_mem hi); rw [nth_eq _ _ hi]; omega
 ·have e : nth l i = 0 := by unfold nth; rw [List.getD_eq_getElem?_getD,List.getElem?_eq_none (by omega)]; rfl
  omega
theorem drop_cons {l : List Int} {i : Nat} (h : i < l.length) : l.drop i = nth l i :: l.drop (i + 1) := by
 rw [nth_eq _ _ h]; exact List.drop_eq_getElem_cons h
structure Tok where
 op : Int
 data : List Int
 pos : Nat
/-- What the token at p pushes, and where the next one begins; none: it is not whole. -/
def tokAt (s : List Int) (p : Nat) : Option (List Int × Nat) :=
 let op := nth s p
 let rest := s.drop (p + 1)
 if 1 ≤ op ∧ op < 76 then (if op.toNat ≤ rest.length then some (rest.take op.toNat,p + 1 + op.toNat) else none)
 else if 76 ≤ op ∧ op ≤ 78 then
  let wd := 2 ^ (op - 76).toNat
  if rest.length < wd then none
  else
   let n := (leNum (rest.take wd)).toNat
   if n ≤ rest.length - wd then some ((rest.drop wd).take n,p + 1 + wd + n) else none
 else some ([],p + 1)
theorem tokAt_gt {s : List Int} {p q : Nat} {d : List Int} (h : tokAt s p = some (d,q)) (hp : p < s.length) : p < q ∧ q ≤ s.length := by
 unfold tokAt at h
 simp only [List.length_drop] at h
 generalize 2 ^ (nth s p - 76).toNat = wd at h
 split at h
 ·split at h
  ·simp only [Option.some.injEq,Prod.mk.injEq] at h; omega
  ·cases h
 ·split at h
  ·split at h
   ·cases h
   ·split at h
    ·simp only [Option.some.injEq,Prod.mk.injEq] at h; omega
    ·cases h
  ·simp only [Option.some.injEq,Prod.mk.injEq] at h; omega
/-- The tokens from p on; and where the first one begins that is not whole. -/
def toksF (s : List Int) : Nat → Nat → List Tok × Option Nat
 | 0,_ => ([],none)
 | f + 1,p => if p < s.length then
   match tokAt s p with
   | none => ([],some p)
   | some (d,q) => (⟨nth s p,d,p⟩ :: (toksF s f q).1,(toksF s f q).2)
  else ([],none)
def toksFrom (s : List Int) (p : Nat) : List Tok × Option Nat := toksF s (s.length - p) p
def toks (s : List Int) : List Tok × Option Nat := toksFrom s 0
theorem toksF_key (s : List Int) : ∀ (a b p : Nat),s.length - p ≤ a → s.length - p ≤ b → toksF s a p = toksF s b p := by
 intro a
 induction a with
 | zero =>
  intro b p h1 h2
  have hn : ¬ p < s.length := by omega
  cases b with
  | zero => rfl
  | succ b => simp [toksF,hn]
 | succ a iha =>
  intro b p h1 h2
  cases b with
  | zero =>
   have hn : ¬ p < s.length := by omega
   simp [toksF,hn]
  | succ b =>
   simp only [toksF]
   split
   ·rename_i hp
    cases ht : tokAt s p with
    | none => rfl
    | some x =>
     obtain ⟨d,q⟩ := x
     have hq := tokAt_gt ht hp
     simp only []
     rw [iha b q (by omega) (by omega)]
   ·rfl
theorem toksF_more (s : List Int) (f p : Nat) (h : s.length - p ≤ f) : toksF s f p = toksF s (s.length - p) p := toksF_key s _ _ _ h (Nat.le_refl _)
theorem toksFrom_end {s : List Int} {p : Nat} (h : s.length ≤ p) : toksFrom s p = ([],none) := by
 unfold toksFrom; rw [show s.length - p = 0 by omega]; rfl
theorem toksFrom_bad {s : List Int} {p : Nat} (h : p < s.length) (ht : tokAt s p = none) : toksFrom s p = ([],some p) := by
 unfold toksFrom
 obtain ⟨k,hk⟩ : ∃ k,s.length - p = k + 1 := ⟨s.length - p - 1,by omega⟩
 rw [hk]; simp [toksF,h,ht]
theorem toksFrom_step {s : List Int} {p q : Nat} {d : List Int} (h : p < s.length) (ht : tokAt s p = some (d,q)) : toksFrom s p = (⟨nth s p,d,p⟩ :: (toksFrom s q).1,(toksFrom s q).2) := by
 unfold toksFrom
 obtain ⟨k,hk⟩ : ∃ k,s.length - p = k + 1 := ⟨s.length - p - 1,by omega⟩
 have hq := tokAt_gt ht h
 rw [hk]; simp only [toksF,h,if_true,ht]
 rw [toksF_more s k q (by omega)]
def rot32 (x : Int) (c : Nat) : Int := bits .or .u32 (x * 2 ^ c % 4294967296) (x / 2 ^ (32 - c))
def mMix (k : Int) : Int := rot32 (k * 3432918353 % 4294967296) 15 * 461845907 % 4294967296
def mRound (h k : Int) : Int := (rot32 (bits .xor .u32 h (mMix k)) 13 * 5 % 4294967296 + 3864292196) % 4294967296
def mAbs (seed : Int) (b : List Int) : Nat → Int
 | 0 => seed
 | i + 1 => mRound (mAbs seed b i) (leNum ((b.drop (4 * i)).take 4))
def mF1 (h : Int) : Int := bits .xor .u32 h (h / 65536) * 2246822507 % 4294967296
def mF2 (h : Int) : Int := bits .xor .u32 h (h / 8192) * 3266489909 % 4294967296
def mF3 (h : Int) : Int := bits .xor .u32 h (h / 65536)
def mTail (seed : Int) (b : List Int) : Int := bits .xor .u32 (mAbs seed b (b.length / 4)) (mMix (leNum (b.drop (4 * (b.length / 4)))))
def murmur (seed : Int) (b : List Int) : Int := mF3 (mF2 (mF1 (bits .xor .u32 (mTail seed b) (b.length : Int))))
theorem rot32_bd (x : Int) (c : Nat) : 0 ≤ rot32 x c ∧ rot32 x c < 4294967296 := bits_u32_bd _ _ _
theorem mMix0 : mMix 0 = 0 := by decide
theorem mMix_bd (k : Int) : 0 ≤ mMix k ∧ mMix k < 4294967296 := by unfold mMix; omega
theorem mAbs_bd (seed : Int) (b : List Int) (i : Nat) (h : 0 ≤ seed ∧ seed < 4294967296) : 0 ≤ mAbs seed b i ∧ mAbs seed b i < 4294967296 := by
 cases i with
 | zero => exact h
 | succ i => simp only [mAbs,mRound]; omega
theorem mTail0 (seed : Int) (b : List Int) (h : 0 ≤ seed ∧ seed < 4294967296) (hb : b.length % 4 = 0) : mTail seed b = mAbs seed b (b.length / 4) := by
 have e : b.drop (4 * (b.length / 4)) = [] := List.drop_eq_nil_of_le (by omega)
 have := mAbs_bd seed b (b.length / 4) h
 unfold mTail
 rw [e]
 simp only [leNum]
 rw [mMix0,xor0_u32 _ this.1 this.2]
theorem murmur_bd (seed : Int) (b : List Int) : 0 ≤ murmur seed b ∧ murmur seed b < 4294967296 := by unfold murmur mF3; exact bits_u32_bd _ _ _
def swOps : List Oper → Option (Tmp × Tmp × Int)
 | [⟨some d,.binOp .eql 5 (.tmp 3) (.const (.int .u8 k)) 5,_,_,_,none⟩,⟨some e,.assign (.tmp d'),_,_,_,none⟩] =>
  if d' = d ∧ d < 1028 ∧ e < 1028 ∧ d ≠ 3 ∧ e ≠ 3 then some (d,e,k) else none
 | _ => none
def swRes : List Oper → Option (Int × ByteArray × Int)
 | [⟨some d,.build 340 ps,_,_,_,none⟩,⟨some e,.box 340 (.tmp d'),_,_,_,none⟩,⟨some 2,.assign (.tmp e'),_,_,_,none⟩] =>
  if d' = d ∧ e' = e ∧ d < 1028 ∧ e < 1028 then
   (match ps.toList with
   | [(0,.const (.int .u8 k)),(1,.const (.string s)),(2,.const (.int .i64 l))] => some (k,s,l)
   | _ => none)
  else none
 | _ => none
def swRun (v : Int) : Code → Option (ByteArray × Int)
 | .seq (.region _ ops false) (.cond (.tmp p) (.seq (.region _ ops3 false) .ret) els) =>
  match swOps ops.toList with
  | some (_,e,k) =>
   if e = p then
    (if v = k then (match swRes ops3.toList with | some (k',s,l) => if k' = v then some (s,l) else none | none => none) else swRun v els)
   else none
  | none => none
 | _ => none
theorem eval_put_same (a : Act) (d : Tmp) (v : Value) (h : d < a.tmps.size) : (a.put (some d) v).eval (.tmp d) = v := by simp [Act.put,Act.eval,h]
theorem eval_put_other (a : Act) (d e : Tmp) (v : Value) (h : d ≠ e) : (a.put (some d) v).eval (.tmp e) = a.eval (.tmp e) := by
 simp [Act.put,Act.eval,Array.getD_eq_getD_getElem?,Array.getElem?_setIfInBounds,h]
theorem put_size (a : Act) (d : Option Tmp) (v : Value) : (a.put d v).tmps.size = a.tmps.size := by cases d <;> simp [Act.put]
theorem put_defers (a : Act) (d : Option Tmp) (v : Value) : (a.put d v).defers = a.defers := by cases d <;> simp [Act.put]
theorem run_assign {P : Program} {op : Oper} {a : Act} {w : World} {v : Value} {x : Operand} (ho : op.op = .assign x) (hx : a.eval x = v) : (execOp a.eval op).run P w = .ok (.value v) w := by
 unfold execOp; simp only [ho,hx]; rfl
theorem run_move {P : Program} {op : Oper} {a : Act} {w : World} {v : Value} {x : Operand} (ho : op.op = .move x) (hx : a.eval x = v) : (execOp a.eval op).run P w = .ok (.value v) w := by
 unfold execOp; simp only [ho,hx]; rfl
theorem run_eql8 {P : Program} {op : Oper} {a : Act} {w : World} {p q : Int} {x y : Operand} {t : TypeId} (ho : op.op = .binOp .eql 5 x y t) (hx : a.eval x = .int .u8 p) (hy : a.eval y = .int .u8 q) : (execOp a.eval op).run P w = .ok (.value (.bool (p == q))) w := by
 unfold execOp; simp only [ho,hx,hy]; rfl
theorem run_box340 {op : Oper} {a : Act} {w : World} {x : Operand} {cs : List Value} (ho : op.op = .box 340 x) (hx : a.eval x = .agg cs.toArray) : (execOp a.eval op).run Tryz.prog w = .ok (.value (.pointer (some ⟨w.heap.size,0,none⟩))) (w.alloc (.cells cs.toArray 340)) := by
 unfold execOp; simp only [ho,hx]; rfl
/-- What the switch must leave. -/
def SwPost (v : Int) (s : ByteArray) (l : Int) (Q : Exit → Act → World → Prop) (w : World) : Prop :=
 ∀ a' : Act,a'.tmps.size = 1028 → a'.eval (.tmp 2) = .pointer (some ⟨w.heap.size,0,none⟩) → a'.defers = [] → Q .ret a' (w.alloc (.cells #[.int .u8 v,.string s,.int .i64 l] 340))
theorem swRes_sound {ops : Array Oper} {v : Int} {s : ByteArray} {l : Int} (h : swRes ops.toList = some (v,s,l)) (Q : Exit → Act → World → Prop) (i : Nat) (a : Act) (w : World) (ha : a.tmps.size = 1028) (hd : a.defers = []) (hQ : SwPost v s l Q w) :
  (Code.seq (.region i ops false) .ret).wp Tryz.prog Q a w := by
 unfold swRes at h
 split at h
 ·rename_i d ps _ _ _ e d' _ _ _ e' _ _ _ hl
  split at h
  ·rename_i hc
   obtain ⟨rfl,rfl,hd1,he1⟩ := hc
   split at h
   ·rename_i k s' l' hps
    simp only [Option.some.injEq,Prod.mk.injEq] at h
    obtain ⟨rfl,rfl,rfl⟩ := h
    have hda : d' < a.tmps.size := by rw [ha]; exact hd1
    have hea : e' < a.tmps.size := by rw [ha]; exact he1
    refine wp_seq ?_
    refine wp_region_list ?_
    rw [hl]
    have hp2 : (ps.map fun (i,x) => (i,a.eval x)).toList = [(0,.int .u8 k),(1,.string s'),(2,.int .i64 l')] := by
     rw [Array.toList_map,hps]; rfl
    refine wpList_build rfl 340 ps rfl [(0,.int .u8 k),(1,.string s'),(2,.int .i64 l')] hp2 [[.int .u8 0],[.string ⟨#[]⟩],[.int .i64 0]] (by kernel_rfl) (by simp [offs,Value.cells]) [.int .u8 k,.string s',.int .i64 l'] (by simp [Value.cells]) ?_
    refine wpList_run (v := .pointer (some ⟨w.heap.size,0,none⟩)) (w' := w.alloc (.cells [.int .u8 k,.string s',.int .i64 l'].toArray 340)) rfl (run_box340 rfl (eval_put_same a _ _ hda)) ?_
    refine wpList_run (v := .pointer (some ⟨w.heap.size,0,none⟩)) (w' := w.alloc (.cells [.int .u8 k,.string s',.int .i64 l'].toArray 340)) rfl (run_assign rfl (eval_put_same _ _ _ (by rw [put_size]; exact hea))) ?_
    refine wpList_nil ?_
    refine wp_ret ?_
    refine hQ _ (by simp only [put_size]; exact ha) (eval_put_same _ _ _ (by simp only [put_size]; rw [ha]; decide)) (by simp only [put_defers]; exact hd)
   ·cases h
  ·cases h
 ·cases h
theorem swOps_sound {ops : Array Oper} {d e : Tmp} {k v : Int} (h : swOps ops.toList = some (d,e,k)) (Q : Exit → Act → World → Prop) (i : Nat) (a : Act) (w : World) (ha : a.tmps.size = 1028) (hv : a.eval (.tmp 3) = .int .u8 v)
  (hQ : ∀ a' : Act,a'.tmps.size = 1028 → a'.defers = a.defers → a'.eval (.tmp 3) = .int .u8 v → a'.eval (.tmp e) = .bool (decide (v = k)) → Q .normal a' w) : (Code.region i ops false).wp Tryz.prog Q a w := by
 unfold swOps at h
 split at h
 ·rename_i d1 k1 _ _ _ e1 d2 _ _ _ hl
  split at h
  ·rename_i hc
   obtain ⟨rfl,hd1,he1,hd3,he3⟩ := hc
   simp only [Option.some.injEq,Prod.mk.injEq] at h
   obtain ⟨rfl,rfl,rfl⟩ := h
   refine wp_region_list ?_
   rw [hl]
   refine wpList_run (v := .bool (v == k1)) (w' := w) rfl (run_eql8 rfl hv rfl) ?_
   refine wpList_run (v := .bool (v == k1)) (w' := w) rfl (run_assign rfl (eval_put_same _ _ _ (by rw [ha]; exact hd1))) ?_
   refine wpList_nil ?_
   refine hQ _ (by simp only [put_size]; exact ha) (by simp only [put_defers]) ?_ ?_
   ·rw [eval_put_other _ _ _ _ he3,eval_put_other _ _ _ _ hd3,hv]
   ·rw [eval_put_same _ _ _ (by simp only [put_size]; rw [ha]; exact he1)]
    rfl
  ·cases h
 ·cases h
theorem swRun_sound (v : Int) (s : ByteArray) (l : Int) (Q : Exit → Act → World → Prop) (w : World) (hQ : SwPost v s l Q w)
  (c : Code) (a : Act) (h : swRun v c = some (s,l)) (ha : a.tmps.size = 1028) (hd : a.defers = []) (hv : a.eval (.tmp 3) = .int .u8 v) : c.wp Tryz.prog Q a w := by
 unfold swRun at h
 split at h
 ·rename_i i ops p j ops3 els
  split at h
  ·rename_i d e k hso
   split at h
   ·rename_i hep
    subst hep
    refine wp_seq ?_
    refine swOps_sound hso _ i a w ha hv ?_
    intro a' ha' hd' hv' he'
    simp only [Exit.then]
    split at h
    ·rename_i hvk
     split at h
     ·rename_i k' s' l' hres
      split at h
      ·rename_i hkv
       subst hkv
       simp only [Option.some.injEq,Prod.mk.injEq] at h
       obtain ⟨rfl,rfl⟩ := h
       refine wp_cond_true (by rw [he']; simp [hvk]) ?_
       exact swRes_sound hres Q j a' w ha' (by rw [hd',hd]) hQ
      ·cases h
     ·cases h
    ·rename_i hvk
     refine wp_cond_false (by rw [he']; simp [hvk]) ?_
     exact swRun_sound v s l Q w hQ els a' h ha' (by rw [hd',hd]) hv'
   ·cases h
  ·cases h
 ·cases h
termination_by SizeOf.sizeOf c
def swTop (v : Int) : Code → Option (ByteArray × Int)
 | .seq (.region _ o0 false) (.seq (.seq (.region _ o1 false) (.block _ sw)) _) =>
  match o0.toList,o1.toList with
  | [⟨some 2,.assign (.const (.pointer none)),_,_,_,none⟩],[⟨some 3,.move (.tmp 0),_,_,_,none⟩] => swRun v sw
  | _,_ => none
 | _ => none
theorem swTop_sound (v : Int) (s : ByteArray) (l : Int) (Q : Exit → Act → World → Prop) (w : World) (hQ : SwPost v s l Q w)
  (c : Code) (a : Act) (h : swTop v c = some (s,l)) (ha : a.tmps.size = 1028) (hd : a.defers = []) (hv : a.eval (.tmp 0) = .int .u8 v) : c.wp Tryz.prog Q a w := by
 unfold swTop at h
 split at h
 ·rename_i i0 o0 i1 o1 b sw rest
  split at h
  ·rename_i h0 h1
   refine wp_seq ?_
   refine wp_region_list ?_
   rw [h0]
   refine wpList_run (v := .pointer none) rfl rfl ?_
   refine wpList_nil ?_
   simp only [Exit.then]
   refine wp_seq ?_
   refine wp_seq ?_
   refine wp_region_list ?_
   rw [h1]
   refine wpList_run (v := .int .u8 v) (w' := w) rfl (run_move rfl ((eval_put_other a 2 0 _ (by decide)).trans hv)) ?_
   refine wpList_nil ?_
   simp only [Exit.then]
   refine wp_block ?_
   refine swRun_sound v s l _ w ?_ sw _ h (by simp only [put_size]; exact ha) (by simp only [put_defers]; exact hd) (eval_put_same _ _ _ (by simp only [put_size]; rw [ha]; decide))
   intro a' h1 h2 h3
   exact hQ a' h1 h2 h3
  ·cases h
 ·cases h
/-- How long an opcode is, with what it pushes; below 0: so many bytes tell. -/
def opLen (v : Nat) : Int := if v = 0 then 1 else if v < 76 then v + 1 else if v = 76 then -1 else if v = 77 then -2 else if v = 78 then -4 else 1
noncomputable def body161 : Code := Tryz.f161.body.getD .skip
theorem body161_is : Tryz.f161.body = some body161 := by
 have h : Tryz.f161.body.isSome = true := by kernel_rfl
 unfold body161
 cases hb : Tryz.f161.body with
 | none => rw [hb] at h; cases h
 | some c => rfl
noncomputable def swLen (v : Nat) : Bool := match swTop (v : Int) body161 with | some (_,l) => l == opLen v | none => false
theorem swAll : (List.range 256).all swLen = true := by kernel_rfl
theorem opcodeOf_c (w : World) (v : Nat) (hv : v < 256) :
  Calls Tryz.prog 161 #[.int .u8 (v : Int)] w fun e w' => ∃ s,e = .returned (.pointer (some ⟨w.heap.size,0,none⟩)) ∧ w' = w.alloc (.cells #[.int .u8 (v : Int),.string s,.int .i64 (opLen v)] 340) := by
 have h := List.all_eq_true.mp swAll v (List.mem_range.mpr hv)
 unfold swLen at h
 split at h
 ·rename_i s l hs
  have hl : l = opLen v := by simpa using h
  subst hl
  refine calls_of_wp Tryz.func161 body161_is ?_
  refine swTop_sound (v : Int) s (opLen v) _ w ?_ body161 _ hs (by simp [Tryz.ntmps161]) rfl (by simp [Act.eval])
  intro a' h1 h2 h3
  refine bodyPost_ret (v := .pointer (some ⟨w.heap.size,0,none⟩)) ?_ h3 ⟨s,rfl,rfl⟩
  have hr : (results Tryz.f161 a'.tmps).run Tryz.prog (w.alloc (.cells #[.int .u8 (v : Int),.string s,.int .i64 (opLen v)] 340)) = .ok (a'.eval (.tmp 2)) (w.alloc (.cells #[.int .u8 (v : Int),.string s,.int .i64 (opLen v)] 340)) := results_tmp Tryz.results161 _ _ _
  rw [h2] at hr
  exact hr
 ·cases h
end Go.Proofs.YtdllckiidegpcaaGreat
