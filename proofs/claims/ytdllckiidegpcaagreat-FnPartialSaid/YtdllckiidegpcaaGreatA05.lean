/- A part of the walk of laws.FnPartial (part 5): contracts of functions that it comes to, and the plain laws that these lean on. Conditions stand in each contract. -/
import Derived.Conc.MuLone
import Derived.Test.YtdllckiidegpcaaGreatA01
set_option linter.unusedSimpArgs false
set_option linter.unusedVariables false
namespace Go.Proofs.YtdllckiidegpcaaGreat
open Go.RowKit
section
section
variable {P : Program} {ops : Array Oper} {Q : Exit → Act → World → Prop} {md : Region.Mode} {S : World → Prop}
/-- What one of them must lead to. -/
abbrev SegNext (P : Program) (md : Region.Mode) (ops : Array Oper) (Q : Exit → Act → World → Prop) (S : World → Prop) (fuel : Nat) (listed : Array Bool) (i : Nat) (o : Oper) (a : Act) (w : World) : Prop :=
 wpList P ops (Exit.then (fun a' w' => S w' ∧ (S w' → wpAnyH P md ops Q S fuel (listed.setIfInBounds i true) a' w')) Q) [o] a w
theorem seg_each {w : World} {fuel : Nat} {listed : Array Bool} {a : Act} (is : List Nat) (hr : Region.ready md ops listed = is) (hne : is ≠ [])
  (h : ∀ i ∈ is,∃ o,ops[i]? = some o ∧ o.guard = none ∧ SegNext P md ops Q S fuel listed i o a w) : wpAnyH P md ops Q S (fuel + 1) listed a w := by
 refine wpAnyH_all hr hne ?_
 intro j hj
 obtain ⟨o,ho,hg,h'⟩ := h j hj
 unfold wpOp
 rw [ho]
 have hw : Region.wanted o (yielded ops a.tmps) = true := by simp [Region.wanted,hg]
 simp only [hw,if_true]
 have hl := h'
 unfold SegNext wpList at hl
 rw [if_pos hw] at hl
 rcases hl with hl | hl
 ·refine .inl (Oper.wp_mono ?_ (wp_then hl))
  intro a' w' h'
  exact ⟨h'.1,h'.2 h'.1⟩
 ·exact .inr hl
theorem seg_two {w : World} {fuel : Nat} {listed : Array Bool} {a : Act} (i j : Nat) {oi oj : Oper} (hi : ops[i]? = some oi) (hj : ops[j]? = some oj) (gi : oi.guard = none) (gj : oj.guard = none) (hr : Region.ready md ops listed = [i,j])
  (h1 : wpList P ops (Exit.then (fun a' w' => S w' ∧ (S w' → wpAnyH P md ops Q S fuel (listed.setIfInBounds i true) a' w')) Q) [oi] a w)
  (h2 : wpList P ops (Exit.then (fun a' w' => S w' ∧ (S w' → wpAnyH P md ops Q S fuel (listed.setIfInBounds j true) a' w')) Q) [oj] a w) : wpAnyH P md ops Q S (fuel + 1) listed a w := by
 refine seg_each [i,j] hr (by simp) ?_
 intro k hk
 simp only [List.mem_cons,List.not_mem_nil,or_false] at hk
 rcases hk with rfl | rfl
 ·exact ⟨oi,hi,gi,h1⟩
 ·exact ⟨oj,hj,gj,h2⟩
theorem seg_three {w : World} {fuel : Nat} {listed : Array Bool} {a : Act} (i j k : Nat) {oi oj ok : Oper} (hi : ops[i]? = some oi) (hj : ops[j]? = some oj) (hk : ops[k]? = some ok) (gi : oi.guard = none) (gj : oj.guard = none) (gk : ok.guard = none) (hr : Region.ready md ops listed = [i,j,k])
  (h1 : wpList P ops (Exit.then (fun a' w' => S w' ∧ (S w' → wpAnyH P md ops Q S fuel (listed.setIfInBounds i true) a' w')) Q) [oi] a w)
  (h2 : wpList P ops (Exit.then (fun a' w' => S w' ∧ (S w' → wpAnyH P md ops Q S fuel (listed.setIfInBounds j true) a' w')) Q) [oj] a w)
  (h3 : wpList P ops (Exit.then (fun a' w' => S w' ∧ (S w' → wpAnyH P md ops Q S fuel (listed.setIfInBounds k true) a' w')) Q) [ok] a w) : wpAnyH P md ops Q S (fuel + 1) listed a w := by
 refine seg_each [i,j,k] hr (by simp) ?_
 intro l hl
 simp only [List.mem_cons,List.not_mem_nil,or_false] at hl
 rcases hl with rfl | rfl | rfl
 ·exact ⟨oi,hi,gi,h1⟩
 ·exact ⟨oj,hj,gj,h2⟩
 ·exact ⟨ok,hk,gk,h3⟩
end
end
section
section
variable {P : Program} {ops : Array Oper} {Q : Exit → Act → World → Prop} {md : Region.Mode} {S : World → Prop}
/-- What a region's end must be, and what follows from it. -/
theorem region_cut {c : Code} {a : Act} {w : World} (R : Act → Act → World → Prop) (h1 : c.wp P (fun e a' w' => e = .normal ∧ R a a' w') a w) (h2 : ∀ a' w',R a a' w' → Q .normal a' w') : c.wp P Q a w :=
 Code.wp_mono (fun _ _ _ h => by obtain ⟨rfl,h⟩ := h; exact h2 _ _ h) h1
/-- In every world of the class the operation gives v, and leaves the world as it was, be it by a call. -/
def Calm (P : Program) (ops : Array Oper) (S : World → Prop) (o : Oper) (v : Value) (a : Act) : Prop :=
 Region.wanted o (yielded ops a.tmps) = true ∧ ∀ w,S w → o.quietAt P a (fun w' => w' = w) w v
theorem Calm.wpOp {i : Nat} {o : Oper} {v : Value} {a : Act} (hi : ops[i]? = some o) (hy : Calm P ops S o v a) {K : Act → World → Prop} {w : World} (hS : S w) (h : K (a.put o.dst v) w) : wpOp P ops Q i K a w := by
 unfold Go.wpOp
 simp only [hi,hy.1,if_true]
 refine .inl (Oper.wp_of_quiet (C := fun w' => w' = w) (K := fun a' => a' = a.put o.dst v) rfl (fun a' w' e1 e2 => by subst e1 e2; exact h) ⟨v,fun w' e => ?_,rfl⟩)
 subst e; exact hy.2 _ hS
/-- The operation i, and its like t that only looks at what i looks at: both apart from all that may come before. -/
def calmFree (md : Region.Mode) (ops : Array Oper) (listed : Array Bool) (i : Nat) (t : Oper) : Bool :=
 Region.free md ops listed i && (List.range ops.size).all fun j => j == i || listed.getD j true || (ops[j]?.map fun o => o.after.any (fun e => Region.binds md e && e.on == i) || t.apart ops o).getD true
theorem calm_first {i : Nat} {oi t : Oper} {v : Value} (hi : ops[i]? = some oi) (hsel : ∀ (j : Nat) (o : Oper) cs b,ops[j]? = some o → o.op ≠ .select cs b) (hts : ∀ cs b,t.op ≠ .select cs b) (htd : t.dst = none)
  (hQ : ∀ c a w,Q (.panic c) (a.put oi.dst v) w → Q (.panic c) a w) (U : Value) (hU : ∀ a : Act,YieldsIf P ops S t U a → Calm P ops S oi v a) (hw : ∀ a : Act,Region.wanted oi (yielded ops a.tmps) = true) :
  ∀ (fuel : Nat) (listed : Array Bool) (a : Act) (w : World),
   (∀ j oj,ops[j]? = some oj → j ≠ i → listed.getD j true = false → (∀ e ∈ oj.after,Region.binds md e = true → e.on ≠ i) → oi.apart ops oj = true ∧ t.apart ops oj = true) →
   i ∈ Region.ready md ops listed → YieldsIf P ops S t U a → S w →
   wpAnyH P md ops Q S fuel (listed.setIfInBounds i true) (a.put oi.dst v) w → wpAnyH P md ops Q S (fuel + 1) listed a w := by
 intro fuel
 induction fuel with
 | zero =>
  intro listed a w _ hr hy hS H
  refine ⟨fun h => (by rw [h] at hr; cases hr),fun j hj => ?_⟩
  by_cases hji : j = i
  ·subst hji; exact (hU a hy).wpOp hi hS ⟨hS,H⟩
  ·have := ready_mono hj hji
   rw [H.1] at this
   cases this
 | succ fuel ih =>
  intro listed a w hfree hr hy hS H
  refine ⟨fun h => (by rw [h] at hr; cases hr),fun j hj => ?_⟩
  by_cases hji : j = i
  ·subst hji; exact (hU a hy).wpOp hi hS ⟨hS,H⟩
  ·obtain ⟨hju,oj,hoj,hall⟩ := mem_ready.1 hj
   have hno : ∀ e ∈ oj.after,Region.binds md e = true → e.on ≠ i := by
    intro e he hb heq
    have k1 := hall e he hb
    have k0 := (mem_ready.1 hr).1
    subst heq
    cases hg : listed[e.on]? with
    | none => simp [hg] at k1
    | some b => simp [hg] at k0 k1; rw [k0] at k1; cases k1
   obtain ⟨ap1,ap2⟩ := hfree j oj hoj hji hju hno
   have s1 := H.2 j (ready_mono hj hji)
   -- i's value put in behind j, then what i looks at is kept
   have s2 := wpOp_putIf (S := fun _ => False) hoj ap1 (fun cs b => hsel i oi cs b hi) (fun cs b => hsel j oj cs b hoj) hQ (.inl ⟨hw a,fun _ h => h.elim⟩) s1
   have s3 := wpOp_putIf (oi := t) (v := U) (S := S) hoj ap2 hts (fun cs b => hsel j oj cs b hoj) (fun c a w h => by rw [htd] at h; exact h) hy (a := a) (by rw [htd]; exact s2)
   refine wpOp_mono (fun a' w' h3 => ?_) s3
   obtain ⟨hy',_,h4⟩ := h3
   rw [htd] at h4
   refine ⟨h4.1,ih (listed.setIfInBounds j true) a' w' ?_ (ready_mono hr (Ne.symm hji)) hy' h4.1 ?_⟩
   ·intro k ok hk hki hun hn
    refine hfree k ok hk hki ?_ hn
    by_cases hjk : j = k
    ·subst hjk; exact hju
    ·rwa [getD_set_ne true hjk] at hun
   ·rw [Array.setIfInBounds_comm _ _ hji]
    exact h4.2
/-- A call of one argument, in a register, under a contract that leaves the world alone: taken first. -/
theorem seg_calm {l : List Oper} {w : World} {fuel : Nat} {listed : Array Bool} {a : Act} (i : Nat) {oi : Oper} (d : Tmp) (f : FuncId) (ty : TypeId) (x v : Value) (hi : l.toArray[i]? = some oi) (hg : oi.guard = none) (ho : oi.op = .call { callee := .value (.func f),args := #[.tmp d],argTypes := #[ty] })
  (hs : Region.noSelect l.toArray = true) (hf : calmFree md l.toArray listed i ⟨none,.move (.tmp d),oi.type,oi.pos,#[],none⟩ = true) (hr : (Region.ready md l.toArray listed).contains i = true)
  (hQ : ∀ d v c a w,Q (.panic c) (Act.put a d v) w → Q (.panic c) a w) (hx : a.eval (.tmp d) = x) (hS : S w) {fn : Func} {cd : Code} (hfn : P.funcs[f]? = some fn) (hname : (fn.name == "runtime.NumGoroutine") = false) (hbd : fn.body = some cd) (hc : ∀ w,S w → Calls P f #[x] w fun e w' => e = .returned v ∧ w = w')
  (h : wpAnyH P md l.toArray Q S fuel (listed.setIfInBounds i true) (a.put oi.dst v) w) : wpAnyH P md l.toArray Q S (fuel + 1) listed a w := by
 have hwant : ∀ a : Act,Region.wanted oi (yielded l.toArray a.tmps) = true := fun a => by simp [Region.wanted,hg]
 unfold calmFree at hf
 rw [Bool.and_eq_true,List.all_eq_true] at hf
 refine calm_first (t := ⟨none,.move (.tmp d),oi.type,oi.pos,#[],none⟩) hi (Region.noSelect_spec hs) (by simp) rfl (hQ _ _) x ?_ hwant fuel listed a w ?_ (by simpa using hr) ?_ hS h
 ·intro a' hy
  refine ⟨hwant a',fun w' hw' => ?_⟩
  rcases hy with ⟨_,hy⟩ | ⟨hy,_⟩
  ·have h1 := hy w' hw'
   unfold execOp at h1
   simp at h1
   unfold Oper.quietAt execOp
   simp only [ho]
   have hrun : (callFunc f #[x]).run P w' = .ok (.enter f #[x]) w' := Go.MuLone.run_callFunc_enter hfn hname hbd #[x] w'
   have hev : a'.eval (.func f) = .func (.func f) #[] #[] := rfl
   simp [resolve,h1,hev,Deferred.ofValue,invoke,Result.andThen,hrun]
   refine show Oper.quietUpon P _ w' v (.ok (.enter f #[x]) w') from ⟨rfl,(hc w' hw').mono ?_⟩
   rintro e w2 ⟨rfl,rfl⟩
   exact ⟨rfl,rfl⟩
  ·simp [Region.wanted] at hy
 ·intro j oj hj hji hun hno
  refine ⟨Region.free_spec hi hf.1 j oj hj hji hun hno, ?_⟩
  have := hf.2 j (List.mem_range.2 (Array.getElem?_eq_some_iff.1 hj).1)
  rw [hj] at this
  have h2 : oj.after.any (fun e => Region.binds md e && e.on == i) = false := by
   rw [Bool.eq_false_iff]
   intro hc
   rw [Array.any_eq_true'] at hc
   obtain ⟨e,he,hb⟩ := hc
   rw [Bool.and_eq_true] at hb
   exact hno e he hb.1 (by simpa using hb.2)
  simp only [hun,Option.map_some,Option.getD_some,h2,Bool.false_or,Bool.or_false,Bool.or_eq_true,beq_iff_eq] at this
  rcases this with h3 | h3
  ·exact absurd h3 hji
  ·exact h3
 ·refine .inl ⟨by simp [Region.wanted],fun w' _ => ?_⟩
  unfold execOp
  simp [hx]
end
end
end Go.Proofs.YtdllckiidegpcaaGreat
