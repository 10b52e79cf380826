/- A part of the walk of laws.FnPartial (part 12): contracts of functions that it comes to, and the plain laws that these lean on. Conditions stand in each contract. -/
import Derived.Test.YtdllckiidegpcaaGreatA07
set_option linter.unusedSimpArgs false
set_option linter.unusedVariables false
namespace Go.Proofs.YtdllckiidegpcaaGreat
open Go.RowKit
theorem wpList_push2 {α : Type} {P : Program} {w : World} {ops : Array Oper} {rest : List Oper} {o : Oper} {a : Act} {Q : Exit → Act → World → Prop} (hgd : o.guard = none) (s x : Operand) (t : TypeId)
  (ho : o.op = .call { callee := .builtin .append,args := #[s,x],argTypes := #[t,t] })
  (T : TypeId) (size bytes : Nat) (he : Elem P t T size bytes) (base : Nat) (E : World → List Value → α → Prop)
  (v : Value) (l : List α) (hs : a.eval s = v) (hown : Grows base T size E w v l)
  (N : Nat) (T' : TypeId) (c : List Value) (hN : Blk w N T' c) (hx : a.eval x = .slice (some ⟨N,0,none⟩) 1 1) (hcl : c.length = size) (h1 : ∀ u ∈ c,u.oneCell' = true)
  (hE : ∀ w',FrT T w w' → Below base w w' → ∀ c y,E w c y → E w' c y) (y : α) (hy : E w c y)
  (hbytes : (l.length + 1) * bytes ≤ 140737488355328) (hbase : base ≤ w.heap.size)
  (h : ∀ v' w',Hid (Grows base T size E w' v' (l ++ [y])) → Hid (FrT T w w') → Hid (Fr (own1 v) w w') → Hid (Below base w w') → wpList P ops Q rest (a.put o.dst v') w') : wpList P ops Q (o :: rest) a w := by
 obtain ⟨cs,k1,k2,k3,k4⟩ := hown
 refine wpList_app hgd s x t ho T size bytes he base v l.length cs.flatten hs k3 (some ⟨N,0,none⟩) 1 1 c hx (by omega) (by intro h; cases h) ?_ h1 hbytes hbase (own1 v) w (Fr.refl _ _) (fun k hk => .inl (by unfold own1; rw [hk]; simp)) ?_
 ·intro ad had j u hj
  cases had
  rw [Addr.add_mid]; exact hN.range j u hj
 ·intro v' w' ho' hf'
  have hft : FrT T w w' := hf'.out.frT (fun k hk _ => owns_type k3 k (own1_mem hk))
  have hbl : Below base w w' := hf'.out.to_below hbase (fun k hk => (k3.lt k (own1_mem hk)).1)
  refine h v' w' ⟨cs ++ [c],by simp [k1], ?_,by simpa using ho'.out, ?_⟩ hft hf' hbl
  ·intro d hd
   rcases List.mem_append.mp hd with h | h
   ·exact k2 d h
   ·rw [List.mem_singleton] at h; subst h; exact hcl
  ·intro i hi hi'
   by_cases hic : i < cs.length
   ·rw [List.getElem_append_left hic,List.getElem_append_left (by omega)]
    exact hE w' hft hbl _ _ (k4 i hic (by omega))
   ·have hi2 : i = cs.length := by simp at hi; omega
    subst hi2
    have e1 : (cs ++ [c])[cs.length]'hi = c := by simp
    have e2 : (l ++ [y])[cs.length]'hi' = y := by simp [k1]
    rw [e1,e2]
    exact hE w' hft hbl _ _ hy
theorem wpList_new {P : Program} {ops : Array Oper} {rest : List Oper} {o3 o4 : Oper} {a : Act} {w : World} {Q : Exit → Act → World → Prop} (g3 : o3.guard = none) (g4 : o4.guard = none)
  (E : TypeId) (x : Operand) (d3 : Tmp) (h3 : o3.op = .alloc E) (h4 : o4.op = .store E (.tmp d3) x) (k3 : o3.dst = some d3) (k4 : o4.dst = none) (hd3 : d3 < a.tmps.size)
  (c z : List Value) (hx : ∀ v,(a.put (some d3) v).eval x = .agg c.toArray) (hs : (P.info? E).map (·.size) = some c.length) (hz : Zero P E z) (hzl : z.length = c.length) (h1c : ∀ u ∈ c,u.oneCell' = true)
  (h : wpList P ops Q rest (a.put (some d3) (.pointer (some ⟨w.heap.size,0,none⟩))) (w.alloc (.cells c.toArray E))) :
  wpList P ops Q (o3 :: o4 :: rest) a w := by
 refine wpList_run (v := .pointer (some ⟨w.heap.size,0,none⟩)) (w' := w.alloc (.cells z.toArray E)) g3 (by have := hz w; unfold execOp; simp only [h3,Sem.run_bind,this]; rfl) ?_
 rw [k3]
 have hN : Blk (w.alloc (.cells z.toArray E)) w.heap.size E z := Blk.new _ _ _
 refine wpList_store_mid g4 E (.tmp d3) x h4 w.heap.size 0 c.toArray (by simp [Act.put,Act.eval,hd3]) (hx _) (hN.there (by simp [hzl])) (by simpa using hs) (all_oneCell_toArray h1c) ?_
 rw [k4,show c.toArray.toList = c from rfl,alloc_setAll w z c E (by omega)]
 exact h
end Go.Proofs.YtdllckiidegpcaaGreat
