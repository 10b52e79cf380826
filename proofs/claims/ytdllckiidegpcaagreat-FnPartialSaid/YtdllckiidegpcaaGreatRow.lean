/- For every block, every filter and every flag the law FnPartial answers true and leaves its arguments as they were. There is no condition. -/
import Derived.Test.YtdllckiidegpcaaGreatRows
import Derived.ProofKit
import Derived.OpenShut
import Derived.HandedShaped
import Derived.Carry
import Derived.Test.YtdllckiidegpcaaGreatA25
import Derived.Test.YtdllckiidegpcaaGreatA52
import Derived.Test.YtdllckiidegpcaaGreatA53
set_option linter.unusedSimpArgs false
set_option linter.unusedVariables false
set_option maxHeartbeats 4000000
namespace Go.Proofs.YtdllckiidegpcaaGreat
section
open Go.ChangeShapes Go.WideShapes Go.ChangeAt Go.RowKit
set_option maxRecDepth 8000
theorem row_own : ownKnob Tryz.prog.godebug = none := by kernel_rfl
theorem row_laidOut : laidOutB Tryz.prog = true := by kernel_rfl
theorem rds_of {H : Type} {enc : TypeId × Value → H} {W : World} {t : TypeId} {v : Value} {d : DataW H} {p : List MemPlace} (h : DataW.Trod enc Tryz.prog W 0 (fun _ => true) true t v d p) : Rds enc W t v.cells.toList := by
 obtain ⟨fuel,h⟩ := h; exact ⟨fuel,_,h⟩
theorem row_contract (H : Type) (enc : TypeId × Value → H) (W : World) (base : Nat) (args : Array Value) (ds gs : List (DataW H)) (before : List MemPlace)
  (hval : ∀ (j : Nat) t v,Tryz.f3.params[j]? = some t → args[j]? = some v → Value.okWide Tryz.prog W .any base t v)
  (hW : DataW.Whole enc Tryz.prog Tryz.f3.params.toList Rows.fnPartialSpec.vars false W args.toList ds gs before) (hsh : W.ShapedOpen Tryz.prog) :
  Calls Tryz.prog 3 args W fun e W' => ∃ v,e = .returned v ∧ Rows.fnPartialSpec.post enc Tryz.prog Tryz.f3 false true false false W args v W' := by
 have hW' := hW
 obtain ⟨p,q,hA0,hV,rfl,hfz,hnd⟩ := hW
 have hA : DataW.TrodAll enc Tryz.prog W 0 (fun _ => true) true Tryz.f3.params.toList args.toList ds p := hA0
 rw [Tryz.params3] at hA hval
 obtain ⟨v0,vs0,d0,ds0,p0,q0,hargs,rfl,rfl,h0,r0⟩ := trodAll_cons hA
 obtain ⟨v1,vs1,d1,ds1,p1,q1,rfl,rfl,rfl,h1,r1⟩ := trodAll_cons r0
 obtain ⟨v2,vs2,d2,ds2,p2,q2,rfl,rfl,rfl,h2,r2⟩ := trodAll_cons r1
 obtain ⟨rfl,rfl,rfl⟩ := trodAll_nil r2
 obtain rfl : args = #[v0,v1,v2] := by cases args; simp_all
 obtain ⟨rfl,rfl⟩ := trodVars_none hV
 obtain ⟨n,rfl,rfl,rfl,wn⟩ := open_int Tryz.underlying5 (hval 2 5 v2 rfl rfl) h2
 obtain ⟨c0,rfl,hc0,_⟩ : ∃ cs,v0 = .agg cs ∧ cs.size = Tryz.prog.cellsOf 28 ∧ Row.okWide Tryz.prog W .any base 28 cs := by
  have := hval 0 28 v0 rfl rfl
  unfold Value.okWide at this
  rw [Tryz.underlying28] at this
  exact this
 obtain ⟨c1,rfl,hc1,_⟩ : ∃ cs,v1 = .agg cs ∧ cs.size = Tryz.prog.cellsOf 31 ∧ Row.okWide Tryz.prog W .any base 31 cs := by
  have := hval 1 31 v1 rfl rfl
  unfold Value.okWide at this
  rw [Tryz.underlying31] at this
  exact this
 obtain ⟨k,hk,hko⟩ := rds_block _ (rds_of h0)
 obtain ⟨f,hf,hfo⟩ := rds_filter _ (rds_of h1)
 obtain ⟨K,hK,hKc⟩ := table_of hsh
 have hn : 0 ≤ n := by
  simp only [Lit.wf,Bool.and_eq_true,decide_eq_true_eq] at wn
  have : IntKind.u8.min = 0 := rfl
  omega
 have hlt : ∀ x ∈ p0 ++ (p1 ++ ([] ++ [])),x.block < W.heap.size := fun x hx => hW'.lt x (by simpa using hx)
 have hcall := law_c K hK W hKc W.heap.size (Nat.le_refl _) c1.toList f hfo hf n hn c0.toList k hko hk
 simp only [Array.toArray_toList] at hcall
 refine hcall.mono fun e W' ⟨he,hfr⟩ => ?_
 subst he
 have hb : Below W.heap.size W W' := hfr.below
 have hargs : ∀ sp : Nat → Bool,(∀ x ∈ p0 ++ (p1 ++ ([] ++ [])),sp x.block = true) → DataW.TrodAll enc Tryz.prog W' 0 sp true Tryz.f3.params.toList [.agg c0,.agg c1,.int .u8 n] [d0,d1,.lit (.int .u8 n)] (p0 ++ (p1 ++ ([] ++ []))) := by
  intro sp hsp
  rw [Tryz.params3]
  refine ⟨p0,p1 ++ ([] ++ []), ?_,⟨p1,[] ++ [], ?_,⟨[],[],shut_int Tryz.underlying5 wn,rfl,rfl⟩,rfl⟩,rfl⟩
  ·exact WideElems.Trod_stays row_laidOut (by kernel_rfl) (of_decide_eq_true (by kernel_rfl)) h0 (fun x hx => hb.same (hlt x (by simp [hx]))) (fun x hx => hsp x (by simp [hx]))
  ·exact WideElems.Trod_stays row_laidOut (by kernel_rfl) (of_decide_eq_true (by kernel_rfl)) h1 (fun x hx => hb.same (hlt x (by simp [hx]))) (fun x hx => hsp x (by simp [hx]))
 have hres : ∀ (b : Nat) (sp : Nat → Bool) (hd : Bool),DataW.TrodAll enc Tryz.prog W' b sp hd Tryz.f3.resultTypes.toList ((Value.bool true).resultList Tryz.f3.resultTypes.size) [.lit (.bool true)] [] := fun _ _ _ => trodAll_cons_mk (shut_bool Tryz.underlying4 _) trodAll_mk0
 have hw0 : ∀ x ∈ p0 ++ (p1 ++ ([] ++ [])) ++ [],x.block < W.heap.size := fun x hx => hW'.lt x hx
 refine ⟨_,rfl,_,_,_,[],p0 ++ (p1 ++ ([] ++ [])),[],hW',hres _ _ _,hargs _ (fun x hx => decide_eq_true (hlt x hx)),rfl,hb.frame _,fun _ => ⟨ok_one (by kernel_rfl) rfl (okWide_bool_mk Tryz.underlying4 _),_,[],([] ++ (p0 ++ (p1 ++ ([] ++ [])))) ++ [],⟨[] ++ (p0 ++ (p1 ++ ([] ++ []))),[],trodAll_append (hargs _ (fun _ _ => rfl)) (hres _ _ _),rfl,rfl, ?_,fun h => (by cases h)⟩, ?_⟩⟩
 ·intro b off hp
  have hp' : MemPlace.cell b off ∈ p0 ++ (p1 ++ ([] ++ [])) ++ [] := by simpa using hp
  have hbl : b < W.heap.size := hw0 _ hp'
  rw [hb.frozen (p := ⟨b,off,none⟩) hbl]
  exact hfz b off hp'
 ·intro x hx _
  simpa using hx
theorem row_lifted (os : Os) (started : os.Started) (H : Type) (enc : TypeId × Value → H) :
  ReturnsInHanded {} Tryz.checked os 3 .any (Rows.fnPartialSpec.pre6 enc Tryz.prog Tryz.f3 Rows.fnPartialRow.domain false) (Rows.fnPartialSpec.post enc Tryz.prog Tryz.f3 false true false false) := by
 refine returnsInHanded_of_change_shaped (C := Tryz.checked) row_own started (by kernel_rfl) Tryz.func3
  (ChangeSpec.witness6 (enc := enc) (C := Tryz.checked) false ⟨#[],#[.agg ((.int .i32 0 :: (ic .u8 (List.replicate 32 0) ++ (ic .u8 (List.replicate 32 0) ++ [.int .u32 0,.int .u32 0,.int .u32 0,.slice none 0 0]))) : List Value).toArray,.agg #[.slice none 0 0,.int .u32 0,.int .u32 0],.int .u8 0],[]⟩ 64 (by kernel_rfl) (by kernel_rfl) (by kernel_rfl) (by kernel_rfl)) ?_
 intro W base args ds gs before hval hW _ _ hsh _
 exact row_contract H enc W base args ds gs before hval hW hsh
/-- The statement. -/
theorem partial_holds : Rows.FnPartialSaid := row_over fun os started H enc => row_lifted os started H enc
end
end Go.Proofs.YtdllckiidegpcaaGreat
