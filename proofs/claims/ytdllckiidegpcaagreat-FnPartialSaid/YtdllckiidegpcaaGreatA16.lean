/- A part of the walk of laws.FnPartial (part 16): contracts of functions that it comes to, and the plain laws that these lean on. Conditions stand in each contract. -/
import Derived.Deep.Slices
import Derived.OpenShut
import Derived.Test.YtdllckiidegpcaaGreatA11
import Derived.Test.YtdllckiidegpcaaGreatA13
set_option linter.unusedSimpArgs false
set_option linter.unusedVariables false
namespace Go.Proofs.YtdllckiidegpcaaGreat
open Go.RowKit
section
theorem sliced_some (ad : Addr) (lo hi cap : Nat) : ∃ ad',Go.sliced (some ad) lo hi cap 1 = .slice (some ad') (hi - lo) (cap - lo) := by
 unfold Go.sliced
 split
 ·exact ⟨_,rfl⟩
 ·exact ⟨_,rfl⟩
section
variable {P : Program} {ops : Array Oper} {op : Oper} {rest : List Oper} {a : Act} {w : World} {Q : Exit → Act → World → Prop} {B : Nat} {ad : Addr} {n cap lo hi : Nat} {xs : List Value}
theorem wpList_slcS_lh (hg : op.guard = none) (t : TypeId) (x l h : Operand) (ho : op.op = .slice t x (some l) (some h) none) (E : TypeId) (hu : P.underlying t = some (.slice E)) (hs : (P.info? E).map (·.size) = some 1)
  (k k' : IntKind) (hx : a.eval x = .slice (some ad) n cap) (hl : a.eval l = .int k (lo : Int)) (hh : a.eval h = .int k' (hi : Int)) (hr : RdB B w (.slice (some ad) n cap) n xs) (hxl : xs.length = n) (h1 : lo ≤ hi) (h2 : hi ≤ n)
  (hn : ∀ ad',RdB B w (.slice (some ad') (hi - lo) (cap - lo)) (hi - lo) ((xs.drop lo).take (hi - lo)) → wpList P ops Q rest (a.put op.dst (.slice (some ad') (hi - lo) (cap - lo))) w) : wpList P ops Q (op :: rest) a w := by
 obtain ⟨ad0,cap0,he,hc,_⟩ := hr.form
 simp only [Value.slice.injEq] at he
 obtain ⟨rfl,_,rfl⟩ := he
 have hsl := hr.sliced hxl h1 h2
 obtain ⟨ad',e⟩ := sliced_some ad lo hi cap
 rw [e] at hsl
 refine wpList_run hg ?_ (hn ad' hsl)
 unfold execOp
 simp only [ho,hx,hl,hh,Option.map,Sem.run_bind,run_slc_lh t E hu hs (some ad) n cap k k' h1 h2 hc]
 rw [← e]
 rfl
theorem wpList_slcS_l (hg : op.guard = none) (t : TypeId) (x l : Operand) (ho : op.op = .slice t x (some l) none none) (E : TypeId) (hu : P.underlying t = some (.slice E)) (hs : (P.info? E).map (·.size) = some 1)
  (k : IntKind) (hx : a.eval x = .slice (some ad) n cap) (hl : a.eval l = .int k (lo : Int)) (hr : RdB B w (.slice (some ad) n cap) n xs) (hxl : xs.length = n) (h1 : lo ≤ n)
  (hn : ∀ ad',RdB B w (.slice (some ad') (n - lo) (cap - lo)) (n - lo) (xs.drop lo) → wpList P ops Q rest (a.put op.dst (.slice (some ad') (n - lo) (cap - lo))) w) : wpList P ops Q (op :: rest) a w := by
 obtain ⟨ad0,cap0,he,hc,_⟩ := hr.form
 simp only [Value.slice.injEq] at he
 obtain ⟨rfl,_,rfl⟩ := he
 have hsl := hr.sliced hxl h1 (Nat.le_refl _)
 rw [List.take_of_length_le (by simp [hxl])] at hsl
 obtain ⟨ad',e⟩ := sliced_some ad lo n cap
 rw [e] at hsl
 refine wpList_run hg ?_ (hn ad' hsl)
 unfold execOp
 simp only [ho,hx,hl,Option.map,Sem.run_bind,run_slc_l t E hu hs (some ad) n cap k h1]
 rw [← e]
 rfl
theorem wpList_slcS_h (hg : op.guard = none) (t : TypeId) (x h : Operand) (ho : op.op = .slice t x none (some h) none) (E : TypeId) (hu : P.underlying t = some (.slice E)) (hs : (P.info? E).map (·.size) = some 1)
  (k : IntKind) (hx : a.eval x = .slice (some ad) n cap) (hh : a.eval h = .int k (hi : Int)) (hr : RdB B w (.slice (some ad) n cap) n xs) (hxl : xs.length = n) (h1 : hi ≤ n)
  (hn : ∀ ad',RdB B w (.slice (some ad') hi cap) hi (xs.take hi) → wpList P ops Q rest (a.put op.dst (.slice (some ad') hi cap)) w) : wpList P ops Q (op :: rest) a w := by
 obtain ⟨ad0,cap0,he,hc,_⟩ := hr.form
 simp only [Value.slice.injEq] at he
 obtain ⟨rfl,_,rfl⟩ := he
 have hsl := hr.sliced hxl (Nat.zero_le hi) h1
 obtain ⟨ad',e⟩ := sliced_some ad 0 hi cap
 rw [e] at hsl
 rw [List.drop_zero] at hsl
 simp only [Nat.sub_zero] at hsl e
 refine wpList_run hg ?_ (hn ad' hsl)
 unfold execOp
 simp only [ho,hx,hh,Option.map,Sem.run_bind,run_slc_h t E hu hs (some ad) n cap k h1 hc]
 rw [← e]
 rfl
theorem wpQuiet_slcS_l {S : World → Prop} {Q : Act → Prop} (hg : op.guard = none) (t : TypeId) (x l : Operand) (ho : op.op = .slice t x (some l) none none) (E : TypeId) (hu : P.underlying t = some (.slice E)) (hs : (P.info? E).map (·.size) = some 1)
  (k : IntKind) (hx : a.eval x = .slice (some ad) n cap) (hl : a.eval l = .int k (lo : Int)) (hr : RdB B w (.slice (some ad) n cap) n xs) (hxl : xs.length = n) (h1 : lo ≤ n)
  (hn : ∀ ad',RdB B w (.slice (some ad') (n - lo) (cap - lo)) (n - lo) (xs.drop lo) → wpQuiet P ops S Q rest (a.put op.dst (.slice (some ad') (n - lo) (cap - lo)))) : wpQuiet P ops S Q (op :: rest) a := by
 obtain ⟨ad0,cap0,he,hc,_⟩ := hr.form
 simp only [Value.slice.injEq] at he
 obtain ⟨rfl,_,rfl⟩ := he
 have hsl := hr.sliced hxl h1 (Nat.le_refl _)
 rw [List.take_of_length_le (by simp [hxl])] at hsl
 obtain ⟨ad',e⟩ := sliced_some ad lo n cap
 rw [e] at hsl
 refine wpQuiet_val _ hg (fun w' _ => ?_) (hn ad' hsl)
 unfold execOp
 simp only [ho,hx,hl,Option.map,Sem.run_bind,run_slc_l t E hu hs (some ad) n cap k h1]
 rw [← e]
 rfl
theorem wpQuiet_slcS_h {S : World → Prop} {Q : Act → Prop} (hg : op.guard = none) (t : TypeId) (x h : Operand) (ho : op.op = .slice t x none (some h) none) (E : TypeId) (hu : P.underlying t = some (.slice E)) (hs : (P.info? E).map (·.size) = some 1)
  (k : IntKind) (hx : a.eval x = .slice (some ad) n cap) (hh : a.eval h = .int k (hi : Int)) (hr : RdB B w (.slice (some ad) n cap) n xs) (hxl : xs.length = n) (h1 : hi ≤ n)
  (hn : ∀ ad',RdB B w (.slice (some ad') hi cap) hi (xs.take hi) → wpQuiet P ops S Q rest (a.put op.dst (.slice (some ad') hi cap))) : wpQuiet P ops S Q (op :: rest) a := by
 obtain ⟨ad0,cap0,he,hc,_⟩ := hr.form
 simp only [Value.slice.injEq] at he
 obtain ⟨rfl,_,rfl⟩ := he
 have hsl := hr.sliced hxl (Nat.zero_le hi) h1
 obtain ⟨ad',e⟩ := sliced_some ad 0 hi cap
 rw [e] at hsl
 rw [List.drop_zero] at hsl
 simp only [Nat.sub_zero] at hsl e
 refine wpQuiet_val _ hg (fun w' _ => ?_) (hn ad' hsl)
 unfold execOp
 simp only [ho,hx,hh,Option.map,Sem.run_bind,run_slc_h t E hu hs (some ad) n cap k h1 hc]
 rw [← e]
 rfl
end
end
section
set_option maxRecDepth 8000
/-- How many nodes a tree over n leaves has at a height. -/
def wid (n h : Nat) : Nat := (n + 2 ^ h - 1) / 2 ^ h
theorem width_c (w : World) (g n h : Nat) (rest : List Value) (hB : Blk w g 108 (.int .u32 n :: rest)) (hn : n ≤ 64) (hh : h ≤ 7) :
  Calls Tryz.prog 40 #[.pointer (some ⟨g,0,none⟩),.int .u32 h] w fun e w' => e = .returned (.int .u32 (wid n h)) ∧ w = w' := by
 have c0 : w.cell? ⟨g,0,none⟩ = some (.int .u32 n) := hB.cell_at rfl
 have hl := hB.lt
 clear hB
 have hn1 : (n : Int) ≤ 64 := by omega
 have hn0 : (0 : Int) ≤ n := by omega
 obtain ⟨v,hv⟩ : ∃ v,v = wid n h := ⟨_,rfl⟩
 rw [← hv]
 have HV := hid hv
 clear hv hn
 have hc : h = 0 ∨ h = 1 ∨ h = 2 ∨ h = 3 ∨ h = 4 ∨ h = 5 ∨ h = 6 ∨ h = 7 := by omega
 clear hh
 rcases hc with rfl | rfl | rfl | rfl | rfl | rfl | rfl | rfl
 ·go_enter Tryz.func40,Tryz.ntmps40
  go_wp2_with fail
  go_ret
  refine ⟨congrArg (fun b => Ending.returned (.int .u32 b)) ?_,rfl⟩
  rw [HV.out,wid]
  simp only [Nat.reducePow]
  omega
 ·go_enter Tryz.func40,Tryz.ntmps40
  go_wp2_with fail
  go_ret
  refine ⟨congrArg (fun b => Ending.returned (.int .u32 b)) ?_,rfl⟩
  rw [HV.out,wid]
  simp only [Nat.reducePow]
  omega
 ·go_enter Tryz.func40,Tryz.ntmps40
  go_wp2_with fail
  go_ret
  refine ⟨congrArg (fun b => Ending.returned (.int .u32 b)) ?_,rfl⟩
  rw [HV.out,wid]
  simp only [Nat.reducePow]
  omega
 ·go_enter Tryz.func40,Tryz.ntmps40
  go_wp2_with fail
  go_ret
  refine ⟨congrArg (fun b => Ending.returned (.int .u32 b)) ?_,rfl⟩
  rw [HV.out,wid]
  simp only [Nat.reducePow]
  omega
 ·go_enter Tryz.func40,Tryz.ntmps40
  go_wp2_with fail
  go_ret
  refine ⟨congrArg (fun b => Ending.returned (.int .u32 b)) ?_,rfl⟩
  rw [HV.out,wid]
  simp only [Nat.reducePow]
  omega
 ·go_enter Tryz.func40,Tryz.ntmps40
  go_wp2_with fail
  go_ret
  refine ⟨congrArg (fun b => Ending.returned (.int .u32 b)) ?_,rfl⟩
  rw [HV.out,wid]
  simp only [Nat.reducePow]
  omega
 ·go_enter Tryz.func40,Tryz.ntmps40
  go_wp2_with fail
  go_ret
  refine ⟨congrArg (fun b => Ending.returned (.int .u32 b)) ?_,rfl⟩
  rw [HV.out,wid]
  simp only [Nat.reducePow]
  omega
 ·go_enter Tryz.func40,Tryz.ntmps40
  go_wp2_with fail
  go_ret
  refine ⟨congrArg (fun b => Ending.returned (.int .u32 b)) ?_,rfl⟩
  rw [HV.out,wid]
  simp only [Nat.reducePow]
  omega
end
section
open Go.RowKit Go.Deep Go.ChangeShapes Go.WideShapes
section
variable {H : Type} {enc : TypeId × Value → H} {W : World}
/-- It reads as something of that type. -/
def Rds (enc : TypeId × Value → H) (W : World) (t : TypeId) (cs : List Value) : Prop := ∃ fuel x,DataW.trod enc Tryz.prog W 0 (fun _ => true) true fuel t cs = some x
theorem rds_int {t : TypeId} {k : IntKind} {cs : List Value} (ht : Tryz.prog.underlying t = some (.int k)) (h : Rds enc W t cs) : ∃ n,cs = [.int k n] ∧ k.min ≤ n ∧ n ≤ k.max := by
 obtain ⟨fuel,x,h⟩ := h
 obtain ⟨n,h1,_,hw⟩ := DataW.trod_int ht h
 simp only [Lit.wf,Bool.and_eq_true,decide_eq_true_eq] at hw
 exact ⟨n,h1,hw.1,hw.2⟩
theorem rds_struct {t : TypeId} {fs : Array Field} {cs : List Value} (ht : Tryz.prog.underlying t = some (.struct fs)) (h : Rds enc W t cs) : cs.length = Tryz.prog.cellsOf t ∧ ∀ (i : Nat) (f : Field),fs[i]? = some f → Rds enc W f.type ((cs.drop f.offset).take (Tryz.prog.cellsOf f.type)) := by
 obtain ⟨fuel,x,h⟩ := h
 obtain ⟨xs,n,_,_,hl,hx,hf⟩ := DataW.trod_struct ht h
 refine ⟨hl,fun i f hi => ?_⟩
 have h1 := hf i f hi
 have hi' : i < xs.length := by rw [hx]; exact (Array.getElem?_eq_some_iff.mp hi).1
 rw [List.getElem?_eq_getElem hi'] at h1
 exact ⟨n,_,h1⟩
theorem rds_arr {cs : List Value} (h : Rds enc W 22 cs) : ∃ l : List Int,cs = ic .u8 l ∧ l.length = 32 ∧ U8 l := by
 obtain ⟨fuel,x,h⟩ := h
 obtain ⟨xs,m,_,_,hl,hx,hf⟩ := DataW.trod_array Tryz.underlying22 h
 have hl : cs.length = 32 := hl.trans (by kernel_rfl)
 have hc : Tryz.prog.cellsOf 5 = 1 := by kernel_rfl
 have hg : ∀ i,i < 32 → ∃ n : Int,cs[i]? = some (.int .u8 n) ∧ 0 ≤ n ∧ n < 256 := by
  intro i hi
  have h1 := hf i hi
  rw [List.getElem?_eq_getElem (by omega)] at h1
  obtain ⟨n,h2,h3,h4⟩ := rds_int (enc := enc) (W := W) Tryz.underlying5 ⟨m,_,h1⟩
  rw [hc,Nat.mul_one] at h2
  have h5 : (cs.drop i)[0]? = some (.int .u8 n) := by
   have := congrArg (fun l => l[0]?) h2
   simpa [List.getElem?_take] using this
  rw [List.getElem?_drop,Nat.add_zero] at h5
  have e1 : IntKind.u8.min = 0 := rfl
  have e2 : IntKind.u8.max = 255 := rfl
  exact ⟨n,h5,by omega,by omega⟩
 obtain ⟨f,hfn⟩ := choose_lt (α := Int) hg
 refine ⟨(List.range 32).map f, ?_,by simp, ?_⟩
 ·apply List.ext_getElem?
  intro i
  by_cases hi : i < 32
  ·rw [(hfn i hi).1]; simp [ic,hi]
  ·rw [List.getElem?_eq_none (by omega),List.getElem?_eq_none (by simp; omega)]
 ·intro x hx
  obtain ⟨i,hi,rfl⟩ := List.mem_map.mp hx
  exact (hfn i (List.mem_range.mp hi)).2
theorem split_at' {α : Type} (l : List α) (o s : Nat) : l.drop o = (l.drop o).take s ++ l.drop (o + s) := by
 have := List.take_append_drop s (l.drop o)
 rw [List.drop_drop] at this
 exact this.symm
theorem rds_list {α : Type} [Inhabited α] {t e : TypeId} {size : Nat} {E : World → List Value → α → Prop} {Ok : α → Prop} {cs : List Value} (ht : Tryz.prog.underlying t = some (.slice e)) (hs : Tryz.prog.cellsOf e = size) (hpos : 0 < size)
  (hE : ∀ cs,Rds enc W e cs → ∃ y,E W cs y ∧ Ok y) (h : Rds enc W t cs) : ∃ v l,cs = [v] ∧ ListB W.heap.size size E W v l ∧ ∀ y ∈ l,Ok y := by
 obtain ⟨fuel,x,h⟩ := h
 rcases open_slice ht h with ⟨rfl,_⟩ | ⟨a,len,cap,m,n,D,Pl,rfl,hb,hl,hm,hmm,_,hx⟩
 ·exact ⟨_,[],rfl,⟨[],rfl,by simp,⟨none,0,rfl,Nat.le_refl _,Nat.zero_le _,.inl ⟨rfl,rfl,rfl⟩⟩,by simp⟩,by simp⟩
 ·have hmc : m = cap := by simpa using hmm
  subst hmc
  have hc : ∀ i,i < len → ∃ cy : List Value × α,(cy.1.length = size ∧ ∀ j (hj : j < cy.1.length),W.cell? ((a.add (i * size)).add j) = some cy.1[j]) ∧ E W cy.1 cy.2 ∧ Ok cy.2 := by
   intro i hi
   obtain ⟨cs',h1,h2⟩ := hx i (by omega)
   rw [hs] at h1
   obtain ⟨y,hy,hoy⟩ := hE cs' ⟨n,_,h2⟩
   have h3 := World.cells?_some h1
   refine ⟨(cs',y),⟨h3.2.1,fun j hj => ?_⟩,hy,hoy⟩
   have h4 := h3.2.2 j (by rw [← h3.2.1]; exact hj)
   rw [h4,List.getElem?_eq_getElem hj]
  obtain ⟨f,hf⟩ := choose_lt (α := List Value × α) hc
  have hcl : ∀ c ∈ (List.range len).map (fun i => (f i).1),c.length = size := by
   intro c hc
   obtain ⟨i,hi,rfl⟩ := List.mem_map.mp hc
   exact (hf i (List.mem_range.mp hi)).1.1
  refine ⟨_,(List.range len).map (fun i => (f i).2),rfl,⟨(List.range len).map (fun i => (f i).1),by simp,hcl, ?_, ?_⟩, ?_⟩
  ·rw [List.length_map,List.length_range]
   refine ⟨some a,m,rfl,hl,hm, ?_⟩
   by_cases hl0 : len = 0
   ·by_cases hm0 : m = 0
    ·exact .inl ⟨hm0,hm0,by rw [hl0]; rfl⟩
    ·obtain ⟨cs',h1,_⟩ := hx 0 (by omega)
     rw [hs,Nat.zero_mul] at h1
     have h3 := World.cells?_some h1
     have hlt := World.cells?_block h1 hpos
     have h4 := h3.2.2 0 hpos
     rw [List.getElem?_eq_getElem (by rw [h3.2.1]; exact hpos)] at h4
     simp [Addr.add] at h4 hlt
     obtain ⟨b,off,sp⟩ := a
     have hsp : sp = none := by
      unfold World.cell? at h4
      cases sp with
      | none => rfl
      | some s => split at h4 <;> simp at h4
     subst hsp
     exact .inr ⟨b,off,rfl,hlt,fun i hi => by rw [hl0] at hi; simp at hi⟩
   ·have h0 := hf 0 (by omega)
    have h4 := h0.1.2 0 (by rw [h0.1.1]; exact hpos)
    simp [Addr.add] at h4
    obtain ⟨b,off,sp⟩ := a
    have hsp : sp = none := by
     unfold World.cell? at h4
     cases sp with
     | none => rfl
     | some s => split at h4 <;> simp at h4
    subst hsp
    have hlt : b < W.heap.size := World.block_lt_of_cell? W ⟨b,off,none⟩ h4
    refine .inr ⟨b,off,rfl,hlt,fun i hi => ?_⟩
    have hfl := flat_length ((List.range len).map (fun i => (f i).1)) hcl
    rw [List.length_map,List.length_range] at hfl
    have hi2 : i < len * size := by rw [← hfl]; exact hi
    have hq : i / size < len := by rw [Nat.div_lt_iff_lt_mul hpos]; exact hi2
    have hr : i % size < size := Nat.mod_lt _ hpos
    have he : i / size * size + i % size = i := by rw [Nat.mul_comm]; exact Nat.div_add_mod i size
    have hg := flat_get ((List.range len).map (fun i => (f i).1)) hcl (i / size) (i % size) (by simpa using hq) hr
    rw [he,List.getElem?_eq_getElem hi] at hg
    have h5 := (hf (i / size) hq).1.2 (i % size) (by rw [(hf _ hq).1.1]; exact hr)
    have h6 : (((List.range len).map (fun i => (f i).1))[i / size]'(by simpa using hq))[i % size]? = some ((f (i / size)).1[i % size]'(by rw [(hf _ hq).1.1]; exact hr)) := by
     rw [List.getElem?_eq_getElem (by simpa using (by rw [(hf _ hq).1.1]; exact hr : i % size < (f (i / size)).1.length))]
     simp
    rw [h6] at hg
    rw [Option.some.inj hg,← h5,add_add,he]
    by_cases hi0 : i = 0
    ·subst hi0; simp [Addr.add]
    ·simp [Addr.add,hi0]
  ·intro i h h'
   simp only [List.getElem_map,List.getElem_range]
   exact (hf i (by simpa using h)).2.1
  ·intro y hy
   obtain ⟨i,hi,rfl⟩ := List.mem_map.mp hy
   exact (hf i (List.mem_range.mp hi)).2.2
end
end
end Go.Proofs.YtdllckiidegpcaaGreat
