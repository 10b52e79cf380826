/- A part of the walk of laws.FnPartial (part 13): contracts of functions that it comes to, and the plain laws that these lean on. Conditions stand in each contract. -/
import Derived.Test.YtdllckiidegpcaaGreatA07
set_option linter.unusedSimpArgs false
set_option linter.unusedVariables false
namespace Go.Proofs.YtdllckiidegpcaaGreat
open Go.RowKit
section
theorem RdB.sliced {B : Nat} {w : World} {a : Option Addr} {n cap lo hi : Nat} {xs : List Value} (h : RdB B w (.slice a n cap) n xs) (hx : xs.length = n) (h1 : lo ≤ hi) (h2 : hi ≤ n) :
  RdB B w (sliced a lo hi cap 1) (hi - lo) ((xs.drop lo).take (hi - lo)) := by
 obtain ⟨a',cap',he,k1,k2,k3⟩ := h
 simp only [Value.slice.injEq] at he
 obtain ⟨rfl,_,rfl⟩ := he
 unfold Go.sliced
 refine ⟨_,_,rfl,by omega,by omega, ?_⟩
 rcases k3 with ⟨rfl,_,rfl⟩ | ⟨b,off,rfl,hb,hc⟩
 ·left
  refine ⟨by simp,by omega,by simp⟩
 ·right
  by_cases e : cap = lo
  ·refine ⟨b,off,by simp [e],hb, ?_⟩
   intro i hi'
   simp at hi'; omega
  ·refine ⟨b,off + lo,by simp [e,Addr.add_mid],hb, ?_⟩
   intro i hi'
   have hi2 : lo + i < xs.length := by simp at hi'; omega
   rw [List.getElem_take,List.getElem_drop,Nat.add_assoc]
   exact hc (lo + i) hi2
theorem RdB.form {B : Nat} {w : World} {v : Value} {n : Nat} {xs : List Value} (h : RdB B w v n xs) : ∃ a cap,v = .slice a n cap ∧ n ≤ cap ∧ cap ≤ maxLen := by
 obtain ⟨a,cap,rfl,h1,h2,_⟩ := h; exact ⟨a,cap,rfl,h1,h2⟩
section
variable {P : Program} {ops : Array Oper} {op : Oper} {rest : List Oper} {a : Act} {w : World} {Q : Exit → Act → World → Prop} {B : Nat} {v : Value} {n lo hi : Nat} {xs : List Value}
theorem run_slc_lh (t E : TypeId) (hu : P.underlying t = some (.slice E)) (hs : (P.info? E).map (·.size) = some 1) (a : Option Addr) (n cap : Nat) (k k' : IntKind) (h1 : lo ≤ hi) (h2 : hi ≤ n) (hc : n ≤ cap) :
  (Instr.sliceAt t (.slice a n cap) (some (.int k (lo : Int))) (some (.int k' (hi : Int))) none).run P w = .ok (Go.sliced a lo hi cap 1) w := by
 have hel : P.elem t = E := by simp [Program.elem,hu]
 have hu' : P.underlying t = some (.slice (P.elem t)) := by rw [hel]; exact hu
 rw [run_sliceAt_slice w t _ _ _ _ hu',run_slice_lh w t a n cap hu' k k' lo hi (by omega) (by omega) (by omega),hel]
 cases hq : P.info? E with
 | none => simp [hq] at hs
 | some ie =>
  have hsz : ie.size = 1 := by simpa [hq] using hs
  simp [sizeOf,typeInfo,hq,hsz,Result.andThen]
theorem run_slc_l (t E : TypeId) (hu : P.underlying t = some (.slice E)) (hs : (P.info? E).map (·.size) = some 1) (a : Option Addr) (n cap : Nat) (k : IntKind) (h1 : lo ≤ n) :
  (Instr.sliceAt t (.slice a n cap) (some (.int k (lo : Int))) none none).run P w = .ok (Go.sliced a lo n cap 1) w := by
 have hel : P.elem t = E := by simp [Program.elem,hu]
 have hu' : P.underlying t = some (.slice (P.elem t)) := by rw [hel]; exact hu
 rw [run_sliceAt_slice w t _ _ _ _ hu',run_slice_l w t a n cap hu' k lo (by omega) (by omega),hel]
 cases hq : P.info? E with
 | none => simp [hq] at hs
 | some ie =>
  have hsz : ie.size = 1 := by simpa [hq] using hs
  simp [sizeOf,typeInfo,hq,hsz,Result.andThen]
theorem run_slc_h (t E : TypeId) (hu : P.underlying t = some (.slice E)) (hs : (P.info? E).map (·.size) = some 1) (a : Option Addr) (n cap : Nat) (k : IntKind) (h1 : hi ≤ n) (hc : n ≤ cap) :
  (Instr.sliceAt t (.slice a n cap) none (some (.int k (hi : Int))) none).run P w = .ok (Go.sliced a 0 hi cap 1) w := by
 have hel : P.elem t = E := by simp [Program.elem,hu]
 have hu' : P.underlying t = some (.slice (P.elem t)) := by rw [hel]; exact hu
 rw [run_sliceAt_slice w t _ _ _ _ hu',run_slice_h w t a n cap hu' k hi (by omega) (by omega),hel]
 cases hq : P.info? E with
 | none => simp [hq] at hs
 | some ie =>
  have hsz : ie.size = 1 := by simpa [hq] using hs
  simp [sizeOf,typeInfo,hq,hsz,Result.andThen]
/-- x[lo:hi] -/
theorem wpList_slc_lh (hg : op.guard = none) (t : TypeId) (x l h : Operand) (ho : op.op = .slice t x (some l) (some h) none) (E : TypeId) (hu : P.underlying t = some (.slice E)) (hs : (P.info? E).map (·.size) = some 1)
  (k k' : IntKind) (hx : a.eval x = v) (hl : a.eval l = .int k (lo : Int)) (hh : a.eval h = .int k' (hi : Int)) (hr : RdB B w v n xs) (hxl : xs.length = n) (h1 : lo ≤ hi) (h2 : hi ≤ n)
  (hn : ∀ v',RdB B w v' (hi - lo) ((xs.drop lo).take (hi - lo)) → wpList P ops Q rest (a.put op.dst v') w) : wpList P ops Q (op :: rest) a w := by
 obtain ⟨ad,cap,rfl,hc,_⟩ := hr.form
 refine wpList_run hg ?_ (hn (Go.sliced ad lo hi cap 1) (hr.sliced hxl h1 h2))
 unfold execOp
 simp only [ho,hx,hl,hh,Option.map,Sem.run_bind,run_slc_lh t E hu hs ad n cap k k' h1 h2 hc]
 rfl
/-- x[lo:] -/
theorem wpList_slc_l (hg : op.guard = none) (t : TypeId) (x l : Operand) (ho : op.op = .slice t x (some l) none none) (E : TypeId) (hu : P.underlying t = some (.slice E)) (hs : (P.info? E).map (·.size) = some 1)
  (k : IntKind) (hx : a.eval x = v) (hl : a.eval l = .int k (lo : Int)) (hr : RdB B w v n xs) (hxl : xs.length = n) (h1 : lo ≤ n)
  (hn : ∀ v',RdB B w v' (n - lo) (xs.drop lo) → wpList P ops Q rest (a.put op.dst v') w) : wpList P ops Q (op :: rest) a w := by
 obtain ⟨ad,cap,rfl,hc,_⟩ := hr.form
 have := hr.sliced hxl h1 (Nat.le_refl _)
 rw [List.take_of_length_le (by simp [hxl])] at this
 refine wpList_run hg ?_ (hn (Go.sliced ad lo n cap 1) this)
 unfold execOp
 simp only [ho,hx,hl,Option.map,Sem.run_bind,run_slc_l t E hu hs ad n cap k h1]
 rfl
/-- x[:hi] -/
theorem wpList_slc_h (hg : op.guard = none) (t : TypeId) (x h : Operand) (ho : op.op = .slice t x none (some h) none) (E : TypeId) (hu : P.underlying t = some (.slice E)) (hs : (P.info? E).map (·.size) = some 1)
  (k : IntKind) (hx : a.eval x = v) (hh : a.eval h = .int k (hi : Int)) (hr : RdB B w v n xs) (hxl : xs.length = n) (h1 : hi ≤ n)
  (hn : ∀ v',RdB B w v' hi (xs.take hi) → wpList P ops Q rest (a.put op.dst v') w) : wpList P ops Q (op :: rest) a w := by
 obtain ⟨ad,cap,rfl,hc,_⟩ := hr.form
 have := hr.sliced hxl (Nat.zero_le hi) h1
 rw [List.drop_zero,Nat.sub_zero] at this
 refine wpList_run hg ?_ (hn (Go.sliced ad 0 hi cap 1) this)
 unfold execOp
 simp only [ho,hx,hh,Option.map,Sem.run_bind,run_slc_h t E hu hs ad n cap k h1 hc]
 rfl
/-- The quiet forms: in every world of the class the value is the same one. -/
theorem wpQuiet_slc_l {S : World → Prop} {Q : Act → Prop} (hg : op.guard = none) (t : TypeId) (x l : Operand) (ho : op.op = .slice t x (some l) none none) (E : TypeId) (hu : P.underlying t = some (.slice E)) (hs : (P.info? E).map (·.size) = some 1)
  (k : IntKind) (hx : a.eval x = v) (hl : a.eval l = .int k (lo : Int)) (hr : RdB B w v n xs) (hxl : xs.length = n) (h1 : lo ≤ n)
  (hn : ∀ v',RdB B w v' (n - lo) (xs.drop lo) → wpQuiet P ops S Q rest (a.put op.dst v')) : wpQuiet P ops S Q (op :: rest) a := by
 obtain ⟨ad,cap,rfl,hc,_⟩ := hr.form
 have := hr.sliced hxl h1 (Nat.le_refl _)
 rw [List.take_of_length_le (by simp [hxl])] at this
 refine wpQuiet_val _ hg (fun w' _ => ?_) (hn (Go.sliced ad lo n cap 1) this)
 unfold execOp
 simp only [ho,hx,hl,Option.map,Sem.run_bind,run_slc_l t E hu hs ad n cap k h1]
 rfl
theorem wpQuiet_slc_h {S : World → Prop} {Q : Act → Prop} (hg : op.guard = none) (t : TypeId) (x h : Operand) (ho : op.op = .slice t x none (some h) none) (E : TypeId) (hu : P.underlying t = some (.slice E)) (hs : (P.info? E).map (·.size) = some 1)
  (k : IntKind) (hx : a.eval x = v) (hh : a.eval h = .int k (hi : Int)) (hr : RdB B w v n xs) (hxl : xs.length = n) (h1 : hi ≤ n)
  (hn : ∀ v',RdB B w v' hi (xs.take hi) → wpQuiet P ops S Q rest (a.put op.dst v')) : wpQuiet P ops S Q (op :: rest) a := by
 obtain ⟨ad,cap,rfl,hc,_⟩ := hr.form
 have := hr.sliced hxl (Nat.zero_le hi) h1
 rw [List.drop_zero,Nat.sub_zero] at this
 refine wpQuiet_val _ hg (fun w' _ => ?_) (hn (Go.sliced ad 0 hi cap 1) this)
 unfold execOp
 simp only [ho,hx,hh,Option.map,Sem.run_bind,run_slc_h t E hu hs ad n cap k h1 hc]
 rfl
theorem wpQuiet_slc_lh {S : World → Prop} {Q : Act → Prop} (hg : op.guard = none) (t : TypeId) (x l h : Operand) (ho : op.op = .slice t x (some l) (some h) none) (E : TypeId) (hu : P.underlying t = some (.slice E)) (hs : (P.info? E).map (·.size) = some 1)
  (k k' : IntKind) (hx : a.eval x = v) (hl : a.eval l = .int k (lo : Int)) (hh : a.eval h = .int k' (hi : Int)) (hr : RdB B w v n xs) (hxl : xs.length = n) (h1 : lo ≤ hi) (h2 : hi ≤ n)
  (hn : ∀ v',RdB B w v' (hi - lo) ((xs.drop lo).take (hi - lo)) → wpQuiet P ops S Q rest (a.put op.dst v')) : wpQuiet P ops S Q (op :: rest) a := by
 obtain ⟨ad,cap,rfl,hc,_⟩ := hr.form
 refine wpQuiet_val _ hg (fun w' _ => ?_) (hn (Go.sliced ad lo hi cap 1) (hr.sliced hxl h1 h2))
 unfold execOp
 simp only [ho,hx,hl,hh,Option.map,Sem.run_bind,run_slc_lh t E hu hs ad n cap k k' h1 h2 hc]
 rfl
end
end
end Go.Proofs.YtdllckiidegpcaaGreat
