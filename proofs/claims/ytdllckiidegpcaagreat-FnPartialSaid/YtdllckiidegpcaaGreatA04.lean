/- A part of the walk of laws.FnPartial (part 4): contracts of functions that it comes to, and the plain laws that these lean on. Conditions stand in each contract. -/
import Derived.Test.YtdllckiidegpcaaGreatA01
set_option linter.unusedSimpArgs false
set_option linter.unusedVariables false
namespace Go.Proofs.YtdllckiidegpcaaGreat
open Go.RowKit
theorem run_loadAt_one {P : Program} {w : World} {b o : Nat} {ty : TypeId} {d : TypeDesc} {v : Value} (hu : P.underlying ty = some d) (hd : d.isRow = false) (hc : w.cell? ⟨b,o,none⟩ = some v) :
  (Instr.loadAt ty (.pointer (some ⟨b,o,none⟩))).run P w = .ok v w := by
 have hagg : (isAgg ty).run P w = .ok false w := by
  unfold isAgg
  rw [Sem.run_bind,run_underlying hu w]
  cases d <;> simp_all
 simp [Instr.loadAt,Instr.sureAddr,loadVar,Sem.run_bind,hagg,hc]
theorem wpList_load1 {P : Program} {ops : Array Oper} {rest : List Oper} {op : Oper} {a : Act} {w : World} {Q : Exit → Act → World → Prop} (hgd : op.guard = none) (ty : TypeId) (x : Operand) (ho : op.op = .load ty x)
  (b o : Nat) (hx : a.eval x = .pointer (some ⟨b,o,none⟩)) (v : Value) (d : TypeDesc) (hc : w.cell? ⟨b,o,none⟩ = some v) (hu : P.underlying ty = some d) (hd : d.isRow = false)
  (h : wpList P ops Q rest (a.put op.dst v) w) : wpList P ops Q (op :: rest) a w := by
 refine wpList_run hgd ?_ h
 unfold execOp
 simp only [ho,hx,Sem.run_bind,run_loadAt_one hu hd hc]
 rfl
theorem wpQuiet_load1 {P : Program} {ops : Array Oper} {S : World → Prop} {Q : Act → Prop} {o : Oper} {rest : List Oper} {a : Act} (hg : o.guard = none) (ty : TypeId) (x : Operand) (ho : o.op = .load ty x)
  (b off : Nat) (hx : a.eval x = .pointer (some ⟨b,off,none⟩)) (v : Value) (d : TypeDesc) (hc : ∀ w,S w → w.cell? ⟨b,off,none⟩ = some v) (hu : P.underlying ty = some d) (hd : d.isRow = false)
  (hn : wpQuiet P ops S Q rest (a.put o.dst v)) : wpQuiet P ops S Q (o :: rest) a := by
 refine wpQuiet_val _ hg (fun w hS => ?_) hn
 unfold execOp
 simp only [ho,hx,Sem.run_bind,run_loadAt_one hu hd (hc w hS)]
 rfl
theorem wpList_build {P : Program} {ops : Array Oper} {Q : Exit → Act → World → Prop} {o : Oper} {rest : List Oper} {a : Act} {w : World} (hg : o.guard = none) (t : TypeId) (parts : Array (Nat × Operand)) (ho : o.op = .build t parts)
  (vparts : List (Nat × Value)) (hv : (parts.map fun (i,x) => (i,a.eval x)).toList = vparts) (zs : List (List Value)) (h : builtPlaces P t = some (zs.flatten,offs 0 zs))
  (hp : ∀ x ∈ vparts,∃ off,(offs 0 zs)[x.1]? = some (off,x.2.cells.size)) (cs : List Value) (hc : (vparts.foldl (fun z x => z.set x.1 x.2.cells.toList) zs).flatten = cs)
  (hn : wpList P ops Q rest (a.put o.dst (.agg cs.toArray)) w) : wpList P ops Q (o :: rest) a w := by
 refine wpList_run hg ?_ hn
 unfold execOp
 simp only [ho,Sem.run_bind,run_build_flat (P := P) (w := w) zs h _ (by rw [hv]; exact hp) cs (by rw [hv]; exact hc)]
 rfl
theorem run_indexAt_nat {P : Program} {w : World} {t e : TypeId} {b off len cap i size : Nat} {k : IntKind} (hu : P.underlying t = some (.slice e)) (hs : (P.info? e).map (·.size) = some size) (hi : i < len) :
  (Instr.indexAt t (.slice (some ⟨b,off,none⟩) len cap) (.int k (i : Int))).run P w = .ok (.pointer (some ⟨b,off + i * size,none⟩)) w := by
 have he : P.elem t = e := by simp [Program.elem,hu]
 rw [run_indexAt_slice (h := by rw [he]; exact hu),if_pos (by omega),he]
 cases hq : P.info? e with
 | none => simp [hq] at hs
 | some ie =>
  have hsz : ie.size = size := by simpa [hq] using hs
  simp [sizeOf,typeInfo,hq,hsz,Result.andThen,Addr.add_mid]
theorem wpList_index {P : Program} {ops : Array Oper} {rest : List Oper} {op : Oper} {a : Act} {w : World} {Q : Exit → Act → World → Prop} (hgd : op.guard = none) (t : TypeId) (x ix : Operand) (ho : op.op = .indexAddr t x ix)
  (b off len cap i size : Nat) (k : IntKind) (e : TypeId) (hx : a.eval x = .slice (some ⟨b,off,none⟩) len cap) (hix : a.eval ix = .int k (i : Int)) (hi : i < len) (hu : P.underlying t = some (.slice e)) (hs : (P.info? e).map (·.size) = some size)
  (h : wpList P ops Q rest (a.put op.dst (.pointer (some ⟨b,off + i * size,none⟩))) w) : wpList P ops Q (op :: rest) a w := by
 refine wpList_run hgd ?_ h
 unfold execOp
 simp only [ho,hx,hix,Sem.run_bind,run_indexAt_nat hu hs hi]
 rfl
theorem wpQuiet_index {P : Program} {ops : Array Oper} {S : World → Prop} {Q : Act → Prop} {op : Oper} {rest : List Oper} {a : Act} (hgd : op.guard = none) (t : TypeId) (x ix : Operand) (ho : op.op = .indexAddr t x ix)
  (b off len cap i size : Nat) (k : IntKind) (e : TypeId) (hx : a.eval x = .slice (some ⟨b,off,none⟩) len cap) (hix : a.eval ix = .int k (i : Int)) (hi : i < len) (hu : P.underlying t = some (.slice e)) (hs : (P.info? e).map (·.size) = some size)
  (h : wpQuiet P ops S Q rest (a.put op.dst (.pointer (some ⟨b,off + i * size,none⟩)))) : wpQuiet P ops S Q (op :: rest) a := by
 refine wpQuiet_val _ hgd (fun w hS => ?_) h
 unfold execOp
 simp only [ho,hx,hix,Sem.run_bind,run_indexAt_nat hu hs hi]
 rfl
/-- A quiet operation that is pure reckoning: its run is an equation by computation. -/
theorem wpQuiet_rfl {P : Program} {ops : Array Oper} {S : World → Prop} {Q : Act → Prop} {op : Oper} {rest : List Oper} {a : Act} (v : Value) (hgd : op.guard = none) (hr : ∀ w,(execOp a.eval op).run P w = .ok (.value v) w)
  (h : wpQuiet P ops S Q rest (a.put op.dst v)) : wpQuiet P ops S Q (op :: rest) a := wpQuiet_val v hgd (fun w _ => hr w) h
end Go.Proofs.YtdllckiidegpcaaGreat
