/- A part of the walk of laws.FnPartial (part 17): contracts of functions that it comes to, and the plain laws that these lean on. Conditions stand in each contract. -/
import Derived.Test.YtdllckiidegpcaaGreatA06
import Derived.Test.YtdllckiidegpcaaGreatA13
set_option linter.unusedSimpArgs false
set_option linter.unusedVariables false
namespace Go.Proofs.YtdllckiidegpcaaGreat
open Go.RowKit
theorem take_drop_cons {l : List Int} {n i : Nat} (h : i < n) (hn : n ≤ l.length) : (l.take n).drop i = nth l i :: (l.take n).drop (i + 1) := by
 rw [drop_cons (l := l.take n) (by simp; omega),nth_take' _ _ _ h]
set_option maxRecDepth 8000 in
theorem word_c (w : World) (v : Value) (l : List Int) (n : Nat) (hv : Bytes w v l) (hu : U8 l) (hn1 : 1 ≤ n) (hn2 : n ≤ 4) :
  Calls Tryz.prog 68 #[v,.int .i64 (n : Int)] w fun e w' => e = .returned (if l.length < n then .tuple #[.int .i64 0,.bool false] else .tuple #[.int .i64 (leNum (l.take n)),.bool true]) ∧ w = w' := by
 obtain ⟨a,cap,rfl,h1,h2,h3⟩ := ints_cases hv
 have hl := hv.len
 unfold maxLen at hl
 clear hv h1 h2
 have H3 := hid h3; clear h3
 have Hl := hid hl; clear hl
 have Hu := hid hu; clear hu
 by_cases hlt : l.length < n
 ·have hlti : (l.length : Int) < n := by omega
  rw [if_pos hlt]
  go_enter Tryz.func68,Tryz.ntmps68
  go_wp2_with fail
  go_ret2
  exact ⟨rfl,rfl⟩
 ·have hlti : ¬ (l.length : Int) < n := by omega
  rw [if_neg hlt]
  have hn3 : (1 : Int) ≤ n := by omega
  have hn4 : (n : Int) ≤ 4 := by omega
  go_enter Tryz.func68,Tryz.ntmps68
  go_wp2_with fail
  go_loopg [6,7] (n) (fun gk v6 v7 wr => ∃ i : Nat,i = gk ∧ i ≤ n ∧ v7 = .int .i64 ((i : Int) - 1) ∧ v6 = .int .i64 (leNum ((l.take n).drop i)) ∧ w = wr)
  case atStart =>
   refine ⟨n,rfl,Nat.le_refl _,rfl, ?_,rfl⟩
   rw [List.drop_eq_nil_of_le (by simp; omega)]; rfl
  case round =>
   obtain ⟨i,rfl,hi,rfl,rfl,rfl⟩ := hrel
   cases i with
   | zero =>
    rw [List.drop_zero]
    go_wp2_with fail
    go_ret2
    exact ⟨rfl,rfl⟩
   | succ j =>
    have hjl : j < l.length := by omega
    rcases H3.out with ⟨rfl,_,h⟩ | ⟨b,off,rfl,hb,hc⟩
    ·exact absurd hjl (by rw [h]; simp)
    ·have e1 := hc j hjl
     clear hc
     have hji : (j : Int) < l.length := by omega
     have hx := Hu.out.bd j
     have hbd := leNum_bd4 ((l.take n).drop (j + 1)) ((Hu.out.take n).drop _) (by simp; omega)
     have e2 : Hid (leNum ((l.take n).drop j) = leNum ((l.take n).drop (j + 1)) * 256 + nth l j) := by
      show _ = _
      rw [take_drop_cons (by omega) (by omega)]; simp only [leNum]; omega
     generalize leNum ((l.take n).drop (j + 1)) = m at hbd e2 ⊢
     generalize nth l j = x at hx e1 e2 ⊢
     have hb1 := hbd.1
     have hb2 := hbd.2
     have hx1 := hx.1
     have hx2 := hx.2
     have e3 : ((j + 1 : Nat) : Int) - 1 = j := by omega
     rw [e3]
     clear e3 hbd hx
     go_wp2_with fail
     go_roundg j
     case measure => omega
     case rel => exact ⟨j,rfl,by omega,rfl,by rw [e2.out],rfl⟩
section
section
variable {P : Program} {ops : Array Oper} {op : Oper} {rest : List Oper} {a : Act} {w : World} {Q : Exit → Act → World → Prop}
theorem i64_wrap (z : Int) (h0 : -9223372036854775808 ≤ z) (h1 : z ≤ 9223372036854775807) : IntKind.i64.wrap z = z := by
 rw [IntWalk.i64_in _ (by omega)]
theorem wpList_add (hg : op.guard = none) (t t' : TypeId) (x y : Operand) (ho : op.op = .binOp .add t x y t') (p q r : Int) (hx : a.eval x = .int .i64 p) (hy : a.eval y = .int .i64 q) (hr : p + q = r)
  (h0 : -9223372036854775808 ≤ r) (h1 : r ≤ 9223372036854775807)
  (hn : wpList P ops Q rest (a.put op.dst (.int .i64 r)) w) : wpList P ops Q (op :: rest) a w := by
 subst hr
 refine wpList_run hg ?_ hn
 have e : (execOp a.eval op).run P w = .ok (.value (.int .i64 (IntKind.i64.wrap (p + q)))) w := by
  unfold execOp
  simp only [ho,hx,hy]
  rfl
 rw [e,i64_wrap _ h0 h1]
end
end
section
section
variable {P : Program} {ops : Array Oper} {op : Oper} {rest : List Oper} {a : Act} {w : World} {Q : Exit → Act → World → Prop}
theorem run_slcK (t E : TypeId) (hu : P.underlying t = some (.slice E)) (hs : (P.info? E).map (·.size) = some 1) (b o n cap lo hi : Nat) (k k' : IntKind) (h1 : lo ≤ hi) (h2 : hi ≤ cap) (h3 : lo < cap) :
  (Instr.sliceAt t (.slice (some ⟨b,o,none⟩) n cap) (some (.int k (lo : Int))) (some (.int k' (hi : Int))) none).run P w = .ok (.slice (some ⟨b,o + lo,none⟩) (hi - lo) (cap - lo)) w := by
 have hel : P.elem t = E := by simp [Program.elem,hu]
 have hu' : P.underlying t = some (.slice (P.elem t)) := by rw [hel]; exact hu
 rw [run_sliceAt_slice w t _ _ _ _ hu',run_slice_lh w t _ n cap hu' k k' lo hi (by omega) (by omega) (by omega),hel]
 cases hq : P.info? E with
 | none => simp [hq] at hs
 | some ie =>
  have hsz : ie.size = 1 := by simpa [hq] using hs
  simp [sizeOf,typeInfo,hq,hsz,Result.andThen,Go.sliced,Addr.add_mid,show cap ≠ lo by omega]
theorem run_slcK_h (t E : TypeId) (hu : P.underlying t = some (.slice E)) (hs : (P.info? E).map (·.size) = some 1) (b o n cap hi : Nat) (k : IntKind) (h2 : hi ≤ cap) (h3 : 0 < cap) :
  (Instr.sliceAt t (.slice (some ⟨b,o,none⟩) n cap) none (some (.int k (hi : Int))) none).run P w = .ok (.slice (some ⟨b,o,none⟩) hi cap) w := by
 have hel : P.elem t = E := by simp [Program.elem,hu]
 have hu' : P.underlying t = some (.slice (P.elem t)) := by rw [hel]; exact hu
 rw [run_sliceAt_slice w t _ _ _ _ hu',run_slice_h w t _ n cap hu' k hi (by omega) (by omega),hel]
 cases hq : P.info? E with
 | none => simp [hq] at hs
 | some ie =>
  have hsz : ie.size = 1 := by simpa [hq] using hs
  simp [sizeOf,typeInfo,hq,hsz,Result.andThen,Go.sliced,Addr.add_mid]
theorem wpQuiet_slcK {S : World → Prop} {Q : Act → Prop} (hg : op.guard = none) (t : TypeId) (x l h : Operand) (ho : op.op = .slice t x (some l) (some h) none) (E : TypeId) (hu : P.underlying t = some (.slice E)) (hs : (P.info? E).map (·.size) = some 1)
  (b o n cap lo hi : Nat) (k k' : IntKind) (hx : a.eval x = .slice (some ⟨b,o,none⟩) n cap) (hl : a.eval l = .int k (lo : Int)) (hh : a.eval h = .int k' (hi : Int)) (h1 : lo ≤ hi) (h2 : hi ≤ cap) (h3 : lo < cap)
  (hn : wpQuiet P ops S Q rest (a.put op.dst (.slice (some ⟨b,o + lo,none⟩) (hi - lo) (cap - lo)))) : wpQuiet P ops S Q (op :: rest) a := by
 refine wpQuiet_val _ hg (fun w' _ => ?_) hn
 unfold execOp
 simp only [ho,hx,hl,hh,Option.map,Sem.run_bind,run_slcK t E hu hs b o n cap lo hi k k' h1 h2 h3]
 rfl
theorem wpQuiet_slcK_h {S : World → Prop} {Q : Act → Prop} (hg : op.guard = none) (t : TypeId) (x h : Operand) (ho : op.op = .slice t x none (some h) none) (E : TypeId) (hu : P.underlying t = some (.slice E)) (hs : (P.info? E).map (·.size) = some 1)
  (b o n cap hi : Nat) (k : IntKind) (hx : a.eval x = .slice (some ⟨b,o,none⟩) n cap) (hh : a.eval h = .int k (hi : Int)) (h2 : hi ≤ cap) (h3 : 0 < cap)
  (hn : wpQuiet P ops S Q rest (a.put op.dst (.slice (some ⟨b,o,none⟩) hi cap))) : wpQuiet P ops S Q (op :: rest) a := by
 refine wpQuiet_val _ hg (fun w' _ => ?_) hn
 unfold execOp
 simp only [ho,hx,hh,Option.map,Sem.run_bind,run_slcK_h t E hu hs b o n cap hi k h2 h3]
 rfl
end
end
section
/-- Bytes in a row that nobody else holds, in a block from base on. -/
def Fresh (base : Nat) (w : World) (v : Value) (l : List Int) : Prop := w.ownsRow base 5 1 v l.length (ic .u8 l)
section
variable {base base' : Nat} {w w' : World} {v : Value} {l m : List Int}
theorem Fresh.nil (base : Nat) (w : World) : Fresh base w (.slice none 0 0) [] := World.ownsRow_nil _ _ _ _
theorem Fresh.fr (h : Fresh base w v l) (hf : Fr [] w w') : Fresh base w' v l := owns_fr h hf
theorem Fresh.mono (h : Fresh base w v l) (hb : base' ≤ base) : Fresh base' w v l := by
 obtain ⟨hl,h⟩ := h
 refine ⟨hl, ?_⟩
 rcases h with h | ⟨g,cap,cur,h1,h2,h3⟩
 ·exact .inl h
 ·exact .inr ⟨g,cap,cur,h1,by omega,h3⟩
theorem Fresh.rd (h : Fresh base w v l) : Bytes w v l := owns_rd h
theorem Fresh.own (h : Fresh base w v l) : ∀ k,v.ownBlock = some k → base ≤ k ∧ k < w.heap.size := fun k hk => h.lt k hk
theorem Fresh.form (h : Fresh base w v l) : ∃ a c,v = .slice a l.length c := by
 obtain ⟨_,h⟩ := h
 rcases h with ⟨rfl,h⟩ | ⟨g,cap,cur,rfl,_⟩
 ·rw [h]; exact ⟨_,_,rfl⟩
 ·exact ⟨_,_,rfl⟩
theorem Fresh.new (w : World) (l : List Int) (hl : l.length ≤ maxLen) : Fresh w.heap.size (w.alloc (.cells (ic .u8 l).toArray 5)) (.slice (some ⟨w.heap.size,0,none⟩) l.length l.length) l := by
 have := World.ownsRow_lit (base := w.heap.size) (e := 5) (size := 1) w (ic .u8 l).toArray l.length (Nat.le_refl _) hl (by simp)
 exact this
theorem Fresh.empty (w : World) : Fresh w.heap.size (w.alloc (.cells #[] 5)) (.slice (some ⟨w.heap.size,0,none⟩) 0 0) [] := owns_empty w 5 1
end
/-- append(s, x...), bytes. -/
theorem wpList_appB {w : World} {ops : Array Oper} {rest : List Oper} {o : Oper} {a : Act} {Q : Exit → Act → World → Prop} (hgd : o.guard = none) (s x : Operand)
  (ho : o.op = .call { callee := .builtin .append,args := #[s,x],argTypes := #[29,29] }) (base : Nat) (v xv : Value) (l m : List Int) (hs : a.eval s = v) (hx : a.eval x = xv)
  (hown : Fresh base w v l) (hxv : Bytes w xv m) (hbytes : l.length + m.length ≤ 140737488355328) (hbase : base ≤ w.heap.size)
  (h : ∀ v' w',Hid (Fresh base w' v' (l ++ m)) → Hid (Fr (own1 v) w w') → wpList Tryz.prog ops Q rest (a.put o.dst v') w') : wpList Tryz.prog ops Q (o :: rest) a w := by
 obtain ⟨ao,c,rfl,hn,hsrc⟩ := ints_src hxv
 refine wpList_app hgd s x 29 ho 5 1 1 elem29 base v l.length (ic .u8 l) hs hown ao m.length c (ic .u8 m) hx (by simp) hn hsrc (ic_one _ _) (by simpa using hbytes) hbase (own1 v) w (Fr.refl _ _) (fun k hk => .inl (by unfold own1; rw [hk]; simp)) ?_
 intro v' w' ho' hf'
 refine h v' w' ?_ hf'
 show World.ownsRow _ _ _ _ _ _ _
 rw [ic_append,List.length_append]
 exact ho'.out
/-- What an append onto a fresh row leaves alone. -/
theorem Fresh.fr1 {base : Nat} {w w' w0 : World} {v : Value} {l : List Int} (h : Fresh base w v l) (h0 : Fr [] w0 w) (hf : Fr (own1 v) w w') (hb : w0.heap.size ≤ base) : Fr [] w0 w' :=
 h0.andThen hf (fun k hk => .inr (Nat.le_trans hb (h.own k (own1_mem hk)).1))
end
end Go.Proofs.YtdllckiidegpcaaGreat
