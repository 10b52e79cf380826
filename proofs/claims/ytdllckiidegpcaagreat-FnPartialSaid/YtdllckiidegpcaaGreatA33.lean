/- A part of the walk of laws.FnPartial (part 33): contracts of functions that it comes to, and the plain laws that these lean on. Conditions stand in each contract. -/
import Derived.Test.YtdllckiidegpcaaGreatA30
set_option linter.unusedSimpArgs false
set_option linter.unusedVariables false
set_option maxHeartbeats 4000000
namespace Go.Proofs.YtdllckiidegpcaaGreat
open Go.RowKit
theorem run_bs1 {P : Program} {w : World} {t e : TypeId} {size bytes : Nat} (he : Elem P t e size bytes) (hsz : size ≤ 16777216) (v : Value) (c : List Value) (hv : v.cells = c.toArray) (hc : c.length = size) :
  (Instr.buildSlice t 1 #[(0,v)]).run P w = .ok (.slice (some ⟨w.heap.size,0,none⟩) 1 1) (w.alloc (.cells c.toArray e)) := by
 obtain ⟨hu,i,z,hi,hz,hs,hb,hzs,h0,_⟩ := he
 have hfill : ∀ (l : List Value),l.length = size → Instr.fill (fun i => some (i * size,size)) l.toArray [(0,v)] = some c.toArray := by
  intro l hl
  rw [fill_cons (off := 0) (size := size) (by simp) (by rw [hv]; simpa using hc) (by omega),Instr.fill,hv]
  simp [splice,hl,hc]
 have hn : ¬ (1 * size > 2 ^ 24) := by omega
 have hn2 : ¬ (1 * size = 0) := by omega
 unfold Instr.buildSlice
 have hr := hfill (((Array.range (1 * size)).map (fun x => z.cells[x % z.cells.size]!)).toList) (by simp)
 rw [Array.toArray_toList] at hr
 simp [Sem.run_bind,run_underlying hu,Result.andThen,sizeOf,typeInfo,hi,hs,zeroValue,hz]
 rw [if_neg (by omega),if_neg (by omega)]
 rw [Nat.one_mul] at hr
 rw [hr]
 simp [newRow,Sem.run_bind,Result.andThen]
theorem wpList_bs1 {P : Program} {ops : Array Oper} {Q : Exit → Act → World → Prop} {o : Oper} {rest : List Oper} {a : Act} {w : World} (hg : o.guard = none) (t : TypeId) (x : Operand) (ho : o.op = .buildSlice t 1 #[(0,x)])
  (e : TypeId) (size bytes : Nat) (he : Elem P t e size bytes) (hsz : size ≤ 16777216) (v : Value) (c : List Value) (hx : a.eval x = v) (hv : v.cells = c.toArray) (hc : c.length = size)
  (hn : wpList P ops Q rest (a.put o.dst (.slice (some ⟨w.heap.size,0,none⟩) 1 1)) (w.alloc (.cells c.toArray e))) : wpList P ops Q (o :: rest) a w := by
 refine wpList_run hg ?_ hn
 unfold execOp
 simp only [ho,List.map_toArray,List.map_cons,List.map_nil,hx,Sem.run_bind,run_bs1 he hsz v c hv hc]
 rfl
/-- [][32]byte: a hash as an element. -/
def HashE (_ : World) (c : List Value) (l : List Int) : Prop := c = ic .u8 l
theorem elem42 : Elem Tryz.prog 42 22 32 32 := Elem.mk' (by kernel_rfl) (by kernel_rfl) (by decide) (by decide)
theorem elem53 : Elem Tryz.prog 53 4 1 1 := Elem.mk' (by kernel_rfl) (by kernel_rfl) (by decide) (by decide)
theorem elem46 : Elem Tryz.prog 46 3 1 8 := Elem.mk' (by kernel_rfl) (by kernel_rfl) (by decide) (by decide)
theorem elem67 : Elem Tryz.prog 67 23 1 4 := Elem.mk' (by kernel_rfl) (by kernel_rfl) (by decide) (by decide)
theorem elem43 : Elem Tryz.prog 43 25 68 80 := Elem.mk' (by kernel_rfl) (by kernel_rfl) (by decide) (by decide)
/-- append(s, h), a hash: the literal and the append, one behind the other. -/
theorem wpList_hashPush {ops : Array Oper} {Q : Exit → Act → World → Prop} {o1 o2 : Oper} {rest : List Oper} {a : Act} {w : World} (g1 : o1.guard = none) (g2 : o2.guard = none) (s x : Operand) (d : Tmp) (h1 : o1.op = .buildSlice 42 1 #[(0,x)]) (k1 : o1.dst = some d)
  (h2 : o2.op = .call { callee := .builtin .append,args := #[s,.tmp d],argTypes := #[42,42] }) (hd : d < a.tmps.size) (W : World) (v : Value) (l : List (List Int)) (y : List Int) (hs : ∀ u,(a.put (some d) u).eval s = v) (hx : a.eval x = arr y) (hy : y.length = 32)
  (hown : Grows W.heap.size 22 32 HashE w v l) (hf : Fr [] W w) (hl : l.length ≤ 1000000)
  (h : ∀ v' w',Hid (Grows W.heap.size 22 32 HashE w' v' (l ++ [y])) → Hid (Fr [] W w') → Hid (Fr (own1 v) w w') → wpList Tryz.prog ops Q rest ((a.put (some d) (.slice (some ⟨w.heap.size,0,none⟩) 1 1)).put o2.dst v') w') : wpList Tryz.prog ops Q (o1 :: o2 :: rest) a w := by
 refine wpList_bs1 g1 42 x h1 22 32 32 elem42 (by decide) (arr y) (ic .u8 y) hx rfl (by simpa using hy) ?_
 rw [k1]
 refine wpList_pushF g2 s (.tmp d) 42 h2 22 32 32 elem42 W w HashE v l (hs _) (ic .u8 y).toArray rfl (by simp [Act.put,Act.eval,hd]) hown hf (by simpa using hy) (by simpa using ic_one _ _) (fun _ _ _ _ _ _ h => h) y rfl (by omega) ?_
 intro v' w' a1 a2 _ a4
 exact h v' w' a1 a2 a4
section
set_option maxRecDepth 8000
theorem little_c (w : World) (v : Int) (h0 : 0 ≤ v) (hv : v ≤ 18446744073709551615) (n : Nat) (hn : n ≤ 8) (x : Int) (hx : x = n) :
  Calls Tryz.prog 95 #[.int .u64 v,.int .i64 x] w fun e w' => ∃ v',e = .returned v' ∧ Fr [] w w' ∧ Fresh w.heap.size w' v' (le n v) := by
 subst hx
 have hn8 : (n : Int) ≤ 8 := by omega
 have HV := hid hv
 clear hn hv
 go_enter Tryz.func95,Tryz.ntmps95
 go_wp2_with fail
 go_loopg [0,5,7] (n) (fun gk v0 v5 v7 wr => ∃ i u acc vr,vr = v5 ∧ gk = n - i ∧ i ≤ n ∧ v0 = .int .u64 u ∧ v7 = .int .i64 (i : Int) ∧ 0 ≤ u ∧ Hid (u ≤ 18446744073709551615) ∧ List.length acc = i ∧ acc ++ le (n - i) u = le n v ∧ Fresh w.heap.size wr vr acc ∧ Fr [] w wr)
 case atStart => exact ⟨0,v,[],_,rfl,rfl,Nat.zero_le _,rfl,rfl,h0,HV,rfl,rfl,Fresh.nil _ _,Fr.refl _ _⟩
 case round =>
  obtain ⟨i,u,acc,vr,rfl,rfl,hi,rfl,rfl,hu,HU,hal,hle,hown,hf⟩ := hrel
  have HO := hid hown; clear hown
  have HF := hid hf; clear hf
  have HL := hid hle; clear hle
  have HA := hid hal; clear hal
  by_cases hlt : i < n
  ·have hlti : (i : Int) < n := by omega
   have HB : Hid (acc.length + 1 ≤ 140737488355328) := by have := HA.out; show _ ≤ _; omega
   go_wp2_with (with_reducible refine wpList_app1 (o := ⟨some 14,_,_,_,_,_⟩) rfl (.tmp 9) (.tmp 13) rfl w wr vr acc _ ?_ rfl ?_ HO.out HF.out HB.out ?_)
   ·rfl
   ·rfl
   intro v2 w2 HO2 HF2 _
   go_wp2_with fail
   go_roundg (n - (i + 1))
   case measure => omega
   case rel =>
    refine ⟨i + 1,u / 256,acc ++ [u % 256],_,rfl,rfl,by omega,congrArg (Value.int .u64) (IntWalk.u64_quo u 256 ⟨hu,HU.out,by decide⟩),by simp,by omega,by have := HU.out; show u / 256 ≤ _; omega,by simp [HA.out], ?_,by have := HO2.out; simpa using this,HF2.out⟩
    rw [← HL.out,show n - i = (n - (i + 1)) + 1 by omega]; simp [le]
  ·go_wp2_with fail
   go_ret
   refine ⟨_,rfl,HF.out, ?_⟩
   have e : n - i = 0 := by omega
   have h1 := HL.out
   rw [e] at h1
   simp only [le,List.append_nil] at h1
   rw [← h1]; exact HO.out
theorem varInt_c (w : World) (n : Nat) (hn : n ≤ 1000000) : Calls Tryz.prog 117 #[.int .u64 (n : Int)] w fun e w' => ∃ v',e = .returned v' ∧ Fr [] w w' ∧ Fresh w.heap.size w' v' (vint n) := by
 have hn6 : (n : Int) ≤ 1000000 := by omega
 by_cases h1 : n < 253
 ·have h1i : (n : Int) < 253 := by omega
  have HV : Hid (vint n = [(n : Int)]) := by show _ = _; rw [vint,if_pos h1]
  go_enter Tryz.func117,Tryz.ntmps117
  go_wp2_with fail
  go_ret
  refine ⟨_,rfl,(Fr.refl _ _).alloc _, ?_⟩
  rw [HV.out]
  have := Fresh.new w [(n : Int)] (by simp [maxLen])
  simpa [ic] using this
 ·have h1i : ¬ ((n : Int) < 253) := by omega
  by_cases h2 : n ≤ 65535
  ·have h2i : (n : Int) < 65536 := by omega
   have HV : Hid (vint n = [253] ++ le 2 n) := by show _ = _; rw [vint,if_neg h1,if_pos h2]; rfl
   go_enter Tryz.func117,Tryz.ntmps117
   go_wp2_with fail
   refine (little_c _ n (by omega) (by omega) 2 (by decide) _ rfl).mono ?_
   rintro e w2 ⟨v',rfl,hf,ho⟩
   have HF2 : Hid (Fr [] w w2) := ((Fr.refl _ _).alloc _).trans hf
   have HO2 : Hid (Fresh w.heap.size w2 (.slice (some ⟨w.heap.size,0,none⟩) 1 1) [253]) := (Fresh.new w [253] (by decide)).fr hf
   have HX2 := hid ho.rd
   clear hf ho
   have HB : Hid (([253] : List Int).length + (le 2 n).length ≤ 140737488355328) := by show _ ≤ _; simp [le_length]
   go_wp2_with (with_reducible refine wpList_appF (o := ⟨some 15,_,_,_,_,_⟩) rfl (.tmp 12) (.tmp 14) rfl w _ _ _ _ ?_ ?_ HO2.out HF2.out HX2.out HB.out ?_)
   ·rfl
   ·rfl
   intro v3 w3 HO3 HF3 _
   go_wp2_with fail
   go_ret
   exact ⟨_,rfl,HF3.out,by rw [HV.out]; exact HO3.out⟩
  ·have h2i : ¬ ((n : Int) < 65536) := by omega
   have h3i : (n : Int) < 4294967296 := by omega
   have h3d : decide ((n : Int) < 4294967296) = true := decide_eq_true h3i
   clear h3i
   have HV : Hid (vint n = [254] ++ le 4 n) := by show _ = _; rw [vint,if_neg h1,if_neg h2]; rfl
   go_enter Tryz.func117,Tryz.ntmps117
   go_wp2_with fail
   refine (little_c _ n (by omega) (by omega) 4 (by decide) _ rfl).mono ?_
   rintro e w2 ⟨v',rfl,hf,ho⟩
   have HF2 : Hid (Fr [] w w2) := ((Fr.refl _ _).alloc _).trans hf
   have HO2 : Hid (Fresh w.heap.size w2 (.slice (some ⟨w.heap.size,0,none⟩) 1 1) [254]) := (Fresh.new w [254] (by decide)).fr hf
   have HX2 := hid ho.rd
   clear hf ho
   have HB : Hid (([254] : List Int).length + (le 4 n).length ≤ 140737488355328) := by show _ ≤ _; simp [le_length]
   go_wp2_with (with_reducible refine wpList_appF (o := ⟨some 22,_,_,_,_,_⟩) rfl (.tmp 19) (.tmp 21) rfl w _ _ _ _ ?_ ?_ HO2.out HF2.out HX2.out HB.out ?_)
   ·rfl
   ·rfl
   intro v3 w3 HO3 HF3 _
   go_wp2_with fail
   go_ret
   exact ⟨_,rfl,HF3.out,by rw [HV.out]; exact HO3.out⟩
theorem vint_len (n : Nat) : (vint n).length ≤ 5 := by unfold vint; split; { simp }; split <;> simp [le_length]
theorem varBytes_c (w : World) (v : Value) (p : List Int) (hv : Bytes w v p) (hp : p.length ≤ 1000000) :
  Calls Tryz.prog 148 #[v] w fun e w' => ∃ v',e = .returned v' ∧ Fr [] w w' ∧ Fresh w.heap.size w' v' (vbytes p) := by
 obtain ⟨a,cap,rfl,hq1,hq2⟩ := RdB.form hv
 clear hq1 hq2
 have hp6 : (p.length : Int) ≤ 1000000 := by omega
 have HP := hid hp; clear hp
 have HV := hid hv; clear hv
 have HB : Hid ((vint p.length).length + p.length ≤ 140737488355328) := by have := vint_len p.length; have := HP.out; show _ ≤ _; omega
 go_enter Tryz.func148,Tryz.ntmps148
 go_wp2_with fail
 refine (varInt_c _ p.length HP.out).mono ?_
 rintro e w2 ⟨v',rfl,hf,ho⟩
 have HF2 := hid hf
 have HO2 := hid ho
 have HX2 : Hid (Bytes w2 (.slice a p.length cap) p) := HV.out.below hf.below
 clear hf ho
 go_wp2_with (with_reducible refine wpList_appF (o := ⟨some 8,_,_,_,_,_⟩) rfl (.tmp 6) (.tmp 7) rfl w _ _ _ _ ?_ ?_ HO2.out HF2.out HX2.out HB.out ?_)
 ·rfl
 ·rfl
 intro v3 w3 HO3 HF3 _
 go_wp2_with fail
 go_ret
 exact ⟨_,rfl,HF3.out,HO3.out⟩
end
end Go.Proofs.YtdllckiidegpcaaGreat
