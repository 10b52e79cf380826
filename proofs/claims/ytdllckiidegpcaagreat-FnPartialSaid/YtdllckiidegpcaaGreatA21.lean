/- A part of the walk of laws.FnPartial (part 21): contracts of functions that it comes to, and the plain laws that these lean on. Conditions stand in each contract. -/
import Derived.Deep.DeepCutAuto
import Derived.Conc.MuLone
import Derived.Test.YtdllckiidegpcaaGreatA15
import Derived.Test.YtdllckiidegpcaaGreatA17
set_option linter.unusedSimpArgs false
set_option linter.unusedVariables false
namespace Go.Proofs.YtdllckiidegpcaaGreat
open Go.RowKit
theorem take_all4 (l : List Int) (h : 4 ≤ l.length) : l.take 4 = [nth l 0,nth l 1,nth l 2,nth l 3] := by
 match l,h with
 | a :: b :: c :: d :: r,_ => rfl
theorem take_all2 (l : List Int) (h : 2 ≤ l.length) : l.take 2 = [nth l 0,nth l 1] := by
 match l,h with
 | a :: b :: r,_ => rfl
theorem leNum4 (l : List Int) (h : 4 ≤ l.length) : leNum (l.take 4) = nth l 0 + nth l 1 * 2 ^ 8 + nth l 2 * 2 ^ 16 + nth l 3 * 2 ^ 24 := by
 rw [take_all4 l h]; simp only [leNum]; omega
theorem leNum2 (l : List Int) (h : 2 ≤ l.length) : leNum (l.take 2) = nth l 0 + nth l 1 * 256 := by
 rw [take_all2 l h]; simp only [leNum]; omega
theorem u32_q (w : World) (v : Value) (l : List Int) (hv : Bytes w v l) (hu : U8 l) (h4 : 4 ≤ l.length) :
  Calls Tryz.prog 163 #[.agg #[],v] w fun e w' => e = .returned (.int .u32 (leNum (l.take 4))) ∧ Fr [] w w' := by
 obtain ⟨a,cap,rfl,h1,h2,h3⟩ := ints_cases hv
 rcases h3 with ⟨rfl,_,h⟩ | ⟨b,off,rfl,hb,hc⟩
 ·rw [h] at h4; simp at h4
 have hl := hv.len
 clear hv h1 h2 hl
 have e0 := hc 0 (by omega)
 have e1 := hc 1 (by omega)
 have e2 := hc 2 (by omega)
 have e3 := hc 3 (by omega)
 rw [Nat.add_zero] at e0
 have b0 := hu.bd 0
 have b1 := hu.bd 1
 have b2 := hu.bd 2
 have b3 := hu.bd 3
 obtain ⟨x0,hx0⟩ : ∃ x,x = nth l 0 := ⟨_,rfl⟩
 obtain ⟨x1,hx1⟩ : ∃ x,x = nth l 1 := ⟨_,rfl⟩
 obtain ⟨x2,hx2⟩ : ∃ x,x = nth l 2 := ⟨_,rfl⟩
 obtain ⟨x3,hx3⟩ : ∃ x,x = nth l 3 := ⟨_,rfl⟩
 rw [← hx0] at e0 b0
 rw [← hx1] at e1 b1
 rw [← hx2] at e2 b2
 rw [← hx3] at e3 b3
 have HX0 := hid hx0; clear hx0
 have HX1 := hid hx1; clear hx1
 have HX2 := hid hx2; clear hx2
 have HX3 := hid hx3; clear hx3
 obtain ⟨p0,q0⟩ := b0
 obtain ⟨p1,q1⟩ := b1
 obtain ⟨p2,q2⟩ := b2
 obtain ⟨p3,q3⟩ := b3
 have i3 : (3 : Int) < l.length := by omega
 have i2 : (2 : Int) < l.length := by omega
 have i1 : (1 : Int) < l.length := by omega
 have i0 : (0 : Int) < l.length := by omega
 clear hc h4
 go_enter Tryz.func163,Tryz.ntmps163
 go_upto_region 2 with fail
 go_quiet (fail)
 go_wp2_with fail
 go_ret
 refine ⟨congrArg (fun x => Ending.returned (.int .u32 x)) ?_,((Fr.refl _ _).alloc _).drewN _⟩
 have o1 := orI_u32 x0 x1 8 p0 (by omega) p1 (by omega) (by omega)
 have o2 := orI_u32 (x0 + x1 * 2 ^ 8) x2 16 (by omega) (by omega) p2 (by omega) (by omega)
 have o3 := orI_u32 (x0 + x1 * 2 ^ 8 + x2 * 2 ^ 16) x3 24 (by omega) (by omega) p3 (by omega) (by omega)
 have e : leNum (l.take 4) = x0 + x1 * 2 ^ 8 + x2 * 2 ^ 16 + x3 * 2 ^ 24 := by
  rw [HX0.out,HX1.out,HX2.out,HX3.out,← leNum4 l (by omega)]
 rw [e,← o3,← o2,← o1]
 rfl
theorem u16_q (w : World) (v : Value) (l : List Int) (hv : Bytes w v l) (hu : U8 l) (h4 : 2 ≤ l.length) :
  Calls Tryz.prog 162 #[.agg #[],v] w fun e w' => e = .returned (.int .u16 (leNum (l.take 2))) ∧ Fr [] w w' := by
 obtain ⟨a,cap,rfl,h1,h2,h3⟩ := ints_cases hv
 rcases h3 with ⟨rfl,_,h⟩ | ⟨b,off,rfl,hb,hc⟩
 ·rw [h] at h4; simp at h4
 have hl := hv.len
 clear hv h1 h2 hl
 have e0 := hc 0 (by omega)
 have e1 := hc 1 (by omega)
 rw [Nat.add_zero] at e0
 have b0 := hu.bd 0
 have b1 := hu.bd 1
 obtain ⟨x0,hx0⟩ : ∃ x,x = nth l 0 := ⟨_,rfl⟩
 obtain ⟨x1,hx1⟩ : ∃ x,x = nth l 1 := ⟨_,rfl⟩
 rw [← hx0] at e0 b0
 rw [← hx1] at e1 b1
 have HX0 := hid hx0; clear hx0
 have HX1 := hid hx1; clear hx1
 obtain ⟨p0,q0⟩ := b0
 obtain ⟨p1,q1⟩ := b1
 have i1 : (1 : Int) < l.length := by omega
 have i0 : (0 : Int) < l.length := by omega
 clear hc
 have H4 := hid h4; clear h4
 go_enter Tryz.func162,Tryz.ntmps162
 go_upto_region 2 with fail
 go_quiet (fail)
 go_wp2_with fail
 go_ret
 refine ⟨congrArg (fun x => Ending.returned (.int .u16 x)) ?_,((Fr.refl _ _).alloc _).drewN _⟩
 have o1 := orI_u16 x0 x1 p0 (by omega) p1 (by omega)
 have e : leNum (l.take 2) = x0 + x1 * 256 := by
  rw [HX0.out,HX1.out,← leNum2 l H4.out]
 rw [e,← o1]
section
section
variable {P : Program} {ops : Array Oper} {op : Oper} {rest : List Oper} {a : Act} {w : World} {Q : Exit → Act → World → Prop}
theorem run_add (k : IntKind) (t t' : TypeId) (x y : Operand) (ho : op.op = .binOp .add t x y t') (p q : Int) (hx : a.eval x = .int k p) (hy : a.eval y = .int k q) :
  (execOp a.eval op).run P w = .ok (.value (.int k (k.wrap (p + q)))) w := by
 unfold execOp; simp only [ho,hx,hy]; cases k <;> rfl
theorem run_sub (k : IntKind) (t t' : TypeId) (x y : Operand) (ho : op.op = .binOp .sub t x y t') (p q : Int) (hx : a.eval x = .int k p) (hy : a.eval y = .int k q) :
  (execOp a.eval op).run P w = .ok (.value (.int k (k.wrap (p - q)))) w := by
 unfold execOp; simp only [ho,hx,hy]; cases k <;> rfl
theorem run_mul (k : IntKind) (t t' : TypeId) (x y : Operand) (ho : op.op = .binOp .mul t x y t') (p q : Int) (hx : a.eval x = .int k p) (hy : a.eval y = .int k q) :
  (execOp a.eval op).run P w = .ok (.value (.int k (k.wrap (p * q)))) w := by
 unfold execOp; simp only [ho,hx,hy]; cases k <;> rfl
/-- An operation whose run is known. -/
theorem wpQuiet_run {S : World → Prop} {Q : Act → Prop} (hg : op.guard = none) (v : Value) (hr : ∀ w,(execOp a.eval op).run P w = .ok (.value v) w) (hn : wpQuiet P ops S Q rest (a.put op.dst v)) : wpQuiet P ops S Q (op :: rest) a :=
 wpQuiet_val v hg (fun w _ => hr w) hn
end
end
abbrev muLink : Go.Conc.Locks.MuLink := { lock := 74,unlock := 76,ilock := 105,iunlock := 111,lockSlow := 133,unlockSlow := 146,disable := 129,enable := 131,acquire := 132,relMerge := 144,cas32 := 130,add32 := 145,tMutex := 199,tIMutex := 197,tPMutex := 277,tPIMutex := 299,tPI32 := 301,tUP := 303,tNoCopy := 195,tU32 := 23 }
theorem muLib : Go.Conc.Locks.MuLib Tryz.prog muLink :=
 ⟨Tryz.func74,Tryz.func76,Tryz.func105,Tryz.func111,Tryz.func129,Tryz.func131,Tryz.func132,Tryz.func144,Tryz.func130,Tryz.func145,Tryz.underlying197,Tryz.runUnderlying197,Tryz.sizeOf197,Tryz.isAgg197,Tryz.zeroValue197,Tryz.underlying199,Tryz.runUnderlying199,Tryz.sizeOf199,Tryz.isAgg199,Tryz.zeroValue199,Tryz.underlying277,Tryz.runUnderlying277,Tryz.sizeOf277,Tryz.isAgg277,Tryz.zeroValue277,Tryz.underlying299,Tryz.runUnderlying299,Tryz.sizeOf299,Tryz.isAgg299,Tryz.zeroValue299,Tryz.underlying301,Tryz.runUnderlying301,Tryz.sizeOf301,Tryz.isAgg301,Tryz.zeroValue301,Tryz.underlying303,Tryz.runUnderlying303,Tryz.sizeOf303,Tryz.isAgg303,Tryz.zeroValue303,Tryz.underlying195,Tryz.runUnderlying195,Tryz.sizeOf195,Tryz.isAgg195,Tryz.zeroValue195,Tryz.underlying21,Tryz.runUnderlying21,Tryz.sizeOf21,Tryz.isAgg21,Tryz.zeroValue21,(by kernel_rfl)⟩
theorem lock_c (w : World) (g m a cap : Nat) (f : Blm) (flag : Int) (h : FltAt w g m a cap 0 f flag) :
  Calls Tryz.prog 74 #[.pointer (some ⟨g,0,none⟩)] w fun e w' => e = .returned (.tuple #[]) ∧ Fr [g] w w' ∧ FltAt w' g m a cap 1 f flag := by
 refine (Go.MuLone.lock_free muLib ⟨g,0,none⟩ w (h.top.cell_at rfl) (h.top.free 0)).mono ?_
 rintro e w' ⟨rfl,rfl⟩
 obtain ⟨post,hp⟩ := h.arr
 have hgm : m ≠ g := by
  rintro rfl
  have e1 : w.heap[m]? = _ := h.msg
  have e2 : w.heap[m]? = _ := h.top
  rw [e1] at e2
  simp at e2
 have hga : a ≠ g := by
  rintro rfl
  have e1 : w.heap[a]? = _ := hp
  have e2 : w.heap[a]? = _ := h.top
  rw [e1] at e2
  simp at e2
 exact ⟨rfl,(Fr.refl _ _).setCell _ _ (by simp),h.top.set 0 _,h.msg.set_ne _ _ hgm,⟨post,hp.set_ne _ _ hga⟩,h.cap1,h.cap2⟩
theorem unlock_c (w : World) (g m a cap : Nat) (f : Blm) (flag : Int) (h : FltAt w g m a cap 1 f flag) :
  Calls Tryz.prog 76 #[.pointer (some ⟨g,0,none⟩)] w fun e w' => e = .returned (.tuple #[]) ∧ Fr [g] w w' ∧ FltAt w' g m a cap 0 f flag := by
 refine (Go.MuLone.unlock_held muLib ⟨g,0,none⟩ w (h.top.cell_at rfl) (h.top.free 0)).mono ?_
 rintro e w' ⟨rfl,rfl⟩
 obtain ⟨post,hp⟩ := h.arr
 have hgm : m ≠ g := by
  rintro rfl
  have e1 : w.heap[m]? = _ := h.msg
  have e2 : w.heap[m]? = _ := h.top
  rw [e1] at e2
  simp at e2
 have hga : a ≠ g := by
  rintro rfl
  have e1 : w.heap[a]? = _ := hp
  have e2 : w.heap[a]? = _ := h.top
  rw [e1] at e2
  simp at e2
 exact ⟨rfl,(Fr.refl _ _).setCell _ _ (by simp),h.top.set 0 _,h.msg.set_ne _ _ hgm,⟨post,hp.set_ne _ _ hga⟩,h.cap1,h.cap2⟩
end Go.Proofs.YtdllckiidegpcaaGreat
