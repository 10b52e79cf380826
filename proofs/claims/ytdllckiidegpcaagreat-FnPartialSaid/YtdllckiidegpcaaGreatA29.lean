/- A part of the walk of laws.FnPartial (part 29): contracts of functions that it comes to, and the plain laws that these lean on. Conditions stand in each contract. -/
import Derived.Laws.BytesArg
import Derived.Test.YtdllckiidegpcaaGreatA05
import Derived.Test.YtdllckiidegpcaaGreatA26
set_option linter.unusedSimpArgs false
set_option linter.unusedVariables false
set_option maxHeartbeats 4000000
namespace Go.Proofs.YtdllckiidegpcaaGreat
open Go.RowKit
section
set_option maxRecDepth 8000
theorem BytesB.conv {B : Nat} {w : World} {v : Value} {s : List Int} (h : BytesB B w v s) : (convert 29 9 v).run Tryz.prog w = .ok (.string (strOfNums s)) w := by
 obtain ⟨a,cap,rfl,h1,h2,hc⟩ := h
 rcases hc with ⟨rfl,_,hc⟩ | ⟨b,off,rfl,hb,hc⟩
 ·have : s = [] := by cases s with | nil => rfl | cons _ _ => cases hc
  subst this
  cases a with
  | none => exact run_convert_bytes_nil w 29 5 rfl rfl _ _ 9 rfl
  | some ad =>
   have hl : (loadCells ad 0).run Tryz.prog w = .ok (([] : List Int).map (Value.int .u8)).toArray w := by
    have := run_loadCells_list (P := Tryz.prog) w ad [] (by simp)
    simpa using this
   rw [run_convert_bytes_string w 29 9 5 _ _ _ rfl rfl rfl]
   exact run_bytesToString w _ 0 _ [] hl
 ·refine run_convert_bytes_arg w 29 5 rfl rfl b off s.length cap s rfl ?_ 9 rfl
  intro i hi
  have := hc i (by rw [ic_length]; exact hi)
  rw [ic_nth] at this
  exact this
theorem equal_c (w : World) (B C : Nat) (v u : Value) (s t : List Int) (hv : BytesB B w v s) (hu : BytesB C w u t) : Calls Tryz.prog 203 #[v,u] w fun e w' => e = .returned (.bool ((strOfNums s).toList == (strOfNums t).toList)) ∧ w = w' := by
 have h1 := hv.conv
 have h2 := hu.conv
 obtain ⟨a,cap,rfl,hc1,hc2⟩ := hv.form
 obtain ⟨a',cap',rfl,hc1',hc2'⟩ := hu.form
 clear hv hu hc1 hc2 hc1' hc2'
 go_enter Tryz.func203,Tryz.ntmps203
 go_wp2_with fail
 go_ret
 exact ⟨rfl,rfl⟩
/-- Some value of truth. -/
def SomeB (w : World) (e : Ending) (w' : World) : Prop := Fr [] w w' ∧ ∃ b,e = .returned (.bool b)
def keyB (s : List Int) : Bool := cKeyB s || uKeyB s
theorem neqS (a : Addr) (n c : Nat) : ∀ (w : World),(binOp .neq 29 (.slice (some a) n c) (.slice none 0 0)).run Tryz.prog w = .ok (.bool true) w := fun _ => rfl
theorem neqN : ∀ (w : World),(binOp .neq 29 (.slice none 0 0) (.slice none 0 0)).run Tryz.prog w = .ok (.bool false) w := fun _ => rfl
theorem key_c (w : World) (B : Nat) (hBw : B ≤ w.heap.size) (v : Value) (s : List Int) (hv : BytesB B w v s) : Calls Tryz.prog 184 #[v] w (PatR (keyB s) w) := by
 obtain ⟨a,cap,rfl,hc1,hc2⟩ := hv.form
 clear hc1 hc2
 have HV := hid hv; clear hv
 go_enter Tryz.func184,Tryz.ntmps184
 go_wp2_with fail
 refine (cKeyB_c w B _ s HV.out).mono ?_
 rintro e w1 ⟨hf,⟨hb,ad,n,c,rfl⟩ | ⟨hb,rfl⟩⟩
 ·have HF := hid hf; clear hf
  have HB := hid hb; clear hb
  have hq := neqS ad n c
  go_wp2_with fail
  go_ret
  exact ⟨HF.out,.inl ⟨by simp [keyB,HB.out],_,_,_,rfl⟩⟩
 ·have HF := hid hf; clear hf
  have HB := hid hb; clear hb
  have hq := neqN
  go_wp2_with fail
  refine (uKeyB_c w1 B _ s (HV.out.below (HF.out.below.mono hBw))).mono ?_
  rintro e w2 ⟨hf,hR⟩
  have HF2 := hid (HF.out.trans hf); clear hf
  rcases hR with ⟨hb,ad,n,c,rfl⟩ | ⟨hb,rfl⟩
  ·have HB2 := hid hb; clear hb
   go_wp2_with fail
   go_ret
   exact ⟨HF2.out,.inl ⟨by simp [keyB,HB2.out],_,_,_,rfl⟩⟩
  ·have HB2 := hid hb; clear hb
   go_wp2_with fail
   go_ret
   exact ⟨HF2.out,.inr ⟨by simp [keyB,HB.out,HB2.out],rfl⟩⟩
theorem isKey_c (w : World) (B : Nat) (hBw : B ≤ w.heap.size) (v : Value) (s : List Int) (hv : BytesB B w v s) : Calls Tryz.prog 171 #[v] w fun e w' => e = .returned (.bool (keyB s)) ∧ Fr [] w w' := by
 obtain ⟨a,cap,rfl,hc1,hc2⟩ := hv.form
 clear hc1 hc2
 have HV := hid hv; clear hv
 go_enter Tryz.func171,Tryz.ntmps171
 go_wp2_with fail
 refine (key_c w B hBw _ s HV.out).mono ?_
 rintro e w1 ⟨hf,⟨hb,ad,n,c,rfl⟩ | ⟨hb,rfl⟩⟩
 ·have HF := hid hf; clear hf
  have HB := hid hb; clear hb
  have hq := neqS ad n c
  go_wp2_with fail
  go_ret
  exact ⟨congrArg (fun b => Ending.returned (.bool b)) HB.out.symm,HF.out⟩
 ·have HF := hid hf; clear hf
  have HB := hid hb; clear hb
  have hq := neqN
  go_wp2_with fail
  go_ret
  exact ⟨congrArg (fun b => Ending.returned (.bool b)) HB.out.symm,HF.out⟩
theorem isPkh_c (w : World) (B : Nat) (hBw : B ≤ w.heap.size) (v : Value) (s : List Int) (hv : BytesB B w v s) : Calls Tryz.prog 172 #[v] w fun e w' => e = .returned (.bool (pkhB s)) ∧ Fr [] w w' := by
 obtain ⟨a,cap,rfl,hc1,hc2⟩ := hv.form
 clear hc1 hc2
 have HV := hid hv; clear hv
 go_enter Tryz.func172,Tryz.ntmps172
 go_wp2_with fail
 refine (pkhB_c w B _ s HV.out).mono ?_
 rintro e w1 ⟨hf,⟨hb,ad,n,c,rfl⟩ | ⟨hb,rfl⟩⟩
 ·have HF := hid hf; clear hf
  have HB := hid hb; clear hb
  have hq := neqS ad n c
  go_wp2_with fail
  go_ret
  exact ⟨congrArg (fun b => Ending.returned (.bool b)) HB.out.symm,HF.out⟩
 ·have HF := hid hf; clear hf
  have HB := hid hb; clear hb
  have hq := neqN
  go_wp2_with fail
  go_ret
  exact ⟨congrArg (fun b => Ending.returned (.bool b)) HB.out.symm,HF.out⟩
theorem isSh_c (w : World) (B : Nat) (hBw : B ≤ w.heap.size) (v : Value) (s : List Int) (hv : BytesB B w v s) : Calls Tryz.prog 173 #[v] w fun e w' => e = .returned (.bool (shB s)) ∧ Fr [] w w' := by
 obtain ⟨a,cap,rfl,hc1,hc2⟩ := hv.form
 clear hc1 hc2
 have HV := hid hv; clear hv
 go_enter Tryz.func173,Tryz.ntmps173
 go_wp2_with fail
 refine (shB_c w B _ s HV.out).mono ?_
 rintro e w1 ⟨hf,⟨hb,ad,n,c,rfl⟩ | ⟨hb,rfl⟩⟩
 ·have HF := hid hf; clear hf
  have HB := hid hb; clear hb
  have hq := neqS ad n c
  go_wp2_with fail
  go_ret
  exact ⟨congrArg (fun b => Ending.returned (.bool b)) HB.out.symm,HF.out⟩
 ·have HF := hid hf; clear hf
  have HB := hid hb; clear hb
  have hq := neqN
  go_wp2_with fail
  go_ret
  exact ⟨congrArg (fun b => Ending.returned (.bool b)) HB.out.symm,HF.out⟩
theorem isWpkh_c (w : World) (B : Nat) (hBw : B ≤ w.heap.size) (v : Value) (s : List Int) (hv : BytesB B w v s) : Calls Tryz.prog 174 #[v] w fun e w' => e = .returned (.bool (wpkhB s)) ∧ Fr [] w w' := by
 obtain ⟨a,cap,rfl,hc1,hc2⟩ := hv.form
 clear hc1 hc2
 have HV := hid hv; clear hv
 go_enter Tryz.func174,Tryz.ntmps174
 go_wp2_with fail
 refine (wpkhB_c w B _ s HV.out).mono ?_
 rintro e w1 ⟨hf,⟨hb,ad,n,c,rfl⟩ | ⟨hb,rfl⟩⟩
 ·have HF := hid hf; clear hf
  have HB := hid hb; clear hb
  have hq := neqS ad n c
  go_wp2_with fail
  go_ret
  exact ⟨congrArg (fun b => Ending.returned (.bool b)) HB.out.symm,HF.out⟩
 ·have HF := hid hf; clear hf
  have HB := hid hb; clear hb
  have hq := neqN
  go_wp2_with fail
  go_ret
  exact ⟨congrArg (fun b => Ending.returned (.bool b)) HB.out.symm,HF.out⟩
theorem isWsh_c (w : World) (B : Nat) (hBw : B ≤ w.heap.size) (v : Value) (s : List Int) (hv : BytesB B w v s) : Calls Tryz.prog 175 #[v] w fun e w' => e = .returned (.bool (wshB s)) ∧ Fr [] w w' := by
 obtain ⟨a,cap,rfl,hc1,hc2⟩ := hv.form
 clear hc1 hc2
 have HV := hid hv; clear hv
 go_enter Tryz.func175,Tryz.ntmps175
 go_wp2_with fail
 refine (wshB_c w B _ s HV.out).mono ?_
 rintro e w1 ⟨hf,⟨hb,ad,n,c,rfl⟩ | ⟨hb,rfl⟩⟩
 ·have HF := hid hf; clear hf
  have HB := hid hb; clear hb
  have hq := neqS ad n c
  go_wp2_with fail
  go_ret
  exact ⟨congrArg (fun b => Ending.returned (.bool b)) HB.out.symm,HF.out⟩
 ·have HF := hid hf; clear hf
  have HB := hid hb; clear hb
  have hq := neqN
  go_wp2_with fail
  go_ret
  exact ⟨congrArg (fun b => Ending.returned (.bool b)) HB.out.symm,HF.out⟩
theorem isTr_c (w : World) (B : Nat) (hBw : B ≤ w.heap.size) (v : Value) (s : List Int) (hv : BytesB B w v s) : Calls Tryz.prog 179 #[v] w fun e w' => e = .returned (.bool (trB s)) ∧ Fr [] w w' := by
 obtain ⟨a,cap,rfl,hc1,hc2⟩ := hv.form
 clear hc1 hc2
 have HV := hid hv; clear hv
 go_enter Tryz.func179,Tryz.ntmps179
 go_wp2_with fail
 refine (trB_c w B _ s HV.out).mono ?_
 rintro e w1 ⟨hf,⟨hb,ad,n,c,rfl⟩ | ⟨hb,rfl⟩⟩
 ·have HF := hid hf; clear hf
  have HB := hid hb; clear hb
  have hq := neqS ad n c
  go_wp2_with fail
  go_ret
  exact ⟨congrArg (fun b => Ending.returned (.bool b)) HB.out.symm,HF.out⟩
 ·have HF := hid hf; clear hf
  have HB := hid hb; clear hb
  have hq := neqN
  go_wp2_with fail
  go_ret
  exact ⟨congrArg (fun b => Ending.returned (.bool b)) HB.out.symm,HF.out⟩
end
section
set_option maxRecDepth 8000
def strictB (s : List Int) : Bool := decide ((s.length = 33 ∧ (nth s 0 = 2 ∨ nth s 0 = 3)) ∨ (s.length = 65 ∧ (nth s 0 = 4 ∨ nth s 0 = 6 ∨ nth s 0 = 7)))
theorem strict_c (w : World) (B : Nat) (v : Value) (s : List Int) (hv : BytesB B w v s) : Calls Tryz.prog 200 #[v] w fun e w' => e = .returned (.bool (strictB s)) ∧ w = w' := by
 obtain ⟨a,cap,rfl,hc1,hc2⟩ := hv.form
 clear hc1 hc2
 by_cases hL : s.length = 33
 ·skip
  obtain ⟨_,_,he,hq1,hq2,hcs⟩ := hv
  clear hq1 hq2
  simp only [Value.slice.injEq] at he
  obtain ⟨rfl,_,rfl⟩ := he
  rcases hcs with ⟨_,_,hcs⟩ | ⟨b2,off2,rfl,hb2,hcs⟩
  ·have := congrArg List.length hcs; rw [ic_length,List.length_nil] at this; omega
  have HL := hid hL
  have e0 := hcs 0 (by rw [ic_length]; omega)
  rw [ic_nth,Nat.add_zero] at e0
  clear hcs hb2
  rw [hL]; clear hL
  obtain ⟨x,hx⟩ : ∃ x,x = nth s 0 := ⟨_,rfl⟩
  rw [← hx] at e0
  have Hx := hid hx; clear hx
  by_cases n0 : x = 2
  ·subst n0
   have hR : Hid (strictB s = true) := by show _ = _; simp [strictB,HL.out,← Hx.out]
   go_enter Tryz.func200,Tryz.ntmps200
   go_wp2_with fail
   go_ret
   exact ⟨congrArg (fun b => Ending.returned (.bool b)) hR.out.symm,rfl⟩
  ·skip
   by_cases n1 : x = 3
   ·subst n1
    have hR : Hid (strictB s = true) := by show _ = _; simp [strictB,HL.out,← Hx.out]
    go_enter Tryz.func200,Tryz.ntmps200
    go_wp2_with fail
    go_ret
    exact ⟨congrArg (fun b => Ending.returned (.bool b)) hR.out.symm,rfl⟩
   ·skip
    have hR : Hid (strictB s = false) := by show _ = _; simp [strictB,HL.out,← Hx.out, *]
    have f0 : (x == 2) = false := by simp [n0]
    have f1 : (x == 3) = false := by simp [n1]
    go_enter Tryz.func200,Tryz.ntmps200
    go_wp2_with fail
    go_ret
    exact ⟨congrArg (fun b => Ending.returned (.bool b)) hR.out.symm,rfl⟩
 by_cases hL : s.length = 65
 ·rename_i h33; clear h33
  obtain ⟨_,_,he,hq1,hq2,hcs⟩ := hv
  clear hq1 hq2
  simp only [Value.slice.injEq] at he
  obtain ⟨rfl,_,rfl⟩ := he
  rcases hcs with ⟨_,_,hcs⟩ | ⟨b2,off2,rfl,hb2,hcs⟩
  ·have := congrArg List.length hcs; rw [ic_length,List.length_nil] at this; omega
  have HL := hid hL
  have e0 := hcs 0 (by rw [ic_length]; omega)
  rw [ic_nth,Nat.add_zero] at e0
  clear hcs hb2
  rw [hL]; clear hL
  obtain ⟨x,hx⟩ : ∃ x,x = nth s 0 := ⟨_,rfl⟩
  rw [← hx] at e0
  have Hx := hid hx; clear hx
  by_cases n0 : x = 4
  ·subst n0
   have hR : Hid (strictB s = true) := by show _ = _; simp [strictB,HL.out,← Hx.out]
   go_enter Tryz.func200,Tryz.ntmps200
   go_wp2_with fail
   go_ret
   exact ⟨congrArg (fun b => Ending.returned (.bool b)) hR.out.symm,rfl⟩
  ·skip
   by_cases n1 : x = 6
   ·subst n1
    have hR : Hid (strictB s = true) := by show _ = _; simp [strictB,HL.out,← Hx.out]
    go_enter Tryz.func200,Tryz.ntmps200
    go_wp2_with fail
    go_ret
    exact ⟨congrArg (fun b => Ending.returned (.bool b)) hR.out.symm,rfl⟩
   ·skip
    by_cases n2 : x = 7
    ·subst n2
     have hR : Hid (strictB s = true) := by show _ = _; simp [strictB,HL.out,← Hx.out]
     go_enter Tryz.func200,Tryz.ntmps200
     go_wp2_with fail
     go_ret
     exact ⟨congrArg (fun b => Ending.returned (.bool b)) hR.out.symm,rfl⟩
    ·skip
     have hR : Hid (strictB s = false) := by show _ = _; simp [strictB,HL.out,← Hx.out, *]
     have f0 : (x == 4) = false := by simp [n0]
     have f1 : (x == 6) = false := by simp [n1]
     have f2 : (x == 7) = false := by simp [n2]
     go_enter Tryz.func200,Tryz.ntmps200
     go_wp2_with fail
     go_ret
     exact ⟨congrArg (fun b => Ending.returned (.bool b)) hR.out.symm,rfl⟩
 have hR : Hid (strictB s = false) := by show _ = _; simp [strictB, *]
 rename_i h33
 have h33i : ¬ ((s.length : Int) = 33) := by omega
 have h65i : ¬ ((s.length : Int) = 65) := by omega
 clear hL h33 hv
 go_enter Tryz.func200,Tryz.ntmps200
 go_wp2_with fail
 go_ret
 exact ⟨congrArg (fun b => Ending.returned (.bool b)) hR.out.symm,rfl⟩
end
section
set_option maxRecDepth 8000
theorem small_tok {s : List Int} {p q : Nat} {d : List Int} (h : tokAt s p = some (d,q)) (hs : smallB (nth s p) = true) : q = p + 1 := by
 have hs' : nth s p = 0 ∨ (81 ≤ nth s p ∧ nth s p ≤ 96) := by simpa [smallB] using hs
 unfold tokAt at h
 rw [if_neg (by omega),if_neg (by omega)] at h
 simp only [Option.some.injEq,Prod.mk.injEq] at h
 omega
/-- Pushes or other tokens, then a number that tells how many, then the script's last byte. -/
def mRun (n : Nat) : List Tok → Int → Bool
 | [],_ => false
 | t :: l,k => if smallB t.op then decide (smallN t.op = k ∧ (t.pos : Int) + 2 = n) else mRun n l (k + 1)
def multiB (s : List Int) : Bool := decide (3 ≤ s.length ∧ nth s (s.length - 1) = 174) && match (toks s).1 with
 | [] => false
 | t :: l => smallB t.op && mRun s.length l 0
def MulR (b : Bool) (w : World) (e : Ending) (w' : World) : Prop := Fr [] w w' ∧ ∃ r n : Int,e = .returned (.agg #[.int .i64 r,.int .i64 n,.slice none 0 0,.bool b])
def m0 : List Value := [.int .i64 0,.int .i64 0,.slice none 0 0,.bool false]
theorem wpList_storeB {P : Program} {ops : Array Oper} {rest : List Oper} {op : Oper} {a : Act} {w : World} {Q : Exit → Act → World → Prop} (hgd : op.guard = none) (ty : TypeId) (x y : Operand) (ho : op.op = .store ty x y) (hd : op.dst = none)
  (g : Nat) (c0 c : List Value) (hB : Blk w g ty c0) (hx : a.eval x = .pointer (some ⟨g,0,none⟩)) (hy : a.eval y = .agg c.toArray) (hl : c.length = c0.length) (hi : (P.info? ty).map (·.size) = some c.length) (h1 : ∀ u ∈ c,u.oneCell' = true)
  (hn : ∀ w',Fr [g] w w' → Blk w' g ty c → wpList P ops Q rest a w') : wpList P ops Q (op :: rest) a w := by
 refine wpList_store_mid hgd ty x y ho g 0 c.toArray hx hy (hB.there (by simp [hl])) (by simpa using hi) (all_oneCell_toArray h1) ?_
 rw [hd]
 exact hn _ (fr_setCells (by simp) _ _ _ (Fr.refl _ _)) (hB.putAll _ hl)
theorem ret_cells {P : Program} {fn : Func} {R : Ending → World → Prop} {a : Act} {w : World} {p : Tmp} {ty T : TypeId} {c : List Value} {g : Nat} (hf : fn.results = #[.cell p ty]) (hp : a.tmps.getD p undef = .pointer (some ⟨g,0,none⟩))
  (d : TypeDesc) (h : Blk w g T c) (hu : P.underlying ty = some d) (hd : (match d with | .struct _ | .array _ _ => true | _ => false) = true) (hi : (P.info? ty).map (·.size) = some c.length) (hde : a.defers = [])
  (hR : R (.returned (.agg c.toArray)) w) : bodyPost P fn R .ret a w :=
 bodyPost_ret (results_cell_row hf _ _ g T _ _ d hp h hu hd (by simpa using hi)) hde hR
theorem m0_one : ∀ u ∈ m0,u.oneCell' = true := by intro u hu; simp only [m0,List.mem_cons,List.not_mem_nil,or_false] at hu; rcases hu with rfl | rfl | rfl | rfl <;> rfl
theorem m0_info : (Tryz.prog.info? 352).map (·.size) = some m0.length := by show _ = some 4; kernel_rfl
def m1 (r : Int) (k : Nat) : List Value := [.int .i64 r,.int .i64 k,.slice none 0 0,.bool true]
theorem m1_len (r : Int) (k : Nat) : (m1 r k).length = m0.length := rfl
theorem m1_info (r : Int) (k : Nat) : (Tryz.prog.info? 352).map (·.size) = some (m1 r k).length := m0_info
theorem m1_one (r : Int) (k : Nat) : ∀ u ∈ m1 r k,u.oneCell' = true := by intro u hu; simp only [m1,List.mem_cons,List.not_mem_nil,or_false] at hu; rcases hu with rfl | rfl | rfl | rfl <;> rfl
set_option maxHeartbeats 8000000 in
theorem multi_c (w : World) (B : Nat) (hBw : B ≤ w.heap.size) (v : Value) (s : List Int) (hv : BytesB B w v s) (hu : U8 s) (hs : s.length ≤ 1000000) :
  Calls Tryz.prog 189 #[.int .u16 0,v,.bool false] w (MulR (multiB s) w) := by
 obtain ⟨a,cap,rfl,hq1,hq2⟩ := hv.form
 clear hq1 hq2
 have HV := hid hv; clear hv
 have Hu := hid hu; clear hu
 have Hs := hid hs; clear hs
 by_cases h3 : s.length < 3
 ·have hR : Hid (multiB s = false) := by show _ = _; rw [multiB,decide_eq_false (by omega),Bool.false_and]
  have h3i : (s.length : Int) < 3 := by omega
  clear h3
  go_enter Tryz.func189,Tryz.ntmps189
  go_wp2_with fail
  go_returns
  exact ⟨(Fr.refl _ _).alloc _,_,_,by rw [hR.out]⟩
 ·have H3 := hid h3
  have h3i : ¬ (s.length : Int) < 3 := by omega
  have hs1 : (s.length : Int) ≤ 1000000 := by have := Hs.out; omega
  have hs2 : (s.length : Int) - 1 < s.length := by omega
  have hs3 : ((s.length : Int) - 1).toNat = s.length - 1 := by omega
  have hs4 : (0:Int) ≤ (s.length : Int) - 1 := by omega
  clear h3
  obtain ⟨_,_,he,hq1,hq2,hcs⟩ := HV.out
  clear hq1 hq2
  simp only [Value.slice.injEq] at he
  obtain ⟨rfl,_,rfl⟩ := he
  rcases hcs with ⟨_,_,hcs⟩ | ⟨b2,off2,rfl,hb2,hcs⟩
  ·have h3 := H3.out; have := congrArg List.length hcs; rw [ic_length,List.length_nil] at this; omega
  have e0 := hcs (s.length - 1) (by rw [ic_length]; have := H3.out; omega)
  rw [ic_nth] at e0
  clear hcs
  have hb3 : b2 < w.heap.size := by omega
  clear hb2
  obtain ⟨y,hy⟩ : ∃ y,y = nth s (s.length - 1) := ⟨_,rfl⟩
  rw [← hy] at e0
  by_cases hy2 : y = 174
  ·subst hy2
   have HL := hid hy; clear hy
   go_enter Tryz.func189,Tryz.ntmps189
   go_wp2_with (fail)
   refine (mkTok_c _ _ _ s.length cap rfl).mono ?_
   rintro e w1 ⟨rfl,hf⟩
   have HG1 : Hid (Blk w1 w.heap.size 352 m0) := (Blk.new w m0 352).fr hf (by simp)
   have HF1 : Hid (Fr [] w w1) := ((Fr.refl _ _).alloc _).trans hf
   clear hf
   obtain ⟨G,hG⟩ : ∃ G,G = w.heap.size := ⟨_,rfl⟩
   rw [← hG] at HG1 ⊢
   simp only []
   refine (‹∀ (a : Act) (w : World),wpList Tryz.prog _ _ _ a w → _›) _ _ ?_
   obtain ⟨z,hz,hzl⟩ : ∃ z : List Value,Zero Tryz.prog 308 z ∧ z.length = 7 := ⟨_,fun w => rfl,rfl⟩
   obtain ⟨sv,hsv⟩ : ∃ sv,sv = Value.slice (some ⟨b2,off2,none⟩) s.length cap := ⟨_,rfl⟩
   refine wpList_new rfl rfl 308 (.tmp 31) 7 rfl rfl rfl rfl (by simp [Act.put]) (tkc (.slice (some ⟨b2,off2,none⟩) s.length cap) 0 (-1) (.pointer none) (.slice none 0 0) .nilIface) z (fun _ => rfl) (by show _ = some 7; kernel_rfl) hz hzl (by intro u hu; simp only [tkc,List.mem_cons,List.not_mem_nil,or_false] at hu; rcases hu with rfl | rfl | rfl | rfl | rfl | rfl | rfl <;> rfl) ?_
   simp only [Act.put,nA,nB,nC]
   clear hz hzl
   have HF2 : Hid (Fr [] w (w1.alloc (.cells (tkc (.slice (some ⟨b2,off2,none⟩) s.length cap) 0 (-1) (.pointer none) (.slice none 0 0) .nilIface).toArray 308))) := HF1.out.alloc _
   have HT2 : Hid (Blk (w1.alloc (.cells (tkc (.slice (some ⟨b2,off2,none⟩) s.length cap) 0 (-1) (.pointer none) (.slice none 0 0) .nilIface).toArray 308)) w1.heap.size 308 (tkc (.slice (some ⟨b2,off2,none⟩) s.length cap) 0 (-1) (.pointer none) (.slice none 0 0) .nilIface)) := Blk.new _ _ _
   have HG2 : Hid (Blk (w1.alloc (.cells (tkc (.slice (some ⟨b2,off2,none⟩) s.length cap) 0 (-1) (.pointer none) (.slice none 0 0) .nilIface).toArray 308)) G 352 m0) := HG1.out.fr ((Fr.refl [] _).alloc _) (by simp)
   generalize World.alloc w1 _ = w2 at HF2 HT2 HG2 ⊢
   obtain ⟨T,hT⟩ : ∃ T,T = w1.heap.size := ⟨_,rfl⟩
   rw [← hT] at HT2 ⊢
   have HTw : Hid (w.heap.size ≤ T) := by rw [hT]; exact HF1.out.size
   have HTG : Hid (G ≠ T) := by have := HG1.out.lt; show _ ≠ _; omega
   have HGw : Hid (w.heap.size ≤ G) := by show _ ≤ _; omega
   clear hT hG HF1 HG1 hb3 e0
   refine wpList_nil ?_
   simp only [Exit.then]
   generalize Value.agg (tkc (.slice (some ⟨b2,off2,none⟩) s.length cap) 0 (-1) (.pointer none) (.slice none 0 0) .nilIface).toArray = V8
   go_wp2_with fail
   refine (next_c w2 B T (Nat.le_trans hBw HF2.out.size) (Nat.le_trans hBw HTw.out) _ s (HV.out.below (HF2.out.below.mono hBw)) Hu.out Hs.out 0 (Nat.zero_le _) (-1) (by omega) (by omega) _ _ HT2.out).mono ?_
   rintro e w4 ⟨hf,hN⟩
   have HF4 : Hid (Fr [] w w4) := HF2.out.andThen hf (by intro k hk; simp at hk; subst hk; exact .inr HTw.out)
   have HG4 : Hid (Blk w4 G 352 m0) := HG2.out.fr hf (by simpa using HTG.out)
   clear hf HT2 HF2 HG2
   rcases hN with ⟨hge,rfl,hb⟩ | ⟨hlt,hbad,rfl,t,v,hb⟩ | ⟨d,q,hlt,hok,rfl,op',dv,hb,hop,hdv⟩
   ·exfalso; have := H3.out; omega
   ·have hR : Hid (multiB s = false) := by
     show _ = _
     have : (toks s).1 = [] := by rw [toks,toksFrom_bad hlt hbad]
     rw [multiB,this,Bool.and_false]
    clear hb hbad hlt
    go_wp2_with (with_reducible refine wpList_storeB (op := ⟨none,_,_,_,_,_⟩) rfl 352 (.tmp 6) (.tmp 39) rfl rfl G m0 m0 HG4.out ?_ ?_ rfl m0_info m0_one ?_)
    ·rfl
    ·rfl
    intro w6 hf6 hb6
    have HF6 : Hid (Fr [] w w6) := HF4.out.andThen hf6 (by intro k hk; simp at hk; subst hk; exact .inr HGw.out)
    have HB6 := hid hb6; clear hf6 hb6
    go_wp2_with fail
    refine ret_cells (p := 6) (ty := 352) rfl rfl _ HB6.out rfl rfl m0_info rfl ?_
    exact ⟨HF6.out,0,0,by rw [hR.out]; rfl⟩
   ·have HT4 := hid hb; clear hb
    have HO4 := hid hop; clear hop hdv
    have hxb := Hu.out.bd 0
    have Hxb := hid hxb; clear hxb
    have Hlt := hid hlt
    have Hq : Hid (0 < q ∧ q ≤ s.length) := tokAt_gt hok hlt
    have Htk : Hid ((toks s).1 = ⟨nth s 0,d,0⟩ :: (toksFrom s q).1) := by
     show _ = _
     rw [toks,toksFrom_step hlt hok]
    clear hok hlt
    go_wp2_with fail
    refine (opcode_c w4 T _ _ _ _ _ _ (nth s 0) HT4.out HO4.out).mono ?_
    rintro e w' ⟨rfl,rfl⟩
    go_wp2_with fail
    refine (isSmall_c w4 (nth s 0) Hxb.out.1 Hxb.out.2).mono ?_
    rintro e w' ⟨rfl,rfl⟩
    by_cases hsm : smallB (nth s 0) = true
    ·have Hsm := hid hsm
     go_wp2_with fail
     refine (opcode_c w4 T _ _ _ _ _ _ (nth s 0) HT4.out HO4.out).mono ?_
     rintro e w' ⟨rfl,rfl⟩
     go_wp2_with fail
     refine (asSmall_c w4 (nth s 0) Hxb.out.1 Hxb.out.2 Hsm.out).mono ?_
     rintro e w' ⟨rfl,rfl⟩
     have HM : Hid (multiB s = mRun s.length (toksFrom s q).1 0) := by
      show _ = _
      rw [multiB,Htk.out,decide_eq_true (by have := H3.out; have := HL.out; omega)]; simp [Hsm.out]
     clear hsm
     go_wp2_with fail
     go_loopg [9,10] (s.length - q) (fun gk v9 v10 wr => ∃ (p k : Nat) (pos : Int) (op dv : Value),v9 = .int .i64 (k : Int) ∧ v10 = .slice none 0 0 ∧ gk = s.length - p ∧ p ≤ s.length ∧ k ≤ p ∧ -1 ≤ pos ∧ pos ≤ (p : Int) - 1 ∧ Blk wr T 308 (tkc (.slice (some ⟨b2,off2,none⟩) s.length cap) p pos op dv .nilIface) ∧
      multiB s = mRun s.length (toksFrom s p).1 k ∧ Blk wr G 352 m0 ∧ Fr [] w wr)
     case atStart => exact ⟨q,0,_,_,_,rfl,rfl,rfl,Hq.out.2,Nat.zero_le _,by omega,by have := Hq.out; omega,HT4.out,HM.out,HG4.out,HF4.out⟩
     case round =>
      obtain ⟨p,k,pos,op,dv0,rfl,rfl,rfl,hp,hkp,hpos0,hpos1,ht,hm,hg,hf⟩ := hrel
      clear HT4 HM HG4 HF4 HO4 Hxb Htk Hsm Hlt
      have HT := hid ht; clear ht
      have HG := hid hg; clear hg
      have HM := hid hm; clear hm
      have HF := hid hf; clear hf
      have Hp := hid hp; clear hp
      have Hkp := hid hkp
      have hk1 : (k : Int) ≤ 1000000 := by have := Hs.out; have := Hp.out; omega
      clear hkp
      have Hpos := hid (And.intro hpos0 hpos1); clear hpos0 hpos1
      go_wp2_with fail
      refine (next_c wr B T (Nat.le_trans hBw HF.out.size) (Nat.le_trans hBw HTw.out) _ s (HV.out.below (HF.out.below.mono hBw)) Hu.out Hs.out p Hp.out pos Hpos.out.1 (by have := Hpos.out; have := Hp.out; have := Hs.out; omega) op dv0 HT.out).mono ?_
      rintro e w7 ⟨hf,hN⟩
      have HF7 : Hid (Fr [] w w7) := HF.out.andThen hf (by intro k hk; simp at hk; subst hk; exact .inr HTw.out)
      have HG7 : Hid (Blk w7 G 352 m0) := HG.out.fr hf (by simpa using HTG.out)
      clear hf HG
      rcases hN with ⟨hge,rfl,hb⟩ | ⟨hlt,hbad,rfl,t,v,hb⟩ | ⟨d,q',hlt,hok,rfl,op',dv,hb,hop,hdv⟩
      ·have hR : Hid (multiB s = false) := by
        show _ = _
        rw [HM.out,toksFrom_end hge]; rfl
       have HT7 := hid hb; clear hb
       have hdn : decide (s.length ≤ p) = true := by simp [hge]
       have Hdn := hid hdn; clear hdn hge
       go_wp2_with fail
       refine (done_c w7 T _ _ _ _ _ _ _ HT7.out Hs.out (Nat.le_trans Hp.out Hs.out)).mono ?_
       rintro e w8 ⟨rfl,hf8⟩
       rw [Hdn.out]
       have HG8 : Hid (Blk w8 G 352 m0) := HG7.out.fr hf8 (by simp)
       have HF8 : Hid (Fr [] w w8) := HF7.out.trans hf8
       clear hf8
       go_wp2_with (with_reducible refine wpList_storeB (op := ⟨none,_,_,_,_,_⟩) rfl 352 (.tmp 6) (.tmp 59) rfl rfl G m0 m0 HG8.out ?_ ?_ rfl m0_info m0_one ?_)
       ·rfl
       ·rfl
       intro w6 hf6 hb6
       have HF6 : Hid (Fr [] w w6) := HF8.out.andThen hf6 (by intro k hk; simp at hk; subst hk; exact .inr HGw.out)
       have HB6 := hid hb6; clear hf6 hb6
       go_wp2_with fail
       refine ret_cells (p := 6) (ty := 352) rfl rfl _ HB6.out rfl rfl m0_info rfl ?_
       exact ⟨HF6.out,0,0,by rw [hR.out]; rfl⟩
      ·have hR : Hid (multiB s = false) := by
        show _ = _
        rw [HM.out,toksFrom_bad hlt hbad]; rfl
       have HT7 := hid hb; clear hb hbad hlt
       go_wp2_with fail
       refine (done_err_c w7 T _ _ _ _ _ _ _ HT7.out).mono ?_
       rintro e w8 ⟨rfl,hf8⟩
       have HG8 : Hid (Blk w8 G 352 m0) := HG7.out.fr hf8 (by simp)
       have HF8 : Hid (Fr [] w w8) := HF7.out.trans hf8
       clear hf8
       go_wp2_with (with_reducible refine wpList_storeB (op := ⟨none,_,_,_,_,_⟩) rfl 352 (.tmp 6) (.tmp 59) rfl rfl G m0 m0 HG8.out ?_ ?_ rfl m0_info m0_one ?_)
       ·rfl
       ·rfl
       intro w6 hf6 hb6
       have HF6 : Hid (Fr [] w w6) := HF8.out.andThen hf6 (by intro k hk; simp at hk; subst hk; exact .inr HGw.out)
       have HB6 := hid hb6; clear hf6 hb6
       go_wp2_with fail
       refine ret_cells (p := 6) (ty := 352) rfl rfl _ HB6.out rfl rfl m0_info rfl ?_
       exact ⟨HF6.out,0,0,by rw [hR.out]; rfl⟩
      ·have HT7 := hid hb; clear hb
       have HO7 := hid hop; clear hop
       have hxb := Hu.out.bd p
       have Hxb := hid hxb; clear hxb
       have Hq' : Hid (p < q' ∧ q' ≤ s.length) := tokAt_gt hok hlt
       have HM' : Hid (multiB s = mRun s.length (⟨nth s p,d,p⟩ :: (toksFrom s q').1) k) := by
        show _ = _
        rw [HM.out,toksFrom_step hlt hok]
       have Hok := hid hok
       clear hok hlt HM
       have HDV := hid hdv; clear hdv
       obtain ⟨x,hx⟩ : ∃ x,x = nth s p := ⟨_,rfl⟩
       rw [← hx] at HO7 Hxb HM' HDV
       have Hx := hid hx; clear hx
       go_wp2_with fail
       refine (opcode_c w7 T _ _ _ _ _ _ x HT7.out HO7.out).mono ?_
       rintro e w' ⟨rfl,rfl⟩
       go_wp2_with fail
       refine (isSmall_c w7 x Hxb.out.1 Hxb.out.2).mono ?_
       rintro e w' ⟨rfl,rfl⟩
       by_cases hsm : smallB x = true
       ·have Hsm := hid hsm
        go_wp2_with fail
        have HQ1 : Hid (q' = p + 1) := small_tok Hok.out (by rw [← Hx.out]; exact Hsm.out)
        have HM2 : Hid (multiB s = decide (smallN x = k ∧ (p : Int) + 2 = s.length)) := by show _ = _; rw [HM'.out,mRun]; simp [Hsm.out]
        clear hsm
        by_cases hdn : s.length ≤ q'
        ·have hR : Hid (multiB s = false) := by show _ = _; rw [HM2.out]; have := HQ1.out; exact decide_eq_false (by omega)
         have Hdn : Hid (decide (s.length ≤ q') = true) := by show _ = _; simp [hdn]
         clear hdn
         refine (done_c w7 T _ _ _ _ _ _ _ HT7.out Hs.out (Nat.le_trans Hq'.out.2 Hs.out)).mono ?_
         rintro e w8 ⟨rfl,hf8⟩
         rw [Hdn.out]
         have HG8 : Hid (Blk w8 G 352 m0) := HG7.out.fr hf8 (by simp)
         have HF8 : Hid (Fr [] w w8) := HF7.out.trans hf8
         have HT8 : Hid (Blk w8 T 308 (tkc (.slice (some ⟨b2,off2,none⟩) s.length cap) q' (pos + 1) op' dv .nilIface)) := HT7.out.fr hf8 (by simp)
         have HO8 : Hid (TkOp w8 op' x) := HO7.out.fr hf8 (by simp)
         clear hf8 HG7 HF7 HT7 HO7
         go_wp2_with (with_reducible refine wpList_storeB (op := ⟨none,_,_,_,_,_⟩) rfl 352 (.tmp 6) (.tmp 59) rfl rfl G m0 m0 HG8.out ?_ ?_ rfl m0_info m0_one ?_)
         ·rfl
         ·rfl
         intro w6 hf6 hb6
         have HF6 : Hid (Fr [] w w6) := HF8.out.andThen hf6 (by intro k hk; simp at hk; subst hk; exact .inr HGw.out)
         have HB6 := hid hb6; clear hf6 hb6
         go_wp2_with fail
         refine ret_cells (p := 6) (ty := 352) rfl rfl _ HB6.out rfl rfl m0_info rfl ?_
         exact ⟨HF6.out,0,0,by rw [hR.out]; rfl⟩
        ·have Hdn : Hid (decide (s.length ≤ q') = false) := by show _ = _; simp [hdn]
         clear hdn
         refine (done_c w7 T _ _ _ _ _ _ _ HT7.out Hs.out (Nat.le_trans Hq'.out.2 Hs.out)).mono ?_
         rintro e w8 ⟨rfl,hf8⟩
         rw [Hdn.out]
         have HG8 : Hid (Blk w8 G 352 m0) := HG7.out.fr hf8 (by simp)
         have HF8 : Hid (Fr [] w w8) := HF7.out.trans hf8
         have HT8 : Hid (Blk w8 T 308 (tkc (.slice (some ⟨b2,off2,none⟩) s.length cap) q' (pos + 1) op' dv .nilIface)) := HT7.out.fr hf8 (by simp)
         have HO8 : Hid (TkOp w8 op' x) := HO7.out.fr hf8 (by simp)
         clear hf8 HG7 HF7 HT7 HO7
         go_wp2_with fail
         refine (opcode_c w8 T _ _ _ _ _ _ x HT8.out HO8.out).mono ?_
         rintro e w' ⟨rfl,rfl⟩
         go_wp2_with fail
         refine (isSmall_c w8 x Hxb.out.1 Hxb.out.2).mono ?_
         rintro e w' ⟨rfl,rfl⟩
         rw [Hsm.out]
         go_wp2_with fail
         refine (asSmall_c w8 x Hxb.out.1 Hxb.out.2 Hsm.out).mono ?_
         rintro e w' ⟨rfl,rfl⟩
         obtain ⟨sn,hsn⟩ : ∃ sn,sn = smallN x := ⟨_,rfl⟩
         rw [← hsn]
         have Hsn := hid hsn; clear hsn
         by_cases hk : sn = (k : Int)
         ·have Hk := hid hk
          subst hk
          go_wp2_with fail
          refine (script_c w8 T _ _ _ _ _ _ HT8.out).mono ?_
          rintro e w' ⟨rfl,rfl⟩
          go_wp2_with fail
          refine (byteIndex_c w8 T _ _ _ _ _ _ HT8.out).mono ?_
          rintro e w' ⟨rfl,rfl⟩
          have hql : (q' : Int) ≤ s.length := by have := Hq'.out; omega
          by_cases hl1 : s.length = q' + 1
          ·have hR : Hid (multiB s = true) := by show _ = _; rw [HM2.out]; have := HQ1.out; exact decide_eq_true ⟨Hsn.out.symm,by omega⟩
           have hl2 : (s.length : Int) - q' = 1 := by omega
           clear hl1
           go_wp2_with (with_reducible refine wpList_storeB (op := ⟨none,_,_,_,_,_⟩) rfl 352 (.tmp 6) (.tmp 81) rfl rfl G m0 (m1 (smallN (nth s 0)) k) HG8.out ?_ ?_ (m1_len _ _) (m1_info _ _) (m1_one _ _) ?_)
           ·rfl
           ·rfl
           intro w6 hf6 hb6
           have HF6 : Hid (Fr [] w w6) := HF8.out.andThen hf6 (by intro k hk; simp at hk; subst hk; exact .inr HGw.out)
           have HB6 := hid hb6; clear hf6 hb6
           go_wp2_with fail
           refine ret_cells (p := 6) (ty := 352) rfl rfl _ HB6.out rfl rfl m0_info rfl ?_
           exact ⟨HF6.out,_,_,by rw [hR.out]; rfl⟩
          ·have hR : Hid (multiB s = false) := by show _ = _; rw [HM2.out]; have := HQ1.out; exact decide_eq_false (by omega)
           have hl2 : ¬ (s.length : Int) - q' = 1 := by omega
           clear hl1
           go_wp2_with (with_reducible refine wpList_storeB (op := ⟨none,_,_,_,_,_⟩) rfl 352 (.tmp 6) (.tmp 77) rfl rfl G m0 m0 HG8.out ?_ ?_ rfl m0_info m0_one ?_)
           ·rfl
           ·rfl
           intro w6 hf6 hb6
           have HF6 : Hid (Fr [] w w6) := HF8.out.andThen hf6 (by intro k hk; simp at hk; subst hk; exact .inr HGw.out)
           have HB6 := hid hb6; clear hf6 hb6
           go_wp2_with fail
           refine ret_cells (p := 6) (ty := 352) rfl rfl _ HB6.out rfl rfl m0_info rfl ?_
           exact ⟨HF6.out,0,0,by rw [hR.out]; rfl⟩
         ·have hR : Hid (multiB s = false) := by show _ = _; rw [HM2.out,← Hsn.out]; exact decide_eq_false (by omega)
          go_wp2_with (with_reducible refine wpList_storeB (op := ⟨none,_,_,_,_,_⟩) rfl 352 (.tmp 6) (.tmp 70) rfl rfl G m0 m0 HG8.out ?_ ?_ rfl m0_info m0_one ?_)
          ·rfl
          ·rfl
          intro w6 hf6 hb6
          have HF6 : Hid (Fr [] w w6) := HF8.out.andThen hf6 (by intro k hk; simp at hk; subst hk; exact .inr HGw.out)
          have HB6 := hid hb6; clear hf6 hb6
          go_wp2_with fail
          refine ret_cells (p := 6) (ty := 352) rfl rfl _ HB6.out rfl rfl m0_info rfl ?_
          exact ⟨HF6.out,0,0,by rw [hR.out]; rfl⟩
       ·have hsm2 : smallB x = false := by simpa using hsm
        clear hsm
        go_wp2_with fail
        refine (data_c w7 T _ _ _ _ _ _ HT7.out).mono ?_
        rintro e w' ⟨rfl,rfl⟩
        have HDB : Hid (BytesB B w7 dv d) := by
         rcases HDV.out with ⟨_,rfl,rfl⟩ | ⟨_,ad,nd,cd,rfl,hd⟩
         ·exact RdB.nil' B w7
         ·exact hd
        obtain ⟨da,dc,hdve,hdq1,hdq2⟩ := HDB.out.form
        clear hdq1 hdq2
        subst hdve
        have Hsm2 := hid hsm2
        have HM2 : Hid (multiB s = mRun s.length (toksFrom s q').1 (k + 1)) := by show _ = _; rw [HM'.out,mRun]; simp [Hsm2.out]
        go_wp2_with fail
        refine (strict_c w7 B _ d HDB.out).mono ?_
        rintro e w' ⟨rfl,rfl⟩
        by_cases hst : strictB d = true
        ·have Hst := hid hst;
         go_wp2_with fail
         go_roundg (s.length - q')
         case measure => have := Hq'.out; omega
         case rel => exact ⟨q',k + 1,pos + 1,op',.slice da d.length dc,rfl,rfl,rfl,Hq'.out.2,by have := Hkp.out; have := Hq'.out; omega,by have := Hpos.out; omega,by have := Hpos.out; have := Hq'.out; omega,HT7.out,by rw [HM2.out]; rfl,HG7.out,HF7.out⟩
        ·have hst2 : strictB d = false := by simpa using hst
         clear hst
         go_wp2_with fail
         go_roundg (s.length - q')
         case measure => have := Hq'.out; omega
         case rel => exact ⟨q',k + 1,pos + 1,op',.slice da d.length dc,rfl,rfl,rfl,Hq'.out.2,by have := Hkp.out; have := Hq'.out; omega,by have := Hpos.out; omega,by have := Hpos.out; have := Hq'.out; omega,HT7.out,by rw [HM2.out]; rfl,HG7.out,HF7.out⟩
    ·have hsm2 : smallB (nth s 0) = false := by simpa using hsm
     have hR : Hid (multiB s = false) := by
      show _ = _
      rw [multiB,Htk.out]; simp [hsm2]
     clear hsm
     go_wp2_with (with_reducible refine wpList_storeB (op := ⟨none,_,_,_,_,_⟩) rfl 352 (.tmp 6) (.tmp 39) rfl rfl G m0 m0 HG4.out ?_ ?_ rfl m0_info m0_one ?_)
     ·rfl
     ·rfl
     intro w6 hf6 hb6
     have HF6 : Hid (Fr [] w w6) := HF4.out.andThen hf6 (by intro k hk; simp at hk; subst hk; exact .inr HGw.out)
     have HB6 := hid hb6; clear hf6 hb6
     go_wp2_with fail
     refine ret_cells (p := 6) (ty := 352) rfl rfl _ HB6.out rfl rfl m0_info rfl ?_
     exact ⟨HF6.out,0,0,by rw [hR.out]; rfl⟩
  ·have hR : Hid (multiB s = false) := by show _ = _; rw [multiB,decide_eq_false (by rw [← hy]; omega),Bool.false_and]
   have hy3 : (y == 174) = false := by simp [hy2]
   clear hy hy2
   go_enter Tryz.func189,Tryz.ntmps189
   go_wp2_with (fail)
   go_returns
   exact ⟨(Fr.refl _ _).alloc _,_,_,by rw [hR.out]⟩
theorem isMulti_c (w : World) (B : Nat) (hBw : B ≤ w.heap.size) (v : Value) (s : List Int) (hv : BytesB B w v s) (hu : U8 s) (hs : s.length ≤ 1000000) :
  Calls Tryz.prog 176 #[.int .u16 0,v] w fun e w' => e = .returned (.bool (multiB s)) ∧ Fr [] w w' := by
 obtain ⟨a,cap,rfl,hq1,hq2⟩ := hv.form
 clear hq1 hq2
 have HV := hid hv; clear hv
 have Hu := hid hu; clear hu
 have Hs := hid hs; clear hs
 go_enter Tryz.func176,Tryz.ntmps176
 go_wp2_with fail
 refine (multi_c w B hBw _ s HV.out Hu.out Hs.out).mono ?_
 rintro e w1 ⟨hf,r,n,rfl⟩
 have HF := hid hf; clear hf
 simp only []
 refine (‹∀ (a : Act) (w : World),wpList Tryz.prog _ _ _ a w → _›) _ _ ?_
 obtain ⟨b,hb⟩ : ∃ b,b = multiB s := ⟨_,rfl⟩
 rw [← hb]
 have Hb := hid hb; clear hb
 refine wpList_new rfl rfl 352 (.tmp 8) 5 rfl rfl rfl rfl (by simp [Act.put]) [.int .i64 r,.int .i64 n,.slice none 0 0,.bool b] m0 (fun _ => rfl) m0_info (fun _ => rfl) rfl (by intro u hu; simp only [List.mem_cons,List.not_mem_nil,or_false] at hu; rcases hu with rfl | rfl | rfl | rfl <;> rfl) ?_
 simp only [Act.put,nA,nB,nC]
 have HF2 : Hid (Fr [] w (w1.alloc (.cells [.int .i64 r,.int .i64 n,.slice none 0 0,.bool b].toArray 352))) := HF.out.alloc _
 have HB2 := Blk.new w1 [.int .i64 r,.int .i64 n,.slice none 0 0,.bool b] 352
 generalize World.alloc w1 _ = w2 at HF2 HB2 ⊢
 obtain ⟨g,hg⟩ : ∃ g,g = w1.heap.size := ⟨_,rfl⟩
 rw [← hg] at HB2 ⊢
 have c3 : w2.cell? ⟨g,3,none⟩ = some (.bool b) := HB2.cell_at rfl
 have hgl := HB2.lt
 clear hg HB2
 refine wpList_nil ?_
 simp only [Exit.then]
 go_wp2_with fail
 go_ret
 exact ⟨congrArg (fun b => Ending.returned (.bool b)) Hb.out,HF2.out⟩
end
section
set_option maxRecDepth 8000
theorem ba_toList_length (s : ByteArray) : s.toList.length = s.size := by
 have : ∀ i r,(ByteArray.toList.loop s i r).length = r.length + (s.size - i) := by
  intro i r
  fun_induction ByteArray.toList.loop s i r with
  | case1 i r h ih => rw [ih,List.length_cons]; omega
  | case2 i r h => rw [List.length_reverse]; omega
 have := this 0 []
 simpa [ByteArray.toList] using this
theorem anch_c (w : World) (B : Nat) (hBw : B ≤ w.heap.size) (v : Value) (s : List Int) (hv : BytesB B w v s) : Calls Tryz.prog 191 #[v] w fun e w' => ∃ b,PatR b w e w' := by
 obtain ⟨a,cap,rfl,hc1,hc2⟩ := hv.form
 have Hc := hid hc1
 clear hc1 hc2
 have HV := hid hv; clear hv
 go_enter Tryz.func191,Tryz.ntmps191
 go_wp2_with fail
 have hB := Blk.new w [.int .u8 81,.int .u8 2,.int .u8 78,.int .u8 115] 5
 refine (equal_c _ B (w.heap.size + 1) _ _ s [81,2,78,115] (HV.out.below (((Fr.refl _ _).alloc _).below.mono hBw)) ⟨some ⟨w.heap.size,0,none⟩,4,rfl,by decide,by decide,.inr ⟨_,_,rfl,Nat.lt_succ_self _, ?_⟩⟩).mono ?_
 ·intro i hi
  rw [Nat.zero_add]
  exact hB.cell_at (List.getElem?_eq_getElem hi)
 rintro e w1 ⟨rfl,rfl⟩
 clear hB
 have HF : Hid (Fr [] w (w.alloc (.cells #[.int .u8 81,.int .u8 2,.int .u8 78,.int .u8 115] 5))) := (Fr.refl _ _).alloc _
 generalize w.alloc _ = w1 at HF ⊢
 by_cases he : ((strOfNums s).toList == (strOfNums [81,2,78,115]).toList) = true
 ·rw [he]
  have hl : s.length = 4 := by
   have := congrArg List.length (eq_of_beq he)
   simpa [ba_toList_length,strOfNums_size] using this
  clear he
  rcases s with _ | ⟨x0,_ | ⟨x1,_ | ⟨x2,_ | ⟨x3,_ | ⟨_,_⟩⟩⟩⟩⟩ <;> simp at hl
  obtain ⟨_,_,he,hq1,hq2,hcs⟩ := HV.out
  clear hq1 hq2
  simp only [Value.slice.injEq] at he
  obtain ⟨rfl,_,rfl⟩ := he
  rcases hcs with ⟨_,_,hcs⟩ | ⟨b2,off2,rfl,hb2,hcs⟩
  ·cases hcs
  clear hcs hb2
  have hcp : ((4 : Nat) : Int) ≤ (cap : Int) := by have := Hc.out; simp at this; omega
  simp only [List.length_cons,List.length_nil]
  go_wp2_with fail
  go_ret
  exact ⟨true,HF.out,.inl ⟨rfl,_,_,_,rfl⟩⟩
 ·have he2 : ((strOfNums s).toList == (strOfNums [81,2,78,115]).toList) = false := by simpa using he
  rw [he2]
  clear he he2
  go_wp2_with fail
  go_ret
  exact ⟨false,HF.out,.inr ⟨rfl,rfl⟩⟩
theorem anchor_c (w : World) (B : Nat) (hBw : B ≤ w.heap.size) (v : Value) (s : List Int) (hv : BytesB B w v s) : Calls Tryz.prog 178 #[v] w (SomeB w) := by
 obtain ⟨a,cap,rfl,hc1,hc2⟩ := hv.form
 clear hc1 hc2
 have HV := hid hv; clear hv
 go_enter Tryz.func178,Tryz.ntmps178
 go_wp2_with fail
 refine (anch_c w B hBw _ s HV.out).mono ?_
 rintro e w1 ⟨b,hf,⟨hb,ad,n,c,rfl⟩ | ⟨hb,rfl⟩⟩
 ·have HF := hid hf; clear hf
  clear hb
  have hq := neqS ad n c
  go_wp2_with fail
  go_ret
  exact ⟨HF.out,_,rfl⟩
 ·have HF := hid hf; clear hf
  clear hb
  have hq := neqN
  go_wp2_with fail
  go_ret
  exact ⟨HF.out,_,rfl⟩
end
section
set_option maxRecDepth 8000
set_option maxHeartbeats 2000000 in
theorem null_c (w : World) (B : Nat) (hBw : B ≤ w.heap.size) (v : Value) (s : List Int) (hv : BytesB B w v s) (hu : U8 s) (hs : s.length ≤ 1000000) :
  Calls Tryz.prog 177 #[.int .u16 0,v] w (SomeB w) := by
 by_cases h0 : s.length < 1
 ·obtain ⟨a,cap,rfl,hq1,hq2⟩ := hv.form
  clear hq1 hq2 hv hu hs
  have h0i : (s.length : Int) < 1 := by omega
  clear h0
  go_enter Tryz.func177,Tryz.ntmps177
  go_wp2_with fail
  go_ret
  exact ⟨Fr.refl _ _,_,rfl⟩
 have Hu := hid hu; clear hu
 have Hs := hid hs
 have hs1 : (s.length : Int) ≤ 1000000 := by omega
 clear hs
 have H0 := hid h0
 have HV := hid hv
 obtain ⟨_,cap,rfl,hq1,hq2,hcs⟩ := hv
 rcases hcs with ⟨_,_,hcs⟩ | ⟨b2,off2,rfl,hb2,hcs⟩
 ·exfalso; have := congrArg List.length hcs; rw [ic_length,List.length_nil] at this; omega
 have e0 := hcs 0 (by rw [ic_length]; omega)
 rw [ic_nth,Nat.add_zero] at e0
 have Hcap := hid hq1
 clear hcs hb2 hq1 hq2
 have h0i : ¬ (s.length : Int) < 1 := by omega
 clear h0
 obtain ⟨y,hy⟩ : ∃ y,y = nth s 0 := ⟨_,rfl⟩
 rw [← hy] at e0
 clear hy
 by_cases hy2 : y = 106
 ·subst hy2
  by_cases h1 : s.length = 1
  ·have h1i : (s.length : Int) = 1 := by omega
   clear h1
   go_enter Tryz.func177,Tryz.ntmps177
   go_wp2_with fail
   go_ret
   exact ⟨Fr.refl _ _,_,rfl⟩
  ·have h1i : ¬ (s.length : Int) = 1 := by omega
   have H1 := hid h1
   clear h1
   go_enter Tryz.func177,Tryz.ntmps177
   go_wp2_with (with_reducible refine wpList_slcS_l (op := ⟨some 22,_,_,_,_,_⟩) (B := B) (n := s.length) (cap := cap) (lo := 1) (xs := ic .u8 s) rfl 29 (.tmp 21) (.const (.int .i64 1)) rfl 5 rfl rfl .i64 ?_ rfl HV.out ?_ ?_ ?_)
   ·have := H0.out; omega
   intro ad' hr
   obtain ⟨r,hrr⟩ : ∃ r,r = s.tail := ⟨_,rfl⟩
   have hrl : r.length = s.length - 1 := by rw [hrr]; simp
   have HR : Hid (BytesB B w (.slice (some ad') r.length (cap - 1)) r) := by
    rw [hrl]; show RdB B w _ r.length (ic .u8 r)
    rw [hrl,hrr]; have : (ic .u8 s).drop 1 = ic .u8 s.tail := by simp [ic]
    rw [← this]; simpa using hr
   have HuR : Hid (U8 r) := by rw [hrr,← List.drop_one]; exact Hu.out.drop 1
   have HsR : Hid (r.length ≤ 1000000) := by have := Hs.out; show _ ≤ _; omega
   rw [← hrl]
   clear hr hrr hrl
   go_wp2_with fail
   refine (mkTok_c _ _ _ r.length (cap - 1) rfl).mono ?_
   rintro e w1 ⟨rfl,hf⟩
   have HF1 := hid hf; clear hf
   simp only []
   refine (‹∀ (a : Act) (w : World),wpList Tryz.prog _ _ _ a w → _›) _ _ ?_
   obtain ⟨z,hz,hzl⟩ : ∃ z : List Value,Zero Tryz.prog 308 z ∧ z.length = 7 := ⟨_,fun w => rfl,rfl⟩
   refine wpList_new rfl rfl 308 (.tmp 23) 5 rfl rfl rfl rfl (by simp [Act.put]) (tkc (.slice (some ad') r.length (cap - 1)) 0 (-1) (.pointer none) (.slice none 0 0) .nilIface) z (fun _ => rfl) (by show _ = some 7; kernel_rfl) hz hzl (by intro u hu; simp only [tkc,List.mem_cons,List.not_mem_nil,or_false] at hu; rcases hu with rfl | rfl | rfl | rfl | rfl | rfl | rfl <;> rfl) ?_
   simp only [Act.put,nA,nB,nC]
   clear hz hzl
   have HF2 : Hid (Fr [] w (w1.alloc (.cells (tkc (.slice (some ad') r.length (cap - 1)) 0 (-1) (.pointer none) (.slice none 0 0) .nilIface).toArray 308))) := HF1.out.alloc _
   have HT2 : Hid (Blk (w1.alloc (.cells (tkc (.slice (some ad') r.length (cap - 1)) 0 (-1) (.pointer none) (.slice none 0 0) .nilIface).toArray 308)) w1.heap.size 308 (tkc (.slice (some ad') r.length (cap - 1)) 0 (-1) (.pointer none) (.slice none 0 0) .nilIface)) := Blk.new _ _ _
   generalize World.alloc w1 _ = w2 at HF2 HT2 ⊢
   obtain ⟨T,hT⟩ : ∃ T,T = w1.heap.size := ⟨_,rfl⟩
   rw [← hT] at HT2 ⊢
   have HTw : Hid (w.heap.size ≤ T) := by rw [hT]; exact HF1.out.size
   clear hT HF1
   refine wpList_nil ?_
   simp only [Exit.then]
   generalize Value.agg (tkc (.slice (some ad') r.length (cap - 1)) 0 (-1) (.pointer none) (.slice none 0 0) .nilIface).toArray = V8
   go_wp2_with fail
   refine (next_c w2 B T (Nat.le_trans hBw HF2.out.size) (Nat.le_trans hBw HTw.out) _ r (HR.out.below (HF2.out.below.mono hBw)) HuR.out HsR.out 0 (Nat.zero_le _) (-1) (by omega) (by omega) _ _ HT2.out).mono ?_
   rintro e w4 ⟨hf,hN⟩
   have HF4 : Hid (Fr [] w w4) := HF2.out.andThen hf (by intro k hk; simp at hk; subst hk; exact .inr HTw.out)
   clear hf HT2 HF2
   rcases hN with ⟨hge,rfl,hb⟩ | ⟨hlt,hbad,rfl,t,v,hb⟩ | ⟨d,q,hlt,hok,rfl,op',dv,hb,hop,hdv⟩
   ·clear hb hge
    go_wp2_with fail
    go_ret
    exact ⟨HF4.out,_,rfl⟩
   ·clear hb hlt hbad
    go_wp2_with fail
    go_ret
    exact ⟨HF4.out,_,rfl⟩
   ·have HT4 := hid hb; clear hb
    have HO4 := hid hop; clear hop
    have hxb := HuR.out.bd 0
    have Hxb := hid hxb; clear hxb
    have Hq : Hid (0 < q ∧ q ≤ r.length) := tokAt_gt hok hlt
    clear hok hlt
    go_wp2_with fail
    refine (done_c w4 T _ _ _ _ _ _ _ HT4.out HsR.out (Nat.le_trans Hq.out.2 HsR.out)).mono ?_
    rintro e w5 ⟨rfl,hf5⟩
    have HF5 : Hid (Fr [] w w5) := HF4.out.trans hf5
    have HT5 : Hid (Blk w5 T 308 (tkc (.slice (some ad') r.length (cap - 1)) q (-1 + 1) op' dv .nilIface)) := HT4.out.fr hf5 (by simp)
    have HO5 : Hid (TkOp w5 op' (nth r 0)) := HO4.out.fr hf5 (by simp)
    have HDV := hid hdv; clear HT4 HF4 HO4 hdv
    have HB5 : ∃ a n c,dv = .slice a n c := by
     rcases HDV.out with ⟨_,rfl,_⟩ | ⟨_,ad,nd,cd,rfl,_⟩
     ·exact ⟨_,_,_,rfl⟩
     ·exact ⟨_,_,_,rfl⟩
    obtain ⟨da,dn,dc,rfl⟩ := HB5
    clear HDV
    clear hf5
    obtain ⟨x,hx⟩ : ∃ x,x = nth r 0 := ⟨_,rfl⟩
    rw [← hx] at HO5 Hxb
    clear hx
    generalize decide (r.length ≤ q) = dd
    cases dd
    ·go_wp2_with fail
     go_ret
     exact ⟨HF5.out,_,rfl⟩
    go_wp2_with fail
    refine (opcode_c w5 T _ _ _ _ _ _ x HT5.out HO5.out).mono ?_
    rintro e w' ⟨rfl,rfl⟩
    go_wp2_with fail
    refine (isSmall_c w5 x Hxb.out.1 Hxb.out.2).mono ?_
    rintro e w' ⟨rfl,rfl⟩
    generalize smallB x = sm
    cases sm
    ·go_wp2_with fail
     refine (opcode_c w5 T _ _ _ _ _ _ x HT5.out HO5.out).mono ?_
     rintro e w' ⟨rfl,rfl⟩
     by_cases hx78 : x ≤ 78
     ·go_wp2_with fail
      refine (data_c w5 T _ _ _ _ _ _ HT5.out).mono ?_
      rintro e w' ⟨rfl,rfl⟩
      go_wp2_with fail
      go_ret
      exact ⟨HF5.out,_,rfl⟩
     ·go_wp2_with fail
      go_ret
      exact ⟨HF5.out,_,rfl⟩
    ·go_wp2_with fail
     refine (data_c w5 T _ _ _ _ _ _ HT5.out).mono ?_
     rintro e w' ⟨rfl,rfl⟩
     go_wp2_with fail
     go_ret
     exact ⟨HF5.out,_,rfl⟩
 ·have hy3 : (y == 106) = false := by simp [hy2]
  clear hy2
  go_enter Tryz.func177,Tryz.ntmps177
  go_wp2_with fail
  go_ret
  exact ⟨Fr.refl _ _,_,rfl⟩
end
section
section
variable {P : Program} {fn : Func} {R : Ending → World → Prop} {a : Act} {w : World} {p q r : Tmp} {ty T : TypeId} {c : List Value} {g : Nat} {u v : Value}
theorem ret_tc (hf : fn.results = #[.tmp q,.cell p ty]) (hp : a.tmps.getD p undef = .pointer (some ⟨g,0,none⟩)) (hq : a.tmps.getD q undef = u)
  (d : TypeDesc) (h : Blk w g T c) (hu : P.underlying ty = some d) (hd : (match d with | .struct _ | .array _ _ => true | _ => false) = true) (hi : (P.info? ty).map (·.size) = some c.length) (hde : a.defers = [])
  (hR : R (.returned (.tuple #[u,.agg c.toArray])) w) : bodyPost P fn R .ret a w := by
 have hp' : a.tmps[p]?.getD undef = .pointer (some ⟨g,0,none⟩) := by simpa using hp
 have hq' : a.tmps[q]?.getD undef = u := by simpa using hq
 have hi' : (P.info? ty).map (·.size) = some c.toArray.size := by simpa using hi
 refine bodyPost_ret ?_ hde hR
 simp [results,hf,hp',hq',asAddr,run_loadVar_row w g T ty c.toArray _ d h hu hd hi']
theorem ret_ct (hf : fn.results = #[.cell p ty,.tmp q]) (hp : a.tmps.getD p undef = .pointer (some ⟨g,0,none⟩)) (hq : a.tmps.getD q undef = u)
  (d : TypeDesc) (h : Blk w g T c) (hu : P.underlying ty = some d) (hd : (match d with | .struct _ | .array _ _ => true | _ => false) = true) (hi : (P.info? ty).map (·.size) = some c.length) (hde : a.defers = [])
  (hR : R (.returned (.tuple #[.agg c.toArray,u])) w) : bodyPost P fn R .ret a w := by
 have hp' : a.tmps[p]?.getD undef = .pointer (some ⟨g,0,none⟩) := by simpa using hp
 have hq' : a.tmps[q]?.getD undef = u := by simpa using hq
 have hi' : (P.info? ty).map (·.size) = some c.toArray.size := by simpa using hi
 refine bodyPost_ret ?_ hde hR
 simp [results,hf,hp',hq',asAddr,run_loadVar_row w g T ty c.toArray _ d h hu hd hi']
theorem ret_ctt (hf : fn.results = #[.cell p ty,.tmp q,.tmp r]) (hp : a.tmps.getD p undef = .pointer (some ⟨g,0,none⟩)) (hq : a.tmps.getD q undef = u) (hr : a.tmps.getD r undef = v)
  (d : TypeDesc) (h : Blk w g T c) (hu : P.underlying ty = some d) (hd : (match d with | .struct _ | .array _ _ => true | _ => false) = true) (hi : (P.info? ty).map (·.size) = some c.length) (hde : a.defers = [])
  (hR : R (.returned (.tuple #[.agg c.toArray,u,v])) w) : bodyPost P fn R .ret a w := by
 have hp' : a.tmps[p]?.getD undef = .pointer (some ⟨g,0,none⟩) := by simpa using hp
 have hq' : a.tmps[q]?.getD undef = u := by simpa using hq
 have hr' : a.tmps[r]?.getD undef = v := by simpa using hr
 have hi' : (P.info? ty).map (·.size) = some c.toArray.size := by simpa using hi
 refine bodyPost_ret ?_ hde hR
 simp [results,hf,hp',hq',hr',asAddr,run_loadVar_row w g T ty c.toArray _ d h hu hd hi']
end
end
section
section
variable {P : Program} {ops : Array Oper} {Q : Exit → Act → World → Prop} {S : World → Prop} {K : Act → World → Prop} {op : Oper} {a : Act} {w : World}
theorem step_make (hgd : op.guard = none) (t : TypeId) (x y : Operand) (ho : op.op = .makeSlice t x y)
  (e : TypeId) (z : Value) (bytes : Nat) (hm : Made P e z bytes) (hu : P.underlying t = some (.slice e)) (kl kc : IntKind) (l c : Nat) (hx : a.eval x = .int kl (l : Int)) (hy : a.eval y = .int kc (c : Int)) (hl : l ≤ c) (hb : bytes * c ≤ 281474976710656) (h63 : c ≤ maxLen)
  (h : ∀ w' p,Fr [] w w' → w.heap.size ≤ p → Blk w' p e (List.replicate c z) → S w' ∧ K (a.put op.dst (.slice (some ⟨p,0,none⟩) l c)) w') : wpList P ops (Exit.then (fun a' w' => S w' ∧ (S w' → K a' w')) Q) [op] a w := by
 refine wpList_make hgd t x y ho e z bytes hm hu kl kc l c hx hy hl hb h63 (wpList_nil ?_)
 have h1 := h _ _ ((Fr.refl [] w).alloc _) (Nat.le_refl _) (Blk.new w (List.replicate c z) e)
 exact ⟨h1.1,fun _ => h1.2⟩
theorem step_new (hgd : op.guard = none) (E : TypeId) (ho : op.op = .alloc E) (z : List Value) (hz : Zero P E z)
  (h : ∀ w' p,Fr [] w w' → w.heap.size ≤ p → Blk w' p E z → S w' ∧ K (a.put op.dst (.pointer (some ⟨p,0,none⟩))) w') : wpList P ops (Exit.then (fun a' w' => S w' ∧ (S w' → K a' w')) Q) [op] a w := by
 refine wpList_run (v := .pointer (some ⟨w.heap.size,0,none⟩)) (w' := w.alloc (.cells z.toArray E)) hgd (by have := hz w; unfold execOp; simp only [ho,Sem.run_bind,this]; rfl) (wpList_nil ?_)
 have h1 := h _ _ ((Fr.refl [] w).alloc _) (Nat.le_refl _) (Blk.new w z E)
 exact ⟨h1.1,fun _ => h1.2⟩
theorem step_store (hgd : op.guard = none) (ty : TypeId) (x y : Operand) (ho : op.op = .store ty x y) (hd : op.dst = none)
  (g : Nat) (c0 c : List Value) (hB : Blk w g ty c0) (hx : a.eval x = .pointer (some ⟨g,0,none⟩)) (hy : a.eval y = .agg c.toArray) (hl : c.length = c0.length) (hi : (P.info? ty).map (·.size) = some c.length) (h1 : ∀ u ∈ c,u.oneCell' = true)
  (h : ∀ w',Fr [g] w w' → Blk w' g ty c → S w' ∧ K a w') : wpList P ops (Exit.then (fun a' w' => S w' ∧ (S w' → K a' w')) Q) [op] a w := by
 refine wpList_storeB hgd ty x y ho hd g c0 c hB hx hy hl hi h1 fun w' hf hb => wpList_nil ?_
 have h2 := h w' hf hb
 exact ⟨h2.1,fun _ => h2.2⟩
end
end
end Go.Proofs.YtdllckiidegpcaaGreat
