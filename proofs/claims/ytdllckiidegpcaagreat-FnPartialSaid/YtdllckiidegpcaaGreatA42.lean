/- A part of the walk of laws.FnPartial (part 42): contracts of functions that it comes to, and the plain laws that these lean on. Conditions stand in each contract. -/
import Derived.Test.YtdllckiidegpcaaGreatA41
set_option linter.unusedSimpArgs false
set_option linter.unusedVariables false
set_option maxHeartbeats 4000000
namespace Go.Proofs.YtdllckiidegpcaaGreat
open Go.RowKit
section
set_option maxRecDepth 8000
/-- The leaves that a reader finds meant below a node. -/
def found (m : List Int) (n : Nat) : Nat → Nat → List Int
 | 0,p => if meantB m 0 p then [(p : Int)] else []
 | h + 1,p => if meantB m (h + 1) p then found m n h (2 * p) ++ (if 2 * p + 1 < wid n h then found m n h (2 * p + 1) else []) else []
theorem found_off {m : List Int} {n h p : Nat} (hm : meantB m h p = false) : found m n h p = [] := by
 cases h with
 | zero => rw [found,if_neg (by rw [hm]; decide)]
 | succ h => rw [found,if_neg (by rw [hm]; decide)]
theorem found_len (m : List Int) (n : Nat) : ∀ h p,(found m n h p).length ≤ 2 ^ h := by
 intro h
 induction h with
 | zero => intro p; rw [found]; split <;> simp
 | succ h ih =>
  intro p
  rw [found]
  split
  ·have h1 := ih (2 * p)
   have h2 : (if 2 * p + 1 < wid n h then found m n h (2 * p + 1) else []).length ≤ 2 ^ h := by
    split
    ·exact ih _
    ·simp
   rw [List.length_append,Nat.pow_succ]; omega
  ·simp
theorem bool_cell {B : Nat} {w w' : World} {a : Option Addr} {n cap : Nat} {m : List Int} (h : BoolB B w (.slice a n cap) m) (hb : Below B w w') {i : Nat} (hi : i < m.length) : ∃ b off,a = some ⟨b,off,none⟩ ∧ b < B ∧ w'.cell? ⟨b,off + i,none⟩ = some (.bool (decide (nth m i = 1))) := by
 obtain ⟨a',cap',he,_,_,hcs⟩ := h.below hb
 simp only [Value.slice.injEq] at he
 obtain ⟨rfl,_,rfl⟩ := he
 rcases hcs with ⟨_,_,he⟩ | ⟨b,off,rfl,hb,hc⟩
 ·have : (bc m).length = 0 := by rw [he]; rfl
  rw [bc_length] at this; omega
 ·exact ⟨b,off,rfl,hb,by rw [hc i (by simpa using hi),bc_nth]⟩
def rdr (n : Nat) (bv hv : Value) (i j : Nat) (mv : Value) : List Value := [.int .i64 n,bv,hv,.int .i64 i,.int .i64 j,mv,.bool false]
structure RdS (n g : Nat) (bv hv : Value) (w0 : World) (i j : Nat) (mn : List Int) (w : World) : Prop where
 fr : Fr [g] w0 w
 blk : ∃ mv,Blk w g 90 (rdr n bv hv i j mv) ∧ Grows w0.heap.size 3 1 (IntE .i64) w mv mn
theorem RdS.grow {n g : Nat} {bv hv : Value} {w0 w w' : World} {i j : Nat} {mn : List Int} (h : RdS n g bv hv w0 i j mn w) (hf : Fr [] w w') : RdS n g bv hv w0 i j mn w' := by
 obtain ⟨mv,h1,h2⟩ := h.blk
 exact ⟨h.fr.trans (hf.mono (by simp)),mv,h1.fr hf (by simp),h2.fr hf (fun _ _ h => h)⟩
theorem RdS.put {n g R : Nat} {bv hv : Value} {w0 w w' : World} {i j : Nat} {mn : List Int} {c : List Value} (h : RdS n g bv hv w0 i j mn w) (hR : Blk w R 22 c) (hf : Fr [R] w w') (h1 : w0.heap.size ≤ R) (h2 : R ≠ g) : RdS n g bv hv w0 i j mn w' := by
 obtain ⟨mv,h3,h4⟩ := h.blk
 have hT : FrT 22 w w' := hf.frT (fun k hk _ => by simp at hk; subst hk; exact ⟨_,_,hR⟩)
 exact ⟨h.fr.andThen hf (by intro k hk; simp at hk; subst hk; exact .inr h1),mv,h3.fr hf (by simpa using (Ne.symm h2)),h4.frT hT (by decide) (fun _ _ h => h)⟩
/-- Hashes in memory stay. -/
structure Keeps (g : Nat) (w w' : World) : Prop where
 size : w.heap.size ≤ w'.heap.size
 blk : ∀ k c,k ≠ g → Blk w k 22 c → Blk w' k 22 c
theorem Keeps.trans {g : Nat} {a b c : World} (h : Keeps g a b) (k : Keeps g b c) : Keeps g a c := ⟨Nat.le_trans h.size k.size,fun n x hn hb => k.blk n x hn (h.blk n x hn hb)⟩
theorem Keeps.of {g : Nat} {w w' : World} (h : Fr [g] w w') : Keeps g w w' := ⟨h.size,fun k c hk hb => hb.fr h (by simpa using hk)⟩
theorem Keeps.ofT {g : Nat} {T : TypeId} {w w' : World} (h : FrT T w w') (hT : 22 ≠ T) : Keeps g w w' := ⟨h.size,fun k c hk hb => hb.frT h hT⟩
theorem Keeps.put {g R : Nat} {a w w' : World} (h : Keeps g a w) (hf : Fr [R] w w') (hR : a.heap.size ≤ R) : Keeps g a w' := ⟨Nat.le_trans h.size hf.size,fun k c hk hb => (h.blk k c hk hb).fr hf (by have := hb.lt; simp; omega)⟩
/-- Hashes in memory stay, but for those of one block. -/
structure KeepsB (g R : Nat) (w w' : World) : Prop where
 size : w.heap.size ≤ w'.heap.size
 blk : ∀ k c,k ≠ g → k ≠ R → Blk w k 22 c → Blk w' k 22 c
theorem KeepsB.of {g R : Nat} {w w' : World} (h : Keeps g w w') : KeepsB g R w w' := ⟨h.size,fun k c h1 _ h3 => h.blk k c h1 h3⟩
theorem KeepsB.put {g R : Nat} {a w w' : World} (h : KeepsB g R a w) (hf : Fr [R] w w') : KeepsB g R a w' := ⟨Nat.le_trans h.size hf.size,fun k c h1 h2 h3 => (h.blk k c h1 h2 h3).fr hf (by simpa using h2)⟩
/-- Reading a node: the bits and the hashes from the reader's places on are those of the node. -/
def RdC (K : List Int) (g : Nat) (hs : List (List Int)) (m : List Int) (bits : List Int) (fin : List (List Int)) (bv hv : Value) (w0 : World) (h : Nat) : Prop :=
 ∀ (p : Nat),p < wid hs.length h → ∀ (w : World) (i j : Nat) (mn b1 b2 : List Int) (f1 f2 : List (List Int)),RdS hs.length g bv hv w0 i j mn w → bits = b1 ++ (trav K hs m h p).1 ++ b2 → i = b1.length → fin = f1 ++ (trav K hs m h p).2 ++ f2 → j = f1.length → mn.length + 2 ^ h ≤ 100000 →
  ∀ (x y : Int),x = h → y = p → Calls Tryz.prog 32 #[.pointer (some ⟨g,0,none⟩),HFn,.int .i64 x,.int .i64 y] w fun e w' => e = .returned (arr (node K hs h p)) ∧ Keeps g w w' ∧ RdS hs.length g bv hv w0 (i + (trav K hs m h p).1.length) (j + (trav K hs m h p).2.length) (mn ++ found m hs.length h p) w'
set_option maxHeartbeats 8000000 in
theorem rd_step (K : List Int) (hK : K.length = 64) (g : Nat) (hs : List (List Int)) (hl : ∀ l ∈ hs,l.length = 32) (hn : hs.length ≤ 64) (m bits : List Int) (fin : List (List Int)) (hbl : bits.length ≤ 100000) (hfl : fin.length ≤ 100000) (B : Nat) (bv hv : Value) (w0 : World) (hg0 : g < w0.heap.size) (hB0 : B ≤ w0.heap.size) (hBg : B ≤ g)
  (hb : BoolB B w0 bv bits) (hf : ListB B 32 HashE w0 hv fin) (hKg : ∀ w,Fr [g] w0 w → Blk w 1 379 (ic .u32 K)) (h : Nat) (hh : h ≤ 6) (ih : ∀ h',h = h' + 1 → RdC K g hs m bits fin bv hv w0 h') : RdC K g hs m bits fin bv hv w0 h := by
 intro p hp w i j mn b1 b2 f1 f2 hS hbe hi hfe hj hmn x y hx hy
 have hpn : p ≤ 64 := Nat.le_trans (Nat.le_of_lt hp) (Nat.le_trans wid_le hn)
 obtain ⟨ab,cb,hvs,hq1,hq2⟩ := hb.form
 subst hvs
 obtain ⟨af,cf,hms,hq3,hq4⟩ := hf.len
 subst hms
 clear hq1 hq2 hq3 hq4
 obtain ⟨mv,hB,hG⟩ := hS.blk
 obtain ⟨mb,hmbq⟩ : ∃ mb,mb = meantB m h p := ⟨_,rfl⟩
 obtain ⟨q,hq⟩ : ∃ q,q = node K hs h p := ⟨_,rfl⟩
 have Hql : Hid (q.length = 32) := by rw [hq]; exact node_len hl _ _ hp
 have htr : (trav K hs m h p).1 = b2i mb :: (trav K hs m h p).1.tail := by
  cases h with
  | zero => rw [trav,hmbq]; rfl
  | succ h => rw [trav,hmbq]; split <;> rename_i e <;> simp [e,b2i]
 have hil : i < bits.length := by rw [hbe,hi,htr]; simp
 have hib : nth bits i = b2i mb := by rw [hbe,hi,htr]; simp [nth]
 have hbe0 : Below B w0 w := hS.fr.to_below hB0 (by intro k hk; simp at hk; subst hk; exact hBg)
 obtain ⟨bb,boff,rfl,hbB,hcb⟩ := bool_cell hb hbe0 hil
 rw [hib,show decide (b2i mb = 1) = mb by cases mb <;> rfl] at hcb
 have HMB := hid hmbq
 have HTl : Hid ((h = 0 ∨ mb = false) → trav K hs m h p = ([b2i mb],[q])) := by
  intro hc; rw [hmbq,hq]; exact trav_leaf (by rw [← hmbq]; exact hc)
 have HTn : Hid (∀ h',h = h' + 1 → mb = true → trav K hs m h p = (1 :: ((trav K hs m h' (2 * p)).1 ++ if 2 * p + 1 < wid hs.length h' then (trav K hs m h' (2 * p + 1)).1 else []),(trav K hs m h' (2 * p)).2 ++ if 2 * p + 1 < wid hs.length h' then (trav K hs m h' (2 * p + 1)).2 else [])) := by
  intro h' e1 e2; subst e1; rw [trav,if_pos (by rw [← hmbq]; exact e2)]
 have HQ := hid hq
 clear hq
 have hx7 : x ≤ 7 := by omega
 have hx0 : 0 ≤ x := by omega
 have hy64 : y ≤ 64 := by omega
 have hy0 : 0 ≤ y := by omega
 have hn1 : (hs.length : Int) ≤ 64 := by omega
 have hi1 : (i : Int) < bits.length := by omega
 have hbl1 : (bits.length : Int) ≤ 100000 := by omega
 have hgl := hB.lt
 have c0 : w.cell? ⟨g,0,none⟩ = some (.int .i64 hs.length) := hB.cell_at rfl
 have c1 : w.cell? ⟨g,1,none⟩ = some (.slice (some ⟨bb,boff,none⟩) bits.length cb) := hB.cell_at rfl
 have c3 : w.cell? ⟨g,3,none⟩ = some (.int .i64 i) := hB.cell_at rfl
 have c6 : w.cell? ⟨g,6,none⟩ = some (.bool false) := hB.cell_at rfl
 have f3 := hB.free 3
 have hbg : g ≠ bb := by omega
 have Hhx := hid hx; clear hx
 have Hhy := hid hy; clear hy
 have Hhp := hid hp; clear hp
 have Hhbl := hid hbl; clear hbl
 have HhS := hid hS; clear hS
 have HhB := hid hB; clear hB
 have HhG := hid hG; clear hG
 have Hhh := hid hh; clear hh
 have Hhf := hid hf; clear hf
 have HhKg := hid hKg; clear hKg
 have Hih := hid ih; clear ih
 have Hhpn := hid hpn; clear hpn
 have Hhbe := hid hbe; clear hbe
 have Hhi := hid hi; clear hi
 have Hhfe := hid hfe; clear hfe
 have Hhj := hid hj; clear hj
 have Hhmn := hid hmn; clear hmn
 have Hhbe0 := hid hbe0; clear hbe0
 have Hhtr := hid htr; clear htr
 have Hhil := hid hil; clear hil
 have Hhib := hid hib; clear hib
 have Hhb := hid hb; clear hb
 have Hhfl := hid hfl; clear hfl
 have Hhmbq := hid hmbq; clear hmbq
 obtain ⟨z,hz⟩ : ∃ z : List Int,z = List.replicate 32 0 := ⟨_,rfl⟩
 have HZl : Hid (z.length = 32) := by rw [hz]; exact List.length_replicate
 have hBw : B ≤ w.heap.size := Nat.le_trans hB0 HhS.out.fr.size
 go_enter Tryz.func32,Tryz.ntmps32
 go_upto_region 1 with fail
 have HF1 : Hid (Fr [] w (w.alloc (.cells (ic .u8 z).toArray 22))) := (Fr.refl _ _).alloc _
 have HR1 : Hid (Blk (w.alloc (.cells (ic .u8 z).toArray 22)) w.heap.size 22 (ic .u8 z)) := Blk.new _ _ _
 change Code.wp _ _ _ _ (w.alloc (.cells (ic .u8 (List.replicate 32 0)).toArray 22))
 rw [← hz]
 have HB1 : Hid (Blk (w.alloc (.cells (ic .u8 z).toArray 22)) g 90 _) := HhB.out.alloc _
 have HC1 := hid (HF1.out.cells.1 _ _ (Nat.lt_of_lt_of_le hbB hBw) (by simp) : (w.alloc (.cells (ic .u8 z).toArray 22)).cell? ⟨bb,boff + i,none⟩ = w.cell? ⟨bb,boff + i,none⟩)
 rw [hcb] at HC1
 have hFw : Fr [g] w0 (w.alloc (.cells (ic .u8 z).toArray 22)) := HhS.out.fr.trans (HF1.out.mono (by simp))
 have HG1 : Hid (Grows w0.heap.size 3 1 (IntE .i64) (w.alloc (.cells (ic .u8 z).toArray 22)) mv mn) := HhG.out.fr HF1.out (fun _ _ h => h)
 have HFw := hid hFw
 have hw0 := HhS.out.fr.size
 generalize World.alloc w _ = w1 at HF1 HR1 HB1 HC1 HFw HG1 ⊢
 clear hz hcb c0 c1 c3 c6 f3 hFw hgl HhG HhB HhS
 obtain ⟨R,hR⟩ : ∃ R,R = w.heap.size := ⟨_,rfl⟩
 rw [← hR] at HR1 ⊢
 have HRw : Hid (w0.heap.size ≤ R ∧ R ≠ g ∧ w.heap.size ≤ R) := by show _ ∧ _ ∧ _; omega
 clear hR hw0
 have c0 : w1.cell? ⟨g,0,none⟩ = some (.int .i64 hs.length) := HB1.out.cell_at rfl
 have c1 : w1.cell? ⟨g,1,none⟩ = some (.slice (some ⟨bb,boff,none⟩) bits.length cb) := HB1.out.cell_at rfl
 have c3 : w1.cell? ⟨g,3,none⟩ = some (.int .i64 i) := HB1.out.cell_at rfl
 have c6 : w1.cell? ⟨g,6,none⟩ = some (.bool false) := HB1.out.cell_at rfl
 have f3 := HB1.out.free 3
 have hcb := HC1.out
 have hgl := HB1.out.lt
 go_quiet (fail)
 rename Nat => nqa
 go_upto_region 4 with fail
 go_quiet (fail)
 go_upto_region 6 with fail
 obtain ⟨i1,hi1e⟩ : ∃ i1 : Nat,i1 = i + 1 := ⟨_,rfl⟩
 have e1 : (i : Int) + 1 = (i1 : Int) := by omega
 rw [e1]
 have hk3 : Keeps g w ((w1.drewN (nqa + nq)).setCell ⟨g,3,none⟩ (.int .i64 i1)) := Keeps.of ((HF1.out.mono (by simp)).trans (((Fr.refl _ _).drewN _).setCell _ _ (by simp)))
 have HK3 := hid hk3
 have hf3 : Fr [g] w1 ((w1.drewN (nqa + nq)).setCell ⟨g,3,none⟩ (.int .i64 i1)) := ((Fr.refl _ _).drewN _).setCell _ _ (by simp)
 have hT3 : FrT 90 w1 ((w1.drewN (nqa + nq)).setCell ⟨g,3,none⟩ (.int .i64 i1)) := hf3.frT (fun k hk _ => by simp at hk; subst hk; exact ⟨_,_,HB1.out⟩)
 have HF3 : Hid (Fr [g] w0 ((w1.drewN (nqa + nq)).setCell ⟨g,3,none⟩ (.int .i64 i1))) := HFw.out.trans hf3
 have HB3 : Hid (Blk ((w1.drewN (nqa + nq)).setCell ⟨g,3,none⟩ (.int .i64 i1)) g 90 (rdr hs.length (.slice (some ⟨bb,boff,none⟩) bits.length cb) (.slice af fin.length cf) i1 j mv)) := (HB1.out.drewN _).set 3 (.int .i64 i1)
 have HG3 : Hid (Grows w0.heap.size 3 1 (IntE .i64) ((w1.drewN (nqa + nq)).setCell ⟨g,3,none⟩ (.int .i64 i1)) mv mn) := HG1.out.frT hT3 (by decide) (fun _ _ h => h)
 have HR3 : Hid (Blk ((w1.drewN (nqa + nq)).setCell ⟨g,3,none⟩ (.int .i64 i1)) R 22 (ic .u8 z)) := HR1.out.fr hf3 (by simpa using HRw.out.2.1)
 generalize World.setCell (World.drewN w1 _) _ _ = w3 at HK3 HF3 HB3 HG3 HR3 ⊢
 have Hi1 := hid hi1e
 clear hk3 hf3 hT3 HB1 HG1 HR1 HFw c0 c1 c3 c6 f3 hcb hgl HC1 hi1e e1 HF1 hi1 hbl1 hbg
 obtain ⟨am,cm,rfl⟩ := HG3.out.slice
 by_cases hleaf : h = 0 ∨ mb = false
 ·have HTe := hid (HTl.out hleaf)
  have hfo : found m hs.length h p = if mb then [(p : Int)] else [] := by
   rcases hleaf with rfl | rfl
   ·rw [found,HMB.out]
   ·rw [found_off HMB.out.symm]; rfl
  have hcase : ((x == 0) = true ∧ mb = true) ∨ ((x == 0) = true ∧ mb = false) ∨ ((x == 0) = false ∧ mb = false) := by
   have hxx := Hhx.out
   by_cases e0 : h = 0
   ·have hxb : (x == 0) = true := by simp; omega
    cases mb
    ·exact .inr (.inl ⟨hxb,rfl⟩)
    ·exact .inl ⟨hxb,rfl⟩
   ·have hxb : (x == 0) = false := by simp; omega
    exact .inr (.inr ⟨hxb,hleaf.resolve_left e0⟩)
  have hjq : fin[j]? = some q := by rw [Hhfe.out,Hhj.out,HTe.out]; simp
  obtain ⟨hjl,hjq⟩ := List.getElem?_eq_some_iff.mp hjq
  obtain ⟨fb,foff,fcap,he,hfb,hfr⟩ := hash_at Hhf.out hjl
  rw [hjq] at hfr
  simp only [Value.slice.injEq] at he
  obtain ⟨rfl,_,rfl⟩ := he
  have HFR := hid hfr
  have HFo := hid hfo
  have hj1 : (j : Int) < fin.length := by omega
  have Hjl := hid hjl
  have hfl1 : (fin.length : Int) ≤ 100000 := by have := Hhfl.out; omega
  clear hfb
  have hgl := HB3.out.lt
  have c2 : w3.cell? ⟨g,2,none⟩ = some (.slice (some ⟨fb,foff,none⟩) fin.length cf) := HB3.out.cell_at rfl
  have c4 : w3.cell? ⟨g,4,none⟩ = some (.int .i64 j) := HB3.out.cell_at rfl
  have f4 := HB3.out.free 4
  clear hleaf HTl HTn hfr hjq hfo hjl
  rcases hcase with ⟨hxb,rfl⟩ | ⟨hxb,rfl⟩ | ⟨hxb,rfl⟩
  all_goals
   go_upto_region 7 with fail
   go_quiet (fail)
   rename Nat => nqc
   go_upto_region 11 with fail
   obtain ⟨j1,hj1e⟩ : ∃ j1 : Nat,j1 = j + 1 := ⟨_,rfl⟩
   have e2 : (j : Int) + 1 = (j1 : Int) := by omega
   rw [e2]
   have hf4 : Fr [g] w3 ((w3.drewN nqc).setCell ⟨g,4,none⟩ (.int .i64 j1)) := ((Fr.refl _ _).drewN _).setCell _ _ (by simp)
   have hT4 : FrT 90 w3 ((w3.drewN nqc).setCell ⟨g,4,none⟩ (.int .i64 j1)) := hf4.frT (fun k hk _ => by simp at hk; subst hk; exact ⟨_,_,HB3.out⟩)
   have HK4 : Hid (Keeps g w ((w3.drewN nqc).setCell ⟨g,4,none⟩ (.int .i64 j1))) := HK3.out.trans (Keeps.of hf4)
   have HF4 : Hid (Fr [g] w0 ((w3.drewN nqc).setCell ⟨g,4,none⟩ (.int .i64 j1))) := HF3.out.trans hf4
   have HB4 : Hid (Blk ((w3.drewN nqc).setCell ⟨g,4,none⟩ (.int .i64 j1)) g 90 (rdr hs.length (.slice (some ⟨bb,boff,none⟩) bits.length cb) (.slice (some ⟨fb,foff,none⟩) fin.length cf) i1 j1 (.slice am mn.length cm))) := (HB3.out.drewN _).set 4 (.int .i64 j1)
   have HG4 : Hid (Grows w0.heap.size 3 1 (IntE .i64) ((w3.drewN nqc).setCell ⟨g,4,none⟩ (.int .i64 j1)) (.slice am mn.length cm) mn) := HG3.out.frT hT4 (by decide) (fun _ _ h => h)
   have HR4 : Hid (Blk ((w3.drewN nqc).setCell ⟨g,4,none⟩ (.int .i64 j1)) R 22 (ic .u8 z)) := HR3.out.fr hf4 (by simpa using HRw.out.2.1)
   generalize World.setCell (World.drewN w3 _) _ _ = w4 at HK4 HF4 HB4 HG4 HR4 ⊢
   have Hj1 := hid hj1e
   clear hf4 hT4 HB3 HG3 HR3 HF3 hgl c2 c4 f4 hj1e e2
  have HM : Hid (mn.length + 1 ≤ 100000) := by have := Hhmn.out; have := Nat.two_pow_pos h; show _ ≤ _; omega
  have HB4' := HB4.out
  have c5 : w4.cell? ⟨g,5,none⟩ = some (.slice am mn.length cm) := HB4.out.cell_at rfl
  have HC5 := hid c5; clear c5 HB4'
  go_upto_region 12 with fail
  refine wp_region_lit ?_
  refine wpList_run (v := .pointer (some ⟨g,0,none⟩)) rfl rfl ?_
  simp only [Act.put,nA,nB,nC]
  refine wpList_run (v := .pointer (some ⟨g,0,none⟩)) rfl rfl ?_
  simp only [Act.put,nA,nB,nC]
  refine wpList_run (v := .pointer (some ⟨g,0,none⟩)) rfl rfl ?_
  simp only [Act.put,nA,nB,nC]
  refine wpList_run (v := .pointer (some ⟨g,5,none⟩)) rfl rfl ?_
  simp only [Act.put,nA,nB,nC]
  refine wpList_load1 rfl 46 (.tmp 86) rfl g 5 rfl (.slice am mn.length cm) _ (HC5.out) rfl rfl ?_
  simp only [Act.put,nA,nB,nC]
  refine wpList_run (v := .int .i64 y) rfl rfl ?_
  simp only [Act.put,nA,nB,nC]
  refine wpList_bs1 rfl 46 (.tmp 88) rfl 3 1 8 elem46 (by decide) (.int .i64 y) [.int .i64 y] rfl rfl rfl ?_
  simp only [Act.put,nA,nB,nC]
  refine wpList_pushS rfl (.tmp 87) (.tmp 89) 46 rfl 3 1 8 elem46 [g] w0 w4 (IntE .i64) (.slice am mn.length cm) mn rfl #[.int .i64 y] rfl rfl HG4.out HF4.out rfl (by intro u hu; rw [List.mem_singleton] at hu; subst hu; rfl) (fun _ _ _ _ _ _ h => h) y rfl (by have := HM.out; omega) ?_
  intro v5 w5 HG5 HF5 HT5 _
  obtain ⟨a5,k5,rfl⟩ := HG5.out.slice
  rw [show (mn ++ [y]).length = mn.length + 1 by simp] at HG5 ⊢
  simp only [Act.put,nA,nB,nC]
  have HB5 : Hid (Blk w5 g 90 _) := HB4.out.frT HT5.out (by decide)
  have HR5 : Hid (Blk w5 R 22 _) := HR4.out.frT HT5.out (by decide)
  have f5 := HB5.out.free 5
  have hgl := HB5.out.lt
  have c5 : w5.cell? ⟨g,5,none⟩ = some (.slice am mn.length cm) := HB5.out.cell_at rfl
  clear HC5 HB4 HG4 HR4
  go_upto_region 13 with fail
  have hf6 : Fr [g] w5 (w5.setCell ⟨g,5,none⟩ (.slice a5 (mn.length + 1) k5)) := (Fr.refl _ _).setCell _ _ (by simp)
  have hT6 : FrT 90 w5 (w5.setCell ⟨g,5,none⟩ (.slice a5 (mn.length + 1) k5)) := hf6.frT (fun k hk _ => by simp at hk; subst hk; exact ⟨_,_,HB5.out⟩)
  have HK6 : Hid (Keeps g w (w5.setCell ⟨g,5,none⟩ (.slice a5 (mn.length + 1) k5))) := (HK4.out.trans (Keeps.ofT HT5.out (by decide))).trans (Keeps.of hf6)
  have HF6 : Hid (Fr [g] w0 (w5.setCell ⟨g,5,none⟩ (.slice a5 (mn.length + 1) k5))) := HF5.out.trans hf6
  have HB6 : Hid (Blk (w5.setCell ⟨g,5,none⟩ (.slice a5 (mn.length + 1) k5)) g 90 (rdr hs.length (.slice (some ⟨bb,boff,none⟩) bits.length cb) (.slice (some ⟨fb,foff,none⟩) fin.length cf) i1 j1 (.slice a5 (mn.length + 1) k5))) := HB5.out.set 5 _
  have HG6 : Hid (Grows w0.heap.size 3 1 (IntE .i64) (w5.setCell ⟨g,5,none⟩ (.slice a5 (mn.length + 1) k5)) (.slice a5 (mn.length + 1) k5) (mn ++ found m hs.length h p)) := by
   have := HG5.out.frT hT6 (by decide) (fun _ _ h => h) (E' := IntE .i64)
   rw [HFo.out,if_pos rfl,← Hhy.out]
   exact this
  have HR6 : Hid (Blk (w5.setCell ⟨g,5,none⟩ (.slice a5 (mn.length + 1) k5)) R 22 (ic .u8 z)) := HR5.out.fr hf6 (by simpa using HRw.out.2.1)
  generalize World.setCell w5 _ _ = w6 at HK6 HF6 HB6 HG6 HR6 ⊢
  generalize Value.slice a5 (mn.length + 1) k5 = v6 at HB6 HG6 ⊢
  clear hf6 hT6 HB5 HG5 HF5 HR5 HT5 c5 f5 hgl
  rotate_left
  go_upto_region 13 with fail
  have HF6 := HF4
  have HK6 := HK4
  have HB6 := HB4
  have HR6 := HR4
  have HG6 : Hid (Grows w0.heap.size 3 1 (IntE .i64) w4 (.slice am mn.length cm) (mn ++ found m hs.length h p)) := by rw [HFo.out,if_neg (by decide),List.append_nil]; exact HG4.out
  generalize w4 = w6 at HK6 HF6 HB6 HG6 HR6 ⊢
  generalize Value.slice am mn.length cm = v6 at HB6 HG6 ⊢
  rotate_left
  go_upto_region 13 with fail
  have HF6 := HF4
  have HK6 := HK4
  have HB6 := HB4
  have HR6 := HR4
  have HG6 : Hid (Grows w0.heap.size 3 1 (IntE .i64) w4 (.slice am mn.length cm) (mn ++ found m hs.length h p)) := by rw [HFo.out,if_neg (by decide),List.append_nil]; exact HG4.out
  generalize w4 = w6 at HK6 HF6 HB6 HG6 HR6 ⊢
  generalize Value.slice am mn.length cm = v6 at HB6 HG6 ⊢
  rotate_left
  all_goals
   refine qtail 12 (by kernel_rfl) (by kernel_rfl) ?_
   simp only [List.take_succ_cons,List.take_zero,List.drop_succ_cons,List.drop_zero]
   refine wpQuiet_rfl (.pointer (some ⟨g,0,none⟩)) rfl (fun _ => rfl) ?_
   simp only [Act.put,nA,nB,nC]
   refine wpQuiet_rfl (.pointer (some ⟨g,0,none⟩)) rfl (fun _ => rfl) ?_
   simp only [Act.put,nA,nB,nC]
   refine wpQuiet_rfl (.pointer (some ⟨g,0,none⟩)) rfl (fun _ => rfl) ?_
   simp only [Act.put,nA,nB,nC]
   refine wpQuiet_rfl (.pointer (some ⟨g,2,none⟩)) rfl (fun _ => rfl) ?_
   simp only [Act.put,nA,nB,nC]
   refine wpQuiet_load1 rfl 42 (.tmp 96) rfl g 2 rfl (.slice (some ⟨fb,foff,none⟩) fin.length cf) _ (fun w' hf => by subst hf; exact HB6.out.cell_at rfl) rfl rfl ?_
   simp only [Act.put,nA,nB,nC]
   refine wpQuiet_rfl (.pointer (some ⟨g,0,none⟩)) rfl (fun _ => rfl) ?_
   simp only [Act.put,nA,nB,nC]
   refine wpQuiet_rfl (.pointer (some ⟨g,0,none⟩)) rfl (fun _ => rfl) ?_
   simp only [Act.put,nA,nB,nC]
   refine wpQuiet_rfl (.pointer (some ⟨g,4,none⟩)) rfl (fun _ => rfl) ?_
   simp only [Act.put,nA,nB,nC]
   refine wpQuiet_load1 rfl 3 (.tmp 100) rfl g 4 rfl (.int .i64 j1) _ (fun w' hf => by subst hf; exact HB6.out.cell_at rfl) rfl rfl ?_
   simp only [Act.put,nA,nB,nC]
   refine wpQuiet_run rfl (.int .i64 (j : Int)) (fun w => by rw [run_sub .i64 3 3 (.tmp 101) _ rfl j1 1 rfl rfl,IntWalk.i64_in _ (by have := Hj1.out; omega)]; congr 3; have := Hj1.out; omega) ?_
   simp only [Act.put,nA,nB,nC]
   refine wpQuiet_index rfl 42 (.tmp 97) (.tmp 102) rfl fb foff fin.length cf j 32 .i64 22 rfl rfl Hjl.out (by kernel_rfl) (by kernel_rfl) ?_
   simp only [Act.put,nA,nB,nC]
   refine wpQuiet_load rfl 22 (.tmp 103) rfl fb (foff + j * 32) rfl (ic .u8 q) _ (fun w' hf => by subst hf; exact HFR.out _ (HF6.out.drew.to_below hB0 (by intro k hk; simp at hk; subst hk; exact hBg))) rfl rfl (by rw [ic_length,Hql.out]; kernel_rfl) ?_
   simp only [Act.put,nA,nB,nC]
   refine wpQuiet_nil ?_
   refine wpList_storeB rfl 22 (.tmp 8) (.tmp 104) rfl rfl R _ (ic .u8 q) HR6.out.drew rfl rfl (by rw [ic_length,ic_length,Hql.out,HZl.out]) (by rw [ic_length,Hql.out]; kernel_rfl) (ic_one _ _) ?_
   intro w7 hf hb
   refine wpList_nil ?_
   refine (‹∀ (a : Act) (w : World),Code.wp Tryz.prog Code.ret _ a w → _›) _ _ ?_
   refine wp_ret ?_
   simp only [Exit.then]
   refine ret_arr rfl rfl (.array 32 5) hb rfl rfl (by rw [Hql.out]; kernel_rfl) rfl ?_
   rw [← HQ.out]
   refine ⟨rfl,(HK6.out.trans (Keeps.of (Fr.refl _ _).drew)).put hf HRw.out.2.2, ?_⟩
   rw [HTe.out,List.length_singleton,List.length_singleton,← Hi1.out,← Hj1.out]
   exact RdS.put ⟨HF6.out.drew,v6,HB6.out.drew,HG6.out.fr (Fr.refl _ _).drew (fun _ _ h => h)⟩ HR6.out.drew hf HRw.out.1 HRw.out.2.1
 ·obtain ⟨h',rfl⟩ : ∃ h',h = h' + 1 := ⟨h - 1,by omega⟩
  have hmt : mb = true := by cases mb; { simp at hleaf }; rfl
  subst hmt
  have HT := hid (HTn.out h' rfl rfl)
  have hxb : (x == 0) = false := by have := Hhx.out; simp; omega
  have hx1 : 1 ≤ x := by have := Hhx.out; omega
  obtain ⟨b,hbq⟩ : ∃ b : List Int × List (List Int),b = trav K hs m h' (2 * p) := ⟨_,rfl⟩
  have HS3 : Hid (RdS hs.length g (.slice (some ⟨bb,boff,none⟩) bits.length cb) (.slice af fin.length cf) w0 i1 j mn w3) := ⟨HF3.out,_,HB3.out,HG3.out⟩
  have Hwl := hid (wid_step Hhp.out)
  have Hlq : Hid ((node K hs h' (2 * p)).length = 32) := node_len hl _ _ Hwl.out
  have hxh : x - 1 = (h' : Int) := by have := Hhx.out; omega
  have Hxh := hid hxh
  have Hpw : Hid (2 ^ (h' + 1) = 2 * 2 ^ h') := by show _ = _; rw [Nat.pow_succ]; omega
  have hr1 : ∃ r1 : List Int × List (List Int),r1 = (if 2 * p + 1 < wid hs.length h' then trav K hs m h' (2 * p + 1) else ([],[])) := ⟨_,rfl⟩
  obtain ⟨r1,hr1⟩ := hr1
  have ht1 : (trav K hs m (h' + 1) p).1 = [1] ++ ((trav K hs m h' (2 * p)).1 ++ r1.1) := by rw [HT.out,hr1]; split <;> rfl
  have ht2 : (trav K hs m (h' + 1) p).2 = (trav K hs m h' (2 * p)).2 ++ r1.2 := by rw [HT.out,hr1]; split <;> rfl
  have Hr1 := hid hr1
  have Ht1 := hid ht1
  have Ht2 := hid ht2
  have HbL : Hid (bits = (b1 ++ [1]) ++ (trav K hs m h' (2 * p)).1 ++ (r1.1 ++ b2)) := by show _ = _; rw [Hhbe.out,ht1]; simp
  have HfL : Hid (fin = f1 ++ (trav K hs m h' (2 * p)).2 ++ (r1.2 ++ f2)) := by show _ = _; rw [Hhfe.out,ht2]; simp
  have HiL : Hid (i1 = (b1 ++ [1]).length) := by show _ = _; rw [Hi1.out,Hhi.out]; simp
  have Hml := hid (found_len m hs.length h' (2 * p))
  have HMB' : Hid (meantB m (h' + 1) p = true) := HMB.out.symm
  clear hleaf HTl HTn hxh hr1 ht1 ht2 HB3 HG3 hbq
  go_upto_region 14 with fail
  go_wp2_with fail
  refine (Hih.out h' rfl (2 * p) Hwl.out w3 i1 j mn _ _ _ _ HS3.out HbL.out HiL.out HfL.out Hhj.out (by have := Hhmn.out; have := Hpw.out; omega) _ _ Hxh.out (by have := Hhy.out; omega)).mono ?_
  rintro e w4 ⟨rfl,hk4,hS4⟩
  have HS4 := hid hS4
  have HK4 := hid (HK3.out.trans hk4)
  have HR4 := hid (hk4.blk _ _ HRw.out.2.1 HR3.out)
  clear hS4 hk4
  obtain ⟨q2,hq2⟩ : ∃ q2,q2 = node K hs h' (2 * p) := ⟨_,rfl⟩
  rw [← hq2] at Hlq ⊢
  have Hq2 := hid hq2; clear hq2
  simp only []
  refine (‹∀ (a : Act) (w : World),wpList Tryz.prog _ _ _ a w → _›) _ _ ?_
  refine wpList_new rfl rfl 22 (.tmp 111) 10 rfl rfl rfl rfl (by simp [Act.put]) (ic .u8 q2) (ic .u8 (List.replicate 32 0)) (fun _ => rfl) (by rw [ic_length,Hlq.out]; kernel_rfl) (fun _ => rfl) (by rw [ic_length,ic_length,Hlq.out]; simp) (ic_one _ _) ?_
  simp only [Act.put,nA,nB,nC]
  have hf5 : Fr [] w4 (w4.alloc (.cells (ic .u8 q2).toArray 22)) := (Fr.refl _ _).alloc _
  have HL5 : Hid (Blk (w4.alloc (.cells (ic .u8 q2).toArray 22)) w4.heap.size 22 (ic .u8 q2)) := Blk.new _ _ _
  have HRL : Hid (R ≠ w4.heap.size ∧ w4.heap.size ≠ g) := by have := HR4.out.lt; have := HS4.out.fr.size; show _ ∧ _; omega
  have HR5 := hid (HR4.out.fr hf5 (by simp))
  have HS5 := hid (HS4.out.grow hf5)
  have HK5 := hid (HK4.out.trans (Keeps.of (hf5.mono (by simp))))
  generalize World.alloc w4 _ = w5 at hf5 HL5 HR5 HS5 HK5 ⊢
  obtain ⟨L,hL⟩ : ∃ L,L = w4.heap.size := ⟨_,rfl⟩
  rw [← hL] at HL5 HRL ⊢
  clear hL HS4 HR4 HK4 hf5
  generalize arr q2 = V111
  refine wpList_nil ?_
  simp only [Exit.then]
  have c0 : w5.cell? ⟨g,0,none⟩ = some (.int .i64 hs.length) := by obtain ⟨_,h1,_⟩ := HS5.out.blk; exact h1.cell_at rfl
  have hgl : g < w5.heap.size := by obtain ⟨_,h1,_⟩ := HS5.out.blk; exact h1.lt
  go_wp2_with fail
  refine (widthAt_c w5 hs.length h' hn (by have := Hhh.out; omega) _ _ rfl Hxh.out).mono ?_
  rintro e w' ⟨rfl,rfl⟩
  clear c0 hgl
  by_cases hr : 2 * p + 1 < wid hs.length h'
  ·have hri : 2 * y + 1 < (wid hs.length h' : Int) := by have := Hhy.out; omega
   have Hrl : Hid ((node K hs h' (2 * p + 1)).length = 32) := node_len hl _ _ hr
   have Hre : Hid (r1 = trav K hs m h' (2 * p + 1)) := by show _ = _; rw [Hr1.out,if_pos hr]
   have Hr := hid hr
   clear hr
   go_upto_region 17 with fail
   refine seg_begin (fun w' => KeepsB g R w5 w') (by kernel_rfl) ?_
   refine seg_quiet (fuel := 3) (by kernel_rfl) (fun d _ _ _ _ h => by cases d <;> exact h) ((KeepsB.of (Keeps.of (Fr.refl _ _).drew))) [0,1,2,3,4,5,6,7,8] _ _ (by kernel_rfl) ?_
   simp only [pickL,nthO]
   refine wpQuiet_rfl (HFn) rfl (fun _ => rfl) ?_
   simp only [Act.put,nA,nB,nC]
   refine wpQuiet_load rfl 22 (.tmp 10) rfl L 0 rfl (ic .u8 q2) _ (fun w' hf => (hf.blk _ _ HRL.out.2 (Ne.symm HRL.out.1) HL5.out).range) rfl rfl (by rw [ic_length,Hlq.out]; kernel_rfl) ?_
   simp only [Act.put,nA,nB,nC]
   refine wpQuiet_rfl (.pointer (some ⟨g,0,none⟩)) rfl (fun _ => rfl) ?_
   simp only [Act.put,nA,nB,nC]
   refine wpQuiet_rfl (HFn) rfl (fun _ => rfl) ?_
   simp only [Act.put,nA,nB,nC]
   refine wpQuiet_rfl (.int .i64 x) rfl (fun _ => rfl) ?_
   simp only [Act.put,nA,nB,nC]
   refine wpQuiet_run rfl (.int .i64 (h' : Int)) (fun w => by rw [run_sub .i64 3 3 (.tmp 132) _ rfl x 1 rfl rfl,IntWalk.i64_in _ (by omega)]; congr 3) ?_
   simp only [Act.put,nA,nB,nC]
   refine wpQuiet_rfl (.int .i64 y) rfl (fun _ => rfl) ?_
   simp only [Act.put,nA,nB,nC]
   refine wpQuiet_run rfl (.int .i64 (2 * y)) (fun w => by rw [run_mul .i64 3 3 _ (.tmp 134) rfl 2 y rfl rfl,IntWalk.i64_in _ (by omega)]) ?_
   simp only [Act.put,nA,nB,nC]
   refine wpQuiet_run rfl (.int .i64 (2 * y + 1)) (fun w => by rw [run_add .i64 3 3 (.tmp 135) _ rfl (2 * y) 1 rfl rfl,IntWalk.i64_in _ (by omega)]) ?_
   simp only [Act.put,nA,nB,nC]
   refine wpQuiet_nil ?_
   refine seg_act 9 rfl rfl (by kernel_rfl) ?_
   go_wp2_with fail
   refine (Hih.out h' rfl (2 * p + 1) Hr.out w5.drew _ _ _ (b1 ++ [1] ++ (trav K hs m h' (2 * p)).1) b2 (f1 ++ (trav K hs m h' (2 * p)).2) f2 (HS5.out.grow (Fr.refl _ _).drew) (by rw [HbL.out,Hre.out]; simp) (by rw [HiL.out]; simp; omega) (by rw [HfL.out,Hre.out]; simp) (by rw [Hhj.out]; simp) (by have := Hhmn.out; have := Hpw.out; have := Hml.out; rw [List.length_append]; omega) _ _ rfl (by have := Hhy.out; omega)).mono ?_
   rintro e w6 ⟨rfl,hk6,hS6⟩
   have HS6 := hid hS6
   have HK6 := hid ((Keeps.of (Fr.refl _ _).drew).trans hk6)
   clear hS6 hk6
   go_wp2_with fail
   refine ⟨KeepsB.of HK6.out,fun _ => ?_⟩
   refine seg_act 10 rfl rfl (by kernel_rfl) ?_
   go_wp2_with fail
   refine (sBranch_c K hK w6 (HhKg.out _ HS6.out.fr) q2 (node K hs h' (2 * p + 1)) Hlq.out Hrl.out).mono ?_
   rintro e w7 ⟨rfl,hf⟩
   have HK7 := hid (HK6.out.trans (Keeps.of (hf.mono (by simp))))
   have HS7 := hid (HS6.out.grow hf)
   clear hf
   have HN : Hid (H2 K (q2 ++ node K hs h' (2 * p + 1)) = q) := by show _ = _; rw [HQ.out,node,if_pos Hr.out,Hq2.out]
   rw [HN.out]
   have HR7 := hid (HK7.out.blk _ _ HRw.out.2.1 HR5.out)
   go_wp2_with fail
   refine ⟨KeepsB.of HK7.out,fun _ => ?_⟩
   refine seg_act 11 (o := ⟨none,_,_,_,_,_⟩) rfl rfl (by kernel_rfl) ?_
   refine wpList_storeB rfl 22 (.tmp 8) (.tmp 138) rfl rfl R _ (ic .u8 q) HR7.out rfl rfl (by rw [ic_length,ic_length,Hql.out,HZl.out]) (by rw [ic_length,Hql.out]; kernel_rfl) (ic_one _ _) ?_
   intro w8 hf hb
   have HKB : Hid (KeepsB g R w5 w8) := (KeepsB.of HK7.out).put hf
   have HKF : Hid (Keeps g w w8) := (HK5.out.trans HK7.out).put hf HRw.out.2.2
   have HSF := hid (RdS.put HS7.out HR7.out hf HRw.out.1 HRw.out.2.1)
   have HK8 : Hid (w5.heap.size ≤ w8.heap.size ∧ Blk w8 R 22 (ic .u8 q)) := ⟨Nat.le_trans HK7.out.size hf.size,hb⟩
   clear hf hb
   refine wpList_nil ?_
   refine ⟨HKB.out,fun _ => ?_⟩
   refine seg_end (by kernel_rfl) ?_
   refine (‹∀ (a : Act) (w : World),Code.wp Tryz.prog Code.ret _ a w → _›) _ _ ?_
   refine wp_ret ?_
   refine ret_arr rfl rfl (.array 32 5) HK8.out.2 rfl rfl (by rw [Hql.out]; kernel_rfl) rfl ?_
   rw [← HQ.out]
   refine ⟨rfl,HKF.out, ?_⟩
   have := HSF.out
   rw [Ht1.out,Ht2.out,found,if_pos HMB'.out,if_pos Hr.out,Hre.out]
   have e1 : i + ([1] ++ ((trav K hs m h' (2 * p)).1 ++ (trav K hs m h' (2 * p + 1)).1)).length = i1 + (trav K hs m h' (2 * p)).1.length + (trav K hs m h' (2 * p + 1)).1.length := by rw [Hi1.out]; simp; omega
   have e2 : j + ((trav K hs m h' (2 * p)).2 ++ (trav K hs m h' (2 * p + 1)).2).length = j + (trav K hs m h' (2 * p)).2.length + (trav K hs m h' (2 * p + 1)).2.length := by simp; omega
   rw [e1,e2,← List.append_assoc]
   exact this
  ·have hri : ¬ (2 * y + 1 < (wid hs.length h' : Int)) := by have := Hhy.out; omega
   have HN : Hid (H2 K (q2 ++ q2) = q) := by show _ = _; rw [HQ.out,node,if_neg hr,Hq2.out]
   have Hre : Hid (r1 = ([],[])) := by show _ = _; rw [Hr1.out,if_neg hr]
   have Hr := hid hr
   clear hr
   go_upto_region 16 with fail
   refine wp_region_lit ?_
   refine wpList_run (v := HFn) rfl rfl ?_
   simp only [Act.put,nA,nB,nC]
   refine wpList_load_mid rfl 22 (.tmp 10) rfl L 0 rfl (ic .u8 q2) _ (HL5.out.range) rfl rfl (by rw [ic_length,Hlq.out]; kernel_rfl) ?_
   simp only [Act.put,nA,nB,nC]
   refine wpList_load_mid rfl 22 (.tmp 10) rfl L 0 rfl (ic .u8 q2) _ (HL5.out.range) rfl rfl (by rw [ic_length,Hlq.out]; kernel_rfl) ?_
   simp only [Act.put,nA,nB,nC]
   go_wp2_with fail
   refine (sBranch_c K hK w5 (HhKg.out _ HS5.out.fr) q2 q2 Hlq.out Hlq.out).mono ?_
   rintro e w7 ⟨rfl,hf⟩
   rw [HN.out]
   have HR7 := hid (HR5.out.fr hf (by simp))
   have HS7 := hid (HS5.out.grow hf)
   have HK7 := hid (HK5.out.trans (Keeps.of (hf.mono (by simp))))
   clear hf
   simp only []
   refine (‹∀ (a : Act) (w : World),wpList Tryz.prog _ _ _ a w → _›) _ _ ?_
   refine wpList_storeB rfl 22 (.tmp 8) (.tmp 127) rfl rfl R _ (ic .u8 q) HR7.out rfl rfl (by rw [ic_length,ic_length,Hql.out,HZl.out]) (by rw [ic_length,Hql.out]; kernel_rfl) (ic_one _ _) ?_
   intro w8 hf hb
   refine wpList_nil ?_
   refine (‹∀ (a : Act) (w : World),Code.wp Tryz.prog Code.ret _ a w → _›) _ _ ?_
   refine wp_ret ?_
   simp only [Exit.then]
   refine ret_arr rfl rfl (.array 32 5) hb rfl rfl (by rw [Hql.out]; kernel_rfl) rfl ?_
   rw [← HQ.out]
   refine ⟨rfl,HK7.out.put hf HRw.out.2.2, ?_⟩
   have := RdS.put HS7.out HR7.out hf HRw.out.1 HRw.out.2.1
   rw [Ht1.out,Ht2.out,found,if_pos HMB'.out,if_neg Hr.out,Hre.out]
   have e1 : i + ([1] ++ ((trav K hs m h' (2 * p)).1 ++ [])).length = i1 + (trav K hs m h' (2 * p)).1.length := by rw [Hi1.out]; simp; omega
   rw [e1]
   simpa using this
theorem rd_c (K : List Int) (hK : K.length = 64) (g : Nat) (hs : List (List Int)) (hl : ∀ l ∈ hs,l.length = 32) (hn : hs.length ≤ 64) (m bits : List Int) (fin : List (List Int)) (hbl : bits.length ≤ 100000) (hfl : fin.length ≤ 100000) (B : Nat) (bv hv : Value) (w0 : World) (hg0 : g < w0.heap.size) (hB0 : B ≤ w0.heap.size) (hBg : B ≤ g)
  (hb : BoolB B w0 bv bits) (hf : ListB B 32 HashE w0 hv fin) (hKg : ∀ w,Fr [g] w0 w → Blk w 1 379 (ic .u32 K)) (h : Nat) (hh : h ≤ 6) : RdC K g hs m bits fin bv hv w0 h := by
 induction h with
 | zero => exact rd_step K hK g hs hl hn m bits fin hbl hfl B bv hv w0 hg0 hB0 hBg hb hf hKg 0 hh (by omega)
 | succ h ih => exact rd_step K hK g hs hl hn m bits fin hbl hfl B bv hv w0 hg0 hB0 hBg hb hf hKg (h + 1) hh (fun h' e => by cases e; exact ih (by omega))
end
end Go.Proofs.YtdllckiidegpcaaGreat
