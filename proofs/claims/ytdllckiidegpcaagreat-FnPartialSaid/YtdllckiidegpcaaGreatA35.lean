/- A part of the walk of laws.FnPartial (part 35): contracts of functions that it comes to, and the plain laws that these lean on. Conditions stand in each contract. -/
import Derived.Test.YtdllckiidegpcaaGreatA34
set_option linter.unusedSimpArgs false
set_option linter.unusedVariables false
set_option maxHeartbeats 4000000
namespace Go.Proofs.YtdllckiidegpcaaGreat
open Go.RowKit
section
set_option maxRecDepth 8000
def HpE (w : World) (c : List Value) (l : List Int) : Prop := ∃ P,c = [.pointer (some ⟨P,0,none⟩)] ∧ Blk w P 81 (ic .u8 l)
def BitE (_ : World) (c : List Value) (b : Int) : Prop := c = [.int .u8 b]
theorem HpE.frT {w w' : World} {T : TypeId} {c : List Value} {l : List Int} (h : HpE w c l) (hf : FrT T w w') (hT : 81 ≠ T) : HpE w' c l := by obtain ⟨P,h1,h2⟩ := h; exact ⟨P,h1,h2.frT hf hT⟩
theorem HpE.fr {w w' : World} {c : List Value} {l : List Int} (h : HpE w c l) (hf : Fr [] w w') : HpE w' c l := by obtain ⟨P,h1,h2⟩ := h; exact ⟨P,h1,h2.fr hf (by simp)⟩
theorem hsAt_of {w : World} {v : Value} {hs : List (List Int)} {B : Nat} (hB : B ≤ w.heap.size) (h : ListT B 111 1 HpE w v hs) (hl : ∀ l ∈ hs,l.length = 32) (h1 : 1 ≤ hs.length) : HsAt w v hs := by
 obtain ⟨b,off,cap,u,rfl,hb,_,_⟩ := h.at' (i := 0) h1
 refine ⟨b,off,cap,rfl,Nat.lt_of_lt_of_le hb hB,fun i hi => ?_⟩
 obtain ⟨b',off',cap',u',he,_,hc,P,hu,hP⟩ := h.at' hi
 simp only [Value.slice.injEq,Option.some.injEq,Addr.mk.injEq] at he
 obtain ⟨⟨rfl,rfl,_⟩,_,_⟩ := he
 simp only [List.cons.injEq,and_true] at hu
 subst hu
 exact ⟨P,hc w (Below.refl _ _),hP,hl _ (List.getElem_mem hi)⟩
/-- Whether a leaf below the node at a height and a place is meant. -/
def meantB (m : List Int) (h p : Nat) : Bool := (List.range m.length).any fun i => decide (p * 2 ^ h ≤ i ∧ i < (p + 1) * 2 ^ h ∧ nth m i = 1)
/-- The flags and the hashes that the tree below that node is told by. -/
def trav (K : List Int) (hs : List (List Int)) (m : List Int) : Nat → Nat → List Int × List (List Int)
 | 0,p => ([if meantB m 0 p then 1 else 0],[node K hs 0 p])
 | h + 1,p => if meantB m (h + 1) p then
   (1 :: ((trav K hs m h (2 * p)).1 ++ if 2 * p + 1 < wid hs.length h then (trav K hs m h (2 * p + 1)).1 else []),
    (trav K hs m h (2 * p)).2 ++ if 2 * p + 1 < wid hs.length h then (trav K hs m h (2 * p + 1)).2 else [])
  else ([0],[node K hs (h + 1) p])
structure TrvS (n g : Nat) (ah mb : Value) (w0 : World) (bits : List Int) (fin : List (List Int)) (w : World) : Prop where
 fr : Fr [g] w0 w
 blk : ∃ fh bv,Blk w g 108 [.int .u32 n,ah,fh,mb,bv] ∧ Grows w0.heap.size 5 1 BitE w bv bits ∧ Grows w0.heap.size 111 1 HpE w fh fin
theorem TrvS.grow {n g : Nat} {ah mb : Value} {w0 w w' : World} {bits : List Int} {fin : List (List Int)} (h : TrvS n g ah mb w0 bits fin w) (hf : Fr [] w w') : TrvS n g ah mb w0 bits fin w' := by
 obtain ⟨fh,bv,h1,h2,h3⟩ := h.blk
 exact ⟨h.fr.trans (hf.mono (by simp)),fh,bv,h1.fr hf (by simp),h2.fr hf (fun _ _ h => h),h3.fr hf (fun _ _ h => h.fr hf)⟩
end
section
set_option maxRecDepth 8000
def accB (m : List Int) (a i : Nat) : Bool := (List.range i).any fun j => decide (a ≤ j ∧ nth m j = 1)
theorem accB_start (m : List Int) (a : Nat) : accB m a a = false := by
 unfold accB
 rw [List.any_eq_false]
 intro j hj
 have := List.mem_range.mp hj
 simp; omega
theorem accB_succ (m : List Int) (a i : Nat) (h : a ≤ i) : accB m a (i + 1) = (accB m a i || decide (nth m i = 1)) := by
 unfold accB
 rw [List.range_succ,List.any_append]
 simp [h]
theorem accB_end (m : List Int) (h p : Nat) (i : Nat) (h1 : i = m.length ∧ i ≤ (p + 1) * 2 ^ h ∨ i = (p + 1) * 2 ^ h ∧ i ≤ m.length) : accB m (p * 2 ^ h) i = meantB m h p := by
 unfold accB meantB
 rw [Bool.eq_iff_iff,List.any_eq_true,List.any_eq_true]
 constructor
 ·rintro ⟨j,hj,hd⟩
  have := List.mem_range.mp hj
  simp only [decide_eq_true_eq] at hd
  exact ⟨j,List.mem_range.mpr (by omega),by simp only [decide_eq_true_eq]; exact ⟨hd.1,by omega,hd.2⟩⟩
 ·rintro ⟨j,hj,hd⟩
  have := List.mem_range.mp hj
  simp only [decide_eq_true_eq] at hd
  exact ⟨j,List.mem_range.mpr (by omega),by simp only [decide_eq_true_eq]; exact ⟨hd.1,hd.2.2⟩⟩
theorem wid_lt {n h p : Nat} (hn : n ≤ 64) (hh : h ≤ 7) (hp : p < wid n h) : p * 2 ^ h < n ∧ (p + 1) * 2 ^ h ≤ 320 := by
 unfold wid at hp
 have h1 : 0 < 2 ^ h := Nat.pos_of_ne_zero (by simp)
 have h2 : 2 ^ h ≤ 2 ^ 7 := Nat.pow_le_pow_right (by omega) hh
 rw [Nat.lt_div_iff_mul_lt h1] at hp
 rw [Nat.succ_mul]
 omega
theorem trav_len (K : List Int) (hs : List (List Int)) (m : List Int) : ∀ (h p : Nat),(trav K hs m h p).1.length + 1 ≤ 2 ^ (h + 1) ∧ (trav K hs m h p).2.length + 1 ≤ 2 ^ (h + 1) := by
 intro h
 induction h with
 | zero => intro p; simp [trav]
 | succ h ih =>
  intro p
  have h1 := ih (2 * p)
  have h2 := ih (2 * p + 1)
  have h0 : 2 ^ (h + 1 + 1) = 2 ^ (h + 1) + 2 ^ (h + 1) := by rw [Nat.pow_succ]; omega
  have h3 : 0 < 2 ^ (h + 1) := Nat.pos_of_ne_zero (by simp)
  simp only [trav]
  split
  ·split <;> simp <;> omega
  ·simp; omega
theorem elem106 : Elem Tryz.prog 106 111 1 8 := Elem.mk' (by kernel_rfl) (by kernel_rfl) (by decide) (by decide)
def b2i (b : Bool) : Int := if b then 1 else 0
theorem trav_leaf {K : List Int} {hs : List (List Int)} {m : List Int} {h p : Nat} (hc : h = 0 ∨ meantB m h p = false) : trav K hs m h p = ([b2i (meantB m h p)],[node K hs h p]) := by
 cases h with
 | zero => rfl
 | succ h =>
  have hc' : meantB m (h + 1) p = false := by rcases hc with h | h; cases h; exact h
  rw [trav,if_neg (by rw [hc']; simp),hc']; rfl
/-- The claim about one height. -/
def TrvC (K : List Int) (g : Nat) (hs : List (List Int)) (m : List Int) (ah mb : Value) (w0 : World) (h : Nat) : Prop :=
 ∀ (p : Nat),p < wid hs.length h → ∀ (w : World) (bits : List Int) (fin : List (List Int)),TrvS hs.length g ah mb w0 bits fin w → bits.length + 2 ^ (h + 1) ≤ 100000 → fin.length + 2 ^ (h + 1) ≤ 100000 →
  ∀ (x y : Int),x = h → y = p → Calls Tryz.prog 41 #[.pointer (some ⟨g,0,none⟩),.int .u32 x,.int .u32 y] w fun e w' => e = .returned (.tuple #[]) ∧ TrvS hs.length g ah mb w0 (bits ++ (trav K hs m h p).1) (fin ++ (trav K hs m h p).2) w'
set_option maxHeartbeats 16000000 in
theorem trv_step (K : List Int) (hK : K.length = 64) (g : Nat) (hs : List (List Int)) (hl : ∀ l ∈ hs,l.length = 32) (hn : hs.length ≤ 64) (m : List Int) (hm : m.length = hs.length) (hm1 : ∀ i,nth m i = 0 ∨ nth m i = 1) (ah mb : Value) (w0 : World) (hg0 : g < w0.heap.size)
  (hH : ∀ w,Fr [g] w0 w → HsAt w ah hs) (hmb : ∀ w,Fr [g] w0 w → BytesB w0.heap.size w mb m) (hKg : ∀ w,Fr [g] w0 w → Blk w 1 379 (ic .u32 K)) (h : Nat) (hh : h ≤ 7) (ih : ∀ h',h = h' + 1 → TrvC K g hs m ah mb w0 h') : TrvC K g hs m ah mb w0 h := by
 intro p hp w bits fin hS hb1 hf1 x y hx hy
 have hw := wid_lt hn hh hp
 obtain ⟨a,ha⟩ : ∃ a,a = p * 2 ^ h := ⟨_,rfl⟩
 obtain ⟨b,hb⟩ : ∃ b,b = (p + 1) * 2 ^ h := ⟨_,rfl⟩
 have hab : a ≤ b := by rw [ha,hb]; exact Nat.mul_le_mul_right _ (by omega)
 have hxn : x.toNat = h := by omega
 have e1 : y * 2 ^ x.toNat % 4294967296 = (a : Int) := by
  rw [hxn,hy,ha]; rw [← ha] at hw ⊢
  have : ((p : Int) * 2 ^ h) = (a : Int) := by rw [ha]; push_cast; rfl
  rw [this]; omega
 have e2 : (y + 1) * 2 ^ x.toNat % 4294967296 = (b : Int) := by
  rw [hxn,hy,hb]; rw [← hb] at hw ⊢
  have : (((p : Int) + 1) * 2 ^ h) = (b : Int) := by rw [hb]; push_cast; rfl
  rw [this]; omega
 rw [← ha,← hb] at hw
 have HE : Hid (∀ i,(i = m.length ∧ i ≤ b ∨ i = b ∧ i ≤ m.length) → accB m a i = meantB m h p) := by rw [ha,hb]; exact accB_end m h p
 have HE2 := hid e2
 have HW := hid hw
 have HM1 := hid hm1
 have hpn : p < hs.length := Nat.lt_of_lt_of_le hp wid_le
 have hx7 : x ≤ 7 := by omega
 have hx0 : 0 ≤ x := by omega
 have hy0 : 0 ≤ y := by omega
 have hy64 : y ≤ 64 := by omega
 have hn64 : (hs.length : Int) ≤ 64 := by omega
 have HX := hid hx
 have HY := hid hy
 have Hhh := hid hh
 have Hp := hid hp
 have Hpn := hid hpn
 have Hm := hid hm
 have Hb1 := hid hb1
 have Hf1 := hid hf1
 have HI := hid ih
 have HS := hid hS
 have HH := hid hH
 have HMB := hid hmb
 have HKg := hid hKg
 have Hg0 := hid hg0
 have Hab := hid hab
 have Hxn := hid hxn
 clear hx hy hh hp hpn hb1 hf1 ih hS hH hmb hKg hg0 hab ha hb hw hm1 hm hxn
 go_enter Tryz.func41,Tryz.ntmps41
 go_wp2_with fail
 rw [e1]
 go_loopg [6,7] (b - a) (fun gk v6 v7 wr => ∃ i,gk = b - i ∧ a ≤ i ∧ i ≤ b ∧ i ≤ hs.length ∧ v7 = .int .u32 (i : Int) ∧ v6 = .int .u8 (b2i (accB m a i)) ∧ w = wr)
 case atStart => exact ⟨a,rfl,Nat.le_refl _,Hab.out,Nat.le_of_lt HW.out.1,rfl,by rw [accB_start]; rfl,rfl⟩
 case round =>
  obtain ⟨i,rfl,hai,hib,hin,rfl,rfl,rfl⟩ := hrel
  obtain ⟨fh,bv,hB,hGb,hGf⟩ := HS.out.blk
  have HB := hid hB
  have HGb := hid hGb
  have HGf := hid hGf
  clear hGf
  obtain ⟨av,cv,rfl⟩ := hGb.slice
  obtain ⟨af,cf,rfl⟩ := HGf.out.slice
  clear hGb
  have c4 : w.cell? ⟨g,4,none⟩ = some (.slice av bits.length cv) := hB.cell_at rfl
  have c0 : w.cell? ⟨g,0,none⟩ = some (.int .u32 hs.length) := hB.cell_at rfl
  have c3 : w.cell? ⟨g,3,none⟩ = some mb := hB.cell_at rfl
  have hgl := hB.lt
  clear hB
  rcases (show (i < b ∧ i < hs.length) ∨ (i < b ∧ ¬ i < hs.length) ∨ ¬ i < b by omega) with ⟨hb2,hn2⟩ | ⟨hb2,hn2⟩ | hb2
  ·have hlt : (i : Int) < (y + 1) * 2 ^ x.toNat % 4294967296 := by rw [HE2.out]; omega
   have hni : (i : Int) < hs.length := by omega
   obtain ⟨ma,mc,he,hq1,hq2,hcs⟩ := HMB.out w HS.out.fr
   subst he
   have hil : i < m.length := by rw [Hm.out]; exact hn2
   rcases hcs with ⟨_,_,hcs⟩ | ⟨b2,off2,rfl,hb2',hcs⟩
   ·exfalso; have := congrArg List.length hcs; rw [ic_length,List.length_nil] at this; omega
   have eM := hcs i (by rw [ic_length]; exact hil)
   rw [ic_nth] at eM
   have hmi : (i : Int) < m.length := by omega
   have hm64 : (m.length : Int) ≤ 64 := by rw [Hm.out]; exact hn64
   clear hcs hb2' hq1 hq2
   cases hacc : accB m a i
   ·rcases HM1.out i with hmv | hmv
    ·have HA : Hid (accB m a (i + 1) = false) := by show _ = _; rw [accB_succ m a i hai,hacc,hmv]; rfl
     rw [hmv] at eM
     clear hacc hmv
     simp only [b2i,if_true,if_false,Bool.false_eq_true]
     go_wp2_with fail
     go_roundg (b - (i + 1))
     case measure => omega
     case rel => exact ⟨i + 1,rfl,by omega,by omega,by omega,rfl,by rw [HA.out]; rfl,rfl⟩
    ·have HA : Hid (accB m a (i + 1) = true) := by show _ = _; rw [accB_succ m a i hai,hacc,hmv]; rfl
     rw [hmv] at eM
     clear hacc hmv
     simp only [b2i,if_true,if_false,Bool.false_eq_true]
     go_wp2_with fail
     go_roundg (b - (i + 1))
     case measure => omega
     case rel => exact ⟨i + 1,rfl,by omega,by omega,by omega,rfl,by rw [HA.out]; rfl,rfl⟩
   ·rcases HM1.out i with hmv | hmv
    ·have HA : Hid (accB m a (i + 1) = true) := by show _ = _; rw [accB_succ m a i hai,hacc,hmv]; rfl
     rw [hmv] at eM
     clear hacc hmv
     simp only [b2i,if_true,if_false,Bool.false_eq_true]
     go_wp2_with fail
     go_roundg (b - (i + 1))
     case measure => omega
     case rel => exact ⟨i + 1,rfl,by omega,by omega,by omega,rfl,by rw [HA.out]; rfl,rfl⟩
    ·have HA : Hid (accB m a (i + 1) = true) := by show _ = _; rw [accB_succ m a i hai,hacc,hmv]; rfl
     rw [hmv] at eM
     clear hacc hmv
     simp only [b2i,if_true,if_false,Bool.false_eq_true]
     go_wp2_with fail
     go_roundg (b - (i + 1))
     case measure => omega
     case rel => exact ⟨i + 1,rfl,by omega,by omega,by omega,rfl,by rw [HA.out]; rfl,rfl⟩
  have hlt : (i : Int) < (y + 1) * 2 ^ x.toNat % 4294967296 := by rw [HE2.out]; omega
  have hni : ¬ (i : Int) < hs.length := by omega
  have HA : Hid (accB m a i = meantB m h p) := HE.out i (.inl ⟨by rw [Hm.out]; omega,hib⟩)
  rotate_left
  have hlt : ¬ ((i : Int) < (y + 1) * 2 ^ x.toNat % 4294967296) := by rw [HE2.out]; omega
  have HA : Hid (accB m a i = meantB m h p) := HE.out i (.inr ⟨by omega,by rw [Hm.out]; exact hin⟩)
  all_goals
   rw [HA.out]
   obtain ⟨bb,hbb⟩ : ∃ bb,bb = b2i (meantB m h p) := ⟨_,rfl⟩
   rw [← hbb]
   have Hbb := hid hbb; clear hbb
   have HFN : Hid (Fr [] w (w.alloc (.cells #[.int .u8 bb] 5))) := (Fr.refl _ _).alloc _
   have HBN : Hid (Blk (w.alloc (.cells #[.int .u8 bb] 5)) w.heap.size 5 [.int .u8 bb]) := Blk.new _ _ _
   have HG2 : Hid (Grows w0.heap.size 5 1 BitE (w.alloc (.cells #[.int .u8 bb] 5)) (.slice av bits.length cv) bits) := HGb.out.fr HFN.out (fun _ _ h => h)
   have HYb : Hid (BitE (w.alloc (.cells #[.int .u8 bb] 5)) [.int .u8 bb] bb) := rfl
   have Hby : Hid ((bits.length + 1) * 1 ≤ 140737488355328) := by have := Nat.le_trans (Nat.le_add_right _ _) Hb1.out; show (bits.length + 1) * 1 ≤ _; omega
   have hl3 : Hid (([.int .u8 bb] : List Value).length = 1) := hid rfl
   have h1c : Hid (∀ u ∈ ([.int .u8 bb] : List Value),u.oneCell' = true) := by intro u hu; rw [List.mem_singleton] at hu; subst hu; rfl
   have hEc : Hid (∀ w',FrT 5 (w.alloc (.cells #[.int .u8 bb] 5)) w' → Below w0.heap.size (w.alloc (.cells #[.int .u8 bb] 5)) w' → ∀ c y,BitE (w.alloc (.cells #[.int .u8 bb] 5)) c y → BitE w' c y) := fun w' _ hb c y h => h
   have hbs : Hid (w0.heap.size ≤ (w.alloc (.cells #[.int .u8 bb] 5)).heap.size) := Nat.le_trans HS.out.fr.size HFN.out.size
   go_wp2_with (with_reducible refine wpList_push2 (o := ⟨some 43,_,_,_,_,_⟩) rfl (.tmp 40) (.tmp 42) 29 rfl 5 1 1 elem29 w0.heap.size BitE (.slice av bits.length cv) bits ?_ HG2.out w.heap.size 5 _ HBN.out ?_ hl3.out h1c.out hEc.out bb HYb.out Hby.out hbs.out ?_)
   intro v5 w5 HG5 HFT5 HFo5 HBl5
   have HF5 : Hid (Fr [g] w0 w5) := (HS.out.fr.trans (HFN.out.mono (by simp))).andThen HFo5.out (fun k hk => .inr (HG2.out.own k (own1_mem hk)).1)
   have HB5 : Hid (Blk w5 g 108 [.int .u32 hs.length,ah,.slice af fin.length cf,mb,.slice av bits.length cv]) := (HB.out.fr HFN.out (by simp)).frT HFT5.out (by decide)
   have HGf5 : Hid (Grows w0.heap.size 111 1 HpE w5 (.slice af fin.length cf) fin) := (HGf.out.fr HFN.out (fun _ _ h => h.fr HFN.out)).frT HFT5.out (by decide) (fun _ _ h => h.frT HFT5.out (by decide))
   obtain ⟨av5,cv5,rfl⟩ := HG5.out.slice
   have c4' : w5.cell? ⟨g,4,none⟩ = some (.slice av bits.length cv) := HB5.out.cell_at rfl
   have f4' := HB5.out.free 4
   have hgl5 := HB5.out.lt
   clear HG2 HYb Hby hl3 h1c hEc hbs HBN c0 c3 c4 hgl hlt
   have hx3 : x = 0 ∨ (x ≠ 0 ∧ meantB m h p = false) ∨ (x ≠ 0 ∧ meantB m h p = true) := by
    by_cases h0 : x = 0
    ·exact .inl h0
    ·cases hmt : meantB m h p
     ·exact .inr (.inl ⟨h0,rfl⟩)
     ·exact .inr (.inr ⟨h0,rfl⟩)
   rcases hx3 with hx0' | ⟨hx0',hmt⟩ | ⟨hx0',hmt⟩
   rotate_left 2
   ·have hx0'' : (x == 0) = false := by simp [hx0']
    have hbb0 : bb = 1 := by rw [Hbb.out,hmt]; rfl
    subst hbb0
    have HS6 : Hid (TrvS hs.length g ah mb w0 (bits ++ [1]) fin (w5.setCell ⟨g,4,none⟩ (.slice av5 (bits.length + 1) cv5))) := by
     have hf : Fr [g] w5 (w5.setCell ⟨g,4,none⟩ (.slice av5 (bits.length + 1) cv5)) := (Fr.refl _ _).setCell _ _ (by simp)
     have hT : FrT 108 w5 (w5.setCell ⟨g,4,none⟩ (.slice av5 (bits.length + 1) cv5)) := hf.frT (fun k hk _ => by simp at hk; subst hk; exact ⟨_,_,HB5.out⟩)
     have hl5 := HG5.out.frT hT (by decide) (fun _ _ h => h) (E' := BitE)
     rw [List.length_append] at hl5
     exact ⟨HF5.out.trans hf,_,_,HB5.out.set 4 _,hl5,HGf5.out.frT hT (by decide) (fun _ _ h => h.frT hT (by decide))⟩
    go_wp2_with fail
    generalize World.setCell w5 _ _ = w6 at HS6 ⊢
    clear c4' f4' hgl5 HG5 HF5 HB5 HGf5
    obtain ⟨h',rfl⟩ : ∃ h',h = h' + 1 := ⟨h - 1,by have := HX.out; omega⟩
    have HI' : Hid (TrvC K g hs m ah mb w0 h') := HI.out h' rfl
    have Hp2 : Hid (2 * p < wid hs.length h') := wid_step Hp.out
    have Hpw : Hid (2 ^ (h' + 1 + 1) = 2 ^ (h' + 1) + 2 ^ (h' + 1) ∧ 2 ≤ 2 ^ (h' + 1)) := by
     have h1 : 0 < 2 ^ h' := Nat.pos_of_ne_zero (by simp)
     constructor
     ·rw [Nat.pow_succ]; omega
     ·rw [Nat.pow_succ]; omega
    refine (HI'.out (2 * p) Hp2.out w6 (bits ++ [1]) fin HS6.out (by rw [List.length_append]; have h1 := Hb1.out; have h2 := Hpw.out; simp only [List.length_cons,List.length_nil]; omega) (by have h1 := Hf1.out; have h2 := Hpw.out; omega) _ _ (by have := HX.out; omega) (by have := HY.out; omega)).mono ?_
    rintro e w7 ⟨rfl,hS7⟩
    have HS7 := hid hS7
    clear hS7 HS6
    have HT : Hid (trav K hs m (h' + 1) p = (1 :: ((trav K hs m h' (2 * p)).1 ++ if 2 * p + 1 < wid hs.length h' then (trav K hs m h' (2 * p + 1)).1 else []),
      (trav K hs m h' (2 * p)).2 ++ if 2 * p + 1 < wid hs.length h' then (trav K hs m h' (2 * p + 1)).2 else [])) := by
     show _ = _
     rw [trav,if_pos hmt]
    obtain ⟨T,hTe⟩ : ∃ T,T = trav K hs m (h' + 1) p := ⟨_,rfl⟩
    rw [← hTe] at HT
    have HTe := hid hTe; clear hTe
    go_wp2_with fail
    obtain ⟨fh7,bv7,hB7,_,_⟩ := HS7.out.blk
    refine (width_c' w7 g hs.length h' _ hB7 hn (by have := Hhh.out; omega) (x - 1) (by have := HX.out; omega)).mono ?_
    clear hB7
    rintro e w' ⟨rfl,rfl⟩
    by_cases hr : 2 * p + 1 < wid hs.length h'
    ·have hri : y * 2 + 1 < (wid hs.length h' : Int) := by have := HY.out; omega
     have Hr := hid hr
     clear hr
     go_wp2_with fail
     have Hln := hid (trav_len K hs m h' (2 * p))
     refine (HI'.out (2 * p + 1) Hr.out w7 _ _ HS7.out (by rw [List.length_append,List.length_append]; have h1 := Hb1.out; have h2 := Hpw.out; have h3 := Hln.out; simp only [List.length_cons,List.length_nil]; omega) (by rw [List.length_append]; have h1 := Hf1.out; have h2 := Hpw.out; have h3 := Hln.out; omega) _ _ (by have := HX.out; omega) (by have := HY.out; omega)).mono ?_
     rintro e w8 ⟨rfl,hS8⟩
     have HS8 := hid hS8
     clear hS8
     go_wp2_with fail
     go_end0
     refine ⟨rfl, ?_⟩
     rw [← HTe.out,HT.out,if_pos Hr.out,if_pos Hr.out]
     have := HS8.out
     simpa using this
    ·have hri : ¬ (y * 2 + 1 < (wid hs.length h' : Int)) := by have := HY.out; omega
     have Hr := hid hr
     clear hr
     go_wp2_with fail
     go_end0
     refine ⟨rfl, ?_⟩
     rw [← HTe.out,HT.out,if_neg Hr.out,if_neg Hr.out]
     have := HS7.out
     simpa using this
   have hx0'' : (x == 0) = true := by simp [hx0']
   have HL : Hid (h = 0 ∨ meantB m h p = false) := .inl (by have := HX.out; omega)
   clear hx0'
   rotate_left
   have hx0'' : (x == 0) = false := by simp [hx0']
   have HL : Hid (h = 0 ∨ meantB m h p = false) := .inr hmt
   have hbbz : (bb == 0) = true := by rw [Hbb.out,hmt]; rfl
   all_goals
    have HS6 : Hid (TrvS hs.length g ah mb w0 (bits ++ [bb]) fin (w5.setCell ⟨g,4,none⟩ (.slice av5 (bits.length + 1) cv5))) := by
     have hf : Fr [g] w5 (w5.setCell ⟨g,4,none⟩ (.slice av5 (bits.length + 1) cv5)) := (Fr.refl _ _).setCell _ _ (by simp)
     have hT : FrT 108 w5 (w5.setCell ⟨g,4,none⟩ (.slice av5 (bits.length + 1) cv5)) := hf.frT (fun k hk _ => by simp at hk; subst hk; exact ⟨_,_,HB5.out⟩)
     have hl5 := HG5.out.frT hT (by decide) (fun _ _ h => h) (E' := BitE)
     rw [List.length_append] at hl5
     exact ⟨HF5.out.trans hf,_,_,HB5.out.set 4 _,hl5,HGf5.out.frT hT (by decide) (fun _ _ h => h.frT hT (by decide))⟩
    go_wp2_with fail
    generalize World.setCell w5 _ _ = w6 at HS6 ⊢
    clear c4' f4' hgl5 HG5 HF5 HB5 HGf5
    obtain ⟨T,hTe⟩ : ∃ T,T = trav K hs m h p := ⟨_,rfl⟩
    have HTe := hid hTe; clear hTe
    obtain ⟨fh6,bv6,hB6,hGb6,hGf6⟩ := HS6.out.blk
    obtain ⟨af6,cf6,rfl⟩ := hGf6.slice
    have HB6 := hid hB6
    have HGb6 := hid hGb6
    have HGf6 := hid hGf6
    clear hB6 hGb6 hGf6
    have HcF : Hid (∀ w',FrT 111 w6 w' → w'.cell? ⟨g,2,none⟩ = some (.slice af6 fin.length cf6)) := fun w' hf => (HB6.out.frT hf (by decide)).cell_at rfl
    refine segS_begin (fun w' => FrT 111 w6 w') 13 (by kernel_rfl) ?_
    refine segS_quiet (fuel := 6) (by kernel_rfl) (fun d _ _ _ _ h => by cases d <;> exact h) ((Fr.refl _ _).drew.toT) [0,1,2,3,4,5,6,7] _ _ (by kernel_rfl) ?_
    simp only [pickL,nthO]
    iterate 8 go_big_quiet_step (((intro hw; first | with_reducible rfl | rfl | (simp [HcF.out _ hw,Result.andThen]; done) | (simp [HcF.out _ hw,Result.andThen]; rfl))))
    refine wpQuiet_nil ?_
    refine segS_act 8 rfl rfl (by kernel_rfl) ?_
    go_wp2_with fail
    refine (calc_c K hK g hs hl hn ah _ mb _ h Hhh.out p Hp.out w6.drew (HKg.out _ HS6.out.fr.drew) HB6.out.drew (HH.out _ HS6.out.fr.drew) x y HX.out HY.out).mono ?_
    rintro e w7 ⟨hf,P,rfl,hP⟩
    have HF7 : Hid (Fr [] w6 w7) := (Fr.refl _ _).drew.trans hf
    have HP7 := hid hP
    clear hf hP
    go_wp2_with fail
    refine ⟨fun _ => HF7.out.toT, ?_⟩
    refine segS_act 9 rfl rfl (by kernel_rfl) ?_
    go_wp2_with fail
    have HFN : Hid (Fr [] w7 (w7.alloc (.cells #[.pointer (some ⟨P,0,none⟩)] 111))) := (Fr.refl _ _).alloc _
    have HPN : Hid (Blk (w7.alloc (.cells #[.pointer (some ⟨P,0,none⟩)] 111)) w7.heap.size 111 [.pointer (some ⟨P,0,none⟩)]) := Blk.new _ _ _
    have HF8 : Hid (Fr [] w6 (w7.alloc (.cells #[.pointer (some ⟨P,0,none⟩)] 111))) := HF7.out.trans HFN.out
    have HYp : Hid (HpE (w7.alloc (.cells #[.pointer (some ⟨P,0,none⟩)] 111)) [.pointer (some ⟨P,0,none⟩)] (node K hs h p)) := ⟨P,rfl,HP7.out.fr HFN.out (by simp)⟩
    generalize World.alloc w7 _ = w8 at HFN HPN HF8 HYp ⊢
    obtain ⟨N8,hN8⟩ : ∃ N8,N8 = w7.heap.size := ⟨_,rfl⟩
    rw [← hN8] at HPN ⊢
    clear hN8
    refine ⟨fun _ => HF8.out.toT, ?_⟩
    have hby : (fin.length + 1) * 8 ≤ 140737488355328 := by have := Nat.le_trans (Nat.le_add_right _ _) Hf1.out; omega
    have hbs : w0.heap.size ≤ w8.heap.size := Nat.le_trans HS6.out.fr.size HF8.out.size
    refine segS_act 10 rfl rfl (by kernel_rfl) ?_
    refine wpList_push2 rfl (.tmp 56) (.tmp 61) 106 rfl 111 1 8 elem106 w0.heap.size HpE (.slice af6 fin.length cf6) fin rfl (HGf6.out.fr HF8.out (fun _ _ h => h.fr HF8.out)) N8 111 [.pointer (some ⟨P,0,none⟩)] HPN.out rfl rfl (by intro u hu; rw [List.mem_singleton] at hu; subst hu; rfl) (fun w' hT _ c y hE => hE.frT hT (by decide)) (node K hs h p) HYp.out hby hbs ?_
    intro v9 w9 HG9 HFT9 HFo9 _
    clear hby hbs
    have HF9 : Hid (Fr [g] w0 w9) := (HS6.out.fr.trans (HF8.out.mono (by simp))).andThen HFo9.out (fun k hk => .inr ((HGf6.out.fr HF8.out (fun _ _ h => h.fr HF8.out)).own k (own1_mem hk)).1)
    have HB9 : Hid (Blk w9 g 108 [.int .u32 hs.length,ah,.slice af6 fin.length cf6,mb,bv6]) := (HB6.out.fr HF8.out (by simp)).frT HFT9.out (by decide)
    have HGb9 : Hid (Grows w0.heap.size 5 1 BitE w9 bv6 (bits ++ [bb])) := (HGb6.out.fr HF8.out (E' := BitE) (fun _ _ h => h)).frT HFT9.out (by decide) (E' := BitE) (fun _ _ h => h)
    obtain ⟨av9,cv9,rfl⟩ := HG9.out.slice
    refine wpList_nil ?_
    simp only [Act.put,nA,nB,nC]
    have HT9 : Hid (FrT 111 w6 w9) := HF8.out.toT.trans' HFT9.out
    refine ⟨fun _ => HT9.out, ?_⟩
    refine segS_act 11 rfl rfl (by kernel_rfl) ?_
    go_wp2_with fail
    refine ⟨fun _ => HT9.out, ?_⟩
    refine segS_act 12 rfl rfl (by kernel_rfl) ?_
    go_wp2_with fail
    refine ⟨fun _ => HT9.out, ?_⟩
    refine segS_act 13 rfl rfl (by kernel_rfl) ?_
    have c2' : w9.cell? ⟨g,2,none⟩ = some (.slice af6 fin.length cf6) := HB9.out.cell_at rfl
    have f2' := HB9.out.free 2
    have hgl9 := HB9.out.lt
    go_wp2_with fail
    refine ⟨fun h => absurd rfl h, ?_⟩
    refine segS_end (by kernel_rfl) ?_
    go_wp2_with fail
    refine bodyPost_ret (results_none rfl _ _ _) rfl ?_
    refine ⟨rfl, ?_⟩
    have hf : Fr [g] w9 (w9.setCell ⟨g,2,none⟩ (.slice av9 (fin.length + 1) cv9)) := (Fr.refl _ _).setCell _ _ (by simp)
    have hT : FrT 108 w9 (w9.setCell ⟨g,2,none⟩ (.slice av9 (fin.length + 1) cv9)) := hf.frT (fun k hk _ => by simp at hk; subst hk; exact ⟨_,_,HB9.out⟩)
    have hl9 := HG9.out.frT hT (by decide) (fun _ _ h => h.frT hT (by decide)) (E' := HpE)
    rw [List.length_append] at hl9
    rw [trav_leaf HL.out,← Hbb.out]
    exact ⟨HF9.out.trans hf,_,_,HB9.out.set 2 _,HGb9.out.frT hT (by decide) (E' := BitE) (fun _ _ h => h),hl9⟩
theorem trv_c (K : List Int) (hK : K.length = 64) (g : Nat) (hs : List (List Int)) (hl : ∀ l ∈ hs,l.length = 32) (hn : hs.length ≤ 64) (m : List Int) (hm : m.length = hs.length) (hm1 : ∀ i,nth m i = 0 ∨ nth m i = 1) (ah mb : Value) (w0 : World) (hg0 : g < w0.heap.size)
  (hH : ∀ w,Fr [g] w0 w → HsAt w ah hs) (hmb : ∀ w,Fr [g] w0 w → BytesB w0.heap.size w mb m) (hKg : ∀ w,Fr [g] w0 w → Blk w 1 379 (ic .u32 K)) (h : Nat) (hh : h ≤ 7) : TrvC K g hs m ah mb w0 h := by
 induction h with
 | zero => exact trv_step K hK g hs hl hn m hm hm1 ah mb w0 hg0 hH hmb hKg 0 hh (by omega)
 | succ h ih => exact trv_step K hK g hs hl hn m hm hm1 ah mb w0 hg0 hH hmb hKg (h + 1) hh (fun h' e => by cases e; exact ih (by omega))
end
section
set_option maxRecDepth 8000
theorem elem106' : Elem Tryz.prog 106 111 1 8 := Elem.mk' (by kernel_rfl) (by kernel_rfl) (by decide) (by decide)
theorem addHash_c (w : World) (base M P : Nat) (hd : List Value) (hhd : hd.length = 68) (n : Int) (hv fl : Value) (l : List (List Int)) (y : List Int) (hB : Blk w M 125 (hd ++ [.int .u32 n,hv,fl])) (hG : Grows base 111 1 HpE w hv l) (hb : base ≤ w.heap.size) (hl : l.length ≤ 100000) (hP : Blk w P 81 (ic .u8 y)) :
  Calls Tryz.prog 43 #[.pointer (some ⟨M,0,none⟩),.pointer (some ⟨P,0,none⟩)] w fun e w' => e = .returned .nilIface ∧ Fr (M :: own1 hv) w w' ∧ ∃ hv',Blk w' M 125 (hd ++ [.int .u32 n,hv',fl]) ∧ Grows base 111 1 HpE w' hv' (l ++ [y]) := by
 obtain ⟨av,cv,rfl⟩ := hG.slice
 have c69 : w.cell? ⟨M,69,none⟩ = some (.slice av l.length cv) := hB.cell_at (by rw [List.getElem?_append_right (by omega),hhd]; rfl)
 have hMl := hB.lt
 have hli : (l.length : Int) ≤ 400000 := by omega
 have hl2 : (l.length : Int) + 1 ≤ 400001 := by omega
 have HB := hid hB
 have HG := hid hG
 have HP := hid hP
 have Hd := hid hhd
 have Hl := hid hl
 have Hb := hid hb
 clear hB hG hP hhd hl hb
 have hgt : ¬ ((400001:Int) < (l.length:Int) + 1) := by omega
 have hd1 : decide ((400001:Int) < (l.length:Int) + 1) = false := decide_eq_false hgt
 clear hl2
 go_enter Tryz.func43,Tryz.ntmps43
 have HFN : Hid (Fr [] w (w.alloc (.cells #[.pointer (some ⟨P,0,none⟩)] 111))) := (Fr.refl _ _).alloc _
 have HPN : Hid (Blk (w.alloc (.cells #[.pointer (some ⟨P,0,none⟩)] 111)) w.heap.size 111 [.pointer (some ⟨P,0,none⟩)]) := Blk.new _ _ _
 have HYp : Hid (HpE (w.alloc (.cells #[.pointer (some ⟨P,0,none⟩)] 111)) [.pointer (some ⟨P,0,none⟩)] y) := ⟨P,rfl,HP.out.fr HFN.out (by simp)⟩
 have HG2 : Hid (Grows base 111 1 HpE (w.alloc (.cells #[.pointer (some ⟨P,0,none⟩)] 111)) (.slice av l.length cv) l) := HG.out.fr HFN.out (fun _ _ h => h.fr HFN.out)
 have hby : Hid ((l.length + 1) * 8 ≤ 140737488355328) := by have := Hl.out; show (l.length + 1) * 8 ≤ _; omega
 have hbs : Hid (base ≤ (w.alloc (.cells #[.pointer (some ⟨P,0,none⟩)] 111)).heap.size) := Nat.le_trans Hb.out HFN.out.size
 have hl3 : Hid (([.pointer (some ⟨P,0,none⟩)] : List Value).length = 1) := hid rfl
 have h1c : Hid (∀ u ∈ ([.pointer (some ⟨P,0,none⟩)] : List Value),u.oneCell' = true) := by intro u hu; rw [List.mem_singleton] at hu; subst hu; rfl
 have hEc : Hid (∀ w',FrT 111 (w.alloc (.cells #[.pointer (some ⟨P,0,none⟩)] 111)) w' → Below base (w.alloc (.cells #[.pointer (some ⟨P,0,none⟩)] 111)) w' → ∀ c y,HpE (w.alloc (.cells #[.pointer (some ⟨P,0,none⟩)] 111)) c y → HpE w' c y) := fun w' hT _ c y h => h.frT hT (by decide)
 go_wp2_with (with_reducible refine wpList_push2 (o := ⟨some 23,_,_,_,_,_⟩) rfl (.tmp 20) (.tmp 22) 106 rfl 111 1 8 elem106' base HpE (.slice av l.length cv) l ?_ HG2.out w.heap.size 111 _ HPN.out ?_ hl3.out h1c.out hEc.out y HYp.out hby.out hbs.out ?_)
 intro v5 w5 HG5 HFT5 HFo5 _
 have HF5 : Hid (Fr (own1 (.slice av l.length cv)) w w5) := (HFN.out.mono (by simp)).trans HFo5.out
 have HB5 : Hid (Blk w5 M 125 (hd ++ [.int .u32 n,.slice av l.length cv,fl])) := (HB.out.fr HFN.out (by simp)).frT HFT5.out (by decide)
 obtain ⟨av5,cv5,rfl⟩ := HG5.out.slice
 have c69' : w5.cell? ⟨M,69,none⟩ = some (.slice av l.length cv) := HB5.out.cell_at (by rw [List.getElem?_append_right (by have := Hd.out; omega),Hd.out]; rfl)
 have f69' := HB5.out.free 69
 have hMl5 := HB5.out.lt
 clear HG2 HYp hby hbs hl3 h1c hEc HPN c69 hMl
 go_wp2_with fail
 go_ret
 have hf : Fr [M] w5 (w5.setCell ⟨M,69,none⟩ (.slice av5 (l.length + 1) cv5)) := (Fr.refl _ _).setCell _ _ (by simp)
 have hT : FrT 125 w5 (w5.setCell ⟨M,69,none⟩ (.slice av5 (l.length + 1) cv5)) := hf.frT (fun k hk _ => by simp at hk; subst hk; exact ⟨_,_,HB5.out⟩)
 have hl9 := HG5.out.frT hT (by decide) (fun _ _ h => h.frT hT (by decide)) (E' := HpE)
 rw [List.length_append] at hl9
 refine ⟨rfl,(HF5.out.mono (by intro k hk; exact List.mem_cons_of_mem _ hk)).trans (hf.mono (by simp)),_, ?_,hl9⟩
 have := HB5.out.set 69 (.slice av5 (l.length + 1) cv5)
 rwa [List.set_append_right _ _ (by have := Hd.out; omega),Hd.out] at this
end
end Go.Proofs.YtdllckiidegpcaaGreat
