/- A part of the walk of laws.FnPartial (part 7): contracts of functions that it comes to, and the plain laws that these lean on. Conditions stand in each contract. -/
import Derived.Deep.DeepCutAuto
import Derived.Test.YtdllckiidegpcaaGreatA03
import Derived.Test.YtdllckiidegpcaaGreatA04
set_option linter.unusedSimpArgs false
set_option linter.unusedVariables false
namespace Go.Proofs.YtdllckiidegpcaaGreat
open Go.RowKit
section
/-- All old blocks but those of type T are as they were. -/
structure FrT (T : TypeId) (w w' : World) : Prop where
 os : w'.os = w.os
 tape : w'.tape = w.tape
 output : w'.output = w.output
 size : w.heap.size ≤ w'.heap.size
 block : ∀ k,k < w.heap.size → (∀ c fr,w.heap[k]? ≠ some (.cells c T fr)) → w'.heap[k]? = w.heap[k]?
theorem Fr.frT {S : List Nat} {T : TypeId} {w w' : World} (h : Fr S w w') (hS : ∀ k ∈ S,k < w.heap.size → ∃ c fr,w.heap[k]? = some (.cells c T fr)) : FrT T w w' :=
 ⟨h.os,h.tape,h.output,h.size,fun k hk hn => h.block k hk (fun hm => by obtain ⟨c,fr,he⟩ := hS k hm hk; exact hn c fr he)⟩
theorem Blk.frT {w w' : World} {g : Nat} {T T' : TypeId} {xs : List Value} (h : Blk w g T xs) (hf : FrT T' w w') (hT : T ≠ T') : Blk w' g T xs := by
 have h' : w.heap[g]? = some (.cells xs.toArray T (0,0)) := h
 exact (hf.block g h.lt (fun c fr he => by rw [h'] at he; simp at he; exact hT he.2.1)).trans h
/-- A slice of n elements whose cells are xs, in a block below B of type T. -/
def RdT (B : Nat) (T : TypeId) (w : World) (v : Value) (n : Nat) (xs : List Value) : Prop :=
 ∃ a cap,v = .slice a n cap ∧ n ≤ cap ∧ cap ≤ maxLen ∧
  ((cap = 0 ∧ cap = 0 ∧ xs = []) ∨ ∃ b off c fr,a = some ⟨b,off,none⟩ ∧ b < B ∧ w.heap[b]? = some (.cells c T fr) ∧ ∀ i (h : i < xs.length),w.cell? ⟨b,off + i,none⟩ = some xs[i])
abbrev BytesT (B : Nat) (w : World) (v : Value) (l : List Int) : Prop := RdT B 5 w v l.length (ic .u8 l)
section
variable {B B' : Nat} {T T' : TypeId} {w w' : World} {v : Value} {n : Nat} {xs : List Value}
theorem RdT.rdB (h : RdT B T w v n xs) : RdB B w v n xs := by
 obtain ⟨a,cap,rfl,h1,h2,h3⟩ := h
 refine ⟨a,cap,rfl,h1,h2, ?_⟩
 rcases h3 with h3 | ⟨b,off,c,fr,rfl,hlt,ht,hc⟩
 ·exact .inl h3
 ·exact .inr ⟨b,off,rfl,hlt,hc⟩
theorem RdT.below (h : RdT B T w v n xs) (hb : Below B w w') : RdT B T w' v n xs := by
 obtain ⟨a,cap,rfl,h1,h2,h3⟩ := h
 refine ⟨a,cap,rfl,h1,h2, ?_⟩
 rcases h3 with h3 | ⟨b,off,c,fr,rfl,hlt,ht,hc⟩
 ·exact .inl h3
 ·exact .inr ⟨b,off,c,fr,rfl,hlt,(hb.block b hlt).trans ht,fun i hi => (hb.cell (p := ⟨b,off + i,none⟩) hlt).trans (hc i hi)⟩
theorem RdT.frT (h : RdT B T w v n xs) (hf : FrT T' w w') (hT : T ≠ T') : RdT B T w' v n xs := by
 obtain ⟨a,cap,rfl,h1,h2,h3⟩ := h
 refine ⟨a,cap,rfl,h1,h2, ?_⟩
 rcases h3 with h3 | ⟨b,off,c,fr,rfl,hlt,ht,hc⟩
 ·exact .inl h3
 ·have hbs : b < w.heap.size := (Array.getElem?_eq_some_iff.mp ht).1
  have e := hf.block b hbs (fun c' fr' he => by rw [ht] at he; simp at he; exact hT he.2.1)
  exact .inr ⟨b,off,c,fr,rfl,hlt,e.trans ht,fun i hi => (World.cell?_of_block (w := w) (a := ⟨b,off + i,none⟩) e).trans (hc i hi)⟩
theorem RdT.mono (h : RdT B T w v n xs) (hb : B ≤ B') : RdT B' T w v n xs := by
 obtain ⟨a,cap,rfl,h1,h2,h3⟩ := h
 refine ⟨a,cap,rfl,h1,h2, ?_⟩
 rcases h3 with h3 | ⟨b,off,c,fr,rfl,hlt,ht,hc⟩
 ·exact .inl h3
 ·exact .inr ⟨b,off,c,fr,rfl,by omega,ht,hc⟩
theorem RdT.nil : RdT B T w (.slice none 0 0) 0 [] := ⟨none,0,rfl,Nat.le_refl _,Nat.zero_le _,.inl ⟨rfl,rfl,rfl⟩⟩
theorem owns_rdT {base : Nat} {size : Nat} (h : w.ownsRow base T size v n xs) : RdT w.heap.size T w v n xs := by
 obtain ⟨hl,h⟩ := h
 rcases h with ⟨rfl,rfl⟩ | ⟨g,cap,cur,rfl,hB,hh,h1,h2,h3,h4⟩
 ·exact ⟨none,0,rfl,Nat.le_refl _,Nat.zero_le _,.inl ⟨rfl,rfl,by simpa using hl⟩⟩
 ·refine ⟨_,cap,rfl,h1,h2,.inr ⟨g,0,cur,(0,0),rfl,(Array.getElem?_eq_some_iff.mp hh).1,hh, ?_⟩⟩
  intro i hi
  have : cur[i]? = some xs[i] := by
   have h5 : cur.toList[i]? = some xs[i] := by
    have h6 : (cur.toList.take (n * size))[i]? = xs[i]? := by rw [h4]
    rw [List.getElem?_take,if_pos (by omega)] at h6
    rw [h6]; simp
   simpa using h5
  simp [World.cell?,hh,this]
end
/-- A slice of elements of 'size' cells each, in a block below B of type T. -/
def ListT {α : Type} (B : Nat) (T : TypeId) (size : Nat) (E : World → List Value → α → Prop) (w : World) (v : Value) (l : List α) : Prop :=
 ∃ cs : List (List Value),cs.length = l.length ∧ (∀ c ∈ cs,c.length = size) ∧ RdT B T w v l.length cs.flatten ∧ ∀ i (h : i < cs.length) (h' : i < l.length),E w cs[i] l[i]
section
variable {α : Type} {B B' size : Nat} {T T' : TypeId} {E E' : World → List Value → α → Prop} {w w' : World} {v : Value} {l : List α}
theorem ListT.listB (h : ListT B T size E w v l) (hE : ∀ c x,E w c x → E' w c x) : ListB B size E' w v l := by
 obtain ⟨cs,h1,h2,h3,h4⟩ := h
 exact ⟨cs,h1,h2,h3.rdB,fun i h h' => hE _ _ (h4 i h h')⟩
theorem ListT.mono (h : ListT B T size E w v l) (hb : B ≤ B') (hE : ∀ c x,E w c x → E' w c x) : ListT B' T size E' w v l := by
 obtain ⟨cs,h1,h2,h3,h4⟩ := h
 exact ⟨cs,h1,h2,h3.mono hb,fun i h h' => hE _ _ (h4 i h h')⟩
theorem ListT.below (h : ListT B T size E w v l) (hb : Below B w w') (hE : ∀ c x,E w c x → E w' c x) : ListT B T size E w' v l := by
 obtain ⟨cs,h1,h2,h3,h4⟩ := h
 exact ⟨cs,h1,h2,h3.below hb,fun i h h' => hE _ _ (h4 i h h')⟩
theorem ListT.frT (h : ListT B T size E w v l) (hf : FrT T' w w') (hT : T ≠ T') (hE : ∀ c x,E w c x → E w' c x) : ListT B T size E w' v l := by
 obtain ⟨cs,h1,h2,h3,h4⟩ := h
 exact ⟨cs,h1,h2,h3.frT hf hT,fun i h h' => hE _ _ (h4 i h h')⟩
end
def BytT (B : Nat) (w : World) (c : List Value) (l : List Int) : Prop := ∃ v,c = [v] ∧ BytesT B w v l
section
variable {B B' : Nat} {T' : TypeId} {w w' : World} {c : List Value} {l : List Int}
theorem BytT.bytE (h : BytT B w c l) : BytE B w c l := by obtain ⟨v,rfl,h⟩ := h; exact ⟨v,rfl,h.rdB⟩
theorem BytT.below (h : BytT B w c l) (hb : Below B w w') : BytT B w' c l := by obtain ⟨v,rfl,h⟩ := h; exact ⟨v,rfl,h.below hb⟩
theorem BytT.mono (h : BytT B w c l) (hb : B ≤ B') : BytT B' w c l := by obtain ⟨v,rfl,h⟩ := h; exact ⟨v,rfl,h.mono hb⟩
theorem BytT.frT (h : BytT B w c l) (hf : FrT T' w w') (hT : 5 ≠ T') : BytT B w' c l := by obtain ⟨v,rfl,h⟩ := h; exact ⟨v,rfl,h.frT hf hT⟩
end
end
section
def TxInT (B : Nat) (w : World) (c : List Value) (x : TxIn) : Prop :=
 ∃ sv wv,c = x.prev.cells ++ [sv,wv,.int .u32 x.seq] ∧ BytesT B w sv x.script ∧ ListT B 29 1 (BytT B) w wv x.wit
def TxOutT (B : Nat) (w : World) (c : List Value) (x : TxOut) : Prop :=
 ∃ sv,c = [.int .i64 x.value,sv] ∧ BytesT B w sv x.script
def MsgTxT (B : Nat) (w : World) (c : List Value) (t : Tx) : Prop :=
 ∃ iv ov,c = [.int .i32 t.version,iv,ov,.int .u32 t.lock] ∧ ListT B 228 1 (PtrE B 233 (TxInT B)) w iv t.ins ∧ ListT B 237 1 (PtrE B 236 (TxOutT B)) w ov t.outs
def MsgBlockT (B : Nat) (w : World) (c : List Value) (k : Blck) : Prop :=
 ∃ tv,c = k.hdr.wire ++ [tv] ∧ ListT B 166 1 (PtrE B 227 (MsgTxT B)) w tv k.txs
theorem PtrE.frT {α : Type} {B : Nat} {w w' : World} {c : List Value} {T T' : TypeId} {E : World → List Value → α → Prop} {x : α} (h : PtrE B T E w c x) (hf : FrT T' w w') (hT : T ≠ T') (hE : ∀ c x,E w c x → E w' c x) : PtrE B T E w' c x := by
 obtain ⟨g,d,rfl,h1,h2,h3⟩ := h; exact ⟨g,d,rfl,h1,h2.frT hf hT,hE _ _ h3⟩
section
variable {B B' : Nat} {T' : TypeId} {w w' : World} {c : List Value}
theorem TxInT.below {x : TxIn} (h : TxInT B w c x) (hb : Below B w w') : TxInT B w' c x := by
 obtain ⟨sv,wv,rfl,h1,h2⟩ := h; exact ⟨sv,wv,rfl,h1.below hb,h2.below hb (fun _ _ h => h.below hb)⟩
theorem TxInT.mono {x : TxIn} (h : TxInT B w c x) (hb : B ≤ B') : TxInT B' w c x := by
 obtain ⟨sv,wv,rfl,h1,h2⟩ := h; exact ⟨sv,wv,rfl,h1.mono hb,h2.mono hb (fun _ _ h => h.mono hb)⟩
theorem TxInT.frT {x : TxIn} (h : TxInT B w c x) (hf : FrT T' w w') (h5 : 5 ≠ T') (h29 : 29 ≠ T') : TxInT B w' c x := by
 obtain ⟨sv,wv,rfl,h1,h2⟩ := h; exact ⟨sv,wv,rfl,h1.frT hf h5,h2.frT hf h29 (fun _ _ h => h.frT hf h5)⟩
theorem TxInT.e {x : TxIn} (h : TxInT B w c x) : TxInE B w c x := by
 obtain ⟨sv,wv,rfl,h1,h2⟩ := h; exact ⟨sv,wv,rfl,h1.rdB,h2.listB (fun _ _ h => h.bytE)⟩
theorem TxOutT.below {x : TxOut} (h : TxOutT B w c x) (hb : Below B w w') : TxOutT B w' c x := by
 obtain ⟨sv,rfl,h1⟩ := h; exact ⟨sv,rfl,h1.below hb⟩
theorem TxOutT.mono {x : TxOut} (h : TxOutT B w c x) (hb : B ≤ B') : TxOutT B' w c x := by
 obtain ⟨sv,rfl,h1⟩ := h; exact ⟨sv,rfl,h1.mono hb⟩
theorem TxOutT.frT {x : TxOut} (h : TxOutT B w c x) (hf : FrT T' w w') (h5 : 5 ≠ T') : TxOutT B w' c x := by
 obtain ⟨sv,rfl,h1⟩ := h; exact ⟨sv,rfl,h1.frT hf h5⟩
theorem TxOutT.e {x : TxOut} (h : TxOutT B w c x) : TxOutE B w c x := by
 obtain ⟨sv,rfl,h1⟩ := h; exact ⟨sv,rfl,h1.rdB⟩
theorem MsgTxT.below {t : Tx} (h : MsgTxT B w c t) (hb : Below B w w') : MsgTxT B w' c t := by
 obtain ⟨iv,ov,rfl,h1,h2⟩ := h
 exact ⟨iv,ov,rfl,h1.below hb (fun _ _ h => h.below hb (fun _ _ h => h.below hb)),h2.below hb (fun _ _ h => h.below hb (fun _ _ h => h.below hb))⟩
theorem MsgTxT.mono {t : Tx} (h : MsgTxT B w c t) (hb : B ≤ B') : MsgTxT B' w c t := by
 obtain ⟨iv,ov,rfl,h1,h2⟩ := h
 exact ⟨iv,ov,rfl,h1.mono hb (fun _ _ h => h.mono hb (fun _ _ h => h.mono hb)),h2.mono hb (fun _ _ h => h.mono hb (fun _ _ h => h.mono hb))⟩
theorem MsgTxT.frT {t : Tx} (h : MsgTxT B w c t) (hf : FrT T' w w') (h5 : 5 ≠ T') (h29 : 29 ≠ T') (h1 : 228 ≠ T') (h2 : 237 ≠ T') (h3 : 233 ≠ T') (h4 : 236 ≠ T') : MsgTxT B w' c t := by
 obtain ⟨iv,ov,rfl,k1,k2⟩ := h
 exact ⟨iv,ov,rfl,k1.frT hf h1 (fun _ _ h => h.frT hf h3 (fun _ _ h => h.frT hf h5 h29)),k2.frT hf h2 (fun _ _ h => h.frT hf h4 (fun _ _ h => h.frT hf h5))⟩
theorem PtrE.map {α : Type} {T : TypeId} {E E' : World → List Value → α → Prop} {x : α} (h : PtrE B T E w c x) (hE : ∀ c x,E w c x → E' w c x) : PtrE B T E' w c x := by
 obtain ⟨g,d,rfl,h1,h2,h3⟩ := h; exact ⟨g,d,rfl,h1,h2,hE _ _ h3⟩
theorem MsgTxT.e {t : Tx} (h : MsgTxT B w c t) : MsgTxE B w c t := by
 obtain ⟨iv,ov,rfl,h1,h2⟩ := h
 exact ⟨iv,ov,rfl,h1.listB (fun _ _ h => h.map (fun _ _ h => h.e)),h2.listB (fun _ _ h => h.map (fun _ _ h => h.e))⟩
theorem MsgBlockT.e {k : Blck} (h : MsgBlockT B w c k) : MsgBlockE B w c k := by
 obtain ⟨tv,rfl,h1⟩ := h
 exact ⟨tv,rfl,h1.listB (fun _ _ h => h.map (fun _ _ h => h.e))⟩
end
end
def opz : List Value := ic .u8 (List.replicate 32 0) ++ [Value.int .u32 0]
theorem opz_length : opz.length = 33 := by simp [opz]
theorem OutP.one (p : OutP) : ∀ u ∈ p.cells,u.oneCell' = true := by
 intro u hu
 simp only [OutP.cells,List.mem_append,List.mem_singleton] at hu
 rcases hu with h | rfl
 ·exact ic_one _ _ _ h
 ·rfl
set_option maxRecDepth 8000 in
theorem outPoint_c (w : World) (p : OutP) (hp : p.Ok) : Calls Tryz.prog 115 #[.agg p.cells.toArray] w fun e w' => e = .returned (.agg p.cells.toArray) ∧ Fr [] w w' := by
 go_enter Tryz.func115,Tryz.ntmps115
 go_upto_region 1 with fail
 have HF1 : Hid (Fr [] w ((w.alloc (.cells p.cells.toArray 95)).alloc (.cells opz.toArray 230))) := ((Fr.refl _ _).alloc _).alloc _
 have HB1 : Hid (Blk ((w.alloc (.cells p.cells.toArray 95)).alloc (.cells opz.toArray 230)) w.heap.size 95 p.cells) := (Blk.new _ _ _).alloc _
 have HR1 : Hid (Blk ((w.alloc (.cells p.cells.toArray 95)).alloc (.cells opz.toArray 230)) (w.heap.size + 1) 230 opz) := by
  have := Blk.new (w.alloc (.cells p.cells.toArray 95)) opz 230
  rwa [show (w.alloc (.cells p.cells.toArray 95)).heap.size = w.heap.size + 1 by simp] at this
 change Code.wp _ _ _ _ ((w.alloc (.cells p.cells.toArray 95)).alloc (.cells opz.toArray 230))
 generalize World.alloc (World.alloc w _) _ = w1 at HF1 HB1 HR1 ⊢
 refine wp_region_lit ?_
 refine wpList_run rfl rfl ?_
 refine wpList_load_mid rfl 22 (.tmp 3) rfl w.heap.size 0 rfl (ic .u8 p.hash) (.array 32 5) (HB1.out.part [] _ _ rfl) rfl rfl (by rw [ic_length,hp.len]; kernel_rfl) ?_
 refine wpList_run rfl rfl ?_
 refine wpList_load1 rfl 23 (.tmp 5) rfl w.heap.size 32 rfl (.int .u32 p.idx) _ (HB1.out.cell_at (by simp [OutP.cells,hp.len])) rfl rfl ?_
 refine wpList_build rfl 230 _ rfl [(0,.agg (ic .u8 p.hash).toArray),(1,.int .u32 p.idx)] (by simp only [List.map_toArray]; rfl) [ic .u8 (List.replicate 32 0),[.int .u32 0]] (by kernel_rfl) (by simp [offs,Value.cells,hp.len]) p.cells (by simp [OutP.cells,Value.cells]) ?_
 refine wpList_store_mid rfl 230 (.tmp 2) (.tmp 7) rfl (w.heap.size + 1) 0 p.cells.toArray rfl rfl (HR1.out.there (by rw [List.size_toArray,OutP.cells_length hp,opz_length]; omega)) (by rw [List.size_toArray,OutP.cells_length hp]; kernel_rfl) (all_oneCell_toArray p.one) ?_
 have HR2 : Hid (Blk (w1.setCells (w.heap.size + 1) 0 p.cells.toArray.toList) (w.heap.size + 1) 230 p.cells) := HR1.out.putAll _ (by rw [OutP.cells_length hp,opz_length])
 have HF2 : Hid (Fr [] w (w1.setCells (w.heap.size + 1) 0 p.cells.toArray.toList)) := ((HF1.out.mono (by simp)).trans (fr_setCells (S := [w.heap.size + 1]) (by simp) _ _ _ (Fr.refl _ _))).drop (by simp)
 generalize World.setCells _ _ _ _ = w2 at HR2 HF2 ⊢
 refine wpList_nil ?_
 refine (‹∀ (a : Act) (w : World),Code.wp Tryz.prog Code.ret _ a w → _›) _ _ ?_
 refine wp_ret ?_
 refine bodyPost_ret (results_cell_row rfl _ _ (w.heap.size + 1) 230 _ _ _ rfl HR2.out rfl rfl (by rw [List.size_toArray,OutP.cells_length hp]; kernel_rfl)) rfl ?_
 exact ⟨rfl,HF2.out⟩
theorem alloc_setAll (w : World) (z c : List Value) (T : TypeId) (hl : c.length = z.length) : (w.alloc (.cells z.toArray T)).setCells w.heap.size 0 c = w.alloc (.cells c.toArray T) := by
 have h1 : Blk (w.alloc (.cells z.toArray T)) w.heap.size T z := Blk.new _ _ _
 have h2 := h1.putAll c hl
 have h3 := fr_setCells (S := [w.heap.size]) (g := w.heap.size) (by simp) c (w.alloc (.cells z.toArray T)) 0 (Fr.refl _ _)
 have hsz : ((w.alloc (.cells z.toArray T)).setCells w.heap.size 0 c).heap.size = (w.alloc (.cells z.toArray T)).heap.size := by
  have : ∀ (c : List Value) (w : World) (n o : Nat),(w.setCells n o c).heap.size = w.heap.size := by
   intro c
   induction c with
   | nil => intro w n o; rfl
   | cons y ys ih => intro w n o; exact (ih _ _ _).trans (by simp [World.setCell])
  exact this _ _ _ _
 have hh : ((w.alloc (.cells z.toArray T)).setCells w.heap.size 0 c).heap = (w.alloc (.cells c.toArray T)).heap := by
  apply Array.ext_getElem?
  intro i
  by_cases hi : i < w.heap.size
  ·rw [h3.block i (by simp; omega) (by simp; omega),Below.heap_alloc _ _ _ hi,Below.heap_alloc _ _ _ hi]
  ·by_cases he : i = w.heap.size
   ·subst he
    rw [show _ = _ from h2,heap_alloc_new]
   ·rw [Array.getElem?_eq_none (by rw [hsz]; simp; omega),Array.getElem?_eq_none (by simp; omega)]
 have e1 := h3.os; have e2 := h3.tape; have e3 := h3.output
 have hd : ((w.alloc (.cells z.toArray T)).setCells w.heap.size 0 c).drawn = (w.alloc (.cells c.toArray T)).drawn := by
  have : ∀ (c : List Value) (w : World) (n o : Nat),(w.setCells n o c).drawn = w.drawn := by
   intro c
   induction c with
   | nil => intro w n o; rfl
   | cons y ys ih => intro w n o; exact (ih _ _ _).trans rfl
  exact this _ _ _ _
 generalize World.setCells _ _ _ _ = W at *
 cases W
 simp only [World.alloc] at *
 subst e1 e2 e3 hh hd
 rfl
/-- What a new block of type E holds. -/
def Zero (P : Program) (E : TypeId) (z : List Value) : Prop := ∀ w : World,(Instr.alloc E true (.tuple #[])).run P w = .ok (.pointer (some ⟨w.heap.size,0,none⟩)) (w.alloc (.cells z.toArray E))
/-- v := x[i], of a struct: its address, its cells, a new block, the store. -/
theorem wpList_elem {P : Program} {ops : Array Oper} {rest : List Oper} {o1 o2 o3 o4 : Oper} {a : Act} {w : World} {Q : Exit → Act → World → Prop} (g1 : o1.guard = none) (g2 : o2.guard = none) (g3 : o3.guard = none) (g4 : o4.guard = none)
  (t E : TypeId) (x ix : Operand) (d1 d2 d3 : Tmp) (h1 : o1.op = .indexAddr t x ix) (h2 : o2.op = .load E (.tmp d1)) (h3 : o3.op = .alloc E) (h4 : o4.op = .store E (.tmp d3) (.tmp d2))
  (k1 : o1.dst = some d1) (k2 : o2.dst = some d2) (k3 : o3.dst = some d3) (k4 : o4.dst = none) (hd1 : d1 < a.tmps.size) (hd2 : d2 < a.tmps.size) (hd3 : d3 < a.tmps.size) (h23 : d3 ≠ d2)
  (b off len cap i size : Nat) (k : IntKind) (hx : a.eval x = .slice (some ⟨b,off,none⟩) len cap) (hix : a.eval ix = .int k (i : Int)) (hi : i < len) (hu : P.underlying t = some (.slice E)) (hs : (P.info? E).map (·.size) = some size)
  (c z : List Value) (d : TypeDesc) (hr : w.rangeAt b (off + i * size) c) (hcl : c.length = size) (hE : P.underlying E = some d) (hd : d.isRow = true) (hz : Zero P E z) (hzl : z.length = size) (h1c : ∀ u ∈ c,u.oneCell' = true)
  (h : wpList P ops Q rest (((a.put (some d1) (.pointer (some ⟨b,off + i * size,none⟩))).put (some d2) (.agg c.toArray)).put (some d3) (.pointer (some ⟨w.heap.size,0,none⟩))) (w.alloc (.cells c.toArray E))) :
  wpList P ops Q (o1 :: o2 :: o3 :: o4 :: rest) a w := by
 refine wpList_index g1 t x ix h1 b off len cap i size k E hx hix hi hu hs ?_
 rw [k1]
 refine wpList_load_mid g2 E (.tmp d1) h2 b (off + i * size) (by simp [Act.put,Act.eval,hd1]) c d hr hE hd (by rw [hcl]; exact hs) ?_
 rw [k2]
 refine wpList_run (v := .pointer (some ⟨w.heap.size,0,none⟩)) (w' := w.alloc (.cells z.toArray E)) g3 (by have := hz w; unfold execOp; simp only [h3,Sem.run_bind,this]; rfl) ?_
 rw [k3]
 have hN : Blk (w.alloc (.cells z.toArray E)) w.heap.size E z := Blk.new _ _ _
 refine wpList_store_mid g4 E (.tmp d3) (.tmp d2) h4 w.heap.size 0 c.toArray (by simp [Act.put,Act.eval,hd3]) (by simp [Act.put,Act.eval,hd2,h23]) (hN.there (by simp [hcl,hzl])) (by simp [hcl,hs]) (all_oneCell_toArray h1c) ?_
 rw [k4,show c.toArray.toList = c from rfl,alloc_setAll w z c E (by omega)]
 exact h
theorem owns_fr {w w' : World} {base : Nat} {e : TypeId} {size : Nat} {v : Value} {n : Nat} {xs : List Value} (h : w.ownsRow base e size v n xs) (hf : Fr [] w w') : w'.ownsRow base e size v n xs := by
 obtain ⟨hl,h⟩ := h
 refine ⟨hl, ?_⟩
 rcases h with h | ⟨g,cap,cur,h1,h2,h3,h4⟩
 ·exact .inl h
 ·exact .inr ⟨g,cap,cur,h1,h2,(hf.block g (Array.getElem?_eq_some_iff.mp h3).1 (by simp)).trans h3,h4⟩
/-- The row's own block has the elements' type. -/
theorem owns_type {w : World} {base : Nat} {e : TypeId} {size : Nat} {v : Value} {n : Nat} {xs : List Value} (h : w.ownsRow base e size v n xs) : ∀ k,v.ownBlock = some k → ∃ c fr,w.heap[k]? = some (.cells c e fr) := by
 obtain ⟨hl,h⟩ := h
 intro k hk
 rcases h with ⟨rfl,_⟩ | ⟨g,cap,cur,rfl,h2,h3,h4⟩
 ·cases hk
 ·cases hk; exact ⟨cur,(0,0),h3⟩
/-- The row's own block, as a list. -/
def own1 (v : Value) : List Nat := match v.ownBlock with | some k => [k] | none => []
theorem own1_mem {v : Value} {k : Nat} (h : k ∈ own1 v) : v.ownBlock = some k := by
 unfold own1 at h
 split at h
 ·rename_i h'; rw [List.mem_singleton] at h; rw [h',h]
 ·cases h
theorem elem96 : Elem Tryz.prog 96 29 1 24 := Elem.mk' (by kernel_rfl) (by kernel_rfl) (by decide) (by decide)
set_option maxRecDepth 8000 in
theorem copies_c (w : World) (B : Nat) (hBw : B ≤ w.heap.size) (v : Value) (l : List (List Int)) (hv : ListB B 1 (BytE B) w v l) (hl : l.length ≤ 1000000) (hl2 : ∀ y ∈ l,y.length ≤ 1000000) :
  Calls Tryz.prog 89 #[v] w fun e w' => ∃ v',e = .returned v' ∧ Fr [] w w' ∧ ListT w'.heap.size 29 1 (BytT w'.heap.size) w' v' l := by
 obtain ⟨a,cap,rfl,hc1,hc2⟩ := hv.len
 have HV := hid hv; clear hv
 have Hl := hid hl; clear hl
 have Hl2 := hid hl2; clear hl2
 have Hc1 := hid hc1; clear hc1
 have Hc2 := hid hc2; clear hc2
 go_enter Tryz.func89,Tryz.ntmps89
 go_wp2_with fail
 go_loopg [3,4] (l.length) (fun gk v3 v4 wr => ∃ i cs vr,vr = v3 ∧ gk = l.length - i ∧ i ≤ l.length ∧ v4 = .int .i64 (i : Int) ∧ List.length cs = i ∧ (∀ c ∈ cs,List.length c = 1) ∧ wr.ownsRow w.heap.size 29 1 vr i cs.flatten ∧
  (∀ j (h : j < cs.length) (h' : j < l.length),BytT wr.heap.size wr cs[j] l[j]) ∧ Fr [] w wr)
 case atStart => exact ⟨0,[],_,rfl,rfl,Nat.zero_le _,rfl,rfl,by simp,World.ownsRow_nil _ _ _ _,by simp,Fr.refl _ _⟩
 case round =>
  obtain ⟨i,cs,vr,rfl,rfl,hi,rfl,hcl,hcs,hown,hel,hfr⟩ := hrel
  have Hcl := hid hcl; clear hcl
  have Hcs := hid hcs; clear hcs
  have Hown := hid hown; clear hown
  have Hel := hid hel; clear hel
  have Hfr := hid hfr; clear hfr
  by_cases hlt : i < l.length
  ·obtain ⟨b,off,cap',c,he,hb,hcs1,hrg,sv,hc,hsv⟩ := HV.out.at hlt (by decide)
   simp only [Value.slice.injEq] at he
   obtain ⟨rfl,_,rfl⟩ := he
   subst hc
   have hcell := hrg wr (Hfr.out.below.mono hBw) 0 sv rfl
   rw [Nat.mul_one,Nat.add_zero] at hcell
   have hlti : (i : Int) < l.length := by omega
   have hbw : b < wr.heap.size := Nat.lt_of_lt_of_le hb (Nat.le_trans hBw Hfr.out.size)
   have Hrg := hid hrg; clear hrg
   go_wp2_with fail
   have Hsv : Hid (Bytes wr sv l[i]) := (hsv.below (Hfr.out.below.mono hBw)).rd (Nat.le_trans hBw Hfr.out.size)
   have hyl := Hl2.out l[i] (List.getElem_mem hlt)
   refine (copied_c wr sv l[i] Hsv.out (by omega)).mono ?_
   rintro e w2 ⟨v0,rfl,hf2,ho2⟩
   obtain ⟨a',m',c',rfl⟩ : ∃ a' m' c',v0 = .slice a' m' c' := by
    obtain ⟨_,h⟩ := ho2
    rcases h with ⟨rfl,_⟩ | ⟨g,cap,cur,rfl,_⟩ <;> exact ⟨_,_,_,rfl⟩
   have HF2 := hid hf2; clear hf2
   have HO2 := hid ho2; clear ho2
   clear hyl hsv
   have HF3 : Hid (Fr [] w2 (w2.alloc (.cells #[.slice a' m' c'] 29))) := (Fr.refl _ _).alloc _
   have HOr : Hid ((w2.alloc (.cells #[.slice a' m' c'] 29)).ownsRow w.heap.size 29 1 vr i cs.flatten) := owns_fr (owns_fr Hown.out HF2.out) HF3.out
   have HN : Hid (Blk (w2.alloc (.cells #[.slice a' m' c'] 29)) w2.heap.size 29 [.slice a' m' c']) := Blk.new _ _ _
   have HS : Hid (∀ ad,some (⟨w2.heap.size,0,none⟩ : Addr) = some ad → ∀ j u,([.slice a' m' c'] : List Value)[j]? = some u → (w2.alloc (.cells #[.slice a' m' c'] 29)).cell? (ad.add j) = some u) := by
    intro ad had j u hj
    cases had
    rw [Addr.add_mid]; exact HN.out.range j u hj
   have hv1 : (Value.slice a' m' c').oneCell' = true := rfl
   have H1 : Hid (∀ u ∈ ([.slice a' m' c'] : List Value),u.oneCell' = true) := by intro u hu; rw [List.mem_singleton] at hu; subst hu; exact hv1
   have Hn : Hid (some (⟨w2.heap.size,0,none⟩ : Addr) = none → 1 = 0 ∧ 1 = 0) := by intro h; cases h
   have Hby : Hid ((i + 1) * 24 ≤ 140737488355328) := by have := Hl.out; show _ ≤ _; omega
   have Hbs : Hid (w.heap.size ≤ (w2.alloc (.cells #[.slice a' m' c'] 29)).heap.size) := by have := Hfr.out.size; have := HF2.out.size; have := HF3.out.size; show _ ≤ _; omega
   have HT := hid (owns_type HOr.out)
   have HSS : Hid (∀ k,vr.ownBlock = some k → k ∈ own1 vr ∨ (w2.alloc (.cells #[.slice a' m' c'] 29)).heap.size ≤ k) := by
    intro k hk; unfold own1; rw [hk]; simp
   have Hr3 : Hid (Fr (own1 vr) (w2.alloc (.cells #[.slice a' m' c'] 29)) (w2.alloc (.cells #[.slice a' m' c'] 29))) := Fr.refl _ _
   have hl1 : ([.slice a' m' c'] : List Value).length = 1 * 1 := rfl
   go_wp2_with (with_reducible refine wpList_app (o := ⟨some 18,_,_,_,_,_⟩) rfl _ _ 96 rfl 29 1 24 elem96 w.heap.size vr i cs.flatten ?_ HOr.out (some ⟨w2.heap.size,0,none⟩) 1 1 [.slice a' m' c'] ?_ hl1 Hn.out HS.out H1.out Hby.out Hbs.out _ _ Hr3.out HSS.out ?_)
   ·rfl
   ·rfl
   intro v4 w4 ho4 hf4
   have HFT : Hid (FrT 29 w2 w4) := by
    refine Fr.frT (S := own1 vr) ((HF3.out.mono (by simp)).trans hf4.out) (fun k hk _ => ?_)
    exact owns_type (owns_fr Hown.out HF2.out) k (own1_mem hk)
   have HFA : Hid (Fr [] w w4) := ((Hfr.out.trans HF2.out).trans HF3.out).andThen hf4.out (fun k hk => .inr (HOr.out.lt k (own1_mem hk)).1)
   have hi6 : (i : Int) < 1000000 := by have := Hl.out; omega
   go_wp2_with fail
   go_roundg (l.length - (i + 1))
   case measure => omega
   case rel =>
    refine ⟨i + 1,cs ++ [[.slice a' m' c']],_,rfl,rfl,by omega,by simp,by simp [Hcl.out], ?_,by simpa using ho4.out, ?_, ?_⟩
    ·intro c hc
     rcases List.mem_append.mp hc with h | h
     ·exact Hcs.out c h
     ·rw [List.mem_singleton] at h; subst h; rfl
    ·intro j h h'
     by_cases hji : j < cs.length
     ·rw [List.getElem_append_left hji]
      exact (((Hel.out j hji h').below HF2.out.below).frT HFT.out (by decide)).mono (Nat.le_trans HF2.out.size HFT.out.size)
     ·have hj : j = cs.length := by simp at h; omega
      subst hj
      have e : (cs ++ [[Value.slice a' m' c']])[cs.length]'h = [.slice a' m' c'] := by simp
      rw [e]
      refine ⟨_,rfl, ?_⟩
      have h5 := ((owns_rdT HO2.out).frT HFT.out (by decide)).mono HFT.out.size
      have e2 : l[cs.length]'(h') = l[i] := by congr 1
      rw [e2]; exact h5
    ·exact HFA.out
  ·go_wp2_with fail
   go_ret
   obtain rfl : i = l.length := by omega
   refine ⟨_,rfl,Hfr.out,cs,Hcl.out,Hcs.out,owns_rdT Hown.out,Hel.out⟩
section
/-- A list that grows, in a row of the call's own: its elements so far. -/
def Grows {α : Type} (base : Nat) (T : TypeId) (size : Nat) (E : World → List Value → α → Prop) (w : World) (v : Value) (l : List α) : Prop :=
 ∃ cs : List (List Value),cs.length = l.length ∧ (∀ c ∈ cs,c.length = size) ∧ w.ownsRow base T size v l.length cs.flatten ∧ ∀ i (h : i < cs.length) (h' : i < l.length),E w cs[i] l[i]
section
variable {α : Type} {base : Nat} {T : TypeId} {size : Nat} {E E' : World → List Value → α → Prop} {w w' : World} {v : Value} {l : List α}
theorem Grows.nil (w : World) : Grows base T size E w (.slice none 0 0) ([] : List α) := ⟨[],rfl,by simp,World.ownsRow_nil _ _ _ _,by simp⟩
theorem Grows.listT (h : Grows base T size E w v l) : ListT w.heap.size T size E w v l := by
 obtain ⟨cs,h1,h2,h3,h4⟩ := h
 exact ⟨cs,h1,h2,owns_rdT h3,h4⟩
theorem Grows.fr (h : Grows base T size E w v l) (hf : Fr [] w w') (hE : ∀ c x,E w c x → E' w' c x) : Grows base T size E' w' v l := by
 obtain ⟨cs,h1,h2,h3,h4⟩ := h
 exact ⟨cs,h1,h2,owns_fr h3 hf,fun i h h' => hE _ _ (h4 i h h')⟩
theorem owns_frT {T' : TypeId} {n : Nat} {xs : List Value} (h : w.ownsRow base T size v n xs) (hf : FrT T' w w') (hT : T ≠ T') : w'.ownsRow base T size v n xs := by
 obtain ⟨hl,h⟩ := h
 refine ⟨hl, ?_⟩
 rcases h with h | ⟨g,cap,cur,h1,h2,h3,h4⟩
 ·exact .inl h
 ·exact .inr ⟨g,cap,cur,h1,h2,(hf.block g (Array.getElem?_eq_some_iff.mp h3).1 (fun c fr he => by rw [h3] at he; simp at he; exact hT he.2.1)).trans h3,h4⟩
theorem Grows.frT {T' : TypeId} (h : Grows base T size E w v l) (hf : FrT T' w w') (hT : T ≠ T') (hE : ∀ c x,E w c x → E' w' c x) : Grows base T size E' w' v l := by
 obtain ⟨cs,h1,h2,h3,h4⟩ := h
 exact ⟨cs,h1,h2,owns_frT h3 hf hT,fun i h h' => hE _ _ (h4 i h h')⟩
theorem Grows.own (h : Grows base T size E w v l) : ∀ k,v.ownBlock = some k → base ≤ k ∧ k < w.heap.size ∧ ∃ c fr,w.heap[k]? = some (.cells c T fr) := by
 obtain ⟨cs,h1,h2,h3,h4⟩ := h
 intro k hk
 exact ⟨(h3.lt k hk).1,(h3.lt k hk).2,owns_type h3 k hk⟩
theorem Grows.slice (h : Grows base T size E w v l) : ∃ ao c,v = .slice ao l.length c := by
 obtain ⟨cs,h1,h2,⟨_,h3⟩,h4⟩ := h
 rcases h3 with ⟨rfl,h⟩ | ⟨g,cap,cur,rfl,_⟩
 ·rw [h]; exact ⟨_,_,rfl⟩
 ·exact ⟨_,_,rfl⟩
theorem Grows.count (h : Grows base T size E w v l) : l.length ≤ maxLen := by
 obtain ⟨cs,h1,h2,⟨_,h3⟩,h4⟩ := h
 rcases h3 with ⟨rfl,h⟩ | ⟨g,cap,cur,rfl,_,_,h5,h6,_⟩ <;> omega
end
theorem wpList_push {α : Type} {P : Program} {w : World} {ops : Array Oper} {rest : List Oper} {o : Oper} {a : Act} {Q : Exit → Act → World → Prop} (hgd : o.guard = none) (s x : Operand) (t : TypeId)
  (ho : o.op = .call { callee := .builtin .append,args := #[s,x],argTypes := #[t,t] })
  (T : TypeId) (size bytes : Nat) (he : Elem P t T size bytes) (base : Nat) (E : World → List Value → α → Prop)
  (v : Value) (l : List α) (hs : a.eval s = v) (hown : Grows base T size E w v l)
  (N : Nat) (T' : TypeId) (c : List Value) (hN : Blk w N T' c) (hx : a.eval x = .slice (some ⟨N,0,none⟩) 1 1) (hcl : c.length = size) (h1 : ∀ u ∈ c,u.oneCell' = true)
  (hE : ∀ w',FrT T w w' → ∀ c y,E w c y → E w' c y) (y : α) (hy : E w c y)
  (hbytes : (l.length + 1) * bytes ≤ 140737488355328) (hbase : base ≤ w.heap.size)
  (h : ∀ v' w',Hid (Grows base T size E w' v' (l ++ [y])) → Hid (FrT T w w') → Hid (Fr (own1 v) w w') → wpList P ops Q rest (a.put o.dst v') w') : wpList P ops Q (o :: rest) a w := by
 obtain ⟨cs,k1,k2,k3,k4⟩ := hown
 refine wpList_app hgd s x t ho T size bytes he base v l.length cs.flatten hs k3 (some ⟨N,0,none⟩) 1 1 c hx (by omega) (by intro h; cases h) ?_ h1 hbytes hbase (own1 v) w (Fr.refl _ _) (fun k hk => .inl (by unfold own1; rw [hk]; simp)) ?_
 ·intro ad had j u hj
  cases had
  rw [Addr.add_mid]; exact hN.range j u hj
 ·intro v' w' ho' hf'
  have hft : FrT T w w' := hf'.out.frT (fun k hk _ => owns_type k3 k (own1_mem hk))
  refine h v' w' ⟨cs ++ [c],by simp [k1], ?_,by simpa using ho'.out, ?_⟩ hft hf'
  ·intro d hd
   rcases List.mem_append.mp hd with h | h
   ·exact k2 d h
   ·rw [List.mem_singleton] at h; subst h; exact hcl
  ·intro i hi hi'
   by_cases hic : i < cs.length
   ·rw [List.getElem_append_left hic,List.getElem_append_left (by omega)]
    exact hE w' hft _ _ (k4 i hic (by omega))
   ·have hi2 : i = cs.length := by simp at hi; omega
    subst hi2
    have e1 : (cs ++ [c])[cs.length]'hi = c := by simp
    have e2 : (l ++ [y])[cs.length]'hi' = y := by simp [k1]
    rw [e1,e2]
    exact hE w' hft _ _ hy
end
section
set_option maxRecDepth 8000
theorem newOut_c (w : World) (h o : Nat) (p : OutP) (hp : p.Ok) (hh : w.rangeAt h o (ic .u8 p.hash)) : Calls Tryz.prog 140 #[.pointer (some ⟨h,o,none⟩),.int .u32 p.idx] w fun e w' => Fr [] w w' ∧ ∃ g,w.heap.size ≤ g ∧ e = .returned (.pointer (some ⟨g,0,none⟩)) ∧ Blk w' g 230 p.cells := by
 go_enter Tryz.func140,Tryz.ntmps140
 go_upto_region 1 with fail
 refine wp_region_lit ?_
 refine wpList_run rfl rfl ?_
 refine wpList_run rfl rfl ?_
 refine wpList_load_mid rfl 81 (.tmp 6) rfl h o rfl (ic .u8 p.hash) (.array 32 5) hh rfl rfl (by rw [ic_length,hp.len]; kernel_rfl) ?_
 refine wpList_run rfl rfl ?_
 refine wpList_build rfl 230 _ rfl [(0,.agg (ic .u8 p.hash).toArray),(1,.int .u32 p.idx)] (by simp only [List.map_toArray]; rfl) [ic .u8 (List.replicate 32 0),[.int .u32 0]] (by kernel_rfl) (by simp [offs,Value.cells,hp.len]) p.cells (by simp [OutP.cells,Value.cells]) ?_
 refine wpList_run (v := .pointer (some ⟨w.heap.size,0,none⟩)) (w' := w.alloc (.cells p.cells.toArray 230)) rfl rfl ?_
 refine wpList_run rfl rfl ?_
 simp only [Act.put,nA,nB,nC]
 refine wpList_nil ?_
 refine (‹∀ (a : Act) (w : World),Code.wp Tryz.prog Code.ret _ a w → _›) _ _ ?_
 refine wp_ret ?_
 go_ret
 exact ⟨(Fr.refl _ _).alloc _,w.heap.size,Nat.le_refl _,rfl,Blk.new _ _ _⟩
end
/-- A fresh btcutil.Block over a message. -/
def blkNew (m : Nat) : List Value := [.pointer (some ⟨m,0,none⟩),.slice none 0 0,.slice none 0 0,.pointer none,.int .i32 (-1),.slice none 0 0,.bool false]
theorem newBlock_c (w : World) (m : Nat) : Calls Tryz.prog 44 #[.pointer (some ⟨m,0,none⟩)] w fun e w' => e = .returned (.pointer (some ⟨w.heap.size,0,none⟩)) ∧ Fr [] w w' ∧ Blk w' w.heap.size 188 (blkNew m) := by
 go_enter Tryz.func44,Tryz.ntmps44
 go_wp2_with fail
 go_ret
 exact ⟨rfl,(Fr.refl _ _).alloc _,Blk.new w (blkNew m) 188⟩
end Go.Proofs.YtdllckiidegpcaaGreat
