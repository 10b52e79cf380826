/- A part of the walk of laws.FnPartial (part 3): contracts of functions that it comes to, and the plain laws that these lean on. Conditions stand in each contract. -/
import Derived.Test.YtdllckiidegpcaaGreatA01
set_option linter.unusedSimpArgs false
set_option linter.unusedVariables false
namespace Go.Proofs.YtdllckiidegpcaaGreat
open Go.RowKit
structure Hdr where
 version : Int
 prev : List Int
 root : List Int
 time : Int
 bits : Int
 nonce : Int
structure Hdr.Ok (h : Hdr) : Prop where
 version : -2147483648 ≤ h.version ∧ h.version < 2147483648
 prev : h.prev.length = 32
 root : h.root.length = 32
 time : 0 ≤ h.time ∧ h.time < 4294967296
def Hdr.cells (h : Hdr) : List Value := .int .i32 h.version :: (ic .u8 h.prev ++ (ic .u8 h.root ++ [.int .u32 h.time,.int .u32 h.bits,.int .u32 h.nonce]))
/-- The same in wire's type: the time is of 64 bits. -/
def Hdr.wire (h : Hdr) : List Value := .int .i32 h.version :: (ic .u8 h.prev ++ (ic .u8 h.root ++ [.int .i64 h.time,.int .u32 h.bits,.int .u32 h.nonce]))
theorem Hdr.cells_length {h : Hdr} (k : h.Ok) : h.cells.length = 68 := by simp [Hdr.cells,k.prev,k.root]
theorem Hdr.wire_length {h : Hdr} (k : h.Ok) : h.wire.length = 68 := by simp [Hdr.wire,k.prev,k.root]
theorem ints_src {k : IntKind} {w : World} {v : Value} {l : List Int} (hv : Ints k w v l) : ∃ ao c,v = .slice ao l.length c ∧ (ao = none → l.length = 0 ∧ c = 0) ∧ ∀ ad,ao = some ad → ∀ j u,(ic k l)[j]? = some u → w.cell? (ad.add j) = some u := by
 obtain ⟨a,cap,rfl,h1,h2,h3⟩ := ints_cases hv
 refine ⟨a,cap,rfl, ?_, ?_⟩
 ·intro h; rcases h3 with ⟨rfl,_,rfl⟩ | ⟨b,off,rfl,_⟩
  ·simp
  ·cases h
 ·intro ad h j u hj
  rcases h3 with ⟨_,_,rfl⟩ | ⟨b,off,rfl,hb,hc⟩
  ·simp [ic] at hj
  ·cases h
   have hj' := (List.getElem?_eq_some_iff.mp hj).1
   rw [Addr.add_mid,hc j (by simpa using hj'),← hj,List.getElem?_eq_getElem hj',ic_nth]
theorem owns_empty (w : World) (e : TypeId) (size : Nat) : (w.alloc (.cells #[] e)).ownsRow w.heap.size e size (.slice (some ⟨w.heap.size,0,none⟩) 0 0) 0 [] :=
 ⟨by simp,.inr ⟨w.heap.size,0,#[],rfl,Nat.le_refl _,heap_alloc_new w _,Nat.le_refl _,Nat.zero_le _,by simp,by simp⟩⟩
theorem copied_c (w : World) (v : Value) (l : List Int) (hv : Bytes w v l) (hl : l.length ≤ 140737488355328) :
  Calls Tryz.prog 47 #[v] w fun e w' => ∃ v',e = .returned v' ∧ Fr [] w w' ∧ w'.ownsRow w.heap.size 5 1 v' l.length (ic .u8 l) := by
 have HF : Hid (Fr [] w (w.alloc (.cells #[] 5))) := (Fr.refl _ _).alloc _
 obtain ⟨ao,c,rfl,hn,hs⟩ := ints_src (Rd.below hv HF.out.below)
 have Hn := hid hn; clear hn
 have Hs := hid hs; clear hs
 have Hl : Hid ((0 + l.length) * 1 ≤ 140737488355328) := by show _ ≤ _; omega
 have Hll : Hid ((ic .u8 l).length = l.length * 1) := by show _ = _; simp
 have Hb : Hid (w.heap.size ≤ (w.alloc (.cells #[] 5)).heap.size) := by show _ ≤ _; simp
 have HS : Hid (∀ k,(Value.slice (some ⟨w.heap.size,0,none⟩) 0 0).ownBlock = some k → k ∈ [] ∨ w.heap.size ≤ k) := by
  intro k h; cases h; exact .inr (Nat.le_refl _)
 clear hv hl
 go_enter Tryz.func47,Tryz.ntmps47
 go_wp2_with (with_reducible refine wpList_app (o := ⟨some 5,_,_,_,_,_⟩) rfl _ _ 29 rfl 5 1 1 elem29 w.heap.size _ 0 [] ?_ (owns_empty w 5 1) ao l.length c (ic .u8 l) ?_ Hll.out Hn.out Hs.out (ic_one _ _) Hl.out Hb.out [] w HF.out HS.out ?_)
 ·rfl
 ·rfl
 intro v' w' ho hf
 go_wp2_with fail
 go_ret
 refine ⟨_,rfl,hf.out, ?_⟩
 simpa using ho.out
section
/-- A slice of n elements whose cells are xs, in a block below B. -/
def RdB (B : Nat) (w : World) (v : Value) (n : Nat) (xs : List Value) : Prop :=
 ∃ a cap,v = .slice a n cap ∧ n ≤ cap ∧ cap ≤ maxLen ∧
  ((cap = 0 ∧ cap = 0 ∧ xs = []) ∨ ∃ b off,a = some ⟨b,off,none⟩ ∧ b < B ∧ ∀ i (h : i < xs.length),w.cell? ⟨b,off + i,none⟩ = some xs[i])
abbrev IntsB (k : IntKind) (B : Nat) (w : World) (v : Value) (l : List Int) : Prop := RdB B w v l.length (ic k l)
abbrev BytesB (B : Nat) (w : World) (v : Value) (l : List Int) : Prop := IntsB .u8 B w v l
section
variable {B B' : Nat} {w w' : World} {v : Value} {n : Nat} {xs : List Value}
theorem RdB.below (h : RdB B w v n xs) (hb : Below B w w') : RdB B w' v n xs := by
 obtain ⟨a,cap,rfl,h1,h2,h3⟩ := h
 refine ⟨a,cap,rfl,h1,h2, ?_⟩
 rcases h3 with h3 | ⟨b,off,rfl,hlt,hc⟩
 ·exact .inl h3
 ·exact .inr ⟨b,off,rfl,hlt,fun i hi => (hb.cell (p := ⟨b,off + i,none⟩) hlt).trans (hc i hi)⟩
theorem RdB.mono (h : RdB B w v n xs) (hb : B ≤ B') : RdB B' w v n xs := by
 obtain ⟨a,cap,rfl,h1,h2,h3⟩ := h
 refine ⟨a,cap,rfl,h1,h2, ?_⟩
 rcases h3 with h3 | ⟨b,off,rfl,hlt,hc⟩
 ·exact .inl h3
 ·exact .inr ⟨b,off,rfl,by omega,hc⟩
theorem RdB.rd (h : RdB B w v n xs) (hb : B ≤ w.heap.size) : Rd w v n xs := h.mono hb
theorem Rd.rdB (h : Rd w v n xs) : RdB w.heap.size w v n xs := h
theorem owns_rdB {base : Nat} {e : TypeId} {size : Nat} (h : w.ownsRow base e size v n xs) : RdB w.heap.size w v n xs := owns_rd h
end
/-- A slice of elements of 'size' cells each; E says what an element's cells stand for. -/
def ListB {α : Type} (B size : Nat) (E : World → List Value → α → Prop) (w : World) (v : Value) (l : List α) : Prop :=
 ∃ cs : List (List Value),cs.length = l.length ∧ (∀ c ∈ cs,c.length = size) ∧ RdB B w v l.length cs.flatten ∧ ∀ i (h : i < cs.length) (h' : i < l.length),E w cs[i] l[i]
theorem flat_get {α : Type} {size : Nat} : ∀ (cs : List (List α)),(∀ c ∈ cs,c.length = size) → ∀ (i j : Nat) (h : i < cs.length) (hj : j < size),cs.flatten[i * size + j]? = (cs[i])[j]? := by
 intro cs
 induction cs with
 | nil => intro _ i j h; simp at h
 | cons c cs ih =>
  intro hc i j h hj
  have hl := hc c (by simp)
  cases i with
  | zero => simp only [List.flatten_cons,Nat.zero_mul,Nat.zero_add,List.getElem_cons_zero]; rw [List.getElem?_append_left (by omega)]
  | succ i =>
   simp only [List.flatten_cons,List.getElem_cons_succ]
   rw [List.getElem?_append_right (by rw [Nat.succ_mul]; omega),← ih (fun c hc' => hc c (by simp [hc'])) i j (by simpa using h) hj]
   congr 1
   rw [Nat.succ_mul]; omega
theorem flat_length {α : Type} {size : Nat} : ∀ (cs : List (List α)),(∀ c ∈ cs,c.length = size) → cs.flatten.length = cs.length * size := by
 intro cs
 induction cs with
 | nil => intro _; simp
 | cons c cs ih =>
  intro hc
  rw [List.flatten_cons,List.length_append,ih (fun c hc' => hc c (by simp [hc'])),hc c (by simp),List.length_cons,Nat.succ_mul]; omega
section
variable {α : Type} {B B' size : Nat} {E E' : World → List Value → α → Prop} {w w' : World} {v : Value} {l : List α}
theorem ListB.below (h : ListB B size E w v l) (hb : Below B w w') (hE : ∀ c x,E w c x → E w' c x) : ListB B size E w' v l := by
 obtain ⟨cs,h1,h2,h3,h4⟩ := h
 exact ⟨cs,h1,h2,h3.below hb,fun i h h' => hE _ _ (h4 i h h')⟩
theorem ListB.mono (h : ListB B size E w v l) (hb : B ≤ B') (hE : ∀ c x,E w c x → E' w c x) : ListB B' size E' w v l := by
 obtain ⟨cs,h1,h2,h3,h4⟩ := h
 exact ⟨cs,h1,h2,h3.mono hb,fun i h h' => hE _ _ (h4 i h h')⟩
theorem ListB.len (h : ListB B size E w v l) : ∃ a cap,v = .slice a l.length cap ∧ l.length ≤ cap ∧ cap ≤ maxLen := by
 obtain ⟨cs,h1,h2,⟨a,cap,h3,h5,h6,h7⟩,h4⟩ := h
 exact ⟨a,cap,h3,h5,h6⟩
/-- The element at place i: its cells lie in a block below B, one behind the other. -/
theorem ListB.at (h : ListB B size E w v l) {i : Nat} (hi : i < l.length) (hsz : 0 < size) : ∃ b off cap c,v = .slice (some ⟨b,off,none⟩) l.length cap ∧ b < B ∧ c.length = size ∧ (∀ w',Below B w w' → w'.rangeAt b (off + i * size) c) ∧ E w c l[i] := by
 obtain ⟨cs,h1,h2,⟨a,cap,h3,h5,h6,h7⟩,h4⟩ := h
 have hfl := flat_length cs h2
 have hic : i < cs.length := by omega
 have hpos : 0 < cs.flatten.length := by rw [hfl]; exact Nat.mul_pos (by omega) hsz
 rcases h7 with ⟨_,_,h7⟩ | ⟨b,off,rfl,hlt,hc⟩
 ·rw [h7] at hpos; simp at hpos
 ·refine ⟨b,off,cap,cs[i],h3,hlt,h2 _ (List.getElem_mem _), ?_,h4 i hic hi⟩
  intro w' hb j u hu
  have hj := (List.getElem?_eq_some_iff.mp hu).1
  have hlen := h2 _ (List.getElem_mem hic)
  rw [hlen] at hj
  have hg := flat_get cs h2 i j hic hj
  rw [hu] at hg
  have hlt2 := (List.getElem?_eq_some_iff.mp hg).1
  rw [hb.cell (p := ⟨b,off + i * size + j,none⟩) hlt,Nat.add_assoc,hc _ hlt2]
  rw [List.getElem?_eq_getElem hlt2] at hg
  exact hg
end
end
section
structure OutP where
 hash : List Int
 idx : Int
structure TxIn where
 prev : OutP
 script : List Int
 wit : List (List Int)
 seq : Int
structure TxOut where
 value : Int
 script : List Int
structure Tx where
 version : Int
 ins : List TxIn
 outs : List TxOut
 lock : Int
structure Blck where
 hdr : Hdr
 txs : List Tx
structure OutP.Ok (p : OutP) : Prop where
 len : p.hash.length = 32
 u8 : U8 p.hash
 idx : 0 ≤ p.idx ∧ p.idx < 4294967296
structure TxIn.Ok (x : TxIn) : Prop where
 prev : x.prev.Ok
 u8 : U8 x.script
 wit : ∀ y ∈ x.wit,U8 y
 seq : 0 ≤ x.seq ∧ x.seq < 4294967296
structure TxOut.Ok (x : TxOut) : Prop where
 u8 : U8 x.script
 value : -9223372036854775808 ≤ x.value ∧ x.value < 9223372036854775808
structure Tx.Ok (t : Tx) : Prop where
 version : -2147483648 ≤ t.version ∧ t.version < 2147483648
 ins : ∀ x ∈ t.ins,x.Ok
 outs : ∀ x ∈ t.outs,x.Ok
 lock : 0 ≤ t.lock ∧ t.lock < 4294967296
def OutP.cells (p : OutP) : List Value := ic .u8 p.hash ++ [.int .u32 p.idx]
theorem OutP.cells_length {p : OutP} (h : p.Ok) : p.cells.length = 33 := by simp [OutP.cells,h.len]
/-- []byte as an element of a slice. -/
def BytE (B : Nat) (w : World) (c : List Value) (l : List Int) : Prop := ∃ v,c = [v] ∧ BytesB B w v l
def TxInE (B : Nat) (w : World) (c : List Value) (x : TxIn) : Prop :=
 ∃ sv wv,c = x.prev.cells ++ [sv,wv,.int .u32 x.seq] ∧ BytesB B w sv x.script ∧ ListB B 1 (BytE B) w wv x.wit
def TxOutE (B : Nat) (w : World) (c : List Value) (x : TxOut) : Prop :=
 ∃ sv,c = [.int .i64 x.value,sv] ∧ BytesB B w sv x.script
def TxE (B : Nat) (w : World) (c : List Value) (t : Tx) : Prop :=
 ∃ iv ov,c = [.int .i32 t.version,iv,ov,.int .u32 t.lock] ∧ ListB B 36 (TxInE B) w iv t.ins ∧ ListB B 2 (TxOutE B) w ov t.outs
def BlckE (B : Nat) (w : World) (c : List Value) (k : Blck) : Prop :=
 ∃ tv,c = k.hdr.cells ++ [tv] ∧ ListB B 4 (TxE B) w tv k.txs
/-- A pointer to an object of type T below B, whose cells stand for x. -/
def PtrE {α : Type} (B : Nat) (T : TypeId) (E : World → List Value → α → Prop) (w : World) (c : List Value) (x : α) : Prop :=
 ∃ g d,c = [.pointer (some ⟨g,0,none⟩)] ∧ g < B ∧ Blk w g T d ∧ E w d x
/-- wire's transaction: the same data, its inputs and outputs behind pointers. -/
def MsgTxE (B : Nat) (w : World) (c : List Value) (t : Tx) : Prop :=
 ∃ iv ov,c = [.int .i32 t.version,iv,ov,.int .u32 t.lock] ∧ ListB B 1 (PtrE B 233 (TxInE B)) w iv t.ins ∧ ListB B 1 (PtrE B 236 (TxOutE B)) w ov t.outs
def MsgBlockE (B : Nat) (w : World) (c : List Value) (k : Blck) : Prop :=
 ∃ tv,c = k.hdr.wire ++ [tv] ∧ ListB B 1 (PtrE B 227 (MsgTxE B)) w tv k.txs
section
variable {B B' : Nat} {w w' : World} {c : List Value}
theorem BytE.below {l : List Int} (h : BytE B w c l) (hb : Below B w w') : BytE B w' c l := by
 obtain ⟨v,rfl,h⟩ := h; exact ⟨v,rfl,h.below hb⟩
theorem BytE.mono {l : List Int} (h : BytE B w c l) (hb : B ≤ B') : BytE B' w c l := by
 obtain ⟨v,rfl,h⟩ := h; exact ⟨v,rfl,h.mono hb⟩
theorem TxInE.below {x : TxIn} (h : TxInE B w c x) (hb : Below B w w') : TxInE B w' c x := by
 obtain ⟨sv,wv,rfl,h1,h2⟩ := h; exact ⟨sv,wv,rfl,h1.below hb,h2.below hb (fun _ _ h => h.below hb)⟩
theorem TxInE.mono {x : TxIn} (h : TxInE B w c x) (hb : B ≤ B') : TxInE B' w c x := by
 obtain ⟨sv,wv,rfl,h1,h2⟩ := h; exact ⟨sv,wv,rfl,h1.mono hb,h2.mono hb (fun _ _ h => h.mono hb)⟩
theorem TxOutE.below {x : TxOut} (h : TxOutE B w c x) (hb : Below B w w') : TxOutE B w' c x := by
 obtain ⟨sv,rfl,h1⟩ := h; exact ⟨sv,rfl,h1.below hb⟩
theorem TxOutE.mono {x : TxOut} (h : TxOutE B w c x) (hb : B ≤ B') : TxOutE B' w c x := by
 obtain ⟨sv,rfl,h1⟩ := h; exact ⟨sv,rfl,h1.mono hb⟩
theorem TxE.below {t : Tx} (h : TxE B w c t) (hb : Below B w w') : TxE B w' c t := by
 obtain ⟨iv,ov,rfl,h1,h2⟩ := h; exact ⟨iv,ov,rfl,h1.below hb (fun _ _ h => h.below hb),h2.below hb (fun _ _ h => h.below hb)⟩
theorem TxE.mono {t : Tx} (h : TxE B w c t) (hb : B ≤ B') : TxE B' w c t := by
 obtain ⟨iv,ov,rfl,h1,h2⟩ := h; exact ⟨iv,ov,rfl,h1.mono hb (fun _ _ h => h.mono hb),h2.mono hb (fun _ _ h => h.mono hb)⟩
theorem BlckE.below {k : Blck} (h : BlckE B w c k) (hb : Below B w w') : BlckE B w' c k := by
 obtain ⟨tv,rfl,h1⟩ := h; exact ⟨tv,rfl,h1.below hb (fun _ _ h => h.below hb)⟩
theorem PtrE.below {α : Type} {T : TypeId} {E : World → List Value → α → Prop} {x : α} (h : PtrE B T E w c x) (hb : Below B w w') (hE : ∀ c x,E w c x → E w' c x) : PtrE B T E w' c x := by
 obtain ⟨g,d,rfl,h1,h2,h3⟩ := h; exact ⟨g,d,rfl,h1,h2.below hb h1,hE _ _ h3⟩
theorem PtrE.mono {α : Type} {T : TypeId} {E E' : World → List Value → α → Prop} {x : α} (h : PtrE B T E w c x) (hb : B ≤ B') (hE : ∀ c x,E w c x → E' w c x) : PtrE B' T E' w c x := by
 obtain ⟨g,d,rfl,h1,h2,h3⟩ := h; exact ⟨g,d,rfl,by omega,h2,hE _ _ h3⟩
theorem MsgTxE.below {t : Tx} (h : MsgTxE B w c t) (hb : Below B w w') : MsgTxE B w' c t := by
 obtain ⟨iv,ov,rfl,h1,h2⟩ := h
 exact ⟨iv,ov,rfl,h1.below hb (fun _ _ h => h.below hb (fun _ _ h => h.below hb)),h2.below hb (fun _ _ h => h.below hb (fun _ _ h => h.below hb))⟩
theorem MsgTxE.mono {t : Tx} (h : MsgTxE B w c t) (hb : B ≤ B') : MsgTxE B' w c t := by
 obtain ⟨iv,ov,rfl,h1,h2⟩ := h
 exact ⟨iv,ov,rfl,h1.mono hb (fun _ _ h => h.mono hb (fun _ _ h => h.mono hb)),h2.mono hb (fun _ _ h => h.mono hb (fun _ _ h => h.mono hb))⟩
theorem MsgBlockE.below {k : Blck} (h : MsgBlockE B w c k) (hb : Below B w w') : MsgBlockE B w' c k := by
 obtain ⟨tv,rfl,h1⟩ := h
 exact ⟨tv,rfl,h1.below hb (fun _ _ h => h.below hb (fun _ _ h => h.below hb))⟩
theorem MsgBlockE.mono {k : Blck} (h : MsgBlockE B w c k) (hb : B ≤ B') : MsgBlockE B' w c k := by
 obtain ⟨tv,rfl,h1⟩ := h
 exact ⟨tv,rfl,h1.mono hb (fun _ _ h => h.mono hb (fun _ _ h => h.mono hb))⟩
end
end
theorem unix_c (w : World) (s n : Int) : Calls Tryz.prog 114 #[.int .i64 s,.int .i64 n] w fun e w' => e = .returned (.agg #[.int .i64 s]) ∧ Fr [] w w' := by
 go_enter Tryz.func114,Tryz.ntmps114
 go_wp2_with fail
 go_returns
 exact ⟨rfl,(Fr.refl _ _).alloc _⟩
theorem rangeAt_fr {w w' : World} {b o : Nat} {cs : List Value} (h : w.rangeAt b o cs) (hf : Fr [] w w') (hb : b < w.heap.size) : w'.rangeAt b o cs := fun j v hv => by
 rw [hf.cells.1 _ _ hb (by simp)]; exact h j v hv
/-- The part of a block that lies behind 'pre'. -/
theorem Blk.part {w : World} {g : Nat} {T : TypeId} {xs : List Value} (h : Blk w g T xs) (pre cs post : List Value) (hx : xs = pre ++ (cs ++ post)) : w.rangeAt g pre.length cs := fun j v hv => by
 have hj := (List.getElem?_eq_some_iff.mp hv).1
 refine h.cell_at ?_
 rw [hx,List.getElem?_append_right (by omega),Nat.add_sub_cancel_left,List.getElem?_append_left hj]
 exact hv
set_option maxRecDepth 8000 in
theorem headerOf_c (w : World) (h : Hdr) (hk : h.Ok) : Calls Tryz.prog 85 #[.agg h.cells.toArray] w fun e w' => ∃ g,e = .returned (.pointer (some ⟨g,0,none⟩)) ∧ Fr [] w w' ∧ w.heap.size ≤ g ∧ Blk w' g 118 h.wire := by
 go_enter Tryz.func85,Tryz.ntmps85
 go_wp2_with fail
 have hB1 : Blk (w.alloc (.cells h.cells.toArray 25)) w.heap.size 25 h.cells := Blk.new _ _ _
 have hF1 : Fr [] w (w.alloc (.cells h.cells.toArray 25)) := (Fr.refl _ _).alloc _
 generalize World.alloc w _ = w1 at hB1 hF1 ⊢
 obtain ⟨B,hB⟩ : ∃ B,B = w.heap.size := ⟨_,rfl⟩
 rw [← hB] at hB1 ⊢
 have HB := hid hB; clear hB
 have hl := hB1.lt
 have c0 : ∀ w',Fr [] w1 w' → w'.cell? ⟨B,0,none⟩ = some (.int .i32 h.version) := fun w' hf => by rw [hf.cells.1 _ _ hl (by simp)]; exact hB1.cell_at (by simp [Hdr.cells])
 have c65 : ∀ w',Fr [] w1 w' → w'.cell? ⟨B,65,none⟩ = some (.int .u32 h.time) := fun w' hf => by rw [hf.cells.1 _ _ hl (by simp)]; exact hB1.cell_at (by simp [Hdr.cells,hk.prev,hk.root])
 have c66 : ∀ w',Fr [] w1 w' → w'.cell? ⟨B,66,none⟩ = some (.int .u32 h.bits) := fun w' hf => by rw [hf.cells.1 _ _ hl (by simp)]; exact hB1.cell_at (by simp [Hdr.cells,hk.prev,hk.root])
 have c67 : ∀ w',Fr [] w1 w' → w'.cell? ⟨B,67,none⟩ = some (.int .u32 h.nonce) := fun w' hf => by rw [hf.cells.1 _ _ hl (by simp)]; exact hB1.cell_at (by simp [Hdr.cells,hk.prev,hk.root])
 have r1 : w1.rangeAt B 1 (ic .u8 h.prev) := hB1.part [.int .i32 h.version] _ _ rfl
 have r2 : w1.rangeAt B 33 (ic .u8 h.root) := by
  have := hB1.part (.int .i32 h.version :: ic .u8 h.prev) (ic .u8 h.root) _ rfl
  simpa [hk.prev] using this
 have ht0 := hk.time.1
 have ht1 := hk.time.2
 have HB1 := hid hB1; clear hB1
 have HF1 := hid hF1; clear hF1
 have R1 := hid r1; clear r1
 have R2 := hid r2; clear r2
 have Hk := hid hk; clear hk
 refine seg_begin (fun w' => Fr [] w1 w') (by kernel_rfl) ?_
 refine seg_quiet (fuel := 4) (by kernel_rfl) (fun d _ _ _ _ h => by cases d <;> exact h) ((Fr.refl _ _).drew) [0,1,2,3,4,5,6,7,8,10,11,12,13] _ _ (by kernel_rfl) ?_
 simp only [pickL,nthO]
 iterate 3 go_big_quiet_step ((intro hw; first | with_reducible rfl | (simp [c0 _ hw,c65 _ hw,c66 _ hw,c67 _ hw,Result.andThen]; done) | (simp [c0 _ hw,c65 _ hw,c66 _ hw,c67 _ hw,Result.andThen]; rfl)))
 refine wpQuiet_load rfl 22 (.tmp 5) rfl B 1 rfl (ic .u8 h.prev) (.array 32 5) (fun w' hf => rangeAt_fr R1.out hf hl) (by kernel_rfl) rfl (by rw [ic_length,Hk.out.prev]; kernel_rfl) ?_
 simp only [Act.put,nA,nB,nC]
 iterate 1 go_big_quiet_step ((intro hw; first | with_reducible rfl | (simp [c0 _ hw,c65 _ hw,c66 _ hw,c67 _ hw,Result.andThen]; done) | (simp [c0 _ hw,c65 _ hw,c66 _ hw,c67 _ hw,Result.andThen]; rfl)))
 refine wpQuiet_load rfl 22 (.tmp 7) rfl B 33 rfl (ic .u8 h.root) (.array 32 5) (fun w' hf => rangeAt_fr R2.out hf hl) (by kernel_rfl) rfl (by rw [ic_length,Hk.out.root]; kernel_rfl) ?_
 simp only [Act.put,nA,nB,nC]
 generalize hV6 : Value.agg (ic .u8 h.prev).toArray = V6
 generalize hV8 : Value.agg (ic .u8 h.root).toArray = V8
 have HV6 := hid hV6; clear hV6
 have HV8 := hid hV8; clear hV8
 iterate 7 go_big_quiet_step ((intro hw; first | with_reducible rfl | (simp [c0 _ hw,c65 _ hw,c66 _ hw,c67 _ hw,Result.andThen]; done) | (simp [c0 _ hw,c65 _ hw,c66 _ hw,c67 _ hw,Result.andThen]; rfl)))
 refine wpQuiet_nil ?_
 refine seg_act 9 rfl rfl (by kernel_rfl) ?_
 go_wp2_with fail
 refine (unix_c _ _ _).mono ?_
 rintro e w2 ⟨rfl,hf2⟩
 have HF2 : Hid (Fr [] w1 w2) := (Fr.refl _ _).drew.trans hf2
 clear hf2 c0 c65 c66 c67
 go_wp2_with fail
 refine ⟨HF2.out,fun _ => ?_⟩
 refine seg_quiet (fuel := 2) (by kernel_rfl) (fun d _ _ _ _ h => by cases d <;> exact h) HF2.out [14] _ _ (by kernel_rfl) ?_
 simp only [pickL,nthO]
 refine wpQuiet_build rfl 118 _ rfl [(0,.int .i32 h.version),(1,V6),(2,V8),(3,.agg #[.int .i64 h.time]),(4,.int .u32 h.bits),(5,.int .u32 h.nonce)] (by simp only [List.map_toArray]; rfl)
  [[.int .i32 0],ic .u8 (List.replicate 32 0),ic .u8 (List.replicate 32 0),[.int .i64 0],[.int .u32 0],[.int .u32 0]] (by kernel_rfl) ?_ h.wire ?_ ?_
 ·rw [← HV6.out,← HV8.out]
  have e1 := Hk.out.prev
  have e2 := Hk.out.root
  simp [offs,Value.cells,e1,e2]
 ·rw [← HV6.out,← HV8.out]
  simp [Hdr.wire,Value.cells]
 simp only [Act.put,nA,nB,nC]
 refine wpQuiet_nil ?_
 refine seg_act 15 rfl rfl (by kernel_rfl) ?_
 go_wp2_with fail
 have HF3 : Hid (Fr [] w1 (w2.alloc (.cells h.wire.toArray 118))) := HF2.out.alloc _
 have HB3 : Hid (Blk (w2.alloc (.cells h.wire.toArray 118)) w2.heap.size 118 h.wire) := Blk.new _ _ _
 refine ⟨HF3.out,fun _ => ?_⟩
 generalize World.alloc w2 _ = w3 at HF3 HB3 ⊢
 refine seg_quiet (fuel := 0) (by kernel_rfl) (fun d _ _ _ _ h => by cases d <;> exact h) HF3.out [16] _ _ (by kernel_rfl) ?_
 simp only [pickL,nthO]
 go_big_quiet_step ((intro hw; with_reducible rfl))
 refine wpQuiet_nil ?_
 refine seg_end (by kernel_rfl) ?_
 go_wp2_with fail
 go_ret
 exact ⟨_,rfl,HF1.out.trans HF3.out,Nat.le_trans HF1.out.size HF2.out.size,HB3.out⟩
theorem part_u8 (w : World) (x : List Int) (i : Nat) (h : i < x.length) : (part 5 (ic .u8 x).toArray i).run Tryz.prog w = .ok (.int .u8 (nth x i)) w := by
 have ha : (isAgg 5).run Tryz.prog w = .ok false w := by kernel_rfl
 have hg : (ic .u8 x).toArray[i]? = some (.int .u8 (nth x i)) := by
  have hl : i < (ic .u8 x).length := by simpa using h
  rw [List.getElem?_toArray,List.getElem?_eq_getElem hl,ic_nth]
 simp only [part,Sem.run_bind,ha,Result.andThen_ok,Bool.false_eq_true,if_false,hg,Sem.run_pure]
theorem run_eq_array' (w : World) (D : Nat) (x : List Int) (hx : x.length = 32) (hD : ∀ a w,(Op.equalIn D 5 (.int .u8 a) (.int .u8 a)).run Tryz.prog w = .ok true w) : (Op.equalIn (D + 1) 22 (.agg (ic .u8 x).toArray) (.agg (ic .u8 x).toArray)).run Tryz.prog w = .ok true w := by
 have hu : Tryz.prog.underlying 22 = some (TypeDesc.array 32 5) := by kernel_rfl
 have hs : (sizeOf 5).run Tryz.prog w = .ok 1 w := by kernel_rfl
 simp only [Op.equalIn,Sem.run_bind,run_underlying hu,Result.andThen_ok,hs]
 rw [Std.Legacy.Range.forIn_eq_forIn_range']
 have hl : ∀ i ∈ List.range' [:32].start [:32].size [:32].step,i < 32 := by
  intro i hi
  have : [:32].start = 0 ∧ [:32].size = 32 ∧ [:32].step = 1 := ⟨rfl,rfl,rfl⟩
  rw [this.1,this.2.1,this.2.2,List.mem_range'_1] at hi
  omega
 generalize List.range' [:32].start [:32].size [:32].step = l at hl
 induction l with
 | nil => simp
 | cons i l ih =>
  have hi : i * 1 < x.length := by rw [hx,Nat.mul_one]; exact hl i (by simp)
  simp only [List.forIn_cons,Sem.run_bind,part_u8 w x (i * 1) hi,Result.andThen_ok,hD,Bool.not_true,Bool.false_eq_true,if_false,Sem.run_pure]
  exact ih (fun j hj => hl j (by simp [hj]))
theorem neq_arr (w : World) (x : List Int) (hx : x.length = 32) : (binOp .neq 22 (.agg (ic .u8 x).toArray) (.agg (ic .u8 x).toArray)).run Tryz.prog w = .ok (.bool false) w := by
 rw [run_neq_struct,run_eq_array' w 9999 x hx]
 ·rfl
 ·intro a w
  rw [run_equalIn_int _ 9998 5 .u8 .u8 a a (by kernel_rfl)]; simp
theorem eql_arr (w : World) (x : List Int) (hx : x.length = 32) : (binOp .eql 22 (.agg (ic .u8 x).toArray) (.agg (ic .u8 x).toArray)).run Tryz.prog w = .ok (.bool true) w := by
 rw [run_eql_struct,run_eq_array' w 9999 x hx]
 ·rfl
 ·intro a w
  rw [run_equalIn_int _ 9998 5 .u8 .u8 a a (by kernel_rfl)]; simp
theorem eqg_arr (w : World) (op : BinOp) (a b : Operand) (xs ys : Array Value) : (eqGuard op 22 a b (.agg xs) (.agg ys)).run Tryz.prog w = .ok () w := run_eqGuard_agg _ op 22 a b xs ys (by kernel_rfl)
theorem eqg_hdr (w : World) (op : BinOp) (a b : Operand) (xs ys : Array Value) : (eqGuard op 25 a b (.agg xs) (.agg ys)).run Tryz.prog w = .ok () w := run_eqGuard_agg _ op 25 a b xs ys (by kernel_rfl)
end Go.Proofs.YtdllckiidegpcaaGreat
