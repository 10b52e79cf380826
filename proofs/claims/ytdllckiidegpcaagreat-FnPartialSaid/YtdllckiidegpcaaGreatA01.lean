/- A part of the walk of laws.FnPartial (part 1): contracts of functions that it comes to, and the plain laws that these lean on. Conditions stand in each contract. -/
import Derived.Handy
import Derived.Deep.QuietTactic
import Derived.BigQuiet
import Derived.Deep.LoopGhost
import Derived.Deep.RegionHeld3
import Derived.Deep.AppendLies
import Derived.Deep.Draws
import Derived.WalkSmall
import Derived.StillTail
import Derived.Test.YtdllckiidegpcaaGreatProg
import Derived.Deep.MidRow
import Derived.Laws.CopyOwn
import Derived.Laws.Rows
import Derived.Laws.AppendOwn
import Derived.Laws.OwnMore
import Derived.OrdersHeld
import Derived.Laws.Tables
import Derived.Laws.BitsAll
import Derived.Laws.MakeOwn
set_option linter.unusedSimpArgs false
set_option linter.unusedVariables false
namespace Go.Proofs.YtdllckiidegpcaaGreat
open Go.RowKit
theorem nA {α : Type} (l : List α) (i : Nat) (a : α) : l.toArray.setIfInBounds i a = (l.set i a).toArray := List.setIfInBounds_toArray ..
theorem nB {α : Type} (x y : α) (l : List α) : (x :: l).set 0 y = y :: l := rfl
theorem nC {α : Type} (x y : α) (l : List α) (i : Nat) : (x :: l).set (i + 1) y = x :: l.set i y := rfl
section
theorem hid {p : Prop} (h : p) : Hid p := h
def ic (k : IntKind) (l : List Int) : List Value := l.map (Value.int k)
@[simp] theorem ic_length (k : IntKind) (l : List Int) : (ic k l).length = l.length := by simp [ic]
@[simp] theorem ic_get (k : IntKind) (l : List Int) (i : Nat) (h : i < (ic k l).length) : (ic k l)[i] = .int k (l[i]'(by simpa using h)) := by simp [ic]
theorem ic_append (k : IntKind) (l m : List Int) : ic k (l ++ m) = ic k l ++ ic k m := by simp [ic]
theorem ic_one (k : IntKind) (l : List Int) : ∀ u ∈ ic k l,u.oneCell' = true := by
 intro u hu; simp only [ic,List.mem_map] at hu; obtain ⟨x,_,rfl⟩ := hu; rfl
/-- A slice of n elements whose cells are xs. -/
def Rd (w : World) (v : Value) (n : Nat) (xs : List Value) : Prop :=
 ∃ a cap,v = .slice a n cap ∧ n ≤ cap ∧ cap ≤ maxLen ∧
  ((cap = 0 ∧ cap = 0 ∧ xs = []) ∨ ∃ b off,a = some ⟨b,off,none⟩ ∧ b < w.heap.size ∧ ∀ i (h : i < xs.length),w.cell? ⟨b,off + i,none⟩ = some xs[i])
def Ints (k : IntKind) (w : World) (v : Value) (l : List Int) : Prop := Rd w v l.length (ic k l)
abbrev Bytes := Ints .u8
def U8 (l : List Int) : Prop := ∀ x ∈ l,0 ≤ x ∧ x < 256
theorem Rd.below {w w' : World} {v : Value} {n : Nat} {xs : List Value} (h : Rd w v n xs) (hb : Below w.heap.size w w') : Rd w' v n xs := by
 obtain ⟨a,cap,rfl,h1,h2,h3⟩ := h
 refine ⟨a,cap,rfl,h1,h2, ?_⟩
 rcases h3 with h3 | ⟨b,off,rfl,hlt,hc⟩
 ·exact .inl h3
 ·exact .inr ⟨b,off,rfl,Nat.lt_of_lt_of_le hlt hb.size,fun i hi => (hb.cell (p := ⟨b,off + i,none⟩) hlt).trans (hc i hi)⟩
theorem Rd.len {w : World} {v : Value} {n : Nat} {xs : List Value} (h : Rd w v n xs) : n ≤ maxLen := by
 obtain ⟨a,cap,_,h1,h2,_⟩ := h; exact Nat.le_trans h1 h2
theorem bcell {W w1 : World} (h : Below W.heap.size W w1) :
  (∀ b off,b < W.heap.size → w1.cell? ⟨b,off,none⟩ = W.cell? ⟨b,off,none⟩) ∧ (∀ b off,b < W.heap.size → w1.frozen? ⟨b,off,none⟩ = W.frozen? ⟨b,off,none⟩) :=
 ⟨fun b off hb => h.cell (p := ⟨b,off,none⟩) hb,fun b off hb => h.frozen (p := ⟨b,off,none⟩) hb⟩
theorem lt_of_cell {w : World} {b off : Nat} {v : Value} (h : w.cell? ⟨b,off,none⟩ = some v) : b < w.heap.size := World.block_lt_of_cell? w ⟨b,off,none⟩ h
theorem rd_some {w : World} {a : Option Addr} {cap : Nat} {xs : List Value} {k : Nat} (h : (cap = 0 ∧ cap = 0 ∧ xs = []) ∨ ∃ b off,a = some ⟨b,off,none⟩ ∧ b < w.heap.size ∧ ∀ i (h : i < xs.length),w.cell? ⟨b,off + i,none⟩ = some xs[i])
  (hk : k < xs.length) : ∃ b off,a = some ⟨b,off,none⟩ ∧ b < w.heap.size ∧ ∀ i (h : i < xs.length),w.cell? ⟨b,off + i,none⟩ = some xs[i] := by
 rcases h with ⟨_,_,rfl⟩ | h
 ·simp at hk
 ·exact h
theorem owns_rd {w : World} {B : Nat} {e : TypeId} {size : Nat} {v : Value} {n : Nat} {xs : List Value} (h : w.ownsRow B e size v n xs) : Rd w v n xs := by
 obtain ⟨hl,h⟩ := h
 rcases h with ⟨rfl,rfl⟩ | ⟨g,cap,cur,rfl,hB,hh,h1,h2,h3,h4⟩
 ·exact ⟨none,0,rfl,Nat.le_refl _,Nat.zero_le _,.inl ⟨rfl,rfl,by simpa using hl⟩⟩
 ·refine ⟨_,cap,rfl,h1,h2,.inr ⟨g,0,rfl, ?_, ?_⟩⟩
  ·exact (Array.getElem?_eq_some_iff.mp hh).1
  ·intro i hi
   have : cur[i]? = some xs[i] := by
    have h5 : cur.toList[i]? = some xs[i] := by
     have h6 : (cur.toList.take (n * size))[i]? = xs[i]? := by rw [h4]
     rw [List.getElem?_take,if_pos (by omega)] at h6
     rw [h6]; simp
    simpa using h5
   simp [World.cell?,hh,this]
theorem below_drewN {B : Nat} {a w : World} (h : Below B a w) (n : Nat) : Below B a (w.drewN n) := h.trans ⟨rfl,rfl,rfl,Nat.le_refl _,fun _ _ => rfl⟩
/-- All old blocks but those of S are as they were. -/
structure Fr (S : List Nat) (w w' : World) : Prop where
 os : w'.os = w.os
 tape : w'.tape = w.tape
 output : w'.output = w.output
 size : w.heap.size ≤ w'.heap.size
 block : ∀ k,k < w.heap.size → k ∉ S → w'.heap[k]? = w.heap[k]?
section
variable {S S' : List Nat} {a b c w w' : World}
theorem Fr.refl (S : List Nat) (w : World) : Fr S w w := ⟨rfl,rfl,rfl,Nat.le_refl _,fun _ _ _ => rfl⟩
theorem Fr.trans (h : Fr S a b) (k : Fr S b c) : Fr S a c :=
 ⟨k.os.trans h.os,k.tape.trans h.tape,k.output.trans h.output,Nat.le_trans h.size k.size,fun i hi hn => (k.block i (Nat.lt_of_lt_of_le hi h.size) hn).trans (h.block i hi hn)⟩
theorem Fr.mono (h : Fr S a b) (hs : ∀ k ∈ S,k ∈ S') : Fr S' a b := ⟨h.os,h.tape,h.output,h.size,fun k hk hn => h.block k hk (fun hm => hn (hs k hm))⟩
theorem Fr.drop (h : Fr S a b) (hs : ∀ k ∈ S,k ∈ S' ∨ a.heap.size ≤ k) : Fr S' a b :=
 ⟨h.os,h.tape,h.output,h.size,fun k hk hn => h.block k hk (fun hm => (hs k hm).elim hn (fun h => by omega))⟩
theorem Fr.of_below {B : Nat} (h : Below B w w') (hB : B = w.heap.size) (S : List Nat) : Fr S w w' := ⟨h.os,h.tape,h.output,h.size,fun k hk _ => h.block k (by omega)⟩
theorem Fr.below (h : Fr [] w w') : Below w.heap.size w w' := ⟨h.os,h.tape,h.output,h.size,fun k hk => h.block k hk (by simp)⟩
theorem Fr.to_below {B : Nat} (h : Fr S w w') (hB : B ≤ w.heap.size) (hS : ∀ k ∈ S,B ≤ k) : Below B w w' :=
 ⟨h.os,h.tape,h.output,h.size,fun k hk => h.block k (by omega) (fun hm => by have := hS k hm; omega)⟩
theorem Fr.of_grown {row : Option Nat} (hg : w.grownBy w' row) (hr : ∀ k,row = some k → k ∈ S) : Fr S w w' :=
 ⟨hg.os,hg.tape,hg.output,hg.size,fun k hk hn => hg.block k hk (fun e => hn (hr k e.symm))⟩
theorem Fr.setCell (h : Fr S a w) (p : Addr) (u : Value) (hp : p.block ∈ S) : Fr S a (w.setCell p u) :=
 h.trans ⟨rfl,rfl,rfl,by simp [World.setCell],fun k _ hn => Below.heap_setCell _ _ _ _ (fun e => hn (e ▸ hp))⟩
theorem Fr.alloc (h : Fr S a w) (o : Obj) : Fr S a (w.alloc o) :=
 h.trans ⟨rfl,rfl,rfl,by simp,fun k hk _ => Below.heap_alloc _ _ _ hk⟩
theorem Fr.drewN (h : Fr S a w) (n : Nat) : Fr S a (w.drewN n) := h.trans ⟨rfl,rfl,rfl,Nat.le_refl _,fun _ _ _ => rfl⟩
theorem Fr.drew (h : Fr S a w) : Fr S a w.drew := h.trans ⟨rfl,rfl,rfl,Nat.le_refl _,fun _ _ _ => rfl⟩
theorem Fr.cells (h : Fr S w w') :
  (∀ b off,b < w.heap.size → b ∉ S → w'.cell? ⟨b,off,none⟩ = w.cell? ⟨b,off,none⟩) ∧ (∀ b off,b < w.heap.size → b ∉ S → w'.frozen? ⟨b,off,none⟩ = w.frozen? ⟨b,off,none⟩) :=
 ⟨fun b off hb hn => World.cell?_of_block (w := w) (a := ⟨b,off,none⟩) (h.block b hb hn),fun b off hb hn => World.frozen?_of_block (w := w) (a := ⟨b,off,none⟩) (h.block b hb hn)⟩
end
/-- Block g holds the cells xs, of type T, not frozen. -/
def Blk (w : World) (g : Nat) (T : TypeId) (xs : List Value) : Prop := w.heap[g]? = some (.cells xs.toArray T (0,0))
section
variable {w w' : World} {g : Nat} {T : TypeId} {xs : List Value}
theorem Blk.lt (h : Blk w g T xs) : g < w.heap.size := (Array.getElem?_eq_some_iff.mp h).1
theorem Blk.cell (h : Blk w g T xs) (i : Nat) (hi : i < xs.length) : w.cell? ⟨g,i,none⟩ = some xs[i] := by
 have h' : w.heap[g]? = some (.cells xs.toArray T (0,0)) := h
 simp [World.cell?,h',hi]
theorem Blk.cell_at (h : Blk w g T xs) {i : Nat} {v : Value} (hi : xs[i]? = some v) : w.cell? ⟨g,i,none⟩ = some v := by
 have h' : w.heap[g]? = some (.cells xs.toArray T (0,0)) := h
 simp [World.cell?,h',hi]
theorem Blk.free (h : Blk w g T xs) (i : Nat) : w.frozen? ⟨g,i,none⟩ = false := by
 have h' : w.heap[g]? = some (.cells xs.toArray T (0,0)) := h
 simp [World.frozen?,h']
theorem Blk.fr {S : List Nat} (h : Blk w g T xs) (hf : Fr S w w') (hg : g ∉ S) : Blk w' g T xs := (hf.block g h.lt hg).trans h
theorem Blk.below {B : Nat} (h : Blk w g T xs) (hf : Below B w w') (hg : g < B) : Blk w' g T xs := (hf.block g hg).trans h
theorem Blk.drew (h : Blk w g T xs) : Blk w.drew g T xs := h
theorem Blk.drewN (h : Blk w g T xs) (n : Nat) : Blk (w.drewN n) g T xs := h
theorem Blk.set (h : Blk w g T xs) (i : Nat) (v : Value) : Blk (w.setCell ⟨g,i,none⟩ v) g T (xs.set i v) := by
 have h' : w.heap[g]? = some (.cells xs.toArray T (0,0)) := h
 simp [Blk,World.setCell,Array.getElem?_modify,h']
theorem Blk.set_ne (h : Blk w g T xs) (p : Addr) (v : Value) (hp : g ≠ p.block) : Blk (w.setCell p v) g T xs := (Below.heap_setCell w p v g hp).trans h
theorem Blk.alloc (h : Blk w g T xs) (o : Obj) : Blk (w.alloc o) g T xs := (Below.heap_alloc w o g h.lt).trans h
theorem Blk.new (w : World) (xs : List Value) (T : TypeId) : Blk (w.alloc (.cells xs.toArray T)) w.heap.size T xs := heap_alloc_new w _
end
def nth (l : List Int) (i : Nat) : Int := l.getD i 0
theorem nth_eq (l : List Int) (i : Nat) (h : i < l.length) : nth l i = l[i] := by simp [nth,h]
theorem ic_nth (k : IntKind) (l : List Int) (i : Nat) (h : i < (ic k l).length) : (ic k l)[i] = .int k (nth l i) := by
 rw [ic_get,nth_eq]
theorem Blk.int {w : World} {g : Nat} {T : TypeId} {k : IntKind} {l : List Int} (h : Blk w g T (ic k l)) (i : Nat) (hi : i < l.length) : w.cell? ⟨g,i,none⟩ = some (.int k (nth l i)) := by
 rw [h.cell i (by simpa using hi),ic_nth]
theorem ic_set (k : IntKind) (l : List Int) (i : Nat) (x : Int) : (ic k l).set i (.int k x) = ic k (l.set i x) := by simp [ic,List.map_set]
theorem Blk.seti {w : World} {g : Nat} {T : TypeId} {k : IntKind} {l : List Int} (h : Blk w g T (ic k l)) (i : Nat) (x : Int) : Blk (w.setCell ⟨g,i,none⟩ (.int k x)) g T (ic k (l.set i x)) := by
 rw [← ic_set]; exact h.set i _
theorem Rd.fr {S : List Nat} {w w' : World} {v : Value} {n : Nat} {xs : List Value} (h : Rd w v n xs) (hf : Fr S w w')
  (hS : ∀ b off m cap,v = .slice (some ⟨b,off,none⟩) m cap → b ∉ S) : Rd w' v n xs := by
 obtain ⟨a,cap,rfl,h1,h2,h3⟩ := h
 refine ⟨a,cap,rfl,h1,h2, ?_⟩
 rcases h3 with h3 | ⟨b,off,rfl,hlt,hc⟩
 ·exact .inl h3
 ·refine .inr ⟨b,off,rfl,Nat.lt_of_lt_of_le hlt hf.size,fun i hi => (hf.cells.1 b (off + i) hlt (hS b off n cap rfl)).trans (hc i hi)⟩
theorem Rd.drewN {w : World} {v : Value} {n : Nat} {xs : List Value} (h : Rd w v n xs) (m : Nat) : Rd (w.drewN m) v n xs := h
theorem Rd.drew {w : World} {v : Value} {n : Nat} {xs : List Value} (h : Rd w v n xs) : Rd w.drew v n xs := h
theorem still_of_quiet {P : Program} {w : World} {ops : Array Oper} {Q : Act → Prop} : ∀ (l : List Oper) (a : Act),wpQuiet P ops (fun w' => w' = w) Q l a → wpStill P ops w Q l a := by
 intro l
 induction l with
 | nil => intro a h; exact h
 | cons o l ih =>
  intro a h
  unfold wpQuiet at h
  unfold wpStill
  split
  ·rename_i hw
   rw [if_pos hw] at h
   obtain ⟨v,h1,h2⟩ := h
   have h3 := h1 w rfl
   unfold Oper.quietAt at h3
   unfold Oper.still
   generalize (execOp a.eval o).run P w = r at *
   cases r with
   | ok n w1 =>
    cases n <;> simp only [Oper.quietUpon] at h3 <;> simp only [Oper.stillUpon]
    ·obtain ⟨e1,e2⟩ := h3; subst e2; exact ⟨e1,ih _ h2⟩
    ·obtain ⟨e1,e2⟩ := h3; subst e2; exact ⟨e1,ih _ h2⟩
    ·obtain ⟨e1,hc⟩ := h3; exact ⟨e1,v,hc,ih _ h2⟩
   | halt => simp only [Oper.quietUpon] at h3
  ·rename_i hw
   rw [if_neg hw] at h
   exact ih _ h
theorem qtail {P : Program} {id : Nat} {Q : Exit → Act → World → Prop} {a : Act} {w : World} {l : List Oper} (n : Nat) (hm : P.follows .mixedOrders = true) (hB : Region.lexTailB .any l.toArray n = true)
  (h : wpQuiet P l.toArray (fun w' => w' = w.drew) (fun a' => wpList P l.toArray Q (l.drop n) a' w.drew) (l.take n) a) : (Code.region id l.toArray true).wp P Q a w :=
 wp_region_still_tail n hm hB (still_of_quiet _ _ h)
end

theorem Fr.andThen {S T : List Nat} {a b c : World} (h : Fr S a b) (k : Fr T b c) (hT : ∀ t ∈ T,t ∈ S ∨ a.heap.size ≤ t) : Fr S a c :=
 ⟨k.os.trans h.os,k.tape.trans h.tape,k.output.trans h.output,Nat.le_trans h.size k.size,fun i hi hn =>
  (k.block i (Nat.lt_of_lt_of_le hi h.size) (fun hm => (hT i hm).elim hn (fun h => by omega))).trans (h.block i hi hn)⟩
theorem Rd.nil (w : World) : Rd w (.slice none 0 0) 0 [] := ⟨none,0,rfl,Nat.le_refl _,Nat.zero_le _,.inl ⟨rfl,rfl,rfl⟩⟩
theorem Rd.mk' {w : World} {b off n cap : Nat} {xs : List Value} (h1 : n ≤ cap) (h2 : cap ≤ maxLen) (hb : b < w.heap.size) (h : ∀ i (h : i < xs.length),w.cell? ⟨b,off + i,none⟩ = some xs[i]) :
  Rd w (.slice (some ⟨b,off,none⟩) n cap) n xs := ⟨_,cap,rfl,h1,h2,.inr ⟨b,off,rfl,hb,h⟩⟩
theorem nth_drop' (l : List Int) (n i : Nat) : nth (l.drop n) i = nth l (n + i) := by simp [nth]
theorem nth_take' (l : List Int) (n i : Nat) (h : i < n) : nth (l.take n) i = nth l i := by simp [nth,List.getElem?_take,h]
theorem ints_mk {k : IntKind} {w : World} {b off n cap : Nat} {p : List Int} (hn : n = p.length) (h1 : n ≤ cap) (h2 : cap ≤ maxLen) (hb : b < w.heap.size) (hc : ∀ i,i < p.length → w.cell? ⟨b,off + i,none⟩ = some (.int k (nth p i))) :
  Ints k w (.slice (some ⟨b,off,none⟩) n cap) p := by
 subst hn
 refine ⟨_,cap,rfl,h1,h2,.inr ⟨b,off,rfl,hb,fun i hi => ?_⟩⟩
 rw [ic_nth,hc i (by simpa using hi)]
theorem ints_cases {k : IntKind} {w : World} {v : Value} {p : List Int} (h : Ints k w v p) : ∃ a cap,v = .slice a p.length cap ∧ p.length ≤ cap ∧ cap ≤ maxLen ∧
  ((cap = 0 ∧ cap = 0 ∧ p = []) ∨ ∃ b off,a = some ⟨b,off,none⟩ ∧ b < w.heap.size ∧ ∀ i,i < p.length → w.cell? ⟨b,off + i,none⟩ = some (.int k (nth p i))) := by
 obtain ⟨a,cap,rfl,h1,h2,h3⟩ := h
 refine ⟨a,cap,rfl,h1,h2, ?_⟩
 rcases h3 with ⟨rfl,_,h⟩ | ⟨b,off,rfl,hb,hc⟩
 ·exact .inl ⟨rfl,rfl,by simpa [ic] using h⟩
 ·exact .inr ⟨b,off,rfl,hb,fun i hi => by rw [hc i (by simpa using hi),ic_nth]⟩
theorem ints_drop {k : IntKind} {w : World} {b off n cap j : Nat} {p : List Int} (hn : n = p.length) (hj : j ≤ n) (h1 : n ≤ cap) (h2 : cap ≤ maxLen) (hb : b < w.heap.size) (hc : ∀ i,i < p.length → w.cell? ⟨b,off + i,none⟩ = some (.int k (nth p i))) :
  Ints k w (.slice (some ⟨b,off + j,none⟩) (n - j) (cap - j)) (p.drop j) := by
 refine ints_mk (by simp [hn]) (by omega) (by omega) hb (fun i hi => ?_)
 rw [nth_drop',Nat.add_assoc]
 exact hc (j + i) (by simp at hi; omega)
theorem ints_end {k : IntKind} {w : World} {b off n cap : Nat} {p : List Int} (hn : n = p.length) (hj : cap ≤ n) (h1 : n ≤ cap) (hb : b < w.heap.size) :
  Ints k w (.slice (some ⟨b,off,none⟩) (n - cap) 0) (p.drop cap) := by
 have e : p.drop cap = [] := List.drop_eq_nil_of_le (by omega)
 rw [e]
 refine ints_mk (by simp; omega) (by omega) (by omega) hb (fun i hi => by simp at hi)
theorem ints_take {k : IntKind} {w : World} {b off n cap j : Nat} {p : List Int} (hn : n = p.length) (hj : j ≤ n) (h1 : n ≤ cap) (h2 : cap ≤ maxLen) (hb : b < w.heap.size) (hc : ∀ i,i < p.length → w.cell? ⟨b,off + i,none⟩ = some (.int k (nth p i))) :
  Ints k w (.slice (some ⟨b,off,none⟩) j cap) (p.take j) := by
 refine ints_mk (by simp; omega) (by omega) h2 hb (fun i hi => ?_)
 rw [nth_take' _ _ _ (by simp at hi; omega)]
 exact hc i (by simp at hi; omega)
theorem Blk.range {w : World} {g : Nat} {T : TypeId} {xs : List Value} (h : Blk w g T xs) : w.rangeAt g 0 xs := fun j v hv => by
 rw [Nat.zero_add]; exact h.cell_at hv
theorem Blk.there {w : World} {g : Nat} {T : TypeId} {xs : List Value} (h : Blk w g T xs) {n : Nat} (hn : n ≤ xs.length) : w.there g 0 n := fun j hj => by
 rw [Nat.zero_add]; exact ⟨by rw [h.cell j (by omega)]; rfl,h.free j⟩
theorem fr_setCells {S : List Nat} {g : Nat} (hg : g ∈ S) {a : World} : ∀ (ys : List Value) (w : World) (o : Nat),Fr S a w → Fr S a (w.setCells g o ys) := by
 intro ys
 induction ys with
 | nil => intro w o h; exact h
 | cons y ys ih => intro w o h; exact ih _ _ (h.setCell _ _ hg)
theorem splice_nil' {α : Type} (l : List α) (o : Nat) : splice l o [] = l := by simp [splice]
theorem splice_cons' {α : Type} (l : List α) (o : Nat) (a : α) (ys : List α) (h : o < l.length) : splice (l.set o a) (o+1) ys = splice l o (a :: ys) := by
 simp only [splice]
 rw [List.take_add_one,List.take_set_of_le (by omega),List.drop_set_of_lt (by omega)]
 have : o + 1 + ys.length = o + (ys.length + 1) := by omega
 simp [h,this]
theorem splice_all {α : Type} (l m : List α) (h : m.length = l.length) : splice l 0 m = m := by
 simp [splice,h]
theorem Blk.setCells {g : Nat} {T : TypeId} : ∀ (ys : List Value) (w : World) (o : Nat) (l : List Value),Blk w g T l → o + ys.length ≤ l.length → Blk (w.setCells g o ys) g T (splice l o ys) := by
 intro ys
 induction ys with
 | nil => intro w o l h _; rw [splice_nil']; exact h
 | cons y ys ih =>
  intro w o l h hl
  rw [← splice_cons' _ _ _ _ (by simp at hl; omega)]
  exact ih _ _ _ (h.set o y) (by simp at hl ⊢; omega)
theorem Blk.putAll {g : Nat} {T : TypeId} {w : World} {l : List Value} (h : Blk w g T l) (ys : List Value) (hl : ys.length = l.length) : Blk (w.setCells g 0 ys) g T ys := by
 have := Blk.setCells ys w 0 l h (by omega)
 rwa [splice_all _ _ hl] at this
/-- An array of bytes, as a value. -/
def arr (l : List Int) : Value := .agg (ic .u8 l).toArray
theorem load_arr {P : Program} {w : World} {g : Nat} {T ty : TypeId} {l : List Int} (h : Blk w g T (ic .u8 l)) (d : TypeDesc) (hu : P.underlying ty = some d) (hd : d.isRow = true) (hi : (P.info? ty).map (·.size) = some l.length) :
  (Instr.loadAt ty (.pointer (some ⟨g,0,none⟩))).run P w = .ok (arr l) w :=
 run_loadAt_mid w g 0 ty (ic .u8 l) d h.range hu hd (by simpa using hi)
theorem store_arr {P : Program} {w : World} {g : Nat} {T ty : TypeId} {l m : List Int} (h : Blk w g T (ic .u8 m)) (hl : l.length = m.length) (hi : (P.info? ty).map (·.size) = some l.length) :
  (Instr.storeAt ty (.pointer (some ⟨g,0,none⟩)) (arr l)).run P w = .ok () (w.setCells g 0 (ic .u8 l)) := by
 have := run_storeAt_mid (P := P) w g 0 ty (ic .u8 l).toArray (h.there (by simp [hl])) (by simpa using hi) (all_oneCell_toArray (ic_one _ _))
 simpa [arr] using this
theorem Blk.putArr {g : Nat} {T : TypeId} {w : World} {l m : List Int} (h : Blk w g T (ic .u8 m)) (hl : l.length = m.length) : Blk (w.setCells g 0 (ic .u8 l)) g T (ic .u8 l) :=
 h.putAll _ (by simp [hl])
/-- A function that returns an array out of a cell of its own. -/
theorem ret_arr {P : Program} {fn : Func} {R : Ending → World → Prop} {a : Act} {w : World} {p : Tmp} {ty T : TypeId} {l : List Int} {g : Nat} (hf : fn.results = #[.cell p ty]) (hp : a.tmps.getD p undef = .pointer (some ⟨g,0,none⟩))
  (d : TypeDesc) (h : Blk w g T (ic .u8 l)) (hu : P.underlying ty = some d) (hd : (match d with | .struct _ | .array _ _ => true | _ => false) = true) (hi : (P.info? ty).map (·.size) = some l.length) (hde : a.defers = [])
  (hR : R (.returned (arr l)) w) : bodyPost P fn R .ret a w :=
 bodyPost_ret (results_cell_row hf _ _ g T _ _ d hp h hu hd (by simpa using hi)) hde hR
/-- One operation by hand: it yields a value. -/
theorem wpList_run {P : Program} {ops : Array Oper} {rest : List Oper} {o : Oper} {a : Act} {w w' : World} {Q : Exit → Act → World → Prop} {v : Value} (hgd : o.guard = none)
  (hr : (execOp a.eval o).run P w = .ok (.value v) w') (h : wpList P ops Q rest (a.put o.dst v) w') : wpList P ops Q (o :: rest) a w := by
 refine wpList_plain hgd fun K hK => ?_
 unfold Oper.wp; rw [hr]; exact hK _ _ h
/-- One operation by hand: it yields none. -/
theorem wpList_skip {P : Program} {ops : Array Oper} {rest : List Oper} {o : Oper} {a : Act} {w w' : World} {Q : Exit → Act → World → Prop} (hgd : o.guard = none)
  (hr : (execOp a.eval o).run P w = .ok .skip w') (h : wpList P ops Q rest (a.put o.dst undef) w') : wpList P ops Q (o :: rest) a w := by
 refine wpList_plain hgd fun K hK => ?_
 unfold Oper.wp; rw [hr]; exact hK _ _ h
/-- One operation by hand: a call. -/
theorem wpList_call {P : Program} {ops : Array Oper} {rest : List Oper} {o : Oper} {a : Act} {w w0 : World} {Q : Exit → Act → World → Prop} {f : FuncId} {args : Array Value} (hgd : o.guard = none)
  (hr : (execOp a.eval o).run P w = .ok (.enter f args) w0) (hc : Calls P f args w0 fun e w' => ∃ v,e = .returned v ∧ wpList P ops Q rest (a.put o.dst v) w') : wpList P ops Q (o :: rest) a w := by
 refine wpList_plain hgd fun K hK => ?_
 unfold Oper.wp; rw [hr]
 refine hc.mono ?_
 rintro e w' ⟨v,rfl,h⟩
 exact hK _ _ h
/-- append within the room, into a block of whatever type. -/
theorem wpList_append_room {P : Program} {w : World} {ops : Array Oper} {rest : List Oper} {o : Oper} {a : Act} {Q : Exit → Act → World → Prop} (hgd : o.guard = none) (s x : Operand) (t : TypeId)
  (ho : o.op = .call { callee := .builtin .append,args := #[s,x],argTypes := #[t,t] }) (e : TypeId) (i : TypeInfo) (ht : P.underlying t = some (.slice e)) (hi : P.info? e = some i) (hi1 : i.size = 1)
  (g sLen sCap : Nat) (T : TypeId) (cur : List Value) (hg : Blk w g T cur) (ad : Addr) (m c : Nat) (hs : a.eval s = .slice (some ⟨g,0,none⟩) sLen sCap) (hx : a.eval x = .slice (some ad) m c)
  (news : List Value) (hl : news.length = m) (hnews : ∀ j u,news[j]? = some u → w.cell? (ad.add j) = some u) (h1 : ∀ u ∈ news,u.oneCell' = true)
  (hroom : sLen + m ≤ sCap) (hfit : sLen + m ≤ cur.length) (S : List Nat) (w0 : World) (hb : Fr S w0 w) (hBg : g ∈ S)
  (h : ∀ w',Hid (Blk w' g T (splice cur sLen news)) → Hid (Fr S w0 w') → wpList P ops Q rest (a.put o.dst (.slice (some ⟨g,0,none⟩) (sLen + m) sCap)) w') :
  wpList P ops Q (o :: rest) a w := by
 have hf := run_firstCells_some (P := P) w i.size m ad m c news (by rw [hi1,hl]; omega) hnews
 have hg' : w.heap[g]? = some (.cells cur.toArray T (0,0)) := hg
 have hst := run_storeCells_at P g (sLen * i.size) T news 0 cur.toArray w hg' (by rw [hi1]; simp; omega) h1
 simp only [Nat.add_zero] at hst
 have hrun : (Builtin.append_ #[t,t] o.type #[.slice (some ⟨g,0,none⟩) sLen sCap,.slice (some ad) m c]).run P w =
   .ok (.slice (some ⟨g,0,none⟩) (sLen + m) sCap) (w.setRow g (cur.toArray.toList.take (sLen * i.size) ++ news ++ cur.toArray.toList.drop (sLen * i.size + news.length)).toArray) := by
  simp [Builtin.append_,run_underlying ht,sizeOf,typeInfo,hi,Builtin.lenOf,hroom,hf,Addr.add_lit,hst]
 refine wpList_plain hgd fun K hK => ?_
 unfold Oper.wp
 simp only [execOp,ho,resolve,invoke,builtin,List.map_toArray,hs,hx]
 simp [hs,hx,hrun,Result.andThen]
 refine hK _ _ (h _ ?_ (hb.trans ⟨rfl,rfl,rfl,by simp [World.setRow],fun k _ hn => setRow_other w g k _ (fun e => hn (e ▸ hBg))⟩))
 show _ = _
 simpa [splice,hi1] using setRow_heap w g _ _ T _ hg'
/-- t is a slice type over e; an element has 'size' cells and 'bytes' bytes. -/
def Elem (P : Program) (t e : TypeId) (size bytes : Nat) : Prop :=
 P.underlying t = some (.slice e) ∧ ∃ i z,P.info? e = some i ∧ i.zero = some z ∧ i.size = size ∧ i.bytes = bytes ∧ z.cells.size = size ∧ 0 < size ∧ 0 < bytes
def elemOk (P : Program) (e : TypeId) (size bytes : Nat) : Bool :=
 match P.info? e with
 | some i => match i.zero with
  | some z => decide (i.size = size) && decide (i.bytes = bytes) && decide (z.cells.size = size)
  | none => false
 | none => false
theorem Elem.mk' {P : Program} {t e : TypeId} {size bytes : Nat} (h1 : P.underlying t = some (.slice e)) (h2 : elemOk P e size bytes = true) (hs : 0 < size) (hb : 0 < bytes) : Elem P t e size bytes := by
 refine ⟨h1, ?_⟩
 unfold elemOk at h2
 cases hi : P.info? e with
 | none => rw [hi] at h2; cases h2
 | some i =>
  rw [hi] at h2
  cases hz : i.zero with
  | none => simp [hz] at h2
  | some z =>
   simp [hz] at h2
   exact ⟨i,z,rfl,hz,h2.1.1,h2.1.2,h2.2,hs,hb⟩
theorem wpList_app {P : Program} {w : World} {ops : Array Oper} {rest : List Oper} {o : Oper} {a : Act} {Q : Exit → Act → World → Prop} (hgd : o.guard = none) (s x : Operand) (t : TypeId)
  (ho : o.op = .call { callee := .builtin .append,args := #[s,x],argTypes := #[t,t] })
  (e : TypeId) (size bytes : Nat) (he : Elem P t e size bytes) (base : Nat)
  (v : Value) (n : Nat) (xs : List Value) (hs : a.eval s = v) (hown : w.ownsRow base e size v n xs)
  (ao : Option Addr) (m c : Nat) (news : List Value) (hx : a.eval x = .slice ao m c) (hl : news.length = m * size) (hnone : ao = none → m = 0 ∧ c = 0)
  (hnews : ∀ ad,ao = some ad → ∀ j u,news[j]? = some u → w.cell? (ad.add j) = some u) (h1 : ∀ u ∈ news,u.oneCell' = true)
  (hbytes : (n + m) * bytes ≤ 140737488355328) (hbase : base ≤ w.heap.size) (S : List Nat) (w0 : World) (hf : Fr S w0 w) (hS : ∀ k,v.ownBlock = some k → k ∈ S ∨ w0.heap.size ≤ k)
  (h : ∀ v' w',Hid (w'.ownsRow base e size v' (n + m) (xs ++ news)) → Hid (Fr S w0 w') → wpList P ops Q rest (a.put o.dst v') w') : wpList P ops Q (o :: rest) a w := by
 obtain ⟨hu,i,z,hi,hz,hsize,hby,hzs,hsz,hb0⟩ := he
 cases ao with
 | some ad =>
  have h63 : n + m ≤ maxLen := by
   have : n + m ≤ (n + m) * bytes := Nat.le_mul_of_pos_right _ hb0
   simp only [maxLen]; omega
  refine wpList_append_own w hgd s x t ho base e i z size bytes hu hi hz hsize hby hzs hsz v n xs hs hown ad m c news hx hl (hnews ad rfl) h1 h63 hbytes hbase ?_
  intro v' w' ho' hg _
  refine h v' w' ho' ⟨hg.os.trans hf.os,hg.tape.trans hf.tape,hg.output.trans hf.output,Nat.le_trans hf.size hg.size,fun k hk hn => ?_⟩
  refine (hg.block k (Nat.lt_of_lt_of_le hk hf.size) (fun e => ?_)).trans (hf.block k hk hn)
  rcases hS k e.symm with h | h
  ·exact hn h
  ·omega
 | none =>
  obtain ⟨rfl,rfl⟩ := hnone rfl
  have hnews : news = [] := List.eq_nil_of_length_eq_zero (by simpa using hl)
  subst hnews
  refine wpList_plain hgd fun K hK' => ?_
  have hrun := run_append_owned_none (P := P) w base t o.type e i size hu hi v n xs hown
  unfold Oper.wp
  simp [execOp,ho,resolve,invoke,builtin,hs,hx,hrun,Result.andThen]
  refine hK' _ _ (h v w ?_ hf)
  show World.ownsRow _ _ _ _ _ _ _
  simpa using hown
theorem elem29 : Elem Tryz.prog 29 5 1 1 := Elem.mk' (by kernel_rfl) (by kernel_rfl) (by decide) (by decide)
/-- An operation that at its end yields a value, and calls nothing. -/
def plainOp (o : Oper) : Bool :=
 match o.op with
 | .move _ | .assign _ | .pick _ _ _ | .load _ _ | .nilCheck _ | .binOp _ _ _ _ _ | .unOp _ _ _ | .convert _ _ _ | .slice _ _ _ _ _ | .fieldAddr _ _ _ | .field _ _ _ | .indexAddr _ _ _ | .index _ _ _
 | .extract _ _ | .makeFunc _ _ _ | .makeInterface _ _ | .build _ _ => true
 | .call c => match c.callee with | .builtin .len => true | _ => false
 | _ => false
theorem val_of_bind {P : Program} {s : Sem Value} {w w' : World} {n : Next} (h : (do pure (Next.value (← s)) : Sem Next).run P w = .ok n w') : ∃ v,n = .value v := by
 rw [Sem.run_bind] at h
 cases hs : s.run P w with
 | ok v w1 => rw [hs] at h; simp [Result.andThen] at h; exact ⟨v,h.1.symm⟩
 | halt a b => rw [hs] at h; simp [Result.andThen] at h
theorem bind_ok {α β : Type} {P : Program} {x : Sem α} {f : α → Sem β} {w w' : World} {b : β} (h : (x >>= f).run P w = .ok b w') : ∃ a w1,(f a).run P w1 = .ok b w' := by
 rw [Sem.run_bind] at h
 cases hs : x.run P w with
 | ok v w1 => rw [hs] at h; exact ⟨v,w1,h⟩
 | halt a b => rw [hs] at h; simp [Result.andThen] at h
theorem plain_value {P : Program} {ρ : Operand → Value} {o : Oper} {w w' : World} {n : Next} (hp : plainOp o = true) (h : (execOp ρ o).run P w = .ok n w') : ∃ v,n = .value v := by
 unfold plainOp at hp
 unfold execOp at h
 cases hop : o.op <;> simp only [hop] at hp h
 case move => simp at h; exact ⟨_,h.1.symm⟩
 case assign => simp at h; exact ⟨_,h.1.symm⟩
 case pick =>
  rw [Sem.run_bind] at h
  generalize (asBool _).run P w = r at h
  cases r with
  | ok v w1 => simp [Result.andThen] at h; exact ⟨_,h.1.symm⟩
  | halt a b => simp [Result.andThen] at h
 case nilCheck x =>
  have hnp : ∀ n w',(runtimePanic .nilDeref : Sem Next).run P w = .ok n w' → False := fun n w' h => by simp [runtimePanic] at h
  cases hx : ρ x with
  | pointer a =>
   cases a with
   | none => simp only [hx] at h; exact (hnp _ _ h).elim
   | some a => simp only [hx] at h; simp at h; exact ⟨_,h.1.symm⟩
  | nilIface => simp only [hx] at h; exact (hnp _ _ h).elim
  | nilFunc => simp only [hx] at h; exact (hnp _ _ h).elim
  | func fn first captured =>
   simp only [hx] at h
   cases fn with
   | method name =>
    simp only at h
    split at h
    ·exact (hnp _ _ h).elim
    ·obtain ⟨_,_,h⟩ := bind_ok h
     obtain ⟨_,_,h⟩ := bind_ok h
     rw [Sem.run_ite] at h
     split at h
     ·obtain ⟨_,_,h⟩ := bind_ok h
      simp at h; exact ⟨_,h.1.symm⟩
     ·simp at h; exact ⟨_,h.1.symm⟩
    ·simp at h; exact ⟨_,h.1.symm⟩
   | _ => simp only at h; simp at h; exact ⟨_,h.1.symm⟩
  | _ => simp only [hx] at h; simp at h; exact ⟨_,h.1.symm⟩
 case call c =>
  cases hc : c.callee with
  | builtin b =>
   cases b <;> simp only [hc] at hp
   all_goals first | cases hp | skip
   simp only [resolve,hc] at h
   simp only [Sem.run_bind,Sem.run_pure,Result.andThen,invoke,builtin] at h
   exact val_of_bind (by rw [Sem.run_bind]; exact h)
  | invoke r n => simp only [hc] at hp; cases hp
  | value f => simp only [hc] at hp; cases hp
 all_goals first
  | exact val_of_bind h
  | cases hp
/-- What is quiet in a class of worlds, and calls nothing, yields its value in each of them. -/
theorem yields_of_quiet {P : Program} {ops : Array Oper} {S : World → Prop} {o : Oper} {v : Value} {a : Act} (hp : plainOp o = true) (hw : Region.wanted o (yielded ops a.tmps) = true)
  (h : ∀ w,S w → o.quietAt P a S w v) : YieldsIf P ops S o v a := by
 refine .inl ⟨hw,fun w hS => ?_⟩
 have h1 := h w hS
 unfold Oper.quietAt at h1
 cases hr : (execOp a.eval o).run P w with
 | halt x y => rw [hr] at h1; exact h1.elim
 | ok n w' =>
  obtain ⟨u,rfl⟩ := plain_value hp hr
  rw [hr] at h1
  obtain ⟨rfl,rfl⟩ := h1
  rfl
def setAll (listed : Array Bool) : List Nat → Array Bool
 | [] => listed
 | i :: r => setAll (listed.setIfInBounds i true) r
/-- These may be taken, one behind the other. -/
def quietOk (md : Region.Mode) (ops : Array Oper) : List Nat → Array Bool → Bool
 | [],_ => true
 | i :: r,listed => (match ops[i]? with | some o => plainOp o | none => false) && Region.free md ops listed i && (Region.ready md ops listed).contains i && quietOk md ops r (listed.setIfInBounds i true)
def pick (ops : Array Oper) (is : List Nat) : List Oper := is.filterMap (fun i => ops[i]?)
def nthO : List Oper → Nat → List Oper → List Oper
 | [],_,r => r
 | o :: _,0,r => o :: r
 | _ :: l,n+1,r => nthO l n r
def pickL (l : List Oper) : List Nat → List Oper
 | [] => []
 | i :: is => nthO l i (pickL l is)
theorem nthO_eq : ∀ (l : List Oper) (i : Nat) (r : List Oper),nthO l i r = (match l[i]? with | some o => o :: r | none => r) := by
 intro l
 induction l with
 | nil => intro i r; rfl
 | cons o l ih =>
  intro i r
  cases i with
  | zero => rfl
  | succ i => simp only [nthO,ih,List.getElem?_cons_succ]
theorem pickL_eq (l : List Oper) : ∀ is,pick l.toArray is = pickL l is := by
 intro is
 induction is with
 | nil => rfl
 | cons i is ih =>
  simp only [pickL,nthO_eq,← ih,pick,List.filterMap_cons,List.getElem?_toArray]
  cases l[i]? <;> rfl
theorem seg_quiet0 {P : Program} {ops : Array Oper} {Q : Exit → Act → World → Prop} {md : Region.Mode} {S : World → Prop} {w : World} (hs : Region.noSelect ops = true)
  (hQ : ∀ d v c a w,Q (.panic c) (Act.put a d v) w → Q (.panic c) a w) (hS : S w) (fuel : Nat) :
  ∀ (is : List Nat) (listed : Array Bool) (a : Act),quietOk md ops is listed = true →
   wpQuiet P ops S (fun a' => wpAnyH P md ops Q S fuel (setAll listed is) a' w) (pick ops is) a → wpAnyH P md ops Q S (fuel + is.length) listed a w := by
 intro is
 induction is with
 | nil => intro listed a _ h; exact h
 | cons i r ih =>
  intro listed a hq h
  simp only [quietOk,Bool.and_eq_true] at hq
  obtain ⟨⟨⟨h1,h2⟩,h3⟩,h4⟩ := hq
  cases ho : ops[i]? with
  | none => rw [ho] at h1; cases h1
  | some o =>
   rw [ho] at h1
   have hp : pick ops (i :: r) = o :: pick ops r := by simp [pick,ho]
   rw [hp] at h
   unfold wpQuiet at h
   split at h
   ·rename_i hw
    obtain ⟨v,hv,hn⟩ := h
    exact wpAnyH_take (v := v) ho hs h2 h3 (hQ _ _) (yields_of_quiet h1 hw hv) hS (ih _ _ h4 hn)
   ·rename_i hw
    exact wpAnyH_take (v := undef) ho hs h2 h3 (hQ _ _) (.inr ⟨by simpa using hw,rfl⟩) hS (ih _ _ h4 h)
theorem seg_quiet {P : Program} {l : List Oper} {Q : Exit → Act → World → Prop} {md : Region.Mode} {S : World → Prop} {w : World} (hs : Region.noSelect l.toArray = true)
  (hQ : ∀ d v c a w,Q (.panic c) (Act.put a d v) w → Q (.panic c) a w) (hS : S w) (fuel : Nat) (is : List Nat) (listed : Array Bool) (a : Act) (hq : quietOk md l.toArray is listed = true)
  (h : wpQuiet P l.toArray S (fun a' => wpAnyH P md l.toArray Q S fuel (setAll listed is) a' w) (pickL l is) a) : wpAnyH P md l.toArray Q S (fuel + is.length) listed a w :=
 seg_quiet0 hs hQ hS fuel is listed a hq (by rw [pickL_eq]; exact h)
theorem wp_then {P : Program} {o : Oper} {a : Act} {w : World} {K K' : Act → World → Prop} {Q : Exit → Act → World → Prop} (h : o.wp P a w K (Exit.then K' Q)) : o.wp P a w K Q := by
 unfold Oper.wp at *
 generalize (execOp a.eval o).run P w = r at *
 cases r with
 | ok n w' => cases n <;> exact h
 | halt x w' => cases x <;> exact h
theorem seg_act {P : Program} {ops : Array Oper} {Q : Exit → Act → World → Prop} {md : Region.Mode} {S : World → Prop} {w : World} {fuel : Nat} {listed : Array Bool} {a : Act} (i : Nat) {o : Oper} (ho : ops[i]? = some o) (hg : o.guard = none)
  (hr : Region.ready md ops listed = [i])
  (h : wpList P ops (Exit.then (fun a' w' => S w' ∧ (S w' → wpAnyH P md ops Q S fuel (listed.setIfInBounds i true) a' w')) Q) [o] a w) : wpAnyH P md ops Q S (fuel + 1) listed a w := by
 refine wpAnyH_all hr (by simp) ?_
 intro j hj
 obtain rfl : j = i := by simpa using hj
 unfold wpOp
 rw [ho]
 have hw : Region.wanted o (yielded ops a.tmps) = true := by simp [Region.wanted,hg]
 simp only [hw,if_true]
 have hl : wpList P ops (Exit.then (fun a' w' => S w' ∧ (S w' → wpAnyH P md ops Q S fuel (listed.setIfInBounds j true) a' w')) Q) [o] a w := h
 unfold wpList at hl
 rw [if_pos hw] at hl
 rcases hl with hl | hl
 ·refine .inl (Oper.wp_mono ?_ (wp_then hl))
  intro a' w' h'
  exact ⟨h'.1,h'.2 h'.1⟩
 ·exact .inr hl
/-- The beginning. -/
theorem seg_begin {P : Program} {id : Nat} {Q : Exit → Act → World → Prop} {a : Act} {w : World} {l : List Oper} (S : World → Prop) (hm : P.follows .mixedOrders = true)
  (h : wpAnyH P .any l.toArray Q S l.length (Array.replicate l.length false) a w.drew) : (Code.region id l.toArray true).wp P Q a w :=
 wp_region_held hm (by simpa using h)
/-- The end. -/
theorem seg_end {P : Program} {ops : Array Oper} {Q : Exit → Act → World → Prop} {md : Region.Mode} {S : World → Prop} {fuel : Nat} {listed : Array Bool} {a : Act} {w : World} (hr : Region.ready md ops listed = []) (h : Q .normal a w) :
  wpAnyH P md ops Q S fuel listed a w := wpAnyH_done hr h fuel
theorem foldl_set (vs : List Value) : ∀ (cells : List Value) (off k : Nat),off + k + vs.length ≤ cells.length →
  ((vs.zipIdx k).foldl (fun cs (c,j) => cs.setIfInBounds (off + j) c) cells.toArray) = (splice cells (off + k) vs).toArray := by
 induction vs with
 | nil => intro cells off k _; simp [splice]
 | cons v vs ih =>
  intro cells off k h
  simp only [List.zipIdx_cons,List.foldl_cons,List.setIfInBounds_toArray]
  rw [ih _ _ _ (by simp at h ⊢; omega),← splice_cons' _ _ _ _ (by simp at h; omega)]
  rfl
theorem fill_cons {place : Nat → Option (Nat × Nat)} {cells : List Value} {i off size : Nat} {v : Value} {rest : List (Nat × Value)} (hp : place i = some (off,size)) (hs : v.cells.size = size) (hf : off + size ≤ cells.length) :
  Instr.fill place cells.toArray ((i,v) :: rest) = Instr.fill place (splice cells off v.cells.toList).toArray rest := by
 have hc : ¬ ((v.cells.size ≠ size || off + v.cells.size > cells.toArray.size) = true) := by simp [hs]; omega
 have e : v.cells.zipIdx.foldl (fun cs (c,j) => cs.setIfInBounds (off + j) c) cells.toArray = (splice cells off v.cells.toList).toArray := by
  have := foldl_set v.cells.toList cells off 0 (by simp [hs]; omega)
  rw [Nat.add_zero] at this
  rw [← this,← Array.foldl_toList,Array.toList_zipIdx]
 rw [Instr.fill]
 simp only [hp]
 rw [if_neg hc,e]
/-- The places of lists that lie one behind the other. -/
def offs : Nat → List (List Value) → List (Nat × Nat)
 | _,[] => []
 | o,z :: zs => (o,z.length) :: offs (o + z.length) zs
theorem splice_flat : ∀ (zs : List (List Value)) (o i : Nat) (off size : Nat) (vs : List Value),(offs o zs)[i]? = some (off,size) → vs.length = size →
  o ≤ off ∧ off - o + size ≤ zs.flatten.length ∧ splice zs.flatten (off - o) vs = (zs.set i vs).flatten ∧ (offs o (zs.set i vs)) = offs o zs := by
 intro zs
 induction zs with
 | nil => intro o i off size vs h; simp [offs] at h
 | cons z zs ih =>
  intro o i off size vs h hs
  cases i with
  | zero =>
   simp [offs] at h
   obtain ⟨rfl,rfl⟩ := h
   refine ⟨Nat.le_refl _,by simp, ?_, ?_⟩
   ·simp [splice,hs]
   ·simp [offs,hs]
  | succ i =>
   simp only [offs,List.getElem?_cons_succ] at h
   obtain ⟨h1,h2,h3,h4⟩ := ih _ _ _ _ _ h hs
   refine ⟨by omega,by rw [List.flatten_cons,List.length_append]; omega, ?_, ?_⟩
   ·simp only [List.flatten_cons,List.set_cons_succ]
    rw [← h3]
    have e : off - o = z.length + (off - (o + z.length)) := by omega
    simp only [splice]
    rw [e,List.take_length_add_append,Nat.add_assoc,List.drop_length_add_append,List.append_assoc]
   ·simp only [List.set_cons_succ,offs,h4]
theorem fill_flat (pl : List (Nat × Nat)) : ∀ (parts : List (Nat × Value)) (zs : List (List Value)),offs 0 zs = pl → (∀ x ∈ parts,∃ off,pl[x.1]? = some (off,x.2.cells.size)) →
  Instr.fill (pl.toArray[·]?) zs.flatten.toArray parts = some (parts.foldl (fun z x => z.set x.1 x.2.cells.toList) zs).flatten.toArray := by
 intro parts
 induction parts with
 | nil => intro zs _ _; rfl
 | cons x parts ih =>
  intro zs hz hp
  obtain ⟨i,v⟩ := x
  obtain ⟨off,ho⟩ := hp (i,v) (by simp)
  subst hz
  obtain ⟨h1,h2,h3,h4⟩ := splice_flat zs 0 i off v.cells.size v.cells.toList ho (by simp)
  rw [fill_cons (off := off) (size := v.cells.size) (by simpa using ho) rfl (by omega)]
  rw [Nat.sub_zero] at h3
  rw [h3,ih _ h4 (fun y hy => by obtain ⟨off,h⟩ := hp y (by simp [hy]); exact ⟨off,h⟩)]
  rfl
def builtPlaces (P : Program) (t : TypeId) : Option (List Value × List (Nat × Nat)) :=
 match P.info? t,P.underlying t with
 | some it,some (.struct fields) =>
  match it.zero,fields.toList.mapM (fun f => (P.info? f.type).map fun i => (f.offset,i.size)) with
  | some z,some places => some (z.cells.toList,places)
  | _,_ => none
 | _,_ => none
theorem run_build_flat {P : Program} {w : World} {t : TypeId} (zs : List (List Value)) (h : builtPlaces P t = some (zs.flatten,offs 0 zs)) (parts : Array (Nat × Value))
  (hp : ∀ x ∈ parts.toList,∃ off,(offs 0 zs)[x.1]? = some (off,x.2.cells.size)) (cs : List Value) (hc : (parts.toList.foldl (fun z x => z.set x.1 x.2.cells.toList) zs).flatten = cs) :
  (Instr.build t parts).run P w = .ok (.agg cs.toArray) w := by
 refine run_build w t parts cs.toArray ?_
 unfold builtPlaces at h
 unfold Program.built
 cases hit : P.info? t with
 | none => simp [hit] at h
 | some it =>
  cases hu : P.underlying t with
  | none => simp [hit,hu] at h
  | some d =>
   cases d <;> try (simp [hit,hu] at h; done)
   rename_i fields
   cases hz : it.zero with
   | none => simp [hit,hu,hz] at h
   | some z =>
    cases hpl : fields.toList.mapM (fun f => (P.info? f.type).map fun i => (f.offset,i.size)) with
    | none => simp [hit,hu,hz,hpl] at h
    | some places =>
     simp only [hit,hu,hz,hpl,Option.some.injEq,Prod.mk.injEq] at h
     obtain ⟨h1,h2⟩ := h
     simp only [hz,hpl]
     have := fill_flat (offs 0 zs) parts.toList zs rfl hp
     rw [hc,← h1,← h2] at this
     simpa using this
/-- One quiet operation by hand. -/
theorem wpQuiet_val {P : Program} {ops : Array Oper} {S : World → Prop} {Q : Act → Prop} {o : Oper} {rest : List Oper} {a : Act} (v : Value) (hg : o.guard = none)
  (h : ∀ w,S w → (execOp a.eval o).run P w = .ok (.value v) w) (hn : wpQuiet P ops S Q rest (a.put o.dst v)) : wpQuiet P ops S Q (o :: rest) a := by
 unfold wpQuiet
 rw [if_pos (by simp [Region.wanted,hg])]
 refine ⟨v,fun w hS => ?_,hn⟩
 unfold Oper.quietAt
 rw [h w hS]
 exact ⟨rfl,rfl⟩
theorem wpQuiet_load {P : Program} {ops : Array Oper} {S : World → Prop} {Q : Act → Prop} {o : Oper} {rest : List Oper} {a : Act} (hg : o.guard = none) (ty : TypeId) (x : Operand) (ho : o.op = .load ty x)
  (b off : Nat) (hx : a.eval x = .pointer (some ⟨b,off,none⟩)) (cs : List Value) (d : TypeDesc) (hc : ∀ w,S w → w.rangeAt b off cs) (hu : P.underlying ty = some d) (hd : d.isRow = true) (hi : (P.info? ty).map (·.size) = some cs.length)
  (hn : wpQuiet P ops S Q rest (a.put o.dst (.agg cs.toArray))) : wpQuiet P ops S Q (o :: rest) a := by
 refine wpQuiet_val _ hg (fun w hS => ?_) hn
 unfold execOp
 simp only [ho,hx,Sem.run_bind,run_loadAt_mid w b off ty cs d (hc w hS) hu hd hi]
 rfl
theorem wpQuiet_build {P : Program} {ops : Array Oper} {S : World → Prop} {Q : Act → Prop} {o : Oper} {rest : List Oper} {a : Act} (hg : o.guard = none) (t : TypeId) (parts : Array (Nat × Operand)) (ho : o.op = .build t parts)
  (vparts : List (Nat × Value)) (hv : (parts.map fun (i,x) => (i,a.eval x)).toList = vparts) (zs : List (List Value)) (h : builtPlaces P t = some (zs.flatten,offs 0 zs))
  (hp : ∀ x ∈ vparts,∃ off,(offs 0 zs)[x.1]? = some (off,x.2.cells.size)) (cs : List Value) (hc : (vparts.foldl (fun z x => z.set x.1 x.2.cells.toList) zs).flatten = cs)
  (hn : wpQuiet P ops S Q rest (a.put o.dst (.agg cs.toArray))) : wpQuiet P ops S Q (o :: rest) a := by
 refine wpQuiet_val _ hg (fun w hS => ?_) hn
 unfold execOp
 simp only [ho,Sem.run_bind,run_build_flat (P := P) (w := w) zs h _ (by rw [hv]; exact hp) cs (by rw [hv]; exact hc)]
 rfl
section
section
variable {P : Program} {ops : Array Oper} {Q : Exit → Act → World → Prop} {md : Region.Mode} {S : World → Prop} {z : Nat}
/-- Whatever order is picked, S holds behind every operation but number z. -/
def wpAnyS (P : Program) (md : Region.Mode) (ops : Array Oper) (Q : Exit → Act → World → Prop) (S : World → Prop) (z : Nat) : Nat → Array Bool → Act → World → Prop
 | 0,listed,a,w => Region.ready md ops listed = [] ∧ Q .normal a w
 | fuel + 1,listed,a,w => (Region.ready md ops listed = [] → Q .normal a w) ∧
  ∀ i ∈ Region.ready md ops listed,wpOp P ops Q i (fun a' w' => (i ≠ z → S w') ∧ wpAnyS P md ops Q S z fuel (listed.setIfInBounds i true) a' w') a w
theorem any_of_S : ∀ (fuel : Nat) (listed : Array Bool) (a : Act) (w : World),wpAnyS P md ops Q S z fuel listed a w → wpAny P md ops Q fuel listed a w
 | 0,_,_,_,h => h
 | fuel + 1,_,_,_,h => ⟨h.1,fun i hi => wpOp_mono (fun a' w' h' => any_of_S fuel _ a' w' h'.2) (h.2 i hi)⟩
/-- Number z waits for number i. -/
def waits (md : Region.Mode) (ops : Array Oper) (z i : Nat) : Bool :=
 match ops[z]? with
 | some o => o.after.any fun e => Region.binds md e && e.on == i
 | none => false
theorem not_ready_of_waits {i : Nat} {listed : Array Bool} (hw : waits md ops z i = true) (hi : i ∈ Region.ready md ops listed) : z ∉ Region.ready md ops listed := by
 intro hz
 obtain ⟨_,oz,hoz,hall⟩ := mem_ready.1 hz
 obtain ⟨hun,_⟩ := mem_ready.1 hi
 unfold waits at hw
 rw [hoz] at hw
 simp only [Array.any_eq_true,Bool.and_eq_true,beq_iff_eq] at hw
 obtain ⟨k,hk,hb,he⟩ := hw
 have h1 := hall _ (Array.getElem_mem hk) hb
 rw [he] at h1
 rcases Nat.lt_or_ge i listed.size with h' | h'
 ·simp [h'] at h1 hun; rw [hun] at h1; cases h1
 ·simp [Array.getElem?_eq_none h'] at h1
theorem anyS_first {i : Nat} {oi : Oper} {v : Value} (hi : ops[i]? = some oi) (hsel : ∀ (j : Nat) (o : Oper) cs b,ops[j]? = some o → o.op ≠ .select cs b) (hz : waits md ops z i = true)
  (hQ : ∀ c a w,Q (.panic c) (a.put oi.dst v) w → Q (.panic c) a w) :
  ∀ (fuel : Nat) (listed : Array Bool) (a : Act) (w : World),
   (∀ j oj,ops[j]? = some oj → j ≠ i → listed.getD j true = false → (∀ e ∈ oj.after,Region.binds md e = true → e.on ≠ i) → oi.apart ops oj = true) →
   i ∈ Region.ready md ops listed → YieldsIf P ops S oi v a → S w →
   wpAnyS P md ops Q S z fuel (listed.setIfInBounds i true) (a.put oi.dst v) w → wpAnyS P md ops Q S z (fuel + 1) listed a w := by
 intro fuel
 induction fuel with
 | zero =>
  intro listed a w _ hr hy hS H
  refine ⟨fun h => (by rw [h] at hr; cases hr),fun j hj => ?_⟩
  by_cases hji : j = i
  ·subst hji; exact hy.wpOp hi hS ⟨fun _ => hS,H⟩
  ·have h0 := ready_mono hj hji
   rw [H.1] at h0; cases h0
 | succ fuel ih =>
  intro listed a w hfree hr hy hS H
  refine ⟨fun h => (by rw [h] at hr; cases hr),fun j hj => ?_⟩
  by_cases hji : j = i
  ·subst hji; exact hy.wpOp hi hS ⟨fun _ => hS,H⟩
  ·have hjz : j ≠ z := fun e => not_ready_of_waits hz hr (e ▸ hj)
   have h1 := H.2 j (ready_mono hj hji)
   obtain ⟨hjun,oj,hoj,hall⟩ := mem_ready.1 hj
   have hnot : ∀ e ∈ oj.after,Region.binds md e = true → e.on ≠ i := by
    intro e he hb heq
    have k1 := hall e he hb
    have k0 := (mem_ready.1 hr).1
    rw [heq] at k1
    rcases Nat.lt_or_ge i listed.size with h' | h'
    ·simp [h'] at k0 k1; rw [k0] at k1; cases k1
    ·simp [Array.getElem?_eq_none h'] at k1
   have h2 := wpOp_putIf hoj (hfree j oj hoj hji hjun hnot) (fun cs b => hsel i oi cs b hi) (fun cs b => hsel j oj cs b hoj) hQ hy h1
   refine wpOp_mono (fun a' w' h3 => ?_) h2
   have hS' := h3.2.1 hjz
   refine ⟨fun _ => hS',ih (listed.setIfInBounds j true) a' w' ?_ (ready_mono hr (Ne.symm hji)) h3.1 hS' ?_⟩
   ·intro k ok hk hki hun hno
    refine hfree k ok hk hki ?_ hno
    by_cases hjk : j = k
    ·subst hjk; exact hjun
    ·rwa [getD_set_ne true hjk] at hun
   ·rw [Array.setIfInBounds_comm _ _ hji]
    exact h3.2.2
/-- These may be taken, one behind the other, ahead of number z. -/
def quietOkS (md : Region.Mode) (ops : Array Oper) (z : Nat) : List Nat → Array Bool → Bool
 | [],_ => true
 | i :: r,listed => (match ops[i]? with | some o => plainOp o | none => false) && waits md ops z i && Region.free md ops listed i && (Region.ready md ops listed).contains i && quietOkS md ops z r (listed.setIfInBounds i true)
theorem segS_quiet {l : List Oper} {w : World} (hs : Region.noSelect l.toArray = true) (hQ : ∀ d v c a w,Q (.panic c) (Act.put a d v) w → Q (.panic c) a w) (hS : S w) (fuel : Nat) :
  ∀ (is : List Nat) (listed : Array Bool) (a : Act),quietOkS md l.toArray z is listed = true →
   wpQuiet P l.toArray S (fun a' => wpAnyS P md l.toArray Q S z fuel (setAll listed is) a' w) (pickL l is) a → wpAnyS P md l.toArray Q S z (fuel + is.length) listed a w := by
 intro is
 induction is with
 | nil => intro listed a _ h; exact h
 | cons i r ih =>
  intro listed a hq h
  simp only [quietOkS,Bool.and_eq_true] at hq
  obtain ⟨⟨⟨⟨h1,h0⟩,h2⟩,h3⟩,h4⟩ := hq
  cases ho : l.toArray[i]? with
  | none => rw [ho] at h1; cases h1
  | some o =>
   rw [ho] at h1
   have hp : pickL l (i :: r) = o :: pickL l r := by
    have ho' : l[i]? = some o := by simpa using ho
    simp only [pickL,nthO_eq,ho']
   rw [hp] at h
   unfold wpQuiet at h
   have hr : i ∈ Region.ready md l.toArray listed := by simpa using h3
   split at h
   ·rename_i hw
    obtain ⟨v,hv,hn⟩ := h
    exact anyS_first (v := v) ho (Region.noSelect_spec hs) h0 (hQ _ _) _ listed a w (Region.free_spec ho h2) hr (yields_of_quiet h1 hw hv) hS (ih _ _ h4 hn)
   ·rename_i hw
    exact anyS_first (v := undef) ho (Region.noSelect_spec hs) h0 (hQ _ _) _ listed a w (Region.free_spec ho h2) hr (.inr ⟨by simpa using hw,rfl⟩) hS (ih _ _ h4 h)
theorem segS_act {w : World} {fuel : Nat} {listed : Array Bool} {a : Act} (i : Nat) {o : Oper} (ho : ops[i]? = some o) (hg : o.guard = none) (hr : Region.ready md ops listed = [i])
  (h : wpList P ops (Exit.then (fun a' w' => (i ≠ z → S w') ∧ wpAnyS P md ops Q S z fuel (listed.setIfInBounds i true) a' w') Q) [o] a w) : wpAnyS P md ops Q S z (fuel + 1) listed a w := by
 refine ⟨fun h0 => (by rw [hr] at h0; cases h0), ?_⟩
 intro j hj
 rw [hr] at hj
 obtain rfl : j = i := by simpa using hj
 unfold wpOp
 rw [ho]
 have hw : Region.wanted o (yielded ops a.tmps) = true := by simp [Region.wanted,hg]
 simp only [hw,if_true]
 unfold wpList at h
 rw [if_pos hw] at h
 rcases h with h | h
 ·exact .inl (Oper.wp_mono (fun a' w' h' => h') (wp_then h))
 ·exact .inr h
theorem segS_begin {id : Nat} {a : Act} {w : World} {l : List Oper} (S : World → Prop) (z : Nat) (hm : P.follows .mixedOrders = true)
  (h : wpAnyS P .any l.toArray Q S z l.length (Array.replicate l.length false) a w.drew) : (Code.region id l.toArray true).wp P Q a w :=
 wp_region_any hm (any_of_S _ _ _ _ (by simpa using h))
theorem segS_end {w : World} {fuel : Nat} {listed : Array Bool} {a : Act} (hr : Region.ready md ops listed = []) (h : Q .normal a w) : wpAnyS P md ops Q S z fuel listed a w := by
 cases fuel with
 | zero => exact ⟨hr,h⟩
 | succ n => exact ⟨fun _ => h,by rw [hr]; simp⟩
end
end
section
section
variable {P : Program} {ops : Array Oper} {Q : Exit → Act → World → Prop} {md : Region.Mode} {S : World → Prop}
/-- An operation whose guard holds is one without a guard. -/
theorem wpQuiet_g {Q : Act → Prop} {o : Oper} {rest : List Oper} {a : Act} (hw : Region.wanted o (yielded ops a.tmps) = true) (h : wpQuiet P ops S Q ({ o with guard := none } :: rest) a) : wpQuiet P ops S Q (o :: rest) a := by
 unfold wpQuiet at h ⊢
 rw [if_pos (by simp [Region.wanted])] at h
 rw [if_pos hw]
 exact h
/-- An operation whose guard does not hold is passed by. -/
theorem wpQuiet_s {Q : Act → Prop} {o : Oper} {rest : List Oper} {a : Act} (hw : Region.wanted o (yielded ops a.tmps) = false) (h : wpQuiet P ops S Q rest (a.put o.dst undef)) : wpQuiet P ops S Q (o :: rest) a := by
 unfold wpQuiet
 rw [if_neg (by rw [hw]; simp)]
 exact h
theorem wpList_g {o : Oper} {rest : List Oper} {a : Act} {w : World} (hw : Region.wanted o (yielded ops a.tmps) = true) (h : wpList P ops Q ({ o with guard := none } :: rest) a w) : wpList P ops Q (o :: rest) a w := by
 unfold wpList at h ⊢
 rw [if_pos (by simp [Region.wanted])] at h
 rw [if_pos hw]
 exact h
theorem seg_actW {w : World} {fuel : Nat} {listed : Array Bool} {a : Act} (i : Nat) {o : Oper} (ho : ops[i]? = some o) (hw : Region.wanted o (yielded ops a.tmps) = true)
  (hr : Region.ready md ops listed = [i])
  (h : wpList P ops (Exit.then (fun a' w' => S w' ∧ (S w' → wpAnyH P md ops Q S fuel (listed.setIfInBounds i true) a' w')) Q) [{ o with guard := none }] a w) : wpAnyH P md ops Q S (fuel + 1) listed a w := by
 have h' := wpList_g hw h
 refine wpAnyH_all hr (by simp) ?_
 intro j hj
 obtain rfl : j = i := by simpa using hj
 unfold wpOp
 rw [ho]
 simp only [hw,if_true]
 unfold wpList at h'
 rw [if_pos hw] at h'
 rcases h' with hl | hl
 ·refine .inl (Oper.wp_mono ?_ (wp_then hl))
  intro a' w' h'
  exact ⟨h'.1,h'.2 h'.1⟩
 ·exact .inr hl
theorem seg_skip {w : World} {fuel : Nat} {listed : Array Bool} {a : Act} (i : Nat) {o : Oper} (ho : ops[i]? = some o) (hs : Region.noSelect ops = true) (hQ : ∀ d v c a w,Q (.panic c) (Act.put a d v) w → Q (.panic c) a w) (hS : S w) (hw : Region.wanted o (yielded ops a.tmps) = false)
  (h2 : Region.free md ops listed i = true) (h3 : (Region.ready md ops listed).contains i = true) (h : wpAnyH P md ops Q S fuel (listed.setIfInBounds i true) (a.put o.dst undef) w) : wpAnyH P md ops Q S (fuel + 1) listed a w :=
 wpAnyH_take (v := undef) ho hs h2 h3 (hQ _ _) (.inr ⟨by simpa using hw,rfl⟩) hS h
end
end
theorem and_mask64 (x : Nat) (hx : x < 2 ^ 62) : x &&& 18446744073709551552 = 64 * (x / 64) := by
 apply Nat.eq_of_testBit_eq
 intro i
 have e1 : (18446744073709551552 : Nat) = 2 ^ 6 * (2 ^ 58 - 1) := by decide
 have e2 : 64 * (x / 64) = 2 ^ 6 * (x / 2 ^ 6) := rfl
 rw [e1,Nat.testBit_and,e2,Nat.testBit_two_pow_mul,Nat.testBit_two_pow_mul,Nat.testBit_two_pow_sub_one,Nat.testBit_div_two_pow]
 by_cases hi : 6 ≤ i
 ·rw [show i - 6 + 6 = i by omega]
  by_cases h2 : i - 6 < 58
  ·simp [hi,h2]
  ·have : x.testBit i = false := Nat.testBit_lt_two_pow (Nat.lt_of_lt_of_le hx (Nat.pow_le_pow_right (by omega) (by omega)))
   simp [this]
 ·simp [hi]
theorem andNot63 (n : Nat) (hn : n < 2 ^ 62) : bits .andNot .i64 (n : Int) 63 = ((64 * (n / 64) : Nat) : Int) := by
 show IntKind.i64.wrap ((BitVec.ofInt 64 (n : Int) &&& ~~~BitVec.ofInt 64 63).toNat : Int) = _
 have h1 : (BitVec.ofInt 64 63).toNat = 63 := by decide
 rw [BitVec.toNat_and,BitVec.toNat_not,ofInt_u64 n (by omega),h1,show 2 ^ 64 - 1 - 63 = 18446744073709551552 by decide,and_mask64 n hn,IntKind.wrap_i64]
 omega
theorem ofInt_toNat (n x : Nat) (h : x < 2 ^ n) : (BitVec.ofInt n (x : Int)).toNat = x := by
 rw [show BitVec.ofInt n (x : Int) = BitVec.ofNat n x from BitVec.ofInt_natCast n x,BitVec.toNat_ofNat,Nat.mod_eq_of_lt h]
theorem wrap_u8 (x : Nat) (h : x < 256) : IntKind.u8.wrap (x : Int) = x := by
 rw [IntKind.wrap_u8]; omega
theorem wrap_u32 (x : Nat) (h : x < 4294967296) : IntKind.u32.wrap (x : Int) = x := by
 rw [IntKind.wrap_u32]; omega
theorem wrap_u16 (x : Nat) (h : x < 65536) : IntKind.u16.wrap (x : Int) = x := by
 rw [IntKind.wrap_u16]; omega
theorem or_u32 (x y : Nat) (hx : x < 2 ^ 32) (hy : y < 2 ^ 32) : bits .or .u32 (x : Int) (y : Int) = ((x ||| y : Nat) : Int) := by
 show IntKind.u32.wrap ((BitVec.ofInt 32 (x : Int) ||| BitVec.ofInt 32 (y : Int)).toNat : Int) = _
 rw [BitVec.toNat_or,ofInt_toNat 32 x hx,ofInt_toNat 32 y hy,wrap_u32 _ (Nat.or_lt_two_pow hx hy)]
theorem xor_u32 (x y : Nat) (hx : x < 2 ^ 32) (hy : y < 2 ^ 32) : bits .xor .u32 (x : Int) (y : Int) = ((x ^^^ y : Nat) : Int) := by
 show IntKind.u32.wrap ((BitVec.ofInt 32 (x : Int) ^^^ BitVec.ofInt 32 (y : Int)).toNat : Int) = _
 rw [BitVec.toNat_xor,ofInt_toNat 32 x hx,ofInt_toNat 32 y hy,wrap_u32 _ (Nat.xor_lt_two_pow hx hy)]
theorem and_u32 (x y : Nat) (hx : x < 2 ^ 32) (hy : y < 2 ^ 32) : bits .and .u32 (x : Int) (y : Int) = ((x &&& y : Nat) : Int) := by
 show IntKind.u32.wrap ((BitVec.ofInt 32 (x : Int) &&& BitVec.ofInt 32 (y : Int)).toNat : Int) = _
 rw [BitVec.toNat_and,ofInt_toNat 32 x hx,ofInt_toNat 32 y hy,wrap_u32 _ (Nat.lt_of_le_of_lt Nat.and_le_left hx)]
theorem or_u16 (x y : Nat) (hx : x < 2 ^ 16) (hy : y < 2 ^ 16) : bits .or .u16 (x : Int) (y : Int) = ((x ||| y : Nat) : Int) := by
 show IntKind.u16.wrap ((BitVec.ofInt 16 (x : Int) ||| BitVec.ofInt 16 (y : Int)).toNat : Int) = _
 rw [BitVec.toNat_or,ofInt_toNat 16 x hx,ofInt_toNat 16 y hy,wrap_u16 _ (Nat.or_lt_two_pow hx hy)]
theorem or_u8 (x y : Nat) (hx : x < 2 ^ 8) (hy : y < 2 ^ 8) : bits .or .u8 (x : Int) (y : Int) = ((x ||| y : Nat) : Int) := by
 show IntKind.u8.wrap ((BitVec.ofInt 8 (x : Int) ||| BitVec.ofInt 8 (y : Int)).toNat : Int) = _
 rw [BitVec.toNat_or,ofInt_toNat 8 x hx,ofInt_toNat 8 y hy,wrap_u8 _ (Nat.or_lt_two_pow hx hy)]
theorem and_u8 (x y : Nat) (hx : x < 2 ^ 8) (hy : y < 2 ^ 8) : bits .and .u8 (x : Int) (y : Int) = ((x &&& y : Nat) : Int) := by
 show IntKind.u8.wrap ((BitVec.ofInt 8 (x : Int) &&& BitVec.ofInt 8 (y : Int)).toNat : Int) = _
 rw [BitVec.toNat_and,ofInt_toNat 8 x hx,ofInt_toNat 8 y hy,wrap_u8 _ (Nat.lt_of_le_of_lt Nat.and_le_left hx)]
theorem or_disj (x y i : Nat) (h : x < 2 ^ i) : x ||| (y * 2 ^ i) = x + y * 2 ^ i := by
 rw [Nat.or_comm,Nat.mul_comm y,← Nat.two_pow_add_eq_or_of_lt h,Nat.add_comm]
theorem xor_disj (x y i : Nat) (h : x < 2 ^ i) : x ^^^ (y * 2 ^ i) = x + y * 2 ^ i := by
 rw [← or_disj x y i h]
 apply Nat.eq_of_testBit_eq
 intro j
 rw [Nat.testBit_xor,Nat.testBit_or,Nat.mul_comm,Nat.testBit_two_pow_mul]
 by_cases hj : i ≤ j
 ·have : x.testBit j = false := Nat.testBit_lt_two_pow (Nat.lt_of_lt_of_le h (Nat.pow_le_pow_right (by omega) hj))
  simp [this]
 ·simp [hj]
theorem orI_u32 (x y : Int) (i : Nat) (hx0 : 0 ≤ x) (hx : x < 2 ^ i) (hy0 : 0 ≤ y) (hi : i ≤ 32) (hs : x + y * 2 ^ i < 4294967296) : bits .or .u32 x (y * 2 ^ i) = x + y * 2 ^ i := by
 obtain ⟨a,rfl⟩ := Int.eq_ofNat_of_zero_le hx0
 obtain ⟨b,rfl⟩ := Int.eq_ofNat_of_zero_le hy0
 have e : ((b : Int) * 2 ^ i) = ((b * 2 ^ i : Nat) : Int) := by simp
 rw [e] at hs ⊢
 have ha : a < 2 ^ i := by
  have : ((2 ^ i : Nat) : Int) = 2 ^ i := by simp
  omega
 rw [or_u32 a _ (by omega) (by omega),or_disj _ _ _ ha]; simp
theorem xorI_u32 (x y : Int) (i : Nat) (hx0 : 0 ≤ x) (hx : x < 2 ^ i) (hy0 : 0 ≤ y) (hi : i ≤ 32) (hs : x + y * 2 ^ i < 4294967296) : bits .xor .u32 x (y * 2 ^ i) = x + y * 2 ^ i := by
 obtain ⟨a,rfl⟩ := Int.eq_ofNat_of_zero_le hx0
 obtain ⟨b,rfl⟩ := Int.eq_ofNat_of_zero_le hy0
 have e : ((b : Int) * 2 ^ i) = ((b * 2 ^ i : Nat) : Int) := by simp
 rw [e] at hs ⊢
 have ha : a < 2 ^ i := by
  have : ((2 ^ i : Nat) : Int) = 2 ^ i := by simp
  omega
 rw [xor_u32 a _ (by omega) (by omega),xor_disj _ _ _ ha]; simp
theorem orI_u16 (x y : Int) (hx0 : 0 ≤ x) (hx : x < 256) (hy0 : 0 ≤ y) (hy : y < 256) : bits .or .u16 x (y * 256) = x + y * 256 := by
 obtain ⟨a,rfl⟩ := Int.eq_ofNat_of_zero_le hx0
 obtain ⟨b,rfl⟩ := Int.eq_ofNat_of_zero_le hy0
 have e : ((b : Int) * 256) = ((b * 2 ^ 8 : Nat) : Int) := by simp
 rw [e,or_u16 a _ (by omega) (by omega),or_disj _ _ _ (by omega)]; simp
/-- A bit operation on u32 stays in u32. -/
theorem bits_u32_bd (op : BinOp) (x y : Int) : 0 ≤ bits op .u32 x y ∧ bits op .u32 x y < 4294967296 := by
 have : ∀ z,0 ≤ IntKind.u32.wrap z ∧ IntKind.u32.wrap z < 4294967296 := by intro z; rw [IntKind.wrap_u32]; omega
 exact this _
theorem xor0_u32 (x : Int) (h0 : 0 ≤ x) (h1 : x < 4294967296) : bits .xor .u32 x 0 = x := by
 obtain ⟨a,rfl⟩ := Int.eq_ofNat_of_zero_le h0
 rw [show (0 : Int) = ((0 : Nat) : Int) from rfl,xor_u32 a 0 (by omega) (by decide)]; simp
theorem xor0_u32' (x : Int) (h0 : 0 ≤ x) (h1 : x < 4294967296) : bits .xor .u32 0 x = x := by
 obtain ⟨a,rfl⟩ := Int.eq_ofNat_of_zero_le h0
 rw [show (0 : Int) = ((0 : Nat) : Int) from rfl,xor_u32 0 a (by decide) (by omega)]; simp
abbrev M32 : Int := 4294967296
def rotl (x : Int) (c : Nat) : Int := bits .or .u32 (x * 2 ^ c % 4294967296) (x / 2 ^ (32 - c))
structure S8 where
 a : Int
 b : Int
 c : Int
 d : Int
 e : Int
 f : Int
 g : Int
 h : Int
def wOld (W : List Int) (i : Nat) : Int :=
 (bits .xor .u32 (bits .xor .u32 (rotl (nth W (i-2)) 15) (rotl (nth W (i-2)) 13)) (nth W (i-2) / 1024) + nth W (i-7) + bits .xor .u32 (bits .xor .u32 (rotl (nth W (i-15)) 25) (rotl (nth W (i-15)) 14)) (nth W (i-15) / 8) + nth W (i-16)) % 4294967296
def wIn (p : List Int) (j : Nat) : Int :=
 bits .or .u32 (bits .or .u32 (bits .or .u32 (nth p j % 4294967296 * 16777216 % 4294967296) (nth p (j+1) % 4294967296 * 65536 % 4294967296)) (nth p (j+2) % 4294967296 * 256 % 4294967296)) (nth p (j+3) % 4294967296)
def wNew (c W : List Int) (i : Nat) : Int := if i < 16 then wIn c (i*4) else wOld W i
def wsq (c : List Int) : Nat → List Int
 | 0 => []
 | i+1 => wsq c i ++ [wNew c (wsq c i) i]
def t1 (r : S8) (k w : Int) : Int :=
 r.h + bits .xor .u32 (bits .xor .u32 (rotl r.e 26) (rotl r.e 21)) (rotl r.e 7) + bits .xor .u32 (bits .and .u32 r.e r.f) (bits .and .u32 (bits .xor .u32 IntKind.u32.max r.e) r.g) + k + w
def t2 (r : S8) : Int :=
 bits .xor .u32 (bits .xor .u32 (rotl r.a 30) (rotl r.a 19)) (rotl r.a 10) + bits .xor .u32 (bits .xor .u32 (bits .and .u32 r.a r.b) (bits .and .u32 r.a r.c)) (bits .and .u32 r.b r.c)
def rnd (r : S8) (k w : Int) : S8 := ⟨(t1 r k w + t2 r) % 4294967296,r.a,r.b,r.c,(r.d + t1 r k w) % 4294967296,r.e,r.f,r.g⟩
def rnds (K c : List Int) (s : S8) : Nat → S8
 | 0 => s
 | i+1 => rnd (rnds K c s i) (nth K i) (wNew c (wsq c i) i)
def plus8 (s r : S8) : S8 := ⟨(s.a + r.a) % 4294967296,(s.b + r.b) % 4294967296,(s.c + r.c) % 4294967296,(s.d + r.d) % 4294967296,(s.e + r.e) % 4294967296,(s.f + r.f) % 4294967296,(s.g + r.g) % 4294967296,(s.h + r.h) % 4294967296⟩
def blk (K c : List Int) (s : S8) : S8 := plus8 s (rnds K c s 64)
/-- k blocks from the front of p. -/
def absN (K p : List Int) (s : S8) : Nat → S8
 | 0 => s
 | k+1 => blk K (p.drop (64*k)) (absN K p s k)
theorem wsq_length (c : List Int) (i : Nat) : (wsq c i).length = i := by
 induction i with
 | zero => rfl
 | succ i ih => simp [wsq,ih]
theorem nth_drop (l : List Int) (n i : Nat) : nth (l.drop n) i = nth l (n + i) := by simp [nth]
theorem nth_take (l : List Int) (n i : Nat) (h : i < n) : nth (l.take n) i = nth l i := by simp [nth,List.getElem?_take,h]
theorem nth_of_take {l m : List Int} {n : Nat} (h : l.take n = m) {i : Nat} (hi : i < n) : nth l i = nth m i := by rw [← h,nth_take _ _ _ hi]
theorem nth_append_left (l m : List Int) (i : Nat) (h : i < l.length) : nth (l ++ m) i = nth l i := by simp [nth,List.getElem?_append,h]
theorem nth_append_right (l m : List Int) (i : Nat) : nth (l ++ m) (l.length + i) = nth m i := by
 simp only [nth,List.getD_eq_getElem?_getD]
 rw [List.getElem?_append_right (by omega),Nat.add_sub_cancel_left]
theorem take_set_succ (l : List Int) (i : Nat) (x : Int) (h : i < l.length) : (l.set i x).take (i+1) = l.take i ++ [x] := by
 rw [List.take_add_one]
 simp [h,List.take_set_of_le]
theorem wIn_congr {c c' : List Int} (h : ∀ i < 64,nth c i = nth c' i) {j : Nat} (hj : j + 3 < 64) : wIn c j = wIn c' j := by
 simp only [wIn,h j (by omega),h (j+1) (by omega),h (j+2) (by omega),h (j+3) (by omega)]
theorem wNew_congr {c c' : List Int} (h : ∀ i < 64,nth c i = nth c' i) (W : List Int) (i : Nat) : wNew c W i = wNew c' W i := by
 unfold wNew; split
 ·exact wIn_congr h (by omega)
 ·rfl
theorem wsq_congr {c c' : List Int} (h : ∀ i < 64,nth c i = nth c' i) (i : Nat) : wsq c i = wsq c' i := by
 induction i with
 | zero => rfl
 | succ i ih => simp only [wsq,ih,wNew_congr h]
theorem rnds_congr {c c' : List Int} (h : ∀ i < 64,nth c i = nth c' i) (K : List Int) (s : S8) (i : Nat) : rnds K c s i = rnds K c' s i := by
 induction i with
 | zero => rfl
 | succ i ih => simp only [rnds,ih,wNew_congr h,wsq_congr h]
theorem blk_congr {c c' : List Int} (h : ∀ i < 64,nth c i = nth c' i) (K : List Int) (s : S8) : blk K c s = blk K c' s := by
 simp only [blk,rnds_congr h]
theorem absN_congr {p p' : List Int} (K : List Int) (s : S8) (k : Nat) (h : ∀ i < 64 * k,nth p i = nth p' i) : absN K p s k = absN K p' s k := by
 induction k with
 | zero => rfl
 | succ k ih =>
  simp only [absN]
  rw [ih (fun i hi => h i (by omega))]
  exact blk_congr (fun i hi => by rw [nth_drop,nth_drop]; exact h _ (by omega)) _ _
theorem absN_append (K p q : List Int) (s : S8) (a b : Nat) (hp : p.length = 64 * a) : absN K (p ++ q) s (a + b) = absN K q (absN K p s a) b := by
 induction b with
 | zero => exact absN_congr K s a (fun i hi => nth_append_left _ _ _ (by omega))
 | succ b ih =>
  show absN K (p ++ q) s ((a + b) + 1) = _
  simp only [absN]
  rw [ih,List.drop_append]
  have : p.drop (64 * (a + b)) = [] := List.drop_eq_nil_of_le (by omega)
  rw [this,List.nil_append]
  have h2 : 64 * (a + b) - p.length = 64 * b := by omega
  rw [h2]
theorem rot_c (k : Int) (c : Nat) (hk : bits .and .u64 (IntKind.u64.wrap k) 31 = (c : Int)) (hc : c < 32) (x : Int) (w : World) :
  Calls Tryz.prog 312 #[.int .u32 x,.int .i64 k] w fun e w' => e = .returned (.int .u32 (rotl x c)) ∧ w = w' := by
 have hm : min ((c:Int)).toNat IntKind.u32.bits = c := by rw [show IntKind.u32.bits = 32 from rfl]; omega
 have hm2 : min ((32:Int)-c).toNat IntKind.u32.bits = 32 - c := by rw [show IntKind.u32.bits = 32 from rfl]; omega
 go_enter Tryz.func312,Tryz.ntmps312
 go_wp2_with fail
 go_ret
 exact ⟨rfl,rfl⟩
theorem rot_q (k : Int) (c : Nat) (hk : bits .and .u64 (IntKind.u64.wrap k) 31 = (c : Int)) (hc : c < 32) (x : Int) (w : World) (n : Nat) :
  Calls Tryz.prog 312 #[.int .u32 x,.int .i64 k] (w.drewN n) fun e w' => e = .returned (.int .u32 (rotl x c)) ∧ ∃ m,w' = w.drewN m :=
 (rot_c k c hk hc x _).mono fun _ _ ⟨h1,h2⟩ => ⟨h1,n,h2.symm⟩
theorem put32' (g o cap n : Nat) (T : TypeId) (xs : List Value) (x : Int) (w : World) (hB : Blk w g T xs) (ho : o + 4 ≤ xs.length) (hn : 4 ≤ n) :
  Calls Tryz.prog 314 #[.slice (some ⟨g,o,none⟩) n cap,.int .u32 x] w fun e w' => e = .returned (.tuple #[]) ∧ w' = ((((w.setCell ⟨g,o,none⟩ (.int .u8 (x / 16777216 % 256))).setCell ⟨g,o+1,none⟩ (.int .u8 (x / 65536 % 256))).setCell ⟨g,o+2,none⟩ (.int .u8 (x / 256 % 256))).setCell ⟨g,o+3,none⟩ (.int .u8 (x % 256))) := by
 have hlt := hB.lt
 have c0 : w.cell? ⟨g,o,none⟩ = some (xs[o]'(by omega)) := hB.cell _ (by omega)
 have f0 := hB.free (o)
 have c1 : w.cell? ⟨g,o+1,none⟩ = some (xs[o+1]'(by omega)) := hB.cell _ (by omega)
 have f1 := hB.free (o+1)
 have c2 : w.cell? ⟨g,o+2,none⟩ = some (xs[o+2]'(by omega)) := hB.cell _ (by omega)
 have f2 := hB.free (o+2)
 have c3 : w.cell? ⟨g,o+3,none⟩ = some (xs[o+3]'(by omega)) := hB.cell _ (by omega)
 have f3 := hB.free (o+3)
 go_enter Tryz.func314,Tryz.ntmps314
 go_wp2_with fail
 go_end0
 exact ⟨rfl,rfl⟩
theorem put32 (g o cap n : Nat) (T : TypeId) (xs : List Value) (x : Int) (w : World) (hB : Blk w g T xs) (ho : o + 4 ≤ xs.length) (hn : 4 ≤ n) :
  Calls Tryz.prog 311 #[.slice (some ⟨g,o,none⟩) n cap,.int .u32 x] w fun e w' => e = .returned (.tuple #[]) ∧ w' = ((((w.setCell ⟨g,o,none⟩ (.int .u8 (x / 16777216 % 256))).setCell ⟨g,o+1,none⟩ (.int .u8 (x / 65536 % 256))).setCell ⟨g,o+2,none⟩ (.int .u8 (x / 256 % 256))).setCell ⟨g,o+3,none⟩ (.int .u8 (x % 256))) := by
 go_enter Tryz.func311,Tryz.ntmps311
 go_wp2_with fail
 go_call (put32' g o cap n T xs x w hB ho hn) as e w' ⟨rfl,rfl⟩
 go_wp2_with fail
 go_end0
 exact ⟨rfl,rfl⟩
theorem put64' (g o cap n : Nat) (T : TypeId) (xs : List Value) (x : Int) (w : World) (hB : Blk w g T xs) (ho : o + 8 ≤ xs.length) (hn : 8 ≤ n) :
  Calls Tryz.prog 313 #[.slice (some ⟨g,o,none⟩) n cap,.int .u64 x] w fun e w' => e = .returned (.tuple #[]) ∧ w' = ((((((((w.setCell ⟨g,o,none⟩ (.int .u8 (x / 72057594037927936 % 256))).setCell ⟨g,o+1,none⟩ (.int .u8 (x / 281474976710656 % 256))).setCell ⟨g,o+2,none⟩ (.int .u8 (x / 1099511627776 % 256))).setCell ⟨g,o+3,none⟩ (.int .u8 (x / 4294967296 % 256))).setCell ⟨g,o+4,none⟩ (.int .u8 (x / 16777216 % 256))).setCell ⟨g,o+5,none⟩ (.int .u8 (x / 65536 % 256))).setCell ⟨g,o+6,none⟩ (.int .u8 (x / 256 % 256))).setCell ⟨g,o+7,none⟩ (.int .u8 (x % 256))) := by
 have hlt := hB.lt
 have c0 : w.cell? ⟨g,o,none⟩ = some (xs[o]'(by omega)) := hB.cell _ (by omega)
 have f0 := hB.free (o)
 have c1 : w.cell? ⟨g,o+1,none⟩ = some (xs[o+1]'(by omega)) := hB.cell _ (by omega)
 have f1 := hB.free (o+1)
 have c2 : w.cell? ⟨g,o+2,none⟩ = some (xs[o+2]'(by omega)) := hB.cell _ (by omega)
 have f2 := hB.free (o+2)
 have c3 : w.cell? ⟨g,o+3,none⟩ = some (xs[o+3]'(by omega)) := hB.cell _ (by omega)
 have f3 := hB.free (o+3)
 have c4 : w.cell? ⟨g,o+4,none⟩ = some (xs[o+4]'(by omega)) := hB.cell _ (by omega)
 have f4 := hB.free (o+4)
 have c5 : w.cell? ⟨g,o+5,none⟩ = some (xs[o+5]'(by omega)) := hB.cell _ (by omega)
 have f5 := hB.free (o+5)
 have c6 : w.cell? ⟨g,o+6,none⟩ = some (xs[o+6]'(by omega)) := hB.cell _ (by omega)
 have f6 := hB.free (o+6)
 have c7 : w.cell? ⟨g,o+7,none⟩ = some (xs[o+7]'(by omega)) := hB.cell _ (by omega)
 have f7 := hB.free (o+7)
 go_enter Tryz.func313,Tryz.ntmps313
 go_wp2_with fail
 go_end0
 exact ⟨rfl,rfl⟩
theorem put64 (g o cap n : Nat) (T : TypeId) (xs : List Value) (x : Int) (w : World) (hB : Blk w g T xs) (ho : o + 8 ≤ xs.length) (hn : 8 ≤ n) :
  Calls Tryz.prog 310 #[.slice (some ⟨g,o,none⟩) n cap,.int .u64 x] w fun e w' => e = .returned (.tuple #[]) ∧ w' = ((((((((w.setCell ⟨g,o,none⟩ (.int .u8 (x / 72057594037927936 % 256))).setCell ⟨g,o+1,none⟩ (.int .u8 (x / 281474976710656 % 256))).setCell ⟨g,o+2,none⟩ (.int .u8 (x / 1099511627776 % 256))).setCell ⟨g,o+3,none⟩ (.int .u8 (x / 4294967296 % 256))).setCell ⟨g,o+4,none⟩ (.int .u8 (x / 16777216 % 256))).setCell ⟨g,o+5,none⟩ (.int .u8 (x / 65536 % 256))).setCell ⟨g,o+6,none⟩ (.int .u8 (x / 256 % 256))).setCell ⟨g,o+7,none⟩ (.int .u8 (x % 256))) := by
 go_enter Tryz.func310,Tryz.ntmps310
 go_wp2_with fail
 go_call (put64' g o cap n T xs x w hB ho hn) as e w' ⟨rfl,rfl⟩
 go_wp2_with fail
 go_end0
 exact ⟨rfl,rfl⟩
def iv : S8 := ⟨1779033703,3144134277,1013904242,2773480762,1359893119,2600822924,528734635,1541459225⟩
/-- What a digest holds behind the message msg. -/
structure DSt (K msg : List Int) (s : S8) (x : List Int) : Prop where
 len : x.length = 64
 st : s = absN K msg iv (msg.length / 64)
 buf : x.take (msg.length % 64) = msg.drop (64 * (msg.length / 64))
theorem DSt.zero (K x : List Int) (hx : x.length = 64) : DSt K [] iv x := ⟨hx,rfl,by simp⟩
theorem DSt.fill {K msg : List Int} {s : S8} {x q : List Int} (h : DSt K msg s x) (hq : msg.length % 64 + q.length < 64) :
  DSt K (msg ++ q) s (splice x (msg.length % 64) q) := by
 have e1 : (msg ++ q).length / 64 = msg.length / 64 := by simp; omega
 have e2 : (msg ++ q).length % 64 = msg.length % 64 + q.length := by simp; omega
 have hl := h.len
 refine ⟨by rw [length_splice]; exact hl; omega, ?_, ?_⟩
 ·rw [e1,h.st]; exact absN_congr _ _ _ (fun i hi => (nth_append_left _ _ _ (by omega)).symm)
 ·rw [e1,e2,splice,← List.append_assoc,List.take_append_of_le_length (by simp; omega),List.drop_append_of_le_length (by omega),← h.buf]
  rw [List.take_of_length_le (by simp; omega)]
theorem DSt.full {K msg : List Int} {s : S8} {x q : List Int} (h : DSt K msg s x) (hq : msg.length % 64 + q.length = 64) :
  DSt K (msg ++ q) (absN K (splice x (msg.length % 64) q) s 1) (splice x (msg.length % 64) q) ∧ (msg ++ q).length % 64 = 0 := by
 have e1 : (msg ++ q).length / 64 = msg.length / 64 + 1 := by simp; omega
 have e2 : (msg ++ q).length % 64 = 0 := by simp; omega
 have hl := h.len
 have e3 : splice x (msg.length % 64) q = msg.drop (64 * (msg.length / 64)) ++ q := by
  have e5 : x.drop (msg.length % 64 + q.length) = [] := List.drop_eq_nil_of_le (by omega)
  rw [splice,h.buf,e5]; simp
 refine ⟨⟨by rw [length_splice]; exact hl; omega, ?_, ?_⟩,e2⟩
 ·rw [e1,e3]
  have e4 := absN_append K (msg.take (64 * (msg.length / 64))) (msg.drop (64 * (msg.length / 64)) ++ q) iv (msg.length / 64) 1 (by simp; omega)
  rw [← List.append_assoc,List.take_append_drop] at e4
  rw [e4,h.st]
  congr 1
  exact absN_congr _ _ _ (fun i hi => (nth_take _ _ _ hi).symm)
 ·rw [e2,e1,List.drop_eq_nil_of_le (by simp; omega)]; simp
theorem DSt.blocks {K msg : List Int} {s : S8} {x q : List Int} {m : Nat} (h : DSt K msg s x) (h0 : msg.length % 64 = 0) (hq : q.length = 64 * m) :
  DSt K (msg ++ q) (absN K q s m) x ∧ (msg ++ q).length % 64 = 0 := by
 have e1 : (msg ++ q).length / 64 = msg.length / 64 + m := by simp; omega
 have e2 : (msg ++ q).length % 64 = 0 := by simp; omega
 refine ⟨⟨h.len, ?_, ?_⟩,e2⟩
 ·rw [e1,h.st]; exact (absN_append K msg q iv (msg.length / 64) m (by omega)).symm
 ·rw [e2,e1,List.drop_eq_nil_of_le (by simp; omega)]; simp
def be4 (x : Int) : List Int := [x / 16777216 % 256,x / 65536 % 256,x / 256 % 256,x % 256]
def be8 (x : Int) : List Int := [x / 72057594037927936 % 256,x / 281474976710656 % 256,x / 1099511627776 % 256,x / 4294967296 % 256,x / 16777216 % 256,x / 65536 % 256,x / 256 % 256,x % 256]
def padN (n : Nat) : Nat := if n % 64 < 56 then 56 - n % 64 else 120 - n % 64
def pad (n : Nat) : List Int := 128 :: (List.replicate (padN n - 1) 0 ++ be8 ((n : Int) * 8 % 18446744073709551616))
def out8 (s : S8) : List Int := be4 s.a ++ be4 s.b ++ be4 s.c ++ be4 s.d ++ be4 s.e ++ be4 s.f ++ be4 s.g ++ be4 s.h
/-- SHA-256 over the table K. -/
def sha (K msg : List Int) : List Int := out8 (absN K (msg ++ pad msg.length) iv ((msg ++ pad msg.length).length / 64))
theorem padN_pos (n : Nat) : 1 ≤ padN n ∧ padN n ≤ 64 := by unfold padN; split <;> omega
theorem pad_length (n : Nat) : (pad n).length = padN n + 8 := by
 have := padN_pos n
 simp [pad,be8]; omega
theorem pad_whole (msg : List Int) : (msg ++ pad msg.length).length % 64 = 0 := by
 rw [List.length_append,pad_length]; unfold padN; split <;> omega
theorem out8_length (s : S8) : (out8 s).length = 32 := by simp [out8,be4]
theorem sha_length (K msg : List Int) : (sha K msg).length = 32 := out8_length _
theorem be4_u8 (x : Int) : U8 (be4 x) := by
 intro y hy
 simp only [be4,List.mem_cons,List.not_mem_nil,or_false] at hy
 rcases hy with rfl | rfl | rfl | rfl <;> omega
theorem U8.append {l m : List Int} (h : U8 l) (k : U8 m) : U8 (l ++ m) := by
 intro y hy; rcases List.mem_append.mp hy with hy | hy
 ·exact h y hy
 ·exact k y hy
theorem sha_u8 (K msg : List Int) : U8 (sha K msg) :=
 (((((((be4_u8 _).append (be4_u8 _)).append (be4_u8 _)).append (be4_u8 _)).append (be4_u8 _)).append (be4_u8 _)).append (be4_u8 _)).append (be4_u8 _)
def wputs (w : World) (g : Nat) : Nat → List Int → World
 | _,[] => w
 | o,y :: ys => wputs (w.setCell ⟨g,o,none⟩ (.int .u8 y)) g (o+1) ys
theorem splice_nil {α : Type} (l : List α) (o : Nat) : splice l o [] = l := by simp [splice]
theorem splice_cons {α : Type} (l : List α) (o : Nat) (a : α) (ys : List α) (h : o < l.length) : splice (l.set o a) (o+1) ys = splice l o (a :: ys) := by
 simp only [splice]
 rw [List.take_add_one,List.take_set_of_le (by omega),List.drop_set_of_lt (by omega)]
 have : o + 1 + ys.length = o + (ys.length + 1) := by omega
 simp [h,this]
theorem wputs_blk {g : Nat} {T : TypeId} : ∀ (ys : List Int) (w : World) (o : Nat) (l : List Int),Blk w g T (ic .u8 l) → o + ys.length ≤ l.length → Blk (wputs w g o ys) g T (ic .u8 (splice l o ys)) := by
 intro ys
 induction ys with
 | nil => intro w o l h _; rw [splice_nil]; exact h
 | cons y ys ih =>
  intro w o l h hl
  rw [← splice_cons _ _ _ _ (by simp at hl; omega)]
  exact ih _ _ _ (h.seti o y) (by simp at hl ⊢; omega)
theorem wputs_fr {S : List Nat} {g : Nat} (hg : g ∈ S) {a : World} : ∀ (ys : List Int) (w : World) (o : Nat),Fr S a w → Fr S a (wputs w g o ys) := by
 intro ys
 induction ys with
 | nil => intro w o h; exact h
 | cons y ys ih => intro w o h; exact ih _ _ (h.setCell _ _ hg)
theorem put32f (g o cap n : Nat) (T : TypeId) (l : List Int) (x : Int) (w : World) (hB : Blk w g T (ic .u8 l)) (ho : o + 4 ≤ l.length) (hn : 4 ≤ n) :
  Calls Tryz.prog 311 #[.slice (some ⟨g,o,none⟩) n cap,.int .u32 x] w fun e w' => e = .returned (.tuple #[]) ∧ Fr [g] w w' ∧ Blk w' g T (ic .u8 (splice l o (be4 x))) := by
 refine (put32 g o cap n T _ x w hB (by simpa using ho) hn).mono ?_
 rintro e w' ⟨rfl,rfl⟩
 exact ⟨rfl,wputs_fr (by simp) (be4 x) w o (Fr.refl _ _),wputs_blk (be4 x) w o l hB ho⟩
theorem put64f (g o cap n : Nat) (T : TypeId) (l : List Int) (x : Int) (w : World) (hB : Blk w g T (ic .u8 l)) (ho : o + 8 ≤ l.length) (hn : 8 ≤ n) :
  Calls Tryz.prog 310 #[.slice (some ⟨g,o,none⟩) n cap,.int .u64 x] w fun e w' => e = .returned (.tuple #[]) ∧ Fr [g] w w' ∧ Blk w' g T (ic .u8 (splice l o (be8 x))) := by
 refine (put64 g o cap n T _ x w hB (by simpa using ho) hn).mono ?_
 rintro e w' ⟨rfl,rfl⟩
 exact ⟨rfl,wputs_fr (by simp) (be8 x) w o (Fr.refl _ _),wputs_blk (be8 x) w o l hB ho⟩
theorem pad_splice (n t : Nat) (y : Int) (ht : 1 ≤ t ∧ t ≤ 64) : (splice (128 :: List.replicate 71 0) t (be8 y)).take (t + 8) = 128 :: (List.replicate (t - 1) 0 ++ be8 y) := by
 obtain ⟨j,rfl⟩ : ∃ j,t = j + 1 := ⟨t - 1,by omega⟩
 simp only [splice]
 rw [← List.append_assoc,List.take_left' (by simp [be8]; omega)]
 rw [List.take_succ_cons,List.take_replicate,show min j 71 = j by omega,Nat.add_sub_cancel,List.cons_append]
theorem out8_splice (s : S8) : splice (splice (splice (splice (splice (splice (splice (splice (List.replicate 32 0) 0 (be4 s.a)) 4 (be4 s.b)) 8 (be4 s.c)) 12 (be4 s.d)) 16 (be4 s.e)) 20 (be4 s.f)) 24 (be4 s.g)) 28 (be4 s.h) = out8 s := rfl
theorem fr_setRow {S : List Nat} {w0 w : World} {g : Nat} (h : Fr S w0 w) (hg : g ∈ S) (cs : Array Value) : Fr S w0 (w.setRow g cs) :=
 h.trans ⟨rfl,rfl,rfl,by simp [World.setRow],fun k _ hn => setRow_other w g k cs (fun e => hn (e ▸ hg))⟩
theorem wpList_copy_blk {P : Program} {w : World} {ops : Array Oper} {rest : List Oper} {o : Oper} {a : Act} {Q : Exit → Act → World → Prop} (hgd : o.guard = none) (d s : Operand) (dT sT : TypeId)
  (ho : o.op = .call { callee := .builtin .copy,args := #[d,s],argTypes := #[dT,sT] }) (elem : TypeId) (hu : P.underlying dT = some (.slice elem)) (hsz : (P.info? elem).map (·.size) = some 1)
  (dp sp : Option Addr) (dLen dCap sLen sCap : Nat) (hd : a.eval d = .slice dp dLen dCap) (hs : a.eval s = .slice sp sLen sCap)
  (g off : Nat) (cur : List Value) (t : TypeId) (hg : Blk w g t cur) (cs : List Value) (hn : cs.length = Nat.min sLen dLen)
  (hpos : 0 < cs.length → dp = some ⟨g,off,none⟩ ∧ ∃ ad,sp = some ad ∧ ∀ j v,cs[j]? = some v → w.cell? (ad.add j) = some v)
  (hfit : off + cs.length ≤ cur.length) (h1 : ∀ v ∈ cs,v.oneCell' = true) (S : List Nat) (w0 : World) (hb : Fr S w0 w) (hBg : g ∈ S)
  (h : ∀ w',Hid (Blk w' g t (splice cur off cs)) → Hid (Fr S w0 w') → wpList P ops Q rest (a.put o.dst (goInt cs.length)) w') :
  wpList P ops Q (o :: rest) a w := by
 by_cases h0 : cs.length = 0
 ·obtain rfl : cs = [] := List.eq_nil_of_length_eq_zero h0
  refine wpList_copy_nothing hgd d s dT sT ho elem hu hsz dp sp dLen dCap sLen sCap hd hs (by simpa using hn.symm) ?_
  refine h w ?_ hb
  have e : splice cur off [] = cur := by simp [splice]
  rw [e]; exact hg
 ·obtain ⟨rfl,ad,rfl,hsrc⟩ := hpos (by omega)
  refine wpList_copy_own hgd d s dT sT ho elem hu hsz g off dLen dCap ad sLen sCap hd hs cur.toArray t hg cs hn hsrc (by simpa using hfit) h1 ?_
  refine h _ ?_ (fr_setRow hb hBg _)
  show _ = _
  have hg' : w.heap[g]? = some (.cells cur.toArray t (0,0)) := hg
  simpa [splice] using setRow_heap w g _ _ t _ hg'
/-- The cells of a digest: state, buffer, fill, length, and a bool. -/
def dig (s : S8) (x : List Int) (nx len : Int) : List Value :=
 [.int .u32 s.a,.int .u32 s.b,.int .u32 s.c,.int .u32 s.d,.int .u32 s.e,.int .u32 s.f,.int .u32 s.g,.int .u32 s.h] ++ ic .u8 x ++ [.int .i64 nx,.int .u64 len,.bool false]
def put8 (w : World) (g : Nat) (s : S8) : World :=
 (((((((w.setCell ⟨g,0,none⟩ (.int .u32 s.a)).setCell ⟨g,1,none⟩ (.int .u32 s.b)).setCell ⟨g,2,none⟩ (.int .u32 s.c)).setCell ⟨g,3,none⟩ (.int .u32 s.d)).setCell ⟨g,4,none⟩ (.int .u32 s.e)).setCell ⟨g,5,none⟩ (.int .u32 s.f)).setCell ⟨g,6,none⟩ (.int .u32 s.g)).setCell ⟨g,7,none⟩ (.int .u32 s.h)
theorem put8_dig {w : World} {g : Nat} {s s' : S8} {x : List Int} {nx len : Int} (h : Blk w g 328 (dig s' x nx len)) : Blk (put8 w g s) g 328 (dig s x nx len) := by
 have := (((((((h.set 0 (.int .u32 s.a)).set 1 (.int .u32 s.b)).set 2 (.int .u32 s.c)).set 3 (.int .u32 s.d)).set 4 (.int .u32 s.e)).set 5 (.int .u32 s.f)).set 6 (.int .u32 s.g)).set 7 (.int .u32 s.h)
 unfold put8
 simpa [dig] using this
theorem put8_fr {a w : World} {g : Nat} (s : S8) (h : Fr [g] a w) : Fr [g] a (put8 w g s) := by
 unfold put8
 exact (((((((h.setCell _ _ (by simp)).setCell _ _ (by simp)).setCell _ _ (by simp)).setCell _ _ (by simp)).setCell _ _ (by simp)).setCell _ _ (by simp)).setCell _ _ (by simp)).setCell _ _ (by simp)
def BlkPost (K p : List Int) (m g : Nat) (s : S8) (x : List Int) (nx len : Int) (w : World) (e : Ending) (w' : World) : Prop :=
 e = .returned (.tuple #[]) ∧ Fr [g] w w' ∧ Blk w' g 328 (dig (absN K p s m) x nx len)
theorem blk_post {K p : List Int} {m g : Nat} {s : S8} {x : List Int} {nx len : Int} {w wr : World} (hD : Blk w g 328 (dig s x nx len)) (hb : Below w.heap.size w wr) :
  BlkPost K p m g s x nx len w (.returned (.tuple #[])) (put8 wr g (absN K p s m)).drew := by
 refine ⟨rfl, ?_, ?_⟩
 ·exact (put8_fr _ (Fr.of_below hb rfl _)).drew
 ·exact (put8_dig (hD.below hb hD.lt)).drew
/-- Elements of type e have one cell, which is z at first, and so many bytes. -/
structure Made (P : Program) (e : TypeId) (z : Value) (bytes : Nat) : Prop where
 size : (P.info? e).map (·.size) = some 1
 zero : (P.info? e).bind (·.zero) = some z
 bytes : (P.info? e).map (·.bytes) = some bytes
 one : z.cells = #[z]
theorem madeCells_one (z : Value) (n : Nat) : madeCells #[z] n = (List.replicate n z).toArray := by
 apply Array.ext
 ·simp [madeCells]
 ·intro i h1 h2
  simp [madeCells]
  have : i % 1 = 0 := Nat.mod_one i
  simp [this]
theorem run_made {P : Program} {w : World} {t e : TypeId} {z : Value} {bytes : Nat} (hm : Made P e z bytes) (hu : P.underlying t = some (.slice e)) (kl kc : IntKind) (l c : Nat) (hl : l ≤ c) (hb : bytes * c ≤ 281474976710656) (h63 : c ≤ maxLen) :
  (Instr.makeSlice t (.int kl (l : Int)) (.int kc (c : Int))).run P w = .ok (.slice (some ⟨w.heap.size,0,none⟩) l c) (w.alloc (.cells (List.replicate c z).toArray e)) := by
 obtain ⟨h1,h2,h3,h4⟩ := hm
 cases hi : P.info? e with
 | none => rw [hi] at h1; cases h1
 | some i =>
  rw [hi] at h1 h2 h3
  simp at h1 h2 h3
  have h63' : (c : Int) ≤ 9223372036854775807 := by
   have h := h63
   simp [maxLen] at h
   omega
  have hb' : (i.bytes : Int) * (c : Int) ≤ 281474976710656 := by
   rw [h3]
   have h : ((bytes * c : Nat) : Int) ≤ 281474976710656 := by omega
   rwa [Int.natCast_mul] at h
  have hr := run_make (P := P) w t e i z hu hi h2 kl kc l c (by omega) (by omega) hb' h63'
  rw [h4,h1,Nat.mul_one,Int.toNat_natCast,Int.toNat_natCast,madeCells_one] at hr
  exact hr
theorem wpList_make {P : Program} {ops : Array Oper} {rest : List Oper} {op : Oper} {a : Act} {w : World} {Q : Exit → Act → World → Prop} (hgd : op.guard = none) (t : TypeId) (x y : Operand) (ho : op.op = .makeSlice t x y)
  (e : TypeId) (z : Value) (bytes : Nat) (hm : Made P e z bytes) (hu : P.underlying t = some (.slice e)) (kl kc : IntKind) (l c : Nat) (hx : a.eval x = .int kl (l : Int)) (hy : a.eval y = .int kc (c : Int)) (hl : l ≤ c) (hb : bytes * c ≤ 281474976710656) (h63 : c ≤ maxLen)
  (h : wpList P ops Q rest (a.put op.dst (.slice (some ⟨w.heap.size,0,none⟩) l c)) (w.alloc (.cells (List.replicate c z).toArray e))) : wpList P ops Q (op :: rest) a w := by
 refine wpList_run hgd ?_ h
 unfold execOp
 simp only [ho,hx,hy,Sem.run_bind,run_made hm hu kl kc l c hl hb h63]
 rfl
theorem made5 : Made Tryz.prog 5 (.int .u8 0) 1 := ⟨by kernel_rfl,by kernel_rfl,by kernel_rfl,rfl⟩
theorem made111 : Made Tryz.prog 111 (.pointer none) 8 := ⟨by kernel_rfl,by kernel_rfl,by kernel_rfl,rfl⟩
theorem made109 : Made Tryz.prog 109 (.pointer none) 8 := ⟨by kernel_rfl,by kernel_rfl,by kernel_rfl,rfl⟩
end Go.Proofs.YtdllckiidegpcaaGreat
