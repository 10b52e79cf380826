/- A part of the walk of laws.FnPartial (part 24): contracts of functions that it comes to, and the plain laws that these lean on. Conditions stand in each contract. -/
import Derived.Test.YtdllckiidegpcaaGreatA08
import Derived.Test.YtdllckiidegpcaaGreatA18
import Derived.Test.YtdllckiidegpcaaGreatA21
set_option linter.unusedSimpArgs false
set_option linter.unusedVariables false
set_option maxHeartbeats 4000000
namespace Go.Proofs.YtdllckiidegpcaaGreat
open Go.RowKit
/-- The k lowest bytes of v, the lowest first. -/
def le : Nat → Int → List Int
 | 0,_ => []
 | k + 1,v => v % 256 :: le k (v / 256)
theorem le_length (k : Nat) (v : Int) : (le k v).length = k := by
 induction k generalizing v with
 | zero => rfl
 | succ k ih => simp [le,ih]
theorem le_u8 (k : Nat) (v : Int) : U8 (le k v) := by
 induction k generalizing v with
 | zero => intro x hx; cases hx
 | succ k ih =>
  intro x hx
  simp only [le,List.mem_cons] at hx
  rcases hx with rfl | h
  ·omega
  ·exact ih _ x h
theorem le2 (v : Int) : le 2 v = [v % 256,v / 256 % 256] := rfl
theorem le4 (v : Int) : le 4 v = [v % 256,v / 256 % 256,v / 65536 % 256,v / 16777216 % 256] := by
 simp only [le]
 rw [show v / 256 / 256 = v / 65536 by omega,show v / 65536 / 256 = v / 16777216 by omega]
theorem le8 (v : Int) : le 8 v = [v % 256,v / 256 % 256,v / 65536 % 256,v / 16777216 % 256,v / 4294967296 % 256,v / 1099511627776 % 256,v / 281474976710656 % 256,v / 72057594037927936 % 256] := by
 simp only [le]
 rw [show v / 256 / 256 = v / 65536 by omega,show v / 65536 / 256 = v / 16777216 by omega,show v / 16777216 / 256 = v / 4294967296 by omega,show v / 4294967296 / 256 = v / 1099511627776 by omega,
  show v / 1099511627776 / 256 = v / 281474976710656 by omega,show v / 281474976710656 / 256 = v / 72057594037927936 by omega]
theorem splice2 (x : List Int) (o : Nat) (a b : Int) (h : o + 2 ≤ x.length) : splice x o [a,b] = ((x.set o a).set (o+1) b) := by
 rw [← splice_cons x o a [b] (by omega),← splice_cons (x.set o a) (o+1) b [] (by simp; omega),splice_nil]
theorem splice4 (x : List Int) (o : Nat) (a b c d : Int) (h : o + 4 ≤ x.length) : splice x o [a,b,c,d] = ((((x.set o a).set (o+1) b).set (o+2) c).set (o+3) d) := by
 rw [← splice_cons x o a [b,c,d] (by omega),← splice_cons (x.set o a) (o+1) b [c,d] (by simp; omega),← splice_cons ((x.set o a).set (o+1) b) (o+2) c [d] (by simp; omega),← splice_cons (((x.set o a).set (o+1) b).set (o+2) c) (o+3) d [] (by simp; omega),splice_nil]
theorem splice8 (x : List Int) (o : Nat) (a b c d e f g k : Int) (h : o + 8 ≤ x.length) : splice x o [a,b,c,d,e,f,g,k] = ((((((((x.set o a).set (o+1) b).set (o+2) c).set (o+3) d).set (o+4) e).set (o+5) f).set (o+6) g).set (o+7) k) := by
 rw [← splice_cons x o a [b,c,d,e,f,g,k] (by omega),← splice_cons (x.set o a) (o+1) b [c,d,e,f,g,k] (by simp; omega),← splice_cons ((x.set o a).set (o+1) b) (o+2) c [d,e,f,g,k] (by simp; omega),← splice_cons (((x.set o a).set (o+1) b).set (o+2) c) (o+3) d [e,f,g,k] (by simp; omega),← splice_cons ((((x.set o a).set (o+1) b).set (o+2) c).set (o+3) d) (o+4) e [f,g,k] (by simp; omega),← splice_cons (((((x.set o a).set (o+1) b).set (o+2) c).set (o+3) d).set (o+4) e) (o+5) f [g,k] (by simp; omega),← splice_cons ((((((x.set o a).set (o+1) b).set (o+2) c).set (o+3) d).set (o+4) e).set (o+5) f) (o+6) g [k] (by simp; omega),← splice_cons (((((((x.set o a).set (o+1) b).set (o+2) c).set (o+3) d).set (o+4) e).set (o+5) f).set (o+6) g) (o+7) k [] (by simp; omega),splice_nil]
theorem pl32_c (w : World) (g o n cap : Nat) (T : TypeId) (x : List Int) (v : Int) (hB : Blk w g T (ic .u8 x)) (ho : o + 4 ≤ x.length) (hn : 4 ≤ n) :
  Calls Tryz.prog 143 #[.agg #[],.slice (some ⟨g,o,none⟩) n cap,.int .u32 v] w fun e w' => e = .returned (.tuple #[]) ∧ Fr [g] w w' ∧ Blk w' g T (ic .u8 (splice x o (le 4 v))) := by
 have hlt := hB.lt
 have c0 : w.cell? ⟨g,o,none⟩ = some (.int .u8 (nth x o)) := hB.int _ (by omega)
 have f0 := hB.free o
 have c1 : w.cell? ⟨g,o+1,none⟩ = some (.int .u8 (nth x (o+1))) := hB.int _ (by omega)
 have f1 := hB.free (o+1)
 have c2 : w.cell? ⟨g,o+2,none⟩ = some (.int .u8 (nth x (o+2))) := hB.int _ (by omega)
 have f2 := hB.free (o+2)
 have c3 : w.cell? ⟨g,o+3,none⟩ = some (.int .u8 (nth x (o+3))) := hB.int _ (by omega)
 have f3 := hB.free (o+3)
 have HB := hid hB; clear hB
 have Ho := hid ho; clear ho
 have n3 : (3 : Int) < n := by omega
 have n2 : (2 : Int) < n := by omega
 have n1 : (1 : Int) < n := by omega
 have n0 : (0 : Int) < n := by omega
 clear hn
 go_enter Tryz.func143,Tryz.ntmps143
 go_wp2_with fail
 go_end0
 refine ⟨rfl, ?_, ?_⟩
 ·exact (((((Fr.refl [g] w).setCell ⟨g,o,none⟩ (.int .u8 (v % 256)) (List.mem_singleton.mpr rfl)).setCell ⟨g,o+1,none⟩ (.int .u8 (v / 256 % 256)) (List.mem_singleton.mpr rfl)).setCell ⟨g,o+2,none⟩ (.int .u8 (v / 65536 % 256)) (List.mem_singleton.mpr rfl)).setCell ⟨g,o+3,none⟩ (.int .u8 (v / 16777216 % 256)) (List.mem_singleton.mpr rfl)).alloc _
 ·have h0 := (((HB.out.seti o (v % 256)).seti (o+1) (v / 256 % 256)).seti (o+2) (v / 65536 % 256)).seti (o+3) (v / 16777216 % 256)
  have hl := Ho.out
  have e : splice x o (le 4 v) = (((x.set o (v % 256)).set (o+1) (v / 256 % 256)).set (o+2) (v / 65536 % 256)).set (o+3) (v / 16777216 % 256) := by
   rw [le4,splice4 _ _ _ _ _ _ hl]
  rw [e]; exact h0.alloc _
theorem pl16_c (w : World) (g o n cap : Nat) (T : TypeId) (x : List Int) (v : Int) (hB : Blk w g T (ic .u8 x)) (ho : o + 2 ≤ x.length) (hn : 2 ≤ n) :
  Calls Tryz.prog 193 #[.agg #[],.slice (some ⟨g,o,none⟩) n cap,.int .u16 v] w fun e w' => e = .returned (.tuple #[]) ∧ Fr [g] w w' ∧ Blk w' g T (ic .u8 (splice x o (le 2 v))) := by
 have hlt := hB.lt
 have c0 : w.cell? ⟨g,o,none⟩ = some (.int .u8 (nth x o)) := hB.int _ (by omega)
 have f0 := hB.free o
 have c1 : w.cell? ⟨g,o+1,none⟩ = some (.int .u8 (nth x (o+1))) := hB.int _ (by omega)
 have f1 := hB.free (o+1)
 have HB := hid hB; clear hB
 have Ho := hid ho; clear ho
 have n1 : (1 : Int) < n := by omega
 have n0 : (0 : Int) < n := by omega
 clear hn
 go_enter Tryz.func193,Tryz.ntmps193
 go_wp2_with fail
 go_end0
 refine ⟨rfl, ?_, ?_⟩
 ·exact (((Fr.refl [g] w).setCell ⟨g,o,none⟩ (.int .u8 (v % 256)) (List.mem_singleton.mpr rfl)).setCell ⟨g,o+1,none⟩ (.int .u8 (v / 256 % 256)) (List.mem_singleton.mpr rfl)).alloc _
 ·have h0 := (HB.out.seti o (v % 256)).seti (o+1) (v / 256 % 256)
  have hl := Ho.out
  have e : splice x o (le 2 v) = (x.set o (v % 256)).set (o+1) (v / 256 % 256) := by
   rw [le2,splice2 _ _ _ _ hl]
  rw [e]; exact h0.alloc _
theorem pl64_c (w : World) (g o n cap : Nat) (T : TypeId) (x : List Int) (v : Int) (hB : Blk w g T (ic .u8 x)) (ho : o + 8 ≤ x.length) (hn : 8 ≤ n) :
  Calls Tryz.prog 194 #[.agg #[],.slice (some ⟨g,o,none⟩) n cap,.int .u64 v] w fun e w' => e = .returned (.tuple #[]) ∧ Fr [g] w w' ∧ Blk w' g T (ic .u8 (splice x o (le 8 v))) := by
 have hlt := hB.lt
 have c0 : w.cell? ⟨g,o,none⟩ = some (.int .u8 (nth x o)) := hB.int _ (by omega)
 have f0 := hB.free o
 have c1 : w.cell? ⟨g,o+1,none⟩ = some (.int .u8 (nth x (o+1))) := hB.int _ (by omega)
 have f1 := hB.free (o+1)
 have c2 : w.cell? ⟨g,o+2,none⟩ = some (.int .u8 (nth x (o+2))) := hB.int _ (by omega)
 have f2 := hB.free (o+2)
 have c3 : w.cell? ⟨g,o+3,none⟩ = some (.int .u8 (nth x (o+3))) := hB.int _ (by omega)
 have f3 := hB.free (o+3)
 have c4 : w.cell? ⟨g,o+4,none⟩ = some (.int .u8 (nth x (o+4))) := hB.int _ (by omega)
 have f4 := hB.free (o+4)
 have c5 : w.cell? ⟨g,o+5,none⟩ = some (.int .u8 (nth x (o+5))) := hB.int _ (by omega)
 have f5 := hB.free (o+5)
 have c6 : w.cell? ⟨g,o+6,none⟩ = some (.int .u8 (nth x (o+6))) := hB.int _ (by omega)
 have f6 := hB.free (o+6)
 have c7 : w.cell? ⟨g,o+7,none⟩ = some (.int .u8 (nth x (o+7))) := hB.int _ (by omega)
 have f7 := hB.free (o+7)
 have HB := hid hB; clear hB
 have Ho := hid ho; clear ho
 have n7 : (7 : Int) < n := by omega
 have n6 : (6 : Int) < n := by omega
 have n5 : (5 : Int) < n := by omega
 have n4 : (4 : Int) < n := by omega
 have n3 : (3 : Int) < n := by omega
 have n2 : (2 : Int) < n := by omega
 have n1 : (1 : Int) < n := by omega
 have n0 : (0 : Int) < n := by omega
 clear hn
 go_enter Tryz.func194,Tryz.ntmps194
 go_wp2_with fail
 go_end0
 refine ⟨rfl, ?_, ?_⟩
 ·exact (((((((((Fr.refl [g] w).setCell ⟨g,o,none⟩ (.int .u8 (v % 256)) (List.mem_singleton.mpr rfl)).setCell ⟨g,o+1,none⟩ (.int .u8 (v / 256 % 256)) (List.mem_singleton.mpr rfl)).setCell ⟨g,o+2,none⟩ (.int .u8 (v / 65536 % 256)) (List.mem_singleton.mpr rfl)).setCell ⟨g,o+3,none⟩ (.int .u8 (v / 16777216 % 256)) (List.mem_singleton.mpr rfl)).setCell ⟨g,o+4,none⟩ (.int .u8 (v / 4294967296 % 256)) (List.mem_singleton.mpr rfl)).setCell ⟨g,o+5,none⟩ (.int .u8 (v / 1099511627776 % 256)) (List.mem_singleton.mpr rfl)).setCell ⟨g,o+6,none⟩ (.int .u8 (v / 281474976710656 % 256)) (List.mem_singleton.mpr rfl)).setCell ⟨g,o+7,none⟩ (.int .u8 (v / 72057594037927936 % 256)) (List.mem_singleton.mpr rfl)).alloc _
 ·have h0 := (((((((HB.out.seti o (v % 256)).seti (o+1) (v / 256 % 256)).seti (o+2) (v / 65536 % 256)).seti (o+3) (v / 16777216 % 256)).seti (o+4) (v / 4294967296 % 256)).seti (o+5) (v / 1099511627776 % 256)).seti (o+6) (v / 281474976710656 % 256)).seti (o+7) (v / 72057594037927936 % 256)
  have hl := Ho.out
  have e : splice x o (le 8 v) = (((((((x.set o (v % 256)).set (o+1) (v / 256 % 256)).set (o+2) (v / 65536 % 256)).set (o+3) (v / 16777216 % 256)).set (o+4) (v / 4294967296 % 256)).set (o+5) (v / 1099511627776 % 256)).set (o+6) (v / 281474976710656 % 256)).set (o+7) (v / 72057594037927936 % 256) := by
   rw [le8,splice8 _ _ _ _ _ _ _ _ _ _ hl]
  rw [e]; exact h0.alloc _
section
structure WSt (K : List Int) (w : World) (g bf : Nat) (msg : List Int) : Prop where
 k : Blk w 1 379 (ic .u32 K)
 kl : K.length = 64
 g1 : g ≠ 1
 dig : DigAt K w g msg
 buf : ∃ x,x.length = 8 ∧ Blk w bf 5 (ic .u8 x)
theorem DigAt.fr {K : List Int} {w w' : World} {g : Nat} {msg : List Int} {S : List Nat} (h : DigAt K w g msg) (hf : Fr S w w') (hg : g ∉ S) : DigAt K w' g msg := by
 obtain ⟨s,x,h1,h2⟩ := h; exact ⟨s,x,h1,h2.fr hf hg⟩
theorem Blk.ne {w : World} {g g' : Nat} {T T' : TypeId} {xs ys : List Value} (h : Blk w g T xs) (h' : Blk w g' T' ys) (hT : T ≠ T') : g ≠ g' := by
 rintro rfl
 have e1 : w.heap[g]? = _ := h
 have e2 : w.heap[g]? = _ := h'
 rw [e1] at e2
 simp at e2
 exact hT e2.2
section
variable {K : List Int} {w w' : World} {g bf : Nat} {msg : List Int}
theorem WSt.ne (h : WSt K w g bf msg) : bf ≠ g := by
 obtain ⟨s,x,_,h2⟩ := h.dig
 obtain ⟨y,_,hy⟩ := h.buf
 exact hy.ne h2 (by decide)
theorem WSt.ne1 (h : WSt K w g bf msg) : bf ≠ 1 := by
 obtain ⟨y,_,hy⟩ := h.buf
 exact hy.ne h.k (by decide)
theorem WSt.glt (h : WSt K w g bf msg) : g < w.heap.size := by obtain ⟨s,x,_,h2⟩ := h.dig; exact h2.lt
theorem WSt.blt (h : WSt K w g bf msg) : bf < w.heap.size := by obtain ⟨y,_,hy⟩ := h.buf; exact hy.lt
theorem WSt.fr {S : List Nat} (h : WSt K w g bf msg) (hf : Fr S w w') (h1 : 1 ∉ S) (hg : g ∉ S) (hb : bf ∉ S) : WSt K w' g bf msg := by
 obtain ⟨y,hy1,hy⟩ := h.buf
 exact ⟨h.k.fr hf h1,h.kl,h.g1,h.dig.fr hf hg,⟨y,hy1,hy.fr hf hb⟩⟩
theorem WSt.grow (h : WSt K w g bf msg) (hf : Fr [] w w') : WSt K w' g bf msg := h.fr hf (by simp) (by simp) (by simp)
/-- The buffer holds something new. -/
theorem WSt.put (h : WSt K w g bf msg) (hf : Fr [bf] w w') {x : List Int} (hx : x.length = 8) (hb : Blk w' bf 5 (ic .u8 x)) : WSt K w' g bf msg :=
 ⟨h.k.fr hf (by simp; exact fun e => h.ne1 e.symm),h.kl,h.g1,h.dig.fr hf (by simp; exact fun e => h.ne e.symm),⟨x,hx,hb⟩⟩
theorem wr_c (h : WSt K w g bf msg) (p : List Int) (v : Value) (hp : Bytes w v p) (hv : ∀ b off n cap,v = .slice (some ⟨b,off,none⟩) n cap → cap ≠ 0 → b ≠ g) (hlen : msg.length + p.length ≤ 1000000000) :
  Calls Tryz.prog 304 #[.pointer (some ⟨g,0,none⟩),v] w fun e w' => e = .returned (.tuple #[.int .i64 (p.length : Int),.nilIface]) ∧ Fr [g] w w' ∧ WSt K w' g bf (msg ++ p) := by
 refine (write_c K h.kl w g msg p v h.k h.g1 h.dig hp hv (by omega)).mono ?_
 rintro e w' ⟨rfl,hf,hd⟩
 obtain ⟨y,hy1,hy⟩ := h.buf
 exact ⟨rfl,hf,h.k.fr hf (by simp; exact fun e => h.g1 e.symm),h.kl,h.g1,hd,⟨y,hy1,hy.fr hf (by simp; exact h.ne)⟩⟩
end
theorem write_ahead (G : Nat) (w : World) : (nilAhead 482 296 (.pointer (some ⟨G,0,none⟩)) "Write").run Tryz.prog w = .ok (some false) w := by kernel_rfl
/-- A slice from the front of the buffer. -/
theorem buf_bytes {w : World} {bf o n cap : Nat} {x : List Int} (h : Blk w bf 5 (ic .u8 x)) (ho : o + n ≤ x.length) (hc : n ≤ cap) (hm : cap ≤ maxLen) : Bytes w (.slice (some ⟨bf,o,none⟩) n cap) ((x.drop o).take n) :=
 ints_mk (by simp; omega) hc hm h.lt (fun i hi => by
  have hi' : i < n := by simp at hi; omega
  rw [h.int _ (by omega),nth_take' _ _ _ hi',nth_drop'])
/-- A number of variable length; only up to 2^32. -/
def vint (n : Nat) : List Int := if n < 253 then [(n : Int)] else if n ≤ 65535 then 253 :: le 2 n else 254 :: le 4 n
set_option maxRecDepth 8000 in
theorem varint_c (K : List Int) (w : World) (g bf : Nat) (msg : List Int) (h : WSt K w g bf msg) (pv : Int) (n : Nat) (hn : n ≤ 1000000) (hm : msg.length ≤ 100000000) :
  Calls Tryz.prog 180 #[.iface 296 (.pointer (some ⟨g,0,none⟩)),.int .u32 pv,.int .u64 (n : Int),.slice (some ⟨bf,0,none⟩) 8 8] w fun e w' => e = .returned .nilIface ∧ Fr [g,bf] w w' ∧ WSt K w' g bf (msg ++ vint n) := by
 have H := hid h; clear h
 have Hm := hid hm; clear hm
 have hn1 : (n : Int) ≤ 1000000 := by omega
 have hne := H.out.ne
 have Hne := hid hne; clear hne
 obtain ⟨x,hx,hb⟩ := H.out.buf
 have Hx := hid hx; clear hx
 have Hb := hid hb; clear hb
 have hah := write_ahead g
 have hbl := Hb.out.lt
 have hgl := H.out.glt
 have c0 : w.cell? ⟨bf,0,none⟩ = some (.int .u8 (nth x 0)) := Hb.out.int 0 (by rw [Hx.out]; omega)
 have f0 := Hb.out.free 0
 by_cases h1 : n < 253
 ·have h1i : (n : Int) < 253 := by omega
  have hvi : Hid (vint n = [(n : Int)]) := by show _ = _; rw [vint,if_pos h1]
  clear h1
  go_enter Tryz.func180,Tryz.ntmps180
  go_upto_region 10 with fail
  have HF1 : Hid (Fr [bf] w (w.setCell ⟨bf,0,none⟩ (.int .u8 (n : Int)))) := (Fr.refl _ _).setCell _ _ (by simp)
  have HB1 : Hid (Blk (w.setCell ⟨bf,0,none⟩ (.int .u8 (n : Int))) bf 5 (ic .u8 (x.set 0 (n : Int)))) := Hb.out.seti 0 _
  have H1 : Hid (WSt K (w.setCell ⟨bf,0,none⟩ (.int .u8 (n : Int))) g bf msg) := H.out.put HF1.out (by simp [Hx.out]) HB1.out
  generalize World.setCell w _ _ = w1 at HF1 HB1 H1 ⊢
  refine seg_begin (fun w' => Fr [g,bf] w1 w') (by kernel_rfl) ?_
  refine seg_quiet (fuel := 6) (by kernel_rfl) (fun d _ _ _ _ h => by cases d <;> exact h) ((Fr.refl _ _).drew) [0,1,2,3,4,5] _ _ (by kernel_rfl) ?_
  simp only [pickL,nthO]
  refine wpQuiet_rfl (.iface 296 (.pointer (some ⟨g,0,none⟩))) rfl (fun _ => rfl) ?_
  simp only [Act.put,nA,nB,nC]
  refine wpQuiet_rfl (.slice (some ⟨bf,0,none⟩) 8 8) rfl (fun _ => rfl) ?_
  simp only [Act.put,nA,nB,nC]
  refine wpQuiet_slcK_h (hi := 1) rfl 29 (.tmp 54) _ rfl 5 (by kernel_rfl) (by kernel_rfl) bf 0 8 8 .i64 rfl rfl (by decide) (by decide) ?_
  simp only [Act.put,nA,nB,nC]
  go_big_quiet_step ((intro hw; first | with_reducible rfl | rfl | (simp [Result.andThen]; done) | (simp [Result.andThen]; rfl)))
  go_big_quiet_step ((intro hw; first | with_reducible rfl | rfl | (simp [Result.andThen]; done) | (simp [Result.andThen]; rfl)))
  refine wpQuiet_rfl (.iface 296 (.pointer (some ⟨g,0,none⟩))) rfl (fun _ => rfl) ?_
  simp only [Act.put,nA,nB,nC]
  refine wpQuiet_nil ?_
  refine seg_act 6 rfl rfl (by kernel_rfl) ?_
  go_wp2_with fail
  have HP1 : Hid (Bytes w1.drew (.slice (some ⟨bf,0,none⟩) 1 8) [(n : Int)]) := by
   have := buf_bytes (n := 1) (cap := 8) (o := 0) (HB1.out.drew) (by simp [Hx.out]) (by decide) (by decide)
   rw [List.drop_zero,show (x.set 0 (n : Int)).take 1 = [(n : Int)] by obtain _ | ⟨y,ys⟩ := x; { have := Hx.out; simp at this }; rfl] at this
   exact this
  refine (wr_c (H1.out.grow (Fr.refl _ _).drew) [(n : Int)] _ HP1.out (by intro b off n cap h _; cases h; exact Hne.out) (by have := Hm.out; simp; omega)).mono ?_
  rintro e w2 ⟨rfl,hf,hw⟩
  have HF2 : Hid (Fr [g,bf] w1 w2) := (Fr.refl _ _).drew.trans (hf.mono (by simp))
  have H2 := hid hw
  clear hf hw
  go_wp2_with fail
  refine ⟨HF2.out,fun _ => ?_⟩
  refine seg_quiet (fuel := 0) (by kernel_rfl) (fun d _ _ _ _ h => by cases d <;> exact h) HF2.out [7,8,9,10,11] _ _ (by kernel_rfl) ?_
  simp only [pickL,nthO]
  iterate 5 go_big_quiet_step ((intro hw; first | with_reducible rfl | rfl))
  refine wpQuiet_nil ?_
  refine seg_end (by kernel_rfl) ?_
  go_wp2_with fail
  go_ret
  refine ⟨rfl,(HF1.out.mono (by simp)).trans HF2.out, ?_⟩
  rw [hvi.out]; exact H2.out
 ·have h1i : ¬ (n : Int) < 253 := by omega
  by_cases h2 : n ≤ 65535
  ·have h2i : (n : Int) ≤ 65535 := by omega
   have hvi : Hid (vint n = 253 :: le 2 (n : Int)) := by show _ = _; rw [vint,if_neg h1,if_pos h2]
   clear h1 h2
   go_enter Tryz.func180,Tryz.ntmps180
   go_upto_region 14 with fail
   have HF1 : Hid (Fr [bf] w (w.setCell ⟨bf,0,none⟩ (.int .u8 253))) := (Fr.refl _ _).setCell _ _ (by simp)
   have HB1 : Hid (Blk (w.setCell ⟨bf,0,none⟩ (.int .u8 253)) bf 5 (ic .u8 (x.set 0 253))) := Hb.out.seti 0 _
   have H1 : Hid (WSt K (w.setCell ⟨bf,0,none⟩ (.int .u8 253)) g bf msg) := H.out.put HF1.out (by simp [Hx.out]) HB1.out
   generalize World.setCell w _ _ = w1 at HF1 HB1 H1 ⊢
   refine seg_begin (fun w' => Fr [bf] w1 w') (by kernel_rfl) ?_
   refine seg_quiet (fuel := 1) (by kernel_rfl) (fun d _ _ _ _ h => by cases d <;> exact h) ((Fr.refl _ _).drew) [0,1,2,3,4] _ _ (by kernel_rfl) ?_
   simp only [pickL,nthO]
   refine wpQuiet_load rfl 318 (.global 0) rfl _ 0 rfl [] _ (fun w' hf j v h => by simp at h) rfl rfl (by kernel_rfl) ?_
   simp only [Act.put,nA,nB,nC]
   refine wpQuiet_rfl (.slice (some ⟨bf,0,none⟩) 8 8) rfl (fun _ => rfl) ?_
   simp only [Act.put,nA,nB,nC]
   refine wpQuiet_slcK (lo := 1) (hi := 3) rfl 29 (.tmp 69) _ _ rfl 5 (by kernel_rfl) (by kernel_rfl) bf 0 8 8 .i64 .i64 rfl rfl rfl (by decide) (by decide) (by decide) ?_
   simp only [Act.put,List.setIfInBounds_toArray,List.set_cons_zero,List.set_cons_succ,Nat.zero_add,Nat.reduceSub]
   iterate 2 go_big_quiet_step ((intro hw; first | with_reducible rfl | rfl | (simp [Result.andThen]; done) | (simp [Result.andThen]; rfl)))
   refine wpQuiet_nil ?_
   refine seg_act 5 rfl rfl (by kernel_rfl) ?_
   go_wp2_with fail
   refine (pl16_c w1.drew bf 1 2 7 5 (x.set 0 253) n HB1.out.drew (by simp [Hx.out]) (by decide)).mono ?_
   rintro e w2 ⟨rfl,hf,hb⟩
   have HF2 : Hid (Fr [bf] w1 w2) := (Fr.refl _ _).drew.trans hf
   have HB2 := hid hb
   have hsl : (splice (x.set 0 253) 1 (le 2 (n : Int))).length = 8 := by
    have := Hx.out
    simp only [splice,List.length_append,List.length_take,List.length_drop,List.length_set,le_length]; omega
   have Hsl := hid hsl
   have H2 : Hid (WSt K w2 g bf msg) := H1.out.put HF2.out hsl hb
   clear hf hb hsl
   go_wp2_with fail
   refine ⟨HF2.out,fun _ => ?_⟩
   refine seg_end (by kernel_rfl) ?_
   go_upto_region 15 with fail
   refine seg_begin (fun w' => Fr [g,bf] w2 w') (by kernel_rfl) ?_
   refine seg_quiet (fuel := 6) (by kernel_rfl) (fun d _ _ _ _ h => by cases d <;> exact h) ((Fr.refl _ _).drew) [0,1,2,3,4,5] _ _ (by kernel_rfl) ?_
   simp only [pickL,nthO]
   refine wpQuiet_rfl (.iface 296 (.pointer (some ⟨g,0,none⟩))) rfl (fun _ => rfl) ?_
   simp only [Act.put,nA,nB,nC]
   refine wpQuiet_rfl (.slice (some ⟨bf,0,none⟩) 8 8) rfl (fun _ => rfl) ?_
   simp only [Act.put,nA,nB,nC]
   refine wpQuiet_slcK_h (hi := 3) rfl 29 (.tmp 76) _ rfl 5 (by kernel_rfl) (by kernel_rfl) bf 0 8 8 .i64 rfl rfl (by decide) (by decide) ?_
   simp only [Act.put,nA,nB,nC]
   iterate 2 go_big_quiet_step ((intro hw; first | with_reducible rfl | rfl | (simp [Result.andThen]; done) | (simp [Result.andThen]; rfl)))
   refine wpQuiet_rfl (.iface 296 (.pointer (some ⟨g,0,none⟩))) rfl (fun _ => rfl) ?_
   simp only [Act.put,nA,nB,nC]
   refine wpQuiet_nil ?_
   refine seg_act 6 rfl rfl (by kernel_rfl) ?_
   go_wp2_with fail
   have HP1 : Hid (Bytes w2.drew (.slice (some ⟨bf,0,none⟩) 3 8) (253 :: le 2 (n : Int))) := by
    have hx8 := Hx.out
    have := buf_bytes (n := 3) (cap := 8) (o := 0) (HB2.out.drew) (by rw [Hsl.out]; decide) (by decide) (by decide)
    rw [List.drop_zero,show (splice (x.set 0 253) 1 (le 2 (n : Int))).take 3 = 253 :: le 2 (n : Int) by
     obtain _ | ⟨y,ys⟩ := x
     ·simp at hx8
     ·show List.take 3 ((253 :: ys).take 1 ++ le 2 (n : Int) ++ _) = _
      rw [List.take_append_of_le_length (by simp [le_length]),List.take_of_length_le (by simp [le_length])]
      simp] at this
    exact this
   refine (wr_c (H2.out.grow (Fr.refl _ _).drew) (253 :: le 2 (n : Int)) _ HP1.out (by intro b off n cap h _; cases h; exact Hne.out) (by have := Hm.out; simp [le_length]; omega)).mono ?_
   rintro e w3 ⟨rfl,hf,hw⟩
   have HF3 : Hid (Fr [g,bf] w2 w3) := (Fr.refl _ _).drew.trans (hf.mono (by simp))
   have H3 := hid hw
   clear hf hw
   go_wp2_with fail
   refine ⟨HF3.out,fun _ => ?_⟩
   refine seg_quiet (fuel := 0) (by kernel_rfl) (fun d _ _ _ _ h => by cases d <;> exact h) HF3.out [7,8,9,10,11] _ _ (by kernel_rfl) ?_
   simp only [pickL,nthO]
   iterate 5 go_big_quiet_step ((intro hw; first | with_reducible rfl | rfl))
   refine wpQuiet_nil ?_
   refine seg_end (by kernel_rfl) ?_
   go_wp2_with fail
   go_ret
   refine ⟨rfl,((HF1.out.mono (by simp)).trans (HF2.out.mono (by simp))).trans HF3.out, ?_⟩
   rw [hvi.out]; exact H3.out
  ·have h2i : ¬ (n : Int) ≤ 65535 := by omega
   have h3i : (n : Int) ≤ 4294967295 := by omega
   have hvi : Hid (vint n = 254 :: le 4 (n : Int)) := by show _ = _; rw [vint,if_neg h1,if_neg h2]
   clear h1 h2
   go_enter Tryz.func180,Tryz.ntmps180
   go_upto_region 19 with fail
   have HF1 : Hid (Fr [bf] w (w.setCell ⟨bf,0,none⟩ (.int .u8 254))) := (Fr.refl _ _).setCell _ _ (by simp)
   have HB1 : Hid (Blk (w.setCell ⟨bf,0,none⟩ (.int .u8 254)) bf 5 (ic .u8 (x.set 0 254))) := Hb.out.seti 0 _
   have H1 : Hid (WSt K (w.setCell ⟨bf,0,none⟩ (.int .u8 254)) g bf msg) := H.out.put HF1.out (by simp [Hx.out]) HB1.out
   generalize World.setCell w _ _ = w1 at HF1 HB1 H1 ⊢
   refine seg_begin (fun w' => Fr [bf] w1 w') (by kernel_rfl) ?_
   refine seg_quiet (fuel := 1) (by kernel_rfl) (fun d _ _ _ _ h => by cases d <;> exact h) ((Fr.refl _ _).drew) [0,1,2,3,4] _ _ (by kernel_rfl) ?_
   simp only [pickL,nthO]
   refine wpQuiet_load rfl 318 (.global 0) rfl _ 0 rfl [] _ (fun w' hf j v h => by simp at h) rfl rfl (by kernel_rfl) ?_
   simp only [Act.put,nA,nB,nC]
   refine wpQuiet_rfl (.slice (some ⟨bf,0,none⟩) 8 8) rfl (fun _ => rfl) ?_
   simp only [Act.put,nA,nB,nC]
   refine wpQuiet_slcK (lo := 1) (hi := 5) rfl 29 (.tmp 91) _ _ rfl 5 (by kernel_rfl) (by kernel_rfl) bf 0 8 8 .i64 .i64 rfl rfl rfl (by decide) (by decide) (by decide) ?_
   simp only [Act.put,List.setIfInBounds_toArray,List.set_cons_zero,List.set_cons_succ,Nat.zero_add,Nat.reduceSub]
   iterate 2 go_big_quiet_step ((intro hw; first | with_reducible rfl | rfl | (simp [Result.andThen]; done) | (simp [Result.andThen]; rfl)))
   refine wpQuiet_nil ?_
   refine seg_act 5 rfl rfl (by kernel_rfl) ?_
   go_wp2_with fail
   refine (pl32_c w1.drew bf 1 4 7 5 (x.set 0 254) n HB1.out.drew (by simp [Hx.out]) (by decide)).mono ?_
   rintro e w2 ⟨rfl,hf,hb⟩
   have HF2 : Hid (Fr [bf] w1 w2) := (Fr.refl _ _).drew.trans hf
   have HB2 := hid hb
   have hsl : (splice (x.set 0 254) 1 (le 4 (n : Int))).length = 8 := by
    have := Hx.out
    simp only [splice,List.length_append,List.length_take,List.length_drop,List.length_set,le_length]; omega
   have Hsl := hid hsl
   have H2 : Hid (WSt K w2 g bf msg) := H1.out.put HF2.out hsl hb
   clear hf hb hsl
   go_wp2_with fail
   refine ⟨HF2.out,fun _ => ?_⟩
   refine seg_end (by kernel_rfl) ?_
   go_upto_region 20 with fail
   refine seg_begin (fun w' => Fr [g,bf] w2 w') (by kernel_rfl) ?_
   refine seg_quiet (fuel := 6) (by kernel_rfl) (fun d _ _ _ _ h => by cases d <;> exact h) ((Fr.refl _ _).drew) [0,1,2,3,4,5] _ _ (by kernel_rfl) ?_
   simp only [pickL,nthO]
   refine wpQuiet_rfl (.iface 296 (.pointer (some ⟨g,0,none⟩))) rfl (fun _ => rfl) ?_
   simp only [Act.put,nA,nB,nC]
   refine wpQuiet_rfl (.slice (some ⟨bf,0,none⟩) 8 8) rfl (fun _ => rfl) ?_
   simp only [Act.put,nA,nB,nC]
   refine wpQuiet_slcK_h (hi := 5) rfl 29 (.tmp 98) _ rfl 5 (by kernel_rfl) (by kernel_rfl) bf 0 8 8 .i64 rfl rfl (by decide) (by decide) ?_
   simp only [Act.put,nA,nB,nC]
   iterate 2 go_big_quiet_step ((intro hw; first | with_reducible rfl | rfl | (simp [Result.andThen]; done) | (simp [Result.andThen]; rfl)))
   refine wpQuiet_rfl (.iface 296 (.pointer (some ⟨g,0,none⟩))) rfl (fun _ => rfl) ?_
   simp only [Act.put,nA,nB,nC]
   refine wpQuiet_nil ?_
   refine seg_act 6 rfl rfl (by kernel_rfl) ?_
   go_wp2_with fail
   have HP1 : Hid (Bytes w2.drew (.slice (some ⟨bf,0,none⟩) 5 8) (254 :: le 4 (n : Int))) := by
    have hx8 := Hx.out
    have := buf_bytes (n := 5) (cap := 8) (o := 0) (HB2.out.drew) (by rw [Hsl.out]; decide) (by decide) (by decide)
    rw [List.drop_zero,show (splice (x.set 0 254) 1 (le 4 (n : Int))).take 5 = 254 :: le 4 (n : Int) by
     obtain _ | ⟨y,ys⟩ := x
     ·simp at hx8
     ·show List.take 5 ((254 :: ys).take 1 ++ le 4 (n : Int) ++ _) = _
      rw [List.take_append_of_le_length (by simp [le_length]),List.take_of_length_le (by simp [le_length])]
      simp] at this
    exact this
   refine (wr_c (H2.out.grow (Fr.refl _ _).drew) (254 :: le 4 (n : Int)) _ HP1.out (by intro b off n cap h _; cases h; exact Hne.out) (by have := Hm.out; simp [le_length]; omega)).mono ?_
   rintro e w3 ⟨rfl,hf,hw⟩
   have HF3 : Hid (Fr [g,bf] w2 w3) := (Fr.refl _ _).drew.trans (hf.mono (by simp))
   have H3 := hid hw
   clear hf hw
   go_wp2_with fail
   refine ⟨HF3.out,fun _ => ?_⟩
   refine seg_quiet (fuel := 0) (by kernel_rfl) (fun d _ _ _ _ h => by cases d <;> exact h) HF3.out [7,8,9,10,11] _ _ (by kernel_rfl) ?_
   simp only [pickL,nthO]
   iterate 5 go_big_quiet_step ((intro hw; first | with_reducible rfl | rfl))
   refine wpQuiet_nil ?_
   refine seg_end (by kernel_rfl) ?_
   go_wp2_with fail
   go_ret
   refine ⟨rfl,((HF1.out.mono (by simp)).trans (HF2.out.mono (by simp))).trans HF3.out, ?_⟩
   rw [hvi.out]; exact H3.out
end
end Go.Proofs.YtdllckiidegpcaaGreat
