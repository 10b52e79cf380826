/- A part of the walk of laws.FnPartial (part 25): contracts of functions that it comes to, and the plain laws that these lean on. Conditions stand in each contract. -/
import Derived.Shelf.Vars
import Derived.Test.YtdllckiidegpcaaGreatA16
import Derived.Test.YtdllckiidegpcaaGreatA19
set_option linter.unusedSimpArgs false
set_option linter.unusedVariables false
namespace Go.Proofs.YtdllckiidegpcaaGreat
section
open Go.RowKit Go.Deep Go.ChangeShapes Go.WideShapes
set_option maxRecDepth 8000
section
variable {H : Type} {enc : TypeId × Value → H} {W : World}
theorem cs2 : Tryz.prog.cellsOf 2 = 1 := by kernel_rfl
theorem cs5 : Tryz.prog.cellsOf 5 = 1 := by kernel_rfl
theorem cs21 : Tryz.prog.cellsOf 21 = 1 := by kernel_rfl
theorem cs22 : Tryz.prog.cellsOf 22 = 32 := by kernel_rfl
theorem cs23 : Tryz.prog.cellsOf 23 = 1 := by kernel_rfl
theorem cs25 : Tryz.prog.cellsOf 25 = 68 := by kernel_rfl
theorem cs26 : Tryz.prog.cellsOf 26 = 1 := by kernel_rfl
theorem cs28 : Tryz.prog.cellsOf 28 = 69 := by kernel_rfl
theorem cs29 : Tryz.prog.cellsOf 29 = 1 := by kernel_rfl
theorem cs31 : Tryz.prog.cellsOf 31 = 3 := by kernel_rfl
theorem cs36 : Tryz.prog.cellsOf 36 = 1 := by kernel_rfl
theorem cs37 : Tryz.prog.cellsOf 37 = 1 := by kernel_rfl
theorem cs39 : Tryz.prog.cellsOf 39 = 4 := by kernel_rfl
theorem cs95 : Tryz.prog.cellsOf 95 = 33 := by kernel_rfl
theorem cs96 : Tryz.prog.cellsOf 96 = 1 := by kernel_rfl
theorem cs98 : Tryz.prog.cellsOf 98 = 36 := by kernel_rfl
theorem cs65 : Tryz.prog.cellsOf 65 = 2 := by kernel_rfl
theorem take_all {α : Type} (l : List α) (o s : Nat) (h : l.length = o + s) : l.drop o = (l.drop o).take s := by
 rw [List.take_of_length_le (by rw [List.length_drop]; omega)]
instance : Inhabited TxIn := ⟨⟨⟨[],0⟩,[],[],0⟩⟩
instance : Inhabited TxOut := ⟨⟨0,[]⟩⟩
instance : Inhabited Tx := ⟨⟨0,[],[],0⟩⟩
/-- An element of a []byte. -/
theorem rds_u8 (cs : List Value) (h : Rds enc W 5 cs) : ∃ y,(fun (_ : World) (c : List Value) (x : Int) => c = [.int .u8 x]) W cs y ∧ (0 ≤ y ∧ y < 256) := by
 obtain ⟨n,h1,h2,h3⟩ := rds_int Tryz.underlying5 h
 have e1 : IntKind.u8.min = 0 := rfl
 have e2 : IntKind.u8.max = 255 := rfl
 exact ⟨n,h1,by omega,by omega⟩
theorem rds_bytes (cs : List Value) (h : Rds enc W 29 cs) : ∃ y,BytE W.heap.size W cs y ∧ U8 y := by
 obtain ⟨v,l,rfl,⟨es,h1,h2,h3,h4⟩,hu⟩ := rds_list (E := fun (_ : World) (c : List Value) (x : Int) => c = [.int .u8 x]) (Ok := fun y => 0 ≤ y ∧ y < 256) Tryz.underlying29 cs5 (by decide) rds_u8 h
 refine ⟨l,⟨v,rfl, ?_⟩,hu⟩
 have he : es.flatten = ic .u8 l := by
  have : ∀ (cs : List (List Value)) (l : List Int),cs.length = l.length → (∀ i (h : i < cs.length) (h' : i < l.length),cs[i] = [.int .u8 l[i]]) → cs.flatten = ic .u8 l := by
   intro cs
   induction cs with
   | nil => intro l hl _; cases l; { rfl }; simp at hl
   | cons c cs ih =>
    intro l hl hc
    cases l with
    | nil => simp at hl
    | cons x l =>
     have h0 := hc 0 (by simp) (by simp)
     simp only [List.getElem_cons_zero] at h0
     rw [List.flatten_cons,h0,ih l (by simpa using hl) (fun i hi hi' => by have := hc (i + 1) (by simpa using hi) (by simpa using hi'); simpa using this)]
     rfl
  exact this es l h1 h4
 show RdB _ _ _ _ _
 rw [← he]; exact h3
theorem rds_i {t : TypeId} {k : IntKind} (ht : Tryz.prog.underlying t = some (.int k)) (cs : List Value) (h : Rds enc W t cs) : ∃ n,cs = [.int k n] ∧ k.min ≤ n ∧ n ≤ k.max := rds_int ht h
theorem rds_out (cs : List Value) (h : Rds enc W 95 cs) : ∃ y : OutP,cs = y.cells ∧ y.Ok := by
 obtain ⟨hl,hf⟩ := rds_struct Tryz.underlying95 h
 have hl : cs.length = 33 := hl.trans cs95
 have f0 : Rds enc W 22 ((cs.drop 0).take (Tryz.prog.cellsOf 22)) := hf 0 _ rfl
 rw [cs22] at f0
 have f1 : Rds enc W 23 ((cs.drop 32).take (Tryz.prog.cellsOf 23)) := hf 1 _ rfl
 rw [cs23] at f1
 obtain ⟨l,h1,h2,h3⟩ := rds_arr f0
 obtain ⟨n,h4,h5,h6⟩ := rds_int Tryz.underlying23 f1
 have e1 : IntKind.u32.min = 0 := rfl
 have e2 : IntKind.u32.max = 4294967295 := rfl
 refine ⟨⟨l,n⟩, ?_,h2,h3,by show 0 ≤ n; omega,by show n < 4294967296; omega⟩
 have := split_at' cs 0 32
 rw [List.drop_zero] at this
 rw [this,take_all cs (0 + 32) 1 (by omega)]
 rw [List.drop_zero] at h1
 rw [h1,show (0 + 32) = 32 from rfl,h4]; rfl
theorem rds_txin (cs : List Value) (h : Rds enc W 98 cs) : ∃ y,TxInE W.heap.size W cs y ∧ y.Ok := by
 obtain ⟨hl,hf⟩ := rds_struct Tryz.underlying98 h
 have hl : cs.length = 36 := hl.trans cs98
 have f0 : Rds enc W 95 ((cs.drop 0).take (Tryz.prog.cellsOf 95)) := hf 0 _ rfl
 rw [cs95] at f0
 have f1 : Rds enc W 29 ((cs.drop 33).take (Tryz.prog.cellsOf 29)) := hf 1 _ rfl
 rw [cs29] at f1
 have f2 : Rds enc W 96 ((cs.drop 34).take (Tryz.prog.cellsOf 96)) := hf 2 _ rfl
 rw [cs96] at f2
 have f3 : Rds enc W 23 ((cs.drop 35).take (Tryz.prog.cellsOf 23)) := hf 3 _ rfl
 rw [cs23] at f3
 obtain ⟨p,h1,hp⟩ := rds_out _ f0
 obtain ⟨s,⟨sv,h2,hs⟩,hu⟩ := rds_bytes _ f1
 obtain ⟨wv,wl,h3,hw,hwu⟩ := rds_list Tryz.underlying96 cs29 (by decide) rds_bytes f2
 obtain ⟨n,h4,h5,h6⟩ := rds_int Tryz.underlying23 f3
 have e1 : IntKind.u32.min = 0 := rfl
 have e2 : IntKind.u32.max = 4294967295 := rfl
 refine ⟨⟨p,s,wl,n⟩,⟨sv,wv, ?_,hs,hw⟩,hp,hu,hwu,by show 0 ≤ n; omega,by show n < 4294967296; omega⟩
 have a0 := split_at' cs 0 33
 have a1 := split_at' cs 33 1
 have a2 := split_at' cs 34 1
 have a3 := take_all cs 35 1 (by omega)
 rw [List.drop_zero] at a0 h1
 rw [a0,show 0 + 33 = 33 from rfl,a1,show 33 + 1 = 34 from rfl,a2,show 34 + 1 = 35 from rfl,a3,h1,h2,h3,h4]; rfl
theorem rds_txout (cs : List Value) (h : Rds enc W 65 cs) : ∃ y,TxOutE W.heap.size W cs y ∧ y.Ok := by
 obtain ⟨hl,hf⟩ := rds_struct Tryz.underlying65 h
 have hl : cs.length = 2 := hl.trans cs65
 have f0 : Rds enc W 2 ((cs.drop 0).take (Tryz.prog.cellsOf 2)) := hf 0 _ rfl
 rw [cs2] at f0
 have f1 : Rds enc W 29 ((cs.drop 1).take (Tryz.prog.cellsOf 29)) := hf 1 _ rfl
 rw [cs29] at f1
 obtain ⟨v,h1,hv1,hv2⟩ := rds_int Tryz.underlying2 f0
 obtain ⟨s,⟨sv,h2,hs⟩,hu⟩ := rds_bytes _ f1
 have e3 : IntKind.i64.min = -9223372036854775808 := rfl
 have e4 : IntKind.i64.max = 9223372036854775807 := rfl
 refine ⟨⟨v,s⟩,⟨sv, ?_,hs⟩,hu,by show -9223372036854775808 ≤ v; omega,by show v < 9223372036854775808; omega⟩
 have a0 := split_at' cs 0 1
 have a1 := take_all cs 1 1 (by omega)
 rw [List.drop_zero] at a0 h1
 rw [a0,show 0 + 1 = 1 from rfl,a1,h1,h2]; rfl
theorem rds_tx (cs : List Value) (h : Rds enc W 39 cs) : ∃ y,TxE W.heap.size W cs y ∧ y.Ok := by
 obtain ⟨hl,hf⟩ := rds_struct Tryz.underlying39 h
 have hl : cs.length = 4 := hl.trans cs39
 have f0 : Rds enc W 21 ((cs.drop 0).take (Tryz.prog.cellsOf 21)) := hf 0 _ rfl
 rw [cs21] at f0
 have f1 : Rds enc W 36 ((cs.drop 1).take (Tryz.prog.cellsOf 36)) := hf 1 _ rfl
 rw [cs36] at f1
 have f2 : Rds enc W 37 ((cs.drop 2).take (Tryz.prog.cellsOf 37)) := hf 2 _ rfl
 rw [cs37] at f2
 have f3 : Rds enc W 23 ((cs.drop 3).take (Tryz.prog.cellsOf 23)) := hf 3 _ rfl
 rw [cs23] at f3
 obtain ⟨v,h1,hv1,hv2⟩ := rds_int Tryz.underlying21 f0
 obtain ⟨iv,il,h2,hi,hio⟩ := rds_list Tryz.underlying36 cs98 (by decide) rds_txin f1
 obtain ⟨ov,ol,h3,ho,hoo⟩ := rds_list Tryz.underlying37 cs65 (by decide) rds_txout f2
 obtain ⟨n,h4,h5,h6⟩ := rds_int Tryz.underlying23 f3
 have e1 : IntKind.u32.min = 0 := rfl
 have e2 : IntKind.u32.max = 4294967295 := rfl
 have e3 : IntKind.i32.min = -2147483648 := rfl
 have e4 : IntKind.i32.max = 2147483647 := rfl
 refine ⟨⟨v,il,ol,n⟩,⟨iv,ov, ?_,hi,ho⟩,⟨by show -2147483648 ≤ v; omega,by show v < 2147483648; omega⟩,hio,hoo,by show 0 ≤ n; omega,by show n < 4294967296; omega⟩
 have a0 := split_at' cs 0 1
 have a1 := split_at' cs 1 1
 have a2 := split_at' cs 2 1
 have a3 := take_all cs 3 1 (by omega)
 rw [List.drop_zero] at a0 h1
 rw [a0,show 0 + 1 = 1 from rfl,a1,show 1 + 1 = 2 from rfl,a2,show 2 + 1 = 3 from rfl,a3,h1,h2,h3,h4]; rfl
theorem rds_hdr (cs : List Value) (h : Rds enc W 25 cs) : ∃ y : Hdr,cs = y.cells ∧ y.Ok := by
 obtain ⟨hl,hf⟩ := rds_struct Tryz.underlying25 h
 have hl : cs.length = 68 := hl.trans cs25
 have f0 : Rds enc W 21 ((cs.drop 0).take (Tryz.prog.cellsOf 21)) := hf 0 _ rfl
 rw [cs21] at f0
 have f1 : Rds enc W 22 ((cs.drop 1).take (Tryz.prog.cellsOf 22)) := hf 1 _ rfl
 rw [cs22] at f1
 have f2 : Rds enc W 22 ((cs.drop 33).take (Tryz.prog.cellsOf 22)) := hf 2 _ rfl
 rw [cs22] at f2
 have f3 : Rds enc W 23 ((cs.drop 65).take (Tryz.prog.cellsOf 23)) := hf 3 _ rfl
 rw [cs23] at f3
 have f4 : Rds enc W 23 ((cs.drop 66).take (Tryz.prog.cellsOf 23)) := hf 4 _ rfl
 rw [cs23] at f4
 have f5 : Rds enc W 23 ((cs.drop 67).take (Tryz.prog.cellsOf 23)) := hf 5 _ rfl
 rw [cs23] at f5
 obtain ⟨v,h1,hv1,hv2⟩ := rds_int Tryz.underlying21 f0
 obtain ⟨p,h2,hp1,hp2⟩ := rds_arr f1
 obtain ⟨r,h3,hr1,hr2⟩ := rds_arr f2
 obtain ⟨a,h4,ha1,ha2⟩ := rds_int Tryz.underlying23 f3
 obtain ⟨b,h5,hb1,hb2⟩ := rds_int Tryz.underlying23 f4
 obtain ⟨c,h6,hc1,hc2⟩ := rds_int Tryz.underlying23 f5
 have e1 : IntKind.u32.min = 0 := rfl
 have e2 : IntKind.u32.max = 4294967295 := rfl
 have e3 : IntKind.i32.min = -2147483648 := rfl
 have e4 : IntKind.i32.max = 2147483647 := rfl
 refine ⟨⟨v,p,r,a,b,c⟩, ?_,⟨by show -2147483648 ≤ v; omega,by show v < 2147483648; omega⟩,hp1,hr1,by show 0 ≤ a; omega,by show a < 4294967296; omega⟩
 have a0 := split_at' cs 0 1
 have a1 := split_at' cs 1 32
 have a2 := split_at' cs 33 32
 have a3 := split_at' cs 65 1
 have a4 := split_at' cs 66 1
 have a5 := take_all cs 67 1 (by omega)
 rw [List.drop_zero] at a0 h1
 rw [a0,show 0 + 1 = 1 from rfl,a1,show 1 + 32 = 33 from rfl,a2,show 33 + 32 = 65 from rfl,a3,show 65 + 1 = 66 from rfl,a4,show 66 + 1 = 67 from rfl,a5,h1,h2,h3,h4,h5,h6]; rfl
theorem rds_block (cs : List Value) (h : Rds enc W 28 cs) : ∃ y,BlckE W.heap.size W cs y ∧ y.Ok := by
 obtain ⟨hl,hf⟩ := rds_struct Tryz.underlying28 h
 have hl : cs.length = 69 := hl.trans cs28
 have f0 : Rds enc W 25 ((cs.drop 0).take (Tryz.prog.cellsOf 25)) := hf 0 _ rfl
 rw [cs25] at f0
 have f1 : Rds enc W 26 ((cs.drop 68).take (Tryz.prog.cellsOf 26)) := hf 1 _ rfl
 rw [cs26] at f1
 obtain ⟨hd,h1,hh⟩ := rds_hdr _ f0
 obtain ⟨tv,tl,h2,ht,hto⟩ := rds_list Tryz.underlying26 cs39 (by decide) rds_tx f1
 refine ⟨⟨hd,tl⟩,⟨tv, ?_,ht⟩,hh,hto⟩
 have a0 := split_at' cs 0 68
 have a1 := take_all cs 68 1 (by omega)
 rw [List.drop_zero] at a0 h1
 rw [a0,show 0 + 68 = 68 from rfl,a1,h1,h2]
theorem rds_filter (cs : List Value) (h : Rds enc W 31 cs) : ∃ y,BlmE W.heap.size W cs y ∧ y.Ok := by
 obtain ⟨hl,hf⟩ := rds_struct Tryz.underlying31 h
 have hl : cs.length = 3 := hl.trans cs31
 have f0 : Rds enc W 29 ((cs.drop 0).take (Tryz.prog.cellsOf 29)) := hf 0 _ rfl
 rw [cs29] at f0
 have f1 : Rds enc W 23 ((cs.drop 1).take (Tryz.prog.cellsOf 23)) := hf 1 _ rfl
 rw [cs23] at f1
 have f2 : Rds enc W 23 ((cs.drop 2).take (Tryz.prog.cellsOf 23)) := hf 2 _ rfl
 rw [cs23] at f2
 obtain ⟨s,⟨sv,h1,hs⟩,hu⟩ := rds_bytes _ f0
 obtain ⟨a,h2,ha1,ha2⟩ := rds_int Tryz.underlying23 f1
 obtain ⟨b,h3,hb1,hb2⟩ := rds_int Tryz.underlying23 f2
 have e1 : IntKind.u32.min = 0 := rfl
 have e2 : IntKind.u32.max = 4294967295 := rfl
 refine ⟨⟨s,a,b⟩,⟨sv, ?_,hs⟩,hu,⟨by show 0 ≤ a; omega,by show a < 4294967296; omega⟩,by show 0 ≤ b; omega,by show b < 4294967296; omega⟩
 have a0 := split_at' cs 0 1
 have a1 := split_at' cs 1 1
 have a2 := take_all cs 2 1 (by omega)
 rw [List.drop_zero] at a0 h1
 rw [a0,show 0 + 1 = 1 from rfl,a1,show 1 + 1 = 2 from rfl,a2,h1,h2,h3]; rfl
/-- The table, in whatever world the form lets in. -/
theorem table_of {w : World} (h : w.ShapedOpen Tryz.prog) : ∃ K : List Int,K.length = 64 ∧ Blk w 1 379 (ic .u32 K) := by
 have h0 : ∃ zero : Array Value,((begin Tryz.prog (fun _ _ => 0) default).world.heap[1]?).bind Obj.row? = some (zero,379) ∧ zero.size = 64 := ⟨(ic .u32 (List.replicate 64 0)).toArray,by kernel_rfl,by kernel_rfl⟩
 obtain ⟨zero,h1,h2⟩ := h0
 obtain ⟨cs,hh,hs,hr⟩ := h.1 1 zero 379 (of_decide_eq_true (by kernel_rfl)) h1
 obtain ⟨ts,hts,_,hall⟩ := hr (by kernel_rfl)
 have ht : Tryz.prog.cellTypes Tryz.prog.depth 379 = some (List.replicate 64 23) := by kernel_rfl
 rw [ht] at hts
 cases hts
 have hg : ∀ i,i < 64 → ∃ n : Int,cs[i]? = some (.int .u32 n) := by
  intro i hi
  have hi' : i < cs.size := by omega
  obtain ⟨u,hu',hok⟩ := hall i cs[i] (by simp [hi'])
  have : u = 23 := by
   rw [List.length_replicate,Nat.mod_eq_of_lt hi,List.getElem?_replicate,if_pos hi] at hu'
   exact (Option.some.inj hu').symm
  subst this
  unfold Cell.ok at hok
  rw [Tryz.underlying23] at hok
  rw [Array.getElem?_eq_getElem hi']
  split at hok
  all_goals first
   | (rename_i he hv; obtain ⟨rfl,_⟩ := hok; simp_all; done)
   | simp_all
 obtain ⟨f,hf⟩ := choose_lt (α := Int) hg
 refine ⟨(List.range 64).map f,by simp, ?_⟩
 show w.heap[1]? = _
 rw [hh]
 have : cs = (ic .u32 ((List.range 64).map f)).toArray := by
  apply Array.ext_getElem?
  intro i
  by_cases hi : i < 64
  ·rw [hf i hi]; simp [ic,hi]
  ·rw [Array.getElem?_eq_none (by omega),Array.getElem?_eq_none (by simp; omega)]
 rw [this]
end
end
end Go.Proofs.YtdllckiidegpcaaGreat
