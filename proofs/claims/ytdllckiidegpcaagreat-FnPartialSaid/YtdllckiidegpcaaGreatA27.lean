/- A part of the walk of laws.FnPartial (part 27): contracts of functions that it comes to, and the plain laws that these lean on. Conditions stand in each contract. -/
import Derived.Test.YtdllckiidegpcaaGreatA23
import Derived.Test.YtdllckiidegpcaaGreatA24
set_option linter.unusedSimpArgs false
set_option linter.unusedVariables false
set_option maxHeartbeats 4000000
namespace Go.Proofs.YtdllckiidegpcaaGreat
open Go.RowKit
def or8 (x : Int) (q : Nat) : Int := ((x.toNat ||| 2 ^ q : Nat) : Int)
/-- The bit at p is set now. -/
def setB (bytes : List Int) (p : Nat) : List Int := bytes.set (p / 8) (or8 (nth bytes (p / 8)) (p % 8))
def addN (f : Blm) (b : List Int) : Nat → List Int
 | 0 => f.bytes
 | i + 1 => setB (addN f b i) (bIdx f (i : Int) b).toNat
def bAdd (f : Blm) (b : List Int) : Blm := { f with bytes := addN f b f.funcs.toNat }
theorem setB_length (l : List Int) (p : Nat) : (setB l p).length = l.length := by simp [setB]
theorem addN_length (f : Blm) (b : List Int) (i : Nat) : (addN f b i).length = f.bytes.length := by
 induction i with
 | zero => rfl
 | succ i ih => rw [addN,setB_length,ih]
theorem or8_bd (x : Int) (q : Nat) (h0 : 0 ≤ x) (h1 : x ≤ 255) (hq : q ≤ 7) : 0 ≤ or8 x q ∧ or8 x q < 256 := by
 obtain ⟨n,rfl⟩ := Int.eq_ofNat_of_zero_le h0
 have : n ||| 2 ^ q < 2 ^ 8 := Nat.or_lt_two_pow (by omega) (Nat.pow_lt_pow_right (by omega) (by omega))
 unfold or8
 rw [Int.toNat_natCast]; omega
theorem U8.set {l : List Int} (h : U8 l) (i : Nat) (x : Int) (hx : 0 ≤ x ∧ x < 256) : U8 (l.set i x) := by
 intro y hy
 rcases List.mem_or_eq_of_mem_set hy with h' | rfl
 ·exact h y h'
 ·exact hx
theorem setB_u8 {l : List Int} (h : U8 l) (p : Nat) : U8 (setB l p) := by
 have hb := h.bd (p / 8)
 exact h.set _ _ (or8_bd _ _ hb.1 hb.2 (by omega))
theorem addN_u8 (f : Blm) (b : List Int) (i : Nat) (h : U8 f.bytes) : U8 (addN f b i) := by
 induction i with
 | zero => exact h
 | succ i ih => exact setB_u8 ih _
theorem or_one_bit (x : Int) (q : Nat) (h0 : 0 ≤ x) (h1 : x ≤ 255) (hq : q ≤ 7) : bits .or .u8 x (2 ^ q % 256) = or8 x q := by
 obtain ⟨n,rfl⟩ := Int.eq_ofNat_of_zero_le h0
 have hq' : q = 0 ∨ q = 1 ∨ q = 2 ∨ q = 3 ∨ q = 4 ∨ q = 5 ∨ q = 6 ∨ q = 7 := by omega
 have e : ((2 : Int) ^ q % 256) = ((2 ^ q : Nat) : Int) := by rcases hq' with h | h | h | h | h | h | h | h <;> subst h <;> rfl
 have hp : 2 ^ q < 2 ^ 8 := Nat.pow_lt_pow_right (by omega) (by omega)
 rw [e,or_u8 n _ (by omega) hp,or8,Int.toNat_natCast]
set_option maxRecDepth 8000 in
theorem add_c (w : World) (g m a cap : Nat) (st : Int) (f : Blm) (flag : Int) (hF : FltAt w g m a cap st f flag) (v : Value) (l : List Int) (hv : ∀ w',Fr [a] w w' → Bytes w' v l) (hu : U8 l) (hl : l.length ≤ 1000000) (h1 : 1 ≤ f.bytes.length) (h2 : f.bytes.length ≤ 1000000) (h3 : 1 ≤ f.funcs) (h4 : f.funcs ≤ 50) (hb : U8 f.bytes) :
  Calls Tryz.prog 164 #[.pointer (some ⟨g,0,none⟩),v] w fun e w' => e = .returned (.tuple #[]) ∧ Fr [a] w w' ∧ FltAt w' g m a cap st (bAdd f l) flag := by
 have c1 : w.cell? ⟨g,2,none⟩ = some (.pointer (some ⟨m,0,none⟩)) := hF.top.cell_at rfl
 have hgl := hF.top.lt
 have hga : g ≠ a := by
  rintro rfl
  obtain ⟨post,hp⟩ := hF.arr
  have e1 : w.heap[g]? = _ := hF.top
  have e2 : w.heap[g]? = _ := hp
  rw [e1] at e2
  simp at e2
 have hma : m ≠ a := by
  rintro rfl
  obtain ⟨post,hp⟩ := hF.arr
  have e1 : w.heap[m]? = _ := hF.msg
  have e2 : w.heap[m]? = _ := hp
  rw [e1] at e2
  simp at e2
 have Hga := hid hga; clear hga
 have Hma := hid hma; clear hma
 have HFl := hid hF; clear hF
 have HV := hid hv; clear hv
 have Hu := hid hu; clear hu
 have Hl := hid hl; clear hl
 have Hb := hid hb; clear hb
 go_enter Tryz.func164,Tryz.ntmps164
 go_wp2_with fail
 clear c1 hgl
 go_loopg [4] (f.funcs.toNat) (fun gk v5 wr => ∃ i,gk = f.funcs.toNat - i ∧ i ≤ f.funcs.toNat ∧ v5 = .int .u32 (i : Int) ∧ FltAt wr g m a cap st { f with bytes := addN f l i } flag ∧ Fr [a] w wr)
 case atStart => exact ⟨0,rfl,Nat.zero_le _,rfl,HFl.out,Fr.refl _ _⟩
 case round =>
  obtain ⟨i,rfl,hi,rfl,hfl,hf⟩ := hrel
  have hlen := addN_length f l i
  have Hlen := hid hlen
  have HFl1 := hid hfl; clear hfl
  have HF := hid hf; clear hf
  obtain ⟨f1,hf1⟩ : ∃ f1 : Blm,f1 = { f with bytes := addN f l i } := ⟨_,rfl⟩
  rw [← hf1] at HFl1
  have hfb : f1.bytes.length = f.bytes.length := by rw [hf1]; exact hlen
  have hff : f1.funcs = f.funcs := by rw [hf1]
  have hu1 : U8 f1.bytes := by rw [hf1]; exact addN_u8 f l i Hb.out
  have hbi : ∀ j,bIdx f1 j l = bIdx f j l := by intro j; unfold bIdx; rw [hfb,hf1]
  have Hbi := hid hbi
  have Hf1 := hid hf1
  have Hu1 := hid hu1
  have Hfb := hid hfb
  have c1 : wr.cell? ⟨g,2,none⟩ = some (.pointer (some ⟨m,0,none⟩)) := HFl1.out.top.cell_at rfl
  have c2 : wr.cell? ⟨m,1,none⟩ = some (.int .u32 f.funcs) := by rw [← hff]; exact HFl1.out.msg.cell_at rfl
  have hgl := HFl1.out.top.lt
  have hml := HFl1.out.msg.lt
  have hn1 : 1 ≤ f1.bytes.length := by omega
  have hn2 : f1.bytes.length ≤ 1000000 := by omega
  have Hn1 := hid hn1
  have Hn2 := hid hn2
  clear hlen hf1 hfb hff hu1 hbi hn1 hn2
  by_cases hlt : (i : Int) < f.funcs
  ·go_wp2_with fail
   refine (hash_q wr g m a cap st f1 flag HFl1.out i v l (HV.out wr HF.out) Hu.out Hl.out Hn1.out Hn2.out).mono ?_
   rintro e w1 ⟨rfl,hf⟩
   have HFl2 := hid (HFl1.out.grow hf)
   have HF2 : Hid (Fr [a] w w1) := hid (HF.out.trans (hf.mono (by simp)))
   clear hf c1 c2 hgl hml
   have c1 : w1.cell? ⟨g,2,none⟩ = some (.pointer (some ⟨m,0,none⟩)) := HFl2.out.top.cell_at rfl
   have c2 : w1.cell? ⟨m,0,none⟩ = some (.slice (some ⟨a,0,none⟩) f1.bytes.length cap) := HFl2.out.msg.cell_at rfl
   have hgl := HFl2.out.top.lt
   have hml := HFl2.out.msg.lt
   obtain ⟨x,hx⟩ : ∃ x,x = bIdx f1 i l := ⟨_,rfl⟩
   rw [← hx]
   have hx0 : 0 ≤ x := by rw [hx]; exact Int.emod_nonneg _ (by have := Hn1.out; omega)
   have hx1 : x < (f1.bytes.length : Int) * 8 := by rw [hx]; exact Int.emod_lt_of_pos _ (by have := Hn1.out; omega)
   have Hx := hid hx; clear hx
   obtain ⟨p,rfl⟩ := Int.eq_ofNat_of_zero_le hx0
   have hp : p / 8 < f1.bytes.length := by omega
   have hpi : (p : Int) / 8 < f1.bytes.length := by omega
   obtain ⟨q,hq⟩ : ∃ q,q = p % 8 := ⟨_,rfl⟩
   have hq7 : q ≤ 7 := by omega
   have hqi : (q : Int) ≤ 7 := by omega
   have hand7 : bits .and .u32 7 (p : Int) = (q : Int) := by
    have := Hn2.out
    rw [show (7 : Int) = ((7 : Nat) : Int) from rfl,and_u32 7 p (by decide) (by omega),hq,Nat.and_comm,show p &&& 7 = p % 8 from Nat.and_two_pow_sub_one_eq_mod p 3]
   have Hq := hid hq; clear hq
   obtain ⟨post,hpost⟩ := HFl2.out.arr
   have Hpost := hid hpost; clear hpost
   have hbd := Hu1.out.bd (p / 8)
   have hob := or_one_bit (nth f1.bytes (p / 8)) q hbd.1 hbd.2 hq7
   have e1 : w1.cell? ⟨a,p / 8,none⟩ = some (.int .u8 (nth f1.bytes (p / 8))) :=
    Hpost.out.cell_at (by rw [List.getElem?_append_left (by simpa using hp),List.getElem?_eq_getElem (by simpa using hp),ic_nth])
   have f1' := Hpost.out.free (p / 8)
   have hal := Hpost.out.lt
   have hi50 : (i : Int) ≤ 50 := by omega
   clear hbd
   go_wp2_with fail
   have HF3 : Hid (Fr [a] w (w1.setCell ⟨a,p / 8,none⟩ (.int .u8 (or8 (nth f1.bytes (p / 8)) q)))) := HF2.out.setCell _ _ (by simp)
   have HFl3 : Hid (FltAt (w1.setCell ⟨a,p / 8,none⟩ (.int .u8 (or8 (nth f1.bytes (p / 8)) q))) g m a cap st { f with bytes := addN f l (i + 1) } flag) := by
    have e : addN f l (i + 1) = f1.bytes.set (p / 8) (or8 (nth f1.bytes (p / 8)) q) := by
     rw [addN,← Hbi.out,← Hx.out,Int.toNat_natCast,setB,← Hq.out,Hf1.out]
    have hl2 : (addN f l (i + 1)).length = f1.bytes.length := by rw [addN_length,Hfb.out]
    refine ⟨HFl2.out.top.set_ne _ _ Hga.out, ?_,⟨post, ?_⟩, ?_,HFl2.out.cap2⟩
    ·have := HFl2.out.msg.set_ne ⟨a,p / 8,none⟩ (.int .u8 (or8 (nth f1.bytes (p / 8)) q)) Hma.out
     show Blk _ _ _ [.slice (some ⟨a,0,none⟩) (addN f l (i + 1)).length cap,_,_,_]
     rw [hl2]
     rw [Hf1.out] at this ⊢
     exact this
    ·show Blk _ _ _ (ic .u8 (addN f l (i + 1)) ++ post)
     have := Hpost.out.set (p / 8) (.int .u8 (or8 (nth f1.bytes (p / 8)) q))
     rw [List.set_append_left _ _ (by simpa using hp),ic_set] at this
     rw [e]; exact this
    ·show (addN f l (i + 1)).length ≤ cap
     rw [hl2]; exact HFl2.out.cap1
   generalize World.setCell w1 _ _ = w2 at HF3 HFl3 ⊢
   go_wp2_with fail
   go_roundg (f.funcs.toNat - (i + 1))
   case measure => omega
   case rel => exact ⟨i + 1,rfl,by omega,by simp,HFl3.out,HF3.out⟩
  ·have hif : i = f.funcs.toNat := by omega
   have HT : Hid (FltAt wr g m a cap st (bAdd f l) flag) := by
    have := HFl1.out
    rw [Hf1.out,hif] at this
    exact this
   clear hif
   go_wp2_with fail
   go_end0
   exact ⟨rfl,HF.out,HT.out⟩
section
/-- The buffer begins with q. -/
structure WSt2 (K : List Int) (w : World) (g bf : Nat) (msg q : List Int) : Prop where
 st : WSt K w g bf msg
 front : ∃ x,x.length = 8 ∧ x.take q.length = q ∧ Blk w bf 5 (ic .u8 x)
section
variable {K : List Int} {w w' : World} {g bf : Nat} {msg q : List Int}
theorem WSt2.fr {S : List Nat} (h : WSt2 K w g bf msg q) (hf : Fr S w w') (h1 : 1 ∉ S) (hg : g ∉ S) (hb : bf ∉ S) : WSt2 K w' g bf msg q := by
 obtain ⟨y,hy1,hy2,hy⟩ := h.front
 exact ⟨h.st.fr hf h1 hg hb,y,hy1,hy2,hy.fr hf hb⟩
theorem WSt2.grow (h : WSt2 K w g bf msg q) (hf : Fr [] w w') : WSt2 K w' g bf msg q := h.fr hf (by simp) (by simp) (by simp)
theorem splice_front (x ys : List Int) (h : ys.length ≤ x.length) : (splice x 0 ys).take ys.length = ys ∧ (splice x 0 ys).length = x.length := by
 constructor
 ·simp [splice]
 ·simp [splice]; omega
theorem put4_c (h : WSt K w g bf msg) (v : Int) (n : Nat) (hn : 4 ≤ n := by decide) : Calls Tryz.prog 143 #[.agg #[],.slice (some ⟨bf,0,none⟩) n 8,.int .u32 v] w fun e w' => e = .returned (.tuple #[]) ∧ Fr [bf] w w' ∧ WSt2 K w' g bf msg (le 4 v) := by
 obtain ⟨x,hx,hb⟩ := h.buf
 refine (pl32_c w bf 0 n 8 5 x v hb (by omega) hn).mono ?_
 rintro e w' ⟨rfl,hf,hb'⟩
 have hs := splice_front x (le 4 v) (by rw [le_length]; omega)
 exact ⟨rfl,hf,h.put hf (by rw [hs.2,hx]) hb',_,by rw [hs.2,hx],hs.1,hb'⟩
theorem put8_c (h : WSt K w g bf msg) (v : Int) (n : Nat) (hn : 8 ≤ n := by decide) : Calls Tryz.prog 194 #[.agg #[],.slice (some ⟨bf,0,none⟩) n 8,.int .u64 v] w fun e w' => e = .returned (.tuple #[]) ∧ Fr [bf] w w' ∧ WSt2 K w' g bf msg (le 8 v) := by
 obtain ⟨x,hx,hb⟩ := h.buf
 refine (pl64_c w bf 0 n 8 5 x v hb (by omega) hn).mono ?_
 rintro e w' ⟨rfl,hf,hb'⟩
 have hs := splice_front x (le 8 v) (by rw [le_length]; omega)
 exact ⟨rfl,hf,h.put hf (by rw [hs.2,hx]) hb',_,by rw [hs.2,hx],hs.1,hb'⟩
theorem wrW_c (h : WSt2 K w g bf msg q) (hlen : q.length ≤ 8 ∧ msg.length ≤ 100000000) :
  Calls Tryz.prog 304 #[.pointer (some ⟨g,0,none⟩),.slice (some ⟨bf,0,none⟩) q.length 8] w fun e w' => e = .returned (.tuple #[.int .i64 (q.length : Int),.nilIface]) ∧ Fr [g] w w' ∧ WSt K w' g bf (msg ++ q) := by
 obtain ⟨y,hy1,hy2,hy⟩ := h.front
 have hp := buf_bytes (n := q.length) (cap := 8) (o := 0) hy (by omega) (by omega) (by decide)
 rw [List.drop_zero,hy2] at hp
 have hne := h.st.ne
 exact wr_c h.st q _ hp (by intro b off n cap e _; cases e; exact hne) (by omega)
end
end
section
set_option maxRecDepth 8000
def opB (p : OutP) : List Int := p.hash ++ le 4 p.idx
theorem opB_length {p : OutP} (hp : p.Ok) : (opB p).length = 36 := by simp [opB,hp.len,le_length]
theorem opB_u8 {p : OutP} (hp : p.Ok) : U8 (opB p) := by
 intro x hx; rcases List.mem_append.mp hx with h | h
 ·exact hp.u8 x h
 ·exact le_u8 _ _ x h
theorem opB_splice {p : OutP} (hp : p.Ok) {z : List Int} (hz : z.length = 36) : splice (splice z 0 p.hash) 32 (le 4 p.idx) = opB p := by
 have h1 := hp.len
 have h2 := le_length 4 p.idx
 unfold splice opB
 simp [h1,h2,hz]
theorem ic_splice (x : List Int) (o : Nat) (y : List Int) : splice (ic .u8 x) o (ic .u8 y) = ic .u8 (splice x o y) := by simp [splice,ic]
theorem buf_bytes' {w : World} {b : Nat} {T : TypeId} {x : List Int} (h : Blk w b T (ic .u8 x)) (hx : x.length = 36) : Bytes w (.slice (some ⟨b,0,none⟩) 36 36) x := by
 rw [← hx]
 exact ints_mk (by simp) (Nat.le_refl _) (by rw [hx]; decide) h.lt (fun i hi => by rw [h.int _ (by omega),Nat.zero_add])
theorem matchO_c (w : World) (g m a cap : Nat) (st : Int) (f : Blm) (flag : Int) (hF : FltAt w g m a cap st f flag) (h o : Nat) (p : OutP) (hp : p.Ok) (hh : w.rangeAt h o p.cells) (hlt : h < w.heap.size) (h1 : 1 ≤ f.bytes.length) (h2 : f.bytes.length ≤ 1000000) (h3 : 1 ≤ f.funcs) (h4 : f.funcs ≤ 50) (hb : U8 f.bytes) :
  Calls Tryz.prog 110 #[.pointer (some ⟨g,0,none⟩),.pointer (some ⟨h,o,none⟩)] w fun e w' => e = .returned (.bool (bHas f (opB p))) ∧ Fr [] w w' := by
 obtain ⟨z,hz⟩ : ∃ z : List Int,z = List.replicate 36 0 := ⟨_,rfl⟩
 have HZl : Hid (z.length = 36) := by rw [hz]; exact List.length_replicate
 have HFl := hid hF; clear hF
 have HH := hid hh; clear hh
 have HP := hid hp; clear hp
 have Hlt := hid hlt; clear hlt
 have Hc := hid (And.intro h1 (And.intro h2 (And.intro h3 (And.intro h4 hb)))); clear h1 h2 h3 h4 hb
 go_enter Tryz.func110,Tryz.ntmps110
 go_wp2_with fail
 have HF1 : Hid (Fr [] w (w.alloc (.cells (ic .u8 z).toArray 317))) := (Fr.refl _ _).alloc _
 have HB1 : Hid (Blk (w.alloc (.cells (ic .u8 z).toArray 317)) w.heap.size 317 (ic .u8 z)) := Blk.new _ _ _
 change Code.wp _ _ _ _ (w.alloc (.cells (ic .u8 (List.replicate 36 0)).toArray 317))
 rw [← hz]
 generalize World.alloc w _ = w1 at HF1 HB1 ⊢
 clear hz
 obtain ⟨b,hbv⟩ : ∃ b,b = w.heap.size := ⟨_,rfl⟩
 rw [← hbv] at HB1 ⊢
 have HBw : Hid (w.heap.size ≤ b) := by show _ ≤ _; omega
 clear hbv
 refine qtail 5 (by kernel_rfl) (by kernel_rfl) ?_
 simp only [List.take_succ_cons,List.take_zero,List.drop_succ_cons,List.drop_zero]
 repeat (go_big_quiet_step (fail))
 refine wpQuiet_nil ?_
 have HR1 : Hid (w1.drew.rangeAt h o p.cells) := rangeAt_fr HH.out HF1.out.drew Hlt.out
 refine wpList_copy_blk rfl (.tmp 6) (.tmp 10) 29 29 rfl 5 rfl rfl (some ⟨b,0,none⟩) (some ⟨h,o,none⟩) 36 36 32 32 rfl rfl b 0 (ic .u8 z) 317 HB1.out.drew (ic .u8 p.hash) (by rw [ic_length,HP.out.len]; rfl) (fun _ => ⟨rfl,_,rfl, ?_⟩) (by rw [ic_length,ic_length,HP.out.len,HZl.out]; omega) (ic_one _ _) [b] w1.drew (Fr.refl _ _) (by simp) ?_
 ·intro j v hj
  have := HR1.out j v (by rw [OutP.cells,List.getElem?_append_left (List.getElem?_eq_some_iff.mp hj).1]; exact hj)
  rw [Addr.add_mid]; exact this
 intro w2 HB2 HF2
 have HF3 : Hid (Fr [] w w2) := HF1.out.drew.andThen HF2.out (by intro k hk; simp at hk; subst hk; exact .inr HBw.out)
 have HB3 : Hid (Blk w2 b 317 (ic .u8 (splice z 0 p.hash))) := by rw [← ic_splice]; exact HB2.out
 clear HB2 HF2 HB1 HF1 HR1
 have c32 : w2.cell? ⟨h,o + 32,none⟩ = some (.int .u32 p.idx) := rangeAt_fr HH.out HF3.out Hlt.out 32 _ (by simp [OutP.cells,HP.out.len])
 generalize goInt (ic .u8 p.hash).length = V10
 simp only [Act.put,nA,nB,nC]
 refine wpList_nil ?_
 simp only [Exit.then]
 go_wp2_with fail
 refine qtail 6 (by kernel_rfl) (by kernel_rfl) ?_
 simp only [List.take_succ_cons,List.take_zero,List.drop_succ_cons,List.drop_zero]
 repeat (go_big_quiet_step (fail))
 refine wpQuiet_nil ?_
 clear c32
 go_wp2_with fail
 refine (pl32_c _ b 32 4 4 317 (splice z 0 p.hash) p.idx HB3.out.drew (by simp [splice,HP.out.len,HZl.out]) (by omega)).mono ?_
 rintro e w3 ⟨rfl,hf,hB⟩
 rw [opB_splice HP.out HZl.out] at hB
 have HF4 : Hid (Fr [] w w3) := HF3.out.drew.andThen hf (by intro k hk; simp at hk; subst hk; exact .inr HBw.out)
 have HB4 := hid hB
 clear hf hB HB3 HF3
 have HFl4 : Hid (FltAt w3 g m a cap st f flag) := HFl.out.grow HF4.out
 go_wp2_with fail
 refine (matches_c w3 g m a cap st f flag HFl4.out _ (opB p) (buf_bytes' HB4.out (opB_length HP.out)) (opB_u8 HP.out) (by rw [opB_length HP.out]; omega) Hc.out.1 Hc.out.2.1 Hc.out.2.2.1 Hc.out.2.2.2.1 Hc.out.2.2.2.2).mono ?_
 rintro e w4 ⟨rfl,hf⟩
 have HF5 : Hid (Fr [] w w4) := HF4.out.trans hf
 clear hf
 go_wp2_with fail
 go_ret
 exact ⟨rfl,HF5.out⟩
theorem addO_c (w : World) (g m a cap : Nat) (st : Int) (f : Blm) (flag : Int) (hF : FltAt w g m a cap st f flag) (h o : Nat) (p : OutP) (hp : p.Ok) (hh : w.rangeAt h o p.cells) (hlt : h < w.heap.size) (h1 : 1 ≤ f.bytes.length) (h2 : f.bytes.length ≤ 1000000) (h3 : 1 ≤ f.funcs) (h4 : f.funcs ≤ 50) (hb : U8 f.bytes) :
  Calls Tryz.prog 141 #[.pointer (some ⟨g,0,none⟩),.pointer (some ⟨h,o,none⟩)] w fun e w' => e = .returned (.tuple #[]) ∧ Fr [a] w w' ∧ FltAt w' g m a cap st (bAdd f (opB p)) flag := by
 obtain ⟨z,hz⟩ : ∃ z : List Int,z = List.replicate 36 0 := ⟨_,rfl⟩
 have HZl : Hid (z.length = 36) := by rw [hz]; exact List.length_replicate
 have HFl := hid hF; clear hF
 have HH := hid hh; clear hh
 have HP := hid hp; clear hp
 have Hlt := hid hlt; clear hlt
 have Hc := hid (And.intro h1 (And.intro h2 (And.intro h3 (And.intro h4 hb)))); clear h1 h2 h3 h4 hb
 go_enter Tryz.func141,Tryz.ntmps141
 go_wp2_with fail
 have HF1 : Hid (Fr [] w (w.alloc (.cells (ic .u8 z).toArray 317))) := (Fr.refl _ _).alloc _
 have HB1 : Hid (Blk (w.alloc (.cells (ic .u8 z).toArray 317)) w.heap.size 317 (ic .u8 z)) := Blk.new _ _ _
 change Code.wp _ _ _ _ (w.alloc (.cells (ic .u8 (List.replicate 36 0)).toArray 317))
 rw [← hz]
 generalize World.alloc w _ = w1 at HF1 HB1 ⊢
 clear hz
 obtain ⟨b,hbv⟩ : ∃ b,b = w.heap.size := ⟨_,rfl⟩
 rw [← hbv] at HB1 ⊢
 have HBw : Hid (w.heap.size ≤ b) := by show _ ≤ _; omega
 clear hbv
 refine qtail 5 (by kernel_rfl) (by kernel_rfl) ?_
 simp only [List.take_succ_cons,List.take_zero,List.drop_succ_cons,List.drop_zero]
 repeat (go_big_quiet_step (fail))
 refine wpQuiet_nil ?_
 have HR1 : Hid (w1.drew.rangeAt h o p.cells) := rangeAt_fr HH.out HF1.out.drew Hlt.out
 refine wpList_copy_blk rfl (.tmp 5) (.tmp 9) 29 29 rfl 5 rfl rfl (some ⟨b,0,none⟩) (some ⟨h,o,none⟩) 36 36 32 32 rfl rfl b 0 (ic .u8 z) 317 HB1.out.drew (ic .u8 p.hash) (by rw [ic_length,HP.out.len]; rfl) (fun _ => ⟨rfl,_,rfl, ?_⟩) (by rw [ic_length,ic_length,HP.out.len,HZl.out]; omega) (ic_one _ _) [b] w1.drew (Fr.refl _ _) (by simp) ?_
 ·intro j v hj
  have := HR1.out j v (by rw [OutP.cells,List.getElem?_append_left (List.getElem?_eq_some_iff.mp hj).1]; exact hj)
  rw [Addr.add_mid]; exact this
 intro w2 HB2 HF2
 have HF3 : Hid (Fr [] w w2) := HF1.out.drew.andThen HF2.out (by intro k hk; simp at hk; subst hk; exact .inr HBw.out)
 have HB3 : Hid (Blk w2 b 317 (ic .u8 (splice z 0 p.hash))) := by rw [← ic_splice]; exact HB2.out
 clear HB2 HF2 HB1 HF1 HR1
 have c32 : w2.cell? ⟨h,o + 32,none⟩ = some (.int .u32 p.idx) := rangeAt_fr HH.out HF3.out Hlt.out 32 _ (by simp [OutP.cells,HP.out.len])
 generalize goInt (ic .u8 p.hash).length = V10
 simp only [Act.put,nA,nB,nC]
 refine wpList_nil ?_
 simp only [Exit.then]
 go_wp2_with fail
 refine qtail 6 (by kernel_rfl) (by kernel_rfl) ?_
 simp only [List.take_succ_cons,List.take_zero,List.drop_succ_cons,List.drop_zero]
 repeat (go_big_quiet_step (fail))
 refine wpQuiet_nil ?_
 clear c32
 go_wp2_with fail
 refine (pl32_c _ b 32 4 4 317 (splice z 0 p.hash) p.idx HB3.out.drew (by simp [splice,HP.out.len,HZl.out]) (by omega)).mono ?_
 rintro e w3 ⟨rfl,hf,hB⟩
 rw [opB_splice HP.out HZl.out] at hB
 have HF4 : Hid (Fr [] w w3) := HF3.out.drew.andThen hf (by intro k hk; simp at hk; subst hk; exact .inr HBw.out)
 have HB4 := hid hB
 clear hf hB HB3 HF3
 have HFl4 : Hid (FltAt w3 g m a cap st f flag) := HFl.out.grow HF4.out
 go_wp2_with fail
 have HBa : Hid (b ≠ a) := by obtain ⟨post,hpost⟩ := HFl.out.arr; have h1 := hpost.lt; have h2 := HBw.out; show b ≠ a; omega
 refine (add_c w3 g m a cap st f flag HFl4.out _ (opB p) (fun w' hf => buf_bytes' (HB4.out.fr hf (by simpa using HBa.out)) (opB_length HP.out)) (opB_u8 HP.out) (by rw [opB_length HP.out]; omega) Hc.out.1 Hc.out.2.1 Hc.out.2.2.1 Hc.out.2.2.2.1 Hc.out.2.2.2.2).mono ?_
 rintro e w4 ⟨rfl,hf,hfl⟩
 have HF5 : Hid (Fr [a] w w4) := (HF4.out.mono (by simp)).trans hf
 have HFl5 := hid hfl
 clear hf hfl
 go_wp2_with fail
 go_end0
 exact ⟨rfl,HF5.out,HFl5.out⟩
end
theorem Fr.belowB {S : List Nat} {w w' : World} {B : Nat} (h : Fr S w w') (hB : B ≤ w.heap.size) (hS : ∀ k ∈ S,B ≤ k) : Below B w w' := h.to_below hB hS
set_option maxRecDepth 8000 in
theorem outpointW_c (K : List Int) (w : World) (B g bf : Nat) (hBg : B ≤ g) (hBb : B ≤ bf) (msg : List Int) (h : WSt K w g bf msg) (pv vr : Int) (D : Nat) (T : TypeId) (p : OutP) (hp : p.Ok) (r : List Value) (hD : Blk w D T (p.cells ++ r)) (hDB : D < B) (hm : msg.length ≤ 50000000) :
  Calls Tryz.prog 195 #[.iface 296 (.pointer (some ⟨g,0,none⟩)),.int .u32 pv,.int .i32 vr,.pointer (some ⟨D,0,none⟩),.slice (some ⟨bf,0,none⟩) 8 8] w fun e w' => e = .returned .nilIface ∧ Fr [g,bf] w w' ∧ WSt K w' g bf (msg ++ (p.hash ++ le 4 p.idx)) := by
 have Hw := hid h; clear h
 have Hm := hid hm; clear hm
 have hah := write_ahead g
 have hDg : D ≠ g := by omega
 have hDb : D ≠ bf := by omega
 have HDg := hid hDg; clear hDg
 have HDb := hid hDb; clear hDb
 have HD := hid hD; clear hD
 have Hp := hid hp; clear hp
 go_enter Tryz.func195,Tryz.ntmps195
 go_upto_region 1 with fail
 refine seg_begin (fun w' => Fr [g,bf] w w') (by kernel_rfl) ?_
 refine seg_quiet (fuel := 6) (by kernel_rfl) (fun d _ _ _ _ h => by cases d <;> exact h) ((Fr.refl _ _).drew) [0,1,2,3,4,5,6,7] _ _ (by kernel_rfl) ?_
 simp only [pickL,nthO]
 iterate 8 go_big_quiet_step (((intro hw; first | with_reducible rfl | rfl | (simp [Result.andThen]; done) | (simp [Result.andThen]; rfl))))
 refine wpQuiet_nil ?_
 refine seg_act 8 rfl rfl (by kernel_rfl) ?_
 go_wp2_with fail
 have HP1 : Hid (Bytes w.drew (.slice (some ⟨D,0,none⟩) 32 32) p.hash) := by
  have hl := Hp.out.len
  have := ints_mk (k := .u8) (w := w.drew) (b := D) (off := 0) (n := 32) (cap := 32) (p := p.hash) hl.symm (by decide) (by decide) HD.out.lt (fun i hi => by
   rw [Nat.zero_add]
   exact HD.out.cell_at (by rw [OutP.cells,List.append_assoc,List.getElem?_append_left (by simpa using hi),List.getElem?_eq_getElem (by simpa using hi),ic_nth]))
  exact this
 refine (wr_c (Hw.out.grow (Fr.refl _ _).drew) p.hash _ HP1.out (by intro b off n cap e _; cases e; exact HDg.out) (by have := Hm.out; have := Hp.out.len; omega)).mono ?_
 rintro e w1 ⟨rfl,hf,hb⟩
 have HFw1 : Hid (Fr [g,bf] w w1) := (Fr.refl _ _).drew.trans (hf.mono (by simp))
 have Hw1 := hid hb
 clear hf hb
 go_wp2_with fail
 refine ⟨HFw1.out,fun _ => ?_⟩
 refine seg_quiet (fuel := 0) (by kernel_rfl) (fun d _ _ _ _ h => by cases d <;> exact h) HFw1.out [9,10,11,12,13] _ _ (by kernel_rfl) ?_
 simp only [pickL,nthO]
 iterate 5 go_big_quiet_step (((intro hw; first | with_reducible rfl | rfl | (simp [Result.andThen]; done) | (simp [Result.andThen]; rfl))))
 refine wpQuiet_nil ?_
 refine seg_end (by kernel_rfl) ?_
 have HD1 : Hid (Blk w1 D T (p.cells ++ r)) := HD.out.fr HFw1.out (by simp; exact ⟨HDg.out,HDb.out⟩)
 have hD1 := HD1.out.lt
 have cI : ∀ w',Fr [g,bf] w1 w' → w'.cell? ⟨D,32,none⟩ = some (.int .u32 p.idx) := fun w' hf => (HD1.out.fr hf (by simp; exact ⟨HDg.out,HDb.out⟩)).cell_at (by rw [OutP.cells,List.append_assoc,List.getElem?_append_right (by simp [Hp.out.len])]; simp [Hp.out.len])
 have HcI := hid cI; clear cI
 go_upto_region 4 with fail
 refine seg_begin (fun w' => Fr [g,bf] w1 w') (by kernel_rfl) ?_
 refine seg_quiet (fuel := 1) (by kernel_rfl) (fun d _ _ _ _ h => by cases d <;> exact h) ((Fr.refl _ _).drew) [0,1,2,3,4,5,6] _ _ (by kernel_rfl) ?_
 simp only [pickL,nthO]
 refine wpQuiet_load rfl 318 (.global 0) rfl _ 0 rfl [] _ (fun w' hf j v h => by simp at h) rfl rfl (by kernel_rfl) ?_
 simp only [Act.put,nA,nB,nC]
 refine wpQuiet_rfl (.slice (some ⟨bf,0,none⟩) 8 8) rfl (fun _ => rfl) ?_
 simp only [Act.put,nA,nB,nC]
 refine wpQuiet_slcK_h (hi := 4) rfl 29 (.tmp 29) _ rfl 5 (by kernel_rfl) (by kernel_rfl) bf 0 8 8 .i64 rfl rfl (by decide) (by decide) ?_
 simp only [Act.put,nA,nB,nC]
 iterate 4 go_big_quiet_step (((intro hw; first | with_reducible rfl | rfl | (simp [HcI.out _ hw,Result.andThen]; done) | (simp [HcI.out _ hw,Result.andThen]; rfl))))
 refine wpQuiet_nil ?_
 refine seg_act 7 rfl rfl (by kernel_rfl) ?_
 go_wp2_with fail
 refine (put4_c (Hw1.out.grow (Fr.refl _ _).drew) p.idx 4).mono ?_
 rintro e w' ⟨rfl,hf,hb⟩
 have HFw2 : Hid (Fr [g,bf] w1 w') := (Fr.refl _ _).drew.trans (hf.mono (by simp))
 have Hw2 := hid hb
 clear hf hb
 obtain ⟨w2,hw2⟩ : ∃ w2,w2 = w' := ⟨_,rfl⟩
 rw [← hw2] at HFw2 Hw2 ⊢
 clear hw2
 go_wp2_with fail
 refine ⟨HFw2.out,fun _ => ?_⟩
 refine seg_end (by kernel_rfl) ?_
 go_upto_region 5 with fail
 refine seg_begin (fun w' => Fr [g,bf] w2 w') (by kernel_rfl) ?_
 refine seg_quiet (fuel := 5) (by kernel_rfl) (fun d _ _ _ _ h => by cases d <;> exact h) ((Fr.refl _ _).drew) [0,1,2,3,4,5] _ _ (by kernel_rfl) ?_
 simp only [pickL,nthO]
 refine wpQuiet_rfl (.iface 296 (.pointer (some ⟨g,0,none⟩))) rfl (fun _ => rfl) ?_
 simp only [Act.put,nA,nB,nC]
 refine wpQuiet_rfl (.slice (some ⟨bf,0,none⟩) 8 8) rfl (fun _ => rfl) ?_
 simp only [Act.put,nA,nB,nC]
 refine wpQuiet_slcK_h (hi := 4) rfl 29 (.tmp 38) _ rfl 5 (by kernel_rfl) (by kernel_rfl) bf 0 8 8 .i64 rfl rfl (by decide) (by decide) ?_
 simp only [Act.put,nA,nB,nC]
 iterate 2 go_big_quiet_step (((intro hw; first | with_reducible rfl | rfl | (simp [Result.andThen]; done) | (simp [Result.andThen]; rfl))))
 refine wpQuiet_rfl (.iface 296 (.pointer (some ⟨g,0,none⟩))) rfl (fun _ => rfl) ?_
 simp only [Act.put,nA,nB,nC]
 refine wpQuiet_nil ?_
 refine seg_act 6 rfl rfl (by kernel_rfl) ?_
 go_wp2_with fail
 refine (wrW_c (Hw2.out.grow (Fr.refl _ _).drew) (q := le 4 p.idx) (by rw [le_length]; have := Hm.out; have := Hp.out.len; simp; omega)).mono ?_
 rintro e w' ⟨rfl,hf,hb⟩
 have HFw3 : Hid (Fr [g,bf] w2 w') := (Fr.refl _ _).drew.trans (hf.mono (by simp))
 have Hw3 := hid hb
 clear hf hb
 obtain ⟨w3,hw3⟩ : ∃ w3,w3 = w' := ⟨_,rfl⟩
 rw [← hw3] at HFw3 Hw3 ⊢
 clear hw3
 go_wp2_with fail
 refine ⟨HFw3.out,fun _ => ?_⟩
 refine seg_quiet (fuel := 0) (by kernel_rfl) (fun d _ _ _ _ h => by cases d <;> exact h) HFw3.out [7,8,9,10] _ _ (by kernel_rfl) ?_
 simp only [pickL,nthO]
 iterate 4 go_big_quiet_step (((intro hw; first | with_reducible rfl | rfl | (simp [Result.andThen]; done) | (simp [Result.andThen]; rfl))))
 refine wpQuiet_nil ?_
 refine seg_end (by kernel_rfl) ?_
 go_wp2_with fail
 go_ret
 refine ⟨rfl,(HFw1.out.trans HFw2.out).trans HFw3.out, ?_⟩
 rw [← List.append_assoc]; exact Hw3.out
end Go.Proofs.YtdllckiidegpcaaGreat
