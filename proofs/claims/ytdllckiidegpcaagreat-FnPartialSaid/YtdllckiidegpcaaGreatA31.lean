/- A part of the walk of laws.FnPartial (part 31): contracts of functions that it comes to, and the plain laws that these lean on. Conditions stand in each contract. -/
import Derived.Test.YtdllckiidegpcaaGreatA30
set_option linter.unusedSimpArgs false
set_option linter.unusedVariables false
set_option maxHeartbeats 4000000
namespace Go.Proofs.YtdllckiidegpcaaGreat
open Go.RowKit
section
set_option maxRecDepth 8000
theorem any_of_take {α : Type} {f : α → Bool} {l : List α} {j : Nat} {x : α} {r : Bool} (h : (l.take (j + 1)).any f = (r || f x)) (hx : f x = true) : l.any f = true := by
 rw [hx,Bool.or_true] at h
 obtain ⟨y,hy,hf⟩ := List.any_eq_true.mp h
 exact List.any_eq_true.mpr ⟨y,List.mem_of_mem_take hy,hf⟩
set_option maxHeartbeats 4000000 in
theorem matchTx_c (K : List Int) (hK : K.length = 64) (t : Tx) (g m a cap : Nat) (st flag : Int) (gt mB : Nat) (idx : Int) (f : Blm) (w : World) (hS : MxS K t g m a cap st flag gt mB idx f w w) (B : Nat) (hBw : B ≤ w.heap.size) (hKc : Blk w 1 379 (ic .u32 K)) (d : List Value) (ht : t.Ok) (hs : t.Small) (hD : Blk w mB 227 d) (hE : MsgTxT B w d t) (hDB : mB < B) (hlen : (txB t).length ≤ 5000000)
  (hBa : B ≤ a) (hBg : B ≤ gt) (hK1 : 1 < B) (hfg : FGood f) (hfl : 0 ≤ flag ∧ flag ≤ 2) :
  Calls Tryz.prog 75 #[.pointer (some ⟨g,0,none⟩),.pointer (some ⟨gt,0,none⟩)] w fun e w' => e = .returned (.bool (mTx K flag f t).1) ∧ MxS K t g m a cap st flag gt mB idx (mTx K flag f t).2 w w' := by
 obtain ⟨iv,ov,rfl,hi,ho⟩ := hE
 obtain ⟨ai,ci,rfl,hi1,hi2⟩ := (hi.listB (fun _ _ h => h)).len
 obtain ⟨ao,co,rfl,ho1,ho2⟩ := (ho.listB (fun _ _ h => h)).len
 clear hi1 hi2 ho1 ho2
 have HH : Hid (∀ (f : Blm) (w' : World),MxS K t g m a cap st flag gt mB idx f w w' → Calls Tryz.prog 39 #[.pointer (some ⟨gt,0,none⟩)] w' fun e w'' => ∃ P,e = .returned (.pointer (some ⟨P,0,none⟩)) ∧ Fr [gt] w' w'' ∧ MxS K t g m a cap st flag gt mB idx f w w'' ∧ Blk w'' P 81 (ic .u8 (txH K t))) :=
  fun f w' h => h.hash hK hBw hKc _ ht hs hD ⟨_,_,rfl,hi,ho⟩ hDB hlen hBa hBg hK1
 have HBel : Hid (∀ (f : Blm) (w' : World),MxS K t g m a cap st flag gt mB idx f w w' → Below B w w') := fun f w' h => h.fr.to_below hBw (by intro k hk; simp at hk; rcases hk with rfl | rfl <;> assumption)
 have HDw : Hid (∀ (f : Blm) (w' : World),MxS K t g m a cap st flag gt mB idx f w w' → Blk w' mB 227 [.int .i32 t.version,.slice ai t.ins.length ci,.slice ao t.outs.length co,.int .u32 t.lock]) := fun f w' h => hD.fr h.fr (by simp; omega)
 have HI := hid hi; clear hi
 have HO := hid ho; clear ho
 have Ht := hid ht; clear ht
 have Hs := hid hs; clear hs
 have HS := hid hS; clear hS
 have Hg := hid hfg; clear hfg
 have Hfl := hid hfl; clear hfl
 clear hlen hD hKc hDB hK1 hK
 have HBa := hid (And.intro hBa hBg); clear hBa hBg
 have HU : Hid (U8 (txH K t)) := H2_u8 _ _
 have HL : Hid ((txH K t).length = 32) := H2_length _ _
 have ho6 : (t.outs.length : Int) ≤ 1000000 := by have := Hs.out.outs; omega
 have hi6 : (t.ins.length : Int) ≤ 1000000 := by have := Hs.out.ins; omega
 obtain ⟨R,hR⟩ : ∃ R,R = mTx K flag f t := ⟨_,rfl⟩
 rw [← hR]
 have HR := hid hR; clear hR
 go_enter Tryz.func75,Tryz.ntmps75
 go_wp2_with fail
 refine (HH.out f w HS.out).mono ?_
 rintro e w1 ⟨P,rfl,hf,hS1,hP⟩
 have HS1 := hid hS1
 have HP := hid hP
 have hPl := hP.lt
 clear hf hS1 hP HS
 go_wp2_with fail
 refine (matches_c w1 g m a cap st f flag HS1.out.flt _ (txH K t) (arr_bytes HP.out HL.out (by decide)) HU.out (by rw [HL.out]; omega) Hg.out.1 Hg.out.2.1 Hg.out.2.2.1 Hg.out.2.2.2.1 Hg.out.2.2.2.2).mono ?_
 rintro e w2 ⟨rfl,hf⟩
 have HS2 : Hid (MxS K t g m a cap st flag gt mB idx f w w2) := HS1.out.grow hf
 clear hf HS1 HP hPl
 obtain ⟨b0,hb0⟩ : ∃ b0,b0 = bHas f (txH K t) := ⟨_,rfl⟩
 rw [← hb0]
 have HM : Hid (mTx K flag f t = ((outsTo flag (txH K t) t.outs (b0,f) t.outs.length).1 || t.ins.any (inHit (outsTo flag (txH K t) t.outs (b0,f) t.outs.length).2),(outsTo flag (txH K t) t.outs (b0,f) t.outs.length).2)) := by show _ = _; rw [hb0]; rfl
 rw [← HR.out] at HM
 clear hb0
 go_wp2_with fail
 obtain ⟨hp2,hg2,hhp2⟩ := HS2.out.tx
 refine (msgTx_c w2 gt mB hp2 idx hg2).mono ?_
 clear hg2 hhp2
 rintro e w' ⟨rfl,rfl⟩
 have hD2 := HDw.out f w2 HS2.out
 have c2 : w2.cell? ⟨mB,2,none⟩ = some (.slice ao t.outs.length co) := hD2.cell_at rfl
 have hm2 := hD2.lt
 clear hD2
 obtain ⟨O,hO⟩ : ∃ O,O = outsTo flag (txH K t) t.outs (b0,f) := ⟨_,rfl⟩
 rw [← hO] at HM
 have HO0 : Hid (O 0 = (b0,f)) := by rw [hO]; rfl
 have HOs : Hid (∀ i (h : i < t.outs.length),O (i + 1) = outStep flag (txH K t) i t.outs[i] (O i)) := by rw [hO]; exact fun i h => outsTo_succ h
 have HOg : Hid (∀ i,FGood (O i).2) := by rw [hO]; exact fun i => outsTo_good Hg.out i
 clear hO
 go_wp2_with fail
 go_loopg [5,30] (t.outs.length) (fun gk v5 v30 wr => ∃ i,gk = t.outs.length - i ∧ i ≤ t.outs.length ∧ v30 = .int .i64 (i : Int) ∧ v5 = .bool (O i).1 ∧ MxS K t g m a cap st flag gt mB idx (O i).2 w wr)
 case atStart => exact ⟨0,rfl,Nat.zero_le _,rfl,by rw [HO0.out],by rw [HO0.out]; exact HS2.out⟩
 case round =>
  clear HS2 c2 hm2
  obtain ⟨i,rfl,hi,rfl,rfl,hS⟩ := hrel
  have HSi := hid hS; clear hS
  by_cases hlt : i < t.outs.length
  ·have hlti : (i : Int) < t.outs.length := by omega
   obtain ⟨b,off,cap',u,he,hbB,hrg,hE⟩ := HO.out.at' hlt
   simp only [Value.slice.injEq] at he
   obtain ⟨rfl,_,rfl⟩ := he
   obtain ⟨G,dg,hu,hG,hGb,hGE⟩ := hE
   simp only [List.cons.injEq,and_true] at hu
   subst hu
   have hBl := HBel.out _ wr HSi.out
   have e1 := hrg wr hBl
   obtain ⟨sv,rfl,hsv⟩ := hGE
   have hOi := HOs.out i hlt
   have hxU := (Ht.out.outs _ (List.getElem_mem hlt)).u8
   have hxL := Hs.out.oscript _ (List.getElem_mem hlt)
   generalize t.outs[i] = y at hOi hxU hxL hsv hGb
   obtain ⟨s,hss⟩ : ∃ s,s = y.script := ⟨_,rfl⟩
   rw [← hss] at hsv hxU hxL
   have Hss := hid hss
   have HsU := hid hxU
   have HsL := hid hxL
   clear hss hxU hxL
   obtain ⟨sa,sc,rfl,hq1,hq2⟩ := hsv.rdB.form
   clear hq1 hq2
   have HSV := hid hsv; clear hsv
   have hG2 := hGb.below hBl hG
   have HGb := hid hGb; clear hGb
   have HG := hid hG; clear hG
   have c1 : wr.cell? ⟨G,1,none⟩ = some (.slice sa s.length sc) := hG2.cell_at rfl
   have hGl := hG2.lt
   have Hlt := hid hlt
   clear hG2 hrg hbB
   have HBl := hid hBl; clear hBl
   obtain ⟨F,hF⟩ : ∃ F,F = (O i).2 := ⟨_,rfl⟩
   obtain ⟨q,hq⟩ : ∃ q,q = (O i).1 := ⟨_,rfl⟩
   have HO1 : O (i + 1) = outStep flag (txH K t) i y (q,F) := by rw [hq,hF]; exact hOi
   have HO1 := hid HO1; clear hOi
   have HFg : Hid (FGood F) := by rw [hF]; exact HOg.out i
   rw [← hF] at HSi
   rw [← hq]
   clear hF hq
   go_wp2_with fail
   have HBr : Hid (B ≤ wr.heap.size) := Nat.le_trans hBw HSi.out.fr.size
   refine (pushedData_c wr B HBr.out _ s (HSV.out.rdB.below HBl.out) HsU.out HsL.out).mono ?_
   rintro e w3 ⟨hf,hR⟩
   clear c1 hGl e1
   have HF3 := hid hf
   have HS3 : Hid (MxS K t g m a cap st flag gt mB idx F w w3) := HSi.out.grow hf
   clear hf HSi
   have hni : ∀ (t : TypeId) (v : Value) (w : World),(binOp .neq 127 (.iface t v) .nilIface).run Tryz.prog w = .ok (.bool true) w := fun _ _ _ => rfl
   have hnn : ∀ (w : World),(binOp .neq 127 .nilIface .nilIface).run Tryz.prog w = .ok (.bool false) w := fun _ => rfl
   rcases hR with ⟨htk,v,rfl,hl⟩ | ⟨htk,ti,x,rfl⟩
   ·obtain ⟨pa,pc,rfl,hp1,hp2⟩ := (hl.listB (fun _ _ h => h)).len
    obtain ⟨ps,hps⟩ : ∃ ps,ps = pushes s := ⟨_,rfl⟩
    have HPs : Hid (pushesW s = ps) := by show _ = _; rw [pushesW,if_pos htk,hps]
    have HPk : Hid (∀ d ∈ ps,U8 d ∧ d.length ≤ 1000000) := by rw [hps]; exact fun d hd => ⟨(pushes_ok HsU.out hd).1,Nat.le_trans (pushes_ok HsU.out hd).2 HsL.out⟩
    rw [← hps] at hl hp1 ⊢
    have hpl : (ps.length : Int) ≤ 9223372036854775807 := by have := Nat.le_trans hp1 hp2; unfold maxLen at this; omega
    clear hps hp1 hp2 htk
    have HPL := hid hl; clear hl
    go_wp2_with fail
    go_loopg [5,47] (ps.length) (fun gk v5 v47 wr2 => ∃ j,gk = ps.length - j ∧ j ≤ ps.length ∧ v47 = .int .i64 (j : Int) ∧ v5 = .bool q ∧ (ps.take j).any (bHas F) = false ∧ Fr [] w3 wr2)
    case atStart => exact ⟨0,rfl,Nat.zero_le _,rfl,rfl,rfl,Fr.refl _ _⟩
    case round =>
     obtain ⟨j,rfl,hj,rfl,rfl,hno,hf⟩ := hrel
     have HNo := hid hno
     have HFj := hid hf
     have HSj : Hid (MxS K t g m a cap st flag gt mB idx F w wr) := HS3.out.grow hf
     clear hno hf
     by_cases hjl : j < ps.length
     ·have hjli : (j : Int) < ps.length := by omega
      obtain ⟨b2,off2,cap2,u2,he,hb2,hrg2,hE2⟩ := HPL.out.at' hjl
      simp only [Value.slice.injEq] at he
      obtain ⟨rfl,_,rfl⟩ := he
      have hat := any_take (bHas F) ps j hjl
      have hpk := HPk.out _ (List.getElem_mem hjl)
      have e2 := hrg2 wr (HFj.out.below)
      generalize ps[j] = d at hat hpk hE2
      obtain ⟨dv,hdv,hd⟩ := hE2
      simp only [List.cons.injEq,and_true] at hdv
      subst hdv
      have HAt := hid hat; clear hat
      have HPd := hid hpk; clear hpk
      have HD := hid hd; clear hd
      obtain ⟨da,dc,rfl,hq1,hq2⟩ := HD.out.form
      clear hq1 hq2 hrg2 hb2
      go_wp2_with fail
      refine (matches_c wr g m a cap st F flag HSj.out.flt _ d ((HD.out.below (HFj.out.below.mono (Nat.le_trans hBw HS3.out.fr.size))).rd (Nat.le_trans hBw HSj.out.fr.size)) HPd.out.1 HPd.out.2 HFg.out.1 HFg.out.2.1 HFg.out.2.2.1 HFg.out.2.2.2.1 HFg.out.2.2.2.2).mono ?_
      rintro e w5 ⟨rfl,hf⟩
      have HF5 : Hid (Fr [] w3 w5) := HFj.out.trans hf
      have HS5 : Hid (MxS K t g m a cap st flag gt mB idx F w w5) := HSj.out.grow hf
      clear hf e2
      cases hb : bHas F d
      ·have HNo2 : Hid ((ps.take (j + 1)).any (bHas F) = false) := by show _ = _; rw [HAt.out,HNo.out,hb]; rfl
       clear hb
       go_wp2_with fail
       go_roundg (ps.length - (j + 1))
       case measure => omega
       case rel => exact ⟨j + 1,rfl,by omega,by simp,rfl,HNo2.out,HF5.out⟩
      ·have HT : Hid (O (i + 1) = (true,mayF flag s F ⟨txH K t,i⟩)) := by
        show _ = _
        have h0 : hitsB F y.script = true := by rw [← Hss.out,hitsB,HPs.out]; exact any_of_take HAt.out hb
        rw [HO1.out,outStep,if_pos h0,← Hss.out]
       clear hb
       have HcG : Hid (∀ w',Fr [a,gt] w5 w' → w'.cell? ⟨G,1,none⟩ = some (.slice sa s.length sc)) := fun w' hf => by
        have hb := HGb.out.fr (HS5.out.fr.trans hf) (by have h1 := HBa.out; have h2 := HG.out; simp; omega)
        exact hb.cell_at rfl
       have HcV : Hid (∀ w',Fr [a,gt] w5 w' → BytesB B w' (.slice sa s.length sc) s) := fun w' hf => HSV.out.rdB.below ((HS5.out.fr.trans hf).to_below hBw (by have h1 := HBa.out; intro k hk; simp at hk; rcases hk with rfl | rfl <;> omega))
       have hi9 : (i : Int) % 4294967296 = i := by omega
       go_wp2_with fail
       refine seg_begin (fun w' => Fr [a,gt] w5 w') (by kernel_rfl) ?_
       refine seg_quiet (fuel := 2) (by kernel_rfl) (fun d _ _ _ _ h => by cases d <;> exact h) ((Fr.refl _ _).drew) [0,1,2,3,4,5,7,8] _ _ (by kernel_rfl) ?_
       simp only [pickL,nthO]
       iterate 8 go_big_quiet_step (((intro hw; first | with_reducible rfl | rfl | (simp [HcG.out _ hw,Result.andThen]; done) | (simp [HcG.out _ hw,Result.andThen]; rfl))))
       refine wpQuiet_nil ?_
       refine seg_act 6 rfl rfl (by kernel_rfl) ?_
       go_wp2_with fail
       refine (HH.out F w5.drew (HS5.out.grow (Fr.refl _ _).drew)).mono ?_
       rintro e w6 ⟨P2,rfl,hf,hS6,hP2⟩
       have HF6 : Hid (Fr [a,gt] w5 w6) := ((Fr.refl _ _).drew).trans (hf.mono (by simp))
       have HS6 := hid hS6
       have HP2 := hid hP2
       clear hf hS6 hP2
       go_wp2_with fail
       refine ⟨HF6.out,fun _ => ?_⟩
       refine seg_act 9 rfl rfl (by kernel_rfl) ?_
       go_wp2_with fail
       refine (maybe_c w6 B (Nat.le_trans hBw HS6.out.fr.size) g m a cap st F flag HS6.out.flt Hfl.out _ s (HcV.out _ HF6.out) HsU.out HsL.out P2 0 ⟨txH K t,i⟩ ⟨HL.out,HU.out,by show (0:Int) ≤ (i:Int) ∧ (i:Int) < 4294967296; omega⟩ HP2.out.range HP2.out.lt HFg.out.1 HFg.out.2.1 HFg.out.2.2.1 HFg.out.2.2.2.1 HFg.out.2.2.2.2).mono ?_
       rintro e w7 ⟨rfl,hf,hfl⟩
       have HF7 : Hid (Fr [a,gt] w5 w7) := HF6.out.trans (hf.mono (by simp))
       have HS7 : Hid (MxS K t g m a cap st flag gt mB idx (mayF flag s F ⟨txH K t,i⟩) w w7) := HS6.out.add hf hfl
       clear hf hfl
       go_wp2_with fail
       refine ⟨HF7.out,fun _ => ?_⟩
       refine seg_end (by kernel_rfl) ?_
       go_wp2_with fail
       go_roundg (t.outs.length - (i + 1))
       case measure => omega
       case rel => exact ⟨i + 1,rfl,by have := Hlt.out; omega,rfl,by rw [HT.out],by rw [HT.out]; exact HS7.out⟩
     ·have hT : Hid (ps.any (bHas F) = false) := by
       have : j = ps.length := by omega
       have h := HNo.out
       rwa [this,List.take_length] at h
      have hn : Hid (O (i + 1) = (q,F)) := by
       show _ = _
       have h0 : hitsB F y.script = false := by rw [← Hss.out,hitsB,HPs.out]; exact hT.out
       rw [HO1.out,outStep,if_neg (by rw [h0]; simp)]
      go_wp2_with fail
      go_roundg (t.outs.length - (i + 1))
      case measure => omega
      case rel => exact ⟨i + 1,rfl,by have := Hlt.out; omega,rfl,by rw [hn.out],by rw [hn.out]; exact HSj.out⟩
   ·have hn : Hid (O (i + 1) = (q,F)) := by
     show _ = _
     have h0 : hitsB F y.script = false := by rw [← Hss.out]; simp [hitsB,pushesW,htk]
     rw [HO1.out,outStep,if_neg (by rw [h0]; simp)]
    clear htk
    go_wp2_with fail
    go_roundg (t.outs.length - (i + 1))
    case measure => omega
    case rel => exact ⟨i + 1,rfl,by have := Hlt.out; omega,rfl,by rw [hn.out],by rw [hn.out]; exact HS3.out⟩
  ·have hin : i = t.outs.length := by omega
   obtain ⟨F,hF⟩ : ∃ F,F = (O t.outs.length).2 := ⟨_,rfl⟩
   obtain ⟨q,hq⟩ : ∃ q,q = (O t.outs.length).1 := ⟨_,rfl⟩
   have HFg : Hid (FGood F) := by rw [hF]; exact HOg.out _
   have HM2 : R = (q || t.ins.any (inHit F),F) := by rw [hF,hq]; exact HM.out
   rw [hin,← hF] at HSi
   rw [hin,← hq]
   have HM3 := hid HM2
   clear HM HM2 hF hq HOg HOs HO0 HR
   cases q
   ·go_wp2_with fail
    obtain ⟨hp3,hg3,hhp3⟩ := HSi.out.tx
    refine (msgTx_c wr gt mB hp3 idx hg3).mono ?_
    clear hg3 hhp3
    rintro e w' ⟨rfl,rfl⟩
    have hD2 := HDw.out _ wr HSi.out
    have c1 : wr.cell? ⟨mB,1,none⟩ = some (.slice ai t.ins.length ci) := hD2.cell_at rfl
    have hm2 := hD2.lt
    clear hD2
    go_wp2_with fail
    go_loopg [74] (t.ins.length) (fun gk v74 wr => ∃ i,gk = t.ins.length - i ∧ i ≤ t.ins.length ∧ v74 = .int .i64 (i : Int) ∧ (t.ins.take i).any (inHit F) = false ∧ MxS K t g m a cap st flag gt mB idx F w wr)
    case atStart => exact ⟨0,rfl,Nat.zero_le _,rfl,rfl,HSi.out⟩
    case round =>
     clear HSi c1 hm2
     obtain ⟨k,rfl,hk,rfl,hno,hS⟩ := hrel
     have HSk := hid hS; clear hS
     have HNk := hid hno; clear hno
     by_cases hkl : k < t.ins.length
     ·have hkli : (k : Int) < t.ins.length := by omega
      obtain ⟨b,off,cap',u,he,hbB,hrg,hE⟩ := HI.out.at' hkl
      simp only [Value.slice.injEq] at he
      obtain ⟨rfl,_,rfl⟩ := he
      obtain ⟨G,dg,hu,hG,hGb,hGE⟩ := hE
      simp only [List.cons.injEq,and_true] at hu
      subst hu
      have hBl := HBel.out _ wr HSk.out
      have e1 := hrg wr hBl
      have hat := any_take (inHit F) t.ins k hkl
      have hyok := Ht.out.ins _ (List.getElem_mem hkl)
      have hxL := Hs.out.script _ (List.getElem_mem hkl)
      generalize t.ins[k] = y at hat hyok hxL hGE
      obtain ⟨sv,wv,rfl,hsv,hwv⟩ := hGE
      clear hwv
      obtain ⟨s,hss⟩ : ∃ s,s = y.script := ⟨_,rfl⟩
      have hxU := hyok.u8
      rw [← hss] at hsv hxU hxL
      have Hss := hid hss
      have HsU := hid hxU
      have HsL := hid hxL
      have HY := hid hyok.prev
      have HAt := hid hat
      clear hss hxU hxL hat hyok
      obtain ⟨sa,sc,rfl,hq1,hq2⟩ := hsv.rdB.form
      clear hq1 hq2
      have HSV := hid hsv; clear hsv
      have hG2 := hGb.below hBl hG
      have HGb := hid hGb; clear hGb
      have HG := hid hG; clear hG
      have HG2 := hid hG2
      have hGl := hG2.lt
      clear hG2 hrg hbB
      have HBl := hid hBl; clear hBl
      go_wp2_with fail
      refine (matchO_c wr g m a cap st F flag HSk.out.flt G 0 y.prev HY.out (HG2.out.part [] _ _ rfl) hGl HFg.out.1 HFg.out.2.1 HFg.out.2.2.1 HFg.out.2.2.2.1 HFg.out.2.2.2.2).mono ?_
      rintro e w5 ⟨rfl,hf⟩
      have HS5 : Hid (MxS K t g m a cap st flag gt mB idx F w w5) := HSk.out.grow hf
      have hG5 := HG2.out.fr hf (by simp)
      clear hf e1 hGl HG2 HSk
      cases hb : bHas F (opB y.prev)
      ·have HB0 := hid hb; clear hb
       have c33 : w5.cell? ⟨G,33,none⟩ = some (.slice sa s.length sc) := hG5.cell_at (by rw [List.getElem?_append_right (by rw [OutP.cells_length HY.out]; omega),OutP.cells_length HY.out]; rfl)
       have hGl := hG5.lt
       clear hG5
       go_wp2_with fail
       clear c33 hGl
       refine (pushedData_c w5 B (Nat.le_trans hBw HS5.out.fr.size) _ s (HSV.out.rdB.below (HBel.out _ _ HS5.out)) HsU.out HsL.out).mono ?_
       rintro e w3 ⟨hf,hR⟩
       have HS3 : Hid (MxS K t g m a cap st flag gt mB idx F w w3) := HS5.out.grow hf
       clear hf HS5
       have hni : ∀ (t : TypeId) (v : Value) (w : World),(binOp .neq 127 (.iface t v) .nilIface).run Tryz.prog w = .ok (.bool true) w := fun _ _ _ => rfl
       have hnn : ∀ (w : World),(binOp .neq 127 .nilIface .nilIface).run Tryz.prog w = .ok (.bool false) w := fun _ => rfl
       rcases hR with ⟨htk,v,rfl,hl⟩ | ⟨htk,ti,x,rfl⟩
       ·obtain ⟨pa,pc,rfl,hp1,hp2⟩ := (hl.listB (fun _ _ h => h)).len
        obtain ⟨ps,hps⟩ : ∃ ps,ps = pushes s := ⟨_,rfl⟩
        have HPs : Hid (pushesW s = ps) := by show _ = _; rw [pushesW,if_pos htk,hps]
        have HPk : Hid (∀ d ∈ ps,U8 d ∧ d.length ≤ 1000000) := by rw [hps]; exact fun d hd => ⟨(pushes_ok HsU.out hd).1,Nat.le_trans (pushes_ok HsU.out hd).2 HsL.out⟩
        rw [← hps] at hl hp1 ⊢
        have hpl : (ps.length : Int) ≤ 9223372036854775807 := by have := Nat.le_trans hp1 hp2; unfold maxLen at this; omega
        clear hps hp1 hp2 htk
        have HPL := hid hl; clear hl
        go_wp2_with fail
        go_loopg [95] (ps.length) (fun gk v95 wr => ∃ j,gk = ps.length - j ∧ j ≤ ps.length ∧ v95 = .int .i64 (j : Int) ∧ (ps.take j).any (bHas F) = false ∧ Fr [] w3 wr)
        case atStart => exact ⟨0,rfl,Nat.zero_le _,rfl,rfl,Fr.refl _ _⟩
        case round =>
         obtain ⟨j,rfl,hj,rfl,hno,hf⟩ := hrel
         have HNo := hid hno
         have HFj := hid hf
         have HSj : Hid (MxS K t g m a cap st flag gt mB idx F w wr) := HS3.out.grow hf
         clear hno hf
         by_cases hjl : j < ps.length
         ·have hjli : (j : Int) < ps.length := by omega
          obtain ⟨b2,off2,cap2,u2,he,hb2,hrg2,hE2⟩ := HPL.out.at' hjl
          simp only [Value.slice.injEq] at he
          obtain ⟨rfl,_,rfl⟩ := he
          have hat2 := any_take (bHas F) ps j hjl
          have hpk := HPk.out _ (List.getElem_mem hjl)
          have e2 := hrg2 wr (HFj.out.below)
          generalize ps[j] = d at hat2 hpk hE2
          obtain ⟨dv,hdv,hd⟩ := hE2
          simp only [List.cons.injEq,and_true] at hdv
          subst hdv
          have HAt2 := hid hat2; clear hat2
          have HPd := hid hpk; clear hpk
          have HD := hid hd; clear hd
          obtain ⟨da,dc,rfl,hq1,hq2⟩ := HD.out.form
          clear hq1 hq2 hrg2 hb2
          go_wp2_with fail
          refine (matches_c wr g m a cap st F flag HSj.out.flt _ d ((HD.out.below (HFj.out.below.mono (Nat.le_trans hBw HS3.out.fr.size))).rd (Nat.le_trans hBw HSj.out.fr.size)) HPd.out.1 HPd.out.2 HFg.out.1 HFg.out.2.1 HFg.out.2.2.1 HFg.out.2.2.2.1 HFg.out.2.2.2.2).mono ?_
          rintro e w6 ⟨rfl,hf⟩
          have HF6 : Hid (Fr [] w3 w6) := HFj.out.trans hf
          have HS6 : Hid (MxS K t g m a cap st flag gt mB idx F w w6) := HSj.out.grow hf
          clear hf e2
          cases hb : bHas F d
          ·have HNo2 : Hid ((ps.take (j + 1)).any (bHas F) = false) := by show _ = _; rw [HAt2.out,HNo.out,hb]; rfl
           clear hb
           go_wp2_with fail
           go_roundg (ps.length - (j + 1))
           case measure => omega
           case rel => exact ⟨j + 1,rfl,by omega,by simp,HNo2.out,HF6.out⟩
          ·have HB1 : Hid (ps.any (bHas F) = true) := any_of_take HAt2.out hb
           clear hb
           have HT : Hid (R = (true,F)) := by
            show _ = _
            have h0 : t.ins.any (inHit F) = true := any_of_take HAt.out (by rw [inHit,← Hss.out,hitsB,HPs.out,HB1.out,Bool.or_true])
            rw [HM3.out,h0]; rfl
           go_wp2_with fail
           go_ret
           exact ⟨by rw [HT.out]; rfl,by rw [HT.out]; exact HS6.out⟩
         ·have hT : Hid (ps.any (bHas F) = false) := by
           have : j = ps.length := by omega
           have h := HNo.out
           rwa [this,List.take_length] at h
          have hn : Hid ((t.ins.take (k + 1)).any (inHit F) = false) := by
           show _ = _
           rw [HAt.out,HNk.out,inHit,HB0.out,← Hss.out,hitsB,HPs.out,hT.out]; rfl
          go_wp2_with fail
          go_roundg (t.ins.length - (k + 1))
          case measure => omega
          case rel => exact ⟨k + 1,rfl,by omega,rfl,hn.out,HSj.out⟩
       ·have hn : Hid ((t.ins.take (k + 1)).any (inHit F) = false) := by
         show _ = _
         rw [HAt.out,HNk.out,inHit,HB0.out,← Hss.out]
         simp [hitsB,pushesW,htk]
        clear htk
        go_wp2_with fail
        go_roundg (t.ins.length - (k + 1))
        case measure => omega
        case rel => exact ⟨k + 1,rfl,by omega,rfl,hn.out,HS3.out⟩
      ·have HB0 := hid hb; clear hb hG5
       have HT : Hid (R = (true,F)) := by
        show _ = _
        have h0 : t.ins.any (inHit F) = true := any_of_take HAt.out (by rw [inHit,HB0.out,Bool.true_or])
        rw [HM3.out,h0]; rfl
       go_wp2_with fail
       go_ret
       exact ⟨by rw [HT.out]; rfl,by rw [HT.out]; exact HS5.out⟩
     ·have hke : k = t.ins.length := by omega
      have hF : t.ins.any (inHit F) = false := by have h := HNk.out; rwa [hke,List.take_length] at h
      have HT : Hid (R = (false,F)) := by show _ = _; rw [HM3.out,hF]; rfl
      clear hF hke
      go_wp2_with fail
      go_ret
      exact ⟨by rw [HT.out]; rfl,by rw [HT.out]; exact HSk.out⟩
   ·have HT : Hid (R = (true,F)) := by show _ = _; rw [HM3.out]; rfl
    go_wp2_with fail
    go_ret
    exact ⟨by rw [HT.out]; rfl,by rw [HT.out]; exact HSi.out⟩
end
end Go.Proofs.YtdllckiidegpcaaGreat
