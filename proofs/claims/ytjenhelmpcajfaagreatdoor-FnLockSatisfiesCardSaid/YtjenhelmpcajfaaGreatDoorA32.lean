/- the search as a whole -/
import Derived.Test.YtjenhelmpcajfaaGreatDoorA31
set_option linter.all false
set_option maxRecDepth 20000
set_option maxHeartbeats 16000000
namespace Go.Proofs.YtjenhelmpcajfaaGreatDoor
open Go.Proofs.Tryz Go.RowKit
theorem KH (w:World):(Instr.makeMap 232 none).run Tryz.prog w= .ok (.map (some w.heap.size)) (w.alloc (.map #[] 0)):=by kernel_rfl
def KI (s:Sp) (root:aa) (ig:List aa) (pks:List Pk) (N:Nat):Prop:=
 ∀(d:aa) (v:Value) (path:List aa) (w:World) (C XS IS:List (aa × Nat)) (E:List (aa × Value)) (K:Nat->List (aa × Unit)),nE s root ig pks s.fv w->gM s pks w C XS IS E K->sG root ig pks path (bw C) (fx XS K)->
  Own aD s.lo 9 (fun b=>v.ownBlock=some b) w v path->path.Nodup->(∀a∈path,eY root ig pks a d)->wh ig pks (bw C)<N->Calls Tryz.prog 135 (s.args d v) w fun e w'=>nH s root ig pks path d v w C XS K e w'
theorem Jf {s:Sp} {root:aa} {ig:List aa} {pks:List Pk} {C XS IS:List (aa × Nat)} {E:List (aa × Value)} {K:Nat->List (aa × Unit)} (p:aa) (q:Pk) (v:Value) (path:List aa) (w:World) (hS:nE s root ig pks s.fv w) (hD:gM s pks w C XS IS E K)
 (hF:sG root ig pks path (bw C) (fx XS K)) (hO:Own aD s.lo 9 (fun b=>v.ownBlock=some b) w v path) (hn:path.Nodup) (hl:path.length<=1000) (hp:bw C p=0) (hq:fL ig pks p q) (hr:∀a∈path,eY root ig pks a p)
 (Rm:(dD root ig q).length<=100000/\(dQ root ig q).length<=100000) (hIH:KI s root ig pks (wh ig pks (bw C))):
 Calls Tryz.prog 135 (s.args p v) w fun e w'=>nH s root ig pks path p v w C XS K e w':=by
 obtain ⟨A,cap,hv⟩:=hO.form;generalize hnl:path.length=n at hv hl;subst hv;obtain ⟨i9,UB,Jc,Jd,Je⟩:=Ag
 have hc1:ai C p=none:=by
  unfold bw at hp
  cases hg:ai C p with
  | none=>rfl
  | some c=>rw [hg] at hp;rcases hD.cc p c hg with rfl|rfl<;>simp at hp
 have iD:(((ai C p).map jg).getD (.int .u8 0))= .int .u8 0:=by rw [hc1];rfl
 have hxp:ai XS p=none:=by
  have h1:=hF.white p hp;unfold fx at h1
  cases hg:ai XS p with
  | none=>rfl
  | some c=>rw [hg] at h1;cases h1
 obtain ⟨WM,Ri,FD,KJ⟩:=hS.wm;obtain ⟨me,mi,Dv⟩:=KJ p q hq;obtain ⟨q',le,li,hq',Rn,Ro,Rp,Rq,hle,OP⟩:=FD p me mi Dv;have hqq:q'=q:=fL.inj hq' hq;subst hqq;have OO:(((ai WM p).map nD.val).getD (.agg #[.nilIface, .map none, .map none]))= .agg #[.nilIface, .map (some me), .map (some mi)]:=by rw [Dv];rfl
 have CU:(ai WM p).isSome=true:=by rw [Dv];rfl
 have HD:=Y0 hD;have HS:=Y0 hS;have HO:=Y0 hO;have UD:=Y0 Ri;have HM:=Y6 Rn Ro Rp Rq hle OP;have x2:=cellAt (j:=0) hS.c2 rfl;have hz:=z5;have hz3:=Rh;have hz2:=z232;have hmk:=KH;have HF:=Y0 hF;have HC:=Y3 hp hq hxp;have HR:=Y0 (show _/\_/\True/\_/\_ from ⟨hr,hn,True.intro,Rm,hIH⟩);have vG:Hid (p∉path):=Y0 (fun h=>by rw [(hF.grey p).2 h] at hp;cases hp);clear hS hD hF hO hp hq Ri FD KJ Dv Rn Ro Rp Rq hle OP hxp hr hn Rm hIH hq';unfold Sp.args;go_enter func135,ntmps135
 go_wp2_with (first
  | (revert iD;intro fu;refine bL (o:=⟨some 47,_,_,_,_,_⟩) (f:=jg) rfl _ _ 288 rfl _ _ underlying288 underlying9 (.int .u8 0) hz rfl HD.out.cm rfl ?_;rw [fu];clear fu;have dh:True:=trivial;go_frame)
  | (clear dh;refine aM (f:=jg) (b:=1) rfl _ _ _ 288 rfl _ _ underlying288 underlying9 rfl HD.out.cm rfl rfl ?_;intro w1 Bt FE hs1;have KF:=Y0 (HD.out.setC HS.out.ml HS.out.mn FE Bt (.inl rfl));have kv:=Y0 ((Fr.refl s n (.slice A n cap) w).touch HS.out.lo FE (.inr (HD.out.objM (by simp [Sp.maps]))));have nU:=Y0 (HS.out.fr kv.out);have y3:=cellAt (j:=0) nU.out.c3 rfl;have FH:=Y0 (UD.out.keep (kv.out.stat s.wb (HS.out.st _ (by simp))));have hb3:Below w1.heap.size w1 ((w1.alloc (.cells #[.nilIface, .map (some me), .map (some mi)] 230)).alloc (.cells #[.string p] 9)):=((Below.refl _ _).alloc (Nat.le_refl _) _).alloc (by simp) _;have vK:=Y0 (kv.out.pure HS.out.lo (hb3.mono kv.out.size));have KG:=Y0 (vK.out.path HO.out (fun _=>by omega));have Hx:=Y0 (KF.out.pure hb3);have FI:Hid (s.lo<=((w1.alloc (.cells #[.nilIface, .map (some me), .map (some mi)] 230)).alloc (.cells #[.string p] 9)).heap.size):=Y0 (by have:=vK.out.size;have:=HS.out.lo;omega);have Ko:Hid (((w1.alloc (.cells #[.nilIface, .map (some me), .map (some mi)] 230)).alloc (.cells #[.string p] 9)).cell? ⟨w1.heap.size+1,0,none⟩=some (.string p)):=Y0 (cellAt (j:=0) (by have h:=heap_alloc_new (w1.alloc (.cells #[.nilIface, .map (some me), .map (some mi)] 230)) (.cells #[.string p] 9);rwa [World.size_alloc] at h) rfl);have FJ:Hid (((w1.alloc (.cells #[.nilIface, .map (some me), .map (some mi)] 230)).alloc (.cells #[.string p] 9)).heap[w1.heap.size]?=some (.cells #[.nilIface, .map (some me), .map (some mi)] 230 (0,0))):=Y0 ((Below.heap_alloc _ _ _ (by simp)).trans (heap_alloc_new _ _));have CV:Hid (w1.heap.size<((w1.alloc (.cells #[.nilIface, .map (some me), .map (some mi)] 230)).alloc (.cells #[.string p] 9)).heap.size):=Y0 (by simp;omega);have hvb:Hid (∀b,(Value.slice A n cap).ownBlock=some b->b<w1.heap.size):=Y0 (fun b hb=>by have h1:=(ak HO.out hb).2.2.1;have h2:=kv.out.size;omega);have mQ:Hid (w.heap.size<=w1.heap.size):=Y0 kv.out.size;clear Bt FE hs1 hb3;go_frame)
  | (revert OO;intro fu;refine bA (o:=⟨some 56,_,_,_,_,_⟩) (f:=nD.val) rfl _ _ 228 rfl _ _ underlying228 underlying9 (.agg #[.nilIface, .map none, .map none]) hz3 rfl FH.out rfl ?_;rw [fu,CU];clear fu;have jh:True:=trivial;go_frame)
  | (clear jh;refine gL (v:= .slice A n cap) (o:=⟨some 62,_,_,_,_,_⟩) rfl _ _ rfl BL i9 UB Jc Jd Je rfl KG.out ⟨w1.heap.size+1,0,none⟩ 1 p rfl Ko.out (by omega) FI.out rfl n hnl ?_;intro g cap' w4 mM sD zu uL;obtain ⟨n1,qR⟩:∃n1,n1=n+1:=⟨_,rfl⟩;rw [<-qR] at mM ⊢;have GN:=Y0 qR;clear qR;have CW:=Y0 (vK.out.push HS.out.lo (ak mM rfl).2.1 sD uL);have GZ:=Y0 (Hx.out.own KG.out sD);have MW:=Y0 (HS.out.fr CW.out);have Bc:=(sD.block w1.heap.size CV.out (fun e=>by have:=hvb.out _ e.symm;omega)).trans FJ.out;have XI:w4.cell? ⟨w1.heap.size,0,none⟩=some .nilIface:=cellAt (j:=0) Bc rfl;have XJ:=Y0 Bc;have M0:Hid (((Value.slice A n cap).ownBlock=some g\/w.heap.size<=g)/\g<w4.heap.size/\s.lo<=g):=Y0 ⟨by rcases uL with ⟨c1,c2,h1,_⟩|⟨h1,_⟩;exact .inl (by rw [h1];rfl);exact .inr (by have:=CV.out;have:=mQ.out;omega),zu,(ak mM rfl).2.1⟩;have Xe:Hid (Own aD s.lo 9 (fun b=>(Value.slice (some ⟨g,0,none⟩) n1 cap').ownBlock=some b) w4 (.slice (some ⟨g,0,none⟩) n1 cap') (path++ [p])):=Y0 (cV (aW mM) (fun _ h=>h));have pB:Below w4.heap.size w4 ((w4.alloc (.map #[] 0)).alloc (.map #[] 0)):=((Below.refl _ _).alloc (Nat.le_refl _) _).alloc (by simp) _;have dS:=Y0 pB;have XK:Hid (ah bY ((w4.alloc (.map #[] 0)).alloc (.map #[] 0)) w4.heap.size []/\ah bY ((w4.alloc (.map #[] 0)).alloc (.map #[] 0)) (w4.heap.size+1) []):=Y0 ⟨(ah.made w4 bY).alloc _,by have h:=ah.made (w4.alloc (.map #[] 0)) bY;rwa [World.size_alloc] at h⟩;have XL:((w4.alloc (.map #[] 0)).alloc (.map #[] 0)).cell? ⟨w1.heap.size,1,none⟩=some (.map (some me)):=cellAt (j:=1) (ax Bc pB) rfl;have Rs:=CW.out;have Rt:Hid (ah aO ((w4.alloc (.map #[] 0)).alloc (.map #[] 0)) me le):=Y0 ((HM.out.2.2.1.keep (Rs.stat me HM.out.1)).pure pB);clear pB mM sD zu uL Bc Rs;have FN:True:=trivial;go_frame)
  | (clear FN;refine bp (o:=⟨some 88,_,_,_,_,_⟩) rfl _ _ rfl _ _ underlying91 rfl Rt.out ?_;intro w5 hI az hs1;have Jg:Hid (w4.heap.size≠me/\w4.heap.size+1≠mi):=Y0 (by have h1:=HM.out.1.1;have h2:=HM.out.2.1.1;have h3:=CW.out.size;have h4:=HS.out.lo;omega);generalize My:(w4.alloc (.map #[] 0)).alloc (.map #[] 0)=W5 at hI az hs1 XK Rt dS ⊢;have hps:=Y0 (jN.start XK.out.1 hI az (fun e=>absurd e Jg.out.1));clear hI az hs1 My;go_frame))
 go_loopw [18] (fun _ wq=>∃(left:List _) (K2:List (aa × Unit)),Hid (jN aO W5 w4.heap.size [] me W5.heap.size le left wq K2)) (fun _ wq=>gz wq W5.heap.size)
 case atStart=>exact ⟨_,_,Y0 hps.out⟩
 obtain ⟨left,Kr,hp1⟩:=hrel
 cases left with
 | cons pr eX=>
   have aU:True:=trivial
   go_wp2_with (first
    | (clear aU;refine ay (o:=⟨some 89,_,_,_,_,_⟩) rfl _ rfl rfl hp1.out.iter (by intro h;cases h) ?_;intro y2 b2 left' w2 hmem hget eI ba hlen hns hg2 hs2 hent;have bO:=Y5 eI ba hlen hns hg2;have kT:=Y0 (hp1.out.set.grown hg2 (by intro e;injection e with e;have h1:=hp1.out.lt;have h2:=hp1.out.it_;omega));clear hmem hget eI ba hlen hns hg2 hs2;go_frame)
    | (refine jw rfl _ _ _ 232 rfl _ _ underlying232 underlying9 rfl kT.out rfl rfl ?_;intro w3 nJ gD hs3 lL;go_frame))
   have hst:=hp1.out.step bO.out.1 bO.out.2.1 bO.out.2.2.2.1 bO.out.2.2.2.2 nJ gD lL
   exact ⟨⟨left',_,Y0 hst⟩,by rw [aG hst.iter,aG hp1.out.iter];have:=bO.out.2.2.1;omega⟩
 | nil=>
   have hk1:=Y0 hp1.out.done;have Aj:Below w4.heap.size w4 W5:=dS.out;have M3:Below w4.heap.size w4 wr:=⟨hp1.out.grown.os.trans Aj.os,hp1.out.grown.tape.trans Aj.tape,hp1.out.grown.output.trans Aj.output,Nat.le_trans Aj.size hp1.out.grown.size,fun b hb=>by rw [hp1.out.grown.block b (Nat.lt_of_lt_of_le hb Aj.size) (by intro e;injection e with e;omega)];exact Aj.block b hb⟩;have hzl:Hid (w.heap.size<=w4.heap.size/\s.lo<=w.heap.size/\w1.heap.size<w4.heap.size):=Y0 ⟨CW.out.size,HS.out.lo,(Array.getElem?_eq_some_iff.1 XJ.out).1⟩;have HFA:=Y0 (CW.out.pure HS.out.lo (M3.mono CW.out.size));have HDA:=Y0 (GZ.out.pure M3);have HSA:=Y0 (HS.out.fr HFA.out);have y7:wr.cell? ⟨s.c7,0,none⟩=some (.map (some s.xm)):=cellAt (j:=0) HSA.out.c7 rfl;have OQ:=Y0 M3;have XN:Hid (ah bY wr (w4.heap.size+1) []):=Y0 (XK.out.2.grown hp1.out.grown (by intro e;injection e with e;omega));obtain ⟨wa,M4⟩:∃W,W=wr:=⟨_,rfl⟩;subst M4;clear Aj M3;have aU:True:=trivial;have FO:True:=trivial
   go_wp2_with (first
    | (clear aU;refine ay (o:=⟨some 89,_,_,_,_,_⟩) rfl _ rfl rfl hp1.out.iter ?_ (by intro y2 b2 left' w2 hmem;cases hmem);intro _;go_frame)
    | (clear FO;refine aM (f:=ek) (b:=w4.heap.size) rfl _ _ _ 289 rfl _ _ underlying289 underlying9 rfl HDA.out.xm rfl rfl ?_;intro wb hMx Ru Rv;have OS:=Y3 hMx Ru Rv;have HFB:=Y0 (HFA.out.touch HS.out.lo Ru (.inr (HD.out.objM (by simp [Sp.maps]))));have hxl:Hid (s.xm<s.lo):=Y0 (HS.out.ml _ (by simp [Sp.maps]));have M5:=(Ru.block w1.heap.size (by have h1:=hzl.out.2.2;have h2:=OQ.out.size;omega) (by intro e;injection e with e;have h1:=hxl.out;have h2:=hzl.out;have h3:=mQ.out;omega)).trans (ax XJ.out OQ.out);have MX:wb.cell? ⟨w1.heap.size,2,none⟩=some (.map (some mi)):=cellAt (j:=2) M5 rfl;have aay:=Y0 M5;have XO:Hid (ah aO wb mi li):=Y0 (HM.out.2.2.2.1.keep (HFB.out.stat mi HM.out.2.1));have Rw:Hid (ah bY wb (w4.heap.size+1) []):=Y0 (XN.out.grown Ru (by intro e;injection e with e;have h1:=hxl.out;have h2:=hzl.out;omega));clear hMx Ru Rv M5;have FP:True:=trivial;go_frame)
    | (clear FP;refine bp (o:=⟨some 101,_,_,_,_,_⟩) rfl _ _ rfl _ _ underlying91 rfl XO.out ?_;intro w6 hI az hs1;have hps:=Y0 (jN.start Rw.out hI az (fun e=>absurd e Jg.out.2));clear hI az hs1;go_frame))
   go_loopw [19] (fun _ wq=>∃(left:List _) (K2:List (aa × Unit)),Hid (jN aO wb (w4.heap.size+1) [] mi wb.heap.size li left wq K2)) (fun _ wq=>gz wq wb.heap.size)
   case atStart=>exact ⟨_,_,Y0 hps.out⟩
   obtain ⟨left,Ki,hp2⟩:=hrel
   cases left with
   | cons pr eX=>
     have aU:True:=trivial
     go_wp2_with (first
      | (clear aU;refine ay (o:=⟨some 102,_,_,_,_,_⟩) rfl _ rfl rfl hp2.out.iter (by intro h;cases h) ?_;intro y2 b2 left' w2 hmem hget eI ba hlen hns hg2 hs2 hent;have bO:=Y5 eI ba hlen hns hg2;have kT:=Y0 (hp2.out.set.grown hg2 (by intro e;injection e with e;have h1:=hp2.out.lt;have h2:=hp2.out.it_;omega));clear hmem hget eI ba hlen hns hg2 hs2;go_frame)
      | (refine jw rfl _ _ _ 232 rfl _ _ underlying232 underlying9 rfl kT.out rfl rfl ?_;intro w3 nJ gD hs3 lL;go_frame))
     have hst:=hp2.out.step bO.out.1 bO.out.2.1 bO.out.2.2.2.1 bO.out.2.2.2.2 nJ gD lL
     exact ⟨⟨left',_,Y0 hst⟩,by rw [aG hst.iter,aG hp2.out.iter];have:=bO.out.2.2.1;omega⟩
   | nil=>
     have hk2:=Y0 hp2.out.done;have XP:w4.heap.size+1<wb.heap.size:=Rw.out.lt
     have XQ:∀b,b<w4.heap.size->b≠s.xm->wr.heap[b]?=w4.heap[b]?:=fun b hb hne=>by
      have h1:=OQ.out.size;have h2:=OS.out.2.2;rw [hp2.out.grown.block b (by omega) (by intro e;injection e with e;omega),OS.out.2.1.block b (by omega) (by intro e;injection e with e;exact hne e)];exact OQ.out.block b hb
     have HBC:=Y0 XQ;have HFC:=Y0 (HFB.out.touch HS.out.lo hp2.out.grown (.inl (by have h1:=hzl.out;omega)));have HSC:=Y0 (HS.out.fr HFC.out);have y8:wr.cell? ⟨s.c8,0,none⟩=some (.map (some s.im)):=cellAt (j:=0) HSC.out.c8 rfl;have FQ:Hid (s.im≠s.xm/\s.im<w4.heap.size):=Y0 ⟨by have:=(lG HS.out.mn).2.2.2.2.2;omega,GZ.out.im.lt⟩;have XR:Hid (ah ek wr s.im IS):=Y0 (GZ.out.im.keep (XQ s.im FQ.out.2 FQ.out.1));obtain ⟨wc,hwc⟩:∃W,W=wr:=⟨_,rfl⟩;subst hwc;clear XQ XP;have aU:True:=trivial;have FR:True:=trivial
     go_wp2_with (first
      | (clear aU;refine ay (o:=⟨some 102,_,_,_,_,_⟩) rfl _ rfl rfl hp2.out.iter ?_ (by intro y2 b2 left' w2 hmem;cases hmem);intro _;go_frame)
      | (clear FR;refine aM (f:=ek) (b:=w4.heap.size+1) rfl _ _ _ 289 rfl _ _ underlying289 underlying9 rfl XR.out rfl rfl ?_;intro wd OT hGi XT;have M6:=Y3 OT hGi XT;clear OT hGi XT;go_frame))
     have FT:Hid (s.lo<=w4.heap.size):=Y0 (by have:=hzl.out;omega);have MZ:Hid (q'∈pks):=Y0 (cD HC.out.2.1.1).2;have FU:Hid (s.xm<s.lo/\s.im<s.lo):=Y0 ⟨hxl.out,HS.out.ml _ (by simp [Sp.maps])⟩
     have hold:Hid (∀b,b<w4.heap.size->b≠s.xm->b≠s.im->wd.heap[b]?=w4.heap[b]?):=Y0 (fun b hb h1 h2=>by
      have h3:=HBC.out b hb h1;have h4:=OQ.out.size;have h5:=OS.out.2.2;have h6:=hp2.out.grown.size;rw [M6.out.2.1.block b (by omega) (by intro e;injection e with e;exact h2 e)];exact h3)
     have HXD:Hid (ah ek wd s.xm (bN XS p w4.heap.size)):=Y0 ((OS.out.1.grown hp2.out.grown (by intro e;injection e with e;have:=FU.out;have:=FT.out;omega)).grown M6.out.2.1 (by intro e;injection e with e;exact FQ.out.1 e));have HrD:Hid (ah bY wd w4.heap.size Kr):=Y0 (((hp1.out.set.grown OS.out.2.1 (by intro e;injection e with e;have:=FU.out;have:=FT.out;omega)).grown hp2.out.grown (by intro e;injection e with e;omega)).grown M6.out.2.1 (by intro e;injection e with e;have:=FU.out;have:=FT.out;omega));have XU:Hid (ah bY wd (w4.heap.size+1) Ki):=Y0 (hp2.out.set.grown M6.out.2.1 (by intro e;injection e with e;have:=FU.out;have:=FT.out;omega));have hKr:Hid (∀x,x∈af Kr↔x∈dD root ig q'):=Y0 (fun x=>by rw [hk1.out x,HM.out.2.2.2.2.1 x];simp [af]);have hKi:Hid (∀x,x∈af Ki↔x∈dQ root ig q'):=Y0 (fun x=>by rw [hk2.out x,HM.out.2.2.2.2.2 x];simp [af]);have hoA:Hid (∀x,x∈dD root ig q'->x∈bT pks):=Y0 (fun x hx=>List.mem_flatMap.2 ⟨q',MZ.out,(mA.1 hx).1⟩);have hiA:Hid (∀x,x∈dQ root ig q'->x∈bT pks):=Y0 (fun x hx=>List.mem_flatMap.2 ⟨q',MZ.out,(tG.1 hx).1⟩);have XV:=Y0 (GZ.out.push HS.out.ml HS.out.mn FT.out HC.out.2.2 (Nat.le_refl _) (Nat.le_succ _) (by omega) HXD.out M6.out.1 HrD.out XU.out hold.out (fun x hx=>hoA.out x ((hKr.out x).1 hx)) (fun x hx=>hiA.out x ((hKi.out x).1 hx)));have Rx:Hid (∀t,fx (bN XS p w4.heap.size) (eZ (eZ K w4.heap.size Kr) (w4.heap.size+1) Ki) t=if t=p then some (af Kr) else fx XS K t):=Y0 (fun t=>FM GZ.out (Nat.le_refl _) (Nat.le_succ _) (by omega) t);have HFD:=Y0 (HFC.out.touch HS.out.lo M6.out.2.1 (.inr (HD.out.objM (by simp [Sp.maps]))))
     have HOD:Hid (Own aD s.lo 9 (fun b=>(Value.slice (some ⟨g,0,none⟩) n1 cap').ownBlock=some b) wd (.slice (some ⟨g,0,none⟩) n1 cap') (path++ [p])):=Y0 (aX Xe.out (fun k hk=>by
      have e:k=g:=by simp [Value.ownBlock] at hk;exact hk.symm
      subst e;have h1:=M0.out;have h2:=FU.out;exact hold.out k h1.2.1 (by omega) (by omega)) (fun _ h=>h))
     obtain ⟨bt,mJ⟩:∃bt,bt=w1.heap.size:=⟨_,rfl⟩
     have XW:Hid (wd.heap[bt]?=some (.cells #[.nilIface, .map (some me), .map (some mi)] 230 (0,0))):=Y0 (by
      have h1:=hzl.out;have h2:=FU.out;have h3:=mQ.out;rw [mJ,hold.out w1.heap.size h1.2.2 (by omega) (by omega)];exact XJ.out)
     rw [<-mJ];have nL:Hid ((path++ [p]).length=n1):=Y0 (by rw [List.length_append,hnl,GN.out];rfl);have aaz:n1<=1001:=by have:=GN.out;omega
     have hbl:Hid (s.lo<=bt):=Y0 (by have:=mQ.out;have:=hzl.out;omega);obtain ⟨nI,Jh⟩:∃X,X=bN XS p w4.heap.size:=⟨_,rfl⟩;obtain ⟨CS,Ry⟩:∃X,X=bN IS p (w4.heap.size+1):=⟨_,rfl⟩;obtain ⟨K1,M7⟩:∃X,X=eZ (eZ K w4.heap.size Kr) (w4.heap.size+1) Ki:=⟨_,rfl⟩;rw [<-Jh,<-Ry,<-M7] at XV;rw [<-Jh,<-M7] at Rx
     have hXE:Hid (∀t∈path++ [p],(∃c,ai nI t=some c)/\∃ci,ai CS t=some ci):=Y0 (fun t ht=>by
      have h1:∃c,ai nI t=some c:=by
       rw [Jh,bk];by_cases e:p=t
       · rw [if_pos e];exact ⟨_,rfl⟩
       rw [if_neg e]
       have KL:t∈path:=by
        rcases List.mem_append.1 ht with h|h
        · exact h
        exact absurd (List.mem_singleton.1 h).symm e
       obtain ⟨S,hS⟩:=HF.out.open_ t KL;unfold fx at hS
       cases hg:ai XS t with
       | none=>rw [hg] at hS;cases hS
       | some c=>exact ⟨c,rfl⟩
      refine ⟨h1, ?_⟩;obtain ⟨c,hc⟩:=h1;have h2:=XV.out.same t;rw [hc] at h2;exact Option.isSome_iff_exists.1 h2.symm)
     try clear iD
     try clear OO
     try clear CU
     try clear hc1
     try clear dh
     try clear jh
     try clear FN
     try clear FO
     try clear FP
     try clear FR
     try clear y3
     try clear XI
     try clear XL
     try clear MX
     try clear y7
     try clear y8
     try clear x2
     try clear Jh
     try clear Ry
     try clear M7
     try clear hmk
     try clear mJ
     go_loopw [114] (fun i wr=>∃(k:Nat) (Kp:Nat->List (aa × Unit)),i= .int .i64 k/\k<=n1/\Hid (gM s pks wr (bN C p 1) nI CS E Kp/\Fr s n (.slice A n cap) w wr/\Own aD s.lo 9 (fun b=>(Value.slice (some ⟨g,0,none⟩) n1 cap').ownBlock=some b) wr (.slice (some ⟨g,0,none⟩) n1 cap') (path++ [p])/\wr.heap[bt]?=some (.cells #[.nilIface, .map (some me), .map (some mi)] 230 (0,0))/\(bg root ig pks->(∀t,t∉(path++ [p]).take k->fx nI Kp t=fx nI K1 t)/\(∀t∈(path++ [p]).take k,∀S,fx nI K1 t=some S->∃S',fx nI Kp t=some S'/\∀x,x∈S'↔x∈S\/x∈dD root ig q'))/\w4.heap.size<=wr.heap.size)) (fun i _=>n1 - (intOf i).toNat)
     case atStart=>exact ⟨0,K1,rfl,by omega,Y0 ⟨XV.out,HFD.out,HOD.out,XW.out,fun _=>⟨fun _ _=>rfl,by simp⟩,by have h1:=OQ.out.size;have h2:=OS.out.2.2;have h3:=hp2.out.grown.size;have h4:=M6.out.2.2;omega⟩⟩
     obtain ⟨k,Kp,rfl,hk,hc⟩:=hrel;by_cases hlt:k<n1
     · have hlt':(k:Int)<(n1:Int):=by omega
       obtain ⟨y,hy⟩:∃y,(path++ [p])[k]?=some y:=⟨_,List.getElem?_eq_getElem (by rw [nL.out];exact hlt)⟩;have hyp:y∈path++ [p]:=List.mem_of_getElem? hy;have hrow:=aW hc.out.2.2.1;rw [nL.out] at hrow;have yO:eW s.lo 9 wr g cap' (path++ [p]):=by unfold eW;rw [nL.out];exact hrow
       have hcell:=yO.at_ hy
       have htk:Hid (∀u,u∈(path++ [p]).take (k+1)↔u∈(path++ [p]).take k\/u=y):=Y0 (fun u=>by
        have h1:k<(path++ [p]).length:=by rw [nL.out];exact hlt
        have h2:(path++ [p])[k]=y:=by rw [List.getElem?_eq_getElem h1] at hy;exact Option.some.inj hy
        rw [List.take_succ_eq_append_getElem h1,h2,List.mem_append,List.mem_singleton])
       obtain ⟨⟨c,zZ⟩,ci,sI⟩:=hXE.out y hyp;have XD:(((ai nI y).map ek).getD (.map none))= .map (some c):=by rw [zZ];rfl
       have MS:(ai nI y).isSome=true:=by rw [zZ];rfl
       have MT:(((ai CS y).map ek).getD (.map none))= .map (some ci):=by rw [sI];rfl
       have FB:(ai CS y).isSome=true:=by rw [sI];rfl
       have qo:=HS.out.fr hc.out.2.1;have y7:=cellAt (j:=0) qo.c7 rfl;have XX:wr.cell? ⟨bt,1,none⟩=some (.map (some me)):=cellAt (j:=1) hc.out.2.2.2.1 rfl;have Rz:Hid (ah aO wr me le):=Y0 (HM.out.2.2.1.keep (hc.out.2.1.stat me HM.out.1));have XE:=Y0 (hc.out.1.ks c (hc.out.1.bx zZ)).2.1;have hcm:Hid (c≠me/\ci≠mi):=Y0 (by have h1:=(hc.out.1.ks c (hc.out.1.bx zZ)).1;have h2:=(hc.out.1.ks ci (hc.out.1.bi sI)).1;have h3:=HM.out.1.1;have h4:=HM.out.2.1.1;omega);have HY:=Y3 hyp zZ sI;obtain ⟨wo,hwo⟩:∃W,W=wr:=⟨_,rfl⟩;subst hwo;clear hy hyp hrow yO zZ sI qo
       go_wp2_with (first
        | (revert XD;intro fu;refine bA (o:=⟨some 121,_,_,_,_,_⟩) (f:=ek) rfl _ _ 289 rfl _ _ underlying289 underlying9 (.map none) hz2 rfl hc.out.1.xm rfl ?_;rw [fu,MS];clear fu;have FV:True:=trivial;go_frame)
        | (clear FV;refine bp (o:=⟨some 127,_,_,_,_,_⟩) rfl _ _ rfl _ _ underlying91 rfl Rz.out ?_;intro w1' hI az hs1;have hps:=Y0 (jN.start XE.out hI az (fun e=>absurd e hcm.out.1));clear hI az hs1;go_frame))
       go_loopw [24] (fun _ wq=>∃(left:List _) (K2:List (aa × Unit)),Hid (jN aO wo c (Kp c) me wo.heap.size le left wq K2)) (fun _ wq=>gz wq wo.heap.size)
       case atStart=>exact ⟨_,_,Y0 hps.out⟩
       obtain ⟨left,Kc,uM⟩:=hrel
       cases left with
       | cons pr eX=>
         have aU:True:=trivial
         go_wp2_with (first
          | (clear aU;refine ay (o:=⟨some 128,_,_,_,_,_⟩) rfl _ rfl rfl uM.out.iter (by intro h;cases h) ?_;intro y2 b2 left' w2 hmem hget eI ba hlen hns hg2 hs2 hent;have bO:=Y5 eI ba hlen hns hg2;have kT:=Y0 (uM.out.set.grown hg2 (by intro e;injection e with e;have h1:=uM.out.lt;have h2:=uM.out.it_;omega));clear hmem hget eI ba hlen hns hg2 hs2;go_frame)
          | (refine jw rfl _ _ _ 232 rfl _ _ underlying232 underlying9 rfl kT.out rfl rfl ?_;intro w3 nJ gD hs3 lL;go_frame))
         have hst:=uM.out.step bO.out.1 bO.out.2.1 bO.out.2.2.2.1 bO.out.2.2.2.2 nJ gD lL
         exact ⟨⟨left',_,Y0 hst⟩,by rw [aG hst.iter,aG uM.out.iter];have:=bO.out.2.2.1;omega⟩
       | nil=>
         have hk3:=uM.out.done
         have hsub:∀x∈af Kc,x∈bT pks:=fun x hx=>by
          rcases (hk3 x).1 hx with h|h
          · exact (hc.out.1.ks c (hc.out.1.bx HY.out.2.1)).2.2 x h
          exact hoA.out x ((HM.out.2.2.2.2.1 x).1 h)
         have mP:=Y0 (hc.out.1.touch HS.out.ml (hc.out.1.bx HY.out.2.1) uM.out.grown uM.out.set hsub);have hF2:=Y0 (hc.out.2.1.trans ((Fr.refl s n (.slice A n cap) wo).touch (HS.out.fr hc.out.2.1).lo uM.out.grown (.inr (hc.out.1.obj (hc.out.1.bx HY.out.2.1)))));have ja:=Y0 (((Fr.refl s n1 (.slice (some ⟨g,0,none⟩) n1 cap') wo).touch (HS.out.fr hc.out.2.1).lo uM.out.grown (.inr (hc.out.1.obj (hc.out.1.bx HY.out.2.1)))).path hc.out.2.2.1 (fun _=>by rw [nL.out];exact Nat.le_refl _));have RB:=Y0 (((Fr.refl s 0 (.slice none 0 0) wo).touch (HS.out.fr hc.out.2.1).lo uM.out.grown (.inr (hc.out.1.obj (hc.out.1.bx HY.out.2.1)))).cells bt _ hbl.out hc.out.2.2.2.1 (by intro es c e;cases e) (by simp [Value.ownBlock]));have Rg:=HS.out.fr hF2.out;have y8:=cellAt (j:=0) Rg.c8 rfl;have XY:wr.cell? ⟨bt,2,none⟩=some (.map (some mi)):=cellAt (j:=2) RB.out rfl;have XZ:Hid (ah aO wr mi li):=Y0 (HM.out.2.2.2.1.keep (hF2.out.stat mi HM.out.2.1));have MU:=Y0 (mP.out.ks ci (mP.out.bi HY.out.2.2)).2.1;have hK3:=Y0 hk3;have CE:=Y0 uM.out.grown.size;obtain ⟨wm,Dv⟩:∃W,W=wr:=⟨_,rfl⟩;subst Dv;clear Rg hk3 hsub hlt' y7 hcell XX;have aU:True:=trivial
         go_wp2_with (first
          | (clear aU;refine ay (o:=⟨some 128,_,_,_,_,_⟩) rfl _ rfl rfl uM.out.iter ?_ (by intro y2 b2 left' w2 hmem;cases hmem);intro _;go_frame)
          | (revert MT;intro fu;refine bA (o:=⟨some 138,_,_,_,_,_⟩) (f:=ek) rfl _ _ 289 rfl _ _ underlying289 underlying9 (.map none) hz2 rfl mP.out.im rfl ?_;rw [fu,FB];clear fu;have uN:True:=trivial;go_frame)
          | (clear uN;refine bp (o:=⟨some 144,_,_,_,_,_⟩) rfl _ _ rfl _ _ underlying91 rfl XZ.out ?_;intro w1' hI az hs1;have hps:=Y0 (jN.start MU.out hI az (fun e=>absurd e hcm.out.2));clear hI az hs1;go_frame))
         go_loopw [27] (fun _ wq=>∃(left:List _) (K2:List (aa × Unit)),Hid (jN aO wm ci (eZ Kp c Kc ci) mi wm.heap.size li left wq K2)) (fun _ wq=>gz wq wm.heap.size)
         case atStart=>exact ⟨_,_,Y0 hps.out⟩
         obtain ⟨left,Kci,yQ⟩:=hrel
         cases left with
         | cons pr eX=>
           have aU:True:=trivial
           go_wp2_with (first
            | (clear aU;refine ay (o:=⟨some 145,_,_,_,_,_⟩) rfl _ rfl rfl yQ.out.iter (by intro h;cases h) ?_;intro y2 b2 left' w2 hmem hget eI ba hlen hns hg2 hs2 hent;have bO:=Y5 eI ba hlen hns hg2;have kT:=Y0 (yQ.out.set.grown hg2 (by intro e;injection e with e;have h1:=yQ.out.lt;have h2:=yQ.out.it_;omega));clear hmem hget eI ba hlen hns hg2 hs2;go_frame)
            | (refine jw rfl _ _ _ 232 rfl _ _ underlying232 underlying9 rfl kT.out rfl rfl ?_;intro w3 nJ gD hs3 lL;go_frame))
           have hst:=yQ.out.step bO.out.1 bO.out.2.1 bO.out.2.2.2.1 bO.out.2.2.2.2 nJ gD lL
           exact ⟨⟨left',_,Y0 hst⟩,by rw [aG hst.iter,aG yQ.out.iter];have:=bO.out.2.2.1;omega⟩
         | nil=>
           have hk4:=yQ.out.done
           have yg:∀x∈af Kci,x∈bT pks:=fun x hx=>by
            rcases (hk4 x).1 hx with h|h
            · exact (mP.out.ks ci (mP.out.bi HY.out.2.2)).2.2 x h
            exact hiA.out x ((HM.out.2.2.2.2.2 x).1 h)
           have OM:=Y0 (mP.out.touch HS.out.ml (mP.out.bi HY.out.2.2) yQ.out.grown yQ.out.set yg);have Ji:s.lo<=wm.heap.size:=(HS.out.fr hF2.out).lo;have XG:=Y0 (hF2.out.trans ((Fr.refl s n (.slice A n cap) wm).touch Ji yQ.out.grown (.inr (mP.out.obj (mP.out.bi HY.out.2.2)))));have mI:=Y0 (((Fr.refl s n1 (.slice (some ⟨g,0,none⟩) n1 cap') wm).touch Ji yQ.out.grown (.inr (mP.out.obj (mP.out.bi HY.out.2.2)))).path ja.out (fun _=>by rw [nL.out];exact Nat.le_refl _));have X3:=Y0 (((Fr.refl s 0 (.slice none 0 0) wm).touch Ji yQ.out.grown (.inr (mP.out.obj (mP.out.bi HY.out.2.2)))).cells bt _ hbl.out RB.out (by intro es c e;cases e) (by simp [Value.ownBlock]));clear hk4 yg Ji;have aU:True:=trivial;go_wp2_with (clear aU;refine ay (o:=⟨some 145,_,_,_,_,_⟩) rfl _ rfl rfl yQ.out.iter ?_ (by intro y2 b2 left' w2 hmem;cases hmem);intro _;go_frame)
           have Jb:s.nr->∀t,fx nI (eZ (eZ Kp c Kc) ci Kci) t=if t=y then some (af Kc) else fx nI Kp t:=fun hr t=>by
            rw [yf mP.out hr HY.out.2.2,BK hc.out.1 hr HY.out.2.1]
           refine ⟨⟨k+1,_,by go_num,by omega,Y0 ⟨OM.out,XG.out,mI.out,X3.out,fun hN=>⟨fun t ht=> ?_,fun t ht S hS=> ?_⟩,by have h1:=hc.out.2.2.2.2.2;have h2:=CE.out;have h3:=yQ.out.grown.size;omega⟩⟩,by simp [intOf];omega⟩
           all_goals
            replace Jb:=Jb (by rw [HS.out.nr];exact hN)
            have GY:=hc.out.2.2.2.2.1 hN
           · have h1:t∉(path++ [p]).take k/\t≠y:=⟨fun h=>ht ((htk.out t).2 (.inl h)),fun h=>ht ((htk.out t).2 (.inr h))⟩;rw [Jb,if_neg h1.2];exact GY.1 t h1.1
           rw [Jb];by_cases hty:t=y
           · subst hty;rw [if_pos rfl];refine ⟨_,rfl,fun x=> ?_⟩;rw [hK3.out x,HM.out.2.2.2.2.1 x];have hX1:fx nI Kp t=some (af (Kp c)):=by unfold fx;rw [HY.out.2.1];rfl
             by_cases FC:t∈(path++ [p]).take k
             · obtain ⟨S',h3,h4⟩:=GY.2 t FC S hS;rw [hX1] at h3;have h5:=Option.some.inj h3;rw [h5,h4 x];exact ⟨fun h=>by rcases h with (h|h)|h;exact .inl h;exact .inr h;exact .inr h,fun h=>by rcases h with h|h;exact .inl (.inl h);exact .inr h⟩
             have h3:=GY.1 t FC;rw [hX1,hS] at h3;have h5:=Option.some.inj h3;rw [h5]
           rw [if_neg hty];rcases (htk.out t).1 ht with h|h
           · exact GY.2 t h S hS
           exact absurd h hty
     have kJ:n1=k:=by omega
     subst kJ;have hall:(path++ [p]).take n1=path++ [p]:=List.take_of_length_le (by rw [nL.out];exact Nat.le_refl _);have RD:=hc.out.2.2.2.2.1;rw [hall] at RD;obtain ⟨we,RF⟩:∃W,W=wr:=⟨_,rfl⟩;subst RF;have FW:bw (bN C p 1)=upd (bw C) p 1:=funext fun t=>gX
     have RG:∀t∈path++ [p],∃S,fx nI K1 t=some S:=fun t ht=>by
      obtain ⟨c,hct⟩:=(hXE.out t ht).1;exact ⟨af (K1 c),by unfold fx;rw [hct];rfl⟩
     have RH:sG root ig pks (path++ [p]) (bw (bN C p 1)) (fx nI Kp):=by
      rw [FW];refine HF.out.push HC.out.1 HC.out.2.1 HR.out.1 (fun t KL=> ?_) (fun hN t ht KL=> ?_) (fun t ht=> ?_)
      · rw [nG (K:=K1) Kp t,Rx.out t,if_neg KL]
      · rw [(RD hN).1 t (fun h=>by rcases List.mem_append.1 h with h|h;exact ht h;exact KL (List.mem_singleton.1 h)),Rx.out t,if_neg KL]
      obtain ⟨S,hS⟩:=RG t ht;exact iF (nG (K:=K1) Kp) hS
     have Uz:∀t∈path,∀S,fx XS K t=some S->∃S',fx nI Kp t=some S'/\(bg root ig pks->∀x,x∈S'↔x∈S\/x∈dD root ig q'):=fun t ht S hS=>by
      have KL:t≠p:=fun e=>vG.out (e▸ht)
      have h7:fx nI K1 t=some S:=by rw [Rx.out t,if_neg KL];exact hS
      obtain ⟨S',h8⟩:=iF (nG (K:=K1) Kp) h7;refine ⟨S',h8,fun hN=> ?_⟩;obtain ⟨S2,h9,h10⟩:=(RD hN).2 t (List.mem_append_left _ ht) S h7;rw [h8] at h9;rw [Option.some.inj h9];exact h10
     have RI:∃S,fx nI Kp p=some S/\(bg root ig pks->∀x,x∈S↔x∈dD root ig q'):=by
      have h7:fx nI K1 p=some (af Kr):=by rw [Rx.out p,if_pos rfl]
      obtain ⟨S',h8⟩:=iF (nG (K:=K1) Kp) h7;refine ⟨S',h8,fun hN x=> ?_⟩;obtain ⟨S2,h9,h10⟩:=(RD hN).2 p (by simp) (af Kr) h7;rw [h8] at h9;rw [Option.some.inj h9,h10,hKr.out];exact ⟨fun h=>by rcases h with h|h<;>exact h, .inl⟩
     have HE:=Y4 RH Uz RI FW;have M8:=Y0 hc.out.2.1;have hOE:=Y0 hc.out.2.2.1;have hDE:=Y0 hc.out.1;have hsE:Hid (w4.heap.size<=we.heap.size):=Y0 hc.out.2.2.2.2.2;have XY:we.cell? ⟨bt,2,none⟩=some (.map (some mi)):=cellAt (j:=2) hc.out.2.2.2.1 rfl;have RJ:Hid (ah aO we mi li):=Y0 (HM.out.2.2.2.1.keep (hc.out.2.1.stat mi HM.out.2.1))
     have X4:li.length<=1000000:=by
      have h7:=bQ RJ.out.nodup (fun x hx=>(HM.out.2.2.2.2.2 x).1 hx);have h8:=HR.out.2.2.2.1.2;simp [af] at h7;omega
     have X5:Hid ((path++ [p]).Nodup):=Y0 (by
      rw [List.nodup_append];refine ⟨HR.out.2.1,by simp,fun a ha b hb e=> ?_⟩;rw [List.mem_singleton.1 hb] at e;exact vG.out (e▸ha))
     clear hall RD FW RG RH Uz RI hc;go_wp2_with (go_at_call 136;refine (f136 aO mi li _ RJ.out X4).mono ?_;rintro e wk ⟨vk,ds,Fk,rfl,yh,pD,GX,tM⟩;obtain ⟨Ak,ck,hvk⟩:=pD.form;generalize M9:ds.length=nd at hvk;subst hvk;have HK:=Y4 yh pD GX tM;have Du:=Y0 M9;clear yh pD GX tM M9);have hds:Hid (∀d,d∈ds↔d∈dQ root ig q'):=Y0 (fun d=>by rw [HK.out.1.2 d];exact HM.out.2.2.2.2.2 d)
     have M9:nd<=1000000:=by
      have h7:=bQ (ej HK.out.1.1) (fun x hx=>(hds.out x).1 hx);have h8:=HR.out.2.2.2.1.2;rw [Du.out] at h7;omega
     have su:Hid (s.lo<=we.heap.size):=Y0 ((HS.out.fr M8.out).lo)
     have X6:Hid (Own aD s.lo 9 Fk wk (.slice Ak nd ck) ds):=Y0 (by
      have h7:=aW HK.out.2.1;refine cV ⟨h7.1,h7.2.imp id (fun ⟨g',RL,cur,a1,a2,a3⟩=>⟨g',RL,cur,a1,Nat.le_trans su.out a2,a3⟩)⟩ (fun k hk=>bh HK.out.2.1 hk))
     have X7:Hid ((Value.slice (some ⟨g,0,none⟩) n1 cap').ownBlock=(Value.slice Ak nd ck).ownBlock->False):=Y0 (fun e=>by
      have h7:=(ak HK.out.2.1 (k:=g) e.symm).2.1;have h8:=M0.out.2.1;have h9:=hsE.out;omega)
     have X8:Hid (Fr s n (.slice A n cap) w wk):=Y0 (M8.out.pure HS.out.lo (HK.out.2.2.2.mono M8.out.size));go_loopw [157] (fun i wr=>∃(j:Nat) (C2 rL BM:List (aa × Nat)) (E2:List (aa × Value)) (K3:Nat->List (aa × Unit)),i= .int .i64 j/\j<=nd/\Hid (gM s pks wr C2 rL BM E2 K3/\sG root ig pks (path++ [p]) (bw C2) (fx rL K3)/\(∀t,bw C t=2->bw C2 t=2)/\(∀t,bw C2 t=0->bw C t=0)/\(∀t∈path,∀S,fx XS K t=some S->∃S',fx rL K3 t=some S'/\(bg root ig pks->∀x,x∈S'↔x∈S\/Fx root ig pks path p q' (ds.take j) x))/\(∃S,fx rL K3 p=some S/\(bg root ig pks->∀x,x∈S↔Fx root ig pks path p q' (ds.take j) x))/\Fr s n (.slice A n cap) w wr/\Own aD s.lo 9 (fun b=>(Value.slice (some ⟨g,0,none⟩) n1 cap').ownBlock=some b) wr (.slice (some ⟨g,0,none⟩) n1 cap') (path++ [p])/\Own aD s.lo 9 Fk wr (.slice Ak nd ck) ds/\bw C2 p≠0)) (fun i _=>nd - (intOf i).toNat)
     case atStart=>
      refine ⟨0,bN C p 1,nI,CS,E,Kp,rfl,by omega,Y0 ⟨hDE.out.pure HK.out.2.2.2,HE.out.1,fun t ht=> ?_,fun t ht=> ?_,fun t ht S hS=> ?_, ?_,X8.out,hOE.out.pure HK.out.2.2.2,X6.out, ?_⟩⟩
      · rw [HE.out.2.2.2];have:t≠p:=fun e=>by rw [e,HC.out.1] at ht;cases ht
        rw [upd_ne _ _ _ _ this];exact ht
      · rw [HE.out.2.2.2] at ht;by_cases e:t=p
        · rw [e];exact HC.out.1
        rw [upd_ne _ _ _ _ e] at ht;exact ht
      · obtain ⟨S',h7,h8⟩:=HE.out.2.1 t ht S hS;exact ⟨S',h7,fun hN x=>by rw [h8 hN];simp [Fx]⟩
      · obtain ⟨S',h7,h8⟩:=HE.out.2.2.1;exact ⟨S',h7,fun hN x=>by rw [h8 hN];simp [Fx]⟩
      rw [HE.out.2.2.2,upd_same];omega
     obtain ⟨j,C2,rL,BM,E2,K3,rfl,hj,hd⟩:=hrel;have qo:=Y0 (HS.out.fr hd.out.2.2.2.2.2.2.1);by_cases lR:j<nd
     · have lK:(j:Int)<(nd:Int):=by omega
       obtain ⟨d,hdj⟩:∃d,ds[j]?=some d:=⟨_,List.getElem?_eq_getElem (by rw [Du.out];exact lR)⟩;have X9:d∈dQ root ig q':=(hds.out d).1 (List.mem_of_getElem? hdj);have hrow:=aW hd.out.2.2.2.2.2.2.2.2.1;rw [Du.out] at hrow;obtain ⟨gk,RM,hA,_,_⟩:=hrow.form (by omega);simp only [Value.slice.injEq,true_and] at hA;obtain ⟨rfl,rfl⟩:=hA;have hcell:wr.cell? ⟨gk,j,none⟩=some (.string d):=eW.at_ (base:=s.lo) (e:=9) (l:=ds) (by unfold eW;rw [Du.out];exact hrow) hdj
       have htk:Hid (∀x,Fx root ig pks path p q' (ds.take (j+1)) x↔Fx root ig pks path p q' (ds.take j) x\/uK root ig pks (path++ [p]) d x):=Y0 (fun x=>by
        have h1:j<ds.length:=by rw [Du.out];exact lR
        have h2:ds[j]=d:=by rw [List.getElem?_eq_getElem h1] at hdj;exact Option.some.inj hdj
        rw [List.take_succ_eq_append_getElem h1,h2];unfold Fx;simp only [List.mem_append,List.mem_singleton];constructor
        · rintro (h|⟨e,(h|rfl),h3⟩)
          · exact .inl (.inl h)
          · exact .inl (.inr ⟨e,h,h3⟩)
          exact .inr h3
        rintro ((h|⟨e,h,h3⟩)|h)
        · exact .inl h
        · exact .inr ⟨e, .inl h,h3⟩
        exact .inr ⟨d, .inr rfl,h⟩)
       have hins:Hid (∀a∈path++ [p],eY root ig pks a d):=Y0 (fun a ha=>by
        rcases List.mem_append.1 ha with h|h
        · exact (HR.out.1 a h).trans (eY.one HC.out.2.1 X9)
        rw [List.mem_singleton.1 h];exact eY.one HC.out.2.1 X9)
       have yI:Hid (wh ig pks (bw C2)<wh ig pks (bw C)):=Y0 (Rl HC.out.2.1 HC.out.1 hd.out.2.2.2.2.2.2.2.2.2 hd.out.2.2.2.1);have x9:wr.cell? ⟨s.c9,0,none⟩=some (.func (.func 135) #[] #[cp s.c2,cp s.c3,cp s.c4,cp s.c5,cp s.c6,cp s.c7,cp s.c8,cp s.c9,cp s.c10]):=cellAt (j:=0) qo.out.c9 rfl;have hcall:=Y0 (HR.out.2.2.2.2 d _ (path++ [p]) wr C2 rL BM E2 K3 qo.out hd.out.1 hd.out.2.1 hd.out.2.2.2.2.2.2.2.1 X5.out hins.out yI.out);clear hdj X9 hrow;go_wp2_with (go_at_call 135;refine hcall.out.mono ?_;rintro e w7 ⟨⟨b,rfl⟩,FX,C4,Ya,Yb,E4,K4,RN,RO⟩;have H7:=Y3 FX RN RO;have x4:w7.cell? ⟨s.c4,0,none⟩=some (.bool false):=cellAt (j:=0) (qo.out.fr FX).c4 rfl;clear FX RN RO;cases b)
       all_goals
        have FX:=H7.out.1;rw [nL.out] at FX
        have hF8:Fr s n (.slice A n cap) w w7:=hd.out.2.2.2.2.2.2.1.down (by rw [<-GN.out];exact FX) (fun g' hg'=>(ak HO.out hg').2.1) (by
         rcases M0.out.1 with h|h
         · exact .inl (by rw [h];rfl)
         exact .inr ⟨g,rfl,h⟩)
        refine ⟨⟨j+1,C4,Ya,Yb,E4,K4,by go_num,by omega,Y0 ⟨H7.out.2.1,H7.out.2.2.dfs,fun t ht=>H7.out.2.2.old t (hd.out.2.2.1 t ht),fun t ht=>hd.out.2.2.2.1 t (H7.out.2.2.sub t ht),fun t ht S hS=> ?_, ?_,hF8,FX.path hd.out.2.2.2.2.2.2.2.1 (fun _=>by rw [nL.out];exact Nat.le_refl _),FX.path hd.out.2.2.2.2.2.2.2.2.1 (fun e=>(X7.out e).elim),fun h=>hd.out.2.2.2.2.2.2.2.2.2 (H7.out.2.2.sub p h)⟩⟩,by simp [intOf];omega⟩
        · obtain ⟨S1,h1,h2⟩:=hd.out.2.2.2.2.1 t ht S hS;obtain ⟨S2,h3,h4⟩:=H7.out.2.2.more t (List.mem_append_left _ ht) S1 h1;exact ⟨S2,h3,fun hN x=>by rw [h4 hN,h2 hN,htk.out,or_assoc]⟩
        · obtain ⟨S1,h1,h2⟩:=hd.out.2.2.2.2.2.1;obtain ⟨S2,h3,h4⟩:=H7.out.2.2.more p (by simp) S1 h1;exact ⟨S2,h3,fun hN x=>by rw [h4 hN,h2 hN,htk.out]⟩
     have wF:nd=j:=by omega
     subst wF;have hall:ds.take nd=ds:=List.take_of_length_le (by rw [Du.out];exact Nat.le_refl _);have h5:=hd.out.2.2.2.2.1;have h6:=hd.out.2.2.2.2.2.1;rw [hall] at h5 h6;have H56:=Y2 h5 h6;have x2:wr.cell? ⟨s.c2,0,none⟩=some (.map (some s.cm)):=cellAt (j:=0) qo.out.c2 rfl;clear hall h5 h6;go_wp2_with (refine aM (f:=jg) (b:=2) rfl _ _ _ 288 rfl _ _ underlying288 underlying9 rfl hd.out.1.cm rfl rfl ?_;intro w8 kU jV ke;have Rj:=Y0 (hd.out.1.setC HS.out.ml HS.out.mn jV kU (.inr rfl));have Rk:=Y0 (hd.out.2.2.2.2.2.2.1.touch HS.out.lo jV (.inr (HD.out.objM (by simp [Sp.maps]))));clear kU jV ke;go_frame);go_ret;refine ⟨⟨_,rfl⟩,by rw [hnl];exact Rk.out,_,_,_,_,_,Rj.out, ?_⟩;rw [show bw (bN C2 p 2)=upd (bw C2) p 2 from funext fun t=>gX];exact iE.close HF.out HC.out.1 HC.out.2.1 HR.out.1 hds.out hd.out.2.1 hd.out.2.2.1 hd.out.2.2.2.1 H56.out.1 H56.out.2
theorem dfe {s:Sp} {root:aa} {ig:List aa} {pks:List Pk} (hx:∀q∈pks,q.imps.length+q.tests.length<=1000) (hpl:pks.length<=100):∀N,KI s root ig pks N
 | 0=>fun _ _ _ _ _ _ _ _ _ _ _ _ _ _ _ h=>absurd h (Nat.not_lt_zero _)
 | N+1=>fun p v path w C XS IS E K hS hD hF hO hn hr hw=>by
   have hlen:path.length<=100:=by
    have h1:(pks.map (·.path)).length=pks.length:=by simp
    have h2:=bQ hn (m:=pks.map (·.path)) (fun t ht=>by
     obtain ⟨q,hq⟩:=hF.good t ht;obtain ⟨h3,h4⟩:=cD hq.1;exact List.mem_map.2 ⟨q,h4,h3⟩)
    omega
   have Na:bw C p=0\/bw C p=1\/bw C p=2:=by
    unfold bw
    cases hg:ai C p with
    | none=>exact .inl rfl
    | some c=>rcases hD.cc p c hg with h|h<;>simp [h]
   rcases Na with h0|h1|h2
   · by_cases tL:∃q,fL ig pks p q
     · obtain ⟨q,hq⟩:=tL;have MZ:=(cD hq.1).2;refine Jf p q v path w hS hD hF hO hn (by omega) h0 hq hr ⟨?_, ?_⟩ ?_
       · have h3:=rE root ig (q.imps++q.tests) [];have h4:=hx q MZ;unfold dD;rw [List.length_append,List.length_nil] at h3;omega
       · have h3:=rD root ig (q.imps++q.tests) [];have h4:=hx q MZ;unfold dQ;rw [List.length_append,List.length_nil] at h3;omega
       intro d v' RP w' C' UA IS' E' K' a1 a2 a3 a4 a5 a6 a7;exact dfe hx hpl N d v' RP w' C' UA IS' E' K' a1 a2 a3 a4 a5 a6 (by omega)
     exact MV p v path w hS hD hF hO (by omega) h0 (fun q hq=>tL ⟨q,hq⟩)
   · have hp:p∈path:=(hF.grey p).1 h1;obtain ⟨front,rest,tJ⟩:=List.append_of_mem hp;refine I9 p v path front rest w hS hD hF hO hn (by omega) tJ (fun hN=> ?_);rcases List.eq_nil_or_concat rest with h|⟨r',last,h⟩
     · exact h
     exfalso
     have hl:path=(front++p::r')++ [last]:=by rw [tJ,h];simp
     have Yc:=CR hN hF.chain hl hp (hr last (by rw [hl];simp));subst Yc;rw [hl] at hn;exact (List.nodup_append.1 hn).2.2 p (by simp) p (by simp) rfl
   exact FA p v path w hS hD hF hO (by omega) h2
def dE:World->List Obj->World
 | w, []=>w
 | w,o::os=>dE (w.alloc o) os
theorem eH:∀(os:List Obj) (w:World),(dE w os).heap.size=w.heap.size+os.length
 | [],w=>rfl
 | o::os,w=>by simp only [dE];rw [eH os,World.size_alloc,List.length_cons];omega
theorem dI:∀(os:List Obj) (w:World),Below w.heap.size w (dE w os)
 | [],w=>Below.refl _ _
 | o::os,w=>by
   simp only [dE];exact ((Below.refl _ _).alloc (Nat.le_refl _) o).trans ((dI os (w.alloc o)).mono (by simp))
theorem fq:∀(os:List Obj) (w:World) (i:Nat) (o:Obj),os[i]?=some o->(dE w os).heap[w.heap.size+i]?=some o
 | [],w,i,o,h=>by simp at h
 | a::os,w,i,o,h=>by
   simp only [dE]
   cases i with
   | zero=>
     simp at h;subst h;rw [(dI os (w.alloc a)).block _ (by simp)]
     exact heap_alloc_new w a
   | succ i=>
     have h1:=fq os (w.alloc a) i o (by simpa using h);rw [World.size_alloc] at h1;rw [show w.heap.size+(i+1)=w.heap.size+1+i by omega];exact h1
theorem RQ (w:World):(Instr.makeMap 288 none).run Tryz.prog w= .ok (.map (some w.heap.size)) (w.alloc (.map #[] 0)):=by kernel_rfl
theorem RR (w:World):(Instr.makeMap 289 none).run Tryz.prog w= .ok (.map (some w.heap.size)) (w.alloc (.map #[] 0)):=by kernel_rfl
theorem RS (w:World):(Instr.makeMap 160 none).run Tryz.prog w= .ok (.map (some w.heap.size)) (w.alloc (.map #[] 0)):=by kernel_rfl
theorem RT (w:World):(Instr.makeMap 159 none).run Tryz.prog w= .ok (.map (some w.heap.size)) (w.alloc (.map #[] 0)):=by kernel_rfl
theorem Nb (W:World) (a:Addr) (fn:Fn) (cap:Array Value) (h1:W.cell? a=some .nilFunc) (h2:W.frozen? a=false):(store a (.func fn #[] cap)).run Tryz.prog W= .ok () (W.setCell a (.func fn #[] cap)):=by
 rw [run_store _ _ _ _ _ rfl,h1];simp [h2]
def pY (n wb:Nat) (nr:Prop):Sp:=⟨n+3,n,n+1,n+11,n+9,n+5,n+7,n+13,n+12,n+2,wb,n+8,n+4,n+6,n+14,nr⟩
def RU (n:Nat):Value:= .func (.func 130) #[] #[cp (n+5),cp (n+7),cp n,cp (n+9)]
def RV (n:Nat):Value:= .func (.func 131) #[] #[cp n,cp (n+10)]
def RX (n:Nat):Value:= .func (.func 133) #[] #[cp (n+9),cp (n+10)]
def jW (n wb:Nat):List Obj:=
 [.cells #[.map (some wb)] 228, .cells #[.bool false] 4, .map #[] 0, .cells #[.map (some (n+2))] 288, .map #[] 0, .cells #[.map (some (n+4))] 289, .map #[] 0, .cells #[.map (some (n+6))] 289, .map #[] 0, .cells #[.map (some (n+8))] 160,
  .cells #[RU n] 294, .cells #[RV n] 184, .cells #[RX n] 297, .cells #[(pY n wb True).fv] 298]
def FY (root:aa) (ig:List aa) (pks:List Pk) (w:World) (WM:List (aa × nD)):Prop:=
 (∀p me mi,ai WM p=some (.good me mi)->∃q le li,fL ig pks p q/\ah aO w me le/\ah aO w mi li/\(∀x,x∈af le↔x∈dD root ig q)/\∀x,x∈af li↔x∈dQ root ig q)/\
  ∀p q,fL ig pks p q->∃me mi,ai WM p=some (.good me mi)
theorem iG {w:World} {m:Nat} {β:Type} (f:β->Value) (h:w.heap[m]?=some (.map #[] 0)):ah f w m []:=⟨#[],0,h,rfl,by simp,by simp,by simp [af]⟩
theorem FZ {root:aa} {ig:List aa} {pks:List Pk} {w:World} {wb:Nat} {WM:List (aa × nD)} (hM:ah nD.val w wb WM) (hP:FY root ig pks w WM) (K:Nat->List (aa × Unit)):
 nE (pY w.heap.size wb (bg root ig pks)) root ig pks (pY w.heap.size wb (bg root ig pks)).fv (dE w (jW w.heap.size wb))/\gM (pY w.heap.size wb (bg root ig pks)) pks (dE w (jW w.heap.size wb)) [] [] [] [] K/\sG root ig pks [] (bw []) (fx [] K):=by
 have hb:=dI (jW w.heap.size wb) w;have hsz:(dE w (jW w.heap.size wb)).heap.size=w.heap.size+14:=eH _ _;have hg:=fq (jW w.heap.size wb) w;have hwb:=hM.lt;generalize dE w (jW w.heap.size wb)=W at*;refine ⟨⟨hg 3 _ rfl,hg 0 _ rfl,hg 1 _ rfl,hg 9 _ rfl,hg 5 _ rfl,hg 7 _ rfl,hg 13 _ rfl, ?_, ?_, ?_,by rw [hsz];exact Nat.le_refl _,rfl,WM,hM.pure hb, ?_,hP.2⟩,⟨iG _ (hg 2 _ rfl),iG _ (hg 4 _ rfl),iG _ (hg 6 _ rfl),iG _ (hg 8 _ rfl),by simp,fun _=>by simp,fun _=>rfl,fun _ _ h=>(by cases h)⟩,⟨fun t=> ?_,by simp,List.Pairwise.nil,fun t q h _=>(by cases h),fun _ _ _=>rfl,fun _ _=>rfl,by simp⟩⟩
 · intro b hb;simp only [pY,List.mem_cons,List.not_mem_nil,or_false] at hb;unfold Sp.stat Sp.maps;simp only [pY,List.mem_cons,List.not_mem_nil,or_false];omega
 · intro b hb;simp only [pY,Sp.maps,List.mem_cons,List.not_mem_nil,or_false] at hb;show b<w.heap.size+14;omega
 · simp [pY,Sp.maps]
 · intro p me mi h;obtain ⟨q,le,li,h1,h2,h3,h4,h5⟩:=hP.1 p me mi h;refine ⟨q,le,li,h1, ?_, ?_,h2.pure hb,h3.pure hb,h4,h5⟩
   · have:=h2.lt;unfold Sp.stat Sp.maps;simp only [pY,List.mem_cons,List.not_mem_nil,or_false];omega
   have:=h3.lt;unfold Sp.stat Sp.maps;simp only [pY,List.mem_cons,List.not_mem_nil,or_false];omega
 exact ⟨fun h=>(by cases h),fun h=>(by cases h)⟩
def qp (p:Value × Value):Value:= .agg #[p.1,p.2]
theorem tN {F:Nat->Prop} {w w':World} {v:Value} {xs:List aa} (h:bK F w v xs) (hk:∀(g:Nat) cs ty fz,w.heap[g]?=some (Obj.cells cs ty fz)->w'.heap[g]?=w.heap[g]?):bK F w' v xs:=by
 obtain ⟨A,cap,hv,h1,h2,h3⟩:=h;refine ⟨A,cap,hv,h1,h2, ?_⟩;rcases h3 with h3|⟨g,off,hA,hF,hg,hc⟩
 · exact .inl h3
 cases xs with
 | nil=>exact .inl rfl
 | cons x r=>
   obtain ⟨cs0,GJ,hc0⟩:=hc 0 x rfl;have hcs:cs0= [.string x]:=GJ;have h4:=hc0 0 (.string x) (by rw [hcs];rfl)
   have h5:∃cs ty fz,w.heap[g]?=some (Obj.cells cs ty fz):=by
    unfold World.cell? at h4;split at h4
    · rename_i cs ty fz e;exact ⟨cs,ty,fz,e⟩
    cases h4
   obtain ⟨cs,ty,fz,h6⟩:=h5;have h7:=hk g cs ty fz h6;refine .inr ⟨g,off,hA,hF, ?_,fun i y hy=> ?_⟩
   · rw [h6] at h7;exact (Array.getElem?_eq_some_iff.1 h7).1
   obtain ⟨cs1,hr1,hc1⟩:=hc i y hy;refine ⟨cs1,hr1,fun j u hu=> ?_⟩;have h8:=hc1 j u hu;unfold World.cell? at h8 ⊢;rw [h7];exact h8
structure nM (F:Nat->Prop) (XM:Nat) (XS:List (aa × Nat)) (K:Nat->List (aa × Unit)) (w1:World) (rm it:Nat) (left:List (aa × Nat)) (L:List (aa × (Value × Value))) (wq:World):Prop where
 iter:aL ek wq XM it XS left
 map:ah qp wq rm L
 env:Env w1 wq
 size:w1.heap.size<=wq.heap.size
 fr:∀b,b<w1.heap.size->b≠rm->b≠it->wq.heap[b]?=w1.heap[b]?
 ent:∀t ie,ai L t=some ie->∃b S,ai XS t=some b/\bK F wq ie.2 S/\(∀x,x∈S↔x∈af (K b))/\∃A n c,ie.1= .slice A n c
 sep:∀t,t∈af left->ai L t=none
 all:∀t,t∈af XS->t∈af left\/t∈af L
theorem nM.ent' {F:Nat->Prop} {XS:List (aa × Nat)} {K:Nat->List (aa × Unit)} {L:List (aa × (Value × Value))} {w w':World} (h:∀t ie,ai L t=some ie->∃b S,ai XS t=some b/\bK F w ie.2 S/\(∀x,x∈S↔x∈af (K b))/\∃A n c,ie.1= .slice A n c)
 (hk:∀(g:Nat) cs ty fz,w.heap[g]?=some (Obj.cells cs ty fz)->w'.heap[g]?=w.heap[g]?):∀t ie,ai L t=some ie->∃b S,ai XS t=some b/\bK F w' ie.2 S/\(∀x,x∈S↔x∈af (K b))/\∃A n c,ie.1= .slice A n c:=fun t ie ht=>by
 obtain ⟨b,S,h1,h2,h3⟩:=h t ie ht;exact ⟨b,S,h1,tN h2 hk,h3⟩
theorem nM.step {F:Nat->Prop} {XM:Nat} {XS:List (aa × Nat)} {K:Nat->List (aa × Unit)} {w1:World} {rm it:Nat} {left left':List (aa × Nat)} {L:List (aa × (Value × Value))} {wr wn wq:World} (h:nM F XM XS K w1 rm it left L wr) {t:aa} {b:Nat} {ie:Value × Value}
 (hI:aL ek wn XM it XS left') (ba:∀p,p∈left↔p=(t,b)\/p∈left') (hns:t∉af left') (hb:ai XS t=some b) (hg:wr.grownBy wn (some it)) (he:Env wn wq) (hs:wn.heap.size<=wq.heap.size) (hk:∀c,c<wn.heap.size->c≠rm->wq.heap[c]?=wn.heap[c]?)
 (hM:ah qp wq rm (bN L t ie)) (Yd:XM≠rm) (hir:it≠rm) (CX:∃S,bK F wq ie.2 S/\(∀x,x∈S↔x∈af (K b))/\∃A n c,ie.1= .slice A n c):nM F XM XS K w1 rm it left' (bN L t ie) wq:=by
 have hkl:∀y,y∈af left↔y=t\/y∈af left':=fun y=>by
  simp only [af,List.mem_map];constructor
  · rintro ⟨q,hq,rfl⟩;rcases (ba q).1 hq with rfl|h
    · exact .inl rfl
    exact .inr ⟨q,h,rfl⟩
  rintro (rfl|⟨q,hq,rfl⟩)
  · exact ⟨_,(ba _).2 (.inl rfl),rfl⟩
  exact ⟨q,(ba q).2 (.inr hq),rfl⟩
 refine ⟨hI.keep (hk XM hI.map.lt Yd) (hk it hI.lt hir),hM,h.env.trans ((Env.grown hg).trans he),Nat.le_trans h.size (Nat.le_trans hg.size hs),fun c hc h1 h2=> ?_,fun u Ye hu=> ?_,fun u hu=> ?_,fun u hu=> ?_⟩
 · have h3:=h.size;have h4:=hg.size;rw [hk c (by omega) h1,hg.block c (by omega) (by intro e;injection e with e;exact h2 e)];exact h.fr c hc h1 h2
 · rw [bk] at hu;split at hu
   · rename_i e;subst e;injection hu with hu
     subst hu;obtain ⟨S,h1,h2,h3⟩:=CX;exact ⟨b,S,hb,h1,h2,h3⟩
   refine nM.ent' h.ent (fun g cs ty fz hc=> ?_) u Ye hu;have hgl:g<wr.heap.size:=(Array.getElem?_eq_some_iff.1 hc).1
   have h1:g≠it:=fun e=>by
    subst e;obtain ⟨_,_,es,ia,seen,_,hr,_⟩:=h.iter;rw [hc] at hr;cases hr
   have h2:g≠rm:=fun e=>by
    subst e;obtain ⟨es,ia,hr,_⟩:=h.map;rw [hc] at hr;cases hr
   have h4:=hg.size;rw [hk g (by omega) h2,hg.block g hgl (by intro e;injection e with e;exact h1 e)]
 · rw [bk];have h1:t≠u:=fun e=>hns (e▸hu)
   rw [if_neg h1];exact h.sep u ((hkl u).2 (.inr hu))
 rw [bH];rcases h.all u hu with h1|h1
 · rcases (hkl u).1 h1 with h2|h2
   · exact .inr (.inl h2)
   exact .inl h2
 exact .inr (.inr h1)
structure nN (F:Nat->Prop) (IM:Nat) (XS IS:List (aa × Nat)) (K:Nat->List (aa × Unit)) (w1:World) (rm it:Nat) (left:List (aa × Nat)) (L:List (aa × (Value × Value))) (wq:World):Prop where
 iter:aL ek wq IM it IS left
 map:ah qp wq rm L
 env:Env w1 wq
 size:w1.heap.size<=wq.heap.size
 fr:∀b,b<w1.heap.size->b≠rm->b≠it->wq.heap[b]?=w1.heap[b]?
 ent:∀t ie,ai L t=some ie->∃b S,ai XS t=some b/\bK F wq ie.2 S/\(∀x,x∈S↔x∈af (K b))/\∃A n c,ie.1= .slice A n c
 all:∀t,t∈af XS->t∈af L
theorem nN.cellsKept {F:Nat->Prop} {IM:Nat} {XS IS:List (aa × Nat)} {K:Nat->List (aa × Unit)} {w1:World} {rm it:Nat} {left:List (aa × Nat)} {L:List (aa × (Value × Value))} {wr wn wq:World} (h:nN F IM XS IS K w1 rm it left L wr) (hg:wr.grownBy wn (some it)) (hk:∀c,c<wn.heap.size->c≠rm->wq.heap[c]?=wn.heap[c]?):
 ∀(g:Nat) cs ty fz,wr.heap[g]?=some (Obj.cells cs ty fz)->wq.heap[g]?=wr.heap[g]?:=fun g cs ty fz hc=>by
 have hgl:g<wr.heap.size:=(Array.getElem?_eq_some_iff.1 hc).1
 have h1:g≠it:=fun e=>by
  subst e;obtain ⟨_,_,es,ia,seen,_,hr,_⟩:=h.iter;rw [hc] at hr;cases hr
 have h2:g≠rm:=fun e=>by
  subst e;obtain ⟨es,ia,hr,_⟩:=h.map;rw [hc] at hr;cases hr
 have h4:=hg.size;rw [hk g (by omega) h2,hg.block g hgl (by intro e;injection e with e;exact h1 e)]
theorem nN.skip {F:Nat->Prop} {IM:Nat} {XS IS:List (aa × Nat)} {K:Nat->List (aa × Unit)} {w1:World} {rm it:Nat} {left left':List (aa × Nat)} {L:List (aa × (Value × Value))} {wr wn:World} (h:nN F IM XS IS K w1 rm it left L wr)
 (hI:aL ek wn IM it IS left') (hg:wr.grownBy wn (some it)) (hir:it≠rm):nN F IM XS IS K w1 rm it left' L wn:=by
 refine ⟨hI,h.map.grown hg (by intro e;injection e with e;exact hir e),h.env.trans (Env.grown hg),Nat.le_trans h.size hg.size,fun c hc h1 h2=> ?_,nM.ent' h.ent (h.cellsKept hg (fun _ _ _=>rfl)),h.all⟩;have h3:=h.size;rw [hg.block c (by omega) (by intro e;injection e with e;exact h2 e)];exact h.fr c hc h1 h2
theorem nN.step {F:Nat->Prop} {IM:Nat} {XS IS:List (aa × Nat)} {K:Nat->List (aa × Unit)} {w1:World} {rm it:Nat} {left left':List (aa × Nat)} {L:List (aa × (Value × Value))} {wr wn wq:World} (h:nN F IM XS IS K w1 rm it left L wr) {t:aa} {ie:Value × Value} {v:Value}
 (hI:aL ek wn IM it IS left') (hL:ai L t=some ie) (hg:wr.grownBy wn (some it)) (he:Env wn wq) (hs:wn.heap.size<=wq.heap.size) (hk:∀c,c<wn.heap.size->c≠rm->wq.heap[c]?=wn.heap[c]?)
 (hM:ah qp wq rm (bN L t (v,ie.2))) (Yd:IM≠rm) (hir:it≠rm) (hv:∃A n c,v= .slice A n c):nN F IM XS IS K w1 rm it left' (bN L t (v,ie.2)) wq:=by
 refine ⟨hI.keep (hk IM hI.map.lt Yd) (hk it hI.lt hir),hM,h.env.trans ((Env.grown hg).trans he),Nat.le_trans h.size (Nat.le_trans hg.size hs),fun c hc h1 h2=> ?_,fun u Ye hu=> ?_,fun u hu=> ?_⟩
 · have h3:=h.size;have h4:=hg.size;rw [hk c (by omega) h1,hg.block c (by omega) (by intro e;injection e with e;exact h2 e)];exact h.fr c hc h1 h2
 · have hent:=nM.ent' h.ent (h.cellsKept hg hk);rw [bk] at hu;split at hu
   · rename_i e;subst e;injection hu with hu
     subst hu;obtain ⟨b,S,h1,h2,h3,_⟩:=hent t ie hL;exact ⟨b,S,h1,h2,h3,hv⟩
   exact hent u Ye hu
 rw [bH];exact .inr (h.all u hu)
theorem Ga (n:Nat) (hn:n<=100000) (w:World):(Instr.makeSlice 22 (.int .i64 0) (.int .i64 n)).run Tryz.prog w= .ok (.slice (some ⟨w.heap.size,0,none⟩) 0 n) (w.alloc (.cells (madeCells (Value.string ⟨#[]⟩).cells (n*1)) 9)):=by
 obtain ⟨i,hi,hz,hs,hb⟩:=Ag;have h:=run_makeSlice (P:=Tryz.prog) w 22 9 i _ BL hi hz .i64 .i64 0 n (Int.le_refl _) (by omega) (by rw [hs];simp;omega) (by rw [hb];omega) (by omega);rw [hs] at h;simpa using h
end Go.Proofs.YtjenhelmpcajfaaGreatDoor
