/- the search: first ways -/
import Derived.Test.YtjenhelmpcajfaaGreatDoorA29
set_option linter.all false
set_option maxRecDepth 20000
set_option maxHeartbeats 8000000
namespace Go.Proofs.YtjenhelmpcajfaaGreatDoor
open Go.Proofs.Tryz Go.RowKit
abbrev cp (c:Nat):Value:= .pointer (some ⟨c,0,none⟩)
def Sp.args (s:Sp) (p:aa) (v:Value):Array Value:= #[.string p,v,cp s.c2,cp s.c3,cp s.c4,cp s.c5,cp s.c6,cp s.c7,cp s.c8,cp s.c9,cp s.c10]
theorem z5 (w:World):(zeroValue 5).run Tryz.prog w= .ok (.int .u8 0) w:=by kernel_rfl
def nH (s:Sp) (root:aa) (ig:List aa) (pks:List Pk) (path:List aa) (p:aa) (v:Value) (w:World) (C XS:List (aa × Nat)) (K:Nat->List (aa × Unit)) (e:Ending) (w':World):Prop:=
 (∃b,e= .returned (.bool b))/\Fr s path.length v w w'/\∃C' UA IS' E' K',gM s pks w' C' UA IS' E' K'/\iE root ig pks path p (bw C) (fx XS K) (bw C') (fx UA K')
section
variable {s:Sp} {pks:List Pk} {w w':World} {C XS IS:List (aa × Nat)} {E:List (aa × Value)} {K:Nat->List (aa × Unit)}
theorem gM.setX (h:gM s pks w C XS IS E K) (BJ:∀b∈s.maps,b<s.lo) (hn:s.maps.Nodup) (OL:¬s.nr) (hg:w.grownBy w' (some s.xm)) {y:aa} {b:Nat} (hM:ah ek w' s.xm (bN XS y b)) (hb:b∈XS.map (·.2)++IS.map (·.2)) (hy:(ai XS y).isSome=true):gM s pks w' C (bN XS y b) IS E K:=by
 obtain ⟨n1,n2,n3,n4,n5,n6⟩:=lG hn;refine ⟨h.cm.grown hg (by simpa using Ne.symm n2),hM,h.im.grown hg (by simpa using n6),h.em.grown hg (by simpa using Ne.symm n4),fun c hc=> ?_,fun hr=>absurd hr OL,fun t=> ?_,h.cc⟩
 · refine h.other BJ (by simp [Sp.maps]) hg c ?_;rcases List.mem_append.1 hc with hc|hc
   · obtain ⟨⟨t,d⟩,hm,rfl⟩:=List.mem_map.1 hc;have h1:=ey hM.nodup hm;rw [bk] at h1;split at h1
     · injection h1 with h1;rw [<-h1];exact hb
     exact h.bx h1
   exact List.mem_append_right _ hc
 rw [bk];split
 · rename_i e;rw [<-e,<-h.same,hy];rfl
 exact h.same t
theorem gM.setI (h:gM s pks w C XS IS E K) (BJ:∀b∈s.maps,b<s.lo) (hn:s.maps.Nodup) (OL:¬s.nr) (hg:w.grownBy w' (some s.im)) {y:aa} {b:Nat} (hM:ah ek w' s.im (bN IS y b)) (hb:b∈XS.map (·.2)++IS.map (·.2)) (hy:(ai XS y).isSome=true):gM s pks w' C XS (bN IS y b) E K:=by
 obtain ⟨n1,n2,n3,n4,n5,n6⟩:=lG hn;refine ⟨h.cm.grown hg (by simpa using Ne.symm n3),h.xm.grown hg (by simpa using Ne.symm n6),hM,h.em.grown hg (by simpa using Ne.symm n5),fun c hc=> ?_,fun hr=>absurd hr OL,fun t=> ?_,h.cc⟩
 · refine h.other BJ (by simp [Sp.maps]) hg c ?_;rcases List.mem_append.1 hc with hc|hc
   · exact List.mem_append_left _ hc
   obtain ⟨⟨t,d⟩,hm,rfl⟩:=List.mem_map.1 hc;have h1:=ey hM.nodup hm;rw [bk] at h1;split at h1
   · injection h1 with h1;rw [<-h1];exact hb
   exact h.bi h1
 rw [bk];split
 · rename_i e;rw [<-e,hy];rfl
 exact h.same t
theorem gM.objM (h:gM s pks w C XS IS E K) {b:Nat} (hb:b∈s.maps):¬s.stat b/\∃es c,w.heap[b]?=some (.map es c):=by
 refine ⟨fun hs=>hs.2 hb, ?_⟩;simp [Sp.maps] at hb;rcases hb with rfl|rfl|rfl|rfl
 · obtain ⟨es,c,h2,_⟩:=h.cm;exact ⟨es,c,h2⟩
 · obtain ⟨es,c,h2,_⟩:=h.em;exact ⟨es,c,h2⟩
 · obtain ⟨es,c,h2,_⟩:=h.xm;exact ⟨es,c,h2⟩
 obtain ⟨es,c,h2,_⟩:=h.im;exact ⟨es,c,h2⟩
theorem nE.fr {root:aa} {ig:List aa} {fv:Value} {n:Nat} {v:Value} (h:nE s root ig pks fv w) (hf:Fr s n v w w'):nE s root ig pks fv w':=h.keep hf.stat hf.size
theorem Fr.path {n:Nat} {v u:Value} {F:Nat->Prop} {l:List aa} (h:Fr s n v w w') (hO:Own aD s.lo 9 F w u l) (hu:v.ownBlock=u.ownBlock->l.length<=n):Own aD s.lo 9 F w' u l:=by
 have hrow:=aW hO;refine cV ?_ (fun k hk=>bh hO hk);refine ⟨hrow.1, ?_⟩;rcases hrow.2 with hn|⟨g,cap,cur,rfl,hb,hg,hnc,hcm,hcs,htake⟩
 · exact .inl hn
 by_cases he:v.ownBlock=some g
 · obtain ⟨cur',k1,k2,k3⟩:=h.own g cur he hg;refine .inr ⟨g,cap,cur',rfl,hb,k1,hnc,hcm,by rw [k2];exact hcs, ?_⟩;have hle:l.length<=n:=hu (by rw [he];rfl);rw [<-htake];have h3:=congrArg (List.take (l.length*1)) k3;rw [List.take_take,List.take_take,Nat.min_eq_left (by omega)] at h3;exact h3
 exact .inr ⟨g,cap,cur,rfl,hb,h.cells g _ hb hg (by intro es c e;cases e) he,hnc,hcm,hcs,htake⟩
theorem tK {l:List (aa × Nat)} {t:aa} (h:(ai l t).isSome=true):∃b,ai l t=some b:=Option.isSome_iff_exists.1 h
end
theorem z232 (w:World):(zeroValue 232).run Tryz.prog w= .ok (.map none) w:=by kernel_rfl
theorem I9 {s:Sp} {root:aa} {ig:List aa} {pks:List Pk} {fv:Value} {C XS IS:List (aa × Nat)} {E:List (aa × Value)} {K:Nat->List (aa × Unit)} (p:aa) (v:Value) (path front rest:List aa) (w:World) (hS:nE s root ig pks fv w) (hD:gM s pks w C XS IS E K)
 (hF:sG root ig pks path (bw C) (fx XS K)) (hO:Own aD s.lo 9 (fun b=>v.ownBlock=some b) w v path) (hn:path.Nodup) (hl:path.length<=1000000) (hp:path=front++p::rest) (hrest:bg root ig pks->rest= []):
 Calls Tryz.prog 135 (s.args p v) w fun e w'=>nH s root ig pks path p v w C XS K e w':=by
 obtain ⟨A,cap,hv⟩:=hO.form;generalize hnl:path.length=n at hv hl;subst hv;have pV:p∈path:=by rw [hp];simp
 have hc1:ai C p=some 1:=by
  have:bw C p=1:=(hF.grey p).2 pV;unfold bw at this
  cases hg:ai C p with
  | none=>rw [hg] at this;cases this
  | some c=>rw [hg] at this;simpa using this
 have hdom:Hid (∀t∈path,(ai XS t).isSome=true):=Y0 fun t ht=>by
  obtain ⟨S,hS⟩:=hF.open_ t ht;unfold fx at hS
  cases hg:ai XS t with
  | none=>rw [hg] at hS;cases hS
  | some c=>rfl
 have iD:(((ai C p).map jg).getD (.int .u8 0))= .int .u8 1:=by rw [hc1];rfl
 have HD:=Y0 hD;have HS:=Y0 hS;have HO:=Y0 hO;have x2:=cellAt (j:=0) hS.c2 rfl;have hz:=z5;have hz2:=z232;have HF:=Y0 hF;have hfl:=Y0 (show front.length+1+rest.length=n by rw [<-hnl,hp];simp;omega);have qR:1<=n:=by have:=hfl.out;omega
 have qw:front.length<n:=by have:=hfl.out;omega
 have HN:=Y0 hn;have HP:=Y4 hp hrest pV hnl;have hrow:=aW hO;rw [hnl] at hrow;obtain ⟨g,cap',hA,_,_⟩:=hrow.form (by omega);simp only [Value.slice.injEq,true_and] at hA;obtain ⟨rfl,rfl⟩:=hA;clear hD hS hF hrow hO hn hp hrest pV hnl;unfold Sp.args;go_enter func135,ntmps135;go_wp2_with (refine bL (f:=jg) rfl _ _ 288 rfl _ _ underlying288 underlying9 (.int .u8 0) hz rfl HD.out.cm rfl ?_;rw [iD];go_frame);go_loopw [31,179] (fun b i wr=>∃(k:Nat) (nI CS:List (aa × Nat)),i= .int .i64 k/\k<=n/\b= .bool (decide (front.length<k))/\Hid (gM s pks wr C nI CS E K/\Fr s n (.slice (some ⟨g,0,none⟩) n cap) w wr/\(∀t,(ai nI t).isSome=(ai XS t).isSome)/\(rest= []->nI=XS/\CS=IS))) (fun _ i _=>n - (intOf i).toNat)
 case atStart=>exact ⟨0,XS,IS,rfl,by omega,by rw [decide_eq_false (by omega)],Y0 ⟨HD.out,Fr.refl _ _ _ _,fun _=>rfl,fun _=>⟨rfl,rfl⟩⟩⟩
 obtain ⟨k,nI,CS,rfl,hk,rfl,hc⟩:=hrel;by_cases hlt:k<n
 · have hlt':(k:Int)<(n:Int):=by omega
   obtain ⟨y,hy⟩:∃y,path[k]?=some y:=⟨_,List.getElem?_eq_getElem (by rw [HP.out.2.2.2];exact hlt)⟩;have hyp:=Y0 (List.mem_of_getElem? hy);have hrow:=aW (hc.out.2.1.path HO.out (fun _=>by rw [HP.out.2.2.2];exact Nat.le_refl _));rw [HP.out.2.2.2] at hrow;have yO:eW s.lo 9 wr g cap path:=by unfold eW;rw [HP.out.2.2.2];exact hrow
   have hcell:=yO.at_ hy;clear hrow yO;rcases Nat.lt_trichotomy k front.length with kJ|kJ|kJ
   · have Fz:decide (front.length<k)=false:=decide_eq_false (by omega);rw [Fz]
     have hne:y≠p:=fun e=>by
      rw [HP.out.1,List.getElem?_append_left kJ] at hy;have h5:=HN.out;rw [HP.out.1,List.nodup_append] at h5;exact h5.2.2 y (List.mem_of_getElem? hy) p (by simp) e
     have vU:(y.toList==p.toList)=false:=by
      rw [beq_eq_false_iff_ne,ByteArray.toList_eq,ByteArray.toList_eq];exact fun e=>hne (ByteArray.ext (Array.ext' e))
     clear hy Fz hne;go_wp2;exact ⟨⟨k+1,nI,CS,by go_num,by omega,by rw [decide_eq_false (by omega)],hc⟩,by simp [intOf];omega⟩
   · have Fz:decide (front.length<k)=false:=decide_eq_false (by omega);rw [Fz]
     have hpk:y=p:=by
      rw [HP.out.1,kJ,List.getElem?_append_right (Nat.le_refl _)] at hy;simpa using hy.symm
     subst hpk;have vU:(y.toList==y.toList)=true:=by simp
     have XB:front.length<k+1:=by omega
     clear hy Fz kJ;go_wp2;exact ⟨⟨k+1,nI,CS,by go_num,by omega,by rw [decide_eq_true XB],hc⟩,by simp [intOf];omega⟩
   have Fz:decide (front.length<k)=true:=decide_eq_true kJ;rw [Fz];have hre:Hid (rest≠ []):=Y0 fun e=>by have h1:=hfl.out;rw [e] at h1;simp at h1;omega
   have OL:Hid (¬s.nr):=Y0 fun h=>hre.out (HP.out.2.1 (by rw [<-HS.out.nr];exact h))
   obtain ⟨b,hb⟩:=tK (by rw [hc.out.2.2.1 p];exact hdom.out p HP.out.2.2.1);obtain ⟨bi,xR⟩:=tK (by rw [<-hc.out.1.same p,hb];rfl);have hys:Hid ((ai nI y).isSome=true):=Y0 (by rw [hc.out.2.2.1 y];exact hdom.out y hyp.out);have lZ:(((ai nI p).map ek).getD (.map none))= .map (some b):=by rw [hb];rfl
   have hl2:(((ai CS p).map ek).getD (.map none))= .map (some bi):=by rw [xR];rfl
   have HB:=Y2 hb xR;have qo:=HS.out.fr hc.out.2.1;have y7:=cellAt (j:=0) qo.c7 rfl;have y8:=cellAt (j:=0) qo.c8 rfl;have HSr:=Y0 qo;clear hy Fz hb xR qo;have flag:True:=trivial
   go_wp2_with (first
    | (clear flag;refine bL (o:=⟨some 188,_,_,_,_,_⟩) (f:=ek) rfl _ _ 289 rfl _ _ underlying289 underlying9 (.map none) hz2 rfl hc.out.1.xm rfl ?_;rw [lZ];have aj:True:=trivial;go_frame)
    | (clear aj;refine aM (f:=ek) (b:=b) rfl _ _ _ 289 rfl _ _ underlying289 underlying9 rfl hc.out.1.xm rfl rfl ?_;intro w2 yb oz hs2;have Dl:=Y0 (hc.out.1.setX HS.out.ml HS.out.mn OL.out oz yb (hc.out.1.bx HB.out.1) hys.out);have HF2:=Y0 (hc.out.2.1.touch HS.out.lo oz (.inr (HD.out.objM (by simp [Sp.maps]))));have ji:=HS.out.fr HF2.out;have z7:=cellAt (j:=0) ji.c7 rfl;have z8:=cellAt (j:=0) ji.c8 rfl;clear yb oz hs2 ji;have au:True:=trivial;go_frame)
    | (clear au;refine bL (o:=⟨some 193,_,_,_,_,_⟩) (f:=ek) rfl _ _ 289 rfl _ _ underlying289 underlying9 (.map none) hz2 rfl Dl.out.im rfl ?_;rw [hl2];have aQ:True:=trivial;go_frame)
    | (clear aQ;refine aM (f:=ek) (b:=bi) rfl _ _ _ 289 rfl _ _ underlying289 underlying9 rfl Dl.out.im rfl rfl ?_;intro w3 nJ gD hs3;have Hx:=Y0 (Dl.out.setI HS.out.ml HS.out.mn OL.out gD nJ (Dl.out.bi HB.out.2) (by rw [bk];split;rfl;exact hys.out));have vK:=Y0 (HF2.out.touch HS.out.lo gD (.inr (HD.out.objM (by simp [Sp.maps]))));clear nJ gD hs3;go_frame))
   refine ⟨⟨k+1,_,_,by go_num,by omega,by rw [decide_eq_true (by omega)],Y0 ⟨Hx.out,vK.out,fun t=> ?_,fun e=>absurd e hre.out⟩⟩,by simp [intOf];omega⟩;rw [bk];split
   · rename_i e;rw [<-e,hdom.out y hyp.out];rfl
   exact hc.out.2.2.1 t
 have kJ:k=n:=by omega
 have Fz:decide (front.length<k)=true:=decide_eq_true (by omega);rw [Fz];subst kJ;clear hfl Fz;go_wp2;go_ret;refine ⟨⟨true,rfl⟩,by rw [HP.out.2.2.2];exact hc.out.2.1,C,nI,CS,E,K,hc.out.1,iE.grey HF.out HP.out.2.2.1 (fun t=> ?_) (fun hN=>by rw [(hc.out.2.2.2 (HP.out.2.1 hN)).1])⟩;have h1:=hc.out.2.2.1 t;unfold fx;rw [Option.isSome_map,Option.isSome_map];exact h1
section
variable {s:Sp} {root:aa} {ig:List aa} {pks:List Pk} {fv:Value} {w w':World} {C XS IS:List (aa × Nat)} {E:List (aa × Value)} {K:Nat->List (aa × Unit)}
theorem gM.obj (h:gM s pks w C XS IS E K) {b:Nat} (hb:b∈XS.map (·.2)++IS.map (·.2)):¬s.stat b/\∃es c,w.heap[b]?=some (.map es c):=by
 obtain ⟨h1,⟨es,c,h2,_⟩,_⟩:=h.ks b hb;exact ⟨fun hs=>by have:=hs.1;omega,es,c,h2⟩
end
theorem FA {s:Sp} {root:aa} {ig:List aa} {pks:List Pk} {fv:Value} {C XS IS:List (aa × Nat)} {E:List (aa × Value)} {K:Nat->List (aa × Unit)} (p:aa) (v:Value) (path:List aa) (w:World) (hS:nE s root ig pks fv w) (hD:gM s pks w C XS IS E K)
 (hF:sG root ig pks path (bw C) (fx XS K)) (hO:Own aD s.lo 9 (fun b=>v.ownBlock=some b) w v path) (hl:path.length<=1000000) (hp:bw C p=2):
 Calls Tryz.prog 135 (s.args p v) w fun e w'=>nH s root ig pks path p v w C XS K e w':=by
 obtain ⟨A,cap,hv⟩:=hO.form;generalize hnl:path.length=n at hv;subst hv
 have hc1:ai C p=some 2:=by
  unfold bw at hp
  cases hg:ai C p with
  | none=>rw [hg] at hp;cases hp
  | some c=>rw [hg] at hp;simpa using hp
 have iD:(((ai C p).map jg).getD (.int .u8 0))= .int .u8 2:=by rw [hc1];rfl
 have HD:=Y0 hD;have HS:=Y0 hS;have HO:=Y0 hO;have x2:=cellAt (j:=0) hS.c2 rfl;have x7:=cellAt (j:=0) hS.c7 rfl;have x8:=cellAt (j:=0) hS.c8 rfl;have x4:=cellAt (j:=0) hS.c4 rfl;have hz:=z5;have hz2:=z232;have HF:=Y0 hF;have vG:p∉path:=fun h=>by rw [(hF.grey p).2 h] at hp;cases hp
 have HPP:=Y0 vG;have HC:=Y0 hp;clear hS hD hF hO vG hp;by_cases tL:∃q,fL ig pks p q
 · obtain ⟨q,hq⟩:=tL;obtain ⟨Sp0,hX,hXm⟩:=HF.out.black p q HC.out hq
   obtain ⟨b,hb,hbK⟩:∃b,ai XS p=some b/\(bg root ig pks->∀x,x∈af (K b)↔iR root ig pks p x):=by
    unfold fx at hX
    cases hg:ai XS p with
    | none=>rw [hg] at hX;cases hX
    | some b=>rw [hg] at hX;simp at hX;exact ⟨b,rfl,fun hN x=>by rw [hX];exact hXm hN x⟩
   obtain ⟨bi,xR⟩:∃bi,ai IS p=some bi:=by
    have:=HD.out.same p;rw [hb] at this;exact Option.isSome_iff_exists.1 this.symm
   have XC:(((ai XS p).map ek).getD (.map none))= .map (some b):=by rw [hb];rfl
   have MR:(ai XS p).isSome=true:=by rw [hb];rfl
   have hl8:(((ai IS p).map ek).getD (.map none))= .map (some bi):=by rw [xR];rfl
   have HB:=Y4 hb xR hbK hq;clear hb xR hbK hX hXm hq;unfold Sp.args;go_enter func135,ntmps135
   go_wp2_with (first
    | (revert iD;intro fu;refine bL (o:=⟨some 47,_,_,_,_,_⟩) (f:=jg) rfl _ _ 288 rfl _ _ underlying288 underlying9 (.int .u8 0) hz rfl HD.out.cm rfl ?_;rw [fu];clear fu;go_frame)
    | (revert XC;intro fu;refine bA (o:=⟨some 206,_,_,_,_,_⟩) (f:=ek) rfl _ _ 289 rfl _ _ underlying289 underlying9 (.map none) hz2 rfl HD.out.xm rfl ?_;rw [fu,MR];clear fu;go_frame)
    | (revert hl8;intro fu;refine bL (o:=⟨some 218,_,_,_,_,_⟩) (f:=ek) rfl _ _ 289 rfl _ _ underlying289 underlying9 (.map none) hz2 rfl HD.out.im rfl ?_;rw [fu];clear fu;go_frame))
   go_loopw [221] (fun i wr=>∃(k:Nat) (K1:Nat->List (aa × Unit)),i= .int .i64 k/\k<=n/\Hid (gM s pks wr C XS IS E K1/\Fr s n (.slice A n cap) w wr/\(bg root ig pks->(∀t,t∉path.take k->fx XS K1 t=fx XS K t)/\∀t∈path.take k,∀S,fx XS K t=some S->∃S',fx XS K1 t=some S'/\∀x,x∈S'↔x∈S\/iR root ig pks p x))) (fun i _=>n - (intOf i).toNat)
   case atStart=>exact ⟨0,K,rfl,by omega,Y0 ⟨HD.out,Fr.refl _ _ _ _,fun _=>⟨fun _ _=>rfl,by simp⟩⟩⟩
   obtain ⟨k,K1,rfl,hk,hc⟩:=hrel;by_cases hlt:k<n
   · have hlt':(k:Int)<(n:Int):=by omega
     obtain ⟨y,hy⟩:∃y,path[k]?=some y:=⟨_,List.getElem?_eq_getElem (by omega)⟩;have hyp:y∈path:=List.mem_of_getElem? hy;have hOr:=hc.out.2.1.path HO.out (fun _=>by omega);have hrow:=aW hOr;rw [hnl] at hrow;obtain ⟨g,cap',hA,_,_⟩:=hrow.form (by omega);simp only [Value.slice.injEq,true_and] at hA;obtain ⟨rfl,rfl⟩:=hA;have yO:eW s.lo 9 wr g cap path:=by unfold eW;rw [hnl];exact hrow
     have hcell:=yO.at_ hy
     have htk:Hid (∀u,u∈path.take (k+1)↔u∈path.take k\/u=y):=Y0 (fun u=>by
      have h1:k<path.length:=by omega
      have h2:path[k]=y:=by rw [List.getElem?_eq_getElem h1] at hy;exact Option.some.inj hy
      rw [List.take_succ_eq_append_getElem h1,h2,List.mem_append,List.mem_singleton])
     obtain ⟨c,zZ⟩:∃c,ai XS y=some c:=by
      obtain ⟨S,hS⟩:=HF.out.open_ y hyp;unfold fx at hS
      cases hg:ai XS y with
      | none=>rw [hg] at hS;cases hS
      | some c=>exact ⟨c,rfl⟩
     obtain ⟨ci,sI⟩:∃ci,ai IS y=some ci:=by
      have:=HD.out.same y;rw [zZ] at this;exact Option.isSome_iff_exists.1 this.symm
     have hyn:y≠p:=fun e=>HPP.out (e▸hyp)
     have XD:(((ai XS y).map ek).getD (.map none))= .map (some c):=by rw [zZ];rfl
     have MS:(ai XS y).isSome=true:=by rw [zZ];rfl
     have MT:(((ai IS y).map ek).getD (.map none))= .map (some ci):=by rw [sI];rfl
     have FB:(ai IS y).isSome=true:=by rw [sI];rfl
     have qo:=HS.out.fr hc.out.2.1;have y7:=cellAt (j:=0) qo.c7 rfl;have Ja:=Y0 (hc.out.1.ks b (hc.out.1.bx HB.out.1)).2.1;have XE:=Y0 (hc.out.1.ks c (hc.out.1.bx zZ)).2.1;have HY:=Y3 hyp zZ sI;clear hy hyp hOr hrow yO zZ sI hyn qo;obtain ⟨wo,hwo⟩:∃W,W=wr:=⟨_,rfl⟩;subst hwo
     go_wp2_with (first
      | (revert XD;intro fu;refine bA (o:=⟨some 228,_,_,_,_,_⟩) (f:=ek) rfl _ _ 289 rfl _ _ underlying289 underlying9 (.map none) hz2 rfl hc.out.1.xm rfl ?_;rw [fu,MS];clear fu;go_frame)
      | (refine bp (o:=⟨some 233,_,_,_,_,_⟩) rfl _ _ rfl _ _ underlying232 rfl Ja.out ?_;intro w1 hI az hs1;have hps:=Y0 (jN.start XE.out hI az (fun e x hx=>by rw [e];exact hx));clear hI az hs1;go_frame))
     go_loopw [41] (fun _ wq=>∃(left:List _) (K2:List (aa × Unit)),Hid (jN bY wo c (K1 c) b wo.heap.size (K1 b) left wq K2)) (fun _ wq=>gz wq wo.heap.size)
     case atStart=>exact ⟨_,_,Y0 hps.out⟩
     obtain ⟨left,Kc,hp1⟩:=hrel
     cases left with
     | cons pr eX=>
       have aU:True:=trivial
       go_wp2_with (first
        | (clear aU;refine ay (o:=⟨some 234,_,_,_,_,_⟩) rfl _ rfl rfl hp1.out.iter (by intro h;cases h) ?_;intro y2 b2 left' w2 hmem hget eI ba hlen hns hg2 hs2 hent;have bO:=Y5 eI ba hlen hns hg2;have kT:=Y0 (hp1.out.set.grown hg2 (by intro e;injection e with e;have h1:=hp1.out.lt;have h2:=hp1.out.it_;omega));clear hmem hget eI ba hlen hns hg2 hs2;go_frame)
        | (refine jw rfl _ _ _ 232 rfl _ _ underlying232 underlying9 rfl kT.out rfl rfl ?_;intro w3 nJ gD hs3 lL;go_frame))
       have hst:=hp1.out.step bO.out.1 bO.out.2.1 bO.out.2.2.2.1 bO.out.2.2.2.2 nJ gD lL
       exact ⟨⟨left',_,Y0 hst⟩,by rw [aG hst.iter,aG hp1.out.iter];have:=bO.out.2.2.1;omega⟩
     | nil=>
       have hk1:=hp1.out.done
       have hsub:∀x∈af Kc,x∈bT pks:=fun x hx=>by
        rcases (hk1 x).1 hx with h|h
        · exact (hc.out.1.ks c (hc.out.1.bx HY.out.2.1)).2.2 x h
        exact (hc.out.1.ks b (hc.out.1.bx HB.out.1)).2.2 x h
       have mP:=Y0 (hc.out.1.touch HS.out.ml (hc.out.1.bx HY.out.2.1) hp1.out.grown hp1.out.set hsub);have hF2:=Y0 (hc.out.2.1.touch HS.out.lo hp1.out.grown (.inr (HD.out.obj (HD.out.bx HY.out.2.1))));have Rg:=HS.out.fr hF2.out;have y8:=cellAt (j:=0) Rg.c8 rfl;have XF:=Y0 (mP.out.ks bi (mP.out.bi HB.out.2.1)).2.1;have MU:=Y0 (mP.out.ks ci (mP.out.bi HY.out.2.2)).2.1;have hK1:=Y0 hk1;obtain ⟨wm,Dv⟩:∃W,W=wr:=⟨_,rfl⟩;subst Dv;clear Rg hk1 hsub hlt' y7 hcell;have aU:True:=trivial
       go_wp2_with (first
        | (clear aU;refine ay (o:=⟨some 234,_,_,_,_,_⟩) rfl _ rfl rfl hp1.out.iter ?_ (by intro y2 b2 left' w2 hmem;cases hmem);intro _;go_frame)
        | (revert MT;intro fu;refine bA (o:=⟨some 244,_,_,_,_,_⟩) (f:=ek) rfl _ _ 289 rfl _ _ underlying289 underlying9 (.map none) hz2 rfl mP.out.im rfl ?_;rw [fu,FB];clear fu;go_frame)
        | (refine bp (o:=⟨some 249,_,_,_,_,_⟩) rfl _ _ rfl _ _ underlying232 rfl XF.out ?_;intro w1 hI az hs1;have hps:=Y0 (jN.start MU.out hI az (fun e x hx=>by rw [e];exact hx));clear hI az hs1;go_frame))
       go_loopw [44] (fun _ wq=>∃(left:List _) (K2:List (aa × Unit)),Hid (jN bY wm ci (eZ K1 c Kc ci) bi wm.heap.size (eZ K1 c Kc bi) left wq K2)) (fun _ wq=>gz wq wm.heap.size)
       case atStart=>exact ⟨_,_,Y0 hps.out⟩
       obtain ⟨left,Ki,hp2⟩:=hrel
       cases left with
       | cons pr eX=>
         have aU:True:=trivial
         go_wp2_with (first
          | (clear aU;refine ay (o:=⟨some 250,_,_,_,_,_⟩) rfl _ rfl rfl hp2.out.iter (by intro h;cases h) ?_;intro y2 b2 left' w2 hmem hget eI ba hlen hns hg2 hs2 hent;have bO:=Y5 eI ba hlen hns hg2;have kT:=Y0 (hp2.out.set.grown hg2 (by intro e;injection e with e;have h1:=hp2.out.lt;have h2:=hp2.out.it_;omega));clear hmem hget eI ba hlen hns hg2 hs2;go_frame)
          | (refine jw rfl _ _ _ 232 rfl _ _ underlying232 underlying9 rfl kT.out rfl rfl ?_;intro w3 nJ gD hs3 lL;go_frame))
         have hst:=hp2.out.step bO.out.1 bO.out.2.1 bO.out.2.2.2.1 bO.out.2.2.2.2 nJ gD lL
         exact ⟨⟨left',_,Y0 hst⟩,by rw [aG hst.iter,aG hp2.out.iter];have:=bO.out.2.2.1;omega⟩
       | nil=>
         have hk2:=hp2.out.done
         have yg:∀x∈af Ki,x∈bT pks:=fun x hx=>by
          rcases (hk2 x).1 hx with h|h
          · exact (mP.out.ks ci (mP.out.bi HY.out.2.2)).2.2 x h
          exact (mP.out.ks bi (mP.out.bi HB.out.2.1)).2.2 x h
         have OM:=Y0 (mP.out.touch HS.out.ml (mP.out.bi HY.out.2.2) hp2.out.grown hp2.out.set yg);have XG:=Y0 (hF2.out.touch HS.out.lo hp2.out.grown (.inr (HD.out.obj (HD.out.bi HY.out.2.2))));clear hk2 yg;have aU:True:=trivial;go_wp2_with (clear aU;refine ay (o:=⟨some 250,_,_,_,_,_⟩) rfl _ rfl rfl hp2.out.iter ?_ (by intro y2 b2 left' w2 hmem;cases hmem);intro _;go_frame)
         have Jb:s.nr->∀t,fx XS (eZ (eZ K1 c Kc) ci Ki) t=if t=y then some (af Kc) else fx XS K1 t:=fun hr t=>by
          rw [yf mP.out hr HY.out.2.2,BK hc.out.1 hr HY.out.2.1]
         refine ⟨⟨k+1,_,by go_num,by omega,Y0 ⟨OM.out,XG.out,fun hN=>⟨fun t ht=> ?_,fun t ht S hS=> ?_⟩⟩⟩,by simp [intOf];omega⟩
         all_goals
          replace Jb:=Jb (by rw [HS.out.nr];exact hN)
          have GY:=hc.out.2.2 hN
         · have h1:t∉path.take k/\t≠y:=⟨fun h=>ht ((htk.out t).2 (.inl h)),fun h=>ht ((htk.out t).2 (.inr h))⟩;rw [Jb,if_neg h1.2];exact GY.1 t h1.1
         rw [Jb]
         have hpk:∀x,x∈af (K1 b)↔iR root ig pks p x:=fun x=>by
          have h1:=GY.1 p (fun h=>HPP.out (List.mem_of_mem_take h));unfold fx at h1;rw [HB.out.1] at h1;have h2:af (K1 b)=af (K b):=Option.some.inj h1;rw [h2];exact HB.out.2.2.1 hN x
         by_cases hty:t=y
         · subst hty;rw [if_pos rfl];refine ⟨_,rfl,fun x=> ?_⟩;rw [hK1.out x,hpk x];have hX1:fx XS K1 t=some (af (K1 c)):=by unfold fx;rw [HY.out.2.1];rfl
           by_cases FC:t∈path.take k
           · obtain ⟨S',h3,h4⟩:=GY.2 t FC S hS;rw [hX1] at h3;have h5:=Option.some.inj h3;rw [h5,h4 x];exact ⟨fun h=>by rcases h with (h|h)|h;exact .inl h;exact .inr h;exact .inr h,fun h=>by rcases h with h|h;exact .inl (.inl h);exact .inr h⟩
           have h3:=GY.1 t FC;rw [hX1,hS] at h3;have h5:=Option.some.inj h3;rw [h5]
         rw [if_neg hty];rcases (htk.out t).1 ht with h|h
         · exact GY.2 t h S hS
         exact absurd h hty
   have kJ:k=n:=by omega
   subst kJ;have htk:path.take k=path:=List.take_of_length_le (by omega);have h1:=hc.out.2.2;rw [htk] at h1;have H1:=Y0 h1;clear h1 htk;go_wp2;go_ret;exact ⟨⟨_,rfl⟩,by rw [hnl];exact hc.out.2.1,C,XS,IS,E,K1,hc.out.1,iE.black HF.out HC.out (nG _) (fun hN=>(H1.out hN).1) (fun hN=>(H1.out hN).2)⟩
 have hbad:∀q,¬fL ig pks p q:=fun q h=>tL ⟨q,h⟩
 have hX:=HF.out.bad p HC.out hbad
 have hx:ai XS p=none:=by
  unfold fx at hX
  cases hg:ai XS p with
  | none=>rfl
  | some b=>rw [hg] at hX;cases hX
 have XC:(((ai XS p).map ek).getD (.map none))= .map none:=by rw [hx];rfl
 have MR:(ai XS p).isSome=false:=by rw [hx];rfl
 have HB:=Y0 hbad;clear hX hx hbad tL;unfold Sp.args;go_enter func135,ntmps135
 go_wp2_with (first
  | (revert iD;intro fu;refine bL (o:=⟨some 47,_,_,_,_,_⟩) (f:=jg) rfl _ _ 288 rfl _ _ underlying288 underlying9 (.int .u8 0) hz rfl HD.out.cm rfl ?_;rw [fu];clear fu;go_frame)
  | (revert XC;intro fu;refine bA (o:=⟨some 206,_,_,_,_,_⟩) (f:=ek) rfl _ _ 289 rfl _ _ underlying289 underlying9 (.map none) hz2 rfl HD.out.xm rfl ?_;rw [fu,MR];clear fu;go_frame))
 go_ret;exact ⟨⟨_,rfl⟩,Fr.refl _ _ _ _,C,XS,IS,E,K,HD.out,iE.black HF.out HC.out (fun _=>rfl) (fun _ _ _=>rfl) (fun _ t _ S hS=>⟨S,hS,fun x=>⟨.inl,fun h=>by rcases h with h|h;exact h;exact absurd h (yc HB.out)⟩⟩)⟩
end Go.Proofs.YtjenhelmpcajfaaGreatDoor
