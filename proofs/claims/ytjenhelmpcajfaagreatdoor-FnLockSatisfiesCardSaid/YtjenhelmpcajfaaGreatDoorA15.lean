/- a constraint is read -/
import Derived.Test.YtjenhelmpcajfaaGreatDoorA12
import Derived.Test.YtjenhelmpcajfaaGreatDoorA11
import Derived.Deep.DeepCutAuto
import Derived.Deep.CutBlock
import Derived.Test.YtjenhelmpcajfaaGreatDoorA13
import Derived.Handy
set_option linter.all false
set_option maxRecDepth 100000
set_option maxHeartbeats 16000000
namespace Go.Proofs.YtjenhelmpcajfaaGreatDoor
open Go.Proofs.Tryz Go.RowKit
theorem f165 {F:Nat->Prop} (term:aa) (caret:Bool) (w:World) (hs:term.size<=40) (hg:Gl w) (hF:∀b,F b->b<w.heap.size):
 Calls Tryz.prog 165 #[.string term, .bool caret] w fun e w'=>jq F w' (fo term caret) e/\Below w.heap.size w w':=by
 by_cases h:(if caret && (lJ term).isEmpty then [94] else lJ term)= [94]
 · exact Qc term caret w hs hg hF h
 exact PZ term caret w hs hg hF h
theorem gq.step {F F':Nat->Prop} {w w':World} {v:Value} {c:Sc} (h:gq F w v c) (s:dw F w F' w'):gq F' w' v c:=by
 cases c with
 | ver x=>exact h
 | rng ps=>obtain ⟨rv,h1,h2⟩:=h;exact ⟨rv,h1,h2.step s⟩
theorem gq.less {F F':Nat->Prop} {w:World} {v:Value} {c:Sc} (h:gq F w v c) (s:∀b,b<w.heap.size->F' b->F b):gq F' w v c:=by
 cases c with
 | ver x=>exact h
 | rng ps=>obtain ⟨rv,h1,h2⟩:=h;exact ⟨rv,h1,h2.less s⟩
theorem Cy {ops:Array Oper} {rest:List Oper} {o:Oper} {a:Act} {w:World} {Q:Exit->Act->World->Prop} {F:Nat->Prop} {c d:Sc} {cv dv:Value} (hg:o.guard=none) (r x:Operand) (ty:TypeId)
 (hop:o.op= .call {callee:= .invoke r "Intersect",args:= #[x],argTypes:= #[ty]}) (hr:a.eval r=cv) (hx:a.eval x=dv) (h:gq F w cv c) (h':gq F w dv d) (m m' k k':Nat) (hc:c.Ok m k) (hd:d.Ok m' k') (hk:k<=1000) (hk':k'<=1000) (hm:m*m'<=4000000)
 (hF:∀b,F b->b<w.heap.size) (hK:∀v' w',gq F w' v' (c.inter d)->Below w.heap.size w w'->wpList Tryz.prog ops Q rest (a.put o.dst v') w'):wpList Tryz.prog ops Q (o::rest) a w:=by
 have hargs:(#[x]:Array Operand).map a.eval= #[dv]:=by simp [hx]
 cases c with
 | ver v=>
   have h0:cv= .iface 264 v.val:=h;subst h0
   have ER:d.Oks:=by
    cases d with
    | ver x=>exact hd
    | rng ps=>exact fun p hp=>(hd.2 p hp).mono (by omega)
   refine aT hg r "Intersect" _ _ hop 264 v.val 282 v.val _ hr (fun w=>by kernel_rfl) func282 rfl (by kernel_rfl) hargs _ (f282 v d dv w h' ER hc) ?_;rintro e w' ⟨rv,rfl,h1,h2⟩
   exact ⟨rv,rfl,hK rv w' h1 h2⟩
 | rng ps=>
   obtain ⟨rv,h0,hR⟩:=h;subst h0;obtain ⟨A,cap,rfl⟩:=hR.form
   cases d with
   | ver x=>
     have h0:dv= .iface 264 x.val:=h';subst h0;refine aT hg r "Intersect" _ _ hop 326 _ 358 (.agg #[.slice A ps.length cap]) _ hr (fun w=>by kernel_rfl) func358 rfl (by kernel_rfl) hargs _ (PN ps x _ w hR (fun p hp=>(hc.2 p hp).mono (by omega)) hd) ?_;rintro e w' ⟨rv,rfl,h1,h2⟩
     exact ⟨rv,rfl,hK rv w' h1 h2⟩
   | rng qs=>
     obtain ⟨qv,h0,hQ⟩:=h';subst h0;refine aT hg r "Intersect" _ _ hop 326 _ 358 (.agg #[.slice A ps.length cap]) _ hr (fun w=>by kernel_rfl) func358 rfl (by kernel_rfl) hargs _ (PO ps qs _ qv w hR hQ (fun p hp=>(hc.2 p hp).mono (by omega)) (fun p hp=>(hd.2 p hp).mono (by omega)) (Nat.le_trans (Nat.mul_le_mul hc.1 hd.1) hm) hF) ?_;rintro e w' ⟨rv,rfl,h1,h2⟩;exact ⟨rv,rfl,hK rv w' h1 h2⟩
theorem s8 (b:Bool) (t:aa) (r:List aa) (all:Sc):ue b (t::r) all=match fo (di t) b with
 | none=>none
 | some c=>ue b r (all.inter c):=rfl
theorem mq (b:Bool) (s:aa) (r:List aa) (out:List Pc) (only:Sc):ky b (s::r) out only=match vW b s with
 | none=>none
 | some c=>ky b r (out++c.pcs) c:=rfl
def two (n:Nat):Nat:=2 ^ n
theorem zM {j:Nat} (h:j<=20):two j<=1048576:=Nat.pow_le_pow_right (by decide) h
structure js (caret:Bool) (L:List aa) (k:Nat) (all:Sc) (res:Option Sc):Prop where
 sem:res=ue caret (L.drop k) all
 pos:∀x∈L.take k,0<x.size
 ok:all.Ok (two k) k
theorem js.start (caret:Bool) (L:List aa):js caret L 0 (.rng [.zero]) (ue caret L (.rng [.zero])):=
 ⟨rfl,by simp,by simp [two],fun p hp=>by simp at hp;subst hp;exact ⟨SV.zero_ok,SV.zero_ok,Nat.le_refl _,by simp [Pc.zero]⟩⟩
theorem js.next {caret:Bool} {L:List aa} {k:Nat} {all c:Sc} {res:Option Sc} (h:js caret L k all res) (hk:k<L.length) (hc:fo (di L[k]) caret=some c) (hs:L[k].size<=40):js caret L (k+1) (all.inter c) res:=by
 obtain ⟨h1,h2⟩:=sV hc hs;refine ⟨?_,fun x hx=> ?_, ?_⟩
 · rw [h.sem,List.drop_eq_getElem_cons hk,s8,hc]
 · rw [List.take_succ_eq_append_getElem hk] at hx;rcases List.mem_append.1 hx with hx|hx
   · exact h.pos x hx
   simp at hx;subst hx;exact h2
 have:=DR h.ok h1
 rwa [show two k*2=two (k+1) from (Nat.pow_succ 2 k).symm] at this
theorem js.fail {caret:Bool} {L:List aa} {k:Nat} {all:Sc} {res:Option Sc} (h:js caret L k all res) (hk:k<L.length) (hc:fo (di L[k]) caret=none):res=none:=by
 rw [h.sem,List.drop_eq_getElem_cons hk,s8,hc]
theorem js.done {caret:Bool} {L:List aa} {all:Sc} {res:Option Sc} (h:js caret L L.length all res):res=some all:=by
 rw [h.sem,List.drop_length];rfl
theorem Kf {s:aa} {k:Nat} (hs:s.size<=40) (hk:k<=(cP s ⟨#[44]⟩).length) (h:∀x∈(cP s ⟨#[44]⟩).take k,0<x.size):k<=20:=zk (by decide) hs hk h
theorem ES {c:Sc} {m k:Nat} (hm:1<=m) (h:c.Ok m k):sj c.pcs m k:=by
 cases c with
 | ver v=>exact ⟨by simpa [Sc.pcs] using hm,fun p hp=>by simp [Sc.pcs] at hp;subst hp;exact ⟨h,h,Nat.zero_le _,by simp⟩⟩
 | rng ps=>exact h
structure je (F:Nat->Prop) (w:World) (caret:Bool) (L:List aa) (res:Option (List Pc × Sc)) (lv:Value) (k:Nat) (F':Nat->Prop) (ov yv:Value) (out:List Pc) (only:Sc) (wr:World):Prop where
 sem:res=ky caret (L.drop k) out only
 len:out.length<=k*1048576
 only:0<k->gq F' wr yv only
 cell:av wr w.heap.size #[ov] 326
 own:Own mX (w.heap.size+1) 329 F' wr ov out
 rd:bK F' wr lv L
 lt:∀b,F' b->b<wr.heap.size
 sub:∀b,F b->F' b
 var:F' w.heap.size
 below:Below w.heap.size w wr
section
variable {F:Nat->Prop} {w:World} {caret:Bool} {L:List aa} {res:Option (List Pc × Sc)} {lv:Value} {k:Nat} {F':Nat->Prop} {ov yv:Value} {out:List Pc} {only:Sc} {wr:World}
theorem je.size (h:je F w caret L res lv k F' ov yv out only wr):w.heap.size<wr.heap.size:=(Array.getElem?_eq_some_iff.1 h.cell).1
theorem je.pure (h:je F w caret L res lv k F' ov yv out only wr) {W:World} (hb:Below wr.heap.size wr W):je F w caret L res lv k F' ov yv out only W:=
 ⟨h.sem,h.len,fun hk=>(h.only hk).pure hb,(hb.block _ h.size).trans h.cell,h.own.pure hb,h.rd.pure hb,fun b q=>Nat.lt_of_lt_of_le (h.lt b q) hb.size,h.sub,h.var,h.below.trans (hb.mono h.below.size)⟩
theorem je.push (h:je F w caret L res lv k F' ov yv out only wr) (hk:k<L.length) {c:Sc} {Z5 Ia:Value} {F6:Nat->Prop} {w6:World} (hc:vW caret L[k]=some c) (hy:gq F' wr Z5 c) (hm:c.pcs.length<=1048576)
 (hO:Own mX (w.heap.size+1) 329 F6 w6 Ia (out++c.pcs)) (hS:dw F' wr F6 w6) (hB:Below (w.heap.size+1) wr w6):je F w caret L res lv (k+1) F6 Ia Z5 (out++c.pcs) c (w6.setCell ⟨w.heap.size,0,none⟩ Ia):=by
 have hv:F6 w.heap.size:=hS.grow _ h.var;have iO:dw F6 w6 F6 (w6.setCell ⟨w.heap.size,0,none⟩ Ia):= .setCell hv _;have hs:=h.size;refine ⟨?_, ?_,fun _=>(hy.step hS).step iO, ?_,hO.step iO (fun b hb=>heap_setCell_other _ _ _ _ ?_),(h.rd.step hS).step iO,fun b q=>by simpa using hS.lt h.lt b q,fun b q=>hS.grow b (h.sub b q),hv, ?_⟩
 · rw [h.sem,List.drop_eq_getElem_cons hk,mq,hc]
 · have:=h.len;rw [List.length_append];omega
 · have h3:w6.heap[w.heap.size]?=some (.cells #[ov] 326 (0,0)):=(hB.block _ (by omega)).trans h.cell;exact heap_setCell_same _ _ 0 _ _ _ h3
 · obtain ⟨cs,hr,_⟩:=hO;have:=(hr.lt b hb).1;show b≠w.heap.size;omega
 exact (h.below.trans (hB.mono (by omega))).setCell (Nat.le_refl w.heap.size) _
end
theorem Wo (x:SV):Tryz.prog.built 329 [(0, .agg x.arr),(1, .agg x.arr),(2, .bool true),(3, .bool true),(4, .bool true),(5, .bool true)]=some (Pc.arr ⟨x,x,true,true,true,true, []⟩ dC):=by kernel_rfl
abbrev L1:Array Value:= #[.int .u64 0, .int .u64 0, .int .u64 0, .string ⟨#[]⟩, .string ⟨#[]⟩, .string ⟨#[]⟩, .int .u64 0, .int .u64 0, .int .u64 0, .string ⟨#[]⟩, .string ⟨#[]⟩, .string ⟨#[]⟩, .bool false, .bool false, .bool false, .bool false, .slice none 0 0]
theorem f147 {F:Nat->Prop} (text:aa) (caret:Bool) (w:World) (hs:text.size<=40) (hg:Gl w) (hF:∀b,F b->b<w.heap.size):
 Calls Tryz.prog 147 #[.string text, .bool caret] w fun e w'=>jq F w' (cj text caret) e/\Below w.heap.size w w':=by
 obtain ⟨w1,hw1,g1,hs1,az⟩:=aZ w (.cells #[.slice none 0 0] 326);have uA:=f164 (F:=fun b=>F b\/b=w.heap.size) text ⟨#[124,124]⟩ w1 (by omega) (by decide) (by decide) (fun b hb=>by rcases hb with hb|hb;have:=hF b hb;omega;omega);have HS:=Y0 uA;have HW:=Y4 hw1 g1 hs1 az;have HF:=Y0 hF;have HG:=Y0 hg;have Qg:(cP text ⟨#[124,124]⟩).length<=41:=nZ (by decide) hs;have HLm:=Y0 fun x (h:x∈cP text ⟨#[124,124]⟩)=>lg (by decide) hs h
 have Qh:cj text caret=match ky caret (cP text ⟨#[124,124]⟩) [] (.rng []) with
  | none=>none
  | some (out,only)=>if (cP text ⟨#[124,124]⟩).length=1 then some only else some (.rng out):=rfl
 have Ip:=Y0 Qh;clear uA hw1 g1 hs1 az hF hg Qh;generalize cj text caret=fin at*;generalize cP text ⟨#[124,124]⟩=L at*;obtain ⟨res,hres⟩:∃r,r=ky caret L [] (.rng []):=⟨_,rfl⟩;rw [<-hres] at Ip;have Qi:=Y0 hres;clear hres;go_enter func147,ntmps147;go_wp2_with (go_at_call 164;rw [<-HW.out.1];refine HS.out.mono ?_;rintro e w2 ⟨lv,rfl,jd,cZ⟩;have yI:=jd.form;obtain ⟨LA,lc,rfl⟩:=yI;have H2:=Y2 jd cZ;clear jd cZ)
 have H0:Hid (je F w caret L res (.slice LA L.length lc) 0 (fun b=>F b\/b=w.heap.size) (.slice none 0 0) .nilIface [] (.rng []) w2):=Y0
  ⟨Qi.out,Nat.le_refl _,fun h=>absurd h (by omega),aJ HW.out.2.1 (by have:=HW.out.2.2.1;omega) H2.out.2,Own.nil _ _ _ _ _,H2.out.1,
   fun b hb=>by have h1:=HW.out.2.2.1;have h2:=H2.out.2.size;rcases hb with hb|hb;have:=HF.out b hb;omega;omega,fun b hb=> .inl hb, .inr rfl,HW.out.2.2.2.trans (H2.out.2.mono (by have:=HW.out.2.2.1;omega))⟩
 clear HS H2 HW Qi;go_loopw [7,8,21] (fun si y i wr=>∃(k:Nat) (F':Nat->Prop) (ov:Value) (out:List Pc) (only:Sc),si= .int .i64 k/\i= .int .i64 k/\k<=L.length/\Hid (je F w caret L res (.slice LA L.length lc) k F' ov y out only wr)) (fun _ _ i _=>L.length - (intOf i).toNat)
 case atStart=>exact ⟨0,_,_,_,_,rfl,rfl,by omega,H0⟩
 clear H0;obtain ⟨k,F',ov,out,only,rfl,rfl,hk,H⟩:=hrel;by_cases hlt:k<L.length
 · have hlt':(k:Int)<(L.length:Int):=by omega
   obtain ⟨g,off,rfl,hFg,hg0,hcell⟩:=H.out.rd.at1 hlt;have ET:=HLm.out _ (List.getElem_mem hlt);have L4:=Y0 (show vW caret L[k]=ue caret (cP L[k] ⟨#[44]⟩) (.rng [.zero]) from rfl);obtain ⟨x,hx⟩:∃x,x=L[k]:=⟨_,rfl⟩;rw [<-hx] at ET hcell;have HX:=Y0 hx;rw [<-hx] at L4;clear hx hFg;obtain ⟨w4,hw4,g4,hs4,hB4⟩:=aZ wr (.cells L1 329);have GL:∀b,F' b->b<w4.heap.size:=fun b hb=>by have:=H.out.lt b hb;omega
   have hsp:=f164 (F:=F') x ⟨#[44]⟩ w4 (by omega) (by decide) (by decide) GL;have Z6:gq F' w4 (.iface 326 (.agg #[.slice (some ⟨wr.heap.size,0,none⟩) 1 1])) (.rng [.zero]):=⟨_,rfl,by rw [hw4];exact od .zero rfl H.out.lt⟩;have hk2:=fun j=>Kf (k:=j) ET
   have hl2:(cP x ⟨#[44]⟩).length<=41:=nZ (by decide) ET;have Qj:=Y0 fun y (h:y∈cP x ⟨#[44]⟩)=>lg (by decide) ET h
   have Z7:=Y0 hsp;have HZ:=Y0 Z6;have Ou:=Y0 hk2;have Hy:=Y3 hw4 hs4 hB4;clear hw4 g4 hs4 hB4 hsp Z6 hk2 GL;generalize cP x ⟨#[44]⟩=L2 at*;obtain ⟨L5,qV⟩:∃r,r=ue caret L2 (.rng [.zero]):=⟨_,rfl⟩;have Wp:Hid (L5=ue caret L2 (.rng [.zero])/\vW caret x=L5):=Y0 ⟨qV,by rw [L4.out,qV]⟩;clear qV L4;go_wp2_with (go_at_call 164;rw [<-Hy.out.1];refine Z7.out.mono ?_;rintro e w5 ⟨Z8,rfl,L6,bz⟩;obtain ⟨LA2,lc2,rfl⟩:=L6.form;have H5:=Y2 L6 bz;clear L6 bz);have HC5:=Y0 ((H.out.pure Hy.out.2.2).pure H5.out.2);have Z9:=Y0 (HZ.out.pure H5.out.2);clear hcell HZ Z7 Hy;have Wq:=Y0 H5.out.1;clear H5;obtain ⟨wq,Qk⟩:∃W:World,W=wr:=⟨_,rfl⟩;subst Qk;go_loopw [11,32] (fun y i wr=>∃(j:Nat) (c:Sc),i= .int .i64 j/\j<=L2.length/\Hid (js caret L2 j c L5/\gq F' wr y c/\Below w5.heap.size w5 wr)) (fun _ i _=>L2.length - (intOf i).toNat)
   case atStart=>exact ⟨0, .rng [.zero],rfl,by omega,Y0 ⟨by rw [Wp.out.1];exact js.start caret L2,Z9.out,Below.refl _ _⟩⟩
   clear Z9 H;obtain ⟨j,c,rfl,hj,H⟩:=hrel;have HC:=Y0 (HC5.out.pure H.out.2.2);by_cases lR:j<L2.length
   · have lK:(j:Int)<(L2.length:Int):=by omega
     obtain ⟨g2,mh,rfl,-,hg2,Ws⟩:=(Wq.out.pure H.out.2.2).at1 lR;have Ql:=Qj.out _ (List.getElem_mem lR);have hts:=ir L2[j];have sA:=Y0 (f166 L2[j] wr (by omega));have Cz:=f165 (F:=F') (di L2[j]) caret wr (by omega) (HG.out.pure HC.out.below) HC.out.lt;have Iq:=Ou.out j hj H.out.1.pos;have HM:=Y0 (List.getElem_mem lR)
     cases hr:fo (di L2[j]) caret with
     | none=>
       have hbad:Hid (fin=none):=Y0 (by
        have h1:=H.out.1.fail lR hr;have h2:=HC.out.sem;rw [List.drop_eq_getElem_cons hlt,mq,<-HX.out,Wp.out.2,h1] at h2;rw [Ip.out,h2])
       rw [hr] at Cz;have L8:=Y0 Cz;clear Cz hr;generalize L2[j]=t at*
       go_wp2_with (first
        | (go_at_call 166;refine sA.out.mono ?_;rintro e w6 ⟨rfl,qi⟩;subst qi)
        | (go_at_call 165;refine L8.out.mono ?_;rintro e w7 ⟨⟨em,rfl⟩,iV⟩;have zF:=Y0 iV;clear iV))
       refine bodyPost_ret (results_tmp2 (t:=4) (u:=5) rfl _ _ _) rfl ?_;rw [hbad.out]
       exact ⟨⟨em,rfl⟩,HC.out.below.trans (zF.out.mono HC.out.below.size)⟩
     | some c2=>
       have Qm:=Y0 (H.out.1.next lR hr Ql);have hc2:=Y0 (sV hr Ql).1;rw [hr] at Cz;have L8:=Y0 Cz;clear Cz hr;generalize L2[j]=t at*
       go_wp2_with (first
        | (go_at_call 166;refine sA.out.mono ?_;rintro e w6 ⟨rfl,qi⟩;subst qi)
        | (go_at_call 165;refine L8.out.mono ?_;rintro e w7 ⟨⟨v7,rfl,uB⟩,iV⟩;have H7:=Y2 uB iV;clear uB iV;have flag:True:=trivial)
        | (clear flag;refine Cy (o:=⟨some 48,_,_,_,_,_⟩) rfl _ _ _ rfl rfl rfl (H.out.2.1.pure H7.out.2) H7.out.1 (two j) 2 j 1 H.out.1.ok hc2.out (by omega) (by decide) (by have:=zM Iq;omega) (fun b hb=>Nat.lt_of_lt_of_le (HC.out.lt b hb) H7.out.2.size) ?_;intro v8 w8 hv8 qh;have H8:=Y2 hv8 qh;clear hv8 qh))
       go_roundw
       case rel=>exact ⟨j+1,c.inter c2,by go_num,by omega,Y0 ⟨Qm.out,H8.out.1,(H.out.2.2.trans (H7.out.2.mono H.out.2.2.size)).trans (H8.out.2.mono (Nat.le_trans H.out.2.2.size H7.out.2.size))⟩⟩
       simp [intOf];omega
   have lK:¬(j:Int)<(L2.length:Int):=by omega
   have hjl:j=L2.length:=by omega
   have Iq:=Ou.out j hj H.out.1.pos;have hps:=Y0 (ES (Nat.pow_pos (by decide):1<=two j) H.out.1.ok);have hpl:c.pcs.length<=1048576:=Nat.le_trans hps.out.1 (zM Iq);have aam:=Y0 fun p (h:p∈c.pcs)=>(hps.out.2 p h).mono Iq
   have hdone:Hid (vW caret L[k]=some c):=Y0 (by
    have h:=H.out.1;rw [hjl] at h;rw [<-HX.out,Wp.out.2];exact h.done)
   have hy:=Y0 H.out.2.1;have hol:=HC.out.len;have hvar:w.heap.size<wr.heap.size:=HC.out.size;have hex:=Y0 hjl;clear hjl ET H Ou Qj hl2;obtain ⟨OA,oc,hov⟩:=HC.out.own.form;subst hov;have flag:True:=trivial
   cases c with
   | ver v=>
     have hyv:u11= .iface 264 (.agg v.arr):=hy.out;subst hyv;have t1:=fun w=>Bf (.agg v.arr) w
     have hnl:out.length+1<=44000000:=by omega
     go_wp2_with (first
      | (clear flag;refine cu (o:=⟨none,Op.store 264 (Operand.tmp 16) (Operand.tmp 56),_,_,_,_⟩) (cs:=v.arr) wr rfl _ _ rfl rfl rfl aN rfl v.arr_one ?_;intro W9 H9;have c0:W9.cell? ⟨w.heap.size,0,none⟩=some (.slice OA out.length oc):=ae (HC.out.pure H9.out.2.2).cell rfl;have aj:True:=trivial)
      | (clear aj;refine pK (o:=⟨some 59,_,_,_,_,_⟩) rfl _ rfl wr.heap.size rfl v H9.out.1 ?_;have au:True:=trivial)
      | (clear au;refine pK (o:=⟨some 60,_,_,_,_,_⟩) rfl _ rfl wr.heap.size rfl v H9.out.1 ?_;have aQ:True:=trivial)
      | (clear aQ;refine yF (o:=⟨some 61,_,_,_,_,_⟩) rfl _ _ rfl [(0, .agg v.arr),(1, .agg v.arr),(2, .bool true),(3, .bool true),(4, .bool true),(5, .bool true)] rfl _ (Wo v) ?_;have cf:True:=trivial)
      | (clear cf;refine bP (o:=⟨some 62,_,_,_,_,_⟩) rfl _ _ rfl _ rfl _ _ (sk ⟨v,v,true,true,true,true, []⟩ _) ?_;have Qn:Below W9.heap.size W9 (W9.alloc (.cells (Pc.arr ⟨v,v,true,true,true,true, []⟩ dC) 329)):=(Below.refl _ _).alloc (Nat.le_refl _) _;have EU:=Y0 ((HC.out.pure H9.out.2.2).pure Qn);have hE:=Y0 (od (F:=F') (W:=W9) ⟨v,v,true,true,true,true, []⟩ rfl (HC.out.pure H9.out.2.2).lt);clear Qn;have ft:True:=trivial)
      | (clear ft;at_builtin;refine aH (o:=⟨some 63,_,_,_,_,_⟩) rfl _ _ 324 rfl mX 329 (.agg L1) 176 underlying324 uq rfl (by decide) rfl rfl EU.out.own hE.out (by simp [maxLen];omega) (by simp;omega) (by have:=EU.out.size;omega) rfl (out.length+1) (by simp) ?_;intro A8 c8 w8 F8 Bg Bh qh _;have H8:=Y3 Bg Bh qh;clear Bg Bh qh;have k16:w8.cell? ⟨w.heap.size,0,none⟩=some (.slice OA out.length oc):=ae ((H8.out.2.2.block w.heap.size (by omega)).trans EU.out.cell) rfl;have f16:w8.frozen? ⟨w.heap.size,0,none⟩=false:=frozen_of_row _ _ _ _ _ ((H8.out.2.2.block w.heap.size (by omega)).trans EU.out.cell);go_frame))
     exact ⟨⟨k+1,F8,_,_, .ver v,by go_num,by go_num,by omega,Y0 (EU.out.push hlt hdone.out rfl hpl H8.out.1 H8.out.2.1 H8.out.2.2)⟩,by simp [intOf];omega⟩
   | rng ps=>
     obtain ⟨rv,hyv,Ka⟩:=hy.out;subst hyv;obtain ⟨RA,rc,rfl⟩:=Ka.form;have Oq:=Y0 Ka;have t2:=fun w=>ur (.agg #[.slice RA ps.length rc]) w
     have t3:=fun w=>J8 (.agg #[.slice RA ps.length rc]) w
     have aan:ps.length<=1048576:=hpl;have hnl:out.length+ps.length<=44100000:=by omega
     obtain ⟨W9,hW9,g9,T6,kK⟩:=aZ wr (.cells #[.slice RA ps.length rc] 326);have Qo:=Y0 (HC.out.pure kK);have HR9:=Y0 (Ka.pure kK);have HW9:=Y3 hW9 g9 T6;clear hW9 g9 T6 kK Ka;have c0:wr.cell? ⟨w.heap.size,0,none⟩=some (.slice OA out.length oc):=ae HC.out.cell rfl;go_wp2_with (clear flag;at_builtin;rw [<-HW9.out.1];refine aH (o:=⟨some 72,_,_,_,_,_⟩) rfl _ _ 324 rfl mX 329 (.agg L1) 176 underlying324 uq rfl (by decide) rfl rfl Qo.out.own HR9.out (by unfold maxLen;omega) (by omega) (by have:=Qo.out.size;omega) rfl (out.length+ps.length) (by simp) ?_;intro A8 c8 w8 F8 Bg Bh qh _;have H8:=Y3 Bg Bh qh;clear Bg Bh qh;have k16:w8.cell? ⟨w.heap.size,0,none⟩=some (.slice OA out.length oc):=ae ((H8.out.2.2.block w.heap.size (by omega)).trans Qo.out.cell) rfl;have f16:w8.frozen? ⟨w.heap.size,0,none⟩=false:=frozen_of_row _ _ _ _ _ ((H8.out.2.2.block w.heap.size (by omega)).trans Qo.out.cell);go_frame);exact ⟨⟨k+1,F8,_,_, .rng ps,by go_num,by go_num,by omega,Y0 (Qo.out.push hlt hdone.out ⟨_,rfl,HR9.out⟩ hpl H8.out.1 H8.out.2.1 H8.out.2.2)⟩,by simp [intOf];omega⟩
 have hlt':¬(k:Int)<(L.length:Int):=by omega
 have hkl:k=L.length:=by omega
 have hend:Hid (res=some (out,only)):=Y0 (by
  have h:=H.out.sem;rw [hkl,List.drop_length] at h;exact h)
 have HKL:=Y0 hkl;clear hkl;by_cases h1:k=1
 · have q1:((k:Int)==1)=true:=by simp;omega
   have hfin:Hid (fin=some only):=Y0 (by rw [Ip.out,hend.out,<-HKL.out,h1];rfl);have hy:=Y0 (H.out.only (by omega));clear h1;go_wp2;refine bodyPost_ret (results_tmp2 (t:=4) (u:=5) rfl _ _ _) rfl ?_;rw [hfin.out];exact ⟨⟨_,rfl,hy.out.less (fun b _ hb=>H.out.sub b hb)⟩,H.out.below⟩
 have q1:((k:Int)==1)=false:=by simp;omega
 have hfin:Hid (fin=some (.rng out)):=Y0 (by
  rw [Ip.out,hend.out,<-HKL.out];exact if_neg h1)
 clear h1;obtain ⟨OA,oc,hov⟩:=H.out.own.form;subst hov;have c0:wr.cell? ⟨w.heap.size,0,none⟩=some (.slice OA out.length oc):=ae H.out.cell rfl;go_wp2;refine bodyPost_ret (results_tmp2 (t:=4) (u:=5) rfl _ _ _) rfl ?_;rw [hfin.out];exact ⟨⟨_,rfl,⟨_,rfl,H.out.own.rd (F0:=F) (fun b hb=>by have:=HF.out b hb;omega) H.out.sub (by decide)⟩⟩,H.out.below⟩
theorem f122 {F:Nat->Prop} (text:aa) (w:World) (hs:text.size<=40) (hg:Gl w) (hF:∀b,F b->b<w.heap.size):
 Calls Tryz.prog 122 #[.string text] w fun e w'=>jq F w' (cj text false) e/\Below w.heap.size w w':=by
 have H:=Y0 (f147 (F:=F) text false w hs hg hF);clear hs hg hF;generalize cj text false=res at*
 cases res with
 | none=>
   go_enter func122,ntmps122;go_wp2_with (go_at_call 147;refine H.out.mono ?_;rintro e w1 ⟨⟨m,rfl⟩,hB⟩);refine bodyPost_ret (results_tmp2 (t:=2) (u:=3) rfl _ _ _) rfl ?_
   exact ⟨⟨m,rfl⟩,hB⟩
 | some c=>
   go_enter func122,ntmps122;go_wp2_with (go_at_call 147;refine H.out.mono ?_;rintro e w1 ⟨⟨v,rfl,hv⟩,hB⟩;have HV:=Y0 hv;clear hv);refine bodyPost_ret (results_tmp2 (t:=2) (u:=3) rfl _ _ _) rfl ?_;exact ⟨⟨v,rfl,HV.out⟩,hB⟩
theorem f123 {F:Nat->Prop} (text:aa) (w:World) (hs:text.size<=40) (hg:Gl w) (hF:∀b,F b->b<w.heap.size):
 Calls Tryz.prog 123 #[.string text] w fun e w'=>jq F w' (cj text true) e/\Below w.heap.size w w':=by
 have H:=Y0 (f147 (F:=F) text true w hs hg hF);clear hs hg hF;generalize cj text true=res at*
 cases res with
 | none=>
   go_enter func123,ntmps123;go_wp2_with (go_at_call 147;refine H.out.mono ?_;rintro e w1 ⟨⟨m,rfl⟩,hB⟩);refine bodyPost_ret (results_tmp2 (t:=2) (u:=3) rfl _ _ _) rfl ?_
   exact ⟨⟨m,rfl⟩,hB⟩
 | some c=>
   go_enter func123,ntmps123;go_wp2_with (go_at_call 147;refine H.out.mono ?_;rintro e w1 ⟨⟨v,rfl,hv⟩,hB⟩;have HV:=Y0 hv;clear hv);refine bodyPost_ret (results_tmp2 (t:=2) (u:=3) rfl _ _ _) rfl ?_;exact ⟨⟨v,rfl,HV.out⟩,hB⟩
theorem s9 {P:Program} {ops:Array Oper} {rest:List Oper} {o:Oper} {a:Act} {w:World} {Q:Exit->Act->World->Prop} {t:TypeId} {cs old:Array Value} (hgd:o.guard=none) (x y:Operand) (ho:o.op= .store t x y) (g:Nat) (hx:a.eval x= .pointer (some ⟨g,0,none⟩)) (hy:a.eval y= .agg cs)
 (hc:av w g old t) (hi:(P.info? t).map (·.size)=some cs.size) (hold:old.size=cs.size) (h1:cs.all (·.oneCell')=true) (h:∀W,Hid (av W g cs t/\W.heap.size=w.heap.size/\Below g w W)->wpList P ops Q rest (a.put o.dst undef) W):wpList P ops Q (o::rest) a w:=
 wpList_store_row hgd t x y ho g cs hx hy t old hc hi hold h1 (h _ (Y0 ⟨setRow_heap _ _ _ _ _ _ hc,by simp,below_setRow (Below.refl _ _) (Nat.le_refl _) _⟩))
theorem gU {P:Program} {fn:Func} {p q:Tmp} {ty:TypeId} (h:fn.results= #[.cell p ty, .tmp q]) (tmps:Array Value) (w:World) (g:Nat) (t:TypeId) (cs:Array Value) (fr:Nat × Nat) (d:TypeDesc)
 (hp:tmps.getD p undef= .pointer (some ⟨g,0,none⟩)) (hg:w.heap[g]?=some (.cells cs t fr))
 (hu:P.underlying ty=some d) (hd:(match d with| .struct _| .array _ _=>true|_=>false)=true) (hi:(P.info? ty).map (·.size)=some cs.size):
 (results fn tmps).run P w= .ok (.tuple #[.agg cs,tmps.getD q undef]) w:=by
 have hp':tmps[p]?.getD undef= .pointer (some ⟨g,0,none⟩):=by simpa using hp
 simp [results,h,hp',asAddr,run_loadVar_row w g t ty cs fr d hg hu hd hi]
abbrev z6:Array Value:= #[.int .u64 0, .int .u64 0, .int .u64 0, .string ⟨#[]⟩, .string ⟨#[]⟩, .string ⟨#[]⟩]
def Ir (o:Option (SV × Nat)) (e:Ending):Prop:=match o with
 | some (v,_)=>e= .returned (.tuple #[.agg v.arr, .nilIface])
 | none=>∃m,e= .returned (.tuple #[.agg z6, .iface 253 (.pointer (some ⟨m,0,none⟩))])
theorem f149 (text:aa) (w:World) (hs:text.size<=40) (hg:Gl w):Calls Tryz.prog 149 #[.string text] w fun e w'=>Ir (fE text) e/\Below w.heap.size w w':=by
 obtain ⟨w1,hw1,g1,hs1,az⟩:=aZ w (.cells z6 264);have H:=f167 text w1 (by omega) (hg.pure az);have hok:=Y0 fun v n (h:fE text=some (v,n))=>qJ h hs
 have HW:=Y4 hw1 g1 hs1 az;clear hs hg hw1 g1 hs1 az;generalize fE text=res at*;have flag:True:=trivial
 cases res with
 | none=>
   have H:=Y0 H;go_enter func149,ntmps149
   go_wp2_with (first
    | (go_at_call 167;rw [<-HW.out.1];refine H.out.mono ?_;rintro e w2 ⟨⟨m,rfl⟩,hB⟩;have HB:=Y0 hB;clear hB;have aj:True:=trivial)
    | (clear aj;refine cu (o:=⟨none,Op.store 264 (Operand.tmp 4) (Operand.tmp 10),_,_,_,_⟩) (cs:=z6) w2 rfl _ _ rfl rfl rfl aN rfl fS ?_;intro W3 H3;have au:True:=trivial)
    | (clear au;refine wpList_load_row (o:=⟨some 20,_,_,_,_,_⟩) rfl 264 _ rfl w2.heap.size rfl 264 z6 (0,0) _ H3.out.1 underlying264 rfl aN ?_;have aQ:True:=trivial)
    | (clear aQ;refine s9 (o:=⟨none,Op.store 264 (Operand.tmp 2) (Operand.tmp 20),_,_,_,_⟩) (cs:=z6) (old:=z6) rfl _ _ rfl w.heap.size rfl rfl (aJ (aJ HW.out.2.1 (by have:=HW.out.2.2.1;omega) HB.out) (by have:=HW.out.2.2.1;have:=HB.out.size;omega) H3.out.2.2) aN rfl fS ?_;intro W4 H4))
   refine bodyPost_ret (gU (p:=2) (q:=3) results149 _ W4 w.heap.size 264 z6 (0,0) _ rfl H4.out.1 underlying264 rfl aN) rfl ?_
   exact ⟨⟨m,rfl⟩,((HW.out.2.2.2.trans (HB.out.mono (by have:=HW.out.2.2.1;omega))).trans (H3.out.2.2.mono (by have:=HW.out.2.2.1;have:=HB.out.size;omega))).trans H4.out.2.2⟩
 | some vn=>
   obtain ⟨v,n⟩:=vn;have hn:=(hok.out v n rfl).2;have q0:((n:Int)==0)=false:=by simp;omega
   have H:Hid (Calls Tryz.prog 167 #[.string text] w1 fun e w'=>e= .returned (.tuple #[.agg v.arr, .int .i64 n, .nilIface])/\Below w1.heap.size w1 w'):=Y0 H;clear hn;go_enter func149,ntmps149
   go_wp2_with (first
    | (go_at_call 167;rw [<-HW.out.1];refine H.out.mono ?_;rintro e w2 ⟨rfl,hB⟩;have HB:=Y0 hB;clear hB;have aj:True:=trivial)
    | (clear aj;refine cu (o:=⟨none,Op.store 264 (Operand.tmp 4) (Operand.tmp 10),_,_,_,_⟩) (cs:=v.arr) w2 rfl _ _ rfl rfl rfl aN rfl v.arr_one ?_;intro W3 H3;have au:True:=trivial)
    | (clear au;refine pK (o:=⟨some 20,_,_,_,_,_⟩) rfl _ rfl w2.heap.size rfl v H3.out.1 ?_;have aQ:True:=trivial)
    | (clear aQ;refine s9 (o:=⟨none,Op.store 264 (Operand.tmp 2) (Operand.tmp 20),_,_,_,_⟩) (cs:=v.arr) (old:=z6) rfl _ _ rfl w.heap.size rfl rfl (aJ (aJ HW.out.2.1 (by have:=HW.out.2.2.1;omega) HB.out) (by have:=HW.out.2.2.1;have:=HB.out.size;omega) H3.out.2.2) aN rfl v.arr_one ?_;intro W4 H4))
   refine bodyPost_ret (gU (p:=2) (q:=3) results149 _ W4 w.heap.size 264 v.arr (0,0) _ rfl H4.out.1 underlying264 rfl aN) rfl ?_;exact ⟨rfl,((HW.out.2.2.2.trans (HB.out.mono (by have:=HW.out.2.2.1;omega))).trans (H3.out.2.2.mono (by have:=HW.out.2.2.1;have:=HB.out.size;omega))).trans H4.out.2.2⟩
theorem uy (v:SV):Tryz.prog.built 267 [(0, .agg v.arr)]=some v.arr:=by kernel_rfl
theorem f126 (text:aa) (w:World) (hs:text.size<=40) (hg:Gl w):Calls Tryz.prog 126 #[.string text] w fun e w'=>e= .returned (EE text).val/\Below w.heap.size w w':=by
 have H:=f149 text w hs hg;clear hs hg
 have hn:EE text=match fE text with
  | some (v,_)=> .sem v
  | none=> .pl text:=rfl
 rw [hn];clear hn;generalize fE text=res at*;have flag:True:=trivial
 cases res with
 | none=>
   have H:=Y0 H;go_enter func126,ntmps126
   go_wp2_with (first
    | (go_at_call 149;refine H.out.mono ?_;rintro e w2 ⟨⟨m,rfl⟩,hB⟩;have HB:=Y0 hB;clear hB;have aj:True:=trivial)
    | (clear aj;refine cu (o:=⟨none,Op.store 264 (Operand.tmp 3) (Operand.tmp 8),_,_,_,_⟩) (cs:=z6) w2 rfl _ _ rfl rfl rfl aN rfl fS ?_;intro W3 H3))
   go_ret
   exact ⟨rfl,HB.out.trans (H3.out.2.2.mono HB.out.size)⟩
 | some vn=>
   obtain ⟨v,n⟩:=vn;have H:Hid (Calls Tryz.prog 149 #[.string text] w fun e w'=>e= .returned (.tuple #[.agg v.arr, .nilIface])/\Below w.heap.size w w'):=Y0 H;go_enter func126,ntmps126
   go_wp2_with (first
    | (go_at_call 149;refine H.out.mono ?_;rintro e w2 ⟨rfl,hB⟩;have HB:=Y0 hB;clear hB;have aj:True:=trivial)
    | (clear aj;refine cu (o:=⟨none,Op.store 264 (Operand.tmp 3) (Operand.tmp 8),_,_,_,_⟩) (cs:=v.arr) w2 rfl _ _ rfl rfl rfl aN rfl v.arr_one ?_;intro W3 H3;have au:True:=trivial)
    | (clear au;refine pK (o:=⟨some 14,_,_,_,_,_⟩) rfl _ rfl w2.heap.size rfl v H3.out.1 ?_;have aQ:True:=trivial)
    | (clear aQ;refine yF (o:=⟨some 15,_,_,_,_,_⟩) rfl _ _ rfl [(0, .agg v.arr)] rfl _ (uy v) ?_))
   go_ret;exact ⟨rfl,HB.out.trans (H3.out.2.2.mono HB.out.size)⟩
theorem f124 (s:aa) (w:World):Calls Tryz.prog 124 #[.string s] w fun e w'=>e= .returned (UV.val (.br s false))/\w'=w:=by
 go_enter func124,ntmps124;go_wp2;go_ret;exact ⟨rfl,rfl⟩
theorem f148 (s:aa) (w:World):Calls Tryz.prog 148 #[.string s] w fun e w'=>e= .returned (UV.val (.br s true))/\w'=w:=by
 go_enter func148,ntmps148;go_wp2;go_ret;exact ⟨rfl,rfl⟩
theorem f125 (s:aa) (w:World):Calls Tryz.prog 125 #[.string s] w fun e w'=>e= .returned (UV.val (.br s true))/\w'=w:=by
 go_enter func125,ntmps125;go_wp2_with (go_at_call 148;refine (f148 _ _).mono ?_;rintro e w1 ⟨rfl,rfl⟩);go_ret;exact ⟨rfl,rfl⟩
theorem f83 (w:World):Calls Tryz.prog 83 #[] w fun e w'=>e= .returned (.iface 257 (.agg #[]))/\w'=w:=by
 go_enter func83,ntmps83;go_wp2;go_ret;exact ⟨rfl,rfl⟩
theorem f85 (w:World):Calls Tryz.prog 85 #[] w fun e w'=>e= .returned (.iface 270 (.agg #[]))/\w'=w:=by
 go_enter func85,ntmps85;go_wp2;go_ret;exact ⟨rfl,rfl⟩
def fN:Option UV->Value
 | none=> .nilIface
 | some u=>u.val
theorem f87 (v:VD) (w:World) (hs:v.text.size<=40) (hg:Gl w):Calls Tryz.prog 87 #[v.val] w fun e w'=>e= .returned (fN (xk v))/\Below w.heap.size w w':=by
 obtain ⟨k,t,r⟩:=v;have hb:Below w.heap.size w (w.alloc (.cells #[.int .i64 k, .string t, .string r] 52)):=(Below.refl _ _).alloc (Nat.le_refl _) _;have H:=Y0 (f126 t _ hs (hg.pure hb));clear hs hg;simp only [VD.val,xk];by_cases h1:k=1
 · subst h1;go_enter func87,ntmps87;go_wp2_with (go_at_call 124;refine (f124 _ _).mono ?_;rintro e w1 ⟨rfl,rfl⟩);go_ret;exact ⟨rfl,hb⟩
 by_cases h2:k=2
 · subst h2;go_enter func87,ntmps87;go_wp2_with (go_at_call 125;refine (f125 _ _).mono ?_;rintro e w1 ⟨rfl,rfl⟩);go_ret;exact ⟨rfl,hb⟩
 by_cases h3:k=3
 · subst h3;go_enter func87,ntmps87;go_wp2_with (go_at_call 126;refine H.out.mono ?_;rintro e w1 ⟨rfl,hB⟩);go_ret;exact ⟨rfl,hb.trans (hB.mono hb.size)⟩
 rw [if_neg h1,if_neg h2,if_neg h3];have q1:(k==1)=false:=by simpa using h1
 have q2:(k==2)=false:=by simpa using h2
 have q3:(k==3)=false:=by simpa using h3
 clear h1 h2 h3;go_enter func87,ntmps87;go_wp2;go_ret;exact ⟨rfl,hb⟩
theorem f329 (m:aa) (d:Bool) (r:aa) (w:World):Calls Tryz.prog 329 #[.agg #[.string m, .bool d], .string r] w fun e w'=>e= .returned (GV.val (.pair (.br m d) r))/\Below w.heap.size w w':=by
 go_enter func329,ntmps329;go_wp2;go_ret;exact ⟨rfl,(Below.refl _ _).alloc (Nat.le_refl _) _⟩
theorem f339 (s r:aa) (w:World):Calls Tryz.prog 339 #[.string s, .string r] w fun e w'=>e= .returned (GV.val (.pair (.pl s) r))/\Below w.heap.size w w':=by
 go_enter func339,ntmps339;go_wp2;go_ret;exact ⟨rfl,Below.refl _ _⟩
theorem f297 (v:SV) (r:aa) (w:World):Calls Tryz.prog 297 #[v.val, .string r] w fun e w'=>e= .returned (GV.val (.pair (.sem v) r))/\Below w.heap.size w w':=by
 obtain ⟨va,vb,vc,vp,vm,vo⟩:=v;simp only [SV.val,GV.val,UV.val];go_enter func297,ntmps297;go_wp2;go_ret;exact ⟨rfl,(Below.refl _ _).alloc (Nat.le_refl _) _⟩
theorem f49 (v:VD) (w:World) (hs:v.text.size<=40) (hg:Gl w):Calls Tryz.prog 49 #[v.val] w fun e w'=>e= .returned (jH v).val/\Below w.heap.size w w':=by
 obtain ⟨k,t,r⟩:=v;obtain ⟨w1,hw1,g1,hs1,az⟩:=aZ w (.cells #[.int .i64 k, .string t, .string r] 52);have H:=f87 ⟨k,t,r⟩ w1 hs (hg.pure az);have HW:=Y4 hw1 g1 hs1 az;clear hs hg hw1 g1 hs1 az
 have hG:jH ⟨k,t,r⟩=match xk ⟨k,t,r⟩ with
  | none=> .rev t
  | some u=>if r.size=0 then .un u else .pair u r:=rfl
 rw [hG];clear hG;generalize xk ⟨k,t,r⟩=ou at*;simp only [VD.val] at*;have HC:Hid (∀W,Below w1.heap.size w1 W->W.cell? ⟨w.heap.size,1,none⟩=some (.string t)/\W.cell? ⟨w.heap.size,2,none⟩=some (.string r)):=Y0 fun W hW=>⟨aK HW.out.2.1 hW _ rfl,aK HW.out.2.1 hW _ rfl⟩
 cases ou with
 | none=>
   have H:=Y0 H;go_enter func49,ntmps49;go_wp2_with (go_at_call 87;rw [<-HW.out.1];refine H.out.mono ?_;simp only [fN];rintro e w2 ⟨rfl,hB⟩;have hc:=HC.out w2 hB;have c1:=hc.1;have c2:=hc.2;have HB:=Y0 hB;clear hB hc);go_ret
   exact ⟨rfl,HW.out.2.2.2.trans (HB.out.mono (by have:=HW.out.2.2.1;omega))⟩
 | some u=>
   have hq:(r.size=0/\r.toList.isEmpty=true)\/(¬r.size=0/\r.toList.isEmpty=false):=by
    rw [isEmpty_iff];by_cases h:r.size=0<;>simp [h]
   rcases hq with ⟨h0,hq⟩|⟨h0,hq⟩
   · dsimp only;rw [if_pos h0];clear h0
     cases u with
     | br n d=>
       simp only [fN,UV.val,GV.val] at*;have H:=Y0 H;go_enter func49,ntmps49;go_wp2_with (go_at_call 87;rw [<-HW.out.1];refine H.out.mono ?_;rintro e w2 ⟨rfl,hB⟩;have hc:=HC.out w2 hB;have c1:=hc.1;have c2:=hc.2;have HB:=Y0 hB;clear hB hc);go_ret
       exact ⟨rfl,HW.out.2.2.2.trans (HB.out.mono (by have:=HW.out.2.2.1;omega))⟩
     | pl n=>
       simp only [fN,UV.val,GV.val] at*;have H:=Y0 H;go_enter func49,ntmps49;go_wp2_with (go_at_call 87;rw [<-HW.out.1];refine H.out.mono ?_;rintro e w2 ⟨rfl,hB⟩;have hc:=HC.out w2 hB;have c1:=hc.1;have c2:=hc.2;have HB:=Y0 hB;clear hB hc);go_ret
       exact ⟨rfl,HW.out.2.2.2.trans (HB.out.mono (by have:=HW.out.2.2.1;omega))⟩
     | sem v=>
       simp only [fN,UV.val,GV.val] at*;have H:=Y0 H;go_enter func49,ntmps49;go_wp2_with (go_at_call 87;rw [<-HW.out.1];refine H.out.mono ?_;rintro e w2 ⟨rfl,hB⟩;have hc:=HC.out w2 hB;have c1:=hc.1;have c2:=hc.2;have HB:=Y0 hB;clear hB hc);go_ret;exact ⟨rfl,HW.out.2.2.2.trans (HB.out.mono (by have:=HW.out.2.2.1;omega))⟩
   dsimp only;rw [if_neg h0];clear h0
   cases u with
   | br n d=>
     simp only [fN,UV.val] at*;have H:=Y0 H;have HP:=Y0 fun W=>f329 n d r W
     go_enter func49,ntmps49
     go_wp2_with (first
      | (go_at_call 87;rw [<-HW.out.1];refine H.out.mono ?_;rintro e w2 ⟨rfl,hB⟩;have hc:=HC.out w2 hB;have c1:=hc.1;have c2:=hc.2;have HB:=Y0 hB;clear hB hc)
      | (go_at_call 329;refine (HP.out _).mono ?_;rintro e w3 ⟨rfl,bb⟩;have dK:=Y0 bb;clear bb))
     go_ret
     exact ⟨rfl,(HW.out.2.2.2.trans (HB.out.mono (by have:=HW.out.2.2.1;omega))).trans (dK.out.mono (by have:=HW.out.2.2.1;have:=HB.out.size;omega))⟩
   | pl n=>
     simp only [fN,UV.val] at*;have H:=Y0 H;have HP:=Y0 fun W=>f339 n r W
     go_enter func49,ntmps49
     go_wp2_with (first
      | (go_at_call 87;rw [<-HW.out.1];refine H.out.mono ?_;rintro e w2 ⟨rfl,hB⟩;have hc:=HC.out w2 hB;have c1:=hc.1;have c2:=hc.2;have HB:=Y0 hB;clear hB hc)
      | (go_at_call 339;refine (HP.out _).mono ?_;rintro e w3 ⟨rfl,bb⟩;have dK:=Y0 bb;clear bb))
     go_ret
     exact ⟨rfl,(HW.out.2.2.2.trans (HB.out.mono (by have:=HW.out.2.2.1;omega))).trans (dK.out.mono (by have:=HW.out.2.2.1;have:=HB.out.size;omega))⟩
   | sem v=>
     simp only [fN,UV.val] at*;have H:=Y0 H;have HP:=Y0 fun W=>f297 v r W
     go_enter func49,ntmps49
     go_wp2_with (first
      | (go_at_call 87;rw [<-HW.out.1];refine H.out.mono ?_;rintro e w2 ⟨rfl,hB⟩;have hc:=HC.out w2 hB;have c1:=hc.1;have c2:=hc.2;have HB:=Y0 hB;clear hB hc)
      | (go_at_call 297;refine (HP.out _).mono ?_;rintro e w3 ⟨rfl,bb⟩;have dK:=Y0 bb;clear bb))
     go_ret;exact ⟨rfl,(HW.out.2.2.2.trans (HB.out.mono (by have:=HW.out.2.2.1;omega))).trans (dK.out.mono (by have:=HW.out.2.2.1;have:=HB.out.size;omega))⟩
end Go.Proofs.YtjenhelmpcajfaaGreatDoor
