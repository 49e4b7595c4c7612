/- one term of a constraint is read (the caret) -/
import Derived.Test.YtjenhelmpcajfaaGreatDoorA08
set_option linter.all false
set_option maxRecDepth 100000
set_option maxHeartbeats 16000000
namespace Go.Proofs.YtjenhelmpcajfaaGreatDoor
open Go.Proofs.Tryz Go.RowKit
theorem Qc {F:Nat->Prop} (term:aa) (caret:Bool) (w:World) (hs:term.size<=40) (hg:Gl w) (hF:∀b,F b->b<w.heap.size)
 (hop:(if caret && (lJ term).isEmpty then [94] else lJ term)= [94]):
 Calls Tryz.prog 165 #[.string term, .bool caret] w fun e w'=>jq F w' (fo term caret) e/\Below w.heap.size w w':=by
 have jd:fo term caret=match gN (di (term.extract (ops term.data.toList) term.size)) with
  | none=>none
  | some (v,parts)=>iq (if caret && (lJ term).isEmpty then .ca else il (lJ term)) v parts:=rfl
 have yE:=Y0 jd;have Hp:=Y0 hg;have HF:=Y0 hF;have HO:=Y0 hop;clear jd hg hF hop;generalize fo term caret=res at*;go_enter func165,ntmps165;go_upto_block 0 with fail;go_cut [0,6] (fun s o wx=>∃(r op:aa),s= .string r/\o= .string op/\r.size<=40/\op.size<=40/\Hid (r=term.extract (ops term.data.toList) term.size/\lJ term=op.data.toList)/\Hid (wx=w))
 case first=>
  go_wp2_with fail;go_loop [0,6] (fun s o=>∃(r op:aa),s= .string r/\o= .string op/\r.size+op.size<=40/\Hid (term.data.toList=op.data.toList++r.data.toList/\ops term.data.toList=op.size+ops r.data.toList)) (fun s _=>AW s)
  case atStart=>exact ⟨term,⟨#[]⟩,rfl,rfl,by show term.size+0<=40;omega,Y0 ⟨rfl,by show _=0+_;omega⟩⟩
  obtain ⟨r,op,rfl,rfl,hr,H⟩:=hrel;have hemp:=Y0 (isEmpty_iff r);by_cases h0:r.size=0
  · have q:r.toList.isEmpty=true:=by rw [hemp.out];simpa using h0
    go_wp2;go_meet;exact ⟨r,op,rfl,rfl,by omega,by omega,Y0 (ui op r term H.out.1 (by rw [H.out.2,AX r h0];rfl)),Y0 rfl⟩
  have q:r.toList.isEmpty=false:=by rw [hemp.out];simpa using h0
  have hp:0<r.size:=by omega
  have P5:=Y0 (wG r hp);have hstep:=Y0 (AY op r term hp H.out.1);by_cases hop:JX r[0].toNat
  · have hnew:Hid (ops term.data.toList=(op++r.extract 0 1).size+ops (r.extract 1 r.size).data.toList):=Y0 (by rw [H.out.2,P5.out,if_pos hop,hstep.out.2,Lib.extract_to_end];omega)
    have ways:((r[0].toNat:Int)==61)=true\/(((r[0].toNat:Int)==61)=false/\((r[0].toNat:Int)==33)=true)\/(((r[0].toNat:Int)==61)=false/\((r[0].toNat:Int)==33)=false/\((r[0].toNat:Int)==60)=true)\/
     (((r[0].toNat:Int)==61)=false/\((r[0].toNat:Int)==33)=false/\((r[0].toNat:Int)==60)=false/\((r[0].toNat:Int)==62)=true)\/(((r[0].toNat:Int)==61)=false/\((r[0].toNat:Int)==33)=false/\((r[0].toNat:Int)==60)=false/\((r[0].toNat:Int)==62)=false/\((r[0].toNat:Int)==126)=true)\/
     (((r[0].toNat:Int)==61)=false/\((r[0].toNat:Int)==33)=false/\((r[0].toNat:Int)==60)=false/\((r[0].toNat:Int)==62)=false/\((r[0].toNat:Int)==126)=false/\((r[0].toNat:Int)==94)=true):=by
     rcases hop with h|h|h|h|h|h<;>simp [h]
    have hle:1<=(r.size:Int):=by omega
    clear hop;rcases ways with y1|⟨y1,y2⟩|⟨y1,y2,y3⟩|⟨y1,y2,y3,y4⟩|⟨y1,y2,y3,y4,y5⟩|⟨y1,y2,y3,y4,y5,y6⟩
    all_goals
     go_wp2;go_round
     case rel=>exact ⟨r.extract 1 r.size,op++r.extract 0 1,rfl,rfl,by rw [hstep.out.2,cQ];omega,Y0 ⟨hstep.out.1,hnew.out⟩⟩
     case measure=>simp [AW,ByteArray.size_extract];omega
  have hz:Hid (ops term.data.toList=op.size):=Y0 (by rw [H.out.2,P5.out,if_neg hop];rfl);unfold JX at hop;have y1:((r[0].toNat:Int)==61)=false:=by simp;omega
  have y2:((r[0].toNat:Int)==33)=false:=by simp;omega
  have y3:((r[0].toNat:Int)==60)=false:=by simp;omega
  have y4:((r[0].toNat:Int)==62)=false:=by simp;omega
  have y5:((r[0].toNat:Int)==126)=false:=by simp;omega
  have y6:((r[0].toNat:Int)==94)=false:=by simp;omega
  clear hop;go_wp2;go_meet;exact ⟨r,op,rfl,rfl,by omega,by omega,Y0 (ui op r term H.out.1 hz.out),Y0 rfl⟩
 obtain ⟨r,op,rfl,rfl,hr,hop,H,hw⟩:=hcut;have e:=hw.out;subst e;clear hw;obtain ⟨w,rfl⟩:∃W:World,W=wc:=⟨_,rfl⟩
 have kE:Hid (res=match gN (di r) with
  | none=>none
  | some (v,parts)=>iq (if caret && op.data.toList.isEmpty then .ca else il op.data.toList) v parts):=Y0 (by rw [yE.out,<-H.out.1,H.out.2])
 have sA:=Y0 (f166 r w (by omega));have hts:=ir r;have zD:=Y0 (f176 (di r) w (by omega) Hp.out);have Ct:=Y0 (fun v n (h:gN (di r)=some (v,n))=>(⟨wH h,(qO h (by omega)).1⟩:n<=3/\v.Ok));clear yE;generalize gN (di r)=pv at*;generalize di r=tr at*;have flag:True:=trivial
 cases pv with
 | none=>
   have hres:Hid (res=none):=Y0 (by rw [kE.out])
   go_wp2_with (first
    | (go_at_call 166;refine sA.out.mono ?_;rintro e w1 ⟨rfl,hw1⟩;have hw2:=hw1.symm;subst hw2;clear hw1)
    | (go_at_call 176;refine zD.out.mono ?_;rintro e w5 ⟨⟨em,rfl⟩,bz⟩;have dS:=Y0 bz;clear bz))
   go_ret2;rw [hres.out]
   exact ⟨⟨em,rfl⟩,dS.out.alloc dS.out.size _⟩
 | some vn=>
   obtain ⟨v,n⟩:=vn;obtain ⟨V6,xh⟩:=Ct.out _ _ rfl;clear xh Ct
   go_upto_region 6 with (first
    | (go_at_call 166;refine sA.out.mono ?_;rintro e w1 ⟨rfl,hw1⟩;have hw2:=hw1.symm;subst hw2;clear hw1)
    | (go_at_call 176;refine zD.out.mono ?_;rintro e w5 ⟨he,bz⟩;simp only [iu,SV.val_arr] at he;subst he;have dS:=Y0 bz;clear bz)
    | (refine cu (o:=⟨none,Op.store 264 (Operand.tmp 7) (Operand.tmp 56),_,_,_,_⟩) (cs:=v.arr) w5 rfl _ _ rfl rfl rfl aN rfl v.arr_one ?_;intro Wv HV))
   have hemp:=Y0 (fP op);obtain ⟨jk,uu⟩:∃s:aa,s=if caret && op.data.toList.isEmpty then ⟨#[94]⟩ else op:=⟨_,rfl⟩
   have dP:Hid (res=iq (il jk.data.toList) v n):=Y0 (by
    rw [kE.out,uu];cases hb:(caret && op.data.toList.isEmpty)<;>simp [hb,il])
   have Hop:Hid (jk.data.toList= [94]):=Y0 (by
    have h:=HO.out;rw [H.out.2] at h;rw [uu];rw [show (if caret && op.data.toList.isEmpty then (⟨#[94]⟩:aa) else op).data.toList=(if caret && op.data.toList.isEmpty then [94] else op.data.toList) by split<;>rfl];exact h)
   have zE:=Y0 uu;clear uu kE;have vU:op.toList.isEmpty=op.data.toList.isEmpty:=by rw [ByteArray.toList_eq]
   go_upto_region 8 with fail;go_cut [66] (fun s wx=>s= .bool (caret && op.data.toList.isEmpty)/\Hid (wx=Wv))
   case first=>
    cases wX:op.data.toList.isEmpty
    · rw [wX] at vU;go_wp2;go_meet;exact ⟨by rw [wX];cases caret<;>rfl,Y0 rfl⟩
    rw [wX] at vU;cases caret
    all_goals
     go_wp2;go_meet;exact ⟨by rw [wX];rfl,Y0 rfl⟩
   obtain ⟨rfl,hw⟩:=hcut;have e:=hw.out;subst e;clear hw vU hemp;go_upto_if 66 with fail;obtain ⟨wt,rfl⟩:∃W:World,W=wc:=⟨_,rfl⟩;go_cut [6] (fun s wx=>s= .string jk/\Hid (wx=wt))
   case first=>
    cases hb:(caret && op.data.toList.isEmpty)
    · have hx:Hid (jk=op):=Y0 (by rw [zE.out,hb];rfl);clear hb;go_wp2;go_meet;exact ⟨by rw [hx.out],Y0 rfl⟩
    have hx:Hid (jk=⟨#[94]⟩):=Y0 (by rw [zE.out,hb];rfl);clear hb;go_wp2;go_meet;exact ⟨by rw [hx.out],Y0 rfl⟩
   obtain ⟨rfl,hw⟩:=hcut;have e:=hw.out;subst e;clear hw zE;have LS:Hid (∀b,F b->b<wc.heap.size):=Y0 fun b hb=>by have h1:=HF.out b hb;have h2:=dS.out.size;have h3:=HV.out.2.1;omega
   have Bi:Hid (Below w.heap.size w wc):=Y0 (dS.out.trans (HV.out.2.2.mono dS.out.size));have hl:=Hop.out;by_cases hn0:n=0
   · subst hn0;obtain ⟨q0,q1,q2,q3,q4,q5,q6,q7,q8,q9,pO,pP⟩:=sw jk _ hl false false false false false false false false false false false true rfl;have hres:Hid (res=some (.rng [.zero])):=Y0 (by rw [dP.out,hl];rfl);clear hl;go_wp2;go_ret2;rw [hres.out];exact ⟨⟨_,rfl,⟨_,rfl,od .zero rfl LS.out⟩⟩,Bi.out.alloc Bi.out.size _⟩
   have qR:((n:Int)==0)=false:=by simp;omega
   have hs0:Hid (w5.heap.size<wc.heap.size):=Y0 (by have:=HV.out.2.1;omega);have yH:=Y0 fun g=>Ba g v hn0
   have zG:=sY v n wc V6;obtain ⟨a,LV⟩:∃x:SV,x=v.after n:=⟨_,rfl⟩;rw [<-LV] at zG;have EB:=Y0 zG;have P7:=Y0 LV;clear zG LV;have HN0:=Y0 hn0;clear hn0;have flag:True:=trivial
   go_upto_region 30 with (first
    | (clear flag;refine pK (o:=⟨some 91,_,_,_,_,_⟩) rfl _ rfl w5.heap.size rfl v HV.out.1 ?_;have au:True:=trivial)
    | (clear au;go_at_call 177;refine EB.out.mono ?_;rintro e w6 ⟨rfl,eQ⟩;have bU:=Y0 eQ;clear eQ;have aQ:True:=trivial)
    | (clear aQ;refine cu (o:=⟨none,Op.store 264 (Operand.tmp 10) (Operand.tmp 93),_,_,_,_⟩) (cs:=a.arr) w6 rfl _ _ rfl rfl rfl aN rfl a.arr_one ?_;intro W7 H7;have V7:Hid (av W7 w5.heap.size v.arr 264):=Y0 (aJ (aJ HV.out.1 hs0.out bU.out) (by have:=hs0.out;have:=bU.out.size;omega) H7.out.2.2);have cf:True:=trivial)
    | (clear cf;refine pK (o:=⟨some 94,_,_,_,_,_⟩) rfl _ rfl w5.heap.size rfl v V7.out ?_;have ft:True:=trivial)
    | (clear ft;refine yF (o:=⟨some 95,_,_,_,_,_⟩) rfl _ _ rfl [(0, .agg v.arr),(2, .bool true),(4, .bool true)] rfl _ (PB v) ?_;have qY:True:=trivial)
    | (clear qY;refine cu (o:=⟨none,Op.store 329 (Operand.tmp 11) (Operand.tmp 95),_,_,_,_⟩) (cs:=(fk v).arr dC) W7 rfl _ _ rfl rfl rfl bj rfl (Pc.arr_one (fk v) rfl) ?_;intro W8 H8;have hz:Hid (w5.heap.size<wc.heap.size/\wc.heap.size<=w6.heap.size/\W7.heap.size=w6.heap.size+1/\W8.heap.size=W7.heap.size+1):=Y0 ⟨hs0.out,bU.out.size,H7.out.2.1,H8.out.2.1⟩;have V8:Hid (av W8 w5.heap.size v.arr 264):=Y0 (aJ V7.out (by have:=hz.out;omega) H8.out.2.2);have A8:Hid (av W8 w6.heap.size a.arr 264):=Y0 (aJ H7.out.1 (by have:=hz.out;omega) H8.out.2.2);have s6:True:=trivial)
    | (clear s6;refine pK (o:=⟨some 96,_,_,_,_,_⟩) rfl _ rfl w5.heap.size rfl v V8.out ?_;have xf:True:=trivial)
    | (clear xf;refine pK (o:=⟨some 97,_,_,_,_,_⟩) rfl _ rfl w6.heap.size rfl a A8.out ?_;have xg:True:=trivial)
    | (clear xg;refine yF (o:=⟨some 98,_,_,_,_,_⟩) rfl _ _ rfl [(0, .agg v.arr),(2, .bool true),(4, .bool true),(1, .agg a.arr),(3, .bool true)] rfl _ (ZU v a) ?_;have zH:True:=trivial)
    | (clear zH;refine cu (o:=⟨none,Op.store 329 (Operand.tmp 12) (Operand.tmp 98),_,_,_,_⟩) (cs:=(bG v a).arr dC) W8 rfl _ _ rfl rfl rfl bj rfl (Pc.arr_one (bG v a) rfl) ?_;intro W9 H9))
   have HT:Hid (El w v a w5.heap.size w6.heap.size W7.heap.size W8.heap.size W9):=Y0 (by
    have h1:=hz.out;have h2:=Bi.out.size
    exact ⟨aJ V8.out (by omega) H9.out.2.2,aJ A8.out (by omega) H9.out.2.2,aJ H8.out.1 (by omega) H9.out.2.2,H9.out.1,
     (((Bi.out.trans (bU.out.mono (by omega))).trans (H7.out.2.2.mono (by omega))).trans (H8.out.2.2.mono (by omega))).trans (H9.out.2.2.mono (by omega)),by omega,by have:=H9.out.2.1;omega⟩)
   have Cu:Hid (∀b,F b->b<W9.heap.size):=Y0 fun b hb=>by have h1:=LS.out b hb;have h2:=hz.out;have h3:=H9.out.2.1;omega
   clear hz HV V7 V8 A8 H7 H8 H9 EB bU Bi LS dS sA zD hs0;generalize w5.heap.size=gv at*;generalize w6.heap.size=ga at*;generalize W7.heap.size=gl at*;generalize W8.heap.size=gi at*;obtain ⟨q0,q1,q2,q3,q4,q5,q6,q7,q8,q9,pO,pP⟩:=sw jk _ hl false false false false false false false false false false false true rfl;have x0:W9.cell? ⟨gv,0,none⟩=some (.int .u64 v.a):=ae HT.out.v rfl;have x1:W9.cell? ⟨gv,1,none⟩=some (.int .u64 v.b):=ae HT.out.v rfl;rcases LL v n with ⟨hk,y0⟩|⟨hk,y0,y1⟩|⟨hk,y0,y1,y2⟩|⟨hk,y0,y1,y2,y3⟩|⟨hk,y0,y1,y2,y3⟩
   all_goals
    first|(obtain ⟨b,sB⟩:∃x:SV,x=v.after (1):=⟨_,rfl⟩;have hres:Hid (res=some (.rng [bG v b])):=Y0 (by rw [dP.out,hl,show il [94]= .ca from rfl,yH.out,sB];exact congrArg (fun k=>some (Sc.rng [bG v (v.after k)])) hk);have gQ:=sY v (1) W9 (by decide);rw [<-sB] at gQ;have xj:=Y0 gQ;clear gQ sB hl hk;have flag:True:=trivial)|(obtain ⟨b,sB⟩:∃x:SV,x=v.after (2):=⟨_,rfl⟩;have hres:Hid (res=some (.rng [bG v b])):=Y0 (by rw [dP.out,hl,show il [94]= .ca from rfl,yH.out,sB];exact congrArg (fun k=>some (Sc.rng [bG v (v.after k)])) hk);have gQ:=sY v (2) W9 (by decide);rw [<-sB] at gQ;have xj:=Y0 gQ;clear gQ sB hl hk;have flag:True:=trivial)|(obtain ⟨b,sB⟩:∃x:SV,x=v.after (3):=⟨_,rfl⟩;have hres:Hid (res=some (.rng [bG v b])):=Y0 (by rw [dP.out,hl,show il [94]= .ca from rfl,yH.out,sB];exact congrArg (fun k=>some (Sc.rng [bG v (v.after k)])) hk);have gQ:=sY v (3) W9 (by decide);rw [<-sB] at gQ;have xj:=Y0 gQ;clear gQ sB hl hk;have flag:True:=trivial)
    go_wp2_with (first
     | (clear flag;refine pK (o:=⟨some 200,_,_,_,_,_⟩) rfl _ rfl gv rfl v HT.out.v ?_;have aj:True:=trivial)
     | (clear aj;go_at_call 177;refine xj.out.mono ?_;rintro e P8 ⟨rfl,pQ⟩;have V9:Hid (av P8 gl ((fk v).arr dC) 329):=Y0 (aJ HT.out.l HT.out.s.2 pQ);have zI:=Y0 pQ;clear pQ;have au:True:=trivial)
     | (clear au;refine PE (o:=⟨none,Op.store 264 (Operand.tmp 203) (Operand.tmp 202),_,_,_,_⟩) rfl _ _ rfl gl rfl b rfl (fk v) dC V9.out ?_;intro P9 EC;have k13:P9.cell? ⟨gl,13,none⟩=some (.bool false):=ae EC.out.1 rfl;have d13:P9.frozen? ⟨gl,13,none⟩=false:=frozen_of_row _ _ _ _ _ EC.out.1;obtain ⟨Qa,ED,Qb⟩:=J1 EC.out.1;have Ic:=Y2 ED Qb;clear ED Qb;have aQ:True:=trivial)
     | (clear aQ;rw [<-Ic.out.1];refine Og (o:=⟨some 205,_,_,_,_,_⟩) rfl _ rfl gl rfl (bG v b) dC Ic.out.2.1 ?_;have cf:True:=trivial)
     | (clear cf;refine bP (o:=⟨some 206,_,_,_,_,_⟩) rfl _ _ rfl _ rfl _ _ (sk (bG v b) _) ?_;have ft:True:=trivial))
    have zJ:Hid (Below w.heap.size w Qa/\W9.heap.size<=Qa.heap.size):=Y0 ⟨((HT.out.b.trans (zI.out.mono HT.out.b.size)).trans (EC.out.2.2.mono HT.out.s.1)).trans (Ic.out.2.2.2.mono HT.out.s.1),by have:=zI.out.size;have:=EC.out.2.1;have:=Ic.out.2.2.1;omega⟩;refine bodyPost_ret (results_tmp2 (t:=4) (u:=5) rfl _ _ _) rfl ?_;rw [hres.out];exact ⟨⟨_,rfl,⟨_,rfl,od (bG v b) rfl (fun x hx=>Nat.lt_of_lt_of_le (Cu.out x hx) zJ.out.2)⟩⟩,zJ.out.1.alloc zJ.out.1.size _⟩
end Go.Proofs.YtjenhelmpcajfaaGreatDoor
