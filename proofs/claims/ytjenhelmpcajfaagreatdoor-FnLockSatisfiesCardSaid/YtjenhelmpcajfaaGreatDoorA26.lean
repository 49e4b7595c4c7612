/- packages without rounds -/
import Derived.Test.YtjenhelmpcajfaaGreatDoorA01
import Derived.Test.YtjenhelmpcajfaaGreatDoorA25
import Derived.BigGuard
set_option linter.all false
set_option maxRecDepth 20000
set_option maxHeartbeats 8000000
namespace Go.Proofs.YtjenhelmpcajfaaGreatDoor
open Go.Proofs.Tryz Go.RowKit
def OH (root:aa) (ig:List aa) (pks:List Pk) (a b:Pk):Prop:=a.path≠b.path/\eY root ig pks a.path b.path/\eY root ig pks b.path a.path
theorem Fh (s:aa) (A1 A2:Option Addr) (n1 n2 c1 c2:Nat) (w:World):(Instr.field 120 (.agg #[.string s, .slice A1 n1 c1, .slice A2 n2 c2]) 1).run Tryz.prog w= .ok (.slice A1 n1 c1) w:=by kernel_rfl
theorem f12 {F:Nat->Prop} (root:aa) (Ap:Option Addr) (cp:Nat) (pks:List Pk) (vg:Value) (ig:List aa) (w:World) (hR:Rd pU F w (.slice Ap pks.length cp) pks) (h3:bK F w vg ig) (hs:∀x∈ig,x.size<=1000000)
 (hx:∀q∈pks,q.path.size<=1000000/\(∀x∈q.imps++q.tests,x.size<=1000000)/\q.imps.length+q.tests.length<=1000) (hpl:pks.length<=100) (hrt:root.size<=1000000) (hF:∀b,F b->b<w.heap.size):
 Calls Tryz.prog 12 #[.agg #[.string root, .slice Ap pks.length cp], .agg #[.bool true, .bool true, .bool false,vg]] w fun e w'=>
  (∃b,e= .returned (.bool b)/\(b=true↔∃p∈pks,∃q∈pks,OH root ig pks p q))/\Below w.heap.size w w':=by
 obtain ⟨A3,cg,rfl⟩:=h3.form;have hfd:=Fh;have H3:=Y0 h3;have HR:=Y0 hR;have HS:=Y0 hs;have HX:=Y0 hx;have yK:=Y0 hrt;have HF:=Y0 hF;clear h3 hR hs hx hrt hF;obtain ⟨W2,hW2,b1,b2,jr,hb2⟩:=I0 w (.cells #[.string root, .slice Ap pks.length cp] 44) (.cells #[.bool true, .bool true, .bool false, .slice A3 ig.length cg] 47);have HB:=Y4 b1 b2 jr hb2;have sX:=Y0 hW2;clear hW2 b1 b2 jr hb2;go_enter func12,ntmps12;go_wp2;go_loopw [12] (fun i wr=>∃k:Nat,i= .int .i64 k/\k<=pks.length/\Hid (Below (w.heap.size+1+1) W2 wr/\∀a∈pks.take k,∀b∈pks,¬OH root ig pks a b)) (fun i _=>pks.length - (intOf i).toNat)
 case atStart=>exact ⟨0,rfl,by omega,Y0 (by rw [<-sX.out];exact ⟨Below.refl _ _,by simp⟩)⟩
 obtain ⟨k,rfl,hk,hc⟩:=hrel;by_cases hlt:k<pks.length
 · have gI:Below w.heap.size w wr:=HB.out.2.2.2.trans (hc.out.1.mono (by omega));obtain ⟨g,off,Ai,ci,At,ct,rfl,hg,h1,h2,q0,q1,q2,q3,q4⟩:=kS HR.out hlt;have HQ:=Y0 (show ∀W,Below w.heap.size w W->_/\_/\_/\_/\_ from fun W h=>⟨ag q0 h,ag q1 h,ag q2 h,ag q3 h,ag q4 h⟩);obtain ⟨c0,c1,c2,c3,c4⟩:=HQ.out wr gI;clear q0 q1 q2 q3 q4 h1 h2;have hlt':(k:Int)<(pks.length:Int):=by omega
   obtain ⟨wo,hwo⟩:∃W,W=wr:=⟨_,rfl⟩;subst hwo;have hpk:pks[k]∈pks:=List.getElem_mem hlt;obtain ⟨W5,My⟩:∃W,W=wo.alloc (.cells #[.string pks[k].path, .string pks[k].name, .slice Ai pks[k].imps.length ci, .slice At pks[k].tests.length ct, .string pks[k].err] 118):=⟨_,rfl⟩;have hws:w.heap.size+1<wo.heap.size:=by have h1:=HB.out.2.2.1;have h2:=hc.out.1.size;omega
   have pB:Below wo.heap.size wo W5:=by rw [My];exact (Below.refl _ _).alloc (Nat.le_refl _) _
   have Mz:=hc.out.1.trans (pB.mono (by omega));have hk5:W5.heap[wo.heap.size]?=some (.cells #[.string pks[k].path, .string pks[k].name, .slice Ai pks[k].imps.length ci, .slice At pks[k].tests.length ct, .string pks[k].err] 118 (0,0)):=by rw [My];exact heap_alloc_new _ _
   have x1:(wo.alloc (.cells #[.string pks[k].path, .string pks[k].name, .slice Ai pks[k].imps.length ci, .slice At pks[k].tests.length ct, .string pks[k].err] 118)).cell? ⟨w.heap.size,1,none⟩=some (.slice (some ⟨g,off,none⟩) pks.length cp):=by rw [<-My];exact cK HB.out.1 rfl Mz (by omega)
   have CM:=Y0 My;have H5:=Y3 Mz hk5 pB;clear My Mz hk5 pB;go_wp2;clear x1 c0 c1 c2 c3 c4;go_loopw [19] (fun i wi=>∃j:Nat,i= .int .i64 j/\j<=pks.length/\Hid (Below (wo.heap.size+1) W5 wi/\∀b∈pks.take j,¬OH root ig pks pks[k] b)) (fun i _=>pks.length - (intOf i).toNat)
   case atStart=>exact ⟨0,rfl,by omega,Y0 (by rw [<-CM.out];exact ⟨Below.refl _ _,by simp⟩)⟩
   obtain ⟨j,rfl,hj,hd⟩:=hrel;by_cases lR:j<pks.length
   · have hb2:Below (w.heap.size+1+1) W2 wr:=H5.out.1.trans (hd.out.1.mono (by omega));have xR:Below w.heap.size w wr:=HB.out.2.2.2.trans (hb2.mono (by omega));obtain ⟨g',off',Uo,Uq,Ur,Us,he,hg2,-,-,q0,q1,q2,q3,q4⟩:=kS HR.out lR;simp only [Option.some.injEq,Addr.mk.injEq,and_true] at he;obtain ⟨rfl,rfl⟩:=he
     replace q0:=ag q0 xR
     replace q1:=ag q1 xR
     replace q2:=ag q2 xR
     replace q3:=ag q3 xR
     replace q4:=ag q4 xR
     have lK:(j:Int)<(pks.length:Int):=by omega
     have Xf:pks[j]∈pks:=List.getElem_mem lR;have hs5:W5.heap.size=wo.heap.size+1:=by rw [CM.out];simp
     have Xg:wo.heap.size<wr.heap.size:=by have:=hd.out.1.size;omega
     obtain ⟨w6,qi⟩:∃W,W=wr.alloc (.cells #[.string pks[j].path, .string pks[j].name, .slice Uo pks[j].imps.length Uq, .slice Ur pks[j].tests.length Us, .string pks[j].err] 118):=⟨_,rfl⟩;have rF:Below wr.heap.size wr w6:=by rw [qi];exact (Below.refl _ _).alloc (Nat.le_refl _) _
     have OI:w6.heap[wr.heap.size]?=some (.cells #[.string pks[j].path, .string pks[j].name, .slice Uo pks[j].imps.length Uq, .slice Ur pks[j].tests.length Us, .string pks[j].err] 118 (0,0)):=by rw [qi];exact heap_alloc_new _ _
     have bU:Hid (Below w.heap.size w w6):=Y0 (xR.trans (rF.mono xR.size))
     have hall:∀W,Below w6.heap.size w6 W->Below w6.heap.size w6 W/\W.cell? ⟨w.heap.size,0,none⟩=some (.string root)/\W.cell? ⟨w.heap.size,1,none⟩=some (.slice (some ⟨g,off,none⟩) pks.length cp)/\W.cell? ⟨w.heap.size+1,0,none⟩=some (.bool true)/\W.cell? ⟨w.heap.size+1,1,none⟩=some (.bool true)/\W.cell? ⟨w.heap.size+1,2,none⟩=some (.bool false)/\W.cell? ⟨w.heap.size+1,3,none⟩=some (.slice A3 ig.length cg)/\W.cell? ⟨wo.heap.size,0,none⟩=some (.string pks[k].path)/\W.cell? ⟨wr.heap.size,0,none⟩=some (.string pks[j].path):=fun W hW=>by
      have hl6:w6.heap.size=wr.heap.size+1:=by rw [qi];simp
      have e1:Below wr.heap.size wr W:=rF.trans (hW.mono (by omega));have e2:Below (w.heap.size+1+1) W2 W:=hb2.trans (e1.mono (by omega));have e3:Below (wo.heap.size+1) W5 W:=hd.out.1.trans (e1.mono (by omega));exact ⟨hW,cK HB.out.1 rfl e2 (by omega),cK HB.out.1 rfl e2 (by omega),cK HB.out.2.1 rfl e2 (by omega),cK HB.out.2.1 rfl e2 (by omega),cK HB.out.2.1 rfl e2 (by omega),cK HB.out.2.1 rfl e2 (by omega),cK H5.out.2.1 rfl e3 (by omega),cK OI rfl hW (by omega)⟩
     obtain ⟨-,y0,y1,y2,y3,y4,y5,y6,y7⟩:=hall w6 (Below.refl _ _);have hxs:=(HX.out _ hpk).1;have hys:=(HX.out _ Xf).1;have yJ:Hid (∀b∈pks.take (j+1),b=pks[j]\/b∈pks.take j):=Y0 (fun b hb=>by rw [List.take_succ_eq_append_getElem lR] at hb;rcases List.mem_append.1 hb with h|h;exact .inr h;exact .inl (by simpa using h));have jd:Hid (OH root ig pks pks[k] pks[j]↔pks[k].path≠pks[j].path/\eY root ig pks pks[k].path pks[j].path/\eY root ig pks pks[j].path pks[k].path):=Y0 Iff.rfl;have pV:Hid (pks[k]∈pks/\pks[j]∈pks):=Y0 ⟨hpk,Xf⟩;obtain ⟨pk,MC⟩:∃p,p=pks[k]:=⟨_,rfl⟩;obtain ⟨pj,Fi⟩:∃p,p=pks[j]:=⟨_,rfl⟩;have hc':=hc.out.2;have hd':=hd.out.2;rw [<-MC] at hall hxs jd pV y6 hd';rw [<-Fi] at hall hys jd pV y7 yJ;have HP:Hid (pk=pks[k]/\pj=pks[j]/\∀b∈pks.take j,¬OH root ig pks pk b):=Y0 ⟨MC,Fi,hd'⟩;rw [<-Fi] at q0 q1 q2 q3 q4;rw [<-Fi] at qi;have QT:=Y0 qi;have I4:=Y2 rF xR;have hall:=Y0 hall;clear rF OI hc' hd' MC Fi hb2 xR hs5 hpk Xf qi;rw [QT.out] at y0 y1 y2 y3 y4 y5 y6 y7;by_cases hne:pk.path=pj.path
     · have Xh:(pk.path.toList==pj.path.toList)=true:=by simp [hne]
       go_wp2;go_quiet (fail);go_wp2;refine ⟨⟨j+1,by go_num,by omega,Y0 ⟨?_,fun b hb=> ?_⟩⟩,by simp [intOf];omega⟩
       · have h1:=hd.out.1;have hs5:W5.heap.size=wo.heap.size+1:=by rw [CM.out];simp
         have h2:=h1.size
         repeat first|exact h1|refine Below.drew ?_|refine aY ?_|refine Below.alloc ?_ (by omega) _
       rw [<-HP.out.1];rcases yJ.out b hb with rfl|h
       · exact fun hr=>(jd.out.1 hr).1 hne
       exact HP.out.2.2 b h
     have Xh:(pk.path.toList==pj.path.toList)=false:=by rw [beq_eq_false_iff_ne,ByteArray.toList_eq,ByteArray.toList_eq];exact fun e=>hne (ByteArray.ext (Array.ext' e))
     go_wp2;rw [<-QT.out];rw [<-QT.out] at y0 y1 y2 y3 y4 y5 y6 y7;by_cases hi1:eY root ig pks pk.path pj.path
     · by_cases hi2:eY root ig pks pj.path pk.path
       · go_region_held3 (fun W=>Below w6.heap.size w6 W/\W.cell? ⟨w.heap.size,0,none⟩=some (.string root)/\W.cell? ⟨w.heap.size,1,none⟩=some (.slice (some ⟨g,off,none⟩) pks.length cp)/\W.cell? ⟨w.heap.size+1,0,none⟩=some (.bool true)/\W.cell? ⟨w.heap.size+1,1,none⟩=some (.bool true)/\W.cell? ⟨w.heap.size+1,2,none⟩=some (.bool false)/\W.cell? ⟨w.heap.size+1,3,none⟩=some (.slice A3 ig.length cg)/\W.cell? ⟨wo.heap.size,0,none⟩=some (.string pk.path)/\W.cell? ⟨wr.heap.size,0,none⟩=some (.string pj.path)) (first|assumption|exact hall.out _ (by repeat first|exact Below.refl _ _|refine Below.drew ?_)) (first|(go_at_call 43;have hz:=GS;have aR:Below w6.heap.size w6 _/\_:=(by assumption);refine (f43 (F:=F) root _ cp pks pj.path _ ig _ (HR.out.pure (bU.out.trans (aR.1.mono bU.out.size))) (H3.out.pure (bU.out.trans (aR.1.mono bU.out.size))) HS.out HX.out hpl yK.out hys (fun b hb=>Nat.lt_of_lt_of_le (HF.out b hb) (bU.out.trans (aR.1.mono bU.out.size)).size)).mono ?_;rintro e QU ⟨v1,v2,Fj,outs,rfl,hi,ho,-,hm,-,-,bb⟩;obtain ⟨A7,c7,rfl⟩:=hi.form;obtain ⟨A8,c8,rfl⟩:=ho.form;have iT:=hall.out QU (aR.1.trans (bb.mono aR.1.size));have MD:=Y2 hi hm;clear hi hm ho)|(go_at_call 43;have aR:Below w6.heap.size w6 _/\_:=(by assumption);refine (f43 (F:=F) root _ cp pks pk.path _ ig _ (HR.out.pure (bU.out.trans (aR.1.mono bU.out.size))) (H3.out.pure (bU.out.trans (aR.1.mono bU.out.size))) HS.out HX.out hpl yK.out hxs (fun b hb=>Nat.lt_of_lt_of_le (HF.out b hb) (bU.out.trans (aR.1.mono bU.out.size)).size)).mono ?_;rintro e Ky ⟨v1,v2,xS,outs,rfl,hi,ho,-,hm,-,-,bb⟩;obtain ⟨A7,c7,rfl⟩:=hi.form;obtain ⟨A8,c8,rfl⟩:=ho.form;have iT:=hall.out Ky (aR.1.trans (bb.mono aR.1.size));have GS:=Y2 hi hm;clear hi hm ho)|(go_at_call 42;have hz:=MD;have yN:=f42 (F:=F) _ Fj pk.path QU MD.out.1;rw [show fQ Fj pk.path=true from fC.2 ((MD.out.2 _).2 hi2)] at yN;refine yN.mono ?_;rintro e w4 ⟨rfl,rfl⟩)|(go_at_call 42;have yN:=f42 (F:=F) _ xS pj.path Ky GS.out.1;rw [show fQ xS pj.path=true from fC.2 ((GS.out.2 _).2 hi1)] at yN;refine yN.mono ?_;rintro e w4 ⟨rfl,rfl⟩));go_wp2;have aR:Below w6.heap.size w6 w4/\_:=(by assumption);go_ret;exact ⟨⟨true,rfl,fun _=>⟨pk,pV.out.1,pj,pV.out.2,jd.out.2 ⟨hne,hi1,hi2⟩⟩,fun _=>rfl⟩,bU.out.trans (aR.1.mono bU.out.size)⟩
       go_region_held3 (fun W=>Below w6.heap.size w6 W/\W.cell? ⟨w.heap.size,0,none⟩=some (.string root)/\W.cell? ⟨w.heap.size,1,none⟩=some (.slice (some ⟨g,off,none⟩) pks.length cp)/\W.cell? ⟨w.heap.size+1,0,none⟩=some (.bool true)/\W.cell? ⟨w.heap.size+1,1,none⟩=some (.bool true)/\W.cell? ⟨w.heap.size+1,2,none⟩=some (.bool false)/\W.cell? ⟨w.heap.size+1,3,none⟩=some (.slice A3 ig.length cg)/\W.cell? ⟨wo.heap.size,0,none⟩=some (.string pk.path)/\W.cell? ⟨wr.heap.size,0,none⟩=some (.string pj.path)) (first|assumption|exact hall.out _ (by repeat first|exact Below.refl _ _|refine Below.drew ?_)) (first|(go_at_call 43;have hz:=GS;have aR:Below w6.heap.size w6 _/\_:=(by assumption);refine (f43 (F:=F) root _ cp pks pj.path _ ig _ (HR.out.pure (bU.out.trans (aR.1.mono bU.out.size))) (H3.out.pure (bU.out.trans (aR.1.mono bU.out.size))) HS.out HX.out hpl yK.out hys (fun b hb=>Nat.lt_of_lt_of_le (HF.out b hb) (bU.out.trans (aR.1.mono bU.out.size)).size)).mono ?_;rintro e QU ⟨v1,v2,Fj,outs,rfl,hi,ho,-,hm,-,-,bb⟩;obtain ⟨A7,c7,rfl⟩:=hi.form;obtain ⟨A8,c8,rfl⟩:=ho.form;have iT:=hall.out QU (aR.1.trans (bb.mono aR.1.size));have MD:=Y2 hi hm;clear hi hm ho)|(go_at_call 43;have aR:Below w6.heap.size w6 _/\_:=(by assumption);refine (f43 (F:=F) root _ cp pks pk.path _ ig _ (HR.out.pure (bU.out.trans (aR.1.mono bU.out.size))) (H3.out.pure (bU.out.trans (aR.1.mono bU.out.size))) HS.out HX.out hpl yK.out hxs (fun b hb=>Nat.lt_of_lt_of_le (HF.out b hb) (bU.out.trans (aR.1.mono bU.out.size)).size)).mono ?_;rintro e Ky ⟨v1,v2,xS,outs,rfl,hi,ho,-,hm,-,-,bb⟩;obtain ⟨A7,c7,rfl⟩:=hi.form;obtain ⟨A8,c8,rfl⟩:=ho.form;have iT:=hall.out Ky (aR.1.trans (bb.mono aR.1.size));have GS:=Y2 hi hm;clear hi hm ho)|(go_at_call 42;have hz:=MD;have yN:=f42 (F:=F) _ Fj pk.path QU MD.out.1;rw [show fQ Fj pk.path=false from (by rw [Bool.eq_false_iff];exact fun h=>hi2 ((MD.out.2 _).1 (fC.1 h)))] at yN;refine yN.mono ?_;rintro e w4 ⟨rfl,rfl⟩)|(go_at_call 42;have yN:=f42 (F:=F) _ xS pj.path Ky GS.out.1;rw [show fQ xS pj.path=true from fC.2 ((GS.out.2 _).2 hi1)] at yN;refine yN.mono ?_;rintro e w4 ⟨rfl,rfl⟩));go_wp2;have aR:Below w6.heap.size w6 w4/\_:=(by assumption);refine ⟨⟨j+1,by go_num,by omega,Y0 ⟨?_,fun b hb=> ?_⟩⟩,by simp [intOf];omega⟩
       · have hs5:W5.heap.size=wo.heap.size+1:=by rw [CM.out];simp
         have h2:=hd.out.1.size;exact hd.out.1.trans ((I4.out.1.trans (aR.1.mono I4.out.1.size)).mono (by omega))
       rw [<-HP.out.1];rcases yJ.out b hb with rfl|h
       · exact fun hr=>hi2 (jd.out.1 hr).2.2
       exact HP.out.2.2 b h
     skip
     refine wp_region_held_drew (S:=(fun W=>Below w6.heap.size w6 W/\W.cell? ⟨w.heap.size,0,none⟩=some (.string root)/\W.cell? ⟨w.heap.size,1,none⟩=some (.slice (some ⟨g,off,none⟩) pks.length cp)/\W.cell? ⟨w.heap.size+1,0,none⟩=some (.bool true)/\W.cell? ⟨w.heap.size+1,1,none⟩=some (.bool true)/\W.cell? ⟨w.heap.size+1,2,none⟩=some (.bool false)/\W.cell? ⟨w.heap.size+1,3,none⟩=some (.slice A3 ig.length cg)/\W.cell? ⟨wo.heap.size,0,none⟩=some (.string pk.path)/\W.cell? ⟨wr.heap.size,0,none⟩=some (.string pj.path))) (by kernel_rfl) ?_ (fun hHeld=> ?_)
     · (try dsimp only)
       first|assumption|exact hall.out _ (by repeat first|exact Below.refl _ _|refine Below.drew ?_)
     refine ik [0,1,2,3,4,5,6,7,8,9,12,13] ?_;refine kq 10 (fun K hK=> ?_);go_simp
     (go_at_call 43;have aR:Below w6.heap.size w6 _/\_:=(by assumption);refine (f43 (F:=F) root _ cp pks pk.path _ ig _ (HR.out.pure (bU.out.trans (aR.1.mono bU.out.size))) (H3.out.pure (bU.out.trans (aR.1.mono bU.out.size))) HS.out HX.out hpl yK.out hxs (fun b hb=>Nat.lt_of_lt_of_le (HF.out b hb) (bU.out.trans (aR.1.mono bU.out.size)).size)).mono ?_;rintro e Ky ⟨v1,v2,xS,outs,rfl,hi,ho,-,hm,-,-,bb⟩;obtain ⟨A7,c7,rfl⟩:=hi.form;obtain ⟨A8,c8,rfl⟩:=ho.form;have iT:=hall.out Ky (aR.1.trans (bb.mono aR.1.size));have GS:=Y2 hi hm;clear hi hm ho)
     refine hK.out _ _ ?_ (fun hHeld=> ?_)
     · (try dsimp only)
       first|assumption|exact hall.out _ (by repeat first|exact Below.refl _ _|refine Below.drew ?_)
     clear hK K
     (try simp only [Act.put,aA,aB,aC])
     refine ik [11] ?_;refine kq 14 (fun K hK=> ?_);go_simp
     (go_at_call 42;have yN:=f42 (F:=F) _ xS pj.path Ky GS.out.1;rw [show fQ xS pj.path=false from (by rw [Bool.eq_false_iff];exact fun h=>hi1 ((GS.out.2 _).1 (fC.1 h)))] at yN;refine yN.mono ?_;rintro e w4 ⟨rfl,rfl⟩)
     refine hK.out _ _ ?_ (fun hHeld=> ?_)
     · (try dsimp only)
       first|assumption|exact hall.out _ (by repeat first|exact Below.refl _ _|refine Below.drew ?_)
     clear hK K
     (try simp only [Act.put,aA,aB,aC])
     refine ik [15,16,17,18,19,20,21,22,23,24,25,26] ?_;refine ve ?_;go_wp2;have aR:Below w6.heap.size w6 w4/\_:=(by assumption);refine ⟨⟨j+1,by go_num,by omega,Y0 ⟨?_,fun b hb=> ?_⟩⟩,by simp [intOf];omega⟩
     · have hs5:W5.heap.size=wo.heap.size+1:=by rw [CM.out];simp
       have h2:=hd.out.1.size;exact hd.out.1.trans ((I4.out.1.trans (aR.1.mono I4.out.1.size)).mono (by omega))
     rw [<-HP.out.1];rcases yJ.out b hb with rfl|h
     · exact fun hr=>hi1 (jd.out.1 hr).2.1
     exact HP.out.2.2 b h
   have wF:j=pks.length:=by omega
   subst wF;go_wp2;refine ⟨⟨k+1,by go_num,by omega,Y0 ⟨?_,fun a ha b hb=> ?_⟩⟩,by simp [intOf];omega⟩
   · exact H5.out.1.trans (hd.out.1.mono (by omega))
   rw [List.take_succ_eq_append_getElem hlt] at ha;rcases List.mem_append.1 ha with h|h
   · exact hc.out.2 a h b hb
   have e:a=pks[k]:=by simpa using h
   rw [e];exact hd.out.2 b (by rw [List.take_length];exact hb)
 have kJ:k=pks.length:=by omega
 subst kJ;go_wp2;go_ret;refine ⟨⟨false,rfl,fun h=>(by cases h),fun ⟨p,hp,q,hq,h⟩=>absurd h (hc.out.2 p (by rw [List.take_length];exact hp) q hq)⟩,HB.out.2.2.2.trans (hc.out.1.mono (by omega))⟩
def uG:Kd (aa × List aa × List aa) where
 sz:=3
 rep:=fun F w r cs=>∃v1 v2,cs= [.string r.1,v1,v2]/\bK F w v1 r.2.1/\bK F w v2 r.2.2
 len:=fun ⟨_,_,h,_,_⟩=>by rw [h];rfl
 one:=fun ⟨v1,v2,h,h1,h2⟩ u hu=>by
  obtain ⟨A1,c1,rfl⟩:=h1.form;obtain ⟨A2,c2,rfl⟩:=h2.form;rw [h] at hu;simp at hu;rcases hu with rfl|rfl|rfl<;>rfl
 step:=fun ho hk ⟨v1,v2,h,h1,h2⟩=>⟨v1,v2,h,h1.step' ho hk,h2.step' ho hk⟩
theorem ME {F:Nat->Prop} {w:World} {A:Option Addr} {n cap:Nat} {rs:List (aa × List aa × List aa)} (h:Rd uG F w (.slice A n cap) rs) {k:Nat} (hk:k<rs.length):
 ∃g off A1 c1 A2 c2,A=some ⟨g,off,none⟩/\g<w.heap.size/\bK F w (.slice A1 rs[k].2.1.length c1) rs[k].2.1/\bK F w (.slice A2 rs[k].2.2.length c2) rs[k].2.2/\
  w.cell? ⟨g,off+k*3,none⟩=some (.string rs[k].1)/\w.cell? ⟨g,off+k*3+1,none⟩=some (.slice A1 rs[k].2.1.length c1)/\w.cell? ⟨g,off+k*3+2,none⟩=some (.slice A2 rs[k].2.2.length c2):=by
 obtain ⟨g,off,cs,hA,hF,hg,hr,hc⟩:=h.at_ (List.getElem?_eq_getElem hk);obtain ⟨v1,v2,rfl,h1,h2⟩:=hr;obtain ⟨A1,c1,rfl⟩:=h1.form;obtain ⟨A2,c2,rfl⟩:=h2.form;exact ⟨g,off,A1,c1,A2,c2,hA,hg,h1,h2,by simpa [uG] using hc 0 _ rfl,by simpa [uG] using hc 1 _ rfl,by simpa [uG] using hc 2 _ rfl⟩
theorem ak {α:Type} {d:Kd α} {base:Nat} {e:TypeId} {F:Nat->Prop} {w:World} {v:Value} {xs:List α} (h:Own d base e F w v xs) {k:Nat} (hk:v.ownBlock=some k):F k/\base<=k/\k<w.heap.size/\∃cur,w.heap[k]?=some (.cells cur e (0,0)):=by
 obtain ⟨cs,h1,h2,h3⟩:=h;refine ⟨h2 k hk,(h1.lt k hk).1,(h1.lt k hk).2, ?_⟩;rcases h1.2 with ⟨rfl,_⟩|⟨g,cap,cur,rfl,hb,hg,_⟩
 · simp [Value.ownBlock] at hk
 simp [Value.ownBlock] at hk;subst hk;exact ⟨cur,hg⟩
theorem own_ne {α β:Type} {d:Kd α} {d':Kd β} {base base':Nat} {e e':TypeId} {F F':Nat->Prop} {w:World} {v v':Value} {xs:List α} {ys:List β} (h:Own d base e F w v xs) (h':Own d' base' e' F' w v' ys) (hne:e≠e') {k:Nat} (hk:v.ownBlock=some k):v'.ownBlock≠some k:=by
 intro hk';obtain ⟨_,_,_,cur,h1⟩:=ak h hk;obtain ⟨_,_,_,cur',h2⟩:=ak h' hk';rw [h1] at h2;simp at h2;exact hne h2.2
structure GU (F:Nat->Prop) (base:Nat) (wr:World) (Fk:Nat->Prop) (vr vp:Value) (rs:List (aa × List aa × List aa)) (ps:List aa):Prop where
 own:Own uG base 120 Fk wr vr rs
 ownp:Own aD base 9 (fun b=>vp.ownBlock=some b) wr vp ps
 fp:∀b,vp.ownBlock=some b->Fk b
 sub:∀b,F b->Fk b
 lt:∀b,Fk b->b<wr.heap.size
 old:∀b,Fk b->F b\/base<=b
 hb:base<=wr.heap.size
section
variable {F:Nat->Prop} {base:Nat} {wr:World} {Fk:Nat->Prop} {vr vp:Value} {rs:List (aa × List aa × List aa)} {ps:List aa}
theorem GU.pure (h:GU F base wr Fk vr vp rs ps) {w':World} (hb:Below wr.heap.size wr w'):GU F base w' Fk vr vp rs ps:=
 ⟨h.own.pure hb,h.ownp.pure hb,h.fp,h.sub,fun b k=>Nat.lt_of_lt_of_le (h.lt b k) hb.size,h.old,Nat.le_trans h.hb hb.size⟩
theorem GU.pushR (h:GU F base wr Fk vr vp rs ps) {w':World} {F':Nat->Prop} {v':Value} {rs':List (aa × List aa × List aa)} (h1:Own uG base 120 F' w' v' rs') (hS:dw Fk wr F' w') (hG:wr.grownBy w' vr.ownBlock):GU F base w' F' v' vp rs' ps:=by
 refine ⟨h1,aX h.ownp (fun k hk=>hG.block k (ak h.ownp hk).2.2.1 (fun e=>own_ne h.own h.ownp (by decide) e.symm hk)) (fun _ h=>h),fun b hb=>hS.grow b (h.fp b hb),fun b hb=>hS.grow b (h.sub b hb),hS.lt h.lt,fun b hb=> ?_,Nat.le_trans h.hb hG.size⟩;rcases Nat.lt_or_ge b wr.heap.size with hlt|hge
 · exact h.old b (hS.old b hlt hb)
 exact .inr (Nat.le_trans h.hb hge)
theorem GU.pushP (h:GU F base wr Fk vr vp rs ps) {w':World} {F':Nat->Prop} {v':Value} {ps':List aa} (h1:Own aD base 9 F' w' v' ps') (ki:dw (fun b=>vp.ownBlock=some b) wr F' w') (hG:wr.grownBy w' vp.ownBlock):GU F base w' (fun b=>Fk b\/v'.ownBlock=some b) vr v' rs ps':=by
 have h4:∀k,v'.ownBlock=some k->(vp.ownBlock=some k\/wr.heap.size<=k)/\k<w'.heap.size:=fun k hk=>by
  refine ⟨?_,(ak h1 hk).2.2.1⟩;rcases Nat.lt_or_ge k wr.heap.size with hlt|hge
  · exact .inl (ki.old k hlt (bh h1 hk))
  exact .inr hge
 have hS:dw Fk wr (fun b=>Fk b\/v'.ownBlock=some b) w':=⟨hG.size,fun b hb hn=>hG.block b hb (fun e=>hn (h.fp b e.symm)),fun b hb=> .inl hb,fun b hb hf=>by
  rcases hf with hf|hf
  · exact hf
  · rcases (h4 b hf).1 with h5|h5
    · exact h.fp b h5
    omega,fun hl b hb=>by
  rcases hb with hf|hf
  · exact Nat.lt_of_lt_of_le (hl b hf) hG.size
  exact (h4 b hf).2⟩
 refine ⟨h.own.step hS (fun k hk=>hG.block k (ak h.own hk).2.2.1 (fun e=>own_ne h.own h.ownp (by decide) hk e.symm)),cV (aW h1) (fun _ hk=>hk),fun b hb=> .inr hb,fun b hb=> .inl (h.sub b hb),hS.lt h.lt,fun b hb=> ?_,Nat.le_trans h.hb hG.size⟩;rcases hb with hb|hb
 · exact h.old b hb
 rcases (h4 b hb).1 with h5|h5
 · exact h.old b (h.fp b h5)
 exact .inr (Nat.le_trans h.hb h5)
end
def Kz (root:aa) (ig:List aa) (pks:List Pk) (r:aa × List aa × List aa):Prop:=∃q∈pks,r.1=q.path/\cX ig q=true/\∀x,x∈r.2.2↔iR root ig pks q.path x
theorem xU {pks:List Pk} {s:aa} (h:s∈pks.map (·.path)):∃k,kg pks s=some k:=by
 induction pks with
 | nil=>cases h
 | cons p r ih=>
   simp only [kg];split
   · exact ⟨0,rfl⟩
   rename_i hne;simp only [List.map_cons,List.mem_cons] at h;rcases h with h|h
   · exact absurd h.symm hne
   obtain ⟨k,hk⟩:=ih h;exact ⟨k+1,by rw [hk];rfl⟩
theorem I5:(Tryz.prog.info? 120).map (fun i=>(i.zero,i.size,i.bytes))=some (some (.agg #[.string ⟨#[]⟩, .slice none 0 0, .slice none 0 0]),3,64):=by kernel_rfl
end Go.Proofs.YtjenhelmpcajfaaGreatDoor
