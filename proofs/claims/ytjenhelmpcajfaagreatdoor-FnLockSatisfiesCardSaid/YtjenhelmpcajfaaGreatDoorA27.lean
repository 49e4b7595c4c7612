/- what all packages reach, flat -/
import Derived.Test.YtjenhelmpcajfaaGreatDoorA26
set_option linter.all false
set_option maxRecDepth 20000
set_option maxHeartbeats 8000000
namespace Go.Proofs.YtjenhelmpcajfaaGreatDoor
open Go.Proofs.Tryz Go.RowKit
def gf (pks:List Pk):List aa:=(pks.map (·.path)).foldl bf []
theorem xV (pks:List Pk) (x:aa):x∈gf pks↔∃q∈pks,q.path=x:=by
 unfold gf;rw [eG];simp
theorem uH (pks:List Pk) (k:Nat) (h:k<pks.length):gf (pks.take (k+1))=bf (gf (pks.take k)) pks[k].path:=by
 unfold gf;rw [List.take_succ_eq_append_getElem h,List.map_append,List.foldl_append];rfl
theorem pC (pks:List Pk):(gf pks).length<=pks.length:=by
 unfold gf
 have:∀(a l:List aa),(a.foldl bf l).length<=l.length+a.length:=by
  intro a
  induction a with
  | nil=>simp
  | cons x a ih=>intro l;have h1:=ih (bf l x);have h2:=dF l x;simp at h1 ⊢;omega
 have h:=this (pks.map (·.path)) [];simpa using h
theorem lF {pks:List Pk} (h:(pks.map (·.path)).Nodup) {p q:Pk} (hp:p∈pks) (hq:q∈pks) (e:p.path=q.path):p=q:=by
 induction pks with
 | nil=>cases hp
 | cons a r ih=>
   rw [List.map_cons,List.nodup_cons] at h;rcases List.mem_cons.1 hp with rfl|hp'<;>rcases List.mem_cons.1 hq with rfl|hq'
   · rfl
   · exact absurd (e▸List.mem_map.2 ⟨q,hq',rfl⟩) h.1
   · exact absurd (e▸List.mem_map.2 ⟨p,hp',rfl⟩) h.1
   exact ih h.2 hp' hq'
theorem f81 {F:Nat->Prop} (root:aa) (Ap:Option Addr) (cp:Nat) (pks:List Pk) (vg:Value) (ig:List aa) (w:World) (hR:Rd pU F w (.slice Ap pks.length cp) pks) (h3:bK F w vg ig) (hs:∀x∈ig,x.size<=1000000)
 (hx:∀q∈pks,q.path.size<=1000000/\(∀x∈q.imps++q.tests,x.size<=1000000)/\q.imps.length+q.tests.length<=1000) (hpl:pks.length<=100) (hrt:root.size<=1000000) (hF:∀b,F b->b<w.heap.size) (hnd:(pks.map (·.path)).Nodup):
 Calls Tryz.prog 81 #[.agg #[.string root, .slice Ap pks.length cp], .agg #[.bool true, .bool true, .bool false,vg]] w fun e w'=>
  ∃vr A2 n2 c2 rs,e= .returned (.tuple #[vr, .slice A2 n2 c2])/\Rd uG F w' vr rs/\Below w.heap.size w w'/\rs.length<=pks.length/\(∀r∈rs,Kz root ig pks r)/\∀q∈pks,cX ig q=true->∃r∈rs,r.1=q.path:=by
 obtain ⟨A3,cg,rfl⟩:=h3.form;have H3:=Y0 h3;have HR:=Y0 hR;have HS:=Y0 hs;have HX:=Y0 hx;have yK:=Y0 hrt;have HF:=Y0 hF;have HN:=Y0 hnd;clear h3 hR hs hx hrt hF hnd;obtain ⟨W2,hW2,b1,b2,jr,hb2⟩:=I0 w (.cells #[.string root, .slice Ap pks.length cp] 44) (.cells #[.bool true, .bool true, .bool false, .slice A3 ig.length cg] 47);have HB:=Y4 b1 b2 jr hb2;have sX:=Y0 hW2;clear hW2 b1 b2 jr hb2;go_enter func81,ntmps81;go_wp2;go_loopw [6,15] (fun t6 i wr=>∃k:Nat,i= .int .i64 k/\k<=pks.length/\Hid (Below (w.heap.size+1+1) W2 wr/\bK F wr t6 (gf (pks.take k)))) (fun _ i _=>pks.length - (intOf i).toNat)
 case atStart=>exact ⟨0,rfl,by omega,Y0 (by rw [<-sX.out];exact ⟨Below.refl _ _,Rd.nil _ _ _ _ _ (by simp [maxLen])⟩)⟩
 obtain ⟨k,rfl,hk,hc⟩:=hrel;obtain ⟨A6,c6,hv6⟩:=hc.out.2.form;generalize Ut:(gf (pks.take k)).length=n6 at hv6;subst hv6;have Uu:=Y0 Ut;clear Ut;have gI:Below w.heap.size w wr:=HB.out.2.2.2.trans (hc.out.1.mono (by omega));by_cases hlt:k<pks.length
 · obtain ⟨g,off,Ai,ci,At,ct,rfl,hg,h1,h2,q0,q1,q2,q3,q4⟩:=kS HR.out hlt
   replace q0:=ag q0 gI
   replace q1:=ag q1 gI
   replace q2:=ag q2 gI
   replace q3:=ag q3 gI
   replace q4:=ag q4 gI
   have hlt':(k:Int)<(pks.length:Int):=by omega
   have yL:=Y0 gI;obtain ⟨w6,qi⟩:∃W,W=wr.alloc (.cells #[.string pks[k].path, .string pks[k].name, .slice Ai pks[k].imps.length ci, .slice At pks[k].tests.length ct, .string pks[k].err] 118):=⟨_,rfl⟩;have rF:Below wr.heap.size wr w6:=by rw [qi];exact (Below.refl _ _).alloc (Nat.le_refl _) _
   have QT:=Y0 qi;have bU:=Y0 rF;clear qi rF gI h1 h2;go_wp2_with (go_at_call 46;rw [<-QT.out];refine (f46 (F:=F) _ _ pks[k].path _ (hc.out.2.pure bU.out) (fun b hb=>Nat.lt_of_lt_of_le (HF.out b hb) (yL.out.trans (bU.out.mono yL.out.size)).size) (by have:=pC (pks.take k);have:=List.length_take_le k pks;omega)).mono ?_;rintro e w7 ⟨v7,rfl,h7,iV⟩);refine ⟨⟨k+1,by go_num,by omega,Y0 ⟨?_, ?_⟩⟩,by simp [intOf];omega⟩
   · have h1:=hc.out.1;have hsz:=h1.size;have h0:=HB.out.2.2.1;exact h1.trans ((bU.out.trans (iV.mono bU.out.size)).mono (by omega))
   rw [uH pks k hlt];exact h7
 have kJ:k=pks.length:=by omega
 subst kJ;have hc2:=hc.out.2;rw [List.take_length] at hc2;rw [List.take_length] at Uu;obtain ⟨P,hP⟩:∃P,P=gf pks:=⟨_,rfl⟩;rw [<-hP] at hc2 Uu;have Xi:P.length<=pks.length:=by rw [hP];exact pC pks
 have hPm:Hid (∀x,x∈P↔∃q∈pks,q.path=x):=Y0 (by rw [hP];exact xV pks);have Ut:=Uu.out;subst Ut;have HP:=Y0 hc2;obtain ⟨wo,hwo⟩:∃W,W=wr:=⟨_,rfl⟩;subst hwo;have BG:=Y2 hc.out.1 gI;clear hc hc2 hP Uu gI;go_wp2
 go_loopw [4,5,26] (fun t4 t5 i wr=>∃(k:Nat) (Fk:Nat->Prop) (rs:List (aa × List aa × List aa)) (ps:List aa),i= .int .i64 k/\k<=P.length/\Hid (GU F wo.heap.size wr Fk t4 t5 rs ps/\Below wo.heap.size wo wr/\rs.length<=k/\ps.length<=k/\
  (∀r∈rs,Kz root ig pks r)/\∀q∈pks,q.path∈P.take k->cX ig q=true->∃r∈rs,r.1=q.path)) (fun _ _ i _=>P.length - (intOf i).toNat)
 case atStart=>
  have Xj:∀b,F b->b<wo.heap.size:=fun b hb=>Nat.lt_of_lt_of_le (HF.out b hb) BG.out.2.size
  exact ⟨0,F, [], [],rfl,by omega,Y0 ⟨⟨Own.nil _ _ _ _ _,Own.nil _ _ _ _ _,by simp [Value.ownBlock],fun b h=>h,Xj,fun b h=> .inl h,Nat.le_refl _⟩,Below.refl _ _,by simp,by simp,by simp,by simp⟩⟩
 obtain ⟨k,Fk,rs,ps,rfl,hk,hc⟩:=hrel;obtain ⟨A4,c4,hv4⟩:=hc.out.1.own.form;obtain ⟨A5,c5,ID⟩:=hc.out.1.ownp.form;generalize KC:rs.length=n4 at hv4;generalize GD:ps.length=n5 at ID;subst hv4 ID;have HN4:=Y0 KC;have HN5:=Y0 GD;clear KC GD;have hsw:w.heap.size+1+1<=wo.heap.size:=by have h1:=HB.out.2.2.1;have h2:=BG.out.1.size;omega
 have qg:Below (w.heap.size+1+1) W2 wr:=BG.out.1.trans (hc.out.2.1.mono hsw);have gI:Below w.heap.size w wr:=HB.out.2.2.2.trans (qg.mono (by omega));by_cases hlt:k<P.length
 · have Xk:∃q∈pks,q.path=P[k]:=(hPm.out P[k]).1 (List.getElem_mem hlt);obtain ⟨gP,Xl,rfl,hFg,Uv,CN⟩:=HP.out.at1 hlt;have Xm:wr.cell? ⟨gP,Xl+k,none⟩=some (.string P[k]):=ag CN hc.out.2.1;have hlt':(k:Int)<(P.length:Int):=by omega
   have htk:Hid (∀y,y∈P.take (k+1)↔y∈P.take k\/y=P[k]):=Y0 (fun y=>by rw [List.take_succ_eq_append_getElem hlt,List.mem_append,List.mem_singleton]);obtain ⟨x,hx⟩:∃x,x=P[k]:=⟨_,rfl⟩;rw [<-hx] at Xk Xm htk;obtain ⟨j,Bu⟩:=xU (pks:=pks) (s:=x) (by obtain ⟨q,hq,e⟩:=Xk;exact List.mem_map.2 ⟨q,hq,e⟩);obtain ⟨hj,pq,hpq,vG⟩:=qm Bu;have Fg:pks[j]=pq:=(List.getElem?_eq_some_iff.1 hpq).2;obtain ⟨g,off,Aq,cq,At,ct,Mt,Mu,hi1,hi2,e0,e1,e2,e3,e4⟩:=kS HR.out hj;rw [Fg] at hi1 hi2 e0 e1 e2 e3 e4;have pV:Hid (pq∈pks/\pq.path=x):=Y0 ⟨List.mem_of_getElem? hpq,vG⟩;have Ms:=Y0 Bu;have Dt:=Y0 hi1;have zY:=Y0 hi2;subst Mt;have hws:w.heap.size+1<wr.heap.size:=by have h1:=HB.out.2.2.1;have h2:=qg.size;omega
   have hall:Hid (∀W,Below wr.heap.size wr W->Below wr.heap.size wr W/\W.cell? ⟨w.heap.size,0,none⟩=some (.string root)/\W.cell? ⟨w.heap.size,1,none⟩=some (.slice (some ⟨g,off,none⟩) pks.length cp)/\W.cell? ⟨g,off+j*5,none⟩=some (.string pq.path)/\W.cell? ⟨g,off+j*5+1,none⟩=some (.string pq.name)/\W.cell? ⟨g,off+j*5+2,none⟩=some (.slice Aq pq.imps.length cq)/\W.cell? ⟨g,off+j*5+3,none⟩=some (.slice At pq.tests.length ct)/\W.cell? ⟨g,off+j*5+4,none⟩=some (.string pq.err)):=Y0 (fun W hb=>by
    have e5:Below (w.heap.size+1+1) W2 W:=qg.trans (hb.mono (by omega));have e6:Below w.heap.size w W:=gI.trans (hb.mono (by omega));exact ⟨hb,cK HB.out.1 rfl e5 (by omega),cK HB.out.1 rfl e5 (by omega),ag e0 e6,ag e1 e6,ag e2 e6,ag e3 e6,ag e4 e6⟩)
   have hj':(j:Int)<(pks.length:Int):=by omega
   have gI:=Y0 gI;have qg:=Y0 qg;clear Bu hi1 hi2 e0 e1 e2 e3 e4 Fg hpq vG Mu Xk CN hx hFg Uv hws;go_wp2;refine wp_region_held_drew (S:=(fun W=>Below wr.heap.size wr W/\W.cell? ⟨w.heap.size,0,none⟩=some (.string root)/\W.cell? ⟨w.heap.size,1,none⟩=some (.slice (some ⟨g,off,none⟩) pks.length cp)/\W.cell? ⟨g,off+j*5,none⟩=some (.string pq.path)/\W.cell? ⟨g,off+j*5+1,none⟩=some (.string pq.name)/\W.cell? ⟨g,off+j*5+2,none⟩=some (.slice Aq pq.imps.length cq)/\W.cell? ⟨g,off+j*5+3,none⟩=some (.slice At pq.tests.length ct)/\W.cell? ⟨g,off+j*5+4,none⟩=some (.string pq.err))) (by kernel_rfl) ?_ (fun hHeld=> ?_)
   · (try dsimp only)
     first|assumption|exact hall.out _ (by repeat first|exact Below.refl _ _|exact nT.out|refine Below.drew ?_|refine Below.alloc ?_ (by first|exact nT.out.size|simp) _|refine Below.setCell ?_ (by show _<=_;first|exact nT.out.size|simp) _)
   refine ik [0,1,2,3] ?_;refine U9 [4,7] ?_;refine iL (i:=4) (fun K hK=> ?_) (iL (i:=7) (fun K hK=> ?_) .nil)
   rotate_left
   go_simp;refine hK.out _ _ ?_ (fun hHeld=> ?_)
   · (try dsimp only)
     first|assumption|exact hall.out _ (by repeat first|exact Below.refl _ _|exact nT.out|refine Below.drew ?_|refine Below.alloc ?_ (by first|exact nT.out.size|simp) _|refine Below.setCell ?_ (by show _<=_;first|exact nT.out.size|simp) _)
   clear hK K
   (try simp only [Act.put,aA,aB,aC])
   refine kq 4 (fun K hK=> ?_);go_simp;go_at_call 78;refine (f78 (F:=F) root _ pks x _ (HR.out.pure (gI.out.trans (by have h0:Below wr.heap.size wr _/\_:=(by assumption);exact h0.1.mono gI.out.size)))).mono ?_;rw [Ms.out];simp only [OB];rintro e w1 ⟨rfl,az⟩;have nT:Hid (Below wr.heap.size wr w1):=Y0 (by have h0:Below wr.heap.size wr _/\_:=(by assumption);exact h0.1.trans (az.mono h0.1.size));have hz:w1.heap[wr.heap.size]?=some (.cells #[.string ⟨#[]⟩, .string ⟨#[]⟩, .slice none 0 0, .slice none 0 0, .string ⟨#[]⟩] 118 (0,0)):=ax (heap_alloc_new wr.drew (.cells #[.string ⟨#[]⟩, .string ⟨#[]⟩, .slice none 0 0, .slice none 0 0, .string ⟨#[]⟩] 118)) az;have hz0:=cellAt (j:=0) hz rfl;have hz1:=cellAt (j:=1) hz rfl;have hz2:=cellAt (j:=2) hz rfl;have hz3:=cellAt (j:=3) hz rfl;have Uw:=cellAt (j:=4) hz rfl;have Xn:=frozenAt (j:=0) hz;have Xo:=frozenAt (j:=1) hz;have Xp:=frozenAt (j:=2) hz;have Xq:=frozenAt (j:=3) hz;have Xr:=frozenAt (j:=4) hz;refine hK.out _ _ ?_ (fun hHeld=> ?_)
   · (try dsimp only)
     first|assumption|exact hall.out _ (by repeat first|exact Below.refl _ _|exact nT.out|refine Below.drew ?_|refine Below.alloc ?_ (by first|exact nT.out.size|simp) _|refine Below.setCell ?_ (by show _<=_;first|exact nT.out.size|simp) _)
   clear hK K
   (try simp only [Act.put,aA,aB,aC])
   refine ik [5,6] ?_;refine kq 8 (fun K hK=> ?_);go_simp;refine hK.out _ _ ?_ (fun hHeld=> ?_)
   · (try dsimp only)
     first|assumption|exact hall.out _ (by repeat first|exact Below.refl _ _|exact nT.out|refine Below.drew ?_|refine Below.alloc ?_ (by first|exact nT.out.size|simp) _|refine Below.setCell ?_ (by show _<=_;first|exact nT.out.size|simp) _)
   clear hK K
   (try simp only [Act.put,aA,aB,aC])
   refine ve ?_;have hq0:=heap_setCell_same w1 wr.heap.size 0 _ _ (.string pq.path) hz;have hq1:=heap_setCell_same _ wr.heap.size 1 _ _ (.string pq.name) hq0;have hq2:=heap_setCell_same _ wr.heap.size 2 _ _ (.slice Aq pq.imps.length cq) hq1;have MF:=heap_setCell_same _ wr.heap.size 3 _ _ (.slice At pq.tests.length ct) hq2;have MG:=heap_setCell_same _ wr.heap.size 4 _ _ (.string pq.err) MF;obtain ⟨sw,MH⟩:∃n,n=wr.heap.size:=⟨_,rfl⟩;have PF:=Y0 (show Below sw wr (((((w1.setCell ⟨wr.heap.size,0,none⟩ (.string pq.path)).setCell ⟨wr.heap.size,1,none⟩ (.string pq.name)).setCell ⟨wr.heap.size,2,none⟩ (.slice Aq pq.imps.length cq)).setCell ⟨wr.heap.size,3,none⟩ (.slice At pq.tests.length ct)).setCell ⟨wr.heap.size,4,none⟩ (.string pq.err))/\(((((w1.setCell ⟨wr.heap.size,0,none⟩ (.string pq.path)).setCell ⟨wr.heap.size,1,none⟩ (.string pq.name)).setCell ⟨wr.heap.size,2,none⟩ (.slice Aq pq.imps.length cq)).setCell ⟨wr.heap.size,3,none⟩ (.slice At pq.tests.length ct)).setCell ⟨wr.heap.size,4,none⟩ (.string pq.err)).heap[wr.heap.size]?=some (.cells #[.string pq.path, .string pq.name, .slice Aq pq.imps.length cq, .slice At pq.tests.length ct, .string pq.err] 118 (0,0))/\wr.heap.size<=wr.heap.size from ⟨by rw [MH];exact (((((nT.out.setCell (Nat.le_refl _) _).setCell (Nat.le_refl _) _).setCell (Nat.le_refl _) _).setCell (Nat.le_refl _) _).setCell (Nat.le_refl _) _),MG,Nat.le_refl _⟩);clear nT hHeld az hq0 hq1 hq2 MF MG hz hz0 hz1 hz2 hz3 Uw Xn Xo Xp Xq Xr;generalize (((((w1.setCell ⟨wr.heap.size,0,none⟩ (.string pq.path)).setCell ⟨wr.heap.size,1,none⟩ (.string pq.name)).setCell ⟨wr.heap.size,2,none⟩ (.slice Aq pq.imps.length cq)).setCell ⟨wr.heap.size,3,none⟩ (.slice At pq.tests.length ct)).setCell ⟨wr.heap.size,4,none⟩ (.string pq.err))=W3 at PF ⊢;generalize mJ:wr.heap.size=bt at PF ⊢;rw [MH] at PF;clear MH
   rotate_left
   go_simp;go_at_call 78;refine (f78 (F:=F) root _ pks x _ (HR.out.pure (gI.out.trans (by have h0:Below wr.heap.size wr _/\_:=(by assumption);exact h0.1.mono gI.out.size)))).mono ?_;rw [Ms.out];simp only [OB];rintro e w1 ⟨rfl,az⟩;have nT:Hid (Below wr.heap.size wr w1):=Y0 (by have h0:Below wr.heap.size wr _/\_:=(by assumption);exact h0.1.trans (az.mono h0.1.size));refine hK.out _ _ ?_ (fun hHeld=> ?_)
   · (try dsimp only)
     first|assumption|exact hall.out _ (by repeat first|exact Below.refl _ _|exact nT.out|refine Below.drew ?_|refine Below.alloc ?_ (by first|exact nT.out.size|simp) _|refine Below.setCell ?_ (by show _<=_;first|exact nT.out.size|simp) _)
   clear hK K
   (try simp only [Act.put,aA,aB,aC])
   refine ik [5,6] ?_;refine kq 7 (fun K hK=> ?_);go_simp;refine hK.out _ _ ?_ (fun hHeld=> ?_)
   · (try dsimp only)
     first|assumption|exact hall.out _ (by repeat first|exact Below.refl _ _|exact nT.out|refine Below.drew ?_|refine Below.alloc ?_ (by first|exact nT.out.size|simp) _|refine Below.setCell ?_ (by show _<=_;first|exact nT.out.size|simp) _)
   clear hK K
   (try simp only [Act.put,aA,aB,aC])
   refine kq 8 (fun K hK=> ?_);go_simp;refine hK.out _ _ ?_ (fun hHeld=> ?_)
   · (try dsimp only)
     first|assumption|exact hall.out _ (by repeat first|exact Below.refl _ _|exact nT.out|refine Below.drew ?_|refine Below.alloc ?_ (by first|exact nT.out.size|simp) _|refine Below.setCell ?_ (by show _<=_;first|exact nT.out.size|simp) _)
   clear hK K
   (try simp only [Act.put,aA,aB,aC])
   refine ve ?_;have PF:=Y0 (show Below wr.heap.size wr (w1.alloc (.cells #[.string pq.path, .string pq.name, .slice Aq pq.imps.length cq, .slice At pq.tests.length ct, .string pq.err] 118))/\(w1.alloc (.cells #[.string pq.path, .string pq.name, .slice Aq pq.imps.length cq, .slice At pq.tests.length ct, .string pq.err] 118)).heap[w1.heap.size]?=some (.cells #[.string pq.path, .string pq.name, .slice Aq pq.imps.length cq, .slice At pq.tests.length ct, .string pq.err] 118 (0,0))/\wr.heap.size<=w1.heap.size from ⟨nT.out.alloc nT.out.size _,heap_alloc_new _ _,nT.out.size⟩);clear nT hHeld az;generalize w1.alloc (.cells #[.string pq.path, .string pq.name, .slice Aq pq.imps.length cq, .slice At pq.tests.length ct, .string pq.err] 118)=W3 at PF ⊢;generalize w1.heap.size=bt at PF ⊢
   all_goals
    have p0:W3.cell? ⟨bt,0,none⟩=some (.string pq.path):=cellAt (j:=0) PF.out.2.1 rfl;have p1:W3.cell? ⟨bt,1,none⟩=some (.string pq.name):=cellAt (j:=1) PF.out.2.1 rfl;have p2:W3.cell? ⟨bt,2,none⟩=some (.slice Aq pq.imps.length cq):=cellAt (j:=2) PF.out.2.1 rfl;have p3:W3.cell? ⟨bt,3,none⟩=some (.slice At pq.tests.length ct):=cellAt (j:=3) PF.out.2.1 rfl;have p4:W3.cell? ⟨bt,4,none⟩=some (.string pq.err):=cellAt (j:=4) PF.out.2.1 rfl;have QV:=Y0 (hc.out.1.pure PF.out.1);have dK:Hid (Below w.heap.size w W3):=Y0 (gI.out.trans (PF.out.1.mono gI.out.size));have Aa:Hid (Below wo.heap.size wo W3):=Y0 (hc.out.2.1.trans (PF.out.1.mono hc.out.2.1.size));have g0:W3.cell? ⟨w.heap.size+1,0,none⟩=some (.bool true):=cK HB.out.2.1 rfl (qg.out.trans (PF.out.1.mono (Nat.le_trans hsw hc.out.2.1.size))) (by omega);have g1:W3.cell? ⟨w.heap.size+1,1,none⟩=some (.bool true):=cK HB.out.2.1 rfl (qg.out.trans (PF.out.1.mono (Nat.le_trans hsw hc.out.2.1.size))) (by omega);have g2:W3.cell? ⟨w.heap.size+1,2,none⟩=some (.bool false):=cK HB.out.2.1 rfl (qg.out.trans (PF.out.1.mono (Nat.le_trans hsw hc.out.2.1.size))) (by omega);have g3:W3.cell? ⟨w.heap.size+1,3,none⟩=some (.slice A3 ig.length cg):=cK HB.out.2.1 rfl (qg.out.trans (PF.out.1.mono (Nat.le_trans hsw hc.out.2.1.size))) (by omega);have r0:W3.cell? ⟨w.heap.size,0,none⟩=some (.string root):=cK HB.out.1 rfl (qg.out.trans (PF.out.1.mono (Nat.le_trans hsw hc.out.2.1.size))) (by omega);have r1:W3.cell? ⟨w.heap.size,1,none⟩=some (.slice (some ⟨g,off,none⟩) pks.length cp):=cK HB.out.1 rfl (qg.out.trans (PF.out.1.mono (Nat.le_trans hsw hc.out.2.1.size))) (by omega);have hold:Hid (∀b,b<w.heap.size->Fk b->F b):=Y0 (fun b hb h=>by rcases hc.out.1.old b h with h|h;exact h;omega);have hinj:Hid (∀q∈pks,q.path=x->q=pq):=Y0 (fun q hq e=>lF HN.out hq pV.out.1 (e.trans pV.out.2.symm));have KC:=HN4.out;have GD:=HN5.out;have hl4:=hc.out.2.2.1;have hl5:=hc.out.2.2.2.1;clear hsw hj hj';cases hct:cX ig pq
    · have Mv:=Y0 hct;clear hct;cases hee:pq.err.toList.isEmpty
      · have hb4:Below W3.heap.size W3 (W3.alloc (.cells #[.string x] 9)):=(Below.refl _ _).alloc (Nat.le_refl _) _;have HO:=Y0 (QV.out.ownp.pure hb4);have HE:=Y0 (Rd.one (d:=aD) (F:=fun b=>(Value.slice A5 n5 c5).ownBlock=some b) (w:=W3) (e:=9) (x:=x) (cs:= #[.string x]) rfl (fun b hb=>(ak QV.out.ownp hb).2.2.1));have WX:wo.heap.size<=W3.heap.size+1:=by have:=Aa.out.size;omega
        have jA:=Y0 hb4;clear hb4 p0 p1 p2 p3 g0 g1 g2 g3 r0 r1;go_wp2_with (at_builtin;refine aH (o:=⟨some 51,_,_,_,_,_⟩) rfl _ _ 22 rfl aD 9 (.string ⟨#[]⟩) 16 underlying22 eA rfl (by decide) rfl rfl HO.out HE.out (by rw [GD];simp [maxLen];omega) (by rw [GD];simp;omega) (by simp;omega) rfl (n5+1) (by rw [List.length_append,GD];rfl) ?_;intro A9 c9 w5 F5 Fe mK bz Ff;have CJ:=Y4 Fe mK bz Ff;clear Fe mK bz Ff;go_frame);obtain ⟨o1,o2,o3,o4⟩:=CJ.out;refine ⟨⟨k+1,_,rs,ps++ [x],by go_num,by omega,Y0 ⟨(QV.out.pure jA.out).pushP o1 o2 o4,Aa.out.trans ((jA.out.mono Aa.out.size).trans o3),by omega,by simp;omega,hc.out.2.2.2.2.1,fun q hq hp vw=> ?_⟩⟩,by simp [intOf];omega⟩;rcases (htk.out _).1 hp with h|h
        · exact hc.out.2.2.2.2.2 q hq h vw
        rw [hinj.out q hq h,Mv.out] at vw;cases vw
      go_wp2_with (go_at_call 79;refine (f79 (F:=F) pq _ _ _ ig _ (Dt.out.pure dK.out) (zY.out.pure dK.out) (H3.out.pure dK.out) HS.out (HX.out pq pV.out.1).1).mono ?_;rw [Mv.out];rintro e w4 ⟨rfl,hB4⟩);refine ⟨⟨k+1,Fk,rs,ps,by go_num,by omega,Y0 ⟨QV.out.pure hB4,Aa.out.trans (hB4.mono Aa.out.size),by omega,by omega,hc.out.2.2.2.2.1,fun q hq hp vw=> ?_⟩⟩,by simp [intOf];omega⟩;rcases (htk.out _).1 hp with h|h
      · exact hc.out.2.2.2.2.2 q hq h vw
      rw [hinj.out q hq h,Mv.out] at vw;cases vw
    · have hee:pq.err.toList.isEmpty=true:=by
       have h1:=hct;unfold cX at h1;rw [Bool.and_eq_true] at h1;exact h1.1
      have Mv:=Y0 hct;clear hct;have hkk:Hid (∀W,Below w.heap.size w W->Rd pU Fk W (.slice (some ⟨g,off,none⟩) pks.length cp) pks/\bK Fk W (.slice A3 ig.length cg) ig):=Y0 (fun W hW=>⟨HR.out.step' hold.out (fun b hb _=>hW.block b hb),H3.out.step' hold.out (fun b hb _=>hW.block b hb)⟩);have hxs:Hid (x.size<=1000000):=Y0 (by rw [<-pV.out.2];exact (HX.out pq pV.out.1).1);go_wp2_with (first|(go_at_call 79;refine (f79 (F:=F) pq _ _ _ ig _ (Dt.out.pure dK.out) (zY.out.pure dK.out) (H3.out.pure dK.out) HS.out (HX.out pq pV.out.1).1).mono ?_;rw [Mv.out];rintro e w4 ⟨rfl,hB4⟩;have r0':=ag r0 hB4;have r1':=ag r1 hB4;have g0':=ag g0 hB4;have g1':=ag g1 hB4;have g2':=ag g2 hB4;have g3':=ag g3 hB4;have jA:=Y0 (dK.out.trans (hB4.mono dK.out.size));have MP4:=Y0 (QV.out.pure hB4);have QW:=Y0 (Aa.out.trans (hB4.mono Aa.out.size));clear hB4)|(go_at_call 43;refine (f43 (F:=Fk) root _ cp pks x _ ig _ (hkk.out _ jA.out).1 (hkk.out _ jA.out).2 HS.out HX.out hpl yK.out hxs.out MP4.out.lt).mono ?_;rintro e w6 ⟨v1,v2,ins,outs,rfl,hi,ho,-,-,-,hm,eQ⟩;obtain ⟨A7,c7,rfl⟩:=hi.form;obtain ⟨A8,c8,rfl⟩:=ho.form;have Xt:=Y0 (MP4.out.pure eQ);have MI:=Y0 (QW.out.trans (eQ.mono QW.out.size));have sF:Below w6.heap.size w6 (w6.alloc (.cells #[.string x, .slice A7 ins.length c7, .slice A8 outs.length c8] 120)):=(Below.refl _ _).alloc (Nat.le_refl _) _;have HO:=Y0 (Xt.out.own.pure sF);have HE:=Y0 (Rd.one (d:=uG) (F:=Fk) (w:=w6) (e:=120) (x:=(x,ins,outs)) (cs:= #[.string x, .slice A7 ins.length c7, .slice A8 outs.length c8]) ⟨_,_,rfl,hi.pure sF,ho.pure sF⟩ Xt.out.lt);have aat:wo.heap.size<=w6.heap.size+1:=(by have:=MI.out.size;omega);have zF:=Y0 sF;have HM:=Y0 hm;clear sF hi ho hm eQ)|(at_builtin;refine aH (o:=⟨some 43,_,_,_,_,_⟩) rfl _ _ 202 rfl uG 120 (.agg #[.string ⟨#[]⟩, .slice none 0 0, .slice none 0 0]) 64 underlying202 I5 rfl (by decide) rfl rfl HO.out HE.out (by rw [KC];simp [maxLen];omega) (by rw [KC];simp;omega) (by simp;omega) rfl (n4+1) (by rw [List.length_append,KC];rfl) ?_;intro A9 c9 w5 F5 Fe mK bz Ff;have CJ:=Y4 Fe mK bz Ff;clear Fe mK bz Ff;go_frame));obtain ⟨o1,o2,o3,o4⟩:=CJ.out;refine ⟨⟨k+1,F5,rs++ [(x,ins,outs)],ps,by go_num,by omega,Y0 ⟨(Xt.out.pure zF.out).pushR o1 o2 o4,MI.out.trans ((zF.out.mono MI.out.size).trans o3),by simp;omega,by omega, ?_,fun q hq hp vw=> ?_⟩⟩,by simp [intOf];omega⟩
      · intro r hr;rcases List.mem_append.1 hr with h|h
        · exact hc.out.2.2.2.2.1 r h
        have e:r=(x,ins,outs):=by simpa using h
        rw [e];exact ⟨pq,pV.out.1,pV.out.2.symm,Mv.out,fun y=>by rw [pV.out.2];exact HM.out y⟩
      rcases (htk.out _).1 hp with h|h
      · obtain ⟨r,hr,e⟩:=hc.out.2.2.2.2.2 q hq h vw;exact ⟨r,List.mem_append_left _ hr,e⟩
      exact ⟨(x,ins,outs),by simp,h.symm⟩
 have kJ:k=P.length:=by omega
 subst kJ;go_wp2;go_ret2;have Xj:∀b,F b->b<wo.heap.size:=fun b hb=>Nat.lt_of_lt_of_le (HF.out b hb) BG.out.2.size
 have hr:=hc.out.1.own.rd Xj hc.out.1.sub (by decide);have KC:=HN4.out;have hl:=hc.out.2.2.1;subst KC;exact ⟨_,_,_,_,rs,rfl,hr,gI,by omega,hc.out.2.2.2.2.1,fun q hq vw=>hc.out.2.2.2.2.2 q hq (by rw [List.take_length];exact (hPm.out _).2 ⟨q,hq,rfl⟩) vw⟩
def fH:List (aa × List aa × List aa)->List aa->List aa
 | [],l=>l
 | r::rs,l=>fH rs (if hidden r.1 then l else r.2.2.foldl bf l)
theorem oG:∀(rs:List (aa × List aa × List aa)) (l:List aa) (x:aa),x∈fH rs l↔x∈l\/∃r∈rs,hidden r.1=false/\x∈r.2.2
 | [],l,x=>by simp [fH]
 | r::rs,l,x=>by
   simp only [fH];rw [oG rs];cases hh:hidden r.1
   · rw [if_neg (by simp),eG];simp [hh,or_assoc]
   rw [if_pos rfl];simp [hh]
theorem jL:∀(rs:List (aa × List aa × List aa)) (l:List aa),l.Pairwise iC->(fH rs l).Pairwise iC
 | [],l,h=>h
 | r::rs,l,h=>by
   simp only [fH];apply jL rs;split
   · exact h
   exact dR _ _ h
theorem tF:∀(a b:List (aa × List aa × List aa)) (l:List aa),fH (a++b) l=fH b (fH a l)
 | [],b,l=>rfl
 | r::a,b,l=>by simp only [List.cons_append,fH];rw [tF a b]
theorem bQ:∀{l m:List aa},l.Nodup->(∀x∈l,x∈m)->l.length<=m.length
 | [],m,_,_=>Nat.zero_le _
 | a::l,m,hn,hs=>by
   rw [List.nodup_cons] at hn;have ha:=hs a (List.mem_cons_self ..);obtain ⟨s,u,rfl⟩:=List.append_of_mem ha
   have h1:=bQ (m:=s++u) hn.2 (fun x hx=>by
    have h2:=hs x (List.mem_cons_of_mem _ hx);rw [List.mem_append,List.mem_cons] at h2;rw [List.mem_append];rcases h2 with h2|h2|h2
    · exact .inl h2
    · subst h2;exact absurd hx hn.1
    exact .inr h2)
   simp only [List.length_append,List.length_cons] at h1 ⊢;omega
theorem ej {l:List aa} (h:l.Pairwise iC):l.Nodup:=h.imp fun {a b} hab e=>by
 subst e;have:qD a a=true:=hab;rw [mz] at this;cases this
theorem xW (root:aa) (ig:List aa):∀(a l:List aa) (x:aa),x∈a.foldl (rC root ig) l↔x∈l\/(x∈a/\dx ig x=false/\inside root x=false)
 | [],l,x=>by simp
 | y::a,l,x=>by
   rw [List.foldl_cons,xW root ig a];unfold rC;cases h1:dx ig y<;>cases h2:inside root y
   · simp only [if_neg (show ¬(false=true) by simp),ju,List.mem_cons];constructor
     · rintro ((h|h)|⟨h3,h4,h5⟩)
       · subst h;exact .inr ⟨.inl rfl,h1,h2⟩
       · exact .inl h
       exact .inr ⟨.inr h3,h4,h5⟩
     rintro (h|⟨h3|h3,h4,h5⟩)
     · exact .inl (.inr h)
     · exact .inl (.inl h3)
     exact .inr ⟨h3,h4,h5⟩
   all_goals
    simp only [if_pos,if_neg (show ¬(false=true) by simp),List.mem_cons];constructor
    · rintro (h|⟨h3,h4,h5⟩)
      · exact .inl h
      exact .inr ⟨.inr h3,h4,h5⟩
    · rintro (h|⟨h3|h3,h4,h5⟩)
      · exact .inl h
      · subst h3
        simp_all
      exact .inr ⟨h3,h4,h5⟩
theorem xX (root:aa) (ig:List aa):∀(a l:List aa) (x:aa),x∈a.foldl (rB root ig) l↔x∈l\/(x∈a/\dx ig x=false/\inside root x=true)
 | [],l,x=>by simp
 | y::a,l,x=>by
   rw [List.foldl_cons,xX root ig a];unfold rB;cases h1:dx ig y<;>cases h2:inside root y
   · simp only [if_neg (show ¬(false=true) by simp),List.mem_cons];constructor
     · rintro (h|⟨h3,h4,h5⟩)
       · exact .inl h
       exact .inr ⟨.inr h3,h4,h5⟩
     rintro (h|⟨h3|h3,h4,h5⟩)
     · exact .inl h
     · subst h3;rw [h2] at h5;cases h5
     exact .inr ⟨h3,h4,h5⟩
   · simp only [if_pos,if_neg (show ¬(false=true) by simp),ju,List.mem_cons];constructor
     · rintro ((h|h)|⟨h3,h4,h5⟩)
       · subst h;exact .inr ⟨.inl rfl,h1,h2⟩
       · exact .inl h
       exact .inr ⟨.inr h3,h4,h5⟩
     rintro (h|⟨h3|h3,h4,h5⟩)
     · exact .inl (.inr h)
     · exact .inl (.inl h3)
     exact .inr ⟨h3,h4,h5⟩
   all_goals
    simp only [if_pos,List.mem_cons];constructor
    · rintro (h|⟨h3,h4,h5⟩)
      · exact .inl h
      exact .inr ⟨.inr h3,h4,h5⟩
    · rintro (h|⟨h3|h3,h4,h5⟩)
      · exact .inl h
      · subst h3;rw [h1] at h4;cases h4
      exact .inr ⟨h3,h4,h5⟩
theorem mA {root:aa} {ig:List aa} {q:Pk} {x:aa}:x∈dD root ig q↔x∈q.imps++q.tests/\dx ig x=false/\inside root x=false:=by
 unfold dD;rw [xW];simp
theorem tG {root:aa} {ig:List aa} {q:Pk} {x:aa}:x∈dQ root ig q↔x∈q.imps++q.tests/\dx ig x=false/\inside root x=true:=by
 unfold dQ;rw [xX];simp
def bT (pks:List Pk):List aa:=pks.flatMap fun q=>q.imps++q.tests
theorem rG {root:aa} {ig:List aa} {pks:List Pk} {p x:aa} (h:iR root ig pks p x):x∈bT pks:=by
 obtain ⟨y,q,_,h2,h3⟩:=h;exact List.mem_flatMap.2 ⟨q,(cD h2.1).2,(mA.1 h3).1⟩
theorem iX {pks:List Pk} (h:∀q∈pks,q.imps.length+q.tests.length<=1000):(bT pks).length<=pks.length*1000:=by
 unfold bT
 induction pks with
 | nil=>simp
 | cons a r ih=>
   have h1:=h a (List.mem_cons_self ..);have h2:=ih (fun q hq=>h q (List.mem_cons_of_mem _ hq));rw [List.flatMap_cons,List.length_append,List.length_append,List.length_cons];omega
theorem Ab (rs:List (aa × List aa × List aa)) (k:Nat) (h:k<rs.length):fH (rs.take (k+1)) []=if hidden rs[k].1 then fH (rs.take k) [] else rs[k].2.2.foldl bf (fH (rs.take k) []):=by
 rw [List.take_succ_eq_append_getElem h,tF];simp only [fH]
theorem f44 {F:Nat->Prop} (root:aa) (Ap:Option Addr) (cp:Nat) (pks:List Pk) (vg:Value) (ig:List aa) (w:World) (hR:Rd pU F w (.slice Ap pks.length cp) pks) (h3:bK F w vg ig) (hs:∀x∈ig,x.size<=1000000)
 (hx:∀q∈pks,q.path.size<=1000000/\(∀x∈q.imps++q.tests,x.size<=1000000)/\q.imps.length+q.tests.length<=1000) (hpl:pks.length<=100) (hrt:root.size<=1000000) (hF:∀b,F b->b<w.heap.size) (hnd:(pks.map (·.path)).Nodup):
 Calls Tryz.prog 44 #[.agg #[.string root, .slice Ap pks.length cp], .agg #[.bool true, .bool true, .bool false,vg], .slice none 0 0] w fun e w'=>
  ∃v' L,e= .returned v'/\bK F w' v' L/\Below w.heap.size w w'/\L.Pairwise iC/\∀x,x∈L↔∃q∈pks,cX ig q=true/\hidden q.path=false/\iR root ig pks q.path x:=by
 obtain ⟨A3,cg,rfl⟩:=h3.form;have H3:=Y0 h3;have HR:=Y0 hR;have HS:=Y0 hs;have HX:=Y0 hx;have yK:=Y0 hrt;have HF:=Y0 hF;have HN:=Y0 hnd;clear h3 hR hs hx hrt hF hnd;obtain ⟨W2,hW2,b1,b2,jr,hb2⟩:=I0 w (.cells #[.string root, .slice Ap pks.length cp] 44) (.cells #[.bool true, .bool true, .bool false, .slice A3 ig.length cg] 47);have HB:=Y4 b1 b2 jr hb2;have sX:=Y0 hW2;clear hW2 b1 b2 jr hb2;go_enter func44,ntmps44;go_wp2_with (go_at_call 81;rw [<-sX.out];refine (f81 (F:=F) root _ cp pks _ ig _ (HR.out.pure HB.out.2.2.2) (H3.out.pure HB.out.2.2.2) HS.out HX.out hpl yK.out (fun b hb=>Nat.lt_of_lt_of_le (HF.out b hb) HB.out.2.2.2.size) HN.out).mono ?_;rintro e w1 ⟨vr,A2,n2,c2,rs,rfl,hr1,az,lZ,hr2,hr3⟩;obtain ⟨A8,c8,rfl⟩:=hr1.form;have MJ:=Y4 hr1 az hr2 hr3;clear hr1 hr2 hr3)
 have HL:Hid (∀l:List aa,l.Pairwise iC->(∀x∈l,x∈bT pks)->l.length<=100000):=Y0 (fun l h1 h2=>by
  have h3:=bQ (ej h1) h2;have h4:=iX (fun q hq=>(HX.out q hq).2.2);omega)
 have QX:Hid (∀r∈rs,∀x∈r.2.2,x∈bT pks):=Y0 (fun r hr x hx=>by
  obtain ⟨q,_,_,_,h⟩:=MJ.out.2.2.1 r hr;exact rG ((h x).1 hx))
 have uI:=Y0 (HB.out.2.2.2.trans (MJ.out.2.1.mono HB.out.2.2.2.size));clear az;go_loopw [7,22] (fun t7 i wr=>∃k:Nat,i= .int .i64 k/\k<=rs.length/\Hid (Below w1.heap.size w1 wr/\bK F wr t7 (fH (rs.take k) []))) (fun _ i _=>rs.length - (intOf i).toNat)
 case atStart=>exact ⟨0,rfl,by omega,Y0 ⟨Below.refl _ _,Rd.nil _ _ _ _ _ (by simp [maxLen])⟩⟩
 obtain ⟨k,rfl,hk,hc⟩:=hrel;obtain ⟨A7,c7,uB⟩:=hc.out.2.form;generalize KD:(fH (rs.take k) []).length=n7 at uB;subst uB;have OJ:=Y0 KD;clear KD;by_cases hlt:k<rs.length
 · obtain ⟨g,off,B1,d1,B2,d2,rfl,hg,h1,h2,q0,q1,q2⟩:=ME MJ.out.1 hlt
   replace q0:=ag q0 hc.out.1
   replace q1:=ag q1 hc.out.1
   replace q2:=ag q2 hc.out.1
   have hlt':(k:Int)<(rs.length:Int):=by omega
   have hmem:rs[k]∈rs:=List.getElem_mem hlt;have hst:=Y0 (Ab rs k hlt);have hrO:=MJ.out.2.2.1 _ hmem;have hrA:=Y0 (QX.out _ hmem)
   have hsz:(rs[k]).1.size<=140737488351232:=by
    obtain ⟨q,hq,e,_⟩:=hrO;rw [e];have:=(HX.out q hq).1;omega
   generalize rs[k]=r at*;obtain ⟨rp,ri,ro⟩:=r
   have hfl:Hid (∀x∈fH (rs.take k) [],x∈bT pks):=Y0 (fun x hx=>by
    rcases (oG _ _ _).1 hx with h|⟨r,hr,_,h⟩
    · cases h
    exact QX.out r (List.mem_of_mem_take hr) x h)
   have hfs:Hid ((fH (rs.take k) []).Pairwise iC):=Y0 (jL _ _ List.Pairwise.nil);generalize fH (rs.take k) []=L at*;obtain ⟨wo,hwo⟩:∃W,W=wr.alloc (.cells #[.string rp, .slice B1 ri.length d1, .slice B2 ro.length d2] 120):=⟨_,rfl⟩;have qg:Below wr.heap.size wr wo:=by rw [hwo];exact (Below.refl _ _).alloc (Nat.le_refl _) _
   have fu:wo.heap[wr.heap.size]?=some (.cells #[.string rp, .slice B1 ri.length d1, .slice B2 ro.length d2] 120 (0,0)):=by rw [hwo];exact heap_alloc_new _ _
   have BG:=Y0 hwo;have HBo:=Y0 qg;have CO:Hid (Below w1.heap.size w1 wo):=Y0 (hc.out.1.trans (qg.mono hc.out.1.size));have z2:wo.cell? ⟨wr.heap.size,2,none⟩=some (.slice B2 ro.length d2):=cellAt (j:=2) fu rfl;have hro:=Y0 (h2.pure CO.out);have h7:=Y0 (hc.out.2.pure qg);clear hwo qg fu h1 h2;cases hh:hidden rp
   · have HH:=Y0 hh;clear hh;go_wp2_with (go_at_call 82;refine (f82 rp _ hsz).mono ?_;rw [HH.out];rintro e w2 ⟨rfl,hw2⟩;have e2:=hw2.trans BG.out.symm;clear hw2;subst e2);clear z2;go_loopw [7,32] (fun t7 i wi=>∃j:Nat,i= .int .i64 j/\j<=ro.length/\Hid (Below w2.heap.size w2 wi/\bK F wi t7 ((ro.take j).foldl bf L))) (fun _ i _=>ro.length - (intOf i).toNat)
     case atStart=>exact ⟨0,rfl,by omega,Y0 ⟨Below.refl _ _,by simpa [OJ.out] using h7.out⟩⟩
     obtain ⟨j,rfl,hj,hd⟩:=hrel;obtain ⟨A9,c9,QY⟩:=hd.out.2.form;generalize hn9:((ro.take j).foldl bf L).length=n9 at QY;subst QY;have aau:ro.length<=9223372036854775807:=by have:=hro.out.bound;omega
     by_cases lR:j<ro.length
     · obtain ⟨g',off',rfl,hFg,Uv,CN⟩:=hro.out.at1 lR
       replace CN:=ag CN hd.out.1
       have lK:(j:Int)<(ro.length:Int):=by omega
       have hmr:fQ ([]:List aa) ro[j]=false:=rfl
       have MK:((ro.take j).foldl bf L).length<=1000000000000:=by
        have:=HL.out _ (dR (ro.take j) L hfs.out) (fun x hx=>by
         rcases (eG _ _ _).1 hx with h|h
         · exact hfl.out x h
         exact hrA.out x (List.mem_of_mem_take h))
        omega
       have hadd:Hid ((ro.take (j+1)).foldl bf L=bf ((ro.take j).foldl bf L) ro[j]):=Y0 (by rw [List.take_succ_eq_append_getElem lR,List.foldl_append];rfl);generalize ro[j]=y at CN hmr hadd;go_wp2_with (first|(go_at_call 42;refine (f42 (F:=F) (.slice none 0 0) [] y _ (Rd.nil _ _ _ _ _ (by simp [maxLen]))).mono ?_;rw [hmr];rintro e w9 ⟨rfl,rfl⟩)|(go_at_call 46;refine (f46 (F:=F) _ _ y _ hd.out.2 (fun b hb=>Nat.lt_of_lt_of_le (HF.out b hb) (uI.out.trans ((CO.out.trans (hd.out.1.mono CO.out.size)).mono uI.out.size)).size) MK).mono ?_;rintro e w7 ⟨v7,rfl,Mf,iV⟩));refine ⟨⟨j+1,by go_num,by omega,Y0 ⟨hd.out.1.trans (iV.mono hd.out.1.size),by rw [hadd.out];exact Mf⟩⟩,by simp [intOf];omega⟩
     have wF:j=ro.length:=by omega
     subst wF;have hd2:=hd.out.2;rw [List.take_length] at hd2;go_wp2;refine ⟨⟨k+1,by go_num,by omega,Y0 ⟨CO.out.trans (hd.out.1.mono CO.out.size), ?_⟩⟩,by simp [intOf];omega⟩;rw [hst.out,HH.out];exact hd2
   have HH:=Y0 hh;clear hh;go_wp2_with (go_at_call 82;refine (f82 rp _ hsz).mono ?_;rw [HH.out];rintro e w2 ⟨rfl,hw2⟩;have e2:=hw2.trans BG.out.symm;clear hw2;subst e2);refine ⟨⟨k+1,by go_num,by omega,Y0 ⟨CO.out, ?_⟩⟩,by simp [intOf];omega⟩;rw [hst.out,HH.out,if_pos rfl,<-OJ.out];have:=h7.out
   rwa [<-OJ.out] at this
 have kJ:k=rs.length:=by omega
 subst kJ;go_wp2;go_ret;have h2:=hc.out.2;rw [List.take_length] at h2;refine ⟨_,_,rfl,h2,uI.out.trans (hc.out.1.mono uI.out.size),jL _ _ List.Pairwise.nil,fun x=> ?_⟩;rw [oG];constructor
 · rintro (h|⟨r,hr,h3,h4⟩)
   · cases h
   obtain ⟨q,hq,e,vw,ho⟩:=MJ.out.2.2.1 r hr;exact ⟨q,hq,vw,by rw [<-e];exact h3,(ho x).1 h4⟩
 rintro ⟨q,hq,vw,hh,ho⟩;obtain ⟨r,hr,e⟩:=MJ.out.2.2.2 q hq vw;obtain ⟨q',hq',e',aav,ho'⟩:=MJ.out.2.2.1 r hr;have:q'=q:=lF HN.out hq' hq (e'.symm.trans e);subst this;exact .inr ⟨r,hr,by rw [e];exact hh,(ho' x).2 ho⟩
def xY (root:aa) (ig:List aa) (pks:List Pk) (x:aa):Prop:=∃q∈pks,cX ig q=true/\hidden q.path=false/\iR root ig pks q.path x
theorem oH (p:aa->Bool):∀(a l:List aa) (x:aa),x∈a.foldl (fun l s=>if p s then l else bf l s) l↔x∈l\/(x∈a/\p x=false)
 | [],l,x=>by simp
 | y::a,l,x=>by
   rw [List.foldl_cons,oH p a];cases h:p y
   · simp only [if_neg (show ¬(false=true) by simp),ju,List.mem_cons];constructor
     · rintro ((h1|h1)|⟨h1,h2⟩)
       · subst h1;exact .inr ⟨.inl rfl,h⟩
       · exact .inl h1
       exact .inr ⟨.inr h1,h2⟩
     rintro (h1|⟨h1|h1,h2⟩)
     · exact .inl (.inr h1)
     · exact .inl (.inl h1)
     exact .inr ⟨h1,h2⟩
   simp only [if_pos,List.mem_cons];constructor
   · rintro (h1|⟨h1,h2⟩)
     · exact .inl h1
     exact .inr ⟨.inr h1,h2⟩
   rintro (h1|⟨h1|h1,h2⟩)
   · exact .inl h1
   · subst h1;rw [h] at h2;cases h2
   exact .inr ⟨h1,h2⟩
theorem jM (p:aa->Bool):∀(a l:List aa),l.Pairwise iC->(a.foldl (fun l s=>if p s then l else bf l s) l).Pairwise iC
 | [],l,h=>h
 | y::a,l,h=>by
   rw [List.foldl_cons];apply jM p a;split
   · exact h
   exact pz y h
theorem oI (p:aa->Bool):∀(a l:List aa),(a.foldl (fun l s=>if p s then l else bf l s) l).length<=l.length+a.length
 | [],l=>by simp
 | y::a,l=>by
   rw [List.foldl_cons];have h1:=oI p a (if p y then l else bf l y)
   have h2:(if p y then l else bf l y).length<=l.length+1:=by
    split
    · omega
    exact dF l y
   simp only [List.length_cons];omega
theorem f14 {F:Nat->Prop} (root:aa) (Ap:Option Addr) (cp:Nat) (pks:List Pk) (vg vq:Value) (ig tH:List aa) (w:World) (hR:Rd pU F w (.slice Ap pks.length cp) pks) (h3:bK F w vg ig) (hq:bK F w vq tH) (hql:tH.length<=1000000) (hs:∀x∈ig,x.size<=1000000)
 (hx:∀q∈pks,q.path.size<=1000000/\(∀x∈q.imps++q.tests,x.size<=1000000)/\q.imps.length+q.tests.length<=1000) (hpl:pks.length<=100) (hrt:root.size<=1000000) (hF:∀b,F b->b<w.heap.size) (hnd:(pks.map (·.path)).Nodup):
 Calls Tryz.prog 14 #[.agg #[.string root, .slice Ap pks.length cp],vg,vq] w fun e w'=>
  ∃v' L,e= .returned v'/\bK F w' v' L/\Below w.heap.size w w'/\L.Pairwise iC/\(∀x,x∈L↔(xY root ig pks x/\cW x.data.toList=false)\/x∈tH)/\L.length<=100000+tH.length:=by
 obtain ⟨A3,cg,rfl⟩:=h3.form;obtain ⟨A4,cq,rfl⟩:=hq.form;have H3:=Y0 h3;have HQ:=Y0 hq;have HR:=Y0 hR;have HS:=Y0 hs;have HX:=Y0 hx;have yK:=Y0 hrt;have HF:=Y0 hF;have HN:=Y0 hnd;clear h3 hR hs hx hrt hF hnd hq;obtain ⟨W2,hW2,b1,jr,hb2⟩:=WQ w (.cells #[.string root, .slice Ap pks.length cp] 44);have HB:=Y3 b1 jr hb2;have sX:=Y0 hW2;clear hW2 b1 jr hb2;go_enter func14,ntmps14;go_wp2_with (go_at_call 44;rw [<-sX.out];refine (f44 (F:=F) root _ cp pks _ ig _ (HR.out.pure HB.out.2.2) (H3.out.pure HB.out.2.2) HS.out HX.out hpl yK.out (fun b hb=>Nat.lt_of_lt_of_le (HF.out b hb) HB.out.2.2.size) HN.out).mono ?_;rintro e w1 ⟨v5,L,rfl,hr1,az,hs1,Mk⟩;obtain ⟨A8,c8,rfl⟩:=hr1.form;have HL:=Y4 hr1 az hs1 Mk;clear hr1 hs1 Mk)
 have QZ:Hid (∀x∈L,x∈bT pks):=Y0 (fun x hx=>by
  obtain ⟨q,_,_,_,h⟩:=(HL.out.2.2.2 x).1 hx;exact rG h)
 have Qg:L.length<=100000:=by
  have h3:=bQ (ej HL.out.2.2.1) QZ.out;have h4:=iX (fun q hq=>(HX.out q hq).2.2);omega
 have hLs:Hid (∀x∈L,x.size<=1000000):=Y0 (fun x hx=>by
  obtain ⟨q,h1,h2⟩:=List.mem_flatMap.1 (QZ.out x hx);exact (HX.out q h1).2.1 x h2)
 have uI:=Y0 (HB.out.2.2.trans (HL.out.2.1.mono HB.out.2.2.size));clear az;go_loopw [7,17] (fun t7 i wr=>∃k:Nat,i= .int .i64 k/\k<=L.length/\Hid (Below w1.heap.size w1 wr/\bK F wr t7 ((L.take k).foldl (fun l s=>if cW s.data.toList then l else bf l s) []))) (fun _ i _=>L.length - (intOf i).toNat)
 case atStart=>exact ⟨0,rfl,by omega,Y0 ⟨Below.refl _ _,Rd.nil _ _ _ _ _ (by simp [maxLen])⟩⟩
 obtain ⟨k,rfl,hk,hc⟩:=hrel;obtain ⟨A7,c7,uB⟩:=hc.out.2.form;have Q0:=oI (fun s=>cW s.data.toList) (L.take k) [];rw [List.length_take,List.length_nil] at Q0;by_cases hlt:k<L.length
 · have hst:Hid ((L.take (k+1)).foldl (fun l s=>if cW s.data.toList then l else bf l s) []=if cW L[k].data.toList then (L.take k).foldl (fun l s=>if cW s.data.toList then l else bf l s) [] else bf ((L.take k).foldl (fun l s=>if cW s.data.toList then l else bf l s) []) L[k]):=Y0 (by rw [List.take_succ_eq_append_getElem hlt,List.foldl_append];rfl);obtain ⟨g,off,rfl,hFg,Uv,CN⟩:=HL.out.1.at1 hlt
   replace CN:=ag CN hc.out.1
   have hlt':(k:Int)<(L.length:Int):=by omega
   have hys:=hLs.out L[k] (List.getElem_mem hlt);generalize L[k]=y at*;have h7:=Y0 hc.out.2;generalize (L.take k).foldl (fun l s=>if cW s.data.toList then l else bf l s) []=M at*;generalize KD:M.length=n7 at uB;subst uB;have OJ:=Y0 KD;clear KD;cases hh:cW y.data.toList
   · have HH:=Y0 hh;clear hh;go_wp2_with (first|(go_at_call 45;refine (f45 y _ (by omega)).mono ?_;rw [HH.out];rintro e w2 ⟨rfl,rfl⟩)|(go_at_call 46;refine (f46 (F:=F) _ M y _ h7.out (fun b hb=>Nat.lt_of_lt_of_le (HF.out b hb) (uI.out.trans (hc.out.1.mono uI.out.size)).size) (by omega)).mono ?_;rintro e w7 ⟨v7,rfl,Mf,iV⟩));refine ⟨⟨k+1,by go_num,by omega,Y0 ⟨hc.out.1.trans (iV.mono hc.out.1.size),by rw [hst.out,HH.out];exact Mf⟩⟩,by simp [intOf];omega⟩
   have HH:=Y0 hh;clear hh;go_wp2_with (go_at_call 45;refine (f45 y _ (by omega)).mono ?_;rw [HH.out];rintro e w2 ⟨rfl,rfl⟩);refine ⟨⟨k+1,by go_num,by omega,Y0 ⟨hc.out.1,by rw [hst.out,HH.out,if_pos rfl];exact h7.out⟩⟩,by simp [intOf];omega⟩
 have kJ:k=L.length:=by omega
 subst kJ;have h7:=hc.out.2;rw [List.take_length] at h7 uB;have hMm:=Y0 (oH (fun s=>cW s.data.toList) L []);have hMs:=Y0 (jM (fun s=>cW s.data.toList) L [] List.Pairwise.nil);have hMl:=oI (fun s=>cW s.data.toList) L [];generalize L.foldl (fun l s=>if cW s.data.toList then l else bf l s) []=M at*;have aaw:M.length<=100000:=by simp at hMl;omega
 have H7:=Y0 h7;generalize KD:M.length=n7 at uB;subst uB;have OJ:=Y0 KD;obtain ⟨wo,hwo⟩:∃W,W=wr:=⟨_,rfl⟩;subst hwo;have BG:=Y0 (uI.out.trans (hc.out.1.mono uI.out.size));clear h7 hMl Q0 KD hc;go_wp2;go_loopw [7,30] (fun t7 i wi=>∃j:Nat,i= .int .i64 j/\j<=tH.length/\Hid (Below wo.heap.size wo wi/\bK F wi t7 ((tH.take j).foldl bf M))) (fun _ i _=>tH.length - (intOf i).toNat)
 case atStart=>exact ⟨0,rfl,by omega,Y0 ⟨Below.refl _ _,by rw [<-OJ.out] at*;exact H7.out⟩⟩
 obtain ⟨j,rfl,hj,hd⟩:=hrel;obtain ⟨A9,c9,QY⟩:=hd.out.2.form;generalize hn9:((tH.take j).foldl bf M).length=n9 at QY;subst QY
 have MK:((tH.take j).foldl bf M).length<=1000000000000:=by
  have h1:∀(a l:List aa),(a.foldl bf l).length<=l.length+a.length:=by
   intro a
   induction a with
   | nil=>simp
   | cons x a ih=>intro l;have h1:=ih (bf l x);have h2:=dF l x;simp at h1 ⊢;omega
  have h2:=h1 (tH.take j) M;rw [List.length_take] at h2;omega
 by_cases lR:j<tH.length
 · obtain ⟨g',off',rfl,hFg,Uv,CN⟩:=HQ.out.at1 lR
   replace CN:=ag CN (BG.out.trans (hd.out.1.mono BG.out.size))
   have lK:(j:Int)<(tH.length:Int):=by omega
   have hadd:Hid ((tH.take (j+1)).foldl bf M=bf ((tH.take j).foldl bf M) tH[j]):=Y0 (by rw [List.take_succ_eq_append_getElem lR,List.foldl_append];rfl);generalize tH[j]=y at CN hadd;go_wp2_with (go_at_call 46;refine (f46 (F:=F) _ _ y _ hd.out.2 (fun b hb=>Nat.lt_of_lt_of_le (HF.out b hb) (BG.out.trans (hd.out.1.mono BG.out.size)).size) MK).mono ?_;rintro e w7 ⟨v7,rfl,Mf,iV⟩);refine ⟨⟨j+1,by go_num,by omega,Y0 ⟨hd.out.1.trans (iV.mono hd.out.1.size),by rw [hadd.out];exact Mf⟩⟩,by simp [intOf];omega⟩
 have wF:j=tH.length:=by omega
 subst wF;have hd2:=hd.out.2;rw [List.take_length] at hd2
 have hl:(tH.foldl bf M).length<=M.length+tH.length:=by
  have h1:∀(a l:List aa),(a.foldl bf l).length<=l.length+a.length:=by
   intro a
   induction a with
   | nil=>simp
   | cons x a ih=>intro l;have h1:=ih (bf l x);have h2:=dF l x;simp at h1 ⊢;omega
  exact h1 tH M
 go_wp2;go_ret;refine ⟨_,_,rfl,hd2,BG.out.trans (hd.out.1.mono BG.out.size),dR _ _ hMs.out,fun x=> ?_,by omega⟩;rw [eG,hMm.out];constructor
 · rintro ((h|⟨h1,h2⟩)|h)
   · cases h
   · exact .inl ⟨(HL.out.2.2.2 x).1 h1,h2⟩
   exact .inr h
 rintro (⟨h1,h2⟩|h)
 · exact .inl (.inr ⟨(HL.out.2.2.2 x).2 h1,h2⟩)
 exact .inr h
end Go.Proofs.YtjenhelmpcajfaaGreatDoor
