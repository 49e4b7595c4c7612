/- packages are looked up -/
import Derived.Test.YtjenhelmpcajfaaGreatDoorA22
import Derived.Test.YtjenhelmpcajfaaGreatDoorA19
set_option linter.all false
set_option maxRecDepth 20000
set_option maxHeartbeats 4000000
namespace Go.Proofs.YtjenhelmpcajfaaGreatDoor
open Go.Proofs.Tryz Go.RowKit
structure Pk where
 path:aa
 name:aa
 imps:List aa
 tests:List aa
 err:aa
def pU:Kd Pk where
 sz:=5
 rep:=fun F w p cs=>∃vi vt,cs= [.string p.path, .string p.name,vi,vt, .string p.err]/\bK F w vi p.imps/\bK F w vt p.tests
 len:=fun ⟨_,_,h,_,_⟩=>by rw [h];rfl
 one:=fun ⟨vi,vt,h,h1,h2⟩ u hu=>by
  obtain ⟨A,c,rfl⟩:=h1.form;obtain ⟨A',c',rfl⟩:=h2.form;subst h;simp at hu;rcases hu with rfl|rfl|rfl|rfl|rfl<;>rfl
 step:=fun ho hk ⟨vi,vt,h,h1,h2⟩=>⟨vi,vt,h,h1.step' ho hk,h2.step' ho hk⟩
theorem kS {F:Nat->Prop} {w:World} {A:Option Addr} {n cap:Nat} {pks:List Pk} (h:Rd pU F w (.slice A n cap) pks) {k:Nat} (hk:k<pks.length):
 ∃g off Ai ci At ct,A=some ⟨g,off,none⟩/\g<w.heap.size/\bK F w (.slice Ai pks[k].imps.length ci) pks[k].imps/\bK F w (.slice At pks[k].tests.length ct) pks[k].tests/\
  w.cell? ⟨g,off+k*5,none⟩=some (.string pks[k].path)/\w.cell? ⟨g,off+k*5+1,none⟩=some (.string pks[k].name)/\w.cell? ⟨g,off+k*5+2,none⟩=some (.slice Ai pks[k].imps.length ci)/\
  w.cell? ⟨g,off+k*5+3,none⟩=some (.slice At pks[k].tests.length ct)/\w.cell? ⟨g,off+k*5+4,none⟩=some (.string pks[k].err):=by
 obtain ⟨g,off,cs,hA,hF,hg,⟨vi,vt,hcs,hi,ht⟩,hc⟩:=h.at_ (List.getElem?_eq_getElem hk);obtain ⟨Ai,ci,rfl⟩:=hi.form;obtain ⟨At,ct,rfl⟩:=ht.form;subst hcs;exact ⟨g,off,Ai,ci,At,ct,hA,hg,hi,ht,hc 0 _ rfl,hc 1 _ rfl,hc 2 _ rfl,hc 3 _ rfl,hc 4 _ rfl⟩
def kg:List Pk->aa->Option Nat
 | [],_=>none
 | p::r,s=>if p.path=s then some 0 else (kg r s).map (· +1)
def OB:Option Nat->Value
 | some k=> .int .i64 k
 | none=> .int .i64 (-1)
theorem IZ (pks:List Pk) (s:aa) (k:Nat) (h:k<pks.length):(kg (pks.drop k) s).map (· +k)=if pks[k].path=s then some k else (kg (pks.drop (k+1)) s).map (· +(k+1)):=by
 rw [List.drop_eq_getElem_cons h];simp only [kg];split
 · simp
 cases kg (pks.drop (k+1)) s with
 | none=>rfl
 | some j=>simp;omega
theorem f78 {F:Nat->Prop} (root:aa) (v:Value) (pks:List Pk) (s:aa) (w:World) (hR:Rd pU F w v pks):
 Calls Tryz.prog 78 #[.agg #[.string root,v], .string s] w fun e w'=>e= .returned (OB (kg pks s))/\Below w.heap.size w w':=by
 obtain ⟨A,cap,rfl⟩:=hR.form;obtain ⟨-,hb1,hb2⟩:=hR.bound;have HR:=Y0 hR;clear hR;go_enter func78,ntmps78;go_wp2;go_loopw [10] (fun i wr=>∃k:Nat,i= .int .i64 k/\k<=pks.length/\Hid (kg pks s=(kg (pks.drop k) s).map (· +k)/\Below w.heap.size w wr)) (fun i _=>pks.length - (intOf i).toNat)
 case atStart=>exact ⟨0,rfl,by omega,Y0 ⟨by simp,(Below.refl _ _).alloc (Nat.le_refl _) _⟩⟩
 obtain ⟨k,rfl,hk,hi⟩:=hrel;by_cases hlt:k<pks.length
 · obtain ⟨g,off,Ai,ci,At,ct,rfl,hg,h1,h2,c0,c1,c2,c3,c4⟩:=kS HR.out hlt;have hB:=hi.out.2
   replace c0:=ag c0 hB
   replace c1:=ag c1 hB
   replace c2:=ag c2 hB
   replace c3:=ag c3 hB
   replace c4:=ag c4 hB
   have hst:=Y0 (IZ pks s k hlt);have hws:w.heap.size<=wr.heap.size:=hB.size;have HP:=Y0 (show pks[k].path=pks[k].path from rfl);generalize pks[k].path=x at c0 hst HP;have hlt':(k:Int)<(pks.length:Int):=by omega
   cases hq:(x.toList==s.toList)
   · have hne:Hid (¬x=s):=Y0 (by intro e;subst e;simp at hq);clear h1 h2 hB HP;go_wp2;go_roundw
     case rel=>exact ⟨k+1,by go_num,by omega,Y0 ⟨by rw [hi.out.1,hst.out,if_neg hne.out],hi.out.2.alloc hws _⟩⟩
     simp [intOf]<;>omega
   have hne:Hid (x=s):=Y0 (by rw [beq_iff_eq] at hq;exact toList_inj.1 hq);clear h1 h2 hB HP;go_wp2;go_ret;refine ⟨?_,hi.out.2.alloc hws _⟩;rw [hi.out.1,hst.out,if_pos hne.out];rfl
 have kJ:k=pks.length:=by omega
 subst kJ;go_wp2;go_ret;refine ⟨?_,hi.out.2⟩;rw [hi.out.1];simp [kg,OB]
def cX (ig:List aa) (p:Pk):Bool:=p.err.toList.isEmpty && !bV ig p.path
theorem f79 {F:Nat->Prop} (p:Pk) (vi vt vg:Value) (ig:List aa) (w:World) (h1:bK F w vi p.imps) (h2:bK F w vt p.tests) (h3:bK F w vg ig) (hs:∀x∈ig,x.size<=1000000) (hp:p.path.size<=1000000):
 Calls Tryz.prog 79 #[.agg #[.string p.path, .string p.name,vi,vt, .string p.err], .agg #[.bool true, .bool true, .bool false,vg]] w fun e w'=>e= .returned (.bool (cX ig p))/\Below w.heap.size w w':=by
 obtain ⟨A1,c1,rfl⟩:=h1.form;obtain ⟨A2,c2,rfl⟩:=h2.form;obtain ⟨A3,c3,rfl⟩:=h3.form;have H3:=Y0 h3;have HS:=Y0 hs;have HP:=Y0 hp;have HC:Hid (cX ig p=(p.err.toList.isEmpty && !bV ig p.path)):=Y0 rfl;clear h1 h2 h3 hs hp;cases hi:bV ig p.path<;>cases he:p.err.toList.isEmpty
 all_goals
  have HI:=Y0 hi;rw [hi,he] at HC;clear hi;go_enter func79,ntmps79;go_wp2_with (go_at_call 120;refine (f120 (F:=F) _ ig p.path _ (H3.out.pure (by repeat first|exact Below.refl _ _|refine Below.alloc ?_ (by simp) _)) HS.out HP.out).mono ?_;rw [HI.out];rintro e w1 ⟨rfl,rfl⟩);go_ret;refine ⟨aq (by rw [HC.out];rfl),by repeat first|exact Below.refl _ _|refine Below.alloc ?_ (by simp) _⟩
def dx (ig:List aa) (x:aa):Bool:=(x.toList== [46])||bV ig x
def rB (root:aa) (ig:List aa) (l:List aa) (x:aa):List aa:=if dx ig x then l else if inside root x then bf l x else l
def rC (root:aa) (ig:List aa) (l:List aa) (x:aa):List aa:=if dx ig x then l else if inside root x then l else bf l x
def dQ (root:aa) (ig:List aa) (p:Pk):List aa:=(p.imps++p.tests).foldl (rB root ig) []
def dD (root:aa) (ig:List aa) (p:Pk):List aa:=(p.imps++p.tests).foldl (rC root ig) []
theorem rD (root:aa) (ig:List aa) (a:List aa):∀l,(a.foldl (rB root ig) l).length<=l.length+a.length:=by
 induction a with
 | nil=>simp
 | cons x r ih=>
   intro l;simp only [List.foldl_cons,List.length_cons];have h1:=ih (rB root ig l x)
   have h2:(rB root ig l x).length<=l.length+1:=by
    unfold rB;have:=dF l x;split
    · omega
    split<;>omega
   omega
theorem rE (root:aa) (ig:List aa) (a:List aa):∀l,(a.foldl (rC root ig) l).length<=l.length+a.length:=by
 induction a with
 | nil=>simp
 | cons x r ih=>
   intro l;simp only [List.foldl_cons,List.length_cons];have h1:=ih (rC root ig l x)
   have h2:(rC root ig l x).length<=l.length+1:=by
    unfold rC;have:=dF l x;split
    · omega
    split<;>omega
   omega
theorem WQ (w:World) (o1:Obj):∃W,W=w.alloc o1/\W.heap[w.heap.size]?=some o1/\W.heap.size=w.heap.size+1/\Below w.heap.size w W:=
 ⟨_,rfl,heap_alloc_new _ _,by simp,(Below.refl _ _).alloc (Nat.le_refl _) _⟩
theorem I0 (w:World) (o1 o2:Obj):∃W,W=(w.alloc o1).alloc o2/\W.heap[w.heap.size]?=some o1/\W.heap[w.heap.size+1]?=some o2/\W.heap.size=w.heap.size+1+1/\Below w.heap.size w W:=by
 refine ⟨_,rfl,(Below.heap_alloc _ _ _ (by simp)).trans (heap_alloc_new _ _), ?_,by simp,((Below.refl _ _).alloc (Nat.le_refl _) _).alloc (by simp) _⟩;have:=heap_alloc_new (w.alloc o1) o2
 rwa [World.size_alloc] at this
theorem Mp (w:World) (o1 o2 o3:Obj):∃W,W=((w.alloc o1).alloc o2).alloc o3/\W.heap[w.heap.size]?=some o1/\W.heap[w.heap.size+1]?=some o2/\W.heap[w.heap.size+1+1]?=some o3/\W.heap.size=w.heap.size+1+1+1/\Below w.heap.size w W:=by
 obtain ⟨W,hW,h1,h2,h3,h4⟩:=I0 w o1 o2;refine ⟨_,rfl, ?_, ?_, ?_,by simp, ?_⟩
 · rw [<-hW,Below.heap_alloc _ _ _ (by omega)];exact h1
 · rw [<-hW,Below.heap_alloc _ _ _ (by omega)];exact h2
 · have:=heap_alloc_new ((w.alloc o1).alloc o2) o3
   rwa [World.size_alloc,World.size_alloc] at this
 rw [<-hW];exact h4.alloc (by omega) _
theorem cK {w W:World} {base g j:Nat} {cs:Array Value} {t:TypeId} {fr:Nat × Nat} {v:Value} (h:w.heap[g]?=some (.cells cs t fr)) (hj:cs[j]?=some v) (hb:Below base w W) (hg:g<base):W.cell? ⟨g,j,none⟩=some v:=
 cellAt ((hb.block g hg).trans h) hj
theorem f80 {F:Nat->Prop} (root:aa) (Ap:Option Addr) (np cp:Nat) (p:Pk) (vi vt vg:Value) (ig:List aa) (w:World) (h1:bK F w vi p.imps) (h2:bK F w vt p.tests) (h3:bK F w vg ig) (hs:∀x∈ig,x.size<=1000000)
 (hx:∀x∈p.imps++p.tests,x.size<=1000000) (hrt:root.size<=1000000) (hl:p.imps.length+p.tests.length<=1000000) (hF:∀b,F b->b<w.heap.size):
 Calls Tryz.prog 80 #[.agg #[.string root, .slice Ap np cp], .agg #[.string p.path, .string p.name,vi,vt, .string p.err], .agg #[.bool true, .bool true, .bool false,vg]] w fun e w'=>
  ∃v1 v2,e= .returned (.tuple #[v1,v2])/\bK F w' v1 (dQ root ig p)/\bK F w' v2 (dD root ig p)/\Below w.heap.size w w':=by
 obtain ⟨A1,c1,rfl⟩:=h1.form;obtain ⟨A2,c2,rfl⟩:=h2.form;obtain ⟨A3,c3,rfl⟩:=h3.form;have H1:=Y0 h1;have H2:=Y0 h2;have H3:=Y0 h3;have HS:=Y0 hs;have HX:=Y0 hx;have yK:=Y0 hrt;have HF:=Y0 hF;clear h1 h2 h3 hs hx hrt hF;obtain ⟨W3,hW3,b1,b2,b3,pM,hb3⟩:=Mp w (.cells #[.string root, .slice Ap np cp] 44) (.cells #[.string p.path, .string p.name, .slice A1 p.imps.length c1, .slice A2 p.tests.length c2, .string p.err] 118) (.cells #[.bool true, .bool true, .bool false, .slice A3 ig.length c3] 47);have hb4:Below w.heap.size w (W3.alloc (.cells #[] 9)):=hb3.alloc hb3.size _;have Cf:=Own.fresh aD (base:=w.heap.size+1+1+1) 9 F W3 (by omega);have hbW:Below (w.heap.size+1+1+1) W3 (W3.alloc (.cells #[] 9)):=(Below.refl _ _).alloc (by omega) _;rw [pM] at Cf
 have OC:bK (fun b=>F b\/b=w.heap.size+1+1+1) (W3.alloc (.cells #[] 9)) (.slice A1 p.imps.length c1) p.imps:=(H1.out.step' (F':=fun b=>F b\/b=w.heap.size+1+1+1) (fun b hb h=>by
  rcases h with h|h
  · exact h
  omega) (fun b hb _=>hb4.block b hb))
 have HB:=Y6 b1 b2 b3 pM hb3 hbW;rw [hW3] at Cf OC;have VS:=Y0 Cf;have I1:=Y0 OC;have Hk:=Y0 hW3;clear Cf OC hb3 hb4 b1 b2 b3 pM hbW hW3;go_enter func80,ntmps80
 go_wp2_with (first
  | (at_builtin;refine aH (o:=⟨some 14,_,_,_,_,_⟩) rfl _ _ 22 rfl aD 9 (.string ⟨#[]⟩) 16 underlying22 eA rfl (by decide) rfl rfl VS.out I1.out (by simp [maxLen];omega) (by simp;omega) (by simp) (List.nil_append _) p.imps.length rfl ?_;intro A4 c4 w4 F4 mM Ma hB4 sD;rw [<-Hk.out] at Ma hB4 sD;have hB:=HB.out.2.2.2.2.2.trans hB4;have k1:w4.cell? ⟨w.heap.size+1+1,1,none⟩=some (.bool true):=cK (j:=1) HB.out.2.2.1 rfl hB (by omega);have k2:w4.cell? ⟨w.heap.size+1,3,none⟩=some (.slice A2 p.tests.length c2):=cK (j:=3) HB.out.2.1 rfl hB (by omega);have OD:=Y4 mM Ma hB sD;clear mM Ma hB4 sD hB;have HT4:=Y0 (H2.out.step' (F':=F4) (w':=w4) (fun b hb h=>by have h1:=OD.out.2.1.old b (by have:=HB.out.2.2.2.1;simp;omega) h;rcases h1 with h1|h1;exact h1;omega) (fun b hb _=>(OD.out.2.2.1.block b (by omega)).trans (HB.out.2.2.2.2.1.block b hb)));go_frame)
  | (at_builtin;refine aH (o:=⟨some 20,_,_,_,_,_⟩) rfl _ _ 22 rfl aD 9 (.string ⟨#[]⟩) 16 underlying22 eA rfl (by decide) rfl rfl OD.out.1 HT4.out (by simp [maxLen];omega) (by omega) (by have h1:=OD.out.2.2.1.size;have h2:=HB.out.2.2.2.1;omega) rfl (p.imps.length+p.tests.length) (by simp) ?_;intro A5 c5 w5 F5 Fe mK bz Ff;have CJ:=Y4 Fe mK (OD.out.2.2.1.trans bz) Ff;clear Fe mK bz Ff;go_frame))
 obtain ⟨L,hL⟩:∃L,L=p.imps++p.tests:=⟨_,rfl⟩;have Qg:L.length=p.imps.length+p.tests.length:=by rw [hL];simp
 have HLl:=Y0 Qg;have HL:=Y0 hL;have WR:Hid (∀b,F b->b<w5.heap.size):=Y0 fun b hb=>by have h1:=HF.out b hb;have h2:=CJ.out.2.2.1.size;have h3:=HB.out.2.2.2.1;omega
 have hRL:Hid (bK F w5 (.slice A5 (p.imps.length+p.tests.length) c5) L):=Y0 (by
  have h1:=(CJ.out.1.rd (F0:=F) (fun b hb=>by have:=HF.out b hb;omega) (fun b hb=>CJ.out.2.1.grow b (OD.out.2.1.grow b (.inl hb))) (by decide));rw [HL.out];exact h1)
 have HI3:Hid (bK F w5 (.slice A3 ig.length c3) ig):=Y0 (H3.out.step' (fun b _ h=>h) (fun b hb _=>(CJ.out.2.2.1.block b (by omega)).trans (HB.out.2.2.2.2.1.block b hb)));have k3:w5.cell? ⟨w.heap.size+1+1,3,none⟩=some (.slice A3 ig.length c3):=cK (j:=3) HB.out.2.2.1 rfl CJ.out.2.2.1 (by omega);have k4:w5.cell? ⟨w.heap.size,0,none⟩=some (.string root):=cK (j:=0) HB.out.1 rfl CJ.out.2.2.1 (by omega);rw [<-Qg] at hl ⊢;clear hL Qg k1 k2;go_loopw [6,7,23] (fun v1 v2 i wr=>∃k:Nat,i= .int .i64 k/\k<=L.length/\Hid (bK F wr v1 ((L.take k).foldl (rB root ig) [])/\bK F wr v2 ((L.take k).foldl (rC root ig) [])/\Below w5.heap.size w5 wr)) (fun _ _ i _=>L.length - (intOf i).toNat)
 case atStart=>exact ⟨0,rfl,by omega,Y0 ⟨Rd.nil _ _ _ _ _ (by simp [maxLen]),Rd.nil _ _ _ _ _ (by simp [maxLen]),Below.refl _ _⟩⟩
 obtain ⟨k,rfl,hk,hc⟩:=hrel;by_cases hlt:k<L.length
 · obtain ⟨g,off,hgA,hFg,hg,hcx⟩:=(hRL.out.pure hc.out.2.2).at1 hlt;subst hgA
   replace k3:=ag k3 hc.out.2.2
   replace k4:=ag k4 hc.out.2.2
   have hs1:=Y0 (gV (rB root ig) [] L k hlt);have hs2:=Y0 (gV (rC root ig) [] L k hlt);have lZ:Hid (((L.take k).foldl (rB root ig) []).length<=1000000):=Y0 (by have h1:=rD root ig (L.take k) [];have h2:=List.length_take_le k L;simp at h1;omega);have hl2:Hid (((L.take k).foldl (rC root ig) []).length<=1000000):=Y0 (by have h1:=rE root ig (L.take k) [];have h2:=List.length_take_le k L;simp at h1;omega);have hxs:Hid (L[k].size<=1000000):=Y0 (HX.out _ (by rw [<-HL.out];exact List.getElem_mem hlt));have CK:Hid (bK F wr (.slice A3 ig.length c3) ig):=Y0 (HI3.out.pure hc.out.2.2);have JU:Hid (∀b,F b->b<wr.heap.size):=Y0 fun b hb=>Nat.lt_of_lt_of_le (WR.out b hb) hc.out.2.2.size
   have hlt':(k:Int)<(p.imps.length:Int)+(p.tests.length:Int):=by have:=HLl.out;omega
   clear hFg hg;generalize L[k]=x at hcx hs1 hs2 hxs;have Dt:Hid (∀l,rB root ig l x=if dx ig x then l else if inside root x then bf l x else l):=Y0 fun _=>rfl
   have zY:Hid (∀l,rC root ig l x=if dx ig x then l else if inside root x then l else bf l x):=Y0 fun _=>rfl
   have WS:Hid (dx ig x=((x.toList== [46])||bV ig x)):=Y0 rfl;cases CL:(x.toList== [46])
   · cases BD:bV ig x
     · have Uk:=Y0 BD;have hsk:Hid (dx ig x=false):=Y0 (by rw [WS.out,CL,BD];rfl);clear BD;cases hin:inside root x
       · have Mq:=Y0 hin;clear hin;go_wp2_with (first|(go_at_call 120;refine (f120 (F:=F) _ ig x _ CK.out HS.out hxs.out).mono ?_;rw [Uk.out];rintro e w1 ⟨rfl,rfl⟩)|(go_at_call 53;refine (f53 _ _ _ (by have:=yK.out;omega) (by have:=hxs.out;omega)).mono ?_;rw [Mq.out];rintro e w1 ⟨rfl,rfl⟩)|(go_at_call 46;refine (f46 _ _ x _ hc.out.2.1 JU.out (by have:=hl2.out;omega)).mono ?_;rintro e w1 ⟨v1,rfl,hv1,az⟩));go_roundw
         case rel=>exact ⟨k+1,by go_num,by omega,Y0 ⟨by rw [hs1.out,Dt.out,hsk.out,Mq.out];exact hc.out.1.pure az,by rw [hs2.out,zY.out,hsk.out,Mq.out];exact hv1,hc.out.2.2.trans (az.mono hc.out.2.2.size)⟩⟩
         simp [intOf]<;>omega
       have Mq:=Y0 hin;clear hin;go_wp2_with (first|(go_at_call 120;refine (f120 (F:=F) _ ig x _ CK.out HS.out hxs.out).mono ?_;rw [Uk.out];rintro e w1 ⟨rfl,rfl⟩)|(go_at_call 53;refine (f53 _ _ _ (by have:=yK.out;omega) (by have:=hxs.out;omega)).mono ?_;rw [Mq.out];rintro e w1 ⟨rfl,rfl⟩)|(go_at_call 46;refine (f46 _ _ x _ hc.out.1 JU.out (by have:=lZ.out;omega)).mono ?_;rintro e w1 ⟨v1,rfl,hv1,az⟩));go_roundw
       case rel=>exact ⟨k+1,by go_num,by omega,Y0 ⟨by rw [hs1.out,Dt.out,hsk.out,Mq.out];exact hv1,by rw [hs2.out,zY.out,hsk.out,Mq.out];exact hc.out.2.1.pure az,hc.out.2.2.trans (az.mono hc.out.2.2.size)⟩⟩
       simp [intOf]<;>omega
     have Uk:=Y0 BD;have hsk:Hid (dx ig x=true):=Y0 (by rw [WS.out,CL,BD];rfl);clear BD;go_wp2_with (first|(go_at_call 120;refine (f120 (F:=F) _ ig x _ CK.out HS.out hxs.out).mono ?_;rw [Uk.out];rintro e w1 ⟨rfl,rfl⟩));go_roundw
     case rel=>exact ⟨k+1,by go_num,by omega,Y0 ⟨by rw [hs1.out,Dt.out,hsk.out];exact hc.out.1,by rw [hs2.out,zY.out,hsk.out];exact hc.out.2.1,hc.out.2.2⟩⟩
     simp [intOf]<;>omega
   have hsk:Hid (dx ig x=true):=Y0 (by rw [WS.out,CL];rfl);go_wp2;go_roundw
   case rel=>exact ⟨k+1,by go_num,by omega,Y0 ⟨by rw [hs1.out,Dt.out,hsk.out];exact hc.out.1,by rw [hs2.out,zY.out,hsk.out];exact hc.out.2.1,hc.out.2.2⟩⟩
   simp [intOf]<;>omega
 have hge:¬(k:Int)<(p.imps.length:Int)+(p.tests.length:Int):=by have:=HLl.out;omega
 go_wp2;go_ret2;have kJ:k=L.length:=by omega
 subst kJ;obtain ⟨r1,r2,r3⟩:=hc.out;rw [List.take_length,HL.out] at r1 r2;refine ⟨_,_,rfl,r1,r2, ?_⟩;have h5:Below (w.heap.size+1+1+1) W3 w5:=CJ.out.2.2.1;have hs3:=HB.out.2.2.2.1;exact (HB.out.2.2.2.2.1.trans (h5.mono (by omega))).trans (r3.mono (by have:=h5.size;omega))
def jK (base:Nat) (F:Nat->Prop) (w:World) (v:Value) (xs:List aa):Prop:=
 ∃g off cap cur,v= .slice (some ⟨g,off,none⟩) xs.length cap/\base<=g/\F g/\w.heap[g]?=some (.cells cur 9 (0,0))/\xs.length<=cap/\cap<=maxLen/\off+cap<=cur.size/\(cur.toList.drop off).take xs.length=xs.map Value.string
theorem Mr (g off j:Nat):(⟨g,off,none⟩:Addr).add j=⟨g,off+j,none⟩:=by unfold Addr.add;split<;>simp_all
theorem jK.cell {base:Nat} {F:Nat->Prop} {w:World} {g off n cap:Nat} {xs:List aa} (h:jK base F w (.slice (some ⟨g,off,none⟩) n cap) xs) {i:Nat} {x:aa} (hx:xs[i]?=some x):w.cell? ⟨g,off+i,none⟩=some (.string x):=by
 obtain ⟨g',off',cap',cur,hv,h1,h2,h3,h4,h5,h6,h7⟩:=h;simp only [Value.slice.injEq,Option.some.injEq,Addr.mk.injEq,and_true] at hv;obtain ⟨⟨rfl,rfl⟩,rfl,rfl⟩:=hv;rw [cell_of_row w g (off+i) cur 9 (0,0) h3];have hi:i<xs.length:=(List.getElem?_eq_some_iff.1 hx).1;have:=congrArg (fun z=>z[i]?) h7;simp only [List.getElem?_take,if_pos hi,List.getElem?_drop,List.getElem?_map,hx,Option.map_some] at this;simpa using this
theorem jK.form {base:Nat} {F:Nat->Prop} {w:World} {v:Value} {xs:List aa} (h:jK base F w v xs):∃g off cap,v= .slice (some ⟨g,off,none⟩) xs.length cap/\xs.length<=cap/\cap<=9223372036854775807:=by
 obtain ⟨g,off,cap,cur,hv,h1,h2,h3,h4,h5,h6,h7⟩:=h;exact ⟨g,off,cap,hv,h4,by simpa [maxLen] using h5⟩
theorem jK.tail {base:Nat} {F:Nat->Prop} {w:World} {g off n cap:Nat} {x:aa} {xs:List aa} (h:jK base F w (.slice (some ⟨g,off,none⟩) n cap) (x::xs)):jK base F w (.slice (some ⟨g,off+1,none⟩) (n - 1) (cap - 1)) xs:=by
 obtain ⟨g',off',cap',cur,hv,h1,h2,h3,h4,h5,h6,h7⟩:=h;simp only [Value.slice.injEq,Option.some.injEq,Addr.mk.injEq,and_true] at hv;obtain ⟨⟨rfl,rfl⟩,rfl,rfl⟩:=hv;simp only [List.length_cons] at h4;refine ⟨g,off+1,cap - 1,cur,by simp,h1,h2,h3,by omega,by omega,by omega, ?_⟩;have:=congrArg List.tail h7;simp only [List.map_cons,List.tail_cons,List.length_cons] at this;rw [<-this,<-List.tail_drop]
 cases hd:List.drop off cur.toList with
 | nil=>simp
 | cons a l=>simp
theorem jK.keep {base:Nat} {F F':Nat->Prop} {w w':World} {v:Value} {xs:List aa} (h:jK base F w v xs) (hk:∀k,v.ownBlock=some k->w'.heap[k]?=w.heap[k]?) (hF:∀b,F b->F' b):jK base F' w' v xs:=by
 obtain ⟨g,off,cap,cur,rfl,h1,h2,h3,h4⟩:=h;exact ⟨g,off,cap,cur,rfl,h1,hF _ h2,by rw [hk g rfl];exact h3,h4⟩
theorem jK.mem {base:Nat} {F:Nat->Prop} {w:World} {v:Value} {xs:List aa} (h:jK base F w v xs) {k:Nat} (hk:v.ownBlock=some k):F k/\base<=k/\k<w.heap.size:=by
 obtain ⟨g,off,cap,cur,rfl,h1,h2,h3,h4⟩:=h;simp [Value.ownBlock] at hk;subst hk;exact ⟨h2,h1,(Array.getElem?_eq_some_iff.1 h3).1⟩
theorem uE {P:Program} {F:Nat->Prop} {w:World} {base:Nat} (t ty:TypeId) (i:TypeInfo) (ht:P.underlying t=some (.slice 9)) (hi:P.info? 9=some i) (hz:i.zero=some (.string ⟨#[]⟩)) (hs1:i.size=1) (hb1:i.bytes=16)
 {v:Value} {xs:List aa} {x:aa} {a:Addr} {c:Nat} (hO:jK base F w v xs) (hx:w.cell? a=some (.string x)) (hl:xs.length<=1000000) (hbase:base<=w.heap.size):
 ∃v' w' F',(Builtin.append_ #[t,t] ty #[v, .slice (some a) 1 c]).run P w= .ok v' w'/\jK base F' w' v' (xs++ [x])/\w.grownBy w' v.ownBlock/\(∀b,F' b↔F b\/v'.ownBlock=some b)/\(v'.ownBlock=v.ownBlock\/v'.ownBlock=some w.heap.size):=by
 obtain ⟨g,off,cap,cur,rfl,h1,h2,h3,h4,h5,h6,h7⟩:=hO
 have hnews:∀j u, [Value.string x][j]?=some u->w.cell? (a.add j)=some u:=by
  intro j u hu
  cases j with
  | zero=>simp at hu;subst hu;rw [show a.add 0=a by cases a;unfold Addr.add;split<;>simp_all];exact hx
  | succ j=>simp at hu
 by_cases hroom:xs.length+1<=cap
 · have hf:=run_firstCells_some (P:=P) w i.size 1 a 1 c [.string x] (by rw [hs1];rfl) hnews;rw [hs1] at hf;have hst:=run_storeCells_at P g (off+xs.length) 9 [.string x] 0 cur w h3 (by simp;omega) (by simp [Value.oneCell']);simp only [Nat.add_zero] at hst;refine ⟨.slice (some ⟨g,off,none⟩) (xs.length+1) cap,w.setRow g (cur.toList.take (off+xs.length)++ [Value.string x]++cur.toList.drop (off+xs.length+1)).toArray,fun b=>F b\/(Value.slice (some ⟨g,off,none⟩) (xs.length+1) cap).ownBlock=some b, ?_,⟨g,off,cap,_,by simp,h1, .inl h2,setRow_heap w g cur _ 9 _ h3,by simp;omega,h5, ?_, ?_⟩,⟨rfl,rfl,rfl,by simp,fun k _ hk=>setRow_other w g k _ (fun e=>hk (by simp [Value.ownBlock,e]))⟩,fun b=>Iff.rfl, .inl rfl⟩
   · simp [Builtin.append_,run_underlying ht,sizeOf,typeInfo,hi,Builtin.lenOf,hroom,hf,Mr,hst,hs1]
   · simp only [List.size_toArray,List.length_append,List.length_take,List.length_drop,Array.length_toList,List.length_singleton];omega
   simp only [List.map_append,List.map_cons,List.map_nil,List.length_append,List.length_singleton,<-h7];have hcl:cur.toList.length=cur.size:=Array.length_toList;have hlt:off+xs.length<=cur.toList.length:=by omega
   rw [List.append_assoc,List.drop_append_of_le_length (by rw [List.length_take];omega),List.drop_take,show off+xs.length - off=xs.length by omega];rw [List.take_append,List.take_of_length_le (by rw [List.length_take];omega)];congr 1;rw [List.length_take,List.length_drop,Nat.min_eq_left (by omega),show xs.length+1 - xs.length=1 by omega];rfl
 have holds:∀j u,(xs.map Value.string)[j]?=some u->w.cell? ((⟨g,off,none⟩:Addr).add j)=some u:=by
  intro j u hu;rw [List.getElem?_map] at hu;obtain ⟨y,hy,rfl⟩:=Option.map_eq_some_iff.1 hu;rw [Mr];exact jK.cell (base:=base) (F:=F) ⟨g,off,cap,cur,rfl,h1,h2,h3,h4,h5,h6,h7⟩ hy
 have hr:=run_append_grow (P:=P) w t ty 9 i _ ht hi hz ⟨g,off,none⟩ xs.length cap (xs.map Value.string) (by rw [List.length_map,hs1,Nat.mul_one]) holds a 1 c [.string x] (by rw [hs1];rfl) hnews (by omega) (by omega) (growslice_fits (by omega) (by rw [hb1];omega));have hge:=grownCap_ge w (xs.length+1) cap 9;have hcm:grownCap w (xs.length+1) cap 9<=maxLen:=grownCap_le_maxLen w (xs.length+1) cap 9 (by simp [maxLen];omega);refine ⟨_,_,fun b=>F b\/(Value.slice (some ⟨w.heap.size,0,none⟩) (xs.length+1) (grownCap w (xs.length+1) cap 9)).ownBlock=some b,hr,⟨w.heap.size,0,_,_,by simp,hbase, .inr rfl,heap_alloc_new w.drew _,by simpa using hge,hcm, ?_, ?_⟩,⟨rfl,rfl,rfl,by simp,fun k hk _=>Below.heap_alloc w.drew _ k hk⟩,fun b=>Iff.rfl, .inr rfl⟩
 · simp only [Array.size_append,List.size_toArray,size_zeroCells,List.length_map,List.length_singleton,Value.cells];simp;omega
 simp only [List.drop_zero,Array.toList_append,List.map_append,List.map_cons,List.map_nil,List.length_append,List.length_singleton];rw [List.take_left' (by simp)]
theorem xQ {P:Program} {ops:Array Oper} {rest:List Oper} {o:Oper} {a:Act} {Q:Exit->Act->World->Prop} {F:Nat->Prop} {w:World} {base:Nat} (hgd:o.guard=none) (s z:Operand) (t:TypeId)
 (ho:o.op= .call {callee:= .builtin .append,args:= #[s,z],argTypes:= #[t,t]}) (ht:P.underlying t=some (.slice 9)) (hinfo:(P.info? 9).map (fun i=>(i.zero,i.size,i.bytes))=some (some (.string ⟨#[]⟩),1,16))
 {v:Value} {xs:List aa} {x:aa} {ad:Addr} {c:Nat} (hs:a.eval s=v) (hz:a.eval z= .slice (some ad) 1 c) (hO:jK base F w v xs) (hx:w.cell? ad=some (.string x)) (hl:xs.length<=1000000) (hbase:base<=w.heap.size) (n:Nat) (hn:xs.length+1=n)
 (h:∀g off cap w' F',jK base F' w' (.slice (some ⟨g,off,none⟩) n cap) (xs++ [x])->w.grownBy w' v.ownBlock->(∀b,F' b↔F b\/b=g)->(v.ownBlock=some g\/g=w.heap.size)->wpList P ops Q rest (a.put o.dst (.slice (some ⟨g,off,none⟩) n cap)) w'):
 wpList P ops Q (o::rest) a w:=by
 subst hn;refine wpList_plain hgd fun K hK=> ?_
 obtain ⟨i0,hi,hzz⟩:=Option.map_eq_some_iff.1 hinfo;simp only [Prod.mk.injEq] at hzz;obtain ⟨hz0,hz1,hz2⟩:=hzz;obtain ⟨v',w',F',hr,h2,h3,h4,h5⟩:=uE (P:=P) t o.type i0 ht hi hz0 hz1 hz2 (c:=c) hO hx hl hbase;obtain ⟨g,off,cap,rfl,_⟩:=h2.form;rw [List.length_append,List.length_singleton] at h2 h4 h5 hr;unfold Oper.wp execOp;simp only [ho,resolve,invoke,builtin,Sem.run_bind,Sem.run_pure,Result.andThen_ok,List.map_toArray,List.map_cons,List.map_nil,hs,hz,hr];exact hK _ _ (h g off cap w' F' h2 h3 (fun b=>by rw [h4];simp [Value.ownBlock,eq_comm]) (by simpa [Value.ownBlock,eq_comm] using h5))
structure nC (W2:World) (F:Nat->Prop) (B3:Nat) (p:aa) (wr:World) (F1:Nat->Prop) (t8 t9:Value) (wl dl ins outs:List aa) (vi vo:Value):Prop where
 own8:jK (B3+1) F1 wr t8 wl
 own9:Own aD (B3+1) 9 (fun b=>t9.ownBlock=some b) wr t9 dl
 f9:∀b,t9.ownBlock=some b->F1 b
 ne:∀k,t8.ownBlock=some k->t9.ownBlock≠some k
 f3:F1 B3
 sub:∀b,F b->F1 b
 lt:∀b,F1 b->b<wr.heap.size
 old:∀b,F1 b->F b\/B3<=b
 cell:wr.heap[B3]?=some (.cells #[.string p,vi,vo] 120 (0,0))
 ri:bK F1 wr vi ins
 ro:bK F1 wr vo outs
 below:Below B3 W2 wr
section
variable {W2:World} {F:Nat->Prop} {B3:Nat} {p:aa} {wr:World} {F1:Nat->Prop} {t8 t9:Value} {wl dl ins outs:List aa} {vi vo:Value}
theorem nC.lt3 (h:nC W2 F B3 p wr F1 t8 t9 wl dl ins outs vi vo):B3<wr.heap.size:=h.lt _ h.f3
theorem nC.pure (h:nC W2 F B3 p wr F1 t8 t9 wl dl ins outs vi vo) {w':World} (hb:Below wr.heap.size wr w'):nC W2 F B3 p w' F1 t8 t9 wl dl ins outs vi vo where
 own8:=h.own8.keep (fun k hk=>hb.block k (h.own8.mem hk).2.2) (fun _ h=>h)
 own9:=h.own9.pure hb
 f9:=h.f9
 ne:=h.ne
 f3:=h.f3
 sub:=h.sub
 lt:=fun b hb'=>Nat.lt_of_lt_of_le (h.lt b hb') hb.size
 old:=h.old
 cell:=(hb.block B3 h.lt3).trans h.cell
 ri:=h.ri.pure hb
 ro:=h.ro.pure hb
 below:=h.below.trans (hb.mono (Nat.le_of_lt h.lt3))
theorem nC.stp (_:nC W2 F B3 p wr F1 t8 t9 wl dl ins outs vi vo) {w':World} (hb:Below wr.heap.size wr w'):dw F1 wr F1 w':= .pure hb
theorem ei {base:Nat} {w:World} {a:Addr} (ha:base<=a.block) (v:Value):Below base w (w.setCell a v):=⟨rfl,rfl,rfl,by simp,fun k hk=>heap_setCell_other w a k v (by omega)⟩
theorem nC.storeI (h:nC W2 F B3 p wr F1 t8 t9 wl dl ins outs vi vo) {v':Value} {ins':List aa} (hr:bK F1 wr v' ins'):nC W2 F B3 p (wr.setCell ⟨B3,1,none⟩ v') F1 t8 t9 wl dl ins' outs v' vo/\dw F1 wr F1 (wr.setCell ⟨B3,1,none⟩ v'):=by
 have hS:dw F1 wr F1 (wr.setCell ⟨B3,1,none⟩ v'):= .setCell h.f3 v';refine ⟨⟨h.own8.keep (fun k hk=>heap_setCell_other wr ⟨B3,1,none⟩ k v' (by have:=(h.own8.mem hk).2.1;show k≠B3;omega)) (fun _ h=>h), ?_,h.f9,h.ne,h.f3,h.sub,fun b hb=>by simpa using h.lt b hb,h.old,heap_setCell_same wr B3 1 _ _ _ h.cell,hr.step hS,h.ro.step hS,h.below.trans (ei (a:=⟨B3,1,none⟩) (Nat.le_refl B3) v')⟩,hS⟩;exact aX h.own9 (fun k hk=>heap_setCell_other wr ⟨B3,1,none⟩ k v' (by have:=((aW h.own9).lt k hk).1;show k≠B3;omega)) (fun _ h=>h)
theorem nC.storeO (h:nC W2 F B3 p wr F1 t8 t9 wl dl ins outs vi vo) {v':Value} {Kv:List aa} (hr:bK F1 wr v' Kv):nC W2 F B3 p (wr.setCell ⟨B3,2,none⟩ v') F1 t8 t9 wl dl ins Kv vi v'/\dw F1 wr F1 (wr.setCell ⟨B3,2,none⟩ v'):=by
 have hS:dw F1 wr F1 (wr.setCell ⟨B3,2,none⟩ v'):= .setCell h.f3 v';refine ⟨⟨h.own8.keep (fun k hk=>heap_setCell_other wr ⟨B3,2,none⟩ k v' (by have:=(h.own8.mem hk).2.1;show k≠B3;omega)) (fun _ h=>h), ?_,h.f9,h.ne,h.f3,h.sub,fun b hb=>by simpa using h.lt b hb,h.old,heap_setCell_same wr B3 2 _ _ _ h.cell,h.ri.step hS,hr.step hS,h.below.trans (ei (a:=⟨B3,2,none⟩) (Nat.le_refl B3) v')⟩,hS⟩;exact aX h.own9 (fun k hk=>heap_setCell_other wr ⟨B3,2,none⟩ k v' (by have:=((aW h.own9).lt k hk).1;show k≠B3;omega)) (fun _ h=>h)
theorem nC.pop (h:nC W2 F B3 p wr F1 t8 t9 wl dl ins outs vi vo) {g off n cap:Nat} {x:aa} {wl':List aa} (ht:t8= .slice (some ⟨g,off,none⟩) n cap) (hw:wl=x::wl'):nC W2 F B3 p wr F1 (.slice (some ⟨g,off+1,none⟩) (n - 1) (cap - 1)) t9 wl' dl ins outs vi vo:=by
 subst ht hw;exact {h with own8:=h.own8.tail,ne:=fun k hk=>h.ne k hk}
theorem nC.push8 (h:nC W2 F B3 p wr F1 t8 t9 wl dl ins outs vi vo) {g off n cap:Nat} {w':World} {F':Nat->Prop} {x:aa} (h1:jK (B3+1) F' w' (.slice (some ⟨g,off,none⟩) n cap) (wl++ [x])) (h2:wr.grownBy w' t8.ownBlock) (h3:∀b,F' b↔F1 b\/b=g) (h4:t8.ownBlock=some g\/g=wr.heap.size):
 nC W2 F B3 p w' F' (.slice (some ⟨g,off,none⟩) n cap) t9 (wl++ [x]) dl ins outs vi vo/\dw F1 wr F' w':=by
 have Ku:∀b,t8.ownBlock=some b->F1 b:=fun b hb=>(h.own8.mem hb).1
 have hS:dw F1 wr F' w':=⟨h2.size,fun b hb hn=>h2.block b hb (fun e=>hn (Ku b e.symm)),fun b hb=>(h3 b).2 (.inl hb),fun b hb hf=>by
  rcases (h3 b).1 hf with hf|rfl
  · exact hf
  · rcases h4 with h4|h4
    · exact Ku _ h4
    omega,fun hl b hb=>by
  rcases (h3 b).1 hb with hf|rfl
  · exact Nat.lt_of_lt_of_le (hl b hf) h2.size
  exact (h1.mem (k:=b) rfl).2.2⟩
 have h9:∀k,t9.ownBlock=some k->k<wr.heap.size/\some k≠t8.ownBlock:=fun k hk=>⟨((aW h.own9).lt k hk).2,fun e=>h.ne k e.symm hk⟩
 refine ⟨⟨h1,aX h.own9 (fun k hk=>h2.block k (h9 k hk).1 (h9 k hk).2) (fun _ h=>h),fun b hb=>(h3 b).2 (.inl (h.f9 b hb)), ?_,(h3 _).2 (.inl h.f3),fun b hb=>(h3 b).2 (.inl (h.sub b hb)),hS.lt h.lt, ?_, ?_,h.ri.step hS,h.ro.step hS, ?_⟩,hS⟩
 · intro k hk e;simp [Value.ownBlock] at hk;subst hk;rcases h4 with h4|h4
   · exact h.ne _ h4 e
   have:=(h9 _ e).1;omega
 · intro b hb;rcases (h3 b).1 hb with hf|rfl
   · exact h.old b hf
   exact .inr (by have:=(h1.mem (k:=b) rfl).2.1;omega)
 · rw [h2.block B3 h.lt3 (fun e=>by have:=(h.own8.mem e.symm).2.1;omega)];exact h.cell
 exact h.below.grown h2 (Nat.le_of_lt h.lt3) (fun k e=>by have:=(h.own8.mem e).2.1;omega)
theorem nC.push9 (h:nC W2 F B3 p wr F1 t8 t9 wl dl ins outs vi vo) {v':Value} {w':World} {F':Nat->Prop} {dl':List aa} (h1:Own aD (B3+1) 9 F' w' v' dl') (h2:wr.grownBy w' t9.ownBlock) (ki:dw (fun b=>t9.ownBlock=some b) wr F' w'):
 nC W2 F B3 p w' (fun b=>F1 b\/v'.ownBlock=some b) t8 v' wl dl' ins outs vi vo/\dw F1 wr (fun b=>F1 b\/v'.ownBlock=some b) w':=by
 have h4:∀k,v'.ownBlock=some k->(t9.ownBlock=some k\/wr.heap.size<=k)/\k<w'.heap.size:=fun k hk=>by
  refine ⟨?_,((aW h1).lt k hk).2⟩;rcases Nat.lt_or_ge k wr.heap.size with hlt|hge
  · exact .inl (ki.old k hlt (bh h1 hk))
  exact .inr hge
 have hS:dw F1 wr (fun b=>F1 b\/v'.ownBlock=some b) w':=⟨h2.size,fun b hb hn=>h2.block b hb (fun e=>hn (h.f9 b e.symm)),fun b hb=> .inl hb,fun b hb hf=>by
  rcases hf with hf|hf
  · exact hf
  · rcases (h4 b hf).1 with h5|h5
    · exact h.f9 b h5
    omega,fun hl b hb=>by
  rcases hb with hf|hf
  · exact Nat.lt_of_lt_of_le (hl b hf) h2.size
  exact (h4 b hf).2⟩
 refine ⟨⟨h.own8.keep (fun k hk=>h2.block k (h.own8.mem hk).2.2 (fun e=>h.ne k hk e.symm)) (fun b hb=> .inl hb),cV (aW h1) (fun _ hk=>hk),fun b hb=> .inr hb, ?_, .inl h.f3,fun b hb=> .inl (h.sub b hb),hS.lt h.lt, ?_, ?_,h.ri.step hS,h.ro.step hS, ?_⟩,hS⟩
 · intro k hk e;rcases (h4 k e).1 with h5|h5
   · exact h.ne k hk h5
   have:=(h.own8.mem hk).2.2;omega
 · intro b hb;rcases hb with hf|hf
   · exact h.old b hf
   rcases (h4 b hf).1 with h5|h5
   · exact h.old b (h.f9 b h5)
   exact .inr (by have:=h.lt3;omega)
 · rw [h2.block B3 h.lt3 (fun e=>by have:=((aW h.own9).lt B3 e.symm).1;omega)];exact h.cell
 exact h.below.grown h2 (Nat.le_of_lt h.lt3) (fun k e=>by have:=((aW h.own9).lt k e).1;omega)
theorem nC.start {W:World} {Q:aa} {F:Nat->Prop} (hF:∀b,F b->b<W.heap.size):nC W F W.heap.size Q ((W.alloc (.cells #[.string Q, .slice none 0 0, .slice none 0 0] 120)).alloc (.cells #[.string Q] 9)) (fun b=>F b\/b=W.heap.size\/b=W.heap.size+1) (.slice (some ⟨W.heap.size+1,0,none⟩) 1 1) (.slice none 0 0) [Q] [] [] [] (.slice none 0 0) (.slice none 0 0):=by
 have h1:=heap_alloc_new W (.cells #[.string Q, .slice none 0 0, .slice none 0 0] 120);have h2:=heap_alloc_new (W.alloc (.cells #[.string Q, .slice none 0 0, .slice none 0 0] 120)) (.cells #[.string Q] 9);rw [World.size_alloc] at h2;refine ⟨⟨_,0,1, #[.string Q],rfl,Nat.le_refl _, .inr (.inr rfl),h2,by simp,by simp [maxLen],by simp,by simp⟩,Own.nil _ _ _ _ _,by simp [Value.ownBlock],by simp [Value.ownBlock], .inr (.inl rfl),fun b hb=> .inl hb,fun b hb=> ?_,fun b hb=> ?_, ?_,Rd.nil _ _ _ _ _ (by simp [maxLen]),Rd.nil _ _ _ _ _ (by simp [maxLen]), ?_⟩
 · simp;rcases hb with hb|hb|hb
   · have:=hF b hb;omega
   · omega
   omega
 · rcases hb with hb|hb|hb
   · exact .inl hb
   · exact .inr (by omega)
   exact .inr (by omega)
 · rw [Below.heap_alloc _ _ _ (by simp)];exact h1
 exact ((Below.refl _ _).alloc (Nat.le_refl _) _).alloc (by simp) _
end
def py (pks:List Pk) (s:aa):Option Pk:=(kg pks s).bind fun k=>pks[k]?
def fL (ig:List aa) (pks:List Pk) (y:aa) (q:Pk):Prop:=py pks y=some q/\cX ig q=true
inductive vH (root:aa) (ig:List aa) (pks:List Pk) (p:aa):aa->Prop
 | base:vH root ig pks p p
 | step {y z:aa} {q:Pk}:vH root ig pks p y->fL ig pks y q->z∈dQ root ig q->vH root ig pks p z
def eY (root:aa) (ig:List aa) (pks:List Pk) (p x:aa):Prop:=∃y q,vH root ig pks p y/\fL ig pks y q/\x∈dQ root ig q
def iR (root:aa) (ig:List aa) (pks:List Pk) (p x:aa):Prop:=∃y q,vH root ig pks p y/\fL ig pks y q/\x∈dD root ig q
theorem ju (l:List aa) (s x:aa):x∈bf l s↔x=s\/x∈l:=by
 induction l with
 | nil=>simp [bf]
 | cons a l ih=>
   simp only [bf];split
   · rename_i h;subst h;simp
   split
   · simp only [List.mem_cons,ih];exact ⟨fun h=>by rcases h with h|h|h<;>simp [h],fun h=>by rcases h with h|h|h<;>simp [h]⟩
   simp
theorem pz {l:List aa} (s:aa) (h:l.Pairwise iC):(bf l s).Pairwise iC:=by
 induction l with
 | nil=>exact List.pairwise_singleton _ _
 | cons a l ih=>
   rw [List.pairwise_cons] at h;simp only [bf];split
   · exact List.pairwise_cons.2 h
   rename_i hne;split
   · rename_i hlt;refine List.pairwise_cons.2 ⟨fun b hb=> ?_,ih h.2⟩;rw [ju] at hb;rcases hb with rfl|hb
     · exact hlt
     exact h.1 b hb
   rename_i hlt;have hsa:iC s a:=tE (by simpa using hlt) hne;refine List.pairwise_cons.2 ⟨fun b hb=> ?_,List.pairwise_cons.2 h⟩;rcases List.mem_cons.1 hb with rfl|hb
   · exact hsa
   exact oF hsa (h.1 b hb)
theorem eG (a:List aa):∀l x,x∈a.foldl bf l↔x∈l\/x∈a:=by
 induction a with
 | nil=>simp
 | cons y a ih=>
   intro l x;simp only [List.foldl_cons,ih,ju,List.mem_cons];exact ⟨fun h=>by rcases h with (h|h)|h<;>simp [h],fun h=>by rcases h with h|h|h<;>simp [h]⟩
theorem dR (a:List aa):∀l,l.Pairwise iC->(a.foldl bf l).Pairwise iC:=by
 induction a with
 | nil=>exact fun _ h=>h
 | cons y a ih=>exact fun l h=>ih _ (pz y h)
theorem qm {pks:List Pk} {s:aa} {k:Nat} (h:kg pks s=some k):k<pks.length/\∃q,pks[k]?=some q/\q.path=s:=by
 induction pks generalizing k with
 | nil=>simp [kg] at h
 | cons p r ih=>
   simp only [kg] at h;split at h
   · injection h with h
     subst h;exact ⟨by simp,p,rfl,by assumption⟩
   cases hr:kg r s with
   | none=>rw [hr] at h;cases h
   | some j=>
     rw [hr] at h;simp at h;subst h;obtain ⟨h1,q,h2,h3⟩:=ih hr;exact ⟨by simp;omega,q,by simpa using h2,h3⟩
theorem cD {pks:List Pk} {s:aa} {q:Pk} (h:py pks s=some q):q.path=s/\q∈pks:=by
 unfold py at h
 cases hi:kg pks s with
 | none=>rw [hi] at h;cases h
 | some k=>
   rw [hi] at h;obtain ⟨h1,q',h2,h3⟩:=qm hi;simp only [Option.bind_some] at h;rw [h2] at h;injection h with h
   subst h;exact ⟨h3,List.mem_of_getElem? h2⟩
structure lM (root:aa) (ig:List aa) (pks:List Pk) (p:aa) (wl dl ins outs:List aa):Prop where
 rw_:∀x∈wl,vH root ig pks p x
 rd:∀x∈dl,vH root ig pks p x/\∃q,fL ig pks x q
 nd:dl.Nodup
 ins_:ins.Pairwise iC/\∀x,x∈ins↔∃y∈dl,∃q,fL ig pks y q/\x∈dQ root ig q
 outs_:outs.Pairwise iC/\∀x,x∈outs↔∃y∈dl,∃q,fL ig pks y q/\x∈dD root ig q
 cl:∀y∈dl,∀q,fL ig pks y q->∀x∈dQ root ig q,x∈wl\/x∈dl\/∀q',¬fL ig pks x q'
 st:p∈wl\/p∈dl\/∀q',¬fL ig pks p q'
section
variable {root:aa} {ig:List aa} {pks:List Pk} {p:aa} {wl dl ins outs:List aa}
theorem lM.start:lM root ig pks p [p] [] [] []:=
 ⟨fun x hx=>by simp at hx;subst hx;exact .base,by simp,by simp,⟨List.Pairwise.nil,by simp⟩,⟨List.Pairwise.nil,by simp⟩,by simp, .inl (by simp)⟩
theorem lM.len (h:lM root ig pks p wl dl ins outs):dl.length<=pks.length:=by
 have hs:∀x∈dl,x∈pks.map (·.path):=fun x hx=>by
  obtain ⟨_,q,hq⟩:=h.rd x hx;obtain ⟨h1,h2⟩:=cD hq.1;rw [<-h1];exact List.mem_map_of_mem h2
 have:=List.Nodup.length_le_of_subset h.nd hs;simpa using this
theorem fL.inj {y:aa} {q q':Pk} (h:fL ig pks y q) (h':fL ig pks y q'):q=q':=by
 have:=h.1.symm.trans h'.1;injection this
theorem lM.skip {x:aa} (h:lM root ig pks p (x::wl) dl ins outs) (hx:x∈dl\/∀q,¬fL ig pks x q):lM root ig pks p wl dl ins outs:=by
 refine ⟨fun y hy=>h.rw_ y (by simp [hy]),h.rd,h.nd,h.ins_,h.outs_,fun y hy q hq z hz=> ?_, ?_⟩
 · rcases h.cl y hy q hq z hz with h1|h1|h1
   · rcases List.mem_cons.1 h1 with rfl|h1
     · rcases hx with hx|hx
       · exact .inr (.inl hx)
       exact .inr (.inr hx)
     exact .inl h1
   · exact .inr (.inl h1)
   exact .inr (.inr h1)
 rcases h.st with h1|h1|h1
 · rcases List.mem_cons.1 h1 with rfl|h1
   · rcases hx with hx|hx
     · exact .inr (.inl hx)
     exact .inr (.inr hx)
   exact .inl h1
 · exact .inr (.inl h1)
 exact .inr (.inr h1)
theorem lM.look {x:aa} {q:Pk} (h:lM root ig pks p (x::wl) dl ins outs) (hx:x∉dl) (hq:fL ig pks x q):lM root ig pks p (wl++dQ root ig q) (dl++ [x]) ((dQ root ig q).foldl bf ins) ((dD root ig q).foldl bf outs):=by
 have hxr:=h.rw_ x (by simp);refine ⟨fun y hy=> ?_,fun y hy=> ?_, ?_,⟨dR _ _ h.ins_.1,fun y=> ?_⟩,⟨dR _ _ h.outs_.1,fun y=> ?_⟩,fun y hy q' hq' z hz=> ?_, ?_⟩
 · rcases List.mem_append.1 hy with hy|hy
   · exact h.rw_ y (by simp [hy])
   exact .step hxr hq hy
 · rcases List.mem_append.1 hy with hy|hy
   · exact h.rd y hy
   simp at hy;subst hy;exact ⟨hxr,q,hq⟩
 · rw [List.nodup_append];refine ⟨h.nd,by simp,fun a ha b hb e=> ?_⟩;simp at hb;subst hb e;exact hx ha
 · rw [eG,h.ins_.2];constructor
   · rintro (⟨z,hz,q',h1,h2⟩|h1)
     · exact ⟨z,by simp [hz],q',h1,h2⟩
     exact ⟨x,by simp,q,hq,h1⟩
   rintro ⟨z,hz,q',h1,h2⟩;rcases List.mem_append.1 hz with hz|hz
   · exact .inl ⟨z,hz,q',h1,h2⟩
   simp at hz;subst hz;rw [hq.inj h1];exact .inr h2
 · rw [eG,h.outs_.2];constructor
   · rintro (⟨z,hz,q',h1,h2⟩|h1)
     · exact ⟨z,by simp [hz],q',h1,h2⟩
     exact ⟨x,by simp,q,hq,h1⟩
   rintro ⟨z,hz,q',h1,h2⟩;rcases List.mem_append.1 hz with hz|hz
   · exact .inl ⟨z,hz,q',h1,h2⟩
   simp at hz;subst hz;rw [hq.inj h1];exact .inr h2
 · rcases List.mem_append.1 hy with hy|hy
   · rcases h.cl y hy q' hq' z hz with h1|h1|h1
     · rcases List.mem_cons.1 h1 with rfl|h1
       · exact .inr (.inl (by simp))
       exact .inl (by simp [h1])
     · exact .inr (.inl (by simp [h1]))
     exact .inr (.inr h1)
   simp at hy;subst hy;rw [hq'.inj hq] at hz;exact .inl (by simp [hz])
 rcases h.st with h1|h1|h1
 · rcases List.mem_cons.1 h1 with rfl|h1
   · exact .inr (.inl (by simp))
   exact .inl (by simp [h1])
 · exact .inr (.inl (by simp [h1]))
 exact .inr (.inr h1)
theorem lM.reach (h:lM root ig pks p [] dl ins outs) {x:aa} (hx:vH root ig pks p x):x∈dl\/∀q,¬fL ig pks x q:=by
 induction hx with
 | base=>
   rcases h.st with h1|h1|h1
   · cases h1
   · exact .inl h1
   exact .inr h1
 | step _ hq hz ih=>
   rcases ih with ih|ih
   · rcases h.cl _ ih _ hq _ hz with h1|h1|h1
     · cases h1
     · exact .inl h1
     exact .inr h1
   exact absurd hq (ih _)
theorem lM.done (h:lM root ig pks p [] dl ins outs):(ins.Pairwise iC/\∀x,x∈ins↔eY root ig pks p x)/\(outs.Pairwise iC/\∀x,x∈outs↔iR root ig pks p x):=by
 refine ⟨⟨h.ins_.1,fun x=> ?_⟩,⟨h.outs_.1,fun x=> ?_⟩⟩
 · rw [h.ins_.2];constructor
   · rintro ⟨y,hy,q,h1,h2⟩;exact ⟨y,q,(h.rd y hy).1,h1,h2⟩
   rintro ⟨y,q,h0,h1,h2⟩;rcases h.reach h0 with h3|h3
   · exact ⟨y,h3,q,h1,h2⟩
   exact absurd h1 (h3 q)
 rw [h.outs_.2];constructor
 · rintro ⟨y,hy,q,h1,h2⟩;exact ⟨y,q,(h.rd y hy).1,h1,h2⟩
 rintro ⟨y,q,h0,h1,h2⟩;rcases h.reach h0 with h3|h3
 · exact ⟨y,h3,q,h1,h2⟩
 exact absurd h1 (h3 q)
end
end Go.Proofs.YtjenhelmpcajfaaGreatDoor
