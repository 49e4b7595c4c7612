/- a version is read -/
import Derived.Test.YtjenhelmpcajfaaGreatDoorA06
import Derived.Deep.DeepCutAuto
import Derived.Deep.CutBlock
set_option linter.all false
set_option maxRecDepth 100000
set_option maxHeartbeats 16000000
namespace Go.Proofs.YtjenhelmpcajfaaGreatDoor
open Go.Proofs.Tryz Go.RowKit
theorem cF {P:Program} {fn:Func} {p q r:Tmp} {ty:TypeId} (h:fn.results= #[.cell p ty, .tmp q, .tmp r]) (tmps:Array Value) (w:World) (g:Nat) (t:TypeId) (cs:Array Value) (fr:Nat × Nat) (d:TypeDesc)
 (hp:tmps.getD p undef= .pointer (some ⟨g,0,none⟩)) (hg:w.heap[g]?=some (.cells cs t fr))
 (hu:P.underlying ty=some d) (hd:(match d with| .struct _| .array _ _=>true|_=>false)=true) (hi:(P.info? ty).map (·.size)=some cs.size):
 (results fn tmps).run P w= .ok (.tuple #[.agg cs,tmps.getD q undef,tmps.getD r undef]) w:=by
 have hp':tmps[p]?.getD undef= .pointer (some ⟨g,0,none⟩):=by simpa using hp
 simp [results,h,hp',asAddr,run_loadVar_row w g t ty cs fr d hg hu hd hi]
def iu (o:Option (SV × Nat)) (e:Ending):Prop:=match o with
 | some (v,n)=>e= .returned (.tuple #[v.val, .int .i64 n, .nilIface])
 | none=>∃m,e= .returned (.tuple #[.agg #[.int .u64 0, .int .u64 0, .int .u64 0, .string ⟨#[]⟩, .string ⟨#[]⟩, .string ⟨#[]⟩], .int .i64 0, .iface 253 (.pointer (some ⟨m,0,none⟩))])
def eV (ns:List Nat) (i:Nat):Value:= .int .u64 (ns.getD i 0)
structure eP (w:World) (V:Nat) (text:aa) (ns:List Nat) (p m:aa) (wr:World):Prop where
 r:wr.heap[w.heap.size]?=some (.cells #[.int .u64 0, .int .u64 0, .int .u64 0, .string ⟨#[]⟩, .string ⟨#[]⟩, .string ⟨#[]⟩] 264 (0,0))
 v:wr.heap[V]?=some (.cells #[eV ns 0,eV ns 1,eV ns 2, .string p, .string m, .string text] 264 (0,0))
 s:wr.heap[V+1]?=some (.cells #[.pointer (some ⟨V,0,none⟩), .pointer (some ⟨V,1,none⟩), .pointer (some ⟨V,2,none⟩)] 344 (0,0))
 below:Below w.heap.size w wr
theorem eP.size {w:World} {V:Nat} {text p m:aa} {ns:List Nat} {wr:World} (h:eP w V text ns p m wr):V+1<wr.heap.size/\w.heap.size<wr.heap.size:=⟨(Array.getElem?_eq_some_iff.1 h.s).1,(Array.getElem?_eq_some_iff.1 h.r).1⟩
theorem eP.pure {w:World} {V:Nat} {text p m:aa} {ns:List Nat} {wr W:World} (h:eP w V text ns p m wr) (hb:Below wr.heap.size wr W):eP w V text ns p m W:=
 ⟨(hb.block _ h.size.2).trans h.r,(hb.block _ (by have:=h.size;omega)).trans h.v,(hb.block _ h.size.1).trans h.s,h.below.trans (hb.mono h.below.size)⟩
theorem eP.num {w:World} {V:Nat} {text p m:aa} {ns:List Nat} {wr:World} (h:eP w V text ns p m wr) (hV:w.heap.size<V) (hl:ns.length<3) (n:Nat):eP w V text (ns++ [n]) p m (wr.setCell ⟨V,ns.length,none⟩ (.int .u64 n)):=by
 refine ⟨?_, ?_, ?_,h.below.setCell (by show w.heap.size<=V;omega) _⟩
 · rw [heap_setCell_other _ _ _ _ (by show w.heap.size≠V;omega)];exact h.r
 · rw [heap_setCell_same _ _ _ _ _ _ h.v];rcases ns with _|⟨a,_|⟨b,_|⟨c,l⟩⟩⟩
   · rfl
   · rfl
   · rfl
   simp at hl;omega
 rw [heap_setCell_other _ _ _ _ (by show V+1≠V;omega)];exact h.s
theorem eP.pre {w:World} {V:Nat} {text p m:aa} {ns:List Nat} {wr:World} (h:eP w V text ns p m wr) (hV:w.heap.size<V) (p':aa):eP w V text ns p' m (wr.setCell ⟨V,3,none⟩ (.string p')):=by
 refine ⟨?_, ?_, ?_,h.below.setCell (by show w.heap.size<=V;omega) _⟩
 · rw [heap_setCell_other _ _ _ _ (by show w.heap.size≠V;omega)];exact h.r
 · rw [heap_setCell_same _ _ _ _ _ _ h.v];rfl
 rw [heap_setCell_other _ _ _ _ (by show V+1≠V;omega)];exact h.s
theorem eP.met {w:World} {V:Nat} {text p m:aa} {ns:List Nat} {wr:World} (h:eP w V text ns p m wr) (hV:w.heap.size<V) (m':aa):eP w V text ns p m' (wr.setCell ⟨V,4,none⟩ (.string m')):=by
 refine ⟨?_, ?_, ?_,h.below.setCell (by show w.heap.size<=V;omega) _⟩
 · rw [heap_setCell_other _ _ _ _ (by show w.heap.size≠V;omega)];exact h.r
 · rw [heap_setCell_same _ _ _ _ _ _ h.v];rfl
 rw [heap_setCell_other _ _ _ _ (by show V+1≠V;omega)];exact h.s
theorem below_setRow {B:Nat} {w W:World} (h:Below B w W) {g:Nat} (hg:B<=g) (cs:Array Value):Below B w (W.setRow g cs):=
 ⟨h.os,h.tape,h.output,by simpa using h.size,fun k hk=>(setRow_other _ _ _ _ (by omega)).trans (h.block k hk)⟩
theorem eP.drew {w:World} {V:Nat} {text p m:aa} {ns:List Nat} {wr:World} (h:eP w V text ns p m wr):eP w V text ns p m wr.drew:=⟨h.r,h.v,h.s,h.below.drew⟩
theorem fS:(#[.int .u64 0, .int .u64 0, .int .u64 0, .string ⟨#[]⟩, .string ⟨#[]⟩, .string ⟨#[]⟩]:Array Value).all (·.oneCell')=true:=by
 simp only [List.all_toArray,List.all_cons,List.all_nil,Bool.and_true];rfl
theorem wE (s:aa) (k:Nat) (h:k<s.size):digits (s.data.toList.drop k)=if l5 s[k].toNat then digits (s.data.toList.drop (k+1))+1 else 0:=by
 rw [drop_cons s k h];rfl
theorem Ec (k:Nat) (r:aa) (ns:List Nat):oY (k+1) r ns=if digits r.data.toList=0 then none else
 match numOf (r.extract 0 (digits r.data.toList)) with
 | none=>none
 | some n=>
   if fK (r.extract (digits r.data.toList) r.size) 46 && decide (ns.length≠2) then oY k (bR (r.extract (digits r.data.toList) r.size)) (ns++ [n])
   else some (ns++ [n],r.extract (digits r.data.toList) r.size):=rfl
theorem f167 (text:aa) (w:World) (hs:text.size<=1000000) (hg:Gl w):
 Calls Tryz.prog 167 #[.string text] w fun e w'=>iu (fE text) e/\Below w.heap.size w w':=by
 have TJ:=Y0 (show Ob text=if fK text 118 then bR text else text from rfl);have Vi:=vZ text
 have jd:fE text=match oY 3 (Ob text) [] with
  | none=>none
  | some (ns,r)=>match fD r 45 with
    | none=>none
    | some (p,r1)=>match fD r1 43 with
      | none=>none
      | some (m,r2)=>if r2.size=0 then some (⟨ns.getD 0 0,ns.getD 1 0,ns.getD 2 0,p,m,text⟩,ns.length) else none:=rfl
 have yE:=Y0 jd;have Hp:=Y0 hg;clear jd hg;generalize fE text=res at*;obtain ⟨r0,GJ⟩:∃r0,r0=Ob text:=⟨_,rfl⟩;rw [<-GJ] at TJ yE Vi;clear GJ;have hemp:=Y0 (isEmpty_iff text);go_enter func167,ntmps167;go_upto_region 3 with (go_at_call 77;refine (f77 _ _).mono ?_;rintro e w1 ⟨⟨em,rfl⟩,hB⟩;have dz:=Y0 hB;clear hB);go_cut [26] (fun s wx=>s= .bool (fK text 118)/\Hid (wx=w1.alloc (.cells #[.int .u64 0, .int .u64 0, .int .u64 0, .string ⟨#[]⟩, .string ⟨#[]⟩, .string text] 264)))
 case first=>
  by_cases h0:text.size=0
  · have q:text.toList.isEmpty=true:=by rw [hemp.out];simpa using h0
    go_wp2_with fail;go_meet;exact ⟨by rw [lh h0],Y0 rfl⟩
  have q:text.toList.isEmpty=false:=by rw [hemp.out];simpa using h0
  have hp:0<text.size:=by omega
  have hh:=Y0 (jG (s:=text) (c:=118) hp);by_cases h1:text[0].toNat=118
  · have q2:((text[0].toNat:Int)==118)=true:=by simp [h1]
    have H1:=Y0 h1;clear h1;go_wp2_with fail;go_meet;exact ⟨by rw [hh.out,decide_eq_true H1.out],Y0 rfl⟩
  have q2:((text[0].toNat:Int)==118)=false:=by simp;omega
  have H1:=Y0 h1;clear h1;go_wp2_with fail;go_meet;exact ⟨by rw [hh.out,decide_eq_false H1.out],Y0 rfl⟩
 obtain ⟨rfl,hw⟩:=hcut;obtain ⟨wv,rfl⟩:∃W:World,W=wc:=⟨_,rfl⟩;go_upto_if 26 with fail;go_cut [7] (fun s wx=>s= .string r0/\Hid (wx=wv))
 case first=>
  cases hb:fK text 118
  · have hr:Hid (r0=text):=Y0 (by rw [TJ.out,hb];rfl);clear hb;go_wp2_with fail;go_meet;exact ⟨by rw [hr.out],Y0 rfl⟩
  have hr:Hid (r0=bR text):=Y0 (by rw [TJ.out,hb];rfl);have hp:=jn hb;clear hb;go_wp2_with fail;go_meet;exact ⟨by rw [hr.out];rfl,Y0 rfl⟩
 obtain ⟨rfl,hwc⟩:=hcut;have Vj:=hwc.out;subst Vj;clear hwc TJ hemp;obtain ⟨V,hV⟩:∃V,V=w1.heap.size:=⟨_,rfl⟩;have hsz:wc.heap.size=V+1:=by rw [hw.out,hV];simp
 have HV:Hid (w.heap.size<V/\wc.heap[w.heap.size]?=some (.cells #[.int .u64 0, .int .u64 0, .int .u64 0, .string ⟨#[]⟩, .string ⟨#[]⟩, .string ⟨#[]⟩] 264 (0,0))/\wc.heap[V]?=some (.cells #[.int .u64 0, .int .u64 0, .int .u64 0, .string ⟨#[]⟩, .string ⟨#[]⟩, .string text] 264 (0,0))/\Below w.heap.size w wc):=Y0 (by
  have h1:=dz.out.size;have h2:w.heap.size<V:=by rw [hV];simp at h1;omega
  refine ⟨h2, ?_, ?_, ?_⟩
  · rw [hw.out,Below.heap_alloc w1 _ _ (by rw [<-hV];exact h2)];exact (dz.out.block _ (by simp)).trans (heap_alloc_new _ _)
  · rw [hw.out,hV];exact heap_alloc_new _ _
  rw [hw.out];exact (((Below.refl _ _).alloc (Nat.le_refl _) _).trans (dz.out.mono (by simp))).alloc (by rw [<-hV];omega) _)
 rw [<-hV];have iN:Hid (Below w.heap.size w w1):=Y0 (((Below.refl _ _).alloc (Nat.le_refl _) _).trans (dz.out.mono (by simp)));clear hV hw dz;go_upto_block 0 with fail;obtain ⟨W0,hW0⟩:∃W,W=wc.alloc (.cells #[.pointer (some ⟨V,0,none⟩), .pointer (some ⟨V,1,none⟩), .pointer (some ⟨V,2,none⟩)] 344):=⟨_,rfl⟩
 have Ed:Hid (eP w V text [] ⟨#[]⟩ ⟨#[]⟩ W0):=Y0 (by
  have hb:Below wc.heap.size wc W0:=by rw [hW0];exact (Below.refl _ _).alloc (Nat.le_refl _) _
  refine ⟨(hb.block _ (by have:=HV.out.1;omega)).trans HV.out.2.1,(hb.block _ (by omega)).trans HV.out.2.2.1, ?_,HV.out.2.2.2.trans (hb.mono (by have:=HV.out.1;omega))⟩;rw [hW0,<-hsz];exact heap_alloc_new _ _)
 rw [<-hW0];have Oe:w.heap.size<V:=HV.out.1;clear hW0 hsz HV;go_cut [7,8] (fun s p wx=>∃(ns:List Nat) (r:aa),s= .string r/\p= .int .i64 ns.length/\r.size<=1000000/\ns.length<=3/\Hid (oY 3 r0 []=some (ns,r)/\eP w V text ns ⟨#[]⟩ ⟨#[]⟩ wx))
 case first=>
  go_wp2_with fail;go_loopw [7,8,34] (fun s p i wr=>∃(ns:List Nat) (r:aa) (j:Nat),s= .string r/\p= .int .i64 j/\i= .int .i64 j/\j<=3/\r.size<=1000000/\Hid (ns.length=j/\oY 3 r0 []=oY (3 - j) r ns/\eP w V text ns ⟨#[]⟩ ⟨#[]⟩ wr)) (fun _ _ i _=>3 - (intOf i).toNat)
  case atStart=>exact ⟨[],r0,0,rfl,rfl,rfl,by omega,by omega,Y0 ⟨rfl,rfl,Ed.out⟩⟩
  obtain ⟨ns,r,j,rfl,rfl,rfl,hj,hr,H⟩:=hrel;by_cases hj3:j<3
  · have Vk:(j:Int)<3:=by omega
    have hpc:wr.cell? ⟨V+1,j,none⟩=some (.pointer (some ⟨V,j,none⟩)):=by
     rcases (show j=0\/j=1\/j=2 by omega) with rfl|rfl|rfl
     · exact ae H.out.2.2.s rfl
     · exact ae H.out.2.2.s rfl
     exact ae H.out.2.2.s rfl
    obtain ⟨wo,rfl⟩:∃W:World,W=wr:=⟨_,rfl⟩;go_upto_block 2 with fail;go_cut [11] (fun i wx=>i= .int .i64 (digits r.data.toList)/\Hid (wx=wo))
    case first=>
     go_wp2_with fail;go_loop [11] (fun i=>∃k:Nat,i= .int .i64 k/\k<=r.size/\Hid (digits r.data.toList=k+digits (r.data.toList.drop k))) (fun i=>r.size - (intOf i).toNat)
     case atStart=>exact ⟨0,rfl,by omega,Y0 (by simp)⟩
     obtain ⟨k,rfl,hk,HD⟩:=hrel;by_cases hlt:k<r.size
     · have hst:=Y0 (wE r k hlt);rcases (show r[k].toNat<48\/57<r[k].toNat\/l5 r[k].toNat by unfold l5;omega) with hd|hd|hd
       · have h1:¬48<=(r[k].toNat:Int):=by omega
         go_wp2;go_meet;exact ⟨by rw [HD.out,hst.out,if_neg (by unfold l5;omega)];rfl,Y0 rfl⟩
       · have h1:48<=(r[k].toNat:Int):=by omega
         have h2:¬(r[k].toNat:Int)<=57:=by omega
         go_wp2;go_meet;exact ⟨by rw [HD.out,hst.out,if_neg (by unfold l5;omega)];rfl,Y0 rfl⟩
       have h1:48<=(r[k].toNat:Int):=by unfold l5 at hd;omega
       have h2:(r[k].toNat:Int)<=57:=by unfold l5 at hd;omega
       have Vl:=Y0 hd;clear hd;go_wp2;go_round
       case rel=>exact ⟨k+1,by go_num,by omega,Y0 (by rw [HD.out,hst.out,if_pos Vl.out];omega)⟩
       simp [intOf];omega
     have hk2:k=r.size:=by omega
     subst hk2;go_wp2;go_meet;exact ⟨by rw [HD.out,dZ];rfl,Y0 rfl⟩
    obtain ⟨rfl,hw⟩:=hcut;have e:=hw.out;subst e;clear hw;have Vm:digits r.data.toList<=r.size:=by have:=sS r.data.toList;rwa [size_data] at this
    have hst:=Y0 (Ec (2 - j) r ns);have Vn:Hid (oY (3 - j) r ns=oY (2 - j+1) r ns):=Y0 (by rw [show 3 - j=2 - j+1 by omega]);generalize digits r.data.toList=d at*;by_cases hd0:d=0
    · have hres:Hid (res=none):=Y0 (by rw [yE.out,H.out.2.1,Vn.out,hst.out,if_pos hd0]);subst hd0;go_wp2_with (refine wpList_store_row (o:=⟨none,Op.store 264 (Operand.tmp 2) (Operand.tmp 58),_,_,_,_⟩) rfl 264 _ _ rfl w.heap.size #[.int .u64 0, .int .u64 0, .int .u64 0, .string ⟨#[]⟩, .string ⟨#[]⟩, .string ⟨#[]⟩] rfl rfl 264 #[.int .u64 0, .int .u64 0, .int .u64 0, .string ⟨#[]⟩, .string ⟨#[]⟩, .string ⟨#[]⟩] H.out.2.2.r aN rfl fS ?_)
      (try simp only [Exit.inBlock,Exit.then])
      refine bodyPost_ret (cF results167 _ (wc.setRow w.heap.size #[.int .u64 0, .int .u64 0, .int .u64 0, .string ⟨#[]⟩, .string ⟨#[]⟩, .string ⟨#[]⟩]) w.heap.size 264 #[.int .u64 0, .int .u64 0, .int .u64 0, .string ⟨#[]⟩, .string ⟨#[]⟩, .string ⟨#[]⟩] (0,0) _ rfl (setRow_heap _ _ _ _ _ _ H.out.2.2.r) underlying264 rfl aN) rfl ⟨?_,below_setRow H.out.2.2.below (Nat.le_refl _) _⟩;rw [hres.out];exact ⟨em,rfl⟩
    have hsz:(r.extract 0 d).size=d:=by rw [cQ];omega
    have Pq:=f178 (r.extract 0 d) wc (by rw [hsz];exact hd0) (by rw [hsz];omega) (Hp.out.pure H.out.2.2.below)
    have kx:Hid (oY (2 - j+1) r ns=match numOf (r.extract 0 d) with
     | none=>none
     | some n=>if fK (r.extract d r.size) 46 && decide (ns.length≠2) then oY (2 - j) (bR (r.extract d r.size)) (ns++ [n]) else some (ns++ [n],r.extract d r.size)):=Y0 (by rw [hst.out,if_neg hd0])
    have Ee:=Y0 Pq
    have Cq:Hid (∀v,wD (r.extract 0 d) v↔match numOf (r.extract 0 d) with
     | some n=>v= .tuple #[.int .u64 n, .nilIface]
     | none=>∃(k:Int) (T:TypeId) (x:Value),v= .tuple #[.int .u64 k, .iface T x]):=Y0 fun v=>Iff.rfl
    clear Pq hsz hst;generalize numOf (r.extract 0 d)=on at kx Cq;have hdi:(d:Int)<=(r.size:Int):=by omega
    have aag:((d:Int)==0)=false:=by simp;omega
    cases on with
    | none=>
      have hres:Hid (res=none):=Y0 (by rw [yE.out,H.out.2.1,Vn.out,kx.out]);have flag:True:=trivial
      go_wp2_with (first
       | (clear flag;go_at_call 178;(with_reducible refine Ee.out.mono ?_);rintro e w5 ⟨v,rfl,iM,bz⟩;obtain ⟨kk,T,x,rfl⟩:=(Cq.out _).1 iM;clear iM;have oa:Hid (eP w V text ns ⟨#[]⟩ ⟨#[]⟩ w5):=Y0 (H.out.2.2.pure bz);clear bz;have au:True:=trivial)
       | (clear au;refine wpList_store_row (o:=⟨none,Op.store 264 (Operand.tmp 2) (Operand.tmp 69),_,_,_,_⟩) rfl 264 _ _ rfl w.heap.size #[.int .u64 0, .int .u64 0, .int .u64 0, .string ⟨#[]⟩, .string ⟨#[]⟩, .string ⟨#[]⟩] rfl rfl 264 #[.int .u64 0, .int .u64 0, .int .u64 0, .string ⟨#[]⟩, .string ⟨#[]⟩, .string ⟨#[]⟩] oa.out.r aN rfl fS ?_))
      (try simp only [Exit.inBlock,Exit.then])
      refine bodyPost_ret (cF results167 _ (w5.setRow w.heap.size #[.int .u64 0, .int .u64 0, .int .u64 0, .string ⟨#[]⟩, .string ⟨#[]⟩, .string ⟨#[]⟩]) w.heap.size 264 #[.int .u64 0, .int .u64 0, .int .u64 0, .string ⟨#[]⟩, .string ⟨#[]⟩, .string ⟨#[]⟩] (0,0) _ rfl (setRow_heap _ _ _ _ _ _ oa.out.r) underlying264 rfl aN) rfl ⟨?_,below_setRow oa.out.below (Nat.le_refl _) _⟩;rw [hres.out]
      exact ⟨em,rfl⟩
    | some n=>
      obtain ⟨r1,hr1⟩:∃r1,r1=r.extract d r.size:=⟨_,rfl⟩;have LH:r1.size<=1000000:=by rw [hr1,cQ];omega
      rw [<-hr1] at kx;have aah:r.extract d r.size=r1:=hr1.symm;clear hr1;have Pr:=Y0 (isEmpty_iff r1)
      have way:(r1.toList.isEmpty=true/\Hid (oY 3 r0 []=some (ns++ [n],r1)))\/(r1.toList.isEmpty=false/\∃hp:0<r1.size,(((r1[0].toNat:Int) !=46)=true/\Hid (oY 3 r0 []=some (ns++ [n],r1)))\/(((r1[0].toNat:Int) !=46)=false/\j=2/\Hid (oY 3 r0 []=some (ns++ [n],r1)))\/(((r1[0].toNat:Int) !=46)=false/\j<2/\Hid (oY 3 r0 []=oY (2 - j) (bR r1) (ns++ [n])))):=by
       have hx:oY 3 r0 []=if fK r1 46 && decide (ns.length≠2) then oY (2 - j) (bR r1) (ns++ [n]) else some (ns++ [n],r1):=by rw [H.out.2.1,Vn.out,kx.out]
       rw [Pr.out];by_cases h0:r1.size=0
       · exact .inl ⟨by simpa using h0,Y0 (by rw [hx,lh h0];rfl)⟩
       have hp:0<r1.size:=by omega
       refine .inr ⟨by simpa using h0,hp, ?_⟩;have hi:=jG (s:=r1) (c:=46) hp;by_cases h1:r1[0].toNat=46
       · rw [decide_eq_true h1] at hi;by_cases h2:j=2
         · exact .inr (.inl ⟨by simp [h1],h2,Y0 (by rw [hx,hi,H.out.1,h2];rfl)⟩)
         exact .inr (.inr ⟨by simp [h1],by omega,Y0 (by rw [hx,hi,H.out.1,decide_eq_true h2];rfl)⟩)
       rw [decide_eq_false h1] at hi;exact .inl ⟨by simp;omega,Y0 (by rw [hx,hi];rfl)⟩
      have hjl:Hid (ns.length=j):=Y0 H.out.1
      have TK:Hid (∀W,eP w V text ns ⟨#[]⟩ ⟨#[]⟩ W->W.cell? ⟨V,j,none⟩=some (eV ns j)):=Y0 fun W h=>by
       rcases (show j=0\/j=1\/j=2 by omega) with rfl|rfl|rfl<;>exact ae h.v rfl
      have flag:True:=trivial;have aai:V<wc.heap.size:=by have:=H.out.2.2.size;omega
      rcases way with ⟨q1,hx⟩|⟨q1,hp,⟨q2,hx⟩|⟨q2,Ps,hx⟩|⟨q2,Ps,hx⟩⟩
      · go_wp2_with (go_at_call 178;(with_reducible refine Ee.out.mono ?_);rintro e w5 ⟨v,rfl,iM,bz⟩;have hv:=(Cq.out _).1 iM;subst hv;clear iM;have oa:Hid (eP w V text ns ⟨#[]⟩ ⟨#[]⟩ w5):=Y0 (H.out.2.2.pure bz);have Pt:w5.cell? ⟨V,j,none⟩=some (eV ns j):=TK.out _ oa.out;have Pw:w5.frozen? ⟨V,j,none⟩=false:=frozen_of_row _ _ _ _ _ oa.out.v;clear bz);go_meet;have kD:=oa.out.num Oe (by have:=hjl.out;omega) n;rw [hjl.out] at kD;exact ⟨ns++ [n],r1,rfl,by simp [hjl.out],LH,by simp;have:=hjl.out;omega,Y0 ⟨hx.out,kD⟩⟩
      · go_wp2_with (go_at_call 178;(with_reducible refine Ee.out.mono ?_);rintro e w5 ⟨v,rfl,iM,bz⟩;have hv:=(Cq.out _).1 iM;subst hv;clear iM;have oa:Hid (eP w V text ns ⟨#[]⟩ ⟨#[]⟩ w5):=Y0 (H.out.2.2.pure bz);have Pt:w5.cell? ⟨V,j,none⟩=some (eV ns j):=TK.out _ oa.out;have Pw:w5.frozen? ⟨V,j,none⟩=false:=frozen_of_row _ _ _ _ _ oa.out.v;clear bz);go_meet;have kD:=oa.out.num Oe (by have:=hjl.out;omega) n;rw [hjl.out] at kD;exact ⟨ns++ [n],r1,rfl,by simp [hjl.out],LH,by simp;have:=hjl.out;omega,Y0 ⟨hx.out,kD⟩⟩
      · have q3:(((j:Int)+1)==3)=true:=by simp;omega
        have HJ2:=Y0 Ps;clear Ps;go_wp2_with (go_at_call 178;(with_reducible refine Ee.out.mono ?_);rintro e w5 ⟨v,rfl,iM,bz⟩;have hv:=(Cq.out _).1 iM;subst hv;clear iM;have oa:Hid (eP w V text ns ⟨#[]⟩ ⟨#[]⟩ w5):=Y0 (H.out.2.2.pure bz);have Pt:w5.cell? ⟨V,j,none⟩=some (eV ns j):=TK.out _ oa.out;have Pw:w5.frozen? ⟨V,j,none⟩=false:=frozen_of_row _ _ _ _ _ oa.out.v;clear bz);go_meet;have kD:=oa.out.num Oe (by have:=hjl.out;omega) n;rw [hjl.out] at kD;exact ⟨ns++ [n],r1,rfl,by simp [hjl.out],LH,by simp;have:=hjl.out;omega,Y0 ⟨hx.out,kD⟩⟩
      have q3:(((j:Int)+1)==3)=false:=by simp;omega
      go_wp2_with (go_at_call 178;(with_reducible refine Ee.out.mono ?_);rintro e w5 ⟨v,rfl,iM,bz⟩;have hv:=(Cq.out _).1 iM;subst hv;clear iM;have oa:Hid (eP w V text ns ⟨#[]⟩ ⟨#[]⟩ w5):=Y0 (H.out.2.2.pure bz);have Pt:w5.cell? ⟨V,j,none⟩=some (eV ns j):=TK.out _ oa.out;have Pw:w5.frozen? ⟨V,j,none⟩=false:=frozen_of_row _ _ _ _ _ oa.out.v;clear bz);have kD:=oa.out.num Oe (by have:=hjl.out;omega) n;rw [hjl.out] at kD;go_roundw
      case rel=>exact ⟨ns++ [n],bR r1,j+1,rfl,by go_num,by go_num,by omega,by rw [cw];omega,Y0 ⟨by simp [hjl.out],by rw [hx.out,show 3 - (j+1)=2 - j by omega],kD⟩⟩
      simp [intOf];omega
  have Vk:¬(j:Int)<3:=by omega
  have wF:Hid (j=3):=Y0 (by omega);go_wp2;go_meet;exact ⟨ns,r,rfl,by rw [H.out.1],hr,by have h:=H.out.1;omega,Y0 ⟨by rw [H.out.2.1,wF.out];rfl,H.out.2.2⟩⟩
 obtain ⟨ns,r,rfl,rfl,hr,hnl,H⟩:=hcut
 have dP:Hid (res=match fD r 45 with
  | none=>none
  | some (p,r1)=>match fD r1 43 with
    | none=>none
    | some (m,r2)=>if r2.size=0 then some (⟨ns.getD 0 0,ns.getD 1 0,ns.getD 2 0,p,m,text⟩,ns.length) else none):=Y0 (by rw [yE.out,H.out.1])
 have HA:Hid (eP w V text ns ⟨#[]⟩ ⟨#[]⟩ wc):=Y0 H.out.2;obtain ⟨wt,rfl⟩:∃W:World,W=wc:=⟨_,rfl⟩;clear H yE Ed;have hemp:=Y0 (isEmpty_iff r);go_upto_region 23 with fail;go_cut [99] (fun s wx=>s= .bool (fK r 45)/\Hid (wx=wt))
 case first=>
  by_cases h0:r.size=0
  · have q:r.toList.isEmpty=true:=by rw [hemp.out];simpa using h0
    go_wp2_with fail;go_meet;exact ⟨by rw [lh h0],Y0 rfl⟩
  have q:r.toList.isEmpty=false:=by rw [hemp.out];simpa using h0
  have hp:0<r.size:=by omega
  have hh:=Y0 (jG (s:=r) (c:=45) hp);by_cases h1:r[0].toNat=45
  · have q2:((r[0].toNat:Int)==45)=true:=by simp [h1]
    have H1:=Y0 h1;clear h1;go_wp2_with fail;go_meet;exact ⟨by rw [hh.out,decide_eq_true H1.out],Y0 rfl⟩
  have q2:((r[0].toNat:Int)==45)=false:=by simp;omega
  have H1:=Y0 h1;clear h1;go_wp2_with fail;go_meet;exact ⟨by rw [hh.out,decide_eq_false H1.out],Y0 rfl⟩
 obtain ⟨rfl,hw⟩:=hcut;have e:=hw.out;subst e;clear hw hemp;go_upto_if 99 with fail;obtain ⟨wt,rfl⟩:∃W:World,W=wc:=⟨_,rfl⟩;go_cut [7] (fun s wx=>∃(p r1:aa),s= .string r1/\r1.size<=1000000/\Hid (fD r 45=some (p,r1)/\eP w V text ns p ⟨#[]⟩ wx))
 case first=>
  have htl:=Y0 (show fD r 45=if fK r 45 then (if dN (bR r)=0 then none else some (r.extract 1 (1+dN (bR r)),r.extract (1+dN (bR r)) r.size)) else some (⟨#[]⟩,r) from rfl);cases hb:fK r 45
  · have uh:Hid (fD r 45=some (⟨#[]⟩,r)):=Y0 (by rw [htl.out,hb];rfl);clear hb;go_wp2_with fail;go_meet;exact ⟨⟨#[]⟩,r,rfl,by omega,Y0 ⟨uh.out,HA.out⟩⟩
  have hp:=jn hb;have hil:=sP (bR r);rw [cw] at hil;have zx:=f179 (bR r) wt (by rw [cw];omega);have uh:Hid (fD r 45=if dN (bR r)=0 then none else some (r.extract 1 (1+dN (bR r)),r.extract (1+dN (bR r)) r.size)):=Y0 (by rw [htl.out,hb];rfl);unfold bR at zx;have Ef:=Y0 zx;clear hb zx htl;unfold bR at*;generalize dN (r.extract 1 r.size)=n at*;have hp1:1<=(r.size:Int):=by omega
  by_cases hn:n=0
  · have hres:Hid (res=none):=Y0 (by rw [dP.out,uh.out,if_pos hn]);subst hn
    go_wp2_with (first
     | (go_at_call 179;(with_reducible refine Ef.out.mono ?_);rintro e w5 ⟨rfl,rfl⟩)
     | (refine wpList_store_row (o:=⟨none,Op.store 264 (Operand.tmp 2) (Operand.tmp 105),_,_,_,_⟩) rfl 264 _ _ rfl w.heap.size #[.int .u64 0, .int .u64 0, .int .u64 0, .string ⟨#[]⟩, .string ⟨#[]⟩, .string ⟨#[]⟩] rfl rfl 264 #[.int .u64 0, .int .u64 0, .int .u64 0, .string ⟨#[]⟩, .string ⟨#[]⟩, .string ⟨#[]⟩] HA.out.r aN rfl fS ?_))
    (try simp only [Exit.inBlock,Exit.then])
    refine bodyPost_ret (cF results167 _ (w5.setRow w.heap.size #[.int .u64 0, .int .u64 0, .int .u64 0, .string ⟨#[]⟩, .string ⟨#[]⟩, .string ⟨#[]⟩]) w.heap.size 264 #[.int .u64 0, .int .u64 0, .int .u64 0, .string ⟨#[]⟩, .string ⟨#[]⟩, .string ⟨#[]⟩] (0,0) _ rfl (setRow_heap _ _ _ _ _ _ HA.out.r) underlying264 rfl aN) rfl ⟨?_,below_setRow HA.out.below (Nat.le_refl _) _⟩;rw [hres.out];exact ⟨em,rfl⟩
  have LJ:Hid (fD r 45=some (r.extract 1 (1+n),r.extract (1+n) r.size)):=Y0 (by rw [uh.out,if_neg hn]);have qR:((n:Int)==0)=false:=by simp;omega
  have Pg:IntKind.i64.wrap (1+(n:Int))=1+(n:Int):=IntWalk.i64_in _ (by omega);have hs1:1+(n:Int)<=(r.size:Int):=by omega
  have hs2:0<=1+(n:Int):=by omega
  have hs3:1<=1+(n:Int):=by omega
  have hs4:(1+(n:Int)).toNat=1+n:=by omega
  have Pt:wt.cell? ⟨V,3,none⟩=some (.string ⟨#[]⟩):=ae HA.out.v rfl;have Pw:wt.frozen? ⟨V,3,none⟩=false:=frozen_of_row _ _ _ _ _ HA.out.v;go_wp2_with (go_at_call 179;(with_reducible refine Ef.out.mono ?_);rintro e w5 ⟨rfl,rfl⟩)
  go_region
  go_wp2;go_meet;exact ⟨r.extract 1 (1+n),r.extract (1+n) r.size,rfl,by rw [cQ];omega,Y0 ⟨LJ.out,eP.drew (HA.out.pre Oe _)⟩⟩
 obtain ⟨p,r1,rfl,hr1,H⟩:=hcut
 have qV:Hid (res=match fD r1 43 with
  | none=>none
  | some (m,r2)=>if r2.size=0 then some (⟨ns.getD 0 0,ns.getD 1 0,ns.getD 2 0,p,m,text⟩,ns.length) else none):=Y0 (by rw [dP.out,H.out.1])
 have HA:Hid (eP w V text ns p ⟨#[]⟩ wc):=Y0 H.out.2;obtain ⟨wt,rfl⟩:∃W:World,W=wc:=⟨_,rfl⟩;clear H dP;have hemp:=Y0 (isEmpty_iff r1);go_upto_region 28 with fail;go_cut [122] (fun s wx=>s= .bool (fK r1 43)/\Hid (wx=wt))
 case first=>
  by_cases h0:r1.size=0
  · have q:r1.toList.isEmpty=true:=by rw [hemp.out];simpa using h0
    go_wp2_with fail;go_meet;exact ⟨by rw [lh h0],Y0 rfl⟩
  have q:r1.toList.isEmpty=false:=by rw [hemp.out];simpa using h0
  have hp:0<r1.size:=by omega
  have hh:=Y0 (jG (s:=r1) (c:=43) hp);by_cases h1:r1[0].toNat=43
  · have q2:((r1[0].toNat:Int)==43)=true:=by simp [h1]
    have H1:=Y0 h1;clear h1;go_wp2_with fail;go_meet;exact ⟨by rw [hh.out,decide_eq_true H1.out],Y0 rfl⟩
  have q2:((r1[0].toNat:Int)==43)=false:=by simp;omega
  have H1:=Y0 h1;clear h1;go_wp2_with fail;go_meet;exact ⟨by rw [hh.out,decide_eq_false H1.out],Y0 rfl⟩
 obtain ⟨rfl,hw⟩:=hcut;have e:=hw.out;subst e;clear hw hemp;go_upto_if 122 with fail;obtain ⟨wt,rfl⟩:∃W:World,W=wc:=⟨_,rfl⟩;go_cut [7] (fun s wx=>∃(m r2:aa),s= .string r2/\r2.size<=1000000/\Hid (fD r1 43=some (m,r2)/\eP w V text ns p m wx))
 case first=>
  have htl:=Y0 (show fD r1 43=if fK r1 43 then (if dN (bR r1)=0 then none else some (r1.extract 1 (1+dN (bR r1)),r1.extract (1+dN (bR r1)) r1.size)) else some (⟨#[]⟩,r1) from rfl);cases hb:fK r1 43
  · have uh:Hid (fD r1 43=some (⟨#[]⟩,r1)):=Y0 (by rw [htl.out,hb];rfl);clear hb;go_wp2_with fail;go_meet;exact ⟨⟨#[]⟩,r1,rfl,by omega,Y0 ⟨uh.out,HA.out⟩⟩
  have hp:=jn hb;have hil:=sP (bR r1);rw [cw] at hil;have zx:=f179 (bR r1) wt (by rw [cw];omega);have uh:Hid (fD r1 43=if dN (bR r1)=0 then none else some (r1.extract 1 (1+dN (bR r1)),r1.extract (1+dN (bR r1)) r1.size)):=Y0 (by rw [htl.out,hb];rfl);unfold bR at zx;have Ef:=Y0 zx;clear hb zx htl;unfold bR at*;generalize dN (r1.extract 1 r1.size)=n at*;have hp1:1<=(r1.size:Int):=by omega
  by_cases hn:n=0
  · have hres:Hid (res=none):=Y0 (by rw [qV.out,uh.out,if_pos hn]);subst hn
    go_wp2_with (first
     | (go_at_call 179;(with_reducible refine Ef.out.mono ?_);rintro e w5 ⟨rfl,rfl⟩)
     | (refine wpList_store_row (o:=⟨none,Op.store 264 (Operand.tmp 2) (Operand.tmp 128),_,_,_,_⟩) rfl 264 _ _ rfl w.heap.size #[.int .u64 0, .int .u64 0, .int .u64 0, .string ⟨#[]⟩, .string ⟨#[]⟩, .string ⟨#[]⟩] rfl rfl 264 #[.int .u64 0, .int .u64 0, .int .u64 0, .string ⟨#[]⟩, .string ⟨#[]⟩, .string ⟨#[]⟩] HA.out.r aN rfl fS ?_))
    (try simp only [Exit.inBlock,Exit.then])
    refine bodyPost_ret (cF results167 _ (w5.setRow w.heap.size #[.int .u64 0, .int .u64 0, .int .u64 0, .string ⟨#[]⟩, .string ⟨#[]⟩, .string ⟨#[]⟩]) w.heap.size 264 #[.int .u64 0, .int .u64 0, .int .u64 0, .string ⟨#[]⟩, .string ⟨#[]⟩, .string ⟨#[]⟩] (0,0) _ rfl (setRow_heap _ _ _ _ _ _ HA.out.r) underlying264 rfl aN) rfl ⟨?_,below_setRow HA.out.below (Nat.le_refl _) _⟩;rw [hres.out];exact ⟨em,rfl⟩
  have LJ:Hid (fD r1 43=some (r1.extract 1 (1+n),r1.extract (1+n) r1.size)):=Y0 (by rw [uh.out,if_neg hn]);have qR:((n:Int)==0)=false:=by simp;omega
  have Pg:IntKind.i64.wrap (1+(n:Int))=1+(n:Int):=IntWalk.i64_in _ (by omega);have hs1:1+(n:Int)<=(r1.size:Int):=by omega
  have hs2:0<=1+(n:Int):=by omega
  have hs3:1<=1+(n:Int):=by omega
  have hs4:(1+(n:Int)).toNat=1+n:=by omega
  have Pt:wt.cell? ⟨V,4,none⟩=some (.string ⟨#[]⟩):=ae HA.out.v rfl;have Pw:wt.frozen? ⟨V,4,none⟩=false:=frozen_of_row _ _ _ _ _ HA.out.v;go_wp2_with (go_at_call 179;(with_reducible refine Ef.out.mono ?_);rintro e w5 ⟨rfl,rfl⟩)
  go_region
  go_wp2;go_meet;exact ⟨r1.extract 1 (1+n),r1.extract (1+n) r1.size,rfl,by rw [cQ];omega,Y0 ⟨LJ.out,eP.drew (HA.out.met Oe _)⟩⟩
 obtain ⟨m,r2,rfl,hr2,H⟩:=hcut;have J0:Hid (res=if r2.size=0 then some (⟨ns.getD 0 0,ns.getD 1 0,ns.getD 2 0,p,m,text⟩,ns.length) else none):=Y0 (by rw [qV.out,H.out.1]);have HA:Hid (eP w V text ns p m wc):=Y0 H.out.2;clear H qV;have hemp:=Y0 (isEmpty_iff r2);by_cases h0:r2.size=0
 · have q:r2.toList.isEmpty=true:=by rw [hemp.out];simpa using h0
   have hres:Hid (res=some (⟨ns.getD 0 0,ns.getD 1 0,ns.getD 2 0,p,m,text⟩,ns.length)):=Y0 (by rw [J0.out,if_pos h0]);have flag:True:=trivial
   go_wp2_with (first
    | (clear flag;refine wpList_load_row (o:=⟨some 143,_,_,_,_,_⟩) rfl 264 _ rfl V rfl 264 #[eV ns 0,eV ns 1,eV ns 2, .string p, .string m, .string text] (0,0) _ HA.out.v underlying264 rfl aN ?_;have au:True:=trivial)
    | (clear au;refine wpList_store_row (o:=⟨none,Op.store 264 (Operand.tmp 2) (Operand.tmp 143),_,_,_,_⟩) rfl 264 _ _ rfl w.heap.size #[eV ns 0,eV ns 1,eV ns 2, .string p, .string m, .string text] rfl rfl 264 #[.int .u64 0, .int .u64 0, .int .u64 0, .string ⟨#[]⟩, .string ⟨#[]⟩, .string ⟨#[]⟩] HA.out.r aN rfl (by simp only [eV,List.all_toArray,List.all_cons,List.all_nil,Bool.and_true];rfl) ?_))
   (try simp only [Exit.inBlock,Exit.then])
   refine bodyPost_ret (cF results167 _ (wc.setRow w.heap.size #[eV ns 0,eV ns 1,eV ns 2, .string p, .string m, .string text]) w.heap.size 264 #[eV ns 0,eV ns 1,eV ns 2, .string p, .string m, .string text] (0,0) _ rfl (setRow_heap _ _ _ _ _ _ HA.out.r) underlying264 rfl aN) rfl ⟨?_,below_setRow HA.out.below (Nat.le_refl _) _⟩;rw [hres.out];rfl
 have q:r2.toList.isEmpty=false:=by rw [hemp.out];simpa using h0
 have hres:Hid (res=none):=Y0 (by rw [J0.out,if_neg h0]);go_wp2_with (refine wpList_store_row (o:=⟨none,Op.store 264 (Operand.tmp 2) (Operand.tmp 141),_,_,_,_⟩) rfl 264 _ _ rfl w.heap.size #[.int .u64 0, .int .u64 0, .int .u64 0, .string ⟨#[]⟩, .string ⟨#[]⟩, .string ⟨#[]⟩] rfl rfl 264 #[.int .u64 0, .int .u64 0, .int .u64 0, .string ⟨#[]⟩, .string ⟨#[]⟩, .string ⟨#[]⟩] HA.out.r aN rfl fS ?_)
 (try simp only [Exit.inBlock,Exit.then])
 refine bodyPost_ret (cF results167 _ (wc.setRow w.heap.size #[.int .u64 0, .int .u64 0, .int .u64 0, .string ⟨#[]⟩, .string ⟨#[]⟩, .string ⟨#[]⟩]) w.heap.size 264 #[.int .u64 0, .int .u64 0, .int .u64 0, .string ⟨#[]⟩, .string ⟨#[]⟩, .string ⟨#[]⟩] (0,0) _ rfl (setRow_heap _ _ _ _ _ _ HA.out.r) underlying264 rfl aN) rfl ⟨?_,below_setRow HA.out.below (Nat.le_refl _) _⟩;rw [hres.out];exact ⟨em,rfl⟩
end Go.Proofs.YtjenhelmpcajfaaGreatDoor
