/- ignored rules -/
import Derived.Test.YtjenhelmpcajfaaGreatDoorA21
import Derived.Handy
import Derived.BigGuard
import Derived.Test.YtjenhelmpcajfaaGreatDoorA26
import Derived.Deep.RegionHeld3
set_option linter.all false
set_option maxRecDepth 20000
set_option maxHeartbeats 8000000
namespace Go.Proofs.YtjenhelmpcajfaaGreatDoor
open Go.RowKit
abbrev cY (s:aa):Bytes:=s.data.toList
theorem BH {a b:aa} (h:cY a=cY b):a=b:=ByteArray.ext (Array.ext' h)
theorem cN (r:aa):(aw r=(r,false)/\∀t:Bytes,cY r≠t++ [42])\/((aw r).2=true/\cY r=cY (aw r).1++ [42]):=by
 unfold aw;by_cases h:0<r.size
 · rw [dif_pos h]
   have hl:cY r=cY (r.extract 0 (r.size - 1))++ [r[r.size - 1]]:=by
    show r.data.toList=_;have e:=drop_cons r (r.size - 1) (by omega);rw [show r.size - 1+1=r.size by omega,dZ] at e;rw [<-e,cY,Lib.extract_data,List.drop_zero,Nat.sub_zero,List.take_append_drop]
   by_cases hc:r[r.size - 1].toNat=42
   · rw [if_pos hc];refine .inr ⟨rfl, ?_⟩;have:r[r.size - 1]=42:=UInt8.toNat.inj hc;rw [this] at hl;exact hl
   rw [if_neg hc];refine .inl ⟨rfl,fun t e=>hc ?_⟩;rw [hl] at e;have:=(List.append_inj' e rfl).2;simp at this;rw [this];rfl
 rw [dif_neg h];refine .inl ⟨rfl,fun t e=> ?_⟩;have:=congrArg List.length e;rw [cY,size_data,List.length_append] at this;simp at this;omega
theorem oK (r p:aa):nB r p=true↔cY (aw r).1≠ []/\cY p≠ []/\(cY p=cY (aw r).1\/((aw r).2=true/\cY (aw r).1<+:cY p)):=by
 unfold nB;rw [dm];simp only [ByteArray.toList_eq,Bool.and_eq_true,Bool.or_eq_true,Bool.not_eq_true',List.isEmpty_eq_false_iff,beq_iff_eq,decide_eq_true_eq,and_assoc,cY]
theorem lW (ig:List aa) (p:aa):bV ig p=true↔∃r∈ig,nB r p=true:=by
 unfold bV;rw [List.any_eq_true]
structure gy (TB:TypeId) (g:gF) (done:List aa):Prop where
 key:∀p x,g p=some x->cY x.1=p
 val:∀p x,g p=some x->∃b,x.2= .iface TB (.bool b)
 src:∀p k b,g p=some (k, .iface TB (.bool b))->∃i∈done,cY (aw i).1≠ []/\aw i=(k,b)
 cov:∀i∈done,cY (aw i).1≠ []->(∃q k,q<+:cY (aw i).1/\g q=some (k, .iface TB (.bool true)))\/((aw i).2=false/\(g (cY i)).isSome)
 top:∀p q k,g q=some (k, .iface TB (.bool true))->q<+:p->(g p).isSome->p=q
theorem gy.nil (TB:TypeId):gy TB (fun _=>none) []:=⟨fun _ _ h=>(by cases h),fun _ _ h=>(by cases h),fun _ _ _ h=>(by cases h),fun _ h=>(by cases h),fun _ _ _ h=>(by cases h)⟩
def Q4 (o:Option (aa × Value)) (s:aa):Bool:=match o with
 | some (k, .iface _ (.bool b))=>b||(cY s==cY k)
 | _=>false
theorem LP.top {TB:TypeId} {g:gF} {done:List aa} (h:gy TB g done) {s:Bytes} {o:Option (aa × Value)} (hL:LP g s o) {q:Bytes} {k:aa} (hq:q<+:s) (hg:g q=some (k, .iface TB (.bool true))):o=some (k, .iface TB (.bool true)):=by
 rcases hL with ⟨_,h2⟩|⟨p,x,h1,h2,h3,h4⟩
 · rw [h2 q hq] at hg;cases hg
 have KE:q<+:p:=List.prefix_of_prefix_length_le hq h2 (h4 q hq (by rw [hg];rfl));have:=h.top p q k hg KE (by rw [h3];rfl);subst this;rw [h1,<-h3,hg]
theorem gy.ignored {TB:TypeId} {g:gF} {done ig:List aa} (h:gy TB g done) (hm:∀r,r∈done↔r∈ig) {s:aa} (hs:cY s≠ []) {o:Option (aa × Value)} (hL:LP g (cY s) o):Q4 o s=bV ig s:=by
 rw [Bool.eq_iff_iff,lW];constructor
 · intro hi;rcases hL with ⟨h1,_⟩|⟨p,x,h1,h2,h3,h4⟩
   · rw [h1] at hi;cases hi
   obtain ⟨k,v⟩:=x;obtain ⟨b,rfl⟩:∃b,v= .iface TB (.bool b):=h.val p _ h3;have hk:cY k=p:=h.key p _ h3;obtain ⟨i,hid,hne,hw⟩:=h.src p k b h3;refine ⟨i,(hm i).1 hid,(oK i s).2 ⟨hne,hs, ?_⟩⟩;rw [h1] at hi;simp only [Q4,Bool.or_eq_true,beq_iff_eq] at hi;rw [hw];rcases hi with rfl|hi
   · exact .inr ⟨rfl,by rw [hk];exact h2⟩
   exact .inl hi
 rintro ⟨r,hr,hh⟩;obtain ⟨hne,_,hc⟩:=(oK r s).1 hh
 have hpre:cY (aw r).1<+:cY s:=by
  rcases hc with e|⟨_,e⟩
  · rw [e];exact List.prefix_rfl
  exact e
 rcases h.cov r ((hm r).2 hr) hne with ⟨q,k,hq,hg⟩|⟨hw,hg⟩
 · rw [LP.top h hL (hq.trans hpre) hg];simp [Q4]
 rcases cN r with ⟨e,_⟩|⟨e,_⟩
 · rw [e] at hc
   have yO:cY s=cY r:=by
    rcases hc with e|⟨e,_⟩
    · exact e
    cases e
   rcases hL with ⟨_,h2⟩|⟨p,x,h1,h2,h3,h4⟩
   · rw [<-yO,h2 _ List.prefix_rfl] at hg;cases hg
   have hp:p=cY s:=h2.eq_of_length_le (h4 _ List.prefix_rfl (by rw [yO];exact hg));obtain ⟨k,v⟩:=x;obtain ⟨b,rfl⟩:∃b,v= .iface TB (.bool b):=h.val p _ h3;have hk:cY k=p:=h.key p _ h3;rw [h1];simp [Q4,hk,hp]
 rw [e] at hw;cases hw
def xZ (o:Option (aa × Value)):Bool:=match o with
 | some (_, .iface _ (.bool b))=>b
 | _=>false
theorem gy.keep {TB:TypeId} {g:gF} {done:List aa} (h:gy TB g done) (i:aa) (hc:cY (aw i).1≠ []->(∃q k,q<+:cY (aw i).1/\g q=some (k, .iface TB (.bool true)))\/((aw i).2=false/\(g (cY i)).isSome)):gy TB g (done++ [i]):=
 ⟨h.key,h.val,fun p k b hg=>by obtain ⟨j,hj,hr⟩:=h.src p k b hg;exact ⟨j,by simp [hj],hr⟩,
  fun j hj hne=>by
   rcases List.mem_append.1 hj with hj|hj
   · exact h.cov j hj hne
   obtain rfl:j=i:=by simpa using hj
   exact hc hne,h.top⟩
theorem rH {TB:TypeId} {g:gF} {done:List aa} (h:gy TB g done) {s:Bytes} {o:Option (aa × Value)} (hL:LP g s o) (hw:xZ o=true):∃q k,q<+:s/\g q=some (k, .iface TB (.bool true)):=by
 rcases hL with ⟨h1,_⟩|⟨p,⟨k,v⟩,h1,h2,h3,h4⟩
 · rw [h1] at hw;cases hw
 obtain ⟨b,rfl⟩:∃b,v= .iface TB (.bool b):=h.val p _ h3;rw [h1] at hw;obtain rfl:b=true:=hw;exact ⟨p,k,h2,h3⟩
theorem rI {TB:TypeId} {g:gF} {done:List aa} (h:gy TB g done) {s:Bytes} {o:Option (aa × Value)} (hL:LP g s o) (hw:xZ o=false):∀q k,q<+:s->g q≠some (k, .iface TB (.bool true)):=by
 intro q k hq hg;rw [LP.top h hL hq hg] at hw;cases hw
def mB (r:aa):Prop:=cY (aw r).1= []\/(cY (aw r).1).all jS=true
theorem tI {l:Bytes} (h:l.all jS=true) {c:UInt8} (hc:c∈l):42<c.toNat:=by
 have h1:=List.all_eq_true.1 h c hc;unfold jS at h1;have h2:mR c.toNat:=of_decide_eq_true h1;unfold mR at h2;omega
theorem gy.wild {TB:TypeId} {g:gF} {done:List aa} (h:gy TB g done) {i:aa} (hok:∀j∈done,mB j) (hoi:mB i) (hs:∀j∈done,qD i j=false) (hw:(aw i).2=true) (hne:cY (aw i).1≠ []) {o:Option (aa × Value)} (hL:LP g (cY i) o) (hB:xZ o=false):
 gy TB (g.put (aw i).1 (.iface TB (.bool true))) (done++ [i]):=by
 rcases cN i with ⟨e,_⟩|⟨_,hi⟩
 · rw [e] at hw;cases hw
 generalize hh:(aw i).1=hd at*;have hno:=rI h hL hB;refine ⟨?_, ?_, ?_, ?_, ?_⟩
 · intro p x hx;simp only [gF.put] at hx;split at hx
   · rename_i hp;obtain rfl:=Option.some.inj hx;exact hp.symm
   exact h.key p x hx
 · intro p x hx;simp only [gF.put] at hx;split at hx
   · obtain rfl:=Option.some.inj hx;exact ⟨true,rfl⟩
   exact h.val p x hx
 · intro p k b hx;simp only [gF.put] at hx;split at hx
   · simp only [Option.some.injEq,Prod.mk.injEq,Value.iface.injEq,Value.bool.injEq,true_and] at hx;obtain ⟨rfl,rfl⟩:=hx;exact ⟨i,by simp,by rw [hh];exact hne,by rw [<-hh,<-hw]⟩
   obtain ⟨j,hj,hr⟩:=h.src p k b hx;exact ⟨j,by simp [hj],hr⟩
 · intro j hj MM;rcases List.mem_append.1 hj with hj|hj
   · rcases h.cov j hj MM with ⟨q,k,hq,hg⟩|⟨h1,h2⟩
     · by_cases Q5:q=cY hd
       · exact .inl ⟨q,hd,hq,by simp [gF.put,Q5]⟩
       exact .inl ⟨q,k,hq,by simp only [gF.put,if_neg Q5];exact hg⟩
     refine .inr ⟨h1, ?_⟩;simp only [gF.put];split
     · rfl
     exact h2
   obtain rfl:j=i:=by simpa using hj
   refine .inl ⟨cY hd,hd,by rw [hh];exact List.prefix_rfl,by simp [gF.put]⟩
 intro p q k hq KE hp;simp only [gF.put] at hq hp;split at hq
 · rename_i Q5;subst Q5;split at hp
   · assumption
   rename_i Q6
   exfalso
   obtain ⟨⟨k2,v2⟩,hx⟩:=Option.isSome_iff_exists.1 hp;obtain ⟨b2,rfl⟩:∃b,v2= .iface TB (.bool b):=h.val p _ hx;have hk2:cY k2=p:=h.key p _ hx;obtain ⟨j,hj,MM,Xu⟩:=h.src p k2 b2 hx;obtain ⟨t,ht⟩:=KE
   cases t with
   | nil=>exact Q6 (by simpa using ht.symm)
   | cons c t=>
     have tJ:(cY (aw j).1).all jS=true:=by
      rcases hok j hj with h|h
      · exact absurd h MM
      exact h
     have Q7:cY (aw j).1=cY hd++c::t:=by rw [Xu,ht];exact hk2
     have hc:42<c.toNat:=tI tJ (by rw [Q7];simp)
     have hlt:cY i<cY j:=by
      have Ps:∃u,cY j=cY hd++c::u:=by
       rcases cN j with ⟨e,_⟩|⟨_,e⟩
       · rw [e] at Q7;exact ⟨t,Q7⟩
       rw [Q7] at e;exact ⟨t++ [42],by rw [e];simp⟩
      obtain ⟨u,hu⟩:=Ps;rw [hi,hu]
      have yN:(42:UInt8)<c:=by
       show (42:UInt8).toNat<c.toNat
       exact hc
      clear hu hi Q7 ht;generalize cY hd=z
      induction z with
      | nil=>exact List.cons_lt_cons_iff.2 (.inl yN)
      | cons a z ih=>exact List.cons_lt_cons_iff.2 (.inr ⟨rfl,ih⟩)
     have:=hs j hj;rw [(lB i j).2 hlt] at this;cases this
 rename_i Q5;split at hp
 · rename_i Q6
   exfalso
   subst Q6;exact hno q k (KE.trans (by rw [hi];exact List.prefix_append _ _)) hq
 exact h.top p q k hq KE hp
theorem gy.skip {TB:TypeId} {g:gF} {done:List aa} (h:gy TB g done) {i:aa} (hok:∀j∈done,mB j) {o:Option (aa × Value)} (hL:LP g (cY i) o) (hB:xZ o=true):gy TB g (done++ [i]):=by
 refine h.keep i fun hne=> .inl ?_
 obtain ⟨q,k,hq,hg⟩:=rH h hL hB;refine ⟨q,k, ?_,hg⟩;rcases cN i with ⟨e,_⟩|⟨_,hi⟩
 · rw [e];exact hq
 rw [hi] at hq;rcases List.prefix_concat_iff.1 hq with e|e
 · exfalso
   obtain ⟨j,hj,MM,Xu⟩:=h.src q k true hg;have hk:cY k=q:=h.key q _ hg;rcases hok j hj with h1|h1
   · exact MM h1
   rw [Xu] at h1;have:=tI h1 (c:=42) (by show _∈cY k;rw [hk,e];simp);simp at this
 exact e
theorem gy.plain {TB:TypeId} {g:gF} {done:List aa} (h:gy TB g done) {i:aa} (hw:(aw i).2=false) (hne:cY i≠ []) {o:Option (aa × Value)} (hL:LP g (cY i) o) (hB:xZ o=false):gy TB (g.put i (.iface TB (.bool false))) (done++ [i]):=by
 have Xg:aw i=(i,false):=by
  rcases cN i with ⟨e,_⟩|⟨e,_⟩
  · exact e
  rw [e] at hw;cases hw
 have hno:=rI h hL hB;refine ⟨?_, ?_, ?_, ?_, ?_⟩
 · intro p x hx;simp only [gF.put] at hx;split at hx
   · rename_i hp;obtain rfl:=Option.some.inj hx;exact hp.symm
   exact h.key p x hx
 · intro p x hx;simp only [gF.put] at hx;split at hx
   · obtain rfl:=Option.some.inj hx;exact ⟨false,rfl⟩
   exact h.val p x hx
 · intro p k b hx;simp only [gF.put] at hx;split at hx
   · simp only [Option.some.injEq,Prod.mk.injEq,Value.iface.injEq,Value.bool.injEq,true_and] at hx;obtain ⟨rfl,rfl⟩:=hx;exact ⟨i,by simp,by rw [Xg];exact hne,Xg⟩
   obtain ⟨j,hj,hr⟩:=h.src p k b hx;exact ⟨j,by simp [hj],hr⟩
 · intro j hj MM;rcases List.mem_append.1 hj with hj|hj
   · rcases h.cov j hj MM with ⟨q,k,hq,hg⟩|⟨h1,h2⟩
     · have hqi:q≠cY i:=fun e=>hno q k (by rw [e];exact List.prefix_rfl) hg
       exact .inl ⟨q,k,hq,by simp only [gF.put,if_neg hqi];exact hg⟩
     refine .inr ⟨h1, ?_⟩;simp only [gF.put];split
     · rfl
     exact h2
   obtain rfl:j=i:=by simpa using hj
   exact .inr ⟨hw,by simp [gF.put]⟩
 intro p q k hq KE hp;simp only [gF.put] at hq hp;split at hq
 · simp at hq
 split at hp
 · rename_i Q6
   exfalso
   subst Q6;exact hno q k KE hq
 exact h.top p q k hq KE hp
theorem gy.none {TB:TypeId} {g:gF} {done:List aa} (h:gy TB g done) {i:aa} (hne:cY (aw i).1= []):gy TB g (done++ [i]):=h.keep i fun h=>absurd hne h
open Go.Proofs.Tryz
def uJ (w:World) (lo ib:Nat) (ig:List aa):Prop:=
 lo<=ib/\((w.heap[ib]?=some (.cells #[.pointer none] 182 (0,0))/\∀s,bV ig s=false)\/
  ∃tb m g sz done,w.heap[ib]?=some (.cells #[.pointer (some ⟨tb,0,none⟩)] 182 (0,0))/\Trie w lo ib tb m g sz/\m<=11/\gy 4 g done/\∀r,r∈done↔r∈ig)
theorem uJ.pure {w w':World} {lo ib:Nat} {ig:List aa} (h:uJ w lo ib ig) (hb:Below w.heap.size w w'):uJ w' lo ib ig:=by
 obtain ⟨h0,h|⟨tb,m,g,sz,done,h1,h2,h3,h4,h5⟩⟩:=h
 · exact ⟨h0, .inl ⟨ax h.1 hb,h.2⟩⟩
 exact ⟨h0, .inr ⟨tb,m,g,sz,done,ax h1 hb,h2.pure hb,h3,h4,h5⟩⟩
theorem lX (ig:List aa) {p:aa} (hp:cY p= []):bV ig p=false:=by
 rw [Bool.eq_false_iff];intro h;obtain ⟨r,_,h2⟩:=(lW ig p).1 h;exact ((oK r p).1 h2).2.1 hp
theorem Q8 {w:World} {lo bx tb m sz:Nat} {g:gF} (h:Trie w lo bx tb m g sz) (s:aa) (hm:m<=1000) (hs:s.size<=140737488351232):
 ∃o,LP g (cY s) o/\(∀kk vv,o=some (kk,vv)->cY kk<+:cY s/\g (cY kk)=some (kk,vv))/\Calls Tryz.prog 73 #[.pointer (some ⟨tb,0,none⟩), .string s] w fun e w'=>e= .returned (jT o)/\Below w.heap.size w w':=by
 obtain ⟨n0,leaf,ev,sub,hT,hW,hl,hnd,hb,hg,hk⟩:=h;have h1:=xN (leaf:=leaf) hW s.data.toList;rw [show bZ leaf sub=g from funext hg] at h1;refine ⟨_,h1,fun kk vv ho=> ?_,f73 tb n0 leaf ev sub sz m s w hT hW hl hm hs⟩;rcases h1 with ⟨h2,_⟩|⟨p,x,h2,h3,h4,_⟩
 · rw [ho] at h2;cases h2
 rw [ho] at h2;obtain rfl:=Option.some.inj h2;have:=hk p kk vv h4;rw [cY,this];exact ⟨h3,h4⟩
theorem I6 (b:Bool) (w:World):(Instr.typeAssert (.iface 4 (.bool b)) 20 4 false).run Tryz.prog w= .ok (.bool b) w:=by cases b<;>kernel_rfl
theorem Fm (b:Bool) (w:World):(Instr.typeAssert (.iface 4 (.bool b)) 20 4 true).run Tryz.prog w= .ok (.tuple #[.bool b, .bool true]) w:=by cases b<;>kernel_rfl
theorem Fp (w:World):(Instr.typeAssert .nilIface 20 4 true).run Tryz.prog w= .ok (.tuple #[.bool false, .bool false]) w:=by kernel_rfl
theorem f106 (lo ib:Nat) (ig:List aa) (p:aa) (w:World) (h:uJ w lo ib ig) (hp:p.size<=140737488351232):
 Calls Tryz.prog 106 #[.pointer (some ⟨ib,0,none⟩), .string p] w fun e w'=>e= .returned (.bool (bV ig p))/\Below w.heap.size w w':=by
 cases hpe:p.toList.isEmpty
 · have hne:Hid (cY p≠ []):=Y0 (by rw [ByteArray.toList_eq] at hpe;simpa using hpe);obtain ⟨h0,h|⟨tb,m,g,sz,done,h1,h2,h3,h4,h5⟩⟩:=h
   · have HI:=Y0 (h.2 p);have hc:=cellAt (j:=0) h.1 rfl;clear h;rw [HI.out];go_enter func106,ntmps106;go_wp2;go_ret;exact ⟨rfl,Below.refl _ _⟩
   have hc:=cellAt (j:=0) h1 rfl;have H2:=Y0 h2;have H4:=Y2 h4 h5;clear h1 h2 h4 h5;obtain ⟨o,hL,hk,hcall⟩:=Q8 H2.out p (by omega) hp;have BD:=Y0 (H4.out.1.ignored H4.out.2 hne.out hL);have HC:=Y0 hcall;clear hcall
   cases o with
   | none=>
     rw [<-BD.out];go_enter func106,ntmps106;go_wp2_with (go_at_call 73;refine HC.out.mono ?_;rintro e w1 ⟨rfl,hB⟩;simp only [jT]);go_ret
     exact ⟨rfl,hB⟩
   | some x=>
     obtain ⟨kk,vv⟩:=x;obtain ⟨hk1,hk2⟩:=hk kk vv rfl;obtain ⟨b,hv⟩:=H4.out.1.val _ _ hk2;simp only at hv;subst hv;rw [<-BD.out];have hks:(p.toList==kk.toList)=(cY p==cY kk):=by rw [ByteArray.toList_eq,ByteArray.toList_eq]
     cases b<;>cases hq:(p.toList==kk.toList)
     all_goals
      have hta:=I6;rw [hq] at hks;have HKS:=Y0 hks;clear hks;go_enter func106,ntmps106;go_wp2_with (go_at_call 73;refine HC.out.mono ?_;rintro e w1 ⟨rfl,hB⟩;simp only [jT]);go_ret;exact ⟨aq (by simp [Q4,<-HKS.out]),hB⟩
 have he:cY p= []:=by rw [ByteArray.toList_eq] at hpe;simpa using hpe
 rw [lX ig he];go_enter func106,ntmps106;go_wp2;go_ret;exact ⟨rfl,Below.refl _ _⟩
theorem gW (i:aa):ends i ⟨#[42]⟩=(aw i).2:=by
 have key:ends i ⟨#[42]⟩=true↔∃t:Bytes,cY i=t++ [42]:=by
  unfold ends;rw [Bool.and_eq_true,decide_eq_true_eq,beq_iff_eq,ByteArray.toList_eq,ByteArray.toList_eq];have hs:(⟨#[42]⟩:aa).size=1:=rfl;rw [hs];have e:(i.extract (i.size - 1) i.size).data.toList=(cY i).drop (i.size - 1):=fw i (i.size - 1);rw [e];constructor
  · rintro ⟨h1,h2⟩
    exact ⟨(cY i).take (i.size - 1),by
     have h3:=List.take_append_drop (i.size - 1) (cY i);rw [h2] at h3;exact h3.symm⟩
  rintro ⟨t,h⟩;have hl:i.size=t.length+1:=by rw [<-size_data i];show (cY i).length=_;rw [h];simp
  refine ⟨by omega, ?_⟩;rw [h,hl];simp
 rcases cN i with ⟨h1,h2⟩|⟨h1,h2⟩
 · rw [h1,Bool.eq_false_iff];intro h;obtain ⟨t,ht⟩:=key.1 h;exact h2 t ht
 rw [h1];exact key.2 ⟨_,h2⟩
theorem Ac {i:aa} (h:cY i= [42]):cY (aw i).1= []:=by
 rcases cN i with ⟨_,h2⟩|⟨_,h2⟩
 · exact absurd h (h2 [])
 rw [h] at h2
 cases hh:cY (aw i).1 with
 | nil=>rfl
 | cons a l=>rw [hh] at h2;have:=congrArg List.length h2;simp at this
theorem Ae {i:aa} (h:cY i= []):cY (aw i).1= []:=by
 rcases cN i with ⟨h1,_⟩|⟨_,h2⟩
 · rw [h1];exact h
 rw [h] at h2;have:=congrArg List.length h2;simp at this
theorem CP {i:aa} (h1:cY i≠ [42]) (h2:cY i≠ []):cY (aw i).1≠ []:=by
 rcases cN i with ⟨h3,_⟩|⟨_,h4⟩
 · rw [h3];exact h2
 intro h;rw [h] at h4;exact h1 h4
theorem Fq {i:aa} (hw:(aw i).2=true):i.extract 0 (i.size - 1)=(aw i).1/\0<i.size:=by
 unfold aw at hw ⊢;by_cases h:0<i.size
 · rw [dif_pos h] at hw ⊢;by_cases hc:i[i.size - 1].toNat=42
   · rw [if_pos hc];exact ⟨rfl,h⟩
   rw [if_neg hc] at hw;cases hw
 rw [dif_neg h] at hw;cases hw
theorem Q9 (q:Nat) (h:q<=1000000):IntKind.i64.wrap (q:Int)=(q:Int):=by
 simp only [IntKind.wrap,IntKind.signed,IntKind.bits];simp;omega
theorem Ra {g:gF} {s:aa} {v:Value}:∃p,(g.put s v p).isSome:=⟨cY s,by simp [gF.put]⟩
theorem Trie.grown {w w':World} {lo bx tb m sz:Nat} {g:gF} (h:Trie w lo bx tb m g sz) {r:Option Nat} (hg:w.grownBy w' r) (hr:∀k,r=some k->k<lo):Trie w' lo bx tb m g sz:=by
 obtain ⟨n0,leaf,ev,sub,hT,h1,h2,h3,h4,h5⟩:=h;have hn:=Trie.node (lo:=0) (bx:=0) (m:=0) (g:=fun _=>none) hT;have hne:∀b∈tb::bF n0 leaf ev sub,r≠some b:=fun b hb e=>by have h6:=hr b e;have h7:=(h4 b hb).1;omega
 have hN:cA w' n0 ⟨#[]⟩ leaf ev sub:=hn.keep fun b hb'=>hg.block b (hn.lt b hb') (fun e=>hne b (List.mem_cons_of_mem _ hb') e.symm)
 have ht:w'.heap[tb]?=some (.cells #[.pointer (some ⟨n0,0,none⟩), .int .i64 sz] 241 (0,0)):=by
  rw [hg.block tb (Array.getElem?_eq_some_iff.1 hT.tree).1 (fun e=>hne tb (List.mem_cons_self ..) e.symm)];exact hT.tree
 exact ⟨n0,leaf,ev,sub,⟨ht,hN.1,hN.2.1,hN.2.2.1,hN.2.2.2⟩,h1,h2,h3,h4,h5⟩
theorem f37 {Fo:Nat->Prop} {base:Nat} (v:Value) (ig:List aa) (w:World) (hO:Own aD base 9 Fo w v ig) (hl:ig.length<=8) (hs:∀x∈ig,x.size<=1000000) (hok:∀x∈ig,mB x):
 Calls Tryz.prog 37 #[v] w fun e w'=>∃ib,e= .returned (.pointer (some ⟨ib,0,none⟩))/\uJ w' w.heap.size ib ig/\w.grownBy w' v.ownBlock/\ib<w'.heap.size:=by
 obtain ⟨A,cap,hv⟩:=hO.form;generalize hn:ig.length=n at hv hl;subst hv;by_cases h0:n=0
 · have BD:ig= []:=List.eq_nil_of_length_eq_zero (hn.trans h0);subst BD;subst h0;go_enter func37,ntmps37;go_wp2;go_ret;refine ⟨w.heap.size,rfl,⟨Nat.le_refl _, .inl ⟨heap_alloc_new _ _,fun s=>rfl⟩⟩,⟨rfl,rfl,rfl,by simp,fun b hb _=>Below.heap_alloc _ _ b hb⟩,by simp⟩
 have GF:=Y0 hO;have HS:=Y0 hs;have Rb:=Y0 hok;clear hO hs hok;have h0':¬((n:Int)=0):=by omega
 go_enter func37,ntmps37;have hvb:Hid (∀k,(Value.slice A n cap).ownBlock=some k->k<w.heap.size):=Y0 (fun k hk=>(ak GF.out hk).2.2.1);go_wp2_with (first|(go_at_call 71;refine (QK _).mono ?_;rintro e w1 ⟨tb,rfl,hT,az⟩;have HT:=Y2 hT az;clear hT az)|(go_at_call 72;go_loud (refine (f72 (base:=base) (F:=Fo) _ ig _ (by have h:=GF.out.pure (HT.out.2.alloc HT.out.2.size (.cells #[.pointer (some ⟨tb,0,none⟩)] 182));exact h) (by omega)).mono ?_;rintro e w2 ⟨rfl,xs,hp,hsrt,ja,hG⟩;have H2:=Y4 hp hsrt ja hG;clear hp hsrt ja hG)));obtain ⟨ib,hib⟩:∃ib,ib=w1.heap.size:=⟨_,rfl⟩;rw [<-hib];have hlo:w.heap.size<=ib:=by rw [hib];exact HT.out.2.size
 have hb1:Below w1.heap.size w1 (w1.alloc (.cells #[.pointer (some ⟨tb,0,none⟩)] 182)):=(Below.refl _ _).alloc (Nat.le_refl _) _
 have Ux:Hid (Trie w2 w.heap.size ib tb 0 (fun _=>none) 0):=Y0 (by
  rw [hib];exact (HT.out.1.pure hb1).grown H2.out.2.2.2 hvb.out)
 have hsz1:ib<(w1.alloc (.cells #[.pointer (some ⟨tb,0,none⟩)] 182)).heap.size:=by rw [hib];simp
 have hx2:w2.heap[ib]?=some (.cells #[.pointer (some ⟨tb,0,none⟩)] 182 (0,0)):=by
  rw [H2.out.2.2.2.block ib hsz1 (fun e=>by have:=hvb.out ib e.symm;omega),hib];exact heap_alloc_new _ _
 have jr:ib<w2.heap.size:=(Array.getElem?_eq_some_iff.1 hx2).1;have hxl:xs.length=n:=by rw [H2.out.1.length_eq,hn]
 have ja:=aW H2.out.2.2.1;rw [hxl] at ja;obtain ⟨g,cap',hA,_,_⟩:=ja.form (by omega);simp only [Value.slice.injEq,true_and] at hA;obtain ⟨rfl,rfl⟩:=hA;have Z1:g<w.heap.size:=hvb.out g rfl;have yO:Hid (eW base 9 w2 g cap xs):=Y0 (by unfold eW;rw [hxl];exact ja);have HX2:=Y0 hx2
 have Rc:Hid (w.grownBy w2 (some g)):=Y0 ⟨H2.out.2.2.2.os.trans HT.out.2.os,H2.out.2.2.2.tape.trans HT.out.2.tape,H2.out.2.2.2.output.trans HT.out.2.output,by omega,fun b hb hne=>by
  rw [H2.out.2.2.2.block b (by omega) hne,Below.heap_alloc _ _ b (by omega)];exact HT.out.2.block b hb⟩
 have Re:Hid (∀r,r∈xs↔r∈ig):=Y0 (fun r=>H2.out.1.mem_iff);have Xv:Hid (xs.Pairwise (fun a b=>qD b a=false)):=Y0 H2.out.2.1;clear ja hx2 hb1 hsz1 H2 hib;go_loopw [23] (fun i wr=>∃(k m sz:Nat) (gt:gF),i= .int .i64 k/\k<=n/\Hid (Trie wr w.heap.size ib tb m gt sz/\m<=k/\sz<=k/\gy 4 gt (xs.take k)/\Below w.heap.size w2 wr/\wr.heap[ib]?=some (.cells #[.pointer (some ⟨tb,0,none⟩)] 182 (0,0))/\((∃p,(gt p).isSome)->1<=sz))) (fun i _=>n - (intOf i).toNat)
 case atStart=>exact ⟨0,0,0,fun _=>none,rfl,by omega,Y0 ⟨Ux.out,Nat.le_refl _,Nat.le_refl _,gy.nil 4,Below.refl _ _,HX2.out,fun ⟨p,hp⟩=>by cases hp⟩⟩
 obtain ⟨k,m,sz,gt,rfl,hk,hc⟩:=hrel;have hbc:wr.cell? ⟨ib,0,none⟩=some (.pointer (some ⟨tb,0,none⟩)):=cellAt (j:=0) hc.out.2.2.2.2.2.1 rfl;by_cases hlt:k<n
 · have hlt':(k:Int)<(n:Int):=by omega
   have hkx:xs[k]?=some xs[k]:=List.getElem?_eq_getElem (by omega)
   have hcell:wr.cell? ⟨g,k,none⟩=some (.string xs[k]):=by
    have h1:=yO.out.at_ hkx;rw [hc.out.2.2.2.2.1.cell Z1];exact h1
   have hmem:xs[k]∈xs:=List.getElem_mem (by omega);have hok:=Y0 (Rb.out _ ((Re.out _).1 hmem));have MN:=HS.out _ ((Re.out _).1 hmem);have htk:Hid (xs.take (k+1)=xs.take k++ [xs[k]]):=Y0 (List.take_succ_eq_append_getElem (by omega));have ER:Hid (∀j∈xs.take k,mB j):=Y0 (fun j hj=>Rb.out _ ((Re.out _).1 (List.mem_of_mem_take hj)))
   have hsrt:Hid (∀j∈xs.take k,qD xs[k] j=false):=Y0 (fun j hj=>by
    have h1:=Xv.out;rw [<-List.take_append_drop k xs] at h1;refine (List.pairwise_append.1 h1).2.2 j hj xs[k] ?_;rw [List.drop_eq_getElem_cons (by omega)];exact List.mem_cons_self ..)
   have hsw:ib<wr.heap.size:=(Array.getElem?_eq_some_iff.1 hc.out.2.2.2.2.2.1).1;have hcw:w.heap.size<=wr.heap.size:=by omega
   have hm8:m<=k:=hc.out.2.1;have ke:sz<=k:=hc.out.2.2.1;generalize xs[k]=i at*;have hta:=Fm;have aax:=Fp;cases hst:(i.toList== [42])
   · cases Rf:i.toList.isEmpty
     · have qR:cY i≠ [42]:=by rw [ByteArray.toList_eq] at hst;simpa using hst
       have qw:cY i≠ []:=by rw [ByteArray.toList_eq] at Rf;simpa using Rf
       have hne:=Y0 (CP qR qw);have HN2:=Y0 qw;obtain ⟨o,hL,hk1,hcall⟩:=Q8 hc.out.1 i (by omega) (by omega);have HC:=Y0 hcall;have HL:=Y0 hL;have hval:∀kk vv,o=some (kk,vv)->∃b,vv= .iface 4 (.bool b):=fun kk vv h=>hc.out.2.2.2.1.val _ _ (hk1 kk vv h).2
       clear hcall hL hk1 qR qw;cases hws:(aw i).2
       · have MO:=Y0 hws
         cases o with
         | none=>
           clear hval;go_wp2_with (first|(go_at_call 73;refine HC.out.mono ?_;rintro e w3 ⟨rfl,bb⟩;simp only [jT];have Fs:=Y0 (hc.out.1.pure bb);have Af:=ag hbc bb;have hx3:=Y0 (ax hc.out.2.2.2.2.2.1 bb);have CQ:=Y0 (Nat.lt_of_lt_of_le hsw bb.size);have dK:=Y0 (hc.out.2.2.2.2.1.trans (bb.mono hcw));clear bb)|(go_at_call 74;refine (f74 i ⟨#[42]⟩ _ (by omega) (by show (1:Nat)<=_;omega)).mono ?_;rw [gW,hws];rintro e w4 ⟨rfl,rfl⟩)|(go_at_call 75;refine (IU w.heap.size ib tb m sz gt i 4 (.bool false) _ (Fs.out) (by have:=hlo;have:=CQ.out;omega) (CQ.out) (by omega) MN (by omega)).mono ?_;rintro e w5 ⟨⟨v5,rfl⟩,mO,bz,wY⟩;have Fu:w5.cell? ⟨ib,0,none⟩=some (.pointer (some ⟨tb,0,none⟩)):=cellAt (j:=0) (wY.trans hx3.out) rfl;have H5:=Y3 mO bz wY;clear mO bz wY))
           refine ⟨⟨k+1,m+1,_,gt.put i (.iface 4 (.bool false)),by go_num,by omega,Y0 ⟨H5.out.1,by omega,by split<;>omega,by rw [htk.out];exact hc.out.2.2.2.1.plain MO.out HN2.out HL.out rfl,dK.out.trans (H5.out.2.1),H5.out.2.2.trans hx3.out,fun _=>by
            split
            · rename_i h;exact hc.out.2.2.2.2.2.2 ⟨_,h⟩
            omega⟩⟩,by simp [intOf];omega⟩
         | some x=>
           obtain ⟨kk,vv⟩:=x;obtain ⟨b,rfl⟩:=hval kk vv rfl;clear hval;cases b
           · go_wp2_with (first|(go_at_call 73;refine HC.out.mono ?_;rintro e w3 ⟨rfl,bb⟩;simp only [jT];have Fs:=Y0 (hc.out.1.pure bb);have Af:=ag hbc bb;have hx3:=Y0 (ax hc.out.2.2.2.2.2.1 bb);have CQ:=Y0 (Nat.lt_of_lt_of_le hsw bb.size);have dK:=Y0 (hc.out.2.2.2.2.1.trans (bb.mono hcw));clear bb)|(go_at_call 74;refine (f74 i ⟨#[42]⟩ _ (by omega) (by show (1:Nat)<=_;omega)).mono ?_;rw [gW,hws];rintro e w4 ⟨rfl,rfl⟩)|(go_at_call 75;refine (IU w.heap.size ib tb m sz gt i 4 (.bool false) _ (Fs.out) (by have:=hlo;have:=CQ.out;omega) (CQ.out) (by omega) MN (by omega)).mono ?_;rintro e w5 ⟨⟨v5,rfl⟩,mO,bz,wY⟩;have Fu:w5.cell? ⟨ib,0,none⟩=some (.pointer (some ⟨tb,0,none⟩)):=cellAt (j:=0) (wY.trans hx3.out) rfl;have H5:=Y3 mO bz wY;clear mO bz wY))
             refine ⟨⟨k+1,m+1,_,gt.put i (.iface 4 (.bool false)),by go_num,by omega,Y0 ⟨H5.out.1,by omega,by split<;>omega,by rw [htk.out];exact hc.out.2.2.2.1.plain MO.out HN2.out HL.out rfl,dK.out.trans (H5.out.2.1),H5.out.2.2.trans hx3.out,fun _=>by
              split
              · rename_i h;exact hc.out.2.2.2.2.2.2 ⟨_,h⟩
              omega⟩⟩,by simp [intOf];omega⟩
           go_wp2_with (first|(go_at_call 73;refine HC.out.mono ?_;rintro e w3 ⟨rfl,bb⟩;simp only [jT];have Fs:=Y0 (hc.out.1.pure bb);have Af:=ag hbc bb;have hx3:=Y0 (ax hc.out.2.2.2.2.2.1 bb);have CQ:=Y0 (Nat.lt_of_lt_of_le hsw bb.size);have dK:=Y0 (hc.out.2.2.2.2.1.trans (bb.mono hcw));clear bb)|(go_at_call 74;refine (f74 i ⟨#[42]⟩ _ (by omega) (by show (1:Nat)<=_;omega)).mono ?_;rw [gW,hws];rintro e w4 ⟨rfl,rfl⟩));refine ⟨⟨k+1,m,sz,gt,by go_num,by omega,Y0 ⟨Fs.out,by omega,by omega,by rw [htk.out];exact gy.keep hc.out.2.2.2.1 i (fun _=> .inl (by obtain ⟨q,k',h1,h2⟩:=rH hc.out.2.2.2.1 HL.out rfl;exact ⟨q,k',by rcases cN i with ⟨e,_⟩|⟨e,_⟩;(rw [e];exact h1);(rw [e] at MO;cases MO.out),h2⟩)),dK.out,hx3.out,hc.out.2.2.2.2.2.2⟩⟩,by simp [intOf];omega⟩
       have MO:=Y0 hws;obtain ⟨Xw,hpos⟩:=Fq hws;have MP:Hid ((aw i).1.size<=1000000):=Y0 (Nat.le_trans (po i) MN);obtain ⟨q,hq⟩:∃q,q=i.size - 1:=⟨_,rfl⟩;rw [<-hq] at Xw
       have hsub:IntKind.i64.wrap ((i.size:Int) - 1)=(q:Int):=by
        rw [show (i.size:Int) - 1=(q:Int) by omega];exact Q9 q (by omega)
       have hq2:(q:Int)<=(i.size:Int):=by omega
       have MF:q<=i.size:=by omega
       clear hq hpos
       cases o with
       | none=>
         clear hval;go_wp2_with (first|(go_at_call 73;refine HC.out.mono ?_;rintro e w3 ⟨rfl,bb⟩;simp only [jT];have Fs:=Y0 (hc.out.1.pure bb);have Af:=ag hbc bb;have hx3:=Y0 (ax hc.out.2.2.2.2.2.1 bb);have CQ:=Y0 (Nat.lt_of_lt_of_le hsw bb.size);have dK:=Y0 (hc.out.2.2.2.2.1.trans (bb.mono hcw));clear bb)|(go_at_call 74;refine (f74 i ⟨#[42]⟩ _ (by omega) (by show (1:Nat)<=_;omega)).mono ?_;rw [gW,hws];rintro e w4 ⟨rfl,rfl⟩));go_region_held3 (fun W=>W.cell? ⟨ib,0,none⟩=some (.pointer (some ⟨tb,0,none⟩))) (first|assumption|exact Af|exact Fu) (first|(go_at_call 75;refine (IU w.heap.size ib tb m sz gt (aw i).1 4 (.bool true) _ (Fs.out.pure ((Below.refl _ _).drew)) (Nat.le_of_lt (Nat.lt_of_le_of_lt hlo CQ.out)) CQ.out (by omega) MP.out (by omega)).mono ?_;rintro e w5 ⟨⟨v5,rfl⟩,mO,bz,wY⟩;have Fu:w5.cell? ⟨ib,0,none⟩=some (.pointer (some ⟨tb,0,none⟩)):=cellAt (j:=0) (wY.trans hx3.out) rfl;have H5:=Y3 mO bz wY;clear mO bz wY));go_wp2
         refine ⟨⟨k+1,m+1,_,gt.put (aw i).1 (.iface 4 (.bool true)),by go_num,by omega,Y0 ⟨H5.out.1,by omega,by split<;>omega,by rw [htk.out];exact hc.out.2.2.2.1.wild ER.out hok.out hsrt.out MO.out hne.out HL.out rfl,dK.out.drew.trans H5.out.2.1,H5.out.2.2.trans hx3.out,fun _=>by
          split
          · rename_i h;exact hc.out.2.2.2.2.2.2 ⟨_,h⟩
          omega⟩⟩,by simp [intOf];omega⟩
       | some x=>
         obtain ⟨kk,vv⟩:=x;obtain ⟨b,rfl⟩:=hval kk vv rfl;clear hval;cases b
         · go_wp2_with (first|(go_at_call 73;refine HC.out.mono ?_;rintro e w3 ⟨rfl,bb⟩;simp only [jT];have Fs:=Y0 (hc.out.1.pure bb);have Af:=ag hbc bb;have hx3:=Y0 (ax hc.out.2.2.2.2.2.1 bb);have CQ:=Y0 (Nat.lt_of_lt_of_le hsw bb.size);have dK:=Y0 (hc.out.2.2.2.2.1.trans (bb.mono hcw));clear bb)|(go_at_call 74;refine (f74 i ⟨#[42]⟩ _ (by omega) (by show (1:Nat)<=_;omega)).mono ?_;rw [gW,hws];rintro e w4 ⟨rfl,rfl⟩));go_region_held3 (fun W=>W.cell? ⟨ib,0,none⟩=some (.pointer (some ⟨tb,0,none⟩))) (first|assumption|exact Af|exact Fu) (first|(go_at_call 75;refine (IU w.heap.size ib tb m sz gt (aw i).1 4 (.bool true) _ (Fs.out.pure ((Below.refl _ _).drew)) (Nat.le_of_lt (Nat.lt_of_le_of_lt hlo CQ.out)) CQ.out (by omega) MP.out (by omega)).mono ?_;rintro e w5 ⟨⟨v5,rfl⟩,mO,bz,wY⟩;have Fu:w5.cell? ⟨ib,0,none⟩=some (.pointer (some ⟨tb,0,none⟩)):=cellAt (j:=0) (wY.trans hx3.out) rfl;have H5:=Y3 mO bz wY;clear mO bz wY));go_wp2
           refine ⟨⟨k+1,m+1,_,gt.put (aw i).1 (.iface 4 (.bool true)),by go_num,by omega,Y0 ⟨H5.out.1,by omega,by split<;>omega,by rw [htk.out];exact hc.out.2.2.2.1.wild ER.out hok.out hsrt.out MO.out hne.out HL.out rfl,dK.out.drew.trans H5.out.2.1,H5.out.2.2.trans hx3.out,fun _=>by
            split
            · rename_i h;exact hc.out.2.2.2.2.2.2 ⟨_,h⟩
            omega⟩⟩,by simp [intOf];omega⟩
         go_wp2_with (first|(go_at_call 73;refine HC.out.mono ?_;rintro e w3 ⟨rfl,bb⟩;simp only [jT];have Fs:=Y0 (hc.out.1.pure bb);have Af:=ag hbc bb;have hx3:=Y0 (ax hc.out.2.2.2.2.2.1 bb);have CQ:=Y0 (Nat.lt_of_lt_of_le hsw bb.size);have dK:=Y0 (hc.out.2.2.2.2.1.trans (bb.mono hcw));clear bb)|(go_at_call 74;refine (f74 i ⟨#[42]⟩ _ (by omega) (by show (1:Nat)<=_;omega)).mono ?_;rw [gW,hws];rintro e w4 ⟨rfl,rfl⟩));refine ⟨⟨k+1,m,sz,gt,by go_num,by omega,Y0 ⟨Fs.out,by omega,by omega,by rw [htk.out];exact hc.out.2.2.2.1.skip ER.out HL.out rfl,dK.out,hx3.out,hc.out.2.2.2.2.2.2⟩⟩,by simp [intOf];omega⟩
     have qw:cY i= []:=by rw [ByteArray.toList_eq] at Rf;simpa using Rf
     have hnn:=Y0 (Ae qw);clear qw;go_wp2;refine ⟨⟨k+1,m,sz,gt,by go_num,by omega,Y0 ⟨hc.out.1,by omega,by omega,by rw [htk.out];exact hc.out.2.2.2.1.none hnn.out,hc.out.2.2.2.2.1,hc.out.2.2.2.2.2.1,hc.out.2.2.2.2.2.2⟩⟩,by simp [intOf];omega⟩
   have qw:cY i= [42]:=by rw [ByteArray.toList_eq] at hst;simpa using hst
   have hnn:=Y0 (Ac qw);clear qw;go_wp2;refine ⟨⟨k+1,m,sz,gt,by go_num,by omega,Y0 ⟨hc.out.1,by omega,by omega,by rw [htk.out];exact hc.out.2.2.2.1.none hnn.out,hc.out.2.2.2.2.1,hc.out.2.2.2.2.2.1,hc.out.2.2.2.2.2.2⟩⟩,by simp [intOf];omega⟩
 have kJ:k=n:=by omega
 subst kJ;have hT:=Y0 hc.out.1;have hall:xs.take k=xs:=List.take_of_length_le (by omega);have hr:=hc.out.2.2.2.1;rw [hall] at hr;have hR:=Y0 hr;have oz:Hid (w.grownBy wr (some g)):=Y0 ⟨hc.out.2.2.2.2.1.os.trans Rc.out.os,hc.out.2.2.2.2.1.tape.trans Rc.out.tape,hc.out.2.2.2.2.1.output.trans Rc.out.output,Nat.le_trans Rc.out.size hc.out.2.2.2.2.1.size,fun b hb hne=>(hc.out.2.2.2.2.1.block b hb).trans (Rc.out.block b hb hne)⟩;have hfz:wr.frozen? ⟨ib,0,none⟩=false:=frozenAt (j:=0) hc.out.2.2.2.2.2.1;have hsw:ib<wr.heap.size:=(Array.getElem?_eq_some_iff.1 hc.out.2.2.2.2.2.1).1;have hm8:m<=k:=hc.out.2.1;clear hall hr;by_cases hz:sz=0
 · have hnone:Hid (∀p,gt p=none):=Y0 (fun p=>by
    cases hp:gt p with
    | none=>rfl
    | some x=>have:=hc.out.2.2.2.2.2.2 ⟨p,by rw [hp];rfl⟩;omega)
   subst hz;go_wp2_with (go_at_call 76;refine (QM w.heap.size ib tb m _ gt _ hT.out).mono ?_;rintro e w4 ⟨rfl,rfl⟩);go_ret;refine ⟨ib,rfl,⟨hlo, .inl ⟨heap_setCell_same _ ib 0 _ _ _ hc.out.2.2.2.2.2.1,fun s=> ?_⟩⟩,⟨?_, ?_, ?_, ?_,fun b hb hne=> ?_⟩,by simpa using hsw⟩
   · by_cases hs:cY s= []
     · exact lX ig hs
     have Uy:LP gt (cY s) none:= .inl ⟨rfl,fun p _=>hnone.out p⟩;exact (hR.out.ignored Re.out hs Uy).symm
   · exact ((Below.refl 0 _).setCell (Nat.zero_le _) _).os.trans oz.out.os
   · exact ((Below.refl 0 _).setCell (Nat.zero_le _) _).tape.trans oz.out.tape
   · exact ((Below.refl 0 _).setCell (Nat.zero_le _) _).output.trans oz.out.output
   · simpa using oz.out.size
   rw [heap_setCell_other _ ⟨ib,0,none⟩ b _ (by show b≠ib;omega)];exact oz.out.block b hb hne
 have hz':¬((sz:Int)=0):=by omega
 go_wp2_with (go_at_call 76;refine (QM w.heap.size ib tb m sz gt _ hT.out).mono ?_;rintro e w4 ⟨rfl,rfl⟩);go_ret;exact ⟨ib,rfl,⟨hlo, .inr ⟨tb,m,gt,sz,xs,hc.out.2.2.2.2.2.1,hT.out,by omega,hR.out,Re.out⟩⟩,oz.out,hsw⟩
theorem ah.below {β:Type} {f:β->Value} {w w':World} {m:Nat} {l:List (aa × β)} (h:ah f w m l) {B:Nat} (hb:Below B w w') (hm:m<B):ah f w' m l:=h.keep (hb.block m hm)
theorem I7 (w:World):(Instr.makeMap 91 none).run Tryz.prog w= .ok (.map (some w.heap.size)) (w.alloc (.map #[] 0)):=by kernel_rfl
theorem Below.of_grown {w w':World} {r:Option Nat} {B:Nat} (h:w.grownBy w' r) (hr:∀k,r=some k->B<=k) (hB:B<=w.heap.size:=by omega):Below B w w':=⟨h.os,h.tape,h.output,h.size,fun k hk=>h.block k (by omega) (fun e=>by have:=hr k e.symm;omega)⟩
def aO (b:Bool):Value:= .bool b
theorem f107 {F:Nat->Prop} (v1 v2:Value) (s1 s2:List aa) (w:World) (h1:bK F w v1 s1) (h2:bK F w v2 s2) (lZ:s1.length<=10000) (hl2:s2.length<=10000) (hF:∀b,F b->b<w.heap.size):
 Calls Tryz.prog 107 #[v1,v2] w fun e w'=>∃v' L,e= .returned v'/\bK F w' v' L/\(∀x,x∈L↔x∈s1++s2)/\L.length<=s1.length+s2.length/\Below w.heap.size w w':=by
 obtain ⟨A1,c1,hv1⟩:=h1.form;obtain ⟨A2,c2,hv2⟩:=h2.form;generalize qR:s1.length=n1 at*;generalize qw:s2.length=n2 at*;subst hv1 hv2;have hmk:=I7;have HF:=Y0 hF;have H1:=Y0 h1;have H2:=Y0 h2;have ya:Hid (Below w.heap.size w (w.alloc (.map #[] 0))):=Y0 ((Below.refl _ _).alloc (Nat.le_refl _) _);clear hF h1 h2;by_cases z1:n1=0
 · have e1:s1= []:=List.eq_nil_of_length_eq_zero (qR.trans z1);subst e1;by_cases z2:n2=0
   · have e2:s2= []:=List.eq_nil_of_length_eq_zero (qw.trans z2);subst e2;subst z1 z2;go_enter func107,ntmps107;go_wp2;go_ret;exact ⟨_, [],rfl,Rd.nil _ _ _ _ _ (by simp [maxLen]),by simp,by simp,ya.out⟩
   have hz2:(0:Int)<(n2:Int):=by omega
   subst z1;go_enter func107,ntmps107;go_wp2;go_ret;exact ⟨_,s2,rfl,H2.out.pure ya.out,by simp,by omega,ya.out⟩
 have hz1:(0:Int)<(n1:Int):=by omega
 by_cases z2:n2=0
 · have e2:s2= []:=List.eq_nil_of_length_eq_zero (qw.trans z2);subst e2;subst z2;go_enter func107,ntmps107;go_wp2;go_ret;exact ⟨_,s1,rfl,H1.out.pure ya.out,by simp,by omega,ya.out⟩
 have hz2:(0:Int)<(n2:Int):=by omega
 go_enter func107,ntmps107;go_wp2;go_loopw [22] (fun i wr=>∃(k:Nat) (l:List (aa × Bool)),i= .int .i64 k/\k<=n1/\Hid (ah aO wr w.heap.size l/\Below w.heap.size w wr/\l.length<=k/\∀x,x∈af l↔x∈s1.take k)) (fun i _=>n1 - (intOf i).toNat)
 case atStart=>exact ⟨0, [],rfl,by omega,Y0 ⟨ah.made w aO,ya.out,by simp,by simp [af]⟩⟩
 obtain ⟨k,l,rfl,hk,hc⟩:=hrel;by_cases hlt:k<n1
 · have hlt':(k:Int)<(n1:Int):=by omega
   obtain ⟨g,off,hA,-,hg,hcell⟩:=H1.out.at1 (i:=k) (by omega);subst hA
   replace hcell:=ag hcell hc.out.2.1
   have htk:Hid (s1.take (k+1)=s1.take k++ [s1[k]]):=Y0 (List.take_succ_eq_append_getElem (by omega));generalize s1[k]=y at*;go_wp2_with (refine aM (f:=aO) (b:=true) rfl _ _ _ 91 rfl _ _ underlying91 underlying9 rfl hc.out.1 rfl rfl ?_;intro w2 yb oz hs2;go_frame);refine ⟨⟨k+1,bN l y true,by go_num,by omega,Y0 ⟨yb,hc.out.2.1.grown oz hc.out.2.1.size (fun b e=>by injection e with e;omega),by have:=kr (l:=l) (s:=y) (v:=true);have:=hc.out.2.2.1;omega,fun x=> ?_⟩⟩,by simp [intOf];omega⟩;rw [bH,hc.out.2.2.2,htk.out,List.mem_append,List.mem_singleton];exact Or.comm
 have kJ:k=n1:=by omega
 have Ez:s1.take k=s1:=List.take_of_length_le (by omega);have hc1:=hc.out;rw [Ez] at hc1;obtain ⟨wo,hwo⟩:∃W,W=wr:=⟨_,rfl⟩;subst hwo;have HC:=Y0 hc1;clear hc hc1 Ez;subst kJ;go_wp2;go_loopw [31] (fun i wr=>∃(j:Nat) (l':List (aa × Bool)),i= .int .i64 j/\j<=n2/\Hid (ah aO wr w.heap.size l'/\Below w.heap.size w wr/\l'.length<=k+j/\∀x,x∈af l'↔x∈s1\/x∈s2.take j)) (fun i _=>n2 - (intOf i).toNat)
 case atStart=>exact ⟨0,l,rfl,by omega,Y0 ⟨HC.out.1,HC.out.2.1,HC.out.2.2.1,by simpa using HC.out.2.2.2⟩⟩
 obtain ⟨j,l',rfl,hj,hd⟩:=hrel;by_cases lR:j<n2
 · have lK:(j:Int)<(n2:Int):=by omega
   obtain ⟨g,off,hA,-,hg,hcell⟩:=H2.out.at1 (i:=j) (by omega);subst hA
   replace hcell:=ag hcell hd.out.2.1
   have htk:Hid (s2.take (j+1)=s2.take j++ [s2[j]]):=Y0 (List.take_succ_eq_append_getElem (by omega));generalize s2[j]=y at*;go_wp2_with (refine aM (f:=aO) (b:=true) rfl _ _ _ 91 rfl _ _ underlying91 underlying9 rfl hd.out.1 rfl rfl ?_;intro w2 yb oz hs2;go_frame);refine ⟨⟨j+1,bN l' y true,by go_num,by omega,Y0 ⟨yb,hd.out.2.1.grown oz hd.out.2.1.size (fun b e=>by injection e with e;omega),by have:=kr (l:=l') (s:=y) (v:=true);have:=hd.out.2.2.1;omega,fun x=> ?_⟩⟩,by simp [intOf];omega⟩;rw [bH,hd.out.2.2.2,htk.out,List.mem_append,List.mem_singleton];constructor
   · rintro (h|h|h)
     · exact .inr (.inr h)
     · exact .inl h
     exact .inr (.inl h)
   rintro (h|h|h)
   · exact .inr (.inl h)
   · exact .inr (.inr h)
   exact .inl h
 have wF:j=n2:=by omega
 have Ez:s2.take j=s2:=List.take_of_length_le (by omega);have hd1:=hd.out;rw [Ez] at hd1;obtain ⟨wm,Dv⟩:∃W,W=wr:=⟨_,rfl⟩;subst Dv;have HD:=Y0 hd1;clear hd hd1 Ez;subst wF;have Vm:l'.length<=20000:=by have:=HD.out.2.2.1;omega
 go_wp2_with (refine bp (o:=⟨some 39,_,_,_,_,_⟩) rfl _ _ rfl _ _ underlying91 rfl HD.out.1 ?_;intro w1 hI az hs1;go_frame);have IW:Hid (aL aO w1 w.heap.size wm.heap.size l' l'/\Below wm.heap.size wm w1/\w1.heap.size=wm.heap.size+1):=Y0 ⟨hI,az,hs1⟩;have GW:w.heap.size<wm.heap.size:=HD.out.1.lt;obtain ⟨it,hit⟩:∃it,it=wm.heap.size:=⟨_,rfl⟩;rw [<-hit] at IW GW ⊢;have hwB:Hid (Below w.heap.size w w1):=Y0 (HD.out.2.1.trans (az.mono (by omega)));have HIT:=Y0 hit;clear hI az hs1 hit;go_loopw [4] (fun v wr=>∃(acc:List aa) (left:List (aa × Bool)) (Fk:Nat->Prop),Hid (aL aO wr w.heap.size it l' left/\Own aD it 9 Fk wr v acc/\(∀b,Fk b->(F b\/it<b)/\b<wr.heap.size)/\Below w.heap.size w wr/\acc.length+left.length=l'.length/\(∀s,(s∈acc\/s∈af left)↔s∈af l')/\(∀b,F b->Fk b)/\it<wr.heap.size)) (fun v _=>l'.length - kf v)
 case atStart=>
  refine ⟨[],l',F,Y0 ⟨IW.out.1,Own.nil _ _ _ _ _,fun b hb=>⟨.inl hb, ?_⟩,hwB.out,by simp,by simp,fun b h=>h,by rw [IW.out.2.2];omega⟩⟩;exact Nat.lt_of_lt_of_le (HF.out b hb) hwB.out.size
 obtain ⟨acc,left,Fk,hc⟩:=hrel;obtain ⟨A0,c0,hv0⟩:=hc.out.2.1.form;generalize yP:acc.length=na at hv0;subst hv0;have hws:it<wr.heap.size:=hc.out.2.2.2.2.2.2.2
 cases left with
 | cons p eX=>
   have hal:na<20000:=by have:=hc.out.2.2.2.2.1;simp at this;omega
   have GX:∀b,Fk b->b<wr.heap.size:=fun b hb=>(hc.out.2.2.1 b hb).2
   have Fv:=Y0 GX;clear GX;have rJ:Hid (¬Fk it):=Y0 (fun h=>by rcases (hc.out.2.2.1 it h).1 with h|h;have:=HF.out it h;omega;omega)
   go_wp2_with (first
    | (refine ay (o:=⟨some 40,_,_,_,_,_⟩) rfl _ rfl rfl hc.out.1 (by intro h;cases h) ?_;intro s b left' w2 hmem hget eI ba hlen hns hg2 hs2 hent;have bO:=Y7 hmem eI ba hlen hns hg2 hs2;clear hmem hget eI ba hlen hns hg2 hs2;have hw2:it<=w2.heap.size:=(by rw [bO.out.2.2.2.2.2.2];omega);have ja:=Y0 (aX (w':=w2.alloc (.cells #[.string s] 9)) (F':=Fk) hc.out.2.1 (fun k hk=>by have h1:=Fv.out k (bh hc.out.2.1 hk);have hs2:=bO.out.2.2.2.2.2.2;rw [Below.heap_alloc _ _ k (by omega)];exact bO.out.2.2.2.2.2.1.block k h1 (by intro e;injection e with e;exact rJ.out (e▸bh hc.out.2.1 hk))) (fun _ h=>h));have gT:=Y0 (Rd.one (d:=aD) (F:=Fk) (w:=w2) (e:=9) (x:=s) (cs:= #[.string s]) rfl (by intro b hb;have:=Fv.out b hb;have hs2:=bO.out.2.2.2.2.2.2;omega));go_frame)
    | (at_builtin;refine aH (o:=⟨some 47,_,_,_,_,_⟩) rfl _ _ 22 rfl aD 9 (.string ⟨#[]⟩) 16 underlying22 rA rfl (by decide) rfl rfl ja.out gT.out (by rw [yP];simp [maxLen];omega) (by rw [yP];simp;omega) (by simp;omega) rfl (na+1) (by rw [List.length_append,yP];rfl) ?_;intro A2 c2 w3 F2 mI iT bb gD;have zX:=Y4 mI iT bb gD;clear mI iT bb gD;go_frame))
   obtain ⟨i1,i2,i3,i4,i5,i6,i7,i8⟩:=hc.out;obtain ⟨j1,j2,j3,j4,j5,j6,hs2⟩:=bO.out;obtain ⟨k1,k2,k3,k4⟩:=zX.out
   have hF2:∀b,F2 b->(F b\/it<b)/\b<w3.heap.size:=fun b hb=>by
    refine ⟨?_,k2.lt (fun c hc'=>by have:=(i3 c hc').2;simp;omega) b hb⟩;rcases Nat.lt_or_ge b (w2.alloc (.cells #[.string s] 9)).heap.size with h|h
    · exact (i3 b (k2.old b h hb)).1
    simp at h;exact .inr (by omega)
   refine ⟨⟨acc++ [s],left',F2,Y0 ⟨?_,k1,hF2, ?_, ?_, ?_,fun b h=>k2.grow b (i7 b h),by have:=k3.size;simp at this;omega⟩⟩,by simp [kf] at i5 ⊢;omega⟩
   · refine (j2.pure ((Below.refl _ _).alloc (Nat.le_refl _) (.cells #[.string s] 9))).grown k4 (fun e=> ?_) (fun e=> ?_)
     · have:=(ak i2 e).2.1;omega
     exact rJ.out (bh i2 e)
   · exact (i4.grown j6 (by omega) (fun k e=>by injection e with e;omega)).trans (((Below.refl _ _).alloc (by omega) _).trans (k3.mono (by omega)))
   · simp at i5 j4 ⊢;omega
   intro t;rw [<-i6];simp only [List.mem_append,List.mem_singleton,af,List.mem_map];constructor
   · rintro ((h|rfl)|⟨q,hq,rfl⟩)
     · exact .inl h
     · exact .inr ⟨_,j1,rfl⟩
     exact .inr ⟨q,(j3 q).2 (.inr hq),rfl⟩
   rintro (h|⟨q,hq,rfl⟩)
   · exact .inl (.inl h)
   rcases (j3 q).1 hq with rfl|h
   · exact .inl (.inr rfl)
   exact .inr ⟨q,h,rfl⟩
 | nil=>
   have hal:na<=20000:=by have:=hc.out.2.2.2.2.1;simp at this;omega
   go_wp2_with (first|(refine ay (o:=⟨some 40,_,_,_,_,_⟩) rfl _ rfl rfl hc.out.1 ?_ (by intro s b left' w2 hmem;cases hmem);intro _;go_frame)|(go_at_call 72;refine (f72 (base:=it) (F:=Fk) _ acc _ hc.out.2.1 (by omega)).mono ?_;rintro e w4 ⟨rfl,xs,hp,hsrt,mM,sD⟩;have H4:=Y3 hp mM sD;clear hp hsrt mM sD));go_ret;obtain ⟨i1,i2,i3,i4,i5,i6,i7,i8⟩:=hc.out;refine ⟨_,xs,rfl,H4.out.2.1.rd (fun b hb=>by have:=HF.out b hb;omega) i7 (by decide),fun x=> ?_, ?_, ?_⟩
   · rw [H4.out.1.mem_iff,List.mem_append,<-HD.out.2.2.2];have:=i6 x;simpa [af] using this
   · rw [H4.out.1.length_eq];have:=HD.out.2.2.1;simp at i5;omega
   exact i4.trans ((Below.of_grown H4.out.2.2 (fun k e=>(ak i2 e).2.1)).mono (by omega))
end Go.Proofs.YtjenhelmpcajfaaGreatDoor
