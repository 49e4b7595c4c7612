/- a tree of prefixes: nodes and edges -/
import Derived.Test.YtjenhelmpcajfaaGreatDoorA02
set_option linter.all false
set_option maxHeartbeats 2000000
namespace Go.Proofs.YtjenhelmpcajfaaGreatDoor
open Go.RowKit
abbrev Bytes:=List UInt8
abbrev bl:=Option (Nat × aa × Value)
inductive Fo where
 | nil
 | cons (lab:UInt8) (n:Nat) (pre:aa) (leaf:bl) (ev:Value) (sub rest:Fo)
def bl.val:bl->Value
 | some (b,_,_)=> .pointer (some ⟨b,0,none⟩)
 | none=> .pointer none
def bl.blocks:bl->List Nat
 | some (b,_,_)=> [b]
 | none=> []
def bl.at (w:World):bl->Prop
 | some (b,k,v)=>w.heap[b]?=some (.cells #[.string k,v] 248 (0,0))
 | none=>True
def aI (v:Value):List Nat:=match v.ownBlock with|some b=> [b]|none=> []
def Fo.cells:Fo->List Value
 | .nil=> []
 | .cons lab n _ _ _ _ rest=> .int .u8 lab.toNat:: .pointer (some ⟨n,0,none⟩)::rest.cells
def Fo.len:Fo->Nat
 | .nil=>0
 | .cons _ _ _ _ _ _ rest=>rest.len+1
def Fo.fp:Fo->List Nat
 | .nil=> []
 | .cons _ n _ leaf ev sub rest=>n::(leaf.blocks++aI ev++sub.fp)++rest.fp
def Fo.At (w:World):Fo->Prop
 | .nil=>True
 | .cons _ n pre leaf ev sub rest=>w.heap[n]?=some (.cells #[leaf.val, .string pre,ev] 245 (0,0))/\leaf.at w/\w.ownsRow 0 250 2 ev sub.len sub.cells/\sub.At w/\rest.At w
def Fo.labs:Fo->List UInt8
 | .nil=> []
 | .cons lab _ _ _ _ _ rest=>lab::rest.labs
def Fo.WF (m:Nat):Fo->Prop
 | .nil=>True
 | .cons lab _ pre _ _ sub rest=>(pre.data.toList.head?=some lab/\pre.size<=1000000)/\(∀l∈rest.labs,lab.toNat<l.toNat)/\sub.len<=m/\sub.WF m/\rest.WF m
def bl.get:bl->Option (aa × Value)
 | some (_,k,v)=>some (k,v)
 | none=>none
def Fo.get:Fo->Bytes->Option (aa × Value)
 | .nil,_=>none
 | .cons _ _ pre leaf _ sub rest,p=>if pre.data.toList<+:p then (if p.drop pre.data.toList.length= [] then leaf.get else sub.get (p.drop pre.data.toList.length)) else rest.get p
def bZ (leaf:bl) (sub:Fo) (p:Bytes):Option (aa × Value):=if p= [] then leaf.get else sub.get p
theorem Fo.len_labs (f:Fo):f.labs.length=f.len:=by
 induction f with
 | nil=>rfl
 | cons=>simp [labs,len, *]
theorem Fo.len_cells (f:Fo):f.cells.length=f.len*2:=by
 induction f with
 | nil=>rfl
 | cons=>simp [cells,len, *];omega
theorem bl.keep {w w':World} {l:bl} (h:l.at w) (hk:∀b∈l.blocks,w'.heap[b]?=w.heap[b]?):l.at w':=by
 cases l with
 | none=>trivial
 | some x=>
   obtain ⟨b,k,v⟩:=x;show w'.heap[b]?=_;rw [hk b (by simp [bl.blocks])];exact h
theorem kM {w w':World} {e:TypeId} {size n:Nat} {v:Value} {xs:List Value} (h:w.ownsRow 0 e size v n xs) (hk:∀b∈aI v,w'.heap[b]?=w.heap[b]?):w'.ownsRow 0 e size v n xs:=
 bD h fun k hb=>hk k (by simp [aI,hb])
theorem Fo.keep {w w':World} {f:Fo} (h:f.At w) (hk:∀b∈f.fp,w'.heap[b]?=w.heap[b]?):f.At w':=by
 induction f with
 | nil=>trivial
 | cons lab n pre leaf ev sub rest ih1 ih2=>
   obtain ⟨h1,h2,h3,h4,h5⟩:=h;refine ⟨by rw [hk n (by simp [Fo.fp])];exact h1,bl.keep (l:=leaf) h2 fun b hb=>hk b (by simp [Fo.fp,hb]),kM h3 fun b hb=>hk b (by simp [Fo.fp,hb]),ih1 h4 fun b hb=>hk b (by simp [Fo.fp,hb]),ih2 h5 fun b hb=>hk b (by simp [Fo.fp,hb])⟩
theorem Fo.lt {w:World} {f:Fo} (h:f.At w):∀b∈f.fp,b<w.heap.size:=by
 induction f with
 | nil=>intro b hb;cases hb
 | cons lab n pre leaf ev sub rest ih1 ih2=>
   obtain ⟨h1,h2,h3,h4,h5⟩:=h;intro b hb;simp only [Fo.fp,List.cons_append,List.mem_cons,List.mem_append] at hb;rcases hb with rfl|((hb|hb)|hb)|hb
   · exact (Array.getElem?_eq_some_iff.1 h1).1
   · cases leaf with
     | none=>cases hb
     | some x=>
       obtain ⟨lb,k,v⟩:=x;simp [bl.blocks] at hb;subst hb;exact (Array.getElem?_eq_some_iff.1 h2).1
   · have hb2:ev.ownBlock=some b:=by
      unfold aI at hb
      cases he:ev.ownBlock with
      | none=>rw [he] at hb;cases hb
      | some c=>rw [he] at hb;simp at hb;rw [hb]
     exact (h3.lt b hb2).2
   · exact ih1 h4 b hb
   exact ih2 h5 b hb
def Fo.find:Fo->UInt8->Option Nat
 | .nil,_=>none
 | .cons lab n _ _ _ _ rest,c=>if lab=c then some n else rest.find c
theorem Fo.find_none {f:Fo} {c:UInt8}:f.find c=none↔c∉f.labs:=by
 induction f with
 | nil=>simp [find,labs]
 | cons lab n pre leaf ev sub rest ih1 ih2=>
   simp only [find,labs,List.mem_cons,not_or];split
   · rename_i h;simp [h]
   rename_i h;rw [ih2];simp [Ne.symm h]
theorem Fo.labs_sorted {m:Nat} {f:Fo} (h:f.WF m):f.labs.Pairwise (fun a b=>a.toNat<b.toNat):=by
 induction f with
 | nil=>exact List.Pairwise.nil
 | cons lab n pre leaf ev sub rest ih1 ih2=>
   obtain ⟨_,h2,_,_,h5⟩:=h;exact List.Pairwise.cons h2 (ih2 h5)
def Fo.child:Fo->Nat->Option (UInt8 × Nat)
 | .nil,_=>none
 | .cons lab n _ _ _ _ _,0=>some (lab,n)
 | .cons _ _ _ _ _ _ rest,i+1=>rest.child i
theorem Fo.child_cells {f:Fo} {i:Nat} {lab:UInt8} {n:Nat} (h:f.child i=some (lab,n)):f.cells[i*2]?=some (.int .u8 lab.toNat)/\f.cells[i*2+1]?=some (.pointer (some ⟨n,0,none⟩)):=by
 induction f generalizing i with
 | nil=>simp [child] at h
 | cons l m pre leaf ev sub rest ih1 ih2=>
   cases i with
   | zero=>
     simp [child] at h;obtain ⟨rfl,rfl⟩:=h
     simp [cells]
   | succ i=>
     have:=ih2 (i:=i) h;rw [show (i+1)*2=i*2+1+1 by omega];simpa [cells] using this
theorem Fo.child_lt {f:Fo} {i:Nat} (h:i<f.len):∃lab n,f.child i=some (lab,n)/\f.labs[i]?=some lab:=by
 induction f generalizing i with
 | nil=>simp [len] at h
 | cons l m pre leaf ev sub rest ih1 ih2=>
   cases i with
   | zero=>exact ⟨l,m,rfl,rfl⟩
   | succ i=>exact ih2 (by simp [len] at h;exact h)
theorem Fo.find_child {m:Nat} {f:Fo} (hw:f.WF m) {i:Nat} {lab:UInt8} {n:Nat} (h:f.child i=some (lab,n)):f.find lab=some n:=by
 induction f generalizing i with
 | nil=>simp [child] at h
 | cons l k pre leaf ev sub rest ih1 ih2=>
   obtain ⟨_,h2,_,_,h5⟩:=hw
   cases i with
   | zero=>
     simp [child] at h;obtain ⟨rfl,rfl⟩:=h
     simp [find]
   | succ i=>
     have hl:lab∈rest.labs:=by
      have hi:i<rest.len:=by
       clear ih1 ih2 h2
       have:∀(f:Fo) (i:Nat),f.child i=some (lab,n)->i<f.len:=by
        intro f
        induction f with
        | nil=>intro i h;simp [child] at h
        | cons _ _ _ _ _ _ r _ ih=>
          intro i h
          cases i with
          | zero=>simp [len]
          | succ i=>have:=ih i h;simp [len];omega
       exact this rest i h
      obtain ⟨Md,n',hc,hl⟩:=Fo.child_lt hi;have:some (Md,n')=some (lab,n):=hc.symm.trans h;simp at this;obtain ⟨rfl,rfl⟩:=this;exact List.mem_of_getElem? hl
     have hne:l≠lab:=fun e=>by have:=h2 lab hl;rw [e] at this;omega
     simp only [find,if_neg hne];exact ih2 h5 h
open Go.Proofs.Tryz
theorem cellAt {w:World} {g j:Nat} {cs:Array Value} {t:TypeId} {fr:Nat × Nat} {v:Value} (h:w.heap[g]?=some (.cells cs t fr)) (hj:cs[j]?=some v):w.cell? ⟨g,j,none⟩=some v:=by
 simp [World.cell?,h,hj]
theorem frozenAt {w:World} {g j:Nat} {cs:Array Value} {t:TypeId} (h:w.heap[g]?=some (.cells cs t (0,0))):w.frozen? ⟨g,j,none⟩=false:=by
 simp [World.frozen?,h]
theorem f113 (n:Nat) (leaf:bl) (pre:aa) (ev:Value) (w:World) (h:w.heap[n]?=some (.cells #[leaf.val, .string pre,ev] 245 (0,0))):
 Calls Tryz.prog 113 #[.pointer (some ⟨n,0,none⟩)] w fun e w'=>(e= .returned (.bool leaf.isSome))/\w'=w:=by
 have hc:=cellAt (j:=0) h rfl;have H:=Y0 h;clear h
 cases leaf with
 | none=>
   change w.cell? _=some (.pointer none) at hc;go_enter func113,ntmps113;go_wp2;go_ret
   exact ⟨rfl,rfl⟩
 | some x=>
   obtain ⟨b,k,v⟩:=x;change w.cell? _=some (.pointer (some ⟨b,0,none⟩)) at hc;go_enter func113,ntmps113;go_wp2;go_ret;exact ⟨rfl,rfl⟩
theorem qj {w:World} {ev:Value} {sub:Fo} (h:w.ownsRow 0 250 2 ev sub.len sub.cells) {i:Nat} (hi:i<sub.len):
 ∃g cap lab n,ev= .slice (some ⟨g,0,none⟩) sub.len cap/\sub.child i=some (lab,n)/\sub.labs[i]?=some lab/\w.cell? ⟨g,i*2,none⟩=some (.int .u8 lab.toNat)/\w.cell? ⟨g,i*2+1,none⟩=some (.pointer (some ⟨n,0,none⟩)):=by
 obtain ⟨g,cap,rfl,_,_⟩:=h.form (by omega);obtain ⟨lab,n,hc,hl⟩:=Fo.child_lt hi;obtain ⟨c1,c2⟩:=Fo.child_cells hc;refine ⟨g,cap,lab,n,rfl,hc,hl, ?_, ?_⟩
 · have:=h.cells (g:=g) rfl (i*2) _ c1
   rwa [show (⟨g,0,none⟩:Addr).add (i*2)=⟨g,i*2,none⟩ by unfold Addr.add;split<;>simp_all] at this
 have:=h.cells (g:=g) rfl (i*2+1) _ c2
 rwa [show (⟨g,0,none⟩:Addr).add (i*2+1)=⟨g,i*2+1,none⟩ by unfold Addr.add;split<;>simp_all] at this
def gS (f:Fo) (c:UInt8) (i:Nat):Bool:=match f.labs[i]? with|some l=>decide (c.toNat<=l.toNat)|none=>true
theorem f142 (i:Nat) (n b1 b2:Nat) (leaf:bl) (pre:aa) (ev:Value) (sub:Fo) (c:UInt8) (w:World) (h:w.heap[n]?=some (.cells #[leaf.val, .string pre,ev] 245 (0,0))) (hr:w.ownsRow 0 250 2 ev sub.len sub.cells) (hi:i<sub.len)
 (h1:w.cell? ⟨b1,0,none⟩=some (.pointer (some ⟨n,0,none⟩))) (h2:w.cell? ⟨b2,0,none⟩=some (.int .u8 c.toNat)) (hm:sub.len<=1000):
 Calls Tryz.prog 142 #[.int .i64 i, .pointer (some ⟨b1,0,none⟩), .pointer (some ⟨b2,0,none⟩)] w fun e w'=>(e= .returned (.bool (gS sub c i)))/\∃q,w'=w.drewN q:=by
 have hc:=cellAt (j:=2) h rfl;have H:=Y0 h;clear h;obtain ⟨g,cap,lab,m,rfl,hch,hl,e1,e2⟩:=qj hr hi;have HR:=Y0 hr;have HC:=Y0 hch;have Wx:Hid (gS sub c i=decide (c.toNat<=lab.toNat)):=Y0 (by unfold gS;rw [hl]);clear hr hch hl;have hi':(i:Int)<(sub.len:Int):=by omega
 go_enter func142,ntmps142;go_wp2;go_quiet (fail);go_wp2;go_ret;exact ⟨aq Wx.out.symm,_,rfl⟩
theorem f145 (i:Nat) (n b1 b2:Nat) (leaf:bl) (pre:aa) (ev:Value) (sub:Fo) (c:UInt8) (w:World) (h:w.heap[n]?=some (.cells #[leaf.val, .string pre,ev] 245 (0,0))) (hr:w.ownsRow 0 250 2 ev sub.len sub.cells) (hi:i<sub.len)
 (h1:w.cell? ⟨b1,0,none⟩=some (.pointer (some ⟨n,0,none⟩))) (h2:w.cell? ⟨b2,0,none⟩=some (.int .u8 c.toNat)) (hm:sub.len<=1000):
 Calls Tryz.prog 145 #[.int .i64 i, .pointer (some ⟨b1,0,none⟩), .pointer (some ⟨b2,0,none⟩)] w fun e w'=>(e= .returned (.bool (gS sub c i)))/\∃q,w'=w.drewN q:=by
 have hc:=cellAt (j:=2) h rfl;have H:=Y0 h;clear h;obtain ⟨g,cap,lab,m,rfl,hch,hl,e1,e2⟩:=qj hr hi;have HR:=Y0 hr;have HC:=Y0 hch;have Wx:Hid (gS sub c i=decide (c.toNat<=lab.toNat)):=Y0 (by unfold gS;rw [hl]);clear hr hch hl;have hi':(i:Int)<(sub.len:Int):=by omega
 go_enter func145,ntmps145;go_wp2;go_quiet (fail);go_wp2;go_ret;exact ⟨aq Wx.out.symm,_,rfl⟩
theorem E3 (N:Nat) (p:Nat->Bool) (x y:Value) (w:World) (hN:N<=1000000) (hmono:∀i j,i<=j->j<N->p i=true->p j=true)
 (hf:∀(i q:Nat),i<N->Calls Tryz.prog 142 #[.int .i64 i,x,y] (w.drewN q) fun e w'=>(e= .returned (.bool (p i)))/\∃q',w'=(w.drewN q).drewN q'):
 Calls Tryz.prog 141 #[.int .i64 N, .func (.func 142) #[] #[x,y]] w fun e w'=>∃r:Nat,e= .returned (.int .i64 r)/\r<=N/\(∀i,i<r->p i=false)/\(∀i,r<=i->i<N->p i=true)/\∃q,w'=w.drewN q:=by
 have HM:=Y0 hmono;have HF:=Y0 hf;clear hmono hf;go_enter func141,ntmps141;go_wp2;go_loopw [5,6] (fun i j wr=>∃a b q:Nat,i= .int .i64 a/\j= .int .i64 b/\a<=b/\b<=N/\(∀i,i<a->p i=false)/\(∀i,b<=i->i<N->p i=true)/\wr=w.drewN q) (fun i j _=>(intOf j).toNat - (intOf i).toNat)
 case atStart=>exact ⟨0,N,0,rfl,rfl,by omega,by omega,by omega,by omega,rfl⟩
 obtain ⟨a,b,q,rfl,rfl,hab,hb,h1,h2,rfl⟩:=hrel;have H1:=Y0 h1;have H2:=Y0 h2;clear h1 h2;by_cases hlt:a<b
 · go_wp2_with fail;rw [show ((a:Int)+b) / 2=(((a+b) / 2:Nat):Int) from by omega];have Wy:(a+b) / 2<b:=by omega
   have Me:a<=(a+b) / 2:=by omega
   generalize (a+b) / 2=m at Wy Me ⊢;refine (HF.out m q (by omega)).mono ?_;rintro e w1 ⟨rfl,q',rfl⟩;cases hp:p m
   · have HP:=Y0 hp;clear hp;go_wp2;go_roundw
     case rel=>
      refine ⟨m+1,b,q+q',by go_num,rfl,by omega,hb,fun i hi=> ?_,H2.out,by simp⟩
      cases hpi:p i with
      | false=>rfl
      | true=>have:=HM.out i m (by omega) (by omega) hpi;rw [HP.out] at this;cases this
     simp [intOf];omega
   have HP:=Y0 hp;clear hp;go_wp2;go_roundw
   case rel=>exact ⟨a,m,q+q',rfl,rfl,by omega,by omega,H1.out,fun i hi hi'=>HM.out m i hi hi' HP.out,by simp⟩
   simp [intOf];omega
 go_wp2;go_ret;exact ⟨a,rfl,by omega,H1.out,fun i h h'=>H2.out i (by omega) h',q,rfl⟩
theorem E5 (N:Nat) (p:Nat->Bool) (x y:Value) (w:World) (hN:N<=1000000) (hmono:∀i j,i<=j->j<N->p i=true->p j=true)
 (hf:∀(i q:Nat),i<N->Calls Tryz.prog 145 #[.int .i64 i,x,y] (w.drewN q) fun e w'=>(e= .returned (.bool (p i)))/\∃q',w'=(w.drewN q).drewN q'):
 Calls Tryz.prog 141 #[.int .i64 N, .func (.func 145) #[] #[x,y]] w fun e w'=>∃r:Nat,e= .returned (.int .i64 r)/\r<=N/\(∀i,i<r->p i=false)/\(∀i,r<=i->i<N->p i=true)/\∃q,w'=w.drewN q:=by
 have HM:=Y0 hmono;have HF:=Y0 hf;clear hmono hf;go_enter func141,ntmps141;go_wp2;go_loopw [5,6] (fun i j wr=>∃a b q:Nat,i= .int .i64 a/\j= .int .i64 b/\a<=b/\b<=N/\(∀i,i<a->p i=false)/\(∀i,b<=i->i<N->p i=true)/\wr=w.drewN q) (fun i j _=>(intOf j).toNat - (intOf i).toNat)
 case atStart=>exact ⟨0,N,0,rfl,rfl,by omega,by omega,by omega,by omega,rfl⟩
 obtain ⟨a,b,q,rfl,rfl,hab,hb,h1,h2,rfl⟩:=hrel;have H1:=Y0 h1;have H2:=Y0 h2;clear h1 h2;by_cases hlt:a<b
 · go_wp2_with fail;rw [show ((a:Int)+b) / 2=(((a+b) / 2:Nat):Int) from by omega];have Wy:(a+b) / 2<b:=by omega
   have Me:a<=(a+b) / 2:=by omega
   generalize (a+b) / 2=m at Wy Me ⊢;refine (HF.out m q (by omega)).mono ?_;rintro e w1 ⟨rfl,q',rfl⟩;cases hp:p m
   · have HP:=Y0 hp;clear hp;go_wp2;go_roundw
     case rel=>
      refine ⟨m+1,b,q+q',by go_num,rfl,by omega,hb,fun i hi=> ?_,H2.out,by simp⟩
      cases hpi:p i with
      | false=>rfl
      | true=>have:=HM.out i m (by omega) (by omega) hpi;rw [HP.out] at this;cases this
     simp [intOf];omega
   have HP:=Y0 hp;clear hp;go_wp2;go_roundw
   case rel=>exact ⟨a,m,q+q',rfl,rfl,by omega,by omega,H1.out,fun i hi hi'=>HM.out m i hi hi' HP.out,by simp⟩
   simp [intOf];omega
 go_wp2;go_ret;exact ⟨a,rfl,by omega,H1.out,fun i h h'=>H2.out i (by omega) h',q,rfl⟩
def ptr (o:Option Nat):Value:= .pointer (o.map fun m=>⟨m,0,none⟩)
theorem rb {m:Nat} {f:Fo} (hw:f.WF m) (c:UInt8):∀i j,i<=j->j<f.len->gS f c i=true->gS f c j=true:=by
 intro i j hij hj h;have hs:=Fo.labs_sorted hw;have hl:=Fo.len_labs f;unfold gS at h ⊢;have hj':j<f.labs.length:=by omega
 have hi':i<f.labs.length:=by omega
 rw [List.getElem?_eq_getElem hj'];rw [List.getElem?_eq_getElem hi'] at h;simp only [decide_eq_true_eq] at h ⊢;rcases Nat.lt_or_ge i j with h1|h1
 · have:=List.pairwise_iff_getElem.1 hs i j hi' hj' h1;omega
 have:i=j:=by omega
 subst this;exact h
theorem Bv {m:Nat} {f:Fo} (hw:f.WF m) (c:UInt8) (r:Nat) (hr:r<=f.len) (h1:∀i,i<r->gS f c i=false) (h2:∀i,r<=i->i<f.len->gS f c i=true):
 (∀lab n,f.child r=some (lab,n)->f.find c=if lab=c then some n else none)/\(r=f.len->f.find c=none):=by
 have hl:=Fo.len_labs f;constructor
 · intro lab n hc;by_cases he:lab=c
   · subst he;rw [if_pos rfl];exact Fo.find_child hw hc
   rw [if_neg he,Fo.find_none];intro hm;obtain ⟨i,hi,Qu⟩:=List.mem_iff_getElem.1 hm
   have hrl:r<f.len:=by
    rcases Nat.lt_or_ge r f.len with h|h
    · exact h
    have:∀(f:Fo) (i:Nat),f.len<=i->f.child i=none:=by
     intro f
     induction f with
     | nil=>intro i _;rfl
     | cons _ _ _ _ _ _ q _ ih=>
       intro i h
       cases i with
       | zero=>simp [Fo.len] at h
       | succ i=>exact ih i (by simp [Fo.len] at h;exact h)
    rw [this f r h] at hc;cases hc
   obtain ⟨Md,n',hc',hlab⟩:=Fo.child_lt hrl;have:some (Md,n')=some (lab,n):=hc'.symm.trans hc;simp at this;obtain ⟨rfl,rfl⟩:=this;have hge:=h2 r (Nat.le_refl _) hrl;unfold gS at hge;rw [hlab] at hge;simp at hge;have hs:=Fo.labs_sorted hw;rcases Nat.lt_trichotomy i r with hlt|heq|hgt
   · have:=h1 i hlt;unfold gS at this;rw [List.getElem?_eq_getElem hi,Qu] at this;simp at this
   · subst heq;rw [List.getElem?_eq_getElem hi,Qu] at hlab;injection hlab with hlab
     exact he hlab.symm
   have hr':r<f.labs.length:=by omega
   have h3:=List.pairwise_iff_getElem.1 hs r i hr' hi hgt;rw [List.getElem?_eq_getElem hr'] at hlab;injection hlab with hlab
   rw [hlab,Qu] at h3;omega
 intro hrl;subst hrl;rw [Fo.find_none];intro hm;obtain ⟨i,hi,Qu⟩:=List.mem_iff_getElem.1 hm;have:=h1 i (by omega);unfold gS at this;rw [List.getElem?_eq_getElem hi,Qu] at this;simp at this
theorem cG {w w':World} {base:Nat} {e:TypeId} {size n:Nat} {v:Value} {xs:List Value} (h:w.ownsRow base e size v n xs) (hb:Below w.heap.size w w'):w'.ownsRow base e size v n xs:=
 bD h fun k hk=>hb.block k (h.lt k hk).2
theorem ax {w w':World} {n:Nat} {o:Obj} (h:w.heap[n]?=some o) (hb:Below w.heap.size w w'):w'.heap[n]?=some o:=by
 rw [hb.block n (Array.getElem?_eq_some_iff.1 h).1];exact h
theorem aY {B:Nat} {w W:World} {n:Nat} (h:Below B w W):Below B w (W.drewN n):=⟨h.os,h.tape,h.output,h.size,h.block⟩
theorem rf {w:World} {base:Nat} {e:TypeId} {size n:Nat} {v:Value} {xs:List Value} (h:w.ownsRow base e size v n xs):∃A cap,v= .slice A n cap:=by
 rcases h.2 with ⟨rfl,h0⟩|⟨g,cap,cur,rfl,_⟩
 · exact ⟨none,0,by rw [h0]⟩
 exact ⟨_,cap,rfl⟩
theorem f114 (n:Nat) (leaf:bl) (pre:aa) (ev:Value) (sub:Fo) (c:UInt8) (m:Nat) (w:World) (h:w.heap[n]?=some (.cells #[leaf.val, .string pre,ev] 245 (0,0))) (hr:w.ownsRow 0 250 2 ev sub.len sub.cells)
 (hw:sub.WF m) (hm:sub.len<=1000):
 Calls Tryz.prog 114 #[.pointer (some ⟨n,0,none⟩), .int .u8 c.toNat] w fun e w'=>e= .returned (ptr (sub.find c))/\Below w.heap.size w w':=by
 have hbW:Below w.heap.size w ((w.alloc (.cells #[.pointer (some ⟨n,0,none⟩)] 239)).alloc (.cells #[.int .u8 c.toNat] 5)):=((Below.refl _ _).alloc (Nat.le_refl _) _).alloc (by simp) _;have hW:=ax h hbW;have Qv:=cG hr hbW;have Wz:=cellAt (j:=0) (ax (heap_alloc_new w (.cells #[.pointer (some ⟨n,0,none⟩)] 239)) ((Below.refl _ _).alloc (Nat.le_refl _) (.cells #[.int .u8 c.toNat] 5))) rfl;have Qw:=cellAt (j:=0) (heap_alloc_new (w.alloc (.cells #[.pointer (some ⟨n,0,none⟩)] 239)) (.cells #[.int .u8 c.toNat] 5)) rfl;simp only [World.size_alloc] at Qw;obtain ⟨A,cap,hev⟩:∃A cap,ev= .slice A sub.len cap:=rf hr;subst hev;have hlen:sub.len<=9223372036854775807:=by omega
 have hc:=cellAt (j:=2) h rfl;have hcW:=cellAt (j:=2) hW rfl;have HS:=Y0 (Bv hw c);have HM:=Y0 (rb hw c);have HB:=Y0 hbW;have HW:=Y0 hW;have HR:=Y0 Qv;clear hbW hW Qv h hr hw;go_enter func114,ntmps114;go_wp2_with (go_at_call 141;refine (E3 sub.len (gS sub c) _ _ _ (by omega) HM.out (fun i q hi=>f142 i n _ _ leaf pre (.slice A sub.len cap) sub c _ (by exact HW.out) (by exact HR.out) hi (by exact Wz) (by exact Qw) (by omega))).mono ?_;rintro e w1 ⟨r,rfl,hr1,hr2,hr3,q,rfl⟩);obtain ⟨s1,s2⟩:=HS.out r hr1 hr2 hr3;have H1:=Y0 s1;have H2:=Y0 s2;clear s1 s2 hr2 hr3;by_cases hlt:r<sub.len
 · obtain ⟨g,cap',lab,ch,he,hch,hl,e1,e2⟩:=qj HR.out hlt;simp only [Value.slice.injEq] at he;obtain ⟨rfl,-,rfl⟩:=he;have HF:=Y0 (H1.out lab ch hch);clear hch hl H1 H2;have hlt':(r:Int)<(sub.len:Int):=by omega
   by_cases heq:lab=c
   · subst heq;rw [if_pos rfl] at HF;go_wp2;go_quiet (fail);go_wp2;go_ret;refine ⟨?_,by repeat first|exact HB.out|refine aY ?_⟩;rw [HF.out];rfl
   have hne:¬lab.toNat=c.toNat:=fun e=>heq (UInt8.toNat_inj.1 e)
   rw [if_neg heq] at HF;clear heq;go_wp2;go_quiet (fail);go_wp2;go_ret;refine ⟨?_,by repeat first|exact HB.out|refine aY ?_⟩;rw [HF.out];rfl
 have hre:r=sub.len:=by omega
 subst hre;have HF:=Y0 (H2.out rfl);clear H1 H2;go_wp2;go_quiet (fail);go_wp2;go_ret;refine ⟨?_,by repeat first|exact HB.out|refine aY ?_⟩;rw [HF.out];rfl
def bl.or (a b:bl):bl:=match a with|some x=>some x|none=>b
def Fo.lp:Fo->Bytes->bl->bl
 | .nil,_,b=>b
 | .cons lab _ pre leaf _ sub rest,s,b=>if s.head?=some lab then (if pre.data.toList<+:s then (if s.drop pre.data.toList.length= [] then leaf.or b else sub.lp (s.drop pre.data.toList.length) (leaf.or b)) else b) else rest.lp s b
def vD (leaf:bl) (sub:Fo) (s:Bytes) (b:bl):bl:=if s= [] then leaf.or b else sub.lp s (leaf.or b)
theorem IG {f:Fo} {c:UInt8} {s:Bytes} (hs:s.head?=some c) (h:f.find c=none) (b:bl):f.lp s b=b:=by
 induction f with
 | nil=>rfl
 | cons lab n pre leaf ev sub rest ih1 ih2=>
   simp only [Fo.find] at h;split at h
   · cases h
   rename_i hc;have:¬s.head?=some lab:=by rw [hs];intro e;injection e with e;exact hc e.symm
   simp only [Fo.lp,if_neg this];exact ih2 h
theorem CC {w:World} {m:Nat} {f:Fo} {c:UInt8} {k:Nat} (hA:f.At w) (hW:f.WF m) (h:f.find c=some k):
 ∃pre leaf ev sub,w.heap[k]?=some (.cells #[leaf.val, .string pre,ev] 245 (0,0))/\leaf.at w/\w.ownsRow 0 250 2 ev sub.len sub.cells/\sub.At w/\sub.WF m/\sub.len<=m/\pre.data.toList.head?=some c/\pre.size<=1000000/\
  ∀s b,s.head?=some c->f.lp s b=if pre.data.toList<+:s then vD leaf sub (s.drop pre.data.toList.length) b else b:=by
 induction f with
 | nil=>simp [Fo.find] at h
 | cons lab n pre leaf ev sub rest ih1 ih2=>
   obtain ⟨a1,a2,a3,a4,a5⟩:=hA;obtain ⟨w1,w2,w3,w4,w5⟩:=hW;simp only [Fo.find] at h;split at h
   · rename_i hc;injection h with h
     subst hc h;refine ⟨pre,leaf,ev,sub,a1,a2,a3,a4,w4,w3,w1.1,w1.2,fun s b hs=> ?_⟩;simp only [Fo.lp,if_pos hs,vD]
   rename_i hc;obtain ⟨pre',leaf',ev',sub',h1,h2,h3,h4,h5,h6,h7,Mf,h8⟩:=ih2 a5 w5 h;refine ⟨pre',leaf',ev',sub',h1,h2,h3,h4,h5,h6,h7,Mf,fun s b hs=> ?_⟩;have:¬s.head?=some lab:=by rw [hs];intro e;injection e with e;exact hc e.symm
   simp only [Fo.lp,if_neg this];exact h8 s b hs
theorem dm (s p:aa):begins s p=decide (p.data.toList<+:s.data.toList):=by
 unfold begins;rw [ByteArray.toList_eq,ByteArray.toList_eq,Lib.extract_data,Bool.eq_iff_iff];have h1:=size_data s;have h2:=size_data p;simp only [Bool.and_eq_true,decide_eq_true_eq,beq_iff_eq,List.drop_zero,Nat.sub_zero];rw [<-h1,<-h2];constructor
 · rintro ⟨h,e⟩;rw [<-e];exact List.take_prefix _ _
 intro h;exact ⟨h.length_le,(List.prefix_iff_eq_take.1 h).symm⟩
structure mr (w:World) (tb n0:Nat) (leaf:bl) (ev:Value) (sub:Fo) (sz:Nat):Prop where
 tree:w.heap[tb]?=some (.cells #[.pointer (some ⟨n0,0,none⟩), .int .i64 sz] 241 (0,0))
 root:w.heap[n0]?=some (.cells #[leaf.val, .string ⟨#[]⟩,ev] 245 (0,0))
 leaf:leaf.at w
 row:w.ownsRow 0 250 2 ev sub.len sub.cells
 sub:sub.At w
theorem xD:ptr none= .pointer none:=rfl
theorem nu (m:Nat):ptr (some m)= .pointer (some ⟨m,0,none⟩):=rfl
theorem ag {w w1:World} {a:Addr} {v:Value} (h:w.cell? a=some v) (hb:Below w.heap.size w w1):w1.cell? a=some v:=(hb.cell (World.block_lt_of_cell? w a h)).trans h
def T9:Value->Nat
 | .string s=>s.size
 | _=>0
def jT:Option (aa × Value)->Value
 | some (k,v)=> .tuple #[.string k,v, .bool true]
 | none=> .tuple #[.string ⟨#[]⟩, .nilIface, .bool false]
theorem fw (s:aa) (p:Nat):(s.extract p s.size).data.toList=s.data.toList.drop p:=Lib.extract_to_end s p
theorem f73 (tb n0:Nat) (dH:bl) (zP:Value) (eT:Fo) (sz m:Nat) (s:aa) (w:World) (hT:mr w tb n0 dH zP eT sz) (hW:eT.WF m) (hm0:eT.len<=m) (hm:m<=1000) (hs:s.size<=140737488351232):
 Calls Tryz.prog 73 #[.pointer (some ⟨tb,0,none⟩), .string s] w fun e w'=>e= .returned (jT (vD dH eT s.data.toList none).get)/\Below w.heap.size w w':=by
 have ht:=cellAt (j:=0) hT.tree rfl;have HT:=Y0 hT;have HW:=Y0 hW;clear hT hW;go_enter func73,ntmps73;go_wp2;clear ht
 go_loopw [7,8,9] (fun l n t wr=>∃(last:bl) (k:Nat) (r:aa) (pre:aa) (leaf:bl) (ev:Value) (sub:Fo),l=last.val/\n= .pointer (some ⟨k,0,none⟩)/\t= .string r/\r.size<=s.size/\last.at w/\
  w.heap[k]?=some (.cells #[leaf.val, .string pre,ev] 245 (0,0))/\leaf.at w/\w.ownsRow 0 250 2 ev sub.len sub.cells/\sub.At w/\sub.WF m/\sub.len<=m/\
  vD dH eT s.data.toList none=vD leaf sub r.data.toList last/\Below w.heap.size w wr) (fun _ _ t _=>T9 t)
 case atStart=>exact ⟨none,n0,s,⟨#[]⟩,dH,zP,eT,rfl,rfl,rfl,Nat.le_refl _,trivial,HT.out.root,HT.out.leaf,HT.out.row,HT.out.sub,HW.out,hm0,rfl,Below.refl _ _⟩
 obtain ⟨last,k,r,pre,leaf,ev,sub,rfl,rfl,rfl,hr,lZ,hk,hl2,hrow,hsub,hwf,hlen,heq,hB⟩:=hrel;have hk':=ax hk hB;have hrow':=cG hrow hB;have h0':=cellAt (j:=0) hk' rfl;have HL1:=Y0 lZ;have N9:=Y0 hl2;have HSub:=Y0 hsub;have Ow:=Y0 hwf;have HE:=Y0 heq;have HK:=Y0 hk';have HR:=Y0 hrow';clear lZ hl2 hsub hwf heq hk hk' hrow hrow'
 obtain ⟨b',hb',sB⟩:∃b':bl,b'=leaf.or last/\((leaf.isSome=true/\leaf=b')\/(leaf.isSome=false/\last=b')):=by
  cases leaf with
  | none=>exact ⟨last,rfl, .inr ⟨rfl,rfl⟩⟩
  | some x=>exact ⟨some x,rfl, .inl ⟨rfl,rfl⟩⟩
 have Qx:Hid (bl.at w b'):=Y0 (by rcases sB with ⟨_,h⟩|⟨_,h⟩;exact h▸N9.out;exact h▸HL1.out);have HB':=Y0 hb';clear hb'
 have hend:∃(bv:Value),bl.val b'=bv/\((bv= .pointer none/\Hid (b'.get=none))\/∃lb key v,bv= .pointer (some ⟨lb,0,none⟩)/\Hid (b'.get=some (key,v))/\wr.cell? ⟨lb,0,none⟩=some (.string key)/\wr.cell? ⟨lb,1,none⟩=some v):=by
  cases b' with
  | none=>exact ⟨_,rfl, .inl ⟨rfl,rfl⟩⟩
  | some x=>
    obtain ⟨lb,key,v⟩:=x;have h1:=ax (show w.heap[lb]?=_ from Qx.out) hB;exact ⟨_,rfl, .inr ⟨lb,key,v,rfl,rfl,cellAt (j:=0) h1 rfl,cellAt (j:=1) h1 rfl⟩⟩
 by_cases WA:r.size=0
 · have Bw:Hid (vD dH eT s.data.toList none=b'):=Y0 (by
    rw [HE.out,HB'.out,vD,if_pos (List.eq_nil_of_length_eq_zero (by rw [size_data];exact WA))])
   obtain ⟨bv,Qy,⟨rfl,hg⟩|⟨lb,key,v,rfl,hg,c1,c2⟩⟩:=hend
   all_goals rcases sB with ⟨hls,rfl⟩|⟨hls,rfl⟩
   all_goals
    go_wp2_with (go_at_call 113;refine (f113 k _ pre ev _ HK.out).mono ?_;rintro e w1 ⟨rfl,rfl⟩)
   all_goals
    (try (go_quiet (fail);go_wp2))
    go_ret3
    refine ⟨?_,by repeat first|exact hB|refine aY ?_⟩;rw [Bw.out,hg.out];rfl
 have h0:0<r.size:=by omega
 have hhead:r.data.toList.head?=some r[0]:=by
  have:=drop_cons r 0 h0;rw [List.drop_zero] at this;rw [this];rfl
 have hne:¬r.data.toList= []:=by intro e;rw [e] at hhead;cases hhead
 have hstep:Hid (vD dH eT s.data.toList none=sub.lp r.data.toList b'):=Y0 (by rw [HE.out,HB'.out,vD,if_neg hne]);have HH:=Y0 hhead;clear hhead hne;have hlen':sub.len<=1000:=by omega
 cases jU:sub.find r[0] with
 | none=>
   have Bw:Hid (vD dH eT s.data.toList none=b'):=Y0 (by rw [hstep.out,IG HH.out jU]);have zQ:=Y0 jU;clear jU;obtain ⟨bv,Qy,⟨rfl,hg⟩|⟨lb,key,v,rfl,hg,c1,c2⟩⟩:=hend
   all_goals rcases sB with ⟨hls,rfl⟩|⟨hls,rfl⟩
   all_goals
    go_wp2_with (first|(go_at_call 113;refine (f113 k _ pre ev _ HK.out).mono ?_;rintro e w1 ⟨rfl,rfl⟩)|(go_at_call 114;refine (f114 k _ pre ev sub r[0] m _ HK.out HR.out Ow.out hlen').mono ?_;rw [zQ.out,xD];rintro e w1 ⟨rfl,az⟩))
   all_goals
    have cZ:Below w.heap.size w w1:=hB.trans (az.mono hB.size)
    try (have d1:=ag c1 az;have d2:=ag c2 az)
    (try (go_quiet (fail);go_wp2))
    go_ret3
    refine ⟨?_,by repeat first|exact cZ|refine aY ?_⟩;rw [Bw.out,hg.out]
    rfl
 | some ch=>
   obtain ⟨pre',leaf',ev',sub',g1,g2,g3,g4,g5,g6,g7,g7',g8⟩:=CC HSub.out Ow.out jU;have Qz:Hid (r.size<=140737488351232):=Y0 (by omega);have QB:Hid (pre'.size<=140737488351232):=Y0 (by omega);have zQ:=Y0 jU;have G1:=Y0 g1;have G2:=Y0 g2;have G3:=Y0 g3;have G4:=Y0 g4;have G5:=Y0 g5;have G7:=Y0 g7;have G8:=Y0 (g8 r.data.toList b' HH.out);have CE:=ax g1 hB;have HGS:=Y0 CE;have k1:=cellAt (j:=1) CE rfl;clear jU g1 g2 g3 g4 g5 g7 g8 CE;cases hbg:begins r pre'
   · have Bw:Hid (vD dH eT s.data.toList none=b'):=Y0 (by
      rw [hstep.out,G8.out,if_neg];rw [dm] at hbg;simpa using hbg)
     have WB:=Y0 hbg;clear hbg;obtain ⟨bv,Qy,⟨rfl,hg⟩|⟨lb,key,v,rfl,hg,c1,c2⟩⟩:=hend
     all_goals rcases sB with ⟨hls,rfl⟩|⟨hls,rfl⟩
     all_goals
      go_wp2_with (first|(go_at_call 113;refine (f113 k _ pre ev _ HK.out).mono ?_;rintro e w1 ⟨rfl,rfl⟩)|(go_at_call 114;refine (f114 k _ pre ev sub r[0] m _ HK.out HR.out Ow.out hlen').mono ?_;rw [zQ.out,nu];rintro e w1 ⟨rfl,az⟩;have k2:=ag k1 az)|(go_at_call 115;refine (f115 _ _ _ Qz.out QB.out).mono ?_;rw [WB.out];rintro e w1 ⟨rfl,rfl⟩))
     all_goals
      have cZ:=hB.trans (az.mono hB.size)
      try (have d1:=ag c1 az;have d2:=ag c2 az)
      (try (go_quiet (fail);go_wp2))
      go_ret3
      refine ⟨?_,by repeat first|exact cZ|refine aY ?_⟩;rw [Bw.out,hg.out];rfl
   have hpre:pre'.data.toList<+:r.data.toList:=by
    rw [dm] at hbg;simpa using hbg
   have Ct:pre'.size<=r.size:=by
    have:=hpre.length_le
    rwa [size_data,size_data] at this
   have hp0:0<pre'.size:=by
    have:=G7.out;rcases Nat.eq_zero_or_pos pre'.size with h|h
    · have hnil:pre'.data.toList= []:=List.eq_nil_of_length_eq_zero (by rw [size_data];exact h);rw [hnil] at this;cases this
    exact h
   have Bw:Hid (vD dH eT s.data.toList none=vD leaf' sub' (r.extract pre'.size r.size).data.toList b'):=Y0 (by
    rw [hstep.out,G8.out,if_pos hpre,fw,size_data])
   have WB:=Y0 hbg;clear hbg hpre hend;rcases sB with ⟨hls,rfl⟩|⟨hls,rfl⟩
   all_goals
    go_wp2_with (first|(go_at_call 113;refine (f113 k _ pre ev _ HK.out).mono ?_;rintro e w1 ⟨rfl,rfl⟩)|(go_at_call 114;refine (f114 k _ pre ev sub r[0] m _ HK.out HR.out Ow.out hlen').mono ?_;rw [zQ.out,nu];rintro e w1 ⟨rfl,az⟩;have k2:=ag k1 az)|(go_at_call 115;refine (f115 _ _ _ Qz.out QB.out).mono ?_;rw [WB.out];rintro e w1 ⟨rfl,rfl⟩));have cZ:=hB.trans (az.mono hB.size);go_roundw
    case rel=>exact ⟨_,ch,r.extract pre'.size r.size,pre',leaf',ev',sub',rfl,rfl,rfl,by rw [ByteArray.size_extract];omega,Qx.out,G1.out,G2.out,G3.out,G4.out,G5.out,g6,Bw.out,cZ⟩
    case measure=>simp [T9,ByteArray.size_extract];omega
end Go.Proofs.YtjenhelmpcajfaaGreatDoor
