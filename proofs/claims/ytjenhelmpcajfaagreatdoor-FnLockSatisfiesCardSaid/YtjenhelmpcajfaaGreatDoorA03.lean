/- the plain law of versions, and their signs -/
import Derived.Test.YtjenhelmpcajfaaGreatDoorA02
import Derived.Lib.AtoiAll
set_option linter.all false
set_option maxRecDepth 100000
set_option maxHeartbeats 1000000
namespace Go.Proofs.YtjenhelmpcajfaaGreatDoor
open Go.RowKit
def fK (s:aa) (c:Nat):Bool:=if h:0<s.size then decide (s[0].toNat=c) else false
def jF (s:aa) (c:Nat):Bool:=if h:0<s.size then decide (s[s.size - 1].toNat=c) else false
def bR (s:aa):aa:=s.extract 1 s.size
def l5 (c:Nat):Prop:=48<=c/\c<=57
instance (n:Nat):Decidable (l5 n):=by unfold l5;infer_instance
def Ci (c:UInt8):Bool:=decide (l5 c.toNat)
def GG (c:Nat):Prop:=(48<=c/\c<=57)\/(97<=c/\c<=122)\/(65<=c/\c<=90)\/c=45
instance (n:Nat):Decidable (GG n):=by unfold GG;infer_instance
structure SV where
 a:Nat
 b:Nat
 c:Nat
 pr:aa
 mt:aa
 og:aa
def SV.zero:SV:=⟨0,0,0,⟨#[]⟩,⟨#[]⟩,⟨#[]⟩⟩
def tY:List UInt8->Nat->Nat->Nat->Nat
 | [],_,n,_=>n
 | c::r,i,n,part=>if GG c.toNat then tY r (i+1) (i+1) (part+1) else if c.toNat=46/\0<part then tY r (i+1) n 0 else n
def dN (s:aa):Nat:=tY s.data.toList 0 0 0
theorem tZ:∀(l:List UInt8) (i n p m:Nat),n<=m->i+l.length<=m->tY l i n p<=m
 | [],_,_,_,_,h,_=>h
 | c::r,i,n,p,m,h,h2=>by
   simp only [List.length_cons] at h2;unfold tY;split
   · exact tZ r _ _ _ _ (by omega) (by omega)
   split
   · exact tZ r _ _ _ _ h (by omega)
   exact h
theorem sP (s:aa):dN s<=s.size:=tZ _ _ _ _ _ (Nat.zero_le _) (by simp)
def digits:List UInt8->Nat
 | []=>0
 | c::r=>if l5 c.toNat then digits r+1 else 0
theorem sS:∀l:List UInt8,digits l<=l.length
 | []=>Nat.le_refl _
 | c::r=>by
   unfold digits;split
   · have:=sS r;simp;omega
   exact Nat.zero_le _
def numOf (s:aa):Option Nat:=match Lib.parseUint10 0 s.data.toList with
 | .ok u=>some u
 | _=>none
def oY:Nat->aa->List Nat->Option (List Nat × aa)
 | 0,r,ns=>some (ns,r)
 | k+1,r,ns=>
   if digits r.data.toList=0 then none else
   match numOf (r.extract 0 (digits r.data.toList)) with
   | none=>none
   | some n=>
     if fK (r.extract (digits r.data.toList) r.size) 46 && decide (ns.length≠2) then oY k (bR (r.extract (digits r.data.toList) r.size)) (ns++ [n])
     else some (ns++ [n],r.extract (digits r.data.toList) r.size)
def fD (r:aa) (c:Nat):Option (aa × aa):=
 if fK r c then (if dN (bR r)=0 then none else some (r.extract 1 (1+dN (bR r)),r.extract (1+dN (bR r)) r.size)) else some (⟨#[]⟩,r)
def Ob (t:aa):aa:=if fK t 118 then bR t else t
def fE (t:aa):Option (SV × Nat):=
 match oY 3 (Ob t) [] with
 | none=>none
 | some (ns,r)=>match fD r 45 with
   | none=>none
   | some (p,r1)=>match fD r1 43 with
     | none=>none
     | some (m,r2)=>if r2.size=0 then some (⟨ns.getD 0 0,ns.getD 1 0,ns.getD 2 0,p,m,t⟩,ns.length) else none
def mU:List UInt8->Option Nat
 | []=>none
 | c::r=>if c.toNat=46 then some 0 else (mU r).map (· +1)
def bX (s:aa):aa × aa:=match mU s.data.toList with
 | some i=>(s.extract 0 i,s.extract (i+1) s.size)
 | none=>(s,⟨#[]⟩)
def sf (s:aa):Bool:=s.data.toList.all Ci && decide (0<s.size)
def GH (P:aa->Bool) (g:aa->aa):Nat->aa->aa
 | 0,s=>s
 | k+1,s=>if P s then GH P g k (g s) else s
def it (P:aa->Bool) (g:aa->aa) (s:aa):aa:=GH P g s.size s
def eK (s:aa):aa:=it (fun s=>decide (1<s.size) && fK s 48) bR s
def Cj (x y:aa):Int:=if qD x y then -1 else if x.toList==y.toList then 0 else 1
def gm (x y:aa):Int:=
 if sf x && !sf y then -1 else if !sf x && sf y then 1 else
 if sf x then (if (eK x).size≠(eK y).size then (if (eK x).size<(eK y).size then -1 else 1) else Cj (eK x) (eK y)) else Cj x y
def jc:Nat->aa->aa->Int
 | 0,_,_=>0
 | k+1,a,b=>if decide (a.size=0)||decide (b.size=0) then (if a=b then 0 else if a.size=0 then -1 else 1)
   else if gm (bX a).1 (bX b).1≠0 then gm (bX a).1 (bX b).1 else jc k (bX a).2 (bX b).2
def dY (v w:SV):Int:=
 if v.a<w.a then -1 else if w.a<v.a then 1 else if v.b<w.b then -1 else if w.b<v.b then 1 else if v.c<w.c then -1 else if w.c<v.c then 1 else
 if v.pr=w.pr then 0 else if v.pr.size=0 then 1 else if w.pr.size=0 then -1 else jc (v.pr.size+1) v.pr w.pr
def yD (v w:SV):Bool:=decide (dY v w=0)
structure Pc where
 lo:SV
 hi:SV
 hl:Bool
 hh:Bool
 wl:Bool
 wh:Bool
 bt:List SV
def Pc.zero:Pc:=⟨.zero, .zero,false,false,false,false, []⟩
def Pc.lowOk (p:Pc) (v:SV):Bool:= !(p.hl && (decide (dY v p.lo<0)||(decide (dY v p.lo=0) && !p.wl)))
def Pc.highOk (p:Pc) (v:SV):Bool:= !(p.hh && (decide (0<dY v p.hi)||(decide (dY v p.hi=0) && !p.wh)))
def Pc.has (p:Pc) (v:SV):Bool:=p.lowOk v && p.highOk v && !p.bt.any fun x=>yD x v
def Pc.emp (p:Pc):Bool:=p.hl && p.hh && (decide (0<dY p.lo p.hi)||(decide (dY p.lo p.hi=0) && (!p.wl|| !p.wh|| !p.has p.lo)))
def Pc.cL (p q:Pc):Int:=if p.hl then dY q.lo p.lo else 1
def Pc.cH (p q:Pc):Int:=if p.hh then dY q.hi p.hi else -1
def Pc.bothL (p q:Pc):Pc:=
 if q.hl then (if 0<p.cL q then {p with lo:=q.lo,hl:=true,wl:=q.wl} else if p.cL q=0 then {p with wl:=p.wl && q.wl} else p) else p
def Pc.bothH (p q:Pc):Pc:=
 if q.hh then (if p.cH q<0 then {p with hi:=q.hi,hh:=true,wh:=q.wh} else if p.cH q=0 then {p with wh:=p.wh && q.wh} else p) else p
def Pc.butF (p:Pc) (l:List SV) (v:SV):List SV:=if Pc.has {p with bt:=l} v then l++ [v] else l
def Pc.both (p q:Pc):Pc:={(p.bothL q).bothH q with bt:=(p.bt++q.bt).foldl ((p.bothL q).bothH q).butF []}
def fF (p:Pc) (o:List Pc) (q:Pc):List Pc:=if (p.both q).emp then o else o++ [p.both q]
def eD (ps qs:List Pc):List Pc:=ps.foldl (fun o p=>qs.foldl (fF p) o) []
inductive Sc where
 | ver (v:SV)
 | rng (ps:List Pc)
def Sc.mat:Sc->SV->Bool
 | ver x,v=>yD x v
 | rng ps,v=>ps.any (·.has v)
def Sc.inter:Sc->Sc->Sc
 | ver v,c=>if c.mat v then ver v else rng []
 | rng ps,ver x=>if (rng ps).mat x then ver x else rng []
 | rng ps,rng qs=>rng (eD ps qs)
def ud (s sep:aa):Nat->Nat->Nat->List aa->List aa
 | 0,_,_,out=>out
 | k+1,i,last,out=>if i+sep.size<=s.size then (if s.extract i (i+sep.size)=sep then ud s sep k (i+sep.size) (i+sep.size) (out++ [s.extract last i]) else ud s sep k (i+1) last out) else out++ [s.extract last s.size]
def cP (s sep:aa):List aa:=ud s sep (s.size+1) 0 0 []
def vV (s:aa):aa:=s.extract 0 (s.size - 1)
def mV (s:aa):aa:=it (fun s=>fK s 32) bR s
def sU (s:aa):aa:=it (fun s=>jF s 32) vV s
def di (s:aa):aa:=sU (mV s)
def Lv (c:Nat):Prop:=(48<=c/\c<=57)\/c=46\/c=120\/c=88\/c=42\/c=118
instance (n:Nat):Decidable (Lv n):=by unfold Lv;infer_instance
def Oc (c:UInt8):Bool:=decide (Lv c.toNat)
def plain (s:aa):Bool:=s.data.toList.all Oc
def fR (s:aa):Bool:=if h:2<s.size then decide (s[s.size - 2].toNat=46) && (decide (s[s.size - 1].toNat=120)||decide (s[s.size - 1].toNat=88)||decide (s[s.size - 1].toNat=42)) else false
def l6 (s:aa):aa:=s.extract 0 (s.size - 2)
def qG (s:aa):aa:=it (fun s=>fR s && plain (l6 s)) l6 s
def dL (s:aa) (l:List UInt8):Bool:=s.toList==l
def gN (s:aa):Option (SV × Nat):=
 if dL s [120]||dL s [88]||dL s [42] then some (.zero,0) else if s.size=0 then none else fE (qG s)
def SV.after (v:SV) (parts:Nat):SV:=
 if parts=1 then ⟨(v.a+1) % 18446744073709551616,0,0,⟨#[]⟩,⟨#[]⟩,⟨#[]⟩⟩ else if parts=2 then ⟨v.a,(v.b+1) % 18446744073709551616,0,⟨#[]⟩,⟨#[]⟩,⟨#[]⟩⟩
 else ⟨v.a,v.b,(v.c+1) % 18446744073709551616,⟨#[]⟩,⟨#[]⟩,⟨#[]⟩⟩
def JX (c:Nat):Prop:=c=61\/c=33\/c=60\/c=62\/c=126\/c=94
instance (n:Nat):Decidable (JX n):=by unfold JX;infer_instance
def ops:List UInt8->Nat
 | []=>0
 | c::r=>if JX c.toNat then ops r+1 else 0
theorem Lx:∀l:List UInt8,ops l<=l.length
 | []=>Nat.le_refl _
 | c::r=>by
   unfold ops;split
   · have:=Lx r;simp;omega
   exact Nat.zero_le _
inductive Sg where
 | eq|ne|gt|ge|lt|le|ti|ca|bad
def il:List UInt8->Sg
 | []=> .eq
 | [61]=> .eq
 | [33,61]=> .ne
 | [62]=> .gt
 | [62,61]=> .ge
 | [61,62]=> .ge
 | [60]=> .lt
 | [60,61]=> .le
 | [61,60]=> .le
 | [126]=> .ti
 | [126,62]=> .ti
 | [94]=> .ca
 | _=> .bad
def fk (v:SV):Pc:=⟨v, .zero,true,false,true,false, []⟩
def bG (v h:SV):Pc:=⟨v,h,true,true,true,false, []⟩
def JY (v:SV) (parts:Nat):Nat:=if v.a=0/\1<parts then (if v.b=0/\2<parts then 3 else 2) else 1
def iq (g:Sg) (v:SV) (parts:Nat):Option Sc:=
 if parts=0 then
  match g with
  | .eq| .ge| .le| .ti| .ca=>some (.rng [.zero])
  | .ne| .lt| .gt=>some (.rng [])
  | .bad=>none
 else match g with
  | .eq=>if parts=3 then some (.ver v) else some (.rng [bG v (v.after parts)])
  | .ne=>if parts=3 then some (.rng [⟨.zero, .zero,false,false,false,false, [v]⟩]) else some (.rng [⟨.zero,v,false,true,false,false, []⟩,fk (v.after parts)])
  | .gt=>if parts=3 then some (.rng [⟨v, .zero,true,false,false,false, []⟩]) else some (.rng [fk (v.after parts)])
  | .ge=>some (.rng [fk v])
  | .lt=>some (.rng [⟨.zero,v,false,true,false,false, []⟩])
  | .le=>if parts=3 then some (.rng [⟨.zero,v,false,true,false,true, []⟩]) else some (.rng [⟨.zero,v.after parts,false,true,false,false, []⟩])
  | .ti=>some (.rng [bG v (v.after (min parts 2))])
  | .ca=>some (.rng [bG v (v.after (JY v parts))])
  | .bad=>none
def lJ (t:aa):List UInt8:=t.data.toList.take (ops t.data.toList)
def fo (t:aa) (caret:Bool):Option Sc:=
 match gN (di (t.extract (ops t.data.toList) t.size)) with
 | none=>none
 | some (v,parts)=>iq (if caret && (lJ t).isEmpty then .ca else il (lJ t)) v parts
def ue (caret:Bool):List aa->Sc->Option Sc
 | [],all=>some all
 | t::r,all=>match fo (di t) caret with
   | none=>none
   | some c=>ue caret r (all.inter c)
def Sc.pcs:Sc->List Pc
 | ver x=> [⟨x,x,true,true,true,true, []⟩]
 | rng ps=>ps
def vW (caret:Bool) (s:aa):Option Sc:=ue caret (cP s ⟨#[44]⟩) (.rng [.zero])
def ky (caret:Bool):List aa->List Pc->Sc->Option (List Pc × Sc)
 | [],out,only=>some (out,only)
 | s::r,out,_=>match vW caret s with
   | none=>none
   | some c=>ky caret r (out++c.pcs) c
def cj (text:aa) (caret:Bool):Option Sc:=
 match ky caret (cP text ⟨#[124,124]⟩) [] (.rng []) with
 | none=>none
 | some (out,only)=>if (cP text ⟨#[124,124]⟩).length=1 then some only else some (.rng out)
structure SV.Ok (v:SV):Prop where
 a:v.a<18446744073709551616
 b:v.b<18446744073709551616
 c:v.c<18446744073709551616
 pr:v.pr.size<=40
 mt:v.mt.size<=40
 og:v.og.size<=40
theorem SV.zero_ok:SV.zero.Ok:=⟨by decide,by decide,by decide,by decide,by decide,by decide⟩
structure Pc.Ok (p:Pc) (k:Nat):Prop where
 lo:p.lo.Ok
 hi:p.hi.Ok
 len:p.bt.length<=k
 bt:∀v∈p.bt,v.Ok
theorem Pc.Ok.mono {p:Pc} {k k':Nat} (h:p.Ok k) (hk:k<=k'):p.Ok k':=⟨h.lo,h.hi,by have:=h.len;omega,h.bt⟩
def sj (ps:List Pc) (m k:Nat):Prop:=ps.length<=m/\∀p∈ps,p.Ok k
def Sc.Ok (c:Sc) (m k:Nat):Prop:=match c with
 | .ver v=>v.Ok
 | .rng ps=>sj ps m k
theorem Sc.Ok.mono {c:Sc} {m m' k k':Nat} (h:c.Ok m k) (hm:m<=m') (hk:k<=k'):c.Ok m' k':=by
 cases c with
 | ver v=>exact h
 | rng ps=>exact ⟨Nat.le_trans h.1 hm,fun p hp=>(h.2 p hp).mono hk⟩
theorem Pc.bothL_ok {p q:Pc} {k k':Nat} (h:p.Ok k) (h':q.Ok k'):(p.bothL q).Ok k:=by
 unfold Pc.bothL;split
 · split
   · exact ⟨h'.lo,h.hi,h.len,h.bt⟩
   split
   · exact ⟨h.lo,h.hi,h.len,h.bt⟩
   exact h
 exact h
theorem Pc.bothH_ok {p q:Pc} {k k':Nat} (h:p.Ok k) (h':q.Ok k'):(p.bothH q).Ok k:=by
 unfold Pc.bothH;split
 · split
   · exact ⟨h.lo,h'.hi,h.len,h.bt⟩
   split
   · exact ⟨h.lo,h.hi,h.len,h.bt⟩
   exact h
 exact h
theorem zb (p:Pc) (l:List SV) (x:SV):p.butF l x=l++ [x]\/p.butF l x=l:=by
 unfold Pc.butF;split
 · exact .inl rfl
 exact .inr rfl
theorem qH (p:Pc):∀(a l:List SV),(a.foldl p.butF l).length<=l.length+a.length/\∀v∈a.foldl p.butF l,v∈l\/v∈a
 | [],l=>by simp
 | x::r,l=>by
   simp only [List.foldl_cons,List.length_cons];obtain ⟨h1,h2⟩:=qH p r (p.butF l x);rcases zb p l x with h|h
   · rw [h] at h1 h2 ⊢;simp only [List.length_append,List.length_cons,List.length_nil] at h1;refine ⟨by omega,fun v hv=> ?_⟩;rcases h2 v hv with h|h
     · rcases List.mem_append.1 h with h|h
       · exact .inl h
       simp at h;subst h;exact .inr (.head _)
     exact .inr (.tail _ h)
   rw [h] at h1 h2 ⊢;refine ⟨by omega,fun v hv=> ?_⟩;rcases h2 v hv with h|h
   · exact .inl h
   exact .inr (.tail _ h)
theorem Pc.both_ok {p q:Pc} {k k':Nat} (h:p.Ok k) (h':q.Ok k'):(p.both q).Ok (k+k'):=by
 have h1:=Pc.bothH_ok (q:=q) (Pc.bothL_ok (q:=q) h h') h';obtain ⟨h2,h3⟩:=qH ((p.bothL q).bothH q) (p.bt++q.bt) [];refine ⟨h1.lo,h1.hi, ?_,fun v hv=> ?_⟩
 · have:=h.len;have:=h'.len;simp only [List.length_append,List.length_nil] at h2;show ((p.bt++q.bt).foldl ((p.bothL q).bothH q).butF []).length<=_;omega
 rcases h3 v hv with h4|h4
 · cases h4
 rcases List.mem_append.1 h4 with h4|h4
 · exact h.bt v h4
 exact h'.bt v h4
theorem vX {p:Pc} {k k':Nat} (h:p.Ok k):∀(qs o:List Pc) (m:Nat),(∀q∈qs,q.Ok k')->sj o m (k+k')->sj (qs.foldl (fF p) o) (m+qs.length) (k+k')
 | [],_,_,_,ho=>ho
 | q::qs,o,m,hq,ho=>by
   simp only [List.foldl_cons,List.length_cons]
   have h1:sj (fF p o q) (m+1) (k+k'):=by
    unfold fF;split
    · exact ⟨by have:=ho.1;omega,ho.2⟩
    refine ⟨by have:=ho.1;simp;omega,fun x hx=> ?_⟩;rcases List.mem_append.1 hx with hx|hx
    · exact ho.2 x hx
    simp at hx;subst hx;exact Pc.both_ok h (hq q (.head _))
   have:=vX h qs (fF p o q) (m+1) (fun q' h'=>hq q' (.tail _ h')) h1
   rwa [show m+(qs.length+1)=m+1+qs.length by omega]
theorem qI {k k':Nat} {qs:List Pc} (hq:∀q∈qs,q.Ok k'):∀(ps o:List Pc) (m:Nat),(∀p∈ps,p.Ok k)->sj o m (k+k')->sj (ps.foldl (fun o p=>qs.foldl (fF p) o) o) (m+ps.length*qs.length) (k+k')
 | [],_,_,_,ho=>by simpa using ho
 | p::ps,o,m,hp,ho=>by
   simp only [List.foldl_cons,List.length_cons];have:=qI hq ps _ (m+qs.length) (fun p' h'=>hp p' (.tail _ h')) (vX (hp p (.head _)) qs o m hq ho)
   rwa [show m+(ps.length+1)*qs.length=m+qs.length+ps.length*qs.length by rw [Nat.add_mul];omega]
theorem Ck {k k' m m':Nat} {ps qs:List Pc} (hp:sj ps m k) (hq:sj qs m' k'):sj (eD ps qs) (m*m') (k+k'):=by
 have:=qI hq.2 ps [] 0 hp.2 ⟨Nat.le_refl _,by simp⟩;exact ⟨Nat.le_trans this.1 (by rw [Nat.zero_add];exact Nat.mul_le_mul hp.1 hq.1),this.2⟩
theorem DR {c d:Sc} {m m' k k':Nat} (h:c.Ok m k) (h':d.Ok m' k'):(c.inter d).Ok (m*m') (k+k'):=by
 cases c with
 | ver v=>
   show (if d.mat v then Sc.ver v else .rng []).Ok _ _;split
   · exact h
   exact ⟨Nat.zero_le _,by simp⟩
 | rng ps=>
   cases d with
   | ver x=>
     show (if (Sc.rng ps).mat x then Sc.ver x else .rng []).Ok _ _;split
     · exact h'
     exact ⟨Nat.zero_le _,by simp⟩
   | rng qs=>exact Ck h h'
theorem cQ (s:aa) (i j:Nat):(s.extract i j).size=min j s.size - i:=ByteArray.size_extract
theorem cw (s:aa):(bR s).size=s.size - 1:=by unfold bR;rw [cQ];omega
theorem DT {s:aa} {n:Nat} (h:numOf s=some n):n<18446744073709551616:=by
 unfold numOf at h;split at h
 · rename_i u hu;injection h with h
   subst h;exact Lib.parseUint10_lt _ 0 _ (by omega) hu
 cases h
theorem DU:∀(k:Nat) (r:aa) (ns ns':List Nat) (r':aa),oY k r ns=some (ns',r')->(∀n∈ns,n<18446744073709551616)->(∀n∈ns',n<18446744073709551616)/\r'.size<=r.size/\(ns.length<ns'.length\/k=0)
 | 0,r,ns,ns',r',h,hn=>by
   simp only [oY,Option.some.injEq,Prod.mk.injEq] at h;obtain ⟨rfl,rfl⟩:=h
   exact ⟨hn,Nat.le_refl _, .inr rfl⟩
 | k+1,r,ns,ns',r',h,hn=>by
   simp only [oY] at h;split at h
   · cases h
   split at h
   · cases h
   rename_i n iM
   have qw:∀x∈ns++ [n],x<18446744073709551616:=fun x hx=>by
    rcases List.mem_append.1 hx with hx|hx
    · exact hn x hx
    simp at hx;subst hx;exact DT iM
   split at h
   · obtain ⟨h1,h2,h3⟩:=DU k _ _ _ _ h qw;rw [cw,cQ] at h2;refine ⟨h1,by omega, .inl ?_⟩;rcases h3 with h3|h3
     · simp at h3;omega
     subst h3;simp only [oY,Option.some.injEq,Prod.mk.injEq] at h;rw [<-h.1];simp
   simp only [Option.some.injEq,Prod.mk.injEq] at h;obtain ⟨rfl,rfl⟩:=h;exact ⟨qw,by rw [cQ];omega, .inl (by simp)⟩
theorem vY {r p r1:aa} {c:Nat} (h:fD r c=some (p,r1)):p.size<=r.size/\r1.size<=r.size:=by
 unfold fD at h;split at h
 · split at h
   · cases h
   simp only [Option.some.injEq,Prod.mk.injEq] at h;obtain ⟨rfl,rfl⟩:=h;rw [cQ,cQ];omega
 simp only [Option.some.injEq,Prod.mk.injEq] at h;obtain ⟨rfl,rfl⟩:=h;exact ⟨Nat.zero_le _,Nat.le_refl _⟩
theorem vZ (t:aa):(Ob t).size<=t.size:=by
 unfold Ob;split
 · rw [cw];omega
 exact Nat.le_refl _
theorem uf {ns:List Nat} (h:∀n∈ns,n<18446744073709551616) (i:Nat):ns.getD i 0<18446744073709551616:=by
 rw [List.getD_eq_getElem?_getD]
 cases hi:ns[i]? with
 | none=>simp
 | some n=>exact h n (List.mem_of_getElem? hi)
theorem qJ {t:aa} {v:SV} {n:Nat} (h:fE t=some (v,n)) (ht:t.size<=40):v.Ok/\1<=n:=by
 unfold fE at h;split at h
 · cases h
 rename_i ns r h1;split at h
 · cases h
 rename_i p r1 h2;split at h
 · cases h
 rename_i m r2 h3;split at h
 · simp only [Option.some.injEq,Prod.mk.injEq] at h;obtain ⟨rfl,rfl⟩:=h;obtain ⟨a1,a2,a3⟩:=DU _ _ _ _ _ h1 (by simp);have a4:=vY h2;have a5:=vY h3;have a6:=vZ t;refine ⟨⟨uf a1 0,uf a1 1,uf a1 2,show p.size<=40 by omega,show m.size<=40 by omega,ht⟩, ?_⟩;rcases a3 with a3|a3
   · simp at a3;omega
   cases a3
 cases h
theorem kz {P:aa->Bool} {g:aa->aa} (hg:∀s,(g s).size<=s.size):∀(k:Nat) (s:aa),(GH P g k s).size<=s.size
 | 0,s=>Nat.le_refl _
 | k+1,s=>by
   unfold GH;split
   · exact Nat.le_trans (kz hg k _) (hg s)
   exact Nat.le_refl _
theorem wj {P:aa->Bool} {g:aa->aa} (hg:∀s,P s=true->(g s).size<s.size):∀(k n:Nat) (s:aa),s.size<=k->s.size<=n->GH P g k s=GH P g n s
 | 0,0,_,_,_=>rfl
 | 0,n+1,s,h1,h2=>by
   unfold GH;split
   · rename_i h;have:=hg s h;omega
   rfl
 | k+1,0,s,h1,h2=>by
   unfold GH;split
   · rename_i h;have:=hg s h;omega
   rfl
 | k+1,n+1,s,h1,h2=>by
   unfold GH;split
   · rename_i h;have:=hg s h;exact wj hg k n (g s) (by omega) (by omega)
   rfl
theorem qf {P:aa->Bool} {g:aa->aa} (hg:∀s,P s=true->(g s).size<s.size) (s:aa):it P g s=if P s then it P g (g s) else s:=by
 unfold it
 cases hs:s.size with
 | zero=>
   cases hP:P s
   · rfl
   have:=hg s hP;omega
 | succ k=>
   show (if P s then GH P g k (g s) else s)=_;split
   · rename_i h;have:=hg s h;exact wj hg _ _ _ (by omega) (Nat.le_refl _)
   rfl
theorem nX (s:aa):(vV s).size=s.size - 1:=by unfold vV;rw [cQ];omega
theorem lf (s:aa):(l6 s).size=s.size - 2:=by unfold l6;rw [cQ];omega
theorem jn {s:aa} {c:Nat} (h:fK s c=true):0<s.size:=by
 unfold fK at h;split at h
 · assumption
 cases h
theorem qK {s:aa} {c:Nat} (h:jF s c=true):0<s.size:=by
 unfold jF at h;split at h
 · assumption
 cases h
theorem qL {s:aa} (h:fR s=true):2<s.size:=by
 unfold fR at h;split at h
 · assumption
 cases h
theorem ze (s:aa):eK s=if decide (1<s.size) && fK s 48 then eK (bR s) else s:=
 qf (fun s h=>by rw [Bool.and_eq_true] at h;have:=jn h.2;rw [cw];omega) s
theorem zf (s:aa):mV s=if fK s 32 then mV (bR s) else s:=qf (fun s h=>by have:=jn h;rw [cw];omega) s
theorem qM (s:aa):sU s=if jF s 32 then sU (vV s) else s:=qf (fun s h=>by have:=qK h;rw [nX];omega) s
theorem Cl (s:aa):qG s=if fR s && plain (l6 s) then qG (l6 s) else s:=
 qf (fun s h=>by rw [Bool.and_eq_true] at h;have:=qL h.1;rw [lf];omega) s
theorem qN (s:aa):(eK s).size<=s.size:=kz (fun s=>by rw [cw];omega) _ _
theorem zh (s:aa):(mV s).size<=s.size:=kz (fun s=>by rw [cw];omega) _ _
theorem zj (s:aa):(sU s).size<=s.size:=kz (fun s=>by rw [nX];omega) _ _
theorem Cm (s:aa):(qG s).size<=s.size:=kz (fun s=>by rw [lf];omega) _ _
theorem ir (s:aa):(di s).size<=s.size:=Nat.le_trans (zj _) (zh _)
theorem qO {t:aa} {v:SV} {n:Nat} (h:gN t=some (v,n)) (ht:t.size<=40):v.Ok/\0<t.size:=by
 unfold gN at h;split at h
 · rename_i hx;simp only [Option.some.injEq,Prod.mk.injEq] at h;obtain ⟨rfl,rfl⟩:=h;refine ⟨SV.zero_ok, ?_⟩;rcases Nat.eq_zero_or_pos t.size with h0|h0
   · have:t.toList= []:=by rw [ByteArray.toList_eq];exact List.eq_nil_of_length_eq_zero (by simpa using h0)
     simp [dL,this] at hx
   exact h0
 split at h
 · cases h
 exact ⟨(qJ h (Nat.le_trans (Cm _) ht)).1,by omega⟩
theorem DV:(0:Nat)<18446744073709551616:=by decide
theorem mW:(⟨#[]⟩:aa).size<=40:=by decide
theorem DW {v:SV} (h:v.Ok) (n:Nat):(v.after n).Ok:=by
 have h1:=h.a;have h2:=h.b;have h3:=h.c;unfold SV.after;split
 · exact ⟨Nat.mod_lt _ (by decide),DV,DV,mW,mW,mW⟩
 split
 · exact ⟨h1,Nat.mod_lt _ (by decide),DV,mW,mW,mW⟩
 exact ⟨h1,h2,Nat.mod_lt _ (by decide),mW,mW,mW⟩
theorem l7 {p:Pc} (h:p.Ok 1):(Sc.rng [p]).Ok 2 1:=⟨by simp,fun q hq=>by simp at hq;subst hq;exact h⟩
theorem Cn {g:Sg} {v:SV} {n:Nat} {c:Sc} (h:iq g v n=some c) (hv:v.Ok):c.Ok 2 1:=by
 have hz:=SV.zero_ok;have ha:=fun n=>DW hv n
 unfold iq at h;split at h
 · cases g<;>simp only [Option.some.injEq,reduceCtorEq] at h<;>subst h
   all_goals first
    | exact l7 ⟨hz,hz,Nat.zero_le _,by simp [Pc.zero]⟩
    | exact ⟨Nat.zero_le _,fun p hp=>by cases hp⟩
 cases g<;>simp only [reduceCtorEq] at h
 all_goals (try split at h)<;>simp only [Option.some.injEq] at h<;>subst h
 all_goals first
  | exact hv
  | exact l7 ⟨hv,hz,Nat.zero_le _,by simp [fk]⟩
  | exact l7 ⟨hv,ha _,Nat.zero_le _,by simp [bG]⟩
  | exact l7 ⟨hz,hv,Nat.zero_le _,by simp⟩
  | exact l7 ⟨hz,ha _,Nat.zero_le _,by simp⟩
  | exact l7 ⟨ha _,hz,Nat.zero_le _,by simp [fk]⟩
  | exact l7 ⟨hz,hz,by simp,by simpa using hv⟩
  | exact ⟨by simp,fun q hq=>by
      simp at hq;rcases hq with rfl|rfl
      · exact ⟨hz,hv,Nat.zero_le _,by simp⟩
      exact ⟨ha _,hz,Nat.zero_le _,by simp [fk]⟩⟩
theorem sV {t:aa} {b:Bool} {c:Sc} (h:fo (di t) b=some c) (ht:t.size<=40):c.Ok 2 1/\0<t.size:=by
 unfold fo at h;split at h
 · cases h
 rename_i v n hp;have h1:=ir ((di t).extract (ops (di t).data.toList) (di t).size);rw [cQ] at h1;have h2:=ir t;obtain ⟨h3,h4⟩:=qO hp (by omega);exact ⟨Cn h h3,by omega⟩
def lens (l:List aa):Nat:=l.foldr (fun x n=>x.size+1+n) 0
theorem qP (a b:List aa):lens (a++b)=lens a+lens b:=by
 induction a with
 | nil=>simp [lens]
 | cons x r ih=>simp only [lens,List.cons_append,List.foldr_cons] at ih ⊢;omega
theorem nY {s sep:aa} (pJ:1<=sep.size):∀(k i last:Nat) (out:List aa),last<=i->i<=s.size+1->last<=s.size->lens (ud s sep k i last out)<=lens out+(s.size+1 - last)
 | 0,_,_,_,_,_,_=>Nat.le_add_right _ _
 | k+1,i,last,out,h1,h2,h3=>by
   unfold ud;split
   · split
     · have:=nY (s:=s) pJ k (i+sep.size) (i+sep.size) (out++ [s.extract last i]) (Nat.le_refl _) (by omega) (by omega);rw [qP] at this;simp only [lens,List.foldr_cons,List.foldr_nil,cQ] at this ⊢;omega
     exact nY (s:=s) pJ k (i+1) last out (by omega) (by omega) h3
   rw [qP];simp only [lens,List.foldr_cons,List.foldr_nil,cQ];omega
theorem kA (s sep:aa) (pJ:1<=sep.size):lens (cP s sep)<=s.size+1:=by
 have:=nY (s:=s) pJ (s.size+1) 0 0 [] (Nat.le_refl _) (by omega) (Nat.zero_le _);simpa [cP,lens] using this
theorem DX {l:List aa} {x:aa} (h:x∈l):x.size+1<=lens l:=by
 induction l with
 | nil=>cases h
 | cons y r ih=>
   simp only [lens,List.foldr_cons];rcases List.mem_cons.1 h with rfl|h
   · omega
   have:=ih h;simp only [lens] at this;omega
theorem DY (l:List aa):l.length<=lens l:=by
 induction l with
 | nil=>exact Nat.zero_le _
 | cons y r ih=>simp only [lens,List.foldr_cons,List.length_cons] at ih ⊢;omega
theorem Co (l:List aa) (j:Nat):lens (l.take j)<=lens l:=by
 have:=qP (l.take j) (l.drop j);rw [List.take_append_drop] at this;omega
theorem DZ {l:List aa} (h:∀x∈l,0<x.size):2*l.length<=lens l:=by
 induction l with
 | nil=>exact Nat.zero_le _
 | cons y r ih=>
   have:=ih fun x hx=>h x (.tail _ hx)
   have:=h y (.head _);simp only [lens,List.foldr_cons,List.length_cons] at*;omega
theorem lg {s sep x:aa} (pJ:1<=sep.size) (hs:s.size<=40) (h:x∈cP s sep):x.size<=40:=by
 have:=DX h;have:=kA s sep pJ;omega
theorem nZ {s sep:aa} (pJ:1<=sep.size) (hs:s.size<=40):(cP s sep).length<=41:=by
 have:=DY (cP s sep);have:=kA s sep pJ;omega
theorem zk {s sep:aa} (pJ:1<=sep.size) (hs:s.size<=40) {j:Nat} (hj:j<=(cP s sep).length) (h:∀x∈(cP s sep).take j,0<x.size):j<=20:=by
 have h1:=DZ h;have h2:=Co (cP s sep) j;have h3:=kA s sep pJ;rw [List.length_take,Nat.min_eq_left hj] at h1;omega
open Go.Proofs.Tryz
theorem D2 (s:aa) (k n p:Nat) (h:k<s.size):tY (s.data.toList.drop k) k n p=if GG s[k].toNat then tY (s.data.toList.drop (k+1)) (k+1) (k+1) (p+1) else if s[k].toNat=46/\0<p then tY (s.data.toList.drop (k+1)) (k+1) n 0 else n:=by
 rw [drop_cons s k h];rfl
theorem f179 (s:aa) (w:World) (hs:s.size<=140737488351232):
 Calls Tryz.prog 179 #[.string s] w fun e w'=>e= .returned (.int .i64 (dN s))/\w'=w:=by
 go_enter func179,ntmps179;go_wp2;go_loop [3,4,5] (fun n p i=>∃k a b:Nat,i= .int .i64 k/\n= .int .i64 a/\p= .int .i64 b/\k<=s.size/\a<=k/\b<=k/\Hid (dN s=tY (s.data.toList.drop k) k a b)) (fun _ _ i=>s.size - (intOf i).toNat)
 case atStart=>exact ⟨0,0,0,rfl,rfl,rfl,by omega,by omega,by omega,Y0 rfl⟩
 obtain ⟨k,a,b,rfl,rfl,rfl,hk,ha,hb,H⟩:=hrel;by_cases hlt:k<s.size
 · have hst:=Y0 (D2 s k a b hlt);go_wp2
   all_goals (try simp only [beq_iff_eq,beq_eq_false_iff_ne,ne_eq] at*)
   all_goals first
    | (have hid:GG s[k].toNat:=by unfold GG;omega
       go_round
       case rel=>exact ⟨k+1,k+1,b+1,by go_num,by go_num,by go_num,by omega,by omega,by omega,Y0 (by rw [H.out,hst.out,if_pos hid])⟩
       simp [intOf];omega)
    | (have hid:¬GG s[k].toNat:=by unfold GG;omega
       have hd:s[k].toNat=46/\0<b:=by omega
       go_round
       case rel=>exact ⟨k+1,a,0,by go_num,rfl,rfl,by omega,by omega,by omega,Y0 (by rw [H.out,hst.out,if_neg hid,if_pos hd])⟩
       simp [intOf];omega)
    | (have hid:¬GG s[k].toNat:=by unfold GG;omega
       have hd:¬(s[k].toNat=46/\0<b):=by omega
       go_ret;exact ⟨bW (by rw [H.out,hst.out,if_neg hid,if_neg hd]),rfl⟩)
 have hk2:k=s.size:=by omega
 subst hk2;go_wp2;go_ret;exact ⟨bW (by rw [H.out,dZ];rfl),rfl⟩
theorem D3 (s:aa) (k:Nat) (h:k<s.size):mU (s.data.toList.drop k)=if s[k].toNat=46 then some 0 else (mU (s.data.toList.drop (k+1))).map (· +1):=by
 rw [drop_cons s k h];rfl
theorem zm {s:aa} {n:Nat} (h:mU s.data.toList=some n):bX s=(s.extract 0 n,s.extract (n+1) s.size):=by unfold bX;rw [h]
theorem zt {s:aa} (h:mU s.data.toList=none):bX s=(s,⟨#[]⟩):=by unfold bX;rw [h]
theorem qQ (s:aa):(bX s).1.size<=s.size/\(bX s).2.size<=s.size/\(0<s.size->(bX s).2.size<s.size):=by
 unfold bX;split
 · simp only [cQ];omega
 simp only;exact ⟨Nat.le_refl _,Nat.zero_le _,fun h=>h⟩
theorem f289 (s:aa) (w:World) (hs:s.size<=140737488351232):
 Calls Tryz.prog 289 #[.string s] w fun e w'=>e= .returned (.tuple #[.string (bX s).1, .string (bX s).2])/\∃n,w'=w.drewN n:=by
 go_enter func289,ntmps289;go_wp2;go_loop [4] (fun i=>∃k:Nat,i= .int .i64 k/\k<=s.size/\Hid (mU s.data.toList=(mU (s.data.toList.drop k)).map (· +k))) (fun i=>s.size - (intOf i).toNat)
 case atStart=>exact ⟨0,rfl,by omega,Y0 (by simp)⟩
 obtain ⟨k,rfl,hk,H⟩:=hrel;by_cases hlt:k<s.size
 · have hst:=Y0 (D3 s k hlt);by_cases h1:s[k].toNat=46
   · have hq:((s[k].toNat:Int)==46)=true:=by simp [h1]
     have hd:Hid (mU s.data.toList=some k):=Y0 (by rw [H.out,hst.out,if_pos h1];simp);clear h1;have Pg:IntKind.i64.wrap ((k:Int)+1)=(k:Int)+1:=IntWalk.i64_in _ (by omega);have se:(k:Int)+1<=(s.size:Int):=by omega
     have hp0:0<=(k:Int)+1:=by omega
     have htn:((k:Int)+1).toNat=k+1:=by omega
     have aad:(k:Int)<=(s.size:Int):=by omega
     have zu:(k:Int)<(s.size:Int):=by omega
     go_wp2;go_quiet (fail);go_wp2;go_ret2;rw [zm hd.out];exact ⟨rfl,_,rfl⟩
   have hq:((s[k].toNat:Int)==46)=false:=by simp;omega
   have H1:=Y0 h1;clear h1;go_wp2;go_round
   case rel=>
    refine ⟨k+1,by go_num,by omega,Y0 ?_⟩;rw [H.out,hst.out,if_neg H1.out,Option.map_map];congr 1;funext x;simp;omega
   simp [intOf];omega
 go_wp2;have hk2:k=s.size:=by omega
 subst hk2;go_ret2;have h:=H.out;rw [dZ] at h;rw [zt h];exact ⟨rfl,0,rfl⟩
theorem f291 (s:aa) (w:World) (hs:s.size<=140737488351232):
 Calls Tryz.prog 291 #[.string s] w fun e w'=>e= .returned (.bool (sf s))/\w'=w:=by
 go_enter func291,ntmps291;go_wp2;go_loop [3] (fun i=>∃k:Nat,i= .int .i64 k/\k<=s.size/\Hid ((s.data.toList.take k).all Ci=true)) (fun i=>s.size - (intOf i).toNat)
 case atStart=>exact ⟨0,rfl,by omega,Y0 rfl⟩
 obtain ⟨k,rfl,hk,H⟩:=hrel;by_cases hlt:k<s.size
 · have hst:=Y0 (iY s Ci k hlt);have hno:=Y0 (jD s Ci k hlt);go_wp2
   all_goals first
    | (have hd:¬l5 s[k].toNat:=by unfold l5;omega
       go_ret;refine ⟨aq ?_,rfl⟩;unfold sf;rw [hno.out (by unfold Ci;simpa using hd)]
       rfl)
    | (have hd:l5 s[k].toNat:=by unfold l5;omega
       go_round
       case rel=>exact ⟨k+1,by go_num,by omega,Y0 (by rw [hst.out,H.out];unfold Ci;simpa using hd)⟩
       simp [intOf];omega)
 have hk2:k=s.size:=by omega
 subst hk2;have h:=H.out;rw [iZ] at h;have HA:=Y0 h;clear h;go_wp2;go_ret;refine ⟨aq ?_,rfl⟩;unfold sf;rw [HA.out,fP];rw [Bool.eq_iff_iff];simp [<-ByteArray.size_eq_zero_iff];omega
def AW:Value->Nat
 | .string s=>s.size
 | _=>0
theorem Od {s:aa} {c:Nat} (h:fK s c=true):∃hp:0<s.size,s[0].toNat=c:=by
 unfold fK at h;split at h
 · rename_i hp;exact ⟨hp,by simpa using h⟩
 cases h
theorem jG {s:aa} {c:Nat} (hp:0<s.size):fK s c=decide (s[0].toNat=c):=by unfold fK;rw [dif_pos hp]
theorem lh {s:aa} {c:Nat} (hp:s.size=0):fK s c=false:=by unfold fK;rw [dif_neg (by omega)]
theorem sW {s:aa} {c:Nat} (hp:0<s.size):jF s c=decide (s[s.size - 1].toNat=c):=by unfold jF;rw [dif_pos hp]
theorem wu {s:aa} {c:Nat} (hp:s.size=0):jF s c=false:=by unfold jF;rw [dif_neg (by omega)]
theorem isEmpty_iff (s:aa):s.toList.isEmpty=decide (s.size=0):=by
 rw [fP,Bool.eq_iff_iff];simp [<-ByteArray.size_eq_zero_iff]
theorem f292 (s:aa) (w:World) (hs:s.size<=140737488351232):
 Calls Tryz.prog 292 #[.string s] w fun e w'=>e= .returned (.string (eK s))/\w'=w:=by
 go_enter func292,ntmps292;go_wp2;go_loop [0] (fun t=>∃r:aa,t= .string r/\r.size<=s.size/\Hid (eK s=eK r)) (fun t=>AW t)
 case atStart=>exact ⟨s,rfl,Nat.le_refl _,Y0 rfl⟩
 obtain ⟨r,rfl,hr,H⟩:=hrel;have hst:=Y0 (ze r);by_cases h1:1<r.size
 · have h0:0<r.size:=by omega
   have hh:=Y0 (jG (c:=48) h0);by_cases h2:r[0].toNat=48
   · have hq:((r[0].toNat:Int)==48)=true:=by simp [h2]
     have H2:=Y0 h2;clear h2;go_wp2;have hsz:=cw r;unfold bR at hsz;go_round
     case rel=>exact ⟨bR r,rfl,by unfold bR;omega,Y0 (by rw [H.out,hst.out,hh.out,decide_eq_true H2.out,decide_eq_true h1];rfl)⟩
     simp [AW];omega
   have hq:((r[0].toNat:Int)==48)=false:=by simp;omega
   have H2:=Y0 h2;clear h2;go_wp2;go_ret;refine ⟨?_,rfl⟩;rw [H.out,hst.out,hh.out,decide_eq_false H2.out];simp
 go_wp2;go_ret;refine ⟨?_,rfl⟩;rw [H.out,hst.out,decide_eq_false h1];simp
theorem f290 (x y:aa) (w:World) (hx:x.size<=140737488351232) (hy:y.size<=140737488351232):
 Calls Tryz.prog 290 #[.string x, .string y] w fun e w'=>e= .returned (.int .i64 (gm x y))/\w'=w:=by
 have lex:∀u v:aa,∃q1 q2:Bool,Op.bytesLess u.toList v.toList=q1/\(u.toList==v.toList)=q2/\Hid (Cj u v=if q1 then -1 else if q2 then 0 else 1):=fun u v=>⟨_,_,rfl,rfl,Y0 rfl⟩
 have HL:=Y0 lex;clear lex;cases hnx:sf x<;>cases Dk:sf y
 · obtain ⟨q1,q2,hq1,hq2,hl⟩:=HL.out x y;have hc:Hid (gm x y=Cj x y):=Y0 (by unfold gm;rw [hnx,Dk];rfl);have HN:=Y2 hnx Dk;clear hnx Dk;cases q1<;>cases q2
   all_goals
    go_enter func290,ntmps290
    go_wp2_with (first
     | (go_at_call 291;refine (f291 _ _ (by assumption)).mono ?_;(first|rw [HN.out.1]|rw [HN.out.2]);rintro e w1 ⟨rfl,rfl⟩))
    go_ret;exact ⟨bW (by rw [hc.out,hl.out];rfl),rfl⟩
 · have hc:Hid (gm x y=1):=Y0 (by unfold gm;rw [hnx,Dk];rfl);have HN:=Y2 hnx Dk;clear hnx Dk;go_enter func290,ntmps290
   go_wp2_with (first
    | (go_at_call 291;refine (f291 _ _ (by assumption)).mono ?_;(first|rw [HN.out.1]|rw [HN.out.2]);rintro e w1 ⟨rfl,rfl⟩))
   go_ret;exact ⟨bW (by rw [hc.out]),rfl⟩
 · have hc:Hid (gm x y=-1):=Y0 (by unfold gm;rw [hnx,Dk];rfl);have HN:=Y2 hnx Dk;clear hnx Dk;go_enter func290,ntmps290
   go_wp2_with (first
    | (go_at_call 291;refine (f291 _ _ (by assumption)).mono ?_;(first|rw [HN.out.1]|rw [HN.out.2]);rintro e w1 ⟨rfl,rfl⟩))
   go_ret;exact ⟨bW (by rw [hc.out]),rfl⟩
 have hc:Hid (gm x y=if (eK x).size≠(eK y).size then (if (eK x).size<(eK y).size then -1 else 1) else Cj (eK x) (eK y)):=Y0 (by unfold gm;rw [hnx,Dk];rfl);have HN:=Y2 hnx Dk;have fZ:(eK x).size<=140737488351232:=Nat.le_trans (qN x) hx;have hby:(eK y).size<=140737488351232:=Nat.le_trans (qN y) hy;clear hnx Dk;obtain ⟨u,hu⟩:∃u,u=eK x:=⟨_,rfl⟩;obtain ⟨v,hv⟩:∃v,v=eK y:=⟨_,rfl⟩;rw [<-hu,<-hv] at hc;rw [<-hu] at fZ;rw [<-hv] at hby;have HU:=Y2 hu hv;clear hu hv;by_cases hne:u.size=v.size
 · have qR:(u.size:Int)=(v.size:Int):=by omega
   have qw:((u.size:Int) !=(v.size:Int))=false:=by simp;omega
   have hcc:Hid (gm x y=Cj u v):=Y0 (by rw [hc.out,if_neg (by simpa using hne)]);have ZQ:=Y0 hne;clear hne qR;obtain ⟨q1,q2,hq1,hq2,hl⟩:=HL.out u v;cases q1<;>cases q2
   all_goals
    go_enter func290,ntmps290
    go_wp2_with (first
     | (go_at_call 291;refine (f291 _ _ (by assumption)).mono ?_;(first|rw [HN.out.1]|rw [HN.out.2]);rintro e w1 ⟨rfl,rfl⟩)
     | (go_at_call 292;refine (f292 _ _ (by assumption)).mono ?_;(first|rw [<-HU.out.1]|rw [<-HU.out.2]);rintro e w1 ⟨rfl,rfl⟩))
    go_ret;exact ⟨bW (by rw [hcc.out,hl.out];rfl),rfl⟩
 have qw:((u.size:Int) !=(v.size:Int))=true:=by simp;omega
 by_cases hlt:u.size<v.size
 all_goals
  go_enter func290,ntmps290
  go_wp2_with (first
   | (go_at_call 291;refine (f291 _ _ (by assumption)).mono ?_;(first|rw [HN.out.1]|rw [HN.out.2]);rintro e w1 ⟨rfl,rfl⟩)
   | (go_at_call 292;refine (f292 _ _ (by assumption)).mono ?_;(first|rw [<-HU.out.1]|rw [<-HU.out.2]);rintro e w1 ⟨rfl,rfl⟩))
  go_ret;exact ⟨bW (by rw [hc.out,if_pos hne];simp [hlt]),rfl⟩
end Go.Proofs.YtjenhelmpcajfaaGreatDoor
