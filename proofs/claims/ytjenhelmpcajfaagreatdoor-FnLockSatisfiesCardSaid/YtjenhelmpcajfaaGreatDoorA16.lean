/- a constraint is made of a need -/
import Derived.Test.YtjenhelmpcajfaaGreatDoorA15
import Derived.Deep.QuietTactic
import Derived.BigQuiet
set_option linter.all false
set_option maxRecDepth 100000
set_option maxHeartbeats 2000000
namespace Go.Proofs.YtjenhelmpcajfaaGreatDoor
open Go.Proofs.Tryz Go.RowKit
def Iu:Sc->GC
 | .ver v=> .ver (.un (.sem v))
 | .rng ps=> .semc (.rng ps)
def Bp (F:Nat->Prop) (w':World) (o:Option Sc) (e:Ending):Prop:=match o with
 | some c=>∃cv,e= .returned (.tuple #[cv, .nilIface])/\fU F w' cv (Iu c)
 | none=>∃m,e= .returned (.tuple #[.nilIface, .iface 253 (.pointer (some ⟨m,0,none⟩))])
theorem fV {P:Program} {fn:Func} {R:Ending->World->Prop} {a:Act} {w:World} {t u:Tmp} (h:fn.results= #[.tmp t, .tmp u]) (hd:a.defers= []) (hR:R (.returned (.tuple #[a.tmps.getD t undef,a.tmps.getD u undef])) w):bodyPost P fn R .ret a w:=
 bodyPost_ret (results_tmp2 h _ _ _) hd hR
theorem f84 {F:Nat->Prop} (text:aa) (w:World) (hs:text.size<=40) (hg:Gl w) (hF:∀b,F b->b<w.heap.size):
 Calls Tryz.prog 84 #[.string text] w fun e w'=>Bp F w' (cj text false) e/\Below w.heap.size w w':=by
 have H:=f122 (F:=F) text w hs hg hF;clear hs hg hF;generalize cj text false=res at*;have flag:True:=trivial;rcases res with _|(v|ps)
 · have H:=Y0 H;go_enter func84,ntmps84;go_wp2_with (go_at_call 122;refine H.out.mono ?_;rintro e w2 ⟨⟨m,rfl⟩,hB⟩;have HB:=Y0 hB;clear hB);refine fV (t:=2) (u:=3) rfl rfl ?_;exact ⟨⟨m,rfl⟩,HB.out⟩
 · have H:Hid (Calls Tryz.prog 122 #[.string text] w fun e w'=>e= .returned (.tuple #[.iface 264 (.agg v.arr), .nilIface])/\Below w.heap.size w w'):=Y0 (H.mono fun e w' ⟨⟨cv,he,hc⟩,hB⟩=>⟨by rw [he];have hc:cv= .iface 264 (.agg v.arr):=hc;rw [hc],hB⟩);have t1:=fun w=>Bf (.agg v.arr) w
   go_enter func84,ntmps84
   go_wp2_with (first
    | (go_at_call 122;refine H.out.mono ?_;rintro e w2 ⟨rfl,hB⟩;have HB:=Y0 hB;clear hB;have aj:True:=trivial)
    | (clear aj;refine cu (o:=⟨none,Op.store 264 (Operand.tmp 6) (Operand.tmp 19),_,_,_,_⟩) (cs:=v.arr) w2 rfl _ _ rfl rfl rfl aN rfl v.arr_one ?_;intro W3 H3;have au:True:=trivial)
    | (clear au;refine pK (o:=⟨some 22,_,_,_,_,_⟩) rfl _ rfl w2.heap.size rfl v H3.out.1 ?_;have aQ:True:=trivial)
    | (clear aQ;refine yF (o:=⟨some 23,_,_,_,_,_⟩) rfl _ _ rfl [(0, .agg v.arr)] rfl _ (uy v) ?_))
   refine fV (t:=2) (u:=3) rfl rfl ?_;exact ⟨⟨_,rfl,rfl⟩,HB.out.trans (H3.out.2.2.mono HB.out.size)⟩
 have H:Hid (Calls Tryz.prog 122 #[.string text] w fun e w'=>(∃rv,e= .returned (.tuple #[.iface 326 (.agg #[rv]), .nilIface])/\Rd mX F w' rv ps)/\Below w.heap.size w w'):=Y0 (H.mono fun e w' ⟨⟨cv,he,⟨rv,hc,hr⟩⟩,hB⟩=>⟨⟨rv,by rw [he,hc],hr⟩,hB⟩);have t1:=fun x w=>ur x w
 go_enter func84,ntmps84
 go_wp2_with (first
  | (go_at_call 122;refine H.out.mono ?_;rintro e w2 ⟨⟨rv,rfl,hr⟩,hB⟩;have HB:=Y2 hr hB;clear hB hr;have aj:True:=trivial)
  | (clear aj;refine cu (o:=⟨none,Op.store 264 (Operand.tmp 6) (Operand.tmp 19),_,_,_,_⟩) (cs:=z6) w2 rfl _ _ rfl rfl rfl aN rfl fS ?_;intro W3 H3))
 refine fV (t:=2) (u:=3) rfl rfl ?_;exact ⟨⟨_,rfl,⟨_,rfl,⟨_,rfl,HB.out.1.pure H3.out.2.2⟩⟩⟩,HB.out.2.trans (H3.out.2.2.mono HB.out.2.size)⟩
theorem f86 {F:Nat->Prop} (text:aa) (w:World) (hs:text.size<=40) (hg:Gl w) (hF:∀b,F b->b<w.heap.size):
 Calls Tryz.prog 86 #[.string text] w fun e w'=>Bp F w' (cj text true) e/\Below w.heap.size w w':=by
 have H:=f123 (F:=F) text w hs hg hF;clear hs hg hF;generalize cj text true=res at*;have flag:True:=trivial;rcases res with _|(v|ps)
 · have H:=Y0 H;go_enter func86,ntmps86;go_wp2_with (go_at_call 123;refine H.out.mono ?_;rintro e w2 ⟨⟨m,rfl⟩,hB⟩;have HB:=Y0 hB;clear hB);refine fV (t:=2) (u:=3) rfl rfl ?_;exact ⟨⟨m,rfl⟩,HB.out⟩
 · have H:Hid (Calls Tryz.prog 123 #[.string text] w fun e w'=>e= .returned (.tuple #[.iface 264 (.agg v.arr), .nilIface])/\Below w.heap.size w w'):=Y0 (H.mono fun e w' ⟨⟨cv,he,hc⟩,hB⟩=>⟨by rw [he];have hc:cv= .iface 264 (.agg v.arr):=hc;rw [hc],hB⟩);have t1:=fun w=>Bf (.agg v.arr) w
   go_enter func86,ntmps86
   go_wp2_with (first
    | (go_at_call 123;refine H.out.mono ?_;rintro e w2 ⟨rfl,hB⟩;have HB:=Y0 hB;clear hB;have aj:True:=trivial)
    | (clear aj;refine cu (o:=⟨none,Op.store 264 (Operand.tmp 6) (Operand.tmp 19),_,_,_,_⟩) (cs:=v.arr) w2 rfl _ _ rfl rfl rfl aN rfl v.arr_one ?_;intro W3 H3;have au:True:=trivial)
    | (clear au;refine pK (o:=⟨some 22,_,_,_,_,_⟩) rfl _ rfl w2.heap.size rfl v H3.out.1 ?_;have aQ:True:=trivial)
    | (clear aQ;refine yF (o:=⟨some 23,_,_,_,_,_⟩) rfl _ _ rfl [(0, .agg v.arr)] rfl _ (uy v) ?_))
   refine fV (t:=2) (u:=3) rfl rfl ?_;exact ⟨⟨_,rfl,rfl⟩,HB.out.trans (H3.out.2.2.mono HB.out.size)⟩
 have H:Hid (Calls Tryz.prog 123 #[.string text] w fun e w'=>(∃rv,e= .returned (.tuple #[.iface 326 (.agg #[rv]), .nilIface])/\Rd mX F w' rv ps)/\Below w.heap.size w w'):=Y0 (H.mono fun e w' ⟨⟨cv,he,⟨rv,hc,hr⟩⟩,hB⟩=>⟨⟨rv,by rw [he,hc],hr⟩,hB⟩);have t1:=fun x w=>ur x w
 go_enter func86,ntmps86
 go_wp2_with (first
  | (go_at_call 123;refine H.out.mono ?_;rintro e w2 ⟨⟨rv,rfl,hr⟩,hB⟩;have HB:=Y2 hr hB;clear hB hr;have aj:True:=trivial)
  | (clear aj;refine cu (o:=⟨none,Op.store 264 (Operand.tmp 6) (Operand.tmp 19),_,_,_,_⟩) (cs:=z6) w2 rfl _ _ rfl rfl rfl aN rfl fS ?_;intro W3 H3))
 refine fV (t:=2) (u:=3) rfl rfl ?_;exact ⟨⟨_,rfl,⟨_,rfl,⟨_,rfl,HB.out.1.pure H3.out.2.2⟩⟩⟩,HB.out.2.trans (H3.out.2.2.mono HB.out.2.size)⟩
theorem f90 (T:TypeId) (x:Value) (w:World) (hT:T≠257):Calls Tryz.prog 90 #[.iface T x] w fun e w'=>e= .returned (.bool false)/\Below w.heap.size w w':=by
 have b:=Wh T hT;clear hT;go_enter func90,ntmps90;go_wp2;go_ret;exact ⟨rfl,by (repeat (first|exact Below.refl _ _|refine Below.setCell ?_ (by simp) _|refine Below.alloc ?_ (by simp;try omega) _))⟩
theorem Wt (w:World):Calls Tryz.prog 90 #[.iface 257 (.agg #[])] w fun e w'=>e= .returned (.bool true)/\Below w.heap.size w w':=by
 have a:=Wf;go_enter func90,ntmps90;go_wp2;go_ret;exact ⟨rfl,by (repeat (first|exact Below.refl _ _|refine Below.setCell ?_ (by simp) _|refine Below.alloc ?_ (by simp;try omega) _))⟩
theorem f91 (T:TypeId) (x:Value) (w:World) (hT:T≠270):Calls Tryz.prog 91 #[.iface T x] w fun e w'=>e= .returned (.bool false)/\Below w.heap.size w w':=by
 have b:=Wj T hT;clear hT;go_enter func91,ntmps91;go_wp2;go_ret;exact ⟨rfl,by (repeat (first|exact Below.refl _ _|refine Below.setCell ?_ (by simp) _|refine Below.alloc ?_ (by simp;try omega) _))⟩
theorem Wu (w:World):Calls Tryz.prog 91 #[.iface 270 (.agg #[])] w fun e w'=>e= .returned (.bool true)/\Below w.heap.size w w':=by
 have a:=Wi;go_enter func91,ntmps91;go_wp2;go_ret;exact ⟨rfl,by (repeat (first|exact Below.refl _ _|refine Below.setCell ?_ (by simp) _|refine Below.alloc ?_ (by simp;try omega) _))⟩
structure CD where
 kind:Int
 text:aa
 v:VD
def CD.val (c:CD) (pv:Value):Value:= .agg #[.int .i64 c.kind, .string c.text, .int .i64 c.v.kind, .string c.v.text, .string c.v.rev,pv]
def CD.g (c:CD):GC × Bool:=Bj c.kind c.text c.v
structure CD.Ok (c:CD):Prop where
 k0:0<=c.kind
 k4:c.kind<=4
 t:c.text.size<=40
 v:c.kind=4->c.v.text.size<=40/\c.v.rev.size<=40
def EW (F:Nat->Prop) (w':World) (x:GC × Bool) (e:Ending):Prop:=∃cv,e= .returned (.tuple #[cv, .bool x.2])/\fU F w' cv x.1
theorem td {F:Nat->Prop} {t:aa} {b:Bool} {w':World} {cv:Value} {c:Sc} (h:cj t b=some c) (hc:fU F w' cv (Iu c)):(oq t b).2=true/\fU F w' cv (oq t b).1:=by
 unfold oq;rw [h];cases c<;>exact ⟨rfl,hc⟩
theorem f48 {F:Nat->Prop} (c:CD) (A:Option Addr) (n cap:Nat) (w:World) (hc:c.Ok) (hg:Gl w) (hF:∀b,F b->b<w.heap.size):
 Calls Tryz.prog 48 #[c.val (.slice A n cap)] w fun e w'=>EW F w' c.g e/\Below w.heap.size w w':=by
 obtain ⟨k,t,⟨vk,vt,vr⟩⟩:=c;obtain ⟨h0,h4,ht,hv⟩:=hc;simp only at h0 h4 ht hv;obtain ⟨w1,hw1,g1,hs1,az⟩:=aZ w (.cells #[.int .i64 k, .string t, .int .i64 vk, .string vt, .string vr, .slice A n cap] 58);have HW:=Y4 hw1 g1 hs1 az;have HG:=Y0 (hg.pure az);have HF:Hid (∀b,F b->b<w1.heap.size):=Y0 fun b hb=>by have:=hF b hb;omega
 clear hw1 g1 hs1 az hg hF;simp only [CD.val,CD.g];have ways:k=0\/k=1\/k=2\/k=3\/k=4:=by omega
 rcases ways with rfl|rfl|rfl|rfl|rfl
 · clear h0 h4 hv ht;go_enter func48,ntmps48;go_wp2_with (go_at_call 83;rw [<-HW.out.1];refine (f83 _).mono ?_;rintro e w2 ⟨rfl,rfl⟩);refine fV (t:=2) (u:=3) rfl rfl ?_;exact ⟨⟨_,rfl,rfl⟩,HW.out.2.2.2⟩
 · clear h0 h4 hv ht;have c0:w1.cell? ⟨w.heap.size,0,none⟩=some (.int .i64 1):=ae HW.out.2.1 rfl;go_enter func48,ntmps48;go_wp2_with fail;rw [<-HW.out.1];go_quiet ((go_at_call 85;exact Calls.quiet_of_same (f85 _)));go_wp2;refine fV (t:=2) (u:=3) rfl rfl ?_;exact ⟨⟨_,rfl,rfl⟩,below_drewN HW.out.2.2.2⟩
 · have H:=f84 (F:=F) t w1 ht HG.out HF.out;have hp:=Y0 fun w' cv c (h:cj t false=some c) (hc:fU F w' cv (Iu c))=>td h hc
   have hn:=Y0 fun (h:cj t false=none)=>(show oq t false=(.no,false) by unfold oq;rw [h])
   clear h0 h4 hv ht;obtain ⟨g,hgg⟩:∃g,g=oq t false:=⟨_,rfl⟩;rw [<-hgg] at hp hn;rw [show Bj 2 t ⟨vk,vt,vr⟩=g by rw [hgg];rfl];clear hgg;generalize cj t false=res at*
   cases res with
   | none=>
     have hn':=Y0 (hn.out rfl);have H:=Y0 H;clear hn hp;go_enter func48,ntmps48
     go_wp2_with (first
      | (go_at_call 84;rw [<-HW.out.1];refine H.out.mono ?_;rintro e w2 ⟨⟨m,rfl⟩,hB⟩;have HB:=Y0 hB;clear hB)
      | (go_at_call 85;refine (f85 _).mono ?_;rintro e w3 ⟨rfl,rfl⟩))
     refine fV (t:=2) (u:=3) rfl rfl ?_;rw [hn'.out]
     exact ⟨⟨_,rfl,rfl⟩,HW.out.2.2.2.trans (HB.out.mono (by have:=HW.out.2.2.1;omega))⟩
   | some c=>
     have H:=Y0 H;clear hn;go_enter func48,ntmps48;go_wp2_with (go_at_call 84;rw [<-HW.out.1];refine H.out.mono ?_;rintro e w2 ⟨⟨cv,rfl,hc⟩,hB⟩;have HB:=Y2 hc hB;clear hB hc);refine fV (t:=2) (u:=3) rfl rfl ?_;have hp':=hp.out _ _ _ rfl HB.out.1;exact ⟨⟨cv,by rw [hp'.1];rfl,hp'.2⟩,HW.out.2.2.2.trans (HB.out.2.mono (by have:=HW.out.2.2.1;omega))⟩
 · have H:=f86 (F:=F) t w1 ht HG.out HF.out;have hp:=Y0 fun w' cv c (h:cj t true=some c) (hc:fU F w' cv (Iu c))=>td h hc
   have hn:=Y0 fun (h:cj t true=none)=>(show oq t true=(.no,false) by unfold oq;rw [h])
   clear h0 h4 hv ht;obtain ⟨g,hgg⟩:∃g,g=oq t true:=⟨_,rfl⟩;rw [<-hgg] at hp hn;rw [show Bj 3 t ⟨vk,vt,vr⟩=g by rw [hgg];rfl];clear hgg;generalize cj t true=res at*
   cases res with
   | none=>
     have hn':=Y0 (hn.out rfl);have H:=Y0 H;clear hn hp;go_enter func48,ntmps48
     go_wp2_with (first
      | (go_at_call 86;rw [<-HW.out.1];refine H.out.mono ?_;rintro e w2 ⟨⟨m,rfl⟩,hB⟩;have HB:=Y0 hB;clear hB)
      | (go_at_call 85;refine (f85 _).mono ?_;rintro e w3 ⟨rfl,rfl⟩))
     refine fV (t:=2) (u:=3) rfl rfl ?_;rw [hn'.out]
     exact ⟨⟨_,rfl,rfl⟩,HW.out.2.2.2.trans (HB.out.mono (by have:=HW.out.2.2.1;omega))⟩
   | some c=>
     have H:=Y0 H;clear hn;go_enter func48,ntmps48;go_wp2_with (go_at_call 86;rw [<-HW.out.1];refine H.out.mono ?_;rintro e w2 ⟨⟨cv,rfl,hc⟩,hB⟩;have HB:=Y2 hc hB;clear hB hc);refine fV (t:=2) (u:=3) rfl rfl ?_;have hp':=hp.out _ _ _ rfl HB.out.1;exact ⟨⟨cv,by rw [hp'.1];rfl,hp'.2⟩,HW.out.2.2.2.trans (HB.out.2.mono (by have:=HW.out.2.2.1;omega))⟩
 have h48:=hv rfl;have H:=Y0 (f49 ⟨vk,vt,vr⟩ w1 h48.1 HG.out);have c2:w1.cell? ⟨w.heap.size,2,none⟩=some (.int .i64 vk):=ae HW.out.2.1 rfl;have c3:w1.cell? ⟨w.heap.size,3,none⟩=some (.string vt):=ae HW.out.2.1 rfl;have c4:w1.cell? ⟨w.heap.size,4,none⟩=some (.string vr):=ae HW.out.2.1 rfl;clear h0 h4 hv ht h48;go_enter func48,ntmps48;go_wp2_with (go_at_call 49;(try rw [<-HW.out.1]);refine H.out.mono ?_;rintro e w2 ⟨rfl,hB⟩;have HB:=Y0 hB;clear hB);refine fV (t:=2) (u:=3) rfl rfl ?_;exact ⟨⟨_,rfl,rfl⟩,HW.out.2.2.2.trans (HB.out.mono (by have:=HW.out.2.2.1;omega))⟩
section
variable {P:Program} {w:World} {o:Oper} {a:Act} {K:Act->World->Prop} {Q:Exit->Act->World->Prop}
theorem ed (r:Operand) (name:String) (xs:Array Operand) (Pb:Array TypeId) (hop:o.op= .call {callee:= .invoke r name,args:=xs,argTypes:=Pb})
 (T:TypeId) (v:Value) (Hc:FuncId) (Ll:Value) (fn:Func) (hr:a.eval r= .iface T v) (hm:∀w,(method (P.types.size+Made.depth) T v name).run P w= .ok (Hc,Ll) w)
 (hf:P.funcs[Hc]?=some fn) (hb:fn.body.isNone=false) (hn:(fn.name== "runtime.NumGoroutine")=false) {args:Array Value} (hargs:xs.map a.eval=args) (R:Ending->World->Prop)
 (hc:Calls P Hc (#[Ll]++args) w R) (hK:∀e w',R e w'->∃v,e= .returned v/\K (a.put o.dst v) w'):o.wp P a w K Q:=by
 subst hargs;unfold Oper.wp
 have hcall:(invoke (.fn (.method name) #[]) (#[.iface T v]++xs.map a.eval)).run P w= .ok (.enter Hc (#[Ll]++xs.map a.eval)) w:=by
  have h0:(#[Value.iface T v]++xs.map a.eval)[0]?=some (.iface T v):=by rw [Array.getElem?_append_left (by simp)];rfl
  have h1:(#[Value.iface T v]++xs.map a.eval).extract 1 (#[Value.iface T v]++xs.map a.eval).size=xs.map a.eval:=by
   apply Array.ext';simp [List.take_of_length_le]
  simp only [invoke,h0,h1,callMethod,Sem.run_bind,Sem.run,program,Result.andThen,hm,callFunc,hf,hn,hb,Bool.false_eq_true,if_false];rfl
 have hres:(resolve a.eval {callee:= .invoke r name,args:=xs,argTypes:=Pb} o.type).run P w= .ok {target:= .fn (.method name) #[],args:= #[.iface T v]++xs.map a.eval} w:=by
  simp only [resolve,hr];rfl
 simp only [execOp,hop,Sem.run_bind,hres,Result.andThen,hcall,Oper.upon_enter]
 exact hc.mono fun e w' hR=>by
  obtain ⟨v',rfl,hk⟩:=hK e w' hR;exact hk
end
section
variable {ops:Array Oper} {rest:List Oper} {o:Oper} {a:Act} {w:World} {Q:Exit->Act->World->Prop} {F:Nat->Prop}
theorem ng {c:Sc} {cv:Value} {u:SV} (hg:o.guard=none) (r x:Operand) (ty:TypeId) (hop:o.op= .call {callee:= .invoke r "Matches",args:= #[x],argTypes:= #[ty]}) (hr:a.eval r=cv) (hx:a.eval x=u.val) (h:gq F w cv c) (hc:c.Oks) (hu:u.Ok) (b:Bool) (hb:c.mat u=b)
 (hK:∀ev w',wB b ev->Below w.heap.size w w'->wpList Tryz.prog ops Q rest (a.put o.dst ev) w'):wpList Tryz.prog ops Q (o::rest) a w:=by
 have hargs:(#[x]:Array Operand).map a.eval= #[u.val]:=by simp [hx]
 subst hb
 cases c with
 | ver v=>
   have h0:cv= .iface 264 v.val:=h;subst h0;refine aT hg r "Matches" _ _ hop 264 v.val 283 v.val _ hr (fun w=>by kernel_rfl) func283 rfl (by kernel_rfl) hargs _ (f283 v u w (by have:=hc.pr;omega) (by have:=hu.pr;omega)) ?_;rintro e w' ⟨rv,rfl,h1,h2⟩
   exact ⟨rv,rfl,hK rv w' h1 h2⟩
 | rng ps=>
   obtain ⟨rv,h0,hR⟩:=h;subst h0;obtain ⟨A,cap,rfl⟩:=hR.form;refine aT hg r "Matches" _ _ hop 326 _ 359 (.agg #[.slice A ps.length cap]) _ hr (fun w=>by kernel_rfl) func359 rfl (by kernel_rfl) hargs _ (f359 ps u _ w hR hc hu) ?_;rintro e w' ⟨rv,rfl,h1,h2⟩;exact ⟨rv,rfl,hK rv w' h1 h2⟩
end
theorem f307 {F:Nat->Prop} (c:Sc) (cv:Value) (g:GV) (w:World) (hc:gq F w cv c) (hok:c.Oks) (hg:g.Ok):Calls Tryz.prog 307 #[.agg #[cv],g.val] w fun e w'=>e= .returned (.bool (GC.mat (.semc c) g))/\Below w.heap.size w w':=by
 have EM:=Cv;have uy:=Cw;have xq:=uw;have xt:=ux;have HC:=Y0 hc;have HO:=Y0 hok
 obtain ⟨T,x,rfl⟩:∃T x,cv= .iface T x:=by
  cases c with
  | ver v=>exact ⟨_,_,hc⟩
  | rng ps=>obtain ⟨rv,h,_⟩:=hc;exact ⟨_,_,h⟩
 clear hc hok;rcases g with q|(⟨n,d⟩|q|⟨ua,ub,uc,up,um,uo⟩)|⟨(⟨n,d⟩|p|⟨ua,ub,uc,up,um,uo⟩),q⟩
 case un.sem=>
  have HG:=Y0 hg;clear hg;have hm:GC.mat (.semc c) (.un (.sem ⟨ua,ub,uc,up,um,uo⟩))=c.mat ⟨ua,ub,uc,up,um,uo⟩:=rfl;rw [hm];clear hm;obtain ⟨b,hb⟩:∃b,c.mat ⟨ua,ub,uc,up,um,uo⟩=b:=⟨_,rfl⟩;have HB:=Y0 hb;rw [hb];clear hb;simp only [GV.val,UV.val,SV.val];cases b
  · go_enter func307,ntmps307;go_wp2_with (refine ng (o:=⟨some 17,_,_,_,_,_⟩) (u:=⟨ua,ub,uc,up,um,uo⟩) rfl _ _ _ rfl rfl rfl (HC.out.pure (by repeat (first|exact Below.refl _ _|refine Below.alloc ?_ (by simp;try omega) _))) HO.out HG.out _ HB.out ?_;rintro ev w5 ⟨n5,rfl⟩ bz);go_ret;exact ⟨rfl,Below.trans (by repeat (first|exact Below.refl _ _|refine Below.alloc ?_ (by simp;try omega) _)) (bz.mono (by simp<;>omega))⟩
  go_enter func307,ntmps307;go_wp2_with (refine ng (o:=⟨some 17,_,_,_,_,_⟩) (u:=⟨ua,ub,uc,up,um,uo⟩) rfl _ _ _ rfl rfl rfl (HC.out.pure (by repeat (first|exact Below.refl _ _|refine Below.alloc ?_ (by simp;try omega) _))) HO.out HG.out _ HB.out ?_;intro ev w5 hev bz;have L9:ev= .nilIface:=hev;subst L9;clear hev);go_ret;exact ⟨rfl,Below.trans (by repeat (first|exact Below.refl _ _|refine Below.alloc ?_ (by simp;try omega) _)) (bz.mono (by simp<;>omega))⟩
 case pair.sem=>
  have HG:=Y0 hg.1;clear hg;have hm:GC.mat (.semc c) (.pair (.sem ⟨ua,ub,uc,up,um,uo⟩) q)=c.mat ⟨ua,ub,uc,up,um,uo⟩:=rfl;rw [hm];clear hm;obtain ⟨b,hb⟩:∃b,c.mat ⟨ua,ub,uc,up,um,uo⟩=b:=⟨_,rfl⟩;have HB:=Y0 hb;rw [hb];clear hb;simp only [GV.val,UV.val,SV.val];cases b
  · go_enter func307,ntmps307;go_wp2_with (refine ng (o:=⟨some 33,_,_,_,_,_⟩) (u:=⟨ua,ub,uc,up,um,uo⟩) rfl _ _ _ rfl rfl rfl (HC.out.pure (by repeat (first|exact Below.refl _ _|refine Below.alloc ?_ (by simp;try omega) _))) HO.out HG.out _ HB.out ?_;rintro ev w5 ⟨n5,rfl⟩ bz);go_ret;exact ⟨rfl,Below.trans (by repeat (first|exact Below.refl _ _|refine Below.alloc ?_ (by simp;try omega) _)) (bz.mono (by simp<;>omega))⟩
  go_enter func307,ntmps307;go_wp2_with (refine ng (o:=⟨some 33,_,_,_,_,_⟩) (u:=⟨ua,ub,uc,up,um,uo⟩) rfl _ _ _ rfl rfl rfl (HC.out.pure (by repeat (first|exact Below.refl _ _|refine Below.alloc ?_ (by simp;try omega) _))) HO.out HG.out _ HB.out ?_;intro ev w5 hev bz;have L9:ev= .nilIface:=hev;subst L9;clear hev);go_ret;exact ⟨rfl,Below.trans (by repeat (first|exact Below.refl _ _|refine Below.alloc ?_ (by simp;try omega) _)) (bz.mono (by simp<;>omega))⟩
 all_goals
  clear hg HC HO;simp only [GV.val,UV.val,SV.val];go_enter func307,ntmps307;go_wp2;go_ret;exact ⟨rfl,by (repeat (first|exact Below.refl _ _|refine Below.setCell ?_ (by simp) _|refine Below.alloc ?_ (by simp;try omega) _))⟩
end Go.Proofs.YtjenhelmpcajfaaGreatDoor
