/- constraints match versions -/
import Derived.Lib.AppendIntMem
import Derived.BigCall
import Derived.BigGuard
import Derived.Deep.RegionHeld3
import Derived.Handy
import Derived.Test.YtjenhelmpcajfaaGreatDoorA08
set_option linter.all false
set_option maxRecDepth 100000
set_option maxHeartbeats 6400000
namespace Go.Proofs.YtjenhelmpcajfaaGreatDoor
open Go.RowKit
inductive UV where
 | br (n:aa) (d:Bool)
 | pl (s:aa)
 | sem (v:SV)
inductive GV where
 | rev (r:aa)
 | un (u:UV)
 | pair (u:UV) (r:aa)
inductive GC where
 | any
 | no
 | ver (v:GV)
 | semc (c:Sc)
def UV.val:UV->Value
 | .br n d=> .iface 284 (.agg #[.string n, .bool d])
 | .pl s=> .iface 285 (.string s)
 | .sem v=> .iface 267 v.val
def GV.val:GV->Value
 | .rev r=> .iface 144 (.string r)
 | .un u=>u.val
 | .pair u r=> .iface 287 (.agg #[u.val, .string r])
def fU (F:Nat->Prop) (w:World) (cv:Value):GC->Prop
 | .any=>cv= .iface 257 (.agg #[])
 | .no=>cv= .iface 270 (.agg #[])
 | .ver g=>cv=g.val
 | .semc c=>∃v,cv= .iface 269 (.agg #[v])/\gq F w v c
def UV.mat:UV->UV->Bool
 | .br n _, .br m _=>n.toList==m.toList
 | .pl s, .pl t=>s.toList==t.toList
 | .sem v, .sem u=>yD v u
 | _,_=>false
def GV.mat:GV->GV->Bool
 | .rev r, .rev q=>r.toList==q.toList
 | .rev r, .pair _ q=>r.toList==q.toList
 | .rev _, .un _=>false
 | .un u, .un x=>u.mat x
 | .un u, .pair x _=>x.mat u
 | .un _, .rev _=>false
 | .pair _ r, .pair _ q=>r.toList==q.toList
 | .pair _ r, .rev q=>r.toList==q.toList
 | .pair u _, .un x=>u.mat x
def GC.mat:GC->GV->Bool
 | .any,_=>true
 | .no,_=>false
 | .ver g,v=>g.mat v
 | .semc c, .un (.sem v)=>c.mat v
 | .semc c, .pair (.sem v) _=>c.mat v
 | .semc _,_=>false
def EE (t:aa):UV:=match fE t with
 | some (v,_)=> .sem v
 | none=> .pl t
def xk (v:VD):Option UV:=if v.kind=1 then some (.br v.text false) else if v.kind=2 then some (.br v.text true) else if v.kind=3 then some (EE v.text) else none
def jH (v:VD):GV:=match xk v with
 | none=> .rev v.text
 | some u=>if v.rev.size=0 then .un u else .pair u v.rev
def oq (t:aa) (b:Bool):GC × Bool:=match cj t b with
 | none=>(.no,false)
 | some (.ver v)=>(.ver (.un (.sem v)),true)
 | some (.rng ps)=>(.semc (.rng ps),true)
def Bj (k:Int) (t:aa) (v:VD):GC × Bool:=
 if k=0 then (.any,true) else if k=2 then oq t false else if k=3 then oq t true else if k=4 then (.ver (jH v),true) else (.no,decide (k=1))
def UV.Ok:UV->Prop
 | .br n _=>n.size<=40
 | .pl s=>s.size<=40
 | .sem v=>v.Ok
def GV.Ok:GV->Prop
 | .rev r=>r.size<=40
 | .un u=>u.Ok
 | .pair u r=>u.Ok/\r.size<=40
theorem Ie {t:aa} (h:t.size<=40):(EE t).Ok:=by
 unfold EE
 cases hr:fE t with
 | none=>exact h
 | some p=>exact (qJ hr h).1
theorem Ig {v:VD} {u:UV} (h:v.text.size<=40) (hu:xk v=some u):u.Ok:=by
 unfold xk at hu;split at hu
 · injection hu with hu;subst hu;exact h
 split at hu
 · injection hu with hu;subst hu;exact h
 split at hu
 · injection hu with hu;subst hu;exact Ie h
 cases hu
theorem uv {v:VD} (h:v.text.size<=40) (hr:v.rev.size<=40):(jH v).Ok:=by
 unfold jH
 cases hu:xk v with
 | none=>exact h
 | some u=>
   have h1:=Ig h hu;show (if _ then _ else _:GV).Ok;split
   · exact h1
   exact ⟨h1,hr⟩
open Go.Proofs.Tryz
section
open Go.Sort
def iP (u:Nat):aa:=⟨(Lib.decDigits u).toArray⟩
def zK (v:SV):aa:=iP v.a++⟨#[46]⟩++iP v.b++⟨#[46]⟩++iP v.c
def jI (v:SV):aa:=
 if v.mt.toList.isEmpty then (if v.pr.toList.isEmpty then zK v else zK v++(⟨#[45]⟩++v.pr)) else (if v.pr.toList.isEmpty then zK v else zK v++(⟨#[45]⟩++v.pr))++(⟨#[43]⟩++v.mt)
def kG (s:aa) (b:Bool):aa:=if b then s++⟨#[61]⟩ else s
def lS (a b:aa):aa:=if a.toList.isEmpty then b else a++⟨#[44,32]⟩++b
theorem xn {u:Nat} (h1:1<=u) (h:u<18446744073709551616):Lib.nDigits u<=20:=by
 have:=Lib.numDigits_eq u h1 h;split at this<;>omega
theorem lu {u:Nat} (h:u<18446744073709551616):(iP u).size<=20:=by
 have e:(iP u).size=(Lib.decDigits u).length:=by simp [iP,ByteArray.size]
 rw [e,Lib.decDigits_length];rcases Nat.eq_zero_or_pos u with rfl|h1
 · unfold Lib.nDigits;simp
 exact xn h1 h
theorem Ke (c:UInt8):(⟨#[c]⟩:aa).size=1:=rfl
theorem Wa (c d:UInt8):(⟨#[c,d]⟩:aa).size=2:=rfl
theorem sz4 (a b c d:UInt8):(⟨#[a,b,c,d]⟩:aa).size=4:=rfl
theorem Ih {v:SV} (hv:v.Ok):(zK v).size<=62:=by
 have ha:=lu hv.a;have hb:=lu hv.b;have hc:=lu hv.c;unfold zK;simp only [ByteArray.size_append,Ke];omega
theorem jJ {v:SV} (hv:v.Ok):(jI v).size<=200:=by
 have h1:=Ih hv;have h2:=hv.pr;have h3:=hv.mt;unfold jI;split<;>split<;>(try simp only [ByteArray.size_append,Ke])<;>omega
theorem qZ (a b:aa):(lS a b).size<=a.size+2+b.size:=by
 unfold lS;split
 · omega
 simp only [ByteArray.size_append,Wa];omega
theorem f288 (u:Nat) (hu:u<18446744073709551616) (w:World) (hg:Gl w):Calls Tryz.prog 288 #[.int .u64 u, .int .i64 10] w fun e w'=>e= .returned (.string (iP u))/\Below w.heap.size w w':=by
 have Ho:=hg.tab;clear hg;by_cases hs:u<100
 · clear Ho;go_enter func288,ntmps288;go_wp2_with (go_at_call 219;refine (Tryz.internal_strconv_small u hs _).mono ?_;rintro e w' ⟨rfl,rfl⟩);go_ret;exact ⟨rfl,Below.refl _ _⟩
 have hu1:1<=u:=by omega
 have Z3:=xn hu1 hu;have hal:Tryz.prog.arrayLen 392=24:=by kernel_rfl
 have hsl:∀W,(Instr.sliceAt 392 (.pointer (some ⟨w.heap.size,0,none⟩)) none (some (.int .i64 (Lib.nDigits u:Int))) none).run Tryz.prog W= .ok (.slice (some ⟨w.heap.size,0,none⟩) (Lib.nDigits u) 24) W:=fun W=>by
  rw [run_sliceAt_array_h W 392 ⟨w.heap.size,0,none⟩ (by kernel_rfl) .i64 (Lib.nDigits u:Int) (by omega) (by rw [hal];omega)];go_simp
 have We:=Lib.holds_zero0 w 392 (Lib.nDigits u) (by omega);have hfmt:=Tryz.internal_strconv_formatBase10 w.heap.size 0 24 u (Array.replicate (Lib.nDigits u) 0) (w.alloc (.cells Lib.zeros24 392)) We (by rw [Array.size_replicate];exact Lib.lt_pow_nDigits u) hu (by rw [Array.size_replicate];omega);rw [Array.size_replicate] at hfmt;have HH0:=Y0 We;clear We hal;go_enter func288,ntmps288
 go_wp2_with (first
  | (go_at_call 220;refine (Tryz.internal_strconv_numDigits u hu1 hu _ (Lib.tabIs_alloc Ho _)).mono ?_;rintro e w' ⟨rfl,rfl⟩))
 go_at_call 221;refine hfmt.mono ?_;rintro e w' ⟨rfl,k,v',dk,rfl,hF⟩
 have hcv:(convert 53 9 (.slice (some ⟨w.heap.size,0,none⟩) (Lib.nDigits u) 24)).run Tryz.prog ((putRow (fun (b:UInt8)=>Value.int .u8 (b.toNat:Int)) (w.alloc (.cells Lib.zeros24 392)) w.heap.size 0 dk).drewN k)= .ok (.string ⟨(Lib.decDigits u).toArray⟩) ((putRow (fun (b:UInt8)=>Value.int .u8 (b.toNat:Int)) (w.alloc (.cells Lib.zeros24 392)) w.heap.size 0 dk).drewN k):=by
  have h:=run_convert_bytes_back (P:=Tryz.prog) ((putRow (fun (b:UInt8)=>Value.int .u8 (b.toNat:Int)) (w.alloc (.cells Lib.zeros24 392)) w.heap.size 0 dk).drewN k) 53 9 5 ⟨w.heap.size,0,none⟩ 24 (Lib.decDigits u) underlying53 underlying5 underlying9 (fun j hj=>by
   rw [Lib.row_is_numeral hF j hj,Lib.add_plain,World.cell?_drewN];exact cell?_putRow (fun (b:UInt8)=>Value.int .u8 (b.toNat:Int)) _ w.heap.size 0 _ dk HH0.out (by rw [hF.size,Array.size_replicate]) j (by rw [hF.size];rw [Lib.decDigits_length] at hj;exact hj))
  rw [Lib.decDigits_length] at h;exact h
 go_wp2;go_ret;obtain ⟨os,eo⟩:=Lib.fin_at w (.cells Lib.zeros24 392) dk k 0;refine ⟨rfl, ?_⟩;rw [eo];exact Lib.below_grow _ _ (Nat.le_refl _) _ _
theorem f286 (u:Nat) (hu:u<18446744073709551616) (w:World) (hg:Gl w):Calls Tryz.prog 286 #[.int .u64 u, .int .i64 10] w fun e w'=>e= .returned (.string (iP u))/\Below w.heap.size w w':=by
 have H:=Y0 (f288 u hu w hg);clear hg hu;go_enter func286,ntmps286;go_wp2_with (go_at_call 288;refine H.out.mono ?_;rintro e w1 ⟨rfl,hB⟩);go_ret;exact ⟨rfl,hB⟩
theorem aK {w W:World} {g j:Nat} {cs:Array Value} {t:TypeId} (h:w.heap[g]?=some (.cells cs t (0,0))) (hb:Below w.heap.size w W):∀v,cs[j]?=some v->W.cell? ⟨g,j,none⟩=some v:=fun _ hv=>ae ((hb.block _ (Array.getElem?_eq_some_iff.1 h).1).trans h) hv
theorem f284 (v:SV) (hv:v.Ok) (w:World) (hg:Gl w):Calls Tryz.prog 284 #[v.val] w fun e w'=>e= .returned (.string (jI v))/\Below w.heap.size w w':=by
 obtain ⟨va,vb,vc,vp,vm,vo⟩:=v;simp only [SV.val];have HV:=Y0 hv;have hvp:vp.size<=40:=hv.pr;have hvm:vm.size<=40:=hv.mt;obtain ⟨w1,hw1,hblk,hsz,az⟩:=aZ w (.cells #[.int .u64 va, .int .u64 vb, .int .u64 vc, .string vp, .string vm, .string vo] 264);have hS:Hid (∀W,Below w1.heap.size w1 W->Below w1.heap.size w1 W/\W.cell? ⟨w.heap.size,0,none⟩=some (.int .u64 va)/\W.cell? ⟨w.heap.size,1,none⟩=some (.int .u64 vb)/\W.cell? ⟨w.heap.size,2,none⟩=some (.int .u64 vc)):=Y0 fun W hW=>⟨hW,aK hblk hW _ rfl,aK hblk hW _ rfl,aK hblk hW _ rfl⟩
 have HG:=Y0 (hg.pure az);have HB:=Y3 az hblk hw1;clear hg az hblk hsz hw1;have ha:(iP va).size<=20:=lu hv.a;have hb:(iP vb).size<=20:=lu hv.b;have hc:(iP vc).size<=20:=lu hv.c;clear hv;have k1:¬9223372036854775807<(iP va).size+1:=by omega
 have k2:¬9223372036854775807<(iP va).size+1+(iP vb).size:=by omega
 have k3:¬9223372036854775807<(iP va).size+1+(iP vb).size+1:=by omega
 have k4:¬9223372036854775807<(iP va).size+1+(iP vb).size+1+(iP vc).size:=by omega
 have hemp:=Y0 (isEmpty_iff vp);have aal:=Y0 (isEmpty_iff vm);go_enter func284,ntmps284;go_wp2;rw [<-HB.out.2.2];go_region_held3 (fun W=>Below w1.heap.size w1 W/\W.cell? ⟨w.heap.size,0,none⟩=some (.int .u64 va)/\W.cell? ⟨w.heap.size,1,none⟩=some (.int .u64 vb)/\W.cell? ⟨w.heap.size,2,none⟩=some (.int .u64 vc)) (first|assumption|exact hS.out _ (by repeat first|exact Below.refl _ _|refine Below.drew ?_)) (first|(go_at_call 286;have aR:Below w1.heap.size w1 _/\_:=(by assumption);refine (f286 _ (by first|exact HV.out.a|exact HV.out.b|exact HV.out.c) _ (HG.out.pure aR.1)).mono ?_;rintro e w3 ⟨rfl,bb⟩;have iT:=hS.out w3 (aR.1.trans (bb.mono aR.1.size))));have hBB:Hid (Below w.heap.size w w3):=Y0 (HB.out.1.trans (iT.1.mono HB.out.1.size));have hblk:Hid (w3.heap[w.heap.size]?=some (.cells #[.int .u64 va, .int .u64 vb, .int .u64 vc, .string vp, .string vm, .string vo] 264 (0,0))):=Y0 ((iT.1.block _ (Array.getElem?_eq_some_iff.1 HB.out.2.1).1).trans HB.out.2.1);have c3:w3.cell? ⟨w.heap.size,3,none⟩=some (.string vp):=ae hblk.out rfl;have c4:w3.cell? ⟨w.heap.size,4,none⟩=some (.string vm):=ae hblk.out rfl;have hpc:vp.toList.isEmpty=true\/vp.toList.isEmpty=false:=by cases vp.toList.isEmpty<;>simp
 have T4:vm.toList.isEmpty=true\/vm.toList.isEmpty=false:=by cases vm.toList.isEmpty<;>simp
 have kt:(iP va).size+1+(iP vb).size+1+(iP vc).size<=62:=by omega
 clear k1 k2 k3 k4 hS;rcases hpc with hpc|hpc<;>rcases T4 with T4|T4
 all_goals
  go_wp2;go_ret;exact ⟨by simp only [jI,zK,hpc,T4];rfl,hBB.out⟩
theorem f281 (v:SV) (hv:v.Ok) (w:World) (hg:Gl w):Calls Tryz.prog 281 #[v.val] w fun e w'=>e= .returned (.string (⟨#[61]⟩++jI v))/\Below w.heap.size w w':=by
 have hb0:Below w.heap.size w (w.alloc (.cells #[.int .u64 v.a, .int .u64 v.b, .int .u64 v.c, .string v.pr, .string v.mt, .string v.og] 264)):=(Below.refl _ _).alloc (Nat.le_refl _) _;have H:=f284 v hv _ (hg.pure hb0);have hs:=jJ hv;clear hv hg;generalize jI v=s at*;obtain ⟨va,vb,vc,vp,vm,vo⟩:=v;simp only [SV.val] at*;have H:=Y0 H;go_enter func281,ntmps281;go_wp2_with (go_at_call 284;refine H.out.mono ?_;rintro e w1 ⟨rfl,hB⟩);go_ret;exact ⟨rfl,hb0.trans (hB.mono hb0.size)⟩
theorem f366 (s:aa) (b:Bool) (w:World) (hs:s.size<=1000):Calls Tryz.prog 366 #[.string s, .bool b] w fun e w'=>e= .returned (.string (kG s b))/\w'=w:=by
 cases b
 · go_enter func366,ntmps366;go_wp2;go_ret;exact ⟨rfl,rfl⟩
 go_enter func366,ntmps366;go_wp2;go_ret;exact ⟨rfl,rfl⟩
theorem f365 (a b:aa) (w:World) (ha:a.size<=1000000000) (hb:b.size<=1000000000):Calls Tryz.prog 365 #[.string a, .string b] w fun e w'=>e= .returned (.string (lS a b))/\w'=w:=by
 cases h:a.toList.isEmpty
 · go_enter func365,ntmps365;go_wp2;go_ret;exact ⟨by simp only [lS,h];rfl,rfl⟩
 go_enter func365,ntmps365;go_wp2;go_ret;exact ⟨by simp only [lS,h];rfl,rfl⟩
end
theorem ra {P:Program} {T:TypeId} {d:TypeDesc} (hT:P.underlying T=some d) (hd:(match d with| .interface _=>false|_=>true)=true) (x:Value) (I:TypeId) (w:World):(Instr.typeAssert (.iface T x) I T true).run P w= .ok (.tuple #[x, .bool true]) w:=by
 unfold Instr.typeAssert;simp only [Sem.run_bind,run_underlying hT,Result.andThen];cases d<;>first|(cases hd;done)|simp
theorem mj {P:Program} {T S:TypeId} {d:TypeDesc} {z:Value} (hT:P.underlying T=some d) (hd:(match d with| .interface _=>false|_=>true)=true) (hz:∀w,(zeroValue T).run P w= .ok z w) (hS:S≠T) (x:Value) (I:TypeId) (w:World):(Instr.typeAssert (.iface S x) I T true).run P w= .ok (.tuple #[z, .bool false]) w:=by
 unfold Instr.typeAssert;simp only [Sem.run_bind,run_underlying hT,Result.andThen];cases d<;>first|(cases hd;done)|simp [hS,hz]
theorem EF (x:Value) (I:TypeId) (w:World):(Instr.typeAssert (.iface 285 x) I 285 true).run Tryz.prog w= .ok (.tuple #[x, .bool true]) w:=ra underlying285 rfl x I w
theorem EG (S:TypeId) (hS:S≠285) (x:Value) (I:TypeId) (w:World):(Instr.typeAssert (.iface S x) I 285 true).run Tryz.prog w= .ok (.tuple #[.string ⟨#[]⟩, .bool false]) w:=mj underlying285 rfl (fun w=>by kernel_rfl) hS x I w
theorem EH (x:Value) (I:TypeId) (w:World):(Instr.typeAssert (.iface 284 x) I 284 true).run Tryz.prog w= .ok (.tuple #[x, .bool true]) w:=ra underlying284 rfl x I w
theorem EI (S:TypeId) (hS:S≠284) (x:Value) (I:TypeId) (w:World):(Instr.typeAssert (.iface S x) I 284 true).run Tryz.prog w= .ok (.tuple #[.agg #[.string ⟨#[]⟩, .bool false], .bool false]) w:=mj underlying284 rfl (fun w=>by kernel_rfl) hS x I w
theorem Cv (x:Value) (I:TypeId) (w:World):(Instr.typeAssert (.iface 267 x) I 267 true).run Tryz.prog w= .ok (.tuple #[x, .bool true]) w:=ra underlying267 rfl x I w
theorem Cw (S:TypeId) (hS:S≠267) (x:Value) (I:TypeId) (w:World):(Instr.typeAssert (.iface S x) I 267 true).run Tryz.prog w= .ok (.tuple #[.agg #[.int .u64 0, .int .u64 0, .int .u64 0, .string ⟨#[]⟩, .string ⟨#[]⟩, .string ⟨#[]⟩], .bool false]) w:=mj underlying267 rfl (fun w=>by kernel_rfl) hS x I w
theorem uw (x:Value) (I:TypeId) (w:World):(Instr.typeAssert (.iface 287 x) I 287 true).run Tryz.prog w= .ok (.tuple #[x, .bool true]) w:=ra underlying287 rfl x I w
theorem ux (S:TypeId) (hS:S≠287) (x:Value) (I:TypeId) (w:World):(Instr.typeAssert (.iface S x) I 287 true).run Tryz.prog w= .ok (.tuple #[.agg #[.nilIface, .string ⟨#[]⟩], .bool false]) w:=mj underlying287 rfl (fun w=>by kernel_rfl) hS x I w
theorem EJ (x:Value) (I:TypeId) (w:World):(Instr.typeAssert (.iface 144 x) I 144 true).run Tryz.prog w= .ok (.tuple #[x, .bool true]) w:=ra underlying144 rfl x I w
theorem EK (S:TypeId) (hS:S≠144) (x:Value) (I:TypeId) (w:World):(Instr.typeAssert (.iface S x) I 144 true).run Tryz.prog w= .ok (.tuple #[.string ⟨#[]⟩, .bool false]) w:=mj underlying144 rfl (fun w=>by kernel_rfl) hS x I w
theorem Wf (x:Value) (I:TypeId) (w:World):(Instr.typeAssert (.iface 257 x) I 257 true).run Tryz.prog w= .ok (.tuple #[x, .bool true]) w:=ra underlying257 rfl x I w
theorem Wh (S:TypeId) (hS:S≠257) (x:Value) (I:TypeId) (w:World):(Instr.typeAssert (.iface S x) I 257 true).run Tryz.prog w= .ok (.tuple #[.agg #[], .bool false]) w:=mj underlying257 rfl (fun w=>by kernel_rfl) hS x I w
theorem Wi (x:Value) (I:TypeId) (w:World):(Instr.typeAssert (.iface 270 x) I 270 true).run Tryz.prog w= .ok (.tuple #[x, .bool true]) w:=ra underlying270 rfl x I w
theorem Wj (S:TypeId) (hS:S≠270) (x:Value) (I:TypeId) (w:World):(Instr.typeAssert (.iface S x) I 270 true).run Tryz.prog w= .ok (.tuple #[.agg #[], .bool false]) w:=mj underlying270 rfl (fun w=>by kernel_rfl) hS x I w
theorem f276 (g:GV) (w:World):Calls Tryz.prog 276 #[.agg #[],g.val] w fun e w'=>e= .returned (.bool (GC.mat .any g))/\Below w.heap.size w w':=by
 rcases g with q|(⟨n,d⟩|q|⟨ua,ub,uc,up,um,uo⟩)|⟨(⟨n,d⟩|p|⟨ua,ub,uc,up,um,uo⟩),q⟩
 all_goals
  simp only [GV.val,UV.val,SV.val];go_enter func276,ntmps276;go_wp2;go_ret;exact ⟨rfl,by (repeat (first|exact Below.refl _ _|refine Below.setCell ?_ (by simp) _|refine Below.alloc ?_ (by simp;try omega) _))⟩
theorem f314 (g:GV) (w:World):Calls Tryz.prog 314 #[.agg #[],g.val] w fun e w'=>e= .returned (.bool (GC.mat .no g))/\Below w.heap.size w w':=by
 rcases g with q|(⟨n,d⟩|q|⟨ua,ub,uc,up,um,uo⟩)|⟨(⟨n,d⟩|p|⟨ua,ub,uc,up,um,uo⟩),q⟩
 all_goals
  simp only [GV.val,UV.val,SV.val];go_enter func314,ntmps314;go_wp2;go_ret;exact ⟨rfl,by (repeat (first|exact Below.refl _ _|refine Below.setCell ?_ (by simp) _|refine Below.alloc ?_ (by simp;try omega) _))⟩
theorem f250 (r:aa) (g:GV) (w:World):Calls Tryz.prog 250 #[.string r,g.val] w fun e w'=>e= .returned (.bool (GV.mat (.rev r) g))/\Below w.heap.size w w':=by
 have Ii:=EJ;have Ij:=EK;have xq:=uw;have xt:=ux;rcases g with q|(⟨n,d⟩|q|⟨ua,ub,uc,up,um,uo⟩)|⟨(⟨n,d⟩|p|⟨ua,ub,uc,up,um,uo⟩),q⟩
 all_goals
  simp only [GV.val,UV.val,SV.val];go_enter func250,ntmps250;go_wp2;go_ret;exact ⟨rfl,by (repeat (first|exact Below.refl _ _|refine Below.setCell ?_ (by simp) _|refine Below.alloc ?_ (by simp;try omega) _))⟩
theorem f337 (s:aa) (g:GV) (w:World):Calls Tryz.prog 337 #[.string s,g.val] w fun e w'=>e= .returned (.bool (GV.mat (.un (.pl s)) g))/\Below w.heap.size w w':=by
 have Ik:=EF;have Il:=EG;have xq:=uw;have xt:=ux;rcases g with q|(⟨n,d⟩|q|⟨ua,ub,uc,up,um,uo⟩)|⟨(⟨n,d⟩|p|⟨ua,ub,uc,up,um,uo⟩),q⟩
 all_goals
  simp only [GV.val,UV.val,SV.val];go_enter func337,ntmps337;go_wp2;go_ret;exact ⟨rfl,by (repeat (first|exact Below.refl _ _|refine Below.setCell ?_ (by simp) _|refine Below.alloc ?_ (by simp;try omega) _))⟩
theorem f327 (m:aa) (b:Bool) (g:GV) (w:World):Calls Tryz.prog 327 #[.agg #[.string m, .bool b],g.val] w fun e w'=>e= .returned (.bool (GV.mat (.un (.br m b)) g))/\Below w.heap.size w w':=by
 have Im:=EH;have Io:=EI;have xq:=uw;have xt:=ux;rcases g with q|(⟨n,d⟩|q|⟨ua,ub,uc,up,um,uo⟩)|⟨(⟨n,d⟩|p|⟨ua,ub,uc,up,um,uo⟩),q⟩
 all_goals
  simp only [GV.val,UV.val,SV.val];go_enter func327,ntmps327;go_wp2;go_ret;exact ⟨rfl,by (repeat (first|exact Below.refl _ _|refine Below.setCell ?_ (by simp) _|refine Below.alloc ?_ (by simp;try omega) _))⟩
theorem f295 (v:SV) (hv:v.Ok) (g:GV) (hg:g.Ok) (w:World):Calls Tryz.prog 295 #[v.val,g.val] w fun e w'=>e= .returned (.bool (GV.mat (.un (.sem v)) g))/\Below w.heap.size w w':=by
 have EM:=Cv;have uy:=Cw;have xq:=uw;have xt:=ux;have hp:∀u:SV,u.Ok->u.pr.size<=1000000:=fun u h=>by have:=h.pr;omega
 have HE:=Y0 fun (u:SV) (hu:u.Ok)=>(⟨fun w=>f285 v u w (hp v hv) (hp u hu),fun w=>f285 u v w (hp u hu) (hp v hv)⟩:(∀w,Calls Tryz.prog 285 #[v.val,u.val] w fun e w'=>e= .returned (.bool (yD v u))/\Below w.heap.size w w')/\(∀w,Calls Tryz.prog 285 #[u.val,v.val] w fun e w'=>e= .returned (.bool (yD u v))/\Below w.heap.size w w'))
 clear hp hv;obtain ⟨va,vb,vc,vp,vm,vo⟩:=v;rcases g with q|(⟨n,d⟩|q|⟨ua,ub,uc,up,um,uo⟩)|⟨(⟨n,d⟩|p|⟨ua,ub,uc,up,um,uo⟩),q⟩
 all_goals
  first
  | (have K1:=Y0 (HE.out ⟨ua,ub,uc,up,um,uo⟩ hg).1)
  | (have K1:=Y0 (HE.out ⟨ua,ub,uc,up,um,uo⟩ hg.1).2)
  | skip
  clear HE hg;simp only [GV.val,UV.val,SV.val];go_enter func295,ntmps295;go_wp2_with (go_at_call 285;refine (K1.out _).mono ?_;rintro e w1 ⟨rfl,hB⟩);go_ret
  first
  | exact ⟨rfl,Below.trans (by (repeat (first|exact Below.refl _ _|refine Below.setCell ?_ (by simp) _|refine Below.alloc ?_ (by simp;try omega) _))) (hB.mono (by simp<;>omega))⟩
  | exact ⟨rfl,by (repeat (first|exact Below.refl _ _|refine Below.setCell ?_ (by simp) _|refine Below.alloc ?_ (by simp;try omega) _))⟩
theorem Qd (s:aa) (r:aa) (g:GV) (hg:g.Ok) (w:World):Calls Tryz.prog 347 #[.agg #[UV.val (.pl s), .string r],g.val] w fun e w'=>e= .returned (.bool (GV.mat (.pair (.pl s) r) g))/\Below w.heap.size w w':=by
 have xq:=uw;have xt:=ux;have Ii:=EJ;have Ij:=EK;have Ik:=EF;have Il:=EG;have Im:=EH;have Io:=EI;have EM:=Cv;have uy:=Cw;obtain ⟨b,hb⟩:∃b,GV.mat (.un (.pl s)) g=b:=⟨_,rfl⟩;have HB:=Y0 hb
 have HK:Hid (∀w,Calls Tryz.prog 337 #[.string s,g.val] w fun e w'=>e= .returned (.bool b)/\Below w.heap.size w w'):=Y0 fun w=>by
  have h:=f337 s g w;rw [hb] at h;exact h
 clear hb hg;cases b
 all_goals
  rcases g with q|(⟨n,d⟩|q|⟨ua,ub,uc,up,um,uo⟩)|⟨(⟨n,d⟩|p|⟨ua,ub,uc,up,um,uo⟩),q⟩
 all_goals
  simp only [GV.val,UV.val,SV.val] at*;go_enter func347,ntmps347;go_wp2_with (go_at_call 337;refine (HK.out _).mono ?_;rintro e w1 ⟨rfl,hB⟩);go_ret;refine ⟨?_, ?_⟩
  · first
    | rfl
    | exact congrArg (fun b=>Ending.returned (.bool b)) HB.out.symm
  · first
    | ((repeat (first|exact Below.refl _ _|refine Below.setCell ?_ (by simp) _|refine Below.alloc ?_ (by simp;try omega) _));done)
    | exact Below.trans (by (repeat (first|exact Below.refl _ _|refine Below.setCell ?_ (by simp) _|refine Below.alloc ?_ (by simp;try omega) _))) (hB.mono (by simp<;>omega))
theorem Qe (m:aa) (d:Bool) (r:aa) (g:GV) (hg:g.Ok) (w:World):Calls Tryz.prog 347 #[.agg #[UV.val (.br m d), .string r],g.val] w fun e w'=>e= .returned (.bool (GV.mat (.pair (.br m d) r) g))/\Below w.heap.size w w':=by
 have xq:=uw;have xt:=ux;have Ii:=EJ;have Ij:=EK;have Ik:=EF;have Il:=EG;have Im:=EH;have Io:=EI;have EM:=Cv;have uy:=Cw;obtain ⟨b,hb⟩:∃b,GV.mat (.un (.br m d)) g=b:=⟨_,rfl⟩;have HB:=Y0 hb
 have HK:Hid (∀w,Calls Tryz.prog 327 #[.agg #[.string m, .bool d],g.val] w fun e w'=>e= .returned (.bool b)/\Below w.heap.size w w'):=Y0 fun w=>by
  have h:=f327 m d g w;rw [hb] at h;exact h
 clear hb hg;cases b
 all_goals
  rcases g with q|(⟨n,d'⟩|q|⟨ua,ub,uc,up,um,uo⟩)|⟨(⟨n,d'⟩|p|⟨ua,ub,uc,up,um,uo⟩),q⟩
 all_goals
  simp only [GV.val,UV.val,SV.val] at*;go_enter func347,ntmps347;go_wp2_with (go_at_call 327;refine (HK.out _).mono ?_;rintro e w1 ⟨rfl,hB⟩);go_ret;refine ⟨?_, ?_⟩
  · first
    | rfl
    | exact congrArg (fun b=>Ending.returned (.bool b)) HB.out.symm
  · first
    | ((repeat (first|exact Below.refl _ _|refine Below.setCell ?_ (by simp) _|refine Below.alloc ?_ (by simp;try omega) _));done)
    | exact Below.trans (by (repeat (first|exact Below.refl _ _|refine Below.setCell ?_ (by simp) _|refine Below.alloc ?_ (by simp;try omega) _))) (hB.mono (by simp<;>omega))
theorem Qf (v:SV) (hv:v.Ok) (r:aa) (g:GV) (hg:g.Ok) (w:World):Calls Tryz.prog 347 #[.agg #[UV.val (.sem v), .string r],g.val] w fun e w'=>e= .returned (.bool (GV.mat (.pair (.sem v) r) g))/\Below w.heap.size w w':=by
 have xq:=uw;have xt:=ux;have Ii:=EJ;have Ij:=EK;have Ik:=EF;have Il:=EG;have Im:=EH;have Io:=EI;have EM:=Cv;have uy:=Cw;have hp:∀u:SV,u.Ok->u.pr.size<=1000000:=fun u h=>by have:=h.pr;omega
 have HE:=Y0 fun (u:SV) (hu:u.Ok) w=>f285 v u w (hp v hv) (hp u hu)
 clear hp hv;obtain ⟨va,vb,vc,vp,vm,vo⟩:=v;rcases g with q|(⟨n,d⟩|q|⟨ua,ub,uc,up,um,uo⟩)|⟨(⟨n,d⟩|p|⟨ua,ub,uc,up,um,uo⟩),q⟩
 all_goals
  try (have K1:=HE.out ⟨ua,ub,uc,up,um,uo⟩ hg;have hm:GV.mat (.pair (.sem ⟨va,vb,vc,vp,vm,vo⟩) r) (.un (.sem ⟨ua,ub,uc,up,um,uo⟩))=yD ⟨va,vb,vc,vp,vm,vo⟩ ⟨ua,ub,uc,up,um,uo⟩:=rfl;rw [hm];clear hm;generalize yD ⟨va,vb,vc,vp,vm,vo⟩ ⟨ua,ub,uc,up,um,uo⟩=b at*;have K1:=Y0 K1;cases b)
 all_goals
  clear HE hg;simp only [GV.val,UV.val,SV.val] at*;go_enter func347,ntmps347;go_wp2_with (go_at_call 285;refine (K1.out _).mono ?_;rintro e w1 ⟨rfl,hB⟩);go_ret
  first
  | exact ⟨rfl,Below.trans (by (repeat (first|exact Below.refl _ _|refine Below.setCell ?_ (by simp) _|refine Below.alloc ?_ (by simp;try omega) _))) (hB.mono (by simp<;>omega))⟩
  | exact ⟨rfl,by (repeat (first|exact Below.refl _ _|refine Below.setCell ?_ (by simp) _|refine Below.alloc ?_ (by simp;try omega) _))⟩
theorem f347 (u:UV) (hu:u.Ok) (r:aa) (g:GV) (hg:g.Ok) (w:World):Calls Tryz.prog 347 #[.agg #[u.val, .string r],g.val] w fun e w'=>e= .returned (.bool (GV.mat (.pair u r) g))/\Below w.heap.size w w':=by
 cases u with
 | br m d=>exact Qe m d r g hg w
 | pl s=>exact Qd s r g hg w
 | sem v=>exact Qf v hu r g hg w
def ot (p:Pc) (o:aa):aa:=if p.hl then lS o (kG ⟨#[62]⟩ p.wl++jI p.lo) else o
def kH (p:Pc) (o:aa):aa:=if p.hh then lS o (kG ⟨#[60]⟩ p.wh++jI p.hi) else o
def uz (o:aa) (v:SV):aa:=lS o (⟨#[33,61]⟩++jI v)
def xu (o:aa):aa:=if o.toList.isEmpty then ⟨#[42]⟩ else o
def Dn (p:Pc):aa:=xu (p.bt.foldl uz (kH p (ot p ⟨#[]⟩)))
def Cx:Nat->List Pc->aa->aa
 | _, [],o=>o
 | i,p::r,o=>Cx (i+1) r ((if 0<i then o++⟨#[32,124,124,32]⟩ else o)++Dn p)
def zL (ps:List Pc):aa:=Cx 0 ps ⟨#[]⟩
theorem mZ (s:aa) (b:Bool):(kG s b).size<=s.size+1:=by
 unfold kG;split
 · simp only [ByteArray.size_append,Ke];omega
 omega
theorem Bl {p:Pc} {k:Nat} (hp:p.Ok k) (o:aa):(ot p o).size<=o.size+204:=by
 unfold ot;split
 · have h1:=qZ o (kG ⟨#[62]⟩ p.wl++jI p.lo);have h2:=jJ hp.lo;have h3:=mZ ⟨#[62]⟩ p.wl;rw [ByteArray.size_append] at h1;rw [Ke] at h3;omega
 omega
theorem xw {p:Pc} {k:Nat} (hp:p.Ok k) (o:aa):(kH p o).size<=o.size+204:=by
 unfold kH;split
 · have h1:=qZ o (kG ⟨#[60]⟩ p.wh++jI p.hi);have h2:=jJ hp.hi;have h3:=mZ ⟨#[60]⟩ p.wh;rw [ByteArray.size_append] at h1;rw [Ke] at h3;omega
 omega
theorem Bn {v:SV} (hv:v.Ok) (o:aa):(uz o v).size<=o.size+204:=by
 have h1:=qZ o (⟨#[33,61]⟩++jI v);have h2:=jJ hv;rw [ByteArray.size_append,Wa] at h1;unfold uz;omega
theorem Bo:∀(l:List SV) (o:aa),(∀v∈l,v.Ok)->(l.foldl uz o).size<=o.size+204*l.length
 | [],_,_=>Nat.le_add_right _ _
 | v::l,o,h=>by
   have h1:=Bn (h v (.head _)) o;have h2:=Bo l (uz o v) fun x hx=>h x (.tail _ hx)
   simp only [List.foldl_cons,List.length_cons];omega
theorem EO (o:aa):(xu o).size<=o.size+1:=by
 unfold xu;split
 · rw [Ke];omega
 omega
theorem LY {p:Pc} {k:Nat} (hp:p.Ok k):(Dn p).size<=409+204*k:=by
 have h1:=Bl hp ⟨#[]⟩;have h2:=xw hp (ot p ⟨#[]⟩);have h3:=Bo p.bt (kH p (ot p ⟨#[]⟩)) hp.bt;have h4:=EO (p.bt.foldl uz (kH p (ot p ⟨#[]⟩)));have h5:=hp.len;have h6:(⟨#[]⟩:aa).size=0:=rfl;have h7:204*p.bt.length<=204*k:=Nat.mul_le_mul_left _ h5;unfold Dn;omega
abbrev LZ (w w1:World) (p:Pc) (W:World):Prop:=Below w1.heap.size w1 W/\W.cell? ⟨w.heap.size,14,none⟩=some (.bool p.wl)/\W.cell? ⟨w.heap.size,0,none⟩=some (.int .u64 p.lo.a)/\W.cell? ⟨w.heap.size,1,none⟩=some (.int .u64 p.lo.b)/\W.cell? ⟨w.heap.size,2,none⟩=some (.int .u64 p.lo.c)/\
 W.cell? ⟨w.heap.size,3,none⟩=some (.string p.lo.pr)/\W.cell? ⟨w.heap.size,4,none⟩=some (.string p.lo.mt)/\W.cell? ⟨w.heap.size,5,none⟩=some (.string p.lo.og)
abbrev EP (w w1:World) (p:Pc) (W:World):Prop:=Below w1.heap.size w1 W/\W.cell? ⟨w.heap.size,15,none⟩=some (.bool p.wh)/\W.cell? ⟨w.heap.size,6,none⟩=some (.int .u64 p.hi.a)/\W.cell? ⟨w.heap.size,7,none⟩=some (.int .u64 p.hi.b)/\W.cell? ⟨w.heap.size,8,none⟩=some (.int .u64 p.hi.c)/\
 W.cell? ⟨w.heap.size,9,none⟩=some (.string p.hi.pr)/\W.cell? ⟨w.heap.size,10,none⟩=some (.string p.hi.mt)/\W.cell? ⟨w.heap.size,11,none⟩=some (.string p.hi.og)
theorem f364 {F:Nat->Prop} (p:Pc) (bv:Value) (w:World) (hR:Rd lO F w bv p.bt) (hp:p.Ok 1000000) (hg:Gl w):
 Calls Tryz.prog 364 #[p.val bv] w fun e w'=>e= .returned (.string (Dn p))/\Below w.heap.size w w':=by
 show Calls Tryz.prog 364 #[.agg (p.arr bv)] w _;obtain ⟨A,cap,rfl⟩:=hR.form;obtain ⟨w1,hw1,hblk,hsz,az⟩:=aZ w (.cells (p.arr (.slice A p.bt.length cap)) 329);have HC:Hid (∀W,Below w1.heap.size w1 W->∀j x,(p.arr (.slice A p.bt.length cap))[j]?=some x->W.cell? ⟨w.heap.size,j,none⟩=some x):=Y0 fun W hW j x hx=>aK hblk hW _ hx
 have HB:=Y2 az hw1;have HG:=Y0 (hg.pure az);have HR:=Y0 (hR.pure az);have HP:=Y0 hp;have lZ:=Bl hp ⟨#[]⟩;have hl2:=xw hp (ot p ⟨#[]⟩);have hl0:(⟨#[]⟩:aa).size=0:=rfl;clear az hw1 hblk hg hR hsz hp;have c12:w1.cell? ⟨w.heap.size,12,none⟩=some (.bool p.hl):=HC.out _ (Below.refl _ _) 12 _ rfl;go_enter func364,ntmps364;go_upto_region 2 with fail;rw [<-HB.out.2];go_upto_if 7 with fail;go_cut [3] (fun s wx=>s= .string (ot p ⟨#[]⟩)/\Hid (Below w1.heap.size w1 wx))
 case first=>
  cases hh:p.hl
  · have hx:Hid (ot p ⟨#[]⟩=⟨#[]⟩):=Y0 (by unfold ot;rw [hh];rfl);go_wp2;go_meet;exact ⟨by rw [hx.out],Y0 (Below.refl _ _)⟩
  have hx:Hid (ot p ⟨#[]⟩=lS ⟨#[]⟩ (kG ⟨#[62]⟩ p.wl++jI p.lo)):=Y0 (by unfold ot;rw [hh];rfl);have Ot:=mZ ⟨#[62]⟩ p.wl;have hvs:=jJ HP.out.lo;rw [Ke] at Ot;have k1:¬9223372036854775807<(kG ⟨#[62]⟩ p.wl).size+(jI p.lo).size:=by omega
  have hS:Hid (∀W,Below w1.heap.size w1 W->LZ w w1 p W):=Y0 fun W hW=>⟨hW,HC.out W hW 14 _ rfl,HC.out W hW 0 _ rfl,HC.out W hW 1 _ rfl,HC.out W hW 2 _ rfl,HC.out W hW 3 _ rfl,HC.out W hW 4 _ rfl,HC.out W hW 5 _ rfl⟩
  go_wp2;go_region_held3 (fun W=>LZ w w1 p W) (first|assumption|exact hS.out _ (by repeat first|exact Below.refl _ _|refine Below.drew ?_)) (first|(go_at_call 366;refine (f366 _ _ _ (by decide)).mono ?_;rintro e w2 ⟨rfl,rfl⟩)|(go_at_call 365;refine (f365 _ _ _ (by decide) (by rw [ByteArray.size_append];omega)).mono ?_;rintro e w2 ⟨rfl,rfl⟩)|(go_at_call 284;have aR:LZ w w1 p _:=(by assumption);refine (f284 p.lo HP.out.lo _ (HG.out.pure aR.1)).mono ?_;rintro e w3 ⟨rfl,bb⟩;have iT:=hS.out w3 (aR.1.trans (bb.mono aR.1.size))));go_wp2;go_meet;exact ⟨by rw [hx.out],Y0 iT.1⟩
 obtain ⟨rfl,hw⟩:=hcut;obtain ⟨o1,Wk⟩:∃o1,o1=ot p ⟨#[]⟩:=⟨_,rfl⟩;rw [<-Wk] at lZ hl2 ⊢;have HO1:=Y0 Wk;have iN:Hid (Below w1.heap.size w1 wc/\True):=Y0 ⟨hw.out,trivial⟩;have HG2:=Y0 (HG.out.pure hw.out);have c13:wc.cell? ⟨w.heap.size,13,none⟩=some (.bool p.hh):=HC.out _ hw.out 13 _ rfl;clear hw Wk c12;go_upto_if 18 with fail;obtain ⟨wq,rfl⟩:∃W:World,W=wc:=⟨_,rfl⟩;go_cut [3] (fun s wx=>s= .string (kH p o1)/\Hid (Below wq.heap.size wq wx))
 case first=>
  cases hh:p.hh
  · have hx:Hid (kH p o1=o1):=Y0 (by unfold kH;rw [hh];rfl);go_wp2;go_meet;exact ⟨by rw [hx.out],Y0 (Below.refl _ _)⟩
  have hx:Hid (kH p o1=lS o1 (kG ⟨#[60]⟩ p.wh++jI p.hi)):=Y0 (by unfold kH;rw [hh];rfl);have Ot:=mZ ⟨#[60]⟩ p.wh;have hvs:=jJ HP.out.hi;rw [Ke] at Ot;have k1:¬9223372036854775807<(kG ⟨#[60]⟩ p.wh).size+(jI p.hi).size:=by omega
  have hS:Hid (∀W,Below wq.heap.size wq W->EP w wq p W):=Y0 fun W hW=>⟨hW,HC.out W (iN.out.1.trans (hW.mono iN.out.1.size)) 15 _ rfl,HC.out W (iN.out.1.trans (hW.mono iN.out.1.size)) 6 _ rfl,HC.out W (iN.out.1.trans (hW.mono iN.out.1.size)) 7 _ rfl,HC.out W (iN.out.1.trans (hW.mono iN.out.1.size)) 8 _ rfl,HC.out W (iN.out.1.trans (hW.mono iN.out.1.size)) 9 _ rfl,HC.out W (iN.out.1.trans (hW.mono iN.out.1.size)) 10 _ rfl,HC.out W (iN.out.1.trans (hW.mono iN.out.1.size)) 11 _ rfl⟩
  go_wp2;go_region_held3 (fun W=>EP w wq p W) (first|assumption|exact hS.out _ (by repeat first|exact Below.refl _ _|refine Below.drew ?_)) (first|(go_at_call 366;refine (f366 _ _ _ (by decide)).mono ?_;rintro e w2 ⟨rfl,rfl⟩)|(go_at_call 365;refine (f365 _ _ _ (by omega) (by rw [ByteArray.size_append];omega)).mono ?_;rintro e w2 ⟨rfl,rfl⟩)|(go_at_call 284;have aR:EP w wq p _:=(by assumption);refine (f284 p.hi HP.out.hi _ (HG2.out.pure aR.1)).mono ?_;rintro e w3 ⟨rfl,bb⟩;have iT:=hS.out w3 (aR.1.trans (bb.mono aR.1.size))));go_wp2;go_meet;exact ⟨by rw [hx.out],Y0 iT.1⟩
 obtain ⟨rfl,hw⟩:=hcut;obtain ⟨o2,Wl⟩:∃o2,o2=kH p o1:=⟨_,rfl⟩;rw [<-Wl] at hl2 ⊢;have Wm:=Y0 Wl;have dK:Hid (Below w1.heap.size w1 wc):=Y0 (iN.out.1.trans (hw.out.mono iN.out.1.size));have c16:wc.cell? ⟨w.heap.size,16,none⟩=some (.slice A p.bt.length cap):=HC.out _ dK.out 16 _ rfl;clear hw Wl c13;have hbl:p.bt.length<=1000000:=HP.out.len;have mQ:w.heap.size<w1.heap.size:=by have:=HB.out.2;rw [this];simp
 go_wp2_with fail;go_loopw [3,31] (fun o i wr=>∃(k:Nat) (r:aa),i= .int .i64 k/\o= .string r/\k<=p.bt.length/\r.size<=500+204*k/\Hid (p.bt.foldl uz o2=(p.bt.drop k).foldl uz r)/\Hid (Below w1.heap.size w1 wr)) (fun _ i _=>p.bt.length - (intOf i).toNat)
 case atStart=>exact ⟨0,o2,rfl,rfl,by omega,by omega,Y0 rfl,dK⟩
 obtain ⟨k,r,rfl,rfl,hk,hrs,H,jz⟩:=hrel;by_cases hlt:k<p.bt.length
 · have hlt':(k:Int)<(p.bt.length:Int):=by omega
   obtain ⟨g,off,rfl,hgl,x0,x1,x2,x3,x4,x5⟩:=JZ (HR.out.pure jz.out) hlt;have xh:=HP.out.bt _ (List.getElem_mem hlt);have hdr:=Y0 (List.drop_eq_getElem_cons hlt);generalize p.bt[k]=v at*;have HV:=Y0 xh;have hvs:=jJ xh;have hbs:=Bn xh r;have k1:¬9223372036854775807<2+(jI v).size:=by omega
   clear xh lZ hl2
   go_wp2_with (first
    | (go_at_call 284;refine (f284 v HV.out _ ((HG.out.pure jz.out).pure ((Below.refl _ _).alloc (Nat.le_refl _) _))).mono ?_;rintro e w3 ⟨rfl,bb⟩;have jA:Hid (Below w1.heap.size w1 w3):=Y0 ((jz.out.alloc jz.out.size _).trans (bb.mono (by have:=jz.out.size;simp;omega)));clear bb)
    | (go_at_call 365;refine (f365 _ _ _ (by omega) (by rw [ByteArray.size_append,Wa];omega)).mono ?_;rintro e w4 ⟨rfl,rfl⟩))
   go_roundw
   case rel=>exact ⟨k+1,uz r v,by go_num,rfl,by omega,by omega,Y0 (by rw [H.out,hdr.out];rfl),jA⟩
   simp [intOf];omega
 have kJ:k=p.bt.length:=by omega
 have hlt':¬(k:Int)<(p.bt.length:Int):=by omega
 have hfin:Hid (Dn p=xu r):=Y0 (by
  have h:=H.out;rw [kJ,List.drop_length,Wm.out,HO1.out] at h;unfold Dn;rw [h];rfl)
 clear kJ;cases hq:r.toList.isEmpty
 all_goals
  go_wp2;go_ret;refine ⟨?_,HB.out.1.trans (jz.out.mono HB.out.1.size)⟩;rw [hfin.out];unfold xu;rw [hq];rfl
theorem f360 {F:Nat->Prop} (ps:List Pc) (rv:Value) (w:World) (hR:Rd mX F w rv ps) (hp:∀p∈ps,p.Ok 1000000) (hl:ps.length<=100000000) (hg:Gl w):
 Calls Tryz.prog 360 #[.agg #[rv]] w fun e w'=>e= .returned (.string (zL ps))/\Below w.heap.size w w':=by
 obtain ⟨A,cap,rfl⟩:=hR.form;obtain ⟨W2,hW2,g1,hs2,cZ⟩:=aZ w (.cells #[.slice A ps.length cap] 326);have HG:=Y3 hW2 hs2 cZ;have HR:=Y0 (hR.pure cZ);have Hp:=Y0 (hg.pure cZ);have HP:=Y0 hp;clear hW2 g1 hs2 cZ hR hg hp;go_enter func360,ntmps360;go_wp2;rw [<-HG.out.1];go_loopw [3,9] (fun o i wr=>∃(k:Nat) (r:aa),i= .int .i64 k/\o= .string r/\k<=ps.length/\r.size<=k*205000000/\Hid (zL ps=Cx k (ps.drop k) r)/\Hid (Below W2.heap.size W2 wr)) (fun _ i _=>ps.length - (intOf i).toNat)
 case atStart=>exact ⟨0,⟨#[]⟩,rfl,rfl,by omega,Nat.zero_le _,Y0 rfl,Y0 (Below.refl _ _)⟩
 obtain ⟨k,r,rfl,rfl,hk,hrs,H,jz⟩:=hrel;by_cases hlt:k<ps.length
 · obtain ⟨g,off,BA,bc,rfl,-,hg0,mJ,hcells⟩:=Be HR.out hlt;have hlt':(k:Int)<(ps.length:Int):=by omega
   have hdr:=Y0 (List.drop_eq_getElem_cons hlt);have hpo:=HP.out _ (List.getElem_mem hlt);have cz:=Y0 (hcells wr (jz.out.block g hg0));generalize ps[k]=p at*;have hsz:=LY hpo;have xd:=mJ.pure jz.out;have Z4:=Y0 fun W (hW:Below wr.heap.size wr W)=>(f364 (F:=F) p (.slice BA p.bt.length bc) W (xd.pure hW) hpo ((Hp.out.pure jz.out).pure hW):Calls Tryz.prog 364 #[.agg (p.arr (.slice BA p.bt.length bc))] W _)
   clear hcells hpo mJ xd;have k1:¬9223372036854775807<r.size+4:=by omega
   have k2:¬9223372036854775807<r.size+4+(Dn p).size:=by omega
   have k3:¬9223372036854775807<r.size+(Dn p).size:=by omega
   have jr:(Dn p).size<=204000409:=hsz;clear hsz;have hstep:Hid (zL ps=Cx (k+1) (ps.drop (k+1)) ((if 0<k then r++⟨#[32,124,124,32]⟩ else r)++Dn p)):=Y0 (by rw [H.out,hdr.out];rfl);clear H hdr;by_cases fu:0<k
   · have Wn:(0:Int)<(k:Int):=by omega
     have hst:Hid (zL ps=Cx (k+1) (ps.drop (k+1)) (r++⟨#[32,124,124,32]⟩++Dn p)):=Y0 (by have h:=hstep.out;rw [if_pos fu] at h;exact h);clear hstep fu;have flag:True:=trivial
     go_wp2_with (first
      | (clear flag;refine bu (o:=⟨some 13,_,_,_,_,_⟩) rfl 329 _ rfl ⟨g,off+k*17,none⟩ rfl (p.arr (.slice BA p.bt.length bc)) _ cz.out underlying329 rfl bj ?_;have au:True:=trivial)
      | (clear au;refine cu (o:=⟨none,Op.store 329 (Operand.tmp 5) (Operand.tmp 13),_,_,_,_⟩) (cs:=p.arr (.slice BA p.bt.length bc)) wr rfl _ _ rfl rfl rfl bj rfl (Pc.arr_one p rfl) ?_;intro W4 H4;have aQ:True:=trivial)
      | (clear aQ;refine Og (o:=⟨some 19,_,_,_,_,_⟩) rfl _ rfl wr.heap.size rfl p _ H4.out.1 ?_;have cf:True:=trivial)
      | (clear cf;go_at_call 364;refine (Z4.out _ H4.out.2.2).mono ?_;rintro e w5 ⟨rfl,bz⟩;have dS:Hid (Below W2.heap.size W2 w5):=Y0 ((jz.out.trans (H4.out.2.2.mono jz.out.size)).trans (bz.mono (by have:=jz.out.size;have:=H4.out.2.1;omega)));clear bz))
     go_roundw
     case rel=>exact ⟨k+1,_,by go_num,rfl,by omega,by simp only [ByteArray.size_append,sz4];omega,hst,dS⟩
     simp [intOf];omega
   have Wn:¬(0:Int)<(k:Int):=by omega
   have hst:Hid (zL ps=Cx (k+1) (ps.drop (k+1)) (r++Dn p)):=Y0 (by have h:=hstep.out;rw [if_neg fu] at h;exact h);clear hstep fu;have flag:True:=trivial
   go_wp2_with (first
    | (clear flag;refine bu (o:=⟨some 13,_,_,_,_,_⟩) rfl 329 _ rfl ⟨g,off+k*17,none⟩ rfl (p.arr (.slice BA p.bt.length bc)) _ cz.out underlying329 rfl bj ?_;have au:True:=trivial)
    | (clear au;refine cu (o:=⟨none,Op.store 329 (Operand.tmp 5) (Operand.tmp 13),_,_,_,_⟩) (cs:=p.arr (.slice BA p.bt.length bc)) wr rfl _ _ rfl rfl rfl bj rfl (Pc.arr_one p rfl) ?_;intro W4 H4;have aQ:True:=trivial)
    | (clear aQ;refine Og (o:=⟨some 19,_,_,_,_,_⟩) rfl _ rfl wr.heap.size rfl p _ H4.out.1 ?_;have cf:True:=trivial)
    | (clear cf;go_at_call 364;refine (Z4.out _ H4.out.2.2).mono ?_;rintro e w5 ⟨rfl,bz⟩;have dS:Hid (Below W2.heap.size W2 w5):=Y0 ((jz.out.trans (H4.out.2.2.mono jz.out.size)).trans (bz.mono (by have:=jz.out.size;have:=H4.out.2.1;omega)));clear bz))
   go_roundw
   case rel=>exact ⟨k+1,_,by go_num,rfl,by omega,by simp only [ByteArray.size_append];omega,hst,dS⟩
   simp [intOf];omega
 have hlt':¬(k:Int)<(ps.length:Int):=by omega
 have hfin:Hid (zL ps=r):=Y0 (by
  have h:=H.out;rw [show k=ps.length by omega,List.drop_length] at h;exact h)
 clear H;go_wp2;go_ret;exact ⟨by rw [hfin.out];rfl,HG.out.2.2.trans (jz.out.mono HG.out.2.2.size)⟩
theorem f357 {F:Nat->Prop} (ps:List Pc) (rv:Value) (w:World) (hR:Rd mX F w rv ps) (hp:∀p∈ps,p.Ok 1000000) (hl:ps.length<=100000000) (hg:Gl w):
 Calls Tryz.prog 357 #[.agg #[rv]] w fun e w'=>e= .returned (.string (zL ps))/\Below w.heap.size w w':=by
 obtain ⟨A,cap,rfl⟩:=hR.form;have hb:Below w.heap.size w (w.alloc (.cells #[.slice A ps.length cap] 326)):=(Below.refl _ _).alloc (Nat.le_refl _) _;have H:=Y0 (f360 ps _ _ (hR.pure hb) hp hl (hg.pure hb));clear hR hp hl hg;go_enter func357,ntmps357;go_wp2_with (go_at_call 360;refine H.out.mono ?_;rintro e w2 ⟨rfl,cZ⟩);go_ret;exact ⟨rfl,hb.trans (cZ.mono hb.size)⟩
end Go.Proofs.YtjenhelmpcajfaaGreatDoor
