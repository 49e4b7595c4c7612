/- small functions of texts -/
import Derived.Test.YtjenhelmpcajfaaGreatDoorProg
import Derived.Test.YtjenhelmpcajfaaGreatDoorA00
import Derived.Lib.Strings
import Derived.Lib.IndexBytes
import Derived.Deep.QuietTactic
import Derived.BigQuiet
import Derived.RegionTactic
set_option linter.all false
set_option maxHeartbeats 1000000
namespace Go.Proofs.YtjenhelmpcajfaaGreatDoor
open Go.Proofs.Tryz Go.RowKit
def mR (n:Nat):Prop:=(97<=n/\n<=122)\/(65<=n/\n<=90)\/(48<=n/\n<=57)\/n=47\/n=46\/n=45\/n=95
instance (n:Nat):Decidable (mR n):=by unfold mR;infer_instance
def jS (c:UInt8):Bool:=decide (mR c.toNat)
def aV (s:aa):Bool:=s.data.toList.all jS && decide (1<=s.size) && decide (s.size<=40)
theorem size_data (s:aa):s.data.toList.length=s.size:=by simp
theorem iY (s:aa) (p:UInt8->Bool) (k:Nat) (h:k<s.size):(s.data.toList.take (k+1)).all p=((s.data.toList.take k).all p && p s[k]):=by
 rw [List.take_succ_eq_append_getElem (by simpa using h)];simp;rfl
theorem iZ (s:aa) (p:UInt8->Bool):(s.data.toList.take s.size).all p=s.data.toList.all p:=by
 rw [List.take_of_length_le (by rw [size_data];exact Nat.le_refl _)]
theorem jD (s:aa) (p:UInt8->Bool) (k:Nat) (h:k<s.size) (hp:p s[k]=false):s.data.toList.all p=false:=by
 rw [List.all_eq_false];exact ⟨s[k],by simp [ByteArray.getElem_eq_getElem_data],by simp [hp]⟩
theorem drop_cons (s:aa) (k:Nat) (h:k<s.size):s.data.toList.drop k=s[k]::s.data.toList.drop (k+1):=by
 rw [List.drop_eq_getElem_cons (by simpa using h)];rfl
theorem dZ (s:aa):s.data.toList.drop s.size= []:=by
 rw [List.drop_eq_nil_iff,size_data];exact Nat.le_refl _
theorem Lm (s:aa) (k:Nat) (h:k<s.size) (hp:¬mR s[k].toNat):aV s=false:=by
 unfold aV;rw [jD s jS k h (by unfold jS;simpa using hp)];rfl
theorem DI (s:aa) (k:Nat) (h:k<s.size) (hi:(s.data.toList.take k).all jS=true) (hp:mR s[k].toNat):(s.data.toList.take (k+1)).all jS=true:=by
 rw [iY s jS k h,hi];unfold jS;simpa using hp
theorem aq {a b:Bool} (h:a=b):Ending.returned (.bool a)= .returned (.bool b):=by rw [h]
theorem f29 (s:aa) (w:World) (hs:s.size<=140737488351232):
 Calls Tryz.prog 29 #[.string s] w fun e w'=>(e= .returned (.bool (aV s)))/\w'=w:=by
 go_enter func29,ntmps29;go_wp2;go_loop [7] (fun i=>∃k:Nat,i= .int .i64 k/\k<=s.size/\(s.data.toList.take k).all jS=true) (fun i=>s.size - (intOf i).toNat)
 case atStart=>exact ⟨0,rfl,by omega,rfl⟩
 obtain ⟨k,rfl,hk,hi⟩:=hrel;have H:=Y0 hi;clear hi;go_wp2
 all_goals first
  | (have hk2:k=s.size:=by omega
     subst hk2;have hi:=H.out;rw [iZ] at hi;go_ret;refine ⟨aq ?_,rfl⟩;unfold aV;rw [hi];rw [Bool.eq_iff_iff];simp
     omega)
  | (have hlt:k<s.size:=by assumption
     go_ret;refine ⟨aq (Lm s k hlt ?_).symm,rfl⟩
     try simp only [bne_iff_ne,ne_eq] at*
     unfold mR
     omega)
  | (have hlt:k<s.size:=by assumption
     go_round
     case rel=>
      refine ⟨k+1,by go_num,by omega,DI s k hlt H.out ?_⟩
      try simp only [bne_eq_false_iff_eq,bne_iff_ne,ne_eq] at*
      unfold mR;omega
     simp [intOf];omega)
def begins (s h:aa):Bool:=decide (h.size<=s.size) && ((s.extract 0 h.size).toList==h.toList)
def ends (s h:aa):Bool:=decide (h.size<=s.size) && ((s.extract (s.size - h.size) s.size).toList==h.toList)
theorem f47 (s h:aa) (w:World) (hs:s.size<=140737488351232) (hh:h.size<=140737488351232+1):
 Calls Tryz.prog 47 #[.string s, .string h] w fun e w'=>(e= .returned (.bool (begins s h)))/\w'=w:=by
 go_enter func47,ntmps47;go_wp2
 all_goals
  go_ret;refine ⟨aq ?_,rfl⟩;unfold begins
  simp_all
  try (intro _;omega)
theorem f143 (s h:aa) (w:World) (hs:s.size<=140737488351232) (hh:h.size<=140737488351232):
 Calls Tryz.prog 143 #[.string s, .string h] w fun e w'=>(e= .returned (.bool (begins s h)))/\w'=w:=by
 go_enter func143,ntmps143;go_wp2
 all_goals
  go_ret;refine ⟨aq ?_,rfl⟩;unfold begins
  simp_all
  try (intro _;omega)
theorem f115 (s h:aa) (w:World) (hs:s.size<=140737488351232) (hh:h.size<=140737488351232):
 Calls Tryz.prog 115 #[.string s, .string h] w fun e w'=>(e= .returned (.bool (begins s h)))/\w'=w:=by
 go_enter func115,ntmps115;go_wp2_with (go_at_call 143;refine (f143 _ _ _ hs hh).mono ?_;rintro e w' ⟨rfl,rfl⟩);go_ret;exact ⟨rfl,rfl⟩
theorem f116 (s h:aa) (w:World) (hs:s.size<=140737488351232) (hh:h.size<=140737488351232):
 Calls Tryz.prog 116 #[.string s, .string h] w fun e w'=>(e= .returned (.bool (ends s h)))/\w'=w:=by
 go_enter func116,ntmps116;go_wp2
 all_goals
  go_ret;refine ⟨aq ?_,rfl⟩;unfold ends
  simp_all
  try (intro _;omega)
theorem f74 (s h:aa) (w:World) (hs:s.size<=140737488351232) (hh:h.size<=140737488351232):
 Calls Tryz.prog 74 #[.string s, .string h] w fun e w'=>(e= .returned (.bool (ends s h)))/\w'=w:=by
 go_enter func74,ntmps74;go_wp2_with (go_at_call 116;refine (f116 _ _ _ hs hh).mono ?_;rintro e w' ⟨rfl,rfl⟩);go_ret;exact ⟨rfl,rfl⟩
def aw (s:aa):aa × Bool:=if h:0<s.size then (if s[s.size - 1].toNat=42 then (s.extract 0 (s.size - 1),true) else (s,false)) else (s,false)
theorem f52 (s:aa) (w:World) (hs:s.size<=140737488351232):
 Calls Tryz.prog 52 #[.string s] w fun e w'=>(e= .returned (.tuple #[.string (aw s).1, .bool (aw s).2]))/\w'=w:=by
 unfold aw;by_cases h0:0<s.size
 · by_cases h1:s[s.size - 1].toNat=42
   · rw [dif_pos h0,if_pos h1];go_enter func52,ntmps52;go_wp2
     all_goals (go_ret2;exact ⟨rfl,rfl⟩)
   rw [dif_pos h0,if_neg h1];go_enter func52,ntmps52;go_wp2
   all_goals (go_ret2;exact ⟨rfl,rfl⟩)
 rw [dif_neg h0];go_enter func52,ntmps52;go_wp2
 all_goals (go_ret2;exact ⟨rfl,rfl⟩)
def inside (root path:aa):Bool:=(path.toList==root.toList)||begins path (root++⟨#[47]⟩)
theorem f53 (s h:aa) (w:World) (hs:s.size<=140737488351232) (hh:h.size<=140737488351232):
 Calls Tryz.prog 53 #[.string s, .string h] w fun e w'=>(e= .returned (.bool (inside s h)))/\w'=w:=by
 have hsz:(s++⟨#[47]⟩:aa).size<=140737488351232+1:=by rw [ByteArray.size_append];show s.size+1<=_;omega
 go_enter func53,ntmps53;go_wp2_with (go_at_call 47;refine (f47 _ _ _ hh hsz).mono ?_;rintro e w' ⟨rfl,rfl⟩)
 all_goals
  go_ret;refine ⟨aq ?_,rfl⟩;unfold inside
  simp_all
def cW:List UInt8->Bool
 | []=>true
 | c::r=>if c.toNat=47 then true else if c.toNat=46 then false else cW r
theorem qx (s:aa) (k:Nat) (h:k<s.size):cW (s.data.toList.drop k)=if s[k].toNat=47 then true else if s[k].toNat=46 then false else cW (s.data.toList.drop (k+1)):=by
 rw [drop_cons s k h];rfl
theorem f45 (s:aa) (w:World) (hs:s.size<=140737488351232):
 Calls Tryz.prog 45 #[.string s] w fun e w'=>(e= .returned (.bool (cW s.data.toList)))/\w'=w:=by
 go_enter func45,ntmps45;go_wp2;go_loop [6] (fun i=>∃k:Nat,i= .int .i64 k/\k<=s.size/\cW s.data.toList=cW (s.data.toList.drop k)) (fun i=>s.size - (intOf i).toNat)
 case atStart=>exact ⟨0,rfl,by omega,rfl⟩
 obtain ⟨k,rfl,hk,hi⟩:=hrel;have H:=Y0 hi;clear hi;go_wp2
 all_goals first
  | (have hlt:k<s.size:=by assumption
     have hst:=qx s k hlt;go_round
     case rel=>exact ⟨k+1,by go_num,by omega,by rw [H.out,hst,if_neg (by simp_all;omega),if_neg (by simp_all;omega)]⟩
     simp [intOf];omega)
  | (have hlt:k<s.size:=by assumption
     have hst:=qx s k hlt;go_ret;refine ⟨aq ?_,rfl⟩;rw [H.out,hst]
     simp_all
     try omega)
  | (have hk2:k=s.size:=by omega
     subst hk2;go_ret;refine ⟨aq ?_,rfl⟩;rw [H.out,dZ];rfl)
theorem f68 (s:aa) (w:World) (hs:s.size<=140737488351232):
 Calls Tryz.prog 68 #[.string s] w fun e w'=>(e= .returned (.bool (cW s.data.toList)))/\w'=w:=by
 go_enter func68,ntmps68;go_wp2;go_loop [3] (fun i=>∃k:Nat,i= .int .i64 k/\k<=s.size/\cW s.data.toList=cW (s.data.toList.drop k)) (fun i=>s.size - (intOf i).toNat)
 case atStart=>exact ⟨0,rfl,by omega,rfl⟩
 obtain ⟨k,rfl,hk,hi⟩:=hrel;have H:=Y0 hi;clear hi;by_cases hlt:k<s.size
 · have hst:=Y0 (qx s k hlt);by_cases h1:s[k].toNat=47
   · go_wp2;go_ret;refine ⟨aq ?_,rfl⟩;rw [H.out,hst.out,if_pos h1]
   by_cases h2:s[k].toNat=46
   · go_wp2;go_ret;refine ⟨aq ?_,rfl⟩;rw [H.out,hst.out,if_neg h1,if_pos h2]
   go_wp2;go_round
   case rel=>exact ⟨k+1,by go_num,by omega,by rw [H.out,hst.out,if_neg h1,if_neg h2]⟩
   simp [intOf];omega
 go_wp2;have hk2:k=s.size:=by omega
 subst hk2;go_ret;refine ⟨aq ?_,rfl⟩;rw [H.out,dZ];rfl
def dn (l:List UInt8):Bool:=l== [116,101,115,116,100,97,116,97]||(match l with|c::_=>c.toNat=46||c.toNat=95| []=>false)
def pI:List UInt8->List UInt8->Bool
 | [],cur=>dn cur
 | c::r,cur=>if c.toNat=47 then dn cur||pI r [] else pI r (cur++ [c])
def hidden (s:aa):Bool:=pI s.data.toList []
def dt:List UInt8->Option Nat
 | []=>none
 | c::r=>if c.toNat=47 then some 0 else (dt r).map (· +1)
def comm:List UInt8->List UInt8->Nat
 | a::x,b::y=>if a=b then comm x y+1 else 0
 | _,_=>0
theorem bW {k:IntKind} {a b:Int} (h:a=b):Ending.returned (.int k a)= .returned (.int k b):=by rw [h]
theorem yZ (s:aa) (k:Nat) (h:k<s.size):dt (s.data.toList.drop k)=if s[k].toNat=47 then some 0 else (dt (s.data.toList.drop (k+1))).map (· +1):=by
 rw [drop_cons s k h];rfl
def jE (s:aa):Int:=match dt s.data.toList with|some n=>(n:Int)|none=>-1
theorem Cc (s:aa) (k:Nat) (h:k<s.size):((s.extract k (k+1)).toList== [47])=decide (s[k].toNat=47):=by
 rw [ByteArray.toList_eq,Lib.extract_data,drop_cons s k h,show k+1 - k=1 by omega];rw [Bool.eq_iff_iff];simp;constructor
 · intro h;rw [h];rfl
 intro h;exact UInt8.toNat_inj.1 h
theorem qy (s:aa) (n:Nat) (h:dt s.data.toList=some n):jE s=n:=by unfold jE;rw [h]
theorem qz (s:aa) (h:dt s.data.toList=none):jE s=-1:=by unfold jE;rw [h]
theorem f129 (s:aa) (w:World) (hs:s.size<=140737488351232):
 Calls Tryz.prog 129 #[.string s, .string ⟨#[47]⟩] w fun e w'=>(e= .returned (.int .i64 (jE s)))/\w'=w:=by
 go_enter func129,ntmps129;go_wp2;go_loop [5] (fun i=>∃k:Nat,i= .int .i64 k/\k<=s.size/\dt s.data.toList=(dt (s.data.toList.drop k)).map (· +k)) (fun i=>s.size+1 - (intOf i).toNat)
 case atStart=>exact ⟨0,rfl,by omega,by simp⟩
 obtain ⟨k,rfl,hk,hi⟩:=hrel;have H:=Y0 hi;clear hi;by_cases hlt:k<s.size
 · have hst:=Y0 (yZ s k hlt);have ho:=Cc s k hlt;by_cases h1:s[k].toNat=47
   · rw [decide_eq_true h1] at ho;have H1:=Y0 h1;clear h1;go_wp2;go_ret;have:=H.out;rw [hst.out,if_pos H1.out] at this;exact ⟨bW (qy s k (by simpa using this)).symm,rfl⟩
   rw [decide_eq_false h1] at ho;have H1:=Y0 h1;clear h1;go_wp2;go_round
   case rel=>
    refine ⟨k+1,by go_num,by omega, ?_⟩;rw [H.out,hst.out,if_neg H1.out,Option.map_map];congr 1;funext x;simp;omega
   simp [intOf];omega
 go_wp2;have hk2:k=s.size:=by omega
 subst hk2;go_ret;have:=H.out;rw [dZ] at this;exact ⟨bW (qz s this).symm,rfl⟩
theorem Ce (s t:aa) (k:Nat) (h:k<s.size) (h':k<t.size):comm (s.data.toList.drop k) (t.data.toList.drop k)=if s[k]=t[k] then comm (s.data.toList.drop (k+1)) (t.data.toList.drop (k+1))+1 else 0:=by
 rw [drop_cons s k h,drop_cons t k h'];rfl
theorem DJ (x y:List UInt8) (h:x= []\/y= []):comm x y=0:=by
 rcases h with rfl|rfl
 · rfl
 cases x<;>rfl
theorem f118 (s t:aa) (w:World) (hs:s.size<=140737488351232) (ht:t.size<=140737488351232):
 Calls Tryz.prog 118 #[.string s, .string t] w fun e w'=>(e= .returned (.int .i64 (comm s.data.toList t.data.toList)))/\∃n,w'=w.drewN n:=by
 go_enter func118,ntmps118;go_wp2
 all_goals
  go_loopw [7] (fun i wr=>(∃k:Nat,i= .int .i64 k/\k<=s.size/\k<=t.size/\comm s.data.toList t.data.toList=comm (s.data.toList.drop k) (t.data.toList.drop k)+k)/\∃n,wr=w.drewN n) (fun i _=>s.size - (intOf i).toNat)
  case atStart=>exact ⟨⟨0,rfl,by omega,by omega,by simp⟩,⟨0,rfl⟩⟩
  case round=>
   obtain ⟨⟨k,rfl,hk,hk',hi⟩,n,rfl⟩:=hrel;have H:=Y0 hi;clear hi;by_cases hlt:k<s.size/\k<t.size
   · obtain ⟨lZ,hl2⟩:=hlt;have hst:=Y0 (Ce s t k lZ hl2);have N8:(k:Int)<(s.size:Int):=by omega
     have hl4:(k:Int)<(t.size:Int):=by omega
     go_wp2;go_quiet (fail);go_wp2
     · have hne:s[k]≠t[k]:=by
        intro e;have hb:((s[k].toNat:Int) !=(t[k].toNat:Int))=true:=by assumption
        rw [e] at hb;simp at hb
       go_ret;refine ⟨bW ?_,n+nq,by simp⟩;rw [H.out,hst.out,if_neg hne];simp
     have he:s[k]=t[k]:=by
      have hb:((s[k].toNat:Int) !=(t[k].toNat:Int))=false:=by assumption
      apply UInt8.toNat_inj.1;simp at hb;omega
     go_roundw
     case rel=>exact ⟨⟨k+1,by go_num,by omega,by omega,by rw [H.out,hst.out,if_pos he];omega⟩,_,rfl⟩
     simp [intOf];omega
   have hend:comm (s.data.toList.drop k) (t.data.toList.drop k)=0:=by
    apply DJ;rcases Nat.lt_or_ge k s.size with h|h
    · right;rw [List.drop_eq_nil_iff,size_data];omega
    left;rw [List.drop_eq_nil_iff,size_data];omega
   have HE:=Y0 hend;clear hend;go_wp2
   all_goals first
    | (exfalso;omega)
    | (go_ret
       refine ⟨bW ?_,_,rfl⟩;rw [H.out,HE.out];simp)
def qd (s p:aa):Bool:=begins s p && (decide (p.size=s.size)||jE (s.extract p.size s.size)==0)
theorem f108 (s p:aa) (w:World) (hs:s.size<=140737488351232) (hp:p.size<=140737488351232):
 Calls Tryz.prog 108 #[.string s, .string p] w fun e w'=>(e= .returned (.bool (qd s p)))/\w'=w:=by
 have hsz:(s.extract p.size s.size).size<=140737488351232:=by rw [ByteArray.size_extract];omega
 unfold qd;by_cases hb:begins s p=true
 · have hle:p.size<=s.size:=by
    unfold begins at hb;simp at hb;exact hb.1
   go_enter func108,ntmps108;go_wp2_with (first|(go_at_call 115;refine (f115 _ _ _ hs hp).mono ?_;rintro e w' ⟨rfl,rfl⟩)|(go_at_call 129;refine (f129 _ _ hsz).mono ?_;rintro e w' ⟨rfl,rfl⟩))
   all_goals
    go_ret;refine ⟨aq ?_,rfl⟩;rw [hb,Bool.true_and,Bool.eq_iff_iff];simp;omega
 have hb':begins s p=false:=by simpa using hb
 go_enter func108,ntmps108;go_wp2_with (first|(go_at_call 115;refine (f115 _ _ _ hs hp).mono ?_;rintro e w' ⟨rfl,rfl⟩))
 all_goals
  go_ret;refine ⟨aq ?_,rfl⟩
  simp_all
theorem qB (e:aa):((e.toList== [116,101,115,116,100,97,116,97])=true/\dn e.data.toList=true)\/
 ((e.toList== [116,101,115,116,100,97,116,97])=false/\e.toList= []/\dn e.data.toList=false)\/
 ∃h:0<e.size,(e.toList== [116,101,115,116,100,97,116,97])=false/\e.toList.isEmpty=false/\
  ((((e[0].toNat:Int)==46)=true/\dn e.data.toList=true)\/(((e[0].toNat:Int)==46)=false/\((e[0].toNat:Int)==95)=true/\dn e.data.toList=true)\/
   (((e[0].toNat:Int)==46)=false/\((e[0].toNat:Int)==95)=false/\dn e.data.toList=false)):=by
 rw [ByteArray.toList_eq];by_cases hT:e.data.toList= [116,101,115,116,100,97,116,97]
 · left;rw [hT];exact ⟨rfl,rfl⟩
 right;have hT':(e.data.toList== [116,101,115,116,100,97,116,97])=false:=by simpa using hT
 by_cases h:0<e.size
 · right;have hd:=drop_cons e 0 h;simp only [List.drop_zero] at hd;refine ⟨h,hT',by rw [hd];rfl, ?_⟩
   have hb:dn e.data.toList=(decide (e[0].toNat=46)||decide (e[0].toNat=95)):=by
    unfold dn;rw [hT',Bool.false_or,hd]
   rw [hb];by_cases h1:e[0].toNat=46
   · left;simp [h1]
   right;by_cases h2:e[0].toNat=95
   · left;simp [h2]
   right;simp [h1,h2];omega
 left;have:e.data.toList= []:=List.eq_nil_of_length_eq_zero (by rw [size_data];omega);rw [this];exact ⟨rfl,rfl,rfl⟩
theorem DK (s:aa) (fr k:Nat) (h1:fr<=k) (h:k<s.size):pI (s.data.toList.drop k) ((s.data.toList.drop fr).take (k - fr))=
 if s[k].toNat=47 then dn (s.extract fr k).data.toList||pI (s.data.toList.drop (k+1)) [] else pI (s.data.toList.drop (k+1)) ((s.data.toList.drop fr).take (k+1 - fr)):=by
 rw [drop_cons s k h,Lib.extract_data];simp only [pI];split
 · rfl
 congr 1;rw [show k+1 - fr=(k - fr)+1 by omega,List.take_succ_eq_append_getElem (by rw [List.length_drop,size_data];omega)];congr 2;simp [show fr+(k - fr)=k by omega];rfl
theorem He (s:aa) (fr:Nat):pI (s.data.toList.drop s.size) ((s.data.toList.drop fr).take (s.size - fr))=dn (s.extract fr s.size).data.toList:=by
 rw [dZ,Lib.extract_data];rfl
theorem f82 (s:aa) (w:World) (hs:s.size<=140737488351232):
 Calls Tryz.prog 82 #[.string s] w fun e w'=>(e= .returned (.bool (hidden s)))/\w'=w:=by
 go_enter func82,ntmps82;go_wp2;go_loop [3,4] (fun f i=>∃fr k:Nat,f= .int .i64 fr/\i= .int .i64 k/\((k<=s.size/\fr<=k/\hidden s=pI (s.data.toList.drop k) ((s.data.toList.drop fr).take (k - fr)))\/(k=s.size+1/\hidden s=false))) (fun _ i=>s.size+1 - (intOf i).toNat)
 case atStart=>exact ⟨0,0,rfl,rfl, .inl ⟨by omega,by omega,rfl⟩⟩
 obtain ⟨fr,k,rfl,rfl,hi⟩:=hrel;have H:=Y0 hi;clear hi;by_cases hlt:k<s.size
 · obtain ⟨h1,h2,h3⟩:=H.out.resolve_right (by omega);have H3:=Y0 h3;have Lp:=Y0 (DK s fr k h2 hlt);clear h3 H;have hlt':(k:Int)<(s.size:Int):=by omega
   by_cases hc:s[k].toNat=47
   · rcases qB (s.extract fr k) with ⟨g1,g2⟩|⟨g1,g3,g2⟩|⟨g0,g1,g3,⟨g4,g2⟩|⟨g4,g5,g2⟩|⟨g4,g5,g2⟩⟩
     all_goals
      have G:=Y0 g2;clear g2
     all_goals try (have gk:0<k - fr:=by rw [ByteArray.size_extract] at g0;omega)
     all_goals go_wp2
     all_goals first
      | (go_round
         case rel=>exact ⟨k+1,k+1,by go_num,by go_num, .inl ⟨by omega,by omega,by rw [H3.out,Lp.out,if_pos hc,G.out];simp⟩⟩
         simp [intOf];omega)
      | (go_ret
         refine ⟨aq ?_,rfl⟩;rw [H3.out,Lp.out,if_pos hc,G.out];rfl)
   go_wp2;go_round
   case rel=>exact ⟨fr,k+1,rfl,by go_num, .inl ⟨by omega,by omega,by rw [H3.out,Lp.out,if_neg hc]⟩⟩
   simp [intOf];omega
 by_cases hk:k=s.size
 · subst hk;obtain ⟨h1,h2,h3⟩:=H.out.resolve_right (by omega);have H3:=Y0 h3;have Lp:=Y0 (He s fr);clear h3 H;rcases qB (s.extract fr s.size) with ⟨g1,g2⟩|⟨g1,g3,g2⟩|⟨g0,g1,g3,⟨g4,g2⟩|⟨g4,g5,g2⟩|⟨g4,g5,g2⟩⟩
   all_goals
    have G:=Y0 g2;clear g2
   all_goals try (have gk:0<s.size - fr:=by rw [ByteArray.size_extract] at g0;omega)
   all_goals go_wp2
   all_goals first
    | (go_round
       case rel=>exact ⟨s.size+1,s.size+1,by go_num,by go_num, .inr ⟨rfl,by rw [H3.out,Lp.out,G.out]⟩⟩
       simp [intOf];omega)
    | (go_ret
       refine ⟨aq ?_,rfl⟩
       rw [H3.out,Lp.out,G.out];done)
    | (go_round;case rel=>refine ⟨s.size+1,s.size+1,by go_num,by go_num, .inr ⟨rfl, ?_⟩⟩;rw [H3.out];rw [Lp.out];rw [G.out]
       case measure=>simp [intOf])
 obtain ⟨rfl,h2⟩:=H.out.resolve_left (by omega);have H2:=Y0 h2;clear h2 H hk;go_wp2;go_ret;exact ⟨aq H2.out.symm,rfl⟩
structure VD where
 kind:Int
 text:aa
 rev:aa
def VD.val (v:VD):Value:= .agg #[.int .i64 v.kind, .string v.text, .string v.rev]
def fY (v:VD):Bool:=decide (¬v.text=ByteArray.empty/\v.text.size<=30/\v.rev.size<=30/\0<=v.kind/\v.kind<=3/\(v.kind=0↔v.rev=ByteArray.empty))
theorem fP (s:aa):s.toList.isEmpty=decide (s=ByteArray.empty):=by
 rw [ByteArray.toList_eq,Bool.eq_iff_iff];simp only [List.isEmpty_iff,decide_eq_true_eq];constructor
 · intro h;obtain ⟨⟨l⟩⟩:=s;simp at h;subst h;rfl
 intro h;rw [h];rfl
theorem f30 (v:VD) (w:World) (hs:v.text.size<=140737488351232) (hr:v.rev.size<=140737488351232):
 Calls Tryz.prog 30 #[v.val] w fun e w'=>e= .returned (.bool (fY v))/\Below w.heap.size w w':=by
 obtain ⟨k,t,r⟩:=v;unfold VD.val;simp only at hs hr ⊢;go_enter func30,ntmps30;go_wp2
 all_goals
  go_ret;refine ⟨aq ?_,(Below.refl _ _).alloc (Nat.le_refl _) _⟩;unfold fY
  try rw [fP]
  rw [Bool.eq_iff_iff];by_cases hk:k=0<;>by_cases hr2:r=ByteArray.empty<;>simp_all<;>(first|omega|(intros;omega))
theorem toList_inj {x s:aa}:x.toList=s.toList↔x=s:=by
 rw [ByteArray.toList_eq,ByteArray.toList_eq];constructor
 · intro h;obtain ⟨⟨l⟩⟩:=x;obtain ⟨⟨m⟩⟩:=s;simp at h;rw [h]
 intro h;rw [h]
theorem bS {x s:aa}:(x.toList==s.toList)=decide (x=s):=by
 rw [Bool.eq_iff_iff];simp [toList_inj]
def fQ (l:List aa) (s:aa):Bool:=l.any fun x=>decide (x=s)
theorem fC {l:List aa} {s:aa}:fQ l s=true↔s∈l:=by
 unfold fQ;simp
theorem qC {α:Type} (l:List α) (p:α->Bool) (k:Nat) (h:k<l.length):(l.drop k).any p=(p l[k]||(l.drop (k+1)).any p):=by
 rw [List.drop_eq_getElem_cons h];rfl
theorem vS {α:Type} (l:List α) (p:α->Bool) (k:Nat) (h:k<l.length):(l.drop k).all p=(p l[k] && (l.drop (k+1)).all p):=by
 rw [List.drop_eq_getElem_cons h];rfl
theorem f42 {F:Nat->Prop} (v:Value) (xs:List aa) (s:aa) (w:World) (hR:bK F w v xs):
 Calls Tryz.prog 42 #[v, .string s] w fun e w'=>(e= .returned (.bool (fQ xs s)))/\w'=w:=by
 obtain ⟨A,cap,rfl⟩:=hR.form;obtain ⟨-,hb1,hb2⟩:=hR.bound;go_enter func42,ntmps42;go_wp2;go_loop [9] (fun i=>∃k:Nat,i= .int .i64 k/\k<=xs.length/\fQ xs s=fQ (xs.drop k) s) (fun i=>xs.length - (intOf i).toNat)
 case atStart=>exact ⟨0,rfl,by omega,rfl⟩
 obtain ⟨k,rfl,hk,hi⟩:=hrel;have H:=Y0 hi;clear hi;by_cases hlt:k<xs.length
 · obtain ⟨g,off,rfl,hF,hg,hc⟩:=hR.at1 hlt;have hst:=Y0 (qC xs (fun x=>decide (x=s)) k hlt);by_cases he:xs[k]=s
   · have hq:(xs[k].toList==s.toList)=true:=by rw [bS];simpa using he
     have HE:=Y0 he;clear he;go_wp2;go_ret;refine ⟨aq ?_,rfl⟩;rw [H.out,fQ,hst.out,HE.out];simp
   have hq:(xs[k].toList==s.toList)=false:=by rw [bS];simpa using he
   have HE:=Y0 he;clear he;go_wp2;go_round
   case rel=>exact ⟨k+1,by go_num,by omega,by rw [H.out,fQ,hst.out];simp [HE.out,fQ]⟩
   simp [intOf];omega
 go_wp2;have hk2:k=xs.length:=by omega
 subst hk2;go_ret;refine ⟨aq ?_,rfl⟩;rw [H.out];simp [fQ]
theorem f19 {F:Nat->Prop} (v:Value) (xs:List aa) (s:aa) (w:World) (hR:bK F w v xs):
 Calls Tryz.prog 19 #[v, .string s] w fun e w'=>(e= .returned (.bool (fQ xs s)))/\w'=w:=by
 go_enter func19,ntmps19;go_wp2_with (go_at_call 42;refine (f42 _ _ _ _ hR).mono ?_;rintro e w' ⟨rfl,rfl⟩);go_ret;exact ⟨rfl,rfl⟩
def cr (l:List aa) (most:Int):Bool:=l.all aV && decide ((l.length:Int)<=most)
theorem f8 {F:Nat->Prop} (v:Value) (xs:List aa) (most:Int) (w:World) (hR:bK F w v xs) (hs:∀x∈xs,x.size<=140737488351232):
 Calls Tryz.prog 8 #[v, .int .i64 most] w fun e w'=>(e= .returned (.bool (cr xs most)))/\w'=w:=by
 obtain ⟨A,cap,rfl⟩:=hR.form;obtain ⟨-,hb1,hb2⟩:=hR.bound;go_enter func8,ntmps8;go_wp2;go_loop [9] (fun i=>∃k:Nat,i= .int .i64 k/\k<=xs.length/\xs.all aV=(xs.drop k).all aV) (fun i=>xs.length - (intOf i).toNat)
 case atStart=>exact ⟨0,rfl,by omega,rfl⟩
 obtain ⟨k,rfl,hk,hi⟩:=hrel;have H:=Y0 hi;clear hi;by_cases hlt:k<xs.length
 · obtain ⟨g,off,rfl,hF,hg,hc⟩:=hR.at1 hlt;have hst:=Y0 (vS xs aV k hlt);have hsz:=hs xs[k] (List.getElem_mem _);have HS:=Y0 hs;clear hs;cases hp:aV xs[k]
   · go_wp2_with (go_at_call 29;refine (f29 _ _ hsz).mono ?_;rintro e w' ⟨rfl,rfl⟩);go_ret;refine ⟨aq ?_,rfl⟩;rw [cr,H.out,hst.out,hp];rfl
   go_wp2_with (go_at_call 29;refine (f29 _ _ hsz).mono ?_;rintro e w' ⟨rfl,rfl⟩);go_round
   case rel=>exact ⟨k+1,by go_num,by omega,by rw [H.out,hst.out,hp];rfl⟩
   simp [intOf];omega
 have HS:=Y0 hs;clear hs;go_wp2;have hk2:k=xs.length:=by omega
 subst hk2;go_ret;refine ⟨aq ?_,rfl⟩;rw [cr,H.out];simp
theorem eA:(Tryz.prog.info? 9).map (fun i=>(i.zero,i.size,i.bytes))=some (some (.string ⟨#[]⟩),aD.sz,16):=by kernel_rfl
def qD (a b:aa):Bool:=Op.bytesLess a.toList b.toList
def bf:List aa->aa->List aa
 | [],s=> [s]
 | x::r,s=>if x=s then x::r else if qD x s then x::bf r s else s::x::r
theorem dF (l:List aa) (s:aa):(bf l s).length<=l.length+1:=by
 induction l with
 | nil=>simp [bf]
 | cons x r ih=>
   simp only [bf];split
   · simp
   split
   · simpa using ih
   simp
theorem DL (xs:List aa) (s:aa) (k:Nat) (h:k<xs.length):bf (xs.drop k) s=if xs[k]=s then xs.drop k else if qD xs[k] s then xs[k]::bf (xs.drop (k+1)) s else s::xs.drop k:=by
 rw [List.drop_eq_getElem_cons h];simp only [bf]
theorem JT {w w1 w2:World} (h:Below w.heap.size w w1) (k:Below w.heap.size w1 w2):Below w.heap.size w w2:=h.trans k
theorem f46 {F:Nat->Prop} (v:Value) (xs:List aa) (s:aa) (w:World) (hR:bK F w v xs) (hF:∀b,F b->b<w.heap.size) (hl:xs.length<=1000000000000):
 Calls Tryz.prog 46 #[v, .string s] w fun e w'=>∃v',e= .returned v'/\bK F w' v' (bf xs s)/\Below w.heap.size w w':=by
 obtain ⟨A,cap,rfl⟩:=hR.form;obtain ⟨-,hb1,hb2⟩:=hR.bound;have HF:=Y0 hF;clear hF;go_enter func46,ntmps46;go_wp2;go_loop [10] (fun i=>∃k:Nat,i= .int .i64 k/\k<=xs.length/\bf xs s=xs.take k++bf (xs.drop k) s) (fun i=>xs.length - (intOf i).toNat)
 case atStart=>exact ⟨0,rfl,by omega,rfl⟩
 obtain ⟨k,rfl,hk,hi⟩:=hrel;have H:=Y0 hi;clear hi;by_cases hlt:k<xs.length
 · obtain ⟨g,off,rfl,hFg,hg,hc⟩:=hR.at1 hlt;have hst:=Y0 (DL xs s k hlt);by_cases he:xs[k]=s
   · have hq:(xs[k].toList==s.toList)=true:=by rw [bS];simpa using he
     have HE:=Y0 he;clear he;go_wp2;go_ret;refine ⟨_,rfl, ?_,Below.refl _ _⟩;rw [H.out,hst.out,if_pos HE.out,List.take_append_drop];exact hR
   have hq:(xs[k].toList==s.toList)=false:=by rw [bS];simpa using he
   have HE:=Y0 he;clear he;cases se:qD xs[k] s
   · have hq2:Op.bytesLess xs[k].toList s.toList=false:=se;have H2:=Y0 se;clear se;have hkc:¬cap=k:=by omega
     have Cf:Own aD w.heap.size 9 (fun b=>F b\/b=w.heap.size) (w.alloc (.cells #[] 9)) (.slice (some ⟨w.heap.size,0,none⟩) 0 0) ([]:List aa):=Own.fresh aD 9 F w (Nat.le_refl _);have Va:=(hR.step (dw.alloc w (.cells #[] 9))).take k (by omega);have hlen:(xs.take k).length=k:=by simp;omega
     have HL:=Y0 hlen;clear hlen;go_wp2_with (at_builtin;refine aH rfl _ _ 22 rfl aD 9 (.string ⟨#[]⟩) 16 underlying22 eA rfl (by decide) rfl rfl Cf Va (by rw [HL.out];simp [maxLen];omega) (by rw [HL.out];simp;omega) (by simp) (List.nil_append _) k HL.out ?_;intro A1 c1 w1 F1 Pe hS1 az _);have Cg:=(dw.alloc (F:=F) w (.cells #[] 9)).trans hS1;have kv:=Y0 (Cg.lt HF.out);have hsz1:w.heap.size<=w1.heap.size:=Cg.size;have fZ:Below w1.heap.size w1 (w1.alloc (.cells #[.string s] 9)).drew:=((Below.refl _ _).alloc (Nat.le_refl _) _).drew;have hE:bK F1 (w1.alloc (.cells #[.string s] 9)).drew (.slice (some ⟨w1.heap.size,0,none⟩) 1 1) [s]:=(Rd.one (d:=aD) (e:=9) (cs:= #[.string s]) rfl kv.out).pure (Below.refl _ _).drew;have Lq:=Pe.pure fZ;have hRd:=((hR.step Cg).pure fZ).drop1 k (by omega);have sO:(xs.take k++ [s]).length=k+1:=by simp;omega
     have N9:=Y0 sO;clear sO
     go_region_law (first
      | (refine fg rfl _ _ 22 rfl aD 9 (.string ⟨#[]⟩) 16 underlying22 eA rfl (by decide) rfl rfl Lq hE (by rw [HL.out];simp [maxLen];omega) (by rw [HL.out];simp;omega) (by simp;omega) rfl (k+1) N9.out ?_;intro A2 c2 w2 F2 ja ji cZ _)
      | (refine fg rfl _ _ 22 rfl aD 9 (.string ⟨#[]⟩) 16 underlying22 eA rfl (by decide) rfl rfl ja (hRd.step ji) (by rw [N9.out];simp [maxLen];omega) (by rw [N9.out];simp;omega) (by have:=ji.size;simp at this;omega) rfl (xs.length+1) (by rw [List.length_append,N9.out];simp;omega) ?_;intro A3 c3 w3 F3 mI iT bb _))
     go_wp2;go_ret;have Ls:Below w.heap.size w (w.alloc (.cells #[] 9)):=(Below.refl _ _).alloc (Nat.le_refl _) _;have Lt:Below w.heap.size w1 (w1.alloc (.cells #[.string s] 9)).drew:=fZ.mono hsz1;refine ⟨.slice A3 (xs.length+1) c3,rfl, ?_,(((Ls.trans az).trans Lt).trans cZ).trans bb⟩;rw [H.out,hst.out,if_neg HE.out,H2.out];simp only [Bool.false_eq_true,if_false];have:=mI.rd (F0:=F) HF.out (fun b hb=>iT.grow b (ji.grow b (hS1.grow b (.inl hb)))) (by decide);simpa using this
   have hq2:Op.bytesLess xs[k].toList s.toList=true:=se;have H2:=Y0 se;clear se;go_wp2;go_round
   case rel=>
    refine ⟨k+1,by go_num,by omega, ?_⟩;rw [H.out,hst.out,if_neg HE.out,if_pos H2.out,List.take_succ_eq_append_getElem hlt,List.append_assoc];rfl
   simp [intOf];omega
 have hk2:k=xs.length:=by omega
 subst hk2;have Cf:Own aD w.heap.size 9 (fun b=>F b\/b=w.heap.size) (w.alloc (.cells #[] 9)) (.slice (some ⟨w.heap.size,0,none⟩) 0 0) ([]:List aa):=Own.fresh aD 9 F w (Nat.le_refl _);have Va:=hR.step (dw.alloc w (.cells #[] 9))
 go_wp2_with (first
  | (at_builtin;refine aH (o:=⟨some 38,_,_,_,_,_⟩) rfl _ _ 22 rfl aD 9 (.string ⟨#[]⟩) 16 underlying22 eA rfl (by decide) rfl rfl Cf Va (by simp [maxLen];omega) (by simp;omega) (by simp) (List.nil_append _) xs.length rfl ?_;intro A1 c1 w1 F1 Pe hS1 az _
     have Cg:=(dw.alloc (F:=F) w (.cells #[] 9)).trans hS1;have kv:=Y0 (Cg.lt HF.out);have hsz1:w.heap.size<=w1.heap.size:=Cg.size;have fZ:Below w1.heap.size w1 (w1.alloc (.cells #[.string s] 9)):=(Below.refl _ _).alloc (Nat.le_refl _) _;have hE:bK F1 (w1.alloc (.cells #[.string s] 9)) (.slice (some ⟨w1.heap.size,0,none⟩) 1 1) [s]:=Rd.one (d:=aD) (e:=9) (cs:= #[.string s]) rfl kv.out
     have Lq:=Pe.pure fZ)
  | (at_builtin;refine aH (o:=⟨some 41,_,_,_,_,_⟩) rfl _ _ 22 rfl aD 9 (.string ⟨#[]⟩) 16 underlying22 eA rfl (by decide) rfl rfl Lq hE (by simp [maxLen];omega) (by simp;omega) (by simp;omega) rfl (xs.length+1) (by simp) ?_;intro A2 c2 w2 F2 ja ji cZ _))
 go_ret;have Ls:Below w.heap.size w (w.alloc (.cells #[] 9)):=(Below.refl _ _).alloc (Nat.le_refl _) _;have Lt:Below w.heap.size w1 (w1.alloc (.cells #[.string s] 9)):=fZ.mono hsz1;refine ⟨.slice A2 (xs.length+1) c2,rfl, ?_,((Ls.trans az).trans Lt).trans cZ⟩;have:=ja.rd (F0:=F) HF.out (fun b hb=>ji.grow b (hS1.grow b (.inl hb))) (by decide);rw [H.out];simpa [bf] using this
def eu (l:List aa):List aa:=l.foldl bf []
theorem gV {α β:Type} (f:β->α->β) (b:β) (xs:List α) (k:Nat) (h:k<xs.length):(xs.take (k+1)).foldl f b=f ((xs.take k).foldl f b) xs[k]:=by
 rw [List.take_succ_eq_append_getElem h,List.foldl_append];rfl
theorem eB (l:List aa) (b:List aa):(l.foldl bf b).length<=b.length+l.length:=by
 induction l generalizing b with
 | nil=>simp
 | cons x r ih=>
   have h1:=ih (bf b x);have h2:=dF b x;simp only [List.foldl_cons,List.length_cons];omega
theorem take_len {α:Type} {xs:List α} {k:Nat}:(xs.take k).length<=k:=List.length_take_le _ _
theorem f21 {F:Nat->Prop} (v:Value) (xs:List aa) (w:World) (hR:bK F w v xs) (hF:∀b,F b->b<w.heap.size) (hl:xs.length<=1000000000000):
 Calls Tryz.prog 21 #[v] w fun e w'=>∃v',e= .returned v'/\bK F w' v' (eu xs)/\Below w.heap.size w w':=by
 obtain ⟨A,cap,rfl⟩:=hR.form;obtain ⟨-,hb1,hb2⟩:=hR.bound;have HF:=Y0 hF;clear hF;go_enter func21,ntmps21;go_wp2;go_loopw [3,8] (fun v i wr=>∃k:Nat,i= .int .i64 k/\k<=xs.length/\bK F wr v ((xs.take k).foldl bf [])/\Below w.heap.size w wr) (fun _ i _=>xs.length - (intOf i).toNat)
 case atStart=>exact ⟨0,rfl,by omega,Rd.nil _ _ _ _ _ (by simp [maxLen]),Below.refl _ _⟩
 obtain ⟨k,rfl,hk,hv,hB⟩:=hrel;by_cases hlt:k<xs.length
 · have bO:=hR.pure hB;obtain ⟨g,off,rfl,hFg,hg,hc⟩:=bO.at1 hlt;have hlen:=Nat.le_trans (eB (xs.take k) []) (by simpa using take_len);have JU:Hid (∀b,F b->b<wr.heap.size):=Y0 fun b hb=>Nat.lt_of_lt_of_le (HF.out b hb) hB.size
   go_wp2_with (go_at_call 46;refine (f46 _ _ _ _ hv JU.out (by omega)).mono ?_;rintro e w1 ⟨v1,rfl,hv1,az⟩);go_roundw
   case rel=>exact ⟨k+1,by go_num,by omega,by rw [gV _ _ _ _ hlt];exact hv1,hB.trans (az.mono hB.size)⟩
   simp [intOf];omega
 go_wp2;have hk2:k=xs.length:=by omega
 subst hk2;go_ret;rw [List.take_length] at hv;exact ⟨_,rfl,hv,hB⟩
def fM (a b:List aa):List aa:=a.foldl (fun l s=>if fQ b s then l else bf l s) []
theorem vT (a b:List aa):∀l,(a.foldl (fun l s=>if fQ b s then l else bf l s) l).length<=l.length+a.length:=by
 induction a with
 | nil=>simp
 | cons x r ih=>
   intro l;simp only [List.foldl_cons,List.length_cons];split
   · have:=ih l;omega
   have:=ih (bf l x);have:=dF l x;omega
theorem f20 {F:Nat->Prop} (v u:Value) (xs ys:List aa) (w:World) (hR:bK F w v xs) (hY:bK F w u ys) (hF:∀b,F b->b<w.heap.size) (hl:xs.length<=1000000000000):
 Calls Tryz.prog 20 #[v,u] w fun e w'=>∃v',e= .returned v'/\bK F w' v' (fM xs ys)/\Below w.heap.size w w':=by
 obtain ⟨A,cap,rfl⟩:=hR.form;obtain ⟨-,hb1,hb2⟩:=hR.bound;have HF:=Y0 hF;clear hF;go_enter func20,ntmps20;go_wp2;go_loopw [5,10] (fun v i wr=>∃k:Nat,i= .int .i64 k/\k<=xs.length/\bK F wr v ((xs.take k).foldl (fun l s=>if fQ ys s then l else bf l s) [])/\Below w.heap.size w wr) (fun _ i _=>xs.length - (intOf i).toNat)
 case atStart=>exact ⟨0,rfl,by omega,Rd.nil _ _ _ _ _ (by simp [maxLen]),Below.refl _ _⟩
 obtain ⟨k,rfl,hk,hv,hB⟩:=hrel;by_cases hlt:k<xs.length
 · have bO:=hR.pure hB;have ZN:=hY.pure hB;obtain ⟨g,off,rfl,hFg,hg,hc⟩:=bO.at1 hlt;have hlen:=Nat.le_trans (vT (xs.take k) ys []) (by simpa using take_len);have JU:Hid (∀b,F b->b<wr.heap.size):=Y0 fun b hb=>Nat.lt_of_lt_of_le (HF.out b hb) hB.size
   have hst:=Y0 (gV (fun l s=>if fQ ys s then l else bf l s) [] xs k hlt);cases hm:fQ ys xs[k]
   · go_wp2_with (first|(go_at_call 42;refine (f42 _ _ _ _ ZN).mono ?_;rintro e w1 ⟨rfl,rfl⟩)|(go_at_call 46;refine (f46 _ _ _ _ hv JU.out (by omega)).mono ?_;rintro e w1 ⟨v1,rfl,hv1,az⟩));go_roundw
     case rel=>exact ⟨k+1,by go_num,by omega,by rw [hst.out,hm];exact hv1,hB.trans (az.mono hB.size)⟩
     simp [intOf];omega
   go_wp2_with (first|(go_at_call 42;refine (f42 _ _ _ _ ZN).mono ?_;rintro e w1 ⟨rfl,rfl⟩));go_roundw
   case rel=>exact ⟨k+1,by go_num,by omega,by rw [hst.out,hm];exact hv,hB⟩
   simp [intOf];omega
 go_wp2;have hk2:k=xs.length:=by omega
 subst hk2;go_ret;rw [List.take_length] at hv;exact ⟨_,rfl,hv,hB⟩
theorem f38 {F:Nat->Prop} (v:Value) (xs:List aa) (w:World) (hR:bK F w v xs) (hF:∀b,F b->b<w.heap.size) (hl:xs.length<=1000000000000):
 Calls Tryz.prog 38 #[v] w fun e w'=>∃v' F',e= .returned v'/\Own aD w.heap.size 9 F' w' v' xs/\dw F w F' w'/\Below w.heap.size w w':=by
 obtain ⟨A,cap,rfl⟩:=hR.form;obtain ⟨-,hb1,hb2⟩:=hR.bound;have Cf:Own aD w.heap.size 9 F w (.slice none 0 0) ([]:List aa):=Own.nil _ _ _ _ _;have HF:=Y0 hF;clear hF;go_enter func38,ntmps38;go_wp2_with (at_builtin;refine aH rfl _ _ 22 rfl aD 9 (.string ⟨#[]⟩) 16 underlying22 eA rfl (by decide) rfl rfl Cf hR (by simp [maxLen];omega) (by simp;omega) (Nat.le_refl _) (List.nil_append _) xs.length rfl ?_;intro A1 c1 w1 F1 Pe hS1 az _);go_ret;exact ⟨_,F1,rfl,Pe,hS1,az⟩
theorem jb {F:Nat->Prop} (v:Value) (xs:List aa) (w:World) (hR:bK F w v xs) (hF:∀b,F b->b<w.heap.size) (hl:xs.length<=1000000000000):
 Calls Tryz.prog 38 #[v] w fun e w'=>∃v',e= .returned v'/\bK F w' v' xs/\Below w.heap.size w w':=
 (f38 v xs w hR hF hl).mono fun e w' ⟨v',F',he,hO,hS,hB⟩=>⟨v',he,hO.rd hF hS.grow (by decide),hB⟩
def longest (roots:List aa) (s:aa):aa:=roots.foldl (fun gH r=>if begins s r && decide (gH.size<r.size) then r else gH) ⟨#[]⟩
def qE (roots imports:List aa):List aa:=imports.foldl (fun l s=>if longest roots s=ByteArray.empty then l else bf l (longest roots s)) []
theorem tX (roots a:List aa):∀l,(a.foldl (fun l s=>if longest roots s=ByteArray.empty then l else bf l (longest roots s)) l).length<=l.length+a.length:=by
 induction a with
 | nil=>simp
 | cons x r ih=>
   intro l;simp only [List.foldl_cons,List.length_cons];split
   · have:=ih l;omega
   have:=ih (bf l (longest roots x));have:=dF l (longest roots x);omega
theorem Hj (roots:List aa) (s:aa) (B:Nat) (h:∀x∈roots,x.size<=B):∀b:aa,b.size<=B->(roots.foldl (fun gH r=>if begins s r && decide (gH.size<r.size) then r else gH) b).size<=B:=by
 induction roots with
 | nil=>intro b hb;exact hb
 | cons r l ih=>
   intro b hb;simp only [List.foldl_cons];apply ih (fun x hx=>h x (.tail _ hx));split
   · exact h r (.head _)
   exact hb
theorem f15 {F:Nat->Prop} (v u:Value) (roots xs:List aa) (w:World) (hV:bK F w v roots) (hR:bK F w u xs) (hF:∀b,F b->b<w.heap.size) (hl:xs.length<=1000000000000)
 (hs:∀x∈xs,x.size<=140737488351232) (hr:∀x∈roots,x.size<=140737488351232):
 Calls Tryz.prog 15 #[v,u] w fun e w'=>∃v',e= .returned v'/\bK F w' v' (qE roots xs)/\Below w.heap.size w w':=by
 obtain ⟨A,cap,rfl⟩:=hR.form;obtain ⟨-,hb1,hb2⟩:=hR.bound;obtain ⟨A',cap',rfl⟩:=hV.form;obtain ⟨-,hb3,hb4⟩:=hV.bound;have HF:=Y0 hF;have HS:=Y0 hs;have HR:=Y0 hr;clear hF hs hr;go_enter func15,ntmps15;go_wp2;go_loopw [5,13] (fun v i wr=>∃k:Nat,i= .int .i64 k/\k<=xs.length/\bK F wr v ((xs.take k).foldl (fun l s=>if longest roots s=ByteArray.empty then l else bf l (longest roots s)) [])/\Below w.heap.size w wr) (fun _ i _=>xs.length - (intOf i).toNat)
 case atStart=>exact ⟨0,rfl,by omega,Rd.nil _ _ _ _ _ (by simp [maxLen]),Below.refl _ _⟩
 obtain ⟨k,rfl,hk,hv,hB⟩:=hrel;by_cases hlt:k<xs.length
 · have bO:=hR.pure hB;have hV2:=hV.pure hB;obtain ⟨g,off,rfl,hFg,hg,hc⟩:=bO.at1 hlt;have hlen:=Nat.le_trans (tX roots (xs.take k) []) (by simpa using take_len);have JU:Hid (∀b,F b->b<wr.heap.size):=Y0 fun b hb=>Nat.lt_of_lt_of_le (HF.out b hb) hB.size
   have hst:=Y0 (gV (fun l s=>if longest roots s=ByteArray.empty then l else bf l (longest roots s)) [] xs k hlt);have hsk:Hid (xs[k].size<=140737488351232):=Y0 (HS.out _ (List.getElem_mem _));obtain ⟨x,hx⟩:∃x,x=xs[k]:=⟨_,rfl⟩;rw [<-hx] at hc hst hsk;have HX:=Y0 hx;clear hx;obtain ⟨wo,hwo⟩:∃wo:World,wo=wr:=⟨_,rfl⟩;go_wp2;go_loop [8,19] (fun b j=>∃q:Nat,j= .int .i64 q/\q<=roots.length/\b= .string ((roots.take q).foldl (fun gH r=>if begins x r && decide (gH.size<r.size) then r else gH) ⟨#[]⟩)) (fun _ j=>roots.length - (intOf j).toNat)
   case atStart=>exact ⟨0,rfl,by omega,rfl⟩
   obtain ⟨q,rfl,hq,rfl⟩:=hrel;by_cases Tz:q<roots.length
   · obtain ⟨g',off',rfl,aac,hg',hc'⟩:=hV2.at1 Tz;have kx:=Y0 (gV (fun gH r=>if begins x r && decide (gH.size<r.size) then r else gH) (⟨#[]⟩:aa) roots q Tz);have Oa:Hid (roots[q].size<=140737488351232+1):=Y0 (by have:=HR.out _ (List.getElem_mem Tz);omega);generalize JV:(roots.take q).foldl (fun gH r=>if begins x r && decide (gH.size<r.size) then r else gH) (⟨#[]⟩:aa)=gH at kx ⊢;have ZO:=Y0 JV;clear JV;cases hbg:begins x roots[q]
     · go_wp2_with (go_at_call 47;refine (f47 _ _ _ hsk.out Oa.out).mono ?_;rintro e w1 ⟨rfl,rfl⟩);go_round
       case rel=>exact ⟨q+1,by go_num,by omega,by rw [kx.out,hbg];rfl⟩
       simp [intOf];omega
     by_cases hsz:gH.size<roots[q].size
     · go_wp2_with (go_at_call 47;refine (f47 _ _ _ hsk.out Oa.out).mono ?_;rintro e w1 ⟨rfl,rfl⟩);go_round
       case rel=>exact ⟨q+1,by go_num,by omega,by rw [kx.out,hbg,decide_eq_true hsz];rfl⟩
       simp [intOf];omega
     go_wp2_with (go_at_call 47;refine (f47 _ _ _ hsk.out Oa.out).mono ?_;rintro e w1 ⟨rfl,rfl⟩);go_round
     case rel=>exact ⟨q+1,by go_num,by omega,by rw [kx.out,hbg,decide_eq_false hsz];rfl⟩
     simp [intOf];omega
   have hq2:q=roots.length:=by omega
   subst hq2;have ZP:(roots.take roots.length).foldl (fun gH r=>if begins x r && decide (gH.size<r.size) then r else gH) (⟨#[]⟩:aa)=longest roots x:=by rw [List.take_length];rfl
   rw [ZP];clear ZP;by_cases he:longest roots x=ByteArray.empty
   · have hE:(longest roots x).toList.isEmpty=true:=by rw [fP];simpa using he
     have HE:=Y0 he;clear he;go_wp2;go_roundw
     case rel=>exact ⟨k+1,by go_num,by omega,by rw [hst.out,if_pos HE.out];exact hv,hB⟩
     simp [intOf];omega
   have hE:(longest roots x).toList.isEmpty=false:=by rw [fP];simpa using he
   have HE:=Y0 he;clear he;go_wp2_with (go_at_call 46;refine (f46 _ _ _ _ hv JU.out (by omega)).mono ?_;rintro e w1 ⟨v1,rfl,hv1,az⟩);go_roundw
   case rel=>exact ⟨k+1,by go_num,by omega,by rw [hst.out,if_neg HE.out];exact hv1,hB.trans (az.mono hB.size)⟩
   simp [intOf];omega
 go_wp2;have hk2:k=xs.length:=by omega
 subst hk2;go_ret;rw [List.take_length] at hv;exact ⟨_,rfl,hv,hB⟩
def fh:List UInt8->List UInt8->List (List UInt8)
 | [],cur=> [cur]
 | c::r,cur=>if c.toNat=47 then cur::fh r [] else fh r (cur++ [c])
theorem Ch (l cur:List UInt8):pI l cur=(fh l cur).any dn:=by
 induction l generalizing cur with
 | nil=>simp [pI,fh]
 | cons c r ih=>
   simp only [pI,fh];split
   · rw [List.any_cons,ih]
   exact ih _
theorem za (l cur:List UInt8) (h:dt l=none):fh l cur= [cur++l]:=by
 induction l generalizing cur with
 | nil=>simp [fh]
 | cons c r ih=>
   simp only [dt] at h;split at h
   · cases h
   rename_i hc;simp only [fh,if_neg hc];rw [ih _ (by simpa using h)];simp
theorem qF (l cur:List UInt8) (n:Nat) (h:dt l=some n):fh l cur=(cur++l.take n)::fh (l.drop (n+1)) []/\n<l.length:=by
 induction l generalizing cur n with
 | nil=>simp [dt] at h
 | cons c r ih=>
   simp only [dt] at h;split at h
   · rename_i hc;injection h with h
     subst h;simp [fh,hc]
   rename_i hc
   cases hr:dt r with
   | none=>rw [hr] at h;cases h
   | some m=>
     rw [hr] at h;simp at h;subst h;obtain ⟨h1,h2⟩:=ih (cur++ [c]) m hr;simp only [fh,if_neg hc];rw [h1];simp;exact h2
def JW:Value->Nat
 | .string s=>s.size
 | _=>0
theorem DM (s:aa) (n:Nat) (h:dt s.data.toList=some n):n<s.size:=by
 have:=(qF _ [] n h).2
 rwa [size_data] at this
theorem f138 {F:Nat->Prop} (s:aa) (w:World) (hs:s.size<=1000000) (hF:∀b,F b->b<w.heap.size):
 Calls Tryz.prog 138 #[.string s, .string ⟨#[47]⟩] w fun e w'=>∃v' L,e= .returned v'/\bK F w' v' L/\L.map (fun x=>x.data.toList)=fh s.data.toList []/\(∀x∈L,x.size<=1000000)/\Below w.heap.size w w':=by
 have HF:=Y0 hF;clear hF;go_enter func138,ntmps138;go_wp2
 go_loopw [0,5] (fun t v wr=>∃(r:aa) (acc:List aa) (F':Nat->Prop),t= .string r/\r.size+acc.length<=s.size/\(∀x∈acc,x.size<=1000000)/\acc.map (fun x=>x.data.toList)++fh r.data.toList []=fh s.data.toList []/\
  Own aD w.heap.size 9 F' wr v acc/\dw F w F' wr/\Below w.heap.size w wr) (fun t _ _=>JW t)
 case atStart=>exact ⟨s, [],F,rfl,by simp,by simp,rfl,Own.nil _ _ _ _ _,dw.refl _ _,Below.refl _ _⟩
 obtain ⟨r,acc,F',rfl,hsz,hacc,hsp,hO,hS,hB⟩:=hrel;have HA:=Y0 hacc;have HS:=Y0 hsp;clear hacc hsp;obtain ⟨A0,c0,rfl⟩:=hO.form;have hrs:Hid (r.size<=140737488351232):=Y0 (by omega);have Lu:=Y0 (hS.lt HF.out)
 cases hsl:dt r.data.toList with
 | none=>
   have hV:jE r=-1:=qz r hsl;have Vb:=Y0 hsl;clear hsl;have fZ:Below wr.heap.size wr (wr.alloc (.cells #[.string r] 9)):=(Below.refl _ _).alloc (Nat.le_refl _) _;have hE:bK F' (wr.alloc (.cells #[.string r] 9)) (.slice (some ⟨wr.heap.size,0,none⟩) 1 1) [r]:=Rd.one (d:=aD) (e:=9) (cs:= #[.string r]) rfl Lu.out;have GF:=hO.pure fZ;have hws:w.heap.size<=wr.heap.size:=hB.size
   go_wp2_with (first
    | (go_at_call 129;refine (f129 _ _ hrs.out).mono ?_;rw [hV];rintro e w1 ⟨rfl,rfl⟩)
    | (at_builtin;refine aH rfl _ _ 22 rfl aD 9 (.string ⟨#[]⟩) 16 underlying22 eA rfl (by decide) rfl rfl GF hE (by simp [maxLen];omega) (by simp;omega) (by simp;omega) rfl (acc.length+1) (by simp) ?_;intro A2 c2 w2 F2 ja ji cZ _))
   go_ret;refine ⟨_,acc++ [r],rfl,ja.rd (F0:=F) HF.out (fun b hb=>ji.grow b (hS.grow b hb)) (by decide), ?_, ?_,(hB.trans (fZ.mono hws)).trans cZ⟩
   · rw [<-HS.out,za _ _ Vb.out];simp
   intro x hx;rcases List.mem_append.1 hx with hx|hx
   · exact HA.out x hx
   simp at hx;subst hx;omega
 | some n=>
   have hV:jE r=n:=qy r n hsl;have hn:=DM r n hsl;obtain ⟨Pf,_⟩:=qF _ [] n hsl;have HP:=Y0 Pf;clear Pf hsl;have fZ:Below wr.heap.size wr (wr.alloc (.cells #[.string (r.extract 0 n)] 9)):=(Below.refl _ _).alloc (Nat.le_refl _) _;have hE:bK F' (wr.alloc (.cells #[.string (r.extract 0 n)] 9)) (.slice (some ⟨wr.heap.size,0,none⟩) 1 1) [r.extract 0 n]:=Rd.one (d:=aD) (e:=9) (cs:= #[.string (r.extract 0 n)]) rfl Lu.out;have GF:=hO.pure fZ;have hws:w.heap.size<=wr.heap.size:=hB.size
   go_wp2_with (first
    | (go_at_call 129;refine (f129 _ _ hrs.out).mono ?_;rw [hV];rintro e w1 ⟨rfl,rfl⟩)
    | (at_builtin;refine aH rfl _ _ 22 rfl aD 9 (.string ⟨#[]⟩) 16 underlying22 eA rfl (by decide) rfl rfl GF hE (by simp [maxLen];omega) (by simp;omega) (by simp;omega) rfl (acc.length+1) (by simp) ?_;intro A2 c2 w2 F2 ja ji cZ _))
   go_roundw
   case rel=>
    refine ⟨r.extract (n+1) r.size,acc++ [r.extract 0 n],F2,rfl, ?_, ?_, ?_,ja,(hS.trans (dw.pure fZ)).trans ji,(hB.trans (fZ.mono hws)).trans cZ⟩
    · rw [ByteArray.size_extract];simp;omega
    · intro x hx;rcases List.mem_append.1 hx with hx|hx
      · exact HA.out x hx
      simp at hx;subst hx;rw [ByteArray.size_extract];omega
    rw [<-HS.out,HP.out,Lib.extract_to_end];simp [Lib.extract_data]
   simp [JW,ByteArray.size_extract];omega
theorem DN (b:UInt8):(⟨#[b]⟩:aa).size=1:=rfl
theorem AV (e:aa) (b:UInt8):begins e ⟨#[b]⟩=(match e.data.toList with|c::_=>decide (c=b)| []=>false):=by
 unfold begins;rw [ByteArray.toList_eq,ByteArray.toList_eq,Lib.extract_data];have hsz:=size_data e;show (decide (1<=e.size) && (List.take 1 (List.drop 0 e.data.toList)== [b]))=_
 cases hl:e.data.toList with
 | nil=>
   rw [hl] at hsz;simp at hsz
   simp [<-hsz]
 | cons c r=>
   rw [hl] at hsz;simp at hsz;have:1<=e.size:=by omega
   simp [this];rw [Bool.eq_iff_iff];simp
theorem bad_eq (e:aa):dn e.data.toList=((begins e ⟨#[46]⟩||begins e ⟨#[95]⟩)||(e.toList== [116,101,115,116,100,97,116,97])):=by
 rw [AV,AV,ByteArray.toList_eq];unfold dn;rw [Bool.or_comm];congr 1
 cases e.data.toList with
 | nil=>rfl
 | cons c r=>
   simp only [<-UInt8.toNat_inj];rfl
theorem f110 (s:aa) (w:World) (hs:s.size<=1000000):
 Calls Tryz.prog 110 #[.string s] w fun e w'=>e= .returned (.bool (!hidden s))/\Below w.heap.size w w':=by
 go_enter func110,ntmps110;go_wp2_with (go_at_call 138;refine (f138 (F:=fun _=>False) _ _ hs (fun _ h=>h.elim)).mono ?_;rintro e w1 ⟨v1,L,rfl,hR,hL,hx,hB⟩;obtain ⟨A,cap,rfl⟩:=hR.form);obtain ⟨-,hb1,hb2⟩:=hR.bound;have HL:=Y0 hL;have HX:=Y0 hx;clear hL hx;go_loop [8] (fun i=>∃k:Nat,i= .int .i64 k/\k<=L.length/\L.any (fun x=>dn x.data.toList)=(L.drop k).any (fun x=>dn x.data.toList)) (fun i=>L.length - (intOf i).toNat)
 case atStart=>exact ⟨0,rfl,by omega,rfl⟩
 obtain ⟨k,rfl,hk,hi⟩:=hrel;have H:=Y0 hi;clear hi
 have hh:hidden s=L.any (fun x=>dn x.data.toList):=by
  unfold hidden;rw [Ch,<-HL.out,List.any_map];rfl
 have HH:=Y0 hh;clear hh;by_cases hlt:k<L.length
 · obtain ⟨g,off,rfl,hFg,hg,hc⟩:=hR.at1 hlt;have hsz:Hid (L[k].size<=140737488351232):=Y0 (by have:=HX.out _ (List.getElem_mem hlt);omega);have hst:=Y0 (qC L (fun x=>dn x.data.toList) k hlt);have vU:=Y0 (bad_eq L[k]);have h1:Hid ((⟨#[46]⟩:aa).size<=140737488351232):=Y0 (by rw [DN];omega);have h2:Hid ((⟨#[95]⟩:aa).size<=140737488351232):=Y0 (by rw [DN];omega);cases e1:begins L[k] ⟨#[46]⟩<;>cases e2:begins L[k] ⟨#[95]⟩<;>cases e3:(L[k].toList== [116,101,115,116,100,97,116,97])
   all_goals
    go_wp2_with (go_at_call 115;refine (f115 _ _ _ hsz.out (by rw [DN];omega)).mono ?_;rintro e w2 ⟨rfl,rfl⟩)
    first
     | (go_round
        case rel=>exact ⟨k+1,by go_num,by omega,by rw [H.out,hst.out,vU.out,e1,e2,e3];rfl⟩
        simp [intOf];omega)
     | (go_ret
        refine ⟨aq ?_,hB⟩;rw [HH.out,H.out,hst.out,vU.out,e1,e2,e3];rfl)
 go_wp2;have hk2:k=L.length:=by omega
 subst hk2;go_ret;refine ⟨aq ?_,hB⟩;rw [HH.out,H.out];simp
end Go.Proofs.YtjenhelmpcajfaaGreatDoor
